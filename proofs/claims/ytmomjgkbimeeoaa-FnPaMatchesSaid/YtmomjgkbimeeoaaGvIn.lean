/- json-patch: values as plain data handed on (paIn). -/
import Derived.Test.YtmomjgkbimeeoaaGvNb
namespace Go.Proofs.Ytmomjgkbimeeoaa.G
set_option linter.unusedVariables false
set_option linter.unusedSimpArgs false
open Go.RowKit Go.Proofs.YtmomjgkbimeeoaaW.PrintWords

/-- How great a value's parts are. -/
def Ro1 (t : ByteArray) (ks : List ByteArray) (n : Nat) : Prop := n * 72 ≤ 140737488351232 ∧ ks.length * 16 ≤ 140737488351232 ∧ t.size ≤ 140737488351232 ∧ ∀ x ∈ ks, x.size ≤ 140737488351232
mutual
def Ro : Nd → Prop
  | .mk k t ks kids => Ro1 t ks kids.length ∧ Ros kids
def Ros : List Nd → Prop
  | [] => True
  | a :: r => Ro a ∧ Ros r
end
theorem ros_iff : ∀ {l : List Nd}, Ros l ↔ ∀ a ∈ l, Ro a
  | [] => by simp [Ros]
  | a :: r => by simp [Ros, ros_iff (l := r)]
theorem alloc3 (w : World) (o1 o2 o3 : Obj) : (((w.alloc o1).alloc o2).alloc o3).heap[w.heap.size]? = some o1 ∧ (((w.alloc o1).alloc o2).alloc o3).heap[w.heap.size + 1]? = some o2 ∧ (((w.alloc o1).alloc o2).alloc o3).heap[w.heap.size + 1 + 1]? = some o3 ∧ Below w.heap.size w (((w.alloc o1).alloc o2).alloc o3) := by
  have s1 : (w.alloc o1).heap.size = w.heap.size + 1 := World.size_alloc _ _
  have s2 : ((w.alloc o1).alloc o2).heap.size = w.heap.size + 1 + 1 := by rw [World.size_alloc, s1]
  have e1 := heap_alloc_new w o1
  have e2 := heap_alloc_new (w.alloc o1) o2
  have e3 := heap_alloc_new ((w.alloc o1).alloc o2) o3
  rw [s1] at e2
  rw [s2] at e3
  refine ⟨?_, ?_, e3, ?_⟩
  · rw [Below.heap_alloc _ _ _ (by omega), Below.heap_alloc _ _ _ (by omega)]; exact e1
  · rw [Below.heap_alloc _ _ _ (by omega)]; exact e2
  · exact ((below_alloc1 o1).alloc (by omega) o2).alloc (by omega) o3
theorem nd_cells {w : World} {h T : Nat} {c0 c1 c2 c3 : Value} (hb : w.heap[h]? = some (.cells #[c0, c1, c2, c3] T)) : w.cell? ⟨h, 0, none⟩ = some c0 ∧ w.cell? ⟨h, 1, none⟩ = some c1 ∧ w.cell? ⟨h, 2, none⟩ = some c2 ∧ w.cell? ⟨h, 3, none⟩ = some c3 ∧ ∀ j, w.frozen? ⟨h, j, none⟩ = false :=
  ⟨blk_cell hb rfl, blk_cell hb rfl, blk_cell hb rfl, blk_cell hb rfl, fun j => blk_froz hb⟩
theorem nd_ret {fn : Func} {tmps : Array Value} {W : World} {hh : Nat} {c0 c1 c2 c3 : Value} (hfn : fn.results = #[.cell 2 33]) (h2 : tmps.getD 2 undef = .pointer (some ⟨hh, 0, none⟩)) (hg : W.heap[hh]? = some (.cells #[c0, c1, c2, c3] 33)) :
    (results fn tmps).run Try.prog W = .ok (.agg #[c0, c1, c2, c3]) W := by
  exact results_cell_row hfn tmps W hh 33 #[c0, c1, c2, c3] (0, 0) _ h2 hg Try.underlying33 rfl (by kernel_rfl)
def NdA (B : Nat) (n : Nd) (w : World) (e : Ending) (w' : World) : Prop :=
  ∃ k t kA kn kc nA nn nc, e = .returned (.agg #[.int .i64 k, .string t, .slice kA kn kc, .slice nA nn nc]) ∧ Below w.heap.size w w' ∧ Aside0 (NdAt w' (fun g => g < B ∨ w.heap.size ≤ g) n [.int .i64 k, .string t, .slice kA kn kc, .slice nA nn nc])
theorem one4 (k : Int) (t : ByteArray) (kA : Option Addr) (kn kc : Nat) (nA : Option Addr) (nn nc : Nat) : ∀ u ∈ [Value.int .i64 k, .string t, .slice kA kn kc, .slice nA nn nc], u.oneCell' = true := fun u hu => by
  simp only [List.mem_cons, List.not_mem_nil, or_false] at hu
  rcases hu with rfl | rfl | rfl | rfl <;> rfl
set_option maxHeartbeats 16000000 in
set_option maxRecDepth 100000 in
theorem paIn_calls (N : Nat) : ∀ (n : Nd), n.sz ≤ N → Ro n → ∀ (B : Nat) (c0 c1 c2 c3 : Value) (w : World), B ≤ w.heap.size → NdAt w (fun g => g < B) n [c0, c1, c2, c3] →
    Calls Try.prog 15 #[.agg #[c0, c1, c2, c3]] w (NdA B n w) := by
  induction N with
  | zero => intro n hn; cases n; simp [Nd.sz] at hn
  | succ N IH =>
    rintro ⟨k, t, ks, kids⟩ hn hro B c0 c1 c2 c3 w hB hat
    obtain ⟨kA, kc, nA, nc, hcs, hkc, hnc, hkeys, hks, hkids⟩ := hat.open
    simp only [List.cons.injEq, and_true] at hcs
    obtain ⟨rfl, rfl, rfl, rfl⟩ := hcs
    have hro2 := hro
    unfold Ro at hro2
    have IHk : ∀ i (hi : i < kids.length), ∀ (c0 c1 c2 c3 : Value) (W : World), B ≤ W.heap.size → NdAt W (fun g => g < B) kids[i] [c0, c1, c2, c3] → Calls Try.prog 15 #[.agg #[c0, c1, c2, c3]] W (NdA B kids[i] W) := fun i hi c0 c1 c2 c3 W hW hAt =>
      IH kids[i] (by have := Nd.sz_kid (k := k) (t := t) (ks := ks) (List.getElem_mem hi); omega) (ros_iff.1 hro2.2 _ (List.getElem_mem hi)) B c0 c1 c2 c3 W hW hAt
    have HI := Aside0.mk IHk
    have hkb : kids.length ≤ 140737488351232 := by have := hro2.1.1; omega
    have HR := Aside0.mk hro2.1
    have HB := Aside0.mk hB
    have HK := Aside0.mk hkids
    have HS := Aside0.mk hkeys
    clear hat hkids hro hro2 IHk IH hks hkeys hn
    go_enter Try.func15, Try.ntmps15
    go_wp2_with fail
    go_loopw [16] (fun v16 wr => ∃ (i : Nat) (nA' : Option Addr) (nc' : Nat), v16 = .int .i64 (i : Int) ∧ i ≤ kids.length ∧ Aside0 (NB w wr B (w.heap.size + 3) (w.heap.size + 1 + 1) 33 k t ks kA ks.length kc nA' i nc' (kids.take i)) ∧ Aside0 (ZB wr (w.heap.size + 1) 33)) (fun v16 _ => kids.length - (intOf v16).toNat)
    case atStart =>
      obtain ⟨e1, e2, e3, hb⟩ := alloc3 w (.cells #[.int .i64 k, .string t, .slice kA ks.length kc, .slice nA kids.length nc] 25) (.cells #[.int .i64 0, .string { data := #[] }, .slice none 0 0, .slice none 0 0] 33) (.cells #[.int .i64 k, .string t, .slice kA ks.length kc, .slice none 0 0] 33)
      exact ⟨0, none, 0, rfl, Nat.zero_le _, ⟨NB.start e3 ((HS.out.kept hb.size (fun g hg _ => hb.block g hg)).mono (fun g _ hg => .inl hg)) hb (by omega) (by omega) HB.out (by simp [World.size_alloc])⟩, ⟨e2⟩⟩
    case round =>
      obtain ⟨i, nA', nc', rfl, hi, hNB, hRB⟩ := hrel
      obtain ⟨b0, b1, b2, b3, bf⟩ := hNB.out.cells
      by_cases hlt : i < kids.length
      · obtain ⟨g, o, k', t', kA2, kn2, kc2, nA2, nn2, nc2, rfl, hgB, hgl, hkat, z0, z1, z2, z3⟩ := HK.out i hlt
        rw [← hNB.out.below.cell (p := ⟨g, o + i * 4, none⟩) hgl] at z0
        rw [← hNB.out.below.cell (p := ⟨g, o + i * 4 + 1, none⟩) hgl] at z1
        rw [← hNB.out.below.cell (p := ⟨g, o + i * 4 + 2, none⟩) hgl] at z2
        rw [← hNB.out.below.cell (p := ⟨g, o + i * 4 + 3, none⟩) hgl] at z3
        have HKA := Aside0.mk hkat
        clear hkat
        go_upto_region 5 with fail
        have hV := below_alloc1 (w := wr) (.cells #[.int .i64 k', .string t', .slice kA2 kn2 kc2, .slice nA2 nn2 nc2] 25)
        have hz := heap_alloc_new wr (.cells #[.int .i64 k', .string t', .slice kA2 kn2 kc2, .slice nA2 nn2 nc2] 25)
        generalize (wr.alloc (.cells #[.int .i64 k', .string t', .slice kA2 kn2 kc2, .slice nA2 nn2 nc2] 25)) = V at hV hz ⊢
        have N1 := Aside0.mk (hNB.out.next hV)
        have HRV := Aside0.mk (hRB.out.next hV)
        obtain ⟨xs, hx1, hx2⟩ := N1.out.row
        have HX2 := Aside0.mk hx2
        have HX1 := Aside0.mk hx1
        have HN : Aside0 ((i + 1) * 72 ≤ 140737488351232 ∧ i + 1 ≤ 140737488351232) := ⟨by have := HR.out.1; omega⟩
        obtain ⟨y0, y1, y2, y3, yf⟩ := nd_cells hz
        obtain ⟨d0, d1, d2, d3, df⟩ := N1.out.cells
        have HC := Aside0.mk (HI.out i hlt (.int .i64 k') (.string t') (.slice kA2 kn2 kc2) (.slice nA2 nn2 nc2) V.drew (by have h1 := HB.out; have h2 := N1.out.below.size; show B ≤ V.heap.size; omega) (NdAt.below (NdAt.below HKA.out hNB.out.below |>.below hV) ((Below.refl _ _).drew)))
        clear hV hz hx1 hx2 z0 z1 z2 z3 b0 b1 b2 b3 bf
        unfold NdA at HC
        go_region_law (first
          | (refine app_step rfl (.tmp 21) (.tmp 24) 31 33 4 72 _ rfl Try.underlying31 ndInfo47 rfl (by decide) (xs := xs) (cells := [.int .i64 k3, .string t3, .slice kA3 kn3 kc3, .slice nA3 nn3 nc3]) HO1 HBW rfl (one4 _ _ _ _ _ _ _ _) HN rfl _ rfl rfl ?_; intro g2 cap2 w2 hown2 hgr2 hat2; obtain ⟨m3, mf⟩ := N2.out.box hgr2.out)
          | (go_simp; go_at_call 15; refine HC.out.mono ?_; rintro e w1 ⟨k3, t3, kA3, kn3, kc3, nA3, nn3, nc3, rfl, hb1, hA1⟩; have N2 := Aside0.mk (N1.out.next (below_step ((Below.refl _ _).drew) hb1)); have HO1 := Aside0.mk (own_kept HX1.out (fun g hg _ => hb1.block g hg)); have HBW := Aside0.mk N2.out.hLs; obtain ⟨q0, q1, q2, q3, qf⟩ := N2.out.cells; obtain ⟨p0, p1, p2, p3, pf⟩ := (N2.out.next (below_alloc1 (.cells #[.int .i64 k3, .string t3, .slice kA3 kn3 kc3, .slice nA3 nn3 nc3] 33))).cells))
        all_goals go_wp2_with fail
        all_goals
          go_roundw
          case rel =>
            have hb2 : Below V.heap.size V w1 := below_step ((Below.refl _ _).drew) hb1
            refine ⟨i + 1, some ⟨g2, 0, none⟩, cap2, by go_num, by omega, ⟨?_⟩, ⟨(HRV.out.next hb2).more hgr2.out (N1.out.apart (by omega)) (by omega)⟩⟩
            rw [List.take_succ_eq_append_getElem hlt]
            exact NB.more N1.out hb2 hA1.out HX2.out hown2.out hgr2.out hat2.out
          case measure => simp [intOf]; omega
      · obtain rfl : i = kids.length := by omega
        obtain ⟨r0, r1, r2, r3, rf⟩ := nd_cells hRB.out
        go_wp2_with fail
        have e0 := res_put (j := 0) (v := .int .i64 k) hRB.out rfl
        have e1 := res_put (j := 1) (v := .string t) e0 rfl
        have e2 := res_put (j := 2) (v := .slice kA ks.length kc) e1 rfl
        have e3 := res_put (j := 3) (v := .slice nA' kids.length nc') e2 rfl
        refine bodyPost_ret (nd_ret rfl rfl e3) rfl ?_
        rw [List.take_length] at hNB
        refine ⟨_, _, _, _, _, _, _, _, rfl, ?_, ⟨?_⟩⟩
        · have := hNB.out.below
          exact (((this.setCell (Nat.le_succ _) _).setCell (Nat.le_succ _) _).setCell (Nat.le_succ _) _).setCell (Nat.le_succ _) _
        · refine hNB.out.fin (by simp [World.setCell]) (fun g hg hF => ?_) rfl
          have hne : g ≠ w.heap.size + 1 := by have := HB.out; omega
          rw [Below.heap_setCell _ _ _ _ hne, Below.heap_setCell _ _ _ _ hne, Below.heap_setCell _ _ _ _ hne, Below.heap_setCell _ _ _ _ hne]
end Go.Proofs.Ytmomjgkbimeeoaa.G
