/- json-patch: a value handed back (paOut); where what comes in lies between two bounds. -/
import Derived.Test.YtmomjgkbimeeoaaDoorGvOu
namespace Go.Proofs.YtmomjgkbimeeoaaDoor.G
set_option linter.unusedVariables false
set_option linter.unusedSimpArgs false
open Go.RowKit Go.Proofs.YtmomjgkbimeeoaaDoorW.PrintWords

/-- A value being built in block hh (type T): its keys are read elsewhere, its kids' row is the call's own. Blocks below B: what came in; from L on: what the loop has made. -/
structure NC (w wr : World) (A B L hh T : Nat) (k : Int) (t : ByteArray) (ks : List ByteArray) (kA : Option Addr) (kn kc : Nat) (nA : Option Addr) (n nc : Nat) (done : List Nd) : Prop where
  len : done.length = n
  blk : wr.heap[hh]? = some (.cells #[.int .i64 k, .string t, .slice kA kn kc, .slice nA n nc] T)
  row : ∃ xs, wr.ownsRow L T 4 (.slice nA n nc) n xs ∧ NdsAt wr (fun g => ((A ≤ g ∧ g < B) ∨ L ≤ g) ∧ some g ≠ (Value.slice nA n nc).ownBlock) done xs
  keys : Sl wr (fun g => ((A ≤ g ∧ g < B) ∨ L ≤ g) ∧ some g ≠ (Value.slice nA n nc).ownBlock) 1 (.slice kA kn kc) ks.length (ks.map Value.string)
  below : Below w.heap.size w wr
  hle : w.heap.size ≤ hh
  hL : hh < L
  hB : B ≤ w.heap.size
  hLs : L ≤ wr.heap.size
section
variable {w wr w1 w2 : World} {A B L hh T : Nat} {k : Int} {t : ByteArray} {ks : List ByteArray} {kA : Option Addr} {kn kc : Nat} {nA : Option Addr} {n nc : Nat} {done : List Nd}
theorem NC.lt (h : NC w wr A B L hh T k t ks kA kn kc nA n nc done) : hh < wr.heap.size := (Array.getElem?_eq_some_iff.1 h.blk).1
theorem NC.low (h : NC w wr A B L hh T k t ks kA kn kc nA n nc done) (g : Nat) (e : (Value.slice nA n nc).ownBlock = some g) : L ≤ g ∧ g < wr.heap.size := by
  obtain ⟨xs, h1, h2⟩ := h.row
  exact h1.lt g e
theorem NC.apart (h : NC w wr A B L hh T k t ks kA kn kc nA n nc done) {j : Nat} (hj : j < L) : (Value.slice nA n nc).ownBlock ≠ some j := fun e => by have := (h.low j e).1; omega
theorem NC.cells (h : NC w wr A B L hh T k t ks kA kn kc nA n nc done) :
    wr.cell? ⟨hh, 0, none⟩ = some (.int .i64 k) ∧ wr.cell? ⟨hh, 1, none⟩ = some (.string t) ∧ wr.cell? ⟨hh, 2, none⟩ = some (.slice kA kn kc) ∧ wr.cell? ⟨hh, 3, none⟩ = some (.slice nA n nc) ∧ ∀ j, wr.frozen? ⟨hh, j, none⟩ = false :=
  ⟨blk_cell h.blk rfl, blk_cell h.blk rfl, blk_cell h.blk rfl, blk_cell h.blk rfl, fun j => blk_froz h.blk⟩
/-- Nothing that was there turns. -/
theorem NC.next (h : NC w wr A B L hh T k t ks kA kn kc nA n nc done) (hb : Below wr.heap.size wr w1) : NC w w1 A B L hh T k t ks kA kn kc nA n nc done := by
  obtain ⟨xs, h1, h2⟩ := h.row
  exact ⟨h.len, (hb.block _ h.lt).trans h.blk, ⟨xs, own_kept h1 (fun g hg _ => hb.block g hg), NdsAt.kept hb.size (fun g hg _ => hb.block g hg) h2⟩, h.keys.kept hb.size (fun g hg _ => hb.block g hg), below_step h.below hb, h.hle, h.hL, h.hB, Nat.le_trans h.hLs hb.size⟩
theorem NC.start {W : World} (hblk : W.heap[hh]? = some (.cells #[.int .i64 k, .string t, .slice kA kn kc, .slice none 0 0] T))
    (hk : Sl W (fun g => (A ≤ g ∧ g < B) ∨ L ≤ g) 1 (.slice kA kn kc) ks.length (ks.map Value.string)) (hb : Below w.heap.size w W) (hle : w.heap.size ≤ hh) (hL : hh < L) (hB : B ≤ w.heap.size) (hLs : L ≤ W.heap.size) : NC w W A B L hh T k t ks kA kn kc none 0 0 [] :=
  ⟨rfl, hblk, ⟨[], World.ownsRow_nil _ _ _ _, by unfold NdsAt; rfl⟩, hk.mono fun g _ hg => ⟨hg, fun e => by cases e⟩, hb, hle, hL, hB, hLs⟩
/-- The box stands while the row is appended to. -/
theorem NC.box (h : NC w wr A B L hh T k t ks kA kn kc nA n nc done) (hg : wr.grownBy w2 (Value.slice nA n nc).ownBlock) :
    w2.cell? ⟨hh, 3, none⟩ = some (.slice nA n nc) ∧ ∀ j, w2.frozen? ⟨hh, j, none⟩ = false := by
  have hb : w2.heap[hh]? = some (.cells #[.int .i64 k, .string t, .slice kA kn kc, .slice nA n nc] T) := by
    rw [hg.block hh h.lt (fun e => h.apart h.hL e.symm)]; exact h.blk
  exact ⟨blk_cell hb rfl, fun j => blk_froz hb⟩
/-- One more kid. -/
theorem NC.more {kid : Nd} {cs xs : List Value} {g cap : Nat}
    (h : NC w wr A B L hh T k t ks kA kn kc nA n nc done) (hb : Below wr.heap.size wr w1) (hk : NdAt w1 (fun g => (A ≤ g ∧ g < B) ∨ wr.heap.size ≤ g) kid cs)
    (hxs : NdsAt wr (fun g => ((A ≤ g ∧ g < B) ∨ L ≤ g) ∧ some g ≠ (Value.slice nA n nc).ownBlock) done xs)
    (hown : w2.ownsRow L T 4 (.slice (some ⟨g, 0, none⟩) (n + 1) cap) (n + 1) (xs ++ cs)) (hg : w1.grownBy w2 (Value.slice nA n nc).ownBlock) (hat : (Value.slice nA n nc).ownBlock = some g ∨ w1.heap.size < g) :
    NC w (w2.setCell ⟨hh, 3, none⟩ (.slice (some ⟨g, 0, none⟩) (n + 1) cap)) A B L hh T k t ks kA kn kc (some ⟨g, 0, none⟩) (n + 1) cap (done ++ [kid]) := by
  have hsz := hb.size
  have hlt := h.lt
  have hlow := h.low
  have hB := h.hB
  have hle := h.hle
  have hL := h.hL
  have hLs := h.hLs
  have hws := h.below.size
  have hgs := hg.size
  have hgL : L ≤ g := by
    rcases hat with e | e
    · exact (hlow g e).1
    · omega
  -- what was there and is neither the row nor the box
  have hkeep : ∀ j, j < w1.heap.size → j ≠ hh → some j ≠ (Value.slice nA n nc).ownBlock → (w2.setCell ⟨hh, 3, none⟩ (.slice (some ⟨g, 0, none⟩) (n + 1) cap)).heap[j]? = w1.heap[j]? := fun j hj h1 h2 => by
    rw [Below.heap_setCell _ _ _ _ h1]
    exact hg.block j hj h2
  have hkeep0 : ∀ j, j < wr.heap.size → j ≠ hh → some j ≠ (Value.slice nA n nc).ownBlock → (w2.setCell ⟨hh, 3, none⟩ (.slice (some ⟨g, 0, none⟩) (n + 1) cap)).heap[j]? = wr.heap[j]? := fun j hj h1 h2 => by
    rw [hkeep j (by omega) h1 h2]; exact hb.block j hj
  have hss : (w2.setCell ⟨hh, 3, none⟩ (.slice (some ⟨g, 0, none⟩) (n + 1) cap)).heap.size = w2.heap.size := by simp [World.setCell]
  have hnew : ∀ j, (((A ≤ j ∧ j < B) ∨ L ≤ j) ∧ some j ≠ (Value.slice nA n nc).ownBlock) ∧ j < wr.heap.size → ((A ≤ j ∧ j < B) ∨ L ≤ j) ∧ some j ≠ (Value.slice (some ⟨g, 0, none⟩) (n + 1) cap).ownBlock := fun j hj => by
    refine ⟨hj.1.1, fun e => ?_⟩
    have e2 : j = g := by simpa [Value.ownBlock] using e
    rcases hat with e3 | e3
    · exact hj.1.2 (by rw [e3, e2])
    · have := hj.2; omega
  have hblk2 : w2.heap[hh]? = some (.cells #[.int .i64 k, .string t, .slice kA kn kc, .slice nA n nc] T) := by
    rw [hg.block hh (by omega) (fun e => h.apart hL e.symm), hb.block hh hlt]; exact h.blk
  refine ⟨by rw [List.length_append, List.length_singleton, h.len], ?_, ⟨xs ++ cs, ?_, ?_⟩, ?_, ?_, hle, hL, hB, by rw [hss]; omega⟩
  · exact res_put hblk2 rfl
  · refine own_kept hown fun j hj e => Below.heap_setCell _ _ _ _ ?_
    have : j = g := by simpa [Value.ownBlock] using e.symm
    show j ≠ hh
    omega
  · refine NdsAt.snoc ?_ ?_
    · have b1 := NdsAt.mono (G := fun j => (((A ≤ j ∧ j < B) ∨ L ≤ j) ∧ some j ≠ (Value.slice nA n nc).ownBlock) ∧ j < wr.heap.size) (fun j hj hF => ⟨hF, hj⟩) hxs
      have b2 := NdsAt.kept (w' := w2.setCell ⟨hh, 3, none⟩ (.slice (some ⟨g, 0, none⟩) (n + 1) cap)) (by rw [hss]; omega) (fun j hj hF => hkeep0 j hj (by omega) hF.1.2) b1
      exact NdsAt.mono (fun j _ hj => hnew j hj) b2
    · have b1 := NdAt.mono (G := fun j => ((A ≤ j ∧ j < B) ∨ wr.heap.size ≤ j) ∧ j < w1.heap.size) (fun j hj hF => ⟨hF, hj⟩) hk
      have b2 := NdAt.kept (w' := w2.setCell ⟨hh, 3, none⟩ (.slice (some ⟨g, 0, none⟩) (n + 1) cap)) (by rw [hss]; omega) (fun j hj hF => hkeep j hj (by omega) (fun e => by have := hlow j e.symm; omega)) b1
      refine NdAt.mono (fun j _ hj => ?_) b2
      refine ⟨by omega, fun e => ?_⟩
      have e2 : j = g := by simpa [Value.ownBlock] using e
      rcases hat with e3 | e3
      · have := hlow g e3; omega
      · omega
  · have b1 := h.keys.mono (G := fun j => (((A ≤ j ∧ j < B) ∨ L ≤ j) ∧ some j ≠ (Value.slice nA n nc).ownBlock) ∧ j < wr.heap.size) (fun j hj hF => ⟨hF, hj⟩)
    have b2 := b1.kept (w' := w2.setCell ⟨hh, 3, none⟩ (.slice (some ⟨g, 0, none⟩) (n + 1) cap)) (by rw [hss]; omega) (fun j hj hF => hkeep0 j hj (by omega) hF.1.2)
    exact b2.mono (fun j _ hj => hnew j hj)
  · refine Below.setCell (h.below.grown (row := (Value.slice nA n nc).ownBlock) ⟨hg.os.trans hb.os, hg.tape.trans hb.tape, hg.output.trans hb.output, by omega, fun j hj hn => by rw [hg.block j (by omega) hn]; exact hb.block j hj⟩ hws (fun j e => by have := (hlow j e).1; omega)) hle _
/-- The value that was built, behind stores into blocks between. -/
theorem NC.fin (h : NC w wr A B L hh T k t ks kA kn kc nA n nc done) (hs : wr.heap.size ≤ w2.heap.size) (hk : ∀ g, g < wr.heap.size → ((A ≤ g ∧ g < B) ∨ L ≤ g) → w2.heap[g]? = wr.heap[g]?) (hl : ks.length = kn) :
    NdAt w2 (fun g => (A ≤ g ∧ g < B) ∨ w.heap.size ≤ g) (.mk k t ks done) [.int .i64 k, .string t, .slice kA kn kc, .slice nA n nc] := by
  obtain ⟨xs, h1, h2⟩ := h.row
  have hle := h.hle
  have hL := h.hL
  have hlen := h.len
  unfold NdAt
  refine ⟨_, _, xs, rfl, ?_, ?_, ?_⟩
  · exact (h.keys.kept hs (fun g hg hF => hk g hg hF.1)).mono (fun g _ hg => by omega)
  · rw [hlen]
    have r : RowF wr (fun g => L ≤ g) T 4 (.slice nA n nc) n xs := RowF.of h1 (fun g hg => (h1.lt g hg).1)
    exact (Sl.of_row (r.kept (fun g hg hF => hk g hg (.inr hF)))).mono (fun g _ hg => by omega)
  · exact NdsAt.mono (fun g _ hg => by omega) (NdsAt.kept hs (fun g hg hF => hk g hg hF.1) h2)
end
def NdC (A B : Nat) (n : Nd) (w : World) (e : Ending) (w' : World) : Prop :=
  ∃ k t kA kn kc nA nn nc, e = .returned (.agg #[.int .i64 k, .string t, .slice kA kn kc, .slice nA nn nc]) ∧ Below w.heap.size w w' ∧ Aside0 (NdAt w' (fun g => (A ≤ g ∧ g < B) ∨ w.heap.size ≤ g) n [.int .i64 k, .string t, .slice kA kn kc, .slice nA nn nc])
set_option maxHeartbeats 16000000 in
set_option maxRecDepth 100000 in
theorem paOut2_calls (N : Nat) : ∀ (n : Nd), n.sz ≤ N → Ro n → ∀ (A B : Nat) (c0 c1 c2 c3 : Value) (w : World), B ≤ w.heap.size → NdAt w (fun g => (A ≤ g ∧ g < B)) n [c0, c1, c2, c3] →
    Calls Tryd.prog 28 #[.agg #[c0, c1, c2, c3]] w (NdC A B n w) := by
  induction N with
  | zero => intro n hn; cases n; simp [Nd.sz] at hn
  | succ N IH =>
    rintro ⟨k, t, ks, kids⟩ hn hro A B c0 c1 c2 c3 w hB hat
    obtain ⟨kA, kc, nA, nc, hcs, hkc, hnc, hkeys, hks, hkids⟩ := hat.open
    simp only [List.cons.injEq, and_true] at hcs
    obtain ⟨rfl, rfl, rfl, rfl⟩ := hcs
    have hro2 := hro
    unfold Ro at hro2
    have IHk : ∀ i (hi : i < kids.length), ∀ (c0 c1 c2 c3 : Value) (W : World), B ≤ W.heap.size → NdAt W (fun g => (A ≤ g ∧ g < B)) kids[i] [c0, c1, c2, c3] → Calls Tryd.prog 28 #[.agg #[c0, c1, c2, c3]] W (NdC A B kids[i] W) := fun i hi c0 c1 c2 c3 W hW hAt =>
      IH kids[i] (by have := Nd.sz_kid (k := k) (t := t) (ks := ks) (List.getElem_mem hi); omega) (ros_iff.1 hro2.2 _ (List.getElem_mem hi)) A B c0 c1 c2 c3 W hW hAt
    have HI := Aside0.mk IHk
    have hkb : kids.length ≤ 140737488351232 := by have := hro2.1.1; omega
    have HR := Aside0.mk hro2.1
    have HB := Aside0.mk hB
    have HK := Aside0.mk hkids
    have HS := Aside0.mk hkeys
    clear hat hkids hro hro2 IHk IH hks hkeys hn
    go_enter Tryd.func28, Tryd.ntmps28
    go_wp2_with fail
    go_loopw [16] (fun v16 wr => ∃ (i : Nat) (nA' : Option Addr) (nc' : Nat), v16 = .int .i64 (i : Int) ∧ i ≤ kids.length ∧ Aside0 (NC w wr A B (w.heap.size + 3) (w.heap.size + 1 + 1) 25 k t ks kA ks.length kc nA' i nc' (kids.take i)) ∧ Aside0 (ZB wr (w.heap.size + 1) 25)) (fun v16 _ => kids.length - (intOf v16).toNat)
    case atStart =>
      obtain ⟨e1, e2, e3, hb⟩ := alloc3 w (.cells #[.int .i64 k, .string t, .slice kA ks.length kc, .slice nA kids.length nc] 47) (.cells #[.int .i64 0, .string { data := #[] }, .slice none 0 0, .slice none 0 0] 25) (.cells #[.int .i64 k, .string t, .slice kA ks.length kc, .slice none 0 0] 25)
      exact ⟨0, none, 0, rfl, Nat.zero_le _, ⟨NC.start e3 ((HS.out.kept hb.size (fun g hg _ => hb.block g hg)).mono (fun g _ hg => .inl hg)) hb (by omega) (by omega) HB.out (by simp [World.size_alloc])⟩, ⟨e2⟩⟩
    case round =>
      obtain ⟨i, nA', nc', rfl, hi, hNB, hRB⟩ := hrel
      obtain ⟨b0, b1, b2, b3, bf⟩ := hNB.out.cells
      by_cases hlt : i < kids.length
      · obtain ⟨g, o, k', t', kA2, kn2, kc2, nA2, nn2, nc2, rfl, hgB, hgl, hkat, z0, z1, z2, z3⟩ := HK.out i hlt
        rw [← hNB.out.below.cell (p := ⟨g, o + i * 4, none⟩) hgl] at z0
        rw [← hNB.out.below.cell (p := ⟨g, o + i * 4 + 1, none⟩) hgl] at z1
        rw [← hNB.out.below.cell (p := ⟨g, o + i * 4 + 2, none⟩) hgl] at z2
        rw [← hNB.out.below.cell (p := ⟨g, o + i * 4 + 3, none⟩) hgl] at z3
        have HKA := Aside0.mk hkat
        clear hkat
        go_upto_region 5 with fail
        have hV := below_alloc1 (w := wr) (.cells #[.int .i64 k', .string t', .slice kA2 kn2 kc2, .slice nA2 nn2 nc2] 47)
        have hz := heap_alloc_new wr (.cells #[.int .i64 k', .string t', .slice kA2 kn2 kc2, .slice nA2 nn2 nc2] 47)
        generalize (wr.alloc (.cells #[.int .i64 k', .string t', .slice kA2 kn2 kc2, .slice nA2 nn2 nc2] 47)) = V at hV hz ⊢
        have N1 := Aside0.mk (hNB.out.next hV)
        have HRV := Aside0.mk (hRB.out.next hV)
        obtain ⟨xs, hx1, hx2⟩ := N1.out.row
        have HX2 := Aside0.mk hx2
        have HX1 := Aside0.mk hx1
        have HN : Aside0 ((i + 1) * 72 ≤ 140737488351232 ∧ i + 1 ≤ 140737488351232) := ⟨by have := HR.out.1; omega⟩
        obtain ⟨y0, y1, y2, y3, yf⟩ := nd_cells hz
        obtain ⟨d0, d1, d2, d3, df⟩ := N1.out.cells
        have HC := Aside0.mk (HI.out i hlt (.int .i64 k') (.string t') (.slice kA2 kn2 kc2) (.slice nA2 nn2 nc2) V.drew (by have h1 := HB.out; have h2 := N1.out.below.size; show B ≤ V.heap.size; omega) (NdAt.below (NdAt.below HKA.out hNB.out.below |>.below hV) ((Below.refl _ _).drew)))
        clear hV hz hx1 hx2 z0 z1 z2 z3 b0 b1 b2 b3 bf
        unfold NdC at HC
        go_region_law (first
          | (refine app_step rfl (.tmp 21) (.tmp 24) 23 25 4 72 _ rfl Tryd.underlying23 ndInfo25 rfl (by decide) (xs := xs) (cells := [.int .i64 k3, .string t3, .slice kA3 kn3 kc3, .slice nA3 nn3 nc3]) HO1 HBW rfl (one4 _ _ _ _ _ _ _ _) HN rfl _ rfl rfl ?_; intro g2 cap2 w2 hown2 hgr2 hat2; obtain ⟨m3, mf⟩ := N2.out.box hgr2.out)
          | (go_simp; go_at_call 28; refine HC.out.mono ?_; rintro e w1 ⟨k3, t3, kA3, kn3, kc3, nA3, nn3, nc3, rfl, hb1, hA1⟩; have N2 := Aside0.mk (N1.out.next (below_step ((Below.refl _ _).drew) hb1)); have HO1 := Aside0.mk (own_kept HX1.out (fun g hg _ => hb1.block g hg)); have HBW := Aside0.mk N2.out.hLs; obtain ⟨q0, q1, q2, q3, qf⟩ := N2.out.cells; obtain ⟨p0, p1, p2, p3, pf⟩ := (N2.out.next (below_alloc1 (.cells #[.int .i64 k3, .string t3, .slice kA3 kn3 kc3, .slice nA3 nn3 nc3] 25))).cells))
        all_goals go_wp2_with fail
        all_goals
          go_roundw
          case rel =>
            have hb2 : Below V.heap.size V w1 := below_step ((Below.refl _ _).drew) hb1
            refine ⟨i + 1, some ⟨g2, 0, none⟩, cap2, by go_num, by omega, ⟨?_⟩, ⟨(HRV.out.next hb2).more hgr2.out (N1.out.apart (by omega)) (by omega)⟩⟩
            rw [List.take_succ_eq_append_getElem hlt]
            exact NC.more N1.out hb2 hA1.out HX2.out hown2.out hgr2.out hat2.out
          case measure => simp [intOf]; omega
      · obtain rfl : i = kids.length := by omega
        obtain ⟨r0, r1, r2, r3, rf⟩ := nd_cells hRB.out
        go_wp2_with fail
        have e0 := res_put (j := 0) (v := .int .i64 k) hRB.out rfl
        have e1 := res_put (j := 1) (v := .string t) e0 rfl
        have e2 := res_put (j := 2) (v := .slice kA ks.length kc) e1 rfl
        have e3 := res_put (j := 3) (v := .slice nA' kids.length nc') e2 rfl
        refine bodyPost_ret (nd_ret25 rfl rfl e3) rfl ?_
        rw [List.take_length] at hNB
        refine ⟨_, _, _, _, _, _, _, _, rfl, ?_, ⟨?_⟩⟩
        · have := hNB.out.below
          exact (((this.setCell (Nat.le_succ _) _).setCell (Nat.le_succ _) _).setCell (Nat.le_succ _) _).setCell (Nat.le_succ _) _
        · refine hNB.out.fin (by simp [World.setCell]) (fun g hg hF => ?_) rfl
          have hne : g ≠ w.heap.size + 1 := by have := HB.out; omega
          rw [Below.heap_setCell _ _ _ _ hne, Below.heap_setCell _ _ _ _ hne, Below.heap_setCell _ _ _ _ hne, Below.heap_setCell _ _ _ _ hne]
end Go.Proofs.YtmomjgkbimeeoaaDoor.G
