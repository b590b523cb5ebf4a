/- jsonparser's Get, and JpGet. -/
import Derived.Test.YtpahejmkidhhhaaDoorGvI
import Derived.Test.YtpahejmkidhhhaaDoorGvX
import Derived.Test.YtpahejmkidhhhaaDoorGrV
namespace Go.Proofs.YtpahejmkidhhhaaDoor.G
set_option linter.unusedVariables false
set_option linter.unusedSimpArgs false
open Go.RowKit Go.Proofs.YtpahejmkidhhhaaDoorW.PrintWords

theorem conv_row (W : World) (s : ByteArray) : RowAt (Lib.bytesWorld W 5 s) W.heap.size 0 (bytesOf s) := by
  obtain ⟨g, cap, e, h1, h2, h3, h4, h5⟩ := Buf.conv W 5 s W.heap.size (Nat.le_refl _)
  injection e with e1 e2 e3
  injection e1 with e1
  injection e1 with e1
  subst e1 e3
  refine ⟨h2, fun j hj => ?_⟩
  rw [Nat.zero_add]
  exact h4 j _ (by simp [List.getD_eq_getElem?_getD, List.getElem?_eq_getElem hj])
theorem conv_below (w : World) (s : ByteArray) : Below w.heap.size w (Lib.bytesWorld w 5 s) := bytes_below (Below.refl _ _) (Nat.le_refl _) 5 s
theorem bytes_ok (s : ByteArray) : Bytes (bytesOf s) := by
  intro x hx
  obtain ⟨b, _, rfl⟩ := List.mem_map.1 hx
  have := b.toNat_lt
  omega
/-- What the world's variables hold. -/
structure GL (E : Nat → Value) (w : World) : Prop where
  er : ErrT w E
  cf : CfgAt w 10
theorem GL.below {E : Nat → Value} {w w' : World} (H : GL E w) (hb : Below w.heap.size w w') : GL E w' := ⟨H.er.below hb, H.cf.below hb⟩
def GetA (E : Nat → Value) (g : Ig) (h o : Nat) (w : World) (e : Ending) (w' : World) : Prop :=
  ∃ (v x : Value), e = .returned (.tuple #[v, .int .i64 g.kind, .int .i64 g.en, x]) ∧ Below w.heap.size w w' ∧ Aside0 (v = vSl h o g ∧ x = vEr E g)
set_option maxHeartbeats 4000000 in
set_option maxRecDepth 100000 in
theorem iget1_calls (E : Nat → Value) (g : Ig) (h o : Nat) (d k : Value) (w : World) (hG : GL E w)
    (hI : Calls Tryd.prog 49 #[.agg #[.bool false, .bool false, .int .i64 0], d, k] w (IGA E g h o w)) : Calls Tryd.prog 35 #[d, k] w (IGA E g h o w) := by
  have C := Aside0.mk hI
  have g0 := hG.cf.2.1
  have g1 := hG.cf.2.2.1
  have g2 := hG.cf.2.2.2
  clear hI hG
  go_enter Tryd.func35, Tryd.ntmps35
  go_wp2_with (go_at_call 49; refine C.out.mono ?_; rintro e w1 ⟨v, x, rfl, hb, hA⟩)
  (try simp only [Exit.inBlock, Exit.then])
  refine bodyPost_ret (results_tmp5 rfl _ _ _) rfl ?_
  exact ⟨v, x, rfl, hb, hA⟩
set_option maxHeartbeats 4000000 in
set_option maxRecDepth 100000 in
theorem get_calls (E : Nat → Value) (g : Ig) (h o : Nat) (d k : Value) (w : World) (hG : GL E w)
    (hI : Calls Tryd.prog 49 #[.agg #[.bool false, .bool false, .int .i64 0], d, k] w (IGA E g h o w)) : Calls Tryd.prog 26 #[d, k] w (GetA E g h o w) := by
  have C := Aside0.mk (iget1_calls E g h o d k w hG hI)
  clear hI hG
  go_enter Tryd.func26, Tryd.ntmps26
  go_wp2_with (go_at_call 35; refine C.out.mono ?_; rintro e w1 ⟨v, x, rfl, hb, hA⟩)
  (try simp only [Exit.inBlock, Exit.then])
  refine bodyPost_ret (results_tmp4 rfl _ _ _) rfl ?_
  exact ⟨v, x, rfl, hb, hA⟩
/-- JpGet's answer. -/
def jgV (xs : List Int) (g : Ig) : ByteArray := if g.er = 0 then strOfNums ((xs.drop g.vb).take (g.ve - g.vb)) else ⟨#[]⟩
def JGA (xs : List Int) (g : Ig) (w : World) (e : Ending) (w' : World) : Prop :=
  e = .returned (.tuple #[.agg #[.string ⟨#[]⟩, .string (jgV xs g), .int .i64 (if g.er = 0 then g.kind else 0), .int .i64 (if g.er = 0 then g.en else 0)], .bool (decide (g.er = 0))]) ∧ Below w.heap.size w w'
theorem found_ret {fn : Func} (hfn : fn.results = #[.cell 4 31, .tmp 5]) {tmps : Array Value} {W : World} {hh : Nat} {cs : Array Value} {ok : Bool} (h2 : tmps.getD 4 undef = .pointer (some ⟨hh, 0, none⟩)) (h3 : tmps.getD 5 undef = .bool ok) (hg : W.heap[hh]? = some (.cells cs 31)) (hs : cs.size = 4) :
    (results fn tmps).run Tryd.prog W = .ok (.tuple #[.agg cs, .bool ok]) W := by
  rw [results_cell_tmp hfn, h2, h3]
  simp [asAddr, Result.andThen, run_loadVar_row W hh 31 31 cs (0, 0) _ hg Tryd.underlying31 rfl (by rw [hs]; kernel_rfl)]
theorem found_close {fn : Func} (hfn : fn.results = #[.cell 4 31, .tmp 5]) {w W : World} {p0 p1 p2 p3 q0 q1 q2 q3 : Value} {ok : Bool} {R : Ending → World → Prop} (hB : W.heap[w.heap.size]? = some (.cells #[p0, p1, p2, p3] 31)) (hb : Below w.heap.size w W)
    (hR : ∀ W', Below w.heap.size w W' → R (.returned (.tuple #[.agg #[q0, q1, q2, q3], .bool ok])) W')
    (a : Act) (h2 : a.tmps.getD 4 undef = .pointer (some ⟨w.heap.size, 0, none⟩)) (h3 : a.tmps.getD 5 undef = .bool ok) (hd : a.defers = []) :
    bodyPost Tryd.prog fn R .ret a ((((W.setCell ⟨w.heap.size, 0, none⟩ q0).setCell ⟨w.heap.size, 1, none⟩ q1).setCell ⟨w.heap.size, 2, none⟩ q2).setCell ⟨w.heap.size, 3, none⟩ q3) := by
  have e0 := res_put (j := 0) (v := q0) hB rfl
  have e1 := res_put (j := 1) (v := q1) e0 rfl
  have e2 := res_put (j := 2) (v := q2) e1 rfl
  have e3 := res_put (j := 3) (v := q3) e2 rfl
  refine bodyPost_ret (found_ret hfn h2 h3 e3 rfl) hd (hR _ ?_)
  exact (((hb.setCell (Nat.le_refl _) _).setCell (Nat.le_refl _) _).setCell (Nat.le_refl _) _).setCell (Nat.le_refl _) _
set_option maxHeartbeats 8000000 in
set_option maxRecDepth 100000 in
theorem jpGet_calls (E : Nat → Value) (g : Ig) (s : ByteArray) (k : Value) (w : World) (hG : GL E w) (hm : s.size ≤ 140737488351232) (hgb : g.vb ≤ g.ve ∧ g.ve ≤ s.size) (hge : g.er ≤ 6)
    (hI : ∀ W h c, Below w.heap.size w W → GL E W → RowAt W h 0 (bytesOf s) → s.size ≤ c → Calls Tryd.prog 49 #[.agg #[.bool false, .bool false, .int .i64 0], .slice (some ⟨h, 0, none⟩) s.size c, k] W (IGA E g h 0 W)) :
    Calls Tryd.prog 11 #[.string s, k] w (JGA (bytesOf s) g w) := by
  have kb := fun W => print_bytes (P := Tryd.prog) 9 54 5 Tryd.underlying9 Tryd.underlying54 Tryd.underlying5 s W
  obtain ⟨W1, hW1⟩ : ∃ W1, W1 = w.alloc (.cells #[.string ⟨#[]⟩, .string ⟨#[]⟩, .int .i64 0, .int .i64 0] 31) := ⟨_, rfl⟩
  have hb1 : Below w.heap.size w W1 := by rw [hW1]; exact below_alloc1 _
  have hblk : W1.heap[w.heap.size]? = some (.cells #[.string ⟨#[]⟩, .string ⟨#[]⟩, .int .i64 0, .int .i64 0] 31) := by rw [hW1]; exact heap_alloc_new _ _
  have hcb := conv_below W1 s
  have hrow := conv_row W1 s
  have hsz : W1.heap.size = w.heap.size + 1 := by rw [hW1, World.size_alloc]
  have hb2 : Below w.heap.size w (Lib.bytesWorld W1 5 s) := below_step hb1 hcb
  have hge2 : s.size ≤ grownCap W1 s.size 0 5 := Nat.le_trans (by omega) (grownCap_ge W1 s.size 0 5)
  have C := get_calls E g W1.heap.size 0 (.slice (some ⟨W1.heap.size, 0, none⟩) s.size (grownCap W1 s.size 0 5)) k (Lib.bytesWorld W1 5 s) (hG.below hb2) (hI _ _ _ hb2 (hG.below hb2) hrow hge2)
  unfold GetA at C
  have hw0 : w.heap.size < W1.heap.size := by omega
  have hF : ∀ W, Below (Lib.bytesWorld W1 5 s).heap.size (Lib.bytesWorld W1 5 s) W → W.heap[w.heap.size]? = some (.cells #[.string ⟨#[]⟩, .string ⟨#[]⟩, .int .i64 0, .int .i64 0] 31) ∧ Below w.heap.size w W ∧ ∀ j, W.frozen? ⟨w.heap.size, j, none⟩ = false := fun W hb => by
    have h1 : W.heap[w.heap.size]? = some (.cells #[.string ⟨#[]⟩, .string ⟨#[]⟩, .int .i64 0, .int .i64 0] 31) := by
      rw [hb.block _ (by have := hcb.size; omega), hcb.block _ hw0]; exact hblk
    exact ⟨h1, below_step hb2 hb, fun j => blk_froz h1⟩
  have HF := Aside0.mk hF
  have hR : ∀ W, Below (Lib.bytesWorld W1 5 s).heap.size (Lib.bytesWorld W1 5 s) W → RowAt W W1.heap.size 0 (bytesOf s) := fun W hb => hrow.below hb
  rw [hsz] at C hR
  have HR := Aside0.mk hR
  subst hW1
  clear hb1 hblk hcb hrow hsz hb2 hge2 hw0 hF hR hI
  rcases Decidable.em (g.er = 0) with he | he
  · have hS : ∀ W, Below (Lib.bytesWorld (w.alloc (.cells #[.string ⟨#[]⟩, .string ⟨#[]⟩, .int .i64 0, .int .i64 0] 31)) 5 s).heap.size (Lib.bytesWorld (w.alloc (.cells #[.string ⟨#[]⟩, .string ⟨#[]⟩, .int .i64 0, .int .i64 0] 31)) 5 s) W → (convert 54 9 (.slice (some ⟨w.heap.size + 1, g.vb, none⟩) (g.ve - g.vb) (g.ve - g.vb))).run Tryd.prog W = .ok (.string (strOfNums (((bytesOf s).drop g.vb).take (g.ve - g.vb)))) W := fun W hb => by
      have := (((HR.out W hb).drop g.vb).take (g.ve - g.vb)).string (n := g.ve - g.vb) (c := g.ve - g.vb) (by rw [List.length_take, List.length_drop, bytesOf_length]; omega)
      rwa [Nat.zero_add] at this
    have HS := Aside0.mk hS
    have HE := Aside0.mk he
    simp only [vSl, vEr, if_pos he, Nat.zero_add] at C
    have C := Aside0.mk C
    clear hS he
    go_enter Tryd.func11, Tryd.ntmps11
    go_wp2_with (go_at_call 26; refine C.out.mono ?_; rintro e w2 ⟨v, x, rfl, hb, hA⟩; obtain ⟨rfl, rfl⟩ := hA.out; clear hA; have hS2 := HS.out w2 hb; have HB := Aside0.mk (HF.out w2 hb); have r0 := blk_cell (j := 0) HB.out.1 rfl; have r1 := blk_cell (j := 1) HB.out.1 rfl; have r2 := blk_cell (j := 2) HB.out.1 rfl; have r3 := blk_cell (j := 3) HB.out.1 rfl; have rf := HB.out.2.2)
    (try simp only [Exit.inBlock, Exit.then])
    refine found_close rfl HB.out.1 HB.out.2.1 (fun W' hb' => ?_) _ rfl rfl rfl
    unfold JGA jgV
    rw [if_pos HE.out, if_pos HE.out, if_pos HE.out, decide_eq_true HE.out]
    exact ⟨rfl, hb'⟩
  · obtain ⟨a, ha⟩ := hG.er.ptr (g.er - 1) (by omega)
    have HE := Aside0.mk he
    simp only [vSl, vEr, if_neg he, ha] at C
    have C := Aside0.mk C
    clear he ha
    go_enter Tryd.func11, Tryd.ntmps11
    go_wp2_with (go_at_call 26; refine C.out.mono ?_; rintro e w2 ⟨v, x, rfl, hb, hA⟩; obtain ⟨rfl, rfl⟩ := hA.out; clear hA; have HB := Aside0.mk (HF.out w2 hb); have r0 := blk_cell (j := 0) HB.out.1 rfl; have r1 := blk_cell (j := 1) HB.out.1 rfl; have r2 := blk_cell (j := 2) HB.out.1 rfl; have r3 := blk_cell (j := 3) HB.out.1 rfl; have rf := HB.out.2.2)
    (try simp only [Exit.inBlock, Exit.then])
    refine found_close rfl HB.out.1 HB.out.2.1 (fun W' hb' => ?_) _ rfl rfl rfl
    unfold JGA jgV
    rw [if_neg HE.out, if_neg HE.out, if_neg HE.out, decide_eq_false HE.out]
    exact ⟨rfl, hb'⟩
end Go.Proofs.YtpahejmkidhhhaaDoor.G
