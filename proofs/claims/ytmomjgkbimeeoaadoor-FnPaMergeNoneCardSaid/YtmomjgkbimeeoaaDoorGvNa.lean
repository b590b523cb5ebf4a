/- json-patch: lazy nodes made of values: arrays. -/
import Derived.Test.YtmomjgkbimeeoaaDoorGvNo
namespace Go.Proofs.YtmomjgkbimeeoaaDoor.G
set_option linter.unusedVariables false
set_option linter.unusedSimpArgs false
open Go.RowKit Go.Proofs.YtmomjgkbimeeoaaDoorW.PrintWords

/-- What the loop over an array's elements keeps. -/
structure AyL (w wr : World) (vs : List Lz) (b : Nat) : Prop where
  lz : LzAt wr (Rng w.heap.size wr.heap.size) (.ary vs) (.pointer (some ⟨b, 0, none⟩))
  below : Below w.heap.size w wr
theorem ary_round {w wr V w1 w2 : World} {vs vs' : List Lz} {b rb ab : Nat} {nA : Option Addr} {n nc : Nat} {sf : Value} {us : List Value} {F1 F2 : Nat → Prop} {t : Lz} {u : Value} {g cap : Nat} (HL : AyL w wr vs b) (hV : Below wr.heap.size wr V) (O : AyO V (Rng w.heap.size wr.heap.size) vs b rb ab nA n nc sf us F1 F2)
    (hb : Below V.heap.size V w1) (ht : LzAt w1 (Rng V.heap.size w1.heap.size) t u) (hown : w2.ownsRow 0 68 1 (.slice (some ⟨g, 0, none⟩) (n + 1) cap) (n + 1) (us ++ [u])) (hg : w1.grownBy w2 (Value.slice nA n nc).ownBlock) (hat : (Value.slice nA n nc).ownBlock = some g ∨ w1.heap.size < g) (hvs : vs' = vs ++ [t]) :
    AyL w (w2.setCell ⟨ab, 1, none⟩ (.slice (some ⟨g, 0, none⟩) (n + 1) cap)) vs' b := by
  subst hvs
  have s0 := hV.size
  have s1 := hb.size
  have s2 := hg.size
  have sw := HL.below.size
  have hss : (w2.setCell ⟨ab, 1, none⟩ (.slice (some ⟨g, 0, none⟩) (n + 1) cap)).heap.size = w2.heap.size := by simp [World.setCell]
  have hab := O.fab
  unfold Rng at hab
  refine ⟨(O.push (fun j hj => by unfold Rng at hj; omega) hb ht hown hg hat).mono (fun j hj => ?_), ?_⟩
  · unfold Rng at hj ⊢
    rw [hss] at hj ⊢
    omega
  · have h1 := below_step (below_step HL.below hV) hb
    refine Below.setCell (h1.grown hg (by omega) (fun j e => ?_)) hab.1 _
    have := O.row.2 j e
    unfold Rng at this
    omega
theorem ary_far {V w1 w2 : World} {F : Nat → Prop} {vs : List Lz} {b rb ab z : Nat} {nA : Option Addr} {n nc : Nat} {sf : Value} {us : List Value} {F1 F2 : Nat → Prop} (O : AyO V F vs b rb ab nA n nc sf us F1 F2) (hrb : (Value.slice nA n nc).ownBlock ≠ some b) (hra : (Value.slice nA n nc).ownBlock ≠ some ab) (hrz : (Value.slice nA n nc).ownBlock ≠ some z)
    (E1 : w1.heap[b]? = V.heap[b]? ∧ w1.heap[z]? = V.heap[z]? ∧ b < w1.heap.size ∧ z < w1.heap.size) (hab : w1.heap[ab]? = V.heap[ab]?) (hg : w1.grownBy w2 (Value.slice nA n nc).ownBlock) :
    w2.heap[b]? = V.heap[b]? ∧ w2.heap[z]? = V.heap[z]? ∧ w2.cell? ⟨ab, 1, none⟩ = some (.slice nA n nc) ∧ w2.frozen? ⟨ab, 1, none⟩ = false := by
  have h3 : w2.heap[ab]? = some (.cells #[sf, .slice nA n nc] 115) := by
    rw [hg.block ab (by have := (Array.getElem?_eq_some_iff.1 (hab.trans O.ary)).1; exact this) (fun e => hra e.symm), hab]; exact O.ary
  exact ⟨(hg.block b E1.2.2.1 (fun e => hrb e.symm)).trans E1.1, (hg.block z E1.2.2.2 (fun e => hrz e.symm)).trans E1.2.1, blk_cell h3 rfl, blk_froz h3⟩
set_option maxHeartbeats 16000000 in
set_option maxRecDepth 100000 in
theorem node_ary (t : ByteArray) (kids : List Nd) (kA : Option Addr) (kn kc : Nat) (nA : Option Addr) (nc : Nat) (opts : Option Addr) (w : World) (hkb : kids.length * 72 ≤ 140737488351232)
    (hkids : ∀ i (hi : i < kids.length), ∃ g o k' t' kA' kn' kc' nA' nn' nc', nA = some ⟨g, o, none⟩ ∧ g < w.heap.size ∧ NdAt w (fun _ => True) kids[i] [.int .i64 k', .string t', .slice kA' kn' kc', .slice nA' nn' nc'] ∧
        w.cell? ⟨g, o + i * 4, none⟩ = some (.int .i64 k') ∧ w.cell? ⟨g, o + i * 4 + 1, none⟩ = some (.string t') ∧ w.cell? ⟨g, o + i * 4 + 2, none⟩ = some (.slice kA' kn' kc') ∧ w.cell? ⟨g, o + i * 4 + 3, none⟩ = some (.slice nA' nn' nc'))
    (IH : ∀ i (hi : i < kids.length) k' t' kA' kn' kc' nA' nn' nc' W, NdAt W (fun _ => True) kids[i] [.int .i64 k', .string t', .slice kA' kn' kc', .slice nA' nn' nc'] → Calls Tryd.prog 60 #[.agg #[.int .i64 k', .string t', .slice kA' kn' kc', .slice nA' nn' nc'], .pointer opts] W (LzA (lz kids[i]) W)) :
    Calls Tryd.prog 60 #[.agg #[.int .i64 5, .string t, .slice kA kn kc, .slice nA kids.length nc], .pointer opts] w (LzA (.ary (lzs kids)) w) := by
  have CE := Aside0.mk (fun W => eary_calls W)
  have HK := Aside0.mk hkids
  have HI := Aside0.mk IH
  have hkl : kids.length ≤ 140737488351232 := by omega
  have HKB := Aside0.mk hkb
  unfold LzA at CE
  clear hkids IH hkb
  go_enter Tryd.func60, Tryd.ntmps60
  go_wp2_with (first
    | (go_at_call 77; refine (CE.out _).mono ?_; rintro e w1 ⟨o, rfl, hb, hA⟩; obtain ⟨b, rfl⟩ := (show ∃ b, o = some ⟨b, 0, none⟩ from by obtain ⟨b, rb, ab, nA, nc, sf, us, F1, F2, e, _⟩ := hA.out.ary_open rfl; cases e; exact ⟨b, rfl⟩); have hbx : w1.heap[w.heap.size]? = some (.cells #[.int .i64 5, .string t, .slice kA kn kc, .slice nA kids.length nc] 47) := (hb.block w.heap.size (by rw [World.size_alloc]; omega)).trans (heap_alloc_new _ _); obtain ⟨x0, x1, x2, x3, xf⟩ := nd_cells hbx))
  have hb0 := below_step (below_alloc1 _) hb
  have HL0 : Aside0 (AyL w w1 (lzs (kids.take 0)) b) := ⟨⟨hA.out.mono (fun g hg => by unfold Rng at hg ⊢; rw [World.size_alloc] at hg; omega), hb0⟩⟩
  clear hb0 hbx hA hb CE
  go_loopw [43] (fun v43 wr => ∃ i : Nat, v43 = .int .i64 (i : Int) ∧ i ≤ kids.length ∧ Aside0 (AyL w wr (lzs (kids.take i)) b)) (fun v43 _ => kids.length - (intOf v43).toNat)
  case atStart => exact ⟨0, rfl, Nat.zero_le _, HL0⟩
  case round =>
    obtain ⟨i, rfl, hi, HL⟩ := hrel
    by_cases hlt : i < kids.length
    · obtain ⟨g, o, k', t', kA2, kn2, kc2, nA2, nn2, nc2, rfl, hgl, hkat, z0, z1, z2, z3⟩ := HK.out i hlt
      have hbw := HL.out.below
      rw [← hbw.cell (p := ⟨g, o + i * 4, none⟩) hgl] at z0
      rw [← hbw.cell (p := ⟨g, o + i * 4 + 1, none⟩) hgl] at z1
      rw [← hbw.cell (p := ⟨g, o + i * 4 + 2, none⟩) hgl] at z2
      rw [← hbw.cell (p := ⟨g, o + i * 4 + 3, none⟩) hgl] at z3
      have HKA := Aside0.mk (hkat.below hbw)
      clear hkat hbw
      go_upto_region 17 with fail
      have hV := below_alloc1 (w := wr) (.cells #[.int .i64 k', .string t', .slice kA2 kn2 kc2, .slice nA2 nn2 nc2] 47)
      have hz := heap_alloc_new wr (.cells #[.int .i64 k', .string t', .slice kA2 kn2 kc2, .slice nA2 nn2 nc2] 47)
      have hVs : (wr.alloc (.cells #[.int .i64 k', .string t', .slice kA2 kn2 kc2, .slice nA2 nn2 nc2] 47)).heap.size = wr.heap.size + 1 := World.size_alloc _ _
      generalize (wr.alloc (.cells #[.int .i64 k', .string t', .slice kA2 kn2 kc2, .slice nA2 nn2 nc2] 47)) = V at hV hz hVs ⊢
      obtain ⟨b', rb, ab, nA', nc', sf, us, F1, F2, eb, O⟩ := (HL.out.lz.below hV).ary_open (n := i) (by rw [lzs_map, List.length_map, List.length_take]; omega)
      cases eb
      have HO := Aside0.mk O
      have HF : Aside0 (∀ j, Rng w.heap.size wr.heap.size j → j < V.heap.size) := ⟨fun j hj => by unfold Rng at hj; omega⟩
      have hbl := HF.out _ O.fb
      have hal := HF.out _ O.fab
      have hba : b ≠ ab := blk_ne O.blk O.ary (by decide)
      have hbz : b ≠ wr.heap.size ∧ ab ≠ wr.heap.size := by have h1 := O.fb; have h2 := O.fab; unfold Rng at h1 h2; omega
      have hrb : (Value.slice nA' i nc').ownBlock ≠ some b := O.row.ne O.blk (by decide)
      have hra : (Value.slice nA' i nc').ownBlock ≠ some ab := O.row.ne O.ary (by decide)
      have hrz : (Value.slice nA' i nc').ownBlock ≠ some wr.heap.size := fun e => by have := O.row.2 _ e; unfold Rng at this; omega
      obtain ⟨y0, y1, y2, y3, yf⟩ := nd_cells hz
      obtain ⟨d0, d1, d2, d3, df⟩ := nd_cells O.blk
      have a1 : V.cell? ⟨ab, 1, none⟩ = some (.slice nA' i nc') := blk_cell O.ary rfl
      have af : ∀ j, V.frozen? ⟨ab, j, none⟩ = false := fun j => blk_froz O.ary
      have HN : Aside0 ((i + 1) * 8 ≤ 140737488351232 ∧ i + 1 ≤ 140737488351232) := ⟨by have := HKB.out; omega⟩
      have HNE := Aside0.mk (And.intro hba (And.intro hbz (And.intro hrb (And.intro hra hrz))))
      have HLT := Aside0.mk (And.intro hbl (And.intro hal hVs))
      have HW0 := Aside0.mk hV
      have HC := Aside0.mk (HI.out i hlt k' t' kA2 kn2 kc2 nA2 nn2 nc2 V.drew (NdAt.below (NdAt.below HKA.out hV) ((Below.refl _ _).drew)))
      have KP : Aside0 (∀ w' : World, w'.heap[b]? = V.heap[b]? → w'.heap[wr.heap.size]? = V.heap[wr.heap.size]? → w'.cell? ⟨b, 2, none⟩ = some (.pointer (some ⟨ab, 0, none⟩)) ∧ w'.cell? ⟨wr.heap.size, 0, none⟩ = some (.int .i64 k') ∧ w'.cell? ⟨wr.heap.size, 1, none⟩ = some (.string t') ∧ w'.cell? ⟨wr.heap.size, 2, none⟩ = some (.slice kA2 kn2 kc2) ∧ w'.cell? ⟨wr.heap.size, 3, none⟩ = some (.slice nA2 nn2 nc2)) := ⟨fun w' h1 h2 => by
        rw [World.cell?_of_block (w := V) (w' := w') h1, World.cell?_of_block (w := V) (w' := w') h2, World.cell?_of_block (w := V) (w' := w') h2, World.cell?_of_block (w := V) (w' := w') h2, World.cell?_of_block (w := V) (w' := w') h2]
        exact ⟨d2, y0, y1, y2, y3⟩⟩
      unfold LzA at HC
      clear hV hz hVs O hbl hal hba hbz hrb hra hrz z0 z1 z2 z3 x0 x1 x2 x3 xf
      go_region_law (first
          | (refine app_step rfl (.tmp 57) (.tmp 61) 113 68 1 8 _ rfl Tryd.underlying113 ptrInfo68 rfl (by decide) (xs := us) (cells := [.pointer o2]) HO1 HB0 rfl (fun u hu => by simp at hu; subst hu; rfl) HN rfl _ rfl rfl ?_; intro g2 cap2 w2 hown2 hgr2 hat2; have E2 : Aside0 (w2.heap[b]? = V.heap[b]? ∧ w2.heap[wr.heap.size]? = V.heap[wr.heap.size]? ∧ w2.cell? ⟨ab, 1, none⟩ = some (.slice nA' i nc') ∧ w2.frozen? ⟨ab, 1, none⟩ = false) := ⟨ary_far HO.out HNE.out.2.2.1 HNE.out.2.2.2.1 HNE.out.2.2.2.2 E1.out (hb1.block ab HLT.out.2.1) hgr2.out⟩; have p1 := E2.out.2.2.1; have pf := E2.out.2.2.2; have pb : w2.cell? ⟨b, 2, none⟩ = some (.pointer (some ⟨ab, 0, none⟩)) := (by rw [World.cell?_of_block (w := V) (w' := w2) E2.out.1]; exact d2))
          | (go_simp; go_at_call 60; refine HC.out.mono ?_; rintro e w1 ⟨o2, rfl, hb1, hA1⟩; have E1 : Aside0 (w1.heap[b]? = V.heap[b]? ∧ w1.heap[wr.heap.size]? = V.heap[wr.heap.size]? ∧ b < w1.heap.size ∧ wr.heap.size < w1.heap.size) := ⟨hb1.block b HLT.out.1, hb1.block wr.heap.size (by have := HLT.out.2.2; show wr.heap.size < V.heap.size; omega), by have h1 := hb1.size; have h2 := HLT.out; show b < w1.heap.size; have h3 : V.heap.size ≤ w1.heap.size := h1; omega, by have h1 := hb1.size; have h2 := HLT.out; have h3 : V.heap.size ≤ w1.heap.size := h1; omega⟩; have HO1 : Aside0 (w1.ownsRow 0 68 1 (.slice nA' i nc') i us) := ⟨own_kept HO.out.row.1 (fun g hg _ => hb1.block g hg)⟩; have HB0 : Aside0 (0 ≤ w1.heap.size) := ⟨Nat.zero_le _⟩; have q1 : w1.cell? ⟨ab, 1, none⟩ = some (.slice nA' i nc') := (by rw [hb1.cell (p := ⟨ab, 1, none⟩) HLT.out.2.1]; exact a1); have q2 : (w1.alloc (.cells #[.pointer o2] 68)).cell? ⟨ab, 1, none⟩ = some (.slice nA' i nc') := (by rw [World.cell?_of_block (w := w1) (Below.heap_alloc _ _ _ (show ab < w1.heap.size by have h1 := hb1.size; have h2 := HLT.out; have h3 : V.heap.size ≤ w1.heap.size := h1; omega))]; exact q1); have qb : w1.cell? ⟨b, 2, none⟩ = some (.pointer (some ⟨ab, 0, none⟩)) := (by rw [World.cell?_of_block (w := V) (w' := w1) E1.out.1]; exact d2); have qb2 : (w1.alloc (.cells #[.pointer o2] 68)).cell? ⟨b, 2, none⟩ = some (.pointer (some ⟨ab, 0, none⟩)) := (by rw [World.cell?_of_block (w := w1) (Below.heap_alloc _ _ _ (show b < w1.heap.size from E1.out.2.2.1))]; exact qb)))
      all_goals go_wp2_with fail
      all_goals
        go_roundw
        case rel =>
          have hb2 : Below V.heap.size V w1 := below_step ((Below.refl _ _).drew) hb1
          refine ⟨i + 1, by go_num, by omega, ⟨ary_round HL.out HW0.out HO.out hb2 hA1.out hown2.out hgr2.out hat2.out ?_⟩⟩
          rw [lzs_map, lzs_map, List.take_succ_eq_append_getElem hlt, List.map_append]
          rfl
        case measure => simp [intOf]; omega
    · obtain rfl : i = kids.length := by omega
      go_wp2_with fail
      go_ret
      rw [List.take_length] at HL
      exact LzA.of HL.out.below HL.out.lz
end Go.Proofs.YtmomjgkbimeeoaaDoor.G
