/- jsonparser's single escapes, written into a buffer. -/
import Derived.Test.YtpahejmkidhhhaaDoorGvUa
import Derived.Laws.IdiomCopy
namespace Go.Proofs.YtpahejmkidhhhaaDoor.G
set_option linter.unusedVariables false
set_option linter.unusedSimpArgs false
open Go.RowKit Go.Proofs.YtpahejmkidhhhaaDoorW.PrintWords

/-- Bytes bs are written into block B from place j on; all else is as it was. -/
structure Put (w w' : World) (B j : Nat) (bs : List Int) : Prop where
  g : w.grownBy w' (some B)
  new : ∀ i, i < bs.length → w'.cell? ⟨B, j + i, none⟩ = some (.int .u8 (bs.getD i 0))
  old : ∀ i, (i < j ∨ j + bs.length ≤ i) → w'.cell? ⟨B, i, none⟩ = w.cell? ⟨B, i, none⟩
  fz : ∀ i, w'.frozen? ⟨B, i, none⟩ = w.frozen? ⟨B, i, none⟩
theorem Put.nil (w : World) (B j : Nat) : Put w w B j [] := ⟨World.grownBy.refl _ _, fun i hi => by simp at hi, fun _ _ => rfl, fun _ => rfl⟩
theorem Put.drewN {w w' : World} {B j : Nat} {bs : List Int} (h : Put w w' B j bs) (k : Nat) : Put w (w'.drewN k) B j bs := ⟨⟨h.g.os, h.g.tape, h.g.output, h.g.size, h.g.block⟩, h.new, h.old, h.fz⟩
/-- Blocks that are laid ahead of the writing. -/
theorem Put.before {w w1 w' : World} {B j : Nat} {bs : List Int} (hb : Below w.heap.size w w1) (hB : B < w.heap.size) (h : Put w1 w' B j bs) : Put w w' B j bs := by
  have hg : w.grownBy w1 (some B) := ⟨hb.os, hb.tape, hb.output, hb.size, fun k hk _ => hb.block k hk⟩
  refine ⟨hg.trans h.g, h.new, fun i hi => (h.old i hi).trans (hb.cell (p := ⟨B, i, none⟩) hB), fun i => (h.fz i).trans ?_⟩
  exact World.frozen?_of_block (w := w) (w' := w1) (hb.block B hB)
theorem grown_setCells (b : Nat) : ∀ (vs : List Value) (o : Nat) (w : World), w.grownBy (w.setCells b o vs) (some b)
  | [], o, w => World.grownBy.refl _ _
  | v :: r, o, w => by
    rw [World.setCells]
    have h1 : w.grownBy (w.setCell ⟨b, o, none⟩ v) (some b) := ⟨rfl, rfl, rfl, by simp [World.setCell], fun k hk hn => Below.heap_setCell _ _ _ _ (by rintro rfl; exact hn rfl)⟩
    exact h1.trans (grown_setCells b r (o + 1) _)
theorem put_cells {w : World} {B j : Nat} {bs : List Int} (hc : ∀ i, i < bs.length → (w.cell? ⟨B, j + i, none⟩).isSome = true) : Put w (w.setCells B j (bs.map (Value.int .u8))) B j bs := by
  refine ⟨grown_setCells _ _ _ _, fun i hi => ?_, fun i hi => ?_, fun i => World.frozen?_setCells _ _ _ _ _⟩
  · rw [World.cell?_setCells_in B (bs.map (Value.int .u8)) j w (fun k hk => hc k (by simpa using hk)) i (by simpa using hi)]
    simp [List.getD_eq_getElem?_getD, hi]
  · exact World.cell?_setCells_out B _ j w ⟨B, i, none⟩ (fun _ _ => by rw [List.length_map]; exact hi)
theorem put_one {w : World} {B j : Nat} {x : Int} {u : Value} (hc : w.cell? ⟨B, j, none⟩ = some u) : Put w (w.setCell ⟨B, j, none⟩ (.int .u8 x)) B j [x] := by
  have := put_cells (w := w) (B := B) (j := j) (bs := [x]) (fun i hi => by
    obtain rfl : i = 0 := by simpa using hi
    rw [Nat.add_zero, hc]; rfl)
  exact this
/-- The table of escapes. -/
def TabT (w : World) : Prop := 12 < w.heap.size ∧ ∀ i : Nat, isEs (i : Int) = true → w.cell? ⟨12, i, none⟩ = some (.int .u8 (shortc (i : Int)))
theorem TabT.below {w w' : World} (H : TabT w) (hb : Below w.heap.size w w') : TabT w' := ⟨Nat.lt_of_lt_of_le H.1 hb.size, fun i hi => (hb.cell (p := ⟨12, i, none⟩) H.1).trans (H.2 i hi)⟩
/-- A buffer: cells that may be written. -/
def BufW (w : World) (B j L : Nat) : Prop := B < w.heap.size ∧ ∀ i, i < L → (w.cell? ⟨B, j + i, none⟩).isSome = true ∧ w.frozen? ⟨B, j + i, none⟩ = false
theorem BufW.below {w w' : World} {B j L : Nat} (H : BufW w B j L) (hb : Below w.heap.size w w') : BufW w' B j L :=
  ⟨Nat.lt_of_lt_of_le H.1 hb.size, fun i hi => ⟨by rw [hb.cell (p := ⟨B, j + i, none⟩) H.1]; exact (H.2 i hi).1, by rw [World.frozen?_of_block (w := w) (w' := w') (hb.block B H.1)]; exact (H.2 i hi).2⟩⟩
def UNA (o : Option (Nat × List Int)) (B j : Nat) (w : World) (e : Ending) (w' : World) : Prop :=
  (e = match o with | none => .returned (.tuple #[.int .i64 (-1), .int .i64 (-1)]) | some r => .returned (.tuple #[.int .i64 (r.1 : Int), .int .i64 (r.2.length : Int)])) ∧ Put w w' B j (match o with | none => [] | some r => r.2)
theorem es_or {x : Int} (h : isEs x = true) : x = 34 ∨ x = 92 ∨ x = 47 ∨ x = 98 ∨ x = 102 ∨ x = 110 ∨ x = 114 ∨ x = 116 := by
  unfold isEs at h
  simp only [Bool.or_eq_true, beq_iff_eq] at h
  omega
theorem es_not {x : Int} (h : isEs x = false) : (x == 34) = false ∧ (x == 92) = false ∧ (x == 47) = false ∧ (x == 98) = false ∧ (x == 102) = false ∧ (x == 110) = false ∧ (x == 114) = false ∧ (x == 116) = false := by
  unfold isEs at h
  simp only [Bool.or_eq_false_iff] at h
  exact ⟨h.1.1.1.1.1.1.1, h.1.1.1.1.1.1.2, h.1.1.1.1.1.2, h.1.1.1.1.2, h.1.1.1.2, h.1.1.2, h.1.2, h.2⟩
theorem du_lt {l : List Int} {r : Int} {n : Nat} (h : du l = some (r, n)) : 0 ≤ r ∧ r ≤ 1114111 ∧ 6 ≤ l.length := by
  unfold du at h
  cases hs : su l with
  | none => rw [hs] at h; cases h
  | some a =>
    rw [hs] at h
    have ha := su_lt hs
    simp only [] at h
    split at h
    · cases h; omega
    · split at h
      · cases h; omega
      · split at h
        · cases h; omega
        · cases hs2 : su (l.drop 6) with
          | none => rw [hs2] at h; cases h
          | some b =>
            rw [hs2] at h
            have hb := su_lt hs2
            simp only [] at h
            split at h
            · cases h; omega
            · rename_i g1 g2 g3 g4
              simp only [Option.some.injEq, Prod.mk.injEq] at h
              omega
set_option maxHeartbeats 4000000 in
set_option maxRecDepth 100000 in
theorem un1_calls (h o n c B j L C : Nat) (l : List Int) (w : World) (hT : TabT w) (H : RowAt w h o l) (hby : Bytes l) (hl : l.length = n) (hn : n ≤ 140737488351232) (hnc : n ≤ c) (h1 : 1 ≤ n) (h92 : l.getD 0 0 = 92) (hW : BufW w B j L) (hnL : n ≤ L) (hLC : L ≤ C) :
    Calls Tryd.prog 86 #[.agg #[.bool false, .bool false, .int .i64 0], .slice (some ⟨h, o, none⟩) n c, .slice (some ⟨B, j, none⟩) L C] w (UNA (e1 l) B j w) := by
  have hB0 : Below w.heap.size w (w.alloc (.cells #[.bool false, .bool false, .int .i64 0] 90)) := below_alloc1 _
  have HB0 := Aside0.mk hB0
  have HC := cfg_new w 90
  have g0 := HC.2.1
  have g1 := HC.2.2.1
  have he : e1 l = if l.length < 2 then none
    else if isEs (l.getD 1 0) = true then some (2, [shortc (l.getD 1 0)])
    else if l.getD 1 0 = 117 then (du l).map fun r => (r.2, u8 r.1)
    else none := rfl
  have r0 : (w.alloc (.cells #[.bool false, .bool false, .int .i64 0] 90)).cell? ⟨h, o, none⟩ = some (.int .u8 92) := by
    have := (H.below hB0).2 0 (by omega)
    rwa [h92, Nat.add_zero] at this
  have hWB := Aside0.mk hW.1
  rcases Decidable.em (n < 2) with h2 | h2
  · rw [if_pos (by omega)] at he
    rw [he]
    clear he hT H hby hW
    go_enter Tryd.func86, Tryd.ntmps86
    go_wp2_with fail
    go_ret2
    exact ⟨rfl, Put.before HB0.out hWB.out (Put.nil _ _ _)⟩
  · rw [if_neg (by omega)] at he
    obtain ⟨x, hx⟩ : ∃ x, x = l.getD 1 0 := ⟨_, rfl⟩
    have r1 : (w.alloc (.cells #[.bool false, .bool false, .int .i64 0] 90)).cell? ⟨h, o + 1, none⟩ = some (.int .u8 x) := by rw [hx]; exact (H.below hB0).2 1 (by omega)
    have bx := hby.at' (k := 1) (by omega)
    rw [← hx] at he bx
    have HX := Aside0.mk hx
    clear hx h92 hB0 HC
    have hB0 := HB0.out
    have hL1 : ¬ L = 0 := by omega
    cases hes : isEs x with
    | true =>
      rw [if_pos hes] at he
      rw [he]
      obtain ⟨q, hq⟩ := Int.eq_ofNat_of_zero_le bx.1
      have t1 := (hT.below hB0).2 q (by rw [← hq]; exact hes)
      rw [← hq] at t1
      obtain ⟨u0, hu0⟩ := Option.isSome_iff_exists.1 ((hW.below hB0).2 0 (by omega)).1
      have hf0 := ((hW.below hB0).2 0 (by omega)).2
      rw [Nat.add_zero] at hu0 hf0
      have HP := Aside0.mk (put_one (x := shortc x) hu0)
      clear he hT H hby hW hB0
      rcases es_or hes with rfl | rfl | rfl | rfl | rfl | rfl | rfl | rfl
      all_goals
        obtain rfl : q = _ := (Int.ofNat_inj.1 hq).symm
        clear hes hq
        go_enter Tryd.func86, Tryd.ntmps86
        go_wp2_with fail
        go_ret2
        exact ⟨rfl, Put.before HB0.out hWB.out HP.out⟩
    | false =>
      rw [if_neg (by rw [hes]; decide)] at he
      obtain ⟨n1, n2, n3, n4, n5, n6, n7, n8⟩ := es_not hes
      clear hes
      rcases Decidable.em (x = 117) with hu | hu
      · rw [if_pos hu] at he
        have CD := decode_calls h o n c l _ (H.below hB0) hby hl hn hnc
        unfold DUA at CD
        subst hu
        cases hd : du l with
        | none =>
          rw [hd] at CD he
          rw [he]
          have CD := Aside0.mk CD
          clear he hT H hby hW hB0 hd
          go_enter Tryd.func86, Tryd.ntmps86
          go_wp2_with (go_at_call 90; refine CD.out.mono ?_; rintro e w1 ⟨rfl, k1, rfl⟩)
          go_ret2
          exact ⟨rfl, Put.before HB0.out hWB.out ((Put.nil _ _ _).drewN _)⟩
        | some rn =>
          obtain ⟨r, m⟩ := rn
          obtain ⟨hr0, hr1, h6⟩ := du_lt hd
          rw [hd] at CD he
          simp only [Option.map_some] at he CD
          rw [he]
          have hlen := Lib.runeCells_le r
          have hWb := hW.below hB0
          have HWC := Aside0.mk (fun i (hi : i < (Lib.runeCells r).length) => hWb.2 i (by omega))
          have CE := Aside0.mk (fun k => Tryd.utf8_EncodeRune B j L C r (by omega) (by omega) ((w.alloc (.cells #[.bool false, .bool false, .int .i64 0] 90)).drewN k) (by omega) (fun i hi => (HWC.out i hi).1) (fun i hi => (HWC.out i hi).2))
          have hu8 : Lib.runeCells r = (u8 r).map (Value.int .u8) := by unfold u8 Lib.runeCells; rfl
          have hul : (Lib.runeCells r).length = (u8 r).length := by rw [hu8, List.length_map]
          rw [hul] at CE
          have HP := Aside0.mk (fun k => put_cells (w := (w.alloc (.cells #[.bool false, .bool false, .int .i64 0] 90)).drewN k) (B := B) (j := j) (bs := u8 r) (fun i hi => (HWC.out i (by rw [hul]; exact hi)).1))
          rw [← hu8] at HP
          have CD := Aside0.mk CD
          have hm1 : ((m : Int) == -1) = false := by simp
          clear he hT H hby hW hB0 hd hWb hlen hu8 hul
          go_enter Tryd.func86, Tryd.ntmps86
          go_wp2_with (first
            | (go_at_call 91; refine (CE.out _).mono ?_; rintro e w2 ⟨rfl, rfl⟩)
            | (go_at_call 90; refine CD.out.mono ?_; rintro e w1 ⟨rfl, k1, rfl⟩))
          go_ret2
          exact ⟨rfl, Put.before (below_drewN HB0.out _) hWB.out (HP.out _)⟩
      · rw [if_neg hu] at he
        rw [he]
        have hub : (x == 117) = false := by simpa using hu
        clear he hT H hby hW hB0
        rcases Decidable.em (x = 39) with h39 | h39
        · subst h39
          go_enter Tryd.func86, Tryd.ntmps86
          go_wp2_with fail
          go_ret2
          exact ⟨rfl, Put.before HB0.out hWB.out (Put.nil _ _ _)⟩
        · have h39b : (x == 39) = false := by simpa using h39
          clear h39 hu
          go_enter Tryd.func86, Tryd.ntmps86
          go_wp2_with fail
          go_ret2
          exact ⟨rfl, Put.before HB0.out hWB.out (Put.nil _ _ _)⟩
end Go.Proofs.YtpahejmkidhhhaaDoor.G
