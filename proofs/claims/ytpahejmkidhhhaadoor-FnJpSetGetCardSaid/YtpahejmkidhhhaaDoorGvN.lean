/- jsonparser's nextToken and tokenEnd. -/
import Derived.Test.YtpahejmkidhhhaaDoorGvB
import Derived.Test.YtpahejmkidhhhaaDoorGvJs
namespace Go.Proofs.YtpahejmkidhhhaaDoor.G
set_option linter.unusedVariables false
set_option linter.unusedSimpArgs false
open Go.RowKit Go.Proofs.YtpahejmkidhhhaaDoorW.PrintWords

/-- The first byte that is no blank. -/
def nt (xs : List Int) : Int := if bl xs = xs.length then -1 else bl xs
def NTA (xs : List Int) (w : World) (e : Ending) (w' : World) : Prop := e = .returned (.int .i64 (nt xs)) ∧ Below w.heap.size w w'
theorem nt_at {xs : List Int} {k : Nat} (h : k = bl xs) (hl : k < xs.length) : nt xs = k := by unfold nt; rw [if_neg (by omega), h]
theorem nt_no {xs : List Int} (h : xs.length = bl xs) : nt xs = -1 := by unfold nt; rw [if_pos h.symm]
theorem below_alloc1 {w : World} (o : Obj) : Below w.heap.size w (w.alloc o) := (Below.refl _ _).alloc (Nat.le_refl _) o
set_option maxHeartbeats 4000000 in
set_option maxRecDepth 100000 in
theorem next_calls (h o n c : Nat) (xs : List Int) (w : World) (H : RowAt w h o xs) (hl : xs.length = n) (hn : n ≤ 140737488351232) :
    Calls Tryd.prog 63 #[.agg #[.bool false, .bool false, .int .i64 0], .slice (some ⟨h, o, none⟩) n c] w (NTA xs w) := by
  have HH := Aside0.mk (fun W (hb : Below w.heap.size w W) k (hk : k < n) => (H.below hb).2 k (by rw [hl]; exact hk))
  have HL := Aside0.mk hl
  clear H hl
  go_enter Tryd.func63, Tryd.ntmps63
  go_wp2_with fail
  have HH2 := Aside0.mk (HH.out _ (below_alloc1 (.cells #[.bool false, .bool false, .int .i64 0] 90)))
  go_loop [5, 6, 9] (fun a b i => ∃ k : Nat, i = .int .i64 k ∧ k ≤ n ∧ Aside0 (k + bl (xs.drop k) = bl xs)) (fun _ _ i => n - (intOf i).toNat)
  case atStart => exact ⟨0, rfl, Nat.zero_le _, ⟨by simp⟩⟩
  case round =>
    obtain ⟨k, rfl, hk, HK⟩ := hrel
    by_cases hlt : k < n
    · obtain ⟨x, hx⟩ : ∃ x, x = xs.getD k 0 := ⟨_, rfl⟩
      have hc := HH2.out k hlt
      rw [← hx] at hc
      have hd := drop_at HL.out hlt
      rw [← hx] at hd
      have HD := Aside0.mk hd
      clear hx hd
      cases hb : isBl x with
      | true =>
        have HB := Aside0.mk hb
        rcases isBl_or' hb with rfl | rfl | rfl | rfl
        all_goals
          clear hb
          go_wp2
          go_round
          case rel => exact ⟨k + 1, by go_num, by omega, ⟨by have := HK.out; rw [HD.out, bl_one HB.out] at this; omega⟩⟩
          case measure => simp [intOf]; omega
      | false =>
        obtain ⟨b1, b2, b3, b4⟩ := isBl_not hb
        have HX := Aside0.mk (nt_at (xs := xs) (k := k) (by have := HK.out; rw [HD.out, bl_zero hb] at this; omega) (by rw [HL.out]; exact hlt))
        clear hb
        go_wp2
        go_ret
        exact ⟨by rw [HX.out]; rfl, below_alloc1 _⟩
    · have HX := Aside0.mk (nt_no (xs := xs) (by have := HK.out; rw [drop_nil' HL.out hlt] at this; rw [HL.out]; simp [bl] at this; omega))
      go_wp2
      go_ret
      exact ⟨by rw [HX.out]; rfl, below_alloc1 _⟩
def TEA (xs : List Int) (w : World) (e : Ending) (w' : World) : Prop := e = .returned (.int .i64 (te xs : Nat)) ∧ w' = w
theorem te_one {x : Int} {l : List Int} (h : stp x = false) : te (x :: l) = te l + 1 := by rw [te, if_neg (by rw [h]; decide)]
theorem te_zero {x : Int} {l : List Int} (h : stp x = true) : te (x :: l) = 0 := by rw [te, if_pos h]
theorem stp_or {x : Int} (h : stp x = true) : x = 32 ∨ x = 10 ∨ x = 13 ∨ x = 9 ∨ x = 44 ∨ x = 125 ∨ x = 93 := by
  unfold stp at h
  simp only [Bool.or_eq_true, beq_iff_eq] at h
  omega
theorem stp_not {x : Int} (h : stp x = false) : (x != 32) = true ∧ (x != 10) = true ∧ (x != 13) = true ∧ (x != 9) = true ∧ (x != 44) = true ∧ (x != 125) = true ∧ (x != 93) = true := by
  unfold stp at h
  simp only [Bool.or_eq_false_iff] at h
  obtain ⟨⟨⟨⟨⟨⟨h1, h2⟩, h3⟩, h4⟩, h5⟩, h6⟩, h7⟩ := h
  unfold bne
  rw [h1, h2, h3, h4, h5, h6, h7]
  exact ⟨rfl, rfl, rfl, rfl, rfl, rfl, rfl⟩
set_option maxHeartbeats 4000000 in
set_option maxRecDepth 100000 in
theorem tokEnd_calls (h o n c : Nat) (xs : List Int) (w : World) (H : RowAt w h o xs) (hl : xs.length = n) (hn : n ≤ 140737488351232) :
    Calls Tryd.prog 82 #[.slice (some ⟨h, o, none⟩) n c] w (TEA xs w) := by
  have HH := Aside0.mk (fun k (hk : k < n) => H.2 k (by rw [hl]; exact hk))
  have HL := Aside0.mk hl
  clear H hl
  go_enter Tryd.func82, Tryd.ntmps82
  go_wp2_with fail
  go_loop [3, 4, 7] (fun a b i => ∃ k : Nat, i = .int .i64 k ∧ k ≤ n ∧ Aside0 (k + te (xs.drop k) = te xs)) (fun _ _ i => n - (intOf i).toNat)
  case atStart => exact ⟨0, rfl, Nat.zero_le _, ⟨by simp⟩⟩
  case round =>
    obtain ⟨k, rfl, hk, HK⟩ := hrel
    by_cases hlt : k < n
    · obtain ⟨x, hx⟩ : ∃ x, x = xs.getD k 0 := ⟨_, rfl⟩
      have hc := HH.out k hlt
      rw [← hx] at hc
      have hd := drop_at HL.out hlt
      rw [← hx] at hd
      have HD := Aside0.mk hd
      clear hx hd
      cases hb : stp x with
      | false =>
        have HB := Aside0.mk hb
        obtain ⟨b1, b2, b3, b4, b5, b6, b7⟩ := stp_not hb
        clear hb
        go_wp2
        go_round
        case rel => exact ⟨k + 1, by go_num, by omega, ⟨by have := HK.out; rw [HD.out, te_one HB.out] at this; omega⟩⟩
        case measure => simp [intOf]; omega
      | true =>
        have HX : Aside0 (te xs = k) := ⟨by have := HK.out; rw [HD.out, te_zero hb] at this; omega⟩
        rcases stp_or hb with rfl | rfl | rfl | rfl | rfl | rfl | rfl
        all_goals
          clear hb
          go_wp2
          go_ret
          exact ⟨by rw [HX.out]; rfl, rfl⟩
    · have HX : Aside0 (te xs = n) := ⟨by have := HK.out; rw [drop_nil' HL.out hlt] at this; simp [te] at this; omega⟩
      go_wp2
      go_ret
      exact ⟨by rw [HX.out]; rfl, rfl⟩
end Go.Proofs.YtpahejmkidhhhaaDoor.G
