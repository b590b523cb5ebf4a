/- GjQuote; the sizes of a list of texts. -/
import Derived.Test.YtiecdhkmlpceoaaDoorGsI
import Derived.Test.YtiecdhkmlpceoaaDoorGrP
import Derived.Test.YtiecdhkmlpceoaaDoorGvJb
namespace Go.Proofs.YtiecdhkmlpceoaaDoor.G
set_option linter.unusedVariables false
set_option linter.unusedSimpArgs false
open Go.RowKit Go.Proofs.YtiecdhkmlpceoaaDoorW.PrintWords

theorem nums_back {xs : List Int} (h : ∀ x ∈ xs, 0 ≤ x ∧ x < 256) : bytesOf (strOfNums xs) = xs := by
  unfold bytesOf strOfNums
  simp only [List.map_map]
  conv => rhs; rw [← List.map_id xs]
  apply List.map_congr_left
  intro x hx
  have := h x hx
  simp only [Function.comp, id]
  rw [UInt8.toNat_ofNat', Nat.mod_eq_of_lt (by omega)]
  omega
def GQ (n : Nat) (w : World) (e : Ending) (w' : World) : Prop :=
  ∃ (q : ByteArray) (b : List Int), e = .returned (.string q) ∧ Aside0 (bytesOf q = 34 :: (b ++ [34]) ∧ QB b) ∧ Aside0 (q.size ≤ 6 * n + 2) ∧ Below w.heap.size w w'
set_option maxHeartbeats 4000000 in
set_option maxRecDepth 100000 in
theorem gq_calls (S : ByteArray) (w : World) (hs : S.size ≤ 2147483647) (hT : HexT w) (hU : Lib.Utf8Tabs 2 3 w) : Calls Tryd.prog 15 #[.string S] w (GQ S.size w) := by
  have C := Aside0.mk (quote_calls S w hs hT hU)
  go_enter Tryd.func15, Tryd.ntmps15
  go_wp2_with (first
    | (go_at_call 32; refine C.out.mono ?_; rintro e w1 ⟨v, b, rfl, R, q1, q2, q3, hb⟩; unfold BRow at R; generalize (34 :: (b ++ [34]) : List Int).length = n at R; obtain ⟨A, c, rfl⟩ := own_slice R; have kc := own_string (P := Tryd.prog) Tryd.underlying55 Tryd.underlying5 Tryd.underlying9 R; have Q := Aside0.mk (And.intro q1 (And.intro q2 q3)); clear R q1 q2 q3))
  go_ret
  obtain ⟨q1, q2, q3⟩ := Q.out
  exact ⟨_, b, rfl, ⟨nums_back q2, q1⟩, ⟨by rw [strOfNums_size]; simp; omega⟩, hb⟩
/-- The texts that came in. -/
def TextsAt (w : World) (ao : Option Addr) (N : Nat) (ss : List ByteArray) : Prop :=
  ss.length = N ∧ ∀ i, i < N → ∃ a, ao = some a ∧ a.block < w.heap.size ∧ w.cell? (a.add i) = some (.string (ss.getD i ByteArray.empty))
theorem add_block (a : Addr) (i : Nat) : (a.add i).block = a.block := by unfold Addr.add; split <;> rfl
theorem TextsAt.below {w w' : World} {ao : Option Addr} {N : Nat} {ss : List ByteArray} (h : TextsAt w ao N ss) (hb : Below w.heap.size w w') : TextsAt w' ao N ss :=
  ⟨h.1, fun i hi => by
    obtain ⟨a, h1, h2, h3⟩ := h.2 i hi
    exact ⟨a, h1, Nat.lt_of_lt_of_le h2 hb.size, by rw [hb.cell (p := a.add i) (by rw [add_block]; exact h2)]; exact h3⟩⟩
def FitA (ss : List ByteArray) (w : World) (e : Ending) (w' : World) : Prop := ∃ b : Bool, e = .returned (.bool b) ∧ w' = w ∧ Aside0 (b = true → ss.length ≤ 2147483647 ∧ ∀ i, i < ss.length → (ss.getD i ByteArray.empty).size ≤ 2147483647)
set_option maxHeartbeats 4000000 in
set_option maxRecDepth 100000 in
theorem fits1_calls (ss : List ByteArray) (ao : Option Addr) (N cap : Nat) (w : World) (hN : N ≤ 9223372036854775807) (h : TextsAt w ao N ss) : Calls Tryd.prog 13 #[.slice ao N cap] w (FitA ss w) := by
  have H := Aside0.mk h
  by_cases hbig : 2147483647 < N
  · clear h
    go_enter Tryd.func13, Tryd.ntmps13
    go_wp2_with fail
    go_ret
    exact ⟨false, rfl, rfl, ⟨fun h => by cases h⟩⟩
  · clear h
    go_enter Tryd.func13, Tryd.ntmps13
    go_wp2_with fail
    go_loop [10] (fun i => ∃ k : Nat, i = .int .i64 k ∧ k ≤ N ∧ Aside0 (∀ j, j < k → (ss.getD j ByteArray.empty).size ≤ 2147483647)) (fun i => N - (intOf i).toNat)
    case atStart => exact ⟨0, rfl, Nat.zero_le _, ⟨fun j hj => by omega⟩⟩
    case round =>
      obtain ⟨k, rfl, hk, HK⟩ := hrel
      by_cases hlt : k < N
      · obtain ⟨a, rfl, hab, hc⟩ := H.out.2 k hlt
        generalize hs : ss.getD k ByteArray.empty = s at hc
        have HS := Aside0.mk hs
        clear hs
        by_cases hsb : 2147483647 < s.size
        · go_wp2
          go_ret
          exact ⟨false, rfl, rfl, ⟨fun h => by cases h⟩⟩
        · have HK2 : Aside0 (∀ j, j < k + 1 → (ss.getD j ByteArray.empty).size ≤ 2147483647) := ⟨fun j hj => by
            by_cases e : j = k
            · rw [e, HS.out]; omega
            · exact HK.out j (by omega)⟩
          go_wp2
          go_round
          case rel => exact ⟨k + 1, by go_num, by omega, HK2⟩
          case measure => simp [intOf]; omega
      · obtain rfl : k = N := by omega
        go_wp2
        go_ret
        exact ⟨true, rfl, rfl, ⟨fun _ => ⟨by rw [H.out.1]; omega, fun i hi => HK.out i (by rw [H.out.1] at hi; exact hi)⟩⟩⟩
end Go.Proofs.YtiecdhkmlpceoaaDoor.G
