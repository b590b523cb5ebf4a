/- A number's bytes, read by fastjson's parseRawNumber: texts of 1 to 4000 bytes that do not begin with a sign and another byte, nor, where no number begins, with n or i of either size (the statement's own guards). -/
import Derived.Test.YtklllibhgalnfaaPFnFjRawNumberx2
import Derived.Test.YtklllibhgalnfaaGvL
namespace Go.Proofs.Ytklllibhgalnfaa.Pure
set_option linter.unusedVariables false
set_option linter.unusedSimpArgs false
open Go.RowKit Go.Proofs.Ytklllibhgalnfaa.G Go.Proofs.Ytklllibhgalnfaa.PFnFjRawNumber Go.Proofs.YtklllibhgalnfaaW.PrintWords Go.Proofs.YtklllibhgalnfaaW.PrintLast

theorem nbytes_l0 (s : ByteArray) (hs : s.size ≤ 4000) (d : Nat) : ∀ j : Nat, j + d = nlen s → Ev (fun k => spec_NumberBytes.l0 k s (j : Int)) (nlen s : Int) := by
  obtain ⟨h1, h2, h3⟩ := head_nlen s
  induction d with
  | zero =>
    intro j hj
    obtain rfl : j = nlen s := by omega
    by_cases hlt : nlen s < s.size
    · obtain ⟨hb, h46, h45, h101, h69, h43⟩ := nb_no (h3 hlt)
      have e := bt_get s (nlen s) hlt
      refine Ev.stepRet fun k => ?_
      rw [spec_NumberBytes.l0, if_pos (by omega), if_pos (by omega), e]
      by_cases h48 : 48 ≤ (s[nlen s].toNat : Int)
      · rw [if_pos h48, if_neg (by omega), if_neg h46, if_neg h45, if_neg h43, if_neg h101, if_neg h69]
      · rw [if_neg h48, if_neg h46, if_neg h45, if_neg h43, if_neg h101, if_neg h69]
    · refine Ev.stepRet fun k => ?_
      rw [spec_NumberBytes.l0, if_neg (by omega)]
  | succ d ih =>
    intro j hj
    have hlt : j < s.size := by omega
    have hb := nb_yes (h2 j hlt (by omega))
    have e := bt_get s j hlt
    have ew : wrap64 ((j : Int) + 1) = ((j + 1 : Nat) : Int) := by rw [w64 (by omega) (by omega)]; omega
    refine Ev.step (fun k => ?_) (ih (j + 1) (by omega))
    rw [spec_NumberBytes.l0, if_pos (by omega), if_pos (by omega), e, ew]
    rcases hb with ⟨a, b⟩ | h | h | h | h | h
    · rw [if_pos a, if_pos b]
    all_goals simp [h]

theorem low_i (x : Int) : low x = 105 ↔ x = 105 ∨ x = 73 := by unfold low; split <;> omega
theorem low_n (x : Int) : low x = 110 ↔ x = 110 ∨ x = 78 := by unfold low; split <;> omega
theorem one_ok : ∃ a b, impl_FjRawNumber.f (⟨#[49]⟩ : ByteArray) = some (a, b, true) := ⟨_, _, rfl⟩

/-- The statement. -/
theorem FnFjRawNumber : laws_FnFjRawNumber.Pure := by
  intro s hn
  unfold laws_FnFjRawNumber.f
  by_cases hb : (s.size : Int) > 2147483647
  · exact ⟨0, by rw [if_pos hb]⟩
  have yes : laws_FnFjRawNumber.j0 1 s true = some true := by simp [laws_FnFjRawNumber.j0]
  by_cases h0 : s.toList = ([] : List UInt8)
  · exact ⟨1, by rw [if_neg hb, if_pos h0, yes]⟩
  by_cases hs : (s.size : Int) > 4000
  · exact ⟨1, by rw [if_neg hb, if_neg h0, decide_eq_true hs, yes]⟩
  have hp := size_pos h0
  have hs' : s.size ≤ 4000 := by omega
  have main : Ev (fun k => laws_FnFjRawNumber.j0 k s false) true := by
    refine Ev.succ ?_
    simp only [laws_FnFjRawNumber.j0, Bool.false_eq_true, if_false]
    refine Ev.bind (a := (nlen s : Int)) (nbytes_l0 s hs' (nlen s) 0 (by omega)) ?_
    have hle := (head_nlen s).1
    have jt : Ev (fun k => laws_FnFjRawNumber.j1 k s (nlen s : Int) true) true := Ev.stepRet fun k => by simp [laws_FnFjRawNumber.j1]
    have jf : ¬ (nlen s = 1 ∧ (bt s 0 = 45 ∨ bt s 0 = 43)) → ¬ (nlen s = 0 ∧ (bt s 0 = 110 ∨ bt s 0 = 78 ∨ bt s 0 = 105 ∨ bt s 0 = 73)) → Ev (fun k => laws_FnFjRawNumber.j1 k s (nlen s : Int) false) true := by
      intro ha hb'
      obtain ⟨x, y, h1⟩ := one_ok
      refine Ev.stepRet fun k => ?_
      simp only [laws_FnFjRawNumber.j1, Bool.false_eq_true, if_false, h1, Option.bind_some, if_true]
      have two : 0 < nlen s → (if ((s.extract 0 (nlen s), s.extract (nlen s) s.size, true).2.2 == (decide ((nlen s : Int) > 0))) = true then (if (s.extract 0 (nlen s), s.extract (nlen s) s.size, true).2.2 = true then (if 0 ≤ (nlen s : Int) then (if (nlen s : Int) ≤ (s.size : Int) then (if (s.extract 0 (nlen s), s.extract (nlen s) s.size, true).1.toList = (s.extract 0 ((nlen s : Int)).toNat).toList then (some ((s.extract 0 (nlen s), s.extract (nlen s) s.size, true).2.1.toList == (s.extract ((nlen s : Int)).toNat s.size).toList)) else (some false)) else (none)) else (none)) else (some true)) else (some false)) = some true := by
        intro h
        simp only [decide_eq_true (show (nlen s : Int) > 0 by omega), beq_self_eq_true, if_true, if_pos (show (0 : Int) ≤ (nlen s : Int) by omega), if_pos (show (nlen s : Int) ≤ s.size by omega), Int.toNat_natCast]
      unfold impl_FjRawNumber.f
      rw [if_pos (by omega)]
      by_cases e1 : nlen s = s.size
      · rw [if_pos e1, Option.bind_some]
        exact two (by omega)
      · rw [if_neg e1]
        by_cases e2 : nlen s = 0
        · rw [if_pos e2, if_neg (by rw [low_i, low_n]; omega), Option.bind_some]
          simp [e2]
        · rw [if_neg e2, if_neg ha, Option.bind_some]
          exact two (by omega)
    by_cases e1 : nlen s = 1
    · simp only [if_pos (show (nlen s : Int) = 1 by omega), if_pos (show (0 : Int) < s.size by omega)]
      by_cases e2 : bt s 0 = 45
      · simp only [if_pos e2]; exact jt
      · by_cases e3 : bt s 0 = 43
        · simp only [if_neg e2, if_pos e3]; exact jt
        · simp only [if_neg e2, if_neg e3, if_neg (show ¬ (nlen s : Int) = 0 by omega)]
          exact jf (by omega) (by omega)
    · simp only [if_neg (show ¬ (nlen s : Int) = 1 by omega)]
      by_cases e2 : nlen s = 0
      · simp only [if_pos (show (nlen s : Int) = 0 by omega), if_pos (show (0 : Int) < s.size by omega)]
        by_cases g1 : bt s 0 = 110
        · simp only [if_pos g1]; exact jt
        · by_cases g2 : bt s 0 = 78
          · simp only [if_neg g1, if_pos g2]; exact jt
          · by_cases g3 : bt s 0 = 105
            · simp only [if_neg g1, if_neg g2, if_pos g3]; exact jt
            · by_cases g4 : bt s 0 = 73
              · simp only [if_neg g1, if_neg g2, if_neg g3, show (bt s 0 == 73) = true by simpa using g4]; exact jt
              · simp only [if_neg g1, if_neg g2, if_neg g3, show (bt s 0 == 73) = false by simpa using g4]
                exact jf (by omega) (by omega)
      · simp only [if_neg (show ¬ (nlen s : Int) = 0 by omega)]
        exact jf (by omega) (by omega)
  obtain ⟨k, hk⟩ := main.rounds
  exact ⟨k, by rw [if_neg hb, if_neg h0, decide_eq_false hs]; exact hk⟩

end Go.Proofs.Ytklllibhgalnfaa.Pure
