/- sjson's parsePath: a first component of letters, digits and '_' with one of '|', '#', '@', '*', '?' among them is not simple; without it it is. -/
import Derived.Test.YtklllibhgalnfaaPFnSjPathWildx3
import Derived.Test.YtklllibhgalnfaaGvL
namespace Go.Proofs.Ytklllibhgalnfaa.Pure
set_option linter.unusedVariables false
set_option linter.unusedSimpArgs false
open Go.RowKit Go.Proofs.Ytklllibhgalnfaa.G Go.Proofs.Ytklllibhgalnfaa.PFnSjPathWild Go.Proofs.YtklllibhgalnfaaW.PrintWords Go.Proofs.YtklllibhgalnfaaW.PrintLast

/-- A letter, a digit, or '_'. -/
def wordC (c : Int) : Prop := (97 ≤ c ∧ c ≤ 122) ∨ (65 ≤ c ∧ c ≤ 90) ∨ (48 ≤ c ∧ c ≤ 57) ∨ c = 95
def markC (c : Int) : Prop := c = 124 ∨ c = 35 ∨ c = 64 ∨ c = 42 ∨ c = 63

/-- gjWord comes to an end; if it says yes, all bytes are of a word. -/
theorem word_l0 (s : ByteArray) (hs : s.size ≤ 2147483647) (d : Nat) : ∀ j : Nat, j + d = s.size →
    ∃ b, Ev (fun k => laws_gjWord.l0 k s (j : Int)) b ∧ (b = true → ∀ i : Nat, j ≤ i → i < s.size → wordC (bt s i)) := by
  induction d with
  | zero =>
    intro j hj
    exact ⟨s.toList != ([] : List UInt8), Ev.stepRet fun k => by rw [laws_gjWord.l0, if_neg (by omega)], fun _ i h1 h2 => by omega⟩
  | succ d ih =>
    intro j hj
    have hlt : j < s.size := by omega
    have ew : wrap64 ((j : Int) + 1) = ((j + 1 : Nat) : Int) := by rw [w64 (by omega) (by omega)]; omega
    obtain ⟨b, hb, hw⟩ := ih (j + 1) (by omega)
    have hk : ∀ k, laws_gjWord.l0 (k + 1) s (j : Int) = if (97 ≤ bt s j ∧ bt s j ≤ 122) ∨ (65 ≤ bt s j ∧ bt s j ≤ 90) ∨ (48 ≤ bt s j ∧ bt s j ≤ 57) ∨ bt s j = 95 then laws_gjWord.l0 k s ((j + 1 : Nat) : Int) else some false := by
      intro k
      rw [laws_gjWord.l0, if_pos (by omega), if_pos (by omega), ew]
      generalize bt s (j : Int) = c
      generalize laws_gjWord.l0 k s ((j + 1 : Nat) : Int) = A
      by_cases h1 : 97 ≤ c
      · by_cases h2 : c ≤ 122
        · rw [if_pos h1, if_pos h2, if_pos (.inl ⟨h1, h2⟩)]
        · rw [if_pos h1, if_neg h2, if_pos (by omega), if_neg (by omega), if_pos (by omega), if_neg (by omega), if_neg (by omega), if_neg (by omega)]
      · rw [if_neg h1]
        by_cases h3 : 65 ≤ c
        · by_cases h4 : c ≤ 90
          · rw [if_pos h3, if_pos h4, if_pos (by omega)]
          · rw [if_pos h3, if_neg h4, if_pos (by omega), if_neg (by omega)]
            by_cases h5 : c = 95
            · rw [if_pos h5, if_pos (by omega)]
            · rw [if_neg h5, if_neg (by omega)]
        · rw [if_neg h3]
          by_cases h5 : 48 ≤ c
          · by_cases h6 : c ≤ 57
            · rw [if_pos h5, if_pos h6, if_pos (by omega)]
            · rw [if_pos h5, if_neg h6, if_neg (by omega), if_neg (by omega)]
          · rw [if_neg h5, if_neg (by omega), if_neg (by omega)]
    by_cases hc : (97 ≤ bt s j ∧ bt s j ≤ 122) ∨ (65 ≤ bt s j ∧ bt s j ≤ 90) ∨ (48 ≤ bt s j ∧ bt s j ≤ 57) ∨ bt s j = 95
    · refine ⟨b, Ev.step (fun k => by rw [hk, if_pos hc]) hb, fun h i h1 h2 => ?_⟩
      rcases Nat.lt_or_ge j i with h3 | h3
      · exact hw h i h3 h2
      · obtain rfl : i = j := by omega
        exact hc
    · exact ⟨false, Ev.stepRet fun k => by rw [hk, if_neg hc], by simp⟩

theorem simple_word {c : Int} (h : wordC c) : sjson_isSimpleChar.f c = some true ∧ c ≠ 46 ∧ c ≠ 92 ∧ c ≠ 58 := by
  unfold wordC at h
  refine ⟨?_, by omega, by omega, by omega⟩
  unfold sjson_isSimpleChar.f
  rw [if_neg (by omega), if_neg (by omega), if_neg (by omega), if_neg (by omega), if_neg (by omega)]
theorem simple_mark {c : Int} (h : markC c) : sjson_isSimpleChar.f c = some false ∧ c ≠ 46 ∧ c ≠ 58 := by
  unfold markC at h
  refine ⟨?_, by omega, by omega⟩
  unfold sjson_isSimpleChar.f
  rcases h with rfl | rfl | rfl | rfl | rfl <;> rfl

/-- The loop over a component: simple if all that is left is of a word, not simple if a mark comes behind bytes of a word. -/
theorem path_l0 (s : ByteArray) (hs : s.size ≤ 2147483650) (a b c : ByteArray) (x y : Bool) (d : Nat) : ∀ j : Nat, j + d ≤ s.size → (∀ i : Nat, j ≤ i → i < j + d → wordC (bt s i)) →
    ((j + d = s.size → Ev (fun k => sjson_parsePath.l0 k s (j : Int) a b c x y) (s, s, c, x, y, true)) ∧
     (j + d < s.size → markC (bt s ((j + d : Nat) : Int)) → Ev (fun k => sjson_parsePath.l0 k s (j : Int) a b c x y) (a, b, c, x, y, false))) := by
  induction d with
  | zero =>
    intro j hj hw
    refine ⟨fun h => Ev.stepRet fun k => by rw [sjson_parsePath.l0, if_neg (by omega)], fun h hm => Ev.stepRet fun k => ?_⟩
    obtain ⟨h1, h2, h3⟩ := simple_mark hm
    simp only [Nat.add_zero] at h1 h2 h h3
    rw [sjson_parsePath.l0, if_pos (by omega), if_pos (by omega), if_neg h2, h1]
    simp
  | succ d ih =>
    intro j hj hw
    have ew : wrap64 ((j : Int) + 1) = ((j + 1 : Nat) : Int) := by rw [w64 (by omega) (by omega)]; omega
    obtain ⟨h1, h2, h3, h4⟩ := simple_word (hw j (Nat.le_refl _) (by omega))
    have st : ∀ k, sjson_parsePath.l0 (k + 1) s (j : Int) a b c x y = sjson_parsePath.l0 k s ((j + 1 : Nat) : Int) a b c x y := by
      intro k
      rw [sjson_parsePath.l0, if_pos (by omega), if_pos (by omega), if_neg h2, h1, ew]
      simp [h3]
    obtain ⟨g1, g2⟩ := ih (j + 1) (by omega) (fun i a b => hw i (by omega) (by omega))
    refine ⟨fun h => Ev.step st (g1 (by omega)), fun h hm => Ev.step st (g2 (by omega) ?_)⟩
    rw [show j + 1 + d = j + (d + 1) by omega]; exact hm
/-- A text whose first byte is no colon. -/
theorem path_ev {s : ByteArray} (hs : s.size ≤ 2147483650) (hc : 0 < s.size → bt s 0 ≠ 58) {r : ByteArray × ByteArray × ByteArray × Bool × Bool × Bool}
    (h : Ev (fun k => sjson_parsePath.l0 k s 0 (⟨#[]⟩ : ByteArray) (⟨#[]⟩ : ByteArray) (⟨#[]⟩ : ByteArray) false false) r) : Ev (fun k => impl_SjPath.f k s) r := by
  unfold impl_SjPath.f sjson_DoorPath.f
  have h0 : Ev (fun k => sjson_parsePath.j0 k s false (⟨#[]⟩ : ByteArray) (⟨#[]⟩ : ByteArray) (⟨#[]⟩ : ByteArray) false false) r := by
    refine Ev.succ (Ev.succ ?_)
    simp only [sjson_parsePath.j0, sjson_parsePath.j1, Bool.false_eq_true, if_false]
    exact h
  have h1 : Ev (fun k => sjson_parsePath.f k s) r := by
    unfold sjson_parsePath.f
    by_cases hp : 0 < s.size
    · have hb : (bt s 0 == 58) = false := by simpa using hc hp
      simp only [if_pos (show (s.size : Int) > 0 by omega), if_pos (show 0 < (s.size : Int) by omega), hb]
      exact h0
    · simp only [if_neg (show ¬ (s.size : Int) > 0 by omega)]
      exact h0
  exact Ev.bind (Ev.bind h1 (Ev.ret fun _ => rfl)) (Ev.ret fun _ => rfl)

theorem mark_of (w : Int) (h0 : 0 ≤ w) (h5 : w < 5) : markC (bt (⟨#[124, 35, 64, 42, 63]⟩ : ByteArray) w) ∧ 0 ≤ bt (⟨#[124, 35, 64, 42, 63]⟩ : ByteArray) w ∧ bt (⟨#[124, 35, 64, 42, 63]⟩ : ByteArray) w ≤ 255 := by
  obtain rfl | rfl | rfl | rfl | rfl : w = 0 ∨ w = 1 ∨ w = 2 ∨ w = 3 ∨ w = 4 := by omega
  all_goals (unfold markC; decide)
theorem one_byte (c : Int) (h0 : 0 ≤ c) (h1 : c ≤ 255) : (strOfNums [c]).size = 1 ∧ bt (strOfNums [c]) 0 = c := by
  obtain ⟨n, rfl⟩ := Int.eq_ofNat_of_zero_le h0
  have e : (strOfNums [(n : Int)]) = ⟨#[UInt8.ofNat n]⟩ := rfl
  rw [e]
  refine ⟨rfl, ?_⟩
  have : bt (⟨#[UInt8.ofNat n]⟩ : ByteArray) 0 = ((UInt8.ofNat n).toNat : Int) := rfl
  rw [this]
  simp
  omega
theorem bt_app_l (s t : ByteArray) {i : Nat} (h : i < s.size) : bt (s ++ t) (i : Int) = bt s (i : Int) := by
  rw [bt_list, bt_list, ByteArray.data_append, Array.toList_append]
  simp only [List.getD_eq_getElem?_getD]
  rw [List.getElem?_append_left (by simpa using h)]
theorem bt_app_r (s t : ByteArray) (i : Nat) : bt (s ++ t) ((s.size + i : Nat) : Int) = bt t (i : Int) := by
  rw [bt_list, bt_list, ByteArray.data_append, Array.toList_append]
  simp only [List.getD_eq_getElem?_getD]
  rw [List.getElem?_append_right (by simp)]
  simp

/-- The statement. -/
theorem FnSjPathWild : laws_FnSjPathWild.Pure := by
  intro s at_ which hn ha hw
  unfold laws_FnSjPathWild.f
  by_cases hb : (s.size : Int) > 2147483647
  · exact ⟨0, by rw [if_pos hb]⟩
  obtain ⟨g, hg, hword⟩ := word_l0 s (by omega) s.size 0 (by omega)
  have yes : Ev (fun k => laws_FnSjPathWild.j0 k s at_ which true) true := Ev.stepRet fun k => by simp [laws_FnSjPathWild.j0]
  have main : Ev (fun k => (laws_gjWord.f k s).bind fun t117 => (if t117 = true then (if at_ < 0 then (laws_FnSjPathWild.j0 k s at_ which true) else (laws_FnSjPathWild.j0 k s at_ which (decide (at_ > (s.size : Int))))) else (laws_FnSjPathWild.j0 k s at_ which true))) true := by
    refine Ev.bind hg ?_
    cases g with
    | false => simpa using yes
    | true =>
      have hword := hword rfl
      simp only [if_true]
      by_cases h0 : at_ < 0
      · simp only [if_pos h0]; exact yes
      · by_cases h1 : at_ > (s.size : Int)
        · simp only [if_neg h0, decide_eq_true h1]; exact yes
        · simp only [if_neg h0, decide_eq_false h1]
          obtain ⟨p, rfl⟩ := Int.eq_ofNat_of_zero_le (show 0 ≤ at_ by omega)
          have hp : p ≤ s.size := by omega
          have ht : -5 < Int.tmod which 5 ∧ Int.tmod which 5 < 5 := by
            refine ⟨?_, Int.tmod_lt_of_pos which (by omega)⟩
            rcases Int.lt_or_le which 0 with h | h
            · have h1 := Int.neg_tmod (-which) 5
              rw [Int.neg_neg] at h1
              have h2 := Int.tmod_lt_of_pos (-which) (show (0 : Int) < 5 by omega)
              omega
            · have := Int.tmod_nonneg 5 h
              omega
          have e1 : wrap64 (Int.tmod which 5 + 5) = Int.tmod which 5 + 5 := w64 (by omega) (by omega)
          obtain ⟨w, hwe, w0, w5⟩ : ∃ w, Int.tmod (Int.tmod which 5 + 5) 5 = w ∧ 0 ≤ w ∧ w < 5 := ⟨_, rfl, Int.tmod_nonneg _ (by omega), Int.tmod_lt_of_pos _ (by omega)⟩
          obtain ⟨m1, m2, m3⟩ := mark_of w w0 w5
          generalize hm : bt (⟨#[124, 35, 64, 42, 63]⟩ : ByteArray) w = m at m1 m2 m3
          obtain ⟨o1, o2⟩ := one_byte m m2 m3
          generalize hmm : strOfNums [m] = mk at o1 o2
          have z1 : (s.extract 0 p).size = p := extract_size s p hp
          have z2 : (s.extract p s.size).size = s.size - p := by simp
          -- the two texts
          have q1 : Ev (fun k => impl_SjPath.f k s) (s, s, (⟨#[]⟩ : ByteArray), false, false, true) := by
            refine path_ev (by omega) (fun h => ?_) ((path_l0 s (by omega) _ _ _ _ _ s.size 0 (by omega) (fun i _ h => hword i (by omega) (by omega))).1 (by omega))
            exact (simple_word (hword 0 (by omega) h)).2.2.2
          have z3 : (s.extract 0 p ++ mk).size = p + 1 := by simp [ByteArray.size_append, z1, o1]
          have z4 : (s.extract 0 p ++ mk ++ s.extract p s.size).size = s.size + 1 := by rw [ByteArray.size_append, z3, z2]; omega
          have b1 : ∀ i : Nat, i < p → bt (s.extract 0 p ++ mk ++ s.extract p s.size) (i : Int) = bt s (i : Int) := by
            intro i hi
            rw [bt_app_l _ _ (by omega), bt_app_l _ _ (by omega), bt_extract s (a := 0) (b := p) (by omega) hp, Nat.zero_add]
          have b2 : bt (s.extract 0 p ++ mk ++ s.extract p s.size) (p : Int) = m := by
            rw [bt_app_l _ _ (by omega)]
            have := bt_app_r (s.extract 0 p) mk 0
            rw [z1] at this
            rw [show p + 0 = p from rfl] at this
            rw [this]
            exact o2
          have q2 : Ev (fun k => impl_SjPath.f k (s.extract 0 p ++ mk ++ s.extract p s.size)) ((⟨#[]⟩ : ByteArray), (⟨#[]⟩ : ByteArray), (⟨#[]⟩ : ByteArray), false, false, false) := by
            refine path_ev (by omega) (fun h => ?_) ((path_l0 _ (by omega) _ _ _ _ _ p 0 (by omega) (fun i _ h => by rw [b1 i (by omega)]; exact hword i (by omega) (by omega))).2 (by omega) ?_)
            · rcases Nat.eq_zero_or_pos p with h2 | h2
              · subst h2
                have b2' : bt (s.extract 0 0 ++ mk ++ s.extract 0 s.size) 0 = m := b2
                rw [b2']
                exact (simple_mark m1).2.2
              · have b1' : bt (s.extract 0 p ++ mk ++ s.extract p s.size) 0 = bt s 0 := b1 0 h2
                rw [b1']
                exact (simple_word (hword 0 (by omega) (by omega))).2.2.2
            · simp only [Nat.zero_add]
              rw [b2]
              exact m1
          refine Ev.succ ?_
          simp only [laws_FnSjPathWild.j0, Bool.false_eq_true, if_false, e1, hwe, if_pos w0, if_pos w5]
          refine Ev.bind q1 ?_
          simp only [if_pos (show (0 : Int) ≤ (p : Int) by omega), if_pos (show (p : Int) ≤ (s.size : Int) by omega), Option.bind_some, Int.toNat_natCast, hm, hmm]
          simp only [if_pos (show (s.extract 0 p).size + mk.size ≤ 9223372036854775807 by omega), if_pos (show (s.extract 0 p ++ mk).size + (s.extract p s.size).size ≤ 9223372036854775807 by omega)]
          exact Ev.bind q2 (Ev.ret fun k => by simp)
  obtain ⟨k, hk⟩ := main.rounds
  exact ⟨k, by rw [if_neg hb]; exact hk⟩

end Go.Proofs.Ytklllibhgalnfaa.Pure
