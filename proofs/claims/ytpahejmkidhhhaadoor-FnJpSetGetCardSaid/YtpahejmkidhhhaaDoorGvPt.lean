/- A JSON value's own bytes are that value; it does not matter what stands behind it (plain). The inside of a JSON string, escape by escape (plain). -/
import Derived.Test.YtpahejmkidhhhaaDoorGvPf
section
namespace Go.Proofs.YtpahejmkidhhhaaDoor.G
set_option linter.unusedVariables false
set_option linter.unusedSimpArgs false

theorem tk_take {c : Int} {l : List Int} {n : Nat} (h : 1 ≤ n) : tk c (l.take n) = tk c l := by
  obtain ⟨m, rfl⟩ : ∃ m, n = m + 1 := ⟨n - 1, by omega⟩
  cases l with
  | nil => rfl
  | cons x l => rfl
theorem dg_take : ∀ (l : List Int) (n : Nat), dg (l.take n) = min (dg l) n
  | [], n => by simp [dg]
  | c :: l, 0 => by simp [dg]
  | c :: l, n + 1 => by
    rw [List.take_succ_cons, dg, dg]
    split
    · rw [dg_take l n]; omega
    · simp
theorem hx4_take {l : List Int} {n : Nat} (h : hx4 l = true) (hn : 4 ≤ n) : hx4 (l.take n) = true := by
  unfold hx4 at h ⊢
  simp only [Bool.and_eq_true, decide_eq_true_eq] at h ⊢
  rw [List.length_take, List.take_take, Nat.min_eq_left hn]
  exact ⟨by omega, h.2⟩
theorem esc_take {l : List Int} {k n : Nat} (h : esc l = some k) (hn : k ≤ n) : esc (l.take n) = some k := by
  have hk := esc_le h
  match l, h with
  | [], h => cases h
  | c :: l, h =>
    obtain ⟨m, rfl⟩ : ∃ m, n = m + 1 := ⟨n - 1, by omega⟩
    rw [List.take_succ_cons, esc]
    rw [esc] at h
    by_cases h1 : isEs c = true
    · rw [if_pos h1] at h ⊢; exact h
    · rw [if_neg h1] at h ⊢
      by_cases h2 : (c == 117 && hx4 l) = true
      · rw [if_pos h2] at h
        have hk5 : k = 5 := by cases h; rfl
        simp only [Bool.and_eq_true] at h2
        rw [if_pos (by rw [h2.1, hx4_take h2.2 (by omega)]; rfl)]; exact h
      · rw [if_neg h2] at h; cases h
theorem quo_take : ∀ (N : Nat) {l : List Int} {k n : Nat}, l.length ≤ N → quo l = some k → k ≤ n → quo (l.take n) = some k
  | _, [], k, n, _, h, _ => by rw [quo] at h; cases h
  | 0, c :: l, k, n, hN, h, _ => by simp at hN
  | N + 1, c :: l, k, n, hN, h, hn => by
    simp only [List.length_cons] at hN
    have hk := quo_le _ _ (Nat.le_refl _) h
    obtain ⟨m, rfl⟩ : ∃ m, n = m + 1 := ⟨n - 1, by omega⟩
    rw [List.take_succ_cons, quo_c]
    rw [quo_c] at h
    by_cases h1 : c = 34
    · rw [if_pos h1] at h ⊢; exact h
    · rw [if_neg h1] at h ⊢
      by_cases h2 : c < 32
      · rw [if_pos h2] at h; cases h
      · rw [if_neg h2] at h ⊢
        by_cases h3 : c = 92
        · rw [if_pos h3] at h ⊢
          cases he : esc l with
          | none => rw [he] at h; cases h
          | some j =>
            rw [he] at h
            simp only [] at h
            cases hq : quo (l.drop j) with
            | none => rw [hq] at h; cases h
            | some q =>
              rw [hq] at h
              have hqq : q + (j + 1) = k := by simpa using h
              have hq1 := quo_le _ _ (Nat.le_refl _) hq
              rw [esc_take he (by omega)]
              simp only []
              rw [List.drop_take, quo_take N (by rw [List.length_drop]; omega) hq (by omega)]
              exact h
        · rw [if_neg h3] at h ⊢
          cases hq : quo l with
          | none => rw [hq] at h; cases h
          | some q =>
            rw [hq] at h
            have hqq : q + 1 = k := by simpa using h
            rw [quo_take N (by omega) hq (by omega)]
            exact h
theorem ints_take {l : List Int} {i n : Nat} (h : ints l = some i) (hn : i ≤ n) : ints (l.take n) = some i := by
  have hi := ints_le h
  unfold ints at h ⊢
  rw [tk_take (by omega)]
  by_cases h1 : tk 48 l = true
  · rw [if_pos h1] at h ⊢; exact h
  · rw [if_neg h1] at h ⊢
    by_cases h2 : dg l = 0
    · rw [if_pos h2] at h; cases h
    · rw [if_neg h2] at h
      cases h
      rw [dg_take, Nat.min_eq_left hn, if_neg h2]
theorem tk_take0 {c : Int} {l : List Int} {n : Nat} (h : tk c l = false) : tk c (l.take n) = false := by
  cases n with
  | zero => rfl
  | succ n => rw [tk_take (by omega)]; exact h
theorem frac_take {l : List Int} {i n : Nat} (h : frac l = some i) (hn : i ≤ n) : frac (l.take n) = some i := by
  unfold frac at h ⊢
  by_cases h1 : tk 46 l = true
  · rw [if_pos h1] at h
    by_cases h2 : dg (l.drop 1) = 0
    · rw [if_pos h2] at h; cases h
    · rw [if_neg h2] at h
      cases h
      rw [tk_take (by omega), if_pos h1, List.drop_take, dg_take, Nat.min_eq_left (by omega), if_neg h2]
  · rw [if_neg h1] at h
    rw [if_neg (by rw [tk_take0 (by simpa using h1)]; decide)]; exact h
theorem sgn_take {l : List Int} {n : Nat} (h : sgn l ≤ n) (h1 : 1 ≤ n ∨ sgn l = 0) : sgn (l.take n) = sgn l := by
  unfold sgn at h h1 ⊢
  rcases Nat.eq_zero_or_pos n with h0 | h0
  · subst h0
    rcases h1 with h1 | h1
    · omega
    · rw [h1]; rfl
  · rw [tk_take h0, tk_take h0]
theorem expo_take {l : List Int} {i n : Nat} (h : expo l = some i) (hn : i ≤ n) : expo (l.take n) = some i := by
  unfold expo at h ⊢
  by_cases h1 : (tk 101 l || tk 69 l) = true
  · rw [if_pos h1] at h
    by_cases h2 : dg (l.drop (1 + sgn (l.drop 1))) = 0
    · rw [if_pos h2] at h; cases h
    · rw [if_neg h2] at h
      cases h
      have hs : sgn ((l.take n).drop 1) = sgn (l.drop 1) := by
        rw [List.drop_take]; exact sgn_take (by omega) (.inl (by omega))
      rw [tk_take (by omega), tk_take (by omega), if_pos h1, hs, List.drop_take, dg_take, Nat.min_eq_left (by omega), if_neg h2]
  · rw [if_neg h1] at h
    simp only [Bool.or_eq_true, not_or, Bool.not_eq_true] at h1
    rw [if_neg (by rw [tk_take0 h1.1, tk_take0 h1.2]; decide)]; exact h
theorem num_take {l : List Int} {k n : Nat} (h : num l = some k) (hn : k ≤ n) : num (l.take n) = some k := by
  have hk := num_le h
  unfold num at h ⊢
  have hm : mns (l.take n) = mns l := by unfold mns; rw [tk_take (by omega)]
  rw [hm]
  cases hi : ints (l.drop (mns l)) with
  | none => rw [hi] at h; cases h
  | some i =>
    rw [hi] at h
    simp only [] at h
    cases hf : frac (l.drop (mns l + i)) with
    | none => rw [hf] at h; cases h
    | some f =>
      rw [hf] at h
      simp only [] at h
      cases he : expo (l.drop (mns l + i + f)) with
      | none => rw [he] at h; cases h
      | some e =>
        rw [he] at h
        have hke : mns l + i + f + e = k := by simpa using h
        rw [List.drop_take, ints_take hi (by omega)]
        simp only []
        rw [List.drop_take, frac_take hf (by omega)]
        simp only []
        rw [List.drop_take, expo_take he (by omega)]
        exact h
theorem pre_take_n {w l : List Int} {n : Nat} (h : w.length ≤ n) : pre w (l.take n) = pre w l := by
  unfold pre
  rw [List.take_take, Nat.min_eq_left h]
theorem pre_no {w l : List Int} {n : Nat} (h : pre w l = false) : pre w (l.take n) = false := by
  by_cases hn : w.length ≤ n
  · rw [pre_take_n hn]; exact h
  · cases hp : pre w (l.take n) with
    | false => rfl
    | true =>
      have := pre_len hp
      rw [List.length_take] at this
      omega
theorem nam_take {l : List Int} {q d n : Nat} (h : nam l = some (q, d)) (hd : d ≤ n) : nam (l.take n) = some (q, d) := by
  have hl := nam_le h
  unfold nam at h ⊢
  by_cases h1 : tk 34 l = true
  · rw [if_pos h1] at h
    rw [tk_take (by omega), if_pos h1]
    cases hq : quo (l.drop 1) with
    | none => rw [hq] at h; cases h
    | some q' =>
      rw [hq] at h
      simp only [] at h
      by_cases h2 : tk 58 (l.drop (1 + q' + bl (l.drop (1 + q')))) = true
      · rw [if_pos h2] at h
        simp only [Option.some.injEq, Prod.mk.injEq] at h
        obtain ⟨e1, e2⟩ := h
        rw [List.drop_take, quo_take _ (Nat.le_refl _) hq (by omega)]
        simp only []
        have hb1 : bl ((l.take n).drop (1 + q')) = bl (l.drop (1 + q')) := by rw [List.drop_take, bl_take]; omega
        have hb2 : bl ((l.take n).drop (1 + q' + bl (l.drop (1 + q')) + 1)) = bl (l.drop (1 + q' + bl (l.drop (1 + q')) + 1)) := by rw [List.drop_take, bl_take]; omega
        rw [hb1, hb2, List.drop_take, tk_take (by omega), if_pos h2, e2, e1]
      · rw [if_neg h2] at h; cases h
  · rw [if_neg h1] at h; cases h
set_option maxHeartbeats 1000000 in
theorem take_all : ∀ N : Nat,
    (∀ (a : Nat) (l : List Int) (p : Pl) (k n : Nat), l.length ≤ N → V a l = some (p, k) → k ≤ n → V a (l.take n) = some (p, k)) ∧
    (∀ (a : Nat) (l : List Int) (ks : List Pl) (k n : Nat), l.length ≤ N → E a l = some (ks, k) → k ≤ n → E a (l.take n) = some (ks, k)) ∧
    (∀ (a : Nat) (l : List Int) (ns : List (Nat × Nat)) (ks : List Pl) (k n : Nat), l.length ≤ N → M a l = some (ns, ks, k) → k ≤ n → M a (l.take n) = some (ns, ks, k)) := by
  intro N
  induction N with
  | zero =>
    refine ⟨fun a l p k n hl h _ => ?_, fun a l ks k n hl h _ => ?_, fun a l ns ks k n hl h _ => ?_⟩
    all_goals obtain rfl : l = [] := List.eq_nil_of_length_eq_zero (by omega)
    all_goals rw [List.take_nil]; exact h
  | succ N ih =>
    obtain ⟨ihv, ihe, ihm⟩ := ih
    have hv : ∀ (a : Nat) (l : List Int) (p : Pl) (k n : Nat), l.length ≤ N + 1 → V a l = some (p, k) → k ≤ n → V a (l.take n) = some (p, k) := by
      intro a l p k n hl h hn
      have hk := V_le h
      match l, hl, h, hk with
      | [], _, h, hk => simp at hk; omega
      | c :: l, hl, h, hk =>
        simp only [List.length_cons] at hl hk
        obtain ⟨m, rfl⟩ : ∃ m, n = m + 1 := ⟨n - 1, by omega⟩
        rw [List.take_succ_cons, V_eq, one]
        rw [V_eq, one] at h
        by_cases h1 : c = 123
        · rw [if_pos h1] at h ⊢
          cases ho : obj V (a + 1) l with
          | none => rw [ho] at h; cases h
          | some r =>
            rw [ho] at h
            have hkr : 1 + r.2.2 = k := by simp only [Option.map_some, Option.some.injEq, Prod.mk.injEq] at h; exact h.2
            have : obj V (a + 1) (l.take m) = some r := by
              unfold obj at ho ⊢
              by_cases h2 : tk 125 (l.drop (bl l)) = true
              · rw [if_pos h2] at ho
                have hb : bl l + 1 ≤ m := by cases ho; simp only [] at hkr; omega
                have hbt : bl (l.take m) = bl l := by rw [bl_take]; omega
                rw [hbt, List.drop_take, tk_take (by omega), if_pos h2]; exact ho
              · rw [if_neg h2] at ho
                have e1 : mbs V l.length (a + 1 + bl l) (l.drop (bl l)) = M (a + 1 + bl l) (l.drop (bl l)) := mbs_fuel (fun _ _ _ _ => V_le) _ _ _ _ (by rw [List.length_drop]; omega) (Nat.le_refl _)
                rw [e1] at ho
                cases hm : M (a + 1 + bl l) (l.drop (bl l)) with
                | none => rw [hm] at ho; cases ho
                | some r' =>
                  obtain ⟨ns, ks, k'⟩ := r'
                  rw [hm] at ho
                  have hr : r.2.2 = bl l + k' := by cases ho; rfl
                  obtain ⟨q0, d, p0, j, ns', ks', hn0, hv0, _⟩ := M_cases hm
                  have hnl := nam_le hn0
                  have hm1 : 1 ≤ k' := by
                    have := mbs_le (fun _ _ _ _ => V_le) _ _ _ _ hm
                    exact this.1
                  have hbt : bl (l.take m) = bl l := by rw [bl_take]; omega
                  rw [hbt, List.drop_take, tk_take (by omega), if_neg h2]
                  have e2 : mbs V (l.take m).length (a + 1 + bl l) ((l.drop (bl l)).take (m - bl l)) = M (a + 1 + bl l) ((l.drop (bl l)).take (m - bl l)) := mbs_fuel (fun _ _ _ _ => V_le) _ _ _ _ (by rw [List.length_take, List.length_take, List.length_drop]; omega) (Nat.le_refl _)
                  rw [e2, ihm _ _ _ _ _ _ (by rw [List.length_drop]; omega) hm (by omega)]
                  exact ho
            rw [this]; exact h
        · rw [if_neg h1] at h ⊢
          by_cases h2 : c = 91
          · rw [if_pos h2] at h ⊢
            cases ho : lst V (a + 1) l with
            | none => rw [ho] at h; cases h
            | some r =>
              rw [ho] at h
              have hkr : 1 + r.2 = k := by simp only [Option.map_some, Option.some.injEq, Prod.mk.injEq] at h; exact h.2
              have : lst V (a + 1) (l.take m) = some r := by
                unfold lst at ho ⊢
                by_cases h2 : tk 93 (l.drop (bl l)) = true
                · rw [if_pos h2] at ho
                  have hb : bl l + 1 ≤ m := by cases ho; simp only [] at hkr; omega
                  have hbt : bl (l.take m) = bl l := by rw [bl_take]; omega
                  rw [hbt, List.drop_take, tk_take (by omega), if_pos h2]; exact ho
                · rw [if_neg h2] at ho
                  have e1 : els V l.length (a + 1 + bl l) (l.drop (bl l)) = E (a + 1 + bl l) (l.drop (bl l)) := els_fuel (fun _ _ _ _ => V_le) _ _ _ _ (by rw [List.length_drop]; omega) (Nat.le_refl _)
                  rw [e1] at ho
                  cases hm : E (a + 1 + bl l) (l.drop (bl l)) with
                  | none => rw [hm] at ho; cases ho
                  | some r' =>
                    obtain ⟨ks, k'⟩ := r'
                    rw [hm] at ho
                    have hr : r.2 = bl l + k' := by cases ho; rfl
                    have hm1 : 1 ≤ k' := by
                      have := els_le (fun _ _ _ _ => V_le) _ _ _ _ hm
                      exact this.1
                    have hbt : bl (l.take m) = bl l := by rw [bl_take]; omega
                    rw [hbt, List.drop_take, tk_take (by omega), if_neg h2]
                    have e2 : els V (l.take m).length (a + 1 + bl l) ((l.drop (bl l)).take (m - bl l)) = E (a + 1 + bl l) ((l.drop (bl l)).take (m - bl l)) := els_fuel (fun _ _ _ _ => V_le) _ _ _ _ (by rw [List.length_take, List.length_take, List.length_drop]; omega) (Nat.le_refl _)
                    rw [e2, ihe _ _ _ _ _ (by rw [List.length_drop]; omega) hm (by omega)]
                    exact ho
              rw [this]; exact h
          · rw [if_neg h2] at h ⊢
            by_cases h3 : c = 34
            · rw [if_pos h3] at h ⊢
              cases hq : quo l with
              | none => rw [hq] at h; cases h
              | some q =>
                rw [hq] at h
                have hkr : 1 + q = k := by simp only [Option.map_some, Option.some.injEq, Prod.mk.injEq] at h; exact h.2
                rw [quo_take _ (Nat.le_refl _) hq (by omega)]; exact h
            · rw [if_neg h3] at h ⊢
              by_cases h4 : c = 45 ∨ isDg c = true
              · rw [if_pos h4] at h ⊢
                cases hq : num (c :: l) with
                | none => rw [hq] at h; cases h
                | some q =>
                  rw [hq] at h
                  have hkr : q = k := by simp only [Option.map_some, Option.some.injEq, Prod.mk.injEq] at h; exact h.2
                  have := num_take (n := m + 1) hq (by omega)
                  rw [List.take_succ_cons] at this
                  rw [this]; exact h
              · rw [if_neg h4] at h ⊢
                have hp : ∀ w, w.length ≤ m + 1 → pre w (c :: l.take m) = pre w (c :: l) := fun w hw => by
                  have := pre_take_n (l := c :: l) hw
                  rwa [List.take_succ_cons] at this
                have hp0 : ∀ w, ¬ pre w (c :: l) = true → ¬ pre w (c :: l.take m) = true := fun w hw => by
                  have := pre_no (n := m + 1) (by simpa using hw : pre w (c :: l) = false)
                  rw [List.take_succ_cons] at this
                  rw [this]; decide
                by_cases w1 : pre wnull (c :: l) = true
                · rw [if_pos w1] at h
                  have : 4 = k := by simp only [Option.some.injEq, Prod.mk.injEq] at h; exact h.2
                  rw [hp wnull (by simp [wnull]; omega), if_pos w1]; exact h
                · rw [if_neg w1] at h
                  rw [if_neg (hp0 _ w1)]
                  by_cases w2 : pre wfalse (c :: l) = true
                  · rw [if_pos w2] at h
                    have : 5 = k := by simp only [Option.some.injEq, Prod.mk.injEq] at h; exact h.2
                    rw [hp wfalse (by simp [wfalse]; omega), if_pos w2]; exact h
                  · rw [if_neg w2] at h
                    rw [if_neg (hp0 _ w2)]
                    by_cases w3 : pre wtrue (c :: l) = true
                    · rw [if_pos w3] at h
                      have : 4 = k := by simp only [Option.some.injEq, Prod.mk.injEq] at h; exact h.2
                      rw [hp wtrue (by simp [wtrue]; omega), if_pos w3]; exact h
                    · rw [if_neg w3] at h; cases h
    refine ⟨hv, fun a l ks k n hl h hn => ?_, fun a l ns ks k n hl h hn => ?_⟩
    · rw [E_eq] at h ⊢
      cases hv1 : V a l with
      | none => rw [hv1] at h; cases h
      | some r =>
        obtain ⟨p, j⟩ := r
        rw [hv1] at h
        simp only [] at h
        have hj := V_le hv1
        by_cases h1 : tk 93 (l.drop (j + bl (l.drop j))) = true
        · rw [if_pos h1] at h
          simp only [Option.some.injEq, Prod.mk.injEq] at h
          rw [hv a l p j n hl hv1 (by omega)]
          simp only []
          have hb : bl ((l.take n).drop j) = bl (l.drop j) := by rw [List.drop_take, bl_take]; omega
          rw [hb, List.drop_take, tk_take (by omega), if_pos h1, h.1, h.2]
        · rw [if_neg h1] at h
          by_cases h2 : tk 44 (l.drop (j + bl (l.drop j))) = true
          · rw [if_pos h2] at h
            generalize hr : j + bl (l.drop j) + 1 = r at h
            cases he : E (a + (r + bl (l.drop r))) (l.drop (r + bl (l.drop r))) with
            | none => rw [he] at h; cases h
            | some e =>
              obtain ⟨ks2, k2⟩ := e
              rw [he] at h
              simp only [Option.map_some, Option.some.injEq, Prod.mk.injEq] at h
              have hm1 : 1 ≤ k2 := (els_le (fun _ _ _ _ => V_le) _ _ _ _ he).1
              rw [hv a l p j n hl hv1 (by omega)]
              simp only []
              have hb : bl ((l.take n).drop j) = bl (l.drop j) := by rw [List.drop_take, bl_take]; omega
              have hb2 : bl ((l.take n).drop r) = bl (l.drop r) := by rw [List.drop_take, bl_take]; omega
              rw [hb, hr, hb2, List.drop_take, tk_take (by omega), tk_take (by omega), if_neg h1, if_pos h2, List.drop_take, ihe _ _ _ _ _ (by rw [List.length_drop]; omega) he (by omega)]
              simp only [Option.map_some, h.1, h.2]
          · rw [if_neg h2] at h; cases h
    · rw [M_eq] at h ⊢
      cases hn1 : nam l with
      | none => rw [hn1] at h; cases h
      | some qd =>
        obtain ⟨q, d⟩ := qd
        rw [hn1] at h
        simp only [] at h
        have hd := nam_le hn1
        cases hv1 : V (a + d) (l.drop d) with
        | none => rw [hv1] at h; cases h
        | some r =>
          obtain ⟨p, j⟩ := r
          rw [hv1] at h
          simp only [] at h
          have hj := V_le hv1
          rw [List.length_drop] at hj
          have hdj : d + j + bl (l.drop (d + j)) + 1 ≤ n := by
            by_cases h1 : tk 125 (l.drop (d + j + bl (l.drop (d + j)))) = true
            · rw [if_pos h1] at h
              simp only [Option.some.injEq, Prod.mk.injEq] at h
              omega
            · rw [if_neg h1] at h
              by_cases h2 : tk 44 (l.drop (d + j + bl (l.drop (d + j)))) = true
              · rw [if_pos h2] at h
                cases he : M (a + (d + j + bl (l.drop (d + j)) + 1 + bl (l.drop (d + j + bl (l.drop (d + j)) + 1)))) (l.drop (d + j + bl (l.drop (d + j)) + 1 + bl (l.drop (d + j + bl (l.drop (d + j)) + 1)))) with
                | none => rw [he] at h; cases h
                | some e =>
                  rw [he] at h
                  simp only [Option.map_some, Option.some.injEq, Prod.mk.injEq] at h
                  omega
              · rw [if_neg h2] at h; cases h
          rw [nam_take hn1 (by omega)]
          simp only []
          have hv2 : V (a + d) ((l.take n).drop d) = some (p, j) := by
            rw [List.drop_take]; exact hv _ _ p j _ (by rw [List.length_drop]; omega) hv1 (by omega)
          rw [hv2]
          simp only []
          have hb : bl ((l.take n).drop (d + j)) = bl (l.drop (d + j)) := by rw [List.drop_take, bl_take]; omega
          rw [hb]
          by_cases h1 : tk 125 (l.drop (d + j + bl (l.drop (d + j)))) = true
          · rw [if_pos h1] at h
            rw [List.drop_take, tk_take (by omega), if_pos h1]; exact h
          · rw [if_neg h1] at h
            by_cases h2 : tk 44 (l.drop (d + j + bl (l.drop (d + j)))) = true
            · rw [if_pos h2] at h
              generalize hr : d + j + bl (l.drop (d + j)) + 1 = r at h hdj
              cases he : M (a + (r + bl (l.drop r))) (l.drop (r + bl (l.drop r))) with
              | none => rw [he] at h; cases h
              | some e =>
                obtain ⟨ns2, ks2, k2⟩ := e
                rw [he] at h
                simp only [Option.map_some, Option.some.injEq, Prod.mk.injEq] at h
                have hm1 : 1 ≤ k2 := (mbs_le (fun _ _ _ _ => V_le) _ _ _ _ he).1
                have hb2 : bl ((l.take n).drop r) = bl (l.drop r) := by rw [List.drop_take, bl_take]; omega
                rw [hb2, List.drop_take, tk_take (by omega), tk_take (by omega), if_neg h1, if_pos h2, List.drop_take, ihm _ _ _ _ _ _ (by rw [List.length_drop]; omega) he (by omega)]
                simp only [Option.map_some, h.1, h.2.1, h.2.2]
            · rw [if_neg h2] at h; cases h
theorem V_take {a k n : Nat} {l : List Int} {p : Pl} (h : V a l = some (p, k)) (hn : k ≤ n) : V a (l.take n) = some (p, k) := (take_all _).1 a l p k n (Nat.le_refl _) h hn
/-- What stands behind does not matter. -/
theorem V_ext {a k : Nat} {l x : List Int} {p : Pl} (h : V a l = some (p, k)) (hx : k < l.length ∨ dl x) : V a (l ++ x) = some (p, k) := by
  have h1 := vl_ext (a' := a) (V_vl h) hx
  unfold vl at h1
  cases h2 : V a (l ++ x) with
  | none => rw [h2] at h1; cases h1
  | some r =>
    obtain ⟨p', k'⟩ := r
    rw [h2] at h1
    have : k' = k := by simpa using h1
    subst this
    have h3 := V_take h2 (Nat.le_refl k')
    have hk := V_le h
    rw [List.take_append_of_le_length hk.2, V_take h (Nat.le_refl _)] at h3
    simp only [Option.some.injEq, Prod.mk.injEq] at h3
    rw [h3.1]
/-- A value whose bytes stand elsewhere. -/
theorem V_same {a k n : Nat} {l l' : List Int} {p : Pl} (h : V a l = some (p, k)) (hkn : k < n) (hn : n ≤ l.length) (he : l'.take n = l.take n) : V a l' = some (p, k) := by
  have h1 := V_take h (Nat.le_of_lt hkn)
  rw [← List.take_append_drop n l', he]
  exact V_ext h1 (.inl (by rw [List.length_take]; omega))
end Go.Proofs.YtpahejmkidhhhaaDoor.G
end

section
namespace Go.Proofs.YtpahejmkidhhhaaDoor.G
set_option linter.unusedVariables false
set_option linter.unusedSimpArgs false
open Go.Proofs.YtpahejmkidhhhaaDoorW.PrintWords

def h4v (R : List Int) (i : Nat) : Int := hexv (R.getD i 0) * 4096 + hexv (R.getD (i + 1) 0) * 256 + hexv (R.getD (i + 2) 0) * 16 + hexv (R.getD (i + 3) 0)
theorem hexv_bd {c : Int} (h : isHx c = true) : 0 ≤ hexv c ∧ hexv c ≤ 15 := by
  unfold isHx at h
  simp only [Bool.or_eq_true, Bool.and_eq_true, decide_eq_true_eq] at h
  unfold hexv
  split
  · omega
  · split
    · omega
    · split
      · omega
      · omega
theorem su_at {R : List Int} {k : Nat} (hk : k + 6 ≤ R.length) (h : ∀ j, j < 4 → isHx (R.getD (k + 2 + j) 0) = true) : su (R.drop k) = some (h4v R (k + 2)) := by
  unfold su
  have h0 := hexv_bd (h 0 (by omega))
  have h1 := hexv_bd (h 1 (by omega))
  have h2 := hexv_bd (h 2 (by omega))
  have h3 := hexv_bd (h 3 (by omega))
  simp only [Nat.add_zero, Nat.add_assoc, Nat.reduceAdd] at h0 h1 h2 h3
  rw [List.length_drop, if_neg (by omega)]
  simp only [getD_drop]
  rw [if_neg (by omega)]
  unfold h4v
  simp only [Nat.add_assoc, Nat.reduceAdd]
theorem u8_half {r : Int} (h : 55296 ≤ r ∧ r ≤ 57343) : u8 r = u8 65533 := by
  have h1 : u8 65533 = [239, 191, 189] := by decide
  rw [h1]
  unfold u8 Lib.encodeRuneZ
  rw [if_neg (by omega), if_neg (by omega), if_neg (by omega), if_neg (by omega)]
theorem hx4_at {Z : List Int} {i : Nat} (h : hx4 (Z.drop i) = true) : i + 4 ≤ Z.length ∧ ∀ j, j < 4 → isHx (Z.getD (i + j) 0) = true := by
  unfold hx4 at h
  simp only [Bool.and_eq_true, decide_eq_true_eq] at h
  obtain ⟨h1, h2⟩ := h
  rw [List.length_drop] at h1
  refine ⟨by omega, fun j hj => ?_⟩
  have h3 := List.all_eq_true.1 h2
  refine h3 _ (List.mem_take_iff_getElem.2 ⟨j, by rw [List.length_drop]; omega, ?_⟩)
  simp [List.getD_eq_getElem?_getD, List.getElem?_eq_getElem (show i + j < Z.length by omega)]
/-- What an escape says, where a string goes on. -/
theorem quo_esc {Z : List Int} {k m : Nat} (hk : k < Z.length) (h92 : Z.getD k 0 = 92) (hq : quo (Z.drop k) = some m) :
    (isEs (Z.getD (k + 1) 0) = true ∧ 3 ≤ m ∧ quo (Z.drop (k + 2)) = some (m - 2)) ∨
    (Z.getD (k + 1) 0 = 117 ∧ isEs (Z.getD (k + 1) 0) = false ∧ 7 ≤ m ∧ (∀ j, j < 4 → isHx (Z.getD (k + 2 + j) 0) = true) ∧ quo (Z.drop (k + 6)) = some (m - 6)) := by
  rw [drop_cons' Z k hk, h92, quo_c, if_neg (by decide), if_neg (by decide), if_pos rfl] at hq
  cases he : esc (Z.drop (k + 1)) with
  | none => rw [he] at hq; cases hq
  | some j =>
    rw [he] at hq
    simp only [List.drop_drop] at hq
    have hj := esc_le he
    rw [List.length_drop] at hj
    cases hq2 : quo (Z.drop (k + 1 + j)) with
    | none => rw [hq2] at hq; cases hq
    | some q =>
      rw [hq2] at hq
      have hqq : q + (j + 1) = m := by simpa using hq
      have hq1 := quo_le _ _ (Nat.le_refl _) hq2
      rw [drop_cons' Z (k + 1) (by omega), esc] at he
      by_cases h1 : isEs (Z.getD (k + 1) 0) = true
      · rw [if_pos h1] at he
        cases he
        exact .inl ⟨h1, by omega, by rw [show m - 2 = q by omega]; exact hq2⟩
      · rw [if_neg h1] at he
        by_cases h2 : (Z.getD (k + 1) 0 == 117 && hx4 (Z.drop (k + 1 + 1))) = true
        · rw [if_pos h2] at he
          cases he
          simp only [Bool.and_eq_true, beq_iff_eq] at h2
          exact .inr ⟨h2.1, by simpa using h1, by omega, (hx4_at h2.2).2, by rw [show m - 6 = q by omega]; exact hq2⟩
        · rw [if_neg h2] at he; cases he
structure Pair (R : List Int) (k : Nat) : Prop where
  hi : 55296 ≤ h4v R (k + 2) ∧ h4v R (k + 2) ≤ 56319
  c6 : R.getD (k + 6) 0 = 92
  c7 : R.getD (k + 7) 0 = 117
  len : k + 12 ≤ R.length
  hx : ∀ j, j < 4 → isHx (R.getD (k + 8 + j) 0) = true
  lo : 56320 ≤ h4v R (k + 8) ∧ h4v R (k + 8) ≤ 57343
theorem unq_step {R : List Int} {n k : Nat} (hn : R.length = n) (hk : k < n) (hq : quo ((R ++ [34]).drop k) = some (n + 1 - k)) :
    (R.getD k 0 ≠ 92 ∧ quo ((R ++ [34]).drop (k + 1)) = some (n + 1 - (k + 1)) ∧ ue (R.drop k) = (ue (R.drop (k + 1))).map (R.getD k 0 :: ·)) ∨
    (R.getD k 0 = 92 ∧ isEs (R.getD (k + 1) 0) = true ∧ k + 2 ≤ n ∧ quo ((R ++ [34]).drop (k + 2)) = some (n + 1 - (k + 2)) ∧ ue (R.drop k) = (ue (R.drop (k + 2))).map (shortc (R.getD (k + 1) 0) :: ·)) ∨
    (R.getD k 0 = 92 ∧ R.getD (k + 1) 0 = 117 ∧ k + 6 ≤ n ∧ (∀ j, j < 4 → isHx (R.getD (k + 2 + j) 0) = true) ∧
      ((¬ Pair R k ∧ quo ((R ++ [34]).drop (k + 6)) = some (n + 1 - (k + 6)) ∧ ue (R.drop k) = (ue (R.drop (k + 6))).map (u8 (h4v R (k + 2)) ++ ·) ∧
          (R.getD (k + 6) 0 = 92 → R.getD (k + 7) 0 = 117 → k + 8 ≤ n → k + 12 ≤ n ∧ ∀ j, j < 4 → isHx (R.getD (k + 8 + j) 0) = true)) ∨
       (Pair R k ∧ quo ((R ++ [34]).drop (k + 12)) = some (n + 1 - (k + 12)) ∧ ue (R.drop k) = (ue (R.drop (k + 12))).map (u8 (65536 + (h4v R (k + 2) - 55296) * 1024 + (h4v R (k + 8) - 56320)) ++ ·)))) := by
  have hZ : ∀ i, i < n → (R ++ [34]).getD i 0 = R.getD i 0 := fun i hi => by
    rw [List.getD_eq_getElem?_getD, List.getElem?_append_left (by omega), ← List.getD_eq_getElem?_getD]
  have hZl : (R ++ [34]).length = n + 1 := by simp [hn]
  have hd := drop_cons' R k (by omega)
  by_cases h92 : R.getD k 0 = 92
  · rcases quo_esc (by omega) (by rw [hZ k hk]; exact h92) hq with ⟨h1, h2, h3⟩ | ⟨h1, h0, h2, h3, h4⟩
    · rw [hZ (k + 1) (by omega)] at h1
      refine .inr (.inl ⟨h92, h1, by omega, by rw [h3]; congr 1, ?_⟩)
      rw [hd, ue_esc h92]
      have he : e1 (R.getD k 0 :: R.drop (k + 1)) = some (2, [shortc (R.getD (k + 1) 0)]) := by
        rw [drop_cons' R (k + 1) (by omega)]
        unfold e1
        rw [if_neg (by simp), if_pos (by simpa using h1)]
        rfl
      rw [he]
      simp only [List.drop_succ_cons, List.drop_drop]
      rfl
    · rw [hZ (k + 1) (by omega)] at h1 h0
      have hx1 : ∀ j, j < 4 → isHx (R.getD (k + 2 + j) 0) = true := fun j hj => by rw [← hZ _ (by omega)]; exact h3 j hj
      have hs := su_at (R := R) (k := k) (by omega) hx1
      refine .inr (.inr ⟨h92, h1, by omega, hx1, ?_⟩)
      have e1u : e1 (R.drop k) = (du (R.drop k)).map fun r => (r.2, u8 r.1) := by
        unfold e1
        simp only [getD_drop]
        rw [List.length_drop, if_neg (by omega), if_neg (by rw [h0]; decide), if_pos h1]
      have hnext : R.getD (k + 6) 0 = 92 → R.getD (k + 7) 0 = 117 → k + 8 ≤ n → (k + 12 ≤ n ∧ (∀ j, j < 4 → isHx (R.getD (k + 8 + j) 0) = true)) ∧ quo ((R ++ [34]).drop (k + 12)) = some (n + 1 - (k + 12)) := fun c6 c7 c8 => by
        have h4' : quo ((R ++ [34]).drop (k + 6)) = some (n + 1 - (k + 6)) := by rw [h4]; congr 1
        rcases quo_esc (k := k + 6) (by omega) (by rw [hZ _ (by omega)]; exact c6) h4' with ⟨g1, _⟩ | ⟨g1, g0, g2, g3, g4⟩
        · rw [hZ _ (by omega), c7] at g1; cases g1
        · exact ⟨⟨by omega, fun j hj => by rw [← hZ _ (by omega)]; exact g3 j hj⟩, by rw [g4]; congr 1⟩
      have fin6 : ∀ x : Int, du (R.drop k) = some (x, 6) → u8 x = u8 (h4v R (k + 2)) → ¬ Pair R k → (¬ Pair R k ∧ quo ((R ++ [34]).drop (k + 6)) = some (n + 1 - (k + 6)) ∧ ue (R.drop k) = (ue (R.drop (k + 6))).map (u8 (h4v R (k + 2)) ++ ·) ∧
          (R.getD (k + 6) 0 = 92 → R.getD (k + 7) 0 = 117 → k + 8 ≤ n → k + 12 ≤ n ∧ ∀ j, j < 4 → isHx (R.getD (k + 8 + j) 0) = true)) := fun x hx hu hp => by
        refine ⟨hp, by rw [h4]; congr 1, ?_, fun c6 c7 c8 => (hnext c6 c7 c8).1⟩
        have he : e1 (R.drop k) = some (6, u8 x) := by rw [e1u, hx]; rfl
        rw [hd] at he ⊢
        rw [ue_esc h92, he, hu]
        simp only [List.drop_succ_cons, List.drop_drop]
      by_cases c1 : ¬ (55296 ≤ h4v R (k + 2) ∧ h4v R (k + 2) ≤ 57343)
      · exact .inl (fin6 _ (by unfold du; rw [hs]; simp only []; rw [if_pos c1]) rfl (fun hp => by have := hp.hi; omega))
      · have c1' := Decidable.not_not.1 c1
        by_cases c2 : 56320 ≤ h4v R (k + 2)
        · exact .inl (fin6 _ (by unfold du; rw [hs]; simp only []; rw [if_neg c1, if_pos c2]) (u8_half c1').symm (fun hp => by have := hp.hi; omega))
        · by_cases c3 : (R.drop k).length < 8 ∨ (R.drop k).getD 6 0 ≠ 92 ∨ (R.drop k).getD 7 0 ≠ 117
          · refine .inl (fin6 _ (by unfold du; rw [hs]; simp only []; rw [if_neg c1, if_neg c2, if_pos c3]) (u8_half c1').symm (fun hp => ?_))
            have a1 := hp.c6; have a2 := hp.c7; have a3 := hp.len
            simp only [getD_drop, List.length_drop] at c3
            omega
          · have c3' := c3
            simp only [not_or, Decidable.not_not, getD_drop, List.length_drop] at c3'
            obtain ⟨b1, b2, b3⟩ := c3'
            obtain ⟨⟨g1, g2⟩, g3⟩ := hnext b2 b3 (by omega)
            have hs2 : su ((R.drop k).drop 6) = some (h4v R (k + 8)) := by
              rw [List.drop_drop]
              exact su_at (by omega) g2
            by_cases c4 : h4v R (k + 8) < 56320 ∨ 57343 < h4v R (k + 8)
            · exact .inl (fin6 _ (by unfold du; rw [hs]; simp only []; rw [if_neg c1, if_neg c2, if_neg c3, hs2]; simp only []; rw [if_pos c4]) (u8_half c1').symm (fun hp => by have := hp.lo; omega))
            · refine .inr ⟨⟨by omega, b2, b3, by omega, g2, by omega⟩, g3, ?_⟩
              have he : e1 (R.drop k) = some (12, u8 (65536 + (h4v R (k + 2) - 55296) * 1024 + (h4v R (k + 8) - 56320))) := by
                rw [e1u]; unfold du; rw [hs]; simp only []; rw [if_neg c1, if_neg c2, if_neg c3, hs2]; simp only []; rw [if_neg c4]; rfl
              rw [hd] at he ⊢
              rw [ue_esc h92, he]
              simp only [List.drop_succ_cons, List.drop_drop]
  · left
    have h34 : R.getD k 0 ≠ 34 := fun h => by
      rw [drop_cons' (R ++ [34]) k (by omega), hZ k hk, h, quo_c, if_pos rfl] at hq
      simp only [Option.some.injEq] at hq
      omega
    refine ⟨h92, ?_, ?_⟩
    · rw [drop_cons' (R ++ [34]) k (by omega), hZ k hk, quo_c, if_neg h34] at hq
      split at hq
      · cases hq
      · (try rw [if_neg h92] at hq)
        cases h : quo ((R ++ [34]).drop (k + 1)) with
        | none => rw [h] at hq; cases hq
        | some q =>
          rw [h] at hq
          simp only [Option.map_some, Option.some.injEq] at hq
          congr 1; omega
    · rw [hd, ue_other h92]
end Go.Proofs.YtpahejmkidhhhaaDoor.G
end
