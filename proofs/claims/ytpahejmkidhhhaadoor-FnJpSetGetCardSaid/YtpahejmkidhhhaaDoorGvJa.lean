/- JSON texts with more behind them; texts and members joined by commas. -/
import Derived.Test.YtpahejmkidhhhaaDoorGvJ
namespace Go.Proofs.YtpahejmkidhhhaaDoor.G
set_option linter.unusedVariables false
set_option linter.unusedSimpArgs false

/-- What may stand behind a value: nothing, a comma, a closing bracket or brace, a blank. -/
def dl : List Int → Prop
  | [] => True
  | c :: _ => c = 44 ∨ c = 93 ∨ c = 125 ∨ isBl c = true
theorem dl_not {x : List Int} (h : dl x) : ∀ c, tk c x = true → isDg c = false ∧ c ≠ 46 ∧ c ≠ 101 ∧ c ≠ 69 ∧ c ≠ 43 ∧ c ≠ 45 := by
  intro c hc
  match x, h, hc with
  | y :: _, h, hc =>
    have hy : y = c := by simpa [tk] using hc
    subst hy
    have : y = 44 ∨ y = 93 ∨ y = 125 ∨ y = 32 ∨ y = 9 ∨ y = 10 ∨ y = 13 := by
      rcases h with h | h | h | h
      · exact .inl h
      · exact .inr (.inl h)
      · exact .inr (.inr (.inl h))
      · unfold isBl at h; simp only [Bool.or_eq_true, beq_iff_eq] at h; omega
    rcases this with rfl | rfl | rfl | rfl | rfl | rfl | rfl <;> exact ⟨rfl, by decide, by decide, by decide, by decide, by decide⟩
theorem dl_tk {x : List Int} (h : dl x) {c : Int} (hc : isDg c = true ∨ c = 46 ∨ c = 101 ∨ c = 69 ∨ c = 43 ∨ c = 45) : tk c x = false := by
  cases ht : tk c x with
  | false => rfl
  | true =>
    obtain ⟨h1, h2, h3, h4, h5, h6⟩ := dl_not h c ht
    rcases hc with hc | hc | hc | hc | hc | hc
    · rw [hc] at h1; cases h1
    all_goals contradiction
theorem tk_app {c : Int} {l x : List Int} (h : l ≠ []) : tk c (l ++ x) = tk c l := by
  match l, h with
  | _ :: _, _ => rfl
theorem ne_of_len {l : List Int} (h : 0 < l.length) : l ≠ [] := by rintro rfl; simp at h
theorem drop_app {l x : List Int} {k : Nat} (h : k ≤ l.length) : (l ++ x).drop k = l.drop k ++ x := List.drop_append_of_le_length h
theorem dg_app : ∀ {l x : List Int}, (dg l < l.length ∨ dg x = 0) → dg (l ++ x) = dg l
  | [], x, h => by
    rcases h with h | h
    · simp at h
    · simpa [dg] using h
  | c :: l, x, h => by
    rw [List.cons_append, dg, dg]
    by_cases hc : isDg c = true
    · rw [if_pos hc, if_pos hc]
      rw [dg, if_pos hc] at h
      rw [dg_app (l := l) (x := x) (by simpa using h)]
    · rw [if_neg hc, if_neg hc]
theorem dl_dg {x : List Int} (h : dl x) : dg x = 0 := by
  match x, h with
  | [], _ => rfl
  | c :: x, h =>
    have := (dl_not (x := c :: x) h c (by simp [tk])).1
    rw [dg, if_neg (by rw [this]; decide)]
theorem bl_app : ∀ {l x : List Int}, bl l < l.length → bl (l ++ x) = bl l
  | [], x, h => by simp at h
  | c :: l, x, h => by
    rw [List.cons_append, bl, bl]
    by_cases hc : isBl c = true
    · rw [if_pos hc, if_pos hc]
      rw [bl, if_pos hc] at h
      rw [bl_app (l := l) (x := x) (by simpa using h)]
    · rw [if_neg hc, if_neg hc]
theorem bl_full : ∀ {l x : List Int}, bl l = l.length → bl x = 0 → bl (l ++ x) = l.length
  | [], x, _, h => by simpa using h
  | c :: l, x, h, hx => by
    rw [List.cons_append, bl]
    by_cases hc : isBl c = true
    · rw [bl, if_pos hc] at h
      rw [if_pos hc, bl_full (l := l) (by simpa using h) hx]; rfl
    · rw [bl, if_neg hc] at h; simp at h
theorem hx4_app {l x : List Int} (h : hx4 l = true) : hx4 (l ++ x) = true := by
  unfold hx4 at h ⊢
  simp only [Bool.and_eq_true, decide_eq_true_eq] at h ⊢
  obtain ⟨h1, h2⟩ := h
  refine ⟨by rw [List.length_append]; omega, ?_⟩
  rw [List.take_append_of_le_length h1]; exact h2
theorem esc_app {l x : List Int} {k : Nat} (h : esc l = some k) : esc (l ++ x) = some k := by
  match l with
  | [] => cases h
  | c :: l =>
    rw [List.cons_append, esc]
    rw [esc] at h
    by_cases h1 : isEs c = true
    · rw [if_pos h1] at h ⊢; exact h
    · rw [if_neg h1] at h ⊢
      by_cases h2 : (c == 117 && hx4 l) = true
      · rw [if_pos h2] at h
        simp only [Bool.and_eq_true] at h2
        rw [if_pos (by rw [h2.1, hx4_app h2.2]; rfl)]; exact h
      · rw [if_neg h2] at h; cases h
theorem quo_c (c : Int) (l : List Int) : quo (c :: l) = if c = 34 then some 1 else if c < 32 then none else if c = 92 then (match esc l with | none => none | some k => (quo (l.drop k)).map (· + (k + 1))) else (quo l).map (· + 1) := by rw [quo]; cases esc l <;> rfl
theorem quo_app : ∀ (n : Nat) {l x : List Int} {k : Nat}, l.length ≤ n → quo l = some k → quo (l ++ x) = some k
  | n, [], x, k, _, h => by rw [quo] at h; cases h
  | 0, c :: l, x, k, hn, h => by simp at hn
  | n + 1, c :: l, x, k, hn, h => by
    simp only [List.length_cons] at hn
    rw [List.cons_append, quo_c]
    rw [quo_c] at h
    by_cases h1 : c = 34
    · rw [if_pos h1] at h ⊢; exact h
    · rw [if_neg h1] at h ⊢
      by_cases h2 : c < 32
      · rw [if_pos h2] at h; cases h
      · rw [if_neg h2] at h ⊢
        by_cases h3 : c = 92
        · rw [if_pos h3] at h ⊢
          cases he : esc l with
          | none => rw [he] at h; cases h
          | some j =>
            rw [he] at h
            rw [esc_app he]
            have hj := esc_le he
            simp only [] at h ⊢
            rw [drop_app hj.2]
            cases hq : quo (l.drop j) with
            | none => rw [hq] at h; cases h
            | some q =>
              rw [hq] at h
              rw [quo_app n (by rw [List.length_drop]; omega) hq]; exact h
        · rw [if_neg h3] at h ⊢
          cases hq : quo l with
          | none => rw [hq] at h; cases h
          | some q =>
            rw [hq] at h
            rw [quo_app n (by omega) hq]; exact h
theorem ints_app {l x : List Int} {i : Nat} (h : ints l = some i) (hx : i < l.length ∨ dl x) : ints (l ++ x) = some i := by
  have hne : l ≠ [] := ne_of_len (by have := ints_le h; omega)
  unfold ints at h ⊢
  rw [tk_app hne]
  by_cases h1 : tk 48 l = true
  · rw [if_pos h1] at h ⊢; exact h
  · rw [if_neg h1] at h ⊢
    by_cases h2 : dg l = 0
    · rw [if_pos h2] at h; cases h
    · rw [if_neg h2] at h
      cases h
      rw [dg_app (by rcases hx with h | h; exact .inl h; exact .inr (dl_dg h)), if_neg h2]
theorem frac_app {l x : List Int} {i : Nat} (h : frac l = some i) (hx : i < l.length ∨ dl x) : frac (l ++ x) = some i := by
  by_cases hne : l = []
  · subst hne
    rcases hx with hx | hx
    · simp at hx
    · unfold frac at h ⊢
      rw [List.nil_append, dl_tk hx (.inr (.inl rfl))]
      exact h
  · unfold frac at h ⊢
    rw [tk_app hne]
    by_cases h1 : tk 46 l = true
    · rw [if_pos h1] at h ⊢
      have hl := tk_len h1
      rw [drop_app hl]
      by_cases h2 : dg (l.drop 1) = 0
      · rw [if_pos h2] at h; cases h
      · rw [if_neg h2] at h
        cases h
        have := dg_le (l.drop 1)
        rw [dg_app (by rw [List.length_drop]; rcases hx with h | h; exact .inl (by omega); exact .inr (dl_dg h)), if_neg h2]
    · rw [if_neg h1] at h ⊢; exact h
theorem sgn_app {l x : List Int} (h : l ≠ []) : sgn (l ++ x) = sgn l := by unfold sgn; rw [tk_app h, tk_app h]
theorem expo_app {l x : List Int} {i : Nat} (h : expo l = some i) (hx : i < l.length ∨ dl x) : expo (l ++ x) = some i := by
  by_cases hne : l = []
  · subst hne
    rcases hx with hx | hx
    · simp at hx
    · unfold expo at h ⊢
      rw [List.nil_append, dl_tk hx (.inr (.inr (.inl rfl))), dl_tk hx (.inr (.inr (.inr (.inl rfl))))]
      exact h
  · unfold expo at h ⊢
    rw [tk_app hne, tk_app hne]
    by_cases h1 : (tk 101 l || tk 69 l) = true
    · rw [if_pos h1] at h ⊢
      have hl : 1 ≤ l.length := by
        rcases (Bool.or_eq_true _ _).mp h1 with h | h <;> exact tk_len h
      rw [drop_app hl]
      by_cases h2 : dg (l.drop (1 + sgn (l.drop 1))) = 0
      · rw [if_pos h2] at h; cases h
      · rw [if_neg h2] at h
        cases h
        have hd := dg_le (l.drop (1 + sgn (l.drop 1)))
        rw [List.length_drop] at hd
        have hne1 : l.drop 1 ≠ [] := ne_of_len (by rw [List.length_drop]; omega)
        rw [sgn_app hne1, drop_app (by omega)]
        rw [dg_app (by rw [List.length_drop]; rcases hx with h | h; exact .inl (by omega); exact .inr (dl_dg h)), if_neg h2]
    · rw [if_neg h1] at h ⊢; exact h
theorem mns_app {l x : List Int} (h : l ≠ []) : mns (l ++ x) = mns l := by unfold mns; rw [tk_app h]
theorem num_app {l x : List Int} {k : Nat} (h : num l = some k) (hx : k < l.length ∨ dl x) : num (l ++ x) = some k := by
  have hk := num_le h
  have hne : l ≠ [] := ne_of_len (by omega)
  have h0 := mns_le l
  unfold num at h ⊢
  rw [mns_app hne, drop_app h0]
  cases hi : ints (l.drop (mns l)) with
  | none => rw [hi] at h; cases h
  | some i =>
    rw [hi] at h
    have h1 := ints_le hi
    rw [List.length_drop] at h1
    simp only [] at h
    cases hf : frac (l.drop (mns l + i)) with
    | none => rw [hf] at h; cases h
    | some f =>
      rw [hf] at h
      have h2 := frac_le hf
      rw [List.length_drop] at h2
      simp only [] at h
      cases he : expo (l.drop (mns l + i + f)) with
      | none => rw [he] at h; cases h
      | some e =>
        rw [he] at h
        have h3 := expo_le he
        rw [List.length_drop] at h3
        have hke : mns l + i + f + e = k := by simpa using h
        rw [ints_app hi (by rw [List.length_drop]; rcases hx with h | h; exact .inl (by omega); exact .inr h)]
        simp only []
        rw [drop_app (by omega), frac_app hf (by rw [List.length_drop]; rcases hx with h | h; exact .inl (by omega); exact .inr h)]
        simp only []
        rw [drop_app (by omega), expo_app he (by rw [List.length_drop]; rcases hx with h | h; exact .inl (by omega); exact .inr h)]
        simp only [Option.map_some]
        rw [hke]
theorem pre_app {w l x : List Int} (h : pre w l = true) : pre w (l ++ x) = true := by
  have hl := pre_len h
  unfold pre at h ⊢
  rw [List.take_append_of_le_length hl]; exact h
/-- How far: values, elements, members. -/
def vl (a : Nat) (l : List Int) : Option Nat := (V a l).map (·.2)
def el (a : Nat) (l : List Int) : Option Nat := (E a l).map (·.2)
def ml (a : Nat) (l : List Int) : Option Nat := (M a l).map (·.2.2)
theorem vl_le {a : Nat} {l : List Int} {k : Nat} (h : vl a l = some k) : 1 ≤ k ∧ k ≤ l.length := by
  unfold vl at h
  cases hv : V a l with
  | none => rw [hv] at h; cases h
  | some r => rw [hv] at h; cases h; exact V_le (p := r.1) (k := r.2) hv
theorem el_eq (a : Nat) (l : List Int) : el a l = match vl a l with
    | none => none
    | some k =>
      if tk 93 (l.drop (k + bl (l.drop k))) then some (k + bl (l.drop k) + 1)
      else if tk 44 (l.drop (k + bl (l.drop k))) then
        (el (a + (k + bl (l.drop k) + 1 + bl (l.drop (k + bl (l.drop k) + 1)))) (l.drop (k + bl (l.drop k) + 1 + bl (l.drop (k + bl (l.drop k) + 1))))).map (k + bl (l.drop k) + 1 + bl (l.drop (k + bl (l.drop k) + 1)) + ·)
      else none := by
  unfold el vl
  rw [E_eq]
  cases V a l with
  | none => rfl
  | some r =>
    simp only [Option.map_some]
    by_cases h1 : tk 93 (l.drop (r.2 + bl (l.drop r.2))) = true
    · rw [if_pos h1, if_pos h1]; rfl
    · rw [if_neg h1, if_neg h1]
      by_cases h2 : tk 44 (l.drop (r.2 + bl (l.drop r.2))) = true
      · rw [if_pos h2, if_pos h2, Option.map_map, Option.map_map]; rfl
      · rw [if_neg h2, if_neg h2]; rfl
theorem ml_eq (a : Nat) (l : List Int) : ml a l = match nam l with
    | none => none
    | some (q, d) => match vl (a + d) (l.drop d) with
      | none => none
      | some k =>
        if tk 125 (l.drop (d + k + bl (l.drop (d + k)))) then some (d + k + bl (l.drop (d + k)) + 1)
        else if tk 44 (l.drop (d + k + bl (l.drop (d + k)))) then
          (ml (a + (d + k + bl (l.drop (d + k)) + 1 + bl (l.drop (d + k + bl (l.drop (d + k)) + 1)))) (l.drop (d + k + bl (l.drop (d + k)) + 1 + bl (l.drop (d + k + bl (l.drop (d + k)) + 1))))).map (d + k + bl (l.drop (d + k)) + 1 + bl (l.drop (d + k + bl (l.drop (d + k)) + 1)) + ·)
        else none := by
  unfold ml vl
  rw [M_eq]
  cases nam l with
  | none => rfl
  | some qd =>
    simp only []
    cases V (a + qd.2) (l.drop qd.2) with
    | none => rfl
    | some r =>
      simp only [Option.map_some]
      by_cases h1 : tk 125 (l.drop (qd.2 + r.2 + bl (l.drop (qd.2 + r.2)))) = true
      · rw [if_pos h1, if_pos h1]; rfl
      · rw [if_neg h1, if_neg h1]
        by_cases h2 : tk 44 (l.drop (qd.2 + r.2 + bl (l.drop (qd.2 + r.2)))) = true
        · rw [if_pos h2, if_pos h2, Option.map_map, Option.map_map]; rfl
        · rw [if_neg h2, if_neg h2]; rfl
theorem vl_eq (a : Nat) (c : Int) (l : List Int) : vl a (c :: l) =
    if c = 123 then (if tk 125 (l.drop (bl l)) then some (1 + (bl l + 1)) else (ml (a + 1 + bl l) (l.drop (bl l))).map (fun k => 1 + (bl l + k)))
    else if c = 91 then (if tk 93 (l.drop (bl l)) then some (1 + (bl l + 1)) else (el (a + 1 + bl l) (l.drop (bl l))).map (fun k => 1 + (bl l + k)))
    else if c = 34 then (quo l).map (1 + ·)
    else if c = 45 ∨ isDg c = true then num (c :: l)
    else if pre wnull (c :: l) then some 4
    else if pre wfalse (c :: l) then some 5
    else if pre wtrue (c :: l) then some 4
    else none := by
  unfold vl el ml
  rw [V_eq]
  simp only [one]
  have hl : lst V (a + 1) l = if tk 93 (l.drop (bl l)) then some ([], bl l + 1) else (E (a + 1 + bl l) (l.drop (bl l))).map fun r => (r.1, bl l + r.2) := by
    unfold lst E
    rw [els_fuel (fun _ _ _ _ => V_le) l.length (l.drop (bl l)).length _ _ (by rw [List.length_drop]; omega) (Nat.le_refl _)]
  have ho : obj V (a + 1) l = if tk 125 (l.drop (bl l)) then some ([], [], bl l + 1) else (M (a + 1 + bl l) (l.drop (bl l))).map fun r => (r.1, r.2.1, bl l + r.2.2) := by
    unfold obj M
    rw [mbs_fuel (fun _ _ _ _ => V_le) l.length (l.drop (bl l)).length _ _ (by rw [List.length_drop]; omega) (Nat.le_refl _)]
  rw [hl, ho]
  by_cases h1 : c = 123
  · rw [if_pos h1, if_pos h1]
    by_cases h2 : tk 125 (l.drop (bl l)) = true
    · rw [if_pos h2, if_pos h2]; rfl
    · rw [if_neg h2, if_neg h2, Option.map_map, Option.map_map, Option.map_map]; rfl
  · rw [if_neg h1, if_neg h1]
    by_cases h3 : c = 91
    · rw [if_pos h3, if_pos h3]
      by_cases h2 : tk 93 (l.drop (bl l)) = true
      · rw [if_pos h2, if_pos h2]; rfl
      · rw [if_neg h2, if_neg h2, Option.map_map, Option.map_map, Option.map_map]; rfl
    · rw [if_neg h3, if_neg h3]
      by_cases h4 : c = 34
      · rw [if_pos h4, if_pos h4, Option.map_map]; rfl
      · rw [if_neg h4, if_neg h4]
        by_cases h5 : c = 45 ∨ isDg c = true
        · rw [if_pos h5, if_pos h5, Option.map_map]
          cases num (c :: l) <;> rfl
        · rw [if_neg h5, if_neg h5]
          split
          · rfl
          · split
            · rfl
            · split <;> rfl
theorem vl_nil (a : Nat) : vl a [] = none := by unfold vl; rw [V_eq]; rfl
theorem nam_app {l x : List Int} {q d : Nat} (h : nam l = some (q, d)) (hd : d < l.length) : nam (l ++ x) = some (q, d) := by
  have hle := nam_le h
  have hne : l ≠ [] := ne_of_len (by omega)
  unfold nam at h ⊢
  rw [tk_app hne]
  by_cases h1 : tk 34 l = true
  · rw [if_pos h1] at h ⊢
    rw [drop_app (by omega)]
    cases hq : quo (l.drop 1) with
    | none => rw [hq] at h; cases h
    | some q' =>
      rw [hq] at h
      have hq' := quo_le _ _ (Nat.le_refl _) hq
      rw [List.length_drop] at hq'
      rw [quo_app _ (Nat.le_refl _) hq]
      simp only [] at h ⊢
      by_cases h2 : tk 58 (l.drop (1 + q' + bl (l.drop (1 + q')))) = true
      · rw [if_pos h2] at h
        have h3 := tk_len h2
        rw [List.length_drop] at h3
        have hb1 : bl (l.drop (1 + q') ++ x) = bl (l.drop (1 + q')) := bl_app (by rw [List.length_drop]; omega)
        simp only [Option.some.injEq, Prod.mk.injEq] at h
        obtain ⟨e1, e2⟩ := h
        have hb2 : bl (l.drop (1 + q' + bl (l.drop (1 + q')) + 1) ++ x) = bl (l.drop (1 + q' + bl (l.drop (1 + q')) + 1)) := bl_app (by rw [List.length_drop]; omega)
        rw [drop_app (k := 1 + q') (by omega), hb1, drop_app (k := 1 + q' + bl (l.drop (1 + q'))) (by omega), tk_app (ne_of_len (by rw [List.length_drop]; omega)), if_pos h2, drop_app (k := 1 + q' + bl (l.drop (1 + q')) + 1) (by omega), hb2, e2, e1]
      · rw [if_neg h2] at h; cases h
  · rw [if_neg h1] at h; cases h
/-- More behind. -/
theorem ext_all : ∀ n : Nat,
    (∀ (a a' : Nat) (l x : List Int) (k : Nat), l.length ≤ n → vl a l = some k → (k < l.length ∨ dl x) → vl a' (l ++ x) = some k) ∧
    (∀ (a a' : Nat) (l x : List Int) (k : Nat), l.length ≤ n → el a l = some k → el a' (l ++ x) = some k) ∧
    (∀ (a a' : Nat) (l x : List Int) (k : Nat), l.length ≤ n → ml a l = some k → ml a' (l ++ x) = some k) := by
  intro n
  induction n with
  | zero =>
    refine ⟨fun a a' l x k hl h _ => ?_, fun a a' l x k hl h => ?_, fun a a' l x k hl h => ?_⟩
    all_goals obtain rfl : l = [] := List.eq_nil_of_length_eq_zero (by omega)
    · rw [vl_nil] at h; cases h
    · rw [el_eq, vl_nil] at h; cases h
    · rw [ml_eq] at h; cases h
  | succ n ih =>
    obtain ⟨ihv, ihe, ihm⟩ := ih
    have hv : ∀ (a a' : Nat) (l x : List Int) (k : Nat), l.length ≤ n + 1 → vl a l = some k → (k < l.length ∨ dl x) → vl a' (l ++ x) = some k := by
      intro a a' l x k hl h hx
      match l, hl, h, hx with
      | [], _, h, _ => rw [vl_nil] at h; cases h
      | c :: l, hl, h, hx =>
        simp only [List.length_cons] at hl hx
        rw [List.cons_append, vl_eq]
        rw [vl_eq] at h
        by_cases h1 : c = 123
        · rw [if_pos h1] at h ⊢
          by_cases h2 : tk 125 (l.drop (bl l)) = true
          · rw [if_pos h2] at h
            have h3 := tk_len h2
            rw [List.length_drop] at h3
            rw [bl_app (by omega), drop_app (by omega), tk_app (ne_of_len (by rw [List.length_drop]; omega)), if_pos h2]; exact h
          · rw [if_neg h2] at h
            cases hm : ml (a + 1 + bl l) (l.drop (bl l)) with
            | none => rw [hm] at h; cases h
            | some r =>
              have h3 : 0 < (l.drop (bl l)).length := by
                rcases Nat.eq_zero_or_pos (l.drop (bl l)).length with e | e
                · rw [List.eq_nil_of_length_eq_zero e, ml_eq] at hm; cases hm
                · exact e
              have h3' := h3
              rw [List.length_drop] at h3'
              rw [bl_app (by omega), drop_app (by omega), tk_app (ne_of_len h3), if_neg h2]
              rw [ihm _ (a' + 1 + bl l) _ x r (by rw [List.length_drop]; omega) hm]
              rw [hm] at h; exact h
        · rw [if_neg h1] at h ⊢
          by_cases h4 : c = 91
          · rw [if_pos h4] at h ⊢
            by_cases h2 : tk 93 (l.drop (bl l)) = true
            · rw [if_pos h2] at h
              have h3 := tk_len h2
              rw [List.length_drop] at h3
              rw [bl_app (by omega), drop_app (by omega), tk_app (ne_of_len (by rw [List.length_drop]; omega)), if_pos h2]; exact h
            · rw [if_neg h2] at h
              cases hm : el (a + 1 + bl l) (l.drop (bl l)) with
              | none => rw [hm] at h; cases h
              | some r =>
                have h3 : 0 < (l.drop (bl l)).length := by
                  rcases Nat.eq_zero_or_pos (l.drop (bl l)).length with e | e
                  · rw [List.eq_nil_of_length_eq_zero e, el_eq, vl_nil] at hm; cases hm
                  · exact e
                have h3' := h3
                rw [List.length_drop] at h3'
                rw [bl_app (by omega), drop_app (by omega), tk_app (ne_of_len h3), if_neg h2]
                rw [ihe _ (a' + 1 + bl l) _ x r (by rw [List.length_drop]; omega) hm]
                rw [hm] at h; exact h
          · rw [if_neg h4] at h ⊢
            by_cases h5 : c = 34
            · rw [if_pos h5] at h ⊢
              cases hq : quo l with
              | none => rw [hq] at h; cases h
              | some q => rw [quo_app _ (Nat.le_refl _) hq]; rw [hq] at h; exact h
            · rw [if_neg h5] at h ⊢
              by_cases h6 : c = 45 ∨ isDg c = true
              · rw [if_pos h6] at h ⊢
                exact num_app (l := c :: l) h (by simpa using hx)
              · rw [if_neg h6] at h ⊢
                by_cases p1 : pre wnull (c :: l) = true
                · rw [if_pos p1] at h
                  rw [if_pos (show pre wnull (c :: (l ++ x)) = true from pre_app (l := c :: l) p1)]; exact h
                · rw [if_neg p1] at h
                  by_cases p2 : pre wfalse (c :: l) = true
                  · rw [if_pos p2] at h
                    have hc : c = 102 := by have := p2; unfold pre wfalse at this; simp at this; exact this.1
                    subst hc
                    rw [if_neg (by unfold pre wnull; simp), if_pos (show pre wfalse (102 :: (l ++ x)) = true from pre_app (l := 102 :: l) p2)]; exact h
                  · rw [if_neg p2] at h
                    by_cases p3 : pre wtrue (c :: l) = true
                    · rw [if_pos p3] at h
                      have hc : c = 116 := by have := p3; unfold pre wtrue at this; simp at this; exact this.1
                      subst hc
                      rw [if_neg (by unfold pre wnull; simp), if_neg (by unfold pre wfalse; simp), if_pos (show pre wtrue (116 :: (l ++ x)) = true from pre_app (l := 116 :: l) p3)]; exact h
                    · rw [if_neg p3] at h; cases h
    refine ⟨hv, fun a a' l x k hl h => ?_, fun a a' l x k hl h => ?_⟩
    · rw [el_eq] at h ⊢
      cases hk : vl a l with
      | none => rw [hk] at h; cases h
      | some j =>
        rw [hk] at h
        have hj := vl_le hk
        simp only [] at h
        have hlt : j + bl (l.drop j) < l.length := by
          by_cases h1 : tk 93 (l.drop (j + bl (l.drop j))) = true
          · have := tk_len h1; rw [List.length_drop] at this; omega
          · rw [if_neg h1] at h
            by_cases h2 : tk 44 (l.drop (j + bl (l.drop j))) = true
            · have := tk_len h2; rw [List.length_drop] at this; omega
            · rw [if_neg h2] at h; cases h
        rw [hv a a' l x j hl hk (.inl (by omega))]
        simp only []
        have hb1 : bl (l.drop j ++ x) = bl (l.drop j) := bl_app (by rw [List.length_drop]; omega)
        rw [drop_app hj.2, hb1, drop_app (by omega), tk_app (ne_of_len (by rw [List.length_drop]; omega)), tk_app (ne_of_len (by rw [List.length_drop]; omega))]
        by_cases h1 : tk 93 (l.drop (j + bl (l.drop j))) = true
        · rw [if_pos h1] at h ⊢; exact h
        · rw [if_neg h1] at h ⊢
          by_cases h2 : tk 44 (l.drop (j + bl (l.drop j))) = true
          · rw [if_pos h2] at h ⊢
            generalize hr : j + bl (l.drop j) + 1 = r at h ⊢
            rw [drop_app (by omega)]
            cases he : el (a + (r + bl (l.drop r))) (l.drop (r + bl (l.drop r))) with
            | none => rw [he] at h; cases h
            | some e =>
              have h3 : 0 < (l.drop (r + bl (l.drop r))).length := by
                rcases Nat.eq_zero_or_pos (l.drop (r + bl (l.drop r))).length with e' | e'
                · rw [List.eq_nil_of_length_eq_zero e', el_eq, vl_nil] at he; cases he
                · exact e'
              have h3' := h3
              rw [List.length_drop] at h3'
              have hb2 : bl (l.drop r ++ x) = bl (l.drop r) := bl_app (by rw [List.length_drop]; omega)
              rw [hb2, drop_app (by omega), ihe _ (a' + (r + bl (l.drop r))) _ x e (by rw [List.length_drop]; omega) he]
              rw [he] at h; exact h
          · rw [if_neg h2] at h; cases h
    · rw [ml_eq] at h ⊢
      cases hn : nam l with
      | none => rw [hn] at h; cases h
      | some qd =>
        obtain ⟨q, d⟩ := qd
        rw [hn] at h
        have hd := nam_le hn
        simp only [] at h
        cases hk : vl (a + d) (l.drop d) with
        | none => rw [hk] at h; cases h
        | some j =>
          rw [hk] at h
          have hj := vl_le hk
          rw [List.length_drop] at hj
          simp only [] at h
          have hlt : d + j + bl (l.drop (d + j)) < l.length := by
            by_cases h1 : tk 125 (l.drop (d + j + bl (l.drop (d + j)))) = true
            · have := tk_len h1; rw [List.length_drop] at this; omega
            · rw [if_neg h1] at h
              by_cases h2 : tk 44 (l.drop (d + j + bl (l.drop (d + j)))) = true
              · have := tk_len h2; rw [List.length_drop] at this; omega
              · rw [if_neg h2] at h; cases h
          rw [nam_app hn (by omega)]
          simp only []
          rw [drop_app (show d ≤ l.length by omega), hv (a + d) (a' + d) (l.drop d) x j (by rw [List.length_drop]; omega) hk (.inl (by rw [List.length_drop]; omega))]
          simp only []
          have hb1 : bl (l.drop (d + j) ++ x) = bl (l.drop (d + j)) := bl_app (by rw [List.length_drop]; omega)
          rw [drop_app (show d + j ≤ l.length by omega), hb1, drop_app (by omega), tk_app (ne_of_len (by rw [List.length_drop]; omega)), tk_app (ne_of_len (by rw [List.length_drop]; omega))]
          by_cases h1 : tk 125 (l.drop (d + j + bl (l.drop (d + j)))) = true
          · rw [if_pos h1] at h ⊢; exact h
          · rw [if_neg h1] at h ⊢
            by_cases h2 : tk 44 (l.drop (d + j + bl (l.drop (d + j)))) = true
            · rw [if_pos h2] at h ⊢
              generalize hr : d + j + bl (l.drop (d + j)) + 1 = r at h ⊢
              rw [drop_app (by omega)]
              cases he : ml (a + (r + bl (l.drop r))) (l.drop (r + bl (l.drop r))) with
              | none => rw [he] at h; cases h
              | some e =>
                have h3 : 0 < (l.drop (r + bl (l.drop r))).length := by
                  rcases Nat.eq_zero_or_pos (l.drop (r + bl (l.drop r))).length with e' | e'
                  · rw [List.eq_nil_of_length_eq_zero e', ml_eq] at he; cases he
                  · exact e'
                have h3' := h3
                rw [List.length_drop] at h3'
                have hb2 : bl (l.drop r ++ x) = bl (l.drop r) := bl_app (by rw [List.length_drop]; omega)
                rw [hb2, drop_app (by omega), ihm _ (a' + (r + bl (l.drop r))) _ x e (by rw [List.length_drop]; omega) he]
                rw [he] at h; exact h
            · rw [if_neg h2] at h; cases h
theorem vl_ext {a a' : Nat} {l x : List Int} {k : Nat} (h : vl a l = some k) (hx : k < l.length ∨ dl x) : vl a' (l ++ x) = some k := (ext_all l.length).1 a a' l x k (Nat.le_refl _) h hx
/-- Where a value stands does not matter to how far it goes. -/
theorem vl_any (a a' : Nat) (l : List Int) : vl a l = vl a' l := by
  cases h : vl a l with
  | some k => have := vl_ext (a' := a') (x := []) h (.inr trivial); rw [List.append_nil] at this; exact this.symm
  | none =>
    cases h' : vl a' l with
    | none => rfl
    | some k => have := vl_ext (a' := a) (x := []) h' (.inr trivial); rw [List.append_nil, h] at this; cases this
end Go.Proofs.YtpahejmkidhhhaaDoor.G
