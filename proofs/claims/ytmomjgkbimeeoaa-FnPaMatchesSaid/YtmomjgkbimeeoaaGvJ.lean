/- The grammar of RFC 8259 as plain functions over bytes: how far a value goes, and its places. -/
import Derived.WalkKit
namespace Go.Proofs.Ytmomjgkbimeeoaa.G
set_option linter.unusedVariables false
set_option linter.unusedSimpArgs false

def isBl (c : Int) : Bool := c == 32 || c == 9 || c == 10 || c == 13
def isDg (c : Int) : Bool := decide (48 ≤ c) && decide (c ≤ 57)
def isHx (c : Int) : Bool := (decide (48 ≤ c) && decide (c ≤ 57)) || (decide (97 ≤ c) && decide (c ≤ 102)) || (decide (65 ≤ c) && decide (c ≤ 70))
def isEs (c : Int) : Bool := c == 34 || c == 92 || c == 47 || c == 98 || c == 102 || c == 110 || c == 114 || c == 116
/-- How many blanks, and how many digits, stand ahead. -/
def bl : List Int → Nat
  | [] => 0
  | c :: l => if isBl c then bl l + 1 else 0
def dg : List Int → Nat
  | [] => 0
  | c :: l => if isDg c then dg l + 1 else 0
def tk (c : Int) : List Int → Bool
  | [] => false
  | x :: _ => x == c
def pre (w l : List Int) : Bool := l.take w.length == w
def hx4 (l : List Int) : Bool := decide (4 ≤ l.length) && (l.take 4).all isHx
/-- How far an escape goes behind its backslash. -/
def esc : List Int → Option Nat
  | [] => none
  | c :: l => if isEs c then some 1 else if c == 117 && hx4 l then some 5 else none
theorem bl_le : ∀ l : List Int, bl l ≤ l.length
  | [] => Nat.le_refl _
  | c :: l => by unfold bl; have := bl_le l; split <;> simp <;> omega
theorem dg_le : ∀ l : List Int, dg l ≤ l.length
  | [] => Nat.le_refl _
  | c :: l => by unfold dg; have := dg_le l; split <;> simp <;> omega
theorem esc_le {l : List Int} {k : Nat} (h : esc l = some k) : 1 ≤ k ∧ k ≤ l.length := by
  match l with
  | [] => cases h
  | c :: l =>
    rw [esc] at h
    by_cases h1 : isEs c = true
    · rw [if_pos h1] at h; cases h; simp
    · rw [if_neg h1] at h
      by_cases h2 : (c == 117 && hx4 l) = true
      · rw [if_pos h2] at h; cases h; simp [hx4] at h2; simp; omega
      · rw [if_neg h2] at h; cases h
/-- How far a string goes behind its first quotation mark. -/
def quo : List Int → Option Nat
  | [] => none
  | c :: l => if c = 34 then some 1 else if c < 32 then none else if c = 92 then
      match esc l with
      | none => none
      | some k => (quo (l.drop k)).map (· + (k + 1))
    else (quo l).map (· + 1)
termination_by l => l.length
decreasing_by all_goals (simp [List.length_drop]; try omega)
theorem quo_le : ∀ (n : Nat) (l : List Int), l.length ≤ n → ∀ {k : Nat}, quo l = some k → 1 ≤ k ∧ k ≤ l.length
  | n, [], _, k, h => by rw [quo] at h; cases h
  | 0, c :: l, hn, k, h => by simp at hn
  | n + 1, c :: l, hn, k, h => by
    simp only [List.length_cons] at hn
    rw [quo] at h
    split at h
    · cases h; simp
    · split at h
      · cases h
      · split at h
        · split at h
          · cases h
          · rename_i j he
            have h1 := esc_le he
            cases hq : quo (l.drop j) with
            | none => rw [hq] at h; cases h
            | some q =>
              rw [hq] at h
              have h2 := quo_le n (l.drop j) (by rw [List.length_drop]; omega) hq
              rw [List.length_drop] at h2
              simp at h ⊢
              omega
        · cases hq : quo l with
          | none => rw [hq] at h; cases h
          | some q =>
            rw [hq] at h
            have h2 := quo_le n l (by omega) hq
            simp at h ⊢
            omega
/-! ### numbers -/
def ints (l : List Int) : Option Nat := if tk 48 l then some 1 else if dg l = 0 then none else some (dg l)
def frac (l : List Int) : Option Nat := if tk 46 l then (if dg (l.drop 1) = 0 then none else some (1 + dg (l.drop 1))) else some 0
def sgn (l : List Int) : Nat := if tk 43 l || tk 45 l then 1 else 0
def expo (l : List Int) : Option Nat := if tk 101 l || tk 69 l then (if dg (l.drop (1 + sgn (l.drop 1))) = 0 then none else some (1 + sgn (l.drop 1) + dg (l.drop (1 + sgn (l.drop 1))))) else some 0
def mns (l : List Int) : Nat := if tk 45 l then 1 else 0
def num (l : List Int) : Option Nat :=
  match ints (l.drop (mns l)) with
  | none => none
  | some i => match frac (l.drop (mns l + i)) with
    | none => none
    | some f => (expo (l.drop (mns l + i + f))).map (mns l + i + f + ·)
theorem tk_len {c : Int} {l : List Int} (h : tk c l = true) : 1 ≤ l.length := by
  match l with
  | [] => cases h
  | _ :: _ => simp
theorem ints_le {l : List Int} {i : Nat} (h : ints l = some i) : 1 ≤ i ∧ i ≤ l.length := by
  unfold ints at h
  split at h
  · rename_i h1; cases h; exact ⟨Nat.le_refl _, tk_len h1⟩
  · split at h
    · cases h
    · cases h; exact ⟨by omega, dg_le _⟩
theorem frac_le {l : List Int} {i : Nat} (h : frac l = some i) : i ≤ l.length := by
  unfold frac at h
  split at h
  · rename_i h1
    have h2 := tk_len h1
    split at h
    · cases h
    · cases h; have := dg_le (l.drop 1); rw [List.length_drop] at this; omega
  · cases h; omega
theorem expo_le {l : List Int} {i : Nat} (h : expo l = some i) : i ≤ l.length := by
  unfold expo at h
  split at h
  · split at h
    · cases h
    · rename_i h1 h2
      cases h
      have := dg_le (l.drop (1 + sgn (l.drop 1)))
      rw [List.length_drop] at this
      omega
  · cases h; omega
theorem mns_le (l : List Int) : mns l ≤ l.length := by
  unfold mns
  split
  · rename_i h; exact tk_len h
  · omega
theorem num_le {l : List Int} {k : Nat} (h : num l = some k) : 1 ≤ k ∧ k ≤ l.length := by
  unfold num at h
  have h0 := mns_le l
  split at h
  · cases h
  · rename_i i hi
    have h1 := ints_le hi
    rw [List.length_drop] at h1
    split at h
    · cases h
    · rename_i f hf
      have h2 := frac_le hf
      rw [List.length_drop] at h2
      cases he : expo (l.drop (mns l + i + f)) with
      | none => rw [he] at h; cases h
      | some e =>
        rw [he] at h
        have h3 := expo_le he
        rw [List.length_drop] at h3
        simp at h
        omega
/-! ### values -/
/-- A value of a text: its kind, its offsets, its names' offsets, what it holds. -/
inductive Pl where
  | mk (kind b e : Nat) (names : List (Nat × Nat)) (kids : List Pl)
def els (v : Nat → List Int → Option (Pl × Nat)) : Nat → Nat → List Int → Option (List Pl × Nat)
  | 0, _, _ => none
  | g + 1, a, l => match v a l with
    | none => none
    | some (p, k) =>
      if tk 93 (l.drop (k + bl (l.drop k))) then some ([p], k + bl (l.drop k) + 1)
      else if tk 44 (l.drop (k + bl (l.drop k))) then
        (els v g (a + (k + bl (l.drop k) + 1 + bl (l.drop (k + bl (l.drop k) + 1)))) (l.drop (k + bl (l.drop k) + 1 + bl (l.drop (k + bl (l.drop k) + 1))))).map fun r => (p :: r.1, k + bl (l.drop k) + 1 + bl (l.drop (k + bl (l.drop k) + 1)) + r.2)
      else none
/-- From a name to where its value begins: the name's length (its quotation marks too), the value's offset. -/
def nam (l : List Int) : Option (Nat × Nat) :=
  if tk 34 l then
    match quo (l.drop 1) with
    | none => none
    | some q =>
      if tk 58 (l.drop (1 + q + bl (l.drop (1 + q)))) then some (1 + q, 1 + q + bl (l.drop (1 + q)) + 1 + bl (l.drop (1 + q + bl (l.drop (1 + q)) + 1)))
      else none
  else none
def mbs (v : Nat → List Int → Option (Pl × Nat)) : Nat → Nat → List Int → Option (List (Nat × Nat) × List Pl × Nat)
  | 0, _, _ => none
  | g + 1, a, l => match nam l with
    | none => none
    | some (q, d) => match v (a + d) (l.drop d) with
      | none => none
      | some (p, k) =>
        if tk 125 (l.drop (d + k + bl (l.drop (d + k)))) then some ([(a, a + q)], [p], d + k + bl (l.drop (d + k)) + 1)
        else if tk 44 (l.drop (d + k + bl (l.drop (d + k)))) then
          (mbs v g (a + (d + k + bl (l.drop (d + k)) + 1 + bl (l.drop (d + k + bl (l.drop (d + k)) + 1)))) (l.drop (d + k + bl (l.drop (d + k)) + 1 + bl (l.drop (d + k + bl (l.drop (d + k)) + 1))))).map fun r => ((a, a + q) :: r.1, p :: r.2.1, d + k + bl (l.drop (d + k)) + 1 + bl (l.drop (d + k + bl (l.drop (d + k)) + 1)) + r.2.2)
        else none
def wnull : List Int := [110, 117, 108, 108]
def wfalse : List Int := [102, 97, 108, 115, 101]
def wtrue : List Int := [116, 114, 117, 101]
/-- What stands between brackets, braces: behind the first one. -/
def lst (v : Nat → List Int → Option (Pl × Nat)) (a : Nat) (l : List Int) : Option (List Pl × Nat) :=
  if tk 93 (l.drop (bl l)) then some ([], bl l + 1) else (els v l.length (a + bl l) (l.drop (bl l))).map fun r => (r.1, bl l + r.2)
def obj (v : Nat → List Int → Option (Pl × Nat)) (a : Nat) (l : List Int) : Option (List (Nat × Nat) × List Pl × Nat) :=
  if tk 125 (l.drop (bl l)) then some ([], [], bl l + 1) else (mbs v l.length (a + bl l) (l.drop (bl l))).map fun r => (r.1, r.2.1, bl l + r.2.2)
def one (v : Nat → List Int → Option (Pl × Nat)) (a : Nat) : List Int → Option (Pl × Nat)
  | [] => none
  | c :: l =>
    if c = 123 then (obj v (a + 1) l).map fun r => (.mk 6 a (a + (1 + r.2.2)) r.1 r.2.1, 1 + r.2.2)
    else if c = 91 then (lst v (a + 1) l).map fun r => (.mk 5 a (a + (1 + r.2)) [] r.1, 1 + r.2)
    else if c = 34 then (quo l).map fun q => (.mk 4 a (a + (1 + q)) [] [], 1 + q)
    else if c = 45 ∨ isDg c = true then (num (c :: l)).map fun q => (.mk 3 a (a + q) [] [], q)
    else if pre wnull (c :: l) then some (.mk 0 a (a + 4) [] [], 4)
    else if pre wfalse (c :: l) then some (.mk 1 a (a + 5) [] [], 5)
    else if pre wtrue (c :: l) then some (.mk 2 a (a + 4) [] [], 4)
    else none
def val : Nat → Nat → List Int → Option (Pl × Nat)
  | 0, _, _ => none
  | f + 1, a, l => one (val f) a l
theorem pre_len {w l : List Int} (h : pre w l = true) : w.length ≤ l.length := by
  unfold pre at h
  have := congrArg List.length (by simpa using h : l.take w.length = w)
  rw [List.length_take] at this
  omega
theorem els_le {v : Nat → List Int → Option (Pl × Nat)} (hv : ∀ a l p k, v a l = some (p, k) → 1 ≤ k ∧ k ≤ l.length) : ∀ (g a : Nat) (l : List Int) (r : List Pl × Nat), els v g a l = some r → 1 ≤ r.2 ∧ r.2 ≤ l.length
  | 0, _, _, _, h => by cases h
  | g + 1, a, l, r, h => by
    rw [els] at h
    split at h
    · cases h
    · rename_i p k hp
      have h1 := hv _ _ _ _ hp
      split at h
      · rename_i ht
        cases h
        have := tk_len ht
        rw [List.length_drop] at this
        simp; omega
      · split at h
        · rename_i ht
          have := tk_len ht
          rw [List.length_drop] at this
          generalize hi : k + bl (l.drop k) + 1 + bl (l.drop (k + bl (l.drop k) + 1)) = i at h
          have hb := bl_le (l.drop (k + bl (l.drop k) + 1))
          rw [List.length_drop] at hb
          cases he : els v g (a + i) (l.drop i) with
          | none => rw [he] at h; cases h
          | some r' =>
            rw [he] at h
            have h2 := els_le hv g _ _ r' he
            rw [List.length_drop] at h2
            cases h
            simp; omega
        · cases h
theorem nam_le {l : List Int} {q d : Nat} (h : nam l = some (q, d)) : 2 ≤ q ∧ q + 1 ≤ d ∧ d ≤ l.length := by
  unfold nam at h
  split at h
  · split at h
    · cases h
    · rename_i q' hq
      have h1 := quo_le _ _ (Nat.le_refl _) hq
      rw [List.length_drop] at h1
      split at h
      · rename_i ht
        have h2 := tk_len ht
        have h3 := bl_le (l.drop (1 + q' + bl (l.drop (1 + q')) + 1))
        rw [List.length_drop] at h2 h3
        simp at h
        omega
      · cases h
  · cases h
theorem mbs_le {v : Nat → List Int → Option (Pl × Nat)} (hv : ∀ a l p k, v a l = some (p, k) → 1 ≤ k ∧ k ≤ l.length) : ∀ (g a : Nat) (l : List Int) (r : List (Nat × Nat) × List Pl × Nat), mbs v g a l = some r → 1 ≤ r.2.2 ∧ r.2.2 ≤ l.length
  | 0, _, _, _, h => by cases h
  | g + 1, a, l, r, h => by
    rw [mbs] at h
    split at h
    · cases h
    · rename_i q d hn
      have h0 := nam_le hn
      split at h
      · cases h
      · rename_i p k hp
        have h1 := hv _ _ _ _ hp
        rw [List.length_drop] at h1
        split at h
        · rename_i ht
          cases h
          have := tk_len ht
          rw [List.length_drop] at this
          simp; omega
        · split at h
          · rename_i ht
            have := tk_len ht
            rw [List.length_drop] at this
            generalize hi : d + k + bl (l.drop (d + k)) + 1 + bl (l.drop (d + k + bl (l.drop (d + k)) + 1)) = i at h
            have hb := bl_le (l.drop (d + k + bl (l.drop (d + k)) + 1))
            rw [List.length_drop] at hb
            cases he : mbs v g (a + i) (l.drop i) with
            | none => rw [he] at h; cases h
            | some r' =>
              rw [he] at h
              have h2 := mbs_le hv g _ _ r' he
              rw [List.length_drop] at h2
              cases h
              simp; omega
          · cases h
theorem one_le {v : Nat → List Int → Option (Pl × Nat)} (hv : ∀ a l p k, v a l = some (p, k) → 1 ≤ k ∧ k ≤ l.length) {a : Nat} {l : List Int} {p : Pl} {k : Nat} (h : one v a l = some (p, k)) : 1 ≤ k ∧ k ≤ l.length := by
  match l with
  | [] => cases h
  | c :: l =>
    rw [one] at h
    split at h
    · cases ho : obj v (a + 1) l with
      | none => rw [ho] at h; cases h
      | some r =>
        rw [ho] at h
        unfold obj at ho
        have h1 := bl_le l
        split at ho
        · rename_i ht
          have := tk_len ht
          rw [List.length_drop] at this
          cases ho
          simp at h ⊢; omega
        · cases hm : mbs v l.length (a + 1 + bl l) (l.drop (bl l)) with
          | none => rw [hm] at ho; cases ho
          | some r' =>
            rw [hm] at ho
            have h2 := mbs_le hv _ _ _ _ hm
            rw [List.length_drop] at h2
            cases ho
            simp at h ⊢; omega
    · split at h
      · cases ho : lst v (a + 1) l with
        | none => rw [ho] at h; cases h
        | some r =>
          rw [ho] at h
          unfold lst at ho
          have h1 := bl_le l
          split at ho
          · rename_i ht
            have := tk_len ht
            rw [List.length_drop] at this
            cases ho
            simp at h ⊢; omega
          · cases hm : els v l.length (a + 1 + bl l) (l.drop (bl l)) with
            | none => rw [hm] at ho; cases ho
            | some r' =>
              rw [hm] at ho
              have h2 := els_le hv _ _ _ _ hm
              rw [List.length_drop] at h2
              cases ho
              simp at h ⊢; omega
      · split at h
        · cases hq : quo l with
          | none => rw [hq] at h; cases h
          | some q =>
            rw [hq] at h
            have h2 := quo_le _ _ (Nat.le_refl _) hq
            simp at h ⊢; omega
        · split at h
          · cases hq : num (c :: l) with
            | none => rw [hq] at h; cases h
            | some q =>
              rw [hq] at h
              have h2 := num_le hq
              simp at h h2 ⊢; omega
          · split at h
            · rename_i hw; have := pre_len hw; simp [wnull] at this h ⊢; omega
            · split at h
              · rename_i hw; have := pre_len hw; simp [wfalse] at this h ⊢; omega
              · split at h
                · rename_i hw; have := pre_len hw; simp [wtrue] at this h ⊢; omega
                · cases h
theorem val_le : ∀ (f a : Nat) (l : List Int) (p : Pl) (k : Nat), val f a l = some (p, k) → 1 ≤ k ∧ k ≤ l.length
  | 0, _, _, _, _, h => by cases h
  | f + 1, a, l, p, k, h => one_le (val_le f) h
/-! ### the fuel does not matter -/
theorem els_cong {v u : Nat → List Int → Option (Pl × Nat)} (N : Nat) (h : ∀ a l, l.length ≤ N → v a l = u a l) : ∀ (g a : Nat) (l : List Int), l.length ≤ N → els v g a l = els u g a l
  | 0, _, _, _ => rfl
  | g + 1, a, l, hl => by
    rw [els, els, h a l hl]
    cases u a l with
    | none => rfl
    | some r => simp only []; rw [els_cong N h g _ _ (by rw [List.length_drop]; omega)]
theorem mbs_cong {v u : Nat → List Int → Option (Pl × Nat)} (N : Nat) (h : ∀ a l, l.length ≤ N → v a l = u a l) : ∀ (g a : Nat) (l : List Int), l.length ≤ N → mbs v g a l = mbs u g a l
  | 0, _, _, _ => rfl
  | g + 1, a, l, hl => by
    rw [mbs, mbs]
    cases nam l with
    | none => rfl
    | some r =>
      simp only []
      rw [h _ (l.drop r.2) (by rw [List.length_drop]; omega)]
      cases u (a + r.2) (l.drop r.2) with
      | none => rfl
      | some r' => simp only []; rw [mbs_cong N h g _ _ (by rw [List.length_drop]; omega)]
theorem one_cong {v u : Nat → List Int → Option (Pl × Nat)} (l : List Int) (h : ∀ a m, m.length < l.length → v a m = u a m) (a : Nat) : one v a l = one u a l := by
  match l with
  | [] => rfl
  | c :: l =>
    have h' : ∀ a m, m.length ≤ l.length → v a m = u a m := fun a m hm => h a m (by simp; omega)
    rw [one, one]
    unfold obj lst
    rw [mbs_cong l.length h' _ _ (l.drop (bl l)) (by rw [List.length_drop]; omega), els_cong l.length h' _ _ (l.drop (bl l)) (by rw [List.length_drop]; omega)]
theorem val_cong : ∀ (f g a : Nat) (l : List Int), l.length < f → l.length < g → val f a l = val g a l
  | 0, _, _, _, h, _ => absurd h (Nat.not_lt_zero _)
  | _ + 1, 0, _, _, _, h => absurd h (Nat.not_lt_zero _)
  | f + 1, g + 1, a, l, hf, hg => by rw [val, val]; exact one_cong l (fun b m hm => val_cong f g b m (by omega) (by omega)) a
/-- A value, at its place. -/
def V (a : Nat) (l : List Int) : Option (Pl × Nat) := val (l.length + 1) a l
theorem V_le {a : Nat} {l : List Int} {p : Pl} {k : Nat} (h : V a l = some (p, k)) : 1 ≤ k ∧ k ≤ l.length := val_le _ _ _ _ _ h
theorem V_eq (a : Nat) (l : List Int) : V a l = one V a l := by
  unfold V
  rw [val]
  exact one_cong l (fun b m hm => val_cong _ _ b m (by omega) (by omega)) a
theorem els_fuel {v : Nat → List Int → Option (Pl × Nat)} (hv : ∀ a l p k, v a l = some (p, k) → 1 ≤ k ∧ k ≤ l.length) : ∀ (g h a : Nat) (l : List Int), l.length ≤ g → l.length ≤ h → els v g a l = els v h a l
  | g, h, a, [], _, _ => by
    have hn : v a [] = none := by
      cases hh : v a [] with
      | none => rfl
      | some r => have := hv _ _ r.1 r.2 hh; simp at this; omega
    cases g <;> cases h <;> simp [els, hn]
  | 0, _, _, _ :: _, h, _ => by simp at h
  | _ + 1, 0, _, _ :: _, _, h => by simp at h
  | g + 1, h + 1, a, c :: l, hg, hh => by
    rw [els, els]
    cases hr : v a (c :: l) with
    | none => rfl
    | some r =>
      have h1 := hv _ _ _ _ hr
      simp only [List.length_cons] at hg hh h1
      simp only []
      rw [els_fuel hv g h _ ((c :: l).drop _) (by rw [List.length_drop, List.length_cons]; omega) (by rw [List.length_drop, List.length_cons]; omega)]
theorem mbs_fuel {v : Nat → List Int → Option (Pl × Nat)} (hv : ∀ a l p k, v a l = some (p, k) → 1 ≤ k ∧ k ≤ l.length) : ∀ (g h a : Nat) (l : List Int), l.length ≤ g → l.length ≤ h → mbs v g a l = mbs v h a l
  | g, h, a, [], _, _ => by cases g <;> cases h <;> simp [mbs, nam, tk]
  | 0, _, _, _ :: _, h, _ => by simp at h
  | _ + 1, 0, _, _ :: _, _, h => by simp at h
  | g + 1, h + 1, a, c :: l, hg, hh => by
    rw [mbs, mbs]
    cases hn : nam (c :: l) with
    | none => rfl
    | some r =>
      have h0 := nam_le (q := r.1) (d := r.2) hn
      simp only []
      cases hr : v (a + r.2) ((c :: l).drop r.2) with
      | none => rfl
      | some r' =>
        simp only [List.length_cons] at hg hh h0
        simp only []
        rw [mbs_fuel hv g h _ ((c :: l).drop _) (by rw [List.length_drop, List.length_cons]; omega) (by rw [List.length_drop, List.length_cons]; omega)]
/-- Elements, members: from the first one on. -/
def E (a : Nat) (l : List Int) : Option (List Pl × Nat) := els V l.length a l
def M (a : Nat) (l : List Int) : Option (List (Nat × Nat) × List Pl × Nat) := mbs V l.length a l
theorem E_eq (a : Nat) (l : List Int) : E a l = match V a l with
    | none => none
    | some (p, k) =>
      if tk 93 (l.drop (k + bl (l.drop k))) then some ([p], k + bl (l.drop k) + 1)
      else if tk 44 (l.drop (k + bl (l.drop k))) then
        (E (a + (k + bl (l.drop k) + 1 + bl (l.drop (k + bl (l.drop k) + 1)))) (l.drop (k + bl (l.drop k) + 1 + bl (l.drop (k + bl (l.drop k) + 1))))).map fun r => (p :: r.1, k + bl (l.drop k) + 1 + bl (l.drop (k + bl (l.drop k) + 1)) + r.2)
      else none := by
  have h1 : E a l = els V (l.length + 1) a l := els_fuel (fun _ _ _ _ => V_le) _ _ _ _ (Nat.le_refl _) (by omega)
  rw [h1, els]
  cases V a l with
  | none => rfl
  | some r =>
    simp only []
    rw [els_fuel (fun _ _ _ _ => V_le) l.length (l.drop (r.2 + bl (l.drop r.2) + 1 + bl (l.drop (r.2 + bl (l.drop r.2) + 1)))).length _ _ (by rw [List.length_drop]; omega) (Nat.le_refl _)]
    rfl
theorem M_eq (a : Nat) (l : List Int) : M a l = match nam l with
    | none => none
    | some (q, d) => match V (a + d) (l.drop d) with
      | none => none
      | some (p, k) =>
        if tk 125 (l.drop (d + k + bl (l.drop (d + k)))) then some ([(a, a + q)], [p], d + k + bl (l.drop (d + k)) + 1)
        else if tk 44 (l.drop (d + k + bl (l.drop (d + k)))) then
          (M (a + (d + k + bl (l.drop (d + k)) + 1 + bl (l.drop (d + k + bl (l.drop (d + k)) + 1)))) (l.drop (d + k + bl (l.drop (d + k)) + 1 + bl (l.drop (d + k + bl (l.drop (d + k)) + 1))))).map fun r => ((a, a + q) :: r.1, p :: r.2.1, d + k + bl (l.drop (d + k)) + 1 + bl (l.drop (d + k + bl (l.drop (d + k)) + 1)) + r.2.2)
        else none := by
  have h1 : M a l = mbs V (l.length + 1) a l := mbs_fuel (fun _ _ _ _ => V_le) _ _ _ _ (Nat.le_refl _) (by omega)
  rw [h1, mbs]
  cases nam l with
  | none => rfl
  | some r =>
    simp only []
    cases V (a + r.2) (l.drop r.2) with
    | none => rfl
    | some r' =>
      simp only []
      rw [mbs_fuel (fun _ _ _ _ => V_le) l.length (l.drop (r.2 + r'.2 + bl (l.drop (r.2 + r'.2)) + 1 + bl (l.drop (r.2 + r'.2 + bl (l.drop (r.2 + r'.2)) + 1)))).length _ _ (by rw [List.length_drop]; omega) (Nat.le_refl _)]
      rfl
/-- A JSON text: one value with blanks around it. -/
def J (l : List Int) : Option Pl :=
  match V (bl l) (l.drop (bl l)) with
  | none => none
  | some (p, k) => if bl l + k + bl (l.drop (bl l + k)) = l.length then some p else none
end Go.Proofs.Ytmomjgkbimeeoaa.G
