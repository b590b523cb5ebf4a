/- jsonparser's searches on JSON texts: where strings, blocks and words end. -/
import Derived.Test.YtpahejmkidhhhaaDoorGvJa
import Derived.Test.YtpahejmkidhhhaaDoorGvJp
namespace Go.Proofs.YtpahejmkidhhhaaDoor.G
set_option linter.unusedVariables false
set_option linter.unusedSimpArgs false

/-- A backslash among the bytes. -/
def hasB (l : List Int) : Bool := l.any (· == 92)
theorem se_one {x : Int} {r : List Int} {p : Nat} {e : Bool} (h1 : x ≠ 92) (h2 : x ≠ 34) : seF false p e (x :: r) = seF false (p + 1) e r := by rw [seF, if_neg h1, if_neg h2]
theorem hx_not {x : Int} (h : isHx x = true) : x ≠ 92 ∧ x ≠ 34 := by
  unfold isHx at h
  simp only [Bool.or_eq_true, Bool.and_eq_true, decide_eq_true_eq] at h
  omega
theorem hx4_split {l : List Int} (h : hx4 l = true) : ∃ a b c d r, l = a :: b :: c :: d :: r ∧ isHx a = true ∧ isHx b = true ∧ isHx c = true ∧ isHx d = true := by
  unfold hx4 at h
  simp only [Bool.and_eq_true, decide_eq_true_eq] at h
  match l, h with
  | a :: b :: c :: d :: r, h =>
    have h2 := h.2
    simp only [List.take_succ_cons, List.take_zero, List.all_cons, List.all_nil, Bool.and_true, Bool.and_eq_true] at h2
    exact ⟨a, b, c, d, r, rfl, h2.1, h2.2.1, h2.2.2.1, h2.2.2.2⟩
  | [], h => simp at h
  | [_], h => simp at h
  | [_, _], h => simp at h
  | [_, _, _], h => simp at h
theorem quo_se : ∀ (n : Nat) {l : List Int} {q : Nat}, l.length ≤ n → quo l = some q → ∀ (p : Nat) (e : Bool), seF false p e l = ((p : Int) + q, e || hasB (l.take (q - 1)))
  | n, [], q, _, h, _, _ => by rw [quo] at h; cases h
  | 0, c :: l, q, hn, h, _, _ => by simp at hn
  | n + 1, c :: l, q, hn, h, p, e => by
    simp only [List.length_cons] at hn
    rw [quo_c] at h
    by_cases h1 : c = 34
    · rw [if_pos h1] at h
      cases h
      rw [seF, if_neg (by omega), if_pos h1]
      simp [hasB]
    · rw [if_neg h1] at h
      by_cases h2 : c < 32
      · rw [if_pos h2] at h; cases h
      · rw [if_neg h2] at h
        by_cases h3 : c = 92
        · rw [if_pos h3] at h
          rw [seF, if_pos h3]
          cases he : esc l with
          | none => rw [he] at h; cases h
          | some j =>
            rw [he] at h
            simp only [] at h
            cases hq : quo (l.drop j) with
            | none => rw [hq] at h; cases h
            | some q' =>
              rw [hq] at h
              have hqq : q' + (j + 1) = q := by simpa using h
              have hq1 := quo_le _ _ (Nat.le_refl _) hq
              have hb : hasB ((c :: l).take (q - 1)) = true := by
                obtain ⟨m, hm⟩ : ∃ m, q - 1 = m + 1 := ⟨q - 2, by omega⟩
                rw [hm, List.take_succ_cons]
                simp [hasB, h3]
              rw [hb, Bool.or_true]
              match l, he with
              | d :: l, he =>
                rw [esc] at he
                rw [seF]
                by_cases h4 : isEs d = true
                · rw [if_pos h4] at he
                  cases he
                  simp only [List.drop_succ_cons, List.drop_zero] at hq
                  rw [quo_se n (by simp at hn; omega) hq (p + 1 + 1) true, Bool.true_or]
                  congr 1
                  push_cast; omega
                · rw [if_neg h4] at he
                  by_cases h5 : (d == 117 && hx4 l) = true
                  · rw [if_pos h5] at he
                    cases he
                    simp only [Bool.and_eq_true] at h5
                    obtain ⟨x1, x2, x3, x4, r, rfl, y1, y2, y3, y4⟩ := hx4_split h5.2
                    simp only [List.drop_succ_cons, List.drop_zero] at hq
                    rw [se_one (hx_not y1).1 (hx_not y1).2, se_one (hx_not y2).1 (hx_not y2).2, se_one (hx_not y3).1 (hx_not y3).2, se_one (hx_not y4).1 (hx_not y4).2]
                    rw [quo_se n (by simp at hn; omega) hq _ true, Bool.true_or]
                    congr 1
                    push_cast; omega
                  · rw [if_neg h5] at he; cases he
        · rw [if_neg h3] at h
          cases hq : quo l with
          | none => rw [hq] at h; cases h
          | some q' =>
            rw [hq] at h
            have hqq : q' + 1 = q := by simpa using h
            have hq1 := quo_le _ _ (Nat.le_refl _) hq
            rw [se_one h3 h1, quo_se n (by omega) hq (p + 1) e]
            obtain ⟨m, hm⟩ : ∃ m, q - 1 = m + 1 := ⟨q' - 1, by omega⟩
            have h92 : (c == 92) = false := by simpa using h3
            rw [hm, List.take_succ_cons, show q' - 1 = m by omega]
            have : hasB (c :: l.take m) = hasB (l.take m) := by simp [hasB, h92]
            rw [this]
            congr 1
            omega
theorem quo_at {l : List Int} {q : Nat} (h : quo l = some q) : seAt l 0 false = ((q : Int), hasB (l.take (q - 1))) := by
  unfold seAt skip
  rw [run_zero]
  have := quo_se _ (Nat.le_refl _) h 0 false
  simpa using this
theorem quo_blk {a b lv : Int} {l : List Int} {q : Nat} (h : quo l = some q) (p : Nat) : blkF a b 1 lv p l = blkF a b 0 lv (p + q) (l.drop q) := by
  have h1 := quo_se _ (Nat.le_refl _) h 0 false
  rcases blk_str a b lv l false 0 p false with ⟨h2, h3⟩ | ⟨j, h3, h4, h5, h6⟩
  · rw [h1] at h2; simp at h2; try omega
  · rw [h1] at h5
    simp only [] at h5
    obtain rfl : j = q := by omega
    exact h6
/-! ### bytes that open and close nothing -/
def plB (x : Int) : Prop := x ≠ 34 ∧ x ≠ 91 ∧ x ≠ 93 ∧ x ≠ 123 ∧ x ≠ 125
def Brk (a b : Int) : Prop := a = 91 ∧ b = 93 ∨ a = 123 ∧ b = 125
theorem blk_one {a b : Int} (hab : Brk a b) {x lv : Int} {p : Nat} {r : List Int} (hx : plB x) : blkF a b 0 lv p (x :: r) = blkF a b 0 lv (p + 1) r := by
  obtain ⟨h1, h2, h3, h4, h5⟩ := hx
  rw [blkF, if_neg h1, if_neg (by rcases hab with ⟨rfl, rfl⟩ | ⟨rfl, rfl⟩ <;> assumption), if_neg (by rcases hab with ⟨rfl, rfl⟩ | ⟨rfl, rfl⟩ <;> assumption)]
theorem blk_many {a b : Int} (hab : Brk a b) {lv : Int} : ∀ (k : Nat) {p : Nat} {l : List Int}, k ≤ l.length → (∀ x ∈ l.take k, plB x) → blkF a b 0 lv p l = blkF a b 0 lv (p + k) (l.drop k)
  | 0, p, l, _, _ => rfl
  | k + 1, p, [], h, _ => by simp at h
  | k + 1, p, x :: l, h, hx => by
    rw [blk_one hab (hx x (by simp)), blk_many hab k (by simpa using h) (fun y hy => hx y (by simp [hy])), List.drop_succ_cons, show p + 1 + k = p + (k + 1) by omega]
theorem bl_mem : ∀ {l : List Int}, ∀ x ∈ l.take (bl l), isBl x = true
  | [], x, h => by simp at h
  | c :: l, x, h => by
    rw [bl] at h
    by_cases hc : isBl c = true
    · rw [if_pos hc, List.take_succ_cons] at h
      rcases List.mem_cons.1 h with rfl | h
      · exact hc
      · exact bl_mem x h
    · rw [if_neg hc] at h; simp at h
theorem isBl_plB {x : Int} (h : isBl x = true) : plB x := by
  unfold isBl at h
  simp only [Bool.or_eq_true, beq_iff_eq] at h
  unfold plB; omega
theorem bl_blk {a b : Int} (hab : Brk a b) {lv : Int} {p : Nat} {l : List Int} : blkF a b 0 lv p l = blkF a b 0 lv (p + bl l) (l.drop (bl l)) := blk_many hab _ (bl_le l) (fun x hx => isBl_plB (bl_mem x hx))
/-- A number's bytes. -/
def nb (x : Int) : Prop := isDg x = true ∨ x = 45 ∨ x = 46 ∨ x = 101 ∨ x = 69 ∨ x = 43
theorem nb_plB {x : Int} (h : nb x) : plB x := by
  unfold nb isDg at h
  simp only [Bool.and_eq_true, decide_eq_true_eq] at h
  unfold plB; omega
theorem dg_mem : ∀ {l : List Int}, ∀ x ∈ l.take (dg l), isDg x = true
  | [], x, h => by simp at h
  | c :: l, x, h => by
    rw [dg] at h
    by_cases hc : isDg c = true
    · rw [if_pos hc, List.take_succ_cons] at h
      rcases List.mem_cons.1 h with rfl | h
      · exact hc
      · exact dg_mem x h
    · rw [if_neg hc] at h; simp at h
theorem tk_mem {c : Int} {l : List Int} (h : tk c l = true) : ∀ x ∈ l.take 1, x = c := by
  match l, h with
  | y :: l, h =>
    intro x hx
    simp [tk] at h
    simp at hx
    rw [hx, h]
theorem mem_add {l : List Int} {m n : Nat} {P : Int → Prop} (h1 : ∀ x ∈ l.take m, P x) (h2 : ∀ x ∈ (l.drop m).take n, P x) : ∀ x ∈ l.take (m + n), P x := by
  intro x hx
  rw [List.take_add] at hx
  rcases List.mem_append.1 hx with hx | hx
  · exact h1 x hx
  · exact h2 x hx
theorem mns_mem {l : List Int} : ∀ x ∈ l.take (mns l), nb x := by
  intro x hx
  unfold mns at hx
  by_cases h : tk 45 l = true
  · rw [if_pos h] at hx; exact .inr (.inl (tk_mem h x hx))
  · rw [if_neg h] at hx; simp at hx
theorem ints_mem {l : List Int} {i : Nat} (h : ints l = some i) : ∀ x ∈ l.take i, nb x := by
  unfold ints at h
  by_cases h1 : tk 48 l = true
  · rw [if_pos h1] at h; cases h
    intro x hx
    have := tk_mem h1 x hx
    subst this
    exact .inl rfl
  · rw [if_neg h1] at h
    by_cases h2 : dg l = 0
    · rw [if_pos h2] at h; cases h
    · rw [if_neg h2] at h; cases h
      exact fun x hx => .inl (dg_mem x hx)
theorem frac_mem {l : List Int} {i : Nat} (h : frac l = some i) : ∀ x ∈ l.take i, nb x := by
  unfold frac at h
  by_cases h1 : tk 46 l = true
  · rw [if_pos h1] at h
    by_cases h2 : dg (l.drop 1) = 0
    · rw [if_pos h2] at h; cases h
    · rw [if_neg h2] at h; cases h
      exact mem_add (fun x hx => .inr (.inr (.inl (tk_mem h1 x hx)))) (fun x hx => .inl (dg_mem x hx))
  · rw [if_neg h1] at h; cases h
    intro x hx; simp at hx
theorem sgn_mem {l : List Int} : ∀ x ∈ l.take (sgn l), nb x := by
  intro x hx
  unfold sgn at hx
  by_cases h : (tk 43 l || tk 45 l) = true
  · rw [if_pos h] at hx
    rcases (Bool.or_eq_true _ _).mp h with h | h
    · exact .inr (.inr (.inr (.inr (.inr (tk_mem h x hx)))))
    · exact .inr (.inl (tk_mem h x hx))
  · rw [if_neg h] at hx; simp at hx
theorem expo_mem {l : List Int} {i : Nat} (h : expo l = some i) : ∀ x ∈ l.take i, nb x := by
  unfold expo at h
  by_cases h1 : (tk 101 l || tk 69 l) = true
  · rw [if_pos h1] at h
    by_cases h2 : dg (l.drop (1 + sgn (l.drop 1))) = 0
    · rw [if_pos h2] at h; cases h
    · rw [if_neg h2] at h; cases h
      refine mem_add (mem_add (fun x hx => ?_) sgn_mem) (fun x hx => .inl (dg_mem x hx))
      rcases (Bool.or_eq_true _ _).mp h1 with h | h
      · exact .inr (.inr (.inr (.inl (tk_mem h x hx))))
      · exact .inr (.inr (.inr (.inr (.inl (tk_mem h x hx)))))
  · rw [if_neg h1] at h; cases h
    intro x hx; simp at hx
theorem num_mem {l : List Int} {k : Nat} (h : num l = some k) : ∀ x ∈ l.take k, nb x := by
  unfold num at h
  cases hi : ints (l.drop (mns l)) with
  | none => rw [hi] at h; cases h
  | some i =>
    rw [hi] at h
    simp only [] at h
    cases hf : frac (l.drop (mns l + i)) with
    | none => rw [hf] at h; cases h
    | some f =>
      rw [hf] at h
      simp only [] at h
      cases he : expo (l.drop (mns l + i + f)) with
      | none => rw [he] at h; cases h
      | some e =>
        rw [he] at h
        have hke : mns l + i + f + e = k := by simpa using h
        rw [← hke]
        exact mem_add (mem_add (mem_add mns_mem (ints_mem hi)) (frac_mem hf)) (expo_mem he)
theorem pre_take {w l : List Int} (h : pre w l = true) : l.take w.length = w := by unfold pre at h; simpa using h
/-- A word's bytes: small letters. -/
def lt_ (x : Int) : Prop := 97 ≤ x ∧ x ≤ 122
theorem word_mem {w l : List Int} (h : pre w l = true) (hw : ∀ x ∈ w, lt_ x) : ∀ x ∈ l.take w.length, lt_ x := by rw [pre_take h]; exact hw
theorem wnull_lt : ∀ x ∈ wnull, lt_ x := by unfold wnull lt_; decide
theorem wtrue_lt : ∀ x ∈ wtrue, lt_ x := by unfold wtrue lt_; decide
theorem wfalse_lt : ∀ x ∈ wfalse, lt_ x := by unfold wfalse lt_; decide
theorem lt_plB {x : Int} (h : lt_ x) : plB x := by unfold lt_ at h; unfold plB; omega
theorem tk_cons {c : Int} {l : List Int} {j : Nat} (h : tk c (l.drop j) = true) : l.drop j = c :: l.drop (j + 1) := by
  have hl := tk_len h
  rw [List.length_drop] at hl
  rw [drop_cons' l j (by omega)] at h ⊢
  have h2 : l.getD j 0 = c := by simpa only [tk, beq_iff_eq] using h
  rw [h2]
/-! ### brackets -/
theorem brk91 {a b : Int} (hab : Brk a b) {lv : Int} (hl : 1 ≤ lv) : ∃ lv', 1 ≤ lv' ∧ (∀ p r, blkF a b 0 lv p (91 :: r) = blkF a b 0 lv' (p + 1) r) ∧ (∀ p r, blkF a b 0 lv' p (93 :: r) = blkF a b 0 lv (p + 1) r) := by
  rcases hab with ⟨rfl, rfl⟩ | ⟨rfl, rfl⟩
  · refine ⟨lv + 1, by omega, fun p r => ?_, fun p r => ?_⟩
    · rw [blkF, if_neg (by decide), if_pos rfl]
    · rw [blkF, if_neg (by decide), if_neg (by decide), if_pos rfl, if_neg (by omega), show lv + 1 - 1 = lv by omega]
  · refine ⟨lv, hl, fun p r => ?_, fun p r => ?_⟩ <;> rw [blkF, if_neg (by decide), if_neg (by decide), if_neg (by decide)]
theorem brk123 {a b : Int} (hab : Brk a b) {lv : Int} (hl : 1 ≤ lv) : ∃ lv', 1 ≤ lv' ∧ (∀ p r, blkF a b 0 lv p (123 :: r) = blkF a b 0 lv' (p + 1) r) ∧ (∀ p r, blkF a b 0 lv' p (125 :: r) = blkF a b 0 lv (p + 1) r) := by
  rcases hab with ⟨rfl, rfl⟩ | ⟨rfl, rfl⟩
  · refine ⟨lv, hl, fun p r => ?_, fun p r => ?_⟩ <;> rw [blkF, if_neg (by decide), if_neg (by decide), if_neg (by decide)]
  · refine ⟨lv + 1, by omega, fun p r => ?_, fun p r => ?_⟩
    · rw [blkF, if_neg (by decide), if_pos rfl]
    · rw [blkF, if_neg (by decide), if_neg (by decide), if_pos rfl, if_neg (by omega), show lv + 1 - 1 = lv by omega]
theorem drop2 {l : List Int} {i j k : Nat} (h : i + j = k) : (l.drop i).drop j = l.drop k := by rw [List.drop_drop, h]
theorem nam_blk {a b : Int} (hab : Brk a b) {lv : Int} {l : List Int} {q d : Nat} (h : nam l = some (q, d)) (p : Nat) : blkF a b 0 lv p l = blkF a b 0 lv (p + d) (l.drop d) := by
  unfold nam at h
  by_cases h1 : tk 34 l = true
  · rw [if_pos h1] at h
    cases hq : quo (l.drop 1) with
    | none => rw [hq] at h; cases h
    | some q' =>
      rw [hq] at h
      simp only [] at h
      by_cases h2 : tk 58 (l.drop (1 + q' + bl (l.drop (1 + q')))) = true
      · rw [if_pos h2] at h
        simp only [Option.some.injEq, Prod.mk.injEq] at h
        obtain ⟨e1, e2⟩ := h
        have hc := tk_cons (l := l) (j := 0) h1
        simp only [List.drop_zero] at hc
        rw [hc, blkF, if_pos rfl, quo_blk hq, drop2 rfl, bl_blk hab, drop2 rfl, tk_cons h2, blk_one hab (by unfold plB; omega), bl_blk hab, drop2 rfl, ← hc, ← e2]
        congr 1
        omega
      · rw [if_neg h2] at h; cases h
  · rw [if_neg h1] at h; cases h
theorem blk_all {a b : Int} (hab : Brk a b) : ∀ n : Nat,
    (∀ (c : Nat) (l : List Int) (k : Nat), l.length ≤ n → vl c l = some k → ∀ (lv : Int) (p : Nat), 1 ≤ lv → blkF a b 0 lv p l = blkF a b 0 lv (p + k) (l.drop k)) ∧
    (∀ (c : Nat) (l : List Int) (k : Nat), l.length ≤ n → el c l = some k → ∃ j, k = j + 1 ∧ tk 93 (l.drop j) = true ∧ ∀ (lv : Int) (p : Nat), 1 ≤ lv → blkF a b 0 lv p l = blkF a b 0 lv (p + j) (l.drop j)) ∧
    (∀ (c : Nat) (l : List Int) (k : Nat), l.length ≤ n → ml c l = some k → ∃ j, k = j + 1 ∧ tk 125 (l.drop j) = true ∧ ∀ (lv : Int) (p : Nat), 1 ≤ lv → blkF a b 0 lv p l = blkF a b 0 lv (p + j) (l.drop j)) := by
  intro n
  induction n with
  | zero =>
    refine ⟨fun c l k hl h => ?_, fun c l k hl h => ?_, fun c l k hl h => ?_⟩
    all_goals obtain rfl : l = [] := List.eq_nil_of_length_eq_zero (by omega)
    · rw [vl_nil] at h; cases h
    · rw [el_eq, vl_nil] at h; cases h
    · rw [ml_eq] at h; cases h
  | succ n ih =>
    obtain ⟨ihv, ihe, ihm⟩ := ih
    have hv : ∀ (c : Nat) (l : List Int) (k : Nat), l.length ≤ n + 1 → vl c l = some k → ∀ (lv : Int) (p : Nat), 1 ≤ lv → blkF a b 0 lv p l = blkF a b 0 lv (p + k) (l.drop k) := by
      intro c l k hl h lv p hlv
      match l, hl, h with
      | [], _, h => rw [vl_nil] at h; cases h
      | x :: l, hl, h =>
        have hk := vl_le h
        simp only [List.length_cons] at hl hk
        rw [vl_eq] at h
        by_cases h1 : x = 123
        · rw [if_pos h1] at h
          subst h1
          obtain ⟨lv', hl1, ho, hc⟩ := brk123 hab hlv
          rw [ho, bl_blk hab]
          by_cases h2 : tk 125 (l.drop (bl l)) = true
          · rw [if_pos h2] at h
            cases h
            rw [tk_cons h2, hc, Nat.add_comm 1 (bl l + 1), List.drop_succ_cons]
            congr 1; omega
          · rw [if_neg h2] at h
            cases hm : ml (c + 1 + bl l) (l.drop (bl l)) with
            | none => rw [hm] at h; cases h
            | some r =>
              rw [hm] at h
              obtain ⟨j, rfl, hj1, hj2⟩ := ihm _ _ _ (by rw [List.length_drop]; omega) hm
              rw [hj2 _ _ hl1]
              have hkk : 1 + (bl l + (j + 1)) = k := by simpa using h
              rw [tk_cons hj1, hc, drop2 rfl, ← hkk, Nat.add_comm 1 (bl l + (j + 1)), List.drop_succ_cons]
              congr 1; omega
        · rw [if_neg h1] at h
          by_cases h4 : x = 91
          · rw [if_pos h4] at h
            subst h4
            obtain ⟨lv', hl1, ho, hc⟩ := brk91 hab hlv
            rw [ho, bl_blk hab]
            by_cases h2 : tk 93 (l.drop (bl l)) = true
            · rw [if_pos h2] at h
              cases h
              rw [tk_cons h2, hc, Nat.add_comm 1 (bl l + 1), List.drop_succ_cons]
              congr 1; omega
            · rw [if_neg h2] at h
              cases hm : el (c + 1 + bl l) (l.drop (bl l)) with
              | none => rw [hm] at h; cases h
              | some r =>
                rw [hm] at h
                obtain ⟨j, rfl, hj1, hj2⟩ := ihe _ _ _ (by rw [List.length_drop]; omega) hm
                rw [hj2 _ _ hl1]
                have hkk : 1 + (bl l + (j + 1)) = k := by simpa using h
                rw [tk_cons hj1, hc, drop2 rfl, ← hkk, Nat.add_comm 1 (bl l + (j + 1)), List.drop_succ_cons]
                congr 1; omega
          · rw [if_neg h4] at h
            by_cases h5 : x = 34
            · rw [if_pos h5] at h
              subst h5
              cases hq : quo l with
              | none => rw [hq] at h; cases h
              | some q =>
                rw [hq] at h
                have hkk : 1 + q = k := by simpa using h
                rw [blkF, if_pos rfl, quo_blk hq, ← hkk, Nat.add_comm 1 q, List.drop_succ_cons]
                congr 1; omega
            · rw [if_neg h5] at h
              by_cases h6 : x = 45 ∨ isDg x = true
              · rw [if_pos h6] at h
                exact blk_many hab _ (by simp; omega) (fun y hy => nb_plB (num_mem h y hy))
              · rw [if_neg h6] at h
                by_cases w1 : pre wnull (x :: l) = true
                · rw [if_pos w1] at h; cases h
                  exact blk_many hab _ (by simp; omega) (fun y hy => lt_plB (word_mem w1 wnull_lt y hy))
                · rw [if_neg w1] at h
                  by_cases w2 : pre wfalse (x :: l) = true
                  · rw [if_pos w2] at h; cases h
                    exact blk_many hab _ (by simp; omega) (fun y hy => lt_plB (word_mem w2 wfalse_lt y hy))
                  · rw [if_neg w2] at h
                    by_cases w3 : pre wtrue (x :: l) = true
                    · rw [if_pos w3] at h; cases h
                      exact blk_many hab _ (by simp; omega) (fun y hy => lt_plB (word_mem w3 wtrue_lt y hy))
                    · rw [if_neg w3] at h; cases h
    refine ⟨hv, fun c l k hl h => ?_, fun c l k hl h => ?_⟩
    · rw [el_eq] at h
      cases hv1 : vl c l with
      | none => rw [hv1] at h; cases h
      | some i =>
        rw [hv1] at h
        have hi := vl_le hv1
        have hv2 := hv _ _ _ hl hv1
        simp only [] at h
        by_cases h1 : tk 93 (l.drop (i + bl (l.drop i))) = true
        · rw [if_pos h1] at h
          cases h
          refine ⟨_, rfl, h1, fun lv p hlv => ?_⟩
          rw [hv2 _ _ hlv, bl_blk hab, drop2 rfl]
          congr 1; omega
        · rw [if_neg h1] at h
          by_cases h2 : tk 44 (l.drop (i + bl (l.drop i))) = true
          · rw [if_pos h2] at h
            cases he : el (c + (i + bl (l.drop i) + 1 + bl (l.drop (i + bl (l.drop i) + 1)))) (l.drop (i + bl (l.drop i) + 1 + bl (l.drop (i + bl (l.drop i) + 1)))) with
            | none => rw [he] at h; cases h
            | some r =>
              rw [he] at h
              obtain ⟨j, rfl, hj1, hj2⟩ := ihe _ _ _ (by rw [List.length_drop]; omega) he
              rw [drop2 rfl] at hj1
              refine ⟨i + bl (l.drop i) + 1 + bl (l.drop (i + bl (l.drop i) + 1)) + j, by simp at h; omega, hj1, fun lv p hlv => ?_⟩
              rw [hv2 _ _ hlv, bl_blk hab, drop2 rfl, tk_cons h2, blk_one hab (by unfold plB; omega), bl_blk hab, drop2 rfl, hj2 _ _ hlv, drop2 rfl]
              congr 1; omega
          · rw [if_neg h2] at h; cases h
    · rw [ml_eq] at h
      cases hn : nam l with
      | none => rw [hn] at h; cases h
      | some qd =>
        obtain ⟨q, d⟩ := qd
        rw [hn] at h
        have hd := nam_le hn
        simp only [] at h
        cases hv1 : vl (c + d) (l.drop d) with
        | none => rw [hv1] at h; cases h
        | some i =>
          rw [hv1] at h
          have hi := vl_le hv1
          have hv2 := hv _ _ _ (by rw [List.length_drop]; omega) hv1
          simp only [] at h
          by_cases h1 : tk 125 (l.drop (d + i + bl (l.drop (d + i)))) = true
          · rw [if_pos h1] at h
            cases h
            refine ⟨_, rfl, h1, fun lv p hlv => ?_⟩
            rw [nam_blk hab hn, hv2 _ _ hlv, drop2 rfl, bl_blk hab, drop2 rfl]
            congr 1; omega
          · rw [if_neg h1] at h
            by_cases h2 : tk 44 (l.drop (d + i + bl (l.drop (d + i)))) = true
            · rw [if_pos h2] at h
              cases he : ml (c + (d + i + bl (l.drop (d + i)) + 1 + bl (l.drop (d + i + bl (l.drop (d + i)) + 1)))) (l.drop (d + i + bl (l.drop (d + i)) + 1 + bl (l.drop (d + i + bl (l.drop (d + i)) + 1)))) with
              | none => rw [he] at h; cases h
              | some r =>
                rw [he] at h
                obtain ⟨j, rfl, hj1, hj2⟩ := ihm _ _ _ (by rw [List.length_drop]; omega) he
                rw [drop2 rfl] at hj1
                refine ⟨d + i + bl (l.drop (d + i)) + 1 + bl (l.drop (d + i + bl (l.drop (d + i)) + 1)) + j, by simp at h; omega, hj1, fun lv p hlv => ?_⟩
                rw [nam_blk hab hn, hv2 _ _ hlv, drop2 rfl, bl_blk hab, drop2 rfl, tk_cons h2, blk_one hab (by unfold plB; omega), bl_blk hab, drop2 rfl, hj2 _ _ hlv, drop2 rfl]
                congr 1; omega
            · rw [if_neg h2] at h; cases h
/-- The block that begins a text. -/
theorem arr_blk {c : Nat} {l : List Int} {k : Nat} (h : vl c (91 :: l) = some k) : blkAt 91 93 (91 :: l) 0 0 = (k : Int) := by
  have hab : Brk 91 93 := .inl ⟨rfl, rfl⟩
  unfold blkAt
  rw [List.drop_zero, blkF, if_neg (by decide), if_pos rfl, bl_blk hab]
  rw [vl_eq, if_neg (by decide), if_pos rfl] at h
  have fin : ∀ p r, blkF 91 93 0 (0 + 1) p (93 :: r) = (p : Int) + 1 := fun p r => by rw [blkF, if_neg (by decide), if_neg (by decide), if_pos rfl, if_pos (by decide)]
  by_cases h2 : tk 93 (l.drop (bl l)) = true
  · rw [if_pos h2] at h
    cases h
    rw [tk_cons h2, fin]; push_cast; omega
  · rw [if_neg h2] at h
    cases hm : el (c + 1 + bl l) (l.drop (bl l)) with
    | none => rw [hm] at h; cases h
    | some r =>
      rw [hm] at h
      obtain ⟨j, rfl, hj1, hj2⟩ := (blk_all hab _).2.1 _ _ _ (Nat.le_refl _) hm
      have hkk : 1 + (bl l + (j + 1)) = k := by simpa using h
      rw [hj2 _ _ (by decide), tk_cons hj1, fin, ← hkk]; push_cast; omega
theorem obj_blk {c : Nat} {l : List Int} {k : Nat} (h : vl c (123 :: l) = some k) : blkAt 123 125 (123 :: l) 0 0 = (k : Int) := by
  have hab : Brk 123 125 := .inr ⟨rfl, rfl⟩
  unfold blkAt
  rw [List.drop_zero, blkF, if_neg (by decide), if_pos rfl, bl_blk hab]
  rw [vl_eq, if_pos rfl] at h
  have fin : ∀ p r, blkF 123 125 0 (0 + 1) p (125 :: r) = (p : Int) + 1 := fun p r => by rw [blkF, if_neg (by decide), if_neg (by decide), if_pos rfl, if_pos (by decide)]
  by_cases h2 : tk 125 (l.drop (bl l)) = true
  · rw [if_pos h2] at h
    cases h
    rw [tk_cons h2, fin]; push_cast; omega
  · rw [if_neg h2] at h
    cases hm : ml (c + 1 + bl l) (l.drop (bl l)) with
    | none => rw [hm] at h; cases h
    | some r =>
      rw [hm] at h
      obtain ⟨j, rfl, hj1, hj2⟩ := (blk_all hab _).2.2 _ _ _ (Nat.le_refl _) hm
      have hkk : 1 + (bl l + (j + 1)) = k := by simpa using h
      rw [hj2 _ _ (by decide), tk_cons hj1, fin, ← hkk]; push_cast; omega
/-! ### words and numbers: up to what may stand behind -/
def stp (c : Int) : Bool := c == 32 || c == 10 || c == 13 || c == 9 || c == 44 || c == 125 || c == 93
/-- Where a word ends. -/
def te : List Int → Nat
  | [] => 0
  | c :: l => if stp c then 0 else te l + 1
theorem te_le : ∀ l : List Int, te l ≤ l.length
  | [] => Nat.le_refl _
  | c :: l => by unfold te; have := te_le l; split <;> simp <;> omega
theorem te_dl {l : List Int} (h : dl l) : te l = 0 := by
  match l, h with
  | [], _ => rfl
  | c :: l, h =>
    rw [te, if_pos]
    unfold stp
    rcases h with rfl | rfl | rfl | h
    · rfl
    · rfl
    · rfl
    · unfold isBl at h
      simp only [Bool.or_eq_true, beq_iff_eq] at h ⊢
      omega
theorem te_many : ∀ (k : Nat) {l : List Int}, k ≤ l.length → (∀ x ∈ l.take k, stp x = false) → dl (l.drop k) → te l = k
  | 0, l, _, _, h => te_dl h
  | k + 1, [], h, _, _ => by simp at h
  | k + 1, x :: l, h, hx, hd => by
    rw [te, if_neg (by rw [hx x (by simp)]; decide), te_many k (by simpa using h) (fun y hy => hx y (by simp [hy])) hd]
theorem nb_stp {x : Int} (h : nb x) : stp x = false := by
  unfold nb isDg at h
  simp only [Bool.and_eq_true, decide_eq_true_eq] at h
  unfold stp
  simp only [Bool.or_eq_false_iff, beq_eq_false_iff_ne]
  omega
theorem lt_stp {x : Int} (h : lt_ x) : stp x = false := by
  unfold lt_ at h
  unfold stp
  simp only [Bool.or_eq_false_iff, beq_eq_false_iff_ne]
  omega
theorem num_te {l : List Int} {k : Nat} (h : num l = some k) (hd : dl (l.drop k)) : te l = k := te_many k (num_le h).2 (fun x hx => nb_stp (num_mem h x hx)) hd
theorem word_te {w l : List Int} (h : pre w l = true) (hw : ∀ x ∈ w, lt_ x) (hd : dl (l.drop w.length)) : te l = w.length := te_many _ (pre_len h) (fun x hx => lt_stp (word_mem h hw x hx)) hd
end Go.Proofs.YtpahejmkidhhhaaDoor.G
