/- jsonparser's searches as plain functions: where a string ends, where a block ends. -/
import Derived.Test.YtpahejmkidhhhaaDoorGvJ
namespace Go.Proofs.YtpahejmkidhhhaaDoor.G
set_option linter.unusedVariables false
set_option linter.unusedSimpArgs false

theorem getD_drop (xs : List Int) (k j : Nat) : (xs.drop k).getD j 0 = xs.getD (k + j) 0 := by simp [List.getD_eq_getElem?_getD]
def Bytes (xs : List Int) : Prop := ∀ x ∈ xs, 0 ≤ x ∧ x < 256
theorem Bytes.drop {xs : List Int} (H : Bytes xs) (k : Nat) : Bytes (xs.drop k) := fun x hx => H x (List.mem_of_mem_drop hx)
theorem Bytes.at' {xs : List Int} (H : Bytes xs) {k : Nat} (hk : k < xs.length) : 0 ≤ xs.getD k 0 ∧ xs.getD k 0 < 256 := by
  have : xs.getD k 0 = xs[k] := by simp [List.getD_eq_getElem?_getD, hk]
  rw [this]; exact H _ (List.getElem_mem hk)
theorem drop_cons' (l : List Int) (i : Nat) (h : i < l.length) : l.drop i = l.getD i 0 :: l.drop (i + 1) := by
  rw [List.drop_eq_getElem_cons h]; simp [List.getD_eq_getElem?_getD, h]
/-- How many backslashes the bytes end with. -/
def trail (l : List Int) : Nat := (l.reverse.takeWhile (· == 92)).length
theorem trail_cons (l : List Int) (b : Int) : trail (l ++ [b]) = if b = 92 then trail l + 1 else 0 := by
  unfold trail
  simp only [List.reverse_append, List.reverse_cons, List.reverse_nil, List.nil_append, List.singleton_append, List.takeWhile_cons]
  by_cases h : b = 92 <;> simp [h]
theorem trail_le (l : List Int) : trail l ≤ l.length := by
  have := List.takeWhile_prefix (· == 92) (l := l.reverse) |>.length_le
  simpa [trail] using this
theorem trail_lt {l : List Int} {t : Nat} (h : t < trail l) : l.getD (l.length - 1 - t) 0 = 92 := by
  have hle := trail_le l
  have h2 : (l.reverse.takeWhile (· == 92))[t]'h = l.reverse[t]'(by simp; omega) := (List.takeWhile_prefix (· == 92)).getElem _
  have h3 : ((l.reverse.takeWhile (· == 92))[t]'h == 92) = true := List.all_takeWhile |> (fun h' => (List.all_eq_true.1 h') _ (List.getElem_mem h))
  rw [h2] at h3
  rw [List.getElem_reverse] at h3
  have h4 : l.length - 1 - t < l.length := by omega
  simpa [List.getD_eq_getElem?_getD, h4] using h3
theorem trail_eq {l : List Int} (h : trail l < l.length) : l.getD (l.length - 1 - trail l) 0 ≠ 92 := by
  have aux : ∀ m : List Int, (h : (m.takeWhile (· == 92)).length < m.length) → m[(m.takeWhile (· == 92)).length]'h ≠ 92 := by
    intro m
    induction m with
    | nil => intro h; simp at h
    | cons a m ih =>
      intro h
      by_cases ha : a = 92
      · subst ha
        simp at h ⊢
        exact ih (by simpa using h)
      · simp [ha]
  have h1 := aux l.reverse (by simpa [trail] using h)
  rw [List.getElem_reverse] at h1
  have h4 : l.length - 1 - trail l < l.length := by omega
  rw [List.getD_eq_getElem?_getD, List.getElem?_eq_getElem h4]
  exact h1
/-- The run of backslashes that ends ahead of place m. -/
def run (xs : List Int) (m : Nat) : Nat := trail (xs.take m)
theorem take_succ' (xs : List Int) (m : Nat) (h : m < xs.length) : xs.take (m + 1) = xs.take m ++ [xs.getD m 0] := by
  rw [List.take_add_one, List.getElem?_eq_getElem h]; simp [List.getD_eq_getElem?_getD, h]
theorem run_succ {xs : List Int} {m : Nat} (h : m < xs.length) : run xs (m + 1) = if xs.getD m 0 = 92 then run xs m + 1 else 0 := by
  unfold run; rw [take_succ' xs m h, trail_cons]
theorem run_zero (xs : List Int) : run xs 0 = 0 := by unfold run trail; simp
theorem run_le {xs : List Int} {m : Nat} (h : m ≤ xs.length) : run xs m ≤ m := by
  have := trail_le (xs.take m); rw [List.length_take, Nat.min_eq_left h] at this; exact this
theorem getD_take {xs : List Int} {m p : Nat} (h : p < m) : (xs.take m).getD p 0 = xs.getD p 0 := by simp [List.getD_eq_getElem?_getD, List.getElem?_take, h]
theorem run_lt {xs : List Int} {m t p : Nat} (hm : m ≤ xs.length) (h : t < run xs m) (hp : t + p + 1 = m) : xs.getD p 0 = 92 := by
  have := trail_lt h
  rw [List.length_take, Nat.min_eq_left hm, show m - 1 - t = p by omega, getD_take (by omega)] at this
  exact this
theorem run_eq {xs : List Int} {m p : Nat} (hm : m ≤ xs.length) (hp : run xs m + p + 1 = m) : xs.getD p 0 ≠ 92 := by
  have h1 : trail (xs.take m) < (xs.take m).length := by rw [List.length_take, Nat.min_eq_left hm]; unfold run at hp; omega
  have := trail_eq h1
  rw [List.length_take, Nat.min_eq_left hm, show m - 1 - trail (xs.take m) = p by unfold run at hp; omega, getD_take (by omega)] at this
  exact this

/-- Where the string ends (the next byte is taken in; the place; a backslash was seen). -/
def seF : Bool → Nat → Bool → List Int → Int × Bool
  | _, _, e, [] => (-1, e)
  | true, p, e, _ :: r => seF false (p + 1) e r
  | false, p, e, b :: r => if b = 92 then seF true (p + 1) true r else if b = 34 then ((p : Int) + 1, e) else seF false (p + 1) e r
def skip (xs : List Int) (m : Nat) : Bool := run xs m % 2 == 1
/-- What is answered from place m on. -/
def seAt (xs : List Int) (m : Nat) (e : Bool) : Int × Bool := seF (skip xs m) m e (xs.drop m)
section
variable {xs : List Int} {m : Nat} {e : Bool} {x : Int}
theorem skip_other (h : m < xs.length) (hx : xs.getD m 0 ≠ 92) : skip xs (m + 1) = false := by unfold skip; rw [run_succ h, if_neg hx]; rfl
theorem skip_back (h : m < xs.length) (hx : xs.getD m 0 = 92) : skip xs (m + 1) = !skip xs m := by
  unfold skip; rw [run_succ h, if_pos hx]
  rcases Nat.mod_two_eq_zero_or_one (run xs m) with h2 | h2
  · rw [show (run xs m + 1) % 2 = 1 by omega, h2]; rfl
  · rw [show (run xs m + 1) % 2 = 0 by omega, h2]; rfl
theorem se_other (h : m < xs.length) (hx : x = xs.getD m 0) (h1 : x ≠ 92) (h2 : x ≠ 34) : seAt xs m e = seAt xs (m + 1) e := by
  unfold seAt
  rw [skip_other h (hx ▸ h1), drop_cons' xs m h, ← hx]
  cases skip xs m
  · rw [seF, if_neg h1, if_neg h2]
  · rw [seF]
theorem se_back (h : m < xs.length) (hx : x = xs.getD m 0) (h1 : x = 92) (he : skip xs m = true → e = true) : seAt xs m e = seAt xs (m + 1) true := by
  unfold seAt
  rw [skip_back h (hx ▸ h1), drop_cons' xs m h, ← hx]
  cases hs : skip xs m
  · rw [seF, if_pos h1]; rfl
  · rw [seF, he hs]; rfl
theorem se_quote (h : m < xs.length) (hx : x = xs.getD m 0) (h1 : x = 34) (hs : skip xs m = false) : seAt xs m e = ((m : Int) + 1, e) := by
  unfold seAt
  rw [hs, drop_cons' xs m h, ← hx, seF, if_neg (by omega), if_pos h1]
theorem se_quoted (h : m < xs.length) (hx : x = xs.getD m 0) (h1 : x = 34) (hs : skip xs m = true) : seAt xs m e = seAt xs (m + 1) e := by
  unfold seAt
  rw [skip_other h (by omega), hs, drop_cons' xs m h, seF]
theorem se_end (h : ¬ m < xs.length) : seAt xs m e = (-1, e) := by
  unfold seAt
  rw [List.drop_eq_nil_of_le (by omega)]; unfold seF; rfl
end
/-- No quotation mark and no backslash ahead of k. -/
def noq (xs : List Int) (k : Nat) : Prop := ∀ j, j < k → xs.getD j 0 ≠ 34 ∧ xs.getD j 0 ≠ 92
theorem noq_run {xs : List Int} : ∀ k, k ≤ xs.length → noq xs k → run xs k = 0
  | 0, _, _ => run_zero xs
  | k + 1, hk, h => by rw [run_succ (by omega), if_neg (h k (by omega)).2]
theorem noq_se {xs : List Int} : ∀ k, k ≤ xs.length → noq xs k → seAt xs k false = seAt xs 0 false
  | 0, _, _ => rfl
  | k + 1, hk, h => by
    rw [← noq_se k (by omega) (fun j hj => h j (by omega)), se_other (x := xs.getD k 0) (by omega) rfl (h k (by omega)).2 (h k (by omega)).1]
/-- Where the block ends (0 outside of strings, 1 in a string, 2 behind a backslash in it; how many are open; the place). -/
def blkF (a b : Int) : Nat → Int → Nat → List Int → Int
  | _, _, _, [] => -1
  | 0, l, p, x :: r => if x = 34 then blkF a b 1 l (p + 1) r else if x = a then blkF a b 0 (l + 1) (p + 1) r else if x = b then (if l - 1 = 0 then (p : Int) + 1 else blkF a b 0 (l - 1) (p + 1) r) else blkF a b 0 l (p + 1) r
  | 1, l, p, x :: r => if x = 92 then blkF a b 2 l (p + 1) r else if x = 34 then blkF a b 0 l (p + 1) r else blkF a b 1 l (p + 1) r
  | _, l, p, _ :: r => blkF a b 1 l (p + 1) r
theorem blk_str (a b l : Int) : ∀ (ys : List Int) (s : Bool) (k p : Nat) (e : Bool),
    ((seF s k e ys).1 = -1 ∧ blkF a b (if s then 2 else 1) l p ys = -1) ∨ ∃ j : Nat, 1 ≤ j ∧ j ≤ ys.length ∧ (seF s k e ys).1 = (k : Int) + j ∧ blkF a b (if s then 2 else 1) l p ys = blkF a b 0 l (p + j) (ys.drop j) := by
  intro ys
  induction ys with
  | nil => intro s k p e; left; cases s <;> simp [seF, blkF]
  | cons x r ih =>
    intro s k p e
    have up : ∀ (s' : Bool) (e' : Bool), seF s k e (x :: r) = seF s' (k + 1) e' r → blkF a b (if s then 2 else 1) l p (x :: r) = blkF a b (if s' then 2 else 1) l (p + 1) r →
        ((seF s k e (x :: r)).1 = -1 ∧ blkF a b (if s then 2 else 1) l p (x :: r) = -1) ∨ ∃ j : Nat, 1 ≤ j ∧ j ≤ (x :: r).length ∧ (seF s k e (x :: r)).1 = (k : Int) + j ∧ blkF a b (if s then 2 else 1) l p (x :: r) = blkF a b 0 l (p + j) ((x :: r).drop j) := by
      intro s' e' h1 h2
      rw [h1, h2]
      rcases ih s' (k + 1) (p + 1) e' with h | ⟨j, h3, h4, h5, h6⟩
      · exact .inl h
      · refine .inr ⟨j + 1, by omega, by simp; omega, by rw [h5]; push_cast; omega, ?_⟩
        rw [h6, List.drop_succ_cons, show p + 1 + j = p + (j + 1) by omega]
    cases s
    · by_cases h1 : x = 92
      · exact up true true (by rw [seF, if_pos h1]) (by simp [blkF, h1])
      · by_cases h2 : x = 34
        · right
          refine ⟨1, by omega, by simp, ?_, ?_⟩
          · rw [seF, if_neg h1, if_pos h2]; rfl
          · simp [blkF, h2]
        · exact up false e (by rw [seF, if_neg h1, if_neg h2]) (by simp [blkF, h1, h2])
    · exact up false e (by rw [seF]) (by simp [blkF])
section
variable {a b l : Int} {xs : List Int} {m : Nat} {x R : Int}
/-- What is answered from place m on, l open. -/
def blkAt (a b : Int) (xs : List Int) (l : Int) (m : Nat) : Int := blkF a b 0 l m (xs.drop m)
theorem blk_end (h : ¬ m < xs.length) : blkAt a b xs l m = -1 := by
  unfold blkAt
  rw [List.drop_eq_nil_of_le (by omega)]; unfold blkF; rfl
theorem blk_other (h : m < xs.length) (hx : x = xs.getD m 0) (h1 : x ≠ 34) (h2 : x ≠ a) (h3 : x ≠ b) : blkAt a b xs l m = blkAt a b xs l (m + 1) := by
  unfold blkAt
  rw [drop_cons' xs m h, ← hx, blkF, if_neg h1, if_neg h2, if_neg h3]
theorem blk_open (h : m < xs.length) (hx : x = xs.getD m 0) (h1 : x ≠ 34) (h2 : x = a) : blkAt a b xs l m = blkAt a b xs (l + 1) (m + 1) := by
  unfold blkAt
  rw [drop_cons' xs m h, ← hx, blkF, if_neg h1, if_pos h2]
theorem blk_last (h : m < xs.length) (hx : x = xs.getD m 0) (h1 : x ≠ 34) (h2 : x ≠ a) (h3 : x = b) (h4 : l - 1 = 0) : blkAt a b xs l m = (m : Int) + 1 := by
  unfold blkAt
  rw [drop_cons' xs m h, ← hx, blkF, if_neg h1, if_neg h2, if_pos h3, if_pos h4]
theorem blk_close (h : m < xs.length) (hx : x = xs.getD m 0) (h1 : x ≠ 34) (h2 : x ≠ a) (h3 : x = b) (h4 : ¬ l - 1 = 0) : blkAt a b xs l m = blkAt a b xs (l - 1) (m + 1) := by
  unfold blkAt
  rw [drop_cons' xs m h, ← hx, blkF, if_neg h1, if_neg h2, if_pos h3, if_neg h4]
/-- A string: it has no end, or is passed by. -/
theorem blk_quote (h : m < xs.length) (hx : x = xs.getD m 0) (h1 : x = 34) :
    ((seAt (xs.drop (m + 1)) 0 false).1 = -1 ∧ blkAt a b xs l m = -1) ∨ ∃ j : Nat, 1 ≤ j ∧ m + 1 + j ≤ xs.length ∧ (seAt (xs.drop (m + 1)) 0 false).1 = (j : Int) ∧ blkAt a b xs l m = blkAt a b xs l (m + 1 + j) := by
  have e1 : seAt (xs.drop (m + 1)) 0 false = seF false 0 false (xs.drop (m + 1)) := by unfold seAt skip; rw [run_zero]; rfl
  have e2 : blkAt a b xs l m = blkF a b 1 l (m + 1) (xs.drop (m + 1)) := by
    unfold blkAt
    rw [drop_cons' xs m h, ← hx, blkF, if_pos h1]
  rw [e1, e2]
  rcases blk_str a b l (xs.drop (m + 1)) false 0 (m + 1) false with h2 | ⟨j, h3, h4, h5, h6⟩
  · exact .inl h2
  · right
    rw [List.length_drop] at h4
    refine ⟨j, h3, by omega, by rw [h5]; simp, ?_⟩
    have h7 : blkF a b 1 l (m + 1) (xs.drop (m + 1)) = _ := h6
    rw [h7]
    unfold blkAt
    rw [List.drop_drop]
end
theorem drop_at {xs : List Int} {k n : Nat} (hl : xs.length = n) (h : k < n) : xs.drop k = xs.getD k 0 :: xs.drop (k + 1) := drop_cons' xs k (by omega)
theorem drop_nil' {xs : List Int} {k n : Nat} (hl : xs.length = n) (h : ¬ k < n) : xs.drop k = [] := List.drop_eq_nil_of_le (by omega)
theorem bl_one {x : Int} {l : List Int} (h : isBl x = true) : bl (x :: l) = bl l + 1 := by rw [bl, if_pos h]
theorem bl_zero {x : Int} {l : List Int} (h : isBl x = false) : bl (x :: l) = 0 := by rw [bl, if_neg (by rw [h]; decide)]
theorem isBl_or' {x : Int} (h : isBl x = true) : x = 32 ∨ x = 9 ∨ x = 10 ∨ x = 13 := by
  unfold isBl at h
  simp only [Bool.or_eq_true, beq_iff_eq] at h
  omega
theorem isBl_not {x : Int} (h : isBl x = false) : (x == 32) = false ∧ (x == 9) = false ∧ (x == 10) = false ∧ (x == 13) = false := by
  unfold isBl at h
  simp only [Bool.or_eq_false_iff] at h
  exact ⟨h.1.1.1, h.1.1.2, h.1.2, h.2⟩
end Go.Proofs.YtpahejmkidhhhaaDoor.G
