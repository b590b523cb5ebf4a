/- gjson's squash of a squash is that squash, and no shorter beginning of it is a JSON text: texts of at most 4096 bytes that begin with a bracket or a brace (the statement's own guards). -/
import Derived.Test.YtklllibhgalnfaaPFnGjSquashTwicex7
namespace Go.Proofs.Ytklllibhgalnfaa.Pure
set_option linter.unusedVariables false
set_option linter.unusedSimpArgs false
open Go.RowKit Go.Proofs.Ytklllibhgalnfaa.PFnGjSquashTwice Go.Proofs.YtklllibhgalnfaaW.PrintWords Go.Proofs.YtklllibhgalnfaaW.PrintLast

theorem w64 {x : Int} (h0 : -9223372036854775808 ≤ x) (h1 : x ≤ 9223372036854775807) : wrap64 x = x := by unfold wrap64; omega
theorem Ev.ret {α : Type} {g : Nat → Option α} {r : α} (h : ∀ k, g k = some r) : Ev g r := ⟨0, fun k _ => h k⟩
theorem Ev.stepRet {α : Type} {g : Nat → Option α} {r : α} (h : ∀ k, g (k + 1) = some r) : Ev g r := ⟨1, fun k hk => by obtain ⟨m, rfl⟩ : ∃ m, k = m + 1 := ⟨k - 1, by omega⟩; exact h m⟩
theorem Ev.succ {α : Type} {g : Nat → Option α} {r : α} (h : Ev (fun k => g (k + 1)) r) : Ev g r := Ev.step (fun _ => rfl) h
theorem Ev.one {α : Type} {g : Nat → Option α} {r r' : α} (h : Ev g r) (h' : Ev g r') : r = r' := by
  obtain ⟨K, h⟩ := h
  obtain ⟨K', h'⟩ := h'
  have a := h (max K K') (Nat.le_max_left _ _)
  have b := h' (max K K') (Nat.le_max_right _ _)
  rw [a] at b
  injection b

/-- A byte at which squash only goes on. -/
def plainC (c : Int) : Prop := c ≠ 34 ∧ c ≠ 123 ∧ c ≠ 91 ∧ c ≠ 40 ∧ c ≠ 125 ∧ c ≠ 93 ∧ c ≠ 41
/-- From behind a quotation mark up to behind the one that closes. -/
inductive Chars (s : ByteArray) : Nat → Nat → Prop
  | close {i : Nat} : i < s.size → bt s i = 34 → Chars s i (i + 1)
  | esc {i j : Nat} : i + 1 < s.size → bt s i = 92 → Chars s (i + 2) j → Chars s i j
  | ord {i j : Nat} : i < s.size → bt s i ≠ 34 → bt s i ≠ 92 → Chars s (i + 1) j → Chars s i j
/-- Plain bytes, strings, and what stands between brackets. -/
inductive Seg (s : ByteArray) : Nat → Nat → Prop
  | nil (i : Nat) : Seg s i i
  | plain {i j : Nat} : i < s.size → plainC (bt s i) → Seg s (i + 1) j → Seg s i j
  | str {i p j : Nat} : i < s.size → bt s i = 34 → Chars s (i + 1) p → Seg s p j → Seg s i j
  | nest {i p j : Nat} : i < s.size → (bt s i = 91 ∨ bt s i = 123) → Seg s (i + 1) p → p < s.size → (bt s p = 93 ∨ bt s p = 125) → Seg s (p + 1) j → Seg s i j
theorem Seg.trans {s : ByteArray} {i p j : Nat} (h : Seg s i p) (h' : Seg s p j) : Seg s i j := by
  induction h with
  | nil => exact h'
  | plain a b _ ih => exact .plain a b (ih h')
  | str a b c _ ih => exact .str a b c (ih h')
  | nest a b c d e _ _ ih => exact .nest a b c d e (ih h')
theorem Seg.one {s : ByteArray} {i : Nat} (h : i < s.size) (hp : plainC (bt s i)) : Seg s i (i + 1) := .plain h hp (.nil _)

section reader
variable (s : ByteArray) (hs : s.size ≤ 4096)
include hs

/-- A function of the reader comes to an end, at a place not ahead of where it began; if it says yes, P of that place. -/
def Good (s : ByteArray) (g : Nat → Option (Bool × ByteArray × Int)) (i : Nat) (P : Nat → Prop) : Prop :=
  ∃ (ok : Bool) (j : Nat), Ev g (ok, s, (j : Int)) ∧ i ≤ j ∧ j ≤ s.size ∧ (ok = true → P j)

theorem blanks_ev (d : Nat) : ∀ i : Nat, i + d = s.size → ∃ j : Nat, Ev (fun k => spec_reader_blanks.f k s (i : Int)) (s, (j : Int)) ∧ i ≤ j ∧ j ≤ s.size ∧ Seg s i j ∧ (bt s i = 91 ∨ bt s i = 123 → j = i) := by
  induction d with
  | zero =>
    intro i hi
    refine ⟨i, Ev.stepRet fun k => ?_, Nat.le_refl _, by omega, .nil _, fun _ => rfl⟩
    show spec_reader_blanks.l0 (k + 1) s (i : Int) = _
    rw [spec_reader_blanks.l0, if_neg (by omega)]
  | succ d ih =>
    intro i hi
    have hlt : i < s.size := by omega
    have e : wrap64 ((i : Int) + 1) = ((i + 1 : Nat) : Int) := by rw [w64 (by omega) (by omega)]; omega
    by_cases hb : bt s i = 32 ∨ bt s i = 9 ∨ bt s i = 10 ∨ bt s i = 13
    · obtain ⟨j, hj, h1, h2, h3, _⟩ := ih (i + 1) (by omega)
      refine ⟨j, Ev.step (fun k => ?_) hj, by omega, h2, .plain hlt (by unfold plainC; omega) h3, fun h => by omega⟩
      show spec_reader_blanks.l0 (k + 1) s (i : Int) = spec_reader_blanks.l0 k s _
      rw [spec_reader_blanks.l0, if_pos (by omega), if_pos (by omega), e]
      have : spec_Blank.f (bt s i) = some true := by unfold spec_Blank.f; (repeat' split) <;> simp_all
      rw [this]; rfl
    · refine ⟨i, Ev.stepRet fun k => ?_, Nat.le_refl _, by omega, .nil _, fun _ => rfl⟩
      show spec_reader_blanks.l0 (k + 1) s (i : Int) = _
      rw [spec_reader_blanks.l0, if_pos (by omega), if_pos (by omega)]
      have : spec_Blank.f (bt s i) = some false := by unfold spec_Blank.f; (repeat' split) <;> simp_all
      rw [this]; rfl

/-- The byte that the reader sees. -/
def at_ (s : ByteArray) (i : Nat) : Int := if i < s.size then bt s i else 0
omit hs in
theorem here_at (i : Nat) : spec_reader_here.f s (i : Int) = some (at_ s i, s, (i : Int)) := by
  unfold at_
  by_cases h : i < s.size
  · unfold spec_reader_here.f; rw [if_pos (by omega), if_pos (by omega), if_pos h]
  · unfold spec_reader_here.f; rw [if_neg (by omega), if_neg h]
omit hs in
theorem at_in {i : Nat} (h : at_ s i ≠ 0) : i < s.size ∧ at_ s i = bt s i := by
  unfold at_ at *
  by_cases h1 : i < s.size
  · exact ⟨h1, by rw [if_pos h1]⟩
  · rw [if_neg h1] at h; exact absurd rfl h
theorem take_yes {i : Nat} {c : Int} (h : i < s.size) (hc : bt s i = c) : spec_reader_take.f s (i : Int) c = some (true, s, ((i + 1 : Nat) : Int)) := by
  have e : wrap64 ((i : Int) + 1) = ((i + 1 : Nat) : Int) := by rw [w64 (by omega) (by omega)]; omega
  unfold spec_reader_take.f; rw [if_pos (by omega), if_pos (by omega), if_pos hc, e]
omit hs in
theorem take_no {i : Nat} {c : Int} (h : ¬ (i < s.size ∧ bt s i = c)) : spec_reader_take.f s (i : Int) c = some (false, s, (i : Int)) := by
  unfold spec_reader_take.f
  by_cases h1 : i < s.size
  · rw [if_pos (by omega), if_pos (by omega), if_neg (fun hc => h ⟨h1, hc⟩)]
  · rw [if_neg (by omega)]

theorem digits_l0 (d : Nat) : ∀ (i : Nat) (x3 : Int), i + d = s.size → ∃ j : Nat, Ev (fun k => spec_reader_digits.l0 k x3 (at_ s i) s (i : Int)) (decide ((j : Int) > x3), s, (j : Int)) ∧ i ≤ j ∧ j ≤ s.size ∧ Seg s i j := by
  induction d with
  | zero =>
    intro i x3 hi
    refine ⟨i, Ev.stepRet fun k => ?_, Nat.le_refl _, by omega, .nil _⟩
    rw [spec_reader_digits.l0, if_neg (by unfold at_; rw [if_neg (by omega)]; omega)]
  | succ d ih =>
    intro i x3 hi
    have hlt : i < s.size := by omega
    have e : wrap64 ((i : Int) + 1) = ((i + 1 : Nat) : Int) := by rw [w64 (by omega) (by omega)]; omega
    have ea : at_ s i = bt s i := by unfold at_; rw [if_pos hlt]
    by_cases hb : 48 ≤ bt s i ∧ bt s i ≤ 57
    · obtain ⟨j, hj, h1, h2, h3⟩ := ih (i + 1) x3 (by omega)
      refine ⟨j, Ev.step (fun k => ?_) hj, by omega, h2, .plain hlt (by unfold plainC; omega) h3⟩
      rw [spec_reader_digits.l0, ea, if_pos hb.1, if_pos hb.2, e, here_at s (i + 1)]; rfl
    · refine ⟨i, Ev.stepRet fun k => ?_, Nat.le_refl _, by omega, .nil _⟩
      rw [spec_reader_digits.l0, ea]
      by_cases h1 : 48 ≤ bt s i
      · rw [if_pos h1, if_neg (by omega)]
      · rw [if_neg h1]
theorem digits_ev (i : Nat) (hi : i ≤ s.size) : Good s (fun k => spec_reader_digits.f k s (i : Int)) i (fun j => i < j ∧ Seg s i j) := by
  obtain ⟨j, hj, h1, h2, h3⟩ := digits_l0 s hs (s.size - i) i (i : Int) (by omega)
  refine ⟨decide ((j : Int) > (i : Int)), j, Ev.congr (fun k => ?_) hj, h1, h2, fun h => ⟨by simp at h; omega, h3⟩⟩
  unfold spec_reader_digits.f
  rw [here_at s i]; rfl

omit hs in
theorem hex_ev (c : Int) : ∃ (v : Int) (ok : Bool), Ev (fun k => spec_hexDigit.f k c) (v, ok) ∧ (ok = true → c ≠ 34 ∧ c ≠ 92 ∧ c ≠ 0) := by
  have two : ∀ {g : Nat → Option (Int × Bool)} {r : Int × Bool}, (∀ m, g (m + 1 + 1) = some r) → Ev g r := by
    intro g r h
    refine ⟨2, fun k hk => ?_⟩
    obtain ⟨m, rfl⟩ : ∃ m, k = m + 1 + 1 := ⟨k - 2, by omega⟩
    exact h m
  by_cases h1 : 48 ≤ c
  · by_cases h2 : c ≤ 57
    · exact ⟨(c - 48) % 256, true, two fun m => by simp [spec_hexDigit.f, h1, spec_hexDigit.j0, h2], fun _ => by omega⟩
    · by_cases h3 : 97 ≤ c
      · by_cases h4 : c ≤ 102
        · exact ⟨((c - 97) % 256) + 10, true, two fun m => by simp [spec_hexDigit.f, h1, spec_hexDigit.j0, h2, h3, spec_hexDigit.j1, h4], fun _ => by omega⟩
        · exact ⟨0, false, two fun m => by simp [spec_hexDigit.f, h1, spec_hexDigit.j0, h2, h3, spec_hexDigit.j1, h4]; omega, by simp⟩
      · by_cases h4 : 65 ≤ c
        · by_cases h5 : c ≤ 70
          · exact ⟨((c - 65) % 256) + 10, true, two fun m => by simp [spec_hexDigit.f, h1, spec_hexDigit.j0, h2, h3, spec_hexDigit.j1, h4, h5], fun _ => by omega⟩
          · exact ⟨0, false, two fun m => by simp [spec_hexDigit.f, h1, spec_hexDigit.j0, h2, h3, spec_hexDigit.j1, h4, h5], by simp⟩
        · exact ⟨0, false, two fun m => by simp [spec_hexDigit.f, h1, spec_hexDigit.j0, h2, h3, spec_hexDigit.j1, h4], by simp⟩
  · exact ⟨0, false, two fun m => by simp [spec_hexDigit.f, h1, spec_hexDigit.j0, show ¬ 97 ≤ c by omega, spec_hexDigit.j1, show ¬ 65 ≤ c by omega], by simp⟩

theorem escape_l0 (d : Nat) : ∀ (i : Nat) (x3 : Nat), x3 + d = 4 → i ≤ s.size → Good s (fun k => spec_reader_escape.l0 k (x3 : Int) s (i : Int)) i (fun j => ∀ e, Chars s j e → Chars s i e) := by
  induction d with
  | zero =>
    intro i x3 hx hi
    refine ⟨true, i, Ev.stepRet fun k => ?_, Nat.le_refl _, hi, fun _ _ h => h⟩
    rw [spec_reader_escape.l0, if_neg (by omega)]
  | succ d ih =>
    intro i x3 hx hi
    obtain ⟨v, ok, hv, hok⟩ := hex_ev (at_ s i)
    cases ok with
    | false =>
      refine ⟨false, i, ?_, Nat.le_refl _, hi, by simp⟩
      refine Ev.step (f := fun k => ((spec_reader_here.f s (i : Int)).bind fun bt107 => ((spec_hexDigit.f k bt107.1).bind fun bt110 => (if bt110.2 = true then (spec_reader_escape.l0 k (wrap64 ((x3 : Int) + 1)) bt107.2.1 (wrap64 (bt107.2.2 + 1))) else (some (false, bt107.2.1, bt107.2.2)))))) (fun k => ?_) ?_
      · rw [spec_reader_escape.l0, if_pos (by omega)]
      · simp only [here_at s i, Option.bind_some]
        exact Ev.bind hv (Ev.ret fun k => by simp)
    | true =>
      have h0 := hok rfl
      obtain ⟨hlt, ea⟩ := at_in s h0.2.2
      have e : wrap64 ((i : Int) + 1) = ((i + 1 : Nat) : Int) := by rw [w64 (by omega) (by omega)]; omega
      have e3 : wrap64 ((x3 : Int) + 1) = ((x3 + 1 : Nat) : Int) := by rw [w64 (by omega) (by omega)]; omega
      obtain ⟨ok, j, hj, h1, h2, h3⟩ := ih (i + 1) (x3 + 1) (by omega) (by omega)
      refine ⟨ok, j, ?_, by omega, h2, fun h e he => .ord hlt (by rw [← ea]; exact h0.1) (by rw [← ea]; exact h0.2.1) (h3 h e he)⟩
      refine Ev.step (f := fun k => ((spec_reader_here.f s (i : Int)).bind fun bt107 => ((spec_hexDigit.f k bt107.1).bind fun bt110 => (if bt110.2 = true then (spec_reader_escape.l0 k (wrap64 ((x3 : Int) + 1)) bt107.2.1 (wrap64 (bt107.2.2 + 1))) else (some (false, bt107.2.1, bt107.2.2)))))) (fun k => ?_) ?_
      · rw [spec_reader_escape.l0, if_pos (by omega)]
      · simp only [here_at s i, Option.bind_some]
        refine Ev.bind hv (Ev.congr (fun k => ?_) hj)
        simp [e, e3]
/-- Behind a backslash: what was escaped, and the hexadecimal digits. -/
theorem escape_ev (i : Nat) (hi : i ≤ s.size) : Good s (fun k => spec_reader_escape.f k s (i : Int)) i (fun j => i < s.size ∧ ∀ e, Chars s j e → Chars s (i + 1) e) := by
  have e : i < s.size → wrap64 ((i : Int) + 1) = ((i + 1 : Nat) : Int) := by intro h; rw [w64 (by omega) (by omega)]; omega
  have hf : ∀ k, spec_reader_escape.f k s (i : Int) = if at_ s i = 34 ∨ at_ s i = 92 ∨ at_ s i = 47 ∨ at_ s i = 98 ∨ at_ s i = 102 ∨ at_ s i = 110 ∨ at_ s i = 114 ∨ at_ s i = 116 then spec_reader_escape.j0 k (at_ s i) true s (i : Int) else spec_reader_escape.j0 k (at_ s i) false s (i : Int) := by
    intro k
    unfold spec_reader_escape.f
    rw [here_at s i]
    simp only [Option.bind_some]
    generalize at_ s i = a
    by_cases h1 : a = 34
    · simp [h1]
    by_cases h2 : a = 92
    · simp [h2]
    by_cases h3 : a = 47
    · simp [h3]
    by_cases h4 : a = 98
    · simp [h4]
    by_cases h5 : a = 102
    · simp [h5]
    by_cases h6 : a = 110
    · simp [h6]
    by_cases h7 : a = 114
    · simp [h7]
    by_cases h8 : a = 116
    · simp [h8]
    have h9 : (a == 116) = false := by simpa using h8
    simp [h1, h2, h3, h4, h5, h6, h7, h8, h9]
  by_cases hc : at_ s i = 34 ∨ at_ s i = 92 ∨ at_ s i = 47 ∨ at_ s i = 98 ∨ at_ s i = 102 ∨ at_ s i = 110 ∨ at_ s i = 114 ∨ at_ s i = 116
  · obtain ⟨hlt, ea⟩ := at_in s (i := i) (by omega)
    refine ⟨true, i + 1, Ev.stepRet fun k => ?_, by omega, by omega, fun _ => ⟨hlt, fun _ h => h⟩⟩
    rw [hf, if_pos hc, spec_reader_escape.j0, if_pos rfl, e hlt]
  · by_cases hu : at_ s i = 117
    · obtain ⟨hlt, ea⟩ := at_in s (i := i) (by omega)
      obtain ⟨ok, j, hj, h1, h2, h3⟩ := escape_l0 s hs 4 (i + 1) 0 (by omega) (by omega)
      refine ⟨ok, j, Ev.step (fun k => ?_) hj, by omega, h2, fun h => ⟨hlt, h3 h⟩⟩
      rw [hf, if_neg hc, spec_reader_escape.j0, if_neg (by simp), if_pos hu, e hlt]; rfl
    · refine ⟨false, i, Ev.stepRet fun k => ?_, Nat.le_refl _, hi, by simp⟩
      rw [hf, if_neg hc, spec_reader_escape.j0, if_neg (by simp), if_neg hu]

theorem quoted_l0 (n : Nat) : ∀ i : Nat, s.size - i < n → i ≤ s.size → Good s (fun k => spec_reader_quoted.l0 k s (i : Int)) i (fun j => Chars s i j) := by
  induction n with
  | zero => intro i h; omega
  | succ n ih =>
    intro i hn hi
    by_cases hlt : i < s.size
    · have e : wrap64 ((i : Int) + 1) = ((i + 1 : Nat) : Int) := by rw [w64 (by omega) (by omega)]; omega
      by_cases h34 : bt s i = 34
      · refine ⟨true, i + 1, Ev.stepRet fun k => ?_, by omega, by omega, fun _ => .close hlt h34⟩
        rw [spec_reader_quoted.l0, if_pos (by omega), if_pos (by omega), if_pos h34, e]
      · by_cases h32 : bt s i < 32
        · refine ⟨false, i + 1, Ev.stepRet fun k => ?_, by omega, by omega, by simp⟩
          rw [spec_reader_quoted.l0, if_pos (by omega), if_pos (by omega), if_neg h34, if_pos h32, e]
        · by_cases h92 : bt s i = 92
          · obtain ⟨ok, j, hj, h1, h2, h3⟩ := escape_ev s hs (i + 1) (by omega)
            cases ok with
            | false =>
              refine ⟨false, j, Ev.step (fun k => ?_) (Ev.bind (f := fun k a => if a.1 = true then spec_reader_quoted.l0 k a.2.1 a.2.2 else some (false, a.2.1, a.2.2)) hj (Ev.ret fun k => by simp)), by omega, h2, by simp⟩
              rw [spec_reader_quoted.l0, if_pos (by omega), if_pos (by omega), if_neg h34, if_neg h32, if_pos h92, e]
            | true =>
              obtain ⟨hi1, hc⟩ := h3 rfl
              obtain ⟨ok, q, hq, g1, g2, g3⟩ := ih j (by omega) h2
              refine ⟨ok, q, Ev.step (fun k => ?_) (Ev.bind (f := fun k a => if a.1 = true then spec_reader_quoted.l0 k a.2.1 a.2.2 else some (false, a.2.1, a.2.2)) hj (Ev.congr (fun k => by simp) hq)), by omega, g2, fun h => .esc (by omega) h92 (hc q (g3 h))⟩
              rw [spec_reader_quoted.l0, if_pos (by omega), if_pos (by omega), if_neg h34, if_neg h32, if_pos h92, e]
          · obtain ⟨ok, q, hq, g1, g2, g3⟩ := ih (i + 1) (by omega) (by omega)
            refine ⟨ok, q, Ev.step (fun k => ?_) hq, by omega, g2, fun h => .ord hlt h34 h92 (g3 h)⟩
            rw [spec_reader_quoted.l0, if_pos (by omega), if_pos (by omega), if_neg h34, if_neg h32, if_neg h92, e]
    · refine ⟨false, i, Ev.stepRet fun k => ?_, Nat.le_refl _, hi, by simp⟩
      rw [spec_reader_quoted.l0, if_neg (by omega)]
theorem quoted_ev (i : Nat) (hi : i < s.size) : Good s (fun k => spec_reader_quoted.f k s (i : Int)) (i + 1) (fun j => Chars s (i + 1) j) := by
  have e : wrap64 ((i : Int) + 1) = ((i + 1 : Nat) : Int) := by rw [w64 (by omega) (by omega)]; omega
  obtain ⟨ok, j, hj, h⟩ := quoted_l0 s hs (s.size + 1) (i + 1) (by omega) (by omega)
  exact ⟨ok, j, Ev.congr (fun k => by unfold spec_reader_quoted.f; rw [e]) hj, h⟩
omit hs in
theorem Seg.row (n : Nat) : ∀ i : Nat, i + n ≤ s.size → (∀ p, p < n → plainC (bt s ((i + p : Nat) : Int))) → Seg s i (i + n) := by
  induction n with
  | zero => intro i _ _; exact .nil _
  | succ n ih =>
    intro i h hp
    have := ih (i + 1) (by omega) (fun p hq => by have := hp (p + 1) (by omega); rwa [show i + (p + 1) = i + 1 + p by omega] at this)
    rw [show i + (n + 1) = i + 1 + n by omega]
    exact .plain (by omega) (by simpa using hp 0 (by omega)) this
theorem take_any (i : Nat) (c : Int) (hi : i ≤ s.size) (hc : plainC c) : ∃ (b : Bool) (j : Nat), spec_reader_take.f s (i : Int) c = some (b, s, (j : Int)) ∧ i ≤ j ∧ j ≤ s.size ∧ Seg s i j ∧ (b = true → i < j) := by
  by_cases h : i < s.size ∧ bt s i = c
  · exact ⟨true, i + 1, take_yes s hs h.1 h.2, by omega, by omega, .one h.1 (by rw [h.2]; exact hc), fun _ => by omega⟩
  · exact ⟨false, i, take_no s h, Nat.le_refl _, hi, .nil _, by simp⟩

theorem number_j2 (b : Bool) (i : Nat) (hi : i ≤ s.size) : Good s (fun k => spec_reader_number.j2 k b s (i : Int)) i (fun j => Seg s i j) := by
  cases b with
  | false => exact ⟨true, i, Ev.stepRet fun k => by rw [spec_reader_number.j2, if_neg (by simp)], Nat.le_refl _, hi, fun _ => .nil _⟩
  | true =>
    obtain ⟨b, j, hj, h1, h2, h3, _⟩ := take_any s hs i 43 hi (by unfold plainC; omega)
    cases b with
    | true =>
      obtain ⟨ok, q, hq, g1, g2, g3⟩ := digits_ev s hs j h2
      refine ⟨ok, q, Ev.succ ?_, by omega, g2, fun h => h3.trans (g3 h).2⟩
      simp only [spec_reader_number.j2, hj, Option.bind_some, if_true]
      exact Ev.bind hq (Ev.ret fun _ => rfl)
    | false =>
      obtain ⟨b', j', hj', h1', h2', h3', _⟩ := take_any s hs j 45 h2 (by unfold plainC; omega)
      obtain ⟨ok, q, hq, g1, g2, g3⟩ := digits_ev s hs j' h2'
      refine ⟨ok, q, Ev.succ ?_, by omega, g2, fun h => h3.trans (h3'.trans (g3 h).2)⟩
      simp only [spec_reader_number.j2, hj, hj', Option.bind_some, if_true, Bool.false_eq_true, if_false]
      exact Ev.bind hq (Ev.ret fun _ => rfl)
theorem number_j1 (b : Bool) (i : Nat) (hi : i ≤ s.size) : Good s (fun k => spec_reader_number.j1 k b s (i : Int)) i (fun j => Seg s i j) := by
  cases b with
  | true => exact ⟨false, i, Ev.stepRet fun k => by rw [spec_reader_number.j1, if_pos rfl], Nat.le_refl _, hi, by simp⟩
  | false =>
    obtain ⟨b, j, hj, h1, h2, h3, _⟩ := take_any s hs i 101 hi (by unfold plainC; omega)
    cases b with
    | true =>
      obtain ⟨ok, q, hq, g1, g2, g3⟩ := number_j2 s hs true j h2
      refine ⟨ok, q, Ev.succ ?_, by omega, g2, fun h => h3.trans (g3 h)⟩
      simp only [spec_reader_number.j1, hj, Option.bind_some, if_true, Bool.false_eq_true, if_false]
      exact hq
    | false =>
      obtain ⟨b', j', hj', h1', h2', h3', _⟩ := take_any s hs j 69 h2 (by unfold plainC; omega)
      obtain ⟨ok, q, hq, g1, g2, g3⟩ := number_j2 s hs b' j' h2'
      refine ⟨ok, q, Ev.succ ?_, by omega, g2, fun h => h3.trans (h3'.trans (g3 h))⟩
      simp only [spec_reader_number.j1, hj, hj', Option.bind_some, Bool.false_eq_true, if_false]
      exact hq
theorem number_j0 (b : Bool) (i : Nat) (hi : i ≤ s.size) : Good s (fun k => spec_reader_number.j0 k b s (i : Int)) i (fun j => Seg s i j) ∧ (b = true → Good s (fun k => spec_reader_number.j0 k b s (i : Int)) i (fun _ => False)) := by
  cases b with
  | true =>
    have e : Ev (fun k => spec_reader_number.j0 k true s (i : Int)) (false, s, (i : Int)) := Ev.stepRet fun k => by rw [spec_reader_number.j0, if_pos rfl]
    exact ⟨⟨false, i, e, Nat.le_refl _, hi, by simp⟩, fun _ => ⟨false, i, e, Nat.le_refl _, hi, by simp⟩⟩
  | false =>
    refine ⟨?_, by simp⟩
    obtain ⟨b, j, hj, h1, h2, h3, _⟩ := take_any s hs i 46 hi (by unfold plainC; omega)
    cases b with
    | true =>
      obtain ⟨ok, q, hq, g1, g2, g3⟩ := digits_ev s hs j h2
      obtain ⟨ok', q', hq', g1', g2', g3'⟩ := number_j1 s hs (!ok) q g2
      refine ⟨ok' && ok, q', Ev.succ ?_, by omega, g2', fun h => ?_⟩
      · simp only [spec_reader_number.j0, hj, Option.bind_some, if_true, Bool.false_eq_true, if_false]
        refine Ev.bind hq ?_
        cases ok with
        | true => simpa using hq'
        | false =>
          have e : Ev (fun k => spec_reader_number.j1 k true s (q : Int)) (false, s, (q : Int)) := Ev.stepRet fun k => by rw [spec_reader_number.j1, if_pos rfl]
          have := Ev.one hq' e
          simp only [Prod.mk.injEq, true_and] at this
          obtain ⟨rfl, hqq⟩ := this
          rw [hqq]
          exact e
      · simp at h
        exact h3.trans ((g3 h.2).2.trans (g3' h.1))
    | false =>
      obtain ⟨ok, q, hq, g1, g2, g3⟩ := number_j1 s hs false j h2
      refine ⟨ok, q, Ev.succ ?_, by omega, g2, fun h => h3.trans (g3 h)⟩
      simp only [spec_reader_number.j0, hj, Option.bind_some, Bool.false_eq_true, if_false]
      exact hq
theorem number_ev (i : Nat) (hi : i ≤ s.size) : Good s (fun k => spec_reader_number.f k s (i : Int)) i (fun j => i < j ∧ Seg s i j) := by
  obtain ⟨b, j, hj, h1, h2, h3, _⟩ := take_any s hs i 45 hi (by unfold plainC; omega)
  obtain ⟨b', j', hj', h1', h2', h3', h4'⟩ := take_any s hs j 48 h2 (by unfold plainC; omega)
  cases b' with
  | true =>
    obtain ⟨⟨ok, q, hq, g1, g2, g3⟩, _⟩ := number_j0 s hs false j' h2'
    have := h4' rfl
    refine ⟨ok, q, ?_, by omega, g2, fun h => ⟨by omega, h3.trans (h3'.trans (g3 h))⟩⟩
    simp only [spec_reader_number.f, hj, hj', Option.bind_some, if_true]
    exact hq
  | false =>
    obtain ⟨ok, q, hq, g1, g2, g3⟩ := digits_ev s hs j' h2'
    obtain ⟨⟨ok', q', hq', g1', g2', g3'⟩, g4'⟩ := number_j0 s hs (!ok) q g2
    refine ⟨ok', q', ?_, by omega, g2', fun h => ?_⟩
    · simp only [spec_reader_number.f, hj, hj', Option.bind_some, Bool.false_eq_true, if_false]
      exact Ev.bind hq hq'
    · cases ok with
      | true => exact ⟨by have := (g3 rfl).1; omega, h3.trans (h3'.trans ((g3 rfl).2.trans (g3' h)))⟩
      | false =>
        obtain ⟨ok2, q2, hq2, _, _, g5⟩ := g4' rfl
        have := Ev.one hq' hq2
        simp only [Prod.mk.injEq] at this
        exact (g5 (by rw [← this.1]; exact h)).elim

omit hs in
theorem bt_list (i : Nat) : bt s (i : Int) = ((s.data.toList.getD i 0).toNat : Int) := by
  unfold bt
  by_cases h : i < s.size
  · rw [dif_pos (by simpa using h)]
    have h' : i < s.data.toList.length := by simpa using h
    simp [List.getD_eq_getElem?_getD, List.getElem?_eq_getElem h']
    rfl
  · rw [dif_neg (by simpa using h)]
    have h' : s.data.toList.length ≤ i := by simp; omega
    simp [List.getD_eq_getElem?_getD, List.getElem?_eq_none h']
omit hs in
theorem bt_extract {a b i : Nat} (h : a + i < b) (hb : b ≤ s.size) : bt (s.extract a b) (i : Int) = bt s ((a + i : Nat) : Int) := by
  rw [bt_list, bt_list, ByteArray.data_extract, Array.toList_extract]
  simp [List.getD_eq_getElem?_getD, List.getElem?_take, List.getElem?_drop, List.extract]
  rw [if_pos (by omega)]
theorem word_any (i : Nat) (w : ByteArray) (hi : i ≤ s.size) (hw : w.size ≤ 10) (hp : ∀ p, p < w.size → plainC (bt w (p : Int))) (h0 : 0 < w.size) : ∃ (b : Bool) (j : Nat), spec_reader_word.f s (i : Int) w = some (b, s, (j : Int)) ∧ i ≤ j ∧ j ≤ s.size ∧ (b = false → j = i) ∧ (b = true → i < j ∧ Seg s i j) := by
  unfold spec_reader_word.f
  have e1 : wrap64 ((s.size : Int) - (i : Int)) = (s.size : Int) - (i : Int) := w64 (by omega) (by omega)
  have e2 : wrap64 ((i : Int) + (w.size : Int)) = ((i + w.size : Nat) : Int) := by rw [w64 (by omega) (by omega)]; omega
  rw [e1, e2]
  by_cases h : (s.size : Int) - (i : Int) < (w.size : Int)
  · rw [if_pos h]; exact ⟨false, i, rfl, Nat.le_refl _, hi, fun _ => rfl, by simp⟩
  · rw [if_neg h, if_pos (by omega), if_pos (by omega), if_pos (by omega)]
    by_cases he : (s.extract ((i : Int)).toNat (((i + w.size : Nat) : Int)).toNat).toList = w.toList
    · rw [if_pos he]
      refine ⟨true, i + w.size, rfl, by omega, by omega, by simp, fun _ => ⟨by omega, Seg.row s w.size i (by omega) fun p hp' => ?_⟩⟩
      have hx : s.extract i (i + w.size) = w := by
        have := he
        simp only [Int.toNat_natCast, ByteArray.toList_eq] at this
        exact ByteArray.ext (Array.toList_inj.1 this)
      have := bt_extract s (a := i) (b := i + w.size) (i := p) (by omega) (by omega)
      rw [hx] at this
      rw [← this]
      exact hp p hp'
    · rw [if_neg he]; exact ⟨false, i, rfl, Nat.le_refl _, hi, fun _ => rfl, by simp⟩

/-- A value: read to its end, at a place not ahead of its begin; if there is one, it is a part as above. -/
def GoodV (s : ByteArray) (g : Nat → Option (Int × Int × Int × (List (S65)) × (List (S36)) × Bool × ByteArray × Int)) (i : Nat) : Prop :=
  ∃ (a b c : Int) (n : List S65) (q : List S36) (ok : Bool) (j : Nat), Ev g (a, b, c, n, q, ok, s, (j : Int)) ∧ i ≤ j ∧ j ≤ s.size ∧ (ok = true → i < j ∧ Seg s i j)
/-- What follows an opening bracket, up to behind the closing one. -/
def Closed (s : ByteArray) (i j : Nat) : Prop := ∃ q, Seg s i q ∧ q < s.size ∧ (bt s q = 93 ∨ bt s q = 125) ∧ j = q + 1

theorem value_j0 (x5 b : Bool) (x0 x1 x2 : Int) (i : Nat) (hi : i ≤ s.size) : GoodV s (fun k => spec_reader_value.j0 k x5 b s (i : Int) x0 x1 x2) i := by
  cases b with
  | true =>
    obtain ⟨ok, j, hj, h1, h2, h3⟩ := number_ev s hs i hi
    refine ⟨3, x1, j, [], [], ok, j, Ev.succ ?_, h1, h2, h3⟩
    simp only [spec_reader_value.j0, if_true]
    exact Ev.bind hj (Ev.ret fun _ => rfl)
  | false =>
    obtain ⟨b, j, hj, h1, h2, h3, h4⟩ := word_any s hs i (⟨#[110, 117, 108, 108]⟩ : ByteArray) hi (by decide) (by intro p hp; have : p < 4 := hp; unfold plainC; (obtain rfl | rfl | rfl | rfl : p = 0 ∨ p = 1 ∨ p = 2 ∨ p = 3 := by omega) <;> decide) (by decide)
    cases b with
    | true =>
      refine ⟨0, x1, j, [], [], x5, j, Ev.stepRet fun k => ?_, h1, h2, fun _ => h4 rfl⟩
      simp [spec_reader_value.j0, hj]
    | false =>
      obtain rfl := h3 rfl
      obtain ⟨b, j', hj', h1', h2', h3', h4'⟩ := word_any s hs j (⟨#[102, 97, 108, 115, 101]⟩ : ByteArray) hi (by decide) (by intro p hp; have : p < 5 := hp; unfold plainC; (obtain rfl | rfl | rfl | rfl | rfl : p = 0 ∨ p = 1 ∨ p = 2 ∨ p = 3 ∨ p = 4 := by omega) <;> decide) (by decide)
      cases b with
      | true =>
        refine ⟨1, x1, j', [], [], x5, j', Ev.stepRet fun k => ?_, h1', h2', fun _ => h4' rfl⟩
        simp [spec_reader_value.j0, hj, hj']
      | false =>
        obtain rfl := h3' rfl
        obtain ⟨b, j2, hj2, h12, h22, h32, h42⟩ := word_any s hs j' (⟨#[116, 114, 117, 101]⟩ : ByteArray) hi (by decide) (by intro p hp; have : p < 4 := hp; unfold plainC; (obtain rfl | rfl | rfl | rfl : p = 0 ∨ p = 1 ∨ p = 2 ∨ p = 3 := by omega) <;> decide) (by decide)
        cases b with
        | true =>
          refine ⟨2, x1, j2, [], [], x5, j2, Ev.stepRet fun k => ?_, h12, h22, fun _ => h42 rfl⟩
          simp [spec_reader_value.j0, hj, hj', hj2]
        | false =>
          refine ⟨x0, x1, j2, [], [], false, j2, Ev.stepRet fun k => ?_, h12, h22, by simp⟩
          simp [spec_reader_value.j0, hj, hj', hj2]

theorem members_l0 (n : Nat) (IH : ∀ i : Nat, s.size - i < n → i ≤ s.size → GoodV s (fun k => spec_reader_value.f k s (i : Int)) i) (m : Nat) :
    ∀ (p : Nat) (x5 : List S65) (x6 : List S36), s.size - p < m → s.size - p < n → p ≤ s.size → x5.length ≤ p → x6.length ≤ p →
      ∃ (n' : List S65) (q : List S36) (ok : Bool) (j : Nat), Ev (fun k => spec_reader_members.l0 k x5 x6 s (p : Int)) (n', q, ok, s, (j : Int)) ∧ p ≤ j ∧ j ≤ s.size ∧ (ok = true → Closed s p j) := by
  induction m with
  | zero => intro p _ _ h; omega
  | succ m ih =>
    intro p x5 x6 hm hn hp h5 h6
    by_cases h34 : at_ s p = 34
    · obtain ⟨hlt, ea⟩ := at_in s (i := p) (by omega)
      obtain ⟨ok, j, hj, h1, h2, h3⟩ := quoted_ev s hs p hlt
      cases ok with
      | false =>
        refine ⟨[], [], false, j, Ev.succ ?_, by omega, h2, by simp⟩
        simp only [spec_reader_members.l0, here_at s p, Option.bind_some, h34, if_true]
        exact Ev.bind hj (Ev.stepRet fun k => by simp [spec_reader_members.j1])
      | true =>
        have hc := h3 rfl
        have sg : ∀ e, Seg s j e → Seg s p e := fun e he => .str hlt (by rw [← ea]; exact h34) hc he
        obtain ⟨a, ha, a1, a2, a3, _⟩ := blanks_ev s hs (s.size - j) j (by omega)
        by_cases h58 : a < s.size ∧ bt s a = 58
        · obtain ⟨b, hb, b1, b2, b3, _⟩ := blanks_ev s hs (s.size - (a + 1)) (a + 1) (by omega)
          obtain ⟨v1, v2, v3, v4, v5, ok, c, hv, c1, c2, c3⟩ := IH b (by omega) b2
          cases ok with
          | false =>
            refine ⟨[], [], false, c, Ev.succ ?_, by omega, c2, by simp⟩
            simp only [spec_reader_members.l0, here_at s p, Option.bind_some, h34, if_true]
            refine Ev.bind hj (Ev.succ ?_)
            simp only [spec_reader_members.j1, Bool.not_true, Bool.false_eq_true, if_false]
            simp only [if_pos (show x5.length < 8796093022208 by omega), Option.bind_some]
            refine Ev.bind ha ?_
            simp only [take_yes s hs h58.1 h58.2, Option.bind_some, if_true]
            refine Ev.bind hb ?_
            refine Ev.bind hv (Ev.ret fun k => ?_)
            simp
          | true =>
            obtain ⟨c4, c5⟩ := c3 rfl
            obtain ⟨d, hd, d1, d2, d3, _⟩ := blanks_ev s hs (s.size - c) c (by omega)
            have sg2 : ∀ e, Seg s d e → Seg s p e := fun e he => sg e (a3.trans (.plain h58.1 (by rw [h58.2]; unfold plainC; omega) (b3.trans (c5.trans (d3.trans he)))))
            by_cases h125 : d < s.size ∧ bt s d = 125
            · refine ⟨x5 ++ [(⟨(p : Int), (j : Int)⟩ : S65)], x6 ++ [(⟨v1, v2, v3, v4, v5⟩ : S36)], true, d + 1, Ev.succ ?_, by omega, by omega, fun _ => ⟨d, sg2 d (.nil _), h125.1, .inr h125.2, rfl⟩⟩
              · simp only [spec_reader_members.l0, here_at s p, Option.bind_some, h34, if_true]
                refine Ev.bind hj (Ev.succ ?_)
                simp only [spec_reader_members.j1, Bool.not_true, Bool.false_eq_true, if_false]
                simp only [if_pos (show x5.length < 8796093022208 by omega), Option.bind_some]
                refine Ev.bind ha ?_
                simp only [take_yes s hs h58.1 h58.2, Option.bind_some, if_true]
                refine Ev.bind hb ?_
                refine Ev.bind hv ?_
                simp only [if_true, if_pos (show x6.length < 1954687338268 by omega), Option.bind_some]
                refine Ev.bind hd (Ev.ret fun k => ?_)
                simp only [take_yes s hs h125.1 h125.2, Option.bind_some, if_true]
            · by_cases h44 : d < s.size ∧ bt s d = 44
              · obtain ⟨e, he, e1, e2, e3, _⟩ := blanks_ev s hs (s.size - (d + 1)) (d + 1) (by omega)
                obtain ⟨n', q, ok, z, hz, z1, z2, z3⟩ := ih e (x5 ++ [(⟨(p : Int), (j : Int)⟩ : S65)]) (x6 ++ [(⟨v1, v2, v3, v4, v5⟩ : S36)]) (by omega) (by omega) e2 (by simp; omega) (by simp; omega)
                refine ⟨n', q, ok, z, Ev.succ ?_, by omega, z2, fun h => ?_⟩
                · simp only [spec_reader_members.l0, here_at s p, Option.bind_some, h34, if_true]
                  refine Ev.bind hj (Ev.succ ?_)
                  simp only [spec_reader_members.j1, Bool.not_true, Bool.false_eq_true, if_false]
                  simp only [if_pos (show x5.length < 8796093022208 by omega), Option.bind_some]
                  refine Ev.bind ha ?_
                  simp only [take_yes s hs h58.1 h58.2, Option.bind_some, if_true]
                  refine Ev.bind hb ?_
                  refine Ev.bind hv ?_
                  simp only [if_true, if_pos (show x6.length < 1954687338268 by omega), Option.bind_some]
                  refine Ev.bind hd ?_
                  simp only [take_no s h125, take_yes s hs h44.1 h44.2, Option.bind_some, Bool.false_eq_true, if_false, if_true]
                  exact Ev.bind he hz
                · obtain ⟨q2, k1, k2, k3, k4⟩ := z3 h
                  exact ⟨q2, sg2 q2 (.plain h44.1 (by rw [h44.2]; unfold plainC; omega) (e3.trans k1)), k2, k3, k4⟩
              · refine ⟨[], [], false, d, Ev.succ ?_, by omega, d2, by simp⟩
                simp only [spec_reader_members.l0, here_at s p, Option.bind_some, h34, if_true]
                refine Ev.bind hj (Ev.succ ?_)
                simp only [spec_reader_members.j1, Bool.not_true, Bool.false_eq_true, if_false]
                simp only [if_pos (show x5.length < 8796093022208 by omega), Option.bind_some]
                refine Ev.bind ha ?_
                simp only [take_yes s hs h58.1 h58.2, Option.bind_some, if_true]
                refine Ev.bind hb ?_
                refine Ev.bind hv ?_
                simp only [if_true, if_pos (show x6.length < 1954687338268 by omega), Option.bind_some]
                refine Ev.bind hd (Ev.ret fun k => ?_)
                simp only [take_no s h125, take_no s h44, Option.bind_some, Bool.false_eq_true, if_false]
        · refine ⟨[], [], false, a, Ev.succ ?_, by omega, a2, by simp⟩
          simp only [spec_reader_members.l0, here_at s p, Option.bind_some, h34, if_true]
          refine Ev.bind hj (Ev.succ ?_)
          simp only [spec_reader_members.j1, Bool.not_true, Bool.false_eq_true, if_false]
          simp only [if_pos (show x5.length < 8796093022208 by omega), Option.bind_some]
          refine Ev.bind ha (Ev.ret fun k => ?_)
          simp only [take_no s h58, Option.bind_some, Bool.false_eq_true, if_false]
    · refine ⟨[], [], false, p, Ev.succ ?_, Nat.le_refl _, hp, by simp⟩
      simp only [spec_reader_members.l0, here_at s p, Option.bind_some, if_neg h34]
      exact Ev.stepRet fun k => by simp [spec_reader_members.j1]
theorem elements_l0 (n : Nat) (IH : ∀ i : Nat, s.size - i < n → i ≤ s.size → GoodV s (fun k => spec_reader_value.f k s (i : Int)) i) (m : Nat) :
    ∀ (p : Nat) (x6 : List S36), s.size - p < m → s.size - p < n → p ≤ s.size → x6.length ≤ p →
      ∃ (q : List S36) (ok : Bool) (j : Nat), Ev (fun k => spec_reader_elements.l0 k x6 s (p : Int)) (q, ok, s, (j : Int)) ∧ p ≤ j ∧ j ≤ s.size ∧ (ok = true → Closed s p j) := by
  induction m with
  | zero => intro p _ h; omega
  | succ m ih =>
    intro p x6 hm hn hp h6
    obtain ⟨v1, v2, v3, v4, v5, ok, c, hv, c1, c2, c3⟩ := IH p hn hp
    cases ok with
    | false =>
      refine ⟨[], false, c, Ev.succ ?_, by omega, c2, by simp⟩
      simp only [spec_reader_elements.l0]
      exact Ev.bind hv (Ev.ret fun k => by simp)
    | true =>
      obtain ⟨c4, c5⟩ := c3 rfl
      obtain ⟨d, hd, d1, d2, d3, _⟩ := blanks_ev s hs (s.size - c) c (by omega)
      have sg2 : ∀ e, Seg s d e → Seg s p e := fun e he => c5.trans (d3.trans he)
      by_cases h93 : d < s.size ∧ bt s d = 93
      · refine ⟨x6 ++ [(⟨v1, v2, v3, v4, v5⟩ : S36)], true, d + 1, Ev.succ ?_, by omega, by omega, fun _ => ⟨d, sg2 d (.nil _), h93.1, .inl h93.2, rfl⟩⟩
        · simp only [spec_reader_elements.l0]
          refine Ev.bind hv ?_
          simp only [if_true, if_pos (show x6.length < 1954687338268 by omega), Option.bind_some]
          refine Ev.bind hd (Ev.ret fun k => ?_)
          simp only [take_yes s hs h93.1 h93.2, Option.bind_some, if_true]
      · by_cases h44 : d < s.size ∧ bt s d = 44
        · obtain ⟨e, he, e1, e2, e3, _⟩ := blanks_ev s hs (s.size - (d + 1)) (d + 1) (by omega)
          obtain ⟨q, ok, z, hz, z1, z2, z3⟩ := ih e (x6 ++ [(⟨v1, v2, v3, v4, v5⟩ : S36)]) (by omega) (by omega) e2 (by simp; omega)
          refine ⟨q, ok, z, Ev.succ ?_, by omega, z2, fun h => ?_⟩
          · simp only [spec_reader_elements.l0]
            refine Ev.bind hv ?_
            simp only [if_true, if_pos (show x6.length < 1954687338268 by omega), Option.bind_some]
            refine Ev.bind hd ?_
            simp only [take_no s h93, take_yes s hs h44.1 h44.2, Option.bind_some, Bool.false_eq_true, if_false, if_true]
            exact Ev.bind he hz
          · obtain ⟨q2, k1, k2, k3, k4⟩ := z3 h
            exact ⟨q2, sg2 q2 (.plain h44.1 (by rw [h44.2]; unfold plainC; omega) (e3.trans k1)), k2, k3, k4⟩
        · refine ⟨[], false, d, Ev.succ ?_, by omega, d2, by simp⟩
          simp only [spec_reader_elements.l0]
          refine Ev.bind hv ?_
          simp only [if_true, if_pos (show x6.length < 1954687338268 by omega), Option.bind_some]
          refine Ev.bind hd (Ev.ret fun k => ?_)
          simp only [take_no s h93, take_no s h44, Option.bind_some, Bool.false_eq_true, if_false]

theorem value_ev (n : Nat) : ∀ i : Nat, s.size - i < n → i ≤ s.size → GoodV s (fun k => spec_reader_value.f k s (i : Int)) i := by
  induction n with
  | zero => intro i h; omega
  | succ n IH =>
    intro i hn hi
    by_cases h123 : at_ s i = 123
    · obtain ⟨hlt, ea⟩ := at_in s (i := i) (by omega)
      have e : wrap64 ((i : Int) + 1) = ((i + 1 : Nat) : Int) := by rw [w64 (by omega) (by omega)]; omega
      obtain ⟨a, ha, a1, a2, a3, _⟩ := blanks_ev s hs (s.size - (i + 1)) (i + 1) (by omega)
      by_cases h125 : a < s.size ∧ bt s a = 125
      · refine ⟨6, i, ((a + 1 : Nat) : Int), [], [], true, a + 1, Ev.succ ?_, by omega, by omega, fun _ => ⟨by omega, .nest hlt (.inr (by rw [← ea]; exact h123)) a3 h125.1 (.inr h125.2) (.nil _)⟩⟩
        simp only [spec_reader_value.f, here_at s i, Option.bind_some, h123, if_true]
        refine Ev.bind (a := ([], [], true, s, ((a + 1 : Nat) : Int))) (Ev.succ ?_) (Ev.ret fun _ => rfl)
        simp only [spec_reader_members.f, e]
        refine Ev.bind ha (Ev.ret fun k => ?_)
        simp only [take_yes s hs h125.1 h125.2, Option.bind_some, if_true]
      · obtain ⟨n', q, ok, j, hj, j1, j2, j3⟩ := members_l0 s hs n IH (s.size + 1) a [] [] (by omega) (by omega) a2 (by simp) (by simp)
        refine ⟨6, i, (j : Int), n', q, ok, j, Ev.succ ?_, by omega, j2, fun h => ?_⟩
        · simp only [spec_reader_value.f, here_at s i, Option.bind_some, h123, if_true]
          refine Ev.bind (a := (n', q, ok, s, (j : Int))) (Ev.succ ?_) (Ev.ret fun _ => rfl)
          simp only [spec_reader_members.f, e]
          refine Ev.bind ha ?_
          simp only [take_no s h125, Option.bind_some, Bool.false_eq_true, if_false]
          exact hj
        · obtain ⟨q2, k1, k2, k3, rfl⟩ := j3 h
          exact ⟨by omega, .nest hlt (.inr (by rw [← ea]; exact h123)) (a3.trans k1) k2 k3 (.nil _)⟩
    · by_cases h91 : at_ s i = 91
      · obtain ⟨hlt, ea⟩ := at_in s (i := i) (by omega)
        have e : wrap64 ((i : Int) + 1) = ((i + 1 : Nat) : Int) := by rw [w64 (by omega) (by omega)]; omega
        obtain ⟨a, ha, a1, a2, a3, _⟩ := blanks_ev s hs (s.size - (i + 1)) (i + 1) (by omega)
        by_cases h93 : a < s.size ∧ bt s a = 93
        · refine ⟨5, i, ((a + 1 : Nat) : Int), [], [], true, a + 1, Ev.succ ?_, by omega, by omega, fun _ => ⟨by omega, .nest hlt (.inl (by rw [← ea]; exact h91)) a3 h93.1 (.inl h93.2) (.nil _)⟩⟩
          simp only [spec_reader_value.f, here_at s i, Option.bind_some, h91, if_true, if_neg (show ¬ (91 : Int) = 123 by omega)]
          refine Ev.bind (a := ([], true, s, ((a + 1 : Nat) : Int))) (Ev.succ ?_) (Ev.ret fun _ => rfl)
          simp only [spec_reader_elements.f, e]
          refine Ev.bind ha (Ev.ret fun k => ?_)
          simp only [take_yes s hs h93.1 h93.2, Option.bind_some, if_true]
        · obtain ⟨q, ok, j, hj, j1, j2, j3⟩ := elements_l0 s hs n IH (s.size + 1) a [] (by omega) (by omega) a2 (by simp)
          refine ⟨5, i, (j : Int), [], q, ok, j, Ev.succ ?_, by omega, j2, fun h => ?_⟩
          · simp only [spec_reader_value.f, here_at s i, Option.bind_some, h91, if_true, if_neg (show ¬ (91 : Int) = 123 by omega)]
            refine Ev.bind (a := (q, ok, s, (j : Int))) (Ev.succ ?_) (Ev.ret fun _ => rfl)
            simp only [spec_reader_elements.f, e]
            refine Ev.bind ha ?_
            simp only [take_no s h93, Option.bind_some, Bool.false_eq_true, if_false]
            exact hj
          · obtain ⟨q2, k1, k2, k3, rfl⟩ := j3 h
            exact ⟨by omega, .nest hlt (.inl (by rw [← ea]; exact h91)) (a3.trans k1) k2 k3 (.nil _)⟩
      · by_cases h34 : at_ s i = 34
        · obtain ⟨hlt, ea⟩ := at_in s (i := i) (by omega)
          obtain ⟨ok, j, hj, h1, h2, h3⟩ := quoted_ev s hs i hlt
          refine ⟨4, i, (j : Int), [], [], ok, j, Ev.succ ?_, by omega, h2, fun h => ⟨by omega, .str hlt (by rw [← ea]; exact h34) (h3 h) (.nil _)⟩⟩
          simp only [spec_reader_value.f, here_at s i, Option.bind_some, h34, if_true, if_neg (show ¬ (34 : Int) = 123 by omega), if_neg (show ¬ (34 : Int) = 91 by omega)]
          exact Ev.bind hj (Ev.ret fun _ => rfl)
        · have hx : ∃ b : Bool, ∀ k, spec_reader_value.f (k + 1) s (i : Int) = spec_reader_value.j0 k true b s (i : Int) 0 (i : Int) 0 := by
            by_cases h45 : at_ s i = 45
            · exact ⟨true, fun k => by simp only [spec_reader_value.f, here_at s i, Option.bind_some, if_neg h123, if_neg h91, if_neg h34, if_pos h45]⟩
            · by_cases h48 : 48 ≤ at_ s i
              · exact ⟨decide (at_ s i ≤ 57), fun k => by simp only [spec_reader_value.f, here_at s i, Option.bind_some, if_neg h123, if_neg h91, if_neg h34, if_neg h45, if_pos h48]⟩
              · exact ⟨false, fun k => by simp only [spec_reader_value.f, here_at s i, Option.bind_some, if_neg h123, if_neg h91, if_neg h34, if_neg h45, if_neg h48]⟩
          obtain ⟨b, hb⟩ := hx
          obtain ⟨a1, a2, a3, a4, a5, ok, j, hj, h⟩ := value_j0 s hs true b 0 i 0 i hi
          exact ⟨a1, a2, a3, a4, a5, ok, j, Ev.step hb hj, h⟩
end reader

/-! ### squash -/
/-- How many backslashes stand right ahead of a place, none ahead of s2. -/
def run (s : ByteArray) (s2 : Nat) : Nat → Nat
  | 0 => 0
  | j + 1 => if s2 ≤ j ∧ bt s (j : Int) = 92 then run s s2 j + 1 else 0
/-- Where squash ends: none at the text's end. d: the depth; m: behind which quotation mark it is. -/
def go (s : ByteArray) (i d : Nat) (m : Option Nat) : Option Nat :=
  if _h : i < s.size then
    match m with
    | none =>
      if bt s i = 34 then go s (i + 1) d (some (i + 1))
      else if bt s i = 123 ∨ bt s i = 91 ∨ bt s i = 40 then go s (i + 1) (d + 1) none
      else if bt s i = 125 ∨ bt s i = 93 ∨ bt s i = 41 then (if d = 1 then some (i + 1) else go s (i + 1) (d - 1) none)
      else go s (i + 1) d none
    | some s2 => if bt s i = 34 ∧ run s s2 i % 2 = 0 then go s (i + 1) d none else go s (i + 1) d (some s2)
  else none
  termination_by s.size - i
section
variable {s : ByteArray} {i d : Nat}
theorem go_end {m : Option Nat} (h : ¬ i < s.size) : go s i d m = none := by rw [go.eq_def, dif_neg h]
theorem go_str (h : i < s.size) (hb : bt s i = 34) : go s i d none = go s (i + 1) d (some (i + 1)) := by
  conv => lhs; rw [go.eq_def, dif_pos h]
  simp only [if_pos hb]
theorem go_open (h : i < s.size) (hb : bt s i = 123 ∨ bt s i = 91 ∨ bt s i = 40) : go s i d none = go s (i + 1) (d + 1) none := by
  conv => lhs; rw [go.eq_def, dif_pos h]
  simp only [if_neg (show ¬ bt s i = 34 by omega), if_pos hb]
theorem go_close (h : i < s.size) (hb : bt s i = 125 ∨ bt s i = 93 ∨ bt s i = 41) : go s i d none = if d = 1 then some (i + 1) else go s (i + 1) (d - 1) none := by
  conv => lhs; rw [go.eq_def, dif_pos h]
  simp only [if_neg (show ¬ bt s i = 34 by omega), if_neg (show ¬ (bt s i = 123 ∨ bt s i = 91 ∨ bt s i = 40) by omega), if_pos hb]
theorem go_plain (h : i < s.size) (hb : plainC (bt s i)) : go s i d none = go s (i + 1) d none := by
  obtain ⟨b1, b2, b3, b4, b5, b6, b7⟩ := hb
  conv => lhs; rw [go.eq_def, dif_pos h]
  simp only [if_neg b1, if_neg (show ¬ (bt s i = 123 ∨ bt s i = 91 ∨ bt s i = 40) by omega), if_neg (show ¬ (bt s i = 125 ∨ bt s i = 93 ∨ bt s i = 41) by omega)]
theorem go_out {s2 : Nat} (h : i < s.size) (hb : bt s i = 34 ∧ run s s2 i % 2 = 0) : go s i d (some s2) = go s (i + 1) d none := by
  conv => lhs; rw [go.eq_def, dif_pos h]
  simp only [if_pos hb]
theorem go_in {s2 : Nat} (h : i < s.size) (hb : ¬ (bt s i = 34 ∧ run s s2 i % 2 = 0)) : go s i d (some s2) = go s (i + 1) d (some s2) := by
  conv => lhs; rw [go.eq_def, dif_pos h]
  simp only [if_neg hb]
end
def res (s : ByteArray) : Option Nat → ByteArray
  | none => s
  | some e => s.extract 0 e

section squash
variable (s : ByteArray) (hs : s.size ≤ 4096)
theorem l0_end {i : Int} (d : Int) (h : ¬ i < (s.size : Int)) : Ev (fun k => gjson_squash.l0 k s i d) s := Ev.stepRet fun k => by rw [gjson_squash.l0, if_neg h]
include hs
theorem j5_on {i d : Nat} {r : ByteArray} (hi : i ≤ s.size) (hd : 1 ≤ d) (h : Ev (fun k => gjson_squash.l0 k s ((i + 1 : Nat) : Int) (d : Int)) r) : Ev (fun k => gjson_squash.j5 k s (i : Int) (d : Int)) r := by
  have e : wrap64 ((i : Int) + 1) = ((i + 1 : Nat) : Int) := by rw [w64 (by omega) (by omega)]; omega
  exact Ev.step (fun k => by rw [gjson_squash.j5, if_neg (by omega), e]) h
theorem l2_ev {i d s2 : Nat} {r : ByteArray} (hi : i < s.size) (h2 : 1 ≤ s2) (h2i : s2 ≤ i) (m : Nat) : ∀ (q n : Nat), q + 1 = s2 + m → q < i → n + m ≤ s.size →
    (if (n + run s s2 (q + 1)) % 2 = 0 then Ev (fun k => gjson_squash.l1 k s ((i + 1 : Nat) : Int) (d : Int) (s2 : Int)) r else Ev (fun k => gjson_squash.j5 k s (i : Int) (d : Int)) r) →
    Ev (fun k => gjson_squash.l2 k s (i : Int) (d : Int) (s2 : Int) (n : Int) (q : Int)) r := by
  have e : wrap64 ((i : Int) + 1) = ((i + 1 : Nat) : Int) := by rw [w64 (by omega) (by omega)]; omega
  have last : ∀ n : Nat, (if n % 2 = 0 then Ev (fun k => gjson_squash.l1 k s ((i + 1 : Nat) : Int) (d : Int) (s2 : Int)) r else Ev (fun k => gjson_squash.j5 k s (i : Int) (d : Int)) r) →
      Ev (fun k => if Int.tmod (n : Int) 2 = 0 then gjson_squash.l1 k s (wrap64 ((i : Int) + 1)) (d : Int) (s2 : Int) else gjson_squash.j5 k s (i : Int) (d : Int)) r := by
    intro n h
    have em : Int.tmod (n : Int) 2 = ((n % 2 : Nat) : Int) := by rw [Int.tmod_eq_emod_of_nonneg (by omega)]; omega
    by_cases hn : n % 2 = 0
    · rw [if_pos hn] at h
      simp only [em, e, if_pos (show ((n % 2 : Nat) : Int) = 0 by omega)]
      exact h
    · rw [if_neg hn] at h
      simp only [em, e, if_neg (show ¬ ((n % 2 : Nat) : Int) = 0 by omega)]
      exact h
  induction m with
  | zero =>
    intro q n hq hqi hn h
    have e2 : wrap64 ((s2 : Int) - 1) = (s2 : Int) - 1 := w64 (by omega) (by omega)
    have hr : run s s2 (q + 1) = 0 := by rw [run, if_neg (by omega)]
    rw [hr] at h
    refine Ev.succ ?_
    simp only [gjson_squash.l2, e2, if_neg (show ¬ ((q : Int) > (s2 : Int) - 1) by omega)]
    exact last n h
  | succ m ih =>
    intro q n hq hqi hn h
    have e2 : wrap64 ((s2 : Int) - 1) = (s2 : Int) - 1 := w64 (by omega) (by omega)
    refine Ev.succ ?_
    simp only [gjson_squash.l2, e2, if_pos (show ((q : Int) > (s2 : Int) - 1) by omega), if_pos (show (0 : Int) ≤ q by omega), if_pos (show (q : Int) < s.size by omega)]
    by_cases h92 : bt s q = 92
    · obtain ⟨q', rfl⟩ : ∃ q', q = q' + 1 := ⟨q - 1, by omega⟩
      have e3 : wrap64 ((n : Int) + 1) = ((n + 1 : Nat) : Int) := by rw [w64 (by omega) (by omega)]; omega
      have e4 : wrap64 (((q' + 1 : Nat) : Int) - 1) = (q' : Int) := by rw [w64 (by omega) (by omega)]; omega
      simp only [if_pos h92, e3, e4]
      refine ih q' (n + 1) (by omega) (by omega) (by omega) ?_
      have hr : run s s2 (q' + 1 + 1) = run s s2 (q' + 1) + 1 := by rw [run, if_pos ⟨by omega, h92⟩]
      rw [hr] at h
      rwa [show n + 1 + run s s2 (q' + 1) = n + (run s s2 (q' + 1) + 1) by omega]
    · simp only [if_neg h92]
      have hr : run s s2 (q + 1) = 0 := by rw [run, if_neg (by intro h; exact h92 h.2)]
      rw [hr] at h
      exact last n h

omit hs in
theorem s2_le {s : ByteArray} {s2 i : Nat} (hq : bt s ((s2 - 1 : Nat) : Int) = 34) (hb : bt s (i : Int) = 92) (h : s2 ≤ i + 1) : s2 ≤ i := by
  rcases Nat.lt_or_ge i s2 with h1 | h1
  · have e : s2 - 1 = i := by clear hq hb; omega
    exact absurd (hq.symm.trans ((congrArg (fun n : Nat => bt s (n : Int)) e).trans hb)) (by decide)
  · exact h1
theorem l1_quote {i d s2 : Nat} {r : ByteArray} (hlt : i < s.size) (h34 : bt s i = 34) (h2 : 1 ≤ s2) (h2i : s2 ≤ i) (hq : bt s ((s2 - 1 : Nat) : Int) = 34)
    (on : run s s2 i % 2 ≠ 0 → Ev (fun k => gjson_squash.l1 k s ((i + 1 : Nat) : Int) (d : Int) (s2 : Int)) r) (out : run s s2 i % 2 = 0 → Ev (fun k => gjson_squash.j5 k s (i : Int) (d : Int)) r) :
    Ev (fun k => gjson_squash.l1 k s (i : Int) (d : Int) (s2 : Int)) r := by
  obtain ⟨j, rfl⟩ : ∃ j, i = j + 1 := ⟨i - 1, by omega⟩
  have e1 : wrap64 (((j + 1 : Nat) : Int) - 1) = (j : Int) := by rw [w64 (by omega) (by omega)]; omega
  refine Ev.succ ?_
  simp only [gjson_squash.l1, if_pos (show ((j + 1 : Nat) : Int) < s.size by omega), if_pos (show (0 : Int) ≤ ((j + 1 : Nat) : Int) by omega), h34, if_neg (show ¬ (34 : Int) > 92 by decide), if_true, e1, if_pos (show (0 : Int) ≤ (j : Int) by omega), if_pos (show (j : Int) < s.size by omega)]
  by_cases hb : bt s j = 92
  · have hs2 : s2 ≤ j := s2_le hq hb h2i
    have hr : run s s2 (j + 1) = run s s2 j + 1 := by rw [run, if_pos ⟨hs2, hb⟩]
    rw [hr] at on out
    clear hq hr
    obtain ⟨q, rfl⟩ : ∃ q, j = q + 1 := ⟨j - 1, by omega⟩
    have e3 : wrap64 (((q + 1 + 1 : Nat) : Int) - 2) = (q : Int) := by rw [w64 (by omega) (by omega)]; omega
    simp only [if_pos hb, e3]
    refine l2_ev s hs hlt h2 h2i (q + 1 - s2) q 0 (by omega) (by omega) (by omega) ?_
    by_cases hp : (0 + run s s2 (q + 1)) % 2 = 0
    · rw [if_pos hp]; exact on (by omega)
    · rw [if_neg hp]; exact out (by omega)
  · have hr : run s s2 (j + 1) = 0 := by rw [run, if_neg (fun h => hb h.2)]
    simp only [if_neg hb]
    exact out (by rw [hr])
theorem go_ev (n : Nat) : ∀ (i d : Nat), s.size - i < n → i ≤ s.size → 1 ≤ d → d ≤ i →
    Ev (fun k => gjson_squash.l0 k s (i : Int) (d : Int)) (res s (go s i d none)) ∧
    ∀ s2 : Nat, 1 ≤ s2 → s2 ≤ i → bt s ((s2 - 1 : Nat) : Int) = 34 → Ev (fun k => gjson_squash.l1 k s (i : Int) (d : Int) (s2 : Int)) (res s (go s i d (some s2))) := by
  induction n with
  | zero => intro i d h; omega
  | succ n ih =>
    intro i d hn hi hd hdi
    have e : wrap64 ((i : Int) + 1) = ((i + 1 : Nat) : Int) := by rw [w64 (by omega) (by omega)]; omega
    have ed : wrap64 ((d : Int) + 1) = ((d + 1 : Nat) : Int) := by rw [w64 (by omega) (by omega)]; omega
    have ed' : wrap64 ((d : Int) - 1) = ((d - 1 : Nat) : Int) := by rw [w64 (by omega) (by omega)]; omega
    by_cases hlt : i < s.size
    · obtain ⟨ih1, ih2⟩ := ih (i + 1) d (by omega) (by omega) hd (by omega)
      constructor
      · have hplain : (¬ (34 ≤ bt s i ∧ bt s i ≤ 125)) → Ev (fun k => gjson_squash.l0 k s (i : Int) (d : Int)) (res s (go s (i + 1) d none)) := by
          intro h
          refine Ev.succ ?_
          simp only [gjson_squash.l0, if_pos (show (i : Int) < s.size by omega), if_pos (show (0 : Int) ≤ i by omega)]
          have hj : Ev (fun k => gjson_squash.j2 k s (i : Int) (d : Int) false) (res s (go s (i + 1) d none)) := by
            refine Ev.succ ?_
            simp only [gjson_squash.j2, Bool.false_eq_true, if_false, e]
            exact ih1
          by_cases h1 : bt s i ≥ 34
          · simp only [if_pos h1, decide_eq_false (show ¬ bt s i ≤ 125 by omega)]; exact hj
          · simp only [if_neg h1]; exact hj
        by_cases hr : 34 ≤ bt s i ∧ bt s i ≤ 125
        · have hl : ∀ r, Ev (fun k => gjson_squash.j2 k s (i : Int) (d : Int) true) r → Ev (fun k => gjson_squash.l0 k s (i : Int) (d : Int)) r := by
            intro r h
            refine Ev.succ ?_
            simp only [gjson_squash.l0, if_pos (show (i : Int) < s.size by omega), if_pos (show (0 : Int) ≤ i by omega), if_pos (show bt s i ≥ 34 by omega), decide_eq_true hr.2]
            exact h
          refine hl _ (Ev.succ ?_)
          simp only [gjson_squash.j2, if_true, if_pos (show (i : Int) < s.size by omega), if_pos (show (0 : Int) ≤ i by omega)]
          by_cases h34 : bt s i = 34
          · simp only [if_pos h34, e, go_str hlt h34]
            exact ih2 (i + 1) (by omega) (by omega) (by rw [show i + 1 - 1 = i by omega]; exact h34)
          · simp only [if_neg h34]
            have hop : bt s i = 123 ∨ bt s i = 91 ∨ bt s i = 40 → Ev (fun k => gjson_squash.j6 k s (i : Int) (d : Int) (bt s i) true) (res s (go s (i + 1) (d + 1) none)) := by
              intro _
              refine Ev.succ ?_
              simp only [gjson_squash.j6, if_true, e, ed]
              exact (ih (i + 1) (d + 1) (by omega) (by omega) (by omega) (by omega)).1
            by_cases h123 : bt s i = 123
            · simp only [if_pos h123, go_open hlt (show bt s i = 123 ∨ bt s i = 91 ∨ bt s i = 40 by omega)]
              have := hop (by omega)
              simpa [h123] using this
            · by_cases h91 : bt s i = 91
              · simp only [if_neg h123, if_pos h91, go_open hlt (show bt s i = 123 ∨ bt s i = 91 ∨ bt s i = 40 by omega)]
                have := hop (by omega)
                simpa [h91] using this
              · simp only [if_neg h123, if_neg h91]
                by_cases h40 : bt s i = 40
                · simp only [go_open hlt (show bt s i = 123 ∨ bt s i = 91 ∨ bt s i = 40 by omega)]
                  have := hop (by omega)
                  simpa [h40] using this
                · have hb : (bt s i == 40) = false := by simpa using h40
                  simp only [hb]
                  refine Ev.succ ?_
                  simp only [gjson_squash.j6, Bool.false_eq_true, if_false]
                  have hcl : Ev (fun k => gjson_squash.j7 k s (i : Int) (d : Int) true) (res s (if d = 1 then some (i + 1) else go s (i + 1) (d - 1) none)) := by
                    refine Ev.succ ?_
                    simp only [gjson_squash.j7, if_true, ed']
                    by_cases hd1 : d = 1
                    · simp only [if_pos hd1, if_pos (show ((d - 1 : Nat) : Int) = 0 by omega), e, if_pos (show (0 : Int) ≤ ((i + 1 : Nat) : Int) by omega), if_pos (show ((i + 1 : Nat) : Int) ≤ s.size by omega)]
                      exact Ev.ret fun _ => rfl
                    · simp only [if_neg hd1, if_neg (show ¬ ((d - 1 : Nat) : Int) = 0 by omega), e]
                      exact (ih (i + 1) (d - 1) (by omega) (by omega) (by omega) (by omega)).1
                  by_cases h125 : bt s i = 125
                  · simp only [if_pos h125, go_close hlt (show bt s i = 125 ∨ bt s i = 93 ∨ bt s i = 41 by omega)]
                    simpa [h125] using hcl
                  · by_cases h93 : bt s i = 93
                    · simp only [if_neg h125, if_pos h93, go_close hlt (show bt s i = 125 ∨ bt s i = 93 ∨ bt s i = 41 by omega)]
                      simpa [h93] using hcl
                    · simp only [if_neg h125, if_neg h93]
                      by_cases h41 : bt s i = 41
                      · simp only [go_close hlt (show bt s i = 125 ∨ bt s i = 93 ∨ bt s i = 41 by omega)]
                        simpa [h41] using hcl
                      · have hb : (bt s i == 41) = false := by simpa using h41
                        simp only [hb, go_plain hlt (show plainC (bt s i) by unfold plainC; omega)]
                        refine Ev.succ ?_
                        simp only [gjson_squash.j7, Bool.false_eq_true, if_false, e]
                        exact ih1
        · rw [go_plain hlt (by unfold plainC; omega)]
          exact hplain hr
      · intro s2 h2 h2i hq
        have on : Ev (fun k => gjson_squash.l1 k s ((i + 1 : Nat) : Int) (d : Int) (s2 : Int)) (res s (go s (i + 1) d (some s2))) := ih2 s2 h2 (by omega) hq
        have out : Ev (fun k => gjson_squash.j5 k s (i : Int) (d : Int)) (res s (go s (i + 1) d none)) := j5_on s hs (by omega) hd ih1
        by_cases h34 : bt s i = 34
        · refine l1_quote s hs hlt h34 h2 h2i hq (fun h => ?_) (fun h => ?_)
          · rw [go_in hlt (fun hh => h hh.2)]; exact on
          · rw [go_out hlt ⟨h34, h⟩]; exact out
        · rw [go_in hlt (fun hh => h34 hh.1)]
          refine Ev.succ ?_
          simp only [gjson_squash.l1, if_pos (show (i : Int) < s.size by omega), if_pos (show (0 : Int) ≤ i by omega), if_neg h34, e, ite_self]
          exact on
    · constructor
      · rw [go_end hlt]; exact l0_end s _ (by omega)
      · intro s2 h2 h2i hq
        rw [go_end hlt]
        refine Ev.succ ?_
        simp only [gjson_squash.l1, if_neg (show ¬ (i : Int) < s.size by omega)]
        exact j5_on s hs hi hd (l0_end s _ (by omega))
theorem squash_ev (h0 : 0 < s.size) (hb : bt s 0 = 91 ∨ bt s 0 = 123) : Ev (fun k => impl_GjSquash.f k s) (res s (go s 1 1 none)) := by
  unfold impl_GjSquash.f gjson_DoorSquash.f gjson_squash.f
  simp only [if_pos (show (0 : Int) < s.size by omega), if_neg (show ¬ bt s 0 = 34 by omega)]
  refine Ev.bind (Ev.bind (Ev.succ ?_) (Ev.ret fun _ => rfl)) (Ev.ret fun _ => rfl)
  simp only [gjson_squash.j0]
  exact (go_ev s hs (s.size + 1) 1 1 (by omega) (by omega) (by omega) (by omega)).1
end squash

theorem extract_size (s : ByteArray) (e : Nat) (he : e ≤ s.size) : (s.extract 0 e).size = e := by simp; omega
theorem bt_pre {s : ByteArray} {e i : Nat} (h : i < e) (he : e ≤ s.size) : bt (s.extract 0 e) (i : Int) = bt s (i : Int) := by
  have := bt_extract s (a := 0) (b := e) (i := i) (by omega) he
  simpa using this
theorem run_pre {s : ByteArray} {e : Nat} (he : e ≤ s.size) (s2 : Nat) : ∀ j, j ≤ e → run (s.extract 0 e) s2 j = run s s2 j
  | 0, _ => rfl
  | j + 1, h => by
    have hb := bt_pre (s := s) (e := e) (i := j) (by omega) he
    rw [run, run, run_pre he s2 j (by omega), hb]
/-- The ways of one step. -/
theorem go_cases (s : ByteArray) (i d : Nat) (m : Option Nat) (h : i < s.size) :
    (∃ d' m', go s i d m = go s (i + 1) d' m' ∧ ∀ p : ByteArray, i < p.size → bt p i = bt s i → (∀ s2, run p s2 i = run s s2 i) → go p i d m = go p (i + 1) d' m') ∨
    (go s i d m = some (i + 1) ∧ ∀ p : ByteArray, i < p.size → bt p i = bt s i → go p i d m = some (i + 1)) := by
  cases m with
  | none =>
    by_cases h1 : bt s i = 34
    · exact .inl ⟨d, some (i + 1), go_str h h1, fun p hp hb _ => go_str hp (by rw [hb]; exact h1)⟩
    · by_cases h2 : bt s i = 123 ∨ bt s i = 91 ∨ bt s i = 40
      · exact .inl ⟨d + 1, none, go_open h h2, fun p hp hb _ => go_open hp (by rw [hb]; exact h2)⟩
      · by_cases h3 : bt s i = 125 ∨ bt s i = 93 ∨ bt s i = 41
        · by_cases h4 : d = 1
          · exact .inr ⟨by rw [go_close h h3, if_pos h4], fun p hp hb => by rw [go_close hp (by rw [hb]; exact h3), if_pos h4]⟩
          · exact .inl ⟨d - 1, none, by rw [go_close h h3, if_neg h4], fun p hp hb _ => by rw [go_close hp (by rw [hb]; exact h3), if_neg h4]⟩
        · have h5 : plainC (bt s i) := by unfold plainC; omega
          exact .inl ⟨d, none, go_plain h h5, fun p hp hb _ => go_plain hp (by rw [hb]; exact h5)⟩
  | some s2 =>
    by_cases h1 : bt s i = 34 ∧ run s s2 i % 2 = 0
    · exact .inl ⟨d, none, go_out h h1, fun p hp hb hr => go_out hp (by rw [hb, hr]; exact h1)⟩
    · exact .inl ⟨d, some s2, go_in h h1, fun p hp hb hr => go_in hp (by rw [hb, hr]; exact h1)⟩
theorem go_lt (s : ByteArray) (n : Nat) : ∀ i d m e, s.size - i < n → go s i d m = some e → i < e ∧ e ≤ s.size := by
  induction n with
  | zero => intro i d m e h; omega
  | succ n ih =>
    intro i d m e hn h
    by_cases hlt : i < s.size
    · rcases go_cases s i d m hlt with ⟨d', m', h1, _⟩ | ⟨h1, _⟩
      · rw [h1] at h
        have := ih (i + 1) d' m' e (by omega) h
        omega
      · rw [h1] at h
        injection h with h
        omega
    · rw [go_end hlt] at h; cases h
theorem go_pre (s : ByteArray) (n : Nat) : ∀ i d m e, s.size - i < n → go s i d m = some e → go (s.extract 0 e) i d m = some e := by
  induction n with
  | zero => intro i d m e h; omega
  | succ n ih =>
    intro i d m e hn h
    obtain ⟨hie, hes⟩ := go_lt s (n + 1) i d m e hn h
    have hz := extract_size s e hes
    have hb := bt_pre (s := s) (e := e) (i := i) hie hes
    rcases go_cases s i d m (by omega) with ⟨d', m', h1, h2⟩ | ⟨h1, h2⟩
    · rw [h1] at h
      rw [h2 _ (by omega) hb (fun s2 => run_pre hes s2 i (by omega))]
      exact ih (i + 1) d' m' e (by omega) h
    · rw [h1] at h
      rw [h2 _ (by omega) hb]
      exact h

theorem Chars.pre {s : ByteArray} {e i j : Nat} (he : e ≤ s.size) (h : Chars (s.extract 0 e) i j) : Chars s i j := by
  have hz := extract_size s e he
  induction h with
  | close a b => exact .close (by omega) (by rw [bt_pre (by omega) he] at b; exact b)
  | esc a b _ ih => exact .esc (by omega) (by rw [bt_pre (by omega) he] at b; exact b) ih
  | ord a b c _ ih => exact .ord (by omega) (by rw [bt_pre (by omega) he] at b; exact b) (by rw [bt_pre (by omega) he] at c; exact c) ih
theorem Seg.pre {s : ByteArray} {e i j : Nat} (he : e ≤ s.size) (h : Seg (s.extract 0 e) i j) : Seg s i j := by
  have hz := extract_size s e he
  induction h with
  | nil => exact .nil _
  | plain a b _ ih => exact .plain (by omega) (by rw [bt_pre (by omega) he] at b; exact b) ih
  | str a b c _ ih => exact .str (by omega) (by rw [bt_pre (by omega) he] at b; exact b) (c.pre he) ih
  | nest a b c d f _ ih ih' => exact .nest (by omega) (by rw [bt_pre (by omega) he] at b; exact b) ih (by omega) (by rw [bt_pre (by omega) he] at f; exact f) ih'
theorem Chars.le {s : ByteArray} {i j : Nat} (h : Chars s i j) : i < j ∧ j ≤ s.size := by
  induction h with
  | close a _ => omega
  | esc a _ _ ih => omega
  | ord a _ _ _ ih => omega
theorem go_chars {s : ByteArray} {i j : Nat} (h : Chars s i j) (d s2 : Nat) (h2 : s2 ≤ i) (hr : run s s2 i % 2 = 0) : go s i d (some s2) = go s j d none := by
  induction h with
  | close a b => exact go_out a ⟨b, hr⟩
  | @esc i j a b c ih =>
    have r1 : run s s2 (i + 1) = run s s2 i + 1 := by rw [run, if_pos ⟨h2, b⟩]
    rw [go_in (by omega) (by omega), go_in a (by rw [r1]; omega)]
    refine ih (by omega) ?_
    rw [run]
    by_cases hb : s2 ≤ i + 1 ∧ bt s ((i + 1 : Nat) : Int) = 92
    · rw [if_pos hb, r1]; omega
    · rw [if_neg hb]
  | @ord i j a b b' c ih =>
    rw [go_in a (by omega)]
    refine ih (by omega) ?_
    rw [run, if_neg (by omega)]
theorem go_seg {s : ByteArray} {i j : Nat} (h : Seg s i j) : ∀ d, 1 ≤ d → go s i d none = go s j d none := by
  induction h with
  | nil => intro d _; rfl
  | plain a b _ ih => intro d hd; rw [go_plain a b, ih d hd]
  | @str i p j a b c _ ih =>
    intro d hd
    rw [go_str a b, go_chars c d (i + 1) (Nat.le_refl _) (by rw [run, if_neg (by omega)]), ih d hd]
  | @nest i p j a b _ d' f _ ih ih' =>
    intro d hd
    rw [go_open a (by omega), ih (d + 1) (by omega), go_close d' (by omega), if_neg (by omega), Nat.add_sub_cancel, ih' d hd]

/-- No beginning that is shorter is a JSON text. -/
theorem places_no (s : ByteArray) (hs : s.size ≤ 4096) (x : Nat) (h1 : 1 ≤ x) (hx : x < s.size) (hb : bt s 0 = 91 ∨ bt s 0 = 123) (hg : res s (go s 1 1 none) = s) :
    ∃ a b c n q, Ev (fun k => spec_Places.f k (s.extract 0 x)) (a, b, c, n, q, false) := by
  have hz := extract_size s x (by omega)
  have hb' : bt (s.extract 0 x) ((0 : Nat) : Int) = 91 ∨ bt (s.extract 0 x) ((0 : Nat) : Int) = 123 := by
    rw [bt_pre (by omega) (by omega)]; exact hb
  generalize hp : s.extract 0 x = p at *
  have hps : p.size ≤ 4096 := by omega
  obtain ⟨i, hi, _, _, _, h5⟩ := blanks_ev p hps p.size 0 (by omega)
  obtain rfl := h5 hb'
  obtain ⟨v1, v2, v3, v4, v5, ok, j, hv, _, hj, h6⟩ := value_ev p hps (p.size + 1) 0 (by omega) (by omega)
  obtain ⟨e, he, _, _, _, _⟩ := blanks_ev p hps (p.size - j) j (by omega)
  cases ok with
  | false =>
    refine ⟨0, 0, 0, [], [], ?_⟩
    unfold spec_Places.f
    refine Ev.bind hi (Ev.bind hv (Ev.ret fun k => ?_))
    simp
  | true =>
    exfalso
    obtain ⟨h7, h8⟩ := h6 rfl
    subst hp
    have h9 := h8.pre (by omega)
    cases h9 with
    | nil => omega
    | plain a b _ => have b2 : bt s 0 ≠ 123 := b.2.1; have b3 : bt s 0 ≠ 91 := b.2.2.1; omega
    | str a b _ _ => have b' : bt s 0 = 34 := b; omega
    | @nest _ q _ a b c d f g =>
      have hj' : q < j := by
        have : ∀ {i j : Nat}, Seg s i j → i ≤ j := by
          intro i j h
          induction h with
          | nil => omega
          | plain _ _ _ ih => omega
          | str _ _ c _ ih => have := c.le; omega
          | nest _ _ _ _ _ _ ih ih' => omega
        have := this g
        omega
      have e1 : go s 1 1 none = some (q + 1) := by
        rw [go_seg c 1 (by omega), go_close d (by omega), if_pos rfl]
      rw [e1] at hg
      have := congrArg ByteArray.size hg
      simp only [res, extract_size s (q + 1) (by omega)] at this
      omega

/-- The law's loop over the beginnings. -/
theorem law_l0 (s : ByteArray) (hs : s.size ≤ 4096) (hb : bt s 0 = 91 ∨ bt s 0 = 123) (hg : res s (go s 1 1 none) = s) (d : Nat) : ∀ x : Nat, 1 ≤ x → x + d = s.size →
    Ev (fun k => laws_FnGjSquashTwice.l0 k s (x : Int)) true := by
  induction d with
  | zero =>
    intro x h1 hx
    refine Ev.succ ?_
    simp only [laws_FnGjSquashTwice.l0, if_neg (show ¬ (x : Int) < s.size by omega)]
    exact Ev.stepRet fun k => by simp [laws_FnGjSquashTwice.j3]
  | succ d ih =>
    intro x h1 hx
    refine Ev.succ ?_
    simp only [laws_FnGjSquashTwice.l0, if_pos (show (x : Int) < s.size by omega)]
    by_cases h64 : (x : Int) < 64
    · simp only [decide_eq_true h64]
      obtain ⟨a, b, c, n, q, hp⟩ := places_no s hs x h1 (by omega) hb hg
      have e : wrap64 ((x : Int) + 1) = ((x + 1 : Nat) : Int) := by rw [w64 (by omega) (by omega)]; omega
      refine Ev.succ ?_
      simp only [laws_FnGjSquashTwice.j3, if_true, if_pos (show (0 : Int) ≤ x by omega), if_pos (show (x : Int) ≤ s.size by omega), Int.toNat_natCast]
      refine Ev.bind hp ?_
      simp only [Bool.false_eq_true, if_false, e]
      exact ih (x + 1) (by omega) (by omega)
    · simp only [decide_eq_false h64]
      exact Ev.stepRet fun k => by simp [laws_FnGjSquashTwice.j3]

theorem toList_nil {s : ByteArray} (h : 0 < s.size) : ¬ s.toList = ([] : List UInt8) := by
  intro he
  rw [ByteArray.toList_eq] at he
  have h2 : s.data.toList.length = 0 := by rw [he]; rfl
  have h3 : s.data.toList.length = s.size := by simp
  omega

/-- The statement. -/
theorem FnGjSquashTwice : laws_FnGjSquashTwice.Pure := by
  intro s hn
  unfold laws_FnGjSquashTwice.f
  by_cases hb : (s.size : Int) > 2147483647
  · exact ⟨0, by rw [if_pos hb]⟩
  have yes : ∃ k, laws_FnGjSquashTwice.j0 k s true = some true := ⟨1, by simp [laws_FnGjSquashTwice.j0]⟩
  obtain ⟨ky, hy⟩ := yes
  by_cases h0 : s.toList = ([] : List UInt8)
  · exact ⟨ky, by rw [if_neg hb, if_pos h0, hy]⟩
  by_cases hs : (s.size : Int) > 4096
  · exact ⟨ky, by rw [if_neg hb, if_neg h0, if_pos hs, hy]⟩
  have hpos : 0 < s.size := by
    rcases Nat.eq_zero_or_pos s.size with h | h
    · exact absurd (by rw [ByteArray.toList_eq]; exact List.eq_nil_of_length_eq_zero (by simpa using h)) h0
    · exact h
  by_cases hbr : bt s 0 = 91 ∨ bt s 0 = 123
  · have hf : ∀ k, (if (s.size : Int) > 2147483647 then (some true) else (if s.toList = ([] : List UInt8) then (laws_FnGjSquashTwice.j0 k s true) else (if (s.size : Int) > 4096 then (laws_FnGjSquashTwice.j0 k s true) else (if 0 < (s.size : Int) then (if (bt s 0) = 91 then (laws_FnGjSquashTwice.j0 k s false) else (laws_FnGjSquashTwice.j0 k s ((bt s 0) != 123))) else (none))))) = laws_FnGjSquashTwice.j0 k s false := by
      intro k
      rw [if_neg hb, if_neg h0, if_neg hs, if_pos (by omega)]
      rcases hbr with h | h
      · rw [if_pos h]
      · rw [if_neg (by omega)]; simp [h]
    have hs' : s.size ≤ 4096 := by omega
    have main : Ev (fun k => laws_FnGjSquashTwice.j0 k s false) true := by
      have h1 := squash_ev s hs' hpos hbr
      -- what the first squash is
      have hone : ∃ one : ByteArray, res s (go s 1 1 none) = one ∧ one.size ≤ 4096 ∧ 0 < one.size ∧ (bt one 0 = 91 ∨ bt one 0 = 123) ∧ res one (go one 1 1 none) = one := by
        cases hg : go s 1 1 none with
        | none => exact ⟨s, rfl, hs', hpos, hbr, by rw [hg]; rfl⟩
        | some e =>
          obtain ⟨g1, g2⟩ := go_lt s (s.size + 1) 1 1 none e (by omega) hg
          have hz := extract_size s e g2
          have hp := go_pre s (s.size + 1) 1 1 none e (by omega) hg
          refine ⟨s.extract 0 e, rfl, by omega, by omega, ?_, ?_⟩
          · have := bt_pre (s := s) (e := e) (i := 0) (by omega) g2
            have this : bt (s.extract 0 e) 0 = bt s 0 := this
            rw [this]; exact hbr
          · rw [hp]
            simp only [res]
            apply ByteArray.ext
            apply Array.toList_inj.1
            simp only [ByteArray.data_extract, Array.toList_extract, List.extract]
            simp [List.take_take]
      obtain ⟨one, ho, o1, o2, o3, o4⟩ := hone
      rw [ho] at h1
      have h2 := squash_ev one o1 o2 o3
      rw [o4] at h2
      refine Ev.succ ?_
      simp only [laws_FnGjSquashTwice.j0, Bool.false_eq_true, if_false]
      refine Ev.bind h1 ?_
      simp only [if_neg (toList_nil o2)]
      refine Ev.bind h2 (Ev.succ ?_)
      simp only [laws_FnGjSquashTwice.j1, bne_self_eq_false, Bool.false_eq_true, if_false]
      exact law_l0 one o1 o3 o4 (one.size - 1) 1 (by omega) (by omega)
    obtain ⟨k, hk⟩ := main.rounds
    exact ⟨k, by rw [hf]; exact hk⟩
  · refine ⟨ky, ?_⟩
    rw [if_neg hb, if_neg h0, if_neg hs, if_pos (by omega), if_neg (by omega)]
    have : ((bt s 0) != 123) = true := by simp; omega
    rw [this, hy]

end Go.Proofs.Ytklllibhgalnfaa.Pure
