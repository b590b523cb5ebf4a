/- Characters of a text in UTF-8 as their bytes: read from the front and from the end. -/
import Derived.Test.YtmomjgkbimeeoaaWWords
import Derived.Lib.DecodeN
import Derived.Lib.MapLaws
import Derived.Lib.TrimUEq
import Derived.Lib.SpaceUEq
import Derived.Lib.TrimAscii
namespace Go.Proofs.Ytmomjgkbimeeoaa.G
set_option linter.unusedVariables false
set_option linter.unusedSimpArgs false
open Go.RowKit Go.Proofs.YtmomjgkbimeeoaaW.PrintWords
open Go.Lib (decodeL decodeLastL decodeL_N decodeN decodeN_shape lastStart runeStartB)

/-- The bytes of one character. -/
def IsChr (q : List UInt8) : Prop := q ≠ [] ∧ (decodeL q).2 = q.length ∧ ¬((decodeL q).1 = 65533 ∧ (decodeL q).2 = 1)
/-- Its number. -/
def chv (q : List UInt8) : Nat := (decodeL q).1
/-- A head that is no character. -/
def badHead (l : List UInt8) : Bool := (decodeL l).1 == 65533 && (decodeL l).2 == 1
theorem bad_iff {l : List UInt8} : badHead l = true ↔ (decodeL l).1 = 65533 ∧ (decodeL l).2 = 1 := by unfold badHead; simp
theorem dN1 {n b0 b1 b2 b3 : Nat} (h : b0 < 128) : decodeN n b0 b1 b2 b3 = (b0, 1) := by unfold decodeN; rw [if_pos h]
theorem dN2 {n b0 b1 b2 b3 : Nat} (h : b0 / 32 = 6) (hn : 1 < n) (h1 : b1 / 64 = 2) : decodeN n b0 b1 b2 b3 = if b0 % 32 * 64 + b1 % 64 ≥ 128 then (b0 % 32 * 64 + b1 % 64, 2) else (65533, 1) := by
  unfold decodeN; rw [if_neg (by omega), if_pos ⟨h, hn, h1⟩]
theorem dN3 {n b0 b1 b2 b3 : Nat} (h : b0 / 16 = 14) (hn : 2 < n) (h1 : b1 / 64 = 2) (h2 : b2 / 64 = 2) : decodeN n b0 b1 b2 b3 =
    if b0 % 16 * 4096 + b1 % 64 * 64 + b2 % 64 ≥ 2048 ∧ (b0 % 16 * 4096 + b1 % 64 * 64 + b2 % 64 < 55296 ∨ (57344 ≤ b0 % 16 * 4096 + b1 % 64 * 64 + b2 % 64 ∧ b0 % 16 * 4096 + b1 % 64 * 64 + b2 % 64 ≤ 1114111)) then (b0 % 16 * 4096 + b1 % 64 * 64 + b2 % 64, 3) else (65533, 1) := by
  unfold decodeN; rw [if_neg (by omega), if_neg (by omega), if_pos ⟨h, ⟨by omega, h1⟩, hn, h2⟩]
theorem dN4 {n b0 b1 b2 b3 : Nat} (h : b0 / 8 = 30) (hn : 3 < n) (h1 : b1 / 64 = 2) (h2 : b2 / 64 = 2) (h3 : b3 / 64 = 2) : decodeN n b0 b1 b2 b3 =
    if b0 % 8 * 262144 + b1 % 64 * 4096 + b2 % 64 * 64 + b3 % 64 ≥ 65536 ∧ (b0 % 8 * 262144 + b1 % 64 * 4096 + b2 % 64 * 64 + b3 % 64 < 55296 ∨ (57344 ≤ b0 % 8 * 262144 + b1 % 64 * 4096 + b2 % 64 * 64 + b3 % 64 ∧ b0 % 8 * 262144 + b1 % 64 * 4096 + b2 % 64 * 64 + b3 % 64 ≤ 1114111)) then (b0 % 8 * 262144 + b1 % 64 * 4096 + b2 % 64 * 64 + b3 % 64, 4) else (65533, 1) := by
  unfold decodeN; rw [if_neg (by omega), if_neg (by omega), if_neg (by omega), if_pos ⟨h, ⟨by omega, h1⟩, ⟨by omega, h2⟩, hn, h3⟩]
theorem len3 {q : List UInt8} (h : 3 = q.length) : ∃ a b c, q = [a, b, c] := by
  match q, h with
  | [a, b, c], _ => exact ⟨a, b, c, rfl⟩
theorem len4 {q : List UInt8} (h : 4 = q.length) : ∃ a b c d, q = [a, b, c, d] := by
  match q, h with
  | [a, b, c, d], _ => exact ⟨a, b, c, d, rfl⟩
/-- The five ways of a head. -/
theorem chr_shape {q : List UInt8} (h : IsChr q) :
    (∃ a, q = [a] ∧ a.toNat < 128) ∨ (∃ a b, q = [a, b] ∧ a.toNat / 32 = 6 ∧ b.toNat / 64 = 2) ∨ (∃ a b c, q = [a, b, c] ∧ a.toNat / 16 = 14 ∧ b.toNat / 64 = 2 ∧ c.toNat / 64 = 2) ∨
    (∃ a b c d, q = [a, b, c, d] ∧ a.toNat / 8 = 30 ∧ b.toNat / 64 = 2 ∧ c.toNat / 64 = 2 ∧ d.toNat / 64 = 2) := by
  obtain ⟨h1, h2, h3⟩ := h
  rw [decodeL_N] at h2 h3
  rcases decodeN_shape q.length (q.getD 0 0).toNat (q.getD 1 0).toNat (q.getD 2 0).toNat (q.getD 3 0).toNat with ⟨c, e⟩ | ⟨c1, c2, c3, cv, e⟩ | ⟨c1, c2, c3, c4, cv, cs, e⟩ | ⟨c1, c2, c3, c4, c5, cv, cs, e⟩ | e
  · rw [e] at h2
    match q, h2 with
    | [a], _ => exact .inl ⟨a, rfl, c⟩
  · rw [e] at h2
    match q, h2 with
    | [a, b], _ => exact .inr (.inl ⟨a, b, rfl, c1, c3⟩)
  · rw [e] at h2
    obtain ⟨a, b, c, rfl⟩ := len3 h2
    exact .inr (.inr (.inl ⟨a, b, c, rfl, c1, c3, c4⟩))
  · rw [e] at h2
    obtain ⟨a, b, c, d, rfl⟩ := len4 h2
    exact .inr (.inr (.inr ⟨a, b, c, d, rfl, c1, c3, c4, c5⟩))
  · rw [e] at h3; exact absurd ⟨rfl, rfl⟩ h3
/-- What stands behind a character does not matter. -/
theorem chr_front {q : List UInt8} (h : IsChr q) (t : List UInt8) : decodeL (q ++ t) = decodeL q := by
  have h3 := h.2.2
  rw [decodeL_N] at h3
  rw [decodeL_N, decodeL_N q]
  rcases chr_shape h with ⟨a, rfl, c⟩ | ⟨a, b, rfl, c1, c2⟩ | ⟨a, b, c, rfl, c1, c2, c3⟩ | ⟨a, b, c, d, rfl, c1, c2, c3, c4⟩
  · simp only [List.cons_append, List.nil_append, List.getD_cons_zero]
    rw [dN1 c, dN1 c]
  · simp only [List.cons_append, List.nil_append, List.getD_cons_zero, List.getD_cons_succ, List.length_cons, List.length_nil]
    rw [dN2 c1 (by omega) c2, dN2 c1 (by omega) c2]
  · simp only [List.cons_append, List.nil_append, List.getD_cons_zero, List.getD_cons_succ, List.length_cons, List.length_nil]
    rw [dN3 c1 (by omega) c2 c3, dN3 c1 (by omega) c2 c3]
  · simp only [List.cons_append, List.nil_append, List.getD_cons_zero, List.getD_cons_succ, List.length_cons, List.length_nil]
    rw [dN4 c1 (by omega) c2 c3 c4, dN4 c1 (by omega) c2 c3 c4]
/-- A head that is a character is its bytes. -/
theorem chr_head {l : List UInt8} (hne : l ≠ []) (hb : badHead l = false) : IsChr (l.take (decodeL l).2) ∧ decodeL (l.take (decodeL l).2) = decodeL l ∧ (decodeL l).2 ≤ l.length := by
  have hb' : ¬((decodeL l).1 = 65533 ∧ (decodeL l).2 = 1) := fun h => by rw [bad_iff.2 h] at hb; cases hb
  have hl : 0 < l.length := List.length_pos_iff.2 hne
  have key : decodeL (l.take (decodeL l).2) = decodeL l ∧ (decodeL l).2 ≤ l.length := by
    rw [decodeL_N] at hb'
    rw [decodeL_N (l.take _)]
    have hN := decodeL_N l
    rcases decodeN_shape l.length (l.getD 0 0).toNat (l.getD 1 0).toNat (l.getD 2 0).toNat (l.getD 3 0).toNat with ⟨c, e⟩ | ⟨c1, c2, c3, cv, e⟩ | ⟨c1, c2, c3, c4, cv, cs, e⟩ | ⟨c1, c2, c3, c4, c5, cv, cs, e⟩ | e
    · rw [hN, e]
      obtain ⟨a, r, rfl⟩ : ∃ a r, l = a :: r := List.exists_cons_of_ne_nil hne
      simp only [List.getD_cons_zero] at c ⊢
      simp only [List.take_succ_cons, List.take_zero, List.getD_cons_zero]
      rw [dN1 c]
      simp
    · rw [hN, e]
      obtain ⟨a, b, r, rfl⟩ : ∃ a b r, l = a :: b :: r := by
        clear e cv c3 c1 hN hb'
        match l, c2 with
        | a :: b :: r, _ => exact ⟨a, b, r, rfl⟩
      simp only [List.getD_cons_zero, List.getD_cons_succ] at c1 c3 cv ⊢
      simp only [List.take_succ_cons, List.take_zero, List.getD_cons_zero, List.getD_cons_succ, List.length_cons, List.length_nil]
      refine ⟨?_, by omega⟩
      rw [dN2 c1 (by omega) c3, if_pos (by omega)]
    · rw [hN, e]
      obtain ⟨a, b, d, r, rfl⟩ : ∃ a b d r, l = a :: b :: d :: r := by
        clear e cv c3 c4 cs c1 hN hb'
        match l, c2 with
        | a :: b :: d :: r, _ => exact ⟨a, b, d, r, rfl⟩
      simp only [List.getD_cons_zero, List.getD_cons_succ] at c1 c3 c4 cv cs ⊢
      simp only [List.take_succ_cons, List.take_zero, List.getD_cons_zero, List.getD_cons_succ, List.length_cons, List.length_nil]
      refine ⟨?_, by omega⟩
      rw [dN3 c1 (by omega) c3 c4, if_pos ⟨by omega, by omega⟩]
    · rw [hN, e]
      obtain ⟨a, b, d, f, r, rfl⟩ : ∃ a b d f r, l = a :: b :: d :: f :: r := by
        clear e cv c3 c4 c5 cs c1 hN hb'
        match l, c2 with
        | a :: b :: d :: f :: r, _ => exact ⟨a, b, d, f, r, rfl⟩
      simp only [List.getD_cons_zero, List.getD_cons_succ] at c1 c3 c4 c5 cv cs ⊢
      simp only [List.take_succ_cons, List.take_zero, List.getD_cons_zero, List.getD_cons_succ, List.length_cons, List.length_nil]
      refine ⟨?_, by omega⟩
      rw [dN4 c1 (by omega) c3 c4 c5, if_pos ⟨by omega, by omega⟩]
    · exact absurd (by rw [e]; exact ⟨rfl, rfl⟩) hb'
  have hw := Go.Lib.decodeL_width l
  refine ⟨⟨?_, ?_, ?_⟩, key⟩
  · intro h
    have := congrArg List.length h
    rw [List.length_take, List.length_nil] at this
    omega
  · have := key.2; rw [key.1, List.length_take]; omega
  · rw [key.1]; exact hb'
theorem start_no {b : UInt8} (h : b.toNat / 64 = 2) : runeStartB b = false := by unfold runeStartB; simp [h]
theorem start_yes {b : UInt8} (h : b.toNat / 64 ≠ 2) : runeStartB b = true := by unfold runeStartB; simp [h]
theorem last4 (t : List UInt8) (c0 c1 c2 c3 : UInt8) (h3 : 128 ≤ c3.toNat) (h2 : runeStartB c2 = false) (h1 : runeStartB c1 = false) (h0 : runeStartB c0 = true) (hd : (decodeL [c0, c1, c2, c3]).2 = 4) : decodeLastL (t ++ [c0, c1, c2, c3]) = decodeL [c0, c1, c2, c3] := by
  have g1 := Go.Lib.getD_app_end t [c0, c1, c2, c3] 1 (by omega) (by simp)
  have g2 := Go.Lib.getD_app_end t [c0, c1, c2, c3] 2 (by omega) (by simp)
  have g3 := Go.Lib.getD_app_end t [c0, c1, c2, c3] 3 (by omega) (by simp)
  have g4 := Go.Lib.getD_app_end t [c0, c1, c2, c3] 4 (by omega) (by simp)
  have hl : (t ++ [c0, c1, c2, c3]).length = t.length + 4 := by simp
  have hs : lastStart (t ++ [c0, c1, c2, c3]) = (t ++ [c0, c1, c2, c3]).length - 4 := by
    unfold lastStart
    simp only [g2, g3, g4]
    rw [if_neg (by omega)]
    simp only [List.length_cons, List.length_nil, List.getD_cons_succ, List.getD_cons_zero, Nat.reduceAdd, Nat.reduceSub, h2, h1, h0, Bool.false_eq_true, if_false, if_true]
    rw [if_neg (by omega), if_neg (by omega)]
  have hdrop := Go.Lib.drop_app_end t [c0, c1, c2, c3]
  unfold decodeLastL
  rw [if_neg (by simp), g1, if_neg (by simp; omega), hs]
  simp only [List.length_cons, List.length_nil] at hdrop
  simp only [hdrop, hd]
  rw [if_pos (by omega)]
/-- What stands ahead of the last character does not matter. -/
theorem chr_last {q : List UInt8} (h : IsChr q) (t : List UInt8) : decodeLastL (t ++ q) = decodeL q := by
  have h2 := h.2.1
  rcases chr_shape h with ⟨a, rfl, c⟩ | ⟨a, b, rfl, c1, c2⟩ | ⟨a, b, c, rfl, c1, c2, c3⟩ | ⟨a, b, c, d, rfl, c1, c2, c3, c4⟩
  · rw [Go.Lib.decodeLastL_ascii t a c, Go.Lib.decodeL_ascii a [] c]
  · exact Go.Lib.last2 t a b (by omega) (start_yes (by omega)) h2
  · exact Go.Lib.last3 t a b c (by omega) (start_no c2) (start_yes (by omega)) h2
  · exact last4 t a b c d (by omega) (start_no c3) (start_no c2) (start_yes (by omega)) h2
theorem chr_inj {q r : List UInt8} (hq : IsChr q) (hr : IsChr r) (h : chv q = chv r) : q = r := by
  have e1 := Go.Lib.encode_decode q hq.1 hq.2.2
  have e2 := Go.Lib.encode_decode r hr.1 hr.2.2
  rw [hq.2.1, List.take_length] at e1
  rw [hr.2.1, List.take_length] at e2
  rw [← e1, ← e2]
  unfold chv at h
  rw [h]
/-- Its first byte: itself, or above 127. -/
theorem chr_first {q : List UInt8} (h : IsChr q) : ∃ a r, q = a :: r ∧ ((a.toNat < 128 ∧ r = [] ∧ chv q = a.toNat) ∨ (128 ≤ a.toNat ∧ 128 ≤ chv q)) := by
  have hv : chv q = (decodeL q).1 := rfl
  rcases chr_shape h with ⟨a, rfl, c⟩ | ⟨a, b, rfl, c1, c2⟩ | ⟨a, b, c, rfl, c1, c2, c3⟩ | ⟨a, b, c, d, rfl, c1, c2, c3, c4⟩
  · exact ⟨a, [], rfl, .inl ⟨c, rfl, by rw [hv, Go.Lib.decodeL_ascii a [] c]⟩⟩
  all_goals
    refine ⟨a, _, rfl, .inr ⟨by omega, ?_⟩⟩
    have h3 := h.2.2
    rw [hv]
    rw [decodeL_N] at h3 ⊢
    simp only [List.getD_cons_zero, List.getD_cons_succ, List.length_cons, List.length_nil] at h3 ⊢
  · rw [dN2 c1 (by omega) c2] at h3 ⊢
    split
    · assumption
    · rename_i hh; rw [if_neg hh] at h3; exact absurd ⟨rfl, rfl⟩ h3
  · rw [dN3 c1 (by omega) c2 c3] at h3 ⊢
    split
    · simp only; omega
    · rename_i hh; rw [if_neg hh] at h3; exact absurd ⟨rfl, rfl⟩ h3
  · rw [dN4 c1 (by omega) c2 c3 c4] at h3 ⊢
    split
    · simp only; omega
    · rename_i hh; rw [if_neg hh] at h3; exact absurd ⟨rfl, rfl⟩ h3
end Go.Proofs.Ytmomjgkbimeeoaa.G
