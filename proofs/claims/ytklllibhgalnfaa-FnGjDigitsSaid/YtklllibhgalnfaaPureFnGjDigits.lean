/- A text of decimal digits that is a uint64 is read as its number by gjson's parseUint, and a text with another byte, and an empty one, as none: for texts of at most 2^31 - 1 bytes (the statement's own bound). -/
import Derived.Test.YtklllibhgalnfaaPFnGjDigitsx1
namespace Go.Proofs.Ytklllibhgalnfaa.Pure
open Go.RowKit Go.Proofs.Ytklllibhgalnfaa.G Go.Proofs.Ytklllibhgalnfaa.PFnGjDigits Go.Proofs.YtklllibhgalnfaaW.PrintWords Go.Proofs.YtklllibhgalnfaaW.PrintLast

theorem bt_get (s : ByteArray) (j : Nat) (h : j < s.size) : bt s (j : Int) = (s[j].toNat : Int) := by
  unfold bt
  rw [dif_pos (by simpa using h)]
  rfl
theorem dg_iff (c : UInt8) : dg c = true ↔ (48 : Int) ≤ c.toNat ∧ (c.toNat : Int) ≤ 57 := by
  constructor
  · intro h
    by_cases h1 : (c.toNat : Int) < 48
    · rw [dg_lo h1] at h; cases h
    · by_cases h2 : (57 : Int) < c.toNat
      · rw [dg_hi h2] at h; cases h
      · omega
  · rintro ⟨h1, h2⟩; exact dg_in h1 h2
theorem dg_not (c : UInt8) : dg c = false ↔ (c.toNat : Int) < 48 ∨ (57 : Int) < c.toNat := by
  have := dg_iff c
  cases h : dg c
  · simp [h] at this; simp; omega
  · simp [h] at this; simp; omega
theorem wrap_succ {i : Int} {n : Nat} (h0 : 0 ≤ i) (h : i < (n : Int)) (hn : n ≤ 140737488351232) : wrap64 (i + 1) = i + 1 := by
  unfold wrap64; omega

/-- What follows the law's loop. -/
def fin (k : Nat) (x0 : ByteArray) (x3 : Bool) : Option Bool :=
  (impl_GjDigits.f x0).bind fun bt105 => (if x3 = true then ((spec_Uint64.f k x0).bind fun bt107 => (if bt107.2 = true then (if bt105.2 = true then (some (bt105.1 == bt107.1)) else (some false)) else (some true))) else (some (!bt105.2)))
theorem law_loop (s : ByteArray) (hn : s.size ≤ 140737488351232) (d : Nat) : ∀ (k j : Nat) (x : Bool), j + d = s.size →
    laws_FnGjDigits.l0 (k + d + 1) s x (j : Int) = fin (k) s (x && (s.data.toList.drop j).all dg) := by
  induction d with
  | zero =>
    intro k j x hj
    simp only [laws_FnGjDigits.l0]
    rw [if_neg (by omega), drop_end s j (by omega)]
    simp [fin]
  | succ d ih =>
    intro k j x hj
    have hlt : j < s.size := by omega
    rw [show k + (d + 1) + 1 = (k + d + 1) + 1 by omega, laws_FnGjDigits.l0]
    rw [if_pos (by omega), drop_cons s j hlt, wrap_succ (n := s.size) (by omega) (by omega) hn, bt_get s j hlt]
    have e : (j : Int) + 1 = ((j + 1 : Nat) : Int) := by omega
    rw [e]
    cases x with
    | false =>
      rw [if_neg (by simp), ih k (j + 1) false (by omega)]
      simp
    | true =>
      simp only [if_true]
      rw [if_pos (by omega)]
      by_cases h1 : 48 ≤ (s[j].toNat : Int)
      · rw [if_pos h1, ih k (j + 1) _ (by omega)]
        by_cases h2 : (s[j].toNat : Int) ≤ 57
        · have : dg s[j] = true := dg_in h1 h2
          simp [this, h2]
        · have : dg s[j] = false := dg_hi (by omega)
          simp [this, h2]
      · rw [if_neg h1, ih k (j + 1) _ (by omega)]
        have : dg s[j] = false := dg_lo (by omega)
        simp [this]

def suL : List UInt8 → Int → Int × Bool
  | [], n => (n, true)
  | c :: l, n => if dg c = true then (if n > (18446744073709551615 - ((c.toNat : Int) - 48)) / 10 then (0, false) else suL l (n * 10 + ((c.toNat : Int) - 48))) else (0, false)
theorem wrap_in {x : Int} (h0 : 0 ≤ x) (h : x ≤ 18446744073709551615) : IntKind.u64.wrap x = x := by
  have h1 : (2 : Int) ^ IntKind.u64.bits = 18446744073709551616 := by decide
  have h2 : IntKind.u64.signed = false := rfl
  simp only [IntKind.wrap, h2, h1]
  simp
  omega
theorem su_loop (s : ByteArray) (hn : s.size ≤ 140737488351232) (d : Nat) : ∀ (k j : Nat) (m : Int), 0 ≤ m → m ≤ 18446744073709551615 → j + d = s.size →
    spec_Uint64.l0 (k + 2 * d + 1) s m (j : Int) = some (suL (s.data.toList.drop j) m) := by
  induction d with
  | zero =>
    intro k j m _ _ hj
    simp only [spec_Uint64.l0]
    rw [if_neg (by omega), drop_end s j (by omega)]
    rfl
  | succ d ih =>
    intro k j m h0 hM hj
    have hlt : j < s.size := by omega
    rw [show k + 2 * (d + 1) + 1 = (k + 2 * d + 1) + 1 + 1 by omega, drop_cons s j hlt]
    have e : (j : Int) + 1 = ((j + 1 : Nat) : Int) := by omega
    rw [spec_Uint64.l0, suL]
    rw [if_pos (by omega), if_pos (by omega), bt_get s j hlt]
    by_cases h1 : (s[j].toNat : Int) < 48
    · rw [if_pos h1, dg_lo h1]
      simp [spec_Uint64.j1]
    · rw [if_neg h1, spec_Uint64.j1]
      by_cases h2 : (57 : Int) < s[j].toNat
      · rw [dg_hi h2]
        simp [h2]
      · rw [dg_in (by omega) (by omega), if_neg (by simpa using h2), if_pos (by omega), if_pos (by omega), bt_get s j hlt, wrap_succ (n := s.size) (by omega) (by omega) hn, e]
        have em : ((s[j].toNat : Int) - 48) % 256 = (s[j].toNat : Int) - 48 := by omega
        rw [em]
        simp only [if_true]
        by_cases h3 : m > (18446744073709551615 - ((s[j].toNat : Int) - 48)) / 10
        · rw [if_pos h3, if_pos h3]
        · rw [if_neg h3, if_neg h3, wrap_in (x := m * 10) (by omega) (by omega), wrap_in (by omega) (by omega)]
          exact ih k (j + 1) _ (by omega) (by omega) (by omega)

theorem su_pu (l : List UInt8) : ∀ (m n : Int), 0 ≤ m → m ≤ 18446744073709551615 → suL l m = (n, true) → pu l m = (n, true) := by
  induction l with
  | nil => intro m n _ _ h; simpa [suL, pu] using h
  | cons c l ih =>
    intro m n h0 hM h
    simp only [suL] at h
    by_cases hc : dg c = true
    · have hr := (dg_iff c).1 hc
      rw [if_pos hc] at h
      by_cases h3 : m > (18446744073709551615 - ((c.toNat : Int) - 48)) / 10
      · rw [if_pos h3] at h; simp at h
      · rw [if_neg h3] at h
        have e : IntKind.u64.wrap (IntKind.u64.wrap (m * 10) + ((c.toNat : Int) - 48)) = m * 10 + ((c.toNat : Int) - 48) := by
          rw [wrap_in (x := m * 10) (by omega) (by omega), wrap_in (by omega) (by omega)]
        rw [pu_on hc (by rw [e]; omega), e]
        exact ih _ n (by omega) (by omega) h
    · rw [if_neg hc] at h; simp at h
theorem pu_none (l : List UInt8) : ∀ m : Int, l.all dg = false → (pu l m).2 = false := by
  induction l with
  | nil => intro m h; simp at h
  | cons c l ih =>
    intro m h
    cases hc : dg c with
    | false => rw [pu_no hc]
    | true =>
      by_cases h2 : IntKind.u64.wrap (IntKind.u64.wrap (m * 10) + ((c.toNat : Int) - 48)) < m
      · rw [pu_over hc h2]; simp [pm, h]
      · rw [pu_on hc (by omega)]
        exact ih _ (by simpa [hc] using h)

/-- The statement. -/
theorem FnGjDigits : laws_FnGjDigits.Pure := by
  intro s hn
  refine ⟨2 * s.size + 1 + s.size + 1, ?_⟩
  unfold laws_FnGjDigits.f
  by_cases hb : (s.size : Int) > 2147483647
  · rw [if_pos hb]
  rw [if_neg hb]
  have hl := law_loop s hn s.size (2 * s.size + 1) 0 (s.toList != []) (by omega)
  rw [show ((0 : Nat) : Int) = 0 by rfl] at hl
  rw [hl, List.drop_zero]
  have et : s.toList = s.data.toList := by rw [ByteArray.toList_eq]
  have ei : impl_GjDigits.f s = some (if s.data.toList = [] then (0, false) else pu s.data.toList 0) := by
    unfold impl_GjDigits.f gjson_DoorUint.f gjson_parseUint.f
    rw [if_pos (by omega)]
    rfl
  unfold fin
  rw [ei, Option.bind_some, et]
  by_cases he : s.data.toList = []
  · simp [he]
  · rw [if_neg he]
    have hx : (s.data.toList != []) = true := by simpa using he
    rw [hx, Bool.true_and]
    cases ha : s.data.toList.all dg with
    | false => simp [pu_none _ 0 ha]
    | true =>
      have es : spec_Uint64.f (2 * s.size + 1) s = some (suL s.data.toList 0) := by
        unfold spec_Uint64.f
        rw [et, if_neg he]
        have := su_loop s hn s.size 0 0 0 (by omega) (by omega) (by omega)
        simpa using this
      simp only [if_true]
      rw [es, Option.bind_some]
      cases hb2 : (suL s.data.toList 0).2 with
      | false => simp
      | true =>
        have := su_pu s.data.toList 0 (suL s.data.toList 0).1 (by omega) (by omega) (by rw [← hb2])
        simp [this]

end Go.Proofs.Ytklllibhgalnfaa.Pure
