/- Eight bytes at once: no quotation mark and no backslash among them, where the word's test gives zero. -/
import Derived.Test.YtpahejmkidhhhaaDoorWWords
import Derived.Laws.BitsAllLaws
import Derived.Lib.EndianZ
namespace Go.Proofs.YtpahejmkidhhhaaDoor.G
set_option linter.unusedVariables false
set_option linter.unusedSimpArgs false
open Go.RowKit Go.Proofs.YtpahejmkidhhhaaDoorW.PrintWords

theorem and_bit {a b m i : Nat} (h : a &&& b &&& m = 0) (hb : b.testBit i = true) (hm : m.testBit i = true) : a.testBit i = false := by
  have h2 : (a &&& b &&& m).testBit i = false := by rw [h]; simp
  simpa [Nat.testBit_and, hb, hm] using h2
theorem compl_bit {x i : Nat} (hi : i < 64) : (18446744073709551615 ^^^ x).testBit i = !x.testBit i := by
  have h1 : (18446744073709551615 : Nat).testBit i = true := by
    have : (18446744073709551615 : Nat) = 2 ^ 64 - 1 := by decide
    rw [this, Nat.testBit_two_pow_sub_one]; simpa using hi
  rw [Nat.testBit_xor, h1]; simp
theorem bit_div {x i : Nat} : x.testBit i = decide (x / 2 ^ i % 2 = 1) := by rw [Nat.testBit_eq_decide_div_mod_eq]
/-- A word that the test passes has no zero byte. -/
theorem no_zero {x0 x1 x2 x3 x4 x5 x6 x7 x : Nat} (h0 : x0 < 256) (h1 : x1 < 256) (h2 : x2 < 256) (h3 : x3 < 256) (h4 : x4 < 256) (h5 : x5 < 256) (h6 : x6 < 256) (h7 : x7 < 256)
    (hx : x = x0 + 256 * (x1 + 256 * (x2 + 256 * (x3 + 256 * (x4 + 256 * (x5 + 256 * (x6 + 256 * x7))))))) (h : ((x + 18446744073709551616 - 72340172838076673) % 18446744073709551616) &&& (18446744073709551615 ^^^ x) &&& 9259542123273814144 = 0) :
    x0 ≠ 0 ∧ x1 ≠ 0 ∧ x2 ≠ 0 ∧ x3 ≠ 0 ∧ x4 ≠ 0 ∧ x5 ≠ 0 ∧ x6 ≠ 0 ∧ x7 ≠ 0 := by
  have key : ∀ i, i < 64 → (9259542123273814144 : Nat).testBit i = true → x / 2 ^ i % 2 = 0 → (x + 18446744073709551616 - 72340172838076673) % 18446744073709551616 / 2 ^ i % 2 = 0 := by
    intro i hi hm hx0
    have hc : (18446744073709551615 ^^^ x).testBit i = true := by
      rw [compl_bit hi, bit_div, hx0]; rfl
    have := and_bit h hc hm
    rw [bit_div] at this
    have h5 := of_decide_eq_false this
    omega
  have n0 : x0 ≠ 0 := by
    intro e
    have := key 7 (by decide) (by decide) (by omega)
    omega
  have n1 : x1 ≠ 0 := by
    intro e
    have := key 15 (by decide) (by decide) (by omega)
    omega
  have n2 : x2 ≠ 0 := by
    intro e
    have := key 23 (by decide) (by decide) (by omega)
    omega
  have n3 : x3 ≠ 0 := by
    intro e
    have := key 31 (by decide) (by decide) (by omega)
    omega
  have n4 : x4 ≠ 0 := by
    intro e
    have := key 39 (by decide) (by decide) (by omega)
    omega
  have n5 : x5 ≠ 0 := by
    intro e
    have := key 47 (by decide) (by decide) (by omega)
    omega
  have n6 : x6 ≠ 0 := by
    intro e
    have := key 55 (by decide) (by decide) (by omega)
    omega
  have n7 : x7 ≠ 0 := by
    intro e
    have := key 63 (by decide) (by decide) (by omega)
    omega
  exact ⟨n0, n1, n2, n3, n4, n5, n6, n7⟩
/-- One byte of an exclusive or. -/
theorem xor_cons {a b x y : Nat} (ha : a < 256) (hb : b < 256) : (a + 256 * x) ^^^ (b + 256 * y) = (a ^^^ b) + 256 * (x ^^^ y) := by
  have e1 : a + 256 * x = 2 ^ 8 * x + a := by omega
  have e2 : b + 256 * y = 2 ^ 8 * y + b := by omega
  have hab : a ^^^ b < 2 ^ 8 := Nat.xor_lt_two_pow ha hb
  have e3 : (a ^^^ b) + 256 * (x ^^^ y) = 2 ^ 8 * (x ^^^ y) + (a ^^^ b) := by omega
  rw [e1, e2, e3]
  apply Nat.eq_of_testBit_eq
  intro i
  rw [Nat.testBit_xor, Nat.testBit_two_pow_mul_add _ ha, Nat.testBit_two_pow_mul_add _ hb, Nat.testBit_two_pow_mul_add _ hab]
  split <;> simp [Nat.testBit_xor]
theorem xor_zero {a b : Nat} (h : a = b) : a ^^^ b = 0 := by rw [h]; exact Nat.xor_self b
/-- The word's test at a byte q. -/
def hit (w p : Int) : Int :=
  bits BinOp.and IntKind.u64 (bits BinOp.and IntKind.u64 (IntKind.u64.wrap (bits BinOp.xor IntKind.u64 w p - 72340172838076673)) (bits BinOp.xor IntKind.u64 (if IntKind.u64.signed = true then -1 else IntKind.u64.max) (bits BinOp.xor IntKind.u64 w p))) 9259542123273814144
def word8 (b0 b1 b2 b3 b4 b5 b6 b7 : Nat) : Nat := b0 + 256 * (b1 + 256 * (b2 + 256 * (b3 + 256 * (b4 + 256 * (b5 + 256 * (b6 + 256 * b7))))))
theorem hit_nat (w p : Nat) (hw : w < 18446744073709551616) (hp : p < 18446744073709551616) :
    hit (w : Int) (p : Int) = (((((w ^^^ p) + 18446744073709551616 - 72340172838076673) % 18446744073709551616) &&& (18446744073709551615 ^^^ (w ^^^ p)) &&& 9259542123273814144 : Nat) : Int) := by
  have hx : w ^^^ p < 18446744073709551616 := Nat.xor_lt_two_pow (n := 64) hw hp
  have e1 : bits BinOp.xor IntKind.u64 (w : Int) (p : Int) = ((w ^^^ p : Nat) : Int) := bits_xor_u64_nat w p hw hp
  have e2 : (if IntKind.u64.signed = true then (-1 : Int) else IntKind.u64.max) = ((18446744073709551615 : Nat) : Int) := by decide
  have e3 : IntKind.u64.wrap (((w ^^^ p : Nat) : Int) - 72340172838076673) = ((((w ^^^ p) + 18446744073709551616 - 72340172838076673) % 18446744073709551616 : Nat) : Int) := by
    rw [IntKind.wrap_u64]; omega
  have e4 : bits BinOp.xor IntKind.u64 ((18446744073709551615 : Nat) : Int) ((w ^^^ p : Nat) : Int) = ((18446744073709551615 ^^^ (w ^^^ p) : Nat) : Int) := bits_xor_u64_nat _ _ (by decide) hx
  have hc : 18446744073709551615 ^^^ (w ^^^ p) < 18446744073709551616 := Nat.xor_lt_two_pow (n := 64) (by decide) hx
  have hy : ((w ^^^ p) + 18446744073709551616 - 72340172838076673) % 18446744073709551616 < 18446744073709551616 := Nat.mod_lt _ (by decide)
  unfold hit
  rw [e1, e2, e3, e4, u64_and_nat _ _ hy hc]
  have hyc : (((w ^^^ p) + 18446744073709551616 - 72340172838076673) % 18446744073709551616) &&& (18446744073709551615 ^^^ (w ^^^ p)) < 18446744073709551616 := Nat.lt_of_le_of_lt Nat.and_le_left hy
  have e5 : (9259542123273814144 : Int) = ((9259542123273814144 : Nat) : Int) := rfl
  rw [e5, u64_and_nat _ _ hyc (by decide)]
theorem hit_no (q : Nat) (hq : q < 256) {b0 b1 b2 b3 b4 b5 b6 b7 : Nat} (h0 : b0 < 256) (h1 : b1 < 256) (h2 : b2 < 256) (h3 : b3 < 256) (h4 : b4 < 256) (h5 : b5 < 256) (h6 : b6 < 256) (h7 : b7 < 256)
    (h : hit (word8 b0 b1 b2 b3 b4 b5 b6 b7 : Nat) (word8 q q q q q q q q : Nat) = 0) : b0 ≠ q ∧ b1 ≠ q ∧ b2 ≠ q ∧ b3 ≠ q ∧ b4 ≠ q ∧ b5 ≠ q ∧ b6 ≠ q ∧ b7 ≠ q := by
  rw [hit_nat _ _ (by unfold word8; omega) (by unfold word8; omega)] at h
  have h' := Int.ofNat_eq_zero.1 h
  have hx : word8 b0 b1 b2 b3 b4 b5 b6 b7 ^^^ word8 q q q q q q q q = (b0 ^^^ q) + 256 * ((b1 ^^^ q) + 256 * ((b2 ^^^ q) + 256 * ((b3 ^^^ q) + 256 * ((b4 ^^^ q) + 256 * ((b5 ^^^ q) + 256 * ((b6 ^^^ q) + 256 * (b7 ^^^ q))))))) := by
    unfold word8
    rw [xor_cons h0 hq, xor_cons h1 hq, xor_cons h2 hq, xor_cons h3 hq, xor_cons h4 hq, xor_cons h5 hq, xor_cons h6 hq]
  have lt : ∀ b, b < 256 → b ^^^ q < 256 := fun b hb => Nat.xor_lt_two_pow (n := 8) hb hq
  obtain ⟨n0, n1, n2, n3, n4, n5, n6, n7⟩ := no_zero (lt _ h0) (lt _ h1) (lt _ h2) (lt _ h3) (lt _ h4) (lt _ h5) (lt _ h6) (lt _ h7) hx h'
  exact ⟨fun e => n0 (xor_zero e), fun e => n1 (xor_zero e), fun e => n2 (xor_zero e), fun e => n3 (xor_zero e), fun e => n4 (xor_zero e), fun e => n5 (xor_zero e), fun e => n6 (xor_zero e), fun e => n7 (xor_zero e)⟩
theorem hit_range (w p : Nat) (hw : w < 18446744073709551616) (hp : p < 18446744073709551616) : ∃ n : Nat, hit w p = n ∧ n < 18446744073709551616 :=
  ⟨_, hit_nat w p hw hp, Nat.lt_of_le_of_lt Nat.and_le_right (by decide)⟩
theorem or_zero {a b : Nat} (ha : a < 18446744073709551616) (hb : b < 18446744073709551616) (h : bits BinOp.or IntKind.u64 (a : Int) (b : Int) = 0) : a = 0 ∧ b = 0 := by
  rw [u64_or_nat a b ha hb] at h
  have h' := Int.ofNat_eq_zero.1 h
  have ha0 : a ≤ a ||| b := Nat.left_le_or
  have hb0 : b ≤ a ||| b := Nat.right_le_or
  omega
theorem word8_lt {b0 b1 b2 b3 b4 b5 b6 b7 : Nat} (h0 : b0 < 256) (h1 : b1 < 256) (h2 : b2 < 256) (h3 : b3 < 256) (h4 : b4 < 256) (h5 : b5 < 256) (h6 : b6 < 256) (h7 : b7 < 256) : word8 b0 b1 b2 b3 b4 b5 b6 b7 < 18446744073709551616 := by unfold word8; omega
theorem lit34 : (2459565876494606882 : Int) = ((word8 34 34 34 34 34 34 34 34 : Nat) : Int) := by unfold word8; omega
theorem lit92 : (6655295901103053916 : Int) = ((word8 92 92 92 92 92 92 92 92 : Nat) : Int) := by unfold word8; omega
theorem leZ_word (b0 b1 b2 b3 b4 b5 b6 b7 : Nat) : Lib.leZ [(b0 : Int), b1, b2, b3, b4, b5, b6, b7] = ((word8 b0 b1 b2 b3 b4 b5 b6 b7 : Nat) : Int) := by
  unfold word8
  simp only [Lib.leZ, Int.natCast_add, Int.natCast_mul]
  omega
theorem swar_nat {b0 b1 b2 b3 b4 b5 b6 b7 : Nat} (h0 : b0 < 256) (h1 : b1 < 256) (h2 : b2 < 256) (h3 : b3 < 256) (h4 : b4 < 256) (h5 : b5 < 256) (h6 : b6 < 256) (h7 : b7 < 256) (W34 W92 : Nat) (e34 : W34 = word8 34 34 34 34 34 34 34 34) (e92 : W92 = word8 92 92 92 92 92 92 92 92)
    (h : bits BinOp.or IntKind.u64 (hit ((word8 b0 b1 b2 b3 b4 b5 b6 b7 : Nat) : Int) (W34 : Int)) (hit ((word8 b0 b1 b2 b3 b4 b5 b6 b7 : Nat) : Int) (W92 : Int)) = 0) :
    (b0 ≠ 34 ∧ b1 ≠ 34 ∧ b2 ≠ 34 ∧ b3 ≠ 34 ∧ b4 ≠ 34 ∧ b5 ≠ 34 ∧ b6 ≠ 34 ∧ b7 ≠ 34) ∧ (b0 ≠ 92 ∧ b1 ≠ 92 ∧ b2 ≠ 92 ∧ b3 ≠ 92 ∧ b4 ≠ 92 ∧ b5 ≠ 92 ∧ b6 ≠ 92 ∧ b7 ≠ 92) := by
  have hw := word8_lt h0 h1 h2 h3 h4 h5 h6 h7
  have l34 : W34 < 18446744073709551616 := by rw [e34]; exact word8_lt (by omega) (by omega) (by omega) (by omega) (by omega) (by omega) (by omega) (by omega)
  have l92 : W92 < 18446744073709551616 := by rw [e92]; exact word8_lt (by omega) (by omega) (by omega) (by omega) (by omega) (by omega) (by omega) (by omega)
  obtain ⟨n1, g1, l1⟩ := hit_range _ W34 hw l34
  obtain ⟨n2, g2, l2⟩ := hit_range _ W92 hw l92
  rw [g1, g2] at h
  obtain ⟨z1, z2⟩ := or_zero l1 l2 h
  rw [z1, e34] at g1
  rw [z2, e92] at g2
  exact ⟨hit_no 34 (by omega) h0 h1 h2 h3 h4 h5 h6 h7 g1, hit_no 92 (by omega) h0 h1 h2 h3 h4 h5 h6 h7 g2⟩
theorem ne2 {b : Nat} (h : b ≠ 34) (h' : b ≠ 92) : (b : Int) ≠ 34 ∧ (b : Int) ≠ 92 := ⟨by omega, by omega⟩
/-- No byte of the word is a quotation mark or a backslash where the test gives zero. -/
theorem swar (z0 z1 z2 z3 z4 z5 z6 z7 : Int) (hz : ∀ z ∈ [z0, z1, z2, z3, z4, z5, z6, z7], 0 ≤ z ∧ z < 256)
    (h : bits BinOp.or IntKind.u64 (hit (Lib.leZ [z0, z1, z2, z3, z4, z5, z6, z7]) 2459565876494606882) (hit (Lib.leZ [z0, z1, z2, z3, z4, z5, z6, z7]) 6655295901103053916) = 0) :
    ∀ z ∈ [z0, z1, z2, z3, z4, z5, z6, z7], z ≠ 34 ∧ z ≠ 92 := by
  have g : ∀ z ∈ [z0, z1, z2, z3, z4, z5, z6, z7], ∃ n : Nat, z = n ∧ n < 256 := fun z hm => by
    obtain ⟨h1, h2⟩ := hz z hm
    exact ⟨z.toNat, by omega, by omega⟩
  obtain ⟨b0, rfl, h0⟩ := g z0 (by simp)
  obtain ⟨b1, rfl, h1⟩ := g z1 (by simp)
  obtain ⟨b2, rfl, h2⟩ := g z2 (by simp)
  obtain ⟨b3, rfl, h3⟩ := g z3 (by simp)
  obtain ⟨b4, rfl, h4⟩ := g z4 (by simp)
  obtain ⟨b5, rfl, h5⟩ := g z5 (by simp)
  obtain ⟨b6, rfl, h6⟩ := g z6 (by simp)
  obtain ⟨b7, rfl, h7⟩ := g z7 (by simp)
  clear hz g
  obtain ⟨W34, e34⟩ : ∃ W, W = word8 34 34 34 34 34 34 34 34 := ⟨_, rfl⟩
  obtain ⟨W92, e92⟩ : ∃ W, W = word8 92 92 92 92 92 92 92 92 := ⟨_, rfl⟩
  rw [leZ_word, lit34, lit92, ← e34, ← e92] at h
  have hh := swar_nat h0 h1 h2 h3 h4 h5 h6 h7 W34 W92 e34 e92 h
  clear e34 e92
  obtain ⟨⟨p0, p1, p2, p3, p4, p5, p6, p7⟩, q0, q1, q2, q3, q4, q5, q6, q7⟩ := hh
  clear h
  intro z hm
  simp only [List.mem_cons, List.not_mem_nil, or_false] at hm
  rcases hm with rfl | rfl | rfl | rfl | rfl | rfl | rfl | rfl
  · exact ne2 p0 q0
  · exact ne2 p1 q1
  · exact ne2 p2 q2
  · exact ne2 p3 q3
  · exact ne2 p4 q4
  · exact ne2 p5 q5
  · exact ne2 p6 q6
  · exact ne2 p7 q7
end Go.Proofs.YtpahejmkidhhhaaDoor.G
