/- fastjson's parseRawNumber through impl.FjRawNumber: what it answers for texts that do not begin with a sign and another byte, and not with n, N, i, I. -/
import Derived.Test.YtklllibhgalnfaaProg
import Derived.WalkKit
import Derived.WalkSpells
import Derived.WalkLawsBesides
import Derived.Lib.Hide
import Derived.Outline
import Derived.Test.YtklllibhgalnfaaWWords
namespace Go.Proofs.Ytklllibhgalnfaa.G
set_option linter.unusedVariables false
set_option linter.unusedSimpArgs false
open Go.RowKit Go.Proofs.YtklllibhgalnfaaW.PrintWords

/-- A byte of a number. -/
def nb (c : UInt8) : Bool := (48 ≤ c && c ≤ 57) || c == 46 || c == 45 || c == 101 || c == 69 || c == 43
theorem nb_yes {c : UInt8} (h : nb c = true) : ((48 : Int) ≤ c.toNat ∧ (c.toNat : Int) ≤ 57) ∨ (c.toNat : Int) = 46 ∨ (c.toNat : Int) = 45 ∨ (c.toNat : Int) = 101 ∨ (c.toNat : Int) = 69 ∨ (c.toNat : Int) = 43 := by
  simp only [nb, Bool.or_eq_true, Bool.and_eq_true, decide_eq_true_eq, UInt8.le_iff_toNat_le, beq_iff_eq, ← UInt8.toNat_inj] at h
  simp at h
  omega
theorem nb_no {c : UInt8} (h : nb c = false) : ((c.toNat : Int) < 48 ∨ (57 : Int) < c.toNat) ∧ (c.toNat : Int) ≠ 46 ∧ (c.toNat : Int) ≠ 45 ∧ (c.toNat : Int) ≠ 101 ∧ (c.toNat : Int) ≠ 69 ∧ (c.toNat : Int) ≠ 43 := by
  simp only [nb, Bool.or_eq_false_iff, Bool.and_eq_false_iff, decide_eq_false_iff_not, UInt8.le_iff_toNat_le, beq_eq_false_iff_ne, ne_eq, ← UInt8.toNat_inj] at h
  simp at h
  omega
def nlen (s : ByteArray) : Nat := (s.data.toList.takeWhile nb).length
def low (c : Int) : Int := if 65 ≤ c ∧ c ≤ 90 then c + 32 else c

set_option maxHeartbeats 1000000 in
theorem zzFold_no (x y : ByteArray) (w : World) (hxy : x.size = y.size) (h0 : 0 < x.size) (h1 : 0 < y.size) (hm : x.size ≤ 9223372036854775807) (hne : low (x[0].toNat : Int) ≠ (y[0].toNat : Int)) :
    Calls Try.prog 36 #[.string x, .string y] w fun e w' => e = .returned (.bool false) ∧ w = w' := by
  have hne1 : ((x.size : Int) != (y.size : Int)) = false := by simp [hxy]
  have hne2 : (x.size != y.size) = false := by simp [hxy]
  have hx : (x[0].toNat : Int) ≤ 255 := by have := x[0].toNat_lt; omega
  have HN := Aside0.mk hne
  clear hne hxy
  go_enter Try.func36, Try.ntmps36
  go_wp2
  go_loop [5] (fun i => i = .int .i64 0) (fun i => 0)
  case atStart => rfl
  case round =>
    obtain rfl := hrel
    by_cases h2 : 65 ≤ (x[0].toNat : Int)
    · by_cases h3 : (x[0].toNat : Int) ≤ 90
      · have hq : (((x[0].toNat : Int) + 32) != (y[0].toNat : Int)) = true := by
          have := HN.out; unfold low at this; rw [if_pos ⟨h2, h3⟩] at this; simpa using this
        go_wp2
        go_ret
        exact ⟨rfl, rfl⟩
      · have hq : ((x[0].toNat : Int) != (y[0].toNat : Int)) = true := by
          have := HN.out; unfold low at this; rw [if_neg (by omega)] at this; simpa using this
        go_wp2
        go_ret
        exact ⟨rfl, rfl⟩
    · have hq : ((x[0].toNat : Int) != (y[0].toNat : Int)) = true := by
        have := HN.out; unfold low at this; rw [if_neg (by omega)] at this; simpa using this
      go_wp2
      go_ret
      exact ⟨rfl, rfl⟩

theorem ret3_eq {a b c d : ByteArray} {x y : Value} (h1 : a = c) (h2 : b = d) (h3 : x = y) : Ending.returned (.tuple #[.string a, .string b, x]) = .returned (.tuple #[.string c, .string d, y]) := by rw [h1, h2, h3]
theorem extract_all (s : ByteArray) : s.extract 0 s.size = s := ByteArray.ext (by simp)
theorem extract_none (s : ByteArray) : s.extract s.size s.size = ⟨#[]⟩ := ByteArray.ext (by simp)

/-- All bytes ahead of k are a number's; at k stands another, or the end. -/
def Head (s : ByteArray) (k : Nat) : Prop := k ≤ s.size ∧ (∀ j (h : j < s.size), j < k → nb s[j] = true) ∧ ∀ h : k < s.size, nb s[k] = false

set_option maxHeartbeats 4000000 in
set_option maxRecDepth 100000 in
theorem raw_yes (s : ByteArray) (k : Nat) (w : World) (hk : Head s k) (hm : s.size ≤ 9223372036854775807) (h2 : k < s.size → 2 ≤ k ∨ k = 1 ∧ ∀ h : 0 < s.size, (s[0].toNat : Int) ≠ 45 ∧ (s[0].toNat : Int) ≠ 43) :
    Calls Try.prog 26 #[.string s] w fun e w' => e = .returned (.tuple #[.string (s.extract 0 k), .string (s.extract k s.size), .nilIface]) ∧ w = w' := by
  obtain ⟨hks, hall, hend⟩ := hk
  have HA := Aside0.mk hall
  have HE := Aside0.mk hend
  have H2 := Aside0.mk h2
  clear hall hend h2
  go_enter Try.func26, Try.ntmps26
  go_wp2
  go_loop [0, 11] (fun v i => ∃ j : Nat, j ≤ k ∧ i = .int .i64 j ∧ v = .string s) (fun _ i => s.size - (intOf i).toNat)
  case atStart => exact ⟨0, by omega, rfl, rfl⟩
  case round =>
    obtain ⟨j, hj, rfl, rfl⟩ := hrel
    by_cases hlt : j < s.size
    · by_cases hjk : j < k
      · have hb := nb_yes (HA.out j hlt hjk)
        rcases hb with ⟨h1, h2⟩ | h | h | h | h | h
        all_goals
          go_wp2
          go_round
          case rel => exact ⟨j + 1, by omega, by go_num, rfl⟩
          case measure => simp [intOf]; omega
      · obtain rfl : j = k := by omega
        obtain ⟨hb, h46, h45, h101, h69, h43⟩ := nb_no (HE.out hlt)
        have b46 : ((s[j].toNat : Int) == 46) = false := by simpa using h46
        have b45 : ((s[j].toNat : Int) == 45) = false := by simpa using h45
        have b101 : ((s[j].toNat : Int) == 101) = false := by simpa using h101
        have b69 : ((s[j].toNat : Int) == 69) = false := by simpa using h69
        have b43 : ((s[j].toNat : Int) == 43) = false := by simpa using h43
        clear h46 h45 h101 h69 h43
        rcases H2.out hlt with h2 | ⟨rfl, h2⟩
        · have k0 : ((j : Int) == 0) = false := by simp; omega
          have k1 : ((j : Int) == 1) = false := by simp; omega
          clear H2 HE HA
          rcases hb with hb | hb
          all_goals
            go_wp2
            go_ret3
            exact ⟨rfl, rfl⟩
        · obtain ⟨h3, h4⟩ := h2 (by omega)
          have q45 : ((s[0].toNat : Int) == 45) = false := by simpa using h3
          have q43 : ((s[0].toNat : Int) == 43) = false := by simpa using h4
          have hp : 0 < s.size := by omega
          clear H2 HE HA h3 h4 h2
          rcases hb with hb | hb
          all_goals
            go_wp2
            go_ret3
            exact ⟨rfl, rfl⟩
    · obtain rfl : j = s.size := by omega
      obtain rfl : k = s.size := by omega
      clear H2 HE HA
      go_wp2
      go_ret3
      exact ⟨by first | rfl | rw [extract_none] | rw [extract_all, extract_none], rfl⟩

/-- It ends with an error that is not nil, no text ahead of it and the text behind. -/
def Err3 (x y : ByteArray) (w : World) (e : Ending) (w' : World) : Prop := ∃ (t : TypeId) (a : Addr), e = .returned (.tuple #[.string x, .string y, .iface t (.pointer (some a))]) ∧ Below w.heap.size w w'

set_option maxHeartbeats 4000000 in
set_option maxRecDepth 100000 in
theorem raw_no (s : ByteArray) (w : World) (hp : 0 < s.size) (hm : s.size ≤ 9223372036854775807) (hn : nb s[0] = false) (hz : low (s[0].toNat : Int) ≠ 105 ∧ low (s[0].toNat : Int) ≠ 110) :
    Calls Try.prog 26 #[.string s] w (Err3 ⟨#[]⟩ s w) := by
  have HZ := Aside0.mk hz
  clear hz
  obtain ⟨hb, h46, h45, h101, h69, h43⟩ := nb_no hn
  have b46 : ((s[0].toNat : Int) == 46) = false := by simpa using h46
  have b45 : ((s[0].toNat : Int) == 45) = false := by simpa using h45
  have b101 : ((s[0].toNat : Int) == 101) = false := by simpa using h101
  have b69 : ((s[0].toNat : Int) == 69) = false := by simpa using h69
  have b43 : ((s[0].toNat : Int) == 43) = false := by simpa using h43
  clear h46 h45 h101 h69 h43 hn
  go_enter Try.func26, Try.ntmps26
  go_wp2
  go_loop [0, 11] (fun v i => i = .int .i64 0 ∧ v = .string s) (fun _ i => 0)
  case atStart => exact ⟨rfl, rfl⟩
  case round =>
    obtain ⟨rfl, rfl⟩ := hrel
    by_cases h3 : 3 ≤ s.size
    · have e3 : (s.extract 0 3).size = 3 := by simp; omega
      have E3 := Aside0.mk e3
      have E0 : Aside0 (∀ h : 0 < (s.extract 0 3).size, (s.extract 0 3)[0] = s[0]) := ⟨fun h => by simp [ByteArray.getElem_eq_getElem_data]⟩
      clear e3
      rcases hb with hb | hb
      all_goals
        go_wp2_with fail
        refine (zzFold_no (s.extract 0 3) ⟨#[105, 110, 102]⟩ _ (by rw [E3.out]; rfl) (by have := E3.out; omega) (by decide) (by have := E3.out; omega) (by rw [E0.out]; exact HZ.out.1)).mono ?_
        rintro e w' ⟨rfl, rfl⟩
        go_wp2_with fail
        refine (zzFold_no (s.extract 0 3) ⟨#[110, 97, 110]⟩ _ (by rw [E3.out]; rfl) (by have := E3.out; omega) (by decide) (by have := E3.out; omega) (by rw [E0.out]; exact HZ.out.2)).mono ?_
        rintro e w' ⟨rfl, rfl⟩
        go_wp2
        go_ret3
        unfold Err3
        exact ⟨_, _, rfl, (Below.refl _ _).alloc (Nat.le_refl _) _⟩
    · rcases hb with hb | hb
      all_goals
        go_wp2
        go_ret3
        unfold Err3
        exact ⟨_, _, rfl, (Below.refl _ _).alloc (Nat.le_refl _) _⟩

theorem door_err3 {s x y : ByteArray} {w : World} (h : Calls Try.prog 26 #[.string s] w (Err3 x y w)) : Calls Try.prog 19 #[.string s] w (Err3 x y w) := by
  have H := Aside0.mk h
  clear h
  go_enter Try.func19, Try.ntmps19
  go_wp2_with (go_at_call 26; refine H.out.mono ?_; rintro e w1 ⟨t, a, rfl, hb⟩)
  go_ret3
  exact ⟨t, a, rfl, hb⟩
theorem calls_err3 {s x y : ByteArray} {w : World} (h : Calls Try.prog 26 #[.string s] w (Err3 x y w)) :
    Calls Try.prog 12 #[.string s] w fun e w' => e = .returned (.tuple #[.string ⟨#[]⟩, .string ⟨#[]⟩, .bool false]) ∧ Below w.heap.size w w' := by
  have H := Aside0.mk (door_err3 h)
  clear h
  go_enter Try.func12, Try.ntmps12
  go_wp2_with (go_at_call 19; refine H.out.mono ?_; rintro e w1 ⟨t, a, rfl, hb⟩)
  go_ret3
  exact ⟨rfl, hb⟩
theorem door_yes3 {s x y : ByteArray} {w : World} (h : Calls Try.prog 26 #[.string s] w fun e w' => e = .returned (.tuple #[.string x, .string y, .nilIface]) ∧ w = w') :
    Calls Try.prog 19 #[.string s] w fun e w' => e = .returned (.tuple #[.string x, .string y, .nilIface]) ∧ w = w' := by
  have H := Aside0.mk h
  clear h
  go_enter Try.func19, Try.ntmps19
  go_wp2_with (go_at_call 26; refine H.out.mono ?_; rintro e w1 ⟨rfl, rfl⟩)
  go_ret3
  exact ⟨rfl, rfl⟩
theorem calls_yes3 {s x y : ByteArray} {w : World} (h : Calls Try.prog 26 #[.string s] w fun e w' => e = .returned (.tuple #[.string x, .string y, .nilIface]) ∧ w = w') :
    Calls Try.prog 12 #[.string s] w fun e w' => e = .returned (.tuple #[.string x, .string y, .bool true]) ∧ Below w.heap.size w w' := by
  have H := Aside0.mk (door_yes3 h)
  clear h
  go_enter Try.func12, Try.ntmps12
  go_wp2_with (go_at_call 19; refine H.out.mono ?_; rintro e w1 ⟨rfl, rfl⟩)
  go_ret3
  exact ⟨rfl, Below.refl _ _⟩

/-- What impl.FjRawNumber answers (none: of these texts nothing is told). -/
def impl_FjRawNumber.f (s : ByteArray) : Option (ByteArray × ByteArray × Bool) :=
  if s.size ≤ 9223372036854775807 then
    (if nlen s = s.size then some (s.extract 0 (nlen s), s.extract (nlen s) s.size, true)
    else if nlen s = 0 then (if low (bt s 0) = 105 ∨ low (bt s 0) = 110 then none else some (⟨#[]⟩, ⟨#[]⟩, false))
    else if nlen s = 1 ∧ (bt s 0 = 45 ∨ bt s 0 = 43) then none
    else some (s.extract 0 (nlen s), s.extract (nlen s) s.size, true))
  else none
theorem takeWhile_head (l : List UInt8) : (l.takeWhile nb).length ≤ l.length ∧ (∀ j (h : j < l.length), j < (l.takeWhile nb).length → nb l[j] = true) ∧ ∀ h : (l.takeWhile nb).length < l.length, nb l[(l.takeWhile nb).length] = false := by
  induction l with
  | nil => simp
  | cons c l ih =>
    cases hc : nb c with
    | false => simp [hc]
    | true =>
      obtain ⟨h1, h2, h3⟩ := ih
      simp only [List.takeWhile_cons, hc, if_true, List.length_cons]
      refine ⟨by omega, fun j h hj => ?_, fun h => ?_⟩
      · cases j with
        | zero => exact hc
        | succ j => exact h2 j (by simpa using h) (by omega)
      · simpa using h3 (by omega)
theorem head_nlen (s : ByteArray) : Head s (nlen s) := by
  obtain ⟨h1, h2, h3⟩ := takeWhile_head s.data.toList
  have e : s.data.toList.length = s.size := by simp
  refine ⟨by unfold nlen; omega, fun j h hj => ?_, fun h => ?_⟩
  · exact h2 j (by omega) hj
  · exact h3 (by unfold nlen at h; omega)
theorem impl_FjRawNumber.calls (a0 : ByteArray) (r1 r2 : ByteArray) (r3 : Bool) (w : World) (h : impl_FjRawNumber.f a0 = some (r1, r2, r3)) :
    Calls Try.prog 12 #[.string a0] w fun e w' => e = .returned (.tuple #[.string r1, .string r2, .bool r3]) ∧ Below w.heap.size w w' := by
  unfold impl_FjRawNumber.f at h
  have hh := head_nlen a0
  by_cases hm : a0.size ≤ 9223372036854775807
  · rw [if_pos hm] at h
    by_cases h1 : nlen a0 = a0.size
    · rw [if_pos h1] at h
      simp only [Option.some.injEq, Prod.mk.injEq] at h
      obtain ⟨rfl, rfl, rfl⟩ := h
      exact calls_yes3 (raw_yes a0 (nlen a0) w hh hm (fun h => by omega))
    · rw [if_neg h1] at h
      have hlt : nlen a0 < a0.size := by have := hh.1; omega
      by_cases h2 : nlen a0 = 0
      · rw [if_pos h2] at h
        by_cases h3 : low (bt a0 0) = 105 ∨ low (bt a0 0) = 110
        · rw [if_pos h3] at h; cases h
        · rw [if_neg h3] at h
          simp only [Option.some.injEq, Prod.mk.injEq] at h
          obtain ⟨rfl, rfl, rfl⟩ := h
          have hp : 0 < a0.size := by omega
          have hb : bt a0 0 = (a0[0].toNat : Int) := by unfold bt; rw [dif_pos (by simpa using hp)]; rfl
          rw [hb] at h3
          have hn := hh.2.2 hlt
          simp only [h2] at hn
          exact calls_err3 (raw_no a0 w hp hm hn ⟨fun h => h3 (.inl h), fun h => h3 (.inr h)⟩)
      · rw [if_neg h2] at h
        by_cases h3 : nlen a0 = 1 ∧ (bt a0 0 = 45 ∨ bt a0 0 = 43)
        · rw [if_pos h3] at h; cases h
        · rw [if_neg h3] at h
          simp only [Option.some.injEq, Prod.mk.injEq] at h
          obtain ⟨rfl, rfl, rfl⟩ := h
          refine calls_yes3 (raw_yes a0 (nlen a0) w hh hm (fun _ => ?_))
          by_cases h4 : nlen a0 = 1
          · refine .inr ⟨h4, fun hp => ?_⟩
            have hb : bt a0 0 = (a0[0].toNat : Int) := by unfold bt; rw [dif_pos (by simpa using hp)]; rfl
            rw [hb] at h3
            exact ⟨fun h => h3 ⟨h4, .inl h⟩, fun h => h3 ⟨h4, .inr h⟩⟩
          · exact .inl (by omega)
  · rw [if_neg hm] at h; cases h
end Go.Proofs.Ytklllibhgalnfaa.G
