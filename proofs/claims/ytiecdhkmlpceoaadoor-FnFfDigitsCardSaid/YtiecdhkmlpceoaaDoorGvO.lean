/- fastfloat's readers of whole numbers, walked on decimal digits. -/
import Derived.Test.YtiecdhkmlpceoaaDoorGvN
import Derived.Test.YtiecdhkmlpceoaaDoorGvSi
namespace Go.Proofs.YtiecdhkmlpceoaaDoor.G
set_option linter.unusedVariables false
set_option linter.unusedSimpArgs false
open Go.RowKit Go.Proofs.YtiecdhkmlpceoaaDoorW.PrintWords

def Str (t : ByteArray) (w : World) (e : Ending) (w' : World) : Prop := e = .returned (.string t) ∧ Below w.heap.size w w'
theorem dg_step (m : Nat) (out : List Int) (h : ¬ m < 10) : dgI m ++ out = dgI (m / 10) ++ (48 + (m : Int) % 10) :: out := by
  rw [dgI_big h, List.append_assoc]; rfl
theorem dg_last (m : Nat) (out : List Int) (h : m < 10) : dgI m ++ out = (48 + (m : Int) % 10) :: out := by
  rw [dgI_small h, show (m : Int) % 10 = m by omega]; rfl
set_option maxHeartbeats 4000000 in
set_option maxRecDepth 100000 in
theorem digits_calls (n : Nat) (hn : n < 18446744073709551616) (w : World) : Calls Tryd.prog 17 #[.int .u64 n] w (Str (dgS n) w) := by
  have HL := Aside0.mk (dgI_len20 hn)
  go_enter Tryd.func17, Tryd.ntmps17
  go_wp2_with fail
  go_loopw [0, 3] (fun nv v wr => ∃ (m : Nat) (A : Option Addr) (c : Nat) (out : List Int), m ≤ n ∧ nv = .int .u64 m ∧ v = .slice A out.length c ∧ Aside0 (OutB wr A c out) ∧ Aside0 (Below w.heap.size w wr) ∧ Aside0 (dgI n = dgI m ++ out)) (fun nv _ _ => (intOf nv).toNat)
  case atStart => exact ⟨n, none, 0, [], Nat.le_refl _, rfl, rfl, ⟨.inl ⟨rfl, rfl, rfl⟩⟩, ⟨Below.refl _ _⟩, ⟨by simp⟩⟩
  case round =>
    obtain ⟨m, A, c, out, hmn, rfl, rfl, HO, HB, HF⟩ := hrel
    have hol : Aside0 (out.length ≤ 64) := ⟨by have h1 := HL.out; rw [HF.out, List.length_append] at h1; omega⟩
    by_cases h10 : m < 10
    · have hq : ((m : Int) / 10 == 0) = true := by simp; omega
      have HQ : Aside0 (dgI n = (48 + (m : Int) % 10) :: out) := ⟨by rw [HF.out, dg_last m out h10]⟩
      go_wp2_with (at_builtin; refine app_front rfl _ _ rfl HO hol rfl rfl ?_; intro A1 c1 w1 o1 HO1 HD1 HB1; have hcv := HD1.out.string (by rw [HO1.out]; simp); clear HO)
      go_ret
      unfold Str
      have e : dgS n = strOfNums o1 := by unfold dgS; rw [HQ.out, HO1.out]
      rw [e]
      exact ⟨rfl, below_step HB.out HB1.out⟩
    · have hq : ((m : Int) / 10 == 0) = false := by simp; omega
      have HQ : Aside0 (dgI n = dgI (m / 10) ++ (48 + (m : Int) % 10) :: out) := ⟨by rw [HF.out, dg_step m out h10]⟩
      go_wp2_with (at_builtin; refine app_front rfl _ _ rfl HO hol rfl rfl ?_; intro A1 c1 w1 o1 HO1 HD1 HB1; clear HO)
      go_roundw
      case rel => exact ⟨m / 10, _, _, _, by omega, by go_num, rfl, HD1, ⟨below_step HB.out HB1.out⟩, ⟨by rw [HQ.out, HO1.out]⟩⟩
      case measure => simp [intOf]; omega
/-! ### the readers -/
theorem bytes_at (s : ByteArray) (j : Nat) (h : j < s.size) : (bytesOf s).getD j 0 = (s[j].toNat : Int) := by
  have hl : j < s.data.toList.length := by simpa using h
  have hd : j < s.data.size := h
  have : (bytesOf s).getD j 0 = ((s.data[j]).toNat : Int) := by unfold bytesOf; simp [List.getD_eq_getElem?_getD, Array.getElem?_eq_getElem hd]
  rw [this]; rfl
/-- The digit at a place, and what is spelled behind it. -/
theorem dg_at {xs : List Int} {m : Nat} (hd : IsDg xs) (hm : m < xs.length) : 48 ≤ xs.getD m 0 ∧ xs.getD m 0 ≤ 57 ∧ valN 0 (xs.take (m + 1)) = valN 0 (xs.take m) * 10 + (xs.getD m 0 - 48).toNat := by
  have e : xs.getD m 0 = xs[m] := by simp [List.getD_eq_getElem?_getD, hm]
  have h1 := hd xs[m] (List.getElem_mem hm)
  rw [e]
  refine ⟨h1.1, h1.2, ?_⟩
  rw [List.take_add_one, List.getElem?_eq_getElem hm, valN_append]; rfl
theorem val_lt {xs : List Int} {m : Nat} (hd : IsDg xs) (hm : m ≤ 18) : valN 0 (xs.take m) < 1000000000000000000 := by
  have h := valN_lt (xs.take m) 0 (fun c hc => hd c (List.mem_of_mem_take hc))
  have h2 : (xs.take m).length ≤ 18 := by rw [List.length_take]; omega
  have h3 : 10 ^ (xs.take m).length ≤ 10 ^ 18 := Nat.pow_le_pow_right (by decide) h2
  omega
theorem val_lt17 {xs : List Int} {m : Nat} (hd : IsDg xs) (hm : m ≤ 17) : valN 0 (xs.take m) < 100000000000000000 := by
  have h := valN_lt (xs.take m) 0 (fun c hc => hd c (List.mem_of_mem_take hc))
  have h2 : (xs.take m).length ≤ 17 := by rw [List.length_take]; omega
  have h3 : 10 ^ (xs.take m).length ≤ 10 ^ 17 := Nat.pow_le_pow_right (by decide) h2
  omega
def UAns (n : Nat) (w : World) (e : Ending) (w' : World) : Prop := e = .returned (.tuple #[.int .u64 n, .nilIface]) ∧ Below w.heap.size w w'
theorem below_or {w w' : World} {t : ByteArray} (h : w' = w ∨ w' = Lib.bytesWorld w 5 t) : Below w.heap.size w w' := by
  rcases h with rfl | rfl
  · exact Below.refl _ _
  · exact bytes_below (Below.refl _ _) (Nat.le_refl _) 5 t
theorem below_or2 {w w' : World} (h : w' = w ∨ ∃ t, w' = Lib.bytesWorld w 5 t) : Below w.heap.size w w' := by
  rcases h with rfl | ⟨t, rfl⟩
  · exact Below.refl _ _
  · exact bytes_below (Below.refl _ _) (Nat.le_refl _) 5 t
set_option maxHeartbeats 4000000 in
set_option maxRecDepth 100000 in
theorem u64_calls (s : ByteArray) (n : Nat) (hs : bytesOf s = dgI n) (hn : n < 18446744073709551616) (w : World) : Calls Tryd.prog 34 #[.string s] w (UAns n w) := by
  have HS := Aside0.mk hs
  have hl := bytesOf_length s
  rw [hs] at hl
  have h20 : s.size ≤ 20 := by rw [← hl]; exact dgI_len20 hn
  have h0 : 0 < s.size := by rw [← hl]; exact dgI_pos n
  have HL := Aside0.mk hl
  have hz : IntKind.u64.wrap (s.size : Int) = s.size := by rw [IntKind.wrap_u64]; omega
  have C := Aside0.mk (fun W => Tryd.strconv_ParseUint_10_at64_ok s (by omega) n (parseU_ok hs hn) W)
  clear hs hl
  go_enter Tryd.func34, Tryd.ntmps34
  go_wp2_with fail
  go_loop [4, 5, 7, 8] (fun i d x y => ∃ m d' : Nat, m ≤ s.size ∧ m ≤ 18 ∧ i = .int .u64 m ∧ d = .int .u64 d' ∧ Aside0 (d' = valN 0 ((dgI n).take m))) (fun i _ _ _ => s.size - (intOf i).toNat)
  case atStart => exact ⟨0, 0, by omega, by omega, rfl, rfl, ⟨by simp [valN]⟩⟩
  case round =>
    obtain ⟨m, d, hm, hm18, rfl, rfl, HD⟩ := hrel
    by_cases hlt : m < s.size
    · have hx := dg_at (dgI_dg n) (m := m) (by rw [HL.out]; exact hlt)
      rw [← HS.out, bytes_at s m hlt, HS.out, ← HD.out] at hx
      obtain ⟨hx1, hx2, hx3⟩ := hx
      have HV := Aside0.mk hx3
      have hdl : d < 1000000000000000000 := by rw [HD.out]; exact val_lt (dgI_dg n) hm18
      have hw1 : IntKind.u64.wrap ((d : Int) * 10) = (d : Int) * 10 := by rw [IntKind.wrap_u64]; omega
      have hw2 : IntKind.u64.wrap ((d : Int) * 10 + ((s[m].toNat : Int) - 48)) = (d : Int) * 10 + ((s[m].toNat : Int) - 48) := by rw [IntKind.wrap_u64]; omega
      clear hx3
      by_cases h18 : 18 < m + 1
      · go_wp2_with (go_at_call 59; refine (C.out _).mono ?_; rintro e w1 ⟨rfl, hw⟩)
        go_ret2
        unfold UAns
        exact ⟨rfl, below_or hw⟩
      · go_wp2_with fail
        go_round
        case rel => exact ⟨m + 1, d * 10 + ((s[m].toNat : Int) - 48).toNat, by omega, by omega, by go_num, by go_num, ⟨HV.out.symm⟩⟩
        case measure => simp [intOf]; omega
    · have HQ : d = n := by rw [HD.out, List.take_of_length_le (by rw [HL.out]; omega), dgI_val]
      subst HQ
      have hm0 : 0 < m := by omega
      go_wp2_with fail
      go_ret2
      unfold UAns
      exact ⟨rfl, Below.refl _ _⟩
def UBst (n : Nat) (w : World) (e : Ending) (w' : World) : Prop := e = .returned (.int .u64 n) ∧ Below w.heap.size w w'
set_option maxHeartbeats 4000000 in
set_option maxRecDepth 100000 in
theorem u64b_calls (s : ByteArray) (n : Nat) (hs : bytesOf s = dgI n) (hn : n < 18446744073709551616) (w : World) : Calls Tryd.prog 36 #[.string s] w (UBst n w) := by
  have HS := Aside0.mk hs
  have hl := bytesOf_length s
  rw [hs] at hl
  have h20 : s.size ≤ 20 := by rw [← hl]; exact dgI_len20 hn
  have h0 : 0 < s.size := by rw [← hl]; exact dgI_pos n
  have HL := Aside0.mk hl
  have hz : IntKind.u64.wrap (s.size : Int) = s.size := by rw [IntKind.wrap_u64]; omega
  have C := Aside0.mk (fun W => Tryd.strconv_ParseUint_10_at64_ok s (by omega) n (parseU_ok hs hn) W)
  clear hs hl
  go_enter Tryd.func36, Tryd.ntmps36
  go_wp2_with fail
  go_loop [3, 4, 6, 7] (fun i d x y => ∃ m d' : Nat, m ≤ s.size ∧ m ≤ 18 ∧ i = .int .u64 m ∧ d = .int .u64 d' ∧ Aside0 (d' = valN 0 ((dgI n).take m))) (fun i _ _ _ => s.size - (intOf i).toNat)
  case atStart => exact ⟨0, 0, by omega, by omega, rfl, rfl, ⟨by simp [valN]⟩⟩
  case round =>
    obtain ⟨m, d, hm, hm18, rfl, rfl, HD⟩ := hrel
    by_cases hlt : m < s.size
    · have hx := dg_at (dgI_dg n) (m := m) (by rw [HL.out]; exact hlt)
      rw [← HS.out, bytes_at s m hlt, HS.out, ← HD.out] at hx
      obtain ⟨hx1, hx2, hx3⟩ := hx
      have HV := Aside0.mk hx3
      have hdl : d < 1000000000000000000 := by rw [HD.out]; exact val_lt (dgI_dg n) hm18
      have hw1 : IntKind.u64.wrap ((d : Int) * 10) = (d : Int) * 10 := by rw [IntKind.wrap_u64]; omega
      have hw2 : IntKind.u64.wrap ((d : Int) * 10 + ((s[m].toNat : Int) - 48)) = (d : Int) * 10 + ((s[m].toNat : Int) - 48) := by rw [IntKind.wrap_u64]; omega
      clear hx3
      by_cases h18 : 18 < m + 1
      · go_wp2_with (go_at_call 59; refine (C.out _).mono ?_; rintro e w1 ⟨rfl, hw⟩)
        go_ret
        unfold UBst
        exact ⟨rfl, below_or hw⟩
      · go_wp2_with fail
        go_round
        case rel => exact ⟨m + 1, d * 10 + ((s[m].toNat : Int) - 48).toNat, by omega, by omega, by go_num, by go_num, ⟨HV.out.symm⟩⟩
        case measure => simp [intOf]; omega
    · have HQ : d = n := by rw [HD.out, List.take_of_length_le (by rw [HL.out]; omega), dgI_val]
      subst HQ
      have hm0 : 0 < m := by omega
      go_wp2_with fail
      go_ret
      unfold UBst
      exact ⟨rfl, Below.refl _ _⟩
theorem cons_at (s : ByteArray) (l : List Int) (hs : bytesOf s = 45 :: l) (m : Nat) (h : m + 1 < s.size) : l.getD m 0 = (s[m + 1].toNat : Int) := by
  rw [← bytes_at s (m + 1) h, hs]; simp [List.getD_eq_getElem?_getD]
def IAns (v : Int) (w : World) (e : Ending) (w' : World) : Prop := e = .returned (.tuple #[.int .i64 v, .nilIface]) ∧ Below w.heap.size w w'
def IBst (v : Int) (w : World) (e : Ending) (w' : World) : Prop := e = .returned (.int .i64 v) ∧ Below w.heap.size w w'
set_option maxHeartbeats 4000000 in
set_option maxRecDepth 100000 in
theorem i64_pos (s : ByteArray) (n : Nat) (hs : bytesOf s = dgI n) (hn : n < 9223372036854775808) (w : World) : Calls Tryd.prog 35 #[.string s] w (IAns (n : Int) w) := by
  have HS := Aside0.mk hs
  have hl := bytesOf_length s
  rw [hs] at hl
  have h20 : s.size ≤ 21 := by have := dgI_len20 (n := n) (by omega); omega
  have h0 : 0 < s.size := by have := dgI_pos n; omega
  have HL := Aside0.mk hl
  have hz : IntKind.u64.wrap (s.size : Int) = s.size := by rw [IntKind.wrap_u64]; omega
  have C := Aside0.mk (fun W => Tryd.strconv_ParseInt_10_at64_ok s (by omega) (n : Int) (parseI_pos hs hn) W)
  have hm0 : ((s[0].toNat : Int) == 45) = false := by
    have h1 := dgI_dg n ((dgI n).getD 0 0) (by have := dgI_pos n; simp [List.getD_eq_getElem?_getD, this])
    rw [← hs, bytes_at s 0 h0] at h1
    simp; omega
  clear hs hl
  go_enter Tryd.func35, Tryd.ntmps35
  go_wp2_with fail
  go_loop [4, 6, 8, 9] (fun i d x y => ∃ m d' : Nat, m ≤ s.size ∧ m ≤ 18 ∧ i = .int .u64 (m : Nat) ∧ d = .int .i64 d' ∧ Aside0 (d' = valN 0 ((dgI n).take m))) (fun i _ _ _ => s.size - (intOf i).toNat)
  case atStart => exact ⟨0, 0, by omega, by omega, rfl, rfl, ⟨by simp [valN]⟩⟩
  case round =>
    obtain ⟨m, d, hm, hm18, rfl, rfl, HD⟩ := hrel
    by_cases hlt : m < s.size
    · have hx := dg_at (dgI_dg n) (m := m) (by have := HL.out; omega)
      rw [← HS.out, bytes_at s m hlt, HS.out, ← HD.out] at hx
      obtain ⟨hx1, hx2, hx3⟩ := hx
      have HV := Aside0.mk hx3
      have hdl : d < 1000000000000000000 := by rw [HD.out]; exact val_lt (dgI_dg n) (by omega)
      clear hx3
      by_cases h18 : 18 < m + 1
      · go_wp2_with (go_at_call 60; refine (C.out _).mono ?_; rintro e w1 ⟨rfl, hw⟩)
        go_ret2
        unfold IAns
        exact ⟨rfl, below_or2 hw⟩
      · have hdl2 : d < 100000000000000000 := by rw [HD.out]; exact val_lt17 (dgI_dg n) (by omega)
        have hw1 : wrap64 ((d : Int) * 10) = (d : Int) * 10 := by unfold wrap64; omega
        have hw2 : wrap64 ((d : Int) * 10 + ((s[m].toNat : Int) - 48)) = (d : Int) * 10 + ((s[m].toNat : Int) - 48) := by unfold wrap64; omega
        go_wp2_with fail
        go_round
        case rel => exact ⟨m + 1, d * 10 + ((s[m].toNat : Int) - 48).toNat, by omega, by omega, by go_num, by go_num, ⟨HV.out.symm⟩⟩
        case measure => simp [intOf]; omega
    · have HQ : d = n := by rw [HD.out, List.take_of_length_le (by have := HL.out; omega), dgI_val]
      subst HQ
      have hm1 : 0 < m := by omega
      have hdl : d < 1000000000000000000000 := by omega
      go_wp2_with fail
      go_ret2
      unfold IAns
      exact ⟨rfl, Below.refl _ _⟩
set_option maxHeartbeats 4000000 in
set_option maxRecDepth 100000 in
theorem i64_neg (s : ByteArray) (n : Nat) (hs : bytesOf s = 45 :: dgI n) (hn : n ≤ 9223372036854775808) (w : World) : Calls Tryd.prog 35 #[.string s] w (IAns (-(n : Int)) w) := by
  have HS := Aside0.mk hs
  have hl := bytesOf_length s
  rw [hs] at hl
  rw [List.length_cons] at hl
  have h20 : s.size ≤ 21 := by have := dgI_len20 (n := n) (by omega); omega
  have h0 : 1 < s.size := by have := dgI_pos n; omega
  have HL := Aside0.mk hl
  have hz : IntKind.u64.wrap (s.size : Int) = s.size := by rw [IntKind.wrap_u64]; omega
  have C := Aside0.mk (fun W => Tryd.strconv_ParseInt_10_at64_ok s (by omega) (-(n : Int)) (parseI_neg hs hn) W)
  have hp : 0 < s.size := by omega
  have hm0 : (s[0].toNat : Int) = 45 := by rw [← bytes_at s 0 hp, hs]; rfl
  have hmb : ((s[0].toNat : Int) == 45) = true := by rw [hm0]; rfl
  clear hm0
  clear hs hl
  go_enter Tryd.func35, Tryd.ntmps35
  go_wp2_with fail
  go_loop [4, 6, 8, 9] (fun i d x y => ∃ m d' : Nat, m + 1 ≤ s.size ∧ m + 1 ≤ 18 ∧ i = .int .u64 (m + 1 : Nat) ∧ d = .int .i64 d' ∧ Aside0 (d' = valN 0 ((dgI n).take m))) (fun i _ _ _ => s.size - (intOf i).toNat)
  case atStart => exact ⟨0, 0, by omega, by omega, by go_num, rfl, ⟨by simp [valN]⟩⟩
  case round =>
    obtain ⟨m, d, hm, hm18, rfl, rfl, HD⟩ := hrel
    obtain ⟨k, hk⟩ : ∃ k, k = m + 1 := ⟨_, rfl⟩
    rw [← hk] at hm hm18
    have HK := Aside0.mk hk
    rw [← hk]
    clear hk
    by_cases hlt : k < s.size
    · have hx := dg_at (dgI_dg n) (m := m) (by have := HL.out; have := HK.out; omega)
      have hx0 : (dgI n).getD m 0 = (s[k].toNat : Int) := by have hk := HK.out; subst hk; exact cons_at s _ HS.out m hlt
      rw [hx0, ← HD.out] at hx
      clear hx0
      obtain ⟨hx1, hx2, hx3⟩ := hx
      have HV := Aside0.mk hx3
      have hdl : d < 1000000000000000000 := by rw [HD.out]; exact val_lt (dgI_dg n) (by have := HK.out; omega)
      clear hx3
      by_cases h18 : 18 < k + 1
      · go_wp2_with (go_at_call 60; refine (C.out _).mono ?_; rintro e w1 ⟨rfl, hw⟩)
        go_ret2
        unfold IAns
        exact ⟨rfl, below_or2 hw⟩
      · have hdl2 : d < 100000000000000000 := by rw [HD.out]; exact val_lt17 (dgI_dg n) (by have := HK.out; omega)
        have hw1 : wrap64 ((d : Int) * 10) = (d : Int) * 10 := by unfold wrap64; omega
        have hw2 : wrap64 ((d : Int) * 10 + ((s[k].toNat : Int) - 48)) = (d : Int) * 10 + ((s[k].toNat : Int) - 48) := by unfold wrap64; omega
        go_wp2_with fail
        go_round
        case rel => exact ⟨m + 1, d * 10 + ((s[k].toNat : Int) - 48).toNat, by have := HK.out; omega, by have := HK.out; omega, by have := HK.out; go_num, by go_num, ⟨HV.out.symm⟩⟩
        case measure => simp [intOf]; omega
    · have HQ : d = n := by rw [HD.out, List.take_of_length_le (by have := HL.out; have := HK.out; omega), dgI_val]
      subst HQ
      have hm1 : 1 < k := by omega
      have hdl : d < 1000000000000000000000 := by omega
      go_wp2_with fail
      go_ret2
      unfold IAns
      exact ⟨rfl, Below.refl _ _⟩
set_option maxHeartbeats 4000000 in
set_option maxRecDepth 100000 in
theorem i64b_pos (s : ByteArray) (n : Nat) (hs : bytesOf s = dgI n) (hn : n < 9223372036854775808) (w : World) : Calls Tryd.prog 37 #[.string s] w (IBst (n : Int) w) := by
  have HS := Aside0.mk hs
  have hl := bytesOf_length s
  rw [hs] at hl
  have h20 : s.size ≤ 21 := by have := dgI_len20 (n := n) (by omega); omega
  have h0 : 0 < s.size := by have := dgI_pos n; omega
  have HL := Aside0.mk hl
  have hz : IntKind.u64.wrap (s.size : Int) = s.size := by rw [IntKind.wrap_u64]; omega
  have C := Aside0.mk (fun W => Tryd.strconv_ParseInt_10_at64_ok s (by omega) (n : Int) (parseI_pos hs hn) W)
  have hm0 : ((s[0].toNat : Int) == 45) = false := by
    have h1 := dgI_dg n ((dgI n).getD 0 0) (by have := dgI_pos n; simp [List.getD_eq_getElem?_getD, this])
    rw [← hs, bytes_at s 0 h0] at h1
    simp; omega
  clear hs hl
  go_enter Tryd.func37, Tryd.ntmps37
  go_wp2_with fail
  go_loop [3, 5, 7, 8] (fun i d x y => ∃ m d' : Nat, m ≤ s.size ∧ m ≤ 18 ∧ i = .int .u64 (m : Nat) ∧ d = .int .i64 d' ∧ Aside0 (d' = valN 0 ((dgI n).take m))) (fun i _ _ _ => s.size - (intOf i).toNat)
  case atStart => exact ⟨0, 0, by omega, by omega, rfl, rfl, ⟨by simp [valN]⟩⟩
  case round =>
    obtain ⟨m, d, hm, hm18, rfl, rfl, HD⟩ := hrel
    by_cases hlt : m < s.size
    · have hx := dg_at (dgI_dg n) (m := m) (by have := HL.out; omega)
      rw [← HS.out, bytes_at s m hlt, HS.out, ← HD.out] at hx
      obtain ⟨hx1, hx2, hx3⟩ := hx
      have HV := Aside0.mk hx3
      have hdl : d < 1000000000000000000 := by rw [HD.out]; exact val_lt (dgI_dg n) (by omega)
      clear hx3
      by_cases h18 : 18 < m + 1
      · go_wp2_with (go_at_call 60; refine (C.out _).mono ?_; rintro e w1 ⟨rfl, hw⟩)
        go_ret
        unfold IBst
        exact ⟨rfl, below_or2 hw⟩
      · have hdl2 : d < 100000000000000000 := by rw [HD.out]; exact val_lt17 (dgI_dg n) (by omega)
        have hw1 : wrap64 ((d : Int) * 10) = (d : Int) * 10 := by unfold wrap64; omega
        have hw2 : wrap64 ((d : Int) * 10 + ((s[m].toNat : Int) - 48)) = (d : Int) * 10 + ((s[m].toNat : Int) - 48) := by unfold wrap64; omega
        go_wp2_with fail
        go_round
        case rel => exact ⟨m + 1, d * 10 + ((s[m].toNat : Int) - 48).toNat, by omega, by omega, by go_num, by go_num, ⟨HV.out.symm⟩⟩
        case measure => simp [intOf]; omega
    · have HQ : d = n := by rw [HD.out, List.take_of_length_le (by have := HL.out; omega), dgI_val]
      subst HQ
      have hm1 : 0 < m := by omega
      have hdl : d < 1000000000000000000000 := by omega
      go_wp2_with fail
      go_ret
      unfold IBst
      exact ⟨rfl, Below.refl _ _⟩
set_option maxHeartbeats 4000000 in
set_option maxRecDepth 100000 in
theorem i64b_neg (s : ByteArray) (n : Nat) (hs : bytesOf s = 45 :: dgI n) (hn : n ≤ 9223372036854775808) (w : World) : Calls Tryd.prog 37 #[.string s] w (IBst (-(n : Int)) w) := by
  have HS := Aside0.mk hs
  have hl := bytesOf_length s
  rw [hs] at hl
  rw [List.length_cons] at hl
  have h20 : s.size ≤ 21 := by have := dgI_len20 (n := n) (by omega); omega
  have h0 : 1 < s.size := by have := dgI_pos n; omega
  have HL := Aside0.mk hl
  have hz : IntKind.u64.wrap (s.size : Int) = s.size := by rw [IntKind.wrap_u64]; omega
  have C := Aside0.mk (fun W => Tryd.strconv_ParseInt_10_at64_ok s (by omega) (-(n : Int)) (parseI_neg hs hn) W)
  have hp : 0 < s.size := by omega
  have hm0 : (s[0].toNat : Int) = 45 := by rw [← bytes_at s 0 hp, hs]; rfl
  have hmb : ((s[0].toNat : Int) == 45) = true := by rw [hm0]; rfl
  clear hm0
  clear hs hl
  go_enter Tryd.func37, Tryd.ntmps37
  go_wp2_with fail
  go_loop [3, 5, 7, 8] (fun i d x y => ∃ m d' : Nat, m + 1 ≤ s.size ∧ m + 1 ≤ 18 ∧ i = .int .u64 (m + 1 : Nat) ∧ d = .int .i64 d' ∧ Aside0 (d' = valN 0 ((dgI n).take m))) (fun i _ _ _ => s.size - (intOf i).toNat)
  case atStart => exact ⟨0, 0, by omega, by omega, by go_num, rfl, ⟨by simp [valN]⟩⟩
  case round =>
    obtain ⟨m, d, hm, hm18, rfl, rfl, HD⟩ := hrel
    obtain ⟨k, hk⟩ : ∃ k, k = m + 1 := ⟨_, rfl⟩
    rw [← hk] at hm hm18
    have HK := Aside0.mk hk
    rw [← hk]
    clear hk
    by_cases hlt : k < s.size
    · have hx := dg_at (dgI_dg n) (m := m) (by have := HL.out; have := HK.out; omega)
      have hx0 : (dgI n).getD m 0 = (s[k].toNat : Int) := by have hk := HK.out; subst hk; exact cons_at s _ HS.out m hlt
      rw [hx0, ← HD.out] at hx
      clear hx0
      obtain ⟨hx1, hx2, hx3⟩ := hx
      have HV := Aside0.mk hx3
      have hdl : d < 1000000000000000000 := by rw [HD.out]; exact val_lt (dgI_dg n) (by have := HK.out; omega)
      clear hx3
      by_cases h18 : 18 < k + 1
      · go_wp2_with (go_at_call 60; refine (C.out _).mono ?_; rintro e w1 ⟨rfl, hw⟩)
        go_ret
        unfold IBst
        exact ⟨rfl, below_or2 hw⟩
      · have hdl2 : d < 100000000000000000 := by rw [HD.out]; exact val_lt17 (dgI_dg n) (by have := HK.out; omega)
        have hw1 : wrap64 ((d : Int) * 10) = (d : Int) * 10 := by unfold wrap64; omega
        have hw2 : wrap64 ((d : Int) * 10 + ((s[k].toNat : Int) - 48)) = (d : Int) * 10 + ((s[k].toNat : Int) - 48) := by unfold wrap64; omega
        go_wp2_with fail
        go_round
        case rel => exact ⟨m + 1, d * 10 + ((s[k].toNat : Int) - 48).toNat, by have := HK.out; omega, by have := HK.out; omega, by have := HK.out; go_num, by go_num, ⟨HV.out.symm⟩⟩
        case measure => simp [intOf]; omega
    · have HQ : d = n := by rw [HD.out, List.take_of_length_le (by have := HL.out; have := HK.out; omega), dgI_val]
      subst HQ
      have hm1 : 1 < k := by omega
      have hdl : d < 1000000000000000000000 := by omega
      go_wp2_with fail
      go_ret
      unfold IBst
      exact ⟨rfl, Below.refl _ _⟩
end Go.Proofs.YtiecdhkmlpceoaaDoor.G
