/- The reference's reading of one character. -/
import Derived.Test.YtmomjgkbimeeoaaGvSz
import Derived.Test.YtmomjgkbimeeoaaGvP
import Derived.Lib.MapLaws
import Derived.Lib.TrimUEq
import Derived.Lib.TrimAscii
namespace Go.Proofs.Ytmomjgkbimeeoaa.G
set_option linter.unusedVariables false
set_option linter.unusedSimpArgs false
open Go.RowKit Go.Proofs.YtmomjgkbimeeoaaW.PrintWords
open Go.Lib (decodeL decodeL_N decodeN)

/-- Three answers. -/
def Chr3 (d : Nat × Nat) (w : World) (e : Ending) (w' : World) : Prop := e = .returned (.tuple #[.int .i64 d.1, .int .i64 d.2, .bool (!(d.1 == 65533 && d.2 == 1))]) ∧ w = w'
theorem chr3_no (w : World) : Chr3 (65533, 1) w (.returned (.tuple #[.int .i64 65533, .int .i64 1, .bool false])) w := ⟨rfl, rfl⟩
theorem chr3_one (V : Nat) (w : World) (h : V < 128) : Chr3 (V, 1) w (.returned (.tuple #[.int .i64 V, .int .i64 1, .bool true])) w := by
  have : (V == 65533) = false := by simp; omega
  exact ⟨by simp [this], rfl⟩
theorem chr3_more (V L : Nat) (w : World) (h : 2 ≤ L) : Chr3 (V, L) w (.returned (.tuple #[.int .i64 V, .int .i64 L, .bool true])) w := by
  have : (L == 1) = false := by simp; omega
  exact ⟨by simp [this], rfl⟩
theorem getD_at (s : ByteArray) (j : Nat) (h : j < s.size) : s.data.toList.getD j 0 = s[j] := by
  have hd : j < s.data.size := h
  simp [List.getD_eq_getElem?_getD, Array.getElem?_eq_getElem hd]; rfl
theorem dec_at (s : ByteArray) (m : Nat) : decodeL (s.data.toList.drop m) = decodeN (s.size - m) (s.data.toList.getD m 0).toNat (s.data.toList.getD (m + 1) 0).toNat (s.data.toList.getD (m + 2) 0).toNat (s.data.toList.getD (m + 3) 0).toNat := by
  rw [decodeL_N, List.length_drop]
  simp only [Go.Lib.getD_dropU, Nat.add_zero]
  rfl
theorem dN2no {n b0 b1 b2 b3 : Nat} (h : b0 / 32 = 6) (hn : ¬(1 < n ∧ b1 / 64 = 2)) : decodeN n b0 b1 b2 b3 = (65533, 1) := by
  unfold decodeN; rw [if_neg (by omega), if_neg (fun h => hn h.2), if_neg (by omega), if_neg (by omega)]
theorem dN3no {n b0 b1 b2 b3 : Nat} (h : b0 / 16 = 14) (hn : ¬((1 < n ∧ b1 / 64 = 2) ∧ 2 < n ∧ b2 / 64 = 2)) : decodeN n b0 b1 b2 b3 = (65533, 1) := by
  unfold decodeN; rw [if_neg (by omega), if_neg (by omega), if_neg (fun h => hn h.2), if_neg (by omega)]
theorem dN4no {n b0 b1 b2 b3 : Nat} (h : b0 / 8 = 30) (hn : ¬((1 < n ∧ b1 / 64 = 2) ∧ (2 < n ∧ b2 / 64 = 2) ∧ 3 < n ∧ b3 / 64 = 2)) : decodeN n b0 b1 b2 b3 = (65533, 1) := by
  unfold decodeN; rw [if_neg (by omega), if_neg (by omega), if_neg (by omega), if_neg (fun h => hn h.2)]
theorem dN0 {n b0 b1 b2 b3 : Nat} (h : 128 ≤ b0) (h2 : b0 < 194 ∨ 245 ≤ b0) : decodeN n b0 b1 b2 b3 = (65533, 1) := by
  unfold decodeN
  rw [if_neg (by omega)]
  repeat' split
  all_goals first | rfl | (exfalso; omega)
/-- What is read of a longer character behind its first byte. -/
def accF (s : ByteArray) (m : Nat) (c : Int) : Nat → Int
  | 0 => c
  | k + 1 => accF s m c k * 64 + ((s.data.toList.getD (m + (k + 1)) 0).toNat : Int) - 128
def contF (s : ByteArray) (m k : Nat) : Prop := ∀ j, 1 ≤ j → j < k → 128 ≤ (s.data.toList.getD (m + j) 0).toNat ∧ (s.data.toList.getD (m + j) 0).toNat ≤ 191
theorem acc_bound {s : ByteArray} {m : Nat} {c : Int} (h0 : 0 ≤ c) (h1 : c ≤ 31) : ∀ k, k ≤ 3 → contF s m (k + 1) → 0 ≤ accF s m c k ∧ accF s m c k ≤ 100000000
  | 0, _, _ => ⟨h0, by simp only [accF]; omega⟩
  | 1, _, h => by have a1 := h 1 (by omega) (by omega); simp only [accF, Nat.zero_add, Nat.reduceAdd]; omega
  | 2, _, h => by have a1 := h 1 (by omega) (by omega); have a2 := h 2 (by omega) (by omega); simp only [accF, Nat.zero_add, Nat.reduceAdd]; omega
  | 3, _, h => by have a1 := h 1 (by omega) (by omega); have a2 := h 2 (by omega) (by omega); have a3 := h 3 (by omega) (by omega); simp only [accF, Nat.zero_add, Nat.reduceAdd]; omega
/-- The number is a character's. -/
def okV (least : Int) (V : Int) : Prop := ¬ V < least ∧ ¬ 1114111 < V ∧ ¬ (55296 ≤ V ∧ V ≤ 56319) ∧ ¬ (56320 ≤ V ∧ V ≤ 57343)

set_option maxHeartbeats 8000000 in
set_option maxRecDepth 100000 in
theorem high_no (c : Int) (w : World) (h : c < 55296 ∨ 56319 < c) : Calls Try.prog 29 #[.int .i64 c] w fun e w' => e = .returned (.bool false) ∧ w = w' := by
  rcases h with h | h
  all_goals
    go_enter Try.func29, Try.ntmps29
    go_wp2
    all_goals go_ret
    all_goals first | exact ⟨rfl, rfl⟩ | (refine ⟨?_, rfl⟩; simp; omega) | (exfalso; omega)
set_option maxHeartbeats 8000000 in
set_option maxRecDepth 100000 in
theorem high_yes (c : Int) (w : World) (h1 : 55296 ≤ c) (h2 : c ≤ 56319) : Calls Try.prog 29 #[.int .i64 c] w fun e w' => e = .returned (.bool true) ∧ w = w' := by
  go_enter Try.func29, Try.ntmps29
  go_wp2
  all_goals go_ret
  all_goals first | exact ⟨rfl, rfl⟩ | (exfalso; omega)

set_option maxHeartbeats 8000000 in
set_option maxRecDepth 100000 in
theorem low_no (c : Int) (w : World) (h : c < 56320 ∨ 57343 < c) : Calls Try.prog 30 #[.int .i64 c] w fun e w' => e = .returned (.bool false) ∧ w = w' := by
  rcases h with h | h
  all_goals
    go_enter Try.func30, Try.ntmps30
    go_wp2
    all_goals go_ret
    all_goals first | exact ⟨rfl, rfl⟩ | (refine ⟨?_, rfl⟩; simp; omega) | (exfalso; omega)
set_option maxHeartbeats 8000000 in
set_option maxRecDepth 100000 in
theorem low_yes (c : Int) (w : World) (h1 : 56320 ≤ c) (h2 : c ≤ 57343) : Calls Try.prog 30 #[.int .i64 c] w fun e w' => e = .returned (.bool true) ∧ w = w' := by
  go_enter Try.func30, Try.ntmps30
  go_wp2
  all_goals go_ret
  all_goals first | exact ⟨rfl, rfl⟩ | (exfalso; omega)

set_option maxHeartbeats 8000000 in
set_option maxRecDepth 100000 in
theorem chr_low (s : ByteArray) (m : Nat) (w : World) (hm : m < s.size) (hs : s.size ≤ 140737488351232) (h2 : (s[m].toNat : Int) < 128) :
    Calls Try.prog 23 #[.string s, .int .i64 m] w (Chr3 (decodeL (s.data.toList.drop m)) w) := by
  rw [dec_at, getD_at s m hm, dN1 (by omega)]
  go_enter Try.func23, Try.ntmps23
  go_wp2
  all_goals go_ret3
  all_goals exact chr3_one _ w (by omega)

set_option maxHeartbeats 8000000 in
set_option maxRecDepth 100000 in
theorem chr_bad (s : ByteArray) (m : Nat) (w : World) (hm : m < s.size) (hs : s.size ≤ 140737488351232) (h1 : (128 : Int) ≤ (s[m].toNat : Int)) (h2 : (s[m].toNat : Int) < 194 ∨ (245 : Int) ≤ (s[m].toNat : Int)) (h3 : (s[m].toNat : Int) ≤ 255) :
    Calls Try.prog 23 #[.string s, .int .i64 m] w (Chr3 (decodeL (s.data.toList.drop m)) w) := by
  rw [dec_at, getD_at s m hm, dN0 (by omega) (by omega)]
  rcases h2 with h2 | h2
  all_goals
    go_enter Try.func23, Try.ntmps23
    go_wp2
    all_goals go_ret3
    all_goals exact chr3_no w

set_option maxHeartbeats 8000000 in
set_option maxRecDepth 100000 in
theorem walk_two (s : ByteArray) (m : Nat) (w : World) (hm : m < s.size) (hs : s.size ≤ 140737488351232) (h1 : (194 : Int) ≤ (s[m].toNat : Int)) (h2 : (s[m].toNat : Int) ≤ 223)
    (D : Nat × Nat) (hlen : ¬ m + 1 < s.size → D = (65533, 1)) (hbad : ∀ k, 1 ≤ k → k ≤ 1 → m + 1 < s.size → ¬(128 ≤ (s.data.toList.getD (m + k) 0).toNat ∧ (s.data.toList.getD (m + k) 0).toNat ≤ 191) → D = (65533, 1))
    (hno : m + 1 < s.size → contF s m 2 → ¬ okV 128 (accF s m ((s[m].toNat : Int) - 192) 1) → D = (65533, 1))
    (hok : m + 1 < s.size → contF s m 2 → okV 128 (accF s m ((s[m].toNat : Int) - 192) 1) → ∃ V : Nat, D = (V, 2) ∧ accF s m ((s[m].toNat : Int) - 192) 1 = V) :
    Calls Try.prog 23 #[.string s, .int .i64 m] w (Chr3 D w) := by
  have H1 := Aside0.mk hlen
  have H2 := Aside0.mk hbad
  have H3 := Aside0.mk hno
  have H4 := Aside0.mk hok
  clear hlen hbad hno hok
  by_cases hl : m + 1 < s.size
  · have hl' : ¬ ((s.size : Int) - (m : Int) ≤ 1) := by omega
    obtain ⟨c0, hc0⟩ : ∃ c0 : Int, (s[m].toNat : Int) - 192 = c0 := ⟨_, rfl⟩
    have hc0a : 0 ≤ c0 := by omega
    have hc0b : c0 ≤ 31 := by omega
    rw [hc0] at H3 H4
    go_enter Try.func23, Try.ntmps23
    go_wp2_with fail
    go_loop [7, 10, 11] (fun cv kv bv => ∃ (k : Nat) (c : Int), 1 ≤ k ∧ k ≤ 2 ∧ cv = .int .i64 c ∧ kv = .int .i64 k ∧ Aside0 (c = accF s m c0 (k - 1)) ∧ Aside0 (contF s m k)) (fun _ kv _ => 2 - (intOf kv).toNat)
    case atStart => exact ⟨1, c0, Nat.le_refl _, by omega, by first | rfl | rw [hc0], rfl, ⟨rfl⟩, ⟨fun j h1 h2 => by omega⟩⟩
    case round =>
      obtain ⟨k, c, hk1, hk2, rfl, rfl, HC, HK⟩ := hrel
      have hcb := acc_bound hc0a hc0b (k - 1) (by omega) (by rw [Nat.sub_add_cancel hk1]; exact HK.out)
      rw [← HC.out] at hcb
      obtain ⟨hca, hcz⟩ := hcb
      by_cases hkm : k ≤ 1
      · have hkl : m + k < s.size := by omega
        obtain ⟨b, hb⟩ : ∃ b : Int, (s[m + k].toNat : Int) = b := ⟨_, rfl⟩
        have hwb : wrap64 b = b := by have := s[m + k].toNat_lt; unfold wrap64; omega
        have HBb : Aside0 (b = ((s.data.toList.getD (m + k) 0).toNat : Int)) := ⟨by rw [getD_at s (m + k) hkl]; exact hb.symm⟩
        by_cases hcont : 128 ≤ b ∧ b ≤ 191
        · obtain ⟨hb1, hb2⟩ := hcont
          go_wp2_with fail
          go_round
          case rel => exact ⟨k + 1, c * 64 + b - 128, by omega, by omega, by go_num, by go_num, ⟨by
            obtain ⟨j, rfl⟩ : ∃ j, k = j + 1 := ⟨k - 1, by omega⟩
            rw [Nat.add_sub_cancel, accF, ← HBb.out]
            have := HC.out
            rw [Nat.add_sub_cancel] at this
            rw [← this]⟩, ⟨fun j h1 h2 => by
            rcases Nat.lt_or_ge j k with h3 | h3
            · exact HK.out j h1 h3
            · obtain rfl : j = k := by omega
              have := HBb.out
              omega⟩⟩
          case measure => simp [intOf]; omega
        · have HD := H2.out k hk1 hkm hl (fun h => hcont (by have := HBb.out; omega))
          have hcase : b < 128 ∨ 191 < b := by omega
          clear hcont
          subst HD
          rcases hcase with h9 | h9
          all_goals
            go_wp2_with fail
            go_ret3
            exact chr3_no w
      · obtain rfl : k = 2 := by omega
        have hVe : c = accF s m c0 1 := HC.out
        by_cases ho : okV 128 c
        · obtain ⟨V, hD, hV⟩ := H4.out hl HK.out (by rw [← hVe]; exact ho)
          rw [← hVe] at hV
          subst hD
          obtain ⟨o1, o2, o3, o4⟩ := ho
          have o5 : 128 ≤ c := by omega
          have o6 : c ≤ 1114111 := by omega
          have o7 : c < 55296 ∨ 57343 < c := by omega
          clear o1 o2 o3 o4 hVe HC
          subst hV
          rcases o7 with o7 | o7
          all_goals
            have C1 := Aside0.mk (fun W => high_no (V : Int) W (by omega))
            have C2 := Aside0.mk (fun W => low_no (V : Int) W (by omega))
            have d1 : decide ((V : Int) < 128) = false := decide_eq_false (by omega)
            have d2 : decide ((1114111 : Int) < (V : Int)) = false := decide_eq_false (by omega)
            go_wp2_with (first | (go_at_call 29; refine (C1.out _).mono ?_; rintro e w9 ⟨rfl, rfl⟩) | (go_at_call 30; refine (C2.out _).mono ?_; rintro e w9 ⟨rfl, rfl⟩))
            all_goals go_ret3
            all_goals exact chr3_more V 2 w (by omega)
        · have HD := H3.out hl HK.out (by rw [← hVe]; exact ho)
          subst HD
          have hcase : c < 128 ∨ (128 ≤ c ∧ 1114111 < c) ∨ (128 ≤ c ∧ c ≤ 1114111 ∧ 55296 ≤ c ∧ c ≤ 56319) ∨ (128 ≤ c ∧ c ≤ 1114111 ∧ 56320 ≤ c ∧ c ≤ 57343) := by unfold okV at ho; omega
          clear ho hVe HC
          rcases hcase with h9 | ⟨h9, h8⟩ | ⟨h9, h8, h7, h6⟩ | ⟨h9, h8, h7, h6⟩
          · go_wp2_with fail
            all_goals go_ret3
            all_goals exact chr3_no w
          · go_wp2_with fail
            all_goals go_ret3
            all_goals exact chr3_no w
          · have C1 := Aside0.mk (fun W => high_yes c W h7 h6)
            go_wp2_with (go_at_call 29; refine (C1.out _).mono ?_; rintro e w9 ⟨rfl, rfl⟩)
            all_goals go_ret3
            all_goals exact chr3_no w
          · have C1 := Aside0.mk (fun W => high_no c W (by omega))
            have C2 := Aside0.mk (fun W => low_yes c W h7 h6)
            have d1 : decide (c < 128) = false := decide_eq_false (by omega)
            have d2 : decide ((1114111 : Int) < c) = false := decide_eq_false (by omega)
            go_wp2_with (first | (go_at_call 29; refine (C1.out _).mono ?_; rintro e w9 ⟨rfl, rfl⟩) | (go_at_call 30; refine (C2.out _).mono ?_; rintro e w9 ⟨rfl, rfl⟩))
            all_goals go_ret3
            all_goals exact chr3_no w
  · have HD := H1.out hl
    have hl' : (s.size : Int) - (m : Int) ≤ 1 := by omega
    subst HD
    go_enter Try.func23, Try.ntmps23
    go_wp2_with fail
    all_goals go_ret3
    all_goals exact chr3_no w

set_option maxHeartbeats 8000000 in
set_option maxRecDepth 100000 in
theorem walk_three (s : ByteArray) (m : Nat) (w : World) (hm : m < s.size) (hs : s.size ≤ 140737488351232) (h1 : (224 : Int) ≤ (s[m].toNat : Int)) (h2 : (s[m].toNat : Int) ≤ 239)
    (D : Nat × Nat) (hlen : ¬ m + 2 < s.size → D = (65533, 1)) (hbad : ∀ k, 1 ≤ k → k ≤ 2 → m + 2 < s.size → ¬(128 ≤ (s.data.toList.getD (m + k) 0).toNat ∧ (s.data.toList.getD (m + k) 0).toNat ≤ 191) → D = (65533, 1))
    (hno : m + 2 < s.size → contF s m 3 → ¬ okV 2048 (accF s m ((s[m].toNat : Int) - 224) 2) → D = (65533, 1))
    (hok : m + 2 < s.size → contF s m 3 → okV 2048 (accF s m ((s[m].toNat : Int) - 224) 2) → ∃ V : Nat, D = (V, 3) ∧ accF s m ((s[m].toNat : Int) - 224) 2 = V) :
    Calls Try.prog 23 #[.string s, .int .i64 m] w (Chr3 D w) := by
  have H1 := Aside0.mk hlen
  have H2 := Aside0.mk hbad
  have H3 := Aside0.mk hno
  have H4 := Aside0.mk hok
  clear hlen hbad hno hok
  by_cases hl : m + 2 < s.size
  · have hl' : ¬ ((s.size : Int) - (m : Int) ≤ 2) := by omega
    obtain ⟨c0, hc0⟩ : ∃ c0 : Int, (s[m].toNat : Int) - 224 = c0 := ⟨_, rfl⟩
    have hc0a : 0 ≤ c0 := by omega
    have hc0b : c0 ≤ 31 := by omega
    rw [hc0] at H3 H4
    go_enter Try.func23, Try.ntmps23
    go_wp2_with fail
    go_loop [7, 10, 11] (fun cv kv bv => ∃ (k : Nat) (c : Int), 1 ≤ k ∧ k ≤ 3 ∧ cv = .int .i64 c ∧ kv = .int .i64 k ∧ Aside0 (c = accF s m c0 (k - 1)) ∧ Aside0 (contF s m k)) (fun _ kv _ => 3 - (intOf kv).toNat)
    case atStart => exact ⟨1, c0, Nat.le_refl _, by omega, by first | rfl | rw [hc0], rfl, ⟨rfl⟩, ⟨fun j h1 h2 => by omega⟩⟩
    case round =>
      obtain ⟨k, c, hk1, hk2, rfl, rfl, HC, HK⟩ := hrel
      have hcb := acc_bound hc0a hc0b (k - 1) (by omega) (by rw [Nat.sub_add_cancel hk1]; exact HK.out)
      rw [← HC.out] at hcb
      obtain ⟨hca, hcz⟩ := hcb
      by_cases hkm : k ≤ 2
      · have hkl : m + k < s.size := by omega
        obtain ⟨b, hb⟩ : ∃ b : Int, (s[m + k].toNat : Int) = b := ⟨_, rfl⟩
        have hwb : wrap64 b = b := by have := s[m + k].toNat_lt; unfold wrap64; omega
        have HBb : Aside0 (b = ((s.data.toList.getD (m + k) 0).toNat : Int)) := ⟨by rw [getD_at s (m + k) hkl]; exact hb.symm⟩
        by_cases hcont : 128 ≤ b ∧ b ≤ 191
        · obtain ⟨hb1, hb2⟩ := hcont
          go_wp2_with fail
          go_round
          case rel => exact ⟨k + 1, c * 64 + b - 128, by omega, by omega, by go_num, by go_num, ⟨by
            obtain ⟨j, rfl⟩ : ∃ j, k = j + 1 := ⟨k - 1, by omega⟩
            rw [Nat.add_sub_cancel, accF, ← HBb.out]
            have := HC.out
            rw [Nat.add_sub_cancel] at this
            rw [← this]⟩, ⟨fun j h1 h2 => by
            rcases Nat.lt_or_ge j k with h3 | h3
            · exact HK.out j h1 h3
            · obtain rfl : j = k := by omega
              have := HBb.out
              omega⟩⟩
          case measure => simp [intOf]; omega
        · have HD := H2.out k hk1 hkm hl (fun h => hcont (by have := HBb.out; omega))
          have hcase : b < 128 ∨ 191 < b := by omega
          clear hcont
          subst HD
          rcases hcase with h9 | h9
          all_goals
            go_wp2_with fail
            go_ret3
            exact chr3_no w
      · obtain rfl : k = 3 := by omega
        have hVe : c = accF s m c0 2 := HC.out
        by_cases ho : okV 2048 c
        · obtain ⟨V, hD, hV⟩ := H4.out hl HK.out (by rw [← hVe]; exact ho)
          rw [← hVe] at hV
          subst hD
          obtain ⟨o1, o2, o3, o4⟩ := ho
          have o5 : 2048 ≤ c := by omega
          have o6 : c ≤ 1114111 := by omega
          have o7 : c < 55296 ∨ 57343 < c := by omega
          clear o1 o2 o3 o4 hVe HC
          subst hV
          rcases o7 with o7 | o7
          all_goals
            have C1 := Aside0.mk (fun W => high_no (V : Int) W (by omega))
            have C2 := Aside0.mk (fun W => low_no (V : Int) W (by omega))
            have d1 : decide ((V : Int) < 2048) = false := decide_eq_false (by omega)
            have d2 : decide ((1114111 : Int) < (V : Int)) = false := decide_eq_false (by omega)
            go_wp2_with (first | (go_at_call 29; refine (C1.out _).mono ?_; rintro e w9 ⟨rfl, rfl⟩) | (go_at_call 30; refine (C2.out _).mono ?_; rintro e w9 ⟨rfl, rfl⟩))
            all_goals go_ret3
            all_goals exact chr3_more V 3 w (by omega)
        · have HD := H3.out hl HK.out (by rw [← hVe]; exact ho)
          subst HD
          have hcase : c < 2048 ∨ (2048 ≤ c ∧ 1114111 < c) ∨ (2048 ≤ c ∧ c ≤ 1114111 ∧ 55296 ≤ c ∧ c ≤ 56319) ∨ (2048 ≤ c ∧ c ≤ 1114111 ∧ 56320 ≤ c ∧ c ≤ 57343) := by unfold okV at ho; omega
          clear ho hVe HC
          rcases hcase with h9 | ⟨h9, h8⟩ | ⟨h9, h8, h7, h6⟩ | ⟨h9, h8, h7, h6⟩
          · go_wp2_with fail
            all_goals go_ret3
            all_goals exact chr3_no w
          · go_wp2_with fail
            all_goals go_ret3
            all_goals exact chr3_no w
          · have C1 := Aside0.mk (fun W => high_yes c W h7 h6)
            go_wp2_with (go_at_call 29; refine (C1.out _).mono ?_; rintro e w9 ⟨rfl, rfl⟩)
            all_goals go_ret3
            all_goals exact chr3_no w
          · have C1 := Aside0.mk (fun W => high_no c W (by omega))
            have C2 := Aside0.mk (fun W => low_yes c W h7 h6)
            have d1 : decide (c < 2048) = false := decide_eq_false (by omega)
            have d2 : decide ((1114111 : Int) < c) = false := decide_eq_false (by omega)
            go_wp2_with (first | (go_at_call 29; refine (C1.out _).mono ?_; rintro e w9 ⟨rfl, rfl⟩) | (go_at_call 30; refine (C2.out _).mono ?_; rintro e w9 ⟨rfl, rfl⟩))
            all_goals go_ret3
            all_goals exact chr3_no w
  · have HD := H1.out hl
    have hl' : (s.size : Int) - (m : Int) ≤ 2 := by omega
    subst HD
    go_enter Try.func23, Try.ntmps23
    go_wp2_with fail
    all_goals go_ret3
    all_goals exact chr3_no w

set_option maxHeartbeats 8000000 in
set_option maxRecDepth 100000 in
theorem walk_four (s : ByteArray) (m : Nat) (w : World) (hm : m < s.size) (hs : s.size ≤ 140737488351232) (h1 : (240 : Int) ≤ (s[m].toNat : Int)) (h2 : (s[m].toNat : Int) ≤ 244)
    (D : Nat × Nat) (hlen : ¬ m + 3 < s.size → D = (65533, 1)) (hbad : ∀ k, 1 ≤ k → k ≤ 3 → m + 3 < s.size → ¬(128 ≤ (s.data.toList.getD (m + k) 0).toNat ∧ (s.data.toList.getD (m + k) 0).toNat ≤ 191) → D = (65533, 1))
    (hno : m + 3 < s.size → contF s m 4 → ¬ okV 65536 (accF s m ((s[m].toNat : Int) - 240) 3) → D = (65533, 1))
    (hok : m + 3 < s.size → contF s m 4 → okV 65536 (accF s m ((s[m].toNat : Int) - 240) 3) → ∃ V : Nat, D = (V, 4) ∧ accF s m ((s[m].toNat : Int) - 240) 3 = V) :
    Calls Try.prog 23 #[.string s, .int .i64 m] w (Chr3 D w) := by
  have H1 := Aside0.mk hlen
  have H2 := Aside0.mk hbad
  have H3 := Aside0.mk hno
  have H4 := Aside0.mk hok
  clear hlen hbad hno hok
  by_cases hl : m + 3 < s.size
  · have hl' : ¬ ((s.size : Int) - (m : Int) ≤ 3) := by omega
    obtain ⟨c0, hc0⟩ : ∃ c0 : Int, (s[m].toNat : Int) - 240 = c0 := ⟨_, rfl⟩
    have hc0a : 0 ≤ c0 := by omega
    have hc0b : c0 ≤ 31 := by omega
    rw [hc0] at H3 H4
    go_enter Try.func23, Try.ntmps23
    go_wp2_with fail
    go_loop [7, 10, 11] (fun cv kv bv => ∃ (k : Nat) (c : Int), 1 ≤ k ∧ k ≤ 4 ∧ cv = .int .i64 c ∧ kv = .int .i64 k ∧ Aside0 (c = accF s m c0 (k - 1)) ∧ Aside0 (contF s m k)) (fun _ kv _ => 4 - (intOf kv).toNat)
    case atStart => exact ⟨1, c0, Nat.le_refl _, by omega, by first | rfl | rw [hc0], rfl, ⟨rfl⟩, ⟨fun j h1 h2 => by omega⟩⟩
    case round =>
      obtain ⟨k, c, hk1, hk2, rfl, rfl, HC, HK⟩ := hrel
      have hcb := acc_bound hc0a hc0b (k - 1) (by omega) (by rw [Nat.sub_add_cancel hk1]; exact HK.out)
      rw [← HC.out] at hcb
      obtain ⟨hca, hcz⟩ := hcb
      by_cases hkm : k ≤ 3
      · have hkl : m + k < s.size := by omega
        obtain ⟨b, hb⟩ : ∃ b : Int, (s[m + k].toNat : Int) = b := ⟨_, rfl⟩
        have hwb : wrap64 b = b := by have := s[m + k].toNat_lt; unfold wrap64; omega
        have HBb : Aside0 (b = ((s.data.toList.getD (m + k) 0).toNat : Int)) := ⟨by rw [getD_at s (m + k) hkl]; exact hb.symm⟩
        by_cases hcont : 128 ≤ b ∧ b ≤ 191
        · obtain ⟨hb1, hb2⟩ := hcont
          go_wp2_with fail
          go_round
          case rel => exact ⟨k + 1, c * 64 + b - 128, by omega, by omega, by go_num, by go_num, ⟨by
            obtain ⟨j, rfl⟩ : ∃ j, k = j + 1 := ⟨k - 1, by omega⟩
            rw [Nat.add_sub_cancel, accF, ← HBb.out]
            have := HC.out
            rw [Nat.add_sub_cancel] at this
            rw [← this]⟩, ⟨fun j h1 h2 => by
            rcases Nat.lt_or_ge j k with h3 | h3
            · exact HK.out j h1 h3
            · obtain rfl : j = k := by omega
              have := HBb.out
              omega⟩⟩
          case measure => simp [intOf]; omega
        · have HD := H2.out k hk1 hkm hl (fun h => hcont (by have := HBb.out; omega))
          have hcase : b < 128 ∨ 191 < b := by omega
          clear hcont
          subst HD
          rcases hcase with h9 | h9
          all_goals
            go_wp2_with fail
            go_ret3
            exact chr3_no w
      · obtain rfl : k = 4 := by omega
        have hVe : c = accF s m c0 3 := HC.out
        by_cases ho : okV 65536 c
        · obtain ⟨V, hD, hV⟩ := H4.out hl HK.out (by rw [← hVe]; exact ho)
          rw [← hVe] at hV
          subst hD
          obtain ⟨o1, o2, o3, o4⟩ := ho
          have o5 : 65536 ≤ c := by omega
          have o6 : c ≤ 1114111 := by omega
          have o7 : c < 55296 ∨ 57343 < c := by omega
          clear o1 o2 o3 o4 hVe HC
          subst hV
          rcases o7 with o7 | o7
          all_goals
            have C1 := Aside0.mk (fun W => high_no (V : Int) W (by omega))
            have C2 := Aside0.mk (fun W => low_no (V : Int) W (by omega))
            have d1 : decide ((V : Int) < 65536) = false := decide_eq_false (by omega)
            have d2 : decide ((1114111 : Int) < (V : Int)) = false := decide_eq_false (by omega)
            go_wp2_with (first | (go_at_call 29; refine (C1.out _).mono ?_; rintro e w9 ⟨rfl, rfl⟩) | (go_at_call 30; refine (C2.out _).mono ?_; rintro e w9 ⟨rfl, rfl⟩))
            all_goals go_ret3
            all_goals exact chr3_more V 4 w (by omega)
        · have HD := H3.out hl HK.out (by rw [← hVe]; exact ho)
          subst HD
          have hcase : c < 65536 ∨ (65536 ≤ c ∧ 1114111 < c) ∨ (65536 ≤ c ∧ c ≤ 1114111 ∧ 55296 ≤ c ∧ c ≤ 56319) ∨ (65536 ≤ c ∧ c ≤ 1114111 ∧ 56320 ≤ c ∧ c ≤ 57343) := by unfold okV at ho; omega
          clear ho hVe HC
          rcases hcase with h9 | ⟨h9, h8⟩ | ⟨h9, h8, h7, h6⟩ | ⟨h9, h8, h7, h6⟩
          · go_wp2_with fail
            all_goals go_ret3
            all_goals exact chr3_no w
          · go_wp2_with fail
            all_goals go_ret3
            all_goals exact chr3_no w
          · have C1 := Aside0.mk (fun W => high_yes c W h7 h6)
            go_wp2_with (go_at_call 29; refine (C1.out _).mono ?_; rintro e w9 ⟨rfl, rfl⟩)
            all_goals go_ret3
            all_goals exact chr3_no w
          · have C1 := Aside0.mk (fun W => high_no c W (by omega))
            have C2 := Aside0.mk (fun W => low_yes c W h7 h6)
            have d1 : decide (c < 65536) = false := decide_eq_false (by omega)
            have d2 : decide ((1114111 : Int) < c) = false := decide_eq_false (by omega)
            go_wp2_with (first | (go_at_call 29; refine (C1.out _).mono ?_; rintro e w9 ⟨rfl, rfl⟩) | (go_at_call 30; refine (C2.out _).mono ?_; rintro e w9 ⟨rfl, rfl⟩))
            all_goals go_ret3
            all_goals exact chr3_no w
  · have HD := H1.out hl
    have hl' : (s.size : Int) - (m : Int) ≤ 3 := by omega
    subst HD
    go_enter Try.func23, Try.ntmps23
    go_wp2_with fail
    all_goals go_ret3
    all_goals exact chr3_no w

theorem chr_two (s : ByteArray) (m : Nat) (w : World) (hm : m < s.size) (hs : s.size ≤ 140737488351232) (h1 : (194 : Int) ≤ (s[m].toNat : Int)) (h2 : (s[m].toNat : Int) ≤ 223) :
    Calls Try.prog 23 #[.string s, .int .i64 m] w (Chr3 (decodeL (s.data.toList.drop m)) w) := by
  have e0 := getD_at s m hm
  refine walk_two s m w hm hs h1 h2 _ (fun h => ?_) (fun k k1 k2 h hc => ?_) (fun h hc ho => ?_) (fun h hc ho => ?_)
  · rw [dec_at, e0, dN2no (by omega) (fun h' => by omega)]
  · obtain rfl : k = 1 := by omega
    rw [dec_at, e0, dN2no (by omega) (fun h' => by omega)]
  · have a1 := hc 1 (by omega) (by omega)
    simp only [accF, okV, Nat.zero_add, Nat.reduceAdd] at ho
    omega
  · have a1 := hc 1 (by omega) (by omega)
    simp only [accF, okV, Nat.zero_add, Nat.reduceAdd] at ho ⊢
    exact ⟨_, by rw [dec_at, e0, dN2 (by omega) (by omega) (by omega), if_pos (by omega)], by omega⟩
theorem chr_three (s : ByteArray) (m : Nat) (w : World) (hm : m < s.size) (hs : s.size ≤ 140737488351232) (h1 : (224 : Int) ≤ (s[m].toNat : Int)) (h2 : (s[m].toNat : Int) ≤ 239) :
    Calls Try.prog 23 #[.string s, .int .i64 m] w (Chr3 (decodeL (s.data.toList.drop m)) w) := by
  have e0 := getD_at s m hm
  refine walk_three s m w hm hs h1 h2 _ (fun h => ?_) (fun k k1 k2 h hc => ?_) (fun h hc ho => ?_) (fun h hc ho => ?_)
  · rw [dec_at, e0, dN3no (by omega) (fun h' => by omega)]
  · rcases (show k = 1 ∨ k = 2 by omega) with rfl | rfl
    all_goals rw [dec_at, e0, dN3no (by omega) (fun h' => by omega)]
  · have a1 := hc 1 (by omega) (by omega)
    have a2 := hc 2 (by omega) (by omega)
    simp only [accF, okV, Nat.zero_add, Nat.reduceAdd] at ho
    rw [dec_at, e0, dN3 (by omega) (by omega) (by omega) (by omega), if_neg (by omega)]
  · have a1 := hc 1 (by omega) (by omega)
    have a2 := hc 2 (by omega) (by omega)
    simp only [accF, okV, Nat.zero_add, Nat.reduceAdd] at ho ⊢
    exact ⟨_, by rw [dec_at, e0, dN3 (by omega) (by omega) (by omega) (by omega), if_pos (by omega)], by omega⟩
theorem chr_four (s : ByteArray) (m : Nat) (w : World) (hm : m < s.size) (hs : s.size ≤ 140737488351232) (h1 : (240 : Int) ≤ (s[m].toNat : Int)) (h2 : (s[m].toNat : Int) ≤ 244) :
    Calls Try.prog 23 #[.string s, .int .i64 m] w (Chr3 (decodeL (s.data.toList.drop m)) w) := by
  have e0 := getD_at s m hm
  refine walk_four s m w hm hs h1 h2 _ (fun h => ?_) (fun k k1 k2 h hc => ?_) (fun h hc ho => ?_) (fun h hc ho => ?_)
  · rw [dec_at, e0, dN4no (by omega) (fun h' => by omega)]
  · rcases (show k = 1 ∨ k = 2 ∨ k = 3 by omega) with rfl | rfl | rfl
    all_goals rw [dec_at, e0, dN4no (by omega) (fun h' => by omega)]
  · have a1 := hc 1 (by omega) (by omega)
    have a2 := hc 2 (by omega) (by omega)
    have a3 := hc 3 (by omega) (by omega)
    simp only [accF, okV, Nat.zero_add, Nat.reduceAdd] at ho
    rw [dec_at, e0, dN4 (by omega) (by omega) (by omega) (by omega) (by omega), if_neg (by omega)]
  · have a1 := hc 1 (by omega) (by omega)
    have a2 := hc 2 (by omega) (by omega)
    have a3 := hc 3 (by omega) (by omega)
    simp only [accF, okV, Nat.zero_add, Nat.reduceAdd] at ho ⊢
    exact ⟨_, by rw [dec_at, e0, dN4 (by omega) (by omega) (by omega) (by omega) (by omega), if_pos (by omega)], by omega⟩
theorem chr_calls (s : ByteArray) (m : Nat) (w : World) (hm : m < s.size) (hs : s.size ≤ 140737488351232) : Calls Try.prog 23 #[.string s, .int .i64 m] w (Chr3 (decodeL (s.data.toList.drop m)) w) := by
  have hb := s[m].toNat_lt
  by_cases h1 : (s[m].toNat : Int) < 128
  · exact chr_low s m w hm hs h1
  · by_cases h2 : (s[m].toNat : Int) < 194
    · exact chr_bad s m w hm hs (by omega) (.inl h2) (by omega)
    · by_cases h3 : (s[m].toNat : Int) ≤ 223
      · exact chr_two s m w hm hs (by omega) h3
      · by_cases h4 : (s[m].toNat : Int) ≤ 239
        · exact chr_three s m w hm hs (by omega) h4
        · by_cases h5 : (s[m].toNat : Int) ≤ 244
          · exact chr_four s m w hm hs (by omega) h5
          · exact chr_bad s m w hm hs (by omega) (.inr (by omega)) (by omega)
end Go.Proofs.Ytmomjgkbimeeoaa.G
