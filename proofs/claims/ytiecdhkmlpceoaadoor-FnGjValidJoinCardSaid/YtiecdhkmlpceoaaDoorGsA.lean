/- gjson's valid: colons, commas, words, hexadecimal digits. -/
import Derived.Test.YtiecdhkmlpceoaaDoorGvB
import Derived.Test.YtiecdhkmlpceoaaDoorGvJ
namespace Go.Proofs.YtiecdhkmlpceoaaDoor.G
set_option linter.unusedVariables false
set_option linter.unusedSimpArgs false
open Go.RowKit Go.Proofs.YtiecdhkmlpceoaaDoorW.PrintWords

/-- A place and whether: from place m so far. -/
def GA (o : Option Nat) (m : Nat) (w : World) (e : Ending) (w' : World) : Prop :=
  ∃ (p : Int) (b : Bool), e = .returned (.tuple #[.int .i64 p, .bool b]) ∧ w' = w ∧ Aside0 (match o with | none => b = false | some k => b = true ∧ p = ((m + k : Nat) : Int))
def colF (l : List Int) : Option Nat := if tk 58 (l.drop (bl l)) then some (bl l + 1) else none
theorem drop_at {xs : List Int} {k n : Nat} (hl : xs.length = n) (h : k < n) : xs.drop k = xs.getD k 0 :: xs.drop (k + 1) := drop_cons' xs k (by omega)
theorem drop_nil' {xs : List Int} {k n : Nat} (hl : xs.length = n) (h : ¬ k < n) : xs.drop k = [] := List.drop_eq_nil_of_le (by omega)
theorem bl_one {x : Int} {l : List Int} (h : isBl x = true) : bl (x :: l) = bl l + 1 := by rw [bl, if_pos h]
theorem bl_zero {x : Int} {l : List Int} (h : isBl x = false) : bl (x :: l) = 0 := by rw [bl, if_neg (by rw [h]; decide)]
theorem isBl_or' {x : Int} (h : isBl x = true) : x = 32 ∨ x = 9 ∨ x = 10 ∨ x = 13 := by
  unfold isBl at h
  simp only [Bool.or_eq_true, beq_iff_eq] at h
  omega
theorem isBl_not {x : Int} (h : isBl x = false) : (x == 32) = false ∧ (x == 9) = false ∧ (x == 10) = false ∧ (x == 13) = false := by
  unfold isBl at h
  simp only [Bool.or_eq_false_iff] at h
  exact ⟨h.1.1.1, h.1.1.2, h.1.2, h.2⟩
set_option maxHeartbeats 4000000 in
set_option maxRecDepth 100000 in
theorem colon_calls (h o n c m : Nat) (xs : List Int) (w : World) (H : RowAt w h o xs) (hl : xs.length = n) (hn : n ≤ 140737488351232) (hm : m ≤ n) :
    Calls Tryd.prog 103 #[.slice (some ⟨h, o, none⟩) n c, .int .i64 m] w (GA (colF (xs.drop m)) m w) := by
  have HH := Aside0.mk H
  have HL := Aside0.mk hl
  clear H hl
  go_enter Tryd.func103, Tryd.ntmps103
  go_wp2_with fail
  go_loop [1] (fun i => ∃ k : Nat, i = .int .i64 k ∧ m ≤ k ∧ k ≤ n ∧ Aside0 (k + bl (xs.drop k) = m + bl (xs.drop m))) (fun i => n - (intOf i).toNat)
  case atStart => exact ⟨m, rfl, Nat.le_refl _, hm, ⟨rfl⟩⟩
  case round =>
    obtain ⟨k, rfl, hmk, hk, HK⟩ := hrel
    by_cases hlt : k < n
    · obtain ⟨x, hx⟩ : ∃ x, x = xs.getD k 0 := ⟨_, rfl⟩
      have hc : w.cell? ⟨h, o + k, none⟩ = some (.int .u8 x) := by rw [hx]; exact HH.out.2 k (by rw [HL.out]; exact hlt)
      have hd := drop_at HL.out hlt
      rw [← hx] at hd
      have HD := Aside0.mk hd
      clear hx hd
      cases hb : isBl x with
      | true =>
        have HB := Aside0.mk hb
        rcases isBl_or' hb with rfl | rfl | rfl | rfl
        all_goals
          clear hb
          go_wp2
          go_round
          case rel => exact ⟨k + 1, by go_num, by omega, by omega, ⟨by have := HK.out; rw [HD.out, bl_one HB.out] at this; omega⟩⟩
          case measure => simp [intOf]; omega
      | false =>
        obtain ⟨b1, b2, b3, b4⟩ := isBl_not hb
        have hq : k = m + bl (xs.drop m) := by have := HK.out; rw [HD.out, bl_zero hb] at this; omega
        have HQ := Aside0.mk hq
        clear hb hq
        by_cases h58 : x = 58
        · subst h58
          go_wp2
          go_ret2
          refine ⟨_, true, rfl, rfl, ⟨?_⟩⟩
          unfold colF
          rw [List.drop_drop, ← HQ.out, HD.out]
          exact ⟨rfl, by have := HQ.out; omega⟩
        · have b5 : (x == 58) = false := by simpa using h58
          have HX := Aside0.mk h58
          clear h58
          go_wp2
          go_ret2
          refine ⟨_, false, rfl, rfl, ⟨?_⟩⟩
          unfold colF
          rw [List.drop_drop, ← HQ.out, HD.out, tk, b5]
          rfl
    · have hq : tk 58 (xs.drop (m + bl (xs.drop m))) = false := by
        have := HK.out
        rw [drop_nil' HL.out hlt] at this
        rw [← this, drop_nil' HL.out (by simp [bl]; omega)]; rfl
      have HQ := Aside0.mk hq
      clear hq
      go_wp2
      go_ret2
      refine ⟨_, false, rfl, rfl, ⟨?_⟩⟩
      unfold colF
      rw [List.drop_drop, HQ.out]
      rfl
def comF (E : Int) (l : List Int) : Option Nat := if tk 44 (l.drop (bl l)) || tk E (l.drop (bl l)) then some (bl l) else none
set_option maxHeartbeats 4000000 in
set_option maxRecDepth 100000 in
theorem comma_calls (h o n c m : Nat) (E : Int) (hE : E = 93 ∨ E = 125) (xs : List Int) (w : World) (H : RowAt w h o xs) (hl : xs.length = n) (hn : n ≤ 140737488351232) (hm : m ≤ n) :
    Calls Tryd.prog 104 #[.slice (some ⟨h, o, none⟩) n c, .int .i64 m, .int .u8 E] w (GA (comF E (xs.drop m)) m w) := by
  have HH := Aside0.mk H
  have HL := Aside0.mk hl
  clear H hl
  go_enter Tryd.func104, Tryd.ntmps104
  go_wp2_with fail
  go_loop [1] (fun i => ∃ k : Nat, i = .int .i64 k ∧ m ≤ k ∧ k ≤ n ∧ Aside0 (k + bl (xs.drop k) = m + bl (xs.drop m))) (fun i => n - (intOf i).toNat)
  case atStart => exact ⟨m, rfl, Nat.le_refl _, hm, ⟨rfl⟩⟩
  case round =>
    obtain ⟨k, rfl, hmk, hk, HK⟩ := hrel
    by_cases hlt : k < n
    · obtain ⟨x, hx⟩ : ∃ x, x = xs.getD k 0 := ⟨_, rfl⟩
      have hc : w.cell? ⟨h, o + k, none⟩ = some (.int .u8 x) := by rw [hx]; exact HH.out.2 k (by rw [HL.out]; exact hlt)
      have hd := drop_at HL.out hlt
      rw [← hx] at hd
      have HD := Aside0.mk hd
      clear hx hd
      cases hb : isBl x with
      | true =>
        have HB := Aside0.mk hb
        rcases isBl_or' hb with rfl | rfl | rfl | rfl
        all_goals
          clear hb
          go_wp2
          go_round
          case rel => exact ⟨k + 1, by go_num, by omega, by omega, ⟨by have := HK.out; rw [HD.out, bl_one HB.out] at this; omega⟩⟩
          case measure => simp [intOf]; omega
      | false =>
        obtain ⟨b1, b2, b3, b4⟩ := isBl_not hb
        have hq : k = m + bl (xs.drop m) := by have := HK.out; rw [HD.out, bl_zero hb] at this; omega
        have HQ := Aside0.mk hq
        clear hb hq
        by_cases h44 : x = 44
        · subst h44
          have hE44 : (44 == E) = false := by rcases hE with rfl | rfl <;> rfl
          go_wp2
          go_ret2
          refine ⟨_, true, rfl, rfl, ⟨?_⟩⟩
          unfold comF
          rw [List.drop_drop, ← HQ.out, HD.out, tk]
          exact ⟨rfl, by have := HQ.out; omega⟩
        · have b5 : (x == 44) = false := by simpa using h44
          by_cases hxE : x = E
          · subst hxE
            go_wp2
            go_ret2
            refine ⟨_, true, rfl, rfl, ⟨?_⟩⟩
            unfold comF
            rw [List.drop_drop, ← HQ.out, HD.out, tk, tk, b5]
            simp
            have := HQ.out; omega
          · have b6 : (x == E) = false := by simpa using hxE
            have HX := Aside0.mk h44
            clear h44 hxE
            go_wp2
            go_ret2
            refine ⟨_, false, rfl, rfl, ⟨?_⟩⟩
            unfold comF
            rw [List.drop_drop, ← HQ.out, HD.out, tk, tk, b5, b6]
            rfl
    · have hq : xs.drop (m + bl (xs.drop m)) = [] := by
        have := HK.out
        rw [drop_nil' HL.out hlt] at this
        rw [← this, drop_nil' HL.out (by simp [bl]; omega)]
      have HQ := Aside0.mk hq
      clear hq
      go_wp2
      go_ret2
      refine ⟨_, false, rfl, rfl, ⟨?_⟩⟩
      unfold comF
      rw [List.drop_drop, HQ.out]
      rfl
/-- Three bytes, four bytes. -/
def w3F (a b c : Int) (l : List Int) : Option Nat := if pre [a, b, c] l then some 3 else none
def w4F (a b c d : Int) (l : List Int) : Option Nat := if pre [a, b, c, d] l then some 4 else none
theorem pre3_of {xs : List Int} {m n : Nat} {a b c : Int} (hl : xs.length = n) (hle : m + 3 ≤ n) : pre [a, b, c] (xs.drop m) = (xs.getD m 0 == a && (xs.getD (m + 1) 0 == b && xs.getD (m + 2) 0 == c)) := by
  rw [drop_at hl (by omega), drop_at hl (by omega), drop_at hl (by omega)]
  simp [pre]
theorem pre4_of {xs : List Int} {m n : Nat} {a b c d : Int} (hl : xs.length = n) (hle : m + 4 ≤ n) : pre [a, b, c, d] (xs.drop m) = (xs.getD m 0 == a && (xs.getD (m + 1) 0 == b && (xs.getD (m + 2) 0 == c && xs.getD (m + 3) 0 == d))) := by
  rw [drop_at hl (by omega), drop_at hl (by omega), drop_at hl (by omega), drop_at hl (by omega)]
  simp [pre]
theorem pre_short {xs l : List Int} {m n : Nat} (hl : xs.length = n) (h : n < m + l.length) (h0 : m ≤ n) : pre l (xs.drop m) = false := by
  cases hp : pre l (xs.drop m) with
  | false => rfl
  | true => have := pre_len hp; rw [List.length_drop] at this; omega
set_option maxHeartbeats 4000000 in
set_option maxRecDepth 100000 in
theorem vtrue_calls (h o n c m : Nat) (xs : List Int) (w : World) (H : RowAt w h o xs) (hl : xs.length = n) (hn : n ≤ 140737488351232) (hm : m ≤ n) :
    Calls Tryd.prog 89 #[.slice (some ⟨h, o, none⟩) n c, .int .i64 m] w (GA (w3F 114 117 101 (xs.drop m)) m w) := by
  by_cases hle : m + 3 ≤ n
  · have hp := pre3_of (xs := xs) (m := m) (a := 114) (b := 117) (c := 101) hl hle
    obtain ⟨x0, hx0⟩ : ∃ x, x = xs.getD (m) 0 := ⟨_, rfl⟩
    have hc0 : w.cell? ⟨h, o + (m), none⟩ = some (.int .u8 x0) := by rw [hx0]; exact H.2 (m) (by omega)
    rw [← hx0] at hp
    obtain ⟨x1, hx1⟩ : ∃ x, x = xs.getD (m + 1) 0 := ⟨_, rfl⟩
    have hc1 : w.cell? ⟨h, o + (m + 1), none⟩ = some (.int .u8 x1) := by rw [hx1]; exact H.2 (m + 1) (by omega)
    rw [← hx1] at hp
    obtain ⟨x2, hx2⟩ : ∃ x, x = xs.getD (m + 2) 0 := ⟨_, rfl⟩
    have hc2 : w.cell? ⟨h, o + (m + 2), none⟩ = some (.int .u8 x2) := by rw [hx2]; exact H.2 (m + 2) (by omega)
    rw [← hx2] at hp
    clear hx0 hx1 hx2 H hl
    by_cases e0 : x0 = 114
    · subst e0
      by_cases e1 : x1 = 117
      · subst e1
        by_cases e2 : x2 = 101
        · subst e2
          have HP := Aside0.mk hp
          clear hp
          go_enter Tryd.func89, Tryd.ntmps89
          go_wp2
          go_ret2
          refine ⟨_, true, rfl, rfl, ⟨?_⟩⟩
          unfold w3F
          rw [HP.out]
          exact ⟨rfl, by omega⟩
        · have b2 : (x2 == 101) = false := by simpa using e2
          rw [b2] at hp
          simp only [Bool.false_and, Bool.and_false] at hp
          have HP := Aside0.mk hp
          clear hp e2
          go_enter Tryd.func89, Tryd.ntmps89
          go_wp2
          go_ret2
          refine ⟨_, false, rfl, rfl, ⟨?_⟩⟩
          unfold w3F
          rw [HP.out]
          rfl
      · have b1 : (x1 == 117) = false := by simpa using e1
        rw [b1] at hp
        simp only [Bool.false_and, Bool.and_false] at hp
        have HP := Aside0.mk hp
        clear hp e1
        go_enter Tryd.func89, Tryd.ntmps89
        go_wp2
        go_ret2
        refine ⟨_, false, rfl, rfl, ⟨?_⟩⟩
        unfold w3F
        rw [HP.out]
        rfl
    · have b0 : (x0 == 114) = false := by simpa using e0
      rw [b0] at hp
      simp only [Bool.false_and, Bool.and_false] at hp
      have HP := Aside0.mk hp
      clear hp e0
      go_enter Tryd.func89, Tryd.ntmps89
      go_wp2
      go_ret2
      refine ⟨_, false, rfl, rfl, ⟨?_⟩⟩
      unfold w3F
      rw [HP.out]
      rfl
  · have HP := Aside0.mk (pre_short (l := [114, 117, 101]) hl (by simp; omega) hm)
    have hd : ¬ ((m : Int) + 3 ≤ (n : Int)) := by omega
    clear hle
    go_enter Tryd.func89, Tryd.ntmps89
    go_wp2
    go_ret2
    refine ⟨_, false, rfl, rfl, ⟨?_⟩⟩
    unfold w3F
    rw [HP.out]
    rfl
set_option maxHeartbeats 4000000 in
set_option maxRecDepth 100000 in
theorem vnull_calls (h o n c m : Nat) (xs : List Int) (w : World) (H : RowAt w h o xs) (hl : xs.length = n) (hn : n ≤ 140737488351232) (hm : m ≤ n) :
    Calls Tryd.prog 91 #[.slice (some ⟨h, o, none⟩) n c, .int .i64 m] w (GA (w3F 117 108 108 (xs.drop m)) m w) := by
  by_cases hle : m + 3 ≤ n
  · have hp := pre3_of (xs := xs) (m := m) (a := 117) (b := 108) (c := 108) hl hle
    obtain ⟨x0, hx0⟩ : ∃ x, x = xs.getD (m) 0 := ⟨_, rfl⟩
    have hc0 : w.cell? ⟨h, o + (m), none⟩ = some (.int .u8 x0) := by rw [hx0]; exact H.2 (m) (by omega)
    rw [← hx0] at hp
    obtain ⟨x1, hx1⟩ : ∃ x, x = xs.getD (m + 1) 0 := ⟨_, rfl⟩
    have hc1 : w.cell? ⟨h, o + (m + 1), none⟩ = some (.int .u8 x1) := by rw [hx1]; exact H.2 (m + 1) (by omega)
    rw [← hx1] at hp
    obtain ⟨x2, hx2⟩ : ∃ x, x = xs.getD (m + 2) 0 := ⟨_, rfl⟩
    have hc2 : w.cell? ⟨h, o + (m + 2), none⟩ = some (.int .u8 x2) := by rw [hx2]; exact H.2 (m + 2) (by omega)
    rw [← hx2] at hp
    clear hx0 hx1 hx2 H hl
    by_cases e0 : x0 = 117
    · subst e0
      by_cases e1 : x1 = 108
      · subst e1
        by_cases e2 : x2 = 108
        · subst e2
          have HP := Aside0.mk hp
          clear hp
          go_enter Tryd.func91, Tryd.ntmps91
          go_wp2
          go_ret2
          refine ⟨_, true, rfl, rfl, ⟨?_⟩⟩
          unfold w3F
          rw [HP.out]
          exact ⟨rfl, by omega⟩
        · have b2 : (x2 == 108) = false := by simpa using e2
          rw [b2] at hp
          simp only [Bool.false_and, Bool.and_false] at hp
          have HP := Aside0.mk hp
          clear hp e2
          go_enter Tryd.func91, Tryd.ntmps91
          go_wp2
          go_ret2
          refine ⟨_, false, rfl, rfl, ⟨?_⟩⟩
          unfold w3F
          rw [HP.out]
          rfl
      · have b1 : (x1 == 108) = false := by simpa using e1
        rw [b1] at hp
        simp only [Bool.false_and, Bool.and_false] at hp
        have HP := Aside0.mk hp
        clear hp e1
        go_enter Tryd.func91, Tryd.ntmps91
        go_wp2
        go_ret2
        refine ⟨_, false, rfl, rfl, ⟨?_⟩⟩
        unfold w3F
        rw [HP.out]
        rfl
    · have b0 : (x0 == 117) = false := by simpa using e0
      rw [b0] at hp
      simp only [Bool.false_and, Bool.and_false] at hp
      have HP := Aside0.mk hp
      clear hp e0
      go_enter Tryd.func91, Tryd.ntmps91
      go_wp2
      go_ret2
      refine ⟨_, false, rfl, rfl, ⟨?_⟩⟩
      unfold w3F
      rw [HP.out]
      rfl
  · have HP := Aside0.mk (pre_short (l := [117, 108, 108]) hl (by simp; omega) hm)
    have hd : ¬ ((m : Int) + 3 ≤ (n : Int)) := by omega
    clear hle
    go_enter Tryd.func91, Tryd.ntmps91
    go_wp2
    go_ret2
    refine ⟨_, false, rfl, rfl, ⟨?_⟩⟩
    unfold w3F
    rw [HP.out]
    rfl
set_option maxHeartbeats 4000000 in
set_option maxRecDepth 100000 in
theorem vfalse_calls (h o n c m : Nat) (xs : List Int) (w : World) (H : RowAt w h o xs) (hl : xs.length = n) (hn : n ≤ 140737488351232) (hm : m ≤ n) :
    Calls Tryd.prog 90 #[.slice (some ⟨h, o, none⟩) n c, .int .i64 m] w (GA (w4F 97 108 115 101 (xs.drop m)) m w) := by
  by_cases hle : m + 4 ≤ n
  · have hp := pre4_of (xs := xs) (m := m) (a := 97) (b := 108) (c := 115) (d := 101) hl hle
    obtain ⟨x0, hx0⟩ : ∃ x, x = xs.getD (m) 0 := ⟨_, rfl⟩
    have hc0 : w.cell? ⟨h, o + (m), none⟩ = some (.int .u8 x0) := by rw [hx0]; exact H.2 (m) (by omega)
    rw [← hx0] at hp
    obtain ⟨x1, hx1⟩ : ∃ x, x = xs.getD (m + 1) 0 := ⟨_, rfl⟩
    have hc1 : w.cell? ⟨h, o + (m + 1), none⟩ = some (.int .u8 x1) := by rw [hx1]; exact H.2 (m + 1) (by omega)
    rw [← hx1] at hp
    obtain ⟨x2, hx2⟩ : ∃ x, x = xs.getD (m + 2) 0 := ⟨_, rfl⟩
    have hc2 : w.cell? ⟨h, o + (m + 2), none⟩ = some (.int .u8 x2) := by rw [hx2]; exact H.2 (m + 2) (by omega)
    rw [← hx2] at hp
    obtain ⟨x3, hx3⟩ : ∃ x, x = xs.getD (m + 3) 0 := ⟨_, rfl⟩
    have hc3 : w.cell? ⟨h, o + (m + 3), none⟩ = some (.int .u8 x3) := by rw [hx3]; exact H.2 (m + 3) (by omega)
    rw [← hx3] at hp
    clear hx0 hx1 hx2 hx3 H hl
    by_cases e0 : x0 = 97
    · subst e0
      by_cases e1 : x1 = 108
      · subst e1
        by_cases e2 : x2 = 115
        · subst e2
          by_cases e3 : x3 = 101
          · subst e3
            have HP := Aside0.mk hp
            clear hp
            go_enter Tryd.func90, Tryd.ntmps90
            go_wp2
            go_ret2
            refine ⟨_, true, rfl, rfl, ⟨?_⟩⟩
            unfold w4F
            rw [HP.out]
            exact ⟨rfl, by omega⟩
          · have b3 : (x3 == 101) = false := by simpa using e3
            rw [b3] at hp
            simp only [Bool.false_and, Bool.and_false] at hp
            have HP := Aside0.mk hp
            clear hp e3
            go_enter Tryd.func90, Tryd.ntmps90
            go_wp2
            go_ret2
            refine ⟨_, false, rfl, rfl, ⟨?_⟩⟩
            unfold w4F
            rw [HP.out]
            rfl
        · have b2 : (x2 == 115) = false := by simpa using e2
          rw [b2] at hp
          simp only [Bool.false_and, Bool.and_false] at hp
          have HP := Aside0.mk hp
          clear hp e2
          go_enter Tryd.func90, Tryd.ntmps90
          go_wp2
          go_ret2
          refine ⟨_, false, rfl, rfl, ⟨?_⟩⟩
          unfold w4F
          rw [HP.out]
          rfl
      · have b1 : (x1 == 108) = false := by simpa using e1
        rw [b1] at hp
        simp only [Bool.false_and, Bool.and_false] at hp
        have HP := Aside0.mk hp
        clear hp e1
        go_enter Tryd.func90, Tryd.ntmps90
        go_wp2
        go_ret2
        refine ⟨_, false, rfl, rfl, ⟨?_⟩⟩
        unfold w4F
        rw [HP.out]
        rfl
    · have b0 : (x0 == 97) = false := by simpa using e0
      rw [b0] at hp
      simp only [Bool.false_and, Bool.and_false] at hp
      have HP := Aside0.mk hp
      clear hp e0
      go_enter Tryd.func90, Tryd.ntmps90
      go_wp2
      go_ret2
      refine ⟨_, false, rfl, rfl, ⟨?_⟩⟩
      unfold w4F
      rw [HP.out]
      rfl
  · have HP := Aside0.mk (pre_short (l := [97, 108, 115, 101]) hl (by simp; omega) hm)
    have hd : ¬ ((m : Int) + 4 ≤ (n : Int)) := by omega
    clear hle
    go_enter Tryd.func90, Tryd.ntmps90
    go_wp2
    go_ret2
    refine ⟨_, false, rfl, rfl, ⟨?_⟩⟩
    unfold w4F
    rw [HP.out]
    rfl
set_option maxHeartbeats 4000000 in
set_option maxRecDepth 100000 in
theorem ishex_calls (x : Int) (w : World) : Calls Tryd.prog 105 #[.int .u8 x] w (fun e w' => e = .returned (.bool (isHx x)) ∧ w' = w) := by
  by_cases h1 : 48 ≤ x
  · by_cases h2 : x ≤ 57
    · have hx : isHx x = true := by unfold isHx; simp [h1, h2]
      rw [hx]
      go_enter Tryd.func105, Tryd.ntmps105; go_wp2; go_ret; exact ⟨rfl, rfl⟩
    · by_cases h3 : 97 ≤ x
      · by_cases h4 : x ≤ 102
        · have hx : isHx x = true := by unfold isHx; simp [h3, h4]
          rw [hx]
          go_enter Tryd.func105, Tryd.ntmps105; go_wp2; go_ret; exact ⟨rfl, rfl⟩
        · have h5 : 65 ≤ x := by omega
          have h6 : ¬ x ≤ 70 := by omega
          have hx : isHx x = false := by unfold isHx; simp [h1, h2, h3, h4, h5, h6]
          rw [hx]
          go_enter Tryd.func105, Tryd.ntmps105; go_wp2; go_ret; exact ⟨rfl, rfl⟩
      · by_cases h5 : 65 ≤ x
        · by_cases h6 : x ≤ 70
          · have hx : isHx x = true := by unfold isHx; simp [h5, h6]
            rw [hx]
            go_enter Tryd.func105, Tryd.ntmps105; go_wp2; go_ret; exact ⟨rfl, rfl⟩
          · have hx : isHx x = false := by unfold isHx; simp [h1, h2, h3, h5, h6]
            rw [hx]
            go_enter Tryd.func105, Tryd.ntmps105; go_wp2; go_ret; exact ⟨rfl, rfl⟩
        · have hx : isHx x = false := by unfold isHx; simp [h1, h2, h3, h5]
          rw [hx]
          go_enter Tryd.func105, Tryd.ntmps105; go_wp2; go_ret; exact ⟨rfl, rfl⟩
  · have h3 : ¬ 97 ≤ x := by omega
    have h5 : ¬ 65 ≤ x := by omega
    have hx : isHx x = false := by unfold isHx; simp [h1, h3, h5]
    rw [hx]
    go_enter Tryd.func105, Tryd.ntmps105; go_wp2; go_ret; exact ⟨rfl, rfl⟩
end Go.Proofs.YtiecdhkmlpceoaaDoor.G
