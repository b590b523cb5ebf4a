/- jsonparser's escapes: hexadecimal digits, \u escapes. -/
import Derived.Test.YtpahejmkidhhhaaDoorGvG
import Derived.Test.YtpahejmkidhhhaaDoorGvSe
namespace Go.Proofs.YtpahejmkidhhhaaDoor.G
set_option linter.unusedVariables false
set_option linter.unusedSimpArgs false
open Go.RowKit Go.Proofs.YtpahejmkidhhhaaDoorW.PrintWords

theorem hexv_lt {c : Int} (h : hexv c ≠ -1) : 0 ≤ hexv c ∧ hexv c < 16 := by
  unfold hexv at h ⊢
  by_cases a : 48 ≤ c ∧ c ≤ 57
  · rw [if_pos a]; omega
  · rw [if_neg a] at h ⊢
    by_cases b : 65 ≤ c ∧ c ≤ 70
    · rw [if_pos b]; omega
    · rw [if_neg b] at h ⊢
      by_cases d : 97 ≤ c ∧ c ≤ 102
      · rw [if_pos d]; omega
      · rw [if_neg d] at h; exact absurd rfl h
theorem ret_int {x y : Int} (h : x = y) : Ending.returned (.int .i64 x) = Ending.returned (.int .i64 y) := by rw [h]
set_option maxHeartbeats 4000000 in
set_option maxRecDepth 100000 in
theorem h2I_calls (c : Int) (h0 : 0 ≤ c) (h1 : c < 256) (w : World) : Calls Tryd.prog 105 #[.int .u8 c] w (fun e w' => e = .returned (.int .i64 (hexv c)) ∧ w' = w) := by
  have hv : hexv c = if 48 ≤ c ∧ c ≤ 57 then c - 48 else if 65 ≤ c ∧ c ≤ 70 then c - 55 else if 97 ≤ c ∧ c ≤ 102 then c - 87 else -1 := rfl
  rcases Decidable.em (48 ≤ c ∧ c ≤ 57) with a | a
  · rw [if_pos a] at hv
    have HV := Aside0.mk hv
    obtain ⟨a1, a2⟩ := a
    have hwr : IntKind.u8.wrap (c - 48) = c - 48 := by rw [IntKind.wrap_u8]; omega
    clear hv
    go_enter Tryd.func105, Tryd.ntmps105
    go_wp2
    go_ret
    exact ⟨ret_int HV.out.symm, rfl⟩
  · rw [if_neg a] at hv
    rcases Decidable.em (65 ≤ c ∧ c ≤ 70) with b | b
    · rw [if_pos b] at hv
      have HV := Aside0.mk hv
      obtain ⟨a1, a2⟩ := b
      have hwr : IntKind.u8.wrap (c - 65) = c - 65 := by rw [IntKind.wrap_u8]; omega
      clear hv a
      go_enter Tryd.func105, Tryd.ntmps105
      go_wp2
      go_ret
      exact ⟨ret_int (by rw [HV.out]; omega), rfl⟩
    · rw [if_neg b] at hv
      rcases Decidable.em (97 ≤ c ∧ c ≤ 102) with d | d
      · rw [if_pos d] at hv
        have HV := Aside0.mk hv
        obtain ⟨a1, a2⟩ := d
        have hwr : IntKind.u8.wrap (c - 97) = c - 97 := by rw [IntKind.wrap_u8]; omega
        clear hv a b
        go_enter Tryd.func105, Tryd.ntmps105
        go_wp2
        go_ret
        exact ⟨ret_int (by rw [HV.out]; omega), rfl⟩
      · rw [if_neg d] at hv
        have HV := Aside0.mk hv
        clear hv
        go_enter Tryd.func105, Tryd.ntmps105
        go_wp2
        all_goals first
          | (exfalso; omega)
          | (go_ret; exact ⟨ret_int HV.out.symm, rfl⟩)
def SUA (o : Option Int) (w : World) (e : Ending) (w' : World) : Prop := (e = match o with | none => .returned (.tuple #[.int .i32 65533, .bool false]) | some r => .returned (.tuple #[.int .i32 r, .bool true])) ∧ ∃ k, w' = w.drewN k
set_option maxHeartbeats 4000000 in
set_option maxRecDepth 100000 in
theorem single_calls (h o n c : Nat) (l : List Int) (w : World) (H : RowAt w h o l) (hby : Bytes l) (hl : l.length = n) (hn : n ≤ 140737488351232) : Calls Tryd.prog 97 #[.slice (some ⟨h, o, none⟩) n c] w (SUA (su l) w) := by
  have hs : su l = if l.length < 6 then none
    else if hexv (l.getD 2 0) = -1 ∨ hexv (l.getD 3 0) = -1 ∨ hexv (l.getD 4 0) = -1 ∨ hexv (l.getD 5 0) = -1 then none
    else some (hexv (l.getD 2 0) * 4096 + hexv (l.getD 3 0) * 256 + hexv (l.getD 4 0) * 16 + hexv (l.getD 5 0)) := rfl
  rcases Decidable.em (n < 6) with h6 | h6
  · rw [if_pos (by omega)] at hs
    rw [hs]
    clear hs
    go_enter Tryd.func97, Tryd.ntmps97
    go_wp2_with fail
    go_ret2
    exact ⟨rfl, 0, rfl⟩
  · rw [if_neg (by omega)] at hs
    obtain ⟨x2, e2⟩ : ∃ x, x = l.getD 2 0 := ⟨_, rfl⟩
    obtain ⟨x3, e3⟩ : ∃ x, x = l.getD 3 0 := ⟨_, rfl⟩
    obtain ⟨x4, e4⟩ : ∃ x, x = l.getD 4 0 := ⟨_, rfl⟩
    obtain ⟨x5, e5⟩ : ∃ x, x = l.getD 5 0 := ⟨_, rfl⟩
    have c2 : w.cell? ⟨h, o + 2, none⟩ = some (.int .u8 x2) := by rw [e2]; exact H.2 2 (by omega)
    have c3 : w.cell? ⟨h, o + 3, none⟩ = some (.int .u8 x3) := by rw [e3]; exact H.2 3 (by omega)
    have c4 : w.cell? ⟨h, o + 4, none⟩ = some (.int .u8 x4) := by rw [e4]; exact H.2 4 (by omega)
    have c5 : w.cell? ⟨h, o + 5, none⟩ = some (.int .u8 x5) := by rw [e5]; exact H.2 5 (by omega)
    have b2 := hby.at' (k := 2) (by omega)
    have b3 := hby.at' (k := 3) (by omega)
    have b4 := hby.at' (k := 4) (by omega)
    have b5 := hby.at' (k := 5) (by omega)
    rw [← e2] at b2
    rw [← e3] at b3
    rw [← e4] at b4
    rw [← e5] at b5
    rw [← e2, ← e3, ← e4, ← e5] at hs
    have K2 := Aside0.mk (fun W => h2I_calls x2 b2.1 b2.2 W)
    have K3 := Aside0.mk (fun W => h2I_calls x3 b3.1 b3.2 W)
    have K4 := Aside0.mk (fun W => h2I_calls x4 b4.1 b4.2 W)
    have K5 := Aside0.mk (fun W => h2I_calls x5 b5.1 b5.2 W)
    have v2 := hexv_lt (c := x2)
    have v3 := hexv_lt (c := x3)
    have v4 := hexv_lt (c := x4)
    have v5 := hexv_lt (c := x5)
    clear H hby b2 b3 b4 b5 e2 e3 e4 e5
    generalize hexv x2 = y2 at *
    generalize hexv x3 = y3 at *
    generalize hexv x4 = y4 at *
    generalize hexv x5 = y5 at *
    rcases Decidable.em (y2 = -1 ∨ y3 = -1 ∨ y4 = -1 ∨ y5 = -1) with hb | hb
    · rw [if_pos hb] at hs
      rw [hs]
      clear hs v2 v3 v4 v5
      have hq : (y2 == -1) = true ∨ ((y2 == -1) = false ∧ (y3 == -1) = true) ∨ ((y2 == -1) = false ∧ (y3 == -1) = false ∧ (y4 == -1) = true) ∨ ((y2 == -1) = false ∧ (y3 == -1) = false ∧ (y4 == -1) = false ∧ (y5 == -1) = true) := by
        simp only [beq_iff_eq, beq_eq_false_iff_ne]
        omega
      clear hb
      rcases hq with m2 | ⟨m2, m3⟩ | ⟨m2, m3, m4⟩ | ⟨m2, m3, m4, m5⟩
      all_goals
        go_enter Tryd.func97, Tryd.ntmps97
        go_upto_region 3 with fail
        go_quiet (first
          | (go_at_call 105; with_reducible exact Calls.quiet_of_same (K2.out _))
          | (go_at_call 105; with_reducible exact Calls.quiet_of_same (K3.out _))
          | (go_at_call 105; with_reducible exact Calls.quiet_of_same (K4.out _))
          | (go_at_call 105; with_reducible exact Calls.quiet_of_same (K5.out _)))
        go_wp2_with fail
        go_ret2
        exact ⟨rfl, _, rfl⟩
    · rw [if_neg hb] at hs
      rw [hs]
      clear hs
      have v2 := v2 (by omega)
      have v3 := v3 (by omega)
      have v4 := v4 (by omega)
      have v5 := v5 (by omega)
      have n2 : (y2 == -1) = false := by simp; omega
      have n3 : (y3 == -1) = false := by simp; omega
      have n4 : (y4 == -1) = false := by simp; omega
      have n5 : (y5 == -1) = false := by simp; omega
      clear hb
      go_enter Tryd.func97, Tryd.ntmps97
      go_upto_region 3 with fail
      go_quiet (first
        | (go_at_call 105; with_reducible exact Calls.quiet_of_same (K2.out _))
        | (go_at_call 105; with_reducible exact Calls.quiet_of_same (K3.out _))
        | (go_at_call 105; with_reducible exact Calls.quiet_of_same (K4.out _))
        | (go_at_call 105; with_reducible exact Calls.quiet_of_same (K5.out _)))
      go_wp2_with fail
      go_ret2
      exact ⟨rfl, _, rfl⟩
theorem su_lt {l : List Int} {r : Int} (h : su l = some r) : 0 ≤ r ∧ r < 65536 ∧ 6 ≤ l.length := by
  unfold su at h
  by_cases h6 : l.length < 6
  · rw [if_pos h6] at h; cases h
  · rw [if_neg h6] at h
    by_cases hb : hexv (l.getD 2 0) = -1 ∨ hexv (l.getD 3 0) = -1 ∨ hexv (l.getD 4 0) = -1 ∨ hexv (l.getD 5 0) = -1
    · rw [if_pos hb] at h; cases h
    · rw [if_neg hb] at h
      have h2 := hexv_lt (c := l.getD 2 0) (by omega)
      have h3 := hexv_lt (c := l.getD 3 0) (by omega)
      have h4 := hexv_lt (c := l.getD 4 0) (by omega)
      have h5 := hexv_lt (c := l.getD 5 0) (by omega)
      have := Option.some.inj h
      omega
set_option maxHeartbeats 4000000 in
set_option maxRecDepth 100000 in
theorem isU_calls (r : Int) (h0 : 0 ≤ r) (h1 : r < 65536) (w : World) : Calls Tryd.prog 98 #[.int .i32 r] w (fun e w' => e = .returned (.bool (decide (55296 ≤ r ∧ r ≤ 57343))) ∧ w' = w) := by
  rcases Decidable.em (55296 ≤ r) with a | a
  · have e : decide (55296 ≤ r ∧ r ≤ 57343) = decide (r ≤ 57343) := by simp [a]
    rw [e]
    go_enter Tryd.func98, Tryd.ntmps98
    go_wp2
    go_ret
    exact ⟨rfl, rfl⟩
  · have e : decide (55296 ≤ r ∧ r ≤ 57343) = false := by simp; omega
    rw [e]
    go_enter Tryd.func98, Tryd.ntmps98
    go_wp2
    go_ret
    exact ⟨rfl, rfl⟩
set_option maxHeartbeats 4000000 in
set_option maxRecDepth 100000 in
theorem comb_calls (r s : Int) (h0 : 55296 ≤ r) (h1 : r < 56320) (h2 : 56320 ≤ s) (h3 : s ≤ 57343) (w : World) : Calls Tryd.prog 99 #[.int .i32 r, .int .i32 s] w (fun e w' => e = .returned (.int .i32 (65536 + (r - 55296) * 1024 + (s - 56320))) ∧ w' = w) := by
  go_enter Tryd.func99, Tryd.ntmps99
  go_wp2
  go_ret
  exact ⟨rfl, rfl⟩
end Go.Proofs.YtpahejmkidhhhaaDoor.G
