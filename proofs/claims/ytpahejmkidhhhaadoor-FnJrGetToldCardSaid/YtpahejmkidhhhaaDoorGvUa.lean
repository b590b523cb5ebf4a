/- jsonparser's \u escapes in pairs. -/
import Derived.Test.YtpahejmkidhhhaaDoorGvU
namespace Go.Proofs.YtpahejmkidhhhaaDoor.G
set_option linter.unusedVariables false
set_option linter.unusedSimpArgs false
open Go.RowKit Go.Proofs.YtpahejmkidhhhaaDoorW.PrintWords

def DUA (o : Option (Int × Nat)) (w : World) (e : Ending) (w' : World) : Prop := (e = match o with | none => .returned (.tuple #[.int .i32 65533, .int .i64 (-1)]) | some r => .returned (.tuple #[.int .i32 r.1, .int .i64 (r.2 : Int)])) ∧ ∃ k, w' = w.drewN k
theorem RowAt.drewN {w : World} {h o : Nat} {xs : List Int} (H : RowAt w h o xs) (k : Nat) : RowAt (w.drewN k) h o xs := H
theorem drop_len {l : List Int} {n k : Nat} (h : l.length = n) : (l.drop k).length = n - k := by rw [List.length_drop, h]
set_option maxHeartbeats 4000000 in
set_option maxRecDepth 100000 in
theorem decode_calls (h o n c : Nat) (l : List Int) (w : World) (H : RowAt w h o l) (hby : Bytes l) (hl : l.length = n) (hn : n ≤ 140737488351232) (hnc : n ≤ c) : Calls Tryd.prog 90 #[.slice (some ⟨h, o, none⟩) n c] w (DUA (du l) w) := by
  have C1 := single_calls h o n c l w H hby hl hn
  unfold SUA at C1
  have hd : du l = match su l with
  | none => none
  | some r =>
    if ¬ (55296 ≤ r ∧ r ≤ 57343) then some (r, 6)
    else if 56320 ≤ r then some (65533, 6)
    else if l.length < 8 ∨ l.getD 6 0 ≠ 92 ∨ l.getD 7 0 ≠ 117 then some (65533, 6)
    else match su (l.drop 6) with
      | none => none
      | some s => if s < 56320 ∨ 57343 < s then some (65533, 6) else some (65536 + (r - 55296) * 1024 + (s - 56320), 12) := rfl
  cases hs : su l with
  | none =>
    rw [hs] at C1 hd
    rw [hd]
    have C1 := Aside0.mk C1
    clear hd hs
    go_enter Tryd.func90, Tryd.ntmps90
    go_wp2_with (go_at_call 97; refine C1.out.mono ?_; rintro e w1 ⟨rfl, k1, rfl⟩)
    go_ret2
    exact ⟨rfl, _, rfl⟩
  | some r =>
    obtain ⟨r0, r1, h6⟩ := su_lt hs
    rw [hs] at C1 hd
    simp only [] at C1 hd
    have C1 := Aside0.mk C1
    have CU := Aside0.mk (fun W => isU_calls r r0 r1 W)
    clear hs
    rcases Decidable.em (55296 ≤ r ∧ r ≤ 57343) with hu | hu
    · rw [if_neg (fun hn => hn hu)] at hd
      rw [decide_eq_true hu] at CU
      rcases Decidable.em (56320 ≤ r) with hlo | hlo
      · rw [if_pos hlo] at hd
        rw [hd]
        clear hd
        go_enter Tryd.func90, Tryd.ntmps90
        go_wp2_with (first
          | (go_at_call 97; refine C1.out.mono ?_; rintro e w1 ⟨rfl, k1, rfl⟩)
          | (go_at_call 98; refine (CU.out _).mono ?_; rintro e w2 ⟨rfl, rfl⟩))
        go_ret2
        exact ⟨rfl, _, rfl⟩
      · rw [if_neg hlo] at hd
        rcases Decidable.em (n < 8) with h8 | h8
        · rw [if_pos (.inl (by omega))] at hd
          rw [hd]
          clear hd
          go_enter Tryd.func90, Tryd.ntmps90
          go_wp2_with (first
            | (go_at_call 97; refine C1.out.mono ?_; rintro e w1 ⟨rfl, k1, rfl⟩)
            | (go_at_call 98; refine (CU.out _).mono ?_; rintro e w2 ⟨rfl, rfl⟩))
          go_ret2
          exact ⟨rfl, _, rfl⟩
        · obtain ⟨x6, e6⟩ : ∃ x, x = l.getD 6 0 := ⟨_, rfl⟩
          obtain ⟨x7, e7⟩ : ∃ x, x = l.getD 7 0 := ⟨_, rfl⟩
          have c6 : ∀ k, (w.drewN k).cell? ⟨h, o + 6, none⟩ = some (.int .u8 x6) := fun k => by rw [e6]; exact H.2 6 (by omega)
          have c7 : ∀ k, (w.drewN k).cell? ⟨h, o + 7, none⟩ = some (.int .u8 x7) := fun k => by rw [e7]; exact H.2 7 (by omega)
          have C2 := Aside0.mk (fun k => single_calls h (o + 6) (n - 6) (c - 6) (l.drop 6) (w.drewN k) ((H.drewN k).drop 6) (hby.drop 6) (drop_len hl) (by omega))
          rw [← e6, ← e7] at hd
          unfold SUA at C2
          clear H hby e6 e7
          rcases Decidable.em (x6 = 92 ∧ x7 = 117) with hx | hx
          · obtain ⟨rfl, rfl⟩ := hx
            rw [if_neg (by omega)] at hd
            have hc6 : ¬ c = 6 := by omega
            cases hs2 : su (l.drop 6) with
            | none =>
              rw [hs2] at C2 hd
              rw [hd]
              clear hd hs2
              go_enter Tryd.func90, Tryd.ntmps90
              go_wp2_with (first
                | (go_at_call 97; have hkk := k1; refine (C2.out _).mono ?_; rintro e w3 ⟨rfl, k2, rfl⟩)
                | (go_at_call 97; refine C1.out.mono ?_; rintro e w1 ⟨rfl, k1, rfl⟩)
                | (go_at_call 98; refine (CU.out _).mono ?_; rintro e w2 ⟨rfl, rfl⟩))
              go_ret2
              exact ⟨rfl, _, rfl⟩
            | some s =>
              rw [hs2] at C2 hd
              simp only [] at C2 hd
              have hs3 := su_lt hs2
              rcases Decidable.em (s < 56320 ∨ 57343 < s) with hb | hb
              · rw [if_pos hb] at hd
                rw [hd]
                clear hd hs2
                rcases Decidable.em (s < 56320) with hb1 | hb1
                all_goals
                  go_enter Tryd.func90, Tryd.ntmps90
                  go_wp2_with (first
                    | (go_at_call 97; have hkk := k1; refine (C2.out _).mono ?_; rintro e w3 ⟨rfl, k2, rfl⟩)
                    | (go_at_call 97; refine C1.out.mono ?_; rintro e w1 ⟨rfl, k1, rfl⟩)
                    | (go_at_call 98; refine (CU.out _).mono ?_; rintro e w2 ⟨rfl, rfl⟩))
                  all_goals first
                    | (exfalso; omega)
                    | (go_ret2; exact ⟨rfl, _, rfl⟩)
              · rw [if_neg hb] at hd
                rw [hd]
                have CC := Aside0.mk (fun W => comb_calls r s (by omega) (by omega) (by omega) (by omega) W)
                clear hd hs2
                go_enter Tryd.func90, Tryd.ntmps90
                go_wp2_with (first
                  | (go_at_call 97; have hkk := k1; refine (C2.out _).mono ?_; rintro e w3 ⟨rfl, k2, rfl⟩)
                  | (go_at_call 97; refine C1.out.mono ?_; rintro e w1 ⟨rfl, k1, rfl⟩)
                  | (go_at_call 99; refine (CC.out _).mono ?_; rintro e w4 ⟨rfl, rfl⟩)
                  | (go_at_call 98; refine (CU.out _).mono ?_; rintro e w2 ⟨rfl, rfl⟩))
                all_goals first
                  | (exfalso; omega)
                  | (go_ret2; exact ⟨rfl, _, rfl⟩)
          · rw [if_pos (by omega)] at hd
            rw [hd]
            clear hd
            have hx' : (x6 != 92) = true ∨ (x6 = 92 ∧ (x7 != 117) = true) := by
              simp only [bne_iff_ne, ne_eq]; omega
            clear hx
            rcases hx' with hx1 | ⟨rfl, hx2⟩
            all_goals
              go_enter Tryd.func90, Tryd.ntmps90
              go_wp2_with (first
                | (go_at_call 97; refine C1.out.mono ?_; rintro e w1 ⟨rfl, k1, rfl⟩)
                | (go_at_call 98; refine (CU.out _).mono ?_; rintro e w2 ⟨rfl, rfl⟩))
              go_ret2
              exact ⟨rfl, _, rfl⟩
    · rw [if_pos hu] at hd
      rw [decide_eq_false hu] at CU
      rw [hd]
      clear hd
      go_enter Tryd.func90, Tryd.ntmps90
      go_wp2_with (first
        | (go_at_call 97; refine C1.out.mono ?_; rintro e w1 ⟨rfl, k1, rfl⟩)
        | (go_at_call 98; refine (CU.out _).mono ?_; rintro e w2 ⟨rfl, rfl⟩))
      go_ret2
      exact ⟨rfl, _, rfl⟩
end Go.Proofs.YtpahejmkidhhhaaDoor.G
