/- jsonparser's stringEnd, walked. -/
import Derived.Test.YtpahejmkidhhhaaDoorGvB
namespace Go.Proofs.YtpahejmkidhhhaaDoor.G
set_option linter.unusedVariables false
set_option linter.unusedSimpArgs false
open Go.RowKit Go.Proofs.YtpahejmkidhhhaaDoorW.PrintWords

set_option maxHeartbeats 4000000 in
set_option maxRecDepth 100000 in
theorem strEnd_walk (a b : Bool) (z : Int) (h o n c : Nat) (xs : List Int) (w : World) (H : RowAt w h o xs) (hb : Bytes xs) (hl : xs.length = n) (hm : n ≤ 140737488351232) (hn : n ≤ c) (R : Int × Bool) (hR : seAt xs 0 false = R) :
    Calls Tryd.prog 75 #[.agg #[.bool a, .bool b, .int .i64 z], .slice (some ⟨h, o, none⟩) n c, .int .u8 34] w fun e w' => e = .returned (.tuple #[.int .i64 R.1, .bool R.2]) ∧ Below w.heap.size w w' := by
  have HH := Aside0.mk H
  have HBy := Aside0.mk hb
  have HR := Aside0.mk hR
  have HL := Aside0.mk hl
  clear H hb hR hl
  go_enter Tryd.func75, Tryd.ntmps75
  go_upto_block 0 with fail
  go_cut [10] from 12 to 57 (fun i wx => ∃ k : Nat, k ≤ n ∧ i = .int .i64 k ∧ Aside0 (noq xs k) ∧ Aside0 (Below w.heap.size w wx))
  case first =>
    go_wp2_with fail
    go_loopw [10] (fun i wr => ∃ k : Nat, k ≤ n ∧ i = .int .i64 k ∧ Aside0 (noq xs k) ∧ Aside0 (Below w.heap.size w wr)) (fun i _ => n - (intOf i).toNat)
    case atStart => exact ⟨0, Nat.zero_le _, rfl, ⟨fun j hj => by omega⟩, ⟨(Below.refl _ _).alloc (Nat.le_refl _) _⟩⟩
    case round =>
      obtain ⟨k, hk, rfl, HN, HB⟩ := hrel
      by_cases hlt : k + 8 ≤ n
      · have hck : ¬ c = k := by omega
        go_upto_region 6 with fail
        go_region_with (go_at_call 84; refine (le64_calls h o n c k xs _ ((HH.out.below HB.out).below (Below.refl _ _).drew) HBy.out HL.out hlt).mono ?_; rintro e w2 ⟨rfl, hb⟩)
        all_goals go_wp2
        all_goals first
          | (go_roundw
             case rel => exact ⟨k + 8, by omega, by go_num, ⟨noq8 HBy.out (by rw [HL.out]; exact hlt) HN.out (by rename_i hz; exact of_decide_eq_true hz)⟩, ⟨below_step HB.out.drew hb⟩⟩
             case measure => simp [intOf]; omega)
          | (go_meet; exact ⟨k, by omega, rfl, HN, ⟨below_step HB.out.drew hb⟩⟩)
      · go_wp2
        go_meet
        exact ⟨k, by omega, rfl, HN, HB⟩
  case rest =>
    obtain ⟨k, hk, rfl, HN, HB⟩ := hcut
    have HW := Aside0.mk (HH.out.below HB.out)
    have HF : Aside0 (seAt xs k false = R) := ⟨by rw [noq_se k (by rw [HL.out]; exact hk) HN.out]; exact HR.out⟩
    have HZ : Aside0 (run xs k = 0) := ⟨noq_run k (by rw [HL.out]; exact hk) HN.out⟩
    clear HN HR HH
    go_wp2_with fail
    go_loop [10, 17, 18, 19] (fun i es cc jj => ∃ (m : Nat) (e : Bool), m ≤ n ∧ i = .int .i64 m ∧ es = .bool e ∧ Aside0 (e = false → run xs m = 0) ∧ Aside0 (seAt xs m e = R)) (fun i _ _ _ => n - (intOf i).toNat)
    case atStart => exact ⟨k, false, hk, rfl, rfl, ⟨fun _ => HZ.out⟩, HF⟩
    case round =>
      clear HZ HF
      obtain ⟨m, e, hmn, rfl, rfl, HE, HF⟩ := hrel
      by_cases hlt : m < n
      · have hlt' := Aside0.mk (show m < xs.length by rw [HL.out]; exact hlt)
        obtain ⟨x, hx⟩ : ∃ x, x = xs.getD m 0 := ⟨_, rfl⟩
        have HX := Aside0.mk hx
        have hc : wc.cell? ⟨h, o + m, none⟩ = some (.int .u8 x) := by rw [hx]; exact HW.out.2 m hlt'.out
        clear hx
        by_cases h1 : 92 < x
        · go_wp2
          go_round
          case rel => exact ⟨m + 1, e, by omega, by go_num, rfl, ⟨fun _ => by rw [run_succ hlt'.out, if_neg (by rw [← HX.out]; omega)]⟩, ⟨by have := HF.out; rwa [se_other hlt'.out HX.out (by omega) (by omega)] at this⟩⟩
          case measure => simp [intOf]; omega
        · by_cases h2 : x = 92
          · subst h2
            go_wp2
            go_round
            case rel => exact ⟨m + 1, true, by omega, by go_num, rfl, ⟨fun h => by cases h⟩, ⟨by
              have := HF.out
              rw [se_back hlt'.out HX.out rfl (fun hs => by
                cases e
                · have := HE.out rfl; unfold skip at hs; rw [this] at hs; cases hs
                · rfl)] at this
              exact this⟩⟩
            case measure => simp [intOf]; omega
          · have h2' : (x == 92) = false := by simpa using h2
            by_cases h3 : x = 34
            · subst h3
              cases e
              · have HQ := HF.out
                rw [se_quote hlt'.out HX.out rfl (by unfold skip; rw [HE.out rfl]; rfl)] at HQ
                go_wp2
                go_ret2
                subst HQ
                exact ⟨rfl, HB.out⟩
              · go_wp2
                have hrl := Aside0.mk (run_le (xs := xs) (m := m) (Nat.le_of_lt hlt'.out))
                go_loop [19] (fun j => ∃ t : Nat, t ≤ run xs m ∧ t % 2 = 0 ∧ ((t = m ∧ j = .int .i64 (-1)) ∨ ∃ p : Nat, t + p + 1 = m ∧ j = .int .i64 p)) (fun j => (intOf j + 1).toNat)
                case atStart =>
                  rcases Nat.eq_zero_or_pos m with hm0 | hm0
                  · exact ⟨0, Nat.zero_le _, rfl, .inl ⟨hm0.symm, by go_num⟩⟩
                  · exact ⟨0, Nat.zero_le _, rfl, .inr ⟨m - 1, by omega, by go_num⟩⟩
                case round =>
                  obtain ⟨t, ht, he2, hj⟩ := hrel
                  rcases hj with ⟨htm, rfl⟩ | ⟨p, hp, rfl⟩
                  · have HQ := HF.out
                    rw [se_quote hlt'.out HX.out rfl (by unfold skip; rw [show run xs m % 2 = 0 by have := hrl.out; omega]; rfl)] at HQ
                    clear ht he2 htm
                    go_wp2
                    go_ret2
                    subst HQ
                    exact ⟨rfl, HB.out⟩
                  · have hpn : p < n := by omega
                    by_cases h5 : t = run xs m
                    · obtain ⟨y, hy⟩ : ∃ y, y = xs.getD p 0 := ⟨_, rfl⟩
                      have hcp : wc.cell? ⟨h, o + p, none⟩ = some (.int .u8 y) := by rw [hy]; exact HW.out.2 p (by have := hlt'.out; omega)
                      have hyb : (y != 92) = true := by
                        have := run_eq (xs := xs) (m := m) (p := p) (by have := hlt'.out; omega) (by omega)
                        rw [← hy] at this; simpa using this
                      have HQ := HF.out
                      rw [se_quote hlt'.out HX.out rfl (by unfold skip; rw [show run xs m % 2 = 0 by omega]; rfl)] at HQ
                      clear hy ht he2 h5
                      go_wp2
                      go_ret2
                      subst HQ
                      exact ⟨rfl, HB.out⟩
                    · have hcp : wc.cell? ⟨h, o + p, none⟩ = some (.int .u8 92) := by
                        rw [← run_lt (xs := xs) (m := m) (t := t) (p := p) (by have := hlt'.out; omega) (by omega) hp]; exact HW.out.2 p (by have := hlt'.out; omega)
                      have HS : Aside0 (run xs m = t + 1 → seAt xs (m + 1) true = R) := ⟨fun hr => by
                        have := HF.out
                        rwa [se_quoted hlt'.out HX.out rfl (by unfold skip; rw [show run xs m % 2 = 1 by omega]; rfl)] at this⟩
                      have HT := Aside0.mk (And.intro ht (And.intro he2 h5))
                      clear ht he2 h5
                      by_cases h6 : p = 0
                      · subst h6
                        have hc0 : wc.cell? ⟨h, o, none⟩ = some (.int .u8 92) := hcp
                        clear hcp
                        go_wp2
                        go_round
                        case rel => exact ⟨m + 1, true, by omega, by go_num, rfl, ⟨fun h => by cases h⟩, ⟨HS.out (by have := HT.out; have := hrl.out; omega)⟩⟩
                        case measure => simp [intOf]; omega
                      · have hp1 : 1 ≤ p := by omega
                        by_cases h7 : run xs m = t + 1
                        · obtain ⟨y, hy⟩ : ∃ y, y = xs.getD (p - 1) 0 := ⟨_, rfl⟩
                          have hcq : wc.cell? ⟨h, o + (p - 1), none⟩ = some (.int .u8 y) := by rw [hy]; exact HW.out.2 (p - 1) (by have := hlt'.out; omega)
                          have hyb : (y != 92) = true := by
                            have := run_eq (xs := xs) (m := m) (p := p - 1) (by have := hlt'.out; omega) (by omega)
                            rw [← hy] at this; simpa using this
                          have HS2 := Aside0.mk (HS.out h7)
                          clear hy h7
                          go_wp2
                          go_round
                          case rel => exact ⟨m + 1, true, by omega, by go_num, rfl, ⟨fun h => by cases h⟩, HS2⟩
                          case measure => simp [intOf]; omega
                        · have hcq : wc.cell? ⟨h, o + (p - 1), none⟩ = some (.int .u8 92) := by
                            rw [← run_lt (xs := xs) (m := m) (t := t + 1) (p := p - 1) (by have := hlt'.out; omega) (by have := HT.out; omega) (by omega)]; exact HW.out.2 (p - 1) (by have := hlt'.out; omega)
                          have HT2 : Aside0 (t + 2 ≤ run xs m ∧ (t + 2) % 2 = 0) := ⟨by have := HT.out; omega⟩
                          clear h7
                          go_wp2
                          go_round
                          case rel =>
                            rcases Nat.eq_or_lt_of_le hp1 with hq | hq
                            · exact ⟨t + 2, HT2.out.1, HT2.out.2, .inl ⟨by omega, by go_num⟩⟩
                            · exact ⟨t + 2, HT2.out.1, HT2.out.2, .inr ⟨p - 2, by omega, by go_num⟩⟩
                          case measure => simp [intOf]; omega
            · have h3' : (x == 34) = false := by simpa using h3
              go_wp2
              go_round
              case rel => exact ⟨m + 1, e, by omega, by go_num, rfl, ⟨fun _ => by rw [run_succ hlt'.out, if_neg (by rw [← HX.out]; omega)]⟩, ⟨by have := HF.out; rwa [se_other hlt'.out HX.out (by omega) (by omega)] at this⟩⟩
              case measure => simp [intOf]; omega
      · have HQ := HF.out
        rw [se_end (by rw [HL.out]; exact hlt)] at HQ
        go_wp2
        go_ret2
        subst HQ
        exact ⟨rfl, HB.out⟩
end Go.Proofs.YtpahejmkidhhhaaDoor.G
