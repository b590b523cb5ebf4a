/- jsonparser's blockEnd, walked. -/
import Derived.Test.YtpahejmkidhhhaaDoorGvC
namespace Go.Proofs.YtpahejmkidhhhaaDoor.G
set_option linter.unusedVariables false
set_option linter.unusedSimpArgs false
open Go.RowKit Go.Proofs.YtpahejmkidhhhaaDoorW.PrintWords

/-- The configuration's cells. -/
def CfgAt (w : World) (B : Nat) : Prop := B < w.heap.size ∧ w.cell? ⟨B, 0, none⟩ = some (.bool false) ∧ w.cell? ⟨B, 1, none⟩ = some (.bool false) ∧ w.cell? ⟨B, 2, none⟩ = some (.int .i64 0)
theorem CfgAt.below {w w' : World} {B : Nat} (H : CfgAt w B) (hb : Below w.heap.size w w') : CfgAt w' B :=
  ⟨Nat.lt_of_lt_of_le H.1 hb.size, by rw [hb.cell (p := ⟨B, 0, none⟩) H.1]; exact H.2.1, by rw [hb.cell (p := ⟨B, 1, none⟩) H.1]; exact H.2.2.1, by rw [hb.cell (p := ⟨B, 2, none⟩) H.1]; exact H.2.2.2⟩
theorem cfg_new (w : World) (t : TypeId) : CfgAt (w.alloc (.cells #[.bool false, .bool false, .int .i64 0] t)) w.heap.size := by
  have : (w.alloc (.cells #[.bool false, .bool false, .int .i64 0] t)).heap[w.heap.size]? = some (.cells #[.bool false, .bool false, .int .i64 0] t) := heap_alloc_new w _
  refine ⟨by simp [World.size_alloc], ?_, ?_, ?_⟩ <;> (unfold World.cell?; simp only [this]; rfl)

set_option maxHeartbeats 8000000 in
set_option maxRecDepth 100000 in
theorem blockEnd_walk (a b : Int) (ha : 39 < a) (hb : 39 < b) (hab : a ≠ b) (h o n c : Nat) (xs : List Int) (w : World) (H : RowAt w h o xs) (hby : Bytes xs) (hl : xs.length = n) (hm : n ≤ 140737488351232) (hn : n ≤ c) (R : Int) (hR : blkAt a b xs 0 0 = R) :
    Calls Tryd.prog 65 #[.agg #[.bool false, .bool false, .int .i64 0], .slice (some ⟨h, o, none⟩) n c, .int .u8 a, .int .u8 b] w fun e w' => e = .returned (.int .i64 R) ∧ Below w.heap.size w w' := by
  have HH := Aside0.mk H
  have HBy := Aside0.mk hby
  have HR := Aside0.mk hR
  have HL := Aside0.mk hl
  have hab' : (a == b) = false := by simpa using hab
  clear H hby hR hl
  go_enter Tryd.func65, Tryd.ntmps65
  go_wp2_with fail
  go_loopw [9, 10, 12, 13, 14, 15] (fun lv i cc q s e wr => ∃ (m : Nat) (l : Int), m ≤ n ∧ -(m : Int) ≤ l ∧ l ≤ m ∧ lv = .int .i64 l ∧ i = .int .i64 m ∧ Aside0 (blkAt a b xs l m = R) ∧ Aside0 (Below w.heap.size w wr) ∧ Aside0 (CfgAt wr w.heap.size)) (fun _ i _ _ _ _ _ => n - (intOf i).toNat)
  case atStart => exact ⟨0, 0, Nat.zero_le _, by omega, by omega, rfl, rfl, HR, ⟨(Below.refl _ _).alloc (Nat.le_refl _) _⟩, ⟨cfg_new _ _⟩⟩
  case round =>
    clear HR
    obtain ⟨m0, l, hmn0, hl1, hl2, rfl, rfl, HF0, HB, HCf⟩ := hrel
    have HW := Aside0.mk (HH.out.below HB.out)
    by_cases hlt0 : m0 < n
    · go_wp2_with fail
      go_loop [10, 12] (fun i cc => ∃ m : Nat, m0 ≤ m ∧ m ≤ n ∧ i = .int .i64 m ∧ Aside0 (blkAt a b xs l m = R)) (fun i _ => n - (intOf i).toNat)
      case atStart => exact ⟨m0, Nat.le_refl _, hmn0, rfl, HF0⟩
      case round =>
        clear HF0
        obtain ⟨m, hm0, hmn, rfl, HF⟩ := hrel
        by_cases hlt : m < n
        · have hlt' := Aside0.mk (show m < xs.length by rw [HL.out]; exact hlt)
          obtain ⟨x, hx⟩ : ∃ x, x = xs.getD m 0 := ⟨_, rfl⟩
          have HX := Aside0.mk hx
          have hc : wr.cell? ⟨h, o + m, none⟩ = some (.int .u8 x) := by rw [hx]; exact HW.out.2 m hlt'.out
          clear hx
          by_cases h1 : x ≤ 32
          · go_wp2
            go_round
            case rel => exact ⟨m + 1, by omega, by omega, by go_num, ⟨by have := HF.out; rwa [blk_other hlt'.out HX.out (by omega) (by omega) (by omega)] at this⟩⟩
            case measure => simp [intOf]; omega
          · by_cases h2 : x = a
            · subst h2
              have hx34 : (x == 34) = false := by simp; omega
              have hx39 : (x == 39) = false := by simp; omega
              go_wp2
              all_goals
                go_roundw
                case rel => exact ⟨m + 1, l + 1, by omega, by omega, by omega, by go_num, by go_num, ⟨by have := HF.out; rwa [blk_open hlt'.out HX.out (by omega) rfl] at this⟩, HB, HCf⟩
                case measure => simp [intOf]; omega
            · have h2' : (x == a) = false := by simpa using h2
              have h2n : (x != a) = true := by simpa using h2
              by_cases h3 : x = b
              · subst h3
                have hx34 : (x == 34) = false := by simp; omega
                have hx39 : (x == 39) = false := by simp; omega
                by_cases h4 : l - 1 = 0
                · have h4' : (l - 1 == 0) = true := by simpa using h4
                  have HQ := HF.out
                  rw [blk_last hlt'.out HX.out (by omega) h2 rfl h4] at HQ
                  clear h4
                  subst HQ
                  go_wp2
                  all_goals
                    go_ret
                    exact ⟨rfl, HB.out⟩
                · have h4' : (l - 1 == 0) = false := by simpa using h4
                  go_wp2
                  all_goals
                    go_roundw
                    case rel => exact ⟨m + 1, l - 1, by omega, by omega, by omega, by go_num, by go_num, ⟨by have := HF.out; rwa [blk_close hlt'.out HX.out (by omega) h2 rfl h4] at this⟩, HB, HCf⟩
                    case measure => simp [intOf]; omega
              · have h3' : (x == b) = false := by simpa using h3
                have h3n : (x != b) = true := by simpa using h3
                by_cases h4 : 92 < x
                · go_wp2
                  go_round
                  case rel => exact ⟨m + 1, by omega, by omega, by go_num, ⟨by have := HF.out; rwa [blk_other hlt'.out HX.out (by omega) h2 h3] at this⟩⟩
                  case measure => simp [intOf]; omega
                · by_cases h5 : x = 34
                  · subst h5
                    have hg0 := HCf.out.2.1
                    have hg1 := HCf.out.2.2.1
                    have hg2 := HCf.out.2.2.2
                    have hdl : (xs.drop (m + 1)).length = n - (m + 1) := by rw [List.length_drop, HL.out]
                    have HDL := Aside0.mk hdl
                    clear hdl
                    have hmc : m + 1 ≤ c := by omega
                    have hmn1 : m + 1 ≤ n := by omega
                    have hwr : IntKind.i64.wrap ((m : Int) + 1) = (m : Int) + 1 := by rw [IntKind.wrap_i64]; omega
                    obtain ⟨⟨r1, r2⟩, hr⟩ : ∃ r, r = seAt (xs.drop (m + 1)) 0 false := ⟨_, rfl⟩
                    have HBD := HBy.out.drop (m + 1)
                    rcases blk_quote (a := a) (b := b) (l := l) hlt'.out HX.out rfl with ⟨hs, hk⟩ | ⟨j, hj1, hj2, hs, hk⟩
                    · have hr1 : r1 = -1 := by rw [← hr] at hs; exact hs
                      subst hr1
                      have HQ := HF.out
                      rw [hk] at HQ
                      subst HQ
                      by_cases hcm : c = m + 1
                      · have C := Aside0.mk (fun W (hW : RowAt W h o xs) => strEnd_walk false false 0 h o (n - (m + 1)) 0 (xs.drop (m + 1)) W ⟨hW.1, fun j hj => by rw [HDL.out] at hj; omega⟩ HBD HDL.out (by omega) (by omega) _ hr.symm)
                        clear hs hk hr HBD
                        go_upto_region 17 with fail
                        go_region_with (go_at_call 75; refine (C.out _ (HW.out.below (Below.refl _ _).drew)).mono ?_; rintro e w2 ⟨rfl, hb⟩)
                        all_goals go_wp2
                        all_goals go_ret
                        all_goals exact ⟨rfl, below_step HB.out.drew hb⟩
                      · have C := Aside0.mk (fun W (hW : RowAt W h o xs) => strEnd_walk false false 0 h (o + (m + 1)) (n - (m + 1)) (c - (m + 1)) (xs.drop (m + 1)) W (hW.drop (m + 1)) HBD HDL.out (by omega) (by omega) _ hr.symm)
                        clear hs hk hr HBD
                        go_upto_region 17 with fail
                        go_region_with (go_at_call 75; refine (C.out _ (HW.out.below (Below.refl _ _).drew)).mono ?_; rintro e w2 ⟨rfl, hb⟩)
                        all_goals go_wp2
                        all_goals go_ret
                        all_goals exact ⟨rfl, below_step HB.out.drew hb⟩
                    · have hr1 : r1 = (j : Int) := by rw [← hr] at hs; exact hs
                      subst hr1
                      have hjn : m + 1 + j ≤ n := by rw [← HL.out]; exact hj2
                      have hcm : ¬ c = m + 1 := by omega
                      have hjb : ((j : Int) == -1) = false := by simp
                      have C := Aside0.mk (fun W (hW : RowAt W h o xs) => strEnd_walk false false 0 h (o + (m + 1)) (n - (m + 1)) (c - (m + 1)) (xs.drop (m + 1)) W (hW.drop (m + 1)) HBD HDL.out (by omega) (by omega) _ hr.symm)
                      have HK : Aside0 (blkAt a b xs l (m + 1 + j) = R) := ⟨by rw [← hk]; exact HF.out⟩
                      clear hs hk hr HBD hj2
                      go_upto_region 17 with fail
                      go_region_with (go_at_call 75; refine (C.out _ (HW.out.below (Below.refl _ _).drew)).mono ?_; rintro e w2 ⟨rfl, hb⟩)
                      all_goals go_wp2
                      all_goals
                        go_roundw
                        case rel => exact ⟨m + 1 + j, l, by omega, by omega, by omega, rfl, by go_num, HK, ⟨below_step HB.out.drew hb⟩, ⟨(HCf.out.below (Below.refl _ _).drew).below hb⟩⟩
                        case measure => simp [intOf]; omega
                  · have h5' : (x == 34) = false := by simpa using h5
                    by_cases h6 : x = 39
                    · subst h6
                      have hg0 := HCf.out.2.1
                      go_wp2
                      go_roundw
                      case rel => exact ⟨m + 1, l, by omega, by omega, by omega, rfl, by go_num, ⟨by have := HF.out; rwa [blk_other hlt'.out HX.out h5 h2 h3] at this⟩, HB, HCf⟩
                      case measure => simp [intOf]; omega
                    · have h6' : (x == 39) = false := by simpa using h6
                      go_wp2
                      go_roundw
                      case rel => exact ⟨m + 1, l, by omega, by omega, by omega, rfl, by go_num, ⟨by have := HF.out; rwa [blk_other hlt'.out HX.out h5 h2 h3] at this⟩, HB, HCf⟩
                      case measure => simp [intOf]; omega
        · have HQ := HF.out
          rw [blk_end (by rw [HL.out]; exact hlt)] at HQ
          go_wp2
          go_ret
          subst HQ
          exact ⟨rfl, HB.out⟩
    · have HQ := HF0.out
      rw [blk_end (by rw [HL.out]; exact hlt0)] at HQ
      go_wp2
      go_ret
      subst HQ
      exact ⟨rfl, HB.out⟩
end Go.Proofs.YtpahejmkidhhhaaDoor.G
