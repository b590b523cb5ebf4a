/- searchKeys: the walk. -/
import Derived.Test.YtpahejmkidhhhaaDoorGvSo
import Derived.Test.YtpahejmkidhhhaaDoorGvSs
namespace Go.Proofs.YtpahejmkidhhhaaDoor.G
set_option linter.unusedVariables false
set_option linter.unusedSimpArgs false
open Go.RowKit Go.Proofs.YtpahejmkidhhhaaDoorW.PrintWords

theorem sl_start (w : World) (h o n c : Nat) (zs : Array Value) (hz : zs.size = 64) :
    SL w h o n c (((w.alloc (.cells #[.bool false, .bool false, .int .i64 0] 90)).alloc (.cells #[.slice (some ⟨h, o, none⟩) n c] 54)).alloc (.cells zs 115)) := by
  have b1 : Below w.heap.size w (w.alloc (.cells #[.bool false, .bool false, .int .i64 0] 90)) := below_alloc1 _
  have s1 : (w.alloc (.cells #[.bool false, .bool false, .int .i64 0] 90)).heap.size = w.heap.size + 1 := World.size_alloc _ _
  have s2 : ((w.alloc (.cells #[.bool false, .bool false, .int .i64 0] 90)).alloc (.cells #[.slice (some ⟨h, o, none⟩) n c] 54)).heap.size = w.heap.size + 2 := by rw [World.size_alloc, s1]
  have h1 : ((w.alloc (.cells #[.bool false, .bool false, .int .i64 0] 90)).alloc (.cells #[.slice (some ⟨h, o, none⟩) n c] 54)).heap[w.heap.size + 1]? = some (.cells #[.slice (some ⟨h, o, none⟩) n c] 54) := by
    have := heap_alloc_new (w.alloc (.cells #[.bool false, .bool false, .int .i64 0] 90)) (.cells #[.slice (some ⟨h, o, none⟩) n c] 54)
    rwa [s1] at this
  have b2 := below_alloc1 (w := w.alloc (.cells #[.bool false, .bool false, .int .i64 0] 90)) (.cells #[.slice (some ⟨h, o, none⟩) n c] 54)
  have b3 := below_alloc1 (w := (w.alloc (.cells #[.bool false, .bool false, .int .i64 0] 90)).alloc (.cells #[.slice (some ⟨h, o, none⟩) n c] 54)) (.cells zs 115)
  have h2 := heap_alloc_new ((w.alloc (.cells #[.bool false, .bool false, .int .i64 0] 90)).alloc (.cells #[.slice (some ⟨h, o, none⟩) n c] 54)) (.cells zs 115)
  rw [s2] at h2
  have hB := below_step (below_step b1 b2) b3
  refine ⟨hB, ((cfg_new w 90).below b2).below b3, by rw [World.size_alloc, s2]; omega, ?_, ⟨by rw [World.size_alloc, s2]; omega, fun i hi => ⟨?_, ?_⟩⟩⟩
  · rw [b3.cell (p := ⟨w.heap.size + 1, 0, none⟩) (by rw [s2]; show w.heap.size + 1 < _; omega)]
    unfold World.cell?
    simp only [h1]
    rfl
  · unfold World.cell?
    simp only [h2, Nat.zero_add]
    simp [show i < zs.size by omega]
  · unfold World.frozen?
    simp only [h2]
    rfl
theorem kp_join {c : Code} {Q : Exit → Act → World → Prop} {P : Act → World → Prop} {a : Act} {w : World} (hP : ∀ a w, P a w → Q .ret a w) (h : c.wp Tryd.prog (KP P (fun a' w' => Q .normal a' w')) a w) : c.wp Tryd.prog Q a w :=
  Code.wp_mono (fun e a w hh => by cases e <;> first | exact hP _ _ hh | exact hh | exact hh.elim) h
set_option maxHeartbeats 16000000 in
set_option maxRecDepth 1000000 in
theorem search_walk (E : Nat → Value) (K : List ByteArray) (a : Addr) (kn kc h o n c : Nat) (xs : List Int) (w : World) (hsub : Sub E K) (hk0 : 0 < kn) (hkl : K.length = kn) (hkm : kn ≤ 140737488351232) (hks : ∀ s ∈ K, s.size ≤ 281474976710656) (hkc : kn ≤ kc) (hka : KeysAt w (some a) K) (hG : SW w E) (H : RowAt w h o xs) (hby : Bytes xs) (hl : xs.length = n) (hn : n ≤ 140737488351232) (hnc : n ≤ c) (R : Int) (hR : skR sks K xs 0 0 0 true = R) :
    Calls Tryd.prog 67 #[.agg #[.bool false, .bool false, .int .i64 0], .slice (some ⟨h, o, none⟩) n c, .slice (some a) kn kc] w (SKA R w) := by
  have HSub := Aside0.mk hsub
  have HKl := Aside0.mk hkl
  have HKs := Aside0.mk hks
  have HKa := Aside0.mk hka
  have HG := Aside0.mk hG
  have HH := Aside0.mk H
  have HBy := Aside0.mk hby
  have HL := Aside0.mk hl
  have HR := Aside0.mk hR
  have hk0b : ((kn : Int) == 0) = false := by simp; omega
  clear hsub hkl hks hka hG H hby hl hR
  go_enter Tryd.func67, Tryd.ntmps67
  go_wp2_with fail
  go_loopw [7, 8, 9, 12] (fun v7 v8 v9 v12 wr => ∃ (m : Nat) (lv kl : Int) (lm : Bool), v7 = .int .i64 kl ∧ v8 = .int .i64 lv ∧ v9 = .int .i64 (m : Int) ∧ v12 = .bool lm ∧ m ≤ n ∧ kl < (kn : Int) ∧ -(m : Int) ≤ kl ∧ -(m : Int) ≤ lv ∧ lv ≤ (m : Int) ∧ Aside0 (0 ≤ kl ∨ kl < lv) ∧ Aside0 (skR sks K xs m lv kl lm = R) ∧ Aside0 (SL w h o n c wr)) (fun _ _ v9 _ _ => n - (intOf v9).toNat)
  case atStart => exact ⟨0, 0, 0, true, rfl, rfl, rfl, rfl, Nat.zero_le _, by omega, by omega, by omega, by omega, ⟨.inl (Int.le_refl _)⟩, HR, ⟨sl_start w h o n c _ rfl⟩⟩
  case round =>
    clear HR
    obtain ⟨m0, lv, kl, lm, rfl, rfl, rfl, rfl, hmn0, hkl1, hkl2, hlv1, hlv2, HP, HF0, HS⟩ := hrel
    have HW := Aside0.mk (HH.out.below HS.out.below)
    have hd := HS.out.dat
    by_cases hlt0 : m0 < n
    · go_wp2_with fail
      go_loop [9] (fun i => ∃ m : Nat, m0 ≤ m ∧ m ≤ n ∧ i = .int .i64 m ∧ Aside0 (skR sks K xs m lv kl lm = R)) (fun i => n - (intOf i).toNat)
      case atStart => exact ⟨m0, Nat.le_refl _, hmn0, rfl, HF0⟩
      case round =>
        clear HF0
        obtain ⟨m, hm0, hmn, rfl, HF⟩ := hrel
        by_cases hlt : m < n
        · have hlt' := Aside0.mk (show m < xs.length by rw [HL.out]; exact hlt)
          obtain ⟨x, hx⟩ : ∃ x, x = xs.getD m 0 := ⟨_, rfl⟩
          have HX := Aside0.mk hx
          have hc : wr.cell? ⟨h, o + m, none⟩ = some (.int .u8 x) := by rw [hx]; exact HW.out.2 m hlt'.out
          clear hx
          by_cases h1 : x ≤ 32
          · as_aux_lemma =>
            go_wp2_with fail
            go_round
            case rel => exact ⟨m + 1, by omega, by omega, by go_num, ⟨by have := HF.out; rwa [sk_white hlt'.out HX.out (by omega) (by omega) (by omega) (by omega) (by omega)] at this⟩⟩
            case measure => simp [intOf]; omega
          · by_cases h125 : x = 125
            · subst h125
              have HE := HF.out
              rw [sk_close hlt'.out HX.out rfl] at HE
              rcases Decidable.em (lv - 1 = kl) with hq | hq
              · have hqb : (lv - 1 == kl) = true := by simpa using hq
                rw [if_pos hq] at HE
                replace HE := Aside0.mk HE
                replace hq := Aside0.mk hq
                as_aux_lemma =>
                go_wp2_with fail
                go_roundw
                case rel => exact ⟨m + 1, lv - 1, kl - 1, lm, by go_num, by go_num, by go_num, rfl, by omega, by omega, by omega, by omega, by omega, ⟨by have := HP.out; have := hq.out; omega⟩, HE, HS⟩
                case measure => simp [intOf]; omega
              · have hqb : (lv - 1 == kl) = false := by simpa using hq
                rw [if_neg hq] at HE
                replace HE := Aside0.mk HE
                replace hq := Aside0.mk hq
                as_aux_lemma =>
                go_wp2_with fail
                go_roundw
                case rel => exact ⟨m + 1, lv - 1, kl, lm, rfl, by go_num, by go_num, rfl, by omega, by omega, by omega, by omega, by omega, ⟨by have := HP.out; have := hq.out; omega⟩, HE, HS⟩
                case measure => simp [intOf]; omega
            · by_cases h123 : x = 123
              · subst h123
                cases lm with
                | true =>
                  have HE := HF.out
                  rw [sk_open hlt'.out HX.out rfl] at HE
                  replace HE := Aside0.mk HE
                  as_aux_lemma =>
                  go_wp2_with fail
                  go_roundw
                  case rel => exact ⟨m + 1, lv + 1, kl, true, rfl, by go_num, by go_num, rfl, by omega, by omega, by omega, by omega, by omega, ⟨by have := HP.out; omega⟩, HE, HS⟩
                  case measure => simp [intOf]; omega
                | false =>
                  have hg0 := HS.out.cfg.2.1
                  have hg1 := HS.out.cfg.2.2.1
                  have hg2 := HS.out.cfg.2.2.2
                  have hDL : (xs.drop m).length = n - m := by rw [List.length_drop, HL.out]
                  have hcm : ¬ c = m := by omega
                  have C := Aside0.mk (fun W R' hR' (hW : RowAt W h o xs) => blockEnd_walk 123 125 (by decide) (by decide) (by decide) h (o + m) (n - m) (c - m) (xs.drop m) W (hW.drop m) (HBy.out.drop m) hDL (by omega) (by omega) R' hR')
                  rcases blkAt_bound 123 125 (xs.drop m) with hb | ⟨j, hj1, hj2, hb⟩
                  · have HQ := HF.out
                    rw [sk_brace0 hlt'.out HX.out rfl hb] at HQ
                    subst HQ
                    replace C := Aside0.mk (fun W hW => C.out W _ hb hW)
                    clear hb hDL
                    as_aux_lemma =>
                    go_upto_region 57 with fail
                    go_region_with (go_at_call 65; refine (C.out _ (HW.out.below (Below.refl _ _).drew)).mono ?_; rintro e w2 ⟨rfl, hb⟩)
                    all_goals go_wp2
                    all_goals go_ret
                    all_goals exact ⟨rfl, ((HS.out.step (Below.refl _ _).drew).step hb).below⟩
                  · have HE := HF.out
                    rw [sk_brace1 hlt'.out HX.out rfl hb] at HE
                    replace HE := Aside0.mk HE
                    rw [hDL] at hj2
                    have hjb : ((j : Int) == -1) = false := by simp
                    replace C := Aside0.mk (fun W hW => C.out W _ hb hW)
                    clear hb hDL
                    as_aux_lemma =>
                    go_upto_region 57 with fail
                    go_region_with (go_at_call 65; refine (C.out _ (HW.out.below (Below.refl _ _).drew)).mono ?_; rintro e w2 ⟨rfl, hb⟩)
                    all_goals go_wp2_with fail
                    all_goals
                      go_roundw
                      case rel => exact ⟨m + j, lv, kl, false, rfl, rfl, by go_num, rfl, by omega, by omega, by omega, by omega, by omega, HP, HE, ⟨(HS.out.step (Below.refl _ _).drew).step hb⟩⟩
                      case measure => simp [intOf]; omega
              · have h125n : (x != 125) = true := by simpa using h125
                have h123n : (x != 123) = true := by simpa using h123
                have h125b : (x == 125) = false := by simpa using h125
                have h123b : (x == 123) = false := by simpa using h123
                by_cases h92 : 92 < x
                · as_aux_lemma =>
                  go_wp2_with fail
                  go_round
                  case rel => exact ⟨m + 1, by omega, by omega, by go_num, ⟨by have := HF.out; rwa [sk_white hlt'.out HX.out (by omega) (by omega) (by omega) (by omega) (by omega)] at this⟩⟩
                  case measure => simp [intOf]; omega
                · by_cases h34 : x = 34
                  · subst h34
                    have hc34 := Aside0.mk HX.out.symm
                    as_aux_lemma =>
                    go_upto_if 74 with fail
                    refine wp_cond_true rfl ?_
                    refine wp_skip ?_
                    go_upto_if 74 with fail
                    refine kp_join (fun _ _ h => h) ?_
                    refine str_all K a kn kc h o n c m R kl lv lm xs w wr E HKl.out hkm HKa.out HG.out HH.out HBy.out HL.out hn hnc HS.out hlt hc34.out hkl1 HP.out HF.out _ _ _ _ _ _ _ _ _ _ _ _ _ _ _ _ _ _ _ _ _ _ _ _ _ _ _ _ _ _ _ _ _ _ _ _ _ _ _ _ _ _ _ _ _ _ _ _ _ _ _ _ _ _ _ _ _ _ _ _ _ _ _ _ _ _ _ _ _ _ _ _ _ _ _ _ _ _ _ _ _ _ _ _ _ _ _ _ _ _ _ _ _ _ _ _ _ _ _ _ _ _ _ _ _ _ _ _ _ _ _ _ _ _ _ _ _ _ _ _ _ _ _ _ _ _ _ _ _ _ _ _ _ _ _ _ _ _ _ _ _ _ _ _ _ _ _ _ _ _ _ _ _ _ _ _ _ _ _ _ _ _ _ _ _ _ _ _ _ _ _ _ _ _ _ _ _ _ _ _ _ _ _ _ _ _ _ _ _ _ _ _ _ _ _ _ _ _ _ _ _ _ _ _ _ _ _ _ _ _ _ _ _ _ _ _ _ _ _ _ _ _ _ _ _ _ _ _ _ _ _ _ _ _ _ _ _ _ _ _ _ _ _ _ _ _ _ _ _ _ _ _ _ _ _ _ _ _ _ _ _ _ _ _ _ _ _ _ _ _ _ _ _ _ (fun z2 kl2 lm2 w2 v9 y15 y16 y17 y18 y19 y20 y21 y22 y23 y24 y77 y78 y79 y80 y81 y82 y83 y84 y85 y86 y87 y88 y89 y90 y91 y92 y93 y94 y95 y96 y97 y98 y99 y100 y101 y102 y103 y104 y105 y106 y107 y108 y109 y110 y111 y112 y113 y114 y115 y116 y117 y118 y119 y120 y121 y122 y123 y124 y125 y126 y127 y128 y129 y130 y131 y132 y133 y134 y135 y136 y137 y138 y139 y140 y141 y142 y143 y144 y145 y146 y147 y148 y149 y150 y151 y152 y153 y154 y155 y156 y157 y158 y159 y160 y161 y162 y163 e1 hz1 hz2 hS2 hk1 hk2 hk3 hR2 => ?_)
                    subst e1
                    replace hR2 := Aside0.mk hR2
                    replace hS2 := Aside0.mk hS2
                    replace hk3 := Aside0.mk hk3
                    dsimp only []
                    go_wp2_with fail
                    go_roundw
                    case rel =>
                      (repeat apply Exists.intro)
                      exact ⟨⟨z2 + 1, lv, kl2, lm2, rfl, rfl, by go_num, rfl, by omega, hk1, by omega, by omega, by omega, hk3, hR2, hS2⟩, rfl⟩
                    case measure => simp [intOf]; omega
                  · have h34b : (x == 34) = false := by simpa using h34
                    by_cases h91 : x = 91
                    · subst h91
                      have hg0 := HS.out.cfg.2.1
                      have hg1 := HS.out.cfg.2.2.1
                      have hg2 := HS.out.cfg.2.2.2
                      have hcm : ¬ c = m := by omega
                      rcases Decidable.em (kl = lv) with hq | hq
                      · subst hq
                        have hqb : (kl == kl) = true := by simp
                        obtain ⟨p, hp⟩ : ∃ p : Nat, kl = (p : Int) := ⟨kl.toNat, by have := HP.out; omega⟩
                        subst hp
                        obtain ⟨s, hs⟩ : ∃ s, s = K.getD p ByteArray.empty := ⟨_, rfl⟩
                        have hpk : p < kn := by omega
                        have hcs : wr.cell? (a.add p) = some (.string s) := by
                          obtain ⟨b, h1, h2, h3⟩ := (HKa.out.below HS.out.below) p (by rw [HKl.out]; exact hpk)
                          obtain rfl := Option.some.inj h1
                          rw [h3, hs]
                        replace hs := Aside0.mk hs
                        have hgs : ∀ i (hi : i < s.size), (bytesOf s).getD i 0 = ((s[i]'hi).toNat : Int) := bytes_at s
                        have hssz : s.size ≤ 281474976710656 := by
                          rw [hs.out]
                          have hm : K.getD p ByteArray.empty ∈ K := by
                            rw [List.getD_eq_getElem?_getD, List.getElem?_eq_getElem (by rw [HKl.out]; exact hpk)]
                            exact List.getElem_mem _
                          exact HKs.out _ hm
                        replace hgs := Aside0.mk hgs
                        rcases Nat.eq_zero_or_pos s.size with h0 | h0
                        · have h0b : ¬ (0 : Int) < (s.size : Int) := by omega
                          have hno : ¬ ((p : Int) = (p : Int) ∧ isIx (K.getD ((p : Nat) : Int).toNat ByteArray.empty) = true) := fun hh => by
                            have := hh.2
                            rw [Int.toNat_natCast, ← hs.out] at this
                            unfold isIx at this
                            rw [h0] at this
                            simp at this
                          have hDL : (xs.drop m).length = n - m := by rw [List.length_drop, HL.out]
                          have C := Aside0.mk (fun W R' hR' (hW : RowAt W h o xs) => blockEnd_walk 91 93 (by decide) (by decide) (by decide) h (o + m) (n - m) (c - m) (xs.drop m) W (hW.drop m) (HBy.out.drop m) hDL (by omega) (by omega) R' hR')
                          rcases blkAt_bound 91 93 (xs.drop m) with hb | ⟨j, hj1, hj2, hb⟩
                          · have HQ := HF.out
                            rw [sk_arr0 hlt'.out HX.out rfl hno hb] at HQ
                            subst HQ
                            replace C := Aside0.mk (fun W hW => C.out W _ hb hW)
                            clear hb hDL hno
                            as_aux_lemma =>
                            go_upto_region 85 with fail
                            go_region_with (go_at_call 65; refine (C.out _ (HW.out.below (Below.refl _ _).drew)).mono ?_; rintro e w2 ⟨rfl, hb⟩)
                            all_goals go_wp2
                            all_goals go_ret
                            all_goals exact ⟨rfl, ((HS.out.step (Below.refl _ _).drew).step hb).below⟩
                          · have HE := HF.out
                            rw [sk_arr1 hlt'.out HX.out rfl hno hb] at HE
                            replace HE := Aside0.mk HE
                            rw [hDL] at hj2
                            have hjb : ((j : Int) == -1) = false := by simp
                            replace C := Aside0.mk (fun W hW => C.out W _ hb hW)
                            clear hb hDL hno
                            as_aux_lemma =>
                            go_upto_region 85 with fail
                            go_region_with (go_at_call 65; refine (C.out _ (HW.out.below (Below.refl _ _).drew)).mono ?_; rintro e w2 ⟨rfl, hb⟩)
                            all_goals go_wp2_with fail
                            all_goals
                              go_roundw
                              case rel => exact ⟨m + j, (p : Int), (p : Int), lm, rfl, rfl, by go_num, rfl, by omega, by omega, by omega, by omega, by omega, HP, HE, ⟨(HS.out.step (Below.refl _ _).drew).step hb⟩⟩
                              case measure => simp [intOf]; omega
                        · rcases Decidable.em ((bytesOf s).getD 0 0 = 91) with h91s | h91s
                          rotate_left
                          · have hs0 : (((s[0]'h0).toNat : Int) == 91) = false := by rw [← hgs.out 0 h0]; simpa using h91s
                            have hno : ¬ ((p : Int) = (p : Int) ∧ isIx (K.getD ((p : Nat) : Int).toNat ByteArray.empty) = true) := fun hh => by
                              have := hh.2
                              rw [Int.toNat_natCast, ← hs.out] at this
                              unfold isIx at this
                              rw [Bool.and_eq_true, beq_iff_eq] at this
                              exact h91s this.2
                            clear h91s
                            have hDL : (xs.drop m).length = n - m := by rw [List.length_drop, HL.out]
                            have C := Aside0.mk (fun W R' hR' (hW : RowAt W h o xs) => blockEnd_walk 91 93 (by decide) (by decide) (by decide) h (o + m) (n - m) (c - m) (xs.drop m) W (hW.drop m) (HBy.out.drop m) hDL (by omega) (by omega) R' hR')
                            rcases blkAt_bound 91 93 (xs.drop m) with hb | ⟨j, hj1, hj2, hb⟩
                            · have HQ := HF.out
                              rw [sk_arr0 hlt'.out HX.out rfl hno hb] at HQ
                              subst HQ
                              replace C := Aside0.mk (fun W hW => C.out W _ hb hW)
                              clear hb hDL hno
                              as_aux_lemma =>
                              go_upto_region 85 with fail
                              go_region_with (go_at_call 65; refine (C.out _ (HW.out.below (Below.refl _ _).drew)).mono ?_; rintro e w2 ⟨rfl, hb⟩)
                              all_goals go_wp2
                              all_goals go_ret
                              all_goals exact ⟨rfl, ((HS.out.step (Below.refl _ _).drew).step hb).below⟩
                            · have HE := HF.out
                              rw [sk_arr1 hlt'.out HX.out rfl hno hb] at HE
                              replace HE := Aside0.mk HE
                              rw [hDL] at hj2
                              have hjb : ((j : Int) == -1) = false := by simp
                              replace C := Aside0.mk (fun W hW => C.out W _ hb hW)
                              clear hb hDL hno
                              as_aux_lemma =>
                              go_upto_region 85 with fail
                              go_region_with (go_at_call 65; refine (C.out _ (HW.out.below (Below.refl _ _).drew)).mono ?_; rintro e w2 ⟨rfl, hb⟩)
                              all_goals go_wp2_with fail
                              all_goals
                                go_roundw
                                case rel => exact ⟨m + j, (p : Int), (p : Int), lm, rfl, rfl, by go_num, rfl, by omega, by omega, by omega, by omega, by omega, HP, HE, ⟨(HS.out.step (Below.refl _ _).drew).step hb⟩⟩
                                case measure => simp [intOf]; omega
                          · have hs0 : (((s[0]'h0).toNat : Int) == 91) = true := by rw [← hgs.out 0 h0]; simpa using h91s
                            have hix : isIx (K.getD ((p : Nat) : Int).toNat ByteArray.empty) = true := by
                              rw [Int.toNat_natCast, ← hs.out]
                              unfold isIx
                              rw [Bool.and_eq_true, beq_iff_eq]
                              exact ⟨by simpa using h0, h91s⟩
                            have HQ := HF.out
                            rw [sk_idx hlt'.out HX.out rfl rfl hix] at HQ
                            have h0i : (0 : Int) < (s.size : Int) := by omega
                            cases hk : kix s with
                            | none =>
                              have hQ : skA sks K xs m (p : Int) = -1 := by unfold skA; rw [Int.toNat_natCast, ← hs.out, hk]
                              rw [HQ] at hQ
                              subst hQ
                              replace hk := Aside0.mk hk
                              clear hix h91s HQ
                              as_aux_lemma =>
                              go_upto_if 210 with fail
                              refine Code.wp_mono (fun e a w h => ?_) (idx_bad K a kn kc h o n c m p xs w wr E HSub.out HKl.out hkm HKs.out hkc HKa.out HG.out HH.out HBy.out HL.out hn hnc HS.out hlt hpk s hs.out h0 hk.out _ _ _ _ _ _ _ _ _ _ _ _ _ _ _ _ _ _ _ _ _ _ _ _ _ _ _ _ _ _ _ _ _ _ _ _ _ _ _ _ _ _ _ _ _ _ _ _ _ _ _ _ _ _ _ _ _ _ _ _ _ _ _ _ _ _ _ _ _ _ _ _ _ _ _ _ _ _ _ _ _ _ _ _ _ _ _ _ _ _ _ _ _ _ _ _ _ _ _ _ _ _ _ _ _ _ _ _ _ _ _ _ _ _ _ _ _ _ _ _ _ _ _ _ _ _ _ _ _ _ _ _ _ _ _ _ _ _ _ _ _ _ _ _ _ _ _ _ _ _ _ _ _ _ _ _ _ _ _ _ _ _ _ _ _ _ _ _ _ _ _ _ _ _ _ _ _ _ _ _ _ _ _ _ _ _ _ _ _ _ _ _ _ _ _ _ _ _ _ _ _ _ _ _ _ _ _ _ _ _ _ _ _ _ _ _ _ _ _ _ _ _ _ _ _ _ _ _ _ _ _ _ _ _ _ _ _ _ _ _ _ _ _ _ _ _ _ _ _ _ _ _ _ _ _ _ _ _ _ _ _ _ _ _ _ _ _ _ _ _ _ _ _ _ _ _)
                              cases e <;> first | exact h | exact h.elim
                            | some v =>
                              replace hk := Aside0.mk hk
                              replace HQ := Aside0.mk HQ
                              clear hix h91s
                              as_aux_lemma =>
                              go_upto_if 210 with fail
                              refine Code.wp_mono (fun e a w h => ?_) (idx_ok K a kn kc h o n c m p xs w wr E HSub.out HKl.out hkm HKs.out hkc HKa.out HG.out HH.out HBy.out HL.out hn hnc HS.out hlt hpk s hs.out h0 v hk.out R HQ.out _ _ _ _ _ _ _ _ _ _ _ _ _ _ _ _ _ _ _ _ _ _ _ _ _ _ _ _ _ _ _ _ _ _ _ _ _ _ _ _ _ _ _ _ _ _ _ _ _ _ _ _ _ _ _ _ _ _ _ _ _ _ _ _ _ _ _ _ _ _ _ _ _ _ _ _ _ _ _ _ _ _ _ _ _ _ _ _ _ _ _ _ _ _ _ _ _ _ _ _ _ _ _ _ _ _ _ _ _ _ _ _ _ _ _ _ _ _ _ _ _ _ _ _ _ _ _ _ _ _ _ _ _ _ _ _ _ _ _ _ _ _ _ _ _ _ _ _ _ _ _ _ _ _ _ _ _ _ _ _ _ _ _ _ _ _ _ _ _ _ _ _ _ _ _ _ _ _ _ _ _ _ _ _ _ _ _ _ _ _ _ _ _ _ _ _ _ _ _ _ _ _ _ _ _ _ _ _ _ _ _ _ _ _ _ _ _ _ _ _ _ _ _ _ _ _ _ _ _ _ _ _ _ _ _ _ _ _ _ _ _ _ _ _ _ _ _ _ _ _ _ _ _ _ _ _ _ _ _ _ _ _ _ _ _ _ _ _ _ _ _ _ _ _ _ _)
                              cases e <;> first | exact h | exact h.elim
                      · have hqb : (kl == lv) = false := by simpa using hq
                        have hno : ¬ (kl = lv ∧ isIx (K.getD lv.toNat ByteArray.empty) = true) := fun hh => hq hh.1
                        replace hq := Aside0.mk hq
                        have hDL : (xs.drop m).length = n - m := by rw [List.length_drop, HL.out]
                        have C := Aside0.mk (fun W R' hR' (hW : RowAt W h o xs) => blockEnd_walk 91 93 (by decide) (by decide) (by decide) h (o + m) (n - m) (c - m) (xs.drop m) W (hW.drop m) (HBy.out.drop m) hDL (by omega) (by omega) R' hR')
                        rcases blkAt_bound 91 93 (xs.drop m) with hb | ⟨j, hj1, hj2, hb⟩
                        · have HQ := HF.out
                          rw [sk_arr0 hlt'.out HX.out rfl hno hb] at HQ
                          subst HQ
                          replace C := Aside0.mk (fun W hW => C.out W _ hb hW)
                          clear hb hDL hno
                          as_aux_lemma =>
                          go_upto_region 85 with fail
                          go_region_with (go_at_call 65; refine (C.out _ (HW.out.below (Below.refl _ _).drew)).mono ?_; rintro e w2 ⟨rfl, hb⟩)
                          all_goals go_wp2
                          all_goals go_ret
                          all_goals exact ⟨rfl, ((HS.out.step (Below.refl _ _).drew).step hb).below⟩
                        · have HE := HF.out
                          rw [sk_arr1 hlt'.out HX.out rfl hno hb] at HE
                          replace HE := Aside0.mk HE
                          rw [hDL] at hj2
                          have hjb : ((j : Int) == -1) = false := by simp
                          replace C := Aside0.mk (fun W hW => C.out W _ hb hW)
                          clear hb hDL hno
                          as_aux_lemma =>
                          go_upto_region 85 with fail
                          go_region_with (go_at_call 65; refine (C.out _ (HW.out.below (Below.refl _ _).drew)).mono ?_; rintro e w2 ⟨rfl, hb⟩)
                          all_goals go_wp2_with fail
                          all_goals
                            go_roundw
                            case rel => exact ⟨m + j, lv, kl, lm, rfl, rfl, by go_num, rfl, by omega, by omega, by omega, by omega, by omega, HP, HE, ⟨(HS.out.step (Below.refl _ _).drew).step hb⟩⟩
                            case measure => simp [intOf]; omega
                    · have h91b : (x == 91) = false := by simpa using h91
                      by_cases h58 : x = 58
                      · subst h58
                        have HQ := HF.out
                        rw [sk_colon hlt'.out HX.out rfl] at HQ
                        subst HQ
                        as_aux_lemma =>
                        go_wp2
                        go_ret
                        exact ⟨rfl, HS.out.below⟩
                      · have h58b : (x == 58) = false := by simpa using h58
                        by_cases h39 : x = 39
                        · subst h39
                          have hg0 := HS.out.cfg.2.1
                          as_aux_lemma =>
                          go_wp2_with fail
                          go_roundw
                          case rel => exact ⟨m + 1, lv, kl, lm, rfl, rfl, by go_num, rfl, by omega, by omega, by omega, by omega, by omega, HP, ⟨by have := HF.out; rwa [sk_white hlt'.out HX.out (by omega) (by omega) (by omega) (by omega) (by omega)] at this⟩, HS⟩
                          case measure => simp [intOf]; omega
                        · have h39b : (x == 39) = false := by simpa using h39
                          as_aux_lemma =>
                          go_wp2_with fail
                          go_roundw
                          case rel => exact ⟨m + 1, lv, kl, lm, rfl, rfl, by go_num, rfl, by omega, by omega, by omega, by omega, by omega, HP, ⟨by have := HF.out; rwa [sk_white hlt'.out HX.out (by omega) (by omega) (by omega) (by omega) (by omega)] at this⟩, HS⟩
                          case measure => simp [intOf]; omega
        · have HQ := HF.out
          rw [skR_end (by rw [HL.out]; exact hlt)] at HQ
          subst HQ
          as_aux_lemma =>
          go_wp2
          go_ret
          exact ⟨rfl, HS.out.below⟩
    · have HQ := HF0.out
      rw [skR_end (by rw [HL.out]; exact hlt0)] at HQ
      subst HQ
      as_aux_lemma =>
      go_wp2
      go_ret
      exact ⟨rfl, HS.out.below⟩
end Go.Proofs.YtpahejmkidhhhaaDoor.G
