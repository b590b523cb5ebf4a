/- jsonparser's internalGet behind a search. -/
import Derived.Test.YtpahejmkidhhhaaDoorGvV
namespace Go.Proofs.YtpahejmkidhhhaaDoor.G
set_option linter.unusedVariables false
set_option linter.unusedSimpArgs false
open Go.RowKit Go.Proofs.YtpahejmkidhhhaaDoorW.PrintWords

def SKA (s : Int) (w : World) (e : Ending) (w' : World) : Prop := e = .returned (.int .i64 s) ∧ Below w.heap.size w w'
set_option maxHeartbeats 8000000 in
set_option maxRecDepth 100000 in
theorem igetK_calls (E : Nat → Value) (h o n c : Nat) (ka : Option Addr) (kn kc : Nat) (xs : List Int) (w : World) (hE : ErrT w E) (H : RowAt w h o xs) (hby : Bytes xs) (hl : xs.length = n) (hn : n ≤ 140737488351232) (hnc : n ≤ c) (hk : 0 < kn)
    (s : Int) (hs : s = -1 ∨ ∃ s0 : Nat, s0 ≤ n ∧ s = s0)
    (hS : ∀ W, Below w.heap.size w W → Calls Tryd.prog 67 #[.agg #[.bool false, .bool false, .int .i64 0], .slice (some ⟨h, o, none⟩) n c, .slice ka kn kc] W (SKA s W)) :
    Calls Tryd.prog 49 #[.agg #[.bool false, .bool false, .int .i64 0], .slice (some ⟨h, o, none⟩) n c, .slice ka kn kc] w (IGA E (ig xs s) h o w) := by
  have HL := Aside0.mk hl
  have HBy := Aside0.mk hby
  have hB0 : Below w.heap.size w (w.alloc (.cells #[.bool false, .bool false, .int .i64 0] 90)) := below_alloc1 _
  have HW := Aside0.mk (H.below hB0)
  have HB0 := Aside0.mk hB0
  have HEr := Aside0.mk (hE.below hB0)
  have HC := Aside0.mk (cfg_new w 90)
  have g0 := HC.out.2.1
  have g1 := HC.out.2.2.1
  have g2 := HC.out.2.2.2
  have hk1 : (0 : Int) < (kn : Int) := by omega
  have hk2 : decide ((0 : Int) < (kn : Int)) = true := by simpa using hk1
  have SK := Aside0.mk (hS _ hB0)
  unfold SKA at SK
  rcases hs with hs | ⟨s0, hs0, hs⟩
  · subst hs
    have HG : Aside0 (ig xs (-1) = ⟨0, 0, 0, -1, -1, 1⟩) := ⟨rfl⟩
    clear hB0 hE H hby hl hS
    go_enter Tryd.func49, Tryd.ntmps49
    go_wp2_with (go_at_call 67; refine SK.out.mono ?_; rintro e w1 ⟨rfl, hb⟩; have he0 := (HEr.out.below hb).cell 0 (by omega))
    go_quiet (fail)
    go_wp2_with fail
    (try simp only [Exit.inBlock, Exit.then])
    refine bodyPost_ret (results_tmp5 rfl _ _ _) rfl ?_
    rw [HG.out]
    exact IGA.mk rfl rfl rfl rfl rfl (below_drewN (below_step HB0.out hb) _)
  · subst hs
    have hig : ig xs (s0 : Int) = igAt xs s0 := rfl
    unfold igAt at hig
    have hsb : ((s0 : Int) == -1) = false := by simp
    have hsn : s0 ≤ c := by omega
    have hDL : (xs.drop s0).length = n - s0 := by rw [List.length_drop, hl]
    have NT := Aside0.mk (fun W b (hW : RowAt W h b (xs.drop s0)) => next_calls h b (n - s0) (c - s0) (xs.drop s0) W hW hDL (by omega))
    have HD := Aside0.mk hDL
    clear hB0 hE H hby hl hS
    rcases Decidable.em (bl (xs.drop s0) = (xs.drop s0).length) with hb | hb
    · rw [if_pos hb] at hig
      have hnt : nt (xs.drop s0) = -1 := nt_no hb.symm
      have HG := Aside0.mk hig
      unfold NTA at NT
      rw [hnt] at NT
      clear hb hnt hig hDL
      rcases Decidable.em (c = s0) with hc | hc
      · have hcT : (c = s0) = True := eq_true hc
        have HR : Aside0 (∀ W, RowAt W h o xs → RowAt W h o (xs.drop s0)) := ⟨fun W hW => ⟨hW.1, fun j hj => by have := HL.out; rw [List.length_drop] at hj; omega⟩⟩
        clear hc
        go_enter Tryd.func49, Tryd.ntmps49
        go_wp2_with (go_at_call 67; refine SK.out.mono ?_; rintro e w1 ⟨rfl, hb0⟩; have h20 := (HC.out.below hb0).2.1; have h21 := (HC.out.below hb0).2.2.1; have h22 := (HC.out.below hb0).2.2.2)
        go_upto_region 5 with fail
        go_region_with (go_at_call 63; refine (NT.out _ _ (HR.out _ ((HW.out.below hb0).below (Below.refl _ _).drew))).mono ?_; rintro e w2 ⟨rfl, hb⟩; have he4 := (((HEr.out.below hb0).below (Below.refl _ _).drew).below hb).cell 2 (by omega))
        all_goals go_wp2_with fail
        all_goals go_quiet (fail)
        all_goals go_wp2_with fail
        all_goals (try simp only [Exit.inBlock, Exit.then])
        all_goals refine bodyPost_ret (results_tmp5 rfl _ _ _) rfl ?_
        all_goals rw [HG.out]
        all_goals exact IGA.mk rfl rfl rfl rfl rfl (below_drewN (below_step (below_step HB0.out hb0).drew hb) _)
      · have hcF : (c = s0) = False := eq_false hc
        clear hc
        go_enter Tryd.func49, Tryd.ntmps49
        go_wp2_with (go_at_call 67; refine SK.out.mono ?_; rintro e w1 ⟨rfl, hb0⟩; have h20 := (HC.out.below hb0).2.1; have h21 := (HC.out.below hb0).2.2.1; have h22 := (HC.out.below hb0).2.2.2)
        go_upto_region 5 with fail
        go_region_with (go_at_call 63; refine (NT.out _ _ (((HW.out.below hb0).below (Below.refl _ _).drew).drop s0)).mono ?_; rintro e w2 ⟨rfl, hb⟩; have he4 := (((HEr.out.below hb0).below (Below.refl _ _).drew).below hb).cell 2 (by omega))
        all_goals go_wp2_with fail
        all_goals go_quiet (fail)
        all_goals go_wp2_with fail
        all_goals (try simp only [Exit.inBlock, Exit.then])
        all_goals refine bodyPost_ret (results_tmp5 rfl _ _ _) rfl ?_
        all_goals rw [HG.out]
        all_goals exact IGA.mk rfl rfl rfl rfl rfl (below_drewN (below_step (below_step HB0.out hb0).drew hb) _)
    · rw [if_neg hb] at hig
      obtain ⟨m0, hm0⟩ : ∃ m0, m0 = bl (xs.drop s0) := ⟨_, rfl⟩
      have hm1 : m0 < n - s0 := by have := bl_le (xs.drop s0); omega
      have hnt : nt (xs.drop s0) = m0 := nt_at hm0 (by rw [hDL]; exact hm1)
      unfold NTA at NT
      rw [hnt] at NT
      obtain ⟨m, hm⟩ : ∃ m, m = s0 + m0 := ⟨_, rfl⟩
      have hmn : m < n := by omega
      have GT : Aside0 (∀ W, ErrT W E → RowAt W h o xs → Calls Tryd.prog 68 #[.agg #[.bool false, .bool false, .int .i64 0], .slice (some ⟨h, o, none⟩) n c, .int .i64 ((s0 : Int) + (m0 : Int))] W (GTA E xs h o c m W)) := ⟨fun W hE hW => by
        have := getType_calls E h o n c m xs W hE hW HBy.out HL.out hn hnc hmn
        rw [hm, Int.natCast_add] at this
        rw [hm]
        exact this⟩
      obtain ⟨hb1, hb2, hb3, hb4, hb5, hb6, hb7⟩ := gt_bound (xs := xs) (o := m) (by rw [HL.out]; exact hmn)
      have her : (gt xs m).er ≤ 6 := hb5
      unfold GTA at GT
      rw [← hm0, ← hm] at hig
      obtain ⟨⟨kd, vb, ve, er⟩, hgt⟩ : ∃ g, g = gt xs m := ⟨_, rfl⟩
      rw [← hgt] at hig GT hb1 hb2 hb3 hb4 her
      simp only [] at hig GT hb1 hb2 hb3 hb4 her
      have hmb : ((m0 : Int) == -1) = false := by simp
      have hmc : m ≤ c := by omega
      have hmc2 : ¬ c = m := by omega
      have hcF : (c = s0) = False := eq_false (by omega)
      have HM := Aside0.mk hm
      rw [HL.out] at hb2
      clear hnt hm0 hm hb5 hb6 hb7 hgt hb hDL
      rcases Decidable.em (er = 0) with he | he
      · subst he
        have hb3 := hb3 rfl
        clear hb4
        rw [if_pos rfl] at hig
        obtain ⟨L, hL⟩ : ∃ L, ve = m + L := ⟨ve - m, by omega⟩
        subst hL
        rcases Decidable.em (kd = 1) with hk | hk
        · subst hk
          rw [if_pos rfl] at hig
          have HG := Aside0.mk hig
          obtain ⟨J, hJ⟩ : ∃ J, L = J + 2 := ⟨L - 2, by have := hb3.2.2 rfl; omega⟩
          subst hJ
          simp only [if_true, Nat.add_sub_cancel_left] at GT
          clear hig hb3
          go_enter Tryd.func49, Tryd.ntmps49
          go_wp2_with (go_at_call 67; refine SK.out.mono ?_; rintro e w1 ⟨rfl, hb0⟩; have h20 := (HC.out.below hb0).2.1; have h21 := (HC.out.below hb0).2.2.1; have h22 := (HC.out.below hb0).2.2.2)
          go_upto_region 5 with fail
          go_region_with (go_at_call 63; refine (NT.out _ _ (((HW.out.below hb0).below (Below.refl _ _).drew).drop s0)).mono ?_; rintro e w2 ⟨rfl, hb⟩; have h30 := (((HC.out.below hb0).below (Below.refl _ _).drew).below hb).2.1; have h31 := (((HC.out.below hb0).below (Below.refl _ _).drew).below hb).2.2.1; have h32 := (((HC.out.below hb0).below (Below.refl _ _).drew).below hb).2.2.2)
          all_goals go_wp2_with (go_at_call 68; refine (GT.out _ (((HEr.out.below hb0).below (Below.refl _ _).drew).below hb) (((HW.out.below hb0).below (Below.refl _ _).drew).below hb)).mono ?_; rintro e w3 ⟨v, z, x, rfl, hb3, hA⟩; obtain ⟨rfl, rfl, rfl⟩ := hA.out; clear hA)
          all_goals (try simp only [Exit.inBlock, Exit.then])
          all_goals refine bodyPost_ret (results_tmp5 rfl _ _ _) rfl ?_
          all_goals rw [HG.out]
          all_goals refine IGA.mk rfl ?_ ?_ ?_ rfl (below_step (below_step (below_step HB0.out hb0).drew hb) hb3)
          · rw [HM.out]; push_cast; rfl
          · push_cast; rfl
          · show Value.slice (some ⟨h, o + m + 1, none⟩) J J = vSl h o ⟨1, m + 1, m + (J + 2) - 1, (m : Int), ((m + (J + 2) : Nat) : Int), 0⟩
            unfold vSl
            rw [if_pos rfl]
            simp only []
            rw [show m + (J + 2) - 1 - (m + 1) = J by omega, Nat.add_assoc]
        · rw [if_neg hk] at hig
          have HG := Aside0.mk hig
          have hkb : (kd == 1) = false := by simpa using hk
          simp only [if_true, Nat.add_sub_cancel_left] at GT
          clear hig hb3 hk
          go_enter Tryd.func49, Tryd.ntmps49
          go_wp2_with (go_at_call 67; refine SK.out.mono ?_; rintro e w1 ⟨rfl, hb0⟩; have h20 := (HC.out.below hb0).2.1; have h21 := (HC.out.below hb0).2.2.1; have h22 := (HC.out.below hb0).2.2.2)
          go_upto_region 5 with fail
          go_region_with (go_at_call 63; refine (NT.out _ _ (((HW.out.below hb0).below (Below.refl _ _).drew).drop s0)).mono ?_; rintro e w2 ⟨rfl, hb⟩; have h30 := (((HC.out.below hb0).below (Below.refl _ _).drew).below hb).2.1; have h31 := (((HC.out.below hb0).below (Below.refl _ _).drew).below hb).2.2.1; have h32 := (((HC.out.below hb0).below (Below.refl _ _).drew).below hb).2.2.2)
          all_goals go_wp2_with (go_at_call 68; refine (GT.out _ (((HEr.out.below hb0).below (Below.refl _ _).drew).below hb) (((HW.out.below hb0).below (Below.refl _ _).drew).below hb)).mono ?_; rintro e w3 ⟨v, z, x, rfl, hb3, hA⟩; obtain ⟨rfl, rfl, rfl⟩ := hA.out; clear hA)
          all_goals (try simp only [Exit.inBlock, Exit.then])
          all_goals refine bodyPost_ret (results_tmp5 rfl _ _ _) rfl ?_
          all_goals rw [HG.out]
          all_goals refine IGA.mk rfl ?_ ?_ ?_ rfl (below_step (below_step (below_step HB0.out hb0).drew hb) hb3)
          · rw [HM.out]; push_cast; rfl
          · push_cast; rfl
          · show Value.slice (some ⟨h, o + m, none⟩) L L = vSl h o ⟨kd, m, m + L, (m : Int), ((m + L : Nat) : Int), 0⟩
            unfold vSl
            rw [if_pos rfl]
            simp only []
            rw [show m + L - m = L by omega]
      · rw [if_neg he] at hig
        have HG := Aside0.mk hig
        obtain ⟨a, ha⟩ := HEr.out.ptr (er - 1) (by omega)
        simp only [if_neg he, ha] at GT
        have HA := Aside0.mk ha
        have HE0 := Aside0.mk he
        clear hig hb3 hb4 he ha
        go_enter Tryd.func49, Tryd.ntmps49
        go_wp2_with (go_at_call 67; refine SK.out.mono ?_; rintro e w1 ⟨rfl, hb0⟩; have h20 := (HC.out.below hb0).2.1; have h21 := (HC.out.below hb0).2.2.1; have h22 := (HC.out.below hb0).2.2.2)
        go_upto_region 5 with fail
        go_region_with (go_at_call 63; refine (NT.out _ _ (((HW.out.below hb0).below (Below.refl _ _).drew).drop s0)).mono ?_; rintro e w2 ⟨rfl, hb⟩; have h30 := (((HC.out.below hb0).below (Below.refl _ _).drew).below hb).2.1; have h31 := (((HC.out.below hb0).below (Below.refl _ _).drew).below hb).2.2.1; have h32 := (((HC.out.below hb0).below (Below.refl _ _).drew).below hb).2.2.2)
        all_goals go_wp2_with (go_at_call 68; refine (GT.out _ (((HEr.out.below hb0).below (Below.refl _ _).drew).below hb) (((HW.out.below hb0).below (Below.refl _ _).drew).below hb)).mono ?_; rintro e w3 ⟨v, z, x, rfl, hb3, hA⟩; obtain ⟨rfl, rfl, rfl⟩ := hA.out; clear hA)
        all_goals (try simp only [Exit.inBlock, Exit.then])
        all_goals refine bodyPost_ret (results_tmp5 rfl _ _ _) rfl ?_
        all_goals rw [HG.out]
        all_goals refine IGA.mk rfl ?_ ?_ ?_ ?_ (below_step (below_step (below_step HB0.out hb0).drew hb) hb3)
        · rw [HM.out]; push_cast; rfl
        · push_cast; rfl
        · unfold vSl; rw [if_neg HE0.out]; rfl
        · unfold vEr; rw [if_neg HE0.out, HA.out]; rfl
end Go.Proofs.YtpahejmkidhhhaaDoor.G
