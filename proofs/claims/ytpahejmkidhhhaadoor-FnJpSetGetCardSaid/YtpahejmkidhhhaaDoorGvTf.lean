/- jsonparser's arrayEach (without keys) with searchKeys' function: the walk. searchKeys' function for arrayEach (81): it picks the element with the index. -/
import Derived.Test.YtpahejmkidhhhaaDoorGvTv
import Derived.Deep.RegionHeld3
section
namespace Go.Proofs.YtpahejmkidhhhaaDoor.G
set_option linter.unusedVariables false
set_option linter.unusedSimpArgs false
open Go.RowKit Go.Proofs.YtpahejmkidhhhaaDoorW.PrintWords

def AEA (E : Nat → Value) (S : Nat → Prop) (Inv : List Cl → World → Prop) (r : List Cl × Int × Nat) (w : World) (e : Ending) (w' : World) : Prop :=
  e = .returned (.tuple #[.int .i64 r.2.1, erV E r.2.2]) ∧ Kept S w w' ∧ Inv r.1 w'
def CBA (S : Nat → Prop) (P : World → Prop) (w : World) (e : Ending) (w' : World) : Prop := e = .returned (.tuple #[]) ∧ Kept S w w' ∧ P w'
/-- Where the loop stands. -/
def AeR (l : List Int) (off f : Nat) (cs : List Cl) : Prop := (aeW l).1 = cs ++ (aeL l f off).1 ∧ (aeW l).2 = (((aeL l f off).2.1 : Int), (aeL l f off).2.2)
theorem AeR.ret {l : List Int} {off f : Nat} {cs cs2 : List Cl} {o2 er : Nat} (H : AeR l off f cs) (h : aeL l f off = (cs2, o2, er)) : aeW l = (cs ++ cs2, (o2 : Int), er) := by
  unfold AeR at H
  rw [h] at H
  exact Prod.ext H.1 H.2
theorem AeR.next {l : List Int} {off f q : Nat} {cs : List Cl} {cl : Cl} (H : AeR l off (f + 1) cs) (h : aeL l (f + 1) off = (cl :: (aeL l f q).1, (aeL l f q).2)) : AeR l q f (cs ++ [cl]) := by
  unfold AeR at H ⊢
  rw [h] at H
  refine ⟨?_, H.2⟩
  rw [H.1]; simp
theorem aeL_step {l : List Int} {off f : Nat} {g : Gi} (hg : g = gi (l.drop off)) (h0 : g.en ≠ 0) (he : g.er = 0) :
    aeL l (f + 1) off = if off + g.en.toNat + bl (l.drop (off + g.en.toNat)) = l.length then ([clOf off g], off + g.en.toNat, 5)
      else if l.getD (off + g.en.toNat + bl (l.drop (off + g.en.toNat))) 0 = 93 then ([clOf off g], off + g.en.toNat + bl (l.drop (off + g.en.toNat)), 0)
      else if l.getD (off + g.en.toNat + bl (l.drop (off + g.en.toNat))) 0 ≠ 44 then ([clOf off g], off + g.en.toNat + bl (l.drop (off + g.en.toNat)), 5)
      else (clOf off g :: (aeL l f (off + g.en.toNat + bl (l.drop (off + g.en.toNat)) + 1)).1, (aeL l f (off + g.en.toNat + bl (l.drop (off + g.en.toNat)) + 1)).2) := by
  rw [aeL, ← hg]
  simp only []
  rw [if_neg h0, if_neg (by rw [he]; decide)]
theorem clV_ok {h o off : Nat} {g : Gi} (he : g.er = 0) : clV h o (clOf off g) = .slice (some ⟨h, o + off + g.vb, none⟩) (g.ve - g.vb) (g.ve - g.vb) := by
  unfold clOf
  rw [if_pos he]
  unfold clV
  rw [if_pos rfl]
  simp only []
  rw [show off + g.ve - (off + g.vb) = g.ve - g.vb by omega, Nat.add_assoc]
theorem clV_bad {h o off : Nat} {g : Gi} (he : ¬ g.er = 0) : clV h o (clOf off g) = .slice none 0 0 := by
  unfold clOf
  rw [if_neg he]
  unfold clV
  rw [if_neg he]
/-- What Config.Get tells. -/
def GiA (E : Nat → Value) (g : Gi) (h b : Nat) (w : World) (e : Ending) (w' : World) : Prop :=
  e = .returned (.tuple #[if g.er = 0 then .slice (some ⟨h, b + g.vb, none⟩) (g.ve - g.vb) (g.ve - g.vb) else .slice none 0 0, .int .i64 g.kind, .int .i64 g.en, erV E g.er]) ∧ Below w.heap.size w w'
theorem giGet_calls (E : Nat → Value) (h o n c : Nat) (xs : List Int) (w : World) (hE : ErrT w E) (H : RowAt w h o xs) (hby : Bytes xs) (hl : xs.length = n) (hn : n ≤ 140737488351232) (hnc : n ≤ c) :
    Calls Tryd.prog 83 #[.agg #[.bool false, .bool false, .int .i64 0], .slice (some ⟨h, o, none⟩) n c, .slice none 0 0] w (GiA E (gi xs) h o w) := by
  refine (cget_calls E (ig xs 0) h o (.slice (some ⟨h, o, none⟩) n c) (.slice none 0 0) w (fun W hb => iget0_calls E h o n c none 0 xs W (hE.below hb) (H.below hb) hby hl hn hnc)).mono ?_
  rintro e w' ⟨v, x, rfl, hb, hA⟩
  obtain ⟨e1, e2, e3, e4, e5⟩ := gi_ig xs
  refine ⟨?_, hb⟩
  rw [e1, e2, e3, e4, e5, hA.out.1, hA.out.2]
  rfl
set_option maxHeartbeats 16000000 in
set_option maxRecDepth 100000 in
theorem each_calls (E : Nat → Value) (S : Nat → Prop) (Inv : List Cl → World → Prop) (h o n c : Nat) (p1 p2 p3 p4 p5 p6 : Value) (l : List Int) (w : World) (hE : ErrT w E) (H : RowAt w h o l) (hby : Bytes l) (hl : l.length = n) (hn : n ≤ 140737488351232) (hnc : n ≤ c)
    (hSh : ¬ S h) (hS10 : ∀ k, S k → 12 < k) (hSw : ∀ k, S k → k < w.heap.size) (hI : Inv [] w)
    (hst : ∀ cs W W', Inv cs W → Below W.heap.size W W' → Inv cs W')
    (hcb : ∀ cs cl W, cs.length ≤ n → Inv cs W → COk n cl → Calls Tryd.prog 81 #[clV h o cl, .int .i64 cl.kind, .int .i64 cl.off, erV E cl.er, p1, p2, p3, p4, p5, p6] W (CBA S (Inv (cs ++ [cl])) W)) :
    Calls Tryd.prog 74 #[.agg #[.bool false, .bool false, .int .i64 0], .slice (some ⟨h, o, none⟩) n c, .func (.func 81) #[] #[p1, p2, p3, p4, p5, p6], .slice none 0 0] w (AEA E S Inv (aeW l) w) := by
  have HL := Aside0.mk hl
  have HBy := Aside0.mk hby
  have hB0 : Below w.heap.size w (w.alloc (.cells #[.bool false, .bool false, .int .i64 0] 90)) := below_alloc1 _
  have HW := Aside0.mk (H.below hB0)
  have HB0 := Aside0.mk hB0
  have HEr := Aside0.mk (hE.below hB0)
  have HC := Aside0.mk (cfg_new w 90)
  have g0 := HC.out.2.1
  have g1 := HC.out.2.2.1
  have g2 := HC.out.2.2.2
  have hSX : ¬ S w.heap.size := fun hh => absurd (hSw _ hh) (Nat.lt_irrefl _)
  have HI := Aside0.mk (hst _ _ _ hI hB0)
  have HSt := Aside0.mk hst
  have HCb := Aside0.mk hcb
  have HS10 := Aside0.mk hS10
  have HSX := Aside0.mk hSX
  have HSh := Aside0.mk hSh
  have NT := Aside0.mk (fun W b q (hW : RowAt W h b (l.drop q)) (hq : q ≤ n) => next_calls h b (n - q) (c - q) (l.drop q) W hW (by rw [List.length_drop, hl]) (by omega))
  clear hSh hS10 hSw hSX hst hcb hI hE H hB0 hby hl
  rcases Nat.eq_zero_or_pos n with h0 | h0
  · subst h0
    have hA : Aside0 (aeW l = ([], -1, 6)) := ⟨by unfold aeW; rw [if_pos (List.eq_nil_of_length_eq_zero HL.out)]⟩
    have he5 := HEr.out.cell 5 (by omega)
    go_enter Tryd.func74, Tryd.ntmps74
    go_wp2_with fail
    go_quiet (fail)
    go_wp2_with fail
    go_ret2
    rw [hA.out]
    exact ⟨rfl, (Kept.of HB0.out).drewN _, HSt.out _ _ _ HI.out (below_drewN (Below.refl _ _) _)⟩
  have h0b : ((n : Int) == 0) = false := by
    have : ¬ (n : Int) = 0 := by omega
    simpa using this
  rcases Decidable.em (bl l = l.length) with hb | hb
  · have hA : Aside0 (aeW l = ([], -1, 3)) := ⟨by unfold aeW; rw [if_neg (by rintro rfl; have := HL.out; simp at this; omega), if_pos hb]⟩
    have NT1 := NT.out (w.alloc (.cells #[.bool false, .bool false, .int .i64 0] 90)) o 0 HW.out (Nat.zero_le _)
    unfold NTA at NT1
    rw [List.drop_zero, nt_no hb.symm] at NT1
    replace NT1 := Aside0.mk NT1
    clear hb
    go_enter Tryd.func74, Tryd.ntmps74
    go_wp2_with (go_at_call 63; refine NT1.out.mono ?_; rintro e w1 ⟨rfl, hb1⟩; have he2 := (HEr.out.below hb1).cell 2 (by omega))
    go_quiet (fail)
    go_wp2_with fail
    go_ret2
    rw [hA.out]
    exact ⟨rfl, (Kept.of (below_step HB0.out hb1)).drewN _, HSt.out _ _ _ HI.out (below_drewN hb1 _)⟩
  obtain ⟨b, hbb⟩ : ∃ b, b = bl l := ⟨_, rfl⟩
  have hbn : b < n := by have := bl_le l; have := HL.out; omega
  rcases Decidable.em (l.getD b 0 = 91) with h91 | h91
  rotate_left
  · have hA : Aside0 (aeW l = ([], -1, 5)) := ⟨by unfold aeW; rw [if_neg (by rintro rfl; have := HL.out; simp at this; omega), if_neg hb, if_pos (by rw [← hbb]; exact h91)]⟩
    have NT1 := NT.out (w.alloc (.cells #[.bool false, .bool false, .int .i64 0] 90)) o 0 HW.out (Nat.zero_le _)
    unfold NTA at NT1
    rw [List.drop_zero, nt_at hbb (by rw [HL.out]; exact hbn)] at NT1
    replace NT1 := Aside0.mk NT1
    have hbm : ((b : Int) == -1) = false := by simp
    obtain ⟨x, hx⟩ : ∃ x, x = l.getD b 0 := ⟨_, rfl⟩
    have hx91 : (x == 91) = false := by rw [hx]; simpa using h91
    have hx91n : (x != 91) = true := by rw [hx]; simpa using h91
    have H91 : Aside0 (∀ W, RowAt W h o l → W.cell? ⟨h, o + b, none⟩ = some (.int .u8 x)) := ⟨fun W hW => by rw [hW.2 b (by rw [HL.out]; exact hbn), hx]⟩
    clear hb hbb h91 hx
    go_enter Tryd.func74, Tryd.ntmps74
    go_wp2_with (go_at_call 63; refine NT1.out.mono ?_; rintro e w1 ⟨rfl, hb1⟩; have he4 := (HEr.out.below hb1).cell 4 (by omega); have hc91 := H91.out _ (HW.out.below hb1))
    go_quiet (fail)
    go_wp2_with fail
    go_ret2
    rw [hA.out]
    exact ⟨rfl, (Kept.of (below_step HB0.out hb1)).drewN _, HSt.out _ _ _ HI.out (below_drewN hb1 _)⟩
  obtain ⟨q, hq⟩ : ∃ q, q = b + 1 + bl (l.drop (b + 1)) := ⟨_, rfl⟩
  have hqn : q ≤ n := by have := bl_le (l.drop (b + 1)); rw [List.length_drop, HL.out] at this; omega
  rcases Decidable.em (q = n) with hqe | hqe
  · have hA : Aside0 (aeW l = ([], ((b + 1 : Nat) : Int), 3)) := ⟨by
      unfold aeW
      rw [if_neg (by rintro rfl; have := HL.out; simp at this; omega), if_neg hb, if_neg (by rw [← hbb, h91]; decide)]
      simp only []
      rw [← hbb, ← hq, if_pos (by rw [HL.out]; exact hqe)]⟩
    have NT1 := NT.out (w.alloc (.cells #[.bool false, .bool false, .int .i64 0] 90)) o 0 HW.out (Nat.zero_le _)
    unfold NTA at NT1
    rw [List.drop_zero, nt_at hbb (by rw [HL.out]; exact hbn)] at NT1
    replace NT1 := Aside0.mk NT1
    have hbm : ((b : Int) == -1) = false := by simp
    have H91 : Aside0 (∀ W, RowAt W h o l → W.cell? ⟨h, o + b, none⟩ = some (.int .u8 91)) := ⟨fun W hW => by rw [hW.2 b (by rw [HL.out]; exact hbn), h91]⟩
    have hnt : nt (l.drop (b + 1)) = -1 := nt_no (by rw [List.length_drop, HL.out]; omega)
    have NT2 := Aside0.mk (fun W bb (hW : RowAt W h bb (l.drop (b + 1))) => NT.out W bb (b + 1) hW (by omega))
    unfold NTA at NT2
    rw [hnt] at NT2
    have hbc : b + 1 ≤ c := by omega
    have hbn1 : b + 1 ≤ n := by omega
    clear hb hbb hq hqe hqn h91 hnt
    rcases Decidable.em (c = b + 1) with hc | hc
    · have hcT : (c = b + 1) = True := eq_true hc
      have HR : Aside0 (∀ W, RowAt W h o l → RowAt W h o (l.drop (b + 1))) := ⟨fun W hW => ⟨hW.1, fun j hj => by have := HL.out; rw [List.length_drop] at hj; omega⟩⟩
      clear hc
      go_enter Tryd.func74, Tryd.ntmps74
      go_wp2_with (go_at_call 63; refine NT1.out.mono ?_; rintro e w1 ⟨rfl, hb1⟩; have hc91 := H91.out _ (HW.out.below hb1); have h20 := (HC.out.below hb1).2.1; have h21 := (HC.out.below hb1).2.2.1; have h22 := (HC.out.below hb1).2.2.2)
      go_upto_region 20 with fail
      go_cut [12] from 73 to 77 (fun v wx => v = .int .i64 (-1) ∧ Aside0 (Below (w.alloc (.cells #[.bool false, .bool false, .int .i64 0] 90)).heap.size (w.alloc (.cells #[.bool false, .bool false, .int .i64 0] 90)) wx))
      case first =>
        go_region_with (go_at_call 63; refine (NT2.out _ (o) (HR.out _ ((HW.out.below hb1).below (Below.refl _ _).drew))).mono ?_; rintro e w2 ⟨rfl, hb2⟩)
        all_goals go_wp2_with fail
        all_goals go_meet
        all_goals exact ⟨rfl, ⟨below_step hb1.drew hb2⟩⟩
      case rest =>
        obtain ⟨rfl, HBw⟩ := hcut
        have he2 := (HEr.out.below HBw.out).cell 2 (by omega)
        go_wp2_with fail
        go_quiet (fail)
        go_wp2_with fail
        go_ret2
        rw [hA.out]
        exact ⟨by push_cast; rfl, (Kept.of (below_step HB0.out HBw.out)).drewN _, HSt.out _ _ _ HI.out (below_drewN HBw.out _)⟩
    · have hcF : (c = b + 1) = False := eq_false hc
      clear hc
      go_enter Tryd.func74, Tryd.ntmps74
      go_wp2_with (go_at_call 63; refine NT1.out.mono ?_; rintro e w1 ⟨rfl, hb1⟩; have hc91 := H91.out _ (HW.out.below hb1); have h20 := (HC.out.below hb1).2.1; have h21 := (HC.out.below hb1).2.2.1; have h22 := (HC.out.below hb1).2.2.2)
      go_upto_region 20 with fail
      go_cut [12] from 73 to 77 (fun v wx => v = .int .i64 (-1) ∧ Aside0 (Below (w.alloc (.cells #[.bool false, .bool false, .int .i64 0] 90)).heap.size (w.alloc (.cells #[.bool false, .bool false, .int .i64 0] 90)) wx))
      case first =>
        go_region_with (go_at_call 63; refine (NT2.out _ (o + (b + 1)) (((HW.out.below hb1).below (Below.refl _ _).drew).drop (b + 1))).mono ?_; rintro e w2 ⟨rfl, hb2⟩)
        all_goals go_wp2_with fail
        all_goals go_meet
        all_goals exact ⟨rfl, ⟨below_step hb1.drew hb2⟩⟩
      case rest =>
        obtain ⟨rfl, HBw⟩ := hcut
        have he2 := (HEr.out.below HBw.out).cell 2 (by omega)
        go_wp2_with fail
        go_quiet (fail)
        go_wp2_with fail
        go_ret2
        rw [hA.out]
        exact ⟨by push_cast; rfl, (Kept.of (below_step HB0.out HBw.out)).drewN _, HSt.out _ _ _ HI.out (below_drewN HBw.out _)⟩
  rcases Decidable.em (l.getD q 0 = 93) with h93 | h93
  · have hA : Aside0 (aeW l = ([], (q : Int), 0)) := ⟨by
      unfold aeW
      rw [if_neg (by rintro rfl; have := HL.out; simp at this; omega), if_neg hb, if_neg (by rw [← hbb, h91]; decide)]
      simp only []
      rw [← hbb, ← hq, if_neg (by rw [HL.out]; exact hqe), if_pos h93]⟩
    have NT1 := NT.out (w.alloc (.cells #[.bool false, .bool false, .int .i64 0] 90)) o 0 HW.out (Nat.zero_le _)
    unfold NTA at NT1
    rw [List.drop_zero, nt_at hbb (by rw [HL.out]; exact hbn)] at NT1
    obtain ⟨m, hm⟩ : ∃ m, m = bl (l.drop (b + 1)) := ⟨_, rfl⟩
    rw [← hm] at hq
    have hmn : m < n - (b + 1) := by omega
    have NT2 := Aside0.mk (fun W (hW : RowAt W h o l) => NT.out W (o + (b + 1)) (b + 1) (hW.drop (b + 1)) (by omega))
    unfold NTA at NT2
    rw [nt_at hm (by rw [List.length_drop, HL.out]; exact hmn)] at NT2
    replace NT1 := Aside0.mk NT1
    have hbm : ((b : Int) == -1) = false := by simp
    have hmm : ((m : Int) == -1) = false := by simp
    have hcF : (c = b + 1) = False := eq_false (by omega)
    have hbc : b + 1 ≤ c := by omega
    have hbn1 : b + 1 ≤ n := by omega
    have hx := h93.symm
    have H91 : Aside0 (∀ W, RowAt W h o l → W.cell? ⟨h, o + b, none⟩ = some (.int .u8 91)) := ⟨fun W hW => by rw [hW.2 b (by rw [HL.out]; exact hbn), h91]⟩
    have HQ0 : Aside0 (∀ W, RowAt W h o l → W.cell? ⟨h, o + (b + 1 + m), none⟩ = some (.int .u8 93)) := ⟨fun W hW => by rw [← hq, hx, hW.2 q (by rw [HL.out]; omega)]⟩
    have hqn' : b + 1 + m < n := by omega
    have HQ := Aside0.mk hq
    clear hm hq hbb hb h91 h93 hqe hx
    go_enter Tryd.func74, Tryd.ntmps74
    go_wp2_with (go_at_call 63; refine NT1.out.mono ?_; rintro e w1 ⟨rfl, hb1⟩; have hc91 := H91.out _ (HW.out.below hb1); have h20 := (HC.out.below hb1).2.1; have h21 := (HC.out.below hb1).2.2.1; have h22 := (HC.out.below hb1).2.2.2)
    go_upto_region 20 with fail
    go_cut [12] from 73 to 77 (fun v wx => v = .int .i64 (m : Int) ∧ Aside0 (Below (w.alloc (.cells #[.bool false, .bool false, .int .i64 0] 90)).heap.size (w.alloc (.cells #[.bool false, .bool false, .int .i64 0] 90)) wx))
    case first =>
      go_region_with (go_at_call 63; refine (NT2.out _ ((HW.out.below hb1).below (Below.refl _ _).drew)).mono ?_; rintro e w2 ⟨rfl, hb2⟩)
      all_goals go_wp2_with fail
      all_goals go_meet
      all_goals exact ⟨rfl, ⟨below_step hb1.drew hb2⟩⟩
    case rest =>
      obtain ⟨rfl, HBw⟩ := hcut
      have hcq := HQ0.out _ (HW.out.below HBw.out)
      have h30 := (HC.out.below HBw.out).2.1
      have h31 := (HC.out.below HBw.out).2.2.1
      have h32 := (HC.out.below HBw.out).2.2.2
      go_wp2_with fail
      go_ret2
      rw [hA.out, HQ.out]
      exact ⟨by push_cast; rfl, Kept.of (below_step HB0.out HBw.out), HSt.out _ _ _ HI.out HBw.out⟩
  have HAe : Aside0 (AeR l q (n + 1) []) := ⟨by
    unfold AeR aeW
    rw [if_neg (by rintro rfl; have := HL.out; simp at this; omega), if_neg hb, if_neg (by rw [← hbb, h91]; decide)]
    simp only []
    rw [← hbb, ← hq, if_neg (by rw [HL.out]; exact hqe), if_neg h93, HL.out]
    exact ⟨rfl, rfl⟩⟩
  have NT1 := NT.out (w.alloc (.cells #[.bool false, .bool false, .int .i64 0] 90)) o 0 HW.out (Nat.zero_le _)
  unfold NTA at NT1
  rw [List.drop_zero, nt_at hbb (by rw [HL.out]; exact hbn)] at NT1
  obtain ⟨m, hm⟩ : ∃ m, m = bl (l.drop (b + 1)) := ⟨_, rfl⟩
  rw [← hm] at hq
  have hmn : m < n - (b + 1) := by omega
  have NT2 := Aside0.mk (fun W (hW : RowAt W h o l) => NT.out W (o + (b + 1)) (b + 1) (hW.drop (b + 1)) (by omega))
  unfold NTA at NT2
  rw [nt_at hm (by rw [List.length_drop, HL.out]; exact hmn)] at NT2
  replace NT1 := Aside0.mk NT1
  have hbm : ((b : Int) == -1) = false := by simp
  have hmm : ((m : Int) == -1) = false := by simp
  have hcF : (c = b + 1) = False := eq_false (by omega)
  have hbc : b + 1 ≤ c := by omega
  have hbn1 : b + 1 ≤ n := by omega
  obtain ⟨x, hx⟩ : ∃ x, x = l.getD q 0 := ⟨_, rfl⟩
  have h93b : (x == 93) = false := by rw [hx]; simpa using h93
  have H91 : Aside0 (∀ W, RowAt W h o l → W.cell? ⟨h, o + b, none⟩ = some (.int .u8 91)) := ⟨fun W hW => by rw [hW.2 b (by rw [HL.out]; exact hbn), h91]⟩
  have HQ0 : Aside0 (∀ W, RowAt W h o l → W.cell? ⟨h, o + (b + 1 + m), none⟩ = some (.int .u8 x)) := ⟨fun W hW => by rw [← hq, hx, hW.2 q (by rw [HL.out]; omega)]⟩
  have hqn' : b + 1 + m < n := by omega
  have HQ := Aside0.mk hq
  clear hm hq hbb hb h91 h93 hqe hx
  go_enter Tryd.func74, Tryd.ntmps74
  go_wp2_with (go_at_call 63; refine NT1.out.mono ?_; rintro e w1 ⟨rfl, hb1⟩; have hc91 := H91.out _ (HW.out.below hb1); have h20 := (HC.out.below hb1).2.1; have h21 := (HC.out.below hb1).2.2.1; have h22 := (HC.out.below hb1).2.2.2)
  go_upto_region 20 with fail
  go_cut [12] from 73 to 77 (fun v wx => v = .int .i64 (m : Int) ∧ Aside0 (Below (w.alloc (.cells #[.bool false, .bool false, .int .i64 0] 90)).heap.size (w.alloc (.cells #[.bool false, .bool false, .int .i64 0] 90)) wx))
  case first =>
    go_region_with (go_at_call 63; refine (NT2.out _ ((HW.out.below hb1).below (Below.refl _ _).drew)).mono ?_; rintro e w2 ⟨rfl, hb2⟩)
    all_goals go_wp2_with fail
    all_goals go_meet
    all_goals exact ⟨rfl, ⟨below_step hb1.drew hb2⟩⟩
  case rest =>
    obtain ⟨rfl, HBw⟩ := hcut
    have hcq := HQ0.out _ (HW.out.below HBw.out)
    have h30 := (HC.out.below HBw.out).2.1
    have h31 := (HC.out.below HBw.out).2.2.1
    have h32 := (HC.out.below HBw.out).2.2.2
    go_wp2_with fail
    go_loopw [8, 9, 13, 14, 15, 16, 17] (fun v8 v9 _ _ _ _ _ wr => ∃ (off f : Nat) (cs : List Cl), v8 = .int .i64 (off : Int) ∧ v9 = .nilIface ∧ 1 ≤ off ∧ off ≤ n ∧ n - off < f ∧ Aside0 (cs.length ≤ off) ∧ Aside0 (AeR l off f cs) ∧ Aside0 (Kept S (w.alloc (.cells #[.bool false, .bool false, .int .i64 0] 90)) wr) ∧ Aside0 (Inv cs wr)) (fun v8 _ _ _ _ _ _ _ => n - (intOf v8).toNat)
    case atStart => exact ⟨q, n + 1, [], by rw [HQ.out]; push_cast; rfl, rfl, by have := HQ.out; omega, hqn, by omega, ⟨Nat.zero_le _⟩, HAe, ⟨Kept.of HBw.out⟩, ⟨HSt.out _ _ _ HI.out HBw.out⟩⟩
    case round =>
      clear hcq h30 h31 h32 HBw h20 h21 h22 hc91 hb1 hqn' hqn hmm hbm hmn hbn hcF hbc hbn1 h93b NT1 NT2 HAe
      obtain ⟨off, f, cs, rfl, rfl, ho1, ho2, hof, HCs, HA, HK, HV⟩ := hrel
      obtain ⟨f0, rfl⟩ : ∃ f0, f = f0 + 1 := ⟨f - 1, by omega⟩
      have HEw := Aside0.mk (HEr.out.kept HK.out HS10.out)
      have HCw := Aside0.mk (HC.out.kept HK.out HSX.out)
      have HWw := Aside0.mk (HW.out.kept HK.out HSh.out)
      have h20 := HCw.out.2.1
      have h21 := HCw.out.2.2.1
      have h22 := HCw.out.2.2.2
      have G0 := Aside0.mk (fun W b (hE : ErrT W E) (hW : RowAt W h b (l.drop off)) => giGet_calls E h b (n - off) (c - off) (l.drop off) W hE hW (HBy.out.drop off) (by rw [List.length_drop, HL.out]) (by omega) (by omega))
      obtain ⟨b1, b2, b3, b4, b5, b6⟩ := gi_bound (l.drop off)
      rw [List.length_drop, HL.out] at b2 b5 b6
      have HCo := Aside0.mk (fun hen => cl_ok (l := l) (off := off) ho1 (by rw [HL.out]; exact ho2) hen)
      obtain ⟨g, hg⟩ : ∃ g, g = gi (l.drop off) := ⟨_, rfl⟩
      rw [← hg] at b1 b2 b3 b4 b5 b6
      rw [← hg] at G0 HCo
      unfold GiA at G0
      obtain ⟨vv, hvv⟩ : ∃ vv, vv = (if g.er = 0 then (.slice (some ⟨h, o + off + g.vb, none⟩) (g.ve - g.vb) (g.ve - g.vb) : Value) else .slice none 0 0) := ⟨_, rfl⟩
      obtain ⟨ee, hee⟩ : ∃ ee, ee = erV E g.er := ⟨_, rfl⟩
      have HVV := Aside0.mk hvv
      have HEE := Aside0.mk hee
      have HG := Aside0.mk hg
      have hoc : off ≤ c := by omega
      clear hvv hee hg
      go_upto_region 26 with fail
      go_cut [13, 14, 15, 16] from 91 to 148 (fun v13 v14 v15 v16 wx => v13 = vv ∧ v14 = .int .i64 g.kind ∧ v15 = .int .i64 g.en ∧ v16 = ee ∧ Aside0 (Below wr.heap.size wr wx))
      case first => as_aux_lemma =>
        clear b1 b2 b3 b4 b5 b6
        rcases Decidable.em (c = off) with hc | hc
        · have hcT : (c = off) = True := eq_true hc
          have hon : ¬ off < l.length := by rw [HL.out]; omega
          have HR : Aside0 (∀ W, RowAt W h o l → RowAt W h o (l.drop off)) := ⟨fun W hW => ⟨hW.1, fun j hj => by rw [List.length_drop] at hj; omega⟩⟩
          have HZ : Aside0 (g.er = 0 → False) := ⟨fun he => by
            have := HG.out
            rw [List.drop_eq_nil_of_le (by omega)] at this
            rw [this] at he
            revert he
            decide⟩
          have G1 : Aside0 (∀ W, ErrT W E → RowAt W h o l → Calls Tryd.prog 83 #[.agg #[.bool false, .bool false, .int .i64 0], .slice (some ⟨h, o, none⟩) (n - off) (c - off), .slice none 0 0] W (fun e w' => e = .returned (.tuple #[vv, .int .i64 g.kind, .int .i64 g.en, ee]) ∧ Below W.heap.size W w')) := ⟨fun W hE hW => by
            have := G0.out W o hE (HR.out W hW)
            rw [if_neg (fun he => HZ.out he), ← HEE.out] at this
            rw [HVV.out, if_neg (fun he => HZ.out he)]
            exact this⟩
          replace hoc := Aside0.mk hoc
          clear hc hon
          have KP : Aside0 (∀ w', Below wr.heap.size wr w' → w'.cell? ⟨w.heap.size, 0, none⟩ = some (.bool false) ∧ w'.cell? ⟨w.heap.size, 1, none⟩ = some (.bool false) ∧ w'.cell? ⟨w.heap.size, 2, none⟩ = some (.int .i64 0) ∧ Below wr.heap.size wr w') := ⟨fun w' hB => ⟨(HCw.out.below hB).2.1, (HCw.out.below hB).2.2.1, (HCw.out.below hB).2.2.2, hB⟩⟩
          clear HI HSt HCb HS10 HSX HSh NT HA HK HV HEr HC HW HB0 HQ0 H91 HQ HCo HVV HEE HG G0 HBy HCw
          go_region_held3 (fun w' => w'.cell? ⟨w.heap.size, 0, none⟩ = some (.bool false) ∧ w'.cell? ⟨w.heap.size, 1, none⟩ = some (.bool false) ∧ w'.cell? ⟨w.heap.size, 2, none⟩ = some (.int .i64 0) ∧ Below wr.heap.size wr w')
            (first | exact KP.out _ (Below.refl _ _) | exact KP.out _ (Below.refl _ _).drew | exact KP.out _ (below_step (Below.refl _ _).drew hb2) | exact KP.out _ (below_step (Below.refl _ _).drew hb2).drew)
            (first | (go_at_call 83; refine (G1.out _ (HEw.out.below (Below.refl _ _).drew) (HWw.out.below (Below.refl _ _).drew)).mono ?_; rintro e w2 ⟨rfl, hb2⟩))
          all_goals go_wp2_with fail
          all_goals go_meet
          all_goals exact ⟨rfl, rfl, rfl, rfl, ⟨below_step (Below.refl _ _).drew hb2⟩⟩
        · have hcF : (c = off) = False := eq_false hc
          clear hc
          have G1 : Aside0 (∀ W, ErrT W E → RowAt W h o l → Calls Tryd.prog 83 #[.agg #[.bool false, .bool false, .int .i64 0], .slice (some ⟨h, o + off, none⟩) (n - off) (c - off), .slice none 0 0] W (fun e w' => e = .returned (.tuple #[vv, .int .i64 g.kind, .int .i64 g.en, ee]) ∧ Below W.heap.size W w')) := ⟨fun W hE hW => by
            have := G0.out W (o + off) hE (hW.drop off)
            rw [← HEE.out, ← HVV.out] at this
            exact this⟩
          have KP : Aside0 (∀ w', Below wr.heap.size wr w' → w'.cell? ⟨w.heap.size, 0, none⟩ = some (.bool false) ∧ w'.cell? ⟨w.heap.size, 1, none⟩ = some (.bool false) ∧ w'.cell? ⟨w.heap.size, 2, none⟩ = some (.int .i64 0) ∧ Below wr.heap.size wr w') := ⟨fun w' hB => ⟨(HCw.out.below hB).2.1, (HCw.out.below hB).2.2.1, (HCw.out.below hB).2.2.2, hB⟩⟩
          clear HI HSt HCb HS10 HSX HSh NT HA HK HV HEr HC HW HB0 HQ0 H91 HQ HCo HVV HEE HG G0 HBy HCw
          go_region_held3 (fun w' => w'.cell? ⟨w.heap.size, 0, none⟩ = some (.bool false) ∧ w'.cell? ⟨w.heap.size, 1, none⟩ = some (.bool false) ∧ w'.cell? ⟨w.heap.size, 2, none⟩ = some (.int .i64 0) ∧ Below wr.heap.size wr w')
            (first | exact KP.out _ (Below.refl _ _) | exact KP.out _ (Below.refl _ _).drew | exact KP.out _ (below_step (Below.refl _ _).drew hb2) | exact KP.out _ (below_step (Below.refl _ _).drew hb2).drew)
            (first | (go_at_call 83; refine (G1.out _ (HEw.out.below (Below.refl _ _).drew) (HWw.out.below (Below.refl _ _).drew)).mono ?_; rintro e w2 ⟨rfl, hb2⟩))
          all_goals go_wp2_with fail
          all_goals go_meet
          all_goals exact ⟨rfl, rfl, rfl, rfl, ⟨below_step (Below.refl _ _).drew hb2⟩⟩
      case rest =>
        obtain ⟨hv13, rfl, rfl, hv16, HBx⟩ := hcut
        replace hv13 := hv13.symm
        replace hv16 := hv16.symm
        subst hv13 hv16
        have HKx := Aside0.mk (HK.out.trans (Kept.of HBx.out))
        have HVx := Aside0.mk (HSt.out _ _ _ HV.out HBx.out)
        have HEx := Aside0.mk (HEw.out.below HBx.out)
        have HCx := Aside0.mk (HCw.out.below HBx.out)
        have HWx := Aside0.mk (HWw.out.below HBx.out)
        clear h20 h21 h22 G0 HEw HCw HWw HK HV
        obtain ⟨kd, vb, ve, en, er⟩ := g
        simp only [] at b1 b2 b3 b4 b5 b6 HCo HVV HEE
        rcases Decidable.em (en = 0) with hen | hen
        · subst hen
          have hA : Aside0 (aeW l = (cs ++ [], (off : Int), er)) := ⟨HA.out.ret (by rw [aeL, ← HG.out]; rfl)⟩
          go_wp2_with fail
          go_ret2
          rw [hA.out]
          exact ⟨by rw [HEE.out]; rfl, (Kept.of HB0.out).trans HKx.out, by rw [List.append_nil]; exact HVx.out⟩
        · have henb : (en == 0) = false := by simpa using hen
          have CB := Aside0.mk (HCb.out cs (clOf off ⟨kd, vb, ve, en, er⟩) wc (by have := HCs.out; omega) HVx.out (HL.out ▸ HCo.out hen))
          unfold CBA at CB
          rcases Decidable.em (er = 0) with he | he
          · subst he
            obtain ⟨c1, c2, c3, c4, c5⟩ := b5 rfl
            obtain ⟨N, rfl⟩ := Int.eq_ofNat_of_zero_le c1
            rw [clV_ok (g := ⟨kd, vb, ve, (N : Int), 0⟩) rfl] at CB
            have hcl : clOf off ⟨kd, vb, ve, (N : Int), 0⟩ = ⟨kd, off + vb, off + ve, (off : Int) + N - (ve - vb : Nat), 0⟩ := by unfold clOf; rw [if_pos rfl]
            have HCL := Aside0.mk hcl
            rw [hcl] at CB
            simp only [] at CB
            clear hcl
            obtain ⟨L, hL⟩ : ∃ L, L = ve - vb := ⟨_, rfl⟩
            have hV0 : vv = .slice (some ⟨h, o + off + vb, none⟩) L L := by rw [HVV.out, if_pos rfl, hL]
            have hE0 : ee = .nilIface := HEE.out
            have hLL : off + ve - (off + vb) = L := by omega
            rw [← hL] at CB HCL
            subst hV0 hE0
            obtain ⟨p, hp⟩ : ∃ p, p = off + N := ⟨_, rfl⟩
            have hpn : p ≤ n := by omega
            have hNz : N ≠ 0 := by omega
            have hLN : L ≤ off + N := by omega
            have HP := Aside0.mk hp
            have HLe := Aside0.mk hL
            clear b1 b2 b5 b6 c1 hL hen hLL hp HVV HEE
            go_upto_region 33 with (go_at_call 81; refine CB.out.mono ?_; rintro e w3 ⟨rfl, hK3, hI3⟩; have h30 := (HCx.out.kept hK3 HSX.out).2.1; have h31 := (HCx.out.kept hK3 HSX.out).2.2.1; have h32 := (HCx.out.kept hK3 HSX.out).2.2.2)
            go_cut [17] from 91 to 148 (fun v17 wx => v17 = .int .i64 (nt (l.drop p)) ∧ Aside0 (Below w3.heap.size w3 wx))
            case first => as_aux_lemma =>
              have HN1 := Aside0.mk (fun W b (hW : RowAt W h b (l.drop p)) => NT.out W b p hW hpn)
              have HWr := Aside0.mk (HWx.out.kept hK3 HSh.out)
              unfold NTA at HN1
              have hp := HP.out
              subst hp
              have hpc : off + N ≤ c := by omega
              have hz0 : (0 : Int) ≤ (off : Int) + (N : Int) := by omega
              have hzn : (off : Int) + (N : Int) ≤ (n : Int) := by omega
              have hzt : ((off : Int) + (N : Int)).toNat = off + N := by omega
              obtain ⟨z, hz⟩ : ∃ z, z = nt (l.drop (off + N)) := ⟨_, rfl⟩
              rw [← hz] at HN1
              replace hz := Aside0.mk hz
              rcases Decidable.em (c = off + N) with hc | hc
              · have hcT : (c = off + N) = True := eq_true hc
                have HR : Aside0 (∀ W, RowAt W h o l → RowAt W h o (l.drop (off + N))) := ⟨fun W hW => ⟨hW.1, fun j hj => by have := HL.out; rw [List.length_drop] at hj; omega⟩⟩
                clear hc
                clear HI HSt HCb HS10 HSX HSh NT HA HEr HC HW HB0 HQ0 H91 HQ HG HBy HKx HVx HEx HCx HWx HCo CB HCL HLe
                clear HP
                go_region_with (go_at_call 63; refine (HN1.out _ _ (HR.out _ (HWr.out.below (Below.refl _ _).drew))).mono ?_; rintro e w4 ⟨rfl, hb4⟩)
                all_goals go_wp2_with fail
                all_goals go_meet
                all_goals exact ⟨by rw [hz.out], ⟨below_step (Below.refl _ _).drew hb4⟩⟩
              · have hcF : (c = off + N) = False := eq_false hc
                clear hc
                clear HI HSt HCb HS10 HSX HSh NT HA HEr HC HW HB0 HQ0 H91 HQ HG HBy HKx HVx HEx HCx HWx HCo CB HCL HLe
                clear HP
                go_region_with (go_at_call 63; refine (HN1.out _ _ (HWr.out.below (Below.refl _ _).drew |>.drop (off + N))).mono ?_; rintro e w4 ⟨rfl, hb4⟩)
                all_goals go_wp2_with fail
                all_goals go_meet
                all_goals exact ⟨by rw [hz.out], ⟨below_step (Below.refl _ _).drew hb4⟩⟩
            case rest =>
              obtain ⟨rfl, HBy3⟩ := hcut
              have HK4 := Aside0.mk ((((Kept.of HB0.out).trans HKx.out).trans hK3).trans (Kept.of HBy3.out))
              have HKl := Aside0.mk ((HKx.out.trans hK3).trans (Kept.of HBy3.out))
              have HI4 := Aside0.mk (HSt.out _ _ _ hI3 HBy3.out)
              have HW4 := Aside0.mk ((HWx.out.kept hK3 HSh.out).below HBy3.out)
              have HE4 := Aside0.mk ((HEx.out.kept hK3 HS10.out).below HBy3.out)
              have he4 := HE4.out.cell 4 (by omega)
              have hAe := aeL_step (l := l) (off := off) (f := f0) (g := ⟨kd, vb, ve, (N : Int), 0⟩) HG.out (by simpa using hNz) rfl
              simp only [Int.toNat_natCast] at hAe
              rw [← HP.out] at hAe
              obtain ⟨k, hk⟩ : ∃ k, k = bl (l.drop p) := ⟨_, rfl⟩
              rw [← hk, HL.out] at hAe
              have hkl := bl_le (l.drop p)
              rw [List.length_drop, HL.out, ← hk] at hkl
              rcases Decidable.em (p + k = n) with hq | hq
              · rw [if_pos hq] at hAe
                have hnt : nt (l.drop p) = -1 := nt_no (by rw [List.length_drop, HL.out, ← hk]; omega)
                have hA := Aside0.mk (HA.out.ret hAe)
                have HNt := Aside0.mk hnt
                rw [hnt]
                clear hAe hnt hq hk hkl
                go_wp2_with fail
                go_quiet (fail)
                go_wp2_with fail
                go_ret2
                rw [hA.out, HCL.out, HP.out]
                exact ⟨by push_cast; rfl, HK4.out.drewN _, HSt.out _ _ _ HI4.out (below_drewN (Below.refl _ _) _)⟩
              · rw [if_neg hq] at hAe
                have hnt : nt (l.drop p) = k := nt_at hk (by rw [List.length_drop, HL.out]; omega)
                have hqn2 : off + N + k < n := by have := HP.out; omega
                obtain ⟨x2, hx2⟩ : ∃ x2, x2 = l.getD (p + k) 0 := ⟨_, rfl⟩
                have hkb : ((k : Int) == -1) = false := by simp
                have hc2 : wc.cell? ⟨h, o + (off + N + k), none⟩ = some (.int .u8 x2) := by
                  rw [hx2, HP.out]
                  exact HW4.out.2 (off + N + k) (by rw [HL.out]; exact hqn2)
                rw [← hx2] at hAe
                rw [hnt]
                rcases Decidable.em (x2 = 93) with hx | hx
                · subst hx
                  rw [if_pos rfl] at hAe
                  have hA := Aside0.mk (HA.out.ret hAe)
                  clear hAe hnt hq hk hkl hx2
                  go_wp2_with fail
                  go_ret2
                  rw [hA.out, HCL.out, HP.out]
                  exact ⟨by push_cast; rfl, HK4.out, HI4.out⟩
                · rw [if_neg hx] at hAe
                  have hx93 : (x2 == 93) = false := by simpa using hx
                  rcases Decidable.em (x2 = 44) with hy | hy
                  · subst hy
                    rw [if_neg (by decide)] at hAe
                    have hA := Aside0.mk (HA.out.next hAe)
                    clear hAe hnt hq hk hkl hx2 hx
                    go_wp2_with fail
                    go_roundw
                    case rel => exact ⟨p + k + 1, f0, _, by rw [HP.out]; push_cast; rfl, rfl, by omega, by have := HP.out; omega, by have := HP.out; omega, ⟨by rw [List.length_append]; have := HCs.out; have := HP.out; simp; omega⟩, hA, HKl, ⟨by rw [HCL.out]; exact HI4.out⟩⟩
                    case measure => simp [intOf]; omega
                  · rw [if_pos hy] at hAe
                    have hx44 : (x2 == 44) = false := by simpa using hy
                    have hx44n : (x2 != 44) = true := by simpa using hy
                    have hA := Aside0.mk (HA.out.ret hAe)
                    clear hAe hnt hq hk hkl hx2 hx hy
                    go_wp2_with fail
                    go_quiet (fail)
                    go_wp2_with fail
                    go_ret2
                    rw [hA.out, HCL.out, HP.out]
                    exact ⟨by push_cast; rfl, HK4.out.drewN _, HSt.out _ _ _ HI4.out (below_drewN (Below.refl _ _) _)⟩
          · rw [clV_bad (g := ⟨kd, vb, ve, en, er⟩) he] at CB
            have hcl : clOf off ⟨kd, vb, ve, en, er⟩ = ⟨kd, 0, 0, (off : Int) + en, er⟩ := by unfold clOf; rw [if_neg he]
            have HCL := Aside0.mk hcl
            rw [hcl] at CB
            simp only [] at CB
            rw [← HEE.out] at CB
            clear hcl
            obtain ⟨d1, d2, d3, d4⟩ := b6 he
            have hA : Aside0 (aeW l = (cs ++ [clOf off ⟨kd, vb, ve, en, er⟩], (off : Int), er)) := ⟨HA.out.ret (by rw [aeL, ← HG.out]; simp only []; rw [if_neg hen, if_pos he])⟩
            have hV0 : Aside0 (vv = .slice none 0 0) := ⟨by rw [HVV.out, if_neg he]⟩
            obtain ⟨a, ha⟩ := HEx.out.ptr (er - 1) (by omega)
            have hEa : Aside0 (ee = .iface 158 (.pointer (some a))) := ⟨by rw [HEE.out]; unfold erV; rw [if_neg he, ha]⟩
            have hV0' := hV0.out
            have hEa' := hEa.out
            subst hV0' hEa'
            clear b5 b6 he ha hen d1 d2
            go_wp2_with (go_at_call 81; refine CB.out.mono ?_; rintro e w3 ⟨rfl, hK3, hI3⟩)
            go_ret2
            rw [hA.out, HCL.out]
            exact ⟨by rw [← HEE.out]; rfl, ((Kept.of HB0.out).trans HKx.out).trans hK3, hI3⟩
end Go.Proofs.YtpahejmkidhhhaaDoor.G
end

section
namespace Go.Proofs.YtpahejmkidhhhaaDoor.G
set_option linter.unusedVariables false
set_option linter.unusedSimpArgs false
open Go.RowKit Go.Proofs.YtpahejmkidhhhaaDoorW.PrintWords

theorem pick_at {cs : List Cl} {v : Int} (c : Cl) (h : (cs.length : Int) = v) : pick (cs ++ [c]) v = some c := by
  unfold pick
  rw [if_neg (by omega), show v.toNat = cs.length by omega]
  simp
theorem pick_not {cs : List Cl} {v : Int} (c : Cl) (h : (cs.length : Int) ≠ v) : pick (cs ++ [c]) v = pick cs v := by
  unfold pick
  by_cases h0 : v < 0
  · rw [if_pos h0, if_pos h0]
  · rw [if_neg h0, if_neg h0]
    rcases Nat.lt_or_ge v.toNat cs.length with h1 | h1
    · rw [List.getElem?_append_left h1]
    · have h2 : cs.length < v.toNat := by omega
      rw [List.getElem?_eq_none (by simp; omega), List.getElem?_eq_none (by omega)]
/-- The picked element's bytes, and its offset. -/
def fV (h o i c : Nat) (cl : Cl) : Value := if cl.kind = 1 then .slice (some ⟨h, o + (i + (cl.off - 2).toNat), none⟩) (cl.ve - cl.vb + 2) (c - (i + (cl.off - 2).toNat)) else clV h (o + i) cl
def oV (cl : Cl) : Int := if cl.kind = 1 then cl.off - 2 else cl.off
/-- The captured variables. -/
structure ClI (b1 b2 b3 b4 b5 b6 h o n c i : Nat) (v : Int) (cs : List Cl) (W : World) : Prop where
  lt1 : b1 < W.heap.size
  lt2 : b2 < W.heap.size
  lt3 : b3 < W.heap.size
  lt4 : b4 < W.heap.size
  lt5 : b5 < W.heap.size
  lt6 : b6 < W.heap.size
  c1 : W.cell? ⟨b1, 0, none⟩ = some (.int .i64 (cs.length : Int))
  c2 : W.cell? ⟨b2, 0, none⟩ = some (.int .i64 v)
  c3 : W.cell? ⟨b3, 0, none⟩ = some (match pick cs v with | none => .slice none 0 0 | some cl => fV h o i c cl)
  c4 : W.cell? ⟨b4, 0, none⟩ = some (.int .i64 (match pick cs v with | none => 0 | some cl => oV cl))
  c5 : W.cell? ⟨b5, 0, none⟩ = some (.slice (some ⟨h, o, none⟩) n c)
  c6 : W.cell? ⟨b6, 0, none⟩ = some (.int .i64 (i : Int))
  z1 : W.frozen? ⟨b1, 0, none⟩ = false
  z3 : W.frozen? ⟨b3, 0, none⟩ = false
  z4 : W.frozen? ⟨b4, 0, none⟩ = false
theorem ClI.below {b1 b2 b3 b4 b5 b6 h o n c i : Nat} {v : Int} {cs : List Cl} {W W' : World} (H : ClI b1 b2 b3 b4 b5 b6 h o n c i v cs W) (hb : Below W.heap.size W W') : ClI b1 b2 b3 b4 b5 b6 h o n c i v cs W' := by
  have e := fun (B : Nat) (hB : B < W.heap.size) => hb.cell (p := ⟨B, 0, none⟩) hB
  have z := fun (B : Nat) (hB : B < W.heap.size) => World.frozen?_of_block (w := W) (w' := W') (a := ⟨B, 0, none⟩) (hb.block B hB)
  have s := fun (B : Nat) (hB : B < W.heap.size) => Nat.lt_of_lt_of_le hB hb.size
  exact ⟨s _ H.lt1, s _ H.lt2, s _ H.lt3, s _ H.lt4, s _ H.lt5, s _ H.lt6, (e _ H.lt1).trans H.c1, (e _ H.lt2).trans H.c2, (e _ H.lt3).trans H.c3, (e _ H.lt4).trans H.c4, (e _ H.lt5).trans H.c5, (e _ H.lt6).trans H.c6, (z _ H.lt1).trans H.z1, (z _ H.lt3).trans H.z3, (z _ H.lt4).trans H.z4⟩
theorem Kept.set {S : Nat → Prop} {w w' : World} (H : Kept S w w') {B : Nat} (hB : S B) (v : Value) : Kept S w (w'.setCell ⟨B, 0, none⟩ v) :=
  ⟨H.os, H.tape, H.output, by rw [show (w'.setCell ⟨B, 0, none⟩ v).heap.size = w'.heap.size by simp [World.setCell]]; exact H.size, fun k hk hS => (Below.heap_setCell _ _ _ _ (by rintro rfl; exact hS hB)).trans (H.block k hk hS)⟩
theorem addr_ne {a b : Nat} (h : a ≠ b) : (⟨a, 0, none⟩ : Addr) ≠ ⟨b, 0, none⟩ := fun e => h (congrArg Addr.block e)
/-- One store into a captured variable. -/
structure ClS (b : Nat) (v : Value) (W W' : World) : Prop where
  size : W'.heap.size = W.heap.size
  new : W'.cell? ⟨b, 0, none⟩ = some v
  old : ∀ k, k ≠ b → W'.cell? ⟨k, 0, none⟩ = W.cell? ⟨k, 0, none⟩
  fz : ∀ k, W'.frozen? ⟨k, 0, none⟩ = W.frozen? ⟨k, 0, none⟩
theorem ClS.of {b : Nat} {W : World} {u : Value} (h : W.cell? ⟨b, 0, none⟩ = some u) (v : Value) : ClS b v W (W.setCell ⟨b, 0, none⟩ v) :=
  ⟨by simp [World.setCell], World.cell?_setCell_same' _ _ _ (by rw [h]; rfl), fun k hk => by apply World.cell?_setCell_other; exact addr_ne (Ne.symm hk), fun k => World.frozen?_setCell _ _ _ _⟩
set_option maxHeartbeats 8000000 in
set_option maxRecDepth 100000 in
theorem clo_calls (b1 b2 b3 b4 b5 b6 h o n c i : Nat) (v : Int) (E : Nat → Value) (cs : List Cl) (cl : Cl) (W : World) (H : ClI b1 b2 b3 b4 b5 b6 h o n c i v cs W) (hok : COk (n - i) cl) (hi : i < n) (hnc : n ≤ c) (hn : n ≤ 140737488351232) (hcs : cs.length ≤ 140737488351232)
    (d12 : b1 ≠ b2) (d13 : b1 ≠ b3) (d14 : b1 ≠ b4) (d15 : b1 ≠ b5) (d16 : b1 ≠ b6) (d32 : b3 ≠ b2) (d34 : b3 ≠ b4) (d35 : b3 ≠ b5) (d36 : b3 ≠ b6) (d42 : b4 ≠ b2) (d45 : b4 ≠ b5) (d46 : b4 ≠ b6) :
    Calls Tryd.prog 81 #[clV h (o + i) cl, .int .i64 cl.kind, .int .i64 cl.off, erV E cl.er, .pointer (some ⟨b1, 0, none⟩), .pointer (some ⟨b2, 0, none⟩), .pointer (some ⟨b3, 0, none⟩), .pointer (some ⟨b4, 0, none⟩), .pointer (some ⟨b5, 0, none⟩), .pointer (some ⟨b6, 0, none⟩)] W
      (CBA (fun k => k = b1 ∨ k = b3 ∨ k = b4) (ClI b1 b2 b3 b4 b5 b6 h o n c i v (cs ++ [cl])) W) := by
  have HH := Aside0.mk H
  have h1 := H.c1
  have h2 := H.c2
  have z1 := H.z1
  rcases Decidable.em ((cs.length : Int) = v) with hv | hv
  · have hvb : ((cs.length : Int) == v) = true := by simpa using hv
    have HV := Aside0.mk hv
    have z3 := H.z3
    have z4 := H.z4
    have h5 := H.c5
    have h6 := H.c6
    obtain ⟨x3, hx3⟩ : ∃ x, W.cell? ⟨b3, 0, none⟩ = some x := ⟨_, H.c3⟩
    obtain ⟨x4, hx4⟩ : ∃ x, W.cell? ⟨b4, 0, none⟩ = some x := ⟨_, H.c4⟩
    obtain ⟨V, L, hV⟩ : ∃ a L, clV h (o + i) cl = .slice a L L ∧ L = cl.ve - cl.vb := by
      unfold clV
      by_cases he : cl.er = 0
      · rw [if_pos he]; exact ⟨_, _, rfl, rfl⟩
      · rw [if_neg he]; have := hok.bad he; exact ⟨none, 0, rfl, by omega⟩
    obtain ⟨hV, hL⟩ := hV
    have HVV := Aside0.mk hV
    rw [hV]
    replace hL := Aside0.mk hL
    clear hv H hV
    rcases Decidable.em (cl.kind = 1) with hk | hk
    · obtain ⟨t1, t2⟩ := hok.str hk
      rw [← hL.out] at t2
      obtain ⟨F, hF⟩ : ∃ F : Nat, cl.off = (F : Int) + 2 := ⟨(cl.off - 2).toNat, by omega⟩
      have hFn : i + F + L + 2 ≤ n := by omega
      have hcF : (c = i + F) = False := eq_false (by omega)
      have HF := Aside0.mk hF
      have HK := Aside0.mk hk
      rw [hF, hk]
      clear hk hF t1 t2
      have w4 : ∀ x y z, (((W.setCell ⟨b3, 0, none⟩ x).setCell ⟨b4, 0, none⟩ y).setCell ⟨b4, 0, none⟩ z).cell? ⟨b4, 0, none⟩ = some z := fun x y z => (ClS.of (ClS.of (((ClS.of hx3 x).old _ d34.symm).trans hx4) y).new z).new
      have w3 : ∀ x y z, (((W.setCell ⟨b3, 0, none⟩ x).setCell ⟨b4, 0, none⟩ y).setCell ⟨b4, 0, none⟩ z).cell? ⟨b3, 0, none⟩ = some x := fun x y z => ((ClS.of (ClS.of (((ClS.of hx3 x).old _ d34.symm).trans hx4) y).new z).old _ d34).trans (((ClS.of (((ClS.of hx3 x).old _ d34.symm).trans hx4) y).old _ d34).trans (ClS.of hx3 x).new)
      go_enter Tryd.func81, Tryd.ntmps81
      go_wp2
      go_end0
      have X1 := ClS.of hx3 (.slice V L L)
      have X2 := ClS.of ((X1.old _ d34.symm).trans hx4) (.int .i64 ((F : Int) + 2))
      have X3 := ClS.of X2.new (.int .i64 (F : Int))
      have X4 := ClS.of (w3 (.slice V L L) (.int .i64 ((F : Int) + 2)) (.int .i64 (F : Int))) (.slice (some ⟨h, o + (i + F), none⟩) (i + F + L + 2 - (i + F)) (c - (i + F)))
      have X5 := ClS.of ((X4.old _ d13).trans ((X3.old _ d14).trans ((X2.old _ d14).trans ((X1.old _ d13).trans h1)))) (.int .i64 ((cs.length : Int) + 1))
      refine ⟨rfl, (((((Kept.refl _ _).set (.inr (.inl rfl)) _).set (.inr (.inr rfl)) _).set (.inr (.inr rfl)) _).set (.inr (.inl rfl)) _).set (.inl rfl) _, ?_⟩
      have H := HH.out
      have hp := pick_at cl HV.out
      have hs := X5.size.trans (X4.size.trans (X3.size.trans (X2.size.trans X1.size)))
      have ho := fun k (e1 : k ≠ b1) (e3 : k ≠ b3) (e4 : k ≠ b4) => (X5.old k e1).trans ((X4.old k e3).trans ((X3.old k e4).trans ((X2.old k e4).trans (X1.old k e3))))
      have hz := fun k => (X5.fz k).trans ((X4.fz k).trans ((X3.fz k).trans ((X2.fz k).trans (X1.fz k))))
      refine ⟨by rw [hs]; exact H.lt1, by rw [hs]; exact H.lt2, by rw [hs]; exact H.lt3, by rw [hs]; exact H.lt4, by rw [hs]; exact H.lt5, by rw [hs]; exact H.lt6, ?_, (ho _ d12.symm d32.symm d42.symm).trans H.c2, ?_, ?_, (ho _ d15.symm d35.symm d45.symm).trans H.c5, (ho _ d16.symm d36.symm d46.symm).trans H.c6, (hz _).trans H.z1, (hz _).trans H.z3, (hz _).trans H.z4⟩
      · rw [X5.new]; simp
      · rw [hp]; simp only []; unfold fV
        rw [if_pos HK.out, show (cl.off - 2).toNat = F by rw [HF.out]; omega, ← hL.out]
        refine (X5.old _ d13.symm).trans (X4.new.trans ?_)
        rw [show i + F + L + 2 - (i + F) = L + 2 by omega]
      · rw [hp]; simp only []; unfold oV
        rw [if_pos HK.out, show cl.off - 2 = (F : Int) by rw [HF.out]; omega]
        exact (X5.old _ d14.symm).trans ((X4.old _ d34.symm).trans X3.new)
    · have hkb : (cl.kind == 1) = false := by simpa using hk
      have HK := Aside0.mk hk
      clear hk
      go_enter Tryd.func81, Tryd.ntmps81
      go_wp2
      go_end0
      have X1 := ClS.of hx3 (.slice V L L)
      have X2 := ClS.of ((X1.old _ d34.symm).trans hx4) (.int .i64 cl.off)
      have X3 := ClS.of ((X2.old _ d14).trans ((X1.old _ d13).trans h1)) (.int .i64 ((cs.length : Int) + 1))
      refine ⟨rfl, (((Kept.refl _ _).set (.inr (.inl rfl)) _).set (.inr (.inr rfl)) _).set (.inl rfl) _, ?_⟩
      have H := HH.out
      have hp := pick_at cl HV.out
      have hs := X3.size.trans (X2.size.trans X1.size)
      have ho := fun k (e1 : k ≠ b1) (e3 : k ≠ b3) (e4 : k ≠ b4) => (X3.old k e1).trans ((X2.old k e4).trans (X1.old k e3))
      have hz := fun k => (X3.fz k).trans ((X2.fz k).trans (X1.fz k))
      refine ⟨by rw [hs]; exact H.lt1, by rw [hs]; exact H.lt2, by rw [hs]; exact H.lt3, by rw [hs]; exact H.lt4, by rw [hs]; exact H.lt5, by rw [hs]; exact H.lt6, ?_, (ho _ d12.symm d32.symm d42.symm).trans H.c2, ?_, ?_, (ho _ d15.symm d35.symm d45.symm).trans H.c5, (ho _ d16.symm d36.symm d46.symm).trans H.c6, (hz _).trans H.z1, (hz _).trans H.z3, (hz _).trans H.z4⟩
      · rw [X3.new]; simp
      · rw [hp]; simp only []; unfold fV; rw [if_neg HK.out, HVV.out]; exact (X3.old _ d13.symm).trans ((X2.old _ d34).trans X1.new)
      · rw [hp]; simp only []; unfold oV; rw [if_neg HK.out]; exact (X3.old _ d14.symm).trans X2.new
  · have hvb : ((cs.length : Int) == v) = false := by simpa using hv
    have HV := Aside0.mk hv
    clear hv H
    go_enter Tryd.func81, Tryd.ntmps81
    go_wp2
    go_end0
    refine ⟨rfl, (Kept.refl _ _).set (.inl rfl) _, ?_⟩
    have X := ClS.of HH.out.c1 (.int .i64 ((cs.length : Int) + 1))
    have H := HH.out
    have hp := pick_not cl HV.out
    refine ⟨by rw [X.size]; exact H.lt1, by rw [X.size]; exact H.lt2, by rw [X.size]; exact H.lt3, by rw [X.size]; exact H.lt4, by rw [X.size]; exact H.lt5, by rw [X.size]; exact H.lt6, ?_, (X.old _ d12.symm).trans H.c2, ?_, ?_, (X.old _ d15.symm).trans H.c5, (X.old _ d16.symm).trans H.c6, (X.fz _).trans H.z1, (X.fz _).trans H.z3, (X.fz _).trans H.z4⟩
    · rw [X.new]; simp
    · rw [hp]; exact (X.old _ d13.symm).trans H.c3
    · rw [hp]; exact (X.old _ d14.symm).trans H.c4
end Go.Proofs.YtpahejmkidhhhaaDoor.G
end
