/- jsonparser's internalGet without keys; Get. -/
import Derived.Test.YtpahejmkidhhhaaDoorGvG
namespace Go.Proofs.YtpahejmkidhhhaaDoor.G
set_option linter.unusedVariables false
set_option linter.unusedSimpArgs false
open Go.RowKit Go.Proofs.YtpahejmkidhhhaaDoorW.PrintWords

/-- What internalGet tells from a place on: kind, the value's bytes, where it begins, where it ends, the error. -/
structure Ig where
  kind : Int
  vb : Nat
  ve : Nat
  so : Int
  en : Int
  er : Nat
def igAt (xs : List Int) (s : Nat) : Ig :=
  if bl (xs.drop s) = (xs.drop s).length then ⟨0, 0, 0, s, -1, 3⟩
  else if (gt xs (s + bl (xs.drop s))).er = 0 then
    if (gt xs (s + bl (xs.drop s))).kind = 1 then ⟨1, s + bl (xs.drop s) + 1, (gt xs (s + bl (xs.drop s))).ve - 1, (s + bl (xs.drop s) : Nat), (gt xs (s + bl (xs.drop s))).ve, 0⟩
    else ⟨(gt xs (s + bl (xs.drop s))).kind, s + bl (xs.drop s), (gt xs (s + bl (xs.drop s))).ve, (s + bl (xs.drop s) : Nat), (gt xs (s + bl (xs.drop s))).ve, 0⟩
  else ⟨(gt xs (s + bl (xs.drop s))).kind, 0, 0, (s + bl (xs.drop s) : Nat), (s + bl (xs.drop s) : Nat), (gt xs (s + bl (xs.drop s))).er⟩
def ig (xs : List Int) (s : Int) : Ig := if s = -1 then ⟨0, 0, 0, -1, -1, 1⟩ else igAt xs s.toNat
/-- The value's slice. -/
def vSl (h o : Nat) (g : Ig) : Value := if g.er = 0 then .slice (some ⟨h, o + g.vb, none⟩) (g.ve - g.vb) (g.ve - g.vb) else .slice none 0 0
def vEr (E : Nat → Value) (g : Ig) : Value := if g.er = 0 then .nilIface else E (g.er - 1)
def IGA (E : Nat → Value) (g : Ig) (h o : Nat) (w : World) (e : Ending) (w' : World) : Prop :=
  ∃ (v x : Value), e = .returned (.tuple #[v, .int .i64 g.kind, .int .i64 g.so, .int .i64 g.en, x]) ∧ Below w.heap.size w w' ∧ Aside0 (v = vSl h o g ∧ x = vEr E g)
theorem IGA.mk {E : Nat → Value} {g : Ig} {h o : Nat} {w w' : World} {v x : Value} {k s z : Int} (hk : k = g.kind) (hs : s = g.so) (hz : z = g.en) (hv : v = vSl h o g) (hx : x = vEr E g) (hb : Below w.heap.size w w') : IGA E g h o w (.returned (.tuple #[v, .int .i64 k, .int .i64 s, .int .i64 z, x])) w' := by
  subst hk hs hz
  exact ⟨v, x, rfl, hb, ⟨hv, hx⟩⟩
set_option maxHeartbeats 8000000 in
set_option maxRecDepth 100000 in
theorem iget0_calls (E : Nat → Value) (h o n c : Nat) (ka : Option Addr) (kc : Nat) (xs : List Int) (w : World) (hE : ErrT w E) (H : RowAt w h o xs) (hby : Bytes xs) (hl : xs.length = n) (hn : n ≤ 140737488351232) (hnc : n ≤ c) :
    Calls Tryd.prog 49 #[.agg #[.bool false, .bool false, .int .i64 0], .slice (some ⟨h, o, none⟩) n c, .slice ka 0 kc] w (IGA E (ig xs 0) h o w) := by
  have HL := Aside0.mk hl
  have HBy := Aside0.mk hby
  have hB0 : Below w.heap.size w (w.alloc (.cells #[.bool false, .bool false, .int .i64 0] 90)) := below_alloc1 _
  have HW := Aside0.mk (H.below hB0)
  have HB0 := Aside0.mk hB0
  have HEr := Aside0.mk (hE.below hB0)
  have HC := Aside0.mk (cfg_new w 90)
  have g0 := HC.out.2.1
  have g1 := HC.out.2.2.1
  have g2 := HC.out.2.2.2
  have hig : ig xs 0 = igAt xs 0 := rfl
  unfold igAt at hig
  simp only [List.drop_zero, Nat.zero_add] at hig
  have NT := Aside0.mk (fun W (hW : RowAt W h o xs) => next_calls h o n c xs W hW hl hn)
  clear hB0 hE H hby hl
  rcases Decidable.em (bl xs = xs.length) with hb | hb
  · rw [if_pos hb] at hig
    have hnt : nt xs = -1 := nt_no hb.symm
    have HG := Aside0.mk hig
    unfold NTA at NT
    rw [hnt] at NT
    clear hb hnt hig
    go_enter Tryd.func49, Tryd.ntmps49
    go_upto_region 5 with fail
    go_region_with (go_at_call 63; refine (NT.out _ (HW.out.below (Below.refl _ _).drew)).mono ?_; rintro e w2 ⟨rfl, hb⟩; have he4 := ((HEr.out.below (Below.refl _ _).drew).below hb).cell 2 (by omega))
    all_goals go_wp2_with fail
    all_goals go_quiet (fail)
    all_goals go_wp2_with fail
    all_goals (try simp only [Exit.inBlock, Exit.then])
    all_goals refine bodyPost_ret (results_tmp5 rfl _ _ _) rfl ?_
    all_goals rw [HG.out]
    all_goals exact IGA.mk rfl rfl rfl rfl rfl (below_drewN (below_step HB0.out.drew hb) _)
  · rw [if_neg hb] at hig
    obtain ⟨m, hm⟩ : ∃ m, m = bl xs := ⟨_, rfl⟩
    have hmn : m < n := by have := bl_le xs; have := HL.out; omega
    have hnt : nt xs = m := nt_at hm (by rw [HL.out]; exact hmn)
    unfold NTA at NT
    rw [hnt] at NT
    have GT := Aside0.mk (fun W (hE : ErrT W E) (hW : RowAt W h o xs) => getType_calls E h o n c m xs W hE hW HBy.out HL.out hn hnc hmn)
    obtain ⟨hb1, hb2, hb3, hb4, hb5, hb6, hb7⟩ := gt_bound (xs := xs) (o := m) (by rw [HL.out]; exact hmn)
    have her : (gt xs m).er ≤ 6 := hb5
    unfold GTA at GT
    rw [← hm] at hig
    obtain ⟨⟨kd, vb, ve, er⟩, hgt⟩ : ∃ g, g = gt xs m := ⟨_, rfl⟩
    rw [← hgt] at hig GT hb1 hb2 hb3 hb4 her
    simp only [] at hig GT hb1 hb2 hb3 hb4 her
    have hmb : ((m : Int) == -1) = false := by simp
    have hmc : m ≤ c := by omega
    have hmc2 : ¬ c = m := by omega
    have hc0 : ¬ c = 0 := by omega
    rw [HL.out] at hb2
    clear hnt hm hb5 hb6 hb7 hgt hb
    rcases Decidable.em (er = 0) with he | he
    · subst he
      have hb3 := hb3 rfl
      clear hb4
      rw [if_pos rfl] at hig
      obtain ⟨L, hL⟩ : ∃ L, ve = m + L := ⟨ve - m, by omega⟩
      subst hL
      rcases Decidable.em (kd = 1) with hk | hk
      · subst hk
        rw [if_pos rfl] at hig
        have HG := Aside0.mk hig
        obtain ⟨J, hJ⟩ : ∃ J, L = J + 2 := ⟨L - 2, by have := hb3.2.2 rfl; omega⟩
        subst hJ
        simp only [if_true, Nat.add_sub_cancel_left] at GT
        clear hig hb3
        go_enter Tryd.func49, Tryd.ntmps49
        go_upto_region 5 with fail
        go_region_with (go_at_call 63; refine (NT.out _ (HW.out.below (Below.refl _ _).drew)).mono ?_; rintro e w2 ⟨rfl, hb⟩; have h20 := ((HC.out.below (Below.refl _ _).drew).below hb).2.1; have h21 := ((HC.out.below (Below.refl _ _).drew).below hb).2.2.1; have h22 := ((HC.out.below (Below.refl _ _).drew).below hb).2.2.2)
        all_goals go_wp2_with (go_at_call 68; refine (GT.out _ ((HEr.out.below (Below.refl _ _).drew).below hb) ((HW.out.below (Below.refl _ _).drew).below hb)).mono ?_; rintro e w3 ⟨v, z, x, rfl, hb3, hA⟩; obtain ⟨rfl, rfl, rfl⟩ := hA.out; clear hA)
        all_goals (try simp only [Exit.inBlock, Exit.then])
        all_goals refine bodyPost_ret (results_tmp5 rfl _ _ _) rfl ?_
        all_goals rw [HG.out]
        all_goals refine IGA.mk rfl rfl ?_ ?_ rfl (below_step (below_step HB0.out.drew hb) hb3)
        · push_cast; rfl
        · show Value.slice (some ⟨h, o + m + 1, none⟩) J J = vSl h o ⟨1, m + 1, m + (J + 2) - 1, (m : Int), ((m + (J + 2) : Nat) : Int), 0⟩
          unfold vSl
          rw [if_pos rfl]
          simp only []
          rw [show m + (J + 2) - 1 - (m + 1) = J by omega, Nat.add_assoc]
      · rw [if_neg hk] at hig
        have HG := Aside0.mk hig
        have hkb : (kd == 1) = false := by simpa using hk
        simp only [if_true, Nat.add_sub_cancel_left] at GT
        clear hig hb3 hk
        go_enter Tryd.func49, Tryd.ntmps49
        go_upto_region 5 with fail
        go_region_with (go_at_call 63; refine (NT.out _ (HW.out.below (Below.refl _ _).drew)).mono ?_; rintro e w2 ⟨rfl, hb⟩; have h20 := ((HC.out.below (Below.refl _ _).drew).below hb).2.1; have h21 := ((HC.out.below (Below.refl _ _).drew).below hb).2.2.1; have h22 := ((HC.out.below (Below.refl _ _).drew).below hb).2.2.2)
        all_goals go_wp2_with (go_at_call 68; refine (GT.out _ ((HEr.out.below (Below.refl _ _).drew).below hb) ((HW.out.below (Below.refl _ _).drew).below hb)).mono ?_; rintro e w3 ⟨v, z, x, rfl, hb3, hA⟩; obtain ⟨rfl, rfl, rfl⟩ := hA.out; clear hA)
        all_goals (try simp only [Exit.inBlock, Exit.then])
        all_goals refine bodyPost_ret (results_tmp5 rfl _ _ _) rfl ?_
        all_goals rw [HG.out]
        all_goals refine IGA.mk rfl rfl ?_ ?_ rfl (below_step (below_step HB0.out.drew hb) hb3)
        · push_cast; rfl
        · show Value.slice (some ⟨h, o + m, none⟩) L L = vSl h o ⟨kd, m, m + L, (m : Int), ((m + L : Nat) : Int), 0⟩
          unfold vSl
          rw [if_pos rfl]
          simp only []
          rw [show m + L - m = L by omega]
    · rw [if_neg he] at hig
      have HG := Aside0.mk hig
      obtain ⟨a, ha⟩ := HEr.out.ptr (er - 1) (by omega)
      simp only [if_neg he, ha] at GT
      have HA := Aside0.mk ha
      have HE0 := Aside0.mk he
      clear hig hb3 hb4 he ha
      go_enter Tryd.func49, Tryd.ntmps49
      go_upto_region 5 with fail
      go_region_with (go_at_call 63; refine (NT.out _ (HW.out.below (Below.refl _ _).drew)).mono ?_; rintro e w2 ⟨rfl, hb⟩; have h20 := ((HC.out.below (Below.refl _ _).drew).below hb).2.1; have h21 := ((HC.out.below (Below.refl _ _).drew).below hb).2.2.1; have h22 := ((HC.out.below (Below.refl _ _).drew).below hb).2.2.2)
      all_goals go_wp2_with (go_at_call 68; refine (GT.out _ ((HEr.out.below (Below.refl _ _).drew).below hb) ((HW.out.below (Below.refl _ _).drew).below hb)).mono ?_; rintro e w3 ⟨v, z, x, rfl, hb3, hA⟩; obtain ⟨rfl, rfl, rfl⟩ := hA.out; clear hA)
      all_goals (try simp only [Exit.inBlock, Exit.then])
      all_goals refine bodyPost_ret (results_tmp5 rfl _ _ _) rfl ?_
      all_goals rw [HG.out]
      all_goals refine IGA.mk rfl rfl rfl ?_ ?_ (below_step (below_step HB0.out.drew hb) hb3)
      · unfold vSl; rw [if_neg HE0.out]; rfl
      · unfold vEr; rw [if_neg HE0.out, HA.out]; rfl
end Go.Proofs.YtpahejmkidhhhaaDoor.G
