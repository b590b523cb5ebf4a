/- jsonparser's equalStr; Config.Get. jsonparser's internalGet behind a search. jsonparser's arrayEach (without keys) with searchKeys' function. -/
import Derived.Test.YtpahejmkidhhhaaDoorGvK
import Derived.Test.YtpahejmkidhhhaaDoorGvJs
section
namespace Go.Proofs.YtpahejmkidhhhaaDoor.G
set_option linter.unusedVariables false
set_option linter.unusedSimpArgs false
open Go.RowKit Go.Proofs.YtpahejmkidhhhaaDoorW.PrintWords

theorem str_eq {ku : List Int} (h : Bytes ku) (s : ByteArray) : ((strOfNums ku).toList == s.toList) = decide (ku = bytesOf s) := by
  have e := bytesOf_str h
  by_cases hk : ku = bytesOf s
  · rw [decide_eq_true hk]
    have : strOfNums ku = s := by
      have h2 : bytesOf (strOfNums ku) = bytesOf s := by rw [e, hk]
      exact bytesOf_inj h2
    rw [this]
    simp
  · rw [decide_eq_false hk]
    have : ¬ (strOfNums ku).toList = s.toList := by
      intro h2
      rw [ByteArray.toList_eq, ByteArray.toList_eq] at h2
      have h3 : bytesOf (strOfNums ku) = bytesOf s := by unfold bytesOf; rw [h2]
      exact hk (e.symm.trans h3)
    simpa using this
set_option maxHeartbeats 4000000 in
set_option maxRecDepth 100000 in
theorem eqs_calls (X g g0 L cap : Nat) (ku : List Int) (s : ByteArray) (w : World) (hc : w.cell? ⟨X, 0, none⟩ = some (.slice (some ⟨g, g0, none⟩) L cap)) (H : RowAt w g g0 ku) (hby : Bytes ku) (hl : ku.length = L) :
    Calls Tryd.prog 79 #[.pointer (some ⟨X, 0, none⟩), .string s] w (fun e w' => e = .returned (.bool (decide (ku = bytesOf s))) ∧ w' = w) := by
  have hcv := H.string (n := L) (c := cap) hl
  have HB := Aside0.mk hby
  clear H hby hl
  go_enter Tryd.func79, Tryd.ntmps79
  go_wp2
  go_ret
  refine ⟨?_, rfl⟩
  rw [← str_eq HB.out]
  rfl
set_option maxHeartbeats 4000000 in
set_option maxRecDepth 100000 in
theorem cget_calls (E : Nat → Value) (g : Ig) (h o : Nat) (d k : Value) (w : World)
    (hI : ∀ W, Below w.heap.size w W → Calls Tryd.prog 49 #[.agg #[.bool false, .bool false, .int .i64 0], d, k] W (IGA E g h o W)) : Calls Tryd.prog 83 #[.agg #[.bool false, .bool false, .int .i64 0], d, k] w (GetA E g h o w) := by
  have hB0 : Below w.heap.size w (w.alloc (.cells #[.bool false, .bool false, .int .i64 0] 90)) := below_alloc1 _
  have HB0 := Aside0.mk hB0
  have C := Aside0.mk (hI _ hB0)
  have HC := Aside0.mk (cfg_new w 90)
  have g0 := HC.out.2.1
  have g1 := HC.out.2.2.1
  have g2 := HC.out.2.2.2
  clear hI hB0
  go_enter Tryd.func83, Tryd.ntmps83
  go_wp2_with (go_at_call 49; refine C.out.mono ?_; rintro e w1 ⟨v, x, rfl, hb, hA⟩)
  (try simp only [Exit.inBlock, Exit.then])
  refine bodyPost_ret (results_tmp4 rfl _ _ _) rfl ?_
  exact ⟨v, x, rfl, below_step HB0.out hb, hA⟩
end Go.Proofs.YtpahejmkidhhhaaDoor.G
end

section
namespace Go.Proofs.YtpahejmkidhhhaaDoor.G
set_option linter.unusedVariables false
set_option linter.unusedSimpArgs false
open Go.RowKit Go.Proofs.YtpahejmkidhhhaaDoorW.PrintWords

def SKA (s : Int) (w : World) (e : Ending) (w' : World) : Prop := e = .returned (.int .i64 s) ∧ Below w.heap.size w w'
set_option maxHeartbeats 8000000 in
set_option maxRecDepth 100000 in
theorem igetK_calls (E : Nat → Value) (h o n c : Nat) (ka : Option Addr) (kn kc : Nat) (xs : List Int) (w : World) (hE : ErrT w E) (H : RowAt w h o xs) (hby : Bytes xs) (hl : xs.length = n) (hn : n ≤ 140737488351232) (hnc : n ≤ c) (hk : 0 < kn)
    (s : Int) (hs : s = -1 ∨ ∃ s0 : Nat, s0 ≤ n ∧ s = s0)
    (hS : ∀ W, Below w.heap.size w W → Calls Tryd.prog 67 #[.agg #[.bool false, .bool false, .int .i64 0], .slice (some ⟨h, o, none⟩) n c, .slice ka kn kc] W (SKA s W)) :
    Calls Tryd.prog 49 #[.agg #[.bool false, .bool false, .int .i64 0], .slice (some ⟨h, o, none⟩) n c, .slice ka kn kc] w (IGA E (ig xs s) h o w) := by
  have HL := Aside0.mk hl
  have HBy := Aside0.mk hby
  have hB0 : Below w.heap.size w (w.alloc (.cells #[.bool false, .bool false, .int .i64 0] 90)) := below_alloc1 _
  have HW := Aside0.mk (H.below hB0)
  have HB0 := Aside0.mk hB0
  have HEr := Aside0.mk (hE.below hB0)
  have HC := Aside0.mk (cfg_new w 90)
  have g0 := HC.out.2.1
  have g1 := HC.out.2.2.1
  have g2 := HC.out.2.2.2
  have hk1 : (0 : Int) < (kn : Int) := by omega
  have hk2 : decide ((0 : Int) < (kn : Int)) = true := by simpa using hk1
  have SK := Aside0.mk (hS _ hB0)
  unfold SKA at SK
  rcases hs with hs | ⟨s0, hs0, hs⟩
  · subst hs
    have HG : Aside0 (ig xs (-1) = ⟨0, 0, 0, -1, -1, 1⟩) := ⟨rfl⟩
    clear hB0 hE H hby hl hS
    go_enter Tryd.func49, Tryd.ntmps49
    go_wp2_with (go_at_call 67; refine SK.out.mono ?_; rintro e w1 ⟨rfl, hb⟩; have he0 := (HEr.out.below hb).cell 0 (by omega))
    go_quiet (fail)
    go_wp2_with fail
    (try simp only [Exit.inBlock, Exit.then])
    refine bodyPost_ret (results_tmp5 rfl _ _ _) rfl ?_
    rw [HG.out]
    exact IGA.mk rfl rfl rfl rfl rfl (below_drewN (below_step HB0.out hb) _)
  · subst hs
    have hig : ig xs (s0 : Int) = igAt xs s0 := rfl
    unfold igAt at hig
    have hsb : ((s0 : Int) == -1) = false := by simp
    have hsn : s0 ≤ c := by omega
    have hDL : (xs.drop s0).length = n - s0 := by rw [List.length_drop, hl]
    have NT := Aside0.mk (fun W b (hW : RowAt W h b (xs.drop s0)) => next_calls h b (n - s0) (c - s0) (xs.drop s0) W hW hDL (by omega))
    have HD := Aside0.mk hDL
    clear hB0 hE H hby hl hS
    rcases Decidable.em (bl (xs.drop s0) = (xs.drop s0).length) with hb | hb
    · rw [if_pos hb] at hig
      have hnt : nt (xs.drop s0) = -1 := nt_no hb.symm
      have HG := Aside0.mk hig
      unfold NTA at NT
      rw [hnt] at NT
      clear hb hnt hig hDL
      rcases Decidable.em (c = s0) with hc | hc
      · have hcT : (c = s0) = True := eq_true hc
        have HR : Aside0 (∀ W, RowAt W h o xs → RowAt W h o (xs.drop s0)) := ⟨fun W hW => ⟨hW.1, fun j hj => by have := HL.out; rw [List.length_drop] at hj; omega⟩⟩
        clear hc
        go_enter Tryd.func49, Tryd.ntmps49
        go_wp2_with (go_at_call 67; refine SK.out.mono ?_; rintro e w1 ⟨rfl, hb0⟩; have h20 := (HC.out.below hb0).2.1; have h21 := (HC.out.below hb0).2.2.1; have h22 := (HC.out.below hb0).2.2.2)
        go_upto_region 5 with fail
        go_region_with (go_at_call 63; refine (NT.out _ _ (HR.out _ ((HW.out.below hb0).below (Below.refl _ _).drew))).mono ?_; rintro e w2 ⟨rfl, hb⟩; have he4 := (((HEr.out.below hb0).below (Below.refl _ _).drew).below hb).cell 2 (by omega))
        all_goals go_wp2_with fail
        all_goals go_quiet (fail)
        all_goals go_wp2_with fail
        all_goals (try simp only [Exit.inBlock, Exit.then])
        all_goals refine bodyPost_ret (results_tmp5 rfl _ _ _) rfl ?_
        all_goals rw [HG.out]
        all_goals exact IGA.mk rfl rfl rfl rfl rfl (below_drewN (below_step (below_step HB0.out hb0).drew hb) _)
      · have hcF : (c = s0) = False := eq_false hc
        clear hc
        go_enter Tryd.func49, Tryd.ntmps49
        go_wp2_with (go_at_call 67; refine SK.out.mono ?_; rintro e w1 ⟨rfl, hb0⟩; have h20 := (HC.out.below hb0).2.1; have h21 := (HC.out.below hb0).2.2.1; have h22 := (HC.out.below hb0).2.2.2)
        go_upto_region 5 with fail
        go_region_with (go_at_call 63; refine (NT.out _ _ (((HW.out.below hb0).below (Below.refl _ _).drew).drop s0)).mono ?_; rintro e w2 ⟨rfl, hb⟩; have he4 := (((HEr.out.below hb0).below (Below.refl _ _).drew).below hb).cell 2 (by omega))
        all_goals go_wp2_with fail
        all_goals go_quiet (fail)
        all_goals go_wp2_with fail
        all_goals (try simp only [Exit.inBlock, Exit.then])
        all_goals refine bodyPost_ret (results_tmp5 rfl _ _ _) rfl ?_
        all_goals rw [HG.out]
        all_goals exact IGA.mk rfl rfl rfl rfl rfl (below_drewN (below_step (below_step HB0.out hb0).drew hb) _)
    · rw [if_neg hb] at hig
      obtain ⟨m0, hm0⟩ : ∃ m0, m0 = bl (xs.drop s0) := ⟨_, rfl⟩
      have hm1 : m0 < n - s0 := by have := bl_le (xs.drop s0); omega
      have hnt : nt (xs.drop s0) = m0 := nt_at hm0 (by rw [hDL]; exact hm1)
      unfold NTA at NT
      rw [hnt] at NT
      obtain ⟨m, hm⟩ : ∃ m, m = s0 + m0 := ⟨_, rfl⟩
      have hmn : m < n := by omega
      have GT : Aside0 (∀ W, ErrT W E → RowAt W h o xs → Calls Tryd.prog 68 #[.agg #[.bool false, .bool false, .int .i64 0], .slice (some ⟨h, o, none⟩) n c, .int .i64 ((s0 : Int) + (m0 : Int))] W (GTA E xs h o c m W)) := ⟨fun W hE hW => by
        have := getType_calls E h o n c m xs W hE hW HBy.out HL.out hn hnc hmn
        rw [hm, Int.natCast_add] at this
        rw [hm]
        exact this⟩
      obtain ⟨hb1, hb2, hb3, hb4, hb5, hb6, hb7⟩ := gt_bound (xs := xs) (o := m) (by rw [HL.out]; exact hmn)
      have her : (gt xs m).er ≤ 6 := hb5
      unfold GTA at GT
      rw [← hm0, ← hm] at hig
      obtain ⟨⟨kd, vb, ve, er⟩, hgt⟩ : ∃ g, g = gt xs m := ⟨_, rfl⟩
      rw [← hgt] at hig GT hb1 hb2 hb3 hb4 her
      simp only [] at hig GT hb1 hb2 hb3 hb4 her
      have hmb : ((m0 : Int) == -1) = false := by simp
      have hmc : m ≤ c := by omega
      have hmc2 : ¬ c = m := by omega
      have hcF : (c = s0) = False := eq_false (by omega)
      have HM := Aside0.mk hm
      rw [HL.out] at hb2
      clear hnt hm0 hm hb5 hb6 hb7 hgt hb hDL
      rcases Decidable.em (er = 0) with he | he
      · subst he
        have hb3 := hb3 rfl
        clear hb4
        rw [if_pos rfl] at hig
        obtain ⟨L, hL⟩ : ∃ L, ve = m + L := ⟨ve - m, by omega⟩
        subst hL
        rcases Decidable.em (kd = 1) with hk | hk
        · subst hk
          rw [if_pos rfl] at hig
          have HG := Aside0.mk hig
          obtain ⟨J, hJ⟩ : ∃ J, L = J + 2 := ⟨L - 2, by have := hb3.2.2 rfl; omega⟩
          subst hJ
          simp only [if_true, Nat.add_sub_cancel_left] at GT
          clear hig hb3
          go_enter Tryd.func49, Tryd.ntmps49
          go_wp2_with (go_at_call 67; refine SK.out.mono ?_; rintro e w1 ⟨rfl, hb0⟩; have h20 := (HC.out.below hb0).2.1; have h21 := (HC.out.below hb0).2.2.1; have h22 := (HC.out.below hb0).2.2.2)
          go_upto_region 5 with fail
          go_region_with (go_at_call 63; refine (NT.out _ _ (((HW.out.below hb0).below (Below.refl _ _).drew).drop s0)).mono ?_; rintro e w2 ⟨rfl, hb⟩; have h30 := (((HC.out.below hb0).below (Below.refl _ _).drew).below hb).2.1; have h31 := (((HC.out.below hb0).below (Below.refl _ _).drew).below hb).2.2.1; have h32 := (((HC.out.below hb0).below (Below.refl _ _).drew).below hb).2.2.2)
          all_goals go_wp2_with (go_at_call 68; refine (GT.out _ (((HEr.out.below hb0).below (Below.refl _ _).drew).below hb) (((HW.out.below hb0).below (Below.refl _ _).drew).below hb)).mono ?_; rintro e w3 ⟨v, z, x, rfl, hb3, hA⟩; obtain ⟨rfl, rfl, rfl⟩ := hA.out; clear hA)
          all_goals (try simp only [Exit.inBlock, Exit.then])
          all_goals refine bodyPost_ret (results_tmp5 rfl _ _ _) rfl ?_
          all_goals rw [HG.out]
          all_goals refine IGA.mk rfl ?_ ?_ ?_ rfl (below_step (below_step (below_step HB0.out hb0).drew hb) hb3)
          · rw [HM.out]; push_cast; rfl
          · push_cast; rfl
          · show Value.slice (some ⟨h, o + m + 1, none⟩) J J = vSl h o ⟨1, m + 1, m + (J + 2) - 1, (m : Int), ((m + (J + 2) : Nat) : Int), 0⟩
            unfold vSl
            rw [if_pos rfl]
            simp only []
            rw [show m + (J + 2) - 1 - (m + 1) = J by omega, Nat.add_assoc]
        · rw [if_neg hk] at hig
          have HG := Aside0.mk hig
          have hkb : (kd == 1) = false := by simpa using hk
          simp only [if_true, Nat.add_sub_cancel_left] at GT
          clear hig hb3 hk
          go_enter Tryd.func49, Tryd.ntmps49
          go_wp2_with (go_at_call 67; refine SK.out.mono ?_; rintro e w1 ⟨rfl, hb0⟩; have h20 := (HC.out.below hb0).2.1; have h21 := (HC.out.below hb0).2.2.1; have h22 := (HC.out.below hb0).2.2.2)
          go_upto_region 5 with fail
          go_region_with (go_at_call 63; refine (NT.out _ _ (((HW.out.below hb0).below (Below.refl _ _).drew).drop s0)).mono ?_; rintro e w2 ⟨rfl, hb⟩; have h30 := (((HC.out.below hb0).below (Below.refl _ _).drew).below hb).2.1; have h31 := (((HC.out.below hb0).below (Below.refl _ _).drew).below hb).2.2.1; have h32 := (((HC.out.below hb0).below (Below.refl _ _).drew).below hb).2.2.2)
          all_goals go_wp2_with (go_at_call 68; refine (GT.out _ (((HEr.out.below hb0).below (Below.refl _ _).drew).below hb) (((HW.out.below hb0).below (Below.refl _ _).drew).below hb)).mono ?_; rintro e w3 ⟨v, z, x, rfl, hb3, hA⟩; obtain ⟨rfl, rfl, rfl⟩ := hA.out; clear hA)
          all_goals (try simp only [Exit.inBlock, Exit.then])
          all_goals refine bodyPost_ret (results_tmp5 rfl _ _ _) rfl ?_
          all_goals rw [HG.out]
          all_goals refine IGA.mk rfl ?_ ?_ ?_ rfl (below_step (below_step (below_step HB0.out hb0).drew hb) hb3)
          · rw [HM.out]; push_cast; rfl
          · push_cast; rfl
          · show Value.slice (some ⟨h, o + m, none⟩) L L = vSl h o ⟨kd, m, m + L, (m : Int), ((m + L : Nat) : Int), 0⟩
            unfold vSl
            rw [if_pos rfl]
            simp only []
            rw [show m + L - m = L by omega]
      · rw [if_neg he] at hig
        have HG := Aside0.mk hig
        obtain ⟨a, ha⟩ := HEr.out.ptr (er - 1) (by omega)
        simp only [if_neg he, ha] at GT
        have HA := Aside0.mk ha
        have HE0 := Aside0.mk he
        clear hig hb3 hb4 he ha
        go_enter Tryd.func49, Tryd.ntmps49
        go_wp2_with (go_at_call 67; refine SK.out.mono ?_; rintro e w1 ⟨rfl, hb0⟩; have h20 := (HC.out.below hb0).2.1; have h21 := (HC.out.below hb0).2.2.1; have h22 := (HC.out.below hb0).2.2.2)
        go_upto_region 5 with fail
        go_region_with (go_at_call 63; refine (NT.out _ _ (((HW.out.below hb0).below (Below.refl _ _).drew).drop s0)).mono ?_; rintro e w2 ⟨rfl, hb⟩; have h30 := (((HC.out.below hb0).below (Below.refl _ _).drew).below hb).2.1; have h31 := (((HC.out.below hb0).below (Below.refl _ _).drew).below hb).2.2.1; have h32 := (((HC.out.below hb0).below (Below.refl _ _).drew).below hb).2.2.2)
        all_goals go_wp2_with (go_at_call 68; refine (GT.out _ (((HEr.out.below hb0).below (Below.refl _ _).drew).below hb) (((HW.out.below hb0).below (Below.refl _ _).drew).below hb)).mono ?_; rintro e w3 ⟨v, z, x, rfl, hb3, hA⟩; obtain ⟨rfl, rfl, rfl⟩ := hA.out; clear hA)
        all_goals (try simp only [Exit.inBlock, Exit.then])
        all_goals refine bodyPost_ret (results_tmp5 rfl _ _ _) rfl ?_
        all_goals rw [HG.out]
        all_goals refine IGA.mk rfl ?_ ?_ ?_ ?_ (below_step (below_step (below_step HB0.out hb0).drew hb) hb3)
        · rw [HM.out]; push_cast; rfl
        · push_cast; rfl
        · unfold vSl; rw [if_neg HE0.out]; rfl
        · unfold vEr; rw [if_neg HE0.out, HA.out]; rfl
end Go.Proofs.YtpahejmkidhhhaaDoor.G
end

section
namespace Go.Proofs.YtpahejmkidhhhaaDoor.G
set_option linter.unusedVariables false
set_option linter.unusedSimpArgs false
open Go.RowKit Go.Proofs.YtpahejmkidhhhaaDoorW.PrintWords

/-- All blocks but those of S are as they were. -/
structure Kept (S : Nat → Prop) (w w' : World) : Prop where
  os : w'.os = w.os
  tape : w'.tape = w.tape
  output : w'.output = w.output
  size : w.heap.size ≤ w'.heap.size
  block : ∀ k, k < w.heap.size → ¬ S k → w'.heap[k]? = w.heap[k]?
theorem Kept.refl (S : Nat → Prop) (w : World) : Kept S w w := ⟨rfl, rfl, rfl, Nat.le_refl _, fun _ _ _ => rfl⟩
theorem Kept.of {S : Nat → Prop} {w w' : World} (h : Below w.heap.size w w') : Kept S w w' := ⟨h.os, h.tape, h.output, h.size, fun k hk _ => h.block k hk⟩
theorem Kept.trans {S : Nat → Prop} {w w1 w2 : World} (h : Kept S w w1) (g : Kept S w1 w2) : Kept S w w2 :=
  ⟨g.os.trans h.os, g.tape.trans h.tape, g.output.trans h.output, Nat.le_trans h.size g.size, fun k hk hS => (g.block k (Nat.lt_of_lt_of_le hk h.size) hS).trans (h.block k hk hS)⟩
theorem Kept.drewN {S : Nat → Prop} {w w' : World} (h : Kept S w w') (k : Nat) : Kept S w (w'.drewN k) := ⟨h.os, h.tape, h.output, h.size, h.block⟩
theorem Kept.cell {S : Nat → Prop} {w w' : World} (h : Kept S w w') {B j : Nat} (hB : B < w.heap.size) (hS : ¬ S B) : w'.cell? ⟨B, j, none⟩ = w.cell? ⟨B, j, none⟩ :=
  World.cell?_of_block (w := w) (w' := w') (h.block B hB hS)
theorem RowAt.kept {S : Nat → Prop} {w w' : World} {h o : Nat} {xs : List Int} (H : RowAt w h o xs) (K : Kept S w w') (hS : ¬ S h) : RowAt w' h o xs :=
  ⟨Nat.lt_of_lt_of_le H.1 K.size, fun j hj => by rw [K.cell H.1 hS]; exact H.2 j hj⟩
theorem ErrT.kept {S : Nat → Prop} {w w' : World} {E : Nat → Value} (H : ErrT w E) (K : Kept S w w') (hS : ∀ k, S k → 12 < k) : ErrT w' E :=
  ⟨Nat.lt_of_lt_of_le H.lt K.size, fun k hk => by rw [K.cell (by have := H.lt; omega) (fun h => by have := hS k h; omega)]; exact H.cell k hk, H.ptr⟩
theorem CfgAt.kept {S : Nat → Prop} {w w' : World} {X : Nat} (H : CfgAt w X) (K : Kept S w w') (hS : ¬ S X) : CfgAt w' X := by
  refine ⟨Nat.lt_of_lt_of_le H.1 K.size, ?_, ?_, ?_⟩ <;> rw [K.cell H.1 hS]
  · exact H.2.1
  · exact H.2.2.1
  · exact H.2.2.2
/-- What the function is given. -/
def clV (h o : Nat) (c : Cl) : Value := if c.er = 0 then .slice (some ⟨h, o + c.vb, none⟩) (c.ve - c.vb) (c.ve - c.vb) else .slice none 0 0
def erV (E : Nat → Value) (er : Nat) : Value := if er = 0 then .nilIface else E (er - 1)
structure COk (n : Nat) (c : Cl) : Prop where
  le : c.vb ≤ c.ve
  len : c.ve ≤ n
  off0 : 0 ≤ c.off
  offn : c.off ≤ n
  bad : c.er ≠ 0 → c.vb = 0 ∧ c.ve = 0
  str : c.kind = 1 → 2 ≤ c.off ∧ c.off + (c.ve - c.vb : Nat) ≤ n
theorem gi_ig (l : List Int) : (gi l).kind = (ig l 0).kind ∧ (gi l).vb = (ig l 0).vb ∧ (gi l).ve = (ig l 0).ve ∧ (gi l).en = (ig l 0).en ∧ (gi l).er = (ig l 0).er := by
  have h : ig l 0 = igAt l 0 := rfl
  rw [h]
  unfold gi igAt
  simp only [List.drop_zero, Nat.zero_add]
  by_cases h1 : bl l = l.length
  · rw [if_pos h1, if_pos h1]; exact ⟨rfl, rfl, rfl, rfl, rfl⟩
  · rw [if_neg h1, if_neg h1]
    by_cases h2 : (gt l (bl l)).er = 0
    · rw [if_pos h2, if_pos h2]
      by_cases h3 : (gt l (bl l)).kind = 1
      · rw [if_pos h3, if_pos h3]; exact ⟨rfl, rfl, rfl, rfl, rfl⟩
      · rw [if_neg h3, if_neg h3]; exact ⟨rfl, rfl, rfl, rfl, rfl⟩
    · rw [if_neg h2, if_neg h2]; exact ⟨rfl, rfl, rfl, rfl, rfl⟩
theorem gi_str {l : List Int} (hk : (gi l).kind = 1) (he : (gi l).er = 0) : (gi l).en = (gi l).ve + 1 ∧ 1 ≤ (gi l).vb := by
  unfold gi at *
  by_cases h1 : bl l = l.length
  · rw [if_pos h1] at he; cases he
  · rw [if_neg h1] at hk he ⊢
    by_cases h2 : (gt l (bl l)).er = 0
    · rw [if_pos h2] at hk he ⊢
      by_cases h3 : (gt l (bl l)).kind = 1
      · rw [if_pos h3]
        have := (gt_bound (xs := l) (o := bl l) (by have := bl_le l; omega)).2.2.1 h2
        have := this.2.2 h3
        simp only []
        omega
      · rw [if_neg h3] at hk; exact absurd hk h3
    · rw [if_neg h2] at he; exact absurd he h2
theorem cl_ok {l : List Int} {off : Nat} (h1 : 1 ≤ off) (ho : off ≤ l.length) (hen : (gi (l.drop off)).en ≠ 0) : COk l.length (clOf off (gi (l.drop off))) := by
  obtain ⟨b1, b2, b3, b4, b5, b6⟩ := gi_bound (l.drop off)
  rw [List.length_drop] at b2 b5 b6
  unfold clOf
  by_cases he : (gi (l.drop off)).er = 0
  · rw [if_pos he]
    obtain ⟨c1, c2, c3, c4, c5⟩ := b5 he
    refine ⟨by simp only []; omega, by simp only []; omega, by simp only []; omega, by simp only []; omega, fun h => absurd rfl h, fun hk => ?_⟩
    simp only [] at hk ⊢
    have := gi_str hk he
    omega
  · rw [if_neg he]
    obtain ⟨d1, d2, d3, d4⟩ := b6 he
    by_cases hm : (gi (l.drop off)).en = -1
    · have hk0 : (gi (l.drop off)).kind ≠ 1 := by
        unfold gi at hm ⊢
        by_cases h1 : bl (l.drop off) = (l.drop off).length
        · rw [if_pos h1]; decide
        · rw [if_neg h1] at hm
          split at hm
          · split at hm
            · simp only [] at hm; omega
            · simp only [] at hm; omega
          · simp only [] at hm; omega
      exact ⟨by simp, by simp, by simp only []; omega, by simp only []; omega, fun _ => ⟨rfl, rfl⟩, fun hk => absurd hk hk0⟩
    · refine ⟨by simp, by simp, by simp only []; omega, by simp only []; omega, fun _ => ⟨rfl, rfl⟩, fun hk => ?_⟩
      simp only []
      omega
end Go.Proofs.YtpahejmkidhhhaaDoor.G
end
