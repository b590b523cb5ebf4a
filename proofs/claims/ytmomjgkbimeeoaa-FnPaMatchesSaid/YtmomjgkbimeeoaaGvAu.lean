/- The reference's UTF8, AllUTF8, IsNumber. -/
import Derived.Test.YtmomjgkbimeeoaaGvCh
namespace Go.Proofs.Ytmomjgkbimeeoaa.G
set_option linter.unusedVariables false
set_option linter.unusedSimpArgs false
open Go.RowKit Go.Proofs.YtmomjgkbimeeoaaW.PrintWords
open Go.Lib (decodeL)

set_option maxHeartbeats 4000000 in
set_option maxRecDepth 100000 in
theorem utf8_calls (s : ByteArray) (w : World) (hs : s.size ≤ 140737488351232) : Calls Try.prog 19 #[.string s] w (BoolA True w) := by
  go_enter Try.func19, Try.ntmps19
  go_wp2_with fail
  go_loop [3] (fun i => ∃ k : Nat, i = .int .i64 k ∧ k ≤ s.size) (fun i => s.size - (intOf i).toNat)
  case atStart => exact ⟨0, rfl, Nat.zero_le _⟩
  case round =>
    obtain ⟨i, rfl, hi⟩ := hrel
    by_cases hlt : i < s.size
    · have hC := chr_calls s i w hlt hs
      have h1 := Go.Lib.decodeL_width (s.data.toList.drop i)
      have h2 := Go.Lib.decodeL_le (s.data.toList.drop i) (by intro e; have := congrArg List.length e; simp at this; have hd : s.data.size = s.size := rfl; omega)
      have hd : s.data.toList.length = s.size := by simp
      rw [List.length_drop, hd] at h2
      clear hd
      generalize decodeL (s.data.toList.drop i) = d at hC h1 h2
      obtain ⟨V, L⟩ := d
      simp only at h1 h2
      unfold Chr3 at hC
      simp only at hC
      generalize hb : (!(V == 65533 && L == 1)) = b at hC
      clear hb
      cases b
      · go_wp2_with (first | (go_at_call 23; refine hC.mono ?_; rintro e w1 ⟨rfl, rfl⟩))
        go_ret
        exact ⟨_, rfl, Below.refl _ _, ⟨fun _ => trivial⟩⟩
      · go_wp2_with (first | (go_at_call 23; refine hC.mono ?_; rintro e w1 ⟨rfl, rfl⟩))
        go_round
        case rel => exact ⟨i + L, by go_num, by omega⟩
        case measure => simp [intOf]; omega
    · go_wp2_with fail
      go_ret
      exact ⟨_, rfl, Below.refl _ _, ⟨fun _ => trivial⟩⟩

set_option maxHeartbeats 4000000 in
set_option maxRecDepth 100000 in
theorem isNum_calls (s : ByteArray) (w : World) (hs : s.size ≤ 140737488351232) : Calls Try.prog 17 #[.string s] w (BoolA (num (bytesOf s) = some s.size) w) := by
  go_enter Try.func17, Try.ntmps17
  go_upto_region 2 with fail
  have hz := heap_alloc_new w (.cells #[.string s, .int .i64 0] 40)
  have HB := Aside0.mk (below_alloc1 (w := w) (.cells #[.string s, .int .i64 0] 40))
  have hR : RS (w.alloc (.cells #[.string s, .int .i64 0] 40)) w.heap.size s 0 := ⟨by rw [World.size_alloc]; omega, blk_cell hz rfl, blk_cell hz rfl, blk_froz hz⟩
  have hC := number_calls s w.heap.size 0 _ hR (Nat.zero_le _) hs
  have e0 : rest s 0 = bytesOf s := by unfold rest; exact List.drop_zero
  rw [e0] at hC
  have HC := Aside0.mk hC
  unfold Went at HC
  clear hC e0 hR hz
  generalize (w.alloc (.cells #[.string s, .int .i64 0] 40)) = W0 at HC HB ⊢
  go_wp2_with (first | (go_at_call 22; refine HC.out.mono ?_; rintro e w1 ⟨b, p, rfl, hM, hp, hA⟩; have HM := Aside0.mk hM; have HA := Aside0.mk hA; have hc1 := hM.r.c1; clear hM hA; cases b))
  · go_ret
    exact ⟨_, rfl, HB.out.grown HM.out.g HB.out.size (fun k h => by cases h; exact Nat.le_refl _), ⟨fun h => by cases h⟩⟩
  · go_ret
    refine ⟨_, rfl, HB.out.grown HM.out.g HB.out.size (fun k h => by cases h; exact Nat.le_refl _), ⟨fun h => ?_⟩⟩
    have h2 : (p : Int) = (s.size : Int) := by simpa using h
    have h3 := HA.out
    unfold Ans at h3
    cases ho : num (bytesOf s) with
    | none => rw [ho] at h3; cases h3
    | some q => rw [ho] at h3; simp only at h3; congr 1; omega

set_option maxHeartbeats 16000000 in
set_option maxRecDepth 100000 in
theorem allUtf8_calls (N : Nat) : ∀ (n : Nd), n.sz ≤ N → Ro n → ∀ (k' : Int) (t' : ByteArray) (kA' : Option Addr) (kn' kc' : Nat) (nA' : Option Addr) (nn' nc' : Nat) (w : World), NdAt w (fun _ => True) n [.int .i64 k', .string t', .slice kA' kn' kc', .slice nA' nn' nc'] →
    Calls Try.prog 13 #[.agg #[.int .i64 k', .string t', .slice kA' kn' kc', .slice nA' nn' nc']] w (BoolA True w) := by
  induction N with
  | zero => intro n hn; cases n; simp [Nd.sz] at hn
  | succ N IH =>
    rintro ⟨k, t, ks, kids⟩ hn hro k' t' kA' kn' kc' nA' nn' nc' w hat
    obtain ⟨kA, kc, nA, nc, hcs, hkc, hnc, hkeys, hks, hkids⟩ := hat.open
    simp only [List.cons.injEq, and_true, Value.int.injEq, Value.string.injEq, Value.slice.injEq, true_and] at hcs
    obtain ⟨e1, e2, ⟨e3, e4, e5⟩, e6, e7, e8⟩ := hcs
    obtain rfl := e1.symm; obtain rfl := e2.symm; obtain rfl := e3.symm; obtain rfl := e4.symm; obtain rfl := e5.symm; obtain rfl := e6.symm; obtain rfl := e7.symm; obtain rfl := e8.symm
    unfold Ro at hro
    have hkl : ks.length ≤ 140737488351232 := by have := hro.1.2.1; omega
    have hnl : kids.length ≤ 140737488351232 := by have := hro.1.1; omega
    have HT := Aside0.mk (fun W => utf8_calls t W hro.1.2.2.1)
    have HX := Aside0.mk (fun i (hi : i < ks.length) W => utf8_calls (ks.getD i noStr) W (hro.1.2.2.2 _ (by rw [List.getD_eq_getElem?_getD, List.getElem?_eq_getElem hi]; exact List.getElem_mem _)))
    unfold BoolA at HT HX
    have HI := Aside0.mk (fun i (hi : i < kids.length) k' t' kA' kn' kc' nA' nn' nc' W (hAt : NdAt W (fun _ => True) kids[i] [.int .i64 k', .string t', .slice kA' kn' kc', .slice nA' nn' nc']) => IH kids[i] (by have := Nd.sz_kid (k := k) (t := t) (ks := ks) (List.getElem_mem hi); omega) (ros_iff.1 hro.2 _ (List.getElem_mem hi)) k' t' kA' kn' kc' nA' nn' nc' W hAt)
    have HK := Aside0.mk hkids
    have HKS := Aside0.mk hks
    have HRO0 := Aside0.mk (RO.start w (.cells #[.int .i64 k, .string t, .slice kA ks.length kc, .slice nA kids.length nc] 25))
    clear hat hkeys hks hkids hro IH hn
    go_enter Try.func13, Try.ntmps13
    go_upto_region 1 with fail
    generalize (w.alloc (.cells #[.int .i64 k, .string t, .slice kA ks.length kc, .slice nA kids.length nc] 25)) = W0 at HRO0 ⊢
    obtain ⟨x0, x1, x2, x3, xf⟩ := nd_cells HRO0.out.box
    go_upto_region 3 with (first | (go_at_call 19; refine (HT.out _).mono ?_; rintro e w1 ⟨b, rfl, hb1, _⟩; have HR1 := Aside0.mk (HRO0.out.next hb1); clear hb1; cases b))
    · go_ret
      exact ⟨_, rfl, HR1.out.below, ⟨fun _ => trivial⟩⟩
    clear x0 x1 x2 x3 xf
    go_wp2_with fail
    go_loopw [3] (fun v3 wr => ∃ i : Nat, v3 = .int .i64 (i : Int) ∧ i ≤ ks.length ∧ Aside0 (RO w wr (.cells #[.int .i64 k, .string t, .slice kA ks.length kc, .slice nA kids.length nc] 25))) (fun v3 _ => ks.length - (intOf v3).toNat)
    case atStart => exact ⟨0, rfl, Nat.zero_le _, HR1⟩
    case round =>
      obtain ⟨i, rfl, hi, HR⟩ := hrel
      obtain ⟨x0, x1, x2, x3, xf⟩ := nd_cells HR.out.box
      by_cases hlt : i < ks.length
      · obtain ⟨g, o, rfl, _, hgl, hc⟩ := HKS.out i hlt
        have hbw := HR.out.below
        rw [← hbw.cell (p := ⟨g, o + i, none⟩) hgl] at hc
        have CA := Aside0.mk (HX.out i hlt)
        generalize hxx : ks.getD i noStr = x at hc CA
        clear hbw hxx
        go_wp2_with (first | (go_at_call 19; refine (CA.out _).mono ?_; rintro e w1 ⟨b, rfl, hb1, _⟩; cases b))
        · go_ret
          exact ⟨false, rfl, (HR.out.next hb1).below, ⟨fun _ => trivial⟩⟩
        · go_roundw
          case rel => exact ⟨i + 1, by go_num, by omega, ⟨HR.out.next hb1⟩⟩
          case measure => simp [intOf]; omega
      · obtain rfl : i = ks.length := by omega
        have HRO := HR
        go_wp2_with fail
        go_loopw [4] (fun v4 wr2 => ∃ i : Nat, v4 = .int .i64 (i : Int) ∧ i ≤ kids.length ∧ Aside0 (RO w wr2 (.cells #[.int .i64 k, .string t, .slice kA ks.length kc, .slice nA kids.length nc] 25))) (fun v4 _ => kids.length - (intOf v4).toNat)
        case atStart => exact ⟨0, rfl, Nat.zero_le _, HRO⟩
        case round =>
          clear x0 x1 x2 x3 xf
          obtain ⟨i, rfl, hi2, HR2⟩ := hrel
          obtain ⟨x0, x1, x2, x3, xf⟩ := nd_cells HR2.out.box
          by_cases hlt2 : i < kids.length
          · obtain ⟨g, o, k2, t2, kA2, kn2, kc2, nA2, nn2, nc2, rfl, _, hgl, hkat, z0, z1, z2, z3⟩ := HK.out i hlt2
            have hbw := HR2.out.below
            rw [← hbw.cell (p := ⟨g, o + i * 4, none⟩) hgl] at z0
            rw [← hbw.cell (p := ⟨g, o + i * 4 + 1, none⟩) hgl] at z1
            rw [← hbw.cell (p := ⟨g, o + i * 4 + 2, none⟩) hgl] at z2
            rw [← hbw.cell (p := ⟨g, o + i * 4 + 3, none⟩) hgl] at z3
            have HC := Aside0.mk (HI.out i hlt2 k2 t2 kA2 kn2 kc2 nA2 nn2 nc2 _ (hkat.below hbw))
            unfold BoolA at HC
            clear hkat hbw
            go_wp2_with (first | (go_at_call 13; refine HC.out.mono ?_; rintro e w1 ⟨b, rfl, hb1, hB⟩; cases b))
            · go_ret
              exact ⟨false, rfl, (HR2.out.next hb1).below, ⟨fun _ => trivial⟩⟩
            · go_roundw
              case rel => exact ⟨i + 1, by go_num, by omega, ⟨HR2.out.next hb1⟩⟩
              case measure => simp [intOf]; omega
          · obtain rfl : i = kids.length := by omega
            go_wp2_with fail
            go_ret
            exact ⟨true, rfl, HR2.out.below, ⟨fun _ => trivial⟩⟩

end Go.Proofs.Ytmomjgkbimeeoaa.G
