/- The reference's Alike of two nodes that hold the same value. -/
import Derived.Test.YtmomjgkbimeeoaaDoorGvTd
namespace Go.Proofs.YtmomjgkbimeeoaaDoor.G
set_option linter.unusedVariables false
set_option linter.unusedSimpArgs false
open Go.RowKit Go.Proofs.YtmomjgkbimeeoaaDoorW.PrintWords

/-- True is returned. -/
def TrueA (w : World) (e : Ending) (w' : World) : Prop := e = .returned (.bool true) ∧ Below w.heap.size w w'
/-- The two arguments' boxes stand. -/
structure R2 (w wr : World) (bx by' : Obj) : Prop where
  b1 : wr.heap[w.heap.size]? = some bx
  b2 : wr.heap[w.heap.size + 1]? = some by'
  below : Below w.heap.size w wr
theorem R2.start (w : World) (bx by' : Obj) : R2 w ((w.alloc bx).alloc by') bx by' := by
  have s1 : (w.alloc bx).heap.size = w.heap.size + 1 := World.size_alloc _ _
  have h2 := heap_alloc_new (w.alloc bx) by'
  rw [s1] at h2
  refine ⟨?_, h2, below_step (below_alloc1 _) (below_alloc1 _)⟩
  have := (below_alloc1 (w := w.alloc bx) by').block w.heap.size (by omega)
  rw [this]; exact heap_alloc_new _ _
theorem R2.next {w wr w1 : World} {bx by' : Obj} (h : R2 w wr bx by') (hb : Below wr.heap.size wr w1) : R2 w w1 bx by' :=
  ⟨(hb.block _ (Array.getElem?_eq_some_iff.1 h.b1).1).trans h.b1, (hb.block _ (Array.getElem?_eq_some_iff.1 h.b2).1).trans h.b2, below_step h.below hb⟩
set_option maxHeartbeats 16000000 in
set_option maxRecDepth 100000 in
theorem alike_calls (N : Nat) : ∀ (n : Nd), n.sz ≤ N → Ro n → Uq n → Td n → ∀ (k' : Int) (t' : ByteArray) (kA' : Option Addr) (kn' kc' : Nat) (nA' : Option Addr) (nn' nc' : Nat) (k'' : Int) (t'' : ByteArray) (kA'' : Option Addr) (kn'' kc'' : Nat) (nA'' : Option Addr) (nn'' nc'' : Nat) (w : World), NdAt w (fun _ => True) n [.int .i64 k', .string t', .slice kA' kn' kc', .slice nA' nn' nc'] → NdAt w (fun _ => True) n [.int .i64 k'', .string t'', .slice kA'' kn'' kc'', .slice nA'' nn'' nc''] →
    Calls Tryd.prog 11 #[.agg #[.int .i64 k', .string t', .slice kA' kn' kc', .slice nA' nn' nc'], .agg #[.int .i64 k'', .string t'', .slice kA'' kn'' kc'', .slice nA'' nn'' nc'']] w (TrueA w) := by
  induction N with
  | zero => intro n hn; cases n; simp [Nd.sz] at hn
  | succ N IH =>
    rintro ⟨k, t, ks, kids⟩ hn hro huq htd k' t' kA' kn' kc' nA' nn' nc' k'' t'' kA'' kn'' kc'' nA'' nn'' nc'' w hat hat2
    obtain ⟨kA, kc, nA, nc, hcs, hkc, hnc, hkeys, hks, hkids⟩ := hat.open
    simp only [List.cons.injEq, and_true, Value.int.injEq, Value.string.injEq, Value.slice.injEq, true_and] at hcs
    obtain ⟨e1, e2, ⟨e3, e4, e5⟩, e6, e7, e8⟩ := hcs
    obtain rfl := e1.symm; obtain rfl := e2.symm; obtain rfl := e3.symm; obtain rfl := e4.symm; obtain rfl := e5.symm; obtain rfl := e6.symm; obtain rfl := e7.symm; obtain rfl := e8.symm
    obtain ⟨jA, jc, mA, mc, hcs, hjc, hmc, hjeys, hjs, hjids⟩ := hat2.open
    simp only [List.cons.injEq, and_true, Value.int.injEq, Value.string.injEq, Value.slice.injEq, true_and] at hcs
    obtain ⟨e1, e2, ⟨e3, e4, e5⟩, e6, e7, e8⟩ := hcs
    obtain rfl := e1.symm; obtain rfl := e2.symm; obtain rfl := e3.symm; obtain rfl := e4.symm; obtain rfl := e5.symm; obtain rfl := e6.symm; obtain rfl := e7.symm; obtain rfl := e8.symm
    unfold Ro at hro
    unfold Uq at huq
    unfold Td at htd
    have hkl : ks.length ≤ 140737488351232 := by have := hro.1.2.1; omega
    have hnl : kids.length ≤ 140737488351232 := by have := hro.1.1; omega
    have HI := Aside0.mk (fun i (hi : i < kids.length) k' t' kA' kn' kc' nA' nn' nc' k'' t'' kA'' kn'' kc'' nA'' nn'' nc'' W (hAt : NdAt W (fun _ => True) kids[i] [.int .i64 k', .string t', .slice kA' kn' kc', .slice nA' nn' nc']) (hAt2 : NdAt W (fun _ => True) kids[i] [.int .i64 k'', .string t'', .slice kA'' kn'' kc'', .slice nA'' nn'' nc'']) => IH kids[i] (by have := Nd.sz_kid (k := k) (t := t) (ks := ks) (List.getElem_mem hi); omega) (ros_iff.1 hro.2 _ (List.getElem_mem hi)) (uqs_iff.1 huq.2 _ (List.getElem_mem hi)) (tds_iff.1 htd.2 _ (List.getElem_mem hi)) k' t' kA' kn' kc' nA' nn' nc' k'' t'' kA'' kn'' kc'' nA'' nn'' nc'' W hAt hAt2)
    have HK := Aside0.mk hkids
    have HJ := Aside0.mk hjids
    have HKS := Aside0.mk hks
    have HJS := Aside0.mk hjs
    have HMB : Aside0 (k = 6 → ks.length = kids.length) := ⟨fun h => by
      rcases htd.1 with h2 | h2 | h2 | h2 | h2
      · omega
      · omega
      · omega
      · omega
      · exact h2.2.2⟩
    have HM : Aside0 (∀ i, i < ks.length → memb ks (ks.getD i noStr) = some i) := ⟨fun i hi => by
      refine memb_first hi rfl (fun j hj e => ?_)
      have hp := List.pairwise_iff_getElem.1 (List.nodup_iff_pairwise_ne.1 huq.1) j i (by omega) hi hj
      rw [List.getD_eq_getElem?_getD, List.getD_eq_getElem?_getD, List.getElem?_eq_getElem hi, List.getElem?_eq_getElem (by omega : j < ks.length)] at e
      exact hp e⟩
    have HRO0 := Aside0.mk (R2.start w (.cells #[.int .i64 k, .string t, .slice kA ks.length kc, .slice nA kids.length nc] 25) (.cells #[.int .i64 k, .string t, .slice jA ks.length jc, .slice mA kids.length mc] 25))
    have HTT : (t.toList == t.toList) = true := by simp
    clear hat hat2 hkeys hks hkids hjeys hjs hjids hro IH hn huq htd
    go_enter Tryd.func11, Tryd.ntmps11
    go_upto_region 1 with fail
    generalize ((w.alloc (.cells #[.int .i64 k, .string t, .slice kA ks.length kc, .slice nA kids.length nc] 25)).alloc (.cells #[.int .i64 k, .string t, .slice jA ks.length jc, .slice mA kids.length mc] 25)) = W0 at HRO0 ⊢
    obtain ⟨x0, x1, x2, x3, xf⟩ := nd_cells HRO0.out.b1
    obtain ⟨y0, y1, y2, y3, yf⟩ := nd_cells HRO0.out.b2
    go_wp2_with fail
    go_loopw [41] (fun v wr => ∃ i : Nat, v = .int .i64 (i : Int) ∧ i ≤ kids.length ∧ Aside0 (R2 w wr (.cells #[.int .i64 k, .string t, .slice kA ks.length kc, .slice nA kids.length nc] 25) (.cells #[.int .i64 k, .string t, .slice jA ks.length jc, .slice mA kids.length mc] 25))) (fun v _ => kids.length - (intOf v).toNat)
    case atStart => exact ⟨0, rfl, Nat.zero_le _, HRO0⟩
    case round =>
      clear x0 x1 x2 x3 xf y0 y1 y2 y3 yf
      obtain ⟨i, rfl, hi, HR⟩ := hrel
      by_cases hlt : i < kids.length
      · obtain ⟨g, o, k2, t2, kA2, kn2, kc2, nA2, nn2, nc2, rfl, _, hgl, hkat, z0, z1, z2, z3⟩ := HK.out i hlt
        have hbw := HR.out.below
        rw [← hbw.cell (p := ⟨g, o + i * 4, none⟩) hgl] at z0
        rw [← hbw.cell (p := ⟨g, o + i * 4 + 1, none⟩) hgl] at z1
        rw [← hbw.cell (p := ⟨g, o + i * 4 + 2, none⟩) hgl] at z2
        rw [← hbw.cell (p := ⟨g, o + i * 4 + 3, none⟩) hgl] at z3
        have HAT := Aside0.mk hkat
        clear hkat
        obtain ⟨g', o', k3, t3, kA3, kn3, kc3, nA3, nn3, nc3, rfl, _, hgl2, hjat, q0, q1, q2, q3⟩ := HJ.out i hlt
        have HJAT := Aside0.mk hjat
        clear hjat
        obtain ⟨x0, x1, x2, x3, xf⟩ := nd_cells HR.out.b1
        go_upto_region 6 with fail
        have HRX := Aside0.mk (HR.out.next (below_alloc1 (w := wr) (.cells #[.int .i64 k2, .string t2, .slice kA2 kn2 kc2, .slice nA2 nn2 nc2] 25)))
        have HKX := Aside0.mk (heap_alloc_new wr (.cells #[.int .i64 k2, .string t2, .slice kA2 kn2 kc2, .slice nA2 nn2 nc2] 25))
        generalize hrs : wr.heap.size = B at HKX ⊢
        clear x0 x1 x2 x3 xf z0 z1 z2 z3 hbw hrs
        generalize (wr.alloc (.cells #[.int .i64 k2, .string t2, .slice kA2 kn2 kc2, .slice nA2 nn2 nc2] 25)) = W1 at HRX HKX ⊢
        obtain ⟨x0, x1, x2, x3, xf⟩ := nd_cells HRX.out.b1
        by_cases h6 : k = 6
        · have hik : i < ks.length := by have := HMB.out h6; omega
          obtain ⟨g3, o3, rfl, _, hgl3, hc⟩ := HKS.out i hik
          have hbw := HRX.out.below
          rw [← hbw.cell (p := ⟨g3, o3 + i, none⟩) hgl3] at hc
          have CM := Aside0.mk (fun W (hW : Below W1.heap.size W1 W) => member_calls k t ks (ks.getD i noStr) jA jc (some ⟨g', o', none⟩) kids.length mc W hkl (fun j hj => by
            obtain ⟨g', o', e, _, hl, hcc⟩ := HJS.out j hj
            have hb2 := below_step hbw hW
            exact ⟨g', o', e, Nat.lt_of_lt_of_le hl hb2.size, by rw [hb2.cell (p := ⟨g', o' + j, none⟩) hl]; exact hcc⟩))
          rw [HM.out i hik] at CM
          unfold IntA ixOf at CM
          generalize ks.getD i noStr = x at hc CM
          obtain ⟨y0, y1, y2, y3, yf⟩ := nd_cells HRX.out.b2
          have hd6 : (k == 6) = true := by simpa using h6
          clear hbw h6
          go_upto_region 8 with fail
          go_region_with (go_at_call 9; refine (CM.out _ ((Below.refl _ _).drew)).mono ?_; rintro e w1 ⟨rfl, hb1⟩)
          all_goals
            clear x0 x1 x2 x3 xf y0 y1 y2 y3 yf hc
            have HKX := Aside0.mk (((below_step ((Below.refl _ _).drew) hb1).block _ (Array.getElem?_eq_some_iff.1 HKX.out).1).trans HKX.out)
            have HRX := Aside0.mk (HRX.out.next (below_step ((Below.refl _ _).drew) hb1))
            have hbx := HRX.out.below
            obtain ⟨y0, y1, y2, y3, yf⟩ := nd_cells HRX.out.b2
            obtain ⟨u0, u1, u2, u3, uf⟩ := nd_cells HKX.out
            have q0' := (hbx.cell (p := ⟨g', o' + i * 4, none⟩) hgl2).trans q0
            have q1' := (hbx.cell (p := ⟨g', o' + i * 4 + 1, none⟩) hgl2).trans q1
            have q2' := (hbx.cell (p := ⟨g', o' + i * 4 + 2, none⟩) hgl2).trans q2
            have q3' := (hbx.cell (p := ⟨g', o' + i * 4 + 3, none⟩) hgl2).trans q3
            have HC := Aside0.mk (fun W (hW : Below w1.heap.size w1 W) => HI.out i hlt k2 t2 kA2 kn2 kc2 nA2 nn2 nc2 k3 t3 kA3 kn3 kc3 nA3 nn3 nc3 W (HAT.out.below (below_step hbx hW)) (HJAT.out.below (below_step hbx hW)))
            unfold TrueA at HC
            have hd : decide ((i : Int) < 0) = false := by simp
            clear hbx
            go_upto_region 9 with fail
            go_region_with (go_at_call 11; refine (HC.out _ ((Below.refl _ _).drew)).mono ?_; rintro e w2 ⟨rfl, hb2⟩)
            all_goals
              go_wp2_with fail
              go_roundw
              case rel => exact ⟨i + 1, by go_num, by omega, ⟨HRX.out.next (below_step ((Below.refl _ _).drew) hb2)⟩⟩
              case measure => simp [intOf]; omega
        · have hd6 : (k == 6) = false := by simpa using h6
          clear h6
          have hbx := HRX.out.below
          obtain ⟨y0, y1, y2, y3, yf⟩ := nd_cells HRX.out.b2
          obtain ⟨u0, u1, u2, u3, uf⟩ := nd_cells HKX.out
          have q0' := (hbx.cell (p := ⟨g', o' + i * 4, none⟩) hgl2).trans q0
          have q1' := (hbx.cell (p := ⟨g', o' + i * 4 + 1, none⟩) hgl2).trans q1
          have q2' := (hbx.cell (p := ⟨g', o' + i * 4 + 2, none⟩) hgl2).trans q2
          have q3' := (hbx.cell (p := ⟨g', o' + i * 4 + 3, none⟩) hgl2).trans q3
          have HC := Aside0.mk (fun W (hW : Below W1.heap.size W1 W) => HI.out i hlt k2 t2 kA2 kn2 kc2 nA2 nn2 nc2 k3 t3 kA3 kn3 kc3 nA3 nn3 nc3 W (HAT.out.below (below_step hbx hW)) (HJAT.out.below (below_step hbx hW)))
          unfold TrueA at HC
          have hd : decide ((i : Int) < 0) = false := by simp
          clear hbx
          go_upto_region 9 with fail
          go_region_with (go_at_call 11; refine (HC.out _ ((Below.refl _ _).drew)).mono ?_; rintro e w2 ⟨rfl, hb2⟩)
          all_goals
            go_wp2_with fail
            go_roundw
            case rel => exact ⟨i + 1, by go_num, by omega, ⟨HRX.out.next (below_step ((Below.refl _ _).drew) hb2)⟩⟩
            case measure => simp [intOf]; omega
      · obtain rfl : i = kids.length := by omega
        go_wp2_with fail
        go_ret
        exact ⟨rfl, HR.out.below⟩
end Go.Proofs.YtmomjgkbimeeoaaDoor.G
