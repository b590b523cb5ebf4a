/- The reference's Unique. -/
import Derived.Test.YtmomjgkbimeeoaaGvMb
namespace Go.Proofs.Ytmomjgkbimeeoaa.G
set_option linter.unusedVariables false
set_option linter.unusedSimpArgs false
open Go.RowKit Go.Proofs.YtmomjgkbimeeoaaW.PrintWords

/-- The argument's box stands, nothing of before has turned. -/
structure RO (w wr : World) (bx : Obj) : Prop where
  box : wr.heap[w.heap.size]? = some bx
  below : Below w.heap.size w wr
theorem RO.start (w : World) (bx : Obj) : RO w (w.alloc bx) bx := ⟨heap_alloc_new _ _, below_alloc1 _⟩
theorem RO.next {w wr w1 : World} {bx : Obj} (h : RO w wr bx) (hb : Below wr.heap.size wr w1) : RO w w1 bx := ⟨(hb.block _ (Array.getElem?_eq_some_iff.1 h.box).1).trans h.box, below_step h.below hb⟩
theorem nodup_of {ks : List ByteArray} (h : ∀ j, j < ks.length → ∀ i, j < i → i < ks.length → ks.getD i noStr ≠ ks.getD j noStr) : ks.Nodup := by
  rw [List.nodup_iff_pairwise_ne, List.pairwise_iff_getElem]
  intro i j hi hj hij e
  apply h i hi j hij hj
  rw [List.getD_eq_getElem?_getD, List.getD_eq_getElem?_getD, List.getElem?_eq_getElem hi, List.getElem?_eq_getElem hj]
  exact e.symm
set_option maxHeartbeats 16000000 in
set_option maxRecDepth 100000 in
theorem unique_calls (N : Nat) : ∀ (n : Nd), n.sz ≤ N → Ro n → ∀ (k' : Int) (t' : ByteArray) (kA' : Option Addr) (kn' kc' : Nat) (nA' : Option Addr) (nn' nc' : Nat) (w : World), NdAt w (fun _ => True) n [.int .i64 k', .string t', .slice kA' kn' kc', .slice nA' nn' nc'] →
    Calls Try.prog 12 #[.agg #[.int .i64 k', .string t', .slice kA' kn' kc', .slice nA' nn' nc']] w (BoolA (Uq n) w) := by
  induction N with
  | zero => intro n hn; cases n; simp [Nd.sz] at hn
  | succ N IH =>
    rintro ⟨k, t, ks, kids⟩ hn hro k' t' kA' kn' kc' nA' nn' nc' w hat
    obtain ⟨kA, kc, nA, nc, hcs, hkc, hnc, hkeys, hks, hkids⟩ := hat.open
    simp only [List.cons.injEq, and_true, Value.int.injEq, Value.string.injEq, Value.slice.injEq, true_and] at hcs
    obtain ⟨e1, e2, ⟨e3, e4, e5⟩, e6, e7, e8⟩ := hcs
    obtain rfl := e1.symm; obtain rfl := e2.symm; obtain rfl := e3.symm; obtain rfl := e4.symm; obtain rfl := e5.symm; obtain rfl := e6.symm; obtain rfl := e7.symm; obtain rfl := e8.symm
    unfold Ro at hro
    have hkl : ks.length ≤ 140737488351232 := by have := hro.1.2.1; omega
    have hnl : kids.length ≤ 140737488351232 := by have := hro.1.1; omega
    have HI := Aside0.mk (fun i (hi : i < kids.length) k' t' kA' kn' kc' nA' nn' nc' W (hAt : NdAt W (fun _ => True) kids[i] [.int .i64 k', .string t', .slice kA' kn' kc', .slice nA' nn' nc']) => IH kids[i] (by have := Nd.sz_kid (k := k) (t := t) (ks := ks) (List.getElem_mem hi); omega) (ros_iff.1 hro.2 _ (List.getElem_mem hi)) k' t' kA' kn' kc' nA' nn' nc' W hAt)
    have HK := Aside0.mk hkids
    have HKS := Aside0.mk hks
    have HRO0 := Aside0.mk (RO.start w (.cells #[.int .i64 k, .string t, .slice kA ks.length kc, .slice nA kids.length nc] 25))
    clear hat hkeys hks hkids hro IH hn
    go_enter Try.func12, Try.ntmps12
    go_upto_region 1 with fail
    generalize (w.alloc (.cells #[.int .i64 k, .string t, .slice kA ks.length kc, .slice nA kids.length nc] 25)) = W0 at HRO0 ⊢
    go_wp2_with fail
    go_loopw [3] (fun v3 wr => ∃ i : Nat, v3 = .int .i64 (i : Int) ∧ i ≤ ks.length ∧ Aside0 (RO w wr (.cells #[.int .i64 k, .string t, .slice kA ks.length kc, .slice nA kids.length nc] 25) ∧ ∀ j, j < i → ∀ l, j < l → l < ks.length → ks.getD l noStr ≠ ks.getD j noStr)) (fun v3 _ => ks.length - (intOf v3).toNat)
    case atStart => exact ⟨0, rfl, Nat.zero_le _, ⟨HRO0.out, fun j hj => by omega⟩⟩
    case round =>
      obtain ⟨i, rfl, hi, HR⟩ := hrel
      obtain ⟨x0, x1, x2, x3, xf⟩ := nd_cells HR.out.1.box
      by_cases hlt : i < ks.length
      · obtain ⟨g, o, rfl, _, hgl, hc⟩ := HKS.out i hlt
        have hbw := HR.out.1.below
        rw [← hbw.cell (p := ⟨g, o + i, none⟩) hgl] at hc
        have CA := Aside0.mk (fun W (hW : Below wr.heap.size wr W) => at_calls k t ks (ks.getD i noStr) (some ⟨g, o, none⟩) kc nA kids.length nc W hkl (fun j hj => by
          obtain ⟨g', o', e, _, hl, hcc⟩ := HKS.out j hj
          have hb2 := below_step hbw hW
          exact ⟨g', o', e, Nat.lt_of_lt_of_le hl hb2.size, by rw [hb2.cell (p := ⟨g', o' + j, none⟩) hl]; exact hcc⟩))
        unfold LastA at CA
        generalize hxx : ks.getD i noStr = x at hc CA
        have HXX := Aside0.mk hxx
        clear hbw hxx
        go_upto_region 4 with fail
        go_region_with (go_at_call 18; refine (CA.out _ ((Below.refl _ _).drew)).mono ?_; rintro e w1 ⟨z, rfl, hb1, hZ⟩)
        all_goals (by_cases hz : z = (i : Int))
        all_goals go_wp2_with fail
        all_goals first
          | (go_roundw
             case rel =>
               refine ⟨i + 1, by go_num, by omega, ⟨HR.out.1.next (below_step ((Below.refl _ _).drew) hb1), fun j hj l h1 h2 => ?_⟩⟩
               by_cases e : j = i
               · rw [e, HXX.out]
                 exact hZ.out l (by omega) h2
               · exact HR.out.2 j (by omega) l h1 h2
             case measure => simp [intOf]; omega)
          | (go_ret
             exact ⟨false, rfl, (HR.out.1.next (below_step ((Below.refl _ _).drew) hb1)).below, ⟨fun h => by cases h⟩⟩)
      · obtain rfl : i = ks.length := by omega
        have HND := Aside0.mk (nodup_of HR.out.2)
        have HRO := Aside0.mk HR.out.1
        go_wp2_with fail
        go_loopw [4] (fun v4 wr2 => ∃ i : Nat, v4 = .int .i64 (i : Int) ∧ i ≤ kids.length ∧ Aside0 (RO w wr2 (.cells #[.int .i64 k, .string t, .slice kA ks.length kc, .slice nA kids.length nc] 25) ∧ ∀ j (hj : j < kids.length), j < i → Uq kids[j])) (fun v4 _ => kids.length - (intOf v4).toNat)
        case atStart => exact ⟨0, rfl, Nat.zero_le _, ⟨HRO.out, fun j hj h => by omega⟩⟩
        case round =>
          clear x0 x1 x2 x3 xf
          obtain ⟨i, rfl, hi2, HR2⟩ := hrel
          obtain ⟨x0, x1, x2, x3, xf⟩ := nd_cells HR2.out.1.box
          by_cases hlt2 : i < kids.length
          · obtain ⟨g, o, k2, t2, kA2, kn2, kc2, nA2, nn2, nc2, rfl, _, hgl, hkat, z0, z1, z2, z3⟩ := HK.out i hlt2
            have hbw := HR2.out.1.below
            rw [← hbw.cell (p := ⟨g, o + i * 4, none⟩) hgl] at z0
            rw [← hbw.cell (p := ⟨g, o + i * 4 + 1, none⟩) hgl] at z1
            rw [← hbw.cell (p := ⟨g, o + i * 4 + 2, none⟩) hgl] at z2
            rw [← hbw.cell (p := ⟨g, o + i * 4 + 3, none⟩) hgl] at z3
            have HC := Aside0.mk (HI.out i hlt2 k2 t2 kA2 kn2 kc2 nA2 nn2 nc2 _ (hkat.below hbw))
            unfold BoolA at HC
            clear hkat hbw
            go_wp2_with (first | (go_at_call 12; refine HC.out.mono ?_; rintro e w1 ⟨b, rfl, hb1, hB⟩; cases b))
            all_goals first
              | (go_roundw
                 case rel =>
                   refine ⟨i + 1, by go_num, by omega, ⟨HR2.out.1.next hb1, fun j hj h1 => ?_⟩⟩
                   by_cases e : j = i
                   · subst e; exact hB.out (by trivial)
                   · exact HR2.out.2 j hj (by omega)
                 case measure => simp [intOf]; omega)
              | (go_ret
                 exact ⟨false, rfl, (HR2.out.1.next hb1).below, ⟨fun h => by cases h⟩⟩)
          · obtain rfl : i = kids.length := by omega
            go_wp2_with fail
            go_ret
            refine ⟨true, rfl, HR2.out.1.below, ⟨fun _ => ?_⟩⟩
            unfold Uq
            refine ⟨HND.out, uqs_iff.2 (fun a ha => ?_)⟩
            obtain ⟨j, hj, rfl⟩ := List.getElem_of_mem ha
            exact HR2.out.2 j hj hj
end Go.Proofs.Ytmomjgkbimeeoaa.G
