/- json-patch: values as interfaces hold them, made (plain, plainMap). -/
import Derived.Test.YtmomjgkbimeeoaaGvVa
import Derived.Laws.MakeOwn
namespace Go.Proofs.Ytmomjgkbimeeoaa.G
set_option linter.unusedVariables false
set_option linter.unusedSimpArgs false
open Go.RowKit Go.Proofs.YtmomjgkbimeeoaaW.PrintWords

theorem ifInfo20 : (Try.prog.info? 20).map (fun i => (i.zero, i.size, i.bytes)) = some (some .nilIface, 1, 16) := by kernel_rfl
theorem makeI_run (W : World) (n : Nat) (hn : n ≤ 2000000000000) : (Instr.makeSlice 49 (.int .i64 0) (.int .i64 (n : Int))).run Try.prog W = .ok (.slice (some ⟨W.heap.size, 0, none⟩) 0 n) (W.alloc (.cells (madeCells #[.nilIface] n) 20)) := by
  obtain ⟨i0, hi, hz0, hz1, hz2⟩ := parts_info ifInfo20
  have := run_make (P := Try.prog) (w := W) 49 20 i0 .nilIface Try.underlying49 hi hz0 .i64 .i64 0 (n : Int) (Int.le_refl _) (by omega) (by rw [hz2]; omega) (by omega)
  rw [Int.toNat_natCast, hz1, Nat.mul_one] at this
  exact this
/-- A map being filled by plainMap. -/
structure PM1 (w wr : World) (bx : Obj) (i : Nat) (ks : List ByteArray) (kids : List Nd) : Prop where
  box : wr.heap[w.heap.size]? = some bx
  below : Below w.heap.size w wr
  map : ∃ us, Mi wr (w.heap.size + 1) i (fOf (ks.take i) us) ∧ VsAt wr (fun j => w.heap.size + 2 ≤ j) (kids.take i) us
set_option maxHeartbeats 16000000 in
set_option maxRecDepth 100000 in
theorem plainMap_calls (t : ByteArray) (ks : List ByteArray) (kids : List Nd) (kA : Option Addr) (kc : Nat) (nA : Option Addr) (nc : Nat) (w : World) (hkl : ks.length = kids.length) (hnl : kids.length * 72 ≤ 140737488351232) (hnd : ks.Nodup) (hkz : ∀ x ∈ ks, x.size ≤ 140737488351232)
    (hks : ∀ i, i < ks.length → ∃ g o, kA = some ⟨g, o, none⟩ ∧ g < w.heap.size ∧ w.cell? ⟨g, o + i, none⟩ = some (.string (ks.getD i noStr)))
    (hkids : ∀ i (hi : i < kids.length), ∃ g o k' t' kA' kn' kc' nA' nn' nc', nA = some ⟨g, o, none⟩ ∧ g < w.heap.size ∧ NdAt w (fun _ => True) kids[i] [.int .i64 k', .string t', .slice kA' kn' kc', .slice nA' nn' nc'] ∧
        w.cell? ⟨g, o + i * 4, none⟩ = some (.int .i64 k') ∧ w.cell? ⟨g, o + i * 4 + 1, none⟩ = some (.string t') ∧ w.cell? ⟨g, o + i * 4 + 2, none⟩ = some (.slice kA' kn' kc') ∧ w.cell? ⟨g, o + i * 4 + 3, none⟩ = some (.slice nA' nn' nc'))
    (IH : ∀ i (hi : i < kids.length) k' t' kA' kn' kc' nA' nn' nc' W, NdAt W (fun _ => True) kids[i] [.int .i64 k', .string t', .slice kA' kn' kc', .slice nA' nn' nc'] → Calls Try.prog 21 #[.agg #[.int .i64 k', .string t', .slice kA' kn' kc', .slice nA' nn' nc']] W (ValA kids[i] W)) :
    Calls Try.prog 26 #[.agg #[.int .i64 6, .string t, .slice kA ks.length kc, .slice nA kids.length nc]] w (fun e w' => ∃ m us, e = .returned (.map (some m)) ∧ Below w.heap.size w w' ∧ Aside0 (w.heap.size ≤ m ∧ Mi w' m ks.length (fOf ks us) ∧ VsAt w' (fun j => w.heap.size ≤ j) kids us)) := by
  have hmm := @run_makeMap Try.prog
  have HKS := Aside0.mk hks
  have HK := Aside0.mk hkids
  have HI := Aside0.mk IH
  have HZ := Aside0.mk (And.intro hkl (And.intro hnd (And.intro hkz hnl)))
  have hnl2 : kids.length ≤ 140737488351232 := by omega
  have hb0 := below_alloc1 (w := w) (.cells #[.int .i64 6, .string t, .slice kA ks.length kc, .slice nA kids.length nc] 33)
  have hs0 : (w.alloc (.cells #[.int .i64 6, .string t, .slice kA ks.length kc, .slice nA kids.length nc] 33)).heap.size = w.heap.size + 1 := World.size_alloc _ _
  have hb1 := below_alloc1 (w := w.alloc (.cells #[.int .i64 6, .string t, .slice kA ks.length kc, .slice nA kids.length nc] 33)) (.map #[] 0)
  have hm1 := Mi.made (w.alloc (.cells #[.int .i64 6, .string t, .slice kA ks.length kc, .slice nA kids.length nc] 33))
  rw [hs0] at hm1
  have HP : Aside0 (PM1 w ((w.alloc (.cells #[.int .i64 6, .string t, .slice kA ks.length kc, .slice nA kids.length nc] 33)).alloc (.map #[] 0)) (.cells #[.int .i64 6, .string t, .slice kA ks.length kc, .slice nA kids.length nc] 33) 0 ks kids) :=
    ⟨⟨(hb1.block _ (by omega)).trans (heap_alloc_new _ _), below_step hb0 hb1, ⟨[], by rw [List.take_zero]; exact hm1, by rw [List.take_zero]; unfold VsAt; rfl⟩⟩⟩
  clear hks hkids IH hkl hnd hkz hnl hb0 hs0 hb1 hm1
  go_enter Try.func26, Try.ntmps26
  go_upto_region 2 with fail
  generalize hW0 : ((w.alloc (.cells #[.int .i64 6, .string t, .slice kA ks.length kc, .slice nA kids.length nc] 33)).alloc (.map #[] 0)) = W0 at HP
  clear hW0 hmm
  obtain ⟨x0, x1, x2, x3, xf⟩ := nd_cells HP.out.box
  go_wp2_with fail
  go_loopw [4, 5, 10] (fun _ _ v10 wr => ∃ i : Nat, v10 = .int .i64 (i : Int) ∧ i ≤ kids.length ∧ Aside0 (PM1 w wr (.cells #[.int .i64 6, .string t, .slice kA ks.length kc, .slice nA kids.length nc] 33) i ks kids)) (fun _ _ v10 _ => kids.length - (intOf v10).toNat)
  case atStart => exact ⟨0, rfl, Nat.zero_le _, HP⟩
  case round =>
    clear x0 x1 x2 x3 xf HP
    obtain ⟨i, rfl, hi, HP⟩ := hrel
    obtain ⟨x0, x1, x2, x3, xf⟩ := nd_cells HP.out.box
    by_cases hlt : i < kids.length
    · have hik : i < ks.length := by rw [HZ.out.1]; exact hlt
      obtain ⟨g, o, rfl, hgl, hc⟩ := HKS.out i hik
      obtain ⟨g2, o2, k', t', kA', kn', kc', nA', nn', nc', rfl, hgl2, hkat, z0, z1, z2, z3⟩ := HK.out i hlt
      have hb := HP.out.below
      rw [← hb.cell (p := ⟨g, o + i, none⟩) hgl] at hc
      rw [← hb.cell (p := ⟨g2, o2 + i * 4, none⟩) hgl2] at z0
      rw [← hb.cell (p := ⟨g2, o2 + i * 4 + 1, none⟩) hgl2] at z1
      rw [← hb.cell (p := ⟨g2, o2 + i * 4 + 2, none⟩) hgl2] at z2
      rw [← hb.cell (p := ⟨g2, o2 + i * 4 + 3, none⟩) hgl2] at z3
      obtain ⟨x, hxd⟩ : ∃ x, x = ks.getD i noStr := ⟨_, rfl⟩
      rw [← hxd] at hc
      have hxm : x ∈ ks := by rw [hxd, List.getD_eq_getElem?_getD, List.getElem?_eq_getElem hik]; exact List.getElem_mem _
      have hxz : x.size ≤ maxLen := by have := HZ.out.2.2.1 x hxm; unfold maxLen; omega
      have hkt : ks.take (i + 1) = ks.take i ++ [x] := by
        rw [List.take_succ_eq_append_getElem hik, hxd, List.getD_eq_getElem?_getD, List.getElem?_eq_getElem hik]; rfl
      have hxn : x ∉ ks.take i := by
        intro hx
        have h1 : ks.take i ++ ks.drop i = ks := List.take_append_drop i ks
        have h2 : ks.drop i = x :: ks.drop (i + 1) := by
          rw [List.drop_eq_getElem_cons hik, hxd, List.getD_eq_getElem?_getD, List.getElem?_eq_getElem hik]; rfl
        have hn := HZ.out.2.1
        rw [← h1, h2] at hn
        exact (List.nodup_append.1 hn).2.2 x hx x (by simp) rfl
      obtain ⟨us, hM, hV⟩ := HP.out.map
      have hul : us.length = i := by rw [hV.len, List.length_take]; omega
      have HM := Aside0.mk (And.intro hM (And.intro hV (And.intro hul (And.intro hxz (And.intro hkt (And.intro hxn hkat))))))
      have hgw : g ≠ w.heap.size + 1 ∧ w.heap.size ≠ w.heap.size + 1 := ⟨by omega, by omega⟩
      have HGW := Aside0.mk (And.intro hgw (And.intro hgl hc))
      clear hxd hxm hxz hkt hxn hM hV hul hkat hgw hgl hgl2 hb
      have hwl : w.heap.size < wr.heap.size := (Array.getElem?_eq_some_iff.1 HP.out.box).1
      have x2b : (wr.alloc (.cells #[.int .i64 k', .string t', .slice kA' kn' kc', .slice nA' nn' nc'] 33)).cell? ⟨w.heap.size, 2, none⟩ = some (.slice (some ⟨g, o, none⟩) ks.length kc) := ((below_alloc1 _).cell (p := ⟨w.heap.size, 2, none⟩) hwl).trans x2
      go_upto_region 6 with fail
      clear x2b hwl
      have hBV := below_alloc1 (w := wr) (.cells #[.int .i64 k', .string t', .slice kA' kn' kc', .slice nA' nn' nc'] 33)
      have hzV := heap_alloc_new wr (.cells #[.int .i64 k', .string t', .slice kA' kn' kc', .slice nA' nn' nc'] 33)
      generalize (wr.alloc (.cells #[.int .i64 k', .string t', .slice kA' kn' kc', .slice nA' nn' nc'] 33)) = V at hBV hzV ⊢
      generalize hhb : wr.heap.size = hb at hzV ⊢
      have hmb := HM.out.1.lt
      have hgb : g < wr.heap.size ∧ w.heap.size < wr.heap.size := ⟨by have := HP.out.below.size; have := HGW.out.2.1; omega, by omega⟩
      have KP : Aside0 (∀ (w' : World), (∀ j, j < V.heap.size → j ≠ w.heap.size + 1 → w'.heap[j]? = V.heap[j]?) → (w'.cell? ⟨w.heap.size, 2, none⟩ = some (.slice (some ⟨g, o, none⟩) ks.length kc) ∧ w'.cell? ⟨g, o + i, none⟩ = some (.string x) ∧ w'.cell? ⟨hb, 0, none⟩ = some (.int .i64 k') ∧ w'.cell? ⟨hb, 1, none⟩ = some (.string t') ∧ w'.cell? ⟨hb, 2, none⟩ = some (.slice kA' kn' kc') ∧ w'.cell? ⟨hb, 3, none⟩ = some (.slice nA' nn' nc'))) := ⟨fun w' hw => by
        have hVs := hBV.size
        have hhl := (Array.getElem?_eq_some_iff.1 hzV).1
        obtain ⟨q0, q1, q2, q3, _⟩ := nd_cells ((hw hb hhl (by omega)).trans hzV)
        obtain ⟨_, _, p2, _, _⟩ := nd_cells (((hw w.heap.size (by omega) (by omega)).trans (hBV.block _ hgb.2)).trans HP.out.box)
        refine ⟨p2, ?_, q0, q1, q2, q3⟩
        rw [World.cell?_of_block (w := V) (w' := w') (a := ⟨g, o + i, none⟩) (hw g (by omega) HGW.out.1.1), hBV.cell (p := ⟨g, o + i, none⟩) hgb.1]
        exact HGW.out.2.2⟩
      have HC := Aside0.mk (HI.out i hlt k' t' kA' kn' kc' nA' nn' nc' V.drew ((NdAt.below (NdAt.below HM.out.2.2.2.2.2.2 HP.out.below) hBV).below ((Below.refl _ _).drew)))
      unfold ValA at HC
      have HBV := Aside0.mk hBV
      clear x0 x1 x2 x3 xf z0 z1 z2 z3 hc hzV hBV hmb hgb
      go_region_held3 (fun w' => w'.cell? ⟨w.heap.size, 2, none⟩ = some (.slice (some ⟨g, o, none⟩) ks.length kc) ∧ w'.cell? ⟨g, o + i, none⟩ = some (.string x) ∧ w'.cell? ⟨hb, 0, none⟩ = some (.int .i64 k') ∧ w'.cell? ⟨hb, 1, none⟩ = some (.string t') ∧ w'.cell? ⟨hb, 2, none⟩ = some (.slice kA' kn' kc') ∧ w'.cell? ⟨hb, 3, none⟩ = some (.slice nA' nn' nc'))
        (first | exact KP.out _ (fun j _ _ => rfl) | exact KP.out _ (fun j hj _ => hb1.block j hj) | exact KP.out _ (fun j hj hne => (hg2.block j (Nat.lt_of_lt_of_le hj hb1.size) (fun e => hne (by cases e; rfl))).trans (hb1.block j hj)))
        (first
          | (go_at_call 21; refine HC.out.mono ?_; rintro e w1 ⟨v, rfl, hb1, hsh, hA⟩; obtain ⟨w2, hr2, hM2, hg2, hs2⟩ := (((HM.out.1.kept (HBV.out.block _ HM.out.1.lt)).kept (w' := V.drew) rfl).kept (hb1.block _ (show w.heap.size + 1 < V.heap.size from Nat.lt_of_lt_of_le HM.out.1.lt HBV.out.size))).put (by unfold maxLen; omega) x HM.out.2.2.2.1 v (by unfold fOf; rw [memb_none.2 HM.out.2.2.2.2.2.1]; rfl))
          | fail "none")
      all_goals
        go_wp2_with fail
        go_roundw
        case rel =>
          have hVs := HBV.out.size
          have hml := HM.out.1.lt
          have hw1s := hb1.size
          have hd0 : V.drew.heap.size = V.heap.size := rfl
          have hbV : Below wr.heap.size wr w1 := below_step HBV.out (below_step ((Below.refl _ _).drew) hb1)
          have hbox : w2.heap[w.heap.size]? = wr.heap[w.heap.size]? := by
            have h1 : w.heap.size < wr.heap.size := by omega
            rw [hg2.block _ (by omega) (fun e => by have := Option.some.inj e; omega), hbV.block _ h1]
          refine ⟨i + 1, by go_num, by omega, ⟨⟨hbox.trans HP.out.box, below_grow (below_step HP.out.below hbV) (by omega) hg2 (by omega), us ++ [v], ?_, ?_⟩⟩⟩
          · rw [HM.out.2.2.2.2.1, fOf_snoc HM.out.2.2.2.2.2.1 (by rw [HM.out.2.2.1, List.length_take]; omega)]
            exact hM2
          · rw [List.take_succ_eq_append_getElem hlt]
            refine VsAt.snoc (VsAt.kept (fun j hj hF => ?_) (HM.out.2.1)) (VAt.kept (fun j hj hF => ?_) (VAt.mono (G := fun j => w.heap.size + 2 ≤ j) (fun j _ hF => by omega) hA.out))
            · rw [hg2.block j (by omega) (fun e => by have := Option.some.inj e; omega), hbV.block j hj]
            · exact hg2.block j hj (fun e => by have := Option.some.inj e; omega)
        case measure => simp [intOf]; omega
    · obtain rfl : i = kids.length := by omega
      go_wp2_with fail
      go_ret
      obtain ⟨us, hM, hV⟩ := HP.out.map
      rw [List.take_length] at hV
      rw [List.take_of_length_le (by rw [HZ.out.1]; exact Nat.le_refl _), ← HZ.out.1] at hM
      exact ⟨_, us, rfl, HP.out.below, ⟨by omega, hM, VsAt.mono (fun j _ hF => by omega) hV⟩⟩
end Go.Proofs.Ytmomjgkbimeeoaa.G
