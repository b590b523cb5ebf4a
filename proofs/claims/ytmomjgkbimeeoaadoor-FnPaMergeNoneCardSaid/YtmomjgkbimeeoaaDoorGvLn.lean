/- FnPaMergeNone: the walk. -/
import Derived.Test.YtmomjgkbimeeoaaDoorGvNq
namespace Go.Proofs.YtmomjgkbimeeoaaDoor.G
set_option linter.unusedVariables false
set_option linter.unusedSimpArgs false
open Go.RowKit Go.Proofs.YtmomjgkbimeeoaaDoorW.PrintWords

/-- The names' nulls. -/
def nuls (ps : List ByteArray) : List Nd := ps.map fun _ => .mk 0 noStr [] []
theorem nuls_snoc (ps : List ByteArray) (x : ByteArray) : nuls (ps ++ [x]) = nuls ps ++ [.mk 0 noStr [] []] := by unfold nuls; simp
theorem nulAt (w : World) (F : Nat → Prop) : NdAt w F (.mk 0 noStr [] []) [.int .i64 0, .string ⟨#[]⟩, .slice none 0 0, .slice none 0 0] := by
  unfold NdAt
  exact ⟨_, _, [], rfl, ⟨none, 0, rfl, Nat.le_refl _, rfl, fun i u h => by simp at h⟩, ⟨none, 0, rfl, Nat.le_refl _, rfl, fun i u h => by simp at h⟩, by unfold NdsAt; rfl⟩
/-- What the loop keeps. -/
structure PB (w wr : World) (hh : Nat) (bx : Obj) (ks ps : List ByteArray) (qA : Option Addr) (n qc : Nat) (mA : Option Addr) (mc : Nat) : Prop where
  ob : NQ w wr (hh + 1) hh ps qA n qc mA n mc (nuls ps)
  box : wr.heap[w.heap.size]? = some bx
  lt : w.heap.size < hh
  nodup : ps.Nodup
  apart : ∀ x ∈ ps, x ∉ ks
  small : ∀ x ∈ ps, x.size ≤ 140737488351232
theorem PB.next {w wr w1 : World} {hh : Nat} {bx : Obj} {ks ps : List ByteArray} {qA : Option Addr} {n qc : Nat} {mA : Option Addr} {mc : Nat} (h : PB w wr hh bx ks ps qA n qc mA mc) (hb : Below wr.heap.size wr w1) : PB w w1 hh bx ks ps qA n qc mA mc :=
  ⟨h.ob.next hb, (hb.block _ (Array.getElem?_eq_some_iff.1 h.box).1).trans h.box, h.lt, h.nodup, h.apart, h.small⟩
theorem PB.keys {w wr : World} {hh : Nat} {bx : Obj} {ks ps : List ByteArray} {qA : Option Addr} {n qc : Nat} {mA : Option Addr} {mc : Nat} (h : PB w wr hh bx ks ps qA n qc mA mc) : StrsAt wr qA ps := fun i hi => by
  have hx : (ps.map Value.string)[i]? = some (.string (ps.getD i noStr)) := by simp [List.getElem?_map, List.getD_eq_getElem?_getD, List.getElem?_eq_getElem hi]
  have := h.ob.lenk
  subst this
  obtain ⟨g, e, hl, hc⟩ := row_at h.ob.keys hx
  exact ⟨g, 0, e, hl, by rw [Nat.zero_add]; exact hc⟩
theorem nulP_none (w : World) (F : Nat → Prop) : NdAt w F (nulP []) [.int .i64 6, .string ⟨#[]⟩, .slice none 0 0, .slice none 0 0] := by
  unfold nulP NdAt
  exact ⟨_, _, [], rfl, ⟨none, 0, rfl, Nat.le_refl _, rfl, fun i u h => by simp at h⟩, ⟨none, 0, rfl, Nat.le_refl _, rfl, fun i u h => by simp at h⟩, by unfold NdsAt; rfl⟩
theorem pb_patch {w wr : World} {hh : Nat} {bx : Obj} {ks ps : List ByteArray} {qA : Option Addr} {n qc : Nat} {mA : Option Addr} {mc : Nat} (h : PB w wr hh bx ks ps qA n qc mA mc) : NdAt wr (fun _ => True) (nulP ps) [.int .i64 6, .string ⟨#[]⟩, .slice qA n qc, .slice mA n mc] :=
  NdAt.mono (fun _ _ _ => trivial) (h.ob.fin (Nat.le_refl _) (fun _ _ _ => rfl))
set_option maxHeartbeats 16000000 in
set_option maxRecDepth 100000 in
theorem mergeNone_walk (n : Nd) (hro : Ro n) (names : List ByteArray) (hnl : names.length ≤ 140737488351232) (hnz : ∀ x ∈ names, x.size ≤ 140737488351232) (k' : Int) (t' : ByteArray) (kA' : Option Addr) (kn' kc' : Nat) (nA' : Option Addr) (nn' nc' : Nat) (sA : Option Addr) (sc : Nat) (T : TypeId) (u : Value) (w : World)
    (hat : NdAt w (fun _ => True) n [.int .i64 k', .string t', .slice kA' kn' kc', .slice nA' nn' nc']) (hst : StrsAt w sA names) (hg : w.cell? ⟨2, 0, none⟩ = some (.iface T u)) (hg2 : 2 < w.heap.size) :
    Calls Tryd.prog 3 #[.agg #[.int .i64 k', .string t', .slice kA' kn' kc', .slice nA' nn' nc'], .slice sA names.length sc] w (fun e w' => e = .returned (.bool true) ∧ Below w.heap.size w w') := by
  have hat0 := hat
  have hro0 := hro
  obtain ⟨k, t, ks, kids⟩ := n
  obtain ⟨kA, kc, nA, nc, hcs, hkc, hnc, hkeys, hks, hkids⟩ := hat.open
  simp only [List.cons.injEq, and_true, Value.int.injEq, Value.string.injEq, Value.slice.injEq, true_and] at hcs
  obtain ⟨e1, e2, ⟨e3, e4, e5⟩, e6, e7, e8⟩ := hcs
  obtain rfl := e1.symm; obtain rfl := e2.symm; obtain rfl := e3.symm; obtain rfl := e4.symm; obtain rfl := e5.symm; obtain rfl := e6.symm; obtain rfl := e7.symm; obtain rfl := e8.symm
  unfold Ro at hro
  have hkl : ks.length ≤ 140737488351232 := by have := hro.1.2.1; omega
  have HF2 := Aside0.mk (fun (W : World) (hW : Below w.heap.size w W) => fits2_calls _ hro0 k t kA ks.length kc nA kids.length nc W (hat0.below hW))
  have HF1 := Aside0.mk (fun (W : World) (hW : Below w.heap.size w W) => fits1_calls names sA sc W hnl (hst.below hW))
  have HPV := Aside0.mk (fun (W : World) (hW : Below w.heap.size w W) => paValue_calls _ hro0 k t kA ks.length kc nA kids.length nc W (hat0.below hW))
  unfold BoolA at HF2 HF1 HPV
  have HST := Aside0.mk hst
  have HNZ := Aside0.mk hnz
  have HKS : Aside0 (StrsAt w kA ks) := ⟨fun i hi => by
    obtain ⟨g, o, e, _, hl, hc⟩ := hks i hi
    exact ⟨g, o, e, hl, hc⟩⟩
  have HMB := Aside0.mk (fun (W : World) (hW : Below w.heap.size w W) (x : ByteArray) => member_calls k t ks x kA kc nA kids.length nc W hkl (HKS.out.below hW))
  have HRO := Aside0.mk hro0
  have HAT := Aside0.mk hat0
  have HG := Aside0.mk (And.intro hg hg2)
  have HRO0 := Aside0.mk (RO.start w (.cells #[.int .i64 k, .string t, .slice kA ks.length kc, .slice nA kids.length nc] 25))
  clear hat hat0 hro hro0 hst hnz hks hkeys hkids hg hg2
  go_enter Tryd.func3, Tryd.ntmps3
  go_upto_region 1 with fail
  generalize (w.alloc (.cells #[.int .i64 k, .string t, .slice kA ks.length kc, .slice nA kids.length nc] 25)) = W0 at HRO0 ⊢
  obtain ⟨x0, x1, x2, x3, xf⟩ := nd_cells HRO0.out.box
  go_upto_region 3 with (first
    | (go_at_call 6; refine (HF2.out _ HRO0.out.below).mono ?_; rintro e w1 ⟨b, rfl, hb1, _⟩; have HR1 := Aside0.mk (HRO0.out.next hb1); clear hb1; cases b)
    | (go_at_call 7; refine (HF1.out _ HR1.out.below).mono ?_; rintro e w2 ⟨b, rfl, hb1, _⟩; have HR2 := Aside0.mk (HR1.out.next hb1); clear hb1; cases b))
  · go_ret
    exact ⟨rfl, HR1.out.below⟩
  · go_ret
    exact ⟨rfl, HR2.out.below⟩
  clear x0 x1 x2 x3 xf HR1 HF1 HF2 HRO0
  obtain ⟨x0, x1, x2, x3, xf⟩ := nd_cells HR2.out.box
  by_cases h6 : ¬ k = 6
  · have hd6 : (k != 6) = true := by simpa using h6
    go_wp2_with fail
    go_ret
    exact ⟨rfl, HR2.out.below⟩
  obtain rfl : k = 6 := by omega
  clear h6
  by_cases h50 : 50 < names.length
  · go_wp2_with (first | (go_at_call 8; refine (HPV.out _ HR2.out.below).mono ?_; rintro e w3 ⟨b, rfl, hb1, hP⟩; have HR3 := Aside0.mk (HR2.out.next hb1); clear hb1; cases b))
    all_goals
      go_ret
      exact ⟨rfl, HR3.out.below⟩
  go_upto_region 5 with (first | (go_at_call 8; refine (HPV.out _ HR2.out.below).mono ?_; rintro e w3 ⟨b, rfl, hb1, hP⟩; have HR3 := Aside0.mk (HR2.out.next hb1); clear hb1; cases b))
  · go_ret
    exact ⟨rfl, HR3.out.below⟩
  clear x0 x1 x2 x3 xf HR2 HPV
  have HTU := Aside0.mk (hP.out (by trivial))
  clear hP
  go_upto_region 6 with fail
  have hz := heap_alloc_new w3 (.cells #[.int .i64 6, .string ⟨#[]⟩, .slice none 0 0, .slice none 0 0] 25)
  have hb := below_alloc1 (w := w3) (.cells #[.int .i64 6, .string ⟨#[]⟩, .slice none 0 0, .slice none 0 0] 25)
  have hs3 : (w3.alloc (.cells #[.int .i64 6, .string ⟨#[]⟩, .slice none 0 0, .slice none 0 0] 25)).heap.size = w3.heap.size + 1 := World.size_alloc _ _
  have hw3 : w.heap.size < w3.heap.size := (Array.getElem?_eq_some_iff.1 HR3.out.box).1
  have HPB : Aside0 (PB w (w3.alloc (.cells #[.int .i64 6, .string ⟨#[]⟩, .slice none 0 0, .slice none 0 0] 25)) w3.heap.size (.cells #[.int .i64 6, .string t, .slice kA ks.length kc, .slice nA kids.length nc] 25) ks [] none 0 0 none 0) :=
    ⟨⟨NQ.start hz (below_step HR3.out.below hb) (by omega) (by omega) (by omega), (hb.block _ hw3).trans HR3.out.box, hw3, List.nodup_nil, (fun x hx => absurd hx List.not_mem_nil), (fun x hx => absurd hx List.not_mem_nil)⟩⟩
  clear hz hb hs3 hw3 HR3
  generalize w3.heap.size = hh at HPB ⊢
  generalize (w3.alloc (.cells #[.int .i64 6, .string ⟨#[]⟩, .slice none 0 0, .slice none 0 0] 25)) = W3 at HPB ⊢
  go_wp2_with fail
  go_loopw [32] (fun v wr => ∃ (i : Nat) (ps : List ByteArray) (qA : Option Addr) (n qc : Nat) (mA : Option Addr) (mc : Nat), v = .int .i64 (i : Int) ∧ i ≤ names.length ∧ n ≤ i ∧ Aside0 (PB w wr hh (.cells #[.int .i64 6, .string t, .slice kA ks.length kc, .slice nA kids.length nc] 25) ks ps qA n qc mA mc)) (fun v _ => names.length - (intOf v).toNat)
  case atStart => exact ⟨0, [], none, 0, 0, none, 0, rfl, Nat.zero_le _, Nat.le_refl _, HPB⟩
  case round =>
    clear HPB
    obtain ⟨i, ps, qA, n, qc, mA, mc, rfl, hi, hni, HPB⟩ := hrel
    obtain ⟨x0, x1, x2, x3, xf⟩ := nd_cells HPB.out.box
    by_cases hlt : i < names.length
    · have hlk := HPB.out.ob.lenk
      subst hlk
      have hb := HPB.out.ob.below
      obtain ⟨g, o, rfl, hgl, hc⟩ := HST.out i hlt
      rw [← hb.cell (p := ⟨g, o + i, none⟩) hgl] at hc
      have hxs : (names.getD i noStr).size ≤ 140737488351232 := HNZ.out _ (by rw [List.getD_eq_getElem?_getD, List.getElem?_eq_getElem hlt]; exact List.getElem_mem _)
      generalize names.getD i noStr = x at hc hxs
      have HM1 := Aside0.mk (HMB.out wr hb x)
      have HXS := Aside0.mk hxs
      clear hb hxs
      by_cases hA : x ∈ ks
      · obtain ⟨j, hj⟩ : ∃ j, memb ks x = some j := by
          cases h : memb ks x with
          | none => exact absurd hA (memb_none.1 h)
          | some j => exact ⟨j, rfl⟩
        rw [hj] at HM1
        unfold IntA ixOf at HM1
        clear hj hA
        go_wp2_with (first | (go_at_call 9; refine HM1.out.mono ?_; rintro e w4 ⟨rfl, hb4⟩))
        go_roundw
        case rel => exact ⟨i + 1, ps, qA, ps.length, qc, mA, mc, by go_num, by omega, by omega, ⟨HPB.out.next hb4⟩⟩
        case measure => simp [intOf]; omega
      · rw [memb_none.2 hA] at HM1
        unfold IntA ixOf at HM1
        have HNA := Aside0.mk hA
        clear hA
        have HM2 := Aside0.mk (fun (W : World) (hW : Below wr.heap.size wr W) => member_calls 6 ⟨#[]⟩ ps x qA qc mA ps.length mc W (by omega) (HPB.out.keys.below hW))
        by_cases hB : x ∈ ps
        · obtain ⟨j, hj⟩ : ∃ j, memb ps x = some j := by
            cases h : memb ps x with
            | none => exact absurd hB (memb_none.1 h)
            | some j => exact ⟨j, rfl⟩
          rw [hj] at HM2
          unfold IntA ixOf at HM2
          clear hj hB
          go_wp2_with (first
            | (go_at_call 9; refine HM1.out.mono ?_; rintro e w4 ⟨rfl, hb4⟩; have H4 := Aside0.mk (HPB.out.next hb4); obtain ⟨m0, m1, m2, m3, mf⟩ := H4.out.ob.cells; clear HM1)
            | (go_at_call 9; refine (HM2.out _ hb4).mono ?_; rintro e w5 ⟨rfl, hb5⟩; have H5 := Aside0.mk (H4.out.next hb5)))
          go_roundw
          case rel => exact ⟨i + 1, ps, qA, ps.length, qc, mA, mc, by go_num, by omega, by omega, H5⟩
          case measure => simp [intOf]; omega
        · rw [memb_none.2 hB] at HM2
          unfold IntA ixOf at HM2
          have HNB := Aside0.mk hB
          have HU := Aside0.mk (fun (W : World) => utf8_calls x W HXS.out)
          unfold BoolA at HU
          clear hB
          go_upto_region 10 with (first
            | (go_at_call 9; refine HM1.out.mono ?_; rintro e w4 ⟨rfl, hb4⟩; have H4 := Aside0.mk (HPB.out.next hb4); obtain ⟨m0, m1, m2, m3, mf⟩ := H4.out.ob.cells; clear HM1)
            | (go_at_call 9; refine (HM2.out _ hb4).mono ?_; rintro e w5 ⟨rfl, hb5⟩; have H5 := Aside0.mk (H4.out.next hb5))
            | (go_at_call 10; refine (HU.out _).mono ?_; rintro e w6 ⟨b, rfl, hb6, _⟩; have H6 := Aside0.mk (H5.out.next hb6); clear hb6; cases b))
          · go_wp2_with fail
            go_roundw
            case rel => exact ⟨i + 1, ps, qA, ps.length, qc, mA, mc, by go_num, by omega, by omega, H6⟩
            case measure => simp [intOf]; omega
          · clear x0 x1 x2 x3 xf m0 m1 m2 m3 mf hb4 hb5 hc H4 H5 HM2 HU
            obtain ⟨m0, m1, m2, m3, mf⟩ := H6.out.ob.cells
            have HKR := Aside0.mk H6.out.ob.keys
            have HBL := Aside0.mk H6.out.ob.hLs
            have HNK : Aside0 ((ps.length + 1) * 16 ≤ 140737488351232 ∧ ps.length + 1 ≤ 140737488351232) := ⟨by omega⟩
            go_upto_region 11 with (at_builtin; refine app_lies2 rfl (.tmp 51) (.tmp 53) 22 9 1 16 _ rfl Tryd.underlying22 strInfo9 rfl (by decide) (cells := [.string x]) HKR HBL rfl (fun u hu => by simp at hu; subst hu; rfl) HNK rfl _ rfl rfl ?_; intro g1 cap1 w7 hown1 hgr1 hat1; obtain ⟨e0, e1, e2, e3, ef⟩ := nd_cells (H6.out.ob.box (fun j e => (H6.out.ob.lowk j e).1) hgr1.out))
            have hN2 := H6.out.ob.key hown1.out hgr1.out hat1.out
            have hbx2 : (w7.setCell ⟨hh, 2, none⟩ (.slice (some ⟨g1, 0, none⟩) (ps.length + 1) cap1)).heap[w.heap.size]? = some ((.cells #[.int .i64 6, .string t, .slice kA ks.length kc, .slice nA kids.length nc] 25)) := by
              have hlt6 := H6.out.lt
              rw [Below.heap_setCell _ _ _ _ (by show w.heap.size ≠ hh; omega), hgr1.out.block _ (Array.getElem?_eq_some_iff.1 H6.out.box).1 (fun e => by have := (H6.out.ob.lowk _ e.symm).1; omega)]
              exact H6.out.box
            generalize (w7.setCell ⟨hh, 2, none⟩ (.slice (some ⟨g1, 0, none⟩) (ps.length + 1) cap1)) = V at hN2 hbx2 ⊢
            have HN2 := Aside0.mk hN2
            have HWX := Aside0.mk hbx2
            obtain ⟨xs, hx1, hx2⟩ := hN2.row
            have HX1 := Aside0.mk hx1
            have HX2 := Aside0.mk hx2
            have HBW := Aside0.mk hN2.hLs
            have HN : Aside0 ((ps.length + 1) * 72 ≤ 140737488351232 ∧ ps.length + 1 ≤ 140737488351232) := ⟨by omega⟩
            clear hx1 hx2 hN2 hbx2 m0 m1 m2 m3 mf e0 e1 e2 e3 ef HKR HBL HNK
            obtain ⟨m0, m1, m2, m3, mf⟩ := HN2.out.cells
            go_upto_region 12 with (at_builtin; refine app_lies2 rfl (.tmp 57) (.tmp 59) 23 25 4 72 _ rfl Tryd.underlying23 ndInfo25 rfl (by decide) (xs := xs) (cells := [.int .i64 0, .string ⟨#[]⟩, .slice none 0 0, .slice none 0 0]) HX1 HBW rfl (one4 _ _ _ _ _ _ _ _) HN rfl _ rfl rfl ?_; intro g2 cap2 w8 hown2 hgr2 hat2; obtain ⟨e0, e1, e2, e3, ef⟩ := nd_cells (HN2.out.box (fun j e => (HN2.out.low j e).1) hgr2.out))
            go_wp2_with fail
            go_roundw
            case rel =>
              refine ⟨i + 1, ps ++ [x], some ⟨g1, 0, none⟩, ps.length + 1, cap1, some ⟨g2, 0, none⟩, cap2, by go_num, by omega, by omega, ⟨⟨?_, ?_, HPB.out.lt, ?_, ?_, ?_⟩⟩⟩
              · rw [nuls_snoc]
                exact NQ.more HN2.out (Below.refl _ _) (nulAt _ _) HX2.out hown2.out hgr2.out hat2.out
              · have hlt6 := H6.out.lt
                rw [Below.heap_setCell _ _ _ _ (by show w.heap.size ≠ hh; omega), hgr2.out.block _ (Array.getElem?_eq_some_iff.1 HWX.out).1 (fun e => by have := (HN2.out.low _ e.symm).1; omega)]
                exact HWX.out
              · rw [List.nodup_append]
                refine ⟨HPB.out.nodup, by simp, ?_⟩
                intro a ha b hb e
                have hb2 : b = x := by simpa using hb
                exact HNB.out (by rw [← hb2, ← e]; exact ha)
              · intro y hy
                rcases List.mem_append.1 hy with h | h
                · exact HPB.out.apart y h
                · have : y = x := by simpa using h
                  subst this; exact HNA.out
              · intro y hy
                rcases List.mem_append.1 hy with h | h
                · exact HPB.out.small y h
                · have : y = x := by simpa using h
                  subst this; exact HXS.out
            case measure => simp [intOf]; omega
    · obtain rfl : i = names.length := by omega
      have hlk := HPB.out.ob.lenk
      subst hlk
      have HP0 := Aside0.mk (fun (W : World) (hW : Below w.heap.size w W) => paMerge_calls t ks kids [] HRO.out HTU.out.1 HTU.out.2 (Nat.zero_le _) (fun x hx => absurd hx List.not_mem_nil) List.nodup_nil (fun x hx => absurd hx List.not_mem_nil) 6 t kA ks.length kc nA kids.length nc 6 ⟨#[]⟩ none 0 0 none 0 0 T u W (HAT.out.below hW) (nulP_none W _) ((hW.cell (p := ⟨2, 0, none⟩) HG.out.2).trans HG.out.1) (Nat.lt_of_lt_of_le HG.out.2 hW.size))
      have HP1 := Aside0.mk (fun (W : World) (hW : PB w W hh ((.cells #[.int .i64 6, .string t, .slice kA ks.length kc, .slice nA kids.length nc] 25)) ks ps qA ps.length qc mA mc) => paMerge_calls t ks kids ps HRO.out HTU.out.1 HTU.out.2 (by omega) HPB.out.small HPB.out.nodup HPB.out.apart 6 t kA ks.length kc nA kids.length nc 6 ⟨#[]⟩ qA ps.length qc mA ps.length mc T u W (HAT.out.below hW.ob.below) (pb_patch hW) ((hW.ob.below.cell (p := ⟨2, 0, none⟩) HG.out.2).trans HG.out.1) (Nat.lt_of_lt_of_le HG.out.2 hW.ob.below.size))
      have HL := Aside0.mk (fun (W : World) (hW : Below w.heap.size w W) (k' : Int) (t' : ByteArray) (kA' : Option Addr) (kn' kc' : Nat) (nA' : Option Addr) (nn' nc' : Nat) (F : Nat → Prop) (h : NdAt W F (.mk 6 t ks kids) [.int .i64 k', .string t', .slice kA' kn' kc', .slice nA' nn' nc']) => alike_calls _ (.mk 6 t ks kids) (Nat.le_refl _) HRO.out HTU.out.2 HTU.out.1 k' t' kA' kn' kc' nA' nn' nc' 6 t kA ks.length kc nA kids.length nc W (h.mono fun _ _ _ => trivial) (HAT.out.below hW))
      unfold NdA at HP0 HP1
      unfold TrueA at HL
      obtain ⟨m0, m1, m2, m3, mf⟩ := HPB.out.ob.cells
      go_upto_region 13 with fail
      go_region_with (first
        | (go_at_call 12; refine (HP0.out _ HPB.out.ob.below.drew).mono ?_; rintro e w4 ⟨k3, t3, kA3, kn3, kc3, nA3, nn3, nc3, rfl, hb4, hl4⟩; have H4 := Aside0.mk (HPB.out.next (below_step ((Below.refl _ _).drew) hb4)); obtain ⟨y0, y1, y2, y3, yf⟩ := nd_cells H4.out.box; obtain ⟨m0, m1, m2, m3, mf⟩ := H4.out.ob.cells; clear hb4 HP0)
        | (go_at_call 11; refine (HL.out _ H4.out.ob.below _ _ _ _ _ _ _ _ _ hl4.out).mono ?_; rintro e w5 ⟨rfl, hb5⟩; have H5 := Aside0.mk (H4.out.next hb5); obtain ⟨y0, y1, y2, y3, yf⟩ := nd_cells H5.out.box; obtain ⟨m0, m1, m2, m3, mf⟩ := H5.out.ob.cells; clear hb5 hl4)
        | (go_at_call 12; refine (HP1.out _ H5.out).mono ?_; rintro e w6 ⟨k4, t4, kA4, kn4, kc4, nA4, nn4, nc4, rfl, hb6, hl6⟩; have H6 := Aside0.mk (H5.out.next hb6); obtain ⟨y0, y1, y2, y3, yf⟩ := nd_cells H6.out.box; clear hb6)
        | (go_at_call 11; refine (HL.out _ H6.out.ob.below _ _ _ _ _ _ _ _ _ hl6.out).mono ?_; rintro e w7 ⟨rfl, hb7⟩; have H7 := Aside0.mk (H6.out.next hb7); clear hb7))
      all_goals go_wp2_with fail
      all_goals go_ret
      all_goals exact ⟨rfl, H7.out.ob.below⟩
end Go.Proofs.YtmomjgkbimeeoaaDoor.G
