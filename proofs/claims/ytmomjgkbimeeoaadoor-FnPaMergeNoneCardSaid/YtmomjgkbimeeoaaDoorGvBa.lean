/- json-patch: values handed back: arrays. -/
import Derived.Test.YtmomjgkbimeeoaaDoorGvBk
namespace Go.Proofs.YtmomjgkbimeeoaaDoor.G
set_option linter.unusedVariables false
set_option linter.unusedSimpArgs false
open Go.RowKit Go.Proofs.YtmomjgkbimeeoaaDoorW.PrintWords

theorem alloc2 (w : World) (o1 o2 : Obj) : ((w.alloc o1).alloc o2).heap[w.heap.size]? = some o1 ∧ ((w.alloc o1).alloc o2).heap[w.heap.size + 1]? = some o2 ∧ Below w.heap.size w ((w.alloc o1).alloc o2) := by
  have s1 : (w.alloc o1).heap.size = w.heap.size + 1 := World.size_alloc _ _
  have e1 := heap_alloc_new w o1
  have e2 := heap_alloc_new (w.alloc o1) o2
  rw [s1] at e2
  refine ⟨?_, e2, ?_⟩
  · rw [Below.heap_alloc _ _ _ (by omega)]; exact e1
  · exact (below_alloc1 o1).alloc (by omega) o2
set_option maxHeartbeats 16000000 in
set_option maxRecDepth 100000 in
theorem backAry_calls (vs : List Lz) (F F2 : Nat → Prop) (ab : Nat) (nA : Option Addr) (nc : Nat) (sf : Value) (us : List Value) (w : World) (hvl : vs.length * 72 ≤ 140737488351232) (hab : w.heap[ab]? = some (.cells #[sf, .slice nA vs.length nc] 115)) (hrow : RowF w F 68 1 (.slice nA vs.length nc) vs.length us) (hkids : LzsAt w F2 vs us)
    (IH : ∀ i (hi : i < vs.length) (G : Nat → Prop) (o : Option Addr) (W : World), LzAt W G vs[i] (.pointer o) → Calls Tryd.prog 45 #[.pointer o] W (NdA 0 (back vs[i]) W)) :
    Calls Tryd.prog 55 #[.pointer (some ⟨ab, 0, none⟩)] w (NdA 0 (.mk 5 noStr [] (backs vs)) w) := by
  have a0 : w.cell? ⟨ab, 0, none⟩ = some sf := blk_cell hab rfl
  have a1 : w.cell? ⟨ab, 1, none⟩ = some (.slice nA vs.length nc) := blk_cell hab rfl
  have hal : ab < w.heap.size := (Array.getElem?_eq_some_iff.1 hab).1
  have hkb : vs.length ≤ 140737488351232 := by omega
  have HV := Aside0.mk hvl
  have HR := Aside0.mk hrow
  have HK := Aside0.mk hkids
  have HI := Aside0.mk IH
  have HAL := Aside0.mk hal
  clear hvl hab hrow hkids IH
  go_enter Tryd.func55, Tryd.ntmps55
  go_upto_region 2 with fail
  obtain ⟨e1, e2, hb⟩ := alloc2 w (.cells #[.int .i64 0, .string { data := #[] }, .slice none 0 0, .slice none 0 0] 47) (.cells #[.int .i64 5, .string { data := #[] }, .slice none 0 0, .slice none 0 0] 47)
  have hsz : ((w.alloc (.cells #[.int .i64 0, .string { data := #[] }, .slice none 0 0, .slice none 0 0] 47)).alloc (.cells #[.int .i64 5, .string { data := #[] }, .slice none 0 0, .slice none 0 0] 47)).heap.size = w.heap.size + 2 := by simp [World.size_alloc]
  generalize ((w.alloc (.cells #[.int .i64 0, .string { data := #[] }, .slice none 0 0, .slice none 0 0] 47)).alloc (.cells #[.int .i64 5, .string { data := #[] }, .slice none 0 0, .slice none 0 0] 47)) = W0 at e1 e2 hb hsz ⊢
  rw [← hb.cell (p := ⟨ab, 0, none⟩) hal] at a0
  rw [← hb.cell (p := ⟨ab, 1, none⟩) hal] at a1
  have HN0 : Aside0 (NB w W0 0 (w.heap.size + 2) (w.heap.size + 1) 47 5 noStr [] none 0 0 none 0 0 [] ∧ ZB W0 w.heap.size 47) := ⟨NB.start e2 ⟨none, 0, rfl, Nat.le_refl _, rfl, fun i u hi => by simp at hi⟩ hb (by omega) (by omega) (Nat.zero_le _) (by omega), e1⟩
  clear e1 e2 hb hsz hal
  go_wp2_with fail
  go_loopw [12] (fun v12 wr => ∃ (i : Nat) (nA' : Option Addr) (nc' : Nat), v12 = .int .i64 (i : Int) ∧ i ≤ vs.length ∧ Aside0 (NB w wr 0 (w.heap.size + 2) (w.heap.size + 1) 47 5 noStr [] none 0 0 nA' i nc' (backs (vs.take i)) ∧ ZB wr w.heap.size 47)) (fun v12 _ => vs.length - (intOf v12).toNat)
  case atStart => exact ⟨0, none, 0, rfl, Nat.zero_le _, HN0⟩
  case round =>
    clear HN0 a0 a1
    obtain ⟨i, nA', nc', rfl, hi, hNB⟩ := hrel
    obtain ⟨b0, b1, b2, b3, bf⟩ := hNB.out.1.cells
    by_cases hlt : i < vs.length
    · obtain ⟨u, G, hu, hlz, _⟩ := HK.out.get i hlt
      obtain ⟨o, rfl, _⟩ := hlz.ptr
      obtain ⟨g, rfl, hgl, hc⟩ := row_at HR.out.1 hu
      rw [← hNB.out.1.below.cell (p := ⟨g, i, none⟩) hgl] at hc
      have HLZ := Aside0.mk (hlz.below hNB.out.1.below)
      obtain ⟨xs, hx1, hx2⟩ := hNB.out.1.row
      have HX1 := Aside0.mk hx1
      have HX2 := Aside0.mk hx2
      have HN : Aside0 ((i + 1) * 72 ≤ 140737488351232 ∧ i + 1 ≤ 140737488351232) := ⟨by have := HV.out; omega⟩
      have HC := Aside0.mk (HI.out i hlt G o wr.drew (HLZ.out.below ((Below.refl _ _).drew)))
      unfold NdA at HC
      clear hu hlz hx1 hx2
      go_upto_region 5 with fail
      go_region_law (first
          | (refine app_step rfl (.tmp 17) (.tmp 20) 45 47 4 72 _ rfl Tryd.underlying45 ndInfo47 rfl (by decide) (xs := xs) (cells := [.int .i64 k3, .string t3, .slice kA3 kn3 kc3, .slice nA3 nn3 nc3]) HO1 HBW rfl (one4 _ _ _ _ _ _ _ _) HN rfl _ rfl rfl ?_; intro g2 cap2 w2 hown2 hgr2 hat2; obtain ⟨m3, mf⟩ := N2.out.box hgr2.out)
          | (go_simp; go_at_call 45; refine HC.out.mono ?_; rintro e w1 ⟨k3, t3, kA3, kn3, kc3, nA3, nn3, nc3, rfl, hb1, hA1⟩; have N2 := Aside0.mk (hNB.out.1.next (below_step ((Below.refl _ _).drew) hb1)); have HO1 := Aside0.mk (own_kept HX1.out (fun g hg _ => hb1.block g hg)); have HBW := Aside0.mk N2.out.hLs; obtain ⟨q0, q1, q2, q3, qf⟩ := N2.out.cells; obtain ⟨p0, p1, p2, p3, pf⟩ := (N2.out.next (below_alloc1 (.cells #[.int .i64 k3, .string t3, .slice kA3 kn3 kc3, .slice nA3 nn3 nc3] 47))).cells))
      all_goals go_wp2_with fail
      all_goals
        go_roundw
        case rel =>
          have hb2 : Below wr.heap.size wr w1 := below_step ((Below.refl _ _).drew) hb1
          refine ⟨i + 1, some ⟨g2, 0, none⟩, cap2, by go_num, by omega, ⟨?_, (hNB.out.2.next hb2).more hgr2.out (hNB.out.1.apart (by omega)) (by omega)⟩⟩
          rw [backs_map, List.take_succ_eq_append_getElem hlt, List.map_append, ← backs_map]
          exact NB.more hNB.out.1 hb2 hA1.out HX2.out hown2.out hgr2.out hat2.out
        case measure => simp [intOf]; omega
    · obtain rfl : i = vs.length := by omega
      obtain ⟨r0, r1, r2, r3, rf⟩ := nd_cells hNB.out.2
      go_wp2_with fail
      have e0 := res_put (j := 0) (v := .int .i64 5) hNB.out.2 rfl
      have e1 := res_put (j := 1) (v := .string noStr) e0 rfl
      have e2 := res_put (j := 2) (v := .slice none 0 0) e1 rfl
      have e3 := res_put (j := 3) (v := .slice nA' vs.length nc') e2 rfl
      refine bodyPost_ret (nd_ret rfl rfl e3) rfl ?_
      rw [List.take_length] at hNB
      refine ⟨_, _, _, _, _, _, _, _, rfl, ?_, ⟨?_⟩⟩
      · have := hNB.out.1.below
        exact (((this.setCell (Nat.le_refl _) _).setCell (Nat.le_refl _) _).setCell (Nat.le_refl _) _).setCell (Nat.le_refl _) _
      · refine hNB.out.1.fin (by simp [World.setCell]) (fun g hg hF => ?_) rfl
        have hne : g ≠ w.heap.size := by omega
        rw [Below.heap_setCell _ _ _ _ hne, Below.heap_setCell _ _ _ _ hne, Below.heap_setCell _ _ _ _ hne, Below.heap_setCell _ _ _ _ hne]
end Go.Proofs.YtmomjgkbimeeoaaDoor.G
