/- json-patch: values handed back: objects. -/
import Derived.Test.YtmomjgkbimeeoaaDoorGvBa
namespace Go.Proofs.YtmomjgkbimeeoaaDoor.G
set_option linter.unusedVariables false
set_option linter.unusedSimpArgs false
open Go.RowKit Go.Proofs.YtmomjgkbimeeoaaDoorW.PrintWords

theorem fOf_at {ks : List ByteArray} {us : List Value} (hn : ks.Nodup) {i : Nat} (hi : i < ks.length) {u : Value} (hu : us[i]? = some u) : fOf ks us (ks.getD i noStr) = some u := by
  unfold fOf
  rw [memb_nodup hn i hi]
  exact hu
set_option maxHeartbeats 16000000 in
set_option maxRecDepth 100000 in
theorem backDoc_calls (ks : List ByteArray) (vs : List Lz) (F F2 : Nat → Prop) (db m n : Nat) (kA : Option Addr) (kc : Nat) (sf opts : Value) (us : List Value) (w : World) (hvl : vs.length * 72 ≤ 140737488351232) (hkl : ks.length * 16 ≤ 140737488351232) (hkz : ∀ x ∈ ks, x.size ≤ 140737488351232) (hlen : ks.length = vs.length) (hnd : ks.Nodup)
    (hdb : w.heap[db]? = some (.cells #[sf, .slice kA vs.length kc, .map (some m), opts] 112)) (hrow : RowF w F 9 1 (.slice kA vs.length kc) vs.length (ks.map Value.string)) (hM : Mp w m n (fOf ks us)) (hkids : LzsAt w F2 vs us)
    (IH : ∀ i (hi : i < vs.length) (G : Nat → Prop) (o : Option Addr) (W : World), LzAt W G vs[i] (.pointer o) → Calls Tryd.prog 45 #[.pointer o] W (NdA 0 (back vs[i]) W)) :
    Calls Tryd.prog 54 #[.pointer (some ⟨db, 0, none⟩)] w (NdA 0 (.mk 6 noStr ks (backs vs)) w) := by
  obtain ⟨a0, a1, a2, a3, af⟩ := nd_cells hdb
  have hal : db < w.heap.size := (Array.getElem?_eq_some_iff.1 hdb).1
  have hkb : vs.length ≤ 140737488351232 := by omega
  have HV := Aside0.mk (And.intro hvl (And.intro hkl (And.intro hkz (And.intro hlen hnd))))
  have HR := Aside0.mk hrow
  have HM := Aside0.mk hM
  have HK := Aside0.mk hkids
  have HI := Aside0.mk IH
  have HAL := Aside0.mk (And.intro hal a2)
  clear hvl hkl hkz hlen hnd hdb hrow hM hkids IH a3 af
  go_enter Tryd.func54, Tryd.ntmps54
  go_upto_region 2 with fail
  obtain ⟨e1, e2, hb⟩ := alloc2 w (.cells #[.int .i64 0, .string { data := #[] }, .slice none 0 0, .slice none 0 0] 47) (.cells #[.int .i64 6, .string { data := #[] }, .slice none 0 0, .slice none 0 0] 47)
  have hsz : ((w.alloc (.cells #[.int .i64 0, .string { data := #[] }, .slice none 0 0, .slice none 0 0] 47)).alloc (.cells #[.int .i64 6, .string { data := #[] }, .slice none 0 0, .slice none 0 0] 47)).heap.size = w.heap.size + 2 := by simp [World.size_alloc]
  generalize ((w.alloc (.cells #[.int .i64 0, .string { data := #[] }, .slice none 0 0, .slice none 0 0] 47)).alloc (.cells #[.int .i64 6, .string { data := #[] }, .slice none 0 0, .slice none 0 0] 47)) = W0 at e1 e2 hb hsz ⊢
  rw [← hb.cell (p := ⟨db, 0, none⟩) hal] at a0
  rw [← hb.cell (p := ⟨db, 1, none⟩) hal] at a1
  have HN0 : Aside0 (NO w W0 (w.heap.size + 2) (w.heap.size + 1) (ks.take 0) none 0 0 none 0 0 (backs (vs.take 0)) ∧ ZB W0 w.heap.size 47) := ⟨NO.start e2 hb (by omega) (by omega) (by omega), e1⟩
  clear e1 e2 hb hsz hal a2
  go_wp2_with fail
  go_loopw [12] (fun v12 wr => ∃ (i : Nat) (kA' : Option Addr) (kc' : Nat) (nA' : Option Addr) (nc' : Nat), v12 = .int .i64 (i : Int) ∧ i ≤ vs.length ∧ Aside0 (NO w wr (w.heap.size + 2) (w.heap.size + 1) (ks.take i) kA' i kc' nA' i nc' (backs (vs.take i)) ∧ ZB wr w.heap.size 47)) (fun v12 _ => vs.length - (intOf v12).toNat)
  case atStart => exact ⟨0, none, 0, none, 0, rfl, Nat.zero_le _, HN0⟩
  case round =>
    clear HN0 a0 a1
    obtain ⟨i, kA', kc', nA', nc', rfl, hi, hNO⟩ := hrel
    obtain ⟨b0, b1, b2, b3, bf⟩ := hNO.out.1.cells
    by_cases hlt : i < vs.length
    · have hik : i < ks.length := by rw [HV.out.2.2.2.1]; exact hlt
      obtain ⟨x, hxd⟩ : ∃ x, x = ks.getD i noStr := ⟨_, rfl⟩
      have hxs : (ks.map Value.string)[i]? = some (.string x) := by rw [hxd]; simp [List.getElem?_map, List.getD_eq_getElem?_getD, List.getElem?_eq_getElem hik]
      obtain ⟨g, rfl, hgl, hc⟩ := row_at HR.out.1 hxs
      rw [← hNO.out.1.below.cell (p := ⟨g, i, none⟩) hgl] at hc
      obtain ⟨u, G, hu, hlz, _⟩ := HK.out.get i hlt
      obtain ⟨o, rfl, _⟩ := hlz.ptr
      have hfx : fOf ks us x = some (.pointer o) := by rw [hxd]; exact fOf_at HV.out.2.2.2.2 hik hu
      have hxz : x.size ≤ maxLen := by
        have := HV.out.2.2.1 x (by rw [hxd, List.getD_eq_getElem?_getD, List.getElem?_eq_getElem hik]; exact List.getElem_mem _)
        unfold maxLen; omega
      have hkt : ks.take (i + 1) = ks.take i ++ [x] := by
        rw [List.take_succ_eq_append_getElem hik, hxd, List.getD_eq_getElem?_getD, List.getElem?_eq_getElem hik]; rfl
      have HKR := Aside0.mk hNO.out.1.keys
      have HBL := Aside0.mk hNO.out.1.hLs
      have HNK : Aside0 ((i + 1) * 16 ≤ 140737488351232 ∧ i + 1 ≤ 140737488351232) := ⟨by have := HV.out.1; omega⟩
      have HX := Aside0.mk (And.intro hxd (And.intro hfx (And.intro hxz hkt)))
      have HLZ := Aside0.mk hlz
      clear hxd hxs hu hlz hfx hxz hkt
      go_upto_region 6 with (at_builtin; refine app_lies2 rfl (.tmp 17) (.tmp 19) 22 9 1 16 _ rfl Tryd.underlying22 strInfo9 rfl (by decide) (cells := [.string x]) HKR HBL rfl (fun u hu => by simp at hu; subst hu; rfl) HNK rfl _ rfl rfl ?_; intro g1 cap1 w1 hown1 hgr1 hat1; obtain ⟨e0, e1, e2, e3, ef⟩ := nd_cells (hNO.out.1.box (fun j e => (hNO.out.1.lowk j e).1) hgr1.out))
      have hN2 := hNO.out.1.key hown1.out hgr1.out hat1.out
      have hZ2 : ZB (w1.setCell ⟨w.heap.size + 1, 2, none⟩ (.slice (some ⟨g1, 0, none⟩) (i + 1) cap1)) w.heap.size 47 := hNO.out.2.more hgr1.out (fun e => by have := (hNO.out.1.lowk _ e).1; omega) (by omega)
      generalize (w1.setCell ⟨w.heap.size + 1, 2, none⟩ (.slice (some ⟨g1, 0, none⟩) (i + 1) cap1)) = V at hN2 hZ2 ⊢
      have HN2 := Aside0.mk hN2
      have HZ2 := Aside0.mk hZ2
      obtain ⟨xs, hx1, hx2⟩ := hN2.row
      have HX1 := Aside0.mk hx1
      have HX2 := Aside0.mk hx2
      have HN : Aside0 ((i + 1) * 72 ≤ 140737488351232 ∧ i + 1 ≤ 140737488351232) := ⟨by have := HV.out.1; omega⟩
      obtain ⟨d0, d1, d2, d3, df⟩ := hN2.cells
      have hm2 : V.cell? ⟨db, 2, none⟩ = some (.map (some m)) := by rw [hN2.below.cell (p := ⟨db, 2, none⟩) HAL.out.1]; exact HAL.out.2
      have hlk : (Instr.lookup 110 (.map (some m)) (.string x) false).run Tryd.prog V.drew = .ok (.pointer o) V.drew := by
        have := ((HM.out.kept (hN2.below.block m HM.out.lt) : Mp V m n (fOf ks us)).kept (w' := V.drew) rfl).look x HX.out.2.2.1
        rw [HX.out.2.1] at this
        exact this
      have HC := Aside0.mk (HI.out i hlt G o V.drew ((HLZ.out.below hN2.below).below ((Below.refl _ _).drew)))
      unfold NdA at HC
      clear hx1 hx2 hN2 hZ2 hNO b0 b1 b2 b3 bf e0 e1 e2 e3 ef hc
      go_region_law (first
          | (refine app_step rfl (.tmp 23) (.tmp 31) 45 47 4 72 _ rfl Tryd.underlying45 ndInfo47 rfl (by decide) (xs := xs) (cells := [.int .i64 k3, .string t3, .slice kA3 kn3 kc3, .slice nA3 nn3 nc3]) HO1 HBW rfl (one4 _ _ _ _ _ _ _ _) HN rfl _ rfl rfl ?_; intro g2 cap2 w2 hown2 hgr2 hat2; obtain ⟨m0, m1, m2, m3, mf⟩ := nd_cells (N3.out.box (fun j e => (N3.out.low j e).1) hgr2.out))
          | (go_simp; go_at_call 45; refine HC.out.mono ?_; rintro e w3 ⟨k3, t3, kA3, kn3, kc3, nA3, nn3, nc3, rfl, hb1, hA1⟩; have N3 := Aside0.mk (HN2.out.next (below_step ((Below.refl _ _).drew) hb1)); have HO1 := Aside0.mk (own_kept HX1.out (fun g hg _ => hb1.block g hg)); have HBW := Aside0.mk N3.out.hLs; obtain ⟨q0, q1, q2, q3, qf⟩ := N3.out.cells; obtain ⟨p0, p1, p2, p3, pf⟩ := (N3.out.next (below_alloc1 (.cells #[.int .i64 k3, .string t3, .slice kA3 kn3 kc3, .slice nA3 nn3 nc3] 47))).cells))
      all_goals go_wp2_with fail
      all_goals
        go_roundw
        case rel =>
          have hb2 : Below V.heap.size V w3 := below_step ((Below.refl _ _).drew) hb1
          refine ⟨i + 1, some ⟨g1, 0, none⟩, cap1, some ⟨g2, 0, none⟩, cap2, by go_num, by omega, ⟨?_, (HZ2.out.next hb2).more hgr2.out (fun e => by have := (HN2.out.low _ e).1; omega) (by omega)⟩⟩
          rw [HX.out.2.2.2, backs_map, List.take_succ_eq_append_getElem hlt, List.map_append, ← backs_map]
          exact NO.more HN2.out hb2 (NdAt.mono (fun g _ hg => by show V.heap.size ≤ g; have : ¬ g < 0 := Nat.not_lt_zero _; rcases hg with h | h; omega; exact h) hA1.out) HX2.out hown2.out hgr2.out hat2.out
        case measure => simp [intOf]; omega
    · obtain rfl : i = vs.length := by omega
      obtain ⟨r0, r1, r2, r3, rf⟩ := nd_cells hNO.out.2
      go_wp2_with fail
      have e0 := res_put (j := 0) (v := .int .i64 6) hNO.out.2 rfl
      have e1 := res_put (j := 1) (v := .string noStr) e0 rfl
      have e2 := res_put (j := 2) (v := .slice kA' vs.length kc') e1 rfl
      have e3 := res_put (j := 3) (v := .slice nA' vs.length nc') e2 rfl
      refine bodyPost_ret (nd_ret rfl rfl e3) rfl ?_
      rw [List.take_length, List.take_of_length_le (by rw [HV.out.2.2.2.1]; exact Nat.le_refl _)] at hNO
      refine ⟨_, _, _, _, _, _, _, _, rfl, ?_, ⟨?_⟩⟩
      · have := hNO.out.1.below
        exact (((this.setCell (Nat.le_refl _) _).setCell (Nat.le_refl _) _).setCell (Nat.le_refl _) _).setCell (Nat.le_refl _) _
      · refine NdAt.mono (fun g _ hg => .inr hg) (hNO.out.1.fin (by simp [World.setCell]) (fun g hg hF => ?_))
        have hne : g ≠ w.heap.size := by omega
        rw [Below.heap_setCell _ _ _ _ hne, Below.heap_setCell _ _ _ _ hne, Below.heap_setCell _ _ _ _ hne, Below.heap_setCell _ _ _ _ hne]
end Go.Proofs.YtmomjgkbimeeoaaDoor.G
