/- json-patch: DoorMerge where the patch holds but nulls at names that the document has not. -/
import Derived.Test.YtmomjgkbimeeoaaDoorGvMg
import Derived.Test.YtmomjgkbimeeoaaDoorGvNv
namespace Go.Proofs.YtmomjgkbimeeoaaDoor.G
set_option linter.unusedVariables false
set_option linter.unusedSimpArgs false
open Go.RowKit Go.Proofs.YtmomjgkbimeeoaaDoorW.PrintWords

/-- An object of nulls at these names. -/
def nulP (ps : List ByteArray) : Nd := .mk 6 noStr ps (ps.map fun _ => .mk 0 noStr [] [])
def optO : Obj := .cells #[.bool true, .int .i64 0, .bool false, .bool false, .bool true] 59
/-- What DoorMerge has made by then. -/
structure DM (w W : World) (bx by' bz : Obj) : Prop where
  e2 : W.heap[w.heap.size]? = some bx
  e3 : W.heap[w.heap.size + 1]? = some by'
  e4 : W.heap[w.heap.size + 1 + 1]? = some bz
  e5 : W.heap[w.heap.size + 1 + 1 + 1]? = some optO
  below : Below w.heap.size w W
theorem DM.next {w W W' : World} {bx by' bz : Obj} (h : DM w W bx by' bz) (hb : Below W.heap.size W W') : DM w W' bx by' bz :=
  ⟨(hb.block _ (Array.getElem?_eq_some_iff.1 h.e2).1).trans h.e2, (hb.block _ (Array.getElem?_eq_some_iff.1 h.e3).1).trans h.e3, (hb.block _ (Array.getElem?_eq_some_iff.1 h.e4).1).trans h.e4, (hb.block _ (Array.getElem?_eq_some_iff.1 h.e5).1).trans h.e5, below_step h.below hb⟩
theorem DM.drew {w W : World} {bx by' bz : Obj} (h : DM w W bx by' bz) : DM w W.drew bx by' bz := h.next (Below.refl _ _).drew
theorem DM.start (w : World) (bx by' bz : Obj) : DM w ((((w.alloc bx).alloc by').alloc bz).alloc optO) bx by' bz := by
  obtain ⟨h1, h2, h3, hb⟩ := alloc3 w bx by' bz
  have s1 : (w.alloc bx).heap.size = w.heap.size + 1 := World.size_alloc _ _
  have s2 : ((w.alloc bx).alloc by').heap.size = w.heap.size + 1 + 1 := by rw [World.size_alloc, s1]
  have s3 : (((w.alloc bx).alloc by').alloc bz).heap.size = w.heap.size + 1 + 1 + 1 := by rw [World.size_alloc, s2]
  have h4 := heap_alloc_new (((w.alloc bx).alloc by').alloc bz) optO
  rw [s3] at h4
  have b4 := below_alloc1 (w := ((w.alloc bx).alloc by').alloc bz) optO
  rw [s3] at b4
  exact ⟨(b4.block _ (by omega)).trans h1, (b4.block _ (by omega)).trans h2, (b4.block _ (by omega)).trans h3, h4, ⟨b4.os.trans hb.os, b4.tape.trans hb.tape, b4.output.trans hb.output, Nat.le_trans hb.size b4.size, fun i hi => (b4.block i (by omega)).trans (hb.block i hi)⟩⟩
/-- A value that a callee has handed back is handed on. -/
theorem pass_post2 {fn : Func} {w w1 : World} {n : Nd} {a : Act} {i hh T L : Nat} {c0 c1 c2 c3 : Value} {k : Int} {t : ByteArray} {kA : Option Addr} {kn kc : Nat} {nA : Option Addr} {nn nc : Nat} (hfn : fn.results = #[.cell i T]) (hT : T = 47 ∨ T = 25) (hblk : w1.heap[hh]? = some (.cells #[c0, c1, c2, c3] T)) (hb : Below w.heap.size w w1) (hhw : w.heap.size ≤ hh) (hL : hh < L)
    (hA : NdAt w1 (fun g => g < 0 ∨ L ≤ g) n [.int .i64 k, .string t, .slice kA kn kc, .slice nA nn nc]) (h2 : a.tmps.getD i undef = .pointer (some ⟨hh, 0, none⟩)) (hd : a.defers = []) :
    bodyPost Tryd.prog fn (NdA 0 n w) .ret a ((((w1.setCell ⟨hh, 0, none⟩ (.int .i64 k)).setCell ⟨hh, 1, none⟩ (.string t)).setCell ⟨hh, 2, none⟩ (.slice kA kn kc)).setCell ⟨hh, 3, none⟩ (.slice nA nn nc)) := by
  have e0 := res_put (j := 0) (v := .int .i64 k) hblk rfl
  have e1 := res_put (j := 1) (v := .string t) e0 rfl
  have e2 := res_put (j := 2) (v := .slice kA kn kc) e1 rfl
  have e3 := res_put (j := 3) (v := .slice nA nn nc) e2 rfl
  have hr : ∀ W : World, W.heap[hh]? = some (.cells #[.int .i64 k, .string t, .slice kA kn kc, .slice nA nn nc] T) → (results fn a.tmps).run Tryd.prog W = .ok (.agg #[.int .i64 k, .string t, .slice kA kn kc, .slice nA nn nc]) W := fun W hg => by
    rcases hT with rfl | rfl
    · exact results_cell_row hfn a.tmps W hh 47 #[.int .i64 k, .string t, .slice kA kn kc, .slice nA nn nc] (0, 0) _ h2 hg Tryd.underlying47 rfl (by kernel_rfl)
    · exact results_cell_row hfn a.tmps W hh 25 #[.int .i64 k, .string t, .slice kA kn kc, .slice nA nn nc] (0, 0) _ h2 hg Tryd.underlying25 rfl (by kernel_rfl)
  refine bodyPost_ret (hr _ e3) hd ⟨_, _, _, _, _, _, _, _, rfl, ?_, ⟨?_⟩⟩
  · exact (((hb.setCell hhw _).setCell hhw _).setCell hhw _).setCell hhw _
  · refine NdAt.mono (fun g _ hg => by omega) (NdAt.kept (by simp [World.setCell]) (fun g hg hF => ?_) hA)
    have hne : g ≠ hh := by omega
    rw [Below.heap_setCell _ _ _ _ hne, Below.heap_setCell _ _ _ _ hne, Below.heap_setCell _ _ _ _ hne, Below.heap_setCell _ _ _ _ hne]
theorem lz_doc (t : ByteArray) (ks : List ByteArray) (kids : List Nd) : lz (.mk 6 t ks kids) = .doc ks (lzs kids) := by unfold lz; simp
theorem valL_doc (t : ByteArray) (ks : List ByteArray) (kids : List Nd) : valL (.mk 6 t ks kids) = .doc ks (lzs kids) := by unfold valL; rw [lz_doc]; simp [Nd.kind]
theorem nulP_td (ps : List ByteArray) : Td (nulP ps) := by
  unfold nulP Td Td1
  refine ⟨.inr (.inr (.inr (.inr ⟨rfl, rfl, by simp⟩))), tds_iff.2 (fun a ha => ?_)⟩
  obtain ⟨x, _, rfl⟩ := List.mem_map.1 ha
  unfold Td Td1 Tds
  exact ⟨.inl ⟨.inl rfl, rfl, rfl, rfl⟩, trivial⟩
theorem nulP_uq {ps : List ByteArray} (h : ps.Nodup) : Uq (nulP ps) := by
  unfold nulP Uq
  refine ⟨h, uqs_iff.2 (fun a ha => ?_)⟩
  obtain ⟨x, _, rfl⟩ := List.mem_map.1 ha
  unfold Uq Uqs
  exact ⟨List.nodup_nil, trivial⟩
theorem nulP_ro {ps : List ByteArray} (h : ps.length ≤ 50) (hs : ∀ x ∈ ps, x.size ≤ 140737488351232) : Ro (nulP ps) := by
  unfold nulP Ro Ro1
  refine ⟨⟨by rw [List.length_map]; omega, by omega, by show (0 : Nat) ≤ _; omega, hs⟩, ros_iff.2 (fun a ha => ?_)⟩
  obtain ⟨x, _, rfl⟩ := List.mem_map.1 ha
  unfold Ro Ro1 Ros
  exact ⟨⟨by simp, by simp, by show (0 : Nat) ≤ _; omega, by simp⟩, trivial⟩
theorem nulP_lz (ps : List ByteArray) : ∀ t ∈ lzs (ps.map fun _ => Nd.mk 0 noStr [] []), t = .nul := by
  intro t ht
  rw [lzs_map, List.map_map] at ht
  obtain ⟨x, _, rfl⟩ := List.mem_map.1 ht
  simp [lz]
set_option maxHeartbeats 4000000 in
set_option maxRecDepth 100000 in
theorem doorMerge_calls (t : ByteArray) (ks : List ByteArray) (kids : List Nd) (ps : List ByteArray) (hro : Ro (.mk 6 t ks kids)) (htd : Td (.mk 6 t ks kids)) (huq : Uq (.mk 6 t ks kids)) (hps : ps.length ≤ 50) (hpz : ∀ x ∈ ps, x.size ≤ 140737488351232) (hpn : ps.Nodup) (hdis : ∀ x ∈ ps, x ∉ ks)
    (k1 : Int) (t1 : ByteArray) (kA1 : Option Addr) (kn1 kc1 : Nat) (nA1 : Option Addr) (nn1 nc1 : Nat) (k2 : Int) (t2 : ByteArray) (kA2 : Option Addr) (kn2 kc2 : Nat) (nA2 : Option Addr) (nn2 nc2 : Nat) (T : TypeId) (u : Value) (w : World)
    (hat1 : NdAt w (fun _ => True) (.mk 6 t ks kids) [.int .i64 k1, .string t1, .slice kA1 kn1 kc1, .slice nA1 nn1 nc1]) (hat2 : NdAt w (fun _ => True) (nulP ps) [.int .i64 k2, .string t2, .slice kA2 kn2 kc2, .slice nA2 nn2 nc2]) (hg : w.cell? ⟨2, 0, none⟩ = some (.iface T u)) (hg2 : 2 < w.heap.size) :
    Calls Tryd.prog 29 #[.agg #[.int .i64 k1, .string t1, .slice kA1 kn1 kc1, .slice nA1 nn1 nc1], .agg #[.int .i64 k2, .string t2, .slice kA2 kn2 kc2, .slice nA2 nn2 nc2]] w (NdA 0 (.mk 6 t ks kids) w) := by
  have HA := Aside0.mk (fun (W : World) (hW : DM w W (.cells #[.int .i64 k1, .string t1, .slice kA1 kn1 kc1, .slice nA1 nn1 nc1] 47) (.cells #[.int .i64 k2, .string t2, .slice kA2 kn2 kc2, .slice nA2 nn2 nc2] 47) (.cells #[.int .i64 0, .string ⟨#[]⟩, .slice none 0 0, .slice none 0 0] 47)) (o : Option Addr) => value_calls (.mk 6 t ks kids) htd huq hro k1 t1 kA1 kn1 kc1 nA1 nn1 nc1 o W (hat1.below hW.below))
  have HB := Aside0.mk (fun (W : World) (hW : DM w W (.cells #[.int .i64 k1, .string t1, .slice kA1 kn1 kc1, .slice nA1 nn1 nc1] 47) (.cells #[.int .i64 k2, .string t2, .slice kA2 kn2 kc2, .slice nA2 nn2 nc2] 47) (.cells #[.int .i64 0, .string ⟨#[]⟩, .slice none 0 0, .slice none 0 0] 47)) (o : Option Addr) => value_calls (nulP ps) (nulP_td ps) (nulP_uq hpn) (nulP_ro hps hpz) k2 t2 kA2 kn2 kc2 nA2 nn2 nc2 o W (hat2.below hW.below))
  have HM := Aside0.mk (fun (W : World) (hW : DM w W (.cells #[.int .i64 k1, .string t1, .slice kA1 kn1 kc1, .slice nA1 nn1 nc1] 47) (.cells #[.int .i64 k2, .string t2, .slice kA2 kn2 kc2, .slice nA2 nn2 nc2] 47) (.cells #[.int .i64 0, .string ⟨#[]⟩, .slice none 0 0, .slice none 0 0] 47)) (F G : Nat → Prop) (o1 o2 : Option Addr) (h1 : LzAt W F (.doc ks (lzs kids)) (.pointer o1)) (h2 : LzAt W G (.doc ps (lzs (ps.map fun _ => Nd.mk 0 noStr [] []))) (.pointer o2)) =>
    merge_calls ks ps _ _ F G o1 o2 (w.heap.size + 1 + 1 + 1) T u W h1 h2 (nulP_lz ps) hdis (by have := hW.e5; unfold optO at this; exact this) ((hW.below.cell (p := ⟨2, 0, none⟩) hg2).trans hg) (Nat.lt_of_lt_of_le hg2 hW.below.size))
  have HK := Aside0.mk (fun (W : World) (F : Nat → Prop) (o : Option Addr) (h : LzAt W F (.doc ks (lzs kids)) (.pointer o)) => back_calls _ (lz (.mk 6 t ks kids)) (Nat.le_refl _) (rl_lz hro) F o W (by rw [lz_doc]; exact h))
  rw [valL_doc] at HA
  unfold nulP at HB
  rw [valL_doc] at HB
  rw [back_lz _ htd] at HK
  unfold LzA at HA HB
  unfold NdA at HK
  have HS := Aside0.mk (DM.start w (.cells #[.int .i64 k1, .string t1, .slice kA1 kn1 kc1, .slice nA1 nn1 nc1] 47) (.cells #[.int .i64 k2, .string t2, .slice kA2 kn2 kc2, .slice nA2 nn2 nc2] 47) (.cells #[.int .i64 0, .string ⟨#[]⟩, .slice none 0 0, .slice none 0 0] 47))
  clear hat1 hat2 hg hg2 hro htd huq hpz hpn hdis
  unfold optO at HS
  go_enter Tryd.func29, Tryd.ntmps29
  go_upto_region 2 with fail
  generalize ((((w.alloc (.cells #[.int .i64 k1, .string t1, .slice kA1 kn1 kc1, .slice nA1 nn1 nc1] 47)).alloc (.cells #[.int .i64 k2, .string t2, .slice kA2 kn2 kc2, .slice nA2 nn2 nc2] 47)).alloc (.cells #[.int .i64 0, .string ⟨#[]⟩, .slice none 0 0, .slice none 0 0] 47)).alloc (.cells #[.bool true, .int .i64 0, .bool false, .bool false, .bool true] 59)) = W0 at HS ⊢
  obtain ⟨x0, x1, x2, x3, xf⟩ := nd_cells HS.out.e2
  obtain ⟨y0, y1, y2, y3, yf⟩ := nd_cells HS.out.e3
  go_region_with (first
    | (go_at_call 47; refine (HA.out _ HS.out.drew _).mono ?_; rintro e w1 ⟨o1, rfl, hb1, hl1⟩; have H1 := Aside0.mk (HS.out.drew.next hb1); obtain ⟨y0, y1, y2, y3, yf⟩ := nd_cells H1.out.e3; clear hb1 HA)
    | (go_at_call 47; refine (HB.out _ H1.out _).mono ?_; rintro e w2 ⟨o2, rfl, hb2, hl2⟩; have H2 := Aside0.mk (H1.out.next hb2); have hl1 := Aside0.mk (hl1.out.below hb2); clear hb2)
    | (go_at_call 46; refine (HM.out _ H2.out _ _ _ _ hl1.out hl2.out).mono ?_; rintro e w3 ⟨rfl, hb3⟩; have H3 := Aside0.mk (H2.out.next hb3); have hl1 := Aside0.mk (hl1.out.below hb3); clear hb3)
    | (go_at_call 45; refine (HK.out _ _ _ hl1.out).mono ?_; rintro e w4 ⟨k5, t5, kA5, kn5, kc5, nA5, nn5, nc5, rfl, hb4, hA4⟩; have H4 := Aside0.mk (H3.out.next hb4); obtain ⟨z0, z1, z2, z3, zf⟩ := nd_cells H4.out.e4; clear hb4))
  all_goals go_wp2_with fail
  all_goals exact pass_post2 rfl (.inl rfl) H4.out.e4 H4.out.below (by omega) (Array.getElem?_eq_some_iff.1 H3.out.e4).1 hA4.out rfl rfl
end Go.Proofs.YtmomjgkbimeeoaaDoor.G
