/- PaMerge where the patch holds but nulls at names that the document has not. -/
import Derived.Test.YtmomjgkbimeeoaaDoorGvDm
import Derived.Test.YtmomjgkbimeeoaaDoorGvOw
namespace Go.Proofs.YtmomjgkbimeeoaaDoor.G
set_option linter.unusedVariables false
set_option linter.unusedSimpArgs false
open Go.RowKit Go.Proofs.YtmomjgkbimeeoaaDoorW.PrintWords

/-- What PaMerge has made by then. -/
structure PM (w W : World) (bx by' bz : Obj) : Prop where
  e2 : W.heap[w.heap.size]? = some bx
  e3 : W.heap[w.heap.size + 1]? = some by'
  e4 : W.heap[w.heap.size + 1 + 1]? = some bz
  below : Below w.heap.size w W
theorem PM.next {w W W' : World} {bx by' bz : Obj} (h : PM w W bx by' bz) (hb : Below W.heap.size W W') : PM w W' bx by' bz :=
  ⟨(hb.block _ (Array.getElem?_eq_some_iff.1 h.e2).1).trans h.e2, (hb.block _ (Array.getElem?_eq_some_iff.1 h.e3).1).trans h.e3, (hb.block _ (Array.getElem?_eq_some_iff.1 h.e4).1).trans h.e4, below_step h.below hb⟩
theorem PM.drew {w W : World} {bx by' bz : Obj} (h : PM w W bx by' bz) : PM w W.drew bx by' bz := h.next (Below.refl _ _).drew
theorem PM.start (w : World) (bx by' bz : Obj) : PM w (((w.alloc bx).alloc by').alloc bz) bx by' bz :=
  let ⟨h1, h2, h3, hb⟩ := alloc3 w bx by' bz
  ⟨h1, h2, h3, hb⟩
set_option maxHeartbeats 4000000 in
set_option maxRecDepth 100000 in
theorem paMerge_calls (t : ByteArray) (ks : List ByteArray) (kids : List Nd) (ps : List ByteArray) (hro : Ro (.mk 6 t ks kids)) (htd : Td (.mk 6 t ks kids)) (huq : Uq (.mk 6 t ks kids)) (hps : ps.length ≤ 50) (hpz : ∀ x ∈ ps, x.size ≤ 140737488351232) (hpn : ps.Nodup) (hdis : ∀ x ∈ ps, x ∉ ks)
    (k1 : Int) (t1 : ByteArray) (kA1 : Option Addr) (kn1 kc1 : Nat) (nA1 : Option Addr) (nn1 nc1 : Nat) (k2 : Int) (t2 : ByteArray) (kA2 : Option Addr) (kn2 kc2 : Nat) (nA2 : Option Addr) (nn2 nc2 : Nat) (T : TypeId) (u : Value) (w : World)
    (hat1 : NdAt w (fun _ => True) (.mk 6 t ks kids) [.int .i64 k1, .string t1, .slice kA1 kn1 kc1, .slice nA1 nn1 nc1]) (hat2 : NdAt w (fun _ => True) (nulP ps) [.int .i64 k2, .string t2, .slice kA2 kn2 kc2, .slice nA2 nn2 nc2]) (hg : w.cell? ⟨2, 0, none⟩ = some (.iface T u)) (hg2 : 2 < w.heap.size) :
    Calls Tryd.prog 12 #[.agg #[.int .i64 k1, .string t1, .slice kA1 kn1 kc1, .slice nA1 nn1 nc1], .agg #[.int .i64 k2, .string t2, .slice kA2 kn2 kc2, .slice nA2 nn2 nc2]] w (NdA 0 (.mk 6 t ks kids) w) := by
  have hat1' : NdAt w (fun g => g < w.heap.size) (.mk 6 t ks kids) [.int .i64 k1, .string t1, .slice kA1 kn1 kc1, .slice nA1 nn1 nc1] := NdAt.mono (fun g hg _ => hg) hat1
  have hat2' : NdAt w (fun g => g < w.heap.size) (nulP ps) [.int .i64 k2, .string t2, .slice kA2 kn2 kc2, .slice nA2 nn2 nc2] := NdAt.mono (fun g hg _ => hg) hat2
  have HA := Aside0.mk (fun (W : World) (hW : PM w W (.cells #[.int .i64 k1, .string t1, .slice kA1 kn1 kc1, .slice nA1 nn1 nc1] 25) (.cells #[.int .i64 k2, .string t2, .slice kA2 kn2 kc2, .slice nA2 nn2 nc2] 25) (.cells #[.int .i64 0, .string ⟨#[]⟩, .slice none 0 0, .slice none 0 0] 25)) => paIn_calls _ (.mk 6 t ks kids) (Nat.le_refl _) hro w.heap.size _ _ _ _ W hW.below.size (hat1'.below hW.below))
  have HB := Aside0.mk (fun (W : World) (hW : PM w W (.cells #[.int .i64 k1, .string t1, .slice kA1 kn1 kc1, .slice nA1 nn1 nc1] 25) (.cells #[.int .i64 k2, .string t2, .slice kA2 kn2 kc2, .slice nA2 nn2 nc2] 25) (.cells #[.int .i64 0, .string ⟨#[]⟩, .slice none 0 0, .slice none 0 0] 25)) => paIn_calls _ (nulP ps) (Nat.le_refl _) (nulP_ro hps hpz) w.heap.size _ _ _ _ W hW.below.size (hat2'.below hW.below))
  have HM := Aside0.mk (fun (W : World) (hW : PM w W (.cells #[.int .i64 k1, .string t1, .slice kA1 kn1 kc1, .slice nA1 nn1 nc1] 25) (.cells #[.int .i64 k2, .string t2, .slice kA2 kn2 kc2, .slice nA2 nn2 nc2] 25) (.cells #[.int .i64 0, .string ⟨#[]⟩, .slice none 0 0, .slice none 0 0] 25)) (k1 : Int) (t1 : ByteArray) (kA1 : Option Addr) (kn1 kc1 : Nat) (nA1 : Option Addr) (nn1 nc1 : Nat) (k2 : Int) (t2 : ByteArray) (kA2 : Option Addr) (kn2 kc2 : Nat) (nA2 : Option Addr) (nn2 nc2 : Nat) (F G : Nat → Prop) (h1 : NdAt W F (.mk 6 t ks kids) [.int .i64 k1, .string t1, .slice kA1 kn1 kc1, .slice nA1 nn1 nc1]) (h2 : NdAt W G (nulP ps) [.int .i64 k2, .string t2, .slice kA2 kn2 kc2, .slice nA2 nn2 nc2]) =>
    doorMerge_calls t ks kids ps hro htd huq hps hpz hpn hdis k1 t1 kA1 kn1 kc1 nA1 nn1 nc1 k2 t2 kA2 kn2 kc2 nA2 nn2 nc2 T u W (h1.mono fun _ _ _ => trivial) (h2.mono fun _ _ _ => trivial) ((hW.below.cell (p := ⟨2, 0, none⟩) hg2).trans hg) (Nat.lt_of_lt_of_le hg2 hW.below.size))
  have HK := Aside0.mk (fun (A : Nat) (W : World) (c0 c1 c2 c3 : Value) (h : NdAt W (fun g => g < 0 ∨ A ≤ g) (.mk 6 t ks kids) [c0, c1, c2, c3]) => paOut2_calls _ (.mk 6 t ks kids) (Nat.le_refl _) hro A W.heap.size c0 c1 c2 c3 W (Nat.le_refl _) (h.mono fun g hg hF => by omega))
  unfold NdA at HA HB HM
  unfold NdC at HK
  have HS := Aside0.mk (PM.start w (.cells #[.int .i64 k1, .string t1, .slice kA1 kn1 kc1, .slice nA1 nn1 nc1] 25) (.cells #[.int .i64 k2, .string t2, .slice kA2 kn2 kc2, .slice nA2 nn2 nc2] 25) (.cells #[.int .i64 0, .string ⟨#[]⟩, .slice none 0 0, .slice none 0 0] 25))
  clear hat1 hat2 hat1' hat2' hg hg2 hro htd huq hpz hpn hdis
  go_enter Tryd.func12, Tryd.ntmps12
  go_upto_region 1 with fail
  generalize (((w.alloc (.cells #[.int .i64 k1, .string t1, .slice kA1 kn1 kc1, .slice nA1 nn1 nc1] 25)).alloc (.cells #[.int .i64 k2, .string t2, .slice kA2 kn2 kc2, .slice nA2 nn2 nc2] 25)).alloc (.cells #[.int .i64 0, .string ⟨#[]⟩, .slice none 0 0, .slice none 0 0] 25)) = W0 at HS ⊢
  obtain ⟨x0, x1, x2, x3, xf⟩ := nd_cells HS.out.e2
  obtain ⟨y0, y1, y2, y3, yf⟩ := nd_cells HS.out.e3
  go_region_with (first
    | (go_at_call 30; refine (HA.out _ HS.out.drew).mono ?_; rintro e w1 ⟨k3, t3, kA3, kn3, kc3, nA3, nn3, nc3, rfl, hb1, hl1⟩; have H1 := Aside0.mk (HS.out.drew.next hb1); obtain ⟨y0, y1, y2, y3, yf⟩ := nd_cells H1.out.e3; clear hb1 HA)
    | (go_at_call 30; refine (HB.out _ H1.out).mono ?_; rintro e w2 ⟨k4, t4, kA4, kn4, kc4, nA4, nn4, nc4, rfl, hb2, hl2⟩; have H2 := Aside0.mk (H1.out.next hb2); have hl1 := Aside0.mk (hl1.out.below hb2); clear hb2)
    | (go_at_call 29; refine (HM.out _ H2.out _ _ _ _ _ _ _ _ _ _ _ _ _ _ _ _ _ _ hl1.out hl2.out).mono ?_; rintro e w3 ⟨k5, t5, kA5, kn5, kc5, nA5, nn5, nc5, rfl, hb3, hl3⟩; have H3 := Aside0.mk (H2.out.next hb3); have hsz := Aside0.mk hb3.size; clear hb3)
    | (go_at_call 28; refine (HK.out _ _ _ _ _ _ hl3.out).mono ?_; rintro e w4 ⟨k6, t6, kA6, kn6, kc6, nA6, nn6, nc6, rfl, hb4, hA4⟩; have H4 := Aside0.mk (H3.out.next hb4); have hS3 := Aside0.mk (Array.getElem?_eq_some_iff.1 H2.out.e4).1; obtain ⟨z0, z1, z2, z3, zf⟩ := nd_cells H4.out.e4; clear hb4))
  all_goals go_wp2_with fail
  all_goals exact pass_post2 rfl (.inr rfl) H4.out.e4 H4.out.below (by omega) hS3.out (hA4.out.mono fun g _ hF => by have := hsz.out; omega) rfl rfl
end Go.Proofs.YtmomjgkbimeeoaaDoor.G
