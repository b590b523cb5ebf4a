/- FnPaMatches: the walk. -/
import Derived.Test.YtmomjgkbimeeoaaGvMx
import Derived.Test.YtmomjgkbimeeoaaGvAg
import Derived.Test.YtmomjgkbimeeoaaGvPv
namespace Go.Proofs.Ytmomjgkbimeeoaa.G
set_option linter.unusedVariables false
set_option linter.unusedSimpArgs false
open Go.RowKit Go.Proofs.YtmomjgkbimeeoaaW.PrintWords

set_option maxHeartbeats 4000000 in
set_option maxRecDepth 100000 in
theorem doorMatches_calls (a b : Nd) (hta : Td a) (hua : Uq a) (hra : Ro a) (htb : Td b) (hub : Uq b) (hrb : Ro b) (k1 : Int) (t1 : ByteArray) (kA1 : Option Addr) (kn1 kc1 : Nat) (nA1 : Option Addr) (nn1 nc1 : Nat) (k2 : Int) (t2 : ByteArray) (kA2 : Option Addr) (kn2 kc2 : Nat) (nA2 : Option Addr) (nn2 nc2 : Nat) (w : World)
    (hat1 : NdAt w (fun _ => True) a [.int .i64 k1, .string t1, .slice kA1 kn1 kc1, .slice nA1 nn1 nc1]) (hat2 : NdAt w (fun _ => True) b [.int .i64 k2, .string t2, .slice kA2 kn2 kc2, .slice nA2 nn2 nc2]) :
    Calls Try.prog 14 #[.agg #[.int .i64 k1, .string t1, .slice kA1 kn1 kc1, .slice nA1 nn1 nc1], .agg #[.int .i64 k2, .string t2, .slice kA2 kn2 kc2, .slice nA2 nn2 nc2]] w (BolA (alike a b) w) := by
  have HA := Aside0.mk (fun (W : World) (hW : R2 w W (.cells #[.int .i64 k1, .string t1, .slice kA1 kn1 kc1, .slice nA1 nn1 nc1] 33) (.cells #[.int .i64 k2, .string t2, .slice kA2 kn2 kc2, .slice nA2 nn2 nc2] 33)) => plain_calls _ a (Nat.le_refl _) hta hua hra k1 t1 kA1 kn1 kc1 nA1 nn1 nc1 W (hat1.below hW.below))
  have HB := Aside0.mk (fun (W : World) (hW : R2 w W (.cells #[.int .i64 k1, .string t1, .slice kA1 kn1 kc1, .slice nA1 nn1 nc1] 33) (.cells #[.int .i64 k2, .string t2, .slice kA2 kn2 kc2, .slice nA2 nn2 nc2] 33)) => plain_calls _ b (Nat.le_refl _) htb hub hrb k2 t2 kA2 kn2 kc2 nA2 nn2 nc2 W (hat2.below hW.below))
  have HM := Aside0.mk (fun (W : World) (F G : Nat → Prop) (v u : Value) (h1 : VAt W F a v) (h2 : VAt W G b u) => mv_calls _ a (Nat.le_refl _) hta hua hra b htb hub hrb F G v u W h1 h2)
  unfold ValA at HA HB
  unfold MatB at HM
  obtain ⟨r, hr⟩ : ∃ r, r = alike a b := ⟨_, rfl⟩
  rw [← hr] at HM ⊢
  have H0 := Aside0.mk (R2.start w (.cells #[.int .i64 k1, .string t1, .slice kA1 kn1 kc1, .slice nA1 nn1 nc1] 33) (.cells #[.int .i64 k2, .string t2, .slice kA2 kn2 kc2, .slice nA2 nn2 nc2] 33))
  clear hat1 hat2 hr
  go_enter Try.func14, Try.ntmps14
  go_upto_region 1 with fail
  generalize ((w.alloc (.cells #[.int .i64 k1, .string t1, .slice kA1 kn1 kc1, .slice nA1 nn1 nc1] 33)).alloc (.cells #[.int .i64 k2, .string t2, .slice kA2 kn2 kc2, .slice nA2 nn2 nc2] 33)) = W0 at H0 ⊢
  have KP : Aside0 (∀ w', Below W0.heap.size W0 w' → w'.cell? ⟨w.heap.size, 0, none⟩ = some (.int .i64 k1) ∧ w'.cell? ⟨w.heap.size, 1, none⟩ = some (.string t1) ∧ w'.cell? ⟨w.heap.size, 2, none⟩ = some (.slice kA1 kn1 kc1) ∧ w'.cell? ⟨w.heap.size, 3, none⟩ = some (.slice nA1 nn1 nc1) ∧ w'.cell? ⟨w.heap.size + 1, 0, none⟩ = some (.int .i64 k2) ∧ w'.cell? ⟨w.heap.size + 1, 1, none⟩ = some (.string t2) ∧ w'.cell? ⟨w.heap.size + 1, 2, none⟩ = some (.slice kA2 kn2 kc2) ∧ w'.cell? ⟨w.heap.size + 1, 3, none⟩ = some (.slice nA2 nn2 nc2)) := ⟨fun w' hB => by
    obtain ⟨x0, x1, x2, x3, _⟩ := nd_cells (H0.out.next hB).b1
    obtain ⟨y0, y1, y2, y3, _⟩ := nd_cells (H0.out.next hB).b2
    exact ⟨x0, x1, x2, x3, y0, y1, y2, y3⟩⟩
  have L0 : Aside0 (Below W0.heap.size W0 W0.drew) := ⟨(Below.refl _ _).drew⟩
  go_region_held3 (fun w' => w'.cell? ⟨w.heap.size, 0, none⟩ = some (.int .i64 k1) ∧ w'.cell? ⟨w.heap.size, 1, none⟩ = some (.string t1) ∧ w'.cell? ⟨w.heap.size, 2, none⟩ = some (.slice kA1 kn1 kc1) ∧ w'.cell? ⟨w.heap.size, 3, none⟩ = some (.slice nA1 nn1 nc1) ∧ w'.cell? ⟨w.heap.size + 1, 0, none⟩ = some (.int .i64 k2) ∧ w'.cell? ⟨w.heap.size + 1, 1, none⟩ = some (.string t2) ∧ w'.cell? ⟨w.heap.size + 1, 2, none⟩ = some (.slice kA2 kn2 kc2) ∧ w'.cell? ⟨w.heap.size + 1, 3, none⟩ = some (.slice nA2 nn2 nc2))
    (first | exact KP.out _ (Below.refl _ _) | exact KP.out _ L0.out | exact KP.out _ L1.out | exact KP.out _ L2.out | exact KP.out _ L3.out)
    (first
    | (go_at_call 21; refine (HA.out _ (H0.out.next (Below.refl _ _).drew)).mono ?_; rintro e w1 ⟨v1, rfl, hb1, hs1, hl1⟩; have H1 := Aside0.mk ((H0.out.next (Below.refl _ _).drew).next hb1); have L1 := Aside0.mk (below_step L0.out hb1); clear hb1 HA)
    | (go_at_call 21; refine (HB.out _ H1.out).mono ?_; rintro e w2 ⟨v2, rfl, hb2, hs2, hl2⟩; have H2 := Aside0.mk (H1.out.next hb2); have hl1 := Aside0.mk (hl1.out.below hb2); have L2 := Aside0.mk (below_step L1.out hb2); clear hb2 HB)
    | (go_at_call 20; refine (HM.out _ _ _ _ _ hl1.out hl2.out).mono ?_; rintro e w3 ⟨rfl, hb3⟩; have H3 := Aside0.mk (H2.out.next hb3); have L3 := Aside0.mk (below_step L2.out hb3); clear hb3)
    | fail "none")
  all_goals go_wp2_with fail
  all_goals go_ret
  all_goals exact ⟨rfl, H3.out.below⟩
set_option maxHeartbeats 4000000 in
set_option maxRecDepth 100000 in
theorem paMatches_calls (a b : Nd) (hta : Td a) (hua : Uq a) (hra : Ro a) (htb : Td b) (hub : Uq b) (hrb : Ro b) (k1 : Int) (t1 : ByteArray) (kA1 : Option Addr) (kn1 kc1 : Nat) (nA1 : Option Addr) (nn1 nc1 : Nat) (k2 : Int) (t2 : ByteArray) (kA2 : Option Addr) (kn2 kc2 : Nat) (nA2 : Option Addr) (nn2 nc2 : Nat) (w : World)
    (hat1 : NdAt w (fun _ => True) a [.int .i64 k1, .string t1, .slice kA1 kn1 kc1, .slice nA1 nn1 nc1]) (hat2 : NdAt w (fun _ => True) b [.int .i64 k2, .string t2, .slice kA2 kn2 kc2, .slice nA2 nn2 nc2]) :
    Calls Try.prog 6 #[.agg #[.int .i64 k1, .string t1, .slice kA1 kn1 kc1, .slice nA1 nn1 nc1], .agg #[.int .i64 k2, .string t2, .slice kA2 kn2 kc2, .slice nA2 nn2 nc2]] w (BolA (alike a b) w) := by
  have hat1' : NdAt w (fun g => g < w.heap.size) a [.int .i64 k1, .string t1, .slice kA1 kn1 kc1, .slice nA1 nn1 nc1] := NdAt.mono (fun g hg _ => hg) hat1
  have hat2' : NdAt w (fun g => g < w.heap.size) b [.int .i64 k2, .string t2, .slice kA2 kn2 kc2, .slice nA2 nn2 nc2] := NdAt.mono (fun g hg _ => hg) hat2
  have HA := Aside0.mk (fun (W : World) (hW : R2 w W (.cells #[.int .i64 k1, .string t1, .slice kA1 kn1 kc1, .slice nA1 nn1 nc1] 25) (.cells #[.int .i64 k2, .string t2, .slice kA2 kn2 kc2, .slice nA2 nn2 nc2] 25)) => paIn_calls _ a (Nat.le_refl _) hra w.heap.size _ _ _ _ W hW.below.size (hat1'.below hW.below))
  have HB := Aside0.mk (fun (W : World) (hW : R2 w W (.cells #[.int .i64 k1, .string t1, .slice kA1 kn1 kc1, .slice nA1 nn1 nc1] 25) (.cells #[.int .i64 k2, .string t2, .slice kA2 kn2 kc2, .slice nA2 nn2 nc2] 25)) => paIn_calls _ b (Nat.le_refl _) hrb w.heap.size _ _ _ _ W hW.below.size (hat2'.below hW.below))
  have HM := Aside0.mk (fun (W : World) (k1 : Int) (t1 : ByteArray) (kA1 : Option Addr) (kn1 kc1 : Nat) (nA1 : Option Addr) (nn1 nc1 : Nat) (k2 : Int) (t2 : ByteArray) (kA2 : Option Addr) (kn2 kc2 : Nat) (nA2 : Option Addr) (nn2 nc2 : Nat) (F G : Nat → Prop) (h1 : NdAt W F a [.int .i64 k1, .string t1, .slice kA1 kn1 kc1, .slice nA1 nn1 nc1]) (h2 : NdAt W G b [.int .i64 k2, .string t2, .slice kA2 kn2 kc2, .slice nA2 nn2 nc2]) => doorMatches_calls a b hta hua hra htb hub hrb k1 t1 kA1 kn1 kc1 nA1 nn1 nc1 k2 t2 kA2 kn2 kc2 nA2 nn2 nc2 W (h1.mono fun _ _ _ => trivial) (h2.mono fun _ _ _ => trivial))
  unfold NdA at HA HB
  unfold BolA at HM ⊢
  obtain ⟨r, hr⟩ : ∃ r, r = alike a b := ⟨_, rfl⟩
  rw [← hr] at HM ⊢
  have H0 := Aside0.mk (R2.start w (.cells #[.int .i64 k1, .string t1, .slice kA1 kn1 kc1, .slice nA1 nn1 nc1] 25) (.cells #[.int .i64 k2, .string t2, .slice kA2 kn2 kc2, .slice nA2 nn2 nc2] 25))
  clear hat1 hat2 hat1' hat2' hr
  go_enter Try.func6, Try.ntmps6
  go_upto_region 1 with fail
  generalize ((w.alloc (.cells #[.int .i64 k1, .string t1, .slice kA1 kn1 kc1, .slice nA1 nn1 nc1] 25)).alloc (.cells #[.int .i64 k2, .string t2, .slice kA2 kn2 kc2, .slice nA2 nn2 nc2] 25)) = W0 at H0 ⊢
  have KP : Aside0 (∀ w', Below W0.heap.size W0 w' → w'.cell? ⟨w.heap.size, 0, none⟩ = some (.int .i64 k1) ∧ w'.cell? ⟨w.heap.size, 1, none⟩ = some (.string t1) ∧ w'.cell? ⟨w.heap.size, 2, none⟩ = some (.slice kA1 kn1 kc1) ∧ w'.cell? ⟨w.heap.size, 3, none⟩ = some (.slice nA1 nn1 nc1) ∧ w'.cell? ⟨w.heap.size + 1, 0, none⟩ = some (.int .i64 k2) ∧ w'.cell? ⟨w.heap.size + 1, 1, none⟩ = some (.string t2) ∧ w'.cell? ⟨w.heap.size + 1, 2, none⟩ = some (.slice kA2 kn2 kc2) ∧ w'.cell? ⟨w.heap.size + 1, 3, none⟩ = some (.slice nA2 nn2 nc2)) := ⟨fun w' hB => by
    obtain ⟨x0, x1, x2, x3, _⟩ := nd_cells (H0.out.next hB).b1
    obtain ⟨y0, y1, y2, y3, _⟩ := nd_cells (H0.out.next hB).b2
    exact ⟨x0, x1, x2, x3, y0, y1, y2, y3⟩⟩
  have L0 : Aside0 (Below W0.heap.size W0 W0.drew) := ⟨(Below.refl _ _).drew⟩
  go_region_held3 (fun w' => w'.cell? ⟨w.heap.size, 0, none⟩ = some (.int .i64 k1) ∧ w'.cell? ⟨w.heap.size, 1, none⟩ = some (.string t1) ∧ w'.cell? ⟨w.heap.size, 2, none⟩ = some (.slice kA1 kn1 kc1) ∧ w'.cell? ⟨w.heap.size, 3, none⟩ = some (.slice nA1 nn1 nc1) ∧ w'.cell? ⟨w.heap.size + 1, 0, none⟩ = some (.int .i64 k2) ∧ w'.cell? ⟨w.heap.size + 1, 1, none⟩ = some (.string t2) ∧ w'.cell? ⟨w.heap.size + 1, 2, none⟩ = some (.slice kA2 kn2 kc2) ∧ w'.cell? ⟨w.heap.size + 1, 3, none⟩ = some (.slice nA2 nn2 nc2))
    (first | exact KP.out _ (Below.refl _ _) | exact KP.out _ L0.out | exact KP.out _ L1.out | exact KP.out _ L2.out | exact KP.out _ L3.out)
    (first
    | (go_at_call 15; refine (HA.out _ (H0.out.next (Below.refl _ _).drew)).mono ?_; rintro e w1 ⟨k3, t3, kA3, kn3, kc3, nA3, nn3, nc3, rfl, hb1, hl1⟩; have H1 := Aside0.mk ((H0.out.next (Below.refl _ _).drew).next hb1); have L1 := Aside0.mk (below_step L0.out hb1); clear hb1 HA)
    | (go_at_call 15; refine (HB.out _ H1.out).mono ?_; rintro e w2 ⟨k4, t4, kA4, kn4, kc4, nA4, nn4, nc4, rfl, hb2, hl2⟩; have H2 := Aside0.mk (H1.out.next hb2); have hl1 := Aside0.mk (hl1.out.below hb2); have L2 := Aside0.mk (below_step L1.out hb2); clear hb2 HB)
    | (go_at_call 14; refine (HM.out _ _ _ _ _ _ _ _ _ _ _ _ _ _ _ _ _ _ _ hl1.out hl2.out).mono ?_; rintro e w3 ⟨rfl, hb3⟩; have H3 := Aside0.mk (H2.out.next hb3); have L3 := Aside0.mk (below_step L2.out hb3); clear hb3)
    | fail "none")
  all_goals go_wp2_with fail
  all_goals go_ret
  all_goals exact ⟨rfl, H3.out.below⟩
end Go.Proofs.Ytmomjgkbimeeoaa.G
