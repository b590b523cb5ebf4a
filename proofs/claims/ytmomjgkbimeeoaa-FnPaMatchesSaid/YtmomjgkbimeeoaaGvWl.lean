/- FnPaMatches: the walk of the law. -/
import Derived.Test.YtmomjgkbimeeoaaGvWk
namespace Go.Proofs.Ytmomjgkbimeeoaa.G
set_option linter.unusedVariables false
set_option linter.unusedSimpArgs false
open Go.RowKit Go.Proofs.YtmomjgkbimeeoaaW.PrintWords

set_option maxHeartbeats 16000000 in
set_option maxRecDepth 100000 in
theorem matches_walk (a b : Nd) (hra : Ro a) (hrb : Ro b) (k1 : Int) (t1 : ByteArray) (kA1 : Option Addr) (kn1 kc1 : Nat) (nA1 : Option Addr) (nn1 nc1 : Nat) (k2 : Int) (t2 : ByteArray) (kA2 : Option Addr) (kn2 kc2 : Nat) (nA2 : Option Addr) (nn2 nc2 : Nat) (w : World)
    (hat1 : NdAt w (fun _ => True) a [.int .i64 k1, .string t1, .slice kA1 kn1 kc1, .slice nA1 nn1 nc1]) (hat2 : NdAt w (fun _ => True) b [.int .i64 k2, .string t2, .slice kA2 kn2 kc2, .slice nA2 nn2 nc2]) :
    Calls Try.prog 3 #[.agg #[.int .i64 k1, .string t1, .slice kA1 kn1 kc1, .slice nA1 nn1 nc1], .agg #[.int .i64 k2, .string t2, .slice kA2 kn2 kc2, .slice nA2 nn2 nc2]] w (fun e w' => e = .returned (.bool true) ∧ Below w.heap.size w w') := by
  have HF1 := Aside0.mk (fun (W : World) (hW : Below w.heap.size w W) => fits2_calls a hra k1 t1 kA1 kn1 kc1 nA1 nn1 nc1 W (hat1.below hW))
  have HF2 := Aside0.mk (fun (W : World) (hW : Below w.heap.size w W) => fits2_calls b hrb k2 t2 kA2 kn2 kc2 nA2 nn2 nc2 W (hat2.below hW))
  have HP1 := Aside0.mk (fun (W : World) (hW : Below w.heap.size w W) => paValue_calls a hra k1 t1 kA1 kn1 kc1 nA1 nn1 nc1 W (hat1.below hW))
  have HP2 := Aside0.mk (fun (W : World) (hW : Below w.heap.size w W) => paValue_calls b hrb k2 t2 kA2 kn2 kc2 nA2 nn2 nc2 W (hat2.below hW))
  have HM := Aside0.mk (fun (hab : (Td a ∧ Uq a) ∧ Td b ∧ Uq b) (W : World) (hW : Below w.heap.size w W) => paMatches_calls a b hab.1.1 hab.1.2 hra hab.2.1 hab.2.2 hrb k1 t1 kA1 kn1 kc1 nA1 nn1 nc1 k2 t2 kA2 kn2 kc2 nA2 nn2 nc2 W (hat1.below hW) (hat2.below hW))
  have HL := Aside0.mk (fun (hab : (Td a ∧ Uq a) ∧ Td b ∧ Uq b) (W : World) (hW : Below w.heap.size w W) => alike2_calls _ a b (Nat.le_refl _) hra hrb hab.1.1 hab.2.1 k1 t1 kA1 kn1 kc1 nA1 nn1 nc1 k2 t2 kA2 kn2 kc2 nA2 nn2 nc2 W (hat1.below hW) (hat2.below hW))
  unfold BoolA at HF1 HF2 HP1 HP2
  unfold BolA at HM HL
  generalize alike a b = r at HM HL
  have H0 := Aside0.mk (R2.start w (.cells #[.int .i64 k1, .string t1, .slice kA1 kn1 kc1, .slice nA1 nn1 nc1] 25) (.cells #[.int .i64 k2, .string t2, .slice kA2 kn2 kc2, .slice nA2 nn2 nc2] 25))
  clear hat1 hat2 hra hrb
  go_enter Try.func3, Try.ntmps3
  go_upto_region 1 with fail
  generalize ((w.alloc (.cells #[.int .i64 k1, .string t1, .slice kA1 kn1 kc1, .slice nA1 nn1 nc1] 25)).alloc (.cells #[.int .i64 k2, .string t2, .slice kA2 kn2 kc2, .slice nA2 nn2 nc2] 25)) = W0 at H0 ⊢
  obtain ⟨x0, x1, x2, x3, xf⟩ := nd_cells H0.out.b1
  go_upto_region 3 with (first
    | (go_at_call 4; refine (HF1.out _ H0.out.below).mono ?_; rintro e w1 ⟨b1, rfl, hb1, _⟩; have H1 := Aside0.mk (H0.out.next hb1); clear hb1 HF1; obtain ⟨y0, y1, y2, y3, yf⟩ := nd_cells H1.out.b2; cases b1)
    | (go_at_call 4; refine (HF2.out _ H1.out.below).mono ?_; rintro e w2 ⟨b2, rfl, hb2, _⟩; have H2 := Aside0.mk (H1.out.next hb2); clear hb2; cases b2))
  · go_ret
    exact ⟨rfl, H1.out.below⟩
  · go_ret
    exact ⟨rfl, H2.out.below⟩
  clear x0 x1 x2 x3 xf y0 y1 y2 y3 yf H1 HF2 H0
  obtain ⟨x0, x1, x2, x3, xf⟩ := nd_cells H2.out.b1
  go_upto_region 5 with (first
    | (go_at_call 5; refine (HP1.out _ H2.out.below).mono ?_; rintro e w3 ⟨b3, rfl, hb3, hP1⟩; have H3 := Aside0.mk (H2.out.next hb3); clear hb3 HP1; obtain ⟨y0, y1, y2, y3, yf⟩ := nd_cells H3.out.b2; cases b3)
    | (go_at_call 5; refine (HP2.out _ H3.out.below).mono ?_; rintro e w4 ⟨b4, rfl, hb4, hP2⟩; have H4 := Aside0.mk (H3.out.next hb4); clear hb4; cases b4))
  · go_ret
    exact ⟨rfl, H3.out.below⟩
  · go_ret
    exact ⟨rfl, H4.out.below⟩
  have HAB := Aside0.mk (And.intro (hP1.out (by trivial)) (hP2.out (by trivial)))
  have HM := Aside0.mk (HM.out HAB.out)
  have HL := Aside0.mk (HL.out HAB.out)
  clear x0 x1 x2 x3 xf y0 y1 y2 y3 yf H2 H3 HP2 hP1 hP2 HAB
  have KP : Aside0 (∀ w', Below w4.heap.size w4 w' → w'.cell? ⟨w.heap.size, 0, none⟩ = some (.int .i64 k1) ∧ w'.cell? ⟨w.heap.size, 1, none⟩ = some (.string t1) ∧ w'.cell? ⟨w.heap.size, 2, none⟩ = some (.slice kA1 kn1 kc1) ∧ w'.cell? ⟨w.heap.size, 3, none⟩ = some (.slice nA1 nn1 nc1) ∧ w'.cell? ⟨w.heap.size + 1, 0, none⟩ = some (.int .i64 k2) ∧ w'.cell? ⟨w.heap.size + 1, 1, none⟩ = some (.string t2) ∧ w'.cell? ⟨w.heap.size + 1, 2, none⟩ = some (.slice kA2 kn2 kc2) ∧ w'.cell? ⟨w.heap.size + 1, 3, none⟩ = some (.slice nA2 nn2 nc2)) := ⟨fun w' hB => by
    obtain ⟨x0, x1, x2, x3, _⟩ := nd_cells (H4.out.next hB).b1
    obtain ⟨y0, y1, y2, y3, _⟩ := nd_cells (H4.out.next hB).b2
    exact ⟨x0, x1, x2, x3, y0, y1, y2, y3⟩⟩
  have L0 : Aside0 (Below w4.heap.size w4 w4.drew) := ⟨(Below.refl _ _).drew⟩
  have KB : Aside0 (∀ w', Below w4.heap.size w4 w' → Below w.heap.size w w') := ⟨fun w' hB => (H4.out.next hB).below⟩
  cases r
  all_goals
    go_region_held3 (fun w' => w'.cell? ⟨w.heap.size, 0, none⟩ = some (.int .i64 k1) ∧ w'.cell? ⟨w.heap.size, 1, none⟩ = some (.string t1) ∧ w'.cell? ⟨w.heap.size, 2, none⟩ = some (.slice kA1 kn1 kc1) ∧ w'.cell? ⟨w.heap.size, 3, none⟩ = some (.slice nA1 nn1 nc1) ∧ w'.cell? ⟨w.heap.size + 1, 0, none⟩ = some (.int .i64 k2) ∧ w'.cell? ⟨w.heap.size + 1, 1, none⟩ = some (.string t2) ∧ w'.cell? ⟨w.heap.size + 1, 2, none⟩ = some (.slice kA2 kn2 kc2) ∧ w'.cell? ⟨w.heap.size + 1, 3, none⟩ = some (.slice nA2 nn2 nc2))
      (first | exact KP.out _ (Below.refl _ _) | exact KP.out _ L0.out | exact KP.out _ L1.out | exact KP.out _ L2.out)
      (first
      | (go_at_call 6; refine (HM.out _ (KB.out _ L0.out)).mono ?_; rintro e w5 ⟨rfl, hb5⟩; have L1 := Aside0.mk (below_step L0.out hb5); clear hb5)
      | (go_at_call 7; refine (HL.out _ (KB.out _ L1.out)).mono ?_; rintro e w6 ⟨rfl, hb6⟩; have L2 := Aside0.mk (below_step L1.out hb6); clear hb6)
      | fail "none")
    all_goals go_wp2_with fail
    all_goals go_ret
    all_goals exact ⟨rfl, KB.out _ L2.out⟩
end Go.Proofs.Ytmomjgkbimeeoaa.G
