/- The laws' own test of a value. -/
import Derived.Test.YtmomjgkbimeeoaaGvFi
namespace Go.Proofs.Ytmomjgkbimeeoaa.G
set_option linter.unusedVariables false
set_option linter.unusedSimpArgs false
open Go.RowKit Go.Proofs.YtmomjgkbimeeoaaW.PrintWords

set_option maxHeartbeats 8000000 in
set_option maxRecDepth 100000 in
theorem paValue_calls (n : Nd) (hro : Ro n) (k : Int) (t : ByteArray) (kA : Option Addr) (kn kc : Nat) (nA : Option Addr) (nn nc : Nat) (w : World) (hat : NdAt w (fun _ => True) n [.int .i64 k, .string t, .slice kA kn kc, .slice nA nn nc]) :
    Calls Try.prog 5 #[.agg #[.int .i64 k, .string t, .slice kA kn kc, .slice nA nn nc]] w (BoolA (Td n ∧ Uq n) w) := by
  have H22 := Aside0.mk (fun W (hW : RO w W (.cells #[.int .i64 k, .string t, .slice kA kn kc, .slice nA nn nc] 25)) => tidy_calls n.sz n (Nat.le_refl _) hro k t kA kn kc nA nn nc W (hat.below hW.below))
  have H23 := Aside0.mk (fun W (hW : RO w W (.cells #[.int .i64 k, .string t, .slice kA kn kc, .slice nA nn nc] 25)) => size_calls n.sz n (Nat.le_refl _) hro k t kA kn kc nA nn nc W (hat.below hW.below))
  have H24 := Aside0.mk (fun W (hW : RO w W (.cells #[.int .i64 k, .string t, .slice kA kn kc, .slice nA nn nc] 25)) => depth_calls n.sz n (Nat.le_refl _) hro k t kA kn kc nA nn nc W (hat.below hW.below))
  have H25 := Aside0.mk (fun W (hW : RO w W (.cells #[.int .i64 k, .string t, .slice kA kn kc, .slice nA nn nc] 25)) => unique_calls n.sz n (Nat.le_refl _) hro k t kA kn kc nA nn nc W (hat.below hW.below))
  have H26 := Aside0.mk (fun W (hW : RO w W (.cells #[.int .i64 k, .string t, .slice kA kn kc, .slice nA nn nc] 25)) => allUtf8_calls n.sz n (Nat.le_refl _) hro k t kA kn kc nA nn nc W (hat.below hW.below))
  have HRO0 := Aside0.mk (RO.start w (.cells #[.int .i64 k, .string t, .slice kA kn kc, .slice nA nn nc] 25))
  unfold BoolA at H22 H25 H26
  unfold NumA at H23 H24
  clear hat hro
  go_enter Try.func5, Try.ntmps5
  go_upto_region 1 with fail
  generalize (w.alloc (.cells #[.int .i64 k, .string t, .slice kA kn kc, .slice nA nn nc] 25)) = W0 at HRO0 ⊢
  obtain ⟨x0, x1, x2, x3, xf⟩ := nd_cells HRO0.out.box
  go_wp2_with (first
    | (go_at_call 9; refine (H22.out _ HRO0.out).mono ?_; rintro e w1 ⟨b, rfl, hb1, hB1⟩; have HR1 := Aside0.mk (HRO0.out.next hb1); obtain ⟨y0, y1, y2, y3, yf⟩ := nd_cells HR1.out.box; clear hb1; cases b)
    | (go_at_call 10; refine (H23.out _ HR1.out).mono ?_; rintro e w2 ⟨z, rfl, hb1⟩; have HR2 := Aside0.mk (HR1.out.next hb1); obtain ⟨q0, q1, q2, q3, qf⟩ := nd_cells HR2.out.box; clear hb1; by_cases hz : z ≤ 1000)
    | (go_at_call 11; refine (H24.out _ HR2.out).mono ?_; rintro e w3 ⟨z2, rfl, hb1⟩; have HR3 := Aside0.mk (HR2.out.next hb1); obtain ⟨r0, r1, r2, r3, rf⟩ := nd_cells HR3.out.box; clear hb1; by_cases hz2 : z2 ≤ 50)
    | (go_at_call 12; refine (H25.out _ HR3.out).mono ?_; rintro e w4 ⟨b, rfl, hb1, hB2⟩; have HR4 := Aside0.mk (HR3.out.next hb1); obtain ⟨s0, s1, s2, s3, sf⟩ := nd_cells HR4.out.box; clear hb1; cases b)
    | (go_at_call 13; refine (H26.out _ HR4.out).mono ?_; rintro e w5 ⟨b, rfl, hb1, hB3⟩; have HR5 := Aside0.mk (HR4.out.next hb1); clear hb1))
  all_goals go_ret
  all_goals first
    | exact ⟨_, rfl, HR5.out.below, ⟨fun _ => ⟨hB1.out (by trivial), hB2.out (by trivial)⟩⟩⟩
    | exact ⟨_, rfl, HR4.out.below, ⟨fun h => by cases h⟩⟩
    | exact ⟨_, rfl, HR3.out.below, ⟨fun h => by cases h⟩⟩
    | exact ⟨_, rfl, HR2.out.below, ⟨fun h => by cases h⟩⟩
    | exact ⟨_, rfl, HR1.out.below, ⟨fun h => by cases h⟩⟩
end Go.Proofs.Ytmomjgkbimeeoaa.G
