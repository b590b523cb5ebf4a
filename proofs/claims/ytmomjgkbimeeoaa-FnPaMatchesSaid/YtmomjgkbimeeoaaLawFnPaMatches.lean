/- The inner equality by which a merge patch is made holds of two values just if they are alike but for the order of members, numbers compared as they are written: every two values that the statement lets in. -/
import Derived.Test.YtmomjgkbimeeoaaRows
import Derived.Test.YtmomjgkbimeeoaaGvWl
import Derived.Test.YtmomjgkbimeeoaaGvOn
import Derived.ProofKit
import Derived.OpenShut
import Derived.ShutString
import Derived.ChangeOld
import Derived.Below
import Derived.SizedLaws
import Derived.Outline
namespace Go.Proofs.Ytmomjgkbimeeoaa.fnPaMatches
open Go.ChangeShapes Go.WideShapes Go.ChangeAt Go.RowKit
open Go.ChangeMaps (open_string shut_string)
open Go.Proofs.Ytmomjgkbimeeoaa.G Go.Proofs.YtmomjgkbimeeoaaW.PrintWords
set_option linter.unusedVariables false
set_option linter.unusedSimpArgs false

theorem laidOut : laidOutB Try.prog = true := by kernel_rfl
theorem own : ownKnob Try.prog.godebug = none := by kernel_rfl
set_option maxRecDepth 100000 in
theorem lifted (os : Os) (started : os.Started) (H : Type) (enc : TypeId × Value → H) :
    ReturnsInHanded {} Try.checked os 3 .any (Rows.fnPaMatchesSpec.pre6 enc Try.prog Try.f3 Rows.fnPaMatchesRow.domain false) (Rows.fnPaMatchesSpec.post enc Try.prog Try.f3 false true false false) := by
  refine returnsInHanded_of_change_sized (C := Try.checked) own started (by kernel_rfl) Try.func3
    (ChangeSpec.witness6 (enc := enc) (C := Try.checked) false ⟨#[], #[.agg #[.int .i64 0, .string ByteArray.empty, .slice none 0 0, .slice none 0 0], .agg #[.int .i64 0, .string ByteArray.empty, .slice none 0 0, .slice none 0 0]], []⟩ 8 (by kernel_rfl) (by kernel_rfl) (by kernel_rfl) (by kernel_rfl)) ?_
  intro W base args ds gs before hval0 hW hcnd hsz0 _
  have hsz : (DataW.weightsEach Try.prog (Try.f3.params.toList ++ Rows.fnPaMatchesSpec.plain.varTypes Try.prog) (ds ++ gs)).all (· ≤ reachBytes) = true := hsz0
  have hW' := hW
  obtain ⟨p, q, hA0, hV, rfl, hfz, hnd⟩ := hW
  have hA : DataW.TrodAll enc Try.prog W 0 (fun _ => true) true Try.f3.params.toList args.toList ds p := hA0
  rw [Try.params3] at hA hsz
  obtain ⟨v0, vs0, d0, ds0, p0, q0, hargs, rfl, rfl, h0, r0⟩ := trodAll_cons hA
  obtain ⟨v1, vs1, d1, ds1, p1, q1, rfl, rfl, rfl, h1, r1⟩ := trodAll_cons r0
  obtain ⟨rfl, rfl, rfl⟩ := trodAll_nil r1
  obtain rfl : args = #[v0, v1] := by cases args; simp_all
  obtain ⟨rfl, rfl⟩ := trodVars_none hV
  have h0k := h0
  obtain ⟨fuel0, hf0⟩ := h0
  have hw0 : ∀ m ∈ d0.weights Try.prog 25, m ≤ reachBytes := fun m hm => by
    have := List.all_eq_true.1 hsz _ (DataW.weights_mem_each (j := 0) (t := 25) rfl rfl m hm)
    simpa using this
  have hlt0 : ∀ x ∈ p0, x.block < W.heap.size := fun x hx => by
    have := hW'.lt x (by simp [hx])
    simpa using this
  obtain ⟨na, hna0, hra⟩ := open_nd fuel0 _ _ hf0 hw0
  obtain ⟨k1, t1, kA1, kn1, kc1, nA1, nn1, nc1, hcs⟩ := hna0.form
  obtain rfl : v0 = .agg #[.int .i64 k1, .string t1, .slice kA1 kn1 kc1, .slice nA1 nn1 nc1] := by
    cases v0 with
    | agg cs =>
      obtain ⟨l⟩ := cs
      have : l = [.int .i64 k1, .string t1, .slice kA1 kn1 kc1, .slice nA1 nn1 nc1] := hcs
      rw [this]
    | _ => have := congrArg List.length hcs; simp [Value.cells] at this
  have h1k := h1
  obtain ⟨fuel1, hf1⟩ := h1
  have hw1 : ∀ m ∈ d1.weights Try.prog 25, m ≤ reachBytes := fun m hm => by
    have := List.all_eq_true.1 hsz _ (DataW.weights_mem_each (j := 1) (t := 25) rfl rfl m hm)
    simpa using this
  have hlt1 : ∀ x ∈ p1, x.block < W.heap.size := fun x hx => by
    have := hW'.lt x (by simp [hx])
    simpa using this
  obtain ⟨nb, hnb0, hrb⟩ := open_nd fuel1 _ _ hf1 hw1
  obtain ⟨k2, t2, kA2, kn2, kc2, nA2, nn2, nc2, hcs2⟩ := hnb0.form
  obtain rfl : v1 = .agg #[.int .i64 k2, .string t2, .slice kA2 kn2 kc2, .slice nA2 nn2 nc2] := by
    cases v1 with
    | agg cs =>
      obtain ⟨l⟩ := cs
      have : l = [.int .i64 k2, .string t2, .slice kA2 kn2 kc2, .slice nA2 nn2 nc2] := hcs2
      rw [this]
    | _ => have := congrArg List.length hcs2; simp [Value.cells] at this
  have hn1 : NdAt W (fun _ => True) na [.int .i64 k1, .string t1, .slice kA1 kn1 kc1, .slice nA1 nn1 nc1] := by rw [← hcs]; exact hna0
  have hn2 : NdAt W (fun _ => True) nb [.int .i64 k2, .string t2, .slice kA2 kn2 kc2, .slice nA2 nn2 nc2] := by rw [← hcs2]; exact hnb0
  clear hA0 hval0 hsz0 hsz
  refine (matches_walk na nb hra hrb k1 t1 kA1 kn1 kc1 nA1 nn1 nc1 k2 t2 kA2 kn2 kc2 nA2 nn2 nc2 W hn1 hn2).mono fun e W' ⟨he, bel⟩ => ?_
  subst he
  exact ⟨_, rfl, _, _, _, [], _, [], hW', trodAll_mk1 (shut_bool Try.underlying4 _), (trodAll_cons_mk (Below.trod laidOut (by kernel_rfl) (of_decide_eq_true (by kernel_rfl)) h0k bel hlt0) (trodAll_cons_mk (Below.trod laidOut (by kernel_rfl) (of_decide_eq_true (by kernel_rfl)) h1k bel hlt1) trodAll_mk0)), rfl, bel.frame _, fun h => by cases h⟩
theorem over : Rows.fnPaMatchesRow.holds Try.pinned (OpenSpec.ofChange Rows.fnPaMatchesSpec) :=
  OpenClaim.holds_of_wide 3 Try.f3 rfl rfl rfl rfl rfl rfl rfl ⟨rfl, rfl, rfl, rfl, rfl⟩ rfl rfl rfl rfl rfl (by kernel_rfl) Try.func3 (by kernel_rfl)
    (of_decide_eq_true (by kernel_rfl)) (by unfold Func.isWrapper; first | (rw [if_pos (by decide +kernel)]; kernel_rfl) | (rw [if_neg (by decide +kernel)]; exact ⟨rfl, rfl⟩))
    (fun os started H enc _ => lifted os started H enc)
theorem proved : Rows.FnPaMatchesSaid := over
#print axioms proved
end Go.Proofs.Ytmomjgkbimeeoaa.fnPaMatches
namespace Go.Proofs.Ytmomjgkbimeeoaa
/-- The row, under a short name, for the claim. -/
theorem fnPaMatches_holds : Rows.FnPaMatchesSaid := fnPaMatches.proved
end Go.Proofs.Ytmomjgkbimeeoaa
