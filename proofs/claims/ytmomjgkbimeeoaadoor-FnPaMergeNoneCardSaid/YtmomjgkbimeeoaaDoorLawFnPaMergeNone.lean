/- Merging into an object a patch whose members are nulls at names that the object has not leaves it as it was, and so does an empty patch: every value and every list of names that the statement lets in. -/
import Derived.Test.YtmomjgkbimeeoaaDoorRows
import Derived.Test.YtmomjgkbimeeoaaDoorCards
import Derived.Test.YtmomjgkbimeeoaaDoorTie
import Derived.Test.YtmomjgkbimeeoaaDoorGvLn
import Derived.Test.YtmomjgkbimeeoaaDoorGvOn
import Derived.ProofKit
import Derived.OpenShut
import Derived.ShutString
import Derived.ChangeOld
import Derived.Below
import Derived.SizedLaws
import Derived.LaidMore
import Derived.Deep.Strs
import Derived.Stop.LaidErr
import Derived.Stop.Joined
import Derived.SevenTiedAt
import Derived.Outline
import Derived.Lay
import Derived.SliceStrings
import Derived.Carry
namespace Go.Proofs.YtmomjgkbimeeoaaDoor.fnPaMergeNone
open Go.ChangeShapes Go.WideShapes Go.ChangeAt Go.RowKit
open Go.ChangeMaps (open_string shut_string)
open Go.Proofs.YtmomjgkbimeeoaaDoor.G Go.Proofs.YtmomjgkbimeeoaaDoorW.PrintWords
set_option linter.unusedVariables false
set_option linter.unusedSimpArgs false

theorem g2 : Tryd.prog.globalNamed "pub-tetrapla/pub/jsonpatch.ErrMissing" = some 2 := by kernel_rfl
theorem t2 : (Tryd.prog.globals[2]?).map (·.type) = some 51 := by kernel_rfl
set_option maxRecDepth 100000 in
theorem of_laid {W : World} (h : laidMetH Tryd.prog Rows.fnPaMergeNoneRow.laid W) : ∃ (T : TypeId) (u : Value), W.cell? ⟨2, 0, none⟩ = some (.iface T u) := by
  rw [MakeChecks.laidMetH_plain _ _ _ (by kernel_rfl)] at h
  obtain ⟨ps, ⟨g0, t0, cs0, f0, p0, q0, hg0, ht0, hv0, hd0, _, e0⟩, _, hrows⟩ := h
  obtain rfl := Option.some.inj (g2.symm.trans hg0)
  obtain rfl := Option.some.inj (t2.symm.trans ht0)
  obtain ⟨l0⟩ := cs0
  have hc : ∀ u v, l0 = [.iface u v] → W.cell? ⟨2, 0, none⟩ = some (.iface u v) := fun u v e => by
    subst e
    have := World.var?_cell hg0 hv0 0
    simpa using this
  cases f0 with
  | zero => simp [DataW.trod] at hd0
  | succ f0 =>
    rcases l0 with _ | ⟨c, _ | ⟨c2, l⟩⟩
    · simp [DataW.trod, Tryd.underlying51] at hd0
    · cases c with
      | iface u v => exact ⟨u, v, hc u v rfl⟩
      | _ => simp [DataW.trod, Tryd.underlying51, Rows.laid_pub_tetrapla_pub_jsonpatch_ErrMissing] at hd0
    · simp [DataW.trod, Tryd.underlying51] at hd0
theorem laidOut : laidOutB Tryd.prog = true := by kernel_rfl
theorem own : ownKnob Tryd.prog.godebug = none := by kernel_rfl
theorem door_met (os : Os) (args : Array Value) : laidMetH Tryd.prog Rows.fnPaMergeNoneRow.laid ((World.laidAll Tryd.prog os Rows.fnPaMergeNoneRow.laid).forCall (fun _ _ => 0) ⟨#[], args, []⟩).memory := by
  rw [MakeChecks.laidMetH_plain _ _ _ (by kernel_rfl)]; exact laidMet_laidAll _ (by kernel_rfl) (by kernel_rfl)
set_option maxRecDepth 100000 in
theorem lifted (os : Os) (started : os.Started) (H : Type) (enc : TypeId × Value → H) :
    ReturnsInHanded {} Tryd.checked os 3 .any (fun w args => (Rows.fnPaMergeNoneSpec.pre enc Tryd.prog Tryd.f3 [] false w args ∧ laidMetH Tryd.prog Rows.fnPaMergeNoneRow.laid w) ∧ sizedMet enc Tryd.prog Tryd.f3 (OpenSpec.ofChange Rows.fnPaMergeNoneSpec) false w args)
      (Rows.fnPaMergeNoneSpec.post enc Tryd.prog Tryd.f3 false true false false) := by
  refine returnsInHanded_of_change_and (C := Tryd.checked) (X := fun w _ => laidMetH Tryd.prog Rows.fnPaMergeNoneRow.laid w) (fun _ _ _ hh h => h.of_heap hh) own started (by kernel_rfl) Tryd.func3
    (ChangeSpec.witness_shaped (enc := enc) (C := Tryd.checked) (os := os) (X := fun w _ => laidMetH Tryd.prog Rows.fnPaMergeNoneRow.laid w) false (World.laidAll Tryd.prog os Rows.fnPaMergeNoneRow.laid) #[.agg #[.int .i64 0, .string ByteArray.empty, .slice none 0 0, .slice none 0 0], .slice none 0 0] 8 (World.laidAll_os _ _ _) (World.shaped_of_ZipB (by kernel_rfl) (by kernel_rfl)) (by kernel_rfl) (by kernel_rfl) (by kernel_rfl) (door_met os _)) ?_
  intro W base args ds gs before hval0 hW _ hsz0 hL _
  have hsz : (DataW.weightsEach Tryd.prog (Tryd.f3.params.toList ++ Rows.fnPaMergeNoneSpec.plain.varTypes Tryd.prog) (ds ++ gs)).all (· ≤ reachBytes) = true := hsz0
  have hval : ∀ (j : Nat) t v, Tryd.f3.params[j]? = some t → args[j]? = some v → Value.okWide Tryd.prog W .any base t v := hval0
  have hW' := hW
  obtain ⟨p, q, hA0, hV, rfl, hfz, hnd⟩ := hW
  have hA : DataW.TrodAll enc Tryd.prog W 0 (fun _ => true) true Tryd.f3.params.toList args.toList ds p := hA0
  rw [Tryd.params3] at hA hval hsz
  obtain ⟨v0, vs0, d0, ds0, p0, q0, hargs, rfl, rfl, h0, r0⟩ := trodAll_cons hA
  obtain ⟨v1, vs1, d1, ds1, p1, q1, rfl, rfl, rfl, h1, r1⟩ := trodAll_cons r0
  obtain ⟨rfl, rfl, rfl⟩ := trodAll_nil r1
  obtain rfl : args = #[v0, v1] := by cases args; simp_all
  obtain ⟨rfl, rfl⟩ := trodVars_none hV
  have h0k := h0
  obtain ⟨fuel0, hf0⟩ := h0
  have hw0 : ∀ m ∈ d0.weights Tryd.prog 25, m ≤ reachBytes := fun m hm => by
    have := List.all_eq_true.1 hsz _ (DataW.weights_mem_each (j := 0) (t := 25) rfl rfl m hm)
    simpa using this
  have hlt0 : ∀ x ∈ p0, x.block < W.heap.size := fun x hx => by
    have := hW'.lt x (by simp [hx])
    simpa using this
  obtain ⟨nd, hnd0, hro⟩ := open_nd fuel0 _ _ hf0 hw0
  obtain ⟨k, t, kA, kn, kc, nA, nn, nc, hcs⟩ := hnd0.form
  obtain rfl : v0 = .agg #[.int .i64 k, .string t, .slice kA kn kc, .slice nA nn nc] := by
    cases v0 with
    | agg cs =>
      obtain ⟨l⟩ := cs
      have : l = [.int .i64 k, .string t, .slice kA kn kc, .slice nA nn nc] := hcs
      rw [this]
    | _ => have := congrArg List.length hcs; simp [Value.cells] at this
  have h1k := h1
  obtain ⟨fuel1, hf1⟩ := h1
  have hw1 : ∀ m ∈ d1.weights Tryd.prog 22, m ≤ reachBytes := fun m hm => by
    have := List.all_eq_true.1 hsz _ (DataW.weights_mem_each (j := 1) (t := 22) rfl rfl m hm)
    simpa using this
  have hlt1 : ∀ x ∈ p1, x.block < W.heap.size := fun x hx => by
    have := hW'.lt x (by simp [hx])
    simpa using this
  obtain ⟨names, sA, sc, hcs1, _, hn16, hnz, hst⟩ := open_strs hf1 hw1
  obtain rfl : v1 = .slice sA names.length sc := by
    cases v1 with
    | agg cs =>
      exfalso
      have := hval 1 22 (.agg cs) rfl rfl
      obtain ⟨A2, n2, c2, e⟩ := okWide_slice Tryd.underlying22 this
      cases e
    | slice a b c => simp [Value.cells] at hcs1; simp_all
    | _ => simp [Value.cells] at hcs1
  have fin : ∀ W' : World, Below W.heap.size W W' → Rows.fnPaMergeNoneSpec.post enc Tryd.prog Tryd.f3 false true false false W #[.agg #[.int .i64 k, .string t, .slice kA kn kc, .slice nA nn nc], .slice sA names.length sc] (.bool true) W' := fun W' bel =>
    ⟨_, _, _, [], _, [], hW', trodAll_mk1 (shut_bool Tryd.underlying4 _), (trodAll_cons_mk (Below.trod laidOut (by kernel_rfl) (of_decide_eq_true (by kernel_rfl)) h0k bel hlt0) (trodAll_cons_mk (Below.trod laidOut (by kernel_rfl) (of_decide_eq_true (by kernel_rfl)) h1k bel hlt1) trodAll_mk0)), rfl, bel.frame _, fun h => by cases h⟩
  obtain ⟨T, u, hG⟩ := of_laid hL
  clear hA0 hval0 hsz0 hsz
  have hnd1 : NdAt W (fun _ => True) nd [.int .i64 k, .string t, .slice kA kn kc, .slice nA nn nc] := by rw [← hcs]; exact hnd0
  refine (mergeNone_walk nd hro names (by omega) hnz k t kA kn kc nA nn nc sA sc T u W hnd1 hst hG (World.block_lt_of_cell? W _ hG)).mono fun e W' ⟨he, bel⟩ => ?_
  subst he
  exact ⟨_, rfl, fin W' bel⟩
theorem row_holds : Rows.FnPaMergeNoneSaid :=
  OpenClaim.holds_of_wide 3 Tryd.f3 rfl rfl rfl rfl rfl rfl rfl ⟨rfl, rfl, rfl, rfl, rfl⟩ rfl rfl rfl rfl rfl (by kernel_rfl) Tryd.func3 (by kernel_rfl)
    (of_decide_eq_true (by kernel_rfl)) (by unfold Func.isWrapper; first | (rw [if_pos (by decide +kernel)]; kernel_rfl) | (rw [if_neg (by decide +kernel)]; exact ⟨rfl, rfl⟩))
    (fun os started H enc _ => lifted os started H enc)
theorem proved : Rows.FnPaMergeNoneCardSaid :=
  Claim7.holds_tied_plain_at .later [] [.sentinel, .sentinel, .sentinel] true (true, "18c50782a7e05e0b4eecaafedee2c8878f7975c80b0dc66c4daf163ff9587410") true
    row_holds (fun _ h => by cases h) (by kernel_rfl) (fun _ h => by cases h) fnPaMergeNone_row_tie rfl ⟨rfl, rfl⟩ (by kernel_rfl) rfl
    (fun f fn hf hfn => by
      obtain rfl : f = 3 := Option.some.inj ((show Tryd.prog.funcNamed "pub-tetrapla/laws.FnPaMergeNone" = some 3 by kernel_rfl).symm.trans hf) |>.symm
      obtain rfl : fn = Tryd.f3 := (Option.some.inj (Tryd.func3.symm.trans hfn)).symm
      exact ⟨by kernel_rfl, fun j t ht => by
        rw [Tryd.params3] at ht
        have hm : t ∈ [25, 22] := by simpa using Array.mem_of_getElem? ht
        have hall : ([25, 22].all fun u => !Tryd.prog.wantsStandIn u) = true := by kernel_rfl
        exact (show Tryd.prog.wantsStandIn t = false by simpa using List.all_eq_true.1 hall t hm)⟩)
    (by kernel_rfl)
#print axioms proved
end Go.Proofs.YtmomjgkbimeeoaaDoor.fnPaMergeNone
namespace Go.Proofs.YtmomjgkbimeeoaaDoor
/-- The card, under a short name, for the claim. -/
theorem fnPaMergeNone_holds : Rows.FnPaMergeNoneCardSaid := fnPaMergeNone.proved
end Go.Proofs.YtmomjgkbimeeoaaDoor
