/- Match reports whether a text is made of what the terms of the pattern say, one behind another: every text and pattern that the statement lets in. -/
import Derived.Test.YtiecdhkmlpceoaaDoorRows
import Derived.Test.YtiecdhkmlpceoaaDoorCards
import Derived.Test.YtiecdhkmlpceoaaDoorTie
import Derived.Test.YtiecdhkmlpceoaaDoorGvI
import Derived.WalkKit
import Derived.WalkSpells
import Derived.WalkLawsBesides
import Derived.Deep.RegionWith
import Derived.ProofKit
import Derived.OpenShut
import Derived.ShutString
import Derived.ChangeOld
import Derived.Below
import Derived.SizedLaws
import Derived.LaidMore
import Derived.Stop.LaidErr
import Derived.Stop.Joined
import Derived.SevenTiedAt
import Derived.Outline
import Derived.Lib.LaidU8T
import Derived.Lay
namespace Go.Proofs.YtiecdhkmlpceoaaDoor.fnMtMatch
open Go.ChangeShapes Go.WideShapes Go.ChangeAt Go.RowKit
open Go.ChangeMaps (open_string shut_string)
open Go.Proofs.YtiecdhkmlpceoaaDoor.G Go.Proofs.YtiecdhkmlpceoaaDoorW.PrintWords
set_option linter.unusedVariables false
set_option linter.unusedSimpArgs false

set_option maxHeartbeats 4000000 in
set_option maxRecDepth 100000 in
theorem walk (s p : ByteArray) (w : World) (hT : Lib.Utf8Tabs 2 3 w) (hs : s.size ≤ 140737488351232) (hp : p.size ≤ 140737488351232) : Calls Tryd.prog 5 #[.string s, .string p] w fun e w' => e = .returned (.bool true) ∧ Below w.heap.size w w' := by
  have C := Aside0.mk (told_calls s p w (by omega) (by omega))
  have HT := Aside0.mk hT
  clear hT
  by_cases h1 : 2147483647 < s.size
  · go_enter Tryd.func5, Tryd.ntmps5
    go_wp2_with fail
    all_goals go_ret
    all_goals exact ⟨rfl, Below.refl _ _⟩
  · by_cases h2 : 2147483647 < p.size
    · go_enter Tryd.func5, Tryd.ntmps5
      go_wp2_with fail
      all_goals go_ret
      all_goals exact ⟨rfl, Below.refl _ _⟩
    · go_enter Tryd.func5, Tryd.ntmps5
      go_upto_region 4 with (go_at_call 11; refine C.out.mono ?_; rintro e w1 ⟨b, ok, rfl, H, hb⟩)
      cases ok
      · go_wp2_with fail
        all_goals go_ret
        all_goals exact ⟨rfl, hb⟩
      · obtain ⟨⟨cs, ts, a1, a2, a3, a4, a5⟩, -, -⟩ := H.out rfl
        have M := Aside0.mk (mt_calls s p cs ts w1 (Utf8Tabs_below HT.out hb) a3 a4 a1 a2 hs hp)
        have A := Aside0.mk a5
        clear a1 a2 a3 a4 a5 H C
        go_wp2_with (go_at_call 12; refine M.out.mono ?_; rintro e w2 ⟨b2, rfl, H2, hb2⟩)
        all_goals go_ret
        all_goals (refine ⟨?_, two_below hb hb2⟩)
        all_goals (have e : b2 = b := bool_ext (H2.out.trans A.out.symm); subst e; simp)
theorem g2n : Tryd.prog.globalNamed "unicode/utf8.first" = some 2 := by kernel_rfl
theorem g3n : Tryd.prog.globalNamed "unicode/utf8.acceptRanges" = some 3 := by kernel_rfl
theorem extra8 : U8Extra Tryd.prog Tryd.lays197_ren := {
  n3 := g2n
  n4 := g3n
  y3 := by kernel_rfl
  y4 := by kernel_rfl
  c5 := by kernel_rfl
  c119 := by kernel_rfl
  c138 := by kernel_rfl }
theorem types8 : U8Types Tryd.prog Tryd.lays197_ren := {
  t5 := Tryd.underlying5
  t119 := Tryd.underlying118
  t138 := Tryd.underlying120
  t139 := Tryd.underlying121 }
theorem first_same : Rows.laid_unicode_utf8_first = Go.Lib.firstData := by kernel_rfl
theorem accept_same : (Rows.laid_unicode_utf8_acceptRanges : DataW Unit) = Go.Lib.acceptData := by kernel_rfl
theorem of_laid {W : World} (h : laidMetH Tryd.prog Rows.fnMtMatchRow.laid W) : Lib.Utf8Tabs 2 3 W := by
  rw [MakeChecks.laidMetH_plain _ _ _ (by kernel_rfl)] at h
  have h4 := Go.Lib.laidMet.reads h (n := "unicode/utf8.acceptRanges") (d := Rows.laid_unicode_utf8_acceptRanges) (List.mem_cons_self ..)
  have h3 := Go.Lib.laidMet.reads h (n := "unicode/utf8.first") (d := Rows.laid_unicode_utf8_first) (List.mem_cons_of_mem _ (List.mem_cons_self ..))
  rw [first_same] at h3
  rw [accept_same] at h4
  exact utf8Tabs_of_readsT types8 extra8 h3 h4
theorem own : ownKnob Tryd.prog.godebug = none := by kernel_rfl
theorem door_met (os : Os) (args : Array Value) : laidMetH Tryd.prog Rows.fnMtMatchRow.laid ((World.laidAll Tryd.prog os Rows.fnMtMatchRow.laid).forCall (fun _ _ => 0) ⟨#[], args, []⟩).memory := by
  rw [MakeChecks.laidMetH_plain _ _ _ (by kernel_rfl)]; exact laidMet_laidAll _ (by kernel_rfl) (by kernel_rfl)
set_option maxRecDepth 100000 in
theorem lifted (os : Os) (started : os.Started) (H : Type) (enc : TypeId × Value → H) :
    ReturnsInHanded {} Tryd.checked os 5 .any (fun w args => (Rows.fnMtMatchSpec.pre enc Tryd.prog Tryd.f5 [] false w args ∧ laidMetH Tryd.prog Rows.fnMtMatchRow.laid w) ∧ sizedMet enc Tryd.prog Tryd.f5 (OpenSpec.ofChange Rows.fnMtMatchSpec) false w args)
      (Rows.fnMtMatchSpec.post enc Tryd.prog Tryd.f5 false true false false) := by
  refine returnsInHanded_of_change_and (C := Tryd.checked) (X := fun w _ => laidMetH Tryd.prog Rows.fnMtMatchRow.laid w) (fun _ _ _ hh h => h.of_heap hh) own started (by kernel_rfl) Tryd.func5
    (ChangeSpec.witness_shaped (enc := enc) (C := Tryd.checked) (os := os) (X := fun w _ => laidMetH Tryd.prog Rows.fnMtMatchRow.laid w) false (World.laidAll Tryd.prog os Rows.fnMtMatchRow.laid) #[.string ByteArray.empty, .string ByteArray.empty] 8 (World.laidAll_os _ _ _) (World.shaped_of_ZipB (by kernel_rfl) (by kernel_rfl)) (by kernel_rfl) (by kernel_rfl) (by kernel_rfl) (door_met os _)) ?_
  intro W base args ds gs before hval0 hW _ hsz0 hL _
  have hsz : (DataW.weightsEach Tryd.prog (Tryd.f5.params.toList ++ Rows.fnMtMatchSpec.plain.varTypes Tryd.prog) (ds ++ gs)).all (· ≤ reachBytes) = true := hsz0
  have hval : ∀ (j : Nat) t v, Tryd.f5.params[j]? = some t → args[j]? = some v → Value.okWide Tryd.prog W .any base t v := hval0
  have hW' := hW
  obtain ⟨p, q, hA0, hV, rfl, hfz, hnd⟩ := hW
  have hA : DataW.TrodAll enc Tryd.prog W 0 (fun _ => true) true Tryd.f5.params.toList args.toList ds p := hA0
  rw [Tryd.params5] at hA hval hsz
  obtain ⟨v0, vs0, d0, ds0, p0, q0, hargs, rfl, rfl, h0, r0⟩ := trodAll_cons hA
  obtain ⟨v1, vs1, d1, ds1, p1, q1, rfl, rfl, rfl, h1, r1⟩ := trodAll_cons r0
  obtain ⟨rfl, rfl, rfl⟩ := trodAll_nil r1
  obtain rfl : args = #[v0, v1] := by cases args; simp_all
  obtain ⟨rfl, rfl⟩ := trodVars_none hV
  obtain ⟨a0, rfl, rfl, rfl, y0⟩ := open_string Tryd.underlying9 (hval 0 9 v0 rfl rfl) h0
  have w0 : a0.size ≤ 140737488351232 := by
    have z := sized_string hsz (j := 0) (t := 9) rfl rfl
    rw [Array.length_toList] at z
    exact z
  obtain ⟨a1, rfl, rfl, rfl, y1⟩ := open_string Tryd.underlying9 (hval 1 9 v1 rfl rfl) h1
  have w1 : a1.size ≤ 140737488351232 := by
    have z := sized_string hsz (j := 1) (t := 9) rfl rfl
    rw [Array.length_toList] at z
    exact z
  clear hA0 hval0 hsz0 hsz
  refine (walk a0 a1 W (of_laid hL) w0 w1).mono fun e W' ⟨he, bel⟩ => ?_
  subst he
  exact ⟨_, rfl, _, _, _, [], _, [], hW', trodAll_mk1 (shut_bool Tryd.underlying4 _), (trodAll_cons_mk (shut_string Tryd.underlying9 y0) (trodAll_cons_mk (shut_string Tryd.underlying9 y1) trodAll_mk0)), rfl, bel.frame _, fun h => by cases h⟩
theorem row_holds : Rows.FnMtMatchSaid :=
  OpenClaim.holds_of_wide 5 Tryd.f5 rfl rfl rfl rfl rfl rfl rfl ⟨rfl, rfl, rfl, rfl, rfl⟩ rfl rfl rfl rfl rfl (by kernel_rfl) Tryd.func5 (by kernel_rfl)
    (of_decide_eq_true (by kernel_rfl)) (by unfold Func.isWrapper; first | (rw [if_pos (by decide +kernel)]; kernel_rfl) | (rw [if_neg (by decide +kernel)]; exact ⟨rfl, rfl⟩))
    (fun os started H enc _ => lifted os started H enc)
theorem proved : Rows.FnMtMatchCardSaid :=
  Claim7.holds_tied_plain_at .later [] [.data, .pinned] true (true, "0510b7cc6bf346a45046d9189d8605a1957a7349475b1015bc5e67b50c08173d") true
    row_holds (fun _ h => by cases h) (by kernel_rfl) (fun _ h => by cases h) fnMtMatch_row_tie rfl ⟨rfl, rfl⟩ (by kernel_rfl) rfl
    (fun f fn hf hfn => by
      obtain rfl : f = 5 := Option.some.inj ((show Tryd.prog.funcNamed "pub-tetrapla/laws.FnMtMatch" = some 5 by kernel_rfl).symm.trans hf) |>.symm
      obtain rfl : fn = Tryd.f5 := (Option.some.inj (Tryd.func5.symm.trans hfn)).symm
      exact ⟨by kernel_rfl, fun j t ht => by
        rw [Tryd.params5] at ht
        have hm : t ∈ [9, 9] := by simpa using Array.mem_of_getElem? ht
        have hall : ([9, 9].all fun u => !Tryd.prog.wantsStandIn u) = true := by kernel_rfl
        exact (show Tryd.prog.wantsStandIn t = false by simpa using List.all_eq_true.1 hall t hm)⟩)
    (by kernel_rfl)
#print axioms proved
end Go.Proofs.YtiecdhkmlpceoaaDoor.fnMtMatch
namespace Go.Proofs.YtiecdhkmlpceoaaDoor
/-- The card, under a short name, for the claim. -/
theorem fnMtMatch_holds : Rows.FnMtMatchCardSaid := fnMtMatch.proved
end Go.Proofs.YtiecdhkmlpceoaaDoor
