/- If two texts are made of what two patterns say, the patterns one behind the other match the texts one behind the other: every input that the statement lets in. -/
import Derived.Test.YtiecdhkmlpceoaaDoorRows
import Derived.Test.YtiecdhkmlpceoaaDoorCards
import Derived.Test.YtiecdhkmlpceoaaDoorTie
import Derived.Test.YtiecdhkmlpceoaaDoorGvI
import Derived.WalkKit
import Derived.WalkSpells
import Derived.WalkLawsBesides
import Derived.Deep.RegionWith
import Derived.ProofKit
import Derived.OpenShut
import Derived.ShutString
import Derived.ChangeOld
import Derived.Below
import Derived.SizedLaws
import Derived.LaidMore
import Derived.Stop.LaidErr
import Derived.Stop.Joined
import Derived.SevenTiedAt
import Derived.Outline
import Derived.Lib.LaidU8T
import Derived.Lay
namespace Go.Proofs.YtiecdhkmlpceoaaDoor.fnMtJoin
open Go.ChangeShapes Go.WideShapes Go.ChangeAt Go.RowKit
open Go.ChangeMaps (open_string shut_string)
open Go.Proofs.YtiecdhkmlpceoaaDoor.G Go.Proofs.YtiecdhkmlpceoaaDoorW.PrintWords
set_option linter.unusedVariables false
set_option linter.unusedSimpArgs false

set_option maxHeartbeats 4000000 in
set_option maxRecDepth 100000 in
theorem walk (s p t q : ByteArray) (w : World) (hT : Lib.Utf8Tabs 2 3 w) (hs : s.size ≤ 140737488351232) (hp : p.size ≤ 140737488351232) (ht : t.size ≤ 140737488351232) (hq : q.size ≤ 140737488351232) : Calls Tryd.prog 4 #[.string s, .string p, .string t, .string q] w fun e w' => e = .returned (.bool true) ∧ Below w.heap.size w w' := by
  have C := Aside0.mk (fun W => told_calls s p W (by omega) (by omega))
  have D := Aside0.mk (fun W => told_calls t q W (by omega) (by omega))
  have HT := Aside0.mk hT
  clear hT
  by_cases h1 : 2147483647 < s.size ∨ 2147483647 < p.size ∨ 2147483647 < t.size ∨ 2147483647 < q.size
  · rcases Nat.lt_or_ge 2147483647 s.size with g1 | g1 <;> rcases Nat.lt_or_ge 2147483647 p.size with g2 | g2 <;> rcases Nat.lt_or_ge 2147483647 t.size with g3 | g3 <;> rcases Nat.lt_or_ge 2147483647 q.size with g4 | g4
    all_goals first
      | (exfalso; omega)
      | (clear h1
         go_enter Tryd.func4, Tryd.ntmps4
         go_wp2_with fail
         all_goals go_ret
         all_goals exact ⟨rfl, Below.refl _ _⟩)
  · have g1 : s.size ≤ 2147483647 := by omega
    have g2 : p.size ≤ 2147483647 := by omega
    have g3 : t.size ≤ 2147483647 := by omega
    have g4 : q.size ≤ 2147483647 := by omega
    clear h1
    go_enter Tryd.func4, Tryd.ntmps4
    go_upto_region 4 with (go_at_call 11; refine (C.out _).mono ?_; rintro e w1 ⟨b, ok, rfl, H, hb⟩)
    go_upto_region 5 with (go_at_call 11; refine (D.out _).mono ?_; rintro e w2 ⟨b2, ok2, rfl, H2, hb2⟩)
    clear C D
    cases ok <;> cases ok2 <;> cases b <;> cases b2
    all_goals first
      | (obtain ⟨⟨cs, ts, a1, a2, a3, a4, a5⟩, -, -⟩ := H.out rfl
         obtain ⟨⟨ds, us, e1, e2, e3, e4, e5⟩, -, -⟩ := H2.out rfl
         have f1 := a5.1 rfl
         have f2 := e5.1 rfl
         have hc : OkC (cs ++ ds) := fun q hq => (List.mem_append.1 hq).elim (a1 q) (e1 q)
         have ht' : OkT (ts ++ us) := fun q hq => (List.mem_append.1 hq).elim (a2 q) (e2 q)
         have M := Aside0.mk (mt_calls (s ++ t) (p ++ q) (cs ++ ds) (ts ++ us) w2 (Utf8Tabs_below (Utf8Tabs_below HT.out hb) hb2) (by rw [ByteArray.data_append, Array.toList_append, a3, e3, List.flatten_append]) (by rw [ByteArray.data_append, Array.toList_append, a4, e4, rend_append]) hc ht' (by rw [ByteArray.size_append]; omega) (by rw [ByteArray.size_append]; omega))
         have A := Aside0.mk (fit_append.2 ⟨cs, ds, rfl, f1, f2⟩)
         have z1 : (s ++ t).size ≤ 9223372036854775807 := by rw [ByteArray.size_append]; omega
         have z2 : (p ++ q).size ≤ 9223372036854775807 := by rw [ByteArray.size_append]; omega
         clear a1 a2 a3 a4 a5 e1 e2 e3 e4 e5 H H2 f1 f2 hc ht'
         go_wp2_with (go_at_call 12; refine M.out.mono ?_; rintro e w3 ⟨b3, rfl, H3, hb3⟩)
         all_goals go_ret
         all_goals (refine ⟨?_, two_below (two_below hb hb2) hb3⟩)
         all_goals (have e : b3 = true := H3.out.2 A.out; subst e; simp))
      | (go_wp2_with fail
         all_goals go_ret
         all_goals exact ⟨rfl, two_below hb hb2⟩)
theorem g2n : Tryd.prog.globalNamed "unicode/utf8.first" = some 2 := by kernel_rfl
theorem g3n : Tryd.prog.globalNamed "unicode/utf8.acceptRanges" = some 3 := by kernel_rfl
theorem extra8 : U8Extra Tryd.prog Tryd.lays197_ren := {
  n3 := g2n
  n4 := g3n
  y3 := by kernel_rfl
  y4 := by kernel_rfl
  c5 := by kernel_rfl
  c119 := by kernel_rfl
  c138 := by kernel_rfl }
theorem types8 : U8Types Tryd.prog Tryd.lays197_ren := {
  t5 := Tryd.underlying5
  t119 := Tryd.underlying118
  t138 := Tryd.underlying120
  t139 := Tryd.underlying121 }
theorem first_same : Rows.laid_unicode_utf8_first = Go.Lib.firstData := by kernel_rfl
theorem accept_same : (Rows.laid_unicode_utf8_acceptRanges : DataW Unit) = Go.Lib.acceptData := by kernel_rfl
theorem of_laid {W : World} (h : laidMetH Tryd.prog Rows.fnMtJoinRow.laid W) : Lib.Utf8Tabs 2 3 W := by
  rw [MakeChecks.laidMetH_plain _ _ _ (by kernel_rfl)] at h
  have h4 := Go.Lib.laidMet.reads h (n := "unicode/utf8.acceptRanges") (d := Rows.laid_unicode_utf8_acceptRanges) (List.mem_cons_self ..)
  have h3 := Go.Lib.laidMet.reads h (n := "unicode/utf8.first") (d := Rows.laid_unicode_utf8_first) (List.mem_cons_of_mem _ (List.mem_cons_self ..))
  rw [first_same] at h3
  rw [accept_same] at h4
  exact utf8Tabs_of_readsT types8 extra8 h3 h4
theorem own : ownKnob Tryd.prog.godebug = none := by kernel_rfl
theorem door_met (os : Os) (args : Array Value) : laidMetH Tryd.prog Rows.fnMtJoinRow.laid ((World.laidAll Tryd.prog os Rows.fnMtJoinRow.laid).forCall (fun _ _ => 0) ⟨#[], args, []⟩).memory := by
  rw [MakeChecks.laidMetH_plain _ _ _ (by kernel_rfl)]; exact laidMet_laidAll _ (by kernel_rfl) (by kernel_rfl)
set_option maxRecDepth 100000 in
theorem lifted (os : Os) (started : os.Started) (H : Type) (enc : TypeId × Value → H) :
    ReturnsInHanded {} Tryd.checked os 4 .any (fun w args => (Rows.fnMtJoinSpec.pre enc Tryd.prog Tryd.f4 [] false w args ∧ laidMetH Tryd.prog Rows.fnMtJoinRow.laid w) ∧ sizedMet enc Tryd.prog Tryd.f4 (OpenSpec.ofChange Rows.fnMtJoinSpec) false w args)
      (Rows.fnMtJoinSpec.post enc Tryd.prog Tryd.f4 false true false false) := by
  refine returnsInHanded_of_change_and (C := Tryd.checked) (X := fun w _ => laidMetH Tryd.prog Rows.fnMtJoinRow.laid w) (fun _ _ _ hh h => h.of_heap hh) own started (by kernel_rfl) Tryd.func4
    (ChangeSpec.witness_shaped (enc := enc) (C := Tryd.checked) (os := os) (X := fun w _ => laidMetH Tryd.prog Rows.fnMtJoinRow.laid w) false (World.laidAll Tryd.prog os Rows.fnMtJoinRow.laid) #[.string ByteArray.empty, .string ByteArray.empty, .string ByteArray.empty, .string ByteArray.empty] 8 (World.laidAll_os _ _ _) (World.shaped_of_ZipB (by kernel_rfl) (by kernel_rfl)) (by kernel_rfl) (by kernel_rfl) (by kernel_rfl) (door_met os _)) ?_
  intro W base args ds gs before hval0 hW _ hsz0 hL _
  have hsz : (DataW.weightsEach Tryd.prog (Tryd.f4.params.toList ++ Rows.fnMtJoinSpec.plain.varTypes Tryd.prog) (ds ++ gs)).all (· ≤ reachBytes) = true := hsz0
  have hval : ∀ (j : Nat) t v, Tryd.f4.params[j]? = some t → args[j]? = some v → Value.okWide Tryd.prog W .any base t v := hval0
  have hW' := hW
  obtain ⟨p, q, hA0, hV, rfl, hfz, hnd⟩ := hW
  have hA : DataW.TrodAll enc Tryd.prog W 0 (fun _ => true) true Tryd.f4.params.toList args.toList ds p := hA0
  rw [Tryd.params4] at hA hval hsz
  obtain ⟨v0, vs0, d0, ds0, p0, q0, hargs, rfl, rfl, h0, r0⟩ := trodAll_cons hA
  obtain ⟨v1, vs1, d1, ds1, p1, q1, rfl, rfl, rfl, h1, r1⟩ := trodAll_cons r0
  obtain ⟨v2, vs2, d2, ds2, p2, q2, rfl, rfl, rfl, h2, r2⟩ := trodAll_cons r1
  obtain ⟨v3, vs3, d3, ds3, p3, q3, rfl, rfl, rfl, h3, r3⟩ := trodAll_cons r2
  obtain ⟨rfl, rfl, rfl⟩ := trodAll_nil r3
  obtain rfl : args = #[v0, v1, v2, v3] := by cases args; simp_all
  obtain ⟨rfl, rfl⟩ := trodVars_none hV
  obtain ⟨a0, rfl, rfl, rfl, y0⟩ := open_string Tryd.underlying9 (hval 0 9 v0 rfl rfl) h0
  have w0 : a0.size ≤ 140737488351232 := by
    have z := sized_string hsz (j := 0) (t := 9) rfl rfl
    rw [Array.length_toList] at z
    exact z
  obtain ⟨a1, rfl, rfl, rfl, y1⟩ := open_string Tryd.underlying9 (hval 1 9 v1 rfl rfl) h1
  have w1 : a1.size ≤ 140737488351232 := by
    have z := sized_string hsz (j := 1) (t := 9) rfl rfl
    rw [Array.length_toList] at z
    exact z
  obtain ⟨a2, rfl, rfl, rfl, y2⟩ := open_string Tryd.underlying9 (hval 2 9 v2 rfl rfl) h2
  have w2 : a2.size ≤ 140737488351232 := by
    have z := sized_string hsz (j := 2) (t := 9) rfl rfl
    rw [Array.length_toList] at z
    exact z
  obtain ⟨a3, rfl, rfl, rfl, y3⟩ := open_string Tryd.underlying9 (hval 3 9 v3 rfl rfl) h3
  have w3 : a3.size ≤ 140737488351232 := by
    have z := sized_string hsz (j := 3) (t := 9) rfl rfl
    rw [Array.length_toList] at z
    exact z
  clear hA0 hval0 hsz0 hsz
  refine (walk a0 a1 a2 a3 W (of_laid hL) w0 w1 w2 w3).mono fun e W' ⟨he, bel⟩ => ?_
  subst he
  exact ⟨_, rfl, _, _, _, [], _, [], hW', trodAll_mk1 (shut_bool Tryd.underlying4 _), (trodAll_cons_mk (shut_string Tryd.underlying9 y0) (trodAll_cons_mk (shut_string Tryd.underlying9 y1) (trodAll_cons_mk (shut_string Tryd.underlying9 y2) (trodAll_cons_mk (shut_string Tryd.underlying9 y3) trodAll_mk0)))), rfl, bel.frame _, fun h => by cases h⟩
theorem row_holds : Rows.FnMtJoinSaid :=
  OpenClaim.holds_of_wide 4 Tryd.f4 rfl rfl rfl rfl rfl rfl rfl ⟨rfl, rfl, rfl, rfl, rfl⟩ rfl rfl rfl rfl rfl (by kernel_rfl) Tryd.func4 (by kernel_rfl)
    (of_decide_eq_true (by kernel_rfl)) (by unfold Func.isWrapper; first | (rw [if_pos (by decide +kernel)]; kernel_rfl) | (rw [if_neg (by decide +kernel)]; exact ⟨rfl, rfl⟩))
    (fun os started H enc _ => lifted os started H enc)
theorem proved : Rows.FnMtJoinCardSaid :=
  Claim7.holds_tied_plain_at .later [] [.data, .pinned] true (true, "0510b7cc6bf346a45046d9189d8605a1957a7349475b1015bc5e67b50c08173d") true
    row_holds (fun _ h => by cases h) (by kernel_rfl) (fun _ h => by cases h) fnMtJoin_row_tie rfl ⟨rfl, rfl⟩ (by kernel_rfl) rfl
    (fun f fn hf hfn => by
      obtain rfl : f = 4 := Option.some.inj ((show Tryd.prog.funcNamed "pub-tetrapla/laws.FnMtJoin" = some 4 by kernel_rfl).symm.trans hf) |>.symm
      obtain rfl : fn = Tryd.f4 := (Option.some.inj (Tryd.func4.symm.trans hfn)).symm
      exact ⟨by kernel_rfl, fun j t ht => by
        rw [Tryd.params4] at ht
        have hm : t ∈ [9, 9, 9, 9] := by simpa using Array.mem_of_getElem? ht
        have hall : ([9, 9, 9, 9].all fun u => !Tryd.prog.wantsStandIn u) = true := by kernel_rfl
        exact (show Tryd.prog.wantsStandIn t = false by simpa using List.all_eq_true.1 hall t hm)⟩)
    (by kernel_rfl)
#print axioms proved
end Go.Proofs.YtiecdhkmlpceoaaDoor.fnMtJoin
namespace Go.Proofs.YtiecdhkmlpceoaaDoor
/-- The card, under a short name, for the claim. -/
theorem fnMtJoin_holds : Rows.FnMtJoinCardSaid := fnMtJoin.proved
end Go.Proofs.YtiecdhkmlpceoaaDoor
