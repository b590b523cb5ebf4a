/- '[', texts with commas between, and ']' are a JSON text if each of the texts is one, and the same as members of an object: every list of texts and every name that the statement lets in. -/
import Derived.Test.YtiecdhkmlpceoaaDoorRows
import Derived.Test.YtiecdhkmlpceoaaDoorCards
import Derived.Test.YtiecdhkmlpceoaaDoorTie
import Derived.Test.YtiecdhkmlpceoaaDoorGsK
import Derived.WalkKit
import Derived.WalkSpells
import Derived.WalkLawsBesides
import Derived.Deep.RegionWith
import Derived.ProofKit
import Derived.OpenShut
import Derived.ShutString
import Derived.ChangeOld
import Derived.Below
import Derived.SizedLaws
import Derived.LaidMore
import Derived.Stop.LaidErr
import Derived.Stop.Joined
import Derived.SevenTiedAt
import Derived.Outline
import Derived.Lib.LaidU8T
import Derived.Lay
import Derived.SliceStrings
import Derived.Carry
namespace Go.Proofs.YtiecdhkmlpceoaaDoor.fnGjValidJoin
open Go.ChangeShapes Go.WideShapes Go.ChangeAt Go.RowKit
open Go.ChangeMaps (open_string shut_string)
open Go.Proofs.YtiecdhkmlpceoaaDoor.G Go.Proofs.YtiecdhkmlpceoaaDoorW.PrintWords
set_option linter.unusedVariables false
set_option linter.unusedSimpArgs false

theorem g2n : Tryd.prog.globalNamed "unicode/utf8.first" = some 2 := by kernel_rfl
theorem g3n : Tryd.prog.globalNamed "unicode/utf8.acceptRanges" = some 3 := by kernel_rfl
theorem extra8 : U8Extra Tryd.prog Tryd.lays197_ren := {
  n3 := g2n
  n4 := g3n
  y3 := by kernel_rfl
  y4 := by kernel_rfl
  c5 := by kernel_rfl
  c119 := by kernel_rfl
  c138 := by kernel_rfl }
theorem types8 : U8Types Tryd.prog Tryd.lays197_ren := {
  t5 := Tryd.underlying5
  t119 := Tryd.underlying118
  t138 := Tryd.underlying120
  t139 := Tryd.underlying121 }
theorem first_same : Rows.laid_unicode_utf8_first = Go.Lib.firstData := by kernel_rfl
theorem accept_same : (Rows.laid_unicode_utf8_acceptRanges : DataW Unit) = Go.Lib.acceptData := by kernel_rfl
theorem g0n : Tryd.prog.globalNamed "pub-tetrapla/pub/gjson.hexchars" = some 0 := by kernel_rfl
theorem y0n : (Tryd.prog.globals[0]?).map (·.type) = some 87 := by kernel_rfl
theorem c5n : Tryd.prog.cellsOf 5 = 1 := by kernel_rfl
theorem hex_at {H : Type} (i : Nat) (h : i < 16) : (match (Rows.laid_pub_tetrapla_pub_gjson_hexchars : DataW H) with | .agg ds => ds[i]? | _ => none) = some (.lit (.int .u8 (hexd i))) := by
  have : i = 0 ∨ i = 1 ∨ i = 2 ∨ i = 3 ∨ i = 4 ∨ i = 5 ∨ i = 6 ∨ i = 7 ∨ i = 8 ∨ i = 9 ∨ i = 10 ∨ i = 11 ∨ i = 12 ∨ i = 13 ∨ i = 14 ∨ i = 15 := by omega
  rcases this with rfl | rfl | rfl | rfl | rfl | rfl | rfl | rfl | rfl | rfl | rfl | rfl | rfl | rfl | rfl | rfl <;> rfl
set_option maxRecDepth 100000 in
theorem hex_of {W : World} (h : Go.Lib.VarReads Tryd.prog W "pub-tetrapla/pub/gjson.hexchars" Rows.laid_pub_tetrapla_pub_gjson_hexchars) : HexT W := by
  obtain ⟨g, t, cs, fuel, p, h1, h2, h3, h4⟩ := h
  obtain rfl := Option.some.inj (g0n.symm.trans h1)
  obtain rfl := Option.some.inj (y0n.symm.trans h2)
  have cell := fun i => World.var?_cell g0n h3 i
  have all : ∀ j, j < 16 → W.cell? ⟨0, j, none⟩ = some (.int .u8 (hexd j)) := by
    intro j hj
    unfold Rows.laid_pub_tetrapla_pub_gjson_hexchars at h4
    obtain ⟨fu, d, q, hd, ht⟩ := Go.Lib.array_elem Tryd.underlying87 h4 j hj
    have hx := hex_at (H := Unit) j hj
    unfold Rows.laid_pub_tetrapla_pub_gjson_hexchars at hx
    simp only [] at hx
    rw [hx] at hd
    cases hd
    obtain ⟨z, hz, e, _⟩ := DataW.trod_int Tryd.underlying5 ht
    have e3 : hexd j = z := by simp at e; exact e.1
    rw [c5n, Nat.mul_one] at hz
    have h0 : (cs.toList.drop j)[0]? = some (.int .u8 z) := by
      have := congrArg (·[0]?) hz
      simpa [List.getElem?_take] using this
    rw [cell j, ← Array.getElem?_toList]
    rw [List.getElem?_drop, Nat.add_zero] at h0
    rw [h0, ← e3]
  exact ⟨World.block_lt_of_cell? W _ (all 0 (by decide)), all⟩
theorem of_laid {W : World} (h : laidMetH Tryd.prog Rows.fnGjValidJoinRow.laid W) : Lib.Utf8Tabs 2 3 W ∧ HexT W := by
  rw [MakeChecks.laidMetH_plain _ _ _ (by kernel_rfl)] at h
  have h4 := Go.Lib.laidMet.reads h (n := "unicode/utf8.acceptRanges") (d := Rows.laid_unicode_utf8_acceptRanges) (List.mem_cons_self ..)
  have h0 := Go.Lib.laidMet.reads h (n := "pub-tetrapla/pub/gjson.hexchars") (d := Rows.laid_pub_tetrapla_pub_gjson_hexchars) (List.mem_cons_of_mem _ (List.mem_cons_self ..))
  have h3 := Go.Lib.laidMet.reads h (n := "unicode/utf8.first") (d := Rows.laid_unicode_utf8_first) (List.mem_cons_of_mem _ (List.mem_cons_of_mem _ (List.mem_cons_self ..)))
  rw [first_same] at h3
  rw [accept_same] at h4
  exact ⟨utf8Tabs_of_readsT types8 extra8 h3 h4, hex_of h0⟩
theorem laidOut : laidOutB Tryd.prog = true := by kernel_rfl
theorem cells9 : Tryd.prog.cellsOf 9 = 1 := by kernel_rfl
theorem own : ownKnob Tryd.prog.godebug = none := by kernel_rfl
theorem door_met (os : Os) (args : Array Value) : laidMetH Tryd.prog Rows.fnGjValidJoinRow.laid ((World.laidAll Tryd.prog os Rows.fnGjValidJoinRow.laid).forCall (fun _ _ => 0) ⟨#[], args, []⟩).memory := by
  rw [MakeChecks.laidMetH_plain _ _ _ (by kernel_rfl)]; exact laidMet_laidAll _ (by kernel_rfl) (by kernel_rfl)
set_option maxRecDepth 100000 in
theorem lifted (os : Os) (started : os.Started) (H : Type) (enc : TypeId × Value → H) :
    ReturnsInHanded {} Tryd.checked os 6 .any (fun w args => (Rows.fnGjValidJoinSpec.pre enc Tryd.prog Tryd.f6 [] false w args ∧ laidMetH Tryd.prog Rows.fnGjValidJoinRow.laid w) ∧ sizedMet enc Tryd.prog Tryd.f6 (OpenSpec.ofChange Rows.fnGjValidJoinSpec) false w args)
      (Rows.fnGjValidJoinSpec.post enc Tryd.prog Tryd.f6 false true false false) := by
  refine returnsInHanded_of_change_and (C := Tryd.checked) (X := fun w _ => laidMetH Tryd.prog Rows.fnGjValidJoinRow.laid w) (fun _ _ _ hh h => h.of_heap hh) own started (by kernel_rfl) Tryd.func6
    (ChangeSpec.witness_shaped (enc := enc) (C := Tryd.checked) (os := os) (X := fun w _ => laidMetH Tryd.prog Rows.fnGjValidJoinRow.laid w) false (World.laidAll Tryd.prog os Rows.fnGjValidJoinRow.laid) #[.slice none 0 0, .string ByteArray.empty] 8 (World.laidAll_os _ _ _) (World.shaped_of_ZipB (by kernel_rfl) (by kernel_rfl)) (by kernel_rfl) (by kernel_rfl) (by kernel_rfl) (door_met os _)) ?_
  intro W base args ds gs before hval0 hW _ hsz0 hL _
  have hsz : (DataW.weightsEach Tryd.prog (Tryd.f6.params.toList ++ Rows.fnGjValidJoinSpec.plain.varTypes Tryd.prog) (ds ++ gs)).all (· ≤ reachBytes) = true := hsz0
  have hval : ∀ (j : Nat) t v, Tryd.f6.params[j]? = some t → args[j]? = some v → Value.okWide Tryd.prog W .any base t v := hval0
  have hW' := hW
  obtain ⟨p, q, hA0, hV, rfl, hfz, hnd⟩ := hW
  have hA : DataW.TrodAll enc Tryd.prog W 0 (fun _ => true) true Tryd.f6.params.toList args.toList ds p := hA0
  rw [Tryd.params6] at hA hval hsz
  obtain ⟨v0, vs0, d0, ds0, p0, q0, hargs, rfl, rfl, h0, r0⟩ := trodAll_cons hA
  obtain ⟨v1, vs1, d1, ds1, p1, q1, rfl, rfl, rfl, h1, r1⟩ := trodAll_cons r0
  obtain ⟨rfl, rfl, rfl⟩ := trodAll_nil r1
  obtain rfl : args = #[v0, v1] := by cases args; simp_all
  obtain ⟨rfl, rfl⟩ := trodVars_none hV
  obtain ⟨a0, len, cap, rfl⟩ := okWide_slice Tryd.underlying28 (hval 0 28 v0 rfl rfl)
  have h0k := h0
  obtain ⟨fuel, hf⟩ := h0
  obtain ⟨a1, rfl, rfl, rfl, y1⟩ := open_string Tryd.underlying9 (hval 1 9 v1 rfl rfl) h1
  have w1 : a1.size ≤ 140737488351232 := by
    have z := sized_string hsz (j := 1) (t := 9) rfl rfl
    rw [Array.length_toList] at z
    exact z
  have hlt0 : ∀ x ∈ p0, x.block < W.heap.size := fun x hx => by
    have := hW'.lt x (by simp [hx])
    simpa using this
  have fin : ∀ W' : World, Below W.heap.size W W' → Rows.fnGjValidJoinSpec.post enc Tryd.prog Tryd.f6 false true false false W #[.slice a0 len cap, .string a1] (.bool true) W' := fun W' bel =>
    ⟨_, _, _, [], _, [], hW', trodAll_mk1 (shut_bool Tryd.underlying4 _), (trodAll_cons_mk (Below.trod laidOut (by kernel_rfl) (of_decide_eq_true (by kernel_rfl)) h0k bel hlt0) (trodAll_cons_mk (shut_string Tryd.underlying9 y1) trodAll_mk0)), rfl, bel.frame _, fun h => by cases h⟩
  clear hA0 hval0 hsz0 hsz
  rcases open_strings Tryd.underlying28 Tryd.underlying9 cells9 hf with ⟨hcs, hx⟩ | ⟨a, len', cap', ss, hcs, _, hl, hm, hz, hx, hcell, hws⟩
  · simp [Value.cells] at hcs
    obtain ⟨rfl, rfl, rfl⟩ := hcs
    refine (join_walk [] a1 none 0 0 W (by decide) ⟨rfl, fun i hi => by omega⟩ (of_laid hL).2 (of_laid hL).1 (by omega)).mono fun e W' ⟨he, bel⟩ => ?_
    subst he
    exact ⟨_, rfl, fin W' bel⟩
  · simp [Value.cells] at hcs
    obtain ⟨rfl, rfl, rfl⟩ := hcs
    simp only [if_true] at hz
    have hT : TextsAt W (some a) len (ss.take len) := ⟨by rw [List.length_take]; omega, fun i hi => by
      have hc := hcell i (by omega)
      refine ⟨a, rfl, ?_, ?_⟩
      · have := World.block_lt_of_cell? W _ hc
        rwa [G.add_block] at this
      · rw [hc]
        congr 2
        simp [List.getD_eq_getElem?_getD, List.getElem?_take, hi]⟩
    refine (join_walk (ss.take len) a1 (some a) len cap W (by have h5 : maxLen ≤ 9223372036854775807 := by (unfold maxLen; decide)
                                                              omega) hT (of_laid hL).2 (of_laid hL).1 (by omega)).mono fun e W' ⟨he, bel⟩ => ?_
    subst he
    exact ⟨_, rfl, fin W' bel⟩
theorem row_holds : Rows.FnGjValidJoinSaid :=
  OpenClaim.holds_of_wide 6 Tryd.f6 rfl rfl rfl rfl rfl rfl rfl ⟨rfl, rfl, rfl, rfl, rfl⟩ rfl rfl rfl rfl rfl (by kernel_rfl) Tryd.func6 (by kernel_rfl)
    (of_decide_eq_true (by kernel_rfl)) (by unfold Func.isWrapper; first | (rw [if_pos (by decide +kernel)]; kernel_rfl) | (rw [if_neg (by decide +kernel)]; exact ⟨rfl, rfl⟩))
    (fun os started H enc _ => lifted os started H enc)
theorem proved : Rows.FnGjValidJoinCardSaid :=
  Claim7.holds_tied_plain_at .later [] [.data, .data, .pinned] true (true, "0510b7cc6bf346a45046d9189d8605a1957a7349475b1015bc5e67b50c08173d") true
    row_holds (fun _ h => by cases h) (by kernel_rfl) (fun _ h => by cases h) fnGjValidJoin_row_tie rfl ⟨rfl, rfl⟩ (by kernel_rfl) rfl
    (fun f fn hf hfn => by
      obtain rfl : f = 6 := Option.some.inj ((show Tryd.prog.funcNamed "pub-tetrapla/laws.FnGjValidJoin" = some 6 by kernel_rfl).symm.trans hf) |>.symm
      obtain rfl : fn = Tryd.f6 := (Option.some.inj (Tryd.func6.symm.trans hfn)).symm
      exact ⟨by kernel_rfl, fun j t ht => by
        rw [Tryd.params6] at ht
        have hm : t ∈ [28, 9] := by simpa using Array.mem_of_getElem? ht
        have hall : ([28, 9].all fun u => !Tryd.prog.wantsStandIn u) = true := by kernel_rfl
        exact (show Tryd.prog.wantsStandIn t = false by simpa using List.all_eq_true.1 hall t hm)⟩)
    (by kernel_rfl)
#print axioms proved
end Go.Proofs.YtiecdhkmlpceoaaDoor.fnGjValidJoin
namespace Go.Proofs.YtiecdhkmlpceoaaDoor
/-- The card, under a short name, for the claim. -/
theorem fnGjValidJoin_holds : Rows.FnGjValidJoinCardSaid := fnGjValidJoin.proved
end Go.Proofs.YtiecdhkmlpceoaaDoor
