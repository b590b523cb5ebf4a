/- Where one key or more lead to a value of a JSON text, jsonparser's Get finds what Set put there, a JSON text's value: its kind and its bytes without the blanks around it: every text, value and keys that the statement lets in. -/
import Derived.Test.YtpahejmkidhhhaaDoorRows
import Derived.Test.YtpahejmkidhhhaaDoorCards
import Derived.Test.YtpahejmkidhhhaaDoorTie
import Derived.Test.YtpahejmkidhhhaaDoorGvRg
import Derived.Test.YtpahejmkidhhhaaDoorGvLd
import Derived.ProofKit
import Derived.OpenShut
import Derived.ShutString
import Derived.ChangeOld
import Derived.Below
import Derived.SizedLaws
import Derived.LaidMore
import Derived.Deep.Strs
import Derived.Stop.LaidErr
import Derived.Stop.Joined
import Derived.SevenTiedAt
import Derived.Outline
import Derived.Lay
import Derived.SliceStrings
import Derived.Carry
namespace Go.Proofs.YtpahejmkidhhhaaDoor.fnJpSetGet
open Go.ChangeShapes Go.WideShapes Go.ChangeAt Go.RowKit
open Go.ChangeMaps (open_string shut_string)
open Go.Proofs.YtpahejmkidhhhaaDoor.G Go.Proofs.YtpahejmkidhhhaaDoorW.PrintWords
set_option linter.unusedVariables false
set_option linter.unusedSimpArgs false

theorem of_laid {W : World} (h : laidMetH Tryd.prog Rows.fnJpSetGetRow.laid W) : ∃ E, GL E W ∧ SW W E ∧ ErP W E := by
  rw [MakeChecks.laidMetH_plain _ _ _ (by kernel_rfl)] at h
  have hc := cfg_of h.tail.tail.tail.tail.tail
  have htab := tab_of h.tail.tail.tail.tail.tail.tail
  obtain ⟨a0, x0, t0, hv0, hb0⟩ := err_of h.tail.tail.tail.tail.tail.tail.tail g0 t0
  obtain ⟨a1, x1, t1, hv1, hb1⟩ := err_of h.tail.tail.tail.tail.tail.tail.tail.tail g1 t1
  obtain ⟨a2, x2, t2, hv2, hb2⟩ := err_of h.tail.tail.tail.tail.tail.tail.tail.tail.tail g2 t2
  obtain ⟨a3, x3, t3, hv3, hb3⟩ := err_of h.tail.tail.tail.tail.tail.tail.tail.tail.tail.tail g3 t3
  obtain ⟨a4, x4, t4, hv4, hb4⟩ := err_of h.tail.tail.tail.tail.tail.tail.tail.tail.tail.tail.tail g4 t4
  obtain ⟨a5, x5, t5, hv5, hb5⟩ := err_of h.tail.tail.tail.tail.tail.tail.tail.tail.tail.tail.tail.tail g5 t5
  obtain ⟨a8, x8, t8, hv8, hb8⟩ := err_of h.tail.tail.tail.tail.tail.tail.tail.tail.tail.tail.tail.tail.tail g8 t8
  obtain ⟨a14, x14, t14, hv14, hb14⟩ := err_of h.tail.tail.tail.tail g14 t14
  obtain ⟨a15, x15, t15, hv15, hb15⟩ := err_of h.tail.tail.tail g15 t15
  exact laid_all hc htab hv0 hb0 hv1 hb1 hv2 hb2 hv3 hb3 hv4 hb4 hv5 hb5 hv8 hv14 hv15
theorem laidOut : laidOutB Tryd.prog = true := by kernel_rfl
theorem own : ownKnob Tryd.prog.godebug = none := by kernel_rfl
theorem door_met (os : Os) (args : Array Value) : laidMetH Tryd.prog Rows.fnJpSetGetRow.laid ((World.laidAll Tryd.prog os Rows.fnJpSetGetRow.laid).forCall (fun _ _ => 0) ⟨#[], args, []⟩).memory := by
  rw [MakeChecks.laidMetH_plain _ _ _ (by kernel_rfl)]; exact laidMet_laidAll _ (by kernel_rfl) (by kernel_rfl)
set_option maxRecDepth 100000 in
theorem lifted (os : Os) (started : os.Started) (H : Type) (enc : TypeId × Value → H) :
    ReturnsInHanded {} Tryd.checked os 8 .any (fun w args => (Rows.fnJpSetGetSpec.pre enc Tryd.prog Tryd.f8 [] false w args ∧ laidMetH Tryd.prog Rows.fnJpSetGetRow.laid w) ∧ sizedMet enc Tryd.prog Tryd.f8 (OpenSpec.ofChange Rows.fnJpSetGetSpec) false w args)
      (Rows.fnJpSetGetSpec.post enc Tryd.prog Tryd.f8 false true false false) := by
  refine returnsInHanded_of_change_and (C := Tryd.checked) (X := fun w _ => laidMetH Tryd.prog Rows.fnJpSetGetRow.laid w) (fun _ _ _ hh h => h.of_heap hh) own started (by kernel_rfl) Tryd.func8
    (ChangeSpec.witness_shaped (enc := enc) (C := Tryd.checked) (os := os) (X := fun w _ => laidMetH Tryd.prog Rows.fnJpSetGetRow.laid w) false (World.laidAll Tryd.prog os Rows.fnJpSetGetRow.laid) #[.string ByteArray.empty, .string ByteArray.empty, .slice none 0 0] 8 (World.laidAll_os _ _ _) (World.shaped_of_ZipB (by kernel_rfl) (by kernel_rfl)) (by kernel_rfl) (by kernel_rfl) (by kernel_rfl) (door_met os _)) ?_
  intro W base args ds gs before hval0 hW _ hsz0 hL _
  have hsz : (DataW.weightsEach Tryd.prog (Tryd.f8.params.toList ++ Rows.fnJpSetGetSpec.plain.varTypes Tryd.prog) (ds ++ gs)).all (· ≤ reachBytes) = true := hsz0
  have hval : ∀ (j : Nat) t v, Tryd.f8.params[j]? = some t → args[j]? = some v → Value.okWide Tryd.prog W .any base t v := hval0
  have hW' := hW
  obtain ⟨p, q, hA0, hV, rfl, hfz, hnd⟩ := hW
  have hA : DataW.TrodAll enc Tryd.prog W 0 (fun _ => true) true Tryd.f8.params.toList args.toList ds p := hA0
  rw [Tryd.params8] at hA hval hsz
  obtain ⟨v0, vs0, d0, ds0, p0, q0, hargs, rfl, rfl, h0, r0⟩ := trodAll_cons hA
  obtain ⟨v1, vs1, d1, ds1, p1, q1, rfl, rfl, rfl, h1, r1⟩ := trodAll_cons r0
  obtain ⟨v2, vs2, d2, ds2, p2, q2, rfl, rfl, rfl, h2, r2⟩ := trodAll_cons r1
  obtain ⟨rfl, rfl, rfl⟩ := trodAll_nil r2
  obtain rfl : args = #[v0, v1, v2] := by cases args; simp_all
  obtain ⟨rfl, rfl⟩ := trodVars_none hV
  obtain ⟨a0, rfl, rfl, rfl, y0⟩ := open_string Tryd.underlying9 (hval 0 9 v0 rfl rfl) h0
  have w0 : a0.size ≤ 140737488351232 := by
    have z := sized_string hsz (j := 0) (t := 9) rfl rfl
    rw [Array.length_toList] at z
    exact z
  obtain ⟨a1, rfl, rfl, rfl, y1⟩ := open_string Tryd.underlying9 (hval 1 9 v1 rfl rfl) h1
  have w1 : a1.size ≤ 140737488351232 := by
    have z := sized_string hsz (j := 1) (t := 9) rfl rfl
    rw [Array.length_toList] at z
    exact z
  obtain ⟨A2, n2, c2, rfl⟩ := okWide_slice Tryd.underlying22 (hval 2 22 v2 rfl rfl)
  have h2k := h2
  obtain ⟨fuel2, hf2⟩ := h2
  have hlt2 : ∀ x ∈ p2, x.block < W.heap.size := fun x hx => by
    have := hW'.lt x (by simp [hx])
    simpa using this
  have fin : ∀ W' : World, Below W.heap.size W W' → Rows.fnJpSetGetSpec.post enc Tryd.prog Tryd.f8 false true false false W #[.string a0, .string a1, .slice A2 n2 c2] (.bool true) W' := fun W' bel =>
    ⟨_, _, _, [], _, [], hW', trodAll_mk1 (shut_bool Tryd.underlying4 _), (trodAll_cons_mk (shut_string Tryd.underlying9 y0) (trodAll_cons_mk (shut_string Tryd.underlying9 y1) (trodAll_cons_mk (Below.trod laidOut (by kernel_rfl) (of_decide_eq_true (by kernel_rfl)) h2k bel hlt2) trodAll_mk0))), rfl, bel.frame _, fun h => by cases h⟩
  obtain ⟨E, HG, HW, HP⟩ := of_laid hL
  obtain ⟨K2, l2, m2, e2, T2⟩ : ∃ K : List ByteArray, K.length = n2 ∧ n2 ≤ 9223372036854775807 ∧ n2 ≤ c2 ∧ KeysAt W A2 K := by
    rcases open_strings Tryd.underlying22 Tryd.underlying9 cells9 hf2 with ⟨hcs, hx⟩ | ⟨a, len', cap', ss, hcs, _, hl, hm, hz, hx, hcell, hws⟩
    · simp [Value.cells] at hcs
      obtain ⟨rfl, rfl, rfl⟩ := hcs
      exact ⟨[], rfl, by decide, Nat.le_refl _, fun i hi => by simp at hi⟩
    · simp [Value.cells] at hcs
      obtain ⟨rfl, rfl, rfl⟩ := hcs
      simp only [if_true] at hz
      have h5 : maxLen ≤ 9223372036854775807 := by (unfold maxLen; decide)
      refine ⟨ss.take n2, by rw [List.length_take]; omega, by omega, by omega, fun i hi => ?_⟩
      rw [List.length_take] at hi
      have hc := hcell i (by omega)
      refine ⟨a, rfl, ?_, ?_⟩
      · have := World.block_lt_of_cell? W _ hc
        rwa [G.add_block] at this
      · rw [hc]
        congr 2
        simp [List.getD_eq_getElem?_getD, List.getElem?_take, show i < n2 by omega]
  clear hA0 hval0 hsz0 hsz
  refine (setget_walk E a0 a1 K2 A2 n2 c2 W HG HW HP w0 w1 l2 m2 e2 T2).mono fun e W' ⟨he, bel⟩ => ?_
  subst he
  exact ⟨_, rfl, fin W' bel⟩
theorem row_holds : Rows.FnJpSetGetSaid :=
  OpenClaim.holds_of_wide 8 Tryd.f8 rfl rfl rfl rfl rfl rfl rfl ⟨rfl, rfl, rfl, rfl, rfl⟩ rfl rfl rfl rfl rfl (by kernel_rfl) Tryd.func8 (by kernel_rfl)
    (of_decide_eq_true (by kernel_rfl)) (by unfold Func.isWrapper; first | (rw [if_pos (by decide +kernel)]; kernel_rfl) | (rw [if_neg (by decide +kernel)]; exact ⟨rfl, rfl⟩))
    (fun os started H enc _ => lifted os started H enc)
theorem proved : Rows.FnJpSetGetCardSaid :=
  Claim7.holds_tied_plain_at .later [] [.data, .data, .data, .sentinel, .sentinel, .data, .data, .sentinel, .sentinel, .sentinel, .sentinel, .sentinel, .sentinel, .sentinel] true (true, "71a4b0aeaaeabdd81c85b1d8731e167f650fde7ada06ab2a14c6d53206feac3d") true
    row_holds (fun _ h => by cases h) (by kernel_rfl) (fun _ h => by cases h) fnJpSetGet_row_tie rfl ⟨rfl, rfl⟩ (by kernel_rfl) rfl
    (fun f fn hf hfn => by
      obtain rfl : f = 8 := Option.some.inj ((show Tryd.prog.funcNamed "pub-tetrapla/laws.FnJpSetGet" = some 8 by kernel_rfl).symm.trans hf) |>.symm
      obtain rfl : fn = Tryd.f8 := (Option.some.inj (Tryd.func8.symm.trans hfn)).symm
      exact ⟨by kernel_rfl, fun j t ht => by
        rw [Tryd.params8] at ht
        have hm : t ∈ [9, 9, 22] := by simpa using Array.mem_of_getElem? ht
        have hall : ([9, 9, 22].all fun u => !Tryd.prog.wantsStandIn u) = true := by kernel_rfl
        exact (show Tryd.prog.wantsStandIn t = false by simpa using List.all_eq_true.1 hall t hm)⟩)
    (by kernel_rfl)
#print axioms proved
end Go.Proofs.YtpahejmkidhhhaaDoor.fnJpSetGet
namespace Go.Proofs.YtpahejmkidhhhaaDoor
/-- The card, under a short name, for the claim. -/
theorem fnJpSetGet_holds : Rows.FnJpSetGetCardSaid := fnJpSetGet.proved
end Go.Proofs.YtpahejmkidhhhaaDoor
