/- fastfloat's readers of whole numbers give back every uint64 and every int64 from its decimal digits: no condition. -/
import Derived.Test.YtiecdhkmlpceoaaDoorRows
import Derived.Test.YtiecdhkmlpceoaaDoorCards
import Derived.Test.YtiecdhkmlpceoaaDoorTie
import Derived.Test.YtiecdhkmlpceoaaDoorGvO
import Derived.WalkKit
import Derived.WalkSpells
import Derived.WalkLawsBesides
import Derived.Deep.RegionWith
import Derived.ProofKit
import Derived.OpenShut
import Derived.ShutString
import Derived.ChangeOld
import Derived.Below
import Derived.SizedLaws
import Derived.LaidMore
import Derived.Stop.LaidErr
import Derived.Stop.Joined
import Derived.SevenTiedAt
import Derived.Outline
namespace Go.Proofs.YtiecdhkmlpceoaaDoor.fnFfDigits
open Go.ChangeShapes Go.WideShapes Go.ChangeAt Go.RowKit
open Go.ChangeMaps (open_string shut_string)
open Go.Proofs.YtiecdhkmlpceoaaDoor.G Go.Proofs.YtiecdhkmlpceoaaDoorW.PrintWords
set_option linter.unusedVariables false
set_option linter.unusedSimpArgs false

def minus : ByteArray := ⟨#[45]⟩
/-- The text of an int64. -/
def intS (v : Int) : ByteArray := if v < 0 then minus ++ dgS v.natAbs else dgS v.natAbs
theorem bytes_minus (s : ByteArray) : bytesOf (minus ++ s) = 45 :: bytesOf s := by unfold bytesOf minus; simp [ByteArray.data_append]
theorem dgS_size {n : Nat} (hn : n < 18446744073709551616) : (dgS n).size ≤ 20 := by rw [← bytesOf_length, bytes_dgS]; exact dgI_len20 hn
set_option maxHeartbeats 4000000 in
set_option maxRecDepth 100000 in
theorem int_calls (v : Int) (h1 : -9223372036854775808 ≤ v) (h2 : v < 9223372036854775808) (w : World) : Calls Tryd.prog 18 #[.int .i64 v] w (Str (intS v) w) := by
  by_cases hv : v < 0
  · obtain ⟨k, hk⟩ : ∃ k : Nat, k = v.natAbs := ⟨_, rfl⟩
    have hkv : v = -(k : Int) := by omega
    have C := Aside0.mk (fun W => digits_calls k (by omega) W)
    have HS := Aside0.mk (dgS_size (n := k) (by omega))
    have e : intS v = minus ++ dgS k := by unfold intS; rw [if_pos hv, ← hk]
    have hu : IntKind.u64.wrap v = 18446744073709551616 - (k : Int) := by rw [IntKind.wrap_u64]; omega
    have hn : IntKind.u64.wrap (-(18446744073709551616 - (k : Int))) = (k : Int) := by rw [IntKind.wrap_u64]; omega
    have hn2 : IntKind.u64.wrap ((k : Int) - 18446744073709551616) = (k : Int) := by rw [IntKind.wrap_u64]; omega
    rw [e]
    clear e hk hkv
    go_enter Tryd.func18, Tryd.ntmps18
    go_wp2_with (go_at_call 17; refine (C.out _).mono ?_; rintro e w1 ⟨rfl, hb⟩; have hq : ¬ 9223372036854775807 < 1 + (dgS k).size := by have := HS.out; omega)
    go_ret
    unfold Str
    exact ⟨rfl, hb⟩
  · obtain ⟨k, rfl⟩ := Int.eq_ofNat_of_zero_le (show 0 ≤ v by omega)
    have C := Aside0.mk (fun W => digits_calls k (by omega) W)
    have e : intS (k : Int) = dgS k := by unfold intS; rw [if_neg hv]; rfl
    have hu : IntKind.u64.wrap (k : Int) = (k : Int) := by rw [IntKind.wrap_u64]; omega
    rw [e]
    clear e
    go_enter Tryd.func18, Tryd.ntmps18
    go_wp2_with (go_at_call 17; refine (C.out _).mono ?_; rintro e w1 ⟨rfl, hb⟩)
    go_ret
    unfold Str
    exact ⟨rfl, hb⟩
theorem i64_calls (v : Int) (h1 : -9223372036854775808 ≤ v) (h2 : v < 9223372036854775808) (w : World) : Calls Tryd.prog 35 #[.string (intS v)] w (IAns v w) := by
  by_cases hv : v < 0
  · have e : intS v = minus ++ dgS v.natAbs := by unfold intS; rw [if_pos hv]
    have h := i64_neg (intS v) v.natAbs (by rw [e, bytes_minus, bytes_dgS]) (by omega) w
    rwa [show -(v.natAbs : Int) = v by omega] at h
  · have e : intS v = dgS v.natAbs := by unfold intS; rw [if_neg hv]
    have h := i64_pos (intS v) v.natAbs (by rw [e, bytes_dgS]) (by omega) w
    rwa [show (v.natAbs : Int) = v by omega] at h
theorem i64b_calls (v : Int) (h1 : -9223372036854775808 ≤ v) (h2 : v < 9223372036854775808) (w : World) : Calls Tryd.prog 37 #[.string (intS v)] w (IBst v w) := by
  by_cases hv : v < 0
  · have e : intS v = minus ++ dgS v.natAbs := by unfold intS; rw [if_pos hv]
    have h := i64b_neg (intS v) v.natAbs (by rw [e, bytes_minus, bytes_dgS]) (by omega) w
    rwa [show -(v.natAbs : Int) = v by omega] at h
  · have e : intS v = dgS v.natAbs := by unfold intS; rw [if_neg hv]
    have h := i64b_pos (intS v) v.natAbs (by rw [e, bytes_dgS]) (by omega) w
    rwa [show (v.natAbs : Int) = v by omega] at h
def Two (k : IntKind) (v : Int) (w : World) (e : Ending) (w' : World) : Prop := e = .returned (.tuple #[.int k v, .bool true]) ∧ Below w.heap.size w w'
set_option maxHeartbeats 4000000 in
set_option maxRecDepth 100000 in
theorem FfU (n : Nat) (hn : n < 18446744073709551616) (w : World) : Calls Tryd.prog 19 #[.string (dgS n)] w (Two .u64 n w) := by
  have C := Aside0.mk (fun W => u64_calls (dgS n) n (bytes_dgS n) hn W)
  go_enter Tryd.func19, Tryd.ntmps19
  go_wp2_with (go_at_call 34; refine (C.out _).mono ?_; rintro e w1 ⟨rfl, hb⟩)
  go_region
  all_goals go_wp2
  all_goals go_ret2
  all_goals (unfold Two; exact ⟨rfl, hb.drew⟩)
set_option maxHeartbeats 4000000 in
set_option maxRecDepth 100000 in
theorem FfI (v : Int) (h1 : -9223372036854775808 ≤ v) (h2 : v < 9223372036854775808) (w : World) : Calls Tryd.prog 20 #[.string (intS v)] w (Two .i64 v w) := by
  have C := Aside0.mk (fun W => i64_calls v h1 h2 W)
  go_enter Tryd.func20, Tryd.ntmps20
  go_wp2_with (go_at_call 35; refine (C.out _).mono ?_; rintro e w1 ⟨rfl, hb⟩)
  go_region
  all_goals go_wp2
  all_goals go_ret2
  all_goals (unfold Two; exact ⟨rfl, hb.drew⟩)
set_option maxRecDepth 100000 in
theorem FfUB (n : Nat) (hn : n < 18446744073709551616) (w : World) : Calls Tryd.prog 21 #[.string (dgS n)] w (UBst n w) := by
  have C := Aside0.mk (fun W => u64b_calls (dgS n) n (bytes_dgS n) hn W)
  go_enter Tryd.func21, Tryd.ntmps21
  go_wp2_with (go_at_call 36; refine (C.out _).mono ?_; rintro e w1 ⟨rfl, hb⟩)
  go_ret
  unfold UBst
  exact ⟨rfl, hb⟩
set_option maxRecDepth 100000 in
theorem FfIB (v : Int) (h1 : -9223372036854775808 ≤ v) (h2 : v < 9223372036854775808) (w : World) : Calls Tryd.prog 22 #[.string (intS v)] w (IBst v w) := by
  have C := Aside0.mk (fun W => i64b_calls v h1 h2 W)
  go_enter Tryd.func22, Tryd.ntmps22
  go_wp2_with (go_at_call 37; refine (C.out _).mono ?_; rintro e w1 ⟨rfl, hb⟩)
  go_ret
  unfold IBst
  exact ⟨rfl, hb⟩
set_option maxHeartbeats 4000000 in
set_option maxRecDepth 100000 in
theorem walk (z : Int) (hz : (Lit.int .u64 z).wf = true) (w : World) : Calls Tryd.prog 7 #[.int .u64 z] w fun e w' => e = .returned (.bool true) ∧ Below w.heap.size w w' := by
  obtain ⟨n, rfl, hn⟩ : ∃ n : Nat, z = n ∧ n < 18446744073709551616 := by
    simp [Lit.wf, IntKind.min, IntKind.max, IntKind.bits, IntKind.signed] at hz
    exact ⟨z.toNat, by omega, by omega⟩
  clear hz
  obtain ⟨v, hv⟩ : ∃ v : Int, v = wrap64 (n : Int) := ⟨_, rfl⟩
  have h1 : -9223372036854775808 ≤ v := by rw [hv]; unfold wrap64; omega
  have h2 : v < 9223372036854775808 := by rw [hv]; unfold wrap64; omega
  have hw : wrap64 (n : Int) = v := hv.symm
  have D := Aside0.mk (fun W => digits_calls n hn W)
  have E := Aside0.mk (fun W => int_calls v h1 h2 W)
  have F1 := Aside0.mk (fun W => FfU n hn W)
  have F2 := Aside0.mk (fun W => FfI v h1 h2 W)
  have F3 := Aside0.mk (fun W => FfUB n hn W)
  have F4 := Aside0.mk (fun W => FfIB v h1 h2 W)
  clear hv
  go_enter Tryd.func7, Tryd.ntmps7
  go_wp2_with (first | (go_at_call 17; refine (D.out _).mono ?_; rintro e w1 ⟨rfl, hb1⟩) | (go_at_call 18; refine (E.out _).mono ?_; rintro e w2 ⟨rfl, hb2⟩) | (go_at_call 19; refine (F1.out _).mono ?_; rintro e w3 ⟨rfl, hb3⟩) | (go_at_call 20; refine (F2.out _).mono ?_; rintro e w4 ⟨rfl, hb4⟩) | (go_at_call 21; refine (F3.out _).mono ?_; rintro e w5 ⟨rfl, hb5⟩) | (go_at_call 22; refine (F4.out _).mono ?_; rintro e w6 ⟨rfl, hb6⟩))
  go_ret
  exact ⟨by simp, below_step (below_step (below_step (below_step (below_step hb1 hb2) hb3) hb4) hb5) hb6⟩
theorem own : ownKnob Tryd.prog.godebug = none := by kernel_rfl
theorem door_met (os : Os) (args : Array Value) : laidMetH Tryd.prog Rows.fnFfDigitsRow.laid ((World.doorLaid Tryd.prog 400 os).forCall (fun _ _ => 0) ⟨#[], args, []⟩).memory :=
  laidMetH_of_parts3 (fuel := 8) (laidMet_of_run' 8 (by kernel_rfl) (by kernel_rfl)) (by kernel_rfl) (by kernel_rfl)
set_option maxRecDepth 100000 in
theorem lifted (os : Os) (started : os.Started) (H : Type) (enc : TypeId × Value → H) :
    ReturnsInHanded {} Tryd.checked os 7 .any (fun w args => (Rows.fnFfDigitsSpec.pre enc Tryd.prog Tryd.f7 [] false w args ∧ laidMetH Tryd.prog Rows.fnFfDigitsRow.laid w) ∧ sizedMet enc Tryd.prog Tryd.f7 (OpenSpec.ofChange Rows.fnFfDigitsSpec) false w args)
      (Rows.fnFfDigitsSpec.post enc Tryd.prog Tryd.f7 false true false false) := by
  refine returnsInHanded_of_change_and (C := Tryd.checked) (X := fun w _ => laidMetH Tryd.prog Rows.fnFfDigitsRow.laid w) (fun _ _ _ hh h => h.of_heap hh) own started (by kernel_rfl) Tryd.func7
    (ChangeSpec.witness_shaped (enc := enc) (C := Tryd.checked) (os := os) (X := fun w _ => laidMetH Tryd.prog Rows.fnFfDigitsRow.laid w) false (World.doorLaid Tryd.prog 400 os) #[.int .u64 0] 8 rfl (World.shaped_of_RefB (by kernel_rfl) (by kernel_rfl)) (by kernel_rfl) (by kernel_rfl) (by kernel_rfl) (door_met os _)) ?_
  intro W base args ds gs before hval0 hW _ hsz0 hL _
  have hsz : (DataW.weightsEach Tryd.prog (Tryd.f7.params.toList ++ Rows.fnFfDigitsSpec.plain.varTypes Tryd.prog) (ds ++ gs)).all (· ≤ reachBytes) = true := hsz0
  have hval : ∀ (j : Nat) t v, Tryd.f7.params[j]? = some t → args[j]? = some v → Value.okWide Tryd.prog W .any base t v := hval0
  have hW' := hW
  obtain ⟨p, q, hA0, hV, rfl, hfz, hnd⟩ := hW
  have hA : DataW.TrodAll enc Tryd.prog W 0 (fun _ => true) true Tryd.f7.params.toList args.toList ds p := hA0
  rw [Tryd.params7] at hA hval hsz
  obtain ⟨v0, vs0, d0, ds0, p0, q0, hargs, rfl, rfl, h0, r0⟩ := trodAll_cons hA
  obtain ⟨rfl, rfl, rfl⟩ := trodAll_nil r0
  obtain rfl : args = #[v0] := by cases args; simp_all
  obtain ⟨rfl, rfl⟩ := trodVars_none hV
  obtain ⟨a0, rfl, rfl, rfl, w0⟩ := open_int Tryd.underlying38 (hval 0 38 v0 rfl rfl) h0
  clear hA0 hval0 hsz0 hsz
  refine (walk a0 w0 W).mono fun e W' ⟨he, bel⟩ => ?_
  subst he
  exact ⟨_, rfl, _, _, _, [], _, [], hW', trodAll_mk1 (shut_bool Tryd.underlying4 _), (trodAll_cons_mk (shut_int Tryd.underlying38 w0) trodAll_mk0), rfl, bel.frame _, fun h => by cases h⟩
theorem row_holds : Rows.FnFfDigitsSaid :=
  OpenClaim.holds_of_wide 7 Tryd.f7 rfl rfl rfl rfl rfl rfl rfl ⟨rfl, rfl, rfl, rfl, rfl⟩ rfl rfl rfl rfl rfl (by kernel_rfl) Tryd.func7 (by kernel_rfl)
    (of_decide_eq_true (by kernel_rfl)) (by unfold Func.isWrapper; first | (rw [if_pos (by decide +kernel)]; kernel_rfl) | (rw [if_neg (by decide +kernel)]; exact ⟨rfl, rfl⟩))
    (fun os started H enc _ => lifted os started H enc)
theorem proved : Rows.FnFfDigitsCardSaid :=
  Claim7.holds_tied_plain_at .later [] [.data, .data, .data, .sentinel, .sentinel] true (true, "0510b7cc6bf346a45046d9189d8605a1957a7349475b1015bc5e67b50c08173d") true
    row_holds (fun _ h => by cases h) (by kernel_rfl) (fun _ h => by cases h) fnFfDigits_row_tie rfl ⟨rfl, rfl⟩ (by kernel_rfl) rfl
    (fun f fn hf hfn => by
      obtain rfl : f = 7 := Option.some.inj ((show Tryd.prog.funcNamed "pub-tetrapla/laws.FnFfDigits" = some 7 by kernel_rfl).symm.trans hf) |>.symm
      obtain rfl : fn = Tryd.f7 := (Option.some.inj (Tryd.func7.symm.trans hfn)).symm
      exact ⟨by kernel_rfl, fun j t ht => by
        rw [Tryd.params7] at ht
        have hm : t ∈ [38] := by simpa using Array.mem_of_getElem? ht
        have hall : ([38].all fun u => !Tryd.prog.wantsStandIn u) = true := by kernel_rfl
        exact (show Tryd.prog.wantsStandIn t = false by simpa using List.all_eq_true.1 hall t hm)⟩)
    (by kernel_rfl)
#print axioms proved
end Go.Proofs.YtiecdhkmlpceoaaDoor.fnFfDigits
namespace Go.Proofs.YtiecdhkmlpceoaaDoor
/-- The card, under a short name, for the claim. -/
theorem fnFfDigits_holds : Rows.FnFfDigitsCardSaid := fnFfDigits.proved
end Go.Proofs.YtiecdhkmlpceoaaDoor
