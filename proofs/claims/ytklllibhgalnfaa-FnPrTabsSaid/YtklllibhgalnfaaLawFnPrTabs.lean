/- pretty's appendTabs: the prefix, and behind it the indent as often as it is asked for: up to 2^10 times, both of at most 64 bytes (the statement's own guards). -/
import Derived.Test.YtklllibhgalnfaaRows
import Derived.Test.YtklllibhgalnfaaPFnPrTabsx1
import Derived.Test.YtklllibhgalnfaaGvL
import Derived.Test.YtklllibhgalnfaaGvX
import Derived.WalkKit
import Derived.WalkSpells
import Derived.WalkLawsBesides
import Derived.Deep.RegionWith
import Derived.ProofKit
import Derived.OpenShut
import Derived.ShutString
import Derived.ChangeOld
import Derived.Below
import Derived.SizedLaws
import Derived.Outline
namespace Go.Proofs.Ytklllibhgalnfaa.fnPrTabs
open Go.ChangeShapes Go.WideShapes Go.ChangeAt Go.RowKit
open Go.ChangeMaps (open_string shut_string)
open Go.Proofs.Ytklllibhgalnfaa.G Go.Proofs.Ytklllibhgalnfaa.PFnPrTabs Go.Proofs.YtklllibhgalnfaaW.PrintWords Go.Proofs.YtklllibhgalnfaaW.PrintLast
set_option linter.unusedVariables false
set_option linter.unusedSimpArgs false

def rep (l : List Int) : Nat → List Int
  | 0 => []
  | n + 1 => rep l n ++ l
theorem rep_length (l : List Int) : ∀ n, (rep l n).length = n * l.length
  | 0 => by simp [rep]
  | n + 1 => by rw [rep, List.length_append, rep_length l n, Nat.succ_mul]
theorem rep_succ (l : List Int) : ∀ n, rep l (n + 1) = l ++ rep l n
  | 0 => by simp [rep]
  | n + 1 => by
    have h := rep_succ l n
    have e1 : rep l (n + 2) = rep l (n + 1) ++ l := rfl
    have e2 : rep l (n + 1) = rep l n ++ l := rfl
    rw [e1, h, List.append_assoc, ← e2, ← h]

/-! ### what appendTabs makes -/
theorem l1_ev (s : ByteArray) (hs : s.size ≤ 64) (t : Nat) (ht : t ≤ 1024) (d : Nat) : ∀ (j : Nat) (l : List Int), j + d = t → l.length ≤ 64 + 64 * j →
    Ev (fun k => pretty_appendTabs.l1 k l s (t : Int) (j : Int)) (l ++ rep (bytesOf s) d) := by
  induction d with
  | zero => intro j l hj hl; exact Ev.stepRet fun k => by rw [pretty_appendTabs.l1, if_neg (by omega)]; simp [rep]
  | succ d ih =>
    intro j l hj hl
    have e : wrap64 ((j : Int) + 1) = ((j + 1 : Nat) : Int) := by rw [w64 (by omega) (by omega)]; omega
    have h := ih (j + 1) (l ++ bytesOf s) (by omega) (by rw [List.length_append, bytesOf_length]; omega)
    rw [rep_succ, ← List.append_assoc]
    exact Ev.step (fun k => by rw [pretty_appendTabs.l1, if_pos (by omega), if_pos (by omega), e]) h
theorem l0_ev (t : Nat) (ht : t ≤ 1024) (d : Nat) : ∀ (j : Nat) (l : List Int), j + d = t → l.length ≤ 64 + 64 * j →
    Ev (fun k => pretty_appendTabs.l0 k l (t : Int) (j : Int)) (l ++ rep [32, 32] d) := by
  induction d with
  | zero => intro j l hj hl; exact Ev.stepRet fun k => by rw [pretty_appendTabs.l0, if_neg (by omega)]; simp [rep]
  | succ d ih =>
    intro j l hj hl
    have e : wrap64 ((j : Int) + 1) = ((j + 1 : Nat) : Int) := by rw [w64 (by omega) (by omega)]; omega
    have h := ih (j + 1) (l ++ [32, 32]) (by omega) (by simp; omega)
    rw [rep_succ, ← List.append_assoc]
    refine Ev.step (fun k => ?_) h
    rw [pretty_appendTabs.l0, if_pos (by omega), Option.bind_some, if_pos (by simp; omega), e]
theorem two_blanks {s : ByteArray} (h : s.size = 2) (h0 : bt s 0 = 32) (h1 : bt s 1 = 32) : bytesOf s = [32, 32] := by
  have hb : ∀ i : Nat, (bytesOf s).getD i 0 = bt s (i : Int) := by
    intro i
    have := rd_bytesOf s (i : Int)
    unfold rd at this
    simpa using this
  have hl := bytesOf_length s
  rw [h] at hl
  have b0 : (bytesOf s).getD 0 0 = 32 := by rw [hb 0]; exact h0
  have b1 : (bytesOf s).getD 1 0 = 32 := by rw [hb 1]; exact h1
  match hm : bytesOf s, hl, b0, b1 with
  | [a, b], _, b0, b1 => simp at b0 b1; simp [b0, b1]
theorem j0_ev (s : ByteArray) (hs : s.size ≤ 64) (t : Nat) (ht : t ≤ 1024) (l : List Int) (hl : l.length ≤ 64) : Ev (fun k => pretty_appendTabs.j0 k l s (t : Int)) (l ++ rep (bytesOf s) t) := by
  have h1 : Ev (fun k => pretty_appendTabs.j1 k l s (t : Int) false) (l ++ rep (bytesOf s) t) := by
    refine Ev.succ ?_
    simp only [pretty_appendTabs.j1, Bool.false_eq_true, if_false]
    exact l1_ev s hs t ht t 0 l (by omega) (by omega)
  refine Ev.succ ?_
  simp only [pretty_appendTabs.j0]
  by_cases h2 : s.size = 2
  · simp only [if_pos (show (s.size : Int) = 2 by omega), if_pos (show (0 : Int) < s.size by omega), if_pos (show (1 : Int) < s.size by omega)]
    by_cases h3 : bt s 0 = 32
    · simp only [if_pos h3]
      by_cases h4 : bt s 1 = 32
      · simp only [show (bt s 1 == 32) = true by simpa using h4]
        refine Ev.succ ?_
        simp only [pretty_appendTabs.j1, if_true]
        rw [two_blanks h2 h3 h4]
        exact l0_ev t ht t 0 l (by omega) (by omega)
      · simp only [show (bt s 1 == 32) = false by simpa using h4]; exact h1
    · simp only [if_neg h3]; exact h1
  · simp only [if_neg (show ¬ (s.size : Int) = 2 by omega)]; exact h1
theorem tabs_ev (p s : ByteArray) (hp : p.size ≤ 64) (hs : s.size ≤ 64) (t : Nat) (ht : t ≤ 1024) : Ev (fun k => impl_PrTabs.f k p s (t : Int)) (strOfNums (bytesOf p ++ rep (bytesOf s) t)) := by
  unfold impl_PrTabs.f pretty_DoorTabs.f
  refine Ev.bind (Ev.bind (a := bytesOf p ++ rep (bytesOf s) t) ?_ (Ev.ret fun _ => rfl)) (Ev.ret fun _ => rfl)
  unfold pretty_appendTabs.f
  by_cases h0 : p.size = 0
  · have : bytesOf p = [] := List.eq_nil_of_length_eq_zero (by rw [bytesOf_length]; exact h0)
    simp only [if_pos (show (p.size : Int) = 0 by omega), this]
    exact j0_ev s hs t ht [] (by simp)
  · simp only [if_neg (show ¬ (p.size : Int) = 0 by omega), List.length_nil, if_pos (show 0 + p.size < 140737488355328 by omega), List.nil_append]
    exact j0_ev s hs t ht (bytesOf p) (by rw [bytesOf_length]; exact hp)

/-! ### the law -/
theorem info5 : (Try.prog.info? 5).map (fun i => (i.zero, i.size, i.bytes)) = some (some (.int .u8 0), 1, 1) := by kernel_rfl
theorem ret_true {b : Bool} (h : b = true) : Ending.returned (.bool b) = .returned (.bool true) := by rw [h]

set_option maxHeartbeats 4000000 in
set_option maxRecDepth 100000 in
theorem walk_in (p s : ByteArray) (t : Nat) (w : World) (hp : p.size ≤ 64) (hs : s.size ≤ 64) (ht : t ≤ 1024) :
    Calls Try.prog 3 #[.string p, .string s, .int .i64 t] w fun e w' => e = .returned (.bool true) ∧ Below w.heap.size w w' := by
  obtain ⟨K, hK⟩ := (tabs_ev p s hp hs t ht).rounds
  have HK := Aside0.mk hK
  clear hK
  have kb := fun W => print_bytes (P := Try.prog) 9 22 5 Try.underlying9 Try.underlying22 Try.underlying5 p W
  go_enter Try.func3, Try.ntmps3
  go_wp2
  go_loopw [7, 8] (fun v i wr => ∃ j : Nat, j ≤ t ∧ i = .int .i64 j ∧ Aside0 (Buf wr w.heap.size v (bytesOf p ++ rep (bytesOf s) j)) ∧ Aside0 (Below w.heap.size w wr)) (fun _ i _ => t - (intOf i).toNat)
  case atStart => exact ⟨0, Nat.zero_le _, rfl, ⟨by have := Buf.conv w 5 p w.heap.size (Nat.le_refl _); simpa [rep] using this⟩, ⟨bytes_below (Below.refl _ _) (Nat.le_refl _) 5 p⟩⟩
  case round =>
    obtain ⟨j, hj, rfl, HB, HW⟩ := hrel
    clear kb
    by_cases hlt : j < t
    · go_wp2_with (at_builtin; refine wpList_append_buf rfl _ _ 22 9 5 rfl Try.underlying22 Try.underlying9 info5 w.heap.size _ (bytesOf p ++ rep (bytesOf s) j) rfl HB.out s rfl (by rw [List.length_append, bytesOf_length, rep_length, bytesOf_length]; have h1_ : j * s.size ≤ 1024 * 64 := Nat.mul_le_mul (by omega) hs; omega) HW.out.size ?_; intro v1 w1 hb1 hw1; have HB1 := Aside0.mk hb1; have HW1 := Aside0.mk (HW.out.trans hw1); clear hb1 hw1 HB HW)
      go_roundw
      case rel => exact ⟨j + 1, by omega, by go_num, ⟨by have := HB1.out; rwa [List.append_assoc] at this⟩, HW1⟩
      case measure => simp [intOf]; omega
    · obtain rfl : j = t := by omega
      have HBd := Aside0.mk (HB.out.below ((Below.refl wr.heap.size wr).drew))
      have hcv := HBd.out.string (P := Try.prog) 22 5 9 Try.underlying22 Try.underlying5 Try.underlying9
      go_wp2
      go_region_with (go_at_call 8; refine (impl_PrTabs.calls K p s j _ _ HK.out).mono ?_; rintro e w2 ⟨rfl, hb⟩; have hcv2 := (HBd.out.below hb).string (P := Try.prog) 22 5 9 Try.underlying22 Try.underlying5 Try.underlying9)
      all_goals go_wp2
      all_goals go_ret
      all_goals refine And.intro ?_ ?_
      all_goals first | exact below_step (HW.out.drew) hb | rfl | (simp only [beq_self_eq_true]; done) | (simp; done)
set_option maxHeartbeats 4000000 in
set_option maxRecDepth 100000 in
theorem walk (p s : ByteArray) (t : Int) (w : World) (hp : p.size ≤ 140737488351232) (hs : s.size ≤ 140737488351232) :
    Calls Try.prog 3 #[.string p, .string s, .int .i64 t] w fun e w' => e = .returned (.bool true) ∧ Below w.heap.size w w' := by
  by_cases hg : p.size ≤ 64 ∧ s.size ≤ 64 ∧ 0 ≤ t ∧ t ≤ 1024
  · obtain ⟨h1, h2, h3, h4⟩ := hg
    obtain ⟨n, rfl⟩ := Int.eq_ofNat_of_zero_le h3
    exact walk_in p s n w h1 h2 (by omega)
  · go_enter Try.func3, Try.ntmps3
    go_wp2
    all_goals first
      | (go_ret; exact ⟨rfl, Below.refl _ _⟩)
      | (exfalso; omega)

theorem own : ownKnob Try.prog.godebug = none := by kernel_rfl
set_option maxRecDepth 100000 in
theorem lifted (os : Os) (started : os.Started) (H : Type) (enc : TypeId × Value → H) :
    ReturnsInHanded {} Try.checked os 3 .any (Rows.fnPrTabsSpec.pre6 enc Try.prog Try.f3 Rows.fnPrTabsRow.domain false) (Rows.fnPrTabsSpec.post enc Try.prog Try.f3 false true false false) := by
  refine returnsInHanded_of_change_sized (C := Try.checked) own started (by kernel_rfl) Try.func3
    (ChangeSpec.witness6 (enc := enc) (C := Try.checked) false ⟨#[], #[.string ByteArray.empty, .string ByteArray.empty, .int .i64 0], []⟩ 8 (by kernel_rfl) (by kernel_rfl) (by kernel_rfl) (by kernel_rfl)) ?_
  intro W base args ds gs before hval0 hW hcnd hsz0 _
  have hsz : (DataW.weightsEach Try.prog (Try.f3.params.toList ++ Rows.fnPrTabsSpec.plain.varTypes Try.prog) (ds ++ gs)).all (· ≤ reachBytes) = true := hsz0
  have hval : ∀ (j : Nat) t v, Try.f3.params[j]? = some t → args[j]? = some v → Value.okWide Try.prog W .any base t v := hval0
  have hW' := hW
  obtain ⟨p, q, hA0, hV, rfl, hfz, hnd⟩ := hW
  have hA : DataW.TrodAll enc Try.prog W 0 (fun _ => true) true Try.f3.params.toList args.toList ds p := hA0
  rw [Try.params3] at hA hval hsz
  obtain ⟨v0, vs0, d0, ds0, p0, q0, hargs, rfl, rfl, h0, r0⟩ := trodAll_cons hA
  obtain ⟨v1, vs1, d1, ds1, p1, q1, rfl, rfl, rfl, h1, r1⟩ := trodAll_cons r0
  obtain ⟨v2, vs2, d2, ds2, p2, q2, rfl, rfl, rfl, h2, r2⟩ := trodAll_cons r1
  obtain ⟨rfl, rfl, rfl⟩ := trodAll_nil r2
  obtain rfl : args = #[v0, v1, v2] := by cases args; simp_all
  obtain ⟨rfl, rfl⟩ := trodVars_none hV
  obtain ⟨a0, rfl, rfl, rfl, y0⟩ := open_string Try.underlying9 (hval 0 9 v0 rfl rfl) h0
  have w0 : a0.size ≤ 140737488351232 := by
    have z := sized_string hsz (j := 0) (t := 9) rfl rfl
    rw [Array.length_toList] at z
    exact z
  obtain ⟨a1, rfl, rfl, rfl, y1⟩ := open_string Try.underlying9 (hval 1 9 v1 rfl rfl) h1
  have w1 : a1.size ≤ 140737488351232 := by
    have z := sized_string hsz (j := 1) (t := 9) rfl rfl
    rw [Array.length_toList] at z
    exact z
  obtain ⟨a2, rfl, rfl, rfl, w2⟩ := open_int Try.underlying3 (hval 2 3 v2 rfl rfl) h2
  clear hA0 hval0 hsz0 hsz
  refine (walk a0 a1 a2 W w0 w1).mono fun e W' ⟨he, bel⟩ => ?_
  subst he
  exact ⟨_, rfl, _, _, _, [], _, [], hW', trodAll_mk1 (shut_bool Try.underlying4 _), (trodAll_cons_mk (shut_string Try.underlying9 y0) (trodAll_cons_mk (shut_string Try.underlying9 y1) (trodAll_cons_mk (shut_int Try.underlying3 w2) trodAll_mk0))), rfl, bel.frame _, fun h => by cases h⟩
theorem over : Rows.fnPrTabsRow.holds Try.pinned (OpenSpec.ofChange Rows.fnPrTabsSpec) :=
  OpenClaim.holds_of_wide 3 Try.f3 rfl rfl rfl rfl rfl rfl rfl ⟨rfl, rfl, rfl, rfl, rfl⟩ rfl rfl rfl rfl rfl (by kernel_rfl) Try.func3 (by kernel_rfl)
    (of_decide_eq_true (by kernel_rfl)) (by unfold Func.isWrapper; first | (rw [if_pos (by decide +kernel)]; kernel_rfl) | (rw [if_neg (by decide +kernel)]; exact ⟨rfl, rfl⟩))
    (fun os started H enc _ => lifted os started H enc)
theorem proved : Rows.FnPrTabsSaid := over
#print axioms proved
end Go.Proofs.Ytklllibhgalnfaa.fnPrTabs
namespace Go.Proofs.Ytklllibhgalnfaa
/-- The row, under a short name, for the claim. -/
theorem fnPrTabs_holds : Rows.FnPrTabsSaid := fnPrTabs.proved
end Go.Proofs.Ytklllibhgalnfaa
