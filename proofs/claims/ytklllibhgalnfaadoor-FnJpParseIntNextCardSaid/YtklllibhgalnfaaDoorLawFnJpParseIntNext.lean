/- jsonparser's ParseInt at the edges of int64, with up to 1000 zeros ahead. -/
import Derived.Test.YtklllibhgalnfaaDoorRows
import Derived.Test.YtklllibhgalnfaaDoorCards
import Derived.Test.YtklllibhgalnfaaDoorTie
import Derived.Test.YtklllibhgalnfaaDoorPFnJpParseIntNextx1
import Derived.Test.YtklllibhgalnfaaDoorPFnJpParseIntNextx2
import Derived.Test.YtklllibhgalnfaaDoorGvL
import Derived.Test.YtklllibhgalnfaaDoorGvW
import Derived.WalkKit
import Derived.WalkSpells
import Derived.WalkLawsBesides
import Derived.Deep.RegionWith
import Derived.ProofKit
import Derived.OpenShut
import Derived.ShutString
import Derived.ChangeOld
import Derived.Below
import Derived.SizedLaws
import Derived.LaidMore
import Derived.Stop.LaidErr
import Derived.Stop.Joined
import Derived.SevenTiedAt
import Derived.Outline
namespace Go.Proofs.YtklllibhgalnfaaDoor.fnJpParseIntNext
open Go.ChangeShapes Go.WideShapes Go.ChangeAt Go.RowKit
open Go.ChangeMaps (open_string shut_string)
open Go.Proofs.YtklllibhgalnfaaDoor.G Go.Proofs.YtklllibhgalnfaaDoor.PFnJpParseIntNext Go.Proofs.YtklllibhgalnfaaDoorW.PrintWords Go.Proofs.YtklllibhgalnfaaDoorW.PrintLast Go.Proofs.YtklllibhgalnfaaDoorW.PrintMore
set_option linter.unusedVariables false
set_option linter.unusedSimpArgs false

/-- The sentinels' cells. -/
def GL (w : World) : Prop := ∃ p0 p1 : Addr, w.cell? ⟨0, 0, none⟩ = some (.iface 34 (.pointer (some p0))) ∧ w.cell? ⟨1, 0, none⟩ = some (.iface 34 (.pointer (some p1)))
theorem GL.below {w w' : World} (h : GL w) (hb : Below w.heap.size w w') : GL w' := by
  obtain ⟨p0, p1, h0, h1⟩ := h
  refine ⟨p0, p1, ?_, ?_⟩
  · rw [hb.cell (p := ⟨0, 0, none⟩) (World.block_lt_of_cell? w _ h0)]; exact h0
  · rw [hb.cell (p := ⟨1, 0, none⟩) (World.block_lt_of_cell? w _ h1)]; exact h1
theorem V_of_conv {w : World} {A : Option Addr} {c : Nat} {xs : List Int} (h : Kd.C (Kd.int .u8) w A xs.length xs) (hc : xs.length ≤ c) : Kd.V (Kd.int .u8) 5 w w.heap.size (fun k => k < w.heap.size) (.slice A xs.length c) xs :=
  Kd.V_mk hc (Kd.C_F (Kd.heap_int .u8) h)

def ErrOf (ok : Bool) (v : Value) : Prop := if ok = true then v = .nilIface else ∃ p : Addr, v = .iface 34 (.pointer (some p))
set_option maxHeartbeats 4000000 in
set_option maxRecDepth 100000 in
theorem ParseInt_calls (k : Nat) (ok : Nat → Prop) (A : Option Addr) (c : Nat) (l : List Int) (r1 : Int) (r2 r3 : Bool) (w : World) (hG : GL w) (hs : Kd.V (Kd.int .u8) 5 w w.heap.size ok (.slice A l.length c) l) (h : jsonparser_parseInt.f k l = some (r1, r2, r3)) :
    Calls Tryd.prog 6 #[.slice A l.length c] w fun e w' => ∃ v, e = .returned (.tuple #[.int .i64 (if r2 = true then r1 else 0), v]) ∧ ErrOf r2 v ∧ Below w.heap.size w w' := by
  cases r2
  · cases r3
    · go_enter Tryd.func6, Tryd.ntmps6
      go_wp2_with (go_at_call 7; refine (jsonparser_parseInt.calls k ok A c l r1 _ _ w hs h).mono ?_; rintro e w2 ⟨rfl, hb⟩; obtain ⟨p0, p1, g0, g1⟩ := hG.below hb; replace g0 : w2.drew.cell? ⟨0, 0, none⟩ = _ := g0; replace g1 : w2.drew.cell? ⟨1, 0, none⟩ = _ := g1)
      all_goals go_region
      all_goals go_wp2
      all_goals go_ret2
      all_goals exact ⟨_, rfl, ⟨p1, rfl⟩, hb.drew⟩
    · go_enter Tryd.func6, Tryd.ntmps6
      go_wp2_with (go_at_call 7; refine (jsonparser_parseInt.calls k ok A c l r1 _ _ w hs h).mono ?_; rintro e w2 ⟨rfl, hb⟩; obtain ⟨p0, p1, g0, g1⟩ := hG.below hb; replace g0 : w2.drew.cell? ⟨0, 0, none⟩ = _ := g0; replace g1 : w2.drew.cell? ⟨1, 0, none⟩ = _ := g1)
      all_goals go_region
      all_goals go_wp2
      all_goals go_ret2
      all_goals exact ⟨_, rfl, ⟨p0, rfl⟩, hb.drew⟩
  · go_enter Tryd.func6, Tryd.ntmps6
    go_wp2_with (go_at_call 7; refine (jsonparser_parseInt.calls k ok A c l r1 _ _ w hs h).mono ?_; rintro e w2 ⟨rfl, hb⟩)
    go_ret2
    exact ⟨_, rfl, rfl, hb⟩

set_option maxHeartbeats 4000000 in
set_option maxRecDepth 100000 in
theorem JpParseInt_calls (k : Nat) (s : ByteArray) (r1 : Int) (r2 r3 : Bool) (w : World) (hG : GL w) (hs : s.size ≤ 9223372036854775807) (h : jsonparser_parseInt.f k (bytesOf s) = some (r1, r2, r3)) :
    Calls Tryd.prog 5 #[.string s] w fun e w' => e = .returned (.tuple #[.int .i64 (if r2 = true then r1 else 0), .bool r2]) ∧ Below w.heap.size w w' := by
  cases r2
  · go_enter Tryd.func5, Tryd.ntmps5
    go_wp2_with (first
      | ((with_reducible refine gate_dst (N := 8) rfl ?_); refine conv_event rfl (N := 8) rfl 9 22 5 _ rfl s rfl Tryd.underlying9 Tryd.underlying22 Tryd.underlying5 hs ?_; intro A c w1 hC hcap hb1)
      | (go_at_call 6; refine (ParseInt_calls k _ A c (bytesOf s) r1 false r3 _ (hG.below hb1) (V_of_conv hC hcap) h).mono ?_; rintro e w2 ⟨v, rfl, hv, hb⟩; obtain ⟨p, rfl⟩ : ∃ p : Addr, v = .iface 34 (.pointer (some p)) := hv))
    go_ret2
    exact ⟨rfl, below_step hb1 hb⟩
  · go_enter Tryd.func5, Tryd.ntmps5
    go_wp2_with (first
      | ((with_reducible refine gate_dst (N := 8) rfl ?_); refine conv_event rfl (N := 8) rfl 9 22 5 _ rfl s rfl Tryd.underlying9 Tryd.underlying22 Tryd.underlying5 hs ?_; intro A c w1 hC hcap hb1)
      | (go_at_call 6; refine (ParseInt_calls k _ A c (bytesOf s) r1 true r3 _ (hG.below hb1) (V_of_conv hC hcap) h).mono ?_; rintro e w2 ⟨v, rfl, hv, hb⟩; obtain rfl : v = .nilIface := hv))
    go_ret2
    exact ⟨rfl, below_step hb1 hb⟩

/-! ### what is computed -/
theorem rd_at (pre r : List Int) (c : Int) : rd (pre ++ c :: r) (pre.length : Int) = c := by unfold rd; simp
theorem make0_l (n : Nat) (d : Nat) : ∀ i : Nat, i + d = n → n ≤ 1000 → Ev (fun k => laws_make0.l0 k (List.replicate i 48 ++ List.replicate d 0) (n : Int) (i : Int)) (List.replicate n (48 : Int)) := by
  induction d with
  | zero =>
    intro i hi hn
    exact Ev.stepRet fun k => by rw [laws_make0.l0, if_neg (by omega)]; simp; omega
  | succ d ih =>
    intro i hi hn
    have h := ih (i + 1) (by omega) hn
    refine Ev.step (fun k => ?_) h
    rw [laws_make0.l0, if_pos (by omega), if_pos (by omega), if_pos (by simp; omega), w64 (by omega) (by omega)]
    congr 1
    · have e : (List.replicate i (48 : Int) ++ List.replicate (d + 1) 0).set (i : Int).toNat 48 = List.replicate (i + 1) 48 ++ List.replicate d 0 := by
        rw [List.replicate_succ (n := d), List.replicate_succ' (n := i), Int.toNat_natCast, List.set_append, if_neg (by simp), List.length_replicate, Nat.sub_self, List.set_cons_zero, List.append_assoc]
        rfl
      exact e
theorem make0_ev (n : Nat) (hn : n ≤ 1000) : Ev (fun k => laws_make0.f k (n : Int)) (List.replicate n (48 : Int)) := by
  unfold laws_make0.f
  simp only [if_pos (show (0 : Int) ≤ (n : Int) by omega), if_pos (show ((n : Int)).toNat ≤ 281474976710656 by omega), Option.bind_some]
  have h := make0_l n n 0 (by omega) hn
  simpa using h

def val : Int → List Int → Int
  | n, [] => n
  | n, c :: r => val (n * 10 + (c - 48)) r
def okd : Int → List Int → Prop
  | _, [] => True
  | n, c :: r => 48 ≤ c ∧ c ≤ 57 ∧ 0 ≤ n ∧ n ≤ 1844674407370955161 ∧ n * 10 + (c - 48) < 18446744073709551616 ∧ okd (n * 10 + (c - 48)) r
def fin (neg : Bool) (n : Int) : Int × Bool × Bool :=
  if n > 9223372036854775807 then (if neg = true ∧ n = 9223372036854775808 then (-9223372036854775808, true, false) else (0, false, true)) else (if neg = true then (-n, true, false) else (n, true, false))
theorem fin_small {neg : Bool} {n : Int} (h : ¬ n > 9223372036854775807) : fin neg n = if neg = true then (-n, true, false) else (n, true, false) := by unfold fin; rw [if_neg h]
theorem fin_big {neg : Bool} {n : Int} (h : n > 9223372036854775807) : fin neg n = if neg = true ∧ n = 9223372036854775808 then (-9223372036854775808, true, false) else (0, false, true) := by unfold fin; rw [if_pos h]
theorem u64 {x : Int} (h0 : 0 ≤ x) (h1 : x < 18446744073709551616) : IntKind.u64.wrap x = x := by simp [IntKind.wrap, IntKind.bits, IntKind.signed]; omega
theorem l1_ev (neg : Bool) (xs : List Int) (hx : xs.length ≤ 2000) : ∀ (ds pre : List Int) (n : Int), xs = pre ++ ds → okd n ds → 0 ≤ n → n < 18446744073709551616 → Ev (fun k => jsonparser_parseInt.l1 k neg n xs (xs.length : Int) (pre.length : Int)) (fin neg (val n ds)) := by
  intro ds
  induction ds with
  | nil =>
    intro pre n e _ h0 h1
    subst e
    refine Ev.succ ?_
    simp only [jsonparser_parseInt.l1, List.append_nil, if_neg (show ¬ ((pre.length : Int) < (pre.length : Int)) by omega), val]
    by_cases hn : n > 9223372036854775807
    · rw [fin_big hn]
      simp only [if_pos hn]
      cases neg
      · simp only [Bool.false_eq_true, if_false, false_and]
        exact Ev.stepRet fun k => by simp [jsonparser_parseInt.j5]
      · simp only [if_true, true_and]
        by_cases hm : n = 9223372036854775808
        · simp only [if_pos hm]
          exact Ev.stepRet fun k => by simp [jsonparser_parseInt.j5, hm]
        · simp only [if_neg hm]
          exact Ev.stepRet fun k => by simp [jsonparser_parseInt.j5, hm]
    · rw [fin_small hn]
      simp only [if_neg hn]
      cases neg
      · simp only [Bool.false_eq_true, if_false]
        rw [w64 (by omega) (by omega)]
        exact Ev.ret fun _ => rfl
      · simp only [if_true]
        rw [w64 (x := n) (by omega) (by omega), w64 (by omega) (by omega)]
        exact Ev.ret fun _ => rfl
  | cons c r ih =>
    intro pre n e ho h0 h1
    obtain ⟨h48, h57, hn0, hn1, hn2, hok⟩ := ho
    have hl : xs.length = pre.length + (r.length + 1) := by rw [e]; simp
    have hc : rd xs (pre.length : Int) = c := by rw [e, rd_at]
    have h := ih (pre ++ [c]) (n * 10 + (c - 48)) (by rw [e]; simp) hok (by omega) hn2
    refine Ev.step (f := fun k => jsonparser_parseInt.j4 k neg n c xs (xs.length : Int) (pre.length : Int) false) (fun k => ?_) ?_
    · rw [jsonparser_parseInt.l1, if_pos (by omega), if_pos (by omega), if_pos (by omega), hc, if_neg (by omega)]
      simp only [show decide (c > 57) = false from decide_eq_false (by omega)]
    · refine Ev.step (fun k => ?_) h
      have e1 : (c - 48) % 256 = c - 48 := by omega
      rw [jsonparser_parseInt.j4, if_neg (by simp), if_neg (by omega), e1, u64 (x := n * 10) (by omega) (by omega), u64 (by omega) hn2, if_neg (by omega), w64 (by omega) (by omega)]
      simp
theorem parse_pos (xs : List Int) (hx : xs.length ≤ 1500) (h19 : 19 ≤ xs.length) (h0 : rd xs 0 ≠ 45) (hok : okd 0 xs) : Ev (fun k => jsonparser_parseInt.f k xs) (fin false (val 0 xs)) := by
  unfold jsonparser_parseInt.f
  simp only [if_neg (show ¬ (xs.length : Int) = 0 by omega), if_pos (show (0 : Int) < xs.length by omega), if_neg h0]
  refine Ev.succ ?_
  simp only [jsonparser_parseInt.j0, if_neg (show ¬ (0 : Int) = xs.length by omega), w64 (x := (xs.length : Int) - 0) (by omega) (by omega), if_neg (show ¬ (xs.length : Int) - 0 < 19 by omega), Bool.false_eq_true, if_false]
  refine Ev.succ ?_
  simp only [jsonparser_parseInt.j2]
  exact l1_ev false xs (by omega) xs [] 0 rfl hok (by omega) (by omega)
theorem parse_neg (xs : List Int) (hx : xs.length ≤ 1500) (h19 : 19 ≤ xs.length) (hok : okd 0 xs) : Ev (fun k => jsonparser_parseInt.f k (45 :: xs)) (fin true (val 0 xs)) := by
  unfold jsonparser_parseInt.f
  have hl : ((45 :: xs).length : Int) = xs.length + 1 := by simp
  simp only [hl, if_neg (show ¬ (xs.length : Int) + 1 = 0 by omega), if_pos (show (0 : Int) < xs.length + 1 by omega), if_pos (show rd (45 :: xs) 0 = 45 by simp [rd])]
  refine Ev.succ ?_
  simp only [jsonparser_parseInt.j0, hl, if_neg (show ¬ (1 : Int) = xs.length + 1 by omega), w64 (x := (xs.length : Int) + 1 - 1) (by omega) (by omega), if_neg (show ¬ (xs.length : Int) + 1 - 1 < 19 by omega), if_true, if_pos (show (1 : Int) ≤ xs.length + 1 by omega), List.drop_succ_cons, List.drop_zero]
  refine Ev.succ ?_
  simp only [jsonparser_parseInt.j2]
  exact l1_ev true xs (by omega) xs [] 0 rfl hok (by omega) (by omega)
theorem okd_zeros (ds : List Int) (z : Nat) (h : okd 0 ds) : okd 0 (List.replicate z 48 ++ ds) ∧ val 0 (List.replicate z 48 ++ ds) = val 0 ds := by
  induction z with
  | zero => simpa using h
  | succ z ih => simp only [List.replicate_succ, List.cons_append, okd, val]; simpa using ih

def lit7 : ByteArray := ⟨#[57, 50, 50, 51, 51, 55, 50, 48, 51, 54, 56, 53, 52, 55, 55, 53, 56, 48, 55]⟩
def lit8 : ByteArray := ⟨#[57, 50, 50, 51, 51, 55, 50, 48, 51, 54, 56, 53, 52, 55, 55, 53, 56, 48, 56]⟩
def lit9 : ByteArray := ⟨#[57, 50, 50, 51, 51, 55, 50, 48, 51, 54, 56, 53, 52, 55, 55, 53, 56, 48, 57]⟩
def minus : ByteArray := ⟨#[45]⟩
def zs (z : Nat) : ByteArray := strOfNums (List.replicate z 48)
theorem bytesOf_append (s t : ByteArray) : bytesOf (s ++ t) = bytesOf s ++ bytesOf t := by simp [bytesOf, ByteArray.data_append]
theorem bytesOf_zs (z : Nat) : bytesOf (zs z) = List.replicate z 48 := by
  unfold bytesOf zs
  rw [strOfNums_data]
  simp
theorem zs_size (z : Nat) : (zs z).size = z := by unfold zs; rw [strOfNums_size, List.length_replicate]
theorem rd_zeros (z : Nat) (ds : List Int) (h : ds.getD 0 0 ≠ 45) : rd (List.replicate z 48 ++ ds) 0 ≠ 45 := by
  unfold rd
  cases z with
  | zero => simpa using h
  | succ z => simp [List.replicate_succ]
theorem four (z : Nat) (hz : z ≤ 1000) : ∃ k, jsonparser_parseInt.f k (bytesOf (zs z ++ lit7)) = some (9223372036854775807, true, false) ∧ jsonparser_parseInt.f k (bytesOf (zs z ++ lit8)) = some (0, false, true) ∧
    jsonparser_parseInt.f k (bytesOf (minus ++ zs z ++ lit8)) = some (-9223372036854775808, true, false) ∧ jsonparser_parseInt.f k (bytesOf (minus ++ zs z ++ lit9)) = some (0, false, true) ∧ laws_make0.f k (z : Int) = some (List.replicate z 48) := by
  have b7 : bytesOf lit7 = [57, 50, 50, 51, 51, 55, 50, 48, 51, 54, 56, 53, 52, 55, 55, 53, 56, 48, 55] := by decide +kernel
  have b8 : bytesOf lit8 = [57, 50, 50, 51, 51, 55, 50, 48, 51, 54, 56, 53, 52, 55, 55, 53, 56, 48, 56] := by decide +kernel
  have b9 : bytesOf lit9 = [57, 50, 50, 51, 51, 55, 50, 48, 51, 54, 56, 53, 52, 55, 55, 53, 56, 48, 57] := by decide +kernel
  have bm : bytesOf minus = [45] := by decide +kernel
  have o7 := okd_zeros [57, 50, 50, 51, 51, 55, 50, 48, 51, 54, 56, 53, 52, 55, 55, 53, 56, 48, 55] z (by simp [okd])
  have o8 := okd_zeros [57, 50, 50, 51, 51, 55, 50, 48, 51, 54, 56, 53, 52, 55, 55, 53, 56, 48, 56] z (by simp [okd])
  have o9 := okd_zeros [57, 50, 50, 51, 51, 55, 50, 48, 51, 54, 56, 53, 52, 55, 55, 53, 56, 48, 57] z (by simp [okd])
  obtain ⟨k1, h1⟩ := parse_pos _ (by simp; omega) (by simp) (rd_zeros z _ (by simp)) o7.1
  obtain ⟨k2, h2⟩ := parse_pos _ (by simp; omega) (by simp) (rd_zeros z _ (by simp)) o8.1
  obtain ⟨k3, h3⟩ := parse_neg _ (by simp; omega) (by simp) o8.1
  obtain ⟨k4, h4⟩ := parse_neg _ (by simp; omega) (by simp) o9.1
  obtain ⟨k5, h5⟩ := make0_ev z hz
  rw [o7.2] at h1
  rw [o8.2] at h2 h3
  rw [o9.2] at h4
  refine ⟨max k1 (max k2 (max k3 (max k4 k5))), ?_, ?_, ?_, ?_, ?_⟩
  · rw [bytesOf_append, bytesOf_zs, b7]; exact (h1 _ (by omega)).trans (by decide +kernel)
  · rw [bytesOf_append, bytesOf_zs, b8]; exact (h2 _ (by omega)).trans (by decide +kernel)
  · rw [bytesOf_append, bytesOf_append, bytesOf_zs, b8, bm, List.append_assoc, List.singleton_append]; exact (h3 _ (by omega)).trans (by decide +kernel)
  · rw [bytesOf_append, bytesOf_append, bytesOf_zs, b9, bm, List.append_assoc, List.singleton_append]; exact (h4 _ (by omega)).trans (by decide +kernel)
  · exact h5 _ (by omega)
set_option maxHeartbeats 4000000 in
set_option maxRecDepth 100000 in
theorem walk_in (z : Nat) (hz : z ≤ 1000) (w : World) (hG : GL w) :
    Calls Tryd.prog 3 #[.int .i64 z] w fun e w' => e = .returned (.bool true) ∧ Below w.heap.size w w' := by
  obtain ⟨k, h1, h2, h3, h4, h5⟩ := four z hz
  have s7 : lit7.size = 19 := rfl
  have s8 : lit8.size = 19 := rfl
  have s9 : lit9.size = 19 := rfl
  have sm : minus.size = 1 := rfl
  have sz := zs_size z
  go_enter Tryd.func3, Tryd.ntmps3
  have q1 : ¬ 9223372036854775807 < (zs z).size + 19 := by omega
  have q2 : ¬ 9223372036854775807 < 1 + (zs z).size := by omega
  have q3 : ¬ 9223372036854775807 < 1 + (zs z).size + 19 := by omega
  have t7 : (zs z ++ lit7).size ≤ 9223372036854775807 := by rw [ByteArray.size_append]; omega
  have t8 : (zs z ++ lit8).size ≤ 9223372036854775807 := by rw [ByteArray.size_append]; omega
  have m8 : (minus ++ zs z ++ lit8).size ≤ 9223372036854775807 := by rw [ByteArray.size_append, ByteArray.size_append]; omega
  have m9 : (minus ++ zs z ++ lit9).size ≤ 9223372036854775807 := by rw [ByteArray.size_append, ByteArray.size_append]; omega
  have C1 : ∀ W, GL W → Calls Tryd.prog 5 #[.string (zs z ++ (ByteArray.mk #[57, 50, 50, 51, 51, 55, 50, 48, 51, 54, 56, 53, 52, 55, 55, 53, 56, 48, 55]))] W fun e w' => e = .returned (.tuple #[.int .i64 9223372036854775807, .bool true]) ∧ Below W.heap.size W w' := fun W hW => JpParseInt_calls k (zs z ++ lit7) _ _ _ _ hW t7 h1
  have C2 : ∀ W, GL W → Calls Tryd.prog 5 #[.string (zs z ++ (ByteArray.mk #[57, 50, 50, 51, 51, 55, 50, 48, 51, 54, 56, 53, 52, 55, 55, 53, 56, 48, 56]))] W fun e w' => e = .returned (.tuple #[.int .i64 0, .bool false]) ∧ Below W.heap.size W w' := fun W hW => JpParseInt_calls k (zs z ++ lit8) _ _ _ _ hW t8 h2
  have C3 : ∀ W, GL W → Calls Tryd.prog 5 #[.string (ByteArray.mk #[45] ++ zs z ++ (ByteArray.mk #[57, 50, 50, 51, 51, 55, 50, 48, 51, 54, 56, 53, 52, 55, 55, 53, 56, 48, 56]))] W fun e w' => e = .returned (.tuple #[.int .i64 (-9223372036854775808), .bool true]) ∧ Below W.heap.size W w' := fun W hW => JpParseInt_calls k (minus ++ zs z ++ lit8) _ _ _ _ hW m8 h3
  have C4 : ∀ W, GL W → Calls Tryd.prog 5 #[.string (ByteArray.mk #[45] ++ zs z ++ (ByteArray.mk #[57, 50, 50, 51, 51, 55, 50, 48, 51, 54, 56, 53, 52, 55, 55, 53, 56, 48, 57]))] W fun e w' => e = .returned (.tuple #[.int .i64 0, .bool false]) ∧ Below W.heap.size W w' := fun W hW => JpParseInt_calls k (minus ++ zs z ++ lit9) _ _ _ _ hW m9 h4
  clear h1 h2 h3 h4 t7 t8 m8 m9 s7 s8 s9 sm sz
  go_wp2_with (first
    | (go_at_call 4; refine (laws_make0.calls k z _ _ h5).mono ?_; rintro e w2 ⟨v0, rfl, hR, hb⟩; have hcv := own_string (P := Tryd.prog) Tryd.underlying22 Tryd.underlying5 Tryd.underlying9 (Kd.own_of_R hR); replace hcv : (convert 22 9 v0).run Tryd.prog w2 = .ok (.string (zs z)) w2 := hcv; have HB := below_step (Below.refl w.heap.size w) hb)
    | (go_at_call 5; first
        | with_reducible refine (C1 _ (hG.below HB)).mono ?_
        | with_reducible refine (C2 _ (hG.below HB)).mono ?_
        | with_reducible refine (C3 _ (hG.below HB)).mono ?_
        | with_reducible refine (C4 _ (hG.below HB)).mono ?_
       rintro e w3 ⟨rfl, hb3⟩; replace HB := below_step HB hb3; clear hb3))
  go_ret
  exact ⟨rfl, HB⟩

set_option maxHeartbeats 4000000 in
set_option maxRecDepth 100000 in
theorem walk (z : Int) (w : World) (hG : GL w) : Calls Tryd.prog 3 #[.int .i64 z] w fun e w' => e = .returned (.bool true) ∧ Below w.heap.size w w' := by
  by_cases hg : 0 ≤ z ∧ z ≤ 1000
  · obtain ⟨n, rfl⟩ := Int.eq_ofNat_of_zero_le hg.1
    exact walk_in n (by omega) w hG
  · go_enter Tryd.func3, Tryd.ntmps3
    go_wp2
    all_goals first
      | (go_ret; exact ⟨rfl, Below.refl _ _⟩)
      | (exfalso; omega)

/-! ### the row and the card -/
theorem own : ownKnob Tryd.prog.godebug = none := by kernel_rfl
theorem g0 : Tryd.prog.globalNamed "pub-tetrapla/pub/jsonparser.OverflowIntegerError" = some 0 := by kernel_rfl
theorem g1 : Tryd.prog.globalNamed "pub-tetrapla/pub/jsonparser.MalformedValueError" = some 1 := by kernel_rfl
theorem t0 : (Tryd.prog.globals[0]?).map (·.type) = some 28 := by kernel_rfl
theorem t1 : (Tryd.prog.globals[1]?).map (·.type) = some 28 := by kernel_rfl
theorem star : "*" ++ "errors.errorString" = "*errors.errorString" := by decide
theorem row34 (u : TypeId) (h : Tryd.prog.typeName? 3 u = some "*errors.errorString") : u = 34 :=
  typeName_ptr_named (nm := "errors.errorString") (by rw [star]; kernel_rfl) (by kernel_rfl) (by decide) u (by rw [star]; exact h)
theorem cells52 : Tryd.prog.cellsOf 52 = 1 := by kernel_rfl
theorem cells9 : Tryd.prog.cellsOf 9 = 1 := by kernel_rfl
theorem of_laid {W : World} (h : laidMetH Tryd.prog Rows.fnJpParseIntNextRow.laid W) : GL W := by
  rw [MakeChecks.laidMetH_plain _ _ _ (by kernel_rfl)] at h
  obtain ⟨a1, s1, hv1, _⟩ := laid_sentinel h g1 t1 Tryd.underlying28 row34 Tryd.underlying34 Tryd.underlying52 rfl rfl Tryd.underlying9 cells52 cells9
  obtain ⟨a0, s0, hv0, _⟩ := laid_sentinel h.tail g0 t0 Tryd.underlying28 row34 Tryd.underlying34 Tryd.underlying52 rfl rfl Tryd.underlying9 cells52 cells9
  exact ⟨a0, a1, by have := World.var?_cell g0 hv0 0; simpa using this, by have := World.var?_cell g1 hv1 0; simpa using this⟩
theorem door_met (os : Os) (args : Array Value) : laidMetH Tryd.prog Rows.fnJpParseIntNextRow.laid ((World.doorLaid Tryd.prog 400 os).forCall (fun _ _ => 0) ⟨#[], args, []⟩).memory :=
  laidMetH_of_parts3 (fuel := 8) (laidMet_of_run' 8 (by kernel_rfl) (by kernel_rfl)) (by kernel_rfl) (by kernel_rfl)
set_option maxRecDepth 100000 in
theorem lifted (os : Os) (started : os.Started) (H : Type) (enc : TypeId × Value → H) :
    ReturnsInHanded {} Tryd.checked os 3 .any (fun w args => (Rows.fnJpParseIntNextSpec.pre enc Tryd.prog Tryd.f3 [] false w args ∧ laidMetH Tryd.prog Rows.fnJpParseIntNextRow.laid w) ∧ sizedMet enc Tryd.prog Tryd.f3 (OpenSpec.ofChange Rows.fnJpParseIntNextSpec) false w args)
      (Rows.fnJpParseIntNextSpec.post enc Tryd.prog Tryd.f3 false true false false) := by
  refine returnsInHanded_of_change_and (C := Tryd.checked) (X := fun w _ => laidMetH Tryd.prog Rows.fnJpParseIntNextRow.laid w) (fun _ _ _ hh h => h.of_heap hh) own started (by kernel_rfl) Tryd.func3
    (ChangeSpec.witness_shaped (enc := enc) (C := Tryd.checked) (os := os) (X := fun w _ => laidMetH Tryd.prog Rows.fnJpParseIntNextRow.laid w) false (World.doorLaid Tryd.prog 400 os) #[.int .i64 0] 8 rfl (World.shaped_of_RefB (by kernel_rfl) (by kernel_rfl)) (by kernel_rfl) (by kernel_rfl) (by kernel_rfl) (door_met os _)) ?_
  intro W base args ds gs before hval0 hW _ _ hL _
  have hval : ∀ (j : Nat) t v, Tryd.f3.params[j]? = some t → args[j]? = some v → Value.okWide Tryd.prog W .any base t v := hval0
  have hW' := hW
  obtain ⟨p, q, hA0, hV, rfl, hfz, hnd⟩ := hW
  have hA : DataW.TrodAll enc Tryd.prog W 0 (fun _ => true) true Tryd.f3.params.toList args.toList ds p := hA0
  rw [Tryd.params3] at hA hval
  obtain ⟨v0, d0, rfl, rfl, h0⟩ := trodAll_one hA
  obtain ⟨rfl, rfl⟩ := trodVars_none hV
  obtain ⟨a0, rfl, rfl, rfl, w0⟩ := open_int Tryd.underlying3 (hval 0 3 v0 rfl rfl) h0
  clear hA0 hval0
  refine (walk a0 W (of_laid hL)).mono fun e W' ⟨he, bel⟩ => ?_
  subst he
  exact ⟨_, rfl, _, _, _, [], _, [], hW', trodAll_mk1 (shut_bool Tryd.underlying4 _), trodAll_mk1 (shut_int Tryd.underlying3 w0), rfl, bel.frame _, fun h => by cases h⟩
theorem row_holds : Rows.FnJpParseIntNextSaid :=
  OpenClaim.holds_of_wide 3 Tryd.f3 rfl rfl rfl rfl rfl rfl rfl ⟨rfl, rfl, rfl, rfl, rfl⟩ rfl rfl rfl rfl rfl (by kernel_rfl) Tryd.func3 (by kernel_rfl)
    (of_decide_eq_true (by kernel_rfl)) (by unfold Func.isWrapper; first | (rw [if_pos (by decide +kernel)]; kernel_rfl) | (rw [if_neg (by decide +kernel)]; exact ⟨rfl, rfl⟩))
    (fun os started H enc _ => lifted os started H enc)
theorem proved : Rows.FnJpParseIntNextCardSaid :=
  Claim7.holds_tied_plain_at .later [] [.sentinel, .sentinel] true (true, "3fe7b3110447f585d61b1a0b6db2ba5f6a328dbfbb9101d48a2e6cf163c97540") false
    row_holds (fun _ h => by cases h) (by kernel_rfl) (fun _ h => by cases h) fnJpParseIntNext_row_tie rfl ⟨rfl, rfl⟩ (by kernel_rfl) rfl
    (fun f fn hf hfn => by
      obtain rfl : f = 3 := Option.some.inj ((show Tryd.prog.funcNamed "pub-tetrapla/laws.FnJpParseIntNext" = some 3 by kernel_rfl).symm.trans hf) |>.symm
      obtain rfl : fn = Tryd.f3 := (Option.some.inj (Tryd.func3.symm.trans hfn)).symm
      exact ⟨by kernel_rfl, fun j t ht => by
        rw [Tryd.params3] at ht
        have hm : t ∈ [3] := by simpa using Array.mem_of_getElem? ht
        have hall : ([3].all fun u => !Tryd.prog.wantsStandIn u) = true := by kernel_rfl
        exact (show Tryd.prog.wantsStandIn t = false by simpa using List.all_eq_true.1 hall t hm)⟩)
    (by kernel_rfl)
#print axioms proved
end Go.Proofs.YtklllibhgalnfaaDoor.fnJpParseIntNext
namespace Go.Proofs.YtklllibhgalnfaaDoor
/-- The card, under a short name, for the claim. -/
theorem fnJpParseIntNext_holds : Rows.FnJpParseIntNextCardSaid := fnJpParseIntNext.proved
end Go.Proofs.YtklllibhgalnfaaDoor
