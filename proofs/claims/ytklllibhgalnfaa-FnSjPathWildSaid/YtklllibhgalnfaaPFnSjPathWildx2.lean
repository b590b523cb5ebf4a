-- printed by a program of this session
import Derived.Test.YtklllibhgalnfaaPFnSjPathWildx0
import Derived.Test.YtklllibhgalnfaaPFnSjPathWildx1
namespace Go.Proofs.Ytklllibhgalnfaa.PFnSjPathWild
open Go.RowKit Go.Proofs.Ytklllibhgalnfaa.G Go.Proofs.YtklllibhgalnfaaW.PrintWords Go.Proofs.YtklllibhgalnfaaW.PrintLast Go.Proofs.YtklllibhgalnfaaW.PrintMore
attribute [local go_sem] max2_int min2_int max_two min_two max_three min_three max_four min_four   -- for this text's walks alone
set_option linter.unusedVariables false
set_option linter.unusedSimpArgs false

/-! ### sjson_parsePath: function 35 -/
mutual
def sjson_parsePath.j0 : Nat → ByteArray → Bool → ByteArray → ByteArray → ByteArray → Bool → Bool → Option (ByteArray × ByteArray × ByteArray × Bool × Bool × Bool)
  | 0, _, _, _, _, _, _, _ => none
  | k + 1, x0, x15, x103000, x103001, x103002, x103003, x103004 => if x15 = true then (if 1 ≤ (x0.size : Int) then (sjson_parsePath.j1 k (x0.extract 1 x0.size) x103000 x103001 x103002 true x103004) else (none)) else (sjson_parsePath.j1 k x0 x103000 x103001 x103002 x103003 x103004)
def sjson_parsePath.j1 : Nat → ByteArray → ByteArray → ByteArray → ByteArray → Bool → Bool → Option (ByteArray × ByteArray × ByteArray × Bool × Bool × Bool)
  | 0, _, _, _, _, _, _ => none
  | k + 1, x0, x103000, x103001, x103002, x103003, x103004 => sjson_parsePath.l0 k x0 0 x103000 x103001 x103002 x103003 x103004
def sjson_parsePath.l0 : Nat → ByteArray → Int → ByteArray → ByteArray → ByteArray → Bool → Bool → Option (ByteArray × ByteArray × ByteArray × Bool × Bool × Bool)
  | 0, _, _, _, _, _, _, _ => none
  | k + 1, x0, x5, x103000, x103001, x103002, x103003, x103004 => if x5 < (x0.size : Int) then (if 0 ≤ x5 then (if (bt x0 x5) = 46 then (if x5 ≤ (x0.size : Int) then (if 0 ≤ (wrap64 (x5 + 1)) then (if (wrap64 (x5 + 1)) ≤ (x0.size : Int) then (some (x0.extract 0 (x5 : Int).toNat, x0.extract 0 (x5 : Int).toNat, x0.extract ((wrap64 (x5 + 1)) : Int).toNat x0.size, x103003, true, true)) else (none)) else (none)) else (none)) else ((sjson_isSimpleChar.f (bt x0 x5)).bind fun t103 => (if t103 = true then (if (bt x0 x5) = 92 then (if x5 ≤ (x0.size : Int) then (none) else (none)) else (sjson_parsePath.l0 k x0 (wrap64 (x5 + 1)) x103000 x103001 x103002 x103003 x103004)) else (some (x103000, x103001, x103002, x103003, x103004, false))))) else (none)) else (some (x0, x0, x103002, x103003, x103004, true))
end
def sjson_parsePath.f (k : Nat) (a0 : ByteArray) : Option (ByteArray × ByteArray × ByteArray × Bool × Bool × Bool) := if (a0.size : Int) > 0 then (if 0 < (a0.size : Int) then (sjson_parsePath.j0 k a0 ((bt a0 0) == 58) (⟨#[]⟩ : ByteArray) (⟨#[]⟩ : ByteArray) (⟨#[]⟩ : ByteArray) false false) else (none)) else (sjson_parsePath.j0 k a0 false (⟨#[]⟩ : ByteArray) (⟨#[]⟩ : ByteArray) (⟨#[]⟩ : ByteArray) false false)
theorem sjson_parsePath.mono_l : ∀ k, (∀ y0 y1 y2 y3 y4 y5 y6, LeO (sjson_parsePath.j0 k y0 y1 y2 y3 y4 y5 y6) (sjson_parsePath.j0 (k + 1) y0 y1 y2 y3 y4 y5 y6)) ∧ (∀ y0 y1 y2 y3 y4 y5, LeO (sjson_parsePath.j1 k y0 y1 y2 y3 y4 y5) (sjson_parsePath.j1 (k + 1) y0 y1 y2 y3 y4 y5)) ∧ (∀ y0 y1 y2 y3 y4 y5 y6, LeO (sjson_parsePath.l0 k y0 y1 y2 y3 y4 y5 y6) (sjson_parsePath.l0 (k + 1) y0 y1 y2 y3 y4 y5 y6))
  | 0 => ⟨fun _ _ _ _ _ _ _ r h => by simp [sjson_parsePath.j0] at h, fun _ _ _ _ _ _ r h => by simp [sjson_parsePath.j1] at h, fun _ _ _ _ _ _ _ r h => by simp [sjson_parsePath.l0] at h⟩
  | k + 1 => by
    obtain ⟨ih0, ih1, ih2⟩ := sjson_parsePath.mono_l k
    refine ⟨?_, ?_, ?_⟩
    · intro y0 y1 y2 y3 y4 y5 y6
      unfold sjson_parsePath.j0
      repeat' first
      | (with_reducible exact ih0 _ _ _ _ _ _ _)
      | (with_reducible exact ih1 _ _ _ _ _ _)
      | (with_reducible exact ih2 _ _ _ _ _ _ _)
      | (with_reducible exact LeO.refl _)
      | (with_reducible exact LeO.none _)
      | (with_reducible refine LeO.ite ?_ ?_)
      | (with_reducible refine LeO.bind ?_ (fun _ => ?_))
      | exact ih0 _ _ _ _ _ _ _
      | exact ih1 _ _ _ _ _ _
      | exact ih2 _ _ _ _ _ _ _
      | exact LeO.none _
      | refine LeO.ite ?_ ?_
      | refine LeO.bind ?_ (fun _ => ?_)
    · intro y0 y1 y2 y3 y4 y5
      unfold sjson_parsePath.j1
      repeat' first
      | (with_reducible exact ih0 _ _ _ _ _ _ _)
      | (with_reducible exact ih1 _ _ _ _ _ _)
      | (with_reducible exact ih2 _ _ _ _ _ _ _)
      | (with_reducible exact LeO.refl _)
      | (with_reducible exact LeO.none _)
      | (with_reducible refine LeO.ite ?_ ?_)
      | (with_reducible refine LeO.bind ?_ (fun _ => ?_))
      | exact ih0 _ _ _ _ _ _ _
      | exact ih1 _ _ _ _ _ _
      | exact ih2 _ _ _ _ _ _ _
      | exact LeO.none _
      | refine LeO.ite ?_ ?_
      | refine LeO.bind ?_ (fun _ => ?_)
    · intro y0 y1 y2 y3 y4 y5 y6
      unfold sjson_parsePath.l0
      repeat' first
      | (with_reducible exact ih0 _ _ _ _ _ _ _)
      | (with_reducible exact ih1 _ _ _ _ _ _)
      | (with_reducible exact ih2 _ _ _ _ _ _ _)
      | (with_reducible exact LeO.refl _)
      | (with_reducible exact LeO.none _)
      | (with_reducible refine LeO.ite ?_ ?_)
      | (with_reducible refine LeO.bind ?_ (fun _ => ?_))
      | exact ih0 _ _ _ _ _ _ _
      | exact ih1 _ _ _ _ _ _
      | exact ih2 _ _ _ _ _ _ _
      | exact LeO.none _
      | refine LeO.ite ?_ ?_
      | refine LeO.bind ?_ (fun _ => ?_)
theorem sjson_parsePath.mono : ∀ a0 k, LeO (sjson_parsePath.f k a0) (sjson_parsePath.f (k + 1) a0) := by
  intro a0 k
  obtain ⟨ih0, ih1, ih2⟩ := sjson_parsePath.mono_l k
  unfold sjson_parsePath.f
  repeat' first
      | (with_reducible exact ih0 _ _ _ _ _ _ _)
      | (with_reducible exact ih1 _ _ _ _ _ _)
      | (with_reducible exact ih2 _ _ _ _ _ _ _)
      | (with_reducible exact LeO.refl _)
      | (with_reducible exact LeO.none _)
      | (with_reducible refine LeO.ite ?_ ?_)
      | (with_reducible refine LeO.bind ?_ (fun _ => ?_))
      | exact ih0 _ _ _ _ _ _ _
      | exact ih1 _ _ _ _ _ _
      | exact ih2 _ _ _ _ _ _ _
      | exact LeO.none _
      | refine LeO.ite ?_ ?_
      | refine LeO.bind ?_ (fun _ => ?_)
set_option maxHeartbeats 8000000 in
set_option maxRecDepth 100000 in
theorem sjson_parsePath.calls (k : Nat) (a0 : ByteArray) (r1 : ByteArray) (r2 : ByteArray) (r3 : ByteArray) (r4 : Bool) (r5 : Bool) (r6 : Bool) (w : World) (h : sjson_parsePath.f k a0 = some (r1, r2, r3, r4, r5, r6)) :
    Calls Try.prog 35 #[.string a0] w fun e w' => e = .returned (.tuple #[.agg #[.string r1, .string r2, .string r3, .bool r4, .bool r5], .bool r6]) ∧ Below w.heap.size w w' := by
  have hu59 := Try.underlying59
  have HB := Aside0.mk (Below.refl w.heap.size w)
  have H : (if (a0.size : Int) > 0 then (if 0 < (a0.size : Int) then (sjson_parsePath.j0 k a0 ((bt a0 0) == 58) (⟨#[]⟩ : ByteArray) (⟨#[]⟩ : ByteArray) (⟨#[]⟩ : ByteArray) false false) else (none)) else (sjson_parsePath.j0 k a0 false (⟨#[]⟩ : ByteArray) (⟨#[]⟩ : ByteArray) (⟨#[]⟩ : ByteArray) false false)) = some (r1, r2, r3, r4, r5, r6) := h
  clear h
  have HC2 := Aside0.mk H
  clear H
  go_enter Try.func35, Try.ntmps35
  go_upto_region 2 with (first | ((with_reducible refine gate_dst (N := 2) rfl ?_); refine box_event ?hg (N := 2) ?hd (cs := #[.string (⟨#[]⟩ : ByteArray), .string (⟨#[]⟩ : ByteArray), .string (⟨#[]⟩ : ByteArray), .bool false, .bool false]) (t := 59) ?hr ?_; (case hd => rfl); (case hg => rfl); (case hr => first | (go_simp; done) | (go_simp; rfl)); intro gb101 hg w3 hbox hb; have n0_ := Aside0.mk (below_step (by repeat (first | (with_reducible first | exact HB.out | apply below_alloc | apply pw_below_drewN | apply below_drew1) | exact HB.out)) hb); have n1_ := Aside0.mk (hbox); have n2_ := Aside0.mk ((by rw [hg]; exact (below_size (by repeat (first | (with_reducible first | exact HB.out | apply below_alloc | apply pw_below_drewN | apply below_drew1) | exact HB.out))) : w.heap.size ≤ gb101)); have n3_ := Aside0.mk ((by rw [hg]; exact (below_size (by repeat (first | (with_reducible first | exact HB.out | apply below_alloc | apply pw_below_drewN | apply below_drew1) | exact HB.out))) : w.heap.size ≤ gb101)); clear HB; have HB := n0_; have BK101 := n1_; have GW101 := n2_; have GE101 := n3_; clear n0_ n1_ n2_ n3_; clear hb hbox hg) | ((with_reducible refine gate_dst (N := 4) rfl ?_); refine box_event ?hg (N := 4) ?hd (cs := #[.string (⟨#[]⟩ : ByteArray), .string (⟨#[]⟩ : ByteArray), .string (⟨#[]⟩ : ByteArray), .bool false, .bool false]) (t := 59) ?hr ?_; (case hd => rfl); (case hg => rfl); (case hr => first | (go_simp; done) | (go_simp; rfl)); intro gb102 hg w4 hbox hb; have n0_ := Aside0.mk (blk_below (g := gb101) (o := .cells #[.string (⟨#[]⟩ : ByteArray), .string (⟨#[]⟩ : ByteArray), .string (⟨#[]⟩ : ByteArray), .bool false, .bool false] 59 (0, 0)) (by (with_reducible repeat (first | refine blk_drewN ?_ _ | refine blk_drew ?_ | refine blk_alloc ?_ _)); exact BK101.out) hb); have n1_ := Aside0.mk (below_step (by repeat (first | (with_reducible first | exact HB.out | apply below_alloc | apply pw_below_drewN | apply below_drew1 | refine below_set ?_ GE101.out) | exact HB.out)) hb); have n2_ := Aside0.mk (hbox); have n3_ := Aside0.mk ((by rw [hg]; exact (below_size (by repeat (first | (with_reducible first | exact HB.out | apply below_alloc | apply pw_below_drewN | apply below_drew1 | refine below_set ?_ GE101.out) | exact HB.out))) : w.heap.size ≤ gb102)); have n4_ := Aside0.mk ((by rw [hg]; exact (below_size (by repeat (first | (with_reducible first | exact HB.out | apply below_alloc | apply pw_below_drewN | apply below_drew1 | refine below_set ?_ GE101.out) | exact HB.out))) : w.heap.size ≤ gb102)); have n5_ := Aside0.mk ((by rw [hg]; exact Nat.ne_of_lt (blk_lt (g := gb101) (o := .cells #[.string (⟨#[]⟩ : ByteArray), .string (⟨#[]⟩ : ByteArray), .string (⟨#[]⟩ : ByteArray), .bool false, .bool false] 59 (0, 0)) (by (with_reducible repeat (first | refine blk_drewN ?_ _ | refine blk_drew ?_ | refine blk_alloc ?_ _)); exact BK101.out)) : gb101 ≠ gb102)); have n6_ := Aside0.mk ((by rw [hg]; exact Nat.ne_of_gt (blk_lt (g := gb101) (o := .cells #[.string (⟨#[]⟩ : ByteArray), .string (⟨#[]⟩ : ByteArray), .string (⟨#[]⟩ : ByteArray), .bool false, .bool false] 59 (0, 0)) (by (with_reducible repeat (first | refine blk_drewN ?_ _ | refine blk_drew ?_ | refine blk_alloc ?_ _)); exact BK101.out)) : gb102 ≠ gb101)); clear BK101; clear HB; have BK101 := n0_; have HB := n1_; have BK102 := n2_; have GW102 := n3_; have GE102 := n4_; have NB101_102 := n5_; have NB102_101 := n6_; clear n0_ n1_ n2_ n3_ n4_ n5_ n6_; clear hb hbox hg))
  (try simp only [Act.put, List.setIfInBounds_toArray, List.set_cons_zero, List.set_cons_succ])
  go_cut [15] (fun v15 wc => ∃ (kq : Nat) (x15_1 : Bool), v15 = .bool x15_1 ∧ Aside0 (sjson_parsePath.j0 kq a0 x15_1 (⟨#[]⟩ : ByteArray) (⟨#[]⟩ : ByteArray) (⟨#[]⟩ : ByteArray) false false = some (r1, r2, r3, r4, r5, r6)) ∧ Aside0 (kq ≤ k) ∧ Aside0 (wc.heap[gb101]? = some (.cells #[.string (⟨#[]⟩ : ByteArray), .string (⟨#[]⟩ : ByteArray), .string (⟨#[]⟩ : ByteArray), .bool false, .bool false] 59 (0, 0))) ∧ Aside0 (wc.heap[gb102]? = some (.cells #[.string (⟨#[]⟩ : ByteArray), .string (⟨#[]⟩ : ByteArray), .string (⟨#[]⟩ : ByteArray), .bool false, .bool false] 59 (0, 0))) ∧ Aside0 (Below w.heap.size w wc))
  case first =>
    have H := HC2.out
    clear HC2
    by_cases c5 : (a0.size : Int) > 0
    · rw [if_pos c5] at H
      have c5b0 : decide (0 < (a0.size : Int)) = true := decide_eq_true c5
      have c5b1 : decide (0 < a0.size) = true := decide_eq_true (by omega)
      clear c5
      (first | rw [c5b0] | (simp only [i64_w, i32_w]; rw [c5b0]) | skip)
      by_cases c6 : 0 < (a0.size : Int)
      · rw [if_pos c6] at H
        have c6b0 : decide (0 < (a0.size : Int)) = true := decide_eq_true c6
        have c6b1 : decide (0 < a0.size) = true := decide_eq_true (by omega)
        clear c6
        have H' := Aside0.mk H
        clear H
        have p7 : 0 ≤ (0 : Int) := (by omega)
        have q7 : 0 < a0.size := (by have : (0 : Int) < (a0.size : Int) := of_decide_eq_true (by first | (with_reducible assumption) | assumption); omega)
        have hx7 : ∀ h : 0 < a0.size, ((a0[0]'h).toNat : Int) = bt a0 0 := bt_at a0 0
        clear p7
        have qi7 : (0 < (a0.size : Int)) = True := eq_true (of_decide_eq_true (by first | (with_reducible assumption) | assumption))
        replace q7 := eq_true q7
        go_wp2
        go_meet
        case rel => exact ⟨_, (((bt a0 0) == 58)), (by first | rfl | (simp; done) | (simp [*]; done) | (simp [ne_nil_bool]; done)), H', ⟨by first | omega | exact Nat.le_refl _⟩, ⟨by (with_reducible repeat (first | refine blk_drewN ?_ _ | refine blk_drew ?_ | refine blk_alloc ?_ _)); exact BK101.out⟩, ⟨by (with_reducible repeat (first | refine blk_drewN ?_ _ | refine blk_drew ?_ | refine blk_alloc ?_ _)); exact BK102.out⟩, ⟨by repeat (first | (with_reducible first | exact HB.out | apply below_alloc | apply pw_below_drewN | apply below_drew1 | refine below_set ?_ GE101.out | refine below_set ?_ GE102.out) | exact HB.out)⟩⟩
      · rw [if_neg c6] at H
        exact absurd H (by simp)
    · rw [if_neg c5] at H
      have c5b0 : decide (0 < (a0.size : Int)) = false := decide_eq_false c5
      have c5b1 : decide (0 < a0.size) = false := decide_eq_false (by omega)
      clear c5
      (first | rw [c5b0] | (simp only [i64_w, i32_w]; rw [c5b0]) | skip)
      have H' := Aside0.mk H
      clear H
      go_wp2
      go_meet
      case rel => exact ⟨_, (false), (by first | rfl | (simp; done) | (simp [*]; done) | (simp [ne_nil_bool]; done)), H', ⟨by first | omega | exact Nat.le_refl _⟩, ⟨by (with_reducible repeat (first | refine blk_drewN ?_ _ | refine blk_drew ?_ | refine blk_alloc ?_ _)); exact BK101.out⟩, ⟨by (with_reducible repeat (first | refine blk_drewN ?_ _ | refine blk_drew ?_ | refine blk_alloc ?_ _)); exact BK102.out⟩, ⟨by repeat (first | (with_reducible first | exact HB.out | apply below_alloc | apply pw_below_drewN | apply below_drew1 | refine below_set ?_ GE101.out | refine below_set ?_ GE102.out) | exact HB.out)⟩⟩
  case rest =>
    clear HC2
    try clear p2
    try clear c3
    try clear c5
    try clear c5b0
    try clear c5b1
    try clear c6
    try clear c6b0
    try clear c6b1
    try clear p7
    try clear q7
    try clear hx7
    try clear qi7
    try clear p7
    try clear q7
    obtain ⟨kq, x15_1, rfl, HA, HJ1, BK101, BK102, HB⟩ := hcut
    cases kq with
    | zero => exact absurd HA.out (by simp [sjson_parsePath.j0])
    | succ kj1 =>
      have H := HA.out
      clear HA
      simp only [sjson_parsePath.j0] at H
      have HC8 := Aside0.mk H
      clear H
      go_upto_if 15 with (fail)
      go_cut [0] (fun v0 wc => ∃ (kq : Nat) (x0_7 : ByteArray) (x103003_7 : Bool), v0 = .string x0_7 ∧ Aside0 (sjson_parsePath.j1 kq x0_7 (⟨#[]⟩ : ByteArray) (⟨#[]⟩ : ByteArray) (⟨#[]⟩ : ByteArray) x103003_7 false = some (r1, r2, r3, r4, r5, r6)) ∧ Aside0 (kq ≤ kj1) ∧ Aside0 (wc.heap[gb101]? = some (.cells #[.string (⟨#[]⟩ : ByteArray), .string (⟨#[]⟩ : ByteArray), .string (⟨#[]⟩ : ByteArray), .bool false, .bool false] 59 (0, 0))) ∧ Aside0 (wc.heap[gb102]? = some (.cells #[.string (⟨#[]⟩ : ByteArray), .string (⟨#[]⟩ : ByteArray), .string (⟨#[]⟩ : ByteArray), .bool x103003_7, .bool false] 59 (0, 0))) ∧ Aside0 (Below w.heap.size w wc))
      case first =>
        have H := HC8.out
        clear HC8
        by_cases c9 : x15_1 = true
        · subst c9
          have H1 : (if 1 ≤ (a0.size : Int) then (sjson_parsePath.j1 kj1 (a0.extract 1 a0.size) (⟨#[]⟩ : ByteArray) (⟨#[]⟩ : ByteArray) (⟨#[]⟩ : ByteArray) true false) else (none)) = some (r1, r2, r3, r4, r5, r6) := by rw [if_pos rfl] at H; exact H
          clear H
          have H := H1
          clear H1
          by_cases c10 : 1 ≤ (a0.size : Int)
          · rw [if_pos c10] at H
            have c10b0 := eq_true c10
            have c10b1 : decide (1 ≤ (a0.size : Int)) = true := decide_eq_true c10
            clear c10
            have H' := Aside0.mk H
            clear H
            have hnb11 := NB102_101.out
            have hnc11 := NB101_102.out
            have hcz12_0 : wc.cell? ⟨gb102, 0, none⟩ = some (.string (⟨#[]⟩ : ByteArray)) := (blk_cell BK102.out 0).trans rfl
            have hcz12_1 : wc.cell? ⟨gb102, 1, none⟩ = some (.string (⟨#[]⟩ : ByteArray)) := (blk_cell BK102.out 1).trans rfl
            have hcz12_2 : wc.cell? ⟨gb102, 2, none⟩ = some (.string (⟨#[]⟩ : ByteArray)) := (blk_cell BK102.out 2).trans rfl
            have hcz12_3 : wc.cell? ⟨gb102, 3, none⟩ = some (.bool false) := (blk_cell BK102.out 3).trans rfl
            have hcz12_4 : wc.cell? ⟨gb102, 4, none⟩ = some (.bool false) := (blk_cell BK102.out 4).trans rfl
            have hfz12_0 := blk_frozen BK102.out 0
            have hfz12_1 := blk_frozen BK102.out 1
            have hfz12_2 := blk_frozen BK102.out 2
            have hfz12_3 := blk_frozen BK102.out 3
            have hfz12_4 := blk_frozen BK102.out 4
            go_wp2
            go_meet
            case rel => exact ⟨_, (a0.extract 1 a0.size), (true), (by first | rfl | (simp; done) | (simp [*]; done) | (simp [ne_nil_bool]; done)), H', ⟨by have := HJ1.out; first | omega | exact Nat.le_refl _⟩, ⟨by (with_reducible repeat (first | refine blk_drewN ?_ _ | refine blk_drew ?_ | refine blk_alloc ?_ _)); refine blk_far ?_ NB101_102.out _; (with_reducible repeat (first | refine blk_drewN ?_ _ | refine blk_drew ?_ | refine blk_alloc ?_ _)); exact BK101.out⟩, ⟨by (with_reducible repeat (first | refine blk_drewN ?_ _ | refine blk_drew ?_ | refine blk_alloc ?_ _)); refine blk_put (cs := #[.string (⟨#[]⟩ : ByteArray), .string (⟨#[]⟩ : ByteArray), .string (⟨#[]⟩ : ByteArray), .bool false, .bool false]) ?_ 3 _ rfl; (with_reducible repeat (first | refine blk_drewN ?_ _ | refine blk_drew ?_ | refine blk_alloc ?_ _)); exact BK102.out⟩, ⟨by repeat (first | (with_reducible first | exact HB.out | apply below_alloc | apply pw_below_drewN | apply below_drew1 | refine below_set ?_ GE101.out | refine below_set ?_ GE102.out) | exact HB.out)⟩⟩
          · rw [if_neg c10] at H
            exact absurd H (by simp)
        · replace c9 := Bool.eq_false_iff.mpr c9
          subst c9
          have H1 : (sjson_parsePath.j1 kj1 a0 (⟨#[]⟩ : ByteArray) (⟨#[]⟩ : ByteArray) (⟨#[]⟩ : ByteArray) false false) = some (r1, r2, r3, r4, r5, r6) := by rw [if_neg (show ¬ (false = true) by decide)] at H; exact H
          clear H
          have H := H1
          clear H1
          have H' := Aside0.mk H
          clear H
          go_wp2
          go_meet
          case rel => exact ⟨_, (a0), (false), (by first | rfl | (simp; done) | (simp [*]; done) | (simp [ne_nil_bool]; done)), H', ⟨by have := HJ1.out; first | omega | exact Nat.le_refl _⟩, ⟨by (with_reducible repeat (first | refine blk_drewN ?_ _ | refine blk_drew ?_ | refine blk_alloc ?_ _)); exact BK101.out⟩, ⟨by (with_reducible repeat (first | refine blk_drewN ?_ _ | refine blk_drew ?_ | refine blk_alloc ?_ _)); exact BK102.out⟩, ⟨by repeat (first | (with_reducible first | exact HB.out | apply below_alloc | apply pw_below_drewN | apply below_drew1 | refine below_set ?_ GE101.out | refine below_set ?_ GE102.out) | exact HB.out)⟩⟩
      case rest =>
        clear HC8
        try clear c1
        try clear p2
        try clear c3
        try clear c5
        try clear c5b0
        try clear c5b1
        try clear c6
        try clear c6b0
        try clear c6b1
        try clear p7
        try clear q7
        try clear hx7
        try clear qi7
        try clear c9
        try clear c10
        try clear c10b0
        try clear c10b1
        try clear c11
        try clear hcz12_0
        try clear hcz12_1
        try clear hcz12_2
        try clear hcz12_3
        try clear hcz12_4
        try clear hfz12_0
        try clear hfz12_1
        try clear hfz12_2
        try clear hfz12_3
        try clear hfz12_4
        try clear p2
        try clear p7
        try clear q7
        obtain ⟨kq, x0_7, x103003_7, rfl, HA, HJ7, BK101, BK102, HB⟩ := hcut
        cases kq with
        | zero => exact absurd HA.out (by simp [sjson_parsePath.j1])
        | succ kj7 =>
          have H := HA.out
          clear HA
          simp only [sjson_parsePath.j1] at H
          have H' := Aside0.mk H
          clear H
          go_wp2
          try go_frame
          go_loopg [5] kj7 (fun kq v5 w' => ∃ (x5_3 : Int) (x102000_3 : ByteArray) (x102001_3 : ByteArray) (x102002_3 : ByteArray) (x102003_3 : Bool) (x102004_3 : Bool) (x103000_3 : ByteArray) (x103001_3 : ByteArray) (x103002_3 : ByteArray) (x103004_3 : Bool), v5 = .int .i64 x5_3 ∧ Aside0 (sjson_parsePath.l0 kq x0_7 x5_3 x103000_3 x103001_3 x103002_3 x103003_7 x103004_3 = some (r1, r2, r3, r4, r5, r6)) ∧ Aside0 (kq ≤ kj7) ∧ Aside0 (w'.heap[gb101]? = some (.cells #[.string x102000_3, .string x102001_3, .string x102002_3, .bool x102003_3, .bool x102004_3] 59 (0, 0))) ∧ Aside0 (w'.heap[gb102]? = some (.cells #[.string x103000_3, .string x103001_3, .string x103002_3, .bool x103003_7, .bool x103004_3] 59 (0, 0))) ∧ Aside0 (Below w.heap.size w w'))
          case atStart => exact ⟨(0), ((⟨#[]⟩ : ByteArray)), ((⟨#[]⟩ : ByteArray)), ((⟨#[]⟩ : ByteArray)), (false), (false), ((⟨#[]⟩ : ByteArray)), ((⟨#[]⟩ : ByteArray)), ((⟨#[]⟩ : ByteArray)), (false), (by first | rfl | (simp; done) | (simp [*]; done) | (simp [ne_nil_bool]; done)), H', ⟨Nat.le_refl _⟩, ⟨by (with_reducible repeat (first | refine blk_drewN ?_ _ | refine blk_drew ?_ | refine blk_alloc ?_ _)); exact BK101.out⟩, ⟨by (with_reducible repeat (first | refine blk_drewN ?_ _ | refine blk_drew ?_ | refine blk_alloc ?_ _)); exact BK102.out⟩, ⟨by repeat (first | (with_reducible first | exact HB.out | apply below_alloc | apply pw_below_drewN | apply below_drew1 | refine below_set ?_ GE101.out | refine below_set ?_ GE102.out) | exact HB.out)⟩⟩
          case round =>
            clear H'
            try clear c1
            try clear p2
            try clear c3
            try clear c5
            try clear c5b0
            try clear c5b1
            try clear c6
            try clear c6b0
            try clear c6b1
            try clear p7
            try clear q7
            try clear hx7
            try clear qi7
            try clear c9
            try clear c10
            try clear c10b0
            try clear c10b1
            try clear c11
            try clear hcz12_0
            try clear hcz12_1
            try clear hcz12_2
            try clear hcz12_3
            try clear hcz12_4
            try clear hfz12_0
            try clear hfz12_1
            try clear hfz12_2
            try clear hfz12_3
            try clear hfz12_4
            try clear p2
            try clear p7
            try clear q7
            obtain ⟨x5_3, x102000_3, x102001_3, x102002_3, x102003_3, x102004_3, x103000_3, x103001_3, x103002_3, x103004_3, rfl, HA, HK3, BK101, BK102, HB⟩ := hrel
            cases gk with
            | zero => exact absurd HA.out (by simp [sjson_parsePath.l0])
            | succ k3 =>
              have H := HA.out
              clear HA
              simp only [sjson_parsePath.l0] at H
              by_cases c13 : x5_3 < (x0_7.size : Int)
              · rw [if_pos c13] at H
                have c13b0 : decide (x5_3 < (x0_7.size : Int)) = true := decide_eq_true c13
                clear c13
                by_cases c14 : 0 ≤ x5_3
                · rw [if_pos c14] at H
                  have c14b0 : decide (0 ≤ x5_3) = true := decide_eq_true c14
                  clear c14
                  by_cases c16 : (bt x0_7 x5_3) = 46
                  · rw [if_pos c16] at H
                    have c16b0 : ((bt x0_7 x5_3) == 46) = true := beq_iff_eq.mpr c16
                    have c16b1 : ((bt x0_7 x5_3) != 46) = false := bne_eq_false_iff_eq.mpr c16
                    clear c16
                    have c17b0 := eq_true (of_decide_eq_true (by first | (with_reducible assumption) | assumption) : 0 ≤ x5_3)
                    by_cases c18 : x5_3 ≤ (x0_7.size : Int)
                    · rw [if_pos c18] at H
                      have c18b0 := eq_true c18
                      have c18b1 : decide (x5_3 ≤ (x0_7.size : Int)) = true := decide_eq_true c18
                      clear c18
                      have c19b0 := eq_true (of_decide_eq_true (by first | (with_reducible assumption) | assumption) : 0 ≤ x5_3)
                      have c20b0 := eq_true (of_decide_eq_true (by first | (with_reducible assumption) | assumption) : x5_3 ≤ (x0_7.size : Int))
                      obtain ⟨ji21, hji21⟩ : ∃ j_ : Int, (wrap64 (x5_3 + 1)) = j_ := ⟨_, rfl⟩
                      replace H : (if 0 ≤ (ji21) then (if (ji21) ≤ (x0_7.size : Int) then (some (x0_7.extract 0 (x5_3 : Int).toNat, x0_7.extract 0 (x5_3 : Int).toNat, x0_7.extract ((ji21) : Int).toNat x0_7.size, x103003_7, true, true)) else (none)) else (none)) = some (r1, r2, r3, r4, r5, r6) := by first | (rw [hji21] at H; exact H) | (simp only [hji21] at H ⊢; exact H)
                      have hji21w : (IntKind.i64.wrap (x5_3 + 1)) = ji21 := (i64_w _).trans hji21
                      by_cases c22 : 0 ≤ (ji21)
                      · rw [if_pos c22] at H
                        have c22b0 := eq_true c22
                        have c22b1 : decide (0 ≤ (ji21)) = true := decide_eq_true c22
                        clear c22
                        by_cases c23 : (ji21) ≤ (x0_7.size : Int)
                        · rw [if_pos c23] at H
                          have c23b0 := eq_true c23
                          have c23b1 : decide ((ji21) ≤ (x0_7.size : Int)) = true := decide_eq_true c23
                          clear c23
                          simp only [Option.some.injEq, Prod.mk.injEq] at H
                          obtain ⟨rfl, rfl, rfl, rfl, rfl, rfl⟩ := H
                          have p15 : 0 ≤ (x5_3 : Int) := of_decide_eq_true (by first | (with_reducible assumption) | assumption)
                          have q15 : x5_3 < (x0_7.size : Int) := of_decide_eq_true (by first | (with_reducible assumption) | assumption)
                          have hx15 := bt_at x0_7 x5_3
                          replace p15 := eq_true p15
                          replace q15 := eq_true q15
                          have hnb24 := NB102_101.out
                          have hnc24 := NB101_102.out
                          have hcz25_0 : wr.cell? ⟨gb102, 0, none⟩ = some (.string x103000_3) := (blk_cell BK102.out 0).trans rfl
                          have hcz25_1 : wr.cell? ⟨gb102, 1, none⟩ = some (.string x103001_3) := (blk_cell BK102.out 1).trans rfl
                          have hcz25_2 : wr.cell? ⟨gb102, 2, none⟩ = some (.string x103002_3) := (blk_cell BK102.out 2).trans rfl
                          have hcz25_3 : wr.cell? ⟨gb102, 3, none⟩ = some (.bool x103003_7) := (blk_cell BK102.out 3).trans rfl
                          have hcz25_4 : wr.cell? ⟨gb102, 4, none⟩ = some (.bool x103004_3) := (blk_cell BK102.out 4).trans rfl
                          have hfz25_0 := blk_frozen BK102.out 0
                          have hfz25_1 := blk_frozen BK102.out 1
                          have hfz25_2 := blk_frozen BK102.out 2
                          have hfz25_3 := blk_frozen BK102.out 3
                          have hfz25_4 := blk_frozen BK102.out 4
                          have hcz26_0 : wr.cell? ⟨gb101, 0, none⟩ = some (.string x102000_3) := (blk_cell BK101.out 0).trans rfl
                          have hcz26_1 : wr.cell? ⟨gb101, 1, none⟩ = some (.string x102001_3) := (blk_cell BK101.out 1).trans rfl
                          have hcz26_2 : wr.cell? ⟨gb101, 2, none⟩ = some (.string x102002_3) := (blk_cell BK101.out 2).trans rfl
                          have hcz26_3 : wr.cell? ⟨gb101, 3, none⟩ = some (.bool x102003_3) := (blk_cell BK101.out 3).trans rfl
                          have hcz26_4 : wr.cell? ⟨gb101, 4, none⟩ = some (.bool x102004_3) := (blk_cell BK101.out 4).trans rfl
                          have hfz26_0 := blk_frozen BK101.out 0
                          have hfz26_1 := blk_frozen BK101.out 1
                          have hfz26_2 := blk_frozen BK101.out 2
                          have hfz26_3 := blk_frozen BK101.out 3
                          have hfz26_4 := blk_frozen BK101.out 4
                          go_wp2
                          refine bodyPost_ret (results_ct rfl _ _ gb101 59 #[.string (x0_7.extract 0 (x5_3 : Int).toNat), .string (x0_7.extract 0 (x5_3 : Int).toNat), .string (x0_7.extract ((ji21) : Int).toNat x0_7.size), .bool x103003_7, .bool true] (0, 0) _ rfl (by (with_reducible repeat (first | refine blk_drewN ?_ _ | refine blk_drew ?_ | refine blk_alloc ?_ _)); refine blk_put (cs := #[.string (x0_7.extract 0 (x5_3 : Int).toNat), .string (x0_7.extract 0 (x5_3 : Int).toNat), .string (x0_7.extract ((ji21) : Int).toNat x0_7.size), .bool x103003_7, .bool x102004_3]) ?_ 4 _ rfl; (with_reducible repeat (first | refine blk_drewN ?_ _ | refine blk_drew ?_ | refine blk_alloc ?_ _)); refine blk_put (cs := #[.string (x0_7.extract 0 (x5_3 : Int).toNat), .string (x0_7.extract 0 (x5_3 : Int).toNat), .string (x0_7.extract ((ji21) : Int).toNat x0_7.size), .bool x102003_3, .bool x102004_3]) ?_ 3 _ rfl; (with_reducible repeat (first | refine blk_drewN ?_ _ | refine blk_drew ?_ | refine blk_alloc ?_ _)); refine blk_put (cs := #[.string (x0_7.extract 0 (x5_3 : Int).toNat), .string (x0_7.extract 0 (x5_3 : Int).toNat), .string x102002_3, .bool x102003_3, .bool x102004_3]) ?_ 2 _ rfl; (with_reducible repeat (first | refine blk_drewN ?_ _ | refine blk_drew ?_ | refine blk_alloc ?_ _)); refine blk_put (cs := #[.string (x0_7.extract 0 (x5_3 : Int).toNat), .string x102001_3, .string x102002_3, .bool x102003_3, .bool x102004_3]) ?_ 1 _ rfl; (with_reducible repeat (first | refine blk_drewN ?_ _ | refine blk_drew ?_ | refine blk_alloc ?_ _)); refine blk_put (cs := #[.string x102000_3, .string x102001_3, .string x102002_3, .bool x102003_3, .bool x102004_3]) ?_ 0 _ rfl; (with_reducible repeat (first | refine blk_drewN ?_ _ | refine blk_drew ?_ | refine blk_alloc ?_ _)); refine blk_far ?_ NB101_102.out _; (with_reducible repeat (first | refine blk_drewN ?_ _ | refine blk_drew ?_ | refine blk_alloc ?_ _)); refine blk_far ?_ NB101_102.out _; (with_reducible repeat (first | refine blk_drewN ?_ _ | refine blk_drew ?_ | refine blk_alloc ?_ _)); refine blk_far ?_ NB101_102.out _; (with_reducible repeat (first | refine blk_drewN ?_ _ | refine blk_drew ?_ | refine blk_alloc ?_ _)); refine blk_far ?_ NB101_102.out _; (with_reducible repeat (first | refine blk_drewN ?_ _ | refine blk_drew ?_ | refine blk_alloc ?_ _)); exact BK101.out) Try.underlying59 rfl (by kernel_rfl)) rfl ?_
                          exact ⟨by first | rfl | (simp [errW_none, errW_some] <;> rfl) | (simp only [← hji21]; first | rfl | (simp [errW_none, errW_some] <;> rfl)) | (simp [*, errW_none, errW_some] <;> rfl), by repeat (first | (with_reducible first | exact HB.out | apply below_alloc | apply pw_below_drewN | apply below_drew1 | refine below_set ?_ GE101.out | refine below_set ?_ GE102.out) | exact HB.out)⟩
                        · rw [if_neg c23] at H
                          exact absurd H (by simp)
                      · rw [if_neg c22] at H
                        exact absurd H (by simp)
                    · rw [if_neg c18] at H
                      exact absurd H (by simp)
                  · rw [if_neg c16] at H
                    have c16b0 : ((bt x0_7 x5_3) == 46) = false := beq_eq_false_iff_ne.mpr c16
                    have c16b1 : ((bt x0_7 x5_3) != 46) = true := bne_iff_ne.mpr c16
                    replace H := Option.bind_eq_some_iff.mp H
                    obtain ⟨t103, A280, H⟩ := H
                    replace H : (if t103 = true then (if (bt x0_7 x5_3) = 92 then (if x5_3 ≤ (x0_7.size : Int) then (none) else (none)) else (sjson_parsePath.l0 k3 x0_7 (wrap64 (x5_3 + 1)) x103000_3 x103001_3 x103002_3 x103003_7 x103004_3)) else (some (x103000_3, x103001_3, x103002_3, x103003_7, x103004_3, false))) = some (r1, r2, r3, r4, r5, r6) := H
                    have A28 := Aside0.mk A280
                    clear A280
                    by_cases c29 : t103 = true
                    · subst c29
                      have H1 : (if (bt x0_7 x5_3) = 92 then (if x5_3 ≤ (x0_7.size : Int) then (none) else (none)) else (sjson_parsePath.l0 k3 x0_7 (wrap64 (x5_3 + 1)) x103000_3 x103001_3 x103002_3 x103003_7 x103004_3)) = some (r1, r2, r3, r4, r5, r6) := by rw [if_pos rfl] at H; exact H
                      clear H
                      have H := H1
                      clear H1
                      by_cases c31 : (bt x0_7 x5_3) = 92
                      · rw [if_pos c31] at H
                        have c31b0 : ((bt x0_7 x5_3) == 92) = true := beq_iff_eq.mpr c31
                        have c31b1 : ((bt x0_7 x5_3) != 92) = false := bne_eq_false_iff_eq.mpr c31
                        clear c31
                        have c32b0 := eq_true (of_decide_eq_true (by first | (with_reducible assumption) | assumption) : 0 ≤ x5_3)
                        by_cases c33 : x5_3 ≤ (x0_7.size : Int)
                        · rw [if_pos c33] at H
                          exact absurd H (by simp)
                        · rw [if_neg c33] at H
                          exact absurd H (by simp)
                      · rw [if_neg c31] at H
                        have c31b0 : ((bt x0_7 x5_3) == 92) = false := beq_eq_false_iff_ne.mpr c31
                        have c31b1 : ((bt x0_7 x5_3) != 92) = true := bne_iff_ne.mpr c31
                        have H' := Aside0.mk H
                        clear H
                        have p15 : 0 ≤ (x5_3 : Int) := of_decide_eq_true (by first | (with_reducible assumption) | assumption)
                        have q15 : x5_3 < (x0_7.size : Int) := of_decide_eq_true (by first | (with_reducible assumption) | assumption)
                        have hx15 := bt_at x0_7 x5_3
                        replace p15 := eq_true p15
                        replace q15 := eq_true q15
                        have p27 : 0 ≤ (x5_3 : Int) := of_decide_eq_true (by first | (with_reducible assumption) | assumption)
                        have q27 : x5_3 < (x0_7.size : Int) := of_decide_eq_true (by first | (with_reducible assumption) | assumption)
                        have hx27 := bt_at x0_7 x5_3
                        replace p27 := eq_true p27
                        replace q27 := eq_true q27
                        go_wp2_with (first | ((with_reducible refine gate_callee (f := 41) rfl ?_); refine goesL_ (some 47) rfl rfl Try.func41 (by kernel_rfl) rfl #[.int .u8 (bt x0_7 x5_3)] rfl (by (try simp only [List.map_toArray, List.map_cons, List.map_nil]); first | done | rfl | (simp only [List.length_drop, List.length_take]; rfl)) ?_; (with_reducible refine (sjson_isSimpleChar.calls (bt x0_7 x5_3) true _ A28.out).mono ?_); rintro e w' ⟨rfl, ⟨nd, rfl⟩⟩; refine ⟨_, rfl, ?_⟩; have p30 : 0 ≤ (x5_3 : Int) := of_decide_eq_true (by first | (with_reducible assumption) | assumption); have q30 : x5_3 < (x0_7.size : Int) := of_decide_eq_true (by first | (with_reducible assumption) | assumption); have hx30 := bt_at x0_7 x5_3; replace p30 := eq_true p30; replace q30 := eq_true q30))
                        try go_frame
                        go_roundg k3
                        case measure => have := HJ1.out; have := HJ7.out; have := HK3.out; omega
                        case rel => exact ⟨(wrap64 (x5_3 + 1)), (x102000_3), (x102001_3), (x102002_3), (x102003_3), (x102004_3), (x103000_3), (x103001_3), (x103002_3), (x103004_3), (by first | rfl | (simp; done) | (simp [*]; done) | (simp [ne_nil_bool]; done)), H', ⟨by have := HJ1.out; have := HJ7.out; have := HK3.out; omega⟩, ⟨by (with_reducible repeat (first | refine blk_drewN ?_ _ | refine blk_drew ?_ | refine blk_alloc ?_ _)); exact BK101.out⟩, ⟨by (with_reducible repeat (first | refine blk_drewN ?_ _ | refine blk_drew ?_ | refine blk_alloc ?_ _)); exact BK102.out⟩, ⟨by repeat (first | (with_reducible first | exact HB.out | apply below_alloc | apply pw_below_drewN | apply below_drew1 | refine below_set ?_ GE101.out | refine below_set ?_ GE102.out) | exact HB.out)⟩⟩
                    · replace c29 := Bool.eq_false_iff.mpr c29
                      subst c29
                      have H1 : (some (x103000_3, x103001_3, x103002_3, x103003_7, x103004_3, false)) = some (r1, r2, r3, r4, r5, r6) := by rw [if_neg (show ¬ (false = true) by decide)] at H; exact H
                      clear H
                      have H := H1
                      clear H1
                      simp only [Option.some.injEq, Prod.mk.injEq] at H
                      obtain ⟨rfl, rfl, rfl, rfl, rfl, rfl⟩ := H
                      have p15 : 0 ≤ (x5_3 : Int) := of_decide_eq_true (by first | (with_reducible assumption) | assumption)
                      have q15 : x5_3 < (x0_7.size : Int) := of_decide_eq_true (by first | (with_reducible assumption) | assumption)
                      have hx15 := bt_at x0_7 x5_3
                      replace p15 := eq_true p15
                      replace q15 := eq_true q15
                      have p27 : 0 ≤ (x5_3 : Int) := of_decide_eq_true (by first | (with_reducible assumption) | assumption)
                      have q27 : x5_3 < (x0_7.size : Int) := of_decide_eq_true (by first | (with_reducible assumption) | assumption)
                      have hx27 := bt_at x0_7 x5_3
                      replace p27 := eq_true p27
                      replace q27 := eq_true q27
                      go_wp2_with (first | ((with_reducible refine gate_callee (f := 41) rfl ?_); refine goesL_ (some 47) rfl rfl Try.func41 (by kernel_rfl) rfl #[.int .u8 (bt x0_7 x5_3)] rfl (by (try simp only [List.map_toArray, List.map_cons, List.map_nil]); first | done | rfl | (simp only [List.length_drop, List.length_take]; rfl)) ?_; (with_reducible refine (sjson_isSimpleChar.calls (bt x0_7 x5_3) false _ A28.out).mono ?_); rintro e w' ⟨rfl, ⟨nd, rfl⟩⟩; refine ⟨_, rfl, ?_⟩; (try (rw [drewN_self wr]; generalize hq_ : World.drewN wr _ = wr; have n0_ : Aside0 (wr.heap[gb101]? = some (.cells #[.string x102000_3, .string x102001_3, .string x102002_3, .bool x102003_3, .bool x102004_3] 59 (0, 0))) := ⟨by rw [← hq_]; exact (by (with_reducible repeat (first | refine blk_drewN ?_ _ | refine blk_drew ?_ | refine blk_alloc ?_ _)); exact BK101.out)⟩; have n1_ : Aside0 (wr.heap[gb102]? = some (.cells #[.string x103000_3, .string x103001_3, .string x103002_3, .bool x103003_7, .bool x103004_3] 59 (0, 0))) := ⟨by rw [← hq_]; exact (by (with_reducible repeat (first | refine blk_drewN ?_ _ | refine blk_drew ?_ | refine blk_alloc ?_ _)); exact BK102.out)⟩; have n2_ : Aside0 (Below w.heap.size w wr) := ⟨by rw [← hq_]; exact (by repeat (first | (with_reducible first | exact HB.out | apply below_alloc | apply pw_below_drewN | apply below_drew1 | refine below_set ?_ GE101.out | refine below_set ?_ GE102.out) | exact HB.out))⟩; clear BK101 BK102 HB hq_; have BK101 := n0_; have BK102 := n1_; have HB := n2_; clear n0_ n1_ n2_)); have hnb34 := NB102_101.out; have hnc34 := NB101_102.out; have hcz35_0 : wr.cell? ⟨gb102, 0, none⟩ = some (.string x103000_3) := (blk_cell BK102.out 0).trans rfl; have hcz35_1 : wr.cell? ⟨gb102, 1, none⟩ = some (.string x103001_3) := (blk_cell BK102.out 1).trans rfl; have hcz35_2 : wr.cell? ⟨gb102, 2, none⟩ = some (.string x103002_3) := (blk_cell BK102.out 2).trans rfl; have hcz35_3 : wr.cell? ⟨gb102, 3, none⟩ = some (.bool x103003_7) := (blk_cell BK102.out 3).trans rfl; have hcz35_4 : wr.cell? ⟨gb102, 4, none⟩ = some (.bool x103004_3) := (blk_cell BK102.out 4).trans rfl; have hfz35_0 := blk_frozen BK102.out 0; have hfz35_1 := blk_frozen BK102.out 1; have hfz35_2 := blk_frozen BK102.out 2; have hfz35_3 := blk_frozen BK102.out 3; have hfz35_4 := blk_frozen BK102.out 4; have hcz36_0 : wr.cell? ⟨gb101, 0, none⟩ = some (.string x102000_3) := (blk_cell BK101.out 0).trans rfl; have hcz36_1 : wr.cell? ⟨gb101, 1, none⟩ = some (.string x102001_3) := (blk_cell BK101.out 1).trans rfl; have hcz36_2 : wr.cell? ⟨gb101, 2, none⟩ = some (.string x102002_3) := (blk_cell BK101.out 2).trans rfl; have hcz36_3 : wr.cell? ⟨gb101, 3, none⟩ = some (.bool x102003_3) := (blk_cell BK101.out 3).trans rfl; have hcz36_4 : wr.cell? ⟨gb101, 4, none⟩ = some (.bool x102004_3) := (blk_cell BK101.out 4).trans rfl; have hfz36_0 := blk_frozen BK101.out 0; have hfz36_1 := blk_frozen BK101.out 1; have hfz36_2 := blk_frozen BK101.out 2; have hfz36_3 := blk_frozen BK101.out 3; have hfz36_4 := blk_frozen BK101.out 4))
                      refine bodyPost_ret (results_ct rfl _ _ gb101 59 #[.string x103000_3, .string x103001_3, .string x103002_3, .bool x103003_7, .bool x103004_3] (0, 0) _ rfl (by (with_reducible repeat (first | refine blk_drewN ?_ _ | refine blk_drew ?_ | refine blk_alloc ?_ _)); refine blk_put (cs := #[.string x103000_3, .string x103001_3, .string x103002_3, .bool x103003_7, .bool x102004_3]) ?_ 4 _ rfl; (with_reducible repeat (first | refine blk_drewN ?_ _ | refine blk_drew ?_ | refine blk_alloc ?_ _)); refine blk_put (cs := #[.string x103000_3, .string x103001_3, .string x103002_3, .bool x102003_3, .bool x102004_3]) ?_ 3 _ rfl; (with_reducible repeat (first | refine blk_drewN ?_ _ | refine blk_drew ?_ | refine blk_alloc ?_ _)); refine blk_put (cs := #[.string x103000_3, .string x103001_3, .string x102002_3, .bool x102003_3, .bool x102004_3]) ?_ 2 _ rfl; (with_reducible repeat (first | refine blk_drewN ?_ _ | refine blk_drew ?_ | refine blk_alloc ?_ _)); refine blk_put (cs := #[.string x103000_3, .string x102001_3, .string x102002_3, .bool x102003_3, .bool x102004_3]) ?_ 1 _ rfl; (with_reducible repeat (first | refine blk_drewN ?_ _ | refine blk_drew ?_ | refine blk_alloc ?_ _)); refine blk_put (cs := #[.string x102000_3, .string x102001_3, .string x102002_3, .bool x102003_3, .bool x102004_3]) ?_ 0 _ rfl; (with_reducible repeat (first | refine blk_drewN ?_ _ | refine blk_drew ?_ | refine blk_alloc ?_ _)); exact BK101.out) Try.underlying59 rfl (by kernel_rfl)) rfl ?_
                      exact ⟨by first | rfl | (simp [errW_none, errW_some] <;> rfl) | (simp [*, errW_none, errW_some] <;> rfl), by repeat (first | (with_reducible first | exact HB.out | apply below_alloc | apply pw_below_drewN | apply below_drew1 | refine below_set ?_ GE101.out | refine below_set ?_ GE102.out) | exact HB.out)⟩
                · rw [if_neg c14] at H
                  exact absurd H (by simp)
              · rw [if_neg c13] at H
                have c13b0 : decide (x5_3 < (x0_7.size : Int)) = false := decide_eq_false c13
                clear c13
                simp only [Option.some.injEq, Prod.mk.injEq] at H
                obtain ⟨rfl, rfl, rfl, rfl, rfl, rfl⟩ := H
                have hnb37 := NB102_101.out
                have hnc37 := NB101_102.out
                have hcz38_0 : wr.cell? ⟨gb102, 0, none⟩ = some (.string x103000_3) := (blk_cell BK102.out 0).trans rfl
                have hcz38_1 : wr.cell? ⟨gb102, 1, none⟩ = some (.string x103001_3) := (blk_cell BK102.out 1).trans rfl
                have hcz38_2 : wr.cell? ⟨gb102, 2, none⟩ = some (.string x103002_3) := (blk_cell BK102.out 2).trans rfl
                have hcz38_3 : wr.cell? ⟨gb102, 3, none⟩ = some (.bool x103003_7) := (blk_cell BK102.out 3).trans rfl
                have hcz38_4 : wr.cell? ⟨gb102, 4, none⟩ = some (.bool x103004_3) := (blk_cell BK102.out 4).trans rfl
                have hfz38_0 := blk_frozen BK102.out 0
                have hfz38_1 := blk_frozen BK102.out 1
                have hfz38_2 := blk_frozen BK102.out 2
                have hfz38_3 := blk_frozen BK102.out 3
                have hfz38_4 := blk_frozen BK102.out 4
                have hcz39_0 : wr.cell? ⟨gb101, 0, none⟩ = some (.string x102000_3) := (blk_cell BK101.out 0).trans rfl
                have hcz39_1 : wr.cell? ⟨gb101, 1, none⟩ = some (.string x102001_3) := (blk_cell BK101.out 1).trans rfl
                have hcz39_2 : wr.cell? ⟨gb101, 2, none⟩ = some (.string x102002_3) := (blk_cell BK101.out 2).trans rfl
                have hcz39_3 : wr.cell? ⟨gb101, 3, none⟩ = some (.bool x102003_3) := (blk_cell BK101.out 3).trans rfl
                have hcz39_4 : wr.cell? ⟨gb101, 4, none⟩ = some (.bool x102004_3) := (blk_cell BK101.out 4).trans rfl
                have hfz39_0 := blk_frozen BK101.out 0
                have hfz39_1 := blk_frozen BK101.out 1
                have hfz39_2 := blk_frozen BK101.out 2
                have hfz39_3 := blk_frozen BK101.out 3
                have hfz39_4 := blk_frozen BK101.out 4
                go_wp2
                refine bodyPost_ret (results_ct rfl _ _ gb101 59 #[.string x0_7, .string x0_7, .string x103002_3, .bool x103003_7, .bool x103004_3] (0, 0) _ rfl (by (with_reducible repeat (first | refine blk_drewN ?_ _ | refine blk_drew ?_ | refine blk_alloc ?_ _)); refine blk_put (cs := #[.string x0_7, .string x0_7, .string x103002_3, .bool x103003_7, .bool x102004_3]) ?_ 4 _ rfl; (with_reducible repeat (first | refine blk_drewN ?_ _ | refine blk_drew ?_ | refine blk_alloc ?_ _)); refine blk_put (cs := #[.string x0_7, .string x0_7, .string x103002_3, .bool x102003_3, .bool x102004_3]) ?_ 3 _ rfl; (with_reducible repeat (first | refine blk_drewN ?_ _ | refine blk_drew ?_ | refine blk_alloc ?_ _)); refine blk_put (cs := #[.string x0_7, .string x0_7, .string x102002_3, .bool x102003_3, .bool x102004_3]) ?_ 2 _ rfl; (with_reducible repeat (first | refine blk_drewN ?_ _ | refine blk_drew ?_ | refine blk_alloc ?_ _)); refine blk_put (cs := #[.string x0_7, .string x102001_3, .string x102002_3, .bool x102003_3, .bool x102004_3]) ?_ 1 _ rfl; (with_reducible repeat (first | refine blk_drewN ?_ _ | refine blk_drew ?_ | refine blk_alloc ?_ _)); refine blk_put (cs := #[.string x102000_3, .string x102001_3, .string x102002_3, .bool x102003_3, .bool x102004_3]) ?_ 0 _ rfl; (with_reducible repeat (first | refine blk_drewN ?_ _ | refine blk_drew ?_ | refine blk_alloc ?_ _)); refine blk_far ?_ NB101_102.out _; (with_reducible repeat (first | refine blk_drewN ?_ _ | refine blk_drew ?_ | refine blk_alloc ?_ _)); refine blk_far ?_ NB101_102.out _; (with_reducible repeat (first | refine blk_drewN ?_ _ | refine blk_drew ?_ | refine blk_alloc ?_ _)); exact BK101.out) Try.underlying59 rfl (by kernel_rfl)) rfl ?_
                exact ⟨by first | rfl | (simp [errW_none, errW_some] <;> rfl) | (simp [*, errW_none, errW_some] <;> rfl), by repeat (first | (with_reducible first | exact HB.out | apply below_alloc | apply pw_below_drewN | apply below_drew1 | refine below_set ?_ GE101.out | refine below_set ?_ GE102.out) | exact HB.out)⟩

/-! ### sjson_DoorPath: function 23 -/
def sjson_DoorPath.f (k : Nat) (a0 : ByteArray) : Option (ByteArray × ByteArray × ByteArray × Bool × Bool × Bool) := (sjson_parsePath.f k a0).bind fun bt104 => (some (bt104.1, bt104.2.1, bt104.2.2.1, bt104.2.2.2.1, bt104.2.2.2.2.1, bt104.2.2.2.2.2))
theorem sjson_DoorPath.mono : ∀ a0 k, LeO (sjson_DoorPath.f k a0) (sjson_DoorPath.f (k + 1) a0) := by
  intro a0 k
  unfold sjson_DoorPath.f
  repeat' first
      | (with_reducible exact sjson_parsePath.mono _ _)
      | (with_reducible exact LeO.refl _)
      | (with_reducible exact LeO.none _)
      | (with_reducible refine LeO.ite ?_ ?_)
      | (with_reducible refine LeO.bind ?_ (fun _ => ?_))
      | exact sjson_parsePath.mono _ _
      | exact LeO.none _
      | refine LeO.ite ?_ ?_
      | refine LeO.bind ?_ (fun _ => ?_)
set_option maxHeartbeats 8000000 in
set_option maxRecDepth 100000 in
theorem sjson_DoorPath.calls (k : Nat) (a0 : ByteArray) (r1 : ByteArray) (r2 : ByteArray) (r3 : ByteArray) (r4 : Bool) (r5 : Bool) (r6 : Bool) (w : World) (h : sjson_DoorPath.f k a0 = some (r1, r2, r3, r4, r5, r6)) :
    Calls Try.prog 23 #[.string a0] w fun e w' => e = .returned (.tuple #[.string r1, .string r2, .string r3, .bool r4, .bool r5, .bool r6]) ∧ Below w.heap.size w w' := by
  have hu59 := Try.underlying59
  have HB := Aside0.mk (Below.refl w.heap.size w)
  have H : ((sjson_parsePath.f k a0).bind fun bt104 => (some (bt104.1, bt104.2.1, bt104.2.2.1, bt104.2.2.2.1, bt104.2.2.2.2.1, bt104.2.2.2.2.2))) = some (r1, r2, r3, r4, r5, r6) := h
  clear h
  replace H := Option.bind_eq_some_iff.mp H
  obtain ⟨⟨t104, t105, t106, t107, t108, t109⟩, A20, H⟩ := H
  replace H : (some (t104, t105, t106, t107, t108, t109)) = some (r1, r2, r3, r4, r5, r6) := H
  have A2 := Aside0.mk A20
  clear A20
  simp only [Option.some.injEq, Prod.mk.injEq] at H
  obtain ⟨rfl, rfl, rfl, rfl, rfl, rfl⟩ := H
  go_enter Try.func23, Try.ntmps23
  go_wp2_with (first | (go_at_call 35; (with_reducible refine (sjson_parsePath.calls k a0 t104 t105 t106 t107 t108 t109 _ A2.out).mono ?_); rintro e w3 ⟨rfl, hb⟩; have n0_ := Aside0.mk (below_step (by repeat (first | (with_reducible first | exact HB.out | apply below_alloc | apply pw_below_drewN | apply below_drew1) | exact HB.out)) hb); clear HB; have HB := n0_; clear n0_; (try clear hb); (try clear hb2); (try clear hk); (try clear hi)) | ((with_reducible refine gate_dst (N := 8) rfl ?_); refine box_event ?hg (N := 8) ?hd (cs := #[.string (⟨#[]⟩ : ByteArray), .string (⟨#[]⟩ : ByteArray), .string (⟨#[]⟩ : ByteArray), .bool false, .bool false]) (t := 59) ?hr ?_; (case hd => rfl); (case hg => rfl); (case hr => first | (go_simp; done) | (go_simp; rfl)); intro gb110 hg w4 hbox hb; have n0_ := Aside0.mk (below_step (by repeat (first | (with_reducible first | exact HB.out | apply below_alloc | apply pw_below_drewN | apply below_drew1) | exact HB.out)) hb); have n1_ := Aside0.mk (hbox); have n2_ := Aside0.mk ((by rw [hg]; exact (below_size (by repeat (first | (with_reducible first | exact HB.out | apply below_alloc | apply pw_below_drewN | apply below_drew1) | exact HB.out))) : w.heap.size ≤ gb110)); have n3_ := Aside0.mk ((by rw [hg]; exact (below_size (by repeat (first | (with_reducible first | exact HB.out | apply below_alloc | apply pw_below_drewN | apply below_drew1) | exact HB.out))) : w.heap.size ≤ gb110)); clear HB; have HB := n0_; have BK110 := n1_; have GW110 := n2_; have GE110 := n3_; clear n0_ n1_ n2_ n3_; clear hb hbox hg; have hcz5_0 : w4.cell? ⟨gb110, 0, none⟩ = some (.string (⟨#[]⟩ : ByteArray)) := (blk_cell BK110.out 0).trans rfl; have hcz5_1 : w4.cell? ⟨gb110, 1, none⟩ = some (.string (⟨#[]⟩ : ByteArray)) := (blk_cell BK110.out 1).trans rfl; have hcz5_2 : w4.cell? ⟨gb110, 2, none⟩ = some (.string (⟨#[]⟩ : ByteArray)) := (blk_cell BK110.out 2).trans rfl; have hcz5_3 : w4.cell? ⟨gb110, 3, none⟩ = some (.bool false) := (blk_cell BK110.out 3).trans rfl; have hcz5_4 : w4.cell? ⟨gb110, 4, none⟩ = some (.bool false) := (blk_cell BK110.out 4).trans rfl; have hfz5_0 := blk_frozen BK110.out 0; have hfz5_1 := blk_frozen BK110.out 1; have hfz5_2 := blk_frozen BK110.out 2; have hfz5_3 := blk_frozen BK110.out 3; have hfz5_4 := blk_frozen BK110.out 4))
  repeat (go_quiet (first | (go_at_call 35; (with_reducible refine (sjson_parsePath.calls k a0 t104 t105 t106 t107 t108 t109 _ A2.out).mono ?_); rintro e w3 ⟨rfl, hb⟩; have n0_ := Aside0.mk (below_step (by repeat (first | (with_reducible first | exact HB.out | apply below_alloc | apply pw_below_drewN | apply below_drew1) | exact HB.out)) hb); clear HB; have HB := n0_; clear n0_; (try clear hb); (try clear hb2); (try clear hk); (try clear hi)) | ((with_reducible refine gate_dst (N := 8) rfl ?_); refine box_event ?hg (N := 8) ?hd (cs := #[.string (⟨#[]⟩ : ByteArray), .string (⟨#[]⟩ : ByteArray), .string (⟨#[]⟩ : ByteArray), .bool false, .bool false]) (t := 59) ?hr ?_; (case hd => rfl); (case hg => rfl); (case hr => first | (go_simp; done) | (go_simp; rfl)); intro gb110 hg w4 hbox hb; have n0_ := Aside0.mk (below_step (by repeat (first | (with_reducible first | exact HB.out | apply below_alloc | apply pw_below_drewN | apply below_drew1) | exact HB.out)) hb); have n1_ := Aside0.mk (hbox); have n2_ := Aside0.mk ((by rw [hg]; exact (below_size (by repeat (first | (with_reducible first | exact HB.out | apply below_alloc | apply pw_below_drewN | apply below_drew1) | exact HB.out))) : w.heap.size ≤ gb110)); have n3_ := Aside0.mk ((by rw [hg]; exact (below_size (by repeat (first | (with_reducible first | exact HB.out | apply below_alloc | apply pw_below_drewN | apply below_drew1) | exact HB.out))) : w.heap.size ≤ gb110)); clear HB; have HB := n0_; have BK110 := n1_; have GW110 := n2_; have GE110 := n3_; clear n0_ n1_ n2_ n3_; clear hb hbox hg; have hcz5_0 : w4.cell? ⟨gb110, 0, none⟩ = some (.string (⟨#[]⟩ : ByteArray)) := (blk_cell BK110.out 0).trans rfl; have hcz5_1 : w4.cell? ⟨gb110, 1, none⟩ = some (.string (⟨#[]⟩ : ByteArray)) := (blk_cell BK110.out 1).trans rfl; have hcz5_2 : w4.cell? ⟨gb110, 2, none⟩ = some (.string (⟨#[]⟩ : ByteArray)) := (blk_cell BK110.out 2).trans rfl; have hcz5_3 : w4.cell? ⟨gb110, 3, none⟩ = some (.bool false) := (blk_cell BK110.out 3).trans rfl; have hcz5_4 : w4.cell? ⟨gb110, 4, none⟩ = some (.bool false) := (blk_cell BK110.out 4).trans rfl; have hfz5_0 := blk_frozen BK110.out 0; have hfz5_1 := blk_frozen BK110.out 1; have hfz5_2 := blk_frozen BK110.out 2; have hfz5_3 := blk_frozen BK110.out 3; have hfz5_4 := blk_frozen BK110.out 4)); try go_wp2_with (first | (go_at_call 35; (with_reducible refine (sjson_parsePath.calls k a0 t104 t105 t106 t107 t108 t109 _ A2.out).mono ?_); rintro e w3 ⟨rfl, hb⟩; have n0_ := Aside0.mk (below_step (by repeat (first | (with_reducible first | exact HB.out | apply below_alloc | apply pw_below_drewN | apply below_drew1) | exact HB.out)) hb); clear HB; have HB := n0_; clear n0_; (try clear hb); (try clear hb2); (try clear hk); (try clear hi)) | ((with_reducible refine gate_dst (N := 8) rfl ?_); refine box_event ?hg (N := 8) ?hd (cs := #[.string (⟨#[]⟩ : ByteArray), .string (⟨#[]⟩ : ByteArray), .string (⟨#[]⟩ : ByteArray), .bool false, .bool false]) (t := 59) ?hr ?_; (case hd => rfl); (case hg => rfl); (case hr => first | (go_simp; done) | (go_simp; rfl)); intro gb110 hg w4 hbox hb; have n0_ := Aside0.mk (below_step (by repeat (first | (with_reducible first | exact HB.out | apply below_alloc | apply pw_below_drewN | apply below_drew1) | exact HB.out)) hb); have n1_ := Aside0.mk (hbox); have n2_ := Aside0.mk ((by rw [hg]; exact (below_size (by repeat (first | (with_reducible first | exact HB.out | apply below_alloc | apply pw_below_drewN | apply below_drew1) | exact HB.out))) : w.heap.size ≤ gb110)); have n3_ := Aside0.mk ((by rw [hg]; exact (below_size (by repeat (first | (with_reducible first | exact HB.out | apply below_alloc | apply pw_below_drewN | apply below_drew1) | exact HB.out))) : w.heap.size ≤ gb110)); clear HB; have HB := n0_; have BK110 := n1_; have GW110 := n2_; have GE110 := n3_; clear n0_ n1_ n2_ n3_; clear hb hbox hg; have hcz5_0 : w4.cell? ⟨gb110, 0, none⟩ = some (.string (⟨#[]⟩ : ByteArray)) := (blk_cell BK110.out 0).trans rfl; have hcz5_1 : w4.cell? ⟨gb110, 1, none⟩ = some (.string (⟨#[]⟩ : ByteArray)) := (blk_cell BK110.out 1).trans rfl; have hcz5_2 : w4.cell? ⟨gb110, 2, none⟩ = some (.string (⟨#[]⟩ : ByteArray)) := (blk_cell BK110.out 2).trans rfl; have hcz5_3 : w4.cell? ⟨gb110, 3, none⟩ = some (.bool false) := (blk_cell BK110.out 3).trans rfl; have hcz5_4 : w4.cell? ⟨gb110, 4, none⟩ = some (.bool false) := (blk_cell BK110.out 4).trans rfl; have hfz5_0 := blk_frozen BK110.out 0; have hfz5_1 := blk_frozen BK110.out 1; have hfz5_2 := blk_frozen BK110.out 2; have hfz5_3 := blk_frozen BK110.out 3; have hfz5_4 := blk_frozen BK110.out 4)))
  refine bodyPost_ret (results_list (rs := [.tmp 2, .tmp 3, .tmp 4, .tmp 5, .tmp 6, .tmp 7]) rfl (by simp) (.tmp (.tmp (.tmp (.tmp (.tmp (.tmp .nil))))))) rfl ?_
  exact ⟨by first | rfl | (simp [errW_none, errW_some] <;> rfl) | (simp [*, errW_none, errW_some] <;> rfl), by repeat (first | (with_reducible first | exact HB.out | apply below_alloc | apply pw_below_drewN | apply below_drew1 | refine below_set ?_ GE110.out) | exact HB.out)⟩

/-! ### impl_SjPath: function 16 -/
def impl_SjPath.f (k : Nat) (a0 : ByteArray) : Option (ByteArray × ByteArray × ByteArray × Bool × Bool × Bool) := (sjson_DoorPath.f k a0).bind fun bt111 => (some (bt111.1, bt111.2.1, bt111.2.2.1, bt111.2.2.2.1, bt111.2.2.2.2.1, bt111.2.2.2.2.2))
theorem impl_SjPath.mono : ∀ a0 k, LeO (impl_SjPath.f k a0) (impl_SjPath.f (k + 1) a0) := by
  intro a0 k
  unfold impl_SjPath.f
  repeat' first
      | (with_reducible exact sjson_DoorPath.mono _ _)
      | (with_reducible exact LeO.refl _)
      | (with_reducible exact LeO.none _)
      | (with_reducible refine LeO.ite ?_ ?_)
      | (with_reducible refine LeO.bind ?_ (fun _ => ?_))
      | exact sjson_DoorPath.mono _ _
      | exact LeO.none _
      | refine LeO.ite ?_ ?_
      | refine LeO.bind ?_ (fun _ => ?_)
set_option maxHeartbeats 8000000 in
set_option maxRecDepth 100000 in
theorem impl_SjPath.calls (k : Nat) (a0 : ByteArray) (r1 : ByteArray) (r2 : ByteArray) (r3 : ByteArray) (r4 : Bool) (r5 : Bool) (r6 : Bool) (w : World) (h : impl_SjPath.f k a0 = some (r1, r2, r3, r4, r5, r6)) :
    Calls Try.prog 16 #[.string a0] w fun e w' => e = .returned (.tuple #[.string r1, .string r2, .string r3, .bool r4, .bool r5, .bool r6]) ∧ Below w.heap.size w w' := by
  have HB := Aside0.mk (Below.refl w.heap.size w)
  have H : ((sjson_DoorPath.f k a0).bind fun bt111 => (some (bt111.1, bt111.2.1, bt111.2.2.1, bt111.2.2.2.1, bt111.2.2.2.2.1, bt111.2.2.2.2.2))) = some (r1, r2, r3, r4, r5, r6) := h
  clear h
  replace H := Option.bind_eq_some_iff.mp H
  obtain ⟨⟨t111, t112, t113, t114, t115, t116⟩, A20, H⟩ := H
  replace H : (some (t111, t112, t113, t114, t115, t116)) = some (r1, r2, r3, r4, r5, r6) := H
  have A2 := Aside0.mk A20
  clear A20
  simp only [Option.some.injEq, Prod.mk.injEq] at H
  obtain ⟨rfl, rfl, rfl, rfl, rfl, rfl⟩ := H
  go_enter Try.func16, Try.ntmps16
  go_wp2_with (first | ((with_reducible refine gate_callee (f := 23) rfl ?_); refine goesL_ (some 9) rfl rfl Try.func23 (by kernel_rfl) rfl #[.string a0] rfl (by (try simp only [List.map_toArray, List.map_cons, List.map_nil]); first | done | rfl | (simp only [List.length_drop, List.length_take]; rfl)) ?_; (with_reducible refine (sjson_DoorPath.calls k a0 t111 t112 t113 t114 t115 t116 _ A2.out).mono ?_); rintro e w3 ⟨rfl, hb⟩; refine ⟨_, rfl, ?_⟩; have n0_ := Aside0.mk (below_step (by repeat (first | (with_reducible first | exact HB.out | apply below_alloc | apply pw_below_drewN | apply below_drew1) | exact HB.out)) hb); clear HB; have HB := n0_; clear n0_; (try clear hb); (try clear hb2); (try clear hk); (try clear hi)))
  refine bodyPost_ret (results_list (rs := [.tmp 2, .tmp 3, .tmp 4, .tmp 5, .tmp 6, .tmp 7]) rfl (by simp) (.tmp (.tmp (.tmp (.tmp (.tmp (.tmp .nil))))))) rfl ?_
  exact ⟨by first | rfl | (simp [errW_none, errW_some] <;> rfl) | (simp [*, errW_none, errW_some] <;> rfl), by repeat (first | (with_reducible first | exact HB.out | apply below_alloc | apply pw_below_drewN | apply below_drew1) | exact HB.out)⟩

end Go.Proofs.Ytklllibhgalnfaa.PFnSjPathWild
