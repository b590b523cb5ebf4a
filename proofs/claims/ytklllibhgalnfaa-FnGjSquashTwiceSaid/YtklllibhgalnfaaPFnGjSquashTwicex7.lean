-- printed by a program of this session
import Derived.Test.YtklllibhgalnfaaPFnGjSquashTwicex0
import Derived.Test.YtklllibhgalnfaaPFnGjSquashTwicex2
import Derived.Test.YtklllibhgalnfaaPFnGjSquashTwicex6
namespace Go.Proofs.Ytklllibhgalnfaa.PFnGjSquashTwice
open Go.RowKit Go.Proofs.Ytklllibhgalnfaa.G Go.Proofs.YtklllibhgalnfaaW.PrintWords Go.Proofs.YtklllibhgalnfaaW.PrintLast Go.Proofs.YtklllibhgalnfaaW.PrintMore
attribute [local go_sem] max2_int min2_int max_two min_two max_three min_three max_four min_four   -- for this text's walks alone
set_option linter.unusedVariables false
set_option linter.unusedSimpArgs false

/-! ### laws_FnGjSquashTwice: function 6 -/
mutual
def laws_FnGjSquashTwice.j0 : Nat → ByteArray → Bool → Option (Bool)
  | 0, _, _ => none
  | k + 1, x0, x26 => if x26 = true then (some true) else ((impl_GjSquash.f k x0).bind fun t286 => (if t286.toList = ([] : List UInt8) then (laws_FnGjSquashTwice.j1 k t286 true) else ((impl_GjSquash.f k t286).bind fun t287 => (laws_FnGjSquashTwice.j1 k t286 (t287.toList != t286.toList)))))
def laws_FnGjSquashTwice.j1 : Nat → ByteArray → Bool → Option (Bool)
  | 0, _, _ => none
  | k + 1, x3, x36 => if x36 = true then (some false) else (laws_FnGjSquashTwice.l0 k x3 1)
def laws_FnGjSquashTwice.l0 : Nat → ByteArray → Int → Option (Bool)
  | 0, _, _ => none
  | k + 1, x3, x4 => if x4 < (x3.size : Int) then (laws_FnGjSquashTwice.j3 k x3 x4 (decide (x4 < 64))) else (laws_FnGjSquashTwice.j3 k x3 x4 false)
def laws_FnGjSquashTwice.j3 : Nat → ByteArray → Int → Bool → Option (Bool)
  | 0, _, _, _ => none
  | k + 1, x3, x4, x44 => if x44 = true then (if 0 ≤ x4 then (if x4 ≤ (x3.size : Int) then ((spec_Places.f k (x3.extract 0 (x4 : Int).toNat)).bind fun bt288 => (if bt288.2.2.2.2.2 = true then (some false) else (laws_FnGjSquashTwice.l0 k x3 (wrap64 (x4 + 1))))) else (none)) else (none)) else (some true)
end
def laws_FnGjSquashTwice.f (k : Nat) (a0 : ByteArray) : Option (Bool) := if (a0.size : Int) > 2147483647 then (some true) else (if a0.toList = ([] : List UInt8) then (laws_FnGjSquashTwice.j0 k a0 true) else (if (a0.size : Int) > 4096 then (laws_FnGjSquashTwice.j0 k a0 true) else (if 0 < (a0.size : Int) then (if (bt a0 0) = 91 then (laws_FnGjSquashTwice.j0 k a0 false) else (laws_FnGjSquashTwice.j0 k a0 ((bt a0 0) != 123))) else (none))))
theorem laws_FnGjSquashTwice.mono_l : ∀ k, (∀ y0 y1, LeO (laws_FnGjSquashTwice.j0 k y0 y1) (laws_FnGjSquashTwice.j0 (k + 1) y0 y1)) ∧ (∀ y0 y1, LeO (laws_FnGjSquashTwice.j1 k y0 y1) (laws_FnGjSquashTwice.j1 (k + 1) y0 y1)) ∧ (∀ y0 y1, LeO (laws_FnGjSquashTwice.l0 k y0 y1) (laws_FnGjSquashTwice.l0 (k + 1) y0 y1)) ∧ (∀ y0 y1 y2, LeO (laws_FnGjSquashTwice.j3 k y0 y1 y2) (laws_FnGjSquashTwice.j3 (k + 1) y0 y1 y2))
  | 0 => ⟨fun _ _ r h => by simp [laws_FnGjSquashTwice.j0] at h, fun _ _ r h => by simp [laws_FnGjSquashTwice.j1] at h, fun _ _ r h => by simp [laws_FnGjSquashTwice.l0] at h, fun _ _ _ r h => by simp [laws_FnGjSquashTwice.j3] at h⟩
  | k + 1 => by
    obtain ⟨ih0, ih1, ih2, ih3⟩ := laws_FnGjSquashTwice.mono_l k
    refine ⟨?_, ?_, ?_, ?_⟩
    · intro y0 y1
      unfold laws_FnGjSquashTwice.j0
      repeat' first
      | (with_reducible exact ih0 _ _)
      | (with_reducible exact ih1 _ _)
      | (with_reducible exact ih2 _ _)
      | (with_reducible exact ih3 _ _ _)
      | (with_reducible exact impl_GjSquash.mono _ _)
      | (with_reducible exact spec_Places.mono _ _)
      | (with_reducible exact LeO.refl _)
      | (with_reducible exact LeO.none _)
      | (with_reducible refine LeO.ite ?_ ?_)
      | (with_reducible refine LeO.bind ?_ (fun _ => ?_))
      | exact ih0 _ _
      | exact ih1 _ _
      | exact ih2 _ _
      | exact ih3 _ _ _
      | exact impl_GjSquash.mono _ _
      | exact spec_Places.mono _ _
      | exact LeO.none _
      | refine LeO.ite ?_ ?_
      | refine LeO.bind ?_ (fun _ => ?_)
    · intro y0 y1
      unfold laws_FnGjSquashTwice.j1
      repeat' first
      | (with_reducible exact ih0 _ _)
      | (with_reducible exact ih1 _ _)
      | (with_reducible exact ih2 _ _)
      | (with_reducible exact ih3 _ _ _)
      | (with_reducible exact impl_GjSquash.mono _ _)
      | (with_reducible exact spec_Places.mono _ _)
      | (with_reducible exact LeO.refl _)
      | (with_reducible exact LeO.none _)
      | (with_reducible refine LeO.ite ?_ ?_)
      | (with_reducible refine LeO.bind ?_ (fun _ => ?_))
      | exact ih0 _ _
      | exact ih1 _ _
      | exact ih2 _ _
      | exact ih3 _ _ _
      | exact impl_GjSquash.mono _ _
      | exact spec_Places.mono _ _
      | exact LeO.none _
      | refine LeO.ite ?_ ?_
      | refine LeO.bind ?_ (fun _ => ?_)
    · intro y0 y1
      unfold laws_FnGjSquashTwice.l0
      repeat' first
      | (with_reducible exact ih0 _ _)
      | (with_reducible exact ih1 _ _)
      | (with_reducible exact ih2 _ _)
      | (with_reducible exact ih3 _ _ _)
      | (with_reducible exact impl_GjSquash.mono _ _)
      | (with_reducible exact spec_Places.mono _ _)
      | (with_reducible exact LeO.refl _)
      | (with_reducible exact LeO.none _)
      | (with_reducible refine LeO.ite ?_ ?_)
      | (with_reducible refine LeO.bind ?_ (fun _ => ?_))
      | exact ih0 _ _
      | exact ih1 _ _
      | exact ih2 _ _
      | exact ih3 _ _ _
      | exact impl_GjSquash.mono _ _
      | exact spec_Places.mono _ _
      | exact LeO.none _
      | refine LeO.ite ?_ ?_
      | refine LeO.bind ?_ (fun _ => ?_)
    · intro y0 y1 y2
      unfold laws_FnGjSquashTwice.j3
      repeat' first
      | (with_reducible exact ih0 _ _)
      | (with_reducible exact ih1 _ _)
      | (with_reducible exact ih2 _ _)
      | (with_reducible exact ih3 _ _ _)
      | (with_reducible exact impl_GjSquash.mono _ _)
      | (with_reducible exact spec_Places.mono _ _)
      | (with_reducible exact LeO.refl _)
      | (with_reducible exact LeO.none _)
      | (with_reducible refine LeO.ite ?_ ?_)
      | (with_reducible refine LeO.bind ?_ (fun _ => ?_))
      | exact ih0 _ _
      | exact ih1 _ _
      | exact ih2 _ _
      | exact ih3 _ _ _
      | exact impl_GjSquash.mono _ _
      | exact spec_Places.mono _ _
      | exact LeO.none _
      | refine LeO.ite ?_ ?_
      | refine LeO.bind ?_ (fun _ => ?_)
theorem laws_FnGjSquashTwice.mono : ∀ a0 k, LeO (laws_FnGjSquashTwice.f k a0) (laws_FnGjSquashTwice.f (k + 1) a0) := by
  intro a0 k
  obtain ⟨ih0, ih1, ih2, ih3⟩ := laws_FnGjSquashTwice.mono_l k
  unfold laws_FnGjSquashTwice.f
  repeat' first
      | (with_reducible exact ih0 _ _)
      | (with_reducible exact ih1 _ _)
      | (with_reducible exact ih2 _ _)
      | (with_reducible exact ih3 _ _ _)
      | (with_reducible exact impl_GjSquash.mono _ _)
      | (with_reducible exact spec_Places.mono _ _)
      | (with_reducible exact LeO.refl _)
      | (with_reducible exact LeO.none _)
      | (with_reducible refine LeO.ite ?_ ?_)
      | (with_reducible refine LeO.bind ?_ (fun _ => ?_))
      | exact ih0 _ _
      | exact ih1 _ _
      | exact ih2 _ _
      | exact ih3 _ _ _
      | exact impl_GjSquash.mono _ _
      | exact spec_Places.mono _ _
      | exact LeO.none _
      | refine LeO.ite ?_ ?_
      | refine LeO.bind ?_ (fun _ => ?_)
set_option maxHeartbeats 8000000 in
set_option maxRecDepth 100000 in
theorem laws_FnGjSquashTwice.calls (k : Nat) (a0 : ByteArray) (r : Bool) (w : World) (h : laws_FnGjSquashTwice.f k a0 = some r) :
    Calls Try.prog 6 #[.string a0] w fun e w' => e = .returned (.bool r) ∧ Below w.heap.size w w' := by
  have hu36 := Try.underlying36
  have HB := Aside0.mk (Below.refl w.heap.size w)
  have H : (if (a0.size : Int) > 2147483647 then (some true) else (if a0.toList = ([] : List UInt8) then (laws_FnGjSquashTwice.j0 k a0 true) else (if (a0.size : Int) > 4096 then (laws_FnGjSquashTwice.j0 k a0 true) else (if 0 < (a0.size : Int) then (if (bt a0 0) = 91 then (laws_FnGjSquashTwice.j0 k a0 false) else (laws_FnGjSquashTwice.j0 k a0 ((bt a0 0) != 123))) else (none))))) = some r := h
  clear h
  by_cases c2 : (a0.size : Int) > 2147483647
  · rw [if_pos c2] at H
    have c2b0 : decide (2147483647 < (a0.size : Int)) = true := decide_eq_true c2
    have c2b1 : decide (2147483647 < a0.size) = true := decide_eq_true (by omega)
    clear c2
    obtain rfl := Option.some.inj H
    go_enter Try.func6, Try.ntmps6
    go_wp2
    go_ret
    exact ⟨by first | rfl | (simp [errW_none, errW_some] <;> rfl) | (simp [*, errW_none, errW_some] <;> rfl), by repeat (first | (with_reducible first | exact HB.out | apply below_alloc | apply pw_below_drewN | apply below_drew1) | exact HB.out)⟩
  · rw [if_neg c2] at H
    have c2b0 : decide (2147483647 < (a0.size : Int)) = false := decide_eq_false c2
    have c2b1 : decide (2147483647 < a0.size) = false := decide_eq_false (by omega)
    clear c2
    have HC3 := Aside0.mk H
    clear H
    go_enter Try.func6, Try.ntmps6
    go_upto_region 3 with (fail)
    go_cut [26] (fun v26 wc => ∃ (kq : Nat) (x26_2 : Bool), v26 = .bool x26_2 ∧ Aside0 (laws_FnGjSquashTwice.j0 kq a0 x26_2 = some r) ∧ Aside0 (kq ≤ k) ∧ Aside0 (Below w.heap.size w wc))
    case first =>
      have H := HC3.out
      clear HC3
      by_cases c4 : a0.toList = ([] : List UInt8)
      · rw [if_pos c4] at H
        have c4b0 : (a0.toList == ([] : List UInt8)) = true := beq_iff_eq.mpr c4
        have c4b1 : (a0.toList != ([] : List UInt8)) = false := bne_eq_false_iff_eq.mpr c4
        clear c4
        (first | rw [c4b0] | (simp only [i64_w, i32_w]; rw [c4b0]) | skip)
        have H' := Aside0.mk H
        clear H
        go_wp2
        go_meet
        case rel => exact ⟨_, (true), (by first | rfl | (simp; done) | (simp [*]; done) | (simp [ne_nil_bool]; done)), H', ⟨by first | omega | exact Nat.le_refl _⟩, ⟨by repeat (first | (with_reducible first | exact HB.out | apply below_alloc | apply pw_below_drewN | apply below_drew1) | exact HB.out)⟩⟩
      · rw [if_neg c4] at H
        have c4b0 : (a0.toList == ([] : List UInt8)) = false := beq_eq_false_iff_ne.mpr c4
        have c4b1 : (a0.toList != ([] : List UInt8)) = true := bne_iff_ne.mpr c4
        (first | rw [c4b0] | (simp only [i64_w, i32_w]; rw [c4b0]) | skip)
        by_cases c5 : (a0.size : Int) > 4096
        · rw [if_pos c5] at H
          have c5b0 : decide (4096 < (a0.size : Int)) = true := decide_eq_true c5
          have c5b1 : decide (4096 < a0.size) = true := decide_eq_true (by omega)
          clear c5
          have H' := Aside0.mk H
          clear H
          go_wp2
          go_meet
          case rel => exact ⟨_, (true), (by first | rfl | (simp; done) | (simp [*]; done) | (simp [ne_nil_bool]; done)), H', ⟨by first | omega | exact Nat.le_refl _⟩, ⟨by repeat (first | (with_reducible first | exact HB.out | apply below_alloc | apply pw_below_drewN | apply below_drew1) | exact HB.out)⟩⟩
        · rw [if_neg c5] at H
          have c5b0 : decide (4096 < (a0.size : Int)) = false := decide_eq_false c5
          have c5b1 : decide (4096 < a0.size) = false := decide_eq_false (by omega)
          clear c5
          by_cases c6 : 0 < (a0.size : Int)
          · rw [if_pos c6] at H
            have c6b0 : decide (0 < (a0.size : Int)) = true := decide_eq_true c6
            have c6b1 : decide (0 < a0.size) = true := decide_eq_true (by omega)
            clear c6
            by_cases c8 : (bt a0 0) = 91
            · rw [if_pos c8] at H
              have c8b0 : ((bt a0 0) == 91) = true := beq_iff_eq.mpr c8
              have c8b1 : ((bt a0 0) != 91) = false := bne_eq_false_iff_eq.mpr c8
              clear c8
              have H' := Aside0.mk H
              clear H
              have p7 : 0 ≤ (0 : Int) := (by omega)
              have q7 : 0 < a0.size := (by have : (0 : Int) < (a0.size : Int) := of_decide_eq_true (by first | (with_reducible assumption) | assumption); omega)
              have hx7 : ∀ h : 0 < a0.size, ((a0[0]'h).toNat : Int) = bt a0 0 := bt_at a0 0
              clear p7
              have qi7 : (0 < (a0.size : Int)) = True := eq_true (of_decide_eq_true (by first | (with_reducible assumption) | assumption))
              replace q7 := eq_true q7
              go_wp2
              go_meet
              case rel => exact ⟨_, (false), (by first | rfl | (simp; done) | (simp [*]; done) | (simp [ne_nil_bool]; done)), H', ⟨by first | omega | exact Nat.le_refl _⟩, ⟨by repeat (first | (with_reducible first | exact HB.out | apply below_alloc | apply pw_below_drewN | apply below_drew1) | exact HB.out)⟩⟩
            · rw [if_neg c8] at H
              have c8b0 : ((bt a0 0) == 91) = false := beq_eq_false_iff_ne.mpr c8
              have c8b1 : ((bt a0 0) != 91) = true := bne_iff_ne.mpr c8
              have H' := Aside0.mk H
              clear H
              have p7 : 0 ≤ (0 : Int) := (by omega)
              have q7 : 0 < a0.size := (by have : (0 : Int) < (a0.size : Int) := of_decide_eq_true (by first | (with_reducible assumption) | assumption); omega)
              have hx7 : ∀ h : 0 < a0.size, ((a0[0]'h).toNat : Int) = bt a0 0 := bt_at a0 0
              clear p7
              have qi7 : (0 < (a0.size : Int)) = True := eq_true (of_decide_eq_true (by first | (with_reducible assumption) | assumption))
              replace q7 := eq_true q7
              have p9 : 0 ≤ (0 : Int) := (by omega)
              have q9 : 0 < a0.size := (by have : (0 : Int) < (a0.size : Int) := of_decide_eq_true (by first | (with_reducible assumption) | assumption); omega)
              have hx9 : ∀ h : 0 < a0.size, ((a0[0]'h).toNat : Int) = bt a0 0 := bt_at a0 0
              clear p9
              have qi9 : (0 < (a0.size : Int)) = True := eq_true (of_decide_eq_true (by first | (with_reducible assumption) | assumption))
              replace q9 := eq_true q9
              go_wp2
              go_meet
              case rel => exact ⟨_, (((bt a0 0) != 123)), (by first | rfl | (simp; done) | (simp [*]; done) | (simp [ne_nil_bool]; done)), H', ⟨by first | omega | exact Nat.le_refl _⟩, ⟨by repeat (first | (with_reducible first | exact HB.out | apply below_alloc | apply pw_below_drewN | apply below_drew1) | exact HB.out)⟩⟩
          · rw [if_neg c6] at H
            exact absurd H (by simp)
    case rest =>
      clear HC3
      try clear c2
      try clear c2b0
      try clear c2b1
      try clear p2
      try clear c4
      try clear c4b0
      try clear c4b1
      try clear c5
      try clear c5b0
      try clear c5b1
      try clear c6
      try clear c6b0
      try clear c6b1
      try clear p7
      try clear q7
      try clear hx7
      try clear qi7
      try clear c8
      try clear c8b0
      try clear c8b1
      try clear p9
      try clear q9
      try clear hx9
      try clear qi9
      try clear p7
      try clear p9
      try clear q7
      try clear q9
      obtain ⟨kq, x26_2, rfl, HA, HJ2, HB⟩ := hcut
      cases kq with
      | zero => exact absurd HA.out (by simp [laws_FnGjSquashTwice.j0])
      | succ kj2 =>
        have H := HA.out
        clear HA
        simp only [laws_FnGjSquashTwice.j0] at H
        by_cases c10 : x26_2 = true
        · subst c10
          have H1 : (some true) = some r := by rw [if_pos rfl] at H; exact H
          clear H
          have H := H1
          clear H1
          obtain rfl := Option.some.inj H
          go_wp2
          go_ret
          exact ⟨by first | rfl | (simp [errW_none, errW_some] <;> rfl) | (simp [*, errW_none, errW_some] <;> rfl), by repeat (first | (with_reducible first | exact HB.out | apply below_alloc | apply pw_below_drewN | apply below_drew1) | exact HB.out)⟩
        · replace c10 := Bool.eq_false_iff.mpr c10
          subst c10
          have H1 : ((impl_GjSquash.f kj2 a0).bind fun t286 => (if t286.toList = ([] : List UInt8) then (laws_FnGjSquashTwice.j1 kj2 t286 true) else ((impl_GjSquash.f kj2 t286).bind fun t287 => (laws_FnGjSquashTwice.j1 kj2 t286 (t287.toList != t286.toList))))) = some r := by rw [if_neg (show ¬ (false = true) by decide)] at H; exact H
          clear H
          have H := H1
          clear H1
          replace H := Option.bind_eq_some_iff.mp H
          obtain ⟨t286, A110, H⟩ := H
          replace H : (if t286.toList = ([] : List UInt8) then (laws_FnGjSquashTwice.j1 kj2 t286 true) else ((impl_GjSquash.f kj2 t286).bind fun t287 => (laws_FnGjSquashTwice.j1 kj2 t286 (t287.toList != t286.toList)))) = some r := H
          have A11 := Aside0.mk A110
          clear A110
          have HC12 := Aside0.mk H
          clear H
          go_upto_region 6 with (first | ((with_reducible refine gate_callee (f := 13) rfl ?_); refine goesL_ (some 28) rfl rfl Try.func13 (by kernel_rfl) rfl #[.string a0] rfl (by (try simp only [List.map_toArray, List.map_cons, List.map_nil]); first | done | rfl | (simp only [List.length_drop, List.length_take]; rfl)) ?_; (with_reducible refine (impl_GjSquash.calls kj2 a0 t286 _ A11.out).mono ?_); rintro e w' ⟨rfl, ⟨nd, rfl⟩⟩; refine ⟨_, rfl, ?_⟩))
          (try simp only [Act.put, List.setIfInBounds_toArray, List.set_cons_zero, List.set_cons_succ])
          go_cut [36] (fun v36 wc => ∃ (kq : Nat) (x36_11 : Bool), v36 = .bool x36_11 ∧ Aside0 (laws_FnGjSquashTwice.j1 kq t286 x36_11 = some r) ∧ Aside0 (kq ≤ kj2) ∧ Aside0 (Below w.heap.size w wc))
          case first =>
            have H := HC12.out
            clear HC12
            by_cases c13 : t286.toList = ([] : List UInt8)
            · rw [if_pos c13] at H
              have c13b0 : (t286.toList == ([] : List UInt8)) = true := beq_iff_eq.mpr c13
              have c13b1 : (t286.toList != ([] : List UInt8)) = false := bne_eq_false_iff_eq.mpr c13
              clear c13
              (first | rw [c13b0] | (simp only [i64_w, i32_w]; rw [c13b0]) | skip)
              have H' := Aside0.mk H
              clear H
              go_wp2
              go_meet
              case rel => exact ⟨_, (true), (by first | rfl | (simp; done) | (simp [*]; done) | (simp [ne_nil_bool]; done)), H', ⟨by have := HJ2.out; first | omega | exact Nat.le_refl _⟩, ⟨by repeat (first | (with_reducible first | exact HB.out | apply below_alloc | apply pw_below_drewN | apply below_drew1) | exact HB.out)⟩⟩
            · rw [if_neg c13] at H
              have c13b0 : (t286.toList == ([] : List UInt8)) = false := beq_eq_false_iff_ne.mpr c13
              have c13b1 : (t286.toList != ([] : List UInt8)) = true := bne_iff_ne.mpr c13
              (first | rw [c13b0] | (simp only [i64_w, i32_w]; rw [c13b0]) | skip)
              replace H := Option.bind_eq_some_iff.mp H
              obtain ⟨t287, A140, H⟩ := H
              replace H : (laws_FnGjSquashTwice.j1 kj2 t286 (t287.toList != t286.toList)) = some r := H
              have A14 := Aside0.mk A140
              clear A140
              have H' := Aside0.mk H
              clear H
              go_wp2_with (first | (go_at_call 13; (with_reducible refine (impl_GjSquash.calls kj2 t286 t287 _ A14.out).mono ?_); rintro e w' ⟨rfl, ⟨nd, rfl⟩⟩))
              go_meet
              case rel => exact ⟨_, ((t287.toList != t286.toList)), (by first | rfl | (simp; done) | (simp [*]; done) | (simp [ne_nil_bool]; done)), H', ⟨by have := HJ2.out; first | omega | exact Nat.le_refl _⟩, ⟨by repeat (first | (with_reducible first | exact HB.out | apply below_alloc | apply pw_below_drewN | apply below_drew1) | exact HB.out)⟩⟩
          case rest =>
            clear HC12
            try clear c1
            try clear c2
            try clear c2b0
            try clear c2b1
            try clear p2
            try clear c4
            try clear c4b0
            try clear c4b1
            try clear c5
            try clear c5b0
            try clear c5b1
            try clear c6
            try clear c6b0
            try clear c6b1
            try clear p7
            try clear q7
            try clear hx7
            try clear qi7
            try clear c8
            try clear c8b0
            try clear c8b1
            try clear p9
            try clear q9
            try clear hx9
            try clear qi9
            try clear c10
            try clear c13
            try clear c13b0
            try clear c13b1
            try clear p2
            try clear p7
            try clear p9
            try clear q7
            try clear q9
            obtain ⟨kq, x36_11, rfl, HA, HJ11, HB⟩ := hcut
            cases kq with
            | zero => exact absurd HA.out (by simp [laws_FnGjSquashTwice.j1])
            | succ kj11 =>
              have H := HA.out
              clear HA
              simp only [laws_FnGjSquashTwice.j1] at H
              by_cases c15 : x36_11 = true
              · subst c15
                have H1 : (some false) = some r := by rw [if_pos rfl] at H; exact H
                clear H
                have H := H1
                clear H1
                obtain rfl := Option.some.inj H
                go_wp2
                go_ret
                exact ⟨by first | rfl | (simp [errW_none, errW_some] <;> rfl) | (simp [*, errW_none, errW_some] <;> rfl), by repeat (first | (with_reducible first | exact HB.out | apply below_alloc | apply pw_below_drewN | apply below_drew1) | exact HB.out)⟩
              · replace c15 := Bool.eq_false_iff.mpr c15
                subst c15
                have H1 : (laws_FnGjSquashTwice.l0 kj11 t286 1) = some r := by rw [if_neg (show ¬ (false = true) by decide)] at H; exact H
                clear H
                have H := H1
                clear H1
                have H' := Aside0.mk H
                clear H
                go_wp2
                try go_frame
                go_loopg [4] kj11 (fun kq v4 w' => ∃ (x4_3 : Int), v4 = .int .i64 x4_3 ∧ Aside0 (laws_FnGjSquashTwice.l0 kq t286 x4_3 = some r) ∧ Aside0 (kq ≤ kj11) ∧ Aside0 (Below w.heap.size w w'))
                case atStart => exact ⟨(1), (by first | rfl | (simp; done) | (simp [*]; done) | (simp [ne_nil_bool]; done)), H', ⟨Nat.le_refl _⟩, ⟨by repeat (first | (with_reducible first | exact HB.out | apply below_alloc | apply pw_below_drewN | apply below_drew1) | exact HB.out)⟩⟩
                case round =>
                  clear H'
                  try clear c1
                  try clear c2
                  try clear c2b0
                  try clear c2b1
                  try clear p2
                  try clear c4
                  try clear c4b0
                  try clear c4b1
                  try clear c5
                  try clear c5b0
                  try clear c5b1
                  try clear c6
                  try clear c6b0
                  try clear c6b1
                  try clear p7
                  try clear q7
                  try clear hx7
                  try clear qi7
                  try clear c8
                  try clear c8b0
                  try clear c8b1
                  try clear p9
                  try clear q9
                  try clear hx9
                  try clear qi9
                  try clear c10
                  try clear c13
                  try clear c13b0
                  try clear c13b1
                  try clear c15
                  try clear p2
                  try clear p7
                  try clear p9
                  try clear q7
                  try clear q9
                  obtain ⟨x4_3, rfl, HA, HK3, HB⟩ := hrel
                  cases gk with
                  | zero => exact absurd HA.out (by simp [laws_FnGjSquashTwice.l0])
                  | succ k3 =>
                    have H := HA.out
                    clear HA
                    simp only [laws_FnGjSquashTwice.l0] at H
                    have HC16 := Aside0.mk H
                    clear H
                    go_upto_region 9 with (fail)
                    go_cut [44] (fun v44 wc => ∃ (kq : Nat) (x44_15 : Bool), v44 = .bool x44_15 ∧ Aside0 (laws_FnGjSquashTwice.j3 kq t286 x4_3 x44_15 = some r) ∧ Aside0 (kq ≤ k3) ∧ Aside0 (Below w.heap.size w wc))
                    case first =>
                      have H := HC16.out
                      clear HC16
                      by_cases c17 : x4_3 < (t286.size : Int)
                      · rw [if_pos c17] at H
                        have c17b0 : decide (x4_3 < (t286.size : Int)) = true := decide_eq_true c17
                        clear c17
                        (first | rw [c17b0] | (simp only [i64_w, i32_w]; rw [c17b0]) | skip)
                        have H' := Aside0.mk H
                        clear H
                        go_wp2
                        go_meet
                        case rel => exact ⟨_, (decide (x4_3 < 64)), (by first | rfl | (simp; done) | (simp [*]; done) | (simp [ne_nil_bool]; done)), H', ⟨by have := HJ2.out; have := HJ11.out; have := HK3.out; first | omega | exact Nat.le_refl _⟩, ⟨by repeat (first | (with_reducible first | exact HB.out | apply below_alloc | apply pw_below_drewN | apply below_drew1) | exact HB.out)⟩⟩
                      · rw [if_neg c17] at H
                        have c17b0 : decide (x4_3 < (t286.size : Int)) = false := decide_eq_false c17
                        clear c17
                        (first | rw [c17b0] | (simp only [i64_w, i32_w]; rw [c17b0]) | skip)
                        have H' := Aside0.mk H
                        clear H
                        go_wp2
                        go_meet
                        case rel => exact ⟨_, (false), (by first | rfl | (simp; done) | (simp [*]; done) | (simp [ne_nil_bool]; done)), H', ⟨by have := HJ2.out; have := HJ11.out; have := HK3.out; first | omega | exact Nat.le_refl _⟩, ⟨by repeat (first | (with_reducible first | exact HB.out | apply below_alloc | apply pw_below_drewN | apply below_drew1) | exact HB.out)⟩⟩
                    case rest =>
                      clear HC16
                      try clear c1
                      try clear c2
                      try clear c2b0
                      try clear c2b1
                      try clear p2
                      try clear c4
                      try clear c4b0
                      try clear c4b1
                      try clear c5
                      try clear c5b0
                      try clear c5b1
                      try clear c6
                      try clear c6b0
                      try clear c6b1
                      try clear p7
                      try clear q7
                      try clear hx7
                      try clear qi7
                      try clear c8
                      try clear c8b0
                      try clear c8b1
                      try clear p9
                      try clear q9
                      try clear hx9
                      try clear qi9
                      try clear c10
                      try clear c13
                      try clear c13b0
                      try clear c13b1
                      try clear c15
                      try clear c17
                      try clear c17b0
                      try clear p2
                      try clear p7
                      try clear p9
                      try clear q7
                      try clear q9
                      obtain ⟨kq, x44_15, rfl, HA, HJ15, HB⟩ := hcut
                      cases kq with
                      | zero => exact absurd HA.out (by simp [laws_FnGjSquashTwice.j3])
                      | succ kj15 =>
                        have H := HA.out
                        clear HA
                        simp only [laws_FnGjSquashTwice.j3] at H
                        by_cases c18 : x44_15 = true
                        · subst c18
                          have H1 : (if 0 ≤ x4_3 then (if x4_3 ≤ (t286.size : Int) then ((spec_Places.f kj15 (t286.extract 0 (x4_3 : Int).toNat)).bind fun bt288 => (if bt288.2.2.2.2.2 = true then (some false) else (laws_FnGjSquashTwice.l0 kj15 t286 (wrap64 (x4_3 + 1))))) else (none)) else (none)) = some r := by rw [if_pos rfl] at H; exact H
                          clear H
                          have H := H1
                          clear H1
                          by_cases c19 : 0 ≤ x4_3
                          · rw [if_pos c19] at H
                            have c19b0 := eq_true c19
                            have c19b1 : decide (0 ≤ x4_3) = true := decide_eq_true c19
                            clear c19
                            by_cases c20 : x4_3 ≤ (t286.size : Int)
                            · rw [if_pos c20] at H
                              have c20b0 := eq_true c20
                              have c20b1 : decide (x4_3 ≤ (t286.size : Int)) = true := decide_eq_true c20
                              clear c20
                              replace H := Option.bind_eq_some_iff.mp H
                              obtain ⟨⟨t288, t289, t290, t291, t294, t297⟩, A210, H⟩ := H
                              replace H : (if t297 = true then (some false) else (laws_FnGjSquashTwice.l0 kj15 t286 (wrap64 (x4_3 + 1)))) = some r := H
                              have A21 := Aside0.mk A210
                              clear A210
                              by_cases c22 : t297 = true
                              · subst c22
                                have H1 : (some false) = some r := by rw [if_pos rfl] at H; exact H
                                clear H
                                have H := H1
                                clear H1
                                obtain rfl := Option.some.inj H
                                go_wp2_with (first | ((with_reducible refine gate_callee (f := 14) rfl ?_); refine goesL_ (some 51) rfl rfl Try.func14 (by kernel_rfl) rfl #[.string (t286.extract 0 (x4_3 : Int).toNat)] rfl (by (try simp only [List.map_toArray, List.map_cons, List.map_nil]); first | done | rfl | (simp only [List.length_drop, List.length_take]; rfl)) ?_; (with_reducible refine (spec_Places.calls kj15 (t286.extract 0 (x4_3 : Int).toNat) t288 t289 t290 t291 t294 true _ A21.out).mono ?_); rintro e w23 ⟨v292, v295, rfl, ho0, ho1, hb⟩; refine ⟨_, rfl, ?_⟩; have n0_ := Aside0.mk (Kd.R_lower ho0 (below_size (by repeat (first | (with_reducible first | exact HB.out | apply below_alloc | apply pw_below_drewN | apply below_drew1) | exact HB.out)))); have n1_ := Aside0.mk (Kd.R_lower ho1 (below_size (by repeat (first | (with_reducible first | exact HB.out | apply below_alloc | apply pw_below_drewN | apply below_drew1) | exact HB.out)))); have n2_ := Aside0.mk (below_step (by repeat (first | (with_reducible first | exact HB.out | apply below_alloc | apply pw_below_drewN | apply below_drew1) | exact HB.out)) hb); clear HB; have HO293 := n0_; have HO296 := n1_; have HB := n2_; clear n0_ n1_ n2_; (try clear hb); (try clear hb2); (try clear hk); (try clear hi); (try clear ho0); (try clear ho1)) | ((with_reducible refine gate_dst (N := 5) rfl ?_); (try (refine gate_guard (by rfl) ?_; dsimp only)); refine box_event ?hg (N := 5) ?hd (cs := #[.int .i64 0, .int .i64 0, .int .i64 0, .slice none 0 0, .slice none 0 0]) (t := 36) ?hr ?_; (case hd => rfl); (case hg => rfl); (case hr => first | (go_simp; done) | (go_simp; rfl)); intro gb298 hg w24 hbox hb; have n0_ := Aside0.mk (Kd.R_below (by (with_reducible repeat (first | apply Kd.R_alloc | apply Kd.R_drewN | apply Kd.R_drew)); exact HO293.out) hb); have n1_ := Aside0.mk (Kd.R_below (Kd.R_elderB (by (with_reducible repeat (first | apply Kd.R_alloc | apply Kd.R_drewN | apply Kd.R_drew)); exact HO296.out) gb298 (Nat.le_of_eq hg.symm)) hb); have n2_ := Aside0.mk (below_step (by repeat (first | (with_reducible first | exact HB.out | apply below_alloc | apply pw_below_drewN | apply below_drew1) | exact HB.out)) hb); have n3_ := Aside0.mk (hbox); have n4_ := Aside0.mk ((by rw [hg]; exact (below_size (by repeat (first | (with_reducible first | exact HB.out | apply below_alloc | apply pw_below_drewN | apply below_drew1) | exact HB.out))) : w.heap.size ≤ gb298)); have n5_ := Aside0.mk ((by rw [hg]; exact (below_size (by repeat (first | (with_reducible first | exact HB.out | apply below_alloc | apply pw_below_drewN | apply below_drew1) | exact HB.out))) : w.heap.size ≤ gb298)); clear HO293; clear HO296; clear HB; have HO293 := n0_; have HO296 := n1_; have HB := n2_; have BK298 := n3_; have GW298 := n4_; have GE298 := n5_; clear n0_ n1_ n2_ n3_ n4_ n5_; clear hb hbox hg; have hcz25_0 : w24.cell? ⟨gb298, 0, none⟩ = some (.int .i64 0) := (blk_cell BK298.out 0).trans rfl; have hcz25_1 : w24.cell? ⟨gb298, 1, none⟩ = some (.int .i64 0) := (blk_cell BK298.out 1).trans rfl; have hcz25_2 : w24.cell? ⟨gb298, 2, none⟩ = some (.int .i64 0) := (blk_cell BK298.out 2).trans rfl; have hcz25_3 : w24.cell? ⟨gb298, 3, none⟩ = some (.slice none 0 0) := (blk_cell BK298.out 3).trans rfl; have hcz25_4 : w24.cell? ⟨gb298, 4, none⟩ = some (.slice none 0 0) := (blk_cell BK298.out 4).trans rfl; have hfz25_0 := blk_frozen BK298.out 0; have hfz25_1 := blk_frozen BK298.out 1; have hfz25_2 := blk_frozen BK298.out 2; have hfz25_3 := blk_frozen BK298.out 3; have hfz25_4 := blk_frozen BK298.out 4; obtain ⟨Ao26, co26, eo26⟩ := Kd.R_slice HO293.out; subst eo26; obtain ⟨Ao27, co27, eo27⟩ := Kd.R_slice HO296.out; subst eo27))
                                go_ret
                                exact ⟨by first | rfl | (simp [errW_none, errW_some] <;> rfl) | (simp [*, errW_none, errW_some] <;> rfl), by repeat (first | (with_reducible first | exact HB.out | apply below_alloc | apply pw_below_drewN | apply below_drew1 | refine below_set ?_ GE298.out) | exact HB.out)⟩
                              · replace c22 := Bool.eq_false_iff.mpr c22
                                subst c22
                                have H1 : (laws_FnGjSquashTwice.l0 kj15 t286 (wrap64 (x4_3 + 1))) = some r := by rw [if_neg (show ¬ (false = true) by decide)] at H; exact H
                                clear H
                                have H := H1
                                clear H1
                                have H' := Aside0.mk H
                                clear H
                                go_wp2_with (first | ((with_reducible refine gate_callee (f := 14) rfl ?_); refine goesL_ (some 51) rfl rfl Try.func14 (by kernel_rfl) rfl #[.string (t286.extract 0 (x4_3 : Int).toNat)] rfl (by (try simp only [List.map_toArray, List.map_cons, List.map_nil]); first | done | rfl | (simp only [List.length_drop, List.length_take]; rfl)) ?_; (with_reducible refine (spec_Places.calls kj15 (t286.extract 0 (x4_3 : Int).toNat) t288 t289 t290 t291 t294 false _ A21.out).mono ?_); rintro e w28 ⟨v292, v295, rfl, ho0, ho1, hb⟩; refine ⟨_, rfl, ?_⟩; have n0_ := Aside0.mk (Kd.R_lower ho0 (below_size (by repeat (first | (with_reducible first | exact HB.out | apply below_alloc | apply pw_below_drewN | apply below_drew1) | exact HB.out)))); have n1_ := Aside0.mk (Kd.R_lower ho1 (below_size (by repeat (first | (with_reducible first | exact HB.out | apply below_alloc | apply pw_below_drewN | apply below_drew1) | exact HB.out)))); have n2_ := Aside0.mk (below_step (by repeat (first | (with_reducible first | exact HB.out | apply below_alloc | apply pw_below_drewN | apply below_drew1) | exact HB.out)) hb); clear HB; have HO293 := n0_; have HO296 := n1_; have HB := n2_; clear n0_ n1_ n2_; (try clear hb); (try clear hb2); (try clear hk); (try clear hi); (try clear ho0); (try clear ho1)) | ((with_reducible refine gate_dst (N := 5) rfl ?_); (try (refine gate_guard (by rfl) ?_; dsimp only)); refine box_event ?hg (N := 5) ?hd (cs := #[.int .i64 0, .int .i64 0, .int .i64 0, .slice none 0 0, .slice none 0 0]) (t := 36) ?hr ?_; (case hd => rfl); (case hg => rfl); (case hr => first | (go_simp; done) | (go_simp; rfl)); intro gb298 hg w29 hbox hb; have n0_ := Aside0.mk (Kd.R_below (by (with_reducible repeat (first | apply Kd.R_alloc | apply Kd.R_drewN | apply Kd.R_drew)); exact HO293.out) hb); have n1_ := Aside0.mk (Kd.R_below (Kd.R_elderB (by (with_reducible repeat (first | apply Kd.R_alloc | apply Kd.R_drewN | apply Kd.R_drew)); exact HO296.out) gb298 (Nat.le_of_eq hg.symm)) hb); have n2_ := Aside0.mk (below_step (by repeat (first | (with_reducible first | exact HB.out | apply below_alloc | apply pw_below_drewN | apply below_drew1) | exact HB.out)) hb); have n3_ := Aside0.mk (hbox); have n4_ := Aside0.mk ((by rw [hg]; exact (below_size (by repeat (first | (with_reducible first | exact HB.out | apply below_alloc | apply pw_below_drewN | apply below_drew1) | exact HB.out))) : w.heap.size ≤ gb298)); have n5_ := Aside0.mk ((by rw [hg]; exact (below_size (by repeat (first | (with_reducible first | exact HB.out | apply below_alloc | apply pw_below_drewN | apply below_drew1) | exact HB.out))) : w.heap.size ≤ gb298)); clear HO293; clear HO296; clear HB; have HO293 := n0_; have HO296 := n1_; have HB := n2_; have BK298 := n3_; have GW298 := n4_; have GE298 := n5_; clear n0_ n1_ n2_ n3_ n4_ n5_; clear hb hbox hg; have hcz30_0 : w29.cell? ⟨gb298, 0, none⟩ = some (.int .i64 0) := (blk_cell BK298.out 0).trans rfl; have hcz30_1 : w29.cell? ⟨gb298, 1, none⟩ = some (.int .i64 0) := (blk_cell BK298.out 1).trans rfl; have hcz30_2 : w29.cell? ⟨gb298, 2, none⟩ = some (.int .i64 0) := (blk_cell BK298.out 2).trans rfl; have hcz30_3 : w29.cell? ⟨gb298, 3, none⟩ = some (.slice none 0 0) := (blk_cell BK298.out 3).trans rfl; have hcz30_4 : w29.cell? ⟨gb298, 4, none⟩ = some (.slice none 0 0) := (blk_cell BK298.out 4).trans rfl; have hfz30_0 := blk_frozen BK298.out 0; have hfz30_1 := blk_frozen BK298.out 1; have hfz30_2 := blk_frozen BK298.out 2; have hfz30_3 := blk_frozen BK298.out 3; have hfz30_4 := blk_frozen BK298.out 4; obtain ⟨Ao31, co31, eo31⟩ := Kd.R_slice HO293.out; subst eo31; obtain ⟨Ao32, co32, eo32⟩ := Kd.R_slice HO296.out; subst eo32))
                                try go_frame
                                go_roundg kj15
                                case measure => have := HJ2.out; have := HJ11.out; have := HK3.out; have := HJ15.out; omega
                                case rel => exact ⟨(wrap64 (x4_3 + 1)), (by first | rfl | (simp; done) | (simp [*]; done) | (simp [ne_nil_bool]; done)), H', ⟨by have := HJ2.out; have := HJ11.out; have := HK3.out; have := HJ15.out; omega⟩, ⟨by repeat (first | (with_reducible first | exact HB.out | apply below_alloc | apply pw_below_drewN | apply below_drew1 | refine below_set ?_ GE298.out) | exact HB.out)⟩⟩
                            · rw [if_neg c20] at H
                              exact absurd H (by simp)
                          · rw [if_neg c19] at H
                            exact absurd H (by simp)
                        · replace c18 := Bool.eq_false_iff.mpr c18
                          subst c18
                          have H1 : (some true) = some r := by rw [if_neg (show ¬ (false = true) by decide)] at H; exact H
                          clear H
                          have H := H1
                          clear H1
                          obtain rfl := Option.some.inj H
                          go_wp2
                          go_ret
                          exact ⟨by first | rfl | (simp [errW_none, errW_some] <;> rfl) | (simp [*, errW_none, errW_some] <;> rfl), by repeat (first | (with_reducible first | exact HB.out | apply below_alloc | apply pw_below_drewN | apply below_drew1) | exact HB.out)⟩

/-- THE ONE PURE STATEMENT of laws_FnGjSquashTwice: yours. -/
def laws_FnGjSquashTwice.Pure : Prop := ∀ (a0 : ByteArray), a0.size ≤ 140737488351232 → ∃ k, laws_FnGjSquashTwice.f k a0 = some true
theorem laws_FnGjSquashTwice.walk (P : laws_FnGjSquashTwice.Pure) (a0 : ByteArray) (w : World) (w0 : a0.size ≤ 140737488351232) :
    Calls Try.prog 6 #[.string a0] w fun e w' => e = .returned (.bool true) ∧ Below w.heap.size w w' := by
  obtain ⟨k, h⟩ := P a0 w0
  refine (laws_FnGjSquashTwice.calls k a0 true w h).mono ?_
  rintro e w' ⟨rfl, hd⟩
  exact ⟨rfl, hd⟩

end Go.Proofs.Ytklllibhgalnfaa.PFnGjSquashTwice
