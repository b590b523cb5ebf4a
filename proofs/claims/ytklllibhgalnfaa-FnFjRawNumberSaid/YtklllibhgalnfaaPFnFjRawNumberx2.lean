-- printed by a program of this session
import Derived.Test.YtklllibhgalnfaaPFnFjRawNumberx0
import Derived.Test.YtklllibhgalnfaaPFnFjRawNumberx1
namespace Go.Proofs.Ytklllibhgalnfaa.PFnFjRawNumber
open Go.RowKit Go.Proofs.Ytklllibhgalnfaa.G Go.Proofs.YtklllibhgalnfaaW.PrintWords Go.Proofs.YtklllibhgalnfaaW.PrintLast Go.Proofs.YtklllibhgalnfaaW.PrintMore
attribute [local go_sem] max2_int min2_int max_two min_two max_three min_three max_four min_four   -- for this text's walks alone
set_option linter.unusedVariables false
set_option linter.unusedSimpArgs false

/-! ### laws_FnFjRawNumber: function 5 -/
mutual
def laws_FnFjRawNumber.j0 : Nat → ByteArray → Bool → Option (Bool)
  | 0, _, _ => none
  | k + 1, x0, x19 => if x19 = true then (some true) else ((spec_NumberBytes.f k x0).bind fun t101 => (if t101 = 1 then (if 0 < (x0.size : Int) then (if (bt x0 0) = 45 then (laws_FnFjRawNumber.j1 k x0 t101 true) else (if (bt x0 0) = 43 then (laws_FnFjRawNumber.j1 k x0 t101 true) else (if t101 = 0 then (if (bt x0 0) = 110 then (laws_FnFjRawNumber.j1 k x0 t101 true) else (if (bt x0 0) = 78 then (laws_FnFjRawNumber.j1 k x0 t101 true) else (if (bt x0 0) = 105 then (laws_FnFjRawNumber.j1 k x0 t101 true) else (laws_FnFjRawNumber.j1 k x0 t101 ((bt x0 0) == 73))))) else (laws_FnFjRawNumber.j1 k x0 t101 false)))) else (none)) else (if t101 = 0 then (if 0 < (x0.size : Int) then (if (bt x0 0) = 110 then (laws_FnFjRawNumber.j1 k x0 t101 true) else (if (bt x0 0) = 78 then (laws_FnFjRawNumber.j1 k x0 t101 true) else (if (bt x0 0) = 105 then (laws_FnFjRawNumber.j1 k x0 t101 true) else (laws_FnFjRawNumber.j1 k x0 t101 ((bt x0 0) == 73))))) else (none)) else (laws_FnFjRawNumber.j1 k x0 t101 false))))
def laws_FnFjRawNumber.j1 : Nat → ByteArray → Int → Bool → Option (Bool)
  | 0, _, _, _ => none
  | k + 1, x0, x3, x57 => if x57 = true then (some true) else ((impl_FjRawNumber.f x0).bind fun bt102 => ((impl_FjRawNumber.f (⟨#[49]⟩ : ByteArray)).bind fun bt105 => (if bt105.2.2 = true then (if (bt102.2.2 == (decide (x3 > 0))) = true then (if bt102.2.2 = true then (if 0 ≤ x3 then (if x3 ≤ (x0.size : Int) then (if bt102.1.toList = (x0.extract 0 (x3 : Int).toNat).toList then (some (bt102.2.1.toList == (x0.extract (x3 : Int).toNat x0.size).toList)) else (some false)) else (none)) else (none)) else (some true)) else (some false)) else (some false))))
end
def laws_FnFjRawNumber.f (k : Nat) (a0 : ByteArray) : Option (Bool) := if (a0.size : Int) > 2147483647 then (some true) else (if a0.toList = ([] : List UInt8) then (laws_FnFjRawNumber.j0 k a0 true) else (laws_FnFjRawNumber.j0 k a0 (decide ((a0.size : Int) > 4000))))
theorem laws_FnFjRawNumber.mono_l : ∀ k, (∀ y0 y1, LeO (laws_FnFjRawNumber.j0 k y0 y1) (laws_FnFjRawNumber.j0 (k + 1) y0 y1)) ∧ (∀ y0 y1 y2, LeO (laws_FnFjRawNumber.j1 k y0 y1 y2) (laws_FnFjRawNumber.j1 (k + 1) y0 y1 y2))
  | 0 => ⟨fun _ _ r h => by simp [laws_FnFjRawNumber.j0] at h, fun _ _ _ r h => by simp [laws_FnFjRawNumber.j1] at h⟩
  | k + 1 => by
    obtain ⟨ih0, ih1⟩ := laws_FnFjRawNumber.mono_l k
    refine ⟨?_, ?_⟩
    · intro y0 y1
      unfold laws_FnFjRawNumber.j0
      repeat' first
      | (with_reducible exact ih0 _ _)
      | (with_reducible exact ih1 _ _ _)
      | (with_reducible exact spec_NumberBytes.mono _ _)
      | (with_reducible exact LeO.refl _)
      | (with_reducible exact LeO.none _)
      | (with_reducible refine LeO.ite ?_ ?_)
      | (with_reducible refine LeO.bind ?_ (fun _ => ?_))
      | exact ih0 _ _
      | exact ih1 _ _ _
      | exact spec_NumberBytes.mono _ _
      | exact LeO.none _
      | refine LeO.ite ?_ ?_
      | refine LeO.bind ?_ (fun _ => ?_)
    · intro y0 y1 y2
      unfold laws_FnFjRawNumber.j1
      repeat' first
      | (with_reducible exact ih0 _ _)
      | (with_reducible exact ih1 _ _ _)
      | (with_reducible exact spec_NumberBytes.mono _ _)
      | (with_reducible exact LeO.refl _)
      | (with_reducible exact LeO.none _)
      | (with_reducible refine LeO.ite ?_ ?_)
      | (with_reducible refine LeO.bind ?_ (fun _ => ?_))
      | exact ih0 _ _
      | exact ih1 _ _ _
      | exact spec_NumberBytes.mono _ _
      | exact LeO.none _
      | refine LeO.ite ?_ ?_
      | refine LeO.bind ?_ (fun _ => ?_)
theorem laws_FnFjRawNumber.mono : ∀ a0 k, LeO (laws_FnFjRawNumber.f k a0) (laws_FnFjRawNumber.f (k + 1) a0) := by
  intro a0 k
  obtain ⟨ih0, ih1⟩ := laws_FnFjRawNumber.mono_l k
  unfold laws_FnFjRawNumber.f
  repeat' first
      | (with_reducible exact ih0 _ _)
      | (with_reducible exact ih1 _ _ _)
      | (with_reducible exact spec_NumberBytes.mono _ _)
      | (with_reducible exact LeO.refl _)
      | (with_reducible exact LeO.none _)
      | (with_reducible refine LeO.ite ?_ ?_)
      | (with_reducible refine LeO.bind ?_ (fun _ => ?_))
      | exact ih0 _ _
      | exact ih1 _ _ _
      | exact spec_NumberBytes.mono _ _
      | exact LeO.none _
      | refine LeO.ite ?_ ?_
      | refine LeO.bind ?_ (fun _ => ?_)
set_option maxHeartbeats 8000000 in
set_option maxRecDepth 100000 in
theorem laws_FnFjRawNumber.calls (k : Nat) (a0 : ByteArray) (r : Bool) (w : World) (h : laws_FnFjRawNumber.f k a0 = some r) :
    Calls Try.prog 5 #[.string a0] w fun e w' => e = .returned (.bool r) ∧ Below w.heap.size w w' := by
  have HB := Aside0.mk (Below.refl w.heap.size w)
  have H : (if (a0.size : Int) > 2147483647 then (some true) else (if a0.toList = ([] : List UInt8) then (laws_FnFjRawNumber.j0 k a0 true) else (laws_FnFjRawNumber.j0 k a0 (decide ((a0.size : Int) > 4000))))) = some r := h
  clear h
  by_cases c2 : (a0.size : Int) > 2147483647
  · rw [if_pos c2] at H
    have c2b0 : decide (2147483647 < (a0.size : Int)) = true := decide_eq_true c2
    have c2b1 : decide (2147483647 < a0.size) = true := decide_eq_true (by omega)
    clear c2
    obtain rfl := Option.some.inj H
    go_enter Try.func5, Try.ntmps5
    go_wp2
    go_ret
    exact ⟨by first | rfl | (simp [errW_none, errW_some] <;> rfl) | (simp [*, errW_none, errW_some] <;> rfl), by repeat (first | (with_reducible first | exact HB.out | apply below_alloc | apply pw_below_drewN | apply below_drew1) | exact HB.out)⟩
  · rw [if_neg c2] at H
    have c2b0 : decide (2147483647 < (a0.size : Int)) = false := decide_eq_false c2
    have c2b1 : decide (2147483647 < a0.size) = false := decide_eq_false (by omega)
    clear c2
    have HC3 := Aside0.mk H
    clear H
    go_enter Try.func5, Try.ntmps5
    go_upto_region 3 with (fail)
    go_cut [19] (fun v19 wc => ∃ (kq : Nat) (x19_2 : Bool), v19 = .bool x19_2 ∧ Aside0 (laws_FnFjRawNumber.j0 kq a0 x19_2 = some r) ∧ Aside0 (kq ≤ k) ∧ Aside0 (Below w.heap.size w wc))
    case first =>
      have H := HC3.out
      clear HC3
      by_cases c4 : a0.toList = ([] : List UInt8)
      · rw [if_pos c4] at H
        have c4b0 : (a0.toList == ([] : List UInt8)) = true := beq_iff_eq.mpr c4
        have c4b1 : (a0.toList != ([] : List UInt8)) = false := bne_eq_false_iff_eq.mpr c4
        clear c4
        (first | rw [c4b0] | (simp only [i64_w, i32_w]; rw [c4b0]) | skip)
        have H' := Aside0.mk H
        clear H
        go_wp2
        go_meet
        case rel => exact ⟨_, (true), (by first | rfl | (simp; done) | (simp [*]; done) | (simp [ne_nil_bool]; done)), H', ⟨by first | omega | exact Nat.le_refl _⟩, ⟨by repeat (first | (with_reducible first | exact HB.out | apply below_alloc | apply pw_below_drewN | apply below_drew1) | exact HB.out)⟩⟩
      · rw [if_neg c4] at H
        have c4b0 : (a0.toList == ([] : List UInt8)) = false := beq_eq_false_iff_ne.mpr c4
        have c4b1 : (a0.toList != ([] : List UInt8)) = true := bne_iff_ne.mpr c4
        (first | rw [c4b0] | (simp only [i64_w, i32_w]; rw [c4b0]) | skip)
        have H' := Aside0.mk H
        clear H
        go_wp2
        go_meet
        case rel => exact ⟨_, (decide ((a0.size : Int) > 4000)), (by first | rfl | (simp; done) | (simp [*]; done) | (simp [ne_nil_bool]; done)), H', ⟨by first | omega | exact Nat.le_refl _⟩, ⟨by repeat (first | (with_reducible first | exact HB.out | apply below_alloc | apply pw_below_drewN | apply below_drew1) | exact HB.out)⟩⟩
    case rest =>
      clear HC3
      try clear c2
      try clear c2b0
      try clear c2b1
      try clear p2
      try clear c4
      try clear c4b0
      try clear c4b1
      obtain ⟨kq, x19_2, rfl, HA, HJ2, HB⟩ := hcut
      cases kq with
      | zero => exact absurd HA.out (by simp [laws_FnFjRawNumber.j0])
      | succ kj2 =>
        have H := HA.out
        clear HA
        simp only [laws_FnFjRawNumber.j0] at H
        by_cases c5 : x19_2 = true
        · subst c5
          have H1 : (some true) = some r := by rw [if_pos rfl] at H; exact H
          clear H
          have H := H1
          clear H1
          obtain rfl := Option.some.inj H
          go_wp2
          go_ret
          exact ⟨by first | rfl | (simp [errW_none, errW_some] <;> rfl) | (simp [*, errW_none, errW_some] <;> rfl), by repeat (first | (with_reducible first | exact HB.out | apply below_alloc | apply pw_below_drewN | apply below_drew1) | exact HB.out)⟩
        · replace c5 := Bool.eq_false_iff.mpr c5
          subst c5
          have H1 : ((spec_NumberBytes.f kj2 a0).bind fun t101 => (if t101 = 1 then (if 0 < (a0.size : Int) then (if (bt a0 0) = 45 then (laws_FnFjRawNumber.j1 kj2 a0 t101 true) else (if (bt a0 0) = 43 then (laws_FnFjRawNumber.j1 kj2 a0 t101 true) else (if t101 = 0 then (if (bt a0 0) = 110 then (laws_FnFjRawNumber.j1 kj2 a0 t101 true) else (if (bt a0 0) = 78 then (laws_FnFjRawNumber.j1 kj2 a0 t101 true) else (if (bt a0 0) = 105 then (laws_FnFjRawNumber.j1 kj2 a0 t101 true) else (laws_FnFjRawNumber.j1 kj2 a0 t101 ((bt a0 0) == 73))))) else (laws_FnFjRawNumber.j1 kj2 a0 t101 false)))) else (none)) else (if t101 = 0 then (if 0 < (a0.size : Int) then (if (bt a0 0) = 110 then (laws_FnFjRawNumber.j1 kj2 a0 t101 true) else (if (bt a0 0) = 78 then (laws_FnFjRawNumber.j1 kj2 a0 t101 true) else (if (bt a0 0) = 105 then (laws_FnFjRawNumber.j1 kj2 a0 t101 true) else (laws_FnFjRawNumber.j1 kj2 a0 t101 ((bt a0 0) == 73))))) else (none)) else (laws_FnFjRawNumber.j1 kj2 a0 t101 false)))) = some r := by rw [if_neg (show ¬ (false = true) by decide)] at H; exact H
          clear H
          have H := H1
          clear H1
          replace H := Option.bind_eq_some_iff.mp H
          obtain ⟨t101, A60, H⟩ := H
          replace H : (if t101 = 1 then (if 0 < (a0.size : Int) then (if (bt a0 0) = 45 then (laws_FnFjRawNumber.j1 kj2 a0 t101 true) else (if (bt a0 0) = 43 then (laws_FnFjRawNumber.j1 kj2 a0 t101 true) else (if t101 = 0 then (if (bt a0 0) = 110 then (laws_FnFjRawNumber.j1 kj2 a0 t101 true) else (if (bt a0 0) = 78 then (laws_FnFjRawNumber.j1 kj2 a0 t101 true) else (if (bt a0 0) = 105 then (laws_FnFjRawNumber.j1 kj2 a0 t101 true) else (laws_FnFjRawNumber.j1 kj2 a0 t101 ((bt a0 0) == 73))))) else (laws_FnFjRawNumber.j1 kj2 a0 t101 false)))) else (none)) else (if t101 = 0 then (if 0 < (a0.size : Int) then (if (bt a0 0) = 110 then (laws_FnFjRawNumber.j1 kj2 a0 t101 true) else (if (bt a0 0) = 78 then (laws_FnFjRawNumber.j1 kj2 a0 t101 true) else (if (bt a0 0) = 105 then (laws_FnFjRawNumber.j1 kj2 a0 t101 true) else (laws_FnFjRawNumber.j1 kj2 a0 t101 ((bt a0 0) == 73))))) else (none)) else (laws_FnFjRawNumber.j1 kj2 a0 t101 false))) = some r := H
          have A6 := Aside0.mk A60
          clear A60
          have HC7 := Aside0.mk H
          clear H
          go_upto_region 6 with (first | ((with_reducible refine gate_callee (f := 11) rfl ?_); refine goesL_ (some 21) rfl rfl Try.func11 (by kernel_rfl) rfl #[.string a0] rfl (by (try simp only [List.map_toArray, List.map_cons, List.map_nil]); first | done | rfl | (simp only [List.length_drop, List.length_take]; rfl)) ?_; (with_reducible refine (spec_NumberBytes.calls kj2 a0 t101 _ A6.out).mono ?_); rintro e w' ⟨rfl, ⟨nd, rfl⟩⟩; refine ⟨_, rfl, ?_⟩))
          (try simp only [Act.put, List.setIfInBounds_toArray, List.set_cons_zero, List.set_cons_succ])
          go_cut [57] (fun v57 wc => ∃ (kq : Nat) (x57_6 : Bool), v57 = .bool x57_6 ∧ Aside0 (laws_FnFjRawNumber.j1 kq a0 t101 x57_6 = some r) ∧ Aside0 (kq ≤ kj2) ∧ Aside0 (Below w.heap.size w wc))
          case first =>
            have H := HC7.out
            clear HC7
            by_cases c8 : t101 = 1
            · rw [if_pos c8] at H
              have c8b0 : (t101 == 1) = true := beq_iff_eq.mpr c8
              have c8b1 : (t101 != 1) = false := bne_eq_false_iff_eq.mpr c8
              clear c8
              (first | rw [c8b0] | (simp only [i64_w, i32_w]; rw [c8b0]) | skip)
              by_cases c9 : 0 < (a0.size : Int)
              · rw [if_pos c9] at H
                have c9b0 : decide (0 < (a0.size : Int)) = true := decide_eq_true c9
                have c9b1 : decide (0 < a0.size) = true := decide_eq_true (by omega)
                clear c9
                by_cases c11 : (bt a0 0) = 45
                · rw [if_pos c11] at H
                  have c11b0 : ((bt a0 0) == 45) = true := beq_iff_eq.mpr c11
                  have c11b1 : ((bt a0 0) != 45) = false := bne_eq_false_iff_eq.mpr c11
                  clear c11
                  have H' := Aside0.mk H
                  clear H
                  have p10 : 0 ≤ (0 : Int) := (by omega)
                  have q10 : 0 < a0.size := (by have : (0 : Int) < (a0.size : Int) := of_decide_eq_true (by first | (with_reducible assumption) | assumption); omega)
                  have hx10 : ∀ h : 0 < a0.size, ((a0[0]'h).toNat : Int) = bt a0 0 := bt_at a0 0
                  clear p10
                  have qi10 : (0 < (a0.size : Int)) = True := eq_true (of_decide_eq_true (by first | (with_reducible assumption) | assumption))
                  replace q10 := eq_true q10
                  go_wp2
                  go_meet
                  case rel => exact ⟨_, (true), (by first | rfl | (simp; done) | (simp [*]; done) | (simp [ne_nil_bool]; done)), H', ⟨by have := HJ2.out; first | omega | exact Nat.le_refl _⟩, ⟨by repeat (first | (with_reducible first | exact HB.out | apply below_alloc | apply pw_below_drewN | apply below_drew1) | exact HB.out)⟩⟩
                · rw [if_neg c11] at H
                  have c11b0 : ((bt a0 0) == 45) = false := beq_eq_false_iff_ne.mpr c11
                  have c11b1 : ((bt a0 0) != 45) = true := bne_iff_ne.mpr c11
                  by_cases c13 : (bt a0 0) = 43
                  · rw [if_pos c13] at H
                    have c13b0 : ((bt a0 0) == 43) = true := beq_iff_eq.mpr c13
                    have c13b1 : ((bt a0 0) != 43) = false := bne_eq_false_iff_eq.mpr c13
                    clear c13
                    have H' := Aside0.mk H
                    clear H
                    have p10 : 0 ≤ (0 : Int) := (by omega)
                    have q10 : 0 < a0.size := (by have : (0 : Int) < (a0.size : Int) := of_decide_eq_true (by first | (with_reducible assumption) | assumption); omega)
                    have hx10 : ∀ h : 0 < a0.size, ((a0[0]'h).toNat : Int) = bt a0 0 := bt_at a0 0
                    clear p10
                    have qi10 : (0 < (a0.size : Int)) = True := eq_true (of_decide_eq_true (by first | (with_reducible assumption) | assumption))
                    replace q10 := eq_true q10
                    have p12 : 0 ≤ (0 : Int) := (by omega)
                    have q12 : 0 < a0.size := (by have : (0 : Int) < (a0.size : Int) := of_decide_eq_true (by first | (with_reducible assumption) | assumption); omega)
                    have hx12 : ∀ h : 0 < a0.size, ((a0[0]'h).toNat : Int) = bt a0 0 := bt_at a0 0
                    clear p12
                    have qi12 : (0 < (a0.size : Int)) = True := eq_true (of_decide_eq_true (by first | (with_reducible assumption) | assumption))
                    replace q12 := eq_true q12
                    go_wp2
                    go_meet
                    case rel => exact ⟨_, (true), (by first | rfl | (simp; done) | (simp [*]; done) | (simp [ne_nil_bool]; done)), H', ⟨by have := HJ2.out; first | omega | exact Nat.le_refl _⟩, ⟨by repeat (first | (with_reducible first | exact HB.out | apply below_alloc | apply pw_below_drewN | apply below_drew1) | exact HB.out)⟩⟩
                  · rw [if_neg c13] at H
                    have c13b0 : ((bt a0 0) == 43) = false := beq_eq_false_iff_ne.mpr c13
                    have c13b1 : ((bt a0 0) != 43) = true := bne_iff_ne.mpr c13
                    by_cases c14 : t101 = 0
                    · rw [if_pos c14] at H
                      have c14b0 : (t101 == 0) = true := beq_iff_eq.mpr c14
                      have c14b1 : (t101 != 0) = false := bne_eq_false_iff_eq.mpr c14
                      clear c14
                      by_cases c16 : (bt a0 0) = 110
                      · rw [if_pos c16] at H
                        have c16b0 : ((bt a0 0) == 110) = true := beq_iff_eq.mpr c16
                        have c16b1 : ((bt a0 0) != 110) = false := bne_eq_false_iff_eq.mpr c16
                        clear c16
                        have H' := Aside0.mk H
                        clear H
                        have p10 : 0 ≤ (0 : Int) := (by omega)
                        have q10 : 0 < a0.size := (by have : (0 : Int) < (a0.size : Int) := of_decide_eq_true (by first | (with_reducible assumption) | assumption); omega)
                        have hx10 : ∀ h : 0 < a0.size, ((a0[0]'h).toNat : Int) = bt a0 0 := bt_at a0 0
                        clear p10
                        have qi10 : (0 < (a0.size : Int)) = True := eq_true (of_decide_eq_true (by first | (with_reducible assumption) | assumption))
                        replace q10 := eq_true q10
                        have p12 : 0 ≤ (0 : Int) := (by omega)
                        have q12 : 0 < a0.size := (by have : (0 : Int) < (a0.size : Int) := of_decide_eq_true (by first | (with_reducible assumption) | assumption); omega)
                        have hx12 : ∀ h : 0 < a0.size, ((a0[0]'h).toNat : Int) = bt a0 0 := bt_at a0 0
                        clear p12
                        have qi12 : (0 < (a0.size : Int)) = True := eq_true (of_decide_eq_true (by first | (with_reducible assumption) | assumption))
                        replace q12 := eq_true q12
                        have p15 : 0 ≤ (0 : Int) := (by omega)
                        have q15 : 0 < a0.size := (by have : (0 : Int) < (a0.size : Int) := of_decide_eq_true (by first | (with_reducible assumption) | assumption); omega)
                        have hx15 : ∀ h : 0 < a0.size, ((a0[0]'h).toNat : Int) = bt a0 0 := bt_at a0 0
                        clear p15
                        have qi15 : (0 < (a0.size : Int)) = True := eq_true (of_decide_eq_true (by first | (with_reducible assumption) | assumption))
                        replace q15 := eq_true q15
                        go_wp2
                        go_meet
                        case rel => exact ⟨_, (true), (by first | rfl | (simp; done) | (simp [*]; done) | (simp [ne_nil_bool]; done)), H', ⟨by have := HJ2.out; first | omega | exact Nat.le_refl _⟩, ⟨by repeat (first | (with_reducible first | exact HB.out | apply below_alloc | apply pw_below_drewN | apply below_drew1) | exact HB.out)⟩⟩
                      · rw [if_neg c16] at H
                        have c16b0 : ((bt a0 0) == 110) = false := beq_eq_false_iff_ne.mpr c16
                        have c16b1 : ((bt a0 0) != 110) = true := bne_iff_ne.mpr c16
                        by_cases c18 : (bt a0 0) = 78
                        · rw [if_pos c18] at H
                          have c18b0 : ((bt a0 0) == 78) = true := beq_iff_eq.mpr c18
                          have c18b1 : ((bt a0 0) != 78) = false := bne_eq_false_iff_eq.mpr c18
                          clear c18
                          have H' := Aside0.mk H
                          clear H
                          have p10 : 0 ≤ (0 : Int) := (by omega)
                          have q10 : 0 < a0.size := (by have : (0 : Int) < (a0.size : Int) := of_decide_eq_true (by first | (with_reducible assumption) | assumption); omega)
                          have hx10 : ∀ h : 0 < a0.size, ((a0[0]'h).toNat : Int) = bt a0 0 := bt_at a0 0
                          clear p10
                          have qi10 : (0 < (a0.size : Int)) = True := eq_true (of_decide_eq_true (by first | (with_reducible assumption) | assumption))
                          replace q10 := eq_true q10
                          have p12 : 0 ≤ (0 : Int) := (by omega)
                          have q12 : 0 < a0.size := (by have : (0 : Int) < (a0.size : Int) := of_decide_eq_true (by first | (with_reducible assumption) | assumption); omega)
                          have hx12 : ∀ h : 0 < a0.size, ((a0[0]'h).toNat : Int) = bt a0 0 := bt_at a0 0
                          clear p12
                          have qi12 : (0 < (a0.size : Int)) = True := eq_true (of_decide_eq_true (by first | (with_reducible assumption) | assumption))
                          replace q12 := eq_true q12
                          have p15 : 0 ≤ (0 : Int) := (by omega)
                          have q15 : 0 < a0.size := (by have : (0 : Int) < (a0.size : Int) := of_decide_eq_true (by first | (with_reducible assumption) | assumption); omega)
                          have hx15 : ∀ h : 0 < a0.size, ((a0[0]'h).toNat : Int) = bt a0 0 := bt_at a0 0
                          clear p15
                          have qi15 : (0 < (a0.size : Int)) = True := eq_true (of_decide_eq_true (by first | (with_reducible assumption) | assumption))
                          replace q15 := eq_true q15
                          have p17 : 0 ≤ (0 : Int) := (by omega)
                          have q17 : 0 < a0.size := (by have : (0 : Int) < (a0.size : Int) := of_decide_eq_true (by first | (with_reducible assumption) | assumption); omega)
                          have hx17 : ∀ h : 0 < a0.size, ((a0[0]'h).toNat : Int) = bt a0 0 := bt_at a0 0
                          clear p17
                          have qi17 : (0 < (a0.size : Int)) = True := eq_true (of_decide_eq_true (by first | (with_reducible assumption) | assumption))
                          replace q17 := eq_true q17
                          go_wp2
                          go_meet
                          case rel => exact ⟨_, (true), (by first | rfl | (simp; done) | (simp [*]; done) | (simp [ne_nil_bool]; done)), H', ⟨by have := HJ2.out; first | omega | exact Nat.le_refl _⟩, ⟨by repeat (first | (with_reducible first | exact HB.out | apply below_alloc | apply pw_below_drewN | apply below_drew1) | exact HB.out)⟩⟩
                        · rw [if_neg c18] at H
                          have c18b0 : ((bt a0 0) == 78) = false := beq_eq_false_iff_ne.mpr c18
                          have c18b1 : ((bt a0 0) != 78) = true := bne_iff_ne.mpr c18
                          by_cases c20 : (bt a0 0) = 105
                          · rw [if_pos c20] at H
                            have c20b0 : ((bt a0 0) == 105) = true := beq_iff_eq.mpr c20
                            have c20b1 : ((bt a0 0) != 105) = false := bne_eq_false_iff_eq.mpr c20
                            clear c20
                            have H' := Aside0.mk H
                            clear H
                            have p10 : 0 ≤ (0 : Int) := (by omega)
                            have q10 : 0 < a0.size := (by have : (0 : Int) < (a0.size : Int) := of_decide_eq_true (by first | (with_reducible assumption) | assumption); omega)
                            have hx10 : ∀ h : 0 < a0.size, ((a0[0]'h).toNat : Int) = bt a0 0 := bt_at a0 0
                            clear p10
                            have qi10 : (0 < (a0.size : Int)) = True := eq_true (of_decide_eq_true (by first | (with_reducible assumption) | assumption))
                            replace q10 := eq_true q10
                            have p12 : 0 ≤ (0 : Int) := (by omega)
                            have q12 : 0 < a0.size := (by have : (0 : Int) < (a0.size : Int) := of_decide_eq_true (by first | (with_reducible assumption) | assumption); omega)
                            have hx12 : ∀ h : 0 < a0.size, ((a0[0]'h).toNat : Int) = bt a0 0 := bt_at a0 0
                            clear p12
                            have qi12 : (0 < (a0.size : Int)) = True := eq_true (of_decide_eq_true (by first | (with_reducible assumption) | assumption))
                            replace q12 := eq_true q12
                            have p15 : 0 ≤ (0 : Int) := (by omega)
                            have q15 : 0 < a0.size := (by have : (0 : Int) < (a0.size : Int) := of_decide_eq_true (by first | (with_reducible assumption) | assumption); omega)
                            have hx15 : ∀ h : 0 < a0.size, ((a0[0]'h).toNat : Int) = bt a0 0 := bt_at a0 0
                            clear p15
                            have qi15 : (0 < (a0.size : Int)) = True := eq_true (of_decide_eq_true (by first | (with_reducible assumption) | assumption))
                            replace q15 := eq_true q15
                            have p17 : 0 ≤ (0 : Int) := (by omega)
                            have q17 : 0 < a0.size := (by have : (0 : Int) < (a0.size : Int) := of_decide_eq_true (by first | (with_reducible assumption) | assumption); omega)
                            have hx17 : ∀ h : 0 < a0.size, ((a0[0]'h).toNat : Int) = bt a0 0 := bt_at a0 0
                            clear p17
                            have qi17 : (0 < (a0.size : Int)) = True := eq_true (of_decide_eq_true (by first | (with_reducible assumption) | assumption))
                            replace q17 := eq_true q17
                            have p19 : 0 ≤ (0 : Int) := (by omega)
                            have q19 : 0 < a0.size := (by have : (0 : Int) < (a0.size : Int) := of_decide_eq_true (by first | (with_reducible assumption) | assumption); omega)
                            have hx19 : ∀ h : 0 < a0.size, ((a0[0]'h).toNat : Int) = bt a0 0 := bt_at a0 0
                            clear p19
                            have qi19 : (0 < (a0.size : Int)) = True := eq_true (of_decide_eq_true (by first | (with_reducible assumption) | assumption))
                            replace q19 := eq_true q19
                            go_wp2
                            go_meet
                            case rel => exact ⟨_, (true), (by first | rfl | (simp; done) | (simp [*]; done) | (simp [ne_nil_bool]; done)), H', ⟨by have := HJ2.out; first | omega | exact Nat.le_refl _⟩, ⟨by repeat (first | (with_reducible first | exact HB.out | apply below_alloc | apply pw_below_drewN | apply below_drew1) | exact HB.out)⟩⟩
                          · rw [if_neg c20] at H
                            have c20b0 : ((bt a0 0) == 105) = false := beq_eq_false_iff_ne.mpr c20
                            have c20b1 : ((bt a0 0) != 105) = true := bne_iff_ne.mpr c20
                            have H' := Aside0.mk H
                            clear H
                            have p10 : 0 ≤ (0 : Int) := (by omega)
                            have q10 : 0 < a0.size := (by have : (0 : Int) < (a0.size : Int) := of_decide_eq_true (by first | (with_reducible assumption) | assumption); omega)
                            have hx10 : ∀ h : 0 < a0.size, ((a0[0]'h).toNat : Int) = bt a0 0 := bt_at a0 0
                            clear p10
                            have qi10 : (0 < (a0.size : Int)) = True := eq_true (of_decide_eq_true (by first | (with_reducible assumption) | assumption))
                            replace q10 := eq_true q10
                            have p12 : 0 ≤ (0 : Int) := (by omega)
                            have q12 : 0 < a0.size := (by have : (0 : Int) < (a0.size : Int) := of_decide_eq_true (by first | (with_reducible assumption) | assumption); omega)
                            have hx12 : ∀ h : 0 < a0.size, ((a0[0]'h).toNat : Int) = bt a0 0 := bt_at a0 0
                            clear p12
                            have qi12 : (0 < (a0.size : Int)) = True := eq_true (of_decide_eq_true (by first | (with_reducible assumption) | assumption))
                            replace q12 := eq_true q12
                            have p15 : 0 ≤ (0 : Int) := (by omega)
                            have q15 : 0 < a0.size := (by have : (0 : Int) < (a0.size : Int) := of_decide_eq_true (by first | (with_reducible assumption) | assumption); omega)
                            have hx15 : ∀ h : 0 < a0.size, ((a0[0]'h).toNat : Int) = bt a0 0 := bt_at a0 0
                            clear p15
                            have qi15 : (0 < (a0.size : Int)) = True := eq_true (of_decide_eq_true (by first | (with_reducible assumption) | assumption))
                            replace q15 := eq_true q15
                            have p17 : 0 ≤ (0 : Int) := (by omega)
                            have q17 : 0 < a0.size := (by have : (0 : Int) < (a0.size : Int) := of_decide_eq_true (by first | (with_reducible assumption) | assumption); omega)
                            have hx17 : ∀ h : 0 < a0.size, ((a0[0]'h).toNat : Int) = bt a0 0 := bt_at a0 0
                            clear p17
                            have qi17 : (0 < (a0.size : Int)) = True := eq_true (of_decide_eq_true (by first | (with_reducible assumption) | assumption))
                            replace q17 := eq_true q17
                            have p19 : 0 ≤ (0 : Int) := (by omega)
                            have q19 : 0 < a0.size := (by have : (0 : Int) < (a0.size : Int) := of_decide_eq_true (by first | (with_reducible assumption) | assumption); omega)
                            have hx19 : ∀ h : 0 < a0.size, ((a0[0]'h).toNat : Int) = bt a0 0 := bt_at a0 0
                            clear p19
                            have qi19 : (0 < (a0.size : Int)) = True := eq_true (of_decide_eq_true (by first | (with_reducible assumption) | assumption))
                            replace q19 := eq_true q19
                            have p21 : 0 ≤ (0 : Int) := (by omega)
                            have q21 : 0 < a0.size := (by have : (0 : Int) < (a0.size : Int) := of_decide_eq_true (by first | (with_reducible assumption) | assumption); omega)
                            have hx21 : ∀ h : 0 < a0.size, ((a0[0]'h).toNat : Int) = bt a0 0 := bt_at a0 0
                            clear p21
                            have qi21 : (0 < (a0.size : Int)) = True := eq_true (of_decide_eq_true (by first | (with_reducible assumption) | assumption))
                            replace q21 := eq_true q21
                            go_wp2
                            go_meet
                            case rel => exact ⟨_, (((bt a0 0) == 73)), (by first | rfl | (simp; done) | (simp [*]; done) | (simp [ne_nil_bool]; done)), H', ⟨by have := HJ2.out; first | omega | exact Nat.le_refl _⟩, ⟨by repeat (first | (with_reducible first | exact HB.out | apply below_alloc | apply pw_below_drewN | apply below_drew1) | exact HB.out)⟩⟩
                    · rw [if_neg c14] at H
                      have c14b0 : (t101 == 0) = false := beq_eq_false_iff_ne.mpr c14
                      have c14b1 : (t101 != 0) = true := bne_iff_ne.mpr c14
                      have H' := Aside0.mk H
                      clear H
                      have p10 : 0 ≤ (0 : Int) := (by omega)
                      have q10 : 0 < a0.size := (by have : (0 : Int) < (a0.size : Int) := of_decide_eq_true (by first | (with_reducible assumption) | assumption); omega)
                      have hx10 : ∀ h : 0 < a0.size, ((a0[0]'h).toNat : Int) = bt a0 0 := bt_at a0 0
                      clear p10
                      have qi10 : (0 < (a0.size : Int)) = True := eq_true (of_decide_eq_true (by first | (with_reducible assumption) | assumption))
                      replace q10 := eq_true q10
                      have p12 : 0 ≤ (0 : Int) := (by omega)
                      have q12 : 0 < a0.size := (by have : (0 : Int) < (a0.size : Int) := of_decide_eq_true (by first | (with_reducible assumption) | assumption); omega)
                      have hx12 : ∀ h : 0 < a0.size, ((a0[0]'h).toNat : Int) = bt a0 0 := bt_at a0 0
                      clear p12
                      have qi12 : (0 < (a0.size : Int)) = True := eq_true (of_decide_eq_true (by first | (with_reducible assumption) | assumption))
                      replace q12 := eq_true q12
                      go_wp2
                      go_meet
                      case rel => exact ⟨_, (false), (by first | rfl | (simp; done) | (simp [*]; done) | (simp [ne_nil_bool]; done)), H', ⟨by have := HJ2.out; first | omega | exact Nat.le_refl _⟩, ⟨by repeat (first | (with_reducible first | exact HB.out | apply below_alloc | apply pw_below_drewN | apply below_drew1) | exact HB.out)⟩⟩
              · rw [if_neg c9] at H
                exact absurd H (by simp)
            · rw [if_neg c8] at H
              have c8b0 : (t101 == 1) = false := beq_eq_false_iff_ne.mpr c8
              have c8b1 : (t101 != 1) = true := bne_iff_ne.mpr c8
              (first | rw [c8b0] | (simp only [i64_w, i32_w]; rw [c8b0]) | skip)
              by_cases c22 : t101 = 0
              · rw [if_pos c22] at H
                have c22b0 : (t101 == 0) = true := beq_iff_eq.mpr c22
                have c22b1 : (t101 != 0) = false := bne_eq_false_iff_eq.mpr c22
                clear c22
                by_cases c23 : 0 < (a0.size : Int)
                · rw [if_pos c23] at H
                  have c23b0 : decide (0 < (a0.size : Int)) = true := decide_eq_true c23
                  have c23b1 : decide (0 < a0.size) = true := decide_eq_true (by omega)
                  clear c23
                  by_cases c25 : (bt a0 0) = 110
                  · rw [if_pos c25] at H
                    have c25b0 : ((bt a0 0) == 110) = true := beq_iff_eq.mpr c25
                    have c25b1 : ((bt a0 0) != 110) = false := bne_eq_false_iff_eq.mpr c25
                    clear c25
                    have H' := Aside0.mk H
                    clear H
                    have p24 : 0 ≤ (0 : Int) := (by omega)
                    have q24 : 0 < a0.size := (by have : (0 : Int) < (a0.size : Int) := of_decide_eq_true (by first | (with_reducible assumption) | assumption); omega)
                    have hx24 : ∀ h : 0 < a0.size, ((a0[0]'h).toNat : Int) = bt a0 0 := bt_at a0 0
                    clear p24
                    have qi24 : (0 < (a0.size : Int)) = True := eq_true (of_decide_eq_true (by first | (with_reducible assumption) | assumption))
                    replace q24 := eq_true q24
                    go_wp2
                    go_meet
                    case rel => exact ⟨_, (true), (by first | rfl | (simp; done) | (simp [*]; done) | (simp [ne_nil_bool]; done)), H', ⟨by have := HJ2.out; first | omega | exact Nat.le_refl _⟩, ⟨by repeat (first | (with_reducible first | exact HB.out | apply below_alloc | apply pw_below_drewN | apply below_drew1) | exact HB.out)⟩⟩
                  · rw [if_neg c25] at H
                    have c25b0 : ((bt a0 0) == 110) = false := beq_eq_false_iff_ne.mpr c25
                    have c25b1 : ((bt a0 0) != 110) = true := bne_iff_ne.mpr c25
                    by_cases c27 : (bt a0 0) = 78
                    · rw [if_pos c27] at H
                      have c27b0 : ((bt a0 0) == 78) = true := beq_iff_eq.mpr c27
                      have c27b1 : ((bt a0 0) != 78) = false := bne_eq_false_iff_eq.mpr c27
                      clear c27
                      have H' := Aside0.mk H
                      clear H
                      have p24 : 0 ≤ (0 : Int) := (by omega)
                      have q24 : 0 < a0.size := (by have : (0 : Int) < (a0.size : Int) := of_decide_eq_true (by first | (with_reducible assumption) | assumption); omega)
                      have hx24 : ∀ h : 0 < a0.size, ((a0[0]'h).toNat : Int) = bt a0 0 := bt_at a0 0
                      clear p24
                      have qi24 : (0 < (a0.size : Int)) = True := eq_true (of_decide_eq_true (by first | (with_reducible assumption) | assumption))
                      replace q24 := eq_true q24
                      have p26 : 0 ≤ (0 : Int) := (by omega)
                      have q26 : 0 < a0.size := (by have : (0 : Int) < (a0.size : Int) := of_decide_eq_true (by first | (with_reducible assumption) | assumption); omega)
                      have hx26 : ∀ h : 0 < a0.size, ((a0[0]'h).toNat : Int) = bt a0 0 := bt_at a0 0
                      clear p26
                      have qi26 : (0 < (a0.size : Int)) = True := eq_true (of_decide_eq_true (by first | (with_reducible assumption) | assumption))
                      replace q26 := eq_true q26
                      go_wp2
                      go_meet
                      case rel => exact ⟨_, (true), (by first | rfl | (simp; done) | (simp [*]; done) | (simp [ne_nil_bool]; done)), H', ⟨by have := HJ2.out; first | omega | exact Nat.le_refl _⟩, ⟨by repeat (first | (with_reducible first | exact HB.out | apply below_alloc | apply pw_below_drewN | apply below_drew1) | exact HB.out)⟩⟩
                    · rw [if_neg c27] at H
                      have c27b0 : ((bt a0 0) == 78) = false := beq_eq_false_iff_ne.mpr c27
                      have c27b1 : ((bt a0 0) != 78) = true := bne_iff_ne.mpr c27
                      by_cases c29 : (bt a0 0) = 105
                      · rw [if_pos c29] at H
                        have c29b0 : ((bt a0 0) == 105) = true := beq_iff_eq.mpr c29
                        have c29b1 : ((bt a0 0) != 105) = false := bne_eq_false_iff_eq.mpr c29
                        clear c29
                        have H' := Aside0.mk H
                        clear H
                        have p24 : 0 ≤ (0 : Int) := (by omega)
                        have q24 : 0 < a0.size := (by have : (0 : Int) < (a0.size : Int) := of_decide_eq_true (by first | (with_reducible assumption) | assumption); omega)
                        have hx24 : ∀ h : 0 < a0.size, ((a0[0]'h).toNat : Int) = bt a0 0 := bt_at a0 0
                        clear p24
                        have qi24 : (0 < (a0.size : Int)) = True := eq_true (of_decide_eq_true (by first | (with_reducible assumption) | assumption))
                        replace q24 := eq_true q24
                        have p26 : 0 ≤ (0 : Int) := (by omega)
                        have q26 : 0 < a0.size := (by have : (0 : Int) < (a0.size : Int) := of_decide_eq_true (by first | (with_reducible assumption) | assumption); omega)
                        have hx26 : ∀ h : 0 < a0.size, ((a0[0]'h).toNat : Int) = bt a0 0 := bt_at a0 0
                        clear p26
                        have qi26 : (0 < (a0.size : Int)) = True := eq_true (of_decide_eq_true (by first | (with_reducible assumption) | assumption))
                        replace q26 := eq_true q26
                        have p28 : 0 ≤ (0 : Int) := (by omega)
                        have q28 : 0 < a0.size := (by have : (0 : Int) < (a0.size : Int) := of_decide_eq_true (by first | (with_reducible assumption) | assumption); omega)
                        have hx28 : ∀ h : 0 < a0.size, ((a0[0]'h).toNat : Int) = bt a0 0 := bt_at a0 0
                        clear p28
                        have qi28 : (0 < (a0.size : Int)) = True := eq_true (of_decide_eq_true (by first | (with_reducible assumption) | assumption))
                        replace q28 := eq_true q28
                        go_wp2
                        go_meet
                        case rel => exact ⟨_, (true), (by first | rfl | (simp; done) | (simp [*]; done) | (simp [ne_nil_bool]; done)), H', ⟨by have := HJ2.out; first | omega | exact Nat.le_refl _⟩, ⟨by repeat (first | (with_reducible first | exact HB.out | apply below_alloc | apply pw_below_drewN | apply below_drew1) | exact HB.out)⟩⟩
                      · rw [if_neg c29] at H
                        have c29b0 : ((bt a0 0) == 105) = false := beq_eq_false_iff_ne.mpr c29
                        have c29b1 : ((bt a0 0) != 105) = true := bne_iff_ne.mpr c29
                        have H' := Aside0.mk H
                        clear H
                        have p24 : 0 ≤ (0 : Int) := (by omega)
                        have q24 : 0 < a0.size := (by have : (0 : Int) < (a0.size : Int) := of_decide_eq_true (by first | (with_reducible assumption) | assumption); omega)
                        have hx24 : ∀ h : 0 < a0.size, ((a0[0]'h).toNat : Int) = bt a0 0 := bt_at a0 0
                        clear p24
                        have qi24 : (0 < (a0.size : Int)) = True := eq_true (of_decide_eq_true (by first | (with_reducible assumption) | assumption))
                        replace q24 := eq_true q24
                        have p26 : 0 ≤ (0 : Int) := (by omega)
                        have q26 : 0 < a0.size := (by have : (0 : Int) < (a0.size : Int) := of_decide_eq_true (by first | (with_reducible assumption) | assumption); omega)
                        have hx26 : ∀ h : 0 < a0.size, ((a0[0]'h).toNat : Int) = bt a0 0 := bt_at a0 0
                        clear p26
                        have qi26 : (0 < (a0.size : Int)) = True := eq_true (of_decide_eq_true (by first | (with_reducible assumption) | assumption))
                        replace q26 := eq_true q26
                        have p28 : 0 ≤ (0 : Int) := (by omega)
                        have q28 : 0 < a0.size := (by have : (0 : Int) < (a0.size : Int) := of_decide_eq_true (by first | (with_reducible assumption) | assumption); omega)
                        have hx28 : ∀ h : 0 < a0.size, ((a0[0]'h).toNat : Int) = bt a0 0 := bt_at a0 0
                        clear p28
                        have qi28 : (0 < (a0.size : Int)) = True := eq_true (of_decide_eq_true (by first | (with_reducible assumption) | assumption))
                        replace q28 := eq_true q28
                        have p30 : 0 ≤ (0 : Int) := (by omega)
                        have q30 : 0 < a0.size := (by have : (0 : Int) < (a0.size : Int) := of_decide_eq_true (by first | (with_reducible assumption) | assumption); omega)
                        have hx30 : ∀ h : 0 < a0.size, ((a0[0]'h).toNat : Int) = bt a0 0 := bt_at a0 0
                        clear p30
                        have qi30 : (0 < (a0.size : Int)) = True := eq_true (of_decide_eq_true (by first | (with_reducible assumption) | assumption))
                        replace q30 := eq_true q30
                        go_wp2
                        go_meet
                        case rel => exact ⟨_, (((bt a0 0) == 73)), (by first | rfl | (simp; done) | (simp [*]; done) | (simp [ne_nil_bool]; done)), H', ⟨by have := HJ2.out; first | omega | exact Nat.le_refl _⟩, ⟨by repeat (first | (with_reducible first | exact HB.out | apply below_alloc | apply pw_below_drewN | apply below_drew1) | exact HB.out)⟩⟩
                · rw [if_neg c23] at H
                  exact absurd H (by simp)
              · rw [if_neg c22] at H
                have c22b0 : (t101 == 0) = false := beq_eq_false_iff_ne.mpr c22
                have c22b1 : (t101 != 0) = true := bne_iff_ne.mpr c22
                have H' := Aside0.mk H
                clear H
                go_wp2
                go_meet
                case rel => exact ⟨_, (false), (by first | rfl | (simp; done) | (simp [*]; done) | (simp [ne_nil_bool]; done)), H', ⟨by have := HJ2.out; first | omega | exact Nat.le_refl _⟩, ⟨by repeat (first | (with_reducible first | exact HB.out | apply below_alloc | apply pw_below_drewN | apply below_drew1) | exact HB.out)⟩⟩
          case rest =>
            clear HC7
            try clear c1
            try clear p1
            try clear q1
            try clear hx1
            try clear qi1
            try clear c2
            try clear c2b0
            try clear c2b1
            try clear p2
            try clear q2
            try clear hx2
            try clear qi2
            try clear p3
            try clear q3
            try clear hx3
            try clear qi3
            try clear c4
            try clear c4b0
            try clear c4b1
            try clear c5
            try clear c8
            try clear c8b0
            try clear c8b1
            try clear c9
            try clear c9b0
            try clear c9b1
            try clear p10
            try clear q10
            try clear hx10
            try clear qi10
            try clear c11
            try clear c11b0
            try clear c11b1
            try clear p12
            try clear q12
            try clear hx12
            try clear qi12
            try clear c13
            try clear c13b0
            try clear c13b1
            try clear c14
            try clear c14b0
            try clear c14b1
            try clear p15
            try clear q15
            try clear hx15
            try clear qi15
            try clear c16
            try clear c16b0
            try clear c16b1
            try clear p17
            try clear q17
            try clear hx17
            try clear qi17
            try clear c18
            try clear c18b0
            try clear c18b1
            try clear p19
            try clear q19
            try clear hx19
            try clear qi19
            try clear c20
            try clear c20b0
            try clear c20b1
            try clear p21
            try clear q21
            try clear hx21
            try clear qi21
            try clear c22
            try clear c22b0
            try clear c22b1
            try clear c23
            try clear c23b0
            try clear c23b1
            try clear p24
            try clear q24
            try clear hx24
            try clear qi24
            try clear c25
            try clear c25b0
            try clear c25b1
            try clear p26
            try clear q26
            try clear hx26
            try clear qi26
            try clear c27
            try clear c27b0
            try clear c27b1
            try clear p28
            try clear q28
            try clear hx28
            try clear qi28
            try clear c29
            try clear c29b0
            try clear c29b1
            try clear p30
            try clear q30
            try clear hx30
            try clear qi30
            try clear p10
            try clear p12
            try clear p15
            try clear p17
            try clear p19
            try clear p2
            try clear p21
            try clear p24
            try clear p26
            try clear p28
            try clear p30
            try clear q10
            try clear q12
            try clear q15
            try clear q17
            try clear q19
            try clear q21
            try clear q24
            try clear q26
            try clear q28
            try clear q30
            obtain ⟨kq, x57_6, rfl, HA, HJ6, HB⟩ := hcut
            cases kq with
            | zero => exact absurd HA.out (by simp [laws_FnFjRawNumber.j1])
            | succ kj6 =>
              have H := HA.out
              clear HA
              simp only [laws_FnFjRawNumber.j1] at H
              by_cases c31 : x57_6 = true
              · subst c31
                have H1 : (some true) = some r := by rw [if_pos rfl] at H; exact H
                clear H
                have H := H1
                clear H1
                obtain rfl := Option.some.inj H
                go_wp2
                go_ret
                exact ⟨by first | rfl | (simp [errW_none, errW_some] <;> rfl) | (simp [*, errW_none, errW_some] <;> rfl), by repeat (first | (with_reducible first | exact HB.out | apply below_alloc | apply pw_below_drewN | apply below_drew1) | exact HB.out)⟩
              · replace c31 := Bool.eq_false_iff.mpr c31
                subst c31
                have H1 : ((impl_FjRawNumber.f a0).bind fun bt102 => ((impl_FjRawNumber.f (⟨#[49]⟩ : ByteArray)).bind fun bt105 => (if bt105.2.2 = true then (if (bt102.2.2 == (decide (t101 > 0))) = true then (if bt102.2.2 = true then (if 0 ≤ t101 then (if t101 ≤ (a0.size : Int) then (if bt102.1.toList = (a0.extract 0 (t101 : Int).toNat).toList then (some (bt102.2.1.toList == (a0.extract (t101 : Int).toNat a0.size).toList)) else (some false)) else (none)) else (none)) else (some true)) else (some false)) else (some false)))) = some r := by rw [if_neg (show ¬ (false = true) by decide)] at H; exact H
                clear H
                have H := H1
                clear H1
                replace H := Option.bind_eq_some_iff.mp H
                obtain ⟨⟨t102, t103, t104⟩, A320, H⟩ := H
                replace H : ((impl_FjRawNumber.f (⟨#[49]⟩ : ByteArray)).bind fun bt105 => (if bt105.2.2 = true then (if (t104 == (decide (t101 > 0))) = true then (if t104 = true then (if 0 ≤ t101 then (if t101 ≤ (a0.size : Int) then (if t102.toList = (a0.extract 0 (t101 : Int).toNat).toList then (some (t103.toList == (a0.extract (t101 : Int).toNat a0.size).toList)) else (some false)) else (none)) else (none)) else (some true)) else (some false)) else (some false))) = some r := H
                have A32 := Aside0.mk A320
                clear A320
                replace H := Option.bind_eq_some_iff.mp H
                obtain ⟨⟨t105, t106, t107⟩, A330, H⟩ := H
                replace H : (if t107 = true then (if (t104 == (decide (t101 > 0))) = true then (if t104 = true then (if 0 ≤ t101 then (if t101 ≤ (a0.size : Int) then (if t102.toList = (a0.extract 0 (t101 : Int).toNat).toList then (some (t103.toList == (a0.extract (t101 : Int).toNat a0.size).toList)) else (some false)) else (none)) else (none)) else (some true)) else (some false)) else (some false)) = some r := H
                have A33 := Aside0.mk A330
                clear A330
                by_cases c34 : t107 = true
                · subst c34
                  have H1 : (if (t104 == (decide (t101 > 0))) = true then (if t104 = true then (if 0 ≤ t101 then (if t101 ≤ (a0.size : Int) then (if t102.toList = (a0.extract 0 (t101 : Int).toNat).toList then (some (t103.toList == (a0.extract (t101 : Int).toNat a0.size).toList)) else (some false)) else (none)) else (none)) else (some true)) else (some false)) = some r := by rw [if_pos rfl] at H; exact H
                  clear H
                  have H := H1
                  clear H1
                  by_cases c35 : (t104 == (decide (t101 > 0))) = true
                  · rw [if_pos c35] at H
                    have c35b0 : (t104 == (decide (t101 > 0))) = true := c35
                    (try (have c35b1 : decide (t104 = (decide (t101 > 0))) = true := by simpa using c35))
                    (try (have c35b2 : (t104 == (decide (t101 > 0))) = true := by simpa using c35))
                    clear c35
                    by_cases c36 : t104 = true
                    · subst c36
                      have H1 : (if 0 ≤ t101 then (if t101 ≤ (a0.size : Int) then (if t102.toList = (a0.extract 0 (t101 : Int).toNat).toList then (some (t103.toList == (a0.extract (t101 : Int).toNat a0.size).toList)) else (some false)) else (none)) else (none)) = some r := by rw [if_pos rfl] at H; exact H
                      clear H
                      have H := H1
                      clear H1
                      by_cases c37 : 0 ≤ t101
                      · rw [if_pos c37] at H
                        have c37b0 := eq_true c37
                        have c37b1 : decide (0 ≤ t101) = true := decide_eq_true c37
                        clear c37
                        by_cases c38 : t101 ≤ (a0.size : Int)
                        · rw [if_pos c38] at H
                          have c38b0 := eq_true c38
                          have c38b1 : decide (t101 ≤ (a0.size : Int)) = true := decide_eq_true c38
                          clear c38
                          by_cases c39 : t102.toList = (a0.extract 0 (t101 : Int).toNat).toList
                          · rw [if_pos c39] at H
                            have c39b0 : (t102.toList == (a0.extract 0 (t101 : Int).toNat).toList) = true := beq_iff_eq.mpr c39
                            have c39b1 : (t102.toList != (a0.extract 0 (t101 : Int).toNat).toList) = false := bne_eq_false_iff_eq.mpr c39
                            clear c39
                            have c40b0 := eq_true (of_decide_eq_true (by first | (with_reducible assumption) | assumption) : 0 ≤ t101)
                            have c41b0 := eq_true (of_decide_eq_true (by first | (with_reducible assumption) | assumption) : t101 ≤ (a0.size : Int))
                            obtain rfl := Option.some.inj H
                            go_wp2_with (first | ((with_reducible refine gate_callee (f := 12) rfl ?_); refine goesL_ (some 60) rfl rfl Try.func12 (by kernel_rfl) rfl #[.string a0] rfl (by (try simp only [List.map_toArray, List.map_cons, List.map_nil]); first | done | rfl | (simp only [List.length_drop, List.length_take]; rfl)) ?_; (with_reducible refine (impl_FjRawNumber.calls a0 t102 t103 true _ A32.out).mono ?_); rintro e w42 ⟨rfl, hb⟩; refine ⟨_, rfl, ?_⟩; have n0_ := Aside0.mk (below_step (by repeat (first | (with_reducible first | exact HB.out | apply below_alloc | apply pw_below_drewN | apply below_drew1) | exact HB.out)) hb); clear HB; have HB := n0_; clear n0_; (try clear hb); (try clear hb2); (try clear hk); (try clear hi)) | ((with_reducible refine gate_callee (f := 12) rfl ?_); refine goesL_ (some 65) rfl rfl Try.func12 (by kernel_rfl) rfl #[.string (⟨#[49]⟩ : ByteArray)] rfl (by (try simp only [List.map_toArray, List.map_cons, List.map_nil]); first | done | rfl | (simp only [List.length_drop, List.length_take]; rfl)) ?_; (with_reducible refine (impl_FjRawNumber.calls (⟨#[49]⟩ : ByteArray) t105 t106 true _ A33.out).mono ?_); rintro e w43 ⟨rfl, hb⟩; refine ⟨_, rfl, ?_⟩; have n0_ := Aside0.mk (below_step (by repeat (first | (with_reducible first | exact HB.out | apply below_alloc | apply pw_below_drewN | apply below_drew1) | exact HB.out)) hb); clear HB; have HB := n0_; clear n0_; (try clear hb); (try clear hb2); (try clear hk); (try clear hi)))
                            go_ret
                            exact ⟨by first | rfl | (simp [errW_none, errW_some] <;> rfl) | (simp [*, errW_none, errW_some] <;> rfl), by repeat (first | (with_reducible first | exact HB.out | apply below_alloc | apply pw_below_drewN | apply below_drew1) | exact HB.out)⟩
                          · rw [if_neg c39] at H
                            have c39b0 : (t102.toList == (a0.extract 0 (t101 : Int).toNat).toList) = false := beq_eq_false_iff_ne.mpr c39
                            have c39b1 : (t102.toList != (a0.extract 0 (t101 : Int).toNat).toList) = true := bne_iff_ne.mpr c39
                            obtain rfl := Option.some.inj H
                            go_wp2_with (first | ((with_reducible refine gate_callee (f := 12) rfl ?_); refine goesL_ (some 60) rfl rfl Try.func12 (by kernel_rfl) rfl #[.string a0] rfl (by (try simp only [List.map_toArray, List.map_cons, List.map_nil]); first | done | rfl | (simp only [List.length_drop, List.length_take]; rfl)) ?_; (with_reducible refine (impl_FjRawNumber.calls a0 t102 t103 true _ A32.out).mono ?_); rintro e w44 ⟨rfl, hb⟩; refine ⟨_, rfl, ?_⟩; have n0_ := Aside0.mk (below_step (by repeat (first | (with_reducible first | exact HB.out | apply below_alloc | apply pw_below_drewN | apply below_drew1) | exact HB.out)) hb); clear HB; have HB := n0_; clear n0_; (try clear hb); (try clear hb2); (try clear hk); (try clear hi)) | ((with_reducible refine gate_callee (f := 12) rfl ?_); refine goesL_ (some 65) rfl rfl Try.func12 (by kernel_rfl) rfl #[.string (⟨#[49]⟩ : ByteArray)] rfl (by (try simp only [List.map_toArray, List.map_cons, List.map_nil]); first | done | rfl | (simp only [List.length_drop, List.length_take]; rfl)) ?_; (with_reducible refine (impl_FjRawNumber.calls (⟨#[49]⟩ : ByteArray) t105 t106 true _ A33.out).mono ?_); rintro e w45 ⟨rfl, hb⟩; refine ⟨_, rfl, ?_⟩; have n0_ := Aside0.mk (below_step (by repeat (first | (with_reducible first | exact HB.out | apply below_alloc | apply pw_below_drewN | apply below_drew1) | exact HB.out)) hb); clear HB; have HB := n0_; clear n0_; (try clear hb); (try clear hb2); (try clear hk); (try clear hi)))
                            go_ret
                            exact ⟨by first | rfl | (simp [errW_none, errW_some] <;> rfl) | (simp [*, errW_none, errW_some] <;> rfl), by repeat (first | (with_reducible first | exact HB.out | apply below_alloc | apply pw_below_drewN | apply below_drew1) | exact HB.out)⟩
                        · rw [if_neg c38] at H
                          exact absurd H (by simp)
                      · rw [if_neg c37] at H
                        exact absurd H (by simp)
                    · replace c36 := Bool.eq_false_iff.mpr c36
                      subst c36
                      have H1 : (some true) = some r := by rw [if_neg (show ¬ (false = true) by decide)] at H; exact H
                      clear H
                      have H := H1
                      clear H1
                      obtain rfl := Option.some.inj H
                      go_wp2_with (first | ((with_reducible refine gate_callee (f := 12) rfl ?_); refine goesL_ (some 60) rfl rfl Try.func12 (by kernel_rfl) rfl #[.string a0] rfl (by (try simp only [List.map_toArray, List.map_cons, List.map_nil]); first | done | rfl | (simp only [List.length_drop, List.length_take]; rfl)) ?_; (with_reducible refine (impl_FjRawNumber.calls a0 t102 t103 false _ A32.out).mono ?_); rintro e w46 ⟨rfl, hb⟩; refine ⟨_, rfl, ?_⟩; have n0_ := Aside0.mk (below_step (by repeat (first | (with_reducible first | exact HB.out | apply below_alloc | apply pw_below_drewN | apply below_drew1) | exact HB.out)) hb); clear HB; have HB := n0_; clear n0_; (try clear hb); (try clear hb2); (try clear hk); (try clear hi)) | ((with_reducible refine gate_callee (f := 12) rfl ?_); refine goesL_ (some 65) rfl rfl Try.func12 (by kernel_rfl) rfl #[.string (⟨#[49]⟩ : ByteArray)] rfl (by (try simp only [List.map_toArray, List.map_cons, List.map_nil]); first | done | rfl | (simp only [List.length_drop, List.length_take]; rfl)) ?_; (with_reducible refine (impl_FjRawNumber.calls (⟨#[49]⟩ : ByteArray) t105 t106 true _ A33.out).mono ?_); rintro e w47 ⟨rfl, hb⟩; refine ⟨_, rfl, ?_⟩; have n0_ := Aside0.mk (below_step (by repeat (first | (with_reducible first | exact HB.out | apply below_alloc | apply pw_below_drewN | apply below_drew1) | exact HB.out)) hb); clear HB; have HB := n0_; clear n0_; (try clear hb); (try clear hb2); (try clear hk); (try clear hi)))
                      go_ret
                      exact ⟨by first | rfl | (simp [errW_none, errW_some] <;> rfl) | (simp [*, errW_none, errW_some] <;> rfl), by repeat (first | (with_reducible first | exact HB.out | apply below_alloc | apply pw_below_drewN | apply below_drew1) | exact HB.out)⟩
                  · rw [if_neg c35] at H
                    have c35b0 : (t104 == (decide (t101 > 0))) = false := by simpa using c35
                    (try (have c35b1 : decide (t104 = (decide (t101 > 0))) = false := by simpa using c35))
                    (try (have c35b2 : (t104 == (decide (t101 > 0))) = false := by simpa using c35))
                    (try (have c35b3 : ¬ (t104 = (decide (t101 > 0))) := by simpa using c35))
                    clear c35
                    obtain rfl := Option.some.inj H
                    go_wp2_with (first | ((with_reducible refine gate_callee (f := 12) rfl ?_); refine goesL_ (some 60) rfl rfl Try.func12 (by kernel_rfl) rfl #[.string a0] rfl (by (try simp only [List.map_toArray, List.map_cons, List.map_nil]); first | done | rfl | (simp only [List.length_drop, List.length_take]; rfl)) ?_; (with_reducible refine (impl_FjRawNumber.calls a0 t102 t103 t104 _ A32.out).mono ?_); rintro e w48 ⟨rfl, hb⟩; refine ⟨_, rfl, ?_⟩; have n0_ := Aside0.mk (below_step (by repeat (first | (with_reducible first | exact HB.out | apply below_alloc | apply pw_below_drewN | apply below_drew1) | exact HB.out)) hb); clear HB; have HB := n0_; clear n0_; (try clear hb); (try clear hb2); (try clear hk); (try clear hi)) | ((with_reducible refine gate_callee (f := 12) rfl ?_); refine goesL_ (some 65) rfl rfl Try.func12 (by kernel_rfl) rfl #[.string (⟨#[49]⟩ : ByteArray)] rfl (by (try simp only [List.map_toArray, List.map_cons, List.map_nil]); first | done | rfl | (simp only [List.length_drop, List.length_take]; rfl)) ?_; (with_reducible refine (impl_FjRawNumber.calls (⟨#[49]⟩ : ByteArray) t105 t106 true _ A33.out).mono ?_); rintro e w49 ⟨rfl, hb⟩; refine ⟨_, rfl, ?_⟩; have n0_ := Aside0.mk (below_step (by repeat (first | (with_reducible first | exact HB.out | apply below_alloc | apply pw_below_drewN | apply below_drew1) | exact HB.out)) hb); clear HB; have HB := n0_; clear n0_; (try clear hb); (try clear hb2); (try clear hk); (try clear hi)))
                    go_ret
                    exact ⟨by first | rfl | (simp [errW_none, errW_some] <;> rfl) | (simp [*, errW_none, errW_some] <;> rfl), by repeat (first | (with_reducible first | exact HB.out | apply below_alloc | apply pw_below_drewN | apply below_drew1) | exact HB.out)⟩
                · replace c34 := Bool.eq_false_iff.mpr c34
                  subst c34
                  have H1 : (some false) = some r := by rw [if_neg (show ¬ (false = true) by decide)] at H; exact H
                  clear H
                  have H := H1
                  clear H1
                  obtain rfl := Option.some.inj H
                  go_wp2_with (first | ((with_reducible refine gate_callee (f := 12) rfl ?_); refine goesL_ (some 60) rfl rfl Try.func12 (by kernel_rfl) rfl #[.string a0] rfl (by (try simp only [List.map_toArray, List.map_cons, List.map_nil]); first | done | rfl | (simp only [List.length_drop, List.length_take]; rfl)) ?_; (with_reducible refine (impl_FjRawNumber.calls a0 t102 t103 t104 _ A32.out).mono ?_); rintro e w50 ⟨rfl, hb⟩; refine ⟨_, rfl, ?_⟩; have n0_ := Aside0.mk (below_step (by repeat (first | (with_reducible first | exact HB.out | apply below_alloc | apply pw_below_drewN | apply below_drew1) | exact HB.out)) hb); clear HB; have HB := n0_; clear n0_; (try clear hb); (try clear hb2); (try clear hk); (try clear hi)) | ((with_reducible refine gate_callee (f := 12) rfl ?_); refine goesL_ (some 65) rfl rfl Try.func12 (by kernel_rfl) rfl #[.string (⟨#[49]⟩ : ByteArray)] rfl (by (try simp only [List.map_toArray, List.map_cons, List.map_nil]); first | done | rfl | (simp only [List.length_drop, List.length_take]; rfl)) ?_; (with_reducible refine (impl_FjRawNumber.calls (⟨#[49]⟩ : ByteArray) t105 t106 false _ A33.out).mono ?_); rintro e w51 ⟨rfl, hb⟩; refine ⟨_, rfl, ?_⟩; have n0_ := Aside0.mk (below_step (by repeat (first | (with_reducible first | exact HB.out | apply below_alloc | apply pw_below_drewN | apply below_drew1) | exact HB.out)) hb); clear HB; have HB := n0_; clear n0_; (try clear hb); (try clear hb2); (try clear hk); (try clear hi)))
                  go_ret
                  exact ⟨by first | rfl | (simp [errW_none, errW_some] <;> rfl) | (simp [*, errW_none, errW_some] <;> rfl), by repeat (first | (with_reducible first | exact HB.out | apply below_alloc | apply pw_below_drewN | apply below_drew1) | exact HB.out)⟩

/-- THE ONE PURE STATEMENT of laws_FnFjRawNumber: yours. -/
def laws_FnFjRawNumber.Pure : Prop := ∀ (a0 : ByteArray), a0.size ≤ 140737488351232 → ∃ k, laws_FnFjRawNumber.f k a0 = some true
theorem laws_FnFjRawNumber.walk (P : laws_FnFjRawNumber.Pure) (a0 : ByteArray) (w : World) (w0 : a0.size ≤ 140737488351232) :
    Calls Try.prog 5 #[.string a0] w fun e w' => e = .returned (.bool true) ∧ Below w.heap.size w w' := by
  obtain ⟨k, h⟩ := P a0 w0
  refine (laws_FnFjRawNumber.calls k a0 true w h).mono ?_
  rintro e w' ⟨rfl, hd⟩
  exact ⟨rfl, hd⟩

end Go.Proofs.Ytklllibhgalnfaa.PFnFjRawNumber
