/- gjson's valid: any value. -/
import Derived.Test.YtiecdhkmlpceoaaDoorGsE
namespace Go.Proofs.YtiecdhkmlpceoaaDoor.G
set_option linter.unusedVariables false
set_option linter.unusedSimpArgs false
open Go.RowKit Go.Proofs.YtiecdhkmlpceoaaDoorW.PrintWords

def GAm (o : Option Nat) (m : Nat) (p : Int) (b : Bool) : Prop := match o with | none => b = false | some k => b = true ∧ p = ((m + k : Nat) : Int)
theorem ga_shift {o o' : Option Nat} {k m d : Nat} {p : Int} {b : Bool} (h : GAm o k p b) (ho : o' = o.map (d + ·)) (hd : m + d = k) : GAm o' m p b := by
  subst ho
  cases o with
  | none => exact h
  | some r =>
    obtain ⟨h1, h2⟩ := h
    refine ⟨h1, ?_⟩
    show p = ((m + (d + r) : Nat) : Int)
    rw [h2]; omega
theorem pre_cons (c : Int) (w : List Int) (x : Int) (l : List Int) : pre (c :: w) (x :: l) = (x == c && pre w l) := by
  unfold pre
  simp only [List.length_cons, List.take_succ_cons]
  rw [Bool.eq_iff_iff]
  simp
set_option maxHeartbeats 16000000 in
set_option maxRecDepth 100000 in
theorem vany_step (h o n c m : Nat) (xs : List Int) (w : World) (H : RowAt w h o xs) (hl : xs.length = n) (hn : n ≤ 140737488351232) (hm : m ≤ n)
    (VH : ∀ k, m < k → k ≤ n → Calls Tryd.prog 70 #[.slice (some ⟨h, o, none⟩) n c, .int .i64 k] w (GA (vF k (xs.drop k)) k w)) :
    Calls Tryd.prog 70 #[.slice (some ⟨h, o, none⟩) n c, .int .i64 m] w (GA (vF m (xs.drop m)) m w) := by
  have HH := Aside0.mk (fun k (hk : k < n) => H.2 k (by rw [hl]; exact hk))
  have HO := Aside0.mk (fun k (hk : k ≤ n) (hmk : m < k) => vobject_calls h o n c k xs w H hl hn hk (fun z hz hzn => VH z (by omega) hzn))
  have HA := Aside0.mk (fun k (hk : k ≤ n) (hmk : m < k) => varray_calls h o n c k xs w H hl hn hk (fun z hz hzn => VH z (by omega) hzn))
  have HS := Aside0.mk (fun k (hk : k ≤ n) => vstring_calls h o n c k xs w H hl hn hk)
  have HN := Aside0.mk (fun k (hk : k < n) (hx) => vnumber_calls h o n c k xs w H hl hn hk hx)
  have HT := Aside0.mk (fun k (hk : k ≤ n) => vtrue_calls h o n c k xs w H hl hn hk)
  have HF := Aside0.mk (fun k (hk : k ≤ n) => vfalse_calls h o n c k xs w H hl hn hk)
  have HU := Aside0.mk (fun k (hk : k ≤ n) => vnull_calls h o n c k xs w H hl hn hk)
  have HL := Aside0.mk hl
  clear H hl VH
  go_enter Tryd.func70, Tryd.ntmps70
  go_wp2_with fail
  go_loop [1] (fun i => ∃ k : Nat, i = .int .i64 k ∧ m ≤ k ∧ k ≤ n ∧ Aside0 (k + bl (xs.drop k) = m + bl (xs.drop m))) (fun i => n - (intOf i).toNat)
  case atStart => exact ⟨m, rfl, Nat.le_refl _, hm, ⟨rfl⟩⟩
  case round =>
    obtain ⟨k, rfl, hmk, hk, HK⟩ := hrel
    by_cases hlt : k < n
    · obtain ⟨x, hx⟩ : ∃ x, x = xs.getD k 0 := ⟨_, rfl⟩
      have hc : w.cell? ⟨h, o + k, none⟩ = some (.int .u8 x) := by rw [hx]; exact HH.out k hlt
      have hd := drop_at HL.out hlt
      rw [← hx] at hd
      have HD := Aside0.mk hd
      have HX0 := Aside0.mk hx
      clear hx hd
      cases hb : isBl x with
      | true =>
        have HB := Aside0.mk hb
        rcases isBl_or' hb with rfl | rfl | rfl | rfl
        all_goals
          clear hb
          go_wp2
          go_round
          case rel => exact ⟨k + 1, by go_num, by omega, by omega, ⟨by have := HK.out; rw [HD.out, bl_one HB.out] at this; omega⟩⟩
          case measure => simp [intOf]; omega
      | false =>
        obtain ⟨b1, b2, b3, b4⟩ := isBl_not hb
        have hq : k = m + bl (xs.drop m) := by have := HK.out; rw [HD.out, bl_zero hb] at this; omega
        have HV : Aside0 (vF m (xs.drop m) = (one V k (x :: xs.drop (k + 1))).map (k - m + ·.2)) := ⟨by rw [vF_eq hq, V_eq, HD.out]⟩
        clear hb hq HK
        by_cases h123 : x = 123
        · subst h123
          have C := HO.out (k + 1) hlt (by omega)
          rw [show ((k + 1 : Nat) : Int) = (k : Int) + 1 by omega] at C
          have C := Aside0.mk C
          have HE : Aside0 (vF m (xs.drop m) = (oF (k + 1) (xs.drop (k + 1))).map (k - m + 1 + ·)) := ⟨by
            rw [HV.out]; simp only [one]; unfold oF; rw [if_true, Option.map_map, Option.map_map]; congr 1; funext z; simp only [Function.comp]; omega⟩
          go_wp2_with (go_at_call 85; refine C.out.mono ?_; rintro e w1 ⟨p, bb, rfl, rfl, hA⟩)
          go_ret2
          refine ⟨p, bb, rfl, rfl, ⟨ga_shift hA.out HE.out (by omega)⟩⟩
        · have e123 : (x == 123) = false := by simpa using h123
          by_cases h91 : x = 91
          · subst h91
            have C := HA.out (k + 1) hlt (by omega)
            rw [show ((k + 1 : Nat) : Int) = (k : Int) + 1 by omega] at C
            have C := Aside0.mk C
            have HE : Aside0 (vF m (xs.drop m) = (lF (k + 1) (xs.drop (k + 1))).map (k - m + 1 + ·)) := ⟨by
              rw [HV.out]; simp only [one]; unfold lF; rw [if_neg (by decide), if_true, Option.map_map, Option.map_map]; congr 1; funext z; simp only [Function.comp]; omega⟩
            go_wp2_with (go_at_call 86; refine C.out.mono ?_; rintro e w1 ⟨p, bb, rfl, rfl, hA⟩)
            go_ret2
            refine ⟨p, bb, rfl, rfl, ⟨ga_shift hA.out HE.out (by omega)⟩⟩
          · have e91 : (x == 91) = false := by simpa using h91
            by_cases h34 : x = 34
            · subst h34
              have C := HS.out (k + 1) hlt
              rw [show ((k + 1 : Nat) : Int) = (k : Int) + 1 by omega] at C
              have C := Aside0.mk C
              have HE : Aside0 (vF m (xs.drop m) = (quo (xs.drop (k + 1))).map (k - m + 1 + ·)) := ⟨by
                rw [HV.out]; simp only [one]; rw [if_neg (by decide), if_neg (by decide), if_true, Option.map_map]; congr 1; funext z; simp only [Function.comp]; omega⟩
              go_wp2_with (go_at_call 87; refine C.out.mono ?_; rintro e w1 ⟨p, bb, rfl, rfl, hA⟩)
              go_ret2
              refine ⟨p, bb, rfl, rfl, ⟨ga_shift hA.out HE.out (by omega)⟩⟩
            · have e34 : (x == 34) = false := by simpa using h34
              by_cases hnum : x = 45 ∨ isDg x = true
              · have C := Aside0.mk (HN.out k hlt (by rw [← HX0.out]; exact hnum))
                have HE : Aside0 (vF m (xs.drop m) = (num (xs.drop k)).map (k - m + ·)) := ⟨by
                  rw [HV.out]; simp only [one]; rw [if_neg h123, if_neg h91, if_neg h34, if_pos hnum, HD.out, Option.map_map]; rfl⟩
                have hor : x = 45 ∨ x = 48 ∨ x = 49 ∨ x = 50 ∨ x = 51 ∨ x = 52 ∨ x = 53 ∨ x = 54 ∨ x = 55 ∨ x = 56 ∨ x = 57 := by
                  rcases hnum with h | h
                  · exact .inl h
                  · have := dg_iff.1 h; omega
                clear hnum h123 h91 h34 HV HX0 HD
                rcases hor with rfl | rfl | rfl | rfl | rfl | rfl | rfl | rfl | rfl | rfl | rfl
                all_goals
                  clear b1 b2 b3 b4 e123 e91 e34
                  go_wp2_with (go_at_call 88; refine C.out.mono ?_; rintro e w1 ⟨p, bb, rfl, rfl, hA⟩)
                  go_ret2
                  refine ⟨p, bb, rfl, rfl, ⟨ga_shift hA.out HE.out (by omega)⟩⟩
              · have en : (x == 45) = false ∧ (x == 48) = false ∧ (x == 49) = false ∧ (x == 50) = false ∧ (x == 51) = false ∧ (x == 52) = false ∧ (x == 53) = false ∧ (x == 54) = false ∧ (x == 55) = false ∧ (x == 56) = false ∧ (x == 57) = false := by
                  have h45 : x ≠ 45 := fun e => hnum (.inl e)
                  have hdg : ¬ (48 ≤ x ∧ x ≤ 57) := fun e => hnum (.inr (dg_iff.2 e))
                  simp only [beq_eq_false_iff_ne, ne_eq]
                  omega
                obtain ⟨n0, n1, n2, n3, n4, n5, n6, n7, n8, n9, n10⟩ := en
                have HV2 : Aside0 (vF m (xs.drop m) = (if pre wnull (x :: xs.drop (k + 1)) then some 4 else if pre wfalse (x :: xs.drop (k + 1)) then some 5 else if pre wtrue (x :: xs.drop (k + 1)) then some 4 else none).map (k - m + ·)) := ⟨by
                  rw [HV.out]; simp only [one]; rw [if_neg h123, if_neg h91, if_neg h34, if_neg hnum]
                  split
                  · rfl
                  · split
                    · rfl
                    · split <;> rfl⟩
                clear hnum h123 h91 h34 HV HX0 HD
                by_cases h116 : x = 116
                · subst h116
                  have C := HT.out (k + 1) hlt
                  rw [show ((k + 1 : Nat) : Int) = (k : Int) + 1 by omega] at C
                  have C := Aside0.mk C
                  have HE : Aside0 (vF m (xs.drop m) = (w3F 114 117 101 (xs.drop (k + 1))).map (k - m + 1 + ·)) := ⟨by
                    rw [HV2.out]; unfold wnull wfalse wtrue w3F; rw [pre_cons, pre_cons, pre_cons]
                    simp only [show ((116 : Int) == 110) = false from rfl, show ((116 : Int) == 102) = false from rfl, show ((116 : Int) == 116) = true from rfl, Bool.false_and, Bool.true_and, Bool.false_eq_true, if_false]
                    split <;> rfl⟩
                  clear HV2
                  go_wp2_with (go_at_call 89; refine C.out.mono ?_; rintro e w1 ⟨p, bb, rfl, rfl, hA⟩)
                  go_ret2
                  refine ⟨p, bb, rfl, rfl, ⟨ga_shift hA.out HE.out (by omega)⟩⟩
                · have e116 : (x == 116) = false := by simpa using h116
                  by_cases h102 : x = 102
                  · subst h102
                    have C := HF.out (k + 1) hlt
                    rw [show ((k + 1 : Nat) : Int) = (k : Int) + 1 by omega] at C
                    have C := Aside0.mk C
                    have HE : Aside0 (vF m (xs.drop m) = (w4F 97 108 115 101 (xs.drop (k + 1))).map (k - m + 1 + ·)) := ⟨by
                      rw [HV2.out]; unfold wnull wfalse wtrue w4F; rw [pre_cons, pre_cons, pre_cons]
                      simp only [show ((102 : Int) == 110) = false from rfl, show ((102 : Int) == 116) = false from rfl, show ((102 : Int) == 102) = true from rfl, Bool.false_and, Bool.true_and, Bool.false_eq_true, if_false]
                      split <;> rfl⟩
                    clear HV2
                    go_wp2_with (go_at_call 90; refine C.out.mono ?_; rintro e w1 ⟨p, bb, rfl, rfl, hA⟩)
                    go_ret2
                    refine ⟨p, bb, rfl, rfl, ⟨ga_shift hA.out HE.out (by omega)⟩⟩
                  · have e102 : (x == 102) = false := by simpa using h102
                    by_cases h110 : x = 110
                    · subst h110
                      have C := HU.out (k + 1) hlt
                      rw [show ((k + 1 : Nat) : Int) = (k : Int) + 1 by omega] at C
                      have C := Aside0.mk C
                      have HE : Aside0 (vF m (xs.drop m) = (w3F 117 108 108 (xs.drop (k + 1))).map (k - m + 1 + ·)) := ⟨by
                        rw [HV2.out]; unfold wnull wfalse wtrue w3F; rw [pre_cons, pre_cons, pre_cons]
                        simp only [show ((110 : Int) == 102) = false from rfl, show ((110 : Int) == 116) = false from rfl, show ((110 : Int) == 110) = true from rfl, Bool.false_and, Bool.true_and, Bool.false_eq_true, if_false]
                        split <;> rfl⟩
                      clear HV2
                      go_wp2_with (go_at_call 91; refine C.out.mono ?_; rintro e w1 ⟨p, bb, rfl, rfl, hA⟩)
                      go_ret2
                      refine ⟨p, bb, rfl, rfl, ⟨ga_shift hA.out HE.out (by omega)⟩⟩
                    · have e110 : (x == 110) = false := by simpa using h110
                      have HX : Aside0 (vF m (xs.drop m) = none) := ⟨by
                        rw [HV2.out]; unfold wnull wfalse wtrue; rw [pre_cons, pre_cons, pre_cons, e110, e102, e116]; rfl⟩
                      clear h116 h102 h110 HV2
                      go_wp2
                      go_ret2
                      refine ⟨_, false, rfl, rfl, ⟨?_⟩⟩
                      rw [HX.out]
    · have HX : Aside0 (vF m (xs.drop m) = none) := ⟨by
        have h1 := HK.out
        rw [drop_nil' HL.out hlt] at h1
        have h2 : m + bl (xs.drop m) = n := by simp [bl] at h1; omega
        rw [vF_eq rfl, h2, drop_nil' HL.out (Nat.lt_irrefl _), V_eq]; rfl⟩
      clear HK
      go_wp2
      go_ret2
      refine ⟨_, false, rfl, rfl, ⟨?_⟩⟩
      rw [HX.out]
theorem vany_calls (h o n c : Nat) (xs : List Int) (w : World) (H : RowAt w h o xs) (hl : xs.length = n) (hn : n ≤ 140737488351232) : ∀ (d m : Nat), n - m ≤ d → m ≤ n →
    Calls Tryd.prog 70 #[.slice (some ⟨h, o, none⟩) n c, .int .i64 m] w (GA (vF m (xs.drop m)) m w)
  | 0, m, hd, hm => vany_step h o n c m xs w H hl hn hm (fun k hk hk2 => by omega)
  | d + 1, m, hd, hm => vany_step h o n c m xs w H hl hn hm (fun k hk hk2 => vany_calls h o n c xs w H hl hn d k (by omega) hk2)
end Go.Proofs.YtiecdhkmlpceoaaDoor.G
