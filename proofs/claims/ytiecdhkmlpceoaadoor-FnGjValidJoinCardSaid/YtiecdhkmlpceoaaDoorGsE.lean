/- gjson's valid: objects. -/
import Derived.Test.YtiecdhkmlpceoaaDoorGsD
namespace Go.Proofs.YtiecdhkmlpceoaaDoor.G
set_option linter.unusedVariables false
set_option linter.unusedSimpArgs false
open Go.RowKit Go.Proofs.YtiecdhkmlpceoaaDoorW.PrintWords

theorem colF_eq {xs : List Int} {f e : Nat} (he : e = f + bl (xs.drop f)) : colF (xs.drop f) = if tk 58 (xs.drop e) then some (e - f + 1) else none := by
  unfold colF
  rw [List.drop_drop, ← he]
  split
  · congr 1; omega
  · rfl
theorem M_nil (a : Nat) : M a [] = none := rfl
theorem scope_jumps1 {P : Program} {l : Nat} {body : Code} {Q : Exit → Act → World → Prop} {a : Act} {w : World} (J : Act → World → Prop) (μ : Act → World → Nat) (hf : findLabel ((Code.label l).seq body) l = some (Code.skip.seq body)) (h0 : J a w)
    (hb : ∀ a w, J a w → body.wp P (Exit.jump l (fun a' w' => J a' w' ∧ μ a' w' < μ a w) Q) a w) : (Code.scope ((Code.label l).seq body)).wp P Q a w :=
  wp_scope_jumps l J μ hf (wp_seq (wp_label (Code.wp_mono (fun e a' w' h => by
    cases e with
    | goto l' => exact ⟨h.1, h.2.1⟩
    | _ => exact h) (hb a w h0)))) (fun a w h => wp_seq (wp_skip (hb a w h)))
theorem lit94 (f : Nat → Value) : ((List.range 94).map f).toArray = #[f 0, f 1, f 2, f 3, f 4, f 5, f 6, f 7, f 8, f 9, f 10, f 11, f 12, f 13, f 14, f 15, f 16, f 17, f 18, f 19, f 20, f 21, f 22, f 23, f 24, f 25, f 26, f 27, f 28, f 29, f 30, f 31, f 32, f 33, f 34, f 35, f 36, f 37, f 38, f 39, f 40, f 41, f 42, f 43, f 44, f 45, f 46, f 47, f 48, f 49, f 50, f 51, f 52, f 53, f 54, f 55, f 56, f 57, f 58, f 59, f 60, f 61, f 62, f 63, f 64, f 65, f 66, f 67, f 68, f 69, f 70, f 71, f 72, f 73, f 74, f 75, f 76, f 77, f 78, f 79, f 80, f 81, f 82, f 83, f 84, f 85, f 86, f 87, f 88, f 89, f 90, f 91, f 92, f 93] := rfl
theorem conv94 {a : Act} {v0 v1 : Value} (hd : a.defers = []) (hs : a.tmps.size = 94) (h0 : a.tmps.getD 0 undef = v0) (h1 : a.tmps.getD 1 undef = v1) : ∃ f : Nat → Value, a = { tmps := #[v0, v1, f 2, f 3, f 4, f 5, f 6, f 7, f 8, f 9, f 10, f 11, f 12, f 13, f 14, f 15, f 16, f 17, f 18, f 19, f 20, f 21, f 22, f 23, f 24, f 25, f 26, f 27, f 28, f 29, f 30, f 31, f 32, f 33, f 34, f 35, f 36, f 37, f 38, f 39, f 40, f 41, f 42, f 43, f 44, f 45, f 46, f 47, f 48, f 49, f 50, f 51, f 52, f 53, f 54, f 55, f 56, f 57, f 58, f 59, f 60, f 61, f 62, f 63, f 64, f 65, f 66, f 67, f 68, f 69, f 70, f 71, f 72, f 73, f 74, f 75, f 76, f 77, f 78, f 79, f 80, f 81, f 82, f 83, f 84, f 85, f 86, f 87, f 88, f 89, f 90, f 91, f 92, f 93], defers := [] } := by
  obtain ⟨tmps, defers⟩ := a
  simp only at hd hs h0 h1
  refine ⟨fun i => tmps.getD i undef, ?_⟩
  have h := lit94 (fun i => tmps.getD i undef)
  simp only [h0, h1] at h
  rw [← h, hd]
  congr 1
  apply Array.ext
  · simp [hs]
  · intro i hi hi2
    simp [hi]
theorem jump_ret {l : Nat} {J : Act → World → Prop} {Q : Exit → Act → World → Prop} {a : Act} {w : World} (h : Q .ret a w) : Exit.jump l J Q .ret a w := h
set_option maxHeartbeats 16000000 in
set_option maxRecDepth 100000 in
theorem vobject_calls (h o n c m : Nat) (xs : List Int) (w : World) (H : RowAt w h o xs) (hl : xs.length = n) (hn : n ≤ 140737488351232) (hm : m ≤ n)
    (VH : ∀ k, m ≤ k → k ≤ n → Calls Tryd.prog 70 #[.slice (some ⟨h, o, none⟩) n c, .int .i64 k] w (GA (vF k (xs.drop k)) k w)) :
    Calls Tryd.prog 85 #[.slice (some ⟨h, o, none⟩) n c, .int .i64 m] w (GA (oF m (xs.drop m)) m w) := by
  have HH := Aside0.mk (fun k (hk : k < n) => H.2 k (by rw [hl]; exact hk))
  have HC := Aside0.mk (fun k (hk : k ≤ n) => comma_calls h o n c k 125 (.inr rfl) xs w H hl hn hk)
  have HO := Aside0.mk (fun k (hk : k ≤ n) => colon_calls h o n c k xs w H hl hn hk)
  have HS := Aside0.mk (fun k (hk : k ≤ n) => vstring_calls h o n c k xs w H hl hn hk)
  have HL := Aside0.mk hl
  have VH := Aside0.mk VH
  clear H hl
  obtain ⟨q, hq⟩ : ∃ q, q = m + bl (xs.drop m) := ⟨_, rfl⟩
  have hlf := xobj_V m (xs.drop m)
  rw [List.drop_drop, ← hq] at hlf
  have hmq : m ≤ q := by omega
  have HLF := Aside0.mk hlf
  have HQ := Aside0.mk hq
  have hqn : q ≤ n := by have := bl_le (xs.drop m); rw [List.length_drop, HL.out] at this; omega
  clear hlf hq
  go_enter Tryd.func85, Tryd.ntmps85
  go_wp2_with fail
  go_loop [1] (fun i => ∃ k : Nat, i = .int .i64 k ∧ m ≤ k ∧ k ≤ n ∧ Aside0 (k + bl (xs.drop k) = q)) (fun i => n - (intOf i).toNat)
  case atStart => exact ⟨m, rfl, Nat.le_refl _, hm, ⟨HQ.out.symm⟩⟩
  case round =>
    obtain ⟨k, rfl, hmk, hk, HK⟩ := hrel
    by_cases hlt : k < n
    · obtain ⟨x, hx⟩ : ∃ x, x = xs.getD k 0 := ⟨_, rfl⟩
      have hc : w.cell? ⟨h, o + k, none⟩ = some (.int .u8 x) := by rw [hx]; exact HH.out k hlt
      have hd := drop_at HL.out hlt
      rw [← hx] at hd
      have HD := Aside0.mk hd
      clear hx hd
      cases hb : isBl x with
      | true =>
        have HB := Aside0.mk hb
        rcases isBl_or' hb with rfl | rfl | rfl | rfl
        all_goals
          clear hb
          go_wp2
          go_round
          case rel => exact ⟨k + 1, by go_num, by omega, by omega, ⟨by have := HK.out; rw [HD.out, bl_one HB.out] at this; omega⟩⟩
          case measure => simp [intOf]; omega
      | false =>
        obtain ⟨b1, b2, b3, b4⟩ := isBl_not hb
        have hq : k = q := by have := HK.out; rw [HD.out, bl_zero hb] at this; omega
        have HB := Aside0.mk hb
        subst hq
        clear hb HK
        by_cases h93 : x = 125
        · subst h93
          have HF : Aside0 (oF m (xs.drop m) = some (k - m + 1)) := ⟨by unfold oF; rw [HLF.out, HD.out, tk]; simp; have := HQ.out; omega⟩
          go_wp2
          go_ret2
          refine ⟨_, true, rfl, rfl, ⟨?_⟩⟩
          rw [HF.out]
          exact ⟨rfl, by omega⟩
        · have b5 : (x == 125) = false := by simpa using h93
          have HF : Aside0 (oF m (xs.drop m) = (M k (xs.drop k)).map (k - m + ·.2.2)) := ⟨by
            unfold oF
            rw [HLF.out]
            have : tk 125 (xs.drop k) = false := by rw [HD.out, tk, b5]
            rw [this]
            simp only [Bool.false_eq_true, if_false, Option.map_map]
            have := HQ.out
            congr 1
            funext z
            simp only [Function.comp]
            omega⟩
          clear h93 HB
          by_cases h34 : x = 34
          · subst h34
            obtain ⟨K0, hK0⟩ : ∃ K0, K0 = k := ⟨_, rfl⟩
            have HX34 : Aside0 (xs.getD k 0 = 34) := ⟨by have := HD.out; rw [drop_at HL.out hlt] at this; exact (List.cons.inj this).1⟩
            clear HD
            go_wp2_with fail
            refine scope_jumps1 (fun a' w' => w' = w ∧ a'.defers = [] ∧ a'.tmps.size = 94 ∧ a'.tmps.getD 0 undef = .slice (some ⟨h, o, none⟩) n c ∧ ∃ k : Nat, a'.tmps.getD 1 undef = .int .i64 k ∧ k < n ∧ K0 ≤ k ∧ Aside0 (xs.getD k 0 = 34) ∧ Aside0 ((M K0 (xs.drop K0)).map (·.2.2) = (M k (xs.drop k)).map (k - K0 + ·.2.2))) (fun a' _ => n - (intOf (a'.tmps.getD 1 undef)).toNat) rfl ⟨rfl, rfl, rfl, rfl, k, rfl, hlt, Nat.le_of_eq hK0, HX34, ⟨by rw [hK0]; simp⟩⟩ ?_
            have HF0 : Aside0 (oF m (xs.drop m) = (M K0 (xs.drop K0)).map (K0 - m + ·.2.2)) := ⟨by rw [hK0]; exact HF.out⟩
            have hmK : m ≤ K0 := by rw [hK0]; exact hmk
            clear HF HX34 hc b1 b2 b3 b4 b5 hK0 hlt hmq hqn HLF HQ hmk hk

            rintro a' w' ⟨hw, e1, e2, e3, k, e4, hkl, hKk, H34, HM⟩
            have hw2 := hw.symm
            subst hw2
            clear hw
            obtain ⟨f, rfl⟩ := conv94 e1 e2 e3 e4
            clear e1 e2 e3 e4
            have FAIL : Aside0 (M k (xs.drop k) = none → oF m (xs.drop m) = none) := ⟨fun he => by
              have h1 := HM.out
              rw [he] at h1
              rw [HF0.out]
              cases hE : M K0 (xs.drop K0) with
              | none => rfl
              | some r => rw [hE] at h1; cases h1⟩
            have DONE : Aside0 (∀ r, M k (xs.drop k) = some r → oF m (xs.drop m) = some (k - m + r.2.2)) := ⟨fun r he => by
              have h1 := HM.out
              rw [he] at h1
              rw [HF0.out]
              cases hE : M K0 (xs.drop K0) with
              | none => rw [hE] at h1; cases h1
              | some r2 =>
                rw [hE] at h1
                simp only [Option.map_some, Option.some.injEq] at h1 ⊢
                omega⟩
            have h34 : tk 34 (xs.drop k) = true := by rw [tk_at HL.out hkl, H34.out]; rfl
            have CS := HS.out (k + 1) hkl
            rw [show ((k + 1 : Nat) : Int) = (k : Int) + 1 by omega] at CS
            have CS := Aside0.mk CS
            cases hqu : quo (xs.drop (k + 1)) with
            | none =>
              have HX := Aside0.mk (FAIL.out (xM_none1 (xnam_no2 h34 hqu)))
              rw [hqu] at CS
              clear hqu h34
              go_wp2_with (go_at_call 87; refine CS.out.mono ?_; rintro e w1 ⟨p, bb, rfl, rfl, hA⟩; have hb : bb = false := hA.out; clear hA; subst hb)
              refine jump_ret ?_
              go_ret2
              refine ⟨_, false, rfl, rfl, ⟨?_⟩⟩
              rw [HX.out]
            | some ql =>
              have hql := quo_le _ _ (Nat.le_refl _) hqu
              rw [List.length_drop, HL.out] at hql
              obtain ⟨f1, hf⟩ : ∃ f, f = k + (1 + ql) := ⟨_, rfl⟩
              obtain ⟨c1, hc1⟩ : ∃ c1, c1 = f1 + bl (xs.drop f1) := ⟨_, rfl⟩
              have hfn : f1 ≤ n := by omega
              have hcn : c1 ≤ n := by have := bl_le (xs.drop f1); rw [List.length_drop, HL.out] at this; omega
              rw [hqu] at CS
              have CO := Aside0.mk (HO.out f1 hfn)
              rw [colF_eq hc1] at CO
              have HPF : Aside0 (((k + 1 + ql : Nat) : Int) = (f1 : Int)) := ⟨by omega⟩
              cases h58 : tk 58 (xs.drop c1) with
              | false =>
                have HX := Aside0.mk (FAIL.out (xM_none1 (xnam_no3 h34 hqu hf hc1 h58)))
                rw [h58] at CO
                clear hqu h34 h58 hql hf hc1
                go_wp2_with (first
                  | (go_at_call 103; refine CO.out.mono ?_; rintro e w1 ⟨p1, bb, rfl, rfl, hA⟩; have hb : bb = false := hA.out; clear hA; subst hb)
                  | (go_at_call 87; refine CS.out.mono ?_; rintro e w1 ⟨p0, bb, rfl, rfl, hA⟩; obtain ⟨rfl, hpe⟩ := hA.out; obtain rfl : p0 = (f1 : Int) := (by have h1 : p0 = ((k + 1 + ql : Nat) : Int) := hpe; rw [h1, HPF.out]); clear hA hpe))
                refine jump_ret ?_
                go_ret2
                refine ⟨_, false, rfl, rfl, ⟨?_⟩⟩
                rw [HX.out]
              | true =>
                have hcl : c1 < n := by have := tk_len h58; rw [List.length_drop, HL.out] at this; omega
                obtain ⟨d, hd⟩ : ∃ d, d = c1 + 1 + bl (xs.drop (c1 + 1)) := ⟨_, rfl⟩
                have hdn : d ≤ n := by have := bl_le (xs.drop (c1 + 1)); rw [List.length_drop, HL.out] at this; omega
                have hnm := xnam_yes h34 hqu hf hc1 h58 hd
                have hkd : k ≤ d := by omega
                rw [h58] at CO
                have CV := VH.out (c1 + 1) (by omega) hcl
                rw [vF_eq hd, show ((c1 + 1 : Nat) : Int) = (c1 : Int) + 1 by omega] at CV
                have CV := Aside0.mk CV
                have HPC : Aside0 (((f1 + (c1 - f1 + 1) : Nat) : Int) = (c1 : Int) + 1) := ⟨by omega⟩
                cases hv : V d (xs.drop d) with
                | none =>
                  have HX := Aside0.mk (FAIL.out (xM_none2 hnm hkd hv))
                  rw [hv] at CV
                  clear hqu h34 h58 hql hf hc1 hd hnm hv
                  go_wp2_with (first
                    | (go_at_call 70; refine CV.out.mono ?_; rintro e w1 ⟨p2, bb, rfl, rfl, hA⟩; have hb : bb = false := hA.out; clear hA; subst hb)
                    | (go_at_call 103; refine CO.out.mono ?_; rintro e w1 ⟨p1, bb, rfl, rfl, hA⟩; obtain ⟨rfl, hpe⟩ := hA.out; obtain rfl : p1 = (c1 : Int) + 1 := (by have h1 : p1 = ((f1 + (c1 - f1 + 1) : Nat) : Int) := hpe; rw [h1, HPC.out]); clear hA hpe)
                    | (go_at_call 87; refine CS.out.mono ?_; rintro e w1 ⟨p0, bb, rfl, rfl, hA⟩; obtain ⟨rfl, hpe⟩ := hA.out; obtain rfl : p0 = (f1 : Int) := (by have h1 : p0 = ((k + 1 + ql : Nat) : Int) := hpe; rw [h1, HPF.out]); clear hA hpe))
                  refine jump_ret ?_
                  go_ret2
                  refine ⟨_, false, rfl, rfl, ⟨?_⟩⟩
                  rw [HX.out]
                | some tj =>
                  obtain ⟨t, j⟩ := tj
                  rw [hv] at CV
                  have hj := V_le hv
                  rw [List.length_drop, HL.out] at hj
                  obtain ⟨p, hp⟩ : ∃ p, p = d + j := ⟨_, rfl⟩
                  obtain ⟨r, hr⟩ : ∃ r, r = p + bl (xs.drop p) := ⟨_, rfl⟩
                  have hpn : p ≤ n := by omega
                  have hrn : r ≤ n := by have := bl_le (xs.drop p); rw [List.length_drop, HL.out] at this; omega
                  have CC := Aside0.mk (HC.out p hpn)
                  rw [comF_eq 125 hr] at CC
                  have HP : Aside0 (((c1 + 1 + (d - (c1 + 1) + j) : Nat) : Int) = (p : Int)) := ⟨by omega⟩
                  have HPR : Aside0 (((p + (r - p) : Nat) : Int) = (r : Int)) := ⟨by omega⟩
                  by_cases h44 : tk 44 (xs.drop r) = true
                  · have h93 : tk 125 (xs.drop r) = false := by
                      have hrl := tk_len h44
                      rw [List.length_drop, HL.out] at hrl
                      rw [tk_at HL.out (by omega)] at h44 ⊢
                      have : xs.getD r 0 = 44 := by simpa using h44
                      rw [this]; rfl
                    have hrl : r < n := by have hrl := tk_len h44; rw [List.length_drop, HL.out] at hrl; omega
                    have hcr : w.cell? ⟨h, o + r, none⟩ = some (.int .u8 44) := by
                      have : xs.getD r 0 = 44 := by rw [tk_at HL.out hrl] at h44; simpa using h44
                      rw [← this]; exact HH.out r hrl
                    obtain ⟨s2, hs2⟩ : ∃ s2, s2 = r + 1 + bl (xs.drop (r + 1)) := ⟨_, rfl⟩
                    have hs2n : s2 ≤ n := by have := bl_le (xs.drop (r + 1)); rw [List.length_drop, HL.out] at this; omega
                    have hmore := xM_more hnm hkd hv hp hr h93 h44 hs2
                    have HE2 : Aside0 ((M K0 (xs.drop K0)).map (·.2.2) = (M s2 (xs.drop s2)).map (s2 - K0 + ·.2.2)) := ⟨by
                      rw [HM.out, hmore, Option.map_map]
                      congr 1
                      funext x
                      simp only [Function.comp]
                      omega⟩
                    have FAIL2 : Aside0 (M s2 (xs.drop s2) = none → oF m (xs.drop m) = none) := ⟨fun he => FAIL.out (by rw [hmore, he]; rfl)⟩
                    have HS2 := Aside0.mk hs2
                    have hks2 : k < s2 := by omega
                    have hkr : k ≤ r := by omega
                    rw [h44] at CC
                    clear hqu h34 h58 hql hf hc1 hd hnm hv hp hr hj h44 h93 hs2 hmore FAIL DONE HM H34
                    go_wp2_with (first
                      | (go_at_call 104; refine CC.out.mono ?_; rintro e w1 ⟨p3, bb, rfl, rfl, hA⟩; obtain ⟨rfl, hpe⟩ := hA.out; obtain rfl : p3 = (r : Int) := (by have h1 : p3 = ((p + (r - p) : Nat) : Int) := hpe; rw [h1, HPR.out]); clear hA hpe)
                      | (go_at_call 70; refine CV.out.mono ?_; rintro e w1 ⟨p2, bb, rfl, rfl, hA⟩; obtain ⟨rfl, hpe⟩ := hA.out; obtain rfl : p2 = (p : Int) := (by have h1 : p2 = ((c1 + 1 + (d - (c1 + 1) + j) : Nat) : Int) := hpe; rw [h1, HP.out]); clear hA hpe)
                      | (go_at_call 103; refine CO.out.mono ?_; rintro e w1 ⟨p1, bb, rfl, rfl, hA⟩; obtain ⟨rfl, hpe⟩ := hA.out; obtain rfl : p1 = (c1 : Int) + 1 := (by have h1 : p1 = ((f1 + (c1 - f1 + 1) : Nat) : Int) := hpe; rw [h1, HPC.out]); clear hA hpe)
                      | (go_at_call 87; refine CS.out.mono ?_; rintro e w1 ⟨p0, bb, rfl, rfl, hA⟩; obtain ⟨rfl, hpe⟩ := hA.out; obtain rfl : p0 = (f1 : Int) := (by have h1 : p0 = ((k + 1 + ql : Nat) : Int) := hpe; rw [h1, HPF.out]); clear hA hpe))
                    go_loop [1] (fun i => ∃ z : Nat, i = .int .i64 z ∧ r + 1 ≤ z ∧ z ≤ n ∧ Aside0 (z + bl (xs.drop z) = s2)) (fun i => n - (intOf i).toNat)
                    case atStart => exact ⟨r + 1, by go_num, Nat.le_refl _, hrl, ⟨HS2.out.symm⟩⟩
                    case round =>
                      clear hcr
                      obtain ⟨z, rfl, hrz, hzn, HZ⟩ := hrel
                      by_cases hzl : z < n
                      · obtain ⟨x, hx⟩ : ∃ x, x = xs.getD z 0 := ⟨_, rfl⟩
                        have hcx := HH.out z hzl
                        rw [← hx] at hcx
                        have hd := drop_at HL.out hzl
                        rw [← hx] at hd
                        have HD := Aside0.mk hd
                        have HX0 := Aside0.mk hx
                        clear hx hd
                        cases hb : isBl x with
                        | true =>
                          have HB := Aside0.mk hb
                          rcases isBl_or' hb with rfl | rfl | rfl | rfl
                          all_goals
                            clear hb
                            go_wp2
                            go_round
                            case rel => exact ⟨z + 1, by go_num, by omega, by omega, ⟨by have := HZ.out; rw [HD.out, bl_one HB.out] at this; omega⟩⟩
                            case measure => simp [intOf]; omega
                        | false =>
                          obtain ⟨b1, b2, b3, b4⟩ := isBl_not hb
                          have hzs : z = s2 := by have := HZ.out; rw [HD.out, bl_zero hb] at this; omega
                          subst hzs
                          clear hb
                          by_cases h34 : x = 34
                          · subst h34
                            have HJ34 : Aside0 (xs.getD z 0 = 34) := ⟨HX0.out.symm⟩
                            clear HD HX0
                            go_wp2
                            go_step3
                            simp only [Exit.inBlock, Exit.then]
                            refine ⟨rfl, ⟨rfl, rfl, rfl, rfl, z, rfl, hzl, by omega, HJ34, HE2⟩, ?_⟩
                            show n - ((z : Int)).toNat < n - ((k : Int)).toNat
                            omega
                          · have b6 : (x == 34) = false := by simpa using h34
                            have HX : Aside0 (oF m (xs.drop m) = none) := ⟨FAIL2.out (xM_none1 (xnam_no1 (by rw [HD.out, tk, b6])))⟩
                            clear h34 HD HX0
                            go_wp2
                            refine jump_ret ?_
                            go_ret2
                            refine ⟨_, false, rfl, rfl, ⟨?_⟩⟩
                            rw [HX.out]
                      · have HX : Aside0 (oF m (xs.drop m) = none) := ⟨FAIL2.out (by
                          have h1 := HZ.out
                          rw [drop_nil' HL.out hzl] at h1
                          have h2 : s2 = n := by simp [bl] at h1; omega
                          rw [h2, drop_nil' HL.out (Nat.lt_irrefl _)]; exact M_nil _)⟩
                        go_wp2
                        refine jump_ret ?_
                        go_ret2
                        refine ⟨_, false, rfl, rfl, ⟨?_⟩⟩
                        rw [HX.out]
                  · have h44' : tk 44 (xs.drop r) = false := by simpa using h44
                    cases h93 : tk 125 (xs.drop r) with
                    | true =>
                      have hrl : r < n := by have hrl := tk_len h93; rw [List.length_drop, HL.out] at hrl; omega
                      have hcr : w.cell? ⟨h, o + r, none⟩ = some (.int .u8 125) := by
                        have : xs.getD r 0 = 125 := by rw [tk_at HL.out hrl] at h93; simpa using h93
                        rw [← this]; exact HH.out r hrl
                      have HX := Aside0.mk (DONE.out _ (xM_last hnm hkd hv hp hr h93))
                      rw [h44', h93] at CC
                      have hsr : k ≤ r := by omega
                      have hmk : m ≤ k := by omega
                      clear hqu h34 h58 hql hf hc1 hd hnm hv hp hr hj h44 h44' h93
                      go_wp2_with (first
                        | (go_at_call 104; refine CC.out.mono ?_; rintro e w1 ⟨p3, bb, rfl, rfl, hA⟩; obtain ⟨rfl, hpe⟩ := hA.out; obtain rfl : p3 = (r : Int) := (by have h1 : p3 = ((p + (r - p) : Nat) : Int) := hpe; rw [h1, HPR.out]); clear hA hpe)
                        | (go_at_call 70; refine CV.out.mono ?_; rintro e w1 ⟨p2, bb, rfl, rfl, hA⟩; obtain ⟨rfl, hpe⟩ := hA.out; obtain rfl : p2 = (p : Int) := (by have h1 : p2 = ((c1 + 1 + (d - (c1 + 1) + j) : Nat) : Int) := hpe; rw [h1, HP.out]); clear hA hpe)
                        | (go_at_call 103; refine CO.out.mono ?_; rintro e w1 ⟨p1, bb, rfl, rfl, hA⟩; obtain ⟨rfl, hpe⟩ := hA.out; obtain rfl : p1 = (c1 : Int) + 1 := (by have h1 : p1 = ((f1 + (c1 - f1 + 1) : Nat) : Int) := hpe; rw [h1, HPC.out]); clear hA hpe)
                        | (go_at_call 87; refine CS.out.mono ?_; rintro e w1 ⟨p0, bb, rfl, rfl, hA⟩; obtain ⟨rfl, hpe⟩ := hA.out; obtain rfl : p0 = (f1 : Int) := (by have h1 : p0 = ((k + 1 + ql : Nat) : Int) := hpe; rw [h1, HPF.out]); clear hA hpe))
                      refine jump_ret ?_
                      go_ret2
                      refine ⟨_, true, rfl, rfl, ⟨?_⟩⟩
                      rw [HX.out]
                      exact ⟨rfl, by show (r : Int) + 1 = ((m + (k - m + (r + 1 - k)) : Nat) : Int); omega⟩
                    | false =>
                      have HX := Aside0.mk (FAIL.out (xM_bad hnm hkd hv hp hr h93 h44'))
                      rw [h44', h93] at CC
                      clear hqu h34 h58 hql hf hc1 hd hnm hv hp hr hj h44 h44' h93
                      go_wp2_with (first
                        | (go_at_call 104; refine CC.out.mono ?_; rintro e w1 ⟨p3, bb, rfl, rfl, hA⟩; have hb : bb = false := hA.out; clear hA; subst hb)
                        | (go_at_call 70; refine CV.out.mono ?_; rintro e w1 ⟨p2, bb, rfl, rfl, hA⟩; obtain ⟨rfl, hpe⟩ := hA.out; obtain rfl : p2 = (p : Int) := (by have h1 : p2 = ((c1 + 1 + (d - (c1 + 1) + j) : Nat) : Int) := hpe; rw [h1, HP.out]); clear hA hpe)
                        | (go_at_call 103; refine CO.out.mono ?_; rintro e w1 ⟨p1, bb, rfl, rfl, hA⟩; obtain ⟨rfl, hpe⟩ := hA.out; obtain rfl : p1 = (c1 : Int) + 1 := (by have h1 : p1 = ((f1 + (c1 - f1 + 1) : Nat) : Int) := hpe; rw [h1, HPC.out]); clear hA hpe)
                        | (go_at_call 87; refine CS.out.mono ?_; rintro e w1 ⟨p0, bb, rfl, rfl, hA⟩; obtain ⟨rfl, hpe⟩ := hA.out; obtain rfl : p0 = (f1 : Int) := (by have h1 : p0 = ((k + 1 + ql : Nat) : Int) := hpe; rw [h1, HPF.out]); clear hA hpe))
                      refine jump_ret ?_
                      go_ret2
                      refine ⟨_, false, rfl, rfl, ⟨?_⟩⟩
                      rw [HX.out]
          · have b6 : (x == 34) = false := by simpa using h34
            have HX : Aside0 (oF m (xs.drop m) = none) := ⟨by rw [HF.out, xM_none1 (xnam_no1 (by rw [HD.out, tk, b6]))]; rfl⟩
            clear h34 HD
            go_wp2
            go_ret2
            refine ⟨_, false, rfl, rfl, ⟨?_⟩⟩
            rw [HX.out]
    · have HF : Aside0 (oF m (xs.drop m) = none) := ⟨by
        have h1 := HK.out
        rw [drop_nil' HL.out hlt] at h1
        have h2 : q = n := by simp [bl] at h1; omega
        unfold oF
        rw [HLF.out, h2, drop_nil' HL.out (by omega)]
        rfl⟩
      clear HK
      go_wp2
      go_ret2
      refine ⟨_, false, rfl, rfl, ⟨?_⟩⟩
      rw [HF.out]
end Go.Proofs.YtiecdhkmlpceoaaDoor.G
