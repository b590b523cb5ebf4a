/- gjson's valid: strings. -/
import Derived.Test.YtiecdhkmlpceoaaDoorGsA
namespace Go.Proofs.YtiecdhkmlpceoaaDoor.G
set_option linter.unusedVariables false
set_option linter.unusedSimpArgs false
open Go.RowKit Go.Proofs.YtiecdhkmlpceoaaDoorW.PrintWords

theorem quo_cons2 (c : Int) (l : List Int) : quo (c :: l) = if c = 34 then some 1 else if c < 32 then none else if c = 92 then (match esc l with | none => none | some k => (quo (l.drop k)).map (· + (k + 1))) else (quo l).map (· + 1) := by rw [quo]; cases esc l <;> rfl
theorem hx4_iff2 (l : List Int) : hx4 l = true ↔ ∀ j, j < 4 → isHx (l.getD j 0) = true := by
  match l with
  | [] => exact ⟨fun h => by simp [hx4] at h, fun h => by have h2 : isHx 0 = true := h 0 (by omega); cases h2⟩
  | [a] => exact ⟨fun h => by simp [hx4] at h, fun h => by have h2 : isHx 0 = true := h 1 (by omega); cases h2⟩
  | [a, b] => exact ⟨fun h => by simp [hx4] at h, fun h => by have h2 : isHx 0 = true := h 2 (by omega); cases h2⟩
  | [a, b, c] => exact ⟨fun h => by simp [hx4] at h, fun h => by have h2 : isHx 0 = true := h 3 (by omega); cases h2⟩
  | a :: b :: c :: d :: l =>
    simp only [hx4, List.length_cons, List.take_succ_cons, List.take_zero, List.all_cons, List.all_nil, Bool.and_true, Bool.and_eq_true, decide_eq_true_eq]
    constructor
    · rintro ⟨-, h0, h1, h2, h3⟩ j hj
      have : j = 0 ∨ j = 1 ∨ j = 2 ∨ j = 3 := by omega
      rcases this with rfl | rfl | rfl | rfl
      · exact h0
      · exact h1
      · exact h2
      · exact h3
    · intro h
      exact ⟨by omega, h 0 (by omega), h 1 (by omega), h 2 (by omega), h 3 (by omega)⟩
theorem map_add {o : Option Nat} {a b c : Nat} {p : Option Nat} (h1 : p = o.map (a + ·)) {q : Option Nat} (h2 : o = q.map (· + b)) (hc : c = a + b) : p = q.map (c + ·) := by
  rw [h1, h2, Option.map_map]
  congr 1
  funext z
  simp only [Function.comp]
  omega
set_option maxHeartbeats 4000000 in
set_option maxRecDepth 100000 in
theorem vstring_calls (h o n c m : Nat) (xs : List Int) (w : World) (H : RowAt w h o xs) (hl : xs.length = n) (hn : n ≤ 140737488351232) (hm : m ≤ n) :
    Calls Tryd.prog 87 #[.slice (some ⟨h, o, none⟩) n c, .int .i64 m] w (GA (quo (xs.drop m)) m w) := by
  have HH := Aside0.mk H
  have HL := Aside0.mk hl
  have HI := Aside0.mk (fun y W => ishex_calls y W)
  clear H hl
  go_enter Tryd.func87, Tryd.ntmps87
  go_wp2_with fail
  go_loop [1] (fun i => ∃ k : Nat, i = .int .i64 k ∧ m ≤ k ∧ k ≤ n ∧ Aside0 (quo (xs.drop m) = (quo (xs.drop k)).map (k - m + ·))) (fun i => n - (intOf i).toNat)
  case atStart => exact ⟨m, rfl, Nat.le_refl _, hm, ⟨by simp⟩⟩
  case round =>
    obtain ⟨k, rfl, hmk, hk, HK⟩ := hrel
    by_cases hlt : k < n
    · obtain ⟨x, hx⟩ : ∃ x, x = xs.getD k 0 := ⟨_, rfl⟩
      have hc : w.cell? ⟨h, o + k, none⟩ = some (.int .u8 x) := by rw [hx]; exact HH.out.2 k (by rw [HL.out]; exact hlt)
      have hd := drop_at HL.out hlt
      rw [← hx] at hd
      have hQ := HK.out
      have hq1 := congrArg quo hd
      rw [quo_cons2] at hq1
      clear hx
      by_cases h34 : x = 34
      · subst h34
        rw [if_pos rfl] at hq1
        rw [hq1] at hQ
        have HQ := Aside0.mk hQ
        clear hQ hq1 hd
        go_wp2
        go_ret2
        refine ⟨_, true, rfl, rfl, ⟨?_⟩⟩
        rw [HQ.out]
        exact ⟨rfl, by simp; omega⟩
      · have b34 : (x == 34) = false := by simpa using h34
        rw [if_neg h34] at hq1
        by_cases h32 : x < 32
        · rw [if_pos h32] at hq1
          rw [hq1] at hQ
          have HQ := Aside0.mk hQ
          clear hQ hq1 hd h34
          go_wp2
          go_ret2
          refine ⟨_, false, rfl, rfl, ⟨?_⟩⟩
          rw [HQ.out]
          rfl
        · rw [if_neg h32] at hq1
          by_cases h92 : x = 92
          · subst h92
            rw [if_pos rfl] at hq1
            clear h34 b34 h32 hd
            by_cases hend : k + 1 < n
            · have hde := drop_at HL.out hend
              obtain ⟨y, hy⟩ : ∃ y, y = xs.getD (k + 1) 0 := ⟨_, rfl⟩
              have hcy : w.cell? ⟨h, o + (k + 1), none⟩ = some (.int .u8 y) := by rw [hy]; exact HH.out.2 (k + 1) (by rw [HL.out]; exact hend)
              rw [← hy] at hde
              rw [hde, esc] at hq1
              have hne : ((k : Int) + 1 == (n : Int)) = false := by simp; omega
              have hck : ¬ n = k + 1 := by omega
              clear hy
              by_cases he : isEs y = true
              · rw [if_pos he] at hq1
                simp only [List.drop_succ_cons, List.drop_zero] at hq1
                have hq2 := map_add hQ hq1 (c := k + 2 - m) (by omega)
                have HQ := Aside0.mk hq2
                have hor : y = 34 ∨ y = 92 ∨ y = 47 ∨ y = 98 ∨ y = 102 ∨ y = 110 ∨ y = 114 ∨ y = 116 := by
                  unfold isEs at he
                  simp only [Bool.or_eq_true, beq_iff_eq] at he
                  omega
                clear hQ hq1 hq2 hde he
                rcases hor with rfl | rfl | rfl | rfl | rfl | rfl | rfl | rfl
                all_goals
                  go_wp2
                  go_round
                  case rel => exact ⟨k + 2, by go_num, by omega, by omega, HQ⟩
                  case measure => simp [intOf]; omega
              · rw [if_neg he] at hq1
                have hE : isEs y = false := by simpa using he
                have hb : (y == 34) = false ∧ (y == 92) = false ∧ (y == 47) = false ∧ (y == 98) = false ∧ (y == 102) = false ∧ (y == 110) = false ∧ (y == 114) = false ∧ (y == 116) = false := by
                  unfold isEs at hE
                  simp only [Bool.or_eq_false_iff] at hE
                  simp only [hE, and_self]
                obtain ⟨c1, c2, c3, c4, c5, c6, c7, c8⟩ := hb
                by_cases h117 : y = 117
                · subst h117
                  have HQ := Aside0.mk (And.intro hQ hq1)
                  have HDE := Aside0.mk hde
                  clear hQ hq1 hde he hE c1 c2 c3 c4 c5 c6 c7 c8
                  go_wp2_with fail
                  go_loop [1, 46] (fun i t => ∃ j : Nat, j ≤ 4 ∧ i = .int .i64 ((k + 1 + j : Nat) : Int) ∧ t = .int .i64 j ∧ k + 1 + j < n ∧ Aside0 (∀ u, u < j → isHx (xs.getD (k + 2 + u) 0) = true)) (fun _ t => 4 - (intOf t).toNat)
                  case atStart => exact ⟨0, by omega, by go_num, rfl, by omega, ⟨fun u hu => by omega⟩⟩
                  case round =>
                    obtain ⟨j, hj, rfl, rfl, hjn, HJ⟩ := hrel
                    have hgd : ∀ u, (xs.drop (k + 1 + 1)).getD u 0 = xs.getD (k + 2 + u) 0 := fun u => getD_drop _ _ _
                    by_cases hj4 : j < 4
                    · by_cases hend2 : k + 1 + j + 1 < n
                      · obtain ⟨y, hy⟩ : ∃ y, y = xs.getD (k + 1 + j + 1) 0 := ⟨_, rfl⟩
                        have hcy2 : w.cell? ⟨h, o + (k + 1 + j + 1), none⟩ = some (.int .u8 y) := by rw [hy]; exact HH.out.2 (k + 1 + j + 1) (by rw [HL.out]; exact hend2)
                        have hg : decide ((n : Int) ≤ (k : Int) + 1 + (j : Int) + 1) = false := by simp; omega
                        have hyu : xs.getD (k + 2 + j) 0 = y := by rw [hy]; congr 1; omega
                        cases hh : isHx y with
                        | true =>
                          have CI := Aside0.mk (fun W => HI.out y W)
                          rw [hh] at CI
                          have HJ2 : Aside0 (∀ u, u < j + 1 → isHx (xs.getD (k + 2 + u) 0) = true) := ⟨fun u hu => by
                            by_cases e : u = j
                            · rw [e, hyu, hh]
                            · exact HJ.out u (by omega)⟩
                          clear hy hyu hh hgd
                          go_wp2_with (go_at_call 105; refine (CI.out _).mono ?_; rintro e w1 ⟨rfl, rfl⟩)
                          go_round
                          case rel => exact ⟨j + 1, by omega, by go_num, by go_num, by omega, HJ2⟩
                          case measure => simp [intOf]; omega
                        | false =>
                          have CI := Aside0.mk (fun W => HI.out y W)
                          rw [hh] at CI
                          have hn4 : hx4 (xs.drop (k + 1 + 1)) = false := by
                            cases h4 : hx4 (xs.drop (k + 1 + 1)) with
                            | false => rfl
                            | true => have := (hx4_iff2 _).1 h4 j hj4; rw [hgd, hyu, hh] at this; cases this
                          have hQ2 : quo (xs.drop m) = none := by
                            rw [HQ.out.1, HQ.out.2, hn4]; rfl
                          have HQ2 := Aside0.mk hQ2
                          clear hy hyu hh hgd hn4 hQ2
                          go_wp2_with (go_at_call 105; refine (CI.out _).mono ?_; rintro e w1 ⟨rfl, rfl⟩)
                          go_ret2
                          refine ⟨_, false, rfl, rfl, ⟨?_⟩⟩
                          rw [HQ2.out]
                      · have hg : decide ((n : Int) ≤ (k : Int) + 1 + (j : Int) + 1) = true := by simp; omega
                        have hn4 : hx4 (xs.drop (k + 1 + 1)) = false := by
                          cases h4 : hx4 (xs.drop (k + 1 + 1)) with
                          | false => rfl
                          | true =>
                            unfold hx4 at h4
                            simp only [Bool.and_eq_true, decide_eq_true_eq, List.length_drop] at h4
                            have := HL.out
                            omega
                        have hQ2 : quo (xs.drop m) = none := by
                          rw [HQ.out.1, HQ.out.2, hn4]; rfl
                        have HQ2 := Aside0.mk hQ2
                        clear hgd hn4 hQ2
                        go_wp2
                        go_ret2
                        refine ⟨_, false, rfl, rfl, ⟨?_⟩⟩
                        rw [HQ2.out]
                    · obtain rfl : j = 4 := by omega
                      have hn4 : hx4 (xs.drop (k + 1 + 1)) = true := (hx4_iff2 _).2 (fun u hu => by rw [hgd]; exact HJ.out u hu)
                      have hq6 : quo (xs.drop k) = (quo (xs.drop (k + 6))).map (· + 6) := by
                        rw [HQ.out.2, hn4]
                        simp only [Bool.and_true, beq_self_eq_true, if_true, List.drop_succ_cons, List.drop_drop]
                      have hq7 := map_add HQ.out.1 hq6 (c := k + 6 - m) (by omega)
                      have HQ2 := Aside0.mk hq7
                      clear hgd hn4 hq6 hq7
                      go_wp2
                      go_round
                      case rel => exact ⟨k + 6, by go_num, by omega, by omega, HQ2⟩
                      case measure => simp [intOf]; omega
                · have b117 : (y == 117) = false := by simpa using h117
                  rw [b117] at hq1
                  simp only [Bool.false_and, Bool.false_eq_true, if_false] at hq1
                  rw [hq1] at hQ
                  have HQ := Aside0.mk hQ
                  clear hQ hq1 hde he hE h117
                  go_wp2
                  go_ret2
                  refine ⟨_, false, rfl, rfl, ⟨?_⟩⟩
                  rw [HQ.out]
                  rfl
            · have hk1 : n = k + 1 := by omega
              rw [drop_nil' HL.out hend] at hq1
              have hq2 : quo (xs.drop k) = none := by rw [hq1]; rfl
              rw [hq2] at hQ
              have HQ := Aside0.mk hQ
              have hne : ((k : Int) + 1 == (n : Int)) = true := by simp; omega
              clear hQ hq1 hq2 hend hk1
              go_wp2
              go_ret2
              refine ⟨_, false, rfl, rfl, ⟨?_⟩⟩
              rw [HQ.out]
              rfl
          · have b92 : (x == 92) = false := by simpa using h92
            rw [if_neg h92] at hq1
            have hq2 := map_add hQ hq1 (c := k + 1 - m) (by omega)
            have HQ := Aside0.mk hq2
            clear hQ hq1 hq2 hd h34 h92
            go_wp2
            go_round
            case rel => exact ⟨k + 1, by go_num, by omega, by omega, HQ⟩
            case measure => simp [intOf]; omega
    · have hQ := HK.out
      rw [drop_nil' HL.out hlt, quo] at hQ
      have HQ := Aside0.mk hQ
      clear hQ
      go_wp2
      go_ret2
      refine ⟨_, false, rfl, rfl, ⟨?_⟩⟩
      rw [HQ.out]
      rfl
end Go.Proofs.YtiecdhkmlpceoaaDoor.G
