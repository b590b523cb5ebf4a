/- gjson's valid: numbers. -/
import Derived.Test.YtiecdhkmlpceoaaDoorGsB
namespace Go.Proofs.YtiecdhkmlpceoaaDoor.G
set_option linter.unusedVariables false
set_option linter.unusedSimpArgs false
open Go.RowKit Go.Proofs.YtiecdhkmlpceoaaDoorW.PrintWords

theorem dg_one {x : Int} {l : List Int} (h : isDg x = true) : dg (x :: l) = dg l + 1 := by rw [dg, if_pos h]
theorem dg_zero {x : Int} {l : List Int} (h : isDg x = false) : dg (x :: l) = 0 := by rw [dg, if_neg (by rw [h]; decide)]
theorem dg_iff {x : Int} : isDg x = true ↔ 48 ≤ x ∧ x ≤ 57 := by unfold isDg; simp
theorem dg_not {x : Int} (h : isDg x = false) : x < 48 ∨ (¬ x < 48 ∧ 57 < x) := by
  by_cases h1 : x < 48
  · exact .inl h1
  · refine .inr ⟨h1, ?_⟩
    apply Decidable.byContradiction
    intro h2
    have : isDg x = true := dg_iff.2 ⟨by omega, by omega⟩
    rw [h] at this; cases this
theorem num_no1 {xs : List Int} {a p : Nat} (hp : p = a + mns (xs.drop a)) (hi : ints (xs.drop p) = none) : num (xs.drop a) = none := by
  unfold num; rw [List.drop_drop, ← hp, hi]
theorem num_no2 {xs : List Int} {a p p2 i : Nat} (hp : p = a + mns (xs.drop a)) (hi : ints (xs.drop p) = some i) (hp2 : p2 = p + i) (hf : frac (xs.drop p2) = none) : num (xs.drop a) = none := by
  unfold num; rw [List.drop_drop, ← hp, hi]; simp only []; rw [List.drop_drop, ← Nat.add_assoc, ← hp, ← hp2, hf]
theorem num_ex {xs : List Int} {a p p2 p3 i f : Nat} (hp : p = a + mns (xs.drop a)) (hi : ints (xs.drop p) = some i) (hp2 : p2 = p + i) (hf : frac (xs.drop p2) = some f) (hp3 : p3 = p2 + f) : num (xs.drop a) = (expo (xs.drop p3)).map (p3 - a + ·) := by
  unfold num; rw [List.drop_drop, ← hp, hi]; simp only []; rw [List.drop_drop, ← Nat.add_assoc, ← hp, ← hp2, hf]; simp only []
  rw [List.drop_drop, ← Nat.add_assoc, ← Nat.add_assoc, ← hp, ← hp2, ← hp3]
  congr 1
  funext z
  omega
theorem ints_dg {xs : List Int} {p n : Nat} (hl : xs.length = n) (hp : p < n) (h48 : xs.getD p 0 ≠ 48) (hd : isDg (xs.getD p 0) = true) : ints (xs.drop p) = some (dg (xs.drop p)) := by
  unfold ints
  rw [drop_at hl hp, tk, show (xs.getD p 0 == 48) = false by simpa using h48, dg_one hd]
  simp
theorem ints_zero {xs : List Int} {p n : Nat} (hl : xs.length = n) (hp : p < n) (h48 : xs.getD p 0 = 48) : ints (xs.drop p) = some 1 := by
  unfold ints
  rw [drop_at hl hp, tk, h48]; rfl
theorem ints_no {xs : List Int} {p n : Nat} (hl : xs.length = n) (hp : p ≤ n) (hd : p < n → isDg (xs.getD p 0) = false) : ints (xs.drop p) = none := by
  unfold ints
  by_cases h : p < n
  · have h2 := hd h
    rw [drop_at hl h, tk, dg_zero h2]
    have : (xs.getD p 0 == 48) = false := by
      simp only [beq_eq_false_iff_ne, ne_eq]; intro e; rw [e] at h2; cases h2
    rw [this]; rfl
  · rw [drop_nil' hl h]; rfl
theorem dg_no {xs : List Int} {p n : Nat} (hl : xs.length = n) (hp : p ≤ n) (hd : p < n → isDg (xs.getD p 0) = false) : dg (xs.drop p) = 0 := by
  by_cases h : p < n
  · rw [drop_at hl h, dg_zero (hd h)]
  · rw [drop_nil' hl h]; rfl
theorem tk_at {xs : List Int} {p n : Nat} {c : Int} (hl : xs.length = n) (hp : p < n) : tk c (xs.drop p) = (xs.getD p 0 == c) := by rw [drop_at hl hp, tk]
theorem tk_end {xs : List Int} {p n : Nat} {c : Int} (hl : xs.length = n) (hp : ¬ p < n) : tk c (xs.drop p) = false := by rw [drop_nil' hl hp, tk]
theorem expo_no {xs : List Int} {p n : Nat} (hl : xs.length = n) (hp : p ≤ n) (h : p < n → xs.getD p 0 ≠ 101 ∧ xs.getD p 0 ≠ 69) : expo (xs.drop p) = some 0 := by
  unfold expo
  by_cases hlt : p < n
  · have h2 := h hlt
    rw [tk_at hl hlt, tk_at hl hlt, show (xs.getD p 0 == 101) = false by simpa using h2.1, show (xs.getD p 0 == 69) = false by simpa using h2.2]; rfl
  · rw [tk_end hl hlt, tk_end hl hlt]; rfl
theorem expo_yes {xs : List Int} {p q n : Nat} (hl : xs.length = n) (hp : p < n) (h : xs.getD p 0 = 101 ∨ xs.getD p 0 = 69) (hq : q = p + 1 + sgn (xs.drop (p + 1))) : expo (xs.drop p) = if dg (xs.drop q) = 0 then none else some (q - p + dg (xs.drop q)) := by
  unfold expo
  rw [tk_at hl hp, tk_at hl hp, List.drop_drop, List.drop_drop, ← Nat.add_assoc, ← hq]
  have : (xs.getD p 0 == 101 || xs.getD p 0 == 69) = true := by rcases h with h | h <;> rw [h] <;> rfl
  rw [this, if_pos rfl]
  split
  · rfl
  · congr 1; omega
theorem sgn_at {xs : List Int} {p n : Nat} (hl : xs.length = n) (hp : p < n) : sgn (xs.drop p) = if xs.getD p 0 = 43 ∨ xs.getD p 0 = 45 then 1 else 0 := by
  unfold sgn
  rw [tk_at hl hp, tk_at hl hp]
  by_cases h1 : xs.getD p 0 = 43
  · rw [h1]; rfl
  · by_cases h2 : xs.getD p 0 = 45
    · rw [h2]; rfl
    · rw [show (xs.getD p 0 == 43) = false by simpa using h1, show (xs.getD p 0 == 45) = false by simpa using h2, if_neg (by decide), if_neg (by rintro (h | h); exact h1 h; exact h2 h)]
theorem frac_no {xs : List Int} {p n : Nat} (hl : xs.length = n) (hp : p < n) (h : xs.getD p 0 ≠ 46) : frac (xs.drop p) = some 0 := by
  unfold frac
  rw [tk_at hl hp, show (xs.getD p 0 == 46) = false by simpa using h]; rfl
theorem frac_end {xs : List Int} {p n : Nat} (hl : xs.length = n) (hp : ¬ p < n) : frac (xs.drop p) = some 0 := by
  unfold frac
  rw [tk_end hl hp]; rfl
theorem frac_yes {xs : List Int} {p n : Nat} (hl : xs.length = n) (hp : p < n) (h : xs.getD p 0 = 46) : frac (xs.drop p) = if dg (xs.drop (p + 1)) = 0 then none else some (1 + dg (xs.drop (p + 1))) := by
  unfold frac
  rw [tk_at hl hp, h, List.drop_drop]; rfl
set_option maxHeartbeats 8000000 in
set_option maxRecDepth 100000 in
theorem vnumber_calls (h o n c a : Nat) (xs : List Int) (w : World) (H : RowAt w h o xs) (hl : xs.length = n) (hn : n ≤ 140737488351232) (ha : a < n) (hx0 : xs.getD a 0 = 45 ∨ isDg (xs.getD a 0) = true) :
    Calls Tryd.prog 88 #[.slice (some ⟨h, o, none⟩) n c, .int .i64 ((a : Int) + 1)] w (GA (num (xs.drop a)) a w) := by
  have HH := Aside0.mk (fun k (hk : k < n) => H.2 k (by rw [hl]; exact hk))
  have HL := Aside0.mk hl
  clear H hl
  go_enter Tryd.func88, Tryd.ntmps88
  obtain ⟨x, hx⟩ : ∃ x, x = xs.getD a 0 := ⟨_, rfl⟩
  have hc : w.cell? ⟨h, o + a, none⟩ = some (.int .u8 x) := by rw [hx]; exact HH.out a ha
  rw [← hx] at hx0
  have HX := Aside0.mk hx
  have HX0 := Aside0.mk hx0
  clear hx hx0
  go_upto_if 12 with fail
  go_cut [1] (fun v wx => ∃ p : Nat, v = .int .i64 p ∧ wx = w ∧ p < n ∧ Aside0 (p = a + mns (xs.drop a)) ∧ Aside0 (isDg (xs.getD p 0) = true))
  case first => as_aux_lemma =>
    by_cases h45 : x = 45
    · subst h45
      have hm : mns (xs.drop a) = 1 := by unfold mns; rw [tk_at HL.out ha, ← HX.out]; rfl
      by_cases hend : a + 1 < n
      · obtain ⟨y, hy⟩ : ∃ y, y = xs.getD (a + 1) 0 := ⟨_, rfl⟩
        have hcy : w.cell? ⟨h, o + (a + 1), none⟩ = some (.int .u8 y) := by rw [hy]; exact HH.out (a + 1) hend
        have hne : ((a : Int) + 1 == (n : Int)) = false := by simp; omega
        have hcn : ¬ n = a + 1 := by omega
        cases hd : isDg y with
        | true =>
          have hd2 := dg_iff.1 hd
          have HM : Aside0 (a + 1 = a + mns (xs.drop a)) := ⟨by rw [hm]⟩
          have HD : Aside0 (isDg (xs.getD (a + 1) 0) = true) := ⟨by rw [← hy]; exact hd⟩
          have h48 : ¬ y < 48 := by omega
          have h57 : ¬ 57 < y := by omega
          clear hy hm hd hd2
          go_wp2
          go_meet
          exact ⟨a + 1, by go_num, rfl, hend, HM, HD⟩
        | false =>
          have HN := Aside0.mk (num_no1 (p := a + 1) (by rw [hm]) (ints_no HL.out (by omega) (fun _ => by rw [← hy]; exact hd)))
          have hdn := dg_not hd
          clear hy hm hd
          rcases hdn with h48 | ⟨h48, h57⟩
          all_goals
            go_wp2
            go_ret2
            refine ⟨_, false, rfl, rfl, ⟨?_⟩⟩
            rw [HN.out]
      · have HN := Aside0.mk (num_no1 (p := a + 1) (by rw [hm]) (ints_no HL.out (by omega) (fun h => absurd h hend)))
        have hne : ((a : Int) + 1 == (n : Int)) = true := by simp; omega
        have hcn : n = a + 1 := by omega
        clear hm hend hcn
        go_wp2
        go_ret2
        refine ⟨_, false, rfl, rfl, ⟨?_⟩⟩
        rw [HN.out]
    · have b45 : (x == 45) = false := by simpa using h45
      have hm : mns (xs.drop a) = 0 := by unfold mns; rw [tk_at HL.out ha, ← HX.out, b45]; rfl
      have HM : Aside0 (a = a + mns (xs.drop a)) := ⟨by rw [hm]; rfl⟩
      have HD : Aside0 (isDg (xs.getD a 0) = true) := ⟨by rw [← HX.out]; exact HX0.out.resolve_left h45⟩
      clear hm h45
      go_wp2
      go_meet
      exact ⟨a, rfl, rfl, ha, HM, HD⟩
  case rest => as_aux_lemma =>
    obtain ⟨p, rfl, hw, hpn, HM, HD⟩ := hcut
    subst hw
    clear hc HX HX0
    have hpa : Aside0 (a ≤ p) := ⟨by have := HM.out; omega⟩
    obtain ⟨y, hy⟩ : ∃ y, y = xs.getD p 0 := ⟨_, rfl⟩
    have hcy : wc.cell? ⟨h, o + p, none⟩ = some (.int .u8 y) := by rw [hy]; exact HH.out p hpn
    have HY := Aside0.mk hy
    clear hy
    have hne : ((p : Int) == (n : Int)) = false := by simp; omega
    have hcn : ¬ n = p := by omega
    go_upto_if 42 with fail
    go_cut [1] (fun v wx => ∃ p2 : Nat, v = .int .i64 p2 ∧ wx = wc ∧ p2 ≤ n ∧ Aside0 (∃ i, ints (xs.drop p) = some i ∧ p2 = p + i))
    case first => as_aux_lemma =>
      by_cases h48 : y = 48
      · subst h48
        have HI : Aside0 (∃ i, ints (xs.drop p) = some i ∧ p + 1 = p + i) := ⟨1, ints_zero HL.out hpn HY.out.symm, rfl⟩
        go_wp2
        go_meet
        exact ⟨p + 1, by go_num, rfl, hpn, HI⟩
      · have b48 : (y == 48) = false := by simpa using h48
        have HI : Aside0 (∃ i, ints (xs.drop p) = some i ∧ p + dg (xs.drop p) = p + i) := ⟨_, ints_dg HL.out hpn (by rw [← HY.out]; exact h48) HD.out, rfl⟩
        clear h48
        go_wp2_with fail
        go_loop [1] (fun i => ∃ k : Nat, i = .int .i64 k ∧ p ≤ k ∧ k ≤ n ∧ Aside0 (k + dg (xs.drop k) = p + dg (xs.drop (p)))) (fun i => n - (intOf i).toNat)
        case atStart => exact ⟨p, by go_num, by omega, by omega, ⟨rfl⟩⟩
        case round =>
          obtain ⟨k, rfl, hmk, hk, HK⟩ := hrel
          by_cases hlt : k < n
          · obtain ⟨v, hv⟩ : ∃ v, v = xs.getD k 0 := ⟨_, rfl⟩
            have hcv : wc.cell? ⟨h, o + k, none⟩ = some (.int .u8 v) := by rw [hv]; exact HH.out k hlt
            cases hdv : isDg v with
            | true =>
              have HK2 : Aside0 (k + 1 + dg (xs.drop (k + 1)) = p + dg (xs.drop (p))) := ⟨by have := HK.out; rw [drop_at HL.out hlt, ← hv, dg_one hdv] at this; omega⟩
              obtain ⟨hv1, hv2⟩ := dg_iff.1 hdv
              clear hv hdv
              go_wp2
              go_round
              case rel => exact ⟨k + 1, by go_num, by omega, by omega, HK2⟩
              case measure => simp [intOf]; omega
            | false =>
              have hke : k = p + dg (xs.drop (p)) := by have := HK.out; rw [drop_at HL.out hlt, ← hv, dg_zero hdv] at this; omega
              have HKE := Aside0.mk hke
              have hdn : (¬ 48 ≤ v) ∨ (48 ≤ v ∧ ¬ v ≤ 57) := by rcases dg_not hdv with h | ⟨h, h'⟩; exact .inl (by omega); exact .inr ⟨by omega, by omega⟩
              clear hv hdv hke
              rcases hdn with hv1 | ⟨hv1, hv2⟩
              all_goals
                go_wp2
                go_meet; exact ⟨k, rfl, rfl, hk, ⟨by rw [HKE.out]; exact HI.out⟩⟩
          · have hke : k = p + dg (xs.drop (p)) := by have := HK.out; rw [drop_nil' HL.out hlt] at this; simpa [dg] using this
            have HKE := Aside0.mk hke
            clear hke
            go_wp2
            go_meet; exact ⟨k, rfl, rfl, hk, ⟨by rw [HKE.out]; exact HI.out⟩⟩
    case rest => as_aux_lemma =>
      obtain ⟨p2, rfl, hw, hp2n, HI⟩ := hcut
      subst hw
      clear hcy hne hcn
      by_cases he2 : p2 = n
      · have hne : ((p2 : Int) == (n : Int)) = true := by simp; omega
        obtain ⟨i, hi, hp2⟩ := HI.out
        have HN := Aside0.mk (num_ex HM.out hi hp2 (frac_end HL.out (by omega)) rfl)
        have HE := Aside0.mk (expo_no (p := p2) HL.out hp2n (fun h => absurd h (by omega)))
        have hpp : Aside0 (a ≤ p2) := ⟨by have := hpa.out; omega⟩
        clear he2 hi hp2
        go_wp2
        go_ret2
        refine ⟨_, true, rfl, rfl, ⟨?_⟩⟩
        rw [HN.out, Nat.add_zero, HE.out]
        exact ⟨rfl, by have := hpp.out; simp; omega⟩
      · have hp2l : p2 < n := by omega
        have hne : ((p2 : Int) == (n : Int)) = false := by simp; omega
        have hcn : ¬ n = p2 := by omega
        obtain ⟨y2, hy2⟩ : ∃ y, y = xs.getD p2 0 := ⟨_, rfl⟩
        have hcy2 : wc.cell? ⟨h, o + p2, none⟩ = some (.int .u8 y2) := by rw [hy2]; exact HH.out p2 hp2l
        have HY2 := Aside0.mk hy2
        clear hy2 he2
        go_upto_if 72 with fail
        go_cut [1] (fun v wx => ∃ p3 : Nat, v = .int .i64 p3 ∧ wx = wc ∧ p3 ≤ n ∧ Aside0 (∃ f, frac (xs.drop p2) = some f ∧ p3 = p2 + f))
        case first => as_aux_lemma =>
          by_cases h46 : y2 = 46
          · subst h46
            have hf := frac_yes HL.out hp2l HY2.out.symm
            obtain ⟨i, hi, hp2⟩ := HI.out
            by_cases hend : p2 + 1 < n
            · obtain ⟨z, hz⟩ : ∃ y, y = xs.getD (p2 + 1) 0 := ⟨_, rfl⟩
              have hcz : wc.cell? ⟨h, o + (p2 + 1), none⟩ = some (.int .u8 z) := by rw [hz]; exact HH.out (p2 + 1) hend
              have hne2 : ((p2 : Int) + 1 == (n : Int)) = false := by simp; omega
              have hcn2 : ¬ n = p2 + 1 := by omega
              cases hd : isDg z with
              | true =>
                have hd2 := dg_iff.1 hd
                have hdd : dg (xs.drop (p2 + 1)) = dg (xs.drop (p2 + 2)) + 1 := by rw [drop_at HL.out hend, ← hz, dg_one hd]
                rw [if_neg (by omega)] at hf
                have HI3 : Aside0 (∃ f, frac (xs.drop p2) = some f ∧ p2 + 2 + dg (xs.drop (p2 + 2)) = p2 + f) := ⟨_, hf, by omega⟩
                have h48 : ¬ z < 48 := by omega
                have h57 : ¬ 57 < z := by omega
                clear hz hd hd2 hf hdd hi hp2
                go_wp2_with fail
                go_loop [1] (fun i => ∃ k : Nat, i = .int .i64 k ∧ p2 ≤ k ∧ k ≤ n ∧ Aside0 (k + dg (xs.drop k) = p2 + 2 + dg (xs.drop (p2 + 2)))) (fun i => n - (intOf i).toNat)
                case atStart => exact ⟨p2 + 2, by go_num, by omega, by omega, ⟨rfl⟩⟩
                case round =>
                  obtain ⟨k, rfl, hmk, hk, HK⟩ := hrel
                  by_cases hlt : k < n
                  · obtain ⟨v, hv⟩ : ∃ v, v = xs.getD k 0 := ⟨_, rfl⟩
                    have hcv : wc.cell? ⟨h, o + k, none⟩ = some (.int .u8 v) := by rw [hv]; exact HH.out k hlt
                    cases hdv : isDg v with
                    | true =>
                      have HK2 : Aside0 (k + 1 + dg (xs.drop (k + 1)) = p2 + 2 + dg (xs.drop (p2 + 2))) := ⟨by have := HK.out; rw [drop_at HL.out hlt, ← hv, dg_one hdv] at this; omega⟩
                      obtain ⟨hv1, hv2⟩ := dg_iff.1 hdv
                      clear hv hdv
                      go_wp2
                      go_round
                      case rel => exact ⟨k + 1, by go_num, by omega, by omega, HK2⟩
                      case measure => simp [intOf]; omega
                    | false =>
                      have hke : k = p2 + 2 + dg (xs.drop (p2 + 2)) := by have := HK.out; rw [drop_at HL.out hlt, ← hv, dg_zero hdv] at this; omega
                      have HKE := Aside0.mk hke
                      have hdn : (¬ 48 ≤ v) ∨ (48 ≤ v ∧ ¬ v ≤ 57) := by rcases dg_not hdv with h | ⟨h, h'⟩; exact .inl (by omega); exact .inr ⟨by omega, by omega⟩
                      clear hv hdv hke
                      rcases hdn with hv1 | ⟨hv1, hv2⟩
                      all_goals
                        go_wp2
                        go_meet; exact ⟨k, rfl, rfl, hk, ⟨by rw [HKE.out]; exact HI3.out⟩⟩
                  · have hke : k = p2 + 2 + dg (xs.drop (p2 + 2)) := by have := HK.out; rw [drop_nil' HL.out hlt] at this; simpa [dg] using this
                    have HKE := Aside0.mk hke
                    clear hke
                    go_wp2
                    go_meet; exact ⟨k, rfl, rfl, hk, ⟨by rw [HKE.out]; exact HI3.out⟩⟩
              | false =>
                have hz0 : dg (xs.drop (p2 + 1)) = 0 := dg_no HL.out (by omega) (fun _ => by rw [← hz]; exact hd)
                rw [if_pos hz0] at hf
                have HN := Aside0.mk (num_no2 HM.out hi hp2 hf)
                have hdn := dg_not hd
                clear hz hd hf hz0 hi hp2
                rcases hdn with h48 | ⟨h48, h57⟩
                all_goals
                  go_wp2
                  go_ret2
                  refine ⟨_, false, rfl, rfl, ⟨?_⟩⟩
                  rw [HN.out]
            · have hz0 : dg (xs.drop (p2 + 1)) = 0 := dg_no HL.out (by omega) (fun h => absurd h hend)
              rw [if_pos hz0] at hf
              have HN := Aside0.mk (num_no2 HM.out hi hp2 hf)
              have hne2 : ((p2 : Int) + 1 == (n : Int)) = true := by simp; omega
              clear hf hz0 hi hp2 hend
              go_wp2
              go_ret2
              refine ⟨_, false, rfl, rfl, ⟨?_⟩⟩
              rw [HN.out]
          · have b46 : (y2 == 46) = false := by simpa using h46
            have HI3 : Aside0 (∃ f, frac (xs.drop p2) = some f ∧ p2 = p2 + f) := ⟨0, frac_no HL.out hp2l (by rw [← HY2.out]; exact h46), rfl⟩
            clear h46
            go_wp2
            go_meet
            exact ⟨p2, rfl, rfl, hp2n, HI3⟩
        case rest => as_aux_lemma =>
          obtain ⟨p3, rfl, hw, hp3n, HI3⟩ := hcut
          subst hw
          clear hcy2 hne hcn
          obtain ⟨i, hi, hp2⟩ := HI.out
          obtain ⟨f, hf, hp3⟩ := HI3.out
          have HN := Aside0.mk (num_ex HM.out hi hp2 hf hp3)
          have hpp : Aside0 (a ≤ p3) := ⟨by have := hpa.out; omega⟩
          clear hi hp2 hf hp3
          by_cases he3 : p3 < n
          · have hne : ((p3 : Int) == (n : Int)) = false := by simp; omega
            have hcn : ¬ n = p3 := by omega
            obtain ⟨y3, hy3⟩ : ∃ y, y = xs.getD p3 0 := ⟨_, rfl⟩
            have hcy3 : wc.cell? ⟨h, o + p3, none⟩ = some (.int .u8 y3) := by rw [hy3]; exact HH.out p3 he3
            by_cases hE : y3 = 101 ∨ y3 = 69
            · have HY3 : Aside0 (xs.getD p3 0 = 101 ∨ xs.getD p3 0 = 69) := ⟨by rw [← hy3]; exact hE⟩
              clear hy3
              obtain ⟨q, hq⟩ : ∃ q, q = p3 + 1 + sgn (xs.drop (p3 + 1)) := ⟨_, rfl⟩
              have HE := Aside0.mk (expo_yes HL.out he3 HY3.out hq)
              have HQ := Aside0.mk hq
              clear hq
              have fin : Aside0 (∀ b : Bool, dg (xs.drop q) = 0 → b = false → GA (num (xs.drop a)) a wc (.returned (.tuple #[.int .i64 (0 : Int), .bool b])) wc → True) := ⟨fun _ _ _ _ => trivial⟩
              by_cases hend : p3 + 1 < n
              · obtain ⟨z, hz⟩ : ∃ y, y = xs.getD (p3 + 1) 0 := ⟨_, rfl⟩
                have hcz : wc.cell? ⟨h, o + (p3 + 1), none⟩ = some (.int .u8 z) := by rw [hz]; exact HH.out (p3 + 1) hend
                have hne2 : ((p3 : Int) + 1 == (n : Int)) = false := by simp; omega
                have hcn2 : ¬ n = p3 + 1 := by omega
                have hsg := sgn_at HL.out hend
                rw [← hz] at hsg
                clear hz
                have sstep : (q = p3 + 2 ∧ (z = 43 ∨ z = 45)) ∨ (q = p3 + 1 ∧ (z == 43) = false ∧ (z == 45) = false) := by
                  have := HQ.out
                  by_cases hs : z = 43 ∨ z = 45
                  · rw [if_pos hs] at hsg; exact .inl ⟨by omega, hs⟩
                  · rw [if_neg hs] at hsg; exact .inr ⟨by omega, by simpa using fun e => hs (.inl e), by simpa using fun e => hs (.inr e)⟩
                clear hsg
                have HPQ : Aside0 (q ≤ n ∧ p3 ≤ q) := ⟨by rcases sstep with ⟨h1, _⟩ | ⟨h1, _⟩ <;> omega⟩
                have HS := Aside0.mk sstep
                clear sstep
                go_upto_region 29 with fail
                go_cut [1, 129] (fun v t wx => v = .int .i64 p3 ∧ t = .bool true ∧ wx = wc)
                case first => as_aux_lemma =>
                  rcases hE with rfl | rfl
                  all_goals
                    go_wp2
                    go_meet
                    exact ⟨rfl, rfl, rfl⟩
                case rest => as_aux_lemma =>
                  obtain ⟨rfl, rfl, hw⟩ := hcut
                  subst hw
                  clear hE hcy3
                  go_upto_region 33 with fail
                  go_cut [1, 148] (fun v t wx => v = .int .i64 ((p3 : Int) + 1) ∧ t = .bool (z == 43 || z == 45) ∧ wx = wc)
                  case first => as_aux_lemma =>
                    by_cases z1 : z = 43
                    · subst z1
                      go_wp2
                      go_meet
                      exact ⟨rfl, rfl, rfl⟩
                    · have b1 : (z == 43) = false := by simpa using z1
                      by_cases z2 : z = 45
                      · subst z2
                        clear z1 b1
                        go_wp2
                        go_meet
                        exact ⟨rfl, rfl, rfl⟩
                      · have b2 : (z == 45) = false := by simpa using z2
                        clear z1 z2
                        go_wp2
                        go_meet
                        exact ⟨rfl, by rw [b1, b2]; rfl, rfl⟩
                  case rest => as_aux_lemma =>
                    obtain ⟨rfl, rfl, hw⟩ := hcut
                    subst hw
                    go_upto_if 148 with fail
                    go_cut [1] (fun v wx => v = .int .i64 q ∧ wx = wc)
                    case first => as_aux_lemma =>
                      rcases HS.out with ⟨h1, h2⟩ | ⟨h1, h2, h3⟩
                      · have hb : (z == 43 || z == 45) = true := by rcases h2 with rfl | rfl <;> rfl
                        rw [hb]
                        go_wp2
                        go_meet
                        exact ⟨by rw [h1]; go_num, rfl⟩
                      · rw [h2, h3]
                        go_wp2
                        go_meet
                        exact ⟨by rw [h1]; go_num, rfl⟩
                    case rest => as_aux_lemma =>
                      obtain ⟨rfl, hw⟩ := hcut
                      subst hw
                      clear hcz hne2 hcn2 hne hcn
                      obtain ⟨hqn, hpq⟩ := HPQ.out
                      by_cases hqe : q < n
                      · obtain ⟨y4, hy4⟩ : ∃ y, y = xs.getD q 0 := ⟨_, rfl⟩
                        have hcy4 : wc.cell? ⟨h, o + q, none⟩ = some (.int .u8 y4) := by rw [hy4]; exact HH.out q hqe
                        have hne3 : ((q : Int) == (n : Int)) = false := by simp; omega
                        have hcn3 : ¬ n = q := by omega
                        cases hd : isDg y4 with
                        | true =>
                          have hd2 := dg_iff.1 hd
                          have hdd : dg (xs.drop q) = dg (xs.drop (q + 1)) + 1 := by rw [drop_at HL.out hqe, ← hy4, dg_one hd]
                          have hx := HE.out
                          rw [if_neg (by omega)] at hx
                          have HX4 : Aside0 (∀ k, k = q + 1 + dg (xs.drop (q + 1)) → GA (num (xs.drop a)) a wc (.returned (.tuple #[.int .i64 (k : Int), .bool true])) wc) := ⟨fun k hk => by
                            refine ⟨_, true, rfl, rfl, ⟨?_⟩⟩
                            rw [HN.out, hx]
                            exact ⟨rfl, by have := hpp.out; simp; omega⟩⟩
                          have h48 : ¬ y4 < 48 := by omega
                          have h57 : ¬ 57 < y4 := by omega
                          clear hy4 hd hd2 hx hdd
                          go_wp2_with fail
                          go_loop [1] (fun i => ∃ k : Nat, i = .int .i64 k ∧ q ≤ k ∧ k ≤ n ∧ Aside0 (k + dg (xs.drop k) = q + 1 + dg (xs.drop (q + 1)))) (fun i => n - (intOf i).toNat)
                          case atStart => exact ⟨q + 1, by go_num, by omega, by omega, ⟨rfl⟩⟩
                          case round =>
                            obtain ⟨k, rfl, hmk, hk, HK⟩ := hrel
                            by_cases hlt : k < n
                            · obtain ⟨v, hv⟩ : ∃ v, v = xs.getD k 0 := ⟨_, rfl⟩
                              have hcv : wc.cell? ⟨h, o + k, none⟩ = some (.int .u8 v) := by rw [hv]; exact HH.out k hlt
                              cases hdv : isDg v with
                              | true =>
                                have HK2 : Aside0 (k + 1 + dg (xs.drop (k + 1)) = q + 1 + dg (xs.drop (q + 1))) := ⟨by have := HK.out; rw [drop_at HL.out hlt, ← hv, dg_one hdv] at this; omega⟩
                                obtain ⟨hv1, hv2⟩ := dg_iff.1 hdv
                                clear hv hdv
                                go_wp2
                                go_round
                                case rel => exact ⟨k + 1, by go_num, by omega, by omega, HK2⟩
                                case measure => simp [intOf]; omega
                              | false =>
                                have hke : k = q + 1 + dg (xs.drop (q + 1)) := by have := HK.out; rw [drop_at HL.out hlt, ← hv, dg_zero hdv] at this; omega
                                have HKE := Aside0.mk hke
                                have hdn : (¬ 48 ≤ v) ∨ (48 ≤ v ∧ ¬ v ≤ 57) := by rcases dg_not hdv with h | ⟨h, h'⟩; exact .inl (by omega); exact .inr ⟨by omega, by omega⟩
                                clear hv hdv hke
                                rcases hdn with hv1 | ⟨hv1, hv2⟩
                                all_goals
                                  go_wp2
                                  go_ret2; exact HX4.out k HKE.out
                            · have hke : k = q + 1 + dg (xs.drop (q + 1)) := by have := HK.out; rw [drop_nil' HL.out hlt] at this; simpa [dg] using this
                              have HKE := Aside0.mk hke
                              clear hke
                              go_wp2
                              go_ret2; exact HX4.out k HKE.out
                        | false =>
                          have hz0 : dg (xs.drop q) = 0 := dg_no HL.out hqn (fun _ => by rw [← hy4]; exact hd)
                          have hx := HE.out
                          rw [if_pos hz0] at hx
                          have HX := Aside0.mk hx
                          have hdn := dg_not hd
                          clear hy4 hd hx hz0
                          rcases hdn with h48 | ⟨h48, h57⟩
                          all_goals
                            go_wp2
                            go_ret2
                            refine ⟨_, false, rfl, rfl, ⟨?_⟩⟩
                            rw [HN.out, HX.out]
                            rfl
                      · have hz0 : dg (xs.drop q) = 0 := dg_no HL.out hqn (fun h => absurd h hqe)
                        have hx := HE.out
                        rw [if_pos hz0] at hx
                        have HX := Aside0.mk hx
                        have hne3 : ((q : Int) == (n : Int)) = true := by simp; omega
                        clear hz0 hx hqe
                        go_wp2
                        go_ret2
                        refine ⟨_, false, rfl, rfl, ⟨?_⟩⟩
                        rw [HN.out, HX.out]
                        rfl
              · have hz0 : dg (xs.drop q) = 0 := dg_no HL.out (by have := HQ.out; rw [drop_nil' HL.out hend] at this; have h0 : sgn ([] : List Int) = 0 := rfl; omega) (fun h => absurd h (by have := HQ.out; omega))
                have hx := HE.out
                rw [if_pos hz0] at hx
                have HX := Aside0.mk hx
                have hne2 : ((p3 : Int) + 1 == (n : Int)) = true := by simp; omega
                clear hz0 hx hend
                rcases hE with rfl | rfl
                all_goals
                  go_wp2
                  go_ret2
                  refine ⟨_, false, rfl, rfl, ⟨?_⟩⟩
                  rw [HN.out, HX.out]
                  rfl
            · have HE := Aside0.mk (expo_no (p := p3) HL.out hp3n (fun h => by rw [← hy3]; exact ⟨fun e => hE (.inl e), fun e => hE (.inr e)⟩))
              have b1 : (y3 == 101) = false := by simpa using fun e => hE (.inl e)
              have b2 : (y3 == 69) = false := by simpa using fun e => hE (.inr e)
              clear hy3 hE
              go_wp2
              go_ret2
              refine ⟨_, true, rfl, rfl, ⟨?_⟩⟩
              rw [HN.out, HE.out]
              exact ⟨rfl, by have := hpp.out; simp; omega⟩
          · have hne : ((p3 : Int) == (n : Int)) = true := by simp; omega
            have HE := Aside0.mk (expo_no (p := p3) HL.out hp3n (fun h => absurd h he3))
            clear he3
            go_wp2
            go_ret2
            refine ⟨_, true, rfl, rfl, ⟨?_⟩⟩
            rw [HN.out, HE.out]
            exact ⟨rfl, by have := hpp.out; simp; omega⟩
end Go.Proofs.YtiecdhkmlpceoaaDoor.G
