/- gjson's valid: arrays. -/
import Derived.Test.YtiecdhkmlpceoaaDoorGsC
import Derived.WalkMore
import Derived.ScopeJumps
namespace Go.Proofs.YtiecdhkmlpceoaaDoor.G
set_option linter.unusedVariables false
set_option linter.unusedSimpArgs false
open Go.RowKit Go.Proofs.YtiecdhkmlpceoaaDoorW.PrintWords

theorem xE_none {xs : List Int} {k : Nat} (hv : V k (xs.drop k) = none) : E k (xs.drop k) = none := by rw [E_eq, hv]
theorem xE_last {xs : List Int} {k p r j : Nat} {t : Pl} (hv : V k (xs.drop k) = some (t, j)) (hp : p = k + j) (hr : r = p + bl (xs.drop p)) (h : tk 93 (xs.drop r) = true) : E k (xs.drop k) = some ([t], r + 1 - k) := by
  rw [E_eq, hv]
  simp only [List.drop_drop]
  rw [← hp, show k + (j + bl (xs.drop p)) = r by omega, h]
  simp
  omega
theorem xE_bad {xs : List Int} {k p r j : Nat} {t : Pl} (hv : V k (xs.drop k) = some (t, j)) (hp : p = k + j) (hr : r = p + bl (xs.drop p)) (h : tk 93 (xs.drop r) = false) (h2 : tk 44 (xs.drop r) = false) : E k (xs.drop k) = none := by
  rw [E_eq, hv]
  simp only [List.drop_drop]
  rw [← hp, show k + (j + bl (xs.drop p)) = r by omega, h, h2]
  simp
theorem xE_more {xs : List Int} {k p r s j : Nat} {t : Pl} (hv : V k (xs.drop k) = some (t, j)) (hp : p = k + j) (hr : r = p + bl (xs.drop p)) (h : tk 93 (xs.drop r) = false) (h2 : tk 44 (xs.drop r) = true) (hs : s = r + 1 + bl (xs.drop (r + 1))) :
    E k (xs.drop k) = (E s (xs.drop s)).map fun x => (t :: x.1, s - k + x.2) := by
  rw [E_eq, hv]
  simp only [List.drop_drop]
  rw [← hp, show k + (j + bl (xs.drop p)) = r by omega, h, h2, show k + (j + bl (xs.drop p) + 1) = r + 1 by omega, show k + (j + bl (xs.drop p) + 1 + bl (xs.drop (r + 1))) = s by omega]
  simp only [Bool.false_eq_true, if_false, if_true]
  congr 1
  funext x
  rw [show j + bl (xs.drop p) + 1 + bl (xs.drop (r + 1)) = s - k by omega]
theorem xnam_no1 {xs : List Int} {k : Nat} (h : tk 34 (xs.drop k) = false) : nam (xs.drop k) = none := by unfold nam; rw [h]; rfl
theorem xnam_no2 {xs : List Int} {k : Nat} (h : tk 34 (xs.drop k) = true) (hq : quo (xs.drop (k + 1)) = none) : nam (xs.drop k) = none := by unfold nam; rw [h, List.drop_drop, hq]; rfl
theorem xnam_no3 {xs : List Int} {k q f c : Nat} (h : tk 34 (xs.drop k) = true) (hq : quo (xs.drop (k + 1)) = some q) (hf : f = k + (1 + q)) (hc : c = f + bl (xs.drop f)) (h58 : tk 58 (xs.drop c) = false) : nam (xs.drop k) = none := by
  unfold nam; rw [h, List.drop_drop, hq]
  simp only [if_true, List.drop_drop]
  rw [← hf, show k + (1 + q + bl (xs.drop f)) = c by omega, h58]; rfl
theorem xnam_yes {xs : List Int} {k q f c d : Nat} (h : tk 34 (xs.drop k) = true) (hq : quo (xs.drop (k + 1)) = some q) (hf : f = k + (1 + q)) (hc : c = f + bl (xs.drop f)) (h58 : tk 58 (xs.drop c) = true) (hd : d = c + 1 + bl (xs.drop (c + 1))) : nam (xs.drop k) = some (1 + q, d - k) := by
  unfold nam; rw [h, List.drop_drop, hq]
  simp only [if_true, List.drop_drop]
  rw [← hf, show k + (1 + q + bl (xs.drop f)) = c by omega, h58, show k + (1 + q + bl (xs.drop f) + 1) = c + 1 by omega, show 1 + q + bl (xs.drop f) + 1 + bl (xs.drop (c + 1)) = d - k by omega]; rfl
theorem xM_none1 {xs : List Int} {k : Nat} (hn : nam (xs.drop k) = none) : M k (xs.drop k) = none := by rw [M_eq, hn]
theorem xM_none2 {xs : List Int} {k n d : Nat} (hn : nam (xs.drop k) = some (n, d - k)) (hkd : k ≤ d) (hv : V d (xs.drop d) = none) : M k (xs.drop k) = none := by
  rw [M_eq, hn]
  simp only [List.drop_drop]
  rw [show k + (d - k) = d by omega, hv]
theorem xM_last {xs : List Int} {k n d p r j : Nat} {t : Pl} (hn : nam (xs.drop k) = some (n, d - k)) (hkd : k ≤ d) (hv : V d (xs.drop d) = some (t, j)) (hp : p = d + j) (hr : r = p + bl (xs.drop p)) (h : tk 125 (xs.drop r) = true) : M k (xs.drop k) = some ([(k, k + n)], [t], r + 1 - k) := by
  rw [M_eq, hn]
  simp only [List.drop_drop]
  rw [show k + (d - k) = d by omega, hv]
  simp only []
  rw [show k + (d - k + j) = p by omega, show k + (d - k + j + bl (xs.drop p)) = r by omega, h]
  simp
  omega
theorem xM_bad {xs : List Int} {k n d p r j : Nat} {t : Pl} (hn : nam (xs.drop k) = some (n, d - k)) (hkd : k ≤ d) (hv : V d (xs.drop d) = some (t, j)) (hp : p = d + j) (hr : r = p + bl (xs.drop p)) (h : tk 125 (xs.drop r) = false) (h2 : tk 44 (xs.drop r) = false) : M k (xs.drop k) = none := by
  rw [M_eq, hn]
  simp only [List.drop_drop]
  rw [show k + (d - k) = d by omega, hv]
  simp only []
  rw [show k + (d - k + j) = p by omega, show k + (d - k + j + bl (xs.drop p)) = r by omega, h, h2]
  simp
theorem xM_more {xs : List Int} {k n d p r s j : Nat} {t : Pl} (hn : nam (xs.drop k) = some (n, d - k)) (hkd : k ≤ d) (hv : V d (xs.drop d) = some (t, j)) (hp : p = d + j) (hr : r = p + bl (xs.drop p)) (h : tk 125 (xs.drop r) = false) (h2 : tk 44 (xs.drop r) = true) (hs : s = r + 1 + bl (xs.drop (r + 1))) :
    M k (xs.drop k) = (M s (xs.drop s)).map fun x => ((k, k + n) :: x.1, t :: x.2.1, s - k + x.2.2) := by
  rw [M_eq, hn]
  simp only [List.drop_drop]
  rw [show k + (d - k) = d by omega, hv]
  simp only []
  rw [show k + (d - k + j) = p by omega, show k + (d - k + j + bl (xs.drop p)) = r by omega, h, h2, show k + (d - k + j + bl (xs.drop p) + 1) = r + 1 by omega, show k + (d - k + j + bl (xs.drop p) + 1 + bl (xs.drop (r + 1))) = s by omega]
  simp only [Bool.false_eq_true, if_false, if_true]
  congr 1
  funext x
  rw [show d - k + j + bl (xs.drop p) + 1 + bl (xs.drop (r + 1)) = s - k by omega]

theorem xlst_V (a : Nat) (l : List Int) : lst V a l = if tk 93 (l.drop (bl l)) then some ([], bl l + 1) else (E (a + bl l) (l.drop (bl l))).map fun r => (r.1, bl l + r.2) := by
  unfold lst E
  rw [els_fuel (fun _ _ _ _ => V_le) l.length (l.drop (bl l)).length _ _ (by rw [List.length_drop]; omega) (Nat.le_refl _)]
theorem xobj_V (a : Nat) (l : List Int) : obj V a l = if tk 125 (l.drop (bl l)) then some ([], [], bl l + 1) else (M (a + bl l) (l.drop (bl l))).map fun r => (r.1, r.2.1, bl l + r.2.2) := by
  unfold obj M
  rw [mbs_fuel (fun _ _ _ _ => V_le) l.length (l.drop (bl l)).length _ _ (by rw [List.length_drop]; omega) (Nat.le_refl _)]
def vF (k : Nat) (l : List Int) : Option Nat := (V (k + bl l) (l.drop (bl l))).map (bl l + ·.2)
def lF (m : Nat) (l : List Int) : Option Nat := (lst V m l).map (·.2)
def oF (m : Nat) (l : List Int) : Option Nat := (obj V m l).map (·.2.2)
theorem vF_eq {xs : List Int} {k s : Nat} (hs : s = k + bl (xs.drop k)) : vF k (xs.drop k) = (V s (xs.drop s)).map (s - k + ·.2) := by
  unfold vF
  rw [List.drop_drop, ← hs]
  congr 1
  funext z
  omega
theorem comF_eq {xs : List Int} {p e : Nat} (E : Int) (he : e = p + bl (xs.drop p)) : comF E (xs.drop p) = if tk 44 (xs.drop e) || tk E (xs.drop e) then some (e - p) else none := by
  unfold comF
  rw [List.drop_drop, ← he]
  split
  · congr 1; omega
  · rfl
theorem E_nil (a : Nat) : E a [] = none := rfl
set_option maxHeartbeats 8000000 in
set_option maxRecDepth 100000 in
theorem varray_calls (h o n c m : Nat) (xs : List Int) (w : World) (H : RowAt w h o xs) (hl : xs.length = n) (hn : n ≤ 140737488351232) (hm : m ≤ n)
    (VH : ∀ k, m ≤ k → k ≤ n → Calls Tryd.prog 70 #[.slice (some ⟨h, o, none⟩) n c, .int .i64 k] w (GA (vF k (xs.drop k)) k w)) :
    Calls Tryd.prog 86 #[.slice (some ⟨h, o, none⟩) n c, .int .i64 m] w (GA (lF m (xs.drop m)) m w) := by
  have HH := Aside0.mk (fun k (hk : k < n) => H.2 k (by rw [hl]; exact hk))
  have HC := Aside0.mk (fun k (hk : k ≤ n) => comma_calls h o n c k 93 (.inl rfl) xs w H hl hn hk)
  have HL := Aside0.mk hl
  have VH := Aside0.mk VH
  clear H hl
  obtain ⟨q, hq⟩ : ∃ q, q = m + bl (xs.drop m) := ⟨_, rfl⟩
  have hlf := xlst_V m (xs.drop m)
  rw [List.drop_drop, ← hq] at hlf
  have hmq : m ≤ q := by omega
  have HLF := Aside0.mk hlf
  have HQ := Aside0.mk hq
  have hqn : q ≤ n := by have := bl_le (xs.drop m); rw [List.length_drop, HL.out] at this; omega
  clear hlf hq
  go_enter Tryd.func86, Tryd.ntmps86
  go_wp2_with fail
  go_loop [1] (fun i => ∃ k : Nat, i = .int .i64 k ∧ m ≤ k ∧ k ≤ n + 1 ∧ Aside0 (k ≤ n → k + bl (xs.drop k) = q) ∧ Aside0 (k = n + 1 → lF m (xs.drop m) = none)) (fun i => n + 1 - (intOf i).toNat)
  case atStart => exact ⟨m, rfl, Nat.le_refl _, by omega, ⟨fun _ => HQ.out.symm⟩, ⟨fun h => by omega⟩⟩
  case round =>
    obtain ⟨k, rfl, hmk, hk, HK, HZ⟩ := hrel
    by_cases hlt : k < n
    · obtain ⟨x, hx⟩ : ∃ x, x = xs.getD k 0 := ⟨_, rfl⟩
      have hc : w.cell? ⟨h, o + k, none⟩ = some (.int .u8 x) := by rw [hx]; exact HH.out k hlt
      have hd := drop_at HL.out hlt
      rw [← hx] at hd
      have HD := Aside0.mk hd
      clear hx hd
      cases hb : isBl x with
      | true =>
        have HB := Aside0.mk hb
        rcases isBl_or' hb with rfl | rfl | rfl | rfl
        all_goals
          clear hb
          go_wp2
          go_round
          case rel => exact ⟨k + 1, by go_num, by omega, by omega, ⟨fun _ => by have := HK.out (by omega); rw [HD.out, bl_one HB.out] at this; omega⟩, ⟨fun h => by omega⟩⟩
          case measure => simp [intOf]; omega
      | false =>
        obtain ⟨b1, b2, b3, b4⟩ := isBl_not hb
        have hq : k = q := by have := HK.out (by omega); rw [HD.out, bl_zero hb] at this; omega
        have HB := Aside0.mk hb
        subst hq
        clear hb HK HZ
        by_cases h93 : x = 93
        · subst h93
          have HF : Aside0 (lF m (xs.drop m) = some (k - m + 1)) := ⟨by unfold lF; rw [HLF.out, HD.out, tk]; simp; have := HQ.out; omega⟩
          go_wp2
          go_ret2
          refine ⟨_, true, rfl, rfl, ⟨?_⟩⟩
          rw [HF.out]
          exact ⟨rfl, by omega⟩
        · have b5 : (x == 93) = false := by simpa using h93
          have HF : Aside0 (lF m (xs.drop m) = (E k (xs.drop k)).map (k - m + ·.2)) := ⟨by
            unfold lF
            rw [HLF.out]
            have : tk 93 (xs.drop k) = false := by rw [HD.out, tk, b5]
            rw [this]
            simp only [Bool.false_eq_true, if_false, Option.map_map]
            have := HQ.out
            congr 1
            funext z
            simp only [Function.comp]
            omega⟩
          have HB0 : Aside0 (bl (xs.drop k) = 0) := ⟨by rw [HD.out, bl_zero HB.out]⟩
          clear h93 HD HB
          go_wp2_with fail
          go_loop [1] (fun i => ∃ z s : Nat, i = .int .i64 z ∧ k ≤ z ∧ z ≤ n ∧ Aside0 (s = z + bl (xs.drop z)) ∧ s ≤ n ∧ Aside0 ((E k (xs.drop k)).map (·.2) = (E s (xs.drop s)).map (s - k + ·.2))) (fun i => n + 1 - (intOf i).toNat)
          case atStart => exact ⟨k, k, rfl, Nat.le_refl _, by omega, ⟨by rw [HB0.out]; rfl⟩, by omega, ⟨by simp⟩⟩
          case round =>
            obtain ⟨z, s, rfl, hkz, hzn, HS, hsn, HE⟩ := hrel
            have FAIL : Aside0 (E s (xs.drop s) = none → lF m (xs.drop m) = none) := ⟨fun he => by
              have h1 := HE.out
              rw [he] at h1
              rw [HF.out]
              cases hE : E k (xs.drop k) with
              | none => rfl
              | some r => rw [hE] at h1; cases h1⟩
            have DONE : Aside0 (∀ r, E s (xs.drop s) = some r → lF m (xs.drop m) = some (s - m + r.2)) := ⟨fun r he => by
              have h1 := HE.out
              rw [he] at h1
              rw [HF.out]
              cases hE : E k (xs.drop k) with
              | none => rw [hE] at h1; cases h1
              | some r2 =>
                rw [hE] at h1
                simp only [Option.map_some, Option.some.injEq] at h1 ⊢
                have := HS.out
                omega⟩
            have hzs : z ≤ s := by have := HS.out; omega
            by_cases hzl : z < n
            · have CV := Aside0.mk (VH.out z (by omega) hzn)
              rw [vF_eq HS.out] at CV
              cases hv : V s (xs.drop s) with
              | none =>
                rw [hv] at CV
                have HX := Aside0.mk (FAIL.out (xE_none hv))
                clear hv
                go_wp2_with (go_at_call 70; refine CV.out.mono ?_; rintro e w1 ⟨p, bb, rfl, rfl, hA⟩; have hb : bb = false := hA.out; clear hA; subst hb)
                go_ret2
                refine ⟨_, false, rfl, rfl, ⟨?_⟩⟩
                rw [HX.out]
              | some tj =>
                obtain ⟨t, j⟩ := tj
                rw [hv] at CV
                have hj := V_le hv
                rw [List.length_drop, HL.out] at hj
                obtain ⟨p, hp⟩ : ∃ p, p = s + j := ⟨_, rfl⟩
                obtain ⟨r, hr⟩ : ∃ r, r = p + bl (xs.drop p) := ⟨_, rfl⟩
                have hpn : p ≤ n := by omega
                have hrn : r ≤ n := by have := bl_le (xs.drop p); rw [List.length_drop, HL.out] at this; omega
                have CC := Aside0.mk (HC.out p hpn)
                rw [comF_eq 93 hr] at CC
                have HP : Aside0 (((z + (s - z + j) : Nat) : Int) = (p : Int)) := ⟨by omega⟩
                have HPR : Aside0 (((p + (r - p) : Nat) : Int) = (r : Int)) := ⟨by omega⟩
                by_cases h44 : tk 44 (xs.drop r) = true
                · have h93 : tk 93 (xs.drop r) = false := by
                    have hrl := tk_len h44
                    rw [List.length_drop, HL.out] at hrl
                    rw [tk_at HL.out (by omega)] at h44 ⊢
                    have : xs.getD r 0 = 44 := by simpa using h44
                    rw [this]; rfl
                  have hrl : r < n := by have hrl := tk_len h44; rw [List.length_drop, HL.out] at hrl; omega
                  have hcr : w.cell? ⟨h, o + r, none⟩ = some (.int .u8 44) := by
                    have : xs.getD r 0 = 44 := by rw [tk_at HL.out hrl] at h44; simpa using h44
                    rw [← this]; exact HH.out r hrl
                  obtain ⟨s2, hs2⟩ : ∃ s2, s2 = r + 1 + bl (xs.drop (r + 1)) := ⟨_, rfl⟩
                  have hs2n : s2 ≤ n := by have := bl_le (xs.drop (r + 1)); rw [List.length_drop, HL.out] at this; omega
                  have HE2 : Aside0 ((E k (xs.drop k)).map (·.2) = (E s2 (xs.drop s2)).map (s2 - k + ·.2)) := ⟨by
                    rw [HE.out, xE_more hv hp hr h93 h44 hs2, Option.map_map]
                    congr 1
                    funext x
                    simp only [Function.comp]
                    omega⟩
                  have HS2 := Aside0.mk hs2
                  rw [h44] at CC
                  have hzr : z < r + 1 := by omega
                  clear hv hp hr hj h44 h93 hs2
                  go_wp2_with (first
                    | (go_at_call 70; refine CV.out.mono ?_; rintro e w1 ⟨p', bb, rfl, rfl, hA⟩; obtain ⟨rfl, hpe⟩ := hA.out; obtain rfl : p' = (p : Int) := (by have h1 : p' = ((z + (s - z + j) : Nat) : Int) := hpe; rw [h1, HP.out]); clear hA hpe)
                    | (go_at_call 104; refine CC.out.mono ?_; rintro e w1 ⟨p', bb, rfl, rfl, hA⟩; obtain ⟨rfl, hpe⟩ := hA.out; obtain rfl : p' = (r : Int) := (by have h1 : p' = ((p + (r - p) : Nat) : Int) := hpe; rw [h1, HPR.out]); clear hA hpe))
                  go_round
                  case rel => exact ⟨r + 1, s2, by go_num, by omega, hrl, HS2, hs2n, HE2⟩
                  case measure => simp [intOf]; omega
                · have h44' : tk 44 (xs.drop r) = false := by simpa using h44
                  cases h93 : tk 93 (xs.drop r) with
                  | true =>
                    have hrl : r < n := by have hrl := tk_len h93; rw [List.length_drop, HL.out] at hrl; omega
                    have hcr : w.cell? ⟨h, o + r, none⟩ = some (.int .u8 93) := by
                      have : xs.getD r 0 = 93 := by rw [tk_at HL.out hrl] at h93; simpa using h93
                      rw [← this]; exact HH.out r hrl
                    have HX := Aside0.mk (DONE.out _ (xE_last hv hp hr h93))
                    rw [h44', h93] at CC
                    have hsr : s ≤ r := by omega
                    clear hv hp hr hj h44 h44' h93
                    go_wp2_with (first
                      | (go_at_call 70; refine CV.out.mono ?_; rintro e w1 ⟨p', bb, rfl, rfl, hA⟩; obtain ⟨rfl, hpe⟩ := hA.out; obtain rfl : p' = (p : Int) := (by have h1 : p' = ((z + (s - z + j) : Nat) : Int) := hpe; rw [h1, HP.out]); clear hA hpe)
                      | (go_at_call 104; refine CC.out.mono ?_; rintro e w1 ⟨p', bb, rfl, rfl, hA⟩; obtain ⟨rfl, hpe⟩ := hA.out; obtain rfl : p' = (r : Int) := (by have h1 : p' = ((p + (r - p) : Nat) : Int) := hpe; rw [h1, HPR.out]); clear hA hpe))
                    go_ret2
                    refine ⟨_, true, rfl, rfl, ⟨?_⟩⟩
                    rw [HX.out]
                    exact ⟨rfl, by show (r : Int) + 1 = ((m + (s - m + (r + 1 - s)) : Nat) : Int); omega⟩
                  | false =>
                    have HX := Aside0.mk (FAIL.out (xE_bad hv hp hr h93 h44'))
                    rw [h44', h93] at CC
                    clear hv hp hr hj h44 h44' h93
                    go_wp2_with (first
                      | (go_at_call 70; refine CV.out.mono ?_; rintro e w1 ⟨p', bb, rfl, rfl, hA⟩; obtain ⟨rfl, hpe⟩ := hA.out; obtain rfl : p' = (p : Int) := (by have h1 : p' = ((z + (s - z + j) : Nat) : Int) := hpe; rw [h1, HP.out]); clear hA hpe)
                      | (go_at_call 104; refine CC.out.mono ?_; rintro e w1 ⟨p', bb, rfl, rfl, hA⟩; have hb : bb = false := hA.out; clear hA; subst hb))
                    go_ret2
                    refine ⟨_, false, rfl, rfl, ⟨?_⟩⟩
                    rw [HX.out]
            · obtain rfl : z = n := by omega
              have hsz : s = z := by have := HS.out; omega
              have HX := Aside0.mk (FAIL.out (by rw [hsz, drop_nil' HL.out (Nat.lt_irrefl _)]; exact E_nil _))
              clear hsz
              go_wp2
              go_round
              case rel => exact ⟨z + 1, by go_num, by omega, by omega, ⟨fun h => by omega⟩, ⟨fun _ => HX.out⟩⟩
              case measure => simp [intOf]; omega
    · have HF : Aside0 (lF m (xs.drop m) = none) := ⟨by
        by_cases hk1 : k = n + 1
        · exact HZ.out hk1
        · have hkn : k = n := by omega
          have h1 := HK.out (by omega)
          rw [drop_nil' HL.out hlt] at h1
          have h2 : q = n := by simp [bl] at h1; omega
          unfold lF
          rw [HLF.out, h2, drop_nil' HL.out (by omega)]
          rfl⟩
      clear HK HZ
      go_wp2
      go_ret2
      refine ⟨_, false, rfl, rfl, ⟨?_⟩⟩
      rw [HF.out]
end Go.Proofs.YtiecdhkmlpceoaaDoor.G
