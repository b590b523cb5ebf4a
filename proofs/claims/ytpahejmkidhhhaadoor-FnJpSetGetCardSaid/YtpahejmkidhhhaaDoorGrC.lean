/- The reference's reader: escapes, strings, words. -/
import Derived.Test.YtpahejmkidhhhaaDoorGrB
namespace Go.Proofs.YtpahejmkidhhhaaDoor.G
set_option linter.unusedVariables false
set_option linter.unusedSimpArgs false
open Go.RowKit Go.Proofs.YtpahejmkidhhhaaDoorW.PrintWords

def HexB (b : Bool) (w : World) (e : Ending) (w' : World) : Prop := ∃ v, e = .returned (.tuple #[v, .bool b]) ∧ w' = w
set_option maxHeartbeats 4000000 in
set_option maxRecDepth 100000 in
theorem hex_calls (x : Int) (w : World) : Calls Tryd.prog 62 #[.int .u8 x] w (HexB (isHx x) w) := by
  by_cases a1 : 48 ≤ x ∧ x ≤ 57
  · have hx : isHx x = true := by unfold isHx; simp [a1]
    rw [hx]
    clear hx
    obtain ⟨h1, h2⟩ := a1
    go_enter Tryd.func62, Tryd.ntmps62
    go_wp2
    go_ret2
    exact ⟨_, rfl, rfl⟩
  · by_cases a2 : 97 ≤ x ∧ x ≤ 102
    · have hx : isHx x = true := by unfold isHx; simp [a2]
      rw [hx]
      clear hx
      obtain ⟨h1, h2⟩ := a2
      have h3 : ¬ x ≤ 57 := by omega
      have h4 : 48 ≤ x := by omega
      clear a1
      go_enter Tryd.func62, Tryd.ntmps62
      go_wp2
      go_ret2
      exact ⟨_, rfl, rfl⟩
    · by_cases a3 : 65 ≤ x ∧ x ≤ 70
      · have hx : isHx x = true := by unfold isHx; simp [a3]
        rw [hx]
        clear hx
        obtain ⟨h1, h2⟩ := a3
        have h3 : ¬ x ≤ 57 := by omega
        have h4 : 48 ≤ x := by omega
        have h5 : ¬ 97 ≤ x := by omega
        clear a1 a2
        go_enter Tryd.func62, Tryd.ntmps62
        go_wp2
        go_ret2
        exact ⟨_, rfl, rfl⟩
      · have hx : isHx x = false := by
          unfold isHx
          simp only [Bool.or_eq_false_iff, Bool.and_eq_false_iff, decide_eq_false_iff_not]
          omega
        rw [hx]
        clear hx
        go_enter Tryd.func62, Tryd.ntmps62
        go_wp2
        all_goals first
          | (go_ret2; exact ⟨_, rfl, rfl⟩)
          | (exfalso; omega)
theorem rest_getD (S : ByteArray) (m k : Nat) : (rest S (m + k)).getD 0 0 = (rest S m).getD k 0 := by
  rw [← rest_drop]; simp [List.getD_eq_getElem?_getD]
theorem getD_lt {S : ByteArray} {m : Nat} (h : (rest S m).getD 0 0 ≠ 0) : m < S.size := by
  apply Decidable.byContradiction
  intro hn
  rw [rest_nil hn] at h
  exact h rfl
theorem isHx_zero : isHx 0 = false := rfl
theorem hx4_iff (l : List Int) : hx4 l = true ↔ ∀ j, j < 4 → isHx (l.getD j 0) = true := by
  match l with
  | [] => exact ⟨fun h => by simp [hx4] at h, fun h => by have h2 : isHx 0 = true := h 0 (by omega); cases h2⟩
  | [a] => exact ⟨fun h => by simp [hx4] at h, fun h => by have h2 : isHx 0 = true := h 1 (by omega); cases h2⟩
  | [a, b] => exact ⟨fun h => by simp [hx4] at h, fun h => by have h2 : isHx 0 = true := h 2 (by omega); cases h2⟩
  | [a, b, c] => exact ⟨fun h => by simp [hx4] at h, fun h => by have h2 : isHx 0 = true := h 3 (by omega); cases h2⟩
  | a :: b :: c :: d :: l =>
    simp only [hx4, List.length_cons, List.take_succ_cons, List.take_zero, List.all_cons, List.all_nil, Bool.and_true, Bool.and_eq_true, decide_eq_true_eq]
    constructor
    · rintro ⟨-, h0, h1, h2, h3⟩ j hj
      have : j = 0 ∨ j = 1 ∨ j = 2 ∨ j = 3 := by omega
      rcases this with rfl | rfl | rfl | rfl
      · exact h0
      · exact h1
      · exact h2
      · exact h3
    · intro h
      exact ⟨by omega, h 0 (by omega), h 1 (by omega), h 2 (by omega), h 3 (by omega)⟩
set_option maxHeartbeats 4000000 in
set_option maxRecDepth 100000 in
theorem escape_calls (S : ByteArray) (R m : Nat) (w : World) (h : RS w R S m) (hm : m ≤ S.size) (hs : S.size ≤ 140737488351232) : Calls Tryd.prog 70 #[.pointer (some ⟨R, 0, none⟩)] w (Went (esc (rest S m)) w R S m) := by
  have H := Aside0.mk h
  have HE := Aside0.mk (here_calls S R m w h)
  obtain ⟨x, hx⟩ : ∃ x, x = (rest S m).getD 0 0 := ⟨_, rfl⟩
  rw [← hx] at HE
  obtain ⟨h0, hc0, hc1, hfz⟩ := h
  by_cases he : isEs x = true
  · have hlt : m < S.size := getD_lt (by rw [← hx]; rintro rfl; cases he)
    have hes : esc (rest S m) = some 1 := by
      rw [rest_cons hlt] at hx ⊢
      have hx' : x = (S[m].toNat : Int) := hx
      rw [esc, ← hx', if_pos he]
    have HA := Aside0.mk hes
    clear hes hx
    have hor : x = 34 ∨ x = 92 ∨ x = 47 ∨ x = 98 ∨ x = 102 ∨ x = 110 ∨ x = 114 ∨ x = 116 := by
      unfold isEs at he
      simp only [Bool.or_eq_true, beq_iff_eq] at he
      omega
    clear he
    rcases hor with rfl | rfl | rfl | rfl | rfl | rfl | rfl | rfl
    all_goals
      go_enter Tryd.func70, Tryd.ntmps70
      go_wp2_with (go_at_call 50; refine HE.out.mono ?_; rintro e w1 ⟨rfl, n, rfl⟩)
      go_ret
      exact ⟨true, m + 1, rfl, (H.out.same.drewN _).set (m + 1) (by simp), hlt, by rw [HA.out]; exact ⟨rfl, rfl⟩⟩
  · have hE : isEs x = false := by simpa using he
    have hb : (x == 34) = false ∧ (x == 92) = false ∧ (x == 47) = false ∧ (x == 98) = false ∧ (x == 102) = false ∧ (x == 110) = false ∧ (x == 114) = false ∧ (x == 116) = false := by
      unfold isEs at hE
      simp only [Bool.or_eq_false_iff] at hE
      simp only [hE, and_self]
    clear he
    by_cases hu : x = 117
    · subst hu
      have hlt : m < S.size := getD_lt (by rw [← hx]; decide)
      have hes : esc (rest S m) = if hx4 (rest S (m + 1)) = true then some 5 else none := by
        rw [rest_cons hlt] at hx ⊢
        have hx' : 117 = (S[m].toNat : Int) := hx
        rw [esc, ← hx', if_neg (by decide)]
        simp
      have HA := Aside0.mk hes
      clear hes hx hb hE
      have HH := Aside0.mk (fun k W (hk : RS W R S k) => here_calls S R k W hk)
      have HX := Aside0.mk (fun y W => hex_calls y W)
      have H1 := Aside0.mk (fun n => (H.out.same.drewN n).set (m + 1) (z := (m : Int) + 1) (by simp))
      go_enter Tryd.func70, Tryd.ntmps70
      go_wp2_with (go_at_call 50; refine HE.out.mono ?_; rintro e w1 ⟨rfl, n, rfl⟩)
      go_loopw [3] (fun v3 wr => ∃ k, k ≤ 4 ∧ m + 1 + k ≤ S.size ∧ v3 = .int .i64 k ∧ Aside0 (Mv w wr R S (m + 1 + k)) ∧ Aside0 (∀ j, j < k → isHx ((rest S (m + 1)).getD j 0) = true)) (fun k _ => 4 - (intOf k).toNat)
      case atStart => exact ⟨0, by omega, by omega, rfl, ⟨H1.out _⟩, ⟨fun j hj => by omega⟩⟩
      case round =>
        obtain ⟨k, hk, hks, rfl, HM, HJ⟩ := hrel
        clear hc0 hc1 hfz h0
        obtain ⟨h0, hc0, hc1, hfz⟩ := HM.out.r
        by_cases hk4 : k < 4
        · obtain ⟨y, hy⟩ : ∃ y, y = (rest S (m + 1 + k)).getD 0 0 := ⟨_, rfl⟩
          have C := Aside0.mk (HH.out _ wr HM.out.r)
          rw [← hy] at C
          have hyg : (rest S (m + 1)).getD k 0 = y := by rw [hy, rest_getD]
          have HY := Aside0.mk (And.intro hy hyg)
          cases hh : isHx y with
          | true =>
            have hlt2 : m + 1 + k < S.size := getD_lt (by rw [← hy]; rintro rfl; cases hh)
            have HJ2 : Aside0 (∀ j, j < k + 1 → isHx ((rest S (m + 1)).getD j 0) = true) := ⟨fun j hj => by
              by_cases e : j = k
              · rw [e, hyg, hh]
              · exact HJ.out j (by omega)⟩
            have X := Aside0.mk (fun W => hex_calls y W)
            rw [hh] at X
            clear hy hyg hh
            go_wp2_with (first
              | (go_at_call 50; refine C.out.mono ?_; rintro e w1 ⟨rfl, n2, rfl⟩)
              | (go_at_call 62; refine (X.out _).mono ?_; rintro e w1 ⟨v, rfl, rfl⟩))
            go_roundw
            case rel => exact ⟨k + 1, by omega, by omega, by go_num, ⟨by have := (HM.out.drewN n2).set (m + 1 + (k + 1)) (z := (m : Int) + 1 + (k : Int) + 1) (by simp; omega); simpa using this⟩, HJ2⟩
            case measure => simp [intOf]; omega
          | false =>
            have hn : esc (rest S m) = none := by
              rw [HA.out, if_neg]
              intro h4
              have := (hx4_iff _).1 h4 k hk4
              rw [hyg, hh] at this
              cases this
            have HN := Aside0.mk hn
            have X := Aside0.mk (fun W => hex_calls y W)
            rw [hh] at X
            clear hy hyg hh hn
            go_wp2_with (first
              | (go_at_call 50; refine C.out.mono ?_; rintro e w1 ⟨rfl, n2, rfl⟩)
              | (go_at_call 62; refine (X.out _).mono ?_; rintro e w1 ⟨v, rfl, rfl⟩))
            go_ret
            exact ⟨false, _, rfl, HM.out.drewN _, hks, by rw [HN.out]; exact rfl⟩
        · obtain rfl : k = 4 := by omega
          have hn : esc (rest S m) = some 5 := by rw [HA.out, if_pos ((hx4_iff _).2 HJ.out)]
          have HN := Aside0.mk hn
          clear hn
          go_wp2_with fail
          go_ret
          exact ⟨true, _, rfl, HM.out, hks, by rw [HN.out]; exact ⟨rfl, by omega⟩⟩
    · have hub : (x == 117) = false := by simpa using hu
      have hes : esc (rest S m) = none := by
        by_cases hlt : m < S.size
        · rw [rest_cons hlt] at hx ⊢
          have hx' : x = (S[m].toNat : Int) := hx
          rw [esc, ← hx', hE, hub]
          rfl
        · rw [rest_nil hlt]; rfl
      have HA := Aside0.mk hes
      obtain ⟨b1, b2, b3, b4, b5, b6, b7, b8⟩ := hb
      clear hes hx hE hu
      go_enter Tryd.func70, Tryd.ntmps70
      go_wp2_with (go_at_call 50; refine HE.out.mono ?_; rintro e w1 ⟨rfl, n, rfl⟩)
      go_ret
      exact ⟨false, m, rfl, H.out.same.drewN _, hm, by rw [HA.out]; exact rfl⟩
theorem quo_cons (c : Int) (l : List Int) : quo (c :: l) = if c = 34 then some 1 else if c < 32 then none else if c = 92 then (match esc l with | none => none | some k => (quo (l.drop k)).map (· + (k + 1))) else (quo l).map (· + 1) := by rw [quo]; cases esc l <;> rfl
set_option maxHeartbeats 4000000 in
set_option maxRecDepth 100000 in
theorem quoted_calls (S : ByteArray) (R m : Nat) (w : World) (h : RS w R S m) (hm : m < S.size) (hs : S.size ≤ 140737488351232) : Calls Tryd.prog 53 #[.pointer (some ⟨R, 0, none⟩)] w (Went ((quo (rest S (m + 1))).map (1 + ·)) w R S m) := by
  have H := Aside0.mk h
  obtain ⟨h0, hc0, hc1, hfz⟩ := h
  go_enter Tryd.func53, Tryd.ntmps53
  go_wp2_with fail
  go_loopw [] (fun wr => ∃ k, m + 1 ≤ k ∧ k ≤ S.size ∧ Aside0 (Mv w wr R S k) ∧ Aside0 (quo (rest S (m + 1)) = (quo (rest S k)).map (k - (m + 1) + ·))) (fun wr => S.size - plc wr R)
  case atStart => exact ⟨m + 1, Nat.le_refl _, hm, ⟨H.out.same.set (m + 1) (by simp)⟩, ⟨by simp⟩⟩
  case round =>
    obtain ⟨k, hk1, hk, HM, HQ⟩ := hrel
    clear hc0 hc1 hfz h0
    obtain ⟨h0, hc0, hc1, hfz⟩ := HM.out.r
    by_cases hlt : k < S.size
    · obtain ⟨x, hx⟩ : ∃ x, (S[k].toNat : Int) = x := ⟨_, rfl⟩
      have HC := rest_cons hlt
      rw [hx] at HC
      have hQ := HQ.out
      rw [HC, quo_cons] at hQ
      have H2 := Aside0.mk (fun n => (HM.out.drewN n).set (k + 1) (z := (k : Int) + 1) (by simp))
      clear HC
      by_cases h34 : x = 34
      · subst h34
        rw [if_pos rfl] at hQ
        have HQ2 := Aside0.mk hQ
        clear hQ
        go_upto_region 2 with fail
        go_quiet (fail)
        go_upto_region 3 with fail
        go_quiet (fail)
        go_wp2_with fail
        go_ret
        exact ⟨true, k + 1, rfl, H2.out _, hlt, by rw [HQ2.out]; refine ⟨rfl, ?_⟩; show k + 1 = m + (1 + (k - (m + 1) + 1)); omega⟩
      · rw [if_neg h34] at hQ
        have b34 : (x == 34) = false := by simpa using h34
        by_cases h32 : x < 32
        · rw [if_pos h32] at hQ
          have HQ2 := Aside0.mk hQ
          clear hQ h34
          go_upto_region 2 with fail
          go_quiet (fail)
          go_upto_region 3 with fail
          go_quiet (fail)
          go_wp2_with fail
          go_ret
          exact ⟨false, k + 1, rfl, H2.out _, hlt, by rw [HQ2.out]; exact rfl⟩
        · rw [if_neg h32] at hQ
          by_cases h92 : x = 92
          · subst h92
            rw [if_pos rfl] at hQ
            have HQ2 := Aside0.mk hQ
            clear hQ h34 h32 b34
            go_upto_region 2 with fail
            go_quiet (fail)
            go_upto_region 3 with fail
            go_quiet (fail)
            go_upto_if 48 with (go_at_call 70; refine (escape_calls S R (k + 1) _ (H2.out _).r hlt hs).mono ?_; rintro e w1 ⟨b, p, rfl, M2, hp, ha⟩; have HA := Aside0.mk ha; have M2 := Aside0.mk ((H2.out _).trans M2); clear ha)
            cases b with
            | true =>
              cases he : esc (rest S (k + 1)) with
              | none => have := HA.out; rw [he] at this; cases this
              | some j =>
                have h5 := HA.out
                rw [he] at h5
                obtain ⟨-, hpj⟩ := h5
                have hQ := HQ2.out
                rw [he] at hQ
                simp only [rest_drop, ← hpj] at hQ
                have HQ3 := Aside0.mk hQ
                clear hQ he
                have hpl := Aside0.mk hpj
                clear hpj
                go_wp2_with fail
                refine ⟨⟨p, by have := hpl.out; omega, hp, M2, ⟨?_⟩⟩, ?_⟩
                · rw [HQ3.out, Option.map_map]
                  congr 1
                  funext z
                  have := hpl.out
                  simp only [Function.comp]
                  omega
                · rw [M2.out.r.plc, HM.out.r.plc]; have := hpl.out; omega
            | false =>
              have he : esc (rest S (k + 1)) = none := by
                cases he : esc (rest S (k + 1)) with
                | none => rfl
                | some j => have h5 := HA.out; rw [he] at h5; cases h5.1
              have hQ := HQ2.out
              rw [he] at hQ
              have HQ3 := Aside0.mk hQ
              clear hQ he
              go_wp2_with fail
              go_ret
              exact ⟨false, p, rfl, M2.out, hp, by rw [HQ3.out]; exact rfl⟩
          · rw [if_neg h92] at hQ
            have b92 : (x == 92) = false := by simpa using h92
            have HQ2 := Aside0.mk hQ
            clear hQ h34 h92
            go_upto_region 2 with fail
            go_quiet (fail)
            go_upto_region 3 with fail
            go_quiet (fail)
            go_wp2_with fail
            refine ⟨⟨k + 1, by omega, hlt, ⟨H2.out _⟩, ⟨?_⟩⟩, ?_⟩
            · rw [HQ2.out, Option.map_map]
              congr 1
              funext z
              simp only [Function.comp]
              omega
            · rw [(H2.out _).r.plc, HM.out.r.plc]; omega
    · have hQ := HQ.out
      rw [rest_nil hlt] at hQ
      have hn : quo (rest S (m + 1)) = none := by rw [hQ, quo]; rfl
      have HN := Aside0.mk hn
      clear hn hQ
      go_upto_region 2 with fail
      go_quiet (fail)
      go_wp2_with fail
      go_ret
      exact ⟨false, k, rfl, HM.out.drewN _, hk, by rw [HN.out]; exact rfl⟩
end Go.Proofs.YtpahejmkidhhhaaDoor.G
