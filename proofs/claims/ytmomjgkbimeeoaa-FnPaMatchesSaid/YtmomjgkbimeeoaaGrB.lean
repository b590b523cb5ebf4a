/- The reference's reader: digits, words, numbers. -/
import Derived.Test.YtmomjgkbimeeoaaGrA
namespace Go.Proofs.Ytmomjgkbimeeoaa.G
set_option linter.unusedVariables false
set_option linter.unusedSimpArgs false
open Go.RowKit Go.Proofs.YtmomjgkbimeeoaaW.PrintWords

theorem dg_first {S : ByteArray} {k : Nat} : isDg ((rest S k).getD 0 0) = true → k < S.size ∧ dg (rest S k) = dg (rest S (k + 1)) + 1 := by
  intro h
  by_cases hlt : k < S.size
  · rw [rest_cons hlt] at h ⊢
    rw [dg_cons, if_pos (by simpa using h)]
    exact ⟨hlt, rfl⟩
  · rw [rest_nil hlt] at h; cases h
theorem dg_none {S : ByteArray} {k : Nat} : isDg ((rest S k).getD 0 0) = false → dg (rest S k) = 0 := by
  intro h
  by_cases hlt : k < S.size
  · rw [rest_cons hlt] at h ⊢
    rw [dg_cons, if_neg (by simpa using h)]
  · rw [rest_nil hlt]; rfl
set_option maxHeartbeats 4000000 in
set_option maxRecDepth 100000 in
theorem digits_calls (S : ByteArray) (R m : Nat) (w : World) (h : RS w R S m) (hm : m ≤ S.size) (hs : S.size ≤ 140737488351232) : Calls Try.prog 28 #[.pointer (some ⟨R, 0, none⟩)] w (fun e w' => e = .returned (.bool (decide (0 < dg (rest S m)))) ∧ Mv w w' R S (m + dg (rest S m))) := by
  have H := Aside0.mk h
  have HE := Aside0.mk (fun k W => here_calls S R k W)
  obtain ⟨h0, hc0, hc1, hfz⟩ := h
  go_enter Try.func28, Try.ntmps28
  go_wp2_with (go_at_call 31; refine (HE.out _ _ H.out).mono ?_; rintro e w1 ⟨rfl, n, rfl⟩)
  go_loopw [4] (fun v4 wr => ∃ k, k ≤ S.size ∧ v4 = .int .u8 ((rest S k).getD 0 0) ∧ Aside0 (Mv w wr R S k) ∧ Aside0 (m ≤ k) ∧ Aside0 (k + dg (rest S k) = m + dg (rest S m))) (fun _ wr => S.size - plc wr R)
  case atStart => exact ⟨m, hm, rfl, ⟨H.out.same.drewN _⟩, ⟨Nat.le_refl _⟩, ⟨rfl⟩⟩
  case round =>
    obtain ⟨k, hk, rfl, HM, HL, HK⟩ := hrel
    clear hc0 hc1 hfz h0
    obtain ⟨h0, hc0, hc1, hfz⟩ := HM.out.r
    obtain ⟨x, hx⟩ : ∃ x, x = (rest S k).getD 0 0 := ⟨_, rfl⟩
    rw [← hx]
    cases hd : isDg x with
    | true =>
      have hd2 := hd
      rw [hx] at hd2
      obtain ⟨hlt, hdg⟩ := dg_first hd2
      have hb : 48 ≤ x ∧ x ≤ 57 := by unfold isDg at hd; simpa using hd
      obtain ⟨hb1, hb2⟩ := hb
      have H2 := Aside0.mk (HM.out.set (k + 1) (z := (k : Int) + 1) (by simp))
      have HX := Aside0.mk (And.intro hx hdg)
      clear hx hd hd2 hdg
      go_wp2_with (go_at_call 31; refine (HE.out (k + 1) _ H2.out.r).mono ?_; rintro e w1 ⟨rfl, n, rfl⟩)
      have H3 := H2.out.drewN n
      refine ⟨⟨k + 1, by omega, rfl, ⟨H3⟩, ⟨by have := HL.out; omega⟩, ⟨?_⟩⟩, ?_⟩
      · have := HK.out; have := HX.out.2; omega
      · rw [H3.r.plc, HM.out.r.plc]; omega
    | false =>
      have hd2 := hd
      rw [hx] at hd2
      have hdg := dg_none hd2
      have hk2 : k = m + dg (rest S m) := by have := HK.out; omega
      have HX := Aside0.mk (And.intro hx (And.intro hdg hk2))
      have hlen := HL.out
      have hgt : Aside0 (decide (m < k) = decide (0 < dg (rest S m))) := ⟨by rw [decide_eq_decide]; omega⟩
      by_cases hb1 : 48 ≤ x
      · have hb2 : ¬ x ≤ 57 := by unfold isDg at hd; simp [hb1] at hd; omega
        clear hx hd hd2 hdg hk2 hlen
        go_wp2_with fail
        go_ret
        refine ⟨?_, by rw [← HX.out.2.2]; exact HM.out⟩
        show Ending.returned (Value.bool (decide (m < k))) = _
        rw [hgt.out]
      · clear hx hd hd2 hdg hk2 hlen
        go_wp2_with fail
        go_ret
        refine ⟨?_, by rw [← HX.out.2.2]; exact HM.out⟩
        show Ending.returned (Value.bool (decide (m < k))) = _
        rw [hgt.out]
/-- An answer: whether, and how far. -/
def Ans (o : Option Nat) (b : Bool) (m p : Nat) : Prop := match o with | none => b = false | some k => b = true ∧ p = m + k
def Went (o : Option Nat) (w : World) (R : Nat) (S : ByteArray) (m : Nat) (e : Ending) (w' : World) : Prop :=
  ∃ (b : Bool) (p : Nat), e = .returned (.bool b) ∧ Mv w w' R S p ∧ p ≤ S.size ∧ Ans o b m p
theorem tk_lt {S : ByteArray} {c : Int} {m : Nat} (h : tk c (rest S m) = true) : m < S.size := by have := tk_len h; rw [rest_len] at this; omega
set_option maxHeartbeats 4000000 in
set_option maxRecDepth 100000 in
theorem number_calls (S : ByteArray) (R m : Nat) (w : World) (h : RS w R S m) (hm : m ≤ S.size) (hs : S.size ≤ 140737488351232) : Calls Try.prog 22 #[.pointer (some ⟨R, 0, none⟩)] w (Went (num (rest S m)) w R S m) := by
  have H := Aside0.mk h
  have HT := Aside0.mk (fun k c W (hk : RS W R S k) => take_calls S R k c W hk hs)
  have HD := Aside0.mk (fun k W (hk : RS W R S k) (hk2 : k ≤ S.size) => digits_calls S R k W hk hk2 hs)
  clear h
  go_enter Try.func22, Try.ntmps22
  obtain ⟨p1, hp1⟩ : ∃ p1, p1 = m + mns (rest S m) := ⟨_, rfl⟩
  have hp1s : p1 ≤ S.size := by have := mns_le (rest S m); rw [rest_len] at this; omega
  go_upto_region 2 with (go_at_call 27; refine (HT.out _ _ _ H.out).mono ?_; rintro e w1 ⟨rfl, M1⟩)
  have M1 : Mv w w1 R S p1 := by
    have e : (if tk 45 (rest S m) = true then m + 1 else m) = p1 := by rw [hp1]; unfold mns; split <;> rfl
    rw [e] at M1; exact M1
  have M1 := Aside0.mk M1
  have HP1 := Aside0.mk hp1
  clear hp1
  go_cut [12] (fun v12 wx => ∃ b : Bool, v12 = .bool b ∧ Aside0 (match ints (rest S p1) with | none => b = true ∧ ∃ p, p ≤ S.size ∧ Mv w wx R S p | some i => b = false ∧ Mv w wx R S (p1 + i)))
  case first =>
    have T := Aside0.mk (HT.out p1 48 w1 M1.out.r)
    cases h0 : tk 48 (rest S p1) with
    | true =>
      have hi : ints (rest S p1) = some 1 := by unfold ints; rw [h0]; rfl
      rw [h0] at T
      go_wp2_with (go_at_call 27; refine T.out.mono ?_; rintro e w2 ⟨rfl, M2⟩)
      go_meet
      exact ⟨false, rfl, ⟨by rw [hi]; exact ⟨rfl, M1.out.trans M2⟩⟩⟩
    | false =>
      rw [h0] at T
      cases hd : decide (0 < dg (rest S p1)) with
      | true =>
        have hi : ints (rest S p1) = some (dg (rest S p1)) := by unfold ints; rw [h0]; simp at hd; simp; omega
        go_wp2_with (first
          | (go_at_call 27; refine T.out.mono ?_; rintro e w2 ⟨rfl, M2⟩)
          | (go_at_call 28; refine (HD.out p1 _ M2.r hp1s).mono ?_; rw [hd]; rintro e w3 ⟨rfl, M3⟩))
        go_meet
        exact ⟨false, rfl, ⟨by rw [hi]; exact ⟨rfl, (M1.out.trans M2).trans M3⟩⟩⟩
      | false =>
        have hi : ints (rest S p1) = none := by unfold ints; rw [h0]; simp at hd; simp; omega
        go_wp2_with (first
          | (go_at_call 27; refine T.out.mono ?_; rintro e w2 ⟨rfl, M2⟩)
          | (go_at_call 28; refine (HD.out p1 _ M2.r hp1s).mono ?_; rw [hd]; rintro e w3 ⟨rfl, M3⟩))
        go_meet
        exact ⟨true, rfl, ⟨by rw [hi]; exact ⟨rfl, _, by have := dg_le (rest S p1); rw [rest_len] at this; omega, (M1.out.trans M2).trans M3⟩⟩⟩
  case rest =>
    obtain ⟨b, rfl, HI⟩ := hcut
    cases hi : ints (rest S p1) with
    | none =>
      rw [hi] at HI
      obtain ⟨rfl, p, hp, M2⟩ := HI.out
      have hn : num (rest S m) = none := by unfold num; rw [rest_drop, ← HP1.out, hi]
      go_wp2_with fail
      go_ret
      exact ⟨false, p, rfl, M2, hp, rfl⟩
    | some i =>
      rw [hi] at HI
      obtain ⟨rfl, M2⟩ := HI.out
      obtain ⟨p2, hp2⟩ : ∃ p2, p2 = p1 + i := ⟨_, rfl⟩
      have hp2s : p2 ≤ S.size := by have := ints_le hi; rw [rest_len] at this; omega
      rw [← hp2] at M2
      have HI2 := Aside0.mk (And.intro hi hp2)
      have M2 := Aside0.mk M2
      clear hi hp2 HI
      go_upto_region 4 with fail
      go_cut [19] (fun v19 wx => ∃ b : Bool, v19 = .bool b ∧ Aside0 (match frac (rest S p2) with | none => b = true ∧ ∃ p, p ≤ S.size ∧ Mv w wx R S p | some i => b = false ∧ Mv w wx R S (p2 + i)))
      case first =>
        have T := Aside0.mk (HT.out p2 46 wc M2.out.r)
        cases h0 : tk 46 (rest S p2) with
        | false =>
          have hi : frac (rest S p2) = some 0 := by unfold frac; rw [h0]; rfl
          rw [h0] at T
          go_wp2_with (go_at_call 27; refine T.out.mono ?_; rintro e w2 ⟨rfl, M3⟩)
          go_meet
          exact ⟨false, rfl, ⟨by rw [hi]; exact ⟨rfl, M2.out.trans M3⟩⟩⟩
        | true =>
          rw [h0] at T
          have hp2l := tk_lt h0
          cases hd : decide (0 < dg (rest S (p2 + 1))) with
          | true =>
            have hi : frac (rest S p2) = some (1 + dg (rest S (p2 + 1))) := by unfold frac; rw [h0, rest_drop]; simp at hd; simp; omega
            go_wp2_with (first
              | (go_at_call 27; refine T.out.mono ?_; rintro e w2 ⟨rfl, M3⟩)
              | (go_at_call 28; refine (HD.out (p2 + 1) _ M3.r hp2l).mono ?_; rw [hd]; rintro e w3 ⟨rfl, M4⟩))
            go_meet
            exact ⟨false, rfl, ⟨by rw [hi]; exact ⟨rfl, (M2.out.trans M3).trans (by rw [← Nat.add_assoc]; exact M4)⟩⟩⟩
          | false =>
            have hi : frac (rest S p2) = none := by unfold frac; rw [h0, rest_drop]; simp at hd; simp; omega
            go_wp2_with (first
              | (go_at_call 27; refine T.out.mono ?_; rintro e w2 ⟨rfl, M3⟩)
              | (go_at_call 28; refine (HD.out (p2 + 1) _ M3.r hp2l).mono ?_; rw [hd]; rintro e w3 ⟨rfl, M4⟩))
            go_meet
            exact ⟨true, rfl, ⟨by rw [hi]; exact ⟨rfl, _, by have := dg_le (rest S (p2 + 1)); rw [rest_len] at this; omega, (M2.out.trans M3).trans M4⟩⟩⟩
      case rest =>
        obtain ⟨b, rfl, HI⟩ := hcut
        cases hi : frac (rest S p2) with
        | none =>
          rw [hi] at HI
          obtain ⟨rfl, p, hp, M3⟩ := HI.out
          have hn : num (rest S m) = none := by unfold num; rw [rest_drop, ← HP1.out, HI2.out.1]; simp only []; rw [rest_drop, ← Nat.add_assoc, ← HP1.out, ← HI2.out.2, hi]
          go_wp2_with fail
          go_ret
          exact ⟨false, p, rfl, M3, hp, rfl⟩
        | some f =>
          rw [hi] at HI
          obtain ⟨rfl, M3⟩ := HI.out
          obtain ⟨p3, hp3⟩ : ∃ p3, p3 = p2 + f := ⟨_, rfl⟩
          have hp3s : p3 ≤ S.size := by have := frac_le hi; rw [rest_len] at this; omega
          rw [← hp3] at M3
          have hn : num (rest S m) = (expo (rest S p3)).map (mns (rest S m) + i + f + ·) := by
            unfold num; rw [rest_drop, ← HP1.out, HI2.out.1]; simp only []; rw [rest_drop, ← Nat.add_assoc, ← HP1.out, ← HI2.out.2, hi]; simp only []
            rw [rest_drop, ← Nat.add_assoc, ← Nat.add_assoc, ← HP1.out, ← HI2.out.2, ← hp3]
          have hpm : p3 = m + (mns (rest S m) + i + f) := by have := HP1.out; have := HI2.out.2; omega
          have HN := Aside0.mk (And.intro hn hpm)
          have M3 := Aside0.mk M3
          clear hi hp3 HI hn hpm
          go_upto_region 6 with fail
          go_cut [25] (fun v25 wx => ∃ b : Bool, v25 = .bool b ∧ Aside0 (b = (tk 101 (rest S p3) || tk 69 (rest S p3)) ∧ Mv w wx R S (if b then p3 + 1 else p3)))
          case first =>
            have T := Aside0.mk (HT.out p3 101 wc M3.out.r)
            cases h0 : tk 101 (rest S p3) with
            | true =>
              rw [h0] at T
              go_wp2_with (go_at_call 27; refine T.out.mono ?_; rintro e w2 ⟨rfl, M4⟩)
              go_meet
              exact ⟨true, rfl, ⟨by rw [h0]; rfl, M3.out.trans M4⟩⟩
            | false =>
              rw [h0] at T
              cases h1 : tk 69 (rest S p3) with
              | true =>
                go_wp2_with (first
                  | (go_at_call 27; refine (HT.out p3 69 _ M4.r).mono ?_; rw [h1]; rintro e w3 ⟨rfl, M5⟩)
                  | (go_at_call 27; refine T.out.mono ?_; rintro e w2 ⟨rfl, M4⟩))
                go_meet
                exact ⟨true, rfl, ⟨by rw [h0, h1]; rfl, (M3.out.trans M4).trans M5⟩⟩
              | false =>
                go_wp2_with (first
                  | (go_at_call 27; refine (HT.out p3 69 _ M4.r).mono ?_; rw [h1]; rintro e w3 ⟨rfl, M5⟩)
                  | (go_at_call 27; refine T.out.mono ?_; rintro e w2 ⟨rfl, M4⟩))
                go_meet
                exact ⟨false, rfl, ⟨by rw [h0, h1]; rfl, (M3.out.trans M4).trans M5⟩⟩
          case rest =>
            obtain ⟨b, rfl, HI⟩ := hcut
            cases b with
            | false =>
              have he : expo (rest S p3) = some 0 := by unfold expo; rw [← HI.out.1]; rfl
              have HN2 := HN.out
              rw [he] at HN2
              have M4 := Aside0.mk HI.out.2
              have HN2 := Aside0.mk HN2
              clear HN he HI
              go_wp2_with fail
              go_ret
              refine ⟨true, p3, rfl, M4.out, hp3s, ?_⟩
              rw [HN2.out.1]
              exact ⟨rfl, by rw [HN2.out.2]; rfl⟩
            | true =>
              have hlt : p3 < S.size := by
                rcases (Bool.or_eq_true _ _).mp HI.out.1.symm with h | h <;> exact tk_lt h
              have M4 : Mv w wc R S (p3 + 1) := HI.out.2
              have hx : expo (rest S p3) = if dg (rest S (p3 + 1 + sgn (rest S (p3 + 1)))) = 0 then none else some (1 + sgn (rest S (p3 + 1)) + dg (rest S (p3 + 1 + sgn (rest S (p3 + 1))))) := by
                unfold expo; rw [← HI.out.1, rest_drop, rest_drop, ← Nat.add_assoc]; rfl
              have HX := Aside0.mk hx
              have M4 := Aside0.mk M4
              clear hx HI
              have T := Aside0.mk (HT.out (p3 + 1) 43 wc M4.out.r)
              have fin : ∀ (q : Nat) (wz : World), q = p3 + 1 + sgn (rest S (p3 + 1)) → q ≤ S.size → Mv w wz R S (q + dg (rest S q)) → Went (num (rest S m)) w R S m (.returned (.bool (decide (0 < dg (rest S q))))) wz := by
                intro q wz hq hqs hM
                have hdl := dg_le (rest S q)
                rw [rest_len] at hdl
                refine ⟨_, _, rfl, hM, by omega, ?_⟩
                have hx := HX.out
                rw [HN.out.1, hx, ← hq]
                by_cases hz : dg (rest S q) = 0
                · rw [if_pos hz, hz]; rfl
                · rw [if_neg hz]; exact ⟨by simp; omega, by have := HN.out.2; simp only []; omega⟩
              have FIN := Aside0.mk fin
              clear fin
              cases h0 : tk 43 (rest S (p3 + 1)) with
              | true =>
                rw [h0] at T
                have hq := tk_lt h0
                have HQ : Aside0 (p3 + 1 + 1 = p3 + 1 + sgn (rest S (p3 + 1))) := ⟨by unfold sgn; rw [h0]; rfl⟩
                clear h0
                go_wp2_with (first
                  | (go_at_call 27; refine T.out.mono ?_; rintro e w2 ⟨rfl, M5⟩)
                  | (go_at_call 28; refine (HD.out (p3 + 1 + 1) _ M5.r hq).mono ?_; rintro e w3 ⟨rfl, M6⟩))
                go_ret
                exact FIN.out _ _ HQ.out hq ((M4.out.trans M5).trans M6)
              | false =>
                rw [h0] at T
                cases h1 : tk 45 (rest S (p3 + 1)) with
                | true =>
                  have hq := tk_lt h1
                  have HQ : Aside0 (p3 + 1 + 1 = p3 + 1 + sgn (rest S (p3 + 1))) := ⟨by unfold sgn; rw [h0, h1]; rfl⟩
                  go_wp2_with (first
                    | (go_at_call 27; refine (HT.out (p3 + 1) 45 _ M5.r).mono ?_; rw [h1]; rintro e w3 ⟨rfl, M6⟩)
                    | (go_at_call 27; refine T.out.mono ?_; rintro e w2 ⟨rfl, M5⟩)
                    | (go_at_call 28; refine (HD.out (p3 + 1 + 1) _ M6.r hq).mono ?_; rintro e w4 ⟨rfl, M7⟩))
                  go_ret
                  exact FIN.out _ _ HQ.out hq (((M4.out.trans M5).trans M6).trans M7)
                | false =>
                  have HQ : Aside0 (p3 + 1 = p3 + 1 + sgn (rest S (p3 + 1))) := ⟨by unfold sgn; rw [h0, h1]; rfl⟩
                  go_wp2_with (first
                    | (go_at_call 27; refine (HT.out (p3 + 1) 45 _ M5.r).mono ?_; rw [h1]; rintro e w3 ⟨rfl, M6⟩)
                    | (go_at_call 27; refine T.out.mono ?_; rintro e w2 ⟨rfl, M5⟩)
                    | (go_at_call 28; refine (HD.out (p3 + 1) _ M6.r hlt).mono ?_; rintro e w4 ⟨rfl, M7⟩))
                  go_ret
                  exact FIN.out _ _ HQ.out hlt (((M4.out.trans M5).trans M6).trans M7)
end Go.Proofs.Ytmomjgkbimeeoaa.G
