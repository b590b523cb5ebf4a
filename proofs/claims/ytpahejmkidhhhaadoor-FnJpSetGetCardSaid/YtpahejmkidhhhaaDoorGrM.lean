/- The reference's reader: members. -/
import Derived.Test.YtpahejmkidhhhaaDoorGrE
namespace Go.Proofs.YtpahejmkidhhhaaDoor.G
set_option linter.unusedVariables false
set_option linter.unusedSimpArgs false
open Go.RowKit Go.Proofs.YtpahejmkidhhhaaDoorW.PrintWords

def MbsA (o : Option (List (Nat × Nat) × List Pl × Nat)) (w : World) (R : Nat) (S : ByteArray) (m : Nat) (e : Ending) (w' : World) : Prop :=
  ∃ (na : Option Addr) (nn nc : Nat) (ka : Option Addr) (kn kc : Nat) (ok : Bool) (p : Nat), e = .returned (.tuple #[.slice na nn nc, .slice ka kn kc, .bool ok]) ∧ Mv w w' R S p ∧ p ≤ S.size ∧
    Aside0 (match o with | none => ok = false | some (ns, ps, j) => ok = true ∧ p = m + j ∧ RowF w' (From w.heap.size) 64 2 (.slice na nn nc) ns.length (spans ns) ∧ ∃ xs, RowF w' (From w.heap.size) 27 5 (.slice ka kn kc) ps.length xs ∧ PlsAt w' (From w.heap.size) ps xs)
theorem tk_head {S : ByteArray} {c : Int} {k : Nat} (hc : c ≠ 0) : tk c (rest S k) = ((rest S k).getD 0 0 == c) := by
  by_cases hlt : k < S.size
  · rw [rest_cons hlt]; rfl
  · rw [rest_nil hlt]; simp [tk]; exact fun h => hc h.symm
theorem nam_no1 {S : ByteArray} {k : Nat} (h : tk 34 (rest S k) = false) : nam (rest S k) = none := by unfold nam; rw [h]; rfl
theorem nam_no2 {S : ByteArray} {k : Nat} (h : tk 34 (rest S k) = true) (hq : quo (rest S (k + 1)) = none) : nam (rest S k) = none := by unfold nam; rw [h, rest_drop, hq]; rfl
theorem nam_no3 {S : ByteArray} {k q f c : Nat} (h : tk 34 (rest S k) = true) (hq : quo (rest S (k + 1)) = some q) (hf : f = k + (1 + q)) (hc : c = f + bl (rest S f)) (h58 : tk 58 (rest S c) = false) : nam (rest S k) = none := by
  unfold nam; rw [h, rest_drop, hq]
  simp only [if_true, rest_drop]
  rw [← hf, show k + (1 + q + bl (rest S f)) = c by omega, h58]; rfl
theorem nam_yes {S : ByteArray} {k q f c d : Nat} (h : tk 34 (rest S k) = true) (hq : quo (rest S (k + 1)) = some q) (hf : f = k + (1 + q)) (hc : c = f + bl (rest S f)) (h58 : tk 58 (rest S c) = true) (hd : d = c + 1 + bl (rest S (c + 1))) : nam (rest S k) = some (1 + q, d - k) := by
  unfold nam; rw [h, rest_drop, hq]
  simp only [if_true, rest_drop]
  rw [← hf, show k + (1 + q + bl (rest S f)) = c by omega, h58, show k + (1 + q + bl (rest S f) + 1) = c + 1 by omega, show 1 + q + bl (rest S f) + 1 + bl (rest S (c + 1)) = d - k by omega]; rfl
theorem M_none1 {S : ByteArray} {k : Nat} (hn : nam (rest S k) = none) : M k (rest S k) = none := by rw [M_eq, hn]
theorem M_none2 {S : ByteArray} {k n d : Nat} (hn : nam (rest S k) = some (n, d - k)) (hkd : k ≤ d) (hv : V d (rest S d) = none) : M k (rest S k) = none := by
  rw [M_eq, hn]
  simp only [rest_drop]
  rw [show k + (d - k) = d by omega, hv]
theorem M_last {S : ByteArray} {k n d p r j : Nat} {t : Pl} (hn : nam (rest S k) = some (n, d - k)) (hkd : k ≤ d) (hv : V d (rest S d) = some (t, j)) (hp : p = d + j) (hr : r = p + bl (rest S p)) (h : tk 125 (rest S r) = true) : M k (rest S k) = some ([(k, k + n)], [t], r + 1 - k) := by
  rw [M_eq, hn]
  simp only [rest_drop]
  rw [show k + (d - k) = d by omega, hv]
  simp only []
  rw [show k + (d - k + j) = p by omega, show k + (d - k + j + bl (rest S p)) = r by omega, h]
  simp
  omega
theorem M_bad {S : ByteArray} {k n d p r j : Nat} {t : Pl} (hn : nam (rest S k) = some (n, d - k)) (hkd : k ≤ d) (hv : V d (rest S d) = some (t, j)) (hp : p = d + j) (hr : r = p + bl (rest S p)) (h : tk 125 (rest S r) = false) (h2 : tk 44 (rest S r) = false) : M k (rest S k) = none := by
  rw [M_eq, hn]
  simp only [rest_drop]
  rw [show k + (d - k) = d by omega, hv]
  simp only []
  rw [show k + (d - k + j) = p by omega, show k + (d - k + j + bl (rest S p)) = r by omega, h, h2]
  simp
theorem M_more {S : ByteArray} {k n d p r s j : Nat} {t : Pl} (hn : nam (rest S k) = some (n, d - k)) (hkd : k ≤ d) (hv : V d (rest S d) = some (t, j)) (hp : p = d + j) (hr : r = p + bl (rest S p)) (h : tk 125 (rest S r) = false) (h2 : tk 44 (rest S r) = true) (hs : s = r + 1 + bl (rest S (r + 1))) :
    M k (rest S k) = (M s (rest S s)).map fun x => ((k, k + n) :: x.1, t :: x.2.1, s - k + x.2.2) := by
  rw [M_eq, hn]
  simp only [rest_drop]
  rw [show k + (d - k) = d by omega, hv]
  simp only []
  rw [show k + (d - k + j) = p by omega, show k + (d - k + j + bl (rest S p)) = r by omega, h, h2, show k + (d - k + j + bl (rest S p) + 1) = r + 1 by omega, show k + (d - k + j + bl (rest S p) + 1 + bl (rest S (r + 1))) = s by omega]
  simp only [Bool.false_eq_true, if_false, if_true]
  congr 1
  funext x
  rw [show d - k + j + bl (rest S p) + 1 + bl (rest S (r + 1)) = s - k by omega]
set_option maxHeartbeats 8000000 in
set_option maxRecDepth 100000 in
theorem members_calls (S : ByteArray) (R m : Nat) (w : World) (h : RS w R S m) (hm : m < S.size) (hs : S.size ≤ 2147483647)
    (VH : ∀ k W, m < k → k ≤ S.size → RS W R S k → Calls Tryd.prog 37 #[.pointer (some ⟨R, 0, none⟩)] W (ValA (V k (rest S k)) W R S k)) :
    Calls Tryd.prog 51 #[.pointer (some ⟨R, 0, none⟩)] w (MbsA ((obj V (m + 1) (rest S (m + 1))).map fun r => (r.1, r.2.1, 1 + r.2.2)) w R S m) := by
  have H := Aside0.mk h
  have VH := Aside0.mk VH
  have hs2 : S.size ≤ 140737488351232 := by omega
  have HH := Aside0.mk (fun k W (hk : RS W R S k) => here_calls S R k W hk)
  have HU := Aside0.mk (fun k W (hk : RS W R S k) (hk2 : k < S.size) => quoted_calls S R k W hk hk2 hs2)
  have HB := Aside0.mk (fun k W (hk : RS W R S k) (hk2 : k ≤ S.size) => blanks_calls S R k W hk hk2 hs2)
  have HT := Aside0.mk (fun k c W (hk : RS W R S k) => take_calls S R k c W hk hs2)
  have M1 := Aside0.mk (h.same.set (m + 1) (z := (m : Int) + 1) (by simp))
  have hR := Aside0.mk h.lt
  obtain ⟨h0, hc0, hc1, hfz⟩ := h
  obtain ⟨q, hq⟩ : ∃ q, q = m + 1 + bl (rest S (m + 1)) := ⟨_, rfl⟩
  have hqs : q ≤ S.size := by have := bl_le (rest S (m + 1)); rw [rest_len] at this; omega
  have hl := obj_V (m + 1) (rest S (m + 1))
  rw [rest_drop, ← hq] at hl
  have HL := Aside0.mk hl
  have HQ := Aside0.mk hq
  have HBq := Aside0.mk (HB.out (m + 1) _ M1.out.r hm)
  rw [← hq] at HBq
  clear hl
  cases h93 : tk 125 (rest S q) with
  | true =>
    have hq1 := tk_lt h93
    have HA : Aside0 ((obj V (m + 1) (rest S (m + 1))).map (fun r => (r.1, r.2.1, 1 + r.2.2)) = some ([], [], 1 + (bl (rest S (m + 1)) + 1))) := ⟨by rw [HL.out, h93]; rfl⟩
    have HT9 := Aside0.mk (fun W (hk : RS W R S q) => HT.out q 125 W hk)
    rw [h93] at HT9
    clear h93 hq
    go_enter Tryd.func51, Tryd.ntmps51
    go_wp2_with (first
      | (go_at_call 69; refine (HT9.out _ M2.r).mono ?_; rintro e w2 ⟨rfl, M3⟩)
      | (go_at_call 36; refine HBq.out.mono ?_; rintro e w1 ⟨rfl, M2⟩))
    go_ret3
    exact ⟨none, 0, 0, none, 0, 0, true, q + 1, rfl, (M1.out.trans M2).trans M3, hq1, ⟨by rw [HA.out]; exact ⟨rfl, by have := HQ.out; omega, ⟨World.ownsRow_nil _ _ _ _, fun g hg => by cases hg⟩, [], ⟨World.ownsRow_nil _ _ _ _, fun g hg => by cases hg⟩, by unfold PlsAt; rfl⟩⟩⟩
  | false =>
    have HA : Aside0 ((obj V (m + 1) (rest S (m + 1))).map (fun r => (r.1, r.2.1, 1 + r.2.2)) = (M q (rest S q)).map (fun r => (r.1, r.2.1, q - m + r.2.2))) := ⟨by
      rw [HL.out, h93]
      simp only [Bool.false_eq_true, if_false, Option.map_map]
      congr 1
      funext r
      simp only [Function.comp]
      rw [show 1 + (bl (rest S (m + 1)) + r.2.2) = q - m + r.2.2 by omega]⟩
    have HT9 := Aside0.mk (fun W (hk : RS W R S q) => HT.out q 125 W hk)
    rw [h93] at HT9
    have hmq : m < q := by omega
    clear h93 hq
    go_enter Tryd.func51, Tryd.ntmps51
    go_wp2_with (first
      | (go_at_call 69; refine (HT9.out _ M2.r).mono ?_; rintro e w2 ⟨rfl, M3⟩)
      | (go_at_call 36; refine HBq.out.mono ?_; rintro e w1 ⟨rfl, M2⟩))
    have M3 := Aside0.mk ((M1.out.trans M2).trans M3)
    have HK0 := Aside0.mk ((((kids_nil w).moved M1.out hR.out).moved M2 hR.out).moved ‹Mv w1 w2 R S _› hR.out)
    clear hc0 hc1 hfz h0 M2 hqs
    go_loopw [5, 6] (fun v5 v6 wr => ∃ (k : Nat) (ps : List Pl) (ns : List (Nat × Nat)) (na : Option Addr) (nn nc : Nat) (ka : Option Addr) (kn kc : Nat), v5 = .slice na nn nc ∧ v6 = .slice ka kn kc ∧ q ≤ k ∧ k ≤ S.size ∧ Aside0 (Mv w wr R S k) ∧ Aside0 (KidsAt w wr (.slice ka kn kc) (.slice na nn nc) ps ns) ∧ Aside0 (ps.length ≤ k ∧ ns.length ≤ k) ∧ Aside0 (M q (rest S q) = (M k (rest S k)).map fun r => (ns ++ r.1, ps ++ r.2.1, k - q + r.2.2))) (fun _ _ wr => S.size - plc wr R)
    case atStart => exact ⟨q, [], [], none, 0, 0, none, 0, 0, rfl, rfl, Nat.le_refl _, by have := bl_le (rest S (m + 1)); rw [rest_len] at this; have := HQ.out; omega, M3, HK0, ⟨Nat.zero_le _, Nat.zero_le _⟩, ⟨by simp⟩⟩
    case round =>
      clear HK0 M3
      obtain ⟨k, ps, ns, na, nn, nc, ka, kn, kc, rfl, rfl, hqk, hk, HM, HK, HN, HE⟩ := hrel
      obtain ⟨h0, hc0, hc1, hfz⟩ := HM.out.r
      have CH := Aside0.mk (HH.out k wr HM.out.r)
      have hkx := tk_head (S := S) (c := 34) (k := k) (by decide)
      obtain ⟨x, hx⟩ : ∃ x, x = (rest S k).getD 0 0 := ⟨_, rfl⟩
      rw [← hx] at CH hkx
      have FAIL : Aside0 (M k (rest S k) = none → (obj V (m + 1) (rest S (m + 1))).map (fun r => (r.1, r.2.1, 1 + r.2.2)) = none) := ⟨fun hn => by rw [HA.out, HE.out, hn]; rfl⟩
      by_cases hx34 : x = 34
      · subst hx34
        have h34 : tk 34 (rest S k) = true := hkx
        have hkl := tk_lt h34
        have CQ := Aside0.mk (fun W (hk : RS W R S k) => HU.out k W hk hkl)
        clear hkx hx
        cases hqu : quo (rest S (k + 1)) with
        | none =>
          have HA2 := Aside0.mk (FAIL.out (M_none1 (nam_no2 h34 hqu)))
          rw [hqu] at CQ
          clear hqu h34
          go_wp2_with (first
            | (go_at_call 53; refine (CQ.out _ (HM.out.drewN n).r).mono ?_; rintro e w2 ⟨bb, p, rfl, MQ, hp, hA⟩; have hb : bb = false := hA; clear hA; subst hb)
            | (go_at_call 50; refine CH.out.mono ?_; rintro e w1 ⟨rfl, n, rfl⟩))
          go_ret3
          exact ⟨none, 0, 0, none, 0, 0, false, p, rfl, (HM.out.drewN _).trans MQ, hp, ⟨by rw [HA2.out]⟩⟩
        | some ql =>
          have hql := quo_le _ _ (Nat.le_refl _) hqu
          rw [rest_len] at hql
          obtain ⟨f, hf⟩ : ∃ f, f = k + (1 + ql) := ⟨_, rfl⟩
          obtain ⟨c, hc⟩ : ∃ c, c = f + bl (rest S f) := ⟨_, rfl⟩
          have hfs : f ≤ S.size := by omega
          have hcs : c ≤ S.size := by have := bl_le (rest S f); rw [rest_len] at this; omega
          rw [hqu] at CQ
          have hBc := Aside0.mk (fun W (hk : RS W R S f) => HB.out f W hk hfs)
          rw [← hc] at hBc
          have hT58 := Aside0.mk (fun W (hk : RS W R S c) => HT.out c 58 W hk)
          have HF := Aside0.mk hf
          cases h58 : tk 58 (rest S c) with
          | false =>
            have HA2 := Aside0.mk (FAIL.out (M_none1 (nam_no3 h34 hqu hf hc h58)))
            rw [h58] at hT58
            clear hqu h34 h58 hql hf hc
            go_wp2_with (first
                | (go_at_call 69; refine (hT58.out _ M3.r).mono ?_; rintro e w5 ⟨rfl, M4⟩)
                | (go_at_call 36; refine (hBc.out _ M2.out.r).mono ?_; rintro e w4 ⟨rfl, M3⟩)
                | (at_builtin; refine app_nam rfl _ _ rfl HKQ MQ hR ⟨(by have := HN.out; omega)⟩ (k, _) rfl rfl rfl rfl ?_; intro g cap w3 M2 HK2)
                | (go_at_call 53; refine (CQ.out _ (HM.out.drewN n).r).mono ?_; rintro e w2 ⟨bb, p0, rfl, MQ, hp0, hA⟩; obtain ⟨rfl, hpe⟩ := hA; obtain rfl : p0 = f := (by have h1 := HF.out; have h2 : p0 = k + (1 + ql) := hpe; omega); have HKQ := Aside0.mk ((HK.out.moved (HM.out.r.same.drewN n) hR.out).moved MQ hR.out); have MQ := Aside0.mk ((HM.out.drewN n).trans MQ); clear hpe; obtain ⟨g0, gc0, gc1, gfz⟩ := MQ.out.r)
                | (go_at_call 50; refine CH.out.mono ?_; rintro e w1 ⟨rfl, n, rfl⟩))
            go_ret3
            exact ⟨none, 0, 0, none, 0, 0, false, c, rfl, (M2.out.trans M3).trans M4, hcs, ⟨by rw [HA2.out]⟩⟩
          | true =>
            have hc1' := tk_lt h58
            obtain ⟨d, hd⟩ : ∃ d, d = c + 1 + bl (rest S (c + 1)) := ⟨_, rfl⟩
            have hds : d ≤ S.size := by have := bl_le (rest S (c + 1)); rw [rest_len] at this; omega
            have hnm := nam_yes h34 hqu hf hc h58 hd
            have hkd : k ≤ d := by omega
            have hBd := Aside0.mk (fun W (hk : RS W R S (c + 1)) => HB.out (c + 1) W hk hc1')
            rw [← hd] at hBd
            have CV := Aside0.mk (fun W (hk : RS W R S d) => VH.out d W (by omega) hds hk)
            rw [h58] at hT58
            have hfk : f = k + (1 + ql) := hf
            cases hv : V d (rest S d) with
            | none =>
              have HA2 := Aside0.mk (FAIL.out (M_none2 hnm hkd hv))
              rw [hv] at CV
              clear hqu h34 h58 hql hf hc hd hnm hv hfk
              go_wp2_with (first
                | (go_at_call 37; refine (CV.out _ M5.r).mono ?_; rintro e wv ⟨kd, b, z, ma, mn, mc, ja, jn, jc, ok, p, rfl, MV, hp, hA⟩; obtain rfl : ok = false := hA.out; clear hA)
                | (go_at_call 36; refine (hBd.out _ M4.r).mono ?_; rintro e w6 ⟨rfl, M5⟩)
                | (go_at_call 69; refine (hT58.out _ M3.r).mono ?_; rintro e w5 ⟨rfl, M4⟩)
                | (go_at_call 36; refine (hBc.out _ M2.out.r).mono ?_; rintro e w4 ⟨rfl, M3⟩)
                | (at_builtin; refine app_nam rfl _ _ rfl HKQ MQ hR ⟨(by have := HN.out; omega)⟩ (k, _) rfl rfl rfl rfl ?_; intro g cap w3 M2 HK2)
                | (go_at_call 53; refine (CQ.out _ (HM.out.drewN n).r).mono ?_; rintro e w2 ⟨bb, p0, rfl, MQ, hp0, hA⟩; obtain ⟨rfl, hpe⟩ := hA; obtain rfl : p0 = f := (by have h1 := HF.out; have h2 : p0 = k + (1 + ql) := hpe; omega); have HKQ := Aside0.mk ((HK.out.moved (HM.out.r.same.drewN n) hR.out).moved MQ hR.out); have MQ := Aside0.mk ((HM.out.drewN n).trans MQ); clear hpe; obtain ⟨g0, gc0, gc1, gfz⟩ := MQ.out.r)
                | (go_at_call 50; refine CH.out.mono ?_; rintro e w1 ⟨rfl, n, rfl⟩))
              go_ret3
              exact ⟨none, 0, 0, none, 0, 0, false, p, rfl, ((((M2.out.trans M3).trans M4).trans M5).trans MV).alloc hR.out _, hp, ⟨by rw [HA2.out]⟩⟩
            | some tj =>
              obtain ⟨t, j⟩ := tj
              rw [hv] at CV
              have hj := V_le hv
              rw [rest_len] at hj
              obtain ⟨p, hp⟩ : ∃ p, p = d + j := ⟨_, rfl⟩
              obtain ⟨r, hr⟩ : ∃ r, r = p + bl (rest S p) := ⟨_, rfl⟩
              have hps : p ≤ S.size := by omega
              have hrs : r ≤ S.size := by have := bl_le (rest S p); rw [rest_len] at this; omega
              have HPJ := Aside0.mk (And.intro hj (And.intro hp (And.intro hr hkd)))
              have hBr := Aside0.mk (fun W (hk : RS W R S p) => HB.out p W hk hps)
              rw [← hr] at hBr
              have hT1 := Aside0.mk (fun W (hk : RS W R S r) => HT.out r 125 W hk)
              cases h93 : tk 125 (rest S r) with
              | true =>
                rw [h93] at hT1
                have hr1 := tk_lt h93
                have HA2 : Aside0 ((obj V (m + 1) (rest S (m + 1))).map (fun r => (r.1, r.2.1, 1 + r.2.2)) = some (ns ++ [(k, f)], ps ++ [t], r + 1 - m)) := ⟨by
                  rw [HA.out, HE.out, M_last hnm hkd hv hp hr h93, ← hf]
                  simp only [Option.map_some]
                  rw [show q - m + (k - q + (r + 1 - k)) = r + 1 - m by omega]⟩
                clear hqu h34 h58 hql hf hc hd hnm hv hfk h93 hp hr hj hkd
                go_wp2_with (first
                | (go_at_call 69; refine (hT1.out _ M7.r).mono ?_; rintro e w10 ⟨rfl, M8⟩)
                | (go_at_call 36; refine (hBr.out _ M6.out.r).mono ?_; rintro e w9 ⟨rfl, M7⟩)
                | (at_builtin; refine app_kid rfl _ _ rfl HKD HMD MV HV hR ⟨(by have := HN.out; omega)⟩ rfl rfl ?_; intro g2 cap2 w8 M6 HK3)
                | (go_at_call 37; refine (CV.out _ M5.r).mono ?_; rintro e wv ⟨kd, b, z, ma, mn, mc, ja, jn, jc, ok, p', rfl, MV, hp', hA⟩; obtain ⟨rfl, hpe, hV⟩ := hA.out; obtain rfl : p' = p := (by have := HPJ.out.2.1; omega); have HV := Aside0.mk hV; have HMD := Aside0.mk (((M2.out.trans M3).trans M4).trans M5); have HKD := Aside0.mk (((HK2.out.moved M3 hR.out).moved M4 hR.out).moved M5 hR.out); clear hA hV hpe)
                | (go_at_call 36; refine (hBd.out _ M4.r).mono ?_; rintro e w6 ⟨rfl, M5⟩)
                | (go_at_call 69; refine (hT58.out _ M3.r).mono ?_; rintro e w5 ⟨rfl, M4⟩)
                | (go_at_call 36; refine (hBc.out _ M2.out.r).mono ?_; rintro e w4 ⟨rfl, M3⟩)
                | (at_builtin; refine app_nam rfl _ _ rfl HKQ MQ hR ⟨(by have := HN.out; omega)⟩ (k, _) rfl rfl rfl rfl ?_; intro g cap w3 M2 HK2)
                | (go_at_call 53; refine (CQ.out _ (HM.out.drewN n).r).mono ?_; rintro e w2 ⟨bb, p0, rfl, MQ, hp0, hA⟩; obtain ⟨rfl, hpe⟩ := hA; obtain rfl : p0 = f := (by have h1 := HF.out; have h2 : p0 = k + (1 + ql) := hpe; omega); have HKQ := Aside0.mk ((HK.out.moved (HM.out.r.same.drewN n) hR.out).moved MQ hR.out); have MQ := Aside0.mk ((HM.out.drewN n).trans MQ); clear hpe; obtain ⟨g0, gc0, gc1, gfz⟩ := MQ.out.r)
                | (go_at_call 50; refine CH.out.mono ?_; rintro e w1 ⟨rfl, n, rfl⟩))
                go_ret3
                have HK4 := (HK3.out.moved M7 hR.out).moved M8 hR.out
                obtain ⟨⟨ys, hy1, hy2⟩, -, hy3⟩ := HK4
                refine ⟨_, _, _, _, _, _, true, r + 1, rfl, (M6.out.trans M7).trans M8, hr1, ⟨?_⟩⟩
                rw [HA2.out]
                exact ⟨rfl, by have := HPJ.out.2.2.1; have := HPJ.out.2.1; have := HPJ.out.2.2.2; omega, RowF.of hy3 (fun g hg => (hy3.lt g hg).1), ys, RowF.of hy1 (fun g hg => (hy1.lt g hg).1), PlsAt.mono (fun g hg hF => hF.1) hy2⟩
              | false =>
                rw [h93] at hT1
                have hT2 := Aside0.mk (fun W (hk : RS W R S r) => HT.out r 44 W hk)
                cases h44 : tk 44 (rest S r) with
                | false =>
                  have HA2 := Aside0.mk (FAIL.out (M_bad hnm hkd hv hp hr h93 h44))
                  rw [h44] at hT2
                  clear hqu h34 h58 hql hf hc hd hnm hv hfk h93 h44 hp hr hj hkd
                  go_wp2_with (first
                | (go_at_call 69; refine (hT2.out _ M8.r).mono ?_; rintro e w11 ⟨rfl, M9⟩)
                | (go_at_call 69; refine (hT1.out _ M7.r).mono ?_; rintro e w10 ⟨rfl, M8⟩)
                | (go_at_call 36; refine (hBr.out _ M6.out.r).mono ?_; rintro e w9 ⟨rfl, M7⟩)
                | (at_builtin; refine app_kid rfl _ _ rfl HKD HMD MV HV hR ⟨(by have := HN.out; omega)⟩ rfl rfl ?_; intro g2 cap2 w8 M6 HK3)
                | (go_at_call 37; refine (CV.out _ M5.r).mono ?_; rintro e wv ⟨kd, b, z, ma, mn, mc, ja, jn, jc, ok, p', rfl, MV, hp', hA⟩; obtain ⟨rfl, hpe, hV⟩ := hA.out; obtain rfl : p' = p := (by have := HPJ.out.2.1; omega); have HV := Aside0.mk hV; have HMD := Aside0.mk (((M2.out.trans M3).trans M4).trans M5); have HKD := Aside0.mk (((HK2.out.moved M3 hR.out).moved M4 hR.out).moved M5 hR.out); clear hA hV hpe)
                | (go_at_call 36; refine (hBd.out _ M4.r).mono ?_; rintro e w6 ⟨rfl, M5⟩)
                | (go_at_call 69; refine (hT58.out _ M3.r).mono ?_; rintro e w5 ⟨rfl, M4⟩)
                | (go_at_call 36; refine (hBc.out _ M2.out.r).mono ?_; rintro e w4 ⟨rfl, M3⟩)
                | (at_builtin; refine app_nam rfl _ _ rfl HKQ MQ hR ⟨(by have := HN.out; omega)⟩ (k, _) rfl rfl rfl rfl ?_; intro g cap w3 M2 HK2)
                | (go_at_call 53; refine (CQ.out _ (HM.out.drewN n).r).mono ?_; rintro e w2 ⟨bb, p0, rfl, MQ, hp0, hA⟩; obtain ⟨rfl, hpe⟩ := hA; obtain rfl : p0 = f := (by have h1 := HF.out; have h2 : p0 = k + (1 + ql) := hpe; omega); have HKQ := Aside0.mk ((HK.out.moved (HM.out.r.same.drewN n) hR.out).moved MQ hR.out); have MQ := Aside0.mk ((HM.out.drewN n).trans MQ); clear hpe; obtain ⟨g0, gc0, gc1, gfz⟩ := MQ.out.r)
                | (go_at_call 50; refine CH.out.mono ?_; rintro e w1 ⟨rfl, n, rfl⟩))
                  go_ret3
                  exact ⟨none, 0, 0, none, 0, 0, false, r, rfl, ((M6.out.trans M7).trans M8).trans M9, hrs, ⟨by rw [HA2.out]⟩⟩
                | true =>
                  have hr1 := tk_lt h44
                  obtain ⟨s, hsd⟩ : ∃ s, s = r + 1 + bl (rest S (r + 1)) := ⟨_, rfl⟩
                  have hss : s ≤ S.size := by have := bl_le (rest S (r + 1)); rw [rest_len] at this; omega
                  have hBs := Aside0.mk (fun W (hk : RS W R S (r + 1)) => HB.out (r + 1) W hk hr1)
                  rw [← hsd] at hBs
                  have HE2 : Aside0 (M q (rest S q) = (M s (rest S s)).map fun x => ((ns ++ [(k, f)]) ++ x.1, (ps ++ [t]) ++ x.2.1, s - q + x.2.2)) := ⟨by
                    rw [HE.out, M_more hnm hkd hv hp hr h93 h44 hsd, Option.map_map, ← hf]
                    congr 1
                    funext x
                    simp only [Function.comp]
                    rw [List.append_assoc, List.append_assoc, show k - q + (s - k + x.2.2) = s - q + x.2.2 by omega]
                    rfl⟩
                  have hks : k < s := by omega
                  rw [h44] at hT2
                  clear hqu h34 h58 hql hf hc hd hnm hv hfk h93 h44 hp hr hj hkd hsd
                  go_wp2_with (first
                | (go_at_call 36; refine (hBs.out _ M9.r).mono ?_; rintro e w12 ⟨rfl, M10⟩)
                | (go_at_call 69; refine (hT2.out _ M8.r).mono ?_; rintro e w11 ⟨rfl, M9⟩)
                | (go_at_call 69; refine (hT1.out _ M7.r).mono ?_; rintro e w10 ⟨rfl, M8⟩)
                | (go_at_call 36; refine (hBr.out _ M6.out.r).mono ?_; rintro e w9 ⟨rfl, M7⟩)
                | (at_builtin; refine app_kid rfl _ _ rfl HKD HMD MV HV hR ⟨(by have := HN.out; omega)⟩ rfl rfl ?_; intro g2 cap2 w8 M6 HK3)
                | (go_at_call 37; refine (CV.out _ M5.r).mono ?_; rintro e wv ⟨kd, b, z, ma, mn, mc, ja, jn, jc, ok, p', rfl, MV, hp', hA⟩; obtain ⟨rfl, hpe, hV⟩ := hA.out; obtain rfl : p' = p := (by have := HPJ.out.2.1; omega); have HV := Aside0.mk hV; have HMD := Aside0.mk (((M2.out.trans M3).trans M4).trans M5); have HKD := Aside0.mk (((HK2.out.moved M3 hR.out).moved M4 hR.out).moved M5 hR.out); clear hA hV hpe)
                | (go_at_call 36; refine (hBd.out _ M4.r).mono ?_; rintro e w6 ⟨rfl, M5⟩)
                | (go_at_call 69; refine (hT58.out _ M3.r).mono ?_; rintro e w5 ⟨rfl, M4⟩)
                | (go_at_call 36; refine (hBc.out _ M2.out.r).mono ?_; rintro e w4 ⟨rfl, M3⟩)
                | (at_builtin; refine app_nam rfl _ _ rfl HKQ MQ hR ⟨(by have := HN.out; omega)⟩ (k, _) rfl rfl rfl rfl ?_; intro g cap w3 M2 HK2)
                | (go_at_call 53; refine (CQ.out _ (HM.out.drewN n).r).mono ?_; rintro e w2 ⟨bb, p0, rfl, MQ, hp0, hA⟩; obtain ⟨rfl, hpe⟩ := hA; obtain rfl : p0 = f := (by have h1 := HF.out; have h2 : p0 = k + (1 + ql) := hpe; omega); have HKQ := Aside0.mk ((HK.out.moved (HM.out.r.same.drewN n) hR.out).moved MQ hR.out); have MQ := Aside0.mk ((HM.out.drewN n).trans MQ); clear hpe; obtain ⟨g0, gc0, gc1, gfz⟩ := MQ.out.r)
                | (go_at_call 50; refine CH.out.mono ?_; rintro e w1 ⟨rfl, n, rfl⟩))
                  have M11 := (((M6.out.trans M7).trans M8).trans M9).trans M10
                  have HK4 := (((HK3.out.moved M7 hR.out).moved M8 hR.out).moved M9 hR.out).moved M10 hR.out
                  refine ⟨⟨s, ps ++ [t], ns ++ [(k, _)], _, _, _, _, _, _, rfl, rfl, by omega, hss, ⟨M11⟩, ⟨HK4⟩, ⟨by rw [List.length_append, List.length_singleton, List.length_append, List.length_singleton]; have := HN.out; omega⟩, HE2⟩, ?_⟩
                  rw [M11.r.plc, HM.out.r.plc]; omega
      · have h34 : tk 34 (rest S k) = false := by rw [hkx]; simpa using hx34
        have HA2 := Aside0.mk (FAIL.out (M_none1 (nam_no1 h34)))
        have hxb : (x != 34) = true := by simpa using hx34
        clear hkx hx hx34 h34
        go_wp2_with (first | (go_at_call 50; refine CH.out.mono ?_; rintro e w1 ⟨rfl, n, rfl⟩))
        go_ret3
        exact ⟨none, 0, 0, none, 0, 0, false, k, rfl, HM.out.drewN _, hk, ⟨by rw [HA2.out]⟩⟩
end Go.Proofs.YtpahejmkidhhhaaDoor.G
