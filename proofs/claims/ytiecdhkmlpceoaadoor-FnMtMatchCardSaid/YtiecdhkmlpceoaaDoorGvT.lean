/- match's matchTrimSuffix, walked on texts in UTF-8. -/
import Derived.Test.YtiecdhkmlpceoaaDoorGvQ
import Derived.Test.YtiecdhkmlpceoaaDoorGvSj
import Derived.Lib.RabinKarpLaws
namespace Go.Proofs.YtiecdhkmlpceoaaDoor.G
set_option linter.unusedVariables false
set_option linter.unusedSimpArgs false
open Go.RowKit Go.Proofs.YtiecdhkmlpceoaaDoorW.PrintWords
open Go.Lib (decodeL decodeLastL)

def szOf : Value → Nat
  | .string b => b.size
  | _ => 0
theorem size_list (s : ByteArray) : s.size = s.data.toList.length := by simp
theorem ints_bytes (s : ByteArray) : bytesOf s = ints s.data.toList := rfl
theorem flatten_snoc (x : List (List UInt8)) (c : List UInt8) : (x ++ [c]).flatten = x.flatten ++ c := by simp
/-- The last character of a term, and whether a backslash stands ahead of it. -/
theorem tm_last {t : Tm} (h : t.ok) : ∃ (q : List UInt8) (e : Bool), IsChr q ∧ t.bytes = (if e then [92] else []) ++ q ∧ ((t = .star ∧ q = [42] ∧ e = false) ∨ (t = .one ∧ q = [63] ∧ e = false) ∨ t = .lit e q) := by
  have ha : ∀ a : UInt8, a.toNat < 128 → IsChr [a] := fun a h => ⟨by simp, by rw [Go.Lib.decodeL_ascii a [] h]; rfl, by rw [Go.Lib.decodeL_ascii a [] h]; simp; omega⟩
  cases t with
  | star => exact ⟨[42], false, ha 42 (by decide), rfl, .inl ⟨rfl, rfl, rfl⟩⟩
  | one => exact ⟨[63], false, ha 63 (by decide), rfl, .inr (.inl ⟨rfl, rfl, rfl⟩)⟩
  | lit e q => exact ⟨q, e, h.1, rfl, .inr (.inr rfl)⟩
theorem chv_ascii {a : UInt8} (h : a.toNat < 128) : chv [a] = a.toNat := by unfold chv; rw [Go.Lib.decodeL_ascii a [] h]
theorem chr_pos {q : List UInt8} (h : IsChr q) : 1 ≤ q.length ∧ q.length ≤ 4 := by
  rcases chr_shape h with ⟨a, rfl, c⟩ | ⟨a, b, rfl, c1, c2⟩ | ⟨a, b, c, rfl, c1, c2, c3⟩ | ⟨a, b, c, d, rfl, c1, c2, c3, c4⟩ <;> simp
/-- How many backslashes stand ahead of the last character of a written pattern. -/
theorem run_last {P : ByteArray} {y : List Tm} {e : Bool} {q : List UInt8} (hP : P.data.toList = 42 :: (rend y ++ ((if e then [92] else []) ++ q))) (hy : OkT y) :
    run (bytesOf P) (P.size - q.length) % 2 = (if e then 1 else 0) ∧ run (bytesOf P) (P.size - q.length) + 1 ≤ P.size - q.length := by
  have hb : bytesOf P = ([42] ++ ints (rend y) ++ (if e then [92] else [])) ++ ints q := by
    rw [ints_bytes, hP]
    have : (42 : UInt8) :: (rend y ++ ((if e then [92] else []) ++ q)) = (([42] ++ rend y) ++ (if e then [92] else [])) ++ q := by simp
    rw [this, ints_append, ints_append, ints_append]
    cases e <;> rfl
  have hl : P.size - q.length = ([42] ++ ints (rend y) ++ (if e then [92] else []) : List Int).length := by
    rw [size_list, hP]; cases e <;> simp [ints] <;> omega
  have ht : run (bytesOf P) (P.size - q.length) = trail ([42] ++ ints (rend y) ++ (if e then [92] else [])) := by rw [hb, hl, run_app]
  have h0 : trail ([42] ++ ints (rend y)) % 2 = 0 := trail_rend y [42] hy (by decide)
  have h1 : trail ([42] ++ ints (rend y)) + 1 ≤ ([42] ++ ints (rend y)).length := by
    rcases Nat.lt_or_ge (([42] ++ ints (rend y)).length - 1) (trail ([42] ++ ints (rend y))) with h | h
    · have h2 := trail_lt h
      rw [Nat.sub_self] at h2
      simp at h2
    · have : 0 < ([42] ++ ints (rend y)).length := by simp
      omega
  rw [ht, hl]
  cases e
  · simp only [Bool.false_eq_true, if_false, List.append_nil]
    exact ⟨h0, h1⟩
  · simp only [if_true]
    rw [trail_cons, if_pos rfl, List.length_append]
    exact ⟨by omega, by simp only [List.length_singleton]; omega⟩
theorem pat_at {P : ByteArray} (j : Nat) (h : j < P.size) : (P[j].toNat : Int) = (bytesOf P).getD j 0 := by
  have hd : j < P.data.size := h
  have : (bytesOf P).getD j 0 = ((P.data[j]).toNat : Int) := by unfold bytesOf; simp [List.getD_eq_getElem?_getD, Array.getElem?_eq_getElem hd]
  rw [this]; rfl
theorem extract_front {S : ByteArray} {a b : List UInt8} (h : S.data.toList = a ++ b) : (S.extract 0 (S.size - b.length)).data.toList = a := by
  have hs : S.size = a.length + b.length := by rw [size_list, h, List.length_append]
  rw [ByteArray.data_extract, Array.toList_extract, h, List.extract, List.drop_zero, hs]
  simp
/-- What matchTrimSuffix answers. -/
def Trimmed (cs : List (List UInt8)) (ts : List Tm) (w : World) (e : Ending) (w' : World) : Prop :=
  ∃ (S P : ByteArray) (b : Bool) (cs' : List (List UInt8)) (ts' : List Tm), e = .returned (.tuple #[.string S, .string P, .bool b]) ∧ S.data.toList = cs'.flatten ∧ P.data.toList = 42 :: rend ts' ∧ Below w.heap.size w w' ∧
    (∃ z, cs = cs' ++ z) ∧ (∃ z, ts = ts' ++ z) ∧ (b = false → ¬ Fit (.star :: ts) cs) ∧ (b = true → (Fit (.star :: ts) cs ↔ Fit (.star :: ts') cs'))

set_option maxHeartbeats 8000000 in
set_option maxRecDepth 100000 in
theorem trim_walk (S P : ByteArray) (cs : List (List UInt8)) (ts : List Tm) (w : World) (hT : Lib.Utf8Tabs 2 3 w) (hS : S.data.toList = cs.flatten) (hP : P.data.toList = 42 :: rend ts) (hc : OkC cs) (ht : OkT ts) (hSm : S.size ≤ 140737488351232) (hPm : P.size ≤ 140737488351232) :
    Calls Tryd.prog 82 #[.string S, .string P, .bool false] w (Trimmed cs ts w) := by
  have H1 := Aside0.mk hS
  have H2 := Aside0.mk hP
  have H3 := Aside0.mk hc
  have H4 := Aside0.mk ht
  have HT := Aside0.mk hT
  clear hS hP hc ht hT
  go_enter Tryd.func82, Tryd.ntmps82
  go_wp2_with fail
  go_loopw [0, 1, 9, 10, 11, 12, 13, 14, 15] (fun s p m pc ps esc ii sc ss wr => ∃ (S P : ByteArray) (cs' : List (List UInt8)) (ts' : List Tm), s = .string S ∧ p = .string P ∧ m = .bool true ∧ S.size ≤ 140737488351232 ∧ P.size ≤ 140737488351232 ∧ Aside0 (S.data.toList = cs'.flatten) ∧ Aside0 (P.data.toList = 42 :: rend ts') ∧
    Aside0 (Below w.heap.size w wr) ∧ Aside0 (∃ z, cs = cs' ++ z) ∧ Aside0 (∃ z, ts = ts' ++ z) ∧ Aside0 (Fit (.star :: ts) cs ↔ Fit (.star :: ts') cs')) (fun s _ _ _ _ _ _ _ _ _ => szOf s)
  case atStart => exact ⟨S, P, cs, ts, rfl, rfl, rfl, hSm, hPm, H1, H2, ⟨Below.refl _ _⟩, ⟨[], by simp⟩, ⟨[], by simp⟩, ⟨Iff.rfl⟩⟩
  case round =>
    clear hSm hPm H1 H2
    obtain ⟨S, P, cs', ts', rfl, rfl, rfl, hSm, hPm, H1, H2, HB, HZ, HY, HF⟩ := hrel
    rcases List.eq_nil_or_concat cs' with rfl | ⟨x, c, rfl⟩
    · have h0 : S.size = 0 := by rw [size_list, H1.out]; rfl
      go_wp2_with fail
      all_goals go_ret3
      all_goals (unfold Trimmed; exact ⟨S, P, true, [], ts', rfl, H1.out, H2.out, HB.out, HZ.out, HY.out, (fun h => by cases h), fun _ => HF.out⟩)
    · rcases List.eq_nil_or_concat ts' with rfl | ⟨y, t, rfl⟩
      · have h1 : P.size = 1 := by rw [size_list, H2.out]; rfl
        go_wp2_with fail
        all_goals go_ret3
        all_goals (unfold Trimmed; exact ⟨S, P, true, _, [], rfl, H1.out, H2.out, HB.out, HZ.out, HY.out, (fun h => by cases h), fun _ => HF.out⟩)
      · rw [List.concat_eq_append] at H1 HZ HF
        rw [List.concat_eq_append] at H2 HY HF
        have hcc : IsChr c := by obtain ⟨z, hz⟩ := HZ.out; exact H3.out c (by rw [hz]; simp)
        have hyo : OkT (y ++ [t]) := by obtain ⟨z, hz⟩ := HY.out; exact fun u hu => H4.out u (by rw [hz]; exact List.mem_append_left _ hu)
        obtain ⟨q, e, hq, htb, htc⟩ := tm_last (hyo t (by simp))
        have hP2 : P.data.toList = 42 :: (rend y ++ ((if e then [92] else []) ++ q)) := by rw [H2.out, rend_append, ← htb]; simp [rend]
        have hS2 : S.data.toList = x.flatten ++ c := by rw [H1.out, flatten_snoc]
        obtain ⟨hrp, hrl⟩ := run_last hP2 (fun u hu => hyo u (List.mem_append_left _ hu))
        have hql := chr_pos hq
        have hcl := chr_pos hcc
        have hPs : P.size = 1 + (rend y).length + (if e then 1 else 0) + q.length := by rw [size_list, hP2]; cases e <;> simp <;> omega
        have hSs : S.size = x.flatten.length + c.length := by rw [size_list, hS2, List.length_append]
        have hd1 : decodeLastL P.data.toList = decodeL q := by
          have : P.data.toList = (42 :: (rend y ++ (if e then [92] else []))) ++ q := by rw [hP2]; simp
          rw [this]; exact chr_last hq _
        have hd2 : decodeLastL S.data.toList = decodeL c := by rw [hS2]; exact chr_last hcc _
        obtain ⟨K, hK⟩ : ∃ K, K = run (bytesOf P) (P.size - q.length) := ⟨_, rfl⟩
        obtain ⟨L, hL⟩ : ∃ L, L = q.length := ⟨_, rfl⟩
        obtain ⟨M, hM⟩ : ∃ M, M = c.length := ⟨_, rfl⟩
        obtain ⟨u, hu⟩ : ∃ u, u = chv q := ⟨_, rfl⟩
        obtain ⟨v, hv⟩ : ∃ v, v = chv c := ⟨_, rfl⟩
        have C1 : Aside0 (∀ W, Lib.Utf8Tabs 2 3 W → Calls Tryd.prog 102 #[.string P] W fun e w' => e = .returned (.tuple #[.int .i32 u, .int .i64 L]) ∧ Below W.heap.size W w') := ⟨fun W hW => by
          have := Tryd.utf8_DecodeLastRuneInString P W (by omega) hW
          rw [hd1, hq.2.1] at this
          rw [hu, hL]; exact this⟩
        have C2 : Aside0 (∀ W, Lib.Utf8Tabs 2 3 W → Calls Tryd.prog 102 #[.string S] W fun e w' => e = .returned (.tuple #[.int .i32 v, .int .i64 M]) ∧ Below W.heap.size W w') := ⟨fun W hW => by
          have := Tryd.utf8_DecodeLastRuneInString S W (by omega) hW
          rw [hd2, hcc.2.1] at this
          rw [hv, hM]; exact this⟩
        rw [← hK, ← hL] at hrl
        rw [← hK] at hrp
        rw [← hL] at hPs hql
        rw [← hM] at hSs hcl
        have HKr := Aside0.mk hK
        have hS0 : 0 < S.size := by omega
        have hP1 : 1 < P.size := by omega
        have hKL : K + 1 + L ≤ P.size := by omega
        have hMS : M ≤ S.size := by omega
        have HR := Aside0.mk (And.intro hK (And.intro hL (And.intro hM (And.intro hu hv))))
        have HQ := Aside0.mk (And.intro hq (And.intro hcc (And.intro htc (And.intro hP2 (And.intro hS2 (And.intro hrp (And.intro hPs hSs)))))))
        have HO := Aside0.mk hyo
        clear hK hL hM hu hv hd1 hd2 hq hcc htc hP2 hS2 hrp hrl hPs hSs htb hyo HKr
        go_wp2_with (go_at_call 102; refine (C1.out _ (Utf8Tabs_below HT.out HB.out)).mono ?_; rintro e w1 ⟨rfl, hb1⟩)
        go_loop [11, 12, 13] (fun ps esc ii => ∃ i : Nat, i ≤ K ∧ ps = .int .i64 L ∧ esc = .bool false ∧ ii = .int .i64 i) (fun _ _ ii => K - (intOf ii).toNat)
        case atStart => exact ⟨0, Nat.zero_le _, rfl, rfl, rfl⟩
        case round =>
          obtain ⟨i, hi, rfl, rfl, rfl⟩ := hrel
          obtain ⟨p, hp⟩ : ∃ p : Nat, p = P.size - L - i - 1 := ⟨_, rfl⟩
          have hpi : (P.size : Int) - (L : Int) - (i : Int) - 1 = (p : Int) := by omega
          have hpl : p < P.size := by omega
          have hpm : i + p + 1 = P.size - L := by omega
          have hbl : (bytesOf P).length = P.size := bytesOf_length P
          clear hp
          by_cases hiK : i < K
          · have hpv : (P[p].toNat : Int) = 92 := by
              obtain ⟨hK, hL, _⟩ := HR.out
              rw [pat_at p hpl]
              exact run_lt (xs := bytesOf P) (m := P.size - L) (t := i) (by omega) (by rw [hL, ← hK]; exact hiK) hpm
            have hpb : ((P[p].toNat : Int) != 92) = false := by rw [hpv]; rfl
            clear hpv
            go_wp2_with fail
            go_round
            case rel => exact ⟨i + 1, by omega, rfl, rfl, by go_num⟩
            case measure => simp [intOf]; omega
          · obtain rfl : i = K := by omega
            have hpb : ((P[p].toNat : Int) != 92) = true := by
              obtain ⟨hK, hL, _⟩ := HR.out
              have e1 : run (bytesOf P) (P.size - L) = i := by rw [hL, ← hK]
              have := run_eq (xs := bytesOf P) (m := P.size - L) (p := p) (by omega) (by rw [e1]; exact hpm)
              rw [← pat_at p hpl] at this
              simpa using this
            have hand : (bits BinOp.and IntKind.i64 (i : Int) 1 == 1) = (i % 2 == 1) := by
              rw [Go.Proofs.and_one i (by omega)]
              rcases Nat.mod_two_eq_zero_or_one i with h | h <;> rw [h] <;> rfl
            have hSM : (S.size : Int) - (M : Int) = ((S.size - M : Nat) : Int) := by omega
            clear hpm hbl hiK hi
            cases e
            · have hb2 : (i % 2 == 1) = false := by have := HQ.out.2.2.2.2.2.1; rw [this]; rfl
              rw [hb2] at hand
              have hPL : (P.size : Int) - (L : Int) = ((P.size - L : Nat) : Int) := by omega
              have hpi2 : ((P.size - L : Nat) : Int) - (i : Int) - 1 = (p : Int) := by omega
              clear hb2
              rcases HQ.out.2.2.1 with ⟨rfl, hq, _⟩ | ⟨rfl, hq, _⟩ | rfl
              · have hu42 : u = 42 := by have := HR.out.2.2.2.1; rw [this, hq]; exact chv_ascii (by decide)
                clear hq
                subst hu42
                go_wp2_with fail
                all_goals go_ret3
                all_goals (unfold Trimmed; exact ⟨S, P, true, _, _, rfl, H1.out, H2.out, below_step HB.out hb1, HZ.out, HY.out, (fun h => by cases h), fun _ => HF.out⟩)
              · have hu63 : u = 63 := by have := HR.out.2.2.2.1; rw [this, hq]; exact chv_ascii (by decide)
                clear hq
                subst hu63
                go_wp2_with (go_at_call 102; refine (C2.out _ (Utf8Tabs_below (Utf8Tabs_below HT.out HB.out) hb1)).mono ?_; rintro e w2 ⟨rfl, hb2⟩)
                all_goals
                  go_roundw
                  case rel =>
                    obtain ⟨hq, hcc, htc, hP2, hS2, hrp, hPs, hSs⟩ := HQ.out
                    obtain ⟨hK, hL, hM, hu, hv⟩ := HR.out
                    refine ⟨S.extract 0 (S.size - M), P.extract 0 (P.size - L), x, y, rfl, rfl, rfl, by simp; omega, by simp; omega, ⟨?_⟩, ⟨?_⟩, ⟨below_step (below_step HB.out hb1) hb2⟩, ⟨?_⟩, ⟨?_⟩, ⟨?_⟩⟩
                    · rw [hM]; exact extract_front hS2
                    · rw [hL]; exact extract_front (a := 42 :: rend y) (by rw [hP2]; simp)
                    · obtain ⟨z, hz⟩ := HZ.out; exact ⟨[c] ++ z, by rw [hz]; simp⟩
                    · obtain ⟨z, hz⟩ := HY.out; exact ⟨_ :: z, by rw [hz, List.append_assoc]; rfl⟩
                    · rw [HF.out, ← List.cons_append]; exact fit_end_one
                  case measure =>
                    simp [szOf]
                    omega
              · obtain ⟨hqq, hqn⟩ := HO.out (.lit false q) (by simp)
                have ha : ∀ a : UInt8, a.toNat < 128 → IsChr [a] := fun a h => ⟨by simp, by rw [Go.Lib.decodeL_ascii a [] h]; rfl, by rw [Go.Lib.decodeL_ascii a [] h]; simp; omega⟩
                have hu42 : ((u : Int) == 42) = false := by
                  have := HR.out.2.2.2.1
                  have h9 : u ≠ 42 := fun e9 => (hqn rfl).1 (chr_inj hqq (ha 42 (by decide)) (by rw [← this, e9]; exact (chv_ascii (a := 42) (by decide)).symm))
                  simp; omega
                have hu63 : ((u : Int) == 63) = false := by
                  have := HR.out.2.2.2.1
                  have h9 : u ≠ 63 := fun e9 => (hqn rfl).2.1 (chr_inj hqq (ha 63 (by decide)) (by rw [← this, e9]; exact (chv_ascii (a := 63) (by decide)).symm))
                  simp; omega
                clear hqn ha
                by_cases huv : u = v
                · have huv' : ((u : Int) == (v : Int)) = true := by simp [huv]
                  have hcq : Aside0 (c = q) := ⟨chr_inj HQ.out.2.1 HQ.out.1 (by have := HR.out; rw [← this.2.2.2.1, ← this.2.2.2.2, huv])⟩
                  clear huv
                  go_wp2_with (go_at_call 102; refine (C2.out _ (Utf8Tabs_below (Utf8Tabs_below HT.out HB.out) hb1)).mono ?_; rintro e w2 ⟨rfl, hb2⟩)
                  all_goals
                    go_roundw
                    case rel =>
                      obtain ⟨hq, hcc, htc, hP2, hS2, hrp, hPs, hSs⟩ := HQ.out
                      obtain ⟨hK, hL, hM, hu, hv⟩ := HR.out
                      refine ⟨S.extract 0 (S.size - M), P.extract 0 (P.size - L), x, y, rfl, rfl, rfl, by simp; omega, by simp; omega, ⟨?_⟩, ⟨?_⟩, ⟨below_step (below_step HB.out hb1) hb2⟩, ⟨?_⟩, ⟨?_⟩, ⟨?_⟩⟩
                      · rw [hM]; exact extract_front hS2
                      · rw [hL]; exact extract_front (a := 42 :: rend y) (by rw [hP2]; simp)
                      · obtain ⟨z, hz⟩ := HZ.out; exact ⟨[c] ++ z, by rw [hz]; simp⟩
                      · obtain ⟨z, hz⟩ := HY.out; exact ⟨_ :: z, by rw [hz, List.append_assoc]; rfl⟩
                      · rw [HF.out, ← List.cons_append, fit_end_lit]; exact ⟨fun h => h.2, fun h => ⟨hcq.out, h⟩⟩
                    case measure =>
                      simp [szOf]
                      omega
                · have huv' : ((u : Int) == (v : Int)) = false := by simp; omega
                  have hcq : Aside0 (c ≠ q) := ⟨fun h => huv (by have := HR.out; rw [this.2.2.2.1, this.2.2.2.2, h])⟩
                  clear huv
                  go_wp2_with (go_at_call 102; refine (C2.out _ (Utf8Tabs_below (Utf8Tabs_below HT.out HB.out) hb1)).mono ?_; rintro e w2 ⟨rfl, hb2⟩)
                  all_goals go_ret3
                  all_goals (unfold Trimmed; exact ⟨S, P, false, _, _, rfl, H1.out, H2.out, below_step (below_step HB.out hb1) hb2, HZ.out, HY.out, (fun _ h => by rw [HF.out, ← List.cons_append, fit_end_lit] at h; exact hcq.out h.1), (fun h => by cases h)⟩)
            · have hb2 : (i % 2 == 1) = true := by have := HQ.out.2.2.2.2.2.1; rw [this]; rfl
              rw [hb2] at hand
              have hPL1 : L + 1 + 1 ≤ P.size := by have := HQ.out.2.2.2.2.2.2.1; simp at this; omega
              have hPL : (P.size : Int) - ((L : Int) + 1) = ((P.size - (L + 1) : Nat) : Int) := by omega
              have hPl2 : wrap64 ((L : Int) + 1) = (L : Int) + 1 := by unfold wrap64; omega
              clear hb2
              rcases HQ.out.2.2.1 with ⟨_, _, h9⟩ | ⟨_, _, h9⟩ | rfl
              · cases h9
              · cases h9
              · have h42 := Bool.eq_false_or_eq_true ((u : Int) == 42)
                have h63 := Bool.eq_false_or_eq_true ((u : Int) == 63)
                by_cases huv : u = v
                · have huv' : ((u : Int) == (v : Int)) = true := by simp [huv]
                  have hcq : Aside0 (c = q) := ⟨chr_inj HQ.out.2.1 HQ.out.1 (by have := HR.out; rw [← this.2.2.2.1, ← this.2.2.2.2, huv])⟩
                  clear huv
                  rcases h42 with h42 | h42 <;> rcases h63 with h63 | h63
                  all_goals
                    go_wp2_with (go_at_call 102; refine (C2.out _ (Utf8Tabs_below (Utf8Tabs_below HT.out HB.out) hb1)).mono ?_; rintro e w2 ⟨rfl, hb2⟩)
                  all_goals
                    go_roundw
                    case rel =>
                      obtain ⟨hq, hcc, htc, hP2, hS2, hrp, hPs, hSs⟩ := HQ.out
                      obtain ⟨hK, hL, hM, hu, hv⟩ := HR.out
                      refine ⟨S.extract 0 (S.size - M), P.extract 0 (P.size - (L + 1)), x, y, rfl, rfl, rfl, by simp; omega, by simp; omega, ⟨?_⟩, ⟨?_⟩, ⟨below_step (below_step HB.out hb1) hb2⟩, ⟨?_⟩, ⟨?_⟩, ⟨?_⟩⟩
                      · rw [hM]; exact extract_front hS2
                      · have := extract_front (S := P) (a := 42 :: rend y) (b := 92 :: q) (by rw [hP2]; simp); rwa [List.length_cons, ← hL] at this
                      · obtain ⟨z, hz⟩ := HZ.out; exact ⟨[c] ++ z, by rw [hz]; simp⟩
                      · obtain ⟨z, hz⟩ := HY.out; exact ⟨_ :: z, by rw [hz, List.append_assoc]; rfl⟩
                      · rw [HF.out, ← List.cons_append, fit_end_lit]; exact ⟨fun h => h.2, fun h => ⟨hcq.out, h⟩⟩
                    case measure =>
                      simp [szOf]
                      omega
                · have huv' : ((u : Int) == (v : Int)) = false := by simp; omega
                  have hcq : Aside0 (c ≠ q) := ⟨fun h => huv (by have := HR.out; rw [this.2.2.2.1, this.2.2.2.2, h])⟩
                  clear huv
                  rcases h42 with h42 | h42 <;> rcases h63 with h63 | h63
                  all_goals
                    go_wp2_with (go_at_call 102; refine (C2.out _ (Utf8Tabs_below (Utf8Tabs_below HT.out HB.out) hb1)).mono ?_; rintro e w2 ⟨rfl, hb2⟩)
                  all_goals go_ret3
                  all_goals (unfold Trimmed; exact ⟨S, P, false, _, _, rfl, H1.out, H2.out, below_step (below_step HB.out hb1) hb2, HZ.out, HY.out, (fun _ h => by rw [HF.out, ← List.cons_append, fit_end_lit] at h; exact hcq.out h.1), (fun h => by cases h)⟩)
end Go.Proofs.YtiecdhkmlpceoaaDoor.G
