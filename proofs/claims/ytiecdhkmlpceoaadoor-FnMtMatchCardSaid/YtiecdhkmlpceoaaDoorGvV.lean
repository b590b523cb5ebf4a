/- match's match, walked on texts in UTF-8. -/
import Derived.Test.YtiecdhkmlpceoaaDoorGvT
namespace Go.Proofs.YtiecdhkmlpceoaaDoor.G
set_option linter.unusedVariables false
set_option linter.unusedSimpArgs false
open Go.RowKit Go.Proofs.YtiecdhkmlpceoaaDoorW.PrintWords
open Go.Lib (decodeL decodeLastL)

theorem decodeGo_eq {T : ByteArray} (h : 0 < T.size) : Lib.decodeGo T = decodeL T.data.toList := by
  unfold Lib.decodeGo
  rw [if_neg (by omega)]
  have := Go.Lib.decodeL_drop T 0
  rw [List.drop_zero] at this
  exact this.symm
theorem ascii_chr {a : UInt8} (h : a.toNat < 128) : IsChr [a] := ⟨by simp, by rw [Go.Lib.decodeL_ascii a [] h]; rfl, by rw [Go.Lib.decodeL_ascii a [] h]; simp; omega⟩
/-- The first character of a term. -/
def Tm.head : Tm → List UInt8
  | .star => [42]
  | .one => [63]
  | .lit true _ => [92]
  | .lit false q => q
theorem Tm.head_chr {t : Tm} (h : t.ok) : IsChr t.head := by
  match t, h with
  | .star, _ => exact ascii_chr (by decide)
  | .one, _ => exact ascii_chr (by decide)
  | .lit true _, _ => exact ascii_chr (by decide)
  | .lit false q, h => exact h.1
def Tm.rest : Tm → List UInt8
  | .lit true q => q
  | _ => []
theorem Tm.bytes_eq (t : Tm) : t.bytes = t.head ++ t.rest := by
  match t with
  | .star => rfl
  | .one => rfl
  | .lit true _ => rfl
  | .lit false q => simp [Tm.bytes, Tm.head, Tm.rest]
theorem byte0 {T : ByteArray} {a : UInt8} {l : List UInt8} (h : T.data.toList = a :: l) (hp : 0 < T.size) : T[0] = a := by
  have h1 : T.data.toList[0]? = some a := by rw [h]; rfl
  have hd : 0 < T.data.size := hp
  have : T.data[0] = a := by simpa [Array.getElem?_eq_getElem hd] using h1
  exact this
theorem byte1 {T : ByteArray} {a b : UInt8} {l : List UInt8} (h : T.data.toList = a :: b :: l) (hp : 1 < T.size) : T[1] = b := by
  have h1 : T.data.toList[1]? = some b := by rw [h]; rfl
  have hd : 1 < T.data.size := hp
  have : T.data[1] = b := by simpa [Array.getElem?_eq_getElem hd] using h1
  exact this
theorem extract_back {T : ByteArray} {a b : List UInt8} (h : T.data.toList = a ++ b) : (T.extract a.length T.size).data.toList = b := by
  have hs : T.size = a.length + b.length := by rw [size_list, h, List.length_append]
  rw [ByteArray.data_extract, Array.toList_extract, h, List.extract, List.drop_left, hs]
  simp
def Matched (cs : List (List UInt8)) (ts : List Tm) (w : World) (e : Ending) (w' : World) : Prop :=
  ∃ b : Bool, e = .returned (.int .i64 (if b then 1 else 0)) ∧ (b = true ↔ Fit ts cs) ∧ Below w.heap.size w w'
theorem matched_yes {cs : List (List UInt8)} {ts : List Tm} {w w' : World} (h : Fit ts cs) (hb : Below w.heap.size w w') : Matched cs ts w (.returned (.int .i64 1)) w' := ⟨true, rfl, ⟨fun _ => h, fun _ => rfl⟩, hb⟩
theorem matched_no {cs : List (List UInt8)} {ts : List Tm} {w w' : World} (h : ¬ Fit ts cs) (hb : Below w.heap.size w w') : Matched cs ts w (.returned (.int .i64 0)) w' := ⟨false, rfl, ⟨fun h => by (try simp at h), fun h' => absurd h' h⟩, hb⟩
/-- What is known of a head: its number and its length. -/
def HeadIs (T : ByteArray) (V L : Nat) : Prop :=
  0 < T.size ∧ L ≤ T.size ∧ 1 ≤ L ∧ ((∃ h : 0 < T.size, (T[0].toNat : Int) ≤ 127 ∧ (T[0].toNat : Int) = V ∧ L = 1) ∨ ((∃ h : 0 < T.size, (127 : Int) < (T[0].toNat : Int)) ∧ ∀ W, Lib.Utf8Tabs 2 3 W → Calls Tryd.prog 55 #[.string T] W fun e w' => e = .returned (.tuple #[.int .i32 V, .int .i64 L]) ∧ Below W.heap.size W w'))
theorem dec_calls {T : ByteArray} {q r : List UInt8} (hq : IsChr q) (h : T.data.toList = q ++ r) (W : World) (hW : Lib.Utf8Tabs 2 3 W) :
    Calls Tryd.prog 55 #[.string T] W fun e w' => e = .returned (.tuple #[.int .i32 (chv q : Nat), .int .i64 (q.length : Nat)]) ∧ Below W.heap.size W w' := by
  have hp : 0 < T.size := by have := (chr_pos hq).1; rw [size_list, h, List.length_append]; omega
  have := Tryd.utf8_DecodeRuneInString T W hW
  rw [decodeGo_eq hp, h, chr_front hq, hq.2.1] at this
  exact this
theorem head_is {T : ByteArray} {q r : List UInt8} (hq : IsChr q) (h : T.data.toList = q ++ r) : HeadIs T (chv q) q.length := by
  have hl := chr_pos hq
  have hs : T.size = q.length + r.length := by rw [size_list, h, List.length_append]
  have hp : 0 < T.size := by omega
  obtain ⟨a, r', rfl, h2⟩ := chr_first hq
  have h0 : T[0] = a := byte0 (l := r' ++ r) (by rw [h]; rfl) hp
  refine ⟨hp, by omega, hl.1, ?_⟩
  rcases h2 with ⟨h3, rfl, h4⟩ | ⟨h3, h4⟩
  · exact .inl ⟨hp, by rw [h0]; omega, by rw [h0, h4], rfl⟩
  · exact .inr ⟨⟨hp, by rw [h0]; omega⟩, fun W hW => dec_calls hq h W hW⟩

set_option maxHeartbeats 8000000 in
set_option maxRecDepth 100000 in
theorem match_walk (N : Nat) (IH : ∀ (ts : List Tm) (cs : List (List UInt8)) (S P : ByteArray) (w : World), ts.length < N → Lib.Utf8Tabs 2 3 w → S.data.toList = cs.flatten → P.data.toList = rend ts → OkC cs → OkT ts → S.size ≤ 140737488351232 → P.size ≤ 140737488351232 →
      Calls Tryd.prog 65 #[.string S, .string P, .int .i64 0, .pointer none, .int .i64 (-1), .bool false] w (Matched cs ts w))
    (ts : List Tm) (cs : List (List UInt8)) (S P : ByteArray) (w : World) (hN : ts.length ≤ N) (hT : Lib.Utf8Tabs 2 3 w) (hS : S.data.toList = cs.flatten) (hP : P.data.toList = rend ts) (hc : OkC cs) (ht : OkT ts) (hSm : S.size ≤ 140737488351232) (hPm : P.size ≤ 140737488351232) :
    Calls Tryd.prog 65 #[.string S, .string P, .int .i64 0, .pointer none, .int .i64 (-1), .bool false] w (Matched cs ts w) := by
  have HI := Aside0.mk IH
  have H1 := Aside0.mk hS
  have H2 := Aside0.mk hP
  have H3 := Aside0.mk hc
  have H4 := Aside0.mk ht
  have HT := Aside0.mk hT
  have HNn := Aside0.mk hN
  clear IH hS hP hc ht hT hN
  go_enter Tryd.func65, Tryd.ntmps65
  go_wp2_with fail
  go_loopw [0, 1, 13, 14, 15, 16, 17, 18, 19] (fun s p wd pc ps sc ss okk r wr => ∃ (S P : ByteArray) (cs' : List (List UInt8)) (ts' : List Tm), s = .string S ∧ p = .string P ∧ S.size ≤ 140737488351232 ∧ P.size ≤ 140737488351232 ∧ Aside0 (S.data.toList = cs'.flatten) ∧ Aside0 (P.data.toList = rend ts') ∧
    Aside0 (OkC cs') ∧ Aside0 (OkT ts') ∧ Aside0 (ts'.length ≤ N) ∧ Aside0 (Below w.heap.size w wr) ∧ Aside0 (Fit ts cs ↔ Fit ts' cs')) (fun s p _ _ _ _ _ _ _ _ => szOf s + szOf p)
  case atStart => exact ⟨S, P, cs, ts, rfl, rfl, hSm, hPm, H1, H2, H3, H4, HNn, ⟨Below.refl _ _⟩, ⟨Iff.rfl⟩⟩
  case round =>
    clear hSm hPm H1 H2 H3 H4 HNn
    obtain ⟨S, P, cs', ts', rfl, rfl, hSm, hPm, H1, H2, H3, H4, HNn, HB, HF⟩ := hrel
    cases ts' with
    | nil =>
      have h0 : P.size = 0 := by rw [size_list, H2.out]; rfl
      cases cs' with
      | nil =>
        have h1 : S.size = 0 := by rw [size_list, H1.out]; rfl
        go_wp2_with fail
        all_goals go_ret
        all_goals exact matched_yes (HF.out.2 .nil) HB.out
      | cons c x =>
        have h1 : 0 < S.size := by have := (chr_pos (H3.out c (by simp))).1; rw [size_list, H1.out]; simp; omega
        go_wp2_with fail
        all_goals go_ret
        all_goals exact matched_no (fun h => by have := fit_nil.1 (HF.out.1 h); cases this) HB.out
    | cons t y =>
      have hto := H4.out t (by simp)
      have hP1 : P.data.toList = t.head ++ (t.rest ++ rend y) := by rw [H2.out, rend_cons, t.bytes_eq, List.append_assoc]
      have hHP := head_is (Tm.head_chr hto) hP1
      obtain ⟨PC, hPC⟩ : ∃ n, n = chv t.head := ⟨_, rfl⟩
      obtain ⟨PS, hPS⟩ : ∃ n, n = t.head.length := ⟨_, rfl⟩
      rw [← hPC, ← hPS] at hHP
      obtain ⟨SC, SS, hSC⟩ : ∃ SC SS : Nat, (cs' = [] ∧ SC = 0 ∧ SS = 0) ∨ ∃ c x, cs' = c :: x ∧ SC = chv c ∧ SS = c.length := by
        cases cs' with
        | nil => exact ⟨0, 0, .inl ⟨rfl, rfl, rfl⟩⟩
        | cons c x => exact ⟨_, _, .inr ⟨c, x, rfl, rfl, rfl⟩⟩
      have hHS : (S.size = 0 ∧ SC = 0 ∧ SS = 0) ∨ HeadIs S SC SS := by
        rcases hSC with ⟨rfl, h1, h2⟩ | ⟨c, x, rfl, h1, h2⟩
        · exact .inl ⟨by rw [size_list, H1.out]; rfl, h1, h2⟩
        · right
          rw [h1, h2]
          exact head_is (H3.out c (by simp)) (r := x.flatten) (by rw [H1.out]; simp)
      have HP1 := Aside0.mk hP1
      have HHP := Aside0.mk hHP
      have HPC := Aside0.mk (And.intro hPC hPS)
      have HSC := Aside0.mk hSC
      have HHS := Aside0.mk hHS
      have HO := Aside0.mk hto
      have hP0 := hHP.1
      clear hP1 hHP hPC hPS hSC hHS hto
      have hwp : wrap32 (P[0].toNat : Int) = (P[0].toNat : Int) := by have := P[0].toNat_lt; unfold wrap32; omega
      go_upto_if 41 with fail
      go_cut [14, 15] from 34 to 136 (fun pc ps wx => pc = .int .i32 PC ∧ ps = .int .i64 PS ∧ Aside0 (Below w.heap.size w wx))
      case first =>
        rcases HHP.out.2.2.2 with ⟨_, h1, h2, h3⟩ | ⟨⟨_, h1⟩, C⟩
        · subst h3
          go_wp2_with fail
          go_meet
          exact ⟨by first | rfl | (congr 1; unfold wrap32; omega) | rw [h2], rfl, HB⟩
        · have HC := Aside0.mk C
          clear C
          go_wp2_with (go_at_call 55; refine (HC.out _ (Utf8Tabs_below HT.out HB.out)).mono ?_; rintro e w1 ⟨rfl, hb1⟩)
          go_meet
          exact ⟨rfl, rfl, ⟨below_step HB.out hb1⟩⟩
      case rest =>
        clear HB
        obtain ⟨rfl, rfl, HB⟩ := hcut
        clear hwp
        go_upto_if 49 with fail
        go_cut [16, 17] from 34 to 136 (fun sc ss wx => sc = .int .i32 SC ∧ ss = .int .i64 SS ∧ Aside0 (Below w.heap.size w wx))
        case first =>
          rcases HHS.out with ⟨h0, rfl, rfl⟩ | hh
          · go_wp2_with fail
            go_meet
            exact ⟨rfl, rfl, HB⟩
          · have hS0 := hh.1
            have hws : wrap32 (S[0].toNat : Int) = (S[0].toNat : Int) := by have := S[0].toNat_lt; unfold wrap32; omega
            rcases hh.2.2.2 with ⟨_, h1, h2, h3⟩ | ⟨⟨_, h1⟩, C⟩
            · subst h3
              clear hh
              go_wp2_with fail
              go_meet
              exact ⟨by first | rfl | (congr 1; unfold wrap32; omega) | rw [h2], rfl, HB⟩
            · have HC := Aside0.mk C
              clear C hh
              go_wp2_with (go_at_call 55; refine (HC.out _ (Utf8Tabs_below HT.out HB.out)).mono ?_; rintro e w1 ⟨rfl, hb1⟩)
              go_meet
              exact ⟨rfl, rfl, ⟨below_step HB.out hb1⟩⟩
        case rest =>
          clear HB
          obtain ⟨rfl, rfl, HB⟩ := hcut
          cases t with
          | one =>
            as_aux_lemma =>
              obtain rfl : PC = 63 := by rw [HPC.out.1]; exact chv_ascii (by decide)
              obtain rfl : PS = 1 := HPC.out.2
              rcases HSC.out with ⟨rfl, _, rfl⟩ | ⟨c, x, rfl, hsc, hss⟩
              · go_wp2_with fail
                all_goals go_ret
                all_goals exact matched_no (fun h => fit_one_nil (HF.out.1 h)) HB.out
              · have hSS := Aside0.mk hss
                have hSCc := Aside0.mk hsc
                have hcl := (chr_pos (H3.out c (by simp))).1
                rw [← hss] at hcl
                have hSSs : SS ≤ S.size := by rw [hss, size_list, H1.out]; simp
                have hssb : ((SS : Int) == 0) = false := by simp; omega
                have hPs : 1 ≤ P.size := hP0
                clear hsc hss
                have HBB := HB
                go_wp2_with fail
                go_roundw
                case rel =>
                  refine ⟨S.extract SS S.size, P.extract 1 P.size, x, y, rfl, rfl, by simp; omega, by simp; omega, ⟨?_⟩, ⟨?_⟩, ⟨fun u hu => H3.out u (by simp [hu])⟩, ⟨fun u hu => H4.out u (by simp [hu])⟩, ⟨by have := HNn.out; simp at this; omega⟩, HBB, ⟨?_⟩⟩
                  · rw [hSS.out]; exact extract_back (a := c) (b := x.flatten) (by rw [H1.out]; simp)
                  · exact extract_back (a := [63]) (b := rend y) (by rw [HP1.out]; rfl)
                  · rw [HF.out]; exact fit_one
                case measure => simp [szOf]; omega
          | star =>
            as_aux_lemma =>
              obtain rfl : PC = 42 := by rw [HPC.out.1]; exact chv_ascii (by decide)
              obtain rfl : PS = 1 := HPC.out.2
              go_wp2_with fail
              go_loop [1] (fun p => ∃ (P' : ByteArray) (y' : List Tm), p = .string P' ∧ P'.size ≤ P.size ∧ 1 ≤ P'.size ∧ Aside0 (P'.data.toList = 42 :: rend y') ∧ Aside0 (OkT y' ∧ y'.length ≤ y.length) ∧ Aside0 (Fit (.star :: y) cs' ↔ Fit (.star :: y') cs')) (fun p => szOf p)
              case atStart => exact ⟨P, y, rfl, Nat.le_refl _, hP0, ⟨HP1.out⟩, ⟨fun u hu => H4.out u (by simp [hu]), Nat.le_refl _⟩, ⟨Iff.rfl⟩⟩
              case round =>
                obtain ⟨P', y', rfl, hPP, hP1', HPd, HY, HFy⟩ := hrel
                cases y' with
                | nil =>
                  have h1 : P'.size = 1 := by rw [size_list, HPd.out]; rfl
                  go_wp2_with fail
                  all_goals go_ret
                  all_goals exact matched_yes (HF.out.2 (HFy.out.2 (fit_star_all _))) HB.out
                | cons t2 z =>
                  have h2s : 2 ≤ P'.size := by
                    have := (chr_pos (Tm.head_chr (HY.out.1 t2 (by simp)))).1
                    rw [size_list, HPd.out, rend_cons, t2.bytes_eq]; simp; omega
                  have h2s' : 1 < P'.size := h2s
                  have hne1 : ((P'.size : Int) == 1) = false := by simp; omega
                  by_cases hst : t2 = .star
                  · subst hst
                    have hb : (P'[1].toNat : Int) = 42 := by rw [byte1 (a := 42) (b := 42) (l := rend z) (by rw [HPd.out, rend_cons]; rfl) h2s']; rfl
                    have hb' : ((P'[1].toNat : Int) == 42) = true := by rw [hb]; rfl
                    clear hb
                    go_wp2_with fail
                    go_round
                    case rel => exact ⟨by omega, by omega, z, ⟨by rw [HPd.out, List.tail_cons, List.take_of_length_le (by rw [size_list, HPd.out, List.length_cons]; omega), rend_cons]; rfl⟩, ⟨fun u hu => HY.out.1 u (by simp [hu]), by have := HY.out.2; simp at this; omega⟩, ⟨by rw [HFy.out, fit_star_star]⟩⟩
                    case measure => simp [szOf]; omega
                  · have hb' : ((P'[1].toNat : Int) == 42) = false := by
                      have hto := HY.out.1 t2 (by simp)
                      obtain ⟨a0, r0, hq0, hq1⟩ := chr_first (Tm.head_chr hto)
                      have h1 : P'[1] = a0 := byte1 (a := 42) (l := r0 ++ (t2.rest ++ rend z)) (by rw [HPd.out, rend_cons, t2.bytes_eq, hq0]; simp) h2s'
                      rw [h1]
                      have : a0.toNat ≠ 42 := by
                        intro ha
                        rcases hq1 with ⟨_, hr, _⟩ | ⟨h3, _⟩
                        · have ha' : a0 = 42 := UInt8.toNat_inj.1 ha
                          rw [hr, ha'] at hq0
                          match t2, hst, hto, hq0 with
                          | .star, hst, _, _ => exact hst rfl
                          | .one, _, _, hq0 => exact absurd hq0 (by decide)
                          | .lit true q, _, _, hq0 => exact absurd hq0 (by intro h; injection h with h _; exact absurd h (by decide))
                          | .lit false q, _, hto, hq0 => exact (hto.2 rfl).1 hq0
                        · omega
                      simp; omega
                    have C := Aside0.mk (fun W hW => trim_walk S P' cs' (t2 :: z) W hW H1.out HPd.out H3.out HY.out.1 hSm (by omega))
                    clear hst
                    go_upto_if 111 with (go_at_call 82; refine (C.out _ (Utf8Tabs_below HT.out HB.out)).mono ?_; rintro e w1 ⟨S2, P2, b, cs2, ts2, rfl, hS2, hP2, hb1, hz1, hz2, hbf, hbt⟩)
                    have HB1 : Aside0 (Below w.heap.size w w1) := ⟨below_step HB.out hb1⟩
                    have HS2 := Aside0.mk hS2
                    have HP2 := Aside0.mk hP2
                    have HZ1 := Aside0.mk hz1
                    have HZ2 := Aside0.mk hz2
                    clear hS2 hP2 hb1 hz1 hz2
                    have hS2s : S2.size ≤ S.size := by
                      obtain ⟨zz, hzz⟩ := HZ1.out
                      rw [size_list, size_list, HS2.out, H1.out, hzz]; simp
                    have hP2s : P2.size ≤ P'.size := by
                      obtain ⟨zz, hzz⟩ := HZ2.out
                      rw [size_list, size_list, HP2.out, HPd.out, hzz, rend_append]; simp
                    cases b with
                    | false =>
                      have HN2 := Aside0.mk (hbf rfl)
                      clear hbf hbt
                      go_wp2_with fail
                      all_goals go_ret
                      all_goals exact matched_no (fun h => HN2.out (HFy.out.1 (HF.out.1 h))) HB1.out
                    | true =>
                      have HFt := Aside0.mk (hbt rfl)
                      clear hbf hbt
                      cases ts2 with
                      | nil =>
                        have h1 : P2.size = 1 := by rw [size_list, HP2.out]; rfl
                        go_wp2_with fail
                        all_goals go_ret
                        all_goals exact matched_yes (HF.out.2 (HFy.out.2 (HFt.out.2 (fit_star_all _)))) HB1.out
                      | cons t3 z3 =>
                        have hok3 : OkT (t3 :: z3) := by obtain ⟨zz, hzz⟩ := HZ2.out; exact fun u hu => HY.out.1 u (by rw [hzz]; exact List.mem_append_left _ hu)
                        have hoc2 : OkC cs2 := by obtain ⟨zz, hzz⟩ := HZ1.out; exact fun u hu => H3.out u (by rw [hzz]; exact List.mem_append_left _ hu)
                        have hln : (t3 :: z3).length < N := by
                          obtain ⟨zz, hzz⟩ := HZ2.out
                          have h1 := congrArg List.length hzz
                          rw [List.length_append] at h1
                          have h2 := HY.out.2
                          have h3 := HNn.out
                          simp at h1 h2 h3 ⊢
                          omega
                        have hp2s : 2 ≤ P2.size := by
                          have := (chr_pos (Tm.head_chr (hok3 t3 (by simp)))).1
                          rw [size_list, HP2.out, rend_cons, t3.bytes_eq]; simp; omega
                        have hne2 : ((P2.size : Int) == 1) = false := by simp; omega
                        have hp2s' : 1 ≤ P2.size := by omega
                        have C6 := Aside0.mk (fun W hW => HI.out (t3 :: z3) cs2 S2 (P2.extract 1 P2.size) W hln hW HS2.out (extract_back (a := [42]) (b := rend (t3 :: z3)) HP2.out) hoc2 hok3 (by omega) (by simp; omega))
                        have HK3 := Aside0.mk (And.intro hok3 hoc2)
                        have HLn := Aside0.mk hln
                        clear hok3 hoc2 hln
                        go_upto_if 124 with (go_at_call 65; refine (C6.out _ (Utf8Tabs_below HT.out HB1.out)).mono ?_; rintro e w4 ⟨r, rfl, hr, hb4⟩)
                        have HB4 : Aside0 (Below w.heap.size w w4) := ⟨below_step HB1.out hb4⟩
                        have HR4 := Aside0.mk hr
                        clear hb4 hr
                        cases r with
                        | true =>
                          go_wp2_with fail
                          all_goals go_ret
                          all_goals exact matched_yes (HF.out.2 (HFy.out.2 (HFt.out.2 (.skip (HR4.out.1 (by first | rfl | trivial)))))) HB4.out
                        | false =>
                          cases cs2 with
                          | nil =>
                            have h1 : S2.size = 0 := by rw [size_list, HS2.out]; rfl
                            go_wp2_with fail
                            all_goals go_ret
                            all_goals exact matched_no (fun h => by have := HR4.out.2 (fit_star_nil.1 (HFt.out.1 (HFy.out.1 (HF.out.1 h)))); cases this) HB4.out
                          | cons c2 x2 =>
                            have hcc : SS = c2.length := by
                              obtain ⟨zz, hzz⟩ := HZ1.out
                              rcases HSC.out with ⟨h1, _, _⟩ | ⟨c, x, h1, _, h2⟩
                              · rw [h1] at hzz; cases hzz
                              · rw [h1] at hzz; injection hzz with h3 _; rw [h2, h3]
                            have hc2l := (chr_pos (HK3.out.2 c2 (by simp))).1
                            have hS2l : SS ≤ S2.size := by rw [hcc, size_list, HS2.out]; simp
                            have hss1 : 1 ≤ SS := by omega
                            have hS2p : 0 < S2.size := by omega
                            have hS2b : ((S2.size : Int) == 0) = false := beq_eq_false_iff_ne.2 (by omega)
                            have HCC := Aside0.mk hcc
                            clear hcc hc2l
                            go_wp2_with fail
                            go_roundw
                            case rel =>
                              refine ⟨S2.extract SS S2.size, P2, x2, .star :: t3 :: z3, rfl, rfl, by simp; omega, by omega, ⟨?_⟩, ⟨?_⟩, ⟨fun u hu => HK3.out.2 u (by simp [hu])⟩, ⟨?_⟩, ⟨by have := HLn.out; simp at this ⊢; omega⟩, HB4, ⟨?_⟩⟩
                              · rw [HCC.out]; exact extract_back (a := c2) (b := x2.flatten) (by rw [HS2.out]; simp)
                              · rw [HP2.out, rend_cons]; rfl
                              · intro u hu
                                rcases List.mem_cons.1 hu with rfl | hu
                                · trivial
                                · exact HK3.out.1 u hu
                              · rw [HF.out, HFy.out, HFt.out, fit_star_cons]
                                exact ⟨fun h => h.elim (fun h => by have := HR4.out.2 h; cases this) id, .inr⟩
                            case measure => simp [szOf]; omega
          | lit e q =>
            cases e with
            | false =>
              as_aux_lemma =>
                have n42 : ((PC : Int) == 42) = false := by
                  have : PC ≠ 42 := fun e9 => (HO.out.2 rfl).1 (chr_inj HO.out.1 (ascii_chr (by decide)) (by rw [chv_ascii (a := 42) (by decide)]; have := HPC.out.1; rw [e9] at this; exact this.symm))
                  simp; omega
                have n63 : ((PC : Int) == 63) = false := by
                  have : PC ≠ 63 := fun e9 => (HO.out.2 rfl).2.1 (chr_inj HO.out.1 (ascii_chr (by decide)) (by rw [chv_ascii (a := 63) (by decide)]; have := HPC.out.1; rw [e9] at this; exact this.symm))
                  simp; omega
                have n92 : ((PC : Int) == 92) = false := by
                  have : PC ≠ 92 := fun e9 => (HO.out.2 rfl).2.2 (chr_inj HO.out.1 (ascii_chr (by decide)) (by rw [chv_ascii (a := 92) (by decide)]; have := HPC.out.1; rw [e9] at this; exact this.symm))
                  simp; omega
                rcases HSC.out with ⟨rfl, _, rfl⟩ | ⟨c, x, rfl, hsc, hss⟩
                · go_wp2_with fail
                  all_goals go_ret
                  all_goals exact matched_no (fun h => fit_lit_nil (HF.out.1 h)) HB.out
                · have hSS := Aside0.mk hss
                  have hSCc := Aside0.mk hsc
                  have hcl := (chr_pos (H3.out c (by simp))).1
                  rw [← hss] at hcl
                  have hSSs : SS ≤ S.size := by rw [hss, size_list, H1.out]; simp
                  have hssb : ((SS : Int) == 0) = false := by simp; omega
                  have hPs : 1 ≤ P.size := hP0
                  clear hsc hss
                  have hPL : PS ≤ P.size := HHP.out.2.1
                  have hps1 : 1 ≤ PS := HHP.out.2.2.1
                  have HBB := HB
                  by_cases hv : SC = PC
                  · have hvb : ((SC : Int) != (PC : Int)) = false := by simp [hv]
                    have hcq : Aside0 (c = q) := ⟨chr_inj (H3.out c (by simp)) HO.out.1 (by rw [← hSCc.out, hv, HPC.out.1]; rfl)⟩
                    clear hv
                    go_wp2_with fail
                    go_roundw
                    case rel =>
                      refine ⟨S.extract SS S.size, P.extract PS P.size, x, y, rfl, rfl, by simp; omega, by simp; omega, ⟨?_⟩, ⟨?_⟩, ⟨fun u hu => H3.out u (by simp [hu])⟩, ⟨fun u hu => H4.out u (by simp [hu])⟩, ⟨by have := HNn.out; simp at this; omega⟩, HBB, ⟨?_⟩⟩
                      · rw [hSS.out]; exact extract_back (a := c) (b := x.flatten) (by rw [H1.out]; simp)
                      · rw [HPC.out.2]; exact extract_back (a := q) (b := rend y) (by rw [HP1.out]; rfl)
                      · rw [HF.out]; rw [fit_lit]; exact ⟨fun h => h.2, fun h => ⟨hcq.out, h⟩⟩
                    case measure => simp [szOf]; omega
                  · have hvb : ((SC : Int) != (PC : Int)) = true := by simp; omega
                    have hcq : Aside0 (c ≠ q) := ⟨fun h => hv (by rw [hSCc.out, HPC.out.1, h]; rfl)⟩
                    clear hv
                    go_wp2_with fail
                    all_goals go_ret
                    all_goals exact matched_no (fun h => by have := HF.out.1 h; rw [fit_lit] at this; exact hcq.out this.1) HB.out
            | true =>
              as_aux_lemma =>
                obtain rfl : PC = 92 := by rw [HPC.out.1]; exact chv_ascii (by decide)
                obtain rfl : PS = 1 := HPC.out.2
                rcases HSC.out with ⟨rfl, _, rfl⟩ | ⟨c, x, rfl, hsc, hss⟩
                · go_wp2_with fail
                  all_goals go_ret
                  all_goals exact matched_no (fun h => fit_lit_nil (HF.out.1 h)) HB.out
                · have hSS := Aside0.mk hss
                  have hSCc := Aside0.mk hsc
                  have hcl := (chr_pos (H3.out c (by simp))).1
                  rw [← hss] at hcl
                  have hSSs : SS ≤ S.size := by rw [hss, size_list, H1.out]; simp
                  have hssb : ((SS : Int) == 0) = false := by simp; omega
                  have hPs : 1 ≤ P.size := hP0
                  clear hsc hss
                  obtain ⟨V, hV⟩ : ∃ V, V = chv q := ⟨_, rfl⟩
                  obtain ⟨L, hL⟩ : ∃ L, L = q.length := ⟨_, rfl⟩
                  have hPd : (P.extract 1 P.size).data.toList = q ++ rend y := extract_back (a := [92]) (b := q ++ rend y) (by rw [HP1.out]; rfl)
                  have C := Aside0.mk (fun W hW => dec_calls HO.out.1 hPd W hW)
                  have hql := (chr_pos HO.out.1).1
                  have hPs2 : P.size = 1 + q.length + (rend y).length := by rw [size_list, HP1.out]; simp [Tm.head, Tm.rest]; omega
                  have HPd := Aside0.mk hPd
                  rw [← hV, ← hL] at C
                  rw [← hL] at hql hPs2
                  have hLb : ((L : Int) == 0) = false := by simp; omega
                  have hPL : L + 1 ≤ P.size := by omega
                  have HVL := Aside0.mk (And.intro hV hL)
                  clear hV hL hPd hPs2
                  by_cases hv : SC = V
                  · have hvb : ((SC : Int) != (V : Int)) = false := by simp [hv]
                    have hcq : Aside0 (c = q) := ⟨chr_inj (H3.out c (by simp)) HO.out.1 (by rw [← hSCc.out, hv, HVL.out.1])⟩
                    clear hv
                    go_wp2_with (go_at_call 55; refine (C.out _ (Utf8Tabs_below HT.out HB.out)).mono ?_; rintro e w3 ⟨rfl, hb3⟩; have HBB : Aside0 (Below w.heap.size w w3) := ⟨below_step HB.out hb3⟩)
                    go_roundw
                    case rel =>
                      refine ⟨S.extract SS S.size, (P.extract 1 P.size).extract L (P.size - 1), x, y, rfl, rfl, by simp; omega, by simp; omega, ⟨?_⟩, ⟨?_⟩, ⟨fun u hu => H3.out u (by simp [hu])⟩, ⟨fun u hu => H4.out u (by simp [hu])⟩, ⟨by have := HNn.out; simp at this; omega⟩, HBB, ⟨?_⟩⟩
                      · rw [hSS.out]; exact extract_back (a := c) (b := x.flatten) (by rw [H1.out]; simp)
                      · rw [HVL.out.2, show P.size - 1 = (P.extract 1 P.size).size by simp]; exact extract_back (a := q) (b := rend y) HPd.out
                      · rw [HF.out]; rw [fit_lit]; exact ⟨fun h => h.2, fun h => ⟨hcq.out, h⟩⟩
                    case measure => simp [szOf]; omega
                  · have hvb : ((SC : Int) != (V : Int)) = true := by simp; omega
                    have hcq : Aside0 (c ≠ q) := ⟨fun h => hv (by rw [hSCc.out, HVL.out.1, h])⟩
                    clear hv
                    go_wp2_with (go_at_call 55; refine (C.out _ (Utf8Tabs_below HT.out HB.out)).mono ?_; rintro e w3 ⟨rfl, hb3⟩; have HBB : Aside0 (Below w.heap.size w w3) := ⟨below_step HB.out hb3⟩)
                    all_goals go_ret
                    all_goals exact matched_no (fun h => by have := HF.out.1 h; rw [fit_lit] at this; exact hcq.out this.1) HBB.out
theorem match_all : ∀ (N : Nat) (ts : List Tm) (cs : List (List UInt8)) (S P : ByteArray) (w : World), ts.length < N → Lib.Utf8Tabs 2 3 w → S.data.toList = cs.flatten → P.data.toList = rend ts → OkC cs → OkT ts → S.size ≤ 140737488351232 → P.size ≤ 140737488351232 →
      Calls Tryd.prog 65 #[.string S, .string P, .int .i64 0, .pointer none, .int .i64 (-1), .bool false] w (Matched cs ts w)
  | 0, ts, _, _, _, _, h => absurd h (by omega)
  | N + 1, ts, cs, S, P, w, h => match_walk N (match_all N) ts cs S P w (by omega)
end Go.Proofs.YtiecdhkmlpceoaaDoor.G
