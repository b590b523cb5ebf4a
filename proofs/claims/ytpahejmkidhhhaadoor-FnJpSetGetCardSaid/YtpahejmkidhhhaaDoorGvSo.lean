/- searchKeys: an index in an array. -/
import Derived.Test.YtpahejmkidhhhaaDoorGvSi
namespace Go.Proofs.YtpahejmkidhhhaaDoor.G
set_option linter.unusedVariables false
set_option linter.unusedSimpArgs false
open Go.RowKit Go.Proofs.YtpahejmkidhhhaaDoorW.PrintWords

set_option maxHeartbeats 16000000 in
set_option maxRecDepth 1000000 in
theorem idx_ok (K : List ByteArray) (a : Addr) (kn kc h o n c m p : Nat) (xs : List Int) (w wr : World) (E : Nat → Value) (hsub : Sub E K) (hkl : K.length = kn) (hkm : kn ≤ 140737488351232) (hks : ∀ s ∈ K, s.size ≤ 281474976710656) (hkc : kn ≤ kc) (hka : KeysAt w (some a) K) (hG : SW w E) (H : RowAt w h o xs) (hby : Bytes xs) (hl : xs.length = n) (hn : n ≤ 140737488351232) (hnc : n ≤ c) (HS : SL w h o n c wr) (hlt : m < n) (hpk : p < kn) (s : ByteArray) (hs : s = K.getD p ByteArray.empty) (h0 : 0 < s.size) (v : Int) (hk : kix s = some v) (R : Int) (hQ : skA sks K xs m (p : Int) = R)
    (u0 u1 u5 u6 u10 u11 u12 u13 u14 u15 u16 u17 u18 u19 u20 u21 u22 u23 u24 u25 u26 u27 u28 u29 u30 u31 u32 u33 u34 u35 u36 u37 u38 u39 u40 u41 u42 u43 u44 u45 u46 u47 u48 u49 u50 u51 u52 u53 u54 u55 u56 u57 u58 u59 u60 u61 u62 u63 u64 u65 u66 u67 u68 u69 u70 u71 u72 u73 u74 u75 u76 u77 u78 u79 u80 u81 u82 u83 u84 u85 u86 u87 u88 u89 u90 u91 u92 u93 u94 u95 u96 u97 u98 u99 u100 u101 u102 u103 u104 u105 u106 u107 u108 u109 u110 u111 u112 u113 u114 u115 u116 u117 u118 u119 u120 u121 u122 u123 u124 u125 u126 u127 u128 u129 u130 u131 u132 u133 u134 u135 u136 u137 u138 u139 u140 u141 u142 u143 u144 u145 u146 u147 u148 u149 u150 u151 u152 u153 u154 u155 u156 u157 u158 u159 u160 u161 u162 u163 u164 u165 u166 u167 u168 u169 u170 u171 u172 u173 u174 u175 u176 u177 u178 u179 u180 u181 u182 u183 u184 u185 u186 u187 u188 u189 u190 u191 u192 u193 u194 u195 u196 u197 u198 u199 u200 u201 u202 u203 u204 u205 u206 u207 u208 u209 u211 u212 u213 u214 u215 u216 u217 u218 u219 u220 u221 u222 u223 u224 u225 u226 u227 u228 u229 u230 u231 u232 u233 u234 u235 u236 u237 u238 u239 u240 u241 u242 u243 u244 u245 u246 u247 u248 u249 u250 u251 u252 u253 u254 u255 u256 u257 u258 u259 u260 u261 u262 u263 u264 u265 u266 u267 u268 u269 u270 u271 u272 u273 u274 u275 u276 u277 u278 u279 u280 u281 u282 : Value) :
    Code.wp Tryd.prog code68 (RetOnly (bodyPost Tryd.prog Tryd.f67 (SKA R w) .ret)) ⟨#[u0, u1, .slice (some a) kn kc, .pointer (some ⟨w.heap.size, 0, none⟩), .pointer (some ⟨w.heap.size + 1, 0, none⟩), u5, u6, .int .i64 (p : Int), .int .i64 (p : Int), .int .i64 (m : Int), u10, u11, u12, u13, u14, u15, u16, u17, u18, u19, u20, u21, u22, u23, u24, u25, u26, u27, u28, u29, u30, u31, u32, u33, u34, u35, u36, u37, u38, u39, u40, u41, u42, u43, u44, u45, u46, u47, u48, u49, u50, u51, u52, u53, u54, u55, u56, u57, u58, u59, u60, u61, u62, u63, u64, u65, u66, u67, u68, u69, u70, u71, u72, u73, u74, u75, u76, u77, u78, u79, u80, u81, u82, u83, u84, u85, u86, u87, u88, u89, u90, u91, u92, u93, u94, u95, u96, u97, u98, u99, u100, u101, u102, u103, u104, u105, u106, u107, u108, u109, u110, u111, u112, u113, u114, u115, u116, u117, u118, u119, u120, u121, u122, u123, u124, u125, u126, u127, u128, u129, u130, u131, u132, u133, u134, u135, u136, u137, u138, u139, u140, u141, u142, u143, u144, u145, u146, u147, u148, u149, u150, u151, u152, u153, u154, u155, u156, u157, u158, u159, u160, u161, u162, u163, u164, u165, u166, u167, u168, u169, u170, u171, u172, u173, u174, u175, u176, u177, u178, u179, u180, u181, u182, u183, u184, u185, u186, u187, u188, u189, u190, u191, u192, u193, u194, u195, u196, u197, u198, u199, u200, u201, u202, u203, u204, u205, u206, u207, u208, u209, .bool true, u211, u212, u213, u214, u215, u216, u217, u218, u219, u220, u221, u222, u223, u224, u225, u226, u227, u228, u229, u230, u231, u232, u233, u234, u235, u236, u237, u238, u239, u240, u241, u242, u243, u244, u245, u246, u247, u248, u249, u250, u251, u252, u253, u254, u255, u256, u257, u258, u259, u260, u261, u262, u263, u264, u265, u266, u267, u268, u269, u270, u271, u272, u273, u274, u275, u276, u277, u278, u279, u280, u281, u282], []⟩ wr := by
  have hcs : wr.cell? (a.add p) = some (.string s) := by
    obtain ⟨b, h1, h2, h3⟩ := (hka.below HS.below) p (by rw [hkl]; exact hpk)
    obtain rfl := Option.some.inj h1
    rw [h3, hs]
  have hssz : s.size ≤ 281474976710656 := by
    rw [hs]
    have hm : K.getD p ByteArray.empty ∈ K := by
      rw [List.getD_eq_getElem?_getD, List.getElem?_eq_getElem (by rw [hkl]; exact hpk)]
      exact List.getElem_mem _
    exact hks _ hm
  have hgs := Aside0.mk (bytes_at s)
  have HS := Aside0.mk HS
  have HG := Aside0.mk hG
  have HSub := Aside0.mk hsub
  have HKl := Aside0.mk hkl
  have HKs := Aside0.mk hks
  have HKa := Aside0.mk hka
  have HH := Aside0.mk H
  have HBy := Aside0.mk hby
  have HL := Aside0.mk hl
  have HQ0 := Aside0.mk hQ
  have hkx : Aside0 (kix (K.getD ((p : Nat) : Int).toNat ByteArray.empty) = some v) := ⟨by rw [Int.toNat_natCast, ← hs]; exact hk⟩
  have h0i : (0 : Int) < (s.size : Int) := by omega
  have hp1 : p + 1 ≤ kn := by omega
  unfold kix at hk
  clear hsub hkl hks hka hG H hby hl hs hQ
  have hz3 : ¬ s.size < 3 := fun hh => by rw [if_pos (.inl hh)] at hk; cases hk
  have hz3i : ¬ (s.size : Int) < 3 := by omega
  have hlt1 : s.size - 1 < s.size := by omega
  have hwr : wrap64 ((s.size : Int) - 1) = ((s.size - 1 : Nat) : Int) := by unfold wrap64; omega
  have hl93 : (bytesOf s).getD (s.size - 1) 0 = 93 := Decidable.byContradiction fun hh => by rw [if_pos (.inr hh)] at hk; cases hk
  rw [if_neg (by rintro (h | h); exact hz3 h; exact h hl93)] at hk
  have hl93b : (((s[s.size - 1]'hlt1).toNat : Int) != 93) = false := by rw [← hgs.out (s.size - 1) hlt1]; simpa using hl93
  clear hl93
  have h1s : 1 ≤ s.size - 1 := by omega
  have hxs : (s.extract 1 (s.size - 1)).size ≤ 281474976710656 := by rw [ByteArray.size_extract]; omega
  cases hat : Lib.atoiAll (s.extract 1 (s.size - 1)).data.toList with
  | range => rw [hat] at hk; cases hk
  | ok v' =>
    obtain rfl : v' = v := by rw [hat] at hk; exact Option.some.inj hk
    have CA := Aside0.mk ((Tryd.strconv_Atoi_ok _ (by omega) v' hat wr).mono (fun e w' (hh : _ ∧ _) => And.intro hh.1 (show Below wr.heap.size wr w' by
      rcases hh.2 with rfl | ⟨t, rfl⟩
      · exact Below.refl _ _
      · exact conv_below _ _)))
    clear hat hxs hk
    conv => arg 2; whnf
    go_upto_region 78 with (go_at_call 80; refine CA.out.mono ?_; rintro e w1 ⟨rfl, hb1⟩)
    go_cut [27, 29, 30, 31, 32] from 246 to 251 (fun v27 v29 v30 v31 v32 wx => ∃ B : Nat, v27 = .pointer (some ⟨B, 0, none⟩) ∧ v29 = .pointer (some ⟨B + 1, 0, none⟩) ∧ v30 = .pointer (some ⟨B + 2, 0, none⟩) ∧ v31 = .pointer (some ⟨B + 3, 0, none⟩) ∧ v32 = .pointer (some ⟨B + 4, 0, none⟩) ∧ Aside0 (w.heap.size + 2 < B) ∧ Aside0 (SL w h o n c wx) ∧ Aside0 (ClI (B + 1) B (B + 2) (B + 3) (w.heap.size + 1) (B + 4) h o n c m v' (aeA (xs.drop m)) wx))
    case first =>
      as_aux_lemma =>
      have HS5 := Aside0.mk (sl_start5 (m := m) (v := v') (HS.out.step hb1))
      have HC5 := Aside0.mk (cli_start w w1 h o n c m v' (HS.out.step hb1))
      have HB := Aside0.mk (HS.out.step hb1).buf.1
      have CE := Aside0.mk (fun W hS hC => each_search E h o n c m w1.heap.size xs w v' W HG.out HH.out HBy.out HL.out hn hnc hlt HB.out hS hC)
      have d2 := HS5.out.dat
      have d20 := HS5.out.cfg.2.1
      have d21 := HS5.out.cfg.2.2.1
      have d22 := HS5.out.cfg.2.2.2
      have hcm : ¬ c = m := by omega
      have hmc : m ≤ c := by omega
      go_region_with (go_at_call 74; refine (CE.out _ (HS5.out.step (Below.refl _ _).drew) (HC5.out.below (Below.refl _ _).drew)).mono ?_; rintro e w2 ⟨rfl, HS3, HC3⟩)
      all_goals go_wp2_with fail
      all_goals go_meet
      all_goals exact ⟨w1.heap.size, rfl, rfl, rfl, rfl, rfl, HB, HS3, HC3⟩
    case rest =>
      obtain ⟨B, rfl, rfl, rfl, rfl, rfl, HB, HS2, HC⟩ := hcut
      clear CA
      cases hpk2 : pick (aeA (xs.drop m)) v' with
      | none =>
        have hQ : skA sks K xs m (p : Int) = -1 := by unfold skA; rw [hkx.out]; simp only []; rw [hpk2]
        rw [HQ0.out] at hQ
        subst hQ
        have c3 := HC.out.c3
        rw [hpk2] at c3
        simp only [] at c3
        have hel := Go.run_eql_slice_nil (P := Tryd.prog) wc 54 5 none 0 0 Tryd.underlying54
        clear hpk2
        as_aux_lemma =>
        go_wp2_with fail
        show bodyPost Tryd.prog Tryd.f67 _ Exit.ret _ _
        go_ret
        exact ⟨rfl, HS2.out.below⟩
      | some cl =>
        have c3 := HC.out.c3
        have c4 := HC.out.c4
        rw [hpk2] at c3 c4
        simp only [] at c3 c4
        rcases skA_val (sub := sks) (K := K) (lv := (p : Int)) h o c (by rw [HL.out]; omega) hkx.out hpk2 with ⟨hf, hr⟩ | ⟨X, L, C, F, hf, hoV, hXL, hLC, hFL, hr⟩
        · rw [HQ0.out] at hr
          subst hr
          rw [hf] at c3
          have hel := Go.run_eql_slice_nil (P := Tryd.prog) wc 54 5 none 0 0 Tryd.underlying54
          clear hpk2 hf c4
          as_aux_lemma =>
          go_wp2_with fail
          show bodyPost Tryd.prog Tryd.f67 _ Exit.ret _ _
          go_ret
          exact ⟨rfl, HS2.out.below⟩
        · rw [HL.out] at hXL hFL
          have hLC := hLC (by rw [HL.out]; exact hnc)
          rw [hf] at c3
          rw [hoV] at c4
          rw [HQ0.out, Int.toNat_natCast] at hr
          have hYL : ((xs.drop X).take L).length = L := by rw [List.length_take, List.length_drop, HL.out]; omega
          have hsb := sks_bound _ (K.drop (p + 1)) ((xs.drop X).take L) (Nat.le_refl _)
          rw [hYL] at hsb
          obtain ⟨sv, hsv⟩ : ∃ sv, sv = sks (K.drop (p + 1)) ((xs.drop X).take L) := ⟨_, rfl⟩
          have hKD : (K.drop (p + 1)).length = kn - (p + 1) := by rw [List.length_drop, HKl.out]
          have hFm : m + F + L ≤ n := hFL
          have hlt4 := HC.out.lt4
          have hel := Go.run_eql_slice_nil (P := Tryd.prog) wc 54 5 (some ⟨h, o + X, none⟩) L C Tryd.underlying54
          have CS0 : ∀ (ka : Option Addr) (kc2 : Nat), kn - (p + 1) ≤ kc2 → (∀ W, Below wc.heap.size wc W → KeysAt W ka (K.drop (p + 1))) → CSub wc h (o + X) L C ka (kn - (p + 1)) kc2 sv := fun ka kc2 hkc2 hka W hW => by
            have hx : xs.length = n := HL.out
            have hkl : K.length = kn := HKl.out
            have := HSub.out (K.drop (p + 1)) ka kc2 h (o + X) L C ((xs.drop X).take L) W (by rw [hKD]; omega) (fun s hs => HKs.out s (List.mem_of_mem_drop hs)) (by rw [hKD]; exact hkc2) (hka W hW) (HG.out.below (below_step HS2.out.below hW)) (((HH.out.below (below_step HS2.out.below hW)).drop X).take L) (fun x hx => HBy.out.drop X x (List.mem_of_mem_take hx)) hYL (by omega) hLC
            rw [hKD, ← hsv] at this
            exact this
          rw [← hsv] at hsb hr
          have HP1 : ∀ W, Below wc.heap.size wc W → KeysAt W (some (a.add (p + 1))) (K.drop (p + 1)) := fun W hW => (HKa.out.below (below_step HS2.out.below hW)).drop (p + 1)
          have hK0 : kn - (p + 1) = 0 → ∀ W, Below wc.heap.size wc W → KeysAt W (some a) (K.drop (p + 1)) := fun h0 W hW i hi => by rw [hKD] at hi; omega
          clear hpk2 hf hoV hsv hYL hKD
          replace CS0 := Aside0.mk CS0
          replace HP1 := Aside0.mk HP1
          replace hK0 := Aside0.mk hK0
          rcases Decidable.em (kc = p + 1) with hkp | hkp
          · subst hkp
            obtain rfl : kn = p + 1 := by omega
            rcases hsb with hq | ⟨q, hq1, hq2⟩
            · subst hq
              rw [if_pos (by decide)] at hr
              subst hr
              as_aux_lemma =>
              go_upto_if 253 with fail
              refine Code.wp_mono (fun e a w h => ?_) (tail_d a h o n c m p B X L C F w wc HS2.out c3 c4 hlt4 (by have := CS0.out (some a) 0 (by omega) (hK0.out (by omega)); rwa [Nat.sub_self] at this) hkm hn hFm _ _ _ _ _ _ _ _ _ _ _ _ _ _ _ _ _ _ _ _ _ _ _ _ _ _ _ _ _ _ _ _ _ _ _ _ _ _ _ _ _ _ _ _ _ _ _ _ _ _ _ _ _ _ _ _ _ _ _ _ _ _ _ _ _ _ _ _ _ _ _ _ _ _ _ _ _ _ _ _ _ _ _ _ _ _ _ _ _ _ _ _ _ _ _ _ _ _ _ _ _ _ _ _ _ _ _ _ _ _ _ _ _ _ _ _ _ _ _ _ _ _ _ _ _ _ _ _ _ _ _ _ _ _ _ _ _ _ _ _ _ _ _ _ _ _ _ _ _ _ _ _ _ _ _ _ _ _ _ _ _ _ _ _ _ _ _ _ _ _ _ _ _ _ _ _ _ _ _ _ _ _ _ _ _ _ _ _ _ _ _ _ _ _ _ _ _ _ _ _ _ _ _ _ _ _ _ _ _ _ _ _ _ _ _ _ _ _ _ _ _ _ _ _ _ _ _ _ _ _ _ _ _ _ _ _ _ _ _ _ _ _ _ _ _ _ _ _ _ _ _ _ _ _ _ _ _ _ _ _ _ _ _ _ _ _ _ _ _ _ _ _ _ _ _ _)
              cases e <;> first | exact h | exact h.elim
            · subst hq2
              rw [if_neg (by omega)] at hr
              subst hr
              as_aux_lemma =>
              go_upto_if 253 with fail
              refine Code.wp_mono (fun e a w h => ?_) (tail_c a h o n c m p B X L C F q w wc HS2.out c3 c4 hlt4 (by have := CS0.out (some a) 0 (by omega) (hK0.out (by omega)); rwa [Nat.sub_self] at this) hkm hn hFm hq1 _ _ _ _ _ _ _ _ _ _ _ _ _ _ _ _ _ _ _ _ _ _ _ _ _ _ _ _ _ _ _ _ _ _ _ _ _ _ _ _ _ _ _ _ _ _ _ _ _ _ _ _ _ _ _ _ _ _ _ _ _ _ _ _ _ _ _ _ _ _ _ _ _ _ _ _ _ _ _ _ _ _ _ _ _ _ _ _ _ _ _ _ _ _ _ _ _ _ _ _ _ _ _ _ _ _ _ _ _ _ _ _ _ _ _ _ _ _ _ _ _ _ _ _ _ _ _ _ _ _ _ _ _ _ _ _ _ _ _ _ _ _ _ _ _ _ _ _ _ _ _ _ _ _ _ _ _ _ _ _ _ _ _ _ _ _ _ _ _ _ _ _ _ _ _ _ _ _ _ _ _ _ _ _ _ _ _ _ _ _ _ _ _ _ _ _ _ _ _ _ _ _ _ _ _ _ _ _ _ _ _ _ _ _ _ _ _ _ _ _ _ _ _ _ _ _ _ _ _ _ _ _ _ _ _ _ _ _ _ _ _ _ _ _ _ _ _ _ _ _ _ _ _ _ _ _ _ _ _ _ _ _ _ _ _ _ _ _ _ _ _ _ _ _ _ _)
              cases e <;> first | exact h | exact h.elim
          · rcases hsb with hq | ⟨q, hq1, hq2⟩
            · subst hq
              rw [if_pos (by decide)] at hr
              subst hr
              as_aux_lemma =>
              go_upto_if 253 with fail
              refine Code.wp_mono (fun e a w h => ?_) (tail_b a kn kc h o n c m p B X L C F w wc HS2.out c3 c4 hlt4 hkp (CS0.out (some (a.add (p + 1))) (kc - (p + 1)) (by omega) HP1.out) hkm hn hp1 hkc hFm _ _ _ _ _ _ _ _ _ _ _ _ _ _ _ _ _ _ _ _ _ _ _ _ _ _ _ _ _ _ _ _ _ _ _ _ _ _ _ _ _ _ _ _ _ _ _ _ _ _ _ _ _ _ _ _ _ _ _ _ _ _ _ _ _ _ _ _ _ _ _ _ _ _ _ _ _ _ _ _ _ _ _ _ _ _ _ _ _ _ _ _ _ _ _ _ _ _ _ _ _ _ _ _ _ _ _ _ _ _ _ _ _ _ _ _ _ _ _ _ _ _ _ _ _ _ _ _ _ _ _ _ _ _ _ _ _ _ _ _ _ _ _ _ _ _ _ _ _ _ _ _ _ _ _ _ _ _ _ _ _ _ _ _ _ _ _ _ _ _ _ _ _ _ _ _ _ _ _ _ _ _ _ _ _ _ _ _ _ _ _ _ _ _ _ _ _ _ _ _ _ _ _ _ _ _ _ _ _ _ _ _ _ _ _ _ _ _ _ _ _ _ _ _ _ _ _ _ _ _ _ _ _ _ _ _ _ _ _ _ _ _ _ _ _ _ _ _ _ _ _ _ _ _ _ _ _ _ _ _ _ _ _ _ _ _ _ _ _ _ _ _ _ _ _ _)
              cases e <;> first | exact h | exact h.elim
            · subst hq2
              rw [if_neg (by omega)] at hr
              subst hr
              as_aux_lemma =>
              go_upto_if 253 with fail
              refine Code.wp_mono (fun e a w h => ?_) (tail_a a kn kc h o n c m p B X L C F q w wc HS2.out c3 c4 hlt4 hkp (CS0.out (some (a.add (p + 1))) (kc - (p + 1)) (by omega) HP1.out) hkm hn hp1 hkc hFm hq1 _ _ _ _ _ _ _ _ _ _ _ _ _ _ _ _ _ _ _ _ _ _ _ _ _ _ _ _ _ _ _ _ _ _ _ _ _ _ _ _ _ _ _ _ _ _ _ _ _ _ _ _ _ _ _ _ _ _ _ _ _ _ _ _ _ _ _ _ _ _ _ _ _ _ _ _ _ _ _ _ _ _ _ _ _ _ _ _ _ _ _ _ _ _ _ _ _ _ _ _ _ _ _ _ _ _ _ _ _ _ _ _ _ _ _ _ _ _ _ _ _ _ _ _ _ _ _ _ _ _ _ _ _ _ _ _ _ _ _ _ _ _ _ _ _ _ _ _ _ _ _ _ _ _ _ _ _ _ _ _ _ _ _ _ _ _ _ _ _ _ _ _ _ _ _ _ _ _ _ _ _ _ _ _ _ _ _ _ _ _ _ _ _ _ _ _ _ _ _ _ _ _ _ _ _ _ _ _ _ _ _ _ _ _ _ _ _ _ _ _ _ _ _ _ _ _ _ _ _ _ _ _ _ _ _ _ _ _ _ _ _ _ _ _ _ _ _ _ _ _ _ _ _ _ _ _ _ _ _ _ _ _ _ _ _ _ _ _ _ _ _ _ _ _ _ _)
              cases e <;> first | exact h | exact h.elim
  | _ => rw [hat] at hk; cases hk
end Go.Proofs.YtpahejmkidhhhaaDoor.G
