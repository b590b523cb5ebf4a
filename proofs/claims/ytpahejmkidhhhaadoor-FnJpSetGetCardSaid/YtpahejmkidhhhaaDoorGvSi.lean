/- searchKeys: an index in an array. -/
import Derived.Test.YtpahejmkidhhhaaDoorGvTw
namespace Go.Proofs.YtpahejmkidhhhaaDoor.G
set_option linter.unusedVariables false
set_option linter.unusedSimpArgs false
open Go.RowKit Go.Proofs.YtpahejmkidhhhaaDoorW.PrintWords

noncomputable def code68 : Code := ((Tryd.f67.body.bind (brR 68)).getD .skip)
def ESA (w : World) (h o n c m B : Nat) (v : Int) (r : List Cl × Int × Nat) (E : Nat → Value) (e : Ending) (w' : World) : Prop :=
  e = .returned (.tuple #[.int .i64 r.2.1, erV E r.2.2]) ∧ Aside0 (SL w h o n c w') ∧ Aside0 (ClI (B + 1) B (B + 2) (B + 3) (w.heap.size + 1) (B + 4) h o n c m v r.1 w')
theorem each_search (E : Nat → Value) (h o n c m B : Nat) (xs : List Int) (w : World) (v : Int) (W : World) (hG : SW w E) (H : RowAt w h o xs) (hby : Bytes xs) (hl : xs.length = n) (hn : n ≤ 140737488351232) (hnc : n ≤ c) (hm : m < n) (hB : w.heap.size + 2 < B) (hS : SL w h o n c W) (hC : ClI (B + 1) B (B + 2) (B + 3) (w.heap.size + 1) (B + 4) h o n c m v [] W) :
    Calls Tryd.prog 74 #[.agg #[.bool false, .bool false, .int .i64 0], .slice (some ⟨h, o + m, none⟩) (n - m) (c - m), .func (.func 81) #[] #[.pointer (some ⟨B + 1, 0, none⟩), .pointer (some ⟨B, 0, none⟩), .pointer (some ⟨B + 2, 0, none⟩), .pointer (some ⟨B + 3, 0, none⟩), .pointer (some ⟨w.heap.size + 1, 0, none⟩), .pointer (some ⟨B + 4, 0, none⟩)], .slice none 0 0] W (ESA w h o n c m B v (aeW (xs.drop m)) E) := by
  have hDL : (xs.drop m).length = n - m := by rw [List.length_drop, hl]
  have hlt := hG.lt
  have hh := H.1
  refine (each_calls E (fun k => k = B + 1 ∨ k = B + 2 ∨ k = B + 3) (fun cs W => ClI (B + 1) B (B + 2) (B + 3) (w.heap.size + 1) (B + 4) h o n c m v cs W) h (o + m) (n - m) (c - m) _ _ _ _ _ _ (xs.drop m) W (hG.er.below hS.below) ((H.below hS.below).drop m) (hby.drop m) hDL (by omega) (by omega) (by omega) (fun k hk => by omega) (fun k hk => ?_) hC (fun cs W W' h hb => h.below hb) (fun cs cl W2 hcs hI hok => ?_)).mono ?_
  · rcases hk with rfl | rfl | rfl
    · exact hC.lt1
    · exact hC.lt3
    · exact hC.lt4
  · exact clo_calls (B + 1) B (B + 2) (B + 3) (w.heap.size + 1) (B + 4) h o n c m v E cs cl W2 hI hok hm hnc hn (by omega) (by omega) (by omega) (by omega) (by omega) (by omega) (by omega) (by omega) (by omega) (by omega) (by omega) (by omega) (by omega)
  · rintro e w' ⟨rfl, hK, hI⟩
    exact ⟨rfl, ⟨hS.kept hK (fun k hk => by omega)⟩, ⟨hI⟩⟩
set_option maxHeartbeats 16000000 in
set_option maxRecDepth 1000000 in
theorem idx_bad (K : List ByteArray) (a : Addr) (kn kc h o n c m p : Nat) (xs : List Int) (w wr : World) (E : Nat → Value) (hsub : Sub E K) (hkl : K.length = kn) (hkm : kn ≤ 140737488351232) (hks : ∀ s ∈ K, s.size ≤ 281474976710656) (hkc : kn ≤ kc) (hka : KeysAt w (some a) K) (hG : SW w E) (H : RowAt w h o xs) (hby : Bytes xs) (hl : xs.length = n) (hn : n ≤ 140737488351232) (hnc : n ≤ c) (HS : SL w h o n c wr) (hlt : m < n) (hpk : p < kn) (s : ByteArray) (hs : s = K.getD p ByteArray.empty) (h0 : 0 < s.size) (hk : kix s = none)
    (u0 u1 u5 u6 u10 u11 u12 u13 u14 u15 u16 u17 u18 u19 u20 u21 u22 u23 u24 u25 u26 u27 u28 u29 u30 u31 u32 u33 u34 u35 u36 u37 u38 u39 u40 u41 u42 u43 u44 u45 u46 u47 u48 u49 u50 u51 u52 u53 u54 u55 u56 u57 u58 u59 u60 u61 u62 u63 u64 u65 u66 u67 u68 u69 u70 u71 u72 u73 u74 u75 u76 u77 u78 u79 u80 u81 u82 u83 u84 u85 u86 u87 u88 u89 u90 u91 u92 u93 u94 u95 u96 u97 u98 u99 u100 u101 u102 u103 u104 u105 u106 u107 u108 u109 u110 u111 u112 u113 u114 u115 u116 u117 u118 u119 u120 u121 u122 u123 u124 u125 u126 u127 u128 u129 u130 u131 u132 u133 u134 u135 u136 u137 u138 u139 u140 u141 u142 u143 u144 u145 u146 u147 u148 u149 u150 u151 u152 u153 u154 u155 u156 u157 u158 u159 u160 u161 u162 u163 u164 u165 u166 u167 u168 u169 u170 u171 u172 u173 u174 u175 u176 u177 u178 u179 u180 u181 u182 u183 u184 u185 u186 u187 u188 u189 u190 u191 u192 u193 u194 u195 u196 u197 u198 u199 u200 u201 u202 u203 u204 u205 u206 u207 u208 u209 u211 u212 u213 u214 u215 u216 u217 u218 u219 u220 u221 u222 u223 u224 u225 u226 u227 u228 u229 u230 u231 u232 u233 u234 u235 u236 u237 u238 u239 u240 u241 u242 u243 u244 u245 u246 u247 u248 u249 u250 u251 u252 u253 u254 u255 u256 u257 u258 u259 u260 u261 u262 u263 u264 u265 u266 u267 u268 u269 u270 u271 u272 u273 u274 u275 u276 u277 u278 u279 u280 u281 u282 : Value) :
    Code.wp Tryd.prog code68 (RetOnly (bodyPost Tryd.prog Tryd.f67 (SKA (-1) w) .ret)) ⟨#[u0, u1, .slice (some a) kn kc, .pointer (some ⟨w.heap.size, 0, none⟩), .pointer (some ⟨w.heap.size + 1, 0, none⟩), u5, u6, .int .i64 (p : Int), .int .i64 (p : Int), .int .i64 (m : Int), u10, u11, u12, u13, u14, u15, u16, u17, u18, u19, u20, u21, u22, u23, u24, u25, u26, u27, u28, u29, u30, u31, u32, u33, u34, u35, u36, u37, u38, u39, u40, u41, u42, u43, u44, u45, u46, u47, u48, u49, u50, u51, u52, u53, u54, u55, u56, u57, u58, u59, u60, u61, u62, u63, u64, u65, u66, u67, u68, u69, u70, u71, u72, u73, u74, u75, u76, u77, u78, u79, u80, u81, u82, u83, u84, u85, u86, u87, u88, u89, u90, u91, u92, u93, u94, u95, u96, u97, u98, u99, u100, u101, u102, u103, u104, u105, u106, u107, u108, u109, u110, u111, u112, u113, u114, u115, u116, u117, u118, u119, u120, u121, u122, u123, u124, u125, u126, u127, u128, u129, u130, u131, u132, u133, u134, u135, u136, u137, u138, u139, u140, u141, u142, u143, u144, u145, u146, u147, u148, u149, u150, u151, u152, u153, u154, u155, u156, u157, u158, u159, u160, u161, u162, u163, u164, u165, u166, u167, u168, u169, u170, u171, u172, u173, u174, u175, u176, u177, u178, u179, u180, u181, u182, u183, u184, u185, u186, u187, u188, u189, u190, u191, u192, u193, u194, u195, u196, u197, u198, u199, u200, u201, u202, u203, u204, u205, u206, u207, u208, u209, .bool true, u211, u212, u213, u214, u215, u216, u217, u218, u219, u220, u221, u222, u223, u224, u225, u226, u227, u228, u229, u230, u231, u232, u233, u234, u235, u236, u237, u238, u239, u240, u241, u242, u243, u244, u245, u246, u247, u248, u249, u250, u251, u252, u253, u254, u255, u256, u257, u258, u259, u260, u261, u262, u263, u264, u265, u266, u267, u268, u269, u270, u271, u272, u273, u274, u275, u276, u277, u278, u279, u280, u281, u282], []⟩ wr := by
  have hcs : wr.cell? (a.add p) = some (.string s) := by
    obtain ⟨b, h1, h2, h3⟩ := (hka.below HS.below) p (by rw [hkl]; exact hpk)
    obtain rfl := Option.some.inj h1
    rw [h3, hs]
  have hssz : s.size ≤ 281474976710656 := by
    rw [hs]
    have hm : K.getD p ByteArray.empty ∈ K := by
      rw [List.getD_eq_getElem?_getD, List.getElem?_eq_getElem (by rw [hkl]; exact hpk)]
      exact List.getElem_mem _
    exact hks _ hm
  have hgs := Aside0.mk (bytes_at s)
  have HS := Aside0.mk HS
  have HG := Aside0.mk hG
  have hG2 := hG.below HS.out.below
  have h0i : (0 : Int) < (s.size : Int) := by omega
  unfold kix at hk
  clear hsub hkl hks hka hG H hby hl
  by_cases hz3 : s.size < 3
  · have hz3i : (s.size : Int) < 3 := by omega
    clear hk hs hG2
    as_aux_lemma =>
    conv => arg 2; whnf
    go_wp2_with fail
    show bodyPost Tryd.prog Tryd.f67 _ Exit.ret _ _
    go_ret
    exact ⟨rfl, HS.out.below⟩
  · have hz3i : ¬ (s.size : Int) < 3 := by omega
    have hlt1 : s.size - 1 < s.size := by omega
    have hwr : wrap64 ((s.size : Int) - 1) = ((s.size - 1 : Nat) : Int) := by unfold wrap64; omega
    by_cases hl93 : (bytesOf s).getD (s.size - 1) 0 = 93
    rotate_left
    · have hl93b : (((s[s.size - 1]'hlt1).toNat : Int) != 93) = true := by rw [← hgs.out (s.size - 1) hlt1]; simpa using hl93
      clear hl93 hk hs hG2
      as_aux_lemma =>
      conv => arg 2; whnf
      go_wp2_with fail
      show bodyPost Tryd.prog Tryd.f67 _ Exit.ret _ _
      go_ret
      exact ⟨rfl, HS.out.below⟩
    · rw [if_neg (by rintro (h | h); exact hz3 h; exact h hl93)] at hk
      have hl93b : (((s[s.size - 1]'hlt1).toNat : Int) != 93) = false := by rw [← hgs.out (s.size - 1) hlt1]; simpa using hl93
      clear hl93
      have h1s : 1 ≤ s.size - 1 := by omega
      have hxs : (s.extract 1 (s.size - 1)).size ≤ 281474976710656 := by rw [ByteArray.size_extract]; omega
      cases hat : Lib.atoiAll (s.extract 1 (s.size - 1)).data.toList with
      | range =>
        obtain ⟨ev, he1, he2⟩ := hG2.e15
        have CA := Aside0.mk (Tryd.strconv_Atoi_range _ hxs hat ev wr he1 he2)
        clear hat hG2 he1 he2 hxs hk hs
        as_aux_lemma =>
        conv => arg 2; whnf
        go_wp2_with (go_at_call 80; refine CA.out.mono ?_; rintro e w1 ⟨N, rfl, hN, hNc, hb1⟩)
        show bodyPost Tryd.prog Tryd.f67 _ Exit.ret _ _
        go_ret
        exact ⟨rfl, ((HS.out.step hb1).step (below_alloc1 _)).below⟩
      | ok v => rw [hat] at hk; cases hk
      | _ =>
        obtain ⟨ev, he1, he2⟩ := hG2.e14
        have CA := Aside0.mk (Tryd.strconv_Atoi_syntax _ hxs hat ev wr he1 he2)
        clear hat hG2 he1 he2 hxs hk hs
        as_aux_lemma =>
        conv => arg 2; whnf
        go_wp2_with (go_at_call 80; refine CA.out.mono ?_; rintro e w1 ⟨N, rfl, hN, hNc, hb1⟩)
        show bodyPost Tryd.prog Tryd.f67 _ Exit.ret _ _
        go_ret
        exact ⟨rfl, ((HS.out.step hb1).step (below_alloc1 _)).below⟩
end Go.Proofs.YtpahejmkidhhhaaDoor.G
