/- searchKeys: a string. -/
import Derived.Test.YtpahejmkidhhhaaDoorGvTq
namespace Go.Proofs.YtpahejmkidhhhaaDoor.G
set_option linter.unusedVariables false
set_option linter.unusedSimpArgs false
open Go.RowKit Go.Proofs.YtpahejmkidhhhaaDoorW.PrintWords

set_option maxHeartbeats 8000000 in
set_option maxRecDepth 1000000 in
theorem str_end_a (K : List ByteArray) (a : Addr) (kn kc h o n c m J : Nat) (e : Bool) (R kl lv : Int) (lm : Bool) (xs : List Int) (w wr : World) (H : RowAt w h o xs) (hby : Bytes xs) (hl : xs.length = n) (hn : n ≤ 140737488351232) (hnc : n ≤ c) (HS : SL w h o n c wr) (hlt : m < n) (hc34 : xs.getD m 0 = 34) (hr : seAt (xs.drop (m + 1)) 0 false = (((J + 1 : Nat) : Int), e)) (hJn : m + 1 + (J + 1) ≤ n) (hnt : nt (xs.drop (m + 1 + (J + 1))) = -1) (hce : c = m + 1 + (J + 1)) (NX : Act → World → Prop)
    (u0 u1 u5 u6 u10 u14 u15 u16 u17 u18 u19 u20 u21 u22 u23 u24 u25 u26 u27 u28 u29 u30 u31 u32 u33 u34 u35 u36 u37 u38 u39 u40 u41 u42 u43 u44 u45 u46 u47 u48 u49 u50 u51 u52 u53 u54 u55 u56 u57 u58 u59 u60 u61 u62 u63 u64 u65 u66 u67 u68 u69 u70 u71 u72 u73 u75 u76 u77 u78 u79 u80 u81 u82 u83 u84 u85 u86 u87 u88 u89 u90 u91 u92 u93 u94 u95 u96 u97 u98 u99 u100 u101 u102 u103 u104 u105 u106 u107 u108 u109 u110 u111 u112 u113 u114 u115 u116 u117 u118 u119 u120 u121 u122 u123 u124 u125 u126 u127 u128 u129 u130 u131 u132 u133 u134 u135 u136 u137 u138 u139 u140 u141 u142 u143 u144 u145 u146 u147 u148 u149 u150 u151 u152 u153 u154 u155 u156 u157 u158 u159 u160 u161 u162 u163 u164 u165 u166 u167 u168 u169 u170 u171 u172 u173 u174 u175 u176 u177 u178 u179 u180 u181 u182 u183 u184 u185 u186 u187 u188 u189 u190 u191 u192 u193 u194 u195 u196 u197 u198 u199 u200 u201 u202 u203 u204 u205 u206 u207 u208 u209 u210 u211 u212 u213 u214 u215 u216 u217 u218 u219 u220 u221 u222 u223 u224 u225 u226 u227 u228 u229 u230 u231 u232 u233 u234 u235 u236 u237 u238 u239 u240 u241 u242 u243 u244 u245 u246 u247 u248 u249 u250 u251 u252 u253 u254 u255 u256 u257 u258 u259 u260 u261 u262 u263 u264 u265 u266 u267 u268 u269 u270 u271 u272 u273 u274 u275 u276 u277 u278 u279 u280 u281 u282 : Value) (hN : ∀ (z2 : Nat) (kl2 : Int) (lm2 : Bool) (w2 : World) (v9 x15 x16 x17 x18 x19 x20 x21 x22 x23 x24 x77 x78 x79 x80 x81 x82 x83 x84 x85 x86 x87 x88 x89 x90 x91 x92 x93 x94 x95 x96 x97 x98 x99 x100 x101 x102 x103 x104 x105 x106 x107 x108 x109 x110 x111 x112 x113 x114 x115 x116 x117 x118 x119 x120 x121 x122 x123 x124 x125 x126 x127 x128 x129 x130 x131 x132 x133 x134 x135 x136 x137 x138 x139 x140 x141 x142 x143 x144 x145 x146 x147 x148 x149 x150 x151 x152 x153 x154 x155 x156 x157 x158 x159 x160 x161 x162 x163 : Value), v9 = .int .i64 (z2 : Int) → m ≤ z2 → z2 < n → SL w h o n c w2 → kl2 < (kn : Int) → kl ≤ kl2 → (0 ≤ kl2 ∨ kl2 < lv) → skR sks K xs (z2 + 1) lv kl2 lm2 = R → NX ⟨#[u0, u1, .slice (some a) kn kc, .pointer (some ⟨w.heap.size, 0, none⟩), .pointer (some ⟨w.heap.size + 1, 0, none⟩), u5, u6, .int .i64 kl2, .int .i64 lv, v9, u10, .int .i64 (kn : Int), .bool lm2, .pointer (some ⟨w.heap.size + 2, 0, none⟩), u14, x15, x16, x17, x18, x19, x20, x21, x22, x23, x24, u25, u26, u27, u28, u29, u30, u31, u32, u33, u34, u35, u36, u37, u38, u39, u40, u41, u42, u43, u44, u45, u46, u47, u48, u49, u50, u51, u52, u53, u54, u55, u56, u57, u58, u59, u60, u61, u62, u63, u64, u65, u66, u67, u68, u69, u70, u71, u72, u73, .bool true, u75, u76, x77, x78, x79, x80, x81, x82, x83, x84, x85, x86, x87, x88, x89, x90, x91, x92, x93, x94, x95, x96, x97, x98, x99, x100, x101, x102, x103, x104, x105, x106, x107, x108, x109, x110, x111, x112, x113, x114, x115, x116, x117, x118, x119, x120, x121, x122, x123, x124, x125, x126, x127, x128, x129, x130, x131, x132, x133, x134, x135, x136, x137, x138, x139, x140, x141, x142, x143, x144, x145, x146, x147, x148, x149, x150, x151, x152, x153, x154, x155, x156, x157, x158, x159, x160, x161, x162, x163, u164, u165, u166, u167, u168, u169, u170, u171, u172, u173, u174, u175, u176, u177, u178, u179, u180, u181, u182, u183, u184, u185, u186, u187, u188, u189, u190, u191, u192, u193, u194, u195, u196, u197, u198, u199, u200, u201, u202, u203, u204, u205, u206, u207, u208, u209, u210, u211, u212, u213, u214, u215, u216, u217, u218, u219, u220, u221, u222, u223, u224, u225, u226, u227, u228, u229, u230, u231, u232, u233, u234, u235, u236, u237, u238, u239, u240, u241, u242, u243, u244, u245, u246, u247, u248, u249, u250, u251, u252, u253, u254, u255, u256, u257, u258, u259, u260, u261, u262, u263, u264, u265, u266, u267, u268, u269, u270, u271, u272, u273, u274, u275, u276, u277, u278, u279, u280, u281, u282], []⟩ w2) :
    Code.wp Tryd.prog code21 (KP (bodyPost Tryd.prog Tryd.f67 (SKA (-1) w) .ret) NX) ⟨#[u0, u1, .slice (some a) kn kc, .pointer (some ⟨w.heap.size, 0, none⟩), .pointer (some ⟨w.heap.size + 1, 0, none⟩), u5, u6, .int .i64 kl, .int .i64 lv, .int .i64 (m : Int), u10, .int .i64 (kn : Int), .bool lm, .pointer (some ⟨w.heap.size + 2, 0, none⟩), u14, u15, u16, u17, u18, u19, u20, u21, u22, u23, u24, u25, u26, u27, u28, u29, u30, u31, u32, u33, u34, u35, u36, u37, u38, u39, u40, u41, u42, u43, u44, u45, u46, u47, u48, u49, u50, u51, u52, u53, u54, u55, u56, u57, u58, u59, u60, u61, u62, u63, u64, u65, u66, u67, u68, u69, u70, u71, u72, u73, .bool true, u75, u76, u77, u78, u79, u80, u81, u82, u83, u84, u85, u86, u87, u88, u89, u90, u91, u92, u93, u94, u95, u96, u97, u98, u99, u100, u101, u102, u103, u104, u105, u106, u107, u108, u109, u110, u111, u112, u113, u114, u115, u116, u117, u118, u119, u120, u121, u122, u123, u124, u125, u126, u127, u128, u129, u130, u131, u132, u133, u134, u135, u136, u137, u138, u139, u140, u141, u142, u143, u144, u145, u146, u147, u148, u149, u150, u151, u152, u153, u154, u155, u156, u157, u158, u159, u160, u161, u162, u163, u164, u165, u166, u167, u168, u169, u170, u171, u172, u173, u174, u175, u176, u177, u178, u179, u180, u181, u182, u183, u184, u185, u186, u187, u188, u189, u190, u191, u192, u193, u194, u195, u196, u197, u198, u199, u200, u201, u202, u203, u204, u205, u206, u207, u208, u209, u210, u211, u212, u213, u214, u215, u216, u217, u218, u219, u220, u221, u222, u223, u224, u225, u226, u227, u228, u229, u230, u231, u232, u233, u234, u235, u236, u237, u238, u239, u240, u241, u242, u243, u244, u245, u246, u247, u248, u249, u250, u251, u252, u253, u254, u255, u256, u257, u258, u259, u260, u261, u262, u263, u264, u265, u266, u267, u268, u269, u270, u271, u272, u273, u274, u275, u276, u277, u278, u279, u280, u281, u282], []⟩ wr := by
  clear hN
  have HW := Aside0.mk (H.below HS.below)
  have hd := HS.dat
  have g0 := HS.cfg.2.1
  have g1 := HS.cfg.2.2.1
  have g2 := HS.cfg.2.2.2
  have hc : wr.cell? ⟨h, o + m, none⟩ = some (.int .u8 34) := by rw [← hc34]; exact HW.out.2 m (by rw [hl]; exact hlt)
  have HS := Aside0.mk HS
  have HBy := Aside0.mk hby
  have HL := Aside0.mk hl
  have hmc : m + 1 ≤ c := by omega
  have hmn1 : m + 1 ≤ n := by omega
  have hwr : IntKind.i64.wrap ((m : Int) + 1) = (m : Int) + 1 := by rw [IntKind.wrap_i64]; omega
  have HDL : Aside0 ((xs.drop (m + 1)).length = n - (m + 1)) := ⟨by rw [List.length_drop, hl]⟩
  have H0 := Aside0.mk H
  clear H hby hl hc34
  have hcmF : (c = m + 1) = False := eq_false (by omega)
  obtain ⟨i, hi⟩ : ∃ i, i = m + 1 + (J + 1) := ⟨_, rfl⟩
  rw [← hi] at hce hnt hJn
  have hcp : m + 2 ≤ c := by omega
  have hni : n = i := by omega
  replace hni := Aside0.mk hni
  replace hce := Aside0.mk hce
  replace hi := Aside0.mk hi
  have hnt := Aside0.mk hnt
  have hr := Aside0.mk hr
  have hic : i ≤ c := by have := hce.out; omega
  have hi0 : (0 : Int) ≤ (m : Int) + 1 + ((J : Int) + 1) := by omega
  have hi1 : (m : Int) + 1 + ((J : Int) + 1) ≤ (n : Int) := by have := hi.out; omega
  conv => arg 2; whnf
  go_upto_region 25 with fail
  go_cut [17, 18] from 91 to 99 (fun v17 v18 wx => v17 = .int .i64 ((J : Int) + 1) ∧ v18 = .bool e ∧ Aside0 (SL w h o n c wx))
  case first =>
    have C := Aside0.mk (fun W (hW : RowAt W h o xs) => strEnd_walk false false 0 h (o + (m + 1)) (n - (m + 1)) (c - (m + 1)) (xs.drop (m + 1)) W (hW.drop (m + 1)) (HBy.out.drop (m + 1)) HDL.out (by omega) (by omega) _ hr.out)
    go_region_with (go_at_call 75; refine (C.out _ (HW.out.below (Below.refl _ _).drew)).mono ?_; rintro e w2 ⟨rfl, hb⟩)
    all_goals go_wp2_with fail
    all_goals go_meet
    all_goals exact ⟨rfl, rfl, ⟨(HS.out.step (Below.refl _ _).drew).step hb⟩⟩
  case rest =>
  obtain ⟨rfl, rfl, HS2⟩ := hcut
  have HW2 := Aside0.mk (H0.out.below HS2.out.below)
  have d2 := HS2.out.dat
  have e0 := HS2.out.cfg.2.1
  have e1 := HS2.out.cfg.2.2.1
  have e2 := HS2.out.cfg.2.2.2
  clear hd g0 g1 g2 hc HS HW hcmF
  go_upto_region 28 with fail
  go_cut [9] from 102 to 104 (fun v9 wx => v9 = .int .i64 (i : Int) ∧ Aside0 (SL w h o n c wx))
  case first =>
    go_wp2_with fail
    go_meet
    exact ⟨by rw [hi.out]; first | rfl | (congr 1; done) | (congr 1; push_cast; omega), HS2⟩
  case rest =>
  obtain ⟨rfl, HS4⟩ := hcut
  clear d2 e0 e1 e2 HS2 HW2
  have d2 := HS4.out.dat
  have e0 := HS4.out.cfg.2.1
  have e1 := HS4.out.cfg.2.2.1
  have e2 := HS4.out.cfg.2.2.2
  have HW2 := Aside0.mk (H0.out.below HS4.out.below)
  go_upto_region 30 with fail
  go_cut [20] from 107 to 111 (fun v20 wx => v20 = .int .i64 (-1) ∧ Aside0 (SL w h o n c wx))
  case first =>
    have HN1 := Aside0.mk (fun W (hW : RowAt W h o (xs.drop i)) => next_calls h o 0 0 (xs.drop i) W hW (by rw [List.length_drop, HL.out, hni.out]; omega) (by omega))
    have HR : Aside0 (∀ W, RowAt W h o xs → RowAt W h o (xs.drop i)) := ⟨fun W hW => ⟨hW.1, fun j hj => by have := HL.out; have := hni.out; rw [List.length_drop] at hj; omega⟩⟩
    unfold NTA at HN1
    rw [hnt.out] at HN1
    have f1 := hni.out
    have f2 := hce.out
    clear hni hce hi0 hi1 hmc hmn1 hwr hcp hic hi hnt hlt HBy HDL hr hnc hJn
    subst f1
    subst f2
    go_region_with (go_at_call 63; refine (HN1.out _ (HR.out _ (HW2.out.below (Below.refl _ _).drew))).mono ?_; rintro e w4 ⟨rfl, hb4⟩)
    all_goals go_wp2_with fail
    all_goals go_meet
    all_goals exact ⟨rfl, ⟨(HS4.out.step (Below.refl _ _).drew).step hb4⟩⟩
  case rest =>
  obtain ⟨rfl, HS3⟩ := hcut
  clear d2 e0 e1 e2
  go_wp2_with fail
  show bodyPost Tryd.prog Tryd.f67 _ Exit.ret _ _
  go_ret
  exact ⟨rfl, HS3.out.below⟩
end Go.Proofs.YtpahejmkidhhhaaDoor.G
