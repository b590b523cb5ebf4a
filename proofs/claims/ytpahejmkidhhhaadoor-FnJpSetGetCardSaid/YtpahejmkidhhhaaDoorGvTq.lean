/- searchKeys: a key is compared. searchKeys: a key, unescaped and compared. searchKeys: a string. -/
import Derived.Test.YtpahejmkidhhhaaDoorGvSi
section
namespace Go.Proofs.YtpahejmkidhhhaaDoor.G
set_option linter.unusedVariables false
set_option linter.unusedSimpArgs false
open Go.RowKit Go.Proofs.YtpahejmkidhhhaaDoorW.PrintWords

/-- A post at a return, and one at the end. -/
def KP (P N : Act → World → Prop) : Exit → Act → World → Prop
  | .ret, a, w => P a w
  | .normal, a, w => N a w
  | _, _, _ => False
noncomputable def code46 : Code := ((Tryd.f67.body.bind (brR 46)).getD .skip)
/-- The key's bytes lie in memory, and the variable that holds them. -/
structure KuAt (w : World) (h o n c : Nat) (wx : World) (X g g0 L cap : Nat) (ku : List Int) : Prop where
  sl : SL w h o n c wx
  cell : wx.cell? ⟨X, 0, none⟩ = some (.slice (some ⟨g, g0, none⟩) L cap)
  row : RowAt wx g g0 ku
  by_ : Bytes ku
  len : ku.length = L
set_option maxHeartbeats 8000000 in
set_option maxRecDepth 1000000 in
theorem cmp_other (K : List ByteArray) (a : Addr) (kn kc h o n c m z q X g g0 L cap : Nat) (R kl lv : Int) (lm : Bool) (xs ku : List Int) (w wx : World) (hkl : K.length = kn) (hkm : kn ≤ 140737488351232) (hka : KeysAt w (some a) K) (hn : n ≤ 140737488351232) (HS : KuAt w h o n c wx X g g0 L cap ku) (hm : m ≤ z) (hz : z < n) (hlv : lv = (q : Int) + 1) (hq : q < kn) (hku : ku ≠ bytesOf (K.getD q ByteArray.empty)) (hkn : kl < (kn : Int)) (hP : 0 ≤ kl ∨ kl < lv) (hR : skR sks K xs (z + 1) lv kl false = R) (NX : Act → World → Prop)
    (u0 u1 u3 u4 u5 u6 u10 u13 u14 u15 u16 u17 u18 u19 u20 u21 u23 u24 u25 u26 u27 u28 u29 u30 u31 u32 u33 u34 u35 u36 u37 u38 u39 u40 u41 u42 u43 u44 u45 u46 u47 u48 u49 u50 u51 u52 u53 u54 u55 u56 u57 u58 u59 u60 u61 u62 u63 u64 u65 u66 u67 u68 u69 u70 u71 u72 u73 u74 u75 u76 u77 u78 u79 u80 u81 u82 u83 u84 u85 u86 u87 u88 u89 u90 u91 u92 u93 u94 u95 u96 u97 u98 u99 u100 u101 u102 u103 u104 u105 u106 u107 u108 u109 u110 u111 u112 u113 u114 u115 u116 u117 u118 u119 u120 u121 u122 u123 u124 u125 u126 u127 u128 u129 u130 u131 u132 u133 u134 u135 u136 u137 u138 u139 u140 u141 u142 u143 u145 u146 u147 u148 u149 u150 u151 u152 u153 u154 u155 u156 u157 u158 u159 u160 u161 u162 u163 u164 u165 u166 u167 u168 u169 u170 u171 u172 u173 u174 u175 u176 u177 u178 u179 u180 u181 u182 u183 u184 u185 u186 u187 u188 u189 u190 u191 u192 u193 u194 u195 u196 u197 u198 u199 u200 u201 u202 u203 u204 u205 u206 u207 u208 u209 u210 u211 u212 u213 u214 u215 u216 u217 u218 u219 u220 u221 u222 u223 u224 u225 u226 u227 u228 u229 u230 u231 u232 u233 u234 u235 u236 u237 u238 u239 u240 u241 u242 u243 u244 u245 u246 u247 u248 u249 u250 u251 u252 u253 u254 u255 u256 u257 u258 u259 u260 u261 u262 u263 u264 u265 u266 u267 u268 u269 u270 u271 u272 u273 u274 u275 u276 u277 u278 u279 u280 u281 u282 : Value) (hN : ∀ (z2 : Nat) (kl2 : Int) (lm2 : Bool) (w2 : World) (v9 x15 x16 x17 x18 x19 x20 x21 x22 x23 x24 x77 x78 x79 x80 x81 x82 x83 x84 x85 x86 x87 x88 x89 x90 x91 x92 x93 x94 x95 x96 x97 x98 x99 x100 x101 x102 x103 x104 x105 x106 x107 x108 x109 x110 x111 x112 x113 x114 x115 x116 x117 x118 x119 x120 x121 x122 x123 x124 x125 x126 x127 x128 x129 x130 x131 x132 x133 x134 x135 x136 x137 x138 x139 x140 x141 x142 x143 x144 x145 x146 x147 x148 x149 x150 x151 x152 x153 x154 x155 x156 x157 x158 x159 x160 x161 x162 x163 : Value), v9 = .int .i64 (z2 : Int) → m ≤ z2 → z2 < n → SL w h o n c w2 → kl2 < (kn : Int) → kl ≤ kl2 → (0 ≤ kl2 ∨ kl2 < lv) → skR sks K xs (z2 + 1) lv kl2 lm2 = R → NX ⟨#[u0, u1, .slice (some a) kn kc, u3, u4, u5, u6, .int .i64 kl2, .int .i64 ((q : Int) + 1), v9, u10, .int .i64 (kn : Int), .bool lm2, u13, u14, x15, x16, x17, x18, x19, x20, x21, x22, x23, x24, u25, u26, u27, u28, u29, u30, u31, u32, u33, u34, u35, u36, u37, u38, u39, u40, u41, u42, u43, u44, u45, u46, u47, u48, u49, u50, u51, u52, u53, u54, u55, u56, u57, u58, u59, u60, u61, u62, u63, u64, u65, u66, u67, u68, u69, u70, u71, u72, u73, u74, u75, u76, x77, x78, x79, x80, x81, x82, x83, x84, x85, x86, x87, x88, x89, x90, x91, x92, x93, x94, x95, x96, x97, x98, x99, x100, x101, x102, x103, x104, x105, x106, x107, x108, x109, x110, x111, x112, x113, x114, x115, x116, x117, x118, x119, x120, x121, x122, x123, x124, x125, x126, x127, x128, x129, x130, x131, x132, x133, x134, x135, x136, x137, x138, x139, x140, x141, x142, x143, x144, x145, x146, x147, x148, x149, x150, x151, x152, x153, x154, x155, x156, x157, x158, x159, x160, x161, x162, x163, u164, u165, u166, u167, u168, u169, u170, u171, u172, u173, u174, u175, u176, u177, u178, u179, u180, u181, u182, u183, u184, u185, u186, u187, u188, u189, u190, u191, u192, u193, u194, u195, u196, u197, u198, u199, u200, u201, u202, u203, u204, u205, u206, u207, u208, u209, u210, u211, u212, u213, u214, u215, u216, u217, u218, u219, u220, u221, u222, u223, u224, u225, u226, u227, u228, u229, u230, u231, u232, u233, u234, u235, u236, u237, u238, u239, u240, u241, u242, u243, u244, u245, u246, u247, u248, u249, u250, u251, u252, u253, u254, u255, u256, u257, u258, u259, u260, u261, u262, u263, u264, u265, u266, u267, u268, u269, u270, u271, u272, u273, u274, u275, u276, u277, u278, u279, u280, u281, u282], []⟩ w2) :
    Code.wp Tryd.prog code46 (KP (bodyPost Tryd.prog Tryd.f67 (SKA R w) .ret) NX) ⟨#[u0, u1, .slice (some a) kn kc, u3, u4, u5, u6, .int .i64 kl, .int .i64 ((q : Int) + 1), .int .i64 (z : Int), u10, .int .i64 (kn : Int), .bool lm, u13, u14, u15, u16, u17, u18, u19, u20, u21, .pointer (some ⟨X, 0, none⟩), u23, u24, u25, u26, u27, u28, u29, u30, u31, u32, u33, u34, u35, u36, u37, u38, u39, u40, u41, u42, u43, u44, u45, u46, u47, u48, u49, u50, u51, u52, u53, u54, u55, u56, u57, u58, u59, u60, u61, u62, u63, u64, u65, u66, u67, u68, u69, u70, u71, u72, u73, u74, u75, u76, u77, u78, u79, u80, u81, u82, u83, u84, u85, u86, u87, u88, u89, u90, u91, u92, u93, u94, u95, u96, u97, u98, u99, u100, u101, u102, u103, u104, u105, u106, u107, u108, u109, u110, u111, u112, u113, u114, u115, u116, u117, u118, u119, u120, u121, u122, u123, u124, u125, u126, u127, u128, u129, u130, u131, u132, u133, u134, u135, u136, u137, u138, u139, u140, u141, u142, u143, .bool true, u145, u146, u147, u148, u149, u150, u151, u152, u153, u154, u155, u156, u157, u158, u159, u160, u161, u162, u163, u164, u165, u166, u167, u168, u169, u170, u171, u172, u173, u174, u175, u176, u177, u178, u179, u180, u181, u182, u183, u184, u185, u186, u187, u188, u189, u190, u191, u192, u193, u194, u195, u196, u197, u198, u199, u200, u201, u202, u203, u204, u205, u206, u207, u208, u209, u210, u211, u212, u213, u214, u215, u216, u217, u218, u219, u220, u221, u222, u223, u224, u225, u226, u227, u228, u229, u230, u231, u232, u233, u234, u235, u236, u237, u238, u239, u240, u241, u242, u243, u244, u245, u246, u247, u248, u249, u250, u251, u252, u253, u254, u255, u256, u257, u258, u259, u260, u261, u262, u263, u264, u265, u266, u267, u268, u269, u270, u271, u272, u273, u274, u275, u276, u277, u278, u279, u280, u281, u282], []⟩ wx := by
  have hP := Aside0.mk hP
  obtain ⟨s, hs⟩ : ∃ s, s = K.getD q ByteArray.empty := ⟨_, rfl⟩
  rw [← hs] at hku
  have hcs : wx.cell? (a.add q) = some (.string s) := by
    obtain ⟨b, h1, h2, h3⟩ := (hka.below HS.sl.below) q (by rw [hkl]; exact hq)
    obtain rfl := Option.some.inj h1
    rw [h3, hs]
  have CQ := eqs_calls X g g0 L cap ku s wx HS.cell HS.row HS.by_ HS.len
  rw [decide_eq_false hku] at CQ
  have CQ := Aside0.mk CQ
  have HS := Aside0.mk HS
  have HN := Aside0.mk hN
  have hR := Aside0.mk hR
  have hw1 : wrap64 ((q : Int) + 1 - 1) = (q : Int) := by unfold wrap64; omega
  clear hku hs hka hkl hlv hN
  conv => arg 2; whnf
  go_wp2_with (go_at_call 79; refine CQ.out.mono ?_; rintro e w3 ⟨rfl, rfl⟩)
  show NX _ _
  exact HN.out z kl false _ _ _ _ _ _ _ _ _ _ _ _ _ _ _ _ _ _ _ _ _ _ _ _ _ _ _ _ _ _ _ _ _ _ _ _ _ _ _ _ _ _ _ _ _ _ _ _ _ _ _ _ _ _ _ _ _ _ _ _ _ _ _ _ _ _ _ _ _ _ _ _ _ _ _ _ _ _ _ _ _ _ _ _ _ _ _ _ _ _ _ _ _ _ _ _ _ _ _ rfl hm hz HS.out.sl hkn (Int.le_refl _) hP.out hR.out
set_option maxHeartbeats 8000000 in
set_option maxRecDepth 1000000 in
theorem cmp_same (K : List ByteArray) (a : Addr) (kn kc h o n c m z q X g g0 L cap : Nat) (R kl lv : Int) (lm : Bool) (xs ku : List Int) (w wx : World) (hkl : K.length = kn) (hkm : kn ≤ 140737488351232) (hka : KeysAt w (some a) K) (hn : n ≤ 140737488351232) (HS : KuAt w h o n c wx X g g0 L cap ku) (hm : m ≤ z) (hz : z < n) (hlv : lv = (q : Int) + 1) (hq : q < kn) (hku : ku = bytesOf (K.getD q ByteArray.empty)) (hkn : kl < (kn : Int)) (hP : 0 ≤ kl ∨ kl < lv) (hne : kl ≠ (q : Int)) (hR : skR sks K xs (z + 1) lv kl true = R) (NX : Act → World → Prop)
    (u0 u1 u3 u4 u5 u6 u10 u13 u14 u15 u16 u17 u18 u19 u20 u21 u23 u24 u25 u26 u27 u28 u29 u30 u31 u32 u33 u34 u35 u36 u37 u38 u39 u40 u41 u42 u43 u44 u45 u46 u47 u48 u49 u50 u51 u52 u53 u54 u55 u56 u57 u58 u59 u60 u61 u62 u63 u64 u65 u66 u67 u68 u69 u70 u71 u72 u73 u74 u75 u76 u77 u78 u79 u80 u81 u82 u83 u84 u85 u86 u87 u88 u89 u90 u91 u92 u93 u94 u95 u96 u97 u98 u99 u100 u101 u102 u103 u104 u105 u106 u107 u108 u109 u110 u111 u112 u113 u114 u115 u116 u117 u118 u119 u120 u121 u122 u123 u124 u125 u126 u127 u128 u129 u130 u131 u132 u133 u134 u135 u136 u137 u138 u139 u140 u141 u142 u143 u145 u146 u147 u148 u149 u150 u151 u152 u153 u154 u155 u156 u157 u158 u159 u160 u161 u162 u163 u164 u165 u166 u167 u168 u169 u170 u171 u172 u173 u174 u175 u176 u177 u178 u179 u180 u181 u182 u183 u184 u185 u186 u187 u188 u189 u190 u191 u192 u193 u194 u195 u196 u197 u198 u199 u200 u201 u202 u203 u204 u205 u206 u207 u208 u209 u210 u211 u212 u213 u214 u215 u216 u217 u218 u219 u220 u221 u222 u223 u224 u225 u226 u227 u228 u229 u230 u231 u232 u233 u234 u235 u236 u237 u238 u239 u240 u241 u242 u243 u244 u245 u246 u247 u248 u249 u250 u251 u252 u253 u254 u255 u256 u257 u258 u259 u260 u261 u262 u263 u264 u265 u266 u267 u268 u269 u270 u271 u272 u273 u274 u275 u276 u277 u278 u279 u280 u281 u282 : Value) (hN : ∀ (z2 : Nat) (kl2 : Int) (lm2 : Bool) (w2 : World) (v9 x15 x16 x17 x18 x19 x20 x21 x22 x23 x24 x77 x78 x79 x80 x81 x82 x83 x84 x85 x86 x87 x88 x89 x90 x91 x92 x93 x94 x95 x96 x97 x98 x99 x100 x101 x102 x103 x104 x105 x106 x107 x108 x109 x110 x111 x112 x113 x114 x115 x116 x117 x118 x119 x120 x121 x122 x123 x124 x125 x126 x127 x128 x129 x130 x131 x132 x133 x134 x135 x136 x137 x138 x139 x140 x141 x142 x143 x144 x145 x146 x147 x148 x149 x150 x151 x152 x153 x154 x155 x156 x157 x158 x159 x160 x161 x162 x163 : Value), v9 = .int .i64 (z2 : Int) → m ≤ z2 → z2 < n → SL w h o n c w2 → kl2 < (kn : Int) → kl ≤ kl2 → (0 ≤ kl2 ∨ kl2 < lv) → skR sks K xs (z2 + 1) lv kl2 lm2 = R → NX ⟨#[u0, u1, .slice (some a) kn kc, u3, u4, u5, u6, .int .i64 kl2, .int .i64 ((q : Int) + 1), v9, u10, .int .i64 (kn : Int), .bool lm2, u13, u14, x15, x16, x17, x18, x19, x20, x21, x22, x23, x24, u25, u26, u27, u28, u29, u30, u31, u32, u33, u34, u35, u36, u37, u38, u39, u40, u41, u42, u43, u44, u45, u46, u47, u48, u49, u50, u51, u52, u53, u54, u55, u56, u57, u58, u59, u60, u61, u62, u63, u64, u65, u66, u67, u68, u69, u70, u71, u72, u73, u74, u75, u76, x77, x78, x79, x80, x81, x82, x83, x84, x85, x86, x87, x88, x89, x90, x91, x92, x93, x94, x95, x96, x97, x98, x99, x100, x101, x102, x103, x104, x105, x106, x107, x108, x109, x110, x111, x112, x113, x114, x115, x116, x117, x118, x119, x120, x121, x122, x123, x124, x125, x126, x127, x128, x129, x130, x131, x132, x133, x134, x135, x136, x137, x138, x139, x140, x141, x142, x143, x144, x145, x146, x147, x148, x149, x150, x151, x152, x153, x154, x155, x156, x157, x158, x159, x160, x161, x162, x163, u164, u165, u166, u167, u168, u169, u170, u171, u172, u173, u174, u175, u176, u177, u178, u179, u180, u181, u182, u183, u184, u185, u186, u187, u188, u189, u190, u191, u192, u193, u194, u195, u196, u197, u198, u199, u200, u201, u202, u203, u204, u205, u206, u207, u208, u209, u210, u211, u212, u213, u214, u215, u216, u217, u218, u219, u220, u221, u222, u223, u224, u225, u226, u227, u228, u229, u230, u231, u232, u233, u234, u235, u236, u237, u238, u239, u240, u241, u242, u243, u244, u245, u246, u247, u248, u249, u250, u251, u252, u253, u254, u255, u256, u257, u258, u259, u260, u261, u262, u263, u264, u265, u266, u267, u268, u269, u270, u271, u272, u273, u274, u275, u276, u277, u278, u279, u280, u281, u282], []⟩ w2) :
    Code.wp Tryd.prog code46 (KP (bodyPost Tryd.prog Tryd.f67 (SKA R w) .ret) NX) ⟨#[u0, u1, .slice (some a) kn kc, u3, u4, u5, u6, .int .i64 kl, .int .i64 ((q : Int) + 1), .int .i64 (z : Int), u10, .int .i64 (kn : Int), .bool lm, u13, u14, u15, u16, u17, u18, u19, u20, u21, .pointer (some ⟨X, 0, none⟩), u23, u24, u25, u26, u27, u28, u29, u30, u31, u32, u33, u34, u35, u36, u37, u38, u39, u40, u41, u42, u43, u44, u45, u46, u47, u48, u49, u50, u51, u52, u53, u54, u55, u56, u57, u58, u59, u60, u61, u62, u63, u64, u65, u66, u67, u68, u69, u70, u71, u72, u73, u74, u75, u76, u77, u78, u79, u80, u81, u82, u83, u84, u85, u86, u87, u88, u89, u90, u91, u92, u93, u94, u95, u96, u97, u98, u99, u100, u101, u102, u103, u104, u105, u106, u107, u108, u109, u110, u111, u112, u113, u114, u115, u116, u117, u118, u119, u120, u121, u122, u123, u124, u125, u126, u127, u128, u129, u130, u131, u132, u133, u134, u135, u136, u137, u138, u139, u140, u141, u142, u143, .bool true, u145, u146, u147, u148, u149, u150, u151, u152, u153, u154, u155, u156, u157, u158, u159, u160, u161, u162, u163, u164, u165, u166, u167, u168, u169, u170, u171, u172, u173, u174, u175, u176, u177, u178, u179, u180, u181, u182, u183, u184, u185, u186, u187, u188, u189, u190, u191, u192, u193, u194, u195, u196, u197, u198, u199, u200, u201, u202, u203, u204, u205, u206, u207, u208, u209, u210, u211, u212, u213, u214, u215, u216, u217, u218, u219, u220, u221, u222, u223, u224, u225, u226, u227, u228, u229, u230, u231, u232, u233, u234, u235, u236, u237, u238, u239, u240, u241, u242, u243, u244, u245, u246, u247, u248, u249, u250, u251, u252, u253, u254, u255, u256, u257, u258, u259, u260, u261, u262, u263, u264, u265, u266, u267, u268, u269, u270, u271, u272, u273, u274, u275, u276, u277, u278, u279, u280, u281, u282], []⟩ wx := by
  have hP := Aside0.mk hP
  have hneb : (kl == (q : Int)) = false := by simpa using hne
  have hneb2 : (kl == (q : Int) + 1 - 1) = false := by simpa using hne
  clear hne
  obtain ⟨s, hs⟩ : ∃ s, s = K.getD q ByteArray.empty := ⟨_, rfl⟩
  rw [← hs] at hku
  have hcs : wx.cell? (a.add q) = some (.string s) := by
    obtain ⟨b, h1, h2, h3⟩ := (hka.below HS.sl.below) q (by rw [hkl]; exact hq)
    obtain rfl := Option.some.inj h1
    rw [h3, hs]
  have CQ := eqs_calls X g g0 L cap ku s wx HS.cell HS.row HS.by_ HS.len
  rw [decide_eq_true hku] at CQ
  have CQ := Aside0.mk CQ
  have HS := Aside0.mk HS
  have HN := Aside0.mk hN
  have hR := Aside0.mk hR
  have hw1 : wrap64 ((q : Int) + 1 - 1) = (q : Int) := by unfold wrap64; omega
  clear hku hs hka hkl hlv hN
  conv => arg 2; whnf
  go_wp2_with (go_at_call 79; refine CQ.out.mono ?_; rintro e w3 ⟨rfl, rfl⟩)
  show NX _ _
  exact HN.out z kl true _ _ _ _ _ _ _ _ _ _ _ _ _ _ _ _ _ _ _ _ _ _ _ _ _ _ _ _ _ _ _ _ _ _ _ _ _ _ _ _ _ _ _ _ _ _ _ _ _ _ _ _ _ _ _ _ _ _ _ _ _ _ _ _ _ _ _ _ _ _ _ _ _ _ _ _ _ _ _ _ _ _ _ _ _ _ _ _ _ _ _ _ _ _ _ _ _ _ _ rfl hm hz HS.out.sl hkn (Int.le_refl _) hP.out hR.out
set_option maxHeartbeats 8000000 in
set_option maxRecDepth 1000000 in
theorem cmp_next (K : List ByteArray) (a : Addr) (kn kc h o n c m z q X g g0 L cap : Nat) (R lv : Int) (lm : Bool) (xs ku : List Int) (w wx : World) (hkl : K.length = kn) (hkm : kn ≤ 140737488351232) (hka : KeysAt w (some a) K) (hn : n ≤ 140737488351232) (HS : KuAt w h o n c wx X g g0 L cap ku) (hm : m ≤ z) (hz : z < n) (hlv : lv = (q : Int) + 1) (hq : q < kn) (hku : ku = bytesOf (K.getD q ByteArray.empty)) (hnl : (q : Int) + 1 ≠ (kn : Int)) (hR : skR sks K xs (z + 1) lv ((q : Int) + 1) true = R) (NX : Act → World → Prop)
    (u0 u1 u3 u4 u5 u6 u10 u13 u14 u15 u16 u17 u18 u19 u20 u21 u23 u24 u25 u26 u27 u28 u29 u30 u31 u32 u33 u34 u35 u36 u37 u38 u39 u40 u41 u42 u43 u44 u45 u46 u47 u48 u49 u50 u51 u52 u53 u54 u55 u56 u57 u58 u59 u60 u61 u62 u63 u64 u65 u66 u67 u68 u69 u70 u71 u72 u73 u74 u75 u76 u77 u78 u79 u80 u81 u82 u83 u84 u85 u86 u87 u88 u89 u90 u91 u92 u93 u94 u95 u96 u97 u98 u99 u100 u101 u102 u103 u104 u105 u106 u107 u108 u109 u110 u111 u112 u113 u114 u115 u116 u117 u118 u119 u120 u121 u122 u123 u124 u125 u126 u127 u128 u129 u130 u131 u132 u133 u134 u135 u136 u137 u138 u139 u140 u141 u142 u143 u145 u146 u147 u148 u149 u150 u151 u152 u153 u154 u155 u156 u157 u158 u159 u160 u161 u162 u163 u164 u165 u166 u167 u168 u169 u170 u171 u172 u173 u174 u175 u176 u177 u178 u179 u180 u181 u182 u183 u184 u185 u186 u187 u188 u189 u190 u191 u192 u193 u194 u195 u196 u197 u198 u199 u200 u201 u202 u203 u204 u205 u206 u207 u208 u209 u210 u211 u212 u213 u214 u215 u216 u217 u218 u219 u220 u221 u222 u223 u224 u225 u226 u227 u228 u229 u230 u231 u232 u233 u234 u235 u236 u237 u238 u239 u240 u241 u242 u243 u244 u245 u246 u247 u248 u249 u250 u251 u252 u253 u254 u255 u256 u257 u258 u259 u260 u261 u262 u263 u264 u265 u266 u267 u268 u269 u270 u271 u272 u273 u274 u275 u276 u277 u278 u279 u280 u281 u282 : Value) (hN : ∀ (z2 : Nat) (kl2 : Int) (lm2 : Bool) (w2 : World) (v9 x15 x16 x17 x18 x19 x20 x21 x22 x23 x24 x77 x78 x79 x80 x81 x82 x83 x84 x85 x86 x87 x88 x89 x90 x91 x92 x93 x94 x95 x96 x97 x98 x99 x100 x101 x102 x103 x104 x105 x106 x107 x108 x109 x110 x111 x112 x113 x114 x115 x116 x117 x118 x119 x120 x121 x122 x123 x124 x125 x126 x127 x128 x129 x130 x131 x132 x133 x134 x135 x136 x137 x138 x139 x140 x141 x142 x143 x144 x145 x146 x147 x148 x149 x150 x151 x152 x153 x154 x155 x156 x157 x158 x159 x160 x161 x162 x163 : Value), v9 = .int .i64 (z2 : Int) → m ≤ z2 → z2 < n → SL w h o n c w2 → kl2 < (kn : Int) → (q : Int) ≤ kl2 → (0 ≤ kl2 ∨ kl2 < lv) → skR sks K xs (z2 + 1) lv kl2 lm2 = R → NX ⟨#[u0, u1, .slice (some a) kn kc, u3, u4, u5, u6, .int .i64 kl2, .int .i64 ((q : Int) + 1), v9, u10, .int .i64 (kn : Int), .bool lm2, u13, u14, x15, x16, x17, x18, x19, x20, x21, x22, x23, x24, u25, u26, u27, u28, u29, u30, u31, u32, u33, u34, u35, u36, u37, u38, u39, u40, u41, u42, u43, u44, u45, u46, u47, u48, u49, u50, u51, u52, u53, u54, u55, u56, u57, u58, u59, u60, u61, u62, u63, u64, u65, u66, u67, u68, u69, u70, u71, u72, u73, u74, u75, u76, x77, x78, x79, x80, x81, x82, x83, x84, x85, x86, x87, x88, x89, x90, x91, x92, x93, x94, x95, x96, x97, x98, x99, x100, x101, x102, x103, x104, x105, x106, x107, x108, x109, x110, x111, x112, x113, x114, x115, x116, x117, x118, x119, x120, x121, x122, x123, x124, x125, x126, x127, x128, x129, x130, x131, x132, x133, x134, x135, x136, x137, x138, x139, x140, x141, x142, x143, x144, x145, x146, x147, x148, x149, x150, x151, x152, x153, x154, x155, x156, x157, x158, x159, x160, x161, x162, x163, u164, u165, u166, u167, u168, u169, u170, u171, u172, u173, u174, u175, u176, u177, u178, u179, u180, u181, u182, u183, u184, u185, u186, u187, u188, u189, u190, u191, u192, u193, u194, u195, u196, u197, u198, u199, u200, u201, u202, u203, u204, u205, u206, u207, u208, u209, u210, u211, u212, u213, u214, u215, u216, u217, u218, u219, u220, u221, u222, u223, u224, u225, u226, u227, u228, u229, u230, u231, u232, u233, u234, u235, u236, u237, u238, u239, u240, u241, u242, u243, u244, u245, u246, u247, u248, u249, u250, u251, u252, u253, u254, u255, u256, u257, u258, u259, u260, u261, u262, u263, u264, u265, u266, u267, u268, u269, u270, u271, u272, u273, u274, u275, u276, u277, u278, u279, u280, u281, u282], []⟩ w2) :
    Code.wp Tryd.prog code46 (KP (bodyPost Tryd.prog Tryd.f67 (SKA R w) .ret) NX) ⟨#[u0, u1, .slice (some a) kn kc, u3, u4, u5, u6, .int .i64 (q : Int), .int .i64 ((q : Int) + 1), .int .i64 (z : Int), u10, .int .i64 (kn : Int), .bool lm, u13, u14, u15, u16, u17, u18, u19, u20, u21, .pointer (some ⟨X, 0, none⟩), u23, u24, u25, u26, u27, u28, u29, u30, u31, u32, u33, u34, u35, u36, u37, u38, u39, u40, u41, u42, u43, u44, u45, u46, u47, u48, u49, u50, u51, u52, u53, u54, u55, u56, u57, u58, u59, u60, u61, u62, u63, u64, u65, u66, u67, u68, u69, u70, u71, u72, u73, u74, u75, u76, u77, u78, u79, u80, u81, u82, u83, u84, u85, u86, u87, u88, u89, u90, u91, u92, u93, u94, u95, u96, u97, u98, u99, u100, u101, u102, u103, u104, u105, u106, u107, u108, u109, u110, u111, u112, u113, u114, u115, u116, u117, u118, u119, u120, u121, u122, u123, u124, u125, u126, u127, u128, u129, u130, u131, u132, u133, u134, u135, u136, u137, u138, u139, u140, u141, u142, u143, .bool true, u145, u146, u147, u148, u149, u150, u151, u152, u153, u154, u155, u156, u157, u158, u159, u160, u161, u162, u163, u164, u165, u166, u167, u168, u169, u170, u171, u172, u173, u174, u175, u176, u177, u178, u179, u180, u181, u182, u183, u184, u185, u186, u187, u188, u189, u190, u191, u192, u193, u194, u195, u196, u197, u198, u199, u200, u201, u202, u203, u204, u205, u206, u207, u208, u209, u210, u211, u212, u213, u214, u215, u216, u217, u218, u219, u220, u221, u222, u223, u224, u225, u226, u227, u228, u229, u230, u231, u232, u233, u234, u235, u236, u237, u238, u239, u240, u241, u242, u243, u244, u245, u246, u247, u248, u249, u250, u251, u252, u253, u254, u255, u256, u257, u258, u259, u260, u261, u262, u263, u264, u265, u266, u267, u268, u269, u270, u271, u272, u273, u274, u275, u276, u277, u278, u279, u280, u281, u282], []⟩ wx := by
  have hneb : ((q : Int) == (q : Int)) = true := by simp
  have hneb2 : ((q : Int) == (q : Int) + 1 - 1) = true := by simp
  have hnlb : ((q : Int) + 1 == (kn : Int)) = false := by simpa using hnl
  have hqn : (q : Int) + 1 < (kn : Int) := by omega
  clear hnl
  obtain ⟨s, hs⟩ : ∃ s, s = K.getD q ByteArray.empty := ⟨_, rfl⟩
  rw [← hs] at hku
  have hcs : wx.cell? (a.add q) = some (.string s) := by
    obtain ⟨b, h1, h2, h3⟩ := (hka.below HS.sl.below) q (by rw [hkl]; exact hq)
    obtain rfl := Option.some.inj h1
    rw [h3, hs]
  have CQ := eqs_calls X g g0 L cap ku s wx HS.cell HS.row HS.by_ HS.len
  rw [decide_eq_true hku] at CQ
  have CQ := Aside0.mk CQ
  have HS := Aside0.mk HS
  have HN := Aside0.mk hN
  have hR := Aside0.mk hR
  have hw1 : wrap64 ((q : Int) + 1 - 1) = (q : Int) := by unfold wrap64; omega
  clear hku hs hka hkl hlv hN
  conv => arg 2; whnf
  go_wp2_with (go_at_call 79; refine CQ.out.mono ?_; rintro e w3 ⟨rfl, rfl⟩)
  show NX _ _
  exact HN.out z ((q : Int) + 1) true _ _ _ _ _ _ _ _ _ _ _ _ _ _ _ _ _ _ _ _ _ _ _ _ _ _ _ _ _ _ _ _ _ _ _ _ _ _ _ _ _ _ _ _ _ _ _ _ _ _ _ _ _ _ _ _ _ _ _ _ _ _ _ _ _ _ _ _ _ _ _ _ _ _ _ _ _ _ _ _ _ _ _ _ _ _ _ _ _ _ _ _ _ _ _ _ _ _ _ rfl hm hz HS.out.sl hqn (by omega) (.inl (by omega)) hR.out
set_option maxHeartbeats 8000000 in
set_option maxRecDepth 1000000 in
theorem cmp_last (K : List ByteArray) (a : Addr) (kn kc h o n c m z q X g g0 L cap : Nat) (R lv : Int) (lm : Bool) (xs ku : List Int) (w wx : World) (hkl : K.length = kn) (hkm : kn ≤ 140737488351232) (hka : KeysAt w (some a) K) (hn : n ≤ 140737488351232) (HS : KuAt w h o n c wx X g g0 L cap ku) (hm : m ≤ z) (hz : z < n) (hlv : lv = (q : Int) + 1) (hq : q < kn) (hku : ku = bytesOf (K.getD q ByteArray.empty)) (hnl : (q : Int) + 1 = (kn : Int)) (hR : (z : Int) + 1 = R) (NX : Act → World → Prop)
    (u0 u1 u3 u4 u5 u6 u10 u13 u14 u15 u16 u17 u18 u19 u20 u21 u23 u24 u25 u26 u27 u28 u29 u30 u31 u32 u33 u34 u35 u36 u37 u38 u39 u40 u41 u42 u43 u44 u45 u46 u47 u48 u49 u50 u51 u52 u53 u54 u55 u56 u57 u58 u59 u60 u61 u62 u63 u64 u65 u66 u67 u68 u69 u70 u71 u72 u73 u74 u75 u76 u77 u78 u79 u80 u81 u82 u83 u84 u85 u86 u87 u88 u89 u90 u91 u92 u93 u94 u95 u96 u97 u98 u99 u100 u101 u102 u103 u104 u105 u106 u107 u108 u109 u110 u111 u112 u113 u114 u115 u116 u117 u118 u119 u120 u121 u122 u123 u124 u125 u126 u127 u128 u129 u130 u131 u132 u133 u134 u135 u136 u137 u138 u139 u140 u141 u142 u143 u145 u146 u147 u148 u149 u150 u151 u152 u153 u154 u155 u156 u157 u158 u159 u160 u161 u162 u163 u164 u165 u166 u167 u168 u169 u170 u171 u172 u173 u174 u175 u176 u177 u178 u179 u180 u181 u182 u183 u184 u185 u186 u187 u188 u189 u190 u191 u192 u193 u194 u195 u196 u197 u198 u199 u200 u201 u202 u203 u204 u205 u206 u207 u208 u209 u210 u211 u212 u213 u214 u215 u216 u217 u218 u219 u220 u221 u222 u223 u224 u225 u226 u227 u228 u229 u230 u231 u232 u233 u234 u235 u236 u237 u238 u239 u240 u241 u242 u243 u244 u245 u246 u247 u248 u249 u250 u251 u252 u253 u254 u255 u256 u257 u258 u259 u260 u261 u262 u263 u264 u265 u266 u267 u268 u269 u270 u271 u272 u273 u274 u275 u276 u277 u278 u279 u280 u281 u282 : Value) (hN : ∀ (z2 : Nat) (kl2 : Int) (lm2 : Bool) (w2 : World) (v9 x15 x16 x17 x18 x19 x20 x21 x22 x23 x24 x77 x78 x79 x80 x81 x82 x83 x84 x85 x86 x87 x88 x89 x90 x91 x92 x93 x94 x95 x96 x97 x98 x99 x100 x101 x102 x103 x104 x105 x106 x107 x108 x109 x110 x111 x112 x113 x114 x115 x116 x117 x118 x119 x120 x121 x122 x123 x124 x125 x126 x127 x128 x129 x130 x131 x132 x133 x134 x135 x136 x137 x138 x139 x140 x141 x142 x143 x144 x145 x146 x147 x148 x149 x150 x151 x152 x153 x154 x155 x156 x157 x158 x159 x160 x161 x162 x163 : Value), v9 = .int .i64 (z2 : Int) → m ≤ z2 → z2 < n → SL w h o n c w2 → kl2 < (kn : Int) → (q : Int) ≤ kl2 → (0 ≤ kl2 ∨ kl2 < lv) → skR sks K xs (z2 + 1) lv kl2 lm2 = R → NX ⟨#[u0, u1, .slice (some a) kn kc, u3, u4, u5, u6, .int .i64 kl2, .int .i64 ((q : Int) + 1), v9, u10, .int .i64 (kn : Int), .bool lm2, u13, u14, x15, x16, x17, x18, x19, x20, x21, x22, x23, x24, u25, u26, u27, u28, u29, u30, u31, u32, u33, u34, u35, u36, u37, u38, u39, u40, u41, u42, u43, u44, u45, u46, u47, u48, u49, u50, u51, u52, u53, u54, u55, u56, u57, u58, u59, u60, u61, u62, u63, u64, u65, u66, u67, u68, u69, u70, u71, u72, u73, u74, u75, u76, x77, x78, x79, x80, x81, x82, x83, x84, x85, x86, x87, x88, x89, x90, x91, x92, x93, x94, x95, x96, x97, x98, x99, x100, x101, x102, x103, x104, x105, x106, x107, x108, x109, x110, x111, x112, x113, x114, x115, x116, x117, x118, x119, x120, x121, x122, x123, x124, x125, x126, x127, x128, x129, x130, x131, x132, x133, x134, x135, x136, x137, x138, x139, x140, x141, x142, x143, x144, x145, x146, x147, x148, x149, x150, x151, x152, x153, x154, x155, x156, x157, x158, x159, x160, x161, x162, x163, u164, u165, u166, u167, u168, u169, u170, u171, u172, u173, u174, u175, u176, u177, u178, u179, u180, u181, u182, u183, u184, u185, u186, u187, u188, u189, u190, u191, u192, u193, u194, u195, u196, u197, u198, u199, u200, u201, u202, u203, u204, u205, u206, u207, u208, u209, u210, u211, u212, u213, u214, u215, u216, u217, u218, u219, u220, u221, u222, u223, u224, u225, u226, u227, u228, u229, u230, u231, u232, u233, u234, u235, u236, u237, u238, u239, u240, u241, u242, u243, u244, u245, u246, u247, u248, u249, u250, u251, u252, u253, u254, u255, u256, u257, u258, u259, u260, u261, u262, u263, u264, u265, u266, u267, u268, u269, u270, u271, u272, u273, u274, u275, u276, u277, u278, u279, u280, u281, u282], []⟩ w2) :
    Code.wp Tryd.prog code46 (KP (bodyPost Tryd.prog Tryd.f67 (SKA R w) .ret) NX) ⟨#[u0, u1, .slice (some a) kn kc, u3, u4, u5, u6, .int .i64 (q : Int), .int .i64 ((q : Int) + 1), .int .i64 (z : Int), u10, .int .i64 (kn : Int), .bool lm, u13, u14, u15, u16, u17, u18, u19, u20, u21, .pointer (some ⟨X, 0, none⟩), u23, u24, u25, u26, u27, u28, u29, u30, u31, u32, u33, u34, u35, u36, u37, u38, u39, u40, u41, u42, u43, u44, u45, u46, u47, u48, u49, u50, u51, u52, u53, u54, u55, u56, u57, u58, u59, u60, u61, u62, u63, u64, u65, u66, u67, u68, u69, u70, u71, u72, u73, u74, u75, u76, u77, u78, u79, u80, u81, u82, u83, u84, u85, u86, u87, u88, u89, u90, u91, u92, u93, u94, u95, u96, u97, u98, u99, u100, u101, u102, u103, u104, u105, u106, u107, u108, u109, u110, u111, u112, u113, u114, u115, u116, u117, u118, u119, u120, u121, u122, u123, u124, u125, u126, u127, u128, u129, u130, u131, u132, u133, u134, u135, u136, u137, u138, u139, u140, u141, u142, u143, .bool true, u145, u146, u147, u148, u149, u150, u151, u152, u153, u154, u155, u156, u157, u158, u159, u160, u161, u162, u163, u164, u165, u166, u167, u168, u169, u170, u171, u172, u173, u174, u175, u176, u177, u178, u179, u180, u181, u182, u183, u184, u185, u186, u187, u188, u189, u190, u191, u192, u193, u194, u195, u196, u197, u198, u199, u200, u201, u202, u203, u204, u205, u206, u207, u208, u209, u210, u211, u212, u213, u214, u215, u216, u217, u218, u219, u220, u221, u222, u223, u224, u225, u226, u227, u228, u229, u230, u231, u232, u233, u234, u235, u236, u237, u238, u239, u240, u241, u242, u243, u244, u245, u246, u247, u248, u249, u250, u251, u252, u253, u254, u255, u256, u257, u258, u259, u260, u261, u262, u263, u264, u265, u266, u267, u268, u269, u270, u271, u272, u273, u274, u275, u276, u277, u278, u279, u280, u281, u282], []⟩ wx := by
  have hneb : ((q : Int) == (q : Int)) = true := by simp
  have hneb2 : ((q : Int) == (q : Int) + 1 - 1) = true := by simp
  have hnlb : ((q : Int) + 1 == (kn : Int)) = true := by simpa using hnl
  replace hnl := Aside0.mk hnl
  obtain ⟨s, hs⟩ : ∃ s, s = K.getD q ByteArray.empty := ⟨_, rfl⟩
  rw [← hs] at hku
  have hcs : wx.cell? (a.add q) = some (.string s) := by
    obtain ⟨b, h1, h2, h3⟩ := (hka.below HS.sl.below) q (by rw [hkl]; exact hq)
    obtain rfl := Option.some.inj h1
    rw [h3, hs]
  have CQ := eqs_calls X g g0 L cap ku s wx HS.cell HS.row HS.by_ HS.len
  rw [decide_eq_true hku] at CQ
  have CQ := Aside0.mk CQ
  have HS := Aside0.mk HS
  have HN := Aside0.mk hN
  have hR := Aside0.mk hR
  have hw1 : wrap64 ((q : Int) + 1 - 1) = (q : Int) := by unfold wrap64; omega
  clear hku hs hka hkl hlv hN
  conv => arg 2; whnf
  go_wp2_with (go_at_call 79; refine CQ.out.mono ?_; rintro e w3 ⟨rfl, rfl⟩)
  show bodyPost Tryd.prog Tryd.f67 _ Exit.ret _ _
  go_ret
  rw [← hR.out]
  exact ⟨rfl, HS.out.sl.below⟩
end Go.Proofs.YtpahejmkidhhhaaDoor.G
end

section
namespace Go.Proofs.YtpahejmkidhhhaaDoor.G
set_option linter.unusedVariables false
set_option linter.unusedSimpArgs false
open Go.RowKit Go.Proofs.YtpahejmkidhhhaaDoorW.PrintWords

noncomputable def code35 : Code := ((Tryd.f67.body.bind (brR 35)).getD .skip)
theorem e1_bytes {l : List Int} {n : Nat} {bs : List Int} (H : Bytes l) (h : e1 l = some (n, bs)) : Bytes bs := by
  unfold e1 at h
  by_cases h0 : l.length < 2
  · rw [if_pos h0] at h; cases h
  · rw [if_neg h0] at h
    by_cases h1 : isEs (l.getD 1 0) = true
    · rw [if_pos h1] at h
      cases h
      have hb := H.at' (k := 1) (by omega)
      intro x hx
      rw [List.mem_singleton] at hx
      subst hx
      unfold shortc
      split
      · omega
      · split
        · omega
        · split
          · omega
          · split
            · omega
            · split
              · omega
              · exact hb
    · rw [if_neg h1] at h
      by_cases h2 : l.getD 1 0 = 117
      · rw [if_pos h2] at h
        cases hd : du l with
        | none => rw [hd] at h; cases h
        | some r =>
          rw [hd] at h
          simp only [Option.map_some, Option.some.injEq, Prod.mk.injEq] at h
          obtain ⟨_, rfl⟩ := h
          exact fun x hx => Lib.encodeRuneZ_byte r.1 x hx
      · rw [if_neg h2] at h; cases h
theorem ueF_bytes : ∀ (f : Nat) (l us : List Int), Bytes l → ueF f l = some us → Bytes us
  | 0, _, us, _, h => by rw [ueF] at h; cases h; exact fun x hx => by cases hx
  | _ + 1, [], us, _, h => by rw [ueF] at h; cases h; exact fun x hx => by cases hx
  | f + 1, c :: l, us, H, h => by
    rw [ueF] at h
    by_cases h92 : c = 92
    · rw [if_pos h92] at h
      cases he : e1 (c :: l) with
      | none => rw [he] at h; cases h
      | some r =>
        obtain ⟨n, bs⟩ := r
        rw [he] at h
        simp only [] at h
        cases hr : ueF f ((c :: l).drop n) with
        | none => rw [hr] at h; cases h
        | some vs =>
          rw [hr] at h
          simp only [Option.map_some, Option.some.injEq] at h
          subst h
          have h1 := e1_bytes H he
          have h2 := ueF_bytes f _ vs (H.drop n) hr
          intro x hx
          rcases List.mem_append.1 hx with hx | hx
          · exact h1 x hx
          · exact h2 x hx
    · rw [if_neg h92] at h
      cases hr : ueF f l with
      | none => rw [hr] at h; cases h
      | some vs =>
        rw [hr] at h
        simp only [Option.map_some, Option.some.injEq] at h
        subst h
        have h2 := ueF_bytes f _ vs (fun x hx => H x (List.mem_cons_of_mem _ hx)) hr
        intro x hx
        rcases List.mem_cons.1 hx with rfl | hx
        · exact H _ (List.mem_cons_self ..)
        · exact h2 x hx
theorem ue_bytes {l us : List Int} (H : Bytes l) (h : ue l = some us) : Bytes us := ueF_bytes _ _ _ H h
theorem RowAt.set {w : World} {g g0 X : Nat} {us : List Int} {p : Option Addr} {a b : Nat} (H : RowAt w g g0 us) (hX : w.cell? ⟨X, 0, none⟩ = some (.slice p a b)) (v : Value) : RowAt (w.setCell ⟨X, 0, none⟩ v) g g0 us := by
  refine ⟨by rw [show (w.setCell ⟨X, 0, none⟩ v).heap.size = w.heap.size by simp [World.setCell]]; exact H.1, fun j hj => ?_⟩
  have hc := H.2 j hj
  rw [World.cell?_setCell_other]
  · exact hc
  · intro he
    rw [← he, hX] at hc
    cases hc
/-- The variable, and a key that lies there already. -/
theorem ku_start {w wr : World} {h o n c b J C : Nat} {xs : List Int} (HS : SL w h o n c wr) (H : RowAt w h o xs) (hby : Bytes xs) (hl : xs.length = n) (hb : b + J ≤ n) :
    KuAt w h o n c (wr.alloc (.cells #[.slice (some ⟨h, o + b, none⟩) J C] 54)) wr.heap.size h (o + b) J C ((xs.drop b).take J) := by
  have hn := cell_new wr (.slice (some ⟨h, o + b, none⟩) J C) 54
  refine ⟨HS.step (below_alloc1 _), hn.1, (((H.below HS.below).below (below_alloc1 _)).drop b).take J, fun x hx => hby.drop b x (List.mem_of_mem_take hx), ?_⟩
  rw [List.length_take, List.length_drop, hl]; omega
/-- The variable, and an unescaped key. -/
theorem ku_put {w wx : World} {h o n c X g g0 C : Nat} {us : List Int} (HS : SL w h o n c wx) (hX : wx.cell? ⟨X, 0, none⟩ = some (.slice none 0 0)) (hlt : w.heap.size + 2 < X) (H : RowAt wx g g0 us) (hby : Bytes us) :
    KuAt w h o n c (wx.setCell ⟨X, 0, none⟩ (.slice (some ⟨g, g0, none⟩) us.length C)) X g g0 us.length C us := by
  refine ⟨HS.kept (S := fun k => k = X) ((Kept.refl (fun k => k = X) wx).set (show (fun k => k = X) X from rfl) _) (fun k hk => by omega), World.cell?_setCell_same' _ _ _ (by rw [hX]; rfl), H.set hX _, hby, rfl⟩
/-- What unescape makes of a key. -/
def UKA (w : World) (h o n c X : Nat) (us : Option (List Int)) (e : Ending) (w2 : World) : Prop := match us with
  | some us => ∃ g g0 cap, e = .returned (.tuple #[.slice (some ⟨g, g0, none⟩) us.length cap, .nilIface]) ∧ Aside0 (RowAt w2 g g0 us) ∧ Aside0 (SL w h o n c w2) ∧ Aside0 (w2.cell? ⟨X, 0, none⟩ = some (.slice none 0 0) ∧ w2.frozen? ⟨X, 0, none⟩ = false)
  | none => ∃ A, e = .returned (.tuple #[.slice none 0 0, .iface 158 (.pointer (some A))]) ∧ Aside0 (SL w h o n c w2)
theorem uk_calls (E : Nat → Value) (h o n c b J X : Nat) (xs : List Int) (w W : World) (hG : SW w E) (H : RowAt w h o xs) (hby : Bytes xs) (hl : xs.length = n) (hn : n ≤ 140737488351232) (hnc : n ≤ c) (hbJ : b + J ≤ n) (HS : SL w h o n c W) (hX : W.cell? ⟨X, 0, none⟩ = some (.slice none 0 0)) (hXf : W.frozen? ⟨X, 0, none⟩ = false) (hXl : X < W.heap.size) (hX2 : w.heap.size + 2 < X) :
    Calls Tryd.prog 78 #[.agg #[.bool false, .bool false, .int .i64 0], .slice (some ⟨h, o + b, none⟩) J (c - b), .slice (some ⟨w.heap.size + 2, 0, none⟩) 64 64] W (UKA w h o n c X (ue ((xs.drop b).take J))) := by
  have hYL : ((xs.drop b).take J).length = J := by rw [List.length_take, List.length_drop, hl]; omega
  obtain ⟨a8, h8⟩ := hG.e8
  have hlt15 := hG.lt
  have hhw := H.1
  refine (unesc_calls a8 h (o + b) J (c - b) (w.heap.size + 2) ((xs.drop b).take J) W (hG.tab.below HS.below) ((HS.below.cell (p := ⟨8, 0, none⟩) (by show 8 < _; omega)).trans h8) (((H.below HS.below).drop b).take J) (fun x hx => hby.drop b x (List.mem_of_mem_take hx)) hYL (by omega) (by omega) HS.buf (by omega) (by omega)).mono ?_
  rintro e w2 ⟨v, x, rfl, hg, hB, hA⟩
  have HS2 := HS.grown hg hB
  cases hu : ue ((xs.drop b).take J) with
  | none =>
    rw [hu] at hA
    obtain ⟨⟨A, rfl⟩, rfl⟩ := hA.out
    exact ⟨A, rfl, ⟨HS2⟩⟩
  | some us =>
    rw [hu] at hA
    obtain ⟨rfl, g, g0, cap, rfl, hrow⟩ := hA.out
    exact ⟨g, g0, cap, rfl, ⟨hrow⟩, ⟨HS2⟩, ⟨cell_grown hX hXl hg (by omega), (World.frozen?_of_block (w := W) (w' := w2) (hg.block X hXl (by intro e; have := Option.some.inj e; omega))).trans hXf⟩⟩
set_option maxHeartbeats 8000000 in
set_option maxRecDepth 1000000 in
theorem key_top (K : List ByteArray) (a : Addr) (kn kc h o n c m z b J : Nat) (R kl lv : Int) (lm : Bool) (xs : List Int) (w wr : World) (E : Nat → Value) (v18 : Value) (hkl : K.length = kn) (hkm : kn ≤ 140737488351232) (hka : KeysAt w (some a) K) (hG : SW w E) (H : RowAt w h o xs) (hby : Bytes xs) (hl : xs.length = n) (hn : n ≤ 140737488351232) (hnc : n ≤ c) (HS : SL w h o n c wr) (hmb : m < b) (hbJ : b + J < z) (hz : z < n) (hlv : lv < 1) (NX : Act → World → Prop)
    (u0 u1 u5 u6 u10 u14 u15 u17 u20 u21 u22 u23 u24 u25 u26 u27 u28 u29 u30 u31 u32 u33 u34 u35 u36 u37 u38 u39 u40 u41 u42 u43 u44 u45 u46 u47 u48 u49 u50 u51 u52 u53 u54 u55 u56 u57 u58 u59 u60 u61 u62 u63 u64 u65 u66 u67 u68 u69 u70 u71 u72 u73 u74 u75 u76 u77 u78 u79 u80 u81 u82 u83 u84 u85 u86 u87 u88 u89 u90 u91 u92 u93 u94 u95 u96 u97 u98 u99 u100 u101 u102 u103 u104 u105 u106 u107 u108 u109 u110 u111 u112 u113 u114 u115 u116 u117 u118 u119 u120 u122 u123 u124 u125 u126 u127 u128 u129 u130 u131 u132 u133 u134 u135 u136 u137 u138 u139 u140 u141 u142 u143 u144 u145 u146 u147 u148 u149 u150 u151 u152 u153 u154 u155 u156 u157 u158 u159 u160 u161 u162 u163 u164 u165 u166 u167 u168 u169 u170 u171 u172 u173 u174 u175 u176 u177 u178 u179 u180 u181 u182 u183 u184 u185 u186 u187 u188 u189 u190 u191 u192 u193 u194 u195 u196 u197 u198 u199 u200 u201 u202 u203 u204 u205 u206 u207 u208 u209 u210 u211 u212 u213 u214 u215 u216 u217 u218 u219 u220 u221 u222 u223 u224 u225 u226 u227 u228 u229 u230 u231 u232 u233 u234 u235 u236 u237 u238 u239 u240 u241 u242 u243 u244 u245 u246 u247 u248 u249 u250 u251 u252 u253 u254 u255 u256 u257 u258 u259 u260 u261 u262 u263 u264 u265 u266 u267 u268 u269 u270 u271 u272 u273 u274 u275 u276 u277 u278 u279 u280 u281 u282 : Value) (hN : ∀ (z2 : Nat) (kl2 : Int) (lm2 : Bool) (w2 : World) (v9 x15 x16 x17 x18 x19 x20 x21 x22 x23 x24 x77 x78 x79 x80 x81 x82 x83 x84 x85 x86 x87 x88 x89 x90 x91 x92 x93 x94 x95 x96 x97 x98 x99 x100 x101 x102 x103 x104 x105 x106 x107 x108 x109 x110 x111 x112 x113 x114 x115 x116 x117 x118 x119 x120 x121 x122 x123 x124 x125 x126 x127 x128 x129 x130 x131 x132 x133 x134 x135 x136 x137 x138 x139 x140 x141 x142 x143 x144 x145 x146 x147 x148 x149 x150 x151 x152 x153 x154 x155 x156 x157 x158 x159 x160 x161 x162 x163 : Value), v9 = .int .i64 (z2 : Int) → m ≤ z2 → z2 < n → SL w h o n c w2 → kl2 < (kn : Int) → kl ≤ kl2 → (0 ≤ kl2 ∨ kl2 < lv) → skR sks K xs (z2 + 1) lv kl2 lm2 = R → NX ⟨#[u0, u1, .slice (some a) kn kc, .pointer (some ⟨w.heap.size, 0, none⟩), .pointer (some ⟨w.heap.size + 1, 0, none⟩), u5, u6, .int .i64 kl2, .int .i64 lv, v9, u10, .int .i64 (kn : Int), .bool lm2, .pointer (some ⟨w.heap.size + 2, 0, none⟩), u14, x15, x16, x17, x18, x19, x20, x21, x22, x23, x24, u25, u26, u27, u28, u29, u30, u31, u32, u33, u34, u35, u36, u37, u38, u39, u40, u41, u42, u43, u44, u45, u46, u47, u48, u49, u50, u51, u52, u53, u54, u55, u56, u57, u58, u59, u60, u61, u62, u63, u64, u65, u66, u67, u68, u69, u70, u71, u72, u73, u74, u75, u76, x77, x78, x79, x80, x81, x82, x83, x84, x85, x86, x87, x88, x89, x90, x91, x92, x93, x94, x95, x96, x97, x98, x99, x100, x101, x102, x103, x104, x105, x106, x107, x108, x109, x110, x111, x112, x113, x114, x115, x116, x117, x118, x119, x120, x121, x122, x123, x124, x125, x126, x127, x128, x129, x130, x131, x132, x133, x134, x135, x136, x137, x138, x139, x140, x141, x142, x143, x144, x145, x146, x147, x148, x149, x150, x151, x152, x153, x154, x155, x156, x157, x158, x159, x160, x161, x162, x163, u164, u165, u166, u167, u168, u169, u170, u171, u172, u173, u174, u175, u176, u177, u178, u179, u180, u181, u182, u183, u184, u185, u186, u187, u188, u189, u190, u191, u192, u193, u194, u195, u196, u197, u198, u199, u200, u201, u202, u203, u204, u205, u206, u207, u208, u209, u210, u211, u212, u213, u214, u215, u216, u217, u218, u219, u220, u221, u222, u223, u224, u225, u226, u227, u228, u229, u230, u231, u232, u233, u234, u235, u236, u237, u238, u239, u240, u241, u242, u243, u244, u245, u246, u247, u248, u249, u250, u251, u252, u253, u254, u255, u256, u257, u258, u259, u260, u261, u262, u263, u264, u265, u266, u267, u268, u269, u270, u271, u272, u273, u274, u275, u276, u277, u278, u279, u280, u281, u282], []⟩ w2) :
    Code.wp Tryd.prog code35 (KP (bodyPost Tryd.prog Tryd.f67 (SKA (-1) w) .ret) NX) ⟨#[u0, u1, .slice (some a) kn kc, .pointer (some ⟨w.heap.size, 0, none⟩), .pointer (some ⟨w.heap.size + 1, 0, none⟩), u5, u6, .int .i64 kl, .int .i64 lv, .int .i64 (z : Int), u10, .int .i64 (kn : Int), .bool lm, .pointer (some ⟨w.heap.size + 2, 0, none⟩), u14, u15, .int .i64 (b : Int), u17, v18, .int .i64 ((b : Int) + (J : Int)), u20, u21, u22, u23, u24, u25, u26, u27, u28, u29, u30, u31, u32, u33, u34, u35, u36, u37, u38, u39, u40, u41, u42, u43, u44, u45, u46, u47, u48, u49, u50, u51, u52, u53, u54, u55, u56, u57, u58, u59, u60, u61, u62, u63, u64, u65, u66, u67, u68, u69, u70, u71, u72, u73, u74, u75, u76, u77, u78, u79, u80, u81, u82, u83, u84, u85, u86, u87, u88, u89, u90, u91, u92, u93, u94, u95, u96, u97, u98, u99, u100, u101, u102, u103, u104, u105, u106, u107, u108, u109, u110, u111, u112, u113, u114, u115, u116, u117, u118, u119, u120, .bool true, u122, u123, u124, u125, u126, u127, u128, u129, u130, u131, u132, u133, u134, u135, u136, u137, u138, u139, u140, u141, u142, u143, u144, u145, u146, u147, u148, u149, u150, u151, u152, u153, u154, u155, u156, u157, u158, u159, u160, u161, u162, u163, u164, u165, u166, u167, u168, u169, u170, u171, u172, u173, u174, u175, u176, u177, u178, u179, u180, u181, u182, u183, u184, u185, u186, u187, u188, u189, u190, u191, u192, u193, u194, u195, u196, u197, u198, u199, u200, u201, u202, u203, u204, u205, u206, u207, u208, u209, u210, u211, u212, u213, u214, u215, u216, u217, u218, u219, u220, u221, u222, u223, u224, u225, u226, u227, u228, u229, u230, u231, u232, u233, u234, u235, u236, u237, u238, u239, u240, u241, u242, u243, u244, u245, u246, u247, u248, u249, u250, u251, u252, u253, u254, u255, u256, u257, u258, u259, u260, u261, u262, u263, u264, u265, u266, u267, u268, u269, u270, u271, u272, u273, u274, u275, u276, u277, u278, u279, u280, u281, u282], []⟩ wr := by
  have hd := HS.dat
  have g0 := HS.cfg.2.1
  have g1 := HS.cfg.2.2.1
  have g2 := HS.cfg.2.2.2
  have HSw := Aside0.mk HS
  have hm : m ≤ z := by omega
  have hbJn : b + J ≤ n := by omega
  have hbc : (c = b) = False := eq_false (by omega)
  have hbJ0 : (b : Int) ≤ (b : Int) + (J : Int) := by omega
  have hbJ1 : ((b : Int) + (J : Int)).toNat = b + J := by omega
  have hbJ2 : (0 : Int) ≤ (b : Int) + (J : Int) := by omega
  have hbJ3 : (b : Int) + (J : Int) ≤ (c : Int) := by omega
  clear hN
  clear hkl hka hG H hby hl HS
  conv => arg 2; whnf
  go_wp2_with fail
  show bodyPost Tryd.prog Tryd.f67 _ Exit.ret _ _
  go_ret
  exact ⟨rfl, HSw.out.below⟩
set_option maxHeartbeats 8000000 in
set_option maxRecDepth 1000000 in
theorem key_deep_f (K : List ByteArray) (a : Addr) (kn kc h o n c m z b J : Nat) (R kl lv : Int) (lm : Bool) (xs : List Int) (w wr : World) (E : Nat → Value) (hkl : K.length = kn) (hkm : kn ≤ 140737488351232) (hka : KeysAt w (some a) K) (hG : SW w E) (H : RowAt w h o xs) (hby : Bytes xs) (hl : xs.length = n) (hn : n ≤ 140737488351232) (hnc : n ≤ c) (HS : SL w h o n c wr) (hmb : m < b) (hbJ : b + J < z) (hz : z < n)  (hlv1 : 1 ≤ lv) (hlvk : ¬ lv ≤ (kn : Int)) (NX : Act → World → Prop)
    (u0 u1 u5 u6 u10 u14 u15 u17 u20 u21 u22 u23 u24 u25 u26 u27 u28 u29 u30 u31 u32 u33 u34 u35 u36 u37 u38 u39 u40 u41 u42 u43 u44 u45 u46 u47 u48 u49 u50 u51 u52 u53 u54 u55 u56 u57 u58 u59 u60 u61 u62 u63 u64 u65 u66 u67 u68 u69 u70 u71 u72 u73 u74 u75 u76 u77 u78 u79 u80 u81 u82 u83 u84 u85 u86 u87 u88 u89 u90 u91 u92 u93 u94 u95 u96 u97 u98 u99 u100 u101 u102 u103 u104 u105 u106 u107 u108 u109 u110 u111 u112 u113 u114 u115 u116 u117 u118 u119 u120 u122 u123 u124 u125 u126 u127 u128 u129 u130 u131 u132 u133 u134 u135 u136 u137 u138 u139 u140 u141 u142 u143 u144 u145 u146 u147 u148 u149 u150 u151 u152 u153 u154 u155 u156 u157 u158 u159 u160 u161 u162 u163 u164 u165 u166 u167 u168 u169 u170 u171 u172 u173 u174 u175 u176 u177 u178 u179 u180 u181 u182 u183 u184 u185 u186 u187 u188 u189 u190 u191 u192 u193 u194 u195 u196 u197 u198 u199 u200 u201 u202 u203 u204 u205 u206 u207 u208 u209 u210 u211 u212 u213 u214 u215 u216 u217 u218 u219 u220 u221 u222 u223 u224 u225 u226 u227 u228 u229 u230 u231 u232 u233 u234 u235 u236 u237 u238 u239 u240 u241 u242 u243 u244 u245 u246 u247 u248 u249 u250 u251 u252 u253 u254 u255 u256 u257 u258 u259 u260 u261 u262 u263 u264 u265 u266 u267 u268 u269 u270 u271 u272 u273 u274 u275 u276 u277 u278 u279 u280 u281 u282 : Value) (hN : ∀ (z2 : Nat) (kl2 : Int) (lm2 : Bool) (w2 : World) (v9 x15 x16 x17 x18 x19 x20 x21 x22 x23 x24 x77 x78 x79 x80 x81 x82 x83 x84 x85 x86 x87 x88 x89 x90 x91 x92 x93 x94 x95 x96 x97 x98 x99 x100 x101 x102 x103 x104 x105 x106 x107 x108 x109 x110 x111 x112 x113 x114 x115 x116 x117 x118 x119 x120 x121 x122 x123 x124 x125 x126 x127 x128 x129 x130 x131 x132 x133 x134 x135 x136 x137 x138 x139 x140 x141 x142 x143 x144 x145 x146 x147 x148 x149 x150 x151 x152 x153 x154 x155 x156 x157 x158 x159 x160 x161 x162 x163 : Value), v9 = .int .i64 (z2 : Int) → m ≤ z2 → z2 < n → SL w h o n c w2 → kl2 < (kn : Int) → kl ≤ kl2 → (0 ≤ kl2 ∨ kl2 < lv) → skR sks K xs (z2 + 1) lv kl2 lm2 = R → NX ⟨#[u0, u1, .slice (some a) kn kc, .pointer (some ⟨w.heap.size, 0, none⟩), .pointer (some ⟨w.heap.size + 1, 0, none⟩), u5, u6, .int .i64 kl2, .int .i64 lv, v9, u10, .int .i64 (kn : Int), .bool lm2, .pointer (some ⟨w.heap.size + 2, 0, none⟩), u14, x15, x16, x17, x18, x19, x20, x21, x22, x23, x24, u25, u26, u27, u28, u29, u30, u31, u32, u33, u34, u35, u36, u37, u38, u39, u40, u41, u42, u43, u44, u45, u46, u47, u48, u49, u50, u51, u52, u53, u54, u55, u56, u57, u58, u59, u60, u61, u62, u63, u64, u65, u66, u67, u68, u69, u70, u71, u72, u73, u74, u75, u76, x77, x78, x79, x80, x81, x82, x83, x84, x85, x86, x87, x88, x89, x90, x91, x92, x93, x94, x95, x96, x97, x98, x99, x100, x101, x102, x103, x104, x105, x106, x107, x108, x109, x110, x111, x112, x113, x114, x115, x116, x117, x118, x119, x120, x121, x122, x123, x124, x125, x126, x127, x128, x129, x130, x131, x132, x133, x134, x135, x136, x137, x138, x139, x140, x141, x142, x143, x144, x145, x146, x147, x148, x149, x150, x151, x152, x153, x154, x155, x156, x157, x158, x159, x160, x161, x162, x163, u164, u165, u166, u167, u168, u169, u170, u171, u172, u173, u174, u175, u176, u177, u178, u179, u180, u181, u182, u183, u184, u185, u186, u187, u188, u189, u190, u191, u192, u193, u194, u195, u196, u197, u198, u199, u200, u201, u202, u203, u204, u205, u206, u207, u208, u209, u210, u211, u212, u213, u214, u215, u216, u217, u218, u219, u220, u221, u222, u223, u224, u225, u226, u227, u228, u229, u230, u231, u232, u233, u234, u235, u236, u237, u238, u239, u240, u241, u242, u243, u244, u245, u246, u247, u248, u249, u250, u251, u252, u253, u254, u255, u256, u257, u258, u259, u260, u261, u262, u263, u264, u265, u266, u267, u268, u269, u270, u271, u272, u273, u274, u275, u276, u277, u278, u279, u280, u281, u282], []⟩ w2) :
    Code.wp Tryd.prog code35 (KP (bodyPost Tryd.prog Tryd.f67 (SKA (-1) w) .ret) NX) ⟨#[u0, u1, .slice (some a) kn kc, .pointer (some ⟨w.heap.size, 0, none⟩), .pointer (some ⟨w.heap.size + 1, 0, none⟩), u5, u6, .int .i64 kl, .int .i64 lv, .int .i64 (z : Int), u10, .int .i64 (kn : Int), .bool lm, .pointer (some ⟨w.heap.size + 2, 0, none⟩), u14, u15, .int .i64 (b : Int), u17, .bool false, .int .i64 ((b : Int) + (J : Int)), u20, u21, u22, u23, u24, u25, u26, u27, u28, u29, u30, u31, u32, u33, u34, u35, u36, u37, u38, u39, u40, u41, u42, u43, u44, u45, u46, u47, u48, u49, u50, u51, u52, u53, u54, u55, u56, u57, u58, u59, u60, u61, u62, u63, u64, u65, u66, u67, u68, u69, u70, u71, u72, u73, u74, u75, u76, u77, u78, u79, u80, u81, u82, u83, u84, u85, u86, u87, u88, u89, u90, u91, u92, u93, u94, u95, u96, u97, u98, u99, u100, u101, u102, u103, u104, u105, u106, u107, u108, u109, u110, u111, u112, u113, u114, u115, u116, u117, u118, u119, u120, .bool true, u122, u123, u124, u125, u126, u127, u128, u129, u130, u131, u132, u133, u134, u135, u136, u137, u138, u139, u140, u141, u142, u143, u144, u145, u146, u147, u148, u149, u150, u151, u152, u153, u154, u155, u156, u157, u158, u159, u160, u161, u162, u163, u164, u165, u166, u167, u168, u169, u170, u171, u172, u173, u174, u175, u176, u177, u178, u179, u180, u181, u182, u183, u184, u185, u186, u187, u188, u189, u190, u191, u192, u193, u194, u195, u196, u197, u198, u199, u200, u201, u202, u203, u204, u205, u206, u207, u208, u209, u210, u211, u212, u213, u214, u215, u216, u217, u218, u219, u220, u221, u222, u223, u224, u225, u226, u227, u228, u229, u230, u231, u232, u233, u234, u235, u236, u237, u238, u239, u240, u241, u242, u243, u244, u245, u246, u247, u248, u249, u250, u251, u252, u253, u254, u255, u256, u257, u258, u259, u260, u261, u262, u263, u264, u265, u266, u267, u268, u269, u270, u271, u272, u273, u274, u275, u276, u277, u278, u279, u280, u281, u282], []⟩ wr := by
  have hd := HS.dat
  have g0 := HS.cfg.2.1
  have g1 := HS.cfg.2.2.1
  have g2 := HS.cfg.2.2.2
  have HSw := Aside0.mk HS
  have hm : m ≤ z := by omega
  have hbJn : b + J ≤ n := by omega
  have hbc : (c = b) = False := eq_false (by omega)
  have hbJ0 : (b : Int) ≤ (b : Int) + (J : Int) := by omega
  have hbJ1 : ((b : Int) + (J : Int)).toNat = b + J := by omega
  have hbJ2 : (0 : Int) ≤ (b : Int) + (J : Int) := by omega
  have hbJ3 : (b : Int) + (J : Int) ≤ (c : Int) := by omega
  clear hN
  have hkl := Aside0.mk hkl
  have hka := Aside0.mk hka
  have hby := Aside0.mk hby
  have H := Aside0.mk H
  have hl := Aside0.mk hl
  have KS := Aside0.mk (ku_start (C := c - b) HSw.out H.out hby.out hl.out hbJn)
  clear hG HS
  conv => arg 2; whnf
  go_wp2_with fail
  show bodyPost Tryd.prog Tryd.f67 _ Exit.ret _ _
  go_ret
  exact ⟨rfl, KS.out.sl.below⟩
set_option maxHeartbeats 8000000 in
set_option maxRecDepth 1000000 in
theorem key_other_f (K : List ByteArray) (a : Addr) (kn kc h o n c m z b J : Nat) (R kl : Int) (q : Nat) (lm : Bool) (xs : List Int) (w wr : World) (E : Nat → Value) (hkl : K.length = kn) (hkm : kn ≤ 140737488351232) (hka : KeysAt w (some a) K) (hG : SW w E) (H : RowAt w h o xs) (hby : Bytes xs) (hl : xs.length = n) (hn : n ≤ 140737488351232) (hnc : n ≤ c) (HS : SL w h o n c wr) (hmb : m < b) (hbJ : b + J < z) (hz : z < n)  (hq : q < kn) (hkn : kl < (kn : Int)) (hP : 0 ≤ kl ∨ kl < (q : Int) + 1) (hku : ((xs.drop b).take J) ≠ bytesOf (K.getD q ByteArray.empty)) (hR : skR sks K xs (z + 1) ((q : Int) + 1) kl false = R) (NX : Act → World → Prop)
    (u0 u1 u5 u6 u10 u14 u15 u17 u20 u21 u22 u23 u24 u25 u26 u27 u28 u29 u30 u31 u32 u33 u34 u35 u36 u37 u38 u39 u40 u41 u42 u43 u44 u45 u46 u47 u48 u49 u50 u51 u52 u53 u54 u55 u56 u57 u58 u59 u60 u61 u62 u63 u64 u65 u66 u67 u68 u69 u70 u71 u72 u73 u74 u75 u76 u77 u78 u79 u80 u81 u82 u83 u84 u85 u86 u87 u88 u89 u90 u91 u92 u93 u94 u95 u96 u97 u98 u99 u100 u101 u102 u103 u104 u105 u106 u107 u108 u109 u110 u111 u112 u113 u114 u115 u116 u117 u118 u119 u120 u122 u123 u124 u125 u126 u127 u128 u129 u130 u131 u132 u133 u134 u135 u136 u137 u138 u139 u140 u141 u142 u143 u144 u145 u146 u147 u148 u149 u150 u151 u152 u153 u154 u155 u156 u157 u158 u159 u160 u161 u162 u163 u164 u165 u166 u167 u168 u169 u170 u171 u172 u173 u174 u175 u176 u177 u178 u179 u180 u181 u182 u183 u184 u185 u186 u187 u188 u189 u190 u191 u192 u193 u194 u195 u196 u197 u198 u199 u200 u201 u202 u203 u204 u205 u206 u207 u208 u209 u210 u211 u212 u213 u214 u215 u216 u217 u218 u219 u220 u221 u222 u223 u224 u225 u226 u227 u228 u229 u230 u231 u232 u233 u234 u235 u236 u237 u238 u239 u240 u241 u242 u243 u244 u245 u246 u247 u248 u249 u250 u251 u252 u253 u254 u255 u256 u257 u258 u259 u260 u261 u262 u263 u264 u265 u266 u267 u268 u269 u270 u271 u272 u273 u274 u275 u276 u277 u278 u279 u280 u281 u282 : Value) (hN : ∀ (z2 : Nat) (kl2 : Int) (lm2 : Bool) (w2 : World) (v9 x15 x16 x17 x18 x19 x20 x21 x22 x23 x24 x77 x78 x79 x80 x81 x82 x83 x84 x85 x86 x87 x88 x89 x90 x91 x92 x93 x94 x95 x96 x97 x98 x99 x100 x101 x102 x103 x104 x105 x106 x107 x108 x109 x110 x111 x112 x113 x114 x115 x116 x117 x118 x119 x120 x121 x122 x123 x124 x125 x126 x127 x128 x129 x130 x131 x132 x133 x134 x135 x136 x137 x138 x139 x140 x141 x142 x143 x144 x145 x146 x147 x148 x149 x150 x151 x152 x153 x154 x155 x156 x157 x158 x159 x160 x161 x162 x163 : Value), v9 = .int .i64 (z2 : Int) → m ≤ z2 → z2 < n → SL w h o n c w2 → kl2 < (kn : Int) → kl ≤ kl2 → (0 ≤ kl2 ∨ kl2 < (q : Int) + 1) → skR sks K xs (z2 + 1) ((q : Int) + 1) kl2 lm2 = R → NX ⟨#[u0, u1, .slice (some a) kn kc, .pointer (some ⟨w.heap.size, 0, none⟩), .pointer (some ⟨w.heap.size + 1, 0, none⟩), u5, u6, .int .i64 kl2, .int .i64 ((q : Int) + 1), v9, u10, .int .i64 (kn : Int), .bool lm2, .pointer (some ⟨w.heap.size + 2, 0, none⟩), u14, x15, x16, x17, x18, x19, x20, x21, x22, x23, x24, u25, u26, u27, u28, u29, u30, u31, u32, u33, u34, u35, u36, u37, u38, u39, u40, u41, u42, u43, u44, u45, u46, u47, u48, u49, u50, u51, u52, u53, u54, u55, u56, u57, u58, u59, u60, u61, u62, u63, u64, u65, u66, u67, u68, u69, u70, u71, u72, u73, u74, u75, u76, x77, x78, x79, x80, x81, x82, x83, x84, x85, x86, x87, x88, x89, x90, x91, x92, x93, x94, x95, x96, x97, x98, x99, x100, x101, x102, x103, x104, x105, x106, x107, x108, x109, x110, x111, x112, x113, x114, x115, x116, x117, x118, x119, x120, x121, x122, x123, x124, x125, x126, x127, x128, x129, x130, x131, x132, x133, x134, x135, x136, x137, x138, x139, x140, x141, x142, x143, x144, x145, x146, x147, x148, x149, x150, x151, x152, x153, x154, x155, x156, x157, x158, x159, x160, x161, x162, x163, u164, u165, u166, u167, u168, u169, u170, u171, u172, u173, u174, u175, u176, u177, u178, u179, u180, u181, u182, u183, u184, u185, u186, u187, u188, u189, u190, u191, u192, u193, u194, u195, u196, u197, u198, u199, u200, u201, u202, u203, u204, u205, u206, u207, u208, u209, u210, u211, u212, u213, u214, u215, u216, u217, u218, u219, u220, u221, u222, u223, u224, u225, u226, u227, u228, u229, u230, u231, u232, u233, u234, u235, u236, u237, u238, u239, u240, u241, u242, u243, u244, u245, u246, u247, u248, u249, u250, u251, u252, u253, u254, u255, u256, u257, u258, u259, u260, u261, u262, u263, u264, u265, u266, u267, u268, u269, u270, u271, u272, u273, u274, u275, u276, u277, u278, u279, u280, u281, u282], []⟩ w2) :
    Code.wp Tryd.prog code35 (KP (bodyPost Tryd.prog Tryd.f67 (SKA R w) .ret) NX) ⟨#[u0, u1, .slice (some a) kn kc, .pointer (some ⟨w.heap.size, 0, none⟩), .pointer (some ⟨w.heap.size + 1, 0, none⟩), u5, u6, .int .i64 kl, .int .i64 ((q : Int) + 1), .int .i64 (z : Int), u10, .int .i64 (kn : Int), .bool lm, .pointer (some ⟨w.heap.size + 2, 0, none⟩), u14, u15, .int .i64 (b : Int), u17, .bool false, .int .i64 ((b : Int) + (J : Int)), u20, u21, u22, u23, u24, u25, u26, u27, u28, u29, u30, u31, u32, u33, u34, u35, u36, u37, u38, u39, u40, u41, u42, u43, u44, u45, u46, u47, u48, u49, u50, u51, u52, u53, u54, u55, u56, u57, u58, u59, u60, u61, u62, u63, u64, u65, u66, u67, u68, u69, u70, u71, u72, u73, u74, u75, u76, u77, u78, u79, u80, u81, u82, u83, u84, u85, u86, u87, u88, u89, u90, u91, u92, u93, u94, u95, u96, u97, u98, u99, u100, u101, u102, u103, u104, u105, u106, u107, u108, u109, u110, u111, u112, u113, u114, u115, u116, u117, u118, u119, u120, .bool true, u122, u123, u124, u125, u126, u127, u128, u129, u130, u131, u132, u133, u134, u135, u136, u137, u138, u139, u140, u141, u142, u143, u144, u145, u146, u147, u148, u149, u150, u151, u152, u153, u154, u155, u156, u157, u158, u159, u160, u161, u162, u163, u164, u165, u166, u167, u168, u169, u170, u171, u172, u173, u174, u175, u176, u177, u178, u179, u180, u181, u182, u183, u184, u185, u186, u187, u188, u189, u190, u191, u192, u193, u194, u195, u196, u197, u198, u199, u200, u201, u202, u203, u204, u205, u206, u207, u208, u209, u210, u211, u212, u213, u214, u215, u216, u217, u218, u219, u220, u221, u222, u223, u224, u225, u226, u227, u228, u229, u230, u231, u232, u233, u234, u235, u236, u237, u238, u239, u240, u241, u242, u243, u244, u245, u246, u247, u248, u249, u250, u251, u252, u253, u254, u255, u256, u257, u258, u259, u260, u261, u262, u263, u264, u265, u266, u267, u268, u269, u270, u271, u272, u273, u274, u275, u276, u277, u278, u279, u280, u281, u282], []⟩ wr := by
  have hd := HS.dat
  have g0 := HS.cfg.2.1
  have g1 := HS.cfg.2.2.1
  have g2 := HS.cfg.2.2.2
  have HSw := Aside0.mk HS
  have hm : m ≤ z := by omega
  have hbJn : b + J ≤ n := by omega
  have hbc : (c = b) = False := eq_false (by omega)
  have hbJ0 : (b : Int) ≤ (b : Int) + (J : Int) := by omega
  have hbJ1 : ((b : Int) + (J : Int)).toNat = b + J := by omega
  have hbJ2 : (0 : Int) ≤ (b : Int) + (J : Int) := by omega
  have hbJ3 : (b : Int) + (J : Int) ≤ (c : Int) := by omega
  replace hN := Aside0.mk hN
  replace hku := Aside0.mk hku
  replace hR := Aside0.mk hR
  replace hP := Aside0.mk hP
  have hq1 : ¬ (q : Int) + 1 < 1 := by omega
  have hqk : (q : Int) + 1 ≤ (kn : Int) := by omega
  have hkl := Aside0.mk hkl
  have hka := Aside0.mk hka
  have hby := Aside0.mk hby
  have H := Aside0.mk H
  have hl := Aside0.mk hl
  have KS := Aside0.mk (ku_start (C := c - b) HSw.out H.out hby.out hl.out hbJn)
  clear hG HS
  conv => arg 2; whnf
  go_upto_if 144 with fail
  refine Code.wp_mono (fun e a w h => ?_) (cmp_other K a kn kc h o n c m z q wr.heap.size h (o + b) J (c - b) R kl ((q : Int) + 1) lm xs ((xs.drop b).take J) w _ hkl.out hkm hka.out hn KS.out hm hz rfl hq hku.out hkn hP.out hR.out NX _ _ _ _ _ _ _ _ _ _ _ _ _ _ _ _ _ _ _ _ _ _ _ _ _ _ _ _ _ _ _ _ _ _ _ _ _ _ _ _ _ _ _ _ _ _ _ _ _ _ _ _ _ _ _ _ _ _ _ _ _ _ _ _ _ _ _ _ _ _ _ _ _ _ _ _ _ _ _ _ _ _ _ _ _ _ _ _ _ _ _ _ _ _ _ _ _ _ _ _ _ _ _ _ _ _ _ _ _ _ _ _ _ _ _ _ _ _ _ _ _ _ _ _ _ _ _ _ _ _ _ _ _ _ _ _ _ _ _ _ _ _ _ _ _ _ _ _ _ _ _ _ _ _ _ _ _ _ _ _ _ _ _ _ _ _ _ _ _ _ _ _ _ _ _ _ _ _ _ _ _ _ _ _ _ _ _ _ _ _ _ _ _ _ _ _ _ _ _ _ _ _ _ _ _ _ _ _ _ _ _ _ _ _ _ _ _ _ _ _ _ _ _ _ _ _ _ _ _ _ _ _ _ _ _ _ _ _ _ _ _ _ _ _ _ _ _ _ _ _ _ _ _ _ _ _ _ _ _ _ _ _ _ _ _ _ _ _ _ _ _ _ _ _ _ hN.out)
  cases e <;> first | exact h | exact h.elim
set_option maxHeartbeats 8000000 in
set_option maxRecDepth 1000000 in
theorem key_same_f (K : List ByteArray) (a : Addr) (kn kc h o n c m z b J : Nat) (R kl : Int) (q : Nat) (lm : Bool) (xs : List Int) (w wr : World) (E : Nat → Value) (hkl : K.length = kn) (hkm : kn ≤ 140737488351232) (hka : KeysAt w (some a) K) (hG : SW w E) (H : RowAt w h o xs) (hby : Bytes xs) (hl : xs.length = n) (hn : n ≤ 140737488351232) (hnc : n ≤ c) (HS : SL w h o n c wr) (hmb : m < b) (hbJ : b + J < z) (hz : z < n)  (hq : q < kn) (hkn : kl < (kn : Int)) (hP : 0 ≤ kl ∨ kl < (q : Int) + 1) (hku : ((xs.drop b).take J) = bytesOf (K.getD q ByteArray.empty)) (hne : kl ≠ (q : Int)) (hR : skR sks K xs (z + 1) ((q : Int) + 1) kl true = R) (NX : Act → World → Prop)
    (u0 u1 u5 u6 u10 u14 u15 u17 u20 u21 u22 u23 u24 u25 u26 u27 u28 u29 u30 u31 u32 u33 u34 u35 u36 u37 u38 u39 u40 u41 u42 u43 u44 u45 u46 u47 u48 u49 u50 u51 u52 u53 u54 u55 u56 u57 u58 u59 u60 u61 u62 u63 u64 u65 u66 u67 u68 u69 u70 u71 u72 u73 u74 u75 u76 u77 u78 u79 u80 u81 u82 u83 u84 u85 u86 u87 u88 u89 u90 u91 u92 u93 u94 u95 u96 u97 u98 u99 u100 u101 u102 u103 u104 u105 u106 u107 u108 u109 u110 u111 u112 u113 u114 u115 u116 u117 u118 u119 u120 u122 u123 u124 u125 u126 u127 u128 u129 u130 u131 u132 u133 u134 u135 u136 u137 u138 u139 u140 u141 u142 u143 u144 u145 u146 u147 u148 u149 u150 u151 u152 u153 u154 u155 u156 u157 u158 u159 u160 u161 u162 u163 u164 u165 u166 u167 u168 u169 u170 u171 u172 u173 u174 u175 u176 u177 u178 u179 u180 u181 u182 u183 u184 u185 u186 u187 u188 u189 u190 u191 u192 u193 u194 u195 u196 u197 u198 u199 u200 u201 u202 u203 u204 u205 u206 u207 u208 u209 u210 u211 u212 u213 u214 u215 u216 u217 u218 u219 u220 u221 u222 u223 u224 u225 u226 u227 u228 u229 u230 u231 u232 u233 u234 u235 u236 u237 u238 u239 u240 u241 u242 u243 u244 u245 u246 u247 u248 u249 u250 u251 u252 u253 u254 u255 u256 u257 u258 u259 u260 u261 u262 u263 u264 u265 u266 u267 u268 u269 u270 u271 u272 u273 u274 u275 u276 u277 u278 u279 u280 u281 u282 : Value) (hN : ∀ (z2 : Nat) (kl2 : Int) (lm2 : Bool) (w2 : World) (v9 x15 x16 x17 x18 x19 x20 x21 x22 x23 x24 x77 x78 x79 x80 x81 x82 x83 x84 x85 x86 x87 x88 x89 x90 x91 x92 x93 x94 x95 x96 x97 x98 x99 x100 x101 x102 x103 x104 x105 x106 x107 x108 x109 x110 x111 x112 x113 x114 x115 x116 x117 x118 x119 x120 x121 x122 x123 x124 x125 x126 x127 x128 x129 x130 x131 x132 x133 x134 x135 x136 x137 x138 x139 x140 x141 x142 x143 x144 x145 x146 x147 x148 x149 x150 x151 x152 x153 x154 x155 x156 x157 x158 x159 x160 x161 x162 x163 : Value), v9 = .int .i64 (z2 : Int) → m ≤ z2 → z2 < n → SL w h o n c w2 → kl2 < (kn : Int) → kl ≤ kl2 → (0 ≤ kl2 ∨ kl2 < (q : Int) + 1) → skR sks K xs (z2 + 1) ((q : Int) + 1) kl2 lm2 = R → NX ⟨#[u0, u1, .slice (some a) kn kc, .pointer (some ⟨w.heap.size, 0, none⟩), .pointer (some ⟨w.heap.size + 1, 0, none⟩), u5, u6, .int .i64 kl2, .int .i64 ((q : Int) + 1), v9, u10, .int .i64 (kn : Int), .bool lm2, .pointer (some ⟨w.heap.size + 2, 0, none⟩), u14, x15, x16, x17, x18, x19, x20, x21, x22, x23, x24, u25, u26, u27, u28, u29, u30, u31, u32, u33, u34, u35, u36, u37, u38, u39, u40, u41, u42, u43, u44, u45, u46, u47, u48, u49, u50, u51, u52, u53, u54, u55, u56, u57, u58, u59, u60, u61, u62, u63, u64, u65, u66, u67, u68, u69, u70, u71, u72, u73, u74, u75, u76, x77, x78, x79, x80, x81, x82, x83, x84, x85, x86, x87, x88, x89, x90, x91, x92, x93, x94, x95, x96, x97, x98, x99, x100, x101, x102, x103, x104, x105, x106, x107, x108, x109, x110, x111, x112, x113, x114, x115, x116, x117, x118, x119, x120, x121, x122, x123, x124, x125, x126, x127, x128, x129, x130, x131, x132, x133, x134, x135, x136, x137, x138, x139, x140, x141, x142, x143, x144, x145, x146, x147, x148, x149, x150, x151, x152, x153, x154, x155, x156, x157, x158, x159, x160, x161, x162, x163, u164, u165, u166, u167, u168, u169, u170, u171, u172, u173, u174, u175, u176, u177, u178, u179, u180, u181, u182, u183, u184, u185, u186, u187, u188, u189, u190, u191, u192, u193, u194, u195, u196, u197, u198, u199, u200, u201, u202, u203, u204, u205, u206, u207, u208, u209, u210, u211, u212, u213, u214, u215, u216, u217, u218, u219, u220, u221, u222, u223, u224, u225, u226, u227, u228, u229, u230, u231, u232, u233, u234, u235, u236, u237, u238, u239, u240, u241, u242, u243, u244, u245, u246, u247, u248, u249, u250, u251, u252, u253, u254, u255, u256, u257, u258, u259, u260, u261, u262, u263, u264, u265, u266, u267, u268, u269, u270, u271, u272, u273, u274, u275, u276, u277, u278, u279, u280, u281, u282], []⟩ w2) :
    Code.wp Tryd.prog code35 (KP (bodyPost Tryd.prog Tryd.f67 (SKA R w) .ret) NX) ⟨#[u0, u1, .slice (some a) kn kc, .pointer (some ⟨w.heap.size, 0, none⟩), .pointer (some ⟨w.heap.size + 1, 0, none⟩), u5, u6, .int .i64 kl, .int .i64 ((q : Int) + 1), .int .i64 (z : Int), u10, .int .i64 (kn : Int), .bool lm, .pointer (some ⟨w.heap.size + 2, 0, none⟩), u14, u15, .int .i64 (b : Int), u17, .bool false, .int .i64 ((b : Int) + (J : Int)), u20, u21, u22, u23, u24, u25, u26, u27, u28, u29, u30, u31, u32, u33, u34, u35, u36, u37, u38, u39, u40, u41, u42, u43, u44, u45, u46, u47, u48, u49, u50, u51, u52, u53, u54, u55, u56, u57, u58, u59, u60, u61, u62, u63, u64, u65, u66, u67, u68, u69, u70, u71, u72, u73, u74, u75, u76, u77, u78, u79, u80, u81, u82, u83, u84, u85, u86, u87, u88, u89, u90, u91, u92, u93, u94, u95, u96, u97, u98, u99, u100, u101, u102, u103, u104, u105, u106, u107, u108, u109, u110, u111, u112, u113, u114, u115, u116, u117, u118, u119, u120, .bool true, u122, u123, u124, u125, u126, u127, u128, u129, u130, u131, u132, u133, u134, u135, u136, u137, u138, u139, u140, u141, u142, u143, u144, u145, u146, u147, u148, u149, u150, u151, u152, u153, u154, u155, u156, u157, u158, u159, u160, u161, u162, u163, u164, u165, u166, u167, u168, u169, u170, u171, u172, u173, u174, u175, u176, u177, u178, u179, u180, u181, u182, u183, u184, u185, u186, u187, u188, u189, u190, u191, u192, u193, u194, u195, u196, u197, u198, u199, u200, u201, u202, u203, u204, u205, u206, u207, u208, u209, u210, u211, u212, u213, u214, u215, u216, u217, u218, u219, u220, u221, u222, u223, u224, u225, u226, u227, u228, u229, u230, u231, u232, u233, u234, u235, u236, u237, u238, u239, u240, u241, u242, u243, u244, u245, u246, u247, u248, u249, u250, u251, u252, u253, u254, u255, u256, u257, u258, u259, u260, u261, u262, u263, u264, u265, u266, u267, u268, u269, u270, u271, u272, u273, u274, u275, u276, u277, u278, u279, u280, u281, u282], []⟩ wr := by
  have hd := HS.dat
  have g0 := HS.cfg.2.1
  have g1 := HS.cfg.2.2.1
  have g2 := HS.cfg.2.2.2
  have HSw := Aside0.mk HS
  have hm : m ≤ z := by omega
  have hbJn : b + J ≤ n := by omega
  have hbc : (c = b) = False := eq_false (by omega)
  have hbJ0 : (b : Int) ≤ (b : Int) + (J : Int) := by omega
  have hbJ1 : ((b : Int) + (J : Int)).toNat = b + J := by omega
  have hbJ2 : (0 : Int) ≤ (b : Int) + (J : Int) := by omega
  have hbJ3 : (b : Int) + (J : Int) ≤ (c : Int) := by omega
  replace hN := Aside0.mk hN
  replace hku := Aside0.mk hku
  replace hR := Aside0.mk hR
  replace hP := Aside0.mk hP
  have hq1 : ¬ (q : Int) + 1 < 1 := by omega
  have hqk : (q : Int) + 1 ≤ (kn : Int) := by omega
  have hkl := Aside0.mk hkl
  have hka := Aside0.mk hka
  have hby := Aside0.mk hby
  have H := Aside0.mk H
  have hl := Aside0.mk hl
  have KS := Aside0.mk (ku_start (C := c - b) HSw.out H.out hby.out hl.out hbJn)
  clear hG HS
  conv => arg 2; whnf
  go_upto_if 144 with fail
  refine Code.wp_mono (fun e a w h => ?_) (cmp_same K a kn kc h o n c m z q wr.heap.size h (o + b) J (c - b) R kl ((q : Int) + 1) lm xs ((xs.drop b).take J) w _ hkl.out hkm hka.out hn KS.out hm hz rfl hq hku.out hkn hP.out hne hR.out NX _ _ _ _ _ _ _ _ _ _ _ _ _ _ _ _ _ _ _ _ _ _ _ _ _ _ _ _ _ _ _ _ _ _ _ _ _ _ _ _ _ _ _ _ _ _ _ _ _ _ _ _ _ _ _ _ _ _ _ _ _ _ _ _ _ _ _ _ _ _ _ _ _ _ _ _ _ _ _ _ _ _ _ _ _ _ _ _ _ _ _ _ _ _ _ _ _ _ _ _ _ _ _ _ _ _ _ _ _ _ _ _ _ _ _ _ _ _ _ _ _ _ _ _ _ _ _ _ _ _ _ _ _ _ _ _ _ _ _ _ _ _ _ _ _ _ _ _ _ _ _ _ _ _ _ _ _ _ _ _ _ _ _ _ _ _ _ _ _ _ _ _ _ _ _ _ _ _ _ _ _ _ _ _ _ _ _ _ _ _ _ _ _ _ _ _ _ _ _ _ _ _ _ _ _ _ _ _ _ _ _ _ _ _ _ _ _ _ _ _ _ _ _ _ _ _ _ _ _ _ _ _ _ _ _ _ _ _ _ _ _ _ _ _ _ _ _ _ _ _ _ _ _ _ _ _ _ _ _ _ _ _ _ _ _ _ _ _ _ _ _ _ _ _ _ hN.out)
  cases e <;> first | exact h | exact h.elim
set_option maxHeartbeats 8000000 in
set_option maxRecDepth 1000000 in
theorem key_next_f (K : List ByteArray) (a : Addr) (kn kc h o n c m z b J : Nat) (R : Int) (q : Nat) (lm : Bool) (xs : List Int) (w wr : World) (E : Nat → Value) (hkl : K.length = kn) (hkm : kn ≤ 140737488351232) (hka : KeysAt w (some a) K) (hG : SW w E) (H : RowAt w h o xs) (hby : Bytes xs) (hl : xs.length = n) (hn : n ≤ 140737488351232) (hnc : n ≤ c) (HS : SL w h o n c wr) (hmb : m < b) (hbJ : b + J < z) (hz : z < n)  (hq : q < kn) (hku : ((xs.drop b).take J) = bytesOf (K.getD q ByteArray.empty)) (hnl : (q : Int) + 1 ≠ (kn : Int)) (hR : skR sks K xs (z + 1) ((q : Int) + 1) ((q : Int) + 1) true = R) (NX : Act → World → Prop)
    (u0 u1 u5 u6 u10 u14 u15 u17 u20 u21 u22 u23 u24 u25 u26 u27 u28 u29 u30 u31 u32 u33 u34 u35 u36 u37 u38 u39 u40 u41 u42 u43 u44 u45 u46 u47 u48 u49 u50 u51 u52 u53 u54 u55 u56 u57 u58 u59 u60 u61 u62 u63 u64 u65 u66 u67 u68 u69 u70 u71 u72 u73 u74 u75 u76 u77 u78 u79 u80 u81 u82 u83 u84 u85 u86 u87 u88 u89 u90 u91 u92 u93 u94 u95 u96 u97 u98 u99 u100 u101 u102 u103 u104 u105 u106 u107 u108 u109 u110 u111 u112 u113 u114 u115 u116 u117 u118 u119 u120 u122 u123 u124 u125 u126 u127 u128 u129 u130 u131 u132 u133 u134 u135 u136 u137 u138 u139 u140 u141 u142 u143 u144 u145 u146 u147 u148 u149 u150 u151 u152 u153 u154 u155 u156 u157 u158 u159 u160 u161 u162 u163 u164 u165 u166 u167 u168 u169 u170 u171 u172 u173 u174 u175 u176 u177 u178 u179 u180 u181 u182 u183 u184 u185 u186 u187 u188 u189 u190 u191 u192 u193 u194 u195 u196 u197 u198 u199 u200 u201 u202 u203 u204 u205 u206 u207 u208 u209 u210 u211 u212 u213 u214 u215 u216 u217 u218 u219 u220 u221 u222 u223 u224 u225 u226 u227 u228 u229 u230 u231 u232 u233 u234 u235 u236 u237 u238 u239 u240 u241 u242 u243 u244 u245 u246 u247 u248 u249 u250 u251 u252 u253 u254 u255 u256 u257 u258 u259 u260 u261 u262 u263 u264 u265 u266 u267 u268 u269 u270 u271 u272 u273 u274 u275 u276 u277 u278 u279 u280 u281 u282 : Value) (hN : ∀ (z2 : Nat) (kl2 : Int) (lm2 : Bool) (w2 : World) (v9 x15 x16 x17 x18 x19 x20 x21 x22 x23 x24 x77 x78 x79 x80 x81 x82 x83 x84 x85 x86 x87 x88 x89 x90 x91 x92 x93 x94 x95 x96 x97 x98 x99 x100 x101 x102 x103 x104 x105 x106 x107 x108 x109 x110 x111 x112 x113 x114 x115 x116 x117 x118 x119 x120 x121 x122 x123 x124 x125 x126 x127 x128 x129 x130 x131 x132 x133 x134 x135 x136 x137 x138 x139 x140 x141 x142 x143 x144 x145 x146 x147 x148 x149 x150 x151 x152 x153 x154 x155 x156 x157 x158 x159 x160 x161 x162 x163 : Value), v9 = .int .i64 (z2 : Int) → m ≤ z2 → z2 < n → SL w h o n c w2 → kl2 < (kn : Int) → (q : Int) ≤ kl2 → (0 ≤ kl2 ∨ kl2 < (q : Int) + 1) → skR sks K xs (z2 + 1) ((q : Int) + 1) kl2 lm2 = R → NX ⟨#[u0, u1, .slice (some a) kn kc, .pointer (some ⟨w.heap.size, 0, none⟩), .pointer (some ⟨w.heap.size + 1, 0, none⟩), u5, u6, .int .i64 kl2, .int .i64 ((q : Int) + 1), v9, u10, .int .i64 (kn : Int), .bool lm2, .pointer (some ⟨w.heap.size + 2, 0, none⟩), u14, x15, x16, x17, x18, x19, x20, x21, x22, x23, x24, u25, u26, u27, u28, u29, u30, u31, u32, u33, u34, u35, u36, u37, u38, u39, u40, u41, u42, u43, u44, u45, u46, u47, u48, u49, u50, u51, u52, u53, u54, u55, u56, u57, u58, u59, u60, u61, u62, u63, u64, u65, u66, u67, u68, u69, u70, u71, u72, u73, u74, u75, u76, x77, x78, x79, x80, x81, x82, x83, x84, x85, x86, x87, x88, x89, x90, x91, x92, x93, x94, x95, x96, x97, x98, x99, x100, x101, x102, x103, x104, x105, x106, x107, x108, x109, x110, x111, x112, x113, x114, x115, x116, x117, x118, x119, x120, x121, x122, x123, x124, x125, x126, x127, x128, x129, x130, x131, x132, x133, x134, x135, x136, x137, x138, x139, x140, x141, x142, x143, x144, x145, x146, x147, x148, x149, x150, x151, x152, x153, x154, x155, x156, x157, x158, x159, x160, x161, x162, x163, u164, u165, u166, u167, u168, u169, u170, u171, u172, u173, u174, u175, u176, u177, u178, u179, u180, u181, u182, u183, u184, u185, u186, u187, u188, u189, u190, u191, u192, u193, u194, u195, u196, u197, u198, u199, u200, u201, u202, u203, u204, u205, u206, u207, u208, u209, u210, u211, u212, u213, u214, u215, u216, u217, u218, u219, u220, u221, u222, u223, u224, u225, u226, u227, u228, u229, u230, u231, u232, u233, u234, u235, u236, u237, u238, u239, u240, u241, u242, u243, u244, u245, u246, u247, u248, u249, u250, u251, u252, u253, u254, u255, u256, u257, u258, u259, u260, u261, u262, u263, u264, u265, u266, u267, u268, u269, u270, u271, u272, u273, u274, u275, u276, u277, u278, u279, u280, u281, u282], []⟩ w2) :
    Code.wp Tryd.prog code35 (KP (bodyPost Tryd.prog Tryd.f67 (SKA R w) .ret) NX) ⟨#[u0, u1, .slice (some a) kn kc, .pointer (some ⟨w.heap.size, 0, none⟩), .pointer (some ⟨w.heap.size + 1, 0, none⟩), u5, u6, .int .i64 (q : Int), .int .i64 ((q : Int) + 1), .int .i64 (z : Int), u10, .int .i64 (kn : Int), .bool lm, .pointer (some ⟨w.heap.size + 2, 0, none⟩), u14, u15, .int .i64 (b : Int), u17, .bool false, .int .i64 ((b : Int) + (J : Int)), u20, u21, u22, u23, u24, u25, u26, u27, u28, u29, u30, u31, u32, u33, u34, u35, u36, u37, u38, u39, u40, u41, u42, u43, u44, u45, u46, u47, u48, u49, u50, u51, u52, u53, u54, u55, u56, u57, u58, u59, u60, u61, u62, u63, u64, u65, u66, u67, u68, u69, u70, u71, u72, u73, u74, u75, u76, u77, u78, u79, u80, u81, u82, u83, u84, u85, u86, u87, u88, u89, u90, u91, u92, u93, u94, u95, u96, u97, u98, u99, u100, u101, u102, u103, u104, u105, u106, u107, u108, u109, u110, u111, u112, u113, u114, u115, u116, u117, u118, u119, u120, .bool true, u122, u123, u124, u125, u126, u127, u128, u129, u130, u131, u132, u133, u134, u135, u136, u137, u138, u139, u140, u141, u142, u143, u144, u145, u146, u147, u148, u149, u150, u151, u152, u153, u154, u155, u156, u157, u158, u159, u160, u161, u162, u163, u164, u165, u166, u167, u168, u169, u170, u171, u172, u173, u174, u175, u176, u177, u178, u179, u180, u181, u182, u183, u184, u185, u186, u187, u188, u189, u190, u191, u192, u193, u194, u195, u196, u197, u198, u199, u200, u201, u202, u203, u204, u205, u206, u207, u208, u209, u210, u211, u212, u213, u214, u215, u216, u217, u218, u219, u220, u221, u222, u223, u224, u225, u226, u227, u228, u229, u230, u231, u232, u233, u234, u235, u236, u237, u238, u239, u240, u241, u242, u243, u244, u245, u246, u247, u248, u249, u250, u251, u252, u253, u254, u255, u256, u257, u258, u259, u260, u261, u262, u263, u264, u265, u266, u267, u268, u269, u270, u271, u272, u273, u274, u275, u276, u277, u278, u279, u280, u281, u282], []⟩ wr := by
  have hd := HS.dat
  have g0 := HS.cfg.2.1
  have g1 := HS.cfg.2.2.1
  have g2 := HS.cfg.2.2.2
  have HSw := Aside0.mk HS
  have hm : m ≤ z := by omega
  have hbJn : b + J ≤ n := by omega
  have hbc : (c = b) = False := eq_false (by omega)
  have hbJ0 : (b : Int) ≤ (b : Int) + (J : Int) := by omega
  have hbJ1 : ((b : Int) + (J : Int)).toNat = b + J := by omega
  have hbJ2 : (0 : Int) ≤ (b : Int) + (J : Int) := by omega
  have hbJ3 : (b : Int) + (J : Int) ≤ (c : Int) := by omega
  replace hN := Aside0.mk hN
  replace hku := Aside0.mk hku
  replace hR := Aside0.mk hR
  have hq1 : ¬ (q : Int) + 1 < 1 := by omega
  have hqk : (q : Int) + 1 ≤ (kn : Int) := by omega
  have hkl := Aside0.mk hkl
  have hka := Aside0.mk hka
  have hby := Aside0.mk hby
  have H := Aside0.mk H
  have hl := Aside0.mk hl
  have KS := Aside0.mk (ku_start (C := c - b) HSw.out H.out hby.out hl.out hbJn)
  clear hG HS
  conv => arg 2; whnf
  go_upto_if 144 with fail
  refine Code.wp_mono (fun e a w h => ?_) (cmp_next K a kn kc h o n c m z q wr.heap.size h (o + b) J (c - b) R ((q : Int) + 1) lm xs ((xs.drop b).take J) w _ hkl.out hkm hka.out hn KS.out hm hz rfl hq hku.out hnl hR.out NX _ _ _ _ _ _ _ _ _ _ _ _ _ _ _ _ _ _ _ _ _ _ _ _ _ _ _ _ _ _ _ _ _ _ _ _ _ _ _ _ _ _ _ _ _ _ _ _ _ _ _ _ _ _ _ _ _ _ _ _ _ _ _ _ _ _ _ _ _ _ _ _ _ _ _ _ _ _ _ _ _ _ _ _ _ _ _ _ _ _ _ _ _ _ _ _ _ _ _ _ _ _ _ _ _ _ _ _ _ _ _ _ _ _ _ _ _ _ _ _ _ _ _ _ _ _ _ _ _ _ _ _ _ _ _ _ _ _ _ _ _ _ _ _ _ _ _ _ _ _ _ _ _ _ _ _ _ _ _ _ _ _ _ _ _ _ _ _ _ _ _ _ _ _ _ _ _ _ _ _ _ _ _ _ _ _ _ _ _ _ _ _ _ _ _ _ _ _ _ _ _ _ _ _ _ _ _ _ _ _ _ _ _ _ _ _ _ _ _ _ _ _ _ _ _ _ _ _ _ _ _ _ _ _ _ _ _ _ _ _ _ _ _ _ _ _ _ _ _ _ _ _ _ _ _ _ _ _ _ _ _ _ _ _ _ _ _ _ _ _ _ _ _ _ _ hN.out)
  cases e <;> first | exact h | exact h.elim
set_option maxHeartbeats 8000000 in
set_option maxRecDepth 1000000 in
theorem key_last_f (K : List ByteArray) (a : Addr) (kn kc h o n c m z b J : Nat) (R : Int) (q : Nat) (lm : Bool) (xs : List Int) (w wr : World) (E : Nat → Value) (hkl : K.length = kn) (hkm : kn ≤ 140737488351232) (hka : KeysAt w (some a) K) (hG : SW w E) (H : RowAt w h o xs) (hby : Bytes xs) (hl : xs.length = n) (hn : n ≤ 140737488351232) (hnc : n ≤ c) (HS : SL w h o n c wr) (hmb : m < b) (hbJ : b + J < z) (hz : z < n)  (hq : q < kn) (hku : ((xs.drop b).take J) = bytesOf (K.getD q ByteArray.empty)) (hnl : (q : Int) + 1 = (kn : Int)) (hR : (z : Int) + 1 = R) (NX : Act → World → Prop)
    (u0 u1 u5 u6 u10 u14 u15 u17 u20 u21 u22 u23 u24 u25 u26 u27 u28 u29 u30 u31 u32 u33 u34 u35 u36 u37 u38 u39 u40 u41 u42 u43 u44 u45 u46 u47 u48 u49 u50 u51 u52 u53 u54 u55 u56 u57 u58 u59 u60 u61 u62 u63 u64 u65 u66 u67 u68 u69 u70 u71 u72 u73 u74 u75 u76 u77 u78 u79 u80 u81 u82 u83 u84 u85 u86 u87 u88 u89 u90 u91 u92 u93 u94 u95 u96 u97 u98 u99 u100 u101 u102 u103 u104 u105 u106 u107 u108 u109 u110 u111 u112 u113 u114 u115 u116 u117 u118 u119 u120 u122 u123 u124 u125 u126 u127 u128 u129 u130 u131 u132 u133 u134 u135 u136 u137 u138 u139 u140 u141 u142 u143 u144 u145 u146 u147 u148 u149 u150 u151 u152 u153 u154 u155 u156 u157 u158 u159 u160 u161 u162 u163 u164 u165 u166 u167 u168 u169 u170 u171 u172 u173 u174 u175 u176 u177 u178 u179 u180 u181 u182 u183 u184 u185 u186 u187 u188 u189 u190 u191 u192 u193 u194 u195 u196 u197 u198 u199 u200 u201 u202 u203 u204 u205 u206 u207 u208 u209 u210 u211 u212 u213 u214 u215 u216 u217 u218 u219 u220 u221 u222 u223 u224 u225 u226 u227 u228 u229 u230 u231 u232 u233 u234 u235 u236 u237 u238 u239 u240 u241 u242 u243 u244 u245 u246 u247 u248 u249 u250 u251 u252 u253 u254 u255 u256 u257 u258 u259 u260 u261 u262 u263 u264 u265 u266 u267 u268 u269 u270 u271 u272 u273 u274 u275 u276 u277 u278 u279 u280 u281 u282 : Value) (hN : ∀ (z2 : Nat) (kl2 : Int) (lm2 : Bool) (w2 : World) (v9 x15 x16 x17 x18 x19 x20 x21 x22 x23 x24 x77 x78 x79 x80 x81 x82 x83 x84 x85 x86 x87 x88 x89 x90 x91 x92 x93 x94 x95 x96 x97 x98 x99 x100 x101 x102 x103 x104 x105 x106 x107 x108 x109 x110 x111 x112 x113 x114 x115 x116 x117 x118 x119 x120 x121 x122 x123 x124 x125 x126 x127 x128 x129 x130 x131 x132 x133 x134 x135 x136 x137 x138 x139 x140 x141 x142 x143 x144 x145 x146 x147 x148 x149 x150 x151 x152 x153 x154 x155 x156 x157 x158 x159 x160 x161 x162 x163 : Value), v9 = .int .i64 (z2 : Int) → m ≤ z2 → z2 < n → SL w h o n c w2 → kl2 < (kn : Int) → (q : Int) ≤ kl2 → (0 ≤ kl2 ∨ kl2 < (q : Int) + 1) → skR sks K xs (z2 + 1) ((q : Int) + 1) kl2 lm2 = R → NX ⟨#[u0, u1, .slice (some a) kn kc, .pointer (some ⟨w.heap.size, 0, none⟩), .pointer (some ⟨w.heap.size + 1, 0, none⟩), u5, u6, .int .i64 kl2, .int .i64 ((q : Int) + 1), v9, u10, .int .i64 (kn : Int), .bool lm2, .pointer (some ⟨w.heap.size + 2, 0, none⟩), u14, x15, x16, x17, x18, x19, x20, x21, x22, x23, x24, u25, u26, u27, u28, u29, u30, u31, u32, u33, u34, u35, u36, u37, u38, u39, u40, u41, u42, u43, u44, u45, u46, u47, u48, u49, u50, u51, u52, u53, u54, u55, u56, u57, u58, u59, u60, u61, u62, u63, u64, u65, u66, u67, u68, u69, u70, u71, u72, u73, u74, u75, u76, x77, x78, x79, x80, x81, x82, x83, x84, x85, x86, x87, x88, x89, x90, x91, x92, x93, x94, x95, x96, x97, x98, x99, x100, x101, x102, x103, x104, x105, x106, x107, x108, x109, x110, x111, x112, x113, x114, x115, x116, x117, x118, x119, x120, x121, x122, x123, x124, x125, x126, x127, x128, x129, x130, x131, x132, x133, x134, x135, x136, x137, x138, x139, x140, x141, x142, x143, x144, x145, x146, x147, x148, x149, x150, x151, x152, x153, x154, x155, x156, x157, x158, x159, x160, x161, x162, x163, u164, u165, u166, u167, u168, u169, u170, u171, u172, u173, u174, u175, u176, u177, u178, u179, u180, u181, u182, u183, u184, u185, u186, u187, u188, u189, u190, u191, u192, u193, u194, u195, u196, u197, u198, u199, u200, u201, u202, u203, u204, u205, u206, u207, u208, u209, u210, u211, u212, u213, u214, u215, u216, u217, u218, u219, u220, u221, u222, u223, u224, u225, u226, u227, u228, u229, u230, u231, u232, u233, u234, u235, u236, u237, u238, u239, u240, u241, u242, u243, u244, u245, u246, u247, u248, u249, u250, u251, u252, u253, u254, u255, u256, u257, u258, u259, u260, u261, u262, u263, u264, u265, u266, u267, u268, u269, u270, u271, u272, u273, u274, u275, u276, u277, u278, u279, u280, u281, u282], []⟩ w2) :
    Code.wp Tryd.prog code35 (KP (bodyPost Tryd.prog Tryd.f67 (SKA R w) .ret) NX) ⟨#[u0, u1, .slice (some a) kn kc, .pointer (some ⟨w.heap.size, 0, none⟩), .pointer (some ⟨w.heap.size + 1, 0, none⟩), u5, u6, .int .i64 (q : Int), .int .i64 ((q : Int) + 1), .int .i64 (z : Int), u10, .int .i64 (kn : Int), .bool lm, .pointer (some ⟨w.heap.size + 2, 0, none⟩), u14, u15, .int .i64 (b : Int), u17, .bool false, .int .i64 ((b : Int) + (J : Int)), u20, u21, u22, u23, u24, u25, u26, u27, u28, u29, u30, u31, u32, u33, u34, u35, u36, u37, u38, u39, u40, u41, u42, u43, u44, u45, u46, u47, u48, u49, u50, u51, u52, u53, u54, u55, u56, u57, u58, u59, u60, u61, u62, u63, u64, u65, u66, u67, u68, u69, u70, u71, u72, u73, u74, u75, u76, u77, u78, u79, u80, u81, u82, u83, u84, u85, u86, u87, u88, u89, u90, u91, u92, u93, u94, u95, u96, u97, u98, u99, u100, u101, u102, u103, u104, u105, u106, u107, u108, u109, u110, u111, u112, u113, u114, u115, u116, u117, u118, u119, u120, .bool true, u122, u123, u124, u125, u126, u127, u128, u129, u130, u131, u132, u133, u134, u135, u136, u137, u138, u139, u140, u141, u142, u143, u144, u145, u146, u147, u148, u149, u150, u151, u152, u153, u154, u155, u156, u157, u158, u159, u160, u161, u162, u163, u164, u165, u166, u167, u168, u169, u170, u171, u172, u173, u174, u175, u176, u177, u178, u179, u180, u181, u182, u183, u184, u185, u186, u187, u188, u189, u190, u191, u192, u193, u194, u195, u196, u197, u198, u199, u200, u201, u202, u203, u204, u205, u206, u207, u208, u209, u210, u211, u212, u213, u214, u215, u216, u217, u218, u219, u220, u221, u222, u223, u224, u225, u226, u227, u228, u229, u230, u231, u232, u233, u234, u235, u236, u237, u238, u239, u240, u241, u242, u243, u244, u245, u246, u247, u248, u249, u250, u251, u252, u253, u254, u255, u256, u257, u258, u259, u260, u261, u262, u263, u264, u265, u266, u267, u268, u269, u270, u271, u272, u273, u274, u275, u276, u277, u278, u279, u280, u281, u282], []⟩ wr := by
  have hd := HS.dat
  have g0 := HS.cfg.2.1
  have g1 := HS.cfg.2.2.1
  have g2 := HS.cfg.2.2.2
  have HSw := Aside0.mk HS
  have hm : m ≤ z := by omega
  have hbJn : b + J ≤ n := by omega
  have hbc : (c = b) = False := eq_false (by omega)
  have hbJ0 : (b : Int) ≤ (b : Int) + (J : Int) := by omega
  have hbJ1 : ((b : Int) + (J : Int)).toNat = b + J := by omega
  have hbJ2 : (0 : Int) ≤ (b : Int) + (J : Int) := by omega
  have hbJ3 : (b : Int) + (J : Int) ≤ (c : Int) := by omega
  replace hN := Aside0.mk hN
  replace hku := Aside0.mk hku
  replace hR := Aside0.mk hR
  replace hnl := Aside0.mk hnl
  have hq1 : ¬ (q : Int) + 1 < 1 := by omega
  have hqk : (q : Int) + 1 ≤ (kn : Int) := by omega
  have hkl := Aside0.mk hkl
  have hka := Aside0.mk hka
  have hby := Aside0.mk hby
  have H := Aside0.mk H
  have hl := Aside0.mk hl
  have KS := Aside0.mk (ku_start (C := c - b) HSw.out H.out hby.out hl.out hbJn)
  clear hG HS
  conv => arg 2; whnf
  go_upto_if 144 with fail
  refine Code.wp_mono (fun e a w h => ?_) (cmp_last K a kn kc h o n c m z q wr.heap.size h (o + b) J (c - b) R ((q : Int) + 1) lm xs ((xs.drop b).take J) w _ hkl.out hkm hka.out hn KS.out hm hz rfl hq hku.out hnl.out hR.out NX _ _ _ _ _ _ _ _ _ _ _ _ _ _ _ _ _ _ _ _ _ _ _ _ _ _ _ _ _ _ _ _ _ _ _ _ _ _ _ _ _ _ _ _ _ _ _ _ _ _ _ _ _ _ _ _ _ _ _ _ _ _ _ _ _ _ _ _ _ _ _ _ _ _ _ _ _ _ _ _ _ _ _ _ _ _ _ _ _ _ _ _ _ _ _ _ _ _ _ _ _ _ _ _ _ _ _ _ _ _ _ _ _ _ _ _ _ _ _ _ _ _ _ _ _ _ _ _ _ _ _ _ _ _ _ _ _ _ _ _ _ _ _ _ _ _ _ _ _ _ _ _ _ _ _ _ _ _ _ _ _ _ _ _ _ _ _ _ _ _ _ _ _ _ _ _ _ _ _ _ _ _ _ _ _ _ _ _ _ _ _ _ _ _ _ _ _ _ _ _ _ _ _ _ _ _ _ _ _ _ _ _ _ _ _ _ _ _ _ _ _ _ _ _ _ _ _ _ _ _ _ _ _ _ _ _ _ _ _ _ _ _ _ _ _ _ _ _ _ _ _ _ _ _ _ _ _ _ _ _ _ _ _ _ _ _ _ _ _ _ _ _ _ _ _ hN.out)
  cases e <;> first | exact h | exact h.elim
set_option maxHeartbeats 8000000 in
set_option maxRecDepth 1000000 in
theorem key_deep_t (K : List ByteArray) (a : Addr) (kn kc h o n c m z b J : Nat) (R kl lv : Int) (lm : Bool) (xs : List Int) (w wr : World) (E : Nat → Value) (hkl : K.length = kn) (hkm : kn ≤ 140737488351232) (hka : KeysAt w (some a) K) (hG : SW w E) (H : RowAt w h o xs) (hby : Bytes xs) (hl : xs.length = n) (hn : n ≤ 140737488351232) (hnc : n ≤ c) (HS : SL w h o n c wr) (hmb : m < b) (hbJ : b + J < z) (hz : z < n) (us : List Int) (hue : ue ((xs.drop b).take J) = some us)  (hlv1 : 1 ≤ lv) (hlvk : ¬ lv ≤ (kn : Int)) (NX : Act → World → Prop)
    (u0 u1 u5 u6 u10 u14 u15 u17 u20 u21 u22 u23 u24 u25 u26 u27 u28 u29 u30 u31 u32 u33 u34 u35 u36 u37 u38 u39 u40 u41 u42 u43 u44 u45 u46 u47 u48 u49 u50 u51 u52 u53 u54 u55 u56 u57 u58 u59 u60 u61 u62 u63 u64 u65 u66 u67 u68 u69 u70 u71 u72 u73 u74 u75 u76 u77 u78 u79 u80 u81 u82 u83 u84 u85 u86 u87 u88 u89 u90 u91 u92 u93 u94 u95 u96 u97 u98 u99 u100 u101 u102 u103 u104 u105 u106 u107 u108 u109 u110 u111 u112 u113 u114 u115 u116 u117 u118 u119 u120 u122 u123 u124 u125 u126 u127 u128 u129 u130 u131 u132 u133 u134 u135 u136 u137 u138 u139 u140 u141 u142 u143 u144 u145 u146 u147 u148 u149 u150 u151 u152 u153 u154 u155 u156 u157 u158 u159 u160 u161 u162 u163 u164 u165 u166 u167 u168 u169 u170 u171 u172 u173 u174 u175 u176 u177 u178 u179 u180 u181 u182 u183 u184 u185 u186 u187 u188 u189 u190 u191 u192 u193 u194 u195 u196 u197 u198 u199 u200 u201 u202 u203 u204 u205 u206 u207 u208 u209 u210 u211 u212 u213 u214 u215 u216 u217 u218 u219 u220 u221 u222 u223 u224 u225 u226 u227 u228 u229 u230 u231 u232 u233 u234 u235 u236 u237 u238 u239 u240 u241 u242 u243 u244 u245 u246 u247 u248 u249 u250 u251 u252 u253 u254 u255 u256 u257 u258 u259 u260 u261 u262 u263 u264 u265 u266 u267 u268 u269 u270 u271 u272 u273 u274 u275 u276 u277 u278 u279 u280 u281 u282 : Value) (hN : ∀ (z2 : Nat) (kl2 : Int) (lm2 : Bool) (w2 : World) (v9 x15 x16 x17 x18 x19 x20 x21 x22 x23 x24 x77 x78 x79 x80 x81 x82 x83 x84 x85 x86 x87 x88 x89 x90 x91 x92 x93 x94 x95 x96 x97 x98 x99 x100 x101 x102 x103 x104 x105 x106 x107 x108 x109 x110 x111 x112 x113 x114 x115 x116 x117 x118 x119 x120 x121 x122 x123 x124 x125 x126 x127 x128 x129 x130 x131 x132 x133 x134 x135 x136 x137 x138 x139 x140 x141 x142 x143 x144 x145 x146 x147 x148 x149 x150 x151 x152 x153 x154 x155 x156 x157 x158 x159 x160 x161 x162 x163 : Value), v9 = .int .i64 (z2 : Int) → m ≤ z2 → z2 < n → SL w h o n c w2 → kl2 < (kn : Int) → kl ≤ kl2 → (0 ≤ kl2 ∨ kl2 < lv) → skR sks K xs (z2 + 1) lv kl2 lm2 = R → NX ⟨#[u0, u1, .slice (some a) kn kc, .pointer (some ⟨w.heap.size, 0, none⟩), .pointer (some ⟨w.heap.size + 1, 0, none⟩), u5, u6, .int .i64 kl2, .int .i64 lv, v9, u10, .int .i64 (kn : Int), .bool lm2, .pointer (some ⟨w.heap.size + 2, 0, none⟩), u14, x15, x16, x17, x18, x19, x20, x21, x22, x23, x24, u25, u26, u27, u28, u29, u30, u31, u32, u33, u34, u35, u36, u37, u38, u39, u40, u41, u42, u43, u44, u45, u46, u47, u48, u49, u50, u51, u52, u53, u54, u55, u56, u57, u58, u59, u60, u61, u62, u63, u64, u65, u66, u67, u68, u69, u70, u71, u72, u73, u74, u75, u76, x77, x78, x79, x80, x81, x82, x83, x84, x85, x86, x87, x88, x89, x90, x91, x92, x93, x94, x95, x96, x97, x98, x99, x100, x101, x102, x103, x104, x105, x106, x107, x108, x109, x110, x111, x112, x113, x114, x115, x116, x117, x118, x119, x120, x121, x122, x123, x124, x125, x126, x127, x128, x129, x130, x131, x132, x133, x134, x135, x136, x137, x138, x139, x140, x141, x142, x143, x144, x145, x146, x147, x148, x149, x150, x151, x152, x153, x154, x155, x156, x157, x158, x159, x160, x161, x162, x163, u164, u165, u166, u167, u168, u169, u170, u171, u172, u173, u174, u175, u176, u177, u178, u179, u180, u181, u182, u183, u184, u185, u186, u187, u188, u189, u190, u191, u192, u193, u194, u195, u196, u197, u198, u199, u200, u201, u202, u203, u204, u205, u206, u207, u208, u209, u210, u211, u212, u213, u214, u215, u216, u217, u218, u219, u220, u221, u222, u223, u224, u225, u226, u227, u228, u229, u230, u231, u232, u233, u234, u235, u236, u237, u238, u239, u240, u241, u242, u243, u244, u245, u246, u247, u248, u249, u250, u251, u252, u253, u254, u255, u256, u257, u258, u259, u260, u261, u262, u263, u264, u265, u266, u267, u268, u269, u270, u271, u272, u273, u274, u275, u276, u277, u278, u279, u280, u281, u282], []⟩ w2) :
    Code.wp Tryd.prog code35 (KP (bodyPost Tryd.prog Tryd.f67 (SKA (-1) w) .ret) NX) ⟨#[u0, u1, .slice (some a) kn kc, .pointer (some ⟨w.heap.size, 0, none⟩), .pointer (some ⟨w.heap.size + 1, 0, none⟩), u5, u6, .int .i64 kl, .int .i64 lv, .int .i64 (z : Int), u10, .int .i64 (kn : Int), .bool lm, .pointer (some ⟨w.heap.size + 2, 0, none⟩), u14, u15, .int .i64 (b : Int), u17, .bool true, .int .i64 ((b : Int) + (J : Int)), u20, u21, u22, u23, u24, u25, u26, u27, u28, u29, u30, u31, u32, u33, u34, u35, u36, u37, u38, u39, u40, u41, u42, u43, u44, u45, u46, u47, u48, u49, u50, u51, u52, u53, u54, u55, u56, u57, u58, u59, u60, u61, u62, u63, u64, u65, u66, u67, u68, u69, u70, u71, u72, u73, u74, u75, u76, u77, u78, u79, u80, u81, u82, u83, u84, u85, u86, u87, u88, u89, u90, u91, u92, u93, u94, u95, u96, u97, u98, u99, u100, u101, u102, u103, u104, u105, u106, u107, u108, u109, u110, u111, u112, u113, u114, u115, u116, u117, u118, u119, u120, .bool true, u122, u123, u124, u125, u126, u127, u128, u129, u130, u131, u132, u133, u134, u135, u136, u137, u138, u139, u140, u141, u142, u143, u144, u145, u146, u147, u148, u149, u150, u151, u152, u153, u154, u155, u156, u157, u158, u159, u160, u161, u162, u163, u164, u165, u166, u167, u168, u169, u170, u171, u172, u173, u174, u175, u176, u177, u178, u179, u180, u181, u182, u183, u184, u185, u186, u187, u188, u189, u190, u191, u192, u193, u194, u195, u196, u197, u198, u199, u200, u201, u202, u203, u204, u205, u206, u207, u208, u209, u210, u211, u212, u213, u214, u215, u216, u217, u218, u219, u220, u221, u222, u223, u224, u225, u226, u227, u228, u229, u230, u231, u232, u233, u234, u235, u236, u237, u238, u239, u240, u241, u242, u243, u244, u245, u246, u247, u248, u249, u250, u251, u252, u253, u254, u255, u256, u257, u258, u259, u260, u261, u262, u263, u264, u265, u266, u267, u268, u269, u270, u271, u272, u273, u274, u275, u276, u277, u278, u279, u280, u281, u282], []⟩ wr := by
  have hd := HS.dat
  have g0 := HS.cfg.2.1
  have g1 := HS.cfg.2.2.1
  have g2 := HS.cfg.2.2.2
  have HSw := Aside0.mk HS
  have hm : m ≤ z := by omega
  have hbJn : b + J ≤ n := by omega
  have hbc : (c = b) = False := eq_false (by omega)
  have hbJ0 : (b : Int) ≤ (b : Int) + (J : Int) := by omega
  have hbJ1 : ((b : Int) + (J : Int)).toNat = b + J := by omega
  have hbJ2 : (0 : Int) ≤ (b : Int) + (J : Int) := by omega
  have hbJ3 : (b : Int) + (J : Int) ≤ (c : Int) := by omega
  clear hN
  have hkl := Aside0.mk hkl
  have hka := Aside0.mk hka
  have hby := Aside0.mk hby
  have H := Aside0.mk H
  have hl := Aside0.mk hl
  have hX := cell_new wr (.slice none 0 0) 54
  have hXlt : w.heap.size + 2 < wr.heap.size := HSw.out.buf.1
  have HA := Aside0.mk (HSw.out.step (below_alloc1 (.cells #[.slice none 0 0] 54)))
  have CU := Aside0.mk (uk_calls E h o n c b J wr.heap.size xs w (wr.alloc (.cells #[.slice none 0 0] 54)).drew hG H.out hby.out hl.out hn hnc hbJn (HA.out.step (Below.refl _ _).drew) hX.1 hX.2 (by show _ < (wr.alloc _).heap.size; rw [World.size_alloc]; omega) hXlt)
  have hUB := Aside0.mk (ue_bytes (fun x hx => hby.out.drop b x (List.mem_of_mem_take hx)) hue)
  unfold UKA at CU
  rw [hue] at CU
  simp only [] at CU
  have a0 := HA.out.cfg.2.1
  have a1 := HA.out.cfg.2.2.1
  have a2 := HA.out.cfg.2.2.2
  clear hue hX
  clear hG HS
  conv => arg 2; whnf
  go_upto_region 41 with fail
  go_cut [23, 24] from 131 to 137 (fun v23 v24 wx => ∃ g g0 cap, v23 = .slice (some ⟨g, g0, none⟩) us.length cap ∧ v24 = .nilIface ∧ Aside0 (RowAt wx g g0 us) ∧ Aside0 (SL w h o n c wx) ∧ Aside0 (wx.cell? ⟨wr.heap.size, 0, none⟩ = some (.slice none 0 0) ∧ wx.frozen? ⟨wr.heap.size, 0, none⟩ = false))
  case first =>
    go_region_with (go_at_call 78; refine CU.out.mono ?_; rintro e w2 ⟨g, g0, cap, rfl, hrow, HS2, HX2⟩)
    all_goals go_wp2_with fail
    all_goals go_meet
    all_goals exact ⟨_, _, _, rfl, rfl, hrow, HS2, HX2⟩
  case rest =>
  obtain ⟨g, g0, cap, rfl, rfl, hrow, HS2, HX2⟩ := hcut
  have KS := Aside0.mk (ku_put (C := cap) HS2.out HX2.out.1 hXlt hrow.out hUB.out)
  have x1 := HX2.out.1
  have x2 := HX2.out.2
  clear hd g1 g2 a0 a1 a2
  go_wp2_with fail
  show bodyPost Tryd.prog Tryd.f67 _ Exit.ret _ _
  go_ret
  exact ⟨rfl, KS.out.sl.below⟩
set_option maxHeartbeats 8000000 in
set_option maxRecDepth 1000000 in
theorem key_other_t (K : List ByteArray) (a : Addr) (kn kc h o n c m z b J : Nat) (R kl : Int) (q : Nat) (lm : Bool) (xs : List Int) (w wr : World) (E : Nat → Value) (hkl : K.length = kn) (hkm : kn ≤ 140737488351232) (hka : KeysAt w (some a) K) (hG : SW w E) (H : RowAt w h o xs) (hby : Bytes xs) (hl : xs.length = n) (hn : n ≤ 140737488351232) (hnc : n ≤ c) (HS : SL w h o n c wr) (hmb : m < b) (hbJ : b + J < z) (hz : z < n) (us : List Int) (hue : ue ((xs.drop b).take J) = some us)  (hq : q < kn) (hkn : kl < (kn : Int)) (hP : 0 ≤ kl ∨ kl < (q : Int) + 1) (hku : us ≠ bytesOf (K.getD q ByteArray.empty)) (hR : skR sks K xs (z + 1) ((q : Int) + 1) kl false = R) (NX : Act → World → Prop)
    (u0 u1 u5 u6 u10 u14 u15 u17 u20 u21 u22 u23 u24 u25 u26 u27 u28 u29 u30 u31 u32 u33 u34 u35 u36 u37 u38 u39 u40 u41 u42 u43 u44 u45 u46 u47 u48 u49 u50 u51 u52 u53 u54 u55 u56 u57 u58 u59 u60 u61 u62 u63 u64 u65 u66 u67 u68 u69 u70 u71 u72 u73 u74 u75 u76 u77 u78 u79 u80 u81 u82 u83 u84 u85 u86 u87 u88 u89 u90 u91 u92 u93 u94 u95 u96 u97 u98 u99 u100 u101 u102 u103 u104 u105 u106 u107 u108 u109 u110 u111 u112 u113 u114 u115 u116 u117 u118 u119 u120 u122 u123 u124 u125 u126 u127 u128 u129 u130 u131 u132 u133 u134 u135 u136 u137 u138 u139 u140 u141 u142 u143 u144 u145 u146 u147 u148 u149 u150 u151 u152 u153 u154 u155 u156 u157 u158 u159 u160 u161 u162 u163 u164 u165 u166 u167 u168 u169 u170 u171 u172 u173 u174 u175 u176 u177 u178 u179 u180 u181 u182 u183 u184 u185 u186 u187 u188 u189 u190 u191 u192 u193 u194 u195 u196 u197 u198 u199 u200 u201 u202 u203 u204 u205 u206 u207 u208 u209 u210 u211 u212 u213 u214 u215 u216 u217 u218 u219 u220 u221 u222 u223 u224 u225 u226 u227 u228 u229 u230 u231 u232 u233 u234 u235 u236 u237 u238 u239 u240 u241 u242 u243 u244 u245 u246 u247 u248 u249 u250 u251 u252 u253 u254 u255 u256 u257 u258 u259 u260 u261 u262 u263 u264 u265 u266 u267 u268 u269 u270 u271 u272 u273 u274 u275 u276 u277 u278 u279 u280 u281 u282 : Value) (hN : ∀ (z2 : Nat) (kl2 : Int) (lm2 : Bool) (w2 : World) (v9 x15 x16 x17 x18 x19 x20 x21 x22 x23 x24 x77 x78 x79 x80 x81 x82 x83 x84 x85 x86 x87 x88 x89 x90 x91 x92 x93 x94 x95 x96 x97 x98 x99 x100 x101 x102 x103 x104 x105 x106 x107 x108 x109 x110 x111 x112 x113 x114 x115 x116 x117 x118 x119 x120 x121 x122 x123 x124 x125 x126 x127 x128 x129 x130 x131 x132 x133 x134 x135 x136 x137 x138 x139 x140 x141 x142 x143 x144 x145 x146 x147 x148 x149 x150 x151 x152 x153 x154 x155 x156 x157 x158 x159 x160 x161 x162 x163 : Value), v9 = .int .i64 (z2 : Int) → m ≤ z2 → z2 < n → SL w h o n c w2 → kl2 < (kn : Int) → kl ≤ kl2 → (0 ≤ kl2 ∨ kl2 < (q : Int) + 1) → skR sks K xs (z2 + 1) ((q : Int) + 1) kl2 lm2 = R → NX ⟨#[u0, u1, .slice (some a) kn kc, .pointer (some ⟨w.heap.size, 0, none⟩), .pointer (some ⟨w.heap.size + 1, 0, none⟩), u5, u6, .int .i64 kl2, .int .i64 ((q : Int) + 1), v9, u10, .int .i64 (kn : Int), .bool lm2, .pointer (some ⟨w.heap.size + 2, 0, none⟩), u14, x15, x16, x17, x18, x19, x20, x21, x22, x23, x24, u25, u26, u27, u28, u29, u30, u31, u32, u33, u34, u35, u36, u37, u38, u39, u40, u41, u42, u43, u44, u45, u46, u47, u48, u49, u50, u51, u52, u53, u54, u55, u56, u57, u58, u59, u60, u61, u62, u63, u64, u65, u66, u67, u68, u69, u70, u71, u72, u73, u74, u75, u76, x77, x78, x79, x80, x81, x82, x83, x84, x85, x86, x87, x88, x89, x90, x91, x92, x93, x94, x95, x96, x97, x98, x99, x100, x101, x102, x103, x104, x105, x106, x107, x108, x109, x110, x111, x112, x113, x114, x115, x116, x117, x118, x119, x120, x121, x122, x123, x124, x125, x126, x127, x128, x129, x130, x131, x132, x133, x134, x135, x136, x137, x138, x139, x140, x141, x142, x143, x144, x145, x146, x147, x148, x149, x150, x151, x152, x153, x154, x155, x156, x157, x158, x159, x160, x161, x162, x163, u164, u165, u166, u167, u168, u169, u170, u171, u172, u173, u174, u175, u176, u177, u178, u179, u180, u181, u182, u183, u184, u185, u186, u187, u188, u189, u190, u191, u192, u193, u194, u195, u196, u197, u198, u199, u200, u201, u202, u203, u204, u205, u206, u207, u208, u209, u210, u211, u212, u213, u214, u215, u216, u217, u218, u219, u220, u221, u222, u223, u224, u225, u226, u227, u228, u229, u230, u231, u232, u233, u234, u235, u236, u237, u238, u239, u240, u241, u242, u243, u244, u245, u246, u247, u248, u249, u250, u251, u252, u253, u254, u255, u256, u257, u258, u259, u260, u261, u262, u263, u264, u265, u266, u267, u268, u269, u270, u271, u272, u273, u274, u275, u276, u277, u278, u279, u280, u281, u282], []⟩ w2) :
    Code.wp Tryd.prog code35 (KP (bodyPost Tryd.prog Tryd.f67 (SKA R w) .ret) NX) ⟨#[u0, u1, .slice (some a) kn kc, .pointer (some ⟨w.heap.size, 0, none⟩), .pointer (some ⟨w.heap.size + 1, 0, none⟩), u5, u6, .int .i64 kl, .int .i64 ((q : Int) + 1), .int .i64 (z : Int), u10, .int .i64 (kn : Int), .bool lm, .pointer (some ⟨w.heap.size + 2, 0, none⟩), u14, u15, .int .i64 (b : Int), u17, .bool true, .int .i64 ((b : Int) + (J : Int)), u20, u21, u22, u23, u24, u25, u26, u27, u28, u29, u30, u31, u32, u33, u34, u35, u36, u37, u38, u39, u40, u41, u42, u43, u44, u45, u46, u47, u48, u49, u50, u51, u52, u53, u54, u55, u56, u57, u58, u59, u60, u61, u62, u63, u64, u65, u66, u67, u68, u69, u70, u71, u72, u73, u74, u75, u76, u77, u78, u79, u80, u81, u82, u83, u84, u85, u86, u87, u88, u89, u90, u91, u92, u93, u94, u95, u96, u97, u98, u99, u100, u101, u102, u103, u104, u105, u106, u107, u108, u109, u110, u111, u112, u113, u114, u115, u116, u117, u118, u119, u120, .bool true, u122, u123, u124, u125, u126, u127, u128, u129, u130, u131, u132, u133, u134, u135, u136, u137, u138, u139, u140, u141, u142, u143, u144, u145, u146, u147, u148, u149, u150, u151, u152, u153, u154, u155, u156, u157, u158, u159, u160, u161, u162, u163, u164, u165, u166, u167, u168, u169, u170, u171, u172, u173, u174, u175, u176, u177, u178, u179, u180, u181, u182, u183, u184, u185, u186, u187, u188, u189, u190, u191, u192, u193, u194, u195, u196, u197, u198, u199, u200, u201, u202, u203, u204, u205, u206, u207, u208, u209, u210, u211, u212, u213, u214, u215, u216, u217, u218, u219, u220, u221, u222, u223, u224, u225, u226, u227, u228, u229, u230, u231, u232, u233, u234, u235, u236, u237, u238, u239, u240, u241, u242, u243, u244, u245, u246, u247, u248, u249, u250, u251, u252, u253, u254, u255, u256, u257, u258, u259, u260, u261, u262, u263, u264, u265, u266, u267, u268, u269, u270, u271, u272, u273, u274, u275, u276, u277, u278, u279, u280, u281, u282], []⟩ wr := by
  have hd := HS.dat
  have g0 := HS.cfg.2.1
  have g1 := HS.cfg.2.2.1
  have g2 := HS.cfg.2.2.2
  have HSw := Aside0.mk HS
  have hm : m ≤ z := by omega
  have hbJn : b + J ≤ n := by omega
  have hbc : (c = b) = False := eq_false (by omega)
  have hbJ0 : (b : Int) ≤ (b : Int) + (J : Int) := by omega
  have hbJ1 : ((b : Int) + (J : Int)).toNat = b + J := by omega
  have hbJ2 : (0 : Int) ≤ (b : Int) + (J : Int) := by omega
  have hbJ3 : (b : Int) + (J : Int) ≤ (c : Int) := by omega
  replace hN := Aside0.mk hN
  replace hku := Aside0.mk hku
  replace hR := Aside0.mk hR
  replace hP := Aside0.mk hP
  have hq1 : ¬ (q : Int) + 1 < 1 := by omega
  have hqk : (q : Int) + 1 ≤ (kn : Int) := by omega
  have hkl := Aside0.mk hkl
  have hka := Aside0.mk hka
  have hby := Aside0.mk hby
  have H := Aside0.mk H
  have hl := Aside0.mk hl
  have hX := cell_new wr (.slice none 0 0) 54
  have hXlt : w.heap.size + 2 < wr.heap.size := HSw.out.buf.1
  have HA := Aside0.mk (HSw.out.step (below_alloc1 (.cells #[.slice none 0 0] 54)))
  have CU := Aside0.mk (uk_calls E h o n c b J wr.heap.size xs w (wr.alloc (.cells #[.slice none 0 0] 54)).drew hG H.out hby.out hl.out hn hnc hbJn (HA.out.step (Below.refl _ _).drew) hX.1 hX.2 (by show _ < (wr.alloc _).heap.size; rw [World.size_alloc]; omega) hXlt)
  have hUB := Aside0.mk (ue_bytes (fun x hx => hby.out.drop b x (List.mem_of_mem_take hx)) hue)
  unfold UKA at CU
  rw [hue] at CU
  simp only [] at CU
  have a0 := HA.out.cfg.2.1
  have a1 := HA.out.cfg.2.2.1
  have a2 := HA.out.cfg.2.2.2
  clear hue hX
  clear hG HS
  conv => arg 2; whnf
  go_upto_region 41 with fail
  go_cut [23, 24] from 131 to 137 (fun v23 v24 wx => ∃ g g0 cap, v23 = .slice (some ⟨g, g0, none⟩) us.length cap ∧ v24 = .nilIface ∧ Aside0 (RowAt wx g g0 us) ∧ Aside0 (SL w h o n c wx) ∧ Aside0 (wx.cell? ⟨wr.heap.size, 0, none⟩ = some (.slice none 0 0) ∧ wx.frozen? ⟨wr.heap.size, 0, none⟩ = false))
  case first =>
    go_region_with (go_at_call 78; refine CU.out.mono ?_; rintro e w2 ⟨g, g0, cap, rfl, hrow, HS2, HX2⟩)
    all_goals go_wp2_with fail
    all_goals go_meet
    all_goals exact ⟨_, _, _, rfl, rfl, hrow, HS2, HX2⟩
  case rest =>
  obtain ⟨g, g0, cap, rfl, rfl, hrow, HS2, HX2⟩ := hcut
  have KS := Aside0.mk (ku_put (C := cap) HS2.out HX2.out.1 hXlt hrow.out hUB.out)
  have x1 := HX2.out.1
  have x2 := HX2.out.2
  clear hd g1 g2 a0 a1 a2
  go_upto_if 144 with fail
  refine Code.wp_mono (fun e a w h => ?_) (cmp_other K a kn kc h o n c m z q wr.heap.size g g0 us.length cap R kl ((q : Int) + 1) lm xs us w _ hkl.out hkm hka.out hn KS.out hm hz rfl hq hku.out hkn hP.out hR.out NX _ _ _ _ _ _ _ _ _ _ _ _ _ _ _ _ _ _ _ _ _ _ _ _ _ _ _ _ _ _ _ _ _ _ _ _ _ _ _ _ _ _ _ _ _ _ _ _ _ _ _ _ _ _ _ _ _ _ _ _ _ _ _ _ _ _ _ _ _ _ _ _ _ _ _ _ _ _ _ _ _ _ _ _ _ _ _ _ _ _ _ _ _ _ _ _ _ _ _ _ _ _ _ _ _ _ _ _ _ _ _ _ _ _ _ _ _ _ _ _ _ _ _ _ _ _ _ _ _ _ _ _ _ _ _ _ _ _ _ _ _ _ _ _ _ _ _ _ _ _ _ _ _ _ _ _ _ _ _ _ _ _ _ _ _ _ _ _ _ _ _ _ _ _ _ _ _ _ _ _ _ _ _ _ _ _ _ _ _ _ _ _ _ _ _ _ _ _ _ _ _ _ _ _ _ _ _ _ _ _ _ _ _ _ _ _ _ _ _ _ _ _ _ _ _ _ _ _ _ _ _ _ _ _ _ _ _ _ _ _ _ _ _ _ _ _ _ _ _ _ _ _ _ _ _ _ _ _ _ _ _ _ _ _ _ _ _ _ _ _ _ _ _ _ _ hN.out)
  cases e <;> first | exact h | exact h.elim
set_option maxHeartbeats 8000000 in
set_option maxRecDepth 1000000 in
theorem key_same_t (K : List ByteArray) (a : Addr) (kn kc h o n c m z b J : Nat) (R kl : Int) (q : Nat) (lm : Bool) (xs : List Int) (w wr : World) (E : Nat → Value) (hkl : K.length = kn) (hkm : kn ≤ 140737488351232) (hka : KeysAt w (some a) K) (hG : SW w E) (H : RowAt w h o xs) (hby : Bytes xs) (hl : xs.length = n) (hn : n ≤ 140737488351232) (hnc : n ≤ c) (HS : SL w h o n c wr) (hmb : m < b) (hbJ : b + J < z) (hz : z < n) (us : List Int) (hue : ue ((xs.drop b).take J) = some us)  (hq : q < kn) (hkn : kl < (kn : Int)) (hP : 0 ≤ kl ∨ kl < (q : Int) + 1) (hku : us = bytesOf (K.getD q ByteArray.empty)) (hne : kl ≠ (q : Int)) (hR : skR sks K xs (z + 1) ((q : Int) + 1) kl true = R) (NX : Act → World → Prop)
    (u0 u1 u5 u6 u10 u14 u15 u17 u20 u21 u22 u23 u24 u25 u26 u27 u28 u29 u30 u31 u32 u33 u34 u35 u36 u37 u38 u39 u40 u41 u42 u43 u44 u45 u46 u47 u48 u49 u50 u51 u52 u53 u54 u55 u56 u57 u58 u59 u60 u61 u62 u63 u64 u65 u66 u67 u68 u69 u70 u71 u72 u73 u74 u75 u76 u77 u78 u79 u80 u81 u82 u83 u84 u85 u86 u87 u88 u89 u90 u91 u92 u93 u94 u95 u96 u97 u98 u99 u100 u101 u102 u103 u104 u105 u106 u107 u108 u109 u110 u111 u112 u113 u114 u115 u116 u117 u118 u119 u120 u122 u123 u124 u125 u126 u127 u128 u129 u130 u131 u132 u133 u134 u135 u136 u137 u138 u139 u140 u141 u142 u143 u144 u145 u146 u147 u148 u149 u150 u151 u152 u153 u154 u155 u156 u157 u158 u159 u160 u161 u162 u163 u164 u165 u166 u167 u168 u169 u170 u171 u172 u173 u174 u175 u176 u177 u178 u179 u180 u181 u182 u183 u184 u185 u186 u187 u188 u189 u190 u191 u192 u193 u194 u195 u196 u197 u198 u199 u200 u201 u202 u203 u204 u205 u206 u207 u208 u209 u210 u211 u212 u213 u214 u215 u216 u217 u218 u219 u220 u221 u222 u223 u224 u225 u226 u227 u228 u229 u230 u231 u232 u233 u234 u235 u236 u237 u238 u239 u240 u241 u242 u243 u244 u245 u246 u247 u248 u249 u250 u251 u252 u253 u254 u255 u256 u257 u258 u259 u260 u261 u262 u263 u264 u265 u266 u267 u268 u269 u270 u271 u272 u273 u274 u275 u276 u277 u278 u279 u280 u281 u282 : Value) (hN : ∀ (z2 : Nat) (kl2 : Int) (lm2 : Bool) (w2 : World) (v9 x15 x16 x17 x18 x19 x20 x21 x22 x23 x24 x77 x78 x79 x80 x81 x82 x83 x84 x85 x86 x87 x88 x89 x90 x91 x92 x93 x94 x95 x96 x97 x98 x99 x100 x101 x102 x103 x104 x105 x106 x107 x108 x109 x110 x111 x112 x113 x114 x115 x116 x117 x118 x119 x120 x121 x122 x123 x124 x125 x126 x127 x128 x129 x130 x131 x132 x133 x134 x135 x136 x137 x138 x139 x140 x141 x142 x143 x144 x145 x146 x147 x148 x149 x150 x151 x152 x153 x154 x155 x156 x157 x158 x159 x160 x161 x162 x163 : Value), v9 = .int .i64 (z2 : Int) → m ≤ z2 → z2 < n → SL w h o n c w2 → kl2 < (kn : Int) → kl ≤ kl2 → (0 ≤ kl2 ∨ kl2 < (q : Int) + 1) → skR sks K xs (z2 + 1) ((q : Int) + 1) kl2 lm2 = R → NX ⟨#[u0, u1, .slice (some a) kn kc, .pointer (some ⟨w.heap.size, 0, none⟩), .pointer (some ⟨w.heap.size + 1, 0, none⟩), u5, u6, .int .i64 kl2, .int .i64 ((q : Int) + 1), v9, u10, .int .i64 (kn : Int), .bool lm2, .pointer (some ⟨w.heap.size + 2, 0, none⟩), u14, x15, x16, x17, x18, x19, x20, x21, x22, x23, x24, u25, u26, u27, u28, u29, u30, u31, u32, u33, u34, u35, u36, u37, u38, u39, u40, u41, u42, u43, u44, u45, u46, u47, u48, u49, u50, u51, u52, u53, u54, u55, u56, u57, u58, u59, u60, u61, u62, u63, u64, u65, u66, u67, u68, u69, u70, u71, u72, u73, u74, u75, u76, x77, x78, x79, x80, x81, x82, x83, x84, x85, x86, x87, x88, x89, x90, x91, x92, x93, x94, x95, x96, x97, x98, x99, x100, x101, x102, x103, x104, x105, x106, x107, x108, x109, x110, x111, x112, x113, x114, x115, x116, x117, x118, x119, x120, x121, x122, x123, x124, x125, x126, x127, x128, x129, x130, x131, x132, x133, x134, x135, x136, x137, x138, x139, x140, x141, x142, x143, x144, x145, x146, x147, x148, x149, x150, x151, x152, x153, x154, x155, x156, x157, x158, x159, x160, x161, x162, x163, u164, u165, u166, u167, u168, u169, u170, u171, u172, u173, u174, u175, u176, u177, u178, u179, u180, u181, u182, u183, u184, u185, u186, u187, u188, u189, u190, u191, u192, u193, u194, u195, u196, u197, u198, u199, u200, u201, u202, u203, u204, u205, u206, u207, u208, u209, u210, u211, u212, u213, u214, u215, u216, u217, u218, u219, u220, u221, u222, u223, u224, u225, u226, u227, u228, u229, u230, u231, u232, u233, u234, u235, u236, u237, u238, u239, u240, u241, u242, u243, u244, u245, u246, u247, u248, u249, u250, u251, u252, u253, u254, u255, u256, u257, u258, u259, u260, u261, u262, u263, u264, u265, u266, u267, u268, u269, u270, u271, u272, u273, u274, u275, u276, u277, u278, u279, u280, u281, u282], []⟩ w2) :
    Code.wp Tryd.prog code35 (KP (bodyPost Tryd.prog Tryd.f67 (SKA R w) .ret) NX) ⟨#[u0, u1, .slice (some a) kn kc, .pointer (some ⟨w.heap.size, 0, none⟩), .pointer (some ⟨w.heap.size + 1, 0, none⟩), u5, u6, .int .i64 kl, .int .i64 ((q : Int) + 1), .int .i64 (z : Int), u10, .int .i64 (kn : Int), .bool lm, .pointer (some ⟨w.heap.size + 2, 0, none⟩), u14, u15, .int .i64 (b : Int), u17, .bool true, .int .i64 ((b : Int) + (J : Int)), u20, u21, u22, u23, u24, u25, u26, u27, u28, u29, u30, u31, u32, u33, u34, u35, u36, u37, u38, u39, u40, u41, u42, u43, u44, u45, u46, u47, u48, u49, u50, u51, u52, u53, u54, u55, u56, u57, u58, u59, u60, u61, u62, u63, u64, u65, u66, u67, u68, u69, u70, u71, u72, u73, u74, u75, u76, u77, u78, u79, u80, u81, u82, u83, u84, u85, u86, u87, u88, u89, u90, u91, u92, u93, u94, u95, u96, u97, u98, u99, u100, u101, u102, u103, u104, u105, u106, u107, u108, u109, u110, u111, u112, u113, u114, u115, u116, u117, u118, u119, u120, .bool true, u122, u123, u124, u125, u126, u127, u128, u129, u130, u131, u132, u133, u134, u135, u136, u137, u138, u139, u140, u141, u142, u143, u144, u145, u146, u147, u148, u149, u150, u151, u152, u153, u154, u155, u156, u157, u158, u159, u160, u161, u162, u163, u164, u165, u166, u167, u168, u169, u170, u171, u172, u173, u174, u175, u176, u177, u178, u179, u180, u181, u182, u183, u184, u185, u186, u187, u188, u189, u190, u191, u192, u193, u194, u195, u196, u197, u198, u199, u200, u201, u202, u203, u204, u205, u206, u207, u208, u209, u210, u211, u212, u213, u214, u215, u216, u217, u218, u219, u220, u221, u222, u223, u224, u225, u226, u227, u228, u229, u230, u231, u232, u233, u234, u235, u236, u237, u238, u239, u240, u241, u242, u243, u244, u245, u246, u247, u248, u249, u250, u251, u252, u253, u254, u255, u256, u257, u258, u259, u260, u261, u262, u263, u264, u265, u266, u267, u268, u269, u270, u271, u272, u273, u274, u275, u276, u277, u278, u279, u280, u281, u282], []⟩ wr := by
  have hd := HS.dat
  have g0 := HS.cfg.2.1
  have g1 := HS.cfg.2.2.1
  have g2 := HS.cfg.2.2.2
  have HSw := Aside0.mk HS
  have hm : m ≤ z := by omega
  have hbJn : b + J ≤ n := by omega
  have hbc : (c = b) = False := eq_false (by omega)
  have hbJ0 : (b : Int) ≤ (b : Int) + (J : Int) := by omega
  have hbJ1 : ((b : Int) + (J : Int)).toNat = b + J := by omega
  have hbJ2 : (0 : Int) ≤ (b : Int) + (J : Int) := by omega
  have hbJ3 : (b : Int) + (J : Int) ≤ (c : Int) := by omega
  replace hN := Aside0.mk hN
  replace hku := Aside0.mk hku
  replace hR := Aside0.mk hR
  replace hP := Aside0.mk hP
  have hq1 : ¬ (q : Int) + 1 < 1 := by omega
  have hqk : (q : Int) + 1 ≤ (kn : Int) := by omega
  have hkl := Aside0.mk hkl
  have hka := Aside0.mk hka
  have hby := Aside0.mk hby
  have H := Aside0.mk H
  have hl := Aside0.mk hl
  have hX := cell_new wr (.slice none 0 0) 54
  have hXlt : w.heap.size + 2 < wr.heap.size := HSw.out.buf.1
  have HA := Aside0.mk (HSw.out.step (below_alloc1 (.cells #[.slice none 0 0] 54)))
  have CU := Aside0.mk (uk_calls E h o n c b J wr.heap.size xs w (wr.alloc (.cells #[.slice none 0 0] 54)).drew hG H.out hby.out hl.out hn hnc hbJn (HA.out.step (Below.refl _ _).drew) hX.1 hX.2 (by show _ < (wr.alloc _).heap.size; rw [World.size_alloc]; omega) hXlt)
  have hUB := Aside0.mk (ue_bytes (fun x hx => hby.out.drop b x (List.mem_of_mem_take hx)) hue)
  unfold UKA at CU
  rw [hue] at CU
  simp only [] at CU
  have a0 := HA.out.cfg.2.1
  have a1 := HA.out.cfg.2.2.1
  have a2 := HA.out.cfg.2.2.2
  clear hue hX
  clear hG HS
  conv => arg 2; whnf
  go_upto_region 41 with fail
  go_cut [23, 24] from 131 to 137 (fun v23 v24 wx => ∃ g g0 cap, v23 = .slice (some ⟨g, g0, none⟩) us.length cap ∧ v24 = .nilIface ∧ Aside0 (RowAt wx g g0 us) ∧ Aside0 (SL w h o n c wx) ∧ Aside0 (wx.cell? ⟨wr.heap.size, 0, none⟩ = some (.slice none 0 0) ∧ wx.frozen? ⟨wr.heap.size, 0, none⟩ = false))
  case first =>
    go_region_with (go_at_call 78; refine CU.out.mono ?_; rintro e w2 ⟨g, g0, cap, rfl, hrow, HS2, HX2⟩)
    all_goals go_wp2_with fail
    all_goals go_meet
    all_goals exact ⟨_, _, _, rfl, rfl, hrow, HS2, HX2⟩
  case rest =>
  obtain ⟨g, g0, cap, rfl, rfl, hrow, HS2, HX2⟩ := hcut
  have KS := Aside0.mk (ku_put (C := cap) HS2.out HX2.out.1 hXlt hrow.out hUB.out)
  have x1 := HX2.out.1
  have x2 := HX2.out.2
  clear hd g1 g2 a0 a1 a2
  go_upto_if 144 with fail
  refine Code.wp_mono (fun e a w h => ?_) (cmp_same K a kn kc h o n c m z q wr.heap.size g g0 us.length cap R kl ((q : Int) + 1) lm xs us w _ hkl.out hkm hka.out hn KS.out hm hz rfl hq hku.out hkn hP.out hne hR.out NX _ _ _ _ _ _ _ _ _ _ _ _ _ _ _ _ _ _ _ _ _ _ _ _ _ _ _ _ _ _ _ _ _ _ _ _ _ _ _ _ _ _ _ _ _ _ _ _ _ _ _ _ _ _ _ _ _ _ _ _ _ _ _ _ _ _ _ _ _ _ _ _ _ _ _ _ _ _ _ _ _ _ _ _ _ _ _ _ _ _ _ _ _ _ _ _ _ _ _ _ _ _ _ _ _ _ _ _ _ _ _ _ _ _ _ _ _ _ _ _ _ _ _ _ _ _ _ _ _ _ _ _ _ _ _ _ _ _ _ _ _ _ _ _ _ _ _ _ _ _ _ _ _ _ _ _ _ _ _ _ _ _ _ _ _ _ _ _ _ _ _ _ _ _ _ _ _ _ _ _ _ _ _ _ _ _ _ _ _ _ _ _ _ _ _ _ _ _ _ _ _ _ _ _ _ _ _ _ _ _ _ _ _ _ _ _ _ _ _ _ _ _ _ _ _ _ _ _ _ _ _ _ _ _ _ _ _ _ _ _ _ _ _ _ _ _ _ _ _ _ _ _ _ _ _ _ _ _ _ _ _ _ _ _ _ _ _ _ _ _ _ _ _ _ _ hN.out)
  cases e <;> first | exact h | exact h.elim
set_option maxHeartbeats 8000000 in
set_option maxRecDepth 1000000 in
theorem key_next_t (K : List ByteArray) (a : Addr) (kn kc h o n c m z b J : Nat) (R : Int) (q : Nat) (lm : Bool) (xs : List Int) (w wr : World) (E : Nat → Value) (hkl : K.length = kn) (hkm : kn ≤ 140737488351232) (hka : KeysAt w (some a) K) (hG : SW w E) (H : RowAt w h o xs) (hby : Bytes xs) (hl : xs.length = n) (hn : n ≤ 140737488351232) (hnc : n ≤ c) (HS : SL w h o n c wr) (hmb : m < b) (hbJ : b + J < z) (hz : z < n) (us : List Int) (hue : ue ((xs.drop b).take J) = some us)  (hq : q < kn) (hku : us = bytesOf (K.getD q ByteArray.empty)) (hnl : (q : Int) + 1 ≠ (kn : Int)) (hR : skR sks K xs (z + 1) ((q : Int) + 1) ((q : Int) + 1) true = R) (NX : Act → World → Prop)
    (u0 u1 u5 u6 u10 u14 u15 u17 u20 u21 u22 u23 u24 u25 u26 u27 u28 u29 u30 u31 u32 u33 u34 u35 u36 u37 u38 u39 u40 u41 u42 u43 u44 u45 u46 u47 u48 u49 u50 u51 u52 u53 u54 u55 u56 u57 u58 u59 u60 u61 u62 u63 u64 u65 u66 u67 u68 u69 u70 u71 u72 u73 u74 u75 u76 u77 u78 u79 u80 u81 u82 u83 u84 u85 u86 u87 u88 u89 u90 u91 u92 u93 u94 u95 u96 u97 u98 u99 u100 u101 u102 u103 u104 u105 u106 u107 u108 u109 u110 u111 u112 u113 u114 u115 u116 u117 u118 u119 u120 u122 u123 u124 u125 u126 u127 u128 u129 u130 u131 u132 u133 u134 u135 u136 u137 u138 u139 u140 u141 u142 u143 u144 u145 u146 u147 u148 u149 u150 u151 u152 u153 u154 u155 u156 u157 u158 u159 u160 u161 u162 u163 u164 u165 u166 u167 u168 u169 u170 u171 u172 u173 u174 u175 u176 u177 u178 u179 u180 u181 u182 u183 u184 u185 u186 u187 u188 u189 u190 u191 u192 u193 u194 u195 u196 u197 u198 u199 u200 u201 u202 u203 u204 u205 u206 u207 u208 u209 u210 u211 u212 u213 u214 u215 u216 u217 u218 u219 u220 u221 u222 u223 u224 u225 u226 u227 u228 u229 u230 u231 u232 u233 u234 u235 u236 u237 u238 u239 u240 u241 u242 u243 u244 u245 u246 u247 u248 u249 u250 u251 u252 u253 u254 u255 u256 u257 u258 u259 u260 u261 u262 u263 u264 u265 u266 u267 u268 u269 u270 u271 u272 u273 u274 u275 u276 u277 u278 u279 u280 u281 u282 : Value) (hN : ∀ (z2 : Nat) (kl2 : Int) (lm2 : Bool) (w2 : World) (v9 x15 x16 x17 x18 x19 x20 x21 x22 x23 x24 x77 x78 x79 x80 x81 x82 x83 x84 x85 x86 x87 x88 x89 x90 x91 x92 x93 x94 x95 x96 x97 x98 x99 x100 x101 x102 x103 x104 x105 x106 x107 x108 x109 x110 x111 x112 x113 x114 x115 x116 x117 x118 x119 x120 x121 x122 x123 x124 x125 x126 x127 x128 x129 x130 x131 x132 x133 x134 x135 x136 x137 x138 x139 x140 x141 x142 x143 x144 x145 x146 x147 x148 x149 x150 x151 x152 x153 x154 x155 x156 x157 x158 x159 x160 x161 x162 x163 : Value), v9 = .int .i64 (z2 : Int) → m ≤ z2 → z2 < n → SL w h o n c w2 → kl2 < (kn : Int) → (q : Int) ≤ kl2 → (0 ≤ kl2 ∨ kl2 < (q : Int) + 1) → skR sks K xs (z2 + 1) ((q : Int) + 1) kl2 lm2 = R → NX ⟨#[u0, u1, .slice (some a) kn kc, .pointer (some ⟨w.heap.size, 0, none⟩), .pointer (some ⟨w.heap.size + 1, 0, none⟩), u5, u6, .int .i64 kl2, .int .i64 ((q : Int) + 1), v9, u10, .int .i64 (kn : Int), .bool lm2, .pointer (some ⟨w.heap.size + 2, 0, none⟩), u14, x15, x16, x17, x18, x19, x20, x21, x22, x23, x24, u25, u26, u27, u28, u29, u30, u31, u32, u33, u34, u35, u36, u37, u38, u39, u40, u41, u42, u43, u44, u45, u46, u47, u48, u49, u50, u51, u52, u53, u54, u55, u56, u57, u58, u59, u60, u61, u62, u63, u64, u65, u66, u67, u68, u69, u70, u71, u72, u73, u74, u75, u76, x77, x78, x79, x80, x81, x82, x83, x84, x85, x86, x87, x88, x89, x90, x91, x92, x93, x94, x95, x96, x97, x98, x99, x100, x101, x102, x103, x104, x105, x106, x107, x108, x109, x110, x111, x112, x113, x114, x115, x116, x117, x118, x119, x120, x121, x122, x123, x124, x125, x126, x127, x128, x129, x130, x131, x132, x133, x134, x135, x136, x137, x138, x139, x140, x141, x142, x143, x144, x145, x146, x147, x148, x149, x150, x151, x152, x153, x154, x155, x156, x157, x158, x159, x160, x161, x162, x163, u164, u165, u166, u167, u168, u169, u170, u171, u172, u173, u174, u175, u176, u177, u178, u179, u180, u181, u182, u183, u184, u185, u186, u187, u188, u189, u190, u191, u192, u193, u194, u195, u196, u197, u198, u199, u200, u201, u202, u203, u204, u205, u206, u207, u208, u209, u210, u211, u212, u213, u214, u215, u216, u217, u218, u219, u220, u221, u222, u223, u224, u225, u226, u227, u228, u229, u230, u231, u232, u233, u234, u235, u236, u237, u238, u239, u240, u241, u242, u243, u244, u245, u246, u247, u248, u249, u250, u251, u252, u253, u254, u255, u256, u257, u258, u259, u260, u261, u262, u263, u264, u265, u266, u267, u268, u269, u270, u271, u272, u273, u274, u275, u276, u277, u278, u279, u280, u281, u282], []⟩ w2) :
    Code.wp Tryd.prog code35 (KP (bodyPost Tryd.prog Tryd.f67 (SKA R w) .ret) NX) ⟨#[u0, u1, .slice (some a) kn kc, .pointer (some ⟨w.heap.size, 0, none⟩), .pointer (some ⟨w.heap.size + 1, 0, none⟩), u5, u6, .int .i64 (q : Int), .int .i64 ((q : Int) + 1), .int .i64 (z : Int), u10, .int .i64 (kn : Int), .bool lm, .pointer (some ⟨w.heap.size + 2, 0, none⟩), u14, u15, .int .i64 (b : Int), u17, .bool true, .int .i64 ((b : Int) + (J : Int)), u20, u21, u22, u23, u24, u25, u26, u27, u28, u29, u30, u31, u32, u33, u34, u35, u36, u37, u38, u39, u40, u41, u42, u43, u44, u45, u46, u47, u48, u49, u50, u51, u52, u53, u54, u55, u56, u57, u58, u59, u60, u61, u62, u63, u64, u65, u66, u67, u68, u69, u70, u71, u72, u73, u74, u75, u76, u77, u78, u79, u80, u81, u82, u83, u84, u85, u86, u87, u88, u89, u90, u91, u92, u93, u94, u95, u96, u97, u98, u99, u100, u101, u102, u103, u104, u105, u106, u107, u108, u109, u110, u111, u112, u113, u114, u115, u116, u117, u118, u119, u120, .bool true, u122, u123, u124, u125, u126, u127, u128, u129, u130, u131, u132, u133, u134, u135, u136, u137, u138, u139, u140, u141, u142, u143, u144, u145, u146, u147, u148, u149, u150, u151, u152, u153, u154, u155, u156, u157, u158, u159, u160, u161, u162, u163, u164, u165, u166, u167, u168, u169, u170, u171, u172, u173, u174, u175, u176, u177, u178, u179, u180, u181, u182, u183, u184, u185, u186, u187, u188, u189, u190, u191, u192, u193, u194, u195, u196, u197, u198, u199, u200, u201, u202, u203, u204, u205, u206, u207, u208, u209, u210, u211, u212, u213, u214, u215, u216, u217, u218, u219, u220, u221, u222, u223, u224, u225, u226, u227, u228, u229, u230, u231, u232, u233, u234, u235, u236, u237, u238, u239, u240, u241, u242, u243, u244, u245, u246, u247, u248, u249, u250, u251, u252, u253, u254, u255, u256, u257, u258, u259, u260, u261, u262, u263, u264, u265, u266, u267, u268, u269, u270, u271, u272, u273, u274, u275, u276, u277, u278, u279, u280, u281, u282], []⟩ wr := by
  have hd := HS.dat
  have g0 := HS.cfg.2.1
  have g1 := HS.cfg.2.2.1
  have g2 := HS.cfg.2.2.2
  have HSw := Aside0.mk HS
  have hm : m ≤ z := by omega
  have hbJn : b + J ≤ n := by omega
  have hbc : (c = b) = False := eq_false (by omega)
  have hbJ0 : (b : Int) ≤ (b : Int) + (J : Int) := by omega
  have hbJ1 : ((b : Int) + (J : Int)).toNat = b + J := by omega
  have hbJ2 : (0 : Int) ≤ (b : Int) + (J : Int) := by omega
  have hbJ3 : (b : Int) + (J : Int) ≤ (c : Int) := by omega
  replace hN := Aside0.mk hN
  replace hku := Aside0.mk hku
  replace hR := Aside0.mk hR
  have hq1 : ¬ (q : Int) + 1 < 1 := by omega
  have hqk : (q : Int) + 1 ≤ (kn : Int) := by omega
  have hkl := Aside0.mk hkl
  have hka := Aside0.mk hka
  have hby := Aside0.mk hby
  have H := Aside0.mk H
  have hl := Aside0.mk hl
  have hX := cell_new wr (.slice none 0 0) 54
  have hXlt : w.heap.size + 2 < wr.heap.size := HSw.out.buf.1
  have HA := Aside0.mk (HSw.out.step (below_alloc1 (.cells #[.slice none 0 0] 54)))
  have CU := Aside0.mk (uk_calls E h o n c b J wr.heap.size xs w (wr.alloc (.cells #[.slice none 0 0] 54)).drew hG H.out hby.out hl.out hn hnc hbJn (HA.out.step (Below.refl _ _).drew) hX.1 hX.2 (by show _ < (wr.alloc _).heap.size; rw [World.size_alloc]; omega) hXlt)
  have hUB := Aside0.mk (ue_bytes (fun x hx => hby.out.drop b x (List.mem_of_mem_take hx)) hue)
  unfold UKA at CU
  rw [hue] at CU
  simp only [] at CU
  have a0 := HA.out.cfg.2.1
  have a1 := HA.out.cfg.2.2.1
  have a2 := HA.out.cfg.2.2.2
  clear hue hX
  clear hG HS
  conv => arg 2; whnf
  go_upto_region 41 with fail
  go_cut [23, 24] from 131 to 137 (fun v23 v24 wx => ∃ g g0 cap, v23 = .slice (some ⟨g, g0, none⟩) us.length cap ∧ v24 = .nilIface ∧ Aside0 (RowAt wx g g0 us) ∧ Aside0 (SL w h o n c wx) ∧ Aside0 (wx.cell? ⟨wr.heap.size, 0, none⟩ = some (.slice none 0 0) ∧ wx.frozen? ⟨wr.heap.size, 0, none⟩ = false))
  case first =>
    go_region_with (go_at_call 78; refine CU.out.mono ?_; rintro e w2 ⟨g, g0, cap, rfl, hrow, HS2, HX2⟩)
    all_goals go_wp2_with fail
    all_goals go_meet
    all_goals exact ⟨_, _, _, rfl, rfl, hrow, HS2, HX2⟩
  case rest =>
  obtain ⟨g, g0, cap, rfl, rfl, hrow, HS2, HX2⟩ := hcut
  have KS := Aside0.mk (ku_put (C := cap) HS2.out HX2.out.1 hXlt hrow.out hUB.out)
  have x1 := HX2.out.1
  have x2 := HX2.out.2
  clear hd g1 g2 a0 a1 a2
  go_upto_if 144 with fail
  refine Code.wp_mono (fun e a w h => ?_) (cmp_next K a kn kc h o n c m z q wr.heap.size g g0 us.length cap R ((q : Int) + 1) lm xs us w _ hkl.out hkm hka.out hn KS.out hm hz rfl hq hku.out hnl hR.out NX _ _ _ _ _ _ _ _ _ _ _ _ _ _ _ _ _ _ _ _ _ _ _ _ _ _ _ _ _ _ _ _ _ _ _ _ _ _ _ _ _ _ _ _ _ _ _ _ _ _ _ _ _ _ _ _ _ _ _ _ _ _ _ _ _ _ _ _ _ _ _ _ _ _ _ _ _ _ _ _ _ _ _ _ _ _ _ _ _ _ _ _ _ _ _ _ _ _ _ _ _ _ _ _ _ _ _ _ _ _ _ _ _ _ _ _ _ _ _ _ _ _ _ _ _ _ _ _ _ _ _ _ _ _ _ _ _ _ _ _ _ _ _ _ _ _ _ _ _ _ _ _ _ _ _ _ _ _ _ _ _ _ _ _ _ _ _ _ _ _ _ _ _ _ _ _ _ _ _ _ _ _ _ _ _ _ _ _ _ _ _ _ _ _ _ _ _ _ _ _ _ _ _ _ _ _ _ _ _ _ _ _ _ _ _ _ _ _ _ _ _ _ _ _ _ _ _ _ _ _ _ _ _ _ _ _ _ _ _ _ _ _ _ _ _ _ _ _ _ _ _ _ _ _ _ _ _ _ _ _ _ _ _ _ _ _ _ _ _ _ _ _ _ _ _ hN.out)
  cases e <;> first | exact h | exact h.elim
set_option maxHeartbeats 8000000 in
set_option maxRecDepth 1000000 in
theorem key_last_t (K : List ByteArray) (a : Addr) (kn kc h o n c m z b J : Nat) (R : Int) (q : Nat) (lm : Bool) (xs : List Int) (w wr : World) (E : Nat → Value) (hkl : K.length = kn) (hkm : kn ≤ 140737488351232) (hka : KeysAt w (some a) K) (hG : SW w E) (H : RowAt w h o xs) (hby : Bytes xs) (hl : xs.length = n) (hn : n ≤ 140737488351232) (hnc : n ≤ c) (HS : SL w h o n c wr) (hmb : m < b) (hbJ : b + J < z) (hz : z < n) (us : List Int) (hue : ue ((xs.drop b).take J) = some us)  (hq : q < kn) (hku : us = bytesOf (K.getD q ByteArray.empty)) (hnl : (q : Int) + 1 = (kn : Int)) (hR : (z : Int) + 1 = R) (NX : Act → World → Prop)
    (u0 u1 u5 u6 u10 u14 u15 u17 u20 u21 u22 u23 u24 u25 u26 u27 u28 u29 u30 u31 u32 u33 u34 u35 u36 u37 u38 u39 u40 u41 u42 u43 u44 u45 u46 u47 u48 u49 u50 u51 u52 u53 u54 u55 u56 u57 u58 u59 u60 u61 u62 u63 u64 u65 u66 u67 u68 u69 u70 u71 u72 u73 u74 u75 u76 u77 u78 u79 u80 u81 u82 u83 u84 u85 u86 u87 u88 u89 u90 u91 u92 u93 u94 u95 u96 u97 u98 u99 u100 u101 u102 u103 u104 u105 u106 u107 u108 u109 u110 u111 u112 u113 u114 u115 u116 u117 u118 u119 u120 u122 u123 u124 u125 u126 u127 u128 u129 u130 u131 u132 u133 u134 u135 u136 u137 u138 u139 u140 u141 u142 u143 u144 u145 u146 u147 u148 u149 u150 u151 u152 u153 u154 u155 u156 u157 u158 u159 u160 u161 u162 u163 u164 u165 u166 u167 u168 u169 u170 u171 u172 u173 u174 u175 u176 u177 u178 u179 u180 u181 u182 u183 u184 u185 u186 u187 u188 u189 u190 u191 u192 u193 u194 u195 u196 u197 u198 u199 u200 u201 u202 u203 u204 u205 u206 u207 u208 u209 u210 u211 u212 u213 u214 u215 u216 u217 u218 u219 u220 u221 u222 u223 u224 u225 u226 u227 u228 u229 u230 u231 u232 u233 u234 u235 u236 u237 u238 u239 u240 u241 u242 u243 u244 u245 u246 u247 u248 u249 u250 u251 u252 u253 u254 u255 u256 u257 u258 u259 u260 u261 u262 u263 u264 u265 u266 u267 u268 u269 u270 u271 u272 u273 u274 u275 u276 u277 u278 u279 u280 u281 u282 : Value) (hN : ∀ (z2 : Nat) (kl2 : Int) (lm2 : Bool) (w2 : World) (v9 x15 x16 x17 x18 x19 x20 x21 x22 x23 x24 x77 x78 x79 x80 x81 x82 x83 x84 x85 x86 x87 x88 x89 x90 x91 x92 x93 x94 x95 x96 x97 x98 x99 x100 x101 x102 x103 x104 x105 x106 x107 x108 x109 x110 x111 x112 x113 x114 x115 x116 x117 x118 x119 x120 x121 x122 x123 x124 x125 x126 x127 x128 x129 x130 x131 x132 x133 x134 x135 x136 x137 x138 x139 x140 x141 x142 x143 x144 x145 x146 x147 x148 x149 x150 x151 x152 x153 x154 x155 x156 x157 x158 x159 x160 x161 x162 x163 : Value), v9 = .int .i64 (z2 : Int) → m ≤ z2 → z2 < n → SL w h o n c w2 → kl2 < (kn : Int) → (q : Int) ≤ kl2 → (0 ≤ kl2 ∨ kl2 < (q : Int) + 1) → skR sks K xs (z2 + 1) ((q : Int) + 1) kl2 lm2 = R → NX ⟨#[u0, u1, .slice (some a) kn kc, .pointer (some ⟨w.heap.size, 0, none⟩), .pointer (some ⟨w.heap.size + 1, 0, none⟩), u5, u6, .int .i64 kl2, .int .i64 ((q : Int) + 1), v9, u10, .int .i64 (kn : Int), .bool lm2, .pointer (some ⟨w.heap.size + 2, 0, none⟩), u14, x15, x16, x17, x18, x19, x20, x21, x22, x23, x24, u25, u26, u27, u28, u29, u30, u31, u32, u33, u34, u35, u36, u37, u38, u39, u40, u41, u42, u43, u44, u45, u46, u47, u48, u49, u50, u51, u52, u53, u54, u55, u56, u57, u58, u59, u60, u61, u62, u63, u64, u65, u66, u67, u68, u69, u70, u71, u72, u73, u74, u75, u76, x77, x78, x79, x80, x81, x82, x83, x84, x85, x86, x87, x88, x89, x90, x91, x92, x93, x94, x95, x96, x97, x98, x99, x100, x101, x102, x103, x104, x105, x106, x107, x108, x109, x110, x111, x112, x113, x114, x115, x116, x117, x118, x119, x120, x121, x122, x123, x124, x125, x126, x127, x128, x129, x130, x131, x132, x133, x134, x135, x136, x137, x138, x139, x140, x141, x142, x143, x144, x145, x146, x147, x148, x149, x150, x151, x152, x153, x154, x155, x156, x157, x158, x159, x160, x161, x162, x163, u164, u165, u166, u167, u168, u169, u170, u171, u172, u173, u174, u175, u176, u177, u178, u179, u180, u181, u182, u183, u184, u185, u186, u187, u188, u189, u190, u191, u192, u193, u194, u195, u196, u197, u198, u199, u200, u201, u202, u203, u204, u205, u206, u207, u208, u209, u210, u211, u212, u213, u214, u215, u216, u217, u218, u219, u220, u221, u222, u223, u224, u225, u226, u227, u228, u229, u230, u231, u232, u233, u234, u235, u236, u237, u238, u239, u240, u241, u242, u243, u244, u245, u246, u247, u248, u249, u250, u251, u252, u253, u254, u255, u256, u257, u258, u259, u260, u261, u262, u263, u264, u265, u266, u267, u268, u269, u270, u271, u272, u273, u274, u275, u276, u277, u278, u279, u280, u281, u282], []⟩ w2) :
    Code.wp Tryd.prog code35 (KP (bodyPost Tryd.prog Tryd.f67 (SKA R w) .ret) NX) ⟨#[u0, u1, .slice (some a) kn kc, .pointer (some ⟨w.heap.size, 0, none⟩), .pointer (some ⟨w.heap.size + 1, 0, none⟩), u5, u6, .int .i64 (q : Int), .int .i64 ((q : Int) + 1), .int .i64 (z : Int), u10, .int .i64 (kn : Int), .bool lm, .pointer (some ⟨w.heap.size + 2, 0, none⟩), u14, u15, .int .i64 (b : Int), u17, .bool true, .int .i64 ((b : Int) + (J : Int)), u20, u21, u22, u23, u24, u25, u26, u27, u28, u29, u30, u31, u32, u33, u34, u35, u36, u37, u38, u39, u40, u41, u42, u43, u44, u45, u46, u47, u48, u49, u50, u51, u52, u53, u54, u55, u56, u57, u58, u59, u60, u61, u62, u63, u64, u65, u66, u67, u68, u69, u70, u71, u72, u73, u74, u75, u76, u77, u78, u79, u80, u81, u82, u83, u84, u85, u86, u87, u88, u89, u90, u91, u92, u93, u94, u95, u96, u97, u98, u99, u100, u101, u102, u103, u104, u105, u106, u107, u108, u109, u110, u111, u112, u113, u114, u115, u116, u117, u118, u119, u120, .bool true, u122, u123, u124, u125, u126, u127, u128, u129, u130, u131, u132, u133, u134, u135, u136, u137, u138, u139, u140, u141, u142, u143, u144, u145, u146, u147, u148, u149, u150, u151, u152, u153, u154, u155, u156, u157, u158, u159, u160, u161, u162, u163, u164, u165, u166, u167, u168, u169, u170, u171, u172, u173, u174, u175, u176, u177, u178, u179, u180, u181, u182, u183, u184, u185, u186, u187, u188, u189, u190, u191, u192, u193, u194, u195, u196, u197, u198, u199, u200, u201, u202, u203, u204, u205, u206, u207, u208, u209, u210, u211, u212, u213, u214, u215, u216, u217, u218, u219, u220, u221, u222, u223, u224, u225, u226, u227, u228, u229, u230, u231, u232, u233, u234, u235, u236, u237, u238, u239, u240, u241, u242, u243, u244, u245, u246, u247, u248, u249, u250, u251, u252, u253, u254, u255, u256, u257, u258, u259, u260, u261, u262, u263, u264, u265, u266, u267, u268, u269, u270, u271, u272, u273, u274, u275, u276, u277, u278, u279, u280, u281, u282], []⟩ wr := by
  have hd := HS.dat
  have g0 := HS.cfg.2.1
  have g1 := HS.cfg.2.2.1
  have g2 := HS.cfg.2.2.2
  have HSw := Aside0.mk HS
  have hm : m ≤ z := by omega
  have hbJn : b + J ≤ n := by omega
  have hbc : (c = b) = False := eq_false (by omega)
  have hbJ0 : (b : Int) ≤ (b : Int) + (J : Int) := by omega
  have hbJ1 : ((b : Int) + (J : Int)).toNat = b + J := by omega
  have hbJ2 : (0 : Int) ≤ (b : Int) + (J : Int) := by omega
  have hbJ3 : (b : Int) + (J : Int) ≤ (c : Int) := by omega
  replace hN := Aside0.mk hN
  replace hku := Aside0.mk hku
  replace hR := Aside0.mk hR
  replace hnl := Aside0.mk hnl
  have hq1 : ¬ (q : Int) + 1 < 1 := by omega
  have hqk : (q : Int) + 1 ≤ (kn : Int) := by omega
  have hkl := Aside0.mk hkl
  have hka := Aside0.mk hka
  have hby := Aside0.mk hby
  have H := Aside0.mk H
  have hl := Aside0.mk hl
  have hX := cell_new wr (.slice none 0 0) 54
  have hXlt : w.heap.size + 2 < wr.heap.size := HSw.out.buf.1
  have HA := Aside0.mk (HSw.out.step (below_alloc1 (.cells #[.slice none 0 0] 54)))
  have CU := Aside0.mk (uk_calls E h o n c b J wr.heap.size xs w (wr.alloc (.cells #[.slice none 0 0] 54)).drew hG H.out hby.out hl.out hn hnc hbJn (HA.out.step (Below.refl _ _).drew) hX.1 hX.2 (by show _ < (wr.alloc _).heap.size; rw [World.size_alloc]; omega) hXlt)
  have hUB := Aside0.mk (ue_bytes (fun x hx => hby.out.drop b x (List.mem_of_mem_take hx)) hue)
  unfold UKA at CU
  rw [hue] at CU
  simp only [] at CU
  have a0 := HA.out.cfg.2.1
  have a1 := HA.out.cfg.2.2.1
  have a2 := HA.out.cfg.2.2.2
  clear hue hX
  clear hG HS
  conv => arg 2; whnf
  go_upto_region 41 with fail
  go_cut [23, 24] from 131 to 137 (fun v23 v24 wx => ∃ g g0 cap, v23 = .slice (some ⟨g, g0, none⟩) us.length cap ∧ v24 = .nilIface ∧ Aside0 (RowAt wx g g0 us) ∧ Aside0 (SL w h o n c wx) ∧ Aside0 (wx.cell? ⟨wr.heap.size, 0, none⟩ = some (.slice none 0 0) ∧ wx.frozen? ⟨wr.heap.size, 0, none⟩ = false))
  case first =>
    go_region_with (go_at_call 78; refine CU.out.mono ?_; rintro e w2 ⟨g, g0, cap, rfl, hrow, HS2, HX2⟩)
    all_goals go_wp2_with fail
    all_goals go_meet
    all_goals exact ⟨_, _, _, rfl, rfl, hrow, HS2, HX2⟩
  case rest =>
  obtain ⟨g, g0, cap, rfl, rfl, hrow, HS2, HX2⟩ := hcut
  have KS := Aside0.mk (ku_put (C := cap) HS2.out HX2.out.1 hXlt hrow.out hUB.out)
  have x1 := HX2.out.1
  have x2 := HX2.out.2
  clear hd g1 g2 a0 a1 a2
  go_upto_if 144 with fail
  refine Code.wp_mono (fun e a w h => ?_) (cmp_last K a kn kc h o n c m z q wr.heap.size g g0 us.length cap R ((q : Int) + 1) lm xs us w _ hkl.out hkm hka.out hn KS.out hm hz rfl hq hku.out hnl.out hR.out NX _ _ _ _ _ _ _ _ _ _ _ _ _ _ _ _ _ _ _ _ _ _ _ _ _ _ _ _ _ _ _ _ _ _ _ _ _ _ _ _ _ _ _ _ _ _ _ _ _ _ _ _ _ _ _ _ _ _ _ _ _ _ _ _ _ _ _ _ _ _ _ _ _ _ _ _ _ _ _ _ _ _ _ _ _ _ _ _ _ _ _ _ _ _ _ _ _ _ _ _ _ _ _ _ _ _ _ _ _ _ _ _ _ _ _ _ _ _ _ _ _ _ _ _ _ _ _ _ _ _ _ _ _ _ _ _ _ _ _ _ _ _ _ _ _ _ _ _ _ _ _ _ _ _ _ _ _ _ _ _ _ _ _ _ _ _ _ _ _ _ _ _ _ _ _ _ _ _ _ _ _ _ _ _ _ _ _ _ _ _ _ _ _ _ _ _ _ _ _ _ _ _ _ _ _ _ _ _ _ _ _ _ _ _ _ _ _ _ _ _ _ _ _ _ _ _ _ _ _ _ _ _ _ _ _ _ _ _ _ _ _ _ _ _ _ _ _ _ _ _ _ _ _ _ _ _ _ _ _ _ _ _ _ _ _ _ _ _ _ _ _ _ _ _ _ hN.out)
  cases e <;> first | exact h | exact h.elim
set_option maxHeartbeats 8000000 in
set_option maxRecDepth 1000000 in
theorem key_bad (K : List ByteArray) (a : Addr) (kn kc h o n c m z b J : Nat) (R kl lv : Int) (lm : Bool) (xs : List Int) (w wr : World) (E : Nat → Value) (hkl : K.length = kn) (hkm : kn ≤ 140737488351232) (hka : KeysAt w (some a) K) (hG : SW w E) (H : RowAt w h o xs) (hby : Bytes xs) (hl : xs.length = n) (hn : n ≤ 140737488351232) (hnc : n ≤ c) (HS : SL w h o n c wr) (hmb : m < b) (hbJ : b + J < z) (hz : z < n) (hlv1 : 1 ≤ lv) (hue : ue ((xs.drop b).take J) = none) (NX : Act → World → Prop)
    (u0 u1 u5 u6 u10 u14 u15 u17 u20 u21 u22 u23 u24 u25 u26 u27 u28 u29 u30 u31 u32 u33 u34 u35 u36 u37 u38 u39 u40 u41 u42 u43 u44 u45 u46 u47 u48 u49 u50 u51 u52 u53 u54 u55 u56 u57 u58 u59 u60 u61 u62 u63 u64 u65 u66 u67 u68 u69 u70 u71 u72 u73 u74 u75 u76 u77 u78 u79 u80 u81 u82 u83 u84 u85 u86 u87 u88 u89 u90 u91 u92 u93 u94 u95 u96 u97 u98 u99 u100 u101 u102 u103 u104 u105 u106 u107 u108 u109 u110 u111 u112 u113 u114 u115 u116 u117 u118 u119 u120 u122 u123 u124 u125 u126 u127 u128 u129 u130 u131 u132 u133 u134 u135 u136 u137 u138 u139 u140 u141 u142 u143 u144 u145 u146 u147 u148 u149 u150 u151 u152 u153 u154 u155 u156 u157 u158 u159 u160 u161 u162 u163 u164 u165 u166 u167 u168 u169 u170 u171 u172 u173 u174 u175 u176 u177 u178 u179 u180 u181 u182 u183 u184 u185 u186 u187 u188 u189 u190 u191 u192 u193 u194 u195 u196 u197 u198 u199 u200 u201 u202 u203 u204 u205 u206 u207 u208 u209 u210 u211 u212 u213 u214 u215 u216 u217 u218 u219 u220 u221 u222 u223 u224 u225 u226 u227 u228 u229 u230 u231 u232 u233 u234 u235 u236 u237 u238 u239 u240 u241 u242 u243 u244 u245 u246 u247 u248 u249 u250 u251 u252 u253 u254 u255 u256 u257 u258 u259 u260 u261 u262 u263 u264 u265 u266 u267 u268 u269 u270 u271 u272 u273 u274 u275 u276 u277 u278 u279 u280 u281 u282 : Value) (hN : ∀ (z2 : Nat) (kl2 : Int) (lm2 : Bool) (w2 : World) (v9 x15 x16 x17 x18 x19 x20 x21 x22 x23 x24 x77 x78 x79 x80 x81 x82 x83 x84 x85 x86 x87 x88 x89 x90 x91 x92 x93 x94 x95 x96 x97 x98 x99 x100 x101 x102 x103 x104 x105 x106 x107 x108 x109 x110 x111 x112 x113 x114 x115 x116 x117 x118 x119 x120 x121 x122 x123 x124 x125 x126 x127 x128 x129 x130 x131 x132 x133 x134 x135 x136 x137 x138 x139 x140 x141 x142 x143 x144 x145 x146 x147 x148 x149 x150 x151 x152 x153 x154 x155 x156 x157 x158 x159 x160 x161 x162 x163 : Value), v9 = .int .i64 (z2 : Int) → m ≤ z2 → z2 < n → SL w h o n c w2 → kl2 < (kn : Int) → kl ≤ kl2 → (0 ≤ kl2 ∨ kl2 < lv) → skR sks K xs (z2 + 1) lv kl2 lm2 = R → NX ⟨#[u0, u1, .slice (some a) kn kc, .pointer (some ⟨w.heap.size, 0, none⟩), .pointer (some ⟨w.heap.size + 1, 0, none⟩), u5, u6, .int .i64 kl2, .int .i64 lv, v9, u10, .int .i64 (kn : Int), .bool lm2, .pointer (some ⟨w.heap.size + 2, 0, none⟩), u14, x15, x16, x17, x18, x19, x20, x21, x22, x23, x24, u25, u26, u27, u28, u29, u30, u31, u32, u33, u34, u35, u36, u37, u38, u39, u40, u41, u42, u43, u44, u45, u46, u47, u48, u49, u50, u51, u52, u53, u54, u55, u56, u57, u58, u59, u60, u61, u62, u63, u64, u65, u66, u67, u68, u69, u70, u71, u72, u73, u74, u75, u76, x77, x78, x79, x80, x81, x82, x83, x84, x85, x86, x87, x88, x89, x90, x91, x92, x93, x94, x95, x96, x97, x98, x99, x100, x101, x102, x103, x104, x105, x106, x107, x108, x109, x110, x111, x112, x113, x114, x115, x116, x117, x118, x119, x120, x121, x122, x123, x124, x125, x126, x127, x128, x129, x130, x131, x132, x133, x134, x135, x136, x137, x138, x139, x140, x141, x142, x143, x144, x145, x146, x147, x148, x149, x150, x151, x152, x153, x154, x155, x156, x157, x158, x159, x160, x161, x162, x163, u164, u165, u166, u167, u168, u169, u170, u171, u172, u173, u174, u175, u176, u177, u178, u179, u180, u181, u182, u183, u184, u185, u186, u187, u188, u189, u190, u191, u192, u193, u194, u195, u196, u197, u198, u199, u200, u201, u202, u203, u204, u205, u206, u207, u208, u209, u210, u211, u212, u213, u214, u215, u216, u217, u218, u219, u220, u221, u222, u223, u224, u225, u226, u227, u228, u229, u230, u231, u232, u233, u234, u235, u236, u237, u238, u239, u240, u241, u242, u243, u244, u245, u246, u247, u248, u249, u250, u251, u252, u253, u254, u255, u256, u257, u258, u259, u260, u261, u262, u263, u264, u265, u266, u267, u268, u269, u270, u271, u272, u273, u274, u275, u276, u277, u278, u279, u280, u281, u282], []⟩ w2) :
    Code.wp Tryd.prog code35 (KP (bodyPost Tryd.prog Tryd.f67 (SKA (-1) w) .ret) NX) ⟨#[u0, u1, .slice (some a) kn kc, .pointer (some ⟨w.heap.size, 0, none⟩), .pointer (some ⟨w.heap.size + 1, 0, none⟩), u5, u6, .int .i64 kl, .int .i64 lv, .int .i64 (z : Int), u10, .int .i64 (kn : Int), .bool lm, .pointer (some ⟨w.heap.size + 2, 0, none⟩), u14, u15, .int .i64 (b : Int), u17, .bool true, .int .i64 ((b : Int) + (J : Int)), u20, u21, u22, u23, u24, u25, u26, u27, u28, u29, u30, u31, u32, u33, u34, u35, u36, u37, u38, u39, u40, u41, u42, u43, u44, u45, u46, u47, u48, u49, u50, u51, u52, u53, u54, u55, u56, u57, u58, u59, u60, u61, u62, u63, u64, u65, u66, u67, u68, u69, u70, u71, u72, u73, u74, u75, u76, u77, u78, u79, u80, u81, u82, u83, u84, u85, u86, u87, u88, u89, u90, u91, u92, u93, u94, u95, u96, u97, u98, u99, u100, u101, u102, u103, u104, u105, u106, u107, u108, u109, u110, u111, u112, u113, u114, u115, u116, u117, u118, u119, u120, .bool true, u122, u123, u124, u125, u126, u127, u128, u129, u130, u131, u132, u133, u134, u135, u136, u137, u138, u139, u140, u141, u142, u143, u144, u145, u146, u147, u148, u149, u150, u151, u152, u153, u154, u155, u156, u157, u158, u159, u160, u161, u162, u163, u164, u165, u166, u167, u168, u169, u170, u171, u172, u173, u174, u175, u176, u177, u178, u179, u180, u181, u182, u183, u184, u185, u186, u187, u188, u189, u190, u191, u192, u193, u194, u195, u196, u197, u198, u199, u200, u201, u202, u203, u204, u205, u206, u207, u208, u209, u210, u211, u212, u213, u214, u215, u216, u217, u218, u219, u220, u221, u222, u223, u224, u225, u226, u227, u228, u229, u230, u231, u232, u233, u234, u235, u236, u237, u238, u239, u240, u241, u242, u243, u244, u245, u246, u247, u248, u249, u250, u251, u252, u253, u254, u255, u256, u257, u258, u259, u260, u261, u262, u263, u264, u265, u266, u267, u268, u269, u270, u271, u272, u273, u274, u275, u276, u277, u278, u279, u280, u281, u282], []⟩ wr := by
  have hd := HS.dat
  have g0 := HS.cfg.2.1
  have g1 := HS.cfg.2.2.1
  have g2 := HS.cfg.2.2.2
  have HSw := Aside0.mk HS
  have hm : m ≤ z := by omega
  have hbJn : b + J ≤ n := by omega
  have hbc : (c = b) = False := eq_false (by omega)
  have hbJ0 : (b : Int) ≤ (b : Int) + (J : Int) := by omega
  have hbJ1 : ((b : Int) + (J : Int)).toNat = b + J := by omega
  have hbJ2 : (0 : Int) ≤ (b : Int) + (J : Int) := by omega
  have hbJ3 : (b : Int) + (J : Int) ≤ (c : Int) := by omega
  clear hN
  have hkl := Aside0.mk hkl
  have hka := Aside0.mk hka
  have hby := Aside0.mk hby
  have H := Aside0.mk H
  have hl := Aside0.mk hl
  have hX := cell_new wr (.slice none 0 0) 54
  have hXlt : w.heap.size + 2 < wr.heap.size := HSw.out.buf.1
  have HA := Aside0.mk (HSw.out.step (below_alloc1 (.cells #[.slice none 0 0] 54)))
  have CU := Aside0.mk (uk_calls E h o n c b J wr.heap.size xs w (wr.alloc (.cells #[.slice none 0 0] 54)).drew hG H.out hby.out hl.out hn hnc hbJn (HA.out.step (Below.refl _ _).drew) hX.1 hX.2 (by show _ < (wr.alloc _).heap.size; rw [World.size_alloc]; omega) hXlt)
  unfold UKA at CU
  rw [hue] at CU
  simp only [] at CU
  have a0 := HA.out.cfg.2.1
  have a1 := HA.out.cfg.2.2.1
  have a2 := HA.out.cfg.2.2.2
  have hlv0 : ¬ lv < 1 := by omega
  clear hue hX
  clear hG HS
  conv => arg 2; whnf
  go_upto_region 41 with fail
  go_cut [23, 24] from 131 to 137 (fun v23 v24 wx => (∃ A, v24 = .iface 158 (.pointer (some A))) ∧ Aside0 (SL w h o n c wx))
  case first =>
    go_region_with (go_at_call 78; refine CU.out.mono ?_; rintro e w2 ⟨A, rfl, HS2⟩)
    all_goals go_wp2_with fail
    all_goals go_meet
    all_goals exact ⟨⟨_, rfl⟩, HS2⟩
  case rest =>
  obtain ⟨⟨A, rfl⟩, HS2⟩ := hcut
  clear hd g0 g1 g2 a0 a1 a2
  go_wp2_with fail
  show bodyPost Tryd.prog Tryd.f67 _ Exit.ret _ _
  go_ret
  exact ⟨rfl, HS2.out.below⟩
end Go.Proofs.YtpahejmkidhhhaaDoor.G
end

section
namespace Go.Proofs.YtpahejmkidhhhaaDoor.G
set_option linter.unusedVariables false
set_option linter.unusedSimpArgs false
open Go.RowKit Go.Proofs.YtpahejmkidhhhaaDoorW.PrintWords

noncomputable def code21 : Code := ((Tryd.f67.body.bind (brR 21)).getD .skip)
end Go.Proofs.YtpahejmkidhhhaaDoor.G
end
