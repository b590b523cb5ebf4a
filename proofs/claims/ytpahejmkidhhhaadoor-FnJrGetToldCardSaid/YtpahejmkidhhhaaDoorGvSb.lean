/- searchKeys: behind an index: the search goes on in the element. -/
import Derived.Test.YtpahejmkidhhhaaDoorGvSw
import Derived.Lib.LazyBuf
namespace Go.Proofs.YtpahejmkidhhhaaDoor.G
set_option linter.unusedVariables false
set_option linter.unusedSimpArgs false
open Go.RowKit Go.Proofs.YtpahejmkidhhhaaDoorW.PrintWords

theorem bytes_at (s : ByteArray) : ∀ i (hi : i < s.size), (bytesOf s).getD i 0 = ((s[i]'hi).toNat : Int) := by
  intro i hi
  have h2 : i < s.data.toList.length := by simpa using hi
  unfold bytesOf
  rw [List.getD_eq_getElem?_getD, List.getElem?_map, List.getElem?_eq_getElem h2]
  simp
  rfl

/-- The number of the first region of a code. -/
def hdR : Code → Nat
  | .region n _ _ => n
  | .seq x _ => hdR x
  | .block _ x => hdR x
  | .scope x => hdR x
  | .loop x => hdR x
  | _ => 100000
/-- The test with a branch that begins with a region. -/
def brR (n : Nat) : Code → Option Code
  | .cond x t e => if hdR t = n ∨ hdR e = n then some (.cond x t e) else match brR n t with
    | some c => some c
    | none => brR n e
  | .seq x y => match brR n x with
    | some c => some c
    | none => brR n y
  | .block _ x => brR n x
  | .scope x => brR n x
  | .loop x => brR n x
  | _ => none
noncomputable def code81 : Code := ((Tryd.f67.body.bind (brR 81)).getD .skip)
/-- A post at a return alone. -/
def RetOnly (P : Act → World → Prop) : Exit → Act → World → Prop
  | .ret, a, w => P a w
  | _, _, _ => False
def Sub (E : Nat → Value) (K : List ByteArray) : Prop := ∀ (K' : List ByteArray) (ka : Option Addr) (kc h o n c : Nat) (xs : List Int) (w : World), K'.length < K.length → (∀ s ∈ K', s.size ≤ 281474976710656) → K'.length ≤ kc → KeysAt w ka K' → SW w E → RowAt w h o xs → Bytes xs → xs.length = n → n ≤ 140737488351232 → n ≤ c →
  Calls Tryd.prog 67 #[.agg #[.bool false, .bool false, .int .i64 0], .slice (some ⟨h, o, none⟩) n c, .slice ka K'.length kc] w (SKA (sks K' xs) w)
def CSub (w : World) (h X L C : Nat) (ka : Option Addr) (kn kc : Nat) (sv : Int) : Prop := ∀ W, Below w.heap.size w W → Calls Tryd.prog 67 #[.agg #[.bool false, .bool false, .int .i64 0], .slice (some ⟨h, X, none⟩) L C, .slice ka kn kc] W (fun e w' => e = .returned (.int .i64 sv) ∧ Below W.heap.size W w')
set_option maxHeartbeats 8000000 in
set_option maxRecDepth 1000000 in
theorem tail_a (a : Addr) (kn kc h o n c m p B X L C F : Nat) (q : Nat) (w wc : World) (HS : SL w h o n c wc) (c3 : wc.cell? ⟨B + 2, 0, none⟩ = some (.slice (some ⟨h, o + X, none⟩) L C)) (c4 : wc.cell? ⟨B + 3, 0, none⟩ = some (.int .i64 (F : Int))) (hlt : B + 3 < wc.heap.size) (hkp : ¬ kc = p + 1) (CS : CSub wc h (o + X) L C (some (a.add (p + 1))) (kn - (p + 1)) (kc - (p + 1)) (q : Int)) (hkn : kn ≤ 140737488351232) (hn : n ≤ 140737488351232) (hp1 : p + 1 ≤ kn) (hkc : kn ≤ kc) (hFL : m + F + L ≤ n) (hq : q ≤ L)
    (u0 u1 u4 u5 u6 u7 u10 u11 u12 u13 u14 u15 u16 u17 u18 u19 u20 u21 u22 u23 u24 u25 u26 u27 u28 u29 u32 u33 u34 u35 u36 u37 u38 u39 u40 u41 u42 u43 u44 u45 u46 u47 u48 u49 u50 u51 u52 u53 u54 u55 u56 u57 u58 u59 u60 u61 u62 u63 u64 u65 u66 u67 u68 u69 u70 u71 u72 u73 u74 u75 u76 u77 u78 u79 u80 u81 u82 u83 u84 u85 u86 u87 u88 u89 u90 u91 u92 u93 u94 u95 u96 u97 u98 u99 u100 u101 u102 u103 u104 u105 u106 u107 u108 u109 u110 u111 u112 u113 u114 u115 u116 u117 u118 u119 u120 u121 u122 u123 u124 u125 u126 u127 u128 u129 u130 u131 u132 u133 u134 u135 u136 u137 u138 u139 u140 u141 u142 u143 u144 u145 u146 u147 u148 u149 u150 u151 u152 u153 u154 u155 u156 u157 u158 u159 u160 u161 u162 u163 u164 u165 u166 u167 u168 u169 u170 u171 u172 u173 u174 u175 u176 u177 u178 u179 u180 u181 u182 u183 u184 u185 u186 u187 u188 u189 u190 u191 u192 u193 u194 u195 u196 u197 u198 u199 u200 u201 u202 u203 u204 u205 u206 u207 u208 u209 u210 u211 u212 u213 u214 u215 u216 u217 u218 u219 u220 u221 u222 u223 u224 u225 u226 u227 u228 u229 u230 u231 u232 u233 u234 u235 u236 u237 u238 u239 u240 u241 u242 u243 u244 u245 u246 u247 u248 u249 u250 u251 u252 u254 u255 u256 u257 u258 u259 u260 u261 u262 u263 u264 u265 u266 u267 u268 u269 u270 u271 u272 u273 u274 u275 u276 u277 u278 u279 u280 u281 u282 : Value) :
    Code.wp Tryd.prog code81 (RetOnly (bodyPost Tryd.prog Tryd.f67 (SKA ((m : Int) + F + q) w) .ret)) ⟨#[u0, u1, .slice (some a) kn kc, .pointer (some ⟨w.heap.size, 0, none⟩), u4, u5, u6, u7, .int .i64 (p : Int), .int .i64 (m : Int), u10, u11, u12, u13, u14, u15, u16, u17, u18, u19, u20, u21, u22, u23, u24, u25, u26, u27, u28, u29, .pointer (some ⟨B + 2, 0, none⟩), .pointer (some ⟨B + 3, 0, none⟩), u32, u33, u34, u35, u36, u37, u38, u39, u40, u41, u42, u43, u44, u45, u46, u47, u48, u49, u50, u51, u52, u53, u54, u55, u56, u57, u58, u59, u60, u61, u62, u63, u64, u65, u66, u67, u68, u69, u70, u71, u72, u73, u74, u75, u76, u77, u78, u79, u80, u81, u82, u83, u84, u85, u86, u87, u88, u89, u90, u91, u92, u93, u94, u95, u96, u97, u98, u99, u100, u101, u102, u103, u104, u105, u106, u107, u108, u109, u110, u111, u112, u113, u114, u115, u116, u117, u118, u119, u120, u121, u122, u123, u124, u125, u126, u127, u128, u129, u130, u131, u132, u133, u134, u135, u136, u137, u138, u139, u140, u141, u142, u143, u144, u145, u146, u147, u148, u149, u150, u151, u152, u153, u154, u155, u156, u157, u158, u159, u160, u161, u162, u163, u164, u165, u166, u167, u168, u169, u170, u171, u172, u173, u174, u175, u176, u177, u178, u179, u180, u181, u182, u183, u184, u185, u186, u187, u188, u189, u190, u191, u192, u193, u194, u195, u196, u197, u198, u199, u200, u201, u202, u203, u204, u205, u206, u207, u208, u209, u210, u211, u212, u213, u214, u215, u216, u217, u218, u219, u220, u221, u222, u223, u224, u225, u226, u227, u228, u229, u230, u231, u232, u233, u234, u235, u236, u237, u238, u239, u240, u241, u242, u243, u244, u245, u246, u247, u248, u249, u250, u251, u252, .bool false, u254, u255, u256, u257, u258, u259, u260, u261, u262, u263, u264, u265, u266, u267, u268, u269, u270, u271, u272, u273, u274, u275, u276, u277, u278, u279, u280, u281, u282], []⟩ wc := by
  have hp1c : p + 1 ≤ kc := by omega
  have hpw : IntKind.i64.wrap ((p : Int) + 1) = (p : Int) + 1 := by rw [IntKind.wrap_i64]; omega
  have hp0 : (0 : Int) ≤ (p : Int) + 1 := by omega
  have hpk : (p : Int) + 1 ≤ (kn : Int) := by omega
  have hpt : ((p : Int) + 1).toNat = p + 1 := by omega
  have hkpT : (kc = p + 1) = False := eq_false hkp
  have C0 := Aside0.mk CS
  unfold CSub at C0
  have HS := Aside0.mk HS
  have e20 := HS.out.cfg.2.1
  have e21 := HS.out.cfg.2.2.1
  have e22 := HS.out.cfg.2.2.2
  clear hkp CS
  conv => arg 2; whnf
  go_upto_region 81 with fail
  go_region_with (go_at_call 67; refine (C0.out _ (Below.refl _ _).drew).mono ?_; rintro e w3 ⟨rfl, hb3⟩; have c5 := (below_step (Below.refl _ _).drew hb3).cell (p := ⟨B + 3, 0, none⟩) hlt; rw [c4] at c5)
  all_goals go_wp2
  all_goals show bodyPost Tryd.prog Tryd.f67 _ Exit.ret _ _
  all_goals go_ret
  all_goals exact ⟨rfl, ((HS.out.step (Below.refl _ _).drew).step hb3).below⟩
set_option maxHeartbeats 8000000 in
set_option maxRecDepth 1000000 in
theorem tail_b (a : Addr) (kn kc h o n c m p B X L C F : Nat) (w wc : World) (HS : SL w h o n c wc) (c3 : wc.cell? ⟨B + 2, 0, none⟩ = some (.slice (some ⟨h, o + X, none⟩) L C)) (c4 : wc.cell? ⟨B + 3, 0, none⟩ = some (.int .i64 (F : Int))) (hlt : B + 3 < wc.heap.size) (hkp : ¬ kc = p + 1) (CS : CSub wc h (o + X) L C (some (a.add (p + 1))) (kn - (p + 1)) (kc - (p + 1)) (-1)) (hkn : kn ≤ 140737488351232) (hn : n ≤ 140737488351232) (hp1 : p + 1 ≤ kn) (hkc : kn ≤ kc) (hFL : m + F + L ≤ n)
    (u0 u1 u4 u5 u6 u7 u10 u11 u12 u13 u14 u15 u16 u17 u18 u19 u20 u21 u22 u23 u24 u25 u26 u27 u28 u29 u32 u33 u34 u35 u36 u37 u38 u39 u40 u41 u42 u43 u44 u45 u46 u47 u48 u49 u50 u51 u52 u53 u54 u55 u56 u57 u58 u59 u60 u61 u62 u63 u64 u65 u66 u67 u68 u69 u70 u71 u72 u73 u74 u75 u76 u77 u78 u79 u80 u81 u82 u83 u84 u85 u86 u87 u88 u89 u90 u91 u92 u93 u94 u95 u96 u97 u98 u99 u100 u101 u102 u103 u104 u105 u106 u107 u108 u109 u110 u111 u112 u113 u114 u115 u116 u117 u118 u119 u120 u121 u122 u123 u124 u125 u126 u127 u128 u129 u130 u131 u132 u133 u134 u135 u136 u137 u138 u139 u140 u141 u142 u143 u144 u145 u146 u147 u148 u149 u150 u151 u152 u153 u154 u155 u156 u157 u158 u159 u160 u161 u162 u163 u164 u165 u166 u167 u168 u169 u170 u171 u172 u173 u174 u175 u176 u177 u178 u179 u180 u181 u182 u183 u184 u185 u186 u187 u188 u189 u190 u191 u192 u193 u194 u195 u196 u197 u198 u199 u200 u201 u202 u203 u204 u205 u206 u207 u208 u209 u210 u211 u212 u213 u214 u215 u216 u217 u218 u219 u220 u221 u222 u223 u224 u225 u226 u227 u228 u229 u230 u231 u232 u233 u234 u235 u236 u237 u238 u239 u240 u241 u242 u243 u244 u245 u246 u247 u248 u249 u250 u251 u252 u254 u255 u256 u257 u258 u259 u260 u261 u262 u263 u264 u265 u266 u267 u268 u269 u270 u271 u272 u273 u274 u275 u276 u277 u278 u279 u280 u281 u282 : Value) :
    Code.wp Tryd.prog code81 (RetOnly (bodyPost Tryd.prog Tryd.f67 (SKA (-1) w) .ret)) ⟨#[u0, u1, .slice (some a) kn kc, .pointer (some ⟨w.heap.size, 0, none⟩), u4, u5, u6, u7, .int .i64 (p : Int), .int .i64 (m : Int), u10, u11, u12, u13, u14, u15, u16, u17, u18, u19, u20, u21, u22, u23, u24, u25, u26, u27, u28, u29, .pointer (some ⟨B + 2, 0, none⟩), .pointer (some ⟨B + 3, 0, none⟩), u32, u33, u34, u35, u36, u37, u38, u39, u40, u41, u42, u43, u44, u45, u46, u47, u48, u49, u50, u51, u52, u53, u54, u55, u56, u57, u58, u59, u60, u61, u62, u63, u64, u65, u66, u67, u68, u69, u70, u71, u72, u73, u74, u75, u76, u77, u78, u79, u80, u81, u82, u83, u84, u85, u86, u87, u88, u89, u90, u91, u92, u93, u94, u95, u96, u97, u98, u99, u100, u101, u102, u103, u104, u105, u106, u107, u108, u109, u110, u111, u112, u113, u114, u115, u116, u117, u118, u119, u120, u121, u122, u123, u124, u125, u126, u127, u128, u129, u130, u131, u132, u133, u134, u135, u136, u137, u138, u139, u140, u141, u142, u143, u144, u145, u146, u147, u148, u149, u150, u151, u152, u153, u154, u155, u156, u157, u158, u159, u160, u161, u162, u163, u164, u165, u166, u167, u168, u169, u170, u171, u172, u173, u174, u175, u176, u177, u178, u179, u180, u181, u182, u183, u184, u185, u186, u187, u188, u189, u190, u191, u192, u193, u194, u195, u196, u197, u198, u199, u200, u201, u202, u203, u204, u205, u206, u207, u208, u209, u210, u211, u212, u213, u214, u215, u216, u217, u218, u219, u220, u221, u222, u223, u224, u225, u226, u227, u228, u229, u230, u231, u232, u233, u234, u235, u236, u237, u238, u239, u240, u241, u242, u243, u244, u245, u246, u247, u248, u249, u250, u251, u252, .bool false, u254, u255, u256, u257, u258, u259, u260, u261, u262, u263, u264, u265, u266, u267, u268, u269, u270, u271, u272, u273, u274, u275, u276, u277, u278, u279, u280, u281, u282], []⟩ wc := by
  have hp1c : p + 1 ≤ kc := by omega
  have hpw : IntKind.i64.wrap ((p : Int) + 1) = (p : Int) + 1 := by rw [IntKind.wrap_i64]; omega
  have hp0 : (0 : Int) ≤ (p : Int) + 1 := by omega
  have hpk : (p : Int) + 1 ≤ (kn : Int) := by omega
  have hpt : ((p : Int) + 1).toNat = p + 1 := by omega
  have hkpT : (kc = p + 1) = False := eq_false hkp
  have C0 := Aside0.mk CS
  unfold CSub at C0
  have HS := Aside0.mk HS
  have e20 := HS.out.cfg.2.1
  have e21 := HS.out.cfg.2.2.1
  have e22 := HS.out.cfg.2.2.2
  clear hkp CS
  conv => arg 2; whnf
  go_upto_region 81 with fail
  go_region_with (go_at_call 67; refine (C0.out _ (Below.refl _ _).drew).mono ?_; rintro e w3 ⟨rfl, hb3⟩; have c5 := (below_step (Below.refl _ _).drew hb3).cell (p := ⟨B + 3, 0, none⟩) hlt; rw [c4] at c5)
  all_goals go_wp2
  all_goals show bodyPost Tryd.prog Tryd.f67 _ Exit.ret _ _
  all_goals go_ret
  all_goals exact ⟨rfl, ((HS.out.step (Below.refl _ _).drew).step hb3).below⟩
set_option maxHeartbeats 8000000 in
set_option maxRecDepth 1000000 in
theorem tail_c (a : Addr) (h o n c m p B X L C F : Nat) (q : Nat) (w wc : World) (HS : SL w h o n c wc) (c3 : wc.cell? ⟨B + 2, 0, none⟩ = some (.slice (some ⟨h, o + X, none⟩) L C)) (c4 : wc.cell? ⟨B + 3, 0, none⟩ = some (.int .i64 (F : Int))) (hlt : B + 3 < wc.heap.size) (CS : CSub wc h (o + X) L C (some a) 0 0 (q : Int)) (hkn : p + 1 ≤ 140737488351232) (hn : n ≤ 140737488351232) (hFL : m + F + L ≤ n) (hq : q ≤ L)
    (u0 u1 u4 u5 u6 u7 u10 u11 u12 u13 u14 u15 u16 u17 u18 u19 u20 u21 u22 u23 u24 u25 u26 u27 u28 u29 u32 u33 u34 u35 u36 u37 u38 u39 u40 u41 u42 u43 u44 u45 u46 u47 u48 u49 u50 u51 u52 u53 u54 u55 u56 u57 u58 u59 u60 u61 u62 u63 u64 u65 u66 u67 u68 u69 u70 u71 u72 u73 u74 u75 u76 u77 u78 u79 u80 u81 u82 u83 u84 u85 u86 u87 u88 u89 u90 u91 u92 u93 u94 u95 u96 u97 u98 u99 u100 u101 u102 u103 u104 u105 u106 u107 u108 u109 u110 u111 u112 u113 u114 u115 u116 u117 u118 u119 u120 u121 u122 u123 u124 u125 u126 u127 u128 u129 u130 u131 u132 u133 u134 u135 u136 u137 u138 u139 u140 u141 u142 u143 u144 u145 u146 u147 u148 u149 u150 u151 u152 u153 u154 u155 u156 u157 u158 u159 u160 u161 u162 u163 u164 u165 u166 u167 u168 u169 u170 u171 u172 u173 u174 u175 u176 u177 u178 u179 u180 u181 u182 u183 u184 u185 u186 u187 u188 u189 u190 u191 u192 u193 u194 u195 u196 u197 u198 u199 u200 u201 u202 u203 u204 u205 u206 u207 u208 u209 u210 u211 u212 u213 u214 u215 u216 u217 u218 u219 u220 u221 u222 u223 u224 u225 u226 u227 u228 u229 u230 u231 u232 u233 u234 u235 u236 u237 u238 u239 u240 u241 u242 u243 u244 u245 u246 u247 u248 u249 u250 u251 u252 u254 u255 u256 u257 u258 u259 u260 u261 u262 u263 u264 u265 u266 u267 u268 u269 u270 u271 u272 u273 u274 u275 u276 u277 u278 u279 u280 u281 u282 : Value) :
    Code.wp Tryd.prog code81 (RetOnly (bodyPost Tryd.prog Tryd.f67 (SKA ((m : Int) + F + q) w) .ret)) ⟨#[u0, u1, .slice (some a) (p + 1) (p + 1), .pointer (some ⟨w.heap.size, 0, none⟩), u4, u5, u6, u7, .int .i64 (p : Int), .int .i64 (m : Int), u10, u11, u12, u13, u14, u15, u16, u17, u18, u19, u20, u21, u22, u23, u24, u25, u26, u27, u28, u29, .pointer (some ⟨B + 2, 0, none⟩), .pointer (some ⟨B + 3, 0, none⟩), u32, u33, u34, u35, u36, u37, u38, u39, u40, u41, u42, u43, u44, u45, u46, u47, u48, u49, u50, u51, u52, u53, u54, u55, u56, u57, u58, u59, u60, u61, u62, u63, u64, u65, u66, u67, u68, u69, u70, u71, u72, u73, u74, u75, u76, u77, u78, u79, u80, u81, u82, u83, u84, u85, u86, u87, u88, u89, u90, u91, u92, u93, u94, u95, u96, u97, u98, u99, u100, u101, u102, u103, u104, u105, u106, u107, u108, u109, u110, u111, u112, u113, u114, u115, u116, u117, u118, u119, u120, u121, u122, u123, u124, u125, u126, u127, u128, u129, u130, u131, u132, u133, u134, u135, u136, u137, u138, u139, u140, u141, u142, u143, u144, u145, u146, u147, u148, u149, u150, u151, u152, u153, u154, u155, u156, u157, u158, u159, u160, u161, u162, u163, u164, u165, u166, u167, u168, u169, u170, u171, u172, u173, u174, u175, u176, u177, u178, u179, u180, u181, u182, u183, u184, u185, u186, u187, u188, u189, u190, u191, u192, u193, u194, u195, u196, u197, u198, u199, u200, u201, u202, u203, u204, u205, u206, u207, u208, u209, u210, u211, u212, u213, u214, u215, u216, u217, u218, u219, u220, u221, u222, u223, u224, u225, u226, u227, u228, u229, u230, u231, u232, u233, u234, u235, u236, u237, u238, u239, u240, u241, u242, u243, u244, u245, u246, u247, u248, u249, u250, u251, u252, .bool false, u254, u255, u256, u257, u258, u259, u260, u261, u262, u263, u264, u265, u266, u267, u268, u269, u270, u271, u272, u273, u274, u275, u276, u277, u278, u279, u280, u281, u282], []⟩ wc := by
  have hpw : IntKind.i64.wrap ((p : Int) + 1) = (p : Int) + 1 := by rw [IntKind.wrap_i64]; omega
  have hp0 : (0 : Int) ≤ (p : Int) + 1 := by omega
  have hpt : ((p : Int) + 1).toNat = p + 1 := by omega
  have C0 := Aside0.mk CS
  unfold CSub at C0
  have HS := Aside0.mk HS
  have e20 := HS.out.cfg.2.1
  have e21 := HS.out.cfg.2.2.1
  have e22 := HS.out.cfg.2.2.2
  clear CS
  conv => arg 2; whnf
  go_upto_region 81 with fail
  go_region_with (go_at_call 67; refine (C0.out _ (Below.refl _ _).drew).mono ?_; rintro e w3 ⟨rfl, hb3⟩; have c5 := (below_step (Below.refl _ _).drew hb3).cell (p := ⟨B + 3, 0, none⟩) hlt; rw [c4] at c5)
  all_goals go_wp2
  all_goals show bodyPost Tryd.prog Tryd.f67 _ Exit.ret _ _
  all_goals go_ret
  all_goals exact ⟨rfl, ((HS.out.step (Below.refl _ _).drew).step hb3).below⟩
set_option maxHeartbeats 8000000 in
set_option maxRecDepth 1000000 in
theorem tail_d (a : Addr) (h o n c m p B X L C F : Nat) (w wc : World) (HS : SL w h o n c wc) (c3 : wc.cell? ⟨B + 2, 0, none⟩ = some (.slice (some ⟨h, o + X, none⟩) L C)) (c4 : wc.cell? ⟨B + 3, 0, none⟩ = some (.int .i64 (F : Int))) (hlt : B + 3 < wc.heap.size) (CS : CSub wc h (o + X) L C (some a) 0 0 (-1)) (hkn : p + 1 ≤ 140737488351232) (hn : n ≤ 140737488351232) (hFL : m + F + L ≤ n)
    (u0 u1 u4 u5 u6 u7 u10 u11 u12 u13 u14 u15 u16 u17 u18 u19 u20 u21 u22 u23 u24 u25 u26 u27 u28 u29 u32 u33 u34 u35 u36 u37 u38 u39 u40 u41 u42 u43 u44 u45 u46 u47 u48 u49 u50 u51 u52 u53 u54 u55 u56 u57 u58 u59 u60 u61 u62 u63 u64 u65 u66 u67 u68 u69 u70 u71 u72 u73 u74 u75 u76 u77 u78 u79 u80 u81 u82 u83 u84 u85 u86 u87 u88 u89 u90 u91 u92 u93 u94 u95 u96 u97 u98 u99 u100 u101 u102 u103 u104 u105 u106 u107 u108 u109 u110 u111 u112 u113 u114 u115 u116 u117 u118 u119 u120 u121 u122 u123 u124 u125 u126 u127 u128 u129 u130 u131 u132 u133 u134 u135 u136 u137 u138 u139 u140 u141 u142 u143 u144 u145 u146 u147 u148 u149 u150 u151 u152 u153 u154 u155 u156 u157 u158 u159 u160 u161 u162 u163 u164 u165 u166 u167 u168 u169 u170 u171 u172 u173 u174 u175 u176 u177 u178 u179 u180 u181 u182 u183 u184 u185 u186 u187 u188 u189 u190 u191 u192 u193 u194 u195 u196 u197 u198 u199 u200 u201 u202 u203 u204 u205 u206 u207 u208 u209 u210 u211 u212 u213 u214 u215 u216 u217 u218 u219 u220 u221 u222 u223 u224 u225 u226 u227 u228 u229 u230 u231 u232 u233 u234 u235 u236 u237 u238 u239 u240 u241 u242 u243 u244 u245 u246 u247 u248 u249 u250 u251 u252 u254 u255 u256 u257 u258 u259 u260 u261 u262 u263 u264 u265 u266 u267 u268 u269 u270 u271 u272 u273 u274 u275 u276 u277 u278 u279 u280 u281 u282 : Value) :
    Code.wp Tryd.prog code81 (RetOnly (bodyPost Tryd.prog Tryd.f67 (SKA (-1) w) .ret)) ⟨#[u0, u1, .slice (some a) (p + 1) (p + 1), .pointer (some ⟨w.heap.size, 0, none⟩), u4, u5, u6, u7, .int .i64 (p : Int), .int .i64 (m : Int), u10, u11, u12, u13, u14, u15, u16, u17, u18, u19, u20, u21, u22, u23, u24, u25, u26, u27, u28, u29, .pointer (some ⟨B + 2, 0, none⟩), .pointer (some ⟨B + 3, 0, none⟩), u32, u33, u34, u35, u36, u37, u38, u39, u40, u41, u42, u43, u44, u45, u46, u47, u48, u49, u50, u51, u52, u53, u54, u55, u56, u57, u58, u59, u60, u61, u62, u63, u64, u65, u66, u67, u68, u69, u70, u71, u72, u73, u74, u75, u76, u77, u78, u79, u80, u81, u82, u83, u84, u85, u86, u87, u88, u89, u90, u91, u92, u93, u94, u95, u96, u97, u98, u99, u100, u101, u102, u103, u104, u105, u106, u107, u108, u109, u110, u111, u112, u113, u114, u115, u116, u117, u118, u119, u120, u121, u122, u123, u124, u125, u126, u127, u128, u129, u130, u131, u132, u133, u134, u135, u136, u137, u138, u139, u140, u141, u142, u143, u144, u145, u146, u147, u148, u149, u150, u151, u152, u153, u154, u155, u156, u157, u158, u159, u160, u161, u162, u163, u164, u165, u166, u167, u168, u169, u170, u171, u172, u173, u174, u175, u176, u177, u178, u179, u180, u181, u182, u183, u184, u185, u186, u187, u188, u189, u190, u191, u192, u193, u194, u195, u196, u197, u198, u199, u200, u201, u202, u203, u204, u205, u206, u207, u208, u209, u210, u211, u212, u213, u214, u215, u216, u217, u218, u219, u220, u221, u222, u223, u224, u225, u226, u227, u228, u229, u230, u231, u232, u233, u234, u235, u236, u237, u238, u239, u240, u241, u242, u243, u244, u245, u246, u247, u248, u249, u250, u251, u252, .bool false, u254, u255, u256, u257, u258, u259, u260, u261, u262, u263, u264, u265, u266, u267, u268, u269, u270, u271, u272, u273, u274, u275, u276, u277, u278, u279, u280, u281, u282], []⟩ wc := by
  have hpw : IntKind.i64.wrap ((p : Int) + 1) = (p : Int) + 1 := by rw [IntKind.wrap_i64]; omega
  have hp0 : (0 : Int) ≤ (p : Int) + 1 := by omega
  have hpt : ((p : Int) + 1).toNat = p + 1 := by omega
  have C0 := Aside0.mk CS
  unfold CSub at C0
  have HS := Aside0.mk HS
  have e20 := HS.out.cfg.2.1
  have e21 := HS.out.cfg.2.2.1
  have e22 := HS.out.cfg.2.2.2
  clear CS
  conv => arg 2; whnf
  go_upto_region 81 with fail
  go_region_with (go_at_call 67; refine (C0.out _ (Below.refl _ _).drew).mono ?_; rintro e w3 ⟨rfl, hb3⟩; have c5 := (below_step (Below.refl _ _).drew hb3).cell (p := ⟨B + 3, 0, none⟩) hlt; rw [c4] at c5)
  all_goals go_wp2
  all_goals show bodyPost Tryd.prog Tryd.f67 _ Exit.ret _ _
  all_goals go_ret
  all_goals exact ⟨rfl, ((HS.out.step (Below.refl _ _).drew).step hb3).below⟩
end Go.Proofs.YtpahejmkidhhhaaDoor.G
