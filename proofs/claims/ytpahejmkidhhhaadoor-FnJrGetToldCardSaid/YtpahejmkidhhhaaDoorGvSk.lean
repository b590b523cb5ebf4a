/-
  DERIVED: THE SHELF's CONTRACTS AT THIS DUMP, IN PLAIN WORDS (tools/lay-plain.mjs out of 'TrydShelf.lean', which tools/lay-shelf.mjs wrote): THE SAME DECLARATIONS UNDER THE SAME NAMES: 'import', 'namespace', 'open', 'def', 'theorem' AND NOTHING ELSE: no command of the shelf's: FOR A HAND-IN. Each laying: the table of numbers ('.._ren') and one theorem, a field a fact of the dump's own or the kernel's comparison; each contract: ONE APPLICATION.
-/
import Derived.Shelf.Bytes.IndexByte
import Derived.Shelf.Spec.EncodeRune
import Derived.Shelf.Strconv.AtoiAll
import Derived.Test.YtpahejmkidhhhaaDoorProg
namespace Go.Proofs
open Go.Shelf
def Tryd.laysC172_ren : Go.Shelf.Ren := ⟨fun | 172 => 80 | 244 => 87 | 245 => 88 | 247 => 92 | 279 => 93 | 280 => 94 | 281 => 95 | 282 => 96 | 287 => 101 | 316 => 102 | 171 => 104 | 205 => 103 | 321 => 106 | 322 => 107 | 243 => 108 | 246 => 109 | 283 => 110 | 284 => 111 | 285 => 112 | 286 => 113 | 129 => 115 | 317 => 114 | 318 => 116 | 319 => 117 | 320 => 118 | 337 => 119 | 338 => 120 | n => n, fun | 9 => 9 | 3 => 3 | 75 => 57 | 76 => 103 | 4 => 4 | 5 => 5 | 167 => 139 | 37 => 54 | 0 => 0 | 85 => 140 | 2 => 2 | 168 => 142 | 53 => 126 | 175 => 150 | 46 => 134 | 210 => 153 | 127 => 157 | 145 => 160 | 143 => 158 | 21 => 21 | 171 => 162 | 173 => 165 | 212 => 168 | 51 => 149 | 20 => 20 | 213 => 169 | 232 => 172 | 233 => 115 | 80 => 173 | n => n, fun | 15 => 14 | 16 => 15 | 17 => 16 | 18 => 17 | 19 => 18 | n => n⟩
theorem Tryd.laysC172 : Go.Proofs.LaysC.n172 Tryd.prog Tryd.laysC172_ren := {
  mixed := by kernel_rfl
  f129 := Tryd.func115.trans (congrArg some (by kernel_rfl))
  f171 := Tryd.func104.trans (congrArg some (by kernel_rfl))
  f172 := Tryd.func80.trans (congrArg some (by kernel_rfl))
  f205 := Tryd.func103.trans (congrArg some (by kernel_rfl))
  f243 := Tryd.func108.trans (congrArg some (by kernel_rfl))
  f244 := Tryd.func87.trans (congrArg some (by kernel_rfl))
  f245 := Tryd.func88.trans (congrArg some (by kernel_rfl))
  f246 := Tryd.func109.trans (congrArg some (by kernel_rfl))
  f247 := Tryd.func92.trans (congrArg some (by kernel_rfl))
  f279 := Tryd.func93.trans (congrArg some (by kernel_rfl))
  f280 := Tryd.func94.trans (congrArg some (by kernel_rfl))
  f281 := Tryd.func95.trans (congrArg some (by kernel_rfl))
  f282 := Tryd.func96.trans (congrArg some (by kernel_rfl))
  f283 := Tryd.func110.trans (congrArg some (by kernel_rfl))
  f284 := Tryd.func111.trans (congrArg some (by kernel_rfl))
  f285 := Tryd.func112.trans (congrArg some (by kernel_rfl))
  f286 := Tryd.func113.trans (congrArg some (by kernel_rfl))
  f287 := Tryd.func101.trans (congrArg some (by kernel_rfl))
  f316 := Tryd.func102.trans (congrArg some (by kernel_rfl))
  f317 := Tryd.func114.trans (congrArg some (by kernel_rfl))
  f318 := Tryd.func116.trans (congrArg some (by kernel_rfl))
  f319 := Tryd.func117.trans (congrArg some (by kernel_rfl))
  f320 := Tryd.func118.trans (congrArg some (by kernel_rfl))
  f321 := Tryd.func106.trans (congrArg some (by kernel_rfl))
  f322 := Tryd.func107.trans (congrArg some (by kernel_rfl))
  f337 := Tryd.func119.trans (congrArg some (by kernel_rfl))
  f338 := Tryd.func120.trans (congrArg some (by kernel_rfl))
  t0 := Tryd.underlying0
  a0 := Tryd.isAgg0
  z0 := Tryd.sizeOf0
  v0 := Tryd.zeroValue0
  t2 := Tryd.underlying2
  a2 := Tryd.isAgg2
  z2 := Tryd.sizeOf2
  v2 := Tryd.zeroValue2
  t3 := Tryd.underlying3
  a3 := Tryd.isAgg3
  z3 := Tryd.sizeOf3
  v3 := Tryd.zeroValue3
  t4 := Tryd.underlying4
  a4 := Tryd.isAgg4
  z4 := Tryd.sizeOf4
  v4 := Tryd.zeroValue4
  t5 := Tryd.underlying5
  a5 := Tryd.isAgg5
  z5 := Tryd.sizeOf5
  v5 := Tryd.zeroValue5
  t9 := Tryd.underlying9
  a9 := Tryd.isAgg9
  z9 := Tryd.sizeOf9
  v9 := Tryd.zeroValue9
  t20 := Tryd.underlying20
  a20 := Tryd.isAgg20
  z20 := Tryd.sizeOf20
  v20 := Tryd.zeroValue20
  t21 := Tryd.underlying21
  a21 := Tryd.isAgg21
  z21 := Tryd.sizeOf21
  v21 := Tryd.zeroValue21
  t37 := Tryd.underlying54
  a37 := Tryd.isAgg54
  z37 := Tryd.sizeOf54
  v37 := Tryd.zeroValue54
  t46 := Tryd.underlying134
  a46 := Tryd.isAgg134
  z46 := Tryd.sizeOf134
  v46 := Tryd.zeroValue134
  t51 := Tryd.underlying149
  a51 := Tryd.isAgg149
  z51 := Tryd.sizeOf149
  v51 := Tryd.zeroValue149
  t53 := Tryd.underlying126
  a53 := Tryd.isAgg126
  z53 := Tryd.sizeOf126
  v53 := Tryd.zeroValue126
  t75 := Tryd.underlying57
  a75 := Tryd.isAgg57
  z75 := Tryd.sizeOf57
  v75 := Tryd.zeroValue57
  t76 := Tryd.underlying103
  a76 := Tryd.isAgg103
  z76 := Tryd.sizeOf103
  v76 := Tryd.zeroValue103
  t85 := Tryd.underlying140
  a85 := Tryd.isAgg140
  z85 := Tryd.sizeOf140
  v85 := Tryd.zeroValue140
  t127 := Tryd.underlying157
  a127 := Tryd.isAgg157
  z127 := Tryd.sizeOf157
  v127 := Tryd.zeroValue157
  t143 := Tryd.underlying158
  a143 := Tryd.isAgg158
  z143 := Tryd.sizeOf158
  v143 := Tryd.zeroValue158
  t145 := Tryd.underlying160
  a145 := Tryd.isAgg160
  z145 := Tryd.sizeOf160
  v145 := Tryd.zeroValue160
  t167 := Tryd.underlying139
  a167 := Tryd.isAgg139
  z167 := Tryd.sizeOf139
  v167 := Tryd.zeroValue139
  t168 := Tryd.underlying142
  a168 := Tryd.isAgg142
  z168 := Tryd.sizeOf142
  v168 := Tryd.zeroValue142
  t171 := Tryd.underlying162
  a171 := Tryd.isAgg162
  z171 := Tryd.sizeOf162
  v171 := Tryd.zeroValue162
  t173 := Tryd.underlying165
  a173 := Tryd.isAgg165
  z173 := Tryd.sizeOf165
  v173 := Tryd.zeroValue165
  t175 := Tryd.underlying150
  a175 := Tryd.isAgg150
  z175 := Tryd.sizeOf150
  v175 := Tryd.zeroValue150
  t210 := Tryd.underlying153
  a210 := Tryd.isAgg153
  z210 := Tryd.sizeOf153
  v210 := Tryd.zeroValue153
  t212 := Tryd.underlying168
  a212 := Tryd.isAgg168
  z212 := Tryd.sizeOf168
  v212 := Tryd.zeroValue168
  t213 := Tryd.underlying169
  a213 := Tryd.isAgg169
  z213 := Tryd.sizeOf169
  t232 := Tryd.underlying172
  a232 := Tryd.isAgg172
  z232 := Tryd.sizeOf172
  v232 := Tryd.zeroValue172
  t233 := Tryd.underlying115
  a233 := Tryd.isAgg115
  z233 := Tryd.sizeOf115
  v233 := Tryd.zeroValue115
  g15 := by kernel_rfl
  g16 := by kernel_rfl
  g17 := by kernel_rfl
  g18 := by kernel_rfl
  g19 := by kernel_rfl
  t80 := Tryd.underlying173
  a80 := Tryd.isAgg173
  z80 := Tryd.sizeOf173
  v80 := Tryd.zeroValue173
  i0 := by kernel_rfl
  i2 := by kernel_rfl
  i3 := by kernel_rfl
  i4 := by kernel_rfl
  i5 := by kernel_rfl
  i9 := by kernel_rfl
  i20 := by kernel_rfl
  i21 := by kernel_rfl
  i37 := by kernel_rfl
  i46 := by kernel_rfl
  i51 := by kernel_rfl
  i53 := by kernel_rfl
  i75 := by kernel_rfl
  i76 := by kernel_rfl
  i80 := by kernel_rfl
  i85 := by kernel_rfl
  i127 := by kernel_rfl
  i143 := by kernel_rfl
  i145 := by kernel_rfl
  i167 := by kernel_rfl
  i168 := by kernel_rfl
  i171 := by kernel_rfl
  i173 := by kernel_rfl
  i175 := by kernel_rfl
  i210 := by kernel_rfl
  i212 := by kernel_rfl
  i232 := by kernel_rfl
  i233 := by kernel_rfl
  m15 := by kernel_rfl
  m16 := by kernel_rfl
  m17 := by kernel_rfl
  m18 := by kernel_rfl
  m19 := by kernel_rfl
  c0 := by kernel_rfl
  c2 := by kernel_rfl
  c3 := by kernel_rfl
  c4 := by kernel_rfl
  c5 := by kernel_rfl
  c9 := by kernel_rfl
  c20 := by kernel_rfl
  c21 := by kernel_rfl
  c37 := by kernel_rfl
  c46 := by kernel_rfl
  c51 := by kernel_rfl
  c53 := by kernel_rfl
  c75 := by kernel_rfl
  c76 := by kernel_rfl
  c80 := by kernel_rfl
  c85 := by kernel_rfl
  c127 := by kernel_rfl
  c143 := by kernel_rfl
  c145 := by kernel_rfl
  c167 := by kernel_rfl
  c168 := by kernel_rfl
  c171 := by kernel_rfl
  c173 := by kernel_rfl
  c175 := by kernel_rfl
  c210 := by kernel_rfl
  c212 := by kernel_rfl
  c213 := by kernel_rfl
  c232 := by kernel_rfl
  c233 := by kernel_rfl }
open Go.RowKit in
/-- strconv.Atoi, AT EVERY STRING THAT SPELLS AN int ('Lib.atoiAll .. = .ok v'; of whatever length: leading zeros count): v, AND NO ERROR. The world: as it was, or with the one new row that '[]byte(..)' lays. (LAID: no walk: one application.) -/
theorem Tryd.strconv_Atoi_ok (s : ByteArray) (hmax : s.size ≤ 9223372036854775806) (v : Int) (h : Lib.atoiAll s.data.toList = .ok v) (w : World) :
    Calls Tryd.prog 80 #[.string s] w fun e w' => e = .returned (.tuple #[.int .i64 v, .nilIface]) ∧ (w' = w ∨ ∃ t, w' = Lib.bytesWorld w 5 t) := Any.strconv_Atoi_ok Tryd.laysC172 s hmax v h w
open Go.RowKit in
/-- strconv.Atoi, AT EVERY STRING THAT IS NO DECIMAL NUMERAL ('.syntax'): 0, AND AN ERROR THAT IS NOT nil: a *NumError in a new block N: {Func: "Atoi", Num: s's bytes, Err: what the variable ErrSyntax holds}. Of what was there nothing has turned. (LAID: no walk: one application.) -/
theorem Tryd.strconv_Atoi_syntax (s : ByteArray) (hlim : s.size ≤ 281474976710656) (h : Lib.atoiAll s.data.toList = .«syntax») (ev : Value) (w : World) (hv : w.cell? ⟨14, 0, none⟩ = some ev) (hev : ev = .nilIface ∨ ∃ te pe, ev = .iface te pe) :
    Calls Tryd.prog 80 #[.string s] w fun e w' => ∃ N, e = .returned (.tuple #[.int .i64 (0), .iface 142 (.pointer (some ⟨N, 0, none⟩))]) ∧ w.heap.size ≤ N ∧ w'.heap[N]? = some (.cells #[.string ⟨#[65, 116, 111, 105]⟩, .string s, ev] 153 (0, 0)) ∧ Below w.heap.size w w' := Any.strconv_Atoi_syntax Tryd.laysC172 s hlim h ev w hv hev
open Go.RowKit in
/-- strconv.Atoi, AT EVERY NUMERAL THAT NO int HOLDS ('.range'): THE GREATEST OR THE LEAST int, BY THE SIGN ('Lib.atoiSat'), AND AN ERROR THAT IS NOT nil: a *NumError in a new block N: {Func: "Atoi", Num: s's bytes, Err: what the variable ErrRange holds}. Of what was there nothing has turned. (LAID: no walk: one application.) -/
theorem Tryd.strconv_Atoi_range (s : ByteArray) (hlim : s.size ≤ 281474976710656) (h : Lib.atoiAll s.data.toList = .range) (ev : Value) (w : World) (hv : w.cell? ⟨15, 0, none⟩ = some ev) (hev : ev = .nilIface ∨ ∃ te pe, ev = .iface te pe) :
    Calls Tryd.prog 80 #[.string s] w fun e w' => ∃ N, e = .returned (.tuple #[.int .i64 (Lib.atoiSat s.data.toList), .iface 142 (.pointer (some ⟨N, 0, none⟩))]) ∧ w.heap.size ≤ N ∧ w'.heap[N]? = some (.cells #[.string ⟨#[65, 116, 111, 105]⟩, .string s, ev] 153 (0, 0)) ∧ Below w.heap.size w w' := Any.strconv_Atoi_range Tryd.laysC172 s hlim h ev w hv hev
def Tryd.lays187_ren : Go.Shelf.Ren := ⟨fun | 187 => 85 | 255 => 89 | n => n, fun | 37 => 54 | 5 => 5 | 3 => 3 | n => n, fun | n => n⟩
theorem Tryd.lays187 : Go.Proofs.Lays.n187 Tryd.prog Tryd.lays187_ren := {
  mixed := by kernel_rfl
  f187 := Tryd.func85.trans (congrArg some (by kernel_rfl))
  f255 := Tryd.func89.trans (congrArg some (by kernel_rfl))
  t3 := Tryd.underlying3
  a3 := Tryd.isAgg3
  z3 := Tryd.sizeOf3
  v3 := Tryd.zeroValue3
  t5 := Tryd.underlying5
  a5 := Tryd.isAgg5
  z5 := Tryd.sizeOf5
  v5 := Tryd.zeroValue5
  t37 := Tryd.underlying54
  a37 := Tryd.isAgg54
  z37 := Tryd.sizeOf54
  v37 := Tryd.zeroValue54 }
/-- bytes.IndexByte: "IndexByte returns the index of the first instance of c in b, or -1 if c is not present in b.": IT RETURNS 'Lib.indexByte (the bytes of b) c'; the world is as it was. 'xs': the numbers that the slice's cells hold. (LAID: no walk: one application.) -/
theorem Tryd.bytes_IndexByte (b o n c : Nat) (xs : List Int) (cv : Int) (w : World) (hx : xs.length = n) (hc : ∀ i, i < n → w.cell? ⟨b, o + i, none⟩ = some (.int .u8 (xs.getD i 0))) :
    Calls Tryd.prog 85 #[.slice (some ⟨b, o, none⟩) n c, .int .u8 cv] w fun e w' => e = .returned (.int .i64 (Lib.indexByte (Lib.bytesOf xs) cv.toNat.toUInt8)) ∧ w' = w := Any.bytes_IndexByte Tryd.lays187 b o n c xs cv w hx hc
end Go.Proofs
