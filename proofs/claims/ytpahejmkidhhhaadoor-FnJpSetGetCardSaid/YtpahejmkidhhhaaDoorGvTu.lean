/- utf8.EncodeRune, off the kit's shelf. DERIVED: THE SHELF's CONTRACTS AT THIS DUMP, IN PLAIN WORDS (tools/lay-plain.mjs out of 'TrydShelf.lean', which tools/lay-shelf.mjs wrote): THE SAME DECLARATIONS UNDER THE SAME NAMES: 'import', 'namespace', 'open', 'def', 'theorem' AND NOTHING ELSE: no command of the shelf's: FOR A HAND-IN. Each laying: the table of numbers ('.._ren') and one theorem, a field a fact of the dump's own or the kernel's comparison; each contract: ONE APPLICATION. jsonparser's escapes: hexadecimal digits, \u escapes. jsonparser's \u escapes in pairs. jsonparser's single escapes, written into a buffer. jsonparser's unescape. -/
import Derived.Shelf.Spec.EncodeRune
import Derived.Test.YtpahejmkidhhhaaDoorProg
import Derived.Shelf.Bytes.IndexByte
import Derived.Shelf.Strconv.AtoiAll
import Derived.Test.YtpahejmkidhhhaaDoorGvG
import Derived.Laws.IdiomCopy
import Derived.Lib.IndexLaws
section
namespace Go.Proofs
open Go.Shelf
def Tryd.lays7_ren : Go.Shelf.Ren := ⟨fun | 30 => 91 | 47 => 100 | n => n, fun | 25 => 134 | 27 => 149 | 30 => 54 | n => n, fun | n => n⟩
theorem Tryd.lays7_30 : Go.Proofs.Lays7.n30 Tryd.prog Tryd.lays7_ren := {
  mixed := by kernel_rfl
  f30 := Tryd.func91.trans (congrArg some (by kernel_rfl))
  f47 := Tryd.func100.trans (congrArg some (by kernel_rfl))
  t0 := Tryd.underlying0
  a0 := Tryd.isAgg0
  z0 := Tryd.sizeOf0
  v0 := Tryd.zeroValue0
  i0 := by kernel_rfl
  t3 := Tryd.underlying3
  a3 := Tryd.isAgg3
  z3 := Tryd.sizeOf3
  v3 := Tryd.zeroValue3
  i3 := by kernel_rfl
  t4 := Tryd.underlying4
  a4 := Tryd.isAgg4
  z4 := Tryd.sizeOf4
  v4 := Tryd.zeroValue4
  i4 := by kernel_rfl
  t5 := Tryd.underlying5
  a5 := Tryd.isAgg5
  z5 := Tryd.sizeOf5
  v5 := Tryd.zeroValue5
  i5 := by kernel_rfl
  t21 := Tryd.underlying21
  a21 := Tryd.isAgg21
  z21 := Tryd.sizeOf21
  v21 := Tryd.zeroValue21
  i21 := by kernel_rfl
  t25 := Tryd.underlying134
  a25 := Tryd.isAgg134
  z25 := Tryd.sizeOf134
  v25 := Tryd.zeroValue134
  i25 := by kernel_rfl
  t27 := Tryd.underlying149
  a27 := Tryd.isAgg149
  z27 := Tryd.sizeOf149
  v27 := Tryd.zeroValue149
  i27 := by kernel_rfl
  t30 := Tryd.underlying54
  a30 := Tryd.isAgg54
  z30 := Tryd.sizeOf54
  v30 := Tryd.zeroValue54
  i30 := by kernel_rfl }
open Go.RowKit in
theorem Tryd.utf8_EncodeRune (b off len cap : Nat) (r : Int) (hlo : -2147483648 ≤ r) (hhi : r ≤ 2147483647) (w : World) (hl : (Lib.runeCells r).length ≤ len)
    (hc : ∀ j, j < (Lib.runeCells r).length → (w.cell? ⟨b, off + j, none⟩).isSome = true) (hf : ∀ j, j < (Lib.runeCells r).length → w.frozen? ⟨b, off + j, none⟩ = false) :
    Calls Tryd.prog 91 #[.slice (some ⟨b, off, none⟩) len cap, .int .i32 r] w fun e w' => e = .returned (.int .i64 (Lib.runeCells r).length) ∧ w' = w.setCells b off (Lib.runeCells r) := Any7.utf8_EncodeRune Tryd.lays7_30 b off len cap r hlo hhi w hl hc hf
end Go.Proofs
end

section
namespace Go.Proofs
open Go.Shelf
def Tryd.laysC172_ren : Go.Shelf.Ren := ⟨fun | 172 => 80 | 244 => 87 | 245 => 88 | 247 => 92 | 279 => 93 | 280 => 94 | 281 => 95 | 282 => 96 | 287 => 101 | 316 => 102 | 171 => 104 | 205 => 103 | 321 => 106 | 322 => 107 | 243 => 108 | 246 => 109 | 283 => 110 | 284 => 111 | 285 => 112 | 286 => 113 | 129 => 115 | 317 => 114 | 318 => 116 | 319 => 117 | 320 => 118 | 337 => 119 | 338 => 120 | n => n, fun | 9 => 9 | 3 => 3 | 75 => 57 | 76 => 103 | 4 => 4 | 5 => 5 | 167 => 139 | 37 => 54 | 0 => 0 | 85 => 140 | 2 => 2 | 168 => 142 | 53 => 126 | 175 => 150 | 46 => 134 | 210 => 153 | 127 => 157 | 145 => 160 | 143 => 158 | 21 => 21 | 171 => 162 | 173 => 165 | 212 => 168 | 51 => 149 | 20 => 20 | 213 => 169 | 232 => 172 | 233 => 115 | 80 => 173 | n => n, fun | 15 => 14 | 16 => 15 | 17 => 16 | 18 => 17 | 19 => 18 | n => n⟩
theorem Tryd.laysC172 : Go.Proofs.LaysC.n172 Tryd.prog Tryd.laysC172_ren := {
  mixed := by kernel_rfl
  f129 := Tryd.func115.trans (congrArg some (by kernel_rfl))
  f171 := Tryd.func104.trans (congrArg some (by kernel_rfl))
  f172 := Tryd.func80.trans (congrArg some (by kernel_rfl))
  f205 := Tryd.func103.trans (congrArg some (by kernel_rfl))
  f243 := Tryd.func108.trans (congrArg some (by kernel_rfl))
  f244 := Tryd.func87.trans (congrArg some (by kernel_rfl))
  f245 := Tryd.func88.trans (congrArg some (by kernel_rfl))
  f246 := Tryd.func109.trans (congrArg some (by kernel_rfl))
  f247 := Tryd.func92.trans (congrArg some (by kernel_rfl))
  f279 := Tryd.func93.trans (congrArg some (by kernel_rfl))
  f280 := Tryd.func94.trans (congrArg some (by kernel_rfl))
  f281 := Tryd.func95.trans (congrArg some (by kernel_rfl))
  f282 := Tryd.func96.trans (congrArg some (by kernel_rfl))
  f283 := Tryd.func110.trans (congrArg some (by kernel_rfl))
  f284 := Tryd.func111.trans (congrArg some (by kernel_rfl))
  f285 := Tryd.func112.trans (congrArg some (by kernel_rfl))
  f286 := Tryd.func113.trans (congrArg some (by kernel_rfl))
  f287 := Tryd.func101.trans (congrArg some (by kernel_rfl))
  f316 := Tryd.func102.trans (congrArg some (by kernel_rfl))
  f317 := Tryd.func114.trans (congrArg some (by kernel_rfl))
  f318 := Tryd.func116.trans (congrArg some (by kernel_rfl))
  f319 := Tryd.func117.trans (congrArg some (by kernel_rfl))
  f320 := Tryd.func118.trans (congrArg some (by kernel_rfl))
  f321 := Tryd.func106.trans (congrArg some (by kernel_rfl))
  f322 := Tryd.func107.trans (congrArg some (by kernel_rfl))
  f337 := Tryd.func119.trans (congrArg some (by kernel_rfl))
  f338 := Tryd.func120.trans (congrArg some (by kernel_rfl))
  t0 := Tryd.underlying0
  a0 := Tryd.isAgg0
  z0 := Tryd.sizeOf0
  v0 := Tryd.zeroValue0
  t2 := Tryd.underlying2
  a2 := Tryd.isAgg2
  z2 := Tryd.sizeOf2
  v2 := Tryd.zeroValue2
  t3 := Tryd.underlying3
  a3 := Tryd.isAgg3
  z3 := Tryd.sizeOf3
  v3 := Tryd.zeroValue3
  t4 := Tryd.underlying4
  a4 := Tryd.isAgg4
  z4 := Tryd.sizeOf4
  v4 := Tryd.zeroValue4
  t5 := Tryd.underlying5
  a5 := Tryd.isAgg5
  z5 := Tryd.sizeOf5
  v5 := Tryd.zeroValue5
  t9 := Tryd.underlying9
  a9 := Tryd.isAgg9
  z9 := Tryd.sizeOf9
  v9 := Tryd.zeroValue9
  t20 := Tryd.underlying20
  a20 := Tryd.isAgg20
  z20 := Tryd.sizeOf20
  v20 := Tryd.zeroValue20
  t21 := Tryd.underlying21
  a21 := Tryd.isAgg21
  z21 := Tryd.sizeOf21
  v21 := Tryd.zeroValue21
  t37 := Tryd.underlying54
  a37 := Tryd.isAgg54
  z37 := Tryd.sizeOf54
  v37 := Tryd.zeroValue54
  t46 := Tryd.underlying134
  a46 := Tryd.isAgg134
  z46 := Tryd.sizeOf134
  v46 := Tryd.zeroValue134
  t51 := Tryd.underlying149
  a51 := Tryd.isAgg149
  z51 := Tryd.sizeOf149
  v51 := Tryd.zeroValue149
  t53 := Tryd.underlying126
  a53 := Tryd.isAgg126
  z53 := Tryd.sizeOf126
  v53 := Tryd.zeroValue126
  t75 := Tryd.underlying57
  a75 := Tryd.isAgg57
  z75 := Tryd.sizeOf57
  v75 := Tryd.zeroValue57
  t76 := Tryd.underlying103
  a76 := Tryd.isAgg103
  z76 := Tryd.sizeOf103
  v76 := Tryd.zeroValue103
  t85 := Tryd.underlying140
  a85 := Tryd.isAgg140
  z85 := Tryd.sizeOf140
  v85 := Tryd.zeroValue140
  t127 := Tryd.underlying157
  a127 := Tryd.isAgg157
  z127 := Tryd.sizeOf157
  v127 := Tryd.zeroValue157
  t143 := Tryd.underlying158
  a143 := Tryd.isAgg158
  z143 := Tryd.sizeOf158
  v143 := Tryd.zeroValue158
  t145 := Tryd.underlying160
  a145 := Tryd.isAgg160
  z145 := Tryd.sizeOf160
  v145 := Tryd.zeroValue160
  t167 := Tryd.underlying139
  a167 := Tryd.isAgg139
  z167 := Tryd.sizeOf139
  v167 := Tryd.zeroValue139
  t168 := Tryd.underlying142
  a168 := Tryd.isAgg142
  z168 := Tryd.sizeOf142
  v168 := Tryd.zeroValue142
  t171 := Tryd.underlying162
  a171 := Tryd.isAgg162
  z171 := Tryd.sizeOf162
  v171 := Tryd.zeroValue162
  t173 := Tryd.underlying165
  a173 := Tryd.isAgg165
  z173 := Tryd.sizeOf165
  v173 := Tryd.zeroValue165
  t175 := Tryd.underlying150
  a175 := Tryd.isAgg150
  z175 := Tryd.sizeOf150
  v175 := Tryd.zeroValue150
  t210 := Tryd.underlying153
  a210 := Tryd.isAgg153
  z210 := Tryd.sizeOf153
  v210 := Tryd.zeroValue153
  t212 := Tryd.underlying168
  a212 := Tryd.isAgg168
  z212 := Tryd.sizeOf168
  v212 := Tryd.zeroValue168
  t213 := Tryd.underlying169
  a213 := Tryd.isAgg169
  z213 := Tryd.sizeOf169
  t232 := Tryd.underlying172
  a232 := Tryd.isAgg172
  z232 := Tryd.sizeOf172
  v232 := Tryd.zeroValue172
  t233 := Tryd.underlying115
  a233 := Tryd.isAgg115
  z233 := Tryd.sizeOf115
  v233 := Tryd.zeroValue115
  g15 := by kernel_rfl
  g16 := by kernel_rfl
  g17 := by kernel_rfl
  g18 := by kernel_rfl
  g19 := by kernel_rfl
  t80 := Tryd.underlying173
  a80 := Tryd.isAgg173
  z80 := Tryd.sizeOf173
  v80 := Tryd.zeroValue173
  i0 := by kernel_rfl
  i2 := by kernel_rfl
  i3 := by kernel_rfl
  i4 := by kernel_rfl
  i5 := by kernel_rfl
  i9 := by kernel_rfl
  i20 := by kernel_rfl
  i21 := by kernel_rfl
  i37 := by kernel_rfl
  i46 := by kernel_rfl
  i51 := by kernel_rfl
  i53 := by kernel_rfl
  i75 := by kernel_rfl
  i76 := by kernel_rfl
  i80 := by kernel_rfl
  i85 := by kernel_rfl
  i127 := by kernel_rfl
  i143 := by kernel_rfl
  i145 := by kernel_rfl
  i167 := by kernel_rfl
  i168 := by kernel_rfl
  i171 := by kernel_rfl
  i173 := by kernel_rfl
  i175 := by kernel_rfl
  i210 := by kernel_rfl
  i212 := by kernel_rfl
  i232 := by kernel_rfl
  i233 := by kernel_rfl
  m15 := by kernel_rfl
  m16 := by kernel_rfl
  m17 := by kernel_rfl
  m18 := by kernel_rfl
  m19 := by kernel_rfl
  c0 := by kernel_rfl
  c2 := by kernel_rfl
  c3 := by kernel_rfl
  c4 := by kernel_rfl
  c5 := by kernel_rfl
  c9 := by kernel_rfl
  c20 := by kernel_rfl
  c21 := by kernel_rfl
  c37 := by kernel_rfl
  c46 := by kernel_rfl
  c51 := by kernel_rfl
  c53 := by kernel_rfl
  c75 := by kernel_rfl
  c76 := by kernel_rfl
  c80 := by kernel_rfl
  c85 := by kernel_rfl
  c127 := by kernel_rfl
  c143 := by kernel_rfl
  c145 := by kernel_rfl
  c167 := by kernel_rfl
  c168 := by kernel_rfl
  c171 := by kernel_rfl
  c173 := by kernel_rfl
  c175 := by kernel_rfl
  c210 := by kernel_rfl
  c212 := by kernel_rfl
  c213 := by kernel_rfl
  c232 := by kernel_rfl
  c233 := by kernel_rfl }
open Go.RowKit in
/-- strconv.Atoi, AT EVERY STRING THAT SPELLS AN int ('Lib.atoiAll .. = .ok v'; of whatever length: leading zeros count): v, AND NO ERROR. The world: as it was, or with the one new row that '[]byte(..)' lays. (LAID: no walk: one application.) -/
theorem Tryd.strconv_Atoi_ok (s : ByteArray) (hmax : s.size ≤ 9223372036854775806) (v : Int) (h : Lib.atoiAll s.data.toList = .ok v) (w : World) :
    Calls Tryd.prog 80 #[.string s] w fun e w' => e = .returned (.tuple #[.int .i64 v, .nilIface]) ∧ (w' = w ∨ ∃ t, w' = Lib.bytesWorld w 5 t) := Any.strconv_Atoi_ok Tryd.laysC172 s hmax v h w
open Go.RowKit in
/-- strconv.Atoi, AT EVERY STRING THAT IS NO DECIMAL NUMERAL : 0, AND AN ERROR THAT IS NOT nil: a *NumError in a new block N: {Func: "Atoi", Num: s's bytes, Err: what the variable ErrSyntax holds}. Of what was there nothing has turned. (LAID: no walk: one application.) -/
theorem Tryd.strconv_Atoi_syntax (s : ByteArray) (hlim : s.size ≤ 281474976710656) (h : Lib.atoiAll s.data.toList = Lib.atoiAll []) (ev : Value) (w : World) (hv : w.cell? ⟨14, 0, none⟩ = some ev) (hev : ev = .nilIface ∨ ∃ te pe, ev = .iface te pe) :
    Calls Tryd.prog 80 #[.string s] w fun e w' => ∃ N, e = .returned (.tuple #[.int .i64 (0), .iface 142 (.pointer (some ⟨N, 0, none⟩))]) ∧ w.heap.size ≤ N ∧ w'.heap[N]? = some (.cells #[.string ⟨#[65, 116, 111, 105]⟩, .string s, ev] 153 (0, 0)) ∧ Below w.heap.size w w' := Any.strconv_Atoi_syntax Tryd.laysC172 s hlim h ev w hv hev
open Go.RowKit in
/-- strconv.Atoi, AT EVERY NUMERAL THAT NO int HOLDS ('.range'): THE GREATEST OR THE LEAST int, BY THE SIGN ('Lib.atoiSat'), AND AN ERROR THAT IS NOT nil: a *NumError in a new block N: {Func: "Atoi", Num: s's bytes, Err: what the variable ErrRange holds}. Of what was there nothing has turned. (LAID: no walk: one application.) -/
theorem Tryd.strconv_Atoi_range (s : ByteArray) (hlim : s.size ≤ 281474976710656) (h : Lib.atoiAll s.data.toList = .range) (ev : Value) (w : World) (hv : w.cell? ⟨15, 0, none⟩ = some ev) (hev : ev = .nilIface ∨ ∃ te pe, ev = .iface te pe) :
    Calls Tryd.prog 80 #[.string s] w fun e w' => ∃ N, e = .returned (.tuple #[.int .i64 (Lib.atoiSat s.data.toList), .iface 142 (.pointer (some ⟨N, 0, none⟩))]) ∧ w.heap.size ≤ N ∧ w'.heap[N]? = some (.cells #[.string ⟨#[65, 116, 111, 105]⟩, .string s, ev] 153 (0, 0)) ∧ Below w.heap.size w w' := Any.strconv_Atoi_range Tryd.laysC172 s hlim h ev w hv hev
def Tryd.lays187_ren : Go.Shelf.Ren := ⟨fun | 187 => 85 | 255 => 89 | n => n, fun | 37 => 54 | 5 => 5 | 3 => 3 | n => n, fun | n => n⟩
theorem Tryd.lays187 : Go.Proofs.Lays.n187 Tryd.prog Tryd.lays187_ren := {
  mixed := by kernel_rfl
  f187 := Tryd.func85.trans (congrArg some (by kernel_rfl))
  f255 := Tryd.func89.trans (congrArg some (by kernel_rfl))
  t3 := Tryd.underlying3
  a3 := Tryd.isAgg3
  z3 := Tryd.sizeOf3
  v3 := Tryd.zeroValue3
  t5 := Tryd.underlying5
  a5 := Tryd.isAgg5
  z5 := Tryd.sizeOf5
  v5 := Tryd.zeroValue5
  t37 := Tryd.underlying54
  a37 := Tryd.isAgg54
  z37 := Tryd.sizeOf54
  v37 := Tryd.zeroValue54 }
/-- bytes.IndexByte: "IndexByte returns the index of the first instance of c in b, or -1 if c is not present in b.": IT RETURNS 'Lib.indexByte (the bytes of b) c'; the world is as it was. 'xs': the numbers that the slice's cells hold. (LAID: no walk: one application.) -/
theorem Tryd.bytes_IndexByte (b o n c : Nat) (xs : List Int) (cv : Int) (w : World) (hx : xs.length = n) (hc : ∀ i, i < n → w.cell? ⟨b, o + i, none⟩ = some (.int .u8 (xs.getD i 0))) :
    Calls Tryd.prog 85 #[.slice (some ⟨b, o, none⟩) n c, .int .u8 cv] w fun e w' => e = .returned (.int .i64 (Lib.indexByte (Lib.bytesOf xs) cv.toNat.toUInt8)) ∧ w' = w := Any.bytes_IndexByte Tryd.lays187 b o n c xs cv w hx hc
end Go.Proofs
end

section
namespace Go.Proofs.YtpahejmkidhhhaaDoor.G
set_option linter.unusedVariables false
set_option linter.unusedSimpArgs false
open Go.RowKit Go.Proofs.YtpahejmkidhhhaaDoorW.PrintWords

theorem hexv_lt {c : Int} (h : hexv c ≠ -1) : 0 ≤ hexv c ∧ hexv c < 16 := by
  unfold hexv at h ⊢
  by_cases a : 48 ≤ c ∧ c ≤ 57
  · rw [if_pos a]; omega
  · rw [if_neg a] at h ⊢
    by_cases b : 65 ≤ c ∧ c ≤ 70
    · rw [if_pos b]; omega
    · rw [if_neg b] at h ⊢
      by_cases d : 97 ≤ c ∧ c ≤ 102
      · rw [if_pos d]; omega
      · rw [if_neg d] at h; exact absurd rfl h
theorem ret_int {x y : Int} (h : x = y) : Ending.returned (.int .i64 x) = Ending.returned (.int .i64 y) := by rw [h]
set_option maxHeartbeats 4000000 in
set_option maxRecDepth 100000 in
theorem h2I_calls (c : Int) (h0 : 0 ≤ c) (h1 : c < 256) (w : World) : Calls Tryd.prog 105 #[.int .u8 c] w (fun e w' => e = .returned (.int .i64 (hexv c)) ∧ w' = w) := by
  have hv : hexv c = if 48 ≤ c ∧ c ≤ 57 then c - 48 else if 65 ≤ c ∧ c ≤ 70 then c - 55 else if 97 ≤ c ∧ c ≤ 102 then c - 87 else -1 := rfl
  rcases Decidable.em (48 ≤ c ∧ c ≤ 57) with a | a
  · rw [if_pos a] at hv
    have HV := Aside0.mk hv
    obtain ⟨a1, a2⟩ := a
    have hwr : IntKind.u8.wrap (c - 48) = c - 48 := by rw [IntKind.wrap_u8]; omega
    clear hv
    go_enter Tryd.func105, Tryd.ntmps105
    go_wp2
    go_ret
    exact ⟨ret_int HV.out.symm, rfl⟩
  · rw [if_neg a] at hv
    rcases Decidable.em (65 ≤ c ∧ c ≤ 70) with b | b
    · rw [if_pos b] at hv
      have HV := Aside0.mk hv
      obtain ⟨a1, a2⟩ := b
      have hwr : IntKind.u8.wrap (c - 65) = c - 65 := by rw [IntKind.wrap_u8]; omega
      clear hv a
      go_enter Tryd.func105, Tryd.ntmps105
      go_wp2
      go_ret
      exact ⟨ret_int (by rw [HV.out]; omega), rfl⟩
    · rw [if_neg b] at hv
      rcases Decidable.em (97 ≤ c ∧ c ≤ 102) with d | d
      · rw [if_pos d] at hv
        have HV := Aside0.mk hv
        obtain ⟨a1, a2⟩ := d
        have hwr : IntKind.u8.wrap (c - 97) = c - 97 := by rw [IntKind.wrap_u8]; omega
        clear hv a b
        go_enter Tryd.func105, Tryd.ntmps105
        go_wp2
        go_ret
        exact ⟨ret_int (by rw [HV.out]; omega), rfl⟩
      · rw [if_neg d] at hv
        have HV := Aside0.mk hv
        clear hv
        go_enter Tryd.func105, Tryd.ntmps105
        go_wp2
        all_goals first
          | (exfalso; omega)
          | (go_ret; exact ⟨ret_int HV.out.symm, rfl⟩)
def SUA (o : Option Int) (w : World) (e : Ending) (w' : World) : Prop := (e = match o with | none => .returned (.tuple #[.int .i32 65533, .bool false]) | some r => .returned (.tuple #[.int .i32 r, .bool true])) ∧ ∃ k, w' = w.drewN k
set_option maxHeartbeats 4000000 in
set_option maxRecDepth 100000 in
theorem single_calls (h o n c : Nat) (l : List Int) (w : World) (H : RowAt w h o l) (hby : Bytes l) (hl : l.length = n) (hn : n ≤ 140737488351232) : Calls Tryd.prog 97 #[.slice (some ⟨h, o, none⟩) n c] w (SUA (su l) w) := by
  have hs : su l = if l.length < 6 then none
    else if hexv (l.getD 2 0) = -1 ∨ hexv (l.getD 3 0) = -1 ∨ hexv (l.getD 4 0) = -1 ∨ hexv (l.getD 5 0) = -1 then none
    else some (hexv (l.getD 2 0) * 4096 + hexv (l.getD 3 0) * 256 + hexv (l.getD 4 0) * 16 + hexv (l.getD 5 0)) := rfl
  rcases Decidable.em (n < 6) with h6 | h6
  · rw [if_pos (by omega)] at hs
    rw [hs]
    clear hs
    go_enter Tryd.func97, Tryd.ntmps97
    go_wp2_with fail
    go_ret2
    exact ⟨rfl, 0, rfl⟩
  · rw [if_neg (by omega)] at hs
    obtain ⟨x2, e2⟩ : ∃ x, x = l.getD 2 0 := ⟨_, rfl⟩
    obtain ⟨x3, e3⟩ : ∃ x, x = l.getD 3 0 := ⟨_, rfl⟩
    obtain ⟨x4, e4⟩ : ∃ x, x = l.getD 4 0 := ⟨_, rfl⟩
    obtain ⟨x5, e5⟩ : ∃ x, x = l.getD 5 0 := ⟨_, rfl⟩
    have c2 : w.cell? ⟨h, o + 2, none⟩ = some (.int .u8 x2) := by rw [e2]; exact H.2 2 (by omega)
    have c3 : w.cell? ⟨h, o + 3, none⟩ = some (.int .u8 x3) := by rw [e3]; exact H.2 3 (by omega)
    have c4 : w.cell? ⟨h, o + 4, none⟩ = some (.int .u8 x4) := by rw [e4]; exact H.2 4 (by omega)
    have c5 : w.cell? ⟨h, o + 5, none⟩ = some (.int .u8 x5) := by rw [e5]; exact H.2 5 (by omega)
    have b2 := hby.at' (k := 2) (by omega)
    have b3 := hby.at' (k := 3) (by omega)
    have b4 := hby.at' (k := 4) (by omega)
    have b5 := hby.at' (k := 5) (by omega)
    rw [← e2] at b2
    rw [← e3] at b3
    rw [← e4] at b4
    rw [← e5] at b5
    rw [← e2, ← e3, ← e4, ← e5] at hs
    have K2 := Aside0.mk (fun W => h2I_calls x2 b2.1 b2.2 W)
    have K3 := Aside0.mk (fun W => h2I_calls x3 b3.1 b3.2 W)
    have K4 := Aside0.mk (fun W => h2I_calls x4 b4.1 b4.2 W)
    have K5 := Aside0.mk (fun W => h2I_calls x5 b5.1 b5.2 W)
    have v2 := hexv_lt (c := x2)
    have v3 := hexv_lt (c := x3)
    have v4 := hexv_lt (c := x4)
    have v5 := hexv_lt (c := x5)
    clear H hby b2 b3 b4 b5 e2 e3 e4 e5
    generalize hexv x2 = y2 at *
    generalize hexv x3 = y3 at *
    generalize hexv x4 = y4 at *
    generalize hexv x5 = y5 at *
    rcases Decidable.em (y2 = -1 ∨ y3 = -1 ∨ y4 = -1 ∨ y5 = -1) with hb | hb
    · rw [if_pos hb] at hs
      rw [hs]
      clear hs v2 v3 v4 v5
      have hq : (y2 == -1) = true ∨ ((y2 == -1) = false ∧ (y3 == -1) = true) ∨ ((y2 == -1) = false ∧ (y3 == -1) = false ∧ (y4 == -1) = true) ∨ ((y2 == -1) = false ∧ (y3 == -1) = false ∧ (y4 == -1) = false ∧ (y5 == -1) = true) := by
        simp only [beq_iff_eq, beq_eq_false_iff_ne]
        omega
      clear hb
      rcases hq with m2 | ⟨m2, m3⟩ | ⟨m2, m3, m4⟩ | ⟨m2, m3, m4, m5⟩
      all_goals
        go_enter Tryd.func97, Tryd.ntmps97
        go_upto_region 3 with fail
        go_quiet (first
          | (go_at_call 105; with_reducible exact Calls.quiet_of_same (K2.out _))
          | (go_at_call 105; with_reducible exact Calls.quiet_of_same (K3.out _))
          | (go_at_call 105; with_reducible exact Calls.quiet_of_same (K4.out _))
          | (go_at_call 105; with_reducible exact Calls.quiet_of_same (K5.out _)))
        go_wp2_with fail
        go_ret2
        exact ⟨rfl, _, rfl⟩
    · rw [if_neg hb] at hs
      rw [hs]
      clear hs
      have v2 := v2 (by omega)
      have v3 := v3 (by omega)
      have v4 := v4 (by omega)
      have v5 := v5 (by omega)
      have n2 : (y2 == -1) = false := by simp; omega
      have n3 : (y3 == -1) = false := by simp; omega
      have n4 : (y4 == -1) = false := by simp; omega
      have n5 : (y5 == -1) = false := by simp; omega
      clear hb
      go_enter Tryd.func97, Tryd.ntmps97
      go_upto_region 3 with fail
      go_quiet (first
        | (go_at_call 105; with_reducible exact Calls.quiet_of_same (K2.out _))
        | (go_at_call 105; with_reducible exact Calls.quiet_of_same (K3.out _))
        | (go_at_call 105; with_reducible exact Calls.quiet_of_same (K4.out _))
        | (go_at_call 105; with_reducible exact Calls.quiet_of_same (K5.out _)))
      go_wp2_with fail
      go_ret2
      exact ⟨rfl, _, rfl⟩
theorem su_lt {l : List Int} {r : Int} (h : su l = some r) : 0 ≤ r ∧ r < 65536 ∧ 6 ≤ l.length := by
  unfold su at h
  by_cases h6 : l.length < 6
  · rw [if_pos h6] at h; cases h
  · rw [if_neg h6] at h
    by_cases hb : hexv (l.getD 2 0) = -1 ∨ hexv (l.getD 3 0) = -1 ∨ hexv (l.getD 4 0) = -1 ∨ hexv (l.getD 5 0) = -1
    · rw [if_pos hb] at h; cases h
    · rw [if_neg hb] at h
      have h2 := hexv_lt (c := l.getD 2 0) (by omega)
      have h3 := hexv_lt (c := l.getD 3 0) (by omega)
      have h4 := hexv_lt (c := l.getD 4 0) (by omega)
      have h5 := hexv_lt (c := l.getD 5 0) (by omega)
      have := Option.some.inj h
      omega
set_option maxHeartbeats 4000000 in
set_option maxRecDepth 100000 in
theorem isU_calls (r : Int) (h0 : 0 ≤ r) (h1 : r < 65536) (w : World) : Calls Tryd.prog 98 #[.int .i32 r] w (fun e w' => e = .returned (.bool (decide (55296 ≤ r ∧ r ≤ 57343))) ∧ w' = w) := by
  rcases Decidable.em (55296 ≤ r) with a | a
  · have e : decide (55296 ≤ r ∧ r ≤ 57343) = decide (r ≤ 57343) := by simp [a]
    rw [e]
    go_enter Tryd.func98, Tryd.ntmps98
    go_wp2
    go_ret
    exact ⟨rfl, rfl⟩
  · have e : decide (55296 ≤ r ∧ r ≤ 57343) = false := by simp; omega
    rw [e]
    go_enter Tryd.func98, Tryd.ntmps98
    go_wp2
    go_ret
    exact ⟨rfl, rfl⟩
set_option maxHeartbeats 4000000 in
set_option maxRecDepth 100000 in
theorem comb_calls (r s : Int) (h0 : 55296 ≤ r) (h1 : r < 56320) (h2 : 56320 ≤ s) (h3 : s ≤ 57343) (w : World) : Calls Tryd.prog 99 #[.int .i32 r, .int .i32 s] w (fun e w' => e = .returned (.int .i32 (65536 + (r - 55296) * 1024 + (s - 56320))) ∧ w' = w) := by
  go_enter Tryd.func99, Tryd.ntmps99
  go_wp2
  go_ret
  exact ⟨rfl, rfl⟩
end Go.Proofs.YtpahejmkidhhhaaDoor.G
end

section
namespace Go.Proofs.YtpahejmkidhhhaaDoor.G
set_option linter.unusedVariables false
set_option linter.unusedSimpArgs false
open Go.RowKit Go.Proofs.YtpahejmkidhhhaaDoorW.PrintWords

def DUA (o : Option (Int × Nat)) (w : World) (e : Ending) (w' : World) : Prop := (e = match o with | none => .returned (.tuple #[.int .i32 65533, .int .i64 (-1)]) | some r => .returned (.tuple #[.int .i32 r.1, .int .i64 (r.2 : Int)])) ∧ ∃ k, w' = w.drewN k
theorem RowAt.drewN {w : World} {h o : Nat} {xs : List Int} (H : RowAt w h o xs) (k : Nat) : RowAt (w.drewN k) h o xs := H
theorem drop_len {l : List Int} {n k : Nat} (h : l.length = n) : (l.drop k).length = n - k := by rw [List.length_drop, h]
set_option maxHeartbeats 4000000 in
set_option maxRecDepth 100000 in
theorem decode_calls (h o n c : Nat) (l : List Int) (w : World) (H : RowAt w h o l) (hby : Bytes l) (hl : l.length = n) (hn : n ≤ 140737488351232) (hnc : n ≤ c) : Calls Tryd.prog 90 #[.slice (some ⟨h, o, none⟩) n c] w (DUA (du l) w) := by
  have C1 := single_calls h o n c l w H hby hl hn
  unfold SUA at C1
  have hd : du l = match su l with
  | none => none
  | some r =>
    if ¬ (55296 ≤ r ∧ r ≤ 57343) then some (r, 6)
    else if 56320 ≤ r then some (65533, 6)
    else if l.length < 8 ∨ l.getD 6 0 ≠ 92 ∨ l.getD 7 0 ≠ 117 then some (65533, 6)
    else match su (l.drop 6) with
      | none => none
      | some s => if s < 56320 ∨ 57343 < s then some (65533, 6) else some (65536 + (r - 55296) * 1024 + (s - 56320), 12) := rfl
  cases hs : su l with
  | none =>
    rw [hs] at C1 hd
    rw [hd]
    have C1 := Aside0.mk C1
    clear hd hs
    go_enter Tryd.func90, Tryd.ntmps90
    go_wp2_with (go_at_call 97; refine C1.out.mono ?_; rintro e w1 ⟨rfl, k1, rfl⟩)
    go_ret2
    exact ⟨rfl, _, rfl⟩
  | some r =>
    obtain ⟨r0, r1, h6⟩ := su_lt hs
    rw [hs] at C1 hd
    simp only [] at C1 hd
    have C1 := Aside0.mk C1
    have CU := Aside0.mk (fun W => isU_calls r r0 r1 W)
    clear hs
    rcases Decidable.em (55296 ≤ r ∧ r ≤ 57343) with hu | hu
    · rw [if_neg (fun hn => hn hu)] at hd
      rw [decide_eq_true hu] at CU
      rcases Decidable.em (56320 ≤ r) with hlo | hlo
      · rw [if_pos hlo] at hd
        rw [hd]
        clear hd
        go_enter Tryd.func90, Tryd.ntmps90
        go_wp2_with (first
          | (go_at_call 97; refine C1.out.mono ?_; rintro e w1 ⟨rfl, k1, rfl⟩)
          | (go_at_call 98; refine (CU.out _).mono ?_; rintro e w2 ⟨rfl, rfl⟩))
        go_ret2
        exact ⟨rfl, _, rfl⟩
      · rw [if_neg hlo] at hd
        rcases Decidable.em (n < 8) with h8 | h8
        · rw [if_pos (.inl (by omega))] at hd
          rw [hd]
          clear hd
          go_enter Tryd.func90, Tryd.ntmps90
          go_wp2_with (first
            | (go_at_call 97; refine C1.out.mono ?_; rintro e w1 ⟨rfl, k1, rfl⟩)
            | (go_at_call 98; refine (CU.out _).mono ?_; rintro e w2 ⟨rfl, rfl⟩))
          go_ret2
          exact ⟨rfl, _, rfl⟩
        · obtain ⟨x6, e6⟩ : ∃ x, x = l.getD 6 0 := ⟨_, rfl⟩
          obtain ⟨x7, e7⟩ : ∃ x, x = l.getD 7 0 := ⟨_, rfl⟩
          have c6 : ∀ k, (w.drewN k).cell? ⟨h, o + 6, none⟩ = some (.int .u8 x6) := fun k => by rw [e6]; exact H.2 6 (by omega)
          have c7 : ∀ k, (w.drewN k).cell? ⟨h, o + 7, none⟩ = some (.int .u8 x7) := fun k => by rw [e7]; exact H.2 7 (by omega)
          have C2 := Aside0.mk (fun k => single_calls h (o + 6) (n - 6) (c - 6) (l.drop 6) (w.drewN k) ((H.drewN k).drop 6) (hby.drop 6) (drop_len hl) (by omega))
          rw [← e6, ← e7] at hd
          unfold SUA at C2
          clear H hby e6 e7
          rcases Decidable.em (x6 = 92 ∧ x7 = 117) with hx | hx
          · obtain ⟨rfl, rfl⟩ := hx
            rw [if_neg (by omega)] at hd
            have hc6 : ¬ c = 6 := by omega
            cases hs2 : su (l.drop 6) with
            | none =>
              rw [hs2] at C2 hd
              rw [hd]
              clear hd hs2
              go_enter Tryd.func90, Tryd.ntmps90
              go_wp2_with (first
                | (go_at_call 97; have hkk := k1; refine (C2.out _).mono ?_; rintro e w3 ⟨rfl, k2, rfl⟩)
                | (go_at_call 97; refine C1.out.mono ?_; rintro e w1 ⟨rfl, k1, rfl⟩)
                | (go_at_call 98; refine (CU.out _).mono ?_; rintro e w2 ⟨rfl, rfl⟩))
              go_ret2
              exact ⟨rfl, _, rfl⟩
            | some s =>
              rw [hs2] at C2 hd
              simp only [] at C2 hd
              have hs3 := su_lt hs2
              rcases Decidable.em (s < 56320 ∨ 57343 < s) with hb | hb
              · rw [if_pos hb] at hd
                rw [hd]
                clear hd hs2
                rcases Decidable.em (s < 56320) with hb1 | hb1
                all_goals
                  go_enter Tryd.func90, Tryd.ntmps90
                  go_wp2_with (first
                    | (go_at_call 97; have hkk := k1; refine (C2.out _).mono ?_; rintro e w3 ⟨rfl, k2, rfl⟩)
                    | (go_at_call 97; refine C1.out.mono ?_; rintro e w1 ⟨rfl, k1, rfl⟩)
                    | (go_at_call 98; refine (CU.out _).mono ?_; rintro e w2 ⟨rfl, rfl⟩))
                  all_goals first
                    | (exfalso; omega)
                    | (go_ret2; exact ⟨rfl, _, rfl⟩)
              · rw [if_neg hb] at hd
                rw [hd]
                have CC := Aside0.mk (fun W => comb_calls r s (by omega) (by omega) (by omega) (by omega) W)
                clear hd hs2
                go_enter Tryd.func90, Tryd.ntmps90
                go_wp2_with (first
                  | (go_at_call 97; have hkk := k1; refine (C2.out _).mono ?_; rintro e w3 ⟨rfl, k2, rfl⟩)
                  | (go_at_call 97; refine C1.out.mono ?_; rintro e w1 ⟨rfl, k1, rfl⟩)
                  | (go_at_call 99; refine (CC.out _).mono ?_; rintro e w4 ⟨rfl, rfl⟩)
                  | (go_at_call 98; refine (CU.out _).mono ?_; rintro e w2 ⟨rfl, rfl⟩))
                all_goals first
                  | (exfalso; omega)
                  | (go_ret2; exact ⟨rfl, _, rfl⟩)
          · rw [if_pos (by omega)] at hd
            rw [hd]
            clear hd
            have hx' : (x6 != 92) = true ∨ (x6 = 92 ∧ (x7 != 117) = true) := by
              simp only [bne_iff_ne, ne_eq]; omega
            clear hx
            rcases hx' with hx1 | ⟨rfl, hx2⟩
            all_goals
              go_enter Tryd.func90, Tryd.ntmps90
              go_wp2_with (first
                | (go_at_call 97; refine C1.out.mono ?_; rintro e w1 ⟨rfl, k1, rfl⟩)
                | (go_at_call 98; refine (CU.out _).mono ?_; rintro e w2 ⟨rfl, rfl⟩))
              go_ret2
              exact ⟨rfl, _, rfl⟩
    · rw [if_pos hu] at hd
      rw [decide_eq_false hu] at CU
      rw [hd]
      clear hd
      go_enter Tryd.func90, Tryd.ntmps90
      go_wp2_with (first
        | (go_at_call 97; refine C1.out.mono ?_; rintro e w1 ⟨rfl, k1, rfl⟩)
        | (go_at_call 98; refine (CU.out _).mono ?_; rintro e w2 ⟨rfl, rfl⟩))
      go_ret2
      exact ⟨rfl, _, rfl⟩
end Go.Proofs.YtpahejmkidhhhaaDoor.G
end

section
namespace Go.Proofs.YtpahejmkidhhhaaDoor.G
set_option linter.unusedVariables false
set_option linter.unusedSimpArgs false
open Go.RowKit Go.Proofs.YtpahejmkidhhhaaDoorW.PrintWords

/-- Bytes bs are written into block B from place j on; all else is as it was. -/
structure Put (w w' : World) (B j : Nat) (bs : List Int) : Prop where
  g : w.grownBy w' (some B)
  new : ∀ i, i < bs.length → w'.cell? ⟨B, j + i, none⟩ = some (.int .u8 (bs.getD i 0))
  old : ∀ i, (i < j ∨ j + bs.length ≤ i) → w'.cell? ⟨B, i, none⟩ = w.cell? ⟨B, i, none⟩
  fz : ∀ i, w'.frozen? ⟨B, i, none⟩ = w.frozen? ⟨B, i, none⟩
theorem Put.nil (w : World) (B j : Nat) : Put w w B j [] := ⟨World.grownBy.refl _ _, fun i hi => by simp at hi, fun _ _ => rfl, fun _ => rfl⟩
theorem Put.drewN {w w' : World} {B j : Nat} {bs : List Int} (h : Put w w' B j bs) (k : Nat) : Put w (w'.drewN k) B j bs := ⟨⟨h.g.os, h.g.tape, h.g.output, h.g.size, h.g.block⟩, h.new, h.old, h.fz⟩
/-- Blocks that are laid ahead of the writing. -/
theorem Put.before {w w1 w' : World} {B j : Nat} {bs : List Int} (hb : Below w.heap.size w w1) (hB : B < w.heap.size) (h : Put w1 w' B j bs) : Put w w' B j bs := by
  have hg : w.grownBy w1 (some B) := ⟨hb.os, hb.tape, hb.output, hb.size, fun k hk _ => hb.block k hk⟩
  refine ⟨hg.trans h.g, h.new, fun i hi => (h.old i hi).trans (hb.cell (p := ⟨B, i, none⟩) hB), fun i => (h.fz i).trans ?_⟩
  exact World.frozen?_of_block (w := w) (w' := w1) (hb.block B hB)
theorem grown_setCells (b : Nat) : ∀ (vs : List Value) (o : Nat) (w : World), w.grownBy (w.setCells b o vs) (some b)
  | [], o, w => World.grownBy.refl _ _
  | v :: r, o, w => by
    rw [World.setCells]
    have h1 : w.grownBy (w.setCell ⟨b, o, none⟩ v) (some b) := ⟨rfl, rfl, rfl, by simp [World.setCell], fun k hk hn => Below.heap_setCell _ _ _ _ (by rintro rfl; exact hn rfl)⟩
    exact h1.trans (grown_setCells b r (o + 1) _)
theorem put_cells {w : World} {B j : Nat} {bs : List Int} (hc : ∀ i, i < bs.length → (w.cell? ⟨B, j + i, none⟩).isSome = true) : Put w (w.setCells B j (bs.map (Value.int .u8))) B j bs := by
  refine ⟨grown_setCells _ _ _ _, fun i hi => ?_, fun i hi => ?_, fun i => World.frozen?_setCells _ _ _ _ _⟩
  · rw [World.cell?_setCells_in B (bs.map (Value.int .u8)) j w (fun k hk => hc k (by simpa using hk)) i (by simpa using hi)]
    simp [List.getD_eq_getElem?_getD, hi]
  · exact World.cell?_setCells_out B _ j w ⟨B, i, none⟩ (fun _ _ => by rw [List.length_map]; exact hi)
theorem put_one {w : World} {B j : Nat} {x : Int} {u : Value} (hc : w.cell? ⟨B, j, none⟩ = some u) : Put w (w.setCell ⟨B, j, none⟩ (.int .u8 x)) B j [x] := by
  have := put_cells (w := w) (B := B) (j := j) (bs := [x]) (fun i hi => by
    obtain rfl : i = 0 := by simpa using hi
    rw [Nat.add_zero, hc]; rfl)
  exact this
/-- The table of escapes. -/
def TabT (w : World) : Prop := 12 < w.heap.size ∧ ∀ i : Nat, isEs (i : Int) = true → w.cell? ⟨12, i, none⟩ = some (.int .u8 (shortc (i : Int)))
theorem TabT.below {w w' : World} (H : TabT w) (hb : Below w.heap.size w w') : TabT w' := ⟨Nat.lt_of_lt_of_le H.1 hb.size, fun i hi => (hb.cell (p := ⟨12, i, none⟩) H.1).trans (H.2 i hi)⟩
/-- A buffer: cells that may be written. -/
def BufW (w : World) (B j L : Nat) : Prop := B < w.heap.size ∧ ∀ i, i < L → (w.cell? ⟨B, j + i, none⟩).isSome = true ∧ w.frozen? ⟨B, j + i, none⟩ = false
theorem BufW.below {w w' : World} {B j L : Nat} (H : BufW w B j L) (hb : Below w.heap.size w w') : BufW w' B j L :=
  ⟨Nat.lt_of_lt_of_le H.1 hb.size, fun i hi => ⟨by rw [hb.cell (p := ⟨B, j + i, none⟩) H.1]; exact (H.2 i hi).1, by rw [World.frozen?_of_block (w := w) (w' := w') (hb.block B H.1)]; exact (H.2 i hi).2⟩⟩
def UNA (o : Option (Nat × List Int)) (B j : Nat) (w : World) (e : Ending) (w' : World) : Prop :=
  (e = match o with | none => .returned (.tuple #[.int .i64 (-1), .int .i64 (-1)]) | some r => .returned (.tuple #[.int .i64 (r.1 : Int), .int .i64 (r.2.length : Int)])) ∧ Put w w' B j (match o with | none => [] | some r => r.2)
theorem es_or {x : Int} (h : isEs x = true) : x = 34 ∨ x = 92 ∨ x = 47 ∨ x = 98 ∨ x = 102 ∨ x = 110 ∨ x = 114 ∨ x = 116 := by
  unfold isEs at h
  simp only [Bool.or_eq_true, beq_iff_eq] at h
  omega
theorem es_not {x : Int} (h : isEs x = false) : (x == 34) = false ∧ (x == 92) = false ∧ (x == 47) = false ∧ (x == 98) = false ∧ (x == 102) = false ∧ (x == 110) = false ∧ (x == 114) = false ∧ (x == 116) = false := by
  unfold isEs at h
  simp only [Bool.or_eq_false_iff] at h
  exact ⟨h.1.1.1.1.1.1.1, h.1.1.1.1.1.1.2, h.1.1.1.1.1.2, h.1.1.1.1.2, h.1.1.1.2, h.1.1.2, h.1.2, h.2⟩
theorem du_lt {l : List Int} {r : Int} {n : Nat} (h : du l = some (r, n)) : 0 ≤ r ∧ r ≤ 1114111 ∧ 6 ≤ l.length := by
  unfold du at h
  cases hs : su l with
  | none => rw [hs] at h; cases h
  | some a =>
    rw [hs] at h
    have ha := su_lt hs
    simp only [] at h
    split at h
    · cases h; omega
    · split at h
      · cases h; omega
      · split at h
        · cases h; omega
        · cases hs2 : su (l.drop 6) with
          | none => rw [hs2] at h; cases h
          | some b =>
            rw [hs2] at h
            have hb := su_lt hs2
            simp only [] at h
            split at h
            · cases h; omega
            · rename_i g1 g2 g3 g4
              simp only [Option.some.injEq, Prod.mk.injEq] at h
              omega
set_option maxHeartbeats 4000000 in
set_option maxRecDepth 100000 in
theorem un1_calls (h o n c B j L C : Nat) (l : List Int) (w : World) (hT : TabT w) (H : RowAt w h o l) (hby : Bytes l) (hl : l.length = n) (hn : n ≤ 140737488351232) (hnc : n ≤ c) (h1 : 1 ≤ n) (h92 : l.getD 0 0 = 92) (hW : BufW w B j L) (hnL : n ≤ L) (hLC : L ≤ C) :
    Calls Tryd.prog 86 #[.agg #[.bool false, .bool false, .int .i64 0], .slice (some ⟨h, o, none⟩) n c, .slice (some ⟨B, j, none⟩) L C] w (UNA (e1 l) B j w) := by
  have hB0 : Below w.heap.size w (w.alloc (.cells #[.bool false, .bool false, .int .i64 0] 90)) := below_alloc1 _
  have HB0 := Aside0.mk hB0
  have HC := cfg_new w 90
  have g0 := HC.2.1
  have g1 := HC.2.2.1
  have he : e1 l = if l.length < 2 then none
    else if isEs (l.getD 1 0) = true then some (2, [shortc (l.getD 1 0)])
    else if l.getD 1 0 = 117 then (du l).map fun r => (r.2, u8 r.1)
    else none := rfl
  have r0 : (w.alloc (.cells #[.bool false, .bool false, .int .i64 0] 90)).cell? ⟨h, o, none⟩ = some (.int .u8 92) := by
    have := (H.below hB0).2 0 (by omega)
    rwa [h92, Nat.add_zero] at this
  have hWB := Aside0.mk hW.1
  rcases Decidable.em (n < 2) with h2 | h2
  · rw [if_pos (by omega)] at he
    rw [he]
    clear he hT H hby hW
    go_enter Tryd.func86, Tryd.ntmps86
    go_wp2_with fail
    go_ret2
    exact ⟨rfl, Put.before HB0.out hWB.out (Put.nil _ _ _)⟩
  · rw [if_neg (by omega)] at he
    obtain ⟨x, hx⟩ : ∃ x, x = l.getD 1 0 := ⟨_, rfl⟩
    have r1 : (w.alloc (.cells #[.bool false, .bool false, .int .i64 0] 90)).cell? ⟨h, o + 1, none⟩ = some (.int .u8 x) := by rw [hx]; exact (H.below hB0).2 1 (by omega)
    have bx := hby.at' (k := 1) (by omega)
    rw [← hx] at he bx
    have HX := Aside0.mk hx
    clear hx h92 hB0 HC
    have hB0 := HB0.out
    have hL1 : ¬ L = 0 := by omega
    cases hes : isEs x with
    | true =>
      rw [if_pos hes] at he
      rw [he]
      obtain ⟨q, hq⟩ := Int.eq_ofNat_of_zero_le bx.1
      have t1 := (hT.below hB0).2 q (by rw [← hq]; exact hes)
      rw [← hq] at t1
      obtain ⟨u0, hu0⟩ := Option.isSome_iff_exists.1 ((hW.below hB0).2 0 (by omega)).1
      have hf0 := ((hW.below hB0).2 0 (by omega)).2
      rw [Nat.add_zero] at hu0 hf0
      have HP := Aside0.mk (put_one (x := shortc x) hu0)
      clear he hT H hby hW hB0
      rcases es_or hes with rfl | rfl | rfl | rfl | rfl | rfl | rfl | rfl
      all_goals
        obtain rfl : q = _ := (Int.ofNat_inj.1 hq).symm
        clear hes hq
        go_enter Tryd.func86, Tryd.ntmps86
        go_wp2_with fail
        go_ret2
        exact ⟨rfl, Put.before HB0.out hWB.out HP.out⟩
    | false =>
      rw [if_neg (by rw [hes]; decide)] at he
      obtain ⟨n1, n2, n3, n4, n5, n6, n7, n8⟩ := es_not hes
      clear hes
      rcases Decidable.em (x = 117) with hu | hu
      · rw [if_pos hu] at he
        have CD := decode_calls h o n c l _ (H.below hB0) hby hl hn hnc
        unfold DUA at CD
        subst hu
        cases hd : du l with
        | none =>
          rw [hd] at CD he
          rw [he]
          have CD := Aside0.mk CD
          clear he hT H hby hW hB0 hd
          go_enter Tryd.func86, Tryd.ntmps86
          go_wp2_with (go_at_call 90; refine CD.out.mono ?_; rintro e w1 ⟨rfl, k1, rfl⟩)
          go_ret2
          exact ⟨rfl, Put.before HB0.out hWB.out ((Put.nil _ _ _).drewN _)⟩
        | some rn =>
          obtain ⟨r, m⟩ := rn
          obtain ⟨hr0, hr1, h6⟩ := du_lt hd
          rw [hd] at CD he
          simp only [Option.map_some] at he CD
          rw [he]
          have hlen := Lib.runeCells_le r
          have hWb := hW.below hB0
          have HWC := Aside0.mk (fun i (hi : i < (Lib.runeCells r).length) => hWb.2 i (by omega))
          have CE := Aside0.mk (fun k => Tryd.utf8_EncodeRune B j L C r (by omega) (by omega) ((w.alloc (.cells #[.bool false, .bool false, .int .i64 0] 90)).drewN k) (by omega) (fun i hi => (HWC.out i hi).1) (fun i hi => (HWC.out i hi).2))
          have hu8 : Lib.runeCells r = (u8 r).map (Value.int .u8) := by unfold u8 Lib.runeCells; rfl
          have hul : (Lib.runeCells r).length = (u8 r).length := by rw [hu8, List.length_map]
          rw [hul] at CE
          have HP := Aside0.mk (fun k => put_cells (w := (w.alloc (.cells #[.bool false, .bool false, .int .i64 0] 90)).drewN k) (B := B) (j := j) (bs := u8 r) (fun i hi => (HWC.out i (by rw [hul]; exact hi)).1))
          rw [← hu8] at HP
          have CD := Aside0.mk CD
          have hm1 : ((m : Int) == -1) = false := by simp
          clear he hT H hby hW hB0 hd hWb hlen hu8 hul
          go_enter Tryd.func86, Tryd.ntmps86
          go_wp2_with (first
            | (go_at_call 91; refine (CE.out _).mono ?_; rintro e w2 ⟨rfl, rfl⟩)
            | (go_at_call 90; refine CD.out.mono ?_; rintro e w1 ⟨rfl, k1, rfl⟩))
          go_ret2
          exact ⟨rfl, Put.before (below_drewN HB0.out _) hWB.out (HP.out _)⟩
      · rw [if_neg hu] at he
        rw [he]
        have hub : (x == 117) = false := by simpa using hu
        clear he hT H hby hW hB0
        rcases Decidable.em (x = 39) with h39 | h39
        · subst h39
          go_enter Tryd.func86, Tryd.ntmps86
          go_wp2_with fail
          go_ret2
          exact ⟨rfl, Put.before HB0.out hWB.out (Put.nil _ _ _)⟩
        · have h39b : (x == 39) = false := by simpa using h39
          clear h39 hu
          go_enter Tryd.func86, Tryd.ntmps86
          go_wp2_with fail
          go_ret2
          exact ⟨rfl, Put.before HB0.out hWB.out (Put.nil _ _ _)⟩
end Go.Proofs.YtpahejmkidhhhaaDoor.G
end

section
namespace Go.Proofs.YtpahejmkidhhhaaDoor.G
set_option linter.unusedVariables false
set_option linter.unusedSimpArgs false
open Go.RowKit Go.Proofs.YtpahejmkidhhhaaDoorW.PrintWords

/-- The first backslash. -/
def fb : List Int → Option Nat
  | [] => none
  | c :: l => if c = 92 then some 0 else (fb l).map (· + 1)
theorem fb_ix : ∀ {l : List Int}, Bytes l → Lib.indexByte (Lib.bytesOf l) 92 = match fb l with | none => -1 | some f => (f : Int)
  | [], _ => rfl
  | c :: l, h => by
    have hc := h c (by simp)
    have ih := fb_ix (l := l) (fun x hx => h x (by simp [hx]))
    have e : Lib.bytesOf (c :: l) = UInt8.ofNat c.toNat :: Lib.bytesOf l := rfl
    rw [e, Lib.indexByte, fb]
    by_cases h92 : c = 92
    · rw [if_pos h92]
      subst h92
      rfl
    · rw [if_neg h92]
      have hb : (UInt8.ofNat c.toNat == 92) = false := by
        simp only [beq_eq_false_iff_ne, ne_eq]
        intro hh
        have := congrArg UInt8.toNat hh
        rw [UInt8.toNat_ofNat'] at this
        have h2 : (92 : UInt8).toNat = 92 := rfl
        omega
      rw [hb, ih]
      cases fb l with
      | none => rfl
      | some f =>
        have : ((f : Int) == -1) = false := by simp
        simp only [this, Option.map_some]
        push_cast
        rfl
theorem fb_none : ∀ {l : List Int}, fb l = none → ue l = some l
  | [], _ => rfl
  | c :: l, h => by
    rw [fb] at h
    by_cases h92 : c = 92
    · rw [if_pos h92] at h; cases h
    · rw [if_neg h92] at h
      have : fb l = none := by cases hf : fb l with | none => rfl | some f => rw [hf] at h; cases h
      rw [ue_other h92, fb_none this]; rfl
theorem fb_some : ∀ {l : List Int} {f : Nat}, fb l = some f → f < l.length ∧ l.getD f 0 = 92 ∧ ue l = (ue (l.drop f)).map (l.take f ++ ·)
  | [], _, h => by cases h
  | c :: l, f, h => by
    rw [fb] at h
    by_cases h92 : c = 92
    · rw [if_pos h92] at h
      cases h
      refine ⟨by simp, by simpa using h92, ?_⟩
      rw [List.drop_zero, List.take_zero]
      generalize ue (c :: l) = z
      cases z <;> rfl
    · rw [if_neg h92] at h
      cases hf : fb l with
      | none => rw [hf] at h; cases h
      | some g =>
        rw [hf] at h
        have hg : g + 1 = f := by simpa using h
        obtain ⟨h1, h2, h3⟩ := fb_some hf
        subst hg
        refine ⟨by simp; omega, by simpa using h2, ?_⟩
        rw [ue_other h92, h3, List.drop_succ_cons, List.take_succ_cons, Option.map_map]
        rfl
theorem ue_bad {l : List Int} {p : Nat} (hp : p < l.length) (h92 : l.getD p 0 = 92) (he : e1 (l.drop p) = none) : ue (l.drop p) = none := by
  have hd := drop_cons' l p hp
  rw [hd] at he ⊢
  rw [ue_esc h92, he]
theorem ue_good {l : List Int} {p k : Nat} {bs : List Int} (hp : p < l.length) (h92 : l.getD p 0 = 92) (he : e1 (l.drop p) = some (k, bs)) : ue (l.drop p) = (ue (l.drop (p + k))).map (bs ++ ·) := by
  have hd := drop_cons' l p hp
  rw [← List.drop_drop]
  rw [hd] at he ⊢
  rw [ue_esc h92, he]
theorem ue_more {l us bs : List Int} {a b : List Int} (h1 : ue l = (ue a).map (us ++ ·)) (h2 : ue a = (ue b).map (bs ++ ·)) : ue l = (ue b).map ((us ++ bs) ++ ·) := by
  rw [h1, h2, Option.map_map]
  congr 1
  funext x
  simp [Function.comp]
/-! ### the writing's worlds -/
theorem RowAt.grown {w w' : World} {B h o : Nat} {xs : List Int} (H : RowAt w h o xs) (g : w.grownBy w' (some B)) (hB : h ≠ B) : RowAt w' h o xs :=
  ⟨Nat.lt_of_lt_of_le H.1 g.size, fun j hj => by rw [World.cell?_of_block (w := w) (w' := w') (g.block h H.1 (by intro e; exact hB (Option.some.inj e)))]; exact H.2 j hj⟩
theorem CfgAt.grown {w w' : World} {B X : Nat} (H : CfgAt w X) (g : w.grownBy w' (some B)) (hB : X ≠ B) : CfgAt w' X := by
  have hb := g.block X H.1 (by intro e; exact hB (Option.some.inj e))
  refine ⟨Nat.lt_of_lt_of_le H.1 g.size, ?_, ?_, ?_⟩ <;> rw [World.cell?_of_block (w := w) (w' := w') hb]
  · exact H.2.1
  · exact H.2.2.1
  · exact H.2.2.2
theorem TabT.grown {w w' : World} {B : Nat} (H : TabT w) (g : w.grownBy w' (some B)) (hB : 12 ≠ B) : TabT w' := by
  have hb := g.block 12 H.1 (by intro e; exact hB (Option.some.inj e))
  exact ⟨Nat.lt_of_lt_of_le H.1 g.size, fun i hi => by rw [World.cell?_of_block (w := w) (w' := w') hb]; exact H.2 i hi⟩
theorem cell_grown {w w' : World} {B X : Nat} {v : Value} (H : w.cell? ⟨X, 0, none⟩ = some v) (hX : X < w.heap.size) (g : w.grownBy w' (some B)) (hB : X ≠ B) : w'.cell? ⟨X, 0, none⟩ = some v := by
  rw [World.cell?_of_block (w := w) (w' := w') (g.block X hX (by intro e; exact hB (Option.some.inj e)))]; exact H
/-- The bytes written so far, and the buffer. -/
structure OutW (w0 wr : World) (B n : Nat) (us : List Int) : Prop where
  g : w0.grownBy wr (some B)
  row : ∀ i, i < us.length → wr.cell? ⟨B, i, none⟩ = some (.int .u8 (us.getD i 0))
  buf : BufW wr B 0 n
theorem OutW.drewN {w0 wr : World} {B n : Nat} {us : List Int} (H : OutW w0 wr B n us) (k : Nat) : OutW w0 (wr.drewN k) B n us := ⟨⟨H.g.os, H.g.tape, H.g.output, H.g.size, H.g.block⟩, H.row, H.buf⟩
theorem BufW.put {w w' : World} {B j n : Nat} {bs : List Int} (H : BufW w B 0 n) (P : Put w w' B j bs) : BufW w' B 0 n := by
  refine ⟨Nat.lt_of_lt_of_le H.1 P.g.size, fun i hi => ⟨?_, ?_⟩⟩
  · by_cases h : j ≤ i ∧ i < j + bs.length
    · have := P.new (i - j) (by omega)
      rw [show j + (i - j) = 0 + i by omega] at this
      rw [this]; rfl
    · rw [show (⟨B, 0 + i, none⟩ : Addr) = ⟨B, i, none⟩ by rw [Nat.zero_add], P.old i (by omega)]
      have := (H.2 i hi).1
      rwa [Nat.zero_add] at this
  · rw [P.fz]; exact (H.2 i hi).2
theorem OutW.put {w0 wr w' : World} {B n j : Nat} {us bs : List Int} (H : OutW w0 wr B n us) (hj : us.length = j) (P : Put wr w' B j bs) : OutW w0 w' B n (us ++ bs) := by
  refine ⟨H.g.trans P.g, fun i hi => ?_, H.buf.put P⟩
  rw [List.length_append] at hi
  by_cases h : i < us.length
  · rw [P.old i (.inl (by omega)), H.row i h]
    simp [List.getD_eq_getElem?_getD, List.getElem?_append_left h]
  · have := P.new (i - us.length) (by omega)
    rw [show j + (i - us.length) = i by omega] at this
    rw [this]
    simp [List.getD_eq_getElem?_getD, List.getElem?_append_right (Nat.le_of_not_lt h)]
theorem OutW.start {w0 : World} {B n : Nat} (H : BufW w0 B 0 n) : OutW w0 w0 B n [] := ⟨World.grownBy.refl _ _, fun i hi => by simp at hi, H⟩
theorem OutW.rowAt {w0 wr : World} {B n : Nat} {us : List Int} (H : OutW w0 wr B n us) : RowAt wr B 0 us := ⟨H.buf.1, fun j hj => by rw [Nat.zero_add]; exact H.row j hj⟩
theorem sl_eq {h a a' l l' c c' : Nat} (h1 : a = a') (h2 : l = l') (h3 : c = c') : Value.slice (some ⟨h, a, none⟩) l c = .slice (some ⟨h, a', none⟩) l' c' := by rw [h1, h2, h3]
theorem info5 : (Tryd.prog.info? 5).map (·.size) = some 1 := by kernel_rfl
/-- copy(out[q:], in[..k]). -/
theorem copy_run (W : World) (B q dL dC h o n sL sC k : Nat) (xs : List Int) (H : RowAt W h o xs) (hk : k ≤ xs.length) (hmin : k = Nat.min sL dL) (hB : BufW W B 0 n) (hq : q + k ≤ n) :
    (Builtin.copy_ #[54, 54] 3 #[.slice (some ⟨B, q, none⟩) dL dC, .slice (some ⟨h, o, none⟩) sL sC]).run Tryd.prog W = .ok (goInt (k : Int)) (W.setCells B q ((xs.map (Value.int .u8)).take k)) ∧ Put W (W.setCells B q ((xs.map (Value.int .u8)).take k)) B q (xs.take k) := by
  rw [← List.map_take]
  have hlen : (xs.take k).length = k := by rw [List.length_take]; omega
  have hsome : ∀ i, i < k → (W.cell? ⟨B, q + i, none⟩).isSome = true := fun i hi => by
    have := (hB.2 (q + i) (by omega)).1
    rwa [Nat.zero_add] at this
  constructor
  · have hr := run_copy_cells (P := Tryd.prog) W 54 54 3 5 B q dL dC ⟨h, o, none⟩ sL sC ((xs.take k).map (Value.int .u8)) Tryd.underlying54 info5 (by rw [List.length_map, hlen]; exact hmin) (fun j v hj => by
        rw [List.getElem?_map] at hj
        have hjk : j < k := by
          rcases Nat.lt_or_ge j k with h1 | h1
          · exact h1
          · rw [List.getElem?_eq_none (by omega)] at hj; cases hj
        have ha : (⟨h, o, none⟩ : Addr).add j = ⟨h, o + j, none⟩ := by unfold Addr.add; split <;> simp_all
        rw [ha, H.2 j (by omega), ← hj, List.getElem?_take, if_pos hjk]
        simp [List.getD_eq_getElem?_getD, List.getElem?_eq_getElem (show j < xs.length by omega)]) (fun j hj => hsome j (by rw [List.length_map, hlen] at hj; exact hj)) (fun j hj => by
        have := (hB.2 (q + j) (by rw [List.length_map, hlen] at hj; omega)).2
        rwa [Nat.zero_add] at this) (by intro v hv; obtain ⟨x, _, rfl⟩ := List.mem_map.1 hv; rfl)
    rw [List.length_map, hlen] at hr
    exact hr
  · exact put_cells (fun i hi => hsome i (by omega))
theorem e1_lt {l : List Int} {k : Nat} {bs : List Int} (h : e1 l = some (k, bs)) : bs.length < k := by
  have h4 := e1_le h
  unfold e1 at h
  by_cases h0 : l.length < 2
  · rw [if_pos h0] at h; cases h
  · rw [if_neg h0] at h
    by_cases h1 : isEs (l.getD 1 0) = true
    · rw [if_pos h1] at h; cases h; simp
    · rw [if_neg h1] at h
      by_cases h2 : l.getD 1 0 = 117
      · rw [if_pos h2] at h
        cases hd : du l with
        | none => rw [hd] at h; cases h
        | some rn =>
          obtain ⟨r, m⟩ := rn
          rw [hd] at h
          simp only [Option.map_some, Option.some.injEq, Prod.mk.injEq] at h
          obtain ⟨rfl, rfl⟩ := h
          have h6 : 6 ≤ m := by
            unfold du at hd
            cases hs : su l with
            | none => rw [hs] at hd; cases hd
            | some a =>
              rw [hs] at hd
              simp only [] at hd
              split at hd
              · cases hd; omega
              · split at hd
                · cases hd; omega
                · split at hd
                  · cases hd; omega
                  · cases hs2 : su (l.drop 6) with
                    | none => rw [hs2] at hd; cases hd
                    | some b =>
                      rw [hs2] at hd
                      simp only [] at hd
                      split at hd
                      · cases hd; omega
                      · cases hd; omega
          omega
      · rw [if_neg h2] at h; cases h
theorem BufW.grown {w w' : World} {D B n : Nat} (H : BufW w B 0 n) (g : w.grownBy w' (some D)) (hB : B ≠ D) : BufW w' B 0 n := by
  have hb := g.block B H.1 (by intro e; exact hB (Option.some.inj e))
  exact ⟨Nat.lt_of_lt_of_le H.1 g.size, fun i hi => ⟨by rw [World.cell?_of_block (w := w) (w' := w') hb]; exact (H.2 i hi).1, by rw [World.frozen?_of_block (w := w) (w' := w') hb]; exact (H.2 i hi).2⟩⟩
theorem grownM {w W0 w' : World} {D B : Nat} (hb0 : Below w.heap.size w W0) (hD : w.heap.size ≤ D) (g : W0.grownBy w' (some D)) : w.grownBy w' (some B) :=
  ⟨g.os.trans hb0.os, g.tape.trans hb0.tape, g.output.trans hb0.output, Nat.le_trans hb0.size g.size, fun k hk _ => (g.block k (Nat.lt_of_lt_of_le hk hb0.size) (by intro e; have := Option.some.inj e; omega)).trans (hb0.block k hk)⟩
theorem bufM {w W0 w' : World} {D B n : Nat} (hb0 : Below w.heap.size w W0) (hD : w.heap.size ≤ D) (g : W0.grownBy w' (some D)) (H : BufW w B 0 n) : BufW w' B 0 n :=
  (H.below hb0).grown g (by have := H.1; omega)
theorem made_buf (w : World) (n : Nat) : BufW (w.alloc (.cells (madeCells #[.int .u8 0] n) 5)) w.heap.size 0 n := by
  refine ⟨by simp, fun i hi => ?_⟩
  rw [Nat.zero_add]
  refine ⟨?_, World.frozen?_alloc_at _ _ _ _ rfl⟩
  rw [World.cell?_alloc_at _ _ _ _ rfl]
  simp [size_madeCells, hi]
def UEA (l : List Int) (n B : Nat) (w : World) (e : Ending) (w' : World) : Prop :=
  ∃ (v x : Value), e = .returned (.tuple #[v, x]) ∧ w.grownBy w' (some B) ∧ BufW w' B 0 64 ∧
    Aside0 (match ue l with
      | none => (∃ a, x = .iface 158 (.pointer (some a))) ∧ v = .slice none 0 0
      | some us => x = .nilIface ∧ ∃ g g0 cap, v = .slice (some ⟨g, g0, none⟩) us.length cap ∧ RowAt w' g g0 us)
set_option maxHeartbeats 8000000 in
set_option maxRecDepth 100000 in
theorem unescA_calls (a8 : Addr) (h o n c B : Nat) (l : List Int) (w : World) (hT : TabT w) (h8 : w.cell? ⟨8, 0, none⟩ = some (.iface 158 (.pointer (some a8)))) (H : RowAt w h o l) (hby : Bytes l) (hl : l.length = n) (hn : n ≤ 140737488351232) (hnc : n ≤ c) (hW : BufW w B 0 64) (hBh : h ≠ B) (hB12 : 12 < B) (h64 : n ≤ 64) (f : Nat) (hf : fb l = some f) :
    Calls Tryd.prog 78 #[.agg #[.bool false, .bool false, .int .i64 0], .slice (some ⟨h, o, none⟩) n c, .slice (some ⟨B, 0, none⟩) 64 64] w (UEA l n B w) := by
  obtain ⟨hfl, hf92, hfu⟩ := fb_some hf
  have hfb := fb_ix hby
  rw [hf] at hfb
  have hwB := Aside0.mk hW.1
  have hwH := Aside0.mk H.1
  have h8s : 8 < w.heap.size := by have := hT.1; omega
  obtain ⟨X, hX⟩ : ∃ X, X = w.heap.size := ⟨_, rfl⟩
  have HX := Aside0.mk hX
  obtain ⟨D, hD⟩ : ∃ D, D = B := ⟨_, rfl⟩
  have hDD : D = B := hD
  subst hD
  have hb0 : Below w.heap.size w (w.alloc (.cells #[.bool false, .bool false, .int .i64 0] 90)) := below_alloc1 _
  have HCfg := Aside0.mk (cfg_new w 90)
  rw [← hX] at HCfg
  obtain ⟨W0, hW0⟩ : ∃ W0, W0 = w.alloc (.cells #[.bool false, .bool false, .int .i64 0] 90) := ⟨_, rfl⟩
  rw [← hW0] at HCfg hb0
  have Hrow := Aside0.mk (H.below hb0)
  have Hrow1 := Hrow
  have HTab := Aside0.mk (hT.below hb0)
  have H8 := Aside0.mk ((hb0.cell (p := ⟨8, 0, none⟩) h8s).trans h8)
  have hs8 : Aside0 (8 < W0.heap.size) := ⟨by have := hb0.size; omega⟩
  have HBuf := Aside0.mk (hW.below hb0)
  have hXD : X ≠ D := by have := hwB.out; omega
  have hhD : h ≠ D := hBh
  have HG0 : Aside0 (w.grownBy W0 (some D)) := ⟨⟨hb0.os, hb0.tape, hb0.output, hb0.size, fun k hk _ => hb0.block k hk⟩⟩

  have C85 := Aside0.mk (fun W (hW : RowAt W h o l) => Tryd.bytes_IndexByte h o n c l 92 W hl (fun i hi => hW.2 i (by omega)))
  rw [show ((92 : Int).toNat.toUInt8) = 92 from rfl, hfb] at C85
  simp only [] at C85
  have hfn : f < n := by omega
  have hfc : f ≤ c := by omega
  have hfcb : ¬ c = f := by omega
  have hfCb : ¬ 64 = f := by omega
  have hfb1 : ((f : Int) == -1) = false := by simp
  obtain ⟨hcp, hPut⟩ := copy_run W0 D 0 n 64 h o 64 f c f l Hrow.out (by omega) (by show f = min f n; rw [Nat.min_eq_left (by omega)]) HBuf.out (by omega)
  have HP := Aside0.mk hPut
  have HO1 := Aside0.mk ((OutW.start HBuf.out).put rfl HP.out)
  have HU1 : Aside0 (ue l = (ue (l.drop f)).map (([] ++ l.take f) ++ ·)) := ⟨by rw [hfu]; rfl⟩
  have HL := Aside0.mk hl
  have HBy := Aside0.mk hby
  have H92 := Aside0.mk hf92
  have HTL : Aside0 (([] ++ l.take f).length = f) := ⟨by simp; omega⟩
  have C85' := Aside0.mk (fun W (p : Nat) (cc : Nat) (hW : RowAt W h o l) (hp : p ≤ n) => Tryd.bytes_IndexByte h (o + p) (n - p) cc (l.drop p) 92 W (by rw [List.length_drop]; omega) (fun i hi => (hW.drop p).2 i (by rw [List.length_drop]; omega)))
  rw [show ((92 : Int).toNat.toUInt8) = 92 from rfl] at C85'
  clear hfu hf92 hf hfb hby hPut H hW hl
  subst hW0 hX
  clear hb0 h8 hT hDD
  go_enter Tryd.func78, Tryd.ntmps78
  go_wp2_with (go_at_call 85; refine (C85.out _ Hrow1.out).mono ?_; rintro e w1 ⟨rfl, rfl⟩)
  go_loopw [1, 9, 10, 11, 12] (fun vi vb _ _ _ wr => ∃ (p q : Nat) (us : List Int), vi = .slice (some ⟨h, o + p, none⟩) (n - p) (c - p) ∧ vb = .slice (some ⟨D, q, none⟩) (n - q) (64 - q) ∧ p < n ∧ q ≤ p ∧
      Aside0 (l.getD p 0 = 92) ∧ Aside0 (us.length = q) ∧ Aside0 (ue l = (ue (l.drop p)).map (us ++ ·)) ∧ Aside0 (OutW (w.alloc (.cells #[.bool false, .bool false, .int .i64 0] 90)) wr D 64 us)) (fun vi _ _ _ _ _ => match vi with | .slice _ k _ => k | _ => 0)
  case atStart => exact ⟨f, f, [] ++ l.take f, rfl, rfl, hfn, Nat.le_refl _, H92, HTL, HU1, HO1⟩
  case round =>
    clear HU1 HO1 HTL H92 hcp HP
    obtain ⟨p, q, us, rfl, rfl, hpn, hqp, H92, HQ, HU, HO⟩ := hrel
    have hci := (HCfg.out.grown HO.out.g hXD).2.1
    have hci1 := (HCfg.out.grown HO.out.g hXD).2.2.1
    have hci2 := (HCfg.out.grown HO.out.g hXD).2.2.2
    have hRr := Hrow.out.grown HO.out.g hhD
    have hTr := HTab.out.grown HO.out.g (by omega)
    have h8r := cell_grown H8.out hs8.out HO.out.g (by omega)
    have hBq : BufW wr D q (n - q) := ⟨HO.out.buf.1, fun i hi => by have := HO.out.buf.2 (q + i) (by omega); rw [Nat.zero_add] at this; exact this⟩
    have U1 := un1_calls h (o + p) (n - p) (c - p) D q (n - q) (64 - q) (l.drop p) wr hTr (hRr.drop p) (HBy.out.drop p) (drop_len HL.out) (by omega) (by omega) (by omega) (by rw [getD_drop]; exact H92.out) hBq (by omega) (by omega)
    unfold UNA at U1
    have hpl : p < l.length := by rw [HL.out]; exact hpn
    cases he : e1 (l.drop p) with
    | none =>
      rw [he] at U1
      have HN : Aside0 (ue l = none) := ⟨by rw [HU.out, ue_bad hpl H92.out he]; rfl⟩
      replace U1 := Aside0.mk U1
      clear he hRr hTr hBq hpl
      go_wp2_with (go_at_call 86; refine U1.out.mono ?_; rintro e w2 ⟨rfl, hP2⟩; have h82 := cell_grown H8.out hs8.out (HO.out.put HQ.out hP2).g (by omega))
      go_quiet (fail)
      go_wp2_with fail
      go_ret2
      have HZ := (HO.out.put HQ.out hP2).drewN nq
      refine ⟨_, _, rfl, (HG0.out.trans HZ.g), HZ.buf, ⟨?_⟩⟩
      rw [HN.out]
      exact ⟨⟨a8, rfl⟩, rfl⟩
    | some kb =>
      obtain ⟨k, bs⟩ := kb
      rw [he] at U1
      simp only [] at U1
      obtain ⟨k2, kn, b1, b4, bk⟩ := e1_le he
      have bk := e1_lt he
      rw [List.length_drop, HL.out] at kn
      have HU2 := Aside0.mk (ue_more HU.out (ue_good hpl H92.out he))
      replace U1 := Aside0.mk U1
      have hkb : ((k : Int) == -1) = false := by simp
      obtain ⟨p2, hp2⟩ : ∃ p2, p2 = p + k := ⟨_, rfl⟩
      obtain ⟨q2, hq2⟩ : ∃ q2, q2 = q + bs.length := ⟨_, rfl⟩
      have hp2n : p2 ≤ n := by omega
      have hq2p : q2 ≤ p2 := by omega
      have hq2lt : q2 < p2 := by omega
      rw [← hp2] at HU2
      have HUL : Aside0 ((us ++ bs).length = q2) := ⟨by rw [List.length_append, HQ.out]; omega⟩
      have e1a : o + p + k = o + p2 := by omega
      have e2a : n - p - k = n - p2 := by omega
      have e3a : c - p - k = c - p2 := by omega
      have f2a : n - q - bs.length = n - q2 := by omega
      have f3a : 64 - q - bs.length = 64 - q2 := by omega
      have f1a : q + bs.length = q2 := by omega
      have hHD := Aside0.mk hhD
      have hRw := Aside0.mk (fun W (P2 : Put wr W D q bs) => Hrow.out.grown (HO.out.put HQ.out P2).g hhD)
      have hNC : ¬ 64 - q = bs.length := by omega
      have hq1 : bs.length ≤ n - q := by omega
      have hk1 : k ≤ n - p := by omega
      have hk2 : k ≤ c - p := by omega
      have hb2 : bs.length ≤ 64 - q := by omega
      have EP := Aside0.mk (And.intro hp2 hq2)
      clear he b1 b4 bk hpl hRr hTr hBq
      rcases Decidable.em (c - p = k) with hck | hck
      · have hpn2 : p2 = n := by omega
        have hk0 : n - p - k = 0 := by omega
        have HF : Aside0 (ue l = some (us ++ bs)) := ⟨by
          have := HU2.out
          rw [List.drop_eq_nil_of_le (by rw [HL.out]; omega), ue_nil] at this
          simpa using this⟩
        have C2 := Aside0.mk (fun W => Tryd.bytes_IndexByte h (o + p) (n - p - k) (c - p - k) [] 92 W (by show 0 = n - p - k; omega) (fun i hi => by omega))
        have hcp := Aside0.mk (fun W (hW : RowAt W h o l) (hB : BufW W D 0 64) => (copy_run W D (q + bs.length) (n - q - bs.length) (64 - q - bs.length) h (o + p) 64 (n - p - k) (c - p - k) 0 (l.drop p) (hW.drop p) (Nat.zero_le _) (by show 0 = min (n - p - k) _; omega) hB (by omega)).1)
        rw [show Lib.indexByte (Lib.bytesOf []) ((92 : Int).toNat.toUInt8) = -1 from rfl] at C2
        replace hpn2 := Aside0.mk hpn2
        have E1 := Aside0.mk (And.intro e1a (And.intro e2a e3a))
        have E2 := Aside0.mk (And.intro f1a (And.intro f2a f3a))
        replace hk0 := Aside0.mk hk0
        have hckT : (c - p = k) = True := eq_true hck
        have hN2 : (64 - q - bs.length = n - p - k) = False := eq_false (by omega)
        have hlen := Aside0.mk (show n - (n - q - bs.length - (n - p - k)) = (us ++ bs).length by have := HUL.out; omega)
        replace hck := Aside0.mk hck
        clear e1a e2a e3a f1a f2a f3a hp2 hq2
        go_wp2_with (first
          | (go_at_call 86; refine U1.out.mono ?_; rintro e w2 ⟨rfl, hP2⟩; have hcpw := hcp.out w2 (hRw.out w2 hP2) (HO.out.put HQ.out hP2).buf)
          | (go_at_call 85; refine (C2.out _).mono ?_; rintro e w3 ⟨rfl, rfl⟩))
        go_ret2
        have HZ := HO.out.put HQ.out hP2
        refine ⟨_, _, rfl, (HG0.out.trans HZ.g), HZ.buf, ⟨?_⟩⟩
        rw [HF.out]
        exact ⟨rfl, D, 0, 64, congrArg (fun z => Value.slice (some ⟨D, 0, none⟩) z 64) hlen.out, HZ.rowAt⟩
      · have hckF : (c - p = k) = False := eq_false hck
        replace hck := Aside0.mk hck
        have hlt : p2 < n ∨ p2 = n := by omega
        have hN2 : (64 - q - bs.length = n - p - k) = False := eq_false (by omega)
        have hRp : Aside0 (∀ W, RowAt W h o l → RowAt W h (o + p + k) (l.drop p2)) := ⟨fun W hW => by have := hW.drop p2; rwa [← e1a] at this⟩
        have hDL : (l.drop p2).length = n - p - k := by rw [List.length_drop, HL.out]; omega
        have C2 := Aside0.mk (fun W (hW : RowAt W h o l) => Tryd.bytes_IndexByte h (o + p + k) (n - p - k) (c - p - k) (l.drop p2) 92 W hDL (fun i hi => (hRp.out W hW).2 i (by omega)))
        rw [show ((92 : Int).toNat.toUInt8) = 92 from rfl, fb_ix (HBy.out.drop p2)] at C2
        cases hfx : fb (l.drop p2) with
        | none =>
          rw [hfx] at C2
          simp only [] at C2
          have HF : Aside0 (ue l = some ((us ++ bs) ++ (l.drop p2).take (n - p - k))) := ⟨by
            rw [HU2.out, fb_none hfx, List.take_of_length_le (Nat.le_of_eq hDL)]; rfl⟩
          have hcp := Aside0.mk (fun W (hW : RowAt W h o l) (hB : BufW W D 0 64) => copy_run W D (q + bs.length) (n - q - bs.length) (64 - q - bs.length) h (o + p + k) 64 (n - p - k) (c - p - k) (n - p - k) (l.drop p2) (hRp.out W hW) (Nat.le_of_eq hDL.symm) (by show n - p - k = min (n - p - k) _; omega) hB (by omega))
          have hlen := Aside0.mk (show n - (n - q - bs.length - (n - p - k)) = ((us ++ bs) ++ (l.drop p2).take (n - p - k)).length by have := HUL.out; rw [List.length_append, List.length_take, hDL]; omega)
          have hq3 : n - p - k ≤ n - q - bs.length := by omega
          replace hDL := Aside0.mk hDL
          replace hfx := Aside0.mk hfx
          replace EP := EP.out
          replace hq2 := Aside0.mk hq2
          replace hp2 := Aside0.mk hp2
          clear EP hlt e1a e2a e3a f1a f2a f3a
          go_wp2_with (first
            | (go_at_call 86; refine U1.out.mono ?_; rintro e w2 ⟨rfl, hP2⟩; have hcpw := (hcp.out w2 (hRw.out w2 hP2) (HO.out.put HQ.out hP2).buf).1)
            | (go_at_call 85; refine (C2.out _ (hRw.out _ hP2)).mono ?_; rintro e w3 ⟨rfl, rfl⟩))
          go_ret2
          have HZ1 := HO.out.put HQ.out hP2
          have HZ := HZ1.put (HUL.out.trans hq2.out) (hcp.out _ (hRw.out _ hP2) HZ1.buf).2
          rw [List.map_drop] at HZ
          refine ⟨_, _, rfl, (HG0.out.trans HZ.g), HZ.buf, ⟨?_⟩⟩
          rw [HF.out]
          exact ⟨rfl, D, 0, 64, congrArg (fun z => Value.slice (some ⟨D, 0, none⟩) z 64) hlen.out, HZ.rowAt⟩
        | some f2 =>
          rw [hfx] at C2
          simp only [] at C2
          obtain ⟨hf1, hf2, hf3⟩ := fb_some hfx
          rw [hDL] at hf1
          have hf2b : ((f2 : Int) == -1) = false := by simp
          have hN3 : (64 - q - bs.length = f2) = False := eq_false (by omega)
          have hN4 : (c - p - k = f2) = False := eq_false (by omega)
          have hf4 : f2 ≤ n - p - k := by omega
          have hf5 : f2 ≤ c - p - k := by omega
          have hf6 : f2 ≤ n - q - bs.length := by omega
          have hf7 : f2 ≤ 64 - q - bs.length := by omega
          have HU3 := Aside0.mk (ue_more HU2.out hf3)
          rw [List.drop_drop] at HU3
          have H92' : Aside0 (l.getD (p2 + f2) 0 = 92) := ⟨by rw [← getD_drop]; exact hf2⟩
          have HUL2 : Aside0 (((us ++ bs) ++ (l.drop p2).take f2).length = q2 + f2) := ⟨by rw [List.length_append, List.length_take, hDL, HUL.out]; omega⟩
          have hcp := Aside0.mk (fun W (hW : RowAt W h o l) (hB : BufW W D 0 64) => copy_run W D (q + bs.length) (n - q - bs.length) (64 - q - bs.length) h (o + p + k) 64 f2 (c - p - k) f2 (l.drop p2) (hRp.out W hW) (by rw [hDL]; omega) (by show f2 = min f2 _; omega) hB (by omega))
          have EZ := Aside0.mk (And.intro (sl_eq (h := h) (show o + p + k + f2 = o + (p2 + f2) by omega) (show n - p - k - f2 = n - (p2 + f2) by omega) (show c - p - k - f2 = c - (p2 + f2) by omega)) (And.intro (sl_eq (h := D) (show q + bs.length + f2 = q2 + f2 by omega) (show n - q - bs.length - f2 = n - (q2 + f2) by omega) (show 64 - q - bs.length - f2 = 64 - (q2 + f2) by omega)) (And.intro (show p2 + f2 < n by omega) (And.intro (show q2 + f2 ≤ p2 + f2 by omega) (show n - p - k - f2 < n - p by omega)))))
          replace hDL := Aside0.mk hDL
          replace hfx := Aside0.mk hfx
          replace hf2 := Aside0.mk hf2
          replace hf3 := Aside0.mk hf3
          replace EP := EP.out
          replace hq2 := Aside0.mk hq2
          replace hp2 := Aside0.mk hp2
          clear EP hlt e1a e2a e3a f1a f2a f3a
          go_wp2_with (first
            | (go_at_call 86; refine U1.out.mono ?_; rintro e w2 ⟨rfl, hP2⟩; have hcpw := (hcp.out w2 (hRw.out w2 hP2) (HO.out.put HQ.out hP2).buf).1)
            | (go_at_call 85; refine (C2.out _ (hRw.out _ hP2)).mono ?_; rintro e w3 ⟨rfl, rfl⟩))
          go_roundw
          case rel =>
            have HZ1 := HO.out.put HQ.out hP2
            have HZ := HZ1.put (HUL.out.trans hq2.out) (hcp.out _ (hRw.out _ hP2) HZ1.buf).2
            rw [List.map_drop] at HZ
            exact ⟨p2 + f2, q2 + f2, _, EZ.out.1, EZ.out.2.1, EZ.out.2.2.1, EZ.out.2.2.2.1, H92', HUL2, HU3, ⟨HZ⟩⟩
          case measure => exact EZ.out.2.2.2.2
set_option maxHeartbeats 8000000 in
set_option maxRecDepth 100000 in
theorem unescM_calls (a8 : Addr) (h o n c B : Nat) (l : List Int) (w : World) (hT : TabT w) (h8 : w.cell? ⟨8, 0, none⟩ = some (.iface 158 (.pointer (some a8)))) (H : RowAt w h o l) (hby : Bytes l) (hl : l.length = n) (hn : n ≤ 140737488351232) (hnc : n ≤ c) (hW : BufW w B 0 64) (hBh : h ≠ B) (hB12 : 12 < B) (h64 : 64 < n) (f : Nat) (hf : fb l = some f) :
    Calls Tryd.prog 78 #[.agg #[.bool false, .bool false, .int .i64 0], .slice (some ⟨h, o, none⟩) n c, .slice (some ⟨B, 0, none⟩) 64 64] w (UEA l n B w) := by
  obtain ⟨hfl, hf92, hfu⟩ := fb_some hf
  have hfb := fb_ix hby
  rw [hf] at hfb
  have hwB := Aside0.mk hW.1
  have hwH := Aside0.mk H.1
  have h8s : 8 < w.heap.size := by have := hT.1; omega
  obtain ⟨X, hX⟩ : ∃ X, X = w.heap.size := ⟨_, rfl⟩
  have HX := Aside0.mk hX
  obtain ⟨D, hD⟩ : ∃ D, D = w.heap.size + 1 := ⟨_, rfl⟩
  have hmk := print_make (P := Tryd.prog) 54 5 .u8 1 Tryd.underlying54 (by kernel_rfl) (by decide) n (by omega)
  have hcfg := below_alloc1 (w := w) (.cells #[.bool false, .bool false, .int .i64 0] 90)
  have hb0 : Below w.heap.size w ((w.alloc (.cells #[.bool false, .bool false, .int .i64 0] 90)).alloc (.cells (madeCells #[.int .u8 0] n) 5)) := hcfg.trans (below_alloc1 _ |>.mono (by simp))
  have HCfg := Aside0.mk ((cfg_new w 90).below (below_alloc1 (.cells (madeCells #[.int .u8 0] n) 5)))
  rw [← hX] at HCfg
  obtain ⟨W0, hW0⟩ : ∃ W0, W0 = ((w.alloc (.cells #[.bool false, .bool false, .int .i64 0] 90)).alloc (.cells (madeCells #[.int .u8 0] n) 5)) := ⟨_, rfl⟩
  rw [← hW0] at HCfg hb0
  have Hrow := Aside0.mk (H.below hb0)
  have Hrow1 := Aside0.mk (H.below hcfg)
  have HTab := Aside0.mk (hT.below hb0)
  have H8 := Aside0.mk ((hb0.cell (p := ⟨8, 0, none⟩) h8s).trans h8)
  have hs8 : Aside0 (8 < W0.heap.size) := ⟨by have := hb0.size; omega⟩
  have HBuf : Aside0 (BufW W0 D 0 n) := ⟨by
    rw [hW0, hD]
    have := made_buf (w.alloc (.cells #[.bool false, .bool false, .int .i64 0] 90)) n
    rw [World.size_alloc] at this
    exact this⟩
  have hXD : X ≠ D := by omega
  have hhD : h ≠ D := by have := hwH.out; omega
  have hD12 : 12 < D := by have := hT.1; omega
  have hDw : w.heap.size ≤ D := by omega
  have h64i : (64 : Int) < (n : Int) := by omega
  have h64d : decide ((64 : Int) < (n : Int)) = true := by simpa using h64i
  have HBe := Aside0.mk hb0
  have HWB := Aside0.mk hW

  have C85 := Aside0.mk (fun W (hW : RowAt W h o l) => Tryd.bytes_IndexByte h o n c l 92 W hl (fun i hi => hW.2 i (by omega)))
  rw [show ((92 : Int).toNat.toUInt8) = 92 from rfl, hfb] at C85
  simp only [] at C85
  have hfn : f < n := by omega
  have hfc : f ≤ c := by omega
  have hfcb : ¬ c = f := by omega
  have hfCb : ¬ n = f := by omega
  have hfb1 : ((f : Int) == -1) = false := by simp
  obtain ⟨hcp, hPut⟩ := copy_run W0 D 0 n n h o n f c f l Hrow.out (by omega) (by show f = min f n; rw [Nat.min_eq_left (by omega)]) HBuf.out (by omega)
  have HP := Aside0.mk hPut
  have HO1 := Aside0.mk ((OutW.start HBuf.out).put rfl HP.out)
  have HU1 : Aside0 (ue l = (ue (l.drop f)).map (([] ++ l.take f) ++ ·)) := ⟨by rw [hfu]; rfl⟩
  have HL := Aside0.mk hl
  have HBy := Aside0.mk hby
  have H92 := Aside0.mk hf92
  have HTL : Aside0 (([] ++ l.take f).length = f) := ⟨by simp; omega⟩
  have C85' := Aside0.mk (fun W (p : Nat) (cc : Nat) (hW : RowAt W h o l) (hp : p ≤ n) => Tryd.bytes_IndexByte h (o + p) (n - p) cc (l.drop p) 92 W (by rw [List.length_drop]; omega) (fun i hi => (hW.drop p).2 i (by rw [List.length_drop]; omega)))
  rw [show ((92 : Int).toNat.toUInt8) = 92 from rfl] at C85'
  clear hfu hf92 hf hfb hby hPut H hW hl
  subst hW0 hX
  subst hD
  clear hb0 hcfg h8 hT
  go_enter Tryd.func78, Tryd.ntmps78
  go_wp2_with (go_at_call 85; refine (C85.out _ Hrow1.out).mono ?_; rintro e w1 ⟨rfl, rfl⟩)
  go_loopw [1, 9, 10, 11, 12] (fun vi vb _ _ _ wr => ∃ (p q : Nat) (us : List Int), vi = .slice (some ⟨h, o + p, none⟩) (n - p) (c - p) ∧ vb = .slice (some ⟨(w.heap.size + 1), q, none⟩) (n - q) (n - q) ∧ p < n ∧ q ≤ p ∧
      Aside0 (l.getD p 0 = 92) ∧ Aside0 (us.length = q) ∧ Aside0 (ue l = (ue (l.drop p)).map (us ++ ·)) ∧ Aside0 (OutW ((w.alloc (.cells #[.bool false, .bool false, .int .i64 0] 90)).alloc (.cells (madeCells #[.int .u8 0] n) 5)) wr (w.heap.size + 1) n us)) (fun vi _ _ _ _ _ => match vi with | .slice _ k _ => k | _ => 0)
  case atStart => exact ⟨f, f, [] ++ l.take f, rfl, rfl, hfn, Nat.le_refl _, H92, HTL, HU1, HO1⟩
  case round =>
    clear HU1 HO1 HTL H92 hcp HP
    obtain ⟨p, q, us, rfl, rfl, hpn, hqp, H92, HQ, HU, HO⟩ := hrel
    have hci := (HCfg.out.grown HO.out.g hXD).2.1
    have hci1 := (HCfg.out.grown HO.out.g hXD).2.2.1
    have hci2 := (HCfg.out.grown HO.out.g hXD).2.2.2
    have hRr := Hrow.out.grown HO.out.g hhD
    have hTr := HTab.out.grown HO.out.g (by omega)
    have h8r := cell_grown H8.out hs8.out HO.out.g (by omega)
    have hBq : BufW wr (w.heap.size + 1) q (n - q) := ⟨HO.out.buf.1, fun i hi => by have := HO.out.buf.2 (q + i) (by omega); rw [Nat.zero_add] at this; exact this⟩
    have U1 := un1_calls h (o + p) (n - p) (c - p) (w.heap.size + 1) q (n - q) (n - q) (l.drop p) wr hTr (hRr.drop p) (HBy.out.drop p) (drop_len HL.out) (by omega) (by omega) (by omega) (by rw [getD_drop]; exact H92.out) hBq (by omega) (by omega)
    unfold UNA at U1
    have hpl : p < l.length := by rw [HL.out]; exact hpn
    cases he : e1 (l.drop p) with
    | none =>
      rw [he] at U1
      have HN : Aside0 (ue l = none) := ⟨by rw [HU.out, ue_bad hpl H92.out he]; rfl⟩
      replace U1 := Aside0.mk U1
      clear he hRr hTr hBq hpl
      go_wp2_with (go_at_call 86; refine U1.out.mono ?_; rintro e w2 ⟨rfl, hP2⟩; have h82 := cell_grown H8.out hs8.out (HO.out.put HQ.out hP2).g (by omega))
      go_quiet (fail)
      go_wp2_with fail
      go_ret2
      have HZ := (HO.out.put HQ.out hP2).drewN nq
      refine ⟨_, _, rfl, (grownM HBe.out hDw HZ.g), (bufM HBe.out hDw HZ.g HWB.out), ⟨?_⟩⟩
      rw [HN.out]
      exact ⟨⟨a8, rfl⟩, rfl⟩
    | some kb =>
      obtain ⟨k, bs⟩ := kb
      rw [he] at U1
      simp only [] at U1
      obtain ⟨k2, kn, b1, b4, bk⟩ := e1_le he
      have bk := e1_lt he
      rw [List.length_drop, HL.out] at kn
      have HU2 := Aside0.mk (ue_more HU.out (ue_good hpl H92.out he))
      replace U1 := Aside0.mk U1
      have hkb : ((k : Int) == -1) = false := by simp
      obtain ⟨p2, hp2⟩ : ∃ p2, p2 = p + k := ⟨_, rfl⟩
      obtain ⟨q2, hq2⟩ : ∃ q2, q2 = q + bs.length := ⟨_, rfl⟩
      have hp2n : p2 ≤ n := by omega
      have hq2p : q2 ≤ p2 := by omega
      have hq2lt : q2 < p2 := by omega
      rw [← hp2] at HU2
      have HUL : Aside0 ((us ++ bs).length = q2) := ⟨by rw [List.length_append, HQ.out]; omega⟩
      have e1a : o + p + k = o + p2 := by omega
      have e2a : n - p - k = n - p2 := by omega
      have e3a : c - p - k = c - p2 := by omega
      have f2a : n - q - bs.length = n - q2 := by omega
      have f3a : n - q - bs.length = n - q2 := by omega
      have f1a : q + bs.length = q2 := by omega
      have hHD := Aside0.mk hhD
      have hRw := Aside0.mk (fun W (P2 : Put wr W (w.heap.size + 1) q bs) => Hrow.out.grown (HO.out.put HQ.out P2).g hhD)
      have hNC : ¬ n - q = bs.length := by omega
      have hq1 : bs.length ≤ n - q := by omega
      have hk1 : k ≤ n - p := by omega
      have hk2 : k ≤ c - p := by omega
      have hb2 : bs.length ≤ n - q := by omega
      have EP := Aside0.mk (And.intro hp2 hq2)
      clear he b1 b4 bk hpl hRr hTr hBq
      rcases Decidable.em (c - p = k) with hck | hck
      · have hpn2 : p2 = n := by omega
        have hk0 : n - p - k = 0 := by omega
        have HF : Aside0 (ue l = some (us ++ bs)) := ⟨by
          have := HU2.out
          rw [List.drop_eq_nil_of_le (by rw [HL.out]; omega), ue_nil] at this
          simpa using this⟩
        have C2 := Aside0.mk (fun W => Tryd.bytes_IndexByte h (o + p) (n - p - k) (c - p - k) [] 92 W (by show 0 = n - p - k; omega) (fun i hi => by omega))
        have hcp := Aside0.mk (fun W (hW : RowAt W h o l) (hB : BufW W (w.heap.size + 1) 0 n) => (copy_run W (w.heap.size + 1) (q + bs.length) (n - q - bs.length) (n - q - bs.length) h (o + p) n (n - p - k) (c - p - k) 0 (l.drop p) (hW.drop p) (Nat.zero_le _) (by show 0 = min (n - p - k) _; omega) hB (by omega)).1)
        rw [show Lib.indexByte (Lib.bytesOf []) ((92 : Int).toNat.toUInt8) = -1 from rfl] at C2
        replace hpn2 := Aside0.mk hpn2
        have E1 := Aside0.mk (And.intro e1a (And.intro e2a e3a))
        have E2 := Aside0.mk (And.intro f1a (And.intro f2a f3a))
        replace hk0 := Aside0.mk hk0
        have hckT : (c - p = k) = True := eq_true hck
        have hN2 : (n - q - bs.length = n - p - k) = False := eq_false (by omega)
        have hlen := Aside0.mk (show n - (n - q - bs.length - (n - p - k)) = (us ++ bs).length by have := HUL.out; omega)
        replace hck := Aside0.mk hck
        clear e1a e2a e3a f1a f2a f3a hp2 hq2
        go_wp2_with (first
          | (go_at_call 86; refine U1.out.mono ?_; rintro e w2 ⟨rfl, hP2⟩; have hcpw := hcp.out w2 (hRw.out w2 hP2) (HO.out.put HQ.out hP2).buf)
          | (go_at_call 85; refine (C2.out _).mono ?_; rintro e w3 ⟨rfl, rfl⟩))
        go_ret2
        have HZ := HO.out.put HQ.out hP2
        refine ⟨_, _, rfl, (grownM HBe.out hDw HZ.g), (bufM HBe.out hDw HZ.g HWB.out), ⟨?_⟩⟩
        rw [HF.out]
        exact ⟨rfl, (w.heap.size + 1), 0, n, congrArg (fun z => Value.slice (some ⟨(w.heap.size + 1), 0, none⟩) z n) hlen.out, HZ.rowAt⟩
      · have hckF : (c - p = k) = False := eq_false hck
        replace hck := Aside0.mk hck
        have hlt : p2 < n ∨ p2 = n := by omega
        have hN2 : (n - q - bs.length = n - p - k) = False := eq_false (by omega)
        have hRp : Aside0 (∀ W, RowAt W h o l → RowAt W h (o + p + k) (l.drop p2)) := ⟨fun W hW => by have := hW.drop p2; rwa [← e1a] at this⟩
        have hDL : (l.drop p2).length = n - p - k := by rw [List.length_drop, HL.out]; omega
        have C2 := Aside0.mk (fun W (hW : RowAt W h o l) => Tryd.bytes_IndexByte h (o + p + k) (n - p - k) (c - p - k) (l.drop p2) 92 W hDL (fun i hi => (hRp.out W hW).2 i (by omega)))
        rw [show ((92 : Int).toNat.toUInt8) = 92 from rfl, fb_ix (HBy.out.drop p2)] at C2
        cases hfx : fb (l.drop p2) with
        | none =>
          rw [hfx] at C2
          simp only [] at C2
          have HF : Aside0 (ue l = some ((us ++ bs) ++ (l.drop p2).take (n - p - k))) := ⟨by
            rw [HU2.out, fb_none hfx, List.take_of_length_le (Nat.le_of_eq hDL)]; rfl⟩
          have hcp := Aside0.mk (fun W (hW : RowAt W h o l) (hB : BufW W (w.heap.size + 1) 0 n) => copy_run W (w.heap.size + 1) (q + bs.length) (n - q - bs.length) (n - q - bs.length) h (o + p + k) n (n - p - k) (c - p - k) (n - p - k) (l.drop p2) (hRp.out W hW) (Nat.le_of_eq hDL.symm) (by show n - p - k = min (n - p - k) _; omega) hB (by omega))
          have hlen := Aside0.mk (show n - (n - q - bs.length - (n - p - k)) = ((us ++ bs) ++ (l.drop p2).take (n - p - k)).length by have := HUL.out; rw [List.length_append, List.length_take, hDL]; omega)
          have hq3 : n - p - k ≤ n - q - bs.length := by omega
          replace hDL := Aside0.mk hDL
          replace hfx := Aside0.mk hfx
          replace EP := EP.out
          replace hq2 := Aside0.mk hq2
          replace hp2 := Aside0.mk hp2
          clear EP hlt e1a e2a e3a f1a f2a f3a
          go_wp2_with (first
            | (go_at_call 86; refine U1.out.mono ?_; rintro e w2 ⟨rfl, hP2⟩; have hcpw := (hcp.out w2 (hRw.out w2 hP2) (HO.out.put HQ.out hP2).buf).1)
            | (go_at_call 85; refine (C2.out _ (hRw.out _ hP2)).mono ?_; rintro e w3 ⟨rfl, rfl⟩))
          go_ret2
          have HZ1 := HO.out.put HQ.out hP2
          have HZ := HZ1.put (HUL.out.trans hq2.out) (hcp.out _ (hRw.out _ hP2) HZ1.buf).2
          rw [List.map_drop] at HZ
          refine ⟨_, _, rfl, (grownM HBe.out hDw HZ.g), (bufM HBe.out hDw HZ.g HWB.out), ⟨?_⟩⟩
          rw [HF.out]
          exact ⟨rfl, (w.heap.size + 1), 0, n, congrArg (fun z => Value.slice (some ⟨(w.heap.size + 1), 0, none⟩) z n) hlen.out, HZ.rowAt⟩
        | some f2 =>
          rw [hfx] at C2
          simp only [] at C2
          obtain ⟨hf1, hf2, hf3⟩ := fb_some hfx
          rw [hDL] at hf1
          have hf2b : ((f2 : Int) == -1) = false := by simp
          have hN3 : (n - q - bs.length = f2) = False := eq_false (by omega)
          have hN4 : (c - p - k = f2) = False := eq_false (by omega)
          have hf4 : f2 ≤ n - p - k := by omega
          have hf5 : f2 ≤ c - p - k := by omega
          have hf6 : f2 ≤ n - q - bs.length := by omega
          have hf7 : f2 ≤ n - q - bs.length := by omega
          have HU3 := Aside0.mk (ue_more HU2.out hf3)
          rw [List.drop_drop] at HU3
          have H92' : Aside0 (l.getD (p2 + f2) 0 = 92) := ⟨by rw [← getD_drop]; exact hf2⟩
          have HUL2 : Aside0 (((us ++ bs) ++ (l.drop p2).take f2).length = q2 + f2) := ⟨by rw [List.length_append, List.length_take, hDL, HUL.out]; omega⟩
          have hcp := Aside0.mk (fun W (hW : RowAt W h o l) (hB : BufW W (w.heap.size + 1) 0 n) => copy_run W (w.heap.size + 1) (q + bs.length) (n - q - bs.length) (n - q - bs.length) h (o + p + k) n f2 (c - p - k) f2 (l.drop p2) (hRp.out W hW) (by rw [hDL]; omega) (by show f2 = min f2 _; omega) hB (by omega))
          have EZ := Aside0.mk (And.intro (sl_eq (h := h) (show o + p + k + f2 = o + (p2 + f2) by omega) (show n - p - k - f2 = n - (p2 + f2) by omega) (show c - p - k - f2 = c - (p2 + f2) by omega)) (And.intro (sl_eq (h := (w.heap.size + 1)) (show q + bs.length + f2 = q2 + f2 by omega) (show n - q - bs.length - f2 = n - (q2 + f2) by omega) (show n - q - bs.length - f2 = n - (q2 + f2) by omega)) (And.intro (show p2 + f2 < n by omega) (And.intro (show q2 + f2 ≤ p2 + f2 by omega) (show n - p - k - f2 < n - p by omega)))))
          replace hDL := Aside0.mk hDL
          replace hfx := Aside0.mk hfx
          replace hf2 := Aside0.mk hf2
          replace hf3 := Aside0.mk hf3
          replace EP := EP.out
          replace hq2 := Aside0.mk hq2
          replace hp2 := Aside0.mk hp2
          clear EP hlt e1a e2a e3a f1a f2a f3a
          go_wp2_with (first
            | (go_at_call 86; refine U1.out.mono ?_; rintro e w2 ⟨rfl, hP2⟩; have hcpw := (hcp.out w2 (hRw.out w2 hP2) (HO.out.put HQ.out hP2).buf).1)
            | (go_at_call 85; refine (C2.out _ (hRw.out _ hP2)).mono ?_; rintro e w3 ⟨rfl, rfl⟩))
          go_roundw
          case rel =>
            have HZ1 := HO.out.put HQ.out hP2
            have HZ := HZ1.put (HUL.out.trans hq2.out) (hcp.out _ (hRw.out _ hP2) HZ1.buf).2
            rw [List.map_drop] at HZ
            exact ⟨p2 + f2, q2 + f2, _, EZ.out.1, EZ.out.2.1, EZ.out.2.2.1, EZ.out.2.2.2.1, H92', HUL2, HU3, ⟨HZ⟩⟩
          case measure => exact EZ.out.2.2.2.2
set_option maxHeartbeats 8000000 in
set_option maxRecDepth 100000 in
theorem unescN_calls (h o n c B : Nat) (l : List Int) (w : World) (H : RowAt w h o l) (hby : Bytes l) (hl : l.length = n) (hn : n ≤ 140737488351232) (hnc : n ≤ c) (hW : BufW w B 0 64) (hBh : h ≠ B) (hf : fb l = none) :
    Calls Tryd.prog 78 #[.agg #[.bool false, .bool false, .int .i64 0], .slice (some ⟨h, o, none⟩) n c, .slice (some ⟨B, 0, none⟩) 64 64] w (UEA l n B w) := by
  have hfb := fb_ix hby
  rw [hf] at hfb
  have hb0 : Below w.heap.size w (w.alloc (.cells #[.bool false, .bool false, .int .i64 0] 90)) := below_alloc1 _
  have HB0 := Aside0.mk hb0
  have Hrow := Aside0.mk (H.below hb0)
  have HBuf := Aside0.mk (hW.below hb0)
  have C85 := Aside0.mk (fun W (hW : RowAt W h o l) => Tryd.bytes_IndexByte h o n c l 92 W hl (fun i hi => hW.2 i (by omega)))
  rw [show ((92 : Int).toNat.toUInt8) = 92 from rfl, hfb] at C85
  simp only [] at C85
  have HU : Aside0 (ue l = some l) := ⟨fb_none hf⟩
  have HL := Aside0.mk hl
  clear hfb hb0 H hW hl hf hby
  go_enter Tryd.func78, Tryd.ntmps78
  go_wp2_with (go_at_call 85; refine (C85.out _ Hrow.out).mono ?_; rintro e w1 ⟨rfl, rfl⟩)
  go_ret2
  refine ⟨_, _, rfl, ⟨HB0.out.os, HB0.out.tape, HB0.out.output, HB0.out.size, fun k hk _ => HB0.out.block k hk⟩, HBuf.out, ⟨?_⟩⟩
  rw [HU.out]
  exact ⟨rfl, h, o, c, congrArg (fun z => Value.slice (some ⟨h, o, none⟩) z c) HL.out.symm, Hrow.out⟩
/-- unescape, whole. -/
theorem unesc_calls (a8 : Addr) (h o n c B : Nat) (l : List Int) (w : World) (hT : TabT w) (h8 : w.cell? ⟨8, 0, none⟩ = some (.iface 158 (.pointer (some a8)))) (H : RowAt w h o l) (hby : Bytes l) (hl : l.length = n) (hn : n ≤ 140737488351232) (hnc : n ≤ c) (hW : BufW w B 0 64) (hBh : h ≠ B) (hB12 : 12 < B) :
    Calls Tryd.prog 78 #[.agg #[.bool false, .bool false, .int .i64 0], .slice (some ⟨h, o, none⟩) n c, .slice (some ⟨B, 0, none⟩) 64 64] w (UEA l n B w) := by
  cases hf : fb l with
  | none => exact unescN_calls h o n c B l w H hby hl hn hnc hW hBh hf
  | some f =>
    rcases Nat.lt_or_ge 64 n with h64 | h64
    · exact unescM_calls a8 h o n c B l w hT h8 H hby hl hn hnc hW hBh hB12 h64 f hf
    · exact unescA_calls a8 h o n c B l w hT h8 H hby hl hn hnc hW hBh hB12 h64 f hf
end Go.Proofs.YtpahejmkidhhhaaDoor.G
end
