/- utf8.EncodeRune, off the kit's shelf. -/
import Derived.Shelf.Spec.EncodeRune
import Derived.Test.YtpahejmkidhhhaaDoorProg
namespace Go.Proofs
open Go.Shelf
def Tryd.lays7_ren : Go.Shelf.Ren := ⟨fun | 30 => 91 | 47 => 100 | n => n, fun | 25 => 134 | 27 => 149 | 30 => 54 | n => n, fun | n => n⟩
theorem Tryd.lays7_30 : Go.Proofs.Lays7.n30 Tryd.prog Tryd.lays7_ren := {
  mixed := by kernel_rfl
  f30 := Tryd.func91.trans (congrArg some (by kernel_rfl))
  f47 := Tryd.func100.trans (congrArg some (by kernel_rfl))
  t0 := Tryd.underlying0
  a0 := Tryd.isAgg0
  z0 := Tryd.sizeOf0
  v0 := Tryd.zeroValue0
  i0 := by kernel_rfl
  t3 := Tryd.underlying3
  a3 := Tryd.isAgg3
  z3 := Tryd.sizeOf3
  v3 := Tryd.zeroValue3
  i3 := by kernel_rfl
  t4 := Tryd.underlying4
  a4 := Tryd.isAgg4
  z4 := Tryd.sizeOf4
  v4 := Tryd.zeroValue4
  i4 := by kernel_rfl
  t5 := Tryd.underlying5
  a5 := Tryd.isAgg5
  z5 := Tryd.sizeOf5
  v5 := Tryd.zeroValue5
  i5 := by kernel_rfl
  t21 := Tryd.underlying21
  a21 := Tryd.isAgg21
  z21 := Tryd.sizeOf21
  v21 := Tryd.zeroValue21
  i21 := by kernel_rfl
  t25 := Tryd.underlying134
  a25 := Tryd.isAgg134
  z25 := Tryd.sizeOf134
  v25 := Tryd.zeroValue134
  i25 := by kernel_rfl
  t27 := Tryd.underlying149
  a27 := Tryd.isAgg149
  z27 := Tryd.sizeOf149
  v27 := Tryd.zeroValue149
  i27 := by kernel_rfl
  t30 := Tryd.underlying54
  a30 := Tryd.isAgg54
  z30 := Tryd.sizeOf54
  v30 := Tryd.zeroValue54
  i30 := by kernel_rfl }
open Go.RowKit in
theorem Tryd.utf8_EncodeRune (b off len cap : Nat) (r : Int) (hlo : -2147483648 ≤ r) (hhi : r ≤ 2147483647) (w : World) (hl : (Lib.runeCells r).length ≤ len)
    (hc : ∀ j, j < (Lib.runeCells r).length → (w.cell? ⟨b, off + j, none⟩).isSome = true) (hf : ∀ j, j < (Lib.runeCells r).length → w.frozen? ⟨b, off + j, none⟩ = false) :
    Calls Tryd.prog 91 #[.slice (some ⟨b, off, none⟩) len cap, .int .i32 r] w fun e w' => e = .returned (.int .i64 (Lib.runeCells r).length) ∧ w' = w.setCells b off (Lib.runeCells r) := Any7.utf8_EncodeRune Tryd.lays7_30 b off len cap r hlo hhi w hl hc hf
end Go.Proofs
