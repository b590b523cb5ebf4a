/- jsonparser's stringEnd: the place behind the closing quotation mark, eight bytes at once where none matters. -/
import Derived.Test.YtpahejmkidhhhaaDoorProg
import Derived.Test.YtpahejmkidhhhaaDoorWWords
import Derived.Test.YtpahejmkidhhhaaDoorGvZ
import Derived.Test.YtpahejmkidhhhaaDoorGvSh
import Derived.Test.YtpahejmkidhhhaaDoorGvJp
import Derived.WalkKit
import Derived.WalkSpells
import Derived.WalkLawsBesides
import Derived.Deep.Cut
import Derived.Deep.CutRange
import Derived.Deep.CutBlock
import Derived.Deep.RegionWith
import Derived.Deep.QuietTactic
import Derived.BigQuiet
import Derived.Outline
namespace Go.Proofs.YtpahejmkidhhhaaDoor.G
set_option linter.unusedVariables false
set_option linter.unusedSimpArgs false
open Go.RowKit Go.Proofs.YtpahejmkidhhhaaDoorW.PrintWords

/-! ### rows that are read; runs of backslashes -/
def RowAt (w : World) (h o : Nat) (xs : List Int) : Prop := h < w.heap.size ∧ ∀ j, j < xs.length → w.cell? ⟨h, o + j, none⟩ = some (.int .u8 (xs.getD j 0))
theorem RowAt.below {w w' : World} {h o : Nat} {xs : List Int} (H : RowAt w h o xs) (hb : Below w.heap.size w w') : RowAt w' h o xs :=
  ⟨Nat.lt_of_lt_of_le H.1 hb.size, fun j hj => by rw [hb.cell (p := ⟨h, o + j, none⟩) H.1]; exact H.2 j hj⟩
theorem RowAt.drop {w : World} {h o : Nat} {xs : List Int} (H : RowAt w h o xs) (k : Nat) : RowAt w h (o + k) (xs.drop k) :=
  ⟨H.1, fun j hj => by
    rw [List.length_drop] at hj
    rw [Nat.add_assoc, H.2 (k + j) (by omega), getD_drop]⟩
theorem take8 (xs : List Int) (k : Nat) (h : k + 8 ≤ xs.length) : (xs.drop k).take 8 = [xs.getD k 0, xs.getD (k + 1) 0, xs.getD (k + 2) 0, xs.getD (k + 3) 0, xs.getD (k + 4) 0, xs.getD (k + 5) 0, xs.getD (k + 6) 0, xs.getD (k + 7) 0] := by
  rw [drop_cons' xs k (by omega), drop_cons' xs (k + 1) (by omega), drop_cons' xs (k + 2) (by omega), drop_cons' xs (k + 3) (by omega), drop_cons' xs (k + 4) (by omega), drop_cons' xs (k + 5) (by omega), drop_cons' xs (k + 6) (by omega), drop_cons' xs (k + 7) (by omega)]
  rfl
/-- The word of the eight bytes from k on. -/
def leW (xs : List Int) (k : Nat) : Int := Lib.leZ ((xs.drop k).take 8)
theorem noq8 {xs : List Int} {k : Nat} (hb : Bytes xs) (h : k + 8 ≤ xs.length) (hn : noq xs k)
    (hz : bits BinOp.or IntKind.u64 (hit (leW xs k) 2459565876494606882) (hit (leW xs k) 6655295901103053916) = 0) : noq xs (k + 8) := by
  unfold leW at hz
  rw [take8 xs k h] at hz
  have hs := swar _ _ _ _ _ _ _ _ (fun z hm => by
    simp only [List.mem_cons, List.not_mem_nil, or_false] at hm
    rcases hm with rfl | rfl | rfl | rfl | rfl | rfl | rfl | rfl <;> exact hb.at' (by omega)) hz
  intro j hj
  rcases Nat.lt_or_ge j k with h1 | h1
  · exact hn j h1
  · have : j = k ∨ j = k + 1 ∨ j = k + 2 ∨ j = k + 3 ∨ j = k + 4 ∨ j = k + 5 ∨ j = k + 6 ∨ j = k + 7 := by omega
    rcases this with rfl | rfl | rfl | rfl | rfl | rfl | rfl | rfl <;> exact hs _ (by simp)
theorem le64_calls (h o n c k : Nat) (xs : List Int) (w : World) (H : RowAt w h o xs) (hb : Bytes xs) (hn : xs.length = n) (hk : k + 8 ≤ n) :
    Calls Tryd.prog 84 #[.agg #[], .slice (some ⟨h, o + k, none⟩) (n - k) (c - k)] w (fun e w' => e = .returned (.int .u64 (leW xs k)) ∧ Below w.heap.size w w') := by
  subst hn
  exact Tryd.binary_LE_Uint64_z ⟨h, o + k, none⟩ (xs.length - k) (c - k) (xs.drop k) w (by omega) (by simp; omega) (fun i hi => by
    have e1 : (⟨h, o + k, none⟩ : Addr).add i = ⟨h, o + k + i, none⟩ := by unfold Addr.add; split <;> simp_all
    rw [e1]
    exact (H.drop k).2 i hi) (fun z hz => by
    obtain ⟨h1, h2⟩ := hb.drop k z hz
    simp [Lit.wf, IntKind.min, IntKind.max, IntKind.bits, IntKind.signed]; omega)
end Go.Proofs.YtpahejmkidhhhaaDoor.G
