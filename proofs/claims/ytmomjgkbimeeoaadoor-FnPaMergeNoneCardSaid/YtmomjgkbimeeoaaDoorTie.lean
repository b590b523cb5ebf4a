/-
  DERIVED. GIVEN WITH THE SEED: THE PROGRAM's TIES (one call each: nine closed facts by the kernel) AND EACH ROW's TIE, after the 31st guide's Derived/Test/Toyas{Tie, Card}.lean. No idea stands in it: it is a product of the set-up. Laid BY PROGRAM, IN A SANDBOX (cutbox-door.mjs). By AI agents, Wed Nov 11 2026. No macro, syntax, notation, axiom, sorry.
-/
import Derived.Test.YtmomjgkbimeeoaaDoorRows
import Derived.LaidByTextLater
import Derived.SevenTiedAt
import Derived.LaidSub
import Derived.LaidOnce
namespace Go.Proofs.YtmomjgkbimeeoaaDoor
open Go
set_option maxRecDepth 100000
theorem seatTie1 : Tryd.prog.laidByTextLater [("pub-tetrapla/pub/jsonpatch.ErrMissing", Rows.laid_pub_tetrapla_pub_jsonpatch_ErrMissing), ("pub-tetrapla/pub/jsonpatch.ErrInvalid", Rows.laid_pub_tetrapla_pub_jsonpatch_ErrInvalid), ("pub-tetrapla/pub/jsonpatch.ErrExpectedObject", Rows.laid_pub_tetrapla_pub_jsonpatch_ErrExpectedObject)] [.sentinel, .sentinel, .sentinel] true :=
  Program.laidByTextLater_by_one 138 8 65 (by kernel_rfl) (by kernel_rfl) (by kernel_rfl) (by kernel_rfl) (by kernel_rfl) (by kernel_rfl) (fun _ _ => by kernel_rfl)
theorem noOwnUnsafe : Tryd.pinned.checked.prog.headLifts.contains "ownunsafe" = false := by kernel_rfl
theorem tie : Tryd.prog.laidByTextLater [("pub-tetrapla/pub/jsonpatch.ErrMissing", Rows.laid_pub_tetrapla_pub_jsonpatch_ErrMissing), ("pub-tetrapla/pub/jsonpatch.ErrInvalid", Rows.laid_pub_tetrapla_pub_jsonpatch_ErrInvalid), ("pub-tetrapla/pub/jsonpatch.ErrExpectedObject", Rows.laid_pub_tetrapla_pub_jsonpatch_ErrExpectedObject)] [.sentinel, .sentinel, .sentinel] true :=
  Program.laidByTextLater.sub seatTie1 ["pub-tetrapla/pub/jsonpatch.ErrMissing", "pub-tetrapla/pub/jsonpatch.ErrInvalid", "pub-tetrapla/pub/jsonpatch.ErrExpectedObject"] (by kernel_rfl) (by kernel_rfl)
theorem fnPaMergeNone_row_tie : Rows.fnPaMergeNoneRow.laidByTextAt .later Tryd.pinned [.sentinel, .sentinel, .sentinel] true :=
  OpenClaim.laidByTextAt_later rfl rfl tie noOwnUnsafe
theorem tie2 : Tryd.prog.laidByTextLater [("pub-tetrapla/pub/jsonpatch.ErrInvalid", Rows.laid_pub_tetrapla_pub_jsonpatch_ErrInvalid)] [.sentinel] true :=
  Program.laidByTextLater.sub seatTie1 ["pub-tetrapla/pub/jsonpatch.ErrInvalid"] (by kernel_rfl) (by kernel_rfl)
theorem fnPaDiffLeast_row_tie : Rows.fnPaDiffLeastRow.laidByTextAt .later Tryd.pinned [.sentinel] true :=
  OpenClaim.laidByTextAt_later rfl rfl tie2 noOwnUnsafe
theorem tie3 : Tryd.prog.laidByTextLater [("pub-tetrapla/pub/jsonpatch.ErrInvalid", Rows.laid_pub_tetrapla_pub_jsonpatch_ErrInvalid), ("pub-tetrapla/pub/jsonpatch.ErrExpectedObject", Rows.laid_pub_tetrapla_pub_jsonpatch_ErrExpectedObject)] [.sentinel, .sentinel] true :=
  Program.laidByTextLater.sub seatTie1 ["pub-tetrapla/pub/jsonpatch.ErrInvalid", "pub-tetrapla/pub/jsonpatch.ErrExpectedObject"] (by kernel_rfl) (by kernel_rfl)
theorem fnPaNegativePut_row_tie : Rows.fnPaNegativePutRow.laidByTextAt .later Tryd.pinned [.sentinel, .sentinel] true :=
  OpenClaim.laidByTextAt_later rfl rfl tie3 noOwnUnsafe
theorem fnPaMergeNoneUpto_row_tie : Rows.fnPaMergeNoneUptoRow.laidByTextAt .later Tryd.pinned [.sentinel, .sentinel, .sentinel] true :=
  OpenClaim.laidByTextAt_later rfl rfl tie noOwnUnsafe
theorem fnPaDiffLeastUpto_row_tie : Rows.fnPaDiffLeastUptoRow.laidByTextAt .later Tryd.pinned [.sentinel] true :=
  OpenClaim.laidByTextAt_later rfl rfl tie2 noOwnUnsafe
theorem fnPaNegativePutUpto_row_tie : Rows.fnPaNegativePutUptoRow.laidByTextAt .later Tryd.pinned [.sentinel, .sentinel] true :=
  OpenClaim.laidByTextAt_later rfl rfl tie3 noOwnUnsafe
end Go.Proofs.YtmomjgkbimeeoaaDoor
