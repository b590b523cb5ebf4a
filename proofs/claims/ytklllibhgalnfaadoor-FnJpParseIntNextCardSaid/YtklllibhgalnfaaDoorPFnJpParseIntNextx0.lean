-- printed by a program of this session
import Derived.Test.YtklllibhgalnfaaDoorProg
import Derived.Test.YtklllibhgalnfaaDoorGvY
import Derived.Below
import Derived.Deep.Draws
import Derived.Deep.AppendLies
import Derived.Maps.AppendAt
import Derived.OwnWalk
import Derived.Laws.BytesArg
import Derived.Laws.MakeOwn
import Derived.Laws.OwnMore
import Derived.Deep.OwnRows
import Derived.Tactics
import Derived.Lib.ConvBytes
import Derived.Laws.Slices
import Derived.WalkKit
import Derived.KernelRfl
import Derived.RowKit3
import Derived.Deep.LoopGhost
import Derived.Deep.QuietTactic
import Derived.BigQuiet
import Derived.WideLaws
import Derived.Deep.DeepCutAuto
import Derived.Deep.CutBlock
import Derived.Deep.RegionHeld3
import Derived.Laws.Rows
import Derived.Lib.AppendStr
import Derived.ArgAppend
import Derived.Laws.IdiomCopy
import Derived.OrdersHeld
import Derived.Laws.BitsLemmas
import Derived.RowKit
import Derived.Test.YtklllibhgalnfaaDoorWWords
import Derived.Test.YtklllibhgalnfaaDoorWLast
import Derived.Test.YtklllibhgalnfaaDoorWTab
import Derived.Test.YtklllibhgalnfaaDoorWFour
import Derived.Test.YtklllibhgalnfaaDoorWQPut
import Derived.Test.YtklllibhgalnfaaDoorWApart
import Derived.Test.YtklllibhgalnfaaDoorWArr
import Derived.Test.YtklllibhgalnfaaDoorWZeros
import Derived.Test.YtklllibhgalnfaaDoorWFoot
import Derived.Test.YtklllibhgalnfaaDoorWKept
import Derived.Test.YtklllibhgalnfaaDoorWShare
import Derived.Test.YtklllibhgalnfaaDoorWN
import Derived.Test.YtklllibhgalnfaaDoorWFootNe
import Derived.Test.YtklllibhgalnfaaDoorWAt
import Derived.Test.YtklllibhgalnfaaDoorWEqStruct
import Derived.Test.YtklllibhgalnfaaDoorWRepsOne
import Derived.Test.YtklllibhgalnfaaDoorWInv
import Derived.Test.YtklllibhgalnfaaDoorWInvWords
import Derived.Test.YtklllibhgalnfaaDoorWGuard
import Derived.Test.YtklllibhgalnfaaDoorWNEv
import Derived.Test.YtklllibhgalnfaaDoorWMore
namespace Go.Proofs.YtklllibhgalnfaaDoor.PFnJpParseIntNext
open Go.RowKit Go.Proofs.YtklllibhgalnfaaDoor.G Go.Proofs.YtklllibhgalnfaaDoorW.PrintWords Go.Proofs.YtklllibhgalnfaaDoorW.PrintLast Go.Proofs.YtklllibhgalnfaaDoorW.PrintMore
attribute [local go_sem] max2_int min2_int max_two min_two max_three min_three max_four min_four   -- for this text's walks alone
set_option linter.unusedVariables false
set_option linter.unusedSimpArgs false

theorem ne_nil_bool (l : List UInt8) : (l != []) = !l.isEmpty := by cases l <;> rfl


def errW : Option Int → Value
  | none => .nilIface
  | some c => .iface 0 (.int .i64 c)
theorem errW_none : errW none = .nilIface := rfl
theorem errW_some (c : Int) : errW (some c) = .iface 0 (.int .i64 c) := rfl

theorem info5 : (Tryd.prog.info? 5).map (fun i => (i.zero, i.size, i.bytes)) = some (some (.int .u8 0), 1, 1) := by kernel_rfl
-- the values' own types

end Go.Proofs.YtklllibhgalnfaaDoor.PFnJpParseIntNext
