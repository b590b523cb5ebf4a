-- printed by a program of this session
import Derived.Test.YtklllibhgalnfaaProg
import Derived.Test.YtklllibhgalnfaaGvY
import Derived.Below
import Derived.Deep.Draws
import Derived.Deep.AppendLies
import Derived.Maps.AppendAt
import Derived.OwnWalk
import Derived.Laws.BytesArg
import Derived.Laws.MakeOwn
import Derived.Laws.OwnMore
import Derived.Deep.OwnRows
import Derived.Tactics
import Derived.Lib.ConvBytes
import Derived.Laws.Slices
import Derived.WalkKit
import Derived.KernelRfl
import Derived.RowKit3
import Derived.Deep.LoopGhost
import Derived.Deep.QuietTactic
import Derived.BigQuiet
import Derived.WideLaws
import Derived.Deep.DeepCutAuto
import Derived.Deep.CutBlock
import Derived.Deep.RegionHeld3
import Derived.Laws.Rows
import Derived.Lib.AppendStr
import Derived.ArgAppend
import Derived.Laws.IdiomCopy
import Derived.OrdersHeld
import Derived.Laws.BitsLemmas
import Derived.RowKit
import Derived.Test.YtklllibhgalnfaaWWords
import Derived.Test.YtklllibhgalnfaaWLast
import Derived.Test.YtklllibhgalnfaaWTab
import Derived.Test.YtklllibhgalnfaaWFour
import Derived.Test.YtklllibhgalnfaaWQPut
import Derived.Test.YtklllibhgalnfaaWApart
import Derived.Test.YtklllibhgalnfaaWArr
import Derived.Test.YtklllibhgalnfaaWZeros
import Derived.Test.YtklllibhgalnfaaWFoot
import Derived.Test.YtklllibhgalnfaaWKept
import Derived.Test.YtklllibhgalnfaaWShare
import Derived.Test.YtklllibhgalnfaaWN
import Derived.Test.YtklllibhgalnfaaWFootNe
import Derived.Test.YtklllibhgalnfaaWAt
import Derived.Test.YtklllibhgalnfaaWEqStruct
import Derived.Test.YtklllibhgalnfaaWRepsOne
import Derived.Test.YtklllibhgalnfaaWInv
import Derived.Test.YtklllibhgalnfaaWInvWords
import Derived.Test.YtklllibhgalnfaaWGuard
import Derived.Test.YtklllibhgalnfaaWNEv
import Derived.Test.YtklllibhgalnfaaWMore
namespace Go.Proofs.Ytklllibhgalnfaa.PFnPrTabs
open Go.RowKit Go.Proofs.Ytklllibhgalnfaa.G Go.Proofs.YtklllibhgalnfaaW.PrintWords Go.Proofs.YtklllibhgalnfaaW.PrintLast Go.Proofs.YtklllibhgalnfaaW.PrintMore
attribute [local go_sem] max2_int min2_int max_two min_two max_three min_three max_four min_four   -- for this text's walks alone
set_option linter.unusedVariables false
set_option linter.unusedSimpArgs false

theorem ne_nil_bool (l : List UInt8) : (l != []) = !l.isEmpty := by cases l <;> rfl


def errW : Option Int → Value
  | none => .nilIface
  | some c => .iface 0 (.int .i64 c)
theorem errW_none : errW none = .nilIface := rfl
theorem errW_some (c : Int) : errW (some c) = .iface 0 (.int .i64 c) := rfl

theorem info5 : (Try.prog.info? 5).map (fun i => (i.zero, i.size, i.bytes)) = some (some (.int .u8 0), 1, 1) := by kernel_rfl
-- the values' own types

end Go.Proofs.Ytklllibhgalnfaa.PFnPrTabs
