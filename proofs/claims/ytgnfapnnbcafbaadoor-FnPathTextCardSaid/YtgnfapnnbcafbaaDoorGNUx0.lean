-- printed by gprint.py (a session's own turn of the kit's print): NU
import Derived.Test.YtgnfapnnbcafbaaDoorProg
import Derived.Below
import Derived.Deep.Draws
import Derived.Deep.AppendLies
import Derived.Maps.AppendAt
import Derived.OwnWalk
import Derived.Laws.BytesArg
import Derived.Laws.MakeOwn
import Derived.Laws.OwnMore
import Derived.Deep.OwnRows
import Derived.Tactics
import Derived.Lib.ConvBytes
import Derived.Laws.Slices
import Derived.WalkKit
import Derived.KernelRfl
import Derived.RowKit3
import Derived.Deep.LoopGhost
import Derived.Deep.QuietTactic
import Derived.BigQuiet
import Derived.WideLaws
import Derived.Deep.DeepCutAuto
import Derived.Deep.CutBlock
import Derived.Deep.RegionHeld3
import Derived.Laws.Rows
import Derived.Lib.AppendStr
import Derived.ArgAppend
import Derived.Laws.IdiomCopy
import Derived.OrdersHeld
import Derived.Laws.BitsLemmas
import Derived.RowKit
import Derived.Test.YtgnfapnnbcafbaaDoorWWords
import Derived.Test.YtgnfapnnbcafbaaDoorWLast
import Derived.Test.YtgnfapnnbcafbaaDoorWTab
import Derived.Test.YtgnfapnnbcafbaaDoorWFour
import Derived.Test.YtgnfapnnbcafbaaDoorWQPut
import Derived.Test.YtgnfapnnbcafbaaDoorWApart
import Derived.Test.YtgnfapnnbcafbaaDoorWArr
import Derived.Test.YtgnfapnnbcafbaaDoorWZeros
import Derived.Test.YtgnfapnnbcafbaaDoorWFoot
import Derived.Test.YtgnfapnnbcafbaaDoorWKept
import Derived.Test.YtgnfapnnbcafbaaDoorWShare
import Derived.Test.YtgnfapnnbcafbaaDoorWN
import Derived.Test.YtgnfapnnbcafbaaDoorWFootNe
import Derived.Test.YtgnfapnnbcafbaaDoorWAt
import Derived.Test.YtgnfapnnbcafbaaDoorWEqStruct
import Derived.Test.YtgnfapnnbcafbaaDoorWRepsOne
import Derived.Test.YtgnfapnnbcafbaaDoorWInv
import Derived.Test.YtgnfapnnbcafbaaDoorWInvWords
import Derived.Test.YtgnfapnnbcafbaaDoorWGuard
import Derived.Test.YtgnfapnnbcafbaaDoorWNEv
import Derived.Test.YtgnfapnnbcafbaaDoorWMore
namespace Go.Proofs.YtgnfapnnbcafbaaDoor.GNU
open Go.RowKit Go.Proofs.YtgnfapnnbcafbaaDoorW.PrintWords Go.Proofs.YtgnfapnnbcafbaaDoorW.PrintLast Go.Proofs.YtgnfapnnbcafbaaDoorW.PrintMore
attribute [local go_sem] max2_int min2_int max_two min_two max_three min_three max_four min_four   -- for this text's walks alone
set_option linter.unusedVariables false
set_option linter.unusedSimpArgs false



def errW : Option Int → Value
  | none => .nilIface
  | some c => .iface 0 (.int .i64 c)
theorem errW_none : errW none = .nilIface := rfl
theorem errW_some (c : Int) : errW (some c) = .iface 0 (.int .i64 c) := rfl

theorem info5 : (Tryd.prog.info? 5).map (fun i => (i.zero, i.size, i.bytes)) = some (some (.int .u8 0), 1, 1) := by kernel_rfl
-- the values' own types

end Go.Proofs.YtgnfapnnbcafbaaDoor.GNU
