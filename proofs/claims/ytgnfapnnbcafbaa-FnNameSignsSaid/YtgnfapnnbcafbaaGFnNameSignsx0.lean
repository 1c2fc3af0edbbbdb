-- printed by gprint.py (a session's own turn of the kit's print): FnNameSigns
import Derived.Test.YtgnfapnnbcafbaaProg
import Derived.Below
import Derived.Deep.Draws
import Derived.Deep.AppendLies
import Derived.Maps.AppendAt
import Derived.OwnWalk
import Derived.Laws.BytesArg
import Derived.Laws.MakeOwn
import Derived.Laws.OwnMore
import Derived.Deep.OwnRows
import Derived.Tactics
import Derived.Lib.ConvBytes
import Derived.Laws.Slices
import Derived.WalkKit
import Derived.KernelRfl
import Derived.RowKit3
import Derived.Deep.LoopGhost
import Derived.Deep.QuietTactic
import Derived.BigQuiet
import Derived.WideLaws
import Derived.Deep.DeepCutAuto
import Derived.Deep.CutBlock
import Derived.Deep.RegionHeld3
import Derived.Laws.Rows
import Derived.Lib.AppendStr
import Derived.ArgAppend
import Derived.Laws.IdiomCopy
import Derived.OrdersHeld
import Derived.Laws.BitsLemmas
import Derived.RowKit
import Derived.Test.YtgnfapnnbcafbaaWWords
import Derived.Test.YtgnfapnnbcafbaaWLast
import Derived.Test.YtgnfapnnbcafbaaWTab
import Derived.Test.YtgnfapnnbcafbaaWFour
import Derived.Test.YtgnfapnnbcafbaaWQPut
import Derived.Test.YtgnfapnnbcafbaaWApart
import Derived.Test.YtgnfapnnbcafbaaWArr
import Derived.Test.YtgnfapnnbcafbaaWZeros
import Derived.Test.YtgnfapnnbcafbaaWFoot
import Derived.Test.YtgnfapnnbcafbaaWKept
import Derived.Test.YtgnfapnnbcafbaaWShare
import Derived.Test.YtgnfapnnbcafbaaWN
import Derived.Test.YtgnfapnnbcafbaaWFootNe
import Derived.Test.YtgnfapnnbcafbaaWAt
import Derived.Test.YtgnfapnnbcafbaaWEqStruct
import Derived.Test.YtgnfapnnbcafbaaWRepsOne
import Derived.Test.YtgnfapnnbcafbaaWInv
import Derived.Test.YtgnfapnnbcafbaaWInvWords
import Derived.Test.YtgnfapnnbcafbaaWGuard
import Derived.Test.YtgnfapnnbcafbaaWNEv
import Derived.Test.YtgnfapnnbcafbaaWMore
import Derived.Test.YtgnfapnnbcafbaaGivenNS
namespace Go.Proofs.Ytgnfapnnbcafbaa.GFnNameSigns
open Go.RowKit Go.Proofs.YtgnfapnnbcafbaaW.PrintWords Go.Proofs.YtgnfapnnbcafbaaW.PrintLast Go.Proofs.YtgnfapnnbcafbaaW.PrintMore
attribute [local go_sem] max2_int min2_int max_two min_two max_three min_three max_four min_four   -- for this text's walks alone
set_option linter.unusedVariables false
set_option linter.unusedSimpArgs false



def errW : Option Int → Value
  | none => .nilIface
  | some c => .iface 0 (.int .i64 c)
theorem errW_none : errW none = .nilIface := rfl
theorem errW_some (c : Int) : errW (some c) = .iface 0 (.int .i64 c) := rfl

theorem info5 : (Try.prog.info? 5).map (fun i => (i.zero, i.size, i.bytes)) = some (some (.int .u8 0), 1, 1) := by kernel_rfl
-- the values' own types

end Go.Proofs.Ytgnfapnnbcafbaa.GFnNameSigns
