/- Texts of this claim, put together: FARoute. Conditions: as each one says. -/
import Derived.Test.YtednjmngalmdkaaGreatDoorKRt0
import Derived.Test.YtednjmngalmdkaaGreatDoorRows
import Derived.Test.YtednjmngalmdkaaGreatDoorChecked
import Derived.JoinedOf
import Derived.KernelRfl
section
/- Closed facts of the row of FnRouteBack, the first part. No condition. -/
namespace Go.Proofs.YtednjmngalmdkaaGreatDoor.fnRouteBack
open Go
set_option maxRecDepth 100000
theorem fact0 : (Rows.fnRouteBackRow.wf (OpenSpec.ofChange Rows.fnRouteBackSpec)) = true := by kernel_rfl
theorem fact2 : (mapsRowed Tryz.prog) = true := by kernel_rfl
theorem fact9 : ((Rows.fnRouteBackRow.inPlace == Tryz.prog.inPlace 9)) = true := by kernel_rfl
theorem fact10 : ((Rows.fnRouteBackRow.unfollowed == Tryz.prog.unfollowed 9)) = true := by kernel_rfl
theorem fact11 : ((Rows.fnRouteBackRow.recurses == Tryz.prog.recurses 9)) = true := by kernel_rfl
theorem fact12 : ((Rows.fnRouteBackRow.named == Tryz.prog.varsNamed 9)) = true := by kernel_rfl
end Go.Proofs.YtednjmngalmdkaaGreatDoor.fnRouteBack
end
