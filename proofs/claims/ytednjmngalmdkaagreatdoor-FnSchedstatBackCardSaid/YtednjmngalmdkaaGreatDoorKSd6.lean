/- Texts of this claim, put together: FASchedstat. Conditions: as each one says. -/
import Derived.Test.YtednjmngalmdkaaGreatDoorKSd0
import Derived.Test.YtednjmngalmdkaaGreatDoorRows
import Derived.Test.YtednjmngalmdkaaGreatDoorChecked
import Derived.JoinedOf
import Derived.KernelRfl
section
/- Closed facts of the row of FnSchedstatBack, the first part. No condition. -/
namespace Go.Proofs.YtednjmngalmdkaaGreatDoor.fnSchedstatBack
open Go
set_option maxRecDepth 100000
theorem fact0 : (Rows.fnSchedstatBackRow.wf (OpenSpec.ofChange Rows.fnSchedstatBackSpec)) = true := by kernel_rfl
theorem fact2 : (mapsRowed Tryz.prog) = true := by kernel_rfl
theorem fact9 : ((Rows.fnSchedstatBackRow.inPlace == Tryz.prog.inPlace 6)) = true := by kernel_rfl
theorem fact10 : ((Rows.fnSchedstatBackRow.unfollowed == Tryz.prog.unfollowed 6)) = true := by kernel_rfl
theorem fact11 : ((Rows.fnSchedstatBackRow.recurses == Tryz.prog.recurses 6)) = true := by kernel_rfl
theorem fact12 : ((Rows.fnSchedstatBackRow.named == Tryz.prog.varsNamed 6)) = true := by kernel_rfl
end Go.Proofs.YtednjmngalmdkaaGreatDoor.fnSchedstatBack
end
