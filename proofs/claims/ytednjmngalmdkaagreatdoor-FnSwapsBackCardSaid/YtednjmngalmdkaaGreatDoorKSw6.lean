/- Texts of this claim, put together: FASwaps. Conditions: as each one says. -/
import Derived.Test.YtednjmngalmdkaaGreatDoorKSw0
import Derived.Test.YtednjmngalmdkaaGreatDoorRows
import Derived.Test.YtednjmngalmdkaaGreatDoorChecked
import Derived.JoinedOf
import Derived.KernelRfl
section
/- Closed facts of the row of FnSwapsBack, the first part. No condition. -/
namespace Go.Proofs.YtednjmngalmdkaaGreatDoor.fnSwapsBack
open Go
set_option maxRecDepth 100000
theorem fact0 : (Rows.fnSwapsBackRow.wf (OpenSpec.ofChange Rows.fnSwapsBackSpec)) = true := by kernel_rfl
theorem fact2 : (mapsRowed Tryz.prog) = true := by kernel_rfl
theorem fact9 : ((Rows.fnSwapsBackRow.inPlace == Tryz.prog.inPlace 11)) = true := by kernel_rfl
theorem fact10 : ((Rows.fnSwapsBackRow.unfollowed == Tryz.prog.unfollowed 11)) = true := by kernel_rfl
theorem fact11 : ((Rows.fnSwapsBackRow.recurses == Tryz.prog.recurses 11)) = true := by kernel_rfl
theorem fact12 : ((Rows.fnSwapsBackRow.named == Tryz.prog.varsNamed 11)) = true := by kernel_rfl
end Go.Proofs.YtednjmngalmdkaaGreatDoor.fnSwapsBack
end
