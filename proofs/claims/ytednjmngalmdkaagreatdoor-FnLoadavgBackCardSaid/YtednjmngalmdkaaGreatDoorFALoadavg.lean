/- Closed facts of the row of FnLoadavgBack, the first part. No condition. -/
import Derived.Test.YtednjmngalmdkaaGreatDoorRows
import Derived.Test.YtednjmngalmdkaaGreatDoorChecked
import Derived.JoinedOf
import Derived.KernelRfl
namespace Go.Proofs.YtednjmngalmdkaaGreatDoor.fnLoadavgBack
open Go
set_option maxRecDepth 100000
theorem fact0 : (Rows.fnLoadavgBackRow.wf (OpenSpec.ofChange Rows.fnLoadavgBackSpec)) = true := by kernel_rfl
theorem fact2 : (mapsRowed Tryz.prog) = true := by kernel_rfl
theorem fact9 : ((Rows.fnLoadavgBackRow.inPlace == Tryz.prog.inPlace 3)) = true := by kernel_rfl
theorem fact10 : ((Rows.fnLoadavgBackRow.unfollowed == Tryz.prog.unfollowed 3)) = true := by kernel_rfl
theorem fact11 : ((Rows.fnLoadavgBackRow.recurses == Tryz.prog.recurses 3)) = true := by kernel_rfl
theorem fact12 : ((Rows.fnLoadavgBackRow.named == Tryz.prog.varsNamed 3)) = true := by kernel_rfl
end Go.Proofs.YtednjmngalmdkaaGreatDoor.fnLoadavgBack
