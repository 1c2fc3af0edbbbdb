/- Texts of this claim, put together: FASoftirqs. Conditions: as each one says. -/
import Derived.Test.YtednjmngalmdkaaGreatDoorKSq0
import Derived.Test.YtednjmngalmdkaaGreatDoorRows
import Derived.Test.YtednjmngalmdkaaGreatDoorChecked
import Derived.JoinedOf
import Derived.KernelRfl
section
/- Closed facts of the row of FnSoftirqsBack, the first part. No condition. -/
namespace Go.Proofs.YtednjmngalmdkaaGreatDoor.fnSoftirqsBack
open Go
set_option maxRecDepth 100000
theorem fact0 : (Rows.fnSoftirqsBackRow.wf (OpenSpec.ofChange Rows.fnSoftirqsBackSpec)) = true := by kernel_rfl
theorem fact2 : (mapsRowed Tryz.prog) = true := by kernel_rfl
theorem fact9 : ((Rows.fnSoftirqsBackRow.inPlace == Tryz.prog.inPlace 10)) = true := by kernel_rfl
theorem fact10 : ((Rows.fnSoftirqsBackRow.unfollowed == Tryz.prog.unfollowed 10)) = true := by kernel_rfl
theorem fact11 : ((Rows.fnSoftirqsBackRow.recurses == Tryz.prog.recurses 10)) = true := by kernel_rfl
theorem fact12 : ((Rows.fnSoftirqsBackRow.named == Tryz.prog.varsNamed 10)) = true := by kernel_rfl
end Go.Proofs.YtednjmngalmdkaaGreatDoor.fnSoftirqsBack
end
