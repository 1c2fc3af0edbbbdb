/- Texts of this claim, put together: FASoftnet. Conditions: as each one says. -/
import Derived.Test.YtednjmngalmdkaaGreatDoorKSn0
import Derived.Test.YtednjmngalmdkaaGreatDoorRows
import Derived.Test.YtednjmngalmdkaaGreatDoorChecked
import Derived.JoinedOf
import Derived.KernelRfl
section
/- Closed facts of the row of FnSoftnetBack, the first part. No condition. -/
namespace Go.Proofs.YtednjmngalmdkaaGreatDoor.fnSoftnetBack
open Go
set_option maxRecDepth 100000
theorem fact0 : (Rows.fnSoftnetBackRow.wf (OpenSpec.ofChange Rows.fnSoftnetBackSpec)) = true := by kernel_rfl
theorem fact2 : (mapsRowed Tryz.prog) = true := by kernel_rfl
theorem fact9 : ((Rows.fnSoftnetBackRow.inPlace == Tryz.prog.inPlace 8)) = true := by kernel_rfl
theorem fact10 : ((Rows.fnSoftnetBackRow.unfollowed == Tryz.prog.unfollowed 8)) = true := by kernel_rfl
theorem fact11 : ((Rows.fnSoftnetBackRow.recurses == Tryz.prog.recurses 8)) = true := by kernel_rfl
theorem fact12 : ((Rows.fnSoftnetBackRow.named == Tryz.prog.varsNamed 8)) = true := by kernel_rfl
end Go.Proofs.YtednjmngalmdkaaGreatDoor.fnSoftnetBack
end
