/- Texts of this claim, put together: FAConntrack. Conditions: as each one says. -/
import Derived.Test.YtednjmngalmdkaaGreatDoorKCt0
import Derived.Test.YtednjmngalmdkaaGreatDoorRows
import Derived.Test.YtednjmngalmdkaaGreatDoorChecked
import Derived.JoinedOf
import Derived.KernelRfl
section
/- Closed facts of the row of FnConntrackBack, the first part. No condition. -/
namespace Go.Proofs.YtednjmngalmdkaaGreatDoor.fnConntrackBack
open Go
set_option maxRecDepth 100000
theorem fact0 : (Rows.fnConntrackBackRow.wf (OpenSpec.ofChange Rows.fnConntrackBackSpec)) = true := by kernel_rfl
theorem fact2 : (mapsRowed Tryz.prog) = true := by kernel_rfl
theorem fact9 : ((Rows.fnConntrackBackRow.inPlace == Tryz.prog.inPlace 7)) = true := by kernel_rfl
theorem fact10 : ((Rows.fnConntrackBackRow.unfollowed == Tryz.prog.unfollowed 7)) = true := by kernel_rfl
theorem fact11 : ((Rows.fnConntrackBackRow.recurses == Tryz.prog.recurses 7)) = true := by kernel_rfl
theorem fact12 : ((Rows.fnConntrackBackRow.named == Tryz.prog.varsNamed 7)) = true := by kernel_rfl
end Go.Proofs.YtednjmngalmdkaaGreatDoor.fnConntrackBack
end
