/- Closed facts of the row of FnStatmBack, the first part. No condition. -/
import Derived.Test.YtednjmngalmdkaaGreatDoorRows
import Derived.Test.YtednjmngalmdkaaGreatDoorChecked
import Derived.JoinedOf
import Derived.KernelRfl
namespace Go.Proofs.YtednjmngalmdkaaGreatDoor.fnStatmBack
open Go
set_option maxRecDepth 100000
theorem fact0 : (Rows.fnStatmBackRow.wf (OpenSpec.ofChange Rows.fnStatmBackSpec)) = true := by kernel_rfl
theorem fact2 : (mapsRowed Tryz.prog) = true := by kernel_rfl
theorem fact9 : ((Rows.fnStatmBackRow.inPlace == Tryz.prog.inPlace 5)) = true := by kernel_rfl
theorem fact10 : ((Rows.fnStatmBackRow.unfollowed == Tryz.prog.unfollowed 5)) = true := by kernel_rfl
theorem fact11 : ((Rows.fnStatmBackRow.recurses == Tryz.prog.recurses 5)) = true := by kernel_rfl
theorem fact12 : ((Rows.fnStatmBackRow.named == Tryz.prog.varsNamed 5)) = true := by kernel_rfl
end Go.Proofs.YtednjmngalmdkaaGreatDoor.fnStatmBack
