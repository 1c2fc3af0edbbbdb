/- Texts of this claim, put together: FACgroupSummary. Conditions: as each one says. -/
import Derived.Test.YtednjmngalmdkaaGreatDoorKCg0
import Derived.Test.YtednjmngalmdkaaGreatDoorRows
import Derived.Test.YtednjmngalmdkaaGreatDoorChecked
import Derived.JoinedOf
import Derived.KernelRfl
section
/- Closed facts of the row of FnCgroupSummaryBack, the first part. No condition. -/
namespace Go.Proofs.YtednjmngalmdkaaGreatDoor.fnCgroupSummaryBack
open Go
set_option maxRecDepth 100000
theorem fact0 : (Rows.fnCgroupSummaryBackRow.wf (OpenSpec.ofChange Rows.fnCgroupSummaryBackSpec)) = true := by kernel_rfl
theorem fact2 : (mapsRowed Tryz.prog) = true := by kernel_rfl
theorem fact9 : ((Rows.fnCgroupSummaryBackRow.inPlace == Tryz.prog.inPlace 12)) = true := by kernel_rfl
theorem fact10 : ((Rows.fnCgroupSummaryBackRow.unfollowed == Tryz.prog.unfollowed 12)) = true := by kernel_rfl
theorem fact11 : ((Rows.fnCgroupSummaryBackRow.recurses == Tryz.prog.recurses 12)) = true := by kernel_rfl
theorem fact12 : ((Rows.fnCgroupSummaryBackRow.named == Tryz.prog.varsNamed 12)) = true := by kernel_rfl
end Go.Proofs.YtednjmngalmdkaaGreatDoor.fnCgroupSummaryBack
end
