/- Texts of this claim, put together: FCSoftirqs, FDSoftirqs, FESoftirqs. Conditions: as each one says. -/
import Derived.Test.YtednjmngalmdkaaGreatDoorKSq0
import Derived.Test.YtednjmngalmdkaaGreatDoorRows
import Derived.Test.YtednjmngalmdkaaGreatDoorCards
import Derived.Test.YtednjmngalmdkaaGreatDoorTie
import Derived.MakeChecks
import Derived.WalkKit
import Derived.ProofKit
import Derived.SevenTiedAt
section
/- Closed facts of FnSoftirqsBack's card, each checked by itself: the kernel's memory. -/
namespace Go.Proofs.YtednjmngalmdkaaGreatDoor.fnSoftirqsBack
theorem mainIs : Tryz.pinned.checked.prog.mainIs = some (Rows.fnSoftirqsBackCard.stood.harness.1, Rows.fnSoftirqsBackCard.stood.harness.2.toList) := by kernel_rfl
end Go.Proofs.YtednjmngalmdkaaGreatDoor.fnSoftirqsBack
end
section
/- Closed facts of FnSoftirqsBack's card, each checked by itself: the kernel's memory. -/
namespace Go.Proofs.YtednjmngalmdkaaGreatDoor.fnSoftirqsBack
theorem goes : false = Rows.fnSoftirqsBackRow.goesBy Tryz.pinned.checked.prog := by kernel_rfl
end Go.Proofs.YtednjmngalmdkaaGreatDoor.fnSoftirqsBack
end
section
/- Closed facts of FnSoftirqsBack's card, each checked by itself: the kernel's memory. -/
namespace Go.Proofs.YtednjmngalmdkaaGreatDoor.fnSoftirqsBack
theorem looks : true = Tryz.pinned.checked.prog.looks [] := by kernel_rfl
theorem funcIs : Tryz.prog.funcNamed "pub-frontispiece/laws.FnSoftirqsBack" = some 10 := by kernel_rfl
theorem noStand : ([22].all fun u => !Tryz.prog.wantsStandIn u) = true := by kernel_rfl
end Go.Proofs.YtednjmngalmdkaaGreatDoor.fnSoftirqsBack
end
