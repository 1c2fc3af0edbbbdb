/- What /proc/softirqs says, written in the documented form, is read as its tree.: the tied card of FnSoftirqsBack. No condition beyond the card's own. -/
import Derived.Test.YtednjmngalmdkaaGreatDoorKSq0
import Derived.Test.YtednjmngalmdkaaGreatDoorKSq10
import Derived.Test.YtednjmngalmdkaaGreatDoorKSq11
import Derived.Test.YtednjmngalmdkaaGreatDoorRows
import Derived.Test.YtednjmngalmdkaaGreatDoorCards
import Derived.Test.YtednjmngalmdkaaGreatDoorTie
import Derived.Lay
import Derived.MakeChecks
import Derived.WalkKit
import Derived.ProofKit
import Derived.OpenShut
import Derived.ShutString
import Derived.ChangeOld
import Derived.Below
import Derived.SizedLaws
import Derived.LaidMore
import Derived.SevenTiedAt
import Derived.Stop.Joined
section
/- What /proc/softirqs says, written in the documented form, is read as its tree.: the tied card of FnSoftirqsBack. No condition beyond the card's own. -/
namespace Go.Proofs.YtednjmngalmdkaaGreatDoor.fnSoftirqsBack
open Go.ChangeShapes Go.WideShapes Go.ChangeAt Go.RowKit
open Go.ChangeMaps (open_string shut_string)
set_option linter.unusedVariables false
theorem card : Rows.FnSoftirqsBackCardSaid :=
 Claim7.holds_tied_plain_at .later [] Rows.fnSoftirqsBackCard.laidKinds true Rows.fnSoftirqsBackCard.stood.harness true
  over (fun _ h => by cases h) (by kernel_rfl) (fun _ h => by cases h) fnSoftirqsBack_row_tie rfl ⟨rfl, rfl⟩ mainIs rfl
  (fun f fn hf hfn => by
   obtain rfl : f = 10 := Option.some.inj (funcIs.symm.trans hf) |>.symm
   obtain rfl : fn = Tryz.f10 := (Option.some.inj (Tryz.func10.symm.trans hfn)).symm
   exact ⟨looks, fun j t ht => by
    rw [Tryz.params10] at ht
    have hm : t ∈ [22] := by simpa using Array.mem_of_getElem? ht
    exact (show Tryz.prog.wantsStandIn t = false by simpa using List.all_eq_true.1 noStand t hm)⟩)
  goes
#print axioms card
end Go.Proofs.YtednjmngalmdkaaGreatDoor.fnSoftirqsBack
namespace Go.Proofs.YtednjmngalmdkaaGreatDoor
theorem fnSoftirqsBack_card : Rows.FnSoftirqsBackCardSaid := fnSoftirqsBack.card
end Go.Proofs.YtednjmngalmdkaaGreatDoor
end
