/- Two unit files, one behind the other, are read as the options of the first, then those of the second: the tied card of FnUnitJoined. No condition beyond the card's own. -/
import Derived.Test.YtgnfapnnbcafbaaDoorKKUj0
import Derived.Test.YtgnfapnnbcafbaaDoorKKUj5
section
/- Two unit files, one behind the other, are read as the options of the first, then those of the second: the tied card of FnUnitJoined. No condition beyond the card's own. -/
namespace Go.Proofs.YtgnfapnnbcafbaaDoor.fnUnitJoined
open Go.ChangeShapes Go.WideShapes Go.ChangeAt Go.RowKit
open Go.ChangeMaps (open_string shut_string)
theorem card : Rows.FnUnitJoinedCardSaid :=
 Claim7.holds_tied_plain_at .later [] Rows.fnUnitJoinedCard.laidKinds true Rows.fnUnitJoinedCard.stood.harness true
  over (fun _ h => by cases h) (by kernel_rfl) (fun _ h => by cases h) fnUnitJoined_row_tie rfl ⟨rfl, rfl⟩ (by kernel_rfl) rfl
  (fun f fn hf hfn => by
   obtain rfl : f = 8 := Option.some.inj ((show Tryd.prog.funcNamed "pub-frontispiece/laws.FnUnitJoined" = some 8 by kernel_rfl).symm.trans hf) |>.symm
   obtain rfl : fn = Tryd.f8 := (Option.some.inj (Tryd.func8.symm.trans hfn)).symm
   exact ⟨by kernel_rfl, fun j t ht => by
    rw [Tryd.params8] at ht
    have hm : t ∈ [27, 27] := by simpa using Array.mem_of_getElem? ht
    have hall : ([27, 27].all fun u => !Tryd.prog.wantsStandIn u) = true := by kernel_rfl
    exact (show Tryd.prog.wantsStandIn t = false by simpa using List.all_eq_true.1 hall t hm)⟩)
  (by kernel_rfl)
#print axioms card
end Go.Proofs.YtgnfapnnbcafbaaDoor.fnUnitJoined
namespace Go.Proofs.YtgnfapnnbcafbaaDoor
theorem fnUnitJoined_card : Rows.FnUnitJoinedCardSaid := fnUnitJoined.card
end Go.Proofs.YtgnfapnnbcafbaaDoor
end
