/- Lists of options are identical if they are equal, and are not if an option is in one of them alone, or more often: the tied card of FnUnitSame. No condition beyond the card's own. -/
import Derived.Test.YtgnfapnnbcafbaaDoorKKUs0
import Derived.Test.YtgnfapnnbcafbaaDoorKKUs4
section
/- Lists of options are identical if they are equal, and are not if an option is in one of them alone, or more often: the tied card of FnUnitSame. No condition beyond the card's own. -/
namespace Go.Proofs.YtgnfapnnbcafbaaDoor.fnUnitSame
open Go.ChangeShapes Go.WideShapes Go.ChangeAt Go.RowKit
open Go.ChangeMaps (open_string shut_string)
theorem card : Rows.FnUnitSameCardSaid :=
 Claim7.holds_tied_plain_at .later [] Rows.fnUnitSameCard.laidKinds true Rows.fnUnitSameCard.stood.harness true
  over (fun _ h => by cases h) (by kernel_rfl) (fun _ h => by cases h) fnUnitSame_row_tie rfl ⟨rfl, rfl⟩ (by kernel_rfl) rfl
  (fun f fn hf hfn => by
   obtain rfl : f = 5 := Option.some.inj ((show Tryd.prog.funcNamed "pub-frontispiece/laws.FnUnitSame" = some 5 by kernel_rfl).symm.trans hf) |>.symm
   obtain rfl : fn = Tryd.f5 := (Option.some.inj (Tryd.func5.symm.trans hfn)).symm
   exact ⟨by kernel_rfl, fun j t ht => by
    rw [Tryd.params5] at ht
    have hm : t ∈ [27, 27] := by simpa using Array.mem_of_getElem? ht
    have hall : ([27, 27].all fun u => !Tryd.prog.wantsStandIn u) = true := by kernel_rfl
    exact (show Tryd.prog.wantsStandIn t = false by simpa using List.all_eq_true.1 hall t hm)⟩)
  (by kernel_rfl)
#print axioms card
end Go.Proofs.YtgnfapnnbcafbaaDoor.fnUnitSame
namespace Go.Proofs.YtgnfapnnbcafbaaDoor
theorem fnUnitSame_card : Rows.FnUnitSameCardSaid := fnUnitSame.card
end Go.Proofs.YtgnfapnnbcafbaaDoor
end
