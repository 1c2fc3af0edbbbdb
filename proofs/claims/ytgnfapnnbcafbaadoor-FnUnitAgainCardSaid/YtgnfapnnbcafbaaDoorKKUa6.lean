/- What is read from any text, written and read again is the same, grouped by sections: the tied card of FnUnitAgain. No condition beyond the card's own. -/
import Derived.Test.YtgnfapnnbcafbaaDoorKKUa0
import Derived.Test.YtgnfapnnbcafbaaDoorKKUa5
section
/- What is read from any text, written and read again is the same, grouped by sections: the tied card of FnUnitAgain. No condition beyond the card's own. -/
namespace Go.Proofs.YtgnfapnnbcafbaaDoor.fnUnitAgain
open Go.ChangeShapes Go.WideShapes Go.ChangeAt Go.RowKit
open Go.ChangeMaps (open_string shut_string)
theorem card : Rows.FnUnitAgainCardSaid :=
 Claim7.holds_tied_plain_at .later [] Rows.fnUnitAgainCard.laidKinds true Rows.fnUnitAgainCard.stood.harness true
  over (fun _ h => by cases h) (by kernel_rfl) (fun _ h => by cases h) fnUnitAgain_row_tie rfl ⟨rfl, rfl⟩ (by kernel_rfl) rfl
  (fun f fn hf hfn => by
   obtain rfl : f = 6 := Option.some.inj ((show Tryd.prog.funcNamed "pub-frontispiece/laws.FnUnitAgain" = some 6 by kernel_rfl).symm.trans hf) |>.symm
   obtain rfl : fn = Tryd.f6 := (Option.some.inj (Tryd.func6.symm.trans hfn)).symm
   exact ⟨by kernel_rfl, fun j t ht => by
    rw [Tryd.params6] at ht
    have hm : t ∈ [9] := by simpa using Array.mem_of_getElem? ht
    have hall : ([9].all fun u => !Tryd.prog.wantsStandIn u) = true := by kernel_rfl
    exact (show Tryd.prog.wantsStandIn t = false by simpa using List.all_eq_true.1 hall t hm)⟩)
  (by kernel_rfl)
#print axioms card
end Go.Proofs.YtgnfapnnbcafbaaDoor.fnUnitAgain
namespace Go.Proofs.YtgnfapnnbcafbaaDoor
theorem fnUnitAgain_card : Rows.FnUnitAgainCardSaid := fnUnitAgain.card
end Go.Proofs.YtgnfapnnbcafbaaDoor
end
