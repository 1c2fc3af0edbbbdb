/- Options that are written as a unit file are read from it, grouped by their sections, in their order: the tied card of FnUnitBack. No condition beyond the card's own. -/
import Derived.Test.YtgnfapnnbcafbaaDoorKKUb0
import Derived.Test.YtgnfapnnbcafbaaDoorKKUb5
section
/- Options that are written as a unit file are read from it, grouped by their sections, in their order: the tied card of FnUnitBack. No condition beyond the card's own. -/
namespace Go.Proofs.YtgnfapnnbcafbaaDoor.fnUnitBack
open Go.ChangeShapes Go.WideShapes Go.ChangeAt Go.RowKit
open Go.ChangeMaps (open_string shut_string)
theorem card : Rows.FnUnitBackCardSaid :=
 Claim7.holds_tied_plain_at .later [] Rows.fnUnitBackCard.laidKinds true Rows.fnUnitBackCard.stood.harness true
  over (fun _ h => by cases h) (by kernel_rfl) (fun _ h => by cases h) fnUnitBack_row_tie rfl ⟨rfl, rfl⟩ (by kernel_rfl) rfl
  (fun f fn hf hfn => by
   obtain rfl : f = 7 := Option.some.inj ((show Tryd.prog.funcNamed "pub-frontispiece/laws.FnUnitBack" = some 7 by kernel_rfl).symm.trans hf) |>.symm
   obtain rfl : fn = Tryd.f7 := (Option.some.inj (Tryd.func7.symm.trans hfn)).symm
   exact ⟨by kernel_rfl, fun j t ht => by
    rw [Tryd.params7] at ht
    have hm : t ∈ [27] := by simpa using Array.mem_of_getElem? ht
    have hall : ([27].all fun u => !Tryd.prog.wantsStandIn u) = true := by kernel_rfl
    exact (show Tryd.prog.wantsStandIn t = false by simpa using List.all_eq_true.1 hall t hm)⟩)
  (by kernel_rfl)
#print axioms card
end Go.Proofs.YtgnfapnnbcafbaaDoor.fnUnitBack
namespace Go.Proofs.YtgnfapnnbcafbaaDoor
theorem fnUnitBack_card : Rows.FnUnitBackCardSaid := fnUnitBack.card
end Go.Proofs.YtgnfapnnbcafbaaDoor
end
