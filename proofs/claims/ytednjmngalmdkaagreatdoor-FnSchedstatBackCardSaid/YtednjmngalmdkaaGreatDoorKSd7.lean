/- Texts of this claim, put together: FBSchedstat. Conditions: as each one says. -/
import Derived.Test.YtednjmngalmdkaaGreatDoorKSd0
import Derived.Test.YtednjmngalmdkaaGreatDoorKSd6
import Derived.Test.YtednjmngalmdkaaGreatDoorRows
import Derived.Test.YtednjmngalmdkaaGreatDoorChecked
import Derived.JoinedOf
import Derived.KernelRfl
section
/- Closed facts of the row of FnSchedstatBack, the second part, and all of them. No condition. -/
namespace Go.Proofs.YtednjmngalmdkaaGreatDoor.fnSchedstatBack
open Go
set_option maxRecDepth 100000
theorem and_true2 {a b : Bool} (ha : a = true) (hb : b = true) : (a && b) = true := by rw [ha, hb]; rfl
theorem fact1 : (laidOutB Tryz.prog) = true := by kernel_rfl
theorem fact3 : (Tryz.f6.params.all (Tryz.prog.readableRec ·)) = true := by kernel_rfl
theorem fact4 : (namedTie Tryz.prog Rows.fnSchedstatBackRow.named Rows.fnSchedstatBackSpec.vars) = true := by kernel_rfl
theorem fact5 : ((Rows.fnSchedstatBackRow.stops == [])) = true := by kernel_rfl
theorem fact6 : ((Tryz.prog.stops == [])) = true := by kernel_rfl
theorem fact7 : ((Rows.fnSchedstatBackRow.knobs == [])) = true := by kernel_rfl
theorem fact8 : ((Tryz.prog.stopKnobs == [])) = true := by kernel_rfl
theorem fact13 : ((Rows.fnSchedstatBackRow.maps == (Tryz.f6.params.toList ++ Rows.fnSchedstatBackSpec.plain.varTypes Tryz.prog).any (Tryz.prog.mapsRec ·))) = true := by kernel_rfl
theorem fact14 : ((Rows.fnSchedstatBackRow.ifaces == (Tryz.f6.params.toList ++ Rows.fnSchedstatBackSpec.plain.varTypes Tryz.prog).any (Tryz.prog.ifacesRec ·))) = true := by kernel_rfl
theorem fact15 : ((Rows.fnSchedstatBackRow.mapsOut == Tryz.prog.mapsAmong Tryz.f6.resultTypes.toList)) = true := by kernel_rfl
theorem fact16 : ((Rows.fnSchedstatBackRow.loops == (Tryz.f6.params.toList ++ Rows.fnSchedstatBackSpec.plain.varTypes Tryz.prog).any (Tryz.prog.loopsFrom ·))) = true := by kernel_rfl
theorem fact17 : ((Rows.fnSchedstatBackRow.wideKeys == (Tryz.f6.params.toList ++ Rows.fnSchedstatBackSpec.plain.varTypes Tryz.prog ++ Tryz.f6.resultTypes.toList).any (Tryz.prog.wideKeysFrom ·))) = true := by kernel_rfl
theorem fact18 : (Rows.fnSchedstatBackSpec.vars.all (Tryz.prog.varReadable ·)) = true := by kernel_rfl
theorem fact19 : (Tryz.f6.resultTypes.all (fun t => Tryz.prog.readableRec t && decide (t < Tryz.prog.types.size))) = true := by kernel_rfl
theorem fact20 : ((Rows.fnSchedstatBackRow.ifacesOut == Tryz.f6.resultTypes.toList.any (Tryz.prog.ifacesRec ·))) = true := by kernel_rfl
theorem fact21 : ((Rows.fnSchedstatBackRow.loopsOut == Tryz.f6.resultTypes.toList.any (Tryz.prog.loopsFrom ·))) = true := by kernel_rfl
theorem fact22 : ((Rows.fnSchedstatBackRow.plainKeys == Tryz.prog.plainKeys)) = true := by kernel_rfl
theorem fact23 : (Rows.fnSchedstatBackRow.shortTexts.isNone) = true := by kernel_rfl
theorem fact24 : (Tryz.prog.stopsHeard) = true := by kernel_rfl
theorem fact25 : (Tryz.prog.mayEnter) = true := by kernel_rfl
theorem fact26 : ((Rows.fnSchedstatBackRow.lifted == Tryz.prog.liftsFinal)) = true := by kernel_rfl
theorem fact27 : ((Tryz.prog.make == some Rows.fnSchedstatBackRow.make)) = true := by kernel_rfl
theorem fact28 : ((Rows.fnSchedstatBackRow.kinds == (if Rows.fnSchedstatBackRow.domain.isEmpty then [] else Tryz.f6.params.toList.map fun t => match Tryz.prog.underlying t with | some (.int k) => some k | _ => none))) = true := by kernel_rfl
theorem fact29 : ((Rows.fnSchedstatBackRow.pinned == Rows.fnSchedstatBackRow.pinnedBy)) = true := by kernel_rfl
theorem fact30 : ((Rows.fnSchedstatBackRow.veiled == (Tryz.f6.params.toList ++ Rows.fnSchedstatBackSpec.plain.varTypes Tryz.prog ++ Tryz.f6.resultTypes.toList).any (Tryz.prog.veiledRec ·))) = true := by kernel_rfl
theorem fact31 : (Rows.fnSchedstatBackRow.veiledFits Tryz.prog Tryz.f6.params.toList (Tryz.f6.params.toList ++ Rows.fnSchedstatBackSpec.plain.varTypes Tryz.prog ++ Tryz.f6.resultTypes.toList)) = true := by kernel_rfl
theorem closed : joinedFacts Tryz.prog 6 Tryz.f6 Rows.fnSchedstatBackSpec Rows.fnSchedstatBackRow = true := (and_true2 (and_true2 (and_true2 (and_true2 (and_true2 (and_true2 (and_true2 (and_true2 (and_true2 (and_true2 (and_true2 (and_true2 (and_true2 (and_true2 (and_true2 (and_true2 (and_true2 (and_true2 (and_true2 (and_true2 (and_true2 (and_true2 (and_true2 (and_true2 (and_true2 (and_true2 (and_true2 (and_true2 (and_true2 (and_true2 (and_true2 fact0 fact1) fact2) fact3) fact4) fact5) fact6) fact7) fact8) fact9) fact10) fact11) fact12) fact13) fact14) fact15) fact16) fact17) fact18) fact19) fact20) fact21) fact22) fact23) fact24) fact25) fact26) fact27) fact28) fact29) fact30) fact31)
end Go.Proofs.YtednjmngalmdkaaGreatDoor.fnSchedstatBack
end
