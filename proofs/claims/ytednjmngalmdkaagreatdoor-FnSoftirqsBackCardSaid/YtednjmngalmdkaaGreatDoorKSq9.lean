/- Texts of this claim, put together: FBSoftirqs. Conditions: as each one says. -/
import Derived.Test.YtednjmngalmdkaaGreatDoorKSq0
import Derived.Test.YtednjmngalmdkaaGreatDoorKSq8
import Derived.Test.YtednjmngalmdkaaGreatDoorRows
import Derived.Test.YtednjmngalmdkaaGreatDoorChecked
import Derived.JoinedOf
import Derived.KernelRfl
section
/- Closed facts of the row of FnSoftirqsBack, the second part, and all of them. No condition. -/
namespace Go.Proofs.YtednjmngalmdkaaGreatDoor.fnSoftirqsBack
open Go
set_option maxRecDepth 100000
theorem and_true2 {a b : Bool} (ha : a = true) (hb : b = true) : (a && b) = true := by rw [ha, hb]; rfl
theorem fact1 : (laidOutB Tryz.prog) = true := by kernel_rfl
theorem fact3 : (Tryz.f10.params.all (Tryz.prog.readableRec ·)) = true := by kernel_rfl
theorem fact4 : (namedTie Tryz.prog Rows.fnSoftirqsBackRow.named Rows.fnSoftirqsBackSpec.vars) = true := by kernel_rfl
theorem fact5 : ((Rows.fnSoftirqsBackRow.stops == [])) = true := by kernel_rfl
theorem fact6 : ((Tryz.prog.stops == [])) = true := by kernel_rfl
theorem fact7 : ((Rows.fnSoftirqsBackRow.knobs == [])) = true := by kernel_rfl
theorem fact8 : ((Tryz.prog.stopKnobs == [])) = true := by kernel_rfl
theorem fact13 : ((Rows.fnSoftirqsBackRow.maps == (Tryz.f10.params.toList ++ Rows.fnSoftirqsBackSpec.plain.varTypes Tryz.prog).any (Tryz.prog.mapsRec ·))) = true := by kernel_rfl
theorem fact14 : ((Rows.fnSoftirqsBackRow.ifaces == (Tryz.f10.params.toList ++ Rows.fnSoftirqsBackSpec.plain.varTypes Tryz.prog).any (Tryz.prog.ifacesRec ·))) = true := by kernel_rfl
theorem fact15 : ((Rows.fnSoftirqsBackRow.mapsOut == Tryz.prog.mapsAmong Tryz.f10.resultTypes.toList)) = true := by kernel_rfl
theorem fact16 : ((Rows.fnSoftirqsBackRow.loops == (Tryz.f10.params.toList ++ Rows.fnSoftirqsBackSpec.plain.varTypes Tryz.prog).any (Tryz.prog.loopsFrom ·))) = true := by kernel_rfl
theorem fact17 : ((Rows.fnSoftirqsBackRow.wideKeys == (Tryz.f10.params.toList ++ Rows.fnSoftirqsBackSpec.plain.varTypes Tryz.prog ++ Tryz.f10.resultTypes.toList).any (Tryz.prog.wideKeysFrom ·))) = true := by kernel_rfl
theorem fact18 : (Rows.fnSoftirqsBackSpec.vars.all (Tryz.prog.varReadable ·)) = true := by kernel_rfl
theorem fact19 : (Tryz.f10.resultTypes.all (fun t => Tryz.prog.readableRec t && decide (t < Tryz.prog.types.size))) = true := by kernel_rfl
theorem fact20 : ((Rows.fnSoftirqsBackRow.ifacesOut == Tryz.f10.resultTypes.toList.any (Tryz.prog.ifacesRec ·))) = true := by kernel_rfl
theorem fact21 : ((Rows.fnSoftirqsBackRow.loopsOut == Tryz.f10.resultTypes.toList.any (Tryz.prog.loopsFrom ·))) = true := by kernel_rfl
theorem fact22 : ((Rows.fnSoftirqsBackRow.plainKeys == Tryz.prog.plainKeys)) = true := by kernel_rfl
theorem fact23 : (Rows.fnSoftirqsBackRow.shortTexts.isNone) = true := by kernel_rfl
theorem fact24 : (Tryz.prog.stopsHeard) = true := by kernel_rfl
theorem fact25 : (Tryz.prog.mayEnter) = true := by kernel_rfl
theorem fact26 : ((Rows.fnSoftirqsBackRow.lifted == Tryz.prog.liftsFinal)) = true := by kernel_rfl
theorem fact27 : ((Tryz.prog.make == some Rows.fnSoftirqsBackRow.make)) = true := by kernel_rfl
theorem fact28 : ((Rows.fnSoftirqsBackRow.kinds == (if Rows.fnSoftirqsBackRow.domain.isEmpty then [] else Tryz.f10.params.toList.map fun t => match Tryz.prog.underlying t with | some (.int k) => some k | _ => none))) = true := by kernel_rfl
theorem fact29 : ((Rows.fnSoftirqsBackRow.pinned == Rows.fnSoftirqsBackRow.pinnedBy)) = true := by kernel_rfl
theorem fact30 : ((Rows.fnSoftirqsBackRow.veiled == (Tryz.f10.params.toList ++ Rows.fnSoftirqsBackSpec.plain.varTypes Tryz.prog ++ Tryz.f10.resultTypes.toList).any (Tryz.prog.veiledRec ·))) = true := by kernel_rfl
theorem fact31 : (Rows.fnSoftirqsBackRow.veiledFits Tryz.prog Tryz.f10.params.toList (Tryz.f10.params.toList ++ Rows.fnSoftirqsBackSpec.plain.varTypes Tryz.prog ++ Tryz.f10.resultTypes.toList)) = true := by kernel_rfl
theorem closed : joinedFacts Tryz.prog 10 Tryz.f10 Rows.fnSoftirqsBackSpec Rows.fnSoftirqsBackRow = true := (and_true2 (and_true2 (and_true2 (and_true2 (and_true2 (and_true2 (and_true2 (and_true2 (and_true2 (and_true2 (and_true2 (and_true2 (and_true2 (and_true2 (and_true2 (and_true2 (and_true2 (and_true2 (and_true2 (and_true2 (and_true2 (and_true2 (and_true2 (and_true2 (and_true2 (and_true2 (and_true2 (and_true2 (and_true2 (and_true2 (and_true2 fact0 fact1) fact2) fact3) fact4) fact5) fact6) fact7) fact8) fact9) fact10) fact11) fact12) fact13) fact14) fact15) fact16) fact17) fact18) fact19) fact20) fact21) fact22) fact23) fact24) fact25) fact26) fact27) fact28) fact29) fact30) fact31)
end Go.Proofs.YtednjmngalmdkaaGreatDoor.fnSoftirqsBack
end
