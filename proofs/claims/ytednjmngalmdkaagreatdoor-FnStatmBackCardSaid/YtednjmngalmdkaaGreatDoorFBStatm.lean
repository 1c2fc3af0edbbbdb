/- Closed facts of the row of FnStatmBack, the second part, and all of them. No condition. -/
import Derived.Test.YtednjmngalmdkaaGreatDoorFAStatm
import Derived.Test.YtednjmngalmdkaaGreatDoorRows
import Derived.Test.YtednjmngalmdkaaGreatDoorChecked
import Derived.JoinedOf
import Derived.KernelRfl
namespace Go.Proofs.YtednjmngalmdkaaGreatDoor.fnStatmBack
open Go
set_option maxRecDepth 100000
theorem and_true2 {a b : Bool} (ha : a = true) (hb : b = true) : (a && b) = true := by rw [ha, hb]; rfl
theorem fact1 : (laidOutB Tryz.prog) = true := by kernel_rfl
theorem fact3 : (Tryz.f5.params.all (Tryz.prog.readableRec ·)) = true := by kernel_rfl
theorem fact4 : (namedTie Tryz.prog Rows.fnStatmBackRow.named Rows.fnStatmBackSpec.vars) = true := by kernel_rfl
theorem fact5 : ((Rows.fnStatmBackRow.stops == [])) = true := by kernel_rfl
theorem fact6 : ((Tryz.prog.stops == [])) = true := by kernel_rfl
theorem fact7 : ((Rows.fnStatmBackRow.knobs == [])) = true := by kernel_rfl
theorem fact8 : ((Tryz.prog.stopKnobs == [])) = true := by kernel_rfl
theorem fact13 : ((Rows.fnStatmBackRow.maps == (Tryz.f5.params.toList ++ Rows.fnStatmBackSpec.plain.varTypes Tryz.prog).any (Tryz.prog.mapsRec ·))) = true := by kernel_rfl
theorem fact14 : ((Rows.fnStatmBackRow.ifaces == (Tryz.f5.params.toList ++ Rows.fnStatmBackSpec.plain.varTypes Tryz.prog).any (Tryz.prog.ifacesRec ·))) = true := by kernel_rfl
theorem fact15 : ((Rows.fnStatmBackRow.mapsOut == Tryz.prog.mapsAmong Tryz.f5.resultTypes.toList)) = true := by kernel_rfl
theorem fact16 : ((Rows.fnStatmBackRow.loops == (Tryz.f5.params.toList ++ Rows.fnStatmBackSpec.plain.varTypes Tryz.prog).any (Tryz.prog.loopsFrom ·))) = true := by kernel_rfl
theorem fact17 : ((Rows.fnStatmBackRow.wideKeys == (Tryz.f5.params.toList ++ Rows.fnStatmBackSpec.plain.varTypes Tryz.prog ++ Tryz.f5.resultTypes.toList).any (Tryz.prog.wideKeysFrom ·))) = true := by kernel_rfl
theorem fact18 : (Rows.fnStatmBackSpec.vars.all (Tryz.prog.varReadable ·)) = true := by kernel_rfl
theorem fact19 : (Tryz.f5.resultTypes.all (fun t => Tryz.prog.readableRec t && decide (t < Tryz.prog.types.size))) = true := by kernel_rfl
theorem fact20 : ((Rows.fnStatmBackRow.ifacesOut == Tryz.f5.resultTypes.toList.any (Tryz.prog.ifacesRec ·))) = true := by kernel_rfl
theorem fact21 : ((Rows.fnStatmBackRow.loopsOut == Tryz.f5.resultTypes.toList.any (Tryz.prog.loopsFrom ·))) = true := by kernel_rfl
theorem fact22 : ((Rows.fnStatmBackRow.plainKeys == Tryz.prog.plainKeys)) = true := by kernel_rfl
theorem fact23 : (Rows.fnStatmBackRow.shortTexts.isNone) = true := by kernel_rfl
theorem fact24 : (Tryz.prog.stopsHeard) = true := by kernel_rfl
theorem fact25 : (Tryz.prog.mayEnter) = true := by kernel_rfl
theorem fact26 : ((Rows.fnStatmBackRow.lifted == Tryz.prog.liftsFinal)) = true := by kernel_rfl
theorem fact27 : ((Tryz.prog.make == some Rows.fnStatmBackRow.make)) = true := by kernel_rfl
theorem fact28 : ((Rows.fnStatmBackRow.kinds == (if Rows.fnStatmBackRow.domain.isEmpty then [] else Tryz.f5.params.toList.map fun t => match Tryz.prog.underlying t with | some (.int k) => some k | _ => none))) = true := by kernel_rfl
theorem fact29 : ((Rows.fnStatmBackRow.pinned == Rows.fnStatmBackRow.pinnedBy)) = true := by kernel_rfl
theorem fact30 : ((Rows.fnStatmBackRow.veiled == (Tryz.f5.params.toList ++ Rows.fnStatmBackSpec.plain.varTypes Tryz.prog ++ Tryz.f5.resultTypes.toList).any (Tryz.prog.veiledRec ·))) = true := by kernel_rfl
theorem fact31 : (Rows.fnStatmBackRow.veiledFits Tryz.prog Tryz.f5.params.toList (Tryz.f5.params.toList ++ Rows.fnStatmBackSpec.plain.varTypes Tryz.prog ++ Tryz.f5.resultTypes.toList)) = true := by kernel_rfl
theorem closed : joinedFacts Tryz.prog 5 Tryz.f5 Rows.fnStatmBackSpec Rows.fnStatmBackRow = true := (and_true2 (and_true2 (and_true2 (and_true2 (and_true2 (and_true2 (and_true2 (and_true2 (and_true2 (and_true2 (and_true2 (and_true2 (and_true2 (and_true2 (and_true2 (and_true2 (and_true2 (and_true2 (and_true2 (and_true2 (and_true2 (and_true2 (and_true2 (and_true2 (and_true2 (and_true2 (and_true2 (and_true2 (and_true2 (and_true2 (and_true2 fact0 fact1) fact2) fact3) fact4) fact5) fact6) fact7) fact8) fact9) fact10) fact11) fact12) fact13) fact14) fact15) fact16) fact17) fact18) fact19) fact20) fact21) fact22) fact23) fact24) fact25) fact26) fact27) fact28) fact29) fact30) fact31)
end Go.Proofs.YtednjmngalmdkaaGreatDoor.fnStatmBack
