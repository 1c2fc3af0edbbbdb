/- spec.hundredth: a number of hundredths as a float: the quotient as the model divides floats. No condition. -/
import Derived.Test.YtednjmngalmdkaaGreatDoorGPCx0
import Derived.Test.YtednjmngalmdkaaGreatDoorWCut
import Derived.Laws.FloatArith
namespace Go.Proofs.YtednjmngalmdkaaGreatDoor.GPC
open Go.RowKit Go.Proofs.YtednjmngalmdkaaGreatDoorW.PrintWords Go.Proofs.YtednjmngalmdkaaGreatDoorW.PrintLast
set_option linter.unusedVariables false
def spec_hundredth.f (a0 : Int) : Option Nat := floatBits .quo .f64 (floatOfInt .f64 a0) 4636737291354636288
set_option maxRecDepth 100000 in
theorem spec_hundredth.calls (a0 : Int) (r : Nat) (w : World) (h : spec_hundredth.f a0 = some r) : Calls Tryz.prog 55 #[.int .u64 a0] w fun e w' => e = .returned (.float .f64 r) ∧ Drawn0 w w' := by
  have hq := fun W => run_float_arith (P := Tryz.prog) W .quo 36 .f64 _ _ r h
  go_enter Tryz.func55, Tryz.ntmps55
  go_wp2
  go_ret
  exact ⟨rfl, Drawn0.refl _⟩
end Go.Proofs.YtednjmngalmdkaaGreatDoor.GPC
