/- Texts of this claim, put together: LawFnAUnitSame. Conditions: as each one says. -/
import Derived.Test.YtgnfapnnbcafbaaDoorKKUs0
import Derived.Test.YtgnfapnnbcafbaaDoorKKUs1
import Derived.Test.YtgnfapnnbcafbaaDoorKKUs3
import Derived.Test.YtgnfapnnbcafbaaDoorRows
import Derived.Test.YtgnfapnnbcafbaaDoorCards
import Derived.Test.YtgnfapnnbcafbaaDoorTie
import Derived.WalkKit
import Derived.ProofKit
import Derived.OpenShut
import Derived.ShutString
import Derived.ChangeOld
import Derived.Below
import Derived.SizedLaws
import Derived.LaidMore
import Derived.Lay
import Derived.MakeChecks
import Derived.SevenTiedAt
import Derived.Stop.Joined
section
/- Lists of options are identical if they are equal, and are not if an option is in one of them alone, or more often: the row of FnUnitSame. No condition beyond the card's own. -/
namespace Go.Proofs.YtgnfapnnbcafbaaDoor.fnUnitSame
open Go.ChangeShapes Go.WideShapes Go.ChangeAt Go.RowKit
open Go.ChangeMaps (open_string shut_string)
set_option linter.unusedVariables false
theorem laidOut : laidOutB Tryd.prog = true := by kernel_rfl
theorem own : ownKnob Tryd.prog.godebug = none := by kernel_rfl
set_option maxRecDepth 100000 in
theorem lifted (os : Os) (started : os.Started) (H : Type) (enc : TypeId × Value → H) :
  ReturnsInHanded {} Tryd.checked os 5 .any (fun w args => (Rows.fnUnitSameSpec.pre enc Tryd.prog Tryd.f5 [] false w args ∧ laidMetH Tryd.prog Rows.fnUnitSameRow.laid w) ∧ sizedMet enc Tryd.prog Tryd.f5 (OpenSpec.ofChange Rows.fnUnitSameSpec) false w args) (Rows.fnUnitSameSpec.post enc Tryd.prog Tryd.f5 false true false false) := by
 refine returnsInHanded_of_change_and (C := Tryd.checked) (X := fun w _ => laidMetH Tryd.prog Rows.fnUnitSameRow.laid w) (fun _ _ _ hh h => h.of_heap hh) own started (by kernel_rfl) Tryd.func5
  (ChangeSpec.witness_shaped (enc := enc) (C := Tryd.checked) (os := os) (X := fun w _ => laidMetH Tryd.prog Rows.fnUnitSameRow.laid w) false (World.laidAll Tryd.prog os Rows.fnUnitSameRow.laid) #[.slice none 0 0, .slice none 0 0] 8 (World.laidAll_os _ _ _) (World.shaped_of_ZipB (by kernel_rfl) (by kernel_rfl)) (by kernel_rfl) (by kernel_rfl) (by kernel_rfl) (by rw [MakeChecks.laidMetH_plain _ _ _ (by kernel_rfl)]; exact laidMet_laidAll _ (by kernel_rfl) (by kernel_rfl))) ?_
 intro W base args ds gs before hval0 hW _ hsz0 hL _
 have hsz : (DataW.weightsEach Tryd.prog (Tryd.f5.params.toList ++ Rows.fnUnitSameSpec.plain.varTypes Tryd.prog) (ds ++ gs)).all (· ≤ reachBytes) = true := hsz0
 have hval : ∀ (j : Nat) t v, Tryd.f5.params[j]? = some t → args[j]? = some v → Value.okWide Tryd.prog W .any base t v := hval0
 have hW' := hW
 obtain ⟨p, q, hA0, hV, rfl, hfz, hnd⟩ := hW
 have hA : DataW.TrodAll enc Tryd.prog W 0 (fun _ => true) true Tryd.f5.params.toList args.toList ds p := hA0
 rw [Tryd.params5] at hA hval hsz
 obtain ⟨v0, vs0, d0, ds0, p0, q0, hargs, rfl, rfl, h0, r0⟩ := trodAll_cons hA
 obtain ⟨v1, vs1, d1, ds1, p1, q1, rfl, rfl, rfl, h1, r1⟩ := trodAll_cons r0
 obtain ⟨rfl, rfl, rfl⟩ := trodAll_nil r1
 obtain rfl : args = #[v0, v1] := by cases args; simp_all
 obtain ⟨rfl, rfl⟩ := trodVars_none hV
 obtain ⟨a0, len0, cap0, rfl⟩ := okWide_slice Tryd.underlying27 (hval 0 27 v0 rfl rfl)
 have k0 := h0
 have lt0 : ∀ x ∈ p0, x.block < W.heap.size := by obtain ⟨m, hm⟩ := k0; exact DataW.trod_lt m _ _ _ hm
 obtain ⟨l0, e0, g0, c0⟩ : ∃ l : List GUL.S30, len0 = l.length ∧ l.length ≤ cap0 ∧ Go.Proofs.YtgnfapnnbcafbaaDoorW.PrintWords.Kd.C GUL.k30 W a0 l.length l := by
  obtain ⟨fuel, hf⟩ := h0
  obtain ⟨A, c, xs, hcs, hl, _, hC, _⟩ := OP.slice_at OP.open30 Tryd.underlying27 hf
  simp [Value.cells] at hcs
  obtain ⟨rfl, rfl, rfl⟩ := hcs
  exact ⟨xs, rfl, hl, hC⟩
 subst e0
 obtain ⟨a1, len1, cap1, rfl⟩ := okWide_slice Tryd.underlying27 (hval 1 27 v1 rfl rfl)
 have k1 := h1
 have lt1 : ∀ x ∈ p1, x.block < W.heap.size := by obtain ⟨m, hm⟩ := k1; exact DataW.trod_lt m _ _ _ hm
 obtain ⟨l1, e1, g1, c1⟩ : ∃ l : List GUL.S30, len1 = l.length ∧ l.length ≤ cap1 ∧ Go.Proofs.YtgnfapnnbcafbaaDoorW.PrintWords.Kd.C GUL.k30 W a1 l.length l := by
  obtain ⟨fuel, hf⟩ := h1
  obtain ⟨A, c, xs, hcs, hl, _, hC, _⟩ := OP.slice_at OP.open30 Tryd.underlying27 hf
  simp [Value.cells] at hcs
  obtain ⟨rfl, rfl, rfl⟩ := hcs
  exact ⟨xs, rfl, hl, hC⟩
 subst e1
 clear hA0 hval0 hsz0 hsz
 rw [MakeChecks.laidMetH_plain _ _ _ (by kernel_rfl)] at hL
 have hT : GUL.TabW W := UN.utab_of hL (by simp [Rows.fnUnitSameRow]) (by simp [Rows.fnUnitSameRow]) (by simp [Rows.fnUnitSameRow]) (by simp [Rows.fnUnitSameRow]) (by simp [Rows.fnUnitSameRow])
 obtain ⟨rounds, hrun⟩ := (GUL.same_pure l0 l1).rounds
 refine (GUL.laws_FnUnitSame.calls rounds a0 cap0 l0 a1 cap1 l1 true W c0 g0 c1 g1 hT hrun).mono fun e W' ⟨he, bel⟩ => ?_
 subst he
 exact ⟨_, rfl, _, _, _, [], _, [], hW', trodAll_mk1 (shut_bool Tryd.underlying4 _), (trodAll_cons_mk (Below.trod laidOut (by kernel_rfl) (of_decide_eq_true (by kernel_rfl)) k0 bel lt0) (trodAll_cons_mk (Below.trod laidOut (by kernel_rfl) (of_decide_eq_true (by kernel_rfl)) k1 bel lt1) trodAll_mk0)), rfl, bel.frame _, fun h => by cases h⟩
theorem over : Rows.FnUnitSameSaid :=
 OpenClaim.holds_of_wide 5 Tryd.f5 rfl rfl rfl rfl rfl rfl rfl ⟨rfl, rfl, rfl, rfl, rfl⟩ rfl rfl rfl rfl rfl (by kernel_rfl) Tryd.func5 (by kernel_rfl)
  (of_decide_eq_true (by kernel_rfl)) (by unfold Func.isWrapper; first | (rw [if_pos (by decide +kernel)]; kernel_rfl) | (rw [if_neg (by decide +kernel)]; exact ⟨rfl, rfl⟩))
  (fun os started H enc _ => lifted os started H enc)
end Go.Proofs.YtgnfapnnbcafbaaDoor.fnUnitSame
end
