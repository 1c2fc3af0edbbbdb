/- Texts of this claim, put together: LawFnASoftirqs. Conditions: as each one says. -/
import Derived.Test.YtednjmngalmdkaaGreatDoorKSq0
import Derived.Test.YtednjmngalmdkaaGreatDoorKSq1
import Derived.Test.YtednjmngalmdkaaGreatDoorKSq6
import Derived.Test.YtednjmngalmdkaaGreatDoorKSq7
import Derived.Test.YtednjmngalmdkaaGreatDoorKSq9
import Derived.Test.YtednjmngalmdkaaGreatDoorRows
import Derived.Test.YtednjmngalmdkaaGreatDoorCards
import Derived.Test.YtednjmngalmdkaaGreatDoorTie
import Derived.Lay
import Derived.MakeChecks
import Derived.WalkKit
import Derived.ProofKit
import Derived.OpenShut
import Derived.ShutString
import Derived.ChangeOld
import Derived.Below
import Derived.SizedLaws
import Derived.LaidMore
import Derived.SevenTiedAt
import Derived.Stop.Joined
section
/- What /proc/softirqs says, written in the documented form, is read as its tree.: the row of FnSoftirqsBack. No condition beyond the card's own. -/
namespace Go.Proofs.YtednjmngalmdkaaGreatDoor.fnSoftirqsBack
open Go.ChangeShapes Go.WideShapes Go.ChangeAt Go.RowKit
open Go.ChangeMaps (open_string shut_string)
set_option linter.unusedVariables false
theorem laidOut : laidOutB Tryz.prog = true := by kernel_rfl
theorem own : ownKnob Tryz.prog.godebug = none := by kernel_rfl
set_option maxRecDepth 100000 in
theorem lifted (os : Os) (started : os.Started) (H : Type) (enc : TypeId × Value → H) :
  ReturnsInHanded {} Tryz.checked os 10 .any (fun w args => (Rows.fnSoftirqsBackSpec.pre enc Tryz.prog Tryz.f10 [] false w args ∧ laidMetH Tryz.prog Rows.fnSoftirqsBackRow.laid w) ∧ sizedMet enc Tryz.prog Tryz.f10 (OpenSpec.ofChange Rows.fnSoftirqsBackSpec) false w args) (Rows.fnSoftirqsBackSpec.post enc Tryz.prog Tryz.f10 false true false false) := by
 refine returnsInHanded_of_change_and (C := Tryz.checked) (X := fun w _ => laidMetH Tryz.prog Rows.fnSoftirqsBackRow.laid w) (fun _ _ _ hh h => h.of_heap hh) own started (by kernel_rfl) Tryz.func10
  (ChangeSpec.witness_shaped (enc := enc) (C := Tryz.checked) (os := os) (X := fun w _ => laidMetH Tryz.prog Rows.fnSoftirqsBackRow.laid w) false (World.laidAll Tryz.prog os Rows.fnSoftirqsBackRow.laid) #[.slice none 0 0] 8 (World.laidAll_os _ _ _)
   (World.shaped_of_ZipB (by kernel_rfl) (by kernel_rfl)) (by kernel_rfl) (by kernel_rfl) (by kernel_rfl)
   (by rw [MakeChecks.laidMetH_plain _ _ _ (by kernel_rfl)]; exact laidMet_laidAll _ (by kernel_rfl) (by kernel_rfl))) ?_
 intro W base args ds gs before hval0 hW _ hsz0 hL _
 have hsz : (DataW.weightsEach Tryz.prog (Tryz.f10.params.toList ++ Rows.fnSoftirqsBackSpec.plain.varTypes Tryz.prog) (ds ++ gs)).all (· ≤ reachBytes) = true := hsz0
 have hval : ∀ (j : Nat) t v, Tryz.f10.params[j]? = some t → args[j]? = some v → Value.okWide Tryz.prog W .any base t v := hval0
 have hW' := hW
 obtain ⟨p, q, hA0, hV, rfl, hfz, hnd⟩ := hW
 have hA : DataW.TrodAll enc Tryz.prog W 0 (fun _ => true) true Tryz.f10.params.toList args.toList ds p := hA0
 rw [Tryz.params10] at hA hval hsz
 obtain ⟨v0, vs0, d0, ds0, p0, q0, hargs, rfl, rfl, h0, r0⟩ := trodAll_cons hA
 obtain ⟨rfl, rfl, rfl⟩ := trodAll_nil r0
 obtain rfl : args = #[v0] := by cases args; simp_all
 obtain ⟨rfl, rfl⟩ := trodVars_none hV
 obtain ⟨a0, len0, cap0, rfl⟩ := okWide_slice Tryz.underlying22 (hval 0 22 v0 rfl rfl)
 have k0 := h0
 have lt0 : ∀ x ∈ p0, x.block < W.heap.size := by obtain ⟨m, hm⟩ := k0; exact DataW.trod_lt m _ _ _ hm
 obtain ⟨l0, e0, g0, hmx, c0, q0⟩ : ∃ l : List GPC.S31, len0 = l.length ∧ l.length ≤ cap0 ∧ l.length ≤ maxLen ∧ Go.Proofs.YtednjmngalmdkaaGreatDoorW.PrintWords.Kd.C GPC.k31 W a0 l.length l ∧ ∀ r ∈ l, OP.RowOk r := by
  obtain ⟨fuel, hf⟩ := h0
  obtain ⟨A, c, xs, hcs, hl, hm, hC, hq⟩ := OP.slice_at OP.open31 Tryz.underlying22 hf
  simp [Value.cells] at hcs
  obtain ⟨rfl, rfl, rfl⟩ := hcs
  exact ⟨xs, rfl, hl, Nat.le_trans hl hm, hC, hq⟩
 subst e0
 clear hA0 hval0 hsz0 hsz
 rw [MakeChecks.laidMetH_plain _ _ _ (by kernel_rfl)] at hL
 have hT : GPC.TabW W := GPC.tabW_of hL (by simp [Rows.fnSoftirqsBackRow]) (by simp [Rows.fnSoftirqsBackRow]) (by simp [Rows.fnSoftirqsBackRow]) (by simp [Rows.fnSoftirqsBackRow])
 obtain ⟨kz, bz, hz, hok⟩ := GPC.plainSoftirqs l0 hmx q0
 refine (GPC.lawSoftirqs a0 cap0 l0 W c0 g0 hT kz bz hz hok).mono fun e W' ⟨he, bel⟩ => ?_
 subst he
 exact ⟨_, rfl, _, _, _, [], _, [], hW', trodAll_mk1 (shut_bool Tryz.underlying4 _), (trodAll_cons_mk (Below.trod laidOut (by kernel_rfl) (of_decide_eq_true (by kernel_rfl)) k0 bel lt0) trodAll_mk0), rfl, bel.frame _, fun h => by cases h⟩
theorem over : Rows.FnSoftirqsBackSaid :=
 OpenClaim.holds_of_wide 10 Tryz.f10 rfl rfl rfl rfl rfl rfl rfl ⟨rfl, rfl, rfl, rfl, rfl⟩ rfl rfl rfl rfl rfl (by kernel_rfl) Tryz.func10 closed
  (of_decide_eq_true (by kernel_rfl)) (by unfold Func.isWrapper; first | (rw [if_pos (by decide +kernel)]; kernel_rfl) | (rw [if_neg (by decide +kernel)]; exact ⟨rfl, rfl⟩))
  (fun os started H enc _ => lifted os started H enc)
end Go.Proofs.YtednjmngalmdkaaGreatDoor.fnSoftirqsBack
end
