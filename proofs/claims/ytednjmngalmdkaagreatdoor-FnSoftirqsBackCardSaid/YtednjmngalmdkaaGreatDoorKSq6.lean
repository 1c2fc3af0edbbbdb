/- Texts of this claim, put together: GPRx2, GPRx3, BackSoftirqs, LwSoftirqs, PlNode, PNum, PlBase, PlFit, PlFlt, PlNums, PlLines, PlGen, PlWords, PlSq1, PlSq2. Conditions: as each one says. -/
import Derived.Test.YtednjmngalmdkaaGreatDoorKSq0
import Derived.Test.YtednjmngalmdkaaGreatDoorKSq1
import Derived.Test.YtednjmngalmdkaaGreatDoorKSq2
import Derived.Test.YtednjmngalmdkaaGreatDoorKSq4
import Derived.Test.YtednjmngalmdkaaGreatDoorKSq5
import Derived.Deep.RegionHeld3
import Derived.Laws.FloatArith
import Derived.Test.YtednjmngalmdkaaGreatDoorProg
import Derived.Below
import Derived.Deep.Draws
import Derived.Deep.AppendLies
import Derived.Maps.AppendAt
import Derived.OwnWalk
import Derived.Laws.BytesArg
import Derived.Laws.MakeOwn
import Derived.Laws.OwnMore
import Derived.Deep.OwnRows
import Derived.Tactics
import Derived.Lib.ConvBytes
import Derived.Laws.Slices
import Derived.WalkKit
import Derived.KernelRfl
import Derived.RowKit3
import Derived.Deep.LoopGhost
import Derived.Deep.QuietTactic
import Derived.BigQuiet
import Derived.WideLaws
import Derived.Deep.DeepCutAuto
import Derived.Deep.CutBlock
import Derived.Laws.Rows
import Derived.Lib.AppendStr
import Derived.ArgAppend
import Derived.Laws.IdiomCopy
import Derived.OrdersHeld
import Derived.Laws.BitsLemmas
import Derived.RowKit
import Derived.Laws.Strings
section
namespace Go.Proofs.YtednjmngalmdkaaGreatDoor.GPC
open Go.RowKit Go.Proofs.YtednjmngalmdkaaGreatDoorW.PrintWords Go.Proofs.YtednjmngalmdkaaGreatDoorW.PrintLast Go.Proofs.YtednjmngalmdkaaGreatDoorW.PrintMore
attribute [local go_sem] max2_int min2_int max_two min_two max_three min_three max_four min_four   -- for this text's walks alone
set_option linter.unusedVariables false
set_option linter.unusedSimpArgs false

attribute [local go_sem] run_store_float
/-! ### spec_SoftirqsPrint: function 36 -/
mutual
def spec_SoftirqsPrint.l0 : Nat → List (S31) → List (S136) → ByteArray → Int → Int → Option (ByteArray × Int)
 | 0, _, _, _, _, _ => none
 | k + 1, x0, x4, x5, x21, x22 => if x22 < x21 then ((spec_Text.f k (IntKind.u64.wrap (x22))).bind fun t116 => (if 3 + t116.size ≤ 9223372036854775807 then ((spec_Left.f k ((⟨#[67, 80, 85]⟩ : ByteArray) ++ t116) 11).bind fun t117 => (if x5.size + t117.size ≤ 9223372036854775807 then (spec_SoftirqsPrint.l0 k x0 x4 (x5 ++ t117) x21 (wrap64 (x22 + 1))) else (none))) else (none))) else (if x5.size + 1 ≤ 9223372036854775807 then (spec_SoftirqsPrint.l1 k x0 x4 (x5 ++ (⟨#[10]⟩ : ByteArray)) x0 (x0.length : Int) 0) else (none))
def spec_SoftirqsPrint.l1 : Nat → List (S31) → List (S136) → ByteArray → List (S31) → Int → Int → Option (ByteArray × Int)
 | 0, _, _, _, _, _, _ => none
 | k + 1, x0, x4, x5, x35, x36, x37 => if x37 < x36 then (if 0 ≤ x37 then (if x37 < (x35.length : Int) then (if x37 < (x4.length : Int) then (if ((rd_T31 x35 x37).f0).toList = ((rd_T136 x4 x37).f1).toList then (if (((rd_T31 x35 x37).f2).length : Int) > 0 then (spec_SoftirqsPrint.j2 k x0 x4 x5 x35 x36 x37 true ((rd_T31 x35 x37).f0) ((rd_T31 x35 x37).f1) ((rd_T31 x35 x37).f2)) else (if (((rd_T31 x35 x37).f1).length : Int) < 1 then (spec_SoftirqsPrint.j2 k x0 x4 x5 x35 x36 x37 true ((rd_T31 x35 x37).f0) ((rd_T31 x35 x37).f1) ((rd_T31 x35 x37).f2)) else (if 0 < (x0.length : Int) then (spec_SoftirqsPrint.j2 k x0 x4 x5 x35 x36 x37 ((((rd_T31 x35 x37).f1).length : Int) != (((rd_T31 x0 0).f1).length : Int)) ((rd_T31 x35 x37).f0) ((rd_T31 x35 x37).f1) ((rd_T31 x35 x37).f2)) else (none)))) else (spec_SoftirqsPrint.j2 k x0 x4 x5 x35 x36 x37 true ((rd_T31 x35 x37).f0) ((rd_T31 x35 x37).f1) ((rd_T31 x35 x37).f2))) else (none)) else (none)) else (none)) else (some (x5, 1))
def spec_SoftirqsPrint.j2 : Nat → List (S31) → List (S136) → ByteArray → List (S31) → Int → Int → Bool → ByteArray → List Int → List ByteArray → Option (ByteArray × Int)
 | 0, _, _, _, _, _, _, _, _, _, _ => none
 | k + 1, x0, x4, x5, x35, x36, x37, x72, x120000, x120001, x120002 => if x72 = true then (some ((⟨#[]⟩ : ByteArray), 2)) else ((spec_Right.f k x120000 12).bind fun t122 => (if t122.size + 1 ≤ 9223372036854775807 then (if x5.size + (t122 ++ (⟨#[58]⟩ : ByteArray)).size ≤ 9223372036854775807 then (spec_SoftirqsPrint.l2 k x0 x4 (x5 ++ (t122 ++ (⟨#[58]⟩ : ByteArray))) x35 x36 x37 x120001 (x120001.length : Int) 0) else (none)) else (none)))
def spec_SoftirqsPrint.l2 : Nat → List (S31) → List (S136) → ByteArray → List (S31) → Int → Int → List Int → Int → Int → Option (ByteArray × Int)
 | 0, _, _, _, _, _, _, _, _, _ => none
 | k + 1, x0, x4, x5, x35, x36, x37, x80, x81, x82 => if x82 < x81 then (if 0 ≤ x82 then (if x82 < (x80.length : Int) then ((spec_Text.f k (rd x80 x82)).bind fun t124 => ((spec_Right.f k t124 10).bind fun t125 => (if 1 + t125.size ≤ 9223372036854775807 then (if x5.size + ((⟨#[32]⟩ : ByteArray) ++ t125).size ≤ 9223372036854775807 then (spec_SoftirqsPrint.l2 k x0 x4 (x5 ++ ((⟨#[32]⟩ : ByteArray) ++ t125)) x35 x36 x37 x80 x81 (wrap64 (x82 + 1))) else (none)) else (none)))) else (none)) else (none)) else (if x5.size + 1 ≤ 9223372036854775807 then (spec_SoftirqsPrint.l1 k x0 x4 (x5 ++ (⟨#[10]⟩ : ByteArray)) x35 x36 (wrap64 (x37 + 1))) else (none))
end
def spec_SoftirqsPrint.f (k : Nat) (l0 : List (S31)) : Option (ByteArray × Int) := (spec_softNames.f).bind fun t112 => (if (l0.length : Int) = (t112.length : Int) then (if 0 < (l0.length : Int) then (spec_SoftirqsPrint.l0 k l0 t112 (⟨#[32, 32, 32, 32, 32, 32, 32, 32, 32, 32, 32, 32, 32, 32, 32, 32, 32, 32, 32, 32]⟩ : ByteArray) (((rd_T31 l0 0).f1).length : Int) 0) else (none)) else (some ((⟨#[]⟩ : ByteArray), 2)))
theorem spec_SoftirqsPrint.mono_l : ∀ k, (∀ y0 y1 y2 y3 y4, LeO (spec_SoftirqsPrint.l0 k y0 y1 y2 y3 y4) (spec_SoftirqsPrint.l0 (k + 1) y0 y1 y2 y3 y4)) ∧ (∀ y0 y1 y2 y3 y4 y5, LeO (spec_SoftirqsPrint.l1 k y0 y1 y2 y3 y4 y5) (spec_SoftirqsPrint.l1 (k + 1) y0 y1 y2 y3 y4 y5)) ∧ (∀ y0 y1 y2 y3 y4 y5 y6 y7 y8 y9, LeO (spec_SoftirqsPrint.j2 k y0 y1 y2 y3 y4 y5 y6 y7 y8 y9) (spec_SoftirqsPrint.j2 (k + 1) y0 y1 y2 y3 y4 y5 y6 y7 y8 y9)) ∧ (∀ y0 y1 y2 y3 y4 y5 y6 y7 y8, LeO (spec_SoftirqsPrint.l2 k y0 y1 y2 y3 y4 y5 y6 y7 y8) (spec_SoftirqsPrint.l2 (k + 1) y0 y1 y2 y3 y4 y5 y6 y7 y8))
 | 0 => ⟨fun _ _ _ _ _ r h => by simp [spec_SoftirqsPrint.l0] at h, fun _ _ _ _ _ _ r h => by simp [spec_SoftirqsPrint.l1] at h, fun _ _ _ _ _ _ _ _ _ _ r h => by simp [spec_SoftirqsPrint.j2] at h, fun _ _ _ _ _ _ _ _ _ r h => by simp [spec_SoftirqsPrint.l2] at h⟩
 | k + 1 => by
  obtain ⟨ih0, ih1, ih2, ih3⟩ := spec_SoftirqsPrint.mono_l k
  refine ⟨?_, ?_, ?_, ?_⟩
  ·intro y0 y1 y2 y3 y4
   unfold spec_SoftirqsPrint.l0
   repeat' first
   | (with_reducible exact ih0 _ _ _ _ _)
   | (with_reducible exact ih1 _ _ _ _ _ _)
   | (with_reducible exact ih2 _ _ _ _ _ _ _ _ _ _)
   | (with_reducible exact ih3 _ _ _ _ _ _ _ _ _)
   | (with_reducible exact spec_Left.mono _ _ _)
   | (with_reducible exact spec_Right.mono _ _ _)
   | (with_reducible exact spec_Text.mono _ _)
   | (with_reducible exact LeO.refl _)
   | (with_reducible exact LeO.none _)
   | (with_reducible refine LeO.ite ?_ ?_)
   | (with_reducible refine LeO.bind ?_ (fun _ => ?_))
   | exact ih0 _ _ _ _ _
   | exact ih1 _ _ _ _ _ _
   | exact ih2 _ _ _ _ _ _ _ _ _ _
   | exact ih3 _ _ _ _ _ _ _ _ _
   | exact spec_Left.mono _ _ _
   | exact spec_Right.mono _ _ _
   | exact spec_Text.mono _ _
   | exact LeO.none _
   | refine LeO.ite ?_ ?_
   | refine LeO.bind ?_ (fun _ => ?_)
  ·intro y0 y1 y2 y3 y4 y5
   unfold spec_SoftirqsPrint.l1
   repeat' first
   | (with_reducible exact ih0 _ _ _ _ _)
   | (with_reducible exact ih1 _ _ _ _ _ _)
   | (with_reducible exact ih2 _ _ _ _ _ _ _ _ _ _)
   | (with_reducible exact ih3 _ _ _ _ _ _ _ _ _)
   | (with_reducible exact spec_Left.mono _ _ _)
   | (with_reducible exact spec_Right.mono _ _ _)
   | (with_reducible exact spec_Text.mono _ _)
   | (with_reducible exact LeO.refl _)
   | (with_reducible exact LeO.none _)
   | (with_reducible refine LeO.ite ?_ ?_)
   | (with_reducible refine LeO.bind ?_ (fun _ => ?_))
   | exact ih0 _ _ _ _ _
   | exact ih1 _ _ _ _ _ _
   | exact ih2 _ _ _ _ _ _ _ _ _ _
   | exact ih3 _ _ _ _ _ _ _ _ _
   | exact spec_Left.mono _ _ _
   | exact spec_Right.mono _ _ _
   | exact spec_Text.mono _ _
   | exact LeO.none _
   | refine LeO.ite ?_ ?_
   | refine LeO.bind ?_ (fun _ => ?_)
  ·intro y0 y1 y2 y3 y4 y5 y6 y7 y8 y9
   unfold spec_SoftirqsPrint.j2
   repeat' first
   | (with_reducible exact ih0 _ _ _ _ _)
   | (with_reducible exact ih1 _ _ _ _ _ _)
   | (with_reducible exact ih2 _ _ _ _ _ _ _ _ _ _)
   | (with_reducible exact ih3 _ _ _ _ _ _ _ _ _)
   | (with_reducible exact spec_Left.mono _ _ _)
   | (with_reducible exact spec_Right.mono _ _ _)
   | (with_reducible exact spec_Text.mono _ _)
   | (with_reducible exact LeO.refl _)
   | (with_reducible exact LeO.none _)
   | (with_reducible refine LeO.ite ?_ ?_)
   | (with_reducible refine LeO.bind ?_ (fun _ => ?_))
   | exact ih0 _ _ _ _ _
   | exact ih1 _ _ _ _ _ _
   | exact ih2 _ _ _ _ _ _ _ _ _ _
   | exact ih3 _ _ _ _ _ _ _ _ _
   | exact spec_Left.mono _ _ _
   | exact spec_Right.mono _ _ _
   | exact spec_Text.mono _ _
   | exact LeO.none _
   | refine LeO.ite ?_ ?_
   | refine LeO.bind ?_ (fun _ => ?_)
  ·intro y0 y1 y2 y3 y4 y5 y6 y7 y8
   unfold spec_SoftirqsPrint.l2
   repeat' first
   | (with_reducible exact ih0 _ _ _ _ _)
   | (with_reducible exact ih1 _ _ _ _ _ _)
   | (with_reducible exact ih2 _ _ _ _ _ _ _ _ _ _)
   | (with_reducible exact ih3 _ _ _ _ _ _ _ _ _)
   | (with_reducible exact spec_Left.mono _ _ _)
   | (with_reducible exact spec_Right.mono _ _ _)
   | (with_reducible exact spec_Text.mono _ _)
   | (with_reducible exact LeO.refl _)
   | (with_reducible exact LeO.none _)
   | (with_reducible refine LeO.ite ?_ ?_)
   | (with_reducible refine LeO.bind ?_ (fun _ => ?_))
   | exact ih0 _ _ _ _ _
   | exact ih1 _ _ _ _ _ _
   | exact ih2 _ _ _ _ _ _ _ _ _ _
   | exact ih3 _ _ _ _ _ _ _ _ _
   | exact spec_Left.mono _ _ _
   | exact spec_Right.mono _ _ _
   | exact spec_Text.mono _ _
   | exact LeO.none _
   | refine LeO.ite ?_ ?_
   | refine LeO.bind ?_ (fun _ => ?_)
theorem spec_SoftirqsPrint.mono : ∀ a0 k, LeO (spec_SoftirqsPrint.f k a0) (spec_SoftirqsPrint.f (k + 1) a0) := by
 intro a0 k
 obtain ⟨ih0, ih1, ih2, ih3⟩ := spec_SoftirqsPrint.mono_l k
 unfold spec_SoftirqsPrint.f
 repeat' first
   | (with_reducible exact ih0 _ _ _ _ _)
   | (with_reducible exact ih1 _ _ _ _ _ _)
   | (with_reducible exact ih2 _ _ _ _ _ _ _ _ _ _)
   | (with_reducible exact ih3 _ _ _ _ _ _ _ _ _)
   | (with_reducible exact spec_Left.mono _ _ _)
   | (with_reducible exact spec_Right.mono _ _ _)
   | (with_reducible exact spec_Text.mono _ _)
   | (with_reducible exact LeO.refl _)
   | (with_reducible exact LeO.none _)
   | (with_reducible refine LeO.ite ?_ ?_)
   | (with_reducible refine LeO.bind ?_ (fun _ => ?_))
   | exact ih0 _ _ _ _ _
   | exact ih1 _ _ _ _ _ _
   | exact ih2 _ _ _ _ _ _ _ _ _ _
   | exact ih3 _ _ _ _ _ _ _ _ _
   | exact spec_Left.mono _ _ _
   | exact spec_Right.mono _ _ _
   | exact spec_Text.mono _ _
   | exact LeO.none _
   | refine LeO.ite ?_ ?_
   | refine LeO.bind ?_ (fun _ => ?_)
set_option maxHeartbeats 8000000 in
set_option maxRecDepth 100000 in
theorem spec_SoftirqsPrint.calls (k : Nat) (A0 : Option Addr) (c0 : Nat) (l0 : List (S31)) (r1 : ByteArray) (r2 : Int) (w : World) (hr0 : Kd.C k31 w A0 l0.length l0) (hc0 : l0.length ≤ c0) (h : spec_SoftirqsPrint.f k l0 = some (r1, r2)) :
  Calls Tryz.prog 36 #[.slice A0 l0.length c0] w fun e w' => e = .returned (.tuple #[.string r1, .int .i64 r2]) ∧ Below w.heap.size w w' := by
 have hu31 := Tryz.underlying31
 have HR0 := Aside0.mk hr0
 have HC0 := Aside0.mk hc0
 clear hr0 hc0
 have HB := Aside0.mk (Below.refl w.heap.size w)
 have H : ((spec_softNames.f).bind fun t112 => (if (l0.length : Int) = (t112.length : Int) then (if 0 < (l0.length : Int) then (spec_SoftirqsPrint.l0 k l0 t112 (⟨#[32, 32, 32, 32, 32, 32, 32, 32, 32, 32, 32, 32, 32, 32, 32, 32, 32, 32, 32, 32]⟩ : ByteArray) (((rd_T31 l0 0).f1).length : Int) 0) else (none)) else (some ((⟨#[]⟩ : ByteArray), 2)))) = some (r1, r2) := h
 clear h
 replace H := Option.bind_eq_some_iff.mp H
 obtain ⟨t112, A20, H⟩ := H
 try dsimp -simprocs only at H
 have A2 := Aside0.mk A20
 clear A20
 by_cases c3 : (l0.length : Int) = (t112.length : Int)
 ·rw [if_pos c3] at H
  have c3b0 : ((l0.length : Int) == (t112.length : Int)) = true := beq_iff_eq.mpr c3
  have c3b1 : ((l0.length : Int) != (t112.length : Int)) = false := bne_eq_false_iff_eq.mpr c3
  have c3b2 : (l0.length == t112.length) = true := by first | simpa using c3 | (simp at c3 ⊢; omega)
  clear c3
  replace H := guard_inv H
  obtain ⟨c4, H⟩ := H
  have c4b0 : decide (0 < (l0.length : Int)) = true := decide_eq_true c4
  have c4b1 : decide (0 < l0.length) = true := decide_eq_true (by omega)
  clear c4
  have H' := Aside0.mk H
  clear H
  go_enter Tryz.func36, Tryz.ntmps36
  go_wp2_with (first | (go_at_call 114; (with_reducible refine (spec_softNames.calls  t112 _ A2.out).mono ?_); rintro e w5 ⟨v113, rfl, ho0, hb⟩; have n0_ := Aside0.mk (Kd.R_lower ho0 (below_size (by repeat (first | (with_reducible first | exact HB.out | apply below_alloc | apply pw_below_drewN | apply below_drew1) | exact HB.out)))); have n1_ := Aside0.mk (below_step (by repeat (first | (with_reducible first | exact HB.out | apply below_alloc | apply pw_below_drewN | apply below_drew1) | exact HB.out)) hb); clear HB; have HO114 := n0_; have HB := n1_; clear n0_ n1_; (try clear hb); (try clear hb2); (try clear hk); (try clear hi); (try clear ho0); obtain ⟨Ao6, co6, eo6⟩ := Kd.R_slice HO114.out; subst eo6; have p115 : 0 ≤ (0 : Int) := (by omega); have q115 : 0 < (l0.length : Int) := of_decide_eq_true (by first | (with_reducible assumption) | assumption); obtain ⟨ad115, A115_1, c115_1, A115_2, c115_2, e115, hx115_0, hx115_1, hx115_2, hl115_1, hi115_1, hl115_2, hi115_2⟩ := at_T31 HR0.out 0 p115 q115; cases e115; have qi115 : (0 < l0.length) = True := eq_true (by omega); (try rw [show ((0 : Int)).toNat = 0 from rfl] at hx115_0); (try rw [show 0 * 3 = 0 from rfl] at hx115_0); (try rw [Addr.add_zero'] at hx115_0); (try rw [show ((0 : Int)).toNat = 0 from rfl] at hx115_1); (try rw [show 0 * 3 = 0 from rfl] at hx115_1); (try rw [Addr.add_zero'] at hx115_1); (try rw [show ((0 : Int)).toNat = 0 from rfl] at hx115_2); (try rw [show 0 * 3 = 0 from rfl] at hx115_2); (try rw [Addr.add_zero'] at hx115_2); replace hx115_0 := (HB.out.cell (World.block_lt_of_cell? w _ hx115_0)).trans hx115_0; replace hx115_1 := (HB.out.cell (World.block_lt_of_cell? w _ hx115_1)).trans hx115_1; replace hx115_2 := (HB.out.cell (World.block_lt_of_cell? w _ hx115_2)).trans hx115_2; have HR115_1 := Aside0.mk hi115_1; have HC115_1 := Aside0.mk hl115_1; clear hi115_1 hl115_1; have HR115_2 := Aside0.mk hi115_2; have HC115_2 := Aside0.mk hl115_2; clear hi115_2 hl115_2; replace p115 := eq_true p115; replace q115 := eq_true q115))
  repeat (go_quiet (first | (go_at_call 114; (with_reducible refine (spec_softNames.calls  t112 _ A2.out).mono ?_); rintro e w5 ⟨v113, rfl, ho0, hb⟩; have n0_ := Aside0.mk (Kd.R_lower ho0 (below_size (by repeat (first | (with_reducible first | exact HB.out | apply below_alloc | apply pw_below_drewN | apply below_drew1) | exact HB.out)))); have n1_ := Aside0.mk (below_step (by repeat (first | (with_reducible first | exact HB.out | apply below_alloc | apply pw_below_drewN | apply below_drew1) | exact HB.out)) hb); clear HB; have HO114 := n0_; have HB := n1_; clear n0_ n1_; (try clear hb); (try clear hb2); (try clear hk); (try clear hi); (try clear ho0); obtain ⟨Ao6, co6, eo6⟩ := Kd.R_slice HO114.out; subst eo6; have p115 : 0 ≤ (0 : Int) := (by omega); have q115 : 0 < (l0.length : Int) := of_decide_eq_true (by first | (with_reducible assumption) | assumption); obtain ⟨ad115, A115_1, c115_1, A115_2, c115_2, e115, hx115_0, hx115_1, hx115_2, hl115_1, hi115_1, hl115_2, hi115_2⟩ := at_T31 HR0.out 0 p115 q115; cases e115; have qi115 : (0 < l0.length) = True := eq_true (by omega); (try rw [show ((0 : Int)).toNat = 0 from rfl] at hx115_0); (try rw [show 0 * 3 = 0 from rfl] at hx115_0); (try rw [Addr.add_zero'] at hx115_0); (try rw [show ((0 : Int)).toNat = 0 from rfl] at hx115_1); (try rw [show 0 * 3 = 0 from rfl] at hx115_1); (try rw [Addr.add_zero'] at hx115_1); (try rw [show ((0 : Int)).toNat = 0 from rfl] at hx115_2); (try rw [show 0 * 3 = 0 from rfl] at hx115_2); (try rw [Addr.add_zero'] at hx115_2); replace hx115_0 := (HB.out.cell (World.block_lt_of_cell? w _ hx115_0)).trans hx115_0; replace hx115_1 := (HB.out.cell (World.block_lt_of_cell? w _ hx115_1)).trans hx115_1; replace hx115_2 := (HB.out.cell (World.block_lt_of_cell? w _ hx115_2)).trans hx115_2; have HR115_1 := Aside0.mk hi115_1; have HC115_1 := Aside0.mk hl115_1; clear hi115_1 hl115_1; have HR115_2 := Aside0.mk hi115_2; have HC115_2 := Aside0.mk hl115_2; clear hi115_2 hl115_2; replace p115 := eq_true p115; replace q115 := eq_true q115)); try go_wp2_with (first | (go_at_call 114; (with_reducible refine (spec_softNames.calls  t112 _ A2.out).mono ?_); rintro e w5 ⟨v113, rfl, ho0, hb⟩; have n0_ := Aside0.mk (Kd.R_lower ho0 (below_size (by repeat (first | (with_reducible first | exact HB.out | apply below_alloc | apply pw_below_drewN | apply below_drew1) | exact HB.out)))); have n1_ := Aside0.mk (below_step (by repeat (first | (with_reducible first | exact HB.out | apply below_alloc | apply pw_below_drewN | apply below_drew1) | exact HB.out)) hb); clear HB; have HO114 := n0_; have HB := n1_; clear n0_ n1_; (try clear hb); (try clear hb2); (try clear hk); (try clear hi); (try clear ho0); obtain ⟨Ao6, co6, eo6⟩ := Kd.R_slice HO114.out; subst eo6; have p115 : 0 ≤ (0 : Int) := (by omega); have q115 : 0 < (l0.length : Int) := of_decide_eq_true (by first | (with_reducible assumption) | assumption); obtain ⟨ad115, A115_1, c115_1, A115_2, c115_2, e115, hx115_0, hx115_1, hx115_2, hl115_1, hi115_1, hl115_2, hi115_2⟩ := at_T31 HR0.out 0 p115 q115; cases e115; have qi115 : (0 < l0.length) = True := eq_true (by omega); (try rw [show ((0 : Int)).toNat = 0 from rfl] at hx115_0); (try rw [show 0 * 3 = 0 from rfl] at hx115_0); (try rw [Addr.add_zero'] at hx115_0); (try rw [show ((0 : Int)).toNat = 0 from rfl] at hx115_1); (try rw [show 0 * 3 = 0 from rfl] at hx115_1); (try rw [Addr.add_zero'] at hx115_1); (try rw [show ((0 : Int)).toNat = 0 from rfl] at hx115_2); (try rw [show 0 * 3 = 0 from rfl] at hx115_2); (try rw [Addr.add_zero'] at hx115_2); replace hx115_0 := (HB.out.cell (World.block_lt_of_cell? w _ hx115_0)).trans hx115_0; replace hx115_1 := (HB.out.cell (World.block_lt_of_cell? w _ hx115_1)).trans hx115_1; replace hx115_2 := (HB.out.cell (World.block_lt_of_cell? w _ hx115_2)).trans hx115_2; have HR115_1 := Aside0.mk hi115_1; have HC115_1 := Aside0.mk hl115_1; clear hi115_1 hl115_1; have HR115_2 := Aside0.mk hi115_2; have HC115_2 := Aside0.mk hl115_2; clear hi115_2 hl115_2; replace p115 := eq_true p115; replace q115 := eq_true q115)))
  go_loopg [5, 22] k (fun kq v5 v22 w' => ∃ (x5_1 : ByteArray) (x22_1 : Int), v5 = .string x5_1 ∧ v22 = .int .i64 x22_1 ∧ Aside0 (spec_SoftirqsPrint.l0 kq l0 t112 x5_1 (((rd_T31 l0 0).f1).length : Int) x22_1 = some (r1, r2)) ∧ Aside0 (kq ≤ k) ∧ Aside0 (Kd.R k136 136 w' w.heap.size (fun _ => True) (.slice Ao6 t112.length co6) t112) ∧ Aside0 (Below w.heap.size w w'))
  case atStart => exact ⟨((⟨#[32, 32, 32, 32, 32, 32, 32, 32, 32, 32, 32, 32, 32, 32, 32, 32, 32, 32, 32, 32]⟩ : ByteArray)), (0), (by first | rfl | (simp; done) | (simp [*]; done)), (by first | rfl | (simp; done) | (simp [*]; done)), H', ⟨Nat.le_refl _⟩, ⟨by (with_reducible repeat (first | apply Kd.R_alloc | apply Kd.R_drewN | apply Kd.R_drew)); exact HO114.out⟩, ⟨by repeat (first | (with_reducible first | exact HB.out | apply below_alloc | apply pw_below_drewN | apply below_drew1) | exact HB.out)⟩⟩
  case round =>
   clear H'
   try clear c1
   try clear p1
   try clear q1
   try clear hx1
   try clear qi1
   try clear p2
   try clear c3
   try clear c3b0
   try clear c3b1
   try clear c3b2
   try clear c4
   try clear c4b0
   try clear c4b1
   try clear hx115_0
   try clear hx115_1
   try clear hx115_2
   try clear p115
   try clear q115
   obtain ⟨x5_1, x22_1, rfl, rfl, HA, HK1, HO_4, HB⟩ := hrel
   cases gk with
   | zero => exact absurd HA.out (by simp [spec_SoftirqsPrint.l0])
   | succ k1 =>
    have H := HA.out
    clear HA
    simp only [spec_SoftirqsPrint.l0] at H
    by_cases c7 : x22_1 < (((rd_T31 l0 0).f1).length : Int)
    ·rw [if_pos c7] at H
     have c7b0 : decide (x22_1 < (((rd_T31 l0 0).f1).length : Int)) = true := decide_eq_true c7
     clear c7
     replace H := Option.bind_eq_some_iff.mp H
     obtain ⟨t116, A80, H⟩ := H
     try dsimp -simprocs only at H
     have A8 := Aside0.mk A80
     clear A80
     replace H := guard_inv H
     obtain ⟨c9, H⟩ := H
     have c9b0 := eq_true c9
     have c9b1 := decide_eq_true c9
     try have c9b2 := eq_false (Nat.not_lt.2 c9)
     replace H := Option.bind_eq_some_iff.mp H
     obtain ⟨t117, A100, H⟩ := H
     try dsimp -simprocs only at H
     have A10 := Aside0.mk A100
     clear A100
     replace H := guard_inv H
     obtain ⟨c11, H⟩ := H
     have c11b0 := eq_true c11
     have c11b1 := decide_eq_true c11
     try have c11b2 := eq_false (Nat.not_lt.2 c11)
     have H' := Aside0.mk H
     clear H
     go_wp2_with (first | (go_at_call 52; (with_reducible refine (spec_Text.calls k1 (IntKind.u64.wrap (x22_1)) t116 _ A8.out).mono ?_); rintro e w12 ⟨rfl, hb⟩; have n0_ := Aside0.mk (Kd.R_below (by (with_reducible repeat (first | apply Kd.R_alloc | apply Kd.R_drewN | apply Kd.R_drew)); exact HO_4.out) hb); have n1_ := Aside0.mk (below_step (by repeat (first | (with_reducible first | exact HB.out | apply below_alloc | apply pw_below_drewN | apply below_drew1) | exact HB.out)) hb); clear HO_4; clear HB; have HO_4 := n0_; have HB := n1_; clear n0_ n1_; (try clear hb); (try clear hb2); (try clear hk); (try clear hi)) | (go_at_call 106; (with_reducible refine (spec_Left.calls k1 ((⟨#[67, 80, 85]⟩ : ByteArray) ++ t116) 11 t117 _ A10.out).mono ?_); rintro e w' ⟨rfl, ⟨nd, rfl⟩⟩; (try first | exact ⟨rfl, _, World.drewN_drewN _ _ _⟩ | exact ⟨rfl, _, Eq.trans (World.drewN_drewN _ _ _) (congrArg (World.drewN _) (Nat.add_assoc _ _ _))⟩)))
     repeat (go_quiet (first | (go_at_call 52; (with_reducible refine (spec_Text.calls k1 (IntKind.u64.wrap (x22_1)) t116 _ A8.out).mono ?_); rintro e w12 ⟨rfl, hb⟩; have n0_ := Aside0.mk (Kd.R_below (by (with_reducible repeat (first | apply Kd.R_alloc | apply Kd.R_drewN | apply Kd.R_drew)); exact HO_4.out) hb); have n1_ := Aside0.mk (below_step (by repeat (first | (with_reducible first | exact HB.out | apply below_alloc | apply pw_below_drewN | apply below_drew1) | exact HB.out)) hb); clear HO_4; clear HB; have HO_4 := n0_; have HB := n1_; clear n0_ n1_; (try clear hb); (try clear hb2); (try clear hk); (try clear hi)) | (go_at_call 106; (with_reducible refine (spec_Left.calls k1 ((⟨#[67, 80, 85]⟩ : ByteArray) ++ t116) 11 t117 _ A10.out).mono ?_); rintro e w' ⟨rfl, ⟨nd, rfl⟩⟩; (try first | exact ⟨rfl, _, World.drewN_drewN _ _ _⟩ | exact ⟨rfl, _, Eq.trans (World.drewN_drewN _ _ _) (congrArg (World.drewN _) (Nat.add_assoc _ _ _))⟩))); try go_wp2_with (first | (go_at_call 52; (with_reducible refine (spec_Text.calls k1 (IntKind.u64.wrap (x22_1)) t116 _ A8.out).mono ?_); rintro e w12 ⟨rfl, hb⟩; have n0_ := Aside0.mk (Kd.R_below (by (with_reducible repeat (first | apply Kd.R_alloc | apply Kd.R_drewN | apply Kd.R_drew)); exact HO_4.out) hb); have n1_ := Aside0.mk (below_step (by repeat (first | (with_reducible first | exact HB.out | apply below_alloc | apply pw_below_drewN | apply below_drew1) | exact HB.out)) hb); clear HO_4; clear HB; have HO_4 := n0_; have HB := n1_; clear n0_ n1_; (try clear hb); (try clear hb2); (try clear hk); (try clear hi)) | (go_at_call 106; (with_reducible refine (spec_Left.calls k1 ((⟨#[67, 80, 85]⟩ : ByteArray) ++ t116) 11 t117 _ A10.out).mono ?_); rintro e w' ⟨rfl, ⟨nd, rfl⟩⟩; (try first | exact ⟨rfl, _, World.drewN_drewN _ _ _⟩ | exact ⟨rfl, _, Eq.trans (World.drewN_drewN _ _ _) (congrArg (World.drewN _) (Nat.add_assoc _ _ _))⟩))))
     go_roundg k1
     case measure => have := HK1.out; omega
     case rel => exact ⟨(x5_1 ++ t117), (wrap64 (x22_1 + 1)), (by first | rfl | (simp; done) | (simp [*]; done)), (by first | rfl | (simp; done) | (simp [*]; done)), H', ⟨by have := HK1.out; omega⟩, ⟨by (with_reducible repeat (first | apply Kd.R_alloc | apply Kd.R_drewN | apply Kd.R_drew)); exact HO_4.out⟩, ⟨by repeat (first | (with_reducible first | exact HB.out | apply below_alloc | apply pw_below_drewN | apply below_drew1) | exact HB.out)⟩⟩
    ·rw [if_neg c7] at H
     have c7b0 : decide (x22_1 < (((rd_T31 l0 0).f1).length : Int)) = false := decide_eq_false c7
     clear c7
     replace H := guard_inv H
     obtain ⟨c13, H⟩ := H
     have c13b0 := eq_true c13
     have c13b1 := decide_eq_true c13
     try have c13b2 := eq_false (Nat.not_lt.2 c13)
     have H' := Aside0.mk H
     clear H
     go_wp2
     repeat (go_quiet (fail); try go_wp2)
     go_loopg [5, 37] k1 (fun kq v5 v37 w' => ∃ (x5_2 : ByteArray) (x37_2 : Int), v5 = .string x5_2 ∧ v37 = .int .i64 x37_2 ∧ Aside0 (spec_SoftirqsPrint.l1 kq l0 t112 x5_2 l0 (l0.length : Int) x37_2 = some (r1, r2)) ∧ Aside0 (kq ≤ k1) ∧ Aside0 (Kd.R k136 136 w' w.heap.size (fun _ => True) (.slice Ao6 t112.length co6) t112) ∧ Aside0 (Below w.heap.size w w'))
     case atStart => exact ⟨(x5_1 ++ (⟨#[10]⟩ : ByteArray)), (0), (by first | rfl | (simp; done) | (simp [*]; done)), (by first | rfl | (simp; done) | (simp [*]; done)), H', ⟨Nat.le_refl _⟩, ⟨by (with_reducible repeat (first | apply Kd.R_alloc | apply Kd.R_drewN | apply Kd.R_drew)); exact HO_4.out⟩, ⟨by repeat (first | (with_reducible first | exact HB.out | apply below_alloc | apply pw_below_drewN | apply below_drew1) | exact HB.out)⟩⟩
     case round =>
      clear H'
      try clear c1
      try clear p1
      try clear q1
      try clear hx1
      try clear qi1
      try clear p2
      try clear c3
      try clear c3b0
      try clear c3b1
      try clear c3b2
      try clear c4
      try clear c4b0
      try clear c4b1
      try clear p6
      try clear c7
      try clear c7b0
      try clear c9
      try clear c9b0
      try clear c9b1
      try clear c9b2
      try clear c11
      try clear c11b0
      try clear c11b1
      try clear c11b2
      try clear p11
      try clear q11
      try clear hx11
      try clear qi11
      try clear c13
      try clear c13b0
      try clear c13b1
      try clear c13b2
      try clear hx115_0
      try clear hx115_1
      try clear hx115_2
      try clear p1
      try clear p115
      try clear p2
      try clear q1
      try clear q115
      obtain ⟨x5_2, x37_2, rfl, rfl, HA, HK2, HO_4, HB⟩ := hrel
      cases gk with
      | zero => exact absurd HA.out (by simp [spec_SoftirqsPrint.l1])
      | succ k2 =>
       have H := HA.out
       clear HA
       simp only [spec_SoftirqsPrint.l1] at H
       by_cases c14 : x37_2 < (l0.length : Int)
       ·rw [if_pos c14] at H
        have c14b0 : decide (x37_2 < (l0.length : Int)) = true := decide_eq_true c14
        clear c14
        replace H := guard_inv H
        obtain ⟨c15, H⟩ := H
        have c15b0 : decide (0 ≤ x37_2) = true := decide_eq_true c15
        clear c15
        replace H := guard_inv H
        obtain ⟨c16, H⟩ := H
        have c16b0 : decide (x37_2 < (l0.length : Int)) = true := decide_eq_true c16
        clear c16
        have HC17 := Aside0.mk H
        clear H
        have p118 : 0 ≤ (x37_2 : Int) := of_decide_eq_true (by first | (with_reducible assumption) | assumption)
        have q118 : x37_2 < (l0.length : Int) := of_decide_eq_true (by first | (with_reducible assumption) | assumption)
        obtain ⟨ad118, A118_1, c118_1, A118_2, c118_2, e118, hx118_0, hx118_1, hx118_2, hl118_1, hi118_1, hl118_2, hi118_2⟩ := at_T31 HR0.out x37_2 p118 q118
        obtain rfl : ad115 = ad118 := (by injection e118)
        replace hx118_0 := (HB.out.cell (World.block_lt_of_cell? w _ hx118_0)).trans hx118_0
        replace hx118_1 := (HB.out.cell (World.block_lt_of_cell? w _ hx118_1)).trans hx118_1
        replace hx118_2 := (HB.out.cell (World.block_lt_of_cell? w _ hx118_2)).trans hx118_2
        have HR118_1 := Aside0.mk hi118_1
        have HC118_1 := Aside0.mk hl118_1
        clear hi118_1 hl118_1
        have HR118_2 := Aside0.mk hi118_2
        have HC118_2 := Aside0.mk hl118_2
        clear hi118_2 hl118_2
        replace p118 := eq_true p118
        replace q118 := eq_true q118
        go_upto_region 14 with (first | ((with_reducible refine gate_dst (N := 8) rfl ?_); (try (refine gate_guard (by rfl) ?_; dsimp only)); refine box_event ?hg (N := 8) ?hd (cs := #[.string (⟨#[]⟩ : ByteArray), .slice none 0 0, .slice none 0 0]) (t := 31) ?hr ?_; (case hd => rfl); (case hg => rfl); (case hr => first | (go_simp; done) | (go_simp; rfl)); intro gb119 hg w18 hbox hb; have n0_ := Aside0.mk (Kd.R_below (by (with_reducible repeat (first | apply Kd.R_alloc | apply Kd.R_drewN | apply Kd.R_drew)); exact HO_4.out) hb); have n1_ := Aside0.mk (below_step (by repeat (first | (with_reducible first | exact HB.out | apply below_alloc | apply pw_below_drewN | apply below_drew1) | exact HB.out)) hb); have n2_ := Aside0.mk (hbox); have n3_ := Aside0.mk ((by rw [hg]; exact (below_size (by repeat (first | (with_reducible first | exact HB.out | apply below_alloc | apply pw_below_drewN | apply below_drew1) | exact HB.out))) : w.heap.size ≤ gb119)); have n4_ := Aside0.mk ((by rw [hg]; exact (below_size (by repeat (first | (with_reducible first | exact HB.out | apply below_alloc | apply pw_below_drewN | apply below_drew1) | exact HB.out))) : w.heap.size ≤ gb119)); clear HO_4; clear HB; have HO_4 := n0_; have HB := n1_; have BK119 := n2_; have GW119 := n3_; have GE119 := n4_; clear n0_ n1_ n2_ n3_ n4_; clear hb hbox hg; have hcz19_0 : w18.cell? ⟨gb119, 0, none⟩ = some (.string (⟨#[]⟩ : ByteArray)) := (blk_cell BK119.out 0).trans rfl; have hcz19_1 : w18.cell? ⟨gb119, 1, none⟩ = some (.slice none 0 0) := (blk_cell BK119.out 1).trans rfl; have hcz19_2 : w18.cell? ⟨gb119, 2, none⟩ = some (.slice none 0 0) := (blk_cell BK119.out 2).trans rfl; have hfz19_0 := blk_frozen BK119.out 0; have hfz19_1 := blk_frozen BK119.out 1; have hfz19_2 := blk_frozen BK119.out 2))
        repeat (go_quiet (first | ((with_reducible refine gate_dst (N := 8) rfl ?_); (try (refine gate_guard (by rfl) ?_; dsimp only)); refine box_event ?hg (N := 8) ?hd (cs := #[.string (⟨#[]⟩ : ByteArray), .slice none 0 0, .slice none 0 0]) (t := 31) ?hr ?_; (case hd => rfl); (case hg => rfl); (case hr => first | (go_simp; done) | (go_simp; rfl)); intro gb119 hg w18 hbox hb; have n0_ := Aside0.mk (Kd.R_below (by (with_reducible repeat (first | apply Kd.R_alloc | apply Kd.R_drewN | apply Kd.R_drew)); exact HO_4.out) hb); have n1_ := Aside0.mk (below_step (by repeat (first | (with_reducible first | exact HB.out | apply below_alloc | apply pw_below_drewN | apply below_drew1) | exact HB.out)) hb); have n2_ := Aside0.mk (hbox); have n3_ := Aside0.mk ((by rw [hg]; exact (below_size (by repeat (first | (with_reducible first | exact HB.out | apply below_alloc | apply pw_below_drewN | apply below_drew1) | exact HB.out))) : w.heap.size ≤ gb119)); have n4_ := Aside0.mk ((by rw [hg]; exact (below_size (by repeat (first | (with_reducible first | exact HB.out | apply below_alloc | apply pw_below_drewN | apply below_drew1) | exact HB.out))) : w.heap.size ≤ gb119)); clear HO_4; clear HB; have HO_4 := n0_; have HB := n1_; have BK119 := n2_; have GW119 := n3_; have GE119 := n4_; clear n0_ n1_ n2_ n3_ n4_; clear hb hbox hg; have hcz19_0 : w18.cell? ⟨gb119, 0, none⟩ = some (.string (⟨#[]⟩ : ByteArray)) := (blk_cell BK119.out 0).trans rfl; have hcz19_1 : w18.cell? ⟨gb119, 1, none⟩ = some (.slice none 0 0) := (blk_cell BK119.out 1).trans rfl; have hcz19_2 : w18.cell? ⟨gb119, 2, none⟩ = some (.slice none 0 0) := (blk_cell BK119.out 2).trans rfl; have hfz19_0 := blk_frozen BK119.out 0; have hfz19_1 := blk_frozen BK119.out 1; have hfz19_2 := blk_frozen BK119.out 2)); go_upto_region 14 with (first | ((with_reducible refine gate_dst (N := 8) rfl ?_); (try (refine gate_guard (by rfl) ?_; dsimp only)); refine box_event ?hg (N := 8) ?hd (cs := #[.string (⟨#[]⟩ : ByteArray), .slice none 0 0, .slice none 0 0]) (t := 31) ?hr ?_; (case hd => rfl); (case hg => rfl); (case hr => first | (go_simp; done) | (go_simp; rfl)); intro gb119 hg w18 hbox hb; have n0_ := Aside0.mk (Kd.R_below (by (with_reducible repeat (first | apply Kd.R_alloc | apply Kd.R_drewN | apply Kd.R_drew)); exact HO_4.out) hb); have n1_ := Aside0.mk (below_step (by repeat (first | (with_reducible first | exact HB.out | apply below_alloc | apply pw_below_drewN | apply below_drew1) | exact HB.out)) hb); have n2_ := Aside0.mk (hbox); have n3_ := Aside0.mk ((by rw [hg]; exact (below_size (by repeat (first | (with_reducible first | exact HB.out | apply below_alloc | apply pw_below_drewN | apply below_drew1) | exact HB.out))) : w.heap.size ≤ gb119)); have n4_ := Aside0.mk ((by rw [hg]; exact (below_size (by repeat (first | (with_reducible first | exact HB.out | apply below_alloc | apply pw_below_drewN | apply below_drew1) | exact HB.out))) : w.heap.size ≤ gb119)); clear HO_4; clear HB; have HO_4 := n0_; have HB := n1_; have BK119 := n2_; have GW119 := n3_; have GE119 := n4_; clear n0_ n1_ n2_ n3_ n4_; clear hb hbox hg; have hcz19_0 : w18.cell? ⟨gb119, 0, none⟩ = some (.string (⟨#[]⟩ : ByteArray)) := (blk_cell BK119.out 0).trans rfl; have hcz19_1 : w18.cell? ⟨gb119, 1, none⟩ = some (.slice none 0 0) := (blk_cell BK119.out 1).trans rfl; have hcz19_2 : w18.cell? ⟨gb119, 2, none⟩ = some (.slice none 0 0) := (blk_cell BK119.out 2).trans rfl; have hfz19_0 := blk_frozen BK119.out 0; have hfz19_1 := blk_frozen BK119.out 1; have hfz19_2 := blk_frozen BK119.out 2)))
        (try simp only [Act.put, List.setIfInBounds_toArray, List.set_cons_zero, List.set_cons_succ])
        go_cut [72] (fun v72 wc => ∃ (kq : Nat) (x72_16 : Bool), v72 = .bool x72_16 ∧ Aside0 (spec_SoftirqsPrint.j2 kq l0 t112 x5_2 l0 (l0.length : Int) x37_2 x72_16 ((rd_T31 l0 x37_2).f0) ((rd_T31 l0 x37_2).f1) ((rd_T31 l0 x37_2).f2) = some (r1, r2)) ∧ Aside0 (kq ≤ k2) ∧ Aside0 (Kd.R k136 136 wc w.heap.size (fun _ => True) (.slice Ao6 t112.length co6) t112) ∧ Aside0 (wc.heap[gb119]? = some (.cells #[.string ((rd_T31 l0 x37_2).f0), (.slice A118_1 ((rd_T31 l0 x37_2).f1).length c118_1), (.slice A118_2 ((rd_T31 l0 x37_2).f2).length c118_2)] 31 (0, 0))) ∧ Aside0 (Below w.heap.size w wc))
        case first =>
         have H := HC17.out
         clear HC17
         replace H := guard_inv H
         obtain ⟨c20, H⟩ := H
         have c20b0 : decide (x37_2 < (t112.length : Int)) = true := decide_eq_true c20
         clear c20
         (first | rw [c20b0] | (simp only [i64_w, i32_w]; rw [c20b0]) | skip)
         by_cases c21 : ((rd_T31 l0 x37_2).f0).toList = ((rd_T136 t112 x37_2).f1).toList
         ·rw [if_pos c21] at H
          have c21b0 : (((rd_T31 l0 x37_2).f0).toList == ((rd_T136 t112 x37_2).f1).toList) = true := beq_iff_eq.mpr c21
          have c21b1 : (((rd_T31 l0 x37_2).f0).toList != ((rd_T136 t112 x37_2).f1).toList) = false := bne_eq_false_iff_eq.mpr c21
          clear c21
          by_cases c22 : (((rd_T31 l0 x37_2).f2).length : Int) > 0
          ·rw [if_pos c22] at H
           have c22b0 : decide (0 < (((rd_T31 l0 x37_2).f2).length : Int)) = true := decide_eq_true c22
           have c22b1 : decide (0 < ((rd_T31 l0 x37_2).f2).length) = true := decide_eq_true (by omega)
           clear c22
           have H' := Aside0.mk H
           clear H
           have hcz23_0 : w18.cell? ⟨gb119, 0, none⟩ = some (.string (⟨#[]⟩ : ByteArray)) := (blk_cell BK119.out 0).trans rfl
           have hcz23_1 : w18.cell? ⟨gb119, 1, none⟩ = some (.slice none 0 0) := (blk_cell BK119.out 1).trans rfl
           have hcz23_2 : w18.cell? ⟨gb119, 2, none⟩ = some (.slice none 0 0) := (blk_cell BK119.out 2).trans rfl
           have hfz23_0 := blk_frozen BK119.out 0
           have hfz23_1 := blk_frozen BK119.out 1
           have hfz23_2 := blk_frozen BK119.out 2
           have p120 : 0 ≤ (x37_2 : Int) := of_decide_eq_true (by first | (with_reducible assumption) | assumption)
           have q120 : x37_2 < (t112.length : Int) := of_decide_eq_true (by first | (with_reducible assumption) | assumption)
           obtain ⟨ad120, e120, hx120_0, hx120_1⟩ := at_T136 (Kd.R_reads' HO_4.out).2.2 x37_2 p120 q120
           cases e120
           have hn120_0 : ad120.block ≠ gb119 := Kd.own_blk (Kd.R_ne HO_4.out BK119.out (by decide))
           have hn120_1 : ad120.block ≠ gb119 := Kd.own_blk (Kd.R_ne HO_4.out BK119.out (by decide))
           have hn120_2 : ad120.block ≠ gb119 := Kd.own_blk (Kd.R_ne HO_4.out BK119.out (by decide))
           replace hx120_0 := (cell_far (p := ⟨gb119, 0, none⟩) (by first | (rw [add_block]; exact hn120_0) | (show (Addr.add _ _).block ≠ _; rw [add_block]; exact hn120_0) | exact hn120_0) (.string ((rd_T31 l0 x37_2).f0))).trans hx120_0
           replace hx120_1 := (cell_far (p := ⟨gb119, 0, none⟩) (by first | (rw [add_block]; exact hn120_0) | (show (Addr.add _ _).block ≠ _; rw [add_block]; exact hn120_0) | exact hn120_0) (.string ((rd_T31 l0 x37_2).f0))).trans hx120_1
           replace hx120_0 := (cell_far (p := ⟨gb119, 1, none⟩) (by first | (rw [add_block]; exact hn120_1) | (show (Addr.add _ _).block ≠ _; rw [add_block]; exact hn120_1) | exact hn120_1) (.slice A118_1 ((rd_T31 l0 x37_2).f1).length c118_1)).trans hx120_0
           replace hx120_1 := (cell_far (p := ⟨gb119, 1, none⟩) (by first | (rw [add_block]; exact hn120_1) | (show (Addr.add _ _).block ≠ _; rw [add_block]; exact hn120_1) | exact hn120_1) (.slice A118_1 ((rd_T31 l0 x37_2).f1).length c118_1)).trans hx120_1
           replace hx120_0 := (cell_far (p := ⟨gb119, 2, none⟩) (by first | (rw [add_block]; exact hn120_2) | (show (Addr.add _ _).block ≠ _; rw [add_block]; exact hn120_2) | exact hn120_2) (.slice A118_2 ((rd_T31 l0 x37_2).f2).length c118_2)).trans hx120_0
           replace hx120_1 := (cell_far (p := ⟨gb119, 2, none⟩) (by first | (rw [add_block]; exact hn120_2) | (show (Addr.add _ _).block ≠ _; rw [add_block]; exact hn120_2) | exact hn120_2) (.slice A118_2 ((rd_T31 l0 x37_2).f2).length c118_2)).trans hx120_1
           (try have hy120_0 := fun (n_ : Nat) => (show (((((w18.drewN n_).setCell ⟨gb119, 0, none⟩ (.string ((rd_T31 l0 x37_2).f0))).setCell ⟨gb119, 1, none⟩ (.slice A118_1 ((rd_T31 l0 x37_2).f1).length c118_1)).setCell ⟨gb119, 2, none⟩ (.slice A118_2 ((rd_T31 l0 x37_2).f2).length c118_2))).cell? _ = some _ from hx120_0))
           (try have hy120_1 := fun (n_ : Nat) => (show (((((w18.drewN n_).setCell ⟨gb119, 0, none⟩ (.string ((rd_T31 l0 x37_2).f0))).setCell ⟨gb119, 1, none⟩ (.slice A118_1 ((rd_T31 l0 x37_2).f1).length c118_1)).setCell ⟨gb119, 2, none⟩ (.slice A118_2 ((rd_T31 l0 x37_2).f2).length c118_2))).cell? _ = some _ from hx120_1))
           clear hn120_0
           clear hn120_1
           clear hn120_2
           replace p120 := eq_true p120
           replace q120 := eq_true q120
           go_wp2
           repeat (go_quiet (fail); try go_wp2)
           go_meet
           case rel => exact ⟨_, (true), (by first | rfl | (simp; done) | (simp [*]; done)), H', ⟨by have := HK1.out; have := HK2.out; first | omega | exact Nat.le_refl _⟩, ⟨by (with_reducible repeat (first | apply Kd.R_alloc | apply Kd.R_drewN | apply Kd.R_drew)); exact Kd.R_mono (Kd.R_far (p := ⟨gb119, 2, none⟩) (Kd.R_far (p := ⟨gb119, 1, none⟩) (Kd.R_far (p := ⟨gb119, 0, none⟩) (Kd.R_types HO_4.out BK119.out (by decide)) (fun _ hk => hk.2) (.string ((rd_T31 l0 x37_2).f0))) (fun _ hk => hk.2) (.slice A118_1 ((rd_T31 l0 x37_2).f1).length c118_1)) (fun _ hk => hk.2) (.slice A118_2 ((rd_T31 l0 x37_2).f2).length c118_2)) (fun _ hk => trivial)⟩, ⟨by (with_reducible repeat (first | refine blk_drewN ?_ _ | refine blk_drew ?_ | refine blk_alloc ?_ _)); refine blk_put (cs := #[.string ((rd_T31 l0 x37_2).f0), .slice A118_1 ((rd_T31 l0 x37_2).f1).length c118_1, .slice none 0 0]) ?_ 2 _ rfl; (with_reducible repeat (first | refine blk_drewN ?_ _ | refine blk_drew ?_ | refine blk_alloc ?_ _)); refine blk_put (cs := #[.string ((rd_T31 l0 x37_2).f0), .slice none 0 0, .slice none 0 0]) ?_ 1 _ rfl; (with_reducible repeat (first | refine blk_drewN ?_ _ | refine blk_drew ?_ | refine blk_alloc ?_ _)); refine blk_put (cs := #[.string (⟨#[]⟩ : ByteArray), .slice none 0 0, .slice none 0 0]) ?_ 0 _ rfl; (with_reducible repeat (first | refine blk_drewN ?_ _ | refine blk_drew ?_ | refine blk_alloc ?_ _)); exact BK119.out⟩, ⟨by repeat (first | (with_reducible first | exact HB.out | apply below_alloc | apply pw_below_drewN | apply below_drew1 | refine below_set ?_ GE119.out) | exact HB.out)⟩⟩
          ·rw [if_neg c22] at H
           have c22b0 : decide (0 < (((rd_T31 l0 x37_2).f2).length : Int)) = false := decide_eq_false c22
           have c22b1 : decide (0 < ((rd_T31 l0 x37_2).f2).length) = false := decide_eq_false (by omega)
           clear c22
           by_cases c24 : (((rd_T31 l0 x37_2).f1).length : Int) < 1
           ·rw [if_pos c24] at H
            have c24b0 : decide ((((rd_T31 l0 x37_2).f1).length : Int) < 1) = true := decide_eq_true c24
            have c24b1 : decide (((rd_T31 l0 x37_2).f1).length < 1) = true := decide_eq_true (by omega)
            clear c24
            have H' := Aside0.mk H
            clear H
            have hcz25_0 : w18.cell? ⟨gb119, 0, none⟩ = some (.string (⟨#[]⟩ : ByteArray)) := (blk_cell BK119.out 0).trans rfl
            have hcz25_1 : w18.cell? ⟨gb119, 1, none⟩ = some (.slice none 0 0) := (blk_cell BK119.out 1).trans rfl
            have hcz25_2 : w18.cell? ⟨gb119, 2, none⟩ = some (.slice none 0 0) := (blk_cell BK119.out 2).trans rfl
            have hfz25_0 := blk_frozen BK119.out 0
            have hfz25_1 := blk_frozen BK119.out 1
            have hfz25_2 := blk_frozen BK119.out 2
            have p120 : 0 ≤ (x37_2 : Int) := of_decide_eq_true (by first | (with_reducible assumption) | assumption)
            have q120 : x37_2 < (t112.length : Int) := of_decide_eq_true (by first | (with_reducible assumption) | assumption)
            obtain ⟨ad120, e120, hx120_0, hx120_1⟩ := at_T136 (Kd.R_reads' HO_4.out).2.2 x37_2 p120 q120
            cases e120
            have hn120_0 : ad120.block ≠ gb119 := Kd.own_blk (Kd.R_ne HO_4.out BK119.out (by decide))
            have hn120_1 : ad120.block ≠ gb119 := Kd.own_blk (Kd.R_ne HO_4.out BK119.out (by decide))
            have hn120_2 : ad120.block ≠ gb119 := Kd.own_blk (Kd.R_ne HO_4.out BK119.out (by decide))
            replace hx120_0 := (cell_far (p := ⟨gb119, 0, none⟩) (by first | (rw [add_block]; exact hn120_0) | (show (Addr.add _ _).block ≠ _; rw [add_block]; exact hn120_0) | exact hn120_0) (.string ((rd_T31 l0 x37_2).f0))).trans hx120_0
            replace hx120_1 := (cell_far (p := ⟨gb119, 0, none⟩) (by first | (rw [add_block]; exact hn120_0) | (show (Addr.add _ _).block ≠ _; rw [add_block]; exact hn120_0) | exact hn120_0) (.string ((rd_T31 l0 x37_2).f0))).trans hx120_1
            replace hx120_0 := (cell_far (p := ⟨gb119, 1, none⟩) (by first | (rw [add_block]; exact hn120_1) | (show (Addr.add _ _).block ≠ _; rw [add_block]; exact hn120_1) | exact hn120_1) (.slice A118_1 ((rd_T31 l0 x37_2).f1).length c118_1)).trans hx120_0
            replace hx120_1 := (cell_far (p := ⟨gb119, 1, none⟩) (by first | (rw [add_block]; exact hn120_1) | (show (Addr.add _ _).block ≠ _; rw [add_block]; exact hn120_1) | exact hn120_1) (.slice A118_1 ((rd_T31 l0 x37_2).f1).length c118_1)).trans hx120_1
            replace hx120_0 := (cell_far (p := ⟨gb119, 2, none⟩) (by first | (rw [add_block]; exact hn120_2) | (show (Addr.add _ _).block ≠ _; rw [add_block]; exact hn120_2) | exact hn120_2) (.slice A118_2 ((rd_T31 l0 x37_2).f2).length c118_2)).trans hx120_0
            replace hx120_1 := (cell_far (p := ⟨gb119, 2, none⟩) (by first | (rw [add_block]; exact hn120_2) | (show (Addr.add _ _).block ≠ _; rw [add_block]; exact hn120_2) | exact hn120_2) (.slice A118_2 ((rd_T31 l0 x37_2).f2).length c118_2)).trans hx120_1
            (try have hy120_0 := fun (n_ : Nat) => (show (((((w18.drewN n_).setCell ⟨gb119, 0, none⟩ (.string ((rd_T31 l0 x37_2).f0))).setCell ⟨gb119, 1, none⟩ (.slice A118_1 ((rd_T31 l0 x37_2).f1).length c118_1)).setCell ⟨gb119, 2, none⟩ (.slice A118_2 ((rd_T31 l0 x37_2).f2).length c118_2))).cell? _ = some _ from hx120_0))
            (try have hy120_1 := fun (n_ : Nat) => (show (((((w18.drewN n_).setCell ⟨gb119, 0, none⟩ (.string ((rd_T31 l0 x37_2).f0))).setCell ⟨gb119, 1, none⟩ (.slice A118_1 ((rd_T31 l0 x37_2).f1).length c118_1)).setCell ⟨gb119, 2, none⟩ (.slice A118_2 ((rd_T31 l0 x37_2).f2).length c118_2))).cell? _ = some _ from hx120_1))
            clear hn120_0
            clear hn120_1
            clear hn120_2
            replace p120 := eq_true p120
            replace q120 := eq_true q120
            go_wp2
            repeat (go_quiet (fail); try go_wp2)
            go_meet
            case rel => exact ⟨_, (true), (by first | rfl | (simp; done) | (simp [*]; done)), H', ⟨by have := HK1.out; have := HK2.out; first | omega | exact Nat.le_refl _⟩, ⟨by (with_reducible repeat (first | apply Kd.R_alloc | apply Kd.R_drewN | apply Kd.R_drew)); exact Kd.R_mono (Kd.R_far (p := ⟨gb119, 2, none⟩) (Kd.R_far (p := ⟨gb119, 1, none⟩) (Kd.R_far (p := ⟨gb119, 0, none⟩) (Kd.R_types HO_4.out BK119.out (by decide)) (fun _ hk => hk.2) (.string ((rd_T31 l0 x37_2).f0))) (fun _ hk => hk.2) (.slice A118_1 ((rd_T31 l0 x37_2).f1).length c118_1)) (fun _ hk => hk.2) (.slice A118_2 ((rd_T31 l0 x37_2).f2).length c118_2)) (fun _ hk => trivial)⟩, ⟨by (with_reducible repeat (first | refine blk_drewN ?_ _ | refine blk_drew ?_ | refine blk_alloc ?_ _)); refine blk_put (cs := #[.string ((rd_T31 l0 x37_2).f0), .slice A118_1 ((rd_T31 l0 x37_2).f1).length c118_1, .slice none 0 0]) ?_ 2 _ rfl; (with_reducible repeat (first | refine blk_drewN ?_ _ | refine blk_drew ?_ | refine blk_alloc ?_ _)); refine blk_put (cs := #[.string ((rd_T31 l0 x37_2).f0), .slice none 0 0, .slice none 0 0]) ?_ 1 _ rfl; (with_reducible repeat (first | refine blk_drewN ?_ _ | refine blk_drew ?_ | refine blk_alloc ?_ _)); refine blk_put (cs := #[.string (⟨#[]⟩ : ByteArray), .slice none 0 0, .slice none 0 0]) ?_ 0 _ rfl; (with_reducible repeat (first | refine blk_drewN ?_ _ | refine blk_drew ?_ | refine blk_alloc ?_ _)); exact BK119.out⟩, ⟨by repeat (first | (with_reducible first | exact HB.out | apply below_alloc | apply pw_below_drewN | apply below_drew1 | refine below_set ?_ GE119.out) | exact HB.out)⟩⟩
           ·rw [if_neg c24] at H
            have c24b0 : decide ((((rd_T31 l0 x37_2).f1).length : Int) < 1) = false := decide_eq_false c24
            have c24b1 : decide (((rd_T31 l0 x37_2).f1).length < 1) = false := decide_eq_false (by omega)
            clear c24
            replace H := guard_inv H
            obtain ⟨c26, H⟩ := H
            have c26b0 : decide (0 < (l0.length : Int)) = true := decide_eq_true c26
            have c26b1 : decide (0 < l0.length) = true := decide_eq_true (by omega)
            clear c26
            have H' := Aside0.mk H
            clear H
            have hcz27_0 : w18.cell? ⟨gb119, 0, none⟩ = some (.string (⟨#[]⟩ : ByteArray)) := (blk_cell BK119.out 0).trans rfl
            have hcz27_1 : w18.cell? ⟨gb119, 1, none⟩ = some (.slice none 0 0) := (blk_cell BK119.out 1).trans rfl
            have hcz27_2 : w18.cell? ⟨gb119, 2, none⟩ = some (.slice none 0 0) := (blk_cell BK119.out 2).trans rfl
            have hfz27_0 := blk_frozen BK119.out 0
            have hfz27_1 := blk_frozen BK119.out 1
            have hfz27_2 := blk_frozen BK119.out 2
            have p120 : 0 ≤ (x37_2 : Int) := of_decide_eq_true (by first | (with_reducible assumption) | assumption)
            have q120 : x37_2 < (t112.length : Int) := of_decide_eq_true (by first | (with_reducible assumption) | assumption)
            obtain ⟨ad120, e120, hx120_0, hx120_1⟩ := at_T136 (Kd.R_reads' HO_4.out).2.2 x37_2 p120 q120
            cases e120
            have hn120_0 : ad120.block ≠ gb119 := Kd.own_blk (Kd.R_ne HO_4.out BK119.out (by decide))
            have hn120_1 : ad120.block ≠ gb119 := Kd.own_blk (Kd.R_ne HO_4.out BK119.out (by decide))
            have hn120_2 : ad120.block ≠ gb119 := Kd.own_blk (Kd.R_ne HO_4.out BK119.out (by decide))
            replace hx120_0 := (cell_far (p := ⟨gb119, 0, none⟩) (by first | (rw [add_block]; exact hn120_0) | (show (Addr.add _ _).block ≠ _; rw [add_block]; exact hn120_0) | exact hn120_0) (.string ((rd_T31 l0 x37_2).f0))).trans hx120_0
            replace hx120_1 := (cell_far (p := ⟨gb119, 0, none⟩) (by first | (rw [add_block]; exact hn120_0) | (show (Addr.add _ _).block ≠ _; rw [add_block]; exact hn120_0) | exact hn120_0) (.string ((rd_T31 l0 x37_2).f0))).trans hx120_1
            replace hx120_0 := (cell_far (p := ⟨gb119, 1, none⟩) (by first | (rw [add_block]; exact hn120_1) | (show (Addr.add _ _).block ≠ _; rw [add_block]; exact hn120_1) | exact hn120_1) (.slice A118_1 ((rd_T31 l0 x37_2).f1).length c118_1)).trans hx120_0
            replace hx120_1 := (cell_far (p := ⟨gb119, 1, none⟩) (by first | (rw [add_block]; exact hn120_1) | (show (Addr.add _ _).block ≠ _; rw [add_block]; exact hn120_1) | exact hn120_1) (.slice A118_1 ((rd_T31 l0 x37_2).f1).length c118_1)).trans hx120_1
            replace hx120_0 := (cell_far (p := ⟨gb119, 2, none⟩) (by first | (rw [add_block]; exact hn120_2) | (show (Addr.add _ _).block ≠ _; rw [add_block]; exact hn120_2) | exact hn120_2) (.slice A118_2 ((rd_T31 l0 x37_2).f2).length c118_2)).trans hx120_0
            replace hx120_1 := (cell_far (p := ⟨gb119, 2, none⟩) (by first | (rw [add_block]; exact hn120_2) | (show (Addr.add _ _).block ≠ _; rw [add_block]; exact hn120_2) | exact hn120_2) (.slice A118_2 ((rd_T31 l0 x37_2).f2).length c118_2)).trans hx120_1
            (try have hy120_0 := fun (n_ : Nat) => (show (((((w18.drewN n_).setCell ⟨gb119, 0, none⟩ (.string ((rd_T31 l0 x37_2).f0))).setCell ⟨gb119, 1, none⟩ (.slice A118_1 ((rd_T31 l0 x37_2).f1).length c118_1)).setCell ⟨gb119, 2, none⟩ (.slice A118_2 ((rd_T31 l0 x37_2).f2).length c118_2))).cell? _ = some _ from hx120_0))
            (try have hy120_1 := fun (n_ : Nat) => (show (((((w18.drewN n_).setCell ⟨gb119, 0, none⟩ (.string ((rd_T31 l0 x37_2).f0))).setCell ⟨gb119, 1, none⟩ (.slice A118_1 ((rd_T31 l0 x37_2).f1).length c118_1)).setCell ⟨gb119, 2, none⟩ (.slice A118_2 ((rd_T31 l0 x37_2).f2).length c118_2))).cell? _ = some _ from hx120_1))
            clear hn120_0
            clear hn120_1
            clear hn120_2
            replace p120 := eq_true p120
            replace q120 := eq_true q120
            have p121 : 0 ≤ (0 : Int) := (by omega)
            have q121 : 0 < (l0.length : Int) := of_decide_eq_true (by first | (with_reducible assumption) | assumption)
            obtain ⟨ad121, A121_1, c121_1, A121_2, c121_2, e121, hx121_0, hx121_1, hx121_2, hl121_1, hi121_1, hl121_2, hi121_2⟩ := at_T31 HR0.out 0 p121 q121
            obtain rfl : ad115 = ad121 := (by injection e121)
            have qi121 : (0 < l0.length) = True := eq_true (by omega)
            (try rw [show ((0 : Int)).toNat = 0 from rfl] at hx121_0)
            (try rw [show 0 * 3 = 0 from rfl] at hx121_0)
            (try rw [Addr.add_zero'] at hx121_0)
            (try rw [show ((0 : Int)).toNat = 0 from rfl] at hx121_1)
            (try rw [show 0 * 3 = 0 from rfl] at hx121_1)
            (try rw [Addr.add_zero'] at hx121_1)
            (try rw [show ((0 : Int)).toNat = 0 from rfl] at hx121_2)
            (try rw [show 0 * 3 = 0 from rfl] at hx121_2)
            (try rw [Addr.add_zero'] at hx121_2)
            have hn121_0 : ad115.block ≠ gb119 := Nat.ne_of_lt (Nat.lt_of_lt_of_le (by have := World.block_lt_of_cell? _ _ hx121_0; first | rwa [add_block] at this | exact this) GW119.out)
            have hn121_1 : ad115.block ≠ gb119 := Nat.ne_of_lt (Nat.lt_of_lt_of_le (by have := World.block_lt_of_cell? _ _ hx121_0; first | rwa [add_block] at this | exact this) GW119.out)
            have hn121_2 : ad115.block ≠ gb119 := Nat.ne_of_lt (Nat.lt_of_lt_of_le (by have := World.block_lt_of_cell? _ _ hx121_0; first | rwa [add_block] at this | exact this) GW119.out)
            replace hx121_0 := (HB.out.cell (World.block_lt_of_cell? w _ hx121_0)).trans hx121_0
            replace hx121_1 := (HB.out.cell (World.block_lt_of_cell? w _ hx121_1)).trans hx121_1
            replace hx121_2 := (HB.out.cell (World.block_lt_of_cell? w _ hx121_2)).trans hx121_2
            have HR121_1 := Aside0.mk hi121_1
            have HC121_1 := Aside0.mk hl121_1
            clear hi121_1 hl121_1
            have HR121_2 := Aside0.mk hi121_2
            have HC121_2 := Aside0.mk hl121_2
            clear hi121_2 hl121_2
            replace hx121_0 := (cell_far (p := ⟨gb119, 0, none⟩) (by first | (rw [add_block]; exact hn121_0) | (show (Addr.add _ _).block ≠ _; rw [add_block]; exact hn121_0) | exact hn121_0) (.string ((rd_T31 l0 x37_2).f0))).trans hx121_0
            replace hx121_1 := (cell_far (p := ⟨gb119, 0, none⟩) (by first | (rw [add_block]; exact hn121_0) | (show (Addr.add _ _).block ≠ _; rw [add_block]; exact hn121_0) | exact hn121_0) (.string ((rd_T31 l0 x37_2).f0))).trans hx121_1
            replace hx121_2 := (cell_far (p := ⟨gb119, 0, none⟩) (by first | (rw [add_block]; exact hn121_0) | (show (Addr.add _ _).block ≠ _; rw [add_block]; exact hn121_0) | exact hn121_0) (.string ((rd_T31 l0 x37_2).f0))).trans hx121_2
            replace hx121_0 := (cell_far (p := ⟨gb119, 1, none⟩) (by first | (rw [add_block]; exact hn121_1) | (show (Addr.add _ _).block ≠ _; rw [add_block]; exact hn121_1) | exact hn121_1) (.slice A118_1 ((rd_T31 l0 x37_2).f1).length c118_1)).trans hx121_0
            replace hx121_1 := (cell_far (p := ⟨gb119, 1, none⟩) (by first | (rw [add_block]; exact hn121_1) | (show (Addr.add _ _).block ≠ _; rw [add_block]; exact hn121_1) | exact hn121_1) (.slice A118_1 ((rd_T31 l0 x37_2).f1).length c118_1)).trans hx121_1
            replace hx121_2 := (cell_far (p := ⟨gb119, 1, none⟩) (by first | (rw [add_block]; exact hn121_1) | (show (Addr.add _ _).block ≠ _; rw [add_block]; exact hn121_1) | exact hn121_1) (.slice A118_1 ((rd_T31 l0 x37_2).f1).length c118_1)).trans hx121_2
            replace hx121_0 := (cell_far (p := ⟨gb119, 2, none⟩) (by first | (rw [add_block]; exact hn121_2) | (show (Addr.add _ _).block ≠ _; rw [add_block]; exact hn121_2) | exact hn121_2) (.slice A118_2 ((rd_T31 l0 x37_2).f2).length c118_2)).trans hx121_0
            replace hx121_1 := (cell_far (p := ⟨gb119, 2, none⟩) (by first | (rw [add_block]; exact hn121_2) | (show (Addr.add _ _).block ≠ _; rw [add_block]; exact hn121_2) | exact hn121_2) (.slice A118_2 ((rd_T31 l0 x37_2).f2).length c118_2)).trans hx121_1
            replace hx121_2 := (cell_far (p := ⟨gb119, 2, none⟩) (by first | (rw [add_block]; exact hn121_2) | (show (Addr.add _ _).block ≠ _; rw [add_block]; exact hn121_2) | exact hn121_2) (.slice A118_2 ((rd_T31 l0 x37_2).f2).length c118_2)).trans hx121_2
            (try have hy121_0 := fun (n_ : Nat) => (show (((((w18.drewN n_).setCell ⟨gb119, 0, none⟩ (.string ((rd_T31 l0 x37_2).f0))).setCell ⟨gb119, 1, none⟩ (.slice A118_1 ((rd_T31 l0 x37_2).f1).length c118_1)).setCell ⟨gb119, 2, none⟩ (.slice A118_2 ((rd_T31 l0 x37_2).f2).length c118_2))).cell? _ = some _ from hx121_0))
            (try have hy121_1 := fun (n_ : Nat) => (show (((((w18.drewN n_).setCell ⟨gb119, 0, none⟩ (.string ((rd_T31 l0 x37_2).f0))).setCell ⟨gb119, 1, none⟩ (.slice A118_1 ((rd_T31 l0 x37_2).f1).length c118_1)).setCell ⟨gb119, 2, none⟩ (.slice A118_2 ((rd_T31 l0 x37_2).f2).length c118_2))).cell? _ = some _ from hx121_1))
            (try have hy121_2 := fun (n_ : Nat) => (show (((((w18.drewN n_).setCell ⟨gb119, 0, none⟩ (.string ((rd_T31 l0 x37_2).f0))).setCell ⟨gb119, 1, none⟩ (.slice A118_1 ((rd_T31 l0 x37_2).f1).length c118_1)).setCell ⟨gb119, 2, none⟩ (.slice A118_2 ((rd_T31 l0 x37_2).f2).length c118_2))).cell? _ = some _ from hx121_2))
            clear hn121_0
            clear hn121_1
            clear hn121_2
            replace p121 := eq_true p121
            replace q121 := eq_true q121
            go_wp2
            repeat (go_quiet (fail); try go_wp2)
            go_meet
            case rel => exact ⟨_, (((((rd_T31 l0 x37_2).f1).length : Int) != (((rd_T31 l0 0).f1).length : Int))), (by first | rfl | (simp; done) | (simp [*]; done)), H', ⟨by have := HK1.out; have := HK2.out; first | omega | exact Nat.le_refl _⟩, ⟨by (with_reducible repeat (first | apply Kd.R_alloc | apply Kd.R_drewN | apply Kd.R_drew)); exact Kd.R_mono (Kd.R_far (p := ⟨gb119, 2, none⟩) (Kd.R_far (p := ⟨gb119, 1, none⟩) (Kd.R_far (p := ⟨gb119, 0, none⟩) (Kd.R_types HO_4.out BK119.out (by decide)) (fun _ hk => hk.2) (.string ((rd_T31 l0 x37_2).f0))) (fun _ hk => hk.2) (.slice A118_1 ((rd_T31 l0 x37_2).f1).length c118_1)) (fun _ hk => hk.2) (.slice A118_2 ((rd_T31 l0 x37_2).f2).length c118_2)) (fun _ hk => trivial)⟩, ⟨by (with_reducible repeat (first | refine blk_drewN ?_ _ | refine blk_drew ?_ | refine blk_alloc ?_ _)); refine blk_put (cs := #[.string ((rd_T31 l0 x37_2).f0), .slice A118_1 ((rd_T31 l0 x37_2).f1).length c118_1, .slice none 0 0]) ?_ 2 _ rfl; (with_reducible repeat (first | refine blk_drewN ?_ _ | refine blk_drew ?_ | refine blk_alloc ?_ _)); refine blk_put (cs := #[.string ((rd_T31 l0 x37_2).f0), .slice none 0 0, .slice none 0 0]) ?_ 1 _ rfl; (with_reducible repeat (first | refine blk_drewN ?_ _ | refine blk_drew ?_ | refine blk_alloc ?_ _)); refine blk_put (cs := #[.string (⟨#[]⟩ : ByteArray), .slice none 0 0, .slice none 0 0]) ?_ 0 _ rfl; (with_reducible repeat (first | refine blk_drewN ?_ _ | refine blk_drew ?_ | refine blk_alloc ?_ _)); exact BK119.out⟩, ⟨by repeat (first | (with_reducible first | exact HB.out | apply below_alloc | apply pw_below_drewN | apply below_drew1 | refine below_set ?_ GE119.out) | exact HB.out)⟩⟩
         ·rw [if_neg c21] at H
          have c21b0 : (((rd_T31 l0 x37_2).f0).toList == ((rd_T136 t112 x37_2).f1).toList) = false := beq_eq_false_iff_ne.mpr c21
          have c21b1 : (((rd_T31 l0 x37_2).f0).toList != ((rd_T136 t112 x37_2).f1).toList) = true := bne_iff_ne.mpr c21
          have H' := Aside0.mk H
          clear H
          have hcz28_0 : w18.cell? ⟨gb119, 0, none⟩ = some (.string (⟨#[]⟩ : ByteArray)) := (blk_cell BK119.out 0).trans rfl
          have hcz28_1 : w18.cell? ⟨gb119, 1, none⟩ = some (.slice none 0 0) := (blk_cell BK119.out 1).trans rfl
          have hcz28_2 : w18.cell? ⟨gb119, 2, none⟩ = some (.slice none 0 0) := (blk_cell BK119.out 2).trans rfl
          have hfz28_0 := blk_frozen BK119.out 0
          have hfz28_1 := blk_frozen BK119.out 1
          have hfz28_2 := blk_frozen BK119.out 2
          have p120 : 0 ≤ (x37_2 : Int) := of_decide_eq_true (by first | (with_reducible assumption) | assumption)
          have q120 : x37_2 < (t112.length : Int) := of_decide_eq_true (by first | (with_reducible assumption) | assumption)
          obtain ⟨ad120, e120, hx120_0, hx120_1⟩ := at_T136 (Kd.R_reads' HO_4.out).2.2 x37_2 p120 q120
          cases e120
          have hn120_0 : ad120.block ≠ gb119 := Kd.own_blk (Kd.R_ne HO_4.out BK119.out (by decide))
          have hn120_1 : ad120.block ≠ gb119 := Kd.own_blk (Kd.R_ne HO_4.out BK119.out (by decide))
          have hn120_2 : ad120.block ≠ gb119 := Kd.own_blk (Kd.R_ne HO_4.out BK119.out (by decide))
          replace hx120_0 := (cell_far (p := ⟨gb119, 0, none⟩) (by first | (rw [add_block]; exact hn120_0) | (show (Addr.add _ _).block ≠ _; rw [add_block]; exact hn120_0) | exact hn120_0) (.string ((rd_T31 l0 x37_2).f0))).trans hx120_0
          replace hx120_1 := (cell_far (p := ⟨gb119, 0, none⟩) (by first | (rw [add_block]; exact hn120_0) | (show (Addr.add _ _).block ≠ _; rw [add_block]; exact hn120_0) | exact hn120_0) (.string ((rd_T31 l0 x37_2).f0))).trans hx120_1
          replace hx120_0 := (cell_far (p := ⟨gb119, 1, none⟩) (by first | (rw [add_block]; exact hn120_1) | (show (Addr.add _ _).block ≠ _; rw [add_block]; exact hn120_1) | exact hn120_1) (.slice A118_1 ((rd_T31 l0 x37_2).f1).length c118_1)).trans hx120_0
          replace hx120_1 := (cell_far (p := ⟨gb119, 1, none⟩) (by first | (rw [add_block]; exact hn120_1) | (show (Addr.add _ _).block ≠ _; rw [add_block]; exact hn120_1) | exact hn120_1) (.slice A118_1 ((rd_T31 l0 x37_2).f1).length c118_1)).trans hx120_1
          replace hx120_0 := (cell_far (p := ⟨gb119, 2, none⟩) (by first | (rw [add_block]; exact hn120_2) | (show (Addr.add _ _).block ≠ _; rw [add_block]; exact hn120_2) | exact hn120_2) (.slice A118_2 ((rd_T31 l0 x37_2).f2).length c118_2)).trans hx120_0
          replace hx120_1 := (cell_far (p := ⟨gb119, 2, none⟩) (by first | (rw [add_block]; exact hn120_2) | (show (Addr.add _ _).block ≠ _; rw [add_block]; exact hn120_2) | exact hn120_2) (.slice A118_2 ((rd_T31 l0 x37_2).f2).length c118_2)).trans hx120_1
          (try have hy120_0 := fun (n_ : Nat) => (show (((((w18.drewN n_).setCell ⟨gb119, 0, none⟩ (.string ((rd_T31 l0 x37_2).f0))).setCell ⟨gb119, 1, none⟩ (.slice A118_1 ((rd_T31 l0 x37_2).f1).length c118_1)).setCell ⟨gb119, 2, none⟩ (.slice A118_2 ((rd_T31 l0 x37_2).f2).length c118_2))).cell? _ = some _ from hx120_0))
          (try have hy120_1 := fun (n_ : Nat) => (show (((((w18.drewN n_).setCell ⟨gb119, 0, none⟩ (.string ((rd_T31 l0 x37_2).f0))).setCell ⟨gb119, 1, none⟩ (.slice A118_1 ((rd_T31 l0 x37_2).f1).length c118_1)).setCell ⟨gb119, 2, none⟩ (.slice A118_2 ((rd_T31 l0 x37_2).f2).length c118_2))).cell? _ = some _ from hx120_1))
          clear hn120_0
          clear hn120_1
          clear hn120_2
          replace p120 := eq_true p120
          replace q120 := eq_true q120
          go_wp2
          repeat (go_quiet (fail); try go_wp2)
          go_meet
          case rel => exact ⟨_, (true), (by first | rfl | (simp; done) | (simp [*]; done)), H', ⟨by have := HK1.out; have := HK2.out; first | omega | exact Nat.le_refl _⟩, ⟨by (with_reducible repeat (first | apply Kd.R_alloc | apply Kd.R_drewN | apply Kd.R_drew)); exact Kd.R_mono (Kd.R_far (p := ⟨gb119, 2, none⟩) (Kd.R_far (p := ⟨gb119, 1, none⟩) (Kd.R_far (p := ⟨gb119, 0, none⟩) (Kd.R_types HO_4.out BK119.out (by decide)) (fun _ hk => hk.2) (.string ((rd_T31 l0 x37_2).f0))) (fun _ hk => hk.2) (.slice A118_1 ((rd_T31 l0 x37_2).f1).length c118_1)) (fun _ hk => hk.2) (.slice A118_2 ((rd_T31 l0 x37_2).f2).length c118_2)) (fun _ hk => trivial)⟩, ⟨by (with_reducible repeat (first | refine blk_drewN ?_ _ | refine blk_drew ?_ | refine blk_alloc ?_ _)); refine blk_put (cs := #[.string ((rd_T31 l0 x37_2).f0), .slice A118_1 ((rd_T31 l0 x37_2).f1).length c118_1, .slice none 0 0]) ?_ 2 _ rfl; (with_reducible repeat (first | refine blk_drewN ?_ _ | refine blk_drew ?_ | refine blk_alloc ?_ _)); refine blk_put (cs := #[.string ((rd_T31 l0 x37_2).f0), .slice none 0 0, .slice none 0 0]) ?_ 1 _ rfl; (with_reducible repeat (first | refine blk_drewN ?_ _ | refine blk_drew ?_ | refine blk_alloc ?_ _)); refine blk_put (cs := #[.string (⟨#[]⟩ : ByteArray), .slice none 0 0, .slice none 0 0]) ?_ 0 _ rfl; (with_reducible repeat (first | refine blk_drewN ?_ _ | refine blk_drew ?_ | refine blk_alloc ?_ _)); exact BK119.out⟩, ⟨by repeat (first | (with_reducible first | exact HB.out | apply below_alloc | apply pw_below_drewN | apply below_drew1 | refine below_set ?_ GE119.out) | exact HB.out)⟩⟩
        case rest =>
         clear HC17
         try clear c1
         try clear p1
         try clear q1
         try clear hx1
         try clear qi1
         try clear c2
         try clear p2
         try clear c3
         try clear c3b0
         try clear c3b1
         try clear c3b2
         try clear c4
         try clear c4b0
         try clear c4b1
         try clear p6
         try clear c7
         try clear c7b0
         try clear c9
         try clear c9b0
         try clear c9b1
         try clear c9b2
         try clear c11
         try clear c11b0
         try clear c11b1
         try clear c11b2
         try clear p11
         try clear q11
         try clear hx11
         try clear qi11
         try clear c12
         try clear p12
         try clear q12
         try clear hx12
         try clear qi12
         try clear c13
         try clear c13b0
         try clear c13b1
         try clear c13b2
         try clear c14
         try clear c14b0
         try clear c15
         try clear c15b0
         try clear c16
         try clear c16b0
         try clear c20
         try clear c20b0
         try clear c21
         try clear c21b0
         try clear c21b1
         try clear c22
         try clear c22b0
         try clear c22b1
         try clear c24
         try clear c24b0
         try clear c24b1
         try clear c26
         try clear c26b0
         try clear c26b1
         try clear hcz19_0
         try clear hcz19_1
         try clear hcz19_2
         try clear hcz23_0
         try clear hcz23_1
         try clear hcz23_2
         try clear hcz25_0
         try clear hcz25_1
         try clear hcz25_2
         try clear hcz27_0
         try clear hcz27_1
         try clear hcz27_2
         try clear hcz28_0
         try clear hcz28_1
         try clear hcz28_2
         try clear hfz19_0
         try clear hfz19_1
         try clear hfz19_2
         try clear hfz23_0
         try clear hfz23_1
         try clear hfz23_2
         try clear hfz25_0
         try clear hfz25_1
         try clear hfz25_2
         try clear hfz27_0
         try clear hfz27_1
         try clear hfz27_2
         try clear hfz28_0
         try clear hfz28_1
         try clear hfz28_2
         try clear hx115_0
         try clear hx115_1
         try clear hx115_2
         try clear hx118_0
         try clear hx118_1
         try clear hx118_2
         try clear hx120_0
         try clear hx120_1
         try clear hx121_0
         try clear hx121_1
         try clear hx121_2
         try clear p1
         try clear p11
         try clear p115
         try clear p118
         try clear p120
         try clear p121
         try clear p2
         try clear p6
         try clear q1
         try clear q11
         try clear q115
         try clear q118
         try clear q120
         try clear q121
         obtain ⟨kq, x72_16, rfl, HA, HJ16, HO_4, BK119, HB⟩ := hcut
         cases kq with
         | zero => exact absurd HA.out (by simp [spec_SoftirqsPrint.j2])
         | succ kj16 =>
          have H := HA.out
          clear HA
          simp only [spec_SoftirqsPrint.j2] at H
          by_cases c29 : x72_16 = true
          ·subst c29
           have H1 : (some ((⟨#[]⟩ : ByteArray), 2)) = some (r1, r2) := by rw [if_pos rfl] at H; exact H
           clear H
           have H := H1
           clear H1
           simp only [Option.some.injEq, Prod.mk.injEq] at H
           obtain ⟨rfl, rfl⟩ := H
           go_wp2
           repeat (go_quiet (fail); try go_wp2)
           go_ret2
           exact ⟨by first | rfl | (simp [errW_none, errW_some] <;> rfl) | (simp [*, errW_none, errW_some] <;> rfl), by repeat (first | (with_reducible first | exact HB.out | apply below_alloc | apply pw_below_drewN | apply below_drew1 | refine below_set ?_ GE119.out) | exact HB.out)⟩
          ·replace c29 := Bool.eq_false_iff.mpr c29
           subst c29
           have H1 : ((spec_Right.f kj16 ((rd_T31 l0 x37_2).f0) 12).bind fun t122 => (if t122.size + 1 ≤ 9223372036854775807 then (if x5_2.size + (t122 ++ (⟨#[58]⟩ : ByteArray)).size ≤ 9223372036854775807 then (spec_SoftirqsPrint.l2 kj16 l0 t112 (x5_2 ++ (t122 ++ (⟨#[58]⟩ : ByteArray))) l0 (l0.length : Int) x37_2 ((rd_T31 l0 x37_2).f1) (((rd_T31 l0 x37_2).f1).length : Int) 0) else (none)) else (none))) = some (r1, r2) := by rw [if_neg (show ¬ (false = true) by decide)] at H; exact H
           clear H
           have H := H1
           clear H1
           replace H := Option.bind_eq_some_iff.mp H
           obtain ⟨t122, A300, H⟩ := H
           try dsimp -simprocs only at H
           have A30 := Aside0.mk A300
           clear A300
           replace H := guard_inv H
           obtain ⟨c31, H⟩ := H
           have c31b0 := eq_true c31
           have c31b1 := decide_eq_true c31
           try have c31b2 := eq_false (Nat.not_lt.2 c31)
           replace H := guard_inv H
           obtain ⟨c32, H⟩ := H
           have c32b0 := eq_true c32
           have c32b1 := decide_eq_true c32
           try have c32b2 := eq_false (Nat.not_lt.2 c32)
           try have c32b5 : (9223372036854775807 < x5_2.size + (t122.size + 1)) = False := by have e_ := c32b2; (repeat rw [ByteArray.size_append] at e_); exact e_
           have H' := Aside0.mk H
           clear H
           have hcz33_0 : wc.cell? ⟨gb119, 0, none⟩ = some (.string ((rd_T31 l0 x37_2).f0)) := (blk_cell BK119.out 0).trans rfl
           have hcz33_1 : wc.cell? ⟨gb119, 1, none⟩ = some (.slice A118_1 ((rd_T31 l0 x37_2).f1).length c118_1) := (blk_cell BK119.out 1).trans rfl
           have hcz33_2 : wc.cell? ⟨gb119, 2, none⟩ = some (.slice A118_2 ((rd_T31 l0 x37_2).f2).length c118_2) := (blk_cell BK119.out 2).trans rfl
           have hfz33_0 := blk_frozen BK119.out 0
           have hfz33_1 := blk_frozen BK119.out 1
           have hfz33_2 := blk_frozen BK119.out 2
           go_wp2_with (first | (go_at_call 64; (with_reducible refine (spec_Right.calls kj16 ((rd_T31 l0 x37_2).f0) 12 t122 _ A30.out).mono ?_); rintro e w' ⟨rfl, ⟨nd, rfl⟩⟩; (try first | exact ⟨rfl, _, World.drewN_drewN _ _ _⟩ | exact ⟨rfl, _, Eq.trans (World.drewN_drewN _ _ _) (congrArg (World.drewN _) (Nat.add_assoc _ _ _))⟩)))
           repeat (go_quiet (first | (go_at_call 64; (with_reducible refine (spec_Right.calls kj16 ((rd_T31 l0 x37_2).f0) 12 t122 _ A30.out).mono ?_); rintro e w' ⟨rfl, ⟨nd, rfl⟩⟩; (try first | exact ⟨rfl, _, World.drewN_drewN _ _ _⟩ | exact ⟨rfl, _, Eq.trans (World.drewN_drewN _ _ _) (congrArg (World.drewN _) (Nat.add_assoc _ _ _))⟩))); try go_wp2_with (first | (go_at_call 64; (with_reducible refine (spec_Right.calls kj16 ((rd_T31 l0 x37_2).f0) 12 t122 _ A30.out).mono ?_); rintro e w' ⟨rfl, ⟨nd, rfl⟩⟩; (try first | exact ⟨rfl, _, World.drewN_drewN _ _ _⟩ | exact ⟨rfl, _, Eq.trans (World.drewN_drewN _ _ _) (congrArg (World.drewN _) (Nat.add_assoc _ _ _))⟩))))
           go_loopg [5, 82] kj16 (fun kq v5 v82 w' => ∃ (x5_4 : ByteArray) (x82_4 : Int), v5 = .string x5_4 ∧ v82 = .int .i64 x82_4 ∧ Aside0 (spec_SoftirqsPrint.l2 kq l0 t112 x5_4 l0 (l0.length : Int) x37_2 ((rd_T31 l0 x37_2).f1) (((rd_T31 l0 x37_2).f1).length : Int) x82_4 = some (r1, r2)) ∧ Aside0 (kq ≤ kj16) ∧ Aside0 (Kd.R k136 136 w' w.heap.size (fun _ => True) (.slice Ao6 t112.length co6) t112) ∧ Aside0 (w'.heap[gb119]? = some (.cells #[.string ((rd_T31 l0 x37_2).f0), (.slice A118_1 ((rd_T31 l0 x37_2).f1).length c118_1), (.slice A118_2 ((rd_T31 l0 x37_2).f2).length c118_2)] 31 (0, 0))) ∧ Aside0 (Below w.heap.size w w'))
           case atStart => exact ⟨(x5_2 ++ (t122 ++ (⟨#[58]⟩ : ByteArray))), (0), (by first | rfl | (simp; done) | (simp [*]; done)), (by first | rfl | (simp; done) | (simp [*]; done)), H', ⟨Nat.le_refl _⟩, ⟨by (with_reducible repeat (first | apply Kd.R_alloc | apply Kd.R_drewN | apply Kd.R_drew)); exact HO_4.out⟩, ⟨by (with_reducible repeat (first | refine blk_drewN ?_ _ | refine blk_drew ?_ | refine blk_alloc ?_ _)); exact BK119.out⟩, ⟨by repeat (first | (with_reducible first | exact HB.out | apply below_alloc | apply pw_below_drewN | apply below_drew1 | refine below_set ?_ GE119.out) | exact HB.out)⟩⟩
           case round =>
            clear H'
            try clear c1
            try clear p1
            try clear q1
            try clear hx1
            try clear qi1
            try clear c2
            try clear p2
            try clear c3
            try clear c3b0
            try clear c3b1
            try clear c3b2
            try clear c4
            try clear c4b0
            try clear c4b1
            try clear p6
            try clear c7
            try clear c7b0
            try clear c9
            try clear c9b0
            try clear c9b1
            try clear c9b2
            try clear c11
            try clear c11b0
            try clear c11b1
            try clear c11b2
            try clear p11
            try clear q11
            try clear hx11
            try clear qi11
            try clear c12
            try clear p12
            try clear q12
            try clear hx12
            try clear qi12
            try clear c13
            try clear c13b0
            try clear c13b1
            try clear c13b2
            try clear c14
            try clear c14b0
            try clear c15
            try clear c15b0
            try clear c16
            try clear c16b0
            try clear c20
            try clear c20b0
            try clear c21
            try clear c21b0
            try clear c21b1
            try clear c22
            try clear c22b0
            try clear c22b1
            try clear c24
            try clear c24b0
            try clear c24b1
            try clear c26
            try clear c26b0
            try clear c26b1
            try clear c29
            try clear c31
            try clear c31b0
            try clear c31b1
            try clear c31b2
            try clear c32
            try clear c32b0
            try clear c32b1
            try clear c32b2
            try clear hcz19_0
            try clear hcz19_1
            try clear hcz19_2
            try clear hcz23_0
            try clear hcz23_1
            try clear hcz23_2
            try clear hcz25_0
            try clear hcz25_1
            try clear hcz25_2
            try clear hcz27_0
            try clear hcz27_1
            try clear hcz27_2
            try clear hcz28_0
            try clear hcz28_1
            try clear hcz28_2
            try clear hcz33_0
            try clear hcz33_1
            try clear hcz33_2
            try clear hfz19_0
            try clear hfz19_1
            try clear hfz19_2
            try clear hfz23_0
            try clear hfz23_1
            try clear hfz23_2
            try clear hfz25_0
            try clear hfz25_1
            try clear hfz25_2
            try clear hfz27_0
            try clear hfz27_1
            try clear hfz27_2
            try clear hfz28_0
            try clear hfz28_1
            try clear hfz28_2
            try clear hfz33_0
            try clear hfz33_1
            try clear hfz33_2
            try clear hx115_0
            try clear hx115_1
            try clear hx115_2
            try clear hx118_0
            try clear hx118_1
            try clear hx118_2
            try clear hx120_0
            try clear hx120_1
            try clear hx121_0
            try clear hx121_1
            try clear hx121_2
            try clear p1
            try clear p11
            try clear p115
            try clear p118
            try clear p12
            try clear p120
            try clear p121
            try clear p2
            try clear p6
            try clear q1
            try clear q11
            try clear q115
            try clear q118
            try clear q12
            try clear q120
            try clear q121
            obtain ⟨x5_4, x82_4, rfl, rfl, HA, HK4, HO_4, BK119, HB⟩ := hrel
            cases gk with
            | zero => exact absurd HA.out (by simp [spec_SoftirqsPrint.l2])
            | succ k4 =>
             have H := HA.out
             clear HA
             simp only [spec_SoftirqsPrint.l2] at H
             by_cases c34 : x82_4 < (((rd_T31 l0 x37_2).f1).length : Int)
             ·rw [if_pos c34] at H
              have c34b0 : decide (x82_4 < (((rd_T31 l0 x37_2).f1).length : Int)) = true := decide_eq_true c34
              clear c34
              replace H := guard_inv H
              obtain ⟨c35, H⟩ := H
              have c35b0 : decide (0 ≤ x82_4) = true := decide_eq_true c35
              clear c35
              replace H := guard_inv H
              obtain ⟨c36, H⟩ := H
              have c36b0 : decide (x82_4 < (((rd_T31 l0 x37_2).f1).length : Int)) = true := decide_eq_true c36
              clear c36
              replace H := Option.bind_eq_some_iff.mp H
              obtain ⟨t124, A370, H⟩ := H
              try dsimp -simprocs only at H
              have A37 := Aside0.mk A370
              clear A370
              replace H := Option.bind_eq_some_iff.mp H
              obtain ⟨t125, A380, H⟩ := H
              try dsimp -simprocs only at H
              have A38 := Aside0.mk A380
              clear A380
              replace H := guard_inv H
              obtain ⟨c39, H⟩ := H
              have c39b0 := eq_true c39
              have c39b1 := decide_eq_true c39
              try have c39b2 := eq_false (Nat.not_lt.2 c39)
              replace H := guard_inv H
              obtain ⟨c40, H⟩ := H
              have c40b0 := eq_true c40
              have c40b1 := decide_eq_true c40
              try have c40b2 := eq_false (Nat.not_lt.2 c40)
              try have c40b5 : (9223372036854775807 < x5_4.size + (1 + t125.size)) = False := by have e_ := c40b2; (repeat rw [ByteArray.size_append] at e_); exact e_
              have H' := Aside0.mk H
              clear H
              have p123 : 0 ≤ (x82_4 : Int) := of_decide_eq_true (by first | (with_reducible assumption) | assumption)
              have q123 : x82_4 < (((rd_T31 l0 x37_2).f1).length : Int) := of_decide_eq_true (by first | (with_reducible assumption) | assumption)
              obtain ⟨ad123, e123, hx123_0⟩ := Kd.at_int HR118_1.out x82_4 p123 q123
              cases e123
              replace hx123_0 := (HB.out.cell (World.block_lt_of_cell? w _ hx123_0)).trans hx123_0
              replace p123 := eq_true p123
              replace q123 := eq_true q123
              go_wp2_with (first | (go_at_call 52; (with_reducible refine (spec_Text.calls k4 (rd ((rd_T31 l0 x37_2).f1) x82_4) t124 _ A37.out).mono ?_); rintro e w41 ⟨rfl, hb⟩; have n0_ := Aside0.mk (Kd.R_below (by (with_reducible repeat (first | apply Kd.R_alloc | apply Kd.R_drewN | apply Kd.R_drew)); exact HO_4.out) hb); have n1_ := Aside0.mk (blk_below (g := gb119) (o := .cells #[.string ((rd_T31 l0 x37_2).f0), .slice (some ad123) ((rd_T31 l0 x37_2).f1).length c118_1, .slice A118_2 ((rd_T31 l0 x37_2).f2).length c118_2] 31 (0, 0)) (by (with_reducible repeat (first | refine blk_drewN ?_ _ | refine blk_drew ?_ | refine blk_alloc ?_ _)); exact BK119.out) hb); have n2_ := Aside0.mk (below_step (by repeat (first | (with_reducible first | exact HB.out | apply below_alloc | apply pw_below_drewN | apply below_drew1 | refine below_set ?_ GE119.out) | exact HB.out)) hb); clear HO_4; clear BK119; clear HB; have HO_4 := n0_; have BK119 := n1_; have HB := n2_; clear n0_ n1_ n2_; (try clear hb); (try clear hb2); (try clear hk); (try clear hi)) | (go_at_call 64; (with_reducible refine (spec_Right.calls k4 t124 10 t125 _ A38.out).mono ?_); rintro e w' ⟨rfl, ⟨nd, rfl⟩⟩; (try first | exact ⟨rfl, _, World.drewN_drewN _ _ _⟩ | exact ⟨rfl, _, Eq.trans (World.drewN_drewN _ _ _) (congrArg (World.drewN _) (Nat.add_assoc _ _ _))⟩)))
              repeat (go_quiet (first | (go_at_call 52; (with_reducible refine (spec_Text.calls k4 (rd ((rd_T31 l0 x37_2).f1) x82_4) t124 _ A37.out).mono ?_); rintro e w41 ⟨rfl, hb⟩; have n0_ := Aside0.mk (Kd.R_below (by (with_reducible repeat (first | apply Kd.R_alloc | apply Kd.R_drewN | apply Kd.R_drew)); exact HO_4.out) hb); have n1_ := Aside0.mk (blk_below (g := gb119) (o := .cells #[.string ((rd_T31 l0 x37_2).f0), .slice (some ad123) ((rd_T31 l0 x37_2).f1).length c118_1, .slice A118_2 ((rd_T31 l0 x37_2).f2).length c118_2] 31 (0, 0)) (by (with_reducible repeat (first | refine blk_drewN ?_ _ | refine blk_drew ?_ | refine blk_alloc ?_ _)); exact BK119.out) hb); have n2_ := Aside0.mk (below_step (by repeat (first | (with_reducible first | exact HB.out | apply below_alloc | apply pw_below_drewN | apply below_drew1 | refine below_set ?_ GE119.out) | exact HB.out)) hb); clear HO_4; clear BK119; clear HB; have HO_4 := n0_; have BK119 := n1_; have HB := n2_; clear n0_ n1_ n2_; (try clear hb); (try clear hb2); (try clear hk); (try clear hi)) | (go_at_call 64; (with_reducible refine (spec_Right.calls k4 t124 10 t125 _ A38.out).mono ?_); rintro e w' ⟨rfl, ⟨nd, rfl⟩⟩; (try first | exact ⟨rfl, _, World.drewN_drewN _ _ _⟩ | exact ⟨rfl, _, Eq.trans (World.drewN_drewN _ _ _) (congrArg (World.drewN _) (Nat.add_assoc _ _ _))⟩))); try go_wp2_with (first | (go_at_call 52; (with_reducible refine (spec_Text.calls k4 (rd ((rd_T31 l0 x37_2).f1) x82_4) t124 _ A37.out).mono ?_); rintro e w41 ⟨rfl, hb⟩; have n0_ := Aside0.mk (Kd.R_below (by (with_reducible repeat (first | apply Kd.R_alloc | apply Kd.R_drewN | apply Kd.R_drew)); exact HO_4.out) hb); have n1_ := Aside0.mk (blk_below (g := gb119) (o := .cells #[.string ((rd_T31 l0 x37_2).f0), .slice (some ad123) ((rd_T31 l0 x37_2).f1).length c118_1, .slice A118_2 ((rd_T31 l0 x37_2).f2).length c118_2] 31 (0, 0)) (by (with_reducible repeat (first | refine blk_drewN ?_ _ | refine blk_drew ?_ | refine blk_alloc ?_ _)); exact BK119.out) hb); have n2_ := Aside0.mk (below_step (by repeat (first | (with_reducible first | exact HB.out | apply below_alloc | apply pw_below_drewN | apply below_drew1 | refine below_set ?_ GE119.out) | exact HB.out)) hb); clear HO_4; clear BK119; clear HB; have HO_4 := n0_; have BK119 := n1_; have HB := n2_; clear n0_ n1_ n2_; (try clear hb); (try clear hb2); (try clear hk); (try clear hi)) | (go_at_call 64; (with_reducible refine (spec_Right.calls k4 t124 10 t125 _ A38.out).mono ?_); rintro e w' ⟨rfl, ⟨nd, rfl⟩⟩; (try first | exact ⟨rfl, _, World.drewN_drewN _ _ _⟩ | exact ⟨rfl, _, Eq.trans (World.drewN_drewN _ _ _) (congrArg (World.drewN _) (Nat.add_assoc _ _ _))⟩))))
              go_roundg k4
              case measure => have := HK1.out; have := HK2.out; have := HJ16.out; have := HK4.out; omega
              case rel => exact ⟨(x5_4 ++ ((⟨#[32]⟩ : ByteArray) ++ t125)), (wrap64 (x82_4 + 1)), (by first | rfl | (simp; done) | (simp [*]; done)), (by first | rfl | (simp; done) | (simp [*]; done)), H', ⟨by have := HK1.out; have := HK2.out; have := HJ16.out; have := HK4.out; omega⟩, ⟨by (with_reducible repeat (first | apply Kd.R_alloc | apply Kd.R_drewN | apply Kd.R_drew)); exact HO_4.out⟩, ⟨by (with_reducible repeat (first | refine blk_drewN ?_ _ | refine blk_drew ?_ | refine blk_alloc ?_ _)); exact BK119.out⟩, ⟨by repeat (first | (with_reducible first | exact HB.out | apply below_alloc | apply pw_below_drewN | apply below_drew1 | refine below_set ?_ GE119.out) | exact HB.out)⟩⟩
             ·rw [if_neg c34] at H
              have c34b0 : decide (x82_4 < (((rd_T31 l0 x37_2).f1).length : Int)) = false := decide_eq_false c34
              clear c34
              replace H := guard_inv H
              obtain ⟨c42, H⟩ := H
              have c42b0 := eq_true c42
              have c42b1 := decide_eq_true c42
              try have c42b2 := eq_false (Nat.not_lt.2 c42)
              have H' := Aside0.mk H
              clear H
              go_wp2
              repeat (go_quiet (fail); try go_wp2)
              go_roundg k4
              case measure => have := HK1.out; have := HK2.out; have := HJ16.out; have := HK4.out; omega
              case rel => exact ⟨(x5_4 ++ (⟨#[10]⟩ : ByteArray)), (wrap64 (x37_2 + 1)), (by first | rfl | (simp; done) | (simp [*]; done)), (by first | rfl | (simp; done) | (simp [*]; done)), H', ⟨by have := HK1.out; have := HK2.out; have := HJ16.out; have := HK4.out; omega⟩, ⟨by (with_reducible repeat (first | apply Kd.R_alloc | apply Kd.R_drewN | apply Kd.R_drew)); exact HO_4.out⟩, ⟨by repeat (first | (with_reducible first | exact HB.out | apply below_alloc | apply pw_below_drewN | apply below_drew1 | refine below_set ?_ GE119.out) | exact HB.out)⟩⟩
       ·rw [if_neg c14] at H
        have c14b0 : decide (x37_2 < (l0.length : Int)) = false := decide_eq_false c14
        clear c14
        simp only [Option.some.injEq, Prod.mk.injEq] at H
        obtain ⟨rfl, rfl⟩ := H
        go_wp2
        repeat (go_quiet (fail); try go_wp2)
        go_ret2
        exact ⟨by first | rfl | (simp [errW_none, errW_some] <;> rfl) | (simp [*, errW_none, errW_some] <;> rfl), by repeat (first | (with_reducible first | exact HB.out | apply below_alloc | apply pw_below_drewN | apply below_drew1) | exact HB.out)⟩
 ·rw [if_neg c3] at H
  have c3b0 : ((l0.length : Int) == (t112.length : Int)) = false := beq_eq_false_iff_ne.mpr c3
  have c3b1 : ((l0.length : Int) != (t112.length : Int)) = true := bne_iff_ne.mpr c3
  have c3b2 : (l0.length == t112.length) = false := by first | simpa using c3 | (simp at c3 ⊢; omega)
  simp only [Option.some.injEq, Prod.mk.injEq] at H
  obtain ⟨rfl, rfl⟩ := H
  go_enter Tryz.func36, Tryz.ntmps36
  go_wp2_with (first | (go_at_call 114; (with_reducible refine (spec_softNames.calls  t112 _ A2.out).mono ?_); rintro e w43 ⟨v113, rfl, ho0, hb⟩; have n0_ := Aside0.mk (Kd.R_lower ho0 (below_size (by repeat (first | (with_reducible first | exact HB.out | apply below_alloc | apply pw_below_drewN | apply below_drew1) | exact HB.out)))); have n1_ := Aside0.mk (below_step (by repeat (first | (with_reducible first | exact HB.out | apply below_alloc | apply pw_below_drewN | apply below_drew1) | exact HB.out)) hb); clear HB; have HO114 := n0_; have HB := n1_; clear n0_ n1_; (try clear hb); (try clear hb2); (try clear hk); (try clear hi); (try clear ho0); obtain ⟨Ao44, co44, eo44⟩ := Kd.R_slice HO114.out; subst eo44))
  repeat (go_quiet (first | (go_at_call 114; (with_reducible refine (spec_softNames.calls  t112 _ A2.out).mono ?_); rintro e w43 ⟨v113, rfl, ho0, hb⟩; have n0_ := Aside0.mk (Kd.R_lower ho0 (below_size (by repeat (first | (with_reducible first | exact HB.out | apply below_alloc | apply pw_below_drewN | apply below_drew1) | exact HB.out)))); have n1_ := Aside0.mk (below_step (by repeat (first | (with_reducible first | exact HB.out | apply below_alloc | apply pw_below_drewN | apply below_drew1) | exact HB.out)) hb); clear HB; have HO114 := n0_; have HB := n1_; clear n0_ n1_; (try clear hb); (try clear hb2); (try clear hk); (try clear hi); (try clear ho0); obtain ⟨Ao44, co44, eo44⟩ := Kd.R_slice HO114.out; subst eo44)); try go_wp2_with (first | (go_at_call 114; (with_reducible refine (spec_softNames.calls  t112 _ A2.out).mono ?_); rintro e w43 ⟨v113, rfl, ho0, hb⟩; have n0_ := Aside0.mk (Kd.R_lower ho0 (below_size (by repeat (first | (with_reducible first | exact HB.out | apply below_alloc | apply pw_below_drewN | apply below_drew1) | exact HB.out)))); have n1_ := Aside0.mk (below_step (by repeat (first | (with_reducible first | exact HB.out | apply below_alloc | apply pw_below_drewN | apply below_drew1) | exact HB.out)) hb); clear HB; have HO114 := n0_; have HB := n1_; clear n0_ n1_; (try clear hb); (try clear hb2); (try clear hk); (try clear hi); (try clear ho0); obtain ⟨Ao44, co44, eo44⟩ := Kd.R_slice HO114.out; subst eo44)))
  go_ret2
  exact ⟨by first | rfl | (simp [errW_none, errW_some] <;> rfl) | (simp [*, errW_none, errW_some] <;> rfl), by repeat (first | (with_reducible first | exact HB.out | apply below_alloc | apply pw_below_drewN | apply below_drew1) | exact HB.out)⟩
end Go.Proofs.YtednjmngalmdkaaGreatDoor.GPC
end
section
namespace Go.Proofs.YtednjmngalmdkaaGreatDoor.GPC
open Go.RowKit Go.Proofs.YtednjmngalmdkaaGreatDoorW.PrintWords Go.Proofs.YtednjmngalmdkaaGreatDoorW.PrintLast Go.Proofs.YtednjmngalmdkaaGreatDoorW.PrintMore
attribute [local go_sem] max2_int min2_int max_two min_two max_three min_three max_four min_four   -- for this text's walks alone
set_option linter.unusedVariables false
set_option linter.unusedSimpArgs false

attribute [local go_sem] run_store_float
/-! ### spec_nums: function 115 -/
def spec_nums.l0 : Nat → ByteArray → List (S39) → List Int → Int → Int → Option (ByteArray × Int × Bool × Int × Int × Nat × ByteArray × (List (S39)))
 | 0, _, _, _, _, _ => none
 | k + 1, x0, x5, x8, x9, x10 => if x10 < x9 then (if 0 ≤ x10 then (if x10 < (x8.length : Int) then ((spec_uintNode.f (⟨#[]⟩ : ByteArray) (rd x8 x10)).bind fun bt131 => (if x5.length < 1466015503701 then (spec_nums.l0 k x0 (x5 ++ [(⟨bt131.1, bt131.2.1, bt131.2.2.1, bt131.2.2.2.1, bt131.2.2.2.2.1, bt131.2.2.2.2.2.1, bt131.2.2.2.2.2.2.1, bt131.2.2.2.2.2.2.2⟩ : S39)]) x8 x9 (wrap64 (x10 + 1))) else (none))) else (none)) else (none)) else ((spec_listNode.f x0 x5).bind fun bt144 => (some (bt144.1, bt144.2.1, bt144.2.2.1, bt144.2.2.2.1, bt144.2.2.2.2.1, bt144.2.2.2.2.2.1, bt144.2.2.2.2.2.2.1, bt144.2.2.2.2.2.2.2)))
def spec_nums.f (k : Nat) (a0 : ByteArray) (l1 : List Int) : Option (ByteArray × Int × Bool × Int × Int × Nat × ByteArray × (List (S39))) := spec_nums.l0 k a0 ([] : List (S39)) l1 (l1.length : Int) 0
theorem spec_nums.mono_l : ∀ k, (∀ y0 y1 y2 y3 y4, LeO (spec_nums.l0 k y0 y1 y2 y3 y4) (spec_nums.l0 (k + 1) y0 y1 y2 y3 y4))
 | 0 => fun _ _ _ _ _ r h => by simp [spec_nums.l0] at h
 | k + 1 => by
  have ih0 := spec_nums.mono_l k
  ·intro y0 y1 y2 y3 y4
   unfold spec_nums.l0
   repeat' first
   | (with_reducible exact ih0 _ _ _ _ _)
   | (with_reducible exact LeO.refl _)
   | (with_reducible exact LeO.none _)
   | (with_reducible refine LeO.ite ?_ ?_)
   | (with_reducible refine LeO.bind ?_ (fun _ => ?_))
   | exact ih0 _ _ _ _ _
   | exact LeO.none _
   | refine LeO.ite ?_ ?_
   | refine LeO.bind ?_ (fun _ => ?_)
theorem spec_nums.mono : ∀ a0 a1 k, LeO (spec_nums.f k a0 a1) (spec_nums.f (k + 1) a0 a1) := by
 intro a0 a1 k
 have ih0 := spec_nums.mono_l k
 unfold spec_nums.f
 repeat' first
   | (with_reducible exact ih0 _ _ _ _ _)
   | (with_reducible exact LeO.refl _)
   | (with_reducible exact LeO.none _)
   | (with_reducible refine LeO.ite ?_ ?_)
   | (with_reducible refine LeO.bind ?_ (fun _ => ?_))
   | exact ih0 _ _ _ _ _
   | exact LeO.none _
   | refine LeO.ite ?_ ?_
   | refine LeO.bind ?_ (fun _ => ?_)
set_option maxHeartbeats 8000000 in
set_option maxRecDepth 100000 in
theorem spec_nums.calls (k : Nat) (a0 : ByteArray) (A1 : Option Addr) (c1 : Nat) (l1 : List Int) (r1 : ByteArray) (r2 : Int) (r3 : Bool) (r4 : Int) (r5 : Int) (r6 : Nat) (r7 : ByteArray) (r8 : List (S39)) (w : World) (hr1 : Kd.C (Kd.int .u64) w A1 l1.length l1) (hc1 : l1.length ≤ c1) (h : spec_nums.f k a0 l1 = some (r1, r2, r3, r4, r5, r6, r7, r8)) :
  Calls Tryz.prog 115 #[.string a0, .slice A1 l1.length c1] w fun e w' => ∃ v7_ : Value, e = .returned (.agg #[.string r1, .int .i64 r2, .bool r3, .int .i64 r4, .int .u64 r5, .float .f64 r6, .string r7, v7_]) ∧ Kd.V k39 39 w' w.heap.size (fun k_ => (w.heap.size ≤ k_)) v7_ r8 ∧ Below w.heap.size w w' := by
 have hu39 := Tryz.underlying39
 have HR1 := Aside0.mk hr1
 have HC1 := Aside0.mk hc1
 clear hr1 hc1
 have HB := Aside0.mk (Below.refl w.heap.size w)
 have H : (spec_nums.l0 k a0 ([] : List (S39)) l1 (l1.length : Int) 0) = some (r1, r2, r3, r4, r5, r6, r7, r8) := h
 clear h
 have H' := Aside0.mk H
 clear H
 go_enter Tryz.func115, Tryz.ntmps115
 go_wp2_with (first | ((with_reducible refine gate_dst (N := 4) rfl ?_); refine box_event ?hg (N := 4) ?hd (cs := #[.string (⟨#[]⟩ : ByteArray), .int .i64 0, .bool false, .int .i64 0, .int .u64 0, .float .f64 0, .string (⟨#[]⟩ : ByteArray), .slice none 0 0]) (t := 39) ?hr ?_; (case hd => rfl); (case hg => rfl); (case hr => first | (go_simp; done) | (go_simp; rfl)); intro gb129 hg w3 hbox hb; have n0_ := Aside0.mk (below_step (by repeat (first | (with_reducible first | exact HB.out | apply below_alloc | apply pw_below_drewN | apply below_drew1) | exact HB.out)) hb); have n1_ := Aside0.mk (hbox); have n2_ := Aside0.mk ((by rw [hg]; exact (below_size (by repeat (first | (with_reducible first | exact HB.out | apply below_alloc | apply pw_below_drewN | apply below_drew1) | exact HB.out))) : w.heap.size ≤ gb129)); have n3_ := Aside0.mk ((by rw [hg]; exact (below_size (by repeat (first | (with_reducible first | exact HB.out | apply below_alloc | apply pw_below_drewN | apply below_drew1) | exact HB.out))) : w.heap.size ≤ gb129)); clear HB; have HB := n0_; have BK129 := n1_; have GW129 := n2_; have GE129 := n3_; clear n0_ n1_ n2_ n3_; clear hb hbox hg))
 go_loopg [5, 10] k (fun kq v5 v10 w' => ∃ (x5_1 : List (S39)) (x10_1 : Int), v10 = .int .i64 x10_1 ∧ Aside0 (spec_nums.l0 kq a0 x5_1 l1 (l1.length : Int) x10_1 = some (r1, r2, r3, r4, r5, r6, r7, r8)) ∧ Aside0 (kq ≤ k) ∧ Aside0 (Kd.R k39 39 w' w.heap.size (fun k_ => (w.heap.size ≤ k_) ∧ k_ ≠ gb129) v5 x5_1) ∧ Aside0 (w'.heap[gb129]? = some (.cells #[.string (⟨#[]⟩ : ByteArray), .int .i64 0, .bool false, .int .i64 0, .int .u64 0, .float .f64 0, .string (⟨#[]⟩ : ByteArray), (.slice none 0 0)] 39 (0, 0))) ∧ Aside0 (Below w.heap.size w w'))
 case atStart => exact ⟨(([] : List (S39))), (0), (by first | rfl | (simp; done) | (simp [*]; done)), H', ⟨Nat.le_refl _⟩, ⟨by first | exact Kd.R_nil _ _ _ _ _ | exact Kd.N_nil _ _ _ _ _ | exact Kd.V_nil _ _ _ _ _ | exact Kd.Q_nil _ _ _ _ _ | exact Kd.S_nil _ _ _ _ _⟩, ⟨by (with_reducible repeat (first | refine blk_drewN ?_ _ | refine blk_drew ?_ | refine blk_alloc ?_ _)); exact BK129.out⟩, ⟨by repeat (first | (with_reducible first | exact HB.out | apply below_alloc | apply pw_below_drewN | apply below_drew1 | refine below_set ?_ GE129.out) | exact HB.out)⟩⟩
 case round =>
  clear H'
  try clear c1
  try clear p2
  obtain ⟨x5_1, x10_1, rfl, HA, HK1, HO_5, BK129, HB⟩ := hrel
  cases gk with
  | zero => exact absurd HA.out (by simp [spec_nums.l0])
  | succ k1 =>
   have H := HA.out
   clear HA
   simp only [spec_nums.l0] at H
   by_cases c4 : x10_1 < (l1.length : Int)
   ·rw [if_pos c4] at H
    have c4b0 : decide (x10_1 < (l1.length : Int)) = true := decide_eq_true c4
    clear c4
    replace H := guard_inv H
    obtain ⟨c5, H⟩ := H
    have c5b0 : decide (0 ≤ x10_1) = true := decide_eq_true c5
    clear c5
    replace H := guard_inv H
    obtain ⟨c6, H⟩ := H
    have c6b0 : decide (x10_1 < (l1.length : Int)) = true := decide_eq_true c6
    clear c6
    replace H := Option.bind_eq_some_iff.mp H
    obtain ⟨⟨t131, t132, t133, t134, t135, t136, t137, t138⟩, A70, H⟩ := H
    replace H : (if x5_1.length < 1466015503701 then (spec_nums.l0 k1 a0 (x5_1 ++ [(⟨t131, t132, t133, t134, t135, t136, t137, t138⟩ : S39)]) l1 (l1.length : Int) (wrap64 (x10_1 + 1))) else (none)) = some (r1, r2, r3, r4, r5, r6, r7, r8) := H
    have A7 := Aside0.mk A70
    clear A70
    replace H := guard_inv H
    obtain ⟨c8, H⟩ := H
    have LMc8 := Aside0.mk c8
    clear c8
    obtain ⟨y141, hy141⟩ : ∃ y_ : List (S39), y_ = (x5_1 ++ [(⟨t131, t132, t133, t134, t135, t136, t137, t138⟩ : S39)]) := ⟨_, rfl⟩
    replace H : (spec_nums.l0 k1 a0 y141 l1 (l1.length : Int) (wrap64 (x10_1 + 1))) = some (r1, r2, r3, r4, r5, r6, r7, r8) := by first | (rw [hy141]; with_reducible exact H) | (have H2_ := (Option.bind_some _ _).symm.trans H; rw [hy141]; with_reducible exact H2_) | (have H2_ := (Option.bind_some _ _).symm.trans H; with_reducible exact H2_) | with_reducible exact H | (rw [hy141]; exact H) | exact H
    have Ny141 := Aside0.mk hy141
    clear hy141
    have H' := Aside0.mk H
    clear H
    have p130 : 0 ≤ (x10_1 : Int) := of_decide_eq_true (by first | (with_reducible assumption) | assumption)
    have q130 : x10_1 < (l1.length : Int) := of_decide_eq_true (by first | (with_reducible assumption) | assumption)
    obtain ⟨ad130, e130, hx130_0⟩ := Kd.at_int HR1.out x10_1 p130 q130
    cases e130
    replace hx130_0 := (HB.out.cell (World.block_lt_of_cell? w _ hx130_0)).trans hx130_0
    replace p130 := eq_true p130
    replace q130 := eq_true q130
    go_wp2_with (first | ((with_reducible refine gate_callee (f := 75) rfl ?_); refine goesL_ (some 16) rfl rfl Tryz.func75 (by kernel_rfl) rfl #[.string (⟨#[]⟩ : ByteArray), .int .u64 (rd l1 x10_1)] rfl (by (try simp only [List.map_toArray, List.map_cons, List.map_nil]); first | done | rfl | (simp only [List.length_drop, List.length_take]; rfl)) ?_; (with_reducible refine (spec_uintNode.calls (⟨#[]⟩ : ByteArray) (rd l1 x10_1) t131 t132 t133 t134 t135 t136 t137 t138 _ A7.out).mono ?_); rintro e w9 ⟨v139, rfl, ho0, hb⟩; refine ⟨_, rfl, ?_⟩; have n0_ := Aside0.mk (Kd.R_elder' (by (with_reducible repeat (first | apply Kd.R_alloc | apply Kd.R_drewN | apply Kd.R_drew)); exact HO_5.out) (by first | exact Kd.R_base ho0 | exact Kd.R_base ho0) hb); have n1_ := Aside0.mk (Kd.R_lower (Kd.R_newB (Kd.R_new' (Kd.R_newM (M := fun k_ => (w.heap.size ≤ k_)) ho0 (below_size (by repeat (first | (with_reducible first | exact HB.out | apply below_alloc | apply pw_below_drewN | apply below_drew1 | refine below_set ?_ GE129.out) | exact HB.out))) (fun k_ h_ => h_)) (Kd.R_lt (by (with_reducible repeat (first | apply Kd.R_alloc | apply Kd.R_drewN | apply Kd.R_drew)); exact HO_5.out))) (g := gb129) (o := .cells #[.string (⟨#[]⟩ : ByteArray), .int .i64 0, .bool false, .int .i64 0, .int .u64 0, .float .f64 0, .string (⟨#[]⟩ : ByteArray), .slice none 0 0] 39 (0, 0)) (by (with_reducible repeat (first | refine blk_drewN ?_ _ | refine blk_drew ?_ | refine blk_alloc ?_ _)); exact BK129.out)) (below_size (by repeat (first | (with_reducible first | exact HB.out | apply below_alloc | apply pw_below_drewN | apply below_drew1 | refine below_set ?_ GE129.out) | exact HB.out)))); have n2_ := Aside0.mk (blk_below (g := gb129) (o := .cells #[.string (⟨#[]⟩ : ByteArray), .int .i64 0, .bool false, .int .i64 0, .int .u64 0, .float .f64 0, .string (⟨#[]⟩ : ByteArray), .slice none 0 0] 39 (0, 0)) (by (with_reducible repeat (first | refine blk_drewN ?_ _ | refine blk_drew ?_ | refine blk_alloc ?_ _)); exact BK129.out) hb); have n3_ := Aside0.mk (below_step (by repeat (first | (with_reducible first | exact HB.out | apply below_alloc | apply pw_below_drewN | apply below_drew1 | refine below_set ?_ GE129.out) | exact HB.out)) hb); clear HO_5; clear BK129; clear HB; have HO_5 := n0_; have HO140 := n1_; have BK129 := n2_; have HB := n3_; clear n0_ n1_ n2_ n3_; (try clear hb); (try clear hb2); (try clear hk); (try clear hi); (try clear ho0); obtain ⟨Ao11, co11, eo11⟩ := Kd.R_slice HO140.out; subst eo11) | ((with_reducible refine gate_builtin (b := .append) (xs := #[.tmp 14, .tmp 17]) rfl ?_); at_builtin; refine Kd.R_append k39 (w0 := w) w.heap.size rfl (.tmp 14) (.tmp 17) 37 39 (.agg #[(.string ⟨#[]⟩), (.int .i64 0), (.bool false), (.int .i64 0), (.int .u64 0), (.float .f64 0), (.string ⟨#[]⟩), (.slice none 0 0)]) 96 rfl Tryz.underlying37 info39 rfl (by decide) (by omega) u5 x5_1 (⟨t131, t132, t133, t134, t135, t136, t137, t138⟩ : S39) [.string t131, .int .i64 t132, .bool t133, .int .i64 t134, .int .u64 t135, .float .f64 t136, .string t137, .slice Ao11 t138.length co11] (fun k_ => (w.heap.size ≤ k_) ∧ k_ ≠ gb129) (fun k_ => ((fun k_ => (w.heap.size ≤ k_) ∧ k_ ≠ gb129)) k_ ∧ some k_ ≠ (u5 : Value).ownBlock) rfl rfl ?aP (fun _ hk => hk) ?aF ?aO ?aB ?aS ?aL ?_; (case aP => exact k39_mkM _ _ _ (⟨t131, t132, t133, t134, t135, t136, t137, t138⟩ : S39) (Kd.R_mono (HO140.out) (fun k_ hk => ⟨⟨hk.1.1.1, hk.2⟩, hk.1.2⟩))); (case aB => exact (by repeat (first | (with_reducible first | exact HB.out | apply below_alloc | apply pw_below_drewN | apply below_drew1 | refine below_set ?_ GE129.out) | exact HB.out))); (case aF => exact (fun k_ hk => ⟨(Nat.le_trans (below_size (by repeat (first | (with_reducible first | exact HB.out | apply below_alloc | apply pw_below_drewN | apply below_drew1 | refine below_set ?_ GE129.out) | exact HB.out))) hk), Kd.freshB (g := gb129) (o := .cells #[.string (⟨#[]⟩ : ByteArray), .int .i64 0, .bool false, .int .i64 0, .int .u64 0, .float .f64 0, .string (⟨#[]⟩ : ByteArray), .slice none 0 0] 39 (0, 0)) (by (with_reducible repeat (first | refine blk_drewN ?_ _ | refine blk_drew ?_ | refine blk_alloc ?_ _)); exact BK129.out) k_ hk⟩)); (case aO => exact (by (with_reducible repeat (first | apply Kd.R_alloc | apply Kd.R_drewN | apply Kd.R_drew)); exact Kd.R_mono HO_5.out (fun _ hk => ⟨hk.1.1, hk.1.2⟩))); (case aS => exact (below_size (by repeat (first | (with_reducible first | exact HB.out | apply below_alloc | apply pw_below_drewN | apply below_drew1 | refine below_set ?_ GE129.out) | exact HB.out)))); (case aL => have := LMc8.out; omega); intro v142 w10 ho hb hg hat; rw [← Ny141.out] at ho; have n0_ := Aside0.mk (blk_grown (g := gb129) (o := .cells #[.string (⟨#[]⟩ : ByteArray), .int .i64 0, .bool false, .int .i64 0, .int .u64 0, .float .f64 0, .string (⟨#[]⟩ : ByteArray), .slice none 0 0] 39 (0, 0)) (by (with_reducible repeat (first | refine blk_drewN ?_ _ | refine blk_drew ?_ | refine blk_alloc ?_ _)); exact BK129.out) hg (Kd.R_away HO_5.out (fun _ hk => hk.1.2))); have n1_ := Aside0.mk (hb); have n2_ := Aside0.mk (ho); clear BK129; clear HB; clear HO_5; clear HO140; have BK129 := n0_; have HB := n1_; have HO143 := n2_; clear n0_ n1_ n2_; clear ho hb hg hat))
    go_roundg k1
    case measure => have := HK1.out; omega
    case rel => exact ⟨(y141), (wrap64 (x10_1 + 1)), (by first | rfl | (simp; done) | (simp [*]; done)), H', ⟨by have := HK1.out; omega⟩, ⟨by (with_reducible repeat (first | apply Kd.R_alloc | apply Kd.R_drewN | apply Kd.R_drew)); exact HO143.out⟩, ⟨by (with_reducible repeat (first | refine blk_drewN ?_ _ | refine blk_drew ?_ | refine blk_alloc ?_ _)); exact BK129.out⟩, ⟨by repeat (first | (with_reducible first | exact HB.out | apply below_alloc | apply pw_below_drewN | apply below_drew1 | refine below_set ?_ GE129.out) | exact HB.out)⟩⟩
   ·rw [if_neg c4] at H
    have c4b0 : decide (x10_1 < (l1.length : Int)) = false := decide_eq_false c4
    clear c4
    replace H := Option.bind_eq_some_iff.mp H
    obtain ⟨⟨t144, t145, t146, t147, t148, t149, t150, t151⟩, A120, H⟩ := H
    replace H : (some (t144, t145, t146, t147, t148, t149, t150, t151)) = some (r1, r2, r3, r4, r5, r6, r7, r8) := H
    have A12 := Aside0.mk A120
    clear A120
    simp only [Option.some.injEq, Prod.mk.injEq] at H
    obtain ⟨rfl, rfl, rfl, rfl, rfl, rfl, rfl, rfl⟩ := H
    obtain ⟨Ao13, co13, eo13⟩ := Kd.R_slice HO_5.out
    subst eo13
    go_wp2_with (first | ((with_reducible refine gate_callee (f := 66) rfl ?_); refine goesL_ (some 22) rfl rfl Tryz.func66 (by kernel_rfl) rfl #[.string a0, .slice Ao13 x5_1.length co13] rfl (by (try simp only [List.map_toArray, List.map_cons, List.map_nil]); first | done | rfl | (simp only [List.length_drop, List.length_take]; rfl)) ?_; (with_reducible refine (spec_listNode.calls a0 (fun k_ => ((w.heap.size ≤ k_) ∧ k_ ≠ gb129)) _ _ x5_1 t144 t145 t146 t147 t148 t149 t150 t151 _ ?side1 A12.out).mono ?_); (case side1 => exact Kd.R_V (HO_5.out)); rintro e w14 ⟨v152, rfl, ho0, hb⟩; refine ⟨_, rfl, ?_⟩; have n0_ := Aside0.mk (Kd.R_below (by (with_reducible repeat (first | apply Kd.R_alloc | apply Kd.R_drewN | apply Kd.R_drew)); exact HO_5.out) hb); have n1_ := Aside0.mk (Kd.V_lower (Kd.V_mono (ok' := fun k_ => (w.heap.size ≤ k_) ∧ k_ ≠ gb129) ho0 (fun k_ hk_ => ⟨Or.elim hk_ (fun hs_ => hs_.1) (fun hn_ => (Nat.le_trans (below_size (by repeat (first | (with_reducible first | exact HB.out | apply below_alloc | apply pw_below_drewN | apply below_drew1 | refine below_set ?_ GE129.out) | exact HB.out))) hn_)), Or.elim hk_ (fun hs_ => hs_.2) (fun hn_ => (Kd.freshB (g := gb129) (o := .cells #[.string (⟨#[]⟩ : ByteArray), .int .i64 0, .bool false, .int .i64 0, .int .u64 0, .float .f64 0, .string (⟨#[]⟩ : ByteArray), .slice none 0 0] 39 (0, 0)) (by (with_reducible repeat (first | refine blk_drewN ?_ _ | refine blk_drew ?_ | refine blk_alloc ?_ _)); exact BK129.out) k_ hn_))⟩)) (below_size (by repeat (first | (with_reducible first | exact HB.out | apply below_alloc | apply pw_below_drewN | apply below_drew1 | refine below_set ?_ GE129.out) | exact HB.out)))); have n2_ := Aside0.mk (blk_below (g := gb129) (o := .cells #[.string (⟨#[]⟩ : ByteArray), .int .i64 0, .bool false, .int .i64 0, .int .u64 0, .float .f64 0, .string (⟨#[]⟩ : ByteArray), .slice none 0 0] 39 (0, 0)) (by (with_reducible repeat (first | refine blk_drewN ?_ _ | refine blk_drew ?_ | refine blk_alloc ?_ _)); exact BK129.out) hb); have n3_ := Aside0.mk (below_step (by repeat (first | (with_reducible first | exact HB.out | apply below_alloc | apply pw_below_drewN | apply below_drew1 | refine below_set ?_ GE129.out) | exact HB.out)) hb); clear HO_5; clear BK129; clear HB; have HO_5 := n0_; have HO153 := n1_; have BK129 := n2_; have HB := n3_; clear n0_ n1_ n2_ n3_; (try clear hb); (try clear hb2); (try clear hk); (try clear hi); (try clear ho0); have hcz15_0 : w14.cell? ⟨gb129, 0, none⟩ = some (.string (⟨#[]⟩ : ByteArray)) := (blk_cell BK129.out 0).trans rfl; have hcz15_1 : w14.cell? ⟨gb129, 1, none⟩ = some (.int .i64 0) := (blk_cell BK129.out 1).trans rfl; have hcz15_2 : w14.cell? ⟨gb129, 2, none⟩ = some (.bool false) := (blk_cell BK129.out 2).trans rfl; have hcz15_3 : w14.cell? ⟨gb129, 3, none⟩ = some (.int .i64 0) := (blk_cell BK129.out 3).trans rfl; have hcz15_4 : w14.cell? ⟨gb129, 4, none⟩ = some (.int .u64 0) := (blk_cell BK129.out 4).trans rfl; have hcz15_5 : w14.cell? ⟨gb129, 5, none⟩ = some (.float .f64 0) := (blk_cell BK129.out 5).trans rfl; have hcz15_6 : w14.cell? ⟨gb129, 6, none⟩ = some (.string (⟨#[]⟩ : ByteArray)) := (blk_cell BK129.out 6).trans rfl; have hcz15_7 : w14.cell? ⟨gb129, 7, none⟩ = some (.slice none 0 0) := (blk_cell BK129.out 7).trans rfl; have hfz15_0 := blk_frozen BK129.out 0; have hfz15_1 := blk_frozen BK129.out 1; have hfz15_2 := blk_frozen BK129.out 2; have hfz15_3 := blk_frozen BK129.out 3; have hfz15_4 := blk_frozen BK129.out 4; have hfz15_5 := blk_frozen BK129.out 5; have hfz15_6 := blk_frozen BK129.out 6; have hfz15_7 := blk_frozen BK129.out 7; obtain ⟨Ao16, co16, eo16⟩ := Kd.V_slice HO153.out; subst eo16))
    refine bodyPost_ret (results_cell_row rfl _ _ gb129 39 #[.string t144, .int .i64 t145, .bool t146, .int .i64 t147, .int .u64 t148, .float .f64 t149, .string t150, .slice Ao16 t151.length co16] (0, 0) _ rfl (by (with_reducible repeat (first | refine blk_drewN ?_ _ | refine blk_drew ?_ | refine blk_alloc ?_ _)); refine blk_put (cs := #[.string t144, .int .i64 t145, .bool t146, .int .i64 t147, .int .u64 t148, .float .f64 t149, .string t150, .slice none 0 0]) ?_ 7 _ rfl; (with_reducible repeat (first | refine blk_drewN ?_ _ | refine blk_drew ?_ | refine blk_alloc ?_ _)); refine blk_put (cs := #[.string t144, .int .i64 t145, .bool t146, .int .i64 t147, .int .u64 t148, .float .f64 t149, .string (⟨#[]⟩ : ByteArray), .slice none 0 0]) ?_ 6 _ rfl; (with_reducible repeat (first | refine blk_drewN ?_ _ | refine blk_drew ?_ | refine blk_alloc ?_ _)); refine blk_put (cs := #[.string t144, .int .i64 t145, .bool t146, .int .i64 t147, .int .u64 t148, .float .f64 0, .string (⟨#[]⟩ : ByteArray), .slice none 0 0]) ?_ 5 _ rfl; (with_reducible repeat (first | refine blk_drewN ?_ _ | refine blk_drew ?_ | refine blk_alloc ?_ _)); refine blk_put (cs := #[.string t144, .int .i64 t145, .bool t146, .int .i64 t147, .int .u64 0, .float .f64 0, .string (⟨#[]⟩ : ByteArray), .slice none 0 0]) ?_ 4 _ rfl; (with_reducible repeat (first | refine blk_drewN ?_ _ | refine blk_drew ?_ | refine blk_alloc ?_ _)); refine blk_put (cs := #[.string t144, .int .i64 t145, .bool t146, .int .i64 0, .int .u64 0, .float .f64 0, .string (⟨#[]⟩ : ByteArray), .slice none 0 0]) ?_ 3 _ rfl; (with_reducible repeat (first | refine blk_drewN ?_ _ | refine blk_drew ?_ | refine blk_alloc ?_ _)); refine blk_put (cs := #[.string t144, .int .i64 t145, .bool false, .int .i64 0, .int .u64 0, .float .f64 0, .string (⟨#[]⟩ : ByteArray), .slice none 0 0]) ?_ 2 _ rfl; (with_reducible repeat (first | refine blk_drewN ?_ _ | refine blk_drew ?_ | refine blk_alloc ?_ _)); refine blk_put (cs := #[.string t144, .int .i64 0, .bool false, .int .i64 0, .int .u64 0, .float .f64 0, .string (⟨#[]⟩ : ByteArray), .slice none 0 0]) ?_ 1 _ rfl; (with_reducible repeat (first | refine blk_drewN ?_ _ | refine blk_drew ?_ | refine blk_alloc ?_ _)); refine blk_put (cs := #[.string (⟨#[]⟩ : ByteArray), .int .i64 0, .bool false, .int .i64 0, .int .u64 0, .float .f64 0, .string (⟨#[]⟩ : ByteArray), .slice none 0 0]) ?_ 0 _ rfl; (with_reducible repeat (first | refine blk_drewN ?_ _ | refine blk_drew ?_ | refine blk_alloc ?_ _)); exact BK129.out) Tryz.underlying39 rfl (by kernel_rfl)) rfl ?_
    exact ⟨_, by first | rfl | (simp [errW_none, errW_some] <;> rfl) | (simp [*, errW_none, errW_some] <;> rfl), by (with_reducible repeat (first | apply Kd.V_alloc | apply Kd.V_drewN | apply Kd.V_drew)); exact Kd.V_mono (Kd.V_far (p := ⟨gb129, 7, none⟩) (Kd.V_far (p := ⟨gb129, 6, none⟩) (Kd.V_far (p := ⟨gb129, 5, none⟩) (Kd.V_far (p := ⟨gb129, 4, none⟩) (Kd.V_far (p := ⟨gb129, 3, none⟩) (Kd.V_far (p := ⟨gb129, 2, none⟩) (Kd.V_far (p := ⟨gb129, 1, none⟩) (Kd.V_far (p := ⟨gb129, 0, none⟩) (Kd.V_mono HO153.out (fun k_ hk => (⟨hk, hk.2⟩ : _ ∧ k_ ≠ gb129))) (fun _ hk => hk.2) (.string t144)) (fun _ hk => hk.2) (.int .i64 t145)) (fun _ hk => hk.2) (.bool t146)) (fun _ hk => hk.2) (.int .i64 t147)) (fun _ hk => hk.2) (.int .u64 t148)) (fun _ hk => hk.2) (.float .f64 t149)) (fun _ hk => hk.2) (.string t150)) (fun _ hk => hk.2) (.slice Ao16 t151.length co16)) (fun _ hk => hk.1.1), by repeat (first | (with_reducible first | exact HB.out | apply below_alloc | apply pw_below_drewN | apply below_drew1 | refine below_set ?_ GE129.out) | exact HB.out)⟩
/-! ### spec_SoftirqsTree: function 37 -/
def spec_SoftirqsTree.l0 : Nat → List (S31) → List (S39) → List (S136) → Int → Int → Option (ByteArray × Int × Bool × Int × Int × Nat × ByteArray × (List (S39)) × Int)
 | 0, _, _, _, _, _ => none
 | k + 1, x0, x6, x17, x18, x19 => if x19 < x18 then (if 0 ≤ x19 then (if x19 < (x17.length : Int) then (if x19 < (x0.length : Int) then ((spec_nums.f k ((rd_T136 x17 x19).f0) ((rd_T31 x0 x19).f1)).bind fun bt163 => (if x6.length < 1466015503701 then (spec_SoftirqsTree.l0 k x0 (x6 ++ [(⟨bt163.1, bt163.2.1, bt163.2.2.1, bt163.2.2.2.1, bt163.2.2.2.2.1, bt163.2.2.2.2.2.1, bt163.2.2.2.2.2.2.1, bt163.2.2.2.2.2.2.2⟩ : S39)]) x17 x18 (wrap64 (x19 + 1))) else (none))) else (none)) else (none)) else (none)) else ((spec_recordNode.f (⟨#[]⟩ : ByteArray) x6).bind fun bt176 => (some (bt176.1, bt176.2.1, bt176.2.2.1, bt176.2.2.2.1, bt176.2.2.2.2.1, bt176.2.2.2.2.2.1, bt176.2.2.2.2.2.2.1, bt176.2.2.2.2.2.2.2, 1)))
def spec_SoftirqsTree.f (k : Nat) (l0 : List (S31)) : Option (ByteArray × Int × Bool × Int × Int × Nat × ByteArray × (List (S39)) × Int) := (spec_SoftirqsPrint.f k l0).bind fun bt155 => (if bt155.2 = 1 then ((spec_softNames.f).bind fun t157 => (spec_SoftirqsTree.l0 k l0 ([] : List (S39)) t157 (t157.length : Int) 0)) else (some ((⟨#[]⟩ : ByteArray), 0, false, 0, 0, 0, (⟨#[]⟩ : ByteArray), ([] : List (S39)), 2)))
theorem spec_SoftirqsTree.mono_l : ∀ k, (∀ y0 y1 y2 y3 y4, LeO (spec_SoftirqsTree.l0 k y0 y1 y2 y3 y4) (spec_SoftirqsTree.l0 (k + 1) y0 y1 y2 y3 y4))
 | 0 => fun _ _ _ _ _ r h => by simp [spec_SoftirqsTree.l0] at h
 | k + 1 => by
  have ih0 := spec_SoftirqsTree.mono_l k
  ·intro y0 y1 y2 y3 y4
   unfold spec_SoftirqsTree.l0
   repeat' first
   | (with_reducible exact ih0 _ _ _ _ _)
   | (with_reducible exact spec_SoftirqsPrint.mono _ _)
   | (with_reducible exact spec_nums.mono _ _ _)
   | (with_reducible exact LeO.refl _)
   | (with_reducible exact LeO.none _)
   | (with_reducible refine LeO.ite ?_ ?_)
   | (with_reducible refine LeO.bind ?_ (fun _ => ?_))
   | exact ih0 _ _ _ _ _
   | exact spec_SoftirqsPrint.mono _ _
   | exact spec_nums.mono _ _ _
   | exact LeO.none _
   | refine LeO.ite ?_ ?_
   | refine LeO.bind ?_ (fun _ => ?_)
theorem spec_SoftirqsTree.mono : ∀ a0 k, LeO (spec_SoftirqsTree.f k a0) (spec_SoftirqsTree.f (k + 1) a0) := by
 intro a0 k
 have ih0 := spec_SoftirqsTree.mono_l k
 unfold spec_SoftirqsTree.f
 repeat' first
   | (with_reducible exact ih0 _ _ _ _ _)
   | (with_reducible exact spec_SoftirqsPrint.mono _ _)
   | (with_reducible exact spec_nums.mono _ _ _)
   | (with_reducible exact LeO.refl _)
   | (with_reducible exact LeO.none _)
   | (with_reducible refine LeO.ite ?_ ?_)
   | (with_reducible refine LeO.bind ?_ (fun _ => ?_))
   | exact ih0 _ _ _ _ _
   | exact spec_SoftirqsPrint.mono _ _
   | exact spec_nums.mono _ _ _
   | exact LeO.none _
   | refine LeO.ite ?_ ?_
   | refine LeO.bind ?_ (fun _ => ?_)
def spec_SoftirqsTree.T8 : Bool × List (List Nat × List Nat) := (true, [([], []), ([], []), ([1], [1]), ([], []), ([], []), ([3, 4], [3, 4]), ([5], [5]), ([6], [6]), ([2, 7], [2, 7]), ([8], [8]), ([0, 9, 8], [0, 9]), ([10, 10, 0, 1, 2, 3, 4, 5, 6, 7, 8, 9, 10], [0, 10])])
def spec_SoftirqsTree.B8 : List Nat := [0, 0, 2, 0, 0, 24, 56, 120, 254, 510, 1023, 2047]
theorem spec_SoftirqsTree.tab8 : rtab .any (opsOf Tryz.f37 8) = spec_SoftirqsTree.T8 := by kernel_rfl
theorem spec_SoftirqsTree.bits8 : waitsOk spec_SoftirqsTree.T8.2 spec_SoftirqsTree.B8 = true := by kernel_rfl
set_option maxHeartbeats 8000000 in
set_option maxRecDepth 100000 in
theorem spec_SoftirqsTree.calls (k : Nat) (A0 : Option Addr) (c0 : Nat) (l0 : List (S31)) (r1 : ByteArray) (r2 : Int) (r3 : Bool) (r4 : Int) (r5 : Int) (r6 : Nat) (r7 : ByteArray) (r8 : List (S39)) (r9 : Int) (w : World) (hr0 : Kd.C k31 w A0 l0.length l0) (hc0 : l0.length ≤ c0) (h : spec_SoftirqsTree.f k l0 = some (r1, r2, r3, r4, r5, r6, r7, r8, r9)) :
  Calls Tryz.prog 37 #[.slice A0 l0.length c0] w fun e w' => ∃ v7_ : Value, e = .returned (.tuple #[.agg #[.string r1, .int .i64 r2, .bool r3, .int .i64 r4, .int .u64 r5, .float .f64 r6, .string r7, v7_], .int .i64 r9]) ∧ Kd.V k39 39 w' w.heap.size (fun k_ => (w.heap.size ≤ k_)) v7_ r8 ∧ Below w.heap.size w w' := by
 have hu39 := Tryz.underlying39
 have hu136 := Tryz.underlying136
 have HR0 := Aside0.mk hr0
 have HC0 := Aside0.mk hc0
 clear hr0 hc0
 have HB := Aside0.mk (Below.refl w.heap.size w)
 have H : ((spec_SoftirqsPrint.f k l0).bind fun bt155 => (if bt155.2 = 1 then ((spec_softNames.f).bind fun t157 => (spec_SoftirqsTree.l0 k l0 ([] : List (S39)) t157 (t157.length : Int) 0)) else (some ((⟨#[]⟩ : ByteArray), 0, false, 0, 0, 0, (⟨#[]⟩ : ByteArray), ([] : List (S39)), 2)))) = some (r1, r2, r3, r4, r5, r6, r7, r8, r9) := h
 clear h
 replace H := Option.bind_eq_some_iff.mp H
 obtain ⟨⟨t155, t156⟩, A20, H⟩ := H
 replace H : (if t156 = 1 then ((spec_softNames.f).bind fun t157 => (spec_SoftirqsTree.l0 k l0 ([] : List (S39)) t157 (t157.length : Int) 0)) else (some ((⟨#[]⟩ : ByteArray), 0, false, 0, 0, 0, (⟨#[]⟩ : ByteArray), ([] : List (S39)), 2))) = some (r1, r2, r3, r4, r5, r6, r7, r8, r9) := H
 have A2 := Aside0.mk A20
 clear A20
 by_cases c3 : t156 = 1
 ·rw [if_pos c3] at H
  have c3b0 : (t156 == 1) = true := beq_iff_eq.mpr c3
  have c3b1 : (t156 != 1) = false := bne_eq_false_iff_eq.mpr c3
  clear c3
  replace H := Option.bind_eq_some_iff.mp H
  obtain ⟨t157, A40, H⟩ := H
  replace H : (spec_SoftirqsTree.l0 k l0 ([] : List (S39)) t157 (t157.length : Int) 0) = some (r1, r2, r3, r4, r5, r6, r7, r8, r9) := H
  have A4 := Aside0.mk A40
  clear A40
  have H' := Aside0.mk H
  clear H
  go_enter Tryz.func37, Tryz.ntmps37
  go_wp2_with (first | ((with_reducible refine gate_dst (N := 2) rfl ?_); refine box_event ?hg (N := 2) ?hd (cs := #[.string (⟨#[]⟩ : ByteArray), .int .i64 0, .bool false, .int .i64 0, .int .u64 0, .float .f64 0, .string (⟨#[]⟩ : ByteArray), .slice none 0 0]) (t := 39) ?hr ?_; (case hd => rfl); (case hg => rfl); (case hr => first | (go_simp; done) | (go_simp; rfl)); intro gb154 hg w5 hbox hb; have n0_ := Aside0.mk (below_step (by repeat (first | (with_reducible first | exact HB.out | apply below_alloc | apply pw_below_drewN | apply below_drew1) | exact HB.out)) hb); have n1_ := Aside0.mk (hbox); have n2_ := Aside0.mk ((by rw [hg]; exact (below_size (by repeat (first | (with_reducible first | exact HB.out | apply below_alloc | apply pw_below_drewN | apply below_drew1) | exact HB.out))) : w.heap.size ≤ gb154)); have n3_ := Aside0.mk ((by rw [hg]; exact (below_size (by repeat (first | (with_reducible first | exact HB.out | apply below_alloc | apply pw_below_drewN | apply below_drew1) | exact HB.out))) : w.heap.size ≤ gb154)); clear HB; have HB := n0_; have BK154 := n1_; have GW154 := n2_; have GE154 := n3_; clear n0_ n1_ n2_ n3_; clear hb hbox hg) | ((with_reducible refine gate_callee (f := 36) rfl ?_); refine goesL_ (some 11) rfl rfl Tryz.func36 (by kernel_rfl) rfl #[.slice A0 l0.length c0] rfl (by (try simp only [List.map_toArray, List.map_cons, List.map_nil]); first | done | rfl | (simp only [List.length_drop, List.length_take]; rfl)) ?_; (with_reducible refine (spec_SoftirqsPrint.calls k _ _ l0 t155 t156 _ ?side1 ?side2 A2.out).mono ?_); (case side1 => repeat (first | exact (Kd.C_below HR0.out HB.out) | (with_reducible refine Kd.C_alloc ?_ _) | (with_reducible refine Kd.C_drewN ?_ _) | (with_reducible refine Kd.C_drew ?_))); (case side2 => exact HC0.out); rintro e w6 ⟨rfl, hb⟩; refine ⟨_, rfl, ?_⟩; have n0_ := Aside0.mk (blk_below (g := gb154) (o := .cells #[.string (⟨#[]⟩ : ByteArray), .int .i64 0, .bool false, .int .i64 0, .int .u64 0, .float .f64 0, .string (⟨#[]⟩ : ByteArray), .slice none 0 0] 39 (0, 0)) (by (with_reducible repeat (first | refine blk_drewN ?_ _ | refine blk_drew ?_ | refine blk_alloc ?_ _)); exact BK154.out) hb); have n1_ := Aside0.mk (below_step (by repeat (first | (with_reducible first | exact HB.out | apply below_alloc | apply pw_below_drewN | apply below_drew1 | refine below_set ?_ GE154.out) | exact HB.out)) hb); clear BK154; clear HB; have BK154 := n0_; have HB := n1_; clear n0_ n1_; (try clear hb); (try clear hb2); (try clear hk); (try clear hi)) | ((with_reducible refine gate_callee (f := 114) rfl ?_); refine goesL_ (some 17) rfl rfl Tryz.func114 (by kernel_rfl) rfl #[] rfl (by (try simp only [List.map_toArray, List.map_cons, List.map_nil]); first | done | rfl | (simp only [List.length_drop, List.length_take]; rfl)) ?_; (with_reducible refine (spec_softNames.calls  t157 _ A4.out).mono ?_); rintro e w7 ⟨v158, rfl, ho0, hb⟩; refine ⟨_, rfl, ?_⟩; have n0_ := Aside0.mk (Kd.R_lower (Kd.R_newM (M := fun k_ => (w.heap.size ≤ k_)) ho0 (below_size (by repeat (first | (with_reducible first | exact HB.out | apply below_alloc | apply pw_below_drewN | apply below_drew1 | refine below_set ?_ GE154.out) | exact HB.out))) (fun k_ h_ => h_)) (below_size (by repeat (first | (with_reducible first | exact HB.out | apply below_alloc | apply pw_below_drewN | apply below_drew1 | refine below_set ?_ GE154.out) | exact HB.out)))); have n1_ := Aside0.mk (blk_below (g := gb154) (o := .cells #[.string (⟨#[]⟩ : ByteArray), .int .i64 0, .bool false, .int .i64 0, .int .u64 0, .float .f64 0, .string (⟨#[]⟩ : ByteArray), .slice none 0 0] 39 (0, 0)) (by (with_reducible repeat (first | refine blk_drewN ?_ _ | refine blk_drew ?_ | refine blk_alloc ?_ _)); exact BK154.out) hb); have n2_ := Aside0.mk (below_step (by repeat (first | (with_reducible first | exact HB.out | apply below_alloc | apply pw_below_drewN | apply below_drew1 | refine below_set ?_ GE154.out) | exact HB.out)) hb); clear BK154; clear HB; have HO159 := n0_; have BK154 := n1_; have HB := n2_; clear n0_ n1_ n2_; (try clear hb); (try clear hb2); (try clear hk); (try clear hi); (try clear ho0); obtain ⟨Ao8, co8, eo8⟩ := Kd.R_slice HO159.out; subst eo8))
  go_loopg [6, 19] k (fun kq v6 v19 w' => ∃ (x6_1 : List (S39)) (x19_1 : Int), v19 = .int .i64 x19_1 ∧ Aside0 (spec_SoftirqsTree.l0 kq l0 x6_1 t157 (t157.length : Int) x19_1 = some (r1, r2, r3, r4, r5, r6, r7, r8, r9)) ∧ Aside0 (kq ≤ k) ∧ Aside0 (Kd.N k39 39 w' w.heap.size (fun k_ => (w.heap.size ≤ k_) ∧ some k_ ≠ ((.slice Ao8 t157.length co8) : Value).ownBlock ∧ k_ ≠ gb154) v6 x6_1) ∧ Aside0 (Kd.R k136 136 w' w.heap.size (fun k_ => (w.heap.size ≤ k_)) (.slice Ao8 t157.length co8) t157) ∧ Aside0 (w'.heap[gb154]? = some (.cells #[.string (⟨#[]⟩ : ByteArray), .int .i64 0, .bool false, .int .i64 0, .int .u64 0, .float .f64 0, .string (⟨#[]⟩ : ByteArray), (.slice none 0 0)] 39 (0, 0))) ∧ Aside0 (Below w.heap.size w w'))
  case atStart => exact ⟨(([] : List (S39))), (0), (by first | rfl | (simp; done) | (simp [*]; done)), H', ⟨Nat.le_refl _⟩, ⟨by first | exact Kd.R_nil _ _ _ _ _ | exact Kd.N_nil _ _ _ _ _ | exact Kd.V_nil _ _ _ _ _ | exact Kd.Q_nil _ _ _ _ _ | exact Kd.S_nil _ _ _ _ _⟩, ⟨by (with_reducible repeat (first | apply Kd.R_alloc | apply Kd.R_drewN | apply Kd.R_drew)); exact Kd.R_mono HO159.out (fun _ hk => hk.1)⟩, ⟨by (with_reducible repeat (first | refine blk_drewN ?_ _ | refine blk_drew ?_ | refine blk_alloc ?_ _)); exact BK154.out⟩, ⟨by repeat (first | (with_reducible first | exact HB.out | apply below_alloc | apply pw_below_drewN | apply below_drew1 | refine below_set ?_ GE154.out) | exact HB.out)⟩⟩
  case round =>
   clear H'
   try clear c1
   try clear p2
   try clear c3
   try clear c3b0
   try clear c3b1
   obtain ⟨x6_1, x19_1, rfl, HA, HK1, HO_6, HO_17, BK154, HB⟩ := hrel
   cases gk with
   | zero => exact absurd HA.out (by simp [spec_SoftirqsTree.l0])
   | succ k1 =>
    have H := HA.out
    clear HA
    simp only [spec_SoftirqsTree.l0] at H
    by_cases c9 : x19_1 < (t157.length : Int)
    ·rw [if_pos c9] at H
     have c9b0 : decide (x19_1 < (t157.length : Int)) = true := decide_eq_true c9
     clear c9
     replace H := guard_inv H
     obtain ⟨c10, H⟩ := H
     have c10b0 : decide (0 ≤ x19_1) = true := decide_eq_true c10
     clear c10
     replace H := guard_inv H
     obtain ⟨c11, H⟩ := H
     have c11b0 : decide (x19_1 < (t157.length : Int)) = true := decide_eq_true c11
     clear c11
     replace H := guard_inv H
     obtain ⟨c12, H⟩ := H
     have c12b0 : decide (x19_1 < (l0.length : Int)) = true := decide_eq_true c12
     clear c12
     replace H := Option.bind_eq_some_iff.mp H
     obtain ⟨⟨t163, t164, t165, t166, t167, t168, t169, t170⟩, A130, H⟩ := H
     replace H : (if x6_1.length < 1466015503701 then (spec_SoftirqsTree.l0 k1 l0 (x6_1 ++ [(⟨t163, t164, t165, t166, t167, t168, t169, t170⟩ : S39)]) t157 (t157.length : Int) (wrap64 (x19_1 + 1))) else (none)) = some (r1, r2, r3, r4, r5, r6, r7, r8, r9) := H
     have A13 := Aside0.mk A130
     clear A130
     replace H := guard_inv H
     obtain ⟨c14, H⟩ := H
     have LMc14 := Aside0.mk c14
     clear c14
     obtain ⟨y173, hy173⟩ : ∃ y_ : List (S39), y_ = (x6_1 ++ [(⟨t163, t164, t165, t166, t167, t168, t169, t170⟩ : S39)]) := ⟨_, rfl⟩
     replace H : (spec_SoftirqsTree.l0 k1 l0 y173 t157 (t157.length : Int) (wrap64 (x19_1 + 1))) = some (r1, r2, r3, r4, r5, r6, r7, r8, r9) := by first | (rw [hy173]; with_reducible exact H) | (have H2_ := (Option.bind_some _ _).symm.trans H; rw [hy173]; with_reducible exact H2_) | (have H2_ := (Option.bind_some _ _).symm.trans H; with_reducible exact H2_) | with_reducible exact H | (rw [hy173]; exact H) | exact H
     have Ny173 := Aside0.mk hy173
     clear hy173
     have H' := Aside0.mk H
     clear H
     have p160 : 0 ≤ (x19_1 : Int) := of_decide_eq_true (by first | (with_reducible assumption) | assumption)
     have q160 : x19_1 < (t157.length : Int) := of_decide_eq_true (by first | (with_reducible assumption) | assumption)
     obtain ⟨ad160, e160, hx160_0, hx160_1⟩ := at_T136 (Kd.R_reads' HO_17.out).2.2 x19_1 p160 q160
     cases e160
     replace p160 := eq_true p160
     replace q160 := eq_true q160
     try go_wp2_with (first | ((with_reducible refine gate_dst (N := 8) rfl ?_); refine box_event ?hg (N := 8) ?hd (cs := #[.string (⟨#[]⟩ : ByteArray), .string (⟨#[]⟩ : ByteArray)]) (t := 136) ?hr ?_; (case hd => rfl); (case hg => rfl); (case hr => first | (go_simp; done) | (go_simp; rfl)); intro gb161 hg w15 hbox hb; have n0_ := Aside0.mk (Kd.N_below (Kd.N_elderB (by (with_reducible repeat (first | apply Kd.N_alloc | apply Kd.N_drewN | apply Kd.N_drew)); exact HO_6.out) gb161 (Nat.le_of_eq hg.symm)) hb); have n1_ := Aside0.mk (Kd.R_below (Kd.R_elderB (by (with_reducible repeat (first | apply Kd.R_alloc | apply Kd.R_drewN | apply Kd.R_drew)); exact HO_17.out) gb161 (Nat.le_of_eq hg.symm)) hb); have n2_ := Aside0.mk (blk_below (g := gb154) (o := .cells #[.string (⟨#[]⟩ : ByteArray), .int .i64 0, .bool false, .int .i64 0, .int .u64 0, .float .f64 0, .string (⟨#[]⟩ : ByteArray), .slice none 0 0] 39 (0, 0)) (by (with_reducible repeat (first | refine blk_drewN ?_ _ | refine blk_drew ?_ | refine blk_alloc ?_ _)); exact BK154.out) hb); have n3_ := Aside0.mk (below_step (by repeat (first | (with_reducible first | exact HB.out | apply below_alloc | apply pw_below_drewN | apply below_drew1 | refine below_set ?_ GE154.out) | exact HB.out)) hb); have n4_ := Aside0.mk (hbox); have n5_ := Aside0.mk ((by rw [hg]; exact (below_size (by repeat (first | (with_reducible first | exact HB.out | apply below_alloc | apply pw_below_drewN | apply below_drew1 | refine below_set ?_ GE154.out) | exact HB.out))) : w.heap.size ≤ gb161)); have n6_ := Aside0.mk ((by rw [hg]; exact (below_size (by repeat (first | (with_reducible first | exact HB.out | apply below_alloc | apply pw_below_drewN | apply below_drew1 | refine below_set ?_ GE154.out) | exact HB.out))) : w.heap.size ≤ gb161)); have n7_ := Aside0.mk ((by rw [hg]; exact Nat.ne_of_lt (blk_lt (g := gb154) (o := .cells #[.string (⟨#[]⟩ : ByteArray), .int .i64 0, .bool false, .int .i64 0, .int .u64 0, .float .f64 0, .string (⟨#[]⟩ : ByteArray), .slice none 0 0] 39 (0, 0)) (by (with_reducible repeat (first | refine blk_drewN ?_ _ | refine blk_drew ?_ | refine blk_alloc ?_ _)); exact BK154.out)) : gb154 ≠ gb161)); have n8_ := Aside0.mk ((by rw [hg]; exact Nat.ne_of_gt (blk_lt (g := gb154) (o := .cells #[.string (⟨#[]⟩ : ByteArray), .int .i64 0, .bool false, .int .i64 0, .int .u64 0, .float .f64 0, .string (⟨#[]⟩ : ByteArray), .slice none 0 0] 39 (0, 0)) (by (with_reducible repeat (first | refine blk_drewN ?_ _ | refine blk_drew ?_ | refine blk_alloc ?_ _)); exact BK154.out)) : gb161 ≠ gb154)); clear HO_6; clear HO_17; clear BK154; clear HB; have HO_6 := n0_; have HO_17 := n1_; have BK154 := n2_; have HB := n3_; have BK161 := n4_; have GW161 := n5_; have GE161 := n6_; have NB154_161 := n7_; have NB161_154 := n8_; clear n0_ n1_ n2_ n3_ n4_ n5_ n6_ n7_ n8_; clear hb hbox hg; have hnb16 := NB161_154.out; have hnc16 := NB154_161.out; have hcz17_0 : w15.cell? ⟨gb161, 0, none⟩ = some (.string (⟨#[]⟩ : ByteArray)) := (blk_cell BK161.out 0).trans rfl; have hcz17_1 : w15.cell? ⟨gb161, 1, none⟩ = some (.string (⟨#[]⟩ : ByteArray)) := (blk_cell BK161.out 1).trans rfl; have hfz17_0 := blk_frozen BK161.out 0; have hfz17_1 := blk_frozen BK161.out 1))
     have n0_ : Aside0 (Kd.N k39 39 ((w15.setCell ⟨gb161, 0, none⟩ (.string ((rd_T136 t157 x19_1).f0))).setCell ⟨gb161, 1, none⟩ (.string ((rd_T136 t157 x19_1).f1))) w.heap.size (fun k_ => (w.heap.size ≤ k_) ∧ some k_ ≠ (.slice (some ad160) t157.length co8 : Value).ownBlock ∧ k_ ≠ gb154 ∧ k_ ≠ gb161) u6 x6_1) := ⟨by (with_reducible repeat (first | apply Kd.N_alloc | apply Kd.N_drewN | apply Kd.N_drew)); exact Kd.N_mono (Kd.N_far (p := ⟨gb161, 1, none⟩) (Kd.N_far (p := ⟨gb161, 0, none⟩) (Kd.N_mono HO_6.out (fun k_ hk => (⟨hk, hk.2⟩ : _ ∧ k_ ≠ gb161))) (fun _ hk => hk.2) (.string ((rd_T136 t157 x19_1).f0))) (fun _ hk => hk.2) (.string ((rd_T136 t157 x19_1).f1))) (fun _ hk => ⟨hk.1.1.1, ⟨hk.1.1.2.1, ⟨hk.1.1.2.2, hk.1.2⟩⟩⟩)⟩
     have n1_ : Aside0 (Kd.R k136 136 ((w15.setCell ⟨gb161, 0, none⟩ (.string ((rd_T136 t157 x19_1).f0))).setCell ⟨gb161, 1, none⟩ (.string ((rd_T136 t157 x19_1).f1))) w.heap.size (fun k_ => (w.heap.size ≤ k_) ∧ k_ ≠ gb161) (.slice (some ad160) t157.length co8) t157) := ⟨by (with_reducible repeat (first | apply Kd.R_alloc | apply Kd.R_drewN | apply Kd.R_drew)); exact Kd.R_mono (Kd.R_far (p := ⟨gb161, 1, none⟩) (Kd.R_far (p := ⟨gb161, 0, none⟩) (Kd.R_mono HO_17.out (fun k_ hk => (⟨hk, hk.2⟩ : _ ∧ k_ ≠ gb161))) (fun _ hk => hk.2) (.string ((rd_T136 t157 x19_1).f0))) (fun _ hk => hk.2) (.string ((rd_T136 t157 x19_1).f1))) (fun _ hk => ⟨hk.1.1, hk.1.2⟩)⟩
     have n2_ : Aside0 (((w15.setCell ⟨gb161, 0, none⟩ (.string ((rd_T136 t157 x19_1).f0))).setCell ⟨gb161, 1, none⟩ (.string ((rd_T136 t157 x19_1).f1))).heap[gb154]? = some (.cells #[.string (⟨#[]⟩ : ByteArray), .int .i64 0, .bool false, .int .i64 0, .int .u64 0, .float .f64 0, .string (⟨#[]⟩ : ByteArray), .slice none 0 0] 39 (0, 0))) := ⟨by (with_reducible repeat (first | refine blk_drewN ?_ _ | refine blk_drew ?_ | refine blk_alloc ?_ _)); refine blk_far ?_ NB154_161.out _; (with_reducible repeat (first | refine blk_drewN ?_ _ | refine blk_drew ?_ | refine blk_alloc ?_ _)); refine blk_far ?_ NB154_161.out _; (with_reducible repeat (first | refine blk_drewN ?_ _ | refine blk_drew ?_ | refine blk_alloc ?_ _)); exact BK154.out⟩
     have n3_ : Aside0 (((w15.setCell ⟨gb161, 0, none⟩ (.string ((rd_T136 t157 x19_1).f0))).setCell ⟨gb161, 1, none⟩ (.string ((rd_T136 t157 x19_1).f1))).heap[gb161]? = some (.cells #[.string ((rd_T136 t157 x19_1).f0), .string ((rd_T136 t157 x19_1).f1)] 136 (0, 0))) := ⟨by (with_reducible repeat (first | refine blk_drewN ?_ _ | refine blk_drew ?_ | refine blk_alloc ?_ _)); refine blk_put (cs := #[.string ((rd_T136 t157 x19_1).f0), .string (⟨#[]⟩ : ByteArray)]) ?_ 1 _ rfl; (with_reducible repeat (first | refine blk_drewN ?_ _ | refine blk_drew ?_ | refine blk_alloc ?_ _)); refine blk_put (cs := #[.string (⟨#[]⟩ : ByteArray), .string (⟨#[]⟩ : ByteArray)]) ?_ 0 _ rfl; (with_reducible repeat (first | refine blk_drewN ?_ _ | refine blk_drew ?_ | refine blk_alloc ?_ _)); exact BK161.out⟩
     have n4_ : Aside0 (Below w.heap.size w ((w15.setCell ⟨gb161, 0, none⟩ (.string ((rd_T136 t157 x19_1).f0))).setCell ⟨gb161, 1, none⟩ (.string ((rd_T136 t157 x19_1).f1)))) := ⟨by repeat (first | (with_reducible first | exact HB.out | apply below_alloc | apply pw_below_drewN | apply below_drew1 | refine below_set ?_ GE154.out | refine below_set ?_ GE161.out) | exact HB.out)⟩
     (try clear HO_6)
     (try clear HO_17)
     (try clear BK154)
     (try clear BK161)
     (try clear HB)
     generalize ((w15.setCell ⟨gb161, 0, none⟩ (.string ((rd_T136 t157 x19_1).f0))).setCell ⟨gb161, 1, none⟩ (.string ((rd_T136 t157 x19_1).f1))) = w18 at n0_ n1_ n2_ n3_ n4_ ⊢
     have HO_6 := n0_
     have HO_17 := n1_
     have BK154 := n2_
     have BK161 := n3_
     have HB := n4_
     clear n0_ n1_ n2_ n3_ n4_
     have n0_ := Aside0.mk (Kd.N_drew HO_6.out)
     have n1_ := Aside0.mk (Kd.R_drew HO_17.out)
     have n2_ := Aside0.mk (blk_drew BK154.out)
     have n3_ := Aside0.mk (blk_drew BK161.out)
     have n4_ := Aside0.mk (below_drew1 HB.out)
     clear HO_6
     clear HO_17
     clear BK154
     clear BK161
     clear HB
     have HO_6 := n0_
     have HO_17 := n1_
     have BK154 := n2_
     have BK161 := n3_
     have HB := n4_
     clear n0_ n1_ n2_ n3_ n4_
     have p162 : 0 ≤ (x19_1 : Int) := of_decide_eq_true (by first | (with_reducible assumption) | assumption)
     have q162 : x19_1 < (l0.length : Int) := of_decide_eq_true (by first | (with_reducible assumption) | assumption)
     obtain ⟨ad162, A162_1, c162_1, A162_2, c162_2, e162, hx162_0, hx162_1, hx162_2, hl162_1, hi162_1, hl162_2, hi162_2⟩ := at_T31 HR0.out x19_1 p162 q162
     have hw162_2 := hx162_2
     have hw162_1 := hx162_1
     have hw162_0 := hx162_0
     cases e162
     replace hx162_0 := (HB.out.cell (World.block_lt_of_cell? w _ hx162_0)).trans hx162_0
     replace hx162_1 := (HB.out.cell (World.block_lt_of_cell? w _ hx162_1)).trans hx162_1
     replace hx162_2 := (HB.out.cell (World.block_lt_of_cell? w _ hx162_2)).trans hx162_2
     have HR162_1 := Aside0.mk hi162_1
     have HC162_1 := Aside0.mk hl162_1
     clear hi162_1 hl162_1
     have HR162_2 := Aside0.mk hi162_2
     have HC162_2 := Aside0.mk hl162_2
     clear hi162_2 hl162_2
     replace p162 := eq_true p162
     replace q162 := eq_true q162
     refine start_ (n := 12) (S := fun w' => w'.cell? ⟨gb161, 0, none⟩ = some (.string ((rd_T136 t157 x19_1).f0)) ∧ w'.cell? ⟨gb161, 1, none⟩ = some (.string ((rd_T136 t157 x19_1).f1)) ∧ w'.cell? (ad162.add ((x19_1).toNat * 3)) = some (.string ((rd_T31 l0 x19_1).f0)) ∧ w'.cell? ⟨(ad162.add ((x19_1).toNat * 3)).block, (ad162.add ((x19_1).toNat * 3)).off + 1, none⟩ = some (.slice A162_1 ((rd_T31 l0 x19_1).f1).length c162_1) ∧ w'.cell? ⟨(ad162.add ((x19_1).toNat * 3)).block, (ad162.add ((x19_1).toNat * 3)).off + 2, none⟩ = some (.slice A162_2 ((rd_T31 l0 x19_1).f2).length c162_2)) (ds := []) (bb [0, 12]) (by kernel_rfl) rfl rfl ⟨(blk_cell BK161.out 0).trans rfl, (blk_cell BK161.out 1).trans rfl, ((HB.out.cell (World.block_lt_of_cell? w _ hw162_0)).trans hw162_0), ((HB.out.cell (World.block_lt_of_cell? w _ hw162_1)).trans hw162_1), ((HB.out.cell (World.block_lt_of_cell? w _ hw162_2)).trans hw162_2)⟩ (fun hHeld => ?_); refine with_tabW spec_SoftirqsTree.tab8 spec_SoftirqsTree.bits8 (fun HT_ HW_ => ?_)
     generalize w18.drew = w19 at HO_6 HO_17 BK154 BK161 HB HR162_1 HR162_2 hx162_0 hx162_1 hx162_2 hHeld ⊢
     refine pure_ (i := 0) (N := some 24) (v := ?_) (a' := ?_) (bb [1, 11]) rfl rfl (any_of HT_.out (by kernel_rfl)) (fun _ _ _ h => h) (Or.inl ⟨by rfl, ?_⟩) ?_ ?_
     rotate_left
     ·intro w'
      go_simp
      with_reducible rfl
     rotate_left
     ·simp only [Act.put, List.setIfInBounds_toArray, List.set_cons_zero, List.set_cons_succ, i64_w, i32_w]
      rfl
     refine pure_ (i := 1) (N := some 25) (v := ?_) (a' := ?_) (bb [2, 10]) rfl rfl (any_of HT_.out (by kernel_rfl)) (fun _ _ _ h => h) (Or.inl ⟨by rfl, ?_⟩) ?_ ?_
     rotate_left
     ·intro w'
      go_simp
      with_reducible rfl
     rotate_left
     ·simp only [Act.put, List.setIfInBounds_toArray, List.set_cons_zero, List.set_cons_succ, i64_w, i32_w]
      rfl
     refine pure_ (i := 3) (N := some 27) (v := ?_) (a' := ?_) (bb [2, 1, 1, 8]) rfl rfl (any_of HT_.out (by kernel_rfl)) (fun _ _ _ h => h) (Or.inl ⟨by rfl, ?_⟩) ?_ ?_
     rotate_left
     ·intro w'
      go_simp
      with_reducible rfl
     rotate_left
     ·simp only [Act.put, List.setIfInBounds_toArray, List.set_cons_zero, List.set_cons_succ, i64_w, i32_w]
      rfl
     refine pure_ (i := 4) (N := some 28) (v := ?_) (a' := ?_) (bb [2, 1, 2, 7]) rfl rfl (any_of HT_.out (by kernel_rfl)) (fun _ _ _ h => h) (Or.inl ⟨by rfl, ?_⟩) ?_ ?_
     rotate_left
     ·intro w'
      go_simp
      with_reducible rfl
     rotate_left
     ·simp only [Act.put, List.setIfInBounds_toArray, List.set_cons_zero, List.set_cons_succ, i64_w, i32_w]
      rfl
     refine pure_ (i := 5) (N := some 29) (v := ?_) (a' := ?_) (bb [2, 1, 3, 6]) rfl rfl (any_of HT_.out (by kernel_rfl)) (fun _ _ _ h => h) (Or.inl ⟨by rfl, ?_⟩) ?_ ?_
     rotate_left
     ·intro w'
      go_simp
      with_reducible rfl
     rotate_left
     ·simp only [Act.put, List.setIfInBounds_toArray, List.set_cons_zero, List.set_cons_succ, i64_w, i32_w]
      rfl
     refine pure_ (i := 6) (N := some 30) (v := ?_) (a' := ?_) (bb [2, 1, 4, 5]) rfl rfl (any_of HT_.out (by kernel_rfl)) (fun _ _ _ h => h) (Or.inl ⟨by rfl, ?_⟩) ?_ ?_
     rotate_left
     ·intro w'
      go_simp
      with_reducible rfl
     rotate_left
     ·simp only [Act.put, List.setIfInBounds_toArray, List.set_cons_zero, List.set_cons_succ, i64_w, i32_w]
      rfl
     refine take_ (i := 2) (N := some 26) (v := ?_) (a' := ?_) (bb [7, 5]) rfl rfl (take_ofW HT_.out HW_.out (by kernel_rfl)) (fun _ _ _ h => h) (Or.inl ⟨by rfl, ?_⟩) hHeld ?_ ?_
     rotate_left
     ·rintro w' ⟨s0, s1, s2, s3, s4⟩
      go_simp
      with_reducible rfl
     rotate_left
     ·simp only [Act.put, List.setIfInBounds_toArray, List.set_cons_zero, List.set_cons_succ, i64_w, i32_w]
      rfl
     refine take_ (i := 7) (N := some 31) (v := ?_) (a' := ?_) (bb [8, 4]) rfl rfl (take_ofW HT_.out HW_.out (by kernel_rfl)) (fun _ _ _ h => h) (Or.inl ⟨by rfl, ?_⟩) hHeld ?_ ?_
     rotate_left
     ·rintro w' ⟨s0, s1, s2, s3, s4⟩
      go_simp
      with_reducible rfl
     rotate_left
     ·simp only [Act.put, List.setIfInBounds_toArray, List.set_cons_zero, List.set_cons_succ, i64_w, i32_w]
      rfl
     refine one_ (i := 8) (N := some 32) (bb [9, 3]) rfl rfl (one_of HT_.out (by kernel_rfl)) (by decide) (fun K hK => ?_)
     refine goes_ Tryz.func115 (by kernel_rfl) rfl #[.string ((rd_T136 t157 x19_1).f0), .slice A162_1 ((rd_T31 l0 x19_1).f1).length c162_1] (by rfl) rfl rfl (by (try simp only [List.map_toArray, List.map_cons, List.map_nil]); first | done | rfl | (simp only [List.length_drop, List.length_take]; rfl)) ?_
     with_reducible refine (spec_nums.calls k1 ((rd_T136 t157 x19_1).f0) _ _ ((rd_T31 l0 x19_1).f1) t163 t164 t165 t166 t167 t168 t169 t170 _ ?side1 ?side2 A13.out).mono ?_
     (case side1 => repeat (first | exact (Kd.C_below HR162_1.out HB.out) | (with_reducible refine Kd.C_alloc ?_ _) | (with_reducible refine Kd.C_drewN ?_ _) | (with_reducible refine Kd.C_drew ?_)))
     (case side2 => exact HC162_1.out)
     rintro e w20 ⟨v171, rfl, ho0, hb⟩
     refine ⟨_, rfl, ?_⟩
     have n0_ := Aside0.mk (Kd.N_below (by (with_reducible repeat (first | apply Kd.N_alloc | apply Kd.N_drewN | apply Kd.N_drew)); exact HO_6.out) hb)
     have n1_ := Aside0.mk (Kd.R_below (by (with_reducible repeat (first | apply Kd.R_alloc | apply Kd.R_drewN | apply Kd.R_drew)); exact HO_17.out) hb)
     have n2_ := Aside0.mk (Kd.V_lower (Kd.V_mono (ok' := fun k_ => (w.heap.size ≤ k_) ∧ some k_ ≠ (u6 : Value).ownBlock ∧ some k_ ≠ (.slice (some ad160) t157.length co8 : Value).ownBlock ∧ k_ ≠ gb154 ∧ k_ ≠ gb161) ho0 (fun k_ hk_ => ⟨(Nat.le_trans (below_size (by repeat (first | (with_reducible first | exact HB.out | apply below_alloc | apply pw_below_drewN | apply below_drew1 | refine below_set ?_ GE154.out | refine below_set ?_ GE161.out) | exact HB.out))) hk_), (Kd.fresh' (Kd.N_lt (by (with_reducible repeat (first | apply Kd.N_alloc | apply Kd.N_drewN | apply Kd.N_drew)); exact HO_6.out)) k_ hk_), (Kd.fresh' (Kd.R_lt (by (with_reducible repeat (first | apply Kd.R_alloc | apply Kd.R_drewN | apply Kd.R_drew)); exact HO_17.out)) k_ hk_), (Kd.freshB (g := gb154) (o := .cells #[.string (⟨#[]⟩ : ByteArray), .int .i64 0, .bool false, .int .i64 0, .int .u64 0, .float .f64 0, .string (⟨#[]⟩ : ByteArray), .slice none 0 0] 39 (0, 0)) (by (with_reducible repeat (first | refine blk_drewN ?_ _ | refine blk_drew ?_ | refine blk_alloc ?_ _)); exact BK154.out) k_ hk_), (Kd.freshB (g := gb161) (o := .cells #[.string ((rd_T136 t157 x19_1).f0), .string ((rd_T136 t157 x19_1).f1)] 136 (0, 0)) (by (with_reducible repeat (first | refine blk_drewN ?_ _ | refine blk_drew ?_ | refine blk_alloc ?_ _)); exact BK161.out) k_ hk_)⟩)) (below_size (by repeat (first | (with_reducible first | exact HB.out | apply below_alloc | apply pw_below_drewN | apply below_drew1 | refine below_set ?_ GE154.out | refine below_set ?_ GE161.out) | exact HB.out))))
     have n3_ := Aside0.mk (blk_below (g := gb154) (o := .cells #[.string (⟨#[]⟩ : ByteArray), .int .i64 0, .bool false, .int .i64 0, .int .u64 0, .float .f64 0, .string (⟨#[]⟩ : ByteArray), .slice none 0 0] 39 (0, 0)) (by (with_reducible repeat (first | refine blk_drewN ?_ _ | refine blk_drew ?_ | refine blk_alloc ?_ _)); exact BK154.out) hb)
     have n4_ := Aside0.mk (blk_below (g := gb161) (o := .cells #[.string ((rd_T136 t157 x19_1).f0), .string ((rd_T136 t157 x19_1).f1)] 136 (0, 0)) (by (with_reducible repeat (first | refine blk_drewN ?_ _ | refine blk_drew ?_ | refine blk_alloc ?_ _)); exact BK161.out) hb)
     have n5_ := Aside0.mk (below_step (by repeat (first | (with_reducible first | exact HB.out | apply below_alloc | apply pw_below_drewN | apply below_drew1 | refine below_set ?_ GE154.out | refine below_set ?_ GE161.out) | exact HB.out)) hb)
     clear HO_6
     clear HO_17
     clear BK154
     clear BK161
     clear HB
     have HO_6 := n0_
     have HO_17 := n1_
     have HO172 := n2_
     have BK154 := n3_
     have BK161 := n4_
     have HB := n5_
     clear n0_ n1_ n2_ n3_ n4_ n5_
     (try clear hb)
     (try clear hb2)
     (try clear hk)
     (try clear hi)
     (try clear ho0)
     obtain ⟨Ao22, co22, eo22⟩ := Kd.V_slice HO172.out
     (first | subst eo22 | (injection eo22 with f1_ f2_ f3_; have f4_ := f1_.symm; have f5_ := f3_.symm; clear f1_ f2_ f3_; subst f4_; subst f5_))
     refine hK.out _ _ ⟨(blk_cell BK161.out 0).trans rfl, (blk_cell BK161.out 1).trans rfl, ((HB.out.cell (World.block_lt_of_cell? w _ hw162_0)).trans hw162_0), ((HB.out.cell (World.block_lt_of_cell? w _ hw162_1)).trans hw162_1), ((HB.out.cell (World.block_lt_of_cell? w _ hw162_2)).trans hw162_2)⟩ (fun hHeld => ?_)
     clear hK K
     refine norm_ (a' := ?_) ?_ ?_
     rotate_left
     ·show Act.put _ (some 32) _ = _
      simp only [Act.put, List.setIfInBounds_toArray, List.set_cons_zero, List.set_cons_succ, i64_w, i32_w]
      rfl
     refine one_ (i := 9) (N := some 33) (bb [10, 2]) rfl rfl (one_of HT_.out (by kernel_rfl)) (by decide) (fun K hK => ?_)
     refine value_ (w1 := ?_) (v := ?_) (by rfl) rfl ?_ ?_
     rotate_left 2
     ·go_simp
      constructor
      ·rfl
      ·rfl
     refine hK.out _ _ ⟨(blk_cell (blk_alloc BK161.out _) 0).trans rfl, (blk_cell (blk_alloc BK161.out _) 1).trans rfl, (World.cell?_alloc_lt _ _ _ (World.block_lt_of_cell? _ _ (((HB.out.cell (World.block_lt_of_cell? w _ hw162_0)).trans hw162_0)))).trans (((HB.out.cell (World.block_lt_of_cell? w _ hw162_0)).trans hw162_0)), (World.cell?_alloc_lt _ _ _ (World.block_lt_of_cell? _ _ (((HB.out.cell (World.block_lt_of_cell? w _ hw162_1)).trans hw162_1)))).trans (((HB.out.cell (World.block_lt_of_cell? w _ hw162_1)).trans hw162_1)), (World.cell?_alloc_lt _ _ _ (World.block_lt_of_cell? _ _ (((HB.out.cell (World.block_lt_of_cell? w _ hw162_2)).trans hw162_2)))).trans (((HB.out.cell (World.block_lt_of_cell? w _ hw162_2)).trans hw162_2))⟩ (fun hHeld => ?_)
     clear hK K
     refine norm_ (a' := ?_) ?_ ?_
     rotate_left
     ·show Act.put _ (some 33) _ = _
      simp only [Act.put, List.setIfInBounds_toArray, List.set_cons_zero, List.set_cons_succ, i64_w, i32_w]
      rfl
     refine one_ (i := 10) (N := some 34) (bb [11, 1]) rfl rfl (one_of HT_.out (by kernel_rfl)) (by decide) (fun K hK => ?_)
     refine Kd.N_append_step k39 (w0 := w) w.heap.size (by rfl) (.tmp 24) (.tmp 33) 37 39 (.agg #[(.string ⟨#[]⟩), (.int .i64 0), (.bool false), (.int .i64 0), (.int .u64 0), (.float .f64 0), (.string ⟨#[]⟩), (.slice none 0 0)]) 96 rfl Tryz.underlying37 info39 rfl (by decide) (by omega) u6 x6_1 (⟨t163, t164, t165, t166, t167, t168, t169, t170⟩ : S39) [.string t163, .int .i64 t164, .bool t165, .int .i64 t166, .int .u64 t167, .float .f64 t168, .string t169, .slice Ao22 t170.length co22] (fun k_ => (w.heap.size ≤ k_) ∧ some k_ ≠ (.slice (some ad160) t157.length co8 : Value).ownBlock ∧ k_ ≠ gb154 ∧ k_ ≠ gb161) (fun k_ => ((fun k_ => (w.heap.size ≤ k_) ∧ some k_ ≠ (.slice (some ad160) t157.length co8 : Value).ownBlock ∧ k_ ≠ gb154 ∧ k_ ≠ gb161)) k_ ∧ some k_ ≠ (u6 : Value).ownBlock) rfl rfl ?aP (fun _ hk => hk) ?aF ?aO ?aB ?aS ?aL ?_
     (case aP => exact (k39_mkF _ _ (⟨t163, t164, t165, t166, t167, t168, t169, t170⟩ : S39) (Kd.V_reads' (Kd.V_mono (ok' := (fun k_ => ((fun k_ => (w.heap.size ≤ k_) ∧ some k_ ≠ (.slice (some ad160) t157.length co8 : Value).ownBlock ∧ k_ ≠ gb154 ∧ k_ ≠ gb161)) k_ ∧ some k_ ≠ (u6 : Value).ownBlock)) (HO172.out) (fun k_ hk => ⟨⟨hk.1, ⟨hk.2.2.1, ⟨hk.2.2.2.1, hk.2.2.2.2⟩⟩⟩, hk.2.1⟩))).2.1 (Kd.V_F (Kd.V_mono (ok' := (fun k_ => ((fun k_ => (w.heap.size ≤ k_) ∧ some k_ ≠ (.slice (some ad160) t157.length co8 : Value).ownBlock ∧ k_ ≠ gb154 ∧ k_ ≠ gb161)) k_ ∧ some k_ ≠ (u6 : Value).ownBlock)) (HO172.out) (fun k_ hk => ⟨⟨hk.1, ⟨hk.2.2.1, ⟨hk.2.2.2.1, hk.2.2.2.2⟩⟩⟩, hk.2.1⟩)))))
     (case aB => exact (by repeat (first | (with_reducible first | exact HB.out | apply below_alloc | apply pw_below_drewN | apply below_drew1 | refine below_set ?_ GE154.out | refine below_set ?_ GE161.out) | exact HB.out)))
     (case aF => exact (fun k_ hk => ⟨(Nat.le_trans (below_size (by repeat (first | (with_reducible first | exact HB.out | apply below_alloc | apply pw_below_drewN | apply below_drew1 | refine below_set ?_ GE154.out | refine below_set ?_ GE161.out) | exact HB.out))) hk), Kd.fresh' (Kd.R_lt (by (with_reducible repeat (first | apply Kd.R_alloc | apply Kd.R_drewN | apply Kd.R_drew)); exact HO_17.out)) k_ hk, Kd.freshB (g := gb154) (o := .cells #[.string (⟨#[]⟩ : ByteArray), .int .i64 0, .bool false, .int .i64 0, .int .u64 0, .float .f64 0, .string (⟨#[]⟩ : ByteArray), .slice none 0 0] 39 (0, 0)) (by (with_reducible repeat (first | refine blk_drewN ?_ _ | refine blk_drew ?_ | refine blk_alloc ?_ _)); exact BK154.out) k_ hk, Kd.freshB (g := gb161) (o := .cells #[.string ((rd_T136 t157 x19_1).f0), .string ((rd_T136 t157 x19_1).f1)] 136 (0, 0)) (by (with_reducible repeat (first | refine blk_drewN ?_ _ | refine blk_drew ?_ | refine blk_alloc ?_ _)); exact BK161.out) k_ hk⟩))
     (case aO => exact (by (with_reducible repeat (first | apply Kd.N_alloc | apply Kd.N_drewN | apply Kd.N_drew)); exact HO_6.out))
     (case aS => exact (below_size (by repeat (first | (with_reducible first | exact HB.out | apply below_alloc | apply pw_below_drewN | apply below_drew1 | refine below_set ?_ GE154.out | refine below_set ?_ GE161.out) | exact HB.out))))
     (case aL => have := LMc14.out; omega)
     intro v174 w21 ho hb hg hat
     rw [← Ny173.out] at ho
     have n0_ := Aside0.mk (Kd.R_over' (by (with_reducible repeat (first | apply Kd.R_alloc | apply Kd.R_drewN | apply Kd.R_drew)); exact HO_17.out) (Kd.N_typed (by (with_reducible repeat (first | apply Kd.N_alloc | apply Kd.N_drewN | apply Kd.N_drew)); exact HO_6.out)) (by decide) hg)
     have n1_ := Aside0.mk (blk_grown (g := gb154) (o := .cells #[.string (⟨#[]⟩ : ByteArray), .int .i64 0, .bool false, .int .i64 0, .int .u64 0, .float .f64 0, .string (⟨#[]⟩ : ByteArray), .slice none 0 0] 39 (0, 0)) (by (with_reducible repeat (first | refine blk_drewN ?_ _ | refine blk_drew ?_ | refine blk_alloc ?_ _)); exact BK154.out) hg (Kd.N_away HO_6.out (fun _ hk => hk.2.2.1)))
     have n2_ := Aside0.mk (blk_grown (g := gb161) (o := .cells #[.string ((rd_T136 t157 x19_1).f0), .string ((rd_T136 t157 x19_1).f1)] 136 (0, 0)) (by (with_reducible repeat (first | refine blk_drewN ?_ _ | refine blk_drew ?_ | refine blk_alloc ?_ _)); exact BK161.out) hg (Kd.N_ne HO_6.out BK161.out (by decide)))
     have n3_ := Aside0.mk (Kd.V_afterv (ok := (fun k_ => (w.heap.size ≤ k_) ∧ some k_ ≠ (.slice (some ad160) t157.length co8 : Value).ownBlock ∧ k_ ≠ gb154 ∧ k_ ≠ gb161)) (by (with_reducible repeat (first | apply Kd.V_alloc | apply Kd.V_drewN | apply Kd.V_drew)); exact Kd.V_mono HO172.out (fun _ hk => ⟨⟨hk.1, ⟨hk.2.2.1, ⟨hk.2.2.2.1, hk.2.2.2.2⟩⟩⟩, hk.2.1⟩)) hg hat)
     have n4_ := Aside0.mk (hb)
     have n5_ := Aside0.mk (ho)
     clear HO_17
     clear BK154
     clear BK161
     clear HO172
     clear HB
     clear HO_6
     have HO_17 := n0_
     have BK154 := n1_
     have BK161 := n2_
     have HO172 := n3_
     have HB := n4_
     have HO175 := n5_
     clear n0_ n1_ n2_ n3_ n4_ n5_
     clear ho hb hg hat
     refine hK.out _ _ ⟨(blk_cell BK161.out 0).trans rfl, (blk_cell BK161.out 1).trans rfl, ((HB.out.cell (World.block_lt_of_cell? w _ hw162_0)).trans hw162_0), ((HB.out.cell (World.block_lt_of_cell? w _ hw162_1)).trans hw162_1), ((HB.out.cell (World.block_lt_of_cell? w _ hw162_2)).trans hw162_2)⟩ (fun hHeld => ?_)
     clear hK K
     refine norm_ (a' := ?_) ?_ ?_
     rotate_left
     ·show Act.put _ (some 34) _ = _
      simp only [Act.put, List.setIfInBounds_toArray, List.set_cons_zero, List.set_cons_succ, i64_w, i32_w]
      rfl
     refine pure_ (i := 11) (N := some 6) (v := ?_) (a' := ?_) (bb [12]) rfl rfl (any_of HT_.out (by kernel_rfl)) (fun _ _ _ h => h) (Or.inl ⟨by rfl, ?_⟩) ?_ ?_
     rotate_left
     ·intro w'
      go_simp
      with_reducible rfl
     rotate_left
     ·simp only [Act.put, List.setIfInBounds_toArray, List.set_cons_zero, List.set_cons_succ, i64_w, i32_w]
      rfl
     refine done_ (done_of HT_.out (by kernel_rfl)) ?_
     try go_wp2
     go_roundg k1
     case measure => have := HK1.out; omega
     case rel => exact ⟨(y173), (wrap64 (x19_1 + 1)), (by first | rfl | (simp; done) | (simp [*]; done)), H', ⟨by have := HK1.out; omega⟩, ⟨by (with_reducible repeat (first | apply Kd.N_alloc | apply Kd.N_drewN | apply Kd.N_drew)); exact Kd.N_mono HO175.out (fun _ hk => ⟨hk.1, ⟨hk.2.1, hk.2.2.1⟩⟩)⟩, ⟨by (with_reducible repeat (first | apply Kd.R_alloc | apply Kd.R_drewN | apply Kd.R_drew)); exact Kd.R_mono HO_17.out (fun _ hk => hk.1)⟩, ⟨by (with_reducible repeat (first | refine blk_drewN ?_ _ | refine blk_drew ?_ | refine blk_alloc ?_ _)); exact BK154.out⟩, ⟨by repeat (first | (with_reducible first | exact HB.out | apply below_alloc | apply pw_below_drewN | apply below_drew1 | refine below_set ?_ GE154.out | refine below_set ?_ GE161.out) | exact HB.out)⟩⟩
    ·rw [if_neg c9] at H
     have c9b0 : decide (x19_1 < (t157.length : Int)) = false := decide_eq_false c9
     clear c9
     replace H := Option.bind_eq_some_iff.mp H
     obtain ⟨⟨t176, t177, t178, t179, t180, t181, t182, t183⟩, A230, H⟩ := H
     replace H : (some (t176, t177, t178, t179, t180, t181, t182, t183, 1)) = some (r1, r2, r3, r4, r5, r6, r7, r8, r9) := H
     have A23 := Aside0.mk A230
     clear A230
     simp only [Option.some.injEq, Prod.mk.injEq] at H
     obtain ⟨rfl, rfl, rfl, rfl, rfl, rfl, rfl, rfl, rfl⟩ := H
     obtain ⟨Ao24, co24, eo24⟩ := Kd.N_slice HO_6.out
     subst eo24
     go_wp2_with (first | ((with_reducible refine gate_callee (f := 53) rfl ?_); refine goesL_ (some 37) rfl rfl Tryz.func53 (by kernel_rfl) rfl #[.string (⟨#[]⟩ : ByteArray), .slice Ao24 x6_1.length co24] rfl (by (try simp only [List.map_toArray, List.map_cons, List.map_nil]); first | done | rfl | (simp only [List.length_drop, List.length_take]; rfl)) ?_; (with_reducible refine (spec_recordNode.calls (⟨#[]⟩ : ByteArray) (fun k_ => ((w.heap.size ≤ k_) ∧ (some k_ ≠ (.slice Ao8 t157.length co8 : Value).ownBlock ∧ k_ ≠ gb154))) _ _ x6_1 t176 t177 t178 t179 t180 t181 t182 t183 _ ?side1 A23.out).mono ?_); (case side1 => exact Kd.N_V (HO_6.out)); rintro e w25 ⟨v184, rfl, ho0, hb⟩; refine ⟨_, rfl, ?_⟩; have n0_ := Aside0.mk (Kd.N_below (by (with_reducible repeat (first | apply Kd.N_alloc | apply Kd.N_drewN | apply Kd.N_drew)); exact HO_6.out) hb); have n1_ := Aside0.mk (Kd.R_below (by (with_reducible repeat (first | apply Kd.R_alloc | apply Kd.R_drewN | apply Kd.R_drew)); exact HO_17.out) hb); have n2_ := Aside0.mk (Kd.V_lower (Kd.V_mono (ok' := fun k_ => (w.heap.size ≤ k_) ∧ some k_ ≠ (.slice Ao8 t157.length co8 : Value).ownBlock ∧ k_ ≠ gb154) ho0 (fun k_ hk_ => ⟨Or.elim hk_ (fun hs_ => hs_.1) (fun hn_ => (Nat.le_trans (below_size (by repeat (first | (with_reducible first | exact HB.out | apply below_alloc | apply pw_below_drewN | apply below_drew1 | refine below_set ?_ GE154.out) | exact HB.out))) hn_)), Or.elim hk_ (fun hs_ => hs_.2.1) (fun hn_ => (Kd.fresh' (Kd.R_lt (by (with_reducible repeat (first | apply Kd.R_alloc | apply Kd.R_drewN | apply Kd.R_drew)); exact HO_17.out)) k_ hn_)), Or.elim hk_ (fun hs_ => hs_.2.2) (fun hn_ => (Kd.freshB (g := gb154) (o := .cells #[.string (⟨#[]⟩ : ByteArray), .int .i64 0, .bool false, .int .i64 0, .int .u64 0, .float .f64 0, .string (⟨#[]⟩ : ByteArray), .slice none 0 0] 39 (0, 0)) (by (with_reducible repeat (first | refine blk_drewN ?_ _ | refine blk_drew ?_ | refine blk_alloc ?_ _)); exact BK154.out) k_ hn_))⟩)) (below_size (by repeat (first | (with_reducible first | exact HB.out | apply below_alloc | apply pw_below_drewN | apply below_drew1 | refine below_set ?_ GE154.out) | exact HB.out)))); have n3_ := Aside0.mk (blk_below (g := gb154) (o := .cells #[.string (⟨#[]⟩ : ByteArray), .int .i64 0, .bool false, .int .i64 0, .int .u64 0, .float .f64 0, .string (⟨#[]⟩ : ByteArray), .slice none 0 0] 39 (0, 0)) (by (with_reducible repeat (first | refine blk_drewN ?_ _ | refine blk_drew ?_ | refine blk_alloc ?_ _)); exact BK154.out) hb); have n4_ := Aside0.mk (below_step (by repeat (first | (with_reducible first | exact HB.out | apply below_alloc | apply pw_below_drewN | apply below_drew1 | refine below_set ?_ GE154.out) | exact HB.out)) hb); clear HO_6; clear HO_17; clear BK154; clear HB; have HO_6 := n0_; have HO_17 := n1_; have HO185 := n2_; have BK154 := n3_; have HB := n4_; clear n0_ n1_ n2_ n3_ n4_; (try clear hb); (try clear hb2); (try clear hk); (try clear hi); (try clear ho0); have hcz26_0 : w25.cell? ⟨gb154, 0, none⟩ = some (.string (⟨#[]⟩ : ByteArray)) := (blk_cell BK154.out 0).trans rfl; have hcz26_1 : w25.cell? ⟨gb154, 1, none⟩ = some (.int .i64 0) := (blk_cell BK154.out 1).trans rfl; have hcz26_2 : w25.cell? ⟨gb154, 2, none⟩ = some (.bool false) := (blk_cell BK154.out 2).trans rfl; have hcz26_3 : w25.cell? ⟨gb154, 3, none⟩ = some (.int .i64 0) := (blk_cell BK154.out 3).trans rfl; have hcz26_4 : w25.cell? ⟨gb154, 4, none⟩ = some (.int .u64 0) := (blk_cell BK154.out 4).trans rfl; have hcz26_5 : w25.cell? ⟨gb154, 5, none⟩ = some (.float .f64 0) := (blk_cell BK154.out 5).trans rfl; have hcz26_6 : w25.cell? ⟨gb154, 6, none⟩ = some (.string (⟨#[]⟩ : ByteArray)) := (blk_cell BK154.out 6).trans rfl; have hcz26_7 : w25.cell? ⟨gb154, 7, none⟩ = some (.slice none 0 0) := (blk_cell BK154.out 7).trans rfl; have hfz26_0 := blk_frozen BK154.out 0; have hfz26_1 := blk_frozen BK154.out 1; have hfz26_2 := blk_frozen BK154.out 2; have hfz26_3 := blk_frozen BK154.out 3; have hfz26_4 := blk_frozen BK154.out 4; have hfz26_5 := blk_frozen BK154.out 5; have hfz26_6 := blk_frozen BK154.out 6; have hfz26_7 := blk_frozen BK154.out 7; obtain ⟨Ao27, co27, eo27⟩ := Kd.V_slice HO185.out; subst eo27))
     refine bodyPost_ret (results_ct rfl _ _ gb154 39 #[.string t176, .int .i64 t177, .bool t178, .int .i64 t179, .int .u64 t180, .float .f64 t181, .string t182, .slice Ao27 t183.length co27] (0, 0) _ rfl (by (with_reducible repeat (first | refine blk_drewN ?_ _ | refine blk_drew ?_ | refine blk_alloc ?_ _)); refine blk_put (cs := #[.string t176, .int .i64 t177, .bool t178, .int .i64 t179, .int .u64 t180, .float .f64 t181, .string t182, .slice none 0 0]) ?_ 7 _ rfl; (with_reducible repeat (first | refine blk_drewN ?_ _ | refine blk_drew ?_ | refine blk_alloc ?_ _)); refine blk_put (cs := #[.string t176, .int .i64 t177, .bool t178, .int .i64 t179, .int .u64 t180, .float .f64 t181, .string (⟨#[]⟩ : ByteArray), .slice none 0 0]) ?_ 6 _ rfl; (with_reducible repeat (first | refine blk_drewN ?_ _ | refine blk_drew ?_ | refine blk_alloc ?_ _)); refine blk_put (cs := #[.string t176, .int .i64 t177, .bool t178, .int .i64 t179, .int .u64 t180, .float .f64 0, .string (⟨#[]⟩ : ByteArray), .slice none 0 0]) ?_ 5 _ rfl; (with_reducible repeat (first | refine blk_drewN ?_ _ | refine blk_drew ?_ | refine blk_alloc ?_ _)); refine blk_put (cs := #[.string t176, .int .i64 t177, .bool t178, .int .i64 t179, .int .u64 0, .float .f64 0, .string (⟨#[]⟩ : ByteArray), .slice none 0 0]) ?_ 4 _ rfl; (with_reducible repeat (first | refine blk_drewN ?_ _ | refine blk_drew ?_ | refine blk_alloc ?_ _)); refine blk_put (cs := #[.string t176, .int .i64 t177, .bool t178, .int .i64 0, .int .u64 0, .float .f64 0, .string (⟨#[]⟩ : ByteArray), .slice none 0 0]) ?_ 3 _ rfl; (with_reducible repeat (first | refine blk_drewN ?_ _ | refine blk_drew ?_ | refine blk_alloc ?_ _)); refine blk_put (cs := #[.string t176, .int .i64 t177, .bool false, .int .i64 0, .int .u64 0, .float .f64 0, .string (⟨#[]⟩ : ByteArray), .slice none 0 0]) ?_ 2 _ rfl; (with_reducible repeat (first | refine blk_drewN ?_ _ | refine blk_drew ?_ | refine blk_alloc ?_ _)); refine blk_put (cs := #[.string t176, .int .i64 0, .bool false, .int .i64 0, .int .u64 0, .float .f64 0, .string (⟨#[]⟩ : ByteArray), .slice none 0 0]) ?_ 1 _ rfl; (with_reducible repeat (first | refine blk_drewN ?_ _ | refine blk_drew ?_ | refine blk_alloc ?_ _)); refine blk_put (cs := #[.string (⟨#[]⟩ : ByteArray), .int .i64 0, .bool false, .int .i64 0, .int .u64 0, .float .f64 0, .string (⟨#[]⟩ : ByteArray), .slice none 0 0]) ?_ 0 _ rfl; (with_reducible repeat (first | refine blk_drewN ?_ _ | refine blk_drew ?_ | refine blk_alloc ?_ _)); exact BK154.out) Tryz.underlying39 rfl (by kernel_rfl)) rfl ?_
     exact ⟨_, by first | rfl | (simp [errW_none, errW_some] <;> rfl) | (simp [*, errW_none, errW_some] <;> rfl), by (with_reducible repeat (first | apply Kd.V_alloc | apply Kd.V_drewN | apply Kd.V_drew)); exact Kd.V_mono (Kd.V_far (p := ⟨gb154, 7, none⟩) (Kd.V_far (p := ⟨gb154, 6, none⟩) (Kd.V_far (p := ⟨gb154, 5, none⟩) (Kd.V_far (p := ⟨gb154, 4, none⟩) (Kd.V_far (p := ⟨gb154, 3, none⟩) (Kd.V_far (p := ⟨gb154, 2, none⟩) (Kd.V_far (p := ⟨gb154, 1, none⟩) (Kd.V_far (p := ⟨gb154, 0, none⟩) (Kd.V_mono HO185.out (fun k_ hk => (⟨hk, hk.2.2⟩ : _ ∧ k_ ≠ gb154))) (fun _ hk => hk.2) (.string t176)) (fun _ hk => hk.2) (.int .i64 t177)) (fun _ hk => hk.2) (.bool t178)) (fun _ hk => hk.2) (.int .i64 t179)) (fun _ hk => hk.2) (.int .u64 t180)) (fun _ hk => hk.2) (.float .f64 t181)) (fun _ hk => hk.2) (.string t182)) (fun _ hk => hk.2) (.slice Ao27 t183.length co27)) (fun _ hk => hk.1.1), by repeat (first | (with_reducible first | exact HB.out | apply below_alloc | apply pw_below_drewN | apply below_drew1 | refine below_set ?_ GE154.out) | exact HB.out)⟩
 ·rw [if_neg c3] at H
  have c3b0 : (t156 == 1) = false := beq_eq_false_iff_ne.mpr c3
  have c3b1 : (t156 != 1) = true := bne_iff_ne.mpr c3
  simp only [Option.some.injEq, Prod.mk.injEq] at H
  obtain ⟨rfl, rfl, rfl, rfl, rfl, rfl, rfl, rfl, rfl⟩ := H
  go_enter Tryz.func37, Tryz.ntmps37
  go_wp2_with (first | ((with_reducible refine gate_dst (N := 2) rfl ?_); refine box_event ?hg (N := 2) ?hd (cs := #[.string (⟨#[]⟩ : ByteArray), .int .i64 0, .bool false, .int .i64 0, .int .u64 0, .float .f64 0, .string (⟨#[]⟩ : ByteArray), .slice none 0 0]) (t := 39) ?hr ?_; (case hd => rfl); (case hg => rfl); (case hr => first | (go_simp; done) | (go_simp; rfl)); intro gb154 hg w28 hbox hb; have n0_ := Aside0.mk (below_step (by repeat (first | (with_reducible first | exact HB.out | apply below_alloc | apply pw_below_drewN | apply below_drew1) | exact HB.out)) hb); have n1_ := Aside0.mk (hbox); have n2_ := Aside0.mk ((by rw [hg]; exact (below_size (by repeat (first | (with_reducible first | exact HB.out | apply below_alloc | apply pw_below_drewN | apply below_drew1) | exact HB.out))) : w.heap.size ≤ gb154)); have n3_ := Aside0.mk ((by rw [hg]; exact (below_size (by repeat (first | (with_reducible first | exact HB.out | apply below_alloc | apply pw_below_drewN | apply below_drew1) | exact HB.out))) : w.heap.size ≤ gb154)); clear HB; have HB := n0_; have BK154 := n1_; have GW154 := n2_; have GE154 := n3_; clear n0_ n1_ n2_ n3_; clear hb hbox hg) | ((with_reducible refine gate_callee (f := 36) rfl ?_); refine goesL_ (some 11) rfl rfl Tryz.func36 (by kernel_rfl) rfl #[.slice A0 l0.length c0] rfl (by (try simp only [List.map_toArray, List.map_cons, List.map_nil]); first | done | rfl | (simp only [List.length_drop, List.length_take]; rfl)) ?_; (with_reducible refine (spec_SoftirqsPrint.calls k _ _ l0 t155 t156 _ ?side1 ?side2 A2.out).mono ?_); (case side1 => repeat (first | exact (Kd.C_below HR0.out HB.out) | (with_reducible refine Kd.C_alloc ?_ _) | (with_reducible refine Kd.C_drewN ?_ _) | (with_reducible refine Kd.C_drew ?_))); (case side2 => exact HC0.out); rintro e w29 ⟨rfl, hb⟩; refine ⟨_, rfl, ?_⟩; have n0_ := Aside0.mk (blk_below (g := gb154) (o := .cells #[.string (⟨#[]⟩ : ByteArray), .int .i64 0, .bool false, .int .i64 0, .int .u64 0, .float .f64 0, .string (⟨#[]⟩ : ByteArray), .slice none 0 0] 39 (0, 0)) (by (with_reducible repeat (first | refine blk_drewN ?_ _ | refine blk_drew ?_ | refine blk_alloc ?_ _)); exact BK154.out) hb); have n1_ := Aside0.mk (below_step (by repeat (first | (with_reducible first | exact HB.out | apply below_alloc | apply pw_below_drewN | apply below_drew1 | refine below_set ?_ GE154.out) | exact HB.out)) hb); clear BK154; clear HB; have BK154 := n0_; have HB := n1_; clear n0_ n1_; (try clear hb); (try clear hb2); (try clear hk); (try clear hi); have hcz30_0 : w29.cell? ⟨gb154, 0, none⟩ = some (.string (⟨#[]⟩ : ByteArray)) := (blk_cell BK154.out 0).trans rfl; have hcz30_1 : w29.cell? ⟨gb154, 1, none⟩ = some (.int .i64 0) := (blk_cell BK154.out 1).trans rfl; have hcz30_2 : w29.cell? ⟨gb154, 2, none⟩ = some (.bool false) := (blk_cell BK154.out 2).trans rfl; have hcz30_3 : w29.cell? ⟨gb154, 3, none⟩ = some (.int .i64 0) := (blk_cell BK154.out 3).trans rfl; have hcz30_4 : w29.cell? ⟨gb154, 4, none⟩ = some (.int .u64 0) := (blk_cell BK154.out 4).trans rfl; have hcz30_5 : w29.cell? ⟨gb154, 5, none⟩ = some (.float .f64 0) := (blk_cell BK154.out 5).trans rfl; have hcz30_6 : w29.cell? ⟨gb154, 6, none⟩ = some (.string (⟨#[]⟩ : ByteArray)) := (blk_cell BK154.out 6).trans rfl; have hcz30_7 : w29.cell? ⟨gb154, 7, none⟩ = some (.slice none 0 0) := (blk_cell BK154.out 7).trans rfl; have hfz30_0 := blk_frozen BK154.out 0; have hfz30_1 := blk_frozen BK154.out 1; have hfz30_2 := blk_frozen BK154.out 2; have hfz30_3 := blk_frozen BK154.out 3; have hfz30_4 := blk_frozen BK154.out 4; have hfz30_5 := blk_frozen BK154.out 5; have hfz30_6 := blk_frozen BK154.out 6; have hfz30_7 := blk_frozen BK154.out 7))
  refine bodyPost_ret (results_ct rfl _ _ gb154 39 #[.string (⟨#[]⟩ : ByteArray), .int .i64 0, .bool false, .int .i64 0, .int .u64 0, .float .f64 0, .string (⟨#[]⟩ : ByteArray), .slice none 0 0] (0, 0) _ rfl (by (with_reducible repeat (first | refine blk_drewN ?_ _ | refine blk_drew ?_ | refine blk_alloc ?_ _)); refine blk_put (cs := #[.string (⟨#[]⟩ : ByteArray), .int .i64 0, .bool false, .int .i64 0, .int .u64 0, .float .f64 0, .string (⟨#[]⟩ : ByteArray), .slice none 0 0]) ?_ 7 _ rfl; (with_reducible repeat (first | refine blk_drewN ?_ _ | refine blk_drew ?_ | refine blk_alloc ?_ _)); refine blk_put (cs := #[.string (⟨#[]⟩ : ByteArray), .int .i64 0, .bool false, .int .i64 0, .int .u64 0, .float .f64 0, .string (⟨#[]⟩ : ByteArray), .slice none 0 0]) ?_ 6 _ rfl; (with_reducible repeat (first | refine blk_drewN ?_ _ | refine blk_drew ?_ | refine blk_alloc ?_ _)); refine blk_put (cs := #[.string (⟨#[]⟩ : ByteArray), .int .i64 0, .bool false, .int .i64 0, .int .u64 0, .float .f64 0, .string (⟨#[]⟩ : ByteArray), .slice none 0 0]) ?_ 5 _ rfl; (with_reducible repeat (first | refine blk_drewN ?_ _ | refine blk_drew ?_ | refine blk_alloc ?_ _)); refine blk_put (cs := #[.string (⟨#[]⟩ : ByteArray), .int .i64 0, .bool false, .int .i64 0, .int .u64 0, .float .f64 0, .string (⟨#[]⟩ : ByteArray), .slice none 0 0]) ?_ 4 _ rfl; (with_reducible repeat (first | refine blk_drewN ?_ _ | refine blk_drew ?_ | refine blk_alloc ?_ _)); refine blk_put (cs := #[.string (⟨#[]⟩ : ByteArray), .int .i64 0, .bool false, .int .i64 0, .int .u64 0, .float .f64 0, .string (⟨#[]⟩ : ByteArray), .slice none 0 0]) ?_ 3 _ rfl; (with_reducible repeat (first | refine blk_drewN ?_ _ | refine blk_drew ?_ | refine blk_alloc ?_ _)); refine blk_put (cs := #[.string (⟨#[]⟩ : ByteArray), .int .i64 0, .bool false, .int .i64 0, .int .u64 0, .float .f64 0, .string (⟨#[]⟩ : ByteArray), .slice none 0 0]) ?_ 2 _ rfl; (with_reducible repeat (first | refine blk_drewN ?_ _ | refine blk_drew ?_ | refine blk_alloc ?_ _)); refine blk_put (cs := #[.string (⟨#[]⟩ : ByteArray), .int .i64 0, .bool false, .int .i64 0, .int .u64 0, .float .f64 0, .string (⟨#[]⟩ : ByteArray), .slice none 0 0]) ?_ 1 _ rfl; (with_reducible repeat (first | refine blk_drewN ?_ _ | refine blk_drew ?_ | refine blk_alloc ?_ _)); refine blk_put (cs := #[.string (⟨#[]⟩ : ByteArray), .int .i64 0, .bool false, .int .i64 0, .int .u64 0, .float .f64 0, .string (⟨#[]⟩ : ByteArray), .slice none 0 0]) ?_ 0 _ rfl; (with_reducible repeat (first | refine blk_drewN ?_ _ | refine blk_drew ?_ | refine blk_alloc ?_ _)); exact BK154.out) Tryz.underlying39 rfl (by kernel_rfl)) rfl ?_
  exact ⟨_, by first | rfl | (simp [errW_none, errW_some] <;> rfl) | (simp [*, errW_none, errW_some] <;> rfl), Kd.N_V (base := 0) (by first | exact Kd.R_nil _ _ _ _ _ | exact Kd.N_nil _ _ _ _ _ | exact Kd.V_nil _ _ _ _ _ | exact Kd.Q_nil _ _ _ _ _ | exact Kd.S_nil _ _ _ _ _), by repeat (first | (with_reducible first | exact HB.out | apply below_alloc | apply pw_below_drewN | apply below_drew1 | refine below_set ?_ GE154.out) | exact HB.out)⟩
end Go.Proofs.YtednjmngalmdkaaGreatDoor.GPC
end
section
/- laws.back at Softirqs: it answers true where BackOk holds. Conditions: BackOk; the tables as laid. -/
namespace Go.Proofs.YtednjmngalmdkaaGreatDoor.GPC
open Go.RowKit Go.Proofs.YtednjmngalmdkaaGreatDoorW.PrintWords Go.Proofs.YtednjmngalmdkaaGreatDoorW.PrintLast
set_option linter.unusedVariables false
set_option linter.unusedSimpArgs false
attribute [local go_sem] run_store_float
set_option maxHeartbeats 16000000 in
set_option maxRecDepth 100000 in
theorem backSoftirqs (A0 : Option Addr) (c0 : Nat) (l0 : List S31) (w : World) (hr0 : Kd.C k31 w A0 l0.length l0) (hc0 : l0.length ≤ c0) (hT : TabW w) (h : BackOk (fun k => spec_SoftirqsPrint.f k l0) (fun k => spec_SoftirqsTree.f k l0) (fun s n => doorSoftirqs s n) l0) :
  Calls Tryz.prog 14 #[.slice A0 l0.length c0, .func (.func 36) #[] #[], .func (.func 37) #[] #[], .func (.func 38) #[] #[]] w fun e w' => e = .returned (.bool true) ∧ Below w.heap.size w w' := by
 have HR := Aside0.mk hr0
 have HT := Aside0.mk hT
 have HC := Aside0.mk hc0
 clear hr0 hT hc0
 cases h with
 | long h1 =>
  have d1 : decide ((l0.length : Int) > 1000) = true := decide_eq_true (by omega)
  have d1' : decide (1000 < l0.length) = true := decide_eq_true (by omega)
  go_enter Tryz.func14, Tryz.ntmps14
  go_wp2
  go_ret
  exact ⟨rfl, Below.refl _ _⟩
 | noPrint h1 k text told hp hno =>
  have d1 : decide ((l0.length : Int) > 1000) = false := decide_eq_false (by omega)
  have d1' : decide (1000 < l0.length) = false := decide_eq_false (by omega)
  have HP := Aside0.mk hp
  clear hp h1
  go_enter Tryz.func14, Tryz.ntmps14
  have hd : (told != 1) = true ∨ (told != 1) = false ∧ decide ((text.size : Int) > 40000) = true := by
   rcases hno with hh | hh
   ·exact .inl (by simpa using hh)
   ·by_cases he : told = 1
    ·exact .inr ⟨by simp [he], decide_eq_true (by omega)⟩
    ·exact .inl (by simpa using he)
  rcases hd with q1 | ⟨q1, q2⟩
  all_goals (go_wp2_with (first
   | (go_at_call 36; refine (spec_SoftirqsPrint.calls k A0 c0 l0 text told _ HR.out HC.out HP.out).mono ?_; rintro e w1 ⟨rfl, hb⟩; have HB1 := Aside0.mk hb; clear hb)
   | (go_at_call 46; refine (lives_calls _ (tabW_below HT.out HB1.out)).mono ?_; rintro e w2 ⟨rfl, hb⟩; have HB2 := Aside0.mk (below_then HB1.out HB1.out.size hb); clear hb)))
  all_goals go_ret
  all_goals exact ⟨rfl, HB2.out⟩
 | noTree h1 k text hp hsz r tt ht hno =>
  have d1 : decide ((l0.length : Int) > 1000) = false := decide_eq_false (by omega)
  have d1' : decide (1000 < l0.length) = false := decide_eq_false (by omega)
  have q2 : decide ((text.size : Int) > 40000) = false := decide_eq_false (by omega)
  have q2' : decide (40000 < text.size) = false := decide_eq_false (by omega)
  have q3 : (tt != 1) = true := by simpa using hno
  have HP := Aside0.mk hp
  have HTR := Aside0.mk ht
  clear hp ht h1 hno hsz
  obtain ⟨r1, r2, r3, r4, r5, r6, r7, r8⟩ := r
  go_enter Tryz.func14, Tryz.ntmps14
  go_wp2_with (first
   | (go_at_call 36; refine (spec_SoftirqsPrint.calls k A0 c0 l0 text 1 _ HR.out HC.out HP.out).mono ?_; rintro e w1 ⟨rfl, hb⟩; have HB1 := Aside0.mk hb; clear hb)
   | (go_at_call 37; refine (spec_SoftirqsTree.calls k A0 c0 l0 r1 r2 r3 r4 r5 r6 r7 r8 tt _ (Kd.C_below HR.out HB1.out) HC.out HTR.out).mono ?_; rintro e w2 ⟨v7, rfl, hv, hb⟩; have HB2 := Aside0.mk (below_then HB1.out HB1.out.size hb); clear hb)
   | ((with_reducible refine gate_dst (N := 11) rfl ?_); refine box_event ?hg (N := 11) ?hd (cs := nodeZero) (t := 39) ?hr ?_; (case hd => rfl); (case hg => rfl); (case hr => first | (go_simp; done) | (go_simp; rfl)); intro gb hgb w3 hbox hb; have HBX := Aside0.mk hbox; have HB3 := Aside0.mk (below_then HB2.out HB2.out.size hb); have HGB := Aside0.mk (show w.heap.size ≤ gb by rw [hgb]; exact HB2.out.size); clear hgb hbox hb)
   | ((with_reducible refine gate_ (.store 39 (.tmp 11) (.tmp 35)) rfl ?_); refine box_store rfl rfl 39 (.tmp 11) (.tmp 35) rfl gb 39 nodeZero (snodeVal ⟨r1, r2, r3, r4, r5, r6, r7, r8⟩ v7) (snodeCells ⟨r1, r2, r3, r4, r5, r6, r7, r8⟩ v7) rfl rfl rfl snode_size (snode_one (Kd.V_sl hv)) HBX.out rfl ?_; intro w4 hbk hgr; have HB4 := Aside0.mk (pw_below_grown HB3.out (some gb) HB3.out.size hgr (fun k e => by cases e; exact HGB.out)); clear hbk hgr)
   | (go_at_call 46; refine (lives_calls _ (tabW_below HT.out HB4.out)).mono ?_; rintro e w5 ⟨rfl, hb⟩; have HB5 := Aside0.mk (below_then HB4.out HB4.out.size hb); clear hb))
  go_ret
  exact ⟨rfl, HB5.out⟩
 | same h1 k text hp hsz r ht n hd k2 m hm hs =>
  have d1 : decide ((l0.length : Int) > 1000) = false := decide_eq_false (by omega)
  have d1' : decide (1000 < l0.length) = false := decide_eq_false (by omega)
  have q2 : decide ((text.size : Int) > 40000) = false := decide_eq_false (by omega)
  have q2' : decide (40000 < text.size) = false := decide_eq_false (by omega)
  have HP := Aside0.mk hp
  have HTR := Aside0.mk ht
  have HD := Aside0.mk hd
  have HM := Aside0.mk hm
  have HS := Aside0.mk hs
  clear hp ht h1 hsz hd hm hs
  obtain ⟨r1, r2, r3, r4, r5, r6, r7, r8⟩ := r
  obtain ⟨m1, m2, m3, m4, m5, m6, m7, m8⟩ := m
  go_enter Tryz.func14, Tryz.ntmps14
  go_wp2_with (first
   | (go_at_call 36; refine (spec_SoftirqsPrint.calls k A0 c0 l0 text 1 _ HR.out HC.out HP.out).mono ?_; rintro e w1 ⟨rfl, hb⟩; have HB1 := Aside0.mk hb; clear hb)
   | (go_at_call 37; refine (spec_SoftirqsTree.calls k A0 c0 l0 r1 r2 r3 r4 r5 r6 r7 r8 1 _ (Kd.C_below HR.out HB1.out) HC.out HTR.out).mono ?_; rintro e w2 ⟨v7, rfl, hv, hb⟩; obtain ⟨At, ct, rfl, hlt, hFt⟩ := hv; have HCT := Aside0.mk (Kd.F_now hFt); have HLT := Aside0.mk hlt; have HB2 := Aside0.mk (below_then HB1.out HB1.out.size hb); clear hb hlt hFt)
   | ((with_reducible refine gate_dst (N := 11) rfl ?_); refine box_event ?hg (N := 11) ?hd (cs := nodeZero) (t := 39) ?hr ?_; (case hd => rfl); (case hg => rfl); (case hr => first | (go_simp; done) | (go_simp; rfl)); intro gb hgb w3 hbox hb; have HBX := Aside0.mk hbox; have HB3 := Aside0.mk hb; have HGB := Aside0.mk (show w2.heap.size ≤ gb by rw [hgb]; exact Nat.le_refl _); clear hgb hbox hb)
   | ((with_reducible refine gate_ (.store 39 (.tmp 11) (.tmp 35)) rfl ?_); refine box_store rfl rfl 39 (.tmp 11) (.tmp 35) rfl gb 39 nodeZero (snodeVal ⟨r1, r2, r3, r4, r5, r6, r7, r8⟩ (.slice At r8.length ct)) (snodeCells ⟨r1, r2, r3, r4, r5, r6, r7, r8⟩ (.slice At r8.length ct)) rfl rfl rfl snode_size (snode_one ⟨_, _, rfl⟩) HBX.out rfl ?_; intro w4 hbk hgr; have HW := Aside0.mk hbk; have HB4 := Aside0.mk (pw_below_grown HB3.out (some gb) HB3.out.size hgr (fun k e => by cases e; exact HGB.out)); clear hbk hgr)
   | (go_at_call 38; refine (doorSoftirqs_calls text n _ (tabW_below HT.out (below_then HB2.out HB2.out.size HB4.out)) HD.out).mono ?_; rintro e w5 ⟨v9, rfl, ho, hb⟩; obtain ⟨Ag, cg, rfl⟩ := ho.slice; obtain ⟨_, hlg, hCg⟩ := Kd.R_reads' ho; have HCG := Aside0.mk hCg; have HLG := Aside0.mk hlg; have HW5 := Aside0.mk (blk_below HW.out hb); have HB5 := Aside0.mk (below_then HB4.out HB4.out.size hb); clear ho hb hlg hCg)
   | ((with_reducible refine gate_dst (N := 12) rfl ?_); refine box_event ?hg (N := 12) ?hd (cs := nodeZero) (t := 43) ?hr ?_; (case hd => rfl); (case hg => rfl); (case hr => first | (go_simp; done) | (go_simp; rfl)); intro gc hgc w6 hbox hb; have HCX := Aside0.mk hbox; have HW6 := Aside0.mk (blk_below HW5.out hb); have HB6 := Aside0.mk hb; have HGC := Aside0.mk (show w5.heap.size ≤ gc by rw [hgc]; exact Nat.le_refl _); have HNE := Aside0.mk (show gb < gc by rw [hgc]; exact blk_lt HW5.out); clear hgc hbox hb)
   | ((with_reducible refine gate_ (.store 43 (.tmp 12) (.tmp 44)) rfl ?_); refine box_store rfl rfl 43 (.tmp 12) (.tmp 44) rfl gc 43 nodeZero (nodeVal n (.slice Ag n.f7.length cg)) (nodeCells n (.slice Ag n.f7.length cg)) rfl rfl rfl node_size (node_one ⟨_, _, rfl⟩) HCX.out rfl ?_; intro w7 hbk hgr; have HG7 := Aside0.mk hbk; have HW7 := Aside0.mk (blk_grown HW6.out hgr (by have := HNE.out; intro e; injection e with e; omega)); have HB7 := Aside0.mk (pw_below_grown HB6.out (some gc) HB6.out.size hgr (fun k e => by cases e; exact HGC.out)); clear hbk hgr))
  have HB27 := Aside0.mk (below_then HB5.out HB5.out.size HB7.out)
  have HB07 := Aside0.mk (below_then HB2.out HB2.out.size HB27.out)
  have KA : Aside0 (∀ W : World, Below w7.heap.size w7 W → (Below w7.heap.size w7 W ∧ W.cell? ⟨gc, 0, none⟩ = some (.string n.f0) ∧ W.cell? ⟨gc, 1, none⟩ = some (.int .i64 n.f1) ∧ W.cell? ⟨gc, 2, none⟩ = some (.bool n.f2) ∧ W.cell? ⟨gc, 3, none⟩ = some (.int .i64 n.f3) ∧ W.cell? ⟨gc, 4, none⟩ = some (.int .u64 n.f4) ∧ W.cell? ⟨gc, 5, none⟩ = some (.float .f64 n.f5) ∧ W.cell? ⟨gc, 6, none⟩ = some (.string n.f6) ∧ W.cell? ⟨gc, 7, none⟩ = some (.slice Ag n.f7.length cg) ∧ W.cell? ⟨gb, 0, none⟩ = some (.string r1) ∧ W.cell? ⟨gb, 1, none⟩ = some (.int .i64 r2) ∧ W.cell? ⟨gb, 2, none⟩ = some (.bool r3) ∧ W.cell? ⟨gb, 3, none⟩ = some (.int .i64 r4) ∧ W.cell? ⟨gb, 4, none⟩ = some (.int .u64 r5) ∧ W.cell? ⟨gb, 5, none⟩ = some (.float .f64 r6) ∧ W.cell? ⟨gb, 6, none⟩ = some (.string r7) ∧ W.cell? ⟨gb, 7, none⟩ = some (.slice At r8.length ct))) := ⟨fun W hb => by
   have h1 := blk_below HG7.out hb
   have h2 := blk_below HW7.out hb
   exact ⟨hb, (blk_cell h1 0).trans rfl, (blk_cell h1 1).trans rfl, (blk_cell h1 2).trans rfl, (blk_cell h1 3).trans rfl, (blk_cell h1 4).trans rfl, (blk_cell h1 5).trans rfl, (blk_cell h1 6).trans rfl, (blk_cell h1 7).trans rfl, (blk_cell h2 0).trans rfl, (blk_cell h2 1).trans rfl, (blk_cell h2 2).trans rfl, (blk_cell h2 3).trans rfl, (blk_cell h2 4).trans rfl, (blk_cell h2 5).trans rfl, (blk_cell h2 6).trans rfl, (blk_cell h2 7).trans rfl⟩⟩
  go_region_held3 (fun W => Below w7.heap.size w7 W ∧ W.cell? ⟨gc, 0, none⟩ = some (.string n.f0) ∧ W.cell? ⟨gc, 1, none⟩ = some (.int .i64 n.f1) ∧ W.cell? ⟨gc, 2, none⟩ = some (.bool n.f2) ∧ W.cell? ⟨gc, 3, none⟩ = some (.int .i64 n.f3) ∧ W.cell? ⟨gc, 4, none⟩ = some (.int .u64 n.f4) ∧ W.cell? ⟨gc, 5, none⟩ = some (.float .f64 n.f5) ∧ W.cell? ⟨gc, 6, none⟩ = some (.string n.f6) ∧ W.cell? ⟨gc, 7, none⟩ = some (.slice Ag n.f7.length cg) ∧ W.cell? ⟨gb, 0, none⟩ = some (.string r1) ∧ W.cell? ⟨gb, 1, none⟩ = some (.int .i64 r2) ∧ W.cell? ⟨gb, 2, none⟩ = some (.bool r3) ∧ W.cell? ⟨gb, 3, none⟩ = some (.int .i64 r4) ∧ W.cell? ⟨gb, 4, none⟩ = some (.int .u64 r5) ∧ W.cell? ⟨gb, 5, none⟩ = some (.float .f64 r6) ∧ W.cell? ⟨gb, 6, none⟩ = some (.string r7) ∧ W.cell? ⟨gb, 7, none⟩ = some (.slice At r8.length ct))
   (first
    | exact KA.out _ (below_drew (Below.refl _ _))
    | (go_split_ands; exact KA.out _ (keepS (by assumption) hb'))
    | (go_split_ands; exact KA.out _ (below_drew (by assumption))))
   (first
    | (go_at_call 48; (with_reducible refine (laws_toNode.calls k2 n.f0 n.f1 n.f2 n.f3 n.f4 n.f5 n.f6 Ag cg n.f7 m1 m2 m3 m4 m5 m6 m7 m8 _ (by go_split_ands; exact Kd.C_below HCG.out (keepS HB7.out (by assumption))) HLG.out HM.out).mono ?_); rintro e w' ⟨v9, rfl, hom, hb'⟩; obtain ⟨Am, cm, rfl⟩ := Kd.R_slice hom)
    | (go_at_call 47; (with_reducible refine (spec_SameNode.calls k2 m1 m2 m3 m4 m5 m6 m7 Am cm m8 r1 r2 r3 r4 r5 r6 r7 At ct r8 true _ (by first | exact (Kd.R_reads' hom).2.2 | exact Kd.C_below (Kd.R_reads' hom).2.2 (below_drew (Below.refl _ _))) (Kd.R_reads' hom).2.1 (by go_split_ands; exact Kd.C_below HCT.out (keepS HB27.out (by assumption))) HLT.out HS.out).mono ?_); rintro e w' ⟨rfl, hb'⟩)
    | (go_at_call 46; (with_reducible refine (lives_calls _ (by go_split_ands; exact tabW_below HT.out (keepS HB07.out (by assumption)))).mono ?_); rintro e w' ⟨rfl, hb'⟩))
  go_split_ands
  go_wp2
  go_ret
  exact ⟨rfl, keepS HB07.out (by assumption)⟩
end Go.Proofs.YtednjmngalmdkaaGreatDoor.GPC
end
section
/- laws.FnSoftirqsBack answers true where BackOk holds. Conditions: BackOk; the tables as laid. -/
namespace Go.Proofs.YtednjmngalmdkaaGreatDoor.GPC
open Go.RowKit Go.Proofs.YtednjmngalmdkaaGreatDoorW.PrintWords Go.Proofs.YtednjmngalmdkaaGreatDoorW.PrintLast
set_option linter.unusedVariables false
set_option maxHeartbeats 8000000 in
set_option maxRecDepth 100000 in
theorem lawSoftirqs (A0 : Option Addr) (c0 : Nat) (l0 : List S31) (w : World) (hr0 : Kd.C k31 w A0 l0.length l0) (hc0 : l0.length ≤ c0) (hT : TabW w) (k : Nat) (b : Bool) (hz : laws_zzFits5.f k l0 = some b)
  (h : b = true → BackOk (fun k => spec_SoftirqsPrint.f k l0) (fun k => spec_SoftirqsTree.f k l0) (fun s n => doorSoftirqs s n) l0) :
  Calls Tryz.prog 10 #[.slice A0 l0.length c0] w fun e w' => e = .returned (.bool true) ∧ Below w.heap.size w w' := by
 have HR := Aside0.mk hr0
 have HT := Aside0.mk hT
 have HC := Aside0.mk hc0
 have HZ := Aside0.mk hz
 have H := Aside0.mk h
 clear hr0 hT hc0 hz h
 cases b
 ·go_enter Tryz.func10, Tryz.ntmps10
  go_wp2_with (first
   | (go_at_call 13; refine (laws_zzFits5.calls k A0 c0 l0 false _ HR.out HC.out HZ.out).mono ?_; rintro e w1 ⟨rfl, hb⟩; have HB1 := Aside0.mk hb; clear hb))
  go_ret
  exact ⟨rfl, HB1.out⟩
 ·have H2 := Aside0.mk (H.out rfl)
  clear H
  go_enter Tryz.func10, Tryz.ntmps10
  go_wp2_with (first
   | (go_at_call 13; refine (laws_zzFits5.calls k A0 c0 l0 true _ HR.out HC.out HZ.out).mono ?_; rintro e w1 ⟨rfl, hb⟩; have HB1 := Aside0.mk hb; clear hb)
   | (go_at_call 14; refine (backSoftirqs A0 c0 l0 _ (Kd.C_below HR.out HB1.out) HC.out (tabW_below HT.out HB1.out) H2.out).mono ?_; rintro e w2 ⟨rfl, hb⟩; have HB2 := Aside0.mk (keepS HB1.out hb); clear hb))
  go_ret
  exact ⟨rfl, HB2.out⟩
end Go.Proofs.YtednjmngalmdkaaGreatDoor.GPC
end
section
/- Plain facts: a tree of the door, handed over, is the same tree; a tree is the same as itself. Conditions: a depth, lists of at most a million parts. -/
namespace Go.Proofs.YtednjmngalmdkaaGreatDoor.GPC
open Go Go.RowKit Go.Proofs.YtednjmngalmdkaaGreatDoorW.PrintWords Go.Proofs.YtednjmngalmdkaaGreatDoorW.PrintLast
set_option linter.unusedVariables false
def tup39 (n : S39) : N8 S39 := (n.f0, n.f1, n.f2, n.f3, n.f4, n.f5, n.f6, n.f7)
def convN : Nat → S43 → S39
 | 0, n => ⟨n.f0, n.f1, n.f2, n.f3, n.f4, n.f5, n.f6, []⟩
 | d + 1, n => ⟨n.f0, n.f1, n.f2, n.f3, n.f4, n.f5, n.f6, n.f7.map (convN d)⟩
def FitN : Nat → S43 → Prop
 | 0, n => n.f7 = []
 | d + 1, n => n.f7.length ≤ 1000000 ∧ ∀ x ∈ n.f7, FitN d x
def FitS : Nat → S39 → Prop
 | 0, n => n.f7 = []
 | d + 1, n => n.f7.length ≤ 1000000 ∧ ∀ x ∈ n.f7, FitS d x
theorem fit_conv : ∀ (d : Nat) (n : S43), FitN d n → FitS d (convN d n)
 | 0, n, h => rfl
 | d + 1, n, h => ⟨by simpa [convN] using h.1, fun x hx => by
   simp only [convN, List.mem_map] at hx
   obtain ⟨y, hy, rfl⟩ := hx
   exact fit_conv d y (h.2 y hy)⟩
theorem rd43 (l : List S43) (i : Nat) (h : i < l.length) : rd_T43 l (i : Int) = l[i] := by
 simp [rd_T43, List.getD_eq_getElem?_getD, List.getElem?_eq_getElem h]
theorem rd39 (l : List S39) (i : Nat) (h : i < l.length) : rd_T39 l (i : Int) = l[i] := by
 simp [rd_T39, List.getD_eq_getElem?_getD, List.getElem?_eq_getElem h]
theorem eta39 (x : S39) : (⟨(tup39 x).1, (tup39 x).2.1, (tup39 x).2.2.1, (tup39 x).2.2.2.1, (tup39 x).2.2.2.2.1, (tup39 x).2.2.2.2.2.1, (tup39 x).2.2.2.2.2.2.1, (tup39 x).2.2.2.2.2.2.2⟩ : S39) = x := by cases x; rfl
theorem toNode_loop (l : List S43) (hl : l.length ≤ 1000000) (g : S43 → S39) (hg : ∀ x ∈ l, Ev (fun k => laws_toNode.f k x.f0 x.f1 x.f2 x.f3 x.f4 x.f5 x.f6 x.f7) (tup39 (g x))) (a0 : ByteArray) (a1 : Int) (a2 : Bool) (a3 a4 : Int) (a5 : Nat) (a6 : ByteArray) :
  ∀ (d i : Nat) (acc : List S39), i + d = l.length → acc.length ≤ i → Ev (fun k => laws_toNode.l0 k l (l.length : Int) (i : Int) a0 a1 a2 a3 a4 a5 a6 acc) (a0, a1, a2, a3, a4, a5, a6, acc ++ (l.drop i).map g)
 | 0, i, acc, h, ha => by
  rw [List.drop_eq_nil_of_le (by omega), List.map_nil, List.append_nil]
  exact Ev.step (f := fun _ => some (a0, a1, a2, a3, a4, a5, a6, acc)) (fun k => by simp only [laws_toNode.l0]; rw [if_neg (by omega)]) (Ev.now _)
 | d + 1, i, acc, h, ha => by
  have hi : i < l.length := by omega
  have hw : wrap64 ((i : Int) + 1) = ((i + 1 : Nat) : Int) := by unfold wrap64; omega
  have hx := hg l[i] (List.getElem_mem hi)
  have ih := toNode_loop l hl g hg a0 a1 a2 a3 a4 a5 a6 d (i + 1) (acc ++ [g l[i]]) (by omega) (by simp; omega)
  rw [List.append_assoc, List.singleton_append, ← List.map_cons, ← List.drop_eq_getElem_cons hi] at ih
  refine Ev.step (fun k => by simp only [laws_toNode.l0]; rw [if_pos (by omega), if_pos (by omega), if_pos (by omega), rd43 l i hi, hw]) (Ev.bind (f := fun k (bt : N8 S39) => if acc.length < 1466015503701 then (laws_toNode.l0 k l (l.length : Int) ((i + 1 : Nat) : Int) a0 a1 a2 a3 a4 a5 a6 (acc ++ [(⟨bt.1, bt.2.1, bt.2.2.1, bt.2.2.2.1, bt.2.2.2.2.1, bt.2.2.2.2.2.1, bt.2.2.2.2.2.2.1, bt.2.2.2.2.2.2.2⟩ : S39)])) else none) hx ?_)
  exact Ev.congr (fun k => by rw [if_pos (by omega), eta39]) ih
theorem toNode_ev : ∀ (d : Nat) (n : S43), FitN d n → Ev (fun k => laws_toNode.f k n.f0 n.f1 n.f2 n.f3 n.f4 n.f5 n.f6 n.f7) (tup39 (convN d n))
 | 0, n, h => by
  have := toNode_loop n.f7 (by rw [show n.f7 = [] from h]; simp) (fun x => convN 0 x) (by rw [show n.f7 = [] from h]; simp) n.f0 n.f1 n.f2 n.f3 n.f4 n.f5 n.f6 n.f7.length 0 [] (by omega) (by simp)
  rw [List.drop_zero, List.nil_append] at this
  refine Ev.step (f := fun k => laws_toNode.l0 k n.f7 (n.f7.length : Int) 0 n.f0 n.f1 n.f2 n.f3 n.f4 n.f5 n.f6 []) (fun k => by simp only [laws_toNode.f]) ?_
  have e : tup39 (convN 0 n) = (n.f0, n.f1, n.f2, n.f3, n.f4, n.f5, n.f6, n.f7.map fun x => convN 0 x) := by
   rw [show n.f7 = [] from h]; rfl
  rw [e]
  exact this
 | d + 1, n, h => by
  have := toNode_loop n.f7 h.1 (convN d) (fun x hx => toNode_ev d x (h.2 x hx)) n.f0 n.f1 n.f2 n.f3 n.f4 n.f5 n.f6 n.f7.length 0 [] (by omega) (by simp)
  rw [List.drop_zero, List.nil_append] at this
  exact Ev.step (f := fun k => laws_toNode.l0 k n.f7 (n.f7.length : Int) 0 n.f0 n.f1 n.f2 n.f3 n.f4 n.f5 n.f6 []) (fun k => by simp only [laws_toNode.f]) this
theorem same_loop (n : S39) (hl : n.f7.length ≤ 1000000) (hg : ∀ x ∈ n.f7, Ev (fun k => spec_SameNode.f k x.f0 x.f1 x.f2 x.f3 x.f4 x.f5 x.f6 x.f7 x.f0 x.f1 x.f2 x.f3 x.f4 x.f5 x.f6 x.f7) true) :
  ∀ (d i : Nat), i + d = n.f7.length → Ev (fun k => spec_SameNode.l0 k (n.f7.length : Int) (i : Int) n.f0 n.f1 n.f2 n.f3 n.f4 n.f5 n.f6 n.f7 n.f0 n.f1 n.f2 n.f3 n.f4 n.f5 n.f6 n.f7) true
 | 0, i, h => Ev.step (f := fun _ => some true) (fun k => by simp only [spec_SameNode.l0]; rw [if_neg (by omega)]) (Ev.now _)
 | d + 1, i, h => by
  have hi : i < n.f7.length := by omega
  have hw : wrap64 ((i : Int) + 1) = ((i + 1 : Nat) : Int) := by unfold wrap64; omega
  have hx := hg n.f7[i] (List.getElem_mem hi)
  have ih := same_loop n hl hg d (i + 1) (by omega)
  refine Ev.step (fun k => by simp only [spec_SameNode.l0]; rw [if_pos (by omega), if_pos (by omega), if_pos (by omega), if_pos (by omega), rd39 n.f7 i hi, hw]) (Ev.bind (f := fun k t => if t = true then (spec_SameNode.l0 k (n.f7.length : Int) ((i + 1 : Nat) : Int) n.f0 n.f1 n.f2 n.f3 n.f4 n.f5 n.f6 n.f7 n.f0 n.f1 n.f2 n.f3 n.f4 n.f5 n.f6 n.f7) else none) hx ?_)
  exact Ev.congr (fun k => if_pos rfl) ih
theorem same_ev : ∀ (d : Nat) (n : S39), FitS d n → Ev (fun k => spec_SameNode.f k n.f0 n.f1 n.f2 n.f3 n.f4 n.f5 n.f6 n.f7 n.f0 n.f1 n.f2 n.f3 n.f4 n.f5 n.f6 n.f7) true := by
 have top : ∀ (n : S39), Ev (fun k => spec_SameNode.l0 k (n.f7.length : Int) 0 n.f0 n.f1 n.f2 n.f3 n.f4 n.f5 n.f6 n.f7 n.f0 n.f1 n.f2 n.f3 n.f4 n.f5 n.f6 n.f7) true → Ev (fun k => spec_SameNode.f k n.f0 n.f1 n.f2 n.f3 n.f4 n.f5 n.f6 n.f7 n.f0 n.f1 n.f2 n.f3 n.f4 n.f5 n.f6 n.f7) true := by
  intro n h
  refine Ev.step (f := fun k => spec_SameNode.j0 k ((n.f7.length : Int) != (n.f7.length : Int)) n.f0 n.f1 n.f2 n.f3 n.f4 n.f5 n.f6 n.f7 n.f0 n.f1 n.f2 n.f3 n.f4 n.f5 n.f6 n.f7) (fun k => ?_) (Ev.step (fun k => ?_) h)
  ·simp [spec_SameNode.f, math_Float64bits.f]
  ·simp only [spec_SameNode.j0]
   rw [if_neg (by simp)]
 intro d
 induction d with
 | zero =>
  intro n h
  have h7 : n.f7 = [] := h
  exact top n (same_loop n (by rw [h7]; simp) (by rw [h7]; simp) n.f7.length 0 (by omega))
 | succ d ih =>
  intro n h
  exact top n (same_loop n h.1 (fun x hx => ih x (h.2 x hx)) n.f7.length 0 (by omega))
theorem back_same {print : Nat → Option (ByteArray × Int)} {tree : Nat → Option (ByteArray × Int × Bool × Int × Int × Nat × ByteArray × List S39 × Int)} {door : ByteArray → S43 → Prop} {l : List S31} (h : l.length ≤ 1000) (text : ByteArray)
  (hp : Ev print (text, 1)) (hsz : text.size ≤ 40000) (d : Nat) (n : S43) (hf : FitN d n)
  (ht : Ev tree ((convN d n).f0, (convN d n).f1, (convN d n).f2, (convN d n).f3, (convN d n).f4, (convN d n).f5, (convN d n).f6, (convN d n).f7, 1)) (hd : door text n) : BackOk print tree door l := by
 obtain ⟨K1, h1⟩ := hp
 obtain ⟨K2, h2⟩ := ht
 obtain ⟨K3, h3⟩ := toNode_ev d n hf
 obtain ⟨K4, h4⟩ := same_ev d (convN d n) (fit_conv d n hf)
 exact BackOk.same h (K1 + K2) text (h1 _ (by omega)) hsz (tup39 (convN d n)) (h2 _ (by omega)) n hd (K3 + K4) (tup39 (convN d n)) (h3 _ (by omega)) (h4 _ (by omega))
end Go.Proofs.YtednjmngalmdkaaGreatDoor.GPC
end
section
/- Plain facts: the digits of a number in a base tell this number, with noughts ahead and in great letters, too. Condition: the number is at most the bound. -/
namespace Go.Proofs.YtednjmngalmdkaaGreatDoor.PF
open Go Go.Proofs.YtednjmngalmdkaaGreatDoor.GPC
set_option linter.unusedVariables false
theorem puN_append (b mx : Nat) : ∀ (x y : List UInt8) (acc : Nat), puN b mx acc (x ++ y) = (puN b mx acc x).bind fun a => puN b mx a y
 | [], y, acc => rfl
 | c :: x, y, acc => by
  simp only [List.cons_append, puN]
  split
  ·exact puN_append b mx x y _
  ·rfl
theorem dch_val : ((List.range 16).all fun d => decide (digV (dch d).toNat = d)) = true := by decide +kernel
theorem digV_dch (d : Nat) (h : d < 16) : digV (dch d).toNat = d := by
 have := List.all_eq_true.1 dch_val d (List.mem_range.2 h)
 simpa using this
theorem puN_dig (b n mx : Nat) (hb : 2 ≤ b) (hb2 : b ≤ 16) (hn : n ≤ mx) : puN b mx 0 (digB b n) = some n := by
 induction n using Nat.strongRecOn with
 | _ n ih =>
  unfold digB
  by_cases h : n < b ∨ b < 2
  ·rw [dif_pos h]
   have hlt : n < b := by omega
   simp only [puN, digV_dch n (by omega)]
   rw [if_pos ⟨hlt, by omega⟩]
   simp
  ·rw [dif_neg h, puN_append, ih (n / b) (Nat.div_lt_self (by omega) (by omega)) (Nat.le_trans (Nat.div_le_self _ _) hn)]
   have hm : n % b < b := Nat.mod_lt _ (by omega)
   have he : n / b * b + n % b = n := by rw [Nat.mul_comm]; exact Nat.div_add_mod n b
   simp only [Option.bind_some, puN, digV_dch (n % b) (by omega), he]
   rw [if_pos ⟨hm, hn⟩]
end Go.Proofs.YtednjmngalmdkaaGreatDoor.PF
end
section
/- Plain facts on the printed functions that all the rows share: sizes, bounds, digits. Conditions: lists of at most 2^47 cells. -/
namespace Go.Proofs.YtednjmngalmdkaaGreatDoor.GPC
open Go Go.RowKit Go.Proofs.YtednjmngalmdkaaGreatDoorW.PrintWords Go.Proofs.YtednjmngalmdkaaGreatDoorW.PrintLast Go.Proofs.YtednjmngalmdkaaGreatDoor.PF
set_option linter.unusedVariables false
def strB (l : List UInt8) : ByteArray := ⟨l.toArray⟩
theorem hex_at : ∀ d : Fin 16, strOfNums [bt (⟨#[48, 49, 50, 51, 52, 53, 54, 55, 56, 57, 97, 98, 99, 100, 101, 102]⟩ : ByteArray) (d.val : Int)] = strB [dch d.val] := by decide
theorem hex_n (d : Nat) (h : d < 16) : strOfNums [bt (⟨#[48, 49, 50, 51, 52, 53, 54, 55, 56, 57, 97, 98, 99, 100, 101, 102]⟩ : ByteArray) (d : Int)] = strB [dch d] := hex_at ⟨d, h⟩
theorem u64_w {n : Int} (h0 : 0 ≤ n) (h1 : n < 18446744073709551616) : IntKind.u64.wrap n = n := by
 simp only [IntKind.wrap, IntKind.bits, IntKind.signed, Bool.false_and]
 exact Int.emod_eq_of_lt h0 h1
theorem strB_append (x y : List UInt8) : strB x ++ strB y = strB (x ++ y) := by
 apply ByteArray.ext
 simp [strB]
theorem strB_size (x : List UInt8) : (strB x).size = x.length := by simp [strB, ByteArray.size]
theorem digits_ev (b : Nat) (hb : 2 ≤ b) (hb2 : b ≤ 16) (n : Nat) (hn : n < 18446744073709551616) : Ev (fun k => spec_Digits.f k (n : Int) (b : Int)) (strB (digB b n)) ∧ (digB b n).length ≤ n + 1 := by
 induction n using Nat.strongRecOn with
 | _ n ih =>
  have hmod : n % b < 16 := Nat.lt_of_lt_of_le (Nat.mod_lt _ (by omega)) hb2
  have e1 : Int.tmod (n : Int) (b : Int) = ((n % b : Nat) : Int) := by rw [Int.tmod_eq_emod_of_nonneg (by omega)]; simp
  have e2 : Int.tdiv (n : Int) (b : Int) = ((n / b : Nat) : Int) := by rw [Int.tdiv_eq_ediv_of_nonneg (by omega)]; simp
  have hx := hex_n (n % b) hmod
  unfold digB
  by_cases h : n < b
  ·rw [dif_pos (.inl h)]
   rw [Nat.mod_eq_of_lt h] at hx e1
   refine ⟨Ev.step (f := fun _ => some (strB [dch n])) (fun k => ?_) (Ev.now _), by simp⟩
   simp only [spec_Digits.f]
   rw [if_neg (by omega), e1, if_pos (by omega), if_pos (by omega), if_pos (by omega), hx]
  ·rw [dif_neg (by omega)]
   have hlt : n / b < n := Nat.div_lt_self (by omega) (by omega)
   obtain ⟨ih1, ih2⟩ := ih (n / b) hlt (by omega)
   have hw : IntKind.u64.wrap (Int.tdiv (n : Int) (b : Int)) = ((n / b : Nat) : Int) := by
    rw [e2]
    generalize n / b = q at hlt ⊢
    exact u64_w (by omega) (by omega)
   have h64 : (digB b (n / b)).length ≤ 64 := by
    have := digB_length b (n / b) 63 hb (Nat.lt_of_lt_of_le (show n / b < 2 ^ 64 by omega) (Nat.pow_le_pow_left hb 64))
    exact this
   refine ⟨Ev.step (f := fun k => (spec_Digits.f k ((n / b : Nat) : Int) (b : Int)).bind fun t => if t.size + (strB [dch (n % b)]).size ≤ 9223372036854775807 then some (t ++ strB [dch (n % b)]) else none) (fun k => ?_) (Ev.bind (f := fun _ t => if t.size + (strB [dch (n % b)]).size ≤ 9223372036854775807 then some (t ++ strB [dch (n % b)]) else none) ih1 ?_), ?_⟩
   ·simp only [spec_Digits.f, Option.bind_some]
    rw [if_neg (by omega), e1, if_pos (by omega), if_pos (by omega), if_neg (by omega), hw, hx]
   ·rw [if_pos (by rw [strB_size, strB_size]; simp; omega), strB_append]
    exact Ev.now _
   ·simp; omega
theorem text_ev (n : Nat) (hn : n < 18446744073709551616) : Ev (fun k => spec_Text.f k (n : Int)) (strB (digB 10 n)) :=
 Ev.bind (f := fun _ t => some t) (digits_ev 10 (by omega) (by omega) n hn).1 (Ev.now _)
end Go.Proofs.YtednjmngalmdkaaGreatDoor.GPC
end
section
/- The sizes that zzFits5 lets through, told. No condition. -/
namespace Go.Proofs.YtednjmngalmdkaaGreatDoor.GPC
open Go Go.RowKit Go.Proofs.YtednjmngalmdkaaGreatDoorW.PrintWords Go.Proofs.YtednjmngalmdkaaGreatDoorW.PrintLast Go.Proofs.YtednjmngalmdkaaGreatDoor.PF
set_option linter.unusedVariables false
structure FitR (r : S31) : Prop where
 s : r.f0.size ≤ 2147483647
 n : r.f1.length ≤ 2147483647
 l : r.f2.length ≤ 2147483647
 w : ∀ x ∈ r.f2, x.size ≤ 2147483647
theorem rdOf_el (l : List ByteArray) (i : Int) (h0 : 0 ≤ i) (h : i.toNat < l.length) : rdOf ByteArray.empty l i = l[i.toNat] := by
 simp [rdOf, List.getD_eq_getElem?_getD, List.getElem?_eq_getElem h]
theorem rd31i (l : List S31) (i : Int) (h0 : 0 ≤ i) (h : i.toNat < l.length) : rd_T31 l i = l[i.toNat] := by
 simp [rd_T31, List.getD_eq_getElem?_getD, List.getElem?_eq_getElem h]
theorem zz4F (l : List ByteArray) (hl : l.length ≤ 2147483647) : ∀ (d : Nat) (i : Int), 0 ≤ i → i + d = l.length → ∃ b, Ev (fun k => laws_zzFits4.l0 k l (l.length : Int) i) b ∧ (b = true → ∀ x ∈ l.drop i.toNat, x.size ≤ 2147483647)
 | 0, i, h0, h => ⟨true, Ev.step (f := fun _ => some true) (fun k => by simp only [laws_zzFits4.l0]; rw [if_neg (by omega)]) (Ev.now _), fun _ x hx => by rw [List.drop_eq_nil_of_le (by omega)] at hx; cases hx⟩
 | d + 1, i, h0, h => by
  have hw : wrap64 (i + 1) = i + 1 := by unfold wrap64; omega
  have hi : i.toNat < l.length := by omega
  by_cases hc : ((rdOf ByteArray.empty l i).size : Int) > 2147483647
  ·exact ⟨false, Ev.step (f := fun _ => some false) (fun k => by simp only [laws_zzFits4.l0]; rw [if_pos (by omega), if_pos h0, if_pos (by omega), if_pos hc]) (Ev.now _), fun h => by cases h⟩
  ·obtain ⟨b, hb, hx⟩ := zz4F l hl d (i + 1) (by omega) (by omega)
   refine ⟨b, Ev.step (fun k => by simp only [laws_zzFits4.l0]; rw [if_pos (by omega), if_pos h0, if_pos (by omega), if_neg hc, hw]) hb, fun e x hm => ?_⟩
   rw [List.drop_eq_getElem_cons hi] at hm
   rcases List.mem_cons.1 hm with rfl | hm
   ·rw [rdOf_el l i h0 hi] at hc; omega
   ·exact hx e x (by rw [show (i + 1).toNat = i.toNat + 1 by omega]; exact hm)
theorem zz4fF (l : List ByteArray) : ∃ b, Ev (fun k => laws_zzFits4.f k l) b ∧ (b = true → l.length ≤ 2147483647 ∧ ∀ x ∈ l, x.size ≤ 2147483647) := by
 by_cases hl : (l.length : Int) > 2147483647
 ·exact ⟨false, Ev.congr (fun k => by simp only [laws_zzFits4.f]; rw [if_pos hl]) (Ev.now _), fun h => by cases h⟩
 ·obtain ⟨b, hb, hx⟩ := zz4F l (by omega) l.length 0 (by omega) (by omega)
  exact ⟨b, Ev.congr (fun k => by simp only [laws_zzFits4.f]; rw [if_neg hl]) hb, fun e => ⟨by omega, by simpa using hx e⟩⟩
theorem zz6fF (a : ByteArray) (n : List Int) (s : List ByteArray) : ∃ b, Ev (fun k => laws_zzFits6.f k a n s) b ∧ (b = true → FitR ⟨a, n, s⟩) := by
 by_cases h1 : (a.size : Int) > 2147483647
 ·exact ⟨false, Ev.congr (fun k => by simp only [laws_zzFits6.f]; rw [if_pos h1]) (Ev.now _), fun h => by cases h⟩
 ·by_cases h2 : (n.length : Int) > 2147483647
  ·exact ⟨false, Ev.congr (fun k => by simp only [laws_zzFits6.f]; rw [if_neg h1, if_pos h2]) (Ev.now _), fun h => by cases h⟩
  ·obtain ⟨b, hb, hx⟩ := zz4fF s
   refine ⟨if b = true then true else false, Ev.congr (f := fun k => (laws_zzFits4.f k s).bind fun t => if t = true then some true else some false) (fun k => by simp only [laws_zzFits6.f]; rw [if_neg h1, if_neg h2]) (Ev.bind (f := fun _ t => if t = true then some true else some false) hb ?_), ?_⟩
   ·cases b
    ·exact Ev.now _
    ·exact Ev.now _
   ·cases b
    ·intro h; cases h
    ·exact fun _ => ⟨(by show a.size ≤ 2147483647; omega), (by show n.length ≤ 2147483647; omega), (hx rfl).1, (hx rfl).2⟩
theorem zz5F (l : List S31) (hl : l.length ≤ 2147483647) : ∀ (d : Nat) (i : Int), 0 ≤ i → i + d = l.length → ∃ b, Ev (fun k => laws_zzFits5.l0 k l (l.length : Int) i) b ∧ (b = true → ∀ x ∈ l.drop i.toNat, FitR x)
 | 0, i, h0, h => ⟨true, Ev.step (f := fun _ => some true) (fun k => by simp only [laws_zzFits5.l0]; rw [if_neg (by omega)]) (Ev.now _), fun _ x hx => by rw [List.drop_eq_nil_of_le (by omega)] at hx; cases hx⟩
 | d + 1, i, h0, h => by
  have hw : wrap64 (i + 1) = i + 1 := by unfold wrap64; omega
  have hi : i.toNat < l.length := by omega
  obtain ⟨b6, h6, hx6⟩ := zz6fF ((rd_T31 l i).f0) ((rd_T31 l i).f1) ((rd_T31 l i).f2)
  have hstep : ∀ k, laws_zzFits5.l0 (k + 1) l (l.length : Int) i = (laws_zzFits6.f k ((rd_T31 l i).f0) ((rd_T31 l i).f1) ((rd_T31 l i).f2)).bind fun t => if t = true then laws_zzFits5.l0 k l (l.length : Int) (i + 1) else some false := fun k => by
   simp only [laws_zzFits5.l0]; rw [if_pos (by omega), if_pos h0, if_pos (by omega), hw]
  obtain ⟨b, hb, hx⟩ := zz5F l hl d (i + 1) (by omega) (by omega)
  cases b6
  ·exact ⟨false, Ev.step hstep (Ev.bind (f := fun k t => if t = true then laws_zzFits5.l0 k l (l.length : Int) (i + 1) else some false) h6 (Ev.now _)), fun h => by cases h⟩
  ·refine ⟨b, Ev.step hstep (Ev.bind (f := fun k t => if t = true then laws_zzFits5.l0 k l (l.length : Int) (i + 1) else some false) h6 hb), fun e x hm => ?_⟩
   rw [List.drop_eq_getElem_cons hi] at hm
   rcases List.mem_cons.1 hm with rfl | hm
   ·have := hx6 rfl
    rw [rd31i l i h0 hi] at this
    exact this
   ·exact hx e x (by rw [show (i + 1).toNat = i.toNat + 1 by omega]; exact hm)
theorem zz5fF (l : List S31) : ∃ k b, laws_zzFits5.f k l = some b ∧ (b = true → l.length ≤ 2147483647 ∧ ∀ x ∈ l, FitR x) := by
 by_cases hl : (l.length : Int) > 2147483647
 ·exact ⟨0, false, by simp only [laws_zzFits5.f]; rw [if_pos hl], fun h => by cases h⟩
 ·obtain ⟨b, hb, hx⟩ := zz5F l (by omega) l.length 0 (by omega) (by omega)
  obtain ⟨k, hk⟩ := hb.rounds
  exact ⟨k, b, by simp only [laws_zzFits5.f]; rw [if_neg hl]; exact hk, fun e => ⟨by omega, by simpa using hx e⟩⟩
theorem strB_of (s : ByteArray) : strB s.data.toList = s := by
 apply ByteArray.ext
 simp [strB]
end Go.Proofs.YtednjmngalmdkaaGreatDoor.GPC
end
section
/- Plain facts: a number of hundredths, written, is read as the same float. Condition: below 2^40. -/
namespace Go.Proofs.YtednjmngalmdkaaGreatDoor.GPC
open Go Go.RowKit Go.Proofs.YtednjmngalmdkaaGreatDoorW.PrintWords Go.Proofs.YtednjmngalmdkaaGreatDoorW.PrintLast Go.Proofs.YtednjmngalmdkaaGreatDoor.PF
set_option linter.unusedVariables false
theorem dig_len (n : Nat) (hn : n < 18446744073709551616) : (digB 10 n).length ≤ 20 := digB_length 10 n 19 (by omega) (by omega)
theorem dch10 : ∀ d : Fin 10, 48 ≤ (dch d.val).toNat ∧ (dch d.val).toNat ≤ 57 ∧ (dch d.val).toNat - 48 = d.val := by decide
theorem dch10n (d : Nat) (h : d < 10) : 48 ≤ (dch d).toNat ∧ (dch d).toNat ≤ 57 ∧ (dch d).toNat - 48 = d := dch10 ⟨d, h⟩
theorem dig10 (n : Nat) : ∀ c ∈ digB 10 n, 48 ≤ c.toNat ∧ c.toNat ≤ 57 := by
 induction n using Nat.strongRecOn with
 | _ n ih =>
  intro c hc
  unfold digB at hc
  by_cases h : n < 10
  ·rw [dif_pos (.inl h)] at hc
   simp only [List.mem_singleton] at hc
   subst hc
   exact ⟨(dch10n n h).1, (dch10n n h).2.1⟩
  ·rw [dif_neg (by omega)] at hc
   rcases List.mem_append.1 hc with hc | hc
   ·exact ih (n / 10) (by omega) c hc
   ·simp only [List.mem_singleton] at hc
    subst hc
    have := dch10n (n % 10) (Nat.mod_lt _ (by omega))
    exact ⟨this.1, this.2.1⟩
end Go.Proofs.YtednjmngalmdkaaGreatDoor.GPC
end
section
/- Plain facts: numbers written with a sign between, and read again as words. Conditions: at most 100,000 numbers of 64 bits. -/
namespace Go.Proofs.YtednjmngalmdkaaGreatDoor.GPC
open Go Go.RowKit Go.Proofs.YtednjmngalmdkaaGreatDoorW.PrintWords Go.Proofs.YtednjmngalmdkaaGreatDoorW.PrintLast Go.Proofs.YtednjmngalmdkaaGreatDoor.PF
set_option linter.unusedVariables false
theorem evG {α : Type} {c : Prop} [Decidable c] {A : Nat → Option α} {r : α} (h : c) (hA : Ev A r) : Ev (fun k => if c then A k else none) r := Ev.congr (fun k => if_pos h) hA
theorem evN {α : Type} {c : Prop} [Decidable c] {A B : Nat → Option α} {r : α} (h : ¬ c) (hA : Ev B r) : Ev (fun k => if c then A k else B k) r := Ev.congr (fun k => if_neg h) hA
theorem evP {α : Type} {c : Prop} [Decidable c] {A B : Nat → Option α} {r : α} (h : c) (hA : Ev A r) : Ev (fun k => if c then A k else B k) r := Ev.congr (fun k => if_pos h) hA
theorem evB {α β : Type} {g : Nat → Option α} {a : α} {F : Nat → α → Option β} {r : β} (h : Ev g a) (hF : Ev (fun k => F k a) r) : Ev (fun k => (g k).bind (F k)) r := Ev.bind (f := F) h hF
def intsOf (ns : List Nat) : List Int := ns.map Int.ofNat
theorem intsOf_len (ns : List Nat) : (intsOf ns).length = ns.length := by simp [intsOf]
theorem rd_ints (ns : List Nat) (i : Nat) (h : i < ns.length) : rd (intsOf ns) (i : Int) = (ns[i] : Int) := by
 simp [rd, intsOf, List.getD_eq_getElem?_getD, List.getElem?_eq_getElem h]
def decs (ns : List Nat) : List (List UInt8) := ns.map (digB 10)
theorem dec_word (n : Nat) : digB 10 n ≠ [] ∧ (∀ c ∈ digB 10 n, Lib.isSp c = false) ∧ ∀ c ∈ digB 10 n, c.toNat < 128 :=
 ⟨digB_ne 10 n, fun c hc => isDig_sp (by have := dig10 n c hc; unfold isDig; simp [this.1, this.2]), fun c hc => by have := dig10 n c hc; omega⟩
theorem pu10 (n : Nat) (hn : n < 18446744073709551616) : strconv_ParseUint.f (strB (digB 10 n)) 10 64 = some ((n : Int), none) := by
 have hl := dig_len n hn
 have hne := digB_ne 10 n
 have hpos : 0 < (digB 10 n).length := List.length_pos_iff.2 hne
 unfold strconv_ParseUint.f istrconv_ParseUint.f
 rw [if_neg (by rw [strB_size]; omega), if_pos ⟨rfl, rfl⟩, if_neg (by rw [strB_size]; omega), show (strB (digB 10 n)).data.toList = digB 10 n by simp [strB], puN_dig 10 n 18446744073709551615 (by omega) (by omega) (by omega)]
 rfl
theorem strNums2 (s : ByteArray) : strOfNums (s.data.toList.map fun b => (b.toNat : Int)) = s := by
 apply ByteArray.ext
 apply Array.toList_inj.1
 simp only [strOfNums]
 simp only [List.map_map]
 have e : ((fun n => UInt8.ofNat n.toNat) ∘ fun b : UInt8 => (b.toNat : Int)) = id := funext fun b => by simp [Function.comp]
 rw [e, List.map_id]
end Go.Proofs.YtednjmngalmdkaaGreatDoor.GPC
end
section
/- The lines of a written text, one by one: on lists of bytes alone. Conditions: as they say. -/
namespace Go.Proofs.YtednjmngalmdkaaGreatDoor.GPC
open Go Go.RowKit Go.Proofs.YtednjmngalmdkaaGreatDoorW.PrintWords Go.Proofs.YtednjmngalmdkaaGreatDoorW.PrintLast
set_option linter.unusedVariables false
theorem strB_dl (l : List UInt8) : (strB l).data.toList = l := by simp [strB]
theorem ext_strB (l : List UInt8) (i j : Nat) : (strB l).extract i j = strB ((l.drop i).take (j - i)) := by
 apply ByteArray.ext
 rw [ByteArray.data_extract]
 apply Array.toList_inj.1
 simp [strB, List.extract]
theorem lineEnd_lf (a b : List UInt8) (ha : ∀ c ∈ a, c ≠ 10) : GL.lineEnd (strB (a ++ 10 :: b)) = a.length := by
 unfold GL.lineEnd
 rw [strB_dl, List.findIdx_append]
 have h0 : List.findIdx (· == (10 : UInt8)) a = a.length := List.findIdx_eq_length.2 (fun x hx => by
  simp only [beq_eq_false_iff_ne]
  exact ha x hx)
 have h1 : List.findIdx (fun x => x == (10 : UInt8)) (10 :: b) = 0 := by simp [List.findIdx_cons]
 rw [h0, h1]
 simp
theorem lineOf_lf (a b : List UInt8) (ha : ∀ c ∈ a, c ≠ 10) : GL.lineOf (strB (a ++ 10 :: b)) = strB a := by
 unfold GL.lineOf
 rw [lineEnd_lf a b ha, ext_strB]
 simp
theorem restOf_lf (a b : List UInt8) (ha : ∀ c ∈ a, c ≠ 10) : GL.restOf (strB (a ++ 10 :: b)) = strB b := by
 unfold GL.restOf
 rw [lineEnd_lf a b ha, if_pos (by rw [strB_size]; simp), ext_strB, strB_size]
 have e : a ++ 10 :: b = (a ++ [10]) ++ b := by simp
 rw [e, List.drop_left' (l₁ := a ++ [10]) (by simp), List.take_of_length_le (by simp; omega)]
end Go.Proofs.YtednjmngalmdkaaGreatDoor.GPC
end
section
/- Loops over rows, in general: printed text, tree, lines read; the end of a plain law. Conditions: as they say. -/
namespace Go.Proofs.YtednjmngalmdkaaGreatDoor.GPC
open Go Go.RowKit Go.Proofs.YtednjmngalmdkaaGreatDoorW.PrintWords Go.Proofs.YtednjmngalmdkaaGreatDoorW.PrintLast Go.Proofs.YtednjmngalmdkaaGreatDoor.PF
set_option linter.unusedVariables false
theorem gints_of (r : S31) (hr : OP.RowOk r) : r.f1 = intsOf (r.f1.map Int.toNat) := by
 unfold intsOf
 rw [List.map_map]
 refine (List.map_id r.f1).symm.trans (List.map_congr_left fun a ha => ?_)
 have := (hr.2.1.2 a ha).1
 simp only [Function.comp, id]
 show a = ((a.toNat : Nat) : Int)
 omega
theorem grd31 (l : List S31) (i : Nat) (h : i < l.length) : rd_T31 l (i : Int) = l[i] := by
 simp [rd_T31, List.getD_eq_getElem?_getD, List.getElem?_eq_getElem h]
theorem gen_print {T : Type} (L : List UInt8 → Nat → Nat → Option (ByteArray × Int)) (n A B : Nat) (hM : A + B * n ≤ 100000000000000000) (line : T → List UInt8) (Good : Nat → T → Prop)
  (hend : ∀ acc, Ev (L acc n) (strB acc, 1))
  (hone : ∀ i, i < n → ∀ acc : List UInt8, acc.length ≤ 100000000000000000 → Ev (L acc i) (⟨#[]⟩, 2) ∨ ∃ t, Good i t ∧ (line t).length ≤ B ∧ ∀ r, Ev (L (acc ++ line t) (i + 1)) r → Ev (L acc i) r) :
  ∀ (d i : Nat) (acc : List UInt8), i + d = n → acc.length ≤ A + B * i →
   Ev (L acc i) (⟨#[]⟩, 2) ∨ ∃ ts : List T, ts.length = d ∧ (∀ (j : Nat) (h : j < ts.length), Good (i + j) ts[j]) ∧ Ev (L acc i) (strB (acc ++ ts.flatMap line), 1)
 | 0, i, acc, h, ha => by
  obtain rfl : i = n := by omega
  refine .inr ⟨[], rfl, fun j h => by simp at h, ?_⟩
  simpa using hend acc
 | d + 1, i, acc, h, ha => by
  have hB : B * i ≤ B * n := Nat.mul_le_mul_left B (by omega)
  rcases hone i (by omega) acc (by omega) with hb | ⟨t, hg, hl, ht⟩
  ·exact .inl hb
  ·have hB2 : B * (i + 1) = B * i + B := by rw [Nat.mul_add, Nat.mul_one]
   rcases gen_print L n A B hM line Good hend hone d (i + 1) (acc ++ line t) (by omega) (by simp only [List.length_append]; omega) with hb | ⟨ts, hts, hgs, he⟩
   ·exact .inl (ht _ hb)
   ·refine .inr ⟨t :: ts, by simp [hts], fun j h2 => ?_, ?_⟩
    ·match j with
     | 0 => exact hg
     | j + 1 =>
      have := hgs j (by simpa using h2)
      simp only [List.getElem_cons_succ]
      rw [show i + (j + 1) = i + 1 + j by omega]
      exact this
    ·have e : acc ++ line t ++ ts.flatMap line = acc ++ (t :: ts).flatMap line := by simp
     rw [e] at he
     exact ht _ he
theorem gen_list {S R : Type} (L : List S → Nat → Nat → Option R) (n : Nat) (node : Nat → S) (fin : List S → R)
  (hend : ∀ acc, acc.length ≤ n → Ev (L acc n) (fin acc)) (hone : ∀ i, i < n → ∀ acc : List S, acc.length ≤ i → ∀ r, Ev (L (acc ++ [node i]) (i + 1)) r → Ev (L acc i) r) :
  ∀ (d i : Nat) (acc : List S), i + d = n → acc.length ≤ i → Ev (L acc i) (fin (acc ++ (List.range' i d).map node))
 | 0, i, acc, h, ha => by
  obtain rfl : i = n := by omega
  simpa using hend acc ha
 | d + 1, i, acc, h, ha => by
  have ih := gen_list L n node fin hend hone d (i + 1) (acc ++ [node i]) (by omega) (by simp; omega)
  rw [List.append_assoc, List.singleton_append, ← List.map_cons] at ih
  have e : i :: List.range' (i + 1) d = List.range' i (d + 1) := by simp [List.range'_succ]
  rw [e] at ih
  exact hone i (by omega) acc ha _ ih
theorem range_map {T S : Type} (ts : List T) (f : T → S) (node : Nat → S) (h : ∀ (i : Nat) (hi : i < ts.length), node i = f ts[i]) : (List.range' 0 ts.length).map node = ts.map f := by
 apply List.ext_getElem
 ·simp
 ·intro i h1 h2
  simp only [List.length_map, List.length_range'] at h1
  simp [h i h1]
structure LnOk (l : List UInt8) : Prop where
 ne : l ≠ []
 ch : ∀ c ∈ l, c ≠ 10 ∧ c ≠ 13
 len : l.length < 65536
theorem line_ok (a b : List UInt8) (h : LnOk a) (hs : (a ++ 10 :: b).length ≤ 1000000) : ¬ (strB (a ++ 10 :: b)).size = 0 ∧ LineOk (strB (a ++ 10 :: b)) ∧ GL.lineOf (strB (a ++ 10 :: b)) = strB a ∧ GL.restOf (strB (a ++ 10 :: b)) = strB b := by
 have h10 : ∀ c ∈ a, c ≠ 10 := fun c hc => (h.ch c hc).1
 have hp : 0 < a.length := List.length_pos_iff.2 h.ne
 refine ⟨by rw [strB_size]; simp, ⟨by rw [strB_size]; omega, by rw [lineEnd_lf a b h10]; exact h.len, ?_⟩, lineOf_lf a b h10, restOf_lf a b h10⟩
 rw [lineOf_lf a b h10, strB_size, show ((a.length : Nat) : Int) - 1 = ((a.length - 1 : Nat) : Int) by omega, GL.bt_list _ _ (by rw [strB_size]; omega)]
 intro e
 have hm : a[a.length - 1]'(by omega) ∈ a := List.getElem_mem _
 apply (h.ch _ hm).2
 apply UInt8.toNat_inj.1
 have : ((strB a).data.toList[a.length - 1]'(by rw [strB_dl]; omega)) = a[a.length - 1]'(by omega) := by simp only [strB_dl]
 rw [← this]
 show _ = 13
 omega
theorem rows_end {α : Type} (L : ByteArray → Option (Option α)) (q : Nat) : rowsF L (q + 1) (strB []) = some [] := by
 unfold rowsF
 rw [if_pos (by rw [strB_size]; rfl)]
theorem rows_cons {α : Type} (L : ByteArray → Option (Option α)) (q : Nat) (a b : List UInt8) (h : LnOk a) (hs : (a ++ 10 :: b).length ≤ 1000000) (m : Option α) (ms : List α) (hm : L (strB a) = some m) (hr : rowsF L q (strB b) = some ms) :
  rowsF L (q + 1) (strB (a ++ 10 :: b)) = some (m.toList ++ ms) := by
 obtain ⟨h1, h2, h3, h4⟩ := line_ok a b h hs
 unfold rowsF
 rw [if_neg h1, if_pos h2, h3, h4, hm, hr]
 rfl
theorem rows_text {T α : Type} (L : ByteArray → Option (Option α)) (line : T → List UInt8) (val : T → α) : ∀ (ts : List T) (q : Nat), ts.length < q → (∀ t ∈ ts, LnOk (line t) ∧ L (strB (line t)) = some (some (val t))) → (ts.flatMap fun t => line t ++ [10]).length ≤ 1000000 →
  rowsF L q (strB (ts.flatMap fun t => line t ++ [10])) = some (ts.map val)
 | [], q + 1, _, _, _ => rows_end L q
 | t :: ts, q + 1, hq, h, hl => by
  have e : (t :: ts).flatMap (fun t => line t ++ [10]) = line t ++ 10 :: ts.flatMap (fun t => line t ++ [10]) := by simp
  rw [e] at hl ⊢
  have ih := rows_text L line val ts q (by simpa using hq) (fun u hu => h u (by simp [hu])) (by simp only [List.length_append, List.length_cons] at hl; omega)
  exact rows_cons L q (line t) _ (h t (by simp)).1 hl (some (val t)) _ (h t (by simp)).2 ih
theorem head_line (a b : List UInt8) (h : LnOk a) (hs : (a ++ 10 :: b).length ≤ 1000000) : headF (strB (a ++ 10 :: b)) = some (strB b) := by
 obtain ⟨h1, h2, h3, h4⟩ := line_ok a b h hs
 unfold headF
 rw [if_neg h1, if_pos h2, h4]
theorem rowsF_more {α : Type} {L : ByteArray → Option (Option α)} : ∀ {q k : Nat} {t : ByteArray} {r : List α}, q ≤ k → rowsF L q t = some r → rowsF L k t = some r
 | 0, _, _, _, _, h => by cases h
 | q + 1, 0, _, _, hk, _ => by omega
 | q + 1, k + 1, t, r, hk, h => by
  unfold rowsF at h ⊢
  split at h
  ·rename_i h0; rw [if_pos h0]; exact h
  ·rename_i h0
   rw [if_neg h0]
   split at h
   ·rename_i h1
    rw [if_pos h1]
    obtain ⟨m, hm, h⟩ := Option.bind_eq_some_iff.1 h
    obtain ⟨ms, hms, h⟩ := Option.bind_eq_some_iff.1 h
    rw [hm, Option.bind_some, rowsF_more (by omega) hms, Option.bind_some]
    exact h
   ·cases h
theorem flat_len {T : Type} (line : T → List UInt8) : ∀ (ts : List T) (t : T), t ∈ ts → (line t).length ≤ (ts.flatMap line).length
 | [], t, h => by cases h
 | u :: ts, t, h => by
  rw [List.flatMap_cons, List.length_append]
  rcases List.mem_cons.1 h with rfl | h
  ·omega
  ·have := flat_len line ts t h; omega
theorem read_text (l : List UInt8) (h : l.length ≤ 1048576) : texts_Read.f (strB l) = some (l.map (fun b => (b.toNat : Int)), none) := by
 unfold texts_Read.f
 rw [if_pos (by rw [strB_size]; omega), strB_dl]
theorem nums_text (l : List UInt8) : strOfNums (l.map (fun b => (b.toNat : Int))) = strB l := by
 have := strNums2 (strB l)
 rw [strB_dl] at this
 exact this
theorem gen_end {print : Nat → Option (ByteArray × Int)} {tree : Nat → Option (ByteArray × Int × Bool × Int × Int × Nat × ByteArray × List S39 × Int)} {door : ByteArray → S43 → Prop} {l : List S31} (h : l.length ≤ 1000) (text : List UInt8)
  (hp : Ev print (strB text, 1)) (d : Nat) (n : S43) (hf : text.length ≤ 40000 → FitN d n)
  (ht : text.length ≤ 40000 → Ev tree ((convN d n).f0, (convN d n).f1, (convN d n).f2, (convN d n).f3, (convN d n).f4, (convN d n).f5, (convN d n).f6, (convN d n).f7, 1)) (hd : text.length ≤ 40000 → door (strB text) n) : BackOk print tree door l := by
 by_cases hsz : 40000 < text.length
 ·obtain ⟨K, hk⟩ := hp
  exact .noPrint h K _ _ (hk K (Nat.le_refl _)) (.inr (by rw [strB_size]; exact hsz))
 ·exact back_same h _ hp (by rw [strB_size]; omega) d n (hf (by omega)) (ht (by omega)) (hd (by omega))
theorem gen_no {print : Nat → Option (ByteArray × Int)} {tree : Nat → Option (ByteArray × Int × Bool × Int × Int × Nat × ByteArray × List S39 × Int)} {door : ByteArray → S43 → Prop} {l : List S31} (h : l.length ≤ 1000) (hp : Ev print (⟨#[]⟩, 2)) : BackOk print tree door l := by
 obtain ⟨K, hk⟩ := hp
 exact .noPrint h K _ _ (hk K (Nat.le_refl _)) (.inl (by decide))
end Go.Proofs.YtednjmngalmdkaaGreatDoor.GPC
end
section
/- spec.Right, spec.Where, spec.Word, spec.words on lists of bytes. Conditions: lengths. -/
namespace Go.Proofs.YtednjmngalmdkaaGreatDoor.GPC
open Go Go.RowKit Go.Proofs.YtednjmngalmdkaaGreatDoorW.PrintWords Go.Proofs.YtednjmngalmdkaaGreatDoorW.PrintLast
set_option linter.unusedVariables false
def padS (least : Nat) (l : List UInt8) : List UInt8 := List.replicate (least - l.length) 32 ++ l
theorem padS_cons (least : Nat) (l : List UInt8) (h : l.length < least) : padS least (32 :: l) = padS least l := by
 unfold padS
 obtain ⟨d, hd⟩ : ∃ d, least - l.length = d + 1 := ⟨least - l.length - 1, by omega⟩
 rw [List.length_cons, hd, show least - (l.length + 1) = d by omega, List.replicate_succ', List.append_assoc, List.singleton_append]
theorem right_l (least : Nat) (hl : least ≤ 1000) : ∀ (d : Nat) (l : List UInt8), least - l.length = d → Ev (fun k => spec_Right.l0 k (strB l) (least : Int)) (strB (padS least l))
 | 0, l, h => by
  have e : padS least l = l := by simp [padS, h]
  rw [e]
  exact Ev.step (f := fun _ => some (strB l)) (fun k => by simp only [spec_Right.l0]; rw [if_neg (by rw [strB_size]; omega)]) (Ev.now _)
 | d + 1, l, h => by
  have ih := right_l least hl d (32 :: l) (by simp; omega)
  rw [padS_cons least l (by omega)] at ih
  refine Ev.step (fun k => ?_) ih
  simp only [spec_Right.l0]
  rw [if_pos (by rw [strB_size]; omega), if_pos (by rw [strB_size]; omega)]
  rw [show ((⟨#[32]⟩ : ByteArray) ++ strB l) = strB (32 :: l) from strB_append [32] l]
theorem right_ev (least : Nat) (hl : least ≤ 1000) (l : List UInt8) : Ev (fun k => spec_Right.f k (strB l) (least : Int)) (strB (padS least l)) := right_l least hl _ l rfl
end Go.Proofs.YtednjmngalmdkaaGreatDoor.GPC
end
section
/- The printing of /proc/softirqs: its head line, a row's numbers. On numbers and lists alone. -/
namespace Go.Proofs.YtednjmngalmdkaaGreatDoor.GPC
open Go Go.RowKit Go.Proofs.YtednjmngalmdkaaGreatDoorW.PrintWords Go.Proofs.YtednjmngalmdkaaGreatDoorW.PrintLast Go.Proofs.YtednjmngalmdkaaGreatDoor.PF
set_option linter.unusedVariables false
def leftS (m : Nat) (l : List UInt8) : List UInt8 := l ++ List.replicate (m - l.length) 32
theorem leftS_len (m : Nat) (l : List UInt8) : (leftS m l).length ≤ m + l.length := by unfold leftS; simp; omega
theorem sq_left_l (least : Nat) (hl : least ≤ 1000) : ∀ (d : Nat) (l : List UInt8), least - l.length = d → Ev (fun k => spec_Left.l0 k (strB l) (least : Int)) (strB (leftS least l))
 | 0, l, h => by
  have e : leftS least l = l := by simp [leftS, h]
  rw [e]
  by_cases hc : (l.length : Int) < (least : Int)
  ·omega
  ·exact Ev.step (f := fun _ => some (strB l)) (fun k => by simp only [spec_Left.l0]; rw [if_neg (by rw [strB_size]; exact hc)]) (Ev.now _)
 | d + 1, l, h => by
  have ih := sq_left_l least hl d (l ++ [32]) (by simp; omega)
  have e : leftS least (l ++ [32]) = leftS least l := by
   unfold leftS
   rw [List.length_append, List.length_singleton, List.append_assoc, List.singleton_append, ← List.replicate_succ]
   congr 2
   omega
  rw [e] at ih
  refine Ev.step (fun k => ?_) ih
  simp only [spec_Left.l0]
  rw [if_pos (by rw [strB_size]; omega), if_pos (by rw [strB_size]; omega)]
  rw [show (strB l ++ (⟨#[32]⟩ : ByteArray)) = strB (l ++ [32]) from strB_append l [32]]
theorem sq_left (least : Nat) (hl : least ≤ 1000) (l : List UInt8) : Ev (fun k => spec_Left.f k (strB l) (least : Int)) (strB (leftS least l)) := sq_left_l least hl _ l rfl
def sqHd (n : Nat) : Nat → List UInt8
 | 0 => []
 | d + 1 => leftS 11 ([67, 80, 85] ++ digB 10 (n - (d + 1))) ++ sqHd n d
theorem sqHd_len (n : Nat) (hn : n ≤ 2147483647) : ∀ d, d ≤ n → (sqHd n d).length ≤ 34 * d
 | 0, _ => by simp [sqHd]
 | d + 1, h => by
  have h1 := sqHd_len n hn d (by omega)
  have h2 := leftS_len 11 ([67, 80, 85] ++ digB 10 (n - (d + 1)))
  have h3 := dig_len (n - (d + 1)) (by omega)
  simp only [sqHd, List.length_append, List.length_cons, List.length_nil] at h1 h2 ⊢
  omega
theorem sq_head (x0 : List S31) (x4 : List S136) (n : Nat) (hn : n ≤ 2147483647) (r : ByteArray × Int) : ∀ (d i : Nat) (acc : List UInt8), i + d = n → acc.length + 34 * d ≤ 1000000000000000000 →
  Ev (fun k => spec_SoftirqsPrint.l1 k x0 x4 (strB (acc ++ sqHd n d ++ [10])) x0 (x0.length : Int) 0) r → Ev (fun k => spec_SoftirqsPrint.l0 k x0 x4 (strB acc) (n : Int) (i : Int)) r
 | 0, i, acc, h, ha, hr => by
  refine Ev.step (fun k => ?_) hr
  simp only [spec_SoftirqsPrint.l0]
  rw [if_neg (by omega), if_pos (by rw [strB_size]; omega), show strB acc ++ (⟨#[10]⟩ : ByteArray) = strB (acc ++ [10]) from strB_append acc [10]]
  simp [sqHd]
 | d + 1, i, acc, h, ha, hr => by
  have hw : wrap64 ((i : Int) + 1) = ((i + 1 : Nat) : Int) := by unfold wrap64; omega
  have hu : IntKind.u64.wrap (i : Int) = (i : Int) := u64_w (by omega) (by omega)
  have hd := dig_len i (by omega)
  have hni : n - (d + 1) = i := by omega
  have hl2 := leftS_len 11 ([67, 80, 85] ++ digB 10 i)
  simp only [List.length_append, List.length_cons, List.length_nil] at hl2
  have e : acc ++ sqHd n (d + 1) ++ [10] = (acc ++ leftS 11 ([67, 80, 85] ++ digB 10 i)) ++ sqHd n d ++ [10] := by simp only [sqHd, hni, List.append_assoc]
  rw [e] at hr
  have ih := sq_head x0 x4 n hn r d (i + 1) (acc ++ leftS 11 ([67, 80, 85] ++ digB 10 i)) (by omega) (by simp only [List.length_append]; omega) hr
  have e2 : (⟨#[67, 80, 85]⟩ : ByteArray) ++ strB (digB 10 i) = strB ([67, 80, 85] ++ digB 10 i) := strB_append [67, 80, 85] _
  refine Ev.step (f := fun k => (spec_Text.f k (i : Int)).bind fun t116 => (if 3 + t116.size ≤ 9223372036854775807 then ((spec_Left.f k ((⟨#[67, 80, 85]⟩ : ByteArray) ++ t116) 11).bind fun t117 => (if (strB acc).size + t117.size ≤ 9223372036854775807 then (spec_SoftirqsPrint.l0 k x0 x4 (strB acc ++ t117) (n : Int) ((i + 1 : Nat) : Int)) else (none))) else (none))) (fun k => ?_) ?_
  ·simp only [spec_SoftirqsPrint.l0]
   rw [if_pos (by omega), hu, hw]
  ·refine evB (text_ev i (by omega)) (evG (by rw [strB_size]; omega) ?_)
   rw [e2]
   refine evB (sq_left 11 (by omega) _) (evG (by rw [strB_size, strB_size]; omega) ?_)
   rw [strB_append]
   exact ih
def sqNs (ns : List Nat) : List UInt8 := ns.flatMap fun n => 32 :: padS 10 (digB 10 n)
theorem padS_len (m : Nat) (l : List UInt8) : (padS m l).length ≤ m + l.length := by unfold padS; simp only [List.length_append, List.length_replicate]; omega
theorem sq_nums (x0 : List S31) (x4 : List S136) (x35 : List S31) (x36 x37 : Int) (ns : List Nat) (hl : ns.length ≤ 2147483647) (hn : ∀ m ∈ ns, m < 18446744073709551616) (r : ByteArray × Int) : ∀ (d i : Nat) (acc : List UInt8), i + d = ns.length → acc.length + 40 * d ≤ 1000000000000000000 →
  Ev (fun k => spec_SoftirqsPrint.l1 k x0 x4 (strB (acc ++ sqNs (ns.drop i) ++ [10])) x35 x36 (wrap64 (x37 + 1))) r → Ev (fun k => spec_SoftirqsPrint.l2 k x0 x4 (strB acc) x35 x36 x37 (intsOf ns) (ns.length : Int) (i : Int)) r
 | 0, i, acc, h, ha, hr => by
  rw [List.drop_eq_nil_of_le (by omega)] at hr
  refine Ev.step (fun k => ?_) hr
  simp only [spec_SoftirqsPrint.l2]
  rw [if_neg (by omega), if_pos (by rw [strB_size]; omega), show strB acc ++ (⟨#[10]⟩ : ByteArray) = strB (acc ++ [10]) from strB_append acc [10]]
  simp [sqNs]
 | d + 1, i, acc, h, ha, hr => by
  have hi : i < ns.length := by omega
  have hw : wrap64 ((i : Int) + 1) = ((i + 1 : Nat) : Int) := by unfold wrap64; omega
  have hm := hn ns[i] (List.getElem_mem _)
  have hd := dig_len ns[i] hm
  have hpl := padS_len 10 (digB 10 ns[i])
  have e : acc ++ sqNs (ns.drop i) ++ [10] = (acc ++ (32 :: padS 10 (digB 10 ns[i]))) ++ sqNs (ns.drop (i + 1)) ++ [10] := by
   unfold sqNs
   rw [List.drop_eq_getElem_cons hi, List.flatMap_cons]
   simp only [List.append_assoc, List.cons_append]
  rw [e] at hr
  have ih := sq_nums x0 x4 x35 x36 x37 ns hl hn r d (i + 1) (acc ++ (32 :: padS 10 (digB 10 ns[i]))) (by omega) (by simp only [List.length_append, List.length_cons]; omega) hr
  have e2 : (⟨#[32]⟩ : ByteArray) ++ strB (padS 10 (digB 10 ns[i])) = strB (32 :: padS 10 (digB 10 ns[i])) := strB_append [32] _
  refine Ev.step (f := fun k => (spec_Text.f k (ns[i] : Int)).bind fun t124 => ((spec_Right.f k t124 10).bind fun t125 => (if 1 + t125.size ≤ 9223372036854775807 then (if (strB acc).size + ((⟨#[32]⟩ : ByteArray) ++ t125).size ≤ 9223372036854775807 then (spec_SoftirqsPrint.l2 k x0 x4 (strB acc ++ ((⟨#[32]⟩ : ByteArray) ++ t125)) x35 x36 x37 (intsOf ns) (ns.length : Int) ((i + 1 : Nat) : Int)) else (none)) else (none)))) (fun k => ?_) ?_
  ·simp only [spec_SoftirqsPrint.l2]
   rw [if_pos (by omega), if_pos (by omega), if_pos (by rw [intsOf_len]; omega), rd_ints ns i hi, hw]
  ·refine evB (text_ev ns[i] hm) (evB (right_ev 10 (by omega) _) (evG (by rw [strB_size]; omega) (evG (by rw [e2, strB_size, strB_size]; simp only [List.length_cons]; omega) ?_)))
   rw [e2, strB_append]
   exact ih
end Go.Proofs.YtednjmngalmdkaaGreatDoor.GPC
end
section
/- The printing of /proc/softirqs: its rows. On numbers and lists alone. -/
namespace Go.Proofs.YtednjmngalmdkaaGreatDoor.GPC
open Go Go.RowKit Go.Proofs.YtednjmngalmdkaaGreatDoorW.PrintWords Go.Proofs.YtednjmngalmdkaaGreatDoorW.PrintLast Go.Proofs.YtednjmngalmdkaaGreatDoor.PF
set_option linter.unusedVariables false
def sqNM : List S136 := (spec_softNames.f).getD []
theorem sqNM_is : spec_softNames.f = some sqNM := rfl
theorem sqNM_len : sqNM.length = 10 := rfl
def sqNm : List (List UInt8) := sqNM.map fun x => x.f1.data.toList
theorem sqNm_at (i : Nat) (h : i < 10) : (rd_T136 sqNM (i : Int)).f1 = strB (sqNm.getD i []) := by
 have hi : i < sqNM.length := by rw [sqNM_len]; exact h
 unfold sqNm rd_T136
 rw [List.getD_eq_getElem?_getD, List.getD_eq_getElem?_getD, List.getElem?_map, Int.toNat_natCast, List.getElem?_eq_getElem hi]
 exact (strB_of _).symm
theorem sqNm_len : ∀ i : Fin 10, (sqNm.getD i.val []).length ≤ 8 := by decide +kernel
abbrev SqT := Nat × List Nat
def sqLine (t : SqT) : List UInt8 := padS 12 (sqNm.getD t.1 []) ++ [58] ++ sqNs t.2
structure SqGood (l : List S31) (i : Nat) (t : SqT) : Prop where
 h : i < l.length
 at_ : t.1 = i
 n : l[i].f1 = intsOf t.2
 p : 1 ≤ t.2.length
 e : (t.2.length : Int) = ((rd_T31 l 0).f1.length : Int)
 s : ∀ m ∈ t.2, m < 18446744073709551616
theorem sqNs_len : ∀ (ns : List Nat), (∀ m ∈ ns, m < 18446744073709551616) → (sqNs ns).length ≤ 31 * ns.length
 | [], _ => by simp [sqNs]
 | n :: r, h => by
  have h1 := sqNs_len r (fun m hm => h m (by simp [hm]))
  have h2 := dig_len n (h n (by simp))
  have h3 := padS_len 10 (digB 10 n)
  unfold sqNs at h1 ⊢
  rw [List.flatMap_cons]
  simp only [List.length_append, List.length_cons] at h1 ⊢
  omega
theorem sq_rowone (l : List S31) (hl : l.length = 10) (hf : ∀ r ∈ l, FitR r ∧ OP.RowOk r) (i : Nat) (hi : i < l.length) (acc : List UInt8) (hacc : acc.length ≤ 100000000000000000) :
  Ev (fun k => spec_SoftirqsPrint.l1 k l sqNM (strB acc) l (l.length : Int) (i : Int)) (⟨#[]⟩, 2) ∨
  ∃ t : SqT, SqGood l i t ∧ (sqLine t ++ [10]).length ≤ 100000000000 ∧ ∀ r, Ev (fun k => spec_SoftirqsPrint.l1 k l sqNM (strB (acc ++ (sqLine t ++ [10]))) l (l.length : Int) ((i + 1 : Nat) : Int)) r →
   Ev (fun k => spec_SoftirqsPrint.l1 k l sqNM (strB acc) l (l.length : Int) (i : Int)) r := by
 obtain ⟨hfr, hro⟩ := hf l[i] (List.getElem_mem _)
 have hrd := grd31 l i hi
 obtain ⟨ns, hns⟩ : ∃ ns, l[i].f1 = intsOf ns := ⟨_, gints_of _ hro⟩
 have hnl : ns.length ≤ 2147483647 := by have := hfr.n; rwa [hns, intsOf_len] at this
 have hnb : ∀ m ∈ ns, m < 18446744073709551616 := fun m hm => by
  have := hro.2.1.2 (m : Int) (by rw [hns]; unfold intsOf; exact List.mem_map.2 ⟨m, hm, rfl⟩)
  omega
 have hw : wrap64 ((i : Int) + 1) = ((i + 1 : Nat) : Int) := by unfold wrap64; omega
 have bad : ∀ f0 f1 f2, Ev (fun k => spec_SoftirqsPrint.j2 k l sqNM (strB acc) l (l.length : Int) (i : Int) true f0 f1 f2) ((⟨#[]⟩ : ByteArray), 2) := fun f0 f1 f2 => Ev.step (f := fun _ => some ((⟨#[]⟩ : ByteArray), (2 : Int))) (fun k => by simp only [spec_SoftirqsPrint.j2]; rw [if_pos trivial]) (Ev.now _)
 have hst : ∀ k, spec_SoftirqsPrint.l1 (k + 1) l sqNM (strB acc) l (l.length : Int) (i : Int) = (if (l[i].f0).toList = (strB (sqNm.getD i [])).toList then (if (l[i].f2.length : Int) > 0 then (spec_SoftirqsPrint.j2 k l sqNM (strB acc) l (l.length : Int) (i : Int) true l[i].f0 l[i].f1 l[i].f2) else (if ((intsOf ns).length : Int) < 1 then (spec_SoftirqsPrint.j2 k l sqNM (strB acc) l (l.length : Int) (i : Int) true l[i].f0 l[i].f1 l[i].f2) else (spec_SoftirqsPrint.j2 k l sqNM (strB acc) l (l.length : Int) (i : Int) (((intsOf ns).length : Int) != (((rd_T31 l 0).f1).length : Int)) l[i].f0 (intsOf ns) l[i].f2))) else (spec_SoftirqsPrint.j2 k l sqNM (strB acc) l (l.length : Int) (i : Int) true l[i].f0 l[i].f1 l[i].f2)) := fun k => by
  simp only [spec_SoftirqsPrint.l1]
  rw [if_pos (by omega), if_pos (by omega), if_pos (by omega), if_pos (by rw [sqNM_len]; omega), hrd, sqNm_at i (by omega), if_pos (show (0 : Int) < (l.length : Int) by omega), hns]
 by_cases c1 : (l[i].f0).toList = (strB (sqNm.getD i [])).toList
 ·by_cases c2 : (l[i].f2.length : Int) > 0
  ·exact .inl (Ev.step hst (evP c1 (evP c2 (bad _ _ _))))
  ·by_cases c3 : ((intsOf ns).length : Int) < 1
   ·exact .inl (Ev.step hst (evP c1 (evN c2 (evP c3 (bad _ _ _)))))
   ·by_cases c4 : ((intsOf ns).length : Int) = (((rd_T31 l 0).f1).length : Int)
    ·have hf0 : l[i].f0 = strB (sqNm.getD i []) := by
      rw [ByteArray.toList_eq, ByteArray.toList_eq] at c1
      rw [← strB_of l[i].f0, c1, strB_of]
     rw [intsOf_len] at c3 c4
     have hln := sqNs_len ns hnb
     have hnm := sqNm_len ⟨i, by omega⟩
     simp only at hnm
     have hpl := padS_len 12 (sqNm.getD i [])
     refine .inr ⟨(i, ns), ⟨hi, rfl, hns, (by show 1 ≤ ns.length; omega), c4, hnb⟩, by simp only [sqLine, List.length_append, List.length_cons, List.length_nil]; omega, fun r hr => ?_⟩
     have e : acc ++ (sqLine (i, ns) ++ [10]) = (acc ++ (padS 12 (sqNm.getD i []) ++ [58])) ++ sqNs (ns.drop 0) ++ [10] := by simp [sqLine]
     rw [e, ← hw] at hr
     have h2 := sq_nums l sqNM l (l.length : Int) (i : Int) ns hnl hnb r ns.length 0 (acc ++ (padS 12 (sqNm.getD i []) ++ [58])) (by omega) (by simp only [List.length_append, List.length_cons, List.length_nil]; omega) hr
     have e2 : strB (padS 12 (sqNm.getD i [])) ++ (⟨#[58]⟩ : ByteArray) = strB (padS 12 (sqNm.getD i []) ++ [58]) := strB_append _ [58]
     have hj : Ev (fun k => spec_SoftirqsPrint.j2 k l sqNM (strB acc) l (l.length : Int) (i : Int) (((intsOf ns).length : Int) != (((rd_T31 l 0).f1).length : Int)) l[i].f0 (intsOf ns) l[i].f2) r := by
      refine Ev.step (f := fun k => (spec_Right.f k (strB (sqNm.getD i [])) 12).bind fun t122 => (if t122.size + 1 ≤ 9223372036854775807 then (if (strB acc).size + (t122 ++ (⟨#[58]⟩ : ByteArray)).size ≤ 9223372036854775807 then (spec_SoftirqsPrint.l2 k l sqNM (strB acc ++ (t122 ++ (⟨#[58]⟩ : ByteArray))) l (l.length : Int) (i : Int) (intsOf ns) (ns.length : Int) 0) else (none)) else (none))) (fun k => ?_) ?_
      ·simp only [spec_SoftirqsPrint.j2]
       rw [if_neg (by rw [intsOf_len]; simp [c4]), hf0, intsOf_len]
      ·refine evB (right_ev 12 (by omega) _) (evG (by rw [strB_size]; omega) (evG (by rw [e2, strB_size, strB_size]; simp only [List.length_append, List.length_cons, List.length_nil]; omega) ?_))
       rw [e2, strB_append]
       exact h2
     exact Ev.step hst (evP c1 (evN c2 (evN (by rw [intsOf_len]; omega) hj)))
    ·refine .inl (Ev.step hst (evP c1 (evN c2 (evN c3 ?_))))
     have hb : (((intsOf ns).length : Int) != (((rd_T31 l 0).f1).length : Int)) = true := by simpa using c4
     rw [hb]
     exact bad _ _ _
 ·exact .inl (Ev.step hst (evN c1 (bad _ _ _)))
end Go.Proofs.YtednjmngalmdkaaGreatDoor.GPC
end
