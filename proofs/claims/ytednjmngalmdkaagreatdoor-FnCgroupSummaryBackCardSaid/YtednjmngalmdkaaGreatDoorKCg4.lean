/- Texts of this claim, put together: GPEx3, GPHx1, GivenCg, GivenCgP, GivenFnV. Conditions: as each one says. -/
import Derived.Test.YtednjmngalmdkaaGreatDoorKCg0
import Derived.Test.YtednjmngalmdkaaGreatDoorKCg1
import Derived.Test.YtednjmngalmdkaaGreatDoorKCg2
import Derived.Test.YtednjmngalmdkaaGreatDoorKCg3
import Derived.Test.YtednjmngalmdkaaGreatDoorProg
import Derived.Below
import Derived.Deep.Draws
import Derived.Deep.AppendLies
import Derived.Maps.AppendAt
import Derived.OwnWalk
import Derived.Laws.BytesArg
import Derived.Laws.MakeOwn
import Derived.Laws.OwnMore
import Derived.Deep.OwnRows
import Derived.Tactics
import Derived.Lib.ConvBytes
import Derived.Laws.Slices
import Derived.WalkKit
import Derived.KernelRfl
import Derived.RowKit3
import Derived.Deep.LoopGhost
import Derived.Deep.QuietTactic
import Derived.BigQuiet
import Derived.WideLaws
import Derived.Deep.DeepCutAuto
import Derived.Deep.CutBlock
import Derived.Deep.RegionHeld3
import Derived.Laws.Rows
import Derived.Lib.AppendStr
import Derived.ArgAppend
import Derived.Laws.IdiomCopy
import Derived.OrdersHeld
import Derived.Laws.BitsLemmas
import Derived.RowKit
import Derived.StillTailTactics
section
namespace Go.Proofs.YtednjmngalmdkaaGreatDoor.GPC
open Go.RowKit Go.Proofs.YtednjmngalmdkaaGreatDoorW.PrintWords Go.Proofs.YtednjmngalmdkaaGreatDoorW.PrintLast Go.Proofs.YtednjmngalmdkaaGreatDoorW.PrintMore
attribute [local go_sem] max2_int min2_int max_two min_two max_three min_three max_four min_four   -- for this text's walks alone
set_option linter.unusedVariables false
set_option linter.unusedSimpArgs false

attribute [local go_sem] run_store_float
/-! ### spec_CgroupSummaryTree: function 43 -/
def spec_CgroupSummaryTree.l0 : Nat → List (S39) → List (S31) → Int → Int → Option (ByteArray × Int × Bool × Int × Int × Nat × ByteArray × (List (S39)) × Int)
 | 0, _, _, _, _ => none
 | k + 1, x6, x17, x18, x19 => if x19 < x18 then (if 0 ≤ x19 then (if x19 < (x17.length : Int) then ((spec_textNode.f (⟨#[83, 117, 98, 115, 121, 115, 78, 97, 109, 101]⟩ : ByteArray) ((rd_T31 x17 x19).f0)).bind fun bt143 => (if 0 < (((rd_T31 x17 x19).f1).length : Int) then ((spec_intNode.f (⟨#[72, 105, 101, 114, 97, 114, 99, 104, 121]⟩ : ByteArray) (wrap64 (rd ((rd_T31 x17 x19).f1) 0))).bind fun bt154 => (if 1 < (((rd_T31 x17 x19).f1).length : Int) then ((spec_intNode.f (⟨#[67, 103, 114, 111, 117, 112, 115]⟩ : ByteArray) (wrap64 (rd ((rd_T31 x17 x19).f1) 1))).bind fun bt165 => (if 2 < (((rd_T31 x17 x19).f1).length : Int) then ((spec_intNode.f (⟨#[69, 110, 97, 98, 108, 101, 100]⟩ : ByteArray) (wrap64 (rd ((rd_T31 x17 x19).f1) 2))).bind fun bt176 => ((spec_recordNode.f (⟨#[]⟩ : ByteArray) (([(⟨bt143.1, bt143.2.1, bt143.2.2.1, bt143.2.2.2.1, bt143.2.2.2.2.1, bt143.2.2.2.2.2.1, bt143.2.2.2.2.2.2.1, bt143.2.2.2.2.2.2.2⟩ : S39), (⟨bt154.1, bt154.2.1, bt154.2.2.1, bt154.2.2.2.1, bt154.2.2.2.2.1, bt154.2.2.2.2.2.1, bt154.2.2.2.2.2.2.1, bt154.2.2.2.2.2.2.2⟩ : S39), (⟨bt165.1, bt165.2.1, bt165.2.2.1, bt165.2.2.2.1, bt165.2.2.2.2.1, bt165.2.2.2.2.2.1, bt165.2.2.2.2.2.2.1, bt165.2.2.2.2.2.2.2⟩ : S39), (⟨bt176.1, bt176.2.1, bt176.2.2.1, bt176.2.2.2.1, bt176.2.2.2.2.1, bt176.2.2.2.2.2.1, bt176.2.2.2.2.2.2.1, bt176.2.2.2.2.2.2.2⟩ : S39)] : List (S39)))).bind fun bt189 => (if x6.length < 1466015503701 then (spec_CgroupSummaryTree.l0 k (x6 ++ [(⟨bt189.1, bt189.2.1, bt189.2.2.1, bt189.2.2.2.1, bt189.2.2.2.2.1, bt189.2.2.2.2.2.1, bt189.2.2.2.2.2.2.1, bt189.2.2.2.2.2.2.2⟩ : S39)]) x17 x18 (wrap64 (x19 + 1))) else (none)))) else (none))) else (none))) else (none))) else (none)) else (none)) else ((spec_listNode.f (⟨#[]⟩ : ByteArray) x6).bind fun bt131 => (some (bt131.1, bt131.2.1, bt131.2.2.1, bt131.2.2.2.1, bt131.2.2.2.2.1, bt131.2.2.2.2.2.1, bt131.2.2.2.2.2.2.1, bt131.2.2.2.2.2.2.2, 1)))
def spec_CgroupSummaryTree.f (k : Nat) (l0 : List (S31)) : Option (ByteArray × Int × Bool × Int × Int × Nat × ByteArray × (List (S39)) × Int) := (spec_CgroupSummaryPrint.f k l0).bind fun bt129 => (if bt129.2 = 1 then (spec_CgroupSummaryTree.l0 k ([] : List (S39)) l0 (l0.length : Int) 0) else (some ((⟨#[]⟩ : ByteArray), 0, false, 0, 0, 0, (⟨#[]⟩ : ByteArray), ([] : List (S39)), 2)))
theorem spec_CgroupSummaryTree.mono_l : ∀ k, (∀ y0 y1 y2 y3, LeO (spec_CgroupSummaryTree.l0 k y0 y1 y2 y3) (spec_CgroupSummaryTree.l0 (k + 1) y0 y1 y2 y3))
 | 0 => fun _ _ _ _ r h => by simp [spec_CgroupSummaryTree.l0] at h
 | k + 1 => by
  have ih0 := spec_CgroupSummaryTree.mono_l k
  ·intro y0 y1 y2 y3
   unfold spec_CgroupSummaryTree.l0
   repeat' first
   | (with_reducible exact ih0 _ _ _ _)
   | (with_reducible exact spec_CgroupSummaryPrint.mono _ _)
   | (with_reducible exact LeO.refl _)
   | (with_reducible exact LeO.none _)
   | (with_reducible refine LeO.ite ?_ ?_)
   | (with_reducible refine LeO.bind ?_ (fun _ => ?_))
   | exact ih0 _ _ _ _
   | exact spec_CgroupSummaryPrint.mono _ _
   | exact LeO.none _
   | refine LeO.ite ?_ ?_
   | refine LeO.bind ?_ (fun _ => ?_)
theorem spec_CgroupSummaryTree.mono : ∀ a0 k, LeO (spec_CgroupSummaryTree.f k a0) (spec_CgroupSummaryTree.f (k + 1) a0) := by
 intro a0 k
 have ih0 := spec_CgroupSummaryTree.mono_l k
 unfold spec_CgroupSummaryTree.f
 repeat' first
   | (with_reducible exact ih0 _ _ _ _)
   | (with_reducible exact spec_CgroupSummaryPrint.mono _ _)
   | (with_reducible exact LeO.refl _)
   | (with_reducible exact LeO.none _)
   | (with_reducible refine LeO.ite ?_ ?_)
   | (with_reducible refine LeO.bind ?_ (fun _ => ?_))
   | exact ih0 _ _ _ _
   | exact spec_CgroupSummaryPrint.mono _ _
   | exact LeO.none _
   | refine LeO.ite ?_ ?_
   | refine LeO.bind ?_ (fun _ => ?_)
def spec_CgroupSummaryTree.T8 : Bool × List (List Nat × List Nat) := (true, [([], []), ([], []), ([1], [1]), ([2], [2]), ([], []), ([4], [4]), ([5], [5]), ([6], [6]), ([7], [7]), ([8, 3], [8]), ([], []), ([10], [10]), ([11], [11]), ([12], [12]), ([13], [13]), ([14, 9], [14]), ([], []), ([16], [16]), ([17], [17]), ([18], [18]), ([19], [19]), ([20, 15], [20]), ([3, 9, 15, 21], [3, 9, 15, 21]), ([22, 21], [22]), ([23], [23]), ([0, 24, 23], [0, 24]), ([25, 25, 0, 1, 2, 3, 4, 5, 6, 7, 8, 9, 10, 11, 12, 13, 14, 15, 16, 17, 18, 19, 20, 21, 22, 23, 24, 25], [0, 25])])
def spec_CgroupSummaryTree.B8 : List Nat := [0, 0, 2, 6, 0, 16, 48, 112, 240, 510, 0, 1024, 3072, 7168, 15360, 32766, 0, 65536, 196608, 458752, 983040, 2097150, 4194302, 8388606, 16777214, 33554431, 67108863]
theorem spec_CgroupSummaryTree.tab8 : rtab .any (opsOf Tryz.f43 8) = spec_CgroupSummaryTree.T8 := by kernel_rfl
theorem spec_CgroupSummaryTree.bits8 : waitsOk spec_CgroupSummaryTree.T8.2 spec_CgroupSummaryTree.B8 = true := by kernel_rfl
set_option maxHeartbeats 8000000 in
set_option maxRecDepth 100000 in
theorem spec_CgroupSummaryTree.calls (k : Nat) (A0 : Option Addr) (c0 : Nat) (l0 : List (S31)) (r1 : ByteArray) (r2 : Int) (r3 : Bool) (r4 : Int) (r5 : Int) (r6 : Nat) (r7 : ByteArray) (r8 : List (S39)) (r9 : Int) (w : World) (hr0 : Kd.C k31 w A0 l0.length l0) (hc0 : l0.length ≤ c0) (h : spec_CgroupSummaryTree.f k l0 = some (r1, r2, r3, r4, r5, r6, r7, r8, r9)) :
  Calls Tryz.prog 43 #[.slice A0 l0.length c0] w fun e w' => ∃ v7_ : Value, e = .returned (.tuple #[.agg #[.string r1, .int .i64 r2, .bool r3, .int .i64 r4, .int .u64 r5, .float .f64 r6, .string r7, v7_], .int .i64 r9]) ∧ Kd.V k39 39 w' w.heap.size (fun k_ => (w.heap.size ≤ k_)) v7_ r8 ∧ Below w.heap.size w w' := by
 have hu39 := Tryz.underlying39
 have hu31 := Tryz.underlying31
 have HR0 := Aside0.mk hr0
 have HC0 := Aside0.mk hc0
 clear hr0 hc0
 have HB := Aside0.mk (Below.refl w.heap.size w)
 have H : ((spec_CgroupSummaryPrint.f k l0).bind fun bt129 => (if bt129.2 = 1 then (spec_CgroupSummaryTree.l0 k ([] : List (S39)) l0 (l0.length : Int) 0) else (some ((⟨#[]⟩ : ByteArray), 0, false, 0, 0, 0, (⟨#[]⟩ : ByteArray), ([] : List (S39)), 2)))) = some (r1, r2, r3, r4, r5, r6, r7, r8, r9) := h
 clear h
 replace H := Option.bind_eq_some_iff.mp H
 obtain ⟨⟨t129, t130⟩, A20, H⟩ := H
 replace H : (if t130 = 1 then (spec_CgroupSummaryTree.l0 k ([] : List (S39)) l0 (l0.length : Int) 0) else (some ((⟨#[]⟩ : ByteArray), 0, false, 0, 0, 0, (⟨#[]⟩ : ByteArray), ([] : List (S39)), 2))) = some (r1, r2, r3, r4, r5, r6, r7, r8, r9) := H
 have A2 := Aside0.mk A20
 clear A20
 by_cases c3 : t130 = 1
 ·rw [if_pos c3] at H
  have c3b0 : (t130 == 1) = true := beq_iff_eq.mpr c3
  have c3b1 : (t130 != 1) = false := bne_eq_false_iff_eq.mpr c3
  clear c3
  have H' := Aside0.mk H
  clear H
  go_enter Tryz.func43, Tryz.ntmps43
  go_wp2_with (first | ((with_reducible refine gate_dst (N := 2) rfl ?_); refine box_event ?hg (N := 2) ?hd (cs := #[.string (⟨#[]⟩ : ByteArray), .int .i64 0, .bool false, .int .i64 0, .int .u64 0, .float .f64 0, .string (⟨#[]⟩ : ByteArray), .slice none 0 0]) (t := 39) ?hr ?_; (case hd => rfl); (case hg => rfl); (case hr => first | (go_simp; done) | (go_simp; rfl)); intro gb128 hg w4 hbox hb; have n0_ := Aside0.mk (below_step (by repeat (first | (with_reducible first | exact HB.out | apply below_alloc | apply pw_below_drewN | apply below_drew1) | exact HB.out)) hb); have n1_ := Aside0.mk (hbox); have n2_ := Aside0.mk ((by rw [hg]; exact (below_size (by repeat (first | (with_reducible first | exact HB.out | apply below_alloc | apply pw_below_drewN | apply below_drew1) | exact HB.out))) : w.heap.size ≤ gb128)); have n3_ := Aside0.mk ((by rw [hg]; exact (below_size (by repeat (first | (with_reducible first | exact HB.out | apply below_alloc | apply pw_below_drewN | apply below_drew1) | exact HB.out))) : w.heap.size ≤ gb128)); clear HB; have HB := n0_; have BK128 := n1_; have GW128 := n2_; have GE128 := n3_; clear n0_ n1_ n2_ n3_; clear hb hbox hg) | ((with_reducible refine gate_callee (f := 42) rfl ?_); refine goesL_ (some 11) rfl rfl Tryz.func42 (by kernel_rfl) rfl #[.slice A0 l0.length c0] rfl (by (try simp only [List.map_toArray, List.map_cons, List.map_nil]); first | done | rfl | (simp only [List.length_drop, List.length_take]; rfl)) ?_; (with_reducible refine (spec_CgroupSummaryPrint.calls k _ _ l0 t129 t130 _ ?side1 ?side2 A2.out).mono ?_); (case side1 => repeat (first | exact (Kd.C_below HR0.out HB.out) | (with_reducible refine Kd.C_alloc ?_ _) | (with_reducible refine Kd.C_drewN ?_ _) | (with_reducible refine Kd.C_drew ?_))); (case side2 => exact HC0.out); rintro e w5 ⟨rfl, hb⟩; refine ⟨_, rfl, ?_⟩; have n0_ := Aside0.mk (blk_below (g := gb128) (o := .cells #[.string (⟨#[]⟩ : ByteArray), .int .i64 0, .bool false, .int .i64 0, .int .u64 0, .float .f64 0, .string (⟨#[]⟩ : ByteArray), .slice none 0 0] 39 (0, 0)) (by (with_reducible repeat (first | refine blk_drewN ?_ _ | refine blk_drew ?_ | refine blk_alloc ?_ _)); exact BK128.out) hb); have n1_ := Aside0.mk (below_step (by repeat (first | (with_reducible first | exact HB.out | apply below_alloc | apply pw_below_drewN | apply below_drew1 | refine below_set ?_ GE128.out) | exact HB.out)) hb); clear BK128; clear HB; have BK128 := n0_; have HB := n1_; clear n0_ n1_; (try clear hb); (try clear hb2); (try clear hk); (try clear hi)))
  go_loopg [6, 19] k (fun kq v6 v19 w' => ∃ (x6_1 : List (S39)) (x19_1 : Int), v19 = .int .i64 x19_1 ∧ Aside0 (spec_CgroupSummaryTree.l0 kq x6_1 l0 (l0.length : Int) x19_1 = some (r1, r2, r3, r4, r5, r6, r7, r8, r9)) ∧ Aside0 (kq ≤ k) ∧ Aside0 (Kd.N k39 39 w' w.heap.size (fun k_ => (w.heap.size ≤ k_) ∧ k_ ≠ gb128) v6 x6_1) ∧ Aside0 (w'.heap[gb128]? = some (.cells #[.string (⟨#[]⟩ : ByteArray), .int .i64 0, .bool false, .int .i64 0, .int .u64 0, .float .f64 0, .string (⟨#[]⟩ : ByteArray), (.slice none 0 0)] 39 (0, 0))) ∧ Aside0 (Below w.heap.size w w'))
  case atStart => exact ⟨(([] : List (S39))), (0), (by first | rfl | (simp; done) | (simp [*]; done)), H', ⟨Nat.le_refl _⟩, ⟨by first | exact Kd.R_nil _ _ _ _ _ | exact Kd.N_nil _ _ _ _ _ | exact Kd.V_nil _ _ _ _ _ | exact Kd.Q_nil _ _ _ _ _ | exact Kd.S_nil _ _ _ _ _⟩, ⟨by (with_reducible repeat (first | refine blk_drewN ?_ _ | refine blk_drew ?_ | refine blk_alloc ?_ _)); exact BK128.out⟩, ⟨by repeat (first | (with_reducible first | exact HB.out | apply below_alloc | apply pw_below_drewN | apply below_drew1 | refine below_set ?_ GE128.out) | exact HB.out)⟩⟩
  case round =>
   clear H'
   try clear p2
   try clear c3
   try clear c3b0
   try clear c3b1
   try clear c4
   obtain ⟨x6_1, x19_1, rfl, HA, HK1, HO_6, BK128, HB⟩ := hrel
   cases gk with
   | zero => exact absurd HA.out (by simp [spec_CgroupSummaryTree.l0])
   | succ k1 =>
    have H := HA.out
    clear HA
    simp only [spec_CgroupSummaryTree.l0] at H
    by_cases c6 : x19_1 < (l0.length : Int)
    ·rw [if_pos c6] at H
     have c6b0 : decide (x19_1 < (l0.length : Int)) = true := decide_eq_true c6
     clear c6
     replace H := guard_inv H
     obtain ⟨c7, H⟩ := H
     have c7b0 : decide (0 ≤ x19_1) = true := decide_eq_true c7
     clear c7
     replace H := guard_inv H
     obtain ⟨c8, H⟩ := H
     have c8b0 : decide (x19_1 < (l0.length : Int)) = true := decide_eq_true c8
     clear c8
     replace H := Option.bind_eq_some_iff.mp H
     obtain ⟨⟨t143, t144, t145, t146, t147, t148, t149, t150⟩, A90, H⟩ := H
     replace H : (if 0 < (((rd_T31 l0 x19_1).f1).length : Int) then ((spec_intNode.f (⟨#[72, 105, 101, 114, 97, 114, 99, 104, 121]⟩ : ByteArray) (wrap64 (rd ((rd_T31 l0 x19_1).f1) 0))).bind fun bt154 => (if 1 < (((rd_T31 l0 x19_1).f1).length : Int) then ((spec_intNode.f (⟨#[67, 103, 114, 111, 117, 112, 115]⟩ : ByteArray) (wrap64 (rd ((rd_T31 l0 x19_1).f1) 1))).bind fun bt165 => (if 2 < (((rd_T31 l0 x19_1).f1).length : Int) then ((spec_intNode.f (⟨#[69, 110, 97, 98, 108, 101, 100]⟩ : ByteArray) (wrap64 (rd ((rd_T31 l0 x19_1).f1) 2))).bind fun bt176 => ((spec_recordNode.f (⟨#[]⟩ : ByteArray) (([(⟨t143, t144, t145, t146, t147, t148, t149, t150⟩ : S39), (⟨bt154.1, bt154.2.1, bt154.2.2.1, bt154.2.2.2.1, bt154.2.2.2.2.1, bt154.2.2.2.2.2.1, bt154.2.2.2.2.2.2.1, bt154.2.2.2.2.2.2.2⟩ : S39), (⟨bt165.1, bt165.2.1, bt165.2.2.1, bt165.2.2.2.1, bt165.2.2.2.2.1, bt165.2.2.2.2.2.1, bt165.2.2.2.2.2.2.1, bt165.2.2.2.2.2.2.2⟩ : S39), (⟨bt176.1, bt176.2.1, bt176.2.2.1, bt176.2.2.2.1, bt176.2.2.2.2.1, bt176.2.2.2.2.2.1, bt176.2.2.2.2.2.2.1, bt176.2.2.2.2.2.2.2⟩ : S39)] : List (S39)))).bind fun bt189 => (if x6_1.length < 1466015503701 then (spec_CgroupSummaryTree.l0 k1 (x6_1 ++ [(⟨bt189.1, bt189.2.1, bt189.2.2.1, bt189.2.2.2.1, bt189.2.2.2.2.1, bt189.2.2.2.2.2.1, bt189.2.2.2.2.2.2.1, bt189.2.2.2.2.2.2.2⟩ : S39)]) l0 (l0.length : Int) (wrap64 (x19_1 + 1))) else (none)))) else (none))) else (none))) else (none)) = some (r1, r2, r3, r4, r5, r6, r7, r8, r9) := H
     have A9 := Aside0.mk A90
     clear A90
     replace H := guard_inv H
     obtain ⟨c10, H⟩ := H
     have c10b0 : decide (0 < (((rd_T31 l0 x19_1).f1).length : Int)) = true := decide_eq_true c10
     have c10b1 : decide (0 < ((rd_T31 l0 x19_1).f1).length) = true := decide_eq_true (by omega)
     clear c10
     replace H := Option.bind_eq_some_iff.mp H
     obtain ⟨⟨t154, t155, t156, t157, t158, t159, t160, t161⟩, A110, H⟩ := H
     replace H : (if 1 < (((rd_T31 l0 x19_1).f1).length : Int) then ((spec_intNode.f (⟨#[67, 103, 114, 111, 117, 112, 115]⟩ : ByteArray) (wrap64 (rd ((rd_T31 l0 x19_1).f1) 1))).bind fun bt165 => (if 2 < (((rd_T31 l0 x19_1).f1).length : Int) then ((spec_intNode.f (⟨#[69, 110, 97, 98, 108, 101, 100]⟩ : ByteArray) (wrap64 (rd ((rd_T31 l0 x19_1).f1) 2))).bind fun bt176 => ((spec_recordNode.f (⟨#[]⟩ : ByteArray) (([(⟨t143, t144, t145, t146, t147, t148, t149, t150⟩ : S39), (⟨t154, t155, t156, t157, t158, t159, t160, t161⟩ : S39), (⟨bt165.1, bt165.2.1, bt165.2.2.1, bt165.2.2.2.1, bt165.2.2.2.2.1, bt165.2.2.2.2.2.1, bt165.2.2.2.2.2.2.1, bt165.2.2.2.2.2.2.2⟩ : S39), (⟨bt176.1, bt176.2.1, bt176.2.2.1, bt176.2.2.2.1, bt176.2.2.2.2.1, bt176.2.2.2.2.2.1, bt176.2.2.2.2.2.2.1, bt176.2.2.2.2.2.2.2⟩ : S39)] : List (S39)))).bind fun bt189 => (if x6_1.length < 1466015503701 then (spec_CgroupSummaryTree.l0 k1 (x6_1 ++ [(⟨bt189.1, bt189.2.1, bt189.2.2.1, bt189.2.2.2.1, bt189.2.2.2.2.1, bt189.2.2.2.2.2.1, bt189.2.2.2.2.2.2.1, bt189.2.2.2.2.2.2.2⟩ : S39)]) l0 (l0.length : Int) (wrap64 (x19_1 + 1))) else (none)))) else (none))) else (none)) = some (r1, r2, r3, r4, r5, r6, r7, r8, r9) := H
     have A11 := Aside0.mk A110
     clear A110
     replace H := guard_inv H
     obtain ⟨c12, H⟩ := H
     have c12b0 : decide (1 < (((rd_T31 l0 x19_1).f1).length : Int)) = true := decide_eq_true c12
     have c12b1 : decide (1 < ((rd_T31 l0 x19_1).f1).length) = true := decide_eq_true (by omega)
     clear c12
     replace H := Option.bind_eq_some_iff.mp H
     obtain ⟨⟨t165, t166, t167, t168, t169, t170, t171, t172⟩, A130, H⟩ := H
     replace H : (if 2 < (((rd_T31 l0 x19_1).f1).length : Int) then ((spec_intNode.f (⟨#[69, 110, 97, 98, 108, 101, 100]⟩ : ByteArray) (wrap64 (rd ((rd_T31 l0 x19_1).f1) 2))).bind fun bt176 => ((spec_recordNode.f (⟨#[]⟩ : ByteArray) (([(⟨t143, t144, t145, t146, t147, t148, t149, t150⟩ : S39), (⟨t154, t155, t156, t157, t158, t159, t160, t161⟩ : S39), (⟨t165, t166, t167, t168, t169, t170, t171, t172⟩ : S39), (⟨bt176.1, bt176.2.1, bt176.2.2.1, bt176.2.2.2.1, bt176.2.2.2.2.1, bt176.2.2.2.2.2.1, bt176.2.2.2.2.2.2.1, bt176.2.2.2.2.2.2.2⟩ : S39)] : List (S39)))).bind fun bt189 => (if x6_1.length < 1466015503701 then (spec_CgroupSummaryTree.l0 k1 (x6_1 ++ [(⟨bt189.1, bt189.2.1, bt189.2.2.1, bt189.2.2.2.1, bt189.2.2.2.2.1, bt189.2.2.2.2.2.1, bt189.2.2.2.2.2.2.1, bt189.2.2.2.2.2.2.2⟩ : S39)]) l0 (l0.length : Int) (wrap64 (x19_1 + 1))) else (none)))) else (none)) = some (r1, r2, r3, r4, r5, r6, r7, r8, r9) := H
     have A13 := Aside0.mk A130
     clear A130
     replace H := guard_inv H
     obtain ⟨c14, H⟩ := H
     have c14b0 : decide (2 < (((rd_T31 l0 x19_1).f1).length : Int)) = true := decide_eq_true c14
     have c14b1 : decide (2 < ((rd_T31 l0 x19_1).f1).length) = true := decide_eq_true (by omega)
     clear c14
     replace H := Option.bind_eq_some_iff.mp H
     obtain ⟨⟨t176, t177, t178, t179, t180, t181, t182, t183⟩, A150, H⟩ := H
     replace H : ((spec_recordNode.f (⟨#[]⟩ : ByteArray) (([(⟨t143, t144, t145, t146, t147, t148, t149, t150⟩ : S39), (⟨t154, t155, t156, t157, t158, t159, t160, t161⟩ : S39), (⟨t165, t166, t167, t168, t169, t170, t171, t172⟩ : S39), (⟨t176, t177, t178, t179, t180, t181, t182, t183⟩ : S39)] : List (S39)))).bind fun bt189 => (if x6_1.length < 1466015503701 then (spec_CgroupSummaryTree.l0 k1 (x6_1 ++ [(⟨bt189.1, bt189.2.1, bt189.2.2.1, bt189.2.2.2.1, bt189.2.2.2.2.1, bt189.2.2.2.2.2.1, bt189.2.2.2.2.2.2.1, bt189.2.2.2.2.2.2.2⟩ : S39)]) l0 (l0.length : Int) (wrap64 (x19_1 + 1))) else (none))) = some (r1, r2, r3, r4, r5, r6, r7, r8, r9) := H
     have A15 := Aside0.mk A150
     clear A150
     obtain ⟨y186, hy186⟩ : ∃ y_ : List (S39), y_ = (([(⟨t143, t144, t145, t146, t147, t148, t149, t150⟩ : S39), (⟨t154, t155, t156, t157, t158, t159, t160, t161⟩ : S39), (⟨t165, t166, t167, t168, t169, t170, t171, t172⟩ : S39), (⟨t176, t177, t178, t179, t180, t181, t182, t183⟩ : S39)] : List (S39))) := ⟨_, rfl⟩
     replace H : ((spec_recordNode.f (⟨#[]⟩ : ByteArray) y186).bind fun bt189 => (if x6_1.length < 1466015503701 then (spec_CgroupSummaryTree.l0 k1 (x6_1 ++ [(⟨bt189.1, bt189.2.1, bt189.2.2.1, bt189.2.2.2.1, bt189.2.2.2.2.1, bt189.2.2.2.2.2.1, bt189.2.2.2.2.2.2.1, bt189.2.2.2.2.2.2.2⟩ : S39)]) l0 (l0.length : Int) (wrap64 (x19_1 + 1))) else (none))) = some (r1, r2, r3, r4, r5, r6, r7, r8, r9) := by first | (rw [hy186]; with_reducible exact H) | (have H2_ := (Option.bind_some _ _).symm.trans H; rw [hy186]; with_reducible exact H2_) | (have H2_ := (Option.bind_some _ _).symm.trans H; with_reducible exact H2_) | with_reducible exact H | (rw [hy186]; exact H) | exact H
     have Ny186 := Aside0.mk hy186
     clear hy186
     replace H := Option.bind_eq_some_iff.mp H
     obtain ⟨⟨t189, t190, t191, t192, t193, t194, t195, t196⟩, A160, H⟩ := H
     replace H : (if x6_1.length < 1466015503701 then (spec_CgroupSummaryTree.l0 k1 (x6_1 ++ [(⟨t189, t190, t191, t192, t193, t194, t195, t196⟩ : S39)]) l0 (l0.length : Int) (wrap64 (x19_1 + 1))) else (none)) = some (r1, r2, r3, r4, r5, r6, r7, r8, r9) := H
     have A16 := Aside0.mk A160
     clear A160
     replace H := guard_inv H
     obtain ⟨c17, H⟩ := H
     have LMc17 := Aside0.mk c17
     clear c17
     obtain ⟨y199, hy199⟩ : ∃ y_ : List (S39), y_ = (x6_1 ++ [(⟨t189, t190, t191, t192, t193, t194, t195, t196⟩ : S39)]) := ⟨_, rfl⟩
     replace H : (spec_CgroupSummaryTree.l0 k1 y199 l0 (l0.length : Int) (wrap64 (x19_1 + 1))) = some (r1, r2, r3, r4, r5, r6, r7, r8, r9) := by first | (rw [hy199]; with_reducible exact H) | (have H2_ := (Option.bind_some _ _).symm.trans H; rw [hy199]; with_reducible exact H2_) | (have H2_ := (Option.bind_some _ _).symm.trans H; with_reducible exact H2_) | with_reducible exact H | (rw [hy199]; exact H) | exact H
     have Ny199 := Aside0.mk hy199
     clear hy199
     have H' := Aside0.mk H
     clear H
     have p141 : 0 ≤ (x19_1 : Int) := of_decide_eq_true (by first | (with_reducible assumption) | assumption)
     have q141 : x19_1 < (l0.length : Int) := of_decide_eq_true (by first | (with_reducible assumption) | assumption)
     obtain ⟨ad141, A141_1, c141_1, A141_2, c141_2, e141, hx141_0, hx141_1, hx141_2, hl141_1, hi141_1, hl141_2, hi141_2⟩ := at_T31 HR0.out x19_1 p141 q141
     cases e141
     replace hx141_0 := (HB.out.cell (World.block_lt_of_cell? w _ hx141_0)).trans hx141_0
     replace hx141_1 := (HB.out.cell (World.block_lt_of_cell? w _ hx141_1)).trans hx141_1
     replace hx141_2 := (HB.out.cell (World.block_lt_of_cell? w _ hx141_2)).trans hx141_2
     have HR141_1 := Aside0.mk hi141_1
     have HC141_1 := Aside0.mk hl141_1
     clear hi141_1 hl141_1
     have HR141_2 := Aside0.mk hi141_2
     have HC141_2 := Aside0.mk hl141_2
     clear hi141_2 hl141_2
     replace p141 := eq_true p141
     replace q141 := eq_true q141
     try go_wp2_with (first | ((with_reducible refine gate_dst (N := 8) rfl ?_); refine box_event ?hg (N := 8) ?hd (cs := #[.string (⟨#[]⟩ : ByteArray), .slice none 0 0, .slice none 0 0]) (t := 31) ?hr ?_; (case hd => rfl); (case hg => rfl); (case hr => first | (go_simp; done) | (go_simp; rfl)); intro gb142 hg w18 hbox hb; have n0_ := Aside0.mk (Kd.N_below (Kd.N_elderB (by (with_reducible repeat (first | apply Kd.N_alloc | apply Kd.N_drewN | apply Kd.N_drew)); exact HO_6.out) gb142 (Nat.le_of_eq hg.symm)) hb); have n1_ := Aside0.mk (blk_below (g := gb128) (o := .cells #[.string (⟨#[]⟩ : ByteArray), .int .i64 0, .bool false, .int .i64 0, .int .u64 0, .float .f64 0, .string (⟨#[]⟩ : ByteArray), .slice none 0 0] 39 (0, 0)) (by (with_reducible repeat (first | refine blk_drewN ?_ _ | refine blk_drew ?_ | refine blk_alloc ?_ _)); exact BK128.out) hb); have n2_ := Aside0.mk (below_step (by repeat (first | (with_reducible first | exact HB.out | apply below_alloc | apply pw_below_drewN | apply below_drew1 | refine below_set ?_ GE128.out) | exact HB.out)) hb); have n3_ := Aside0.mk (hbox); have n4_ := Aside0.mk ((by rw [hg]; exact (below_size (by repeat (first | (with_reducible first | exact HB.out | apply below_alloc | apply pw_below_drewN | apply below_drew1 | refine below_set ?_ GE128.out) | exact HB.out))) : w.heap.size ≤ gb142)); have n5_ := Aside0.mk ((by rw [hg]; exact (below_size (by repeat (first | (with_reducible first | exact HB.out | apply below_alloc | apply pw_below_drewN | apply below_drew1 | refine below_set ?_ GE128.out) | exact HB.out))) : w.heap.size ≤ gb142)); have n6_ := Aside0.mk ((by rw [hg]; exact Nat.ne_of_lt (blk_lt (g := gb128) (o := .cells #[.string (⟨#[]⟩ : ByteArray), .int .i64 0, .bool false, .int .i64 0, .int .u64 0, .float .f64 0, .string (⟨#[]⟩ : ByteArray), .slice none 0 0] 39 (0, 0)) (by (with_reducible repeat (first | refine blk_drewN ?_ _ | refine blk_drew ?_ | refine blk_alloc ?_ _)); exact BK128.out)) : gb128 ≠ gb142)); have n7_ := Aside0.mk ((by rw [hg]; exact Nat.ne_of_gt (blk_lt (g := gb128) (o := .cells #[.string (⟨#[]⟩ : ByteArray), .int .i64 0, .bool false, .int .i64 0, .int .u64 0, .float .f64 0, .string (⟨#[]⟩ : ByteArray), .slice none 0 0] 39 (0, 0)) (by (with_reducible repeat (first | refine blk_drewN ?_ _ | refine blk_drew ?_ | refine blk_alloc ?_ _)); exact BK128.out)) : gb142 ≠ gb128)); clear HO_6; clear BK128; clear HB; have HO_6 := n0_; have BK128 := n1_; have HB := n2_; have BK142 := n3_; have GW142 := n4_; have GE142 := n5_; have NB128_142 := n6_; have NB142_128 := n7_; clear n0_ n1_ n2_ n3_ n4_ n5_ n6_ n7_; clear hb hbox hg; have hnb19 := NB142_128.out; have hnc19 := NB128_142.out; have hcz20_0 : w18.cell? ⟨gb142, 0, none⟩ = some (.string (⟨#[]⟩ : ByteArray)) := (blk_cell BK142.out 0).trans rfl; have hcz20_1 : w18.cell? ⟨gb142, 1, none⟩ = some (.slice none 0 0) := (blk_cell BK142.out 1).trans rfl; have hcz20_2 : w18.cell? ⟨gb142, 2, none⟩ = some (.slice none 0 0) := (blk_cell BK142.out 2).trans rfl; have hfz20_0 := blk_frozen BK142.out 0; have hfz20_1 := blk_frozen BK142.out 1; have hfz20_2 := blk_frozen BK142.out 2))
     have n0_ : Aside0 (Kd.N k39 39 (((w18.setCell ⟨gb142, 0, none⟩ (.string ((rd_T31 l0 x19_1).f0))).setCell ⟨gb142, 1, none⟩ (.slice A141_1 ((rd_T31 l0 x19_1).f1).length c141_1)).setCell ⟨gb142, 2, none⟩ (.slice A141_2 ((rd_T31 l0 x19_1).f2).length c141_2)) w.heap.size (fun k_ => (w.heap.size ≤ k_) ∧ k_ ≠ gb128 ∧ k_ ≠ gb142) u6 x6_1) := ⟨by (with_reducible repeat (first | apply Kd.N_alloc | apply Kd.N_drewN | apply Kd.N_drew)); exact Kd.N_mono (Kd.N_far (p := ⟨gb142, 2, none⟩) (Kd.N_far (p := ⟨gb142, 1, none⟩) (Kd.N_far (p := ⟨gb142, 0, none⟩) (Kd.N_mono HO_6.out (fun k_ hk => (⟨hk, hk.2⟩ : _ ∧ k_ ≠ gb142))) (fun _ hk => hk.2) (.string ((rd_T31 l0 x19_1).f0))) (fun _ hk => hk.2) (.slice A141_1 ((rd_T31 l0 x19_1).f1).length c141_1)) (fun _ hk => hk.2) (.slice A141_2 ((rd_T31 l0 x19_1).f2).length c141_2)) (fun _ hk => ⟨hk.1.1.1, ⟨hk.1.1.2, hk.1.2⟩⟩)⟩
     have n1_ : Aside0 ((((w18.setCell ⟨gb142, 0, none⟩ (.string ((rd_T31 l0 x19_1).f0))).setCell ⟨gb142, 1, none⟩ (.slice A141_1 ((rd_T31 l0 x19_1).f1).length c141_1)).setCell ⟨gb142, 2, none⟩ (.slice A141_2 ((rd_T31 l0 x19_1).f2).length c141_2)).heap[gb128]? = some (.cells #[.string (⟨#[]⟩ : ByteArray), .int .i64 0, .bool false, .int .i64 0, .int .u64 0, .float .f64 0, .string (⟨#[]⟩ : ByteArray), .slice none 0 0] 39 (0, 0))) := ⟨by (with_reducible repeat (first | refine blk_drewN ?_ _ | refine blk_drew ?_ | refine blk_alloc ?_ _)); refine blk_far ?_ NB128_142.out _; (with_reducible repeat (first | refine blk_drewN ?_ _ | refine blk_drew ?_ | refine blk_alloc ?_ _)); refine blk_far ?_ NB128_142.out _; (with_reducible repeat (first | refine blk_drewN ?_ _ | refine blk_drew ?_ | refine blk_alloc ?_ _)); refine blk_far ?_ NB128_142.out _; (with_reducible repeat (first | refine blk_drewN ?_ _ | refine blk_drew ?_ | refine blk_alloc ?_ _)); exact BK128.out⟩
     have n2_ : Aside0 ((((w18.setCell ⟨gb142, 0, none⟩ (.string ((rd_T31 l0 x19_1).f0))).setCell ⟨gb142, 1, none⟩ (.slice A141_1 ((rd_T31 l0 x19_1).f1).length c141_1)).setCell ⟨gb142, 2, none⟩ (.slice A141_2 ((rd_T31 l0 x19_1).f2).length c141_2)).heap[gb142]? = some (.cells #[.string ((rd_T31 l0 x19_1).f0), .slice A141_1 ((rd_T31 l0 x19_1).f1).length c141_1, .slice A141_2 ((rd_T31 l0 x19_1).f2).length c141_2] 31 (0, 0))) := ⟨by (with_reducible repeat (first | refine blk_drewN ?_ _ | refine blk_drew ?_ | refine blk_alloc ?_ _)); refine blk_put (cs := #[.string ((rd_T31 l0 x19_1).f0), .slice A141_1 ((rd_T31 l0 x19_1).f1).length c141_1, .slice none 0 0]) ?_ 2 _ rfl; (with_reducible repeat (first | refine blk_drewN ?_ _ | refine blk_drew ?_ | refine blk_alloc ?_ _)); refine blk_put (cs := #[.string ((rd_T31 l0 x19_1).f0), .slice none 0 0, .slice none 0 0]) ?_ 1 _ rfl; (with_reducible repeat (first | refine blk_drewN ?_ _ | refine blk_drew ?_ | refine blk_alloc ?_ _)); refine blk_put (cs := #[.string (⟨#[]⟩ : ByteArray), .slice none 0 0, .slice none 0 0]) ?_ 0 _ rfl; (with_reducible repeat (first | refine blk_drewN ?_ _ | refine blk_drew ?_ | refine blk_alloc ?_ _)); exact BK142.out⟩
     have n3_ : Aside0 (Below w.heap.size w (((w18.setCell ⟨gb142, 0, none⟩ (.string ((rd_T31 l0 x19_1).f0))).setCell ⟨gb142, 1, none⟩ (.slice A141_1 ((rd_T31 l0 x19_1).f1).length c141_1)).setCell ⟨gb142, 2, none⟩ (.slice A141_2 ((rd_T31 l0 x19_1).f2).length c141_2))) := ⟨by repeat (first | (with_reducible first | exact HB.out | apply below_alloc | apply pw_below_drewN | apply below_drew1 | refine below_set ?_ GE128.out | refine below_set ?_ GE142.out) | exact HB.out)⟩
     (try clear HO_6)
     (try clear BK128)
     (try clear BK142)
     (try clear HB)
     generalize (((w18.setCell ⟨gb142, 0, none⟩ (.string ((rd_T31 l0 x19_1).f0))).setCell ⟨gb142, 1, none⟩ (.slice A141_1 ((rd_T31 l0 x19_1).f1).length c141_1)).setCell ⟨gb142, 2, none⟩ (.slice A141_2 ((rd_T31 l0 x19_1).f2).length c141_2)) = w21 at n0_ n1_ n2_ n3_ ⊢
     have HO_6 := n0_
     have BK128 := n1_
     have BK142 := n2_
     have HB := n3_
     clear n0_ n1_ n2_ n3_
     have n0_ := Aside0.mk (Kd.N_drew HO_6.out)
     have n1_ := Aside0.mk (blk_drew BK128.out)
     have n2_ := Aside0.mk (blk_drew BK142.out)
     have n3_ := Aside0.mk (below_drew1 HB.out)
     clear HO_6
     clear BK128
     clear BK142
     clear HB
     have HO_6 := n0_
     have BK128 := n1_
     have BK142 := n2_
     have HB := n3_
     clear n0_ n1_ n2_ n3_
     have p153 : 0 ≤ (0 : Int) := (by omega)
     have q153 : 0 < (((rd_T31 l0 x19_1).f1).length : Int) := of_decide_eq_true (by first | (with_reducible assumption) | assumption)
     obtain ⟨ad153, e153, hx153_0⟩ := Kd.at_int HR141_1.out 0 p153 q153
     have hw153_0 := hx153_0
     (try rw [show ((0 : Int)).toNat = 0 from rfl] at hw153_0)
     (try rw [show 0 * 1 = 0 from rfl] at hw153_0)
     (try rw [Addr.add_zero'] at hw153_0)
     cases e153
     have qi153 : (0 < ((rd_T31 l0 x19_1).f1).length) = True := eq_true (by omega)
     (try rw [show ((0 : Int)).toNat = 0 from rfl] at hx153_0)
     (try rw [Addr.add_zero'] at hx153_0)
     replace hx153_0 := (HB.out.cell (World.block_lt_of_cell? w _ hx153_0)).trans hx153_0
     replace p153 := eq_true p153
     replace q153 := eq_true q153
     have p164 : 0 ≤ (1 : Int) := (by omega)
     have q164 : 1 < (((rd_T31 l0 x19_1).f1).length : Int) := of_decide_eq_true (by first | (with_reducible assumption) | assumption)
     obtain ⟨ad164, e164, hx164_0⟩ := Kd.at_int HR141_1.out 1 p164 q164
     have hw164_0 := hx164_0
     (try rw [show ((1 : Int)).toNat = 1 from rfl] at hw164_0)
     (try rw [show 1 * 1 = 1 from rfl] at hw164_0)
     (try simp only [Nat.reduceMul, Nat.reduceEqDiff, Go.Addr.add, ↓reduceIte] at hw164_0)
     obtain rfl : ad153 = ad164 := (by injection e164)
     (try simp only [show (1 : Int).toNat = 1 from rfl, Nat.reduceMul, Nat.reduceEqDiff, Go.Addr.add, ↓reduceIte] at hx164_0)
     have qi164 : (1 < ((rd_T31 l0 x19_1).f1).length) = True := eq_true (by omega)
     (try rw [show ((1 : Int)).toNat = 1 from rfl] at hx164_0)
     replace hx164_0 := (HB.out.cell (World.block_lt_of_cell? w _ hx164_0)).trans hx164_0
     replace p164 := eq_true p164
     replace q164 := eq_true q164
     have p175 : 0 ≤ (2 : Int) := (by omega)
     have q175 : 2 < (((rd_T31 l0 x19_1).f1).length : Int) := of_decide_eq_true (by first | (with_reducible assumption) | assumption)
     obtain ⟨ad175, e175, hx175_0⟩ := Kd.at_int HR141_1.out 2 p175 q175
     have hw175_0 := hx175_0
     (try rw [show ((2 : Int)).toNat = 2 from rfl] at hw175_0)
     (try rw [show 2 * 1 = 2 from rfl] at hw175_0)
     (try simp only [Nat.reduceMul, Nat.reduceEqDiff, Go.Addr.add, ↓reduceIte] at hw175_0)
     obtain rfl : ad153 = ad175 := (by injection e175)
     (try simp only [show (2 : Int).toNat = 2 from rfl, Nat.reduceMul, Nat.reduceEqDiff, Go.Addr.add, ↓reduceIte] at hx175_0)
     have qi175 : (2 < ((rd_T31 l0 x19_1).f1).length) = True := eq_true (by omega)
     (try rw [show ((2 : Int)).toNat = 2 from rfl] at hx175_0)
     replace hx175_0 := (HB.out.cell (World.block_lt_of_cell? w _ hx175_0)).trans hx175_0
     replace p175 := eq_true p175
     replace q175 := eq_true q175
     refine start_ (n := 27) (S := fun w' => w'.cell? ⟨gb142, 0, none⟩ = some (.string ((rd_T31 l0 x19_1).f0)) ∧ w'.cell? ⟨gb142, 1, none⟩ = some (.slice (some ad153) ((rd_T31 l0 x19_1).f1).length c141_1) ∧ w'.cell? ⟨gb142, 2, none⟩ = some (.slice A141_2 ((rd_T31 l0 x19_1).f2).length c141_2) ∧ w'.cell? ad153 = some (.int .u64 (rd ((rd_T31 l0 x19_1).f1) 0)) ∧ w'.cell? ⟨ad153.block, ad153.off + 1, none⟩ = some (.int .u64 (rd ((rd_T31 l0 x19_1).f1) 1)) ∧ w'.cell? ⟨ad153.block, ad153.off + 2, none⟩ = some (.int .u64 (rd ((rd_T31 l0 x19_1).f1) 2))) (ds := []) (bb [0, 27]) (by kernel_rfl) rfl rfl ⟨(blk_cell BK142.out 0).trans rfl, (blk_cell BK142.out 1).trans rfl, (blk_cell BK142.out 2).trans rfl, ((HB.out.cell (World.block_lt_of_cell? w _ hw153_0)).trans hw153_0), ((HB.out.cell (World.block_lt_of_cell? w _ hw164_0)).trans hw164_0), ((HB.out.cell (World.block_lt_of_cell? w _ hw175_0)).trans hw175_0)⟩ (fun hHeld => ?_); refine with_tabW spec_CgroupSummaryTree.tab8 spec_CgroupSummaryTree.bits8 (fun HT_ HW_ => ?_)
     generalize w21.drew = w22 at HO_6 BK128 BK142 HB hx153_0 hx164_0 hx175_0 hHeld ⊢
     refine pure_ (i := 0) (N := some 23) (v := ?_) (a' := ?_) (bb [1, 26]) rfl rfl (any_of HT_.out (by kernel_rfl)) (fun _ _ _ h => h) (Or.inl ⟨by rfl, ?_⟩) ?_ ?_
     rotate_left
     ·intro w'
      go_simp
      with_reducible rfl
     rotate_left
     ·simp only [Act.put, List.setIfInBounds_toArray, List.set_cons_zero, List.set_cons_succ, i64_w, i32_w]
      rfl
     refine pure_ (i := 1) (N := some 24) (v := ?_) (a' := ?_) (bb [2, 25]) rfl rfl (any_of HT_.out (by kernel_rfl)) (fun _ _ _ h => h) (Or.inl ⟨by rfl, ?_⟩) ?_ ?_
     rotate_left
     ·intro w'
      go_simp
      with_reducible rfl
     rotate_left
     ·simp only [Act.put, List.setIfInBounds_toArray, List.set_cons_zero, List.set_cons_succ, i64_w, i32_w]
      rfl
     refine pure_ (i := 4) (N := some 27) (v := ?_) (a' := ?_) (bb [2, 2, 1, 22]) rfl rfl (any_of HT_.out (by kernel_rfl)) (fun _ _ _ h => h) (Or.inl ⟨by rfl, ?_⟩) ?_ ?_
     rotate_left
     ·intro w'
      go_simp
      with_reducible rfl
     rotate_left
     ·simp only [Act.put, List.setIfInBounds_toArray, List.set_cons_zero, List.set_cons_succ, i64_w, i32_w]
      rfl
     refine pure_ (i := 10) (N := some 33) (v := ?_) (a' := ?_) (bb [2, 2, 1, 5, 1, 16]) rfl rfl (any_of HT_.out (by kernel_rfl)) (fun _ _ _ h => h) (Or.inl ⟨by rfl, ?_⟩) ?_ ?_
     rotate_left
     ·intro w'
      go_simp
      with_reducible rfl
     rotate_left
     ·simp only [Act.put, List.setIfInBounds_toArray, List.set_cons_zero, List.set_cons_succ, i64_w, i32_w]
      rfl
     refine pure_ (i := 16) (N := some 39) (v := ?_) (a' := ?_) (bb [2, 2, 1, 5, 1, 5, 1, 10]) rfl rfl (any_of HT_.out (by kernel_rfl)) (fun _ _ _ h => h) (Or.inl ⟨by rfl, ?_⟩) ?_ ?_
     rotate_left
     ·intro w'
      go_simp
      with_reducible rfl
     rotate_left
     ·simp only [Act.put, List.setIfInBounds_toArray, List.set_cons_zero, List.set_cons_succ, i64_w, i32_w]
      rfl
     refine take_ (i := 2) (N := some 25) (v := ?_) (a' := ?_) (bb [3, 1, 1, 5, 1, 5, 1, 10]) rfl rfl (take_ofW HT_.out HW_.out (by kernel_rfl)) (fun _ _ _ h => h) (Or.inl ⟨by rfl, ?_⟩) hHeld ?_ ?_
     rotate_left
     ·rintro w' ⟨s0, s1, s2, s3, s4, s5⟩
      go_simp
      with_reducible rfl
     rotate_left
     ·simp only [Act.put, List.setIfInBounds_toArray, List.set_cons_zero, List.set_cons_succ, i64_w, i32_w]
      rfl
     refine take_ (i := 5) (N := some 28) (v := ?_) (a' := ?_) (bb [3, 1, 2, 4, 1, 5, 1, 10]) rfl rfl (take_ofW HT_.out HW_.out (by kernel_rfl)) (fun _ _ _ h => h) (Or.inl ⟨by rfl, ?_⟩) hHeld ?_ ?_
     rotate_left
     ·rintro w' ⟨s0, s1, s2, s3, s4, s5⟩
      go_simp
      with_reducible rfl
     rotate_left
     ·simp only [Act.put, List.setIfInBounds_toArray, List.set_cons_zero, List.set_cons_succ, i64_w, i32_w]
      rfl
     refine pure_ (i := 6) (N := some 29) (v := ?_) (a' := ?_) (bb [3, 1, 3, 3, 1, 5, 1, 10]) rfl rfl (any_of HT_.out (by kernel_rfl)) (fun _ _ _ h => h) (Or.inl ⟨by rfl, ?_⟩) ?_ ?_
     rotate_left
     ·intro w'
      go_simp
      with_reducible rfl
     rotate_left
     ·simp only [Act.put, List.setIfInBounds_toArray, List.set_cons_zero, List.set_cons_succ, i64_w, i32_w]
      rfl
     refine take_ (i := 7) (N := some 30) (v := ?_) (a' := ?_) (bb [3, 1, 4, 2, 1, 5, 1, 10]) rfl rfl (take_ofW HT_.out HW_.out (by kernel_rfl)) (fun _ _ _ h => h) (Or.inl ⟨by rfl, ?_⟩) hHeld ?_ ?_
     rotate_left
     ·rintro w' ⟨s0, s1, s2, s3, s4, s5⟩
      go_simp
      with_reducible rfl
     rotate_left
     ·simp only [Act.put, List.setIfInBounds_toArray, List.set_cons_zero, List.set_cons_succ, i64_w, i32_w]
      rfl
     refine pure_ (i := 8) (N := some 31) (v := ?_) (a' := ?_) (bb [3, 1, 5, 1, 1, 5, 1, 10]) rfl rfl (any_of HT_.out (by kernel_rfl)) (fun _ _ _ h => h) (Or.inl ⟨by rfl, ?_⟩) ?_ ?_
     rotate_left
     ·intro w'
      go_simp
      with_reducible rfl
     rotate_left
     ·simp only [Act.put, List.setIfInBounds_toArray, List.set_cons_zero, List.set_cons_succ, i64_w, i32_w]
      rfl
     refine take_ (i := 11) (N := some 34) (v := ?_) (a' := ?_) (bb [3, 1, 5, 1, 2, 4, 1, 10]) rfl rfl (take_ofW HT_.out HW_.out (by kernel_rfl)) (fun _ _ _ h => h) (Or.inl ⟨by rfl, ?_⟩) hHeld ?_ ?_
     rotate_left
     ·rintro w' ⟨s0, s1, s2, s3, s4, s5⟩
      go_simp
      with_reducible rfl
     rotate_left
     ·simp only [Act.put, List.setIfInBounds_toArray, List.set_cons_zero, List.set_cons_succ, i64_w, i32_w]
      rfl
     refine pure_ (i := 12) (N := some 35) (v := ?_) (a' := ?_) (bb [3, 1, 5, 1, 3, 3, 1, 10]) rfl rfl (any_of HT_.out (by kernel_rfl)) (fun _ _ _ h => h) (Or.inl ⟨by rfl, ?_⟩) ?_ ?_
     rotate_left
     ·intro w'
      go_simp
      with_reducible rfl
     rotate_left
     ·simp only [Act.put, List.setIfInBounds_toArray, List.set_cons_zero, List.set_cons_succ, i64_w, i32_w]
      rfl
     refine take_ (i := 13) (N := some 36) (v := ?_) (a' := ?_) (bb [3, 1, 5, 1, 4, 2, 1, 10]) rfl rfl (take_ofW HT_.out HW_.out (by kernel_rfl)) (fun _ _ _ h => h) (Or.inl ⟨by rfl, ?_⟩) hHeld ?_ ?_
     rotate_left
     ·rintro w' ⟨s0, s1, s2, s3, s4, s5⟩
      go_simp
      with_reducible rfl
     rotate_left
     ·simp only [Act.put, List.setIfInBounds_toArray, List.set_cons_zero, List.set_cons_succ, i64_w, i32_w]
      rfl
     refine pure_ (i := 14) (N := some 37) (v := ?_) (a' := ?_) (bb [3, 1, 5, 1, 5, 1, 1, 10]) rfl rfl (any_of HT_.out (by kernel_rfl)) (fun _ _ _ h => h) (Or.inl ⟨by rfl, ?_⟩) ?_ ?_
     rotate_left
     ·intro w'
      go_simp
      with_reducible rfl
     rotate_left
     ·simp only [Act.put, List.setIfInBounds_toArray, List.set_cons_zero, List.set_cons_succ, i64_w, i32_w]
      rfl
     refine take_ (i := 17) (N := some 40) (v := ?_) (a' := ?_) (bb [3, 1, 5, 1, 5, 1, 2, 9]) rfl rfl (take_ofW HT_.out HW_.out (by kernel_rfl)) (fun _ _ _ h => h) (Or.inl ⟨by rfl, ?_⟩) hHeld ?_ ?_
     rotate_left
     ·rintro w' ⟨s0, s1, s2, s3, s4, s5⟩
      go_simp
      with_reducible rfl
     rotate_left
     ·simp only [Act.put, List.setIfInBounds_toArray, List.set_cons_zero, List.set_cons_succ, i64_w, i32_w]
      rfl
     refine pure_ (i := 18) (N := some 41) (v := ?_) (a' := ?_) (bb [3, 1, 5, 1, 5, 1, 3, 8]) rfl rfl (any_of HT_.out (by kernel_rfl)) (fun _ _ _ h => h) (Or.inl ⟨by rfl, ?_⟩) ?_ ?_
     rotate_left
     ·intro w'
      go_simp
      with_reducible rfl
     rotate_left
     ·simp only [Act.put, List.setIfInBounds_toArray, List.set_cons_zero, List.set_cons_succ, i64_w, i32_w]
      rfl
     refine take_ (i := 19) (N := some 42) (v := ?_) (a' := ?_) (bb [3, 1, 5, 1, 5, 1, 4, 7]) rfl rfl (take_ofW HT_.out HW_.out (by kernel_rfl)) (fun _ _ _ h => h) (Or.inl ⟨by rfl, ?_⟩) hHeld ?_ ?_
     rotate_left
     ·rintro w' ⟨s0, s1, s2, s3, s4, s5⟩
      go_simp
      with_reducible rfl
     rotate_left
     ·simp only [Act.put, List.setIfInBounds_toArray, List.set_cons_zero, List.set_cons_succ, i64_w, i32_w]
      rfl
     refine pure_ (i := 20) (N := some 43) (v := ?_) (a' := ?_) (bb [3, 1, 5, 1, 5, 1, 5, 6]) rfl rfl (any_of HT_.out (by kernel_rfl)) (fun _ _ _ h => h) (Or.inl ⟨by rfl, ?_⟩) ?_ ?_
     rotate_left
     ·intro w'
      go_simp
      with_reducible rfl
     rotate_left
     ·simp only [Act.put, List.setIfInBounds_toArray, List.set_cons_zero, List.set_cons_succ, i64_w, i32_w]
      rfl
     refine one_ (i := 3) (N := some 26) (bb [9, 1, 5, 1, 5, 6]) rfl rfl (one_of HT_.out (by kernel_rfl)) (by decide) (fun K hK => ?_)
     refine goes_ Tryz.func65 (by kernel_rfl) rfl #[.string (⟨#[83, 117, 98, 115, 121, 115, 78, 97, 109, 101]⟩ : ByteArray), .string ((rd_T31 l0 x19_1).f0)] (by rfl) rfl rfl (by (try simp only [List.map_toArray, List.map_cons, List.map_nil]); first | done | rfl | (simp only [List.length_drop, List.length_take]; rfl)) ?_
     with_reducible refine (spec_textNode.calls (⟨#[83, 117, 98, 115, 121, 115, 78, 97, 109, 101]⟩ : ByteArray) ((rd_T31 l0 x19_1).f0) t143 t144 t145 t146 t147 t148 t149 t150 _ A9.out).mono ?_
     rintro e w23 ⟨v151, rfl, ho0, hb⟩
     refine ⟨_, rfl, ?_⟩
     have n0_ := Aside0.mk (Kd.N_elder' (by (with_reducible repeat (first | apply Kd.N_alloc | apply Kd.N_drewN | apply Kd.N_drew)); exact HO_6.out) (by first | exact Kd.N_base ho0 | exact Kd.R_base ho0) hb)
     have n1_ := Aside0.mk (Kd.N_lower (Kd.N_mono (ok' := fun k_ => (w.heap.size ≤ k_) ∧ some k_ ≠ (u6 : Value).ownBlock ∧ k_ ≠ gb128 ∧ k_ ≠ gb142) (Kd.R_N (Kd.R_bound ho0)) (fun k_ hk_ => ⟨(Nat.le_trans (below_size (by repeat (first | (with_reducible first | exact HB.out | apply below_alloc | apply pw_below_drewN | apply below_drew1 | refine below_set ?_ GE128.out | refine below_set ?_ GE142.out) | exact HB.out))) hk_.2.1), (Kd.fresh' (Kd.N_lt (by (with_reducible repeat (first | apply Kd.N_alloc | apply Kd.N_drewN | apply Kd.N_drew)); exact HO_6.out)) k_ hk_.2.1), (Kd.freshB (g := gb128) (o := .cells #[.string (⟨#[]⟩ : ByteArray), .int .i64 0, .bool false, .int .i64 0, .int .u64 0, .float .f64 0, .string (⟨#[]⟩ : ByteArray), .slice none 0 0] 39 (0, 0)) (by (with_reducible repeat (first | refine blk_drewN ?_ _ | refine blk_drew ?_ | refine blk_alloc ?_ _)); exact BK128.out) k_ hk_.2.1), (Kd.freshB (g := gb142) (o := .cells #[.string ((rd_T31 l0 x19_1).f0), .slice (some ad153) ((rd_T31 l0 x19_1).f1).length c141_1, .slice A141_2 ((rd_T31 l0 x19_1).f2).length c141_2] 31 (0, 0)) (by (with_reducible repeat (first | refine blk_drewN ?_ _ | refine blk_drew ?_ | refine blk_alloc ?_ _)); exact BK142.out) k_ hk_.2.1)⟩)) (below_size (by repeat (first | (with_reducible first | exact HB.out | apply below_alloc | apply pw_below_drewN | apply below_drew1 | refine below_set ?_ GE128.out | refine below_set ?_ GE142.out) | exact HB.out))))
     have n2_ := Aside0.mk (blk_below (g := gb128) (o := .cells #[.string (⟨#[]⟩ : ByteArray), .int .i64 0, .bool false, .int .i64 0, .int .u64 0, .float .f64 0, .string (⟨#[]⟩ : ByteArray), .slice none 0 0] 39 (0, 0)) (by (with_reducible repeat (first | refine blk_drewN ?_ _ | refine blk_drew ?_ | refine blk_alloc ?_ _)); exact BK128.out) hb)
     have n3_ := Aside0.mk (blk_below (g := gb142) (o := .cells #[.string ((rd_T31 l0 x19_1).f0), .slice (some ad153) ((rd_T31 l0 x19_1).f1).length c141_1, .slice A141_2 ((rd_T31 l0 x19_1).f2).length c141_2] 31 (0, 0)) (by (with_reducible repeat (first | refine blk_drewN ?_ _ | refine blk_drew ?_ | refine blk_alloc ?_ _)); exact BK142.out) hb)
     have n4_ := Aside0.mk (below_step (by repeat (first | (with_reducible first | exact HB.out | apply below_alloc | apply pw_below_drewN | apply below_drew1 | refine below_set ?_ GE128.out | refine below_set ?_ GE142.out) | exact HB.out)) hb)
     clear HO_6
     clear BK128
     clear BK142
     clear HB
     have HO_6 := n0_
     have HO152 := n1_
     have BK128 := n2_
     have BK142 := n3_
     have HB := n4_
     clear n0_ n1_ n2_ n3_ n4_
     (try clear hb)
     (try clear hb2)
     (try clear hk)
     (try clear hi)
     (try clear ho0)
     refine hK.out _ _ ⟨(blk_cell BK142.out 0).trans rfl, (blk_cell BK142.out 1).trans rfl, (blk_cell BK142.out 2).trans rfl, ((HB.out.cell (World.block_lt_of_cell? w _ hw153_0)).trans hw153_0), ((HB.out.cell (World.block_lt_of_cell? w _ hw164_0)).trans hw164_0), ((HB.out.cell (World.block_lt_of_cell? w _ hw175_0)).trans hw175_0)⟩ (fun hHeld => ?_)
     clear hK K
     refine norm_ (a' := ?_) ?_ ?_
     rotate_left
     ·show Act.put _ (some 26) _ = _
      simp only [Act.put, List.setIfInBounds_toArray, List.set_cons_zero, List.set_cons_succ, i64_w, i32_w]
      rfl
     refine one_ (i := 9) (N := some 32) (bb [15, 1, 5, 6]) rfl rfl (one_of HT_.out (by kernel_rfl)) (by decide) (fun K hK => ?_)
     refine goes_ Tryz.func74 (by kernel_rfl) rfl #[.string (⟨#[72, 105, 101, 114, 97, 114, 99, 104, 121]⟩ : ByteArray), .int .i64 (wrap64 (rd ((rd_T31 l0 x19_1).f1) 0))] (by rfl) rfl rfl (by (try simp only [List.map_toArray, List.map_cons, List.map_nil]); first | done | rfl | (simp only [List.length_drop, List.length_take]; rfl)) ?_
     with_reducible refine (spec_intNode.calls (⟨#[72, 105, 101, 114, 97, 114, 99, 104, 121]⟩ : ByteArray) (wrap64 (rd ((rd_T31 l0 x19_1).f1) 0)) t154 t155 t156 t157 t158 t159 t160 t161 _ A11.out).mono ?_
     rintro e w24 ⟨v162, rfl, ho0, hb⟩
     refine ⟨_, rfl, ?_⟩
     have n0_ := Aside0.mk (Kd.N_elder' (by (with_reducible repeat (first | apply Kd.N_alloc | apply Kd.N_drewN | apply Kd.N_drew)); exact HO_6.out) (by first | exact Kd.N_base ho0 | exact Kd.R_base ho0) hb)
     have n1_ := Aside0.mk (Kd.N_elder' (by (with_reducible repeat (first | apply Kd.N_alloc | apply Kd.N_drewN | apply Kd.N_drew)); exact HO152.out) (by first | exact Kd.N_base ho0 | exact Kd.R_base ho0) hb)
     have n2_ := Aside0.mk (Kd.N_lower (Kd.N_mono (ok' := fun k_ => (w.heap.size ≤ k_) ∧ some k_ ≠ (u6 : Value).ownBlock ∧ some k_ ≠ (v151 : Value).ownBlock ∧ k_ ≠ gb128 ∧ k_ ≠ gb142) (Kd.R_N (Kd.R_bound ho0)) (fun k_ hk_ => ⟨(Nat.le_trans (below_size (by repeat (first | (with_reducible first | exact HB.out | apply below_alloc | apply pw_below_drewN | apply below_drew1 | refine below_set ?_ GE128.out | refine below_set ?_ GE142.out) | exact HB.out))) hk_.2.1), (Kd.fresh' (Kd.N_lt (by (with_reducible repeat (first | apply Kd.N_alloc | apply Kd.N_drewN | apply Kd.N_drew)); exact HO_6.out)) k_ hk_.2.1), (Kd.fresh' (Kd.N_lt (by (with_reducible repeat (first | apply Kd.N_alloc | apply Kd.N_drewN | apply Kd.N_drew)); exact HO152.out)) k_ hk_.2.1), (Kd.freshB (g := gb128) (o := .cells #[.string (⟨#[]⟩ : ByteArray), .int .i64 0, .bool false, .int .i64 0, .int .u64 0, .float .f64 0, .string (⟨#[]⟩ : ByteArray), .slice none 0 0] 39 (0, 0)) (by (with_reducible repeat (first | refine blk_drewN ?_ _ | refine blk_drew ?_ | refine blk_alloc ?_ _)); exact BK128.out) k_ hk_.2.1), (Kd.freshB (g := gb142) (o := .cells #[.string ((rd_T31 l0 x19_1).f0), .slice (some ad153) ((rd_T31 l0 x19_1).f1).length c141_1, .slice A141_2 ((rd_T31 l0 x19_1).f2).length c141_2] 31 (0, 0)) (by (with_reducible repeat (first | refine blk_drewN ?_ _ | refine blk_drew ?_ | refine blk_alloc ?_ _)); exact BK142.out) k_ hk_.2.1)⟩)) (below_size (by repeat (first | (with_reducible first | exact HB.out | apply below_alloc | apply pw_below_drewN | apply below_drew1 | refine below_set ?_ GE128.out | refine below_set ?_ GE142.out) | exact HB.out))))
     have n3_ := Aside0.mk (blk_below (g := gb128) (o := .cells #[.string (⟨#[]⟩ : ByteArray), .int .i64 0, .bool false, .int .i64 0, .int .u64 0, .float .f64 0, .string (⟨#[]⟩ : ByteArray), .slice none 0 0] 39 (0, 0)) (by (with_reducible repeat (first | refine blk_drewN ?_ _ | refine blk_drew ?_ | refine blk_alloc ?_ _)); exact BK128.out) hb)
     have n4_ := Aside0.mk (blk_below (g := gb142) (o := .cells #[.string ((rd_T31 l0 x19_1).f0), .slice (some ad153) ((rd_T31 l0 x19_1).f1).length c141_1, .slice A141_2 ((rd_T31 l0 x19_1).f2).length c141_2] 31 (0, 0)) (by (with_reducible repeat (first | refine blk_drewN ?_ _ | refine blk_drew ?_ | refine blk_alloc ?_ _)); exact BK142.out) hb)
     have n5_ := Aside0.mk (below_step (by repeat (first | (with_reducible first | exact HB.out | apply below_alloc | apply pw_below_drewN | apply below_drew1 | refine below_set ?_ GE128.out | refine below_set ?_ GE142.out) | exact HB.out)) hb)
     clear HO_6
     clear HO152
     clear BK128
     clear BK142
     clear HB
     have HO_6 := n0_
     have HO152 := n1_
     have HO163 := n2_
     have BK128 := n3_
     have BK142 := n4_
     have HB := n5_
     clear n0_ n1_ n2_ n3_ n4_ n5_
     (try clear hb)
     (try clear hb2)
     (try clear hk)
     (try clear hi)
     (try clear ho0)
     refine hK.out _ _ ⟨(blk_cell BK142.out 0).trans rfl, (blk_cell BK142.out 1).trans rfl, (blk_cell BK142.out 2).trans rfl, ((HB.out.cell (World.block_lt_of_cell? w _ hw153_0)).trans hw153_0), ((HB.out.cell (World.block_lt_of_cell? w _ hw164_0)).trans hw164_0), ((HB.out.cell (World.block_lt_of_cell? w _ hw175_0)).trans hw175_0)⟩ (fun hHeld => ?_)
     clear hK K
     refine norm_ (a' := ?_) ?_ ?_
     rotate_left
     ·show Act.put _ (some 32) _ = _
      simp only [Act.put, List.setIfInBounds_toArray, List.set_cons_zero, List.set_cons_succ, i64_w, i32_w]
      rfl
     refine one_ (i := 15) (N := some 38) (bb [21, 6]) rfl rfl (one_of HT_.out (by kernel_rfl)) (by decide) (fun K hK => ?_)
     refine goes_ Tryz.func74 (by kernel_rfl) rfl #[.string (⟨#[67, 103, 114, 111, 117, 112, 115]⟩ : ByteArray), .int .i64 (wrap64 (rd ((rd_T31 l0 x19_1).f1) 1))] (by rfl) rfl rfl (by (try simp only [List.map_toArray, List.map_cons, List.map_nil]); first | done | rfl | (simp only [List.length_drop, List.length_take]; rfl)) ?_
     with_reducible refine (spec_intNode.calls (⟨#[67, 103, 114, 111, 117, 112, 115]⟩ : ByteArray) (wrap64 (rd ((rd_T31 l0 x19_1).f1) 1)) t165 t166 t167 t168 t169 t170 t171 t172 _ A13.out).mono ?_
     rintro e w25 ⟨v173, rfl, ho0, hb⟩
     refine ⟨_, rfl, ?_⟩
     have n0_ := Aside0.mk (Kd.N_elder' (by (with_reducible repeat (first | apply Kd.N_alloc | apply Kd.N_drewN | apply Kd.N_drew)); exact HO_6.out) (by first | exact Kd.N_base ho0 | exact Kd.R_base ho0) hb)
     have n1_ := Aside0.mk (Kd.N_elder' (by (with_reducible repeat (first | apply Kd.N_alloc | apply Kd.N_drewN | apply Kd.N_drew)); exact HO152.out) (by first | exact Kd.N_base ho0 | exact Kd.R_base ho0) hb)
     have n2_ := Aside0.mk (Kd.N_elder' (by (with_reducible repeat (first | apply Kd.N_alloc | apply Kd.N_drewN | apply Kd.N_drew)); exact HO163.out) (by first | exact Kd.N_base ho0 | exact Kd.R_base ho0) hb)
     have n3_ := Aside0.mk (Kd.N_lower (Kd.N_mono (ok' := fun k_ => (w.heap.size ≤ k_) ∧ some k_ ≠ (u6 : Value).ownBlock ∧ some k_ ≠ (v151 : Value).ownBlock ∧ some k_ ≠ (v162 : Value).ownBlock ∧ k_ ≠ gb128 ∧ k_ ≠ gb142) (Kd.R_N (Kd.R_bound ho0)) (fun k_ hk_ => ⟨(Nat.le_trans (below_size (by repeat (first | (with_reducible first | exact HB.out | apply below_alloc | apply pw_below_drewN | apply below_drew1 | refine below_set ?_ GE128.out | refine below_set ?_ GE142.out) | exact HB.out))) hk_.2.1), (Kd.fresh' (Kd.N_lt (by (with_reducible repeat (first | apply Kd.N_alloc | apply Kd.N_drewN | apply Kd.N_drew)); exact HO_6.out)) k_ hk_.2.1), (Kd.fresh' (Kd.N_lt (by (with_reducible repeat (first | apply Kd.N_alloc | apply Kd.N_drewN | apply Kd.N_drew)); exact HO152.out)) k_ hk_.2.1), (Kd.fresh' (Kd.N_lt (by (with_reducible repeat (first | apply Kd.N_alloc | apply Kd.N_drewN | apply Kd.N_drew)); exact HO163.out)) k_ hk_.2.1), (Kd.freshB (g := gb128) (o := .cells #[.string (⟨#[]⟩ : ByteArray), .int .i64 0, .bool false, .int .i64 0, .int .u64 0, .float .f64 0, .string (⟨#[]⟩ : ByteArray), .slice none 0 0] 39 (0, 0)) (by (with_reducible repeat (first | refine blk_drewN ?_ _ | refine blk_drew ?_ | refine blk_alloc ?_ _)); exact BK128.out) k_ hk_.2.1), (Kd.freshB (g := gb142) (o := .cells #[.string ((rd_T31 l0 x19_1).f0), .slice (some ad153) ((rd_T31 l0 x19_1).f1).length c141_1, .slice A141_2 ((rd_T31 l0 x19_1).f2).length c141_2] 31 (0, 0)) (by (with_reducible repeat (first | refine blk_drewN ?_ _ | refine blk_drew ?_ | refine blk_alloc ?_ _)); exact BK142.out) k_ hk_.2.1)⟩)) (below_size (by repeat (first | (with_reducible first | exact HB.out | apply below_alloc | apply pw_below_drewN | apply below_drew1 | refine below_set ?_ GE128.out | refine below_set ?_ GE142.out) | exact HB.out))))
     have n4_ := Aside0.mk (blk_below (g := gb128) (o := .cells #[.string (⟨#[]⟩ : ByteArray), .int .i64 0, .bool false, .int .i64 0, .int .u64 0, .float .f64 0, .string (⟨#[]⟩ : ByteArray), .slice none 0 0] 39 (0, 0)) (by (with_reducible repeat (first | refine blk_drewN ?_ _ | refine blk_drew ?_ | refine blk_alloc ?_ _)); exact BK128.out) hb)
     have n5_ := Aside0.mk (blk_below (g := gb142) (o := .cells #[.string ((rd_T31 l0 x19_1).f0), .slice (some ad153) ((rd_T31 l0 x19_1).f1).length c141_1, .slice A141_2 ((rd_T31 l0 x19_1).f2).length c141_2] 31 (0, 0)) (by (with_reducible repeat (first | refine blk_drewN ?_ _ | refine blk_drew ?_ | refine blk_alloc ?_ _)); exact BK142.out) hb)
     have n6_ := Aside0.mk (below_step (by repeat (first | (with_reducible first | exact HB.out | apply below_alloc | apply pw_below_drewN | apply below_drew1 | refine below_set ?_ GE128.out | refine below_set ?_ GE142.out) | exact HB.out)) hb)
     clear HO_6
     clear HO152
     clear HO163
     clear BK128
     clear BK142
     clear HB
     have HO_6 := n0_
     have HO152 := n1_
     have HO163 := n2_
     have HO174 := n3_
     have BK128 := n4_
     have BK142 := n5_
     have HB := n6_
     clear n0_ n1_ n2_ n3_ n4_ n5_ n6_
     (try clear hb)
     (try clear hb2)
     (try clear hk)
     (try clear hi)
     (try clear ho0)
     refine hK.out _ _ ⟨(blk_cell BK142.out 0).trans rfl, (blk_cell BK142.out 1).trans rfl, (blk_cell BK142.out 2).trans rfl, ((HB.out.cell (World.block_lt_of_cell? w _ hw153_0)).trans hw153_0), ((HB.out.cell (World.block_lt_of_cell? w _ hw164_0)).trans hw164_0), ((HB.out.cell (World.block_lt_of_cell? w _ hw175_0)).trans hw175_0)⟩ (fun hHeld => ?_)
     clear hK K
     refine norm_ (a' := ?_) ?_ ?_
     rotate_left
     ·show Act.put _ (some 38) _ = _
      simp only [Act.put, List.setIfInBounds_toArray, List.set_cons_zero, List.set_cons_succ, i64_w, i32_w]
      rfl
     refine one_ (i := 21) (N := some 44) (bb [22, 5]) rfl rfl (one_of HT_.out (by kernel_rfl)) (by decide) (fun K hK => ?_)
     refine goes_ Tryz.func74 (by kernel_rfl) rfl #[.string (⟨#[69, 110, 97, 98, 108, 101, 100]⟩ : ByteArray), .int .i64 (wrap64 (rd ((rd_T31 l0 x19_1).f1) 2))] (by rfl) rfl rfl (by (try simp only [List.map_toArray, List.map_cons, List.map_nil]); first | done | rfl | (simp only [List.length_drop, List.length_take]; rfl)) ?_
     with_reducible refine (spec_intNode.calls (⟨#[69, 110, 97, 98, 108, 101, 100]⟩ : ByteArray) (wrap64 (rd ((rd_T31 l0 x19_1).f1) 2)) t176 t177 t178 t179 t180 t181 t182 t183 _ A15.out).mono ?_
     rintro e w26 ⟨v184, rfl, ho0, hb⟩
     refine ⟨_, rfl, ?_⟩
     have n0_ := Aside0.mk (Kd.N_elder' (by (with_reducible repeat (first | apply Kd.N_alloc | apply Kd.N_drewN | apply Kd.N_drew)); exact HO_6.out) (by first | exact Kd.N_base ho0 | exact Kd.R_base ho0) hb)
     have n1_ := Aside0.mk (Kd.N_elder' (by (with_reducible repeat (first | apply Kd.N_alloc | apply Kd.N_drewN | apply Kd.N_drew)); exact HO152.out) (by first | exact Kd.N_base ho0 | exact Kd.R_base ho0) hb)
     have n2_ := Aside0.mk (Kd.N_elder' (by (with_reducible repeat (first | apply Kd.N_alloc | apply Kd.N_drewN | apply Kd.N_drew)); exact HO163.out) (by first | exact Kd.N_base ho0 | exact Kd.R_base ho0) hb)
     have n3_ := Aside0.mk (Kd.N_elder' (by (with_reducible repeat (first | apply Kd.N_alloc | apply Kd.N_drewN | apply Kd.N_drew)); exact HO174.out) (by first | exact Kd.N_base ho0 | exact Kd.R_base ho0) hb)
     have n4_ := Aside0.mk (Kd.N_lower (Kd.N_mono (ok' := fun k_ => (w.heap.size ≤ k_) ∧ some k_ ≠ (u6 : Value).ownBlock ∧ some k_ ≠ (v151 : Value).ownBlock ∧ some k_ ≠ (v162 : Value).ownBlock ∧ some k_ ≠ (v173 : Value).ownBlock ∧ k_ ≠ gb128 ∧ k_ ≠ gb142) (Kd.R_N (Kd.R_bound ho0)) (fun k_ hk_ => ⟨(Nat.le_trans (below_size (by repeat (first | (with_reducible first | exact HB.out | apply below_alloc | apply pw_below_drewN | apply below_drew1 | refine below_set ?_ GE128.out | refine below_set ?_ GE142.out) | exact HB.out))) hk_.2.1), (Kd.fresh' (Kd.N_lt (by (with_reducible repeat (first | apply Kd.N_alloc | apply Kd.N_drewN | apply Kd.N_drew)); exact HO_6.out)) k_ hk_.2.1), (Kd.fresh' (Kd.N_lt (by (with_reducible repeat (first | apply Kd.N_alloc | apply Kd.N_drewN | apply Kd.N_drew)); exact HO152.out)) k_ hk_.2.1), (Kd.fresh' (Kd.N_lt (by (with_reducible repeat (first | apply Kd.N_alloc | apply Kd.N_drewN | apply Kd.N_drew)); exact HO163.out)) k_ hk_.2.1), (Kd.fresh' (Kd.N_lt (by (with_reducible repeat (first | apply Kd.N_alloc | apply Kd.N_drewN | apply Kd.N_drew)); exact HO174.out)) k_ hk_.2.1), (Kd.freshB (g := gb128) (o := .cells #[.string (⟨#[]⟩ : ByteArray), .int .i64 0, .bool false, .int .i64 0, .int .u64 0, .float .f64 0, .string (⟨#[]⟩ : ByteArray), .slice none 0 0] 39 (0, 0)) (by (with_reducible repeat (first | refine blk_drewN ?_ _ | refine blk_drew ?_ | refine blk_alloc ?_ _)); exact BK128.out) k_ hk_.2.1), (Kd.freshB (g := gb142) (o := .cells #[.string ((rd_T31 l0 x19_1).f0), .slice (some ad153) ((rd_T31 l0 x19_1).f1).length c141_1, .slice A141_2 ((rd_T31 l0 x19_1).f2).length c141_2] 31 (0, 0)) (by (with_reducible repeat (first | refine blk_drewN ?_ _ | refine blk_drew ?_ | refine blk_alloc ?_ _)); exact BK142.out) k_ hk_.2.1)⟩)) (below_size (by repeat (first | (with_reducible first | exact HB.out | apply below_alloc | apply pw_below_drewN | apply below_drew1 | refine below_set ?_ GE128.out | refine below_set ?_ GE142.out) | exact HB.out))))
     have n5_ := Aside0.mk (blk_below (g := gb128) (o := .cells #[.string (⟨#[]⟩ : ByteArray), .int .i64 0, .bool false, .int .i64 0, .int .u64 0, .float .f64 0, .string (⟨#[]⟩ : ByteArray), .slice none 0 0] 39 (0, 0)) (by (with_reducible repeat (first | refine blk_drewN ?_ _ | refine blk_drew ?_ | refine blk_alloc ?_ _)); exact BK128.out) hb)
     have n6_ := Aside0.mk (blk_below (g := gb142) (o := .cells #[.string ((rd_T31 l0 x19_1).f0), .slice (some ad153) ((rd_T31 l0 x19_1).f1).length c141_1, .slice A141_2 ((rd_T31 l0 x19_1).f2).length c141_2] 31 (0, 0)) (by (with_reducible repeat (first | refine blk_drewN ?_ _ | refine blk_drew ?_ | refine blk_alloc ?_ _)); exact BK142.out) hb)
     have n7_ := Aside0.mk (below_step (by repeat (first | (with_reducible first | exact HB.out | apply below_alloc | apply pw_below_drewN | apply below_drew1 | refine below_set ?_ GE128.out | refine below_set ?_ GE142.out) | exact HB.out)) hb)
     clear HO_6
     clear HO152
     clear HO163
     clear HO174
     clear BK128
     clear BK142
     clear HB
     have HO_6 := n0_
     have HO152 := n1_
     have HO163 := n2_
     have HO174 := n3_
     have HO185 := n4_
     have BK128 := n5_
     have BK142 := n6_
     have HB := n7_
     clear n0_ n1_ n2_ n3_ n4_ n5_ n6_ n7_
     (try clear hb)
     (try clear hb2)
     (try clear hk)
     (try clear hi)
     (try clear ho0)
     obtain ⟨Ao27, co27, eo27⟩ := Kd.N_slice HO152.out
     (first | subst eo27 | (injection eo27 with f1_ f2_ f3_; have f4_ := f1_.symm; have f5_ := f3_.symm; clear f1_ f2_ f3_; subst f4_; subst f5_))
     obtain ⟨Ao28, co28, eo28⟩ := Kd.N_slice HO163.out
     (first | subst eo28 | (injection eo28 with f1_ f2_ f3_; have f4_ := f1_.symm; have f5_ := f3_.symm; clear f1_ f2_ f3_; subst f4_; subst f5_))
     obtain ⟨Ao29, co29, eo29⟩ := Kd.N_slice HO174.out
     (first | subst eo29 | (injection eo29 with f1_ f2_ f3_; have f4_ := f1_.symm; have f5_ := f3_.symm; clear f1_ f2_ f3_; subst f4_; subst f5_))
     obtain ⟨Ao30, co30, eo30⟩ := Kd.N_slice HO185.out
     (first | subst eo30 | (injection eo30 with f1_ f2_ f3_; have f4_ := f1_.symm; have f5_ := f3_.symm; clear f1_ f2_ f3_; subst f4_; subst f5_))
     refine hK.out _ _ ⟨(blk_cell BK142.out 0).trans rfl, (blk_cell BK142.out 1).trans rfl, (blk_cell BK142.out 2).trans rfl, ((HB.out.cell (World.block_lt_of_cell? w _ hw153_0)).trans hw153_0), ((HB.out.cell (World.block_lt_of_cell? w _ hw164_0)).trans hw164_0), ((HB.out.cell (World.block_lt_of_cell? w _ hw175_0)).trans hw175_0)⟩ (fun hHeld => ?_)
     clear hK K
     refine norm_ (a' := ?_) ?_ ?_
     rotate_left
     ·show Act.put _ (some 44) _ = _
      simp only [Act.put, List.setIfInBounds_toArray, List.set_cons_zero, List.set_cons_succ, i64_w, i32_w]
      rfl
     refine one_ (i := 22) (N := some 45) (bb [23, 4]) rfl rfl (one_of HT_.out (by kernel_rfl)) (by decide) (fun K hK => ?_)
     refine Kd.N_lit_step k39 _ 39 ?hg (N' := 45) ?hd (xs := ([(⟨t143, t144, t145, t146, t147, t148, t149, t150⟩ : S39), (⟨t154, t155, t156, t157, t158, t159, t160, t161⟩ : S39), (⟨t165, t166, t167, t168, t169, t170, t171, t172⟩ : S39), (⟨t176, t177, t178, t179, t180, t181, t182, t183⟩ : S39)] : List (S39))) (inner := [.string t143, .int .i64 t144, .bool t145, .int .i64 t146, .int .u64 t147, .float .f64 t148, .string t149, .slice Ao27 t150.length co27, .string t154, .int .i64 t155, .bool t156, .int .i64 t157, .int .u64 t158, .float .f64 t159, .string t160, .slice Ao28 t161.length co28, .string t165, .int .i64 t166, .bool t167, .int .i64 t168, .int .u64 t169, .float .f64 t170, .string t171, .slice Ao29 t172.length co29, .string t176, .int .i64 t177, .bool t178, .int .i64 t179, .int .u64 t180, .float .f64 t181, .string t182, .slice Ao30 t183.length co30]) (ok := (fun k_ => (w.heap.size ≤ k_) ∧ some k_ ≠ (u6 : Value).ownBlock ∧ k_ ≠ gb128 ∧ k_ ≠ gb142)) (okp := (fun k_ => (w.heap.size ≤ k_) ∧ some k_ ≠ (u6 : Value).ownBlock ∧ k_ ≠ gb128 ∧ k_ ≠ gb142)) ?hr ?hp (fun _ hk => hk) ((show ∀ k_, w26.heap.size ≤ k_ → (fun k_ => (w.heap.size ≤ k_) ∧ some k_ ≠ (u6 : Value).ownBlock ∧ k_ ≠ gb128 ∧ k_ ≠ gb142) k_ from fun k_ hk => ⟨(Nat.le_trans (below_size (by repeat (first | (with_reducible first | exact HB.out | apply below_alloc | apply pw_below_drewN | apply below_drew1 | refine below_set ?_ GE128.out | refine below_set ?_ GE142.out) | exact HB.out))) hk), Kd.fresh' (Kd.N_lt (by (with_reducible repeat (first | apply Kd.N_alloc | apply Kd.N_drewN | apply Kd.N_drew)); exact HO_6.out)) k_ hk, Kd.freshB (g := gb128) (o := .cells #[.string (⟨#[]⟩ : ByteArray), .int .i64 0, .bool false, .int .i64 0, .int .u64 0, .float .f64 0, .string (⟨#[]⟩ : ByteArray), .slice none 0 0] 39 (0, 0)) (by (with_reducible repeat (first | refine blk_drewN ?_ _ | refine blk_drew ?_ | refine blk_alloc ?_ _)); exact BK128.out) k_ hk, Kd.freshB (g := gb142) (o := .cells #[.string ((rd_T31 l0 x19_1).f0), .slice (some ad153) ((rd_T31 l0 x19_1).f1).length c141_1, .slice A141_2 ((rd_T31 l0 x19_1).f2).length c141_2] 31 (0, 0)) (by (with_reducible repeat (first | refine blk_drewN ?_ _ | refine blk_drew ?_ | refine blk_alloc ?_ _)); exact BK142.out) k_ hk⟩) _ (Nat.le_refl _)) (Below.refl _ _) (Nat.le_refl _) (by simp) ?_; (case hd => rfl); (case hg => rfl); (case hr => first | (go_simp; done) | (go_simp; rfl)); (case hp => exact (Reps.c8 (show Kd.FK k39 _ _ (⟨t143, t144, t145, t146, t147, t148, t149, t150⟩ : S39) [.string t143, .int .i64 t144, .bool t145, .int .i64 t146, .int .u64 t147, .float .f64 t148, .string t149, .slice Ao27 t150.length co27] from (k39_mkF _ _ (⟨t143, t144, t145, t146, t147, t148, t149, t150⟩ : S39) (Kd.N_reads' (Kd.N_mono (ok' := (fun k_ => (w.heap.size ≤ k_) ∧ some k_ ≠ (u6 : Value).ownBlock ∧ k_ ≠ gb128 ∧ k_ ≠ gb142)) (HO152.out) (fun k_ hk => ⟨hk.1.1.1.1, ⟨hk.1.1.1.2.1, ⟨hk.1.1.1.2.2.1, hk.1.1.1.2.2.2⟩⟩⟩))).2.1 (Kd.N_F (Kd.N_mono (ok' := (fun k_ => (w.heap.size ≤ k_) ∧ some k_ ≠ (u6 : Value).ownBlock ∧ k_ ≠ gb128 ∧ k_ ≠ gb142)) (HO152.out) (fun k_ hk => ⟨hk.1.1.1.1, ⟨hk.1.1.1.2.1, ⟨hk.1.1.1.2.2.1, hk.1.1.1.2.2.2⟩⟩⟩))))) (Reps.c8 (show Kd.FK k39 _ _ (⟨t154, t155, t156, t157, t158, t159, t160, t161⟩ : S39) [.string t154, .int .i64 t155, .bool t156, .int .i64 t157, .int .u64 t158, .float .f64 t159, .string t160, .slice Ao28 t161.length co28] from (k39_mkF _ _ (⟨t154, t155, t156, t157, t158, t159, t160, t161⟩ : S39) (Kd.N_reads' (Kd.N_mono (ok' := (fun k_ => (w.heap.size ≤ k_) ∧ some k_ ≠ (u6 : Value).ownBlock ∧ k_ ≠ gb128 ∧ k_ ≠ gb142)) (HO163.out) (fun k_ hk => ⟨hk.1.1.1, ⟨hk.1.1.2.1, ⟨hk.1.1.2.2.2.1, hk.1.1.2.2.2.2⟩⟩⟩))).2.1 (Kd.N_F (Kd.N_mono (ok' := (fun k_ => (w.heap.size ≤ k_) ∧ some k_ ≠ (u6 : Value).ownBlock ∧ k_ ≠ gb128 ∧ k_ ≠ gb142)) (HO163.out) (fun k_ hk => ⟨hk.1.1.1, ⟨hk.1.1.2.1, ⟨hk.1.1.2.2.2.1, hk.1.1.2.2.2.2⟩⟩⟩))))) (Reps.c8 (show Kd.FK k39 _ _ (⟨t165, t166, t167, t168, t169, t170, t171, t172⟩ : S39) [.string t165, .int .i64 t166, .bool t167, .int .i64 t168, .int .u64 t169, .float .f64 t170, .string t171, .slice Ao29 t172.length co29] from (k39_mkF _ _ (⟨t165, t166, t167, t168, t169, t170, t171, t172⟩ : S39) (Kd.N_reads' (Kd.N_mono (ok' := (fun k_ => (w.heap.size ≤ k_) ∧ some k_ ≠ (u6 : Value).ownBlock ∧ k_ ≠ gb128 ∧ k_ ≠ gb142)) (HO174.out) (fun k_ hk => ⟨hk.1.1, ⟨hk.1.2.1, ⟨hk.1.2.2.2.2.1, hk.1.2.2.2.2.2⟩⟩⟩))).2.1 (Kd.N_F (Kd.N_mono (ok' := (fun k_ => (w.heap.size ≤ k_) ∧ some k_ ≠ (u6 : Value).ownBlock ∧ k_ ≠ gb128 ∧ k_ ≠ gb142)) (HO174.out) (fun k_ hk => ⟨hk.1.1, ⟨hk.1.2.1, ⟨hk.1.2.2.2.2.1, hk.1.2.2.2.2.2⟩⟩⟩))))) (Reps.c8 (show Kd.FK k39 _ _ (⟨t176, t177, t178, t179, t180, t181, t182, t183⟩ : S39) [.string t176, .int .i64 t177, .bool t178, .int .i64 t179, .int .u64 t180, .float .f64 t181, .string t182, .slice Ao30 t183.length co30] from (k39_mkF _ _ (⟨t176, t177, t178, t179, t180, t181, t182, t183⟩ : S39) (Kd.N_reads' (Kd.N_mono (ok' := (fun k_ => (w.heap.size ≤ k_) ∧ some k_ ≠ (u6 : Value).ownBlock ∧ k_ ≠ gb128 ∧ k_ ≠ gb142)) (HO185.out) (fun k_ hk => ⟨hk.1, ⟨hk.2.1, ⟨hk.2.2.2.2.2.1, hk.2.2.2.2.2.2⟩⟩⟩))).2.1 (Kd.N_F (Kd.N_mono (ok' := (fun k_ => (w.heap.size ≤ k_) ∧ some k_ ≠ (u6 : Value).ownBlock ∧ k_ ≠ gb128 ∧ k_ ≠ gb142)) (HO185.out) (fun k_ hk => ⟨hk.1, ⟨hk.2.1, ⟨hk.2.2.2.2.2.1, hk.2.2.2.2.2.2⟩⟩⟩))))) (Reps.none _ _))))))
     intro v187 w31 ho32 hb hg_ hnew_
     clear hg_ hnew_
     (first | rw [← Ny186.out] at ho32 | (simp only [Int.reduceToNat] at ho32; rw [← Ny186.out] at ho32))
     have n0_ := Aside0.mk (Kd.N_elder' (by (with_reducible repeat (first | apply Kd.N_alloc | apply Kd.N_drewN | apply Kd.N_drew)); exact HO_6.out) (by first | exact Kd.N_base ho32 | exact Kd.R_base ho32) hb)
     have n1_ := Aside0.mk (Kd.N_lower ho32 (below_size (by repeat (first | (with_reducible first | exact HB.out | apply below_alloc | apply pw_below_drewN | apply below_drew1 | refine below_set ?_ GE128.out | refine below_set ?_ GE142.out) | exact HB.out))))
     have n2_ := Aside0.mk (blk_below (g := gb128) (o := .cells #[.string (⟨#[]⟩ : ByteArray), .int .i64 0, .bool false, .int .i64 0, .int .u64 0, .float .f64 0, .string (⟨#[]⟩ : ByteArray), .slice none 0 0] 39 (0, 0)) (by (with_reducible repeat (first | refine blk_drewN ?_ _ | refine blk_drew ?_ | refine blk_alloc ?_ _)); exact BK128.out) hb)
     have n3_ := Aside0.mk (blk_below (g := gb142) (o := .cells #[.string ((rd_T31 l0 x19_1).f0), .slice (some ad153) ((rd_T31 l0 x19_1).f1).length c141_1, .slice A141_2 ((rd_T31 l0 x19_1).f2).length c141_2] 31 (0, 0)) (by (with_reducible repeat (first | refine blk_drewN ?_ _ | refine blk_drew ?_ | refine blk_alloc ?_ _)); exact BK142.out) hb)
     have n4_ := Aside0.mk (below_step (by repeat (first | (with_reducible first | exact HB.out | apply below_alloc | apply pw_below_drewN | apply below_drew1 | refine below_set ?_ GE128.out | refine below_set ?_ GE142.out) | exact HB.out)) hb)
     clear HO_6
     clear BK128
     clear BK142
     clear HB
     clear HO152
     clear HO163
     clear HO174
     clear HO185
     have HO_6 := n0_
     have HO188 := n1_
     have BK128 := n2_
     have BK142 := n3_
     have HB := n4_
     clear n0_ n1_ n2_ n3_ n4_
     clear hb ho32
     obtain ⟨Ao33, co33, eo33⟩ := Kd.N_slice HO188.out
     (first | subst eo33 | (injection eo33 with f1_ f2_ f3_; have f4_ := f1_.symm; have f5_ := f3_.symm; clear f1_ f2_ f3_; subst f4_; subst f5_))
     refine hK.out _ _ ⟨(blk_cell BK142.out 0).trans rfl, (blk_cell BK142.out 1).trans rfl, (blk_cell BK142.out 2).trans rfl, ((HB.out.cell (World.block_lt_of_cell? w _ hw153_0)).trans hw153_0), ((HB.out.cell (World.block_lt_of_cell? w _ hw164_0)).trans hw164_0), ((HB.out.cell (World.block_lt_of_cell? w _ hw175_0)).trans hw175_0)⟩ (fun hHeld => ?_)
     clear hK K
     refine norm_ (a' := ?_) ?_ ?_
     rotate_left
     ·show Act.put _ (some 45) _ = _
      simp only [Act.put, List.setIfInBounds_toArray, List.set_cons_zero, List.set_cons_succ, i64_w, i32_w]
      rfl
     refine one_ (i := 23) (N := some 46) (bb [24, 3]) rfl rfl (one_of HT_.out (by kernel_rfl)) (by decide) (fun K hK => ?_)
     refine goes_ Tryz.func53 (by kernel_rfl) rfl #[.string (⟨#[]⟩ : ByteArray), .slice Ao33 y186.length co33] (by rfl) rfl rfl (by (try simp only [List.map_toArray, List.map_cons, List.map_nil]); first | done | rfl | (simp only [List.length_drop, List.length_take]; rfl)) ?_
     with_reducible refine (spec_recordNode.calls (⟨#[]⟩ : ByteArray) (fun k_ => ((w.heap.size ≤ k_) ∧ (some k_ ≠ (u6 : Value).ownBlock ∧ (k_ ≠ gb128 ∧ k_ ≠ gb142)))) _ _ y186 t189 t190 t191 t192 t193 t194 t195 t196 _ ?side1 A16.out).mono ?_
     (case side1 => exact Kd.N_V (HO188.out))
     rintro e w34 ⟨v197, rfl, ho0, hb⟩
     refine ⟨_, rfl, ?_⟩
     have n0_ := Aside0.mk (Kd.N_below (by (with_reducible repeat (first | apply Kd.N_alloc | apply Kd.N_drewN | apply Kd.N_drew)); exact HO_6.out) hb)
     have n1_ := Aside0.mk (Kd.N_below (by (with_reducible repeat (first | apply Kd.N_alloc | apply Kd.N_drewN | apply Kd.N_drew)); exact HO188.out) hb)
     have n2_ := Aside0.mk (Kd.V_lower (Kd.V_mono (ok' := fun k_ => (w.heap.size ≤ k_) ∧ some k_ ≠ (u6 : Value).ownBlock ∧ k_ ≠ gb128 ∧ k_ ≠ gb142) ho0 (fun k_ hk_ => ⟨Or.elim hk_ (fun hs_ => hs_.1) (fun hn_ => (Nat.le_trans (below_size (by repeat (first | (with_reducible first | exact HB.out | apply below_alloc | apply pw_below_drewN | apply below_drew1 | refine below_set ?_ GE128.out | refine below_set ?_ GE142.out) | exact HB.out))) hn_)), Or.elim hk_ (fun hs_ => hs_.2.1) (fun hn_ => (Kd.fresh' (Kd.N_lt (by (with_reducible repeat (first | apply Kd.N_alloc | apply Kd.N_drewN | apply Kd.N_drew)); exact HO_6.out)) k_ hn_)), Or.elim hk_ (fun hs_ => hs_.2.2.1) (fun hn_ => (Kd.freshB (g := gb128) (o := .cells #[.string (⟨#[]⟩ : ByteArray), .int .i64 0, .bool false, .int .i64 0, .int .u64 0, .float .f64 0, .string (⟨#[]⟩ : ByteArray), .slice none 0 0] 39 (0, 0)) (by (with_reducible repeat (first | refine blk_drewN ?_ _ | refine blk_drew ?_ | refine blk_alloc ?_ _)); exact BK128.out) k_ hn_)), Or.elim hk_ (fun hs_ => hs_.2.2.2) (fun hn_ => (Kd.freshB (g := gb142) (o := .cells #[.string ((rd_T31 l0 x19_1).f0), .slice (some ad153) ((rd_T31 l0 x19_1).f1).length c141_1, .slice A141_2 ((rd_T31 l0 x19_1).f2).length c141_2] 31 (0, 0)) (by (with_reducible repeat (first | refine blk_drewN ?_ _ | refine blk_drew ?_ | refine blk_alloc ?_ _)); exact BK142.out) k_ hn_))⟩)) (below_size (by repeat (first | (with_reducible first | exact HB.out | apply below_alloc | apply pw_below_drewN | apply below_drew1 | refine below_set ?_ GE128.out | refine below_set ?_ GE142.out) | exact HB.out))))
     have n3_ := Aside0.mk (blk_below (g := gb128) (o := .cells #[.string (⟨#[]⟩ : ByteArray), .int .i64 0, .bool false, .int .i64 0, .int .u64 0, .float .f64 0, .string (⟨#[]⟩ : ByteArray), .slice none 0 0] 39 (0, 0)) (by (with_reducible repeat (first | refine blk_drewN ?_ _ | refine blk_drew ?_ | refine blk_alloc ?_ _)); exact BK128.out) hb)
     have n4_ := Aside0.mk (blk_below (g := gb142) (o := .cells #[.string ((rd_T31 l0 x19_1).f0), .slice (some ad153) ((rd_T31 l0 x19_1).f1).length c141_1, .slice A141_2 ((rd_T31 l0 x19_1).f2).length c141_2] 31 (0, 0)) (by (with_reducible repeat (first | refine blk_drewN ?_ _ | refine blk_drew ?_ | refine blk_alloc ?_ _)); exact BK142.out) hb)
     have n5_ := Aside0.mk (below_step (by repeat (first | (with_reducible first | exact HB.out | apply below_alloc | apply pw_below_drewN | apply below_drew1 | refine below_set ?_ GE128.out | refine below_set ?_ GE142.out) | exact HB.out)) hb)
     clear HO_6
     clear HO188
     clear BK128
     clear BK142
     clear HB
     have HO_6 := n0_
     have HO188 := n1_
     have HO198 := n2_
     have BK128 := n3_
     have BK142 := n4_
     have HB := n5_
     clear n0_ n1_ n2_ n3_ n4_ n5_
     (try clear hb)
     (try clear hb2)
     (try clear hk)
     (try clear hi)
     (try clear ho0)
     obtain ⟨Ao36, co36, eo36⟩ := Kd.V_slice HO198.out
     (first | subst eo36 | (injection eo36 with f1_ f2_ f3_; have f4_ := f1_.symm; have f5_ := f3_.symm; clear f1_ f2_ f3_; subst f4_; subst f5_))
     refine hK.out _ _ ⟨(blk_cell BK142.out 0).trans rfl, (blk_cell BK142.out 1).trans rfl, (blk_cell BK142.out 2).trans rfl, ((HB.out.cell (World.block_lt_of_cell? w _ hw153_0)).trans hw153_0), ((HB.out.cell (World.block_lt_of_cell? w _ hw164_0)).trans hw164_0), ((HB.out.cell (World.block_lt_of_cell? w _ hw175_0)).trans hw175_0)⟩ (fun hHeld => ?_)
     clear hK K
     refine norm_ (a' := ?_) ?_ ?_
     rotate_left
     ·show Act.put _ (some 46) _ = _
      simp only [Act.put, List.setIfInBounds_toArray, List.set_cons_zero, List.set_cons_succ, i64_w, i32_w]
      rfl
     refine one_ (i := 24) (N := some 47) (bb [25, 2]) rfl rfl (one_of HT_.out (by kernel_rfl)) (by decide) (fun K hK => ?_)
     refine value_ (w1 := ?_) (v := ?_) (by rfl) rfl ?_ ?_
     rotate_left 2
     ·go_simp
      constructor
      ·rfl
      ·rfl
     refine hK.out _ _ ⟨(blk_cell (blk_alloc BK142.out _) 0).trans rfl, (blk_cell (blk_alloc BK142.out _) 1).trans rfl, (blk_cell (blk_alloc BK142.out _) 2).trans rfl, (World.cell?_alloc_lt _ _ _ (World.block_lt_of_cell? _ _ (((HB.out.cell (World.block_lt_of_cell? w _ hw153_0)).trans hw153_0)))).trans (((HB.out.cell (World.block_lt_of_cell? w _ hw153_0)).trans hw153_0)), (World.cell?_alloc_lt _ _ _ (World.block_lt_of_cell? _ _ (((HB.out.cell (World.block_lt_of_cell? w _ hw164_0)).trans hw164_0)))).trans (((HB.out.cell (World.block_lt_of_cell? w _ hw164_0)).trans hw164_0)), (World.cell?_alloc_lt _ _ _ (World.block_lt_of_cell? _ _ (((HB.out.cell (World.block_lt_of_cell? w _ hw175_0)).trans hw175_0)))).trans (((HB.out.cell (World.block_lt_of_cell? w _ hw175_0)).trans hw175_0))⟩ (fun hHeld => ?_)
     clear hK K
     refine norm_ (a' := ?_) ?_ ?_
     rotate_left
     ·show Act.put _ (some 47) _ = _
      simp only [Act.put, List.setIfInBounds_toArray, List.set_cons_zero, List.set_cons_succ, i64_w, i32_w]
      rfl
     refine one_ (i := 25) (N := some 48) (bb [26, 1]) rfl rfl (one_of HT_.out (by kernel_rfl)) (by decide) (fun K hK => ?_)
     refine Kd.N_append_step k39 (w0 := w) w.heap.size (by rfl) (.tmp 23) (.tmp 47) 37 39 (.agg #[(.string ⟨#[]⟩), (.int .i64 0), (.bool false), (.int .i64 0), (.int .u64 0), (.float .f64 0), (.string ⟨#[]⟩), (.slice none 0 0)]) 96 rfl Tryz.underlying37 info39 rfl (by decide) (by omega) u6 x6_1 (⟨t189, t190, t191, t192, t193, t194, t195, t196⟩ : S39) [.string t189, .int .i64 t190, .bool t191, .int .i64 t192, .int .u64 t193, .float .f64 t194, .string t195, .slice Ao36 t196.length co36] (fun k_ => (w.heap.size ≤ k_) ∧ k_ ≠ gb128 ∧ k_ ≠ gb142) (fun k_ => ((fun k_ => (w.heap.size ≤ k_) ∧ k_ ≠ gb128 ∧ k_ ≠ gb142)) k_ ∧ some k_ ≠ (u6 : Value).ownBlock) rfl rfl ?aP (fun _ hk => hk) ?aF ?aO ?aB ?aS ?aL ?_
     (case aP => exact (k39_mkF _ _ (⟨t189, t190, t191, t192, t193, t194, t195, t196⟩ : S39) (Kd.V_reads' (Kd.V_mono (ok' := (fun k_ => ((fun k_ => (w.heap.size ≤ k_) ∧ k_ ≠ gb128 ∧ k_ ≠ gb142)) k_ ∧ some k_ ≠ (u6 : Value).ownBlock)) (HO198.out) (fun k_ hk => ⟨⟨hk.1, ⟨hk.2.2.1, hk.2.2.2⟩⟩, hk.2.1⟩))).2.1 (Kd.V_F (Kd.V_mono (ok' := (fun k_ => ((fun k_ => (w.heap.size ≤ k_) ∧ k_ ≠ gb128 ∧ k_ ≠ gb142)) k_ ∧ some k_ ≠ (u6 : Value).ownBlock)) (HO198.out) (fun k_ hk => ⟨⟨hk.1, ⟨hk.2.2.1, hk.2.2.2⟩⟩, hk.2.1⟩)))))
     (case aB => exact (by repeat (first | (with_reducible first | exact HB.out | apply below_alloc | apply pw_below_drewN | apply below_drew1 | refine below_set ?_ GE128.out | refine below_set ?_ GE142.out) | exact HB.out)))
     (case aF => exact (fun k_ hk => ⟨(Nat.le_trans (below_size (by repeat (first | (with_reducible first | exact HB.out | apply below_alloc | apply pw_below_drewN | apply below_drew1 | refine below_set ?_ GE128.out | refine below_set ?_ GE142.out) | exact HB.out))) hk), Kd.freshB (g := gb128) (o := .cells #[.string (⟨#[]⟩ : ByteArray), .int .i64 0, .bool false, .int .i64 0, .int .u64 0, .float .f64 0, .string (⟨#[]⟩ : ByteArray), .slice none 0 0] 39 (0, 0)) (by (with_reducible repeat (first | refine blk_drewN ?_ _ | refine blk_drew ?_ | refine blk_alloc ?_ _)); exact BK128.out) k_ hk, Kd.freshB (g := gb142) (o := .cells #[.string ((rd_T31 l0 x19_1).f0), .slice (some ad153) ((rd_T31 l0 x19_1).f1).length c141_1, .slice A141_2 ((rd_T31 l0 x19_1).f2).length c141_2] 31 (0, 0)) (by (with_reducible repeat (first | refine blk_drewN ?_ _ | refine blk_drew ?_ | refine blk_alloc ?_ _)); exact BK142.out) k_ hk⟩))
     (case aO => exact (by (with_reducible repeat (first | apply Kd.N_alloc | apply Kd.N_drewN | apply Kd.N_drew)); exact Kd.N_mono HO_6.out (fun _ hk => ⟨hk.1.1.1.1.1.1, ⟨hk.1.1.1.1.1.2.1, hk.1.1.1.1.1.2.2⟩⟩)))
     (case aS => exact (below_size (by repeat (first | (with_reducible first | exact HB.out | apply below_alloc | apply pw_below_drewN | apply below_drew1 | refine below_set ?_ GE128.out | refine below_set ?_ GE142.out) | exact HB.out))))
     (case aL => have := LMc17.out; omega)
     intro v200 w35 ho hb hg hat
     rw [← Ny199.out] at ho
     have n0_ := Aside0.mk (blk_grown (g := gb128) (o := .cells #[.string (⟨#[]⟩ : ByteArray), .int .i64 0, .bool false, .int .i64 0, .int .u64 0, .float .f64 0, .string (⟨#[]⟩ : ByteArray), .slice none 0 0] 39 (0, 0)) (by (with_reducible repeat (first | refine blk_drewN ?_ _ | refine blk_drew ?_ | refine blk_alloc ?_ _)); exact BK128.out) hg (Kd.N_away HO_6.out (fun _ hk => hk.1.1.1.1.1.2.1)))
     have n1_ := Aside0.mk (blk_grown (g := gb142) (o := .cells #[.string ((rd_T31 l0 x19_1).f0), .slice (some ad153) ((rd_T31 l0 x19_1).f1).length c141_1, .slice A141_2 ((rd_T31 l0 x19_1).f2).length c141_2] 31 (0, 0)) (by (with_reducible repeat (first | refine blk_drewN ?_ _ | refine blk_drew ?_ | refine blk_alloc ?_ _)); exact BK142.out) hg (Kd.N_ne HO_6.out BK142.out (by decide)))
     have n2_ := Aside0.mk (Kd.N_afterv (ok := (fun k_ => (w.heap.size ≤ k_) ∧ k_ ≠ gb128 ∧ k_ ≠ gb142)) (by (with_reducible repeat (first | apply Kd.N_alloc | apply Kd.N_drewN | apply Kd.N_drew)); exact Kd.N_mono HO188.out (fun _ hk => ⟨⟨hk.1, ⟨hk.2.2.1, hk.2.2.2⟩⟩, hk.2.1⟩)) hg hat)
     have n3_ := Aside0.mk (Kd.V_afterv (ok := (fun k_ => (w.heap.size ≤ k_) ∧ k_ ≠ gb128 ∧ k_ ≠ gb142)) (by (with_reducible repeat (first | apply Kd.V_alloc | apply Kd.V_drewN | apply Kd.V_drew)); exact Kd.V_mono HO198.out (fun _ hk => ⟨⟨hk.1, ⟨hk.2.2.1, hk.2.2.2⟩⟩, hk.2.1⟩)) hg hat)
     have n4_ := Aside0.mk (hb)
     have n5_ := Aside0.mk (ho)
     clear BK128
     clear BK142
     clear HO188
     clear HO198
     clear HB
     clear HO_6
     have BK128 := n0_
     have BK142 := n1_
     have HO188 := n2_
     have HO198 := n3_
     have HB := n4_
     have HO201 := n5_
     clear n0_ n1_ n2_ n3_ n4_ n5_
     clear ho hb hg hat
     refine hK.out _ _ ⟨(blk_cell BK142.out 0).trans rfl, (blk_cell BK142.out 1).trans rfl, (blk_cell BK142.out 2).trans rfl, ((HB.out.cell (World.block_lt_of_cell? w _ hw153_0)).trans hw153_0), ((HB.out.cell (World.block_lt_of_cell? w _ hw164_0)).trans hw164_0), ((HB.out.cell (World.block_lt_of_cell? w _ hw175_0)).trans hw175_0)⟩ (fun hHeld => ?_)
     clear hK K
     refine norm_ (a' := ?_) ?_ ?_
     rotate_left
     ·show Act.put _ (some 48) _ = _
      simp only [Act.put, List.setIfInBounds_toArray, List.set_cons_zero, List.set_cons_succ, i64_w, i32_w]
      rfl
     refine pure_ (i := 26) (N := some 6) (v := ?_) (a' := ?_) (bb [27]) rfl rfl (any_of HT_.out (by kernel_rfl)) (fun _ _ _ h => h) (Or.inl ⟨by rfl, ?_⟩) ?_ ?_
     rotate_left
     ·intro w'
      go_simp
      with_reducible rfl
     rotate_left
     ·simp only [Act.put, List.setIfInBounds_toArray, List.set_cons_zero, List.set_cons_succ, i64_w, i32_w]
      rfl
     refine done_ (done_of HT_.out (by kernel_rfl)) ?_
     try go_wp2
     go_roundg k1
     case measure => have := HK1.out; omega
     case rel => exact ⟨(y199), (wrap64 (x19_1 + 1)), (by first | rfl | (simp; done) | (simp [*]; done)), H', ⟨by have := HK1.out; omega⟩, ⟨by (with_reducible repeat (first | apply Kd.N_alloc | apply Kd.N_drewN | apply Kd.N_drew)); exact Kd.N_mono HO201.out (fun _ hk => ⟨hk.1, hk.2.1⟩)⟩, ⟨by (with_reducible repeat (first | refine blk_drewN ?_ _ | refine blk_drew ?_ | refine blk_alloc ?_ _)); exact BK128.out⟩, ⟨by repeat (first | (with_reducible first | exact HB.out | apply below_alloc | apply pw_below_drewN | apply below_drew1 | refine below_set ?_ GE128.out | refine below_set ?_ GE142.out) | exact HB.out)⟩⟩
    ·rw [if_neg c6] at H
     have c6b0 : decide (x19_1 < (l0.length : Int)) = false := decide_eq_false c6
     clear c6
     replace H := Option.bind_eq_some_iff.mp H
     obtain ⟨⟨t131, t132, t133, t134, t135, t136, t137, t138⟩, A370, H⟩ := H
     replace H : (some (t131, t132, t133, t134, t135, t136, t137, t138, 1)) = some (r1, r2, r3, r4, r5, r6, r7, r8, r9) := H
     have A37 := Aside0.mk A370
     clear A370
     simp only [Option.some.injEq, Prod.mk.injEq] at H
     obtain ⟨rfl, rfl, rfl, rfl, rfl, rfl, rfl, rfl, rfl⟩ := H
     obtain ⟨Ao38, co38, eo38⟩ := Kd.N_slice HO_6.out
     subst eo38
     go_wp2_with (first | ((with_reducible refine gate_callee (f := 66) rfl ?_); refine goesL_ (some 51) rfl rfl Tryz.func66 (by kernel_rfl) rfl #[.string (⟨#[]⟩ : ByteArray), .slice Ao38 x6_1.length co38] rfl (by (try simp only [List.map_toArray, List.map_cons, List.map_nil]); first | done | rfl | (simp only [List.length_drop, List.length_take]; rfl)) ?_; (with_reducible refine (spec_listNode.calls (⟨#[]⟩ : ByteArray) (fun k_ => ((w.heap.size ≤ k_) ∧ k_ ≠ gb128)) _ _ x6_1 t131 t132 t133 t134 t135 t136 t137 t138 _ ?side1 A37.out).mono ?_); (case side1 => exact Kd.N_V (HO_6.out)); rintro e w39 ⟨v139, rfl, ho0, hb⟩; refine ⟨_, rfl, ?_⟩; have n0_ := Aside0.mk (Kd.N_below (by (with_reducible repeat (first | apply Kd.N_alloc | apply Kd.N_drewN | apply Kd.N_drew)); exact HO_6.out) hb); have n1_ := Aside0.mk (Kd.V_lower (Kd.V_mono (ok' := fun k_ => (w.heap.size ≤ k_) ∧ k_ ≠ gb128) ho0 (fun k_ hk_ => ⟨Or.elim hk_ (fun hs_ => hs_.1) (fun hn_ => (Nat.le_trans (below_size (by repeat (first | (with_reducible first | exact HB.out | apply below_alloc | apply pw_below_drewN | apply below_drew1 | refine below_set ?_ GE128.out) | exact HB.out))) hn_)), Or.elim hk_ (fun hs_ => hs_.2) (fun hn_ => (Kd.freshB (g := gb128) (o := .cells #[.string (⟨#[]⟩ : ByteArray), .int .i64 0, .bool false, .int .i64 0, .int .u64 0, .float .f64 0, .string (⟨#[]⟩ : ByteArray), .slice none 0 0] 39 (0, 0)) (by (with_reducible repeat (first | refine blk_drewN ?_ _ | refine blk_drew ?_ | refine blk_alloc ?_ _)); exact BK128.out) k_ hn_))⟩)) (below_size (by repeat (first | (with_reducible first | exact HB.out | apply below_alloc | apply pw_below_drewN | apply below_drew1 | refine below_set ?_ GE128.out) | exact HB.out)))); have n2_ := Aside0.mk (blk_below (g := gb128) (o := .cells #[.string (⟨#[]⟩ : ByteArray), .int .i64 0, .bool false, .int .i64 0, .int .u64 0, .float .f64 0, .string (⟨#[]⟩ : ByteArray), .slice none 0 0] 39 (0, 0)) (by (with_reducible repeat (first | refine blk_drewN ?_ _ | refine blk_drew ?_ | refine blk_alloc ?_ _)); exact BK128.out) hb); have n3_ := Aside0.mk (below_step (by repeat (first | (with_reducible first | exact HB.out | apply below_alloc | apply pw_below_drewN | apply below_drew1 | refine below_set ?_ GE128.out) | exact HB.out)) hb); clear HO_6; clear BK128; clear HB; have HO_6 := n0_; have HO140 := n1_; have BK128 := n2_; have HB := n3_; clear n0_ n1_ n2_ n3_; (try clear hb); (try clear hb2); (try clear hk); (try clear hi); (try clear ho0); have hcz40_0 : w39.cell? ⟨gb128, 0, none⟩ = some (.string (⟨#[]⟩ : ByteArray)) := (blk_cell BK128.out 0).trans rfl; have hcz40_1 : w39.cell? ⟨gb128, 1, none⟩ = some (.int .i64 0) := (blk_cell BK128.out 1).trans rfl; have hcz40_2 : w39.cell? ⟨gb128, 2, none⟩ = some (.bool false) := (blk_cell BK128.out 2).trans rfl; have hcz40_3 : w39.cell? ⟨gb128, 3, none⟩ = some (.int .i64 0) := (blk_cell BK128.out 3).trans rfl; have hcz40_4 : w39.cell? ⟨gb128, 4, none⟩ = some (.int .u64 0) := (blk_cell BK128.out 4).trans rfl; have hcz40_5 : w39.cell? ⟨gb128, 5, none⟩ = some (.float .f64 0) := (blk_cell BK128.out 5).trans rfl; have hcz40_6 : w39.cell? ⟨gb128, 6, none⟩ = some (.string (⟨#[]⟩ : ByteArray)) := (blk_cell BK128.out 6).trans rfl; have hcz40_7 : w39.cell? ⟨gb128, 7, none⟩ = some (.slice none 0 0) := (blk_cell BK128.out 7).trans rfl; have hfz40_0 := blk_frozen BK128.out 0; have hfz40_1 := blk_frozen BK128.out 1; have hfz40_2 := blk_frozen BK128.out 2; have hfz40_3 := blk_frozen BK128.out 3; have hfz40_4 := blk_frozen BK128.out 4; have hfz40_5 := blk_frozen BK128.out 5; have hfz40_6 := blk_frozen BK128.out 6; have hfz40_7 := blk_frozen BK128.out 7; obtain ⟨Ao41, co41, eo41⟩ := Kd.V_slice HO140.out; subst eo41))
     refine bodyPost_ret (results_ct rfl _ _ gb128 39 #[.string t131, .int .i64 t132, .bool t133, .int .i64 t134, .int .u64 t135, .float .f64 t136, .string t137, .slice Ao41 t138.length co41] (0, 0) _ rfl (by (with_reducible repeat (first | refine blk_drewN ?_ _ | refine blk_drew ?_ | refine blk_alloc ?_ _)); refine blk_put (cs := #[.string t131, .int .i64 t132, .bool t133, .int .i64 t134, .int .u64 t135, .float .f64 t136, .string t137, .slice none 0 0]) ?_ 7 _ rfl; (with_reducible repeat (first | refine blk_drewN ?_ _ | refine blk_drew ?_ | refine blk_alloc ?_ _)); refine blk_put (cs := #[.string t131, .int .i64 t132, .bool t133, .int .i64 t134, .int .u64 t135, .float .f64 t136, .string (⟨#[]⟩ : ByteArray), .slice none 0 0]) ?_ 6 _ rfl; (with_reducible repeat (first | refine blk_drewN ?_ _ | refine blk_drew ?_ | refine blk_alloc ?_ _)); refine blk_put (cs := #[.string t131, .int .i64 t132, .bool t133, .int .i64 t134, .int .u64 t135, .float .f64 0, .string (⟨#[]⟩ : ByteArray), .slice none 0 0]) ?_ 5 _ rfl; (with_reducible repeat (first | refine blk_drewN ?_ _ | refine blk_drew ?_ | refine blk_alloc ?_ _)); refine blk_put (cs := #[.string t131, .int .i64 t132, .bool t133, .int .i64 t134, .int .u64 0, .float .f64 0, .string (⟨#[]⟩ : ByteArray), .slice none 0 0]) ?_ 4 _ rfl; (with_reducible repeat (first | refine blk_drewN ?_ _ | refine blk_drew ?_ | refine blk_alloc ?_ _)); refine blk_put (cs := #[.string t131, .int .i64 t132, .bool t133, .int .i64 0, .int .u64 0, .float .f64 0, .string (⟨#[]⟩ : ByteArray), .slice none 0 0]) ?_ 3 _ rfl; (with_reducible repeat (first | refine blk_drewN ?_ _ | refine blk_drew ?_ | refine blk_alloc ?_ _)); refine blk_put (cs := #[.string t131, .int .i64 t132, .bool false, .int .i64 0, .int .u64 0, .float .f64 0, .string (⟨#[]⟩ : ByteArray), .slice none 0 0]) ?_ 2 _ rfl; (with_reducible repeat (first | refine blk_drewN ?_ _ | refine blk_drew ?_ | refine blk_alloc ?_ _)); refine blk_put (cs := #[.string t131, .int .i64 0, .bool false, .int .i64 0, .int .u64 0, .float .f64 0, .string (⟨#[]⟩ : ByteArray), .slice none 0 0]) ?_ 1 _ rfl; (with_reducible repeat (first | refine blk_drewN ?_ _ | refine blk_drew ?_ | refine blk_alloc ?_ _)); refine blk_put (cs := #[.string (⟨#[]⟩ : ByteArray), .int .i64 0, .bool false, .int .i64 0, .int .u64 0, .float .f64 0, .string (⟨#[]⟩ : ByteArray), .slice none 0 0]) ?_ 0 _ rfl; (with_reducible repeat (first | refine blk_drewN ?_ _ | refine blk_drew ?_ | refine blk_alloc ?_ _)); exact BK128.out) Tryz.underlying39 rfl (by kernel_rfl)) rfl ?_
     exact ⟨_, by first | rfl | (simp [errW_none, errW_some] <;> rfl) | (simp [*, errW_none, errW_some] <;> rfl), by (with_reducible repeat (first | apply Kd.V_alloc | apply Kd.V_drewN | apply Kd.V_drew)); exact Kd.V_mono (Kd.V_far (p := ⟨gb128, 7, none⟩) (Kd.V_far (p := ⟨gb128, 6, none⟩) (Kd.V_far (p := ⟨gb128, 5, none⟩) (Kd.V_far (p := ⟨gb128, 4, none⟩) (Kd.V_far (p := ⟨gb128, 3, none⟩) (Kd.V_far (p := ⟨gb128, 2, none⟩) (Kd.V_far (p := ⟨gb128, 1, none⟩) (Kd.V_far (p := ⟨gb128, 0, none⟩) (Kd.V_mono HO140.out (fun k_ hk => (⟨hk, hk.2⟩ : _ ∧ k_ ≠ gb128))) (fun _ hk => hk.2) (.string t131)) (fun _ hk => hk.2) (.int .i64 t132)) (fun _ hk => hk.2) (.bool t133)) (fun _ hk => hk.2) (.int .i64 t134)) (fun _ hk => hk.2) (.int .u64 t135)) (fun _ hk => hk.2) (.float .f64 t136)) (fun _ hk => hk.2) (.string t137)) (fun _ hk => hk.2) (.slice Ao41 t138.length co41)) (fun _ hk => hk.1.1), by repeat (first | (with_reducible first | exact HB.out | apply below_alloc | apply pw_below_drewN | apply below_drew1 | refine below_set ?_ GE128.out) | exact HB.out)⟩
 ·rw [if_neg c3] at H
  have c3b0 : (t130 == 1) = false := beq_eq_false_iff_ne.mpr c3
  have c3b1 : (t130 != 1) = true := bne_iff_ne.mpr c3
  simp only [Option.some.injEq, Prod.mk.injEq] at H
  obtain ⟨rfl, rfl, rfl, rfl, rfl, rfl, rfl, rfl, rfl⟩ := H
  go_enter Tryz.func43, Tryz.ntmps43
  go_wp2_with (first | ((with_reducible refine gate_dst (N := 2) rfl ?_); refine box_event ?hg (N := 2) ?hd (cs := #[.string (⟨#[]⟩ : ByteArray), .int .i64 0, .bool false, .int .i64 0, .int .u64 0, .float .f64 0, .string (⟨#[]⟩ : ByteArray), .slice none 0 0]) (t := 39) ?hr ?_; (case hd => rfl); (case hg => rfl); (case hr => first | (go_simp; done) | (go_simp; rfl)); intro gb128 hg w42 hbox hb; have n0_ := Aside0.mk (below_step (by repeat (first | (with_reducible first | exact HB.out | apply below_alloc | apply pw_below_drewN | apply below_drew1) | exact HB.out)) hb); have n1_ := Aside0.mk (hbox); have n2_ := Aside0.mk ((by rw [hg]; exact (below_size (by repeat (first | (with_reducible first | exact HB.out | apply below_alloc | apply pw_below_drewN | apply below_drew1) | exact HB.out))) : w.heap.size ≤ gb128)); have n3_ := Aside0.mk ((by rw [hg]; exact (below_size (by repeat (first | (with_reducible first | exact HB.out | apply below_alloc | apply pw_below_drewN | apply below_drew1) | exact HB.out))) : w.heap.size ≤ gb128)); clear HB; have HB := n0_; have BK128 := n1_; have GW128 := n2_; have GE128 := n3_; clear n0_ n1_ n2_ n3_; clear hb hbox hg) | ((with_reducible refine gate_callee (f := 42) rfl ?_); refine goesL_ (some 11) rfl rfl Tryz.func42 (by kernel_rfl) rfl #[.slice A0 l0.length c0] rfl (by (try simp only [List.map_toArray, List.map_cons, List.map_nil]); first | done | rfl | (simp only [List.length_drop, List.length_take]; rfl)) ?_; (with_reducible refine (spec_CgroupSummaryPrint.calls k _ _ l0 t129 t130 _ ?side1 ?side2 A2.out).mono ?_); (case side1 => repeat (first | exact (Kd.C_below HR0.out HB.out) | (with_reducible refine Kd.C_alloc ?_ _) | (with_reducible refine Kd.C_drewN ?_ _) | (with_reducible refine Kd.C_drew ?_))); (case side2 => exact HC0.out); rintro e w43 ⟨rfl, hb⟩; refine ⟨_, rfl, ?_⟩; have n0_ := Aside0.mk (blk_below (g := gb128) (o := .cells #[.string (⟨#[]⟩ : ByteArray), .int .i64 0, .bool false, .int .i64 0, .int .u64 0, .float .f64 0, .string (⟨#[]⟩ : ByteArray), .slice none 0 0] 39 (0, 0)) (by (with_reducible repeat (first | refine blk_drewN ?_ _ | refine blk_drew ?_ | refine blk_alloc ?_ _)); exact BK128.out) hb); have n1_ := Aside0.mk (below_step (by repeat (first | (with_reducible first | exact HB.out | apply below_alloc | apply pw_below_drewN | apply below_drew1 | refine below_set ?_ GE128.out) | exact HB.out)) hb); clear BK128; clear HB; have BK128 := n0_; have HB := n1_; clear n0_ n1_; (try clear hb); (try clear hb2); (try clear hk); (try clear hi); have hcz44_0 : w43.cell? ⟨gb128, 0, none⟩ = some (.string (⟨#[]⟩ : ByteArray)) := (blk_cell BK128.out 0).trans rfl; have hcz44_1 : w43.cell? ⟨gb128, 1, none⟩ = some (.int .i64 0) := (blk_cell BK128.out 1).trans rfl; have hcz44_2 : w43.cell? ⟨gb128, 2, none⟩ = some (.bool false) := (blk_cell BK128.out 2).trans rfl; have hcz44_3 : w43.cell? ⟨gb128, 3, none⟩ = some (.int .i64 0) := (blk_cell BK128.out 3).trans rfl; have hcz44_4 : w43.cell? ⟨gb128, 4, none⟩ = some (.int .u64 0) := (blk_cell BK128.out 4).trans rfl; have hcz44_5 : w43.cell? ⟨gb128, 5, none⟩ = some (.float .f64 0) := (blk_cell BK128.out 5).trans rfl; have hcz44_6 : w43.cell? ⟨gb128, 6, none⟩ = some (.string (⟨#[]⟩ : ByteArray)) := (blk_cell BK128.out 6).trans rfl; have hcz44_7 : w43.cell? ⟨gb128, 7, none⟩ = some (.slice none 0 0) := (blk_cell BK128.out 7).trans rfl; have hfz44_0 := blk_frozen BK128.out 0; have hfz44_1 := blk_frozen BK128.out 1; have hfz44_2 := blk_frozen BK128.out 2; have hfz44_3 := blk_frozen BK128.out 3; have hfz44_4 := blk_frozen BK128.out 4; have hfz44_5 := blk_frozen BK128.out 5; have hfz44_6 := blk_frozen BK128.out 6; have hfz44_7 := blk_frozen BK128.out 7))
  refine bodyPost_ret (results_ct rfl _ _ gb128 39 #[.string (⟨#[]⟩ : ByteArray), .int .i64 0, .bool false, .int .i64 0, .int .u64 0, .float .f64 0, .string (⟨#[]⟩ : ByteArray), .slice none 0 0] (0, 0) _ rfl (by (with_reducible repeat (first | refine blk_drewN ?_ _ | refine blk_drew ?_ | refine blk_alloc ?_ _)); refine blk_put (cs := #[.string (⟨#[]⟩ : ByteArray), .int .i64 0, .bool false, .int .i64 0, .int .u64 0, .float .f64 0, .string (⟨#[]⟩ : ByteArray), .slice none 0 0]) ?_ 7 _ rfl; (with_reducible repeat (first | refine blk_drewN ?_ _ | refine blk_drew ?_ | refine blk_alloc ?_ _)); refine blk_put (cs := #[.string (⟨#[]⟩ : ByteArray), .int .i64 0, .bool false, .int .i64 0, .int .u64 0, .float .f64 0, .string (⟨#[]⟩ : ByteArray), .slice none 0 0]) ?_ 6 _ rfl; (with_reducible repeat (first | refine blk_drewN ?_ _ | refine blk_drew ?_ | refine blk_alloc ?_ _)); refine blk_put (cs := #[.string (⟨#[]⟩ : ByteArray), .int .i64 0, .bool false, .int .i64 0, .int .u64 0, .float .f64 0, .string (⟨#[]⟩ : ByteArray), .slice none 0 0]) ?_ 5 _ rfl; (with_reducible repeat (first | refine blk_drewN ?_ _ | refine blk_drew ?_ | refine blk_alloc ?_ _)); refine blk_put (cs := #[.string (⟨#[]⟩ : ByteArray), .int .i64 0, .bool false, .int .i64 0, .int .u64 0, .float .f64 0, .string (⟨#[]⟩ : ByteArray), .slice none 0 0]) ?_ 4 _ rfl; (with_reducible repeat (first | refine blk_drewN ?_ _ | refine blk_drew ?_ | refine blk_alloc ?_ _)); refine blk_put (cs := #[.string (⟨#[]⟩ : ByteArray), .int .i64 0, .bool false, .int .i64 0, .int .u64 0, .float .f64 0, .string (⟨#[]⟩ : ByteArray), .slice none 0 0]) ?_ 3 _ rfl; (with_reducible repeat (first | refine blk_drewN ?_ _ | refine blk_drew ?_ | refine blk_alloc ?_ _)); refine blk_put (cs := #[.string (⟨#[]⟩ : ByteArray), .int .i64 0, .bool false, .int .i64 0, .int .u64 0, .float .f64 0, .string (⟨#[]⟩ : ByteArray), .slice none 0 0]) ?_ 2 _ rfl; (with_reducible repeat (first | refine blk_drewN ?_ _ | refine blk_drew ?_ | refine blk_alloc ?_ _)); refine blk_put (cs := #[.string (⟨#[]⟩ : ByteArray), .int .i64 0, .bool false, .int .i64 0, .int .u64 0, .float .f64 0, .string (⟨#[]⟩ : ByteArray), .slice none 0 0]) ?_ 1 _ rfl; (with_reducible repeat (first | refine blk_drewN ?_ _ | refine blk_drew ?_ | refine blk_alloc ?_ _)); refine blk_put (cs := #[.string (⟨#[]⟩ : ByteArray), .int .i64 0, .bool false, .int .i64 0, .int .u64 0, .float .f64 0, .string (⟨#[]⟩ : ByteArray), .slice none 0 0]) ?_ 0 _ rfl; (with_reducible repeat (first | refine blk_drewN ?_ _ | refine blk_drew ?_ | refine blk_alloc ?_ _)); exact BK128.out) Tryz.underlying39 rfl (by kernel_rfl)) rfl ?_
  exact ⟨_, by first | rfl | (simp [errW_none, errW_some] <;> rfl) | (simp [*, errW_none, errW_some] <;> rfl), Kd.N_V (base := 0) (by first | exact Kd.R_nil _ _ _ _ _ | exact Kd.N_nil _ _ _ _ _ | exact Kd.V_nil _ _ _ _ _ | exact Kd.Q_nil _ _ _ _ _ | exact Kd.S_nil _ _ _ _ _), by repeat (first | (with_reducible first | exact HB.out | apply below_alloc | apply pw_below_drewN | apply below_drew1 | refine below_set ?_ GE128.out) | exact HB.out)⟩
/-! ### impl_procfsCgroupSummary: function 134 -/
def impl_procfsCgroupSummary.f (a0 : ByteArray) (a1_0 : ByteArray) (a1_1 : Int) (a1_2 : Int) (a1_3 : Int) : Option (ByteArray × Int × Bool × Int × Int × Nat × ByteArray × (List (S43))) := if ([] : List (S43)).length < 1466015503701 then ((some (([] : List (S43)) ++ [(⟨(⟨#[83, 117, 98, 115, 121, 115, 78, 97, 109, 101]⟩ : ByteArray), 5, false, 0, 0, 0, a1_0, ([] : List (S43))⟩ : S43)] : List (S43))).bind fun y205 => (if y205.length < 1466015503701 then ((some (y205 ++ [(⟨(⟨#[72, 105, 101, 114, 97, 114, 99, 104, 121]⟩ : ByteArray), 2, false, a1_1, 0, 0, (⟨#[]⟩ : ByteArray), ([] : List (S43))⟩ : S43)] : List (S43))).bind fun y208 => (if y208.length < 1466015503701 then ((some (y208 ++ [(⟨(⟨#[67, 103, 114, 111, 117, 112, 115]⟩ : ByteArray), 2, false, a1_2, 0, 0, (⟨#[]⟩ : ByteArray), ([] : List (S43))⟩ : S43)] : List (S43))).bind fun y211 => (if y211.length < 1466015503701 then (some (a0, 8, false, 0, 0, 0, (⟨#[]⟩ : ByteArray), (y211 ++ [(⟨(⟨#[69, 110, 97, 98, 108, 101, 100]⟩ : ByteArray), 2, false, a1_3, 0, 0, (⟨#[]⟩ : ByteArray), ([] : List (S43))⟩ : S43)]))) else (none))) else (none))) else (none))) else (none)
set_option maxHeartbeats 8000000 in
set_option maxRecDepth 100000 in
theorem impl_procfsCgroupSummary.calls (a0 : ByteArray) (a1_0 : ByteArray) (a1_1 : Int) (a1_2 : Int) (a1_3 : Int) (r1 : ByteArray) (r2 : Int) (r3 : Bool) (r4 : Int) (r5 : Int) (r6 : Nat) (r7 : ByteArray) (r8 : List (S43)) (w : World) (h : impl_procfsCgroupSummary.f a0 a1_0 a1_1 a1_2 a1_3 = some (r1, r2, r3, r4, r5, r6, r7, r8)) :
  Calls Tryz.prog 134 #[.string a0, .agg #[.string a1_0, .int .i64 a1_1, .int .i64 a1_2, .int .i64 a1_3]] w fun e w' => ∃ v7_ : Value, e = .returned (.agg #[.string r1, .int .i64 r2, .bool r3, .int .i64 r4, .int .u64 r5, .float .f64 r6, .string r7, v7_]) ∧ Kd.R k43 43 w' w.heap.size (fun _ => True) v7_ r8 ∧ Below w.heap.size w w' := by
 have hu162 := Tryz.underlying162
 have hu43 := Tryz.underlying43
 have HB := Aside0.mk (Below.refl w.heap.size w)
 have H : (if ([] : List (S43)).length < 1466015503701 then ((some (([] : List (S43)) ++ [(⟨(⟨#[83, 117, 98, 115, 121, 115, 78, 97, 109, 101]⟩ : ByteArray), 5, false, 0, 0, 0, a1_0, ([] : List (S43))⟩ : S43)] : List (S43))).bind fun y205 => (if y205.length < 1466015503701 then ((some (y205 ++ [(⟨(⟨#[72, 105, 101, 114, 97, 114, 99, 104, 121]⟩ : ByteArray), 2, false, a1_1, 0, 0, (⟨#[]⟩ : ByteArray), ([] : List (S43))⟩ : S43)] : List (S43))).bind fun y208 => (if y208.length < 1466015503701 then ((some (y208 ++ [(⟨(⟨#[67, 103, 114, 111, 117, 112, 115]⟩ : ByteArray), 2, false, a1_2, 0, 0, (⟨#[]⟩ : ByteArray), ([] : List (S43))⟩ : S43)] : List (S43))).bind fun y211 => (if y211.length < 1466015503701 then (some (a0, 8, false, 0, 0, 0, (⟨#[]⟩ : ByteArray), (y211 ++ [(⟨(⟨#[69, 110, 97, 98, 108, 101, 100]⟩ : ByteArray), 2, false, a1_3, 0, 0, (⟨#[]⟩ : ByteArray), ([] : List (S43))⟩ : S43)]))) else (none))) else (none))) else (none))) else (none)) = some (r1, r2, r3, r4, r5, r6, r7, r8) := h
 clear h
 replace H := guard_inv H
 obtain ⟨c3, H⟩ := H
 have LMc3 := Aside0.mk c3
 clear c3
 obtain ⟨y205, hy205⟩ : ∃ y_ : List (S43), y_ = (([] : List (S43)) ++ [(⟨(⟨#[83, 117, 98, 115, 121, 115, 78, 97, 109, 101]⟩ : ByteArray), 5, false, 0, 0, 0, a1_0, ([] : List (S43))⟩ : S43)]) := ⟨_, rfl⟩
 replace H : (if y205.length < 1466015503701 then ((some (y205 ++ [(⟨(⟨#[72, 105, 101, 114, 97, 114, 99, 104, 121]⟩ : ByteArray), 2, false, a1_1, 0, 0, (⟨#[]⟩ : ByteArray), ([] : List (S43))⟩ : S43)] : List (S43))).bind fun y208 => (if y208.length < 1466015503701 then ((some (y208 ++ [(⟨(⟨#[67, 103, 114, 111, 117, 112, 115]⟩ : ByteArray), 2, false, a1_2, 0, 0, (⟨#[]⟩ : ByteArray), ([] : List (S43))⟩ : S43)] : List (S43))).bind fun y211 => (if y211.length < 1466015503701 then (some (a0, 8, false, 0, 0, 0, (⟨#[]⟩ : ByteArray), (y211 ++ [(⟨(⟨#[69, 110, 97, 98, 108, 101, 100]⟩ : ByteArray), 2, false, a1_3, 0, 0, (⟨#[]⟩ : ByteArray), ([] : List (S43))⟩ : S43)]))) else (none))) else (none))) else (none)) = some (r1, r2, r3, r4, r5, r6, r7, r8) := by first | (rw [hy205]; with_reducible exact H) | (have H2_ := (Option.bind_some _ _).symm.trans H; rw [hy205]; with_reducible exact H2_) | (have H2_ := (Option.bind_some _ _).symm.trans H; with_reducible exact H2_) | with_reducible exact H | (rw [hy205]; exact H) | exact H
 have Ny205 := Aside0.mk hy205
 clear hy205
 replace H := guard_inv H
 obtain ⟨c4, H⟩ := H
 have LMc4 := Aside0.mk c4
 clear c4
 obtain ⟨y208, hy208⟩ : ∃ y_ : List (S43), y_ = (y205 ++ [(⟨(⟨#[72, 105, 101, 114, 97, 114, 99, 104, 121]⟩ : ByteArray), 2, false, a1_1, 0, 0, (⟨#[]⟩ : ByteArray), ([] : List (S43))⟩ : S43)]) := ⟨_, rfl⟩
 replace H : (if y208.length < 1466015503701 then ((some (y208 ++ [(⟨(⟨#[67, 103, 114, 111, 117, 112, 115]⟩ : ByteArray), 2, false, a1_2, 0, 0, (⟨#[]⟩ : ByteArray), ([] : List (S43))⟩ : S43)] : List (S43))).bind fun y211 => (if y211.length < 1466015503701 then (some (a0, 8, false, 0, 0, 0, (⟨#[]⟩ : ByteArray), (y211 ++ [(⟨(⟨#[69, 110, 97, 98, 108, 101, 100]⟩ : ByteArray), 2, false, a1_3, 0, 0, (⟨#[]⟩ : ByteArray), ([] : List (S43))⟩ : S43)]))) else (none))) else (none)) = some (r1, r2, r3, r4, r5, r6, r7, r8) := by first | (rw [hy208]; with_reducible exact H) | (have H2_ := (Option.bind_some _ _).symm.trans H; rw [hy208]; with_reducible exact H2_) | (have H2_ := (Option.bind_some _ _).symm.trans H; with_reducible exact H2_) | with_reducible exact H | (rw [hy208]; exact H) | exact H
 have Ny208 := Aside0.mk hy208
 clear hy208
 replace H := guard_inv H
 obtain ⟨c5, H⟩ := H
 have LMc5 := Aside0.mk c5
 clear c5
 obtain ⟨y211, hy211⟩ : ∃ y_ : List (S43), y_ = (y208 ++ [(⟨(⟨#[67, 103, 114, 111, 117, 112, 115]⟩ : ByteArray), 2, false, a1_2, 0, 0, (⟨#[]⟩ : ByteArray), ([] : List (S43))⟩ : S43)]) := ⟨_, rfl⟩
 replace H : (if y211.length < 1466015503701 then (some (a0, 8, false, 0, 0, 0, (⟨#[]⟩ : ByteArray), (y211 ++ [(⟨(⟨#[69, 110, 97, 98, 108, 101, 100]⟩ : ByteArray), 2, false, a1_3, 0, 0, (⟨#[]⟩ : ByteArray), ([] : List (S43))⟩ : S43)]))) else (none)) = some (r1, r2, r3, r4, r5, r6, r7, r8) := by first | (rw [hy211]; with_reducible exact H) | (have H2_ := (Option.bind_some _ _).symm.trans H; rw [hy211]; with_reducible exact H2_) | (have H2_ := (Option.bind_some _ _).symm.trans H; with_reducible exact H2_) | with_reducible exact H | (rw [hy211]; exact H) | exact H
 have Ny211 := Aside0.mk hy211
 clear hy211
 replace H := guard_inv H
 obtain ⟨c6, H⟩ := H
 have LMc6 := Aside0.mk c6
 clear c6
 obtain ⟨y214, hy214⟩ : ∃ y_ : List (S43), y_ = (y211 ++ [(⟨(⟨#[69, 110, 97, 98, 108, 101, 100]⟩ : ByteArray), 2, false, a1_3, 0, 0, (⟨#[]⟩ : ByteArray), ([] : List (S43))⟩ : S43)]) := ⟨_, rfl⟩
 replace H : (some (a0, 8, false, 0, 0, 0, (⟨#[]⟩ : ByteArray), y214)) = some (r1, r2, r3, r4, r5, r6, r7, r8) := by first | (rw [hy214]; with_reducible exact H) | (have H2_ := (Option.bind_some _ _).symm.trans H; rw [hy214]; with_reducible exact H2_) | (have H2_ := (Option.bind_some _ _).symm.trans H; with_reducible exact H2_) | with_reducible exact H | (rw [hy214]; exact H) | exact H
 have Ny214 := Aside0.mk hy214
 clear hy214
 simp only [Option.some.injEq, Prod.mk.injEq] at H
 obtain ⟨rfl, rfl, rfl, rfl, rfl, rfl, rfl, rfl⟩ := H
 go_enter Tryz.func134, Tryz.ntmps134
 go_wp2_with (first | ((with_reducible refine gate_dst (N := 3) rfl ?_); refine box_event ?hg (N := 3) ?hd (cs := #[.string a1_0, .int .i64 a1_1, .int .i64 a1_2, .int .i64 a1_3]) (t := 162) ?hr ?_; (case hd => rfl); (case hg => rfl); (case hr => first | (go_simp; done) | (go_simp; rfl)); intro gb202 hg w7 hbox hb; have n0_ := Aside0.mk (below_step (by repeat (first | (with_reducible first | exact HB.out | apply below_alloc | apply pw_below_drewN | apply below_drew1) | exact HB.out)) hb); have n1_ := Aside0.mk (hbox); have n2_ := Aside0.mk ((by rw [hg]; exact (below_size (by repeat (first | (with_reducible first | exact HB.out | apply below_alloc | apply pw_below_drewN | apply below_drew1) | exact HB.out))) : w.heap.size ≤ gb202)); have n3_ := Aside0.mk ((by rw [hg]; exact (below_size (by repeat (first | (with_reducible first | exact HB.out | apply below_alloc | apply pw_below_drewN | apply below_drew1) | exact HB.out))) : w.heap.size ≤ gb202)); clear HB; have HB := n0_; have BK202 := n1_; have GW202 := n2_; have GE202 := n3_; clear n0_ n1_ n2_ n3_; clear hb hbox hg) | ((with_reducible refine gate_dst (N := 4) rfl ?_); refine box_event ?hg (N := 4) ?hd (cs := #[.string (⟨#[]⟩ : ByteArray), .int .i64 0, .bool false, .int .i64 0, .int .u64 0, .float .f64 0, .string (⟨#[]⟩ : ByteArray), .slice none 0 0]) (t := 43) ?hr ?_; (case hd => rfl); (case hg => rfl); (case hr => first | (go_simp; done) | (go_simp; rfl)); intro gb203 hg w8 hbox hb; have n0_ := Aside0.mk (blk_below (g := gb202) (o := .cells #[.string a1_0, .int .i64 a1_1, .int .i64 a1_2, .int .i64 a1_3] 162 (0, 0)) (by (with_reducible repeat (first | refine blk_drewN ?_ _ | refine blk_drew ?_ | refine blk_alloc ?_ _)); exact BK202.out) hb); have n1_ := Aside0.mk (below_step (by repeat (first | (with_reducible first | exact HB.out | apply below_alloc | apply pw_below_drewN | apply below_drew1 | refine below_set ?_ GE202.out) | exact HB.out)) hb); have n2_ := Aside0.mk (hbox); have n3_ := Aside0.mk ((by rw [hg]; exact (below_size (by repeat (first | (with_reducible first | exact HB.out | apply below_alloc | apply pw_below_drewN | apply below_drew1 | refine below_set ?_ GE202.out) | exact HB.out))) : w.heap.size ≤ gb203)); have n4_ := Aside0.mk ((by rw [hg]; exact (below_size (by repeat (first | (with_reducible first | exact HB.out | apply below_alloc | apply pw_below_drewN | apply below_drew1 | refine below_set ?_ GE202.out) | exact HB.out))) : w.heap.size ≤ gb203)); have n5_ := Aside0.mk ((by rw [hg]; exact Nat.ne_of_lt (blk_lt (g := gb202) (o := .cells #[.string a1_0, .int .i64 a1_1, .int .i64 a1_2, .int .i64 a1_3] 162 (0, 0)) (by (with_reducible repeat (first | refine blk_drewN ?_ _ | refine blk_drew ?_ | refine blk_alloc ?_ _)); exact BK202.out)) : gb202 ≠ gb203)); have n6_ := Aside0.mk ((by rw [hg]; exact Nat.ne_of_gt (blk_lt (g := gb202) (o := .cells #[.string a1_0, .int .i64 a1_1, .int .i64 a1_2, .int .i64 a1_3] 162 (0, 0)) (by (with_reducible repeat (first | refine blk_drewN ?_ _ | refine blk_drew ?_ | refine blk_alloc ?_ _)); exact BK202.out)) : gb203 ≠ gb202)); clear BK202; clear HB; have BK202 := n0_; have HB := n1_; have BK203 := n2_; have GW203 := n3_; have GE203 := n4_; have NB202_203 := n5_; have NB203_202 := n6_; clear n0_ n1_ n2_ n3_ n4_ n5_ n6_; clear hb hbox hg) | ((with_reducible refine gate_dst (N := 5) rfl ?_); refine box_event ?hg (N := 5) ?hd (cs := #[.string (⟨#[]⟩ : ByteArray), .int .i64 0, .bool false, .int .i64 0, .int .u64 0, .float .f64 0, .string (⟨#[]⟩ : ByteArray), .slice none 0 0]) (t := 43) ?hr ?_; (case hd => rfl); (case hg => rfl); (case hr => first | (go_simp; done) | (go_simp; rfl)); intro gb204 hg w9 hbox hb; have n0_ := Aside0.mk (blk_below (g := gb202) (o := .cells #[.string a1_0, .int .i64 a1_1, .int .i64 a1_2, .int .i64 a1_3] 162 (0, 0)) (by (with_reducible repeat (first | refine blk_drewN ?_ _ | refine blk_drew ?_ | refine blk_alloc ?_ _)); exact BK202.out) hb); have n1_ := Aside0.mk (blk_below (g := gb203) (o := .cells #[.string (⟨#[]⟩ : ByteArray), .int .i64 0, .bool false, .int .i64 0, .int .u64 0, .float .f64 0, .string (⟨#[]⟩ : ByteArray), .slice none 0 0] 43 (0, 0)) (by (with_reducible repeat (first | refine blk_drewN ?_ _ | refine blk_drew ?_ | refine blk_alloc ?_ _)); exact BK203.out) hb); have n2_ := Aside0.mk (below_step (by repeat (first | (with_reducible first | exact HB.out | apply below_alloc | apply pw_below_drewN | apply below_drew1 | refine below_set ?_ GE202.out | refine below_set ?_ GE203.out) | exact HB.out)) hb); have n3_ := Aside0.mk (hbox); have n4_ := Aside0.mk ((by rw [hg]; exact (below_size (by repeat (first | (with_reducible first | exact HB.out | apply below_alloc | apply pw_below_drewN | apply below_drew1 | refine below_set ?_ GE202.out | refine below_set ?_ GE203.out) | exact HB.out))) : w.heap.size ≤ gb204)); have n5_ := Aside0.mk ((by rw [hg]; exact (below_size (by repeat (first | (with_reducible first | exact HB.out | apply below_alloc | apply pw_below_drewN | apply below_drew1 | refine below_set ?_ GE202.out | refine below_set ?_ GE203.out) | exact HB.out))) : w.heap.size ≤ gb204)); have n6_ := Aside0.mk ((by rw [hg]; exact Nat.ne_of_lt (blk_lt (g := gb202) (o := .cells #[.string a1_0, .int .i64 a1_1, .int .i64 a1_2, .int .i64 a1_3] 162 (0, 0)) (by (with_reducible repeat (first | refine blk_drewN ?_ _ | refine blk_drew ?_ | refine blk_alloc ?_ _)); exact BK202.out)) : gb202 ≠ gb204)); have n7_ := Aside0.mk ((by rw [hg]; exact Nat.ne_of_gt (blk_lt (g := gb202) (o := .cells #[.string a1_0, .int .i64 a1_1, .int .i64 a1_2, .int .i64 a1_3] 162 (0, 0)) (by (with_reducible repeat (first | refine blk_drewN ?_ _ | refine blk_drew ?_ | refine blk_alloc ?_ _)); exact BK202.out)) : gb204 ≠ gb202)); have n8_ := Aside0.mk ((by rw [hg]; exact Nat.ne_of_lt (blk_lt (g := gb203) (o := .cells #[.string (⟨#[]⟩ : ByteArray), .int .i64 0, .bool false, .int .i64 0, .int .u64 0, .float .f64 0, .string (⟨#[]⟩ : ByteArray), .slice none 0 0] 43 (0, 0)) (by (with_reducible repeat (first | refine blk_drewN ?_ _ | refine blk_drew ?_ | refine blk_alloc ?_ _)); exact BK203.out)) : gb203 ≠ gb204)); have n9_ := Aside0.mk ((by rw [hg]; exact Nat.ne_of_gt (blk_lt (g := gb203) (o := .cells #[.string (⟨#[]⟩ : ByteArray), .int .i64 0, .bool false, .int .i64 0, .int .u64 0, .float .f64 0, .string (⟨#[]⟩ : ByteArray), .slice none 0 0] 43 (0, 0)) (by (with_reducible repeat (first | refine blk_drewN ?_ _ | refine blk_drew ?_ | refine blk_alloc ?_ _)); exact BK203.out)) : gb204 ≠ gb203)); clear BK202; clear BK203; clear HB; have BK202 := n0_; have BK203 := n1_; have HB := n2_; have BK204 := n3_; have GW204 := n4_; have GE204 := n5_; have NB202_204 := n6_; have NB204_202 := n7_; have NB203_204 := n8_; have NB204_203 := n9_; clear n0_ n1_ n2_ n3_ n4_ n5_ n6_ n7_ n8_ n9_; clear hb hbox hg; have hnb10 := NB204_202.out; have hnc10 := NB202_204.out; have hnb11 := NB204_203.out; have hnc11 := NB203_204.out; have hcz12_0 : w9.cell? ⟨gb204, 0, none⟩ = some (.string (⟨#[]⟩ : ByteArray)) := (blk_cell BK204.out 0).trans rfl; have hcz12_1 : w9.cell? ⟨gb204, 1, none⟩ = some (.int .i64 0) := (blk_cell BK204.out 1).trans rfl; have hcz12_2 : w9.cell? ⟨gb204, 2, none⟩ = some (.bool false) := (blk_cell BK204.out 2).trans rfl; have hcz12_3 : w9.cell? ⟨gb204, 3, none⟩ = some (.int .i64 0) := (blk_cell BK204.out 3).trans rfl; have hcz12_4 : w9.cell? ⟨gb204, 4, none⟩ = some (.int .u64 0) := (blk_cell BK204.out 4).trans rfl; have hcz12_5 : w9.cell? ⟨gb204, 5, none⟩ = some (.float .f64 0) := (blk_cell BK204.out 5).trans rfl; have hcz12_6 : w9.cell? ⟨gb204, 6, none⟩ = some (.string (⟨#[]⟩ : ByteArray)) := (blk_cell BK204.out 6).trans rfl; have hcz12_7 : w9.cell? ⟨gb204, 7, none⟩ = some (.slice none 0 0) := (blk_cell BK204.out 7).trans rfl; have hfz12_0 := blk_frozen BK204.out 0; have hfz12_1 := blk_frozen BK204.out 1; have hfz12_2 := blk_frozen BK204.out 2; have hfz12_3 := blk_frozen BK204.out 3; have hfz12_4 := blk_frozen BK204.out 4; have hfz12_5 := blk_frozen BK204.out 5; have hfz12_6 := blk_frozen BK204.out 6; have hfz12_7 := blk_frozen BK204.out 7; have hnb13 := NB202_203.out; have hnc13 := NB203_202.out; have hcz14_0 : w9.cell? ⟨gb202, 0, none⟩ = some (.string a1_0) := (blk_cell BK202.out 0).trans rfl; have hcz14_1 : w9.cell? ⟨gb202, 1, none⟩ = some (.int .i64 a1_1) := (blk_cell BK202.out 1).trans rfl; have hcz14_2 : w9.cell? ⟨gb202, 2, none⟩ = some (.int .i64 a1_2) := (blk_cell BK202.out 2).trans rfl; have hcz14_3 : w9.cell? ⟨gb202, 3, none⟩ = some (.int .i64 a1_3) := (blk_cell BK202.out 3).trans rfl; have hfz14_0 := blk_frozen BK202.out 0; have hfz14_1 := blk_frozen BK202.out 1; have hfz14_2 := blk_frozen BK202.out 2; have hfz14_3 := blk_frozen BK202.out 3) | ((with_reducible refine gate_builtin (b := .append) (xs := #[.tmp 9, .tmp 13]) rfl ?_); at_builtin; refine Kd.R_append k43 (w0 := w) w.heap.size rfl (.tmp 9) (.tmp 13) 41 43 (.agg #[(.string ⟨#[]⟩), (.int .i64 0), (.bool false), (.int .i64 0), (.int .u64 0), (.float .f64 0), (.string ⟨#[]⟩), (.slice none 0 0)]) 96 rfl Tryz.underlying41 info43 rfl (by decide) (by omega) (.slice none 0 0) ([] : List (S43)) (⟨(⟨#[83, 117, 98, 115, 121, 115, 78, 97, 109, 101]⟩ : ByteArray), 5, false, 0, 0, 0, a1_0, ([] : List (S43))⟩ : S43) [.string (⟨#[83, 117, 98, 115, 121, 115, 78, 97, 109, 101]⟩ : ByteArray), .int .i64 5, .bool false, .int .i64 0, .int .u64 0, .float .f64 0, .string a1_0, .slice none 0 0] (fun k_ => k_ ≠ gb203 ∧ k_ ≠ gb204) (fun k_ => ((fun k_ => k_ ≠ gb203 ∧ k_ ≠ gb204)) k_ ∧ some k_ ≠ (.slice none 0 0 : Value).ownBlock) rfl (by first | (go_simp; done) | (go_simp; rfl)) ?aP (fun _ hk => hk) ?aF ?aO ?aB ?aS ?aL ?_; (case aP => exact k43_mkM _ _ _ (⟨(⟨#[83, 117, 98, 115, 121, 115, 78, 97, 109, 101]⟩ : ByteArray), 5, false, 0, 0, 0, a1_0, ([] : List (S43))⟩ : S43) (Kd.R_nil _ _ _ _ _)); (case aB => exact (by repeat (first | (with_reducible first | exact HB.out | apply below_alloc | apply pw_below_drewN | apply below_drew1 | refine below_set ?_ GE202.out | refine below_set ?_ GE203.out | refine below_set ?_ GE204.out) | exact HB.out))); (case aF => exact (fun k_ hk => ⟨Kd.freshB (g := gb203) (o := .cells #[.string (⟨#[]⟩ : ByteArray), .int .i64 0, .bool false, .int .i64 0, .int .u64 0, .float .f64 0, .string (⟨#[]⟩ : ByteArray), .slice none 0 0] 43 (0, 0)) (by (with_reducible repeat (first | refine blk_drewN ?_ _ | refine blk_drew ?_ | refine blk_alloc ?_ _)); refine blk_far ?_ NB203_204.out _; (with_reducible repeat (first | refine blk_drewN ?_ _ | refine blk_drew ?_ | refine blk_alloc ?_ _)); refine blk_far ?_ NB203_204.out _; (with_reducible repeat (first | refine blk_drewN ?_ _ | refine blk_drew ?_ | refine blk_alloc ?_ _)); refine blk_far ?_ NB203_204.out _; (with_reducible repeat (first | refine blk_drewN ?_ _ | refine blk_drew ?_ | refine blk_alloc ?_ _)); refine blk_far ?_ NB203_204.out _; (with_reducible repeat (first | refine blk_drewN ?_ _ | refine blk_drew ?_ | refine blk_alloc ?_ _)); refine blk_far ?_ NB203_204.out _; (with_reducible repeat (first | refine blk_drewN ?_ _ | refine blk_drew ?_ | refine blk_alloc ?_ _)); refine blk_far ?_ NB203_204.out _; (with_reducible repeat (first | refine blk_drewN ?_ _ | refine blk_drew ?_ | refine blk_alloc ?_ _)); refine blk_far ?_ NB203_204.out _; (with_reducible repeat (first | refine blk_drewN ?_ _ | refine blk_drew ?_ | refine blk_alloc ?_ _)); refine blk_far ?_ NB203_204.out _; (with_reducible repeat (first | refine blk_drewN ?_ _ | refine blk_drew ?_ | refine blk_alloc ?_ _)); exact BK203.out) k_ hk, Kd.freshB (g := gb204) (o := .cells #[.string a0, .int .i64 8, .bool false, .int .i64 0, .int .u64 0, .float .f64 0, .string (⟨#[]⟩ : ByteArray), .slice none 0 0] 43 (0, 0)) (by (with_reducible repeat (first | refine blk_drewN ?_ _ | refine blk_drew ?_ | refine blk_alloc ?_ _)); refine blk_put (cs := #[.string a0, .int .i64 8, .bool false, .int .i64 0, .int .u64 0, .float .f64 0, .string (⟨#[]⟩ : ByteArray), .slice none 0 0]) ?_ 7 _ rfl; (with_reducible repeat (first | refine blk_drewN ?_ _ | refine blk_drew ?_ | refine blk_alloc ?_ _)); refine blk_put (cs := #[.string a0, .int .i64 8, .bool false, .int .i64 0, .int .u64 0, .float .f64 0, .string (⟨#[]⟩ : ByteArray), .slice none 0 0]) ?_ 6 _ rfl; (with_reducible repeat (first | refine blk_drewN ?_ _ | refine blk_drew ?_ | refine blk_alloc ?_ _)); refine blk_put (cs := #[.string a0, .int .i64 8, .bool false, .int .i64 0, .int .u64 0, .float .f64 0, .string (⟨#[]⟩ : ByteArray), .slice none 0 0]) ?_ 5 _ rfl; (with_reducible repeat (first | refine blk_drewN ?_ _ | refine blk_drew ?_ | refine blk_alloc ?_ _)); refine blk_put (cs := #[.string a0, .int .i64 8, .bool false, .int .i64 0, .int .u64 0, .float .f64 0, .string (⟨#[]⟩ : ByteArray), .slice none 0 0]) ?_ 4 _ rfl; (with_reducible repeat (first | refine blk_drewN ?_ _ | refine blk_drew ?_ | refine blk_alloc ?_ _)); refine blk_put (cs := #[.string a0, .int .i64 8, .bool false, .int .i64 0, .int .u64 0, .float .f64 0, .string (⟨#[]⟩ : ByteArray), .slice none 0 0]) ?_ 3 _ rfl; (with_reducible repeat (first | refine blk_drewN ?_ _ | refine blk_drew ?_ | refine blk_alloc ?_ _)); refine blk_put (cs := #[.string a0, .int .i64 8, .bool false, .int .i64 0, .int .u64 0, .float .f64 0, .string (⟨#[]⟩ : ByteArray), .slice none 0 0]) ?_ 2 _ rfl; (with_reducible repeat (first | refine blk_drewN ?_ _ | refine blk_drew ?_ | refine blk_alloc ?_ _)); refine blk_put (cs := #[.string a0, .int .i64 0, .bool false, .int .i64 0, .int .u64 0, .float .f64 0, .string (⟨#[]⟩ : ByteArray), .slice none 0 0]) ?_ 1 _ rfl; (with_reducible repeat (first | refine blk_drewN ?_ _ | refine blk_drew ?_ | refine blk_alloc ?_ _)); refine blk_put (cs := #[.string (⟨#[]⟩ : ByteArray), .int .i64 0, .bool false, .int .i64 0, .int .u64 0, .float .f64 0, .string (⟨#[]⟩ : ByteArray), .slice none 0 0]) ?_ 0 _ rfl; (with_reducible repeat (first | refine blk_drewN ?_ _ | refine blk_drew ?_ | refine blk_alloc ?_ _)); exact BK204.out) k_ hk⟩)); (case aO => exact ((Kd.R_nil _ _ _ _ (fun k_ => k_ ≠ gb203 ∧ k_ ≠ gb204)))); (case aS => exact (below_size (by repeat (first | (with_reducible first | exact HB.out | apply below_alloc | apply pw_below_drewN | apply below_drew1 | refine below_set ?_ GE202.out | refine below_set ?_ GE203.out | refine below_set ?_ GE204.out) | exact HB.out)))); (case aL => have := LMc3.out; omega); intro v206 w15 ho hb hg hat; rw [← Ny205.out] at ho; have n0_ := Aside0.mk (blk_grown (g := gb202) (o := .cells #[.string a1_0, .int .i64 a1_1, .int .i64 a1_2, .int .i64 a1_3] 162 (0, 0)) (by (with_reducible repeat (first | refine blk_drewN ?_ _ | refine blk_drew ?_ | refine blk_alloc ?_ _)); refine blk_far ?_ NB202_204.out _; (with_reducible repeat (first | refine blk_drewN ?_ _ | refine blk_drew ?_ | refine blk_alloc ?_ _)); refine blk_far ?_ NB202_204.out _; (with_reducible repeat (first | refine blk_drewN ?_ _ | refine blk_drew ?_ | refine blk_alloc ?_ _)); refine blk_far ?_ NB202_204.out _; (with_reducible repeat (first | refine blk_drewN ?_ _ | refine blk_drew ?_ | refine blk_alloc ?_ _)); refine blk_far ?_ NB202_204.out _; (with_reducible repeat (first | refine blk_drewN ?_ _ | refine blk_drew ?_ | refine blk_alloc ?_ _)); refine blk_far ?_ NB202_204.out _; (with_reducible repeat (first | refine blk_drewN ?_ _ | refine blk_drew ?_ | refine blk_alloc ?_ _)); refine blk_far ?_ NB202_204.out _; (with_reducible repeat (first | refine blk_drewN ?_ _ | refine blk_drew ?_ | refine blk_alloc ?_ _)); refine blk_far ?_ NB202_204.out _; (with_reducible repeat (first | refine blk_drewN ?_ _ | refine blk_drew ?_ | refine blk_alloc ?_ _)); refine blk_far ?_ NB202_204.out _; (with_reducible repeat (first | refine blk_drewN ?_ _ | refine blk_drew ?_ | refine blk_alloc ?_ _)); exact BK202.out) hg (by simp [Value.ownBlock])); have n1_ := Aside0.mk (blk_grown (g := gb203) (o := .cells #[.string (⟨#[]⟩ : ByteArray), .int .i64 0, .bool false, .int .i64 0, .int .u64 0, .float .f64 0, .string (⟨#[]⟩ : ByteArray), .slice none 0 0] 43 (0, 0)) (by (with_reducible repeat (first | refine blk_drewN ?_ _ | refine blk_drew ?_ | refine blk_alloc ?_ _)); refine blk_far ?_ NB203_204.out _; (with_reducible repeat (first | refine blk_drewN ?_ _ | refine blk_drew ?_ | refine blk_alloc ?_ _)); refine blk_far ?_ NB203_204.out _; (with_reducible repeat (first | refine blk_drewN ?_ _ | refine blk_drew ?_ | refine blk_alloc ?_ _)); refine blk_far ?_ NB203_204.out _; (with_reducible repeat (first | refine blk_drewN ?_ _ | refine blk_drew ?_ | refine blk_alloc ?_ _)); refine blk_far ?_ NB203_204.out _; (with_reducible repeat (first | refine blk_drewN ?_ _ | refine blk_drew ?_ | refine blk_alloc ?_ _)); refine blk_far ?_ NB203_204.out _; (with_reducible repeat (first | refine blk_drewN ?_ _ | refine blk_drew ?_ | refine blk_alloc ?_ _)); refine blk_far ?_ NB203_204.out _; (with_reducible repeat (first | refine blk_drewN ?_ _ | refine blk_drew ?_ | refine blk_alloc ?_ _)); refine blk_far ?_ NB203_204.out _; (with_reducible repeat (first | refine blk_drewN ?_ _ | refine blk_drew ?_ | refine blk_alloc ?_ _)); refine blk_far ?_ NB203_204.out _; (with_reducible repeat (first | refine blk_drewN ?_ _ | refine blk_drew ?_ | refine blk_alloc ?_ _)); exact BK203.out) hg (by simp [Value.ownBlock])); have n2_ := Aside0.mk (blk_grown (g := gb204) (o := .cells #[.string a0, .int .i64 8, .bool false, .int .i64 0, .int .u64 0, .float .f64 0, .string (⟨#[]⟩ : ByteArray), .slice none 0 0] 43 (0, 0)) (by (with_reducible repeat (first | refine blk_drewN ?_ _ | refine blk_drew ?_ | refine blk_alloc ?_ _)); refine blk_put (cs := #[.string a0, .int .i64 8, .bool false, .int .i64 0, .int .u64 0, .float .f64 0, .string (⟨#[]⟩ : ByteArray), .slice none 0 0]) ?_ 7 _ rfl; (with_reducible repeat (first | refine blk_drewN ?_ _ | refine blk_drew ?_ | refine blk_alloc ?_ _)); refine blk_put (cs := #[.string a0, .int .i64 8, .bool false, .int .i64 0, .int .u64 0, .float .f64 0, .string (⟨#[]⟩ : ByteArray), .slice none 0 0]) ?_ 6 _ rfl; (with_reducible repeat (first | refine blk_drewN ?_ _ | refine blk_drew ?_ | refine blk_alloc ?_ _)); refine blk_put (cs := #[.string a0, .int .i64 8, .bool false, .int .i64 0, .int .u64 0, .float .f64 0, .string (⟨#[]⟩ : ByteArray), .slice none 0 0]) ?_ 5 _ rfl; (with_reducible repeat (first | refine blk_drewN ?_ _ | refine blk_drew ?_ | refine blk_alloc ?_ _)); refine blk_put (cs := #[.string a0, .int .i64 8, .bool false, .int .i64 0, .int .u64 0, .float .f64 0, .string (⟨#[]⟩ : ByteArray), .slice none 0 0]) ?_ 4 _ rfl; (with_reducible repeat (first | refine blk_drewN ?_ _ | refine blk_drew ?_ | refine blk_alloc ?_ _)); refine blk_put (cs := #[.string a0, .int .i64 8, .bool false, .int .i64 0, .int .u64 0, .float .f64 0, .string (⟨#[]⟩ : ByteArray), .slice none 0 0]) ?_ 3 _ rfl; (with_reducible repeat (first | refine blk_drewN ?_ _ | refine blk_drew ?_ | refine blk_alloc ?_ _)); refine blk_put (cs := #[.string a0, .int .i64 8, .bool false, .int .i64 0, .int .u64 0, .float .f64 0, .string (⟨#[]⟩ : ByteArray), .slice none 0 0]) ?_ 2 _ rfl; (with_reducible repeat (first | refine blk_drewN ?_ _ | refine blk_drew ?_ | refine blk_alloc ?_ _)); refine blk_put (cs := #[.string a0, .int .i64 0, .bool false, .int .i64 0, .int .u64 0, .float .f64 0, .string (⟨#[]⟩ : ByteArray), .slice none 0 0]) ?_ 1 _ rfl; (with_reducible repeat (first | refine blk_drewN ?_ _ | refine blk_drew ?_ | refine blk_alloc ?_ _)); refine blk_put (cs := #[.string (⟨#[]⟩ : ByteArray), .int .i64 0, .bool false, .int .i64 0, .int .u64 0, .float .f64 0, .string (⟨#[]⟩ : ByteArray), .slice none 0 0]) ?_ 0 _ rfl; (with_reducible repeat (first | refine blk_drewN ?_ _ | refine blk_drew ?_ | refine blk_alloc ?_ _)); exact BK204.out) hg (by simp [Value.ownBlock])); have n3_ := Aside0.mk (hb); have n4_ := Aside0.mk (ho); clear BK202; clear BK203; clear BK204; clear HB; have BK202 := n0_; have BK203 := n1_; have BK204 := n2_; have HB := n3_; have HO207 := n4_; clear n0_ n1_ n2_ n3_ n4_; clear ho hb hg hat; obtain ⟨Ao16, co16, eo16⟩ := Kd.R_slice HO207.out; subst eo16; have hcz17_0 : w15.cell? ⟨gb204, 0, none⟩ = some (.string a0) := (blk_cell BK204.out 0).trans rfl; have hcz17_1 : w15.cell? ⟨gb204, 1, none⟩ = some (.int .i64 8) := (blk_cell BK204.out 1).trans rfl; have hcz17_2 : w15.cell? ⟨gb204, 2, none⟩ = some (.bool false) := (blk_cell BK204.out 2).trans rfl; have hcz17_3 : w15.cell? ⟨gb204, 3, none⟩ = some (.int .i64 0) := (blk_cell BK204.out 3).trans rfl; have hcz17_4 : w15.cell? ⟨gb204, 4, none⟩ = some (.int .u64 0) := (blk_cell BK204.out 4).trans rfl; have hcz17_5 : w15.cell? ⟨gb204, 5, none⟩ = some (.float .f64 0) := (blk_cell BK204.out 5).trans rfl; have hcz17_6 : w15.cell? ⟨gb204, 6, none⟩ = some (.string (⟨#[]⟩ : ByteArray)) := (blk_cell BK204.out 6).trans rfl; have hcz17_7 : w15.cell? ⟨gb204, 7, none⟩ = some (.slice none 0 0) := (blk_cell BK204.out 7).trans rfl; have hfz17_0 := blk_frozen BK204.out 0; have hfz17_1 := blk_frozen BK204.out 1; have hfz17_2 := blk_frozen BK204.out 2; have hfz17_3 := blk_frozen BK204.out 3; have hfz17_4 := blk_frozen BK204.out 4; have hfz17_5 := blk_frozen BK204.out 5; have hfz17_6 := blk_frozen BK204.out 6; have hfz17_7 := blk_frozen BK204.out 7; have hcz18_0 : w15.cell? ⟨gb202, 0, none⟩ = some (.string a1_0) := (blk_cell BK202.out 0).trans rfl; have hcz18_1 : w15.cell? ⟨gb202, 1, none⟩ = some (.int .i64 a1_1) := (blk_cell BK202.out 1).trans rfl; have hcz18_2 : w15.cell? ⟨gb202, 2, none⟩ = some (.int .i64 a1_2) := (blk_cell BK202.out 2).trans rfl; have hcz18_3 : w15.cell? ⟨gb202, 3, none⟩ = some (.int .i64 a1_3) := (blk_cell BK202.out 3).trans rfl; have hfz18_0 := blk_frozen BK202.out 0; have hfz18_1 := blk_frozen BK202.out 1; have hfz18_2 := blk_frozen BK202.out 2; have hfz18_3 := blk_frozen BK202.out 3) | ((with_reducible refine gate_builtin (b := .append) (xs := #[.tmp 17, .tmp 21]) rfl ?_); at_builtin; refine Kd.R_append k43 (w0 := w) w.heap.size rfl (.tmp 17) (.tmp 21) 41 43 (.agg #[(.string ⟨#[]⟩), (.int .i64 0), (.bool false), (.int .i64 0), (.int .u64 0), (.float .f64 0), (.string ⟨#[]⟩), (.slice none 0 0)]) 96 rfl Tryz.underlying41 info43 rfl (by decide) (by omega) (.slice Ao16 y205.length co16) y205 (⟨(⟨#[72, 105, 101, 114, 97, 114, 99, 104, 121]⟩ : ByteArray), 2, false, a1_1, 0, 0, (⟨#[]⟩ : ByteArray), ([] : List (S43))⟩ : S43) [.string (⟨#[72, 105, 101, 114, 97, 114, 99, 104, 121]⟩ : ByteArray), .int .i64 2, .bool false, .int .i64 a1_1, .int .u64 0, .float .f64 0, .string (⟨#[]⟩ : ByteArray), .slice none 0 0] (fun k_ => k_ ≠ gb203 ∧ k_ ≠ gb204) (fun k_ => ((fun k_ => k_ ≠ gb203 ∧ k_ ≠ gb204)) k_ ∧ some k_ ≠ (.slice Ao16 y205.length co16 : Value).ownBlock) rfl (by first | (go_simp; done) | (go_simp; rfl)) ?aP (fun _ hk => hk) ?aF ?aO ?aB ?aS ?aL ?_; (case aP => exact k43_mkM _ _ _ (⟨(⟨#[72, 105, 101, 114, 97, 114, 99, 104, 121]⟩ : ByteArray), 2, false, a1_1, 0, 0, (⟨#[]⟩ : ByteArray), ([] : List (S43))⟩ : S43) (Kd.R_nil _ _ _ _ _)); (case aB => exact (by repeat (first | (with_reducible first | exact HB.out | apply below_alloc | apply pw_below_drewN | apply below_drew1 | refine below_set ?_ GE202.out | refine below_set ?_ GE203.out | refine below_set ?_ GE204.out) | exact HB.out))); (case aF => exact (fun k_ hk => ⟨Kd.freshB (g := gb203) (o := .cells #[.string (⟨#[]⟩ : ByteArray), .int .i64 0, .bool false, .int .i64 0, .int .u64 0, .float .f64 0, .string (⟨#[]⟩ : ByteArray), .slice none 0 0] 43 (0, 0)) (by (with_reducible repeat (first | refine blk_drewN ?_ _ | refine blk_drew ?_ | refine blk_alloc ?_ _)); refine blk_far ?_ NB203_204.out _; (with_reducible repeat (first | refine blk_drewN ?_ _ | refine blk_drew ?_ | refine blk_alloc ?_ _)); exact BK203.out) k_ hk, Kd.freshB (g := gb204) (o := .cells #[.string a0, .int .i64 8, .bool false, .int .i64 0, .int .u64 0, .float .f64 0, .string (⟨#[]⟩ : ByteArray), .slice Ao16 y205.length co16] 43 (0, 0)) (by (with_reducible repeat (first | refine blk_drewN ?_ _ | refine blk_drew ?_ | refine blk_alloc ?_ _)); refine blk_put (cs := #[.string a0, .int .i64 8, .bool false, .int .i64 0, .int .u64 0, .float .f64 0, .string (⟨#[]⟩ : ByteArray), .slice none 0 0]) ?_ 7 _ rfl; (with_reducible repeat (first | refine blk_drewN ?_ _ | refine blk_drew ?_ | refine blk_alloc ?_ _)); exact BK204.out) k_ hk⟩)); (case aO => exact (by (with_reducible repeat (first | apply Kd.R_alloc | apply Kd.R_drewN | apply Kd.R_drew)); exact Kd.R_mono (Kd.R_far (p := ⟨gb204, 7, none⟩) (Kd.R_mono HO207.out (fun k_ hk => (⟨hk, hk.2⟩ : _ ∧ k_ ≠ gb204))) (fun _ hk => hk.2) (.slice Ao16 y205.length co16)) (fun _ hk => ⟨hk.1.1, hk.1.2⟩))); (case aS => exact (below_size (by repeat (first | (with_reducible first | exact HB.out | apply below_alloc | apply pw_below_drewN | apply below_drew1 | refine below_set ?_ GE202.out | refine below_set ?_ GE203.out | refine below_set ?_ GE204.out) | exact HB.out)))); (case aL => have := LMc4.out; omega); intro v209 w19 ho hb hg hat; rw [← Ny208.out] at ho; have n0_ := Aside0.mk (blk_grown (g := gb202) (o := .cells #[.string a1_0, .int .i64 a1_1, .int .i64 a1_2, .int .i64 a1_3] 162 (0, 0)) (by (with_reducible repeat (first | refine blk_drewN ?_ _ | refine blk_drew ?_ | refine blk_alloc ?_ _)); refine blk_far ?_ NB202_204.out _; (with_reducible repeat (first | refine blk_drewN ?_ _ | refine blk_drew ?_ | refine blk_alloc ?_ _)); exact BK202.out) hg (Kd.R_ne HO207.out BK202.out (by decide))); have n1_ := Aside0.mk (blk_grown (g := gb203) (o := .cells #[.string (⟨#[]⟩ : ByteArray), .int .i64 0, .bool false, .int .i64 0, .int .u64 0, .float .f64 0, .string (⟨#[]⟩ : ByteArray), .slice none 0 0] 43 (0, 0)) (by (with_reducible repeat (first | refine blk_drewN ?_ _ | refine blk_drew ?_ | refine blk_alloc ?_ _)); refine blk_far ?_ NB203_204.out _; (with_reducible repeat (first | refine blk_drewN ?_ _ | refine blk_drew ?_ | refine blk_alloc ?_ _)); exact BK203.out) hg (Kd.R_away HO207.out (fun _ hk => hk.1))); have n2_ := Aside0.mk (blk_grown (g := gb204) (o := .cells #[.string a0, .int .i64 8, .bool false, .int .i64 0, .int .u64 0, .float .f64 0, .string (⟨#[]⟩ : ByteArray), .slice Ao16 y205.length co16] 43 (0, 0)) (by (with_reducible repeat (first | refine blk_drewN ?_ _ | refine blk_drew ?_ | refine blk_alloc ?_ _)); refine blk_put (cs := #[.string a0, .int .i64 8, .bool false, .int .i64 0, .int .u64 0, .float .f64 0, .string (⟨#[]⟩ : ByteArray), .slice none 0 0]) ?_ 7 _ rfl; (with_reducible repeat (first | refine blk_drewN ?_ _ | refine blk_drew ?_ | refine blk_alloc ?_ _)); exact BK204.out) hg (Kd.R_away HO207.out (fun _ hk => hk.2))); have n3_ := Aside0.mk (hb); have n4_ := Aside0.mk (ho); clear BK202; clear BK203; clear BK204; clear HB; clear HO207; have BK202 := n0_; have BK203 := n1_; have BK204 := n2_; have HB := n3_; have HO210 := n4_; clear n0_ n1_ n2_ n3_ n4_; clear ho hb hg hat; obtain ⟨Ao20, co20, eo20⟩ := Kd.R_slice HO210.out; subst eo20; have hcz21_0 : w19.cell? ⟨gb204, 0, none⟩ = some (.string a0) := (blk_cell BK204.out 0).trans rfl; have hcz21_1 : w19.cell? ⟨gb204, 1, none⟩ = some (.int .i64 8) := (blk_cell BK204.out 1).trans rfl; have hcz21_2 : w19.cell? ⟨gb204, 2, none⟩ = some (.bool false) := (blk_cell BK204.out 2).trans rfl; have hcz21_3 : w19.cell? ⟨gb204, 3, none⟩ = some (.int .i64 0) := (blk_cell BK204.out 3).trans rfl; have hcz21_4 : w19.cell? ⟨gb204, 4, none⟩ = some (.int .u64 0) := (blk_cell BK204.out 4).trans rfl; have hcz21_5 : w19.cell? ⟨gb204, 5, none⟩ = some (.float .f64 0) := (blk_cell BK204.out 5).trans rfl; have hcz21_6 : w19.cell? ⟨gb204, 6, none⟩ = some (.string (⟨#[]⟩ : ByteArray)) := (blk_cell BK204.out 6).trans rfl; have hcz21_7 : w19.cell? ⟨gb204, 7, none⟩ = some (.slice Ao16 y205.length co16) := (blk_cell BK204.out 7).trans rfl; have hfz21_0 := blk_frozen BK204.out 0; have hfz21_1 := blk_frozen BK204.out 1; have hfz21_2 := blk_frozen BK204.out 2; have hfz21_3 := blk_frozen BK204.out 3; have hfz21_4 := blk_frozen BK204.out 4; have hfz21_5 := blk_frozen BK204.out 5; have hfz21_6 := blk_frozen BK204.out 6; have hfz21_7 := blk_frozen BK204.out 7; have hcz22_0 : w19.cell? ⟨gb202, 0, none⟩ = some (.string a1_0) := (blk_cell BK202.out 0).trans rfl; have hcz22_1 : w19.cell? ⟨gb202, 1, none⟩ = some (.int .i64 a1_1) := (blk_cell BK202.out 1).trans rfl; have hcz22_2 : w19.cell? ⟨gb202, 2, none⟩ = some (.int .i64 a1_2) := (blk_cell BK202.out 2).trans rfl; have hcz22_3 : w19.cell? ⟨gb202, 3, none⟩ = some (.int .i64 a1_3) := (blk_cell BK202.out 3).trans rfl; have hfz22_0 := blk_frozen BK202.out 0; have hfz22_1 := blk_frozen BK202.out 1; have hfz22_2 := blk_frozen BK202.out 2; have hfz22_3 := blk_frozen BK202.out 3) | ((with_reducible refine gate_builtin (b := .append) (xs := #[.tmp 25, .tmp 29]) rfl ?_); at_builtin; refine Kd.R_append k43 (w0 := w) w.heap.size rfl (.tmp 25) (.tmp 29) 41 43 (.agg #[(.string ⟨#[]⟩), (.int .i64 0), (.bool false), (.int .i64 0), (.int .u64 0), (.float .f64 0), (.string ⟨#[]⟩), (.slice none 0 0)]) 96 rfl Tryz.underlying41 info43 rfl (by decide) (by omega) (.slice Ao20 y208.length co20) y208 (⟨(⟨#[67, 103, 114, 111, 117, 112, 115]⟩ : ByteArray), 2, false, a1_2, 0, 0, (⟨#[]⟩ : ByteArray), ([] : List (S43))⟩ : S43) [.string (⟨#[67, 103, 114, 111, 117, 112, 115]⟩ : ByteArray), .int .i64 2, .bool false, .int .i64 a1_2, .int .u64 0, .float .f64 0, .string (⟨#[]⟩ : ByteArray), .slice none 0 0] (fun k_ => k_ ≠ gb203 ∧ k_ ≠ gb204) (fun k_ => ((fun k_ => k_ ≠ gb203 ∧ k_ ≠ gb204)) k_ ∧ some k_ ≠ (.slice Ao20 y208.length co20 : Value).ownBlock) rfl (by first | (go_simp; done) | (go_simp; rfl)) ?aP (fun _ hk => hk) ?aF ?aO ?aB ?aS ?aL ?_; (case aP => exact k43_mkM _ _ _ (⟨(⟨#[67, 103, 114, 111, 117, 112, 115]⟩ : ByteArray), 2, false, a1_2, 0, 0, (⟨#[]⟩ : ByteArray), ([] : List (S43))⟩ : S43) (Kd.R_nil _ _ _ _ _)); (case aB => exact (by repeat (first | (with_reducible first | exact HB.out | apply below_alloc | apply pw_below_drewN | apply below_drew1 | refine below_set ?_ GE202.out | refine below_set ?_ GE203.out | refine below_set ?_ GE204.out) | exact HB.out))); (case aF => exact (fun k_ hk => ⟨Kd.freshB (g := gb203) (o := .cells #[.string (⟨#[]⟩ : ByteArray), .int .i64 0, .bool false, .int .i64 0, .int .u64 0, .float .f64 0, .string (⟨#[]⟩ : ByteArray), .slice none 0 0] 43 (0, 0)) (by (with_reducible repeat (first | refine blk_drewN ?_ _ | refine blk_drew ?_ | refine blk_alloc ?_ _)); refine blk_far ?_ NB203_204.out _; (with_reducible repeat (first | refine blk_drewN ?_ _ | refine blk_drew ?_ | refine blk_alloc ?_ _)); exact BK203.out) k_ hk, Kd.freshB (g := gb204) (o := .cells #[.string a0, .int .i64 8, .bool false, .int .i64 0, .int .u64 0, .float .f64 0, .string (⟨#[]⟩ : ByteArray), .slice Ao20 y208.length co20] 43 (0, 0)) (by (with_reducible repeat (first | refine blk_drewN ?_ _ | refine blk_drew ?_ | refine blk_alloc ?_ _)); refine blk_put (cs := #[.string a0, .int .i64 8, .bool false, .int .i64 0, .int .u64 0, .float .f64 0, .string (⟨#[]⟩ : ByteArray), .slice Ao16 y205.length co16]) ?_ 7 _ rfl; (with_reducible repeat (first | refine blk_drewN ?_ _ | refine blk_drew ?_ | refine blk_alloc ?_ _)); exact BK204.out) k_ hk⟩)); (case aO => exact (by (with_reducible repeat (first | apply Kd.R_alloc | apply Kd.R_drewN | apply Kd.R_drew)); exact Kd.R_mono (Kd.R_far (p := ⟨gb204, 7, none⟩) (Kd.R_mono HO210.out (fun k_ hk => (⟨hk, hk.2⟩ : _ ∧ k_ ≠ gb204))) (fun _ hk => hk.2) (.slice Ao20 y208.length co20)) (fun _ hk => ⟨hk.1.1, hk.1.2⟩))); (case aS => exact (below_size (by repeat (first | (with_reducible first | exact HB.out | apply below_alloc | apply pw_below_drewN | apply below_drew1 | refine below_set ?_ GE202.out | refine below_set ?_ GE203.out | refine below_set ?_ GE204.out) | exact HB.out)))); (case aL => have := LMc5.out; omega); intro v212 w23 ho hb hg hat; rw [← Ny211.out] at ho; have n0_ := Aside0.mk (blk_grown (g := gb202) (o := .cells #[.string a1_0, .int .i64 a1_1, .int .i64 a1_2, .int .i64 a1_3] 162 (0, 0)) (by (with_reducible repeat (first | refine blk_drewN ?_ _ | refine blk_drew ?_ | refine blk_alloc ?_ _)); refine blk_far ?_ NB202_204.out _; (with_reducible repeat (first | refine blk_drewN ?_ _ | refine blk_drew ?_ | refine blk_alloc ?_ _)); exact BK202.out) hg (Kd.R_ne HO210.out BK202.out (by decide))); have n1_ := Aside0.mk (blk_grown (g := gb203) (o := .cells #[.string (⟨#[]⟩ : ByteArray), .int .i64 0, .bool false, .int .i64 0, .int .u64 0, .float .f64 0, .string (⟨#[]⟩ : ByteArray), .slice none 0 0] 43 (0, 0)) (by (with_reducible repeat (first | refine blk_drewN ?_ _ | refine blk_drew ?_ | refine blk_alloc ?_ _)); refine blk_far ?_ NB203_204.out _; (with_reducible repeat (first | refine blk_drewN ?_ _ | refine blk_drew ?_ | refine blk_alloc ?_ _)); exact BK203.out) hg (Kd.R_away HO210.out (fun _ hk => hk.1))); have n2_ := Aside0.mk (blk_grown (g := gb204) (o := .cells #[.string a0, .int .i64 8, .bool false, .int .i64 0, .int .u64 0, .float .f64 0, .string (⟨#[]⟩ : ByteArray), .slice Ao20 y208.length co20] 43 (0, 0)) (by (with_reducible repeat (first | refine blk_drewN ?_ _ | refine blk_drew ?_ | refine blk_alloc ?_ _)); refine blk_put (cs := #[.string a0, .int .i64 8, .bool false, .int .i64 0, .int .u64 0, .float .f64 0, .string (⟨#[]⟩ : ByteArray), .slice Ao16 y205.length co16]) ?_ 7 _ rfl; (with_reducible repeat (first | refine blk_drewN ?_ _ | refine blk_drew ?_ | refine blk_alloc ?_ _)); exact BK204.out) hg (Kd.R_away HO210.out (fun _ hk => hk.2))); have n3_ := Aside0.mk (hb); have n4_ := Aside0.mk (ho); clear BK202; clear BK203; clear BK204; clear HB; clear HO210; have BK202 := n0_; have BK203 := n1_; have BK204 := n2_; have HB := n3_; have HO213 := n4_; clear n0_ n1_ n2_ n3_ n4_; clear ho hb hg hat; obtain ⟨Ao24, co24, eo24⟩ := Kd.R_slice HO213.out; subst eo24; have hcz25_0 : w23.cell? ⟨gb204, 0, none⟩ = some (.string a0) := (blk_cell BK204.out 0).trans rfl; have hcz25_1 : w23.cell? ⟨gb204, 1, none⟩ = some (.int .i64 8) := (blk_cell BK204.out 1).trans rfl; have hcz25_2 : w23.cell? ⟨gb204, 2, none⟩ = some (.bool false) := (blk_cell BK204.out 2).trans rfl; have hcz25_3 : w23.cell? ⟨gb204, 3, none⟩ = some (.int .i64 0) := (blk_cell BK204.out 3).trans rfl; have hcz25_4 : w23.cell? ⟨gb204, 4, none⟩ = some (.int .u64 0) := (blk_cell BK204.out 4).trans rfl; have hcz25_5 : w23.cell? ⟨gb204, 5, none⟩ = some (.float .f64 0) := (blk_cell BK204.out 5).trans rfl; have hcz25_6 : w23.cell? ⟨gb204, 6, none⟩ = some (.string (⟨#[]⟩ : ByteArray)) := (blk_cell BK204.out 6).trans rfl; have hcz25_7 : w23.cell? ⟨gb204, 7, none⟩ = some (.slice Ao20 y208.length co20) := (blk_cell BK204.out 7).trans rfl; have hfz25_0 := blk_frozen BK204.out 0; have hfz25_1 := blk_frozen BK204.out 1; have hfz25_2 := blk_frozen BK204.out 2; have hfz25_3 := blk_frozen BK204.out 3; have hfz25_4 := blk_frozen BK204.out 4; have hfz25_5 := blk_frozen BK204.out 5; have hfz25_6 := blk_frozen BK204.out 6; have hfz25_7 := blk_frozen BK204.out 7; have hcz26_0 : w23.cell? ⟨gb202, 0, none⟩ = some (.string a1_0) := (blk_cell BK202.out 0).trans rfl; have hcz26_1 : w23.cell? ⟨gb202, 1, none⟩ = some (.int .i64 a1_1) := (blk_cell BK202.out 1).trans rfl; have hcz26_2 : w23.cell? ⟨gb202, 2, none⟩ = some (.int .i64 a1_2) := (blk_cell BK202.out 2).trans rfl; have hcz26_3 : w23.cell? ⟨gb202, 3, none⟩ = some (.int .i64 a1_3) := (blk_cell BK202.out 3).trans rfl; have hfz26_0 := blk_frozen BK202.out 0; have hfz26_1 := blk_frozen BK202.out 1; have hfz26_2 := blk_frozen BK202.out 2; have hfz26_3 := blk_frozen BK202.out 3) | ((with_reducible refine gate_builtin (b := .append) (xs := #[.tmp 33, .tmp 37]) rfl ?_); at_builtin; refine Kd.R_append k43 (w0 := w) w.heap.size rfl (.tmp 33) (.tmp 37) 41 43 (.agg #[(.string ⟨#[]⟩), (.int .i64 0), (.bool false), (.int .i64 0), (.int .u64 0), (.float .f64 0), (.string ⟨#[]⟩), (.slice none 0 0)]) 96 rfl Tryz.underlying41 info43 rfl (by decide) (by omega) (.slice Ao24 y211.length co24) y211 (⟨(⟨#[69, 110, 97, 98, 108, 101, 100]⟩ : ByteArray), 2, false, a1_3, 0, 0, (⟨#[]⟩ : ByteArray), ([] : List (S43))⟩ : S43) [.string (⟨#[69, 110, 97, 98, 108, 101, 100]⟩ : ByteArray), .int .i64 2, .bool false, .int .i64 a1_3, .int .u64 0, .float .f64 0, .string (⟨#[]⟩ : ByteArray), .slice none 0 0] (fun k_ => k_ ≠ gb203 ∧ k_ ≠ gb204) (fun k_ => ((fun k_ => k_ ≠ gb203 ∧ k_ ≠ gb204)) k_ ∧ some k_ ≠ (.slice Ao24 y211.length co24 : Value).ownBlock) rfl (by first | (go_simp; done) | (go_simp; rfl)) ?aP (fun _ hk => hk) ?aF ?aO ?aB ?aS ?aL ?_; (case aP => exact k43_mkM _ _ _ (⟨(⟨#[69, 110, 97, 98, 108, 101, 100]⟩ : ByteArray), 2, false, a1_3, 0, 0, (⟨#[]⟩ : ByteArray), ([] : List (S43))⟩ : S43) (Kd.R_nil _ _ _ _ _)); (case aB => exact (by repeat (first | (with_reducible first | exact HB.out | apply below_alloc | apply pw_below_drewN | apply below_drew1 | refine below_set ?_ GE202.out | refine below_set ?_ GE203.out | refine below_set ?_ GE204.out) | exact HB.out))); (case aF => exact (fun k_ hk => ⟨Kd.freshB (g := gb203) (o := .cells #[.string (⟨#[]⟩ : ByteArray), .int .i64 0, .bool false, .int .i64 0, .int .u64 0, .float .f64 0, .string (⟨#[]⟩ : ByteArray), .slice none 0 0] 43 (0, 0)) (by (with_reducible repeat (first | refine blk_drewN ?_ _ | refine blk_drew ?_ | refine blk_alloc ?_ _)); refine blk_far ?_ NB203_204.out _; (with_reducible repeat (first | refine blk_drewN ?_ _ | refine blk_drew ?_ | refine blk_alloc ?_ _)); exact BK203.out) k_ hk, Kd.freshB (g := gb204) (o := .cells #[.string a0, .int .i64 8, .bool false, .int .i64 0, .int .u64 0, .float .f64 0, .string (⟨#[]⟩ : ByteArray), .slice Ao24 y211.length co24] 43 (0, 0)) (by (with_reducible repeat (first | refine blk_drewN ?_ _ | refine blk_drew ?_ | refine blk_alloc ?_ _)); refine blk_put (cs := #[.string a0, .int .i64 8, .bool false, .int .i64 0, .int .u64 0, .float .f64 0, .string (⟨#[]⟩ : ByteArray), .slice Ao20 y208.length co20]) ?_ 7 _ rfl; (with_reducible repeat (first | refine blk_drewN ?_ _ | refine blk_drew ?_ | refine blk_alloc ?_ _)); exact BK204.out) k_ hk⟩)); (case aO => exact (by (with_reducible repeat (first | apply Kd.R_alloc | apply Kd.R_drewN | apply Kd.R_drew)); exact Kd.R_mono (Kd.R_far (p := ⟨gb204, 7, none⟩) (Kd.R_mono HO213.out (fun k_ hk => (⟨hk, hk.2⟩ : _ ∧ k_ ≠ gb204))) (fun _ hk => hk.2) (.slice Ao24 y211.length co24)) (fun _ hk => ⟨hk.1.1, hk.1.2⟩))); (case aS => exact (below_size (by repeat (first | (with_reducible first | exact HB.out | apply below_alloc | apply pw_below_drewN | apply below_drew1 | refine below_set ?_ GE202.out | refine below_set ?_ GE203.out | refine below_set ?_ GE204.out) | exact HB.out)))); (case aL => have := LMc6.out; omega); intro v215 w27 ho hb hg hat; rw [← Ny214.out] at ho; have n0_ := Aside0.mk (blk_grown (g := gb202) (o := .cells #[.string a1_0, .int .i64 a1_1, .int .i64 a1_2, .int .i64 a1_3] 162 (0, 0)) (by (with_reducible repeat (first | refine blk_drewN ?_ _ | refine blk_drew ?_ | refine blk_alloc ?_ _)); refine blk_far ?_ NB202_204.out _; (with_reducible repeat (first | refine blk_drewN ?_ _ | refine blk_drew ?_ | refine blk_alloc ?_ _)); exact BK202.out) hg (Kd.R_ne HO213.out BK202.out (by decide))); have n1_ := Aside0.mk (blk_grown (g := gb203) (o := .cells #[.string (⟨#[]⟩ : ByteArray), .int .i64 0, .bool false, .int .i64 0, .int .u64 0, .float .f64 0, .string (⟨#[]⟩ : ByteArray), .slice none 0 0] 43 (0, 0)) (by (with_reducible repeat (first | refine blk_drewN ?_ _ | refine blk_drew ?_ | refine blk_alloc ?_ _)); refine blk_far ?_ NB203_204.out _; (with_reducible repeat (first | refine blk_drewN ?_ _ | refine blk_drew ?_ | refine blk_alloc ?_ _)); exact BK203.out) hg (Kd.R_away HO213.out (fun _ hk => hk.1))); have n2_ := Aside0.mk (blk_grown (g := gb204) (o := .cells #[.string a0, .int .i64 8, .bool false, .int .i64 0, .int .u64 0, .float .f64 0, .string (⟨#[]⟩ : ByteArray), .slice Ao24 y211.length co24] 43 (0, 0)) (by (with_reducible repeat (first | refine blk_drewN ?_ _ | refine blk_drew ?_ | refine blk_alloc ?_ _)); refine blk_put (cs := #[.string a0, .int .i64 8, .bool false, .int .i64 0, .int .u64 0, .float .f64 0, .string (⟨#[]⟩ : ByteArray), .slice Ao20 y208.length co20]) ?_ 7 _ rfl; (with_reducible repeat (first | refine blk_drewN ?_ _ | refine blk_drew ?_ | refine blk_alloc ?_ _)); exact BK204.out) hg (Kd.R_away HO213.out (fun _ hk => hk.2))); have n3_ := Aside0.mk (hb); have n4_ := Aside0.mk (ho); clear BK202; clear BK203; clear BK204; clear HB; clear HO213; have BK202 := n0_; have BK203 := n1_; have BK204 := n2_; have HB := n3_; have HO216 := n4_; clear n0_ n1_ n2_ n3_ n4_; clear ho hb hg hat; obtain ⟨Ao28, co28, eo28⟩ := Kd.R_slice HO216.out; subst eo28; have hcz29_0 : w27.cell? ⟨gb204, 0, none⟩ = some (.string a0) := (blk_cell BK204.out 0).trans rfl; have hcz29_1 : w27.cell? ⟨gb204, 1, none⟩ = some (.int .i64 8) := (blk_cell BK204.out 1).trans rfl; have hcz29_2 : w27.cell? ⟨gb204, 2, none⟩ = some (.bool false) := (blk_cell BK204.out 2).trans rfl; have hcz29_3 : w27.cell? ⟨gb204, 3, none⟩ = some (.int .i64 0) := (blk_cell BK204.out 3).trans rfl; have hcz29_4 : w27.cell? ⟨gb204, 4, none⟩ = some (.int .u64 0) := (blk_cell BK204.out 4).trans rfl; have hcz29_5 : w27.cell? ⟨gb204, 5, none⟩ = some (.float .f64 0) := (blk_cell BK204.out 5).trans rfl; have hcz29_6 : w27.cell? ⟨gb204, 6, none⟩ = some (.string (⟨#[]⟩ : ByteArray)) := (blk_cell BK204.out 6).trans rfl; have hcz29_7 : w27.cell? ⟨gb204, 7, none⟩ = some (.slice Ao24 y211.length co24) := (blk_cell BK204.out 7).trans rfl; have hfz29_0 := blk_frozen BK204.out 0; have hfz29_1 := blk_frozen BK204.out 1; have hfz29_2 := blk_frozen BK204.out 2; have hfz29_3 := blk_frozen BK204.out 3; have hfz29_4 := blk_frozen BK204.out 4; have hfz29_5 := blk_frozen BK204.out 5; have hfz29_6 := blk_frozen BK204.out 6; have hfz29_7 := blk_frozen BK204.out 7; have hcz30_0 : w27.cell? ⟨gb203, 0, none⟩ = some (.string (⟨#[]⟩ : ByteArray)) := (blk_cell BK203.out 0).trans rfl; have hcz30_1 : w27.cell? ⟨gb203, 1, none⟩ = some (.int .i64 0) := (blk_cell BK203.out 1).trans rfl; have hcz30_2 : w27.cell? ⟨gb203, 2, none⟩ = some (.bool false) := (blk_cell BK203.out 2).trans rfl; have hcz30_3 : w27.cell? ⟨gb203, 3, none⟩ = some (.int .i64 0) := (blk_cell BK203.out 3).trans rfl; have hcz30_4 : w27.cell? ⟨gb203, 4, none⟩ = some (.int .u64 0) := (blk_cell BK203.out 4).trans rfl; have hcz30_5 : w27.cell? ⟨gb203, 5, none⟩ = some (.float .f64 0) := (blk_cell BK203.out 5).trans rfl; have hcz30_6 : w27.cell? ⟨gb203, 6, none⟩ = some (.string (⟨#[]⟩ : ByteArray)) := (blk_cell BK203.out 6).trans rfl; have hcz30_7 : w27.cell? ⟨gb203, 7, none⟩ = some (.slice none 0 0) := (blk_cell BK203.out 7).trans rfl; have hfz30_0 := blk_frozen BK203.out 0; have hfz30_1 := blk_frozen BK203.out 1; have hfz30_2 := blk_frozen BK203.out 2; have hfz30_3 := blk_frozen BK203.out 3; have hfz30_4 := blk_frozen BK203.out 4; have hfz30_5 := blk_frozen BK203.out 5; have hfz30_6 := blk_frozen BK203.out 6; have hfz30_7 := blk_frozen BK203.out 7))
 refine bodyPost_ret (results_cell_row rfl _ _ gb203 43 #[.string a0, .int .i64 8, .bool false, .int .i64 0, .int .u64 0, .float .f64 0, .string (⟨#[]⟩ : ByteArray), .slice Ao28 y214.length co28] (0, 0) _ rfl (by (with_reducible repeat (first | refine blk_drewN ?_ _ | refine blk_drew ?_ | refine blk_alloc ?_ _)); refine blk_put (cs := #[.string a0, .int .i64 8, .bool false, .int .i64 0, .int .u64 0, .float .f64 0, .string (⟨#[]⟩ : ByteArray), .slice none 0 0]) ?_ 7 _ rfl; (with_reducible repeat (first | refine blk_drewN ?_ _ | refine blk_drew ?_ | refine blk_alloc ?_ _)); refine blk_put (cs := #[.string a0, .int .i64 8, .bool false, .int .i64 0, .int .u64 0, .float .f64 0, .string (⟨#[]⟩ : ByteArray), .slice none 0 0]) ?_ 6 _ rfl; (with_reducible repeat (first | refine blk_drewN ?_ _ | refine blk_drew ?_ | refine blk_alloc ?_ _)); refine blk_put (cs := #[.string a0, .int .i64 8, .bool false, .int .i64 0, .int .u64 0, .float .f64 0, .string (⟨#[]⟩ : ByteArray), .slice none 0 0]) ?_ 5 _ rfl; (with_reducible repeat (first | refine blk_drewN ?_ _ | refine blk_drew ?_ | refine blk_alloc ?_ _)); refine blk_put (cs := #[.string a0, .int .i64 8, .bool false, .int .i64 0, .int .u64 0, .float .f64 0, .string (⟨#[]⟩ : ByteArray), .slice none 0 0]) ?_ 4 _ rfl; (with_reducible repeat (first | refine blk_drewN ?_ _ | refine blk_drew ?_ | refine blk_alloc ?_ _)); refine blk_put (cs := #[.string a0, .int .i64 8, .bool false, .int .i64 0, .int .u64 0, .float .f64 0, .string (⟨#[]⟩ : ByteArray), .slice none 0 0]) ?_ 3 _ rfl; (with_reducible repeat (first | refine blk_drewN ?_ _ | refine blk_drew ?_ | refine blk_alloc ?_ _)); refine blk_put (cs := #[.string a0, .int .i64 8, .bool false, .int .i64 0, .int .u64 0, .float .f64 0, .string (⟨#[]⟩ : ByteArray), .slice none 0 0]) ?_ 2 _ rfl; (with_reducible repeat (first | refine blk_drewN ?_ _ | refine blk_drew ?_ | refine blk_alloc ?_ _)); refine blk_put (cs := #[.string a0, .int .i64 0, .bool false, .int .i64 0, .int .u64 0, .float .f64 0, .string (⟨#[]⟩ : ByteArray), .slice none 0 0]) ?_ 1 _ rfl; (with_reducible repeat (first | refine blk_drewN ?_ _ | refine blk_drew ?_ | refine blk_alloc ?_ _)); refine blk_put (cs := #[.string (⟨#[]⟩ : ByteArray), .int .i64 0, .bool false, .int .i64 0, .int .u64 0, .float .f64 0, .string (⟨#[]⟩ : ByteArray), .slice none 0 0]) ?_ 0 _ rfl; (with_reducible repeat (first | refine blk_drewN ?_ _ | refine blk_drew ?_ | refine blk_alloc ?_ _)); refine blk_far ?_ NB203_204.out _; (with_reducible repeat (first | refine blk_drewN ?_ _ | refine blk_drew ?_ | refine blk_alloc ?_ _)); exact BK203.out) Tryz.underlying43 rfl (by kernel_rfl)) rfl ?_
 exact ⟨_, by first | rfl | (simp [errW_none, errW_some] <;> rfl) | (simp [*, errW_none, errW_some] <;> rfl), by (with_reducible repeat (first | apply Kd.R_alloc | apply Kd.R_drewN | apply Kd.R_drew)); exact Kd.R_mono (Kd.R_far (p := ⟨gb203, 7, none⟩) (Kd.R_far (p := ⟨gb203, 6, none⟩) (Kd.R_far (p := ⟨gb203, 5, none⟩) (Kd.R_far (p := ⟨gb203, 4, none⟩) (Kd.R_far (p := ⟨gb203, 3, none⟩) (Kd.R_far (p := ⟨gb203, 2, none⟩) (Kd.R_far (p := ⟨gb203, 1, none⟩) (Kd.R_far (p := ⟨gb203, 0, none⟩) (Kd.R_far (p := ⟨gb204, 7, none⟩) (Kd.R_mono (Kd.R_mono HO216.out (fun k_ hk => (⟨hk, hk.2⟩ : _ ∧ k_ ≠ gb204))) (fun k_ hk => (⟨hk, hk.1.1⟩ : _ ∧ k_ ≠ gb203))) (fun _ hk => hk.1.2) (.slice Ao28 y214.length co28)) (fun _ hk => hk.2) (.string a0)) (fun _ hk => hk.2) (.int .i64 8)) (fun _ hk => hk.2) (.bool false)) (fun _ hk => hk.2) (.int .i64 0)) (fun _ hk => hk.2) (.int .u64 0)) (fun _ hk => hk.2) (.float .f64 0)) (fun _ hk => hk.2) (.string (⟨#[]⟩ : ByteArray))) (fun _ hk => hk.2) (.slice Ao28 y214.length co28)) (fun _ hk => trivial), by repeat (first | (with_reducible first | exact HB.out | apply below_alloc | apply pw_below_drewN | apply below_drew1 | refine below_set ?_ GE202.out | refine below_set ?_ GE203.out | refine below_set ?_ GE204.out) | exact HB.out)⟩
/-! ### impl_CgroupSummary_1_1: function 133 -/
def impl_CgroupSummary_1_1.f (a0_0 : ByteArray) (a0_1 : Int) (a0_2 : Int) (a0_3 : Int) : Option (ByteArray × Int × Bool × Int × Int × Nat × ByteArray × (List (S43))) := (impl_procfsCgroupSummary.f (⟨#[]⟩ : ByteArray) a0_0 a0_1 a0_2 a0_3).bind fun bt219 => (some (bt219.1, bt219.2.1, bt219.2.2.1, bt219.2.2.2.1, bt219.2.2.2.2.1, bt219.2.2.2.2.2.1, bt219.2.2.2.2.2.2.1, bt219.2.2.2.2.2.2.2))
set_option maxHeartbeats 8000000 in
set_option maxRecDepth 100000 in
theorem impl_CgroupSummary_1_1.calls (a0_0 : ByteArray) (a0_1 : Int) (a0_2 : Int) (a0_3 : Int) (r1 : ByteArray) (r2 : Int) (r3 : Bool) (r4 : Int) (r5 : Int) (r6 : Nat) (r7 : ByteArray) (r8 : List (S43)) (w : World) (h : impl_CgroupSummary_1_1.f a0_0 a0_1 a0_2 a0_3 = some (r1, r2, r3, r4, r5, r6, r7, r8)) :
  Calls Tryz.prog 133 #[.agg #[.string a0_0, .int .i64 a0_1, .int .i64 a0_2, .int .i64 a0_3]] w fun e w' => ∃ v7_ : Value, e = .returned (.agg #[.string r1, .int .i64 r2, .bool r3, .int .i64 r4, .int .u64 r5, .float .f64 r6, .string r7, v7_]) ∧ Kd.R k43 43 w' w.heap.size (fun _ => True) v7_ r8 ∧ Below w.heap.size w w' := by
 have hu162 := Tryz.underlying162
 have hu43 := Tryz.underlying43
 have HB := Aside0.mk (Below.refl w.heap.size w)
 have H : ((impl_procfsCgroupSummary.f (⟨#[]⟩ : ByteArray) a0_0 a0_1 a0_2 a0_3).bind fun bt219 => (some (bt219.1, bt219.2.1, bt219.2.2.1, bt219.2.2.2.1, bt219.2.2.2.2.1, bt219.2.2.2.2.2.1, bt219.2.2.2.2.2.2.1, bt219.2.2.2.2.2.2.2))) = some (r1, r2, r3, r4, r5, r6, r7, r8) := h
 clear h
 replace H := Option.bind_eq_some_iff.mp H
 obtain ⟨⟨t219, t220, t221, t222, t223, t224, t225, t226⟩, A20, H⟩ := H
 replace H : (some (t219, t220, t221, t222, t223, t224, t225, t226)) = some (r1, r2, r3, r4, r5, r6, r7, r8) := H
 have A2 := Aside0.mk A20
 clear A20
 simp only [Option.some.injEq, Prod.mk.injEq] at H
 obtain ⟨rfl, rfl, rfl, rfl, rfl, rfl, rfl, rfl⟩ := H
 go_enter Tryz.func133, Tryz.ntmps133
 go_wp2_with (first | ((with_reducible refine gate_dst (N := 1) rfl ?_); refine box_event ?hg (N := 1) ?hd (cs := #[.string a0_0, .int .i64 a0_1, .int .i64 a0_2, .int .i64 a0_3]) (t := 162) ?hr ?_; (case hd => rfl); (case hg => rfl); (case hr => first | (go_simp; done) | (go_simp; rfl)); intro gb217 hg w3 hbox hb; have n0_ := Aside0.mk (below_step (by repeat (first | (with_reducible first | exact HB.out | apply below_alloc | apply pw_below_drewN | apply below_drew1) | exact HB.out)) hb); have n1_ := Aside0.mk (hbox); have n2_ := Aside0.mk ((by rw [hg]; exact (below_size (by repeat (first | (with_reducible first | exact HB.out | apply below_alloc | apply pw_below_drewN | apply below_drew1) | exact HB.out))) : w.heap.size ≤ gb217)); have n3_ := Aside0.mk ((by rw [hg]; exact (below_size (by repeat (first | (with_reducible first | exact HB.out | apply below_alloc | apply pw_below_drewN | apply below_drew1) | exact HB.out))) : w.heap.size ≤ gb217)); clear HB; have HB := n0_; have BK217 := n1_; have GW217 := n2_; have GE217 := n3_; clear n0_ n1_ n2_ n3_; clear hb hbox hg) | ((with_reducible refine gate_dst (N := 2) rfl ?_); refine box_event ?hg (N := 2) ?hd (cs := #[.string (⟨#[]⟩ : ByteArray), .int .i64 0, .bool false, .int .i64 0, .int .u64 0, .float .f64 0, .string (⟨#[]⟩ : ByteArray), .slice none 0 0]) (t := 43) ?hr ?_; (case hd => rfl); (case hg => rfl); (case hr => first | (go_simp; done) | (go_simp; rfl)); intro gb218 hg w4 hbox hb; have n0_ := Aside0.mk (blk_below (g := gb217) (o := .cells #[.string a0_0, .int .i64 a0_1, .int .i64 a0_2, .int .i64 a0_3] 162 (0, 0)) (by (with_reducible repeat (first | refine blk_drewN ?_ _ | refine blk_drew ?_ | refine blk_alloc ?_ _)); exact BK217.out) hb); have n1_ := Aside0.mk (below_step (by repeat (first | (with_reducible first | exact HB.out | apply below_alloc | apply pw_below_drewN | apply below_drew1 | refine below_set ?_ GE217.out) | exact HB.out)) hb); have n2_ := Aside0.mk (hbox); have n3_ := Aside0.mk ((by rw [hg]; exact (below_size (by repeat (first | (with_reducible first | exact HB.out | apply below_alloc | apply pw_below_drewN | apply below_drew1 | refine below_set ?_ GE217.out) | exact HB.out))) : w.heap.size ≤ gb218)); have n4_ := Aside0.mk ((by rw [hg]; exact (below_size (by repeat (first | (with_reducible first | exact HB.out | apply below_alloc | apply pw_below_drewN | apply below_drew1 | refine below_set ?_ GE217.out) | exact HB.out))) : w.heap.size ≤ gb218)); have n5_ := Aside0.mk ((by rw [hg]; exact Nat.ne_of_lt (blk_lt (g := gb217) (o := .cells #[.string a0_0, .int .i64 a0_1, .int .i64 a0_2, .int .i64 a0_3] 162 (0, 0)) (by (with_reducible repeat (first | refine blk_drewN ?_ _ | refine blk_drew ?_ | refine blk_alloc ?_ _)); exact BK217.out)) : gb217 ≠ gb218)); have n6_ := Aside0.mk ((by rw [hg]; exact Nat.ne_of_gt (blk_lt (g := gb217) (o := .cells #[.string a0_0, .int .i64 a0_1, .int .i64 a0_2, .int .i64 a0_3] 162 (0, 0)) (by (with_reducible repeat (first | refine blk_drewN ?_ _ | refine blk_drew ?_ | refine blk_alloc ?_ _)); exact BK217.out)) : gb218 ≠ gb217)); clear BK217; clear HB; have BK217 := n0_; have HB := n1_; have BK218 := n2_; have GW218 := n3_; have GE218 := n4_; have NB217_218 := n5_; have NB218_217 := n6_; clear n0_ n1_ n2_ n3_ n4_ n5_ n6_; clear hb hbox hg; have hnb5 := NB217_218.out; have hnc5 := NB218_217.out; have hcz6_0 : w4.cell? ⟨gb217, 0, none⟩ = some (.string a0_0) := (blk_cell BK217.out 0).trans rfl; have hcz6_1 : w4.cell? ⟨gb217, 1, none⟩ = some (.int .i64 a0_1) := (blk_cell BK217.out 1).trans rfl; have hcz6_2 : w4.cell? ⟨gb217, 2, none⟩ = some (.int .i64 a0_2) := (blk_cell BK217.out 2).trans rfl; have hcz6_3 : w4.cell? ⟨gb217, 3, none⟩ = some (.int .i64 a0_3) := (blk_cell BK217.out 3).trans rfl; have hfz6_0 := blk_frozen BK217.out 0; have hfz6_1 := blk_frozen BK217.out 1; have hfz6_2 := blk_frozen BK217.out 2; have hfz6_3 := blk_frozen BK217.out 3) | ((with_reducible refine gate_callee (f := 134) rfl ?_); refine goesL_ (some 4) rfl rfl Tryz.func134 (by kernel_rfl) rfl #[.string (⟨#[]⟩ : ByteArray), .agg #[.string a0_0, .int .i64 a0_1, .int .i64 a0_2, .int .i64 a0_3]] rfl (by (try simp only [List.map_toArray, List.map_cons, List.map_nil]); first | done | rfl | (simp only [List.length_drop, List.length_take]; rfl)) ?_; (with_reducible refine (impl_procfsCgroupSummary.calls (⟨#[]⟩ : ByteArray) a0_0 a0_1 a0_2 a0_3 t219 t220 t221 t222 t223 t224 t225 t226 _ A2.out).mono ?_); rintro e w7 ⟨v227, rfl, ho0, hb⟩; refine ⟨_, rfl, ?_⟩; have n0_ := Aside0.mk (Kd.R_lower (Kd.R_newB ho0 (g := gb218) (o := .cells #[.string (⟨#[]⟩ : ByteArray), .int .i64 0, .bool false, .int .i64 0, .int .u64 0, .float .f64 0, .string (⟨#[]⟩ : ByteArray), .slice none 0 0] 43 (0, 0)) (by (with_reducible repeat (first | refine blk_drewN ?_ _ | refine blk_drew ?_ | refine blk_alloc ?_ _)); exact BK218.out)) (below_size (by repeat (first | (with_reducible first | exact HB.out | apply below_alloc | apply pw_below_drewN | apply below_drew1 | refine below_set ?_ GE217.out | refine below_set ?_ GE218.out) | exact HB.out)))); have n1_ := Aside0.mk (blk_below (g := gb217) (o := .cells #[.string a0_0, .int .i64 a0_1, .int .i64 a0_2, .int .i64 a0_3] 162 (0, 0)) (by (with_reducible repeat (first | refine blk_drewN ?_ _ | refine blk_drew ?_ | refine blk_alloc ?_ _)); exact BK217.out) hb); have n2_ := Aside0.mk (blk_below (g := gb218) (o := .cells #[.string (⟨#[]⟩ : ByteArray), .int .i64 0, .bool false, .int .i64 0, .int .u64 0, .float .f64 0, .string (⟨#[]⟩ : ByteArray), .slice none 0 0] 43 (0, 0)) (by (with_reducible repeat (first | refine blk_drewN ?_ _ | refine blk_drew ?_ | refine blk_alloc ?_ _)); exact BK218.out) hb); have n3_ := Aside0.mk (below_step (by repeat (first | (with_reducible first | exact HB.out | apply below_alloc | apply pw_below_drewN | apply below_drew1 | refine below_set ?_ GE217.out | refine below_set ?_ GE218.out) | exact HB.out)) hb); clear BK217; clear BK218; clear HB; have HO228 := n0_; have BK217 := n1_; have BK218 := n2_; have HB := n3_; clear n0_ n1_ n2_ n3_; (try clear hb); (try clear hb2); (try clear hk); (try clear hi); (try clear ho0); have hcz8_0 : w7.cell? ⟨gb218, 0, none⟩ = some (.string (⟨#[]⟩ : ByteArray)) := (blk_cell BK218.out 0).trans rfl; have hcz8_1 : w7.cell? ⟨gb218, 1, none⟩ = some (.int .i64 0) := (blk_cell BK218.out 1).trans rfl; have hcz8_2 : w7.cell? ⟨gb218, 2, none⟩ = some (.bool false) := (blk_cell BK218.out 2).trans rfl; have hcz8_3 : w7.cell? ⟨gb218, 3, none⟩ = some (.int .i64 0) := (blk_cell BK218.out 3).trans rfl; have hcz8_4 : w7.cell? ⟨gb218, 4, none⟩ = some (.int .u64 0) := (blk_cell BK218.out 4).trans rfl; have hcz8_5 : w7.cell? ⟨gb218, 5, none⟩ = some (.float .f64 0) := (blk_cell BK218.out 5).trans rfl; have hcz8_6 : w7.cell? ⟨gb218, 6, none⟩ = some (.string (⟨#[]⟩ : ByteArray)) := (blk_cell BK218.out 6).trans rfl; have hcz8_7 : w7.cell? ⟨gb218, 7, none⟩ = some (.slice none 0 0) := (blk_cell BK218.out 7).trans rfl; have hfz8_0 := blk_frozen BK218.out 0; have hfz8_1 := blk_frozen BK218.out 1; have hfz8_2 := blk_frozen BK218.out 2; have hfz8_3 := blk_frozen BK218.out 3; have hfz8_4 := blk_frozen BK218.out 4; have hfz8_5 := blk_frozen BK218.out 5; have hfz8_6 := blk_frozen BK218.out 6; have hfz8_7 := blk_frozen BK218.out 7; obtain ⟨Ao9, co9, eo9⟩ := Kd.R_slice HO228.out; subst eo9))
 refine bodyPost_ret (results_cell_row rfl _ _ gb218 43 #[.string t219, .int .i64 t220, .bool t221, .int .i64 t222, .int .u64 t223, .float .f64 t224, .string t225, .slice Ao9 t226.length co9] (0, 0) _ rfl (by (with_reducible repeat (first | refine blk_drewN ?_ _ | refine blk_drew ?_ | refine blk_alloc ?_ _)); refine blk_put (cs := #[.string t219, .int .i64 t220, .bool t221, .int .i64 t222, .int .u64 t223, .float .f64 t224, .string t225, .slice none 0 0]) ?_ 7 _ rfl; (with_reducible repeat (first | refine blk_drewN ?_ _ | refine blk_drew ?_ | refine blk_alloc ?_ _)); refine blk_put (cs := #[.string t219, .int .i64 t220, .bool t221, .int .i64 t222, .int .u64 t223, .float .f64 t224, .string (⟨#[]⟩ : ByteArray), .slice none 0 0]) ?_ 6 _ rfl; (with_reducible repeat (first | refine blk_drewN ?_ _ | refine blk_drew ?_ | refine blk_alloc ?_ _)); refine blk_put (cs := #[.string t219, .int .i64 t220, .bool t221, .int .i64 t222, .int .u64 t223, .float .f64 0, .string (⟨#[]⟩ : ByteArray), .slice none 0 0]) ?_ 5 _ rfl; (with_reducible repeat (first | refine blk_drewN ?_ _ | refine blk_drew ?_ | refine blk_alloc ?_ _)); refine blk_put (cs := #[.string t219, .int .i64 t220, .bool t221, .int .i64 t222, .int .u64 0, .float .f64 0, .string (⟨#[]⟩ : ByteArray), .slice none 0 0]) ?_ 4 _ rfl; (with_reducible repeat (first | refine blk_drewN ?_ _ | refine blk_drew ?_ | refine blk_alloc ?_ _)); refine blk_put (cs := #[.string t219, .int .i64 t220, .bool t221, .int .i64 0, .int .u64 0, .float .f64 0, .string (⟨#[]⟩ : ByteArray), .slice none 0 0]) ?_ 3 _ rfl; (with_reducible repeat (first | refine blk_drewN ?_ _ | refine blk_drew ?_ | refine blk_alloc ?_ _)); refine blk_put (cs := #[.string t219, .int .i64 t220, .bool false, .int .i64 0, .int .u64 0, .float .f64 0, .string (⟨#[]⟩ : ByteArray), .slice none 0 0]) ?_ 2 _ rfl; (with_reducible repeat (first | refine blk_drewN ?_ _ | refine blk_drew ?_ | refine blk_alloc ?_ _)); refine blk_put (cs := #[.string t219, .int .i64 0, .bool false, .int .i64 0, .int .u64 0, .float .f64 0, .string (⟨#[]⟩ : ByteArray), .slice none 0 0]) ?_ 1 _ rfl; (with_reducible repeat (first | refine blk_drewN ?_ _ | refine blk_drew ?_ | refine blk_alloc ?_ _)); refine blk_put (cs := #[.string (⟨#[]⟩ : ByteArray), .int .i64 0, .bool false, .int .i64 0, .int .u64 0, .float .f64 0, .string (⟨#[]⟩ : ByteArray), .slice none 0 0]) ?_ 0 _ rfl; (with_reducible repeat (first | refine blk_drewN ?_ _ | refine blk_drew ?_ | refine blk_alloc ?_ _)); exact BK218.out) Tryz.underlying43 rfl (by kernel_rfl)) rfl ?_
 exact ⟨_, by first | rfl | (simp [errW_none, errW_some] <;> rfl) | (simp [*, errW_none, errW_some] <;> rfl), by (with_reducible repeat (first | apply Kd.R_alloc | apply Kd.R_drewN | apply Kd.R_drew)); exact Kd.R_mono (Kd.R_far (p := ⟨gb218, 7, none⟩) (Kd.R_far (p := ⟨gb218, 6, none⟩) (Kd.R_far (p := ⟨gb218, 5, none⟩) (Kd.R_far (p := ⟨gb218, 4, none⟩) (Kd.R_far (p := ⟨gb218, 3, none⟩) (Kd.R_far (p := ⟨gb218, 2, none⟩) (Kd.R_far (p := ⟨gb218, 1, none⟩) (Kd.R_far (p := ⟨gb218, 0, none⟩) (Kd.R_mono HO228.out (fun k_ hk => (⟨hk, hk.2⟩ : _ ∧ k_ ≠ gb218))) (fun _ hk => hk.2) (.string t219)) (fun _ hk => hk.2) (.int .i64 t220)) (fun _ hk => hk.2) (.bool t221)) (fun _ hk => hk.2) (.int .i64 t222)) (fun _ hk => hk.2) (.int .u64 t223)) (fun _ hk => hk.2) (.float .f64 t224)) (fun _ hk => hk.2) (.string t225)) (fun _ hk => hk.2) (.slice Ao9 t226.length co9)) (fun _ hk => trivial), by repeat (first | (with_reducible first | exact HB.out | apply below_alloc | apply pw_below_drewN | apply below_drew1 | refine below_set ?_ GE217.out | refine below_set ?_ GE218.out) | exact HB.out)⟩
end Go.Proofs.YtednjmngalmdkaaGreatDoor.GPC
end
section
namespace Go.Proofs.YtednjmngalmdkaaGreatDoor.GPC
open Go.RowKit Go.Proofs.YtednjmngalmdkaaGreatDoorW.PrintWords Go.Proofs.YtednjmngalmdkaaGreatDoorW.PrintLast Go.Proofs.YtednjmngalmdkaaGreatDoorW.PrintMore
attribute [local go_sem] max2_int min2_int max_two min_two max_three min_three max_four min_four   -- for this text's walks alone
set_option linter.unusedVariables false
set_option linter.unusedSimpArgs false

attribute [local go_sem] run_store_float
/-! ### stringslite_HasPrefix: function 216 -/
def stringslite_HasPrefix.f (a0 : ByteArray) (a1 : ByteArray) : Option (Bool) := if (a0.size : Int) ≥ (a1.size : Int) then (if 0 ≤ (a1.size : Int) then (if (a1.size : Int) ≤ (a0.size : Int) then (some ((a0.extract 0 ((a1.size : Int) : Int).toNat).toList == a1.toList)) else (none)) else (none)) else (some false)
set_option maxHeartbeats 8000000 in
set_option maxRecDepth 100000 in
theorem stringslite_HasPrefix.calls (a0 : ByteArray) (a1 : ByteArray) (r : Bool) (w : World) (h : stringslite_HasPrefix.f a0 a1 = some r) :
  Calls Tryz.prog 216 #[.string a0, .string a1] w fun e w' => e = .returned (.bool r) ∧ Drawn0 w w' := by
 have H : (if (a0.size : Int) ≥ (a1.size : Int) then (if 0 ≤ (a1.size : Int) then (if (a1.size : Int) ≤ (a0.size : Int) then (some ((a0.extract 0 ((a1.size : Int) : Int).toNat).toList == a1.toList)) else (none)) else (none)) else (some false)) = some r := h
 clear h
 by_cases c3 : (a0.size : Int) ≥ (a1.size : Int)
 ·rw [if_pos c3] at H
  have c3b0 : decide ((a1.size : Int) ≤ (a0.size : Int)) = true := decide_eq_true c3
  have c3b1 : decide (a1.size ≤ a0.size) = true := decide_eq_true (Int.ofNat_le.mp c3)
  clear c3
  replace H := guard_inv H
  obtain ⟨c4, H⟩ := H
  have c4b0 := eq_true c4
  have c4b1 := decide_eq_true c4
  clear c4
  replace H := guard_inv H
  obtain ⟨c5, H⟩ := H
  have c5b0 := eq_true c5
  have c5b1 := decide_eq_true c5
  clear c5
  obtain rfl := Option.some.inj H
  go_enter Tryz.func216, Tryz.ntmps216
  go_wp2
  go_ret
  exact ⟨by first | rfl | (simp; done) | (simp [*]; done), by repeat (first | exact Drawn0.refl _ | apply Drawn0.step)⟩
 ·rw [if_neg c3] at H
  have c3b0 : decide ((a1.size : Int) ≤ (a0.size : Int)) = false := decide_eq_false c3
  have c3b1 : decide (a1.size ≤ a0.size) = false := decide_eq_false (fun h => c3 (Int.ofNat_le.mpr h))
  clear c3
  obtain rfl := Option.some.inj H
  go_enter Tryz.func216, Tryz.ntmps216
  go_wp2
  go_ret
  exact ⟨by first | rfl | (simp; done) | (simp [*]; done), by repeat (first | exact Drawn0.refl _ | apply Drawn0.step)⟩
/-! ### strings_HasPrefix: function 201 -/
def strings_HasPrefix.f (a0 : ByteArray) (a1 : ByteArray) : Option (Bool) := (stringslite_HasPrefix.f a0 a1).bind fun t101 => (some t101)
set_option maxHeartbeats 8000000 in
set_option maxRecDepth 100000 in
theorem strings_HasPrefix.calls (a0 : ByteArray) (a1 : ByteArray) (r : Bool) (w : World) (h : strings_HasPrefix.f a0 a1 = some r) :
  Calls Tryz.prog 201 #[.string a0, .string a1] w fun e w' => e = .returned (.bool r) ∧ Drawn0 w w' := by
 have H : ((stringslite_HasPrefix.f a0 a1).bind fun t101 => (some t101)) = some r := h
 clear h
 replace H := Option.bind_eq_some_iff.mp H
 obtain ⟨t101, A30, H⟩ := H
 replace H : (some t101) = some r := H
 have A3 := Aside0.mk A30
 clear A30
 obtain rfl := Option.some.inj H
 go_enter Tryz.func201, Tryz.ntmps201
 go_wp2_with (first | ((with_reducible refine gate_callee (f := 216) rfl ?_); refine goesL_ (some 7) rfl rfl Tryz.func216 (by kernel_rfl) rfl #[.string a0, .string a1] rfl (by (try simp only [List.map_toArray, List.map_cons, List.map_nil]); first | done | rfl | (simp only [List.length_drop, List.length_take]; rfl)) ?_; (with_reducible refine (stringslite_HasPrefix.calls a0 a1 t101 _ A3.out).mono ?_); rintro e w' ⟨rfl, ⟨nd, rfl⟩⟩; refine ⟨_, rfl, ?_⟩))
 go_ret
 exact ⟨by first | rfl | (simp; done) | (simp [*]; done), by repeat (first | exact Drawn0.refl _ | apply Drawn0.step)⟩

/-- THE ONE PURE STATEMENT of strings_HasPrefix: yours. -/
def strings_HasPrefix.Pure : Prop := ∀ (a0 : ByteArray) (a1 : ByteArray), a0.size ≤ 140737488351232 → a1.size ≤ 140737488351232 → strings_HasPrefix.f a0 a1 = some true
theorem strings_HasPrefix.walk (P : strings_HasPrefix.Pure) (a0 : ByteArray) (a1 : ByteArray) (w : World) (w0 : a0.size ≤ 140737488351232) (w1 : a1.size ≤ 140737488351232) :
  Calls Tryz.prog 201 #[.string a0, .string a1] w fun e w' => e = .returned (.bool true) ∧ Below w.heap.size w w' := by
 have h := P a0 a1 w0 w1
 refine (strings_HasPrefix.calls a0 a1 true w h).mono ?_
 rintro e w' ⟨rfl, hd⟩
 exact ⟨rfl, hd.below⟩
end Go.Proofs.YtednjmngalmdkaaGreatDoor.GPC
end
section
/- procfs.parseCgroupSummaryString: what a line says. Conditions: cgF; the tables as laid. -/
namespace Go.Proofs.YtednjmngalmdkaaGreatDoor.GPC
open Go Go.RowKit Go.Proofs.YtednjmngalmdkaaGreatDoorW.PrintWords Go.Proofs.YtednjmngalmdkaaGreatDoorW.PrintLast
set_option linter.unusedVariables false
set_option linter.unusedSimpArgs false
def cgF (t : ByteArray) : Option S162 := (strings_Fields.f t).bind fun fs => if 4 ≤ fs.length then
 (atoiF (rdOf ByteArray.empty fs 1)).bind fun a => (atoiF (rdOf ByteArray.empty fs 2)).bind fun b => (atoiF (rdOf ByteArray.empty fs 3)).bind fun c => some ⟨rdOf ByteArray.empty fs 0, a, b, c⟩ else none
theorem cgF_some {t : ByteArray} {m : S162} (h : cgF t = some m) : ∃ fs, strings_Fields.f t = some fs ∧ 4 ≤ fs.length ∧ m.f0 = rdOf ByteArray.empty fs 0 ∧ atoiF (rdOf ByteArray.empty fs 1) = some m.f1 ∧ atoiF (rdOf ByteArray.empty fs 2) = some m.f2 ∧ atoiF (rdOf ByteArray.empty fs 3) = some m.f3 := by
 unfold cgF at h
 obtain ⟨fs, h1, h⟩ := Option.bind_eq_some_iff.1 h
 split at h
 ·rename_i h4
  obtain ⟨a, ha, h⟩ := Option.bind_eq_some_iff.1 h
  obtain ⟨b, hb, h⟩ := Option.bind_eq_some_iff.1 h
  obtain ⟨c, hc, h⟩ := Option.bind_eq_some_iff.1 h
  obtain rfl := Option.some.inj h
  exact ⟨fs, h1, h4, rfl, ha, hb, hc⟩
 ·cases h
def cgCells (m : S162) : Array Value := #[.string m.f0, .int .i64 m.f1, .int .i64 m.f2, .int .i64 m.f3]
def cgObj (m : S162) : Obj := .cells (cgCells m) 162 (0, 0)
set_option maxHeartbeats 8000000 in
set_option maxRecDepth 100000 in
theorem cgStr (t : ByteArray) (m : S162) (w : World) (hT : TabW w) (h : cgF t = some m) :
  Calls Tryz.prog 202 #[.string t] w fun e w' => ∃ g, e = .returned (.tuple #[.pointer (some ⟨g, 0, none⟩), .nilIface]) ∧ w.heap.size ≤ g ∧ w'.heap[g]? = some (cgObj m) ∧ Below w.heap.size w w' := by
 obtain ⟨fs, hfs, h4, e0, ha, hb, hc⟩ := cgF_some h
 obtain ⟨m0, a, b, c⟩ := m
 simp only at e0 ha hb hc
 obtain ⟨s0, hs0⟩ : ∃ s, s = rdOf ByteArray.empty fs 0 := ⟨_, rfl⟩
 obtain ⟨s1, hs1⟩ : ∃ s, s = rdOf ByteArray.empty fs 1 := ⟨_, rfl⟩
 obtain ⟨s2, hs2⟩ : ∃ s, s = rdOf ByteArray.empty fs 2 := ⟨_, rfl⟩
 obtain ⟨s3, hs3⟩ : ∃ s, s = rdOf ByteArray.empty fs 3 := ⟨_, rfl⟩
 rw [← hs0] at e0
 rw [← hs1] at ha
 rw [← hs2] at hb
 rw [← hs3] at hc
 have S0 := Aside0.mk hs0
 have S1 := Aside0.mk hs1
 have S2 := Aside0.mk hs2
 have S3 := Aside0.mk hs3
 have HT := Aside0.mk hT
 have HPS := Aside0.mk hfs
 have H4 := Aside0.mk h4
 have E0 := Aside0.mk e0
 have HA := Aside0.mk ha
 have HB := Aside0.mk hb
 have HC := Aside0.mk hc
 have d4 : decide ((fs.length : Int) < 4) = false := decide_eq_false (by omega)
 have d4' : decide (fs.length < 4) = false := decide_eq_false (by omega)
 have z0 : ((0 : Int) < (fs.length : Int)) = True := eq_true (by omega)
 have z1 : ((1 : Int) < (fs.length : Int)) = True := eq_true (by omega)
 have z2 : ((2 : Int) < (fs.length : Int)) = True := eq_true (by omega)
 have z3 : ((3 : Int) < (fs.length : Int)) = True := eq_true (by omega)
 have k0 : (0 < fs.length) = True := eq_true (by omega)
 have k1 : (1 < fs.length) = True := eq_true (by omega)
 have k2 : (2 < fs.length) = True := eq_true (by omega)
 have k3 : (3 < fs.length) = True := eq_true (by omega)
 clear hT h hfs h4 e0 ha hb hc hs0 hs1 hs2 hs3
 go_enter Tryz.func202, Tryz.ntmps202
 go_wp2_with (first
  | (go_at_call 190; refine (strings_Fields.calls t fs _ HT.out HPS.out).mono ?_; rintro e w1 ⟨v0, rfl, hf, hb1⟩; obtain ⟨gs, cap, rfl, hgs1, hgs2, cells, hcells⟩ := Kd.R_form hf (by have := H4.out; omega); have HFS := Aside0.mk hf; have HB1 := Aside0.mk hb1; have c0 : w1.cell? ⟨gs, 0, none⟩ = some (.string s0) := by { rw [S0.out]; exact (Kd.R_cell ByteArray.empty hf 0 (by omega) (by have := H4.out; omega)).1 }; have c1 : w1.cell? ⟨gs, 1, none⟩ = some (.string s1) := by { rw [S1.out]; exact (Kd.R_cell ByteArray.empty hf 1 (by omega) (by have := H4.out; omega)).1 }; have hne1 : (gs = w1.heap.size) = False := eq_false (by omega); have hne2 : (w1.heap.size = gs) = False := eq_false (by omega); clear hf hb1 hcells)
  | (go_at_call 215; (with_reducible refine (atoi_call _ a _ HA.out).mono ?_); rintro e w2 ⟨rfl, hb2⟩; have HB2 := Aside0.mk (below_step (below_alloc HB1.out (.cells #[.string s0, .int .i64 0, .int .i64 0, .int .i64 0] 162 (0, 0))) hb2); have HFS2 := Aside0.mk (Kd.R_below HFS.out (below_step (below_alloc (Below.refl w1.heap.size w1) (.cells #[.string s0, .int .i64 0, .int .i64 0, .int .i64 0] 162 (0, 0))) hb2)); have HBK2 := Aside0.mk (blk_below (heap_alloc_new w1 (.cells #[.string s0, .int .i64 0, .int .i64 0, .int .i64 0] 162 (0, 0))) hb2); clear hb2; have hfz := blk_frozen HBK2.out 1; have hcg : w2.cell? ⟨w1.heap.size, 1, none⟩ = some (.int .i64 0) := (blk_cell HBK2.out 1).trans rfl; have c2 : w2.cell? ⟨gs, 2, none⟩ = some (.string s2) := by { rw [S2.out]; exact (Kd.R_cell ByteArray.empty HFS2.out 2 (by omega) (by have := H4.out; omega)).1 })
  | (go_at_call 215; (with_reducible refine (atoi_call _ b _ HB.out).mono ?_); rintro e w3 ⟨rfl, hb2⟩; have HBS2 := Aside0.mk (below_set HB2.out (g := w1.heap.size) (j := 1) (v := .int .i64 a) (by have := HB1.out.size; omega)); have HB3 := Aside0.mk (below_step HBS2.out hb2); have HFS3 := Aside0.mk (Kd.R_below (Kd.R_set HFS2.out HBK2.out (by decide) 1 (.int .i64 a)) hb2); have HBK3 := Aside0.mk (blk_below (blk_put HBK2.out (cs' := #[.string s0, .int .i64 a, .int .i64 0, .int .i64 0]) 1 (.int .i64 a) rfl) hb2); clear hb2; have hfz3 := blk_frozen HBK3.out 2; have hcg3 : w3.cell? ⟨w1.heap.size, 2, none⟩ = some (.int .i64 0) := (blk_cell HBK3.out 2).trans rfl; have c3 : w3.cell? ⟨gs, 3, none⟩ = some (.string s3) := by { rw [S3.out]; exact (Kd.R_cell ByteArray.empty HFS3.out 3 (by omega) (by have := H4.out; omega)).1 })
  | (go_at_call 215; (with_reducible refine (atoi_call _ c _ HC.out).mono ?_); rintro e w4 ⟨rfl, hb2⟩; have HBS3 := Aside0.mk (below_set HB3.out (g := w1.heap.size) (j := 2) (v := .int .i64 b) (by have := HB1.out.size; omega)); have HB4 := Aside0.mk (below_step HBS3.out hb2); have HFS4 := Aside0.mk (Kd.R_below (Kd.R_set HFS3.out HBK3.out (by decide) 2 (.int .i64 b)) hb2); have HBK4 := Aside0.mk (blk_below (blk_put HBK3.out (cs' := #[.string s0, .int .i64 a, .int .i64 b, .int .i64 0]) 2 (.int .i64 b) rfl) hb2); clear hb2; have hfz4 := blk_frozen HBK4.out 3; have hcg4 : w4.cell? ⟨w1.heap.size, 3, none⟩ = some (.int .i64 0) := (blk_cell HBK4.out 3).trans rfl))
 go_ret2
 have hfin := blk_put HBK4.out (cs' := #[.string s0, .int .i64 a, .int .i64 b, .int .i64 c]) 3 (.int .i64 c) rfl
 have hbf := below_set HB4.out (g := w1.heap.size) (j := 3) (v := .int .i64 c) (by have := HB1.out.size; omega)
 rw [E0.out]
 exact ⟨_, rfl, HB1.out.size, hfin, hbf⟩
end Go.Proofs.YtednjmngalmdkaaGreatDoor.GPC
end
section
/- procfs.parseCgroupSummary: the rows that a text says, line by line. Conditions: rowsF; the tables as laid. -/
namespace Go.Proofs.YtednjmngalmdkaaGreatDoor.GPC
open Go Go.RowKit Go.Proofs.YtednjmngalmdkaaGreatDoorW.PrintWords Go.Proofs.YtednjmngalmdkaaGreatDoorW.PrintLast
set_option linter.unusedVariables false
set_option linter.unusedSimpArgs false
def cgL (t : ByteArray) : Option (Option S162) := (strings_HasPrefix.f t ⟨#[35]⟩).bind fun h => if h = true then some none else (cgF t).map some
theorem infoCg : (Tryz.prog.info? 162).map (fun i => (i.zero, i.size, i.bytes)) = some (some (.agg #[(.string ⟨#[]⟩), (.int .i64 0), (.int .i64 0), (.int .i64 0)]), 4, 40) := by kernel_rfl
set_option maxHeartbeats 8000000 in
set_option maxRecDepth 100000 in
theorem cgParse (k : Nat) (A0 : Option Addr) (c0 : Nat) (l0 : List Int) (ms : List S162) (w : World) (hr0 : Kd.C (Kd.int .u8) w A0 l0.length l0) (hc0 : l0.length ≤ c0) (hT : TabW w) (h : rowsF cgL k (strOfNums l0) = some ms) :
  Calls Tryz.prog 189 #[.slice A0 l0.length c0] w fun e w' => ∃ v, e = .returned (.tuple #[v, .nilIface]) ∧ Kd.R k162 162 w' w.heap.size (fun _ => True) v ms ∧ Below w.heap.size w w' := by
 have hcv := Kd.C_string (P := Tryz.prog) (A := A0) (c := c0) Tryz.underlying173 Tryz.underlying5 Tryz.underlying56 hr0
 have HT := Aside0.mk hT
 have HSZ := Aside0.mk (rowsF_size h)
 have H := Aside0.mk h
 have HC0 := Aside0.mk hc0
 clear hr0 hT h
 generalize strOfNums l0 = text at hcv H HSZ
 go_enter Tryz.func189, Tryz.ntmps189
 go_wp2_with (first
  | (go_at_call 154; refine (GL.lines_new text _).mono ?_; rintro e w1 ⟨g, rfl, hg1, hg2, hb1⟩; have HB := Aside0.mk hb1; have HG := Aside0.mk hg2; have HG1 := Aside0.mk hg1; clear hg1 hg2 hb1))
 go_loopg [4] k (fun kq v4 w' => ∃ (t line : ByteArray) (rest done : List S162), Aside0 (rowsF cgL kq t = some rest) ∧ Aside0 (done ++ rest = ms) ∧ Aside0 (t.size = 0 ∨ done.length + t.size ≤ 1000000) ∧
  Aside0 (w'.heap[g]? = some (GL.linesCells t line)) ∧ Aside0 (Kd.R k162 162 w' w.heap.size (fun _ => True) v4 done) ∧ Aside0 (Below w.heap.size w w'))
 case atStart => exact ⟨text, _, ms, [], H, ⟨rfl⟩, ⟨by simpa using HSZ.out⟩, HG, ⟨Kd.R_nil _ _ _ _ _⟩, HB⟩
 case round =>
  clear H HSZ HG HB hcv
  obtain ⟨t, line, rest, done, H, HD, HS, HG, HO, HB⟩ := hrel
  cases gk with
  | zero => exact absurd H.out (by simp [rowsF])
  | succ k1 =>
   by_cases ht : t.size = 0
   ·have h := H.out
    clear H
    unfold rowsF at h
    rw [if_pos ht] at h
    obtain rfl := Option.some.inj h
    obtain rfl := GL.size0 ht
    clear h ht
    go_wp2_with (first
     | (go_at_call 155; refine (GL.lines_scan_end g line _ HG.out).mono ?_; rintro e w3 ⟨rfl, hg3, hgr3⟩)
     | (go_at_call 193; refine (GL.lines_err g _ _ _ hg3).mono ?_; rintro e w4 ⟨rfl, rfl⟩))
    go_ret2
    refine ⟨_, rfl, ?_, ?_⟩
    ·have := HD.out
     rw [List.append_nil] at this
     rw [← this]
     exact Kd.R_mono (Kd.R_grown (Kd.R_types HO.out HG.out (by decide)) hgr3 (fun k hk e => hk.2 (by cases e; rfl))) (fun _ _ => trivial)
    ·exact pw_below_grown HB.out (some g) HB.out.size hgr3 (fun k e => by cases e; exact HG1.out)
   ·obtain ⟨hok, m, ms', hm, hms, hre⟩ := rowsF_step H.out ht
    have HT2 := Aside0.mk ht
    have HOK := Aside0.mk hok
    have HMS := Aside0.mk hms
    have HRE := Aside0.mk hre
    clear H ht hok hms hre
    unfold cgL at hm
    obtain ⟨hp, hpf, hm⟩ := Option.bind_eq_some_iff.1 hm
    have HPF := Aside0.mk hpf
    clear hpf
    cases hp with
    | true =>
     rw [if_pos rfl] at hm
     cases Option.some.inj hm
     clear hm
     go_wp2_with (first
      | (go_at_call 155; refine (GL.lines_scan g t line _ HG.out (by have := HT2.out; omega) (by have := HOK.out.1; omega) HOK.out.2.1 HOK.out.2.2).mono ?_; rintro e w3 ⟨rfl, hg3, hgr3⟩; have HO3 := Aside0.mk (Kd.R_mono (Kd.R_grown (Kd.R_types HO.out HG.out (by decide)) hgr3 (fun k hk e => hk.2 (by cases e; rfl))) (fun _ _ => trivial) : Kd.R k162 162 w3 w.heap.size (fun _ => True) _ done); have HB3 := Aside0.mk (pw_below_grown HB.out (some g) HB.out.size hgr3 (fun k e => by cases e; exact HG1.out)); have HG3 := Aside0.mk hg3; clear hg3 hgr3)
      | (go_at_call 157; refine (GL.lines_text g _ _ _ HG3.out).mono ?_; rintro e w3' ⟨rfl, rfl⟩)
      | (go_at_call 201; refine (strings_HasPrefix.calls _ _ true _ HPF.out).mono ?_; rintro e w5 ⟨rfl, hd5⟩; have HB5 := Aside0.mk hd5.below; clear hd5))
     go_roundg k1
     case measure => omega
     case rel =>
      exact ⟨GL.restOf t, GL.lineOf t, ms', done, HMS, ⟨by have := HD.out; rw [HRE.out] at this; simpa using this⟩, ⟨by have := restOf_size t (by have := HT2.out; omega); have := HS.out; have := HT2.out; omega⟩, ⟨blk_below HG3.out HB5.out⟩, ⟨Kd.R_below HO3.out HB5.out⟩, ⟨below_step HB3.out HB5.out⟩⟩
    | false =>
     rw [if_neg (by decide)] at hm
     obtain ⟨m, hm2, e2⟩ := Option.map_eq_some_iff.1 hm
     cases e2
     have HM := Aside0.mk hm2
     clear hm hm2
     go_wp2_with (first
      | (go_at_call 155; refine (GL.lines_scan g t line _ HG.out (by have := HT2.out; omega) (by have := HOK.out.1; omega) HOK.out.2.1 HOK.out.2.2).mono ?_; rintro e w3 ⟨rfl, hg3, hgr3⟩; have HO3 := Aside0.mk (Kd.R_mono (Kd.R_grown (Kd.R_types HO.out HG.out (by decide)) hgr3 (fun k hk e => hk.2 (by cases e; rfl))) (fun _ _ => trivial) : Kd.R k162 162 w3 w.heap.size (fun _ => True) _ done); have HB3 := Aside0.mk (pw_below_grown HB.out (some g) HB.out.size hgr3 (fun k e => by cases e; exact HG1.out)); have HG3 := Aside0.mk hg3; clear hg3 hgr3)
      | (go_at_call 157; refine (GL.lines_text g _ _ _ HG3.out).mono ?_; rintro e w3' ⟨rfl, rfl⟩)
      | (go_at_call 201; refine (strings_HasPrefix.calls _ _ false _ HPF.out).mono ?_; rintro e w5 ⟨rfl, hd5⟩; have HB5 := Aside0.mk hd5.below; clear hd5)
      | (go_at_call 202; refine (cgStr _ m _ (tabW_below HT.out (below_step HB3.out HB5.out)) HM.out).mono ?_; rintro e w6 ⟨p, rfl, hp1, hp2, hb6⟩; have HB6 := Aside0.mk hb6; have HP1 := Aside0.mk hp1; have HP2 := Aside0.mk hp2; have q0 : w6.cell? ⟨p, 0, none⟩ = some (.string m.f0) := (blk_cell hp2 0).trans rfl; have q1 : w6.cell? ⟨p, 1, none⟩ = some (.int .i64 m.f1) := (blk_cell hp2 1).trans rfl; have q2 : w6.cell? ⟨p, 2, none⟩ = some (.int .i64 m.f2) := (blk_cell hp2 2).trans rfl; have q3 : w6.cell? ⟨p, 3, none⟩ = some (.int .i64 m.f3) := (blk_cell hp2 3).trans rfl; have HO6 := Aside0.mk (Kd.R_below (Kd.R_below HO3.out HB5.out) hb6); have HX6 := Aside0.mk (below_step (below_step HB3.out HB5.out) hb6); have HG6 := Aside0.mk (blk_below (blk_below HG3.out HB5.out) hb6); clear hb6 hp1 hp2)
      | ((with_reducible refine gate_builtin (b := .append) (xs := #[.tmp 27, .tmp 31]) rfl ?_); at_builtin; refine Kd.R_append k162 (w0 := w) w.heap.size rfl (.tmp 27) (.tmp 31) 158 162 (.agg #[(.string ⟨#[]⟩), (.int .i64 0), (.int .i64 0), (.int .i64 0)]) 40 rfl Tryz.underlying158 infoCg rfl (by decide) (by omega) u4 done m [.string m.f0, .int .i64 m.f1, .int .i64 m.f2, .int .i64 m.f3] (fun _ => True) (fun _ => False) rfl (by first | (go_simp; done) | (go_simp; rfl)) (k162_mkM _ _ _ m) (fun _ hk => hk.elim) (fun _ _ => trivial) HO6.out HX6.out HX6.out.size (by have := HS.out; have := HT2.out; omega) ?_; intro v11 w11 ho hb hg _; have HO11 := Aside0.mk ho; have HB11 := Aside0.mk hb; have HG11 := Aside0.mk (blk_grown HG6.out hg (Kd.R_ne HO6.out HG6.out (by decide))); clear ho hb hg))
     go_roundg k1
     case measure => omega
     case rel =>
      exact ⟨GL.restOf t, GL.lineOf t, ms', done ++ [m], HMS, ⟨by have := HD.out; rw [HRE.out] at this; rw [← this]; simp⟩, ⟨by have := restOf_size t (by have := HT2.out; omega); have := HS.out; have := HT2.out; simp; omega⟩, HG11, HO11, HB11⟩
end Go.Proofs.YtednjmngalmdkaaGreatDoor.GPC
end
section
/- A call of a function value in a region that draws; reads of floats. Plain laws of the walk. -/
namespace Go.Proofs.YtednjmngalmdkaaGreatDoor.GPC
open Go.RowKit Go.Proofs.YtednjmngalmdkaaGreatDoorW.PrintWords Go.Proofs.YtednjmngalmdkaaGreatDoorW.PrintLast
set_option linter.unusedVariables false
open Kd in
section
variable {P : Program} {ops : Array Oper} {Q : Exit → Act → World → Prop}
theorem goesV_ {oi : Oper} {N : Option Tmp} {a : Act} {w : World} {K : Act → World → Prop} {f : FuncId} {fn : Func} {asx : Array Operand} {ts : Array TypeId} {x : Operand} (hf : P.funcs[f]? = some fn) (hname : (fn.name == "runtime.NumGoroutine") = false) (hb : fn.body.isSome = true) (args : Array Value)
  (hw : Region.wanted oi (yielded ops a.tmps) = true) (hN : oi.dst = N) (hop : oi.op = .call { callee := .value x, args := asx, argTypes := ts }) (hx : a.eval x = .func (.func f) #[] #[]) (hargs : asx.map a.eval = args)
  (h : Calls P f args w fun e w' => ∃ v, e = .returned v ∧ K (a.put N v) w') : if Region.wanted oi (yielded ops a.tmps) = true then Oper.wp P oi a w K Q else K (a.put N undef) w := by
 refine call_ f args hw hN ?_ h
 have he := enters_ hf hname hb args w
 unfold execOp
 simp [hop, resolve, Deferred.ofValue, invoke, hx, hargs, he]
end
end Go.Proofs.YtednjmngalmdkaaGreatDoor.GPC
end
