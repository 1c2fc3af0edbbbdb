/- Texts of this claim, put together: GPEx20, BackSchedstat, LwSchedstat, PlNode, PNum, PlBase, PlFit, PlFlt, PlNums, PlLines, PlGen, PlWords, PlSchedstat. Conditions: as each one says. -/
import Derived.Test.YtednjmngalmdkaaGreatDoorKSd0
import Derived.Test.YtednjmngalmdkaaGreatDoorKSd1
import Derived.Test.YtednjmngalmdkaaGreatDoorKSd2
import Derived.Test.YtednjmngalmdkaaGreatDoorKSd3
import Derived.Test.YtednjmngalmdkaaGreatDoorKSd4
import Derived.Test.YtednjmngalmdkaaGreatDoorProg
import Derived.Below
import Derived.Deep.Draws
import Derived.Deep.AppendLies
import Derived.Maps.AppendAt
import Derived.OwnWalk
import Derived.Laws.BytesArg
import Derived.Laws.MakeOwn
import Derived.Laws.OwnMore
import Derived.Deep.OwnRows
import Derived.Tactics
import Derived.Lib.ConvBytes
import Derived.Laws.Slices
import Derived.WalkKit
import Derived.KernelRfl
import Derived.RowKit3
import Derived.Deep.LoopGhost
import Derived.Deep.QuietTactic
import Derived.BigQuiet
import Derived.WideLaws
import Derived.Deep.DeepCutAuto
import Derived.Deep.CutBlock
import Derived.Deep.RegionHeld3
import Derived.Laws.Rows
import Derived.Lib.AppendStr
import Derived.ArgAppend
import Derived.Laws.IdiomCopy
import Derived.OrdersHeld
import Derived.Laws.BitsLemmas
import Derived.RowKit
import Derived.Laws.FloatArith
import Derived.Laws.Strings
section
namespace Go.Proofs.YtednjmngalmdkaaGreatDoor.GPC
open Go.RowKit Go.Proofs.YtednjmngalmdkaaGreatDoorW.PrintWords Go.Proofs.YtednjmngalmdkaaGreatDoorW.PrintLast Go.Proofs.YtednjmngalmdkaaGreatDoorW.PrintMore
attribute [local go_sem] max2_int min2_int max_two min_two max_three min_three max_four min_four   -- for this text's walks alone
set_option linter.unusedVariables false
set_option linter.unusedSimpArgs false

attribute [local go_sem] run_store_float
/-! ### spec_SchedstatTree: function 25 -/
def spec_SchedstatTree.l0 : Nat → List (S39) → List (S31) → Int → Int → Option (ByteArray × Int × Bool × Int × Int × Nat × ByteArray × (List (S39)) × Int)
 | 0, _, _, _, _ => none
 | k + 1, x6, x17, x18, x19 => if x19 < x18 then (if 0 ≤ x19 then (if x19 < (x17.length : Int) then ((spec_textNode.f (⟨#[67, 80, 85, 78, 117, 109]⟩ : ByteArray) ((rd_T31 x17 x19).f0)).bind fun bt901 => (if 6 < (((rd_T31 x17 x19).f1).length : Int) then ((spec_uintNode.f (⟨#[82, 117, 110, 110, 105, 110, 103, 78, 97, 110, 111, 115, 101, 99, 111, 110, 100, 115]⟩ : ByteArray) (rd ((rd_T31 x17 x19).f1) 6)).bind fun bt912 => (if 7 < (((rd_T31 x17 x19).f1).length : Int) then ((spec_uintNode.f (⟨#[87, 97, 105, 116, 105, 110, 103, 78, 97, 110, 111, 115, 101, 99, 111, 110, 100, 115]⟩ : ByteArray) (rd ((rd_T31 x17 x19).f1) 7)).bind fun bt923 => (if 8 < (((rd_T31 x17 x19).f1).length : Int) then ((spec_uintNode.f (⟨#[82, 117, 110, 84, 105, 109, 101, 115, 108, 105, 99, 101, 115]⟩ : ByteArray) (rd ((rd_T31 x17 x19).f1) 8)).bind fun bt934 => ((spec_recordNode.f (⟨#[]⟩ : ByteArray) (([(⟨bt901.1, bt901.2.1, bt901.2.2.1, bt901.2.2.2.1, bt901.2.2.2.2.1, bt901.2.2.2.2.2.1, bt901.2.2.2.2.2.2.1, bt901.2.2.2.2.2.2.2⟩ : S39), (⟨bt912.1, bt912.2.1, bt912.2.2.1, bt912.2.2.2.1, bt912.2.2.2.2.1, bt912.2.2.2.2.2.1, bt912.2.2.2.2.2.2.1, bt912.2.2.2.2.2.2.2⟩ : S39), (⟨bt923.1, bt923.2.1, bt923.2.2.1, bt923.2.2.2.1, bt923.2.2.2.2.1, bt923.2.2.2.2.2.1, bt923.2.2.2.2.2.2.1, bt923.2.2.2.2.2.2.2⟩ : S39), (⟨bt934.1, bt934.2.1, bt934.2.2.1, bt934.2.2.2.1, bt934.2.2.2.2.1, bt934.2.2.2.2.2.1, bt934.2.2.2.2.2.2.1, bt934.2.2.2.2.2.2.2⟩ : S39)] : List (S39)))).bind fun bt947 => (if x6.length < 1466015503701 then (spec_SchedstatTree.l0 k (x6 ++ [(⟨bt947.1, bt947.2.1, bt947.2.2.1, bt947.2.2.2.1, bt947.2.2.2.2.1, bt947.2.2.2.2.2.1, bt947.2.2.2.2.2.2.1, bt947.2.2.2.2.2.2.2⟩ : S39)]) x17 x18 (wrap64 (x19 + 1))) else (none)))) else (none))) else (none))) else (none))) else (none)) else (none)) else ((spec_listNode.f (⟨#[67, 80, 85, 115]⟩ : ByteArray) x6).bind fun bt876 => ((spec_recordNode.f (⟨#[]⟩ : ByteArray) (([(⟨bt876.1, bt876.2.1, bt876.2.2.1, bt876.2.2.2.1, bt876.2.2.2.2.1, bt876.2.2.2.2.2.1, bt876.2.2.2.2.2.2.1, bt876.2.2.2.2.2.2.2⟩ : S39)] : List (S39)))).bind fun bt889 => (some (bt889.1, bt889.2.1, bt889.2.2.1, bt889.2.2.2.1, bt889.2.2.2.2.1, bt889.2.2.2.2.2.1, bt889.2.2.2.2.2.2.1, bt889.2.2.2.2.2.2.2, 1))))
def spec_SchedstatTree.f (k : Nat) (l0 : List (S31)) : Option (ByteArray × Int × Bool × Int × Int × Nat × ByteArray × (List (S39)) × Int) := (spec_SchedstatPrint.f k l0).bind fun bt874 => (if bt874.2 = 1 then (spec_SchedstatTree.l0 k ([] : List (S39)) l0 (l0.length : Int) 0) else (some ((⟨#[]⟩ : ByteArray), 0, false, 0, 0, 0, (⟨#[]⟩ : ByteArray), ([] : List (S39)), 2)))
theorem spec_SchedstatTree.mono_l : ∀ k, (∀ y0 y1 y2 y3, LeO (spec_SchedstatTree.l0 k y0 y1 y2 y3) (spec_SchedstatTree.l0 (k + 1) y0 y1 y2 y3))
 | 0 => fun _ _ _ _ r h => by simp [spec_SchedstatTree.l0] at h
 | k + 1 => by
  have ih0 := spec_SchedstatTree.mono_l k
  ·intro y0 y1 y2 y3
   unfold spec_SchedstatTree.l0
   repeat' first
   | (with_reducible exact ih0 _ _ _ _)
   | (with_reducible exact spec_SchedstatPrint.mono _ _)
   | (with_reducible exact LeO.refl _)
   | (with_reducible exact LeO.none _)
   | (with_reducible refine LeO.ite ?_ ?_)
   | (with_reducible refine LeO.bind ?_ (fun _ => ?_))
   | exact ih0 _ _ _ _
   | exact spec_SchedstatPrint.mono _ _
   | exact LeO.none _
   | refine LeO.ite ?_ ?_
   | refine LeO.bind ?_ (fun _ => ?_)
theorem spec_SchedstatTree.mono : ∀ a0 k, LeO (spec_SchedstatTree.f k a0) (spec_SchedstatTree.f (k + 1) a0) := by
 intro a0 k
 have ih0 := spec_SchedstatTree.mono_l k
 unfold spec_SchedstatTree.f
 repeat' first
   | (with_reducible exact ih0 _ _ _ _)
   | (with_reducible exact spec_SchedstatPrint.mono _ _)
   | (with_reducible exact LeO.refl _)
   | (with_reducible exact LeO.none _)
   | (with_reducible refine LeO.ite ?_ ?_)
   | (with_reducible refine LeO.bind ?_ (fun _ => ?_))
   | exact ih0 _ _ _ _
   | exact spec_SchedstatPrint.mono _ _
   | exact LeO.none _
   | refine LeO.ite ?_ ?_
   | refine LeO.bind ?_ (fun _ => ?_)
def spec_SchedstatTree.T8 : Bool × List (List Nat × List Nat) := (true, [([], []), ([], []), ([1], [1]), ([2], [2]), ([], []), ([4], [4]), ([5], [5]), ([6], [6]), ([7, 3], [7]), ([], []), ([9], [9]), ([10], [10]), ([11], [11]), ([12, 8], [12]), ([], []), ([14], [14]), ([15], [15]), ([16], [16]), ([17, 13], [17]), ([3, 8, 13, 18], [3, 8, 13, 18]), ([19, 18], [19]), ([20], [20]), ([0, 21, 20], [0, 21]), ([22, 22, 0, 1, 2, 3, 4, 5, 6, 7, 8, 9, 10, 11, 12, 13, 14, 15, 16, 17, 18, 19, 20, 21, 22], [0, 22])])
def spec_SchedstatTree.B8 : List Nat := [0, 0, 2, 6, 0, 16, 48, 112, 254, 0, 512, 1536, 3584, 8190, 0, 16384, 49152, 114688, 262142, 524286, 1048574, 2097150, 4194303, 8388607]
theorem spec_SchedstatTree.tab8 : rtab .any (opsOf Tryz.f25 8) = spec_SchedstatTree.T8 := by kernel_rfl
theorem spec_SchedstatTree.bits8 : waitsOk spec_SchedstatTree.T8.2 spec_SchedstatTree.B8 = true := by kernel_rfl
set_option maxHeartbeats 8000000 in
set_option maxRecDepth 100000 in
theorem spec_SchedstatTree.calls (k : Nat) (A0 : Option Addr) (c0 : Nat) (l0 : List (S31)) (r1 : ByteArray) (r2 : Int) (r3 : Bool) (r4 : Int) (r5 : Int) (r6 : Nat) (r7 : ByteArray) (r8 : List (S39)) (r9 : Int) (w : World) (hr0 : Kd.C k31 w A0 l0.length l0) (hc0 : l0.length ≤ c0) (h : spec_SchedstatTree.f k l0 = some (r1, r2, r3, r4, r5, r6, r7, r8, r9)) :
  Calls Tryz.prog 25 #[.slice A0 l0.length c0] w fun e w' => ∃ v7_ : Value, e = .returned (.tuple #[.agg #[.string r1, .int .i64 r2, .bool r3, .int .i64 r4, .int .u64 r5, .float .f64 r6, .string r7, v7_], .int .i64 r9]) ∧ Kd.V k39 39 w' w.heap.size (fun k_ => (w.heap.size ≤ k_)) v7_ r8 ∧ Below w.heap.size w w' := by
 have hu39 := Tryz.underlying39
 have hu31 := Tryz.underlying31
 have HR0 := Aside0.mk hr0
 have HC0 := Aside0.mk hc0
 clear hr0 hc0
 have HB := Aside0.mk (Below.refl w.heap.size w)
 have H : ((spec_SchedstatPrint.f k l0).bind fun bt874 => (if bt874.2 = 1 then (spec_SchedstatTree.l0 k ([] : List (S39)) l0 (l0.length : Int) 0) else (some ((⟨#[]⟩ : ByteArray), 0, false, 0, 0, 0, (⟨#[]⟩ : ByteArray), ([] : List (S39)), 2)))) = some (r1, r2, r3, r4, r5, r6, r7, r8, r9) := h
 clear h
 replace H := Option.bind_eq_some_iff.mp H
 obtain ⟨⟨t874, t875⟩, A20, H⟩ := H
 replace H : (if t875 = 1 then (spec_SchedstatTree.l0 k ([] : List (S39)) l0 (l0.length : Int) 0) else (some ((⟨#[]⟩ : ByteArray), 0, false, 0, 0, 0, (⟨#[]⟩ : ByteArray), ([] : List (S39)), 2))) = some (r1, r2, r3, r4, r5, r6, r7, r8, r9) := H
 have A2 := Aside0.mk A20
 clear A20
 by_cases c3 : t875 = 1
 ·rw [if_pos c3] at H
  have c3b0 : (t875 == 1) = true := beq_iff_eq.mpr c3
  have c3b1 : (t875 != 1) = false := bne_eq_false_iff_eq.mpr c3
  clear c3
  have H' := Aside0.mk H
  clear H
  go_enter Tryz.func25, Tryz.ntmps25
  go_wp2_with (first | ((with_reducible refine gate_dst (N := 2) rfl ?_); refine box_event ?hg (N := 2) ?hd (cs := #[.string (⟨#[]⟩ : ByteArray), .int .i64 0, .bool false, .int .i64 0, .int .u64 0, .float .f64 0, .string (⟨#[]⟩ : ByteArray), .slice none 0 0]) (t := 39) ?hr ?_; (case hd => rfl); (case hg => rfl); (case hr => first | (go_simp; done) | (go_simp; rfl)); intro gb873 hg w4 hbox hb; have n0_ := Aside0.mk (below_step (by repeat (first | (with_reducible first | exact HB.out | apply below_alloc | apply pw_below_drewN | apply below_drew1) | exact HB.out)) hb); have n1_ := Aside0.mk (hbox); have n2_ := Aside0.mk ((by rw [hg]; exact (below_size (by repeat (first | (with_reducible first | exact HB.out | apply below_alloc | apply pw_below_drewN | apply below_drew1) | exact HB.out))) : w.heap.size ≤ gb873)); have n3_ := Aside0.mk ((by rw [hg]; exact (below_size (by repeat (first | (with_reducible first | exact HB.out | apply below_alloc | apply pw_below_drewN | apply below_drew1) | exact HB.out))) : w.heap.size ≤ gb873)); clear HB; have HB := n0_; have BK873 := n1_; have GW873 := n2_; have GE873 := n3_; clear n0_ n1_ n2_ n3_; clear hb hbox hg) | ((with_reducible refine gate_callee (f := 24) rfl ?_); refine goesL_ (some 11) rfl rfl Tryz.func24 (by kernel_rfl) rfl #[.slice A0 l0.length c0] rfl (by (try simp only [List.map_toArray, List.map_cons, List.map_nil]); first | done | rfl | (simp only [List.length_drop, List.length_take]; rfl)) ?_; (with_reducible refine (spec_SchedstatPrint.calls k _ _ l0 t874 t875 _ ?side1 ?side2 A2.out).mono ?_); (case side1 => repeat (first | exact (Kd.C_below HR0.out HB.out) | (with_reducible refine Kd.C_alloc ?_ _) | (with_reducible refine Kd.C_drewN ?_ _) | (with_reducible refine Kd.C_drew ?_))); (case side2 => exact HC0.out); rintro e w5 ⟨rfl, hb⟩; refine ⟨_, rfl, ?_⟩; have n0_ := Aside0.mk (blk_below (g := gb873) (o := .cells #[.string (⟨#[]⟩ : ByteArray), .int .i64 0, .bool false, .int .i64 0, .int .u64 0, .float .f64 0, .string (⟨#[]⟩ : ByteArray), .slice none 0 0] 39 (0, 0)) (by (with_reducible repeat (first | refine blk_drewN ?_ _ | refine blk_drew ?_ | refine blk_alloc ?_ _)); exact BK873.out) hb); have n1_ := Aside0.mk (below_step (by repeat (first | (with_reducible first | exact HB.out | apply below_alloc | apply pw_below_drewN | apply below_drew1 | refine below_set ?_ GE873.out) | exact HB.out)) hb); clear BK873; clear HB; have BK873 := n0_; have HB := n1_; clear n0_ n1_; (try clear hb); (try clear hb2); (try clear hk); (try clear hi)))
  go_loopg [6, 19] k (fun kq v6 v19 w' => ∃ (x6_1 : List (S39)) (x19_1 : Int), v19 = .int .i64 x19_1 ∧ Aside0 (spec_SchedstatTree.l0 kq x6_1 l0 (l0.length : Int) x19_1 = some (r1, r2, r3, r4, r5, r6, r7, r8, r9)) ∧ Aside0 (kq ≤ k) ∧ Aside0 (Kd.N k39 39 w' w.heap.size (fun k_ => (w.heap.size ≤ k_) ∧ k_ ≠ gb873) v6 x6_1) ∧ Aside0 (w'.heap[gb873]? = some (.cells #[.string (⟨#[]⟩ : ByteArray), .int .i64 0, .bool false, .int .i64 0, .int .u64 0, .float .f64 0, .string (⟨#[]⟩ : ByteArray), (.slice none 0 0)] 39 (0, 0))) ∧ Aside0 (Below w.heap.size w w'))
  case atStart => exact ⟨(([] : List (S39))), (0), (by first | rfl | (simp; done) | (simp [*]; done)), H', ⟨Nat.le_refl _⟩, ⟨by first | exact Kd.R_nil _ _ _ _ _ | exact Kd.N_nil _ _ _ _ _ | exact Kd.V_nil _ _ _ _ _ | exact Kd.Q_nil _ _ _ _ _ | exact Kd.S_nil _ _ _ _ _⟩, ⟨by (with_reducible repeat (first | refine blk_drewN ?_ _ | refine blk_drew ?_ | refine blk_alloc ?_ _)); exact BK873.out⟩, ⟨by repeat (first | (with_reducible first | exact HB.out | apply below_alloc | apply pw_below_drewN | apply below_drew1 | refine below_set ?_ GE873.out) | exact HB.out)⟩⟩
  case round =>
   clear H'
   try clear c2
   try clear p2
   try clear c3
   try clear c3b0
   try clear c3b1
   obtain ⟨x6_1, x19_1, rfl, HA, HK1, HO_6, BK873, HB⟩ := hrel
   cases gk with
   | zero => exact absurd HA.out (by simp [spec_SchedstatTree.l0])
   | succ k1 =>
    have H := HA.out
    clear HA
    simp only [spec_SchedstatTree.l0] at H
    by_cases c6 : x19_1 < (l0.length : Int)
    ·rw [if_pos c6] at H
     have c6b0 : decide (x19_1 < (l0.length : Int)) = true := decide_eq_true c6
     clear c6
     replace H := guard_inv H
     obtain ⟨c7, H⟩ := H
     have c7b0 : decide (0 ≤ x19_1) = true := decide_eq_true c7
     clear c7
     replace H := guard_inv H
     obtain ⟨c8, H⟩ := H
     have c8b0 : decide (x19_1 < (l0.length : Int)) = true := decide_eq_true c8
     clear c8
     replace H := Option.bind_eq_some_iff.mp H
     obtain ⟨⟨t901, t902, t903, t904, t905, t906, t907, t908⟩, A90, H⟩ := H
     replace H : (if 6 < (((rd_T31 l0 x19_1).f1).length : Int) then ((spec_uintNode.f (⟨#[82, 117, 110, 110, 105, 110, 103, 78, 97, 110, 111, 115, 101, 99, 111, 110, 100, 115]⟩ : ByteArray) (rd ((rd_T31 l0 x19_1).f1) 6)).bind fun bt912 => (if 7 < (((rd_T31 l0 x19_1).f1).length : Int) then ((spec_uintNode.f (⟨#[87, 97, 105, 116, 105, 110, 103, 78, 97, 110, 111, 115, 101, 99, 111, 110, 100, 115]⟩ : ByteArray) (rd ((rd_T31 l0 x19_1).f1) 7)).bind fun bt923 => (if 8 < (((rd_T31 l0 x19_1).f1).length : Int) then ((spec_uintNode.f (⟨#[82, 117, 110, 84, 105, 109, 101, 115, 108, 105, 99, 101, 115]⟩ : ByteArray) (rd ((rd_T31 l0 x19_1).f1) 8)).bind fun bt934 => ((spec_recordNode.f (⟨#[]⟩ : ByteArray) (([(⟨t901, t902, t903, t904, t905, t906, t907, t908⟩ : S39), (⟨bt912.1, bt912.2.1, bt912.2.2.1, bt912.2.2.2.1, bt912.2.2.2.2.1, bt912.2.2.2.2.2.1, bt912.2.2.2.2.2.2.1, bt912.2.2.2.2.2.2.2⟩ : S39), (⟨bt923.1, bt923.2.1, bt923.2.2.1, bt923.2.2.2.1, bt923.2.2.2.2.1, bt923.2.2.2.2.2.1, bt923.2.2.2.2.2.2.1, bt923.2.2.2.2.2.2.2⟩ : S39), (⟨bt934.1, bt934.2.1, bt934.2.2.1, bt934.2.2.2.1, bt934.2.2.2.2.1, bt934.2.2.2.2.2.1, bt934.2.2.2.2.2.2.1, bt934.2.2.2.2.2.2.2⟩ : S39)] : List (S39)))).bind fun bt947 => (if x6_1.length < 1466015503701 then (spec_SchedstatTree.l0 k1 (x6_1 ++ [(⟨bt947.1, bt947.2.1, bt947.2.2.1, bt947.2.2.2.1, bt947.2.2.2.2.1, bt947.2.2.2.2.2.1, bt947.2.2.2.2.2.2.1, bt947.2.2.2.2.2.2.2⟩ : S39)]) l0 (l0.length : Int) (wrap64 (x19_1 + 1))) else (none)))) else (none))) else (none))) else (none)) = some (r1, r2, r3, r4, r5, r6, r7, r8, r9) := H
     have A9 := Aside0.mk A90
     clear A90
     replace H := guard_inv H
     obtain ⟨c10, H⟩ := H
     have c10b0 : decide (6 < (((rd_T31 l0 x19_1).f1).length : Int)) = true := decide_eq_true c10
     have c10b1 : decide (6 < ((rd_T31 l0 x19_1).f1).length) = true := decide_eq_true (by omega)
     clear c10
     replace H := Option.bind_eq_some_iff.mp H
     obtain ⟨⟨t912, t913, t914, t915, t916, t917, t918, t919⟩, A110, H⟩ := H
     replace H : (if 7 < (((rd_T31 l0 x19_1).f1).length : Int) then ((spec_uintNode.f (⟨#[87, 97, 105, 116, 105, 110, 103, 78, 97, 110, 111, 115, 101, 99, 111, 110, 100, 115]⟩ : ByteArray) (rd ((rd_T31 l0 x19_1).f1) 7)).bind fun bt923 => (if 8 < (((rd_T31 l0 x19_1).f1).length : Int) then ((spec_uintNode.f (⟨#[82, 117, 110, 84, 105, 109, 101, 115, 108, 105, 99, 101, 115]⟩ : ByteArray) (rd ((rd_T31 l0 x19_1).f1) 8)).bind fun bt934 => ((spec_recordNode.f (⟨#[]⟩ : ByteArray) (([(⟨t901, t902, t903, t904, t905, t906, t907, t908⟩ : S39), (⟨t912, t913, t914, t915, t916, t917, t918, t919⟩ : S39), (⟨bt923.1, bt923.2.1, bt923.2.2.1, bt923.2.2.2.1, bt923.2.2.2.2.1, bt923.2.2.2.2.2.1, bt923.2.2.2.2.2.2.1, bt923.2.2.2.2.2.2.2⟩ : S39), (⟨bt934.1, bt934.2.1, bt934.2.2.1, bt934.2.2.2.1, bt934.2.2.2.2.1, bt934.2.2.2.2.2.1, bt934.2.2.2.2.2.2.1, bt934.2.2.2.2.2.2.2⟩ : S39)] : List (S39)))).bind fun bt947 => (if x6_1.length < 1466015503701 then (spec_SchedstatTree.l0 k1 (x6_1 ++ [(⟨bt947.1, bt947.2.1, bt947.2.2.1, bt947.2.2.2.1, bt947.2.2.2.2.1, bt947.2.2.2.2.2.1, bt947.2.2.2.2.2.2.1, bt947.2.2.2.2.2.2.2⟩ : S39)]) l0 (l0.length : Int) (wrap64 (x19_1 + 1))) else (none)))) else (none))) else (none)) = some (r1, r2, r3, r4, r5, r6, r7, r8, r9) := H
     have A11 := Aside0.mk A110
     clear A110
     replace H := guard_inv H
     obtain ⟨c12, H⟩ := H
     have c12b0 : decide (7 < (((rd_T31 l0 x19_1).f1).length : Int)) = true := decide_eq_true c12
     have c12b1 : decide (7 < ((rd_T31 l0 x19_1).f1).length) = true := decide_eq_true (by omega)
     clear c12
     replace H := Option.bind_eq_some_iff.mp H
     obtain ⟨⟨t923, t924, t925, t926, t927, t928, t929, t930⟩, A130, H⟩ := H
     replace H : (if 8 < (((rd_T31 l0 x19_1).f1).length : Int) then ((spec_uintNode.f (⟨#[82, 117, 110, 84, 105, 109, 101, 115, 108, 105, 99, 101, 115]⟩ : ByteArray) (rd ((rd_T31 l0 x19_1).f1) 8)).bind fun bt934 => ((spec_recordNode.f (⟨#[]⟩ : ByteArray) (([(⟨t901, t902, t903, t904, t905, t906, t907, t908⟩ : S39), (⟨t912, t913, t914, t915, t916, t917, t918, t919⟩ : S39), (⟨t923, t924, t925, t926, t927, t928, t929, t930⟩ : S39), (⟨bt934.1, bt934.2.1, bt934.2.2.1, bt934.2.2.2.1, bt934.2.2.2.2.1, bt934.2.2.2.2.2.1, bt934.2.2.2.2.2.2.1, bt934.2.2.2.2.2.2.2⟩ : S39)] : List (S39)))).bind fun bt947 => (if x6_1.length < 1466015503701 then (spec_SchedstatTree.l0 k1 (x6_1 ++ [(⟨bt947.1, bt947.2.1, bt947.2.2.1, bt947.2.2.2.1, bt947.2.2.2.2.1, bt947.2.2.2.2.2.1, bt947.2.2.2.2.2.2.1, bt947.2.2.2.2.2.2.2⟩ : S39)]) l0 (l0.length : Int) (wrap64 (x19_1 + 1))) else (none)))) else (none)) = some (r1, r2, r3, r4, r5, r6, r7, r8, r9) := H
     have A13 := Aside0.mk A130
     clear A130
     replace H := guard_inv H
     obtain ⟨c14, H⟩ := H
     have c14b0 : decide (8 < (((rd_T31 l0 x19_1).f1).length : Int)) = true := decide_eq_true c14
     have c14b1 : decide (8 < ((rd_T31 l0 x19_1).f1).length) = true := decide_eq_true (by omega)
     clear c14
     replace H := Option.bind_eq_some_iff.mp H
     obtain ⟨⟨t934, t935, t936, t937, t938, t939, t940, t941⟩, A150, H⟩ := H
     replace H : ((spec_recordNode.f (⟨#[]⟩ : ByteArray) (([(⟨t901, t902, t903, t904, t905, t906, t907, t908⟩ : S39), (⟨t912, t913, t914, t915, t916, t917, t918, t919⟩ : S39), (⟨t923, t924, t925, t926, t927, t928, t929, t930⟩ : S39), (⟨t934, t935, t936, t937, t938, t939, t940, t941⟩ : S39)] : List (S39)))).bind fun bt947 => (if x6_1.length < 1466015503701 then (spec_SchedstatTree.l0 k1 (x6_1 ++ [(⟨bt947.1, bt947.2.1, bt947.2.2.1, bt947.2.2.2.1, bt947.2.2.2.2.1, bt947.2.2.2.2.2.1, bt947.2.2.2.2.2.2.1, bt947.2.2.2.2.2.2.2⟩ : S39)]) l0 (l0.length : Int) (wrap64 (x19_1 + 1))) else (none))) = some (r1, r2, r3, r4, r5, r6, r7, r8, r9) := H
     have A15 := Aside0.mk A150
     clear A150
     obtain ⟨y944, hy944⟩ : ∃ y_ : List (S39), y_ = (([(⟨t901, t902, t903, t904, t905, t906, t907, t908⟩ : S39), (⟨t912, t913, t914, t915, t916, t917, t918, t919⟩ : S39), (⟨t923, t924, t925, t926, t927, t928, t929, t930⟩ : S39), (⟨t934, t935, t936, t937, t938, t939, t940, t941⟩ : S39)] : List (S39))) := ⟨_, rfl⟩
     replace H : ((spec_recordNode.f (⟨#[]⟩ : ByteArray) y944).bind fun bt947 => (if x6_1.length < 1466015503701 then (spec_SchedstatTree.l0 k1 (x6_1 ++ [(⟨bt947.1, bt947.2.1, bt947.2.2.1, bt947.2.2.2.1, bt947.2.2.2.2.1, bt947.2.2.2.2.2.1, bt947.2.2.2.2.2.2.1, bt947.2.2.2.2.2.2.2⟩ : S39)]) l0 (l0.length : Int) (wrap64 (x19_1 + 1))) else (none))) = some (r1, r2, r3, r4, r5, r6, r7, r8, r9) := by first | (rw [hy944]; with_reducible exact H) | (have H2_ := (Option.bind_some _ _).symm.trans H; rw [hy944]; with_reducible exact H2_) | (have H2_ := (Option.bind_some _ _).symm.trans H; with_reducible exact H2_) | with_reducible exact H | (rw [hy944]; exact H) | exact H
     have Ny944 := Aside0.mk hy944
     clear hy944
     replace H := Option.bind_eq_some_iff.mp H
     obtain ⟨⟨t947, t948, t949, t950, t951, t952, t953, t954⟩, A160, H⟩ := H
     replace H : (if x6_1.length < 1466015503701 then (spec_SchedstatTree.l0 k1 (x6_1 ++ [(⟨t947, t948, t949, t950, t951, t952, t953, t954⟩ : S39)]) l0 (l0.length : Int) (wrap64 (x19_1 + 1))) else (none)) = some (r1, r2, r3, r4, r5, r6, r7, r8, r9) := H
     have A16 := Aside0.mk A160
     clear A160
     replace H := guard_inv H
     obtain ⟨c17, H⟩ := H
     have LMc17 := Aside0.mk c17
     clear c17
     obtain ⟨y957, hy957⟩ : ∃ y_ : List (S39), y_ = (x6_1 ++ [(⟨t947, t948, t949, t950, t951, t952, t953, t954⟩ : S39)]) := ⟨_, rfl⟩
     replace H : (spec_SchedstatTree.l0 k1 y957 l0 (l0.length : Int) (wrap64 (x19_1 + 1))) = some (r1, r2, r3, r4, r5, r6, r7, r8, r9) := by first | (rw [hy957]; with_reducible exact H) | (have H2_ := (Option.bind_some _ _).symm.trans H; rw [hy957]; with_reducible exact H2_) | (have H2_ := (Option.bind_some _ _).symm.trans H; with_reducible exact H2_) | with_reducible exact H | (rw [hy957]; exact H) | exact H
     have Ny957 := Aside0.mk hy957
     clear hy957
     have H' := Aside0.mk H
     clear H
     have p899 : 0 ≤ (x19_1 : Int) := of_decide_eq_true (by first | (with_reducible assumption) | assumption)
     have q899 : x19_1 < (l0.length : Int) := of_decide_eq_true (by first | (with_reducible assumption) | assumption)
     obtain ⟨ad899, A899_1, c899_1, A899_2, c899_2, e899, hx899_0, hx899_1, hx899_2, hl899_1, hi899_1, hl899_2, hi899_2⟩ := at_T31 HR0.out x19_1 p899 q899
     cases e899
     replace hx899_0 := (HB.out.cell (World.block_lt_of_cell? w _ hx899_0)).trans hx899_0
     replace hx899_1 := (HB.out.cell (World.block_lt_of_cell? w _ hx899_1)).trans hx899_1
     replace hx899_2 := (HB.out.cell (World.block_lt_of_cell? w _ hx899_2)).trans hx899_2
     have HR899_1 := Aside0.mk hi899_1
     have HC899_1 := Aside0.mk hl899_1
     clear hi899_1 hl899_1
     have HR899_2 := Aside0.mk hi899_2
     have HC899_2 := Aside0.mk hl899_2
     clear hi899_2 hl899_2
     replace p899 := eq_true p899
     replace q899 := eq_true q899
     try go_wp2_with (first | ((with_reducible refine gate_dst (N := 8) rfl ?_); refine box_event ?hg (N := 8) ?hd (cs := #[.string (⟨#[]⟩ : ByteArray), .slice none 0 0, .slice none 0 0]) (t := 31) ?hr ?_; (case hd => rfl); (case hg => rfl); (case hr => first | (go_simp; done) | (go_simp; rfl)); intro gb900 hg w18 hbox hb; have n0_ := Aside0.mk (Kd.N_below (Kd.N_elderB (by (with_reducible repeat (first | apply Kd.N_alloc | apply Kd.N_drewN | apply Kd.N_drew)); exact HO_6.out) gb900 (Nat.le_of_eq hg.symm)) hb); have n1_ := Aside0.mk (blk_below (g := gb873) (o := .cells #[.string (⟨#[]⟩ : ByteArray), .int .i64 0, .bool false, .int .i64 0, .int .u64 0, .float .f64 0, .string (⟨#[]⟩ : ByteArray), .slice none 0 0] 39 (0, 0)) (by (with_reducible repeat (first | refine blk_drewN ?_ _ | refine blk_drew ?_ | refine blk_alloc ?_ _)); exact BK873.out) hb); have n2_ := Aside0.mk (below_step (by repeat (first | (with_reducible first | exact HB.out | apply below_alloc | apply pw_below_drewN | apply below_drew1 | refine below_set ?_ GE873.out) | exact HB.out)) hb); have n3_ := Aside0.mk (hbox); have n4_ := Aside0.mk ((by rw [hg]; exact (below_size (by repeat (first | (with_reducible first | exact HB.out | apply below_alloc | apply pw_below_drewN | apply below_drew1 | refine below_set ?_ GE873.out) | exact HB.out))) : w.heap.size ≤ gb900)); have n5_ := Aside0.mk ((by rw [hg]; exact (below_size (by repeat (first | (with_reducible first | exact HB.out | apply below_alloc | apply pw_below_drewN | apply below_drew1 | refine below_set ?_ GE873.out) | exact HB.out))) : w.heap.size ≤ gb900)); have n6_ := Aside0.mk ((by rw [hg]; exact Nat.ne_of_lt (blk_lt (g := gb873) (o := .cells #[.string (⟨#[]⟩ : ByteArray), .int .i64 0, .bool false, .int .i64 0, .int .u64 0, .float .f64 0, .string (⟨#[]⟩ : ByteArray), .slice none 0 0] 39 (0, 0)) (by (with_reducible repeat (first | refine blk_drewN ?_ _ | refine blk_drew ?_ | refine blk_alloc ?_ _)); exact BK873.out)) : gb873 ≠ gb900)); have n7_ := Aside0.mk ((by rw [hg]; exact Nat.ne_of_gt (blk_lt (g := gb873) (o := .cells #[.string (⟨#[]⟩ : ByteArray), .int .i64 0, .bool false, .int .i64 0, .int .u64 0, .float .f64 0, .string (⟨#[]⟩ : ByteArray), .slice none 0 0] 39 (0, 0)) (by (with_reducible repeat (first | refine blk_drewN ?_ _ | refine blk_drew ?_ | refine blk_alloc ?_ _)); exact BK873.out)) : gb900 ≠ gb873)); clear HO_6; clear BK873; clear HB; have HO_6 := n0_; have BK873 := n1_; have HB := n2_; have BK900 := n3_; have GW900 := n4_; have GE900 := n5_; have NB873_900 := n6_; have NB900_873 := n7_; clear n0_ n1_ n2_ n3_ n4_ n5_ n6_ n7_; clear hb hbox hg; have hnb19 := NB900_873.out; have hnc19 := NB873_900.out; have hcz20_0 : w18.cell? ⟨gb900, 0, none⟩ = some (.string (⟨#[]⟩ : ByteArray)) := (blk_cell BK900.out 0).trans rfl; have hcz20_1 : w18.cell? ⟨gb900, 1, none⟩ = some (.slice none 0 0) := (blk_cell BK900.out 1).trans rfl; have hcz20_2 : w18.cell? ⟨gb900, 2, none⟩ = some (.slice none 0 0) := (blk_cell BK900.out 2).trans rfl; have hfz20_0 := blk_frozen BK900.out 0; have hfz20_1 := blk_frozen BK900.out 1; have hfz20_2 := blk_frozen BK900.out 2))
     have n0_ : Aside0 (Kd.N k39 39 (((w18.setCell ⟨gb900, 0, none⟩ (.string ((rd_T31 l0 x19_1).f0))).setCell ⟨gb900, 1, none⟩ (.slice A899_1 ((rd_T31 l0 x19_1).f1).length c899_1)).setCell ⟨gb900, 2, none⟩ (.slice A899_2 ((rd_T31 l0 x19_1).f2).length c899_2)) w.heap.size (fun k_ => (w.heap.size ≤ k_) ∧ k_ ≠ gb873 ∧ k_ ≠ gb900) u6 x6_1) := ⟨by (with_reducible repeat (first | apply Kd.N_alloc | apply Kd.N_drewN | apply Kd.N_drew)); exact Kd.N_mono (Kd.N_far (p := ⟨gb900, 2, none⟩) (Kd.N_far (p := ⟨gb900, 1, none⟩) (Kd.N_far (p := ⟨gb900, 0, none⟩) (Kd.N_mono HO_6.out (fun k_ hk => (⟨hk, hk.2⟩ : _ ∧ k_ ≠ gb900))) (fun _ hk => hk.2) (.string ((rd_T31 l0 x19_1).f0))) (fun _ hk => hk.2) (.slice A899_1 ((rd_T31 l0 x19_1).f1).length c899_1)) (fun _ hk => hk.2) (.slice A899_2 ((rd_T31 l0 x19_1).f2).length c899_2)) (fun _ hk => ⟨hk.1.1.1, ⟨hk.1.1.2, hk.1.2⟩⟩)⟩
     have n1_ : Aside0 ((((w18.setCell ⟨gb900, 0, none⟩ (.string ((rd_T31 l0 x19_1).f0))).setCell ⟨gb900, 1, none⟩ (.slice A899_1 ((rd_T31 l0 x19_1).f1).length c899_1)).setCell ⟨gb900, 2, none⟩ (.slice A899_2 ((rd_T31 l0 x19_1).f2).length c899_2)).heap[gb873]? = some (.cells #[.string (⟨#[]⟩ : ByteArray), .int .i64 0, .bool false, .int .i64 0, .int .u64 0, .float .f64 0, .string (⟨#[]⟩ : ByteArray), .slice none 0 0] 39 (0, 0))) := ⟨by (with_reducible repeat (first | refine blk_drewN ?_ _ | refine blk_drew ?_ | refine blk_alloc ?_ _)); refine blk_far ?_ NB873_900.out _; (with_reducible repeat (first | refine blk_drewN ?_ _ | refine blk_drew ?_ | refine blk_alloc ?_ _)); refine blk_far ?_ NB873_900.out _; (with_reducible repeat (first | refine blk_drewN ?_ _ | refine blk_drew ?_ | refine blk_alloc ?_ _)); refine blk_far ?_ NB873_900.out _; (with_reducible repeat (first | refine blk_drewN ?_ _ | refine blk_drew ?_ | refine blk_alloc ?_ _)); exact BK873.out⟩
     have n2_ : Aside0 ((((w18.setCell ⟨gb900, 0, none⟩ (.string ((rd_T31 l0 x19_1).f0))).setCell ⟨gb900, 1, none⟩ (.slice A899_1 ((rd_T31 l0 x19_1).f1).length c899_1)).setCell ⟨gb900, 2, none⟩ (.slice A899_2 ((rd_T31 l0 x19_1).f2).length c899_2)).heap[gb900]? = some (.cells #[.string ((rd_T31 l0 x19_1).f0), .slice A899_1 ((rd_T31 l0 x19_1).f1).length c899_1, .slice A899_2 ((rd_T31 l0 x19_1).f2).length c899_2] 31 (0, 0))) := ⟨by (with_reducible repeat (first | refine blk_drewN ?_ _ | refine blk_drew ?_ | refine blk_alloc ?_ _)); refine blk_put (cs := #[.string ((rd_T31 l0 x19_1).f0), .slice A899_1 ((rd_T31 l0 x19_1).f1).length c899_1, .slice none 0 0]) ?_ 2 _ rfl; (with_reducible repeat (first | refine blk_drewN ?_ _ | refine blk_drew ?_ | refine blk_alloc ?_ _)); refine blk_put (cs := #[.string ((rd_T31 l0 x19_1).f0), .slice none 0 0, .slice none 0 0]) ?_ 1 _ rfl; (with_reducible repeat (first | refine blk_drewN ?_ _ | refine blk_drew ?_ | refine blk_alloc ?_ _)); refine blk_put (cs := #[.string (⟨#[]⟩ : ByteArray), .slice none 0 0, .slice none 0 0]) ?_ 0 _ rfl; (with_reducible repeat (first | refine blk_drewN ?_ _ | refine blk_drew ?_ | refine blk_alloc ?_ _)); exact BK900.out⟩
     have n3_ : Aside0 (Below w.heap.size w (((w18.setCell ⟨gb900, 0, none⟩ (.string ((rd_T31 l0 x19_1).f0))).setCell ⟨gb900, 1, none⟩ (.slice A899_1 ((rd_T31 l0 x19_1).f1).length c899_1)).setCell ⟨gb900, 2, none⟩ (.slice A899_2 ((rd_T31 l0 x19_1).f2).length c899_2))) := ⟨by repeat (first | (with_reducible first | exact HB.out | apply below_alloc | apply pw_below_drewN | apply below_drew1 | refine below_set ?_ GE873.out | refine below_set ?_ GE900.out) | exact HB.out)⟩
     (try clear HO_6)
     (try clear BK873)
     (try clear BK900)
     (try clear HB)
     generalize (((w18.setCell ⟨gb900, 0, none⟩ (.string ((rd_T31 l0 x19_1).f0))).setCell ⟨gb900, 1, none⟩ (.slice A899_1 ((rd_T31 l0 x19_1).f1).length c899_1)).setCell ⟨gb900, 2, none⟩ (.slice A899_2 ((rd_T31 l0 x19_1).f2).length c899_2)) = w21 at n0_ n1_ n2_ n3_ ⊢
     have HO_6 := n0_
     have BK873 := n1_
     have BK900 := n2_
     have HB := n3_
     clear n0_ n1_ n2_ n3_
     have n0_ := Aside0.mk (Kd.N_drew HO_6.out)
     have n1_ := Aside0.mk (blk_drew BK873.out)
     have n2_ := Aside0.mk (blk_drew BK900.out)
     have n3_ := Aside0.mk (below_drew1 HB.out)
     clear HO_6
     clear BK873
     clear BK900
     clear HB
     have HO_6 := n0_
     have BK873 := n1_
     have BK900 := n2_
     have HB := n3_
     clear n0_ n1_ n2_ n3_
     have p911 : 0 ≤ (6 : Int) := (by omega)
     have q911 : 6 < (((rd_T31 l0 x19_1).f1).length : Int) := of_decide_eq_true (by first | (with_reducible assumption) | assumption)
     obtain ⟨ad911, e911, hx911_0⟩ := Kd.at_int HR899_1.out 6 p911 q911
     have hw911_0 := hx911_0
     (try rw [show ((6 : Int)).toNat = 6 from rfl] at hw911_0)
     (try rw [show 6 * 1 = 6 from rfl] at hw911_0)
     (try simp only [Nat.reduceMul, Nat.reduceEqDiff, Go.Addr.add, ↓reduceIte] at hw911_0)
     cases e911
     (try simp only [show (6 : Int).toNat = 6 from rfl, Nat.reduceMul, Nat.reduceEqDiff, Go.Addr.add, ↓reduceIte] at hx911_0)
     have qi911 : (6 < ((rd_T31 l0 x19_1).f1).length) = True := eq_true (by omega)
     (try rw [show ((6 : Int)).toNat = 6 from rfl] at hx911_0)
     replace hx911_0 := (HB.out.cell (World.block_lt_of_cell? w _ hx911_0)).trans hx911_0
     replace p911 := eq_true p911
     replace q911 := eq_true q911
     have p922 : 0 ≤ (7 : Int) := (by omega)
     have q922 : 7 < (((rd_T31 l0 x19_1).f1).length : Int) := of_decide_eq_true (by first | (with_reducible assumption) | assumption)
     obtain ⟨ad922, e922, hx922_0⟩ := Kd.at_int HR899_1.out 7 p922 q922
     have hw922_0 := hx922_0
     (try rw [show ((7 : Int)).toNat = 7 from rfl] at hw922_0)
     (try rw [show 7 * 1 = 7 from rfl] at hw922_0)
     (try simp only [Nat.reduceMul, Nat.reduceEqDiff, Go.Addr.add, ↓reduceIte] at hw922_0)
     obtain rfl : ad911 = ad922 := (by injection e922)
     (try simp only [show (7 : Int).toNat = 7 from rfl, Nat.reduceMul, Nat.reduceEqDiff, Go.Addr.add, ↓reduceIte] at hx922_0)
     have qi922 : (7 < ((rd_T31 l0 x19_1).f1).length) = True := eq_true (by omega)
     (try rw [show ((7 : Int)).toNat = 7 from rfl] at hx922_0)
     replace hx922_0 := (HB.out.cell (World.block_lt_of_cell? w _ hx922_0)).trans hx922_0
     replace p922 := eq_true p922
     replace q922 := eq_true q922
     have p933 : 0 ≤ (8 : Int) := (by omega)
     have q933 : 8 < (((rd_T31 l0 x19_1).f1).length : Int) := of_decide_eq_true (by first | (with_reducible assumption) | assumption)
     obtain ⟨ad933, e933, hx933_0⟩ := Kd.at_int HR899_1.out 8 p933 q933
     have hw933_0 := hx933_0
     (try rw [show ((8 : Int)).toNat = 8 from rfl] at hw933_0)
     (try rw [show 8 * 1 = 8 from rfl] at hw933_0)
     (try simp only [Nat.reduceMul, Nat.reduceEqDiff, Go.Addr.add, ↓reduceIte] at hw933_0)
     obtain rfl : ad911 = ad933 := (by injection e933)
     (try simp only [show (8 : Int).toNat = 8 from rfl, Nat.reduceMul, Nat.reduceEqDiff, Go.Addr.add, ↓reduceIte] at hx933_0)
     have qi933 : (8 < ((rd_T31 l0 x19_1).f1).length) = True := eq_true (by omega)
     (try rw [show ((8 : Int)).toNat = 8 from rfl] at hx933_0)
     replace hx933_0 := (HB.out.cell (World.block_lt_of_cell? w _ hx933_0)).trans hx933_0
     replace p933 := eq_true p933
     replace q933 := eq_true q933
     refine start_ (n := 24) (S := fun w' => w'.cell? ⟨gb900, 0, none⟩ = some (.string ((rd_T31 l0 x19_1).f0)) ∧ w'.cell? ⟨gb900, 1, none⟩ = some (.slice (some ad911) ((rd_T31 l0 x19_1).f1).length c899_1) ∧ w'.cell? ⟨gb900, 2, none⟩ = some (.slice A899_2 ((rd_T31 l0 x19_1).f2).length c899_2) ∧ w'.cell? ⟨ad911.block, ad911.off + 6, none⟩ = some (.int .u64 (rd ((rd_T31 l0 x19_1).f1) 6)) ∧ w'.cell? ⟨ad911.block, ad911.off + 7, none⟩ = some (.int .u64 (rd ((rd_T31 l0 x19_1).f1) 7)) ∧ w'.cell? ⟨ad911.block, ad911.off + 8, none⟩ = some (.int .u64 (rd ((rd_T31 l0 x19_1).f1) 8))) (ds := []) (bb [0, 24]) (by kernel_rfl) rfl rfl ⟨(blk_cell BK900.out 0).trans rfl, (blk_cell BK900.out 1).trans rfl, (blk_cell BK900.out 2).trans rfl, ((HB.out.cell (World.block_lt_of_cell? w _ hw911_0)).trans hw911_0), ((HB.out.cell (World.block_lt_of_cell? w _ hw922_0)).trans hw922_0), ((HB.out.cell (World.block_lt_of_cell? w _ hw933_0)).trans hw933_0)⟩ (fun hHeld => ?_); refine with_tabW spec_SchedstatTree.tab8 spec_SchedstatTree.bits8 (fun HT_ HW_ => ?_)
     generalize w21.drew = w22 at HO_6 BK873 BK900 HB hx911_0 hx922_0 hx933_0 hHeld ⊢
     refine pure_ (i := 0) (N := some 23) (v := ?_) (a' := ?_) (bb [1, 23]) rfl rfl (any_of HT_.out (by kernel_rfl)) (fun _ _ _ h => h) (Or.inl ⟨by rfl, ?_⟩) ?_ ?_
     rotate_left
     ·intro w'
      go_simp
      with_reducible rfl
     rotate_left
     ·simp only [Act.put, List.setIfInBounds_toArray, List.set_cons_zero, List.set_cons_succ, i64_w, i32_w]
      rfl
     refine pure_ (i := 1) (N := some 24) (v := ?_) (a' := ?_) (bb [2, 22]) rfl rfl (any_of HT_.out (by kernel_rfl)) (fun _ _ _ h => h) (Or.inl ⟨by rfl, ?_⟩) ?_ ?_
     rotate_left
     ·intro w'
      go_simp
      with_reducible rfl
     rotate_left
     ·simp only [Act.put, List.setIfInBounds_toArray, List.set_cons_zero, List.set_cons_succ, i64_w, i32_w]
      rfl
     refine pure_ (i := 4) (N := some 27) (v := ?_) (a' := ?_) (bb [2, 2, 1, 19]) rfl rfl (any_of HT_.out (by kernel_rfl)) (fun _ _ _ h => h) (Or.inl ⟨by rfl, ?_⟩) ?_ ?_
     rotate_left
     ·intro w'
      go_simp
      with_reducible rfl
     rotate_left
     ·simp only [Act.put, List.setIfInBounds_toArray, List.set_cons_zero, List.set_cons_succ, i64_w, i32_w]
      rfl
     refine pure_ (i := 9) (N := some 32) (v := ?_) (a' := ?_) (bb [2, 2, 1, 4, 1, 14]) rfl rfl (any_of HT_.out (by kernel_rfl)) (fun _ _ _ h => h) (Or.inl ⟨by rfl, ?_⟩) ?_ ?_
     rotate_left
     ·intro w'
      go_simp
      with_reducible rfl
     rotate_left
     ·simp only [Act.put, List.setIfInBounds_toArray, List.set_cons_zero, List.set_cons_succ, i64_w, i32_w]
      rfl
     refine pure_ (i := 14) (N := some 37) (v := ?_) (a' := ?_) (bb [2, 2, 1, 4, 1, 4, 1, 9]) rfl rfl (any_of HT_.out (by kernel_rfl)) (fun _ _ _ h => h) (Or.inl ⟨by rfl, ?_⟩) ?_ ?_
     rotate_left
     ·intro w'
      go_simp
      with_reducible rfl
     rotate_left
     ·simp only [Act.put, List.setIfInBounds_toArray, List.set_cons_zero, List.set_cons_succ, i64_w, i32_w]
      rfl
     refine take_ (i := 2) (N := some 25) (v := ?_) (a' := ?_) (bb [3, 1, 1, 4, 1, 4, 1, 9]) rfl rfl (take_ofW HT_.out HW_.out (by kernel_rfl)) (fun _ _ _ h => h) (Or.inl ⟨by rfl, ?_⟩) hHeld ?_ ?_
     rotate_left
     ·rintro w' ⟨s0, s1, s2, s3, s4, s5⟩
      go_simp
      with_reducible rfl
     rotate_left
     ·simp only [Act.put, List.setIfInBounds_toArray, List.set_cons_zero, List.set_cons_succ, i64_w, i32_w]
      rfl
     refine take_ (i := 5) (N := some 28) (v := ?_) (a' := ?_) (bb [3, 1, 2, 3, 1, 4, 1, 9]) rfl rfl (take_ofW HT_.out HW_.out (by kernel_rfl)) (fun _ _ _ h => h) (Or.inl ⟨by rfl, ?_⟩) hHeld ?_ ?_
     rotate_left
     ·rintro w' ⟨s0, s1, s2, s3, s4, s5⟩
      go_simp
      with_reducible rfl
     rotate_left
     ·simp only [Act.put, List.setIfInBounds_toArray, List.set_cons_zero, List.set_cons_succ, i64_w, i32_w]
      rfl
     refine pure_ (i := 6) (N := some 29) (v := ?_) (a' := ?_) (bb [3, 1, 3, 2, 1, 4, 1, 9]) rfl rfl (any_of HT_.out (by kernel_rfl)) (fun _ _ _ h => h) (Or.inl ⟨by rfl, ?_⟩) ?_ ?_
     rotate_left
     ·intro w'
      go_simp
      with_reducible rfl
     rotate_left
     ·simp only [Act.put, List.setIfInBounds_toArray, List.set_cons_zero, List.set_cons_succ, i64_w, i32_w]
      rfl
     refine take_ (i := 7) (N := some 30) (v := ?_) (a' := ?_) (bb [3, 1, 4, 1, 1, 4, 1, 9]) rfl rfl (take_ofW HT_.out HW_.out (by kernel_rfl)) (fun _ _ _ h => h) (Or.inl ⟨by rfl, ?_⟩) hHeld ?_ ?_
     rotate_left
     ·rintro w' ⟨s0, s1, s2, s3, s4, s5⟩
      go_simp
      with_reducible rfl
     rotate_left
     ·simp only [Act.put, List.setIfInBounds_toArray, List.set_cons_zero, List.set_cons_succ, i64_w, i32_w]
      rfl
     refine take_ (i := 10) (N := some 33) (v := ?_) (a' := ?_) (bb [3, 1, 4, 1, 2, 3, 1, 9]) rfl rfl (take_ofW HT_.out HW_.out (by kernel_rfl)) (fun _ _ _ h => h) (Or.inl ⟨by rfl, ?_⟩) hHeld ?_ ?_
     rotate_left
     ·rintro w' ⟨s0, s1, s2, s3, s4, s5⟩
      go_simp
      with_reducible rfl
     rotate_left
     ·simp only [Act.put, List.setIfInBounds_toArray, List.set_cons_zero, List.set_cons_succ, i64_w, i32_w]
      rfl
     refine pure_ (i := 11) (N := some 34) (v := ?_) (a' := ?_) (bb [3, 1, 4, 1, 3, 2, 1, 9]) rfl rfl (any_of HT_.out (by kernel_rfl)) (fun _ _ _ h => h) (Or.inl ⟨by rfl, ?_⟩) ?_ ?_
     rotate_left
     ·intro w'
      go_simp
      with_reducible rfl
     rotate_left
     ·simp only [Act.put, List.setIfInBounds_toArray, List.set_cons_zero, List.set_cons_succ, i64_w, i32_w]
      rfl
     refine take_ (i := 12) (N := some 35) (v := ?_) (a' := ?_) (bb [3, 1, 4, 1, 4, 1, 1, 9]) rfl rfl (take_ofW HT_.out HW_.out (by kernel_rfl)) (fun _ _ _ h => h) (Or.inl ⟨by rfl, ?_⟩) hHeld ?_ ?_
     rotate_left
     ·rintro w' ⟨s0, s1, s2, s3, s4, s5⟩
      go_simp
      with_reducible rfl
     rotate_left
     ·simp only [Act.put, List.setIfInBounds_toArray, List.set_cons_zero, List.set_cons_succ, i64_w, i32_w]
      rfl
     refine take_ (i := 15) (N := some 38) (v := ?_) (a' := ?_) (bb [3, 1, 4, 1, 4, 1, 2, 8]) rfl rfl (take_ofW HT_.out HW_.out (by kernel_rfl)) (fun _ _ _ h => h) (Or.inl ⟨by rfl, ?_⟩) hHeld ?_ ?_
     rotate_left
     ·rintro w' ⟨s0, s1, s2, s3, s4, s5⟩
      go_simp
      with_reducible rfl
     rotate_left
     ·simp only [Act.put, List.setIfInBounds_toArray, List.set_cons_zero, List.set_cons_succ, i64_w, i32_w]
      rfl
     refine pure_ (i := 16) (N := some 39) (v := ?_) (a' := ?_) (bb [3, 1, 4, 1, 4, 1, 3, 7]) rfl rfl (any_of HT_.out (by kernel_rfl)) (fun _ _ _ h => h) (Or.inl ⟨by rfl, ?_⟩) ?_ ?_
     rotate_left
     ·intro w'
      go_simp
      with_reducible rfl
     rotate_left
     ·simp only [Act.put, List.setIfInBounds_toArray, List.set_cons_zero, List.set_cons_succ, i64_w, i32_w]
      rfl
     refine take_ (i := 17) (N := some 40) (v := ?_) (a' := ?_) (bb [3, 1, 4, 1, 4, 1, 4, 6]) rfl rfl (take_ofW HT_.out HW_.out (by kernel_rfl)) (fun _ _ _ h => h) (Or.inl ⟨by rfl, ?_⟩) hHeld ?_ ?_
     rotate_left
     ·rintro w' ⟨s0, s1, s2, s3, s4, s5⟩
      go_simp
      with_reducible rfl
     rotate_left
     ·simp only [Act.put, List.setIfInBounds_toArray, List.set_cons_zero, List.set_cons_succ, i64_w, i32_w]
      rfl
     refine one_ (i := 3) (N := some 26) (bb [8, 1, 4, 1, 4, 6]) rfl rfl (one_of HT_.out (by kernel_rfl)) (by decide) (fun K hK => ?_)
     refine goes_ Tryz.func65 (by kernel_rfl) rfl #[.string (⟨#[67, 80, 85, 78, 117, 109]⟩ : ByteArray), .string ((rd_T31 l0 x19_1).f0)] (by rfl) rfl rfl (by (try simp only [List.map_toArray, List.map_cons, List.map_nil]); first | done | rfl | (simp only [List.length_drop, List.length_take]; rfl)) ?_
     with_reducible refine (spec_textNode.calls (⟨#[67, 80, 85, 78, 117, 109]⟩ : ByteArray) ((rd_T31 l0 x19_1).f0) t901 t902 t903 t904 t905 t906 t907 t908 _ A9.out).mono ?_
     rintro e w23 ⟨v909, rfl, ho0, hb⟩
     refine ⟨_, rfl, ?_⟩
     have n0_ := Aside0.mk (Kd.N_elder' (by (with_reducible repeat (first | apply Kd.N_alloc | apply Kd.N_drewN | apply Kd.N_drew)); exact HO_6.out) (by first | exact Kd.N_base ho0 | exact Kd.R_base ho0) hb)
     have n1_ := Aside0.mk (Kd.N_lower (Kd.N_mono (ok' := fun k_ => (w.heap.size ≤ k_) ∧ some k_ ≠ (u6 : Value).ownBlock ∧ k_ ≠ gb873 ∧ k_ ≠ gb900) (Kd.R_N (Kd.R_bound ho0)) (fun k_ hk_ => ⟨(Nat.le_trans (below_size (by repeat (first | (with_reducible first | exact HB.out | apply below_alloc | apply pw_below_drewN | apply below_drew1 | refine below_set ?_ GE873.out | refine below_set ?_ GE900.out) | exact HB.out))) hk_.2.1), (Kd.fresh' (Kd.N_lt (by (with_reducible repeat (first | apply Kd.N_alloc | apply Kd.N_drewN | apply Kd.N_drew)); exact HO_6.out)) k_ hk_.2.1), (Kd.freshB (g := gb873) (o := .cells #[.string (⟨#[]⟩ : ByteArray), .int .i64 0, .bool false, .int .i64 0, .int .u64 0, .float .f64 0, .string (⟨#[]⟩ : ByteArray), .slice none 0 0] 39 (0, 0)) (by (with_reducible repeat (first | refine blk_drewN ?_ _ | refine blk_drew ?_ | refine blk_alloc ?_ _)); exact BK873.out) k_ hk_.2.1), (Kd.freshB (g := gb900) (o := .cells #[.string ((rd_T31 l0 x19_1).f0), .slice (some ad911) ((rd_T31 l0 x19_1).f1).length c899_1, .slice A899_2 ((rd_T31 l0 x19_1).f2).length c899_2] 31 (0, 0)) (by (with_reducible repeat (first | refine blk_drewN ?_ _ | refine blk_drew ?_ | refine blk_alloc ?_ _)); exact BK900.out) k_ hk_.2.1)⟩)) (below_size (by repeat (first | (with_reducible first | exact HB.out | apply below_alloc | apply pw_below_drewN | apply below_drew1 | refine below_set ?_ GE873.out | refine below_set ?_ GE900.out) | exact HB.out))))
     have n2_ := Aside0.mk (blk_below (g := gb873) (o := .cells #[.string (⟨#[]⟩ : ByteArray), .int .i64 0, .bool false, .int .i64 0, .int .u64 0, .float .f64 0, .string (⟨#[]⟩ : ByteArray), .slice none 0 0] 39 (0, 0)) (by (with_reducible repeat (first | refine blk_drewN ?_ _ | refine blk_drew ?_ | refine blk_alloc ?_ _)); exact BK873.out) hb)
     have n3_ := Aside0.mk (blk_below (g := gb900) (o := .cells #[.string ((rd_T31 l0 x19_1).f0), .slice (some ad911) ((rd_T31 l0 x19_1).f1).length c899_1, .slice A899_2 ((rd_T31 l0 x19_1).f2).length c899_2] 31 (0, 0)) (by (with_reducible repeat (first | refine blk_drewN ?_ _ | refine blk_drew ?_ | refine blk_alloc ?_ _)); exact BK900.out) hb)
     have n4_ := Aside0.mk (below_step (by repeat (first | (with_reducible first | exact HB.out | apply below_alloc | apply pw_below_drewN | apply below_drew1 | refine below_set ?_ GE873.out | refine below_set ?_ GE900.out) | exact HB.out)) hb)
     clear HO_6
     clear BK873
     clear BK900
     clear HB
     have HO_6 := n0_
     have HO910 := n1_
     have BK873 := n2_
     have BK900 := n3_
     have HB := n4_
     clear n0_ n1_ n2_ n3_ n4_
     (try clear hb)
     (try clear hb2)
     (try clear hk)
     (try clear hi)
     (try clear ho0)
     refine hK.out _ _ ⟨(blk_cell BK900.out 0).trans rfl, (blk_cell BK900.out 1).trans rfl, (blk_cell BK900.out 2).trans rfl, ((HB.out.cell (World.block_lt_of_cell? w _ hw911_0)).trans hw911_0), ((HB.out.cell (World.block_lt_of_cell? w _ hw922_0)).trans hw922_0), ((HB.out.cell (World.block_lt_of_cell? w _ hw933_0)).trans hw933_0)⟩ (fun hHeld => ?_)
     clear hK K
     refine norm_ (a' := ?_) ?_ ?_
     rotate_left
     ·show Act.put _ (some 26) _ = _
      simp only [Act.put, List.setIfInBounds_toArray, List.set_cons_zero, List.set_cons_succ, i64_w, i32_w]
      rfl
     refine one_ (i := 8) (N := some 31) (bb [13, 1, 4, 6]) rfl rfl (one_of HT_.out (by kernel_rfl)) (by decide) (fun K hK => ?_)
     refine goes_ Tryz.func75 (by kernel_rfl) rfl #[.string (⟨#[82, 117, 110, 110, 105, 110, 103, 78, 97, 110, 111, 115, 101, 99, 111, 110, 100, 115]⟩ : ByteArray), .int .u64 (rd ((rd_T31 l0 x19_1).f1) 6)] (by rfl) rfl rfl (by (try simp only [List.map_toArray, List.map_cons, List.map_nil]); first | done | rfl | (simp only [List.length_drop, List.length_take]; rfl)) ?_
     with_reducible refine (spec_uintNode.calls (⟨#[82, 117, 110, 110, 105, 110, 103, 78, 97, 110, 111, 115, 101, 99, 111, 110, 100, 115]⟩ : ByteArray) (rd ((rd_T31 l0 x19_1).f1) 6) t912 t913 t914 t915 t916 t917 t918 t919 _ A11.out).mono ?_
     rintro e w24 ⟨v920, rfl, ho0, hb⟩
     refine ⟨_, rfl, ?_⟩
     have n0_ := Aside0.mk (Kd.N_elder' (by (with_reducible repeat (first | apply Kd.N_alloc | apply Kd.N_drewN | apply Kd.N_drew)); exact HO_6.out) (by first | exact Kd.N_base ho0 | exact Kd.R_base ho0) hb)
     have n1_ := Aside0.mk (Kd.N_elder' (by (with_reducible repeat (first | apply Kd.N_alloc | apply Kd.N_drewN | apply Kd.N_drew)); exact HO910.out) (by first | exact Kd.N_base ho0 | exact Kd.R_base ho0) hb)
     have n2_ := Aside0.mk (Kd.N_lower (Kd.N_mono (ok' := fun k_ => (w.heap.size ≤ k_) ∧ some k_ ≠ (u6 : Value).ownBlock ∧ some k_ ≠ (v909 : Value).ownBlock ∧ k_ ≠ gb873 ∧ k_ ≠ gb900) (Kd.R_N (Kd.R_bound ho0)) (fun k_ hk_ => ⟨(Nat.le_trans (below_size (by repeat (first | (with_reducible first | exact HB.out | apply below_alloc | apply pw_below_drewN | apply below_drew1 | refine below_set ?_ GE873.out | refine below_set ?_ GE900.out) | exact HB.out))) hk_.2.1), (Kd.fresh' (Kd.N_lt (by (with_reducible repeat (first | apply Kd.N_alloc | apply Kd.N_drewN | apply Kd.N_drew)); exact HO_6.out)) k_ hk_.2.1), (Kd.fresh' (Kd.N_lt (by (with_reducible repeat (first | apply Kd.N_alloc | apply Kd.N_drewN | apply Kd.N_drew)); exact HO910.out)) k_ hk_.2.1), (Kd.freshB (g := gb873) (o := .cells #[.string (⟨#[]⟩ : ByteArray), .int .i64 0, .bool false, .int .i64 0, .int .u64 0, .float .f64 0, .string (⟨#[]⟩ : ByteArray), .slice none 0 0] 39 (0, 0)) (by (with_reducible repeat (first | refine blk_drewN ?_ _ | refine blk_drew ?_ | refine blk_alloc ?_ _)); exact BK873.out) k_ hk_.2.1), (Kd.freshB (g := gb900) (o := .cells #[.string ((rd_T31 l0 x19_1).f0), .slice (some ad911) ((rd_T31 l0 x19_1).f1).length c899_1, .slice A899_2 ((rd_T31 l0 x19_1).f2).length c899_2] 31 (0, 0)) (by (with_reducible repeat (first | refine blk_drewN ?_ _ | refine blk_drew ?_ | refine blk_alloc ?_ _)); exact BK900.out) k_ hk_.2.1)⟩)) (below_size (by repeat (first | (with_reducible first | exact HB.out | apply below_alloc | apply pw_below_drewN | apply below_drew1 | refine below_set ?_ GE873.out | refine below_set ?_ GE900.out) | exact HB.out))))
     have n3_ := Aside0.mk (blk_below (g := gb873) (o := .cells #[.string (⟨#[]⟩ : ByteArray), .int .i64 0, .bool false, .int .i64 0, .int .u64 0, .float .f64 0, .string (⟨#[]⟩ : ByteArray), .slice none 0 0] 39 (0, 0)) (by (with_reducible repeat (first | refine blk_drewN ?_ _ | refine blk_drew ?_ | refine blk_alloc ?_ _)); exact BK873.out) hb)
     have n4_ := Aside0.mk (blk_below (g := gb900) (o := .cells #[.string ((rd_T31 l0 x19_1).f0), .slice (some ad911) ((rd_T31 l0 x19_1).f1).length c899_1, .slice A899_2 ((rd_T31 l0 x19_1).f2).length c899_2] 31 (0, 0)) (by (with_reducible repeat (first | refine blk_drewN ?_ _ | refine blk_drew ?_ | refine blk_alloc ?_ _)); exact BK900.out) hb)
     have n5_ := Aside0.mk (below_step (by repeat (first | (with_reducible first | exact HB.out | apply below_alloc | apply pw_below_drewN | apply below_drew1 | refine below_set ?_ GE873.out | refine below_set ?_ GE900.out) | exact HB.out)) hb)
     clear HO_6
     clear HO910
     clear BK873
     clear BK900
     clear HB
     have HO_6 := n0_
     have HO910 := n1_
     have HO921 := n2_
     have BK873 := n3_
     have BK900 := n4_
     have HB := n5_
     clear n0_ n1_ n2_ n3_ n4_ n5_
     (try clear hb)
     (try clear hb2)
     (try clear hk)
     (try clear hi)
     (try clear ho0)
     refine hK.out _ _ ⟨(blk_cell BK900.out 0).trans rfl, (blk_cell BK900.out 1).trans rfl, (blk_cell BK900.out 2).trans rfl, ((HB.out.cell (World.block_lt_of_cell? w _ hw911_0)).trans hw911_0), ((HB.out.cell (World.block_lt_of_cell? w _ hw922_0)).trans hw922_0), ((HB.out.cell (World.block_lt_of_cell? w _ hw933_0)).trans hw933_0)⟩ (fun hHeld => ?_)
     clear hK K
     refine norm_ (a' := ?_) ?_ ?_
     rotate_left
     ·show Act.put _ (some 31) _ = _
      simp only [Act.put, List.setIfInBounds_toArray, List.set_cons_zero, List.set_cons_succ, i64_w, i32_w]
      rfl
     refine one_ (i := 13) (N := some 36) (bb [18, 6]) rfl rfl (one_of HT_.out (by kernel_rfl)) (by decide) (fun K hK => ?_)
     refine goes_ Tryz.func75 (by kernel_rfl) rfl #[.string (⟨#[87, 97, 105, 116, 105, 110, 103, 78, 97, 110, 111, 115, 101, 99, 111, 110, 100, 115]⟩ : ByteArray), .int .u64 (rd ((rd_T31 l0 x19_1).f1) 7)] (by rfl) rfl rfl (by (try simp only [List.map_toArray, List.map_cons, List.map_nil]); first | done | rfl | (simp only [List.length_drop, List.length_take]; rfl)) ?_
     with_reducible refine (spec_uintNode.calls (⟨#[87, 97, 105, 116, 105, 110, 103, 78, 97, 110, 111, 115, 101, 99, 111, 110, 100, 115]⟩ : ByteArray) (rd ((rd_T31 l0 x19_1).f1) 7) t923 t924 t925 t926 t927 t928 t929 t930 _ A13.out).mono ?_
     rintro e w25 ⟨v931, rfl, ho0, hb⟩
     refine ⟨_, rfl, ?_⟩
     have n0_ := Aside0.mk (Kd.N_elder' (by (with_reducible repeat (first | apply Kd.N_alloc | apply Kd.N_drewN | apply Kd.N_drew)); exact HO_6.out) (by first | exact Kd.N_base ho0 | exact Kd.R_base ho0) hb)
     have n1_ := Aside0.mk (Kd.N_elder' (by (with_reducible repeat (first | apply Kd.N_alloc | apply Kd.N_drewN | apply Kd.N_drew)); exact HO910.out) (by first | exact Kd.N_base ho0 | exact Kd.R_base ho0) hb)
     have n2_ := Aside0.mk (Kd.N_elder' (by (with_reducible repeat (first | apply Kd.N_alloc | apply Kd.N_drewN | apply Kd.N_drew)); exact HO921.out) (by first | exact Kd.N_base ho0 | exact Kd.R_base ho0) hb)
     have n3_ := Aside0.mk (Kd.N_lower (Kd.N_mono (ok' := fun k_ => (w.heap.size ≤ k_) ∧ some k_ ≠ (u6 : Value).ownBlock ∧ some k_ ≠ (v909 : Value).ownBlock ∧ some k_ ≠ (v920 : Value).ownBlock ∧ k_ ≠ gb873 ∧ k_ ≠ gb900) (Kd.R_N (Kd.R_bound ho0)) (fun k_ hk_ => ⟨(Nat.le_trans (below_size (by repeat (first | (with_reducible first | exact HB.out | apply below_alloc | apply pw_below_drewN | apply below_drew1 | refine below_set ?_ GE873.out | refine below_set ?_ GE900.out) | exact HB.out))) hk_.2.1), (Kd.fresh' (Kd.N_lt (by (with_reducible repeat (first | apply Kd.N_alloc | apply Kd.N_drewN | apply Kd.N_drew)); exact HO_6.out)) k_ hk_.2.1), (Kd.fresh' (Kd.N_lt (by (with_reducible repeat (first | apply Kd.N_alloc | apply Kd.N_drewN | apply Kd.N_drew)); exact HO910.out)) k_ hk_.2.1), (Kd.fresh' (Kd.N_lt (by (with_reducible repeat (first | apply Kd.N_alloc | apply Kd.N_drewN | apply Kd.N_drew)); exact HO921.out)) k_ hk_.2.1), (Kd.freshB (g := gb873) (o := .cells #[.string (⟨#[]⟩ : ByteArray), .int .i64 0, .bool false, .int .i64 0, .int .u64 0, .float .f64 0, .string (⟨#[]⟩ : ByteArray), .slice none 0 0] 39 (0, 0)) (by (with_reducible repeat (first | refine blk_drewN ?_ _ | refine blk_drew ?_ | refine blk_alloc ?_ _)); exact BK873.out) k_ hk_.2.1), (Kd.freshB (g := gb900) (o := .cells #[.string ((rd_T31 l0 x19_1).f0), .slice (some ad911) ((rd_T31 l0 x19_1).f1).length c899_1, .slice A899_2 ((rd_T31 l0 x19_1).f2).length c899_2] 31 (0, 0)) (by (with_reducible repeat (first | refine blk_drewN ?_ _ | refine blk_drew ?_ | refine blk_alloc ?_ _)); exact BK900.out) k_ hk_.2.1)⟩)) (below_size (by repeat (first | (with_reducible first | exact HB.out | apply below_alloc | apply pw_below_drewN | apply below_drew1 | refine below_set ?_ GE873.out | refine below_set ?_ GE900.out) | exact HB.out))))
     have n4_ := Aside0.mk (blk_below (g := gb873) (o := .cells #[.string (⟨#[]⟩ : ByteArray), .int .i64 0, .bool false, .int .i64 0, .int .u64 0, .float .f64 0, .string (⟨#[]⟩ : ByteArray), .slice none 0 0] 39 (0, 0)) (by (with_reducible repeat (first | refine blk_drewN ?_ _ | refine blk_drew ?_ | refine blk_alloc ?_ _)); exact BK873.out) hb)
     have n5_ := Aside0.mk (blk_below (g := gb900) (o := .cells #[.string ((rd_T31 l0 x19_1).f0), .slice (some ad911) ((rd_T31 l0 x19_1).f1).length c899_1, .slice A899_2 ((rd_T31 l0 x19_1).f2).length c899_2] 31 (0, 0)) (by (with_reducible repeat (first | refine blk_drewN ?_ _ | refine blk_drew ?_ | refine blk_alloc ?_ _)); exact BK900.out) hb)
     have n6_ := Aside0.mk (below_step (by repeat (first | (with_reducible first | exact HB.out | apply below_alloc | apply pw_below_drewN | apply below_drew1 | refine below_set ?_ GE873.out | refine below_set ?_ GE900.out) | exact HB.out)) hb)
     clear HO_6
     clear HO910
     clear HO921
     clear BK873
     clear BK900
     clear HB
     have HO_6 := n0_
     have HO910 := n1_
     have HO921 := n2_
     have HO932 := n3_
     have BK873 := n4_
     have BK900 := n5_
     have HB := n6_
     clear n0_ n1_ n2_ n3_ n4_ n5_ n6_
     (try clear hb)
     (try clear hb2)
     (try clear hk)
     (try clear hi)
     (try clear ho0)
     refine hK.out _ _ ⟨(blk_cell BK900.out 0).trans rfl, (blk_cell BK900.out 1).trans rfl, (blk_cell BK900.out 2).trans rfl, ((HB.out.cell (World.block_lt_of_cell? w _ hw911_0)).trans hw911_0), ((HB.out.cell (World.block_lt_of_cell? w _ hw922_0)).trans hw922_0), ((HB.out.cell (World.block_lt_of_cell? w _ hw933_0)).trans hw933_0)⟩ (fun hHeld => ?_)
     clear hK K
     refine norm_ (a' := ?_) ?_ ?_
     rotate_left
     ·show Act.put _ (some 36) _ = _
      simp only [Act.put, List.setIfInBounds_toArray, List.set_cons_zero, List.set_cons_succ, i64_w, i32_w]
      rfl
     refine one_ (i := 18) (N := some 41) (bb [19, 5]) rfl rfl (one_of HT_.out (by kernel_rfl)) (by decide) (fun K hK => ?_)
     refine goes_ Tryz.func75 (by kernel_rfl) rfl #[.string (⟨#[82, 117, 110, 84, 105, 109, 101, 115, 108, 105, 99, 101, 115]⟩ : ByteArray), .int .u64 (rd ((rd_T31 l0 x19_1).f1) 8)] (by rfl) rfl rfl (by (try simp only [List.map_toArray, List.map_cons, List.map_nil]); first | done | rfl | (simp only [List.length_drop, List.length_take]; rfl)) ?_
     with_reducible refine (spec_uintNode.calls (⟨#[82, 117, 110, 84, 105, 109, 101, 115, 108, 105, 99, 101, 115]⟩ : ByteArray) (rd ((rd_T31 l0 x19_1).f1) 8) t934 t935 t936 t937 t938 t939 t940 t941 _ A15.out).mono ?_
     rintro e w26 ⟨v942, rfl, ho0, hb⟩
     refine ⟨_, rfl, ?_⟩
     have n0_ := Aside0.mk (Kd.N_elder' (by (with_reducible repeat (first | apply Kd.N_alloc | apply Kd.N_drewN | apply Kd.N_drew)); exact HO_6.out) (by first | exact Kd.N_base ho0 | exact Kd.R_base ho0) hb)
     have n1_ := Aside0.mk (Kd.N_elder' (by (with_reducible repeat (first | apply Kd.N_alloc | apply Kd.N_drewN | apply Kd.N_drew)); exact HO910.out) (by first | exact Kd.N_base ho0 | exact Kd.R_base ho0) hb)
     have n2_ := Aside0.mk (Kd.N_elder' (by (with_reducible repeat (first | apply Kd.N_alloc | apply Kd.N_drewN | apply Kd.N_drew)); exact HO921.out) (by first | exact Kd.N_base ho0 | exact Kd.R_base ho0) hb)
     have n3_ := Aside0.mk (Kd.N_elder' (by (with_reducible repeat (first | apply Kd.N_alloc | apply Kd.N_drewN | apply Kd.N_drew)); exact HO932.out) (by first | exact Kd.N_base ho0 | exact Kd.R_base ho0) hb)
     have n4_ := Aside0.mk (Kd.N_lower (Kd.N_mono (ok' := fun k_ => (w.heap.size ≤ k_) ∧ some k_ ≠ (u6 : Value).ownBlock ∧ some k_ ≠ (v909 : Value).ownBlock ∧ some k_ ≠ (v920 : Value).ownBlock ∧ some k_ ≠ (v931 : Value).ownBlock ∧ k_ ≠ gb873 ∧ k_ ≠ gb900) (Kd.R_N (Kd.R_bound ho0)) (fun k_ hk_ => ⟨(Nat.le_trans (below_size (by repeat (first | (with_reducible first | exact HB.out | apply below_alloc | apply pw_below_drewN | apply below_drew1 | refine below_set ?_ GE873.out | refine below_set ?_ GE900.out) | exact HB.out))) hk_.2.1), (Kd.fresh' (Kd.N_lt (by (with_reducible repeat (first | apply Kd.N_alloc | apply Kd.N_drewN | apply Kd.N_drew)); exact HO_6.out)) k_ hk_.2.1), (Kd.fresh' (Kd.N_lt (by (with_reducible repeat (first | apply Kd.N_alloc | apply Kd.N_drewN | apply Kd.N_drew)); exact HO910.out)) k_ hk_.2.1), (Kd.fresh' (Kd.N_lt (by (with_reducible repeat (first | apply Kd.N_alloc | apply Kd.N_drewN | apply Kd.N_drew)); exact HO921.out)) k_ hk_.2.1), (Kd.fresh' (Kd.N_lt (by (with_reducible repeat (first | apply Kd.N_alloc | apply Kd.N_drewN | apply Kd.N_drew)); exact HO932.out)) k_ hk_.2.1), (Kd.freshB (g := gb873) (o := .cells #[.string (⟨#[]⟩ : ByteArray), .int .i64 0, .bool false, .int .i64 0, .int .u64 0, .float .f64 0, .string (⟨#[]⟩ : ByteArray), .slice none 0 0] 39 (0, 0)) (by (with_reducible repeat (first | refine blk_drewN ?_ _ | refine blk_drew ?_ | refine blk_alloc ?_ _)); exact BK873.out) k_ hk_.2.1), (Kd.freshB (g := gb900) (o := .cells #[.string ((rd_T31 l0 x19_1).f0), .slice (some ad911) ((rd_T31 l0 x19_1).f1).length c899_1, .slice A899_2 ((rd_T31 l0 x19_1).f2).length c899_2] 31 (0, 0)) (by (with_reducible repeat (first | refine blk_drewN ?_ _ | refine blk_drew ?_ | refine blk_alloc ?_ _)); exact BK900.out) k_ hk_.2.1)⟩)) (below_size (by repeat (first | (with_reducible first | exact HB.out | apply below_alloc | apply pw_below_drewN | apply below_drew1 | refine below_set ?_ GE873.out | refine below_set ?_ GE900.out) | exact HB.out))))
     have n5_ := Aside0.mk (blk_below (g := gb873) (o := .cells #[.string (⟨#[]⟩ : ByteArray), .int .i64 0, .bool false, .int .i64 0, .int .u64 0, .float .f64 0, .string (⟨#[]⟩ : ByteArray), .slice none 0 0] 39 (0, 0)) (by (with_reducible repeat (first | refine blk_drewN ?_ _ | refine blk_drew ?_ | refine blk_alloc ?_ _)); exact BK873.out) hb)
     have n6_ := Aside0.mk (blk_below (g := gb900) (o := .cells #[.string ((rd_T31 l0 x19_1).f0), .slice (some ad911) ((rd_T31 l0 x19_1).f1).length c899_1, .slice A899_2 ((rd_T31 l0 x19_1).f2).length c899_2] 31 (0, 0)) (by (with_reducible repeat (first | refine blk_drewN ?_ _ | refine blk_drew ?_ | refine blk_alloc ?_ _)); exact BK900.out) hb)
     have n7_ := Aside0.mk (below_step (by repeat (first | (with_reducible first | exact HB.out | apply below_alloc | apply pw_below_drewN | apply below_drew1 | refine below_set ?_ GE873.out | refine below_set ?_ GE900.out) | exact HB.out)) hb)
     clear HO_6
     clear HO910
     clear HO921
     clear HO932
     clear BK873
     clear BK900
     clear HB
     have HO_6 := n0_
     have HO910 := n1_
     have HO921 := n2_
     have HO932 := n3_
     have HO943 := n4_
     have BK873 := n5_
     have BK900 := n6_
     have HB := n7_
     clear n0_ n1_ n2_ n3_ n4_ n5_ n6_ n7_
     (try clear hb)
     (try clear hb2)
     (try clear hk)
     (try clear hi)
     (try clear ho0)
     obtain ⟨Ao27, co27, eo27⟩ := Kd.N_slice HO910.out
     (first | subst eo27 | (injection eo27 with f1_ f2_ f3_; have f4_ := f1_.symm; have f5_ := f3_.symm; clear f1_ f2_ f3_; subst f4_; subst f5_))
     obtain ⟨Ao28, co28, eo28⟩ := Kd.N_slice HO921.out
     (first | subst eo28 | (injection eo28 with f1_ f2_ f3_; have f4_ := f1_.symm; have f5_ := f3_.symm; clear f1_ f2_ f3_; subst f4_; subst f5_))
     obtain ⟨Ao29, co29, eo29⟩ := Kd.N_slice HO932.out
     (first | subst eo29 | (injection eo29 with f1_ f2_ f3_; have f4_ := f1_.symm; have f5_ := f3_.symm; clear f1_ f2_ f3_; subst f4_; subst f5_))
     obtain ⟨Ao30, co30, eo30⟩ := Kd.N_slice HO943.out
     (first | subst eo30 | (injection eo30 with f1_ f2_ f3_; have f4_ := f1_.symm; have f5_ := f3_.symm; clear f1_ f2_ f3_; subst f4_; subst f5_))
     refine hK.out _ _ ⟨(blk_cell BK900.out 0).trans rfl, (blk_cell BK900.out 1).trans rfl, (blk_cell BK900.out 2).trans rfl, ((HB.out.cell (World.block_lt_of_cell? w _ hw911_0)).trans hw911_0), ((HB.out.cell (World.block_lt_of_cell? w _ hw922_0)).trans hw922_0), ((HB.out.cell (World.block_lt_of_cell? w _ hw933_0)).trans hw933_0)⟩ (fun hHeld => ?_)
     clear hK K
     refine norm_ (a' := ?_) ?_ ?_
     rotate_left
     ·show Act.put _ (some 41) _ = _
      simp only [Act.put, List.setIfInBounds_toArray, List.set_cons_zero, List.set_cons_succ, i64_w, i32_w]
      rfl
     refine one_ (i := 19) (N := some 42) (bb [20, 4]) rfl rfl (one_of HT_.out (by kernel_rfl)) (by decide) (fun K hK => ?_)
     refine Kd.N_lit_step k39 _ 39 ?hg (N' := 42) ?hd (xs := ([(⟨t901, t902, t903, t904, t905, t906, t907, t908⟩ : S39), (⟨t912, t913, t914, t915, t916, t917, t918, t919⟩ : S39), (⟨t923, t924, t925, t926, t927, t928, t929, t930⟩ : S39), (⟨t934, t935, t936, t937, t938, t939, t940, t941⟩ : S39)] : List (S39))) (inner := [.string t901, .int .i64 t902, .bool t903, .int .i64 t904, .int .u64 t905, .float .f64 t906, .string t907, .slice Ao27 t908.length co27, .string t912, .int .i64 t913, .bool t914, .int .i64 t915, .int .u64 t916, .float .f64 t917, .string t918, .slice Ao28 t919.length co28, .string t923, .int .i64 t924, .bool t925, .int .i64 t926, .int .u64 t927, .float .f64 t928, .string t929, .slice Ao29 t930.length co29, .string t934, .int .i64 t935, .bool t936, .int .i64 t937, .int .u64 t938, .float .f64 t939, .string t940, .slice Ao30 t941.length co30]) (ok := (fun k_ => (w.heap.size ≤ k_) ∧ some k_ ≠ (u6 : Value).ownBlock ∧ k_ ≠ gb873 ∧ k_ ≠ gb900)) (okp := (fun k_ => (w.heap.size ≤ k_) ∧ some k_ ≠ (u6 : Value).ownBlock ∧ k_ ≠ gb873 ∧ k_ ≠ gb900)) ?hr ?hp (fun _ hk => hk) ((show ∀ k_, w26.heap.size ≤ k_ → (fun k_ => (w.heap.size ≤ k_) ∧ some k_ ≠ (u6 : Value).ownBlock ∧ k_ ≠ gb873 ∧ k_ ≠ gb900) k_ from fun k_ hk => ⟨(Nat.le_trans (below_size (by repeat (first | (with_reducible first | exact HB.out | apply below_alloc | apply pw_below_drewN | apply below_drew1 | refine below_set ?_ GE873.out | refine below_set ?_ GE900.out) | exact HB.out))) hk), Kd.fresh' (Kd.N_lt (by (with_reducible repeat (first | apply Kd.N_alloc | apply Kd.N_drewN | apply Kd.N_drew)); exact HO_6.out)) k_ hk, Kd.freshB (g := gb873) (o := .cells #[.string (⟨#[]⟩ : ByteArray), .int .i64 0, .bool false, .int .i64 0, .int .u64 0, .float .f64 0, .string (⟨#[]⟩ : ByteArray), .slice none 0 0] 39 (0, 0)) (by (with_reducible repeat (first | refine blk_drewN ?_ _ | refine blk_drew ?_ | refine blk_alloc ?_ _)); exact BK873.out) k_ hk, Kd.freshB (g := gb900) (o := .cells #[.string ((rd_T31 l0 x19_1).f0), .slice (some ad911) ((rd_T31 l0 x19_1).f1).length c899_1, .slice A899_2 ((rd_T31 l0 x19_1).f2).length c899_2] 31 (0, 0)) (by (with_reducible repeat (first | refine blk_drewN ?_ _ | refine blk_drew ?_ | refine blk_alloc ?_ _)); exact BK900.out) k_ hk⟩) _ (Nat.le_refl _)) (Below.refl _ _) (Nat.le_refl _) (by simp) ?_; (case hd => rfl); (case hg => rfl); (case hr => first | (go_simp; done) | (go_simp; rfl)); (case hp => exact (Reps.c8 (show Kd.FK k39 _ _ (⟨t901, t902, t903, t904, t905, t906, t907, t908⟩ : S39) [.string t901, .int .i64 t902, .bool t903, .int .i64 t904, .int .u64 t905, .float .f64 t906, .string t907, .slice Ao27 t908.length co27] from (k39_mkF _ _ (⟨t901, t902, t903, t904, t905, t906, t907, t908⟩ : S39) (Kd.N_reads' (Kd.N_mono (ok' := (fun k_ => (w.heap.size ≤ k_) ∧ some k_ ≠ (u6 : Value).ownBlock ∧ k_ ≠ gb873 ∧ k_ ≠ gb900)) (HO910.out) (fun k_ hk => ⟨hk.1.1.1.1, ⟨hk.1.1.1.2.1, ⟨hk.1.1.1.2.2.1, hk.1.1.1.2.2.2⟩⟩⟩))).2.1 (Kd.N_F (Kd.N_mono (ok' := (fun k_ => (w.heap.size ≤ k_) ∧ some k_ ≠ (u6 : Value).ownBlock ∧ k_ ≠ gb873 ∧ k_ ≠ gb900)) (HO910.out) (fun k_ hk => ⟨hk.1.1.1.1, ⟨hk.1.1.1.2.1, ⟨hk.1.1.1.2.2.1, hk.1.1.1.2.2.2⟩⟩⟩))))) (Reps.c8 (show Kd.FK k39 _ _ (⟨t912, t913, t914, t915, t916, t917, t918, t919⟩ : S39) [.string t912, .int .i64 t913, .bool t914, .int .i64 t915, .int .u64 t916, .float .f64 t917, .string t918, .slice Ao28 t919.length co28] from (k39_mkF _ _ (⟨t912, t913, t914, t915, t916, t917, t918, t919⟩ : S39) (Kd.N_reads' (Kd.N_mono (ok' := (fun k_ => (w.heap.size ≤ k_) ∧ some k_ ≠ (u6 : Value).ownBlock ∧ k_ ≠ gb873 ∧ k_ ≠ gb900)) (HO921.out) (fun k_ hk => ⟨hk.1.1.1, ⟨hk.1.1.2.1, ⟨hk.1.1.2.2.2.1, hk.1.1.2.2.2.2⟩⟩⟩))).2.1 (Kd.N_F (Kd.N_mono (ok' := (fun k_ => (w.heap.size ≤ k_) ∧ some k_ ≠ (u6 : Value).ownBlock ∧ k_ ≠ gb873 ∧ k_ ≠ gb900)) (HO921.out) (fun k_ hk => ⟨hk.1.1.1, ⟨hk.1.1.2.1, ⟨hk.1.1.2.2.2.1, hk.1.1.2.2.2.2⟩⟩⟩))))) (Reps.c8 (show Kd.FK k39 _ _ (⟨t923, t924, t925, t926, t927, t928, t929, t930⟩ : S39) [.string t923, .int .i64 t924, .bool t925, .int .i64 t926, .int .u64 t927, .float .f64 t928, .string t929, .slice Ao29 t930.length co29] from (k39_mkF _ _ (⟨t923, t924, t925, t926, t927, t928, t929, t930⟩ : S39) (Kd.N_reads' (Kd.N_mono (ok' := (fun k_ => (w.heap.size ≤ k_) ∧ some k_ ≠ (u6 : Value).ownBlock ∧ k_ ≠ gb873 ∧ k_ ≠ gb900)) (HO932.out) (fun k_ hk => ⟨hk.1.1, ⟨hk.1.2.1, ⟨hk.1.2.2.2.2.1, hk.1.2.2.2.2.2⟩⟩⟩))).2.1 (Kd.N_F (Kd.N_mono (ok' := (fun k_ => (w.heap.size ≤ k_) ∧ some k_ ≠ (u6 : Value).ownBlock ∧ k_ ≠ gb873 ∧ k_ ≠ gb900)) (HO932.out) (fun k_ hk => ⟨hk.1.1, ⟨hk.1.2.1, ⟨hk.1.2.2.2.2.1, hk.1.2.2.2.2.2⟩⟩⟩))))) (Reps.c8 (show Kd.FK k39 _ _ (⟨t934, t935, t936, t937, t938, t939, t940, t941⟩ : S39) [.string t934, .int .i64 t935, .bool t936, .int .i64 t937, .int .u64 t938, .float .f64 t939, .string t940, .slice Ao30 t941.length co30] from (k39_mkF _ _ (⟨t934, t935, t936, t937, t938, t939, t940, t941⟩ : S39) (Kd.N_reads' (Kd.N_mono (ok' := (fun k_ => (w.heap.size ≤ k_) ∧ some k_ ≠ (u6 : Value).ownBlock ∧ k_ ≠ gb873 ∧ k_ ≠ gb900)) (HO943.out) (fun k_ hk => ⟨hk.1, ⟨hk.2.1, ⟨hk.2.2.2.2.2.1, hk.2.2.2.2.2.2⟩⟩⟩))).2.1 (Kd.N_F (Kd.N_mono (ok' := (fun k_ => (w.heap.size ≤ k_) ∧ some k_ ≠ (u6 : Value).ownBlock ∧ k_ ≠ gb873 ∧ k_ ≠ gb900)) (HO943.out) (fun k_ hk => ⟨hk.1, ⟨hk.2.1, ⟨hk.2.2.2.2.2.1, hk.2.2.2.2.2.2⟩⟩⟩))))) (Reps.none _ _))))))
     intro v945 w31 ho32 hb hg_ hnew_
     clear hg_ hnew_
     (first | rw [← Ny944.out] at ho32 | (simp only [Int.reduceToNat] at ho32; rw [← Ny944.out] at ho32))
     have n0_ := Aside0.mk (Kd.N_elder' (by (with_reducible repeat (first | apply Kd.N_alloc | apply Kd.N_drewN | apply Kd.N_drew)); exact HO_6.out) (by first | exact Kd.N_base ho32 | exact Kd.R_base ho32) hb)
     have n1_ := Aside0.mk (Kd.N_lower ho32 (below_size (by repeat (first | (with_reducible first | exact HB.out | apply below_alloc | apply pw_below_drewN | apply below_drew1 | refine below_set ?_ GE873.out | refine below_set ?_ GE900.out) | exact HB.out))))
     have n2_ := Aside0.mk (blk_below (g := gb873) (o := .cells #[.string (⟨#[]⟩ : ByteArray), .int .i64 0, .bool false, .int .i64 0, .int .u64 0, .float .f64 0, .string (⟨#[]⟩ : ByteArray), .slice none 0 0] 39 (0, 0)) (by (with_reducible repeat (first | refine blk_drewN ?_ _ | refine blk_drew ?_ | refine blk_alloc ?_ _)); exact BK873.out) hb)
     have n3_ := Aside0.mk (blk_below (g := gb900) (o := .cells #[.string ((rd_T31 l0 x19_1).f0), .slice (some ad911) ((rd_T31 l0 x19_1).f1).length c899_1, .slice A899_2 ((rd_T31 l0 x19_1).f2).length c899_2] 31 (0, 0)) (by (with_reducible repeat (first | refine blk_drewN ?_ _ | refine blk_drew ?_ | refine blk_alloc ?_ _)); exact BK900.out) hb)
     have n4_ := Aside0.mk (below_step (by repeat (first | (with_reducible first | exact HB.out | apply below_alloc | apply pw_below_drewN | apply below_drew1 | refine below_set ?_ GE873.out | refine below_set ?_ GE900.out) | exact HB.out)) hb)
     clear HO_6
     clear BK873
     clear BK900
     clear HB
     clear HO910
     clear HO921
     clear HO932
     clear HO943
     have HO_6 := n0_
     have HO946 := n1_
     have BK873 := n2_
     have BK900 := n3_
     have HB := n4_
     clear n0_ n1_ n2_ n3_ n4_
     clear hb ho32
     obtain ⟨Ao33, co33, eo33⟩ := Kd.N_slice HO946.out
     (first | subst eo33 | (injection eo33 with f1_ f2_ f3_; have f4_ := f1_.symm; have f5_ := f3_.symm; clear f1_ f2_ f3_; subst f4_; subst f5_))
     refine hK.out _ _ ⟨(blk_cell BK900.out 0).trans rfl, (blk_cell BK900.out 1).trans rfl, (blk_cell BK900.out 2).trans rfl, ((HB.out.cell (World.block_lt_of_cell? w _ hw911_0)).trans hw911_0), ((HB.out.cell (World.block_lt_of_cell? w _ hw922_0)).trans hw922_0), ((HB.out.cell (World.block_lt_of_cell? w _ hw933_0)).trans hw933_0)⟩ (fun hHeld => ?_)
     clear hK K
     refine norm_ (a' := ?_) ?_ ?_
     rotate_left
     ·show Act.put _ (some 42) _ = _
      simp only [Act.put, List.setIfInBounds_toArray, List.set_cons_zero, List.set_cons_succ, i64_w, i32_w]
      rfl
     refine one_ (i := 20) (N := some 43) (bb [21, 3]) rfl rfl (one_of HT_.out (by kernel_rfl)) (by decide) (fun K hK => ?_)
     refine goes_ Tryz.func53 (by kernel_rfl) rfl #[.string (⟨#[]⟩ : ByteArray), .slice Ao33 y944.length co33] (by rfl) rfl rfl (by (try simp only [List.map_toArray, List.map_cons, List.map_nil]); first | done | rfl | (simp only [List.length_drop, List.length_take]; rfl)) ?_
     with_reducible refine (spec_recordNode.calls (⟨#[]⟩ : ByteArray) (fun k_ => ((w.heap.size ≤ k_) ∧ (some k_ ≠ (u6 : Value).ownBlock ∧ (k_ ≠ gb873 ∧ k_ ≠ gb900)))) _ _ y944 t947 t948 t949 t950 t951 t952 t953 t954 _ ?side1 A16.out).mono ?_
     (case side1 => exact Kd.N_V (HO946.out))
     rintro e w34 ⟨v955, rfl, ho0, hb⟩
     refine ⟨_, rfl, ?_⟩
     have n0_ := Aside0.mk (Kd.N_below (by (with_reducible repeat (first | apply Kd.N_alloc | apply Kd.N_drewN | apply Kd.N_drew)); exact HO_6.out) hb)
     have n1_ := Aside0.mk (Kd.N_below (by (with_reducible repeat (first | apply Kd.N_alloc | apply Kd.N_drewN | apply Kd.N_drew)); exact HO946.out) hb)
     have n2_ := Aside0.mk (Kd.V_lower (Kd.V_mono (ok' := fun k_ => (w.heap.size ≤ k_) ∧ some k_ ≠ (u6 : Value).ownBlock ∧ k_ ≠ gb873 ∧ k_ ≠ gb900) ho0 (fun k_ hk_ => ⟨Or.elim hk_ (fun hs_ => hs_.1) (fun hn_ => (Nat.le_trans (below_size (by repeat (first | (with_reducible first | exact HB.out | apply below_alloc | apply pw_below_drewN | apply below_drew1 | refine below_set ?_ GE873.out | refine below_set ?_ GE900.out) | exact HB.out))) hn_)), Or.elim hk_ (fun hs_ => hs_.2.1) (fun hn_ => (Kd.fresh' (Kd.N_lt (by (with_reducible repeat (first | apply Kd.N_alloc | apply Kd.N_drewN | apply Kd.N_drew)); exact HO_6.out)) k_ hn_)), Or.elim hk_ (fun hs_ => hs_.2.2.1) (fun hn_ => (Kd.freshB (g := gb873) (o := .cells #[.string (⟨#[]⟩ : ByteArray), .int .i64 0, .bool false, .int .i64 0, .int .u64 0, .float .f64 0, .string (⟨#[]⟩ : ByteArray), .slice none 0 0] 39 (0, 0)) (by (with_reducible repeat (first | refine blk_drewN ?_ _ | refine blk_drew ?_ | refine blk_alloc ?_ _)); exact BK873.out) k_ hn_)), Or.elim hk_ (fun hs_ => hs_.2.2.2) (fun hn_ => (Kd.freshB (g := gb900) (o := .cells #[.string ((rd_T31 l0 x19_1).f0), .slice (some ad911) ((rd_T31 l0 x19_1).f1).length c899_1, .slice A899_2 ((rd_T31 l0 x19_1).f2).length c899_2] 31 (0, 0)) (by (with_reducible repeat (first | refine blk_drewN ?_ _ | refine blk_drew ?_ | refine blk_alloc ?_ _)); exact BK900.out) k_ hn_))⟩)) (below_size (by repeat (first | (with_reducible first | exact HB.out | apply below_alloc | apply pw_below_drewN | apply below_drew1 | refine below_set ?_ GE873.out | refine below_set ?_ GE900.out) | exact HB.out))))
     have n3_ := Aside0.mk (blk_below (g := gb873) (o := .cells #[.string (⟨#[]⟩ : ByteArray), .int .i64 0, .bool false, .int .i64 0, .int .u64 0, .float .f64 0, .string (⟨#[]⟩ : ByteArray), .slice none 0 0] 39 (0, 0)) (by (with_reducible repeat (first | refine blk_drewN ?_ _ | refine blk_drew ?_ | refine blk_alloc ?_ _)); exact BK873.out) hb)
     have n4_ := Aside0.mk (blk_below (g := gb900) (o := .cells #[.string ((rd_T31 l0 x19_1).f0), .slice (some ad911) ((rd_T31 l0 x19_1).f1).length c899_1, .slice A899_2 ((rd_T31 l0 x19_1).f2).length c899_2] 31 (0, 0)) (by (with_reducible repeat (first | refine blk_drewN ?_ _ | refine blk_drew ?_ | refine blk_alloc ?_ _)); exact BK900.out) hb)
     have n5_ := Aside0.mk (below_step (by repeat (first | (with_reducible first | exact HB.out | apply below_alloc | apply pw_below_drewN | apply below_drew1 | refine below_set ?_ GE873.out | refine below_set ?_ GE900.out) | exact HB.out)) hb)
     clear HO_6
     clear HO946
     clear BK873
     clear BK900
     clear HB
     have HO_6 := n0_
     have HO946 := n1_
     have HO956 := n2_
     have BK873 := n3_
     have BK900 := n4_
     have HB := n5_
     clear n0_ n1_ n2_ n3_ n4_ n5_
     (try clear hb)
     (try clear hb2)
     (try clear hk)
     (try clear hi)
     (try clear ho0)
     obtain ⟨Ao36, co36, eo36⟩ := Kd.V_slice HO956.out
     (first | subst eo36 | (injection eo36 with f1_ f2_ f3_; have f4_ := f1_.symm; have f5_ := f3_.symm; clear f1_ f2_ f3_; subst f4_; subst f5_))
     refine hK.out _ _ ⟨(blk_cell BK900.out 0).trans rfl, (blk_cell BK900.out 1).trans rfl, (blk_cell BK900.out 2).trans rfl, ((HB.out.cell (World.block_lt_of_cell? w _ hw911_0)).trans hw911_0), ((HB.out.cell (World.block_lt_of_cell? w _ hw922_0)).trans hw922_0), ((HB.out.cell (World.block_lt_of_cell? w _ hw933_0)).trans hw933_0)⟩ (fun hHeld => ?_)
     clear hK K
     refine norm_ (a' := ?_) ?_ ?_
     rotate_left
     ·show Act.put _ (some 43) _ = _
      simp only [Act.put, List.setIfInBounds_toArray, List.set_cons_zero, List.set_cons_succ, i64_w, i32_w]
      rfl
     refine one_ (i := 21) (N := some 44) (bb [22, 2]) rfl rfl (one_of HT_.out (by kernel_rfl)) (by decide) (fun K hK => ?_)
     refine value_ (w1 := ?_) (v := ?_) (by rfl) rfl ?_ ?_
     rotate_left 2
     ·go_simp
      constructor
      ·rfl
      ·rfl
     refine hK.out _ _ ⟨(blk_cell (blk_alloc BK900.out _) 0).trans rfl, (blk_cell (blk_alloc BK900.out _) 1).trans rfl, (blk_cell (blk_alloc BK900.out _) 2).trans rfl, (World.cell?_alloc_lt _ _ _ (World.block_lt_of_cell? _ _ (((HB.out.cell (World.block_lt_of_cell? w _ hw911_0)).trans hw911_0)))).trans (((HB.out.cell (World.block_lt_of_cell? w _ hw911_0)).trans hw911_0)), (World.cell?_alloc_lt _ _ _ (World.block_lt_of_cell? _ _ (((HB.out.cell (World.block_lt_of_cell? w _ hw922_0)).trans hw922_0)))).trans (((HB.out.cell (World.block_lt_of_cell? w _ hw922_0)).trans hw922_0)), (World.cell?_alloc_lt _ _ _ (World.block_lt_of_cell? _ _ (((HB.out.cell (World.block_lt_of_cell? w _ hw933_0)).trans hw933_0)))).trans (((HB.out.cell (World.block_lt_of_cell? w _ hw933_0)).trans hw933_0))⟩ (fun hHeld => ?_)
     clear hK K
     refine norm_ (a' := ?_) ?_ ?_
     rotate_left
     ·show Act.put _ (some 44) _ = _
      simp only [Act.put, List.setIfInBounds_toArray, List.set_cons_zero, List.set_cons_succ, i64_w, i32_w]
      rfl
     refine one_ (i := 22) (N := some 45) (bb [23, 1]) rfl rfl (one_of HT_.out (by kernel_rfl)) (by decide) (fun K hK => ?_)
     refine Kd.N_append_step k39 (w0 := w) w.heap.size (by rfl) (.tmp 23) (.tmp 44) 37 39 (.agg #[(.string ⟨#[]⟩), (.int .i64 0), (.bool false), (.int .i64 0), (.int .u64 0), (.float .f64 0), (.string ⟨#[]⟩), (.slice none 0 0)]) 96 rfl Tryz.underlying37 info39 rfl (by decide) (by omega) u6 x6_1 (⟨t947, t948, t949, t950, t951, t952, t953, t954⟩ : S39) [.string t947, .int .i64 t948, .bool t949, .int .i64 t950, .int .u64 t951, .float .f64 t952, .string t953, .slice Ao36 t954.length co36] (fun k_ => (w.heap.size ≤ k_) ∧ k_ ≠ gb873 ∧ k_ ≠ gb900) (fun k_ => ((fun k_ => (w.heap.size ≤ k_) ∧ k_ ≠ gb873 ∧ k_ ≠ gb900)) k_ ∧ some k_ ≠ (u6 : Value).ownBlock) rfl rfl ?aP (fun _ hk => hk) ?aF ?aO ?aB ?aS ?aL ?_
     (case aP => exact (k39_mkF _ _ (⟨t947, t948, t949, t950, t951, t952, t953, t954⟩ : S39) (Kd.V_reads' (Kd.V_mono (ok' := (fun k_ => ((fun k_ => (w.heap.size ≤ k_) ∧ k_ ≠ gb873 ∧ k_ ≠ gb900)) k_ ∧ some k_ ≠ (u6 : Value).ownBlock)) (HO956.out) (fun k_ hk => ⟨⟨hk.1, ⟨hk.2.2.1, hk.2.2.2⟩⟩, hk.2.1⟩))).2.1 (Kd.V_F (Kd.V_mono (ok' := (fun k_ => ((fun k_ => (w.heap.size ≤ k_) ∧ k_ ≠ gb873 ∧ k_ ≠ gb900)) k_ ∧ some k_ ≠ (u6 : Value).ownBlock)) (HO956.out) (fun k_ hk => ⟨⟨hk.1, ⟨hk.2.2.1, hk.2.2.2⟩⟩, hk.2.1⟩)))))
     (case aB => exact (by repeat (first | (with_reducible first | exact HB.out | apply below_alloc | apply pw_below_drewN | apply below_drew1 | refine below_set ?_ GE873.out | refine below_set ?_ GE900.out) | exact HB.out)))
     (case aF => exact (fun k_ hk => ⟨(Nat.le_trans (below_size (by repeat (first | (with_reducible first | exact HB.out | apply below_alloc | apply pw_below_drewN | apply below_drew1 | refine below_set ?_ GE873.out | refine below_set ?_ GE900.out) | exact HB.out))) hk), Kd.freshB (g := gb873) (o := .cells #[.string (⟨#[]⟩ : ByteArray), .int .i64 0, .bool false, .int .i64 0, .int .u64 0, .float .f64 0, .string (⟨#[]⟩ : ByteArray), .slice none 0 0] 39 (0, 0)) (by (with_reducible repeat (first | refine blk_drewN ?_ _ | refine blk_drew ?_ | refine blk_alloc ?_ _)); exact BK873.out) k_ hk, Kd.freshB (g := gb900) (o := .cells #[.string ((rd_T31 l0 x19_1).f0), .slice (some ad911) ((rd_T31 l0 x19_1).f1).length c899_1, .slice A899_2 ((rd_T31 l0 x19_1).f2).length c899_2] 31 (0, 0)) (by (with_reducible repeat (first | refine blk_drewN ?_ _ | refine blk_drew ?_ | refine blk_alloc ?_ _)); exact BK900.out) k_ hk⟩))
     (case aO => exact (by (with_reducible repeat (first | apply Kd.N_alloc | apply Kd.N_drewN | apply Kd.N_drew)); exact Kd.N_mono HO_6.out (fun _ hk => ⟨hk.1.1.1.1.1.1, ⟨hk.1.1.1.1.1.2.1, hk.1.1.1.1.1.2.2⟩⟩)))
     (case aS => exact (below_size (by repeat (first | (with_reducible first | exact HB.out | apply below_alloc | apply pw_below_drewN | apply below_drew1 | refine below_set ?_ GE873.out | refine below_set ?_ GE900.out) | exact HB.out))))
     (case aL => have := LMc17.out; omega)
     intro v958 w35 ho hb hg hat
     rw [← Ny957.out] at ho
     have n0_ := Aside0.mk (blk_grown (g := gb873) (o := .cells #[.string (⟨#[]⟩ : ByteArray), .int .i64 0, .bool false, .int .i64 0, .int .u64 0, .float .f64 0, .string (⟨#[]⟩ : ByteArray), .slice none 0 0] 39 (0, 0)) (by (with_reducible repeat (first | refine blk_drewN ?_ _ | refine blk_drew ?_ | refine blk_alloc ?_ _)); exact BK873.out) hg (Kd.N_away HO_6.out (fun _ hk => hk.1.1.1.1.1.2.1)))
     have n1_ := Aside0.mk (blk_grown (g := gb900) (o := .cells #[.string ((rd_T31 l0 x19_1).f0), .slice (some ad911) ((rd_T31 l0 x19_1).f1).length c899_1, .slice A899_2 ((rd_T31 l0 x19_1).f2).length c899_2] 31 (0, 0)) (by (with_reducible repeat (first | refine blk_drewN ?_ _ | refine blk_drew ?_ | refine blk_alloc ?_ _)); exact BK900.out) hg (Kd.N_ne HO_6.out BK900.out (by decide)))
     have n2_ := Aside0.mk (Kd.N_afterv (ok := (fun k_ => (w.heap.size ≤ k_) ∧ k_ ≠ gb873 ∧ k_ ≠ gb900)) (by (with_reducible repeat (first | apply Kd.N_alloc | apply Kd.N_drewN | apply Kd.N_drew)); exact Kd.N_mono HO946.out (fun _ hk => ⟨⟨hk.1, ⟨hk.2.2.1, hk.2.2.2⟩⟩, hk.2.1⟩)) hg hat)
     have n3_ := Aside0.mk (Kd.V_afterv (ok := (fun k_ => (w.heap.size ≤ k_) ∧ k_ ≠ gb873 ∧ k_ ≠ gb900)) (by (with_reducible repeat (first | apply Kd.V_alloc | apply Kd.V_drewN | apply Kd.V_drew)); exact Kd.V_mono HO956.out (fun _ hk => ⟨⟨hk.1, ⟨hk.2.2.1, hk.2.2.2⟩⟩, hk.2.1⟩)) hg hat)
     have n4_ := Aside0.mk (hb)
     have n5_ := Aside0.mk (ho)
     clear BK873
     clear BK900
     clear HO946
     clear HO956
     clear HB
     clear HO_6
     have BK873 := n0_
     have BK900 := n1_
     have HO946 := n2_
     have HO956 := n3_
     have HB := n4_
     have HO959 := n5_
     clear n0_ n1_ n2_ n3_ n4_ n5_
     clear ho hb hg hat
     refine hK.out _ _ ⟨(blk_cell BK900.out 0).trans rfl, (blk_cell BK900.out 1).trans rfl, (blk_cell BK900.out 2).trans rfl, ((HB.out.cell (World.block_lt_of_cell? w _ hw911_0)).trans hw911_0), ((HB.out.cell (World.block_lt_of_cell? w _ hw922_0)).trans hw922_0), ((HB.out.cell (World.block_lt_of_cell? w _ hw933_0)).trans hw933_0)⟩ (fun hHeld => ?_)
     clear hK K
     refine norm_ (a' := ?_) ?_ ?_
     rotate_left
     ·show Act.put _ (some 45) _ = _
      simp only [Act.put, List.setIfInBounds_toArray, List.set_cons_zero, List.set_cons_succ, i64_w, i32_w]
      rfl
     refine pure_ (i := 23) (N := some 6) (v := ?_) (a' := ?_) (bb [24]) rfl rfl (any_of HT_.out (by kernel_rfl)) (fun _ _ _ h => h) (Or.inl ⟨by rfl, ?_⟩) ?_ ?_
     rotate_left
     ·intro w'
      go_simp
      with_reducible rfl
     rotate_left
     ·simp only [Act.put, List.setIfInBounds_toArray, List.set_cons_zero, List.set_cons_succ, i64_w, i32_w]
      rfl
     refine done_ (done_of HT_.out (by kernel_rfl)) ?_
     try go_wp2
     go_roundg k1
     case measure => have := HK1.out; omega
     case rel => exact ⟨(y957), (wrap64 (x19_1 + 1)), (by first | rfl | (simp; done) | (simp [*]; done)), H', ⟨by have := HK1.out; omega⟩, ⟨by (with_reducible repeat (first | apply Kd.N_alloc | apply Kd.N_drewN | apply Kd.N_drew)); exact Kd.N_mono HO959.out (fun _ hk => ⟨hk.1, hk.2.1⟩)⟩, ⟨by (with_reducible repeat (first | refine blk_drewN ?_ _ | refine blk_drew ?_ | refine blk_alloc ?_ _)); exact BK873.out⟩, ⟨by repeat (first | (with_reducible first | exact HB.out | apply below_alloc | apply pw_below_drewN | apply below_drew1 | refine below_set ?_ GE873.out | refine below_set ?_ GE900.out) | exact HB.out)⟩⟩
    ·rw [if_neg c6] at H
     have c6b0 : decide (x19_1 < (l0.length : Int)) = false := decide_eq_false c6
     clear c6
     replace H := Option.bind_eq_some_iff.mp H
     obtain ⟨⟨t876, t877, t878, t879, t880, t881, t882, t883⟩, A370, H⟩ := H
     replace H : ((spec_recordNode.f (⟨#[]⟩ : ByteArray) (([(⟨t876, t877, t878, t879, t880, t881, t882, t883⟩ : S39)] : List (S39)))).bind fun bt889 => (some (bt889.1, bt889.2.1, bt889.2.2.1, bt889.2.2.2.1, bt889.2.2.2.2.1, bt889.2.2.2.2.2.1, bt889.2.2.2.2.2.2.1, bt889.2.2.2.2.2.2.2, 1))) = some (r1, r2, r3, r4, r5, r6, r7, r8, r9) := H
     have A37 := Aside0.mk A370
     clear A370
     obtain ⟨y886, hy886⟩ : ∃ y_ : List (S39), y_ = (([(⟨t876, t877, t878, t879, t880, t881, t882, t883⟩ : S39)] : List (S39))) := ⟨_, rfl⟩
     replace H : ((spec_recordNode.f (⟨#[]⟩ : ByteArray) y886).bind fun bt889 => (some (bt889.1, bt889.2.1, bt889.2.2.1, bt889.2.2.2.1, bt889.2.2.2.2.1, bt889.2.2.2.2.2.1, bt889.2.2.2.2.2.2.1, bt889.2.2.2.2.2.2.2, 1))) = some (r1, r2, r3, r4, r5, r6, r7, r8, r9) := by first | (rw [hy886]; with_reducible exact H) | (have H2_ := (Option.bind_some _ _).symm.trans H; rw [hy886]; with_reducible exact H2_) | (have H2_ := (Option.bind_some _ _).symm.trans H; with_reducible exact H2_) | with_reducible exact H | (rw [hy886]; exact H) | exact H
     have Ny886 := Aside0.mk hy886
     clear hy886
     replace H := Option.bind_eq_some_iff.mp H
     obtain ⟨⟨t889, t890, t891, t892, t893, t894, t895, t896⟩, A380, H⟩ := H
     replace H : (some (t889, t890, t891, t892, t893, t894, t895, t896, 1)) = some (r1, r2, r3, r4, r5, r6, r7, r8, r9) := H
     have A38 := Aside0.mk A380
     clear A380
     simp only [Option.some.injEq, Prod.mk.injEq] at H
     obtain ⟨rfl, rfl, rfl, rfl, rfl, rfl, rfl, rfl, rfl⟩ := H
     obtain ⟨Ao39, co39, eo39⟩ := Kd.N_slice HO_6.out
     subst eo39
     go_wp2_with (first | ((with_reducible refine gate_callee (f := 66) rfl ?_); refine goesL_ (some 48) rfl rfl Tryz.func66 (by kernel_rfl) rfl #[.string (⟨#[67, 80, 85, 115]⟩ : ByteArray), .slice Ao39 x6_1.length co39] rfl (by (try simp only [List.map_toArray, List.map_cons, List.map_nil]); first | done | rfl | (simp only [List.length_drop, List.length_take]; rfl)) ?_; (with_reducible refine (spec_listNode.calls (⟨#[67, 80, 85, 115]⟩ : ByteArray) (fun k_ => ((w.heap.size ≤ k_) ∧ k_ ≠ gb873)) _ _ x6_1 t876 t877 t878 t879 t880 t881 t882 t883 _ ?side1 A37.out).mono ?_); (case side1 => exact Kd.N_V (HO_6.out)); rintro e w40 ⟨v884, rfl, ho0, hb⟩; refine ⟨_, rfl, ?_⟩; have n0_ := Aside0.mk (Kd.N_below (by (with_reducible repeat (first | apply Kd.N_alloc | apply Kd.N_drewN | apply Kd.N_drew)); exact HO_6.out) hb); have n1_ := Aside0.mk (Kd.V_lower (Kd.V_mono (ok' := fun k_ => (w.heap.size ≤ k_) ∧ k_ ≠ gb873) ho0 (fun k_ hk_ => ⟨Or.elim hk_ (fun hs_ => hs_.1) (fun hn_ => (Nat.le_trans (below_size (by repeat (first | (with_reducible first | exact HB.out | apply below_alloc | apply pw_below_drewN | apply below_drew1 | refine below_set ?_ GE873.out) | exact HB.out))) hn_)), Or.elim hk_ (fun hs_ => hs_.2) (fun hn_ => (Kd.freshB (g := gb873) (o := .cells #[.string (⟨#[]⟩ : ByteArray), .int .i64 0, .bool false, .int .i64 0, .int .u64 0, .float .f64 0, .string (⟨#[]⟩ : ByteArray), .slice none 0 0] 39 (0, 0)) (by (with_reducible repeat (first | refine blk_drewN ?_ _ | refine blk_drew ?_ | refine blk_alloc ?_ _)); exact BK873.out) k_ hn_))⟩)) (below_size (by repeat (first | (with_reducible first | exact HB.out | apply below_alloc | apply pw_below_drewN | apply below_drew1 | refine below_set ?_ GE873.out) | exact HB.out)))); have n2_ := Aside0.mk (blk_below (g := gb873) (o := .cells #[.string (⟨#[]⟩ : ByteArray), .int .i64 0, .bool false, .int .i64 0, .int .u64 0, .float .f64 0, .string (⟨#[]⟩ : ByteArray), .slice none 0 0] 39 (0, 0)) (by (with_reducible repeat (first | refine blk_drewN ?_ _ | refine blk_drew ?_ | refine blk_alloc ?_ _)); exact BK873.out) hb); have n3_ := Aside0.mk (below_step (by repeat (first | (with_reducible first | exact HB.out | apply below_alloc | apply pw_below_drewN | apply below_drew1 | refine below_set ?_ GE873.out) | exact HB.out)) hb); clear HO_6; clear BK873; clear HB; have HO_6 := n0_; have HO885 := n1_; have BK873 := n2_; have HB := n3_; clear n0_ n1_ n2_ n3_; (try clear hb); (try clear hb2); (try clear hk); (try clear hi); (try clear ho0); obtain ⟨Ao41, co41, eo41⟩ := Kd.V_slice HO885.out; subst eo41) | ((with_reducible refine gate_dst (N := 49) rfl ?_); refine Kd.N_lit k39 _ 39 ?hg (N' := 49) ?hd (xs := ([(⟨t876, t877, t878, t879, t880, t881, t882, t883⟩ : S39)] : List (S39))) (inner := [.string t876, .int .i64 t877, .bool t878, .int .i64 t879, .int .u64 t880, .float .f64 t881, .string t882, .slice Ao41 t883.length co41]) (ok := (fun k_ => (w.heap.size ≤ k_) ∧ k_ ≠ gb873)) (okp := (fun k_ => (w.heap.size ≤ k_) ∧ k_ ≠ gb873)) ?hr ?hp (fun _ hk => hk) ((show ∀ k_, w40.heap.size ≤ k_ → (fun k_ => (w.heap.size ≤ k_) ∧ k_ ≠ gb873) k_ from fun k_ hk => ⟨(Nat.le_trans (below_size (by repeat (first | (with_reducible first | exact HB.out | apply below_alloc | apply pw_below_drewN | apply below_drew1 | refine below_set ?_ GE873.out) | exact HB.out))) hk), Kd.freshB (g := gb873) (o := .cells #[.string (⟨#[]⟩ : ByteArray), .int .i64 0, .bool false, .int .i64 0, .int .u64 0, .float .f64 0, .string (⟨#[]⟩ : ByteArray), .slice none 0 0] 39 (0, 0)) (by (with_reducible repeat (first | refine blk_drewN ?_ _ | refine blk_drew ?_ | refine blk_alloc ?_ _)); exact BK873.out) k_ hk⟩) _ (Nat.le_refl _)) (Below.refl _ _) (Nat.le_refl _) (by simp) ?_; (case hd => rfl); (case hg => rfl); (case hr => first | (go_simp; done) | (go_simp; rfl)); (case hp => exact (Reps.c8 (show Kd.FK k39 _ _ (⟨t876, t877, t878, t879, t880, t881, t882, t883⟩ : S39) [.string t876, .int .i64 t877, .bool t878, .int .i64 t879, .int .u64 t880, .float .f64 t881, .string t882, .slice Ao41 t883.length co41] from (k39_mkF _ _ (⟨t876, t877, t878, t879, t880, t881, t882, t883⟩ : S39) (Kd.V_reads' (Kd.V_mono (ok' := (fun k_ => (w.heap.size ≤ k_) ∧ k_ ≠ gb873)) (HO885.out) (fun k_ hk => ⟨hk.1, hk.2⟩))).2.1 (Kd.V_F (Kd.V_mono (ok' := (fun k_ => (w.heap.size ≤ k_) ∧ k_ ≠ gb873)) (HO885.out) (fun k_ hk => ⟨hk.1, hk.2⟩))))) (Reps.none _ _))); intro v887 w42 ho43 hb hg_ hnew_; clear hg_ hnew_; (first | rw [← Ny886.out] at ho43 | (simp only [Int.reduceToNat] at ho43; rw [← Ny886.out] at ho43)); have n0_ := Aside0.mk (Kd.N_elder' (by (with_reducible repeat (first | apply Kd.N_alloc | apply Kd.N_drewN | apply Kd.N_drew)); exact HO_6.out) (by first | exact Kd.N_base ho43 | exact Kd.R_base ho43) hb); have n1_ := Aside0.mk (Kd.V_elder' (by (with_reducible repeat (first | apply Kd.V_alloc | apply Kd.V_drewN | apply Kd.V_drew)); exact HO885.out) (by first | exact Kd.N_base ho43 | exact Kd.R_base ho43) hb); have n2_ := Aside0.mk (Kd.N_lower ho43 (below_size (by repeat (first | (with_reducible first | exact HB.out | apply below_alloc | apply pw_below_drewN | apply below_drew1 | refine below_set ?_ GE873.out) | exact HB.out)))); have n3_ := Aside0.mk (blk_below (g := gb873) (o := .cells #[.string (⟨#[]⟩ : ByteArray), .int .i64 0, .bool false, .int .i64 0, .int .u64 0, .float .f64 0, .string (⟨#[]⟩ : ByteArray), .slice none 0 0] 39 (0, 0)) (by (with_reducible repeat (first | refine blk_drewN ?_ _ | refine blk_drew ?_ | refine blk_alloc ?_ _)); exact BK873.out) hb); have n4_ := Aside0.mk (below_step (by repeat (first | (with_reducible first | exact HB.out | apply below_alloc | apply pw_below_drewN | apply below_drew1 | refine below_set ?_ GE873.out) | exact HB.out)) hb); clear HO_6; clear HO885; clear BK873; clear HB; have HO_6 := n0_; have HO885 := n1_; have HO888 := n2_; have BK873 := n3_; have HB := n4_; clear n0_ n1_ n2_ n3_ n4_; clear hb ho43; obtain ⟨Ao44, co44, eo44⟩ := Kd.N_slice HO888.out; subst eo44) | ((with_reducible refine gate_callee (f := 53) rfl ?_); refine goesL_ (some 50) rfl rfl Tryz.func53 (by kernel_rfl) rfl #[.string (⟨#[]⟩ : ByteArray), .slice Ao44 y886.length co44] rfl (by (try simp only [List.map_toArray, List.map_cons, List.map_nil]); first | done | rfl | (simp only [List.length_drop, List.length_take]; rfl)) ?_; (with_reducible refine (spec_recordNode.calls (⟨#[]⟩ : ByteArray) (fun k_ => ((w.heap.size ≤ k_) ∧ k_ ≠ gb873)) _ _ y886 t889 t890 t891 t892 t893 t894 t895 t896 _ ?side1 A38.out).mono ?_); (case side1 => exact Kd.N_V (HO888.out)); rintro e w45 ⟨v897, rfl, ho0, hb⟩; refine ⟨_, rfl, ?_⟩; have n0_ := Aside0.mk (Kd.N_below (by (with_reducible repeat (first | apply Kd.N_alloc | apply Kd.N_drewN | apply Kd.N_drew)); exact HO_6.out) hb); have n1_ := Aside0.mk (Kd.V_below (by (with_reducible repeat (first | apply Kd.V_alloc | apply Kd.V_drewN | apply Kd.V_drew)); exact HO885.out) hb); have n2_ := Aside0.mk (Kd.N_below (by (with_reducible repeat (first | apply Kd.N_alloc | apply Kd.N_drewN | apply Kd.N_drew)); exact HO888.out) hb); have n3_ := Aside0.mk (Kd.V_lower (Kd.V_mono (ok' := fun k_ => (w.heap.size ≤ k_) ∧ k_ ≠ gb873) ho0 (fun k_ hk_ => ⟨Or.elim hk_ (fun hs_ => hs_.1) (fun hn_ => (Nat.le_trans (below_size (by repeat (first | (with_reducible first | exact HB.out | apply below_alloc | apply pw_below_drewN | apply below_drew1 | refine below_set ?_ GE873.out) | exact HB.out))) hn_)), Or.elim hk_ (fun hs_ => hs_.2) (fun hn_ => (Kd.freshB (g := gb873) (o := .cells #[.string (⟨#[]⟩ : ByteArray), .int .i64 0, .bool false, .int .i64 0, .int .u64 0, .float .f64 0, .string (⟨#[]⟩ : ByteArray), .slice none 0 0] 39 (0, 0)) (by (with_reducible repeat (first | refine blk_drewN ?_ _ | refine blk_drew ?_ | refine blk_alloc ?_ _)); exact BK873.out) k_ hn_))⟩)) (below_size (by repeat (first | (with_reducible first | exact HB.out | apply below_alloc | apply pw_below_drewN | apply below_drew1 | refine below_set ?_ GE873.out) | exact HB.out)))); have n4_ := Aside0.mk (blk_below (g := gb873) (o := .cells #[.string (⟨#[]⟩ : ByteArray), .int .i64 0, .bool false, .int .i64 0, .int .u64 0, .float .f64 0, .string (⟨#[]⟩ : ByteArray), .slice none 0 0] 39 (0, 0)) (by (with_reducible repeat (first | refine blk_drewN ?_ _ | refine blk_drew ?_ | refine blk_alloc ?_ _)); exact BK873.out) hb); have n5_ := Aside0.mk (below_step (by repeat (first | (with_reducible first | exact HB.out | apply below_alloc | apply pw_below_drewN | apply below_drew1 | refine below_set ?_ GE873.out) | exact HB.out)) hb); clear HO_6; clear HO885; clear HO888; clear BK873; clear HB; have HO_6 := n0_; have HO885 := n1_; have HO888 := n2_; have HO898 := n3_; have BK873 := n4_; have HB := n5_; clear n0_ n1_ n2_ n3_ n4_ n5_; (try clear hb); (try clear hb2); (try clear hk); (try clear hi); (try clear ho0); have hcz46_0 : w45.cell? ⟨gb873, 0, none⟩ = some (.string (⟨#[]⟩ : ByteArray)) := (blk_cell BK873.out 0).trans rfl; have hcz46_1 : w45.cell? ⟨gb873, 1, none⟩ = some (.int .i64 0) := (blk_cell BK873.out 1).trans rfl; have hcz46_2 : w45.cell? ⟨gb873, 2, none⟩ = some (.bool false) := (blk_cell BK873.out 2).trans rfl; have hcz46_3 : w45.cell? ⟨gb873, 3, none⟩ = some (.int .i64 0) := (blk_cell BK873.out 3).trans rfl; have hcz46_4 : w45.cell? ⟨gb873, 4, none⟩ = some (.int .u64 0) := (blk_cell BK873.out 4).trans rfl; have hcz46_5 : w45.cell? ⟨gb873, 5, none⟩ = some (.float .f64 0) := (blk_cell BK873.out 5).trans rfl; have hcz46_6 : w45.cell? ⟨gb873, 6, none⟩ = some (.string (⟨#[]⟩ : ByteArray)) := (blk_cell BK873.out 6).trans rfl; have hcz46_7 : w45.cell? ⟨gb873, 7, none⟩ = some (.slice none 0 0) := (blk_cell BK873.out 7).trans rfl; have hfz46_0 := blk_frozen BK873.out 0; have hfz46_1 := blk_frozen BK873.out 1; have hfz46_2 := blk_frozen BK873.out 2; have hfz46_3 := blk_frozen BK873.out 3; have hfz46_4 := blk_frozen BK873.out 4; have hfz46_5 := blk_frozen BK873.out 5; have hfz46_6 := blk_frozen BK873.out 6; have hfz46_7 := blk_frozen BK873.out 7; obtain ⟨Ao47, co47, eo47⟩ := Kd.V_slice HO898.out; subst eo47))
     refine bodyPost_ret (results_ct rfl _ _ gb873 39 #[.string t889, .int .i64 t890, .bool t891, .int .i64 t892, .int .u64 t893, .float .f64 t894, .string t895, .slice Ao47 t896.length co47] (0, 0) _ rfl (by (with_reducible repeat (first | refine blk_drewN ?_ _ | refine blk_drew ?_ | refine blk_alloc ?_ _)); refine blk_put (cs := #[.string t889, .int .i64 t890, .bool t891, .int .i64 t892, .int .u64 t893, .float .f64 t894, .string t895, .slice none 0 0]) ?_ 7 _ rfl; (with_reducible repeat (first | refine blk_drewN ?_ _ | refine blk_drew ?_ | refine blk_alloc ?_ _)); refine blk_put (cs := #[.string t889, .int .i64 t890, .bool t891, .int .i64 t892, .int .u64 t893, .float .f64 t894, .string (⟨#[]⟩ : ByteArray), .slice none 0 0]) ?_ 6 _ rfl; (with_reducible repeat (first | refine blk_drewN ?_ _ | refine blk_drew ?_ | refine blk_alloc ?_ _)); refine blk_put (cs := #[.string t889, .int .i64 t890, .bool t891, .int .i64 t892, .int .u64 t893, .float .f64 0, .string (⟨#[]⟩ : ByteArray), .slice none 0 0]) ?_ 5 _ rfl; (with_reducible repeat (first | refine blk_drewN ?_ _ | refine blk_drew ?_ | refine blk_alloc ?_ _)); refine blk_put (cs := #[.string t889, .int .i64 t890, .bool t891, .int .i64 t892, .int .u64 0, .float .f64 0, .string (⟨#[]⟩ : ByteArray), .slice none 0 0]) ?_ 4 _ rfl; (with_reducible repeat (first | refine blk_drewN ?_ _ | refine blk_drew ?_ | refine blk_alloc ?_ _)); refine blk_put (cs := #[.string t889, .int .i64 t890, .bool t891, .int .i64 0, .int .u64 0, .float .f64 0, .string (⟨#[]⟩ : ByteArray), .slice none 0 0]) ?_ 3 _ rfl; (with_reducible repeat (first | refine blk_drewN ?_ _ | refine blk_drew ?_ | refine blk_alloc ?_ _)); refine blk_put (cs := #[.string t889, .int .i64 t890, .bool false, .int .i64 0, .int .u64 0, .float .f64 0, .string (⟨#[]⟩ : ByteArray), .slice none 0 0]) ?_ 2 _ rfl; (with_reducible repeat (first | refine blk_drewN ?_ _ | refine blk_drew ?_ | refine blk_alloc ?_ _)); refine blk_put (cs := #[.string t889, .int .i64 0, .bool false, .int .i64 0, .int .u64 0, .float .f64 0, .string (⟨#[]⟩ : ByteArray), .slice none 0 0]) ?_ 1 _ rfl; (with_reducible repeat (first | refine blk_drewN ?_ _ | refine blk_drew ?_ | refine blk_alloc ?_ _)); refine blk_put (cs := #[.string (⟨#[]⟩ : ByteArray), .int .i64 0, .bool false, .int .i64 0, .int .u64 0, .float .f64 0, .string (⟨#[]⟩ : ByteArray), .slice none 0 0]) ?_ 0 _ rfl; (with_reducible repeat (first | refine blk_drewN ?_ _ | refine blk_drew ?_ | refine blk_alloc ?_ _)); exact BK873.out) Tryz.underlying39 rfl (by kernel_rfl)) rfl ?_
     exact ⟨_, by first | rfl | (simp [errW_none, errW_some] <;> rfl) | (simp [*, errW_none, errW_some] <;> rfl), by (with_reducible repeat (first | apply Kd.V_alloc | apply Kd.V_drewN | apply Kd.V_drew)); exact Kd.V_mono (Kd.V_far (p := ⟨gb873, 7, none⟩) (Kd.V_far (p := ⟨gb873, 6, none⟩) (Kd.V_far (p := ⟨gb873, 5, none⟩) (Kd.V_far (p := ⟨gb873, 4, none⟩) (Kd.V_far (p := ⟨gb873, 3, none⟩) (Kd.V_far (p := ⟨gb873, 2, none⟩) (Kd.V_far (p := ⟨gb873, 1, none⟩) (Kd.V_far (p := ⟨gb873, 0, none⟩) (Kd.V_mono HO898.out (fun k_ hk => (⟨hk, hk.2⟩ : _ ∧ k_ ≠ gb873))) (fun _ hk => hk.2) (.string t889)) (fun _ hk => hk.2) (.int .i64 t890)) (fun _ hk => hk.2) (.bool t891)) (fun _ hk => hk.2) (.int .i64 t892)) (fun _ hk => hk.2) (.int .u64 t893)) (fun _ hk => hk.2) (.float .f64 t894)) (fun _ hk => hk.2) (.string t895)) (fun _ hk => hk.2) (.slice Ao47 t896.length co47)) (fun _ hk => hk.1.1), by repeat (first | (with_reducible first | exact HB.out | apply below_alloc | apply pw_below_drewN | apply below_drew1 | refine below_set ?_ GE873.out) | exact HB.out)⟩
 ·rw [if_neg c3] at H
  have c3b0 : (t875 == 1) = false := beq_eq_false_iff_ne.mpr c3
  have c3b1 : (t875 != 1) = true := bne_iff_ne.mpr c3
  simp only [Option.some.injEq, Prod.mk.injEq] at H
  obtain ⟨rfl, rfl, rfl, rfl, rfl, rfl, rfl, rfl, rfl⟩ := H
  go_enter Tryz.func25, Tryz.ntmps25
  go_wp2_with (first | ((with_reducible refine gate_dst (N := 2) rfl ?_); refine box_event ?hg (N := 2) ?hd (cs := #[.string (⟨#[]⟩ : ByteArray), .int .i64 0, .bool false, .int .i64 0, .int .u64 0, .float .f64 0, .string (⟨#[]⟩ : ByteArray), .slice none 0 0]) (t := 39) ?hr ?_; (case hd => rfl); (case hg => rfl); (case hr => first | (go_simp; done) | (go_simp; rfl)); intro gb873 hg w48 hbox hb; have n0_ := Aside0.mk (below_step (by repeat (first | (with_reducible first | exact HB.out | apply below_alloc | apply pw_below_drewN | apply below_drew1) | exact HB.out)) hb); have n1_ := Aside0.mk (hbox); have n2_ := Aside0.mk ((by rw [hg]; exact (below_size (by repeat (first | (with_reducible first | exact HB.out | apply below_alloc | apply pw_below_drewN | apply below_drew1) | exact HB.out))) : w.heap.size ≤ gb873)); have n3_ := Aside0.mk ((by rw [hg]; exact (below_size (by repeat (first | (with_reducible first | exact HB.out | apply below_alloc | apply pw_below_drewN | apply below_drew1) | exact HB.out))) : w.heap.size ≤ gb873)); clear HB; have HB := n0_; have BK873 := n1_; have GW873 := n2_; have GE873 := n3_; clear n0_ n1_ n2_ n3_; clear hb hbox hg) | ((with_reducible refine gate_callee (f := 24) rfl ?_); refine goesL_ (some 11) rfl rfl Tryz.func24 (by kernel_rfl) rfl #[.slice A0 l0.length c0] rfl (by (try simp only [List.map_toArray, List.map_cons, List.map_nil]); first | done | rfl | (simp only [List.length_drop, List.length_take]; rfl)) ?_; (with_reducible refine (spec_SchedstatPrint.calls k _ _ l0 t874 t875 _ ?side1 ?side2 A2.out).mono ?_); (case side1 => repeat (first | exact (Kd.C_below HR0.out HB.out) | (with_reducible refine Kd.C_alloc ?_ _) | (with_reducible refine Kd.C_drewN ?_ _) | (with_reducible refine Kd.C_drew ?_))); (case side2 => exact HC0.out); rintro e w49 ⟨rfl, hb⟩; refine ⟨_, rfl, ?_⟩; have n0_ := Aside0.mk (blk_below (g := gb873) (o := .cells #[.string (⟨#[]⟩ : ByteArray), .int .i64 0, .bool false, .int .i64 0, .int .u64 0, .float .f64 0, .string (⟨#[]⟩ : ByteArray), .slice none 0 0] 39 (0, 0)) (by (with_reducible repeat (first | refine blk_drewN ?_ _ | refine blk_drew ?_ | refine blk_alloc ?_ _)); exact BK873.out) hb); have n1_ := Aside0.mk (below_step (by repeat (first | (with_reducible first | exact HB.out | apply below_alloc | apply pw_below_drewN | apply below_drew1 | refine below_set ?_ GE873.out) | exact HB.out)) hb); clear BK873; clear HB; have BK873 := n0_; have HB := n1_; clear n0_ n1_; (try clear hb); (try clear hb2); (try clear hk); (try clear hi); have hcz50_0 : w49.cell? ⟨gb873, 0, none⟩ = some (.string (⟨#[]⟩ : ByteArray)) := (blk_cell BK873.out 0).trans rfl; have hcz50_1 : w49.cell? ⟨gb873, 1, none⟩ = some (.int .i64 0) := (blk_cell BK873.out 1).trans rfl; have hcz50_2 : w49.cell? ⟨gb873, 2, none⟩ = some (.bool false) := (blk_cell BK873.out 2).trans rfl; have hcz50_3 : w49.cell? ⟨gb873, 3, none⟩ = some (.int .i64 0) := (blk_cell BK873.out 3).trans rfl; have hcz50_4 : w49.cell? ⟨gb873, 4, none⟩ = some (.int .u64 0) := (blk_cell BK873.out 4).trans rfl; have hcz50_5 : w49.cell? ⟨gb873, 5, none⟩ = some (.float .f64 0) := (blk_cell BK873.out 5).trans rfl; have hcz50_6 : w49.cell? ⟨gb873, 6, none⟩ = some (.string (⟨#[]⟩ : ByteArray)) := (blk_cell BK873.out 6).trans rfl; have hcz50_7 : w49.cell? ⟨gb873, 7, none⟩ = some (.slice none 0 0) := (blk_cell BK873.out 7).trans rfl; have hfz50_0 := blk_frozen BK873.out 0; have hfz50_1 := blk_frozen BK873.out 1; have hfz50_2 := blk_frozen BK873.out 2; have hfz50_3 := blk_frozen BK873.out 3; have hfz50_4 := blk_frozen BK873.out 4; have hfz50_5 := blk_frozen BK873.out 5; have hfz50_6 := blk_frozen BK873.out 6; have hfz50_7 := blk_frozen BK873.out 7))
  refine bodyPost_ret (results_ct rfl _ _ gb873 39 #[.string (⟨#[]⟩ : ByteArray), .int .i64 0, .bool false, .int .i64 0, .int .u64 0, .float .f64 0, .string (⟨#[]⟩ : ByteArray), .slice none 0 0] (0, 0) _ rfl (by (with_reducible repeat (first | refine blk_drewN ?_ _ | refine blk_drew ?_ | refine blk_alloc ?_ _)); refine blk_put (cs := #[.string (⟨#[]⟩ : ByteArray), .int .i64 0, .bool false, .int .i64 0, .int .u64 0, .float .f64 0, .string (⟨#[]⟩ : ByteArray), .slice none 0 0]) ?_ 7 _ rfl; (with_reducible repeat (first | refine blk_drewN ?_ _ | refine blk_drew ?_ | refine blk_alloc ?_ _)); refine blk_put (cs := #[.string (⟨#[]⟩ : ByteArray), .int .i64 0, .bool false, .int .i64 0, .int .u64 0, .float .f64 0, .string (⟨#[]⟩ : ByteArray), .slice none 0 0]) ?_ 6 _ rfl; (with_reducible repeat (first | refine blk_drewN ?_ _ | refine blk_drew ?_ | refine blk_alloc ?_ _)); refine blk_put (cs := #[.string (⟨#[]⟩ : ByteArray), .int .i64 0, .bool false, .int .i64 0, .int .u64 0, .float .f64 0, .string (⟨#[]⟩ : ByteArray), .slice none 0 0]) ?_ 5 _ rfl; (with_reducible repeat (first | refine blk_drewN ?_ _ | refine blk_drew ?_ | refine blk_alloc ?_ _)); refine blk_put (cs := #[.string (⟨#[]⟩ : ByteArray), .int .i64 0, .bool false, .int .i64 0, .int .u64 0, .float .f64 0, .string (⟨#[]⟩ : ByteArray), .slice none 0 0]) ?_ 4 _ rfl; (with_reducible repeat (first | refine blk_drewN ?_ _ | refine blk_drew ?_ | refine blk_alloc ?_ _)); refine blk_put (cs := #[.string (⟨#[]⟩ : ByteArray), .int .i64 0, .bool false, .int .i64 0, .int .u64 0, .float .f64 0, .string (⟨#[]⟩ : ByteArray), .slice none 0 0]) ?_ 3 _ rfl; (with_reducible repeat (first | refine blk_drewN ?_ _ | refine blk_drew ?_ | refine blk_alloc ?_ _)); refine blk_put (cs := #[.string (⟨#[]⟩ : ByteArray), .int .i64 0, .bool false, .int .i64 0, .int .u64 0, .float .f64 0, .string (⟨#[]⟩ : ByteArray), .slice none 0 0]) ?_ 2 _ rfl; (with_reducible repeat (first | refine blk_drewN ?_ _ | refine blk_drew ?_ | refine blk_alloc ?_ _)); refine blk_put (cs := #[.string (⟨#[]⟩ : ByteArray), .int .i64 0, .bool false, .int .i64 0, .int .u64 0, .float .f64 0, .string (⟨#[]⟩ : ByteArray), .slice none 0 0]) ?_ 1 _ rfl; (with_reducible repeat (first | refine blk_drewN ?_ _ | refine blk_drew ?_ | refine blk_alloc ?_ _)); refine blk_put (cs := #[.string (⟨#[]⟩ : ByteArray), .int .i64 0, .bool false, .int .i64 0, .int .u64 0, .float .f64 0, .string (⟨#[]⟩ : ByteArray), .slice none 0 0]) ?_ 0 _ rfl; (with_reducible repeat (first | refine blk_drewN ?_ _ | refine blk_drew ?_ | refine blk_alloc ?_ _)); exact BK873.out) Tryz.underlying39 rfl (by kernel_rfl)) rfl ?_
  exact ⟨_, by first | rfl | (simp [errW_none, errW_some] <;> rfl) | (simp [*, errW_none, errW_some] <;> rfl), Kd.N_V (base := 0) (by first | exact Kd.R_nil _ _ _ _ _ | exact Kd.N_nil _ _ _ _ _ | exact Kd.V_nil _ _ _ _ _ | exact Kd.Q_nil _ _ _ _ _ | exact Kd.S_nil _ _ _ _ _), by repeat (first | (with_reducible first | exact HB.out | apply below_alloc | apply pw_below_drewN | apply below_drew1 | refine below_set ?_ GE873.out) | exact HB.out)⟩
end Go.Proofs.YtednjmngalmdkaaGreatDoor.GPC
end
section
/- laws.back at Schedstat: it answers true where BackOk holds. Conditions: BackOk; the tables as laid. -/
namespace Go.Proofs.YtednjmngalmdkaaGreatDoor.GPC
open Go.RowKit Go.Proofs.YtednjmngalmdkaaGreatDoorW.PrintWords Go.Proofs.YtednjmngalmdkaaGreatDoorW.PrintLast
set_option linter.unusedVariables false
set_option linter.unusedSimpArgs false
attribute [local go_sem] run_store_float
set_option maxHeartbeats 16000000 in
set_option maxRecDepth 100000 in
theorem backSchedstat (A0 : Option Addr) (c0 : Nat) (l0 : List S31) (w : World) (hr0 : Kd.C k31 w A0 l0.length l0) (hc0 : l0.length ≤ c0) (hT : TabW w) (h : BackOk (fun k => spec_SchedstatPrint.f k l0) (fun k => spec_SchedstatTree.f k l0) (fun s n => doorSchedstat s n) l0) :
  Calls Tryz.prog 14 #[.slice A0 l0.length c0, .func (.func 24) #[] #[], .func (.func 25) #[] #[], .func (.func 26) #[] #[]] w fun e w' => e = .returned (.bool true) ∧ Below w.heap.size w w' := by
 have HR := Aside0.mk hr0
 have HT := Aside0.mk hT
 have HC := Aside0.mk hc0
 clear hr0 hT hc0
 cases h with
 | long h1 =>
  have d1 : decide ((l0.length : Int) > 1000) = true := decide_eq_true (by omega)
  have d1' : decide (1000 < l0.length) = true := decide_eq_true (by omega)
  go_enter Tryz.func14, Tryz.ntmps14
  go_wp2
  go_ret
  exact ⟨rfl, Below.refl _ _⟩
 | noPrint h1 k text told hp hno =>
  have d1 : decide ((l0.length : Int) > 1000) = false := decide_eq_false (by omega)
  have d1' : decide (1000 < l0.length) = false := decide_eq_false (by omega)
  have HP := Aside0.mk hp
  clear hp h1
  go_enter Tryz.func14, Tryz.ntmps14
  have hd : (told != 1) = true ∨ (told != 1) = false ∧ decide ((text.size : Int) > 40000) = true := by
   rcases hno with hh | hh
   ·exact .inl (by simpa using hh)
   ·by_cases he : told = 1
    ·exact .inr ⟨by simp [he], decide_eq_true (by omega)⟩
    ·exact .inl (by simpa using he)
  rcases hd with q1 | ⟨q1, q2⟩
  all_goals (go_wp2_with (first
   | (go_at_call 24; refine (spec_SchedstatPrint.calls k A0 c0 l0 text told _ HR.out HC.out HP.out).mono ?_; rintro e w1 ⟨rfl, hb⟩; have HB1 := Aside0.mk hb; clear hb)
   | (go_at_call 46; refine (lives_calls _ (tabW_below HT.out HB1.out)).mono ?_; rintro e w2 ⟨rfl, hb⟩; have HB2 := Aside0.mk (below_then HB1.out HB1.out.size hb); clear hb)))
  all_goals go_ret
  all_goals exact ⟨rfl, HB2.out⟩
 | noTree h1 k text hp hsz r tt ht hno =>
  have d1 : decide ((l0.length : Int) > 1000) = false := decide_eq_false (by omega)
  have d1' : decide (1000 < l0.length) = false := decide_eq_false (by omega)
  have q2 : decide ((text.size : Int) > 40000) = false := decide_eq_false (by omega)
  have q2' : decide (40000 < text.size) = false := decide_eq_false (by omega)
  have q3 : (tt != 1) = true := by simpa using hno
  have HP := Aside0.mk hp
  have HTR := Aside0.mk ht
  clear hp ht h1 hno hsz
  obtain ⟨r1, r2, r3, r4, r5, r6, r7, r8⟩ := r
  go_enter Tryz.func14, Tryz.ntmps14
  go_wp2_with (first
   | (go_at_call 24; refine (spec_SchedstatPrint.calls k A0 c0 l0 text 1 _ HR.out HC.out HP.out).mono ?_; rintro e w1 ⟨rfl, hb⟩; have HB1 := Aside0.mk hb; clear hb)
   | (go_at_call 25; refine (spec_SchedstatTree.calls k A0 c0 l0 r1 r2 r3 r4 r5 r6 r7 r8 tt _ (Kd.C_below HR.out HB1.out) HC.out HTR.out).mono ?_; rintro e w2 ⟨v7, rfl, hv, hb⟩; have HB2 := Aside0.mk (below_then HB1.out HB1.out.size hb); clear hb)
   | ((with_reducible refine gate_dst (N := 11) rfl ?_); refine box_event ?hg (N := 11) ?hd (cs := nodeZero) (t := 39) ?hr ?_; (case hd => rfl); (case hg => rfl); (case hr => first | (go_simp; done) | (go_simp; rfl)); intro gb hgb w3 hbox hb; have HBX := Aside0.mk hbox; have HB3 := Aside0.mk (below_then HB2.out HB2.out.size hb); have HGB := Aside0.mk (show w.heap.size ≤ gb by rw [hgb]; exact HB2.out.size); clear hgb hbox hb)
   | ((with_reducible refine gate_ (.store 39 (.tmp 11) (.tmp 35)) rfl ?_); refine box_store rfl rfl 39 (.tmp 11) (.tmp 35) rfl gb 39 nodeZero (snodeVal ⟨r1, r2, r3, r4, r5, r6, r7, r8⟩ v7) (snodeCells ⟨r1, r2, r3, r4, r5, r6, r7, r8⟩ v7) rfl rfl rfl snode_size (snode_one (Kd.V_sl hv)) HBX.out rfl ?_; intro w4 hbk hgr; have HB4 := Aside0.mk (pw_below_grown HB3.out (some gb) HB3.out.size hgr (fun k e => by cases e; exact HGB.out)); clear hbk hgr)
   | (go_at_call 46; refine (lives_calls _ (tabW_below HT.out HB4.out)).mono ?_; rintro e w5 ⟨rfl, hb⟩; have HB5 := Aside0.mk (below_then HB4.out HB4.out.size hb); clear hb))
  go_ret
  exact ⟨rfl, HB5.out⟩
 | same h1 k text hp hsz r ht n hd k2 m hm hs =>
  have d1 : decide ((l0.length : Int) > 1000) = false := decide_eq_false (by omega)
  have d1' : decide (1000 < l0.length) = false := decide_eq_false (by omega)
  have q2 : decide ((text.size : Int) > 40000) = false := decide_eq_false (by omega)
  have q2' : decide (40000 < text.size) = false := decide_eq_false (by omega)
  have HP := Aside0.mk hp
  have HTR := Aside0.mk ht
  have HD := Aside0.mk hd
  have HM := Aside0.mk hm
  have HS := Aside0.mk hs
  clear hp ht h1 hsz hd hm hs
  obtain ⟨r1, r2, r3, r4, r5, r6, r7, r8⟩ := r
  obtain ⟨m1, m2, m3, m4, m5, m6, m7, m8⟩ := m
  go_enter Tryz.func14, Tryz.ntmps14
  go_wp2_with (first
   | (go_at_call 24; refine (spec_SchedstatPrint.calls k A0 c0 l0 text 1 _ HR.out HC.out HP.out).mono ?_; rintro e w1 ⟨rfl, hb⟩; have HB1 := Aside0.mk hb; clear hb)
   | (go_at_call 25; refine (spec_SchedstatTree.calls k A0 c0 l0 r1 r2 r3 r4 r5 r6 r7 r8 1 _ (Kd.C_below HR.out HB1.out) HC.out HTR.out).mono ?_; rintro e w2 ⟨v7, rfl, hv, hb⟩; obtain ⟨At, ct, rfl, hlt, hFt⟩ := hv; have HCT := Aside0.mk (Kd.F_now hFt); have HLT := Aside0.mk hlt; have HB2 := Aside0.mk (below_then HB1.out HB1.out.size hb); clear hb hlt hFt)
   | ((with_reducible refine gate_dst (N := 11) rfl ?_); refine box_event ?hg (N := 11) ?hd (cs := nodeZero) (t := 39) ?hr ?_; (case hd => rfl); (case hg => rfl); (case hr => first | (go_simp; done) | (go_simp; rfl)); intro gb hgb w3 hbox hb; have HBX := Aside0.mk hbox; have HB3 := Aside0.mk hb; have HGB := Aside0.mk (show w2.heap.size ≤ gb by rw [hgb]; exact Nat.le_refl _); clear hgb hbox hb)
   | ((with_reducible refine gate_ (.store 39 (.tmp 11) (.tmp 35)) rfl ?_); refine box_store rfl rfl 39 (.tmp 11) (.tmp 35) rfl gb 39 nodeZero (snodeVal ⟨r1, r2, r3, r4, r5, r6, r7, r8⟩ (.slice At r8.length ct)) (snodeCells ⟨r1, r2, r3, r4, r5, r6, r7, r8⟩ (.slice At r8.length ct)) rfl rfl rfl snode_size (snode_one ⟨_, _, rfl⟩) HBX.out rfl ?_; intro w4 hbk hgr; have HW := Aside0.mk hbk; have HB4 := Aside0.mk (pw_below_grown HB3.out (some gb) HB3.out.size hgr (fun k e => by cases e; exact HGB.out)); clear hbk hgr)
   | (go_at_call 26; refine (doorSchedstat_calls text n _ (tabW_below HT.out (below_then HB2.out HB2.out.size HB4.out)) HD.out).mono ?_; rintro e w5 ⟨v9, rfl, ho, hb⟩; obtain ⟨Ag, cg, rfl⟩ := ho.slice; obtain ⟨_, hlg, hCg⟩ := Kd.R_reads' ho; have HCG := Aside0.mk hCg; have HLG := Aside0.mk hlg; have HW5 := Aside0.mk (blk_below HW.out hb); have HB5 := Aside0.mk (below_then HB4.out HB4.out.size hb); clear ho hb hlg hCg)
   | ((with_reducible refine gate_dst (N := 12) rfl ?_); refine box_event ?hg (N := 12) ?hd (cs := nodeZero) (t := 43) ?hr ?_; (case hd => rfl); (case hg => rfl); (case hr => first | (go_simp; done) | (go_simp; rfl)); intro gc hgc w6 hbox hb; have HCX := Aside0.mk hbox; have HW6 := Aside0.mk (blk_below HW5.out hb); have HB6 := Aside0.mk hb; have HGC := Aside0.mk (show w5.heap.size ≤ gc by rw [hgc]; exact Nat.le_refl _); have HNE := Aside0.mk (show gb < gc by rw [hgc]; exact blk_lt HW5.out); clear hgc hbox hb)
   | ((with_reducible refine gate_ (.store 43 (.tmp 12) (.tmp 44)) rfl ?_); refine box_store rfl rfl 43 (.tmp 12) (.tmp 44) rfl gc 43 nodeZero (nodeVal n (.slice Ag n.f7.length cg)) (nodeCells n (.slice Ag n.f7.length cg)) rfl rfl rfl node_size (node_one ⟨_, _, rfl⟩) HCX.out rfl ?_; intro w7 hbk hgr; have HG7 := Aside0.mk hbk; have HW7 := Aside0.mk (blk_grown HW6.out hgr (by have := HNE.out; intro e; injection e with e; omega)); have HB7 := Aside0.mk (pw_below_grown HB6.out (some gc) HB6.out.size hgr (fun k e => by cases e; exact HGC.out)); clear hbk hgr))
  have HB27 := Aside0.mk (below_then HB5.out HB5.out.size HB7.out)
  have HB07 := Aside0.mk (below_then HB2.out HB2.out.size HB27.out)
  have KA : Aside0 (∀ W : World, Below w7.heap.size w7 W → (Below w7.heap.size w7 W ∧ W.cell? ⟨gc, 0, none⟩ = some (.string n.f0) ∧ W.cell? ⟨gc, 1, none⟩ = some (.int .i64 n.f1) ∧ W.cell? ⟨gc, 2, none⟩ = some (.bool n.f2) ∧ W.cell? ⟨gc, 3, none⟩ = some (.int .i64 n.f3) ∧ W.cell? ⟨gc, 4, none⟩ = some (.int .u64 n.f4) ∧ W.cell? ⟨gc, 5, none⟩ = some (.float .f64 n.f5) ∧ W.cell? ⟨gc, 6, none⟩ = some (.string n.f6) ∧ W.cell? ⟨gc, 7, none⟩ = some (.slice Ag n.f7.length cg) ∧ W.cell? ⟨gb, 0, none⟩ = some (.string r1) ∧ W.cell? ⟨gb, 1, none⟩ = some (.int .i64 r2) ∧ W.cell? ⟨gb, 2, none⟩ = some (.bool r3) ∧ W.cell? ⟨gb, 3, none⟩ = some (.int .i64 r4) ∧ W.cell? ⟨gb, 4, none⟩ = some (.int .u64 r5) ∧ W.cell? ⟨gb, 5, none⟩ = some (.float .f64 r6) ∧ W.cell? ⟨gb, 6, none⟩ = some (.string r7) ∧ W.cell? ⟨gb, 7, none⟩ = some (.slice At r8.length ct))) := ⟨fun W hb => by
   have h1 := blk_below HG7.out hb
   have h2 := blk_below HW7.out hb
   exact ⟨hb, (blk_cell h1 0).trans rfl, (blk_cell h1 1).trans rfl, (blk_cell h1 2).trans rfl, (blk_cell h1 3).trans rfl, (blk_cell h1 4).trans rfl, (blk_cell h1 5).trans rfl, (blk_cell h1 6).trans rfl, (blk_cell h1 7).trans rfl, (blk_cell h2 0).trans rfl, (blk_cell h2 1).trans rfl, (blk_cell h2 2).trans rfl, (blk_cell h2 3).trans rfl, (blk_cell h2 4).trans rfl, (blk_cell h2 5).trans rfl, (blk_cell h2 6).trans rfl, (blk_cell h2 7).trans rfl⟩⟩
  go_region_held3 (fun W => Below w7.heap.size w7 W ∧ W.cell? ⟨gc, 0, none⟩ = some (.string n.f0) ∧ W.cell? ⟨gc, 1, none⟩ = some (.int .i64 n.f1) ∧ W.cell? ⟨gc, 2, none⟩ = some (.bool n.f2) ∧ W.cell? ⟨gc, 3, none⟩ = some (.int .i64 n.f3) ∧ W.cell? ⟨gc, 4, none⟩ = some (.int .u64 n.f4) ∧ W.cell? ⟨gc, 5, none⟩ = some (.float .f64 n.f5) ∧ W.cell? ⟨gc, 6, none⟩ = some (.string n.f6) ∧ W.cell? ⟨gc, 7, none⟩ = some (.slice Ag n.f7.length cg) ∧ W.cell? ⟨gb, 0, none⟩ = some (.string r1) ∧ W.cell? ⟨gb, 1, none⟩ = some (.int .i64 r2) ∧ W.cell? ⟨gb, 2, none⟩ = some (.bool r3) ∧ W.cell? ⟨gb, 3, none⟩ = some (.int .i64 r4) ∧ W.cell? ⟨gb, 4, none⟩ = some (.int .u64 r5) ∧ W.cell? ⟨gb, 5, none⟩ = some (.float .f64 r6) ∧ W.cell? ⟨gb, 6, none⟩ = some (.string r7) ∧ W.cell? ⟨gb, 7, none⟩ = some (.slice At r8.length ct))
   (first
    | exact KA.out _ (below_drew (Below.refl _ _))
    | (go_split_ands; exact KA.out _ (keepS (by assumption) hb'))
    | (go_split_ands; exact KA.out _ (below_drew (by assumption))))
   (first
    | (go_at_call 48; (with_reducible refine (laws_toNode.calls k2 n.f0 n.f1 n.f2 n.f3 n.f4 n.f5 n.f6 Ag cg n.f7 m1 m2 m3 m4 m5 m6 m7 m8 _ (by go_split_ands; exact Kd.C_below HCG.out (keepS HB7.out (by assumption))) HLG.out HM.out).mono ?_); rintro e w' ⟨v9, rfl, hom, hb'⟩; obtain ⟨Am, cm, rfl⟩ := Kd.R_slice hom)
    | (go_at_call 47; (with_reducible refine (spec_SameNode.calls k2 m1 m2 m3 m4 m5 m6 m7 Am cm m8 r1 r2 r3 r4 r5 r6 r7 At ct r8 true _ (by first | exact (Kd.R_reads' hom).2.2 | exact Kd.C_below (Kd.R_reads' hom).2.2 (below_drew (Below.refl _ _))) (Kd.R_reads' hom).2.1 (by go_split_ands; exact Kd.C_below HCT.out (keepS HB27.out (by assumption))) HLT.out HS.out).mono ?_); rintro e w' ⟨rfl, hb'⟩)
    | (go_at_call 46; (with_reducible refine (lives_calls _ (by go_split_ands; exact tabW_below HT.out (keepS HB07.out (by assumption)))).mono ?_); rintro e w' ⟨rfl, hb'⟩))
  go_split_ands
  go_wp2
  go_ret
  exact ⟨rfl, keepS HB07.out (by assumption)⟩
end Go.Proofs.YtednjmngalmdkaaGreatDoor.GPC
end
section
/- laws.FnSchedstatBack answers true where BackOk holds. Conditions: BackOk; the tables as laid. -/
namespace Go.Proofs.YtednjmngalmdkaaGreatDoor.GPC
open Go.RowKit Go.Proofs.YtednjmngalmdkaaGreatDoorW.PrintWords Go.Proofs.YtednjmngalmdkaaGreatDoorW.PrintLast
set_option linter.unusedVariables false
set_option maxHeartbeats 8000000 in
set_option maxRecDepth 100000 in
theorem lawSchedstat (A0 : Option Addr) (c0 : Nat) (l0 : List S31) (w : World) (hr0 : Kd.C k31 w A0 l0.length l0) (hc0 : l0.length ≤ c0) (hT : TabW w) (k : Nat) (b : Bool) (hz : laws_zzFits5.f k l0 = some b)
  (h : b = true → BackOk (fun k => spec_SchedstatPrint.f k l0) (fun k => spec_SchedstatTree.f k l0) (fun s n => doorSchedstat s n) l0) :
  Calls Tryz.prog 6 #[.slice A0 l0.length c0] w fun e w' => e = .returned (.bool true) ∧ Below w.heap.size w w' := by
 have HR := Aside0.mk hr0
 have HT := Aside0.mk hT
 have HC := Aside0.mk hc0
 have HZ := Aside0.mk hz
 have H := Aside0.mk h
 clear hr0 hT hc0 hz h
 cases b
 ·go_enter Tryz.func6, Tryz.ntmps6
  go_wp2_with (first
   | (go_at_call 13; refine (laws_zzFits5.calls k A0 c0 l0 false _ HR.out HC.out HZ.out).mono ?_; rintro e w1 ⟨rfl, hb⟩; have HB1 := Aside0.mk hb; clear hb))
  go_ret
  exact ⟨rfl, HB1.out⟩
 ·have H2 := Aside0.mk (H.out rfl)
  clear H
  go_enter Tryz.func6, Tryz.ntmps6
  go_wp2_with (first
   | (go_at_call 13; refine (laws_zzFits5.calls k A0 c0 l0 true _ HR.out HC.out HZ.out).mono ?_; rintro e w1 ⟨rfl, hb⟩; have HB1 := Aside0.mk hb; clear hb)
   | (go_at_call 14; refine (backSchedstat A0 c0 l0 _ (Kd.C_below HR.out HB1.out) HC.out (tabW_below HT.out HB1.out) H2.out).mono ?_; rintro e w2 ⟨rfl, hb⟩; have HB2 := Aside0.mk (keepS HB1.out hb); clear hb))
  go_ret
  exact ⟨rfl, HB2.out⟩
end Go.Proofs.YtednjmngalmdkaaGreatDoor.GPC
end
section
/- Plain facts: a tree of the door, handed over, is the same tree; a tree is the same as itself. Conditions: a depth, lists of at most a million parts. -/
namespace Go.Proofs.YtednjmngalmdkaaGreatDoor.GPC
open Go Go.RowKit Go.Proofs.YtednjmngalmdkaaGreatDoorW.PrintWords Go.Proofs.YtednjmngalmdkaaGreatDoorW.PrintLast
set_option linter.unusedVariables false
def tup39 (n : S39) : N8 S39 := (n.f0, n.f1, n.f2, n.f3, n.f4, n.f5, n.f6, n.f7)
def convN : Nat → S43 → S39
 | 0, n => ⟨n.f0, n.f1, n.f2, n.f3, n.f4, n.f5, n.f6, []⟩
 | d + 1, n => ⟨n.f0, n.f1, n.f2, n.f3, n.f4, n.f5, n.f6, n.f7.map (convN d)⟩
def FitN : Nat → S43 → Prop
 | 0, n => n.f7 = []
 | d + 1, n => n.f7.length ≤ 1000000 ∧ ∀ x ∈ n.f7, FitN d x
def FitS : Nat → S39 → Prop
 | 0, n => n.f7 = []
 | d + 1, n => n.f7.length ≤ 1000000 ∧ ∀ x ∈ n.f7, FitS d x
theorem fit_conv : ∀ (d : Nat) (n : S43), FitN d n → FitS d (convN d n)
 | 0, n, h => rfl
 | d + 1, n, h => ⟨by simpa [convN] using h.1, fun x hx => by
   simp only [convN, List.mem_map] at hx
   obtain ⟨y, hy, rfl⟩ := hx
   exact fit_conv d y (h.2 y hy)⟩
theorem rd43 (l : List S43) (i : Nat) (h : i < l.length) : rd_T43 l (i : Int) = l[i] := by
 simp [rd_T43, List.getD_eq_getElem?_getD, List.getElem?_eq_getElem h]
theorem rd39 (l : List S39) (i : Nat) (h : i < l.length) : rd_T39 l (i : Int) = l[i] := by
 simp [rd_T39, List.getD_eq_getElem?_getD, List.getElem?_eq_getElem h]
theorem eta39 (x : S39) : (⟨(tup39 x).1, (tup39 x).2.1, (tup39 x).2.2.1, (tup39 x).2.2.2.1, (tup39 x).2.2.2.2.1, (tup39 x).2.2.2.2.2.1, (tup39 x).2.2.2.2.2.2.1, (tup39 x).2.2.2.2.2.2.2⟩ : S39) = x := by cases x; rfl
theorem toNode_loop (l : List S43) (hl : l.length ≤ 1000000) (g : S43 → S39) (hg : ∀ x ∈ l, Ev (fun k => laws_toNode.f k x.f0 x.f1 x.f2 x.f3 x.f4 x.f5 x.f6 x.f7) (tup39 (g x))) (a0 : ByteArray) (a1 : Int) (a2 : Bool) (a3 a4 : Int) (a5 : Nat) (a6 : ByteArray) :
  ∀ (d i : Nat) (acc : List S39), i + d = l.length → acc.length ≤ i → Ev (fun k => laws_toNode.l0 k l (l.length : Int) (i : Int) a0 a1 a2 a3 a4 a5 a6 acc) (a0, a1, a2, a3, a4, a5, a6, acc ++ (l.drop i).map g)
 | 0, i, acc, h, ha => by
  rw [List.drop_eq_nil_of_le (by omega), List.map_nil, List.append_nil]
  exact Ev.step (f := fun _ => some (a0, a1, a2, a3, a4, a5, a6, acc)) (fun k => by simp only [laws_toNode.l0]; rw [if_neg (by omega)]) (Ev.now _)
 | d + 1, i, acc, h, ha => by
  have hi : i < l.length := by omega
  have hw : wrap64 ((i : Int) + 1) = ((i + 1 : Nat) : Int) := by unfold wrap64; omega
  have hx := hg l[i] (List.getElem_mem hi)
  have ih := toNode_loop l hl g hg a0 a1 a2 a3 a4 a5 a6 d (i + 1) (acc ++ [g l[i]]) (by omega) (by simp; omega)
  rw [List.append_assoc, List.singleton_append, ← List.map_cons, ← List.drop_eq_getElem_cons hi] at ih
  refine Ev.step (fun k => by simp only [laws_toNode.l0]; rw [if_pos (by omega), if_pos (by omega), if_pos (by omega), rd43 l i hi, hw]) (Ev.bind (f := fun k (bt : N8 S39) => if acc.length < 1466015503701 then (laws_toNode.l0 k l (l.length : Int) ((i + 1 : Nat) : Int) a0 a1 a2 a3 a4 a5 a6 (acc ++ [(⟨bt.1, bt.2.1, bt.2.2.1, bt.2.2.2.1, bt.2.2.2.2.1, bt.2.2.2.2.2.1, bt.2.2.2.2.2.2.1, bt.2.2.2.2.2.2.2⟩ : S39)])) else none) hx ?_)
  exact Ev.congr (fun k => by rw [if_pos (by omega), eta39]) ih
theorem toNode_ev : ∀ (d : Nat) (n : S43), FitN d n → Ev (fun k => laws_toNode.f k n.f0 n.f1 n.f2 n.f3 n.f4 n.f5 n.f6 n.f7) (tup39 (convN d n))
 | 0, n, h => by
  have := toNode_loop n.f7 (by rw [show n.f7 = [] from h]; simp) (fun x => convN 0 x) (by rw [show n.f7 = [] from h]; simp) n.f0 n.f1 n.f2 n.f3 n.f4 n.f5 n.f6 n.f7.length 0 [] (by omega) (by simp)
  rw [List.drop_zero, List.nil_append] at this
  refine Ev.step (f := fun k => laws_toNode.l0 k n.f7 (n.f7.length : Int) 0 n.f0 n.f1 n.f2 n.f3 n.f4 n.f5 n.f6 []) (fun k => by simp only [laws_toNode.f]) ?_
  have e : tup39 (convN 0 n) = (n.f0, n.f1, n.f2, n.f3, n.f4, n.f5, n.f6, n.f7.map fun x => convN 0 x) := by
   rw [show n.f7 = [] from h]; rfl
  rw [e]
  exact this
 | d + 1, n, h => by
  have := toNode_loop n.f7 h.1 (convN d) (fun x hx => toNode_ev d x (h.2 x hx)) n.f0 n.f1 n.f2 n.f3 n.f4 n.f5 n.f6 n.f7.length 0 [] (by omega) (by simp)
  rw [List.drop_zero, List.nil_append] at this
  exact Ev.step (f := fun k => laws_toNode.l0 k n.f7 (n.f7.length : Int) 0 n.f0 n.f1 n.f2 n.f3 n.f4 n.f5 n.f6 []) (fun k => by simp only [laws_toNode.f]) this
theorem same_loop (n : S39) (hl : n.f7.length ≤ 1000000) (hg : ∀ x ∈ n.f7, Ev (fun k => spec_SameNode.f k x.f0 x.f1 x.f2 x.f3 x.f4 x.f5 x.f6 x.f7 x.f0 x.f1 x.f2 x.f3 x.f4 x.f5 x.f6 x.f7) true) :
  ∀ (d i : Nat), i + d = n.f7.length → Ev (fun k => spec_SameNode.l0 k (n.f7.length : Int) (i : Int) n.f0 n.f1 n.f2 n.f3 n.f4 n.f5 n.f6 n.f7 n.f0 n.f1 n.f2 n.f3 n.f4 n.f5 n.f6 n.f7) true
 | 0, i, h => Ev.step (f := fun _ => some true) (fun k => by simp only [spec_SameNode.l0]; rw [if_neg (by omega)]) (Ev.now _)
 | d + 1, i, h => by
  have hi : i < n.f7.length := by omega
  have hw : wrap64 ((i : Int) + 1) = ((i + 1 : Nat) : Int) := by unfold wrap64; omega
  have hx := hg n.f7[i] (List.getElem_mem hi)
  have ih := same_loop n hl hg d (i + 1) (by omega)
  refine Ev.step (fun k => by simp only [spec_SameNode.l0]; rw [if_pos (by omega), if_pos (by omega), if_pos (by omega), if_pos (by omega), rd39 n.f7 i hi, hw]) (Ev.bind (f := fun k t => if t = true then (spec_SameNode.l0 k (n.f7.length : Int) ((i + 1 : Nat) : Int) n.f0 n.f1 n.f2 n.f3 n.f4 n.f5 n.f6 n.f7 n.f0 n.f1 n.f2 n.f3 n.f4 n.f5 n.f6 n.f7) else none) hx ?_)
  exact Ev.congr (fun k => if_pos rfl) ih
theorem same_ev : ∀ (d : Nat) (n : S39), FitS d n → Ev (fun k => spec_SameNode.f k n.f0 n.f1 n.f2 n.f3 n.f4 n.f5 n.f6 n.f7 n.f0 n.f1 n.f2 n.f3 n.f4 n.f5 n.f6 n.f7) true := by
 have top : ∀ (n : S39), Ev (fun k => spec_SameNode.l0 k (n.f7.length : Int) 0 n.f0 n.f1 n.f2 n.f3 n.f4 n.f5 n.f6 n.f7 n.f0 n.f1 n.f2 n.f3 n.f4 n.f5 n.f6 n.f7) true → Ev (fun k => spec_SameNode.f k n.f0 n.f1 n.f2 n.f3 n.f4 n.f5 n.f6 n.f7 n.f0 n.f1 n.f2 n.f3 n.f4 n.f5 n.f6 n.f7) true := by
  intro n h
  refine Ev.step (f := fun k => spec_SameNode.j0 k ((n.f7.length : Int) != (n.f7.length : Int)) n.f0 n.f1 n.f2 n.f3 n.f4 n.f5 n.f6 n.f7 n.f0 n.f1 n.f2 n.f3 n.f4 n.f5 n.f6 n.f7) (fun k => ?_) (Ev.step (fun k => ?_) h)
  ·simp [spec_SameNode.f, math_Float64bits.f]
  ·simp only [spec_SameNode.j0]
   rw [if_neg (by simp)]
 intro d
 induction d with
 | zero =>
  intro n h
  have h7 : n.f7 = [] := h
  exact top n (same_loop n (by rw [h7]; simp) (by rw [h7]; simp) n.f7.length 0 (by omega))
 | succ d ih =>
  intro n h
  exact top n (same_loop n h.1 (fun x hx => ih x (h.2 x hx)) n.f7.length 0 (by omega))
theorem back_same {print : Nat → Option (ByteArray × Int)} {tree : Nat → Option (ByteArray × Int × Bool × Int × Int × Nat × ByteArray × List S39 × Int)} {door : ByteArray → S43 → Prop} {l : List S31} (h : l.length ≤ 1000) (text : ByteArray)
  (hp : Ev print (text, 1)) (hsz : text.size ≤ 40000) (d : Nat) (n : S43) (hf : FitN d n)
  (ht : Ev tree ((convN d n).f0, (convN d n).f1, (convN d n).f2, (convN d n).f3, (convN d n).f4, (convN d n).f5, (convN d n).f6, (convN d n).f7, 1)) (hd : door text n) : BackOk print tree door l := by
 obtain ⟨K1, h1⟩ := hp
 obtain ⟨K2, h2⟩ := ht
 obtain ⟨K3, h3⟩ := toNode_ev d n hf
 obtain ⟨K4, h4⟩ := same_ev d (convN d n) (fit_conv d n hf)
 exact BackOk.same h (K1 + K2) text (h1 _ (by omega)) hsz (tup39 (convN d n)) (h2 _ (by omega)) n hd (K3 + K4) (tup39 (convN d n)) (h3 _ (by omega)) (h4 _ (by omega))
end Go.Proofs.YtednjmngalmdkaaGreatDoor.GPC
end
section
/- Plain facts: the digits of a number in a base tell this number, with noughts ahead and in great letters, too. Condition: the number is at most the bound. -/
namespace Go.Proofs.YtednjmngalmdkaaGreatDoor.PF
open Go Go.Proofs.YtednjmngalmdkaaGreatDoor.GPC
set_option linter.unusedVariables false
theorem puN_append (b mx : Nat) : ∀ (x y : List UInt8) (acc : Nat), puN b mx acc (x ++ y) = (puN b mx acc x).bind fun a => puN b mx a y
 | [], y, acc => rfl
 | c :: x, y, acc => by
  simp only [List.cons_append, puN]
  split
  ·exact puN_append b mx x y _
  ·rfl
theorem dch_val : ((List.range 16).all fun d => decide (digV (dch d).toNat = d)) = true := by decide +kernel
theorem digV_dch (d : Nat) (h : d < 16) : digV (dch d).toNat = d := by
 have := List.all_eq_true.1 dch_val d (List.mem_range.2 h)
 simpa using this
theorem puN_dig (b n mx : Nat) (hb : 2 ≤ b) (hb2 : b ≤ 16) (hn : n ≤ mx) : puN b mx 0 (digB b n) = some n := by
 induction n using Nat.strongRecOn with
 | _ n ih =>
  unfold digB
  by_cases h : n < b ∨ b < 2
  ·rw [dif_pos h]
   have hlt : n < b := by omega
   simp only [puN, digV_dch n (by omega)]
   rw [if_pos ⟨hlt, by omega⟩]
   simp
  ·rw [dif_neg h, puN_append, ih (n / b) (Nat.div_lt_self (by omega) (by omega)) (Nat.le_trans (Nat.div_le_self _ _) hn)]
   have hm : n % b < b := Nat.mod_lt _ (by omega)
   have he : n / b * b + n % b = n := by rw [Nat.mul_comm]; exact Nat.div_add_mod n b
   simp only [Option.bind_some, puN, digV_dch (n % b) (by omega), he]
   rw [if_pos ⟨hm, hn⟩]
end Go.Proofs.YtednjmngalmdkaaGreatDoor.PF
end
section
/- Plain facts on the printed functions that all the rows share: sizes, bounds, digits. Conditions: lists of at most 2^47 cells. -/
namespace Go.Proofs.YtednjmngalmdkaaGreatDoor.GPC
open Go Go.RowKit Go.Proofs.YtednjmngalmdkaaGreatDoorW.PrintWords Go.Proofs.YtednjmngalmdkaaGreatDoorW.PrintLast Go.Proofs.YtednjmngalmdkaaGreatDoor.PF
set_option linter.unusedVariables false
def strB (l : List UInt8) : ByteArray := ⟨l.toArray⟩
theorem hex_at : ∀ d : Fin 16, strOfNums [bt (⟨#[48, 49, 50, 51, 52, 53, 54, 55, 56, 57, 97, 98, 99, 100, 101, 102]⟩ : ByteArray) (d.val : Int)] = strB [dch d.val] := by decide
theorem hex_n (d : Nat) (h : d < 16) : strOfNums [bt (⟨#[48, 49, 50, 51, 52, 53, 54, 55, 56, 57, 97, 98, 99, 100, 101, 102]⟩ : ByteArray) (d : Int)] = strB [dch d] := hex_at ⟨d, h⟩
theorem u64_w {n : Int} (h0 : 0 ≤ n) (h1 : n < 18446744073709551616) : IntKind.u64.wrap n = n := by
 simp only [IntKind.wrap, IntKind.bits, IntKind.signed, Bool.false_and]
 exact Int.emod_eq_of_lt h0 h1
theorem strB_append (x y : List UInt8) : strB x ++ strB y = strB (x ++ y) := by
 apply ByteArray.ext
 simp [strB]
theorem strB_size (x : List UInt8) : (strB x).size = x.length := by simp [strB, ByteArray.size]
theorem digits_ev (b : Nat) (hb : 2 ≤ b) (hb2 : b ≤ 16) (n : Nat) (hn : n < 18446744073709551616) : Ev (fun k => spec_Digits.f k (n : Int) (b : Int)) (strB (digB b n)) ∧ (digB b n).length ≤ n + 1 := by
 induction n using Nat.strongRecOn with
 | _ n ih =>
  have hmod : n % b < 16 := Nat.lt_of_lt_of_le (Nat.mod_lt _ (by omega)) hb2
  have e1 : Int.tmod (n : Int) (b : Int) = ((n % b : Nat) : Int) := by rw [Int.tmod_eq_emod_of_nonneg (by omega)]; simp
  have e2 : Int.tdiv (n : Int) (b : Int) = ((n / b : Nat) : Int) := by rw [Int.tdiv_eq_ediv_of_nonneg (by omega)]; simp
  have hx := hex_n (n % b) hmod
  unfold digB
  by_cases h : n < b
  ·rw [dif_pos (.inl h)]
   rw [Nat.mod_eq_of_lt h] at hx e1
   refine ⟨Ev.step (f := fun _ => some (strB [dch n])) (fun k => ?_) (Ev.now _), by simp⟩
   simp only [spec_Digits.f]
   rw [if_neg (by omega), e1, if_pos (by omega), if_pos (by omega), if_pos (by omega), hx]
  ·rw [dif_neg (by omega)]
   have hlt : n / b < n := Nat.div_lt_self (by omega) (by omega)
   obtain ⟨ih1, ih2⟩ := ih (n / b) hlt (by omega)
   have hw : IntKind.u64.wrap (Int.tdiv (n : Int) (b : Int)) = ((n / b : Nat) : Int) := by
    rw [e2]
    generalize n / b = q at hlt ⊢
    exact u64_w (by omega) (by omega)
   have h64 : (digB b (n / b)).length ≤ 64 := by
    have := digB_length b (n / b) 63 hb (Nat.lt_of_lt_of_le (show n / b < 2 ^ 64 by omega) (Nat.pow_le_pow_left hb 64))
    exact this
   refine ⟨Ev.step (f := fun k => (spec_Digits.f k ((n / b : Nat) : Int) (b : Int)).bind fun t => if t.size + (strB [dch (n % b)]).size ≤ 9223372036854775807 then some (t ++ strB [dch (n % b)]) else none) (fun k => ?_) (Ev.bind (f := fun _ t => if t.size + (strB [dch (n % b)]).size ≤ 9223372036854775807 then some (t ++ strB [dch (n % b)]) else none) ih1 ?_), ?_⟩
   ·simp only [spec_Digits.f, Option.bind_some]
    rw [if_neg (by omega), e1, if_pos (by omega), if_pos (by omega), if_neg (by omega), hw, hx]
   ·rw [if_pos (by rw [strB_size, strB_size]; simp; omega), strB_append]
    exact Ev.now _
   ·simp; omega
theorem text_ev (n : Nat) (hn : n < 18446744073709551616) : Ev (fun k => spec_Text.f k (n : Int)) (strB (digB 10 n)) :=
 Ev.bind (f := fun _ t => some t) (digits_ev 10 (by omega) (by omega) n hn).1 (Ev.now _)
end Go.Proofs.YtednjmngalmdkaaGreatDoor.GPC
end
section
/- The sizes that zzFits5 lets through, told. No condition. -/
namespace Go.Proofs.YtednjmngalmdkaaGreatDoor.GPC
open Go Go.RowKit Go.Proofs.YtednjmngalmdkaaGreatDoorW.PrintWords Go.Proofs.YtednjmngalmdkaaGreatDoorW.PrintLast Go.Proofs.YtednjmngalmdkaaGreatDoor.PF
set_option linter.unusedVariables false
structure FitR (r : S31) : Prop where
 s : r.f0.size ≤ 2147483647
 n : r.f1.length ≤ 2147483647
 l : r.f2.length ≤ 2147483647
 w : ∀ x ∈ r.f2, x.size ≤ 2147483647
theorem rdOf_el (l : List ByteArray) (i : Int) (h0 : 0 ≤ i) (h : i.toNat < l.length) : rdOf ByteArray.empty l i = l[i.toNat] := by
 simp [rdOf, List.getD_eq_getElem?_getD, List.getElem?_eq_getElem h]
theorem rd31i (l : List S31) (i : Int) (h0 : 0 ≤ i) (h : i.toNat < l.length) : rd_T31 l i = l[i.toNat] := by
 simp [rd_T31, List.getD_eq_getElem?_getD, List.getElem?_eq_getElem h]
theorem zz4F (l : List ByteArray) (hl : l.length ≤ 2147483647) : ∀ (d : Nat) (i : Int), 0 ≤ i → i + d = l.length → ∃ b, Ev (fun k => laws_zzFits4.l0 k l (l.length : Int) i) b ∧ (b = true → ∀ x ∈ l.drop i.toNat, x.size ≤ 2147483647)
 | 0, i, h0, h => ⟨true, Ev.step (f := fun _ => some true) (fun k => by simp only [laws_zzFits4.l0]; rw [if_neg (by omega)]) (Ev.now _), fun _ x hx => by rw [List.drop_eq_nil_of_le (by omega)] at hx; cases hx⟩
 | d + 1, i, h0, h => by
  have hw : wrap64 (i + 1) = i + 1 := by unfold wrap64; omega
  have hi : i.toNat < l.length := by omega
  by_cases hc : ((rdOf ByteArray.empty l i).size : Int) > 2147483647
  ·exact ⟨false, Ev.step (f := fun _ => some false) (fun k => by simp only [laws_zzFits4.l0]; rw [if_pos (by omega), if_pos h0, if_pos (by omega), if_pos hc]) (Ev.now _), fun h => by cases h⟩
  ·obtain ⟨b, hb, hx⟩ := zz4F l hl d (i + 1) (by omega) (by omega)
   refine ⟨b, Ev.step (fun k => by simp only [laws_zzFits4.l0]; rw [if_pos (by omega), if_pos h0, if_pos (by omega), if_neg hc, hw]) hb, fun e x hm => ?_⟩
   rw [List.drop_eq_getElem_cons hi] at hm
   rcases List.mem_cons.1 hm with rfl | hm
   ·rw [rdOf_el l i h0 hi] at hc; omega
   ·exact hx e x (by rw [show (i + 1).toNat = i.toNat + 1 by omega]; exact hm)
theorem zz4fF (l : List ByteArray) : ∃ b, Ev (fun k => laws_zzFits4.f k l) b ∧ (b = true → l.length ≤ 2147483647 ∧ ∀ x ∈ l, x.size ≤ 2147483647) := by
 by_cases hl : (l.length : Int) > 2147483647
 ·exact ⟨false, Ev.congr (fun k => by simp only [laws_zzFits4.f]; rw [if_pos hl]) (Ev.now _), fun h => by cases h⟩
 ·obtain ⟨b, hb, hx⟩ := zz4F l (by omega) l.length 0 (by omega) (by omega)
  exact ⟨b, Ev.congr (fun k => by simp only [laws_zzFits4.f]; rw [if_neg hl]) hb, fun e => ⟨by omega, by simpa using hx e⟩⟩
theorem zz6fF (a : ByteArray) (n : List Int) (s : List ByteArray) : ∃ b, Ev (fun k => laws_zzFits6.f k a n s) b ∧ (b = true → FitR ⟨a, n, s⟩) := by
 by_cases h1 : (a.size : Int) > 2147483647
 ·exact ⟨false, Ev.congr (fun k => by simp only [laws_zzFits6.f]; rw [if_pos h1]) (Ev.now _), fun h => by cases h⟩
 ·by_cases h2 : (n.length : Int) > 2147483647
  ·exact ⟨false, Ev.congr (fun k => by simp only [laws_zzFits6.f]; rw [if_neg h1, if_pos h2]) (Ev.now _), fun h => by cases h⟩
  ·obtain ⟨b, hb, hx⟩ := zz4fF s
   refine ⟨if b = true then true else false, Ev.congr (f := fun k => (laws_zzFits4.f k s).bind fun t => if t = true then some true else some false) (fun k => by simp only [laws_zzFits6.f]; rw [if_neg h1, if_neg h2]) (Ev.bind (f := fun _ t => if t = true then some true else some false) hb ?_), ?_⟩
   ·cases b
    ·exact Ev.now _
    ·exact Ev.now _
   ·cases b
    ·intro h; cases h
    ·exact fun _ => ⟨(by show a.size ≤ 2147483647; omega), (by show n.length ≤ 2147483647; omega), (hx rfl).1, (hx rfl).2⟩
theorem zz5F (l : List S31) (hl : l.length ≤ 2147483647) : ∀ (d : Nat) (i : Int), 0 ≤ i → i + d = l.length → ∃ b, Ev (fun k => laws_zzFits5.l0 k l (l.length : Int) i) b ∧ (b = true → ∀ x ∈ l.drop i.toNat, FitR x)
 | 0, i, h0, h => ⟨true, Ev.step (f := fun _ => some true) (fun k => by simp only [laws_zzFits5.l0]; rw [if_neg (by omega)]) (Ev.now _), fun _ x hx => by rw [List.drop_eq_nil_of_le (by omega)] at hx; cases hx⟩
 | d + 1, i, h0, h => by
  have hw : wrap64 (i + 1) = i + 1 := by unfold wrap64; omega
  have hi : i.toNat < l.length := by omega
  obtain ⟨b6, h6, hx6⟩ := zz6fF ((rd_T31 l i).f0) ((rd_T31 l i).f1) ((rd_T31 l i).f2)
  have hstep : ∀ k, laws_zzFits5.l0 (k + 1) l (l.length : Int) i = (laws_zzFits6.f k ((rd_T31 l i).f0) ((rd_T31 l i).f1) ((rd_T31 l i).f2)).bind fun t => if t = true then laws_zzFits5.l0 k l (l.length : Int) (i + 1) else some false := fun k => by
   simp only [laws_zzFits5.l0]; rw [if_pos (by omega), if_pos h0, if_pos (by omega), hw]
  obtain ⟨b, hb, hx⟩ := zz5F l hl d (i + 1) (by omega) (by omega)
  cases b6
  ·exact ⟨false, Ev.step hstep (Ev.bind (f := fun k t => if t = true then laws_zzFits5.l0 k l (l.length : Int) (i + 1) else some false) h6 (Ev.now _)), fun h => by cases h⟩
  ·refine ⟨b, Ev.step hstep (Ev.bind (f := fun k t => if t = true then laws_zzFits5.l0 k l (l.length : Int) (i + 1) else some false) h6 hb), fun e x hm => ?_⟩
   rw [List.drop_eq_getElem_cons hi] at hm
   rcases List.mem_cons.1 hm with rfl | hm
   ·have := hx6 rfl
    rw [rd31i l i h0 hi] at this
    exact this
   ·exact hx e x (by rw [show (i + 1).toNat = i.toNat + 1 by omega]; exact hm)
theorem zz5fF (l : List S31) : ∃ k b, laws_zzFits5.f k l = some b ∧ (b = true → l.length ≤ 2147483647 ∧ ∀ x ∈ l, FitR x) := by
 by_cases hl : (l.length : Int) > 2147483647
 ·exact ⟨0, false, by simp only [laws_zzFits5.f]; rw [if_pos hl], fun h => by cases h⟩
 ·obtain ⟨b, hb, hx⟩ := zz5F l (by omega) l.length 0 (by omega) (by omega)
  obtain ⟨k, hk⟩ := hb.rounds
  exact ⟨k, b, by simp only [laws_zzFits5.f]; rw [if_neg hl]; exact hk, fun e => ⟨by omega, by simpa using hx e⟩⟩
theorem strB_of (s : ByteArray) : strB s.data.toList = s := by
 apply ByteArray.ext
 simp [strB]
end Go.Proofs.YtednjmngalmdkaaGreatDoor.GPC
end
section
/- Plain facts: a number of hundredths, written, is read as the same float. Condition: below 2^40. -/
namespace Go.Proofs.YtednjmngalmdkaaGreatDoor.GPC
open Go Go.RowKit Go.Proofs.YtednjmngalmdkaaGreatDoorW.PrintWords Go.Proofs.YtednjmngalmdkaaGreatDoorW.PrintLast Go.Proofs.YtednjmngalmdkaaGreatDoor.PF
set_option linter.unusedVariables false
theorem dig_len (n : Nat) (hn : n < 18446744073709551616) : (digB 10 n).length ≤ 20 := digB_length 10 n 19 (by omega) (by omega)
theorem dch10 : ∀ d : Fin 10, 48 ≤ (dch d.val).toNat ∧ (dch d.val).toNat ≤ 57 ∧ (dch d.val).toNat - 48 = d.val := by decide
theorem dch10n (d : Nat) (h : d < 10) : 48 ≤ (dch d).toNat ∧ (dch d).toNat ≤ 57 ∧ (dch d).toNat - 48 = d := dch10 ⟨d, h⟩
theorem dig10 (n : Nat) : ∀ c ∈ digB 10 n, 48 ≤ c.toNat ∧ c.toNat ≤ 57 := by
 induction n using Nat.strongRecOn with
 | _ n ih =>
  intro c hc
  unfold digB at hc
  by_cases h : n < 10
  ·rw [dif_pos (.inl h)] at hc
   simp only [List.mem_singleton] at hc
   subst hc
   exact ⟨(dch10n n h).1, (dch10n n h).2.1⟩
  ·rw [dif_neg (by omega)] at hc
   rcases List.mem_append.1 hc with hc | hc
   ·exact ih (n / 10) (by omega) c hc
   ·simp only [List.mem_singleton] at hc
    subst hc
    have := dch10n (n % 10) (Nat.mod_lt _ (by omega))
    exact ⟨this.1, this.2.1⟩
end Go.Proofs.YtednjmngalmdkaaGreatDoor.GPC
end
section
/- Plain facts: numbers written with a sign between, and read again as words. Conditions: at most 100,000 numbers of 64 bits. -/
namespace Go.Proofs.YtednjmngalmdkaaGreatDoor.GPC
open Go Go.RowKit Go.Proofs.YtednjmngalmdkaaGreatDoorW.PrintWords Go.Proofs.YtednjmngalmdkaaGreatDoorW.PrintLast Go.Proofs.YtednjmngalmdkaaGreatDoor.PF
set_option linter.unusedVariables false
theorem evG {α : Type} {c : Prop} [Decidable c] {A : Nat → Option α} {r : α} (h : c) (hA : Ev A r) : Ev (fun k => if c then A k else none) r := Ev.congr (fun k => if_pos h) hA
theorem evN {α : Type} {c : Prop} [Decidable c] {A B : Nat → Option α} {r : α} (h : ¬ c) (hA : Ev B r) : Ev (fun k => if c then A k else B k) r := Ev.congr (fun k => if_neg h) hA
theorem evP {α : Type} {c : Prop} [Decidable c] {A B : Nat → Option α} {r : α} (h : c) (hA : Ev A r) : Ev (fun k => if c then A k else B k) r := Ev.congr (fun k => if_pos h) hA
theorem evB {α β : Type} {g : Nat → Option α} {a : α} {F : Nat → α → Option β} {r : β} (h : Ev g a) (hF : Ev (fun k => F k a) r) : Ev (fun k => (g k).bind (F k)) r := Ev.bind (f := F) h hF
def tailW (bs : List UInt8) (ws : List (List UInt8)) : List UInt8 := ws.flatMap fun w => bs ++ w
theorem words_tail (bs : List UInt8) : ∀ (w : List UInt8) (r : List (List UInt8)), Words bs (w :: r) = w ++ tailW bs r
 | w, [] => by simp [Words, tailW]
 | w, v :: r => by
  rw [Words, words_tail bs v r]
  simp [tailW, List.flatMap_cons]
theorem rdB (l : List (List UInt8)) (i : Nat) (h : i < l.length) : rdOf ByteArray.empty (l.map strB) (i : Int) = strB l[i] := by
 simp [rdOf, List.getD_eq_getElem?_getD, h]
theorem join_l (bs : List UInt8) (hbs : bs.length ≤ 10) (ws : List (List UInt8)) (hl : ws.length ≤ 100000) (hw : ∀ w ∈ ws, w.length ≤ 1000) : ∀ (d i : Nat) (acc : List UInt8), i + d = ws.length → 0 < i → acc.length ≤ 2000 * i →
  Ev (fun k => spec_Join.l0 k (strB bs) (strB acc) (ws.map strB) (ws.length : Int) (i : Int)) (strB (acc ++ tailW bs (ws.drop i)))
 | 0, i, acc, h, h0, ha => by
  rw [List.drop_eq_nil_of_le (by omega)]
  refine Ev.step (f := fun _ => some (strB acc)) (fun k => by simp only [spec_Join.l0]; rw [if_neg (by omega)]) ?_
  simp only [tailW, List.flatMap_nil, List.append_nil]
  exact Ev.now _
 | d + 1, i, acc, h, h0, ha => by
  have hi : i < ws.length := by omega
  have hw1 : wrap64 ((i : Int) + 1) = ((i + 1 : Nat) : Int) := by unfold wrap64; omega
  have hlw := hw ws[i] (List.getElem_mem hi)
  have ih := join_l bs hbs ws hl hw d (i + 1) (acc ++ (bs ++ ws[i])) (by omega) (by omega) (by simp only [List.length_append]; omega)
  rw [List.drop_eq_getElem_cons hi, tailW, List.flatMap_cons, ← List.append_assoc]
  refine Ev.step (fun k => ?_) ih
  simp only [spec_Join.l0]
  rw [if_pos (by omega), if_pos (by omega), if_pos (by simp; omega), if_pos (by omega), rdB ws i hi, if_pos (by rw [strB_size, strB_size]; omega), strB_append, if_pos (by rw [strB_size, strB_size, List.length_append]; omega), strB_append, hw1, List.append_assoc]
theorem join_ev (bs : List UInt8) (hbs : bs.length ≤ 10) (ws : List (List UInt8)) (hl : ws.length ≤ 100000) (hw : ∀ w ∈ ws, w.length ≤ 1000) : Ev (fun k => spec_Join.f k (ws.map strB) (strB bs)) (strB (Words bs ws)) := by
 have hlen : ((ws.map strB).length : Int) = (ws.length : Int) := by simp
 refine Ev.congr (f := fun k => spec_Join.l0 k (strB bs) (⟨#[]⟩ : ByteArray) (ws.map strB) (ws.length : Int) 0) (fun k => by simp only [spec_Join.f, hlen]) ?_
 cases ws with
 | nil => exact Ev.step (f := fun _ => some (⟨#[]⟩ : ByteArray)) (fun k => by simp only [spec_Join.l0]; rw [if_neg (by simp)]) (Ev.now _)
 | cons w r =>
  have hlw := hw w (by simp)
  have := join_l bs hbs (w :: r) hl hw r.length 1 w (by simp; omega) (by omega) (by omega)
  rw [List.drop_succ_cons, List.drop_zero, ← words_tail] at this
  refine Ev.step (fun k => ?_) this
  have h0 := rdB (w :: r) 0 (by simp)
  simp only [List.getElem_cons_zero] at h0
  simp only [spec_Join.l0]
  rw [if_pos (by simp only [List.length_cons]; omega), if_pos (by omega), if_pos (by simp only [List.length_map, List.length_cons]; omega), if_neg (by omega), show (0 : Int) = ((0 : Nat) : Int) from rfl, h0, if_pos (by rw [strB_size, show (⟨#[]⟩ : ByteArray).size = 0 from rfl]; omega), show (⟨#[]⟩ : ByteArray) = strB [] from rfl, strB_append, show wrap64 (((0 : Nat) : Int) + 1) = ((1 : Nat) : Int) by unfold wrap64; omega, List.nil_append]
def intsOf (ns : List Nat) : List Int := ns.map Int.ofNat
theorem intsOf_len (ns : List Nat) : (intsOf ns).length = ns.length := by simp [intsOf]
theorem rd_ints (ns : List Nat) (i : Nat) (h : i < ns.length) : rd (intsOf ns) (i : Int) = (ns[i] : Int) := by
 simp [rd, intsOf, List.getD_eq_getElem?_getD, List.getElem?_eq_getElem h]
def decs (ns : List Nat) : List (List UInt8) := ns.map (digB 10)
theorem nums_l (bs : List UInt8) (hbs : bs.length ≤ 10) (ns : List Nat) (hl : ns.length ≤ 100000) (hn : ∀ n ∈ ns, n < 18446744073709551616) : ∀ (d i : Nat), i + d = ns.length →
  Ev (fun k => spec_numbers.l0 k (strB bs) (((decs ns).take i).map strB) (intsOf ns) (ns.length : Int) (i : Int)) (strB (Words bs (decs ns)))
 | 0, i, h => by
  have hd : (decs ns).take i = decs ns := List.take_of_length_le (by simp [decs]; omega)
  rw [hd]
  have hj := join_ev bs hbs (decs ns) (by simp [decs]; omega) (fun w hw => by
   simp only [decs, List.mem_map] at hw
   obtain ⟨n, hm, rfl⟩ := hw
   have := dig_len n (hn n hm)
   omega)
  refine Ev.step (f := fun k => (spec_Join.f k ((decs ns).map strB) (strB bs)).bind fun t => some t) (fun k => by simp only [spec_numbers.l0]; rw [if_neg (by omega)]) (evB hj (Ev.now _))
 | d + 1, i, h => by
  have hi : i < ns.length := by omega
  have hi2 : i < (decs ns).length := by simpa [decs] using hi
  have hw1 : wrap64 ((i : Int) + 1) = ((i + 1 : Nat) : Int) := by unfold wrap64; omega
  have ih := nums_l bs hbs ns hl hn d (i + 1) (by omega)
  have hrd := rd_ints ns i hi
  have htk : (((decs ns).take i).map strB) ++ [strB (digB 10 ns[i])] = ((decs ns).take (i + 1)).map strB := by
   rw [List.take_add_one, List.getElem?_eq_getElem hi2, List.map_append]
   simp [decs]
  refine Ev.step (f := fun k => (spec_Text.f k (ns[i] : Int)).bind fun t => if (((decs ns).take i).map strB).length < 8796093022208 then spec_numbers.l0 k (strB bs) ((((decs ns).take i).map strB) ++ [t]) (intsOf ns) (ns.length : Int) ((i + 1 : Nat) : Int) else none) (fun k => ?_) (evB (text_ev ns[i] (hn _ (List.getElem_mem hi))) (evG (by simp only [List.length_map, List.length_take]; omega) ?_))
  ·simp only [spec_numbers.l0]
   rw [if_pos (by omega), if_pos (by omega), if_pos (by rw [intsOf_len]; omega), hrd, hw1]
  ·rw [htk]
   exact ih
theorem nums_ev (bs : List UInt8) (hbs : bs.length ≤ 10) (ns : List Nat) (hl : ns.length ≤ 100000) (hn : ∀ n ∈ ns, n < 18446744073709551616) : Ev (fun k => spec_numbers.f k (intsOf ns) (strB bs)) (strB (Words bs (decs ns))) := by
 have := nums_l bs hbs ns hl hn ns.length 0 (by omega)
 refine Ev.congr (fun k => ?_) this
 simp only [spec_numbers.f, intsOf_len]
 rfl
theorem words_len (b : UInt8) : ∀ (ws : List (List UInt8)) (m : Nat), (∀ w ∈ ws, w.length ≤ m) → (Words [b] ws).length ≤ (m + 1) * ws.length
 | [], m, _ => by simp [Words]
 | [w], m, h => by have := h w (by simp); simp [Words]; omega
 | w :: v :: r, m, h => by
  have ih := words_len b (v :: r) m (fun x hx => h x (by simp [hx]))
  have h1 := h w (by simp)
  simp only [Words, List.length_append, List.length_cons, List.length_nil] at ih ⊢
  rw [show (m + 1) * (r.length + 1 + 1) = (m + 1) * (r.length + 1) + (m + 1) from Nat.mul_succ _ _]
  generalize (m + 1) * (r.length + 1) = X at ih ⊢
  omega
theorem pu10 (n : Nat) (hn : n < 18446744073709551616) : strconv_ParseUint.f (strB (digB 10 n)) 10 64 = some ((n : Int), none) := by
 have hl := dig_len n hn
 have hne := digB_ne 10 n
 have hpos : 0 < (digB 10 n).length := List.length_pos_iff.2 hne
 unfold strconv_ParseUint.f istrconv_ParseUint.f
 rw [if_neg (by rw [strB_size]; omega), if_pos ⟨rfl, rfl⟩, if_neg (by rw [strB_size]; omega), show (strB (digB 10 n)).data.toList = digB 10 n by simp [strB], puN_dig 10 n 18446744073709551615 (by omega) (by omega) (by omega)]
 rfl
end Go.Proofs.YtednjmngalmdkaaGreatDoor.GPC
end
section
/- The lines of a written text, one by one: on lists of bytes alone. Conditions: as they say. -/
namespace Go.Proofs.YtednjmngalmdkaaGreatDoor.GPC
open Go Go.RowKit Go.Proofs.YtednjmngalmdkaaGreatDoorW.PrintWords Go.Proofs.YtednjmngalmdkaaGreatDoorW.PrintLast
set_option linter.unusedVariables false
theorem strB_dl (l : List UInt8) : (strB l).data.toList = l := by simp [strB]
theorem ext_strB (l : List UInt8) (i j : Nat) : (strB l).extract i j = strB ((l.drop i).take (j - i)) := by
 apply ByteArray.ext
 rw [ByteArray.data_extract]
 apply Array.toList_inj.1
 simp [strB, List.extract]
theorem lineEnd_lf (a b : List UInt8) (ha : ∀ c ∈ a, c ≠ 10) : GL.lineEnd (strB (a ++ 10 :: b)) = a.length := by
 unfold GL.lineEnd
 rw [strB_dl, List.findIdx_append]
 have h0 : List.findIdx (· == (10 : UInt8)) a = a.length := List.findIdx_eq_length.2 (fun x hx => by
  simp only [beq_eq_false_iff_ne]
  exact ha x hx)
 have h1 : List.findIdx (fun x => x == (10 : UInt8)) (10 :: b) = 0 := by simp [List.findIdx_cons]
 rw [h0, h1]
 simp
theorem lineOf_lf (a b : List UInt8) (ha : ∀ c ∈ a, c ≠ 10) : GL.lineOf (strB (a ++ 10 :: b)) = strB a := by
 unfold GL.lineOf
 rw [lineEnd_lf a b ha, ext_strB]
 simp
theorem restOf_lf (a b : List UInt8) (ha : ∀ c ∈ a, c ≠ 10) : GL.restOf (strB (a ++ 10 :: b)) = strB b := by
 unfold GL.restOf
 rw [lineEnd_lf a b ha, if_pos (by rw [strB_size]; simp), ext_strB, strB_size]
 have e : a ++ 10 :: b = (a ++ [10]) ++ b := by simp
 rw [e, List.drop_left' (l₁ := a ++ [10]) (by simp), List.take_of_length_le (by simp; omega)]
end Go.Proofs.YtednjmngalmdkaaGreatDoor.GPC
end
section
/- Loops over rows, in general: printed text, tree, lines read; the end of a plain law. Conditions: as they say. -/
namespace Go.Proofs.YtednjmngalmdkaaGreatDoor.GPC
open Go Go.RowKit Go.Proofs.YtednjmngalmdkaaGreatDoorW.PrintWords Go.Proofs.YtednjmngalmdkaaGreatDoorW.PrintLast Go.Proofs.YtednjmngalmdkaaGreatDoor.PF
set_option linter.unusedVariables false
theorem gints_of (r : S31) (hr : OP.RowOk r) : r.f1 = intsOf (r.f1.map Int.toNat) := by
 unfold intsOf
 rw [List.map_map]
 refine (List.map_id r.f1).symm.trans (List.map_congr_left fun a ha => ?_)
 have := (hr.2.1.2 a ha).1
 simp only [Function.comp, id]
 show a = ((a.toNat : Nat) : Int)
 omega
theorem grd31 (l : List S31) (i : Nat) (h : i < l.length) : rd_T31 l (i : Int) = l[i] := by
 simp [rd_T31, List.getD_eq_getElem?_getD, List.getElem?_eq_getElem h]
theorem gen_print {T : Type} (L : List UInt8 → Nat → Nat → Option (ByteArray × Int)) (n A B : Nat) (hM : A + B * n ≤ 100000000000000000) (line : T → List UInt8) (Good : Nat → T → Prop)
  (hend : ∀ acc, Ev (L acc n) (strB acc, 1))
  (hone : ∀ i, i < n → ∀ acc : List UInt8, acc.length ≤ 100000000000000000 → Ev (L acc i) (⟨#[]⟩, 2) ∨ ∃ t, Good i t ∧ (line t).length ≤ B ∧ ∀ r, Ev (L (acc ++ line t) (i + 1)) r → Ev (L acc i) r) :
  ∀ (d i : Nat) (acc : List UInt8), i + d = n → acc.length ≤ A + B * i →
   Ev (L acc i) (⟨#[]⟩, 2) ∨ ∃ ts : List T, ts.length = d ∧ (∀ (j : Nat) (h : j < ts.length), Good (i + j) ts[j]) ∧ Ev (L acc i) (strB (acc ++ ts.flatMap line), 1)
 | 0, i, acc, h, ha => by
  obtain rfl : i = n := by omega
  refine .inr ⟨[], rfl, fun j h => by simp at h, ?_⟩
  simpa using hend acc
 | d + 1, i, acc, h, ha => by
  have hB : B * i ≤ B * n := Nat.mul_le_mul_left B (by omega)
  rcases hone i (by omega) acc (by omega) with hb | ⟨t, hg, hl, ht⟩
  ·exact .inl hb
  ·have hB2 : B * (i + 1) = B * i + B := by rw [Nat.mul_add, Nat.mul_one]
   rcases gen_print L n A B hM line Good hend hone d (i + 1) (acc ++ line t) (by omega) (by simp only [List.length_append]; omega) with hb | ⟨ts, hts, hgs, he⟩
   ·exact .inl (ht _ hb)
   ·refine .inr ⟨t :: ts, by simp [hts], fun j h2 => ?_, ?_⟩
    ·match j with
     | 0 => exact hg
     | j + 1 =>
      have := hgs j (by simpa using h2)
      simp only [List.getElem_cons_succ]
      rw [show i + (j + 1) = i + 1 + j by omega]
      exact this
    ·have e : acc ++ line t ++ ts.flatMap line = acc ++ (t :: ts).flatMap line := by simp
     rw [e] at he
     exact ht _ he
theorem gen_list {S R : Type} (L : List S → Nat → Nat → Option R) (n : Nat) (node : Nat → S) (fin : List S → R)
  (hend : ∀ acc, acc.length ≤ n → Ev (L acc n) (fin acc)) (hone : ∀ i, i < n → ∀ acc : List S, acc.length ≤ i → ∀ r, Ev (L (acc ++ [node i]) (i + 1)) r → Ev (L acc i) r) :
  ∀ (d i : Nat) (acc : List S), i + d = n → acc.length ≤ i → Ev (L acc i) (fin (acc ++ (List.range' i d).map node))
 | 0, i, acc, h, ha => by
  obtain rfl : i = n := by omega
  simpa using hend acc ha
 | d + 1, i, acc, h, ha => by
  have ih := gen_list L n node fin hend hone d (i + 1) (acc ++ [node i]) (by omega) (by simp; omega)
  rw [List.append_assoc, List.singleton_append, ← List.map_cons] at ih
  have e : i :: List.range' (i + 1) d = List.range' i (d + 1) := by simp [List.range'_succ]
  rw [e] at ih
  exact hone i (by omega) acc ha _ ih
theorem range_map {T S : Type} (ts : List T) (f : T → S) (node : Nat → S) (h : ∀ (i : Nat) (hi : i < ts.length), node i = f ts[i]) : (List.range' 0 ts.length).map node = ts.map f := by
 apply List.ext_getElem
 ·simp
 ·intro i h1 h2
  simp only [List.length_map, List.length_range'] at h1
  simp [h i h1]
structure LnOk (l : List UInt8) : Prop where
 ne : l ≠ []
 ch : ∀ c ∈ l, c ≠ 10 ∧ c ≠ 13
 len : l.length < 65536
theorem line_ok (a b : List UInt8) (h : LnOk a) (hs : (a ++ 10 :: b).length ≤ 1000000) : ¬ (strB (a ++ 10 :: b)).size = 0 ∧ LineOk (strB (a ++ 10 :: b)) ∧ GL.lineOf (strB (a ++ 10 :: b)) = strB a ∧ GL.restOf (strB (a ++ 10 :: b)) = strB b := by
 have h10 : ∀ c ∈ a, c ≠ 10 := fun c hc => (h.ch c hc).1
 have hp : 0 < a.length := List.length_pos_iff.2 h.ne
 refine ⟨by rw [strB_size]; simp, ⟨by rw [strB_size]; omega, by rw [lineEnd_lf a b h10]; exact h.len, ?_⟩, lineOf_lf a b h10, restOf_lf a b h10⟩
 rw [lineOf_lf a b h10, strB_size, show ((a.length : Nat) : Int) - 1 = ((a.length - 1 : Nat) : Int) by omega, GL.bt_list _ _ (by rw [strB_size]; omega)]
 intro e
 have hm : a[a.length - 1]'(by omega) ∈ a := List.getElem_mem _
 apply (h.ch _ hm).2
 apply UInt8.toNat_inj.1
 have : ((strB a).data.toList[a.length - 1]'(by rw [strB_dl]; omega)) = a[a.length - 1]'(by omega) := by simp only [strB_dl]
 rw [← this]
 show _ = 13
 omega
theorem rows_end {α : Type} (L : ByteArray → Option (Option α)) (q : Nat) : rowsF L (q + 1) (strB []) = some [] := by
 unfold rowsF
 rw [if_pos (by rw [strB_size]; rfl)]
theorem rows_cons {α : Type} (L : ByteArray → Option (Option α)) (q : Nat) (a b : List UInt8) (h : LnOk a) (hs : (a ++ 10 :: b).length ≤ 1000000) (m : Option α) (ms : List α) (hm : L (strB a) = some m) (hr : rowsF L q (strB b) = some ms) :
  rowsF L (q + 1) (strB (a ++ 10 :: b)) = some (m.toList ++ ms) := by
 obtain ⟨h1, h2, h3, h4⟩ := line_ok a b h hs
 unfold rowsF
 rw [if_neg h1, if_pos h2, h3, h4, hm, hr]
 rfl
theorem rows_text {T α : Type} (L : ByteArray → Option (Option α)) (line : T → List UInt8) (val : T → α) : ∀ (ts : List T) (q : Nat), ts.length < q → (∀ t ∈ ts, LnOk (line t) ∧ L (strB (line t)) = some (some (val t))) → (ts.flatMap fun t => line t ++ [10]).length ≤ 1000000 →
  rowsF L q (strB (ts.flatMap fun t => line t ++ [10])) = some (ts.map val)
 | [], q + 1, _, _, _ => rows_end L q
 | t :: ts, q + 1, hq, h, hl => by
  have e : (t :: ts).flatMap (fun t => line t ++ [10]) = line t ++ 10 :: ts.flatMap (fun t => line t ++ [10]) := by simp
  rw [e] at hl ⊢
  have ih := rows_text L line val ts q (by simpa using hq) (fun u hu => h u (by simp [hu])) (by simp only [List.length_append, List.length_cons] at hl; omega)
  exact rows_cons L q (line t) _ (h t (by simp)).1 hl (some (val t)) _ (h t (by simp)).2 ih
theorem rowsF_more {α : Type} {L : ByteArray → Option (Option α)} : ∀ {q k : Nat} {t : ByteArray} {r : List α}, q ≤ k → rowsF L q t = some r → rowsF L k t = some r
 | 0, _, _, _, _, h => by cases h
 | q + 1, 0, _, _, hk, _ => by omega
 | q + 1, k + 1, t, r, hk, h => by
  unfold rowsF at h ⊢
  split at h
  ·rename_i h0; rw [if_pos h0]; exact h
  ·rename_i h0
   rw [if_neg h0]
   split at h
   ·rename_i h1
    rw [if_pos h1]
    obtain ⟨m, hm, h⟩ := Option.bind_eq_some_iff.1 h
    obtain ⟨ms, hms, h⟩ := Option.bind_eq_some_iff.1 h
    rw [hm, Option.bind_some, rowsF_more (by omega) hms, Option.bind_some]
    exact h
   ·cases h
theorem gen_end {print : Nat → Option (ByteArray × Int)} {tree : Nat → Option (ByteArray × Int × Bool × Int × Int × Nat × ByteArray × List S39 × Int)} {door : ByteArray → S43 → Prop} {l : List S31} (h : l.length ≤ 1000) (text : List UInt8)
  (hp : Ev print (strB text, 1)) (d : Nat) (n : S43) (hf : text.length ≤ 40000 → FitN d n)
  (ht : text.length ≤ 40000 → Ev tree ((convN d n).f0, (convN d n).f1, (convN d n).f2, (convN d n).f3, (convN d n).f4, (convN d n).f5, (convN d n).f6, (convN d n).f7, 1)) (hd : text.length ≤ 40000 → door (strB text) n) : BackOk print tree door l := by
 by_cases hsz : 40000 < text.length
 ·obtain ⟨K, hk⟩ := hp
  exact .noPrint h K _ _ (hk K (Nat.le_refl _)) (.inr (by rw [strB_size]; exact hsz))
 ·exact back_same h _ hp (by rw [strB_size]; omega) d n (hf (by omega)) (ht (by omega)) (hd (by omega))
theorem gen_no {print : Nat → Option (ByteArray × Int)} {tree : Nat → Option (ByteArray × Int × Bool × Int × Int × Nat × ByteArray × List S39 × Int)} {door : ByteArray → S43 → Prop} {l : List S31} (h : l.length ≤ 1000) (hp : Ev print (⟨#[]⟩, 2)) : BackOk print tree door l := by
 obtain ⟨K, hk⟩ := hp
 exact .noPrint h K _ _ (hk K (Nat.le_refl _)) (.inl (by decide))
end Go.Proofs.YtednjmngalmdkaaGreatDoor.GPC
end
section
/- spec.Right, spec.Where, spec.Word, spec.words on lists of bytes. Conditions: lengths. -/
namespace Go.Proofs.YtednjmngalmdkaaGreatDoor.GPC
open Go Go.RowKit Go.Proofs.YtednjmngalmdkaaGreatDoorW.PrintWords Go.Proofs.YtednjmngalmdkaaGreatDoorW.PrintLast
set_option linter.unusedVariables false
theorem bt_strB (l : List UInt8) (i : Nat) (h : i < l.length) : bt (strB l) (i : Int) = ((l[i]).toNat : Int) := by
 rw [GL.bt_list _ _ (by rw [strB_size]; exact h)]
 simp only [strB_dl]
end Go.Proofs.YtednjmngalmdkaaGreatDoor.GPC
end
section
/- What /proc/schedstat says, written, is read as its tree: on numbers and lists alone. Condition: rows as a call's arguments hold them (RowOk). -/
namespace Go.Proofs.YtednjmngalmdkaaGreatDoor.GPC
open Go Go.RowKit Go.Proofs.YtednjmngalmdkaaGreatDoorW.PrintWords Go.Proofs.YtednjmngalmdkaaGreatDoorW.PrintLast Go.Proofs.YtednjmngalmdkaaGreatDoor.PF
set_option linter.unusedVariables false
theorem u64_bd (n : Int) : 0 ≤ IntKind.u64.wrap n ∧ IntKind.u64.wrap n < 18446744073709551616 := by
 unfold IntKind.wrap
 simp [IntKind.bits, IntKind.signed]
 omega
theorem dgFin : ∀ n : Fin 256, (match spec_digit.f 4 (n.val : Int) with | some d => decide (0 ≤ d ∧ d < 256) | none => false) = true := by decide +kernel
theorem digit_ev (c : Nat) (h : c < 256) : ∃ d : Int, Ev (fun k => spec_digit.f k (c : Int)) d ∧ 0 ≤ d ∧ d < 256 := by
 have := dgFin ⟨c, h⟩
 simp only at this
 split at this
 ·rename_i d hd
  exact ⟨d, Ev.of (fun k => spec_digit.mono _ k) hd, of_decide_eq_true this⟩
 ·cases this
theorem num_l (a : List UInt8) (hl : a.length ≤ 4000000000) : ∀ (d i : Nat) (v : Int), i + d = a.length → 0 ≤ v → v < 18446744073709551616 → ∃ v' b, Ev (fun k => spec_Number.l0 k (strB a) 10 v (a.length : Int) (i : Int)) (v', b) ∧ 0 ≤ v' ∧ v' < 18446744073709551616
 | 0, i, v, h, h0, h1 => ⟨v, _, Ev.step (f := fun _ => some (v, ((strB a).toList != ([] : List UInt8)))) (fun k => by simp only [spec_Number.l0]; rw [if_neg (by omega)]) (Ev.now _), h0, h1⟩
 | d + 1, i, v, h, h0, h1 => by
  have hi : i < a.length := by omega
  have hw : wrap64 ((i : Int) + 1) = ((i + 1 : Nat) : Int) := by unfold wrap64; omega
  obtain ⟨t, ht, ht0, ht1⟩ := digit_ev (a[i]).toNat (a[i]).toNat_lt
  have hst : ∀ k, spec_Number.l0 (k + 1) (strB a) 10 v (a.length : Int) (i : Int) = (spec_digit.f k ((a[i]).toNat : Int)).bind fun t => (if t ≥ 10 then some (0, false) else if (10 : Int) = 0 then none else if v > (IntKind.u64.wrap (Int.tdiv (IntKind.u64.wrap (18446744073709551615 - t)) 10)) then some (0, false) else spec_Number.l0 k (strB a) 10 (IntKind.u64.wrap ((IntKind.u64.wrap (v * 10)) + t)) (a.length : Int) ((i + 1 : Nat) : Int)) := fun k => by
   simp only [spec_Number.l0]
   rw [if_pos (by omega), if_pos (by omega), if_pos (by rw [strB_size]; omega), bt_strB a i hi, hw]
  by_cases c1 : t ≥ 10
  ·exact ⟨0, false, Ev.step hst (evB ht (evP c1 (Ev.now _))), by decide, by decide⟩
  ·by_cases c2 : v > (IntKind.u64.wrap (Int.tdiv (IntKind.u64.wrap (18446744073709551615 - t)) 10))
   ·exact ⟨0, false, Ev.step hst (evB ht (evN c1 (evN (by decide) (evP c2 (Ev.now _))))), by decide, by decide⟩
   ·have hb := u64_bd ((IntKind.u64.wrap (v * 10)) + t)
    obtain ⟨v', b, hv, h2, h3⟩ := num_l a hl d (i + 1) _ (by omega) hb.1 hb.2
    exact ⟨v', b, Ev.step hst (evB ht (evN c1 (evN (by decide) (evN c2 hv)))), h2, h3⟩
theorem dec_ev (a : List UInt8) (hl : a.length ≤ 4000000000) : ∃ (v : Nat) (b : Bool), Ev (fun k => spec_Dec.f k (strB a)) ((v : Int), b) ∧ v < 18446744073709551616 := by
 obtain ⟨v, b, h, h0, h1⟩ := num_l a hl a.length 0 0 (by omega) (by omega) (by omega)
 refine ⟨v.toNat, b, ?_, by omega⟩
 rw [show ((v.toNat : Nat) : Int) = v by omega]
 have h2 : Ev (fun k => spec_Number.f k (strB a) 10) (v, b) := Ev.congr (fun k => by simp only [spec_Number.f, strB_size]; rfl) h
 exact evB (F := fun _ bt864 => some (bt864.1, bt864.2)) h2 (Ev.now _)
structure SdT where
 n : Nat
 ns : List Nat
def sdLn (t : SdT) : List UInt8 := [99, 112, 117] ++ (digB 10 t.n ++ tailW [32] (decs t.ns))
structure SdGood (r : S31) (t : SdT) : Prop where
 s : r.f0 = strB (digB 10 t.n)
 n : r.f1 = intsOf t.ns
 l : t.ns.length = 9
 hn : t.n < 18446744073709551616
 hs : ∀ m ∈ t.ns, m < 18446744073709551616
theorem sd_tail (ns : List Nat) (h : ns ≠ []) : [32] ++ Words [32] (decs ns) = tailW [32] (decs ns) := by
 obtain ⟨n, r, rfl⟩ := List.exists_cons_of_ne_nil h
 rw [show decs (n :: r) = digB 10 n :: decs r from rfl, words_tail]
 simp [tailW]
theorem sd_wlen (ns : List Nat) (h : ns.length = 9) (hs : ∀ m ∈ ns, m < 18446744073709551616) : (Words [32] (decs ns)).length ≤ 189 := by
 have := words_len 32 (decs ns) 20 (fun w hw => by
  simp only [decs, List.mem_map] at hw
  obtain ⟨n, hm, rfl⟩ := hw
  exact dig_len n (hs n hm))
 simp only [decs, List.length_map] at this
 rw [h] at this
 exact this
theorem sd_len (t : SdT) (r : S31) (g : SdGood r t) : (sdLn t ++ [10]).length ≤ 300 := by
 have h1 := sd_wlen t.ns g.l g.hs
 have h2 := dig_len t.n g.hn
 have h3 := sd_tail t.ns (fun e => by have := g.l; rw [e] at this; simp at this)
 unfold sdLn
 rw [← h3]
 simp only [List.length_append, List.length_cons, List.length_nil]
 omega
theorem sd_one (l : List S31) (hl : l.length ≤ 1000) (hf : ∀ r ∈ l, FitR r ∧ OP.RowOk r) (i : Nat) (hi : i < l.length) (acc : List UInt8) (hacc : acc.length ≤ 100000000000000000) :
  Ev (fun k => spec_SchedstatPrint.l0 k (strB acc) l (l.length : Int) (i : Int)) (⟨#[]⟩, 2) ∨
  ∃ t : SdT, SdGood l[i] t ∧ (sdLn t ++ [10]).length ≤ 300 ∧ ∀ r, Ev (fun k => spec_SchedstatPrint.l0 k (strB (acc ++ (sdLn t ++ [10]))) l (l.length : Int) ((i + 1 : Nat) : Int)) r →
   Ev (fun k => spec_SchedstatPrint.l0 k (strB acc) l (l.length : Int) (i : Int)) r := by
 have hR := hf l[i] (List.getElem_mem _)
 have hrd := grd31 l i hi
 generalize l[i] = R at hR hrd
 obtain ⟨f0, f1, f2⟩ := R
 obtain ⟨⟨hs1, hs2, hs3, hs4⟩, hro⟩ := hR
 have hints := gints_of _ hro
 have hbig : ∀ x ∈ f1, 0 ≤ x ∧ x < 18446744073709551616 := fun x hx => by
  have := hro.2.1.2 x hx
  omega
 simp only at hs1 hs2 hs3 hs4 hints
 obtain ⟨a, rfl⟩ : ∃ a, f0 = strB a := ⟨_, (strB_of f0).symm⟩
 obtain ⟨ns, rfl⟩ : ∃ ns, f1 = intsOf ns := ⟨_, hints⟩
 have hnb : ∀ m ∈ ns, m < 18446744073709551616 := fun m hm => by
  have := hbig (m : Int) (by unfold intsOf; exact List.mem_map.2 ⟨m, hm, rfl⟩)
  omega
 rw [strB_size] at hs1
 rw [intsOf_len] at hs2
 have hw : wrap64 ((i : Int) + 1) = ((i + 1 : Nat) : Int) := by unfold wrap64; omega
 have hsz : ∃ b, spec_sized.f (strB a) (intsOf ns) f2 9 0 = some b ∧ (b = true → ns.length = 9) := by
  unfold spec_sized.f
  by_cases h : ((intsOf ns).length : Int) = 9
  ·rw [if_pos h]; exact ⟨_, rfl, fun e => by rw [intsOf_len] at h; omega⟩
  ·rw [if_neg h]; exact ⟨_, rfl, fun e => by cases e⟩
 obtain ⟨bs, hbs, hb3⟩ := hsz
 obtain ⟨v, b, hd, hv⟩ := dec_ev a (by omega)
 have ht := text_ev v hv
 have bad : Ev (fun _ => some ((⟨#[]⟩ : ByteArray), (2 : Int))) (⟨#[]⟩, 2) := Ev.now _
 have hst : ∀ k, spec_SchedstatPrint.l0 (k + 1) (strB acc) l (l.length : Int) (i : Int) = (spec_Dec.f k (strB a)).bind fun bt868 => (if bt868.2 = true then ((spec_Text.f k bt868.1).bind fun t870 => (if t870.toList = (strB a).toList then (if bs = true then (if 3 + (strB a).size ≤ 9223372036854775807 then (if ((⟨#[99, 112, 117]⟩ : ByteArray) ++ (strB a)).size + 1 ≤ 9223372036854775807 then ((spec_numbers.f k (intsOf ns) (⟨#[32]⟩ : ByteArray)).bind fun t872 => (if (((⟨#[99, 112, 117]⟩ : ByteArray) ++ (strB a)) ++ (⟨#[32]⟩ : ByteArray)).size + t872.size ≤ 9223372036854775807 then (if ((((⟨#[99, 112, 117]⟩ : ByteArray) ++ (strB a)) ++ (⟨#[32]⟩ : ByteArray)) ++ t872).size + 1 ≤ 9223372036854775807 then (if (strB acc).size + (((((⟨#[99, 112, 117]⟩ : ByteArray) ++ (strB a)) ++ (⟨#[32]⟩ : ByteArray)) ++ t872) ++ (⟨#[10]⟩ : ByteArray)).size ≤ 9223372036854775807 then (spec_SchedstatPrint.l0 k (strB acc ++ (((((⟨#[99, 112, 117]⟩ : ByteArray) ++ (strB a)) ++ (⟨#[32]⟩ : ByteArray)) ++ t872) ++ (⟨#[10]⟩ : ByteArray))) l (l.length : Int) ((i + 1 : Nat) : Int)) else (none)) else (none)) else (none))) else (none)) else (none)) else (some ((⟨#[]⟩ : ByteArray), 2))) else (some ((⟨#[]⟩ : ByteArray), 2)))) else (some ((⟨#[]⟩ : ByteArray), 2))) := fun k => by
  simp only [spec_SchedstatPrint.l0]
  rw [if_pos (by omega), if_pos (by omega), if_pos (by omega), hrd, hw]
  simp only
  rw [hbs]
  rfl
 cases b with
 | false => exact .inl (Ev.step hst (evB hd (evN (by simp) bad)))
 | true =>
 by_cases hq : (strB (digB 10 v)).toList = (strB a).toList
 ·have ha : a = digB 10 v := by
   rw [ByteArray.toList_eq, ByteArray.toList_eq, strB_dl, strB_dl] at hq
   exact hq.symm
  cases bs with
  | false => exact .inl (Ev.step hst (evB hd (evP rfl (evB ht (evP hq (evN (by decide) bad))))))
  | true =>
   subst ha
   have h9 := hb3 rfl
   let t : SdT := ⟨v, ns⟩
   have g : SdGood ⟨strB (digB 10 v), intsOf ns, f2⟩ t := ⟨rfl, rfl, h9, hv, hnb⟩
   have hwl := sd_wlen ns h9 hnb
   have hdl := dig_len v hv
   refine .inr ⟨t, g, sd_len t _ g, fun r hr => ?_⟩
   have hnum := nums_ev [32] (by simp) ns (by omega) hnb
   have el : sdLn t = [99, 112, 117] ++ digB 10 v ++ [32] ++ Words [32] (decs ns) := by
    show [99, 112, 117] ++ (digB 10 v ++ tailW [32] (decs ns)) = _
    rw [← sd_tail ns (fun e => by rw [e] at h9; simp at h9)]
    simp
   rw [el] at hr
   have e1 : ((⟨#[99, 112, 117]⟩ : ByteArray) ++ (strB (digB 10 v))) = strB ([99, 112, 117] ++ digB 10 v) := strB_append [99, 112, 117] (digB 10 v)
   have e2 : ((⟨#[99, 112, 117]⟩ : ByteArray) ++ (strB (digB 10 v))) ++ (⟨#[32]⟩ : ByteArray) = strB ([99, 112, 117] ++ digB 10 v ++ [32]) := by rw [e1]; exact strB_append _ [32]
   have e3 : ((((⟨#[99, 112, 117]⟩ : ByteArray) ++ (strB (digB 10 v))) ++ (⟨#[32]⟩ : ByteArray)) ++ strB (Words [32] (decs ns))) = strB ([99, 112, 117] ++ digB 10 v ++ [32] ++ Words [32] (decs ns)) := by rw [e2, strB_append]
   have e4 : (((((⟨#[99, 112, 117]⟩ : ByteArray) ++ (strB (digB 10 v))) ++ (⟨#[32]⟩ : ByteArray)) ++ strB (Words [32] (decs ns))) ++ (⟨#[10]⟩ : ByteArray)) = strB ([99, 112, 117] ++ digB 10 v ++ [32] ++ Words [32] (decs ns) ++ [10]) := by rw [e3]; exact strB_append _ [10]
   refine Ev.step hst (evB hd (evP rfl (evB ht (evP hq (evP rfl (evG (by rw [strB_size]; omega) (evG (by rw [e1, strB_size]; simp only [List.length_append, List.length_cons, List.length_nil]; omega) (evB hnum (evG (by rw [e2, strB_size, strB_size]; simp only [List.length_append, List.length_cons, List.length_nil]; omega) (evG (by rw [e3, strB_size]; simp only [List.length_append, List.length_cons, List.length_nil]; omega) (evG (by rw [e4, strB_size, strB_size]; simp only [List.length_append, List.length_cons, List.length_nil]; omega) ?_)))))))))))
   rw [e4, strB_append]
   exact hr
 ·exact .inl (Ev.step hst (evB hd (evP rfl (evB ht (evN hq bad)))))
def digs (w : List UInt8) : Prop := ∀ c ∈ w, 48 ≤ c.toNat ∧ c.toNat ≤ 57
theorem zz_scan (s pre w rest : List UInt8) (hs : s = pre ++ (w ++ rest)) (hw : digs w) (hw0 : w ≠ []) (hrest : rest = [] ∨ ∃ z, rest = 32 :: z) (hl : s.length ≤ 100000) (out : List ByteArray) (ho : out.length ≤ 100) (r : List ByteArray)
  (h : Ev (fun k => procfs_zzNumbers.l1 k (strB s) cpuB 10 0 ((pre.length + w.length : Nat) : Int) (out ++ [strB w])) r) : ∀ (m i : Nat), i + m = w.length →
  Ev (fun k => procfs_zzNumbers.l2 k (strB s) cpuB 10 0 ((pre.length + i : Nat) : Int) out ((pre.length : Nat) : Int)) r
 | 0, i, hi => by
  obtain rfl : i = w.length := by omega
  have hp : 0 < w.length := List.length_pos_iff.2 hw0
  have hlen : s.length = pre.length + (w.length + rest.length) := by rw [hs]; simp
  have hext : (strB s).extract (((pre.length : Nat) : Int)).toNat (((pre.length + w.length : Nat) : Int)).toNat = strB w := by
   rw [Int.toNat_natCast, Int.toNat_natCast, ext_strB, hs]
   simp
  refine Ev.step (fun k => ?_) h
  simp only [procfs_zzNumbers.l2]
  rcases hrest with hr | ⟨z, hr⟩
  ·rw [if_neg (by rw [strB_size, hlen, hr]; simp), if_neg (by omega), if_pos (by omega), if_pos (by omega), if_pos (by rw [strB_size]; omega), if_pos (by omega), hext]
  ·have hlt : pre.length + w.length < s.length := by rw [hlen, hr]; simp
   have hb : bt (strB s) ((pre.length + w.length : Nat) : Int) = 32 := by
    rw [bt_strB s _ hlt]
    have : s[pre.length + w.length] = 32 := by
     subst hs
     rw [List.getElem_append_right (by omega)]
     simp [hr]
    rw [this]
    rfl
   rw [if_pos (by rw [strB_size]; omega), if_pos (by omega), hb, if_neg (by omega), if_neg (by omega), if_pos (by omega), if_pos (by omega), if_pos (by rw [strB_size]; omega), if_pos (by omega), hext]
 | m + 1, i, hi => by
  have hiw : i < w.length := by omega
  have hlen : s.length = pre.length + (w.length + rest.length) := by rw [hs]; simp
  have hlt : pre.length + i < s.length := by omega
  have hb : bt (strB s) ((pre.length + i : Nat) : Int) = ((w[i]).toNat : Int) := by
   rw [bt_strB s _ hlt]
   have : s[pre.length + i] = w[i] := by
    subst hs
    rw [List.getElem_append_right (by omega)]
    simp [List.getElem_append_left, hiw]
   rw [this]
  have hd := hw w[i] (List.getElem_mem _)
  have hwr : wrap64 (((pre.length + i : Nat) : Int) + 1) = ((pre.length + (i + 1) : Nat) : Int) := by unfold wrap64; omega
  have ih := zz_scan s pre w rest hs hw hw0 hrest hl out ho r h m (i + 1) (by omega)
  refine Ev.step (fun k => ?_) ih
  simp only [procfs_zzNumbers.l2]
  rw [if_pos (by rw [strB_size]; omega), if_pos (by omega), hb, if_pos (by omega), if_pos (by omega), hwr]
theorem tail_rest (ws : List (List UInt8)) : tailW [32] ws = [] ∨ ∃ z, tailW [32] ws = 32 :: z := by
 cases ws with
 | nil => exact .inl rfl
 | cons w ws => exact .inr ⟨w ++ tailW [32] ws, by simp [tailW]⟩
theorem zz_words (s : List UInt8) (hl : s.length ≤ 100000) : ∀ (ws : List (List UInt8)) (pre : List UInt8) (out : List ByteArray), s = pre ++ tailW [32] ws → 2 ≤ out.length → out.length + ws.length = 11 → (∀ w ∈ ws, w ≠ [] ∧ digs w) →
  Ev (fun k => procfs_zzNumbers.l1 k (strB s) cpuB 10 0 ((pre.length : Nat) : Int) out) ((out ++ ws.map strB).set 0 (strB s))
 | [], pre, out, hs, h2, h11, hw => by
  simp only [List.length_nil] at h11
  have hps : pre = s := by rw [hs]; simp [tailW]
  subst hps
  have hext : (strB pre).extract ((0 : Int)).toNat (((pre.length : Nat) : Int)).toNat = strB pre := by
   rw [ext_strB]
   simp
  rw [List.map_nil, List.append_nil]
  refine Ev.step (f := fun _ => some (out.set 0 (strB pre))) (fun k => ?_) (Ev.now _)
  simp only [procfs_zzNumbers.l1]
  rw [if_neg (by omega), if_pos (by omega), if_pos (by omega), if_pos (by omega), if_pos (by rw [strB_size]; omega), if_pos (by omega), hext]
  rfl
 | w :: ws, pre, out, hs, h2, h11, hw => by
  simp only [List.length_cons] at h11
  have et : tailW [32] (w :: ws) = 32 :: (w ++ tailW [32] ws) := by simp [tailW]
  rw [et] at hs
  have hlen : s.length = pre.length + (1 + (w.length + (tailW [32] ws).length)) := by rw [hs]; simp; omega
  have hs2 : s = (pre ++ [32]) ++ (w ++ tailW [32] ws) := by rw [hs]; simp
  have hs3 : s = (pre ++ [32] ++ w) ++ tailW [32] ws := by rw [hs]; simp
  have ih := zz_words s hl ws (pre ++ [32] ++ w) (out ++ [strB w]) hs3 (by simp; omega) (by simp; omega) (fun x hx => hw x (by simp [hx]))
  rw [show (out ++ [strB w]) ++ ws.map strB = out ++ (w :: ws).map strB by simp] at ih
  have hq : (pre ++ [32] ++ w).length = (pre ++ [32]).length + w.length := List.length_append
  rw [hq] at ih
  have hsc := zz_scan s (pre ++ [32]) w (tailW [32] ws) hs2 (hw w (by simp)).2 (hw w (by simp)).1 (tail_rest ws) hl out (by omega) _ ih w.length 0 (by omega)
  have hpl : ((pre ++ [32]).length : Nat) = pre.length + 1 := by simp
  rw [Nat.add_zero, hpl] at hsc
  have hb : bt (strB s) ((pre.length : Nat) : Int) = 32 := by
   rw [bt_strB s _ (by omega)]
   have : s[pre.length]'(by omega) = 32 := by
    subst hs
    simp
   rw [this]
   rfl
  have hwr : wrap64 (((pre.length : Nat) : Int) + 1) = ((pre.length + 1 : Nat) : Int) := by unfold wrap64; omega
  have hj : Ev (fun k => procfs_zzNumbers.j2 k (strB s) cpuB 10 0 ((pre.length + 1 : Nat) : Int) out) ((out ++ (w :: ws).map strB).set 0 (strB s)) := Ev.step (fun k => by simp only [procfs_zzNumbers.j2]) hsc
  refine Ev.step (fun k => ?_) hj
  simp only [procfs_zzNumbers.l1]
  rw [if_pos (by omega), if_pos (by omega), if_neg (by rw [strB_size]; omega), if_pos (by omega), if_pos (by rw [strB_size]; omega), hb, if_pos rfl, hwr]
theorem zz_line (d0 : List UInt8) (ws : List (List UInt8)) (h9 : ws.length = 9) (hd : d0 ≠ [] ∧ digs d0) (hw : ∀ w ∈ ws, w ≠ [] ∧ digs w) (s : List UInt8) (hs : s = [99, 112, 117] ++ (d0 ++ tailW [32] ws)) (hl : s.length ≤ 100000) :
  Ev (fun k => procfs_zzNumbers.f k (strB s) cpuB 10) (strB s :: strB d0 :: ws.map strB) := by
 have hlen : s.length = 3 + (d0.length + (tailW [32] ws).length) := by rw [hs]; simp; omega
 have hws := zz_words s hl ws ([99, 112, 117] ++ d0) [(⟨#[]⟩ : ByteArray), strB d0] (by rw [hs]; simp) (by simp) (by simp; omega) hw
 have hq : ([99, 112, 117] ++ d0 : List UInt8).length = ([99, 112, 117] : List UInt8).length + d0.length := List.length_append
 rw [hq] at hws
 have hsc := zz_scan s [99, 112, 117] d0 (tailW [32] ws) hs hd.2 hd.1 (tail_rest ws) hl [(⟨#[]⟩ : ByteArray)] (by simp) _ hws d0.length 0 (by omega)
 have hj : Ev (fun k => procfs_zzNumbers.j2 k (strB s) cpuB 10 0 3 [(⟨#[]⟩ : ByteArray)]) (strB s :: strB d0 :: ws.map strB) := Ev.step (fun k => by simp only [procfs_zzNumbers.j2]; rfl) hsc
 have h1 : Ev (fun k => procfs_zzNumbers.l1 k (strB s) cpuB 10 0 3 [(⟨#[]⟩ : ByteArray)]) (strB s :: strB d0 :: ws.map strB) := Ev.step (fun k => by
  simp only [procfs_zzNumbers.l1]
  rw [if_pos (by simp), if_neg (by simp)]) hj
 have hw3 : wrap64 (0 + (cpuB.size : Int)) = 3 := by decide +kernel
 have hext : ((strB s).extract ((0 : Int)).toNat ((3 : Int)).toNat).toList = cpuB.toList := by
  rw [ext_strB, hs]
  rfl
 refine Ev.step (fun k => ?_) h1
 simp only [procfs_zzNumbers.f, procfs_zzNumbers.l0]
 rw [hw3, if_pos (by rw [strB_size]; omega), if_pos (by omega), if_pos (by omega), if_pos hext]
def sdG (fs : List ByteArray) : Option (Option S196) := if fs.length = 0 then some none else if 11 ≤ fs.length then
  (puSd (rdOf ByteArray.empty fs 8)).bind fun a => (puSd (rdOf ByteArray.empty fs 9)).bind fun b => (puSd (rdOf ByteArray.empty fs 10)).bind fun c => some (some ⟨rdOf ByteArray.empty fs 1, a, b, c⟩) else none
def sdV (t : SdT) (i : Nat) : Int := ((t.ns.getD i 0 : Nat) : Int)
def sdS (t : SdT) : S196 := ⟨strB (digB 10 t.n), sdV t 6, sdV t 7, sdV t 8⟩
theorem dig_digs (n : Nat) : digB 10 n ≠ [] ∧ digs (digB 10 n) := ⟨digB_ne 10 n, dig10 n⟩
theorem puSd_dec (n : Nat) (h : n < 18446744073709551616) : puSd (strB (digB 10 n)) = some (n : Int) := by
 unfold puSd
 rw [pu10 n h]
 rfl
theorem sd_chars (t : SdT) : ∀ c ∈ sdLn t, c ≠ 10 ∧ c ≠ 13 := by
 intro c hc
 have hdg : ∀ m, c ∈ digB 10 m → c ≠ 10 ∧ c ≠ 13 := fun m hm => by
  have := dig10 m c hm
  exact ⟨fun e => by rw [e] at this; revert this; decide, fun e => by rw [e] at this; revert this; decide⟩
 unfold sdLn at hc
 rcases List.mem_append.1 hc with h | h
 ·simp only [List.mem_cons, List.not_mem_nil, or_false] at h
  rcases h with rfl | rfl | rfl <;> decide
 ·rcases List.mem_append.1 h with h | h
  ·exact hdg _ h
  ·simp only [tailW, List.mem_flatMap, decs, List.mem_map] at h
   obtain ⟨w, ⟨m, _, rfl⟩, h⟩ := h
   rcases List.mem_append.1 h with h | h
   ·rw [List.mem_singleton.1 h]; decide
   ·exact hdg _ h
theorem sd_line (r : S31) (t : SdT) (g : SdGood r t) : LnOk (sdLn t) ∧ Ev (fun K => sdL K (strB (sdLn t))) (some (sdS t)) := by
 have hln := sd_len t r g
 rw [List.length_append, List.length_singleton] at hln
 refine ⟨⟨by unfold sdLn; simp, sd_chars t, by omega⟩, ?_⟩
 have h9 := g.l
 have hz := zz_line (digB 10 t.n) (decs t.ns) (by simp [decs, h9]) (dig_digs _) (fun w hw => by
  simp only [decs, List.mem_map] at hw
  obtain ⟨m, _, rfl⟩ := hw
  exact dig_digs m) (sdLn t) rfl (by omega)
 have hat : ∀ i, (hi : i < 9) → rdOf ByteArray.empty (strB (sdLn t) :: strB (digB 10 t.n) :: (decs t.ns).map strB) ((i + 2 : Nat) : Int) = strB (digB 10 (t.ns[i]'(by omega))) := fun i hi => by
  rw [rdOf_el _ _ (by omega) (by simp [decs]; omega)]
  simp only [Int.toNat_natCast]
  simp [decs]
 have hsv : ∀ i, (hi : i < 9) → (((t.ns[i]'(by omega)) : Nat) : Int) = sdV t i := fun i hi => by
  unfold sdV
  rw [List.getD_eq_getElem?_getD, List.getElem?_eq_getElem (by omega)]
  rfl
 have hpu : ∀ i, (hi : i < 9) → puSd (rdOf ByteArray.empty (strB (sdLn t) :: strB (digB 10 t.n) :: (decs t.ns).map strB) ((i + 2 : Nat) : Int)) = some (sdV t i) := fun i hi => by
  rw [hat i hi, puSd_dec _ (g.hs _ (List.getElem_mem _)), hsv i hi]
 have p8 : puSd (rdOf ByteArray.empty (strB (sdLn t) :: strB (digB 10 t.n) :: (decs t.ns).map strB) 8) = some (sdV t 6) := hpu 6 (by omega)
 have p9 : puSd (rdOf ByteArray.empty (strB (sdLn t) :: strB (digB 10 t.n) :: (decs t.ns).map strB) 9) = some (sdV t 7) := hpu 7 (by omega)
 have p10 : puSd (rdOf ByteArray.empty (strB (sdLn t) :: strB (digB 10 t.n) :: (decs t.ns).map strB) 10) = some (sdV t 8) := hpu 8 (by omega)
 have hlf : (strB (sdLn t) :: strB (digB 10 t.n) :: (decs t.ns).map strB).length = 11 := by simp [decs, h9]
 have h1 : rdOf ByteArray.empty (strB (sdLn t) :: strB (digB 10 t.n) :: (decs t.ns).map strB) 1 = strB (digB 10 t.n) := rfl
 show Ev (fun K => (procfs_zzNumbers.f K (strB (sdLn t)) cpuB 10).bind sdG) (some (sdS t))
 refine evB (F := fun _ fs => sdG fs) hz ?_
 refine Ev.congr (f := fun _ => some (some (sdS t))) (fun k => ?_) (Ev.now _)
 simp only [sdG]
 rw [hlf, if_neg (by omega), if_pos (by omega), p8, p9, p10, h1]
 rfl
def sdH1 : List UInt8 := [118, 101, 114, 115, 105, 111, 110, 32, 49, 53]
def sdH2 : List UInt8 := [116, 105, 109, 101, 115, 116, 97, 109, 112, 32, 52, 50, 57, 52, 56, 57, 50, 50, 57, 54]
theorem sd_head (h : List UInt8) (hz : procfs_zzNumbers.f 60 (strB h) cpuB 10 = some []) : Ev (fun K => sdL K (strB h)) none := by
 have h1 : Ev (fun k => procfs_zzNumbers.f k (strB h) cpuB 10) [] := Ev.of (fun k => procfs_zzNumbers.mono _ _ _ k) hz
 show Ev (fun K => (procfs_zzNumbers.f K (strB h) cpuB 10).bind sdG) none
 exact evB (F := fun _ fs => sdG fs) h1 (Ev.now _)
theorem sd_h1 : procfs_zzNumbers.f 60 (strB sdH1) cpuB 10 = some [] := by decide +kernel
theorem sd_h2 : procfs_zzNumbers.f 60 (strB sdH2) cpuB 10 = some [] := by decide +kernel
theorem ev_all {A B : Type} (g : A → Nat → Option B) (f : A → B) : ∀ (ts : List A), (∀ t ∈ ts, Ev (g t) (f t)) → ∃ K, ∀ k, K ≤ k → ∀ t ∈ ts, g t k = some (f t)
 | [], _ => ⟨0, fun k _ t ht => by cases ht⟩
 | u :: ts, h => by
  obtain ⟨K1, h1⟩ := h u (by simp)
  obtain ⟨K2, h2⟩ := ev_all g f ts (fun t ht => h t (by simp [ht]))
  refine ⟨K1 + K2, fun k hk t ht => ?_⟩
  rcases List.mem_cons.1 ht with rfl | ht
  ·exact h1 k (by omega)
  ·exact h2 k (by omega) t ht
def sdKids39 (m : S196) : List S39 := [⟨⟨#[67, 80, 85, 78, 117, 109]⟩, 5, false, 0, 0, 0, m.f0, []⟩, ⟨⟨#[82, 117, 110, 110, 105, 110, 103, 78, 97, 110, 111, 115, 101, 99, 111, 110, 100, 115]⟩, 3, false, 0, m.f1, 0, ⟨#[]⟩, []⟩, ⟨⟨#[87, 97, 105, 116, 105, 110, 103, 78, 97, 110, 111, 115, 101, 99, 111, 110, 100, 115]⟩, 3, false, 0, m.f2, 0, ⟨#[]⟩, []⟩, ⟨⟨#[82, 117, 110, 84, 105, 109, 101, 115, 108, 105, 99, 101, 115]⟩, 3, false, 0, m.f3, 0, ⟨#[]⟩, []⟩]
def sdKids43 (m : S196) : List S43 := [⟨⟨#[67, 80, 85, 78, 117, 109]⟩, 5, false, 0, 0, 0, m.f0, []⟩, ⟨⟨#[82, 117, 110, 110, 105, 110, 103, 78, 97, 110, 111, 115, 101, 99, 111, 110, 100, 115]⟩, 3, false, 0, m.f1, 0, ⟨#[]⟩, []⟩, ⟨⟨#[87, 97, 105, 116, 105, 110, 103, 78, 97, 110, 111, 115, 101, 99, 111, 110, 100, 115]⟩, 3, false, 0, m.f2, 0, ⟨#[]⟩, []⟩, ⟨⟨#[82, 117, 110, 84, 105, 109, 101, 115, 108, 105, 99, 101, 115]⟩, 3, false, 0, m.f3, 0, ⟨#[]⟩, []⟩]
def sdN39 (m : S196) : S39 := ⟨⟨#[]⟩, 8, false, 0, 0, 0, ⟨#[]⟩, sdKids39 m⟩
def sdN43 (m : S196) : S43 := ⟨⟨#[]⟩, 8, false, 0, 0, 0, ⟨#[]⟩, sdKids43 m⟩
def sdAll (ts : List SdT) : S43 := ⟨⟨#[]⟩, 8, false, 0, 0, 0, ⟨#[]⟩, [⟨⟨#[67, 80, 85, 115]⟩, 6, false, 0, 0, 0, ⟨#[]⟩, (ts.map sdS).map sdN43⟩]⟩
theorem sd_conv (ts : List SdT) : convN 3 (sdAll ts) = ⟨⟨#[]⟩, 8, false, 0, 0, 0, ⟨#[]⟩, [⟨⟨#[67, 80, 85, 115]⟩, 6, false, 0, 0, 0, ⟨#[]⟩, ts.map fun t => sdN39 (sdS t)⟩]⟩ := by
 simp only [sdAll, convN, List.map_cons, List.map_nil, List.map_map]
 congr 1
theorem sd_fit (ts : List SdT) (hl : ts.length ≤ 1000000) : FitN 3 (sdAll ts) := by
 refine ⟨by simp [sdAll], fun x hx => ?_⟩
 simp only [sdAll, List.mem_singleton] at hx
 subst hx
 refine ⟨by simpa using hl, fun y hy => ?_⟩
 simp only [List.mem_map] at hy
 obtain ⟨m, _, rfl⟩ := hy
 refine ⟨by simp [sdN43, sdKids43], fun z hz => ?_⟩
 simp only [sdN43, sdKids43, List.mem_cons, List.not_mem_nil, or_false] at hz
 rcases hz with rfl | rfl | rfl | rfl <;> rfl
def sdT0 : SdT := ⟨0, []⟩
theorem sd_tree (l : List S31) (hl : l.length ≤ 1000) (ts : List SdT) (hlen : ts.length = l.length) (hg : ∀ (j : Nat) (h1 : j < l.length) (h2 : j < ts.length), SdGood l[j] ts[j]) :
  Ev (fun k => spec_SchedstatTree.l0 k [] l (l.length : Int) 0) (⟨#[]⟩, 8, false, 0, 0, 0, ⟨#[]⟩, [⟨⟨#[67, 80, 85, 115]⟩, 6, false, 0, 0, 0, ⟨#[]⟩, ts.map fun t => sdN39 (sdS t)⟩], 1) := by
 have h := gen_list (fun acc i k => spec_SchedstatTree.l0 k acc l (l.length : Int) (i : Int)) l.length (fun i => sdN39 (sdS (ts.getD i sdT0))) (fun acc => ((⟨#[]⟩ : ByteArray), (8 : Int), false, (0 : Int), (0 : Int), (0 : Nat), (⟨#[]⟩ : ByteArray), [(⟨⟨#[67, 80, 85, 115]⟩, 6, false, 0, 0, 0, ⟨#[]⟩, acc⟩ : S39)], (1 : Int))) ?_ ?_ l.length 0 [] (by omega) (by simp)
 ·rw [← hlen, range_map ts (fun t => sdN39 (sdS t)) _ (fun i hi => by simp [List.getD_eq_getElem?_getD, List.getElem?_eq_getElem hi]), List.nil_append, hlen] at h
  exact h
 ·intro acc ha
  refine Ev.step (f := fun _ => some ((⟨#[]⟩ : ByteArray), (8 : Int), false, (0 : Int), (0 : Int), (0 : Nat), (⟨#[]⟩ : ByteArray), [(⟨⟨#[67, 80, 85, 115]⟩, 6, false, 0, 0, 0, ⟨#[]⟩, acc⟩ : S39)], (1 : Int))) (fun k => ?_) (Ev.now _)
  simp only [spec_SchedstatTree.l0]
  rw [if_neg (by omega)]
  rfl
 ·intro i hi acc ha r hr
  have hit : i < ts.length := by omega
  have g := hg i hi hit
  have hrd := grd31 l i hi
  have hw : wrap64 ((i : Int) + 1) = ((i + 1 : Nat) : Int) := by unfold wrap64; omega
  have egd : ts.getD i sdT0 = ts[i] := by simp [List.getD_eq_getElem?_getD, List.getElem?_eq_getElem hit]
  rw [egd] at hr
  refine Ev.step (fun k => ?_) hr
  generalize ts[i] = t at g
  have h9 := g.l
  have hsv : ∀ j : Nat, j < 9 → rd (intsOf t.ns) (j : Int) = sdV t j := fun j hj => by
   rw [rd_ints t.ns j (by omega)]
   unfold sdV
   rw [List.getD_eq_getElem?_getD, List.getElem?_eq_getElem (by omega)]
   rfl
  have r6 : rd (intsOf t.ns) 6 = sdV t 6 := hsv 6 (by omega)
  have r7 : rd (intsOf t.ns) 7 = sdV t 7 := hsv 7 (by omega)
  have r8 : rd (intsOf t.ns) 8 = sdV t 8 := hsv 8 (by omega)
  simp only [spec_SchedstatTree.l0]
  rw [if_pos (by omega), if_pos (by omega), if_pos (by omega), hrd, g.s, g.n, hw, intsOf_len, r6, r7, r8]
  simp only [spec_textNode.f, spec_uintNode.f, spec_recordNode.f, Option.bind_some]
  rw [if_pos (by omega), if_pos (by omega), if_pos (by omega), if_pos (by omega)]
  rfl
theorem sd_nodes (ts : List SdT) (hl : ts.length ≤ 1000000) : Ev (fun k => nodeSched k (ts.map sdS)) (sdAll ts) := by
 have h := gen_list (fun acc i k => impl_list_pSd.l0 k (ts.map sdS) (ts.length : Int) (i : Int) ⟨#[67, 80, 85, 115]⟩ 6 false 0 0 0 ⟨#[]⟩ acc) ts.length (fun i => sdN43 (sdS (ts.getD i sdT0))) (fun acc => ((⟨#[67, 80, 85, 115]⟩ : ByteArray), (6 : Int), false, (0 : Int), (0 : Int), (0 : Nat), (⟨#[]⟩ : ByteArray), acc)) ?_ ?_ ts.length 0 [] (by omega) (by simp)
 ·rw [range_map ts (fun t => sdN43 (sdS t)) _ (fun i hi => by simp [List.getD_eq_getElem?_getD, List.getElem?_eq_getElem hi]), List.nil_append] at h
  obtain ⟨K, hK⟩ := h
  refine ⟨K, fun k hk => ?_⟩
  have h3 := hK k hk
  simp only at h3
  have h4 : impl_list_pSd.f k ⟨#[67, 80, 85, 115]⟩ (ts.map sdS) = some (⟨#[67, 80, 85, 115]⟩, 6, false, 0, 0, 0, ⟨#[]⟩, ts.map fun t => sdN43 (sdS t)) := by
   show impl_list_pSd.l0 k (ts.map sdS) ((ts.map sdS).length : Int) 0 ⟨#[67, 80, 85, 115]⟩ 6 false 0 0 0 ⟨#[]⟩ [] = _
   rw [List.length_map]
   exact h3
  show Option.map _ (impl_procfsSchedstat.f k ⟨#[]⟩ (ts.map sdS)) = _
  unfold impl_procfsSchedstat.f
  rw [h4]
  simp only [Option.bind_some, sdAll, List.map_map]
  rfl
 ·intro acc ha
  refine Ev.step (f := fun _ => some ((⟨#[67, 80, 85, 115]⟩ : ByteArray), (6 : Int), false, (0 : Int), (0 : Int), (0 : Nat), (⟨#[]⟩ : ByteArray), acc)) (fun k => ?_) (Ev.now _)
  simp only [impl_list_pSd.l0]
  rw [if_neg (by omega)]
 ·intro i hi acc ha r hr
  have hw : wrap64 ((i : Int) + 1) = ((i + 1 : Nat) : Int) := by unfold wrap64; omega
  have egd : rdOf zSd (ts.map sdS) (i : Int) = sdS ts[i] := by simp [rdOf, List.getD_eq_getElem?_getD, hi]
  have egd2 : ts.getD i sdT0 = ts[i] := by simp [List.getD_eq_getElem?_getD, List.getElem?_eq_getElem hi]
  rw [egd2] at hr
  refine Ev.step (fun k => ?_) hr
  simp only [impl_list_pSd.l0]
  rw [if_pos (by omega), if_pos (by omega), if_pos (by simp; omega), egd, hw]
  have key : impl_procfsSchedstat_1.f (sdS ts[i]) = some (⟨#[]⟩, 8, false, 0, 0, 0, ⟨#[]⟩, (sdN43 (sdS ts[i])).f7) := by
   simp only [impl_procfsSchedstat_1.f, impl_procfsSchedstatCPU.f, Option.bind_some, List.nil_append, List.cons_append, List.length_cons, List.length_nil]
   repeat rw [if_pos (by decide)]
   rfl
  rw [key]
  simp only [Option.bind_some]
  rw [if_pos (by omega)]
  rfl
theorem sd_h1ok : LnOk sdH1 := ⟨(by unfold sdH1; exact List.cons_ne_nil _ _), (by decide +kernel), (by decide)⟩
theorem sd_h2ok : LnOk sdH2 := ⟨(by unfold sdH2; exact List.cons_ne_nil _ _), (by decide +kernel), (by decide)⟩
theorem plainSchedstat (l : List S31) (hl : l.length ≤ maxLen) (hr : ∀ r ∈ l, OP.RowOk r) : ∃ k b, laws_zzFits5.f k l = some b ∧ (b = true → BackOk (fun k => spec_SchedstatPrint.f k l) (fun k => spec_SchedstatTree.f k l) (fun s n => doorSchedstat s n) l) := by
 obtain ⟨k, b, hz, hfit⟩ := zz5fF l
 refine ⟨k, b, hz, fun e => ?_⟩
 obtain ⟨_, hf⟩ := hfit e
 by_cases h1000 : 1000 < l.length
 ·exact .long h1000
 have hh1 : sdH1.length = 10 := by decide +kernel
 have hh2 : sdH2.length = 20 := by decide +kernel
 rcases gen_print (fun acc i k => spec_SchedstatPrint.l0 k (strB acc) l (l.length : Int) (i : Int)) l.length 1000 300 (by omega) (fun t => sdLn t ++ [10]) (fun i t => ∃ h : i < l.length, SdGood l[i] t)
  (fun acc => Ev.step (f := fun _ => some (strB acc, (1 : Int))) (fun k => by simp only [spec_SchedstatPrint.l0]; rw [if_neg (by omega)]) (Ev.now _))
  (fun i hi acc hacc => by
   rcases sd_one l (by omega) (fun r h => ⟨hf r h, hr r h⟩) i hi acc hacc with h | ⟨t, g, hln, h⟩
   ·exact .inl h
   ·exact .inr ⟨t, ⟨hi, g⟩, hln, h⟩) l.length 0 (sdH1 ++ 10 :: (sdH2 ++ [10])) (by omega) (by simp [hh1, hh2]) with hp0 | ⟨ts, hlen, hg, hp0⟩
 ·exact gen_no (by omega) hp0
 have hp : Ev (fun k => spec_SchedstatPrint.f k l) (strB (sdH1 ++ 10 :: (sdH2 ++ [10]) ++ ts.flatMap fun t => sdLn t ++ [10]), 1) := hp0
 have hg' : ∀ (j : Nat) (h1 : j < l.length) (h2 : j < ts.length), SdGood l[j] ts[j] := fun j h1 h2 => by
  obtain ⟨h, hc⟩ := hg j h2
  simp only [Nat.zero_add] at hc
  exact hc
 have hgt : ∀ t ∈ ts, ∃ r, SdGood r t := fun t ht => by
  obtain ⟨j, hj, rfl⟩ := List.getElem_of_mem ht
  exact ⟨_, hg' j (by omega) hj⟩
 refine gen_end (by omega) _ hp 3 (sdAll ts) (fun _ => sd_fit ts (by omega)) (fun _ => ?_) (fun hsz => ?_)
 ·rw [sd_conv]
  exact evB (F := fun k bt874 => if bt874.2 = 1 then _ else _) hp (evP rfl (sd_tree l (by omega) ts hlen hg'))
 ·have hn := sd_nodes ts (by omega)
  have e : sdH1 ++ 10 :: (sdH2 ++ [10]) ++ (ts.flatMap fun t => sdLn t ++ [10]) = sdH1 ++ 10 :: (sdH2 ++ 10 :: ts.flatMap fun t => sdLn t ++ [10]) := by simp
  rw [e] at hsz ⊢
  simp only [List.length_append, List.length_cons] at hsz
  obtain ⟨K1, hK1⟩ := ev_all (fun t K => sdL K (strB (sdLn t))) (fun t => some (sdS t)) ts (fun t ht => by
   obtain ⟨r, g⟩ := hgt t ht
   exact (sd_line r t g).2)
  obtain ⟨K2, hK2⟩ := sd_head sdH1 sd_h1
  obtain ⟨K3, hK3⟩ := sd_head sdH2 sd_h2
  have hrows : ∀ K, K1 + K2 + K3 ≤ K → rowsF (sdL K) (ts.length + 3) (strB (sdH1 ++ 10 :: (sdH2 ++ 10 :: ts.flatMap fun t => sdLn t ++ [10]))) = some (ts.map sdS) := fun K hK => by
   have h0 : rowsF (sdL K) (ts.length + 1) (strB (ts.flatMap fun t => sdLn t ++ [10])) = some (ts.map sdS) := by
    refine rows_text (sdL K) sdLn sdS ts (ts.length + 1) (by omega) (fun t ht => ?_) (by omega)
    obtain ⟨r, g⟩ := hgt t ht
    exact ⟨(sd_line r t g).1, hK1 K (by omega) t ht⟩
   have h1 := rows_cons (sdL K) (ts.length + 1) sdH2 _ sd_h2ok (by simp only [List.length_append, List.length_cons]; omega) none (ts.map sdS) (hK3 K (by omega)) h0
   exact rows_cons (sdL K) (ts.length + 2) sdH1 _ sd_h1ok (by simp only [List.length_append, List.length_cons]; omega) none (ts.map sdS) (hK2 K (by omega)) h1
  obtain ⟨K, hK⟩ := hn
  exact ⟨K1 + K2 + K3, K + (ts.length + 3), ts.map sdS, rowsF_more (by omega) (hrows _ (Nat.le_refl _)), hK _ (by omega)⟩
end Go.Proofs.YtednjmngalmdkaaGreatDoor.GPC
end
