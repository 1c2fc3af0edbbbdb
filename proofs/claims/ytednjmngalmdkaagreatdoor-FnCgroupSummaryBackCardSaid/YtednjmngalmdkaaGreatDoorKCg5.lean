/- Texts of this claim, put together: GPEx4, GivenCgF, GivenCgT, BackCgroupSummary, LwCgroupSummary, PlNode, PlBase, PlFit, PlFlt, PlNums, PlLines, PlGen, PlAtoi, PlWords, PlCgroupSummary. Conditions: as each one says. -/
import Derived.Test.YtednjmngalmdkaaGreatDoorKCg0
import Derived.Test.YtednjmngalmdkaaGreatDoorKCg1
import Derived.Test.YtednjmngalmdkaaGreatDoorKCg2
import Derived.Test.YtednjmngalmdkaaGreatDoorKCg3
import Derived.Test.YtednjmngalmdkaaGreatDoorKCg4
import Derived.Defers
import Derived.Recover
import Derived.Deep.RegionHeld3
import Derived.Test.YtednjmngalmdkaaGreatDoorProg
import Derived.Lib.Strings
import Derived.Lib.Walk
import Derived.Lib.ConvBytes
import Derived.Lib.Hide
import Derived.Laws.Strings3
import Derived.Laws.Closers25
import Derived.Laws.Closers25b
import Derived.Lib.AtoiAllMem
import Derived.Lib.AtoiErrMem
import Derived.WalkKit
import Derived.BigCall
import Derived.BigGuard
import Derived.Laws.FloatArith
import Derived.Lib.ItoaNum
import Derived.Lib.Atoi
section
namespace Go.Proofs.YtednjmngalmdkaaGreatDoor.GPC
open Go.RowKit Go.Proofs.YtednjmngalmdkaaGreatDoorW.PrintWords Go.Proofs.YtednjmngalmdkaaGreatDoorW.PrintLast Go.Proofs.YtednjmngalmdkaaGreatDoorW.PrintMore
attribute [local go_sem] max2_int min2_int max_two min_two max_three min_three max_four min_four   -- for this text's walks alone
set_option linter.unusedVariables false
set_option linter.unusedSimpArgs false

attribute [local go_sem] run_store_float
/-! ### procfs_CgroupSummary: function 132 -/
def procfs_CgroupSummary.l0 : Nat → List (S162) → Int → Int → ByteArray → Int → Bool → Int → Int → Nat → ByteArray → List (S43) → Option (ByteArray × Int × Bool × Int × Int × Nat × ByteArray × (List (S43)))
 | 0, _, _, _, _, _, _, _, _, _, _, _ => none
 | k + 1, x12, x13, x14, x231000, x231001, x231002, x231003, x231004, x231005, x231006, x231007 => if x14 < x13 then (if 0 ≤ x14 then (if x14 < (x12.length : Int) then ((impl_CgroupSummary_1_1.f ((rd_T162 x12 x14).f0) ((rd_T162 x12 x14).f1) ((rd_T162 x12 x14).f2) ((rd_T162 x12 x14).f3)).bind fun bt233 => (if x231007.length < 1466015503701 then (procfs_CgroupSummary.l0 k x12 x13 (wrap64 (x14 + 1)) x231000 x231001 x231002 x231003 x231004 x231005 x231006 (x231007 ++ [(⟨bt233.1, bt233.2.1, bt233.2.2.1, bt233.2.2.2.1, bt233.2.2.2.2.1, bt233.2.2.2.2.2.1, bt233.2.2.2.2.2.2.1, bt233.2.2.2.2.2.2.2⟩ : S43)])) else (none))) else (none)) else (none)) else (some (x231000, x231001, x231002, x231003, x231004, x231005, x231006, x231007))
def procfs_CgroupSummary.f (k : Nat) (a0 : ByteArray) (l1 : List (S162)) : Option (ByteArray × Int × Bool × Int × Int × Nat × ByteArray × (List (S43))) := procfs_CgroupSummary.l0 k l1 (l1.length : Int) 0 a0 6 false 0 0 0 (⟨#[]⟩ : ByteArray) ([] : List (S43))
theorem procfs_CgroupSummary.mono_l : ∀ k, (∀ y0 y1 y2 y3 y4 y5 y6 y7 y8 y9 y10, LeO (procfs_CgroupSummary.l0 k y0 y1 y2 y3 y4 y5 y6 y7 y8 y9 y10) (procfs_CgroupSummary.l0 (k + 1) y0 y1 y2 y3 y4 y5 y6 y7 y8 y9 y10))
 | 0 => fun _ _ _ _ _ _ _ _ _ _ _ r h => by simp [procfs_CgroupSummary.l0] at h
 | k + 1 => by
  have ih0 := procfs_CgroupSummary.mono_l k
  ·intro y0 y1 y2 y3 y4 y5 y6 y7 y8 y9 y10
   unfold procfs_CgroupSummary.l0
   repeat' first
   | (with_reducible exact ih0 _ _ _ _ _ _ _ _ _ _ _)
   | (with_reducible exact LeO.refl _)
   | (with_reducible exact LeO.none _)
   | (with_reducible refine LeO.ite ?_ ?_)
   | (with_reducible refine LeO.bind ?_ (fun _ => ?_))
   | exact ih0 _ _ _ _ _ _ _ _ _ _ _
   | exact LeO.none _
   | refine LeO.ite ?_ ?_
   | refine LeO.bind ?_ (fun _ => ?_)
theorem procfs_CgroupSummary.mono : ∀ a0 a1 k, LeO (procfs_CgroupSummary.f k a0 a1) (procfs_CgroupSummary.f (k + 1) a0 a1) := by
 intro a0 a1 k
 have ih0 := procfs_CgroupSummary.mono_l k
 unfold procfs_CgroupSummary.f
 repeat' first
   | (with_reducible exact ih0 _ _ _ _ _ _ _ _ _ _ _)
   | (with_reducible exact LeO.refl _)
   | (with_reducible exact LeO.none _)
   | (with_reducible refine LeO.ite ?_ ?_)
   | (with_reducible refine LeO.bind ?_ (fun _ => ?_))
   | exact ih0 _ _ _ _ _ _ _ _ _ _ _
   | exact LeO.none _
   | refine LeO.ite ?_ ?_
   | refine LeO.bind ?_ (fun _ => ?_)
def procfs_CgroupSummary.T5 : Bool × List (List Nat × List Nat) := (true, [([], []), ([0], [0]), ([], []), ([], []), ([2, 3], [2, 3]), ([4], [4]), ([1, 5, 4], [1, 5]), ([0, 1, 2, 3, 4, 5, 6], []), ([7, 6, 6, 0, 1, 2, 3, 4, 5, 6], [6, 7])])
def procfs_CgroupSummary.B5 : List Nat := [0, 1, 0, 0, 12, 28, 63, 127, 255]
theorem procfs_CgroupSummary.tab5 : rtab .any (opsOf Tryz.f132 5) = procfs_CgroupSummary.T5 := by kernel_rfl
theorem procfs_CgroupSummary.bits5 : waitsOk procfs_CgroupSummary.T5.2 procfs_CgroupSummary.B5 = true := by kernel_rfl
set_option maxHeartbeats 8000000 in
set_option maxRecDepth 100000 in
theorem procfs_CgroupSummary.calls (k : Nat) (a0 : ByteArray) (A1 : Option Addr) (c1 : Nat) (l1 : List (S162)) (r1 : ByteArray) (r2 : Int) (r3 : Bool) (r4 : Int) (r5 : Int) (r6 : Nat) (r7 : ByteArray) (r8 : List (S43)) (w : World) (hr1 : Kd.C k162 w A1 l1.length l1) (hc1 : l1.length ≤ c1) (h : procfs_CgroupSummary.f k a0 l1 = some (r1, r2, r3, r4, r5, r6, r7, r8)) :
  Calls Tryz.prog 132 #[.string a0, .slice A1 l1.length c1, .func (.func 133) #[] #[]] w fun e w' => ∃ v7_ : Value, e = .returned (.agg #[.string r1, .int .i64 r2, .bool r3, .int .i64 r4, .int .u64 r5, .float .f64 r6, .string r7, v7_]) ∧ Kd.R k43 43 w' w.heap.size (fun _ => True) v7_ r8 ∧ Below w.heap.size w w' := by
 have hu43 := Tryz.underlying43
 have hu162 := Tryz.underlying162
 have HR1 := Aside0.mk hr1
 have HC1 := Aside0.mk hc1
 clear hr1 hc1
 have HB := Aside0.mk (Below.refl w.heap.size w)
 have H : (procfs_CgroupSummary.l0 k l1 (l1.length : Int) 0 a0 6 false 0 0 0 (⟨#[]⟩ : ByteArray) ([] : List (S43))) = some (r1, r2, r3, r4, r5, r6, r7, r8) := h
 clear h
 have H' := Aside0.mk H
 clear H
 go_enter Tryz.func132, Tryz.ntmps132
 go_wp2_with (first | ((with_reducible refine gate_dst (N := 6) rfl ?_); refine box_event ?hg (N := 6) ?hd (cs := #[.string (⟨#[]⟩ : ByteArray), .int .i64 0, .bool false, .int .i64 0, .int .u64 0, .float .f64 0, .string (⟨#[]⟩ : ByteArray), .slice none 0 0]) (t := 43) ?hr ?_; (case hd => rfl); (case hg => rfl); (case hr => first | (go_simp; done) | (go_simp; rfl)); intro gb229 hg w3 hbox hb; have n0_ := Aside0.mk (below_step (by repeat (first | (with_reducible first | exact HB.out | apply below_alloc | apply pw_below_drewN | apply below_drew1) | exact HB.out)) hb); have n1_ := Aside0.mk (hbox); have n2_ := Aside0.mk ((by rw [hg]; exact (below_size (by repeat (first | (with_reducible first | exact HB.out | apply below_alloc | apply pw_below_drewN | apply below_drew1) | exact HB.out))) : w.heap.size ≤ gb229)); have n3_ := Aside0.mk ((by rw [hg]; exact (below_size (by repeat (first | (with_reducible first | exact HB.out | apply below_alloc | apply pw_below_drewN | apply below_drew1) | exact HB.out))) : w.heap.size ≤ gb229)); clear HB; have HB := n0_; have BK229 := n1_; have GW229 := n2_; have GE229 := n3_; clear n0_ n1_ n2_ n3_; clear hb hbox hg) | ((with_reducible refine gate_dst (N := 7) rfl ?_); refine box_event ?hg (N := 7) ?hd (cs := #[.string (⟨#[]⟩ : ByteArray), .int .i64 0, .bool false, .int .i64 0, .int .u64 0, .float .f64 0, .string (⟨#[]⟩ : ByteArray), .slice none 0 0]) (t := 43) ?hr ?_; (case hd => rfl); (case hg => rfl); (case hr => first | (go_simp; done) | (go_simp; rfl)); intro gb230 hg w4 hbox hb; have n0_ := Aside0.mk (blk_below (g := gb229) (o := .cells #[.string (⟨#[]⟩ : ByteArray), .int .i64 0, .bool false, .int .i64 0, .int .u64 0, .float .f64 0, .string (⟨#[]⟩ : ByteArray), .slice none 0 0] 43 (0, 0)) (by (with_reducible repeat (first | refine blk_drewN ?_ _ | refine blk_drew ?_ | refine blk_alloc ?_ _)); exact BK229.out) hb); have n1_ := Aside0.mk (below_step (by repeat (first | (with_reducible first | exact HB.out | apply below_alloc | apply pw_below_drewN | apply below_drew1 | refine below_set ?_ GE229.out) | exact HB.out)) hb); have n2_ := Aside0.mk (hbox); have n3_ := Aside0.mk ((by rw [hg]; exact (below_size (by repeat (first | (with_reducible first | exact HB.out | apply below_alloc | apply pw_below_drewN | apply below_drew1 | refine below_set ?_ GE229.out) | exact HB.out))) : w.heap.size ≤ gb230)); have n4_ := Aside0.mk ((by rw [hg]; exact (below_size (by repeat (first | (with_reducible first | exact HB.out | apply below_alloc | apply pw_below_drewN | apply below_drew1 | refine below_set ?_ GE229.out) | exact HB.out))) : w.heap.size ≤ gb230)); have n5_ := Aside0.mk ((by rw [hg]; exact Nat.ne_of_lt (blk_lt (g := gb229) (o := .cells #[.string (⟨#[]⟩ : ByteArray), .int .i64 0, .bool false, .int .i64 0, .int .u64 0, .float .f64 0, .string (⟨#[]⟩ : ByteArray), .slice none 0 0] 43 (0, 0)) (by (with_reducible repeat (first | refine blk_drewN ?_ _ | refine blk_drew ?_ | refine blk_alloc ?_ _)); exact BK229.out)) : gb229 ≠ gb230)); have n6_ := Aside0.mk ((by rw [hg]; exact Nat.ne_of_gt (blk_lt (g := gb229) (o := .cells #[.string (⟨#[]⟩ : ByteArray), .int .i64 0, .bool false, .int .i64 0, .int .u64 0, .float .f64 0, .string (⟨#[]⟩ : ByteArray), .slice none 0 0] 43 (0, 0)) (by (with_reducible repeat (first | refine blk_drewN ?_ _ | refine blk_drew ?_ | refine blk_alloc ?_ _)); exact BK229.out)) : gb230 ≠ gb229)); clear BK229; clear HB; have BK229 := n0_; have HB := n1_; have BK230 := n2_; have GW230 := n3_; have GE230 := n4_; have NB229_230 := n5_; have NB230_229 := n6_; clear n0_ n1_ n2_ n3_ n4_ n5_ n6_; clear hb hbox hg; have hnb5 := NB230_229.out; have hnc5 := NB229_230.out; have hcz6_0 : w4.cell? ⟨gb230, 0, none⟩ = some (.string (⟨#[]⟩ : ByteArray)) := (blk_cell BK230.out 0).trans rfl; have hcz6_1 : w4.cell? ⟨gb230, 1, none⟩ = some (.int .i64 0) := (blk_cell BK230.out 1).trans rfl; have hcz6_2 : w4.cell? ⟨gb230, 2, none⟩ = some (.bool false) := (blk_cell BK230.out 2).trans rfl; have hcz6_3 : w4.cell? ⟨gb230, 3, none⟩ = some (.int .i64 0) := (blk_cell BK230.out 3).trans rfl; have hcz6_4 : w4.cell? ⟨gb230, 4, none⟩ = some (.int .u64 0) := (blk_cell BK230.out 4).trans rfl; have hcz6_5 : w4.cell? ⟨gb230, 5, none⟩ = some (.float .f64 0) := (blk_cell BK230.out 5).trans rfl; have hcz6_6 : w4.cell? ⟨gb230, 6, none⟩ = some (.string (⟨#[]⟩ : ByteArray)) := (blk_cell BK230.out 6).trans rfl; have hcz6_7 : w4.cell? ⟨gb230, 7, none⟩ = some (.slice none 0 0) := (blk_cell BK230.out 7).trans rfl; have hfz6_0 := blk_frozen BK230.out 0; have hfz6_1 := blk_frozen BK230.out 1; have hfz6_2 := blk_frozen BK230.out 2; have hfz6_3 := blk_frozen BK230.out 3; have hfz6_4 := blk_frozen BK230.out 4; have hfz6_5 := blk_frozen BK230.out 5; have hfz6_6 := blk_frozen BK230.out 6; have hfz6_7 := blk_frozen BK230.out 7))
 go_loopg [14] k (fun kq v14 w' => ∃ (x14_1 : Int) (x231007_1 : List (S43)) (u231007 : Value), v14 = .int .i64 x14_1 ∧ Aside0 (procfs_CgroupSummary.l0 kq l1 (l1.length : Int) x14_1 a0 6 false 0 0 0 (⟨#[]⟩ : ByteArray) x231007_1 = some (r1, r2, r3, r4, r5, r6, r7, r8)) ∧ Aside0 (kq ≤ k) ∧ Aside0 (Kd.R k43 43 w' w.heap.size (fun k_ => k_ ≠ gb229 ∧ k_ ≠ gb230) u231007 x231007_1) ∧ Aside0 (w'.heap[gb229]? = some (.cells #[.string (⟨#[]⟩ : ByteArray), .int .i64 0, .bool false, .int .i64 0, .int .u64 0, .float .f64 0, .string (⟨#[]⟩ : ByteArray), (.slice none 0 0)] 43 (0, 0))) ∧ Aside0 (w'.heap[gb230]? = some (.cells #[.string a0, .int .i64 6, .bool false, .int .i64 0, .int .u64 0, .float .f64 0, .string (⟨#[]⟩ : ByteArray), u231007] 43 (0, 0))) ∧ Aside0 (Below w.heap.size w w'))
 case atStart => exact ⟨(0), (([] : List (S43))), (.slice none 0 0), (by first | rfl | (simp; done) | (simp [*]; done)), H', ⟨Nat.le_refl _⟩, ⟨by first | exact Kd.R_nil _ _ _ _ _ | exact Kd.N_nil _ _ _ _ _ | exact Kd.V_nil _ _ _ _ _ | exact Kd.Q_nil _ _ _ _ _ | exact Kd.S_nil _ _ _ _ _⟩, ⟨by (with_reducible repeat (first | refine blk_drewN ?_ _ | refine blk_drew ?_ | refine blk_alloc ?_ _)); refine blk_far ?_ NB229_230.out _; (with_reducible repeat (first | refine blk_drewN ?_ _ | refine blk_drew ?_ | refine blk_alloc ?_ _)); refine blk_far ?_ NB229_230.out _; (with_reducible repeat (first | refine blk_drewN ?_ _ | refine blk_drew ?_ | refine blk_alloc ?_ _)); refine blk_far ?_ NB229_230.out _; (with_reducible repeat (first | refine blk_drewN ?_ _ | refine blk_drew ?_ | refine blk_alloc ?_ _)); refine blk_far ?_ NB229_230.out _; (with_reducible repeat (first | refine blk_drewN ?_ _ | refine blk_drew ?_ | refine blk_alloc ?_ _)); refine blk_far ?_ NB229_230.out _; (with_reducible repeat (first | refine blk_drewN ?_ _ | refine blk_drew ?_ | refine blk_alloc ?_ _)); refine blk_far ?_ NB229_230.out _; (with_reducible repeat (first | refine blk_drewN ?_ _ | refine blk_drew ?_ | refine blk_alloc ?_ _)); refine blk_far ?_ NB229_230.out _; (with_reducible repeat (first | refine blk_drewN ?_ _ | refine blk_drew ?_ | refine blk_alloc ?_ _)); refine blk_far ?_ NB229_230.out _; (with_reducible repeat (first | refine blk_drewN ?_ _ | refine blk_drew ?_ | refine blk_alloc ?_ _)); exact BK229.out⟩, ⟨by (with_reducible repeat (first | refine blk_drewN ?_ _ | refine blk_drew ?_ | refine blk_alloc ?_ _)); refine blk_put (cs := #[.string a0, .int .i64 6, .bool false, .int .i64 0, .int .u64 0, .float .f64 0, .string (⟨#[]⟩ : ByteArray), .slice none 0 0]) ?_ 7 _ rfl; (with_reducible repeat (first | refine blk_drewN ?_ _ | refine blk_drew ?_ | refine blk_alloc ?_ _)); refine blk_put (cs := #[.string a0, .int .i64 6, .bool false, .int .i64 0, .int .u64 0, .float .f64 0, .string (⟨#[]⟩ : ByteArray), .slice none 0 0]) ?_ 6 _ rfl; (with_reducible repeat (first | refine blk_drewN ?_ _ | refine blk_drew ?_ | refine blk_alloc ?_ _)); refine blk_put (cs := #[.string a0, .int .i64 6, .bool false, .int .i64 0, .int .u64 0, .float .f64 0, .string (⟨#[]⟩ : ByteArray), .slice none 0 0]) ?_ 5 _ rfl; (with_reducible repeat (first | refine blk_drewN ?_ _ | refine blk_drew ?_ | refine blk_alloc ?_ _)); refine blk_put (cs := #[.string a0, .int .i64 6, .bool false, .int .i64 0, .int .u64 0, .float .f64 0, .string (⟨#[]⟩ : ByteArray), .slice none 0 0]) ?_ 4 _ rfl; (with_reducible repeat (first | refine blk_drewN ?_ _ | refine blk_drew ?_ | refine blk_alloc ?_ _)); refine blk_put (cs := #[.string a0, .int .i64 6, .bool false, .int .i64 0, .int .u64 0, .float .f64 0, .string (⟨#[]⟩ : ByteArray), .slice none 0 0]) ?_ 3 _ rfl; (with_reducible repeat (first | refine blk_drewN ?_ _ | refine blk_drew ?_ | refine blk_alloc ?_ _)); refine blk_put (cs := #[.string a0, .int .i64 6, .bool false, .int .i64 0, .int .u64 0, .float .f64 0, .string (⟨#[]⟩ : ByteArray), .slice none 0 0]) ?_ 2 _ rfl; (with_reducible repeat (first | refine blk_drewN ?_ _ | refine blk_drew ?_ | refine blk_alloc ?_ _)); refine blk_put (cs := #[.string a0, .int .i64 0, .bool false, .int .i64 0, .int .u64 0, .float .f64 0, .string (⟨#[]⟩ : ByteArray), .slice none 0 0]) ?_ 1 _ rfl; (with_reducible repeat (first | refine blk_drewN ?_ _ | refine blk_drew ?_ | refine blk_alloc ?_ _)); refine blk_put (cs := #[.string (⟨#[]⟩ : ByteArray), .int .i64 0, .bool false, .int .i64 0, .int .u64 0, .float .f64 0, .string (⟨#[]⟩ : ByteArray), .slice none 0 0]) ?_ 0 _ rfl; (with_reducible repeat (first | refine blk_drewN ?_ _ | refine blk_drew ?_ | refine blk_alloc ?_ _)); exact BK230.out⟩, ⟨by repeat (first | (with_reducible first | exact HB.out | apply below_alloc | apply pw_below_drewN | apply below_drew1 | refine below_set ?_ GE229.out | refine below_set ?_ GE230.out) | exact HB.out)⟩⟩
 case round =>
  clear H'
  try clear c1
  try clear p2
  try clear c5
  try clear hcz6_0
  try clear hcz6_1
  try clear hcz6_2
  try clear hcz6_3
  try clear hcz6_4
  try clear hcz6_5
  try clear hcz6_6
  try clear hcz6_7
  try clear hfz6_0
  try clear hfz6_1
  try clear hfz6_2
  try clear hfz6_3
  try clear hfz6_4
  try clear hfz6_5
  try clear hfz6_6
  try clear hfz6_7
  obtain ⟨x14_1, x231007_1, u231007, rfl, HA, HK1, HO_231007, BK229, BK230, HB⟩ := hrel
  cases gk with
  | zero => exact absurd HA.out (by simp [procfs_CgroupSummary.l0])
  | succ k1 =>
   have H := HA.out
   clear HA
   simp only [procfs_CgroupSummary.l0] at H
   by_cases c7 : x14_1 < (l1.length : Int)
   ·rw [if_pos c7] at H
    have c7b0 : decide (x14_1 < (l1.length : Int)) = true := decide_eq_true c7
    clear c7
    replace H := guard_inv H
    obtain ⟨c8, H⟩ := H
    have c8b0 : decide (0 ≤ x14_1) = true := decide_eq_true c8
    clear c8
    replace H := guard_inv H
    obtain ⟨c9, H⟩ := H
    have c9b0 : decide (x14_1 < (l1.length : Int)) = true := decide_eq_true c9
    clear c9
    replace H := Option.bind_eq_some_iff.mp H
    obtain ⟨⟨t233, t234, t235, t236, t237, t238, t239, t240⟩, A100, H⟩ := H
    replace H : (if x231007_1.length < 1466015503701 then (procfs_CgroupSummary.l0 k1 l1 (l1.length : Int) (wrap64 (x14_1 + 1)) a0 6 false 0 0 0 (⟨#[]⟩ : ByteArray) (x231007_1 ++ [(⟨t233, t234, t235, t236, t237, t238, t239, t240⟩ : S43)])) else (none)) = some (r1, r2, r3, r4, r5, r6, r7, r8) := H
    have A10 := Aside0.mk A100
    clear A100
    replace H := guard_inv H
    obtain ⟨c11, H⟩ := H
    have LMc11 := Aside0.mk c11
    clear c11
    obtain ⟨y243, hy243⟩ : ∃ y_ : List (S43), y_ = (x231007_1 ++ [(⟨t233, t234, t235, t236, t237, t238, t239, t240⟩ : S43)]) := ⟨_, rfl⟩
    replace H : (procfs_CgroupSummary.l0 k1 l1 (l1.length : Int) (wrap64 (x14_1 + 1)) a0 6 false 0 0 0 (⟨#[]⟩ : ByteArray) y243) = some (r1, r2, r3, r4, r5, r6, r7, r8) := by first | (rw [hy243]; with_reducible exact H) | (have H2_ := (Option.bind_some _ _).symm.trans H; rw [hy243]; with_reducible exact H2_) | (have H2_ := (Option.bind_some _ _).symm.trans H; with_reducible exact H2_) | with_reducible exact H | (rw [hy243]; exact H) | exact H
    have Ny243 := Aside0.mk hy243
    clear hy243
    have H' := Aside0.mk H
    clear H
    have p231 : 0 ≤ (x14_1 : Int) := of_decide_eq_true (by first | (with_reducible assumption) | assumption)
    have q231 : x14_1 < (l1.length : Int) := of_decide_eq_true (by first | (with_reducible assumption) | assumption)
    obtain ⟨ad231, e231, hx231_0, hx231_1, hx231_2, hx231_3⟩ := at_T162 HR1.out x14_1 p231 q231
    cases e231
    replace hx231_0 := (HB.out.cell (World.block_lt_of_cell? w _ hx231_0)).trans hx231_0
    replace hx231_1 := (HB.out.cell (World.block_lt_of_cell? w _ hx231_1)).trans hx231_1
    replace hx231_2 := (HB.out.cell (World.block_lt_of_cell? w _ hx231_2)).trans hx231_2
    replace hx231_3 := (HB.out.cell (World.block_lt_of_cell? w _ hx231_3)).trans hx231_3
    replace p231 := eq_true p231
    replace q231 := eq_true q231
    try go_wp2_with (first | ((with_reducible refine gate_dst (N := 9) rfl ?_); refine box_event ?hg (N := 9) ?hd (cs := #[.string (⟨#[]⟩ : ByteArray), .int .i64 0, .int .i64 0, .int .i64 0]) (t := 162) ?hr ?_; (case hd => rfl); (case hg => rfl); (case hr => first | (go_simp; done) | (go_simp; rfl)); intro gb232 hg w12 hbox hb; have n0_ := Aside0.mk (Kd.R_below (by (with_reducible repeat (first | apply Kd.R_alloc | apply Kd.R_drewN | apply Kd.R_drew)); exact HO_231007.out) hb); have n1_ := Aside0.mk (blk_below (g := gb229) (o := .cells #[.string (⟨#[]⟩ : ByteArray), .int .i64 0, .bool false, .int .i64 0, .int .u64 0, .float .f64 0, .string (⟨#[]⟩ : ByteArray), .slice none 0 0] 43 (0, 0)) (by (with_reducible repeat (first | refine blk_drewN ?_ _ | refine blk_drew ?_ | refine blk_alloc ?_ _)); exact BK229.out) hb); have n2_ := Aside0.mk (blk_below (g := gb230) (o := .cells #[.string a0, .int .i64 6, .bool false, .int .i64 0, .int .u64 0, .float .f64 0, .string (⟨#[]⟩ : ByteArray), u231007] 43 (0, 0)) (by (with_reducible repeat (first | refine blk_drewN ?_ _ | refine blk_drew ?_ | refine blk_alloc ?_ _)); exact BK230.out) hb); have n3_ := Aside0.mk (below_step (by repeat (first | (with_reducible first | exact HB.out | apply below_alloc | apply pw_below_drewN | apply below_drew1 | refine below_set ?_ GE229.out | refine below_set ?_ GE230.out) | exact HB.out)) hb); have n4_ := Aside0.mk (hbox); have n5_ := Aside0.mk ((by rw [hg]; exact (below_size (by repeat (first | (with_reducible first | exact HB.out | apply below_alloc | apply pw_below_drewN | apply below_drew1 | refine below_set ?_ GE229.out | refine below_set ?_ GE230.out) | exact HB.out))) : w.heap.size ≤ gb232)); have n6_ := Aside0.mk ((by rw [hg]; exact (below_size (by repeat (first | (with_reducible first | exact HB.out | apply below_alloc | apply pw_below_drewN | apply below_drew1 | refine below_set ?_ GE229.out | refine below_set ?_ GE230.out) | exact HB.out))) : w.heap.size ≤ gb232)); have n7_ := Aside0.mk ((by rw [hg]; exact Nat.ne_of_lt (blk_lt (g := gb229) (o := .cells #[.string (⟨#[]⟩ : ByteArray), .int .i64 0, .bool false, .int .i64 0, .int .u64 0, .float .f64 0, .string (⟨#[]⟩ : ByteArray), .slice none 0 0] 43 (0, 0)) (by (with_reducible repeat (first | refine blk_drewN ?_ _ | refine blk_drew ?_ | refine blk_alloc ?_ _)); exact BK229.out)) : gb229 ≠ gb232)); have n8_ := Aside0.mk ((by rw [hg]; exact Nat.ne_of_gt (blk_lt (g := gb229) (o := .cells #[.string (⟨#[]⟩ : ByteArray), .int .i64 0, .bool false, .int .i64 0, .int .u64 0, .float .f64 0, .string (⟨#[]⟩ : ByteArray), .slice none 0 0] 43 (0, 0)) (by (with_reducible repeat (first | refine blk_drewN ?_ _ | refine blk_drew ?_ | refine blk_alloc ?_ _)); exact BK229.out)) : gb232 ≠ gb229)); have n9_ := Aside0.mk ((by rw [hg]; exact Nat.ne_of_lt (blk_lt (g := gb230) (o := .cells #[.string a0, .int .i64 6, .bool false, .int .i64 0, .int .u64 0, .float .f64 0, .string (⟨#[]⟩ : ByteArray), u231007] 43 (0, 0)) (by (with_reducible repeat (first | refine blk_drewN ?_ _ | refine blk_drew ?_ | refine blk_alloc ?_ _)); exact BK230.out)) : gb230 ≠ gb232)); have n10_ := Aside0.mk ((by rw [hg]; exact Nat.ne_of_gt (blk_lt (g := gb230) (o := .cells #[.string a0, .int .i64 6, .bool false, .int .i64 0, .int .u64 0, .float .f64 0, .string (⟨#[]⟩ : ByteArray), u231007] 43 (0, 0)) (by (with_reducible repeat (first | refine blk_drewN ?_ _ | refine blk_drew ?_ | refine blk_alloc ?_ _)); exact BK230.out)) : gb232 ≠ gb230)); clear HO_231007; clear BK229; clear BK230; clear HB; have HO_231007 := n0_; have BK229 := n1_; have BK230 := n2_; have HB := n3_; have BK232 := n4_; have GW232 := n5_; have GE232 := n6_; have NB229_232 := n7_; have NB232_229 := n8_; have NB230_232 := n9_; have NB232_230 := n10_; clear n0_ n1_ n2_ n3_ n4_ n5_ n6_ n7_ n8_ n9_ n10_; clear hb hbox hg; have hnb13 := NB232_229.out; have hnc13 := NB229_232.out; have hnb14 := NB232_230.out; have hnc14 := NB230_232.out; have hcz15_0 : w12.cell? ⟨gb232, 0, none⟩ = some (.string (⟨#[]⟩ : ByteArray)) := (blk_cell BK232.out 0).trans rfl; have hcz15_1 : w12.cell? ⟨gb232, 1, none⟩ = some (.int .i64 0) := (blk_cell BK232.out 1).trans rfl; have hcz15_2 : w12.cell? ⟨gb232, 2, none⟩ = some (.int .i64 0) := (blk_cell BK232.out 2).trans rfl; have hcz15_3 : w12.cell? ⟨gb232, 3, none⟩ = some (.int .i64 0) := (blk_cell BK232.out 3).trans rfl; have hfz15_0 := blk_frozen BK232.out 0; have hfz15_1 := blk_frozen BK232.out 1; have hfz15_2 := blk_frozen BK232.out 2; have hfz15_3 := blk_frozen BK232.out 3))
    have n0_ : Aside0 (Kd.R k43 43 ((((w12.setCell ⟨gb232, 0, none⟩ (.string ((rd_T162 l1 x14_1).f0))).setCell ⟨gb232, 1, none⟩ (.int .i64 ((rd_T162 l1 x14_1).f1))).setCell ⟨gb232, 2, none⟩ (.int .i64 ((rd_T162 l1 x14_1).f2))).setCell ⟨gb232, 3, none⟩ (.int .i64 ((rd_T162 l1 x14_1).f3))) w.heap.size (fun k_ => k_ ≠ gb229 ∧ k_ ≠ gb230) u231007 x231007_1) := ⟨by (with_reducible repeat (first | apply Kd.R_alloc | apply Kd.R_drewN | apply Kd.R_drew)); exact Kd.R_mono (Kd.R_far (p := ⟨gb232, 3, none⟩) (Kd.R_far (p := ⟨gb232, 2, none⟩) (Kd.R_far (p := ⟨gb232, 1, none⟩) (Kd.R_far (p := ⟨gb232, 0, none⟩) (Kd.R_types HO_231007.out BK232.out (by decide)) (fun _ hk => hk.2) (.string ((rd_T162 l1 x14_1).f0))) (fun _ hk => hk.2) (.int .i64 ((rd_T162 l1 x14_1).f1))) (fun _ hk => hk.2) (.int .i64 ((rd_T162 l1 x14_1).f2))) (fun _ hk => hk.2) (.int .i64 ((rd_T162 l1 x14_1).f3))) (fun _ hk => ⟨hk.1.1, hk.1.2⟩)⟩
    have n1_ : Aside0 (((((w12.setCell ⟨gb232, 0, none⟩ (.string ((rd_T162 l1 x14_1).f0))).setCell ⟨gb232, 1, none⟩ (.int .i64 ((rd_T162 l1 x14_1).f1))).setCell ⟨gb232, 2, none⟩ (.int .i64 ((rd_T162 l1 x14_1).f2))).setCell ⟨gb232, 3, none⟩ (.int .i64 ((rd_T162 l1 x14_1).f3))).heap[gb229]? = some (.cells #[.string (⟨#[]⟩ : ByteArray), .int .i64 0, .bool false, .int .i64 0, .int .u64 0, .float .f64 0, .string (⟨#[]⟩ : ByteArray), .slice none 0 0] 43 (0, 0))) := ⟨by (with_reducible repeat (first | refine blk_drewN ?_ _ | refine blk_drew ?_ | refine blk_alloc ?_ _)); refine blk_far ?_ NB229_232.out _; (with_reducible repeat (first | refine blk_drewN ?_ _ | refine blk_drew ?_ | refine blk_alloc ?_ _)); refine blk_far ?_ NB229_232.out _; (with_reducible repeat (first | refine blk_drewN ?_ _ | refine blk_drew ?_ | refine blk_alloc ?_ _)); refine blk_far ?_ NB229_232.out _; (with_reducible repeat (first | refine blk_drewN ?_ _ | refine blk_drew ?_ | refine blk_alloc ?_ _)); refine blk_far ?_ NB229_232.out _; (with_reducible repeat (first | refine blk_drewN ?_ _ | refine blk_drew ?_ | refine blk_alloc ?_ _)); exact BK229.out⟩
    have n2_ : Aside0 (((((w12.setCell ⟨gb232, 0, none⟩ (.string ((rd_T162 l1 x14_1).f0))).setCell ⟨gb232, 1, none⟩ (.int .i64 ((rd_T162 l1 x14_1).f1))).setCell ⟨gb232, 2, none⟩ (.int .i64 ((rd_T162 l1 x14_1).f2))).setCell ⟨gb232, 3, none⟩ (.int .i64 ((rd_T162 l1 x14_1).f3))).heap[gb230]? = some (.cells #[.string a0, .int .i64 6, .bool false, .int .i64 0, .int .u64 0, .float .f64 0, .string (⟨#[]⟩ : ByteArray), u231007] 43 (0, 0))) := ⟨by (with_reducible repeat (first | refine blk_drewN ?_ _ | refine blk_drew ?_ | refine blk_alloc ?_ _)); refine blk_far ?_ NB230_232.out _; (with_reducible repeat (first | refine blk_drewN ?_ _ | refine blk_drew ?_ | refine blk_alloc ?_ _)); refine blk_far ?_ NB230_232.out _; (with_reducible repeat (first | refine blk_drewN ?_ _ | refine blk_drew ?_ | refine blk_alloc ?_ _)); refine blk_far ?_ NB230_232.out _; (with_reducible repeat (first | refine blk_drewN ?_ _ | refine blk_drew ?_ | refine blk_alloc ?_ _)); refine blk_far ?_ NB230_232.out _; (with_reducible repeat (first | refine blk_drewN ?_ _ | refine blk_drew ?_ | refine blk_alloc ?_ _)); exact BK230.out⟩
    have n3_ : Aside0 (((((w12.setCell ⟨gb232, 0, none⟩ (.string ((rd_T162 l1 x14_1).f0))).setCell ⟨gb232, 1, none⟩ (.int .i64 ((rd_T162 l1 x14_1).f1))).setCell ⟨gb232, 2, none⟩ (.int .i64 ((rd_T162 l1 x14_1).f2))).setCell ⟨gb232, 3, none⟩ (.int .i64 ((rd_T162 l1 x14_1).f3))).heap[gb232]? = some (.cells #[.string ((rd_T162 l1 x14_1).f0), .int .i64 ((rd_T162 l1 x14_1).f1), .int .i64 ((rd_T162 l1 x14_1).f2), .int .i64 ((rd_T162 l1 x14_1).f3)] 162 (0, 0))) := ⟨by (with_reducible repeat (first | refine blk_drewN ?_ _ | refine blk_drew ?_ | refine blk_alloc ?_ _)); refine blk_put (cs := #[.string ((rd_T162 l1 x14_1).f0), .int .i64 ((rd_T162 l1 x14_1).f1), .int .i64 ((rd_T162 l1 x14_1).f2), .int .i64 0]) ?_ 3 _ rfl; (with_reducible repeat (first | refine blk_drewN ?_ _ | refine blk_drew ?_ | refine blk_alloc ?_ _)); refine blk_put (cs := #[.string ((rd_T162 l1 x14_1).f0), .int .i64 ((rd_T162 l1 x14_1).f1), .int .i64 0, .int .i64 0]) ?_ 2 _ rfl; (with_reducible repeat (first | refine blk_drewN ?_ _ | refine blk_drew ?_ | refine blk_alloc ?_ _)); refine blk_put (cs := #[.string ((rd_T162 l1 x14_1).f0), .int .i64 0, .int .i64 0, .int .i64 0]) ?_ 1 _ rfl; (with_reducible repeat (first | refine blk_drewN ?_ _ | refine blk_drew ?_ | refine blk_alloc ?_ _)); refine blk_put (cs := #[.string (⟨#[]⟩ : ByteArray), .int .i64 0, .int .i64 0, .int .i64 0]) ?_ 0 _ rfl; (with_reducible repeat (first | refine blk_drewN ?_ _ | refine blk_drew ?_ | refine blk_alloc ?_ _)); exact BK232.out⟩
    have n4_ : Aside0 (Below w.heap.size w ((((w12.setCell ⟨gb232, 0, none⟩ (.string ((rd_T162 l1 x14_1).f0))).setCell ⟨gb232, 1, none⟩ (.int .i64 ((rd_T162 l1 x14_1).f1))).setCell ⟨gb232, 2, none⟩ (.int .i64 ((rd_T162 l1 x14_1).f2))).setCell ⟨gb232, 3, none⟩ (.int .i64 ((rd_T162 l1 x14_1).f3)))) := ⟨by repeat (first | (with_reducible first | exact HB.out | apply below_alloc | apply pw_below_drewN | apply below_drew1 | refine below_set ?_ GE229.out | refine below_set ?_ GE230.out | refine below_set ?_ GE232.out) | exact HB.out)⟩
    (try clear HO_231007)
    (try clear BK229)
    (try clear BK230)
    (try clear BK232)
    (try clear HB)
    generalize ((((w12.setCell ⟨gb232, 0, none⟩ (.string ((rd_T162 l1 x14_1).f0))).setCell ⟨gb232, 1, none⟩ (.int .i64 ((rd_T162 l1 x14_1).f1))).setCell ⟨gb232, 2, none⟩ (.int .i64 ((rd_T162 l1 x14_1).f2))).setCell ⟨gb232, 3, none⟩ (.int .i64 ((rd_T162 l1 x14_1).f3))) = w16 at n0_ n1_ n2_ n3_ n4_ ⊢
    have HO_231007 := n0_
    have BK229 := n1_
    have BK230 := n2_
    have BK232 := n3_
    have HB := n4_
    clear n0_ n1_ n2_ n3_ n4_
    have n0_ := Aside0.mk (Kd.R_drew HO_231007.out)
    have n1_ := Aside0.mk (blk_drew BK229.out)
    have n2_ := Aside0.mk (blk_drew BK230.out)
    have n3_ := Aside0.mk (blk_drew BK232.out)
    have n4_ := Aside0.mk (below_drew1 HB.out)
    clear HO_231007
    clear BK229
    clear BK230
    clear BK232
    clear HB
    have HO_231007 := n0_
    have BK229 := n1_
    have BK230 := n2_
    have BK232 := n3_
    have HB := n4_
    clear n0_ n1_ n2_ n3_ n4_
    refine start_ (n := 9) (S := fun w' => w'.cell? ⟨gb230, 0, none⟩ = some (.string a0) ∧ w'.cell? ⟨gb230, 1, none⟩ = some (.int .i64 6) ∧ w'.cell? ⟨gb230, 2, none⟩ = some (.bool false) ∧ w'.cell? ⟨gb230, 3, none⟩ = some (.int .i64 0) ∧ w'.cell? ⟨gb230, 4, none⟩ = some (.int .u64 0) ∧ w'.cell? ⟨gb230, 5, none⟩ = some (.float .f64 0) ∧ w'.cell? ⟨gb230, 6, none⟩ = some (.string (⟨#[]⟩ : ByteArray)) ∧ w'.cell? ⟨gb230, 7, none⟩ = some (u231007) ∧ w'.cell? ⟨gb232, 0, none⟩ = some (.string ((rd_T162 l1 x14_1).f0)) ∧ w'.cell? ⟨gb232, 1, none⟩ = some (.int .i64 ((rd_T162 l1 x14_1).f1)) ∧ w'.cell? ⟨gb232, 2, none⟩ = some (.int .i64 ((rd_T162 l1 x14_1).f2)) ∧ w'.cell? ⟨gb232, 3, none⟩ = some (.int .i64 ((rd_T162 l1 x14_1).f3))) (ds := [8]) (bb [0, 9]) (by kernel_rfl) rfl rfl ⟨(blk_cell BK230.out 0).trans rfl, (blk_cell BK230.out 1).trans rfl, (blk_cell BK230.out 2).trans rfl, (blk_cell BK230.out 3).trans rfl, (blk_cell BK230.out 4).trans rfl, (blk_cell BK230.out 5).trans rfl, (blk_cell BK230.out 6).trans rfl, (blk_cell BK230.out 7).trans rfl, (blk_cell BK232.out 0).trans rfl, (blk_cell BK232.out 1).trans rfl, (blk_cell BK232.out 2).trans rfl, (blk_cell BK232.out 3).trans rfl⟩ (fun hHeld => ?_); refine with_tabW procfs_CgroupSummary.tab5 procfs_CgroupSummary.bits5 (fun HT_ HW_ => ?_)
    generalize w16.drew = w17 at HO_231007 BK229 BK230 BK232 HB hHeld ⊢
    refine pure_ (i := 0) (N := some 18) (v := ?_) (a' := ?_) (bb [1, 8]) rfl rfl (any_of HT_.out (by kernel_rfl)) (fun _ _ _ h => h) (Or.inl ⟨by rfl, ?_⟩) ?_ ?_
    rotate_left
    ·intro w'
     go_simp
     with_reducible rfl
    rotate_left
    ·simp only [Act.put, List.setIfInBounds_toArray, List.set_cons_zero, List.set_cons_succ, i64_w, i32_w]
     rfl
    refine pure_ (i := 2) (N := some 20) (v := ?_) (a' := ?_) (bb [1, 1, 1, 6]) rfl rfl (any_of HT_.out (by kernel_rfl)) (fun _ _ _ h => h) (Or.inl ⟨by rfl, ?_⟩) ?_ ?_
    rotate_left
    ·intro w'
     go_simp
     with_reducible rfl
    rotate_left
    ·simp only [Act.put, List.setIfInBounds_toArray, List.set_cons_zero, List.set_cons_succ, i64_w, i32_w]
     rfl
    refine take_ (i := 1) (N := some 19) (v := ?_) (a' := ?_) (bb [3, 6]) rfl rfl (take_ofW HT_.out HW_.out (by kernel_rfl)) (fun _ _ _ h => h) (Or.inl ⟨by rfl, ?_⟩) hHeld ?_ ?_
    rotate_left
    ·rintro w' ⟨s0, s1, s2, s3, s4, s5, s6, s7, s8, s9, s10, s11⟩
     go_simp
     with_reducible rfl
    rotate_left
    ·simp only [Act.put, List.setIfInBounds_toArray, List.set_cons_zero, List.set_cons_succ, i64_w, i32_w]
     rfl
    refine take_ (i := 3) (N := some 21) (v := ?_) (a' := ?_) (bb [4, 5]) rfl rfl (take_ofW HT_.out HW_.out (by kernel_rfl)) (fun _ _ _ h => h) (Or.inl ⟨by rfl, ?_⟩) hHeld ?_ ?_
    rotate_left
    ·rintro w' ⟨s0, s1, s2, s3, s4, s5, s6, s7, s8, s9, s10, s11⟩
     go_simp
     with_reducible rfl
    rotate_left
    ·simp only [Act.put, List.setIfInBounds_toArray, List.set_cons_zero, List.set_cons_succ, i64_w, i32_w]
     rfl
    refine one_ (i := 4) (N := some 22) (bb [5, 4]) rfl rfl (one_of HT_.out (by kernel_rfl)) (by decide) (fun K hK => ?_)
    refine goesV_ Tryz.func133 (by kernel_rfl) rfl #[.agg #[.string ((rd_T162 l1 x14_1).f0), .int .i64 ((rd_T162 l1 x14_1).f1), .int .i64 ((rd_T162 l1 x14_1).f2), .int .i64 ((rd_T162 l1 x14_1).f3)]] (by rfl) rfl rfl (by rfl) (by (try simp only [List.map_toArray, List.map_cons, List.map_nil]); first | done | rfl | (simp only [List.length_drop, List.length_take]; rfl)) ?_
    with_reducible refine (impl_CgroupSummary_1_1.calls ((rd_T162 l1 x14_1).f0) ((rd_T162 l1 x14_1).f1) ((rd_T162 l1 x14_1).f2) ((rd_T162 l1 x14_1).f3) t233 t234 t235 t236 t237 t238 t239 t240 _ A10.out).mono ?_
    rintro e w18 ⟨v241, rfl, ho0, hb⟩
    refine ⟨_, rfl, ?_⟩
    have n0_ := Aside0.mk (Kd.R_elder' (by (with_reducible repeat (first | apply Kd.R_alloc | apply Kd.R_drewN | apply Kd.R_drew)); exact HO_231007.out) (by first | exact Kd.R_base ho0 | exact Kd.R_base ho0) hb)
    have n1_ := Aside0.mk (Kd.R_lower (Kd.R_newB (Kd.R_newB (Kd.R_new' ho0 (Kd.R_lt (by (with_reducible repeat (first | apply Kd.R_alloc | apply Kd.R_drewN | apply Kd.R_drew)); exact HO_231007.out))) (g := gb229) (o := .cells #[.string (⟨#[]⟩ : ByteArray), .int .i64 0, .bool false, .int .i64 0, .int .u64 0, .float .f64 0, .string (⟨#[]⟩ : ByteArray), .slice none 0 0] 43 (0, 0)) (by (with_reducible repeat (first | refine blk_drewN ?_ _ | refine blk_drew ?_ | refine blk_alloc ?_ _)); exact BK229.out)) (g := gb230) (o := .cells #[.string a0, .int .i64 6, .bool false, .int .i64 0, .int .u64 0, .float .f64 0, .string (⟨#[]⟩ : ByteArray), u231007] 43 (0, 0)) (by (with_reducible repeat (first | refine blk_drewN ?_ _ | refine blk_drew ?_ | refine blk_alloc ?_ _)); exact BK230.out)) (below_size (by repeat (first | (with_reducible first | exact HB.out | apply below_alloc | apply pw_below_drewN | apply below_drew1 | refine below_set ?_ GE229.out | refine below_set ?_ GE230.out | refine below_set ?_ GE232.out) | exact HB.out))))
    have n2_ := Aside0.mk (blk_below (g := gb229) (o := .cells #[.string (⟨#[]⟩ : ByteArray), .int .i64 0, .bool false, .int .i64 0, .int .u64 0, .float .f64 0, .string (⟨#[]⟩ : ByteArray), .slice none 0 0] 43 (0, 0)) (by (with_reducible repeat (first | refine blk_drewN ?_ _ | refine blk_drew ?_ | refine blk_alloc ?_ _)); exact BK229.out) hb)
    have n3_ := Aside0.mk (blk_below (g := gb230) (o := .cells #[.string a0, .int .i64 6, .bool false, .int .i64 0, .int .u64 0, .float .f64 0, .string (⟨#[]⟩ : ByteArray), u231007] 43 (0, 0)) (by (with_reducible repeat (first | refine blk_drewN ?_ _ | refine blk_drew ?_ | refine blk_alloc ?_ _)); exact BK230.out) hb)
    have n4_ := Aside0.mk (blk_below (g := gb232) (o := .cells #[.string ((rd_T162 l1 x14_1).f0), .int .i64 ((rd_T162 l1 x14_1).f1), .int .i64 ((rd_T162 l1 x14_1).f2), .int .i64 ((rd_T162 l1 x14_1).f3)] 162 (0, 0)) (by (with_reducible repeat (first | refine blk_drewN ?_ _ | refine blk_drew ?_ | refine blk_alloc ?_ _)); exact BK232.out) hb)
    have n5_ := Aside0.mk (below_step (by repeat (first | (with_reducible first | exact HB.out | apply below_alloc | apply pw_below_drewN | apply below_drew1 | refine below_set ?_ GE229.out | refine below_set ?_ GE230.out | refine below_set ?_ GE232.out) | exact HB.out)) hb)
    clear HO_231007
    clear BK229
    clear BK230
    clear BK232
    clear HB
    have HO_231007 := n0_
    have HO242 := n1_
    have BK229 := n2_
    have BK230 := n3_
    have BK232 := n4_
    have HB := n5_
    clear n0_ n1_ n2_ n3_ n4_ n5_
    (try clear hb)
    (try clear hb2)
    (try clear hk)
    (try clear hi)
    (try clear ho0)
    obtain ⟨Ao20, co20, eo20⟩ := Kd.R_slice HO242.out
    (first | subst eo20 | (injection eo20 with f1_ f2_ f3_; have f4_ := f1_.symm; have f5_ := f3_.symm; clear f1_ f2_ f3_; subst f4_; subst f5_))
    refine hK.out _ _ ⟨(blk_cell BK230.out 0).trans rfl, (blk_cell BK230.out 1).trans rfl, (blk_cell BK230.out 2).trans rfl, (blk_cell BK230.out 3).trans rfl, (blk_cell BK230.out 4).trans rfl, (blk_cell BK230.out 5).trans rfl, (blk_cell BK230.out 6).trans rfl, (blk_cell BK230.out 7).trans rfl, (blk_cell BK232.out 0).trans rfl, (blk_cell BK232.out 1).trans rfl, (blk_cell BK232.out 2).trans rfl, (blk_cell BK232.out 3).trans rfl⟩ (fun hHeld => ?_)
    clear hK K
    refine norm_ (a' := ?_) ?_ ?_
    rotate_left
    ·show Act.put _ (some 22) _ = _
     simp only [Act.put, List.setIfInBounds_toArray, List.set_cons_zero, List.set_cons_succ, i64_w, i32_w]
     rfl
    refine one_ (i := 5) (N := some 23) (bb [6, 3]) rfl rfl (one_of HT_.out (by kernel_rfl)) (by decide) (fun K hK => ?_)
    refine value_ (w1 := ?_) (v := ?_) (by rfl) rfl ?_ ?_
    rotate_left 2
    ·go_simp
     constructor
     ·rfl
     ·rfl
    refine hK.out _ _ ⟨(blk_cell (blk_alloc BK230.out _) 0).trans rfl, (blk_cell (blk_alloc BK230.out _) 1).trans rfl, (blk_cell (blk_alloc BK230.out _) 2).trans rfl, (blk_cell (blk_alloc BK230.out _) 3).trans rfl, (blk_cell (blk_alloc BK230.out _) 4).trans rfl, (blk_cell (blk_alloc BK230.out _) 5).trans rfl, (blk_cell (blk_alloc BK230.out _) 6).trans rfl, (blk_cell (blk_alloc BK230.out _) 7).trans rfl, (blk_cell (blk_alloc BK232.out _) 0).trans rfl, (blk_cell (blk_alloc BK232.out _) 1).trans rfl, (blk_cell (blk_alloc BK232.out _) 2).trans rfl, (blk_cell (blk_alloc BK232.out _) 3).trans rfl⟩ (fun hHeld => ?_)
    clear hK K
    refine norm_ (a' := ?_) ?_ ?_
    rotate_left
    ·show Act.put _ (some 23) _ = _
     simp only [Act.put, List.setIfInBounds_toArray, List.set_cons_zero, List.set_cons_succ, i64_w, i32_w]
     rfl
    refine one_ (i := 6) (N := some 24) (bb [7, 2]) rfl rfl (one_of HT_.out (by kernel_rfl)) (by decide) (fun K hK => ?_)
    refine Kd.R_append_step k43 (w0 := w) w.heap.size (by rfl) (.tmp 19) (.tmp 23) 41 43 (.agg #[(.string ⟨#[]⟩), (.int .i64 0), (.bool false), (.int .i64 0), (.int .u64 0), (.float .f64 0), (.string ⟨#[]⟩), (.slice none 0 0)]) 96 rfl Tryz.underlying41 info43 rfl (by decide) (by omega) u231007 x231007_1 (⟨t233, t234, t235, t236, t237, t238, t239, t240⟩ : S43) [.string t233, .int .i64 t234, .bool t235, .int .i64 t236, .int .u64 t237, .float .f64 t238, .string t239, .slice Ao20 t240.length co20] (fun k_ => k_ ≠ gb229 ∧ k_ ≠ gb230) (fun k_ => ((fun k_ => k_ ≠ gb229 ∧ k_ ≠ gb230)) k_ ∧ some k_ ≠ (u231007 : Value).ownBlock) rfl rfl ?aP (fun _ hk => hk) ?aF ?aO ?aB ?aS ?aL ?_
    (case aP => exact k43_mkM _ _ _ (⟨t233, t234, t235, t236, t237, t238, t239, t240⟩ : S43) (Kd.R_mono (HO242.out) (fun k_ hk => ⟨⟨hk.1.2, hk.2⟩, hk.1.1.2⟩)))
    (case aB => exact (by repeat (first | (with_reducible first | exact HB.out | apply below_alloc | apply pw_below_drewN | apply below_drew1 | refine below_set ?_ GE229.out | refine below_set ?_ GE230.out | refine below_set ?_ GE232.out) | exact HB.out)))
    (case aF => exact (fun k_ hk => ⟨Kd.freshB (g := gb229) (o := .cells #[.string (⟨#[]⟩ : ByteArray), .int .i64 0, .bool false, .int .i64 0, .int .u64 0, .float .f64 0, .string (⟨#[]⟩ : ByteArray), .slice none 0 0] 43 (0, 0)) (by (with_reducible repeat (first | refine blk_drewN ?_ _ | refine blk_drew ?_ | refine blk_alloc ?_ _)); exact BK229.out) k_ hk, Kd.freshB (g := gb230) (o := .cells #[.string a0, .int .i64 6, .bool false, .int .i64 0, .int .u64 0, .float .f64 0, .string (⟨#[]⟩ : ByteArray), u231007] 43 (0, 0)) (by (with_reducible repeat (first | refine blk_drewN ?_ _ | refine blk_drew ?_ | refine blk_alloc ?_ _)); exact BK230.out) k_ hk⟩))
    (case aO => exact (by (with_reducible repeat (first | apply Kd.R_alloc | apply Kd.R_drewN | apply Kd.R_drew)); exact Kd.R_mono HO_231007.out (fun _ hk => ⟨hk.1.1, hk.1.2⟩)))
    (case aS => exact (below_size (by repeat (first | (with_reducible first | exact HB.out | apply below_alloc | apply pw_below_drewN | apply below_drew1 | refine below_set ?_ GE229.out | refine below_set ?_ GE230.out | refine below_set ?_ GE232.out) | exact HB.out))))
    (case aL => have := LMc11.out; omega)
    intro v244 w19 ho hb hg hat
    rw [← Ny243.out] at ho
    have n0_ := Aside0.mk (blk_grown (g := gb229) (o := .cells #[.string (⟨#[]⟩ : ByteArray), .int .i64 0, .bool false, .int .i64 0, .int .u64 0, .float .f64 0, .string (⟨#[]⟩ : ByteArray), .slice none 0 0] 43 (0, 0)) (by (with_reducible repeat (first | refine blk_drewN ?_ _ | refine blk_drew ?_ | refine blk_alloc ?_ _)); exact BK229.out) hg (Kd.R_away HO_231007.out (fun _ hk => hk.1.1)))
    have n1_ := Aside0.mk (blk_grown (g := gb230) (o := .cells #[.string a0, .int .i64 6, .bool false, .int .i64 0, .int .u64 0, .float .f64 0, .string (⟨#[]⟩ : ByteArray), u231007] 43 (0, 0)) (by (with_reducible repeat (first | refine blk_drewN ?_ _ | refine blk_drew ?_ | refine blk_alloc ?_ _)); exact BK230.out) hg (Kd.R_away HO_231007.out (fun _ hk => hk.1.2)))
    have n2_ := Aside0.mk (blk_grown (g := gb232) (o := .cells #[.string ((rd_T162 l1 x14_1).f0), .int .i64 ((rd_T162 l1 x14_1).f1), .int .i64 ((rd_T162 l1 x14_1).f2), .int .i64 ((rd_T162 l1 x14_1).f3)] 162 (0, 0)) (by (with_reducible repeat (first | refine blk_drewN ?_ _ | refine blk_drew ?_ | refine blk_alloc ?_ _)); exact BK232.out) hg (Kd.R_ne HO_231007.out BK232.out (by decide)))
    have n3_ := Aside0.mk (hb)
    have n4_ := Aside0.mk (ho)
    clear BK229
    clear BK230
    clear BK232
    clear HB
    clear HO_231007
    clear HO242
    have BK229 := n0_
    have BK230 := n1_
    have BK232 := n2_
    have HB := n3_
    have HO245 := n4_
    clear n0_ n1_ n2_ n3_ n4_
    clear ho hb hg hat
    obtain ⟨Ao21, co21, eo21⟩ := Kd.R_slice HO245.out
    (first | subst eo21 | (injection eo21 with f1_ f2_ f3_; have f4_ := f1_.symm; have f5_ := f3_.symm; clear f1_ f2_ f3_; subst f4_; subst f5_))
    refine hK.out _ _ ⟨(blk_cell BK230.out 0).trans rfl, (blk_cell BK230.out 1).trans rfl, (blk_cell BK230.out 2).trans rfl, (blk_cell BK230.out 3).trans rfl, (blk_cell BK230.out 4).trans rfl, (blk_cell BK230.out 5).trans rfl, (blk_cell BK230.out 6).trans rfl, (blk_cell BK230.out 7).trans rfl, (blk_cell BK232.out 0).trans rfl, (blk_cell BK232.out 1).trans rfl, (blk_cell BK232.out 2).trans rfl, (blk_cell BK232.out 3).trans rfl⟩ (fun hHeld => ?_)
    clear hK K
    refine norm_ (a' := ?_) ?_ ?_
    rotate_left
    ·show Act.put _ (some 24) _ = _
     simp only [Act.put, List.setIfInBounds_toArray, List.set_cons_zero, List.set_cons_succ, i64_w, i32_w]
     rfl
    refine pure_ (i := 7) (N := some 25) (v := ?_) (a' := ?_) (bb [8, 1]) rfl rfl (any_of HT_.out (by kernel_rfl)) (fun _ _ _ h => h) (Or.inl ⟨by rfl, ?_⟩) ?_ ?_
    rotate_left
    ·intro w'
     go_simp
     with_reducible rfl
    rotate_left
    ·simp only [Act.put, List.setIfInBounds_toArray, List.set_cons_zero, List.set_cons_succ, i64_w, i32_w]
     rfl
    refine last_ (i := 8) (N := none) (bb [9]) rfl rfl (one_of HT_.out (by kernel_rfl)) (by decide) (fun K hK => ?_)
    have hs22 : w19.cell? ⟨gb230, 7, none⟩ = some (u231007) := (blk_cell BK230.out 7).trans rfl
    have hfs22 := blk_frozen BK230.out 7
    have hns22_0 := NB229_230.out
    have hns22_2 := NB232_230.out
    have hms22_0 := NB230_229.out
    have hms22_2 := NB230_232.out
    refine skip_ (w1 := ?_) (by rfl) rfl ?_ ?_
    rotate_left
    ·go_simp
     rfl
    refine hK.out _ _ ?_
    clear hK K
    refine done_ (done_of HT_.out (by kernel_rfl)) ?_
    try go_wp2
    go_roundg k1
    case measure => have := HK1.out; omega
    case rel => exact ⟨(wrap64 (x14_1 + 1)), (y243), (.slice Ao21 y243.length co21), (by first | rfl | (simp; done) | (simp [*]; done)), H', ⟨by have := HK1.out; omega⟩, ⟨by (with_reducible repeat (first | apply Kd.R_alloc | apply Kd.R_drewN | apply Kd.R_drew)); exact Kd.R_mono (Kd.R_far (p := ⟨gb230, 7, none⟩) (Kd.R_mono HO245.out (fun k_ hk => (⟨hk, hk.2⟩ : _ ∧ k_ ≠ gb230))) (fun _ hk => hk.2) (.slice Ao21 y243.length co21)) (fun _ hk => ⟨hk.1.1, hk.1.2⟩)⟩, ⟨by (with_reducible repeat (first | refine blk_drewN ?_ _ | refine blk_drew ?_ | refine blk_alloc ?_ _)); refine blk_far ?_ NB229_230.out _; (with_reducible repeat (first | refine blk_drewN ?_ _ | refine blk_drew ?_ | refine blk_alloc ?_ _)); exact BK229.out⟩, ⟨by (with_reducible repeat (first | refine blk_drewN ?_ _ | refine blk_drew ?_ | refine blk_alloc ?_ _)); refine blk_put (cs := #[.string a0, .int .i64 6, .bool false, .int .i64 0, .int .u64 0, .float .f64 0, .string (⟨#[]⟩ : ByteArray), u231007]) ?_ 7 _ rfl; (with_reducible repeat (first | refine blk_drewN ?_ _ | refine blk_drew ?_ | refine blk_alloc ?_ _)); exact BK230.out⟩, ⟨by repeat (first | (with_reducible first | exact HB.out | apply below_alloc | apply pw_below_drewN | apply below_drew1 | refine below_set ?_ GE229.out | refine below_set ?_ GE230.out | refine below_set ?_ GE232.out) | exact HB.out)⟩⟩
   ·rw [if_neg c7] at H
    have c7b0 : decide (x14_1 < (l1.length : Int)) = false := decide_eq_false c7
    clear c7
    simp only [Option.some.injEq, Prod.mk.injEq] at H
    obtain ⟨rfl, rfl, rfl, rfl, rfl, rfl, rfl, rfl⟩ := H
    have hnb23 := NB230_229.out
    have hnc23 := NB229_230.out
    have hcz24_0 : wr.cell? ⟨gb230, 0, none⟩ = some (.string a0) := (blk_cell BK230.out 0).trans rfl
    have hcz24_1 : wr.cell? ⟨gb230, 1, none⟩ = some (.int .i64 6) := (blk_cell BK230.out 1).trans rfl
    have hcz24_2 : wr.cell? ⟨gb230, 2, none⟩ = some (.bool false) := (blk_cell BK230.out 2).trans rfl
    have hcz24_3 : wr.cell? ⟨gb230, 3, none⟩ = some (.int .i64 0) := (blk_cell BK230.out 3).trans rfl
    have hcz24_4 : wr.cell? ⟨gb230, 4, none⟩ = some (.int .u64 0) := (blk_cell BK230.out 4).trans rfl
    have hcz24_5 : wr.cell? ⟨gb230, 5, none⟩ = some (.float .f64 0) := (blk_cell BK230.out 5).trans rfl
    have hcz24_6 : wr.cell? ⟨gb230, 6, none⟩ = some (.string (⟨#[]⟩ : ByteArray)) := (blk_cell BK230.out 6).trans rfl
    have hcz24_7 : wr.cell? ⟨gb230, 7, none⟩ = some (u231007) := (blk_cell BK230.out 7).trans rfl
    have hfz24_0 := blk_frozen BK230.out 0
    have hfz24_1 := blk_frozen BK230.out 1
    have hfz24_2 := blk_frozen BK230.out 2
    have hfz24_3 := blk_frozen BK230.out 3
    have hfz24_4 := blk_frozen BK230.out 4
    have hfz24_5 := blk_frozen BK230.out 5
    have hfz24_6 := blk_frozen BK230.out 6
    have hfz24_7 := blk_frozen BK230.out 7
    have hcz25_0 : wr.cell? ⟨gb229, 0, none⟩ = some (.string (⟨#[]⟩ : ByteArray)) := (blk_cell BK229.out 0).trans rfl
    have hcz25_1 : wr.cell? ⟨gb229, 1, none⟩ = some (.int .i64 0) := (blk_cell BK229.out 1).trans rfl
    have hcz25_2 : wr.cell? ⟨gb229, 2, none⟩ = some (.bool false) := (blk_cell BK229.out 2).trans rfl
    have hcz25_3 : wr.cell? ⟨gb229, 3, none⟩ = some (.int .i64 0) := (blk_cell BK229.out 3).trans rfl
    have hcz25_4 : wr.cell? ⟨gb229, 4, none⟩ = some (.int .u64 0) := (blk_cell BK229.out 4).trans rfl
    have hcz25_5 : wr.cell? ⟨gb229, 5, none⟩ = some (.float .f64 0) := (blk_cell BK229.out 5).trans rfl
    have hcz25_6 : wr.cell? ⟨gb229, 6, none⟩ = some (.string (⟨#[]⟩ : ByteArray)) := (blk_cell BK229.out 6).trans rfl
    have hcz25_7 : wr.cell? ⟨gb229, 7, none⟩ = some (.slice none 0 0) := (blk_cell BK229.out 7).trans rfl
    have hfz25_0 := blk_frozen BK229.out 0
    have hfz25_1 := blk_frozen BK229.out 1
    have hfz25_2 := blk_frozen BK229.out 2
    have hfz25_3 := blk_frozen BK229.out 3
    have hfz25_4 := blk_frozen BK229.out 4
    have hfz25_5 := blk_frozen BK229.out 5
    have hfz25_6 := blk_frozen BK229.out 6
    have hfz25_7 := blk_frozen BK229.out 7
    obtain ⟨Ao26, co26, eo26⟩ := Kd.R_slice HO_231007.out
    subst eo26
    go_wp2
    refine bodyPost_ret (results_cell_row rfl _ _ gb229 43 #[.string a0, .int .i64 6, .bool false, .int .i64 0, .int .u64 0, .float .f64 0, .string (⟨#[]⟩ : ByteArray), .slice Ao26 x231007_1.length co26] (0, 0) _ rfl (by (with_reducible repeat (first | refine blk_drewN ?_ _ | refine blk_drew ?_ | refine blk_alloc ?_ _)); refine blk_put (cs := #[.string a0, .int .i64 6, .bool false, .int .i64 0, .int .u64 0, .float .f64 0, .string (⟨#[]⟩ : ByteArray), .slice none 0 0]) ?_ 7 _ rfl; (with_reducible repeat (first | refine blk_drewN ?_ _ | refine blk_drew ?_ | refine blk_alloc ?_ _)); refine blk_put (cs := #[.string a0, .int .i64 6, .bool false, .int .i64 0, .int .u64 0, .float .f64 0, .string (⟨#[]⟩ : ByteArray), .slice none 0 0]) ?_ 6 _ rfl; (with_reducible repeat (first | refine blk_drewN ?_ _ | refine blk_drew ?_ | refine blk_alloc ?_ _)); refine blk_put (cs := #[.string a0, .int .i64 6, .bool false, .int .i64 0, .int .u64 0, .float .f64 0, .string (⟨#[]⟩ : ByteArray), .slice none 0 0]) ?_ 5 _ rfl; (with_reducible repeat (first | refine blk_drewN ?_ _ | refine blk_drew ?_ | refine blk_alloc ?_ _)); refine blk_put (cs := #[.string a0, .int .i64 6, .bool false, .int .i64 0, .int .u64 0, .float .f64 0, .string (⟨#[]⟩ : ByteArray), .slice none 0 0]) ?_ 4 _ rfl; (with_reducible repeat (first | refine blk_drewN ?_ _ | refine blk_drew ?_ | refine blk_alloc ?_ _)); refine blk_put (cs := #[.string a0, .int .i64 6, .bool false, .int .i64 0, .int .u64 0, .float .f64 0, .string (⟨#[]⟩ : ByteArray), .slice none 0 0]) ?_ 3 _ rfl; (with_reducible repeat (first | refine blk_drewN ?_ _ | refine blk_drew ?_ | refine blk_alloc ?_ _)); refine blk_put (cs := #[.string a0, .int .i64 6, .bool false, .int .i64 0, .int .u64 0, .float .f64 0, .string (⟨#[]⟩ : ByteArray), .slice none 0 0]) ?_ 2 _ rfl; (with_reducible repeat (first | refine blk_drewN ?_ _ | refine blk_drew ?_ | refine blk_alloc ?_ _)); refine blk_put (cs := #[.string a0, .int .i64 0, .bool false, .int .i64 0, .int .u64 0, .float .f64 0, .string (⟨#[]⟩ : ByteArray), .slice none 0 0]) ?_ 1 _ rfl; (with_reducible repeat (first | refine blk_drewN ?_ _ | refine blk_drew ?_ | refine blk_alloc ?_ _)); refine blk_put (cs := #[.string (⟨#[]⟩ : ByteArray), .int .i64 0, .bool false, .int .i64 0, .int .u64 0, .float .f64 0, .string (⟨#[]⟩ : ByteArray), .slice none 0 0]) ?_ 0 _ rfl; (with_reducible repeat (first | refine blk_drewN ?_ _ | refine blk_drew ?_ | refine blk_alloc ?_ _)); exact BK229.out) Tryz.underlying43 rfl (by kernel_rfl)) rfl ?_
    exact ⟨_, by first | rfl | (simp [errW_none, errW_some] <;> rfl) | (simp [*, errW_none, errW_some] <;> rfl), by (with_reducible repeat (first | apply Kd.R_alloc | apply Kd.R_drewN | apply Kd.R_drew)); exact Kd.R_mono (Kd.R_far (p := ⟨gb229, 7, none⟩) (Kd.R_far (p := ⟨gb229, 6, none⟩) (Kd.R_far (p := ⟨gb229, 5, none⟩) (Kd.R_far (p := ⟨gb229, 4, none⟩) (Kd.R_far (p := ⟨gb229, 3, none⟩) (Kd.R_far (p := ⟨gb229, 2, none⟩) (Kd.R_far (p := ⟨gb229, 1, none⟩) (Kd.R_far (p := ⟨gb229, 0, none⟩) (Kd.R_mono HO_231007.out (fun k_ hk => (⟨hk, hk.1⟩ : _ ∧ k_ ≠ gb229))) (fun _ hk => hk.2) (.string a0)) (fun _ hk => hk.2) (.int .i64 6)) (fun _ hk => hk.2) (.bool false)) (fun _ hk => hk.2) (.int .i64 0)) (fun _ hk => hk.2) (.int .u64 0)) (fun _ hk => hk.2) (.float .f64 0)) (fun _ hk => hk.2) (.string (⟨#[]⟩ : ByteArray))) (fun _ hk => hk.2) (.slice Ao26 x231007_1.length co26)) (fun _ hk => trivial), by repeat (first | (with_reducible first | exact HB.out | apply below_alloc | apply pw_below_drewN | apply below_drew1 | refine below_set ?_ GE229.out | refine below_set ?_ GE230.out) | exact HB.out)⟩
/-! ### impl_CgroupSummary_1: function 131 -/
def impl_CgroupSummary_1.f (k : Nat) (l0 : List (S162)) : Option (ByteArray × Int × Bool × Int × Int × Nat × ByteArray × (List (S43))) := (procfs_CgroupSummary.f k (⟨#[]⟩ : ByteArray) l0).bind fun bt247 => (some (bt247.1, bt247.2.1, bt247.2.2.1, bt247.2.2.2.1, bt247.2.2.2.2.1, bt247.2.2.2.2.2.1, bt247.2.2.2.2.2.2.1, bt247.2.2.2.2.2.2.2))
theorem impl_CgroupSummary_1.mono : ∀ a0 k, LeO (impl_CgroupSummary_1.f k a0) (impl_CgroupSummary_1.f (k + 1) a0) := by
 intro a0 k
 unfold impl_CgroupSummary_1.f
 repeat' first
   | (with_reducible exact procfs_CgroupSummary.mono _ _ _)
   | (with_reducible exact LeO.refl _)
   | (with_reducible exact LeO.none _)
   | (with_reducible refine LeO.ite ?_ ?_)
   | (with_reducible refine LeO.bind ?_ (fun _ => ?_))
   | exact procfs_CgroupSummary.mono _ _ _
   | exact LeO.none _
   | refine LeO.ite ?_ ?_
   | refine LeO.bind ?_ (fun _ => ?_)
set_option maxHeartbeats 8000000 in
set_option maxRecDepth 100000 in
theorem impl_CgroupSummary_1.calls (k : Nat) (A0 : Option Addr) (c0 : Nat) (l0 : List (S162)) (r1 : ByteArray) (r2 : Int) (r3 : Bool) (r4 : Int) (r5 : Int) (r6 : Nat) (r7 : ByteArray) (r8 : List (S43)) (w : World) (hr0 : Kd.C k162 w A0 l0.length l0) (hc0 : l0.length ≤ c0) (h : impl_CgroupSummary_1.f k l0 = some (r1, r2, r3, r4, r5, r6, r7, r8)) :
  Calls Tryz.prog 131 #[.slice A0 l0.length c0] w fun e w' => ∃ v7_ : Value, e = .returned (.agg #[.string r1, .int .i64 r2, .bool r3, .int .i64 r4, .int .u64 r5, .float .f64 r6, .string r7, v7_]) ∧ Kd.R k43 43 w' w.heap.size (fun _ => True) v7_ r8 ∧ Below w.heap.size w w' := by
 have hu43 := Tryz.underlying43
 have HR0 := Aside0.mk hr0
 have HC0 := Aside0.mk hc0
 clear hr0 hc0
 have HB := Aside0.mk (Below.refl w.heap.size w)
 have H : ((procfs_CgroupSummary.f k (⟨#[]⟩ : ByteArray) l0).bind fun bt247 => (some (bt247.1, bt247.2.1, bt247.2.2.1, bt247.2.2.2.1, bt247.2.2.2.2.1, bt247.2.2.2.2.2.1, bt247.2.2.2.2.2.2.1, bt247.2.2.2.2.2.2.2))) = some (r1, r2, r3, r4, r5, r6, r7, r8) := h
 clear h
 replace H := Option.bind_eq_some_iff.mp H
 obtain ⟨⟨t247, t248, t249, t250, t251, t252, t253, t254⟩, A20, H⟩ := H
 replace H : (some (t247, t248, t249, t250, t251, t252, t253, t254)) = some (r1, r2, r3, r4, r5, r6, r7, r8) := H
 have A2 := Aside0.mk A20
 clear A20
 simp only [Option.some.injEq, Prod.mk.injEq] at H
 obtain ⟨rfl, rfl, rfl, rfl, rfl, rfl, rfl, rfl⟩ := H
 go_enter Tryz.func131, Tryz.ntmps131
 go_wp2_with (first | ((with_reducible refine gate_dst (N := 2) rfl ?_); refine box_event ?hg (N := 2) ?hd (cs := #[.string (⟨#[]⟩ : ByteArray), .int .i64 0, .bool false, .int .i64 0, .int .u64 0, .float .f64 0, .string (⟨#[]⟩ : ByteArray), .slice none 0 0]) (t := 43) ?hr ?_; (case hd => rfl); (case hg => rfl); (case hr => first | (go_simp; done) | (go_simp; rfl)); intro gb246 hg w3 hbox hb; have n0_ := Aside0.mk (below_step (by repeat (first | (with_reducible first | exact HB.out | apply below_alloc | apply pw_below_drewN | apply below_drew1) | exact HB.out)) hb); have n1_ := Aside0.mk (hbox); have n2_ := Aside0.mk ((by rw [hg]; exact (below_size (by repeat (first | (with_reducible first | exact HB.out | apply below_alloc | apply pw_below_drewN | apply below_drew1) | exact HB.out))) : w.heap.size ≤ gb246)); have n3_ := Aside0.mk ((by rw [hg]; exact (below_size (by repeat (first | (with_reducible first | exact HB.out | apply below_alloc | apply pw_below_drewN | apply below_drew1) | exact HB.out))) : w.heap.size ≤ gb246)); clear HB; have HB := n0_; have BK246 := n1_; have GW246 := n2_; have GE246 := n3_; clear n0_ n1_ n2_ n3_; clear hb hbox hg) | ((with_reducible refine gate_callee (f := 132) rfl ?_); refine goesL_ (some 4) rfl rfl Tryz.func132 (by kernel_rfl) rfl #[.string (⟨#[]⟩ : ByteArray), .slice A0 l0.length c0, .func (.func 133) #[] #[]] rfl (by (try simp only [List.map_toArray, List.map_cons, List.map_nil]); first | done | rfl | (simp only [List.length_drop, List.length_take]; rfl)) ?_; (with_reducible refine (procfs_CgroupSummary.calls k (⟨#[]⟩ : ByteArray) _ _ l0 t247 t248 t249 t250 t251 t252 t253 t254 _ ?side1 ?side2 A2.out).mono ?_); (case side1 => repeat (first | exact (Kd.C_below HR0.out HB.out) | (with_reducible refine Kd.C_alloc ?_ _) | (with_reducible refine Kd.C_drewN ?_ _) | (with_reducible refine Kd.C_drew ?_))); (case side2 => exact HC0.out); rintro e w4 ⟨v255, rfl, ho0, hb⟩; refine ⟨_, rfl, ?_⟩; have n0_ := Aside0.mk (Kd.R_lower (Kd.R_newB ho0 (g := gb246) (o := .cells #[.string (⟨#[]⟩ : ByteArray), .int .i64 0, .bool false, .int .i64 0, .int .u64 0, .float .f64 0, .string (⟨#[]⟩ : ByteArray), .slice none 0 0] 43 (0, 0)) (by (with_reducible repeat (first | refine blk_drewN ?_ _ | refine blk_drew ?_ | refine blk_alloc ?_ _)); exact BK246.out)) (below_size (by repeat (first | (with_reducible first | exact HB.out | apply below_alloc | apply pw_below_drewN | apply below_drew1 | refine below_set ?_ GE246.out) | exact HB.out)))); have n1_ := Aside0.mk (blk_below (g := gb246) (o := .cells #[.string (⟨#[]⟩ : ByteArray), .int .i64 0, .bool false, .int .i64 0, .int .u64 0, .float .f64 0, .string (⟨#[]⟩ : ByteArray), .slice none 0 0] 43 (0, 0)) (by (with_reducible repeat (first | refine blk_drewN ?_ _ | refine blk_drew ?_ | refine blk_alloc ?_ _)); exact BK246.out) hb); have n2_ := Aside0.mk (below_step (by repeat (first | (with_reducible first | exact HB.out | apply below_alloc | apply pw_below_drewN | apply below_drew1 | refine below_set ?_ GE246.out) | exact HB.out)) hb); clear BK246; clear HB; have HO256 := n0_; have BK246 := n1_; have HB := n2_; clear n0_ n1_ n2_; (try clear hb); (try clear hb2); (try clear hk); (try clear hi); (try clear ho0); have hcz5_0 : w4.cell? ⟨gb246, 0, none⟩ = some (.string (⟨#[]⟩ : ByteArray)) := (blk_cell BK246.out 0).trans rfl; have hcz5_1 : w4.cell? ⟨gb246, 1, none⟩ = some (.int .i64 0) := (blk_cell BK246.out 1).trans rfl; have hcz5_2 : w4.cell? ⟨gb246, 2, none⟩ = some (.bool false) := (blk_cell BK246.out 2).trans rfl; have hcz5_3 : w4.cell? ⟨gb246, 3, none⟩ = some (.int .i64 0) := (blk_cell BK246.out 3).trans rfl; have hcz5_4 : w4.cell? ⟨gb246, 4, none⟩ = some (.int .u64 0) := (blk_cell BK246.out 4).trans rfl; have hcz5_5 : w4.cell? ⟨gb246, 5, none⟩ = some (.float .f64 0) := (blk_cell BK246.out 5).trans rfl; have hcz5_6 : w4.cell? ⟨gb246, 6, none⟩ = some (.string (⟨#[]⟩ : ByteArray)) := (blk_cell BK246.out 6).trans rfl; have hcz5_7 : w4.cell? ⟨gb246, 7, none⟩ = some (.slice none 0 0) := (blk_cell BK246.out 7).trans rfl; have hfz5_0 := blk_frozen BK246.out 0; have hfz5_1 := blk_frozen BK246.out 1; have hfz5_2 := blk_frozen BK246.out 2; have hfz5_3 := blk_frozen BK246.out 3; have hfz5_4 := blk_frozen BK246.out 4; have hfz5_5 := blk_frozen BK246.out 5; have hfz5_6 := blk_frozen BK246.out 6; have hfz5_7 := blk_frozen BK246.out 7; obtain ⟨Ao6, co6, eo6⟩ := Kd.R_slice HO256.out; subst eo6))
 refine bodyPost_ret (results_cell_row rfl _ _ gb246 43 #[.string t247, .int .i64 t248, .bool t249, .int .i64 t250, .int .u64 t251, .float .f64 t252, .string t253, .slice Ao6 t254.length co6] (0, 0) _ rfl (by (with_reducible repeat (first | refine blk_drewN ?_ _ | refine blk_drew ?_ | refine blk_alloc ?_ _)); refine blk_put (cs := #[.string t247, .int .i64 t248, .bool t249, .int .i64 t250, .int .u64 t251, .float .f64 t252, .string t253, .slice none 0 0]) ?_ 7 _ rfl; (with_reducible repeat (first | refine blk_drewN ?_ _ | refine blk_drew ?_ | refine blk_alloc ?_ _)); refine blk_put (cs := #[.string t247, .int .i64 t248, .bool t249, .int .i64 t250, .int .u64 t251, .float .f64 t252, .string (⟨#[]⟩ : ByteArray), .slice none 0 0]) ?_ 6 _ rfl; (with_reducible repeat (first | refine blk_drewN ?_ _ | refine blk_drew ?_ | refine blk_alloc ?_ _)); refine blk_put (cs := #[.string t247, .int .i64 t248, .bool t249, .int .i64 t250, .int .u64 t251, .float .f64 0, .string (⟨#[]⟩ : ByteArray), .slice none 0 0]) ?_ 5 _ rfl; (with_reducible repeat (first | refine blk_drewN ?_ _ | refine blk_drew ?_ | refine blk_alloc ?_ _)); refine blk_put (cs := #[.string t247, .int .i64 t248, .bool t249, .int .i64 t250, .int .u64 0, .float .f64 0, .string (⟨#[]⟩ : ByteArray), .slice none 0 0]) ?_ 4 _ rfl; (with_reducible repeat (first | refine blk_drewN ?_ _ | refine blk_drew ?_ | refine blk_alloc ?_ _)); refine blk_put (cs := #[.string t247, .int .i64 t248, .bool t249, .int .i64 0, .int .u64 0, .float .f64 0, .string (⟨#[]⟩ : ByteArray), .slice none 0 0]) ?_ 3 _ rfl; (with_reducible repeat (first | refine blk_drewN ?_ _ | refine blk_drew ?_ | refine blk_alloc ?_ _)); refine blk_put (cs := #[.string t247, .int .i64 t248, .bool false, .int .i64 0, .int .u64 0, .float .f64 0, .string (⟨#[]⟩ : ByteArray), .slice none 0 0]) ?_ 2 _ rfl; (with_reducible repeat (first | refine blk_drewN ?_ _ | refine blk_drew ?_ | refine blk_alloc ?_ _)); refine blk_put (cs := #[.string t247, .int .i64 0, .bool false, .int .i64 0, .int .u64 0, .float .f64 0, .string (⟨#[]⟩ : ByteArray), .slice none 0 0]) ?_ 1 _ rfl; (with_reducible repeat (first | refine blk_drewN ?_ _ | refine blk_drew ?_ | refine blk_alloc ?_ _)); refine blk_put (cs := #[.string (⟨#[]⟩ : ByteArray), .int .i64 0, .bool false, .int .i64 0, .int .u64 0, .float .f64 0, .string (⟨#[]⟩ : ByteArray), .slice none 0 0]) ?_ 0 _ rfl; (with_reducible repeat (first | refine blk_drewN ?_ _ | refine blk_drew ?_ | refine blk_alloc ?_ _)); exact BK246.out) Tryz.underlying43 rfl (by kernel_rfl)) rfl ?_
 exact ⟨_, by first | rfl | (simp [errW_none, errW_some] <;> rfl) | (simp [*, errW_none, errW_some] <;> rfl), by (with_reducible repeat (first | apply Kd.R_alloc | apply Kd.R_drewN | apply Kd.R_drew)); exact Kd.R_mono (Kd.R_far (p := ⟨gb246, 7, none⟩) (Kd.R_far (p := ⟨gb246, 6, none⟩) (Kd.R_far (p := ⟨gb246, 5, none⟩) (Kd.R_far (p := ⟨gb246, 4, none⟩) (Kd.R_far (p := ⟨gb246, 3, none⟩) (Kd.R_far (p := ⟨gb246, 2, none⟩) (Kd.R_far (p := ⟨gb246, 1, none⟩) (Kd.R_far (p := ⟨gb246, 0, none⟩) (Kd.R_mono HO256.out (fun k_ hk => (⟨hk, hk.2⟩ : _ ∧ k_ ≠ gb246))) (fun _ hk => hk.2) (.string t247)) (fun _ hk => hk.2) (.int .i64 t248)) (fun _ hk => hk.2) (.bool t249)) (fun _ hk => hk.2) (.int .i64 t250)) (fun _ hk => hk.2) (.int .u64 t251)) (fun _ hk => hk.2) (.float .f64 t252)) (fun _ hk => hk.2) (.string t253)) (fun _ hk => hk.2) (.slice Ao6 t254.length co6)) (fun _ hk => trivial), by repeat (first | (with_reducible first | exact HB.out | apply below_alloc | apply pw_below_drewN | apply below_drew1 | refine below_set ?_ GE246.out) | exact HB.out)⟩
end Go.Proofs.YtednjmngalmdkaaGreatDoor.GPC
end
section
/- (FS).CgroupSummarys: the text read and parsed. Conditions: cgTextF; the tables as laid. -/
namespace Go.Proofs.YtednjmngalmdkaaGreatDoor.GPC
open Go Go.RowKit Go.Proofs.YtednjmngalmdkaaGreatDoorW.PrintWords Go.Proofs.YtednjmngalmdkaaGreatDoorW.PrintLast
set_option linter.unusedVariables false
set_option linter.unusedSimpArgs false
def cgTextF (k : Nat) (text : ByteArray) : Option (List S162 × Option Int) := (texts_Read.f text).bind fun r => if r.2 = none then (rowsF cgL k (strOfNums r.1)).map fun x => (x, none) else none
set_option maxHeartbeats 8000000 in
set_option maxRecDepth 100000 in
theorem fsCgroupSummary (k : Nat) (text : ByteArray) (r : List S162) (w : World) (hT : TabW w) (h : cgTextF k text = some (r, none)) :
  Calls Tryz.prog 130 #[.agg #[.string text]] w fun e w' => ∃ v, e = .returned (.tuple #[v, .nilIface]) ∧ Kd.R k162 162 w' w.heap.size (fun _ => True) v r ∧ Below w.heap.size w w' := by
 unfold cgTextF at h
 obtain ⟨⟨bs, er⟩, hrd, h⟩ := Option.bind_eq_some_iff.1 h
 split at h
 ·rename_i he
  simp only at he
  subst he
  obtain ⟨x, hx, e⟩ := Option.map_eq_some_iff.1 h
  cases e
  have HT := Aside0.mk hT
  have HRD := Aside0.mk hrd
  have HL := Aside0.mk hx
  have HW0 := Aside0.mk (show Below w.heap.size w ((w.alloc (Obj.cells #[Value.string text] 58 (0,0))).alloc (Obj.cells #[Value.string ⟨#[99, 103, 114, 111, 117, 112, 115]⟩] 9 (0,0))) from below_alloc (below_alloc (Below.refl _ _) _) _)
  clear hT hrd h hx
  go_enter Tryz.func130, Tryz.ntmps130
  go_wp2_with (first
   | (go_at_call 139; go_in)
   | (go_at_call 140; refine (texts_Read.calls text bs none _ HRD.out).mono ?_; rintro e w1 ⟨v0, rfl, hv, hb⟩; simp only [errW_none]; obtain ⟨Ab, cb, rfl, hlb, hFb⟩ := hv; have HW1 := Aside0.mk (below_then HW0.out HW0.out.size hb); have HF := Aside0.mk (Kd.F_now hFb); have HLB := Aside0.mk hlb; clear hb hFb hlb)
   | (go_at_call 189; refine (cgParse k Ab cb bs r _ HF.out HLB.out (tabW_below HT.out HW1.out) HL.out).mono ?_; rintro e w2 ⟨v, rfl, hR, hb2⟩; have HR := Aside0.mk (Kd.R_lower hR HW1.out.size); have HB2 := Aside0.mk (below_then HW1.out HW1.out.size hb2); clear hR hb2))
  go_ret2
  exact ⟨v, rfl, HR.out, HB2.out⟩
 ·cases h
end Go.Proofs.YtednjmngalmdkaaGreatDoor.GPC
end
section
/- impl.tree, impl.CgroupSummary: the door of this law. Conditions: the printed functions' answers; the tables as laid. -/
namespace Go.Proofs.YtednjmngalmdkaaGreatDoor.GPC
open Go.RowKit Go.Proofs.YtednjmngalmdkaaGreatDoorW.PrintWords Go.Proofs.YtednjmngalmdkaaGreatDoorW.PrintLast
set_option linter.unusedVariables false
set_option linter.unusedSimpArgs false
attribute [local go_sem] run_store_float
def nodeCgroupSummary (k : Nat) (r : List S162) : Option S43 := (impl_CgroupSummary_1.f k r).map fun r => ⟨r.1, r.2.1, r.2.2.1, r.2.2.2.1, r.2.2.2.2.1, r.2.2.2.2.2.1, r.2.2.2.2.2.2.1, r.2.2.2.2.2.2.2⟩
theorem litCgroupSummary (k : Nat) (A : Option Addr) (c : Nat) (r : List S162) (n : S43) (w : World) (hC : Kd.C k162 w A r.length r) (hc : r.length ≤ c) (h : nodeCgroupSummary k r = some n) :
  Calls Tryz.prog 131 #[.slice A r.length c] w fun e w' => ∃ v7, e = .returned (nodeVal n v7) ∧ KidsV n w w' v7 ∧ Below w.heap.size w w' := by
 unfold nodeCgroupSummary at h
 obtain ⟨⟨r1, r2, r3, r4, r5, r6, r7, r8⟩, hr, rfl⟩ := Option.map_eq_some_iff.1 h
 refine (impl_CgroupSummary_1.calls k A c r r1 r2 r3 r4 r5 r6 r7 r8 w hC hc hr).mono ?_
 rintro e w' ⟨v7, rfl, ho, hb⟩
 exact ⟨v7, rfl, ho, hb⟩
theorem idleCgroupSummary (p q : Addr) (w : World) :
  CallsD Tryz.prog 188 #[.pointer (some p), .pointer (some q)] .returning w fun e u' w' => e = .returned (.tuple #[]) ∧ u' = .returning ∧ w' = w := by
 refine callsD_of_wpS Tryz.func188 rfl fun c₀ cs hu => ?_
 apply wpS_seq
 apply wpS_region
 simp [wpOpsS, go_sem, recoverD, hu, Tryz.ntmps188, Exit.thenS]
 refine wpS_cond (t := false) (by simp [Act.eval, Array.replicate]) ?_
 simp only [Bool.false_eq_true, if_false]
 refine wpS_of_wp (wp_skip ?_)
 cases c₀
 simp_all [bodyPostS, results, Tryz.results188]
set_option maxHeartbeats 8000000 in
set_option maxRecDepth 100000 in
theorem treeCgroupSummary (k : Nat) (text : ByteArray) (r : List S162) (n : S43) (w : World) (hT : TabW w) (h : cgTextF k text = some (r, none)) (hn : nodeCgroupSummary k r = some n) :
  Calls Tryz.prog 129 #[.func (.func 130) #[.agg #[.string text]] #[], .func (.func 131) #[] #[]] w fun e w' => ∃ v7, e = .returned (.tuple #[nodeVal n v7, .int .i64 0]) ∧ KidsV n w w' v7 ∧ Below w.heap.size w w' := by
 have hmf : ∀ (fn : Fn) (first cap : Array Value) (w : World), (Instr.makeFunc fn first cap).run Tryz.prog w = .ok (.func fn first cap) w := fun _ _ _ _ => rfl
 have HT := Aside0.mk hT
 have HL := Aside0.mk h
 have HN := Aside0.mk hn
 clear hT h hn
 go_enter_defers Tryz.func129, Tryz.ntmps129
 go_wp2_with (first
   | ((with_reducible refine gate_dst (N := 4) rfl ?_); refine box_event ?hg (N := 4) ?hd (cs := nodeZero) (t := 43) ?hr ?_; (case hd => rfl); (case hg => rfl); (case hr => first | (go_simp; done) | (go_simp; rfl)); intro gb hgb w1 hbox hb1; have HBX := Aside0.mk hbox; have HB1 := Aside0.mk hb1; have HGB := Aside0.mk hgb; clear hgb hbox hb1)
   | ((with_reducible refine gate_dst (N := 5) rfl ?_); refine box_event ?hg (N := 5) ?hd (cs := #[.int .i64 0]) (t := 3) ?hr ?_; (case hd => rfl); (case hg => rfl); (case hr => first | (go_simp; done) | (go_simp; rfl)); intro gc hgc w2 hboxc hb2; have HBC := Aside0.mk hboxc; have HBX2 := Aside0.mk (blk_below HBX.out hb2); have HB2 := Aside0.mk (below_then HB1.out HB1.out.size hb2); have HGC := Aside0.mk hgc; have HCG := Aside0.mk (show gb < gc by rw [hgc]; exact blk_lt HBX.out); have HWC := Aside0.mk (show w.heap.size ≤ gc by rw [hgc]; exact HB1.out.size); clear hgc hboxc hb2)
   | (go_at_call 130; refine (fsCgroupSummary k text r _ (tabW_below HT.out HB2.out) HL.out).mono ?_; rintro e w3 ⟨vr, rfl, hg2, hb3⟩; obtain ⟨Ar, cr, rfl, hlr, hCr⟩ := Kd.R_reads hg2; have HG := Aside0.mk hCr; have HGL := Aside0.mk hlr; have HBX3 := Aside0.mk (blk_below HBX2.out hb3); have HBC3 := Aside0.mk (blk_below HBC.out hb3); have HB3 := Aside0.mk (below_then HB2.out HB2.out.size hb3); clear hg2 hb3 hlr hCr)
   | (go_at_call 131; refine (litCgroupSummary k Ar cr r n _ HG.out HGL.out HN.out).mono ?_; rintro e w4 ⟨v7, rfl, ho, hb4⟩; have HK := Aside0.mk ho; have HBX4 := Aside0.mk (blk_below HBX3.out hb4); have HBC4 := Aside0.mk (blk_below HBC3.out hb4); have HB4 := Aside0.mk (below_then HB3.out HB3.out.size hb4); have HLC := Aside0.mk (show gc < w3.heap.size from blk_lt HBC3.out); clear ho hb4)
   | ((with_reducible refine gate_ (.store 43 (.tmp 4) (.tmp 19)) rfl ?_); refine box_store rfl rfl 43 (.tmp 4) (.tmp 19) rfl gb 43 nodeZero (nodeVal n v7) (nodeCells n v7) rfl rfl rfl node_size (node_one HK.out.slice) HBX4.out rfl ?_; intro W5 hbk hgr; have HBK5 := Aside0.mk hbk; have HK5 := Aside0.mk (HK.out.grown hgr (Nat.lt_trans HCG.out HLC.out)); have HBC5 := Aside0.mk (blk_grown HBC4.out hgr (by have := HCG.out; intro e; injection e with e; omega)); have HB5 := Aside0.mk (pw_below_grown HB4.out (some gb) HB4.out.size hgr (fun k e => by cases e; rw [HGB.out]; exact Nat.le_refl _)); have hfc := blk_frozen HBC5.out 0; have hcc : W5.cell? ⟨gc, 0, none⟩ = some (.int .i64 0) := (blk_cell HBC5.out 0).trans rfl; clear hbk hgr))
 have hbk6 := blk_far HBK5.out (p := ⟨gc, 0, none⟩) (by have := HCG.out; show gb ≠ gc; omega) (.int .i64 0)
 have hbc6 := blk_put HBC5.out 0 (.int .i64 0) rfl
 have HB6 := below_set HB5.out HWC.out (j := 0) (v := .int .i64 0)
 have HK6 := (HK5.out.grown (grown_set W5 gc 0 (.int .i64 0)) HLC.out).lower HB3.out.size
 generalize W5.setCell ⟨gc, 0, none⟩ (.int .i64 0) = W6 at hbk6 hbc6 HB6 HK6 ⊢
 have cc : W6.cell? ⟨gc, 0, none⟩ = some (.int .i64 0) := (blk_cell hbc6 0).trans rfl
 have cb0 : W6.cell? ⟨gb, 0, none⟩ = some (.string n.f0) := (blk_cell hbk6 0).trans rfl
 have cb1 : W6.cell? ⟨gb, 1, none⟩ = some (.int .i64 n.f1) := (blk_cell hbk6 1).trans rfl
 have cb2 : W6.cell? ⟨gb, 2, none⟩ = some (.bool n.f2) := (blk_cell hbk6 2).trans rfl
 have cb3 : W6.cell? ⟨gb, 3, none⟩ = some (.int .i64 n.f3) := (blk_cell hbk6 3).trans rfl
 have cb4 : W6.cell? ⟨gb, 4, none⟩ = some (.int .u64 n.f4) := (blk_cell hbk6 4).trans rfl
 have cb5 : W6.cell? ⟨gb, 5, none⟩ = some (.float .f64 n.f5) := (blk_cell hbk6 5).trans rfl
 have cb6 : W6.cell? ⟨gb, 6, none⟩ = some (.string n.f6) := (blk_cell hbk6 6).trans rfl
 have cb7 : W6.cell? ⟨gb, 7, none⟩ = some (v7) := (blk_cell hbk6 7).trans rfl
 refine leaves_cons (f := 188) (args := #[.pointer (some ⟨gb, 0, none⟩), .pointer (some ⟨gc, 0, none⟩)]) (by simp) (by simp [go_sem]) ?_
 refine (idleCgroupSummary _ _ _).mono ?_
 rintro e u' w'' ⟨rfl, rfl, rfl⟩
 simp [Leaves, settle, results, Tryz.results129, go_sem, cb0, cb1, cb2, cb3, cb4, cb5, cb6, cb7, cc]
 exact ⟨v7, rfl, HK6, HB6⟩
set_option maxHeartbeats 8000000 in
set_option maxRecDepth 100000 in
theorem implCgroupSummary (k : Nat) (text : ByteArray) (r : List S162) (n : S43) (w : World) (hT : TabW w) (h : cgTextF k text = some (r, none)) (hn : nodeCgroupSummary k r = some n) :
  Calls Tryz.prog 44 #[.string text] w fun e w' => ∃ v7, e = .returned (.tuple #[nodeVal n v7, .int .i64 0]) ∧ KidsV n w w' v7 ∧ Below w.heap.size w w' := by
 have hmf : ∀ (fn : Fn) (first cap : Array Value) (w : World), (Instr.makeFunc fn first cap).run Tryz.prog w = .ok (.func fn first cap) w := fun _ _ _ _ => rfl
 have HT := Aside0.mk hT
 have HL := Aside0.mk h
 have HN := Aside0.mk hn
 clear hT h hn
 go_enter Tryz.func44, Tryz.ntmps44
 go_wp2_with (first
   | ((with_reducible refine gate_dst (N := 2) rfl ?_); refine box_event ?hg (N := 2) ?hd (cs := nodeZero) (t := 43) ?hr ?_; (case hd => rfl); (case hg => rfl); (case hr => first | (go_simp; done) | (go_simp; rfl)); intro gb hgb w1 hbox hb1; have HBX := Aside0.mk hbox; have HB1 := Aside0.mk hb1; have HGB := Aside0.mk hgb; clear hgb hbox hb1)
   | (go_at_call 57; refine (procfs_TextFS.calls text text _ rfl).mono ?_; rintro e w2 ⟨rfl, hb2⟩; have HBX2 := Aside0.mk (blk_below HBX.out hb2); have HB2 := Aside0.mk (below_then HB1.out HB1.out.size hb2); clear hb2)
   | (go_at_call 129; refine (treeCgroupSummary k text r n _ (tabW_below HT.out HB2.out) HL.out HN.out).mono ?_; rintro e w3 ⟨v7, rfl, ho, hb3⟩; have HK := Aside0.mk ho; have HBX3 := Aside0.mk (blk_below HBX2.out hb3); have HB3 := Aside0.mk (below_then HB2.out HB2.out.size hb3); have HLT := Aside0.mk (show gb < w2.heap.size from blk_lt HBX2.out); clear ho hb3)
   | ((with_reducible refine gate_ (.store 43 (.tmp 2) (.tmp 8)) rfl ?_); refine box_store rfl rfl 43 (.tmp 2) (.tmp 8) rfl gb 43 nodeZero (nodeVal n v7) (nodeCells n v7) rfl rfl rfl node_size (node_one HK.out.slice) HBX3.out rfl ?_; intro W' hbk hgr))
 refine bodyPost_ret (results_cell_tmp rfl _ _ gb 43 _ (0, 0) _ rfl hbk Tryz.underlying43 rfl node_size) rfl ?_
 refine ⟨v7, rfl, (HK.out.grown hgr HLT.out).lower HB2.out.size, pw_below_grown HB3.out (some gb) HB3.out.size hgr (fun k e => by cases e; rw [HGB.out]; exact Nat.le_refl _)⟩
def doorCgroupSummary (s : ByteArray) (n : S43) : Prop := ∃ k r, cgTextF k s = some (r, none) ∧ nodeCgroupSummary k r = some n
theorem doorCgroupSummary_calls (text : ByteArray) (n : S43) (w : World) (hT : TabW w) (h : doorCgroupSummary text n) :
  Calls Tryz.prog 44 #[.string text] w fun e w' => ∃ v7, e = .returned (.tuple #[nodeVal n v7, .int .i64 0]) ∧ KidsV n w w' v7 ∧ Below w.heap.size w w' := by
 obtain ⟨k, r, h1, h2⟩ := h
 exact implCgroupSummary k text r n w hT h1 h2
end Go.Proofs.YtednjmngalmdkaaGreatDoor.GPC
end
section
/- laws.back at CgroupSummary: it answers true where BackOk holds. Conditions: BackOk; the tables as laid. -/
namespace Go.Proofs.YtednjmngalmdkaaGreatDoor.GPC
open Go.RowKit Go.Proofs.YtednjmngalmdkaaGreatDoorW.PrintWords Go.Proofs.YtednjmngalmdkaaGreatDoorW.PrintLast
set_option linter.unusedVariables false
set_option linter.unusedSimpArgs false
attribute [local go_sem] run_store_float
set_option maxHeartbeats 16000000 in
set_option maxRecDepth 100000 in
theorem backCgroupSummary (A0 : Option Addr) (c0 : Nat) (l0 : List S31) (w : World) (hr0 : Kd.C k31 w A0 l0.length l0) (hc0 : l0.length ≤ c0) (hT : TabW w) (h : BackOk (fun k => spec_CgroupSummaryPrint.f k l0) (fun k => spec_CgroupSummaryTree.f k l0) (fun s n => doorCgroupSummary s n) l0) :
  Calls Tryz.prog 14 #[.slice A0 l0.length c0, .func (.func 42) #[] #[], .func (.func 43) #[] #[], .func (.func 44) #[] #[]] w fun e w' => e = .returned (.bool true) ∧ Below w.heap.size w w' := by
 have HR := Aside0.mk hr0
 have HT := Aside0.mk hT
 have HC := Aside0.mk hc0
 clear hr0 hT hc0
 cases h with
 | long h1 =>
  have d1 : decide ((l0.length : Int) > 1000) = true := decide_eq_true (by omega)
  have d1' : decide (1000 < l0.length) = true := decide_eq_true (by omega)
  go_enter Tryz.func14, Tryz.ntmps14
  go_wp2
  go_ret
  exact ⟨rfl, Below.refl _ _⟩
 | noPrint h1 k text told hp hno =>
  have d1 : decide ((l0.length : Int) > 1000) = false := decide_eq_false (by omega)
  have d1' : decide (1000 < l0.length) = false := decide_eq_false (by omega)
  have HP := Aside0.mk hp
  clear hp h1
  go_enter Tryz.func14, Tryz.ntmps14
  have hd : (told != 1) = true ∨ (told != 1) = false ∧ decide ((text.size : Int) > 40000) = true := by
   rcases hno with hh | hh
   ·exact .inl (by simpa using hh)
   ·by_cases he : told = 1
    ·exact .inr ⟨by simp [he], decide_eq_true (by omega)⟩
    ·exact .inl (by simpa using he)
  rcases hd with q1 | ⟨q1, q2⟩
  all_goals (go_wp2_with (first
   | (go_at_call 42; refine (spec_CgroupSummaryPrint.calls k A0 c0 l0 text told _ HR.out HC.out HP.out).mono ?_; rintro e w1 ⟨rfl, hb⟩; have HB1 := Aside0.mk hb; clear hb)
   | (go_at_call 46; refine (lives_calls _ (tabW_below HT.out HB1.out)).mono ?_; rintro e w2 ⟨rfl, hb⟩; have HB2 := Aside0.mk (below_then HB1.out HB1.out.size hb); clear hb)))
  all_goals go_ret
  all_goals exact ⟨rfl, HB2.out⟩
 | noTree h1 k text hp hsz r tt ht hno =>
  have d1 : decide ((l0.length : Int) > 1000) = false := decide_eq_false (by omega)
  have d1' : decide (1000 < l0.length) = false := decide_eq_false (by omega)
  have q2 : decide ((text.size : Int) > 40000) = false := decide_eq_false (by omega)
  have q2' : decide (40000 < text.size) = false := decide_eq_false (by omega)
  have q3 : (tt != 1) = true := by simpa using hno
  have HP := Aside0.mk hp
  have HTR := Aside0.mk ht
  clear hp ht h1 hno hsz
  obtain ⟨r1, r2, r3, r4, r5, r6, r7, r8⟩ := r
  go_enter Tryz.func14, Tryz.ntmps14
  go_wp2_with (first
   | (go_at_call 42; refine (spec_CgroupSummaryPrint.calls k A0 c0 l0 text 1 _ HR.out HC.out HP.out).mono ?_; rintro e w1 ⟨rfl, hb⟩; have HB1 := Aside0.mk hb; clear hb)
   | (go_at_call 43; refine (spec_CgroupSummaryTree.calls k A0 c0 l0 r1 r2 r3 r4 r5 r6 r7 r8 tt _ (Kd.C_below HR.out HB1.out) HC.out HTR.out).mono ?_; rintro e w2 ⟨v7, rfl, hv, hb⟩; have HB2 := Aside0.mk (below_then HB1.out HB1.out.size hb); clear hb)
   | ((with_reducible refine gate_dst (N := 11) rfl ?_); refine box_event ?hg (N := 11) ?hd (cs := nodeZero) (t := 39) ?hr ?_; (case hd => rfl); (case hg => rfl); (case hr => first | (go_simp; done) | (go_simp; rfl)); intro gb hgb w3 hbox hb; have HBX := Aside0.mk hbox; have HB3 := Aside0.mk (below_then HB2.out HB2.out.size hb); have HGB := Aside0.mk (show w.heap.size ≤ gb by rw [hgb]; exact HB2.out.size); clear hgb hbox hb)
   | ((with_reducible refine gate_ (.store 39 (.tmp 11) (.tmp 35)) rfl ?_); refine box_store rfl rfl 39 (.tmp 11) (.tmp 35) rfl gb 39 nodeZero (snodeVal ⟨r1, r2, r3, r4, r5, r6, r7, r8⟩ v7) (snodeCells ⟨r1, r2, r3, r4, r5, r6, r7, r8⟩ v7) rfl rfl rfl snode_size (snode_one (Kd.V_sl hv)) HBX.out rfl ?_; intro w4 hbk hgr; have HB4 := Aside0.mk (pw_below_grown HB3.out (some gb) HB3.out.size hgr (fun k e => by cases e; exact HGB.out)); clear hbk hgr)
   | (go_at_call 46; refine (lives_calls _ (tabW_below HT.out HB4.out)).mono ?_; rintro e w5 ⟨rfl, hb⟩; have HB5 := Aside0.mk (below_then HB4.out HB4.out.size hb); clear hb))
  go_ret
  exact ⟨rfl, HB5.out⟩
 | same h1 k text hp hsz r ht n hd k2 m hm hs =>
  have d1 : decide ((l0.length : Int) > 1000) = false := decide_eq_false (by omega)
  have d1' : decide (1000 < l0.length) = false := decide_eq_false (by omega)
  have q2 : decide ((text.size : Int) > 40000) = false := decide_eq_false (by omega)
  have q2' : decide (40000 < text.size) = false := decide_eq_false (by omega)
  have HP := Aside0.mk hp
  have HTR := Aside0.mk ht
  have HD := Aside0.mk hd
  have HM := Aside0.mk hm
  have HS := Aside0.mk hs
  clear hp ht h1 hsz hd hm hs
  obtain ⟨r1, r2, r3, r4, r5, r6, r7, r8⟩ := r
  obtain ⟨m1, m2, m3, m4, m5, m6, m7, m8⟩ := m
  go_enter Tryz.func14, Tryz.ntmps14
  go_wp2_with (first
   | (go_at_call 42; refine (spec_CgroupSummaryPrint.calls k A0 c0 l0 text 1 _ HR.out HC.out HP.out).mono ?_; rintro e w1 ⟨rfl, hb⟩; have HB1 := Aside0.mk hb; clear hb)
   | (go_at_call 43; refine (spec_CgroupSummaryTree.calls k A0 c0 l0 r1 r2 r3 r4 r5 r6 r7 r8 1 _ (Kd.C_below HR.out HB1.out) HC.out HTR.out).mono ?_; rintro e w2 ⟨v7, rfl, hv, hb⟩; obtain ⟨At, ct, rfl, hlt, hFt⟩ := hv; have HCT := Aside0.mk (Kd.F_now hFt); have HLT := Aside0.mk hlt; have HB2 := Aside0.mk (below_then HB1.out HB1.out.size hb); clear hb hlt hFt)
   | ((with_reducible refine gate_dst (N := 11) rfl ?_); refine box_event ?hg (N := 11) ?hd (cs := nodeZero) (t := 39) ?hr ?_; (case hd => rfl); (case hg => rfl); (case hr => first | (go_simp; done) | (go_simp; rfl)); intro gb hgb w3 hbox hb; have HBX := Aside0.mk hbox; have HB3 := Aside0.mk hb; have HGB := Aside0.mk (show w2.heap.size ≤ gb by rw [hgb]; exact Nat.le_refl _); clear hgb hbox hb)
   | ((with_reducible refine gate_ (.store 39 (.tmp 11) (.tmp 35)) rfl ?_); refine box_store rfl rfl 39 (.tmp 11) (.tmp 35) rfl gb 39 nodeZero (snodeVal ⟨r1, r2, r3, r4, r5, r6, r7, r8⟩ (.slice At r8.length ct)) (snodeCells ⟨r1, r2, r3, r4, r5, r6, r7, r8⟩ (.slice At r8.length ct)) rfl rfl rfl snode_size (snode_one ⟨_, _, rfl⟩) HBX.out rfl ?_; intro w4 hbk hgr; have HW := Aside0.mk hbk; have HB4 := Aside0.mk (pw_below_grown HB3.out (some gb) HB3.out.size hgr (fun k e => by cases e; exact HGB.out)); clear hbk hgr)
   | (go_at_call 44; refine (doorCgroupSummary_calls text n _ (tabW_below HT.out (below_then HB2.out HB2.out.size HB4.out)) HD.out).mono ?_; rintro e w5 ⟨v9, rfl, ho, hb⟩; obtain ⟨Ag, cg, rfl⟩ := ho.slice; obtain ⟨_, hlg, hCg⟩ := Kd.R_reads' ho; have HCG := Aside0.mk hCg; have HLG := Aside0.mk hlg; have HW5 := Aside0.mk (blk_below HW.out hb); have HB5 := Aside0.mk (below_then HB4.out HB4.out.size hb); clear ho hb hlg hCg)
   | ((with_reducible refine gate_dst (N := 12) rfl ?_); refine box_event ?hg (N := 12) ?hd (cs := nodeZero) (t := 43) ?hr ?_; (case hd => rfl); (case hg => rfl); (case hr => first | (go_simp; done) | (go_simp; rfl)); intro gc hgc w6 hbox hb; have HCX := Aside0.mk hbox; have HW6 := Aside0.mk (blk_below HW5.out hb); have HB6 := Aside0.mk hb; have HGC := Aside0.mk (show w5.heap.size ≤ gc by rw [hgc]; exact Nat.le_refl _); have HNE := Aside0.mk (show gb < gc by rw [hgc]; exact blk_lt HW5.out); clear hgc hbox hb)
   | ((with_reducible refine gate_ (.store 43 (.tmp 12) (.tmp 44)) rfl ?_); refine box_store rfl rfl 43 (.tmp 12) (.tmp 44) rfl gc 43 nodeZero (nodeVal n (.slice Ag n.f7.length cg)) (nodeCells n (.slice Ag n.f7.length cg)) rfl rfl rfl node_size (node_one ⟨_, _, rfl⟩) HCX.out rfl ?_; intro w7 hbk hgr; have HG7 := Aside0.mk hbk; have HW7 := Aside0.mk (blk_grown HW6.out hgr (by have := HNE.out; intro e; injection e with e; omega)); have HB7 := Aside0.mk (pw_below_grown HB6.out (some gc) HB6.out.size hgr (fun k e => by cases e; exact HGC.out)); clear hbk hgr))
  have HB27 := Aside0.mk (below_then HB5.out HB5.out.size HB7.out)
  have HB07 := Aside0.mk (below_then HB2.out HB2.out.size HB27.out)
  have KA : Aside0 (∀ W : World, Below w7.heap.size w7 W → (Below w7.heap.size w7 W ∧ W.cell? ⟨gc, 0, none⟩ = some (.string n.f0) ∧ W.cell? ⟨gc, 1, none⟩ = some (.int .i64 n.f1) ∧ W.cell? ⟨gc, 2, none⟩ = some (.bool n.f2) ∧ W.cell? ⟨gc, 3, none⟩ = some (.int .i64 n.f3) ∧ W.cell? ⟨gc, 4, none⟩ = some (.int .u64 n.f4) ∧ W.cell? ⟨gc, 5, none⟩ = some (.float .f64 n.f5) ∧ W.cell? ⟨gc, 6, none⟩ = some (.string n.f6) ∧ W.cell? ⟨gc, 7, none⟩ = some (.slice Ag n.f7.length cg) ∧ W.cell? ⟨gb, 0, none⟩ = some (.string r1) ∧ W.cell? ⟨gb, 1, none⟩ = some (.int .i64 r2) ∧ W.cell? ⟨gb, 2, none⟩ = some (.bool r3) ∧ W.cell? ⟨gb, 3, none⟩ = some (.int .i64 r4) ∧ W.cell? ⟨gb, 4, none⟩ = some (.int .u64 r5) ∧ W.cell? ⟨gb, 5, none⟩ = some (.float .f64 r6) ∧ W.cell? ⟨gb, 6, none⟩ = some (.string r7) ∧ W.cell? ⟨gb, 7, none⟩ = some (.slice At r8.length ct))) := ⟨fun W hb => by
   have h1 := blk_below HG7.out hb
   have h2 := blk_below HW7.out hb
   exact ⟨hb, (blk_cell h1 0).trans rfl, (blk_cell h1 1).trans rfl, (blk_cell h1 2).trans rfl, (blk_cell h1 3).trans rfl, (blk_cell h1 4).trans rfl, (blk_cell h1 5).trans rfl, (blk_cell h1 6).trans rfl, (blk_cell h1 7).trans rfl, (blk_cell h2 0).trans rfl, (blk_cell h2 1).trans rfl, (blk_cell h2 2).trans rfl, (blk_cell h2 3).trans rfl, (blk_cell h2 4).trans rfl, (blk_cell h2 5).trans rfl, (blk_cell h2 6).trans rfl, (blk_cell h2 7).trans rfl⟩⟩
  go_region_held3 (fun W => Below w7.heap.size w7 W ∧ W.cell? ⟨gc, 0, none⟩ = some (.string n.f0) ∧ W.cell? ⟨gc, 1, none⟩ = some (.int .i64 n.f1) ∧ W.cell? ⟨gc, 2, none⟩ = some (.bool n.f2) ∧ W.cell? ⟨gc, 3, none⟩ = some (.int .i64 n.f3) ∧ W.cell? ⟨gc, 4, none⟩ = some (.int .u64 n.f4) ∧ W.cell? ⟨gc, 5, none⟩ = some (.float .f64 n.f5) ∧ W.cell? ⟨gc, 6, none⟩ = some (.string n.f6) ∧ W.cell? ⟨gc, 7, none⟩ = some (.slice Ag n.f7.length cg) ∧ W.cell? ⟨gb, 0, none⟩ = some (.string r1) ∧ W.cell? ⟨gb, 1, none⟩ = some (.int .i64 r2) ∧ W.cell? ⟨gb, 2, none⟩ = some (.bool r3) ∧ W.cell? ⟨gb, 3, none⟩ = some (.int .i64 r4) ∧ W.cell? ⟨gb, 4, none⟩ = some (.int .u64 r5) ∧ W.cell? ⟨gb, 5, none⟩ = some (.float .f64 r6) ∧ W.cell? ⟨gb, 6, none⟩ = some (.string r7) ∧ W.cell? ⟨gb, 7, none⟩ = some (.slice At r8.length ct))
   (first
    | exact KA.out _ (below_drew (Below.refl _ _))
    | (go_split_ands; exact KA.out _ (keepS (by assumption) hb'))
    | (go_split_ands; exact KA.out _ (below_drew (by assumption))))
   (first
    | (go_at_call 48; (with_reducible refine (laws_toNode.calls k2 n.f0 n.f1 n.f2 n.f3 n.f4 n.f5 n.f6 Ag cg n.f7 m1 m2 m3 m4 m5 m6 m7 m8 _ (by go_split_ands; exact Kd.C_below HCG.out (keepS HB7.out (by assumption))) HLG.out HM.out).mono ?_); rintro e w' ⟨v9, rfl, hom, hb'⟩; obtain ⟨Am, cm, rfl⟩ := Kd.R_slice hom)
    | (go_at_call 47; (with_reducible refine (spec_SameNode.calls k2 m1 m2 m3 m4 m5 m6 m7 Am cm m8 r1 r2 r3 r4 r5 r6 r7 At ct r8 true _ (by first | exact (Kd.R_reads' hom).2.2 | exact Kd.C_below (Kd.R_reads' hom).2.2 (below_drew (Below.refl _ _))) (Kd.R_reads' hom).2.1 (by go_split_ands; exact Kd.C_below HCT.out (keepS HB27.out (by assumption))) HLT.out HS.out).mono ?_); rintro e w' ⟨rfl, hb'⟩)
    | (go_at_call 46; (with_reducible refine (lives_calls _ (by go_split_ands; exact tabW_below HT.out (keepS HB07.out (by assumption)))).mono ?_); rintro e w' ⟨rfl, hb'⟩))
  go_split_ands
  go_wp2
  go_ret
  exact ⟨rfl, keepS HB07.out (by assumption)⟩
end Go.Proofs.YtednjmngalmdkaaGreatDoor.GPC
end
section
/- laws.FnCgroupSummaryBack answers true where BackOk holds. Conditions: BackOk; the tables as laid. -/
namespace Go.Proofs.YtednjmngalmdkaaGreatDoor.GPC
open Go.RowKit Go.Proofs.YtednjmngalmdkaaGreatDoorW.PrintWords Go.Proofs.YtednjmngalmdkaaGreatDoorW.PrintLast
set_option linter.unusedVariables false
set_option maxHeartbeats 8000000 in
set_option maxRecDepth 100000 in
theorem lawCgroupSummary (A0 : Option Addr) (c0 : Nat) (l0 : List S31) (w : World) (hr0 : Kd.C k31 w A0 l0.length l0) (hc0 : l0.length ≤ c0) (hT : TabW w) (k : Nat) (b : Bool) (hz : laws_zzFits5.f k l0 = some b)
  (h : b = true → BackOk (fun k => spec_CgroupSummaryPrint.f k l0) (fun k => spec_CgroupSummaryTree.f k l0) (fun s n => doorCgroupSummary s n) l0) :
  Calls Tryz.prog 12 #[.slice A0 l0.length c0] w fun e w' => e = .returned (.bool true) ∧ Below w.heap.size w w' := by
 have HR := Aside0.mk hr0
 have HT := Aside0.mk hT
 have HC := Aside0.mk hc0
 have HZ := Aside0.mk hz
 have H := Aside0.mk h
 clear hr0 hT hc0 hz h
 cases b
 ·go_enter Tryz.func12, Tryz.ntmps12
  go_wp2_with (first
   | (go_at_call 13; refine (laws_zzFits5.calls k A0 c0 l0 false _ HR.out HC.out HZ.out).mono ?_; rintro e w1 ⟨rfl, hb⟩; have HB1 := Aside0.mk hb; clear hb))
  go_ret
  exact ⟨rfl, HB1.out⟩
 ·have H2 := Aside0.mk (H.out rfl)
  clear H
  go_enter Tryz.func12, Tryz.ntmps12
  go_wp2_with (first
   | (go_at_call 13; refine (laws_zzFits5.calls k A0 c0 l0 true _ HR.out HC.out HZ.out).mono ?_; rintro e w1 ⟨rfl, hb⟩; have HB1 := Aside0.mk hb; clear hb)
   | (go_at_call 14; refine (backCgroupSummary A0 c0 l0 _ (Kd.C_below HR.out HB1.out) HC.out (tabW_below HT.out HB1.out) H2.out).mono ?_; rintro e w2 ⟨rfl, hb⟩; have HB2 := Aside0.mk (keepS HB1.out hb); clear hb))
  go_ret
  exact ⟨rfl, HB2.out⟩
end Go.Proofs.YtednjmngalmdkaaGreatDoor.GPC
end
section
/- Plain facts: a tree of the door, handed over, is the same tree; a tree is the same as itself. Conditions: a depth, lists of at most a million parts. -/
namespace Go.Proofs.YtednjmngalmdkaaGreatDoor.GPC
open Go Go.RowKit Go.Proofs.YtednjmngalmdkaaGreatDoorW.PrintWords Go.Proofs.YtednjmngalmdkaaGreatDoorW.PrintLast
set_option linter.unusedVariables false
def tup39 (n : S39) : N8 S39 := (n.f0, n.f1, n.f2, n.f3, n.f4, n.f5, n.f6, n.f7)
def convN : Nat → S43 → S39
 | 0, n => ⟨n.f0, n.f1, n.f2, n.f3, n.f4, n.f5, n.f6, []⟩
 | d + 1, n => ⟨n.f0, n.f1, n.f2, n.f3, n.f4, n.f5, n.f6, n.f7.map (convN d)⟩
def FitN : Nat → S43 → Prop
 | 0, n => n.f7 = []
 | d + 1, n => n.f7.length ≤ 1000000 ∧ ∀ x ∈ n.f7, FitN d x
def FitS : Nat → S39 → Prop
 | 0, n => n.f7 = []
 | d + 1, n => n.f7.length ≤ 1000000 ∧ ∀ x ∈ n.f7, FitS d x
theorem fit_conv : ∀ (d : Nat) (n : S43), FitN d n → FitS d (convN d n)
 | 0, n, h => rfl
 | d + 1, n, h => ⟨by simpa [convN] using h.1, fun x hx => by
   simp only [convN, List.mem_map] at hx
   obtain ⟨y, hy, rfl⟩ := hx
   exact fit_conv d y (h.2 y hy)⟩
theorem rd43 (l : List S43) (i : Nat) (h : i < l.length) : rd_T43 l (i : Int) = l[i] := by
 simp [rd_T43, List.getD_eq_getElem?_getD, List.getElem?_eq_getElem h]
theorem rd39 (l : List S39) (i : Nat) (h : i < l.length) : rd_T39 l (i : Int) = l[i] := by
 simp [rd_T39, List.getD_eq_getElem?_getD, List.getElem?_eq_getElem h]
theorem eta39 (x : S39) : (⟨(tup39 x).1, (tup39 x).2.1, (tup39 x).2.2.1, (tup39 x).2.2.2.1, (tup39 x).2.2.2.2.1, (tup39 x).2.2.2.2.2.1, (tup39 x).2.2.2.2.2.2.1, (tup39 x).2.2.2.2.2.2.2⟩ : S39) = x := by cases x; rfl
theorem toNode_loop (l : List S43) (hl : l.length ≤ 1000000) (g : S43 → S39) (hg : ∀ x ∈ l, Ev (fun k => laws_toNode.f k x.f0 x.f1 x.f2 x.f3 x.f4 x.f5 x.f6 x.f7) (tup39 (g x))) (a0 : ByteArray) (a1 : Int) (a2 : Bool) (a3 a4 : Int) (a5 : Nat) (a6 : ByteArray) :
  ∀ (d i : Nat) (acc : List S39), i + d = l.length → acc.length ≤ i → Ev (fun k => laws_toNode.l0 k l (l.length : Int) (i : Int) a0 a1 a2 a3 a4 a5 a6 acc) (a0, a1, a2, a3, a4, a5, a6, acc ++ (l.drop i).map g)
 | 0, i, acc, h, ha => by
  rw [List.drop_eq_nil_of_le (by omega), List.map_nil, List.append_nil]
  exact Ev.step (f := fun _ => some (a0, a1, a2, a3, a4, a5, a6, acc)) (fun k => by simp only [laws_toNode.l0]; rw [if_neg (by omega)]) (Ev.now _)
 | d + 1, i, acc, h, ha => by
  have hi : i < l.length := by omega
  have hw : wrap64 ((i : Int) + 1) = ((i + 1 : Nat) : Int) := by unfold wrap64; omega
  have hx := hg l[i] (List.getElem_mem hi)
  have ih := toNode_loop l hl g hg a0 a1 a2 a3 a4 a5 a6 d (i + 1) (acc ++ [g l[i]]) (by omega) (by simp; omega)
  rw [List.append_assoc, List.singleton_append, ← List.map_cons, ← List.drop_eq_getElem_cons hi] at ih
  refine Ev.step (fun k => by simp only [laws_toNode.l0]; rw [if_pos (by omega), if_pos (by omega), if_pos (by omega), rd43 l i hi, hw]) (Ev.bind (f := fun k (bt : N8 S39) => if acc.length < 1466015503701 then (laws_toNode.l0 k l (l.length : Int) ((i + 1 : Nat) : Int) a0 a1 a2 a3 a4 a5 a6 (acc ++ [(⟨bt.1, bt.2.1, bt.2.2.1, bt.2.2.2.1, bt.2.2.2.2.1, bt.2.2.2.2.2.1, bt.2.2.2.2.2.2.1, bt.2.2.2.2.2.2.2⟩ : S39)])) else none) hx ?_)
  exact Ev.congr (fun k => by rw [if_pos (by omega), eta39]) ih
theorem toNode_ev : ∀ (d : Nat) (n : S43), FitN d n → Ev (fun k => laws_toNode.f k n.f0 n.f1 n.f2 n.f3 n.f4 n.f5 n.f6 n.f7) (tup39 (convN d n))
 | 0, n, h => by
  have := toNode_loop n.f7 (by rw [show n.f7 = [] from h]; simp) (fun x => convN 0 x) (by rw [show n.f7 = [] from h]; simp) n.f0 n.f1 n.f2 n.f3 n.f4 n.f5 n.f6 n.f7.length 0 [] (by omega) (by simp)
  rw [List.drop_zero, List.nil_append] at this
  refine Ev.step (f := fun k => laws_toNode.l0 k n.f7 (n.f7.length : Int) 0 n.f0 n.f1 n.f2 n.f3 n.f4 n.f5 n.f6 []) (fun k => by simp only [laws_toNode.f]) ?_
  have e : tup39 (convN 0 n) = (n.f0, n.f1, n.f2, n.f3, n.f4, n.f5, n.f6, n.f7.map fun x => convN 0 x) := by
   rw [show n.f7 = [] from h]; rfl
  rw [e]
  exact this
 | d + 1, n, h => by
  have := toNode_loop n.f7 h.1 (convN d) (fun x hx => toNode_ev d x (h.2 x hx)) n.f0 n.f1 n.f2 n.f3 n.f4 n.f5 n.f6 n.f7.length 0 [] (by omega) (by simp)
  rw [List.drop_zero, List.nil_append] at this
  exact Ev.step (f := fun k => laws_toNode.l0 k n.f7 (n.f7.length : Int) 0 n.f0 n.f1 n.f2 n.f3 n.f4 n.f5 n.f6 []) (fun k => by simp only [laws_toNode.f]) this
theorem same_loop (n : S39) (hl : n.f7.length ≤ 1000000) (hg : ∀ x ∈ n.f7, Ev (fun k => spec_SameNode.f k x.f0 x.f1 x.f2 x.f3 x.f4 x.f5 x.f6 x.f7 x.f0 x.f1 x.f2 x.f3 x.f4 x.f5 x.f6 x.f7) true) :
  ∀ (d i : Nat), i + d = n.f7.length → Ev (fun k => spec_SameNode.l0 k (n.f7.length : Int) (i : Int) n.f0 n.f1 n.f2 n.f3 n.f4 n.f5 n.f6 n.f7 n.f0 n.f1 n.f2 n.f3 n.f4 n.f5 n.f6 n.f7) true
 | 0, i, h => Ev.step (f := fun _ => some true) (fun k => by simp only [spec_SameNode.l0]; rw [if_neg (by omega)]) (Ev.now _)
 | d + 1, i, h => by
  have hi : i < n.f7.length := by omega
  have hw : wrap64 ((i : Int) + 1) = ((i + 1 : Nat) : Int) := by unfold wrap64; omega
  have hx := hg n.f7[i] (List.getElem_mem hi)
  have ih := same_loop n hl hg d (i + 1) (by omega)
  refine Ev.step (fun k => by simp only [spec_SameNode.l0]; rw [if_pos (by omega), if_pos (by omega), if_pos (by omega), if_pos (by omega), rd39 n.f7 i hi, hw]) (Ev.bind (f := fun k t => if t = true then (spec_SameNode.l0 k (n.f7.length : Int) ((i + 1 : Nat) : Int) n.f0 n.f1 n.f2 n.f3 n.f4 n.f5 n.f6 n.f7 n.f0 n.f1 n.f2 n.f3 n.f4 n.f5 n.f6 n.f7) else none) hx ?_)
  exact Ev.congr (fun k => if_pos rfl) ih
theorem same_ev : ∀ (d : Nat) (n : S39), FitS d n → Ev (fun k => spec_SameNode.f k n.f0 n.f1 n.f2 n.f3 n.f4 n.f5 n.f6 n.f7 n.f0 n.f1 n.f2 n.f3 n.f4 n.f5 n.f6 n.f7) true := by
 have top : ∀ (n : S39), Ev (fun k => spec_SameNode.l0 k (n.f7.length : Int) 0 n.f0 n.f1 n.f2 n.f3 n.f4 n.f5 n.f6 n.f7 n.f0 n.f1 n.f2 n.f3 n.f4 n.f5 n.f6 n.f7) true → Ev (fun k => spec_SameNode.f k n.f0 n.f1 n.f2 n.f3 n.f4 n.f5 n.f6 n.f7 n.f0 n.f1 n.f2 n.f3 n.f4 n.f5 n.f6 n.f7) true := by
  intro n h
  refine Ev.step (f := fun k => spec_SameNode.j0 k ((n.f7.length : Int) != (n.f7.length : Int)) n.f0 n.f1 n.f2 n.f3 n.f4 n.f5 n.f6 n.f7 n.f0 n.f1 n.f2 n.f3 n.f4 n.f5 n.f6 n.f7) (fun k => ?_) (Ev.step (fun k => ?_) h)
  ·simp [spec_SameNode.f, math_Float64bits.f]
  ·simp only [spec_SameNode.j0]
   rw [if_neg (by simp)]
 intro d
 induction d with
 | zero =>
  intro n h
  have h7 : n.f7 = [] := h
  exact top n (same_loop n (by rw [h7]; simp) (by rw [h7]; simp) n.f7.length 0 (by omega))
 | succ d ih =>
  intro n h
  exact top n (same_loop n h.1 (fun x hx => ih x (h.2 x hx)) n.f7.length 0 (by omega))
theorem back_same {print : Nat → Option (ByteArray × Int)} {tree : Nat → Option (ByteArray × Int × Bool × Int × Int × Nat × ByteArray × List S39 × Int)} {door : ByteArray → S43 → Prop} {l : List S31} (h : l.length ≤ 1000) (text : ByteArray)
  (hp : Ev print (text, 1)) (hsz : text.size ≤ 40000) (d : Nat) (n : S43) (hf : FitN d n)
  (ht : Ev tree ((convN d n).f0, (convN d n).f1, (convN d n).f2, (convN d n).f3, (convN d n).f4, (convN d n).f5, (convN d n).f6, (convN d n).f7, 1)) (hd : door text n) : BackOk print tree door l := by
 obtain ⟨K1, h1⟩ := hp
 obtain ⟨K2, h2⟩ := ht
 obtain ⟨K3, h3⟩ := toNode_ev d n hf
 obtain ⟨K4, h4⟩ := same_ev d (convN d n) (fit_conv d n hf)
 exact BackOk.same h (K1 + K2) text (h1 _ (by omega)) hsz (tup39 (convN d n)) (h2 _ (by omega)) n hd (K3 + K4) (tup39 (convN d n)) (h3 _ (by omega)) (h4 _ (by omega))
end Go.Proofs.YtednjmngalmdkaaGreatDoor.GPC
end
section
/- Plain facts on the printed functions that all the rows share: sizes, bounds, digits. Conditions: lists of at most 2^47 cells. -/
namespace Go.Proofs.YtednjmngalmdkaaGreatDoor.GPC
open Go Go.RowKit Go.Proofs.YtednjmngalmdkaaGreatDoorW.PrintWords Go.Proofs.YtednjmngalmdkaaGreatDoorW.PrintLast Go.Proofs.YtednjmngalmdkaaGreatDoor.PF
set_option linter.unusedVariables false
theorem small_l (m : Int) (l : List Int) (hl : l.length ≤ maxLen) : ∀ (d : Nat) (i : Int), 0 ≤ i → i + d = l.length → Ev (fun k => spec_small.l0 k m l (l.length : Int) i) ((l.drop i.toNat).all fun x => decide (x < m))
 | 0, i, h0, h => by
  refine Ev.step (f := fun _ => some true) (fun k => by simp only [spec_small.l0]; rw [if_neg (by omega)]) ?_
  rw [List.drop_eq_nil_of_le (by omega)]
  exact Ev.now _
 | d + 1, i, h0, h => by
  have hm := hl
  unfold maxLen at hm
  have hw : wrap64 (i + 1) = i + 1 := by unfold wrap64; omega
  have hi : i.toNat < l.length := by omega
  have hrd : rd l i = l[i.toNat] := by simp [rd, List.getD_eq_getElem?_getD, List.getElem?_eq_getElem hi]
  rw [List.drop_eq_getElem_cons hi, List.all_cons, ← hrd]
  by_cases hc : rd l i ≥ m
  ·rw [decide_eq_false (by omega)]
   exact Ev.step (f := fun _ => some false) (fun k => by simp only [spec_small.l0]; rw [if_pos (by omega), if_pos h0, if_pos (by omega), if_pos hc]) (Ev.now _)
  ·rw [decide_eq_true (by omega), Bool.true_and]
   have ih := small_l m l hl d (i + 1) (by omega) (by omega)
   rw [show (i + 1).toNat = i.toNat + 1 by omega] at ih
   exact Ev.step (fun k => by simp only [spec_small.l0]; rw [if_pos (by omega), if_pos h0, if_pos (by omega), if_neg hc, hw]) ih
theorem small_ev (m : Int) (l : List Int) (hl : l.length ≤ maxLen) : Ev (fun k => spec_small.f k m l) (l.all fun x => decide (x < m)) := by
 have := small_l m l hl l.length 0 (by omega) (by omega)
 simp only [Int.toNat_zero, List.drop_zero] at this
 exact this
def strB (l : List UInt8) : ByteArray := ⟨l.toArray⟩
theorem hex_at : ∀ d : Fin 16, strOfNums [bt (⟨#[48, 49, 50, 51, 52, 53, 54, 55, 56, 57, 97, 98, 99, 100, 101, 102]⟩ : ByteArray) (d.val : Int)] = strB [dch d.val] := by decide
theorem hex_n (d : Nat) (h : d < 16) : strOfNums [bt (⟨#[48, 49, 50, 51, 52, 53, 54, 55, 56, 57, 97, 98, 99, 100, 101, 102]⟩ : ByteArray) (d : Int)] = strB [dch d] := hex_at ⟨d, h⟩
theorem u64_w {n : Int} (h0 : 0 ≤ n) (h1 : n < 18446744073709551616) : IntKind.u64.wrap n = n := by
 simp only [IntKind.wrap, IntKind.bits, IntKind.signed, Bool.false_and]
 exact Int.emod_eq_of_lt h0 h1
theorem strB_append (x y : List UInt8) : strB x ++ strB y = strB (x ++ y) := by
 apply ByteArray.ext
 simp [strB]
theorem strB_size (x : List UInt8) : (strB x).size = x.length := by simp [strB, ByteArray.size]
theorem digits_ev (b : Nat) (hb : 2 ≤ b) (hb2 : b ≤ 16) (n : Nat) (hn : n < 18446744073709551616) : Ev (fun k => spec_Digits.f k (n : Int) (b : Int)) (strB (digB b n)) ∧ (digB b n).length ≤ n + 1 := by
 induction n using Nat.strongRecOn with
 | _ n ih =>
  have hmod : n % b < 16 := Nat.lt_of_lt_of_le (Nat.mod_lt _ (by omega)) hb2
  have e1 : Int.tmod (n : Int) (b : Int) = ((n % b : Nat) : Int) := by rw [Int.tmod_eq_emod_of_nonneg (by omega)]; simp
  have e2 : Int.tdiv (n : Int) (b : Int) = ((n / b : Nat) : Int) := by rw [Int.tdiv_eq_ediv_of_nonneg (by omega)]; simp
  have hx := hex_n (n % b) hmod
  unfold digB
  by_cases h : n < b
  ·rw [dif_pos (.inl h)]
   rw [Nat.mod_eq_of_lt h] at hx e1
   refine ⟨Ev.step (f := fun _ => some (strB [dch n])) (fun k => ?_) (Ev.now _), by simp⟩
   simp only [spec_Digits.f]
   rw [if_neg (by omega), e1, if_pos (by omega), if_pos (by omega), if_pos (by omega), hx]
  ·rw [dif_neg (by omega)]
   have hlt : n / b < n := Nat.div_lt_self (by omega) (by omega)
   obtain ⟨ih1, ih2⟩ := ih (n / b) hlt (by omega)
   have hw : IntKind.u64.wrap (Int.tdiv (n : Int) (b : Int)) = ((n / b : Nat) : Int) := by
    rw [e2]
    generalize n / b = q at hlt ⊢
    exact u64_w (by omega) (by omega)
   have h64 : (digB b (n / b)).length ≤ 64 := by
    have := digB_length b (n / b) 63 hb (Nat.lt_of_lt_of_le (show n / b < 2 ^ 64 by omega) (Nat.pow_le_pow_left hb 64))
    exact this
   refine ⟨Ev.step (f := fun k => (spec_Digits.f k ((n / b : Nat) : Int) (b : Int)).bind fun t => if t.size + (strB [dch (n % b)]).size ≤ 9223372036854775807 then some (t ++ strB [dch (n % b)]) else none) (fun k => ?_) (Ev.bind (f := fun _ t => if t.size + (strB [dch (n % b)]).size ≤ 9223372036854775807 then some (t ++ strB [dch (n % b)]) else none) ih1 ?_), ?_⟩
   ·simp only [spec_Digits.f, Option.bind_some]
    rw [if_neg (by omega), e1, if_pos (by omega), if_pos (by omega), if_neg (by omega), hw, hx]
   ·rw [if_pos (by rw [strB_size, strB_size]; simp; omega), strB_append]
    exact Ev.now _
   ·simp; omega
theorem text_ev (n : Nat) (hn : n < 18446744073709551616) : Ev (fun k => spec_Text.f k (n : Int)) (strB (digB 10 n)) :=
 Ev.bind (f := fun _ t => some t) (digits_ev 10 (by omega) (by omega) n hn).1 (Ev.now _)
end Go.Proofs.YtednjmngalmdkaaGreatDoor.GPC
end
section
/- The sizes that zzFits5 lets through, told. No condition. -/
namespace Go.Proofs.YtednjmngalmdkaaGreatDoor.GPC
open Go Go.RowKit Go.Proofs.YtednjmngalmdkaaGreatDoorW.PrintWords Go.Proofs.YtednjmngalmdkaaGreatDoorW.PrintLast Go.Proofs.YtednjmngalmdkaaGreatDoor.PF
set_option linter.unusedVariables false
structure FitR (r : S31) : Prop where
 s : r.f0.size ≤ 2147483647
 n : r.f1.length ≤ 2147483647
 l : r.f2.length ≤ 2147483647
 w : ∀ x ∈ r.f2, x.size ≤ 2147483647
theorem rdOf_el (l : List ByteArray) (i : Int) (h0 : 0 ≤ i) (h : i.toNat < l.length) : rdOf ByteArray.empty l i = l[i.toNat] := by
 simp [rdOf, List.getD_eq_getElem?_getD, List.getElem?_eq_getElem h]
theorem rd31i (l : List S31) (i : Int) (h0 : 0 ≤ i) (h : i.toNat < l.length) : rd_T31 l i = l[i.toNat] := by
 simp [rd_T31, List.getD_eq_getElem?_getD, List.getElem?_eq_getElem h]
theorem zz4F (l : List ByteArray) (hl : l.length ≤ 2147483647) : ∀ (d : Nat) (i : Int), 0 ≤ i → i + d = l.length → ∃ b, Ev (fun k => laws_zzFits4.l0 k l (l.length : Int) i) b ∧ (b = true → ∀ x ∈ l.drop i.toNat, x.size ≤ 2147483647)
 | 0, i, h0, h => ⟨true, Ev.step (f := fun _ => some true) (fun k => by simp only [laws_zzFits4.l0]; rw [if_neg (by omega)]) (Ev.now _), fun _ x hx => by rw [List.drop_eq_nil_of_le (by omega)] at hx; cases hx⟩
 | d + 1, i, h0, h => by
  have hw : wrap64 (i + 1) = i + 1 := by unfold wrap64; omega
  have hi : i.toNat < l.length := by omega
  by_cases hc : ((rdOf ByteArray.empty l i).size : Int) > 2147483647
  ·exact ⟨false, Ev.step (f := fun _ => some false) (fun k => by simp only [laws_zzFits4.l0]; rw [if_pos (by omega), if_pos h0, if_pos (by omega), if_pos hc]) (Ev.now _), fun h => by cases h⟩
  ·obtain ⟨b, hb, hx⟩ := zz4F l hl d (i + 1) (by omega) (by omega)
   refine ⟨b, Ev.step (fun k => by simp only [laws_zzFits4.l0]; rw [if_pos (by omega), if_pos h0, if_pos (by omega), if_neg hc, hw]) hb, fun e x hm => ?_⟩
   rw [List.drop_eq_getElem_cons hi] at hm
   rcases List.mem_cons.1 hm with rfl | hm
   ·rw [rdOf_el l i h0 hi] at hc; omega
   ·exact hx e x (by rw [show (i + 1).toNat = i.toNat + 1 by omega]; exact hm)
theorem zz4fF (l : List ByteArray) : ∃ b, Ev (fun k => laws_zzFits4.f k l) b ∧ (b = true → l.length ≤ 2147483647 ∧ ∀ x ∈ l, x.size ≤ 2147483647) := by
 by_cases hl : (l.length : Int) > 2147483647
 ·exact ⟨false, Ev.congr (fun k => by simp only [laws_zzFits4.f]; rw [if_pos hl]) (Ev.now _), fun h => by cases h⟩
 ·obtain ⟨b, hb, hx⟩ := zz4F l (by omega) l.length 0 (by omega) (by omega)
  exact ⟨b, Ev.congr (fun k => by simp only [laws_zzFits4.f]; rw [if_neg hl]) hb, fun e => ⟨by omega, by simpa using hx e⟩⟩
theorem zz6fF (a : ByteArray) (n : List Int) (s : List ByteArray) : ∃ b, Ev (fun k => laws_zzFits6.f k a n s) b ∧ (b = true → FitR ⟨a, n, s⟩) := by
 by_cases h1 : (a.size : Int) > 2147483647
 ·exact ⟨false, Ev.congr (fun k => by simp only [laws_zzFits6.f]; rw [if_pos h1]) (Ev.now _), fun h => by cases h⟩
 ·by_cases h2 : (n.length : Int) > 2147483647
  ·exact ⟨false, Ev.congr (fun k => by simp only [laws_zzFits6.f]; rw [if_neg h1, if_pos h2]) (Ev.now _), fun h => by cases h⟩
  ·obtain ⟨b, hb, hx⟩ := zz4fF s
   refine ⟨if b = true then true else false, Ev.congr (f := fun k => (laws_zzFits4.f k s).bind fun t => if t = true then some true else some false) (fun k => by simp only [laws_zzFits6.f]; rw [if_neg h1, if_neg h2]) (Ev.bind (f := fun _ t => if t = true then some true else some false) hb ?_), ?_⟩
   ·cases b
    ·exact Ev.now _
    ·exact Ev.now _
   ·cases b
    ·intro h; cases h
    ·exact fun _ => ⟨(by show a.size ≤ 2147483647; omega), (by show n.length ≤ 2147483647; omega), (hx rfl).1, (hx rfl).2⟩
theorem zz5F (l : List S31) (hl : l.length ≤ 2147483647) : ∀ (d : Nat) (i : Int), 0 ≤ i → i + d = l.length → ∃ b, Ev (fun k => laws_zzFits5.l0 k l (l.length : Int) i) b ∧ (b = true → ∀ x ∈ l.drop i.toNat, FitR x)
 | 0, i, h0, h => ⟨true, Ev.step (f := fun _ => some true) (fun k => by simp only [laws_zzFits5.l0]; rw [if_neg (by omega)]) (Ev.now _), fun _ x hx => by rw [List.drop_eq_nil_of_le (by omega)] at hx; cases hx⟩
 | d + 1, i, h0, h => by
  have hw : wrap64 (i + 1) = i + 1 := by unfold wrap64; omega
  have hi : i.toNat < l.length := by omega
  obtain ⟨b6, h6, hx6⟩ := zz6fF ((rd_T31 l i).f0) ((rd_T31 l i).f1) ((rd_T31 l i).f2)
  have hstep : ∀ k, laws_zzFits5.l0 (k + 1) l (l.length : Int) i = (laws_zzFits6.f k ((rd_T31 l i).f0) ((rd_T31 l i).f1) ((rd_T31 l i).f2)).bind fun t => if t = true then laws_zzFits5.l0 k l (l.length : Int) (i + 1) else some false := fun k => by
   simp only [laws_zzFits5.l0]; rw [if_pos (by omega), if_pos h0, if_pos (by omega), hw]
  obtain ⟨b, hb, hx⟩ := zz5F l hl d (i + 1) (by omega) (by omega)
  cases b6
  ·exact ⟨false, Ev.step hstep (Ev.bind (f := fun k t => if t = true then laws_zzFits5.l0 k l (l.length : Int) (i + 1) else some false) h6 (Ev.now _)), fun h => by cases h⟩
  ·refine ⟨b, Ev.step hstep (Ev.bind (f := fun k t => if t = true then laws_zzFits5.l0 k l (l.length : Int) (i + 1) else some false) h6 hb), fun e x hm => ?_⟩
   rw [List.drop_eq_getElem_cons hi] at hm
   rcases List.mem_cons.1 hm with rfl | hm
   ·have := hx6 rfl
    rw [rd31i l i h0 hi] at this
    exact this
   ·exact hx e x (by rw [show (i + 1).toNat = i.toNat + 1 by omega]; exact hm)
theorem zz5fF (l : List S31) : ∃ k b, laws_zzFits5.f k l = some b ∧ (b = true → l.length ≤ 2147483647 ∧ ∀ x ∈ l, FitR x) := by
 by_cases hl : (l.length : Int) > 2147483647
 ·exact ⟨0, false, by simp only [laws_zzFits5.f]; rw [if_pos hl], fun h => by cases h⟩
 ·obtain ⟨b, hb, hx⟩ := zz5F l (by omega) l.length 0 (by omega) (by omega)
  obtain ⟨k, hk⟩ := hb.rounds
  exact ⟨k, b, by simp only [laws_zzFits5.f]; rw [if_neg hl]; exact hk, fun e => ⟨by omega, by simpa using hx e⟩⟩
theorem strB_of (s : ByteArray) : strB s.data.toList = s := by
 apply ByteArray.ext
 simp [strB]
end Go.Proofs.YtednjmngalmdkaaGreatDoor.GPC
end
section
/- Plain facts: a number of hundredths, written, is read as the same float. Condition: below 2^40. -/
namespace Go.Proofs.YtednjmngalmdkaaGreatDoor.GPC
open Go Go.RowKit Go.Proofs.YtednjmngalmdkaaGreatDoorW.PrintWords Go.Proofs.YtednjmngalmdkaaGreatDoorW.PrintLast Go.Proofs.YtednjmngalmdkaaGreatDoor.PF
set_option linter.unusedVariables false
theorem dig_len (n : Nat) (hn : n < 18446744073709551616) : (digB 10 n).length ≤ 20 := digB_length 10 n 19 (by omega) (by omega)
theorem dch10 : ∀ d : Fin 10, 48 ≤ (dch d.val).toNat ∧ (dch d.val).toNat ≤ 57 ∧ (dch d.val).toNat - 48 = d.val := by decide
theorem dch10n (d : Nat) (h : d < 10) : 48 ≤ (dch d).toNat ∧ (dch d).toNat ≤ 57 ∧ (dch d).toNat - 48 = d := dch10 ⟨d, h⟩
theorem dig10 (n : Nat) : ∀ c ∈ digB 10 n, 48 ≤ c.toNat ∧ c.toNat ≤ 57 := by
 induction n using Nat.strongRecOn with
 | _ n ih =>
  intro c hc
  unfold digB at hc
  by_cases h : n < 10
  ·rw [dif_pos (.inl h)] at hc
   simp only [List.mem_singleton] at hc
   subst hc
   exact ⟨(dch10n n h).1, (dch10n n h).2.1⟩
  ·rw [dif_neg (by omega)] at hc
   rcases List.mem_append.1 hc with hc | hc
   ·exact ih (n / 10) (by omega) c hc
   ·simp only [List.mem_singleton] at hc
    subst hc
    have := dch10n (n % 10) (Nat.mod_lt _ (by omega))
    exact ⟨this.1, this.2.1⟩
end Go.Proofs.YtednjmngalmdkaaGreatDoor.GPC
end
section
/- Plain facts: numbers written with a sign between, and read again as words. Conditions: at most 100,000 numbers of 64 bits. -/
namespace Go.Proofs.YtednjmngalmdkaaGreatDoor.GPC
open Go Go.RowKit Go.Proofs.YtednjmngalmdkaaGreatDoorW.PrintWords Go.Proofs.YtednjmngalmdkaaGreatDoorW.PrintLast Go.Proofs.YtednjmngalmdkaaGreatDoor.PF
set_option linter.unusedVariables false
theorem evG {α : Type} {c : Prop} [Decidable c] {A : Nat → Option α} {r : α} (h : c) (hA : Ev A r) : Ev (fun k => if c then A k else none) r := Ev.congr (fun k => if_pos h) hA
theorem evN {α : Type} {c : Prop} [Decidable c] {A B : Nat → Option α} {r : α} (h : ¬ c) (hA : Ev B r) : Ev (fun k => if c then A k else B k) r := Ev.congr (fun k => if_neg h) hA
theorem evP {α : Type} {c : Prop} [Decidable c] {A B : Nat → Option α} {r : α} (h : c) (hA : Ev A r) : Ev (fun k => if c then A k else B k) r := Ev.congr (fun k => if_pos h) hA
theorem evB {α β : Type} {g : Nat → Option α} {a : α} {F : Nat → α → Option β} {r : β} (h : Ev g a) (hF : Ev (fun k => F k a) r) : Ev (fun k => (g k).bind (F k)) r := Ev.bind (f := F) h hF
def tailW (bs : List UInt8) (ws : List (List UInt8)) : List UInt8 := ws.flatMap fun w => bs ++ w
theorem words_tail (bs : List UInt8) : ∀ (w : List UInt8) (r : List (List UInt8)), Words bs (w :: r) = w ++ tailW bs r
 | w, [] => by simp [Words, tailW]
 | w, v :: r => by
  rw [Words, words_tail bs v r]
  simp [tailW, List.flatMap_cons]
theorem rdB (l : List (List UInt8)) (i : Nat) (h : i < l.length) : rdOf ByteArray.empty (l.map strB) (i : Int) = strB l[i] := by
 simp [rdOf, List.getD_eq_getElem?_getD, h]
theorem join_l (bs : List UInt8) (hbs : bs.length ≤ 10) (ws : List (List UInt8)) (hl : ws.length ≤ 100000) (hw : ∀ w ∈ ws, w.length ≤ 1000) : ∀ (d i : Nat) (acc : List UInt8), i + d = ws.length → 0 < i → acc.length ≤ 2000 * i →
  Ev (fun k => spec_Join.l0 k (strB bs) (strB acc) (ws.map strB) (ws.length : Int) (i : Int)) (strB (acc ++ tailW bs (ws.drop i)))
 | 0, i, acc, h, h0, ha => by
  rw [List.drop_eq_nil_of_le (by omega)]
  refine Ev.step (f := fun _ => some (strB acc)) (fun k => by simp only [spec_Join.l0]; rw [if_neg (by omega)]) ?_
  simp only [tailW, List.flatMap_nil, List.append_nil]
  exact Ev.now _
 | d + 1, i, acc, h, h0, ha => by
  have hi : i < ws.length := by omega
  have hw1 : wrap64 ((i : Int) + 1) = ((i + 1 : Nat) : Int) := by unfold wrap64; omega
  have hlw := hw ws[i] (List.getElem_mem hi)
  have ih := join_l bs hbs ws hl hw d (i + 1) (acc ++ (bs ++ ws[i])) (by omega) (by omega) (by simp only [List.length_append]; omega)
  rw [List.drop_eq_getElem_cons hi, tailW, List.flatMap_cons, ← List.append_assoc]
  refine Ev.step (fun k => ?_) ih
  simp only [spec_Join.l0]
  rw [if_pos (by omega), if_pos (by omega), if_pos (by simp; omega), if_pos (by omega), rdB ws i hi, if_pos (by rw [strB_size, strB_size]; omega), strB_append, if_pos (by rw [strB_size, strB_size, List.length_append]; omega), strB_append, hw1, List.append_assoc]
theorem join_ev (bs : List UInt8) (hbs : bs.length ≤ 10) (ws : List (List UInt8)) (hl : ws.length ≤ 100000) (hw : ∀ w ∈ ws, w.length ≤ 1000) : Ev (fun k => spec_Join.f k (ws.map strB) (strB bs)) (strB (Words bs ws)) := by
 have hlen : ((ws.map strB).length : Int) = (ws.length : Int) := by simp
 refine Ev.congr (f := fun k => spec_Join.l0 k (strB bs) (⟨#[]⟩ : ByteArray) (ws.map strB) (ws.length : Int) 0) (fun k => by simp only [spec_Join.f, hlen]) ?_
 cases ws with
 | nil => exact Ev.step (f := fun _ => some (⟨#[]⟩ : ByteArray)) (fun k => by simp only [spec_Join.l0]; rw [if_neg (by simp)]) (Ev.now _)
 | cons w r =>
  have hlw := hw w (by simp)
  have := join_l bs hbs (w :: r) hl hw r.length 1 w (by simp; omega) (by omega) (by omega)
  rw [List.drop_succ_cons, List.drop_zero, ← words_tail] at this
  refine Ev.step (fun k => ?_) this
  have h0 := rdB (w :: r) 0 (by simp)
  simp only [List.getElem_cons_zero] at h0
  simp only [spec_Join.l0]
  rw [if_pos (by simp only [List.length_cons]; omega), if_pos (by omega), if_pos (by simp only [List.length_map, List.length_cons]; omega), if_neg (by omega), show (0 : Int) = ((0 : Nat) : Int) from rfl, h0, if_pos (by rw [strB_size, show (⟨#[]⟩ : ByteArray).size = 0 from rfl]; omega), show (⟨#[]⟩ : ByteArray) = strB [] from rfl, strB_append, show wrap64 (((0 : Nat) : Int) + 1) = ((1 : Nat) : Int) by unfold wrap64; omega, List.nil_append]
def intsOf (ns : List Nat) : List Int := ns.map Int.ofNat
theorem intsOf_len (ns : List Nat) : (intsOf ns).length = ns.length := by simp [intsOf]
theorem rd_ints (ns : List Nat) (i : Nat) (h : i < ns.length) : rd (intsOf ns) (i : Int) = (ns[i] : Int) := by
 simp [rd, intsOf, List.getD_eq_getElem?_getD, List.getElem?_eq_getElem h]
def decs (ns : List Nat) : List (List UInt8) := ns.map (digB 10)
theorem nums_l (bs : List UInt8) (hbs : bs.length ≤ 10) (ns : List Nat) (hl : ns.length ≤ 100000) (hn : ∀ n ∈ ns, n < 18446744073709551616) : ∀ (d i : Nat), i + d = ns.length →
  Ev (fun k => spec_numbers.l0 k (strB bs) (((decs ns).take i).map strB) (intsOf ns) (ns.length : Int) (i : Int)) (strB (Words bs (decs ns)))
 | 0, i, h => by
  have hd : (decs ns).take i = decs ns := List.take_of_length_le (by simp [decs]; omega)
  rw [hd]
  have hj := join_ev bs hbs (decs ns) (by simp [decs]; omega) (fun w hw => by
   simp only [decs, List.mem_map] at hw
   obtain ⟨n, hm, rfl⟩ := hw
   have := dig_len n (hn n hm)
   omega)
  refine Ev.step (f := fun k => (spec_Join.f k ((decs ns).map strB) (strB bs)).bind fun t => some t) (fun k => by simp only [spec_numbers.l0]; rw [if_neg (by omega)]) (evB hj (Ev.now _))
 | d + 1, i, h => by
  have hi : i < ns.length := by omega
  have hi2 : i < (decs ns).length := by simpa [decs] using hi
  have hw1 : wrap64 ((i : Int) + 1) = ((i + 1 : Nat) : Int) := by unfold wrap64; omega
  have ih := nums_l bs hbs ns hl hn d (i + 1) (by omega)
  have hrd := rd_ints ns i hi
  have htk : (((decs ns).take i).map strB) ++ [strB (digB 10 ns[i])] = ((decs ns).take (i + 1)).map strB := by
   rw [List.take_add_one, List.getElem?_eq_getElem hi2, List.map_append]
   simp [decs]
  refine Ev.step (f := fun k => (spec_Text.f k (ns[i] : Int)).bind fun t => if (((decs ns).take i).map strB).length < 8796093022208 then spec_numbers.l0 k (strB bs) ((((decs ns).take i).map strB) ++ [t]) (intsOf ns) (ns.length : Int) ((i + 1 : Nat) : Int) else none) (fun k => ?_) (evB (text_ev ns[i] (hn _ (List.getElem_mem hi))) (evG (by simp only [List.length_map, List.length_take]; omega) ?_))
  ·simp only [spec_numbers.l0]
   rw [if_pos (by omega), if_pos (by omega), if_pos (by rw [intsOf_len]; omega), hrd, hw1]
  ·rw [htk]
   exact ih
theorem nums_ev (bs : List UInt8) (hbs : bs.length ≤ 10) (ns : List Nat) (hl : ns.length ≤ 100000) (hn : ∀ n ∈ ns, n < 18446744073709551616) : Ev (fun k => spec_numbers.f k (intsOf ns) (strB bs)) (strB (Words bs (decs ns))) := by
 have := nums_l bs hbs ns hl hn ns.length 0 (by omega)
 refine Ev.congr (fun k => ?_) this
 simp only [spec_numbers.f, intsOf_len]
 rfl
theorem dec_word (n : Nat) : digB 10 n ≠ [] ∧ (∀ c ∈ digB 10 n, Lib.isSp c = false) ∧ ∀ c ∈ digB 10 n, c.toNat < 128 :=
 ⟨digB_ne 10 n, fun c hc => isDig_sp (by have := dig10 n c hc; unfold isDig; simp [this.1, this.2]), fun c hc => by have := dig10 n c hc; omega⟩
theorem words_mem (b : UInt8) : ∀ (ws : List (List UInt8)) (c : UInt8), c ∈ Words [b] ws → c = b ∨ ∃ w ∈ ws, c ∈ w
 | [], c, h => by simp [Words] at h
 | [w], c, h => .inr ⟨w, by simp, by simpa [Words] using h⟩
 | w :: v :: r, c, h => by
  simp only [Words, List.mem_append, List.mem_singleton] at h
  rcases h with h | h | h
  ·exact .inr ⟨w, by simp, h⟩
  ·exact .inl h
  ·rcases words_mem b (v :: r) c h with h | ⟨x, hx, hc⟩
   ·exact .inl h
   ·exact .inr ⟨x, by simp [hx], hc⟩
theorem words_len (b : UInt8) : ∀ (ws : List (List UInt8)) (m : Nat), (∀ w ∈ ws, w.length ≤ m) → (Words [b] ws).length ≤ (m + 1) * ws.length
 | [], m, _ => by simp [Words]
 | [w], m, h => by have := h w (by simp); simp [Words]; omega
 | w :: v :: r, m, h => by
  have ih := words_len b (v :: r) m (fun x hx => h x (by simp [hx]))
  have h1 := h w (by simp)
  simp only [Words, List.length_append, List.length_cons, List.length_nil] at ih ⊢
  rw [show (m + 1) * (r.length + 1 + 1) = (m + 1) * (r.length + 1) + (m + 1) from Nat.mul_succ _ _]
  generalize (m + 1) * (r.length + 1) = X at ih ⊢
  omega
theorem strNums2 (s : ByteArray) : strOfNums (s.data.toList.map fun b => (b.toNat : Int)) = s := by
 apply ByteArray.ext
 apply Array.toList_inj.1
 simp only [strOfNums]
 simp only [List.map_map]
 have e : ((fun n => UInt8.ofNat n.toNat) ∘ fun b : UInt8 => (b.toNat : Int)) = id := funext fun b => by simp [Function.comp]
 rw [e, List.map_id]
end Go.Proofs.YtednjmngalmdkaaGreatDoor.GPC
end
section
/- The lines of a written text, one by one: on lists of bytes alone. Conditions: as they say. -/
namespace Go.Proofs.YtednjmngalmdkaaGreatDoor.GPC
open Go Go.RowKit Go.Proofs.YtednjmngalmdkaaGreatDoorW.PrintWords Go.Proofs.YtednjmngalmdkaaGreatDoorW.PrintLast
set_option linter.unusedVariables false
theorem strB_dl (l : List UInt8) : (strB l).data.toList = l := by simp [strB]
theorem ext_strB (l : List UInt8) (i j : Nat) : (strB l).extract i j = strB ((l.drop i).take (j - i)) := by
 apply ByteArray.ext
 rw [ByteArray.data_extract]
 apply Array.toList_inj.1
 simp [strB, List.extract]
theorem lineEnd_lf (a b : List UInt8) (ha : ∀ c ∈ a, c ≠ 10) : GL.lineEnd (strB (a ++ 10 :: b)) = a.length := by
 unfold GL.lineEnd
 rw [strB_dl, List.findIdx_append]
 have h0 : List.findIdx (· == (10 : UInt8)) a = a.length := List.findIdx_eq_length.2 (fun x hx => by
  simp only [beq_eq_false_iff_ne]
  exact ha x hx)
 have h1 : List.findIdx (fun x => x == (10 : UInt8)) (10 :: b) = 0 := by simp [List.findIdx_cons]
 rw [h0, h1]
 simp
theorem lineOf_lf (a b : List UInt8) (ha : ∀ c ∈ a, c ≠ 10) : GL.lineOf (strB (a ++ 10 :: b)) = strB a := by
 unfold GL.lineOf
 rw [lineEnd_lf a b ha, ext_strB]
 simp
theorem restOf_lf (a b : List UInt8) (ha : ∀ c ∈ a, c ≠ 10) : GL.restOf (strB (a ++ 10 :: b)) = strB b := by
 unfold GL.restOf
 rw [lineEnd_lf a b ha, if_pos (by rw [strB_size]; simp), ext_strB, strB_size]
 have e : a ++ 10 :: b = (a ++ [10]) ++ b := by simp
 rw [e, List.drop_left' (l₁ := a ++ [10]) (by simp), List.take_of_length_le (by simp; omega)]
end Go.Proofs.YtednjmngalmdkaaGreatDoor.GPC
end
section
/- Loops over rows, in general: printed text, tree, lines read; the end of a plain law. Conditions: as they say. -/
namespace Go.Proofs.YtednjmngalmdkaaGreatDoor.GPC
open Go Go.RowKit Go.Proofs.YtednjmngalmdkaaGreatDoorW.PrintWords Go.Proofs.YtednjmngalmdkaaGreatDoorW.PrintLast Go.Proofs.YtednjmngalmdkaaGreatDoor.PF
set_option linter.unusedVariables false
theorem gints_of (r : S31) (hr : OP.RowOk r) : r.f1 = intsOf (r.f1.map Int.toNat) := by
 unfold intsOf
 rw [List.map_map]
 refine (List.map_id r.f1).symm.trans (List.map_congr_left fun a ha => ?_)
 have := (hr.2.1.2 a ha).1
 simp only [Function.comp, id]
 show a = ((a.toNat : Nat) : Int)
 omega
theorem grd31 (l : List S31) (i : Nat) (h : i < l.length) : rd_T31 l (i : Int) = l[i] := by
 simp [rd_T31, List.getD_eq_getElem?_getD, List.getElem?_eq_getElem h]
theorem gen_print {T : Type} (L : List UInt8 → Nat → Nat → Option (ByteArray × Int)) (n A B : Nat) (hM : A + B * n ≤ 100000000000000000) (line : T → List UInt8) (Good : Nat → T → Prop)
  (hend : ∀ acc, Ev (L acc n) (strB acc, 1))
  (hone : ∀ i, i < n → ∀ acc : List UInt8, acc.length ≤ 100000000000000000 → Ev (L acc i) (⟨#[]⟩, 2) ∨ ∃ t, Good i t ∧ (line t).length ≤ B ∧ ∀ r, Ev (L (acc ++ line t) (i + 1)) r → Ev (L acc i) r) :
  ∀ (d i : Nat) (acc : List UInt8), i + d = n → acc.length ≤ A + B * i →
   Ev (L acc i) (⟨#[]⟩, 2) ∨ ∃ ts : List T, ts.length = d ∧ (∀ (j : Nat) (h : j < ts.length), Good (i + j) ts[j]) ∧ Ev (L acc i) (strB (acc ++ ts.flatMap line), 1)
 | 0, i, acc, h, ha => by
  obtain rfl : i = n := by omega
  refine .inr ⟨[], rfl, fun j h => by simp at h, ?_⟩
  simpa using hend acc
 | d + 1, i, acc, h, ha => by
  have hB : B * i ≤ B * n := Nat.mul_le_mul_left B (by omega)
  rcases hone i (by omega) acc (by omega) with hb | ⟨t, hg, hl, ht⟩
  ·exact .inl hb
  ·have hB2 : B * (i + 1) = B * i + B := by rw [Nat.mul_add, Nat.mul_one]
   rcases gen_print L n A B hM line Good hend hone d (i + 1) (acc ++ line t) (by omega) (by simp only [List.length_append]; omega) with hb | ⟨ts, hts, hgs, he⟩
   ·exact .inl (ht _ hb)
   ·refine .inr ⟨t :: ts, by simp [hts], fun j h2 => ?_, ?_⟩
    ·match j with
     | 0 => exact hg
     | j + 1 =>
      have := hgs j (by simpa using h2)
      simp only [List.getElem_cons_succ]
      rw [show i + (j + 1) = i + 1 + j by omega]
      exact this
    ·have e : acc ++ line t ++ ts.flatMap line = acc ++ (t :: ts).flatMap line := by simp
     rw [e] at he
     exact ht _ he
theorem gen_list {S R : Type} (L : List S → Nat → Nat → Option R) (n : Nat) (node : Nat → S) (fin : List S → R)
  (hend : ∀ acc, acc.length ≤ n → Ev (L acc n) (fin acc)) (hone : ∀ i, i < n → ∀ acc : List S, acc.length ≤ i → ∀ r, Ev (L (acc ++ [node i]) (i + 1)) r → Ev (L acc i) r) :
  ∀ (d i : Nat) (acc : List S), i + d = n → acc.length ≤ i → Ev (L acc i) (fin (acc ++ (List.range' i d).map node))
 | 0, i, acc, h, ha => by
  obtain rfl : i = n := by omega
  simpa using hend acc ha
 | d + 1, i, acc, h, ha => by
  have ih := gen_list L n node fin hend hone d (i + 1) (acc ++ [node i]) (by omega) (by simp; omega)
  rw [List.append_assoc, List.singleton_append, ← List.map_cons] at ih
  have e : i :: List.range' (i + 1) d = List.range' i (d + 1) := by simp [List.range'_succ]
  rw [e] at ih
  exact hone i (by omega) acc ha _ ih
theorem range_map {T S : Type} (ts : List T) (f : T → S) (node : Nat → S) (h : ∀ (i : Nat) (hi : i < ts.length), node i = f ts[i]) : (List.range' 0 ts.length).map node = ts.map f := by
 apply List.ext_getElem
 ·simp
 ·intro i h1 h2
  simp only [List.length_map, List.length_range'] at h1
  simp [h i h1]
structure LnOk (l : List UInt8) : Prop where
 ne : l ≠ []
 ch : ∀ c ∈ l, c ≠ 10 ∧ c ≠ 13
 len : l.length < 65536
theorem line_ok (a b : List UInt8) (h : LnOk a) (hs : (a ++ 10 :: b).length ≤ 1000000) : ¬ (strB (a ++ 10 :: b)).size = 0 ∧ LineOk (strB (a ++ 10 :: b)) ∧ GL.lineOf (strB (a ++ 10 :: b)) = strB a ∧ GL.restOf (strB (a ++ 10 :: b)) = strB b := by
 have h10 : ∀ c ∈ a, c ≠ 10 := fun c hc => (h.ch c hc).1
 have hp : 0 < a.length := List.length_pos_iff.2 h.ne
 refine ⟨by rw [strB_size]; simp, ⟨by rw [strB_size]; omega, by rw [lineEnd_lf a b h10]; exact h.len, ?_⟩, lineOf_lf a b h10, restOf_lf a b h10⟩
 rw [lineOf_lf a b h10, strB_size, show ((a.length : Nat) : Int) - 1 = ((a.length - 1 : Nat) : Int) by omega, GL.bt_list _ _ (by rw [strB_size]; omega)]
 intro e
 have hm : a[a.length - 1]'(by omega) ∈ a := List.getElem_mem _
 apply (h.ch _ hm).2
 apply UInt8.toNat_inj.1
 have : ((strB a).data.toList[a.length - 1]'(by rw [strB_dl]; omega)) = a[a.length - 1]'(by omega) := by simp only [strB_dl]
 rw [← this]
 show _ = 13
 omega
theorem rows_end {α : Type} (L : ByteArray → Option (Option α)) (q : Nat) : rowsF L (q + 1) (strB []) = some [] := by
 unfold rowsF
 rw [if_pos (by rw [strB_size]; rfl)]
theorem rows_cons {α : Type} (L : ByteArray → Option (Option α)) (q : Nat) (a b : List UInt8) (h : LnOk a) (hs : (a ++ 10 :: b).length ≤ 1000000) (m : Option α) (ms : List α) (hm : L (strB a) = some m) (hr : rowsF L q (strB b) = some ms) :
  rowsF L (q + 1) (strB (a ++ 10 :: b)) = some (m.toList ++ ms) := by
 obtain ⟨h1, h2, h3, h4⟩ := line_ok a b h hs
 unfold rowsF
 rw [if_neg h1, if_pos h2, h3, h4, hm, hr]
 rfl
theorem rows_text {T α : Type} (L : ByteArray → Option (Option α)) (line : T → List UInt8) (val : T → α) : ∀ (ts : List T) (q : Nat), ts.length < q → (∀ t ∈ ts, LnOk (line t) ∧ L (strB (line t)) = some (some (val t))) → (ts.flatMap fun t => line t ++ [10]).length ≤ 1000000 →
  rowsF L q (strB (ts.flatMap fun t => line t ++ [10])) = some (ts.map val)
 | [], q + 1, _, _, _ => rows_end L q
 | t :: ts, q + 1, hq, h, hl => by
  have e : (t :: ts).flatMap (fun t => line t ++ [10]) = line t ++ 10 :: ts.flatMap (fun t => line t ++ [10]) := by simp
  rw [e] at hl ⊢
  have ih := rows_text L line val ts q (by simpa using hq) (fun u hu => h u (by simp [hu])) (by simp only [List.length_append, List.length_cons] at hl; omega)
  exact rows_cons L q (line t) _ (h t (by simp)).1 hl (some (val t)) _ (h t (by simp)).2 ih
theorem rowsF_more {α : Type} {L : ByteArray → Option (Option α)} : ∀ {q k : Nat} {t : ByteArray} {r : List α}, q ≤ k → rowsF L q t = some r → rowsF L k t = some r
 | 0, _, _, _, _, h => by cases h
 | q + 1, 0, _, _, hk, _ => by omega
 | q + 1, k + 1, t, r, hk, h => by
  unfold rowsF at h ⊢
  split at h
  ·rename_i h0; rw [if_pos h0]; exact h
  ·rename_i h0
   rw [if_neg h0]
   split at h
   ·rename_i h1
    rw [if_pos h1]
    obtain ⟨m, hm, h⟩ := Option.bind_eq_some_iff.1 h
    obtain ⟨ms, hms, h⟩ := Option.bind_eq_some_iff.1 h
    rw [hm, Option.bind_some, rowsF_more (by omega) hms, Option.bind_some]
    exact h
   ·cases h
theorem flat_len {T : Type} (line : T → List UInt8) : ∀ (ts : List T) (t : T), t ∈ ts → (line t).length ≤ (ts.flatMap line).length
 | [], t, h => by cases h
 | u :: ts, t, h => by
  rw [List.flatMap_cons, List.length_append]
  rcases List.mem_cons.1 h with rfl | h
  ·omega
  ·have := flat_len line ts t h; omega
theorem read_text (l : List UInt8) (h : l.length ≤ 1048576) : texts_Read.f (strB l) = some (l.map (fun b => (b.toNat : Int)), none) := by
 unfold texts_Read.f
 rw [if_pos (by rw [strB_size]; omega), strB_dl]
theorem nums_text (l : List UInt8) : strOfNums (l.map (fun b => (b.toNat : Int))) = strB l := by
 have := strNums2 (strB l)
 rw [strB_dl] at this
 exact this
theorem gen_end {print : Nat → Option (ByteArray × Int)} {tree : Nat → Option (ByteArray × Int × Bool × Int × Int × Nat × ByteArray × List S39 × Int)} {door : ByteArray → S43 → Prop} {l : List S31} (h : l.length ≤ 1000) (text : List UInt8)
  (hp : Ev print (strB text, 1)) (d : Nat) (n : S43) (hf : text.length ≤ 40000 → FitN d n)
  (ht : text.length ≤ 40000 → Ev tree ((convN d n).f0, (convN d n).f1, (convN d n).f2, (convN d n).f3, (convN d n).f4, (convN d n).f5, (convN d n).f6, (convN d n).f7, 1)) (hd : text.length ≤ 40000 → door (strB text) n) : BackOk print tree door l := by
 by_cases hsz : 40000 < text.length
 ·obtain ⟨K, hk⟩ := hp
  exact .noPrint h K _ _ (hk K (Nat.le_refl _)) (.inr (by rw [strB_size]; exact hsz))
 ·exact back_same h _ hp (by rw [strB_size]; omega) d n (hf (by omega)) (ht (by omega)) (hd (by omega))
theorem gen_no {print : Nat → Option (ByteArray × Int)} {tree : Nat → Option (ByteArray × Int × Bool × Int × Int × Nat × ByteArray × List S39 × Int)} {door : ByteArray → S43 → Prop} {l : List S31} (h : l.length ≤ 1000) (hp : Ev print (⟨#[]⟩, 2)) : BackOk print tree door l := by
 obtain ⟨K, hk⟩ := hp
 exact .noPrint h K _ _ (hk K (Nat.le_refl _)) (.inl (by decide))
end Go.Proofs.YtednjmngalmdkaaGreatDoor.GPC
end
section
/- Atoi on decimal digits. No condition. -/
namespace Go.Proofs.YtednjmngalmdkaaGreatDoor.GPC
open Go Go.RowKit Go.Proofs.YtednjmngalmdkaaGreatDoorW.PrintWords Go.Proofs.YtednjmngalmdkaaGreatDoorW.PrintLast Go.Proofs.YtednjmngalmdkaaGreatDoor.PF
set_option linter.unusedVariables false
theorem digit_is (d : Nat) (h : d < 10) : Lib.digitVal (UInt8.ofNat (48 + d)) = some d := by
 have hn : (UInt8.ofNat (48 + d)).toNat = 48 + d := by simp only [UInt8.toNat_ofNat']; omega
 unfold Lib.digitVal
 rw [if_pos (by omega), hn]
 congr 1
 omega
theorem decFrom_append : ∀ (a b : List UInt8) (acc : Nat), Lib.decFrom acc (a ++ b) = (Lib.decFrom acc a).bind fun x => Lib.decFrom x b
 | [], b, acc => rfl
 | x :: a, b, acc => by
  simp only [List.cons_append, Lib.decFrom]
  cases Lib.digitVal x with
  | none => rfl
  | some d => exact decFrom_append a b _
theorem decFrom_digits (n : Nat) : Lib.decFrom 0 (Lib.decDigits n) = some n := by
 induction n using Nat.strongRecOn with
 | _ n ih =>
  unfold Lib.decDigits
  by_cases h : n < 10
  ·rw [dif_pos h]
   simp only [Lib.decFrom, digit_is n h]
   simp
  ·rw [dif_neg h, decFrom_append, ih (n / 10) (by omega)]
   simp only [Option.bind_some, Lib.decFrom, digit_is (n % 10) (by omega)]
   congr 1
   omega
theorem decDigits_ne (n : Nat) : Lib.decDigits n ≠ [] := by
 unfold Lib.decDigits
 split <;> simp
theorem decDigits_mem (n : Nat) : ∀ b ∈ Lib.decDigits n, 48 ≤ b.toNat ∧ b.toNat ≤ 57 := by
 induction n using Nat.strongRecOn with
 | _ n ih =>
  intro b hb
  unfold Lib.decDigits at hb
  have hn : ∀ d, d < 10 → (UInt8.ofNat (48 + d)).toNat = 48 + d := fun d hd => by simp only [UInt8.toNat_ofNat']; omega
  by_cases h : n < 10
  ·rw [dif_pos h] at hb
   simp only [List.mem_singleton] at hb
   rw [hb, hn n h]
   omega
  ·rw [dif_neg h] at hb
   rcases List.mem_append.1 hb with hb | hb
   ·exact ih _ (by omega) b hb
   ·simp only [List.mem_singleton] at hb
    rw [hb, hn (n % 10) (by omega)]
    omega
theorem decNat_digits (n : Nat) : Lib.decNat (Lib.decDigits n) = some n := by
 unfold Lib.decNat
 have : (Lib.decDigits n).isEmpty = false := by
  cases h : Lib.decDigits n with
  | nil => exact absurd h (decDigits_ne n)
  | cons a b => rfl
 rw [this]
 exact decFrom_digits n
theorem atoi_digits (n : Nat) : Lib.atoi (Lib.decDigits n) = some (n : Int) := by
 cases h : Lib.decDigits n with
 | nil => exact absurd h (decDigits_ne n)
 | cons b r =>
  have hb := decDigits_mem n b (by rw [h]; simp)
  have e1 : (b == 45) = false := by
   apply beq_eq_false_iff_ne.2
   intro e; subst e; exact absurd hb.1 (by decide)
  have e2 : (b == 43) = false := by
   apply beq_eq_false_iff_ne.2
   intro e; subst e; exact absurd hb.1 (by decide)
  have e : Lib.atoi (b :: r) = (Lib.decNat (b :: r)).map fun (m : Nat) => (m : Int) := by
   show (if b == 45 then (Lib.decNat r).map fun (m : Nat) => -(m : Int) else if b == 43 then (Lib.decNat r).map fun (m : Nat) => (m : Int) else (Lib.decNat (b :: r)).map fun (m : Nat) => (m : Int)) = _
   rw [e1, e2]
   simp
  rw [e, ← h, decNat_digits]
  rfl
theorem atoi_dec (n : Nat) (h : (digB 10 n).length ≤ 18) : atoiF (strB (digB 10 n)) = some (n : Int) := by
 unfold atoiF
 rw [if_pos (by rw [strB_size]; exact h), show (strB (digB 10 n)).data.toList = digB 10 n by simp [strB], digB_ten]
 exact atoi_digits n
end Go.Proofs.YtednjmngalmdkaaGreatDoor.GPC
end
section
/- spec.Right, spec.Where, spec.Word, spec.words on lists of bytes. Conditions: lengths. -/
namespace Go.Proofs.YtednjmngalmdkaaGreatDoor.GPC
open Go Go.RowKit Go.Proofs.YtednjmngalmdkaaGreatDoorW.PrintWords Go.Proofs.YtednjmngalmdkaaGreatDoorW.PrintLast
set_option linter.unusedVariables false
theorem bt_strB (l : List UInt8) (i : Nat) (h : i < l.length) : bt (strB l) (i : Int) = ((l[i]).toNat : Int) := by
 rw [GL.bt_list _ _ (by rw [strB_size]; exact h)]
 simp only [strB_dl]
def wordB (l : List UInt8) : Bool := l.all (fun c => decide (32 < c.toNat ∧ c.toNat ≤ 126)) && decide (l ≠ [])
theorem word_l (l : List UInt8) (hl : l.length ≤ 4000000000) : ∀ (d i : Nat), i + d = l.length →
  Ev (fun k => spec_Word.l0 k (strB l) (l.length : Int) (i : Int)) ((l.drop i).all (fun c => decide (32 < c.toNat ∧ c.toNat ≤ 126)) && decide (l ≠ []))
 | 0, i, h => by
  rw [List.drop_eq_nil_of_le (by omega), List.all_nil, Bool.true_and]
  refine Ev.step (f := fun _ => some (decide (l ≠ []))) (fun k => by
   simp only [spec_Word.l0]
   rw [if_neg (by omega)]
   congr 1
   have : (strB l).toList = l := by rw [Go.ByteArray.toList_eq, strB_dl]
   rw [this]
   cases l <;> rfl) (Ev.now _)
 | d + 1, i, h => by
  have hi : i < l.length := by omega
  have hb := bt_strB l i hi
  rw [List.drop_eq_getElem_cons hi, List.all_cons]
  by_cases h1 : (l[i]).toNat ≤ 32
  ·rw [decide_eq_false (by omega), Bool.false_and, Bool.false_and]
   exact Ev.step (f := fun _ => some false) (fun k => by simp only [spec_Word.l0]; rw [if_pos (by omega), if_pos (by omega), if_pos (by rw [strB_size]; omega), if_pos (by rw [hb]; omega)]) (Ev.now _)
  ·by_cases h2 : 126 < (l[i]).toNat
   ·rw [decide_eq_false (by omega), Bool.false_and, Bool.false_and]
    exact Ev.step (f := fun _ => some false) (fun k => by simp only [spec_Word.l0]; rw [if_pos (by omega), if_pos (by omega), if_pos (by rw [strB_size]; omega), if_neg (by rw [hb]; omega), if_pos (by rw [hb]; omega)]) (Ev.now _)
   ·rw [decide_eq_true (by omega), Bool.true_and]
    have hw : wrap64 ((i : Int) + 1) = ((i + 1 : Nat) : Int) := by unfold wrap64; omega
    exact Ev.step (fun k => by simp only [spec_Word.l0]; rw [if_pos (by omega), if_pos (by omega), if_pos (by rw [strB_size]; omega), if_neg (by rw [hb]; omega), if_neg (by rw [hb]; omega), hw]) (word_l l hl d (i + 1) (by omega))
theorem word_ev (l : List UInt8) (hl : l.length ≤ 4000000000) : Ev (fun k => spec_Word.f k (strB l)) (wordB l) :=
 Ev.congr (fun k => by simp only [spec_Word.f, strB_size]; rfl) (word_l l hl l.length 0 (by omega))
end Go.Proofs.YtednjmngalmdkaaGreatDoor.GPC
end
section
/- What /proc/cgroups says, written, is read as its tree: on numbers and lists alone. Condition: rows as a call's arguments hold them (RowOk). -/
namespace Go.Proofs.YtednjmngalmdkaaGreatDoor.GPC
open Go Go.RowKit Go.Proofs.YtednjmngalmdkaaGreatDoorW.PrintWords Go.Proofs.YtednjmngalmdkaaGreatDoorW.PrintLast Go.Proofs.YtednjmngalmdkaaGreatDoor.PF
set_option linter.unusedVariables false
theorem sp_fin : ∀ n : Fin 256, 32 < n.val → n.val ≤ 126 → Lib.isSp (UInt8.ofNat n.val) = false := by decide +kernel
theorem sp_word (c : UInt8) (h1 : 32 < c.toNat) (h2 : c.toNat ≤ 126) : Lib.isSp c = false := by
 have := sp_fin ⟨c.toNat, c.toNat_lt⟩ h1 h2
 simpa using this
theorem word_all (w : List UInt8) (h : wordB w = true) : w ≠ [] ∧ ∀ c ∈ w, 32 < c.toNat ∧ c.toNat ≤ 126 := by
 unfold wordB at h
 rw [Bool.and_eq_true, List.all_eq_true] at h
 exact ⟨of_decide_eq_true h.2, fun c hc => of_decide_eq_true (h.1 c hc)⟩
abbrev CgT := List UInt8 × List Nat
def cgLine (t : CgT) : List UInt8 := t.1 ++ 9 :: Words [9] (decs t.2)
structure CgGood (r : S31) (t : CgT) : Prop where
 s : r.f0 = strB t.1
 n : r.f1 = intsOf t.2
 w : wordB t.1 = true
 c : bt (strB t.1) 0 ≠ 35
 l : t.2.length = 3
 small : ∀ n ∈ t.2, n < 2147483648
def cgHead : List UInt8 := [35, 115, 117, 98, 115, 121, 115, 95, 110, 97, 109, 101, 9, 104, 105, 101, 114, 97, 114, 99, 104, 121, 9, 110, 117, 109, 95, 99, 103, 114, 111, 117, 112, 115, 9, 101, 110, 97, 98, 108, 101, 100]
theorem dec31 (n : Nat) (h : n < 2147483648) : (digB 10 n).length ≤ 10 := digB_length 10 n 9 (by omega) (by omega)
theorem cg_words (ns : List Nat) (h3 : ns.length = 3) (h : ∀ n ∈ ns, n < 2147483648) : (Words [9] (decs ns)).length ≤ 33 := by
 have := words_len 9 (decs ns) 10 (fun w hw => by
  simp only [decs, List.mem_map] at hw
  obtain ⟨n, hm, rfl⟩ := hw
  exact dec31 n (h n hm))
 have hl : (decs ns).length = 3 := by simp [decs, h3]
 rw [hl] at this
 omega
theorem cg_one (l : List S31) (hl : l.length ≤ 1000) (hf : ∀ r ∈ l, FitR r ∧ OP.RowOk r) (i : Nat) (hi : i < l.length) (acc : List UInt8) (hacc : acc.length ≤ 100000000000000000) :
  Ev (fun k => spec_CgroupSummaryPrint.l0 k (strB acc) l (l.length : Int) (i : Int)) (⟨#[]⟩, 2) ∨
  ∃ t : CgT, CgGood l[i] t ∧ (cgLine t ++ [10]).length ≤ 3000000000 ∧ ∀ r, Ev (fun k => spec_CgroupSummaryPrint.l0 k (strB (acc ++ (cgLine t ++ [10]))) l (l.length : Int) ((i + 1 : Nat) : Int)) r →
   Ev (fun k => spec_CgroupSummaryPrint.l0 k (strB acc) l (l.length : Int) (i : Int)) r := by
 have hR := hf l[i] (List.getElem_mem _)
 have hrd := grd31 l i hi
 have hw : wrap64 ((i : Int) + 1) = ((i + 1 : Nat) : Int) := by unfold wrap64; omega
 generalize l[i] = R at hR hrd
 obtain ⟨f0, f1, f2⟩ := R
 obtain ⟨⟨hs1, hs2, hs3, hs4⟩, hro⟩ := hR
 have hints := gints_of _ hro
 simp only at hs1 hs2 hs3 hs4 hints
 obtain ⟨a, rfl⟩ : ∃ a, f0 = strB a := ⟨_, (strB_of f0).symm⟩
 obtain ⟨ns, rfl⟩ : ∃ ns, f1 = intsOf ns := ⟨_, hints⟩
 rw [strB_size] at hs1
 rw [intsOf_len] at hs2
 have bad : Ev (fun _ : Nat => some ((⟨#[]⟩ : ByteArray), (2 : Int))) (⟨#[]⟩, 2) := Ev.now _
 have hsz : ∃ b, spec_sized.f (strB a) (intsOf ns) f2 3 0 = some b ∧ (b = true → ns.length = 3) := by
  unfold spec_sized.f
  by_cases h : ((intsOf ns).length : Int) = 3
  ·rw [if_pos h]; exact ⟨_, rfl, fun _ => by rw [intsOf_len] at h; omega⟩
  ·rw [if_neg h]; exact ⟨_, rfl, fun e => by cases e⟩
 obtain ⟨bs, hbs, hb3⟩ := hsz
 have hst : ∀ k, spec_CgroupSummaryPrint.l0 (k + 1) (strB acc) l (l.length : Int) (i : Int) = (spec_Word.f k (strB a)).bind fun t120 => (if t120 = true then (if 0 < (a.length : Int) then (if bt (strB a) 0 = 35 then some ((⟨#[]⟩ : ByteArray), (2 : Int)) else (if bs = true then ((spec_small.f k 2147483648 (intsOf ns)).bind fun t122 => (if t122 = true then ((spec_numbers.f k (intsOf ns) (strB [9])).bind fun t123 => (if (strB a ++ strB [9]).size + t123.size ≤ 9223372036854775807 then (if ((strB a ++ strB [9]) ++ t123).size + 1 ≤ 9223372036854775807 then (if (strB acc).size + (((strB a ++ strB [9]) ++ t123) ++ strB [10]).size ≤ 9223372036854775807 then (spec_CgroupSummaryPrint.l0 k (strB acc ++ (((strB a ++ strB [9]) ++ t123) ++ strB [10])) l (l.length : Int) ((i + 1 : Nat) : Int)) else none) else none) else none)) else some ((⟨#[]⟩ : ByteArray), (2 : Int)))) else some ((⟨#[]⟩ : ByteArray), (2 : Int)))) else none) else some ((⟨#[]⟩ : ByteArray), (2 : Int))) := fun k => by
  simp only [spec_CgroupSummaryPrint.l0]
  rw [if_pos (by omega), if_pos (by omega), if_pos (by omega), hrd]
  simp only
  rw [hbs, if_pos (show (strB a).size + 1 ≤ 9223372036854775807 by rw [strB_size]; omega), hw, strB_size]
  rfl
 have hwd := word_ev a (by omega)
 cases hwa : wordB a
 ·rw [hwa] at hwd
  exact .inl (Ev.step hst (evB hwd (evN (by decide) bad)))
 rw [hwa] at hwd
 have hp : 0 < a.length := List.length_pos_iff.2 (word_all a hwa).1
 by_cases hc : bt (strB a) 0 = 35
 ·exact .inl (Ev.step hst (evB hwd (evP rfl (evG (by omega) (evP hc bad)))))
 cases bs with
 | false => exact .inl (Ev.step hst (evB hwd (evP rfl (evG (by omega) (evN hc (evN (by decide) bad))))))
 | true =>
 have h3 := hb3 rfl
 have hsm := small_ev 2147483648 (intsOf ns) (by rw [intsOf_len]; unfold maxLen; omega)
 cases hsb : ((intsOf ns).all fun x => decide (x < 2147483648))
 ·rw [hsb] at hsm
  exact .inl (Ev.step hst (evB hwd (evP rfl (evG (by omega) (evN hc (evP rfl (evB hsm (evN (by decide) bad))))))))
 rw [hsb] at hsm
 rw [List.all_eq_true] at hsb
 have hn : ∀ n ∈ ns, n < 2147483648 := fun n hn => by
  have := of_decide_eq_true (hsb (n : Int) (by unfold intsOf; exact List.mem_map.2 ⟨n, hn, rfl⟩))
  omega
 have hwl := cg_words ns h3 hn
 have hnum := nums_ev [9] (by simp) ns (by omega) (fun n h => by have := hn n h; omega)
 refine .inr ⟨(a, ns), ⟨rfl, rfl, hwa, hc, h3, hn⟩, by simp only [cgLine, List.length_append, List.length_cons, List.length_nil]; omega, fun r hr => ?_⟩
 refine Ev.step hst (evB hwd (evP rfl (evG (by omega) (evN hc (evP rfl (evB hsm (evP rfl (evB hnum (evG ?_ (evG ?_ (evG ?_ ?_)))))))))))
 ·simp only [strB_append, strB_size, List.length_append, List.length_cons, List.length_nil]; omega
 ·simp only [strB_append, strB_size, List.length_append, List.length_cons, List.length_nil]; omega
 ·simp only [strB_append, strB_size, List.length_append, List.length_cons, List.length_nil]; omega
 ·simp only [strB_append]
  have e : acc ++ (a ++ [9] ++ Words [9] (decs ns) ++ [10]) = acc ++ (cgLine (a, ns) ++ [10]) := by simp [cgLine]
  rw [e]
  exact hr
def cgS (t : CgT) : S162 := ⟨strB t.1, ((t.2.getD 0 0 : Nat) : Int), ((t.2.getD 1 0 : Nat) : Int), ((t.2.getD 2 0 : Nat) : Int)⟩
def cgN39 (m : S162) : S39 := ⟨⟨#[]⟩, 8, false, 0, 0, 0, ⟨#[]⟩, [⟨⟨#[83, 117, 98, 115, 121, 115, 78, 97, 109, 101]⟩, 5, false, 0, 0, 0, m.f0, []⟩, ⟨⟨#[72, 105, 101, 114, 97, 114, 99, 104, 121]⟩, 2, false, m.f1, 0, 0, ⟨#[]⟩, []⟩, ⟨⟨#[67, 103, 114, 111, 117, 112, 115]⟩, 2, false, m.f2, 0, 0, ⟨#[]⟩, []⟩, ⟨⟨#[69, 110, 97, 98, 108, 101, 100]⟩, 2, false, m.f3, 0, 0, ⟨#[]⟩, []⟩]⟩
def cgN43 (m : S162) : S43 := ⟨⟨#[]⟩, 8, false, 0, 0, 0, ⟨#[]⟩, [⟨⟨#[83, 117, 98, 115, 121, 115, 78, 97, 109, 101]⟩, 5, false, 0, 0, 0, m.f0, []⟩, ⟨⟨#[72, 105, 101, 114, 97, 114, 99, 104, 121]⟩, 2, false, m.f1, 0, 0, ⟨#[]⟩, []⟩, ⟨⟨#[67, 103, 114, 111, 117, 112, 115]⟩, 2, false, m.f2, 0, 0, ⟨#[]⟩, []⟩, ⟨⟨#[69, 110, 97, 98, 108, 101, 100]⟩, 2, false, m.f3, 0, 0, ⟨#[]⟩, []⟩]⟩
def cgAll (ts : List CgT) : S43 := ⟨⟨#[]⟩, 6, false, 0, 0, 0, ⟨#[]⟩, (ts.map cgS).map cgN43⟩
theorem cg_conv (ts : List CgT) : convN 2 (cgAll ts) = ⟨⟨#[]⟩, 6, false, 0, 0, 0, ⟨#[]⟩, ts.map fun t => cgN39 (cgS t)⟩ := by
 simp only [cgAll, convN, List.map_map]
 congr 1
theorem cg_fit (ts : List CgT) (hl : ts.length ≤ 1000000) : FitN 2 (cgAll ts) := by
 refine ⟨by simpa [cgAll] using hl, fun x hx => ?_⟩
 simp only [cgAll, List.mem_map] at hx
 obtain ⟨m, _, rfl⟩ := hx
 refine ⟨by simp [cgN43], fun y hy => ?_⟩
 simp only [cgN43, List.mem_cons, List.not_mem_nil, or_false] at hy
 rcases hy with rfl | rfl | rfl | rfl <;> rfl
theorem three {l : List Nat} (h : l.length = 3) : ∃ a b c, l = [a, b, c] := by
 match l, h with
 | [a, b, c], _ => exact ⟨a, b, c, rfl⟩
theorem cg_chars (t : CgT) (hw : wordB t.1 = true) : ∀ x ∈ cgLine t, x.toNat < 128 ∧ x ≠ 10 ∧ x ≠ 13 := by
 intro x hx
 unfold cgLine at hx
 rcases List.mem_append.1 hx with hx | hx
 ·have := (word_all _ hw).2 x hx
  exact ⟨by omega, fun e => by rw [e] at this; revert this; decide, fun e => by rw [e] at this; revert this; decide⟩
 rcases List.mem_cons.1 hx with rfl | hx
 ·decide
 rcases words_mem 9 (decs t.2) x hx with rfl | ⟨w, hw, hc⟩
 ·decide
 simp only [decs, List.mem_map] at hw
 obtain ⟨n, hm, rfl⟩ := hw
 have := dig10 n x hc
 exact ⟨by omega, fun e => by rw [e] at this; revert this; decide, fun e => by rw [e] at this; revert this; decide⟩
theorem cg_fields (t : CgT) (hw : wordB t.1 = true) : Lib.fields (cgLine t) = t.1 :: decs t.2 := by
 have hsp : ∀ c ∈ t.1, Lib.isSp c = false := fun c hc => sp_word c ((word_all _ hw).2 c hc).1 ((word_all _ hw).2 c hc).2
 have h9 : Lib.isSp 9 = true := by decide
 unfold cgLine
 rw [fields_word t.1 9 _ (word_all _ hw).1 hsp h9, show ((9 : UInt8) :: Words [9] (decs t.2)) = [9] ++ Words [9] (decs t.2) from rfl, fields_blanks [9] _ (by simp [h9]),
  fields_words [9] (by simp) (by simp [h9]) _ (fun w hw => by
   simp only [decs, List.mem_map] at hw
   obtain ⟨n, hm, rfl⟩ := hw
   exact ⟨(dec_word n).1, (dec_word n).2.1⟩)]
theorem cg_prefix (a r : List UInt8) (ha : a ≠ []) (hc : bt (strB a) 0 ≠ 35) (hl : (a ++ r).length ≤ 1000000) : strings_HasPrefix.f (strB (a ++ r)) ⟨#[35]⟩ = some false := by
 have hp : 0 < a.length := List.length_pos_iff.2 ha
 unfold strings_HasPrefix.f stringslite_HasPrefix.f
 have e1 : ((⟨#[35]⟩ : ByteArray).size : Int) = 1 := rfl
 rw [e1, if_pos (by rw [strB_size]; simp only [List.length_append]; omega), if_pos (by omega), if_pos (by rw [strB_size]; simp only [List.length_append]; omega), ext_strB]
 obtain ⟨c, a', rfl⟩ := List.exists_cons_of_ne_nil ha
 have hb : bt (strB (c :: a')) 0 = (c.toNat : Int) := bt_strB (c :: a') 0 (by simp)
 rw [hb] at hc
 have e2 : (strB (((c :: a' ++ r).drop 0).take ((1 : Int).toNat - 0))).toList = [c] := by rw [Go.ByteArray.toList_eq, strB_dl]; rfl
 rw [e2, show (⟨#[35]⟩ : ByteArray).toList = [35] by rw [Go.ByteArray.toList_eq]]
 have : ([c] == [(35 : UInt8)]) = false := beq_eq_false_iff_ne.2 (fun e => by
  obtain rfl := (List.cons.inj e).1
  exact hc rfl)
 rw [this]
 rfl
theorem cg_line (r : S31) (t : CgT) (h : CgGood r t) (hl : (cgLine t).length ≤ 40000) : LnOk (cgLine t) ∧ cgL (strB (cgLine t)) = some (some (cgS t)) := by
 have hne := (word_all _ h.w).1
 have hch := cg_chars t h.w
 refine ⟨⟨by unfold cgLine; simp, fun c hc => (hch c hc).2, by omega⟩, ?_⟩
 have hf : strings_Fields.f (strB (cgLine t)) = some ((t.1 :: decs t.2).map strB) := by
  unfold strings_Fields.f
  rw [if_pos ⟨by rw [strB_size]; omega, by rw [strB_dl, List.all_eq_true]; exact fun c hc => decide_eq_true (hch c hc).1⟩, strB_dl, cg_fields t h.w]
  rfl
 have hp : strings_HasPrefix.f (strB (cgLine t)) ⟨#[35]⟩ = some false := cg_prefix t.1 _ hne h.c (by unfold cgLine at hl; omega)
 obtain ⟨s, ns⟩ := t
 obtain ⟨n0, n1, n2, rfl⟩ := three h.l
 have d : ∀ n ∈ [n0, n1, n2], (digB 10 n).length ≤ 18 := fun n hn => by have := dec31 n (h.small n hn); omega
 have hcg : cgF (strB (cgLine (s, [n0, n1, n2]))) = some (cgS (s, [n0, n1, n2])) := by
  unfold cgF
  rw [hf]
  simp only [Option.bind_some]
  rw [if_pos (by simp [decs])]
  show (atoiF (strB (digB 10 n0))).bind (fun a => (atoiF (strB (digB 10 n1))).bind fun b => (atoiF (strB (digB 10 n2))).bind fun c => some (⟨strB s, a, b, c⟩ : S162)) = _
  rw [atoi_dec n0 (d n0 (by simp)), atoi_dec n1 (d n1 (by simp)), atoi_dec n2 (d n2 (by simp))]
  rfl
 unfold cgL
 rw [hp]
 simp only [Option.bind_some]
 rw [if_neg (by decide), hcg]
 rfl
theorem cg_head_line : LnOk cgHead ∧ cgL (strB cgHead) = some none := by
 refine ⟨⟨by decide, by decide, by decide⟩, ?_⟩
 have hp : strings_HasPrefix.f (strB cgHead) ⟨#[35]⟩ = some true := by decide +kernel
 unfold cgL
 rw [hp]
 rfl
theorem cg_tree (l : List S31) (hl : l.length ≤ 1000) (ts : List CgT) (hlen : ts.length = l.length) (hg : ∀ (j : Nat) (h1 : j < l.length) (h2 : j < ts.length), CgGood l[j] ts[j]) :
  Ev (fun k => spec_CgroupSummaryTree.l0 k [] l (l.length : Int) 0) (⟨#[]⟩, 6, false, 0, 0, 0, ⟨#[]⟩, ts.map fun t => cgN39 (cgS t), 1) := by
 have h := gen_list (fun acc i k => spec_CgroupSummaryTree.l0 k acc l (l.length : Int) (i : Int)) l.length (fun i => cgN39 (cgS (ts.getD i ([], [])))) (fun acc => ((⟨#[]⟩ : ByteArray), (6 : Int), false, (0 : Int), (0 : Int), (0 : Nat), (⟨#[]⟩ : ByteArray), acc, (1 : Int))) ?_ ?_ l.length 0 [] (by omega) (by simp)
 ·rw [← hlen, range_map ts (fun t => cgN39 (cgS t)) _ (fun i hi => by simp [List.getD_eq_getElem?_getD, List.getElem?_eq_getElem hi]), List.nil_append, hlen] at h
  exact h
 ·intro acc ha
  refine Ev.step (f := fun _ => some ((⟨#[]⟩ : ByteArray), (6 : Int), false, (0 : Int), (0 : Int), (0 : Nat), (⟨#[]⟩ : ByteArray), acc, (1 : Int))) (fun k => ?_) (Ev.now _)
  simp only [spec_CgroupSummaryTree.l0]
  rw [if_neg (by omega)]
  rfl
 ·intro i hi acc ha r hr
  have hit : i < ts.length := by omega
  have g := hg i hi hit
  have hrd := grd31 l i hi
  have hw : wrap64 ((i : Int) + 1) = ((i + 1 : Nat) : Int) := by unfold wrap64; omega
  have egd : ts.getD i ([], []) = ts[i] := by simp [List.getD_eq_getElem?_getD, List.getElem?_eq_getElem hit]
  rw [egd] at hr
  generalize ts[i] = t at g hr
  generalize l[i] = R at g hrd
  obtain ⟨s, ns⟩ := t
  obtain ⟨n0, n1, n2, rfl⟩ := three g.l
  have b0 := g.small n0 (by simp)
  have b1 := g.small n1 (by simp)
  have b2 := g.small n2 (by simp)
  have w0 : wrap64 ((n0 : Nat) : Int) = n0 := by unfold wrap64; omega
  have w1 : wrap64 ((n1 : Nat) : Int) = n1 := by unfold wrap64; omega
  have w2 : wrap64 ((n2 : Nat) : Int) = n2 := by unfold wrap64; omega
  refine Ev.step (fun k => ?_) hr
  simp only [spec_CgroupSummaryTree.l0]
  rw [if_pos (by omega), if_pos (by omega), if_pos (by omega), hrd, g.s, g.n, hw]
  simp only [spec_textNode.f, Option.bind_some]
  rw [if_pos (by simp [intsOf])]
  simp only [spec_intNode.f, Option.bind_some]
  rw [if_pos (by simp [intsOf])]
  rw [if_pos (by simp [intsOf])]
  simp only [spec_recordNode.f, Option.bind_some]
  rw [if_pos (by omega), show rd (intsOf [n0, n1, n2]) 0 = (n0 : Int) from rfl, show rd (intsOf [n0, n1, n2]) 1 = (n1 : Int) from rfl, show rd (intsOf [n0, n1, n2]) 2 = (n2 : Int) from rfl, w0, w1, w2]
  rfl
theorem cg_node (ms : List S162) (hl : ms.length ≤ 1000000) : Ev (fun k => nodeCgroupSummary k ms) ⟨⟨#[]⟩, 6, false, 0, 0, 0, ⟨#[]⟩, ms.map cgN43⟩ := by
 have h := gen_list (fun acc i k => procfs_CgroupSummary.l0 k ms (ms.length : Int) (i : Int) ⟨#[]⟩ 6 false 0 0 0 ⟨#[]⟩ acc) ms.length (fun i => cgN43 (ms.getD i z162)) (fun acc => ((⟨#[]⟩ : ByteArray), (6 : Int), false, (0 : Int), (0 : Int), (0 : Nat), (⟨#[]⟩ : ByteArray), acc)) ?_ ?_ ms.length 0 [] (by omega) (by simp)
 ·rw [range_map ms cgN43 _ (fun i hi => by simp [List.getD_eq_getElem?_getD, List.getElem?_eq_getElem hi]), List.nil_append] at h
  have h1 : Ev (fun k => procfs_CgroupSummary.f k ⟨#[]⟩ ms) (⟨#[]⟩, 6, false, 0, 0, 0, ⟨#[]⟩, ms.map cgN43) := Ev.congr (fun k => rfl) h
  have h2 : Ev (fun k => impl_CgroupSummary_1.f k ms) (⟨#[]⟩, 6, false, 0, 0, 0, ⟨#[]⟩, ms.map cgN43) :=
   evB (F := fun _ bt326 => some (bt326.1, bt326.2.1, bt326.2.2.1, bt326.2.2.2.1, bt326.2.2.2.2.1, bt326.2.2.2.2.2.1, bt326.2.2.2.2.2.2.1, bt326.2.2.2.2.2.2.2)) (a := (⟨#[]⟩, 6, false, 0, 0, 0, ⟨#[]⟩, ms.map cgN43)) h1 (Ev.now _)
  obtain ⟨K, hK⟩ := h2
  exact ⟨K, fun k hk => by
   have h3 := hK k hk
   simp only at h3
   show Option.map _ (impl_CgroupSummary_1.f k ms) = _
   rw [h3]
   rfl⟩
 ·intro acc ha
  refine Ev.step (f := fun _ => some ((⟨#[]⟩ : ByteArray), (6 : Int), false, (0 : Int), (0 : Int), (0 : Nat), (⟨#[]⟩ : ByteArray), acc)) (fun k => ?_) (Ev.now _)
  simp only [procfs_CgroupSummary.l0]
  rw [if_neg (by omega)]
 ·intro i hi acc ha r hr
  have hw : wrap64 ((i : Int) + 1) = ((i + 1 : Nat) : Int) := by unfold wrap64; omega
  have egd : rd_T162 ms (i : Int) = ms.getD i z162 := by simp [rd_T162]
  refine Ev.step (fun k => ?_) hr
  simp only [procfs_CgroupSummary.l0]
  rw [if_pos (by omega), if_pos (by omega), if_pos (by omega), egd, hw]
  simp only [impl_CgroupSummary_1_1.f, impl_procfsCgroupSummary.f, Option.bind_some]
  rw [if_pos (by simp)]
  simp only [List.nil_append, List.cons_append, List.length_cons, List.length_nil]
  rw [if_pos (by decide), if_pos (by decide), if_pos (by decide)]
  simp only [Option.bind_some]
  rw [if_pos (by omega)]
  rfl
theorem plainCgroupSummary (l : List S31) (hl : l.length ≤ maxLen) (hr : ∀ r ∈ l, OP.RowOk r) : ∃ k b, laws_zzFits5.f k l = some b ∧ (b = true → BackOk (fun k => spec_CgroupSummaryPrint.f k l) (fun k => spec_CgroupSummaryTree.f k l) (fun s n => doorCgroupSummary s n) l) := by
 obtain ⟨k, b, hz, hfit⟩ := zz5fF l
 refine ⟨k, b, hz, fun e => ?_⟩
 obtain ⟨_, hf⟩ := hfit e
 by_cases h1000 : 1000 < l.length
 ·exact .long h1000
 have hh : cgHead.length = 42 := by decide
 rcases gen_print (fun acc i k => spec_CgroupSummaryPrint.l0 k (strB acc) l (l.length : Int) (i : Int)) l.length 43 3000000000 (by omega) (fun t => cgLine t ++ [10]) (fun i t => ∃ h : i < l.length, CgGood l[i] t)
  (fun acc => Ev.step (f := fun _ => some (strB acc, (1 : Int))) (fun k => by simp only [spec_CgroupSummaryPrint.l0]; rw [if_neg (by omega)]) (Ev.now _))
  (fun i hi acc hacc => by
   rcases cg_one l (by omega) (fun r h => ⟨hf r h, hr r h⟩) i hi acc hacc with h | ⟨t, h1, h2, h3⟩
   ·exact .inl h
   ·exact .inr ⟨t, ⟨hi, h1⟩, h2, h3⟩) l.length 0 (cgHead ++ [10]) (by omega) (by simp [hh]) with hp | ⟨ts, hlen, hg, hp⟩
 ·exact gen_no (by omega) hp
 have hg' : ∀ (j : Nat) (h1 : j < l.length) (h2 : j < ts.length), CgGood l[j] ts[j] := fun j h1 h2 => by
  obtain ⟨h, hc⟩ := hg j h2
  simp only [Nat.zero_add] at hc
  exact hc
 refine gen_end (by omega) _ hp 2 (cgAll ts) (fun _ => cg_fit ts (by omega)) (fun _ => ?_) (fun hsz => ?_)
 ·rw [cg_conv]
  exact evB hp (evP rfl (cg_tree l (by omega) ts hlen hg'))
 ·have hn := cg_node (ts.map cgS) (by simp; omega)
  have hrows : rowsF cgL (ts.length + 2) (strB (cgHead ++ 10 :: ts.flatMap fun t => cgLine t ++ [10])) = some (ts.map cgS) := by
   simp only [List.length_append, List.length_cons, List.length_nil] at hsz
   refine rows_cons cgL (ts.length + 1) cgHead _ cg_head_line.1 (by simp only [List.length_append, List.length_cons]; omega) none _ cg_head_line.2 ?_
   refine rows_text cgL cgLine cgS ts (ts.length + 1) (by omega) (fun t ht => ?_) (by omega)
   obtain ⟨j, hj, rfl⟩ := List.getElem_of_mem ht
   have hfl := flat_len (fun t => cgLine t ++ [10]) ts ts[j] (List.getElem_mem _)
   simp only [List.length_append, List.length_cons, List.length_nil] at hfl
   exact cg_line _ ts[j] (hg' j (by omega) hj) (by omega)
  have htxt : ∀ k, ts.length + 2 ≤ k → cgTextF k (strB (cgHead ++ [10] ++ ts.flatMap fun t => cgLine t ++ [10])) = some (ts.map cgS, none) := fun k hk => by
   have e : cgHead ++ [10] ++ (ts.flatMap fun t => cgLine t ++ [10]) = cgHead ++ 10 :: ts.flatMap fun t => cgLine t ++ [10] := by simp
   rw [e] at hsz ⊢
   unfold cgTextF
   rw [read_text _ (by omega)]
   simp only [Option.bind_some, if_true]
   rw [nums_text, rowsF_more hk hrows]
   rfl
  obtain ⟨K, hK⟩ := hn
  exact ⟨K + (ts.length + 2), ts.map cgS, htxt _ (by omega), hK _ (by omega)⟩
end Go.Proofs.YtednjmngalmdkaaGreatDoor.GPC
end
