/- Texts of this claim, put together: GPDx6, GPDx7, GivenBud, GivenBud2, BackBuddyinfo, LwBuddyinfo, PlBase, PlLines, PlWords, PlFlt, PlNums, PlFltW, PlBud1, PlBud2, PlBud3. Conditions: as each one says. -/
import Derived.Test.YtednjmngalmdkaaGreatDoorKBud0
import Derived.Test.YtednjmngalmdkaaGreatDoorKBud1
import Derived.Test.YtednjmngalmdkaaGreatDoorKBud2
import Derived.Test.YtednjmngalmdkaaGreatDoorKBud3
import Derived.Test.YtednjmngalmdkaaGreatDoorKBud4
import Derived.Defers
import Derived.Recover
import Derived.Deep.RegionHeld3
import Derived.Test.YtednjmngalmdkaaGreatDoorProg
import Derived.Lib.Strings
import Derived.Lib.Walk
import Derived.Lib.ConvBytes
import Derived.Lib.Hide
import Derived.Laws.Strings3
import Derived.Laws.Closers25
import Derived.Laws.Closers25b
import Derived.Lib.AtoiAllMem
import Derived.Lib.AtoiErrMem
import Derived.WalkKit
import Derived.BigCall
import Derived.BigGuard
import Derived.Laws.FloatArith
section
namespace Go.Proofs.YtednjmngalmdkaaGreatDoor.GPC
open Go.RowKit Go.Proofs.YtednjmngalmdkaaGreatDoorW.PrintWords Go.Proofs.YtednjmngalmdkaaGreatDoorW.PrintLast Go.Proofs.YtednjmngalmdkaaGreatDoorW.PrintMore
attribute [local go_sem] max2_int min2_int max_two min_two max_three min_three max_four min_four   -- for this text's walks alone
set_option linter.unusedVariables false
set_option linter.unusedSimpArgs false

attribute [local go_sem] run_store_float
/-! ### impl_list_float64: function 146 -/
def impl_list_float64.l0 : Nat → List Nat → Int → Int → ByteArray → Int → Bool → Int → Int → Nat → ByteArray → List (S43) → Option (ByteArray × Int × Bool × Int × Int × Nat × ByteArray × (List (S43)))
 | 0, _, _, _, _, _, _, _, _, _, _, _ => none
 | k + 1, x12, x13, x14, x260000, x260001, x260002, x260003, x260004, x260005, x260006, x260007 => if x14 < x13 then (if 0 ≤ x14 then (if x14 < (x12.length : Int) then ((impl_procfsBuddyInfo_1.f (rdOf (0 : Nat) x12 x14)).bind fun bt261 => (if x260007.length < 1466015503701 then (impl_list_float64.l0 k x12 x13 (wrap64 (x14 + 1)) x260000 x260001 x260002 x260003 x260004 x260005 x260006 (x260007 ++ [(⟨bt261.1, bt261.2.1, bt261.2.2.1, bt261.2.2.2.1, bt261.2.2.2.2.1, bt261.2.2.2.2.2.1, bt261.2.2.2.2.2.2.1, bt261.2.2.2.2.2.2.2⟩ : S43)])) else (none))) else (none)) else (none)) else (some (x260000, x260001, x260002, x260003, x260004, x260005, x260006, x260007))
def impl_list_float64.f (k : Nat) (a0 : ByteArray) (l1 : List Nat) : Option (ByteArray × Int × Bool × Int × Int × Nat × ByteArray × (List (S43))) := impl_list_float64.l0 k l1 (l1.length : Int) 0 a0 6 false 0 0 0 (⟨#[]⟩ : ByteArray) ([] : List (S43))
theorem impl_list_float64.mono_l : ∀ k, (∀ y0 y1 y2 y3 y4 y5 y6 y7 y8 y9 y10, LeO (impl_list_float64.l0 k y0 y1 y2 y3 y4 y5 y6 y7 y8 y9 y10) (impl_list_float64.l0 (k + 1) y0 y1 y2 y3 y4 y5 y6 y7 y8 y9 y10))
 | 0 => fun _ _ _ _ _ _ _ _ _ _ _ r h => by simp [impl_list_float64.l0] at h
 | k + 1 => by
  have ih0 := impl_list_float64.mono_l k
  ·intro y0 y1 y2 y3 y4 y5 y6 y7 y8 y9 y10
   unfold impl_list_float64.l0
   repeat' first
   | (with_reducible exact ih0 _ _ _ _ _ _ _ _ _ _ _)
   | (with_reducible exact LeO.refl _)
   | (with_reducible exact LeO.none _)
   | (with_reducible refine LeO.ite ?_ ?_)
   | (with_reducible refine LeO.bind ?_ (fun _ => ?_))
   | exact ih0 _ _ _ _ _ _ _ _ _ _ _
   | exact LeO.none _
   | refine LeO.ite ?_ ?_
   | refine LeO.bind ?_ (fun _ => ?_)
theorem impl_list_float64.mono : ∀ a0 a1 k, LeO (impl_list_float64.f k a0 a1) (impl_list_float64.f (k + 1) a0 a1) := by
 intro a0 a1 k
 have ih0 := impl_list_float64.mono_l k
 unfold impl_list_float64.f
 repeat' first
   | (with_reducible exact ih0 _ _ _ _ _ _ _ _ _ _ _)
   | (with_reducible exact LeO.refl _)
   | (with_reducible exact LeO.none _)
   | (with_reducible refine LeO.ite ?_ ?_)
   | (with_reducible refine LeO.bind ?_ (fun _ => ?_))
   | exact ih0 _ _ _ _ _ _ _ _ _ _ _
   | exact LeO.none _
   | refine LeO.ite ?_ ?_
   | refine LeO.bind ?_ (fun _ => ?_)
def impl_list_float64.T5 : Bool × List (List Nat × List Nat) := (true, [([], []), ([0], [0]), ([], []), ([], []), ([2, 3], [2, 3]), ([4], [4]), ([1, 5, 4], [1, 5]), ([0, 1, 2, 3, 4, 5, 6], []), ([7, 6, 6, 0, 1, 2, 3, 4, 5, 6], [6, 7])])
def impl_list_float64.B5 : List Nat := [0, 1, 0, 0, 12, 28, 63, 127, 255]
theorem impl_list_float64.tab5 : rtab .any (opsOf Tryz.f146 5) = impl_list_float64.T5 := by kernel_rfl
theorem impl_list_float64.bits5 : waitsOk impl_list_float64.T5.2 impl_list_float64.B5 = true := by kernel_rfl
set_option maxHeartbeats 8000000 in
set_option maxRecDepth 100000 in
theorem impl_list_float64.calls (k : Nat) (a0 : ByteArray) (A1 : Option Addr) (c1 : Nat) (l1 : List Nat) (r1 : ByteArray) (r2 : Int) (r3 : Bool) (r4 : Int) (r5 : Int) (r6 : Nat) (r7 : ByteArray) (r8 : List (S43)) (w : World) (hr1 : Kd.C kF64 w A1 l1.length l1) (hc1 : l1.length ≤ c1) (h : impl_list_float64.f k a0 l1 = some (r1, r2, r3, r4, r5, r6, r7, r8)) :
  Calls Tryz.prog 146 #[.string a0, .slice A1 l1.length c1, .func (.func 147) #[] #[]] w fun e w' => ∃ v7_ : Value, e = .returned (.agg #[.string r1, .int .i64 r2, .bool r3, .int .i64 r4, .int .u64 r5, .float .f64 r6, .string r7, v7_]) ∧ Kd.R k43 43 w' w.heap.size (fun _ => True) v7_ r8 ∧ Below w.heap.size w w' := by
 have hu43 := Tryz.underlying43
 have HR1 := Aside0.mk hr1
 have HC1 := Aside0.mk hc1
 clear hr1 hc1
 have HB := Aside0.mk (Below.refl w.heap.size w)
 have H : (impl_list_float64.l0 k l1 (l1.length : Int) 0 a0 6 false 0 0 0 (⟨#[]⟩ : ByteArray) ([] : List (S43))) = some (r1, r2, r3, r4, r5, r6, r7, r8) := h
 clear h
 have H' := Aside0.mk H
 clear H
 go_enter Tryz.func146, Tryz.ntmps146
 go_wp2_with (first | ((with_reducible refine gate_dst (N := 6) rfl ?_); refine box_event ?hg (N := 6) ?hd (cs := #[.string (⟨#[]⟩ : ByteArray), .int .i64 0, .bool false, .int .i64 0, .int .u64 0, .float .f64 0, .string (⟨#[]⟩ : ByteArray), .slice none 0 0]) (t := 43) ?hr ?_; (case hd => rfl); (case hg => rfl); (case hr => first | (go_simp; done) | (go_simp; rfl)); intro gb258 hg w3 hbox hb; have n0_ := Aside0.mk (below_step (by repeat (first | (with_reducible first | exact HB.out | apply below_alloc | apply pw_below_drewN | apply below_drew1) | exact HB.out)) hb); have n1_ := Aside0.mk (hbox); have n2_ := Aside0.mk ((by rw [hg]; exact (below_size (by repeat (first | (with_reducible first | exact HB.out | apply below_alloc | apply pw_below_drewN | apply below_drew1) | exact HB.out))) : w.heap.size ≤ gb258)); have n3_ := Aside0.mk ((by rw [hg]; exact (below_size (by repeat (first | (with_reducible first | exact HB.out | apply below_alloc | apply pw_below_drewN | apply below_drew1) | exact HB.out))) : w.heap.size ≤ gb258)); clear HB; have HB := n0_; have BK258 := n1_; have GW258 := n2_; have GE258 := n3_; clear n0_ n1_ n2_ n3_; clear hb hbox hg) | ((with_reducible refine gate_dst (N := 7) rfl ?_); refine box_event ?hg (N := 7) ?hd (cs := #[.string (⟨#[]⟩ : ByteArray), .int .i64 0, .bool false, .int .i64 0, .int .u64 0, .float .f64 0, .string (⟨#[]⟩ : ByteArray), .slice none 0 0]) (t := 43) ?hr ?_; (case hd => rfl); (case hg => rfl); (case hr => first | (go_simp; done) | (go_simp; rfl)); intro gb259 hg w4 hbox hb; have n0_ := Aside0.mk (blk_below (g := gb258) (o := .cells #[.string (⟨#[]⟩ : ByteArray), .int .i64 0, .bool false, .int .i64 0, .int .u64 0, .float .f64 0, .string (⟨#[]⟩ : ByteArray), .slice none 0 0] 43 (0, 0)) (by (with_reducible repeat (first | refine blk_drewN ?_ _ | refine blk_drew ?_ | refine blk_alloc ?_ _)); exact BK258.out) hb); have n1_ := Aside0.mk (below_step (by repeat (first | (with_reducible first | exact HB.out | apply below_alloc | apply pw_below_drewN | apply below_drew1 | refine below_set ?_ GE258.out) | exact HB.out)) hb); have n2_ := Aside0.mk (hbox); have n3_ := Aside0.mk ((by rw [hg]; exact (below_size (by repeat (first | (with_reducible first | exact HB.out | apply below_alloc | apply pw_below_drewN | apply below_drew1 | refine below_set ?_ GE258.out) | exact HB.out))) : w.heap.size ≤ gb259)); have n4_ := Aside0.mk ((by rw [hg]; exact (below_size (by repeat (first | (with_reducible first | exact HB.out | apply below_alloc | apply pw_below_drewN | apply below_drew1 | refine below_set ?_ GE258.out) | exact HB.out))) : w.heap.size ≤ gb259)); have n5_ := Aside0.mk ((by rw [hg]; exact Nat.ne_of_lt (blk_lt (g := gb258) (o := .cells #[.string (⟨#[]⟩ : ByteArray), .int .i64 0, .bool false, .int .i64 0, .int .u64 0, .float .f64 0, .string (⟨#[]⟩ : ByteArray), .slice none 0 0] 43 (0, 0)) (by (with_reducible repeat (first | refine blk_drewN ?_ _ | refine blk_drew ?_ | refine blk_alloc ?_ _)); exact BK258.out)) : gb258 ≠ gb259)); have n6_ := Aside0.mk ((by rw [hg]; exact Nat.ne_of_gt (blk_lt (g := gb258) (o := .cells #[.string (⟨#[]⟩ : ByteArray), .int .i64 0, .bool false, .int .i64 0, .int .u64 0, .float .f64 0, .string (⟨#[]⟩ : ByteArray), .slice none 0 0] 43 (0, 0)) (by (with_reducible repeat (first | refine blk_drewN ?_ _ | refine blk_drew ?_ | refine blk_alloc ?_ _)); exact BK258.out)) : gb259 ≠ gb258)); clear BK258; clear HB; have BK258 := n0_; have HB := n1_; have BK259 := n2_; have GW259 := n3_; have GE259 := n4_; have NB258_259 := n5_; have NB259_258 := n6_; clear n0_ n1_ n2_ n3_ n4_ n5_ n6_; clear hb hbox hg; have hnb5 := NB259_258.out; have hnc5 := NB258_259.out; have hcz6_0 : w4.cell? ⟨gb259, 0, none⟩ = some (.string (⟨#[]⟩ : ByteArray)) := (blk_cell BK259.out 0).trans rfl; have hcz6_1 : w4.cell? ⟨gb259, 1, none⟩ = some (.int .i64 0) := (blk_cell BK259.out 1).trans rfl; have hcz6_2 : w4.cell? ⟨gb259, 2, none⟩ = some (.bool false) := (blk_cell BK259.out 2).trans rfl; have hcz6_3 : w4.cell? ⟨gb259, 3, none⟩ = some (.int .i64 0) := (blk_cell BK259.out 3).trans rfl; have hcz6_4 : w4.cell? ⟨gb259, 4, none⟩ = some (.int .u64 0) := (blk_cell BK259.out 4).trans rfl; have hcz6_5 : w4.cell? ⟨gb259, 5, none⟩ = some (.float .f64 0) := (blk_cell BK259.out 5).trans rfl; have hcz6_6 : w4.cell? ⟨gb259, 6, none⟩ = some (.string (⟨#[]⟩ : ByteArray)) := (blk_cell BK259.out 6).trans rfl; have hcz6_7 : w4.cell? ⟨gb259, 7, none⟩ = some (.slice none 0 0) := (blk_cell BK259.out 7).trans rfl; have hfz6_0 := blk_frozen BK259.out 0; have hfz6_1 := blk_frozen BK259.out 1; have hfz6_2 := blk_frozen BK259.out 2; have hfz6_3 := blk_frozen BK259.out 3; have hfz6_4 := blk_frozen BK259.out 4; have hfz6_5 := blk_frozen BK259.out 5; have hfz6_6 := blk_frozen BK259.out 6; have hfz6_7 := blk_frozen BK259.out 7))
 go_loopg [14] k (fun kq v14 w' => ∃ (x14_1 : Int) (x260007_1 : List (S43)) (u260007 : Value), v14 = .int .i64 x14_1 ∧ Aside0 (impl_list_float64.l0 kq l1 (l1.length : Int) x14_1 a0 6 false 0 0 0 (⟨#[]⟩ : ByteArray) x260007_1 = some (r1, r2, r3, r4, r5, r6, r7, r8)) ∧ Aside0 (kq ≤ k) ∧ Aside0 (Kd.R k43 43 w' w.heap.size (fun k_ => k_ ≠ gb258 ∧ k_ ≠ gb259) u260007 x260007_1) ∧ Aside0 (w'.heap[gb258]? = some (.cells #[.string (⟨#[]⟩ : ByteArray), .int .i64 0, .bool false, .int .i64 0, .int .u64 0, .float .f64 0, .string (⟨#[]⟩ : ByteArray), (.slice none 0 0)] 43 (0, 0))) ∧ Aside0 (w'.heap[gb259]? = some (.cells #[.string a0, .int .i64 6, .bool false, .int .i64 0, .int .u64 0, .float .f64 0, .string (⟨#[]⟩ : ByteArray), u260007] 43 (0, 0))) ∧ Aside0 (Below w.heap.size w w'))
 case atStart => exact ⟨(0), (([] : List (S43))), (.slice none 0 0), (by first | rfl | (simp; done) | (simp [*]; done)), H', ⟨Nat.le_refl _⟩, ⟨by first | exact Kd.R_nil _ _ _ _ _ | exact Kd.N_nil _ _ _ _ _ | exact Kd.V_nil _ _ _ _ _ | exact Kd.Q_nil _ _ _ _ _ | exact Kd.S_nil _ _ _ _ _⟩, ⟨by (with_reducible repeat (first | refine blk_drewN ?_ _ | refine blk_drew ?_ | refine blk_alloc ?_ _)); refine blk_far ?_ NB258_259.out _; (with_reducible repeat (first | refine blk_drewN ?_ _ | refine blk_drew ?_ | refine blk_alloc ?_ _)); refine blk_far ?_ NB258_259.out _; (with_reducible repeat (first | refine blk_drewN ?_ _ | refine blk_drew ?_ | refine blk_alloc ?_ _)); refine blk_far ?_ NB258_259.out _; (with_reducible repeat (first | refine blk_drewN ?_ _ | refine blk_drew ?_ | refine blk_alloc ?_ _)); refine blk_far ?_ NB258_259.out _; (with_reducible repeat (first | refine blk_drewN ?_ _ | refine blk_drew ?_ | refine blk_alloc ?_ _)); refine blk_far ?_ NB258_259.out _; (with_reducible repeat (first | refine blk_drewN ?_ _ | refine blk_drew ?_ | refine blk_alloc ?_ _)); refine blk_far ?_ NB258_259.out _; (with_reducible repeat (first | refine blk_drewN ?_ _ | refine blk_drew ?_ | refine blk_alloc ?_ _)); refine blk_far ?_ NB258_259.out _; (with_reducible repeat (first | refine blk_drewN ?_ _ | refine blk_drew ?_ | refine blk_alloc ?_ _)); refine blk_far ?_ NB258_259.out _; (with_reducible repeat (first | refine blk_drewN ?_ _ | refine blk_drew ?_ | refine blk_alloc ?_ _)); exact BK258.out⟩, ⟨by (with_reducible repeat (first | refine blk_drewN ?_ _ | refine blk_drew ?_ | refine blk_alloc ?_ _)); refine blk_put (cs := #[.string a0, .int .i64 6, .bool false, .int .i64 0, .int .u64 0, .float .f64 0, .string (⟨#[]⟩ : ByteArray), .slice none 0 0]) ?_ 7 _ rfl; (with_reducible repeat (first | refine blk_drewN ?_ _ | refine blk_drew ?_ | refine blk_alloc ?_ _)); refine blk_put (cs := #[.string a0, .int .i64 6, .bool false, .int .i64 0, .int .u64 0, .float .f64 0, .string (⟨#[]⟩ : ByteArray), .slice none 0 0]) ?_ 6 _ rfl; (with_reducible repeat (first | refine blk_drewN ?_ _ | refine blk_drew ?_ | refine blk_alloc ?_ _)); refine blk_put (cs := #[.string a0, .int .i64 6, .bool false, .int .i64 0, .int .u64 0, .float .f64 0, .string (⟨#[]⟩ : ByteArray), .slice none 0 0]) ?_ 5 _ rfl; (with_reducible repeat (first | refine blk_drewN ?_ _ | refine blk_drew ?_ | refine blk_alloc ?_ _)); refine blk_put (cs := #[.string a0, .int .i64 6, .bool false, .int .i64 0, .int .u64 0, .float .f64 0, .string (⟨#[]⟩ : ByteArray), .slice none 0 0]) ?_ 4 _ rfl; (with_reducible repeat (first | refine blk_drewN ?_ _ | refine blk_drew ?_ | refine blk_alloc ?_ _)); refine blk_put (cs := #[.string a0, .int .i64 6, .bool false, .int .i64 0, .int .u64 0, .float .f64 0, .string (⟨#[]⟩ : ByteArray), .slice none 0 0]) ?_ 3 _ rfl; (with_reducible repeat (first | refine blk_drewN ?_ _ | refine blk_drew ?_ | refine blk_alloc ?_ _)); refine blk_put (cs := #[.string a0, .int .i64 6, .bool false, .int .i64 0, .int .u64 0, .float .f64 0, .string (⟨#[]⟩ : ByteArray), .slice none 0 0]) ?_ 2 _ rfl; (with_reducible repeat (first | refine blk_drewN ?_ _ | refine blk_drew ?_ | refine blk_alloc ?_ _)); refine blk_put (cs := #[.string a0, .int .i64 0, .bool false, .int .i64 0, .int .u64 0, .float .f64 0, .string (⟨#[]⟩ : ByteArray), .slice none 0 0]) ?_ 1 _ rfl; (with_reducible repeat (first | refine blk_drewN ?_ _ | refine blk_drew ?_ | refine blk_alloc ?_ _)); refine blk_put (cs := #[.string (⟨#[]⟩ : ByteArray), .int .i64 0, .bool false, .int .i64 0, .int .u64 0, .float .f64 0, .string (⟨#[]⟩ : ByteArray), .slice none 0 0]) ?_ 0 _ rfl; (with_reducible repeat (first | refine blk_drewN ?_ _ | refine blk_drew ?_ | refine blk_alloc ?_ _)); exact BK259.out⟩, ⟨by repeat (first | (with_reducible first | exact HB.out | apply below_alloc | apply pw_below_drewN | apply below_drew1 | refine below_set ?_ GE258.out | refine below_set ?_ GE259.out) | exact HB.out)⟩⟩
 case round =>
  clear H'
  try clear c1
  try clear p2
  try clear c5
  try clear hcz6_0
  try clear hcz6_1
  try clear hcz6_2
  try clear hcz6_3
  try clear hcz6_4
  try clear hcz6_5
  try clear hcz6_6
  try clear hcz6_7
  try clear hfz6_0
  try clear hfz6_1
  try clear hfz6_2
  try clear hfz6_3
  try clear hfz6_4
  try clear hfz6_5
  try clear hfz6_6
  try clear hfz6_7
  obtain ⟨x14_1, x260007_1, u260007, rfl, HA, HK1, HO_260007, BK258, BK259, HB⟩ := hrel
  cases gk with
  | zero => exact absurd HA.out (by simp [impl_list_float64.l0])
  | succ k1 =>
   have H := HA.out
   clear HA
   simp only [impl_list_float64.l0] at H
   by_cases c7 : x14_1 < (l1.length : Int)
   ·rw [if_pos c7] at H
    have c7b0 : decide (x14_1 < (l1.length : Int)) = true := decide_eq_true c7
    clear c7
    replace H := guard_inv H
    obtain ⟨c8, H⟩ := H
    have c8b0 : decide (0 ≤ x14_1) = true := decide_eq_true c8
    clear c8
    replace H := guard_inv H
    obtain ⟨c9, H⟩ := H
    have c9b0 : decide (x14_1 < (l1.length : Int)) = true := decide_eq_true c9
    clear c9
    replace H := Option.bind_eq_some_iff.mp H
    obtain ⟨⟨t261, t262, t263, t264, t265, t266, t267, t268⟩, A100, H⟩ := H
    replace H : (if x260007_1.length < 1466015503701 then (impl_list_float64.l0 k1 l1 (l1.length : Int) (wrap64 (x14_1 + 1)) a0 6 false 0 0 0 (⟨#[]⟩ : ByteArray) (x260007_1 ++ [(⟨t261, t262, t263, t264, t265, t266, t267, t268⟩ : S43)])) else (none)) = some (r1, r2, r3, r4, r5, r6, r7, r8) := H
    have A10 := Aside0.mk A100
    clear A100
    replace H := guard_inv H
    obtain ⟨c11, H⟩ := H
    have LMc11 := Aside0.mk c11
    clear c11
    obtain ⟨y271, hy271⟩ : ∃ y_ : List (S43), y_ = (x260007_1 ++ [(⟨t261, t262, t263, t264, t265, t266, t267, t268⟩ : S43)]) := ⟨_, rfl⟩
    replace H : (impl_list_float64.l0 k1 l1 (l1.length : Int) (wrap64 (x14_1 + 1)) a0 6 false 0 0 0 (⟨#[]⟩ : ByteArray) y271) = some (r1, r2, r3, r4, r5, r6, r7, r8) := by first | (rw [hy271]; with_reducible exact H) | (have H2_ := (Option.bind_some _ _).symm.trans H; rw [hy271]; with_reducible exact H2_) | (have H2_ := (Option.bind_some _ _).symm.trans H; with_reducible exact H2_) | with_reducible exact H | (rw [hy271]; exact H) | exact H
    have Ny271 := Aside0.mk hy271
    clear hy271
    have H' := Aside0.mk H
    clear H
    have p260 : 0 ≤ (x14_1 : Int) := of_decide_eq_true (by first | (with_reducible assumption) | assumption)
    have q260 : x14_1 < (l1.length : Int) := of_decide_eq_true (by first | (with_reducible assumption) | assumption)
    obtain ⟨ad260, e260, hx260_0⟩ := at_f64 HR1.out x14_1 p260 q260
    cases e260
    replace hx260_0 := (HB.out.cell (World.block_lt_of_cell? w _ hx260_0)).trans hx260_0
    replace p260 := eq_true p260
    replace q260 := eq_true q260
    try go_wp2
    have n0_ := Aside0.mk (Kd.R_drew HO_260007.out)
    have n1_ := Aside0.mk (blk_drew BK258.out)
    have n2_ := Aside0.mk (blk_drew BK259.out)
    have n3_ := Aside0.mk (below_drew1 HB.out)
    clear HO_260007
    clear BK258
    clear BK259
    clear HB
    have HO_260007 := n0_
    have BK258 := n1_
    have BK259 := n2_
    have HB := n3_
    clear n0_ n1_ n2_ n3_
    refine start_ (n := 9) (S := fun w' => w'.cell? ⟨gb259, 0, none⟩ = some (.string a0) ∧ w'.cell? ⟨gb259, 1, none⟩ = some (.int .i64 6) ∧ w'.cell? ⟨gb259, 2, none⟩ = some (.bool false) ∧ w'.cell? ⟨gb259, 3, none⟩ = some (.int .i64 0) ∧ w'.cell? ⟨gb259, 4, none⟩ = some (.int .u64 0) ∧ w'.cell? ⟨gb259, 5, none⟩ = some (.float .f64 0) ∧ w'.cell? ⟨gb259, 6, none⟩ = some (.string (⟨#[]⟩ : ByteArray)) ∧ w'.cell? ⟨gb259, 7, none⟩ = some (u260007)) (ds := [8]) (bb [0, 9]) (by kernel_rfl) rfl rfl ⟨(blk_cell BK259.out 0).trans rfl, (blk_cell BK259.out 1).trans rfl, (blk_cell BK259.out 2).trans rfl, (blk_cell BK259.out 3).trans rfl, (blk_cell BK259.out 4).trans rfl, (blk_cell BK259.out 5).trans rfl, (blk_cell BK259.out 6).trans rfl, (blk_cell BK259.out 7).trans rfl⟩ (fun hHeld => ?_); refine with_tabW impl_list_float64.tab5 impl_list_float64.bits5 (fun HT_ HW_ => ?_)
    generalize wr.drew = w12 at HO_260007 BK258 BK259 HB hHeld ⊢
    refine pure_ (i := 0) (N := some 18) (v := ?_) (a' := ?_) (bb [1, 8]) rfl rfl (any_of HT_.out (by kernel_rfl)) (fun _ _ _ h => h) (Or.inl ⟨by rfl, ?_⟩) ?_ ?_
    rotate_left
    ·intro w'
     go_simp
     with_reducible rfl
    rotate_left
    ·simp only [Act.put, List.setIfInBounds_toArray, List.set_cons_zero, List.set_cons_succ, i64_w, i32_w]
     rfl
    refine pure_ (i := 2) (N := some 20) (v := ?_) (a' := ?_) (bb [1, 1, 1, 6]) rfl rfl (any_of HT_.out (by kernel_rfl)) (fun _ _ _ h => h) (Or.inl ⟨by rfl, ?_⟩) ?_ ?_
    rotate_left
    ·intro w'
     go_simp
     with_reducible rfl
    rotate_left
    ·simp only [Act.put, List.setIfInBounds_toArray, List.set_cons_zero, List.set_cons_succ, i64_w, i32_w]
     rfl
    refine pure_ (i := 3) (N := some 21) (v := ?_) (a' := ?_) (bb [1, 1, 2, 5]) rfl rfl (any_of HT_.out (by kernel_rfl)) (fun _ _ _ h => h) (Or.inl ⟨by rfl, ?_⟩) ?_ ?_
    rotate_left
    ·intro w'
     go_simp
     with_reducible rfl
    rotate_left
    ·simp only [Act.put, List.setIfInBounds_toArray, List.set_cons_zero, List.set_cons_succ, i64_w, i32_w]
     rfl
    refine take_ (i := 1) (N := some 19) (v := ?_) (a' := ?_) (bb [4, 5]) rfl rfl (take_ofW HT_.out HW_.out (by kernel_rfl)) (fun _ _ _ h => h) (Or.inl ⟨by rfl, ?_⟩) hHeld ?_ ?_
    rotate_left
    ·rintro w' ⟨s0, s1, s2, s3, s4, s5, s6, s7⟩
     go_simp
     with_reducible rfl
    rotate_left
    ·simp only [Act.put, List.setIfInBounds_toArray, List.set_cons_zero, List.set_cons_succ, i64_w, i32_w]
     rfl
    refine one_ (i := 4) (N := some 22) (bb [5, 4]) rfl rfl (one_of HT_.out (by kernel_rfl)) (by decide) (fun K hK => ?_)
    refine goesV_ Tryz.func147 (by kernel_rfl) rfl #[.float .f64 (rdOf (0 : Nat) l1 x14_1)] (by rfl) rfl rfl (by rfl) (by (try simp only [List.map_toArray, List.map_cons, List.map_nil]); first | done | rfl | (simp only [List.length_drop, List.length_take]; rfl)) ?_
    with_reducible refine (impl_procfsBuddyInfo_1.calls (rdOf (0 : Nat) l1 x14_1) t261 t262 t263 t264 t265 t266 t267 t268 _ A10.out).mono ?_
    rintro e w13 ⟨v269, rfl, ho0, hb⟩
    refine ⟨_, rfl, ?_⟩
    have n0_ := Aside0.mk (Kd.R_elder' (by (with_reducible repeat (first | apply Kd.R_alloc | apply Kd.R_drewN | apply Kd.R_drew)); exact HO_260007.out) (by first | exact Kd.R_base ho0 | exact Kd.R_base ho0) hb)
    have n1_ := Aside0.mk (Kd.R_lower (Kd.R_newB (Kd.R_newB (Kd.R_new' ho0 (Kd.R_lt (by (with_reducible repeat (first | apply Kd.R_alloc | apply Kd.R_drewN | apply Kd.R_drew)); exact HO_260007.out))) (g := gb258) (o := .cells #[.string (⟨#[]⟩ : ByteArray), .int .i64 0, .bool false, .int .i64 0, .int .u64 0, .float .f64 0, .string (⟨#[]⟩ : ByteArray), .slice none 0 0] 43 (0, 0)) (by (with_reducible repeat (first | refine blk_drewN ?_ _ | refine blk_drew ?_ | refine blk_alloc ?_ _)); exact BK258.out)) (g := gb259) (o := .cells #[.string a0, .int .i64 6, .bool false, .int .i64 0, .int .u64 0, .float .f64 0, .string (⟨#[]⟩ : ByteArray), u260007] 43 (0, 0)) (by (with_reducible repeat (first | refine blk_drewN ?_ _ | refine blk_drew ?_ | refine blk_alloc ?_ _)); exact BK259.out)) (below_size (by repeat (first | (with_reducible first | exact HB.out | apply below_alloc | apply pw_below_drewN | apply below_drew1 | refine below_set ?_ GE258.out | refine below_set ?_ GE259.out) | exact HB.out))))
    have n2_ := Aside0.mk (blk_below (g := gb258) (o := .cells #[.string (⟨#[]⟩ : ByteArray), .int .i64 0, .bool false, .int .i64 0, .int .u64 0, .float .f64 0, .string (⟨#[]⟩ : ByteArray), .slice none 0 0] 43 (0, 0)) (by (with_reducible repeat (first | refine blk_drewN ?_ _ | refine blk_drew ?_ | refine blk_alloc ?_ _)); exact BK258.out) hb)
    have n3_ := Aside0.mk (blk_below (g := gb259) (o := .cells #[.string a0, .int .i64 6, .bool false, .int .i64 0, .int .u64 0, .float .f64 0, .string (⟨#[]⟩ : ByteArray), u260007] 43 (0, 0)) (by (with_reducible repeat (first | refine blk_drewN ?_ _ | refine blk_drew ?_ | refine blk_alloc ?_ _)); exact BK259.out) hb)
    have n4_ := Aside0.mk (below_step (by repeat (first | (with_reducible first | exact HB.out | apply below_alloc | apply pw_below_drewN | apply below_drew1 | refine below_set ?_ GE258.out | refine below_set ?_ GE259.out) | exact HB.out)) hb)
    clear HO_260007
    clear BK258
    clear BK259
    clear HB
    have HO_260007 := n0_
    have HO270 := n1_
    have BK258 := n2_
    have BK259 := n3_
    have HB := n4_
    clear n0_ n1_ n2_ n3_ n4_
    (try clear hb)
    (try clear hb2)
    (try clear hk)
    (try clear hi)
    (try clear ho0)
    obtain ⟨Ao15, co15, eo15⟩ := Kd.R_slice HO270.out
    (first | subst eo15 | (injection eo15 with f1_ f2_ f3_; have f4_ := f1_.symm; have f5_ := f3_.symm; clear f1_ f2_ f3_; subst f4_; subst f5_))
    refine hK.out _ _ ⟨(blk_cell BK259.out 0).trans rfl, (blk_cell BK259.out 1).trans rfl, (blk_cell BK259.out 2).trans rfl, (blk_cell BK259.out 3).trans rfl, (blk_cell BK259.out 4).trans rfl, (blk_cell BK259.out 5).trans rfl, (blk_cell BK259.out 6).trans rfl, (blk_cell BK259.out 7).trans rfl⟩ (fun hHeld => ?_)
    clear hK K
    refine norm_ (a' := ?_) ?_ ?_
    rotate_left
    ·show Act.put _ (some 22) _ = _
     simp only [Act.put, List.setIfInBounds_toArray, List.set_cons_zero, List.set_cons_succ, i64_w, i32_w]
     rfl
    refine one_ (i := 5) (N := some 23) (bb [6, 3]) rfl rfl (one_of HT_.out (by kernel_rfl)) (by decide) (fun K hK => ?_)
    refine value_ (w1 := ?_) (v := ?_) (by rfl) rfl ?_ ?_
    rotate_left 2
    ·go_simp
     constructor
     ·rfl
     ·rfl
    refine hK.out _ _ ⟨(blk_cell (blk_alloc BK259.out _) 0).trans rfl, (blk_cell (blk_alloc BK259.out _) 1).trans rfl, (blk_cell (blk_alloc BK259.out _) 2).trans rfl, (blk_cell (blk_alloc BK259.out _) 3).trans rfl, (blk_cell (blk_alloc BK259.out _) 4).trans rfl, (blk_cell (blk_alloc BK259.out _) 5).trans rfl, (blk_cell (blk_alloc BK259.out _) 6).trans rfl, (blk_cell (blk_alloc BK259.out _) 7).trans rfl⟩ (fun hHeld => ?_)
    clear hK K
    refine norm_ (a' := ?_) ?_ ?_
    rotate_left
    ·show Act.put _ (some 23) _ = _
     simp only [Act.put, List.setIfInBounds_toArray, List.set_cons_zero, List.set_cons_succ, i64_w, i32_w]
     rfl
    refine one_ (i := 6) (N := some 24) (bb [7, 2]) rfl rfl (one_of HT_.out (by kernel_rfl)) (by decide) (fun K hK => ?_)
    refine Kd.R_append_step k43 (w0 := w) w.heap.size (by rfl) (.tmp 19) (.tmp 23) 41 43 (.agg #[(.string ⟨#[]⟩), (.int .i64 0), (.bool false), (.int .i64 0), (.int .u64 0), (.float .f64 0), (.string ⟨#[]⟩), (.slice none 0 0)]) 96 rfl Tryz.underlying41 info43 rfl (by decide) (by omega) u260007 x260007_1 (⟨t261, t262, t263, t264, t265, t266, t267, t268⟩ : S43) [.string t261, .int .i64 t262, .bool t263, .int .i64 t264, .int .u64 t265, .float .f64 t266, .string t267, .slice Ao15 t268.length co15] (fun k_ => k_ ≠ gb258 ∧ k_ ≠ gb259) (fun k_ => ((fun k_ => k_ ≠ gb258 ∧ k_ ≠ gb259)) k_ ∧ some k_ ≠ (u260007 : Value).ownBlock) rfl rfl ?aP (fun _ hk => hk) ?aF ?aO ?aB ?aS ?aL ?_
    (case aP => exact k43_mkM _ _ _ (⟨t261, t262, t263, t264, t265, t266, t267, t268⟩ : S43) (Kd.R_mono (HO270.out) (fun k_ hk => ⟨⟨hk.1.2, hk.2⟩, hk.1.1.2⟩)))
    (case aB => exact (by repeat (first | (with_reducible first | exact HB.out | apply below_alloc | apply pw_below_drewN | apply below_drew1 | refine below_set ?_ GE258.out | refine below_set ?_ GE259.out) | exact HB.out)))
    (case aF => exact (fun k_ hk => ⟨Kd.freshB (g := gb258) (o := .cells #[.string (⟨#[]⟩ : ByteArray), .int .i64 0, .bool false, .int .i64 0, .int .u64 0, .float .f64 0, .string (⟨#[]⟩ : ByteArray), .slice none 0 0] 43 (0, 0)) (by (with_reducible repeat (first | refine blk_drewN ?_ _ | refine blk_drew ?_ | refine blk_alloc ?_ _)); exact BK258.out) k_ hk, Kd.freshB (g := gb259) (o := .cells #[.string a0, .int .i64 6, .bool false, .int .i64 0, .int .u64 0, .float .f64 0, .string (⟨#[]⟩ : ByteArray), u260007] 43 (0, 0)) (by (with_reducible repeat (first | refine blk_drewN ?_ _ | refine blk_drew ?_ | refine blk_alloc ?_ _)); exact BK259.out) k_ hk⟩))
    (case aO => exact (by (with_reducible repeat (first | apply Kd.R_alloc | apply Kd.R_drewN | apply Kd.R_drew)); exact Kd.R_mono HO_260007.out (fun _ hk => ⟨hk.1.1, hk.1.2⟩)))
    (case aS => exact (below_size (by repeat (first | (with_reducible first | exact HB.out | apply below_alloc | apply pw_below_drewN | apply below_drew1 | refine below_set ?_ GE258.out | refine below_set ?_ GE259.out) | exact HB.out))))
    (case aL => have := LMc11.out; omega)
    intro v272 w14 ho hb hg hat
    rw [← Ny271.out] at ho
    have n0_ := Aside0.mk (blk_grown (g := gb258) (o := .cells #[.string (⟨#[]⟩ : ByteArray), .int .i64 0, .bool false, .int .i64 0, .int .u64 0, .float .f64 0, .string (⟨#[]⟩ : ByteArray), .slice none 0 0] 43 (0, 0)) (by (with_reducible repeat (first | refine blk_drewN ?_ _ | refine blk_drew ?_ | refine blk_alloc ?_ _)); exact BK258.out) hg (Kd.R_away HO_260007.out (fun _ hk => hk.1.1)))
    have n1_ := Aside0.mk (blk_grown (g := gb259) (o := .cells #[.string a0, .int .i64 6, .bool false, .int .i64 0, .int .u64 0, .float .f64 0, .string (⟨#[]⟩ : ByteArray), u260007] 43 (0, 0)) (by (with_reducible repeat (first | refine blk_drewN ?_ _ | refine blk_drew ?_ | refine blk_alloc ?_ _)); exact BK259.out) hg (Kd.R_away HO_260007.out (fun _ hk => hk.1.2)))
    have n2_ := Aside0.mk (hb)
    have n3_ := Aside0.mk (ho)
    clear BK258
    clear BK259
    clear HB
    clear HO_260007
    clear HO270
    have BK258 := n0_
    have BK259 := n1_
    have HB := n2_
    have HO273 := n3_
    clear n0_ n1_ n2_ n3_
    clear ho hb hg hat
    obtain ⟨Ao16, co16, eo16⟩ := Kd.R_slice HO273.out
    (first | subst eo16 | (injection eo16 with f1_ f2_ f3_; have f4_ := f1_.symm; have f5_ := f3_.symm; clear f1_ f2_ f3_; subst f4_; subst f5_))
    refine hK.out _ _ ⟨(blk_cell BK259.out 0).trans rfl, (blk_cell BK259.out 1).trans rfl, (blk_cell BK259.out 2).trans rfl, (blk_cell BK259.out 3).trans rfl, (blk_cell BK259.out 4).trans rfl, (blk_cell BK259.out 5).trans rfl, (blk_cell BK259.out 6).trans rfl, (blk_cell BK259.out 7).trans rfl⟩ (fun hHeld => ?_)
    clear hK K
    refine norm_ (a' := ?_) ?_ ?_
    rotate_left
    ·show Act.put _ (some 24) _ = _
     simp only [Act.put, List.setIfInBounds_toArray, List.set_cons_zero, List.set_cons_succ, i64_w, i32_w]
     rfl
    refine pure_ (i := 7) (N := some 25) (v := ?_) (a' := ?_) (bb [8, 1]) rfl rfl (any_of HT_.out (by kernel_rfl)) (fun _ _ _ h => h) (Or.inl ⟨by rfl, ?_⟩) ?_ ?_
    rotate_left
    ·intro w'
     go_simp
     with_reducible rfl
    rotate_left
    ·simp only [Act.put, List.setIfInBounds_toArray, List.set_cons_zero, List.set_cons_succ, i64_w, i32_w]
     rfl
    refine last_ (i := 8) (N := none) (bb [9]) rfl rfl (one_of HT_.out (by kernel_rfl)) (by decide) (fun K hK => ?_)
    have hs17 : w14.cell? ⟨gb259, 7, none⟩ = some (u260007) := (blk_cell BK259.out 7).trans rfl
    have hfs17 := blk_frozen BK259.out 7
    have hns17_0 := NB258_259.out
    have hms17_0 := NB259_258.out
    refine skip_ (w1 := ?_) (by rfl) rfl ?_ ?_
    rotate_left
    ·go_simp
     rfl
    refine hK.out _ _ ?_
    clear hK K
    refine done_ (done_of HT_.out (by kernel_rfl)) ?_
    try go_wp2
    go_roundg k1
    case measure => have := HK1.out; omega
    case rel => exact ⟨(wrap64 (x14_1 + 1)), (y271), (.slice Ao16 y271.length co16), (by first | rfl | (simp; done) | (simp [*]; done)), H', ⟨by have := HK1.out; omega⟩, ⟨by (with_reducible repeat (first | apply Kd.R_alloc | apply Kd.R_drewN | apply Kd.R_drew)); exact Kd.R_mono (Kd.R_far (p := ⟨gb259, 7, none⟩) (Kd.R_mono HO273.out (fun k_ hk => (⟨hk, hk.2⟩ : _ ∧ k_ ≠ gb259))) (fun _ hk => hk.2) (.slice Ao16 y271.length co16)) (fun _ hk => ⟨hk.1.1, hk.1.2⟩)⟩, ⟨by (with_reducible repeat (first | refine blk_drewN ?_ _ | refine blk_drew ?_ | refine blk_alloc ?_ _)); refine blk_far ?_ NB258_259.out _; (with_reducible repeat (first | refine blk_drewN ?_ _ | refine blk_drew ?_ | refine blk_alloc ?_ _)); exact BK258.out⟩, ⟨by (with_reducible repeat (first | refine blk_drewN ?_ _ | refine blk_drew ?_ | refine blk_alloc ?_ _)); refine blk_put (cs := #[.string a0, .int .i64 6, .bool false, .int .i64 0, .int .u64 0, .float .f64 0, .string (⟨#[]⟩ : ByteArray), u260007]) ?_ 7 _ rfl; (with_reducible repeat (first | refine blk_drewN ?_ _ | refine blk_drew ?_ | refine blk_alloc ?_ _)); exact BK259.out⟩, ⟨by repeat (first | (with_reducible first | exact HB.out | apply below_alloc | apply pw_below_drewN | apply below_drew1 | refine below_set ?_ GE258.out | refine below_set ?_ GE259.out) | exact HB.out)⟩⟩
   ·rw [if_neg c7] at H
    have c7b0 : decide (x14_1 < (l1.length : Int)) = false := decide_eq_false c7
    clear c7
    simp only [Option.some.injEq, Prod.mk.injEq] at H
    obtain ⟨rfl, rfl, rfl, rfl, rfl, rfl, rfl, rfl⟩ := H
    have hnb18 := NB259_258.out
    have hnc18 := NB258_259.out
    have hcz19_0 : wr.cell? ⟨gb259, 0, none⟩ = some (.string a0) := (blk_cell BK259.out 0).trans rfl
    have hcz19_1 : wr.cell? ⟨gb259, 1, none⟩ = some (.int .i64 6) := (blk_cell BK259.out 1).trans rfl
    have hcz19_2 : wr.cell? ⟨gb259, 2, none⟩ = some (.bool false) := (blk_cell BK259.out 2).trans rfl
    have hcz19_3 : wr.cell? ⟨gb259, 3, none⟩ = some (.int .i64 0) := (blk_cell BK259.out 3).trans rfl
    have hcz19_4 : wr.cell? ⟨gb259, 4, none⟩ = some (.int .u64 0) := (blk_cell BK259.out 4).trans rfl
    have hcz19_5 : wr.cell? ⟨gb259, 5, none⟩ = some (.float .f64 0) := (blk_cell BK259.out 5).trans rfl
    have hcz19_6 : wr.cell? ⟨gb259, 6, none⟩ = some (.string (⟨#[]⟩ : ByteArray)) := (blk_cell BK259.out 6).trans rfl
    have hcz19_7 : wr.cell? ⟨gb259, 7, none⟩ = some (u260007) := (blk_cell BK259.out 7).trans rfl
    have hfz19_0 := blk_frozen BK259.out 0
    have hfz19_1 := blk_frozen BK259.out 1
    have hfz19_2 := blk_frozen BK259.out 2
    have hfz19_3 := blk_frozen BK259.out 3
    have hfz19_4 := blk_frozen BK259.out 4
    have hfz19_5 := blk_frozen BK259.out 5
    have hfz19_6 := blk_frozen BK259.out 6
    have hfz19_7 := blk_frozen BK259.out 7
    have hcz20_0 : wr.cell? ⟨gb258, 0, none⟩ = some (.string (⟨#[]⟩ : ByteArray)) := (blk_cell BK258.out 0).trans rfl
    have hcz20_1 : wr.cell? ⟨gb258, 1, none⟩ = some (.int .i64 0) := (blk_cell BK258.out 1).trans rfl
    have hcz20_2 : wr.cell? ⟨gb258, 2, none⟩ = some (.bool false) := (blk_cell BK258.out 2).trans rfl
    have hcz20_3 : wr.cell? ⟨gb258, 3, none⟩ = some (.int .i64 0) := (blk_cell BK258.out 3).trans rfl
    have hcz20_4 : wr.cell? ⟨gb258, 4, none⟩ = some (.int .u64 0) := (blk_cell BK258.out 4).trans rfl
    have hcz20_5 : wr.cell? ⟨gb258, 5, none⟩ = some (.float .f64 0) := (blk_cell BK258.out 5).trans rfl
    have hcz20_6 : wr.cell? ⟨gb258, 6, none⟩ = some (.string (⟨#[]⟩ : ByteArray)) := (blk_cell BK258.out 6).trans rfl
    have hcz20_7 : wr.cell? ⟨gb258, 7, none⟩ = some (.slice none 0 0) := (blk_cell BK258.out 7).trans rfl
    have hfz20_0 := blk_frozen BK258.out 0
    have hfz20_1 := blk_frozen BK258.out 1
    have hfz20_2 := blk_frozen BK258.out 2
    have hfz20_3 := blk_frozen BK258.out 3
    have hfz20_4 := blk_frozen BK258.out 4
    have hfz20_5 := blk_frozen BK258.out 5
    have hfz20_6 := blk_frozen BK258.out 6
    have hfz20_7 := blk_frozen BK258.out 7
    obtain ⟨Ao21, co21, eo21⟩ := Kd.R_slice HO_260007.out
    subst eo21
    go_wp2
    refine bodyPost_ret (results_cell_row rfl _ _ gb258 43 #[.string a0, .int .i64 6, .bool false, .int .i64 0, .int .u64 0, .float .f64 0, .string (⟨#[]⟩ : ByteArray), .slice Ao21 x260007_1.length co21] (0, 0) _ rfl (by (with_reducible repeat (first | refine blk_drewN ?_ _ | refine blk_drew ?_ | refine blk_alloc ?_ _)); refine blk_put (cs := #[.string a0, .int .i64 6, .bool false, .int .i64 0, .int .u64 0, .float .f64 0, .string (⟨#[]⟩ : ByteArray), .slice none 0 0]) ?_ 7 _ rfl; (with_reducible repeat (first | refine blk_drewN ?_ _ | refine blk_drew ?_ | refine blk_alloc ?_ _)); refine blk_put (cs := #[.string a0, .int .i64 6, .bool false, .int .i64 0, .int .u64 0, .float .f64 0, .string (⟨#[]⟩ : ByteArray), .slice none 0 0]) ?_ 6 _ rfl; (with_reducible repeat (first | refine blk_drewN ?_ _ | refine blk_drew ?_ | refine blk_alloc ?_ _)); refine blk_put (cs := #[.string a0, .int .i64 6, .bool false, .int .i64 0, .int .u64 0, .float .f64 0, .string (⟨#[]⟩ : ByteArray), .slice none 0 0]) ?_ 5 _ rfl; (with_reducible repeat (first | refine blk_drewN ?_ _ | refine blk_drew ?_ | refine blk_alloc ?_ _)); refine blk_put (cs := #[.string a0, .int .i64 6, .bool false, .int .i64 0, .int .u64 0, .float .f64 0, .string (⟨#[]⟩ : ByteArray), .slice none 0 0]) ?_ 4 _ rfl; (with_reducible repeat (first | refine blk_drewN ?_ _ | refine blk_drew ?_ | refine blk_alloc ?_ _)); refine blk_put (cs := #[.string a0, .int .i64 6, .bool false, .int .i64 0, .int .u64 0, .float .f64 0, .string (⟨#[]⟩ : ByteArray), .slice none 0 0]) ?_ 3 _ rfl; (with_reducible repeat (first | refine blk_drewN ?_ _ | refine blk_drew ?_ | refine blk_alloc ?_ _)); refine blk_put (cs := #[.string a0, .int .i64 6, .bool false, .int .i64 0, .int .u64 0, .float .f64 0, .string (⟨#[]⟩ : ByteArray), .slice none 0 0]) ?_ 2 _ rfl; (with_reducible repeat (first | refine blk_drewN ?_ _ | refine blk_drew ?_ | refine blk_alloc ?_ _)); refine blk_put (cs := #[.string a0, .int .i64 0, .bool false, .int .i64 0, .int .u64 0, .float .f64 0, .string (⟨#[]⟩ : ByteArray), .slice none 0 0]) ?_ 1 _ rfl; (with_reducible repeat (first | refine blk_drewN ?_ _ | refine blk_drew ?_ | refine blk_alloc ?_ _)); refine blk_put (cs := #[.string (⟨#[]⟩ : ByteArray), .int .i64 0, .bool false, .int .i64 0, .int .u64 0, .float .f64 0, .string (⟨#[]⟩ : ByteArray), .slice none 0 0]) ?_ 0 _ rfl; (with_reducible repeat (first | refine blk_drewN ?_ _ | refine blk_drew ?_ | refine blk_alloc ?_ _)); exact BK258.out) Tryz.underlying43 rfl (by kernel_rfl)) rfl ?_
    exact ⟨_, by first | rfl | (simp [errW_none, errW_some] <;> rfl) | (simp [*, errW_none, errW_some] <;> rfl), by (with_reducible repeat (first | apply Kd.R_alloc | apply Kd.R_drewN | apply Kd.R_drew)); exact Kd.R_mono (Kd.R_far (p := ⟨gb258, 7, none⟩) (Kd.R_far (p := ⟨gb258, 6, none⟩) (Kd.R_far (p := ⟨gb258, 5, none⟩) (Kd.R_far (p := ⟨gb258, 4, none⟩) (Kd.R_far (p := ⟨gb258, 3, none⟩) (Kd.R_far (p := ⟨gb258, 2, none⟩) (Kd.R_far (p := ⟨gb258, 1, none⟩) (Kd.R_far (p := ⟨gb258, 0, none⟩) (Kd.R_mono HO_260007.out (fun k_ hk => (⟨hk, hk.1⟩ : _ ∧ k_ ≠ gb258))) (fun _ hk => hk.2) (.string a0)) (fun _ hk => hk.2) (.int .i64 6)) (fun _ hk => hk.2) (.bool false)) (fun _ hk => hk.2) (.int .i64 0)) (fun _ hk => hk.2) (.int .u64 0)) (fun _ hk => hk.2) (.float .f64 0)) (fun _ hk => hk.2) (.string (⟨#[]⟩ : ByteArray))) (fun _ hk => hk.2) (.slice Ao21 x260007_1.length co21)) (fun _ hk => trivial), by repeat (first | (with_reducible first | exact HB.out | apply below_alloc | apply pw_below_drewN | apply below_drew1 | refine below_set ?_ GE258.out | refine below_set ?_ GE259.out) | exact HB.out)⟩
/-! ### impl_procfsBuddyInfo: function 72 -/
def impl_procfsBuddyInfo.f (k : Nat) (a0 : ByteArray) (a1_0 : ByteArray) (a1_1 : ByteArray) (l1_2 : List Nat) : Option (ByteArray × Int × Bool × Int × Int × Nat × ByteArray × (List (S43))) := if ([] : List (S43)).length < 1466015503701 then ((some (([] : List (S43)) ++ [(⟨(⟨#[78, 111, 100, 101]⟩ : ByteArray), 5, false, 0, 0, 0, a1_0, ([] : List (S43))⟩ : S43)] : List (S43))).bind fun y277 => (if y277.length < 1466015503701 then ((some (y277 ++ [(⟨(⟨#[90, 111, 110, 101]⟩ : ByteArray), 5, false, 0, 0, 0, a1_1, ([] : List (S43))⟩ : S43)] : List (S43))).bind fun y280 => ((impl_list_float64.f k (⟨#[83, 105, 122, 101, 115]⟩ : ByteArray) l1_2).bind fun bt283 => (if y280.length < 1466015503701 then (some (a0, 8, false, 0, 0, 0, (⟨#[]⟩ : ByteArray), (y280 ++ [(⟨bt283.1, bt283.2.1, bt283.2.2.1, bt283.2.2.2.1, bt283.2.2.2.2.1, bt283.2.2.2.2.2.1, bt283.2.2.2.2.2.2.1, bt283.2.2.2.2.2.2.2⟩ : S43)]))) else (none)))) else (none))) else (none)
theorem impl_procfsBuddyInfo.mono : ∀ a0 a1 a2 a3 k, LeO (impl_procfsBuddyInfo.f k a0 a1 a2 a3) (impl_procfsBuddyInfo.f (k + 1) a0 a1 a2 a3) := by
 intro a0 a1 a2 a3 k
 unfold impl_procfsBuddyInfo.f
 repeat' first
   | (with_reducible exact impl_list_float64.mono _ _ _)
   | (with_reducible exact LeO.refl _)
   | (with_reducible exact LeO.none _)
   | (with_reducible refine LeO.ite ?_ ?_)
   | (with_reducible refine LeO.bind ?_ (fun _ => ?_))
   | exact impl_list_float64.mono _ _ _
   | exact LeO.none _
   | refine LeO.ite ?_ ?_
   | refine LeO.bind ?_ (fun _ => ?_)
def impl_procfsBuddyInfo.T4 : Bool × List (List Nat × List Nat) := (true, [([], []), ([0], [0]), ([], []), ([2], [2]), ([3], [3]), ([4], [4]), ([1, 5, 4], [1, 5]), ([0, 1, 2, 3, 4, 5, 6], []), ([7, 6, 6, 0, 1, 2, 3, 4, 5, 6], [6, 7])])
def impl_procfsBuddyInfo.B4 : List Nat := [0, 1, 0, 4, 12, 28, 63, 127, 255]
theorem impl_procfsBuddyInfo.tab4 : rtab .any (opsOf Tryz.f72 4) = impl_procfsBuddyInfo.T4 := by kernel_rfl
theorem impl_procfsBuddyInfo.bits4 : waitsOk impl_procfsBuddyInfo.T4.2 impl_procfsBuddyInfo.B4 = true := by kernel_rfl
set_option maxHeartbeats 8000000 in
set_option maxRecDepth 100000 in
theorem impl_procfsBuddyInfo.calls (k : Nat) (a0 : ByteArray) (a1_0 : ByteArray) (a1_1 : ByteArray) (A1_2 : Option Addr) (c1_2 : Nat) (l1_2 : List Nat) (r1 : ByteArray) (r2 : Int) (r3 : Bool) (r4 : Int) (r5 : Int) (r6 : Nat) (r7 : ByteArray) (r8 : List (S43)) (w : World) (hr1_2 : Kd.C kF64 w A1_2 l1_2.length l1_2) (hc1_2 : l1_2.length ≤ c1_2) (h : impl_procfsBuddyInfo.f k a0 a1_0 a1_1 l1_2 = some (r1, r2, r3, r4, r5, r6, r7, r8)) :
  Calls Tryz.prog 72 #[.string a0, .agg #[.string a1_0, .string a1_1, .slice A1_2 l1_2.length c1_2]] w fun e w' => ∃ v7_ : Value, e = .returned (.agg #[.string r1, .int .i64 r2, .bool r3, .int .i64 r4, .int .u64 r5, .float .f64 r6, .string r7, v7_]) ∧ Kd.R k43 43 w' w.heap.size (fun _ => True) v7_ r8 ∧ Below w.heap.size w w' := by
 have hu75 := Tryz.underlying75
 have hu43 := Tryz.underlying43
 have HR1_2 := Aside0.mk hr1_2
 have HC1_2 := Aside0.mk hc1_2
 clear hr1_2 hc1_2
 have HB := Aside0.mk (Below.refl w.heap.size w)
 have H : (if ([] : List (S43)).length < 1466015503701 then ((some (([] : List (S43)) ++ [(⟨(⟨#[78, 111, 100, 101]⟩ : ByteArray), 5, false, 0, 0, 0, a1_0, ([] : List (S43))⟩ : S43)] : List (S43))).bind fun y277 => (if y277.length < 1466015503701 then ((some (y277 ++ [(⟨(⟨#[90, 111, 110, 101]⟩ : ByteArray), 5, false, 0, 0, 0, a1_1, ([] : List (S43))⟩ : S43)] : List (S43))).bind fun y280 => ((impl_list_float64.f k (⟨#[83, 105, 122, 101, 115]⟩ : ByteArray) l1_2).bind fun bt283 => (if y280.length < 1466015503701 then (some (a0, 8, false, 0, 0, 0, (⟨#[]⟩ : ByteArray), (y280 ++ [(⟨bt283.1, bt283.2.1, bt283.2.2.1, bt283.2.2.2.1, bt283.2.2.2.2.1, bt283.2.2.2.2.2.1, bt283.2.2.2.2.2.2.1, bt283.2.2.2.2.2.2.2⟩ : S43)]))) else (none)))) else (none))) else (none)) = some (r1, r2, r3, r4, r5, r6, r7, r8) := h
 clear h
 replace H := guard_inv H
 obtain ⟨c3, H⟩ := H
 have LMc3 := Aside0.mk c3
 clear c3
 obtain ⟨y277, hy277⟩ : ∃ y_ : List (S43), y_ = (([] : List (S43)) ++ [(⟨(⟨#[78, 111, 100, 101]⟩ : ByteArray), 5, false, 0, 0, 0, a1_0, ([] : List (S43))⟩ : S43)]) := ⟨_, rfl⟩
 replace H : (if y277.length < 1466015503701 then ((some (y277 ++ [(⟨(⟨#[90, 111, 110, 101]⟩ : ByteArray), 5, false, 0, 0, 0, a1_1, ([] : List (S43))⟩ : S43)] : List (S43))).bind fun y280 => ((impl_list_float64.f k (⟨#[83, 105, 122, 101, 115]⟩ : ByteArray) l1_2).bind fun bt283 => (if y280.length < 1466015503701 then (some (a0, 8, false, 0, 0, 0, (⟨#[]⟩ : ByteArray), (y280 ++ [(⟨bt283.1, bt283.2.1, bt283.2.2.1, bt283.2.2.2.1, bt283.2.2.2.2.1, bt283.2.2.2.2.2.1, bt283.2.2.2.2.2.2.1, bt283.2.2.2.2.2.2.2⟩ : S43)]))) else (none)))) else (none)) = some (r1, r2, r3, r4, r5, r6, r7, r8) := by first | (rw [hy277]; with_reducible exact H) | (have H2_ := (Option.bind_some _ _).symm.trans H; rw [hy277]; with_reducible exact H2_) | (have H2_ := (Option.bind_some _ _).symm.trans H; with_reducible exact H2_) | with_reducible exact H | (rw [hy277]; exact H) | exact H
 have Ny277 := Aside0.mk hy277
 clear hy277
 replace H := guard_inv H
 obtain ⟨c4, H⟩ := H
 have LMc4 := Aside0.mk c4
 clear c4
 obtain ⟨y280, hy280⟩ : ∃ y_ : List (S43), y_ = (y277 ++ [(⟨(⟨#[90, 111, 110, 101]⟩ : ByteArray), 5, false, 0, 0, 0, a1_1, ([] : List (S43))⟩ : S43)]) := ⟨_, rfl⟩
 replace H : ((impl_list_float64.f k (⟨#[83, 105, 122, 101, 115]⟩ : ByteArray) l1_2).bind fun bt283 => (if y280.length < 1466015503701 then (some (a0, 8, false, 0, 0, 0, (⟨#[]⟩ : ByteArray), (y280 ++ [(⟨bt283.1, bt283.2.1, bt283.2.2.1, bt283.2.2.2.1, bt283.2.2.2.2.1, bt283.2.2.2.2.2.1, bt283.2.2.2.2.2.2.1, bt283.2.2.2.2.2.2.2⟩ : S43)]))) else (none))) = some (r1, r2, r3, r4, r5, r6, r7, r8) := by first | (rw [hy280]; with_reducible exact H) | (have H2_ := (Option.bind_some _ _).symm.trans H; rw [hy280]; with_reducible exact H2_) | (have H2_ := (Option.bind_some _ _).symm.trans H; with_reducible exact H2_) | with_reducible exact H | (rw [hy280]; exact H) | exact H
 have Ny280 := Aside0.mk hy280
 clear hy280
 replace H := Option.bind_eq_some_iff.mp H
 obtain ⟨⟨t283, t284, t285, t286, t287, t288, t289, t290⟩, A50, H⟩ := H
 replace H : (if y280.length < 1466015503701 then (some (a0, 8, false, 0, 0, 0, (⟨#[]⟩ : ByteArray), (y280 ++ [(⟨t283, t284, t285, t286, t287, t288, t289, t290⟩ : S43)]))) else (none)) = some (r1, r2, r3, r4, r5, r6, r7, r8) := H
 have A5 := Aside0.mk A50
 clear A50
 replace H := guard_inv H
 obtain ⟨c6, H⟩ := H
 have LMc6 := Aside0.mk c6
 clear c6
 obtain ⟨y293, hy293⟩ : ∃ y_ : List (S43), y_ = (y280 ++ [(⟨t283, t284, t285, t286, t287, t288, t289, t290⟩ : S43)]) := ⟨_, rfl⟩
 replace H : (some (a0, 8, false, 0, 0, 0, (⟨#[]⟩ : ByteArray), y293)) = some (r1, r2, r3, r4, r5, r6, r7, r8) := by first | (rw [hy293]; with_reducible exact H) | (have H2_ := (Option.bind_some _ _).symm.trans H; rw [hy293]; with_reducible exact H2_) | (have H2_ := (Option.bind_some _ _).symm.trans H; with_reducible exact H2_) | with_reducible exact H | (rw [hy293]; exact H) | exact H
 have Ny293 := Aside0.mk hy293
 clear hy293
 simp only [Option.some.injEq, Prod.mk.injEq] at H
 obtain ⟨rfl, rfl, rfl, rfl, rfl, rfl, rfl, rfl⟩ := H
 go_enter Tryz.func72, Tryz.ntmps72
 try go_wp2_with (first | ((with_reducible refine gate_dst (N := 3) rfl ?_); refine box_event ?hg (N := 3) ?hd (cs := #[.string a1_0, .string a1_1, .slice A1_2 l1_2.length c1_2]) (t := 75) ?hr ?_; (case hd => rfl); (case hg => rfl); (case hr => first | (go_simp; done) | (go_simp; rfl)); intro gb274 hg w7 hbox hb; have n0_ := Aside0.mk (below_step (by repeat (first | (with_reducible first | exact HB.out | apply below_alloc | apply pw_below_drewN | apply below_drew1) | exact HB.out)) hb); have n1_ := Aside0.mk (hbox); have n2_ := Aside0.mk ((by rw [hg]; exact (below_size (by repeat (first | (with_reducible first | exact HB.out | apply below_alloc | apply pw_below_drewN | apply below_drew1) | exact HB.out))) : w.heap.size ≤ gb274)); have n3_ := Aside0.mk ((by rw [hg]; exact (below_size (by repeat (first | (with_reducible first | exact HB.out | apply below_alloc | apply pw_below_drewN | apply below_drew1) | exact HB.out))) : w.heap.size ≤ gb274)); clear HB; have HB := n0_; have BK274 := n1_; have GW274 := n2_; have GE274 := n3_; clear n0_ n1_ n2_ n3_; clear hb hbox hg) | ((with_reducible refine gate_dst (N := 4) rfl ?_); refine box_event ?hg (N := 4) ?hd (cs := #[.string (⟨#[]⟩ : ByteArray), .int .i64 0, .bool false, .int .i64 0, .int .u64 0, .float .f64 0, .string (⟨#[]⟩ : ByteArray), .slice none 0 0]) (t := 43) ?hr ?_; (case hd => rfl); (case hg => rfl); (case hr => first | (go_simp; done) | (go_simp; rfl)); intro gb275 hg w8 hbox hb; have n0_ := Aside0.mk (blk_below (g := gb274) (o := .cells #[.string a1_0, .string a1_1, .slice A1_2 l1_2.length c1_2] 75 (0, 0)) (by (with_reducible repeat (first | refine blk_drewN ?_ _ | refine blk_drew ?_ | refine blk_alloc ?_ _)); exact BK274.out) hb); have n1_ := Aside0.mk (below_step (by repeat (first | (with_reducible first | exact HB.out | apply below_alloc | apply pw_below_drewN | apply below_drew1 | refine below_set ?_ GE274.out) | exact HB.out)) hb); have n2_ := Aside0.mk (hbox); have n3_ := Aside0.mk ((by rw [hg]; exact (below_size (by repeat (first | (with_reducible first | exact HB.out | apply below_alloc | apply pw_below_drewN | apply below_drew1 | refine below_set ?_ GE274.out) | exact HB.out))) : w.heap.size ≤ gb275)); have n4_ := Aside0.mk ((by rw [hg]; exact (below_size (by repeat (first | (with_reducible first | exact HB.out | apply below_alloc | apply pw_below_drewN | apply below_drew1 | refine below_set ?_ GE274.out) | exact HB.out))) : w.heap.size ≤ gb275)); have n5_ := Aside0.mk ((by rw [hg]; exact Nat.ne_of_lt (blk_lt (g := gb274) (o := .cells #[.string a1_0, .string a1_1, .slice A1_2 l1_2.length c1_2] 75 (0, 0)) (by (with_reducible repeat (first | refine blk_drewN ?_ _ | refine blk_drew ?_ | refine blk_alloc ?_ _)); exact BK274.out)) : gb274 ≠ gb275)); have n6_ := Aside0.mk ((by rw [hg]; exact Nat.ne_of_gt (blk_lt (g := gb274) (o := .cells #[.string a1_0, .string a1_1, .slice A1_2 l1_2.length c1_2] 75 (0, 0)) (by (with_reducible repeat (first | refine blk_drewN ?_ _ | refine blk_drew ?_ | refine blk_alloc ?_ _)); exact BK274.out)) : gb275 ≠ gb274)); clear BK274; clear HB; have BK274 := n0_; have HB := n1_; have BK275 := n2_; have GW275 := n3_; have GE275 := n4_; have NB274_275 := n5_; have NB275_274 := n6_; clear n0_ n1_ n2_ n3_ n4_ n5_ n6_; clear hb hbox hg) | ((with_reducible refine gate_dst (N := 5) rfl ?_); refine box_event ?hg (N := 5) ?hd (cs := #[.string (⟨#[]⟩ : ByteArray), .int .i64 0, .bool false, .int .i64 0, .int .u64 0, .float .f64 0, .string (⟨#[]⟩ : ByteArray), .slice none 0 0]) (t := 43) ?hr ?_; (case hd => rfl); (case hg => rfl); (case hr => first | (go_simp; done) | (go_simp; rfl)); intro gb276 hg w9 hbox hb; have n0_ := Aside0.mk (blk_below (g := gb274) (o := .cells #[.string a1_0, .string a1_1, .slice A1_2 l1_2.length c1_2] 75 (0, 0)) (by (with_reducible repeat (first | refine blk_drewN ?_ _ | refine blk_drew ?_ | refine blk_alloc ?_ _)); exact BK274.out) hb); have n1_ := Aside0.mk (blk_below (g := gb275) (o := .cells #[.string (⟨#[]⟩ : ByteArray), .int .i64 0, .bool false, .int .i64 0, .int .u64 0, .float .f64 0, .string (⟨#[]⟩ : ByteArray), .slice none 0 0] 43 (0, 0)) (by (with_reducible repeat (first | refine blk_drewN ?_ _ | refine blk_drew ?_ | refine blk_alloc ?_ _)); exact BK275.out) hb); have n2_ := Aside0.mk (below_step (by repeat (first | (with_reducible first | exact HB.out | apply below_alloc | apply pw_below_drewN | apply below_drew1 | refine below_set ?_ GE274.out | refine below_set ?_ GE275.out) | exact HB.out)) hb); have n3_ := Aside0.mk (hbox); have n4_ := Aside0.mk ((by rw [hg]; exact (below_size (by repeat (first | (with_reducible first | exact HB.out | apply below_alloc | apply pw_below_drewN | apply below_drew1 | refine below_set ?_ GE274.out | refine below_set ?_ GE275.out) | exact HB.out))) : w.heap.size ≤ gb276)); have n5_ := Aside0.mk ((by rw [hg]; exact (below_size (by repeat (first | (with_reducible first | exact HB.out | apply below_alloc | apply pw_below_drewN | apply below_drew1 | refine below_set ?_ GE274.out | refine below_set ?_ GE275.out) | exact HB.out))) : w.heap.size ≤ gb276)); have n6_ := Aside0.mk ((by rw [hg]; exact Nat.ne_of_lt (blk_lt (g := gb274) (o := .cells #[.string a1_0, .string a1_1, .slice A1_2 l1_2.length c1_2] 75 (0, 0)) (by (with_reducible repeat (first | refine blk_drewN ?_ _ | refine blk_drew ?_ | refine blk_alloc ?_ _)); exact BK274.out)) : gb274 ≠ gb276)); have n7_ := Aside0.mk ((by rw [hg]; exact Nat.ne_of_gt (blk_lt (g := gb274) (o := .cells #[.string a1_0, .string a1_1, .slice A1_2 l1_2.length c1_2] 75 (0, 0)) (by (with_reducible repeat (first | refine blk_drewN ?_ _ | refine blk_drew ?_ | refine blk_alloc ?_ _)); exact BK274.out)) : gb276 ≠ gb274)); have n8_ := Aside0.mk ((by rw [hg]; exact Nat.ne_of_lt (blk_lt (g := gb275) (o := .cells #[.string (⟨#[]⟩ : ByteArray), .int .i64 0, .bool false, .int .i64 0, .int .u64 0, .float .f64 0, .string (⟨#[]⟩ : ByteArray), .slice none 0 0] 43 (0, 0)) (by (with_reducible repeat (first | refine blk_drewN ?_ _ | refine blk_drew ?_ | refine blk_alloc ?_ _)); exact BK275.out)) : gb275 ≠ gb276)); have n9_ := Aside0.mk ((by rw [hg]; exact Nat.ne_of_gt (blk_lt (g := gb275) (o := .cells #[.string (⟨#[]⟩ : ByteArray), .int .i64 0, .bool false, .int .i64 0, .int .u64 0, .float .f64 0, .string (⟨#[]⟩ : ByteArray), .slice none 0 0] 43 (0, 0)) (by (with_reducible repeat (first | refine blk_drewN ?_ _ | refine blk_drew ?_ | refine blk_alloc ?_ _)); exact BK275.out)) : gb276 ≠ gb275)); clear BK274; clear BK275; clear HB; have BK274 := n0_; have BK275 := n1_; have HB := n2_; have BK276 := n3_; have GW276 := n4_; have GE276 := n5_; have NB274_276 := n6_; have NB276_274 := n7_; have NB275_276 := n8_; have NB276_275 := n9_; clear n0_ n1_ n2_ n3_ n4_ n5_ n6_ n7_ n8_ n9_; clear hb hbox hg; have hnb10 := NB276_274.out; have hnc10 := NB274_276.out; have hnb11 := NB276_275.out; have hnc11 := NB275_276.out; have hcz12_0 : w9.cell? ⟨gb276, 0, none⟩ = some (.string (⟨#[]⟩ : ByteArray)) := (blk_cell BK276.out 0).trans rfl; have hcz12_1 : w9.cell? ⟨gb276, 1, none⟩ = some (.int .i64 0) := (blk_cell BK276.out 1).trans rfl; have hcz12_2 : w9.cell? ⟨gb276, 2, none⟩ = some (.bool false) := (blk_cell BK276.out 2).trans rfl; have hcz12_3 : w9.cell? ⟨gb276, 3, none⟩ = some (.int .i64 0) := (blk_cell BK276.out 3).trans rfl; have hcz12_4 : w9.cell? ⟨gb276, 4, none⟩ = some (.int .u64 0) := (blk_cell BK276.out 4).trans rfl; have hcz12_5 : w9.cell? ⟨gb276, 5, none⟩ = some (.float .f64 0) := (blk_cell BK276.out 5).trans rfl; have hcz12_6 : w9.cell? ⟨gb276, 6, none⟩ = some (.string (⟨#[]⟩ : ByteArray)) := (blk_cell BK276.out 6).trans rfl; have hcz12_7 : w9.cell? ⟨gb276, 7, none⟩ = some (.slice none 0 0) := (blk_cell BK276.out 7).trans rfl; have hfz12_0 := blk_frozen BK276.out 0; have hfz12_1 := blk_frozen BK276.out 1; have hfz12_2 := blk_frozen BK276.out 2; have hfz12_3 := blk_frozen BK276.out 3; have hfz12_4 := blk_frozen BK276.out 4; have hfz12_5 := blk_frozen BK276.out 5; have hfz12_6 := blk_frozen BK276.out 6; have hfz12_7 := blk_frozen BK276.out 7; have hnb13 := NB274_275.out; have hnc13 := NB275_274.out; have hcz14_0 : w9.cell? ⟨gb274, 0, none⟩ = some (.string a1_0) := (blk_cell BK274.out 0).trans rfl; have hcz14_1 : w9.cell? ⟨gb274, 1, none⟩ = some (.string a1_1) := (blk_cell BK274.out 1).trans rfl; have hcz14_2 : w9.cell? ⟨gb274, 2, none⟩ = some (.slice A1_2 l1_2.length c1_2) := (blk_cell BK274.out 2).trans rfl; have hfz14_0 := blk_frozen BK274.out 0; have hfz14_1 := blk_frozen BK274.out 1; have hfz14_2 := blk_frozen BK274.out 2) | ((with_reducible refine gate_builtin (b := .append) (xs := #[.tmp 9, .tmp 13]) rfl ?_); at_builtin; refine Kd.R_append k43 (w0 := w) w.heap.size rfl (.tmp 9) (.tmp 13) 41 43 (.agg #[(.string ⟨#[]⟩), (.int .i64 0), (.bool false), (.int .i64 0), (.int .u64 0), (.float .f64 0), (.string ⟨#[]⟩), (.slice none 0 0)]) 96 rfl Tryz.underlying41 info43 rfl (by decide) (by omega) (.slice none 0 0) ([] : List (S43)) (⟨(⟨#[78, 111, 100, 101]⟩ : ByteArray), 5, false, 0, 0, 0, a1_0, ([] : List (S43))⟩ : S43) [.string (⟨#[78, 111, 100, 101]⟩ : ByteArray), .int .i64 5, .bool false, .int .i64 0, .int .u64 0, .float .f64 0, .string a1_0, .slice none 0 0] (fun k_ => k_ ≠ gb275 ∧ k_ ≠ gb276) (fun k_ => ((fun k_ => k_ ≠ gb275 ∧ k_ ≠ gb276)) k_ ∧ some k_ ≠ (.slice none 0 0 : Value).ownBlock) rfl (by first | (go_simp; done) | (go_simp; rfl)) ?aP (fun _ hk => hk) ?aF ?aO ?aB ?aS ?aL ?_; (case aP => exact k43_mkM _ _ _ (⟨(⟨#[78, 111, 100, 101]⟩ : ByteArray), 5, false, 0, 0, 0, a1_0, ([] : List (S43))⟩ : S43) (Kd.R_nil _ _ _ _ _)); (case aB => exact (by repeat (first | (with_reducible first | exact HB.out | apply below_alloc | apply pw_below_drewN | apply below_drew1 | refine below_set ?_ GE274.out | refine below_set ?_ GE275.out | refine below_set ?_ GE276.out) | exact HB.out))); (case aF => exact (fun k_ hk => ⟨Kd.freshB (g := gb275) (o := .cells #[.string (⟨#[]⟩ : ByteArray), .int .i64 0, .bool false, .int .i64 0, .int .u64 0, .float .f64 0, .string (⟨#[]⟩ : ByteArray), .slice none 0 0] 43 (0, 0)) (by (with_reducible repeat (first | refine blk_drewN ?_ _ | refine blk_drew ?_ | refine blk_alloc ?_ _)); refine blk_far ?_ NB275_276.out _; (with_reducible repeat (first | refine blk_drewN ?_ _ | refine blk_drew ?_ | refine blk_alloc ?_ _)); refine blk_far ?_ NB275_276.out _; (with_reducible repeat (first | refine blk_drewN ?_ _ | refine blk_drew ?_ | refine blk_alloc ?_ _)); refine blk_far ?_ NB275_276.out _; (with_reducible repeat (first | refine blk_drewN ?_ _ | refine blk_drew ?_ | refine blk_alloc ?_ _)); refine blk_far ?_ NB275_276.out _; (with_reducible repeat (first | refine blk_drewN ?_ _ | refine blk_drew ?_ | refine blk_alloc ?_ _)); refine blk_far ?_ NB275_276.out _; (with_reducible repeat (first | refine blk_drewN ?_ _ | refine blk_drew ?_ | refine blk_alloc ?_ _)); refine blk_far ?_ NB275_276.out _; (with_reducible repeat (first | refine blk_drewN ?_ _ | refine blk_drew ?_ | refine blk_alloc ?_ _)); refine blk_far ?_ NB275_276.out _; (with_reducible repeat (first | refine blk_drewN ?_ _ | refine blk_drew ?_ | refine blk_alloc ?_ _)); refine blk_far ?_ NB275_276.out _; (with_reducible repeat (first | refine blk_drewN ?_ _ | refine blk_drew ?_ | refine blk_alloc ?_ _)); exact BK275.out) k_ hk, Kd.freshB (g := gb276) (o := .cells #[.string a0, .int .i64 8, .bool false, .int .i64 0, .int .u64 0, .float .f64 0, .string (⟨#[]⟩ : ByteArray), .slice none 0 0] 43 (0, 0)) (by (with_reducible repeat (first | refine blk_drewN ?_ _ | refine blk_drew ?_ | refine blk_alloc ?_ _)); refine blk_put (cs := #[.string a0, .int .i64 8, .bool false, .int .i64 0, .int .u64 0, .float .f64 0, .string (⟨#[]⟩ : ByteArray), .slice none 0 0]) ?_ 7 _ rfl; (with_reducible repeat (first | refine blk_drewN ?_ _ | refine blk_drew ?_ | refine blk_alloc ?_ _)); refine blk_put (cs := #[.string a0, .int .i64 8, .bool false, .int .i64 0, .int .u64 0, .float .f64 0, .string (⟨#[]⟩ : ByteArray), .slice none 0 0]) ?_ 6 _ rfl; (with_reducible repeat (first | refine blk_drewN ?_ _ | refine blk_drew ?_ | refine blk_alloc ?_ _)); refine blk_put (cs := #[.string a0, .int .i64 8, .bool false, .int .i64 0, .int .u64 0, .float .f64 0, .string (⟨#[]⟩ : ByteArray), .slice none 0 0]) ?_ 5 _ rfl; (with_reducible repeat (first | refine blk_drewN ?_ _ | refine blk_drew ?_ | refine blk_alloc ?_ _)); refine blk_put (cs := #[.string a0, .int .i64 8, .bool false, .int .i64 0, .int .u64 0, .float .f64 0, .string (⟨#[]⟩ : ByteArray), .slice none 0 0]) ?_ 4 _ rfl; (with_reducible repeat (first | refine blk_drewN ?_ _ | refine blk_drew ?_ | refine blk_alloc ?_ _)); refine blk_put (cs := #[.string a0, .int .i64 8, .bool false, .int .i64 0, .int .u64 0, .float .f64 0, .string (⟨#[]⟩ : ByteArray), .slice none 0 0]) ?_ 3 _ rfl; (with_reducible repeat (first | refine blk_drewN ?_ _ | refine blk_drew ?_ | refine blk_alloc ?_ _)); refine blk_put (cs := #[.string a0, .int .i64 8, .bool false, .int .i64 0, .int .u64 0, .float .f64 0, .string (⟨#[]⟩ : ByteArray), .slice none 0 0]) ?_ 2 _ rfl; (with_reducible repeat (first | refine blk_drewN ?_ _ | refine blk_drew ?_ | refine blk_alloc ?_ _)); refine blk_put (cs := #[.string a0, .int .i64 0, .bool false, .int .i64 0, .int .u64 0, .float .f64 0, .string (⟨#[]⟩ : ByteArray), .slice none 0 0]) ?_ 1 _ rfl; (with_reducible repeat (first | refine blk_drewN ?_ _ | refine blk_drew ?_ | refine blk_alloc ?_ _)); refine blk_put (cs := #[.string (⟨#[]⟩ : ByteArray), .int .i64 0, .bool false, .int .i64 0, .int .u64 0, .float .f64 0, .string (⟨#[]⟩ : ByteArray), .slice none 0 0]) ?_ 0 _ rfl; (with_reducible repeat (first | refine blk_drewN ?_ _ | refine blk_drew ?_ | refine blk_alloc ?_ _)); exact BK276.out) k_ hk⟩)); (case aO => exact ((Kd.R_nil _ _ _ _ (fun k_ => k_ ≠ gb275 ∧ k_ ≠ gb276)))); (case aS => exact (below_size (by repeat (first | (with_reducible first | exact HB.out | apply below_alloc | apply pw_below_drewN | apply below_drew1 | refine below_set ?_ GE274.out | refine below_set ?_ GE275.out | refine below_set ?_ GE276.out) | exact HB.out)))); (case aL => have := LMc3.out; omega); intro v278 w15 ho hb hg hat; rw [← Ny277.out] at ho; have n0_ := Aside0.mk (blk_grown (g := gb274) (o := .cells #[.string a1_0, .string a1_1, .slice A1_2 l1_2.length c1_2] 75 (0, 0)) (by (with_reducible repeat (first | refine blk_drewN ?_ _ | refine blk_drew ?_ | refine blk_alloc ?_ _)); refine blk_far ?_ NB274_276.out _; (with_reducible repeat (first | refine blk_drewN ?_ _ | refine blk_drew ?_ | refine blk_alloc ?_ _)); refine blk_far ?_ NB274_276.out _; (with_reducible repeat (first | refine blk_drewN ?_ _ | refine blk_drew ?_ | refine blk_alloc ?_ _)); refine blk_far ?_ NB274_276.out _; (with_reducible repeat (first | refine blk_drewN ?_ _ | refine blk_drew ?_ | refine blk_alloc ?_ _)); refine blk_far ?_ NB274_276.out _; (with_reducible repeat (first | refine blk_drewN ?_ _ | refine blk_drew ?_ | refine blk_alloc ?_ _)); refine blk_far ?_ NB274_276.out _; (with_reducible repeat (first | refine blk_drewN ?_ _ | refine blk_drew ?_ | refine blk_alloc ?_ _)); refine blk_far ?_ NB274_276.out _; (with_reducible repeat (first | refine blk_drewN ?_ _ | refine blk_drew ?_ | refine blk_alloc ?_ _)); refine blk_far ?_ NB274_276.out _; (with_reducible repeat (first | refine blk_drewN ?_ _ | refine blk_drew ?_ | refine blk_alloc ?_ _)); refine blk_far ?_ NB274_276.out _; (with_reducible repeat (first | refine blk_drewN ?_ _ | refine blk_drew ?_ | refine blk_alloc ?_ _)); exact BK274.out) hg (by simp [Value.ownBlock])); have n1_ := Aside0.mk (blk_grown (g := gb275) (o := .cells #[.string (⟨#[]⟩ : ByteArray), .int .i64 0, .bool false, .int .i64 0, .int .u64 0, .float .f64 0, .string (⟨#[]⟩ : ByteArray), .slice none 0 0] 43 (0, 0)) (by (with_reducible repeat (first | refine blk_drewN ?_ _ | refine blk_drew ?_ | refine blk_alloc ?_ _)); refine blk_far ?_ NB275_276.out _; (with_reducible repeat (first | refine blk_drewN ?_ _ | refine blk_drew ?_ | refine blk_alloc ?_ _)); refine blk_far ?_ NB275_276.out _; (with_reducible repeat (first | refine blk_drewN ?_ _ | refine blk_drew ?_ | refine blk_alloc ?_ _)); refine blk_far ?_ NB275_276.out _; (with_reducible repeat (first | refine blk_drewN ?_ _ | refine blk_drew ?_ | refine blk_alloc ?_ _)); refine blk_far ?_ NB275_276.out _; (with_reducible repeat (first | refine blk_drewN ?_ _ | refine blk_drew ?_ | refine blk_alloc ?_ _)); refine blk_far ?_ NB275_276.out _; (with_reducible repeat (first | refine blk_drewN ?_ _ | refine blk_drew ?_ | refine blk_alloc ?_ _)); refine blk_far ?_ NB275_276.out _; (with_reducible repeat (first | refine blk_drewN ?_ _ | refine blk_drew ?_ | refine blk_alloc ?_ _)); refine blk_far ?_ NB275_276.out _; (with_reducible repeat (first | refine blk_drewN ?_ _ | refine blk_drew ?_ | refine blk_alloc ?_ _)); refine blk_far ?_ NB275_276.out _; (with_reducible repeat (first | refine blk_drewN ?_ _ | refine blk_drew ?_ | refine blk_alloc ?_ _)); exact BK275.out) hg (by simp [Value.ownBlock])); have n2_ := Aside0.mk (blk_grown (g := gb276) (o := .cells #[.string a0, .int .i64 8, .bool false, .int .i64 0, .int .u64 0, .float .f64 0, .string (⟨#[]⟩ : ByteArray), .slice none 0 0] 43 (0, 0)) (by (with_reducible repeat (first | refine blk_drewN ?_ _ | refine blk_drew ?_ | refine blk_alloc ?_ _)); refine blk_put (cs := #[.string a0, .int .i64 8, .bool false, .int .i64 0, .int .u64 0, .float .f64 0, .string (⟨#[]⟩ : ByteArray), .slice none 0 0]) ?_ 7 _ rfl; (with_reducible repeat (first | refine blk_drewN ?_ _ | refine blk_drew ?_ | refine blk_alloc ?_ _)); refine blk_put (cs := #[.string a0, .int .i64 8, .bool false, .int .i64 0, .int .u64 0, .float .f64 0, .string (⟨#[]⟩ : ByteArray), .slice none 0 0]) ?_ 6 _ rfl; (with_reducible repeat (first | refine blk_drewN ?_ _ | refine blk_drew ?_ | refine blk_alloc ?_ _)); refine blk_put (cs := #[.string a0, .int .i64 8, .bool false, .int .i64 0, .int .u64 0, .float .f64 0, .string (⟨#[]⟩ : ByteArray), .slice none 0 0]) ?_ 5 _ rfl; (with_reducible repeat (first | refine blk_drewN ?_ _ | refine blk_drew ?_ | refine blk_alloc ?_ _)); refine blk_put (cs := #[.string a0, .int .i64 8, .bool false, .int .i64 0, .int .u64 0, .float .f64 0, .string (⟨#[]⟩ : ByteArray), .slice none 0 0]) ?_ 4 _ rfl; (with_reducible repeat (first | refine blk_drewN ?_ _ | refine blk_drew ?_ | refine blk_alloc ?_ _)); refine blk_put (cs := #[.string a0, .int .i64 8, .bool false, .int .i64 0, .int .u64 0, .float .f64 0, .string (⟨#[]⟩ : ByteArray), .slice none 0 0]) ?_ 3 _ rfl; (with_reducible repeat (first | refine blk_drewN ?_ _ | refine blk_drew ?_ | refine blk_alloc ?_ _)); refine blk_put (cs := #[.string a0, .int .i64 8, .bool false, .int .i64 0, .int .u64 0, .float .f64 0, .string (⟨#[]⟩ : ByteArray), .slice none 0 0]) ?_ 2 _ rfl; (with_reducible repeat (first | refine blk_drewN ?_ _ | refine blk_drew ?_ | refine blk_alloc ?_ _)); refine blk_put (cs := #[.string a0, .int .i64 0, .bool false, .int .i64 0, .int .u64 0, .float .f64 0, .string (⟨#[]⟩ : ByteArray), .slice none 0 0]) ?_ 1 _ rfl; (with_reducible repeat (first | refine blk_drewN ?_ _ | refine blk_drew ?_ | refine blk_alloc ?_ _)); refine blk_put (cs := #[.string (⟨#[]⟩ : ByteArray), .int .i64 0, .bool false, .int .i64 0, .int .u64 0, .float .f64 0, .string (⟨#[]⟩ : ByteArray), .slice none 0 0]) ?_ 0 _ rfl; (with_reducible repeat (first | refine blk_drewN ?_ _ | refine blk_drew ?_ | refine blk_alloc ?_ _)); exact BK276.out) hg (by simp [Value.ownBlock])); have n3_ := Aside0.mk (hb); have n4_ := Aside0.mk (ho); clear BK274; clear BK275; clear BK276; clear HB; have BK274 := n0_; have BK275 := n1_; have BK276 := n2_; have HB := n3_; have HO279 := n4_; clear n0_ n1_ n2_ n3_ n4_; clear ho hb hg hat; obtain ⟨Ao16, co16, eo16⟩ := Kd.R_slice HO279.out; subst eo16; have hcz17_0 : w15.cell? ⟨gb276, 0, none⟩ = some (.string a0) := (blk_cell BK276.out 0).trans rfl; have hcz17_1 : w15.cell? ⟨gb276, 1, none⟩ = some (.int .i64 8) := (blk_cell BK276.out 1).trans rfl; have hcz17_2 : w15.cell? ⟨gb276, 2, none⟩ = some (.bool false) := (blk_cell BK276.out 2).trans rfl; have hcz17_3 : w15.cell? ⟨gb276, 3, none⟩ = some (.int .i64 0) := (blk_cell BK276.out 3).trans rfl; have hcz17_4 : w15.cell? ⟨gb276, 4, none⟩ = some (.int .u64 0) := (blk_cell BK276.out 4).trans rfl; have hcz17_5 : w15.cell? ⟨gb276, 5, none⟩ = some (.float .f64 0) := (blk_cell BK276.out 5).trans rfl; have hcz17_6 : w15.cell? ⟨gb276, 6, none⟩ = some (.string (⟨#[]⟩ : ByteArray)) := (blk_cell BK276.out 6).trans rfl; have hcz17_7 : w15.cell? ⟨gb276, 7, none⟩ = some (.slice none 0 0) := (blk_cell BK276.out 7).trans rfl; have hfz17_0 := blk_frozen BK276.out 0; have hfz17_1 := blk_frozen BK276.out 1; have hfz17_2 := blk_frozen BK276.out 2; have hfz17_3 := blk_frozen BK276.out 3; have hfz17_4 := blk_frozen BK276.out 4; have hfz17_5 := blk_frozen BK276.out 5; have hfz17_6 := blk_frozen BK276.out 6; have hfz17_7 := blk_frozen BK276.out 7; have hcz18_0 : w15.cell? ⟨gb274, 0, none⟩ = some (.string a1_0) := (blk_cell BK274.out 0).trans rfl; have hcz18_1 : w15.cell? ⟨gb274, 1, none⟩ = some (.string a1_1) := (blk_cell BK274.out 1).trans rfl; have hcz18_2 : w15.cell? ⟨gb274, 2, none⟩ = some (.slice A1_2 l1_2.length c1_2) := (blk_cell BK274.out 2).trans rfl; have hfz18_0 := blk_frozen BK274.out 0; have hfz18_1 := blk_frozen BK274.out 1; have hfz18_2 := blk_frozen BK274.out 2) | ((with_reducible refine gate_builtin (b := .append) (xs := #[.tmp 17, .tmp 21]) rfl ?_); at_builtin; refine Kd.R_append k43 (w0 := w) w.heap.size rfl (.tmp 17) (.tmp 21) 41 43 (.agg #[(.string ⟨#[]⟩), (.int .i64 0), (.bool false), (.int .i64 0), (.int .u64 0), (.float .f64 0), (.string ⟨#[]⟩), (.slice none 0 0)]) 96 rfl Tryz.underlying41 info43 rfl (by decide) (by omega) (.slice Ao16 y277.length co16) y277 (⟨(⟨#[90, 111, 110, 101]⟩ : ByteArray), 5, false, 0, 0, 0, a1_1, ([] : List (S43))⟩ : S43) [.string (⟨#[90, 111, 110, 101]⟩ : ByteArray), .int .i64 5, .bool false, .int .i64 0, .int .u64 0, .float .f64 0, .string a1_1, .slice none 0 0] (fun k_ => k_ ≠ gb275 ∧ k_ ≠ gb276) (fun k_ => ((fun k_ => k_ ≠ gb275 ∧ k_ ≠ gb276)) k_ ∧ some k_ ≠ (.slice Ao16 y277.length co16 : Value).ownBlock) rfl (by first | (go_simp; done) | (go_simp; rfl)) ?aP (fun _ hk => hk) ?aF ?aO ?aB ?aS ?aL ?_; (case aP => exact k43_mkM _ _ _ (⟨(⟨#[90, 111, 110, 101]⟩ : ByteArray), 5, false, 0, 0, 0, a1_1, ([] : List (S43))⟩ : S43) (Kd.R_nil _ _ _ _ _)); (case aB => exact (by repeat (first | (with_reducible first | exact HB.out | apply below_alloc | apply pw_below_drewN | apply below_drew1 | refine below_set ?_ GE274.out | refine below_set ?_ GE275.out | refine below_set ?_ GE276.out) | exact HB.out))); (case aF => exact (fun k_ hk => ⟨Kd.freshB (g := gb275) (o := .cells #[.string (⟨#[]⟩ : ByteArray), .int .i64 0, .bool false, .int .i64 0, .int .u64 0, .float .f64 0, .string (⟨#[]⟩ : ByteArray), .slice none 0 0] 43 (0, 0)) (by (with_reducible repeat (first | refine blk_drewN ?_ _ | refine blk_drew ?_ | refine blk_alloc ?_ _)); refine blk_far ?_ NB275_276.out _; (with_reducible repeat (first | refine blk_drewN ?_ _ | refine blk_drew ?_ | refine blk_alloc ?_ _)); exact BK275.out) k_ hk, Kd.freshB (g := gb276) (o := .cells #[.string a0, .int .i64 8, .bool false, .int .i64 0, .int .u64 0, .float .f64 0, .string (⟨#[]⟩ : ByteArray), .slice Ao16 y277.length co16] 43 (0, 0)) (by (with_reducible repeat (first | refine blk_drewN ?_ _ | refine blk_drew ?_ | refine blk_alloc ?_ _)); refine blk_put (cs := #[.string a0, .int .i64 8, .bool false, .int .i64 0, .int .u64 0, .float .f64 0, .string (⟨#[]⟩ : ByteArray), .slice none 0 0]) ?_ 7 _ rfl; (with_reducible repeat (first | refine blk_drewN ?_ _ | refine blk_drew ?_ | refine blk_alloc ?_ _)); exact BK276.out) k_ hk⟩)); (case aO => exact (by (with_reducible repeat (first | apply Kd.R_alloc | apply Kd.R_drewN | apply Kd.R_drew)); exact Kd.R_mono (Kd.R_far (p := ⟨gb276, 7, none⟩) (Kd.R_mono HO279.out (fun k_ hk => (⟨hk, hk.2⟩ : _ ∧ k_ ≠ gb276))) (fun _ hk => hk.2) (.slice Ao16 y277.length co16)) (fun _ hk => ⟨hk.1.1, hk.1.2⟩))); (case aS => exact (below_size (by repeat (first | (with_reducible first | exact HB.out | apply below_alloc | apply pw_below_drewN | apply below_drew1 | refine below_set ?_ GE274.out | refine below_set ?_ GE275.out | refine below_set ?_ GE276.out) | exact HB.out)))); (case aL => have := LMc4.out; omega); intro v281 w19 ho hb hg hat; rw [← Ny280.out] at ho; have n0_ := Aside0.mk (blk_grown (g := gb274) (o := .cells #[.string a1_0, .string a1_1, .slice A1_2 l1_2.length c1_2] 75 (0, 0)) (by (with_reducible repeat (first | refine blk_drewN ?_ _ | refine blk_drew ?_ | refine blk_alloc ?_ _)); refine blk_far ?_ NB274_276.out _; (with_reducible repeat (first | refine blk_drewN ?_ _ | refine blk_drew ?_ | refine blk_alloc ?_ _)); exact BK274.out) hg (Kd.R_ne HO279.out BK274.out (by decide))); have n1_ := Aside0.mk (blk_grown (g := gb275) (o := .cells #[.string (⟨#[]⟩ : ByteArray), .int .i64 0, .bool false, .int .i64 0, .int .u64 0, .float .f64 0, .string (⟨#[]⟩ : ByteArray), .slice none 0 0] 43 (0, 0)) (by (with_reducible repeat (first | refine blk_drewN ?_ _ | refine blk_drew ?_ | refine blk_alloc ?_ _)); refine blk_far ?_ NB275_276.out _; (with_reducible repeat (first | refine blk_drewN ?_ _ | refine blk_drew ?_ | refine blk_alloc ?_ _)); exact BK275.out) hg (Kd.R_away HO279.out (fun _ hk => hk.1))); have n2_ := Aside0.mk (blk_grown (g := gb276) (o := .cells #[.string a0, .int .i64 8, .bool false, .int .i64 0, .int .u64 0, .float .f64 0, .string (⟨#[]⟩ : ByteArray), .slice Ao16 y277.length co16] 43 (0, 0)) (by (with_reducible repeat (first | refine blk_drewN ?_ _ | refine blk_drew ?_ | refine blk_alloc ?_ _)); refine blk_put (cs := #[.string a0, .int .i64 8, .bool false, .int .i64 0, .int .u64 0, .float .f64 0, .string (⟨#[]⟩ : ByteArray), .slice none 0 0]) ?_ 7 _ rfl; (with_reducible repeat (first | refine blk_drewN ?_ _ | refine blk_drew ?_ | refine blk_alloc ?_ _)); exact BK276.out) hg (Kd.R_away HO279.out (fun _ hk => hk.2))); have n3_ := Aside0.mk (hb); have n4_ := Aside0.mk (ho); clear BK274; clear BK275; clear BK276; clear HB; clear HO279; have BK274 := n0_; have BK275 := n1_; have BK276 := n2_; have HB := n3_; have HO282 := n4_; clear n0_ n1_ n2_ n3_ n4_; clear ho hb hg hat; obtain ⟨Ao20, co20, eo20⟩ := Kd.R_slice HO282.out; subst eo20; have hcz21_0 : w19.cell? ⟨gb276, 0, none⟩ = some (.string a0) := (blk_cell BK276.out 0).trans rfl; have hcz21_1 : w19.cell? ⟨gb276, 1, none⟩ = some (.int .i64 8) := (blk_cell BK276.out 1).trans rfl; have hcz21_2 : w19.cell? ⟨gb276, 2, none⟩ = some (.bool false) := (blk_cell BK276.out 2).trans rfl; have hcz21_3 : w19.cell? ⟨gb276, 3, none⟩ = some (.int .i64 0) := (blk_cell BK276.out 3).trans rfl; have hcz21_4 : w19.cell? ⟨gb276, 4, none⟩ = some (.int .u64 0) := (blk_cell BK276.out 4).trans rfl; have hcz21_5 : w19.cell? ⟨gb276, 5, none⟩ = some (.float .f64 0) := (blk_cell BK276.out 5).trans rfl; have hcz21_6 : w19.cell? ⟨gb276, 6, none⟩ = some (.string (⟨#[]⟩ : ByteArray)) := (blk_cell BK276.out 6).trans rfl; have hcz21_7 : w19.cell? ⟨gb276, 7, none⟩ = some (.slice Ao16 y277.length co16) := (blk_cell BK276.out 7).trans rfl; have hfz21_0 := blk_frozen BK276.out 0; have hfz21_1 := blk_frozen BK276.out 1; have hfz21_2 := blk_frozen BK276.out 2; have hfz21_3 := blk_frozen BK276.out 3; have hfz21_4 := blk_frozen BK276.out 4; have hfz21_5 := blk_frozen BK276.out 5; have hfz21_6 := blk_frozen BK276.out 6; have hfz21_7 := blk_frozen BK276.out 7))
 have n0_ : Aside0 (Kd.R k43 43 (w19.setCell ⟨gb276, 7, none⟩ (.slice Ao20 y280.length co20)) w.heap.size (fun k_ => k_ ≠ gb275 ∧ k_ ≠ gb276) (.slice Ao20 y280.length co20) y280) := ⟨by (with_reducible repeat (first | apply Kd.R_alloc | apply Kd.R_drewN | apply Kd.R_drew)); exact Kd.R_mono (Kd.R_far (p := ⟨gb276, 7, none⟩) (Kd.R_mono HO282.out (fun k_ hk => (⟨hk, hk.2⟩ : _ ∧ k_ ≠ gb276))) (fun _ hk => hk.2) (.slice Ao20 y280.length co20)) (fun _ hk => ⟨hk.1.1, hk.1.2⟩)⟩
 have n1_ : Aside0 ((w19.setCell ⟨gb276, 7, none⟩ (.slice Ao20 y280.length co20)).heap[gb274]? = some (.cells #[.string a1_0, .string a1_1, .slice A1_2 l1_2.length c1_2] 75 (0, 0))) := ⟨by (with_reducible repeat (first | refine blk_drewN ?_ _ | refine blk_drew ?_ | refine blk_alloc ?_ _)); refine blk_far ?_ NB274_276.out _; (with_reducible repeat (first | refine blk_drewN ?_ _ | refine blk_drew ?_ | refine blk_alloc ?_ _)); exact BK274.out⟩
 have n2_ : Aside0 ((w19.setCell ⟨gb276, 7, none⟩ (.slice Ao20 y280.length co20)).heap[gb275]? = some (.cells #[.string (⟨#[]⟩ : ByteArray), .int .i64 0, .bool false, .int .i64 0, .int .u64 0, .float .f64 0, .string (⟨#[]⟩ : ByteArray), .slice none 0 0] 43 (0, 0))) := ⟨by (with_reducible repeat (first | refine blk_drewN ?_ _ | refine blk_drew ?_ | refine blk_alloc ?_ _)); refine blk_far ?_ NB275_276.out _; (with_reducible repeat (first | refine blk_drewN ?_ _ | refine blk_drew ?_ | refine blk_alloc ?_ _)); exact BK275.out⟩
 have n3_ : Aside0 ((w19.setCell ⟨gb276, 7, none⟩ (.slice Ao20 y280.length co20)).heap[gb276]? = some (.cells #[.string a0, .int .i64 8, .bool false, .int .i64 0, .int .u64 0, .float .f64 0, .string (⟨#[]⟩ : ByteArray), .slice Ao20 y280.length co20] 43 (0, 0))) := ⟨by (with_reducible repeat (first | refine blk_drewN ?_ _ | refine blk_drew ?_ | refine blk_alloc ?_ _)); refine blk_put (cs := #[.string a0, .int .i64 8, .bool false, .int .i64 0, .int .u64 0, .float .f64 0, .string (⟨#[]⟩ : ByteArray), .slice Ao16 y277.length co16]) ?_ 7 _ rfl; (with_reducible repeat (first | refine blk_drewN ?_ _ | refine blk_drew ?_ | refine blk_alloc ?_ _)); exact BK276.out⟩
 have n4_ : Aside0 (Below w.heap.size w (w19.setCell ⟨gb276, 7, none⟩ (.slice Ao20 y280.length co20))) := ⟨by repeat (first | (with_reducible first | exact HB.out | apply below_alloc | apply pw_below_drewN | apply below_drew1 | refine below_set ?_ GE274.out | refine below_set ?_ GE275.out | refine below_set ?_ GE276.out) | exact HB.out)⟩
 (try clear HO282)
 (try clear BK274)
 (try clear BK275)
 (try clear BK276)
 (try clear HB)
 generalize (w19.setCell ⟨gb276, 7, none⟩ (.slice Ao20 y280.length co20)) = w22 at n0_ n1_ n2_ n3_ n4_ ⊢
 have HO282 := n0_
 have BK274 := n1_
 have BK275 := n2_
 have BK276 := n3_
 have HB := n4_
 clear n0_ n1_ n2_ n3_ n4_
 have n0_ := Aside0.mk (Kd.R_drew HO282.out)
 have n1_ := Aside0.mk (blk_drew BK274.out)
 have n2_ := Aside0.mk (blk_drew BK275.out)
 have n3_ := Aside0.mk (blk_drew BK276.out)
 have n4_ := Aside0.mk (below_drew1 HB.out)
 clear HO282
 clear BK274
 clear BK275
 clear BK276
 clear HB
 have HO282 := n0_
 have BK274 := n1_
 have BK275 := n2_
 have BK276 := n3_
 have HB := n4_
 clear n0_ n1_ n2_ n3_ n4_
 refine start_ (n := 9) (S := fun w' => w'.cell? ⟨gb276, 0, none⟩ = some (.string a0) ∧ w'.cell? ⟨gb276, 1, none⟩ = some (.int .i64 8) ∧ w'.cell? ⟨gb276, 2, none⟩ = some (.bool false) ∧ w'.cell? ⟨gb276, 3, none⟩ = some (.int .i64 0) ∧ w'.cell? ⟨gb276, 4, none⟩ = some (.int .u64 0) ∧ w'.cell? ⟨gb276, 5, none⟩ = some (.float .f64 0) ∧ w'.cell? ⟨gb276, 6, none⟩ = some (.string (⟨#[]⟩ : ByteArray)) ∧ w'.cell? ⟨gb276, 7, none⟩ = some (.slice Ao20 y280.length co20) ∧ w'.cell? ⟨gb274, 0, none⟩ = some (.string a1_0) ∧ w'.cell? ⟨gb274, 1, none⟩ = some (.string a1_1) ∧ w'.cell? ⟨gb274, 2, none⟩ = some (.slice A1_2 l1_2.length c1_2)) (ds := [8]) (bb [0, 9]) (by kernel_rfl) rfl rfl ⟨(blk_cell BK276.out 0).trans rfl, (blk_cell BK276.out 1).trans rfl, (blk_cell BK276.out 2).trans rfl, (blk_cell BK276.out 3).trans rfl, (blk_cell BK276.out 4).trans rfl, (blk_cell BK276.out 5).trans rfl, (blk_cell BK276.out 6).trans rfl, (blk_cell BK276.out 7).trans rfl, (blk_cell BK274.out 0).trans rfl, (blk_cell BK274.out 1).trans rfl, (blk_cell BK274.out 2).trans rfl⟩ (fun hHeld => ?_); refine with_tabW impl_procfsBuddyInfo.tab4 impl_procfsBuddyInfo.bits4 (fun HT_ HW_ => ?_)
 generalize w22.drew = w23 at HO282 BK274 BK275 BK276 HB hHeld ⊢
 refine pure_ (i := 0) (N := some 24) (v := ?_) (a' := ?_) (bb [1, 8]) rfl rfl (any_of HT_.out (by kernel_rfl)) (fun _ _ _ h => h) (Or.inl ⟨by rfl, ?_⟩) ?_ ?_
 rotate_left
 ·intro w'
  go_simp
  with_reducible rfl
 rotate_left
 ·simp only [Act.put, List.setIfInBounds_toArray, List.set_cons_zero, List.set_cons_succ, i64_w, i32_w]
  rfl
 refine pure_ (i := 2) (N := some 26) (v := ?_) (a' := ?_) (bb [1, 1, 1, 6]) rfl rfl (any_of HT_.out (by kernel_rfl)) (fun _ _ _ h => h) (Or.inl ⟨by rfl, ?_⟩) ?_ ?_
 rotate_left
 ·intro w'
  go_simp
  with_reducible rfl
 rotate_left
 ·simp only [Act.put, List.setIfInBounds_toArray, List.set_cons_zero, List.set_cons_succ, i64_w, i32_w]
  rfl
 refine take_ (i := 1) (N := some 25) (v := ?_) (a' := ?_) (bb [3, 6]) rfl rfl (take_ofW HT_.out HW_.out (by kernel_rfl)) (fun _ _ _ h => h) (Or.inl ⟨by rfl, ?_⟩) hHeld ?_ ?_
 rotate_left
 ·rintro w' ⟨s0, s1, s2, s3, s4, s5, s6, s7, s8, s9, s10⟩
  go_simp
  with_reducible rfl
 rotate_left
 ·simp only [Act.put, List.setIfInBounds_toArray, List.set_cons_zero, List.set_cons_succ, i64_w, i32_w]
  rfl
 refine take_ (i := 3) (N := some 27) (v := ?_) (a' := ?_) (bb [4, 5]) rfl rfl (take_ofW HT_.out HW_.out (by kernel_rfl)) (fun _ _ _ h => h) (Or.inl ⟨by rfl, ?_⟩) hHeld ?_ ?_
 rotate_left
 ·rintro w' ⟨s0, s1, s2, s3, s4, s5, s6, s7, s8, s9, s10⟩
  go_simp
  with_reducible rfl
 rotate_left
 ·simp only [Act.put, List.setIfInBounds_toArray, List.set_cons_zero, List.set_cons_succ, i64_w, i32_w]
  rfl
 refine one_ (i := 4) (N := some 28) (bb [5, 4]) rfl rfl (one_of HT_.out (by kernel_rfl)) (by decide) (fun K hK => ?_)
 refine goes_ Tryz.func146 (by kernel_rfl) rfl #[.string (⟨#[83, 105, 122, 101, 115]⟩ : ByteArray), .slice A1_2 l1_2.length c1_2, .func (.func 147) #[] #[]] (by rfl) rfl rfl (by (try simp only [List.map_toArray, List.map_cons, List.map_nil]); first | done | rfl | (simp only [List.length_drop, List.length_take]; rfl)) ?_
 with_reducible refine (impl_list_float64.calls k (⟨#[83, 105, 122, 101, 115]⟩ : ByteArray) _ _ l1_2 t283 t284 t285 t286 t287 t288 t289 t290 _ ?side1 ?side2 A5.out).mono ?_
 (case side1 => repeat (first | exact (Kd.C_below HR1_2.out HB.out) | (with_reducible refine Kd.C_alloc ?_ _) | (with_reducible refine Kd.C_drewN ?_ _) | (with_reducible refine Kd.C_drew ?_)))
 (case side2 => exact HC1_2.out)
 rintro e w24 ⟨v291, rfl, ho0, hb⟩
 refine ⟨_, rfl, ?_⟩
 have n0_ := Aside0.mk (Kd.R_elder' (by (with_reducible repeat (first | apply Kd.R_alloc | apply Kd.R_drewN | apply Kd.R_drew)); exact HO282.out) (by first | exact Kd.R_base ho0 | exact Kd.R_base ho0) hb)
 have n1_ := Aside0.mk (Kd.R_lower (Kd.R_newB (Kd.R_newB (Kd.R_new' ho0 (Kd.R_lt (by (with_reducible repeat (first | apply Kd.R_alloc | apply Kd.R_drewN | apply Kd.R_drew)); exact HO282.out))) (g := gb275) (o := .cells #[.string (⟨#[]⟩ : ByteArray), .int .i64 0, .bool false, .int .i64 0, .int .u64 0, .float .f64 0, .string (⟨#[]⟩ : ByteArray), .slice none 0 0] 43 (0, 0)) (by (with_reducible repeat (first | refine blk_drewN ?_ _ | refine blk_drew ?_ | refine blk_alloc ?_ _)); exact BK275.out)) (g := gb276) (o := .cells #[.string a0, .int .i64 8, .bool false, .int .i64 0, .int .u64 0, .float .f64 0, .string (⟨#[]⟩ : ByteArray), .slice Ao20 y280.length co20] 43 (0, 0)) (by (with_reducible repeat (first | refine blk_drewN ?_ _ | refine blk_drew ?_ | refine blk_alloc ?_ _)); exact BK276.out)) (below_size (by repeat (first | (with_reducible first | exact HB.out | apply below_alloc | apply pw_below_drewN | apply below_drew1 | refine below_set ?_ GE274.out | refine below_set ?_ GE275.out | refine below_set ?_ GE276.out) | exact HB.out))))
 have n2_ := Aside0.mk (blk_below (g := gb274) (o := .cells #[.string a1_0, .string a1_1, .slice A1_2 l1_2.length c1_2] 75 (0, 0)) (by (with_reducible repeat (first | refine blk_drewN ?_ _ | refine blk_drew ?_ | refine blk_alloc ?_ _)); exact BK274.out) hb)
 have n3_ := Aside0.mk (blk_below (g := gb275) (o := .cells #[.string (⟨#[]⟩ : ByteArray), .int .i64 0, .bool false, .int .i64 0, .int .u64 0, .float .f64 0, .string (⟨#[]⟩ : ByteArray), .slice none 0 0] 43 (0, 0)) (by (with_reducible repeat (first | refine blk_drewN ?_ _ | refine blk_drew ?_ | refine blk_alloc ?_ _)); exact BK275.out) hb)
 have n4_ := Aside0.mk (blk_below (g := gb276) (o := .cells #[.string a0, .int .i64 8, .bool false, .int .i64 0, .int .u64 0, .float .f64 0, .string (⟨#[]⟩ : ByteArray), .slice Ao20 y280.length co20] 43 (0, 0)) (by (with_reducible repeat (first | refine blk_drewN ?_ _ | refine blk_drew ?_ | refine blk_alloc ?_ _)); exact BK276.out) hb)
 have n5_ := Aside0.mk (below_step (by repeat (first | (with_reducible first | exact HB.out | apply below_alloc | apply pw_below_drewN | apply below_drew1 | refine below_set ?_ GE274.out | refine below_set ?_ GE275.out | refine below_set ?_ GE276.out) | exact HB.out)) hb)
 clear HO282
 clear BK274
 clear BK275
 clear BK276
 clear HB
 have HO282 := n0_
 have HO292 := n1_
 have BK274 := n2_
 have BK275 := n3_
 have BK276 := n4_
 have HB := n5_
 clear n0_ n1_ n2_ n3_ n4_ n5_
 (try clear hb)
 (try clear hb2)
 (try clear hk)
 (try clear hi)
 (try clear ho0)
 obtain ⟨Ao26, co26, eo26⟩ := Kd.R_slice HO292.out
 (first | subst eo26 | (injection eo26 with f1_ f2_ f3_; have f4_ := f1_.symm; have f5_ := f3_.symm; clear f1_ f2_ f3_; subst f4_; subst f5_))
 refine hK.out _ _ ⟨(blk_cell BK276.out 0).trans rfl, (blk_cell BK276.out 1).trans rfl, (blk_cell BK276.out 2).trans rfl, (blk_cell BK276.out 3).trans rfl, (blk_cell BK276.out 4).trans rfl, (blk_cell BK276.out 5).trans rfl, (blk_cell BK276.out 6).trans rfl, (blk_cell BK276.out 7).trans rfl, (blk_cell BK274.out 0).trans rfl, (blk_cell BK274.out 1).trans rfl, (blk_cell BK274.out 2).trans rfl⟩ (fun hHeld => ?_)
 clear hK K
 refine norm_ (a' := ?_) ?_ ?_
 rotate_left
 ·show Act.put _ (some 28) _ = _
  simp only [Act.put, List.setIfInBounds_toArray, List.set_cons_zero, List.set_cons_succ, i64_w, i32_w]
  rfl
 refine one_ (i := 5) (N := some 29) (bb [6, 3]) rfl rfl (one_of HT_.out (by kernel_rfl)) (by decide) (fun K hK => ?_)
 refine value_ (w1 := ?_) (v := ?_) (by rfl) rfl ?_ ?_
 rotate_left 2
 ·go_simp
  constructor
  ·rfl
  ·rfl
 refine hK.out _ _ ⟨(blk_cell (blk_alloc BK276.out _) 0).trans rfl, (blk_cell (blk_alloc BK276.out _) 1).trans rfl, (blk_cell (blk_alloc BK276.out _) 2).trans rfl, (blk_cell (blk_alloc BK276.out _) 3).trans rfl, (blk_cell (blk_alloc BK276.out _) 4).trans rfl, (blk_cell (blk_alloc BK276.out _) 5).trans rfl, (blk_cell (blk_alloc BK276.out _) 6).trans rfl, (blk_cell (blk_alloc BK276.out _) 7).trans rfl, (blk_cell (blk_alloc BK274.out _) 0).trans rfl, (blk_cell (blk_alloc BK274.out _) 1).trans rfl, (blk_cell (blk_alloc BK274.out _) 2).trans rfl⟩ (fun hHeld => ?_)
 clear hK K
 refine norm_ (a' := ?_) ?_ ?_
 rotate_left
 ·show Act.put _ (some 29) _ = _
  simp only [Act.put, List.setIfInBounds_toArray, List.set_cons_zero, List.set_cons_succ, i64_w, i32_w]
  rfl
 refine one_ (i := 6) (N := some 30) (bb [7, 2]) rfl rfl (one_of HT_.out (by kernel_rfl)) (by decide) (fun K hK => ?_)
 refine Kd.R_append_step k43 (w0 := w) w.heap.size (by rfl) (.tmp 25) (.tmp 29) 41 43 (.agg #[(.string ⟨#[]⟩), (.int .i64 0), (.bool false), (.int .i64 0), (.int .u64 0), (.float .f64 0), (.string ⟨#[]⟩), (.slice none 0 0)]) 96 rfl Tryz.underlying41 info43 rfl (by decide) (by omega) (.slice Ao20 y280.length co20) y280 (⟨t283, t284, t285, t286, t287, t288, t289, t290⟩ : S43) [.string t283, .int .i64 t284, .bool t285, .int .i64 t286, .int .u64 t287, .float .f64 t288, .string t289, .slice Ao26 t290.length co26] (fun k_ => k_ ≠ gb275 ∧ k_ ≠ gb276) (fun k_ => ((fun k_ => k_ ≠ gb275 ∧ k_ ≠ gb276)) k_ ∧ some k_ ≠ (.slice Ao20 y280.length co20 : Value).ownBlock) rfl rfl ?aP (fun _ hk => hk) ?aF ?aO ?aB ?aS ?aL ?_
 (case aP => exact k43_mkM _ _ _ (⟨t283, t284, t285, t286, t287, t288, t289, t290⟩ : S43) (Kd.R_mono (HO292.out) (fun k_ hk => ⟨⟨hk.1.2, hk.2⟩, hk.1.1.2⟩)))
 (case aB => exact (by repeat (first | (with_reducible first | exact HB.out | apply below_alloc | apply pw_below_drewN | apply below_drew1 | refine below_set ?_ GE274.out | refine below_set ?_ GE275.out | refine below_set ?_ GE276.out) | exact HB.out)))
 (case aF => exact (fun k_ hk => ⟨Kd.freshB (g := gb275) (o := .cells #[.string (⟨#[]⟩ : ByteArray), .int .i64 0, .bool false, .int .i64 0, .int .u64 0, .float .f64 0, .string (⟨#[]⟩ : ByteArray), .slice none 0 0] 43 (0, 0)) (by (with_reducible repeat (first | refine blk_drewN ?_ _ | refine blk_drew ?_ | refine blk_alloc ?_ _)); exact BK275.out) k_ hk, Kd.freshB (g := gb276) (o := .cells #[.string a0, .int .i64 8, .bool false, .int .i64 0, .int .u64 0, .float .f64 0, .string (⟨#[]⟩ : ByteArray), .slice Ao20 y280.length co20] 43 (0, 0)) (by (with_reducible repeat (first | refine blk_drewN ?_ _ | refine blk_drew ?_ | refine blk_alloc ?_ _)); exact BK276.out) k_ hk⟩))
 (case aO => exact (by (with_reducible repeat (first | apply Kd.R_alloc | apply Kd.R_drewN | apply Kd.R_drew)); exact Kd.R_mono HO282.out (fun _ hk => ⟨hk.1.1, hk.1.2⟩)))
 (case aS => exact (below_size (by repeat (first | (with_reducible first | exact HB.out | apply below_alloc | apply pw_below_drewN | apply below_drew1 | refine below_set ?_ GE274.out | refine below_set ?_ GE275.out | refine below_set ?_ GE276.out) | exact HB.out))))
 (case aL => have := LMc6.out; omega)
 intro v294 w25 ho hb hg hat
 rw [← Ny293.out] at ho
 have n0_ := Aside0.mk (blk_grown (g := gb274) (o := .cells #[.string a1_0, .string a1_1, .slice A1_2 l1_2.length c1_2] 75 (0, 0)) (by (with_reducible repeat (first | refine blk_drewN ?_ _ | refine blk_drew ?_ | refine blk_alloc ?_ _)); exact BK274.out) hg (Kd.R_ne HO282.out BK274.out (by decide)))
 have n1_ := Aside0.mk (blk_grown (g := gb275) (o := .cells #[.string (⟨#[]⟩ : ByteArray), .int .i64 0, .bool false, .int .i64 0, .int .u64 0, .float .f64 0, .string (⟨#[]⟩ : ByteArray), .slice none 0 0] 43 (0, 0)) (by (with_reducible repeat (first | refine blk_drewN ?_ _ | refine blk_drew ?_ | refine blk_alloc ?_ _)); exact BK275.out) hg (Kd.R_away HO282.out (fun _ hk => hk.1.1)))
 have n2_ := Aside0.mk (blk_grown (g := gb276) (o := .cells #[.string a0, .int .i64 8, .bool false, .int .i64 0, .int .u64 0, .float .f64 0, .string (⟨#[]⟩ : ByteArray), .slice Ao20 y280.length co20] 43 (0, 0)) (by (with_reducible repeat (first | refine blk_drewN ?_ _ | refine blk_drew ?_ | refine blk_alloc ?_ _)); exact BK276.out) hg (Kd.R_away HO282.out (fun _ hk => hk.1.2)))
 have n3_ := Aside0.mk (hb)
 have n4_ := Aside0.mk (ho)
 clear BK274
 clear BK275
 clear BK276
 clear HB
 clear HO282
 clear HO292
 have BK274 := n0_
 have BK275 := n1_
 have BK276 := n2_
 have HB := n3_
 have HO295 := n4_
 clear n0_ n1_ n2_ n3_ n4_
 clear ho hb hg hat
 obtain ⟨Ao27, co27, eo27⟩ := Kd.R_slice HO295.out
 (first | subst eo27 | (injection eo27 with f1_ f2_ f3_; have f4_ := f1_.symm; have f5_ := f3_.symm; clear f1_ f2_ f3_; subst f4_; subst f5_))
 refine hK.out _ _ ⟨(blk_cell BK276.out 0).trans rfl, (blk_cell BK276.out 1).trans rfl, (blk_cell BK276.out 2).trans rfl, (blk_cell BK276.out 3).trans rfl, (blk_cell BK276.out 4).trans rfl, (blk_cell BK276.out 5).trans rfl, (blk_cell BK276.out 6).trans rfl, (blk_cell BK276.out 7).trans rfl, (blk_cell BK274.out 0).trans rfl, (blk_cell BK274.out 1).trans rfl, (blk_cell BK274.out 2).trans rfl⟩ (fun hHeld => ?_)
 clear hK K
 refine norm_ (a' := ?_) ?_ ?_
 rotate_left
 ·show Act.put _ (some 30) _ = _
  simp only [Act.put, List.setIfInBounds_toArray, List.set_cons_zero, List.set_cons_succ, i64_w, i32_w]
  rfl
 refine pure_ (i := 7) (N := some 31) (v := ?_) (a' := ?_) (bb [8, 1]) rfl rfl (any_of HT_.out (by kernel_rfl)) (fun _ _ _ h => h) (Or.inl ⟨by rfl, ?_⟩) ?_ ?_
 rotate_left
 ·intro w'
  go_simp
  with_reducible rfl
 rotate_left
 ·simp only [Act.put, List.setIfInBounds_toArray, List.set_cons_zero, List.set_cons_succ, i64_w, i32_w]
  rfl
 refine last_ (i := 8) (N := none) (bb [9]) rfl rfl (one_of HT_.out (by kernel_rfl)) (by decide) (fun K hK => ?_)
 have hs28 : w25.cell? ⟨gb276, 7, none⟩ = some (.slice Ao20 y280.length co20) := (blk_cell BK276.out 7).trans rfl
 have hfs28 := blk_frozen BK276.out 7
 have hns28_0 := NB274_276.out
 have hns28_1 := NB275_276.out
 have hms28_0 := NB276_274.out
 have hms28_1 := NB276_275.out
 refine skip_ (w1 := ?_) (by rfl) rfl ?_ ?_
 rotate_left
 ·go_simp
  rfl
 refine hK.out _ _ ?_
 clear hK K
 refine done_ (done_of HT_.out (by kernel_rfl)) ?_
 have hcz29_0 : w25.cell? ⟨gb276, 0, none⟩ = some (.string a0) := (blk_cell BK276.out 0).trans rfl
 have hcz29_1 : w25.cell? ⟨gb276, 1, none⟩ = some (.int .i64 8) := (blk_cell BK276.out 1).trans rfl
 have hcz29_2 : w25.cell? ⟨gb276, 2, none⟩ = some (.bool false) := (blk_cell BK276.out 2).trans rfl
 have hcz29_3 : w25.cell? ⟨gb276, 3, none⟩ = some (.int .i64 0) := (blk_cell BK276.out 3).trans rfl
 have hcz29_4 : w25.cell? ⟨gb276, 4, none⟩ = some (.int .u64 0) := (blk_cell BK276.out 4).trans rfl
 have hcz29_5 : w25.cell? ⟨gb276, 5, none⟩ = some (.float .f64 0) := (blk_cell BK276.out 5).trans rfl
 have hcz29_6 : w25.cell? ⟨gb276, 6, none⟩ = some (.string (⟨#[]⟩ : ByteArray)) := (blk_cell BK276.out 6).trans rfl
 have hcz29_7 : w25.cell? ⟨gb276, 7, none⟩ = some (.slice Ao20 y280.length co20) := (blk_cell BK276.out 7).trans rfl
 have hfz29_0 := blk_frozen BK276.out 0
 have hfz29_1 := blk_frozen BK276.out 1
 have hfz29_2 := blk_frozen BK276.out 2
 have hfz29_3 := blk_frozen BK276.out 3
 have hfz29_4 := blk_frozen BK276.out 4
 have hfz29_5 := blk_frozen BK276.out 5
 have hfz29_6 := blk_frozen BK276.out 6
 have hfz29_7 := blk_frozen BK276.out 7
 have hcz30_0 : w25.cell? ⟨gb275, 0, none⟩ = some (.string (⟨#[]⟩ : ByteArray)) := (blk_cell BK275.out 0).trans rfl
 have hcz30_1 : w25.cell? ⟨gb275, 1, none⟩ = some (.int .i64 0) := (blk_cell BK275.out 1).trans rfl
 have hcz30_2 : w25.cell? ⟨gb275, 2, none⟩ = some (.bool false) := (blk_cell BK275.out 2).trans rfl
 have hcz30_3 : w25.cell? ⟨gb275, 3, none⟩ = some (.int .i64 0) := (blk_cell BK275.out 3).trans rfl
 have hcz30_4 : w25.cell? ⟨gb275, 4, none⟩ = some (.int .u64 0) := (blk_cell BK275.out 4).trans rfl
 have hcz30_5 : w25.cell? ⟨gb275, 5, none⟩ = some (.float .f64 0) := (blk_cell BK275.out 5).trans rfl
 have hcz30_6 : w25.cell? ⟨gb275, 6, none⟩ = some (.string (⟨#[]⟩ : ByteArray)) := (blk_cell BK275.out 6).trans rfl
 have hcz30_7 : w25.cell? ⟨gb275, 7, none⟩ = some (.slice none 0 0) := (blk_cell BK275.out 7).trans rfl
 have hfz30_0 := blk_frozen BK275.out 0
 have hfz30_1 := blk_frozen BK275.out 1
 have hfz30_2 := blk_frozen BK275.out 2
 have hfz30_3 := blk_frozen BK275.out 3
 have hfz30_4 := blk_frozen BK275.out 4
 have hfz30_5 := blk_frozen BK275.out 5
 have hfz30_6 := blk_frozen BK275.out 6
 have hfz30_7 := blk_frozen BK275.out 7
 try go_wp2
 refine bodyPost_ret (results_cell_row rfl _ _ gb275 43 #[.string a0, .int .i64 8, .bool false, .int .i64 0, .int .u64 0, .float .f64 0, .string (⟨#[]⟩ : ByteArray), .slice Ao27 y293.length co27] (0, 0) _ rfl (by (with_reducible repeat (first | refine blk_drewN ?_ _ | refine blk_drew ?_ | refine blk_alloc ?_ _)); refine blk_put (cs := #[.string a0, .int .i64 8, .bool false, .int .i64 0, .int .u64 0, .float .f64 0, .string (⟨#[]⟩ : ByteArray), .slice none 0 0]) ?_ 7 _ rfl; (with_reducible repeat (first | refine blk_drewN ?_ _ | refine blk_drew ?_ | refine blk_alloc ?_ _)); refine blk_put (cs := #[.string a0, .int .i64 8, .bool false, .int .i64 0, .int .u64 0, .float .f64 0, .string (⟨#[]⟩ : ByteArray), .slice none 0 0]) ?_ 6 _ rfl; (with_reducible repeat (first | refine blk_drewN ?_ _ | refine blk_drew ?_ | refine blk_alloc ?_ _)); refine blk_put (cs := #[.string a0, .int .i64 8, .bool false, .int .i64 0, .int .u64 0, .float .f64 0, .string (⟨#[]⟩ : ByteArray), .slice none 0 0]) ?_ 5 _ rfl; (with_reducible repeat (first | refine blk_drewN ?_ _ | refine blk_drew ?_ | refine blk_alloc ?_ _)); refine blk_put (cs := #[.string a0, .int .i64 8, .bool false, .int .i64 0, .int .u64 0, .float .f64 0, .string (⟨#[]⟩ : ByteArray), .slice none 0 0]) ?_ 4 _ rfl; (with_reducible repeat (first | refine blk_drewN ?_ _ | refine blk_drew ?_ | refine blk_alloc ?_ _)); refine blk_put (cs := #[.string a0, .int .i64 8, .bool false, .int .i64 0, .int .u64 0, .float .f64 0, .string (⟨#[]⟩ : ByteArray), .slice none 0 0]) ?_ 3 _ rfl; (with_reducible repeat (first | refine blk_drewN ?_ _ | refine blk_drew ?_ | refine blk_alloc ?_ _)); refine blk_put (cs := #[.string a0, .int .i64 8, .bool false, .int .i64 0, .int .u64 0, .float .f64 0, .string (⟨#[]⟩ : ByteArray), .slice none 0 0]) ?_ 2 _ rfl; (with_reducible repeat (first | refine blk_drewN ?_ _ | refine blk_drew ?_ | refine blk_alloc ?_ _)); refine blk_put (cs := #[.string a0, .int .i64 0, .bool false, .int .i64 0, .int .u64 0, .float .f64 0, .string (⟨#[]⟩ : ByteArray), .slice none 0 0]) ?_ 1 _ rfl; (with_reducible repeat (first | refine blk_drewN ?_ _ | refine blk_drew ?_ | refine blk_alloc ?_ _)); refine blk_put (cs := #[.string (⟨#[]⟩ : ByteArray), .int .i64 0, .bool false, .int .i64 0, .int .u64 0, .float .f64 0, .string (⟨#[]⟩ : ByteArray), .slice none 0 0]) ?_ 0 _ rfl; (with_reducible repeat (first | refine blk_drewN ?_ _ | refine blk_drew ?_ | refine blk_alloc ?_ _)); refine blk_far ?_ NB275_276.out _; (with_reducible repeat (first | refine blk_drewN ?_ _ | refine blk_drew ?_ | refine blk_alloc ?_ _)); exact BK275.out) Tryz.underlying43 rfl (by kernel_rfl)) rfl ?_
 exact ⟨_, by first | rfl | (simp [errW_none, errW_some] <;> rfl) | (simp [*, errW_none, errW_some] <;> rfl), by (with_reducible repeat (first | apply Kd.R_alloc | apply Kd.R_drewN | apply Kd.R_drew)); exact Kd.R_mono (Kd.R_far (p := ⟨gb275, 7, none⟩) (Kd.R_far (p := ⟨gb275, 6, none⟩) (Kd.R_far (p := ⟨gb275, 5, none⟩) (Kd.R_far (p := ⟨gb275, 4, none⟩) (Kd.R_far (p := ⟨gb275, 3, none⟩) (Kd.R_far (p := ⟨gb275, 2, none⟩) (Kd.R_far (p := ⟨gb275, 1, none⟩) (Kd.R_far (p := ⟨gb275, 0, none⟩) (Kd.R_far (p := ⟨gb276, 7, none⟩) (Kd.R_mono (Kd.R_mono HO295.out (fun k_ hk => (⟨hk, hk.2⟩ : _ ∧ k_ ≠ gb276))) (fun k_ hk => (⟨hk, hk.1.1⟩ : _ ∧ k_ ≠ gb275))) (fun _ hk => hk.1.2) (.slice Ao27 y293.length co27)) (fun _ hk => hk.2) (.string a0)) (fun _ hk => hk.2) (.int .i64 8)) (fun _ hk => hk.2) (.bool false)) (fun _ hk => hk.2) (.int .i64 0)) (fun _ hk => hk.2) (.int .u64 0)) (fun _ hk => hk.2) (.float .f64 0)) (fun _ hk => hk.2) (.string (⟨#[]⟩ : ByteArray))) (fun _ hk => hk.2) (.slice Ao27 y293.length co27)) (fun _ hk => trivial), by repeat (first | (with_reducible first | exact HB.out | apply below_alloc | apply pw_below_drewN | apply below_drew1 | refine below_set ?_ GE274.out | refine below_set ?_ GE275.out | refine below_set ?_ GE276.out) | exact HB.out)⟩
/-! ### impl_Buddyinfo_1_1: function 71 -/
def impl_Buddyinfo_1_1.f (k : Nat) (a0_0 : ByteArray) (a0_1 : ByteArray) (l0_2 : List Nat) : Option (ByteArray × Int × Bool × Int × Int × Nat × ByteArray × (List (S43))) := (impl_procfsBuddyInfo.f k (⟨#[]⟩ : ByteArray) a0_0 a0_1 l0_2).bind fun bt298 => (some (bt298.1, bt298.2.1, bt298.2.2.1, bt298.2.2.2.1, bt298.2.2.2.2.1, bt298.2.2.2.2.2.1, bt298.2.2.2.2.2.2.1, bt298.2.2.2.2.2.2.2))
theorem impl_Buddyinfo_1_1.mono : ∀ a0 a1 a2 k, LeO (impl_Buddyinfo_1_1.f k a0 a1 a2) (impl_Buddyinfo_1_1.f (k + 1) a0 a1 a2) := by
 intro a0 a1 a2 k
 unfold impl_Buddyinfo_1_1.f
 repeat' first
   | (with_reducible exact impl_procfsBuddyInfo.mono _ _ _ _ _)
   | (with_reducible exact LeO.refl _)
   | (with_reducible exact LeO.none _)
   | (with_reducible refine LeO.ite ?_ ?_)
   | (with_reducible refine LeO.bind ?_ (fun _ => ?_))
   | exact impl_procfsBuddyInfo.mono _ _ _ _ _
   | exact LeO.none _
   | refine LeO.ite ?_ ?_
   | refine LeO.bind ?_ (fun _ => ?_)
set_option maxHeartbeats 8000000 in
set_option maxRecDepth 100000 in
theorem impl_Buddyinfo_1_1.calls (k : Nat) (a0_0 : ByteArray) (a0_1 : ByteArray) (A0_2 : Option Addr) (c0_2 : Nat) (l0_2 : List Nat) (r1 : ByteArray) (r2 : Int) (r3 : Bool) (r4 : Int) (r5 : Int) (r6 : Nat) (r7 : ByteArray) (r8 : List (S43)) (w : World) (hr0_2 : Kd.C kF64 w A0_2 l0_2.length l0_2) (hc0_2 : l0_2.length ≤ c0_2) (h : impl_Buddyinfo_1_1.f k a0_0 a0_1 l0_2 = some (r1, r2, r3, r4, r5, r6, r7, r8)) :
  Calls Tryz.prog 71 #[.agg #[.string a0_0, .string a0_1, .slice A0_2 l0_2.length c0_2]] w fun e w' => ∃ v7_ : Value, e = .returned (.agg #[.string r1, .int .i64 r2, .bool r3, .int .i64 r4, .int .u64 r5, .float .f64 r6, .string r7, v7_]) ∧ Kd.R k43 43 w' w.heap.size (fun _ => True) v7_ r8 ∧ Below w.heap.size w w' := by
 have hu75 := Tryz.underlying75
 have hu43 := Tryz.underlying43
 have HR0_2 := Aside0.mk hr0_2
 have HC0_2 := Aside0.mk hc0_2
 clear hr0_2 hc0_2
 have HB := Aside0.mk (Below.refl w.heap.size w)
 have H : ((impl_procfsBuddyInfo.f k (⟨#[]⟩ : ByteArray) a0_0 a0_1 l0_2).bind fun bt298 => (some (bt298.1, bt298.2.1, bt298.2.2.1, bt298.2.2.2.1, bt298.2.2.2.2.1, bt298.2.2.2.2.2.1, bt298.2.2.2.2.2.2.1, bt298.2.2.2.2.2.2.2))) = some (r1, r2, r3, r4, r5, r6, r7, r8) := h
 clear h
 replace H := Option.bind_eq_some_iff.mp H
 obtain ⟨⟨t298, t299, t300, t301, t302, t303, t304, t305⟩, A20, H⟩ := H
 replace H : (some (t298, t299, t300, t301, t302, t303, t304, t305)) = some (r1, r2, r3, r4, r5, r6, r7, r8) := H
 have A2 := Aside0.mk A20
 clear A20
 simp only [Option.some.injEq, Prod.mk.injEq] at H
 obtain ⟨rfl, rfl, rfl, rfl, rfl, rfl, rfl, rfl⟩ := H
 go_enter Tryz.func71, Tryz.ntmps71
 go_wp2_with (first | ((with_reducible refine gate_dst (N := 1) rfl ?_); refine box_event ?hg (N := 1) ?hd (cs := #[.string a0_0, .string a0_1, .slice A0_2 l0_2.length c0_2]) (t := 75) ?hr ?_; (case hd => rfl); (case hg => rfl); (case hr => first | (go_simp; done) | (go_simp; rfl)); intro gb296 hg w3 hbox hb; have n0_ := Aside0.mk (below_step (by repeat (first | (with_reducible first | exact HB.out | apply below_alloc | apply pw_below_drewN | apply below_drew1) | exact HB.out)) hb); have n1_ := Aside0.mk (hbox); have n2_ := Aside0.mk ((by rw [hg]; exact (below_size (by repeat (first | (with_reducible first | exact HB.out | apply below_alloc | apply pw_below_drewN | apply below_drew1) | exact HB.out))) : w.heap.size ≤ gb296)); have n3_ := Aside0.mk ((by rw [hg]; exact (below_size (by repeat (first | (with_reducible first | exact HB.out | apply below_alloc | apply pw_below_drewN | apply below_drew1) | exact HB.out))) : w.heap.size ≤ gb296)); clear HB; have HB := n0_; have BK296 := n1_; have GW296 := n2_; have GE296 := n3_; clear n0_ n1_ n2_ n3_; clear hb hbox hg) | ((with_reducible refine gate_dst (N := 2) rfl ?_); refine box_event ?hg (N := 2) ?hd (cs := #[.string (⟨#[]⟩ : ByteArray), .int .i64 0, .bool false, .int .i64 0, .int .u64 0, .float .f64 0, .string (⟨#[]⟩ : ByteArray), .slice none 0 0]) (t := 43) ?hr ?_; (case hd => rfl); (case hg => rfl); (case hr => first | (go_simp; done) | (go_simp; rfl)); intro gb297 hg w4 hbox hb; have n0_ := Aside0.mk (blk_below (g := gb296) (o := .cells #[.string a0_0, .string a0_1, .slice A0_2 l0_2.length c0_2] 75 (0, 0)) (by (with_reducible repeat (first | refine blk_drewN ?_ _ | refine blk_drew ?_ | refine blk_alloc ?_ _)); exact BK296.out) hb); have n1_ := Aside0.mk (below_step (by repeat (first | (with_reducible first | exact HB.out | apply below_alloc | apply pw_below_drewN | apply below_drew1 | refine below_set ?_ GE296.out) | exact HB.out)) hb); have n2_ := Aside0.mk (hbox); have n3_ := Aside0.mk ((by rw [hg]; exact (below_size (by repeat (first | (with_reducible first | exact HB.out | apply below_alloc | apply pw_below_drewN | apply below_drew1 | refine below_set ?_ GE296.out) | exact HB.out))) : w.heap.size ≤ gb297)); have n4_ := Aside0.mk ((by rw [hg]; exact (below_size (by repeat (first | (with_reducible first | exact HB.out | apply below_alloc | apply pw_below_drewN | apply below_drew1 | refine below_set ?_ GE296.out) | exact HB.out))) : w.heap.size ≤ gb297)); have n5_ := Aside0.mk ((by rw [hg]; exact Nat.ne_of_lt (blk_lt (g := gb296) (o := .cells #[.string a0_0, .string a0_1, .slice A0_2 l0_2.length c0_2] 75 (0, 0)) (by (with_reducible repeat (first | refine blk_drewN ?_ _ | refine blk_drew ?_ | refine blk_alloc ?_ _)); exact BK296.out)) : gb296 ≠ gb297)); have n6_ := Aside0.mk ((by rw [hg]; exact Nat.ne_of_gt (blk_lt (g := gb296) (o := .cells #[.string a0_0, .string a0_1, .slice A0_2 l0_2.length c0_2] 75 (0, 0)) (by (with_reducible repeat (first | refine blk_drewN ?_ _ | refine blk_drew ?_ | refine blk_alloc ?_ _)); exact BK296.out)) : gb297 ≠ gb296)); clear BK296; clear HB; have BK296 := n0_; have HB := n1_; have BK297 := n2_; have GW297 := n3_; have GE297 := n4_; have NB296_297 := n5_; have NB297_296 := n6_; clear n0_ n1_ n2_ n3_ n4_ n5_ n6_; clear hb hbox hg; have hnb5 := NB296_297.out; have hnc5 := NB297_296.out; have hcz6_0 : w4.cell? ⟨gb296, 0, none⟩ = some (.string a0_0) := (blk_cell BK296.out 0).trans rfl; have hcz6_1 : w4.cell? ⟨gb296, 1, none⟩ = some (.string a0_1) := (blk_cell BK296.out 1).trans rfl; have hcz6_2 : w4.cell? ⟨gb296, 2, none⟩ = some (.slice A0_2 l0_2.length c0_2) := (blk_cell BK296.out 2).trans rfl; have hfz6_0 := blk_frozen BK296.out 0; have hfz6_1 := blk_frozen BK296.out 1; have hfz6_2 := blk_frozen BK296.out 2) | ((with_reducible refine gate_callee (f := 72) rfl ?_); refine goesL_ (some 4) rfl rfl Tryz.func72 (by kernel_rfl) rfl #[.string (⟨#[]⟩ : ByteArray), .agg #[.string a0_0, .string a0_1, .slice A0_2 l0_2.length c0_2]] rfl (by (try simp only [List.map_toArray, List.map_cons, List.map_nil]); first | done | rfl | (simp only [List.length_drop, List.length_take]; rfl)) ?_; (with_reducible refine (impl_procfsBuddyInfo.calls k (⟨#[]⟩ : ByteArray) a0_0 a0_1 _ _ l0_2 t298 t299 t300 t301 t302 t303 t304 t305 _ ?side1 ?side2 A2.out).mono ?_); (case side1 => repeat (first | exact (Kd.C_below HR0_2.out HB.out) | (with_reducible refine Kd.C_alloc ?_ _) | (with_reducible refine Kd.C_drewN ?_ _) | (with_reducible refine Kd.C_drew ?_))); (case side2 => exact HC0_2.out); rintro e w7 ⟨v306, rfl, ho0, hb⟩; refine ⟨_, rfl, ?_⟩; have n0_ := Aside0.mk (Kd.R_lower (Kd.R_newB ho0 (g := gb297) (o := .cells #[.string (⟨#[]⟩ : ByteArray), .int .i64 0, .bool false, .int .i64 0, .int .u64 0, .float .f64 0, .string (⟨#[]⟩ : ByteArray), .slice none 0 0] 43 (0, 0)) (by (with_reducible repeat (first | refine blk_drewN ?_ _ | refine blk_drew ?_ | refine blk_alloc ?_ _)); exact BK297.out)) (below_size (by repeat (first | (with_reducible first | exact HB.out | apply below_alloc | apply pw_below_drewN | apply below_drew1 | refine below_set ?_ GE296.out | refine below_set ?_ GE297.out) | exact HB.out)))); have n1_ := Aside0.mk (blk_below (g := gb296) (o := .cells #[.string a0_0, .string a0_1, .slice A0_2 l0_2.length c0_2] 75 (0, 0)) (by (with_reducible repeat (first | refine blk_drewN ?_ _ | refine blk_drew ?_ | refine blk_alloc ?_ _)); exact BK296.out) hb); have n2_ := Aside0.mk (blk_below (g := gb297) (o := .cells #[.string (⟨#[]⟩ : ByteArray), .int .i64 0, .bool false, .int .i64 0, .int .u64 0, .float .f64 0, .string (⟨#[]⟩ : ByteArray), .slice none 0 0] 43 (0, 0)) (by (with_reducible repeat (first | refine blk_drewN ?_ _ | refine blk_drew ?_ | refine blk_alloc ?_ _)); exact BK297.out) hb); have n3_ := Aside0.mk (below_step (by repeat (first | (with_reducible first | exact HB.out | apply below_alloc | apply pw_below_drewN | apply below_drew1 | refine below_set ?_ GE296.out | refine below_set ?_ GE297.out) | exact HB.out)) hb); clear BK296; clear BK297; clear HB; have HO307 := n0_; have BK296 := n1_; have BK297 := n2_; have HB := n3_; clear n0_ n1_ n2_ n3_; (try clear hb); (try clear hb2); (try clear hk); (try clear hi); (try clear ho0); have hcz8_0 : w7.cell? ⟨gb297, 0, none⟩ = some (.string (⟨#[]⟩ : ByteArray)) := (blk_cell BK297.out 0).trans rfl; have hcz8_1 : w7.cell? ⟨gb297, 1, none⟩ = some (.int .i64 0) := (blk_cell BK297.out 1).trans rfl; have hcz8_2 : w7.cell? ⟨gb297, 2, none⟩ = some (.bool false) := (blk_cell BK297.out 2).trans rfl; have hcz8_3 : w7.cell? ⟨gb297, 3, none⟩ = some (.int .i64 0) := (blk_cell BK297.out 3).trans rfl; have hcz8_4 : w7.cell? ⟨gb297, 4, none⟩ = some (.int .u64 0) := (blk_cell BK297.out 4).trans rfl; have hcz8_5 : w7.cell? ⟨gb297, 5, none⟩ = some (.float .f64 0) := (blk_cell BK297.out 5).trans rfl; have hcz8_6 : w7.cell? ⟨gb297, 6, none⟩ = some (.string (⟨#[]⟩ : ByteArray)) := (blk_cell BK297.out 6).trans rfl; have hcz8_7 : w7.cell? ⟨gb297, 7, none⟩ = some (.slice none 0 0) := (blk_cell BK297.out 7).trans rfl; have hfz8_0 := blk_frozen BK297.out 0; have hfz8_1 := blk_frozen BK297.out 1; have hfz8_2 := blk_frozen BK297.out 2; have hfz8_3 := blk_frozen BK297.out 3; have hfz8_4 := blk_frozen BK297.out 4; have hfz8_5 := blk_frozen BK297.out 5; have hfz8_6 := blk_frozen BK297.out 6; have hfz8_7 := blk_frozen BK297.out 7; obtain ⟨Ao9, co9, eo9⟩ := Kd.R_slice HO307.out; subst eo9))
 refine bodyPost_ret (results_cell_row rfl _ _ gb297 43 #[.string t298, .int .i64 t299, .bool t300, .int .i64 t301, .int .u64 t302, .float .f64 t303, .string t304, .slice Ao9 t305.length co9] (0, 0) _ rfl (by (with_reducible repeat (first | refine blk_drewN ?_ _ | refine blk_drew ?_ | refine blk_alloc ?_ _)); refine blk_put (cs := #[.string t298, .int .i64 t299, .bool t300, .int .i64 t301, .int .u64 t302, .float .f64 t303, .string t304, .slice none 0 0]) ?_ 7 _ rfl; (with_reducible repeat (first | refine blk_drewN ?_ _ | refine blk_drew ?_ | refine blk_alloc ?_ _)); refine blk_put (cs := #[.string t298, .int .i64 t299, .bool t300, .int .i64 t301, .int .u64 t302, .float .f64 t303, .string (⟨#[]⟩ : ByteArray), .slice none 0 0]) ?_ 6 _ rfl; (with_reducible repeat (first | refine blk_drewN ?_ _ | refine blk_drew ?_ | refine blk_alloc ?_ _)); refine blk_put (cs := #[.string t298, .int .i64 t299, .bool t300, .int .i64 t301, .int .u64 t302, .float .f64 0, .string (⟨#[]⟩ : ByteArray), .slice none 0 0]) ?_ 5 _ rfl; (with_reducible repeat (first | refine blk_drewN ?_ _ | refine blk_drew ?_ | refine blk_alloc ?_ _)); refine blk_put (cs := #[.string t298, .int .i64 t299, .bool t300, .int .i64 t301, .int .u64 0, .float .f64 0, .string (⟨#[]⟩ : ByteArray), .slice none 0 0]) ?_ 4 _ rfl; (with_reducible repeat (first | refine blk_drewN ?_ _ | refine blk_drew ?_ | refine blk_alloc ?_ _)); refine blk_put (cs := #[.string t298, .int .i64 t299, .bool t300, .int .i64 0, .int .u64 0, .float .f64 0, .string (⟨#[]⟩ : ByteArray), .slice none 0 0]) ?_ 3 _ rfl; (with_reducible repeat (first | refine blk_drewN ?_ _ | refine blk_drew ?_ | refine blk_alloc ?_ _)); refine blk_put (cs := #[.string t298, .int .i64 t299, .bool false, .int .i64 0, .int .u64 0, .float .f64 0, .string (⟨#[]⟩ : ByteArray), .slice none 0 0]) ?_ 2 _ rfl; (with_reducible repeat (first | refine blk_drewN ?_ _ | refine blk_drew ?_ | refine blk_alloc ?_ _)); refine blk_put (cs := #[.string t298, .int .i64 0, .bool false, .int .i64 0, .int .u64 0, .float .f64 0, .string (⟨#[]⟩ : ByteArray), .slice none 0 0]) ?_ 1 _ rfl; (with_reducible repeat (first | refine blk_drewN ?_ _ | refine blk_drew ?_ | refine blk_alloc ?_ _)); refine blk_put (cs := #[.string (⟨#[]⟩ : ByteArray), .int .i64 0, .bool false, .int .i64 0, .int .u64 0, .float .f64 0, .string (⟨#[]⟩ : ByteArray), .slice none 0 0]) ?_ 0 _ rfl; (with_reducible repeat (first | refine blk_drewN ?_ _ | refine blk_drew ?_ | refine blk_alloc ?_ _)); exact BK297.out) Tryz.underlying43 rfl (by kernel_rfl)) rfl ?_
 exact ⟨_, by first | rfl | (simp [errW_none, errW_some] <;> rfl) | (simp [*, errW_none, errW_some] <;> rfl), by (with_reducible repeat (first | apply Kd.R_alloc | apply Kd.R_drewN | apply Kd.R_drew)); exact Kd.R_mono (Kd.R_far (p := ⟨gb297, 7, none⟩) (Kd.R_far (p := ⟨gb297, 6, none⟩) (Kd.R_far (p := ⟨gb297, 5, none⟩) (Kd.R_far (p := ⟨gb297, 4, none⟩) (Kd.R_far (p := ⟨gb297, 3, none⟩) (Kd.R_far (p := ⟨gb297, 2, none⟩) (Kd.R_far (p := ⟨gb297, 1, none⟩) (Kd.R_far (p := ⟨gb297, 0, none⟩) (Kd.R_mono HO307.out (fun k_ hk => (⟨hk, hk.2⟩ : _ ∧ k_ ≠ gb297))) (fun _ hk => hk.2) (.string t298)) (fun _ hk => hk.2) (.int .i64 t299)) (fun _ hk => hk.2) (.bool t300)) (fun _ hk => hk.2) (.int .i64 t301)) (fun _ hk => hk.2) (.int .u64 t302)) (fun _ hk => hk.2) (.float .f64 t303)) (fun _ hk => hk.2) (.string t304)) (fun _ hk => hk.2) (.slice Ao9 t305.length co9)) (fun _ hk => trivial), by repeat (first | (with_reducible first | exact HB.out | apply below_alloc | apply pw_below_drewN | apply below_drew1 | refine below_set ?_ GE296.out | refine below_set ?_ GE297.out) | exact HB.out)⟩
end Go.Proofs.YtednjmngalmdkaaGreatDoor.GPC
end
section
namespace Go.Proofs.YtednjmngalmdkaaGreatDoor.GPC
open Go.RowKit Go.Proofs.YtednjmngalmdkaaGreatDoorW.PrintWords Go.Proofs.YtednjmngalmdkaaGreatDoorW.PrintLast Go.Proofs.YtednjmngalmdkaaGreatDoorW.PrintMore
attribute [local go_sem] max2_int min2_int max_two min_two max_three min_three max_four min_four   -- for this text's walks alone
set_option linter.unusedVariables false
set_option linter.unusedSimpArgs false

attribute [local go_sem] run_store_float
/-! ### procfs_BuddyInfo: function 70 -/
def procfs_BuddyInfo.l0 : Nat → List (S75) → Int → Int → ByteArray → Int → Bool → Int → Int → Nat → ByteArray → List (S43) → Option (ByteArray × Int × Bool × Int × Int × Nat × ByteArray × (List (S43)))
 | 0, _, _, _, _, _, _, _, _, _, _, _ => none
 | k + 1, x12, x13, x14, x310000, x310001, x310002, x310003, x310004, x310005, x310006, x310007 => if x14 < x13 then (if 0 ≤ x14 then (if x14 < (x12.length : Int) then ((impl_Buddyinfo_1_1.f k ((rd_T75 x12 x14).f0) ((rd_T75 x12 x14).f1) ((rd_T75 x12 x14).f2)).bind fun bt312 => (if x310007.length < 1466015503701 then (procfs_BuddyInfo.l0 k x12 x13 (wrap64 (x14 + 1)) x310000 x310001 x310002 x310003 x310004 x310005 x310006 (x310007 ++ [(⟨bt312.1, bt312.2.1, bt312.2.2.1, bt312.2.2.2.1, bt312.2.2.2.2.1, bt312.2.2.2.2.2.1, bt312.2.2.2.2.2.2.1, bt312.2.2.2.2.2.2.2⟩ : S43)])) else (none))) else (none)) else (none)) else (some (x310000, x310001, x310002, x310003, x310004, x310005, x310006, x310007))
def procfs_BuddyInfo.f (k : Nat) (a0 : ByteArray) (l1 : List (S75)) : Option (ByteArray × Int × Bool × Int × Int × Nat × ByteArray × (List (S43))) := procfs_BuddyInfo.l0 k l1 (l1.length : Int) 0 a0 6 false 0 0 0 (⟨#[]⟩ : ByteArray) ([] : List (S43))
theorem procfs_BuddyInfo.mono_l : ∀ k, (∀ y0 y1 y2 y3 y4 y5 y6 y7 y8 y9 y10, LeO (procfs_BuddyInfo.l0 k y0 y1 y2 y3 y4 y5 y6 y7 y8 y9 y10) (procfs_BuddyInfo.l0 (k + 1) y0 y1 y2 y3 y4 y5 y6 y7 y8 y9 y10))
 | 0 => fun _ _ _ _ _ _ _ _ _ _ _ r h => by simp [procfs_BuddyInfo.l0] at h
 | k + 1 => by
  have ih0 := procfs_BuddyInfo.mono_l k
  ·intro y0 y1 y2 y3 y4 y5 y6 y7 y8 y9 y10
   unfold procfs_BuddyInfo.l0
   repeat' first
   | (with_reducible exact ih0 _ _ _ _ _ _ _ _ _ _ _)
   | (with_reducible exact impl_Buddyinfo_1_1.mono _ _ _ _)
   | (with_reducible exact LeO.refl _)
   | (with_reducible exact LeO.none _)
   | (with_reducible refine LeO.ite ?_ ?_)
   | (with_reducible refine LeO.bind ?_ (fun _ => ?_))
   | exact ih0 _ _ _ _ _ _ _ _ _ _ _
   | exact impl_Buddyinfo_1_1.mono _ _ _ _
   | exact LeO.none _
   | refine LeO.ite ?_ ?_
   | refine LeO.bind ?_ (fun _ => ?_)
theorem procfs_BuddyInfo.mono : ∀ a0 a1 k, LeO (procfs_BuddyInfo.f k a0 a1) (procfs_BuddyInfo.f (k + 1) a0 a1) := by
 intro a0 a1 k
 have ih0 := procfs_BuddyInfo.mono_l k
 unfold procfs_BuddyInfo.f
 repeat' first
   | (with_reducible exact ih0 _ _ _ _ _ _ _ _ _ _ _)
   | (with_reducible exact impl_Buddyinfo_1_1.mono _ _ _ _)
   | (with_reducible exact LeO.refl _)
   | (with_reducible exact LeO.none _)
   | (with_reducible refine LeO.ite ?_ ?_)
   | (with_reducible refine LeO.bind ?_ (fun _ => ?_))
   | exact ih0 _ _ _ _ _ _ _ _ _ _ _
   | exact impl_Buddyinfo_1_1.mono _ _ _ _
   | exact LeO.none _
   | refine LeO.ite ?_ ?_
   | refine LeO.bind ?_ (fun _ => ?_)
def procfs_BuddyInfo.T5 : Bool × List (List Nat × List Nat) := (true, [([], []), ([0], [0]), ([], []), ([], []), ([2, 3], [2, 3]), ([4], [4]), ([1, 5, 4], [1, 5]), ([0, 1, 2, 3, 4, 5, 6], []), ([7, 6, 6, 0, 1, 2, 3, 4, 5, 6], [6, 7])])
def procfs_BuddyInfo.B5 : List Nat := [0, 1, 0, 0, 12, 28, 63, 127, 255]
theorem procfs_BuddyInfo.tab5 : rtab .any (opsOf Tryz.f70 5) = procfs_BuddyInfo.T5 := by kernel_rfl
theorem procfs_BuddyInfo.bits5 : waitsOk procfs_BuddyInfo.T5.2 procfs_BuddyInfo.B5 = true := by kernel_rfl
set_option maxHeartbeats 8000000 in
set_option maxRecDepth 100000 in
theorem procfs_BuddyInfo.calls (k : Nat) (a0 : ByteArray) (A1 : Option Addr) (c1 : Nat) (l1 : List (S75)) (r1 : ByteArray) (r2 : Int) (r3 : Bool) (r4 : Int) (r5 : Int) (r6 : Nat) (r7 : ByteArray) (r8 : List (S43)) (w : World) (hr1 : Kd.C k75 w A1 l1.length l1) (hc1 : l1.length ≤ c1) (h : procfs_BuddyInfo.f k a0 l1 = some (r1, r2, r3, r4, r5, r6, r7, r8)) :
  Calls Tryz.prog 70 #[.string a0, .slice A1 l1.length c1, .func (.func 71) #[] #[]] w fun e w' => ∃ v7_ : Value, e = .returned (.agg #[.string r1, .int .i64 r2, .bool r3, .int .i64 r4, .int .u64 r5, .float .f64 r6, .string r7, v7_]) ∧ Kd.R k43 43 w' w.heap.size (fun _ => True) v7_ r8 ∧ Below w.heap.size w w' := by
 have hu43 := Tryz.underlying43
 have hu75 := Tryz.underlying75
 have HR1 := Aside0.mk hr1
 have HC1 := Aside0.mk hc1
 clear hr1 hc1
 have HB := Aside0.mk (Below.refl w.heap.size w)
 have H : (procfs_BuddyInfo.l0 k l1 (l1.length : Int) 0 a0 6 false 0 0 0 (⟨#[]⟩ : ByteArray) ([] : List (S43))) = some (r1, r2, r3, r4, r5, r6, r7, r8) := h
 clear h
 have H' := Aside0.mk H
 clear H
 go_enter Tryz.func70, Tryz.ntmps70
 go_wp2_with (first | ((with_reducible refine gate_dst (N := 6) rfl ?_); refine box_event ?hg (N := 6) ?hd (cs := #[.string (⟨#[]⟩ : ByteArray), .int .i64 0, .bool false, .int .i64 0, .int .u64 0, .float .f64 0, .string (⟨#[]⟩ : ByteArray), .slice none 0 0]) (t := 43) ?hr ?_; (case hd => rfl); (case hg => rfl); (case hr => first | (go_simp; done) | (go_simp; rfl)); intro gb308 hg w3 hbox hb; have n0_ := Aside0.mk (below_step (by repeat (first | (with_reducible first | exact HB.out | apply below_alloc | apply pw_below_drewN | apply below_drew1) | exact HB.out)) hb); have n1_ := Aside0.mk (hbox); have n2_ := Aside0.mk ((by rw [hg]; exact (below_size (by repeat (first | (with_reducible first | exact HB.out | apply below_alloc | apply pw_below_drewN | apply below_drew1) | exact HB.out))) : w.heap.size ≤ gb308)); have n3_ := Aside0.mk ((by rw [hg]; exact (below_size (by repeat (first | (with_reducible first | exact HB.out | apply below_alloc | apply pw_below_drewN | apply below_drew1) | exact HB.out))) : w.heap.size ≤ gb308)); clear HB; have HB := n0_; have BK308 := n1_; have GW308 := n2_; have GE308 := n3_; clear n0_ n1_ n2_ n3_; clear hb hbox hg) | ((with_reducible refine gate_dst (N := 7) rfl ?_); refine box_event ?hg (N := 7) ?hd (cs := #[.string (⟨#[]⟩ : ByteArray), .int .i64 0, .bool false, .int .i64 0, .int .u64 0, .float .f64 0, .string (⟨#[]⟩ : ByteArray), .slice none 0 0]) (t := 43) ?hr ?_; (case hd => rfl); (case hg => rfl); (case hr => first | (go_simp; done) | (go_simp; rfl)); intro gb309 hg w4 hbox hb; have n0_ := Aside0.mk (blk_below (g := gb308) (o := .cells #[.string (⟨#[]⟩ : ByteArray), .int .i64 0, .bool false, .int .i64 0, .int .u64 0, .float .f64 0, .string (⟨#[]⟩ : ByteArray), .slice none 0 0] 43 (0, 0)) (by (with_reducible repeat (first | refine blk_drewN ?_ _ | refine blk_drew ?_ | refine blk_alloc ?_ _)); exact BK308.out) hb); have n1_ := Aside0.mk (below_step (by repeat (first | (with_reducible first | exact HB.out | apply below_alloc | apply pw_below_drewN | apply below_drew1 | refine below_set ?_ GE308.out) | exact HB.out)) hb); have n2_ := Aside0.mk (hbox); have n3_ := Aside0.mk ((by rw [hg]; exact (below_size (by repeat (first | (with_reducible first | exact HB.out | apply below_alloc | apply pw_below_drewN | apply below_drew1 | refine below_set ?_ GE308.out) | exact HB.out))) : w.heap.size ≤ gb309)); have n4_ := Aside0.mk ((by rw [hg]; exact (below_size (by repeat (first | (with_reducible first | exact HB.out | apply below_alloc | apply pw_below_drewN | apply below_drew1 | refine below_set ?_ GE308.out) | exact HB.out))) : w.heap.size ≤ gb309)); have n5_ := Aside0.mk ((by rw [hg]; exact Nat.ne_of_lt (blk_lt (g := gb308) (o := .cells #[.string (⟨#[]⟩ : ByteArray), .int .i64 0, .bool false, .int .i64 0, .int .u64 0, .float .f64 0, .string (⟨#[]⟩ : ByteArray), .slice none 0 0] 43 (0, 0)) (by (with_reducible repeat (first | refine blk_drewN ?_ _ | refine blk_drew ?_ | refine blk_alloc ?_ _)); exact BK308.out)) : gb308 ≠ gb309)); have n6_ := Aside0.mk ((by rw [hg]; exact Nat.ne_of_gt (blk_lt (g := gb308) (o := .cells #[.string (⟨#[]⟩ : ByteArray), .int .i64 0, .bool false, .int .i64 0, .int .u64 0, .float .f64 0, .string (⟨#[]⟩ : ByteArray), .slice none 0 0] 43 (0, 0)) (by (with_reducible repeat (first | refine blk_drewN ?_ _ | refine blk_drew ?_ | refine blk_alloc ?_ _)); exact BK308.out)) : gb309 ≠ gb308)); clear BK308; clear HB; have BK308 := n0_; have HB := n1_; have BK309 := n2_; have GW309 := n3_; have GE309 := n4_; have NB308_309 := n5_; have NB309_308 := n6_; clear n0_ n1_ n2_ n3_ n4_ n5_ n6_; clear hb hbox hg; have hnb5 := NB309_308.out; have hnc5 := NB308_309.out; have hcz6_0 : w4.cell? ⟨gb309, 0, none⟩ = some (.string (⟨#[]⟩ : ByteArray)) := (blk_cell BK309.out 0).trans rfl; have hcz6_1 : w4.cell? ⟨gb309, 1, none⟩ = some (.int .i64 0) := (blk_cell BK309.out 1).trans rfl; have hcz6_2 : w4.cell? ⟨gb309, 2, none⟩ = some (.bool false) := (blk_cell BK309.out 2).trans rfl; have hcz6_3 : w4.cell? ⟨gb309, 3, none⟩ = some (.int .i64 0) := (blk_cell BK309.out 3).trans rfl; have hcz6_4 : w4.cell? ⟨gb309, 4, none⟩ = some (.int .u64 0) := (blk_cell BK309.out 4).trans rfl; have hcz6_5 : w4.cell? ⟨gb309, 5, none⟩ = some (.float .f64 0) := (blk_cell BK309.out 5).trans rfl; have hcz6_6 : w4.cell? ⟨gb309, 6, none⟩ = some (.string (⟨#[]⟩ : ByteArray)) := (blk_cell BK309.out 6).trans rfl; have hcz6_7 : w4.cell? ⟨gb309, 7, none⟩ = some (.slice none 0 0) := (blk_cell BK309.out 7).trans rfl; have hfz6_0 := blk_frozen BK309.out 0; have hfz6_1 := blk_frozen BK309.out 1; have hfz6_2 := blk_frozen BK309.out 2; have hfz6_3 := blk_frozen BK309.out 3; have hfz6_4 := blk_frozen BK309.out 4; have hfz6_5 := blk_frozen BK309.out 5; have hfz6_6 := blk_frozen BK309.out 6; have hfz6_7 := blk_frozen BK309.out 7))
 go_loopg [14] k (fun kq v14 w' => ∃ (x14_1 : Int) (x310007_1 : List (S43)) (u310007 : Value), v14 = .int .i64 x14_1 ∧ Aside0 (procfs_BuddyInfo.l0 kq l1 (l1.length : Int) x14_1 a0 6 false 0 0 0 (⟨#[]⟩ : ByteArray) x310007_1 = some (r1, r2, r3, r4, r5, r6, r7, r8)) ∧ Aside0 (kq ≤ k) ∧ Aside0 (Kd.R k43 43 w' w.heap.size (fun k_ => k_ ≠ gb308 ∧ k_ ≠ gb309) u310007 x310007_1) ∧ Aside0 (w'.heap[gb308]? = some (.cells #[.string (⟨#[]⟩ : ByteArray), .int .i64 0, .bool false, .int .i64 0, .int .u64 0, .float .f64 0, .string (⟨#[]⟩ : ByteArray), (.slice none 0 0)] 43 (0, 0))) ∧ Aside0 (w'.heap[gb309]? = some (.cells #[.string a0, .int .i64 6, .bool false, .int .i64 0, .int .u64 0, .float .f64 0, .string (⟨#[]⟩ : ByteArray), u310007] 43 (0, 0))) ∧ Aside0 (Below w.heap.size w w'))
 case atStart => exact ⟨(0), (([] : List (S43))), (.slice none 0 0), (by first | rfl | (simp; done) | (simp [*]; done)), H', ⟨Nat.le_refl _⟩, ⟨by first | exact Kd.R_nil _ _ _ _ _ | exact Kd.N_nil _ _ _ _ _ | exact Kd.V_nil _ _ _ _ _ | exact Kd.Q_nil _ _ _ _ _ | exact Kd.S_nil _ _ _ _ _⟩, ⟨by (with_reducible repeat (first | refine blk_drewN ?_ _ | refine blk_drew ?_ | refine blk_alloc ?_ _)); refine blk_far ?_ NB308_309.out _; (with_reducible repeat (first | refine blk_drewN ?_ _ | refine blk_drew ?_ | refine blk_alloc ?_ _)); refine blk_far ?_ NB308_309.out _; (with_reducible repeat (first | refine blk_drewN ?_ _ | refine blk_drew ?_ | refine blk_alloc ?_ _)); refine blk_far ?_ NB308_309.out _; (with_reducible repeat (first | refine blk_drewN ?_ _ | refine blk_drew ?_ | refine blk_alloc ?_ _)); refine blk_far ?_ NB308_309.out _; (with_reducible repeat (first | refine blk_drewN ?_ _ | refine blk_drew ?_ | refine blk_alloc ?_ _)); refine blk_far ?_ NB308_309.out _; (with_reducible repeat (first | refine blk_drewN ?_ _ | refine blk_drew ?_ | refine blk_alloc ?_ _)); refine blk_far ?_ NB308_309.out _; (with_reducible repeat (first | refine blk_drewN ?_ _ | refine blk_drew ?_ | refine blk_alloc ?_ _)); refine blk_far ?_ NB308_309.out _; (with_reducible repeat (first | refine blk_drewN ?_ _ | refine blk_drew ?_ | refine blk_alloc ?_ _)); refine blk_far ?_ NB308_309.out _; (with_reducible repeat (first | refine blk_drewN ?_ _ | refine blk_drew ?_ | refine blk_alloc ?_ _)); exact BK308.out⟩, ⟨by (with_reducible repeat (first | refine blk_drewN ?_ _ | refine blk_drew ?_ | refine blk_alloc ?_ _)); refine blk_put (cs := #[.string a0, .int .i64 6, .bool false, .int .i64 0, .int .u64 0, .float .f64 0, .string (⟨#[]⟩ : ByteArray), .slice none 0 0]) ?_ 7 _ rfl; (with_reducible repeat (first | refine blk_drewN ?_ _ | refine blk_drew ?_ | refine blk_alloc ?_ _)); refine blk_put (cs := #[.string a0, .int .i64 6, .bool false, .int .i64 0, .int .u64 0, .float .f64 0, .string (⟨#[]⟩ : ByteArray), .slice none 0 0]) ?_ 6 _ rfl; (with_reducible repeat (first | refine blk_drewN ?_ _ | refine blk_drew ?_ | refine blk_alloc ?_ _)); refine blk_put (cs := #[.string a0, .int .i64 6, .bool false, .int .i64 0, .int .u64 0, .float .f64 0, .string (⟨#[]⟩ : ByteArray), .slice none 0 0]) ?_ 5 _ rfl; (with_reducible repeat (first | refine blk_drewN ?_ _ | refine blk_drew ?_ | refine blk_alloc ?_ _)); refine blk_put (cs := #[.string a0, .int .i64 6, .bool false, .int .i64 0, .int .u64 0, .float .f64 0, .string (⟨#[]⟩ : ByteArray), .slice none 0 0]) ?_ 4 _ rfl; (with_reducible repeat (first | refine blk_drewN ?_ _ | refine blk_drew ?_ | refine blk_alloc ?_ _)); refine blk_put (cs := #[.string a0, .int .i64 6, .bool false, .int .i64 0, .int .u64 0, .float .f64 0, .string (⟨#[]⟩ : ByteArray), .slice none 0 0]) ?_ 3 _ rfl; (with_reducible repeat (first | refine blk_drewN ?_ _ | refine blk_drew ?_ | refine blk_alloc ?_ _)); refine blk_put (cs := #[.string a0, .int .i64 6, .bool false, .int .i64 0, .int .u64 0, .float .f64 0, .string (⟨#[]⟩ : ByteArray), .slice none 0 0]) ?_ 2 _ rfl; (with_reducible repeat (first | refine blk_drewN ?_ _ | refine blk_drew ?_ | refine blk_alloc ?_ _)); refine blk_put (cs := #[.string a0, .int .i64 0, .bool false, .int .i64 0, .int .u64 0, .float .f64 0, .string (⟨#[]⟩ : ByteArray), .slice none 0 0]) ?_ 1 _ rfl; (with_reducible repeat (first | refine blk_drewN ?_ _ | refine blk_drew ?_ | refine blk_alloc ?_ _)); refine blk_put (cs := #[.string (⟨#[]⟩ : ByteArray), .int .i64 0, .bool false, .int .i64 0, .int .u64 0, .float .f64 0, .string (⟨#[]⟩ : ByteArray), .slice none 0 0]) ?_ 0 _ rfl; (with_reducible repeat (first | refine blk_drewN ?_ _ | refine blk_drew ?_ | refine blk_alloc ?_ _)); exact BK309.out⟩, ⟨by repeat (first | (with_reducible first | exact HB.out | apply below_alloc | apply pw_below_drewN | apply below_drew1 | refine below_set ?_ GE308.out | refine below_set ?_ GE309.out) | exact HB.out)⟩⟩
 case round =>
  clear H'
  try clear c1
  try clear p2
  try clear c5
  try clear hcz6_0
  try clear hcz6_1
  try clear hcz6_2
  try clear hcz6_3
  try clear hcz6_4
  try clear hcz6_5
  try clear hcz6_6
  try clear hcz6_7
  try clear hfz6_0
  try clear hfz6_1
  try clear hfz6_2
  try clear hfz6_3
  try clear hfz6_4
  try clear hfz6_5
  try clear hfz6_6
  try clear hfz6_7
  obtain ⟨x14_1, x310007_1, u310007, rfl, HA, HK1, HO_310007, BK308, BK309, HB⟩ := hrel
  cases gk with
  | zero => exact absurd HA.out (by simp [procfs_BuddyInfo.l0])
  | succ k1 =>
   have H := HA.out
   clear HA
   simp only [procfs_BuddyInfo.l0] at H
   by_cases c7 : x14_1 < (l1.length : Int)
   ·rw [if_pos c7] at H
    have c7b0 : decide (x14_1 < (l1.length : Int)) = true := decide_eq_true c7
    clear c7
    replace H := guard_inv H
    obtain ⟨c8, H⟩ := H
    have c8b0 : decide (0 ≤ x14_1) = true := decide_eq_true c8
    clear c8
    replace H := guard_inv H
    obtain ⟨c9, H⟩ := H
    have c9b0 : decide (x14_1 < (l1.length : Int)) = true := decide_eq_true c9
    clear c9
    replace H := Option.bind_eq_some_iff.mp H
    obtain ⟨⟨t312, t313, t314, t315, t316, t317, t318, t319⟩, A100, H⟩ := H
    replace H : (if x310007_1.length < 1466015503701 then (procfs_BuddyInfo.l0 k1 l1 (l1.length : Int) (wrap64 (x14_1 + 1)) a0 6 false 0 0 0 (⟨#[]⟩ : ByteArray) (x310007_1 ++ [(⟨t312, t313, t314, t315, t316, t317, t318, t319⟩ : S43)])) else (none)) = some (r1, r2, r3, r4, r5, r6, r7, r8) := H
    have A10 := Aside0.mk A100
    clear A100
    replace H := guard_inv H
    obtain ⟨c11, H⟩ := H
    have LMc11 := Aside0.mk c11
    clear c11
    obtain ⟨y322, hy322⟩ : ∃ y_ : List (S43), y_ = (x310007_1 ++ [(⟨t312, t313, t314, t315, t316, t317, t318, t319⟩ : S43)]) := ⟨_, rfl⟩
    replace H : (procfs_BuddyInfo.l0 k1 l1 (l1.length : Int) (wrap64 (x14_1 + 1)) a0 6 false 0 0 0 (⟨#[]⟩ : ByteArray) y322) = some (r1, r2, r3, r4, r5, r6, r7, r8) := by first | (rw [hy322]; with_reducible exact H) | (have H2_ := (Option.bind_some _ _).symm.trans H; rw [hy322]; with_reducible exact H2_) | (have H2_ := (Option.bind_some _ _).symm.trans H; with_reducible exact H2_) | with_reducible exact H | (rw [hy322]; exact H) | exact H
    have Ny322 := Aside0.mk hy322
    clear hy322
    have H' := Aside0.mk H
    clear H
    have p310 : 0 ≤ (x14_1 : Int) := of_decide_eq_true (by first | (with_reducible assumption) | assumption)
    have q310 : x14_1 < (l1.length : Int) := of_decide_eq_true (by first | (with_reducible assumption) | assumption)
    obtain ⟨ad310, A310_2, c310_2, e310, hx310_0, hx310_1, hx310_2, hl310_2, hi310_2⟩ := at_T75 HR1.out x14_1 p310 q310
    cases e310
    replace hx310_0 := (HB.out.cell (World.block_lt_of_cell? w _ hx310_0)).trans hx310_0
    replace hx310_1 := (HB.out.cell (World.block_lt_of_cell? w _ hx310_1)).trans hx310_1
    replace hx310_2 := (HB.out.cell (World.block_lt_of_cell? w _ hx310_2)).trans hx310_2
    have HR310_2 := Aside0.mk hi310_2
    have HC310_2 := Aside0.mk hl310_2
    clear hi310_2 hl310_2
    replace p310 := eq_true p310
    replace q310 := eq_true q310
    try go_wp2_with (first | ((with_reducible refine gate_dst (N := 9) rfl ?_); refine box_event ?hg (N := 9) ?hd (cs := #[.string (⟨#[]⟩ : ByteArray), .string (⟨#[]⟩ : ByteArray), .slice none 0 0]) (t := 75) ?hr ?_; (case hd => rfl); (case hg => rfl); (case hr => first | (go_simp; done) | (go_simp; rfl)); intro gb311 hg w12 hbox hb; have n0_ := Aside0.mk (Kd.R_below (by (with_reducible repeat (first | apply Kd.R_alloc | apply Kd.R_drewN | apply Kd.R_drew)); exact HO_310007.out) hb); have n1_ := Aside0.mk (blk_below (g := gb308) (o := .cells #[.string (⟨#[]⟩ : ByteArray), .int .i64 0, .bool false, .int .i64 0, .int .u64 0, .float .f64 0, .string (⟨#[]⟩ : ByteArray), .slice none 0 0] 43 (0, 0)) (by (with_reducible repeat (first | refine blk_drewN ?_ _ | refine blk_drew ?_ | refine blk_alloc ?_ _)); exact BK308.out) hb); have n2_ := Aside0.mk (blk_below (g := gb309) (o := .cells #[.string a0, .int .i64 6, .bool false, .int .i64 0, .int .u64 0, .float .f64 0, .string (⟨#[]⟩ : ByteArray), u310007] 43 (0, 0)) (by (with_reducible repeat (first | refine blk_drewN ?_ _ | refine blk_drew ?_ | refine blk_alloc ?_ _)); exact BK309.out) hb); have n3_ := Aside0.mk (below_step (by repeat (first | (with_reducible first | exact HB.out | apply below_alloc | apply pw_below_drewN | apply below_drew1 | refine below_set ?_ GE308.out | refine below_set ?_ GE309.out) | exact HB.out)) hb); have n4_ := Aside0.mk (hbox); have n5_ := Aside0.mk ((by rw [hg]; exact (below_size (by repeat (first | (with_reducible first | exact HB.out | apply below_alloc | apply pw_below_drewN | apply below_drew1 | refine below_set ?_ GE308.out | refine below_set ?_ GE309.out) | exact HB.out))) : w.heap.size ≤ gb311)); have n6_ := Aside0.mk ((by rw [hg]; exact (below_size (by repeat (first | (with_reducible first | exact HB.out | apply below_alloc | apply pw_below_drewN | apply below_drew1 | refine below_set ?_ GE308.out | refine below_set ?_ GE309.out) | exact HB.out))) : w.heap.size ≤ gb311)); have n7_ := Aside0.mk ((by rw [hg]; exact Nat.ne_of_lt (blk_lt (g := gb308) (o := .cells #[.string (⟨#[]⟩ : ByteArray), .int .i64 0, .bool false, .int .i64 0, .int .u64 0, .float .f64 0, .string (⟨#[]⟩ : ByteArray), .slice none 0 0] 43 (0, 0)) (by (with_reducible repeat (first | refine blk_drewN ?_ _ | refine blk_drew ?_ | refine blk_alloc ?_ _)); exact BK308.out)) : gb308 ≠ gb311)); have n8_ := Aside0.mk ((by rw [hg]; exact Nat.ne_of_gt (blk_lt (g := gb308) (o := .cells #[.string (⟨#[]⟩ : ByteArray), .int .i64 0, .bool false, .int .i64 0, .int .u64 0, .float .f64 0, .string (⟨#[]⟩ : ByteArray), .slice none 0 0] 43 (0, 0)) (by (with_reducible repeat (first | refine blk_drewN ?_ _ | refine blk_drew ?_ | refine blk_alloc ?_ _)); exact BK308.out)) : gb311 ≠ gb308)); have n9_ := Aside0.mk ((by rw [hg]; exact Nat.ne_of_lt (blk_lt (g := gb309) (o := .cells #[.string a0, .int .i64 6, .bool false, .int .i64 0, .int .u64 0, .float .f64 0, .string (⟨#[]⟩ : ByteArray), u310007] 43 (0, 0)) (by (with_reducible repeat (first | refine blk_drewN ?_ _ | refine blk_drew ?_ | refine blk_alloc ?_ _)); exact BK309.out)) : gb309 ≠ gb311)); have n10_ := Aside0.mk ((by rw [hg]; exact Nat.ne_of_gt (blk_lt (g := gb309) (o := .cells #[.string a0, .int .i64 6, .bool false, .int .i64 0, .int .u64 0, .float .f64 0, .string (⟨#[]⟩ : ByteArray), u310007] 43 (0, 0)) (by (with_reducible repeat (first | refine blk_drewN ?_ _ | refine blk_drew ?_ | refine blk_alloc ?_ _)); exact BK309.out)) : gb311 ≠ gb309)); clear HO_310007; clear BK308; clear BK309; clear HB; have HO_310007 := n0_; have BK308 := n1_; have BK309 := n2_; have HB := n3_; have BK311 := n4_; have GW311 := n5_; have GE311 := n6_; have NB308_311 := n7_; have NB311_308 := n8_; have NB309_311 := n9_; have NB311_309 := n10_; clear n0_ n1_ n2_ n3_ n4_ n5_ n6_ n7_ n8_ n9_ n10_; clear hb hbox hg; have hnb13 := NB311_308.out; have hnc13 := NB308_311.out; have hnb14 := NB311_309.out; have hnc14 := NB309_311.out; have hcz15_0 : w12.cell? ⟨gb311, 0, none⟩ = some (.string (⟨#[]⟩ : ByteArray)) := (blk_cell BK311.out 0).trans rfl; have hcz15_1 : w12.cell? ⟨gb311, 1, none⟩ = some (.string (⟨#[]⟩ : ByteArray)) := (blk_cell BK311.out 1).trans rfl; have hcz15_2 : w12.cell? ⟨gb311, 2, none⟩ = some (.slice none 0 0) := (blk_cell BK311.out 2).trans rfl; have hfz15_0 := blk_frozen BK311.out 0; have hfz15_1 := blk_frozen BK311.out 1; have hfz15_2 := blk_frozen BK311.out 2))
    have n0_ : Aside0 (Kd.R k43 43 (((w12.setCell ⟨gb311, 0, none⟩ (.string ((rd_T75 l1 x14_1).f0))).setCell ⟨gb311, 1, none⟩ (.string ((rd_T75 l1 x14_1).f1))).setCell ⟨gb311, 2, none⟩ (.slice A310_2 ((rd_T75 l1 x14_1).f2).length c310_2)) w.heap.size (fun k_ => k_ ≠ gb308 ∧ k_ ≠ gb309) u310007 x310007_1) := ⟨by (with_reducible repeat (first | apply Kd.R_alloc | apply Kd.R_drewN | apply Kd.R_drew)); exact Kd.R_mono (Kd.R_far (p := ⟨gb311, 2, none⟩) (Kd.R_far (p := ⟨gb311, 1, none⟩) (Kd.R_far (p := ⟨gb311, 0, none⟩) (Kd.R_types HO_310007.out BK311.out (by decide)) (fun _ hk => hk.2) (.string ((rd_T75 l1 x14_1).f0))) (fun _ hk => hk.2) (.string ((rd_T75 l1 x14_1).f1))) (fun _ hk => hk.2) (.slice A310_2 ((rd_T75 l1 x14_1).f2).length c310_2)) (fun _ hk => ⟨hk.1.1, hk.1.2⟩)⟩
    have n1_ : Aside0 ((((w12.setCell ⟨gb311, 0, none⟩ (.string ((rd_T75 l1 x14_1).f0))).setCell ⟨gb311, 1, none⟩ (.string ((rd_T75 l1 x14_1).f1))).setCell ⟨gb311, 2, none⟩ (.slice A310_2 ((rd_T75 l1 x14_1).f2).length c310_2)).heap[gb308]? = some (.cells #[.string (⟨#[]⟩ : ByteArray), .int .i64 0, .bool false, .int .i64 0, .int .u64 0, .float .f64 0, .string (⟨#[]⟩ : ByteArray), .slice none 0 0] 43 (0, 0))) := ⟨by (with_reducible repeat (first | refine blk_drewN ?_ _ | refine blk_drew ?_ | refine blk_alloc ?_ _)); refine blk_far ?_ NB308_311.out _; (with_reducible repeat (first | refine blk_drewN ?_ _ | refine blk_drew ?_ | refine blk_alloc ?_ _)); refine blk_far ?_ NB308_311.out _; (with_reducible repeat (first | refine blk_drewN ?_ _ | refine blk_drew ?_ | refine blk_alloc ?_ _)); refine blk_far ?_ NB308_311.out _; (with_reducible repeat (first | refine blk_drewN ?_ _ | refine blk_drew ?_ | refine blk_alloc ?_ _)); exact BK308.out⟩
    have n2_ : Aside0 ((((w12.setCell ⟨gb311, 0, none⟩ (.string ((rd_T75 l1 x14_1).f0))).setCell ⟨gb311, 1, none⟩ (.string ((rd_T75 l1 x14_1).f1))).setCell ⟨gb311, 2, none⟩ (.slice A310_2 ((rd_T75 l1 x14_1).f2).length c310_2)).heap[gb309]? = some (.cells #[.string a0, .int .i64 6, .bool false, .int .i64 0, .int .u64 0, .float .f64 0, .string (⟨#[]⟩ : ByteArray), u310007] 43 (0, 0))) := ⟨by (with_reducible repeat (first | refine blk_drewN ?_ _ | refine blk_drew ?_ | refine blk_alloc ?_ _)); refine blk_far ?_ NB309_311.out _; (with_reducible repeat (first | refine blk_drewN ?_ _ | refine blk_drew ?_ | refine blk_alloc ?_ _)); refine blk_far ?_ NB309_311.out _; (with_reducible repeat (first | refine blk_drewN ?_ _ | refine blk_drew ?_ | refine blk_alloc ?_ _)); refine blk_far ?_ NB309_311.out _; (with_reducible repeat (first | refine blk_drewN ?_ _ | refine blk_drew ?_ | refine blk_alloc ?_ _)); exact BK309.out⟩
    have n3_ : Aside0 ((((w12.setCell ⟨gb311, 0, none⟩ (.string ((rd_T75 l1 x14_1).f0))).setCell ⟨gb311, 1, none⟩ (.string ((rd_T75 l1 x14_1).f1))).setCell ⟨gb311, 2, none⟩ (.slice A310_2 ((rd_T75 l1 x14_1).f2).length c310_2)).heap[gb311]? = some (.cells #[.string ((rd_T75 l1 x14_1).f0), .string ((rd_T75 l1 x14_1).f1), .slice A310_2 ((rd_T75 l1 x14_1).f2).length c310_2] 75 (0, 0))) := ⟨by (with_reducible repeat (first | refine blk_drewN ?_ _ | refine blk_drew ?_ | refine blk_alloc ?_ _)); refine blk_put (cs := #[.string ((rd_T75 l1 x14_1).f0), .string ((rd_T75 l1 x14_1).f1), .slice none 0 0]) ?_ 2 _ rfl; (with_reducible repeat (first | refine blk_drewN ?_ _ | refine blk_drew ?_ | refine blk_alloc ?_ _)); refine blk_put (cs := #[.string ((rd_T75 l1 x14_1).f0), .string (⟨#[]⟩ : ByteArray), .slice none 0 0]) ?_ 1 _ rfl; (with_reducible repeat (first | refine blk_drewN ?_ _ | refine blk_drew ?_ | refine blk_alloc ?_ _)); refine blk_put (cs := #[.string (⟨#[]⟩ : ByteArray), .string (⟨#[]⟩ : ByteArray), .slice none 0 0]) ?_ 0 _ rfl; (with_reducible repeat (first | refine blk_drewN ?_ _ | refine blk_drew ?_ | refine blk_alloc ?_ _)); exact BK311.out⟩
    have n4_ : Aside0 (Below w.heap.size w (((w12.setCell ⟨gb311, 0, none⟩ (.string ((rd_T75 l1 x14_1).f0))).setCell ⟨gb311, 1, none⟩ (.string ((rd_T75 l1 x14_1).f1))).setCell ⟨gb311, 2, none⟩ (.slice A310_2 ((rd_T75 l1 x14_1).f2).length c310_2))) := ⟨by repeat (first | (with_reducible first | exact HB.out | apply below_alloc | apply pw_below_drewN | apply below_drew1 | refine below_set ?_ GE308.out | refine below_set ?_ GE309.out | refine below_set ?_ GE311.out) | exact HB.out)⟩
    (try clear HO_310007)
    (try clear BK308)
    (try clear BK309)
    (try clear BK311)
    (try clear HB)
    generalize (((w12.setCell ⟨gb311, 0, none⟩ (.string ((rd_T75 l1 x14_1).f0))).setCell ⟨gb311, 1, none⟩ (.string ((rd_T75 l1 x14_1).f1))).setCell ⟨gb311, 2, none⟩ (.slice A310_2 ((rd_T75 l1 x14_1).f2).length c310_2)) = w16 at n0_ n1_ n2_ n3_ n4_ ⊢
    have HO_310007 := n0_
    have BK308 := n1_
    have BK309 := n2_
    have BK311 := n3_
    have HB := n4_
    clear n0_ n1_ n2_ n3_ n4_
    have n0_ := Aside0.mk (Kd.R_drew HO_310007.out)
    have n1_ := Aside0.mk (blk_drew BK308.out)
    have n2_ := Aside0.mk (blk_drew BK309.out)
    have n3_ := Aside0.mk (blk_drew BK311.out)
    have n4_ := Aside0.mk (below_drew1 HB.out)
    clear HO_310007
    clear BK308
    clear BK309
    clear BK311
    clear HB
    have HO_310007 := n0_
    have BK308 := n1_
    have BK309 := n2_
    have BK311 := n3_
    have HB := n4_
    clear n0_ n1_ n2_ n3_ n4_
    refine start_ (n := 9) (S := fun w' => w'.cell? ⟨gb309, 0, none⟩ = some (.string a0) ∧ w'.cell? ⟨gb309, 1, none⟩ = some (.int .i64 6) ∧ w'.cell? ⟨gb309, 2, none⟩ = some (.bool false) ∧ w'.cell? ⟨gb309, 3, none⟩ = some (.int .i64 0) ∧ w'.cell? ⟨gb309, 4, none⟩ = some (.int .u64 0) ∧ w'.cell? ⟨gb309, 5, none⟩ = some (.float .f64 0) ∧ w'.cell? ⟨gb309, 6, none⟩ = some (.string (⟨#[]⟩ : ByteArray)) ∧ w'.cell? ⟨gb309, 7, none⟩ = some (u310007) ∧ w'.cell? ⟨gb311, 0, none⟩ = some (.string ((rd_T75 l1 x14_1).f0)) ∧ w'.cell? ⟨gb311, 1, none⟩ = some (.string ((rd_T75 l1 x14_1).f1)) ∧ w'.cell? ⟨gb311, 2, none⟩ = some (.slice A310_2 ((rd_T75 l1 x14_1).f2).length c310_2)) (ds := [8]) (bb [0, 9]) (by kernel_rfl) rfl rfl ⟨(blk_cell BK309.out 0).trans rfl, (blk_cell BK309.out 1).trans rfl, (blk_cell BK309.out 2).trans rfl, (blk_cell BK309.out 3).trans rfl, (blk_cell BK309.out 4).trans rfl, (blk_cell BK309.out 5).trans rfl, (blk_cell BK309.out 6).trans rfl, (blk_cell BK309.out 7).trans rfl, (blk_cell BK311.out 0).trans rfl, (blk_cell BK311.out 1).trans rfl, (blk_cell BK311.out 2).trans rfl⟩ (fun hHeld => ?_); refine with_tabW procfs_BuddyInfo.tab5 procfs_BuddyInfo.bits5 (fun HT_ HW_ => ?_)
    generalize w16.drew = w17 at HO_310007 BK308 BK309 BK311 HB hHeld ⊢
    refine pure_ (i := 0) (N := some 18) (v := ?_) (a' := ?_) (bb [1, 8]) rfl rfl (any_of HT_.out (by kernel_rfl)) (fun _ _ _ h => h) (Or.inl ⟨by rfl, ?_⟩) ?_ ?_
    rotate_left
    ·intro w'
     go_simp
     with_reducible rfl
    rotate_left
    ·simp only [Act.put, List.setIfInBounds_toArray, List.set_cons_zero, List.set_cons_succ, i64_w, i32_w]
     rfl
    refine pure_ (i := 2) (N := some 20) (v := ?_) (a' := ?_) (bb [1, 1, 1, 6]) rfl rfl (any_of HT_.out (by kernel_rfl)) (fun _ _ _ h => h) (Or.inl ⟨by rfl, ?_⟩) ?_ ?_
    rotate_left
    ·intro w'
     go_simp
     with_reducible rfl
    rotate_left
    ·simp only [Act.put, List.setIfInBounds_toArray, List.set_cons_zero, List.set_cons_succ, i64_w, i32_w]
     rfl
    refine take_ (i := 1) (N := some 19) (v := ?_) (a' := ?_) (bb [3, 6]) rfl rfl (take_ofW HT_.out HW_.out (by kernel_rfl)) (fun _ _ _ h => h) (Or.inl ⟨by rfl, ?_⟩) hHeld ?_ ?_
    rotate_left
    ·rintro w' ⟨s0, s1, s2, s3, s4, s5, s6, s7, s8, s9, s10⟩
     go_simp
     with_reducible rfl
    rotate_left
    ·simp only [Act.put, List.setIfInBounds_toArray, List.set_cons_zero, List.set_cons_succ, i64_w, i32_w]
     rfl
    refine take_ (i := 3) (N := some 21) (v := ?_) (a' := ?_) (bb [4, 5]) rfl rfl (take_ofW HT_.out HW_.out (by kernel_rfl)) (fun _ _ _ h => h) (Or.inl ⟨by rfl, ?_⟩) hHeld ?_ ?_
    rotate_left
    ·rintro w' ⟨s0, s1, s2, s3, s4, s5, s6, s7, s8, s9, s10⟩
     go_simp
     with_reducible rfl
    rotate_left
    ·simp only [Act.put, List.setIfInBounds_toArray, List.set_cons_zero, List.set_cons_succ, i64_w, i32_w]
     rfl
    refine one_ (i := 4) (N := some 22) (bb [5, 4]) rfl rfl (one_of HT_.out (by kernel_rfl)) (by decide) (fun K hK => ?_)
    refine goesV_ Tryz.func71 (by kernel_rfl) rfl #[.agg #[.string ((rd_T75 l1 x14_1).f0), .string ((rd_T75 l1 x14_1).f1), .slice A310_2 ((rd_T75 l1 x14_1).f2).length c310_2]] (by rfl) rfl rfl (by rfl) (by (try simp only [List.map_toArray, List.map_cons, List.map_nil]); first | done | rfl | (simp only [List.length_drop, List.length_take]; rfl)) ?_
    with_reducible refine (impl_Buddyinfo_1_1.calls k1 ((rd_T75 l1 x14_1).f0) ((rd_T75 l1 x14_1).f1) _ _ ((rd_T75 l1 x14_1).f2) t312 t313 t314 t315 t316 t317 t318 t319 _ ?side1 ?side2 A10.out).mono ?_
    (case side1 => repeat (first | exact (Kd.C_below HR310_2.out HB.out) | (with_reducible refine Kd.C_alloc ?_ _) | (with_reducible refine Kd.C_drewN ?_ _) | (with_reducible refine Kd.C_drew ?_)))
    (case side2 => exact HC310_2.out)
    rintro e w18 ⟨v320, rfl, ho0, hb⟩
    refine ⟨_, rfl, ?_⟩
    have n0_ := Aside0.mk (Kd.R_elder' (by (with_reducible repeat (first | apply Kd.R_alloc | apply Kd.R_drewN | apply Kd.R_drew)); exact HO_310007.out) (by first | exact Kd.R_base ho0 | exact Kd.R_base ho0) hb)
    have n1_ := Aside0.mk (Kd.R_lower (Kd.R_newB (Kd.R_newB (Kd.R_new' ho0 (Kd.R_lt (by (with_reducible repeat (first | apply Kd.R_alloc | apply Kd.R_drewN | apply Kd.R_drew)); exact HO_310007.out))) (g := gb308) (o := .cells #[.string (⟨#[]⟩ : ByteArray), .int .i64 0, .bool false, .int .i64 0, .int .u64 0, .float .f64 0, .string (⟨#[]⟩ : ByteArray), .slice none 0 0] 43 (0, 0)) (by (with_reducible repeat (first | refine blk_drewN ?_ _ | refine blk_drew ?_ | refine blk_alloc ?_ _)); exact BK308.out)) (g := gb309) (o := .cells #[.string a0, .int .i64 6, .bool false, .int .i64 0, .int .u64 0, .float .f64 0, .string (⟨#[]⟩ : ByteArray), u310007] 43 (0, 0)) (by (with_reducible repeat (first | refine blk_drewN ?_ _ | refine blk_drew ?_ | refine blk_alloc ?_ _)); exact BK309.out)) (below_size (by repeat (first | (with_reducible first | exact HB.out | apply below_alloc | apply pw_below_drewN | apply below_drew1 | refine below_set ?_ GE308.out | refine below_set ?_ GE309.out | refine below_set ?_ GE311.out) | exact HB.out))))
    have n2_ := Aside0.mk (blk_below (g := gb308) (o := .cells #[.string (⟨#[]⟩ : ByteArray), .int .i64 0, .bool false, .int .i64 0, .int .u64 0, .float .f64 0, .string (⟨#[]⟩ : ByteArray), .slice none 0 0] 43 (0, 0)) (by (with_reducible repeat (first | refine blk_drewN ?_ _ | refine blk_drew ?_ | refine blk_alloc ?_ _)); exact BK308.out) hb)
    have n3_ := Aside0.mk (blk_below (g := gb309) (o := .cells #[.string a0, .int .i64 6, .bool false, .int .i64 0, .int .u64 0, .float .f64 0, .string (⟨#[]⟩ : ByteArray), u310007] 43 (0, 0)) (by (with_reducible repeat (first | refine blk_drewN ?_ _ | refine blk_drew ?_ | refine blk_alloc ?_ _)); exact BK309.out) hb)
    have n4_ := Aside0.mk (blk_below (g := gb311) (o := .cells #[.string ((rd_T75 l1 x14_1).f0), .string ((rd_T75 l1 x14_1).f1), .slice A310_2 ((rd_T75 l1 x14_1).f2).length c310_2] 75 (0, 0)) (by (with_reducible repeat (first | refine blk_drewN ?_ _ | refine blk_drew ?_ | refine blk_alloc ?_ _)); exact BK311.out) hb)
    have n5_ := Aside0.mk (below_step (by repeat (first | (with_reducible first | exact HB.out | apply below_alloc | apply pw_below_drewN | apply below_drew1 | refine below_set ?_ GE308.out | refine below_set ?_ GE309.out | refine below_set ?_ GE311.out) | exact HB.out)) hb)
    clear HO_310007
    clear BK308
    clear BK309
    clear BK311
    clear HB
    have HO_310007 := n0_
    have HO321 := n1_
    have BK308 := n2_
    have BK309 := n3_
    have BK311 := n4_
    have HB := n5_
    clear n0_ n1_ n2_ n3_ n4_ n5_
    (try clear hb)
    (try clear hb2)
    (try clear hk)
    (try clear hi)
    (try clear ho0)
    obtain ⟨Ao20, co20, eo20⟩ := Kd.R_slice HO321.out
    (first | subst eo20 | (injection eo20 with f1_ f2_ f3_; have f4_ := f1_.symm; have f5_ := f3_.symm; clear f1_ f2_ f3_; subst f4_; subst f5_))
    refine hK.out _ _ ⟨(blk_cell BK309.out 0).trans rfl, (blk_cell BK309.out 1).trans rfl, (blk_cell BK309.out 2).trans rfl, (blk_cell BK309.out 3).trans rfl, (blk_cell BK309.out 4).trans rfl, (blk_cell BK309.out 5).trans rfl, (blk_cell BK309.out 6).trans rfl, (blk_cell BK309.out 7).trans rfl, (blk_cell BK311.out 0).trans rfl, (blk_cell BK311.out 1).trans rfl, (blk_cell BK311.out 2).trans rfl⟩ (fun hHeld => ?_)
    clear hK K
    refine norm_ (a' := ?_) ?_ ?_
    rotate_left
    ·show Act.put _ (some 22) _ = _
     simp only [Act.put, List.setIfInBounds_toArray, List.set_cons_zero, List.set_cons_succ, i64_w, i32_w]
     rfl
    refine one_ (i := 5) (N := some 23) (bb [6, 3]) rfl rfl (one_of HT_.out (by kernel_rfl)) (by decide) (fun K hK => ?_)
    refine value_ (w1 := ?_) (v := ?_) (by rfl) rfl ?_ ?_
    rotate_left 2
    ·go_simp
     constructor
     ·rfl
     ·rfl
    refine hK.out _ _ ⟨(blk_cell (blk_alloc BK309.out _) 0).trans rfl, (blk_cell (blk_alloc BK309.out _) 1).trans rfl, (blk_cell (blk_alloc BK309.out _) 2).trans rfl, (blk_cell (blk_alloc BK309.out _) 3).trans rfl, (blk_cell (blk_alloc BK309.out _) 4).trans rfl, (blk_cell (blk_alloc BK309.out _) 5).trans rfl, (blk_cell (blk_alloc BK309.out _) 6).trans rfl, (blk_cell (blk_alloc BK309.out _) 7).trans rfl, (blk_cell (blk_alloc BK311.out _) 0).trans rfl, (blk_cell (blk_alloc BK311.out _) 1).trans rfl, (blk_cell (blk_alloc BK311.out _) 2).trans rfl⟩ (fun hHeld => ?_)
    clear hK K
    refine norm_ (a' := ?_) ?_ ?_
    rotate_left
    ·show Act.put _ (some 23) _ = _
     simp only [Act.put, List.setIfInBounds_toArray, List.set_cons_zero, List.set_cons_succ, i64_w, i32_w]
     rfl
    refine one_ (i := 6) (N := some 24) (bb [7, 2]) rfl rfl (one_of HT_.out (by kernel_rfl)) (by decide) (fun K hK => ?_)
    refine Kd.R_append_step k43 (w0 := w) w.heap.size (by rfl) (.tmp 19) (.tmp 23) 41 43 (.agg #[(.string ⟨#[]⟩), (.int .i64 0), (.bool false), (.int .i64 0), (.int .u64 0), (.float .f64 0), (.string ⟨#[]⟩), (.slice none 0 0)]) 96 rfl Tryz.underlying41 info43 rfl (by decide) (by omega) u310007 x310007_1 (⟨t312, t313, t314, t315, t316, t317, t318, t319⟩ : S43) [.string t312, .int .i64 t313, .bool t314, .int .i64 t315, .int .u64 t316, .float .f64 t317, .string t318, .slice Ao20 t319.length co20] (fun k_ => k_ ≠ gb308 ∧ k_ ≠ gb309) (fun k_ => ((fun k_ => k_ ≠ gb308 ∧ k_ ≠ gb309)) k_ ∧ some k_ ≠ (u310007 : Value).ownBlock) rfl rfl ?aP (fun _ hk => hk) ?aF ?aO ?aB ?aS ?aL ?_
    (case aP => exact k43_mkM _ _ _ (⟨t312, t313, t314, t315, t316, t317, t318, t319⟩ : S43) (Kd.R_mono (HO321.out) (fun k_ hk => ⟨⟨hk.1.2, hk.2⟩, hk.1.1.2⟩)))
    (case aB => exact (by repeat (first | (with_reducible first | exact HB.out | apply below_alloc | apply pw_below_drewN | apply below_drew1 | refine below_set ?_ GE308.out | refine below_set ?_ GE309.out | refine below_set ?_ GE311.out) | exact HB.out)))
    (case aF => exact (fun k_ hk => ⟨Kd.freshB (g := gb308) (o := .cells #[.string (⟨#[]⟩ : ByteArray), .int .i64 0, .bool false, .int .i64 0, .int .u64 0, .float .f64 0, .string (⟨#[]⟩ : ByteArray), .slice none 0 0] 43 (0, 0)) (by (with_reducible repeat (first | refine blk_drewN ?_ _ | refine blk_drew ?_ | refine blk_alloc ?_ _)); exact BK308.out) k_ hk, Kd.freshB (g := gb309) (o := .cells #[.string a0, .int .i64 6, .bool false, .int .i64 0, .int .u64 0, .float .f64 0, .string (⟨#[]⟩ : ByteArray), u310007] 43 (0, 0)) (by (with_reducible repeat (first | refine blk_drewN ?_ _ | refine blk_drew ?_ | refine blk_alloc ?_ _)); exact BK309.out) k_ hk⟩))
    (case aO => exact (by (with_reducible repeat (first | apply Kd.R_alloc | apply Kd.R_drewN | apply Kd.R_drew)); exact Kd.R_mono HO_310007.out (fun _ hk => ⟨hk.1.1, hk.1.2⟩)))
    (case aS => exact (below_size (by repeat (first | (with_reducible first | exact HB.out | apply below_alloc | apply pw_below_drewN | apply below_drew1 | refine below_set ?_ GE308.out | refine below_set ?_ GE309.out | refine below_set ?_ GE311.out) | exact HB.out))))
    (case aL => have := LMc11.out; omega)
    intro v323 w19 ho hb hg hat
    rw [← Ny322.out] at ho
    have n0_ := Aside0.mk (blk_grown (g := gb308) (o := .cells #[.string (⟨#[]⟩ : ByteArray), .int .i64 0, .bool false, .int .i64 0, .int .u64 0, .float .f64 0, .string (⟨#[]⟩ : ByteArray), .slice none 0 0] 43 (0, 0)) (by (with_reducible repeat (first | refine blk_drewN ?_ _ | refine blk_drew ?_ | refine blk_alloc ?_ _)); exact BK308.out) hg (Kd.R_away HO_310007.out (fun _ hk => hk.1.1)))
    have n1_ := Aside0.mk (blk_grown (g := gb309) (o := .cells #[.string a0, .int .i64 6, .bool false, .int .i64 0, .int .u64 0, .float .f64 0, .string (⟨#[]⟩ : ByteArray), u310007] 43 (0, 0)) (by (with_reducible repeat (first | refine blk_drewN ?_ _ | refine blk_drew ?_ | refine blk_alloc ?_ _)); exact BK309.out) hg (Kd.R_away HO_310007.out (fun _ hk => hk.1.2)))
    have n2_ := Aside0.mk (blk_grown (g := gb311) (o := .cells #[.string ((rd_T75 l1 x14_1).f0), .string ((rd_T75 l1 x14_1).f1), .slice A310_2 ((rd_T75 l1 x14_1).f2).length c310_2] 75 (0, 0)) (by (with_reducible repeat (first | refine blk_drewN ?_ _ | refine blk_drew ?_ | refine blk_alloc ?_ _)); exact BK311.out) hg (Kd.R_ne HO_310007.out BK311.out (by decide)))
    have n3_ := Aside0.mk (hb)
    have n4_ := Aside0.mk (ho)
    clear BK308
    clear BK309
    clear BK311
    clear HB
    clear HO_310007
    clear HO321
    have BK308 := n0_
    have BK309 := n1_
    have BK311 := n2_
    have HB := n3_
    have HO324 := n4_
    clear n0_ n1_ n2_ n3_ n4_
    clear ho hb hg hat
    obtain ⟨Ao21, co21, eo21⟩ := Kd.R_slice HO324.out
    (first | subst eo21 | (injection eo21 with f1_ f2_ f3_; have f4_ := f1_.symm; have f5_ := f3_.symm; clear f1_ f2_ f3_; subst f4_; subst f5_))
    refine hK.out _ _ ⟨(blk_cell BK309.out 0).trans rfl, (blk_cell BK309.out 1).trans rfl, (blk_cell BK309.out 2).trans rfl, (blk_cell BK309.out 3).trans rfl, (blk_cell BK309.out 4).trans rfl, (blk_cell BK309.out 5).trans rfl, (blk_cell BK309.out 6).trans rfl, (blk_cell BK309.out 7).trans rfl, (blk_cell BK311.out 0).trans rfl, (blk_cell BK311.out 1).trans rfl, (blk_cell BK311.out 2).trans rfl⟩ (fun hHeld => ?_)
    clear hK K
    refine norm_ (a' := ?_) ?_ ?_
    rotate_left
    ·show Act.put _ (some 24) _ = _
     simp only [Act.put, List.setIfInBounds_toArray, List.set_cons_zero, List.set_cons_succ, i64_w, i32_w]
     rfl
    refine pure_ (i := 7) (N := some 25) (v := ?_) (a' := ?_) (bb [8, 1]) rfl rfl (any_of HT_.out (by kernel_rfl)) (fun _ _ _ h => h) (Or.inl ⟨by rfl, ?_⟩) ?_ ?_
    rotate_left
    ·intro w'
     go_simp
     with_reducible rfl
    rotate_left
    ·simp only [Act.put, List.setIfInBounds_toArray, List.set_cons_zero, List.set_cons_succ, i64_w, i32_w]
     rfl
    refine last_ (i := 8) (N := none) (bb [9]) rfl rfl (one_of HT_.out (by kernel_rfl)) (by decide) (fun K hK => ?_)
    have hs22 : w19.cell? ⟨gb309, 7, none⟩ = some (u310007) := (blk_cell BK309.out 7).trans rfl
    have hfs22 := blk_frozen BK309.out 7
    have hns22_0 := NB308_309.out
    have hns22_2 := NB311_309.out
    have hms22_0 := NB309_308.out
    have hms22_2 := NB309_311.out
    refine skip_ (w1 := ?_) (by rfl) rfl ?_ ?_
    rotate_left
    ·go_simp
     rfl
    refine hK.out _ _ ?_
    clear hK K
    refine done_ (done_of HT_.out (by kernel_rfl)) ?_
    try go_wp2
    go_roundg k1
    case measure => have := HK1.out; omega
    case rel => exact ⟨(wrap64 (x14_1 + 1)), (y322), (.slice Ao21 y322.length co21), (by first | rfl | (simp; done) | (simp [*]; done)), H', ⟨by have := HK1.out; omega⟩, ⟨by (with_reducible repeat (first | apply Kd.R_alloc | apply Kd.R_drewN | apply Kd.R_drew)); exact Kd.R_mono (Kd.R_far (p := ⟨gb309, 7, none⟩) (Kd.R_mono HO324.out (fun k_ hk => (⟨hk, hk.2⟩ : _ ∧ k_ ≠ gb309))) (fun _ hk => hk.2) (.slice Ao21 y322.length co21)) (fun _ hk => ⟨hk.1.1, hk.1.2⟩)⟩, ⟨by (with_reducible repeat (first | refine blk_drewN ?_ _ | refine blk_drew ?_ | refine blk_alloc ?_ _)); refine blk_far ?_ NB308_309.out _; (with_reducible repeat (first | refine blk_drewN ?_ _ | refine blk_drew ?_ | refine blk_alloc ?_ _)); exact BK308.out⟩, ⟨by (with_reducible repeat (first | refine blk_drewN ?_ _ | refine blk_drew ?_ | refine blk_alloc ?_ _)); refine blk_put (cs := #[.string a0, .int .i64 6, .bool false, .int .i64 0, .int .u64 0, .float .f64 0, .string (⟨#[]⟩ : ByteArray), u310007]) ?_ 7 _ rfl; (with_reducible repeat (first | refine blk_drewN ?_ _ | refine blk_drew ?_ | refine blk_alloc ?_ _)); exact BK309.out⟩, ⟨by repeat (first | (with_reducible first | exact HB.out | apply below_alloc | apply pw_below_drewN | apply below_drew1 | refine below_set ?_ GE308.out | refine below_set ?_ GE309.out | refine below_set ?_ GE311.out) | exact HB.out)⟩⟩
   ·rw [if_neg c7] at H
    have c7b0 : decide (x14_1 < (l1.length : Int)) = false := decide_eq_false c7
    clear c7
    simp only [Option.some.injEq, Prod.mk.injEq] at H
    obtain ⟨rfl, rfl, rfl, rfl, rfl, rfl, rfl, rfl⟩ := H
    have hnb23 := NB309_308.out
    have hnc23 := NB308_309.out
    have hcz24_0 : wr.cell? ⟨gb309, 0, none⟩ = some (.string a0) := (blk_cell BK309.out 0).trans rfl
    have hcz24_1 : wr.cell? ⟨gb309, 1, none⟩ = some (.int .i64 6) := (blk_cell BK309.out 1).trans rfl
    have hcz24_2 : wr.cell? ⟨gb309, 2, none⟩ = some (.bool false) := (blk_cell BK309.out 2).trans rfl
    have hcz24_3 : wr.cell? ⟨gb309, 3, none⟩ = some (.int .i64 0) := (blk_cell BK309.out 3).trans rfl
    have hcz24_4 : wr.cell? ⟨gb309, 4, none⟩ = some (.int .u64 0) := (blk_cell BK309.out 4).trans rfl
    have hcz24_5 : wr.cell? ⟨gb309, 5, none⟩ = some (.float .f64 0) := (blk_cell BK309.out 5).trans rfl
    have hcz24_6 : wr.cell? ⟨gb309, 6, none⟩ = some (.string (⟨#[]⟩ : ByteArray)) := (blk_cell BK309.out 6).trans rfl
    have hcz24_7 : wr.cell? ⟨gb309, 7, none⟩ = some (u310007) := (blk_cell BK309.out 7).trans rfl
    have hfz24_0 := blk_frozen BK309.out 0
    have hfz24_1 := blk_frozen BK309.out 1
    have hfz24_2 := blk_frozen BK309.out 2
    have hfz24_3 := blk_frozen BK309.out 3
    have hfz24_4 := blk_frozen BK309.out 4
    have hfz24_5 := blk_frozen BK309.out 5
    have hfz24_6 := blk_frozen BK309.out 6
    have hfz24_7 := blk_frozen BK309.out 7
    have hcz25_0 : wr.cell? ⟨gb308, 0, none⟩ = some (.string (⟨#[]⟩ : ByteArray)) := (blk_cell BK308.out 0).trans rfl
    have hcz25_1 : wr.cell? ⟨gb308, 1, none⟩ = some (.int .i64 0) := (blk_cell BK308.out 1).trans rfl
    have hcz25_2 : wr.cell? ⟨gb308, 2, none⟩ = some (.bool false) := (blk_cell BK308.out 2).trans rfl
    have hcz25_3 : wr.cell? ⟨gb308, 3, none⟩ = some (.int .i64 0) := (blk_cell BK308.out 3).trans rfl
    have hcz25_4 : wr.cell? ⟨gb308, 4, none⟩ = some (.int .u64 0) := (blk_cell BK308.out 4).trans rfl
    have hcz25_5 : wr.cell? ⟨gb308, 5, none⟩ = some (.float .f64 0) := (blk_cell BK308.out 5).trans rfl
    have hcz25_6 : wr.cell? ⟨gb308, 6, none⟩ = some (.string (⟨#[]⟩ : ByteArray)) := (blk_cell BK308.out 6).trans rfl
    have hcz25_7 : wr.cell? ⟨gb308, 7, none⟩ = some (.slice none 0 0) := (blk_cell BK308.out 7).trans rfl
    have hfz25_0 := blk_frozen BK308.out 0
    have hfz25_1 := blk_frozen BK308.out 1
    have hfz25_2 := blk_frozen BK308.out 2
    have hfz25_3 := blk_frozen BK308.out 3
    have hfz25_4 := blk_frozen BK308.out 4
    have hfz25_5 := blk_frozen BK308.out 5
    have hfz25_6 := blk_frozen BK308.out 6
    have hfz25_7 := blk_frozen BK308.out 7
    obtain ⟨Ao26, co26, eo26⟩ := Kd.R_slice HO_310007.out
    subst eo26
    go_wp2
    refine bodyPost_ret (results_cell_row rfl _ _ gb308 43 #[.string a0, .int .i64 6, .bool false, .int .i64 0, .int .u64 0, .float .f64 0, .string (⟨#[]⟩ : ByteArray), .slice Ao26 x310007_1.length co26] (0, 0) _ rfl (by (with_reducible repeat (first | refine blk_drewN ?_ _ | refine blk_drew ?_ | refine blk_alloc ?_ _)); refine blk_put (cs := #[.string a0, .int .i64 6, .bool false, .int .i64 0, .int .u64 0, .float .f64 0, .string (⟨#[]⟩ : ByteArray), .slice none 0 0]) ?_ 7 _ rfl; (with_reducible repeat (first | refine blk_drewN ?_ _ | refine blk_drew ?_ | refine blk_alloc ?_ _)); refine blk_put (cs := #[.string a0, .int .i64 6, .bool false, .int .i64 0, .int .u64 0, .float .f64 0, .string (⟨#[]⟩ : ByteArray), .slice none 0 0]) ?_ 6 _ rfl; (with_reducible repeat (first | refine blk_drewN ?_ _ | refine blk_drew ?_ | refine blk_alloc ?_ _)); refine blk_put (cs := #[.string a0, .int .i64 6, .bool false, .int .i64 0, .int .u64 0, .float .f64 0, .string (⟨#[]⟩ : ByteArray), .slice none 0 0]) ?_ 5 _ rfl; (with_reducible repeat (first | refine blk_drewN ?_ _ | refine blk_drew ?_ | refine blk_alloc ?_ _)); refine blk_put (cs := #[.string a0, .int .i64 6, .bool false, .int .i64 0, .int .u64 0, .float .f64 0, .string (⟨#[]⟩ : ByteArray), .slice none 0 0]) ?_ 4 _ rfl; (with_reducible repeat (first | refine blk_drewN ?_ _ | refine blk_drew ?_ | refine blk_alloc ?_ _)); refine blk_put (cs := #[.string a0, .int .i64 6, .bool false, .int .i64 0, .int .u64 0, .float .f64 0, .string (⟨#[]⟩ : ByteArray), .slice none 0 0]) ?_ 3 _ rfl; (with_reducible repeat (first | refine blk_drewN ?_ _ | refine blk_drew ?_ | refine blk_alloc ?_ _)); refine blk_put (cs := #[.string a0, .int .i64 6, .bool false, .int .i64 0, .int .u64 0, .float .f64 0, .string (⟨#[]⟩ : ByteArray), .slice none 0 0]) ?_ 2 _ rfl; (with_reducible repeat (first | refine blk_drewN ?_ _ | refine blk_drew ?_ | refine blk_alloc ?_ _)); refine blk_put (cs := #[.string a0, .int .i64 0, .bool false, .int .i64 0, .int .u64 0, .float .f64 0, .string (⟨#[]⟩ : ByteArray), .slice none 0 0]) ?_ 1 _ rfl; (with_reducible repeat (first | refine blk_drewN ?_ _ | refine blk_drew ?_ | refine blk_alloc ?_ _)); refine blk_put (cs := #[.string (⟨#[]⟩ : ByteArray), .int .i64 0, .bool false, .int .i64 0, .int .u64 0, .float .f64 0, .string (⟨#[]⟩ : ByteArray), .slice none 0 0]) ?_ 0 _ rfl; (with_reducible repeat (first | refine blk_drewN ?_ _ | refine blk_drew ?_ | refine blk_alloc ?_ _)); exact BK308.out) Tryz.underlying43 rfl (by kernel_rfl)) rfl ?_
    exact ⟨_, by first | rfl | (simp [errW_none, errW_some] <;> rfl) | (simp [*, errW_none, errW_some] <;> rfl), by (with_reducible repeat (first | apply Kd.R_alloc | apply Kd.R_drewN | apply Kd.R_drew)); exact Kd.R_mono (Kd.R_far (p := ⟨gb308, 7, none⟩) (Kd.R_far (p := ⟨gb308, 6, none⟩) (Kd.R_far (p := ⟨gb308, 5, none⟩) (Kd.R_far (p := ⟨gb308, 4, none⟩) (Kd.R_far (p := ⟨gb308, 3, none⟩) (Kd.R_far (p := ⟨gb308, 2, none⟩) (Kd.R_far (p := ⟨gb308, 1, none⟩) (Kd.R_far (p := ⟨gb308, 0, none⟩) (Kd.R_mono HO_310007.out (fun k_ hk => (⟨hk, hk.1⟩ : _ ∧ k_ ≠ gb308))) (fun _ hk => hk.2) (.string a0)) (fun _ hk => hk.2) (.int .i64 6)) (fun _ hk => hk.2) (.bool false)) (fun _ hk => hk.2) (.int .i64 0)) (fun _ hk => hk.2) (.int .u64 0)) (fun _ hk => hk.2) (.float .f64 0)) (fun _ hk => hk.2) (.string (⟨#[]⟩ : ByteArray))) (fun _ hk => hk.2) (.slice Ao26 x310007_1.length co26)) (fun _ hk => trivial), by repeat (first | (with_reducible first | exact HB.out | apply below_alloc | apply pw_below_drewN | apply below_drew1 | refine below_set ?_ GE308.out | refine below_set ?_ GE309.out) | exact HB.out)⟩
/-! ### impl_Buddyinfo_1: function 69 -/
def impl_Buddyinfo_1.f (k : Nat) (l0 : List (S75)) : Option (ByteArray × Int × Bool × Int × Int × Nat × ByteArray × (List (S43))) := (procfs_BuddyInfo.f k (⟨#[]⟩ : ByteArray) l0).bind fun bt326 => (some (bt326.1, bt326.2.1, bt326.2.2.1, bt326.2.2.2.1, bt326.2.2.2.2.1, bt326.2.2.2.2.2.1, bt326.2.2.2.2.2.2.1, bt326.2.2.2.2.2.2.2))
theorem impl_Buddyinfo_1.mono : ∀ a0 k, LeO (impl_Buddyinfo_1.f k a0) (impl_Buddyinfo_1.f (k + 1) a0) := by
 intro a0 k
 unfold impl_Buddyinfo_1.f
 repeat' first
   | (with_reducible exact procfs_BuddyInfo.mono _ _ _)
   | (with_reducible exact LeO.refl _)
   | (with_reducible exact LeO.none _)
   | (with_reducible refine LeO.ite ?_ ?_)
   | (with_reducible refine LeO.bind ?_ (fun _ => ?_))
   | exact procfs_BuddyInfo.mono _ _ _
   | exact LeO.none _
   | refine LeO.ite ?_ ?_
   | refine LeO.bind ?_ (fun _ => ?_)
set_option maxHeartbeats 8000000 in
set_option maxRecDepth 100000 in
theorem impl_Buddyinfo_1.calls (k : Nat) (A0 : Option Addr) (c0 : Nat) (l0 : List (S75)) (r1 : ByteArray) (r2 : Int) (r3 : Bool) (r4 : Int) (r5 : Int) (r6 : Nat) (r7 : ByteArray) (r8 : List (S43)) (w : World) (hr0 : Kd.C k75 w A0 l0.length l0) (hc0 : l0.length ≤ c0) (h : impl_Buddyinfo_1.f k l0 = some (r1, r2, r3, r4, r5, r6, r7, r8)) :
  Calls Tryz.prog 69 #[.slice A0 l0.length c0] w fun e w' => ∃ v7_ : Value, e = .returned (.agg #[.string r1, .int .i64 r2, .bool r3, .int .i64 r4, .int .u64 r5, .float .f64 r6, .string r7, v7_]) ∧ Kd.R k43 43 w' w.heap.size (fun _ => True) v7_ r8 ∧ Below w.heap.size w w' := by
 have hu43 := Tryz.underlying43
 have HR0 := Aside0.mk hr0
 have HC0 := Aside0.mk hc0
 clear hr0 hc0
 have HB := Aside0.mk (Below.refl w.heap.size w)
 have H : ((procfs_BuddyInfo.f k (⟨#[]⟩ : ByteArray) l0).bind fun bt326 => (some (bt326.1, bt326.2.1, bt326.2.2.1, bt326.2.2.2.1, bt326.2.2.2.2.1, bt326.2.2.2.2.2.1, bt326.2.2.2.2.2.2.1, bt326.2.2.2.2.2.2.2))) = some (r1, r2, r3, r4, r5, r6, r7, r8) := h
 clear h
 replace H := Option.bind_eq_some_iff.mp H
 obtain ⟨⟨t326, t327, t328, t329, t330, t331, t332, t333⟩, A20, H⟩ := H
 replace H : (some (t326, t327, t328, t329, t330, t331, t332, t333)) = some (r1, r2, r3, r4, r5, r6, r7, r8) := H
 have A2 := Aside0.mk A20
 clear A20
 simp only [Option.some.injEq, Prod.mk.injEq] at H
 obtain ⟨rfl, rfl, rfl, rfl, rfl, rfl, rfl, rfl⟩ := H
 go_enter Tryz.func69, Tryz.ntmps69
 go_wp2_with (first | ((with_reducible refine gate_dst (N := 2) rfl ?_); refine box_event ?hg (N := 2) ?hd (cs := #[.string (⟨#[]⟩ : ByteArray), .int .i64 0, .bool false, .int .i64 0, .int .u64 0, .float .f64 0, .string (⟨#[]⟩ : ByteArray), .slice none 0 0]) (t := 43) ?hr ?_; (case hd => rfl); (case hg => rfl); (case hr => first | (go_simp; done) | (go_simp; rfl)); intro gb325 hg w3 hbox hb; have n0_ := Aside0.mk (below_step (by repeat (first | (with_reducible first | exact HB.out | apply below_alloc | apply pw_below_drewN | apply below_drew1) | exact HB.out)) hb); have n1_ := Aside0.mk (hbox); have n2_ := Aside0.mk ((by rw [hg]; exact (below_size (by repeat (first | (with_reducible first | exact HB.out | apply below_alloc | apply pw_below_drewN | apply below_drew1) | exact HB.out))) : w.heap.size ≤ gb325)); have n3_ := Aside0.mk ((by rw [hg]; exact (below_size (by repeat (first | (with_reducible first | exact HB.out | apply below_alloc | apply pw_below_drewN | apply below_drew1) | exact HB.out))) : w.heap.size ≤ gb325)); clear HB; have HB := n0_; have BK325 := n1_; have GW325 := n2_; have GE325 := n3_; clear n0_ n1_ n2_ n3_; clear hb hbox hg) | ((with_reducible refine gate_callee (f := 70) rfl ?_); refine goesL_ (some 4) rfl rfl Tryz.func70 (by kernel_rfl) rfl #[.string (⟨#[]⟩ : ByteArray), .slice A0 l0.length c0, .func (.func 71) #[] #[]] rfl (by (try simp only [List.map_toArray, List.map_cons, List.map_nil]); first | done | rfl | (simp only [List.length_drop, List.length_take]; rfl)) ?_; (with_reducible refine (procfs_BuddyInfo.calls k (⟨#[]⟩ : ByteArray) _ _ l0 t326 t327 t328 t329 t330 t331 t332 t333 _ ?side1 ?side2 A2.out).mono ?_); (case side1 => repeat (first | exact (Kd.C_below HR0.out HB.out) | (with_reducible refine Kd.C_alloc ?_ _) | (with_reducible refine Kd.C_drewN ?_ _) | (with_reducible refine Kd.C_drew ?_))); (case side2 => exact HC0.out); rintro e w4 ⟨v334, rfl, ho0, hb⟩; refine ⟨_, rfl, ?_⟩; have n0_ := Aside0.mk (Kd.R_lower (Kd.R_newB ho0 (g := gb325) (o := .cells #[.string (⟨#[]⟩ : ByteArray), .int .i64 0, .bool false, .int .i64 0, .int .u64 0, .float .f64 0, .string (⟨#[]⟩ : ByteArray), .slice none 0 0] 43 (0, 0)) (by (with_reducible repeat (first | refine blk_drewN ?_ _ | refine blk_drew ?_ | refine blk_alloc ?_ _)); exact BK325.out)) (below_size (by repeat (first | (with_reducible first | exact HB.out | apply below_alloc | apply pw_below_drewN | apply below_drew1 | refine below_set ?_ GE325.out) | exact HB.out)))); have n1_ := Aside0.mk (blk_below (g := gb325) (o := .cells #[.string (⟨#[]⟩ : ByteArray), .int .i64 0, .bool false, .int .i64 0, .int .u64 0, .float .f64 0, .string (⟨#[]⟩ : ByteArray), .slice none 0 0] 43 (0, 0)) (by (with_reducible repeat (first | refine blk_drewN ?_ _ | refine blk_drew ?_ | refine blk_alloc ?_ _)); exact BK325.out) hb); have n2_ := Aside0.mk (below_step (by repeat (first | (with_reducible first | exact HB.out | apply below_alloc | apply pw_below_drewN | apply below_drew1 | refine below_set ?_ GE325.out) | exact HB.out)) hb); clear BK325; clear HB; have HO335 := n0_; have BK325 := n1_; have HB := n2_; clear n0_ n1_ n2_; (try clear hb); (try clear hb2); (try clear hk); (try clear hi); (try clear ho0); have hcz5_0 : w4.cell? ⟨gb325, 0, none⟩ = some (.string (⟨#[]⟩ : ByteArray)) := (blk_cell BK325.out 0).trans rfl; have hcz5_1 : w4.cell? ⟨gb325, 1, none⟩ = some (.int .i64 0) := (blk_cell BK325.out 1).trans rfl; have hcz5_2 : w4.cell? ⟨gb325, 2, none⟩ = some (.bool false) := (blk_cell BK325.out 2).trans rfl; have hcz5_3 : w4.cell? ⟨gb325, 3, none⟩ = some (.int .i64 0) := (blk_cell BK325.out 3).trans rfl; have hcz5_4 : w4.cell? ⟨gb325, 4, none⟩ = some (.int .u64 0) := (blk_cell BK325.out 4).trans rfl; have hcz5_5 : w4.cell? ⟨gb325, 5, none⟩ = some (.float .f64 0) := (blk_cell BK325.out 5).trans rfl; have hcz5_6 : w4.cell? ⟨gb325, 6, none⟩ = some (.string (⟨#[]⟩ : ByteArray)) := (blk_cell BK325.out 6).trans rfl; have hcz5_7 : w4.cell? ⟨gb325, 7, none⟩ = some (.slice none 0 0) := (blk_cell BK325.out 7).trans rfl; have hfz5_0 := blk_frozen BK325.out 0; have hfz5_1 := blk_frozen BK325.out 1; have hfz5_2 := blk_frozen BK325.out 2; have hfz5_3 := blk_frozen BK325.out 3; have hfz5_4 := blk_frozen BK325.out 4; have hfz5_5 := blk_frozen BK325.out 5; have hfz5_6 := blk_frozen BK325.out 6; have hfz5_7 := blk_frozen BK325.out 7; obtain ⟨Ao6, co6, eo6⟩ := Kd.R_slice HO335.out; subst eo6))
 refine bodyPost_ret (results_cell_row rfl _ _ gb325 43 #[.string t326, .int .i64 t327, .bool t328, .int .i64 t329, .int .u64 t330, .float .f64 t331, .string t332, .slice Ao6 t333.length co6] (0, 0) _ rfl (by (with_reducible repeat (first | refine blk_drewN ?_ _ | refine blk_drew ?_ | refine blk_alloc ?_ _)); refine blk_put (cs := #[.string t326, .int .i64 t327, .bool t328, .int .i64 t329, .int .u64 t330, .float .f64 t331, .string t332, .slice none 0 0]) ?_ 7 _ rfl; (with_reducible repeat (first | refine blk_drewN ?_ _ | refine blk_drew ?_ | refine blk_alloc ?_ _)); refine blk_put (cs := #[.string t326, .int .i64 t327, .bool t328, .int .i64 t329, .int .u64 t330, .float .f64 t331, .string (⟨#[]⟩ : ByteArray), .slice none 0 0]) ?_ 6 _ rfl; (with_reducible repeat (first | refine blk_drewN ?_ _ | refine blk_drew ?_ | refine blk_alloc ?_ _)); refine blk_put (cs := #[.string t326, .int .i64 t327, .bool t328, .int .i64 t329, .int .u64 t330, .float .f64 0, .string (⟨#[]⟩ : ByteArray), .slice none 0 0]) ?_ 5 _ rfl; (with_reducible repeat (first | refine blk_drewN ?_ _ | refine blk_drew ?_ | refine blk_alloc ?_ _)); refine blk_put (cs := #[.string t326, .int .i64 t327, .bool t328, .int .i64 t329, .int .u64 0, .float .f64 0, .string (⟨#[]⟩ : ByteArray), .slice none 0 0]) ?_ 4 _ rfl; (with_reducible repeat (first | refine blk_drewN ?_ _ | refine blk_drew ?_ | refine blk_alloc ?_ _)); refine blk_put (cs := #[.string t326, .int .i64 t327, .bool t328, .int .i64 0, .int .u64 0, .float .f64 0, .string (⟨#[]⟩ : ByteArray), .slice none 0 0]) ?_ 3 _ rfl; (with_reducible repeat (first | refine blk_drewN ?_ _ | refine blk_drew ?_ | refine blk_alloc ?_ _)); refine blk_put (cs := #[.string t326, .int .i64 t327, .bool false, .int .i64 0, .int .u64 0, .float .f64 0, .string (⟨#[]⟩ : ByteArray), .slice none 0 0]) ?_ 2 _ rfl; (with_reducible repeat (first | refine blk_drewN ?_ _ | refine blk_drew ?_ | refine blk_alloc ?_ _)); refine blk_put (cs := #[.string t326, .int .i64 0, .bool false, .int .i64 0, .int .u64 0, .float .f64 0, .string (⟨#[]⟩ : ByteArray), .slice none 0 0]) ?_ 1 _ rfl; (with_reducible repeat (first | refine blk_drewN ?_ _ | refine blk_drew ?_ | refine blk_alloc ?_ _)); refine blk_put (cs := #[.string (⟨#[]⟩ : ByteArray), .int .i64 0, .bool false, .int .i64 0, .int .u64 0, .float .f64 0, .string (⟨#[]⟩ : ByteArray), .slice none 0 0]) ?_ 0 _ rfl; (with_reducible repeat (first | refine blk_drewN ?_ _ | refine blk_drew ?_ | refine blk_alloc ?_ _)); exact BK325.out) Tryz.underlying43 rfl (by kernel_rfl)) rfl ?_
 exact ⟨_, by first | rfl | (simp [errW_none, errW_some] <;> rfl) | (simp [*, errW_none, errW_some] <;> rfl), by (with_reducible repeat (first | apply Kd.R_alloc | apply Kd.R_drewN | apply Kd.R_drew)); exact Kd.R_mono (Kd.R_far (p := ⟨gb325, 7, none⟩) (Kd.R_far (p := ⟨gb325, 6, none⟩) (Kd.R_far (p := ⟨gb325, 5, none⟩) (Kd.R_far (p := ⟨gb325, 4, none⟩) (Kd.R_far (p := ⟨gb325, 3, none⟩) (Kd.R_far (p := ⟨gb325, 2, none⟩) (Kd.R_far (p := ⟨gb325, 1, none⟩) (Kd.R_far (p := ⟨gb325, 0, none⟩) (Kd.R_mono HO335.out (fun k_ hk => (⟨hk, hk.2⟩ : _ ∧ k_ ≠ gb325))) (fun _ hk => hk.2) (.string t326)) (fun _ hk => hk.2) (.int .i64 t327)) (fun _ hk => hk.2) (.bool t328)) (fun _ hk => hk.2) (.int .i64 t329)) (fun _ hk => hk.2) (.int .u64 t330)) (fun _ hk => hk.2) (.float .f64 t331)) (fun _ hk => hk.2) (.string t332)) (fun _ hk => hk.2) (.slice Ao6 t333.length co6)) (fun _ hk => trivial), by repeat (first | (with_reducible first | exact HB.out | apply below_alloc | apply pw_below_drewN | apply below_drew1 | refine below_set ?_ GE325.out) | exact HB.out)⟩
end Go.Proofs.YtednjmngalmdkaaGreatDoor.GPC
end
section
/- (FS).BuddyInfo: the text opened, parsed, closed at its end. Conditions: procfs_parseBuddyInfo.f; the tables as laid. -/
namespace Go.Proofs.YtednjmngalmdkaaGreatDoor.GPC
open Go.RowKit Go.Proofs.YtednjmngalmdkaaGreatDoorW.PrintWords Go.Proofs.YtednjmngalmdkaaGreatDoorW.PrintLast
set_option linter.unusedVariables false
set_option linter.unusedSimpArgs false
theorem closeText (s : ByteArray) (w : World) :
  CallsD Tryz.prog 144 #[.string s] .returning w fun e u' w' => u' = .returning ∧ e = .returned .nilIface ∧ w' = w := by
 refine callsD_of_wp Tryz.func144 rfl ?_
 simp only [Tryz.ntmps144]
 go_wp2
 go_ret
 exact ⟨rfl, rfl⟩
set_option maxHeartbeats 8000000 in
set_option maxRecDepth 100000 in
theorem fsBuddyInfo (k : Nat) (text : ByteArray) (r : List S75) (w : World) (hT : TabW w) (h : procfs_parseBuddyInfo.f k text = some (r, none)) :
  Calls Tryz.prog 68 #[.agg #[.string text]] w fun e w' => ∃ v, e = .returned (.tuple #[v, .nilIface]) ∧ Kd.S k75 75 w' w.heap.size (fun _ => True) v r ∧ Below w.heap.size w w' := by
 have HT := Aside0.mk hT
 have HL := Aside0.mk h
 have HW0 := Aside0.mk (show Below w.heap.size w ((w.alloc (Obj.cells #[Value.string text] 58 (0,0))).alloc (Obj.cells #[Value.string ⟨#[98, 117, 100, 100, 121, 105, 110, 102, 111]⟩] 9 (0,0))) from below_alloc (below_alloc (Below.refl _ _) _) _)
 clear hT h
 go_enter_defers Tryz.func68, Tryz.ntmps68
 go_wp2_with (first
   | (go_at_call 139; go_in)
   | (go_at_call 143; go_in)
   | (go_at_call 145; refine (procfs_parseBuddyInfo.calls k text r none _ (tabW_below HT.out HW0.out) HL.out).mono ?_; rintro e w2 ⟨v, rfl, hS, hb⟩; simp only [errW_none]; have HS := Aside0.mk hS; have HB2 := Aside0.mk (below_then HW0.out HW0.out.size hb); clear hS hb))
 refine leaves_cons (f := 144) (args := #[.string text]) (by simp) (by simp [go_sem]) ?_
 refine (closeText _ _).mono ?_
 rintro e u' w'' ⟨rfl, rfl, rfl⟩
 simp [Leaves, settle, results, Tryz.results68, go_sem]
 exact ⟨Kd.S_lower HS.out HW0.out.size, HB2.out⟩
end Go.Proofs.YtednjmngalmdkaaGreatDoor.GPC
end
section
/- impl.tree, impl.Buddyinfo: the door of this law. Conditions: the printed functions' answers; the tables as laid. -/
namespace Go.Proofs.YtednjmngalmdkaaGreatDoor.GPC
open Go.RowKit Go.Proofs.YtednjmngalmdkaaGreatDoorW.PrintWords Go.Proofs.YtednjmngalmdkaaGreatDoorW.PrintLast
set_option linter.unusedVariables false
set_option linter.unusedSimpArgs false
attribute [local go_sem] run_store_float
def nodeBuddyinfo (k : Nat) (r : List S75) : Option S43 := (impl_Buddyinfo_1.f k r).map fun r => ⟨r.1, r.2.1, r.2.2.1, r.2.2.2.1, r.2.2.2.2.1, r.2.2.2.2.2.1, r.2.2.2.2.2.2.1, r.2.2.2.2.2.2.2⟩
theorem litBuddyinfo (k : Nat) (A : Option Addr) (c : Nat) (r : List S75) (n : S43) (w : World) (hC : Kd.C k75 w A r.length r) (hc : r.length ≤ c) (h : nodeBuddyinfo k r = some n) :
  Calls Tryz.prog 69 #[.slice A r.length c] w fun e w' => ∃ v7, e = .returned (nodeVal n v7) ∧ KidsV n w w' v7 ∧ Below w.heap.size w w' := by
 unfold nodeBuddyinfo at h
 obtain ⟨⟨r1, r2, r3, r4, r5, r6, r7, r8⟩, hr, rfl⟩ := Option.map_eq_some_iff.1 h
 refine (impl_Buddyinfo_1.calls k A c r r1 r2 r3 r4 r5 r6 r7 r8 w hC hc hr).mono ?_
 rintro e w' ⟨v7, rfl, ho, hb⟩
 exact ⟨v7, rfl, ho, hb⟩
theorem idleBuddyinfo (p q : Addr) (w : World) :
  CallsD Tryz.prog 142 #[.pointer (some p), .pointer (some q)] .returning w fun e u' w' => e = .returned (.tuple #[]) ∧ u' = .returning ∧ w' = w := by
 refine callsD_of_wpS Tryz.func142 rfl fun c₀ cs hu => ?_
 apply wpS_seq
 apply wpS_region
 simp [wpOpsS, go_sem, recoverD, hu, Tryz.ntmps142, Exit.thenS]
 refine wpS_cond (t := false) (by simp [Act.eval, Array.replicate]) ?_
 simp only [Bool.false_eq_true, if_false]
 refine wpS_of_wp (wp_skip ?_)
 cases c₀
 simp_all [bodyPostS, results, Tryz.results142]
set_option maxHeartbeats 8000000 in
set_option maxRecDepth 100000 in
theorem treeBuddyinfo (k : Nat) (text : ByteArray) (r : List S75) (n : S43) (w : World) (hT : TabW w) (h : procfs_parseBuddyInfo.f k text = some (r, none)) (hn : nodeBuddyinfo k r = some n) :
  Calls Tryz.prog 67 #[.func (.func 68) #[.agg #[.string text]] #[], .func (.func 69) #[] #[]] w fun e w' => ∃ v7, e = .returned (.tuple #[nodeVal n v7, .int .i64 0]) ∧ KidsV n w w' v7 ∧ Below w.heap.size w w' := by
 have hmf : ∀ (fn : Fn) (first cap : Array Value) (w : World), (Instr.makeFunc fn first cap).run Tryz.prog w = .ok (.func fn first cap) w := fun _ _ _ _ => rfl
 have HT := Aside0.mk hT
 have HL := Aside0.mk h
 have HN := Aside0.mk hn
 clear hT h hn
 go_enter_defers Tryz.func67, Tryz.ntmps67
 go_wp2_with (first
   | ((with_reducible refine gate_dst (N := 4) rfl ?_); refine box_event ?hg (N := 4) ?hd (cs := nodeZero) (t := 43) ?hr ?_; (case hd => rfl); (case hg => rfl); (case hr => first | (go_simp; done) | (go_simp; rfl)); intro gb hgb w1 hbox hb1; have HBX := Aside0.mk hbox; have HB1 := Aside0.mk hb1; have HGB := Aside0.mk hgb; clear hgb hbox hb1)
   | ((with_reducible refine gate_dst (N := 5) rfl ?_); refine box_event ?hg (N := 5) ?hd (cs := #[.int .i64 0]) (t := 3) ?hr ?_; (case hd => rfl); (case hg => rfl); (case hr => first | (go_simp; done) | (go_simp; rfl)); intro gc hgc w2 hboxc hb2; have HBC := Aside0.mk hboxc; have HBX2 := Aside0.mk (blk_below HBX.out hb2); have HB2 := Aside0.mk (below_then HB1.out HB1.out.size hb2); have HGC := Aside0.mk hgc; have HCG := Aside0.mk (show gb < gc by rw [hgc]; exact blk_lt HBX.out); have HWC := Aside0.mk (show w.heap.size ≤ gc by rw [hgc]; exact HB1.out.size); clear hgc hboxc hb2)
   | (go_at_call 68; refine (fsBuddyInfo k text r _ (tabW_below HT.out HB2.out) HL.out).mono ?_; rintro e w3 ⟨vr, rfl, hg2, hb3⟩; obtain ⟨Ar, cr, rfl, hlr, hCr⟩ := Kd.S_reads hg2; have HG := Aside0.mk hCr; have HGL := Aside0.mk hlr; have HBX3 := Aside0.mk (blk_below HBX2.out hb3); have HBC3 := Aside0.mk (blk_below HBC.out hb3); have HB3 := Aside0.mk (below_then HB2.out HB2.out.size hb3); clear hg2 hb3 hlr hCr)
   | (go_at_call 69; refine (litBuddyinfo k Ar cr r n _ HG.out HGL.out HN.out).mono ?_; rintro e w4 ⟨v7, rfl, ho, hb4⟩; have HK := Aside0.mk ho; have HBX4 := Aside0.mk (blk_below HBX3.out hb4); have HBC4 := Aside0.mk (blk_below HBC3.out hb4); have HB4 := Aside0.mk (below_then HB3.out HB3.out.size hb4); have HLC := Aside0.mk (show gc < w3.heap.size from blk_lt HBC3.out); clear ho hb4)
   | ((with_reducible refine gate_ (.store 43 (.tmp 4) (.tmp 19)) rfl ?_); refine box_store rfl rfl 43 (.tmp 4) (.tmp 19) rfl gb 43 nodeZero (nodeVal n v7) (nodeCells n v7) rfl rfl rfl node_size (node_one HK.out.slice) HBX4.out rfl ?_; intro W5 hbk hgr; have HBK5 := Aside0.mk hbk; have HK5 := Aside0.mk (HK.out.grown hgr (Nat.lt_trans HCG.out HLC.out)); have HBC5 := Aside0.mk (blk_grown HBC4.out hgr (by have := HCG.out; intro e; injection e with e; omega)); have HB5 := Aside0.mk (pw_below_grown HB4.out (some gb) HB4.out.size hgr (fun k e => by cases e; rw [HGB.out]; exact Nat.le_refl _)); have hfc := blk_frozen HBC5.out 0; have hcc : W5.cell? ⟨gc, 0, none⟩ = some (.int .i64 0) := (blk_cell HBC5.out 0).trans rfl; clear hbk hgr))
 have hbk6 := blk_far HBK5.out (p := ⟨gc, 0, none⟩) (by have := HCG.out; show gb ≠ gc; omega) (.int .i64 0)
 have hbc6 := blk_put HBC5.out 0 (.int .i64 0) rfl
 have HB6 := below_set HB5.out HWC.out (j := 0) (v := .int .i64 0)
 have HK6 := (HK5.out.grown (grown_set W5 gc 0 (.int .i64 0)) HLC.out).lower HB3.out.size
 generalize W5.setCell ⟨gc, 0, none⟩ (.int .i64 0) = W6 at hbk6 hbc6 HB6 HK6 ⊢
 have cc : W6.cell? ⟨gc, 0, none⟩ = some (.int .i64 0) := (blk_cell hbc6 0).trans rfl
 have cb0 : W6.cell? ⟨gb, 0, none⟩ = some (.string n.f0) := (blk_cell hbk6 0).trans rfl
 have cb1 : W6.cell? ⟨gb, 1, none⟩ = some (.int .i64 n.f1) := (blk_cell hbk6 1).trans rfl
 have cb2 : W6.cell? ⟨gb, 2, none⟩ = some (.bool n.f2) := (blk_cell hbk6 2).trans rfl
 have cb3 : W6.cell? ⟨gb, 3, none⟩ = some (.int .i64 n.f3) := (blk_cell hbk6 3).trans rfl
 have cb4 : W6.cell? ⟨gb, 4, none⟩ = some (.int .u64 n.f4) := (blk_cell hbk6 4).trans rfl
 have cb5 : W6.cell? ⟨gb, 5, none⟩ = some (.float .f64 n.f5) := (blk_cell hbk6 5).trans rfl
 have cb6 : W6.cell? ⟨gb, 6, none⟩ = some (.string n.f6) := (blk_cell hbk6 6).trans rfl
 have cb7 : W6.cell? ⟨gb, 7, none⟩ = some (v7) := (blk_cell hbk6 7).trans rfl
 refine leaves_cons (f := 142) (args := #[.pointer (some ⟨gb, 0, none⟩), .pointer (some ⟨gc, 0, none⟩)]) (by simp) (by simp [go_sem]) ?_
 refine (idleBuddyinfo _ _ _).mono ?_
 rintro e u' w'' ⟨rfl, rfl, rfl⟩
 simp [Leaves, settle, results, Tryz.results67, go_sem, cb0, cb1, cb2, cb3, cb4, cb5, cb6, cb7, cc]
 exact ⟨v7, rfl, HK6, HB6⟩
set_option maxHeartbeats 8000000 in
set_option maxRecDepth 100000 in
theorem implBuddyinfo (k : Nat) (text : ByteArray) (r : List S75) (n : S43) (w : World) (hT : TabW w) (h : procfs_parseBuddyInfo.f k text = some (r, none)) (hn : nodeBuddyinfo k r = some n) :
  Calls Tryz.prog 20 #[.string text] w fun e w' => ∃ v7, e = .returned (.tuple #[nodeVal n v7, .int .i64 0]) ∧ KidsV n w w' v7 ∧ Below w.heap.size w w' := by
 have hmf : ∀ (fn : Fn) (first cap : Array Value) (w : World), (Instr.makeFunc fn first cap).run Tryz.prog w = .ok (.func fn first cap) w := fun _ _ _ _ => rfl
 have HT := Aside0.mk hT
 have HL := Aside0.mk h
 have HN := Aside0.mk hn
 clear hT h hn
 go_enter Tryz.func20, Tryz.ntmps20
 go_wp2_with (first
   | ((with_reducible refine gate_dst (N := 2) rfl ?_); refine box_event ?hg (N := 2) ?hd (cs := nodeZero) (t := 43) ?hr ?_; (case hd => rfl); (case hg => rfl); (case hr => first | (go_simp; done) | (go_simp; rfl)); intro gb hgb w1 hbox hb1; have HBX := Aside0.mk hbox; have HB1 := Aside0.mk hb1; have HGB := Aside0.mk hgb; clear hgb hbox hb1)
   | (go_at_call 57; refine (procfs_TextFS.calls text text _ rfl).mono ?_; rintro e w2 ⟨rfl, hb2⟩; have HBX2 := Aside0.mk (blk_below HBX.out hb2); have HB2 := Aside0.mk (below_then HB1.out HB1.out.size hb2); clear hb2)
   | (go_at_call 67; refine (treeBuddyinfo k text r n _ (tabW_below HT.out HB2.out) HL.out HN.out).mono ?_; rintro e w3 ⟨v7, rfl, ho, hb3⟩; have HK := Aside0.mk ho; have HBX3 := Aside0.mk (blk_below HBX2.out hb3); have HB3 := Aside0.mk (below_then HB2.out HB2.out.size hb3); have HLT := Aside0.mk (show gb < w2.heap.size from blk_lt HBX2.out); clear ho hb3)
   | ((with_reducible refine gate_ (.store 43 (.tmp 2) (.tmp 8)) rfl ?_); refine box_store rfl rfl 43 (.tmp 2) (.tmp 8) rfl gb 43 nodeZero (nodeVal n v7) (nodeCells n v7) rfl rfl rfl node_size (node_one HK.out.slice) HBX3.out rfl ?_; intro W' hbk hgr))
 refine bodyPost_ret (results_cell_tmp rfl _ _ gb 43 _ (0, 0) _ rfl hbk Tryz.underlying43 rfl node_size) rfl ?_
 refine ⟨v7, rfl, (HK.out.grown hgr HLT.out).lower HB2.out.size, pw_below_grown HB3.out (some gb) HB3.out.size hgr (fun k e => by cases e; rw [HGB.out]; exact Nat.le_refl _)⟩
def doorBuddyinfo (s : ByteArray) (n : S43) : Prop := ∃ k r, procfs_parseBuddyInfo.f k s = some (r, none) ∧ nodeBuddyinfo k r = some n
theorem doorBuddyinfo_calls (text : ByteArray) (n : S43) (w : World) (hT : TabW w) (h : doorBuddyinfo text n) :
  Calls Tryz.prog 20 #[.string text] w fun e w' => ∃ v7, e = .returned (.tuple #[nodeVal n v7, .int .i64 0]) ∧ KidsV n w w' v7 ∧ Below w.heap.size w w' := by
 obtain ⟨k, r, h1, h2⟩ := h
 exact implBuddyinfo k text r n w hT h1 h2
end Go.Proofs.YtednjmngalmdkaaGreatDoor.GPC
end
section
/- laws.back at Buddyinfo: it answers true where BackOk holds. Conditions: BackOk; the tables as laid. -/
namespace Go.Proofs.YtednjmngalmdkaaGreatDoor.GPC
open Go.RowKit Go.Proofs.YtednjmngalmdkaaGreatDoorW.PrintWords Go.Proofs.YtednjmngalmdkaaGreatDoorW.PrintLast
set_option linter.unusedVariables false
set_option linter.unusedSimpArgs false
attribute [local go_sem] run_store_float
set_option maxHeartbeats 16000000 in
set_option maxRecDepth 100000 in
theorem backBuddyinfo (A0 : Option Addr) (c0 : Nat) (l0 : List S31) (w : World) (hr0 : Kd.C k31 w A0 l0.length l0) (hc0 : l0.length ≤ c0) (hT : TabW w) (h : BackOk (fun k => spec_BuddyinfoPrint.f k l0) (fun k => spec_BuddyinfoTree.f k l0) (fun s n => doorBuddyinfo s n) l0) :
  Calls Tryz.prog 14 #[.slice A0 l0.length c0, .func (.func 18) #[] #[], .func (.func 19) #[] #[], .func (.func 20) #[] #[]] w fun e w' => e = .returned (.bool true) ∧ Below w.heap.size w w' := by
 have HR := Aside0.mk hr0
 have HT := Aside0.mk hT
 have HC := Aside0.mk hc0
 clear hr0 hT hc0
 cases h with
 | long h1 =>
  have d1 : decide ((l0.length : Int) > 1000) = true := decide_eq_true (by omega)
  have d1' : decide (1000 < l0.length) = true := decide_eq_true (by omega)
  go_enter Tryz.func14, Tryz.ntmps14
  go_wp2
  go_ret
  exact ⟨rfl, Below.refl _ _⟩
 | noPrint h1 k text told hp hno =>
  have d1 : decide ((l0.length : Int) > 1000) = false := decide_eq_false (by omega)
  have d1' : decide (1000 < l0.length) = false := decide_eq_false (by omega)
  have HP := Aside0.mk hp
  clear hp h1
  go_enter Tryz.func14, Tryz.ntmps14
  have hd : (told != 1) = true ∨ (told != 1) = false ∧ decide ((text.size : Int) > 40000) = true := by
   rcases hno with hh | hh
   ·exact .inl (by simpa using hh)
   ·by_cases he : told = 1
    ·exact .inr ⟨by simp [he], decide_eq_true (by omega)⟩
    ·exact .inl (by simpa using he)
  rcases hd with q1 | ⟨q1, q2⟩
  all_goals (go_wp2_with (first
   | (go_at_call 18; refine (spec_BuddyinfoPrint.calls k A0 c0 l0 text told _ HR.out HC.out HP.out).mono ?_; rintro e w1 ⟨rfl, hb⟩; have HB1 := Aside0.mk hb; clear hb)
   | (go_at_call 46; refine (lives_calls _ (tabW_below HT.out HB1.out)).mono ?_; rintro e w2 ⟨rfl, hb⟩; have HB2 := Aside0.mk (below_then HB1.out HB1.out.size hb); clear hb)))
  all_goals go_ret
  all_goals exact ⟨rfl, HB2.out⟩
 | noTree h1 k text hp hsz r tt ht hno =>
  have d1 : decide ((l0.length : Int) > 1000) = false := decide_eq_false (by omega)
  have d1' : decide (1000 < l0.length) = false := decide_eq_false (by omega)
  have q2 : decide ((text.size : Int) > 40000) = false := decide_eq_false (by omega)
  have q2' : decide (40000 < text.size) = false := decide_eq_false (by omega)
  have q3 : (tt != 1) = true := by simpa using hno
  have HP := Aside0.mk hp
  have HTR := Aside0.mk ht
  clear hp ht h1 hno hsz
  obtain ⟨r1, r2, r3, r4, r5, r6, r7, r8⟩ := r
  go_enter Tryz.func14, Tryz.ntmps14
  go_wp2_with (first
   | (go_at_call 18; refine (spec_BuddyinfoPrint.calls k A0 c0 l0 text 1 _ HR.out HC.out HP.out).mono ?_; rintro e w1 ⟨rfl, hb⟩; have HB1 := Aside0.mk hb; clear hb)
   | (go_at_call 19; refine (spec_BuddyinfoTree.calls k A0 c0 l0 r1 r2 r3 r4 r5 r6 r7 r8 tt _ (Kd.C_below HR.out HB1.out) HC.out HTR.out).mono ?_; rintro e w2 ⟨v7, rfl, hv, hb⟩; have HB2 := Aside0.mk (below_then HB1.out HB1.out.size hb); clear hb)
   | ((with_reducible refine gate_dst (N := 11) rfl ?_); refine box_event ?hg (N := 11) ?hd (cs := nodeZero) (t := 39) ?hr ?_; (case hd => rfl); (case hg => rfl); (case hr => first | (go_simp; done) | (go_simp; rfl)); intro gb hgb w3 hbox hb; have HBX := Aside0.mk hbox; have HB3 := Aside0.mk (below_then HB2.out HB2.out.size hb); have HGB := Aside0.mk (show w.heap.size ≤ gb by rw [hgb]; exact HB2.out.size); clear hgb hbox hb)
   | ((with_reducible refine gate_ (.store 39 (.tmp 11) (.tmp 35)) rfl ?_); refine box_store rfl rfl 39 (.tmp 11) (.tmp 35) rfl gb 39 nodeZero (snodeVal ⟨r1, r2, r3, r4, r5, r6, r7, r8⟩ v7) (snodeCells ⟨r1, r2, r3, r4, r5, r6, r7, r8⟩ v7) rfl rfl rfl snode_size (snode_one (Kd.V_sl hv)) HBX.out rfl ?_; intro w4 hbk hgr; have HB4 := Aside0.mk (pw_below_grown HB3.out (some gb) HB3.out.size hgr (fun k e => by cases e; exact HGB.out)); clear hbk hgr)
   | (go_at_call 46; refine (lives_calls _ (tabW_below HT.out HB4.out)).mono ?_; rintro e w5 ⟨rfl, hb⟩; have HB5 := Aside0.mk (below_then HB4.out HB4.out.size hb); clear hb))
  go_ret
  exact ⟨rfl, HB5.out⟩
 | same h1 k text hp hsz r ht n hd k2 m hm hs =>
  have d1 : decide ((l0.length : Int) > 1000) = false := decide_eq_false (by omega)
  have d1' : decide (1000 < l0.length) = false := decide_eq_false (by omega)
  have q2 : decide ((text.size : Int) > 40000) = false := decide_eq_false (by omega)
  have q2' : decide (40000 < text.size) = false := decide_eq_false (by omega)
  have HP := Aside0.mk hp
  have HTR := Aside0.mk ht
  have HD := Aside0.mk hd
  have HM := Aside0.mk hm
  have HS := Aside0.mk hs
  clear hp ht h1 hsz hd hm hs
  obtain ⟨r1, r2, r3, r4, r5, r6, r7, r8⟩ := r
  obtain ⟨m1, m2, m3, m4, m5, m6, m7, m8⟩ := m
  go_enter Tryz.func14, Tryz.ntmps14
  go_wp2_with (first
   | (go_at_call 18; refine (spec_BuddyinfoPrint.calls k A0 c0 l0 text 1 _ HR.out HC.out HP.out).mono ?_; rintro e w1 ⟨rfl, hb⟩; have HB1 := Aside0.mk hb; clear hb)
   | (go_at_call 19; refine (spec_BuddyinfoTree.calls k A0 c0 l0 r1 r2 r3 r4 r5 r6 r7 r8 1 _ (Kd.C_below HR.out HB1.out) HC.out HTR.out).mono ?_; rintro e w2 ⟨v7, rfl, hv, hb⟩; obtain ⟨At, ct, rfl, hlt, hFt⟩ := hv; have HCT := Aside0.mk (Kd.F_now hFt); have HLT := Aside0.mk hlt; have HB2 := Aside0.mk (below_then HB1.out HB1.out.size hb); clear hb hlt hFt)
   | ((with_reducible refine gate_dst (N := 11) rfl ?_); refine box_event ?hg (N := 11) ?hd (cs := nodeZero) (t := 39) ?hr ?_; (case hd => rfl); (case hg => rfl); (case hr => first | (go_simp; done) | (go_simp; rfl)); intro gb hgb w3 hbox hb; have HBX := Aside0.mk hbox; have HB3 := Aside0.mk hb; have HGB := Aside0.mk (show w2.heap.size ≤ gb by rw [hgb]; exact Nat.le_refl _); clear hgb hbox hb)
   | ((with_reducible refine gate_ (.store 39 (.tmp 11) (.tmp 35)) rfl ?_); refine box_store rfl rfl 39 (.tmp 11) (.tmp 35) rfl gb 39 nodeZero (snodeVal ⟨r1, r2, r3, r4, r5, r6, r7, r8⟩ (.slice At r8.length ct)) (snodeCells ⟨r1, r2, r3, r4, r5, r6, r7, r8⟩ (.slice At r8.length ct)) rfl rfl rfl snode_size (snode_one ⟨_, _, rfl⟩) HBX.out rfl ?_; intro w4 hbk hgr; have HW := Aside0.mk hbk; have HB4 := Aside0.mk (pw_below_grown HB3.out (some gb) HB3.out.size hgr (fun k e => by cases e; exact HGB.out)); clear hbk hgr)
   | (go_at_call 20; refine (doorBuddyinfo_calls text n _ (tabW_below HT.out (below_then HB2.out HB2.out.size HB4.out)) HD.out).mono ?_; rintro e w5 ⟨v9, rfl, ho, hb⟩; obtain ⟨Ag, cg, rfl⟩ := ho.slice; obtain ⟨_, hlg, hCg⟩ := Kd.R_reads' ho; have HCG := Aside0.mk hCg; have HLG := Aside0.mk hlg; have HW5 := Aside0.mk (blk_below HW.out hb); have HB5 := Aside0.mk (below_then HB4.out HB4.out.size hb); clear ho hb hlg hCg)
   | ((with_reducible refine gate_dst (N := 12) rfl ?_); refine box_event ?hg (N := 12) ?hd (cs := nodeZero) (t := 43) ?hr ?_; (case hd => rfl); (case hg => rfl); (case hr => first | (go_simp; done) | (go_simp; rfl)); intro gc hgc w6 hbox hb; have HCX := Aside0.mk hbox; have HW6 := Aside0.mk (blk_below HW5.out hb); have HB6 := Aside0.mk hb; have HGC := Aside0.mk (show w5.heap.size ≤ gc by rw [hgc]; exact Nat.le_refl _); have HNE := Aside0.mk (show gb < gc by rw [hgc]; exact blk_lt HW5.out); clear hgc hbox hb)
   | ((with_reducible refine gate_ (.store 43 (.tmp 12) (.tmp 44)) rfl ?_); refine box_store rfl rfl 43 (.tmp 12) (.tmp 44) rfl gc 43 nodeZero (nodeVal n (.slice Ag n.f7.length cg)) (nodeCells n (.slice Ag n.f7.length cg)) rfl rfl rfl node_size (node_one ⟨_, _, rfl⟩) HCX.out rfl ?_; intro w7 hbk hgr; have HG7 := Aside0.mk hbk; have HW7 := Aside0.mk (blk_grown HW6.out hgr (by have := HNE.out; intro e; injection e with e; omega)); have HB7 := Aside0.mk (pw_below_grown HB6.out (some gc) HB6.out.size hgr (fun k e => by cases e; exact HGC.out)); clear hbk hgr))
  have HB27 := Aside0.mk (below_then HB5.out HB5.out.size HB7.out)
  have HB07 := Aside0.mk (below_then HB2.out HB2.out.size HB27.out)
  have KA : Aside0 (∀ W : World, Below w7.heap.size w7 W → (Below w7.heap.size w7 W ∧ W.cell? ⟨gc, 0, none⟩ = some (.string n.f0) ∧ W.cell? ⟨gc, 1, none⟩ = some (.int .i64 n.f1) ∧ W.cell? ⟨gc, 2, none⟩ = some (.bool n.f2) ∧ W.cell? ⟨gc, 3, none⟩ = some (.int .i64 n.f3) ∧ W.cell? ⟨gc, 4, none⟩ = some (.int .u64 n.f4) ∧ W.cell? ⟨gc, 5, none⟩ = some (.float .f64 n.f5) ∧ W.cell? ⟨gc, 6, none⟩ = some (.string n.f6) ∧ W.cell? ⟨gc, 7, none⟩ = some (.slice Ag n.f7.length cg) ∧ W.cell? ⟨gb, 0, none⟩ = some (.string r1) ∧ W.cell? ⟨gb, 1, none⟩ = some (.int .i64 r2) ∧ W.cell? ⟨gb, 2, none⟩ = some (.bool r3) ∧ W.cell? ⟨gb, 3, none⟩ = some (.int .i64 r4) ∧ W.cell? ⟨gb, 4, none⟩ = some (.int .u64 r5) ∧ W.cell? ⟨gb, 5, none⟩ = some (.float .f64 r6) ∧ W.cell? ⟨gb, 6, none⟩ = some (.string r7) ∧ W.cell? ⟨gb, 7, none⟩ = some (.slice At r8.length ct))) := ⟨fun W hb => by
   have h1 := blk_below HG7.out hb
   have h2 := blk_below HW7.out hb
   exact ⟨hb, (blk_cell h1 0).trans rfl, (blk_cell h1 1).trans rfl, (blk_cell h1 2).trans rfl, (blk_cell h1 3).trans rfl, (blk_cell h1 4).trans rfl, (blk_cell h1 5).trans rfl, (blk_cell h1 6).trans rfl, (blk_cell h1 7).trans rfl, (blk_cell h2 0).trans rfl, (blk_cell h2 1).trans rfl, (blk_cell h2 2).trans rfl, (blk_cell h2 3).trans rfl, (blk_cell h2 4).trans rfl, (blk_cell h2 5).trans rfl, (blk_cell h2 6).trans rfl, (blk_cell h2 7).trans rfl⟩⟩
  go_region_held3 (fun W => Below w7.heap.size w7 W ∧ W.cell? ⟨gc, 0, none⟩ = some (.string n.f0) ∧ W.cell? ⟨gc, 1, none⟩ = some (.int .i64 n.f1) ∧ W.cell? ⟨gc, 2, none⟩ = some (.bool n.f2) ∧ W.cell? ⟨gc, 3, none⟩ = some (.int .i64 n.f3) ∧ W.cell? ⟨gc, 4, none⟩ = some (.int .u64 n.f4) ∧ W.cell? ⟨gc, 5, none⟩ = some (.float .f64 n.f5) ∧ W.cell? ⟨gc, 6, none⟩ = some (.string n.f6) ∧ W.cell? ⟨gc, 7, none⟩ = some (.slice Ag n.f7.length cg) ∧ W.cell? ⟨gb, 0, none⟩ = some (.string r1) ∧ W.cell? ⟨gb, 1, none⟩ = some (.int .i64 r2) ∧ W.cell? ⟨gb, 2, none⟩ = some (.bool r3) ∧ W.cell? ⟨gb, 3, none⟩ = some (.int .i64 r4) ∧ W.cell? ⟨gb, 4, none⟩ = some (.int .u64 r5) ∧ W.cell? ⟨gb, 5, none⟩ = some (.float .f64 r6) ∧ W.cell? ⟨gb, 6, none⟩ = some (.string r7) ∧ W.cell? ⟨gb, 7, none⟩ = some (.slice At r8.length ct))
   (first
    | exact KA.out _ (below_drew (Below.refl _ _))
    | (go_split_ands; exact KA.out _ (keepS (by assumption) hb'))
    | (go_split_ands; exact KA.out _ (below_drew (by assumption))))
   (first
    | (go_at_call 48; (with_reducible refine (laws_toNode.calls k2 n.f0 n.f1 n.f2 n.f3 n.f4 n.f5 n.f6 Ag cg n.f7 m1 m2 m3 m4 m5 m6 m7 m8 _ (by go_split_ands; exact Kd.C_below HCG.out (keepS HB7.out (by assumption))) HLG.out HM.out).mono ?_); rintro e w' ⟨v9, rfl, hom, hb'⟩; obtain ⟨Am, cm, rfl⟩ := Kd.R_slice hom)
    | (go_at_call 47; (with_reducible refine (spec_SameNode.calls k2 m1 m2 m3 m4 m5 m6 m7 Am cm m8 r1 r2 r3 r4 r5 r6 r7 At ct r8 true _ (by first | exact (Kd.R_reads' hom).2.2 | exact Kd.C_below (Kd.R_reads' hom).2.2 (below_drew (Below.refl _ _))) (Kd.R_reads' hom).2.1 (by go_split_ands; exact Kd.C_below HCT.out (keepS HB27.out (by assumption))) HLT.out HS.out).mono ?_); rintro e w' ⟨rfl, hb'⟩)
    | (go_at_call 46; (with_reducible refine (lives_calls _ (by go_split_ands; exact tabW_below HT.out (keepS HB07.out (by assumption)))).mono ?_); rintro e w' ⟨rfl, hb'⟩))
  go_split_ands
  go_wp2
  go_ret
  exact ⟨rfl, keepS HB07.out (by assumption)⟩
end Go.Proofs.YtednjmngalmdkaaGreatDoor.GPC
end
section
/- laws.FnBuddyinfoBack answers true where BackOk holds. Conditions: BackOk; the tables as laid. -/
namespace Go.Proofs.YtednjmngalmdkaaGreatDoor.GPC
open Go.RowKit Go.Proofs.YtednjmngalmdkaaGreatDoorW.PrintWords Go.Proofs.YtednjmngalmdkaaGreatDoorW.PrintLast
set_option linter.unusedVariables false
set_option maxHeartbeats 8000000 in
set_option maxRecDepth 100000 in
theorem lawBuddyinfo (A0 : Option Addr) (c0 : Nat) (l0 : List S31) (w : World) (hr0 : Kd.C k31 w A0 l0.length l0) (hc0 : l0.length ≤ c0) (hT : TabW w) (k : Nat) (b : Bool) (hz : laws_zzFits5.f k l0 = some b)
  (h : b = true → BackOk (fun k => spec_BuddyinfoPrint.f k l0) (fun k => spec_BuddyinfoTree.f k l0) (fun s n => doorBuddyinfo s n) l0) :
  Calls Tryz.prog 4 #[.slice A0 l0.length c0] w fun e w' => e = .returned (.bool true) ∧ Below w.heap.size w w' := by
 have HR := Aside0.mk hr0
 have HT := Aside0.mk hT
 have HC := Aside0.mk hc0
 have HZ := Aside0.mk hz
 have H := Aside0.mk h
 clear hr0 hT hc0 hz h
 cases b
 ·go_enter Tryz.func4, Tryz.ntmps4
  go_wp2_with (first
   | (go_at_call 13; refine (laws_zzFits5.calls k A0 c0 l0 false _ HR.out HC.out HZ.out).mono ?_; rintro e w1 ⟨rfl, hb⟩; have HB1 := Aside0.mk hb; clear hb))
  go_ret
  exact ⟨rfl, HB1.out⟩
 ·have H2 := Aside0.mk (H.out rfl)
  clear H
  go_enter Tryz.func4, Tryz.ntmps4
  go_wp2_with (first
   | (go_at_call 13; refine (laws_zzFits5.calls k A0 c0 l0 true _ HR.out HC.out HZ.out).mono ?_; rintro e w1 ⟨rfl, hb⟩; have HB1 := Aside0.mk hb; clear hb)
   | (go_at_call 14; refine (backBuddyinfo A0 c0 l0 _ (Kd.C_below HR.out HB1.out) HC.out (tabW_below HT.out HB1.out) H2.out).mono ?_; rintro e w2 ⟨rfl, hb⟩; have HB2 := Aside0.mk (keepS HB1.out hb); clear hb))
  go_ret
  exact ⟨rfl, HB2.out⟩
end Go.Proofs.YtednjmngalmdkaaGreatDoor.GPC
end
section
/- Plain facts on the printed functions that all the rows share: sizes, bounds, digits. Conditions: lists of at most 2^47 cells. -/
namespace Go.Proofs.YtednjmngalmdkaaGreatDoor.GPC
open Go Go.RowKit Go.Proofs.YtednjmngalmdkaaGreatDoorW.PrintWords Go.Proofs.YtednjmngalmdkaaGreatDoorW.PrintLast Go.Proofs.YtednjmngalmdkaaGreatDoor.PF
set_option linter.unusedVariables false
theorem small_l (m : Int) (l : List Int) (hl : l.length ≤ maxLen) : ∀ (d : Nat) (i : Int), 0 ≤ i → i + d = l.length → Ev (fun k => spec_small.l0 k m l (l.length : Int) i) ((l.drop i.toNat).all fun x => decide (x < m))
 | 0, i, h0, h => by
  refine Ev.step (f := fun _ => some true) (fun k => by simp only [spec_small.l0]; rw [if_neg (by omega)]) ?_
  rw [List.drop_eq_nil_of_le (by omega)]
  exact Ev.now _
 | d + 1, i, h0, h => by
  have hm := hl
  unfold maxLen at hm
  have hw : wrap64 (i + 1) = i + 1 := by unfold wrap64; omega
  have hi : i.toNat < l.length := by omega
  have hrd : rd l i = l[i.toNat] := by simp [rd, List.getD_eq_getElem?_getD, List.getElem?_eq_getElem hi]
  rw [List.drop_eq_getElem_cons hi, List.all_cons, ← hrd]
  by_cases hc : rd l i ≥ m
  ·rw [decide_eq_false (by omega)]
   exact Ev.step (f := fun _ => some false) (fun k => by simp only [spec_small.l0]; rw [if_pos (by omega), if_pos h0, if_pos (by omega), if_pos hc]) (Ev.now _)
  ·rw [decide_eq_true (by omega), Bool.true_and]
   have ih := small_l m l hl d (i + 1) (by omega) (by omega)
   rw [show (i + 1).toNat = i.toNat + 1 by omega] at ih
   exact Ev.step (fun k => by simp only [spec_small.l0]; rw [if_pos (by omega), if_pos h0, if_pos (by omega), if_neg hc, hw]) ih
theorem small_ev (m : Int) (l : List Int) (hl : l.length ≤ maxLen) : Ev (fun k => spec_small.f k m l) (l.all fun x => decide (x < m)) := by
 have := small_l m l hl l.length 0 (by omega) (by omega)
 simp only [Int.toNat_zero, List.drop_zero] at this
 exact this
def strB (l : List UInt8) : ByteArray := ⟨l.toArray⟩
theorem hex_at : ∀ d : Fin 16, strOfNums [bt (⟨#[48, 49, 50, 51, 52, 53, 54, 55, 56, 57, 97, 98, 99, 100, 101, 102]⟩ : ByteArray) (d.val : Int)] = strB [dch d.val] := by decide
theorem hex_n (d : Nat) (h : d < 16) : strOfNums [bt (⟨#[48, 49, 50, 51, 52, 53, 54, 55, 56, 57, 97, 98, 99, 100, 101, 102]⟩ : ByteArray) (d : Int)] = strB [dch d] := hex_at ⟨d, h⟩
theorem u64_w {n : Int} (h0 : 0 ≤ n) (h1 : n < 18446744073709551616) : IntKind.u64.wrap n = n := by
 simp only [IntKind.wrap, IntKind.bits, IntKind.signed, Bool.false_and]
 exact Int.emod_eq_of_lt h0 h1
theorem strB_append (x y : List UInt8) : strB x ++ strB y = strB (x ++ y) := by
 apply ByteArray.ext
 simp [strB]
theorem strB_size (x : List UInt8) : (strB x).size = x.length := by simp [strB, ByteArray.size]
theorem digits_ev (b : Nat) (hb : 2 ≤ b) (hb2 : b ≤ 16) (n : Nat) (hn : n < 18446744073709551616) : Ev (fun k => spec_Digits.f k (n : Int) (b : Int)) (strB (digB b n)) ∧ (digB b n).length ≤ n + 1 := by
 induction n using Nat.strongRecOn with
 | _ n ih =>
  have hmod : n % b < 16 := Nat.lt_of_lt_of_le (Nat.mod_lt _ (by omega)) hb2
  have e1 : Int.tmod (n : Int) (b : Int) = ((n % b : Nat) : Int) := by rw [Int.tmod_eq_emod_of_nonneg (by omega)]; simp
  have e2 : Int.tdiv (n : Int) (b : Int) = ((n / b : Nat) : Int) := by rw [Int.tdiv_eq_ediv_of_nonneg (by omega)]; simp
  have hx := hex_n (n % b) hmod
  unfold digB
  by_cases h : n < b
  ·rw [dif_pos (.inl h)]
   rw [Nat.mod_eq_of_lt h] at hx e1
   refine ⟨Ev.step (f := fun _ => some (strB [dch n])) (fun k => ?_) (Ev.now _), by simp⟩
   simp only [spec_Digits.f]
   rw [if_neg (by omega), e1, if_pos (by omega), if_pos (by omega), if_pos (by omega), hx]
  ·rw [dif_neg (by omega)]
   have hlt : n / b < n := Nat.div_lt_self (by omega) (by omega)
   obtain ⟨ih1, ih2⟩ := ih (n / b) hlt (by omega)
   have hw : IntKind.u64.wrap (Int.tdiv (n : Int) (b : Int)) = ((n / b : Nat) : Int) := by
    rw [e2]
    generalize n / b = q at hlt ⊢
    exact u64_w (by omega) (by omega)
   have h64 : (digB b (n / b)).length ≤ 64 := by
    have := digB_length b (n / b) 63 hb (Nat.lt_of_lt_of_le (show n / b < 2 ^ 64 by omega) (Nat.pow_le_pow_left hb 64))
    exact this
   refine ⟨Ev.step (f := fun k => (spec_Digits.f k ((n / b : Nat) : Int) (b : Int)).bind fun t => if t.size + (strB [dch (n % b)]).size ≤ 9223372036854775807 then some (t ++ strB [dch (n % b)]) else none) (fun k => ?_) (Ev.bind (f := fun _ t => if t.size + (strB [dch (n % b)]).size ≤ 9223372036854775807 then some (t ++ strB [dch (n % b)]) else none) ih1 ?_), ?_⟩
   ·simp only [spec_Digits.f, Option.bind_some]
    rw [if_neg (by omega), e1, if_pos (by omega), if_pos (by omega), if_neg (by omega), hw, hx]
   ·rw [if_pos (by rw [strB_size, strB_size]; simp; omega), strB_append]
    exact Ev.now _
   ·simp; omega
theorem text_ev (n : Nat) (hn : n < 18446744073709551616) : Ev (fun k => spec_Text.f k (n : Int)) (strB (digB 10 n)) :=
 Ev.bind (f := fun _ t => some t) (digits_ev 10 (by omega) (by omega) n hn).1 (Ev.now _)
end Go.Proofs.YtednjmngalmdkaaGreatDoor.GPC
end
section
/- The lines of a written text, one by one: on lists of bytes alone. Conditions: as they say. -/
namespace Go.Proofs.YtednjmngalmdkaaGreatDoor.GPC
open Go Go.RowKit Go.Proofs.YtednjmngalmdkaaGreatDoorW.PrintWords Go.Proofs.YtednjmngalmdkaaGreatDoorW.PrintLast
set_option linter.unusedVariables false
theorem strB_dl (l : List UInt8) : (strB l).data.toList = l := by simp [strB]
theorem ext_strB (l : List UInt8) (i j : Nat) : (strB l).extract i j = strB ((l.drop i).take (j - i)) := by
 apply ByteArray.ext
 rw [ByteArray.data_extract]
 apply Array.toList_inj.1
 simp [strB, List.extract]
theorem lineEnd_lf (a b : List UInt8) (ha : ∀ c ∈ a, c ≠ 10) : GL.lineEnd (strB (a ++ 10 :: b)) = a.length := by
 unfold GL.lineEnd
 rw [strB_dl, List.findIdx_append]
 have h0 : List.findIdx (· == (10 : UInt8)) a = a.length := List.findIdx_eq_length.2 (fun x hx => by
  simp only [beq_eq_false_iff_ne]
  exact ha x hx)
 have h1 : List.findIdx (fun x => x == (10 : UInt8)) (10 :: b) = 0 := by simp [List.findIdx_cons]
 rw [h0, h1]
 simp
theorem lineOf_lf (a b : List UInt8) (ha : ∀ c ∈ a, c ≠ 10) : GL.lineOf (strB (a ++ 10 :: b)) = strB a := by
 unfold GL.lineOf
 rw [lineEnd_lf a b ha, ext_strB]
 simp
theorem restOf_lf (a b : List UInt8) (ha : ∀ c ∈ a, c ≠ 10) : GL.restOf (strB (a ++ 10 :: b)) = strB b := by
 unfold GL.restOf
 rw [lineEnd_lf a b ha, if_pos (by rw [strB_size]; simp), ext_strB, strB_size]
 have e : a ++ 10 :: b = (a ++ [10]) ++ b := by simp
 rw [e, List.drop_left' (l₁ := a ++ [10]) (by simp), List.take_of_length_le (by simp; omega)]
theorem scan_line (a b : List UInt8) (s1 : ByteArray) (hne : a ≠ []) (ha : ∀ c ∈ a, c ≠ 10 ∧ c ≠ 13) (hl : a.length < 65536) (hs : (a ++ 10 :: b).length ≤ 1000000) :
  texts_Lines_Scan.f (strB (a ++ 10 :: b)) s1 65536 none = some (true, strB b, strB a, 65536, none) := by
 have h10 : ∀ c ∈ a, c ≠ 10 := fun c hc => (ha c hc).1
 unfold texts_Lines_Scan.f
 rw [if_pos ⟨rfl, rfl⟩, if_neg (by rw [strB_size]; simp), lineEnd_lf a b h10, lineOf_lf a b h10, restOf_lf a b h10]
 have hp : 0 < a.length := List.length_pos_iff.2 hne
 refine if_pos ⟨by rw [strB_size]; omega, hl, ?_⟩
 rw [strB_size, show ((a.length : Nat) : Int) - 1 = ((a.length - 1 : Nat) : Int) by omega, GL.bt_list _ _ (by rw [strB_size]; omega)]
 intro e
 have hm : a[a.length - 1]'(by omega) ∈ a := List.getElem_mem _
 have h13 := (ha _ hm).2
 apply h13
 apply UInt8.toNat_inj.1
 have : ((strB a).data.toList[a.length - 1]'(by rw [strB_dl]; omega)) = a[a.length - 1]'(by omega) := by simp only [strB_dl]
 rw [← this]
 show _ = 13
 omega
theorem scan_end (s1 : ByteArray) : texts_Lines_Scan.f (strB []) s1 65536 none = some (false, ⟨#[]⟩, ⟨#[]⟩, 65536, none) := by
 unfold texts_Lines_Scan.f
 rw [if_pos ⟨rfl, rfl⟩, if_pos (by rw [strB_size]; rfl)]
end Go.Proofs.YtednjmngalmdkaaGreatDoor.GPC
end
section
/- spec.Right, spec.Where, spec.Word, spec.words on lists of bytes. Conditions: lengths. -/
namespace Go.Proofs.YtednjmngalmdkaaGreatDoor.GPC
open Go Go.RowKit Go.Proofs.YtednjmngalmdkaaGreatDoorW.PrintWords Go.Proofs.YtednjmngalmdkaaGreatDoorW.PrintLast
set_option linter.unusedVariables false
def padS (least : Nat) (l : List UInt8) : List UInt8 := List.replicate (least - l.length) 32 ++ l
theorem padS_cons (least : Nat) (l : List UInt8) (h : l.length < least) : padS least (32 :: l) = padS least l := by
 unfold padS
 obtain ⟨d, hd⟩ : ∃ d, least - l.length = d + 1 := ⟨least - l.length - 1, by omega⟩
 rw [List.length_cons, hd, show least - (l.length + 1) = d by omega, List.replicate_succ', List.append_assoc, List.singleton_append]
theorem right_l (least : Nat) (hl : least ≤ 1000) : ∀ (d : Nat) (l : List UInt8), least - l.length = d → Ev (fun k => spec_Right.l0 k (strB l) (least : Int)) (strB (padS least l))
 | 0, l, h => by
  have e : padS least l = l := by simp [padS, h]
  rw [e]
  exact Ev.step (f := fun _ => some (strB l)) (fun k => by simp only [spec_Right.l0]; rw [if_neg (by rw [strB_size]; omega)]) (Ev.now _)
 | d + 1, l, h => by
  have ih := right_l least hl d (32 :: l) (by simp; omega)
  rw [padS_cons least l (by omega)] at ih
  refine Ev.step (fun k => ?_) ih
  simp only [spec_Right.l0]
  rw [if_pos (by rw [strB_size]; omega), if_pos (by rw [strB_size]; omega)]
  rw [show ((⟨#[32]⟩ : ByteArray) ++ strB l) = strB (32 :: l) from strB_append [32] l]
theorem right_ev (least : Nat) (hl : least ≤ 1000) (l : List UInt8) : Ev (fun k => spec_Right.f k (strB l) (least : Int)) (strB (padS least l)) := right_l least hl _ l rfl
theorem bt_strB (l : List UInt8) (i : Nat) (h : i < l.length) : bt (strB l) (i : Int) = ((l[i]).toNat : Int) := by
 rw [GL.bt_list _ _ (by rw [strB_size]; exact h)]
 simp only [strB_dl]
theorem where_l (l : List UInt8) (c : Nat) (hl : l.length ≤ 4000000000) : ∀ (d i : Nat), i + d = l.length →
  ∃ v, Ev (fun k => spec_Where.l0 k (strB l) (c : Int) (l.length : Int) (i : Int)) v ∧ (0 ≤ v ∨ v = -1 ∧ ∀ j, i ≤ j → ∀ h : j < l.length, (l[j]).toNat ≠ c)
 | 0, i, h => ⟨-1, Ev.step (f := fun _ => some (-1)) (fun k => by simp only [spec_Where.l0]; rw [if_neg (by omega)]) (Ev.now _), .inr ⟨rfl, fun j h1 h2 => by omega⟩⟩
 | d + 1, i, h => by
  have hi : i < l.length := by omega
  have hb := bt_strB l i hi
  by_cases hc : (l[i]).toNat = c
  ·exact ⟨(i : Int), Ev.step (f := fun _ => some (i : Int)) (fun k => by simp only [spec_Where.l0]; rw [if_pos (by omega), if_pos (by omega), if_pos (by rw [strB_size]; omega), if_pos (by rw [hb]; omega)]) (Ev.now _), .inl (by omega)⟩
  ·obtain ⟨v, hv, hr⟩ := where_l l c hl d (i + 1) (by omega)
   have hw : wrap64 ((i : Int) + 1) = ((i + 1 : Nat) : Int) := by unfold wrap64; omega
   refine ⟨v, Ev.step (fun k => by simp only [spec_Where.l0]; rw [if_pos (by omega), if_pos (by omega), if_pos (by rw [strB_size]; omega), if_neg (by rw [hb]; omega), hw]) hv, ?_⟩
   rcases hr with hr | ⟨h1, h2⟩
   ·exact .inl hr
   ·refine .inr ⟨h1, fun j hj hj2 => ?_⟩
    by_cases e : j = i
    ·subst e; exact hc
    ·exact h2 j (by omega) hj2
theorem where_ev (l : List UInt8) (c : Nat) (hl : l.length ≤ 4000000000) : ∃ v, Ev (fun k => spec_Where.f k (strB l) (c : Int)) v ∧ (0 ≤ v ∨ v = -1 ∧ ∀ x ∈ l, x.toNat ≠ c) := by
 obtain ⟨v, hv, hr⟩ := where_l l c hl l.length 0 (by omega)
 refine ⟨v, Ev.congr (fun k => by simp only [spec_Where.f, strB_size]; rfl) hv, ?_⟩
 rcases hr with hr | ⟨h1, h2⟩
 ·exact .inl hr
 ·refine .inr ⟨h1, fun x hx => ?_⟩
  obtain ⟨j, hj, rfl⟩ := List.getElem_of_mem hx
  exact h2 j (by omega) hj
def wordB (l : List UInt8) : Bool := l.all (fun c => decide (32 < c.toNat ∧ c.toNat ≤ 126)) && decide (l ≠ [])
theorem word_l (l : List UInt8) (hl : l.length ≤ 4000000000) : ∀ (d i : Nat), i + d = l.length →
  Ev (fun k => spec_Word.l0 k (strB l) (l.length : Int) (i : Int)) ((l.drop i).all (fun c => decide (32 < c.toNat ∧ c.toNat ≤ 126)) && decide (l ≠ []))
 | 0, i, h => by
  rw [List.drop_eq_nil_of_le (by omega), List.all_nil, Bool.true_and]
  refine Ev.step (f := fun _ => some (decide (l ≠ []))) (fun k => by
   simp only [spec_Word.l0]
   rw [if_neg (by omega)]
   congr 1
   have : (strB l).toList = l := by rw [Go.ByteArray.toList_eq, strB_dl]
   rw [this]
   cases l <;> rfl) (Ev.now _)
 | d + 1, i, h => by
  have hi : i < l.length := by omega
  have hb := bt_strB l i hi
  rw [List.drop_eq_getElem_cons hi, List.all_cons]
  by_cases h1 : (l[i]).toNat ≤ 32
  ·rw [decide_eq_false (by omega), Bool.false_and, Bool.false_and]
   exact Ev.step (f := fun _ => some false) (fun k => by simp only [spec_Word.l0]; rw [if_pos (by omega), if_pos (by omega), if_pos (by rw [strB_size]; omega), if_pos (by rw [hb]; omega)]) (Ev.now _)
  ·by_cases h2 : 126 < (l[i]).toNat
   ·rw [decide_eq_false (by omega), Bool.false_and, Bool.false_and]
    exact Ev.step (f := fun _ => some false) (fun k => by simp only [spec_Word.l0]; rw [if_pos (by omega), if_pos (by omega), if_pos (by rw [strB_size]; omega), if_neg (by rw [hb]; omega), if_pos (by rw [hb]; omega)]) (Ev.now _)
   ·rw [decide_eq_true (by omega), Bool.true_and]
    have hw : wrap64 ((i : Int) + 1) = ((i + 1 : Nat) : Int) := by unfold wrap64; omega
    exact Ev.step (fun k => by simp only [spec_Word.l0]; rw [if_pos (by omega), if_pos (by omega), if_pos (by rw [strB_size]; omega), if_neg (by rw [hb]; omega), if_neg (by rw [hb]; omega), hw]) (word_l l hl d (i + 1) (by omega))
theorem word_ev (l : List UInt8) (hl : l.length ≤ 4000000000) : Ev (fun k => spec_Word.f k (strB l)) (wordB l) :=
 Ev.congr (fun k => by simp only [spec_Word.f, strB_size]; rfl) (word_l l hl l.length 0 (by omega))
end Go.Proofs.YtednjmngalmdkaaGreatDoor.GPC
end
section
/- Plain facts: a number of hundredths, written, is read as the same float. Condition: below 2^40. -/
namespace Go.Proofs.YtednjmngalmdkaaGreatDoor.GPC
open Go Go.RowKit Go.Proofs.YtednjmngalmdkaaGreatDoorW.PrintWords Go.Proofs.YtednjmngalmdkaaGreatDoorW.PrintLast Go.Proofs.YtednjmngalmdkaaGreatDoor.PF
set_option linter.unusedVariables false
theorem dig_len (n : Nat) (hn : n < 18446744073709551616) : (digB 10 n).length ≤ 20 := digB_length 10 n 19 (by omega) (by omega)
theorem dch10 : ∀ d : Fin 10, 48 ≤ (dch d.val).toNat ∧ (dch d.val).toNat ≤ 57 ∧ (dch d.val).toNat - 48 = d.val := by decide
theorem dch10n (d : Nat) (h : d < 10) : 48 ≤ (dch d).toNat ∧ (dch d).toNat ≤ 57 ∧ (dch d).toNat - 48 = d := dch10 ⟨d, h⟩
theorem dig10 (n : Nat) : ∀ c ∈ digB 10 n, 48 ≤ c.toNat ∧ c.toNat ≤ 57 := by
 induction n using Nat.strongRecOn with
 | _ n ih =>
  intro c hc
  unfold digB at hc
  by_cases h : n < 10
  ·rw [dif_pos (.inl h)] at hc
   simp only [List.mem_singleton] at hc
   subst hc
   exact ⟨(dch10n n h).1, (dch10n n h).2.1⟩
  ·rw [dif_neg (by omega)] at hc
   rcases List.mem_append.1 hc with hc | hc
   ·exact ih (n / 10) (by omega) c hc
   ·simp only [List.mem_singleton] at hc
    subst hc
    have := dch10n (n % 10) (Nat.mod_lt _ (by omega))
    exact ⟨this.1, this.2.1⟩
theorem decV_append : ∀ (x y : List UInt8) (a : Nat), decV (x ++ y) a = decV y (decV x a)
 | [], _, _ => rfl
 | c :: x, y, a => decV_append x y _
theorem decV_dig (n : Nat) : decV (digB 10 n) 0 = n := by
 induction n using Nat.strongRecOn with
 | _ n ih =>
  unfold digB
  by_cases h : n < 10
  ·rw [dif_pos (.inl h)]
   simp only [decV]
   rw [(dch10n n h).2.2]
   omega
  ·rw [dif_neg (by omega), decV_append, ih (n / 10) (by omega)]
   simp only [decV]
   rw [(dch10n (n % 10) (Nat.mod_lt _ (by omega))).2.2]
   omega
theorem good_digits : ∀ (l : List UInt8) (dot : Bool) (r : List UInt8), (∀ c ∈ l, 48 ≤ c.toNat ∧ c.toNat ≤ 57) → rfGood (l ++ r) dot = rfGood r dot
 | [], _, _, _ => rfl
 | c :: l, dot, r, h => by
  simp only [List.cons_append, rfGood]
  rw [if_pos (h c (by simp))]
  exact good_digits l dot r (fun x hx => h x (by simp [hx]))
end Go.Proofs.YtednjmngalmdkaaGreatDoor.GPC
end
section
/- Plain facts: numbers written with a sign between, and read again as words. Conditions: at most 100,000 numbers of 64 bits. -/
namespace Go.Proofs.YtednjmngalmdkaaGreatDoor.GPC
open Go Go.RowKit Go.Proofs.YtednjmngalmdkaaGreatDoorW.PrintWords Go.Proofs.YtednjmngalmdkaaGreatDoorW.PrintLast Go.Proofs.YtednjmngalmdkaaGreatDoor.PF
set_option linter.unusedVariables false
theorem evG {α : Type} {c : Prop} [Decidable c] {A : Nat → Option α} {r : α} (h : c) (hA : Ev A r) : Ev (fun k => if c then A k else none) r := Ev.congr (fun k => if_pos h) hA
theorem evN {α : Type} {c : Prop} [Decidable c] {A B : Nat → Option α} {r : α} (h : ¬ c) (hA : Ev B r) : Ev (fun k => if c then A k else B k) r := Ev.congr (fun k => if_neg h) hA
theorem evP {α : Type} {c : Prop} [Decidable c] {A B : Nat → Option α} {r : α} (h : c) (hA : Ev A r) : Ev (fun k => if c then A k else B k) r := Ev.congr (fun k => if_pos h) hA
theorem evB {α β : Type} {g : Nat → Option α} {a : α} {F : Nat → α → Option β} {r : β} (h : Ev g a) (hF : Ev (fun k => F k a) r) : Ev (fun k => (g k).bind (F k)) r := Ev.bind (f := F) h hF
theorem rdB (l : List (List UInt8)) (i : Nat) (h : i < l.length) : rdOf ByteArray.empty (l.map strB) (i : Int) = strB l[i] := by
 simp [rdOf, List.getD_eq_getElem?_getD, h]
def intsOf (ns : List Nat) : List Int := ns.map Int.ofNat
theorem intsOf_len (ns : List Nat) : (intsOf ns).length = ns.length := by simp [intsOf]
theorem rd_ints (ns : List Nat) (i : Nat) (h : i < ns.length) : rd (intsOf ns) (i : Int) = (ns[i] : Int) := by
 simp [rd, intsOf, List.getD_eq_getElem?_getD, List.getElem?_eq_getElem h]
def decs (ns : List Nat) : List (List UInt8) := ns.map (digB 10)
theorem dec_word (n : Nat) : digB 10 n ≠ [] ∧ (∀ c ∈ digB 10 n, Lib.isSp c = false) ∧ ∀ c ∈ digB 10 n, c.toNat < 128 :=
 ⟨digB_ne 10 n, fun c hc => isDig_sp (by have := dig10 n c hc; unfold isDig; simp [this.1, this.2]), fun c hc => by have := dig10 n c hc; omega⟩
end Go.Proofs.YtednjmngalmdkaaGreatDoor.GPC
end
section
/- A whole number, written in decimal digits, is read as the float that it is turned to. Condition: below 2^40. -/
namespace Go.Proofs.YtednjmngalmdkaaGreatDoor.GPC
open Go Go.RowKit Go.Proofs.YtednjmngalmdkaaGreatDoorW.PrintWords Go.Proofs.YtednjmngalmdkaaGreatDoorW.PrintLast Go.Proofs.YtednjmngalmdkaaGreatDoor.PF
set_option linter.unusedVariables false
theorem flt_dec (n : Nat) (hn : n < 1099511627776) : fltF (strB (digB 10 n)) = some (floatOfInt .f64 (n : Int)) := by
 have hl1 : (digB 10 n).length ≤ 14 := digB_length 10 n 13 (by omega) (Nat.lt_of_lt_of_le hn (by decide))
 have hne := digB_ne 10 n
 have hd1 := dig10 n
 have hfull : rfAt (strB (digB 10 n)) (strB (digB 10 n)).size = rfL (digB 10 n) rf0 := by
  unfold rfAt
  rw [strB_size, show (strB (digB 10 n)).data.toList = digB 10 n by simp [strB], List.take_length]
 obtain ⟨i1, i2, i3, i4, i5⟩ := rfL_digits (digB 10 n) rf0 0 hd1 rfl (fun _ => rfl) (by decide)
 rw [decV_dig] at i1 i5
 have hok : rfOk (strB (digB 10 n)) = true := by
  unfold rfOk
  have g1 : rfGood (strB (digB 10 n)).data.toList false = true := by
   rw [show (strB (digB 10 n)).data.toList = digB 10 n ++ [] by simp [strB]]
   rw [good_digits _ _ _ hd1]
   rfl
  have g2 : 48 ≤ bt (strB (digB 10 n)) 0 ∧ bt (strB (digB 10 n)) 0 ≤ 57 := by
   cases hdd : digB 10 n with
   | nil => exact absurd hdd hne
   | cons c l =>
    have hc := hd1 c (by rw [hdd]; simp)
    have : bt (strB (c :: l)) 0 = (c.toNat : Int) := by
     unfold bt
     rw [dif_pos (by rw [strB_size]; simp)]
     simp only [strB]
     rfl
    rw [this]
    omega
  have hp : 0 < (digB 10 n).length := List.length_pos_iff.2 hne
  rw [g1, decide_eq_true g2, decide_eq_true (show 0 < (strB (digB 10 n)).size ∧ (strB (digB 10 n)).size ≤ 18 by rw [strB_size]; omega)]
  rfl
 unfold fltF
 rw [hfull, i1, if_pos ⟨hok, by omega⟩]
 by_cases hz : n = 0
 ·rw [if_pos (by omega)]
  have h0 : floatOfInt .f64 0 = 0 := by kernel_rfl
  subst hz
  exact congrArg some h0.symm
 ·rw [if_neg (by omega)]
  have he : (rfL (digB 10 n) rf0).exp = 0 := by
   unfold RF.exp
   rw [i1, if_neg (by omega), i2]
   show (if false = true then _ else _) - _ = (0 : Int)
   simp
  rw [he]
  rfl
end Go.Proofs.YtednjmngalmdkaaGreatDoor.GPC
end
section
/- A row of /proc/buddyinfo as bytes, and its words. Conditions: words. -/
namespace Go.Proofs.YtednjmngalmdkaaGreatDoor.GPC
open Go Go.RowKit Go.Proofs.YtednjmngalmdkaaGreatDoorW.PrintWords Go.Proofs.YtednjmngalmdkaaGreatDoorW.PrintLast Go.Proofs.YtednjmngalmdkaaGreatDoor.PF
set_option linter.unusedVariables false
def bdNums (ns : List Nat) : List UInt8 := ns.flatMap fun n => padS 6 (digB 10 n) ++ [32]
def bdLine (a b : List UInt8) (ns : List Nat) : List UInt8 := [78, 111, 100, 101] ++ (32 :: ((a ++ [44]) ++ (32 :: ([122, 111, 110, 101] ++ (32 :: (padS 8 b ++ (32 :: bdNums ns)))))))
def Cl (w : List UInt8) : Prop := w ≠ [] ∧ ∀ c ∈ w, Lib.isSp c = false
theorem sp32 : Lib.isSp 32 = true := by decide
theorem fields_sp (r : List UInt8) : Lib.fields (32 :: r) = Lib.fields r := fields_blanks [32] r (by simp [sp32])
theorem fields_pad (m : Nat) (w r : List UInt8) (hw : Cl w) : Lib.fields (padS m w ++ (32 :: r)) = w :: Lib.fields r := by
 unfold padS
 rw [List.append_assoc, fields_blanks _ _ (fun c hc => by rw [(List.mem_replicate.1 hc).2]; exact sp32), fields_word w 32 r hw.1 hw.2 sp32, fields_sp]
theorem fields_nums : ∀ ns : List Nat, Lib.fields (bdNums ns) = decs ns
 | [] => rfl
 | n :: r => by
  have ih := fields_nums r
  have hw := dec_word n
  show Lib.fields ((padS 6 (digB 10 n) ++ [32]) ++ bdNums r) = _
  rw [List.append_assoc, List.singleton_append, fields_pad 6 _ _ ⟨hw.1, hw.2.1⟩, ih]
  rfl
theorem fields_line (a b : List UInt8) (ns : List Nat) (ha : Cl a) (hb : Cl b) : Lib.fields (bdLine a b ns) = [78, 111, 100, 101] :: (a ++ [44]) :: [122, 111, 110, 101] :: b :: decs ns := by
 have hc : Cl (a ++ [44]) := ⟨by simp, fun c hc => by
  simp only [List.mem_append, List.mem_cons, List.not_mem_nil, or_false] at hc
  rcases hc with hc | rfl
  ·exact ha.2 c hc
  ·decide⟩
 unfold bdLine
 rw [fields_word [78, 111, 100, 101] 32 _ (by simp) (by decide) sp32, fields_sp, fields_word (a ++ [44]) 32 _ hc.1 hc.2 sp32, fields_sp,
  fields_word [122, 111, 110, 101] 32 _ (by simp) (by decide) sp32, fields_sp, fields_pad 8 b _ hb, fields_nums]
theorem suffix_is (l : List UInt8) (h : 1 ≤ l.length) (hl : l.length ≤ 1000000000) : stringslite_HasSuffix.f (strB l) (⟨#[44]⟩ : ByteArray) = some ((l.drop (l.length - 1)) == [44]) := by
 unfold stringslite_HasSuffix.f
 have e1 : ((⟨#[44]⟩ : ByteArray).size : Int) = 1 := rfl
 have hw : wrap64 ((l.length : Int) - 1) = ((l.length - 1 : Nat) : Int) := by unfold wrap64; omega
 rw [strB_size, e1, hw, if_pos (by omega), if_pos (by omega), if_pos (by omega), Int.toNat_natCast, ext_strB]
 congr 1
 rw [show (strB ((l.drop (l.length - 1)).take (l.length - (l.length - 1)))).toList = l.drop (l.length - 1) by
  rw [Go.ByteArray.toList_eq, strB_dl, List.take_of_length_le (by simp)],
  show (⟨#[44]⟩ : ByteArray).toList = [44] by rw [Go.ByteArray.toList_eq]]
theorem trim_comma (a : List UInt8) (hl : a.length ≤ 100000000) : strings_TrimSuffix.f (strB (a ++ [44])) (⟨#[44]⟩ : ByteArray) = some (strB a) := by
 unfold strings_TrimSuffix.f stringslite_TrimSuffix.f
 have hs := suffix_is (a ++ [44]) (by simp) (by simp; omega)
 rw [show (a ++ [(44 : UInt8)]).length - 1 = a.length by simp, List.drop_left] at hs
 rw [hs]
 have e1 : ((⟨#[44]⟩ : ByteArray).size : Int) = 1 := rfl
 have hw : wrap64 (((a ++ [(44 : UInt8)]).length : Int) - 1) = (a.length : Int) := by simp only [List.length_append, List.length_cons, List.length_nil]; unfold wrap64; omega
 simp only [Option.bind_some, strB_size, e1, hw]
 rw [if_pos (by rfl), if_pos (by omega), if_pos (by simp only [List.length_append]; omega), Int.toNat_natCast, ext_strB]
 simp
theorem trim_none (b : List UInt8) (h0 : b ≠ []) (hl : b.length ≤ 100000000) (hb : ∀ c ∈ b, c ≠ 44) : strings_TrimSuffix.f (strB b) (⟨#[44]⟩ : ByteArray) = some (strB b) := by
 unfold strings_TrimSuffix.f stringslite_TrimSuffix.f
 have hp : 0 < b.length := List.length_pos_iff.2 h0
 have hs := suffix_is b (by omega) (by omega)
 have hf : ((b.drop (b.length - 1)) == [44]) = false := beq_eq_false_iff_ne.2 (fun e => by
  have hm : (44 : UInt8) ∈ b.drop (b.length - 1) := by rw [e]; simp
  exact hb 44 (List.mem_of_mem_drop hm) rfl)
 rw [hs, hf]
 rfl
end Go.Proofs.YtednjmngalmdkaaGreatDoor.GPC
end
section
/- The printed text of /proc/buddyinfo: the numbers of a row. Conditions: lengths. -/
namespace Go.Proofs.YtednjmngalmdkaaGreatDoor.GPC
open Go Go.RowKit Go.Proofs.YtednjmngalmdkaaGreatDoorW.PrintWords Go.Proofs.YtednjmngalmdkaaGreatDoorW.PrintLast Go.Proofs.YtednjmngalmdkaaGreatDoor.PF
set_option linter.unusedVariables false
theorem padS_len (m : Nat) (l : List UInt8) (h : l.length ≤ 1000) (hm : m ≤ 1000) : (padS m l).length ≤ 1000 := by
 simp only [padS, List.length_append, List.length_replicate]; omega
theorem bd_nums (x0 x9 : List S31) (x10 x11 : Int) (ns : List Nat) (hl : ns.length ≤ 4000000000) (hn : ∀ n ∈ ns, n < 18446744073709551616) (r : ByteArray × Int) : ∀ (d i : Nat) (acc : List UInt8), i + d = ns.length → acc.length + 1001 * d ≤ 1000000000000000000 →
  Ev (fun k => spec_BuddyinfoPrint.l0 k x0 (strB (acc ++ (bdNums (ns.drop i) ++ [10]))) x9 x10 (wrap64 (x11 + 1))) r →
  Ev (fun k => spec_BuddyinfoPrint.l1 k x0 (strB acc) x9 x10 x11 (intsOf ns) (ns.length : Int) (i : Int)) r
 | 0, i, acc, h, ha, hr => by
  rw [List.drop_eq_nil_of_le (by omega)] at hr
  refine Ev.step (fun k => ?_) hr
  simp only [spec_BuddyinfoPrint.l1]
  rw [if_neg (by omega), if_pos (by rw [strB_size]; omega)]
  rw [show strB acc ++ (⟨#[10]⟩ : ByteArray) = strB (acc ++ [10]) from strB_append acc [10]]
  rfl
 | d + 1, i, acc, h, ha, hr => by
  have hi : i < ns.length := by omega
  have hm : ns[i] < 18446744073709551616 := hn _ (List.getElem_mem _)
  have hd20 := dig_len ns[i] hm
  have hp := padS_len 6 (digB 10 ns[i]) (by omega) (by omega)
  have hw : wrap64 ((i : Int) + 1) = ((i + 1 : Nat) : Int) := by unfold wrap64; omega
  have ih := bd_nums x0 x9 x10 x11 ns hl hn r d (i + 1) (acc ++ (padS 6 (digB 10 ns[i]) ++ [32])) (by omega) (by simp only [List.length_append, List.length_cons, List.length_nil]; omega) (by
   rw [List.drop_eq_getElem_cons hi] at hr
   have e : acc ++ (bdNums (ns[i] :: ns.drop (i + 1)) ++ [10]) = (acc ++ (padS 6 (digB 10 ns[i]) ++ [32])) ++ (bdNums (ns.drop (i + 1)) ++ [10]) := by
    show acc ++ (((padS 6 (digB 10 ns[i]) ++ [32]) ++ bdNums (ns.drop (i + 1))) ++ [10]) = _
    simp only [List.append_assoc]
   rw [e] at hr
   exact hr)
  refine Ev.step (f := fun k => (spec_Text.f k ((ns[i] : Nat) : Int)).bind fun t => (spec_Right.f k t 6).bind fun t2 => if t2.size + 1 ≤ 9223372036854775807 then (if (strB acc).size + (t2 ++ (⟨#[32]⟩ : ByteArray)).size ≤ 9223372036854775807 then spec_BuddyinfoPrint.l1 k x0 (strB acc ++ (t2 ++ (⟨#[32]⟩ : ByteArray))) x9 x10 x11 (intsOf ns) (ns.length : Int) ((i + 1 : Nat) : Int) else none) else none) (fun k => ?_) ?_
  ·simp only [spec_BuddyinfoPrint.l1]
   rw [if_pos (by omega), if_pos (by omega), if_pos (by rw [intsOf_len]; omega), rd_ints ns i hi, hw]
  ·refine evB (text_ev ns[i] hm) (evB (right_ev 6 (by omega) _) (evG (by rw [strB_size]; omega) (evG ?_ ?_)))
   ·rw [show strB (padS 6 (digB 10 ns[i])) ++ (⟨#[32]⟩ : ByteArray) = strB (padS 6 (digB 10 ns[i]) ++ [32]) from strB_append _ [32], strB_size, strB_size]
    simp only [List.length_append, List.length_cons, List.length_nil]
    omega
   ·rw [show strB (padS 6 (digB 10 ns[i])) ++ (⟨#[32]⟩ : ByteArray) = strB (padS 6 (digB 10 ns[i]) ++ [32]) from strB_append _ [32], strB_append]
    exact ih
end Go.Proofs.YtednjmngalmdkaaGreatDoor.GPC
end
section
/- The parsed text of /proc/buddyinfo: the numbers of a row. Conditions: lengths; numbers below 2^40. -/
namespace Go.Proofs.YtednjmngalmdkaaGreatDoor.GPC
open Go Go.RowKit Go.Proofs.YtednjmngalmdkaaGreatDoorW.PrintWords Go.Proofs.YtednjmngalmdkaaGreatDoorW.PrintLast Go.Proofs.YtednjmngalmdkaaGreatDoor.PF
set_option linter.unusedVariables false
def fltN (n : Nat) : Nat := floatOfInt .f64 (n : Int)
theorem pf_dec (n : Nat) (hn : n < 1099511627776) : strconv_ParseFloat.f (strB (digB 10 n)) 64 = some (fltN n, none) := by
 unfold strconv_ParseFloat.f
 rw [if_pos rfl, flt_dec n hn]
 rfl
theorem set_at (l : List Nat) (d x : Nat) (i : Nat) (h : l.length = i) : (l ++ List.replicate (d + 1) 0).set i x = (l ++ [x]) ++ List.replicate d 0 := by
 subst h
 rw [List.replicate_succ, List.set_append_right _ _ (Nat.le_refl _), Nat.sub_self, List.set_cons_zero]
 simp
theorem bd_floats (x4 : List S75) (x6 : Int) (x10 x11 : ByteArray) (s0 s1 : ByteArray) (s2 : Int) (s3 : Option Int) (p : List (List UInt8)) (hp : p.length = 4) (ns : List Nat) (hl : ns.length ≤ 100000) (hn : ∀ n ∈ ns, n < 1099511627776)
  (hx : x4.length ≤ 100000) (r : List S75 × Option Int) : ∀ (d i : Nat), i + d = ns.length →
  Ev (fun k => procfs_parseBuddyInfo.l0 k (x4 ++ [⟨x10, x11, ns.map fltN⟩]) x6 s0 s1 s2 s3) r →
  Ev (fun k => procfs_parseBuddyInfo.l1 k x4 x6 ((p ++ decs ns).map strB) x10 x11 ((ns.take i).map fltN ++ List.replicate d 0) (ns.length : Int) (i : Int) s0 s1 s2 s3) r
 | 0, i, h, hr => by
  rw [List.take_of_length_le (by omega), List.replicate_zero, List.append_nil]
  refine Ev.step (fun k => ?_) hr
  simp only [procfs_parseBuddyInfo.l1]
  rw [if_neg (by omega), if_pos (by omega)]
 | d + 1, i, h, hr => by
  have hi : i < ns.length := by omega
  have hm := hn ns[i] (List.getElem_mem _)
  have hw : wrap64 ((i : Int) + 1) = ((i + 1 : Nat) : Int) := by unfold wrap64; omega
  have hw4 : wrap64 ((i : Int) + 4) = ((i + 4 : Nat) : Int) := by unfold wrap64; omega
  have ih := bd_floats x4 x6 x10 x11 s0 s1 s2 s3 p hp ns hl hn hx r d (i + 1) (by omega) hr
  have hlen : (p ++ decs ns).length = ns.length + 4 := by simp [decs, hp]; omega
  have hrd : rdOf ByteArray.empty ((p ++ decs ns).map strB) (((i + 4 : Nat)) : Int) = strB (digB 10 ns[i]) := by
   rw [rdB _ (i + 4) (by omega)]
   congr 1
   rw [List.getElem_append_right (by omega)]
   simp [decs, hp]
  have hs := set_at ((ns.take i).map fltN) d (fltN ns[i]) i (by simp; omega)
  have ht : (ns.take i).map fltN ++ [fltN ns[i]] = (ns.take (i + 1)).map fltN := by
   rw [List.take_add_one, List.getElem?_eq_getElem hi, List.map_append]
   rfl
  rw [ht] at hs
  refine Ev.step (fun k => ?_) ih
  simp only [procfs_parseBuddyInfo.l1]
  rw [if_pos (by omega), hw4, if_pos (by omega), if_pos (by rw [List.length_map, hlen]; omega), hrd, pf_dec _ hm, Option.bind_some, if_pos (by omega), if_pos (by simp only [List.length_append, List.length_map, List.length_take, List.length_replicate]; omega), hw]
  refine (if_pos rfl).trans ?_
  show procfs_parseBuddyInfo.l1 k x4 x6 _ x10 x11 (((ns.take i).map fltN ++ List.replicate (d + 1) 0).set i (fltN ns[i])) _ _ s0 s1 s2 s3 = _
  rw [hs]
end Go.Proofs.YtednjmngalmdkaaGreatDoor.GPC
end
