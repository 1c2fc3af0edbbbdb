/- Texts of this claim, put together: GPEx10, GPEx10, GivenCt, GivenCtP, GivenCtF, GivenCtT, GPEx8, GPEx9, GPEx9. Conditions: as each one says. -/
import Derived.Test.YtednjmngalmdkaaGreatDoorKCt0
import Derived.Test.YtednjmngalmdkaaGreatDoorKCt1
import Derived.Test.YtednjmngalmdkaaGreatDoorKCt2
import Derived.Test.YtednjmngalmdkaaGreatDoorKCt3
import Derived.Deep.QuietTactic
import Derived.BigQuiet
import Derived.StillTailTactics
import Derived.Defers
import Derived.Recover
section
namespace Go.Proofs.YtednjmngalmdkaaGreatDoor.GPC
open Go.RowKit Go.Proofs.YtednjmngalmdkaaGreatDoorW.PrintWords Go.Proofs.YtednjmngalmdkaaGreatDoorW.PrintLast Go.Proofs.YtednjmngalmdkaaGreatDoorW.PrintMore
attribute [local go_sem] max2_int min2_int max_two min_two max_three min_three max_four min_four   -- for this text's walks alone
set_option linter.unusedVariables false
set_option linter.unusedSimpArgs false

attribute [local go_sem] run_store_float
/-! ### procfs_ConntrackStatEntry: function 93 -/
def procfs_ConntrackStatEntry.l0 : Nat → List (S109) → Int → Int → ByteArray → Int → Bool → Int → Int → Nat → ByteArray → List (S43) → Option (ByteArray × Int × Bool × Int × Int × Nat × ByteArray × (List (S43)))
 | 0, _, _, _, _, _, _, _, _, _, _, _ => none
 | k + 1, x12, x13, x14, x539000, x539001, x539002, x539003, x539004, x539005, x539006, x539007 => if x14 < x13 then (if 0 ≤ x14 then (if x14 < (x12.length : Int) then ((impl_Conntrack_1_1.f ((rd_T109 x12 x14).f0) ((rd_T109 x12 x14).f1) ((rd_T109 x12 x14).f2) ((rd_T109 x12 x14).f3) ((rd_T109 x12 x14).f4) ((rd_T109 x12 x14).f5) ((rd_T109 x12 x14).f6) ((rd_T109 x12 x14).f7) ((rd_T109 x12 x14).f8) ((rd_T109 x12 x14).f9) ((rd_T109 x12 x14).f10) ((rd_T109 x12 x14).f11) ((rd_T109 x12 x14).f12)).bind fun bt541 => (if x539007.length < 1466015503701 then (procfs_ConntrackStatEntry.l0 k x12 x13 (wrap64 (x14 + 1)) x539000 x539001 x539002 x539003 x539004 x539005 x539006 (x539007 ++ [(⟨bt541.1, bt541.2.1, bt541.2.2.1, bt541.2.2.2.1, bt541.2.2.2.2.1, bt541.2.2.2.2.2.1, bt541.2.2.2.2.2.2.1, bt541.2.2.2.2.2.2.2⟩ : S43)])) else (none))) else (none)) else (none)) else (some (x539000, x539001, x539002, x539003, x539004, x539005, x539006, x539007))
def procfs_ConntrackStatEntry.f (k : Nat) (a0 : ByteArray) (l1 : List (S109)) : Option (ByteArray × Int × Bool × Int × Int × Nat × ByteArray × (List (S43))) := procfs_ConntrackStatEntry.l0 k l1 (l1.length : Int) 0 a0 6 false 0 0 0 (⟨#[]⟩ : ByteArray) ([] : List (S43))
theorem procfs_ConntrackStatEntry.mono_l : ∀ k, (∀ y0 y1 y2 y3 y4 y5 y6 y7 y8 y9 y10, LeO (procfs_ConntrackStatEntry.l0 k y0 y1 y2 y3 y4 y5 y6 y7 y8 y9 y10) (procfs_ConntrackStatEntry.l0 (k + 1) y0 y1 y2 y3 y4 y5 y6 y7 y8 y9 y10))
 | 0 => fun _ _ _ _ _ _ _ _ _ _ _ r h => by simp [procfs_ConntrackStatEntry.l0] at h
 | k + 1 => by
  have ih0 := procfs_ConntrackStatEntry.mono_l k
  ·intro y0 y1 y2 y3 y4 y5 y6 y7 y8 y9 y10
   unfold procfs_ConntrackStatEntry.l0
   repeat' first
   | (with_reducible exact ih0 _ _ _ _ _ _ _ _ _ _ _)
   | (with_reducible exact LeO.refl _)
   | (with_reducible exact LeO.none _)
   | (with_reducible refine LeO.ite ?_ ?_)
   | (with_reducible refine LeO.bind ?_ (fun _ => ?_))
   | exact ih0 _ _ _ _ _ _ _ _ _ _ _
   | exact LeO.none _
   | refine LeO.ite ?_ ?_
   | refine LeO.bind ?_ (fun _ => ?_)
theorem procfs_ConntrackStatEntry.mono : ∀ a0 a1 k, LeO (procfs_ConntrackStatEntry.f k a0 a1) (procfs_ConntrackStatEntry.f (k + 1) a0 a1) := by
 intro a0 a1 k
 have ih0 := procfs_ConntrackStatEntry.mono_l k
 unfold procfs_ConntrackStatEntry.f
 repeat' first
   | (with_reducible exact ih0 _ _ _ _ _ _ _ _ _ _ _)
   | (with_reducible exact LeO.refl _)
   | (with_reducible exact LeO.none _)
   | (with_reducible refine LeO.ite ?_ ?_)
   | (with_reducible refine LeO.bind ?_ (fun _ => ?_))
   | exact ih0 _ _ _ _ _ _ _ _ _ _ _
   | exact LeO.none _
   | refine LeO.ite ?_ ?_
   | refine LeO.bind ?_ (fun _ => ?_)
def procfs_ConntrackStatEntry.T5 : Bool × List (List Nat × List Nat) := (true, [([], []), ([0], [0]), ([], []), ([], []), ([2, 3], [2, 3]), ([4], [4]), ([1, 5, 4], [1, 5]), ([0, 1, 2, 3, 4, 5, 6], []), ([7, 6, 6, 0, 1, 2, 3, 4, 5, 6], [6, 7])])
def procfs_ConntrackStatEntry.B5 : List Nat := [0, 1, 0, 0, 12, 28, 63, 127, 255]
theorem procfs_ConntrackStatEntry.tab5 : rtab .any (opsOf Tryz.f93 5) = procfs_ConntrackStatEntry.T5 := by kernel_rfl
theorem procfs_ConntrackStatEntry.bits5 : waitsOk procfs_ConntrackStatEntry.T5.2 procfs_ConntrackStatEntry.B5 = true := by kernel_rfl
set_option maxHeartbeats 8000000 in
set_option maxRecDepth 100000 in
theorem procfs_ConntrackStatEntry.calls (k : Nat) (a0 : ByteArray) (A1 : Option Addr) (c1 : Nat) (l1 : List (S109)) (r1 : ByteArray) (r2 : Int) (r3 : Bool) (r4 : Int) (r5 : Int) (r6 : Nat) (r7 : ByteArray) (r8 : List (S43)) (w : World) (hr1 : Kd.C k109 w A1 l1.length l1) (hc1 : l1.length ≤ c1) (h : procfs_ConntrackStatEntry.f k a0 l1 = some (r1, r2, r3, r4, r5, r6, r7, r8)) :
  Calls Tryz.prog 93 #[.string a0, .slice A1 l1.length c1, .func (.func 94) #[] #[]] w fun e w' => ∃ v7_ : Value, e = .returned (.agg #[.string r1, .int .i64 r2, .bool r3, .int .i64 r4, .int .u64 r5, .float .f64 r6, .string r7, v7_]) ∧ Kd.R k43 43 w' w.heap.size (fun _ => True) v7_ r8 ∧ Below w.heap.size w w' := by
 have hu43 := Tryz.underlying43
 have hu109 := Tryz.underlying109
 have HR1 := Aside0.mk hr1
 have HC1 := Aside0.mk hc1
 clear hr1 hc1
 have HB := Aside0.mk (Below.refl w.heap.size w)
 have H : (procfs_ConntrackStatEntry.l0 k l1 (l1.length : Int) 0 a0 6 false 0 0 0 (⟨#[]⟩ : ByteArray) ([] : List (S43))) = some (r1, r2, r3, r4, r5, r6, r7, r8) := h
 clear h
 have H' := Aside0.mk H
 clear H
 go_enter Tryz.func93, Tryz.ntmps93
 go_wp2_with (first | ((with_reducible refine gate_dst (N := 6) rfl ?_); refine box_event ?hg (N := 6) ?hd (cs := #[.string (⟨#[]⟩ : ByteArray), .int .i64 0, .bool false, .int .i64 0, .int .u64 0, .float .f64 0, .string (⟨#[]⟩ : ByteArray), .slice none 0 0]) (t := 43) ?hr ?_; (case hd => rfl); (case hg => rfl); (case hr => first | (go_simp; done) | (go_simp; rfl)); intro gb537 hg w3 hbox hb; have n0_ := Aside0.mk (below_step (by repeat (first | (with_reducible first | exact HB.out | apply below_alloc | apply pw_below_drewN | apply below_drew1) | exact HB.out)) hb); have n1_ := Aside0.mk (hbox); have n2_ := Aside0.mk ((by rw [hg]; exact (below_size (by repeat (first | (with_reducible first | exact HB.out | apply below_alloc | apply pw_below_drewN | apply below_drew1) | exact HB.out))) : w.heap.size ≤ gb537)); have n3_ := Aside0.mk ((by rw [hg]; exact (below_size (by repeat (first | (with_reducible first | exact HB.out | apply below_alloc | apply pw_below_drewN | apply below_drew1) | exact HB.out))) : w.heap.size ≤ gb537)); clear HB; have HB := n0_; have BK537 := n1_; have GW537 := n2_; have GE537 := n3_; clear n0_ n1_ n2_ n3_; clear hb hbox hg) | ((with_reducible refine gate_dst (N := 7) rfl ?_); refine box_event ?hg (N := 7) ?hd (cs := #[.string (⟨#[]⟩ : ByteArray), .int .i64 0, .bool false, .int .i64 0, .int .u64 0, .float .f64 0, .string (⟨#[]⟩ : ByteArray), .slice none 0 0]) (t := 43) ?hr ?_; (case hd => rfl); (case hg => rfl); (case hr => first | (go_simp; done) | (go_simp; rfl)); intro gb538 hg w4 hbox hb; have n0_ := Aside0.mk (blk_below (g := gb537) (o := .cells #[.string (⟨#[]⟩ : ByteArray), .int .i64 0, .bool false, .int .i64 0, .int .u64 0, .float .f64 0, .string (⟨#[]⟩ : ByteArray), .slice none 0 0] 43 (0, 0)) (by (with_reducible repeat (first | refine blk_drewN ?_ _ | refine blk_drew ?_ | refine blk_alloc ?_ _)); exact BK537.out) hb); have n1_ := Aside0.mk (below_step (by repeat (first | (with_reducible first | exact HB.out | apply below_alloc | apply pw_below_drewN | apply below_drew1 | refine below_set ?_ GE537.out) | exact HB.out)) hb); have n2_ := Aside0.mk (hbox); have n3_ := Aside0.mk ((by rw [hg]; exact (below_size (by repeat (first | (with_reducible first | exact HB.out | apply below_alloc | apply pw_below_drewN | apply below_drew1 | refine below_set ?_ GE537.out) | exact HB.out))) : w.heap.size ≤ gb538)); have n4_ := Aside0.mk ((by rw [hg]; exact (below_size (by repeat (first | (with_reducible first | exact HB.out | apply below_alloc | apply pw_below_drewN | apply below_drew1 | refine below_set ?_ GE537.out) | exact HB.out))) : w.heap.size ≤ gb538)); have n5_ := Aside0.mk ((by rw [hg]; exact Nat.ne_of_lt (blk_lt (g := gb537) (o := .cells #[.string (⟨#[]⟩ : ByteArray), .int .i64 0, .bool false, .int .i64 0, .int .u64 0, .float .f64 0, .string (⟨#[]⟩ : ByteArray), .slice none 0 0] 43 (0, 0)) (by (with_reducible repeat (first | refine blk_drewN ?_ _ | refine blk_drew ?_ | refine blk_alloc ?_ _)); exact BK537.out)) : gb537 ≠ gb538)); have n6_ := Aside0.mk ((by rw [hg]; exact Nat.ne_of_gt (blk_lt (g := gb537) (o := .cells #[.string (⟨#[]⟩ : ByteArray), .int .i64 0, .bool false, .int .i64 0, .int .u64 0, .float .f64 0, .string (⟨#[]⟩ : ByteArray), .slice none 0 0] 43 (0, 0)) (by (with_reducible repeat (first | refine blk_drewN ?_ _ | refine blk_drew ?_ | refine blk_alloc ?_ _)); exact BK537.out)) : gb538 ≠ gb537)); clear BK537; clear HB; have BK537 := n0_; have HB := n1_; have BK538 := n2_; have GW538 := n3_; have GE538 := n4_; have NB537_538 := n5_; have NB538_537 := n6_; clear n0_ n1_ n2_ n3_ n4_ n5_ n6_; clear hb hbox hg; have hnb5 := NB538_537.out; have hnc5 := NB537_538.out; have hcz6_0 : w4.cell? ⟨gb538, 0, none⟩ = some (.string (⟨#[]⟩ : ByteArray)) := (blk_cell BK538.out 0).trans rfl; have hcz6_1 : w4.cell? ⟨gb538, 1, none⟩ = some (.int .i64 0) := (blk_cell BK538.out 1).trans rfl; have hcz6_2 : w4.cell? ⟨gb538, 2, none⟩ = some (.bool false) := (blk_cell BK538.out 2).trans rfl; have hcz6_3 : w4.cell? ⟨gb538, 3, none⟩ = some (.int .i64 0) := (blk_cell BK538.out 3).trans rfl; have hcz6_4 : w4.cell? ⟨gb538, 4, none⟩ = some (.int .u64 0) := (blk_cell BK538.out 4).trans rfl; have hcz6_5 : w4.cell? ⟨gb538, 5, none⟩ = some (.float .f64 0) := (blk_cell BK538.out 5).trans rfl; have hcz6_6 : w4.cell? ⟨gb538, 6, none⟩ = some (.string (⟨#[]⟩ : ByteArray)) := (blk_cell BK538.out 6).trans rfl; have hcz6_7 : w4.cell? ⟨gb538, 7, none⟩ = some (.slice none 0 0) := (blk_cell BK538.out 7).trans rfl; have hfz6_0 := blk_frozen BK538.out 0; have hfz6_1 := blk_frozen BK538.out 1; have hfz6_2 := blk_frozen BK538.out 2; have hfz6_3 := blk_frozen BK538.out 3; have hfz6_4 := blk_frozen BK538.out 4; have hfz6_5 := blk_frozen BK538.out 5; have hfz6_6 := blk_frozen BK538.out 6; have hfz6_7 := blk_frozen BK538.out 7))
 go_loopg [14] k (fun kq v14 w' => ∃ (x14_1 : Int) (x539007_1 : List (S43)) (u539007 : Value), v14 = .int .i64 x14_1 ∧ Aside0 (procfs_ConntrackStatEntry.l0 kq l1 (l1.length : Int) x14_1 a0 6 false 0 0 0 (⟨#[]⟩ : ByteArray) x539007_1 = some (r1, r2, r3, r4, r5, r6, r7, r8)) ∧ Aside0 (kq ≤ k) ∧ Aside0 (Kd.R k43 43 w' w.heap.size (fun k_ => k_ ≠ gb537 ∧ k_ ≠ gb538) u539007 x539007_1) ∧ Aside0 (w'.heap[gb537]? = some (.cells #[.string (⟨#[]⟩ : ByteArray), .int .i64 0, .bool false, .int .i64 0, .int .u64 0, .float .f64 0, .string (⟨#[]⟩ : ByteArray), (.slice none 0 0)] 43 (0, 0))) ∧ Aside0 (w'.heap[gb538]? = some (.cells #[.string a0, .int .i64 6, .bool false, .int .i64 0, .int .u64 0, .float .f64 0, .string (⟨#[]⟩ : ByteArray), u539007] 43 (0, 0))) ∧ Aside0 (Below w.heap.size w w'))
 case atStart => exact ⟨(0), (([] : List (S43))), (.slice none 0 0), (by first | rfl | (simp; done) | (simp [*]; done)), H', ⟨Nat.le_refl _⟩, ⟨by first | exact Kd.R_nil _ _ _ _ _ | exact Kd.N_nil _ _ _ _ _ | exact Kd.V_nil _ _ _ _ _ | exact Kd.Q_nil _ _ _ _ _ | exact Kd.S_nil _ _ _ _ _⟩, ⟨by (with_reducible repeat (first | refine blk_drewN ?_ _ | refine blk_drew ?_ | refine blk_alloc ?_ _)); refine blk_far ?_ NB537_538.out _; (with_reducible repeat (first | refine blk_drewN ?_ _ | refine blk_drew ?_ | refine blk_alloc ?_ _)); refine blk_far ?_ NB537_538.out _; (with_reducible repeat (first | refine blk_drewN ?_ _ | refine blk_drew ?_ | refine blk_alloc ?_ _)); refine blk_far ?_ NB537_538.out _; (with_reducible repeat (first | refine blk_drewN ?_ _ | refine blk_drew ?_ | refine blk_alloc ?_ _)); refine blk_far ?_ NB537_538.out _; (with_reducible repeat (first | refine blk_drewN ?_ _ | refine blk_drew ?_ | refine blk_alloc ?_ _)); refine blk_far ?_ NB537_538.out _; (with_reducible repeat (first | refine blk_drewN ?_ _ | refine blk_drew ?_ | refine blk_alloc ?_ _)); refine blk_far ?_ NB537_538.out _; (with_reducible repeat (first | refine blk_drewN ?_ _ | refine blk_drew ?_ | refine blk_alloc ?_ _)); refine blk_far ?_ NB537_538.out _; (with_reducible repeat (first | refine blk_drewN ?_ _ | refine blk_drew ?_ | refine blk_alloc ?_ _)); refine blk_far ?_ NB537_538.out _; (with_reducible repeat (first | refine blk_drewN ?_ _ | refine blk_drew ?_ | refine blk_alloc ?_ _)); exact BK537.out⟩, ⟨by (with_reducible repeat (first | refine blk_drewN ?_ _ | refine blk_drew ?_ | refine blk_alloc ?_ _)); refine blk_put (cs := #[.string a0, .int .i64 6, .bool false, .int .i64 0, .int .u64 0, .float .f64 0, .string (⟨#[]⟩ : ByteArray), .slice none 0 0]) ?_ 7 _ rfl; (with_reducible repeat (first | refine blk_drewN ?_ _ | refine blk_drew ?_ | refine blk_alloc ?_ _)); refine blk_put (cs := #[.string a0, .int .i64 6, .bool false, .int .i64 0, .int .u64 0, .float .f64 0, .string (⟨#[]⟩ : ByteArray), .slice none 0 0]) ?_ 6 _ rfl; (with_reducible repeat (first | refine blk_drewN ?_ _ | refine blk_drew ?_ | refine blk_alloc ?_ _)); refine blk_put (cs := #[.string a0, .int .i64 6, .bool false, .int .i64 0, .int .u64 0, .float .f64 0, .string (⟨#[]⟩ : ByteArray), .slice none 0 0]) ?_ 5 _ rfl; (with_reducible repeat (first | refine blk_drewN ?_ _ | refine blk_drew ?_ | refine blk_alloc ?_ _)); refine blk_put (cs := #[.string a0, .int .i64 6, .bool false, .int .i64 0, .int .u64 0, .float .f64 0, .string (⟨#[]⟩ : ByteArray), .slice none 0 0]) ?_ 4 _ rfl; (with_reducible repeat (first | refine blk_drewN ?_ _ | refine blk_drew ?_ | refine blk_alloc ?_ _)); refine blk_put (cs := #[.string a0, .int .i64 6, .bool false, .int .i64 0, .int .u64 0, .float .f64 0, .string (⟨#[]⟩ : ByteArray), .slice none 0 0]) ?_ 3 _ rfl; (with_reducible repeat (first | refine blk_drewN ?_ _ | refine blk_drew ?_ | refine blk_alloc ?_ _)); refine blk_put (cs := #[.string a0, .int .i64 6, .bool false, .int .i64 0, .int .u64 0, .float .f64 0, .string (⟨#[]⟩ : ByteArray), .slice none 0 0]) ?_ 2 _ rfl; (with_reducible repeat (first | refine blk_drewN ?_ _ | refine blk_drew ?_ | refine blk_alloc ?_ _)); refine blk_put (cs := #[.string a0, .int .i64 0, .bool false, .int .i64 0, .int .u64 0, .float .f64 0, .string (⟨#[]⟩ : ByteArray), .slice none 0 0]) ?_ 1 _ rfl; (with_reducible repeat (first | refine blk_drewN ?_ _ | refine blk_drew ?_ | refine blk_alloc ?_ _)); refine blk_put (cs := #[.string (⟨#[]⟩ : ByteArray), .int .i64 0, .bool false, .int .i64 0, .int .u64 0, .float .f64 0, .string (⟨#[]⟩ : ByteArray), .slice none 0 0]) ?_ 0 _ rfl; (with_reducible repeat (first | refine blk_drewN ?_ _ | refine blk_drew ?_ | refine blk_alloc ?_ _)); exact BK538.out⟩, ⟨by repeat (first | (with_reducible first | exact HB.out | apply below_alloc | apply pw_below_drewN | apply below_drew1 | refine below_set ?_ GE537.out | refine below_set ?_ GE538.out) | exact HB.out)⟩⟩
 case round =>
  clear H'
  try clear c1
  try clear p2
  try clear c5
  try clear hcz6_0
  try clear hcz6_1
  try clear hcz6_2
  try clear hcz6_3
  try clear hcz6_4
  try clear hcz6_5
  try clear hcz6_6
  try clear hcz6_7
  try clear hfz6_0
  try clear hfz6_1
  try clear hfz6_2
  try clear hfz6_3
  try clear hfz6_4
  try clear hfz6_5
  try clear hfz6_6
  try clear hfz6_7
  obtain ⟨x14_1, x539007_1, u539007, rfl, HA, HK1, HO_539007, BK537, BK538, HB⟩ := hrel
  cases gk with
  | zero => exact absurd HA.out (by simp [procfs_ConntrackStatEntry.l0])
  | succ k1 =>
   have H := HA.out
   clear HA
   simp only [procfs_ConntrackStatEntry.l0] at H
   by_cases c7 : x14_1 < (l1.length : Int)
   ·rw [if_pos c7] at H
    have c7b0 : decide (x14_1 < (l1.length : Int)) = true := decide_eq_true c7
    clear c7
    replace H := guard_inv H
    obtain ⟨c8, H⟩ := H
    have c8b0 : decide (0 ≤ x14_1) = true := decide_eq_true c8
    clear c8
    replace H := guard_inv H
    obtain ⟨c9, H⟩ := H
    have c9b0 : decide (x14_1 < (l1.length : Int)) = true := decide_eq_true c9
    clear c9
    replace H := Option.bind_eq_some_iff.mp H
    obtain ⟨⟨t541, t542, t543, t544, t545, t546, t547, t548⟩, A100, H⟩ := H
    replace H : (if x539007_1.length < 1466015503701 then (procfs_ConntrackStatEntry.l0 k1 l1 (l1.length : Int) (wrap64 (x14_1 + 1)) a0 6 false 0 0 0 (⟨#[]⟩ : ByteArray) (x539007_1 ++ [(⟨t541, t542, t543, t544, t545, t546, t547, t548⟩ : S43)])) else (none)) = some (r1, r2, r3, r4, r5, r6, r7, r8) := H
    have A10 := Aside0.mk A100
    clear A100
    replace H := guard_inv H
    obtain ⟨c11, H⟩ := H
    have LMc11 := Aside0.mk c11
    clear c11
    obtain ⟨y551, hy551⟩ : ∃ y_ : List (S43), y_ = (x539007_1 ++ [(⟨t541, t542, t543, t544, t545, t546, t547, t548⟩ : S43)]) := ⟨_, rfl⟩
    replace H : (procfs_ConntrackStatEntry.l0 k1 l1 (l1.length : Int) (wrap64 (x14_1 + 1)) a0 6 false 0 0 0 (⟨#[]⟩ : ByteArray) y551) = some (r1, r2, r3, r4, r5, r6, r7, r8) := by first | (rw [hy551]; with_reducible exact H) | (have H2_ := (Option.bind_some _ _).symm.trans H; rw [hy551]; with_reducible exact H2_) | (have H2_ := (Option.bind_some _ _).symm.trans H; with_reducible exact H2_) | with_reducible exact H | (rw [hy551]; exact H) | exact H
    have Ny551 := Aside0.mk hy551
    clear hy551
    have H' := Aside0.mk H
    clear H
    have p539 : 0 ≤ (x14_1 : Int) := of_decide_eq_true (by first | (with_reducible assumption) | assumption)
    have q539 : x14_1 < (l1.length : Int) := of_decide_eq_true (by first | (with_reducible assumption) | assumption)
    obtain ⟨ad539, e539, hx539_0, hx539_1, hx539_2, hx539_3, hx539_4, hx539_5, hx539_6, hx539_7, hx539_8, hx539_9, hx539_10, hx539_11, hx539_12⟩ := at_T109 HR1.out x14_1 p539 q539
    cases e539
    replace hx539_0 := (HB.out.cell (World.block_lt_of_cell? w _ hx539_0)).trans hx539_0
    replace hx539_1 := (HB.out.cell (World.block_lt_of_cell? w _ hx539_1)).trans hx539_1
    replace hx539_2 := (HB.out.cell (World.block_lt_of_cell? w _ hx539_2)).trans hx539_2
    replace hx539_3 := (HB.out.cell (World.block_lt_of_cell? w _ hx539_3)).trans hx539_3
    replace hx539_4 := (HB.out.cell (World.block_lt_of_cell? w _ hx539_4)).trans hx539_4
    replace hx539_5 := (HB.out.cell (World.block_lt_of_cell? w _ hx539_5)).trans hx539_5
    replace hx539_6 := (HB.out.cell (World.block_lt_of_cell? w _ hx539_6)).trans hx539_6
    replace hx539_7 := (HB.out.cell (World.block_lt_of_cell? w _ hx539_7)).trans hx539_7
    replace hx539_8 := (HB.out.cell (World.block_lt_of_cell? w _ hx539_8)).trans hx539_8
    replace hx539_9 := (HB.out.cell (World.block_lt_of_cell? w _ hx539_9)).trans hx539_9
    replace hx539_10 := (HB.out.cell (World.block_lt_of_cell? w _ hx539_10)).trans hx539_10
    replace hx539_11 := (HB.out.cell (World.block_lt_of_cell? w _ hx539_11)).trans hx539_11
    replace hx539_12 := (HB.out.cell (World.block_lt_of_cell? w _ hx539_12)).trans hx539_12
    replace p539 := eq_true p539
    replace q539 := eq_true q539
    try go_wp2_with (first | ((with_reducible refine gate_dst (N := 9) rfl ?_); refine box_event ?hg (N := 9) ?hd (cs := #[.int .u64 0, .int .u64 0, .int .u64 0, .int .u64 0, .int .u64 0, .int .u64 0, .int .u64 0, .int .u64 0, .int .u64 0, .int .u64 0, .int .u64 0, .int .u64 0, .int .u64 0]) (t := 109) ?hr ?_; (case hd => rfl); (case hg => rfl); (case hr => first | (go_simp; done) | (go_simp; rfl)); intro gb540 hg w12 hbox hb; have n0_ := Aside0.mk (Kd.R_below (by (with_reducible repeat (first | apply Kd.R_alloc | apply Kd.R_drewN | apply Kd.R_drew)); exact HO_539007.out) hb); have n1_ := Aside0.mk (blk_below (g := gb537) (o := .cells #[.string (⟨#[]⟩ : ByteArray), .int .i64 0, .bool false, .int .i64 0, .int .u64 0, .float .f64 0, .string (⟨#[]⟩ : ByteArray), .slice none 0 0] 43 (0, 0)) (by (with_reducible repeat (first | refine blk_drewN ?_ _ | refine blk_drew ?_ | refine blk_alloc ?_ _)); exact BK537.out) hb); have n2_ := Aside0.mk (blk_below (g := gb538) (o := .cells #[.string a0, .int .i64 6, .bool false, .int .i64 0, .int .u64 0, .float .f64 0, .string (⟨#[]⟩ : ByteArray), u539007] 43 (0, 0)) (by (with_reducible repeat (first | refine blk_drewN ?_ _ | refine blk_drew ?_ | refine blk_alloc ?_ _)); exact BK538.out) hb); have n3_ := Aside0.mk (below_step (by repeat (first | (with_reducible first | exact HB.out | apply below_alloc | apply pw_below_drewN | apply below_drew1 | refine below_set ?_ GE537.out | refine below_set ?_ GE538.out) | exact HB.out)) hb); have n4_ := Aside0.mk (hbox); have n5_ := Aside0.mk ((by rw [hg]; exact (below_size (by repeat (first | (with_reducible first | exact HB.out | apply below_alloc | apply pw_below_drewN | apply below_drew1 | refine below_set ?_ GE537.out | refine below_set ?_ GE538.out) | exact HB.out))) : w.heap.size ≤ gb540)); have n6_ := Aside0.mk ((by rw [hg]; exact (below_size (by repeat (first | (with_reducible first | exact HB.out | apply below_alloc | apply pw_below_drewN | apply below_drew1 | refine below_set ?_ GE537.out | refine below_set ?_ GE538.out) | exact HB.out))) : w.heap.size ≤ gb540)); have n7_ := Aside0.mk ((by rw [hg]; exact Nat.ne_of_lt (blk_lt (g := gb537) (o := .cells #[.string (⟨#[]⟩ : ByteArray), .int .i64 0, .bool false, .int .i64 0, .int .u64 0, .float .f64 0, .string (⟨#[]⟩ : ByteArray), .slice none 0 0] 43 (0, 0)) (by (with_reducible repeat (first | refine blk_drewN ?_ _ | refine blk_drew ?_ | refine blk_alloc ?_ _)); exact BK537.out)) : gb537 ≠ gb540)); have n8_ := Aside0.mk ((by rw [hg]; exact Nat.ne_of_gt (blk_lt (g := gb537) (o := .cells #[.string (⟨#[]⟩ : ByteArray), .int .i64 0, .bool false, .int .i64 0, .int .u64 0, .float .f64 0, .string (⟨#[]⟩ : ByteArray), .slice none 0 0] 43 (0, 0)) (by (with_reducible repeat (first | refine blk_drewN ?_ _ | refine blk_drew ?_ | refine blk_alloc ?_ _)); exact BK537.out)) : gb540 ≠ gb537)); have n9_ := Aside0.mk ((by rw [hg]; exact Nat.ne_of_lt (blk_lt (g := gb538) (o := .cells #[.string a0, .int .i64 6, .bool false, .int .i64 0, .int .u64 0, .float .f64 0, .string (⟨#[]⟩ : ByteArray), u539007] 43 (0, 0)) (by (with_reducible repeat (first | refine blk_drewN ?_ _ | refine blk_drew ?_ | refine blk_alloc ?_ _)); exact BK538.out)) : gb538 ≠ gb540)); have n10_ := Aside0.mk ((by rw [hg]; exact Nat.ne_of_gt (blk_lt (g := gb538) (o := .cells #[.string a0, .int .i64 6, .bool false, .int .i64 0, .int .u64 0, .float .f64 0, .string (⟨#[]⟩ : ByteArray), u539007] 43 (0, 0)) (by (with_reducible repeat (first | refine blk_drewN ?_ _ | refine blk_drew ?_ | refine blk_alloc ?_ _)); exact BK538.out)) : gb540 ≠ gb538)); clear HO_539007; clear BK537; clear BK538; clear HB; have HO_539007 := n0_; have BK537 := n1_; have BK538 := n2_; have HB := n3_; have BK540 := n4_; have GW540 := n5_; have GE540 := n6_; have NB537_540 := n7_; have NB540_537 := n8_; have NB538_540 := n9_; have NB540_538 := n10_; clear n0_ n1_ n2_ n3_ n4_ n5_ n6_ n7_ n8_ n9_ n10_; clear hb hbox hg; have hnb13 := NB540_537.out; have hnc13 := NB537_540.out; have hnb14 := NB540_538.out; have hnc14 := NB538_540.out; have hcz15_0 : w12.cell? ⟨gb540, 0, none⟩ = some (.int .u64 0) := (blk_cell BK540.out 0).trans rfl; have hcz15_1 : w12.cell? ⟨gb540, 1, none⟩ = some (.int .u64 0) := (blk_cell BK540.out 1).trans rfl; have hcz15_2 : w12.cell? ⟨gb540, 2, none⟩ = some (.int .u64 0) := (blk_cell BK540.out 2).trans rfl; have hcz15_3 : w12.cell? ⟨gb540, 3, none⟩ = some (.int .u64 0) := (blk_cell BK540.out 3).trans rfl; have hcz15_4 : w12.cell? ⟨gb540, 4, none⟩ = some (.int .u64 0) := (blk_cell BK540.out 4).trans rfl; have hcz15_5 : w12.cell? ⟨gb540, 5, none⟩ = some (.int .u64 0) := (blk_cell BK540.out 5).trans rfl; have hcz15_6 : w12.cell? ⟨gb540, 6, none⟩ = some (.int .u64 0) := (blk_cell BK540.out 6).trans rfl; have hcz15_7 : w12.cell? ⟨gb540, 7, none⟩ = some (.int .u64 0) := (blk_cell BK540.out 7).trans rfl; have hcz15_8 : w12.cell? ⟨gb540, 8, none⟩ = some (.int .u64 0) := (blk_cell BK540.out 8).trans rfl; have hcz15_9 : w12.cell? ⟨gb540, 9, none⟩ = some (.int .u64 0) := (blk_cell BK540.out 9).trans rfl; have hcz15_10 : w12.cell? ⟨gb540, 10, none⟩ = some (.int .u64 0) := (blk_cell BK540.out 10).trans rfl; have hcz15_11 : w12.cell? ⟨gb540, 11, none⟩ = some (.int .u64 0) := (blk_cell BK540.out 11).trans rfl; have hcz15_12 : w12.cell? ⟨gb540, 12, none⟩ = some (.int .u64 0) := (blk_cell BK540.out 12).trans rfl; have hfz15_0 := blk_frozen BK540.out 0; have hfz15_1 := blk_frozen BK540.out 1; have hfz15_2 := blk_frozen BK540.out 2; have hfz15_3 := blk_frozen BK540.out 3; have hfz15_4 := blk_frozen BK540.out 4; have hfz15_5 := blk_frozen BK540.out 5; have hfz15_6 := blk_frozen BK540.out 6; have hfz15_7 := blk_frozen BK540.out 7; have hfz15_8 := blk_frozen BK540.out 8; have hfz15_9 := blk_frozen BK540.out 9; have hfz15_10 := blk_frozen BK540.out 10; have hfz15_11 := blk_frozen BK540.out 11; have hfz15_12 := blk_frozen BK540.out 12))
    have n0_ : Aside0 (Kd.R k43 43 (((((((((((((w12.setCell ⟨gb540, 0, none⟩ (.int .u64 ((rd_T109 l1 x14_1).f0))).setCell ⟨gb540, 1, none⟩ (.int .u64 ((rd_T109 l1 x14_1).f1))).setCell ⟨gb540, 2, none⟩ (.int .u64 ((rd_T109 l1 x14_1).f2))).setCell ⟨gb540, 3, none⟩ (.int .u64 ((rd_T109 l1 x14_1).f3))).setCell ⟨gb540, 4, none⟩ (.int .u64 ((rd_T109 l1 x14_1).f4))).setCell ⟨gb540, 5, none⟩ (.int .u64 ((rd_T109 l1 x14_1).f5))).setCell ⟨gb540, 6, none⟩ (.int .u64 ((rd_T109 l1 x14_1).f6))).setCell ⟨gb540, 7, none⟩ (.int .u64 ((rd_T109 l1 x14_1).f7))).setCell ⟨gb540, 8, none⟩ (.int .u64 ((rd_T109 l1 x14_1).f8))).setCell ⟨gb540, 9, none⟩ (.int .u64 ((rd_T109 l1 x14_1).f9))).setCell ⟨gb540, 10, none⟩ (.int .u64 ((rd_T109 l1 x14_1).f10))).setCell ⟨gb540, 11, none⟩ (.int .u64 ((rd_T109 l1 x14_1).f11))).setCell ⟨gb540, 12, none⟩ (.int .u64 ((rd_T109 l1 x14_1).f12))) w.heap.size (fun k_ => k_ ≠ gb537 ∧ k_ ≠ gb538) u539007 x539007_1) := ⟨by (with_reducible repeat (first | apply Kd.R_alloc | apply Kd.R_drewN | apply Kd.R_drew)); exact Kd.R_mono (Kd.R_far (p := ⟨gb540, 12, none⟩) (Kd.R_far (p := ⟨gb540, 11, none⟩) (Kd.R_far (p := ⟨gb540, 10, none⟩) (Kd.R_far (p := ⟨gb540, 9, none⟩) (Kd.R_far (p := ⟨gb540, 8, none⟩) (Kd.R_far (p := ⟨gb540, 7, none⟩) (Kd.R_far (p := ⟨gb540, 6, none⟩) (Kd.R_far (p := ⟨gb540, 5, none⟩) (Kd.R_far (p := ⟨gb540, 4, none⟩) (Kd.R_far (p := ⟨gb540, 3, none⟩) (Kd.R_far (p := ⟨gb540, 2, none⟩) (Kd.R_far (p := ⟨gb540, 1, none⟩) (Kd.R_far (p := ⟨gb540, 0, none⟩) (Kd.R_types HO_539007.out BK540.out (by decide)) (fun _ hk => hk.2) (.int .u64 ((rd_T109 l1 x14_1).f0))) (fun _ hk => hk.2) (.int .u64 ((rd_T109 l1 x14_1).f1))) (fun _ hk => hk.2) (.int .u64 ((rd_T109 l1 x14_1).f2))) (fun _ hk => hk.2) (.int .u64 ((rd_T109 l1 x14_1).f3))) (fun _ hk => hk.2) (.int .u64 ((rd_T109 l1 x14_1).f4))) (fun _ hk => hk.2) (.int .u64 ((rd_T109 l1 x14_1).f5))) (fun _ hk => hk.2) (.int .u64 ((rd_T109 l1 x14_1).f6))) (fun _ hk => hk.2) (.int .u64 ((rd_T109 l1 x14_1).f7))) (fun _ hk => hk.2) (.int .u64 ((rd_T109 l1 x14_1).f8))) (fun _ hk => hk.2) (.int .u64 ((rd_T109 l1 x14_1).f9))) (fun _ hk => hk.2) (.int .u64 ((rd_T109 l1 x14_1).f10))) (fun _ hk => hk.2) (.int .u64 ((rd_T109 l1 x14_1).f11))) (fun _ hk => hk.2) (.int .u64 ((rd_T109 l1 x14_1).f12))) (fun _ hk => ⟨hk.1.1, hk.1.2⟩)⟩
    have n1_ : Aside0 ((((((((((((((w12.setCell ⟨gb540, 0, none⟩ (.int .u64 ((rd_T109 l1 x14_1).f0))).setCell ⟨gb540, 1, none⟩ (.int .u64 ((rd_T109 l1 x14_1).f1))).setCell ⟨gb540, 2, none⟩ (.int .u64 ((rd_T109 l1 x14_1).f2))).setCell ⟨gb540, 3, none⟩ (.int .u64 ((rd_T109 l1 x14_1).f3))).setCell ⟨gb540, 4, none⟩ (.int .u64 ((rd_T109 l1 x14_1).f4))).setCell ⟨gb540, 5, none⟩ (.int .u64 ((rd_T109 l1 x14_1).f5))).setCell ⟨gb540, 6, none⟩ (.int .u64 ((rd_T109 l1 x14_1).f6))).setCell ⟨gb540, 7, none⟩ (.int .u64 ((rd_T109 l1 x14_1).f7))).setCell ⟨gb540, 8, none⟩ (.int .u64 ((rd_T109 l1 x14_1).f8))).setCell ⟨gb540, 9, none⟩ (.int .u64 ((rd_T109 l1 x14_1).f9))).setCell ⟨gb540, 10, none⟩ (.int .u64 ((rd_T109 l1 x14_1).f10))).setCell ⟨gb540, 11, none⟩ (.int .u64 ((rd_T109 l1 x14_1).f11))).setCell ⟨gb540, 12, none⟩ (.int .u64 ((rd_T109 l1 x14_1).f12))).heap[gb537]? = some (.cells #[.string (⟨#[]⟩ : ByteArray), .int .i64 0, .bool false, .int .i64 0, .int .u64 0, .float .f64 0, .string (⟨#[]⟩ : ByteArray), .slice none 0 0] 43 (0, 0))) := ⟨by (with_reducible repeat (first | refine blk_drewN ?_ _ | refine blk_drew ?_ | refine blk_alloc ?_ _)); refine blk_far ?_ NB537_540.out _; (with_reducible repeat (first | refine blk_drewN ?_ _ | refine blk_drew ?_ | refine blk_alloc ?_ _)); refine blk_far ?_ NB537_540.out _; (with_reducible repeat (first | refine blk_drewN ?_ _ | refine blk_drew ?_ | refine blk_alloc ?_ _)); refine blk_far ?_ NB537_540.out _; (with_reducible repeat (first | refine blk_drewN ?_ _ | refine blk_drew ?_ | refine blk_alloc ?_ _)); refine blk_far ?_ NB537_540.out _; (with_reducible repeat (first | refine blk_drewN ?_ _ | refine blk_drew ?_ | refine blk_alloc ?_ _)); refine blk_far ?_ NB537_540.out _; (with_reducible repeat (first | refine blk_drewN ?_ _ | refine blk_drew ?_ | refine blk_alloc ?_ _)); refine blk_far ?_ NB537_540.out _; (with_reducible repeat (first | refine blk_drewN ?_ _ | refine blk_drew ?_ | refine blk_alloc ?_ _)); refine blk_far ?_ NB537_540.out _; (with_reducible repeat (first | refine blk_drewN ?_ _ | refine blk_drew ?_ | refine blk_alloc ?_ _)); refine blk_far ?_ NB537_540.out _; (with_reducible repeat (first | refine blk_drewN ?_ _ | refine blk_drew ?_ | refine blk_alloc ?_ _)); refine blk_far ?_ NB537_540.out _; (with_reducible repeat (first | refine blk_drewN ?_ _ | refine blk_drew ?_ | refine blk_alloc ?_ _)); refine blk_far ?_ NB537_540.out _; (with_reducible repeat (first | refine blk_drewN ?_ _ | refine blk_drew ?_ | refine blk_alloc ?_ _)); refine blk_far ?_ NB537_540.out _; (with_reducible repeat (first | refine blk_drewN ?_ _ | refine blk_drew ?_ | refine blk_alloc ?_ _)); refine blk_far ?_ NB537_540.out _; (with_reducible repeat (first | refine blk_drewN ?_ _ | refine blk_drew ?_ | refine blk_alloc ?_ _)); refine blk_far ?_ NB537_540.out _; (with_reducible repeat (first | refine blk_drewN ?_ _ | refine blk_drew ?_ | refine blk_alloc ?_ _)); exact BK537.out⟩
    have n2_ : Aside0 ((((((((((((((w12.setCell ⟨gb540, 0, none⟩ (.int .u64 ((rd_T109 l1 x14_1).f0))).setCell ⟨gb540, 1, none⟩ (.int .u64 ((rd_T109 l1 x14_1).f1))).setCell ⟨gb540, 2, none⟩ (.int .u64 ((rd_T109 l1 x14_1).f2))).setCell ⟨gb540, 3, none⟩ (.int .u64 ((rd_T109 l1 x14_1).f3))).setCell ⟨gb540, 4, none⟩ (.int .u64 ((rd_T109 l1 x14_1).f4))).setCell ⟨gb540, 5, none⟩ (.int .u64 ((rd_T109 l1 x14_1).f5))).setCell ⟨gb540, 6, none⟩ (.int .u64 ((rd_T109 l1 x14_1).f6))).setCell ⟨gb540, 7, none⟩ (.int .u64 ((rd_T109 l1 x14_1).f7))).setCell ⟨gb540, 8, none⟩ (.int .u64 ((rd_T109 l1 x14_1).f8))).setCell ⟨gb540, 9, none⟩ (.int .u64 ((rd_T109 l1 x14_1).f9))).setCell ⟨gb540, 10, none⟩ (.int .u64 ((rd_T109 l1 x14_1).f10))).setCell ⟨gb540, 11, none⟩ (.int .u64 ((rd_T109 l1 x14_1).f11))).setCell ⟨gb540, 12, none⟩ (.int .u64 ((rd_T109 l1 x14_1).f12))).heap[gb538]? = some (.cells #[.string a0, .int .i64 6, .bool false, .int .i64 0, .int .u64 0, .float .f64 0, .string (⟨#[]⟩ : ByteArray), u539007] 43 (0, 0))) := ⟨by (with_reducible repeat (first | refine blk_drewN ?_ _ | refine blk_drew ?_ | refine blk_alloc ?_ _)); refine blk_far ?_ NB538_540.out _; (with_reducible repeat (first | refine blk_drewN ?_ _ | refine blk_drew ?_ | refine blk_alloc ?_ _)); refine blk_far ?_ NB538_540.out _; (with_reducible repeat (first | refine blk_drewN ?_ _ | refine blk_drew ?_ | refine blk_alloc ?_ _)); refine blk_far ?_ NB538_540.out _; (with_reducible repeat (first | refine blk_drewN ?_ _ | refine blk_drew ?_ | refine blk_alloc ?_ _)); refine blk_far ?_ NB538_540.out _; (with_reducible repeat (first | refine blk_drewN ?_ _ | refine blk_drew ?_ | refine blk_alloc ?_ _)); refine blk_far ?_ NB538_540.out _; (with_reducible repeat (first | refine blk_drewN ?_ _ | refine blk_drew ?_ | refine blk_alloc ?_ _)); refine blk_far ?_ NB538_540.out _; (with_reducible repeat (first | refine blk_drewN ?_ _ | refine blk_drew ?_ | refine blk_alloc ?_ _)); refine blk_far ?_ NB538_540.out _; (with_reducible repeat (first | refine blk_drewN ?_ _ | refine blk_drew ?_ | refine blk_alloc ?_ _)); refine blk_far ?_ NB538_540.out _; (with_reducible repeat (first | refine blk_drewN ?_ _ | refine blk_drew ?_ | refine blk_alloc ?_ _)); refine blk_far ?_ NB538_540.out _; (with_reducible repeat (first | refine blk_drewN ?_ _ | refine blk_drew ?_ | refine blk_alloc ?_ _)); refine blk_far ?_ NB538_540.out _; (with_reducible repeat (first | refine blk_drewN ?_ _ | refine blk_drew ?_ | refine blk_alloc ?_ _)); refine blk_far ?_ NB538_540.out _; (with_reducible repeat (first | refine blk_drewN ?_ _ | refine blk_drew ?_ | refine blk_alloc ?_ _)); refine blk_far ?_ NB538_540.out _; (with_reducible repeat (first | refine blk_drewN ?_ _ | refine blk_drew ?_ | refine blk_alloc ?_ _)); refine blk_far ?_ NB538_540.out _; (with_reducible repeat (first | refine blk_drewN ?_ _ | refine blk_drew ?_ | refine blk_alloc ?_ _)); exact BK538.out⟩
    have n3_ : Aside0 ((((((((((((((w12.setCell ⟨gb540, 0, none⟩ (.int .u64 ((rd_T109 l1 x14_1).f0))).setCell ⟨gb540, 1, none⟩ (.int .u64 ((rd_T109 l1 x14_1).f1))).setCell ⟨gb540, 2, none⟩ (.int .u64 ((rd_T109 l1 x14_1).f2))).setCell ⟨gb540, 3, none⟩ (.int .u64 ((rd_T109 l1 x14_1).f3))).setCell ⟨gb540, 4, none⟩ (.int .u64 ((rd_T109 l1 x14_1).f4))).setCell ⟨gb540, 5, none⟩ (.int .u64 ((rd_T109 l1 x14_1).f5))).setCell ⟨gb540, 6, none⟩ (.int .u64 ((rd_T109 l1 x14_1).f6))).setCell ⟨gb540, 7, none⟩ (.int .u64 ((rd_T109 l1 x14_1).f7))).setCell ⟨gb540, 8, none⟩ (.int .u64 ((rd_T109 l1 x14_1).f8))).setCell ⟨gb540, 9, none⟩ (.int .u64 ((rd_T109 l1 x14_1).f9))).setCell ⟨gb540, 10, none⟩ (.int .u64 ((rd_T109 l1 x14_1).f10))).setCell ⟨gb540, 11, none⟩ (.int .u64 ((rd_T109 l1 x14_1).f11))).setCell ⟨gb540, 12, none⟩ (.int .u64 ((rd_T109 l1 x14_1).f12))).heap[gb540]? = some (.cells #[.int .u64 ((rd_T109 l1 x14_1).f0), .int .u64 ((rd_T109 l1 x14_1).f1), .int .u64 ((rd_T109 l1 x14_1).f2), .int .u64 ((rd_T109 l1 x14_1).f3), .int .u64 ((rd_T109 l1 x14_1).f4), .int .u64 ((rd_T109 l1 x14_1).f5), .int .u64 ((rd_T109 l1 x14_1).f6), .int .u64 ((rd_T109 l1 x14_1).f7), .int .u64 ((rd_T109 l1 x14_1).f8), .int .u64 ((rd_T109 l1 x14_1).f9), .int .u64 ((rd_T109 l1 x14_1).f10), .int .u64 ((rd_T109 l1 x14_1).f11), .int .u64 ((rd_T109 l1 x14_1).f12)] 109 (0, 0))) := ⟨by (with_reducible repeat (first | refine blk_drewN ?_ _ | refine blk_drew ?_ | refine blk_alloc ?_ _)); refine blk_put (cs := #[.int .u64 ((rd_T109 l1 x14_1).f0), .int .u64 ((rd_T109 l1 x14_1).f1), .int .u64 ((rd_T109 l1 x14_1).f2), .int .u64 ((rd_T109 l1 x14_1).f3), .int .u64 ((rd_T109 l1 x14_1).f4), .int .u64 ((rd_T109 l1 x14_1).f5), .int .u64 ((rd_T109 l1 x14_1).f6), .int .u64 ((rd_T109 l1 x14_1).f7), .int .u64 ((rd_T109 l1 x14_1).f8), .int .u64 ((rd_T109 l1 x14_1).f9), .int .u64 ((rd_T109 l1 x14_1).f10), .int .u64 ((rd_T109 l1 x14_1).f11), .int .u64 0]) ?_ 12 _ rfl; (with_reducible repeat (first | refine blk_drewN ?_ _ | refine blk_drew ?_ | refine blk_alloc ?_ _)); refine blk_put (cs := #[.int .u64 ((rd_T109 l1 x14_1).f0), .int .u64 ((rd_T109 l1 x14_1).f1), .int .u64 ((rd_T109 l1 x14_1).f2), .int .u64 ((rd_T109 l1 x14_1).f3), .int .u64 ((rd_T109 l1 x14_1).f4), .int .u64 ((rd_T109 l1 x14_1).f5), .int .u64 ((rd_T109 l1 x14_1).f6), .int .u64 ((rd_T109 l1 x14_1).f7), .int .u64 ((rd_T109 l1 x14_1).f8), .int .u64 ((rd_T109 l1 x14_1).f9), .int .u64 ((rd_T109 l1 x14_1).f10), .int .u64 0, .int .u64 0]) ?_ 11 _ rfl; (with_reducible repeat (first | refine blk_drewN ?_ _ | refine blk_drew ?_ | refine blk_alloc ?_ _)); refine blk_put (cs := #[.int .u64 ((rd_T109 l1 x14_1).f0), .int .u64 ((rd_T109 l1 x14_1).f1), .int .u64 ((rd_T109 l1 x14_1).f2), .int .u64 ((rd_T109 l1 x14_1).f3), .int .u64 ((rd_T109 l1 x14_1).f4), .int .u64 ((rd_T109 l1 x14_1).f5), .int .u64 ((rd_T109 l1 x14_1).f6), .int .u64 ((rd_T109 l1 x14_1).f7), .int .u64 ((rd_T109 l1 x14_1).f8), .int .u64 ((rd_T109 l1 x14_1).f9), .int .u64 0, .int .u64 0, .int .u64 0]) ?_ 10 _ rfl; (with_reducible repeat (first | refine blk_drewN ?_ _ | refine blk_drew ?_ | refine blk_alloc ?_ _)); refine blk_put (cs := #[.int .u64 ((rd_T109 l1 x14_1).f0), .int .u64 ((rd_T109 l1 x14_1).f1), .int .u64 ((rd_T109 l1 x14_1).f2), .int .u64 ((rd_T109 l1 x14_1).f3), .int .u64 ((rd_T109 l1 x14_1).f4), .int .u64 ((rd_T109 l1 x14_1).f5), .int .u64 ((rd_T109 l1 x14_1).f6), .int .u64 ((rd_T109 l1 x14_1).f7), .int .u64 ((rd_T109 l1 x14_1).f8), .int .u64 0, .int .u64 0, .int .u64 0, .int .u64 0]) ?_ 9 _ rfl; (with_reducible repeat (first | refine blk_drewN ?_ _ | refine blk_drew ?_ | refine blk_alloc ?_ _)); refine blk_put (cs := #[.int .u64 ((rd_T109 l1 x14_1).f0), .int .u64 ((rd_T109 l1 x14_1).f1), .int .u64 ((rd_T109 l1 x14_1).f2), .int .u64 ((rd_T109 l1 x14_1).f3), .int .u64 ((rd_T109 l1 x14_1).f4), .int .u64 ((rd_T109 l1 x14_1).f5), .int .u64 ((rd_T109 l1 x14_1).f6), .int .u64 ((rd_T109 l1 x14_1).f7), .int .u64 0, .int .u64 0, .int .u64 0, .int .u64 0, .int .u64 0]) ?_ 8 _ rfl; (with_reducible repeat (first | refine blk_drewN ?_ _ | refine blk_drew ?_ | refine blk_alloc ?_ _)); refine blk_put (cs := #[.int .u64 ((rd_T109 l1 x14_1).f0), .int .u64 ((rd_T109 l1 x14_1).f1), .int .u64 ((rd_T109 l1 x14_1).f2), .int .u64 ((rd_T109 l1 x14_1).f3), .int .u64 ((rd_T109 l1 x14_1).f4), .int .u64 ((rd_T109 l1 x14_1).f5), .int .u64 ((rd_T109 l1 x14_1).f6), .int .u64 0, .int .u64 0, .int .u64 0, .int .u64 0, .int .u64 0, .int .u64 0]) ?_ 7 _ rfl; (with_reducible repeat (first | refine blk_drewN ?_ _ | refine blk_drew ?_ | refine blk_alloc ?_ _)); refine blk_put (cs := #[.int .u64 ((rd_T109 l1 x14_1).f0), .int .u64 ((rd_T109 l1 x14_1).f1), .int .u64 ((rd_T109 l1 x14_1).f2), .int .u64 ((rd_T109 l1 x14_1).f3), .int .u64 ((rd_T109 l1 x14_1).f4), .int .u64 ((rd_T109 l1 x14_1).f5), .int .u64 0, .int .u64 0, .int .u64 0, .int .u64 0, .int .u64 0, .int .u64 0, .int .u64 0]) ?_ 6 _ rfl; (with_reducible repeat (first | refine blk_drewN ?_ _ | refine blk_drew ?_ | refine blk_alloc ?_ _)); refine blk_put (cs := #[.int .u64 ((rd_T109 l1 x14_1).f0), .int .u64 ((rd_T109 l1 x14_1).f1), .int .u64 ((rd_T109 l1 x14_1).f2), .int .u64 ((rd_T109 l1 x14_1).f3), .int .u64 ((rd_T109 l1 x14_1).f4), .int .u64 0, .int .u64 0, .int .u64 0, .int .u64 0, .int .u64 0, .int .u64 0, .int .u64 0, .int .u64 0]) ?_ 5 _ rfl; (with_reducible repeat (first | refine blk_drewN ?_ _ | refine blk_drew ?_ | refine blk_alloc ?_ _)); refine blk_put (cs := #[.int .u64 ((rd_T109 l1 x14_1).f0), .int .u64 ((rd_T109 l1 x14_1).f1), .int .u64 ((rd_T109 l1 x14_1).f2), .int .u64 ((rd_T109 l1 x14_1).f3), .int .u64 0, .int .u64 0, .int .u64 0, .int .u64 0, .int .u64 0, .int .u64 0, .int .u64 0, .int .u64 0, .int .u64 0]) ?_ 4 _ rfl; (with_reducible repeat (first | refine blk_drewN ?_ _ | refine blk_drew ?_ | refine blk_alloc ?_ _)); refine blk_put (cs := #[.int .u64 ((rd_T109 l1 x14_1).f0), .int .u64 ((rd_T109 l1 x14_1).f1), .int .u64 ((rd_T109 l1 x14_1).f2), .int .u64 0, .int .u64 0, .int .u64 0, .int .u64 0, .int .u64 0, .int .u64 0, .int .u64 0, .int .u64 0, .int .u64 0, .int .u64 0]) ?_ 3 _ rfl; (with_reducible repeat (first | refine blk_drewN ?_ _ | refine blk_drew ?_ | refine blk_alloc ?_ _)); refine blk_put (cs := #[.int .u64 ((rd_T109 l1 x14_1).f0), .int .u64 ((rd_T109 l1 x14_1).f1), .int .u64 0, .int .u64 0, .int .u64 0, .int .u64 0, .int .u64 0, .int .u64 0, .int .u64 0, .int .u64 0, .int .u64 0, .int .u64 0, .int .u64 0]) ?_ 2 _ rfl; (with_reducible repeat (first | refine blk_drewN ?_ _ | refine blk_drew ?_ | refine blk_alloc ?_ _)); refine blk_put (cs := #[.int .u64 ((rd_T109 l1 x14_1).f0), .int .u64 0, .int .u64 0, .int .u64 0, .int .u64 0, .int .u64 0, .int .u64 0, .int .u64 0, .int .u64 0, .int .u64 0, .int .u64 0, .int .u64 0, .int .u64 0]) ?_ 1 _ rfl; (with_reducible repeat (first | refine blk_drewN ?_ _ | refine blk_drew ?_ | refine blk_alloc ?_ _)); refine blk_put (cs := #[.int .u64 0, .int .u64 0, .int .u64 0, .int .u64 0, .int .u64 0, .int .u64 0, .int .u64 0, .int .u64 0, .int .u64 0, .int .u64 0, .int .u64 0, .int .u64 0, .int .u64 0]) ?_ 0 _ rfl; (with_reducible repeat (first | refine blk_drewN ?_ _ | refine blk_drew ?_ | refine blk_alloc ?_ _)); exact BK540.out⟩
    have n4_ : Aside0 (Below w.heap.size w (((((((((((((w12.setCell ⟨gb540, 0, none⟩ (.int .u64 ((rd_T109 l1 x14_1).f0))).setCell ⟨gb540, 1, none⟩ (.int .u64 ((rd_T109 l1 x14_1).f1))).setCell ⟨gb540, 2, none⟩ (.int .u64 ((rd_T109 l1 x14_1).f2))).setCell ⟨gb540, 3, none⟩ (.int .u64 ((rd_T109 l1 x14_1).f3))).setCell ⟨gb540, 4, none⟩ (.int .u64 ((rd_T109 l1 x14_1).f4))).setCell ⟨gb540, 5, none⟩ (.int .u64 ((rd_T109 l1 x14_1).f5))).setCell ⟨gb540, 6, none⟩ (.int .u64 ((rd_T109 l1 x14_1).f6))).setCell ⟨gb540, 7, none⟩ (.int .u64 ((rd_T109 l1 x14_1).f7))).setCell ⟨gb540, 8, none⟩ (.int .u64 ((rd_T109 l1 x14_1).f8))).setCell ⟨gb540, 9, none⟩ (.int .u64 ((rd_T109 l1 x14_1).f9))).setCell ⟨gb540, 10, none⟩ (.int .u64 ((rd_T109 l1 x14_1).f10))).setCell ⟨gb540, 11, none⟩ (.int .u64 ((rd_T109 l1 x14_1).f11))).setCell ⟨gb540, 12, none⟩ (.int .u64 ((rd_T109 l1 x14_1).f12)))) := ⟨by repeat (first | (with_reducible first | exact HB.out | apply below_alloc | apply pw_below_drewN | apply below_drew1 | refine below_set ?_ GE537.out | refine below_set ?_ GE538.out | refine below_set ?_ GE540.out) | exact HB.out)⟩
    (try clear HO_539007)
    (try clear BK537)
    (try clear BK538)
    (try clear BK540)
    (try clear HB)
    generalize (((((((((((((w12.setCell ⟨gb540, 0, none⟩ (.int .u64 ((rd_T109 l1 x14_1).f0))).setCell ⟨gb540, 1, none⟩ (.int .u64 ((rd_T109 l1 x14_1).f1))).setCell ⟨gb540, 2, none⟩ (.int .u64 ((rd_T109 l1 x14_1).f2))).setCell ⟨gb540, 3, none⟩ (.int .u64 ((rd_T109 l1 x14_1).f3))).setCell ⟨gb540, 4, none⟩ (.int .u64 ((rd_T109 l1 x14_1).f4))).setCell ⟨gb540, 5, none⟩ (.int .u64 ((rd_T109 l1 x14_1).f5))).setCell ⟨gb540, 6, none⟩ (.int .u64 ((rd_T109 l1 x14_1).f6))).setCell ⟨gb540, 7, none⟩ (.int .u64 ((rd_T109 l1 x14_1).f7))).setCell ⟨gb540, 8, none⟩ (.int .u64 ((rd_T109 l1 x14_1).f8))).setCell ⟨gb540, 9, none⟩ (.int .u64 ((rd_T109 l1 x14_1).f9))).setCell ⟨gb540, 10, none⟩ (.int .u64 ((rd_T109 l1 x14_1).f10))).setCell ⟨gb540, 11, none⟩ (.int .u64 ((rd_T109 l1 x14_1).f11))).setCell ⟨gb540, 12, none⟩ (.int .u64 ((rd_T109 l1 x14_1).f12))) = w16 at n0_ n1_ n2_ n3_ n4_ ⊢
    have HO_539007 := n0_
    have BK537 := n1_
    have BK538 := n2_
    have BK540 := n3_
    have HB := n4_
    clear n0_ n1_ n2_ n3_ n4_
    have n0_ := Aside0.mk (Kd.R_drew HO_539007.out)
    have n1_ := Aside0.mk (blk_drew BK537.out)
    have n2_ := Aside0.mk (blk_drew BK538.out)
    have n3_ := Aside0.mk (blk_drew BK540.out)
    have n4_ := Aside0.mk (below_drew1 HB.out)
    clear HO_539007
    clear BK537
    clear BK538
    clear BK540
    clear HB
    have HO_539007 := n0_
    have BK537 := n1_
    have BK538 := n2_
    have BK540 := n3_
    have HB := n4_
    clear n0_ n1_ n2_ n3_ n4_
    refine start_ (n := 9) (S := fun w' => w'.cell? ⟨gb538, 0, none⟩ = some (.string a0) ∧ w'.cell? ⟨gb538, 1, none⟩ = some (.int .i64 6) ∧ w'.cell? ⟨gb538, 2, none⟩ = some (.bool false) ∧ w'.cell? ⟨gb538, 3, none⟩ = some (.int .i64 0) ∧ w'.cell? ⟨gb538, 4, none⟩ = some (.int .u64 0) ∧ w'.cell? ⟨gb538, 5, none⟩ = some (.float .f64 0) ∧ w'.cell? ⟨gb538, 6, none⟩ = some (.string (⟨#[]⟩ : ByteArray)) ∧ w'.cell? ⟨gb538, 7, none⟩ = some (u539007) ∧ w'.cell? ⟨gb540, 0, none⟩ = some (.int .u64 ((rd_T109 l1 x14_1).f0)) ∧ w'.cell? ⟨gb540, 1, none⟩ = some (.int .u64 ((rd_T109 l1 x14_1).f1)) ∧ w'.cell? ⟨gb540, 2, none⟩ = some (.int .u64 ((rd_T109 l1 x14_1).f2)) ∧ w'.cell? ⟨gb540, 3, none⟩ = some (.int .u64 ((rd_T109 l1 x14_1).f3)) ∧ w'.cell? ⟨gb540, 4, none⟩ = some (.int .u64 ((rd_T109 l1 x14_1).f4)) ∧ w'.cell? ⟨gb540, 5, none⟩ = some (.int .u64 ((rd_T109 l1 x14_1).f5)) ∧ w'.cell? ⟨gb540, 6, none⟩ = some (.int .u64 ((rd_T109 l1 x14_1).f6)) ∧ w'.cell? ⟨gb540, 7, none⟩ = some (.int .u64 ((rd_T109 l1 x14_1).f7)) ∧ w'.cell? ⟨gb540, 8, none⟩ = some (.int .u64 ((rd_T109 l1 x14_1).f8)) ∧ w'.cell? ⟨gb540, 9, none⟩ = some (.int .u64 ((rd_T109 l1 x14_1).f9)) ∧ w'.cell? ⟨gb540, 10, none⟩ = some (.int .u64 ((rd_T109 l1 x14_1).f10)) ∧ w'.cell? ⟨gb540, 11, none⟩ = some (.int .u64 ((rd_T109 l1 x14_1).f11)) ∧ w'.cell? ⟨gb540, 12, none⟩ = some (.int .u64 ((rd_T109 l1 x14_1).f12))) (ds := [8]) (bb [0, 9]) (by kernel_rfl) rfl rfl ⟨(blk_cell BK538.out 0).trans rfl, (blk_cell BK538.out 1).trans rfl, (blk_cell BK538.out 2).trans rfl, (blk_cell BK538.out 3).trans rfl, (blk_cell BK538.out 4).trans rfl, (blk_cell BK538.out 5).trans rfl, (blk_cell BK538.out 6).trans rfl, (blk_cell BK538.out 7).trans rfl, (blk_cell BK540.out 0).trans rfl, (blk_cell BK540.out 1).trans rfl, (blk_cell BK540.out 2).trans rfl, (blk_cell BK540.out 3).trans rfl, (blk_cell BK540.out 4).trans rfl, (blk_cell BK540.out 5).trans rfl, (blk_cell BK540.out 6).trans rfl, (blk_cell BK540.out 7).trans rfl, (blk_cell BK540.out 8).trans rfl, (blk_cell BK540.out 9).trans rfl, (blk_cell BK540.out 10).trans rfl, (blk_cell BK540.out 11).trans rfl, (blk_cell BK540.out 12).trans rfl⟩ (fun hHeld => ?_); refine with_tabW procfs_ConntrackStatEntry.tab5 procfs_ConntrackStatEntry.bits5 (fun HT_ HW_ => ?_)
    generalize w16.drew = w17 at HO_539007 BK537 BK538 BK540 HB hHeld ⊢
    refine pure_ (i := 0) (N := some 18) (v := ?_) (a' := ?_) (bb [1, 8]) rfl rfl (any_of HT_.out (by kernel_rfl)) (fun _ _ _ h => h) (Or.inl ⟨by rfl, ?_⟩) ?_ ?_
    rotate_left
    ·intro w'
     go_simp
     with_reducible rfl
    rotate_left
    ·simp only [Act.put, List.setIfInBounds_toArray, List.set_cons_zero, List.set_cons_succ, i64_w, i32_w]
     rfl
    refine pure_ (i := 2) (N := some 20) (v := ?_) (a' := ?_) (bb [1, 1, 1, 6]) rfl rfl (any_of HT_.out (by kernel_rfl)) (fun _ _ _ h => h) (Or.inl ⟨by rfl, ?_⟩) ?_ ?_
    rotate_left
    ·intro w'
     go_simp
     with_reducible rfl
    rotate_left
    ·simp only [Act.put, List.setIfInBounds_toArray, List.set_cons_zero, List.set_cons_succ, i64_w, i32_w]
     rfl
    refine take_ (i := 1) (N := some 19) (v := ?_) (a' := ?_) (bb [3, 6]) rfl rfl (take_ofW HT_.out HW_.out (by kernel_rfl)) (fun _ _ _ h => h) (Or.inl ⟨by rfl, ?_⟩) hHeld ?_ ?_
    rotate_left
    ·rintro w' ⟨s0, s1, s2, s3, s4, s5, s6, s7, s8, s9, s10, s11, s12, s13, s14, s15, s16, s17, s18, s19, s20⟩
     go_simp
     with_reducible rfl
    rotate_left
    ·simp only [Act.put, List.setIfInBounds_toArray, List.set_cons_zero, List.set_cons_succ, i64_w, i32_w]
     rfl
    refine take_ (i := 3) (N := some 21) (v := ?_) (a' := ?_) (bb [4, 5]) rfl rfl (take_ofW HT_.out HW_.out (by kernel_rfl)) (fun _ _ _ h => h) (Or.inl ⟨by rfl, ?_⟩) hHeld ?_ ?_
    rotate_left
    ·rintro w' ⟨s0, s1, s2, s3, s4, s5, s6, s7, s8, s9, s10, s11, s12, s13, s14, s15, s16, s17, s18, s19, s20⟩
     go_simp
     with_reducible rfl
    rotate_left
    ·simp only [Act.put, List.setIfInBounds_toArray, List.set_cons_zero, List.set_cons_succ, i64_w, i32_w]
     rfl
    refine one_ (i := 4) (N := some 22) (bb [5, 4]) rfl rfl (one_of HT_.out (by kernel_rfl)) (by decide) (fun K hK => ?_)
    refine goesV_ Tryz.func94 (by kernel_rfl) rfl #[.agg #[.int .u64 ((rd_T109 l1 x14_1).f0), .int .u64 ((rd_T109 l1 x14_1).f1), .int .u64 ((rd_T109 l1 x14_1).f2), .int .u64 ((rd_T109 l1 x14_1).f3), .int .u64 ((rd_T109 l1 x14_1).f4), .int .u64 ((rd_T109 l1 x14_1).f5), .int .u64 ((rd_T109 l1 x14_1).f6), .int .u64 ((rd_T109 l1 x14_1).f7), .int .u64 ((rd_T109 l1 x14_1).f8), .int .u64 ((rd_T109 l1 x14_1).f9), .int .u64 ((rd_T109 l1 x14_1).f10), .int .u64 ((rd_T109 l1 x14_1).f11), .int .u64 ((rd_T109 l1 x14_1).f12)]] (by rfl) rfl rfl (by rfl) (by (try simp only [List.map_toArray, List.map_cons, List.map_nil]); first | done | rfl | (simp only [List.length_drop, List.length_take]; rfl)) ?_
    with_reducible refine (impl_Conntrack_1_1.calls ((rd_T109 l1 x14_1).f0) ((rd_T109 l1 x14_1).f1) ((rd_T109 l1 x14_1).f2) ((rd_T109 l1 x14_1).f3) ((rd_T109 l1 x14_1).f4) ((rd_T109 l1 x14_1).f5) ((rd_T109 l1 x14_1).f6) ((rd_T109 l1 x14_1).f7) ((rd_T109 l1 x14_1).f8) ((rd_T109 l1 x14_1).f9) ((rd_T109 l1 x14_1).f10) ((rd_T109 l1 x14_1).f11) ((rd_T109 l1 x14_1).f12) t541 t542 t543 t544 t545 t546 t547 t548 _ A10.out).mono ?_
    rintro e w18 ⟨v549, rfl, ho0, hb⟩
    refine ⟨_, rfl, ?_⟩
    have n0_ := Aside0.mk (Kd.R_elder' (by (with_reducible repeat (first | apply Kd.R_alloc | apply Kd.R_drewN | apply Kd.R_drew)); exact HO_539007.out) (by first | exact Kd.R_base ho0 | exact Kd.R_base ho0) hb)
    have n1_ := Aside0.mk (Kd.R_lower (Kd.R_newB (Kd.R_newB (Kd.R_new' ho0 (Kd.R_lt (by (with_reducible repeat (first | apply Kd.R_alloc | apply Kd.R_drewN | apply Kd.R_drew)); exact HO_539007.out))) (g := gb537) (o := .cells #[.string (⟨#[]⟩ : ByteArray), .int .i64 0, .bool false, .int .i64 0, .int .u64 0, .float .f64 0, .string (⟨#[]⟩ : ByteArray), .slice none 0 0] 43 (0, 0)) (by (with_reducible repeat (first | refine blk_drewN ?_ _ | refine blk_drew ?_ | refine blk_alloc ?_ _)); exact BK537.out)) (g := gb538) (o := .cells #[.string a0, .int .i64 6, .bool false, .int .i64 0, .int .u64 0, .float .f64 0, .string (⟨#[]⟩ : ByteArray), u539007] 43 (0, 0)) (by (with_reducible repeat (first | refine blk_drewN ?_ _ | refine blk_drew ?_ | refine blk_alloc ?_ _)); exact BK538.out)) (below_size (by repeat (first | (with_reducible first | exact HB.out | apply below_alloc | apply pw_below_drewN | apply below_drew1 | refine below_set ?_ GE537.out | refine below_set ?_ GE538.out | refine below_set ?_ GE540.out) | exact HB.out))))
    have n2_ := Aside0.mk (blk_below (g := gb537) (o := .cells #[.string (⟨#[]⟩ : ByteArray), .int .i64 0, .bool false, .int .i64 0, .int .u64 0, .float .f64 0, .string (⟨#[]⟩ : ByteArray), .slice none 0 0] 43 (0, 0)) (by (with_reducible repeat (first | refine blk_drewN ?_ _ | refine blk_drew ?_ | refine blk_alloc ?_ _)); exact BK537.out) hb)
    have n3_ := Aside0.mk (blk_below (g := gb538) (o := .cells #[.string a0, .int .i64 6, .bool false, .int .i64 0, .int .u64 0, .float .f64 0, .string (⟨#[]⟩ : ByteArray), u539007] 43 (0, 0)) (by (with_reducible repeat (first | refine blk_drewN ?_ _ | refine blk_drew ?_ | refine blk_alloc ?_ _)); exact BK538.out) hb)
    have n4_ := Aside0.mk (blk_below (g := gb540) (o := .cells #[.int .u64 ((rd_T109 l1 x14_1).f0), .int .u64 ((rd_T109 l1 x14_1).f1), .int .u64 ((rd_T109 l1 x14_1).f2), .int .u64 ((rd_T109 l1 x14_1).f3), .int .u64 ((rd_T109 l1 x14_1).f4), .int .u64 ((rd_T109 l1 x14_1).f5), .int .u64 ((rd_T109 l1 x14_1).f6), .int .u64 ((rd_T109 l1 x14_1).f7), .int .u64 ((rd_T109 l1 x14_1).f8), .int .u64 ((rd_T109 l1 x14_1).f9), .int .u64 ((rd_T109 l1 x14_1).f10), .int .u64 ((rd_T109 l1 x14_1).f11), .int .u64 ((rd_T109 l1 x14_1).f12)] 109 (0, 0)) (by (with_reducible repeat (first | refine blk_drewN ?_ _ | refine blk_drew ?_ | refine blk_alloc ?_ _)); exact BK540.out) hb)
    have n5_ := Aside0.mk (below_step (by repeat (first | (with_reducible first | exact HB.out | apply below_alloc | apply pw_below_drewN | apply below_drew1 | refine below_set ?_ GE537.out | refine below_set ?_ GE538.out | refine below_set ?_ GE540.out) | exact HB.out)) hb)
    clear HO_539007
    clear BK537
    clear BK538
    clear BK540
    clear HB
    have HO_539007 := n0_
    have HO550 := n1_
    have BK537 := n2_
    have BK538 := n3_
    have BK540 := n4_
    have HB := n5_
    clear n0_ n1_ n2_ n3_ n4_ n5_
    (try clear hb)
    (try clear hb2)
    (try clear hk)
    (try clear hi)
    (try clear ho0)
    obtain ⟨Ao20, co20, eo20⟩ := Kd.R_slice HO550.out
    (first | subst eo20 | (injection eo20 with f1_ f2_ f3_; have f4_ := f1_.symm; have f5_ := f3_.symm; clear f1_ f2_ f3_; subst f4_; subst f5_))
    refine hK.out _ _ ⟨(blk_cell BK538.out 0).trans rfl, (blk_cell BK538.out 1).trans rfl, (blk_cell BK538.out 2).trans rfl, (blk_cell BK538.out 3).trans rfl, (blk_cell BK538.out 4).trans rfl, (blk_cell BK538.out 5).trans rfl, (blk_cell BK538.out 6).trans rfl, (blk_cell BK538.out 7).trans rfl, (blk_cell BK540.out 0).trans rfl, (blk_cell BK540.out 1).trans rfl, (blk_cell BK540.out 2).trans rfl, (blk_cell BK540.out 3).trans rfl, (blk_cell BK540.out 4).trans rfl, (blk_cell BK540.out 5).trans rfl, (blk_cell BK540.out 6).trans rfl, (blk_cell BK540.out 7).trans rfl, (blk_cell BK540.out 8).trans rfl, (blk_cell BK540.out 9).trans rfl, (blk_cell BK540.out 10).trans rfl, (blk_cell BK540.out 11).trans rfl, (blk_cell BK540.out 12).trans rfl⟩ (fun hHeld => ?_)
    clear hK K
    refine norm_ (a' := ?_) ?_ ?_
    rotate_left
    ·show Act.put _ (some 22) _ = _
     simp only [Act.put, List.setIfInBounds_toArray, List.set_cons_zero, List.set_cons_succ, i64_w, i32_w]
     rfl
    refine one_ (i := 5) (N := some 23) (bb [6, 3]) rfl rfl (one_of HT_.out (by kernel_rfl)) (by decide) (fun K hK => ?_)
    refine value_ (w1 := ?_) (v := ?_) (by rfl) rfl ?_ ?_
    rotate_left 2
    ·go_simp
     constructor
     ·rfl
     ·rfl
    refine hK.out _ _ ⟨(blk_cell (blk_alloc BK538.out _) 0).trans rfl, (blk_cell (blk_alloc BK538.out _) 1).trans rfl, (blk_cell (blk_alloc BK538.out _) 2).trans rfl, (blk_cell (blk_alloc BK538.out _) 3).trans rfl, (blk_cell (blk_alloc BK538.out _) 4).trans rfl, (blk_cell (blk_alloc BK538.out _) 5).trans rfl, (blk_cell (blk_alloc BK538.out _) 6).trans rfl, (blk_cell (blk_alloc BK538.out _) 7).trans rfl, (blk_cell (blk_alloc BK540.out _) 0).trans rfl, (blk_cell (blk_alloc BK540.out _) 1).trans rfl, (blk_cell (blk_alloc BK540.out _) 2).trans rfl, (blk_cell (blk_alloc BK540.out _) 3).trans rfl, (blk_cell (blk_alloc BK540.out _) 4).trans rfl, (blk_cell (blk_alloc BK540.out _) 5).trans rfl, (blk_cell (blk_alloc BK540.out _) 6).trans rfl, (blk_cell (blk_alloc BK540.out _) 7).trans rfl, (blk_cell (blk_alloc BK540.out _) 8).trans rfl, (blk_cell (blk_alloc BK540.out _) 9).trans rfl, (blk_cell (blk_alloc BK540.out _) 10).trans rfl, (blk_cell (blk_alloc BK540.out _) 11).trans rfl, (blk_cell (blk_alloc BK540.out _) 12).trans rfl⟩ (fun hHeld => ?_)
    clear hK K
    refine norm_ (a' := ?_) ?_ ?_
    rotate_left
    ·show Act.put _ (some 23) _ = _
     simp only [Act.put, List.setIfInBounds_toArray, List.set_cons_zero, List.set_cons_succ, i64_w, i32_w]
     rfl
    refine one_ (i := 6) (N := some 24) (bb [7, 2]) rfl rfl (one_of HT_.out (by kernel_rfl)) (by decide) (fun K hK => ?_)
    refine Kd.R_append_step k43 (w0 := w) w.heap.size (by rfl) (.tmp 19) (.tmp 23) 41 43 (.agg #[(.string ⟨#[]⟩), (.int .i64 0), (.bool false), (.int .i64 0), (.int .u64 0), (.float .f64 0), (.string ⟨#[]⟩), (.slice none 0 0)]) 96 rfl Tryz.underlying41 info43 rfl (by decide) (by omega) u539007 x539007_1 (⟨t541, t542, t543, t544, t545, t546, t547, t548⟩ : S43) [.string t541, .int .i64 t542, .bool t543, .int .i64 t544, .int .u64 t545, .float .f64 t546, .string t547, .slice Ao20 t548.length co20] (fun k_ => k_ ≠ gb537 ∧ k_ ≠ gb538) (fun k_ => ((fun k_ => k_ ≠ gb537 ∧ k_ ≠ gb538)) k_ ∧ some k_ ≠ (u539007 : Value).ownBlock) rfl rfl ?aP (fun _ hk => hk) ?aF ?aO ?aB ?aS ?aL ?_
    (case aP => exact k43_mkM _ _ _ (⟨t541, t542, t543, t544, t545, t546, t547, t548⟩ : S43) (Kd.R_mono (HO550.out) (fun k_ hk => ⟨⟨hk.1.2, hk.2⟩, hk.1.1.2⟩)))
    (case aB => exact (by repeat (first | (with_reducible first | exact HB.out | apply below_alloc | apply pw_below_drewN | apply below_drew1 | refine below_set ?_ GE537.out | refine below_set ?_ GE538.out | refine below_set ?_ GE540.out) | exact HB.out)))
    (case aF => exact (fun k_ hk => ⟨Kd.freshB (g := gb537) (o := .cells #[.string (⟨#[]⟩ : ByteArray), .int .i64 0, .bool false, .int .i64 0, .int .u64 0, .float .f64 0, .string (⟨#[]⟩ : ByteArray), .slice none 0 0] 43 (0, 0)) (by (with_reducible repeat (first | refine blk_drewN ?_ _ | refine blk_drew ?_ | refine blk_alloc ?_ _)); exact BK537.out) k_ hk, Kd.freshB (g := gb538) (o := .cells #[.string a0, .int .i64 6, .bool false, .int .i64 0, .int .u64 0, .float .f64 0, .string (⟨#[]⟩ : ByteArray), u539007] 43 (0, 0)) (by (with_reducible repeat (first | refine blk_drewN ?_ _ | refine blk_drew ?_ | refine blk_alloc ?_ _)); exact BK538.out) k_ hk⟩))
    (case aO => exact (by (with_reducible repeat (first | apply Kd.R_alloc | apply Kd.R_drewN | apply Kd.R_drew)); exact Kd.R_mono HO_539007.out (fun _ hk => ⟨hk.1.1, hk.1.2⟩)))
    (case aS => exact (below_size (by repeat (first | (with_reducible first | exact HB.out | apply below_alloc | apply pw_below_drewN | apply below_drew1 | refine below_set ?_ GE537.out | refine below_set ?_ GE538.out | refine below_set ?_ GE540.out) | exact HB.out))))
    (case aL => have := LMc11.out; omega)
    intro v552 w19 ho hb hg hat
    rw [← Ny551.out] at ho
    have n0_ := Aside0.mk (blk_grown (g := gb537) (o := .cells #[.string (⟨#[]⟩ : ByteArray), .int .i64 0, .bool false, .int .i64 0, .int .u64 0, .float .f64 0, .string (⟨#[]⟩ : ByteArray), .slice none 0 0] 43 (0, 0)) (by (with_reducible repeat (first | refine blk_drewN ?_ _ | refine blk_drew ?_ | refine blk_alloc ?_ _)); exact BK537.out) hg (Kd.R_away HO_539007.out (fun _ hk => hk.1.1)))
    have n1_ := Aside0.mk (blk_grown (g := gb538) (o := .cells #[.string a0, .int .i64 6, .bool false, .int .i64 0, .int .u64 0, .float .f64 0, .string (⟨#[]⟩ : ByteArray), u539007] 43 (0, 0)) (by (with_reducible repeat (first | refine blk_drewN ?_ _ | refine blk_drew ?_ | refine blk_alloc ?_ _)); exact BK538.out) hg (Kd.R_away HO_539007.out (fun _ hk => hk.1.2)))
    have n2_ := Aside0.mk (blk_grown (g := gb540) (o := .cells #[.int .u64 ((rd_T109 l1 x14_1).f0), .int .u64 ((rd_T109 l1 x14_1).f1), .int .u64 ((rd_T109 l1 x14_1).f2), .int .u64 ((rd_T109 l1 x14_1).f3), .int .u64 ((rd_T109 l1 x14_1).f4), .int .u64 ((rd_T109 l1 x14_1).f5), .int .u64 ((rd_T109 l1 x14_1).f6), .int .u64 ((rd_T109 l1 x14_1).f7), .int .u64 ((rd_T109 l1 x14_1).f8), .int .u64 ((rd_T109 l1 x14_1).f9), .int .u64 ((rd_T109 l1 x14_1).f10), .int .u64 ((rd_T109 l1 x14_1).f11), .int .u64 ((rd_T109 l1 x14_1).f12)] 109 (0, 0)) (by (with_reducible repeat (first | refine blk_drewN ?_ _ | refine blk_drew ?_ | refine blk_alloc ?_ _)); exact BK540.out) hg (Kd.R_ne HO_539007.out BK540.out (by decide)))
    have n3_ := Aside0.mk (hb)
    have n4_ := Aside0.mk (ho)
    clear BK537
    clear BK538
    clear BK540
    clear HB
    clear HO_539007
    clear HO550
    have BK537 := n0_
    have BK538 := n1_
    have BK540 := n2_
    have HB := n3_
    have HO553 := n4_
    clear n0_ n1_ n2_ n3_ n4_
    clear ho hb hg hat
    obtain ⟨Ao21, co21, eo21⟩ := Kd.R_slice HO553.out
    (first | subst eo21 | (injection eo21 with f1_ f2_ f3_; have f4_ := f1_.symm; have f5_ := f3_.symm; clear f1_ f2_ f3_; subst f4_; subst f5_))
    refine hK.out _ _ ⟨(blk_cell BK538.out 0).trans rfl, (blk_cell BK538.out 1).trans rfl, (blk_cell BK538.out 2).trans rfl, (blk_cell BK538.out 3).trans rfl, (blk_cell BK538.out 4).trans rfl, (blk_cell BK538.out 5).trans rfl, (blk_cell BK538.out 6).trans rfl, (blk_cell BK538.out 7).trans rfl, (blk_cell BK540.out 0).trans rfl, (blk_cell BK540.out 1).trans rfl, (blk_cell BK540.out 2).trans rfl, (blk_cell BK540.out 3).trans rfl, (blk_cell BK540.out 4).trans rfl, (blk_cell BK540.out 5).trans rfl, (blk_cell BK540.out 6).trans rfl, (blk_cell BK540.out 7).trans rfl, (blk_cell BK540.out 8).trans rfl, (blk_cell BK540.out 9).trans rfl, (blk_cell BK540.out 10).trans rfl, (blk_cell BK540.out 11).trans rfl, (blk_cell BK540.out 12).trans rfl⟩ (fun hHeld => ?_)
    clear hK K
    refine norm_ (a' := ?_) ?_ ?_
    rotate_left
    ·show Act.put _ (some 24) _ = _
     simp only [Act.put, List.setIfInBounds_toArray, List.set_cons_zero, List.set_cons_succ, i64_w, i32_w]
     rfl
    refine pure_ (i := 7) (N := some 25) (v := ?_) (a' := ?_) (bb [8, 1]) rfl rfl (any_of HT_.out (by kernel_rfl)) (fun _ _ _ h => h) (Or.inl ⟨by rfl, ?_⟩) ?_ ?_
    rotate_left
    ·intro w'
     go_simp
     with_reducible rfl
    rotate_left
    ·simp only [Act.put, List.setIfInBounds_toArray, List.set_cons_zero, List.set_cons_succ, i64_w, i32_w]
     rfl
    refine last_ (i := 8) (N := none) (bb [9]) rfl rfl (one_of HT_.out (by kernel_rfl)) (by decide) (fun K hK => ?_)
    have hs22 : w19.cell? ⟨gb538, 7, none⟩ = some (u539007) := (blk_cell BK538.out 7).trans rfl
    have hfs22 := blk_frozen BK538.out 7
    have hns22_0 := NB537_538.out
    have hns22_2 := NB540_538.out
    have hms22_0 := NB538_537.out
    have hms22_2 := NB538_540.out
    refine skip_ (w1 := ?_) (by rfl) rfl ?_ ?_
    rotate_left
    ·go_simp
     rfl
    refine hK.out _ _ ?_
    clear hK K
    refine done_ (done_of HT_.out (by kernel_rfl)) ?_
    try go_wp2
    go_roundg k1
    case measure => have := HK1.out; omega
    case rel => exact ⟨(wrap64 (x14_1 + 1)), (y551), (.slice Ao21 y551.length co21), (by first | rfl | (simp; done) | (simp [*]; done)), H', ⟨by have := HK1.out; omega⟩, ⟨by (with_reducible repeat (first | apply Kd.R_alloc | apply Kd.R_drewN | apply Kd.R_drew)); exact Kd.R_mono (Kd.R_far (p := ⟨gb538, 7, none⟩) (Kd.R_mono HO553.out (fun k_ hk => (⟨hk, hk.2⟩ : _ ∧ k_ ≠ gb538))) (fun _ hk => hk.2) (.slice Ao21 y551.length co21)) (fun _ hk => ⟨hk.1.1, hk.1.2⟩)⟩, ⟨by (with_reducible repeat (first | refine blk_drewN ?_ _ | refine blk_drew ?_ | refine blk_alloc ?_ _)); refine blk_far ?_ NB537_538.out _; (with_reducible repeat (first | refine blk_drewN ?_ _ | refine blk_drew ?_ | refine blk_alloc ?_ _)); exact BK537.out⟩, ⟨by (with_reducible repeat (first | refine blk_drewN ?_ _ | refine blk_drew ?_ | refine blk_alloc ?_ _)); refine blk_put (cs := #[.string a0, .int .i64 6, .bool false, .int .i64 0, .int .u64 0, .float .f64 0, .string (⟨#[]⟩ : ByteArray), u539007]) ?_ 7 _ rfl; (with_reducible repeat (first | refine blk_drewN ?_ _ | refine blk_drew ?_ | refine blk_alloc ?_ _)); exact BK538.out⟩, ⟨by repeat (first | (with_reducible first | exact HB.out | apply below_alloc | apply pw_below_drewN | apply below_drew1 | refine below_set ?_ GE537.out | refine below_set ?_ GE538.out | refine below_set ?_ GE540.out) | exact HB.out)⟩⟩
   ·rw [if_neg c7] at H
    have c7b0 : decide (x14_1 < (l1.length : Int)) = false := decide_eq_false c7
    clear c7
    simp only [Option.some.injEq, Prod.mk.injEq] at H
    obtain ⟨rfl, rfl, rfl, rfl, rfl, rfl, rfl, rfl⟩ := H
    have hnb23 := NB538_537.out
    have hnc23 := NB537_538.out
    have hcz24_0 : wr.cell? ⟨gb538, 0, none⟩ = some (.string a0) := (blk_cell BK538.out 0).trans rfl
    have hcz24_1 : wr.cell? ⟨gb538, 1, none⟩ = some (.int .i64 6) := (blk_cell BK538.out 1).trans rfl
    have hcz24_2 : wr.cell? ⟨gb538, 2, none⟩ = some (.bool false) := (blk_cell BK538.out 2).trans rfl
    have hcz24_3 : wr.cell? ⟨gb538, 3, none⟩ = some (.int .i64 0) := (blk_cell BK538.out 3).trans rfl
    have hcz24_4 : wr.cell? ⟨gb538, 4, none⟩ = some (.int .u64 0) := (blk_cell BK538.out 4).trans rfl
    have hcz24_5 : wr.cell? ⟨gb538, 5, none⟩ = some (.float .f64 0) := (blk_cell BK538.out 5).trans rfl
    have hcz24_6 : wr.cell? ⟨gb538, 6, none⟩ = some (.string (⟨#[]⟩ : ByteArray)) := (blk_cell BK538.out 6).trans rfl
    have hcz24_7 : wr.cell? ⟨gb538, 7, none⟩ = some (u539007) := (blk_cell BK538.out 7).trans rfl
    have hfz24_0 := blk_frozen BK538.out 0
    have hfz24_1 := blk_frozen BK538.out 1
    have hfz24_2 := blk_frozen BK538.out 2
    have hfz24_3 := blk_frozen BK538.out 3
    have hfz24_4 := blk_frozen BK538.out 4
    have hfz24_5 := blk_frozen BK538.out 5
    have hfz24_6 := blk_frozen BK538.out 6
    have hfz24_7 := blk_frozen BK538.out 7
    have hcz25_0 : wr.cell? ⟨gb537, 0, none⟩ = some (.string (⟨#[]⟩ : ByteArray)) := (blk_cell BK537.out 0).trans rfl
    have hcz25_1 : wr.cell? ⟨gb537, 1, none⟩ = some (.int .i64 0) := (blk_cell BK537.out 1).trans rfl
    have hcz25_2 : wr.cell? ⟨gb537, 2, none⟩ = some (.bool false) := (blk_cell BK537.out 2).trans rfl
    have hcz25_3 : wr.cell? ⟨gb537, 3, none⟩ = some (.int .i64 0) := (blk_cell BK537.out 3).trans rfl
    have hcz25_4 : wr.cell? ⟨gb537, 4, none⟩ = some (.int .u64 0) := (blk_cell BK537.out 4).trans rfl
    have hcz25_5 : wr.cell? ⟨gb537, 5, none⟩ = some (.float .f64 0) := (blk_cell BK537.out 5).trans rfl
    have hcz25_6 : wr.cell? ⟨gb537, 6, none⟩ = some (.string (⟨#[]⟩ : ByteArray)) := (blk_cell BK537.out 6).trans rfl
    have hcz25_7 : wr.cell? ⟨gb537, 7, none⟩ = some (.slice none 0 0) := (blk_cell BK537.out 7).trans rfl
    have hfz25_0 := blk_frozen BK537.out 0
    have hfz25_1 := blk_frozen BK537.out 1
    have hfz25_2 := blk_frozen BK537.out 2
    have hfz25_3 := blk_frozen BK537.out 3
    have hfz25_4 := blk_frozen BK537.out 4
    have hfz25_5 := blk_frozen BK537.out 5
    have hfz25_6 := blk_frozen BK537.out 6
    have hfz25_7 := blk_frozen BK537.out 7
    obtain ⟨Ao26, co26, eo26⟩ := Kd.R_slice HO_539007.out
    subst eo26
    go_wp2
    refine bodyPost_ret (results_cell_row rfl _ _ gb537 43 #[.string a0, .int .i64 6, .bool false, .int .i64 0, .int .u64 0, .float .f64 0, .string (⟨#[]⟩ : ByteArray), .slice Ao26 x539007_1.length co26] (0, 0) _ rfl (by (with_reducible repeat (first | refine blk_drewN ?_ _ | refine blk_drew ?_ | refine blk_alloc ?_ _)); refine blk_put (cs := #[.string a0, .int .i64 6, .bool false, .int .i64 0, .int .u64 0, .float .f64 0, .string (⟨#[]⟩ : ByteArray), .slice none 0 0]) ?_ 7 _ rfl; (with_reducible repeat (first | refine blk_drewN ?_ _ | refine blk_drew ?_ | refine blk_alloc ?_ _)); refine blk_put (cs := #[.string a0, .int .i64 6, .bool false, .int .i64 0, .int .u64 0, .float .f64 0, .string (⟨#[]⟩ : ByteArray), .slice none 0 0]) ?_ 6 _ rfl; (with_reducible repeat (first | refine blk_drewN ?_ _ | refine blk_drew ?_ | refine blk_alloc ?_ _)); refine blk_put (cs := #[.string a0, .int .i64 6, .bool false, .int .i64 0, .int .u64 0, .float .f64 0, .string (⟨#[]⟩ : ByteArray), .slice none 0 0]) ?_ 5 _ rfl; (with_reducible repeat (first | refine blk_drewN ?_ _ | refine blk_drew ?_ | refine blk_alloc ?_ _)); refine blk_put (cs := #[.string a0, .int .i64 6, .bool false, .int .i64 0, .int .u64 0, .float .f64 0, .string (⟨#[]⟩ : ByteArray), .slice none 0 0]) ?_ 4 _ rfl; (with_reducible repeat (first | refine blk_drewN ?_ _ | refine blk_drew ?_ | refine blk_alloc ?_ _)); refine blk_put (cs := #[.string a0, .int .i64 6, .bool false, .int .i64 0, .int .u64 0, .float .f64 0, .string (⟨#[]⟩ : ByteArray), .slice none 0 0]) ?_ 3 _ rfl; (with_reducible repeat (first | refine blk_drewN ?_ _ | refine blk_drew ?_ | refine blk_alloc ?_ _)); refine blk_put (cs := #[.string a0, .int .i64 6, .bool false, .int .i64 0, .int .u64 0, .float .f64 0, .string (⟨#[]⟩ : ByteArray), .slice none 0 0]) ?_ 2 _ rfl; (with_reducible repeat (first | refine blk_drewN ?_ _ | refine blk_drew ?_ | refine blk_alloc ?_ _)); refine blk_put (cs := #[.string a0, .int .i64 0, .bool false, .int .i64 0, .int .u64 0, .float .f64 0, .string (⟨#[]⟩ : ByteArray), .slice none 0 0]) ?_ 1 _ rfl; (with_reducible repeat (first | refine blk_drewN ?_ _ | refine blk_drew ?_ | refine blk_alloc ?_ _)); refine blk_put (cs := #[.string (⟨#[]⟩ : ByteArray), .int .i64 0, .bool false, .int .i64 0, .int .u64 0, .float .f64 0, .string (⟨#[]⟩ : ByteArray), .slice none 0 0]) ?_ 0 _ rfl; (with_reducible repeat (first | refine blk_drewN ?_ _ | refine blk_drew ?_ | refine blk_alloc ?_ _)); exact BK537.out) Tryz.underlying43 rfl (by kernel_rfl)) rfl ?_
    exact ⟨_, by first | rfl | (simp [errW_none, errW_some] <;> rfl) | (simp [*, errW_none, errW_some] <;> rfl), by (with_reducible repeat (first | apply Kd.R_alloc | apply Kd.R_drewN | apply Kd.R_drew)); exact Kd.R_mono (Kd.R_far (p := ⟨gb537, 7, none⟩) (Kd.R_far (p := ⟨gb537, 6, none⟩) (Kd.R_far (p := ⟨gb537, 5, none⟩) (Kd.R_far (p := ⟨gb537, 4, none⟩) (Kd.R_far (p := ⟨gb537, 3, none⟩) (Kd.R_far (p := ⟨gb537, 2, none⟩) (Kd.R_far (p := ⟨gb537, 1, none⟩) (Kd.R_far (p := ⟨gb537, 0, none⟩) (Kd.R_mono HO_539007.out (fun k_ hk => (⟨hk, hk.1⟩ : _ ∧ k_ ≠ gb537))) (fun _ hk => hk.2) (.string a0)) (fun _ hk => hk.2) (.int .i64 6)) (fun _ hk => hk.2) (.bool false)) (fun _ hk => hk.2) (.int .i64 0)) (fun _ hk => hk.2) (.int .u64 0)) (fun _ hk => hk.2) (.float .f64 0)) (fun _ hk => hk.2) (.string (⟨#[]⟩ : ByteArray))) (fun _ hk => hk.2) (.slice Ao26 x539007_1.length co26)) (fun _ hk => trivial), by repeat (first | (with_reducible first | exact HB.out | apply below_alloc | apply pw_below_drewN | apply below_drew1 | refine below_set ?_ GE537.out | refine below_set ?_ GE538.out) | exact HB.out)⟩
end Go.Proofs.YtednjmngalmdkaaGreatDoor.GPC
end
section
namespace Go.Proofs.YtednjmngalmdkaaGreatDoor.GPC
open Go.RowKit Go.Proofs.YtednjmngalmdkaaGreatDoorW.PrintWords Go.Proofs.YtednjmngalmdkaaGreatDoorW.PrintLast Go.Proofs.YtednjmngalmdkaaGreatDoorW.PrintMore
attribute [local go_sem] max2_int min2_int max_two min_two max_three min_three max_four min_four   -- for this text's walks alone
set_option linter.unusedVariables false
set_option linter.unusedSimpArgs false

attribute [local go_sem] run_store_float
/-! ### impl_Conntrack_1: function 92 -/
def impl_Conntrack_1.f (k : Nat) (l0 : List (S109)) : Option (ByteArray × Int × Bool × Int × Int × Nat × ByteArray × (List (S43))) := (procfs_ConntrackStatEntry.f k (⟨#[]⟩ : ByteArray) l0).bind fun bt555 => (some (bt555.1, bt555.2.1, bt555.2.2.1, bt555.2.2.2.1, bt555.2.2.2.2.1, bt555.2.2.2.2.2.1, bt555.2.2.2.2.2.2.1, bt555.2.2.2.2.2.2.2))
theorem impl_Conntrack_1.mono : ∀ a0 k, LeO (impl_Conntrack_1.f k a0) (impl_Conntrack_1.f (k + 1) a0) := by
 intro a0 k
 unfold impl_Conntrack_1.f
 repeat' first
   | (with_reducible exact procfs_ConntrackStatEntry.mono _ _ _)
   | (with_reducible exact LeO.refl _)
   | (with_reducible exact LeO.none _)
   | (with_reducible refine LeO.ite ?_ ?_)
   | (with_reducible refine LeO.bind ?_ (fun _ => ?_))
   | exact procfs_ConntrackStatEntry.mono _ _ _
   | exact LeO.none _
   | refine LeO.ite ?_ ?_
   | refine LeO.bind ?_ (fun _ => ?_)
set_option maxHeartbeats 8000000 in
set_option maxRecDepth 100000 in
theorem impl_Conntrack_1.calls (k : Nat) (A0 : Option Addr) (c0 : Nat) (l0 : List (S109)) (r1 : ByteArray) (r2 : Int) (r3 : Bool) (r4 : Int) (r5 : Int) (r6 : Nat) (r7 : ByteArray) (r8 : List (S43)) (w : World) (hr0 : Kd.C k109 w A0 l0.length l0) (hc0 : l0.length ≤ c0) (h : impl_Conntrack_1.f k l0 = some (r1, r2, r3, r4, r5, r6, r7, r8)) :
  Calls Tryz.prog 92 #[.slice A0 l0.length c0] w fun e w' => ∃ v7_ : Value, e = .returned (.agg #[.string r1, .int .i64 r2, .bool r3, .int .i64 r4, .int .u64 r5, .float .f64 r6, .string r7, v7_]) ∧ Kd.R k43 43 w' w.heap.size (fun _ => True) v7_ r8 ∧ Below w.heap.size w w' := by
 have hu43 := Tryz.underlying43
 have HR0 := Aside0.mk hr0
 have HC0 := Aside0.mk hc0
 clear hr0 hc0
 have HB := Aside0.mk (Below.refl w.heap.size w)
 have H : ((procfs_ConntrackStatEntry.f k (⟨#[]⟩ : ByteArray) l0).bind fun bt555 => (some (bt555.1, bt555.2.1, bt555.2.2.1, bt555.2.2.2.1, bt555.2.2.2.2.1, bt555.2.2.2.2.2.1, bt555.2.2.2.2.2.2.1, bt555.2.2.2.2.2.2.2))) = some (r1, r2, r3, r4, r5, r6, r7, r8) := h
 clear h
 replace H := Option.bind_eq_some_iff.mp H
 obtain ⟨⟨t555, t556, t557, t558, t559, t560, t561, t562⟩, A20, H⟩ := H
 replace H : (some (t555, t556, t557, t558, t559, t560, t561, t562)) = some (r1, r2, r3, r4, r5, r6, r7, r8) := H
 have A2 := Aside0.mk A20
 clear A20
 simp only [Option.some.injEq, Prod.mk.injEq] at H
 obtain ⟨rfl, rfl, rfl, rfl, rfl, rfl, rfl, rfl⟩ := H
 go_enter Tryz.func92, Tryz.ntmps92
 go_wp2_with (first | ((with_reducible refine gate_dst (N := 2) rfl ?_); refine box_event ?hg (N := 2) ?hd (cs := #[.string (⟨#[]⟩ : ByteArray), .int .i64 0, .bool false, .int .i64 0, .int .u64 0, .float .f64 0, .string (⟨#[]⟩ : ByteArray), .slice none 0 0]) (t := 43) ?hr ?_; (case hd => rfl); (case hg => rfl); (case hr => first | (go_simp; done) | (go_simp; rfl)); intro gb554 hg w3 hbox hb; have n0_ := Aside0.mk (below_step (by repeat (first | (with_reducible first | exact HB.out | apply below_alloc | apply pw_below_drewN | apply below_drew1) | exact HB.out)) hb); have n1_ := Aside0.mk (hbox); have n2_ := Aside0.mk ((by rw [hg]; exact (below_size (by repeat (first | (with_reducible first | exact HB.out | apply below_alloc | apply pw_below_drewN | apply below_drew1) | exact HB.out))) : w.heap.size ≤ gb554)); have n3_ := Aside0.mk ((by rw [hg]; exact (below_size (by repeat (first | (with_reducible first | exact HB.out | apply below_alloc | apply pw_below_drewN | apply below_drew1) | exact HB.out))) : w.heap.size ≤ gb554)); clear HB; have HB := n0_; have BK554 := n1_; have GW554 := n2_; have GE554 := n3_; clear n0_ n1_ n2_ n3_; clear hb hbox hg) | ((with_reducible refine gate_callee (f := 93) rfl ?_); refine goesL_ (some 4) rfl rfl Tryz.func93 (by kernel_rfl) rfl #[.string (⟨#[]⟩ : ByteArray), .slice A0 l0.length c0, .func (.func 94) #[] #[]] rfl (by (try simp only [List.map_toArray, List.map_cons, List.map_nil]); first | done | rfl | (simp only [List.length_drop, List.length_take]; rfl)) ?_; (with_reducible refine (procfs_ConntrackStatEntry.calls k (⟨#[]⟩ : ByteArray) _ _ l0 t555 t556 t557 t558 t559 t560 t561 t562 _ ?side1 ?side2 A2.out).mono ?_); (case side1 => repeat (first | exact (Kd.C_below HR0.out HB.out) | (with_reducible refine Kd.C_alloc ?_ _) | (with_reducible refine Kd.C_drewN ?_ _) | (with_reducible refine Kd.C_drew ?_))); (case side2 => exact HC0.out); rintro e w4 ⟨v563, rfl, ho0, hb⟩; refine ⟨_, rfl, ?_⟩; have n0_ := Aside0.mk (Kd.R_lower (Kd.R_newB ho0 (g := gb554) (o := .cells #[.string (⟨#[]⟩ : ByteArray), .int .i64 0, .bool false, .int .i64 0, .int .u64 0, .float .f64 0, .string (⟨#[]⟩ : ByteArray), .slice none 0 0] 43 (0, 0)) (by (with_reducible repeat (first | refine blk_drewN ?_ _ | refine blk_drew ?_ | refine blk_alloc ?_ _)); exact BK554.out)) (below_size (by repeat (first | (with_reducible first | exact HB.out | apply below_alloc | apply pw_below_drewN | apply below_drew1 | refine below_set ?_ GE554.out) | exact HB.out)))); have n1_ := Aside0.mk (blk_below (g := gb554) (o := .cells #[.string (⟨#[]⟩ : ByteArray), .int .i64 0, .bool false, .int .i64 0, .int .u64 0, .float .f64 0, .string (⟨#[]⟩ : ByteArray), .slice none 0 0] 43 (0, 0)) (by (with_reducible repeat (first | refine blk_drewN ?_ _ | refine blk_drew ?_ | refine blk_alloc ?_ _)); exact BK554.out) hb); have n2_ := Aside0.mk (below_step (by repeat (first | (with_reducible first | exact HB.out | apply below_alloc | apply pw_below_drewN | apply below_drew1 | refine below_set ?_ GE554.out) | exact HB.out)) hb); clear BK554; clear HB; have HO564 := n0_; have BK554 := n1_; have HB := n2_; clear n0_ n1_ n2_; (try clear hb); (try clear hb2); (try clear hk); (try clear hi); (try clear ho0); have hcz5_0 : w4.cell? ⟨gb554, 0, none⟩ = some (.string (⟨#[]⟩ : ByteArray)) := (blk_cell BK554.out 0).trans rfl; have hcz5_1 : w4.cell? ⟨gb554, 1, none⟩ = some (.int .i64 0) := (blk_cell BK554.out 1).trans rfl; have hcz5_2 : w4.cell? ⟨gb554, 2, none⟩ = some (.bool false) := (blk_cell BK554.out 2).trans rfl; have hcz5_3 : w4.cell? ⟨gb554, 3, none⟩ = some (.int .i64 0) := (blk_cell BK554.out 3).trans rfl; have hcz5_4 : w4.cell? ⟨gb554, 4, none⟩ = some (.int .u64 0) := (blk_cell BK554.out 4).trans rfl; have hcz5_5 : w4.cell? ⟨gb554, 5, none⟩ = some (.float .f64 0) := (blk_cell BK554.out 5).trans rfl; have hcz5_6 : w4.cell? ⟨gb554, 6, none⟩ = some (.string (⟨#[]⟩ : ByteArray)) := (blk_cell BK554.out 6).trans rfl; have hcz5_7 : w4.cell? ⟨gb554, 7, none⟩ = some (.slice none 0 0) := (blk_cell BK554.out 7).trans rfl; have hfz5_0 := blk_frozen BK554.out 0; have hfz5_1 := blk_frozen BK554.out 1; have hfz5_2 := blk_frozen BK554.out 2; have hfz5_3 := blk_frozen BK554.out 3; have hfz5_4 := blk_frozen BK554.out 4; have hfz5_5 := blk_frozen BK554.out 5; have hfz5_6 := blk_frozen BK554.out 6; have hfz5_7 := blk_frozen BK554.out 7; obtain ⟨Ao6, co6, eo6⟩ := Kd.R_slice HO564.out; subst eo6))
 refine bodyPost_ret (results_cell_row rfl _ _ gb554 43 #[.string t555, .int .i64 t556, .bool t557, .int .i64 t558, .int .u64 t559, .float .f64 t560, .string t561, .slice Ao6 t562.length co6] (0, 0) _ rfl (by (with_reducible repeat (first | refine blk_drewN ?_ _ | refine blk_drew ?_ | refine blk_alloc ?_ _)); refine blk_put (cs := #[.string t555, .int .i64 t556, .bool t557, .int .i64 t558, .int .u64 t559, .float .f64 t560, .string t561, .slice none 0 0]) ?_ 7 _ rfl; (with_reducible repeat (first | refine blk_drewN ?_ _ | refine blk_drew ?_ | refine blk_alloc ?_ _)); refine blk_put (cs := #[.string t555, .int .i64 t556, .bool t557, .int .i64 t558, .int .u64 t559, .float .f64 t560, .string (⟨#[]⟩ : ByteArray), .slice none 0 0]) ?_ 6 _ rfl; (with_reducible repeat (first | refine blk_drewN ?_ _ | refine blk_drew ?_ | refine blk_alloc ?_ _)); refine blk_put (cs := #[.string t555, .int .i64 t556, .bool t557, .int .i64 t558, .int .u64 t559, .float .f64 0, .string (⟨#[]⟩ : ByteArray), .slice none 0 0]) ?_ 5 _ rfl; (with_reducible repeat (first | refine blk_drewN ?_ _ | refine blk_drew ?_ | refine blk_alloc ?_ _)); refine blk_put (cs := #[.string t555, .int .i64 t556, .bool t557, .int .i64 t558, .int .u64 0, .float .f64 0, .string (⟨#[]⟩ : ByteArray), .slice none 0 0]) ?_ 4 _ rfl; (with_reducible repeat (first | refine blk_drewN ?_ _ | refine blk_drew ?_ | refine blk_alloc ?_ _)); refine blk_put (cs := #[.string t555, .int .i64 t556, .bool t557, .int .i64 0, .int .u64 0, .float .f64 0, .string (⟨#[]⟩ : ByteArray), .slice none 0 0]) ?_ 3 _ rfl; (with_reducible repeat (first | refine blk_drewN ?_ _ | refine blk_drew ?_ | refine blk_alloc ?_ _)); refine blk_put (cs := #[.string t555, .int .i64 t556, .bool false, .int .i64 0, .int .u64 0, .float .f64 0, .string (⟨#[]⟩ : ByteArray), .slice none 0 0]) ?_ 2 _ rfl; (with_reducible repeat (first | refine blk_drewN ?_ _ | refine blk_drew ?_ | refine blk_alloc ?_ _)); refine blk_put (cs := #[.string t555, .int .i64 0, .bool false, .int .i64 0, .int .u64 0, .float .f64 0, .string (⟨#[]⟩ : ByteArray), .slice none 0 0]) ?_ 1 _ rfl; (with_reducible repeat (first | refine blk_drewN ?_ _ | refine blk_drew ?_ | refine blk_alloc ?_ _)); refine blk_put (cs := #[.string (⟨#[]⟩ : ByteArray), .int .i64 0, .bool false, .int .i64 0, .int .u64 0, .float .f64 0, .string (⟨#[]⟩ : ByteArray), .slice none 0 0]) ?_ 0 _ rfl; (with_reducible repeat (first | refine blk_drewN ?_ _ | refine blk_drew ?_ | refine blk_alloc ?_ _)); exact BK554.out) Tryz.underlying43 rfl (by kernel_rfl)) rfl ?_
 exact ⟨_, by first | rfl | (simp [errW_none, errW_some] <;> rfl) | (simp [*, errW_none, errW_some] <;> rfl), by (with_reducible repeat (first | apply Kd.R_alloc | apply Kd.R_drewN | apply Kd.R_drew)); exact Kd.R_mono (Kd.R_far (p := ⟨gb554, 7, none⟩) (Kd.R_far (p := ⟨gb554, 6, none⟩) (Kd.R_far (p := ⟨gb554, 5, none⟩) (Kd.R_far (p := ⟨gb554, 4, none⟩) (Kd.R_far (p := ⟨gb554, 3, none⟩) (Kd.R_far (p := ⟨gb554, 2, none⟩) (Kd.R_far (p := ⟨gb554, 1, none⟩) (Kd.R_far (p := ⟨gb554, 0, none⟩) (Kd.R_mono HO564.out (fun k_ hk => (⟨hk, hk.2⟩ : _ ∧ k_ ≠ gb554))) (fun _ hk => hk.2) (.string t555)) (fun _ hk => hk.2) (.int .i64 t556)) (fun _ hk => hk.2) (.bool t557)) (fun _ hk => hk.2) (.int .i64 t558)) (fun _ hk => hk.2) (.int .u64 t559)) (fun _ hk => hk.2) (.float .f64 t560)) (fun _ hk => hk.2) (.string t561)) (fun _ hk => hk.2) (.slice Ao6 t562.length co6)) (fun _ hk => trivial), by repeat (first | (with_reducible first | exact HB.out | apply below_alloc | apply pw_below_drewN | apply below_drew1 | refine below_set ?_ GE554.out) | exact HB.out)⟩
end Go.Proofs.YtednjmngalmdkaaGreatDoor.GPC
end
section
/- procfs.parseConntrackStatEntry: what the words of a line say. Conditions: ctF. -/
namespace Go.Proofs.YtednjmngalmdkaaGreatDoor.GPC
open Go Go.RowKit Go.Proofs.YtednjmngalmdkaaGreatDoorW.PrintWords Go.Proofs.YtednjmngalmdkaaGreatDoorW.PrintLast
set_option linter.unusedVariables false
set_option linter.unusedSimpArgs false
def ctF (fs : List ByteArray) : Option S109 := if fs.length = 17 then (hexs fs).bind fun ns => some ⟨ns.getD 0 0, ns.getD 1 0, ns.getD 2 0, ns.getD 3 0, ns.getD 4 0, ns.getD 5 0, ns.getD 6 0, ns.getD 7 0, ns.getD 8 0, ns.getD 9 0, ns.getD 10 0, ns.getD 11 0, ns.getD 16 0⟩ else none
theorem ctF_some {fs : List ByteArray} {m : S109} (h : ctF fs = some m) : fs.length = 17 ∧ ∃ ns, hexs fs = some ns ∧ m = ⟨ns.getD 0 0, ns.getD 1 0, ns.getD 2 0, ns.getD 3 0, ns.getD 4 0, ns.getD 5 0, ns.getD 6 0, ns.getD 7 0, ns.getD 8 0, ns.getD 9 0, ns.getD 10 0, ns.getD 11 0, ns.getD 16 0⟩ := by
 unfold ctF at h
 split at h
 ·rename_i hc
  obtain ⟨ns, h1, h⟩ := Option.bind_eq_some_iff.1 h
  obtain rfl := Option.some.inj h
  exact ⟨hc, ns, h1, rfl⟩
 ·cases h
theorem ctF_len {fs : List ByteArray} {m : S109} (h : ctF fs = some m) : 0 < fs.length := by have := (ctF_some h).1; omega
def ctCells (m : S109) : Array Value := #[.int .u64 m.f0, .int .u64 m.f1, .int .u64 m.f2, .int .u64 m.f3, .int .u64 m.f4, .int .u64 m.f5, .int .u64 m.f6, .int .u64 m.f7, .int .u64 m.f8, .int .u64 m.f9, .int .u64 m.f10, .int .u64 m.f11, .int .u64 m.f12]
def ctObj (m : S109) : Obj := .cells (ctCells m) 109 (0, 0)
theorem hx_cell {w : World} {base : Nat} {g cap : Nat} {ns : List Int} (h : kp64.R 272 w base (fun _ => True) (.slice (some ⟨g, 0, none⟩) ns.length cap) ns) (i : Nat) (hi : i < ns.length) :
  ∃ b, w.cell? ⟨g, i, none⟩ = some (.pointer (some ⟨b, 0, none⟩)) ∧ w.cell? ⟨b, 0, none⟩ = some (.int .u64 (ns.getD i 0)) := by
 obtain ⟨ad, cs, e1, hcl, ⟨b, rfl, hb⟩, hcc⟩ := Kd.C_get (Kd.R_reads' h).2.2 (0 : Int) (i : Int) (by omega) (by omega)
 cases e1
 refine ⟨b, ?_, ?_⟩
 ·have := hcc 0 _ rfl
  simp only [Int.toNat_natCast] at this
  have ha : (⟨g, 0, none⟩ : Addr).add (i * kp64.sz + 0) = ⟨g, i, none⟩ := by
   have : kp64.sz = 1 := rfl
   rw [this]
   simp [Addr.add]
   exact fun e => e.symm
  rw [ha] at this
  exact this
 ·have := (blk_cell hb 0).trans rfl
  simpa using this
set_option maxHeartbeats 8000000 in
set_option maxRecDepth 100000 in
theorem ctLine (gs cap : Nat) (fs : List ByteArray) (m : S109) (w : World) (hgs : gs < w.heap.size) (hcs : ∀ i : Nat, i < fs.length → w.cell? ⟨gs, i, none⟩ = some (.string (rdOf ByteArray.empty fs (i : Int)))) (h : ctF fs = some m) :
  Calls Tryz.prog 213 #[.slice (some ⟨gs, 0, none⟩) fs.length cap] w fun e w' => ∃ g, e = .returned (.tuple #[.pointer (some ⟨g, 0, none⟩), .nilIface]) ∧ w.heap.size ≤ g ∧ w'.heap[g]? = some (ctObj m) ∧ Below w.heap.size w w' := by
 obtain ⟨h17, ns, hns, rfl⟩ := ctF_some h
 have hl17 : ns.length = 17 := by rw [(hexs_get hns).1]; exact h17
 have HGS := Aside0.mk hgs
 have HCS := Aside0.mk hcs
 have HNS := Aside0.mk hns
 have H17 := Aside0.mk h17
 have HL := Aside0.mk hl17
 clear hgs hcs hns h17 hl17 h
 go_enter Tryz.func213, Tryz.ntmps213
 go_wp2_with (first
  | (go_at_call 222; refine (hexCall gs cap fs ns _ HGS.out HCS.out (by have := H17.out; omega) HNS.out).mono ?_; rintro e w1 ⟨v, rfl, hR, hb⟩; obtain ⟨g, cp, rfl, hg1, hg2, cells, hcells⟩ := Kd.R_form hR (by have := HL.out; omega); have HB1 := Aside0.mk hb; have HG2 := Aside0.mk hg2; have HR := Aside0.mk hR; rw [HL.out]; clear hb hR hcells hg1 hg2))
 obtain ⟨b0, pp0, qq0⟩ := hx_cell HR.out 0 (by have := HL.out; omega)
 obtain ⟨b1, pp1, qq1⟩ := hx_cell HR.out 1 (by have := HL.out; omega)
 obtain ⟨b2, pp2, qq2⟩ := hx_cell HR.out 2 (by have := HL.out; omega)
 obtain ⟨b3, pp3, qq3⟩ := hx_cell HR.out 3 (by have := HL.out; omega)
 obtain ⟨b4, pp4, qq4⟩ := hx_cell HR.out 4 (by have := HL.out; omega)
 obtain ⟨b5, pp5, qq5⟩ := hx_cell HR.out 5 (by have := HL.out; omega)
 obtain ⟨b6, pp6, qq6⟩ := hx_cell HR.out 6 (by have := HL.out; omega)
 obtain ⟨b7, pp7, qq7⟩ := hx_cell HR.out 7 (by have := HL.out; omega)
 obtain ⟨b8, pp8, qq8⟩ := hx_cell HR.out 8 (by have := HL.out; omega)
 obtain ⟨b9, pp9, qq9⟩ := hx_cell HR.out 9 (by have := HL.out; omega)
 obtain ⟨b10, pp10, qq10⟩ := hx_cell HR.out 10 (by have := HL.out; omega)
 obtain ⟨b11, pp11, qq11⟩ := hx_cell HR.out 11 (by have := HL.out; omega)
 obtain ⟨b16, pp16, qq16⟩ := hx_cell HR.out 16 (by have := HL.out; omega)
 obtain ⟨x0, hx0⟩ : ∃ x, x = ns.getD 0 0 := ⟨_, rfl⟩
 rw [← hx0] at qq0
 have X0 := Aside0.mk hx0
 clear hx0
 obtain ⟨x1, hx1⟩ : ∃ x, x = ns.getD 1 0 := ⟨_, rfl⟩
 rw [← hx1] at qq1
 have X1 := Aside0.mk hx1
 clear hx1
 obtain ⟨x2, hx2⟩ : ∃ x, x = ns.getD 2 0 := ⟨_, rfl⟩
 rw [← hx2] at qq2
 have X2 := Aside0.mk hx2
 clear hx2
 obtain ⟨x3, hx3⟩ : ∃ x, x = ns.getD 3 0 := ⟨_, rfl⟩
 rw [← hx3] at qq3
 have X3 := Aside0.mk hx3
 clear hx3
 obtain ⟨x4, hx4⟩ : ∃ x, x = ns.getD 4 0 := ⟨_, rfl⟩
 rw [← hx4] at qq4
 have X4 := Aside0.mk hx4
 clear hx4
 obtain ⟨x5, hx5⟩ : ∃ x, x = ns.getD 5 0 := ⟨_, rfl⟩
 rw [← hx5] at qq5
 have X5 := Aside0.mk hx5
 clear hx5
 obtain ⟨x6, hx6⟩ : ∃ x, x = ns.getD 6 0 := ⟨_, rfl⟩
 rw [← hx6] at qq6
 have X6 := Aside0.mk hx6
 clear hx6
 obtain ⟨x7, hx7⟩ : ∃ x, x = ns.getD 7 0 := ⟨_, rfl⟩
 rw [← hx7] at qq7
 have X7 := Aside0.mk hx7
 clear hx7
 obtain ⟨x8, hx8⟩ : ∃ x, x = ns.getD 8 0 := ⟨_, rfl⟩
 rw [← hx8] at qq8
 have X8 := Aside0.mk hx8
 clear hx8
 obtain ⟨x9, hx9⟩ : ∃ x, x = ns.getD 9 0 := ⟨_, rfl⟩
 rw [← hx9] at qq9
 have X9 := Aside0.mk hx9
 clear hx9
 obtain ⟨x10, hx10⟩ : ∃ x, x = ns.getD 10 0 := ⟨_, rfl⟩
 rw [← hx10] at qq10
 have X10 := Aside0.mk hx10
 clear hx10
 obtain ⟨x11, hx11⟩ : ∃ x, x = ns.getD 11 0 := ⟨_, rfl⟩
 rw [← hx11] at qq11
 have X11 := Aside0.mk hx11
 clear hx11
 obtain ⟨x16, hx16⟩ : ∃ x, x = ns.getD 16 0 := ⟨_, rfl⟩
 rw [← hx16] at qq16
 have X16 := Aside0.mk hx16
 clear hx16
 have p16 := Aside0.mk pp16
 have q16 := Aside0.mk qq16
 clear pp16 qq16
 go_still_tail 61, (by kernel_rfl)
 have HBd := Aside0.mk (below_drew HB1.out)
 have p16' : w1.drew.cell? ⟨g, 16, none⟩ = some (.pointer (some ⟨b16, 0, none⟩)) := p16.out
 have q16' : w1.drew.cell? ⟨b16, 0, none⟩ = some (.int .u64 x16) := q16.out
 clear pp0 qq0 pp1 qq1 pp2 qq2 pp3 qq3 pp4 qq4 pp5 qq5 pp6 qq6 pp7 qq7 pp8 qq8 pp9 qq9 pp10 qq10 pp11 qq11 p16 q16
 change wpList _ _ _ _ _ w1.drew
 generalize w1.drew = W2 at HBd p16' q16' ⊢
 have g1 := World.block_lt_of_cell? W2 _ p16'
 have g2 := World.block_lt_of_cell? W2 _ q16'
 simp only at g1 g2
 have hn1 : (g = W2.heap.size) = False := eq_false (by omega)
 have hn2 : (W2.heap.size = g) = False := eq_false (by omega)
 have hn3 : (b16 = W2.heap.size) = False := eq_false (by omega)
 have hn4 : (W2.heap.size = b16) = False := eq_false (by omega)
 have ca : ∀ o, (W2.alloc o).cell? ⟨g, 16, none⟩ = some (.pointer (some ⟨b16, 0, none⟩)) := fun o => ((below_alloc (Below.refl W2.heap.size W2) o).cell (p := ⟨g, 16, none⟩) g1).trans p16'
 have cb : ∀ o, (W2.alloc o).cell? ⟨b16, 0, none⟩ = some (.int .u64 x16) := fun o => ((below_alloc (Below.refl W2.heap.size W2) o).cell (p := ⟨b16, 0, none⟩) g2).trans q16'
 clear g1 g2
 go_wp2
 go_ret2
 rw [← X0.out, ← X1.out, ← X2.out, ← X3.out, ← X4.out, ← X5.out, ← X6.out, ← X7.out, ← X8.out, ← X9.out, ← X10.out, ← X11.out, ← X16.out]
 exact ⟨_, rfl, HBd.out.size, heap_alloc_new _ _, HBd.out.alloc HBd.out.size _⟩
end Go.Proofs.YtednjmngalmdkaaGreatDoor.GPC
end
section
/- pub-frontispiece/pub/procfs.parseConntrackStat: the rows that a text says, line by line, behind its head. Conditions: rowsF; the tables as laid. -/
namespace Go.Proofs.YtednjmngalmdkaaGreatDoor.GPC
open Go Go.RowKit Go.Proofs.YtednjmngalmdkaaGreatDoorW.PrintWords Go.Proofs.YtednjmngalmdkaaGreatDoorW.PrintLast
set_option linter.unusedVariables false
set_option linter.unusedSimpArgs false
def ctL (t : ByteArray) : Option (Option S109) := (strings_Fields.f t).bind fun fs => (ctF fs).map some
theorem ctL_some {t : ByteArray} {m : Option S109} (h : ctL t = some m) : ∃ fs x, strings_Fields.f t = some fs ∧ ctF fs = some x ∧ m = some x := by
 unfold ctL at h
 obtain ⟨fs, h1, h⟩ := Option.bind_eq_some_iff.1 h
 obtain ⟨x, h2, rfl⟩ := Option.map_eq_some_iff.1 h
 exact ⟨fs, x, h1, h2, rfl⟩
theorem infoCt : (Tryz.prog.info? 109).map (fun i => (i.zero, i.size, i.bytes)) = some (some (.agg #[(.int .u64 0), (.int .u64 0), (.int .u64 0), (.int .u64 0), (.int .u64 0), (.int .u64 0), (.int .u64 0), (.int .u64 0), (.int .u64 0), (.int .u64 0), (.int .u64 0), (.int .u64 0), (.int .u64 0)]), 13, 104) := by kernel_rfl
set_option maxHeartbeats 8000000 in
set_option maxRecDepth 100000 in
theorem ctParse (k : Nat) (text t0 : ByteArray) (ms : List S109) (w : World) (hT : TabW w) (hh : headF text = some t0) (h : rowsF ctL k t0 = some ms) :
  Calls Tryz.prog 197 #[.string text] w fun e w' => ∃ v, e = .returned (.tuple #[v, .nilIface]) ∧ Kd.R k109 109 w' w.heap.size (fun _ => True) v ms ∧ Below w.heap.size w w' := by
 obtain ⟨hne, hok, rfl⟩ : ¬ text.size = 0 ∧ LineOk text ∧ GL.restOf text = t0 := by
  unfold headF at hh
  split at hh
  ·cases hh
  ·rename_i h0
   split at hh
   ·rename_i h1; exact ⟨h0, h1, Option.some.inj hh⟩
   ·cases hh
 have HNE := Aside0.mk hne
 have HOK0 := Aside0.mk hok
 have HT := Aside0.mk hT
 have HSZ := Aside0.mk (rowsF_size h)
 have H := Aside0.mk h
 clear hT h hne hok hh
 go_enter Tryz.func197, Tryz.ntmps197
 go_wp2_with (first
  | (go_at_call 154; refine (GL.lines_new text _).mono ?_; rintro e w1 ⟨g, rfl, hg1, hg2, hb1⟩; have HB0 := Aside0.mk hb1; have HG0 := Aside0.mk hg2; have HG1 := Aside0.mk hg1; clear hg1 hg2 hb1)
  | (go_at_call 155; refine (GL.lines_scan g text _ _ HG0.out (by have := HNE.out; omega) (by have := HOK0.out.1; omega) HOK0.out.2.1 HOK0.out.2.2).mono ?_; rintro e w2 ⟨rfl, hg3, hgr3⟩; have HB := Aside0.mk (pw_below_grown HB0.out (some g) HB0.out.size hgr3 (fun k e => by cases e; exact HG1.out)); have HG := Aside0.mk hg3; clear hg3 hgr3))
 go_loopg [4] k (fun kq v4 w' => ∃ (t line : ByteArray) (rest done : List S109), Aside0 (rowsF ctL kq t = some rest) ∧ Aside0 (done ++ rest = ms) ∧ Aside0 (t.size = 0 ∨ done.length + t.size ≤ 1000000) ∧
  Aside0 (w'.heap[g]? = some (GL.linesCells t line)) ∧ Aside0 (Kd.R k109 109 w' w.heap.size (fun _ => True) v4 done) ∧ Aside0 (Below w.heap.size w w'))
 case atStart => exact ⟨_, _, ms, [], H, ⟨rfl⟩, ⟨by simpa using HSZ.out⟩, HG, ⟨Kd.R_nil _ _ _ _ _⟩, HB⟩
 case round =>
  clear H HSZ HG HB HG0 HB0
  obtain ⟨t, line, rest, done, H, HD, HS, HG, HO, HB⟩ := hrel
  cases gk with
  | zero => exact absurd H.out (by simp [rowsF])
  | succ k1 =>
   by_cases ht : t.size = 0
   ·have h := H.out
    clear H
    unfold rowsF at h
    rw [if_pos ht] at h
    obtain rfl := Option.some.inj h
    obtain rfl := GL.size0 ht
    clear h ht
    go_wp2_with (first
     | (go_at_call 155; refine (GL.lines_scan_end g line _ HG.out).mono ?_; rintro e w3 ⟨rfl, hg3, hgr3⟩))
    go_ret2
    refine ⟨_, rfl, ?_, ?_⟩
    ·have := HD.out
     rw [List.append_nil] at this
     rw [← this]
     exact Kd.R_mono (Kd.R_grown (Kd.R_types HO.out HG.out (by decide)) hgr3 (fun k hk e => hk.2 (by cases e; rfl))) (fun _ _ => trivial)
    ·exact pw_below_grown HB.out (some g) HB.out.size hgr3 (fun k e => by cases e; exact HG1.out)
   ·obtain ⟨hok, m0, ms', hm, hms, hre⟩ := rowsF_step H.out ht
    obtain ⟨fs, m, hfs, hmf, rfl⟩ := ctL_some hm
    have HT2 := Aside0.mk ht
    have HOK := Aside0.mk hok
    have HMS := Aside0.mk hms
    have HRE := Aside0.mk hre
    have HFF := Aside0.mk hfs
    have HM := Aside0.mk hmf
    have HFL := Aside0.mk (show 0 < fs.length from ctF_len hmf)
    clear H ht hok hm hms hre hfs hmf
    go_wp2_with (first
     | (go_at_call 155; refine (GL.lines_scan g t line _ HG.out (by have := HT2.out; omega) (by have := HOK.out.1; omega) HOK.out.2.1 HOK.out.2.2).mono ?_; rintro e w3 ⟨rfl, hg3, hgr3⟩; have HO3 := Aside0.mk (Kd.R_mono (Kd.R_grown (Kd.R_types HO.out HG.out (by decide)) hgr3 (fun k hk e => hk.2 (by cases e; rfl))) (fun _ _ => trivial) : Kd.R k109 109 w3 w.heap.size (fun _ => True) _ done); have HB3 := Aside0.mk (pw_below_grown HB.out (some g) HB.out.size hgr3 (fun k e => by cases e; exact HG1.out)); have HG3 := Aside0.mk hg3; clear hg3 hgr3)
     | (go_at_call 157; refine (GL.lines_text g _ _ _ HG3.out).mono ?_; rintro e w3' ⟨rfl, rfl⟩)
     | (go_at_call 190; refine (strings_Fields.calls _ fs _ (tabW_below HT.out HB3.out) HFF.out).mono ?_; rintro e w5 ⟨v0, rfl, hf, hb5⟩; obtain ⟨gs, cap, rfl, hgs1, hgs2, cells, hcells⟩ := Kd.R_form hf HFL.out; have HFS := Aside0.mk hf; have HB5 := Aside0.mk hb5; have HGS := Aside0.mk hgs2; clear hf hb5 hcells hgs1 hgs2)
     | (go_at_call 213; refine (ctLine gs cap fs m _ HGS.out (fun i hi => by have := (Kd.R_cell ByteArray.empty HFS.out (i : Int) (by omega) (by omega)).1; simpa only [Int.toNat_natCast] using this) HM.out).mono ?_; rintro e w6 ⟨p, rfl, hp1, hp2, hb6⟩; have q0 : w6.cell? ⟨p, 0, none⟩ = some (.int .u64 m.f0) := (blk_cell hp2 0).trans rfl; have q1 : w6.cell? ⟨p, 1, none⟩ = some (.int .u64 m.f1) := (blk_cell hp2 1).trans rfl; have q2 : w6.cell? ⟨p, 2, none⟩ = some (.int .u64 m.f2) := (blk_cell hp2 2).trans rfl; have q3 : w6.cell? ⟨p, 3, none⟩ = some (.int .u64 m.f3) := (blk_cell hp2 3).trans rfl; have q4 : w6.cell? ⟨p, 4, none⟩ = some (.int .u64 m.f4) := (blk_cell hp2 4).trans rfl; have q5 : w6.cell? ⟨p, 5, none⟩ = some (.int .u64 m.f5) := (blk_cell hp2 5).trans rfl; have q6 : w6.cell? ⟨p, 6, none⟩ = some (.int .u64 m.f6) := (blk_cell hp2 6).trans rfl; have q7 : w6.cell? ⟨p, 7, none⟩ = some (.int .u64 m.f7) := (blk_cell hp2 7).trans rfl; have q8 : w6.cell? ⟨p, 8, none⟩ = some (.int .u64 m.f8) := (blk_cell hp2 8).trans rfl; have q9 : w6.cell? ⟨p, 9, none⟩ = some (.int .u64 m.f9) := (blk_cell hp2 9).trans rfl; have q10 : w6.cell? ⟨p, 10, none⟩ = some (.int .u64 m.f10) := (blk_cell hp2 10).trans rfl; have q11 : w6.cell? ⟨p, 11, none⟩ = some (.int .u64 m.f11) := (blk_cell hp2 11).trans rfl; have q12 : w6.cell? ⟨p, 12, none⟩ = some (.int .u64 m.f12) := (blk_cell hp2 12).trans rfl; have HO6 := Aside0.mk (Kd.R_below (Kd.R_below HO3.out HB5.out) hb6); have HX6 := Aside0.mk (below_step (below_step HB3.out HB5.out) hb6); have HG6 := Aside0.mk (blk_below (blk_below HG3.out HB5.out) hb6); clear hb6 hp1 hp2)
     | ((with_reducible refine gate_builtin (b := .append) (xs := #[.tmp 26, .tmp 30]) rfl ?_); at_builtin; refine Kd.R_append k109 (w0 := w) w.heap.size rfl (.tmp 26) (.tmp 30) 105 109 (.agg #[(.int .u64 0), (.int .u64 0), (.int .u64 0), (.int .u64 0), (.int .u64 0), (.int .u64 0), (.int .u64 0), (.int .u64 0), (.int .u64 0), (.int .u64 0), (.int .u64 0), (.int .u64 0), (.int .u64 0)]) 104 rfl Tryz.underlying105 infoCt rfl (by decide) (by omega) u4 done m [.int .u64 m.f0, .int .u64 m.f1, .int .u64 m.f2, .int .u64 m.f3, .int .u64 m.f4, .int .u64 m.f5, .int .u64 m.f6, .int .u64 m.f7, .int .u64 m.f8, .int .u64 m.f9, .int .u64 m.f10, .int .u64 m.f11, .int .u64 m.f12] (fun _ => True) (fun _ => False) rfl (by first | (go_simp; done) | (go_simp; rfl)) (k109_mkM _ _ _ m) (fun _ hk => hk.elim) (fun _ _ => trivial) HO6.out HX6.out HX6.out.size (by have := HS.out; have := HT2.out; omega) ?_; intro v11 w11 ho hb hg _; have HO11 := Aside0.mk ho; have HB11 := Aside0.mk hb; have HG11 := Aside0.mk (blk_grown HG6.out hg (Kd.R_ne HO6.out HG6.out (by decide))); clear ho hb hg))
    go_roundg k1
    case measure => omega
    case rel =>
     exact ⟨GL.restOf t, GL.lineOf t, ms', done ++ [m], HMS, ⟨by have := HD.out; rw [HRE.out] at this; rw [← this]; simp⟩, ⟨by have := restOf_size t (by have := HT2.out; omega); have := HS.out; have := HT2.out; simp; omega⟩, HG11, HO11, HB11⟩
end Go.Proofs.YtednjmngalmdkaaGreatDoor.GPC
end
section
/- (pub-frontispiece/pub/procfs.FS).ConntrackStat: the text read and parsed. Conditions: ctTextF; the tables as laid. -/
namespace Go.Proofs.YtednjmngalmdkaaGreatDoor.GPC
open Go Go.RowKit Go.Proofs.YtednjmngalmdkaaGreatDoorW.PrintWords Go.Proofs.YtednjmngalmdkaaGreatDoorW.PrintLast
set_option linter.unusedVariables false
set_option linter.unusedSimpArgs false
def ctTextF (k : Nat) (text : ByteArray) : Option (List S109 × Option Int) := (texts_Read.f text).bind fun q => if q.2 = none then (headF (strOfNums q.1)).bind fun t0 => (rowsF ctL k t0).map fun x => (x, none) else none
set_option maxHeartbeats 8000000 in
set_option maxRecDepth 100000 in
theorem rdConntrack (k : Nat) (text : ByteArray) (r : List S109) (w : World) (hT : TabW w) (h : ctTextF k text = some (r, none)) :
  Calls Tryz.prog 166 #[.string text] w fun e w' => ∃ v, e = .returned (.tuple #[v, .nilIface]) ∧ Kd.R k109 109 w' w.heap.size (fun _ => True) v r ∧ Below w.heap.size w w' := by
 unfold ctTextF at h
 obtain ⟨⟨bs, er⟩, hrd, h⟩ := Option.bind_eq_some_iff.1 h
 split at h
 ·rename_i he
  simp only at he
  subst he
  obtain ⟨t0, hh, h⟩ := Option.bind_eq_some_iff.1 h
  obtain ⟨x, hx, e⟩ := Option.map_eq_some_iff.1 h
  cases e
  have HT := Aside0.mk hT
  have HRD := Aside0.mk hrd
  have HL := Aside0.mk hx
  have HH := Aside0.mk hh
  have HW0 := Aside0.mk (Below.refl w.heap.size w)
  clear hT hrd h hx hh
  go_enter Tryz.func166, Tryz.ntmps166
  go_wp2_with (first
   | (go_at_call 140; refine (texts_Read.calls text bs none _ HRD.out).mono ?_; rintro e w1 ⟨v0, rfl, hv, hb⟩; simp only [errW_none]; obtain ⟨Ab, cb, rfl, hlb, hFb⟩ := hv; have hcv := Kd.C_string (P := Tryz.prog) (A := Ab) (c := cb) Tryz.underlying173 Tryz.underlying5 Tryz.underlying56 (Kd.F_now hFb); have HW1 := Aside0.mk (below_then HW0.out HW0.out.size hb); clear hb hFb hlb)
   | (go_at_call 197; refine (ctParse k (strOfNums bs) t0 r _ (tabW_below HT.out HW1.out) HH.out HL.out).mono ?_; rintro e w2 ⟨v, rfl, hR, hb2⟩; have HR := Aside0.mk (Kd.R_lower hR HW1.out.size); have HB2 := Aside0.mk (below_then HW1.out HW1.out.size hb2); clear hR hb2))
  go_ret2
  exact ⟨v, rfl, HR.out, HB2.out⟩
 ·cases h
set_option maxHeartbeats 8000000 in
set_option maxRecDepth 100000 in
theorem fsConntrack (k : Nat) (text : ByteArray) (r : List S109) (w : World) (hT : TabW w) (h : ctTextF k text = some (r, none)) :
  Calls Tryz.prog 91 #[.agg #[.string text]] w fun e w' => ∃ v, e = .returned (.tuple #[v, .nilIface]) ∧ Kd.R k109 109 w' w.heap.size (fun _ => True) v r ∧ Below w.heap.size w w' := by
 have HT := Aside0.mk hT
 have HL := Aside0.mk h
 have HW0 := Aside0.mk (show Below w.heap.size w ((w.alloc (Obj.cells #[Value.string text] 58 (0,0))).alloc (Obj.cells #[Value.string ⟨#[110, 101, 116]⟩, Value.string ⟨#[115, 116, 97, 116]⟩, Value.string ⟨#[110, 102, 95, 99, 111, 110, 110, 116, 114, 97, 99, 107]⟩] 9 (0,0))) from below_alloc (below_alloc (Below.refl _ _) _) _)
 clear hT h
 go_enter Tryz.func91, Tryz.ntmps91
 go_wp2_with (first
  | (go_at_call 139; go_in)
  | (go_at_call 166; refine (rdConntrack k text r _ (tabW_below HT.out HW0.out) HL.out).mono ?_; rintro e w2 ⟨v, rfl, hR, hb2⟩; have HR := Aside0.mk (Kd.R_lower hR HW0.out.size); have HB2 := Aside0.mk (below_then HW0.out HW0.out.size hb2); clear hR hb2))
 go_ret2
 exact ⟨v, rfl, HR.out, HB2.out⟩
end Go.Proofs.YtednjmngalmdkaaGreatDoor.GPC
end
section
/- impl.tree, impl.Conntrack: the door of this law. Conditions: the printed functions' answers; the tables as laid. -/
namespace Go.Proofs.YtednjmngalmdkaaGreatDoor.GPC
open Go.RowKit Go.Proofs.YtednjmngalmdkaaGreatDoorW.PrintWords Go.Proofs.YtednjmngalmdkaaGreatDoorW.PrintLast
set_option linter.unusedVariables false
set_option linter.unusedSimpArgs false
attribute [local go_sem] run_store_float
def nodeConntrack (k : Nat) (r : List S109) : Option S43 := (impl_Conntrack_1.f k r).map fun r => ⟨r.1, r.2.1, r.2.2.1, r.2.2.2.1, r.2.2.2.2.1, r.2.2.2.2.2.1, r.2.2.2.2.2.2.1, r.2.2.2.2.2.2.2⟩
theorem litConntrack (k : Nat) (A : Option Addr) (c : Nat) (r : List S109) (n : S43) (w : World) (hC : Kd.C k109 w A r.length r) (hc : r.length ≤ c) (h : nodeConntrack k r = some n) :
  Calls Tryz.prog 92 #[.slice A r.length c] w fun e w' => ∃ v7, e = .returned (nodeVal n v7) ∧ KidsV n w w' v7 ∧ Below w.heap.size w w' := by
 unfold nodeConntrack at h
 obtain ⟨⟨r1, r2, r3, r4, r5, r6, r7, r8⟩, hr, rfl⟩ := Option.map_eq_some_iff.1 h
 refine (impl_Conntrack_1.calls k A c r r1 r2 r3 r4 r5 r6 r7 r8 w hC hc hr).mono ?_
 rintro e w' ⟨v7, rfl, ho, hb⟩
 exact ⟨v7, rfl, ho, hb⟩
theorem idleConntrack (p q : Addr) (w : World) :
  CallsD Tryz.prog 165 #[.pointer (some p), .pointer (some q)] .returning w fun e u' w' => e = .returned (.tuple #[]) ∧ u' = .returning ∧ w' = w := by
 refine callsD_of_wpS Tryz.func165 rfl fun c₀ cs hu => ?_
 apply wpS_seq
 apply wpS_region
 simp [wpOpsS, go_sem, recoverD, hu, Tryz.ntmps165, Exit.thenS]
 refine wpS_cond (t := false) (by simp [Act.eval, Array.replicate]) ?_
 simp only [Bool.false_eq_true, if_false]
 refine wpS_of_wp (wp_skip ?_)
 cases c₀
 simp_all [bodyPostS, results, Tryz.results165]
set_option maxHeartbeats 8000000 in
set_option maxRecDepth 100000 in
theorem treeConntrack (k : Nat) (text : ByteArray) (r : List S109) (n : S43) (w : World) (hT : TabW w) (h : ctTextF k text = some (r, none)) (hn : nodeConntrack k r = some n) :
  Calls Tryz.prog 90 #[.func (.func 91) #[.agg #[.string text]] #[], .func (.func 92) #[] #[]] w fun e w' => ∃ v7, e = .returned (.tuple #[nodeVal n v7, .int .i64 0]) ∧ KidsV n w w' v7 ∧ Below w.heap.size w w' := by
 have hmf : ∀ (fn : Fn) (first cap : Array Value) (w : World), (Instr.makeFunc fn first cap).run Tryz.prog w = .ok (.func fn first cap) w := fun _ _ _ _ => rfl
 have HT := Aside0.mk hT
 have HL := Aside0.mk h
 have HN := Aside0.mk hn
 clear hT h hn
 go_enter_defers Tryz.func90, Tryz.ntmps90
 go_wp2_with (first
   | ((with_reducible refine gate_dst (N := 4) rfl ?_); refine box_event ?hg (N := 4) ?hd (cs := nodeZero) (t := 43) ?hr ?_; (case hd => rfl); (case hg => rfl); (case hr => first | (go_simp; done) | (go_simp; rfl)); intro gb hgb w1 hbox hb1; have HBX := Aside0.mk hbox; have HB1 := Aside0.mk hb1; have HGB := Aside0.mk hgb; clear hgb hbox hb1)
   | ((with_reducible refine gate_dst (N := 5) rfl ?_); refine box_event ?hg (N := 5) ?hd (cs := #[.int .i64 0]) (t := 3) ?hr ?_; (case hd => rfl); (case hg => rfl); (case hr => first | (go_simp; done) | (go_simp; rfl)); intro gc hgc w2 hboxc hb2; have HBC := Aside0.mk hboxc; have HBX2 := Aside0.mk (blk_below HBX.out hb2); have HB2 := Aside0.mk (below_then HB1.out HB1.out.size hb2); have HGC := Aside0.mk hgc; have HCG := Aside0.mk (show gb < gc by rw [hgc]; exact blk_lt HBX.out); have HWC := Aside0.mk (show w.heap.size ≤ gc by rw [hgc]; exact HB1.out.size); clear hgc hboxc hb2)
   | (go_at_call 91; refine (fsConntrack k text r _ (tabW_below HT.out HB2.out) HL.out).mono ?_; rintro e w3 ⟨vr, rfl, hg2, hb3⟩; obtain ⟨Ar, cr, rfl, hlr, hCr⟩ := Kd.R_reads hg2; have HG := Aside0.mk hCr; have HGL := Aside0.mk hlr; have HBX3 := Aside0.mk (blk_below HBX2.out hb3); have HBC3 := Aside0.mk (blk_below HBC.out hb3); have HB3 := Aside0.mk (below_then HB2.out HB2.out.size hb3); clear hg2 hb3 hlr hCr)
   | (go_at_call 92; refine (litConntrack k Ar cr r n _ HG.out HGL.out HN.out).mono ?_; rintro e w4 ⟨v7, rfl, ho, hb4⟩; have HK := Aside0.mk ho; have HBX4 := Aside0.mk (blk_below HBX3.out hb4); have HBC4 := Aside0.mk (blk_below HBC3.out hb4); have HB4 := Aside0.mk (below_then HB3.out HB3.out.size hb4); have HLC := Aside0.mk (show gc < w3.heap.size from blk_lt HBC3.out); clear ho hb4)
   | ((with_reducible refine gate_ (.store 43 (.tmp 4) (.tmp 19)) rfl ?_); refine box_store rfl rfl 43 (.tmp 4) (.tmp 19) rfl gb 43 nodeZero (nodeVal n v7) (nodeCells n v7) rfl rfl rfl node_size (node_one HK.out.slice) HBX4.out rfl ?_; intro W5 hbk hgr; have HBK5 := Aside0.mk hbk; have HK5 := Aside0.mk (HK.out.grown hgr (Nat.lt_trans HCG.out HLC.out)); have HBC5 := Aside0.mk (blk_grown HBC4.out hgr (by have := HCG.out; intro e; injection e with e; omega)); have HB5 := Aside0.mk (pw_below_grown HB4.out (some gb) HB4.out.size hgr (fun k e => by cases e; rw [HGB.out]; exact Nat.le_refl _)); have hfc := blk_frozen HBC5.out 0; have hcc : W5.cell? ⟨gc, 0, none⟩ = some (.int .i64 0) := (blk_cell HBC5.out 0).trans rfl; clear hbk hgr))
 have hbk6 := blk_far HBK5.out (p := ⟨gc, 0, none⟩) (by have := HCG.out; show gb ≠ gc; omega) (.int .i64 0)
 have hbc6 := blk_put HBC5.out 0 (.int .i64 0) rfl
 have HB6 := below_set HB5.out HWC.out (j := 0) (v := .int .i64 0)
 have HK6 := (HK5.out.grown (grown_set W5 gc 0 (.int .i64 0)) HLC.out).lower HB3.out.size
 generalize W5.setCell ⟨gc, 0, none⟩ (.int .i64 0) = W6 at hbk6 hbc6 HB6 HK6 ⊢
 have cc : W6.cell? ⟨gc, 0, none⟩ = some (.int .i64 0) := (blk_cell hbc6 0).trans rfl
 have cb0 : W6.cell? ⟨gb, 0, none⟩ = some (.string n.f0) := (blk_cell hbk6 0).trans rfl
 have cb1 : W6.cell? ⟨gb, 1, none⟩ = some (.int .i64 n.f1) := (blk_cell hbk6 1).trans rfl
 have cb2 : W6.cell? ⟨gb, 2, none⟩ = some (.bool n.f2) := (blk_cell hbk6 2).trans rfl
 have cb3 : W6.cell? ⟨gb, 3, none⟩ = some (.int .i64 n.f3) := (blk_cell hbk6 3).trans rfl
 have cb4 : W6.cell? ⟨gb, 4, none⟩ = some (.int .u64 n.f4) := (blk_cell hbk6 4).trans rfl
 have cb5 : W6.cell? ⟨gb, 5, none⟩ = some (.float .f64 n.f5) := (blk_cell hbk6 5).trans rfl
 have cb6 : W6.cell? ⟨gb, 6, none⟩ = some (.string n.f6) := (blk_cell hbk6 6).trans rfl
 have cb7 : W6.cell? ⟨gb, 7, none⟩ = some (v7) := (blk_cell hbk6 7).trans rfl
 refine leaves_cons (f := 165) (args := #[.pointer (some ⟨gb, 0, none⟩), .pointer (some ⟨gc, 0, none⟩)]) (by simp) (by simp [go_sem]) ?_
 refine (idleConntrack _ _ _).mono ?_
 rintro e u' w'' ⟨rfl, rfl, rfl⟩
 simp [Leaves, settle, results, Tryz.results90, go_sem, cb0, cb1, cb2, cb3, cb4, cb5, cb6, cb7, cc]
 exact ⟨v7, rfl, HK6, HB6⟩
set_option maxHeartbeats 8000000 in
set_option maxRecDepth 100000 in
theorem implConntrack (k : Nat) (text : ByteArray) (r : List S109) (n : S43) (w : World) (hT : TabW w) (h : ctTextF k text = some (r, none)) (hn : nodeConntrack k r = some n) :
  Calls Tryz.prog 29 #[.string text] w fun e w' => ∃ v7, e = .returned (.tuple #[nodeVal n v7, .int .i64 0]) ∧ KidsV n w w' v7 ∧ Below w.heap.size w w' := by
 have hmf : ∀ (fn : Fn) (first cap : Array Value) (w : World), (Instr.makeFunc fn first cap).run Tryz.prog w = .ok (.func fn first cap) w := fun _ _ _ _ => rfl
 have HT := Aside0.mk hT
 have HL := Aside0.mk h
 have HN := Aside0.mk hn
 clear hT h hn
 go_enter Tryz.func29, Tryz.ntmps29
 go_wp2_with (first
   | ((with_reducible refine gate_dst (N := 2) rfl ?_); refine box_event ?hg (N := 2) ?hd (cs := nodeZero) (t := 43) ?hr ?_; (case hd => rfl); (case hg => rfl); (case hr => first | (go_simp; done) | (go_simp; rfl)); intro gb hgb w1 hbox hb1; have HBX := Aside0.mk hbox; have HB1 := Aside0.mk hb1; have HGB := Aside0.mk hgb; clear hgb hbox hb1)
   | (go_at_call 57; refine (procfs_TextFS.calls text text _ rfl).mono ?_; rintro e w2 ⟨rfl, hb2⟩; have HBX2 := Aside0.mk (blk_below HBX.out hb2); have HB2 := Aside0.mk (below_then HB1.out HB1.out.size hb2); clear hb2)
   | (go_at_call 90; refine (treeConntrack k text r n _ (tabW_below HT.out HB2.out) HL.out HN.out).mono ?_; rintro e w3 ⟨v7, rfl, ho, hb3⟩; have HK := Aside0.mk ho; have HBX3 := Aside0.mk (blk_below HBX2.out hb3); have HB3 := Aside0.mk (below_then HB2.out HB2.out.size hb3); have HLT := Aside0.mk (show gb < w2.heap.size from blk_lt HBX2.out); clear ho hb3)
   | ((with_reducible refine gate_ (.store 43 (.tmp 2) (.tmp 8)) rfl ?_); refine box_store rfl rfl 43 (.tmp 2) (.tmp 8) rfl gb 43 nodeZero (nodeVal n v7) (nodeCells n v7) rfl rfl rfl node_size (node_one HK.out.slice) HBX3.out rfl ?_; intro W' hbk hgr))
 refine bodyPost_ret (results_cell_tmp rfl _ _ gb 43 _ (0, 0) _ rfl hbk Tryz.underlying43 rfl node_size) rfl ?_
 refine ⟨v7, rfl, (HK.out.grown hgr HLT.out).lower HB2.out.size, pw_below_grown HB3.out (some gb) HB3.out.size hgr (fun k e => by cases e; rw [HGB.out]; exact Nat.le_refl _)⟩
def doorConntrack (s : ByteArray) (n : S43) : Prop := ∃ k r, ctTextF k s = some (r, none) ∧ nodeConntrack k r = some n
theorem doorConntrack_calls (text : ByteArray) (n : S43) (w : World) (hT : TabW w) (h : doorConntrack text n) :
  Calls Tryz.prog 29 #[.string text] w fun e w' => ∃ v7, e = .returned (.tuple #[nodeVal n v7, .int .i64 0]) ∧ KidsV n w w' v7 ∧ Below w.heap.size w w' := by
 obtain ⟨k, r, h1, h2⟩ := h
 exact implConntrack k text r n w hT h1 h2
end Go.Proofs.YtednjmngalmdkaaGreatDoor.GPC
end
section
namespace Go.Proofs.YtednjmngalmdkaaGreatDoor.GPC
open Go.RowKit Go.Proofs.YtednjmngalmdkaaGreatDoorW.PrintWords Go.Proofs.YtednjmngalmdkaaGreatDoorW.PrintLast Go.Proofs.YtednjmngalmdkaaGreatDoorW.PrintMore
attribute [local go_sem] max2_int min2_int max_two min_two max_three min_three max_four min_four   -- for this text's walks alone
set_option linter.unusedVariables false
set_option linter.unusedSimpArgs false

attribute [local go_sem] run_store_float
/-! ### spec_conntrackFine: function 87 -/
def spec_conntrackFine.l0 : Nat → List (S31) → Int → Int → Option (Bool)
 | 0, _, _, _ => none
 | k + 1, x5, x6, x7 => if x7 < x6 then (if 0 ≤ x7 then (if x7 < (x5.length : Int) then (if ((rd_T31 x5 x7).f0).toList = ([] : List UInt8) then ((spec_counted.f k ((rd_T31 x5 x7).f0) ((rd_T31 x5 x7).f1) ((rd_T31 x5 x7).f2) 17 32 0).bind fun t410 => (if t410 = true then (spec_conntrackFine.l0 k x5 x6 (wrap64 (x7 + 1))) else (some false))) else (some false)) else (none)) else (none)) else (some true)
def spec_conntrackFine.f (k : Nat) (l0 : List (S31)) : Option (Bool) := spec_conntrackFine.l0 k l0 (l0.length : Int) 0
theorem spec_conntrackFine.mono_l : ∀ k, (∀ y0 y1 y2, LeO (spec_conntrackFine.l0 k y0 y1 y2) (spec_conntrackFine.l0 (k + 1) y0 y1 y2))
 | 0 => fun _ _ _ r h => by simp [spec_conntrackFine.l0] at h
 | k + 1 => by
  have ih0 := spec_conntrackFine.mono_l k
  ·intro y0 y1 y2
   unfold spec_conntrackFine.l0
   repeat' first
   | (with_reducible exact ih0 _ _ _)
   | (with_reducible exact spec_counted.mono _ _ _ _ _ _ _)
   | (with_reducible exact LeO.refl _)
   | (with_reducible exact LeO.none _)
   | (with_reducible refine LeO.ite ?_ ?_)
   | (with_reducible refine LeO.bind ?_ (fun _ => ?_))
   | exact ih0 _ _ _
   | exact spec_counted.mono _ _ _ _ _ _ _
   | exact LeO.none _
   | refine LeO.ite ?_ ?_
   | refine LeO.bind ?_ (fun _ => ?_)
theorem spec_conntrackFine.mono : ∀ a0 k, LeO (spec_conntrackFine.f k a0) (spec_conntrackFine.f (k + 1) a0) := by
 intro a0 k
 have ih0 := spec_conntrackFine.mono_l k
 unfold spec_conntrackFine.f
 repeat' first
   | (with_reducible exact ih0 _ _ _)
   | (with_reducible exact spec_counted.mono _ _ _ _ _ _ _)
   | (with_reducible exact LeO.refl _)
   | (with_reducible exact LeO.none _)
   | (with_reducible refine LeO.ite ?_ ?_)
   | (with_reducible refine LeO.bind ?_ (fun _ => ?_))
   | exact ih0 _ _ _
   | exact spec_counted.mono _ _ _ _ _ _ _
   | exact LeO.none _
   | refine LeO.ite ?_ ?_
   | refine LeO.bind ?_ (fun _ => ?_)
set_option maxHeartbeats 8000000 in
set_option maxRecDepth 100000 in
theorem spec_conntrackFine.calls (k : Nat) (A0 : Option Addr) (c0 : Nat) (l0 : List (S31)) (r : Bool) (w : World) (hr0 : Kd.C k31 w A0 l0.length l0) (hc0 : l0.length ≤ c0) (h : spec_conntrackFine.f k l0 = some r) :
  Calls Tryz.prog 87 #[.slice A0 l0.length c0] w fun e w' => e = .returned (.bool r) ∧ Below w.heap.size w w' := by
 have hu31 := Tryz.underlying31
 have HR0 := Aside0.mk hr0
 have HC0 := Aside0.mk hc0
 clear hr0 hc0
 have HB := Aside0.mk (Below.refl w.heap.size w)
 have H : (spec_conntrackFine.l0 k l0 (l0.length : Int) 0) = some r := h
 clear h
 have H' := Aside0.mk H
 clear H
 go_enter Tryz.func87, Tryz.ntmps87
 go_wp2
 go_loopg [7] k (fun kq v7 w' => ∃ (x7_1 : Int), v7 = .int .i64 x7_1 ∧ Aside0 (spec_conntrackFine.l0 kq l0 (l0.length : Int) x7_1 = some r) ∧ Aside0 (kq ≤ k) ∧ Aside0 (Below w.heap.size w w'))
 case atStart => exact ⟨(0), (by first | rfl | (simp; done) | (simp [*]; done)), H', ⟨Nat.le_refl _⟩, ⟨by repeat (first | (with_reducible first | exact HB.out | apply below_alloc | apply pw_below_drewN | apply below_drew1) | exact HB.out)⟩⟩
 case round =>
  clear H'
  obtain ⟨x7_1, rfl, HA, HK1, HB⟩ := hrel
  cases gk with
  | zero => exact absurd HA.out (by simp [spec_conntrackFine.l0])
  | succ k1 =>
   have H := HA.out
   clear HA
   simp only [spec_conntrackFine.l0] at H
   by_cases c2 : x7_1 < (l0.length : Int)
   ·rw [if_pos c2] at H
    have c2b0 : decide (x7_1 < (l0.length : Int)) = true := decide_eq_true c2
    clear c2
    replace H := guard_inv H
    obtain ⟨c3, H⟩ := H
    have c3b0 : decide (0 ≤ x7_1) = true := decide_eq_true c3
    clear c3
    replace H := guard_inv H
    obtain ⟨c4, H⟩ := H
    have c4b0 : decide (x7_1 < (l0.length : Int)) = true := decide_eq_true c4
    clear c4
    by_cases c5 : ((rd_T31 l0 x7_1).f0).toList = ([] : List UInt8)
    ·rw [if_pos c5] at H
     have c5b0 : (((rd_T31 l0 x7_1).f0).toList == ([] : List UInt8)) = true := beq_iff_eq.mpr c5
     have c5b1 : (((rd_T31 l0 x7_1).f0).toList != ([] : List UInt8)) = false := bne_eq_false_iff_eq.mpr c5
     clear c5
     replace H := Option.bind_eq_some_iff.mp H
     obtain ⟨t410, A60, H⟩ := H
     replace H : (if t410 = true then (spec_conntrackFine.l0 k1 l0 (l0.length : Int) (wrap64 (x7_1 + 1))) else (some false)) = some r := H
     have A6 := Aside0.mk A60
     clear A60
     by_cases c7 : t410 = true
     ·subst c7
      have H1 : (spec_conntrackFine.l0 k1 l0 (l0.length : Int) (wrap64 (x7_1 + 1))) = some r := by rw [if_pos rfl] at H; exact H
      clear H
      have H := H1
      clear H1
      have H' := Aside0.mk H
      clear H
      have p408 : 0 ≤ (x7_1 : Int) := of_decide_eq_true (by first | (with_reducible assumption) | assumption)
      have q408 : x7_1 < (l0.length : Int) := of_decide_eq_true (by first | (with_reducible assumption) | assumption)
      obtain ⟨ad408, A408_1, c408_1, A408_2, c408_2, e408, hx408_0, hx408_1, hx408_2, hl408_1, hi408_1, hl408_2, hi408_2⟩ := at_T31 HR0.out x7_1 p408 q408
      cases e408
      replace hx408_0 := (HB.out.cell (World.block_lt_of_cell? w _ hx408_0)).trans hx408_0
      replace hx408_1 := (HB.out.cell (World.block_lt_of_cell? w _ hx408_1)).trans hx408_1
      replace hx408_2 := (HB.out.cell (World.block_lt_of_cell? w _ hx408_2)).trans hx408_2
      have HR408_1 := Aside0.mk hi408_1
      have HC408_1 := Aside0.mk hl408_1
      clear hi408_1 hl408_1
      have HR408_2 := Aside0.mk hi408_2
      have HC408_2 := Aside0.mk hl408_2
      clear hi408_2 hl408_2
      replace p408 := eq_true p408
      replace q408 := eq_true q408
      go_wp2_with (first | ((with_reducible refine gate_dst (N := 4) rfl ?_); refine box_event ?hg (N := 4) ?hd (cs := #[.string (⟨#[]⟩ : ByteArray), .slice none 0 0, .slice none 0 0]) (t := 31) ?hr ?_; (case hd => rfl); (case hg => rfl); (case hr => first | (go_simp; done) | (go_simp; rfl)); intro gb409 hg w8 hbox hb; have n0_ := Aside0.mk (below_step (by repeat (first | (with_reducible first | exact HB.out | apply below_alloc | apply pw_below_drewN | apply below_drew1) | exact HB.out)) hb); have n1_ := Aside0.mk (hbox); have n2_ := Aside0.mk ((by rw [hg]; exact (below_size (by repeat (first | (with_reducible first | exact HB.out | apply below_alloc | apply pw_below_drewN | apply below_drew1) | exact HB.out))) : w.heap.size ≤ gb409)); have n3_ := Aside0.mk ((by rw [hg]; exact (below_size (by repeat (first | (with_reducible first | exact HB.out | apply below_alloc | apply pw_below_drewN | apply below_drew1) | exact HB.out))) : w.heap.size ≤ gb409)); clear HB; have HB := n0_; have BK409 := n1_; have GW409 := n2_; have GE409 := n3_; clear n0_ n1_ n2_ n3_; clear hb hbox hg; have hcz9_0 : w8.cell? ⟨gb409, 0, none⟩ = some (.string (⟨#[]⟩ : ByteArray)) := (blk_cell BK409.out 0).trans rfl; have hcz9_1 : w8.cell? ⟨gb409, 1, none⟩ = some (.slice none 0 0) := (blk_cell BK409.out 1).trans rfl; have hcz9_2 : w8.cell? ⟨gb409, 2, none⟩ = some (.slice none 0 0) := (blk_cell BK409.out 2).trans rfl; have hfz9_0 := blk_frozen BK409.out 0; have hfz9_1 := blk_frozen BK409.out 1; have hfz9_2 := blk_frozen BK409.out 2) | (go_at_call 164; (with_reducible refine (spec_counted.calls k1 ((rd_T31 l0 x7_1).f0) _ _ ((rd_T31 l0 x7_1).f1) _ _ ((rd_T31 l0 x7_1).f2) 17 32 0 true _ ?side1 ?side2 ?side3 ?side4 A6.out).mono ?_); (case side1 => exact Kd.C_below HR408_1.out (by repeat (first | (with_reducible first | exact HB.out | apply below_alloc | apply pw_below_drewN | apply below_drew1 | refine below_set ?_ GE409.out) | exact HB.out))); (case side2 => exact HC408_1.out); (case side3 => exact Kd.C_below HR408_2.out (by repeat (first | (with_reducible first | exact HB.out | apply below_alloc | apply pw_below_drewN | apply below_drew1 | refine below_set ?_ GE409.out) | exact HB.out))); (case side4 => exact HC408_2.out); rintro e w10 ⟨rfl, hb⟩; have n0_ := Aside0.mk (blk_below (g := gb409) (o := .cells #[.string ((rd_T31 l0 x7_1).f0), .slice A408_1 ((rd_T31 l0 x7_1).f1).length c408_1, .slice A408_2 ((rd_T31 l0 x7_1).f2).length c408_2] 31 (0, 0)) (by (with_reducible repeat (first | refine blk_drewN ?_ _ | refine blk_drew ?_ | refine blk_alloc ?_ _)); refine blk_put (cs := #[.string ((rd_T31 l0 x7_1).f0), .slice A408_1 ((rd_T31 l0 x7_1).f1).length c408_1, .slice none 0 0]) ?_ 2 _ rfl; (with_reducible repeat (first | refine blk_drewN ?_ _ | refine blk_drew ?_ | refine blk_alloc ?_ _)); refine blk_put (cs := #[.string ((rd_T31 l0 x7_1).f0), .slice none 0 0, .slice none 0 0]) ?_ 1 _ rfl; (with_reducible repeat (first | refine blk_drewN ?_ _ | refine blk_drew ?_ | refine blk_alloc ?_ _)); refine blk_put (cs := #[.string (⟨#[]⟩ : ByteArray), .slice none 0 0, .slice none 0 0]) ?_ 0 _ rfl; (with_reducible repeat (first | refine blk_drewN ?_ _ | refine blk_drew ?_ | refine blk_alloc ?_ _)); exact BK409.out) hb); have n1_ := Aside0.mk (below_step (by repeat (first | (with_reducible first | exact HB.out | apply below_alloc | apply pw_below_drewN | apply below_drew1 | refine below_set ?_ GE409.out) | exact HB.out)) hb); clear BK409; clear HB; have BK409 := n0_; have HB := n1_; clear n0_ n1_; (try clear hb); (try clear hb2); (try clear hk); (try clear hi)))
      go_roundg k1
      case measure => have := HK1.out; omega
      case rel => exact ⟨(wrap64 (x7_1 + 1)), (by first | rfl | (simp; done) | (simp [*]; done)), H', ⟨by have := HK1.out; omega⟩, ⟨by repeat (first | (with_reducible first | exact HB.out | apply below_alloc | apply pw_below_drewN | apply below_drew1 | refine below_set ?_ GE409.out) | exact HB.out)⟩⟩
     ·replace c7 := Bool.eq_false_iff.mpr c7
      subst c7
      have H1 : (some false) = some r := by rw [if_neg (show ¬ (false = true) by decide)] at H; exact H
      clear H
      have H := H1
      clear H1
      obtain rfl := Option.some.inj H
      have p408 : 0 ≤ (x7_1 : Int) := of_decide_eq_true (by first | (with_reducible assumption) | assumption)
      have q408 : x7_1 < (l0.length : Int) := of_decide_eq_true (by first | (with_reducible assumption) | assumption)
      obtain ⟨ad408, A408_1, c408_1, A408_2, c408_2, e408, hx408_0, hx408_1, hx408_2, hl408_1, hi408_1, hl408_2, hi408_2⟩ := at_T31 HR0.out x7_1 p408 q408
      cases e408
      replace hx408_0 := (HB.out.cell (World.block_lt_of_cell? w _ hx408_0)).trans hx408_0
      replace hx408_1 := (HB.out.cell (World.block_lt_of_cell? w _ hx408_1)).trans hx408_1
      replace hx408_2 := (HB.out.cell (World.block_lt_of_cell? w _ hx408_2)).trans hx408_2
      have HR408_1 := Aside0.mk hi408_1
      have HC408_1 := Aside0.mk hl408_1
      clear hi408_1 hl408_1
      have HR408_2 := Aside0.mk hi408_2
      have HC408_2 := Aside0.mk hl408_2
      clear hi408_2 hl408_2
      replace p408 := eq_true p408
      replace q408 := eq_true q408
      go_wp2_with (first | ((with_reducible refine gate_dst (N := 4) rfl ?_); refine box_event ?hg (N := 4) ?hd (cs := #[.string (⟨#[]⟩ : ByteArray), .slice none 0 0, .slice none 0 0]) (t := 31) ?hr ?_; (case hd => rfl); (case hg => rfl); (case hr => first | (go_simp; done) | (go_simp; rfl)); intro gb409 hg w11 hbox hb; have n0_ := Aside0.mk (below_step (by repeat (first | (with_reducible first | exact HB.out | apply below_alloc | apply pw_below_drewN | apply below_drew1) | exact HB.out)) hb); have n1_ := Aside0.mk (hbox); have n2_ := Aside0.mk ((by rw [hg]; exact (below_size (by repeat (first | (with_reducible first | exact HB.out | apply below_alloc | apply pw_below_drewN | apply below_drew1) | exact HB.out))) : w.heap.size ≤ gb409)); have n3_ := Aside0.mk ((by rw [hg]; exact (below_size (by repeat (first | (with_reducible first | exact HB.out | apply below_alloc | apply pw_below_drewN | apply below_drew1) | exact HB.out))) : w.heap.size ≤ gb409)); clear HB; have HB := n0_; have BK409 := n1_; have GW409 := n2_; have GE409 := n3_; clear n0_ n1_ n2_ n3_; clear hb hbox hg; have hcz12_0 : w11.cell? ⟨gb409, 0, none⟩ = some (.string (⟨#[]⟩ : ByteArray)) := (blk_cell BK409.out 0).trans rfl; have hcz12_1 : w11.cell? ⟨gb409, 1, none⟩ = some (.slice none 0 0) := (blk_cell BK409.out 1).trans rfl; have hcz12_2 : w11.cell? ⟨gb409, 2, none⟩ = some (.slice none 0 0) := (blk_cell BK409.out 2).trans rfl; have hfz12_0 := blk_frozen BK409.out 0; have hfz12_1 := blk_frozen BK409.out 1; have hfz12_2 := blk_frozen BK409.out 2) | (go_at_call 164; (with_reducible refine (spec_counted.calls k1 ((rd_T31 l0 x7_1).f0) _ _ ((rd_T31 l0 x7_1).f1) _ _ ((rd_T31 l0 x7_1).f2) 17 32 0 false _ ?side1 ?side2 ?side3 ?side4 A6.out).mono ?_); (case side1 => exact Kd.C_below HR408_1.out (by repeat (first | (with_reducible first | exact HB.out | apply below_alloc | apply pw_below_drewN | apply below_drew1 | refine below_set ?_ GE409.out) | exact HB.out))); (case side2 => exact HC408_1.out); (case side3 => exact Kd.C_below HR408_2.out (by repeat (first | (with_reducible first | exact HB.out | apply below_alloc | apply pw_below_drewN | apply below_drew1 | refine below_set ?_ GE409.out) | exact HB.out))); (case side4 => exact HC408_2.out); rintro e w13 ⟨rfl, hb⟩; have n0_ := Aside0.mk (blk_below (g := gb409) (o := .cells #[.string ((rd_T31 l0 x7_1).f0), .slice A408_1 ((rd_T31 l0 x7_1).f1).length c408_1, .slice A408_2 ((rd_T31 l0 x7_1).f2).length c408_2] 31 (0, 0)) (by (with_reducible repeat (first | refine blk_drewN ?_ _ | refine blk_drew ?_ | refine blk_alloc ?_ _)); refine blk_put (cs := #[.string ((rd_T31 l0 x7_1).f0), .slice A408_1 ((rd_T31 l0 x7_1).f1).length c408_1, .slice none 0 0]) ?_ 2 _ rfl; (with_reducible repeat (first | refine blk_drewN ?_ _ | refine blk_drew ?_ | refine blk_alloc ?_ _)); refine blk_put (cs := #[.string ((rd_T31 l0 x7_1).f0), .slice none 0 0, .slice none 0 0]) ?_ 1 _ rfl; (with_reducible repeat (first | refine blk_drewN ?_ _ | refine blk_drew ?_ | refine blk_alloc ?_ _)); refine blk_put (cs := #[.string (⟨#[]⟩ : ByteArray), .slice none 0 0, .slice none 0 0]) ?_ 0 _ rfl; (with_reducible repeat (first | refine blk_drewN ?_ _ | refine blk_drew ?_ | refine blk_alloc ?_ _)); exact BK409.out) hb); have n1_ := Aside0.mk (below_step (by repeat (first | (with_reducible first | exact HB.out | apply below_alloc | apply pw_below_drewN | apply below_drew1 | refine below_set ?_ GE409.out) | exact HB.out)) hb); clear BK409; clear HB; have BK409 := n0_; have HB := n1_; clear n0_ n1_; (try clear hb); (try clear hb2); (try clear hk); (try clear hi)))
      go_ret
      exact ⟨by first | rfl | (simp [errW_none, errW_some] <;> rfl) | (simp [*, errW_none, errW_some] <;> rfl), by repeat (first | (with_reducible first | exact HB.out | apply below_alloc | apply pw_below_drewN | apply below_drew1 | refine below_set ?_ GE409.out) | exact HB.out)⟩
    ·rw [if_neg c5] at H
     have c5b0 : (((rd_T31 l0 x7_1).f0).toList == ([] : List UInt8)) = false := beq_eq_false_iff_ne.mpr c5
     have c5b1 : (((rd_T31 l0 x7_1).f0).toList != ([] : List UInt8)) = true := bne_iff_ne.mpr c5
     obtain rfl := Option.some.inj H
     have p408 : 0 ≤ (x7_1 : Int) := of_decide_eq_true (by first | (with_reducible assumption) | assumption)
     have q408 : x7_1 < (l0.length : Int) := of_decide_eq_true (by first | (with_reducible assumption) | assumption)
     obtain ⟨ad408, A408_1, c408_1, A408_2, c408_2, e408, hx408_0, hx408_1, hx408_2, hl408_1, hi408_1, hl408_2, hi408_2⟩ := at_T31 HR0.out x7_1 p408 q408
     cases e408
     replace hx408_0 := (HB.out.cell (World.block_lt_of_cell? w _ hx408_0)).trans hx408_0
     replace hx408_1 := (HB.out.cell (World.block_lt_of_cell? w _ hx408_1)).trans hx408_1
     replace hx408_2 := (HB.out.cell (World.block_lt_of_cell? w _ hx408_2)).trans hx408_2
     have HR408_1 := Aside0.mk hi408_1
     have HC408_1 := Aside0.mk hl408_1
     clear hi408_1 hl408_1
     have HR408_2 := Aside0.mk hi408_2
     have HC408_2 := Aside0.mk hl408_2
     clear hi408_2 hl408_2
     replace p408 := eq_true p408
     replace q408 := eq_true q408
     go_wp2_with (first | ((with_reducible refine gate_dst (N := 4) rfl ?_); refine box_event ?hg (N := 4) ?hd (cs := #[.string (⟨#[]⟩ : ByteArray), .slice none 0 0, .slice none 0 0]) (t := 31) ?hr ?_; (case hd => rfl); (case hg => rfl); (case hr => first | (go_simp; done) | (go_simp; rfl)); intro gb409 hg w14 hbox hb; have n0_ := Aside0.mk (below_step (by repeat (first | (with_reducible first | exact HB.out | apply below_alloc | apply pw_below_drewN | apply below_drew1) | exact HB.out)) hb); have n1_ := Aside0.mk (hbox); have n2_ := Aside0.mk ((by rw [hg]; exact (below_size (by repeat (first | (with_reducible first | exact HB.out | apply below_alloc | apply pw_below_drewN | apply below_drew1) | exact HB.out))) : w.heap.size ≤ gb409)); have n3_ := Aside0.mk ((by rw [hg]; exact (below_size (by repeat (first | (with_reducible first | exact HB.out | apply below_alloc | apply pw_below_drewN | apply below_drew1) | exact HB.out))) : w.heap.size ≤ gb409)); clear HB; have HB := n0_; have BK409 := n1_; have GW409 := n2_; have GE409 := n3_; clear n0_ n1_ n2_ n3_; clear hb hbox hg; have hcz15_0 : w14.cell? ⟨gb409, 0, none⟩ = some (.string (⟨#[]⟩ : ByteArray)) := (blk_cell BK409.out 0).trans rfl; have hcz15_1 : w14.cell? ⟨gb409, 1, none⟩ = some (.slice none 0 0) := (blk_cell BK409.out 1).trans rfl; have hcz15_2 : w14.cell? ⟨gb409, 2, none⟩ = some (.slice none 0 0) := (blk_cell BK409.out 2).trans rfl; have hfz15_0 := blk_frozen BK409.out 0; have hfz15_1 := blk_frozen BK409.out 1; have hfz15_2 := blk_frozen BK409.out 2))
     go_ret
     exact ⟨by first | rfl | (simp [errW_none, errW_some] <;> rfl) | (simp [*, errW_none, errW_some] <;> rfl), by repeat (first | (with_reducible first | exact HB.out | apply below_alloc | apply pw_below_drewN | apply below_drew1 | refine below_set ?_ GE409.out) | exact HB.out)⟩
   ·rw [if_neg c2] at H
    have c2b0 : decide (x7_1 < (l0.length : Int)) = false := decide_eq_false c2
    clear c2
    obtain rfl := Option.some.inj H
    go_wp2
    go_ret
    exact ⟨by first | rfl | (simp [errW_none, errW_some] <;> rfl) | (simp [*, errW_none, errW_some] <;> rfl), by repeat (first | (with_reducible first | exact HB.out | apply below_alloc | apply pw_below_drewN | apply below_drew1) | exact HB.out)⟩
end Go.Proofs.YtednjmngalmdkaaGreatDoor.GPC
end
section
namespace Go.Proofs.YtednjmngalmdkaaGreatDoor.GPC
open Go.RowKit Go.Proofs.YtednjmngalmdkaaGreatDoorW.PrintWords Go.Proofs.YtednjmngalmdkaaGreatDoorW.PrintLast Go.Proofs.YtednjmngalmdkaaGreatDoorW.PrintMore
attribute [local go_sem] max2_int min2_int max_two min_two max_three min_three max_four min_four   -- for this text's walks alone
set_option linter.unusedVariables false
set_option linter.unusedSimpArgs false

attribute [local go_sem] run_store_float
/-! ### spec_ConntrackPrint: function 27 -/
mutual
def spec_ConntrackPrint.l0 : Nat → ByteArray → List (S31) → Int → Int → Option (ByteArray × Int)
 | 0, _, _, _, _ => none
 | k + 1, x4, x12, x13, x14 => if x14 < x13 then (if 0 ≤ x14 then (if x14 < (x12.length : Int) then (spec_ConntrackPrint.l1 k x4 x12 x13 x14 ((rd_T31 x12 x14).f1) (((rd_T31 x12 x14).f1).length : Int) 0) else (none)) else (none)) else (some (x4, 1))
def spec_ConntrackPrint.l1 : Nat → ByteArray → List (S31) → Int → Int → List Int → Int → Int → Option (ByteArray × Int)
 | 0, _, _, _, _, _, _, _ => none
 | k + 1, x4, x12, x13, x14, x19, x20, x21 => if x21 < x20 then (if 0 ≤ x21 then (if x21 < (x19.length : Int) then (if x21 > 0 then (if x4.size + 1 ≤ 9223372036854775807 then (if x21 = 1 then (if (x4 ++ (⟨#[32]⟩ : ByteArray)).size + 1 ≤ 9223372036854775807 then ((spec_Padded.f k (rd x19 x21) 16 8).bind fun t415 => (if ((x4 ++ (⟨#[32]⟩ : ByteArray)) ++ (⟨#[32]⟩ : ByteArray)).size + t415.size ≤ 9223372036854775807 then (spec_ConntrackPrint.l1 k (((x4 ++ (⟨#[32]⟩ : ByteArray)) ++ (⟨#[32]⟩ : ByteArray)) ++ t415) x12 x13 x14 x19 x20 (wrap64 (x21 + 1))) else (none))) else (none)) else (if x21 = 13 then (if (x4 ++ (⟨#[32]⟩ : ByteArray)).size + 1 ≤ 9223372036854775807 then ((spec_Padded.f k (rd x19 x21) 16 8).bind fun t416 => (if ((x4 ++ (⟨#[32]⟩ : ByteArray)) ++ (⟨#[32]⟩ : ByteArray)).size + t416.size ≤ 9223372036854775807 then (spec_ConntrackPrint.l1 k (((x4 ++ (⟨#[32]⟩ : ByteArray)) ++ (⟨#[32]⟩ : ByteArray)) ++ t416) x12 x13 x14 x19 x20 (wrap64 (x21 + 1))) else (none))) else (none)) else ((spec_Padded.f k (rd x19 x21) 16 8).bind fun t417 => (if (x4 ++ (⟨#[32]⟩ : ByteArray)).size + t417.size ≤ 9223372036854775807 then (spec_ConntrackPrint.l1 k ((x4 ++ (⟨#[32]⟩ : ByteArray)) ++ t417) x12 x13 x14 x19 x20 (wrap64 (x21 + 1))) else (none))))) else (none)) else (if x21 = 1 then (if x4.size + 1 ≤ 9223372036854775807 then ((spec_Padded.f k (rd x19 x21) 16 8).bind fun t418 => (if (x4 ++ (⟨#[32]⟩ : ByteArray)).size + t418.size ≤ 9223372036854775807 then (spec_ConntrackPrint.l1 k ((x4 ++ (⟨#[32]⟩ : ByteArray)) ++ t418) x12 x13 x14 x19 x20 (wrap64 (x21 + 1))) else (none))) else (none)) else (if x21 = 13 then (if x4.size + 1 ≤ 9223372036854775807 then ((spec_Padded.f k (rd x19 x21) 16 8).bind fun t419 => (if (x4 ++ (⟨#[32]⟩ : ByteArray)).size + t419.size ≤ 9223372036854775807 then (spec_ConntrackPrint.l1 k ((x4 ++ (⟨#[32]⟩ : ByteArray)) ++ t419) x12 x13 x14 x19 x20 (wrap64 (x21 + 1))) else (none))) else (none)) else ((spec_Padded.f k (rd x19 x21) 16 8).bind fun t420 => (if x4.size + t420.size ≤ 9223372036854775807 then (spec_ConntrackPrint.l1 k (x4 ++ t420) x12 x13 x14 x19 x20 (wrap64 (x21 + 1))) else (none)))))) else (none)) else (none)) else (if x4.size + 1 ≤ 9223372036854775807 then (spec_ConntrackPrint.l0 k (x4 ++ (⟨#[10]⟩ : ByteArray)) x12 x13 (wrap64 (x14 + 1))) else (none))
end
def spec_ConntrackPrint.f (k : Nat) (l0 : List (S31)) : Option (ByteArray × Int) := (spec_conntrackFine.f k l0).bind fun t411 => (if t411 = true then (spec_ConntrackPrint.l0 k (⟨#[101, 110, 116, 114, 105, 101, 115, 32, 32, 115, 101, 97, 114, 99, 104, 101, 100, 32, 102, 111, 117, 110, 100, 32, 110, 101, 119, 32, 105, 110, 118, 97, 108, 105, 100, 32, 105, 103, 110, 111, 114, 101, 32, 100, 101, 108, 101, 116, 101, 32, 100, 101, 108, 101, 116, 101, 95, 108, 105, 115, 116, 32, 105, 110, 115, 101, 114, 116, 32, 105, 110, 115, 101, 114, 116, 95, 102, 97, 105, 108, 101, 100, 32, 100, 114, 111, 112, 32, 101, 97, 114, 108, 121, 95, 100, 114, 111, 112, 32, 105, 99, 109, 112, 95, 101, 114, 114, 111, 114, 32, 32, 101, 120, 112, 101, 99, 116, 95, 110, 101, 119, 32, 101, 120, 112, 101, 99, 116, 95, 99, 114, 101, 97, 116, 101, 32, 101, 120, 112, 101, 99, 116, 95, 100, 101, 108, 101, 116, 101, 32, 115, 101, 97, 114, 99, 104, 95, 114, 101, 115, 116, 97, 114, 116, 10]⟩ : ByteArray) l0 (l0.length : Int) 0) else (some ((⟨#[]⟩ : ByteArray), 2)))
theorem spec_ConntrackPrint.mono_l : ∀ k, (∀ y0 y1 y2 y3, LeO (spec_ConntrackPrint.l0 k y0 y1 y2 y3) (spec_ConntrackPrint.l0 (k + 1) y0 y1 y2 y3)) ∧ (∀ y0 y1 y2 y3 y4 y5 y6, LeO (spec_ConntrackPrint.l1 k y0 y1 y2 y3 y4 y5 y6) (spec_ConntrackPrint.l1 (k + 1) y0 y1 y2 y3 y4 y5 y6))
 | 0 => ⟨fun _ _ _ _ r h => by simp [spec_ConntrackPrint.l0] at h, fun _ _ _ _ _ _ _ r h => by simp [spec_ConntrackPrint.l1] at h⟩
 | k + 1 => by
  obtain ⟨ih0, ih1⟩ := spec_ConntrackPrint.mono_l k
  refine ⟨?_, ?_⟩
  ·intro y0 y1 y2 y3
   unfold spec_ConntrackPrint.l0
   repeat' first
   | (with_reducible exact ih0 _ _ _ _)
   | (with_reducible exact ih1 _ _ _ _ _ _ _)
   | (with_reducible exact spec_Padded.mono _ _ _ _)
   | (with_reducible exact spec_conntrackFine.mono _ _)
   | (with_reducible exact LeO.refl _)
   | (with_reducible exact LeO.none _)
   | (with_reducible refine LeO.ite ?_ ?_)
   | (with_reducible refine LeO.bind ?_ (fun _ => ?_))
   | exact ih0 _ _ _ _
   | exact ih1 _ _ _ _ _ _ _
   | exact spec_Padded.mono _ _ _ _
   | exact spec_conntrackFine.mono _ _
   | exact LeO.none _
   | refine LeO.ite ?_ ?_
   | refine LeO.bind ?_ (fun _ => ?_)
  ·intro y0 y1 y2 y3 y4 y5 y6
   unfold spec_ConntrackPrint.l1
   repeat' first
   | (with_reducible exact ih0 _ _ _ _)
   | (with_reducible exact ih1 _ _ _ _ _ _ _)
   | (with_reducible exact spec_Padded.mono _ _ _ _)
   | (with_reducible exact spec_conntrackFine.mono _ _)
   | (with_reducible exact LeO.refl _)
   | (with_reducible exact LeO.none _)
   | (with_reducible refine LeO.ite ?_ ?_)
   | (with_reducible refine LeO.bind ?_ (fun _ => ?_))
   | exact ih0 _ _ _ _
   | exact ih1 _ _ _ _ _ _ _
   | exact spec_Padded.mono _ _ _ _
   | exact spec_conntrackFine.mono _ _
   | exact LeO.none _
   | refine LeO.ite ?_ ?_
   | refine LeO.bind ?_ (fun _ => ?_)
theorem spec_ConntrackPrint.mono : ∀ a0 k, LeO (spec_ConntrackPrint.f k a0) (spec_ConntrackPrint.f (k + 1) a0) := by
 intro a0 k
 obtain ⟨ih0, ih1⟩ := spec_ConntrackPrint.mono_l k
 unfold spec_ConntrackPrint.f
 repeat' first
   | (with_reducible exact ih0 _ _ _ _)
   | (with_reducible exact ih1 _ _ _ _ _ _ _)
   | (with_reducible exact spec_Padded.mono _ _ _ _)
   | (with_reducible exact spec_conntrackFine.mono _ _)
   | (with_reducible exact LeO.refl _)
   | (with_reducible exact LeO.none _)
   | (with_reducible refine LeO.ite ?_ ?_)
   | (with_reducible refine LeO.bind ?_ (fun _ => ?_))
   | exact ih0 _ _ _ _
   | exact ih1 _ _ _ _ _ _ _
   | exact spec_Padded.mono _ _ _ _
   | exact spec_conntrackFine.mono _ _
   | exact LeO.none _
   | refine LeO.ite ?_ ?_
   | refine LeO.bind ?_ (fun _ => ?_)
set_option maxHeartbeats 8000000 in
set_option maxRecDepth 100000 in
theorem spec_ConntrackPrint.calls (k : Nat) (A0 : Option Addr) (c0 : Nat) (l0 : List (S31)) (r1 : ByteArray) (r2 : Int) (w : World) (hr0 : Kd.C k31 w A0 l0.length l0) (hc0 : l0.length ≤ c0) (h : spec_ConntrackPrint.f k l0 = some (r1, r2)) :
  Calls Tryz.prog 27 #[.slice A0 l0.length c0] w fun e w' => e = .returned (.tuple #[.string r1, .int .i64 r2]) ∧ Below w.heap.size w w' := by
 have hu31 := Tryz.underlying31
 have HR0 := Aside0.mk hr0
 have HC0 := Aside0.mk hc0
 clear hr0 hc0
 have HB := Aside0.mk (Below.refl w.heap.size w)
 have H : ((spec_conntrackFine.f k l0).bind fun t411 => (if t411 = true then (spec_ConntrackPrint.l0 k (⟨#[101, 110, 116, 114, 105, 101, 115, 32, 32, 115, 101, 97, 114, 99, 104, 101, 100, 32, 102, 111, 117, 110, 100, 32, 110, 101, 119, 32, 105, 110, 118, 97, 108, 105, 100, 32, 105, 103, 110, 111, 114, 101, 32, 100, 101, 108, 101, 116, 101, 32, 100, 101, 108, 101, 116, 101, 95, 108, 105, 115, 116, 32, 105, 110, 115, 101, 114, 116, 32, 105, 110, 115, 101, 114, 116, 95, 102, 97, 105, 108, 101, 100, 32, 100, 114, 111, 112, 32, 101, 97, 114, 108, 121, 95, 100, 114, 111, 112, 32, 105, 99, 109, 112, 95, 101, 114, 114, 111, 114, 32, 32, 101, 120, 112, 101, 99, 116, 95, 110, 101, 119, 32, 101, 120, 112, 101, 99, 116, 95, 99, 114, 101, 97, 116, 101, 32, 101, 120, 112, 101, 99, 116, 95, 100, 101, 108, 101, 116, 101, 32, 115, 101, 97, 114, 99, 104, 95, 114, 101, 115, 116, 97, 114, 116, 10]⟩ : ByteArray) l0 (l0.length : Int) 0) else (some ((⟨#[]⟩ : ByteArray), 2)))) = some (r1, r2) := h
 clear h
 replace H := Option.bind_eq_some_iff.mp H
 obtain ⟨t411, A20, H⟩ := H
 replace H : (if t411 = true then (spec_ConntrackPrint.l0 k (⟨#[101, 110, 116, 114, 105, 101, 115, 32, 32, 115, 101, 97, 114, 99, 104, 101, 100, 32, 102, 111, 117, 110, 100, 32, 110, 101, 119, 32, 105, 110, 118, 97, 108, 105, 100, 32, 105, 103, 110, 111, 114, 101, 32, 100, 101, 108, 101, 116, 101, 32, 100, 101, 108, 101, 116, 101, 95, 108, 105, 115, 116, 32, 105, 110, 115, 101, 114, 116, 32, 105, 110, 115, 101, 114, 116, 95, 102, 97, 105, 108, 101, 100, 32, 100, 114, 111, 112, 32, 101, 97, 114, 108, 121, 95, 100, 114, 111, 112, 32, 105, 99, 109, 112, 95, 101, 114, 114, 111, 114, 32, 32, 101, 120, 112, 101, 99, 116, 95, 110, 101, 119, 32, 101, 120, 112, 101, 99, 116, 95, 99, 114, 101, 97, 116, 101, 32, 101, 120, 112, 101, 99, 116, 95, 100, 101, 108, 101, 116, 101, 32, 115, 101, 97, 114, 99, 104, 95, 114, 101, 115, 116, 97, 114, 116, 10]⟩ : ByteArray) l0 (l0.length : Int) 0) else (some ((⟨#[]⟩ : ByteArray), 2))) = some (r1, r2) := H
 have A2 := Aside0.mk A20
 clear A20
 by_cases c3 : t411 = true
 ·subst c3
  have H1 : (spec_ConntrackPrint.l0 k (⟨#[101, 110, 116, 114, 105, 101, 115, 32, 32, 115, 101, 97, 114, 99, 104, 101, 100, 32, 102, 111, 117, 110, 100, 32, 110, 101, 119, 32, 105, 110, 118, 97, 108, 105, 100, 32, 105, 103, 110, 111, 114, 101, 32, 100, 101, 108, 101, 116, 101, 32, 100, 101, 108, 101, 116, 101, 95, 108, 105, 115, 116, 32, 105, 110, 115, 101, 114, 116, 32, 105, 110, 115, 101, 114, 116, 95, 102, 97, 105, 108, 101, 100, 32, 100, 114, 111, 112, 32, 101, 97, 114, 108, 121, 95, 100, 114, 111, 112, 32, 105, 99, 109, 112, 95, 101, 114, 114, 111, 114, 32, 32, 101, 120, 112, 101, 99, 116, 95, 110, 101, 119, 32, 101, 120, 112, 101, 99, 116, 95, 99, 114, 101, 97, 116, 101, 32, 101, 120, 112, 101, 99, 116, 95, 100, 101, 108, 101, 116, 101, 32, 115, 101, 97, 114, 99, 104, 95, 114, 101, 115, 116, 97, 114, 116, 10]⟩ : ByteArray) l0 (l0.length : Int) 0) = some (r1, r2) := by rw [if_pos rfl] at H; exact H
  clear H
  have H := H1
  clear H1
  have H' := Aside0.mk H
  clear H
  go_enter Tryz.func27, Tryz.ntmps27
  go_wp2_with (first | ((with_reducible refine gate_callee (f := 87) rfl ?_); refine goesL_ (some 10) rfl rfl Tryz.func87 (by kernel_rfl) rfl #[.slice A0 l0.length c0] rfl (by (try simp only [List.map_toArray, List.map_cons, List.map_nil]); first | done | rfl | (simp only [List.length_drop, List.length_take]; rfl)) ?_; (with_reducible refine (spec_conntrackFine.calls k _ _ l0 true _ ?side1 ?side2 A2.out).mono ?_); (case side1 => repeat (first | exact HR0.out | (with_reducible refine Kd.C_alloc ?_ _) | (with_reducible refine Kd.C_drewN ?_ _) | (with_reducible refine Kd.C_drew ?_))); (case side2 => exact HC0.out); rintro e w4 ⟨rfl, hb⟩; refine ⟨_, rfl, ?_⟩; have n0_ := Aside0.mk (below_step (by repeat (first | (with_reducible first | exact HB.out | apply below_alloc | apply pw_below_drewN | apply below_drew1) | exact HB.out)) hb); clear HB; have HB := n0_; clear n0_; (try clear hb); (try clear hb2); (try clear hk); (try clear hi)))
  go_loopg [4, 14] k (fun kq v4 v14 w' => ∃ (x4_1 : ByteArray) (x14_1 : Int), v4 = .string x4_1 ∧ v14 = .int .i64 x14_1 ∧ Aside0 (spec_ConntrackPrint.l0 kq x4_1 l0 (l0.length : Int) x14_1 = some (r1, r2)) ∧ Aside0 (kq ≤ k) ∧ Aside0 (Below w.heap.size w w'))
  case atStart => exact ⟨((⟨#[101, 110, 116, 114, 105, 101, 115, 32, 32, 115, 101, 97, 114, 99, 104, 101, 100, 32, 102, 111, 117, 110, 100, 32, 110, 101, 119, 32, 105, 110, 118, 97, 108, 105, 100, 32, 105, 103, 110, 111, 114, 101, 32, 100, 101, 108, 101, 116, 101, 32, 100, 101, 108, 101, 116, 101, 95, 108, 105, 115, 116, 32, 105, 110, 115, 101, 114, 116, 32, 105, 110, 115, 101, 114, 116, 95, 102, 97, 105, 108, 101, 100, 32, 100, 114, 111, 112, 32, 101, 97, 114, 108, 121, 95, 100, 114, 111, 112, 32, 105, 99, 109, 112, 95, 101, 114, 114, 111, 114, 32, 32, 101, 120, 112, 101, 99, 116, 95, 110, 101, 119, 32, 101, 120, 112, 101, 99, 116, 95, 99, 114, 101, 97, 116, 101, 32, 101, 120, 112, 101, 99, 116, 95, 100, 101, 108, 101, 116, 101, 32, 115, 101, 97, 114, 99, 104, 95, 114, 101, 115, 116, 97, 114, 116, 10]⟩ : ByteArray)), (0), (by first | rfl | (simp; done) | (simp [*]; done)), (by first | rfl | (simp; done) | (simp [*]; done)), H', ⟨Nat.le_refl _⟩, ⟨by repeat (first | (with_reducible first | exact HB.out | apply below_alloc | apply pw_below_drewN | apply below_drew1) | exact HB.out)⟩⟩
  case round =>
   clear H'
   try clear c2
   try clear p2
   try clear c3
   obtain ⟨x4_1, x14_1, rfl, rfl, HA, HK1, HB⟩ := hrel
   cases gk with
   | zero => exact absurd HA.out (by simp [spec_ConntrackPrint.l0])
   | succ k1 =>
    have H := HA.out
    clear HA
    simp only [spec_ConntrackPrint.l0] at H
    by_cases c5 : x14_1 < (l0.length : Int)
    ·rw [if_pos c5] at H
     have c5b0 : decide (x14_1 < (l0.length : Int)) = true := decide_eq_true c5
     clear c5
     replace H := guard_inv H
     obtain ⟨c6, H⟩ := H
     have c6b0 : decide (0 ≤ x14_1) = true := decide_eq_true c6
     clear c6
     replace H := guard_inv H
     obtain ⟨c7, H⟩ := H
     have c7b0 : decide (x14_1 < (l0.length : Int)) = true := decide_eq_true c7
     clear c7
     have H' := Aside0.mk H
     clear H
     have p412 : 0 ≤ (x14_1 : Int) := of_decide_eq_true (by first | (with_reducible assumption) | assumption)
     have q412 : x14_1 < (l0.length : Int) := of_decide_eq_true (by first | (with_reducible assumption) | assumption)
     obtain ⟨ad412, A412_1, c412_1, A412_2, c412_2, e412, hx412_0, hx412_1, hx412_2, hl412_1, hi412_1, hl412_2, hi412_2⟩ := at_T31 HR0.out x14_1 p412 q412
     cases e412
     replace hx412_0 := (HB.out.cell (World.block_lt_of_cell? w _ hx412_0)).trans hx412_0
     replace hx412_1 := (HB.out.cell (World.block_lt_of_cell? w _ hx412_1)).trans hx412_1
     replace hx412_2 := (HB.out.cell (World.block_lt_of_cell? w _ hx412_2)).trans hx412_2
     have HR412_1 := Aside0.mk hi412_1
     have HC412_1 := Aside0.mk hl412_1
     clear hi412_1 hl412_1
     have HR412_2 := Aside0.mk hi412_2
     have HC412_2 := Aside0.mk hl412_2
     clear hi412_2 hl412_2
     replace p412 := eq_true p412
     replace q412 := eq_true q412
     go_wp2_with (first | ((with_reducible refine gate_dst (N := 6) rfl ?_); refine box_event ?hg (N := 6) ?hd (cs := #[.string (⟨#[]⟩ : ByteArray), .slice none 0 0, .slice none 0 0]) (t := 31) ?hr ?_; (case hd => rfl); (case hg => rfl); (case hr => first | (go_simp; done) | (go_simp; rfl)); intro gb413 hg w8 hbox hb; have n0_ := Aside0.mk (below_step (by repeat (first | (with_reducible first | exact HB.out | apply below_alloc | apply pw_below_drewN | apply below_drew1) | exact HB.out)) hb); have n1_ := Aside0.mk (hbox); have n2_ := Aside0.mk ((by rw [hg]; exact (below_size (by repeat (first | (with_reducible first | exact HB.out | apply below_alloc | apply pw_below_drewN | apply below_drew1) | exact HB.out))) : w.heap.size ≤ gb413)); have n3_ := Aside0.mk ((by rw [hg]; exact (below_size (by repeat (first | (with_reducible first | exact HB.out | apply below_alloc | apply pw_below_drewN | apply below_drew1) | exact HB.out))) : w.heap.size ≤ gb413)); clear HB; have HB := n0_; have BK413 := n1_; have GW413 := n2_; have GE413 := n3_; clear n0_ n1_ n2_ n3_; clear hb hbox hg; have hcz9_0 : w8.cell? ⟨gb413, 0, none⟩ = some (.string (⟨#[]⟩ : ByteArray)) := (blk_cell BK413.out 0).trans rfl; have hcz9_1 : w8.cell? ⟨gb413, 1, none⟩ = some (.slice none 0 0) := (blk_cell BK413.out 1).trans rfl; have hcz9_2 : w8.cell? ⟨gb413, 2, none⟩ = some (.slice none 0 0) := (blk_cell BK413.out 2).trans rfl; have hfz9_0 := blk_frozen BK413.out 0; have hfz9_1 := blk_frozen BK413.out 1; have hfz9_2 := blk_frozen BK413.out 2))
     go_loopg [4, 21] k1 (fun kq v4 v21 w' => ∃ (x4_2 : ByteArray) (x21_2 : Int), v4 = .string x4_2 ∧ v21 = .int .i64 x21_2 ∧ Aside0 (spec_ConntrackPrint.l1 kq x4_2 l0 (l0.length : Int) x14_1 ((rd_T31 l0 x14_1).f1) (((rd_T31 l0 x14_1).f1).length : Int) x21_2 = some (r1, r2)) ∧ Aside0 (kq ≤ k1) ∧ Aside0 (w'.heap[gb413]? = some (.cells #[.string ((rd_T31 l0 x14_1).f0), (.slice A412_1 ((rd_T31 l0 x14_1).f1).length c412_1), (.slice A412_2 ((rd_T31 l0 x14_1).f2).length c412_2)] 31 (0, 0))) ∧ Aside0 (Below w.heap.size w w'))
     case atStart => exact ⟨(x4_1), (0), (by first | rfl | (simp; done) | (simp [*]; done)), (by first | rfl | (simp; done) | (simp [*]; done)), H', ⟨Nat.le_refl _⟩, ⟨by (with_reducible repeat (first | refine blk_drewN ?_ _ | refine blk_drew ?_ | refine blk_alloc ?_ _)); refine blk_put (cs := #[.string ((rd_T31 l0 x14_1).f0), .slice A412_1 ((rd_T31 l0 x14_1).f1).length c412_1, .slice none 0 0]) ?_ 2 _ rfl; (with_reducible repeat (first | refine blk_drewN ?_ _ | refine blk_drew ?_ | refine blk_alloc ?_ _)); refine blk_put (cs := #[.string ((rd_T31 l0 x14_1).f0), .slice none 0 0, .slice none 0 0]) ?_ 1 _ rfl; (with_reducible repeat (first | refine blk_drewN ?_ _ | refine blk_drew ?_ | refine blk_alloc ?_ _)); refine blk_put (cs := #[.string (⟨#[]⟩ : ByteArray), .slice none 0 0, .slice none 0 0]) ?_ 0 _ rfl; (with_reducible repeat (first | refine blk_drewN ?_ _ | refine blk_drew ?_ | refine blk_alloc ?_ _)); exact BK413.out⟩, ⟨by repeat (first | (with_reducible first | exact HB.out | apply below_alloc | apply pw_below_drewN | apply below_drew1 | refine below_set ?_ GE413.out) | exact HB.out)⟩⟩
     case round =>
      clear H'
      try clear c2
      try clear p2
      try clear c3
      try clear c4
      try clear p4
      try clear q4
      try clear hx4
      try clear c5
      try clear c5b0
      try clear c6
      try clear c6b0
      try clear c7
      try clear c7b0
      try clear c8
      try clear hcz9_0
      try clear hcz9_1
      try clear hcz9_2
      try clear hfz9_0
      try clear hfz9_1
      try clear hfz9_2
      try clear hx412_0
      try clear hx412_1
      try clear hx412_2
      try clear p2
      try clear p412
      try clear q412
      obtain ⟨x4_2, x21_2, rfl, rfl, HA, HK2, BK413, HB⟩ := hrel
      cases gk with
      | zero => exact absurd HA.out (by simp [spec_ConntrackPrint.l1])
      | succ k2 =>
       have H := HA.out
       clear HA
       simp only [spec_ConntrackPrint.l1] at H
       by_cases c10 : x21_2 < (((rd_T31 l0 x14_1).f1).length : Int)
       ·rw [if_pos c10] at H
        have c10b0 : decide (x21_2 < (((rd_T31 l0 x14_1).f1).length : Int)) = true := decide_eq_true c10
        clear c10
        replace H := guard_inv H
        obtain ⟨c11, H⟩ := H
        have c11b0 : decide (0 ≤ x21_2) = true := decide_eq_true c11
        clear c11
        replace H := guard_inv H
        obtain ⟨c12, H⟩ := H
        have c12b0 : decide (x21_2 < (((rd_T31 l0 x14_1).f1).length : Int)) = true := decide_eq_true c12
        clear c12
        by_cases c13 : x21_2 > 0
        ·rw [if_pos c13] at H
         have c13b0 : decide (0 < x21_2) = true := decide_eq_true c13
         clear c13
         replace H := guard_inv H
         obtain ⟨c14, H⟩ := H
         have c14b0 := eq_true c14
         have c14b1 := decide_eq_true c14
         try have c14b2 := eq_false (Nat.not_lt.2 c14)
         by_cases c15 : x21_2 = 1
         ·rw [if_pos c15] at H
          have c15b0 : (x21_2 == 1) = true := beq_iff_eq.mpr c15
          have c15b1 : (x21_2 != 1) = false := bne_eq_false_iff_eq.mpr c15
          clear c15
          replace H := guard_inv H
          obtain ⟨c16, H⟩ := H
          have c16b0 := eq_true c16
          have c16b1 := decide_eq_true c16
          try have c16b2 := eq_false (Nat.not_lt.2 c16)
          try have c16b5 : (9223372036854775807 < x4_2.size + 1 + 1) = False := by have e_ := c16b2; (repeat rw [ByteArray.size_append] at e_); exact e_
          replace H := Option.bind_eq_some_iff.mp H
          obtain ⟨t415, A170, H⟩ := H
          try dsimp -simprocs only at H
          have A17 := Aside0.mk A170
          clear A170
          replace H := guard_inv H
          obtain ⟨c18, H⟩ := H
          have c18b0 := eq_true c18
          have c18b1 := decide_eq_true c18
          try have c18b2 := eq_false (Nat.not_lt.2 c18)
          try have c18b5 : (9223372036854775807 < x4_2.size + 1 + 1 + t415.size) = False := by have e_ := c18b2; (repeat rw [ByteArray.size_append] at e_); exact e_
          have H' := Aside0.mk H
          clear H
          have p414 : 0 ≤ (x21_2 : Int) := of_decide_eq_true (by first | (with_reducible assumption) | assumption)
          have q414 : x21_2 < (((rd_T31 l0 x14_1).f1).length : Int) := of_decide_eq_true (by first | (with_reducible assumption) | assumption)
          obtain ⟨ad414, e414, hx414_0⟩ := Kd.at_int HR412_1.out x21_2 p414 q414
          cases e414
          replace hx414_0 := (HB.out.cell (World.block_lt_of_cell? w _ hx414_0)).trans hx414_0
          replace p414 := eq_true p414
          replace q414 := eq_true q414
          go_wp2_with (first | ((with_reducible refine gate_callee (f := 88) rfl ?_); refine goesL_ (some 40) rfl rfl Tryz.func88 (by kernel_rfl) rfl #[.int .u64 (rd ((rd_T31 l0 x14_1).f1) x21_2), .int .u64 16, .int .i64 8] rfl (by (try simp only [List.map_toArray, List.map_cons, List.map_nil]); first | done | rfl | (simp only [List.length_drop, List.length_take]; rfl)) ?_; (with_reducible refine (spec_Padded.calls k2 (rd ((rd_T31 l0 x14_1).f1) x21_2) 16 8 t415 _ A17.out).mono ?_); rintro e w19 ⟨rfl, hb⟩; refine ⟨_, rfl, ?_⟩; have n0_ := Aside0.mk (blk_below (g := gb413) (o := .cells #[.string ((rd_T31 l0 x14_1).f0), .slice (some ad414) ((rd_T31 l0 x14_1).f1).length c412_1, .slice A412_2 ((rd_T31 l0 x14_1).f2).length c412_2] 31 (0, 0)) (by (with_reducible repeat (first | refine blk_drewN ?_ _ | refine blk_drew ?_ | refine blk_alloc ?_ _)); exact BK413.out) hb); have n1_ := Aside0.mk (below_step (by repeat (first | (with_reducible first | exact HB.out | apply below_alloc | apply pw_below_drewN | apply below_drew1 | refine below_set ?_ GE413.out) | exact HB.out)) hb); clear BK413; clear HB; have BK413 := n0_; have HB := n1_; clear n0_ n1_; (try clear hb); (try clear hb2); (try clear hk); (try clear hi)))
          go_roundg k2
          case measure => have := HK1.out; have := HK2.out; omega
          case rel => exact ⟨(((x4_2 ++ (⟨#[32]⟩ : ByteArray)) ++ (⟨#[32]⟩ : ByteArray)) ++ t415), (wrap64 (x21_2 + 1)), (by first | rfl | (simp; done) | (simp [*]; done)), (by first | rfl | (simp; done) | (simp [*]; done)), H', ⟨by have := HK1.out; have := HK2.out; omega⟩, ⟨by (with_reducible repeat (first | refine blk_drewN ?_ _ | refine blk_drew ?_ | refine blk_alloc ?_ _)); exact BK413.out⟩, ⟨by repeat (first | (with_reducible first | exact HB.out | apply below_alloc | apply pw_below_drewN | apply below_drew1 | refine below_set ?_ GE413.out) | exact HB.out)⟩⟩
         ·rw [if_neg c15] at H
          have c15b0 : (x21_2 == 1) = false := beq_eq_false_iff_ne.mpr c15
          have c15b1 : (x21_2 != 1) = true := bne_iff_ne.mpr c15
          by_cases c20 : x21_2 = 13
          ·rw [if_pos c20] at H
           have c20b0 : (x21_2 == 13) = true := beq_iff_eq.mpr c20
           have c20b1 : (x21_2 != 13) = false := bne_eq_false_iff_eq.mpr c20
           clear c20
           replace H := guard_inv H
           obtain ⟨c21, H⟩ := H
           have c21b0 := eq_true c21
           have c21b1 := decide_eq_true c21
           try have c21b2 := eq_false (Nat.not_lt.2 c21)
           try have c21b5 : (9223372036854775807 < x4_2.size + 1 + 1) = False := by have e_ := c21b2; (repeat rw [ByteArray.size_append] at e_); exact e_
           replace H := Option.bind_eq_some_iff.mp H
           obtain ⟨t416, A220, H⟩ := H
           try dsimp -simprocs only at H
           have A22 := Aside0.mk A220
           clear A220
           replace H := guard_inv H
           obtain ⟨c23, H⟩ := H
           have c23b0 := eq_true c23
           have c23b1 := decide_eq_true c23
           try have c23b2 := eq_false (Nat.not_lt.2 c23)
           try have c23b5 : (9223372036854775807 < x4_2.size + 1 + 1 + t416.size) = False := by have e_ := c23b2; (repeat rw [ByteArray.size_append] at e_); exact e_
           have H' := Aside0.mk H
           clear H
           have p414 : 0 ≤ (x21_2 : Int) := of_decide_eq_true (by first | (with_reducible assumption) | assumption)
           have q414 : x21_2 < (((rd_T31 l0 x14_1).f1).length : Int) := of_decide_eq_true (by first | (with_reducible assumption) | assumption)
           obtain ⟨ad414, e414, hx414_0⟩ := Kd.at_int HR412_1.out x21_2 p414 q414
           cases e414
           replace hx414_0 := (HB.out.cell (World.block_lt_of_cell? w _ hx414_0)).trans hx414_0
           replace p414 := eq_true p414
           replace q414 := eq_true q414
           go_wp2_with (first | ((with_reducible refine gate_callee (f := 88) rfl ?_); refine goesL_ (some 40) rfl rfl Tryz.func88 (by kernel_rfl) rfl #[.int .u64 (rd ((rd_T31 l0 x14_1).f1) x21_2), .int .u64 16, .int .i64 8] rfl (by (try simp only [List.map_toArray, List.map_cons, List.map_nil]); first | done | rfl | (simp only [List.length_drop, List.length_take]; rfl)) ?_; (with_reducible refine (spec_Padded.calls k2 (rd ((rd_T31 l0 x14_1).f1) x21_2) 16 8 t416 _ A22.out).mono ?_); rintro e w24 ⟨rfl, hb⟩; refine ⟨_, rfl, ?_⟩; have n0_ := Aside0.mk (blk_below (g := gb413) (o := .cells #[.string ((rd_T31 l0 x14_1).f0), .slice (some ad414) ((rd_T31 l0 x14_1).f1).length c412_1, .slice A412_2 ((rd_T31 l0 x14_1).f2).length c412_2] 31 (0, 0)) (by (with_reducible repeat (first | refine blk_drewN ?_ _ | refine blk_drew ?_ | refine blk_alloc ?_ _)); exact BK413.out) hb); have n1_ := Aside0.mk (below_step (by repeat (first | (with_reducible first | exact HB.out | apply below_alloc | apply pw_below_drewN | apply below_drew1 | refine below_set ?_ GE413.out) | exact HB.out)) hb); clear BK413; clear HB; have BK413 := n0_; have HB := n1_; clear n0_ n1_; (try clear hb); (try clear hb2); (try clear hk); (try clear hi)))
           go_roundg k2
           case measure => have := HK1.out; have := HK2.out; omega
           case rel => exact ⟨(((x4_2 ++ (⟨#[32]⟩ : ByteArray)) ++ (⟨#[32]⟩ : ByteArray)) ++ t416), (wrap64 (x21_2 + 1)), (by first | rfl | (simp; done) | (simp [*]; done)), (by first | rfl | (simp; done) | (simp [*]; done)), H', ⟨by have := HK1.out; have := HK2.out; omega⟩, ⟨by (with_reducible repeat (first | refine blk_drewN ?_ _ | refine blk_drew ?_ | refine blk_alloc ?_ _)); exact BK413.out⟩, ⟨by repeat (first | (with_reducible first | exact HB.out | apply below_alloc | apply pw_below_drewN | apply below_drew1 | refine below_set ?_ GE413.out) | exact HB.out)⟩⟩
          ·rw [if_neg c20] at H
           have c20b0 : (x21_2 == 13) = false := beq_eq_false_iff_ne.mpr c20
           have c20b1 : (x21_2 != 13) = true := bne_iff_ne.mpr c20
           replace H := Option.bind_eq_some_iff.mp H
           obtain ⟨t417, A250, H⟩ := H
           try dsimp -simprocs only at H
           have A25 := Aside0.mk A250
           clear A250
           replace H := guard_inv H
           obtain ⟨c26, H⟩ := H
           have c26b0 := eq_true c26
           have c26b1 := decide_eq_true c26
           try have c26b2 := eq_false (Nat.not_lt.2 c26)
           try have c26b5 : (9223372036854775807 < x4_2.size + 1 + t417.size) = False := by have e_ := c26b2; (repeat rw [ByteArray.size_append] at e_); exact e_
           have H' := Aside0.mk H
           clear H
           have p414 : 0 ≤ (x21_2 : Int) := of_decide_eq_true (by first | (with_reducible assumption) | assumption)
           have q414 : x21_2 < (((rd_T31 l0 x14_1).f1).length : Int) := of_decide_eq_true (by first | (with_reducible assumption) | assumption)
           obtain ⟨ad414, e414, hx414_0⟩ := Kd.at_int HR412_1.out x21_2 p414 q414
           cases e414
           replace hx414_0 := (HB.out.cell (World.block_lt_of_cell? w _ hx414_0)).trans hx414_0
           replace p414 := eq_true p414
           replace q414 := eq_true q414
           go_wp2_with (first | ((with_reducible refine gate_callee (f := 88) rfl ?_); refine goesL_ (some 40) rfl rfl Tryz.func88 (by kernel_rfl) rfl #[.int .u64 (rd ((rd_T31 l0 x14_1).f1) x21_2), .int .u64 16, .int .i64 8] rfl (by (try simp only [List.map_toArray, List.map_cons, List.map_nil]); first | done | rfl | (simp only [List.length_drop, List.length_take]; rfl)) ?_; (with_reducible refine (spec_Padded.calls k2 (rd ((rd_T31 l0 x14_1).f1) x21_2) 16 8 t417 _ A25.out).mono ?_); rintro e w27 ⟨rfl, hb⟩; refine ⟨_, rfl, ?_⟩; have n0_ := Aside0.mk (blk_below (g := gb413) (o := .cells #[.string ((rd_T31 l0 x14_1).f0), .slice (some ad414) ((rd_T31 l0 x14_1).f1).length c412_1, .slice A412_2 ((rd_T31 l0 x14_1).f2).length c412_2] 31 (0, 0)) (by (with_reducible repeat (first | refine blk_drewN ?_ _ | refine blk_drew ?_ | refine blk_alloc ?_ _)); exact BK413.out) hb); have n1_ := Aside0.mk (below_step (by repeat (first | (with_reducible first | exact HB.out | apply below_alloc | apply pw_below_drewN | apply below_drew1 | refine below_set ?_ GE413.out) | exact HB.out)) hb); clear BK413; clear HB; have BK413 := n0_; have HB := n1_; clear n0_ n1_; (try clear hb); (try clear hb2); (try clear hk); (try clear hi)))
           go_roundg k2
           case measure => have := HK1.out; have := HK2.out; omega
           case rel => exact ⟨((x4_2 ++ (⟨#[32]⟩ : ByteArray)) ++ t417), (wrap64 (x21_2 + 1)), (by first | rfl | (simp; done) | (simp [*]; done)), (by first | rfl | (simp; done) | (simp [*]; done)), H', ⟨by have := HK1.out; have := HK2.out; omega⟩, ⟨by (with_reducible repeat (first | refine blk_drewN ?_ _ | refine blk_drew ?_ | refine blk_alloc ?_ _)); exact BK413.out⟩, ⟨by repeat (first | (with_reducible first | exact HB.out | apply below_alloc | apply pw_below_drewN | apply below_drew1 | refine below_set ?_ GE413.out) | exact HB.out)⟩⟩
        ·rw [if_neg c13] at H
         have c13b0 : decide (0 < x21_2) = false := decide_eq_false c13
         clear c13
         by_cases c28 : x21_2 = 1
         ·rw [if_pos c28] at H
          have c28b0 : (x21_2 == 1) = true := beq_iff_eq.mpr c28
          have c28b1 : (x21_2 != 1) = false := bne_eq_false_iff_eq.mpr c28
          clear c28
          replace H := guard_inv H
          obtain ⟨c29, H⟩ := H
          have c29b0 := eq_true c29
          have c29b1 := decide_eq_true c29
          try have c29b2 := eq_false (Nat.not_lt.2 c29)
          replace H := Option.bind_eq_some_iff.mp H
          obtain ⟨t418, A300, H⟩ := H
          try dsimp -simprocs only at H
          have A30 := Aside0.mk A300
          clear A300
          replace H := guard_inv H
          obtain ⟨c31, H⟩ := H
          have c31b0 := eq_true c31
          have c31b1 := decide_eq_true c31
          try have c31b2 := eq_false (Nat.not_lt.2 c31)
          try have c31b5 : (9223372036854775807 < x4_2.size + 1 + t418.size) = False := by have e_ := c31b2; (repeat rw [ByteArray.size_append] at e_); exact e_
          have H' := Aside0.mk H
          clear H
          have p414 : 0 ≤ (x21_2 : Int) := of_decide_eq_true (by first | (with_reducible assumption) | assumption)
          have q414 : x21_2 < (((rd_T31 l0 x14_1).f1).length : Int) := of_decide_eq_true (by first | (with_reducible assumption) | assumption)
          obtain ⟨ad414, e414, hx414_0⟩ := Kd.at_int HR412_1.out x21_2 p414 q414
          cases e414
          replace hx414_0 := (HB.out.cell (World.block_lt_of_cell? w _ hx414_0)).trans hx414_0
          replace p414 := eq_true p414
          replace q414 := eq_true q414
          go_wp2_with (first | ((with_reducible refine gate_callee (f := 88) rfl ?_); refine goesL_ (some 40) rfl rfl Tryz.func88 (by kernel_rfl) rfl #[.int .u64 (rd ((rd_T31 l0 x14_1).f1) x21_2), .int .u64 16, .int .i64 8] rfl (by (try simp only [List.map_toArray, List.map_cons, List.map_nil]); first | done | rfl | (simp only [List.length_drop, List.length_take]; rfl)) ?_; (with_reducible refine (spec_Padded.calls k2 (rd ((rd_T31 l0 x14_1).f1) x21_2) 16 8 t418 _ A30.out).mono ?_); rintro e w32 ⟨rfl, hb⟩; refine ⟨_, rfl, ?_⟩; have n0_ := Aside0.mk (blk_below (g := gb413) (o := .cells #[.string ((rd_T31 l0 x14_1).f0), .slice (some ad414) ((rd_T31 l0 x14_1).f1).length c412_1, .slice A412_2 ((rd_T31 l0 x14_1).f2).length c412_2] 31 (0, 0)) (by (with_reducible repeat (first | refine blk_drewN ?_ _ | refine blk_drew ?_ | refine blk_alloc ?_ _)); exact BK413.out) hb); have n1_ := Aside0.mk (below_step (by repeat (first | (with_reducible first | exact HB.out | apply below_alloc | apply pw_below_drewN | apply below_drew1 | refine below_set ?_ GE413.out) | exact HB.out)) hb); clear BK413; clear HB; have BK413 := n0_; have HB := n1_; clear n0_ n1_; (try clear hb); (try clear hb2); (try clear hk); (try clear hi)))
          go_roundg k2
          case measure => have := HK1.out; have := HK2.out; omega
          case rel => exact ⟨((x4_2 ++ (⟨#[32]⟩ : ByteArray)) ++ t418), (wrap64 (x21_2 + 1)), (by first | rfl | (simp; done) | (simp [*]; done)), (by first | rfl | (simp; done) | (simp [*]; done)), H', ⟨by have := HK1.out; have := HK2.out; omega⟩, ⟨by (with_reducible repeat (first | refine blk_drewN ?_ _ | refine blk_drew ?_ | refine blk_alloc ?_ _)); exact BK413.out⟩, ⟨by repeat (first | (with_reducible first | exact HB.out | apply below_alloc | apply pw_below_drewN | apply below_drew1 | refine below_set ?_ GE413.out) | exact HB.out)⟩⟩
         ·rw [if_neg c28] at H
          have c28b0 : (x21_2 == 1) = false := beq_eq_false_iff_ne.mpr c28
          have c28b1 : (x21_2 != 1) = true := bne_iff_ne.mpr c28
          by_cases c33 : x21_2 = 13
          ·rw [if_pos c33] at H
           have c33b0 : (x21_2 == 13) = true := beq_iff_eq.mpr c33
           have c33b1 : (x21_2 != 13) = false := bne_eq_false_iff_eq.mpr c33
           clear c33
           replace H := guard_inv H
           obtain ⟨c34, H⟩ := H
           have c34b0 := eq_true c34
           have c34b1 := decide_eq_true c34
           try have c34b2 := eq_false (Nat.not_lt.2 c34)
           replace H := Option.bind_eq_some_iff.mp H
           obtain ⟨t419, A350, H⟩ := H
           try dsimp -simprocs only at H
           have A35 := Aside0.mk A350
           clear A350
           replace H := guard_inv H
           obtain ⟨c36, H⟩ := H
           have c36b0 := eq_true c36
           have c36b1 := decide_eq_true c36
           try have c36b2 := eq_false (Nat.not_lt.2 c36)
           try have c36b5 : (9223372036854775807 < x4_2.size + 1 + t419.size) = False := by have e_ := c36b2; (repeat rw [ByteArray.size_append] at e_); exact e_
           have H' := Aside0.mk H
           clear H
           have p414 : 0 ≤ (x21_2 : Int) := of_decide_eq_true (by first | (with_reducible assumption) | assumption)
           have q414 : x21_2 < (((rd_T31 l0 x14_1).f1).length : Int) := of_decide_eq_true (by first | (with_reducible assumption) | assumption)
           obtain ⟨ad414, e414, hx414_0⟩ := Kd.at_int HR412_1.out x21_2 p414 q414
           cases e414
           replace hx414_0 := (HB.out.cell (World.block_lt_of_cell? w _ hx414_0)).trans hx414_0
           replace p414 := eq_true p414
           replace q414 := eq_true q414
           go_wp2_with (first | ((with_reducible refine gate_callee (f := 88) rfl ?_); refine goesL_ (some 40) rfl rfl Tryz.func88 (by kernel_rfl) rfl #[.int .u64 (rd ((rd_T31 l0 x14_1).f1) x21_2), .int .u64 16, .int .i64 8] rfl (by (try simp only [List.map_toArray, List.map_cons, List.map_nil]); first | done | rfl | (simp only [List.length_drop, List.length_take]; rfl)) ?_; (with_reducible refine (spec_Padded.calls k2 (rd ((rd_T31 l0 x14_1).f1) x21_2) 16 8 t419 _ A35.out).mono ?_); rintro e w37 ⟨rfl, hb⟩; refine ⟨_, rfl, ?_⟩; have n0_ := Aside0.mk (blk_below (g := gb413) (o := .cells #[.string ((rd_T31 l0 x14_1).f0), .slice (some ad414) ((rd_T31 l0 x14_1).f1).length c412_1, .slice A412_2 ((rd_T31 l0 x14_1).f2).length c412_2] 31 (0, 0)) (by (with_reducible repeat (first | refine blk_drewN ?_ _ | refine blk_drew ?_ | refine blk_alloc ?_ _)); exact BK413.out) hb); have n1_ := Aside0.mk (below_step (by repeat (first | (with_reducible first | exact HB.out | apply below_alloc | apply pw_below_drewN | apply below_drew1 | refine below_set ?_ GE413.out) | exact HB.out)) hb); clear BK413; clear HB; have BK413 := n0_; have HB := n1_; clear n0_ n1_; (try clear hb); (try clear hb2); (try clear hk); (try clear hi)))
           go_roundg k2
           case measure => have := HK1.out; have := HK2.out; omega
           case rel => exact ⟨((x4_2 ++ (⟨#[32]⟩ : ByteArray)) ++ t419), (wrap64 (x21_2 + 1)), (by first | rfl | (simp; done) | (simp [*]; done)), (by first | rfl | (simp; done) | (simp [*]; done)), H', ⟨by have := HK1.out; have := HK2.out; omega⟩, ⟨by (with_reducible repeat (first | refine blk_drewN ?_ _ | refine blk_drew ?_ | refine blk_alloc ?_ _)); exact BK413.out⟩, ⟨by repeat (first | (with_reducible first | exact HB.out | apply below_alloc | apply pw_below_drewN | apply below_drew1 | refine below_set ?_ GE413.out) | exact HB.out)⟩⟩
          ·rw [if_neg c33] at H
           have c33b0 : (x21_2 == 13) = false := beq_eq_false_iff_ne.mpr c33
           have c33b1 : (x21_2 != 13) = true := bne_iff_ne.mpr c33
           replace H := Option.bind_eq_some_iff.mp H
           obtain ⟨t420, A380, H⟩ := H
           try dsimp -simprocs only at H
           have A38 := Aside0.mk A380
           clear A380
           replace H := guard_inv H
           obtain ⟨c39, H⟩ := H
           have c39b0 := eq_true c39
           have c39b1 := decide_eq_true c39
           try have c39b2 := eq_false (Nat.not_lt.2 c39)
           have H' := Aside0.mk H
           clear H
           have p414 : 0 ≤ (x21_2 : Int) := of_decide_eq_true (by first | (with_reducible assumption) | assumption)
           have q414 : x21_2 < (((rd_T31 l0 x14_1).f1).length : Int) := of_decide_eq_true (by first | (with_reducible assumption) | assumption)
           obtain ⟨ad414, e414, hx414_0⟩ := Kd.at_int HR412_1.out x21_2 p414 q414
           cases e414
           replace hx414_0 := (HB.out.cell (World.block_lt_of_cell? w _ hx414_0)).trans hx414_0
           replace p414 := eq_true p414
           replace q414 := eq_true q414
           go_wp2_with (first | ((with_reducible refine gate_callee (f := 88) rfl ?_); refine goesL_ (some 40) rfl rfl Tryz.func88 (by kernel_rfl) rfl #[.int .u64 (rd ((rd_T31 l0 x14_1).f1) x21_2), .int .u64 16, .int .i64 8] rfl (by (try simp only [List.map_toArray, List.map_cons, List.map_nil]); first | done | rfl | (simp only [List.length_drop, List.length_take]; rfl)) ?_; (with_reducible refine (spec_Padded.calls k2 (rd ((rd_T31 l0 x14_1).f1) x21_2) 16 8 t420 _ A38.out).mono ?_); rintro e w40 ⟨rfl, hb⟩; refine ⟨_, rfl, ?_⟩; have n0_ := Aside0.mk (blk_below (g := gb413) (o := .cells #[.string ((rd_T31 l0 x14_1).f0), .slice (some ad414) ((rd_T31 l0 x14_1).f1).length c412_1, .slice A412_2 ((rd_T31 l0 x14_1).f2).length c412_2] 31 (0, 0)) (by (with_reducible repeat (first | refine blk_drewN ?_ _ | refine blk_drew ?_ | refine blk_alloc ?_ _)); exact BK413.out) hb); have n1_ := Aside0.mk (below_step (by repeat (first | (with_reducible first | exact HB.out | apply below_alloc | apply pw_below_drewN | apply below_drew1 | refine below_set ?_ GE413.out) | exact HB.out)) hb); clear BK413; clear HB; have BK413 := n0_; have HB := n1_; clear n0_ n1_; (try clear hb); (try clear hb2); (try clear hk); (try clear hi)))
           go_roundg k2
           case measure => have := HK1.out; have := HK2.out; omega
           case rel => exact ⟨(x4_2 ++ t420), (wrap64 (x21_2 + 1)), (by first | rfl | (simp; done) | (simp [*]; done)), (by first | rfl | (simp; done) | (simp [*]; done)), H', ⟨by have := HK1.out; have := HK2.out; omega⟩, ⟨by (with_reducible repeat (first | refine blk_drewN ?_ _ | refine blk_drew ?_ | refine blk_alloc ?_ _)); exact BK413.out⟩, ⟨by repeat (first | (with_reducible first | exact HB.out | apply below_alloc | apply pw_below_drewN | apply below_drew1 | refine below_set ?_ GE413.out) | exact HB.out)⟩⟩
       ·rw [if_neg c10] at H
        have c10b0 : decide (x21_2 < (((rd_T31 l0 x14_1).f1).length : Int)) = false := decide_eq_false c10
        clear c10
        replace H := guard_inv H
        obtain ⟨c41, H⟩ := H
        have c41b0 := eq_true c41
        have c41b1 := decide_eq_true c41
        try have c41b2 := eq_false (Nat.not_lt.2 c41)
        have H' := Aside0.mk H
        clear H
        go_wp2
        go_roundg k2
        case measure => have := HK1.out; have := HK2.out; omega
        case rel => exact ⟨(x4_2 ++ (⟨#[10]⟩ : ByteArray)), (wrap64 (x14_1 + 1)), (by first | rfl | (simp; done) | (simp [*]; done)), (by first | rfl | (simp; done) | (simp [*]; done)), H', ⟨by have := HK1.out; have := HK2.out; omega⟩, ⟨by repeat (first | (with_reducible first | exact HB.out | apply below_alloc | apply pw_below_drewN | apply below_drew1 | refine below_set ?_ GE413.out) | exact HB.out)⟩⟩
    ·rw [if_neg c5] at H
     have c5b0 : decide (x14_1 < (l0.length : Int)) = false := decide_eq_false c5
     clear c5
     simp only [Option.some.injEq, Prod.mk.injEq] at H
     obtain ⟨rfl, rfl⟩ := H
     go_wp2
     go_ret2
     exact ⟨by first | rfl | (simp [errW_none, errW_some] <;> rfl) | (simp [*, errW_none, errW_some] <;> rfl), by repeat (first | (with_reducible first | exact HB.out | apply below_alloc | apply pw_below_drewN | apply below_drew1) | exact HB.out)⟩
 ·replace c3 := Bool.eq_false_iff.mpr c3
  subst c3
  have H1 : (some ((⟨#[]⟩ : ByteArray), 2)) = some (r1, r2) := by rw [if_neg (show ¬ (false = true) by decide)] at H; exact H
  clear H
  have H := H1
  clear H1
  simp only [Option.some.injEq, Prod.mk.injEq] at H
  obtain ⟨rfl, rfl⟩ := H
  go_enter Tryz.func27, Tryz.ntmps27
  go_wp2_with (first | ((with_reducible refine gate_callee (f := 87) rfl ?_); refine goesL_ (some 10) rfl rfl Tryz.func87 (by kernel_rfl) rfl #[.slice A0 l0.length c0] rfl (by (try simp only [List.map_toArray, List.map_cons, List.map_nil]); first | done | rfl | (simp only [List.length_drop, List.length_take]; rfl)) ?_; (with_reducible refine (spec_conntrackFine.calls k _ _ l0 false _ ?side1 ?side2 A2.out).mono ?_); (case side1 => repeat (first | exact HR0.out | (with_reducible refine Kd.C_alloc ?_ _) | (with_reducible refine Kd.C_drewN ?_ _) | (with_reducible refine Kd.C_drew ?_))); (case side2 => exact HC0.out); rintro e w42 ⟨rfl, hb⟩; refine ⟨_, rfl, ?_⟩; have n0_ := Aside0.mk (below_step (by repeat (first | (with_reducible first | exact HB.out | apply below_alloc | apply pw_below_drewN | apply below_drew1) | exact HB.out)) hb); clear HB; have HB := n0_; clear n0_; (try clear hb); (try clear hb2); (try clear hk); (try clear hi)))
  go_ret2
  exact ⟨by first | rfl | (simp [errW_none, errW_some] <;> rfl) | (simp [*, errW_none, errW_some] <;> rfl), by repeat (first | (with_reducible first | exact HB.out | apply below_alloc | apply pw_below_drewN | apply below_drew1) | exact HB.out)⟩
end Go.Proofs.YtednjmngalmdkaaGreatDoor.GPC
end
section
namespace Go.Proofs.YtednjmngalmdkaaGreatDoor.GPC
open Go.RowKit Go.Proofs.YtednjmngalmdkaaGreatDoorW.PrintWords Go.Proofs.YtednjmngalmdkaaGreatDoorW.PrintLast Go.Proofs.YtednjmngalmdkaaGreatDoorW.PrintMore
attribute [local go_sem] max2_int min2_int max_two min_two max_three min_three max_four min_four   -- for this text's walks alone
set_option linter.unusedVariables false
set_option linter.unusedSimpArgs false

attribute [local go_sem] run_store_float
/-! ### spec_conntrackNames: function 89 -/
def spec_conntrackNames.f  : Option (List ByteArray) := some (([(⟨#[69, 110, 116, 114, 105, 101, 115]⟩ : ByteArray), (⟨#[83, 101, 97, 114, 99, 104, 101, 100]⟩ : ByteArray), (⟨#[70, 111, 117, 110, 100]⟩ : ByteArray), (⟨#[78, 101, 119]⟩ : ByteArray), (⟨#[73, 110, 118, 97, 108, 105, 100]⟩ : ByteArray), (⟨#[73, 103, 110, 111, 114, 101]⟩ : ByteArray), (⟨#[68, 101, 108, 101, 116, 101]⟩ : ByteArray), (⟨#[68, 101, 108, 101, 116, 101, 76, 105, 115, 116]⟩ : ByteArray), (⟨#[73, 110, 115, 101, 114, 116]⟩ : ByteArray), (⟨#[73, 110, 115, 101, 114, 116, 70, 97, 105, 108, 101, 100]⟩ : ByteArray), (⟨#[68, 114, 111, 112]⟩ : ByteArray), (⟨#[69, 97, 114, 108, 121, 68, 114, 111, 112]⟩ : ByteArray), (⟨#[83, 101, 97, 114, 99, 104, 82, 101, 115, 116, 97, 114, 116]⟩ : ByteArray)] : List ByteArray))
set_option maxHeartbeats 8000000 in
set_option maxRecDepth 100000 in
theorem spec_conntrackNames.calls  (r : List ByteArray) (w : World) (h : spec_conntrackNames.f  = some r) :
  Calls Tryz.prog 89 #[] w fun e w' => ∃ v0_ : Value, e = .returned (v0_) ∧ Kd.R Kd.string 9 w' w.heap.size (fun _ => True) v0_ r ∧ Below w.heap.size w w' := by
 have HB := Aside0.mk (Below.refl w.heap.size w)
 have H : (some (([(⟨#[69, 110, 116, 114, 105, 101, 115]⟩ : ByteArray), (⟨#[83, 101, 97, 114, 99, 104, 101, 100]⟩ : ByteArray), (⟨#[70, 111, 117, 110, 100]⟩ : ByteArray), (⟨#[78, 101, 119]⟩ : ByteArray), (⟨#[73, 110, 118, 97, 108, 105, 100]⟩ : ByteArray), (⟨#[73, 103, 110, 111, 114, 101]⟩ : ByteArray), (⟨#[68, 101, 108, 101, 116, 101]⟩ : ByteArray), (⟨#[68, 101, 108, 101, 116, 101, 76, 105, 115, 116]⟩ : ByteArray), (⟨#[73, 110, 115, 101, 114, 116]⟩ : ByteArray), (⟨#[73, 110, 115, 101, 114, 116, 70, 97, 105, 108, 101, 100]⟩ : ByteArray), (⟨#[68, 114, 111, 112]⟩ : ByteArray), (⟨#[69, 97, 114, 108, 121, 68, 114, 111, 112]⟩ : ByteArray), (⟨#[83, 101, 97, 114, 99, 104, 82, 101, 115, 116, 97, 114, 116]⟩ : ByteArray)] : List ByteArray))) = some r := h
 clear h
 obtain ⟨y421, hy421⟩ : ∃ y_ : List ByteArray, y_ = (([(⟨#[69, 110, 116, 114, 105, 101, 115]⟩ : ByteArray), (⟨#[83, 101, 97, 114, 99, 104, 101, 100]⟩ : ByteArray), (⟨#[70, 111, 117, 110, 100]⟩ : ByteArray), (⟨#[78, 101, 119]⟩ : ByteArray), (⟨#[73, 110, 118, 97, 108, 105, 100]⟩ : ByteArray), (⟨#[73, 103, 110, 111, 114, 101]⟩ : ByteArray), (⟨#[68, 101, 108, 101, 116, 101]⟩ : ByteArray), (⟨#[68, 101, 108, 101, 116, 101, 76, 105, 115, 116]⟩ : ByteArray), (⟨#[73, 110, 115, 101, 114, 116]⟩ : ByteArray), (⟨#[73, 110, 115, 101, 114, 116, 70, 97, 105, 108, 101, 100]⟩ : ByteArray), (⟨#[68, 114, 111, 112]⟩ : ByteArray), (⟨#[69, 97, 114, 108, 121, 68, 114, 111, 112]⟩ : ByteArray), (⟨#[83, 101, 97, 114, 99, 104, 82, 101, 115, 116, 97, 114, 116]⟩ : ByteArray)] : List ByteArray)) := ⟨_, rfl⟩
 replace H : (some y421) = some r := by first | (rw [hy421]; with_reducible exact H) | (have H2_ := (Option.bind_some _ _).symm.trans H; rw [hy421]; with_reducible exact H2_) | (have H2_ := (Option.bind_some _ _).symm.trans H; with_reducible exact H2_) | with_reducible exact H | (rw [hy421]; exact H) | exact H
 have Ny421 := Aside0.mk hy421
 clear hy421
 obtain rfl := Option.some.inj H
 go_enter Tryz.func89, Tryz.ntmps89
 go_wp2_with (first | ((with_reducible refine gate_dst (N := 1) rfl ?_); refine Kd.R_lit Kd.string _ 9 ?hg (N := 1) ?hd (xs := ([(⟨#[69, 110, 116, 114, 105, 101, 115]⟩ : ByteArray), (⟨#[83, 101, 97, 114, 99, 104, 101, 100]⟩ : ByteArray), (⟨#[70, 111, 117, 110, 100]⟩ : ByteArray), (⟨#[78, 101, 119]⟩ : ByteArray), (⟨#[73, 110, 118, 97, 108, 105, 100]⟩ : ByteArray), (⟨#[73, 103, 110, 111, 114, 101]⟩ : ByteArray), (⟨#[68, 101, 108, 101, 116, 101]⟩ : ByteArray), (⟨#[68, 101, 108, 101, 116, 101, 76, 105, 115, 116]⟩ : ByteArray), (⟨#[73, 110, 115, 101, 114, 116]⟩ : ByteArray), (⟨#[73, 110, 115, 101, 114, 116, 70, 97, 105, 108, 101, 100]⟩ : ByteArray), (⟨#[68, 114, 111, 112]⟩ : ByteArray), (⟨#[69, 97, 114, 108, 121, 68, 114, 111, 112]⟩ : ByteArray), (⟨#[83, 101, 97, 114, 99, 104, 82, 101, 115, 116, 97, 114, 116]⟩ : ByteArray)] : List ByteArray)) (inner := [.string (⟨#[69, 110, 116, 114, 105, 101, 115]⟩ : ByteArray), .string (⟨#[83, 101, 97, 114, 99, 104, 101, 100]⟩ : ByteArray), .string (⟨#[70, 111, 117, 110, 100]⟩ : ByteArray), .string (⟨#[78, 101, 119]⟩ : ByteArray), .string (⟨#[73, 110, 118, 97, 108, 105, 100]⟩ : ByteArray), .string (⟨#[73, 103, 110, 111, 114, 101]⟩ : ByteArray), .string (⟨#[68, 101, 108, 101, 116, 101]⟩ : ByteArray), .string (⟨#[68, 101, 108, 101, 116, 101, 76, 105, 115, 116]⟩ : ByteArray), .string (⟨#[73, 110, 115, 101, 114, 116]⟩ : ByteArray), .string (⟨#[73, 110, 115, 101, 114, 116, 70, 97, 105, 108, 101, 100]⟩ : ByteArray), .string (⟨#[68, 114, 111, 112]⟩ : ByteArray), .string (⟨#[69, 97, 114, 108, 121, 68, 114, 111, 112]⟩ : ByteArray), .string (⟨#[83, 101, 97, 114, 99, 104, 82, 101, 115, 116, 97, 114, 116]⟩ : ByteArray)]) (ok := fun _ => True) (okp := fun _ => True) ?hr ?hp (fun _ hk => hk) trivial (Below.refl _ _) (Nat.le_refl _) (by simp) ?_; (case hd => rfl); (case hg => rfl); (case hr => first | (go_simp; done) | (go_simp; rfl)); (case hp => exact (Reps.one (show Kd.M Kd.string _ _ _ (⟨#[69, 110, 116, 114, 105, 101, 115]⟩ : ByteArray) [.string (⟨#[69, 110, 116, 114, 105, 101, 115]⟩ : ByteArray)] from rfl) (Reps.one (show Kd.M Kd.string _ _ _ (⟨#[83, 101, 97, 114, 99, 104, 101, 100]⟩ : ByteArray) [.string (⟨#[83, 101, 97, 114, 99, 104, 101, 100]⟩ : ByteArray)] from rfl) (Reps.one (show Kd.M Kd.string _ _ _ (⟨#[70, 111, 117, 110, 100]⟩ : ByteArray) [.string (⟨#[70, 111, 117, 110, 100]⟩ : ByteArray)] from rfl) (Reps.one (show Kd.M Kd.string _ _ _ (⟨#[78, 101, 119]⟩ : ByteArray) [.string (⟨#[78, 101, 119]⟩ : ByteArray)] from rfl) (Reps.one (show Kd.M Kd.string _ _ _ (⟨#[73, 110, 118, 97, 108, 105, 100]⟩ : ByteArray) [.string (⟨#[73, 110, 118, 97, 108, 105, 100]⟩ : ByteArray)] from rfl) (Reps.one (show Kd.M Kd.string _ _ _ (⟨#[73, 103, 110, 111, 114, 101]⟩ : ByteArray) [.string (⟨#[73, 103, 110, 111, 114, 101]⟩ : ByteArray)] from rfl) (Reps.one (show Kd.M Kd.string _ _ _ (⟨#[68, 101, 108, 101, 116, 101]⟩ : ByteArray) [.string (⟨#[68, 101, 108, 101, 116, 101]⟩ : ByteArray)] from rfl) (Reps.one (show Kd.M Kd.string _ _ _ (⟨#[68, 101, 108, 101, 116, 101, 76, 105, 115, 116]⟩ : ByteArray) [.string (⟨#[68, 101, 108, 101, 116, 101, 76, 105, 115, 116]⟩ : ByteArray)] from rfl) (Reps.one (show Kd.M Kd.string _ _ _ (⟨#[73, 110, 115, 101, 114, 116]⟩ : ByteArray) [.string (⟨#[73, 110, 115, 101, 114, 116]⟩ : ByteArray)] from rfl) (Reps.one (show Kd.M Kd.string _ _ _ (⟨#[73, 110, 115, 101, 114, 116, 70, 97, 105, 108, 101, 100]⟩ : ByteArray) [.string (⟨#[73, 110, 115, 101, 114, 116, 70, 97, 105, 108, 101, 100]⟩ : ByteArray)] from rfl) (Reps.one (show Kd.M Kd.string _ _ _ (⟨#[68, 114, 111, 112]⟩ : ByteArray) [.string (⟨#[68, 114, 111, 112]⟩ : ByteArray)] from rfl) (Reps.one (show Kd.M Kd.string _ _ _ (⟨#[69, 97, 114, 108, 121, 68, 114, 111, 112]⟩ : ByteArray) [.string (⟨#[69, 97, 114, 108, 121, 68, 114, 111, 112]⟩ : ByteArray)] from rfl) (Reps.one (show Kd.M Kd.string _ _ _ (⟨#[83, 101, 97, 114, 99, 104, 82, 101, 115, 116, 97, 114, 116]⟩ : ByteArray) [.string (⟨#[83, 101, 97, 114, 99, 104, 82, 101, 115, 116, 97, 114, 116]⟩ : ByteArray)] from rfl) (Reps.none _ _))))))))))))))); intro v422 w1 ho2 hb hg_ hnew_; clear hg_ hnew_; (first | rw [← Ny421.out] at ho2 | (simp only [Int.reduceToNat] at ho2; rw [← Ny421.out] at ho2)); have n0_ := Aside0.mk (Kd.R_lower ho2 (below_size (by repeat (first | (with_reducible first | exact HB.out | apply below_alloc | apply pw_below_drewN | apply below_drew1) | exact HB.out)))); have n1_ := Aside0.mk (below_step (by repeat (first | (with_reducible first | exact HB.out | apply below_alloc | apply pw_below_drewN | apply below_drew1) | exact HB.out)) hb); clear HB; have HO423 := n0_; have HB := n1_; clear n0_ n1_; clear hb ho2))
 go_ret
 exact ⟨_, by first | rfl | (simp [errW_none, errW_some] <;> rfl) | (simp [*, errW_none, errW_some] <;> rfl), by (with_reducible repeat (first | apply Kd.R_alloc | apply Kd.R_drewN | apply Kd.R_drew)); exact HO423.out, by repeat (first | (with_reducible first | exact HB.out | apply below_alloc | apply pw_below_drewN | apply below_drew1) | exact HB.out)⟩
end Go.Proofs.YtednjmngalmdkaaGreatDoor.GPC
end
