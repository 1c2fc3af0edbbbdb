/- Texts of this claim, put together: GPEx8, GivenSn, GivenSnF, GivenSnT, GivenMore, GPSx7, BackSoftnet, LwSoftnet, PlNode, PNum, PlBase. Conditions: as each one says. -/
import Derived.Test.YtednjmngalmdkaaGreatDoorKSn0
import Derived.Test.YtednjmngalmdkaaGreatDoorKSn1
import Derived.Test.YtednjmngalmdkaaGreatDoorKSn2
import Derived.Test.YtednjmngalmdkaaGreatDoorKSn3
import Derived.Test.YtednjmngalmdkaaGreatDoorKSn4
import Derived.StillTailTactics
import Derived.Defers
import Derived.Recover
import Derived.Deep.RegionHeld3
section
namespace Go.Proofs.YtednjmngalmdkaaGreatDoor.GPC
open Go.RowKit Go.Proofs.YtednjmngalmdkaaGreatDoorW.PrintWords Go.Proofs.YtednjmngalmdkaaGreatDoorW.PrintLast Go.Proofs.YtednjmngalmdkaaGreatDoorW.PrintMore
attribute [local go_sem] max2_int min2_int max_two min_two max_three min_three max_four min_four   -- for this text's walks alone
set_option linter.unusedVariables false
set_option linter.unusedSimpArgs false

attribute [local go_sem] run_store_float
/-! ### procfs_SoftnetStat: function 101 -/
def procfs_SoftnetStat.l0 : Nat → List (S120) → Int → Int → ByteArray → Int → Bool → Int → Int → Nat → ByteArray → List (S43) → Option (ByteArray × Int × Bool × Int × Int × Nat × ByteArray × (List (S43)))
 | 0, _, _, _, _, _, _, _, _, _, _, _ => none
 | k + 1, x12, x13, x14, x382000, x382001, x382002, x382003, x382004, x382005, x382006, x382007 => if x14 < x13 then (if 0 ≤ x14 then (if x14 < (x12.length : Int) then ((impl_Softnet_1_1.f ((rd_T120 x12 x14).f0) ((rd_T120 x12 x14).f1) ((rd_T120 x12 x14).f2) ((rd_T120 x12 x14).f3) ((rd_T120 x12 x14).f4) ((rd_T120 x12 x14).f5) ((rd_T120 x12 x14).f6) ((rd_T120 x12 x14).f7) ((rd_T120 x12 x14).f8)).bind fun bt384 => (if x382007.length < 1466015503701 then (procfs_SoftnetStat.l0 k x12 x13 (wrap64 (x14 + 1)) x382000 x382001 x382002 x382003 x382004 x382005 x382006 (x382007 ++ [(⟨bt384.1, bt384.2.1, bt384.2.2.1, bt384.2.2.2.1, bt384.2.2.2.2.1, bt384.2.2.2.2.2.1, bt384.2.2.2.2.2.2.1, bt384.2.2.2.2.2.2.2⟩ : S43)])) else (none))) else (none)) else (none)) else (some (x382000, x382001, x382002, x382003, x382004, x382005, x382006, x382007))
def procfs_SoftnetStat.f (k : Nat) (a0 : ByteArray) (l1 : List (S120)) : Option (ByteArray × Int × Bool × Int × Int × Nat × ByteArray × (List (S43))) := procfs_SoftnetStat.l0 k l1 (l1.length : Int) 0 a0 6 false 0 0 0 (⟨#[]⟩ : ByteArray) ([] : List (S43))
theorem procfs_SoftnetStat.mono_l : ∀ k, (∀ y0 y1 y2 y3 y4 y5 y6 y7 y8 y9 y10, LeO (procfs_SoftnetStat.l0 k y0 y1 y2 y3 y4 y5 y6 y7 y8 y9 y10) (procfs_SoftnetStat.l0 (k + 1) y0 y1 y2 y3 y4 y5 y6 y7 y8 y9 y10))
 | 0 => fun _ _ _ _ _ _ _ _ _ _ _ r h => by simp [procfs_SoftnetStat.l0] at h
 | k + 1 => by
  have ih0 := procfs_SoftnetStat.mono_l k
  ·intro y0 y1 y2 y3 y4 y5 y6 y7 y8 y9 y10
   unfold procfs_SoftnetStat.l0
   repeat' first
   | (with_reducible exact ih0 _ _ _ _ _ _ _ _ _ _ _)
   | (with_reducible exact LeO.refl _)
   | (with_reducible exact LeO.none _)
   | (with_reducible refine LeO.ite ?_ ?_)
   | (with_reducible refine LeO.bind ?_ (fun _ => ?_))
   | exact ih0 _ _ _ _ _ _ _ _ _ _ _
   | exact LeO.none _
   | refine LeO.ite ?_ ?_
   | refine LeO.bind ?_ (fun _ => ?_)
theorem procfs_SoftnetStat.mono : ∀ a0 a1 k, LeO (procfs_SoftnetStat.f k a0 a1) (procfs_SoftnetStat.f (k + 1) a0 a1) := by
 intro a0 a1 k
 have ih0 := procfs_SoftnetStat.mono_l k
 unfold procfs_SoftnetStat.f
 repeat' first
   | (with_reducible exact ih0 _ _ _ _ _ _ _ _ _ _ _)
   | (with_reducible exact LeO.refl _)
   | (with_reducible exact LeO.none _)
   | (with_reducible refine LeO.ite ?_ ?_)
   | (with_reducible refine LeO.bind ?_ (fun _ => ?_))
   | exact ih0 _ _ _ _ _ _ _ _ _ _ _
   | exact LeO.none _
   | refine LeO.ite ?_ ?_
   | refine LeO.bind ?_ (fun _ => ?_)
def procfs_SoftnetStat.T5 : Bool × List (List Nat × List Nat) := (true, [([], []), ([0], [0]), ([], []), ([], []), ([2, 3], [2, 3]), ([4], [4]), ([1, 5, 4], [1, 5]), ([0, 1, 2, 3, 4, 5, 6], []), ([7, 6, 6, 0, 1, 2, 3, 4, 5, 6], [6, 7])])
def procfs_SoftnetStat.B5 : List Nat := [0, 1, 0, 0, 12, 28, 63, 127, 255]
theorem procfs_SoftnetStat.tab5 : rtab .any (opsOf Tryz.f101 5) = procfs_SoftnetStat.T5 := by kernel_rfl
theorem procfs_SoftnetStat.bits5 : waitsOk procfs_SoftnetStat.T5.2 procfs_SoftnetStat.B5 = true := by kernel_rfl
set_option maxHeartbeats 8000000 in
set_option maxRecDepth 100000 in
theorem procfs_SoftnetStat.calls (k : Nat) (a0 : ByteArray) (A1 : Option Addr) (c1 : Nat) (l1 : List (S120)) (r1 : ByteArray) (r2 : Int) (r3 : Bool) (r4 : Int) (r5 : Int) (r6 : Nat) (r7 : ByteArray) (r8 : List (S43)) (w : World) (hr1 : Kd.C k120 w A1 l1.length l1) (hc1 : l1.length ≤ c1) (h : procfs_SoftnetStat.f k a0 l1 = some (r1, r2, r3, r4, r5, r6, r7, r8)) :
  Calls Tryz.prog 101 #[.string a0, .slice A1 l1.length c1, .func (.func 102) #[] #[]] w fun e w' => ∃ v7_ : Value, e = .returned (.agg #[.string r1, .int .i64 r2, .bool r3, .int .i64 r4, .int .u64 r5, .float .f64 r6, .string r7, v7_]) ∧ Kd.R k43 43 w' w.heap.size (fun _ => True) v7_ r8 ∧ Below w.heap.size w w' := by
 have hu43 := Tryz.underlying43
 have hu120 := Tryz.underlying120
 have HR1 := Aside0.mk hr1
 have HC1 := Aside0.mk hc1
 clear hr1 hc1
 have HB := Aside0.mk (Below.refl w.heap.size w)
 have H : (procfs_SoftnetStat.l0 k l1 (l1.length : Int) 0 a0 6 false 0 0 0 (⟨#[]⟩ : ByteArray) ([] : List (S43))) = some (r1, r2, r3, r4, r5, r6, r7, r8) := h
 clear h
 have H' := Aside0.mk H
 clear H
 go_enter Tryz.func101, Tryz.ntmps101
 go_wp2_with (first | ((with_reducible refine gate_dst (N := 6) rfl ?_); refine box_event ?hg (N := 6) ?hd (cs := #[.string (⟨#[]⟩ : ByteArray), .int .i64 0, .bool false, .int .i64 0, .int .u64 0, .float .f64 0, .string (⟨#[]⟩ : ByteArray), .slice none 0 0]) (t := 43) ?hr ?_; (case hd => rfl); (case hg => rfl); (case hr => first | (go_simp; done) | (go_simp; rfl)); intro gb380 hg w3 hbox hb; have n0_ := Aside0.mk (below_step (by repeat (first | (with_reducible first | exact HB.out | apply below_alloc | apply pw_below_drewN | apply below_drew1) | exact HB.out)) hb); have n1_ := Aside0.mk (hbox); have n2_ := Aside0.mk ((by rw [hg]; exact (below_size (by repeat (first | (with_reducible first | exact HB.out | apply below_alloc | apply pw_below_drewN | apply below_drew1) | exact HB.out))) : w.heap.size ≤ gb380)); have n3_ := Aside0.mk ((by rw [hg]; exact (below_size (by repeat (first | (with_reducible first | exact HB.out | apply below_alloc | apply pw_below_drewN | apply below_drew1) | exact HB.out))) : w.heap.size ≤ gb380)); clear HB; have HB := n0_; have BK380 := n1_; have GW380 := n2_; have GE380 := n3_; clear n0_ n1_ n2_ n3_; clear hb hbox hg) | ((with_reducible refine gate_dst (N := 7) rfl ?_); refine box_event ?hg (N := 7) ?hd (cs := #[.string (⟨#[]⟩ : ByteArray), .int .i64 0, .bool false, .int .i64 0, .int .u64 0, .float .f64 0, .string (⟨#[]⟩ : ByteArray), .slice none 0 0]) (t := 43) ?hr ?_; (case hd => rfl); (case hg => rfl); (case hr => first | (go_simp; done) | (go_simp; rfl)); intro gb381 hg w4 hbox hb; have n0_ := Aside0.mk (blk_below (g := gb380) (o := .cells #[.string (⟨#[]⟩ : ByteArray), .int .i64 0, .bool false, .int .i64 0, .int .u64 0, .float .f64 0, .string (⟨#[]⟩ : ByteArray), .slice none 0 0] 43 (0, 0)) (by (with_reducible repeat (first | refine blk_drewN ?_ _ | refine blk_drew ?_ | refine blk_alloc ?_ _)); exact BK380.out) hb); have n1_ := Aside0.mk (below_step (by repeat (first | (with_reducible first | exact HB.out | apply below_alloc | apply pw_below_drewN | apply below_drew1 | refine below_set ?_ GE380.out) | exact HB.out)) hb); have n2_ := Aside0.mk (hbox); have n3_ := Aside0.mk ((by rw [hg]; exact (below_size (by repeat (first | (with_reducible first | exact HB.out | apply below_alloc | apply pw_below_drewN | apply below_drew1 | refine below_set ?_ GE380.out) | exact HB.out))) : w.heap.size ≤ gb381)); have n4_ := Aside0.mk ((by rw [hg]; exact (below_size (by repeat (first | (with_reducible first | exact HB.out | apply below_alloc | apply pw_below_drewN | apply below_drew1 | refine below_set ?_ GE380.out) | exact HB.out))) : w.heap.size ≤ gb381)); have n5_ := Aside0.mk ((by rw [hg]; exact Nat.ne_of_lt (blk_lt (g := gb380) (o := .cells #[.string (⟨#[]⟩ : ByteArray), .int .i64 0, .bool false, .int .i64 0, .int .u64 0, .float .f64 0, .string (⟨#[]⟩ : ByteArray), .slice none 0 0] 43 (0, 0)) (by (with_reducible repeat (first | refine blk_drewN ?_ _ | refine blk_drew ?_ | refine blk_alloc ?_ _)); exact BK380.out)) : gb380 ≠ gb381)); have n6_ := Aside0.mk ((by rw [hg]; exact Nat.ne_of_gt (blk_lt (g := gb380) (o := .cells #[.string (⟨#[]⟩ : ByteArray), .int .i64 0, .bool false, .int .i64 0, .int .u64 0, .float .f64 0, .string (⟨#[]⟩ : ByteArray), .slice none 0 0] 43 (0, 0)) (by (with_reducible repeat (first | refine blk_drewN ?_ _ | refine blk_drew ?_ | refine blk_alloc ?_ _)); exact BK380.out)) : gb381 ≠ gb380)); clear BK380; clear HB; have BK380 := n0_; have HB := n1_; have BK381 := n2_; have GW381 := n3_; have GE381 := n4_; have NB380_381 := n5_; have NB381_380 := n6_; clear n0_ n1_ n2_ n3_ n4_ n5_ n6_; clear hb hbox hg; have hnb5 := NB381_380.out; have hnc5 := NB380_381.out; have hcz6_0 : w4.cell? ⟨gb381, 0, none⟩ = some (.string (⟨#[]⟩ : ByteArray)) := (blk_cell BK381.out 0).trans rfl; have hcz6_1 : w4.cell? ⟨gb381, 1, none⟩ = some (.int .i64 0) := (blk_cell BK381.out 1).trans rfl; have hcz6_2 : w4.cell? ⟨gb381, 2, none⟩ = some (.bool false) := (blk_cell BK381.out 2).trans rfl; have hcz6_3 : w4.cell? ⟨gb381, 3, none⟩ = some (.int .i64 0) := (blk_cell BK381.out 3).trans rfl; have hcz6_4 : w4.cell? ⟨gb381, 4, none⟩ = some (.int .u64 0) := (blk_cell BK381.out 4).trans rfl; have hcz6_5 : w4.cell? ⟨gb381, 5, none⟩ = some (.float .f64 0) := (blk_cell BK381.out 5).trans rfl; have hcz6_6 : w4.cell? ⟨gb381, 6, none⟩ = some (.string (⟨#[]⟩ : ByteArray)) := (blk_cell BK381.out 6).trans rfl; have hcz6_7 : w4.cell? ⟨gb381, 7, none⟩ = some (.slice none 0 0) := (blk_cell BK381.out 7).trans rfl; have hfz6_0 := blk_frozen BK381.out 0; have hfz6_1 := blk_frozen BK381.out 1; have hfz6_2 := blk_frozen BK381.out 2; have hfz6_3 := blk_frozen BK381.out 3; have hfz6_4 := blk_frozen BK381.out 4; have hfz6_5 := blk_frozen BK381.out 5; have hfz6_6 := blk_frozen BK381.out 6; have hfz6_7 := blk_frozen BK381.out 7))
 go_loopg [14] k (fun kq v14 w' => ∃ (x14_1 : Int) (x382007_1 : List (S43)) (u382007 : Value), v14 = .int .i64 x14_1 ∧ Aside0 (procfs_SoftnetStat.l0 kq l1 (l1.length : Int) x14_1 a0 6 false 0 0 0 (⟨#[]⟩ : ByteArray) x382007_1 = some (r1, r2, r3, r4, r5, r6, r7, r8)) ∧ Aside0 (kq ≤ k) ∧ Aside0 (Kd.R k43 43 w' w.heap.size (fun k_ => k_ ≠ gb380 ∧ k_ ≠ gb381) u382007 x382007_1) ∧ Aside0 (w'.heap[gb380]? = some (.cells #[.string (⟨#[]⟩ : ByteArray), .int .i64 0, .bool false, .int .i64 0, .int .u64 0, .float .f64 0, .string (⟨#[]⟩ : ByteArray), (.slice none 0 0)] 43 (0, 0))) ∧ Aside0 (w'.heap[gb381]? = some (.cells #[.string a0, .int .i64 6, .bool false, .int .i64 0, .int .u64 0, .float .f64 0, .string (⟨#[]⟩ : ByteArray), u382007] 43 (0, 0))) ∧ Aside0 (Below w.heap.size w w'))
 case atStart => exact ⟨(0), (([] : List (S43))), (.slice none 0 0), (by first | rfl | (simp; done) | (simp [*]; done)), H', ⟨Nat.le_refl _⟩, ⟨by first | exact Kd.R_nil _ _ _ _ _ | exact Kd.N_nil _ _ _ _ _ | exact Kd.V_nil _ _ _ _ _ | exact Kd.Q_nil _ _ _ _ _ | exact Kd.S_nil _ _ _ _ _⟩, ⟨by (with_reducible repeat (first | refine blk_drewN ?_ _ | refine blk_drew ?_ | refine blk_alloc ?_ _)); refine blk_far ?_ NB380_381.out _; (with_reducible repeat (first | refine blk_drewN ?_ _ | refine blk_drew ?_ | refine blk_alloc ?_ _)); refine blk_far ?_ NB380_381.out _; (with_reducible repeat (first | refine blk_drewN ?_ _ | refine blk_drew ?_ | refine blk_alloc ?_ _)); refine blk_far ?_ NB380_381.out _; (with_reducible repeat (first | refine blk_drewN ?_ _ | refine blk_drew ?_ | refine blk_alloc ?_ _)); refine blk_far ?_ NB380_381.out _; (with_reducible repeat (first | refine blk_drewN ?_ _ | refine blk_drew ?_ | refine blk_alloc ?_ _)); refine blk_far ?_ NB380_381.out _; (with_reducible repeat (first | refine blk_drewN ?_ _ | refine blk_drew ?_ | refine blk_alloc ?_ _)); refine blk_far ?_ NB380_381.out _; (with_reducible repeat (first | refine blk_drewN ?_ _ | refine blk_drew ?_ | refine blk_alloc ?_ _)); refine blk_far ?_ NB380_381.out _; (with_reducible repeat (first | refine blk_drewN ?_ _ | refine blk_drew ?_ | refine blk_alloc ?_ _)); refine blk_far ?_ NB380_381.out _; (with_reducible repeat (first | refine blk_drewN ?_ _ | refine blk_drew ?_ | refine blk_alloc ?_ _)); exact BK380.out⟩, ⟨by (with_reducible repeat (first | refine blk_drewN ?_ _ | refine blk_drew ?_ | refine blk_alloc ?_ _)); refine blk_put (cs := #[.string a0, .int .i64 6, .bool false, .int .i64 0, .int .u64 0, .float .f64 0, .string (⟨#[]⟩ : ByteArray), .slice none 0 0]) ?_ 7 _ rfl; (with_reducible repeat (first | refine blk_drewN ?_ _ | refine blk_drew ?_ | refine blk_alloc ?_ _)); refine blk_put (cs := #[.string a0, .int .i64 6, .bool false, .int .i64 0, .int .u64 0, .float .f64 0, .string (⟨#[]⟩ : ByteArray), .slice none 0 0]) ?_ 6 _ rfl; (with_reducible repeat (first | refine blk_drewN ?_ _ | refine blk_drew ?_ | refine blk_alloc ?_ _)); refine blk_put (cs := #[.string a0, .int .i64 6, .bool false, .int .i64 0, .int .u64 0, .float .f64 0, .string (⟨#[]⟩ : ByteArray), .slice none 0 0]) ?_ 5 _ rfl; (with_reducible repeat (first | refine blk_drewN ?_ _ | refine blk_drew ?_ | refine blk_alloc ?_ _)); refine blk_put (cs := #[.string a0, .int .i64 6, .bool false, .int .i64 0, .int .u64 0, .float .f64 0, .string (⟨#[]⟩ : ByteArray), .slice none 0 0]) ?_ 4 _ rfl; (with_reducible repeat (first | refine blk_drewN ?_ _ | refine blk_drew ?_ | refine blk_alloc ?_ _)); refine blk_put (cs := #[.string a0, .int .i64 6, .bool false, .int .i64 0, .int .u64 0, .float .f64 0, .string (⟨#[]⟩ : ByteArray), .slice none 0 0]) ?_ 3 _ rfl; (with_reducible repeat (first | refine blk_drewN ?_ _ | refine blk_drew ?_ | refine blk_alloc ?_ _)); refine blk_put (cs := #[.string a0, .int .i64 6, .bool false, .int .i64 0, .int .u64 0, .float .f64 0, .string (⟨#[]⟩ : ByteArray), .slice none 0 0]) ?_ 2 _ rfl; (with_reducible repeat (first | refine blk_drewN ?_ _ | refine blk_drew ?_ | refine blk_alloc ?_ _)); refine blk_put (cs := #[.string a0, .int .i64 0, .bool false, .int .i64 0, .int .u64 0, .float .f64 0, .string (⟨#[]⟩ : ByteArray), .slice none 0 0]) ?_ 1 _ rfl; (with_reducible repeat (first | refine blk_drewN ?_ _ | refine blk_drew ?_ | refine blk_alloc ?_ _)); refine blk_put (cs := #[.string (⟨#[]⟩ : ByteArray), .int .i64 0, .bool false, .int .i64 0, .int .u64 0, .float .f64 0, .string (⟨#[]⟩ : ByteArray), .slice none 0 0]) ?_ 0 _ rfl; (with_reducible repeat (first | refine blk_drewN ?_ _ | refine blk_drew ?_ | refine blk_alloc ?_ _)); exact BK381.out⟩, ⟨by repeat (first | (with_reducible first | exact HB.out | apply below_alloc | apply pw_below_drewN | apply below_drew1 | refine below_set ?_ GE380.out | refine below_set ?_ GE381.out) | exact HB.out)⟩⟩
 case round =>
  clear H'
  try clear c1
  try clear p2
  try clear c5
  try clear hcz6_0
  try clear hcz6_1
  try clear hcz6_2
  try clear hcz6_3
  try clear hcz6_4
  try clear hcz6_5
  try clear hcz6_6
  try clear hcz6_7
  try clear hfz6_0
  try clear hfz6_1
  try clear hfz6_2
  try clear hfz6_3
  try clear hfz6_4
  try clear hfz6_5
  try clear hfz6_6
  try clear hfz6_7
  obtain ⟨x14_1, x382007_1, u382007, rfl, HA, HK1, HO_382007, BK380, BK381, HB⟩ := hrel
  cases gk with
  | zero => exact absurd HA.out (by simp [procfs_SoftnetStat.l0])
  | succ k1 =>
   have H := HA.out
   clear HA
   simp only [procfs_SoftnetStat.l0] at H
   by_cases c7 : x14_1 < (l1.length : Int)
   ·rw [if_pos c7] at H
    have c7b0 : decide (x14_1 < (l1.length : Int)) = true := decide_eq_true c7
    clear c7
    replace H := guard_inv H
    obtain ⟨c8, H⟩ := H
    have c8b0 : decide (0 ≤ x14_1) = true := decide_eq_true c8
    clear c8
    replace H := guard_inv H
    obtain ⟨c9, H⟩ := H
    have c9b0 : decide (x14_1 < (l1.length : Int)) = true := decide_eq_true c9
    clear c9
    replace H := Option.bind_eq_some_iff.mp H
    obtain ⟨⟨t384, t385, t386, t387, t388, t389, t390, t391⟩, A100, H⟩ := H
    replace H : (if x382007_1.length < 1466015503701 then (procfs_SoftnetStat.l0 k1 l1 (l1.length : Int) (wrap64 (x14_1 + 1)) a0 6 false 0 0 0 (⟨#[]⟩ : ByteArray) (x382007_1 ++ [(⟨t384, t385, t386, t387, t388, t389, t390, t391⟩ : S43)])) else (none)) = some (r1, r2, r3, r4, r5, r6, r7, r8) := H
    have A10 := Aside0.mk A100
    clear A100
    replace H := guard_inv H
    obtain ⟨c11, H⟩ := H
    have LMc11 := Aside0.mk c11
    clear c11
    obtain ⟨y394, hy394⟩ : ∃ y_ : List (S43), y_ = (x382007_1 ++ [(⟨t384, t385, t386, t387, t388, t389, t390, t391⟩ : S43)]) := ⟨_, rfl⟩
    replace H : (procfs_SoftnetStat.l0 k1 l1 (l1.length : Int) (wrap64 (x14_1 + 1)) a0 6 false 0 0 0 (⟨#[]⟩ : ByteArray) y394) = some (r1, r2, r3, r4, r5, r6, r7, r8) := by first | (rw [hy394]; with_reducible exact H) | (have H2_ := (Option.bind_some _ _).symm.trans H; rw [hy394]; with_reducible exact H2_) | (have H2_ := (Option.bind_some _ _).symm.trans H; with_reducible exact H2_) | with_reducible exact H | (rw [hy394]; exact H) | exact H
    have Ny394 := Aside0.mk hy394
    clear hy394
    have H' := Aside0.mk H
    clear H
    have p382 : 0 ≤ (x14_1 : Int) := of_decide_eq_true (by first | (with_reducible assumption) | assumption)
    have q382 : x14_1 < (l1.length : Int) := of_decide_eq_true (by first | (with_reducible assumption) | assumption)
    obtain ⟨ad382, e382, hx382_0, hx382_1, hx382_2, hx382_3, hx382_4, hx382_5, hx382_6, hx382_7, hx382_8⟩ := at_T120 HR1.out x14_1 p382 q382
    cases e382
    replace hx382_0 := (HB.out.cell (World.block_lt_of_cell? w _ hx382_0)).trans hx382_0
    replace hx382_1 := (HB.out.cell (World.block_lt_of_cell? w _ hx382_1)).trans hx382_1
    replace hx382_2 := (HB.out.cell (World.block_lt_of_cell? w _ hx382_2)).trans hx382_2
    replace hx382_3 := (HB.out.cell (World.block_lt_of_cell? w _ hx382_3)).trans hx382_3
    replace hx382_4 := (HB.out.cell (World.block_lt_of_cell? w _ hx382_4)).trans hx382_4
    replace hx382_5 := (HB.out.cell (World.block_lt_of_cell? w _ hx382_5)).trans hx382_5
    replace hx382_6 := (HB.out.cell (World.block_lt_of_cell? w _ hx382_6)).trans hx382_6
    replace hx382_7 := (HB.out.cell (World.block_lt_of_cell? w _ hx382_7)).trans hx382_7
    replace hx382_8 := (HB.out.cell (World.block_lt_of_cell? w _ hx382_8)).trans hx382_8
    replace p382 := eq_true p382
    replace q382 := eq_true q382
    try go_wp2_with (first | ((with_reducible refine gate_dst (N := 9) rfl ?_); refine box_event ?hg (N := 9) ?hd (cs := #[.int .u32 0, .int .u32 0, .int .u32 0, .int .u32 0, .int .u32 0, .int .u32 0, .int .u32 0, .int .u32 0, .int .i64 0]) (t := 120) ?hr ?_; (case hd => rfl); (case hg => rfl); (case hr => first | (go_simp; done) | (go_simp; rfl)); intro gb383 hg w12 hbox hb; have n0_ := Aside0.mk (Kd.R_below (by (with_reducible repeat (first | apply Kd.R_alloc | apply Kd.R_drewN | apply Kd.R_drew)); exact HO_382007.out) hb); have n1_ := Aside0.mk (blk_below (g := gb380) (o := .cells #[.string (⟨#[]⟩ : ByteArray), .int .i64 0, .bool false, .int .i64 0, .int .u64 0, .float .f64 0, .string (⟨#[]⟩ : ByteArray), .slice none 0 0] 43 (0, 0)) (by (with_reducible repeat (first | refine blk_drewN ?_ _ | refine blk_drew ?_ | refine blk_alloc ?_ _)); exact BK380.out) hb); have n2_ := Aside0.mk (blk_below (g := gb381) (o := .cells #[.string a0, .int .i64 6, .bool false, .int .i64 0, .int .u64 0, .float .f64 0, .string (⟨#[]⟩ : ByteArray), u382007] 43 (0, 0)) (by (with_reducible repeat (first | refine blk_drewN ?_ _ | refine blk_drew ?_ | refine blk_alloc ?_ _)); exact BK381.out) hb); have n3_ := Aside0.mk (below_step (by repeat (first | (with_reducible first | exact HB.out | apply below_alloc | apply pw_below_drewN | apply below_drew1 | refine below_set ?_ GE380.out | refine below_set ?_ GE381.out) | exact HB.out)) hb); have n4_ := Aside0.mk (hbox); have n5_ := Aside0.mk ((by rw [hg]; exact (below_size (by repeat (first | (with_reducible first | exact HB.out | apply below_alloc | apply pw_below_drewN | apply below_drew1 | refine below_set ?_ GE380.out | refine below_set ?_ GE381.out) | exact HB.out))) : w.heap.size ≤ gb383)); have n6_ := Aside0.mk ((by rw [hg]; exact (below_size (by repeat (first | (with_reducible first | exact HB.out | apply below_alloc | apply pw_below_drewN | apply below_drew1 | refine below_set ?_ GE380.out | refine below_set ?_ GE381.out) | exact HB.out))) : w.heap.size ≤ gb383)); have n7_ := Aside0.mk ((by rw [hg]; exact Nat.ne_of_lt (blk_lt (g := gb380) (o := .cells #[.string (⟨#[]⟩ : ByteArray), .int .i64 0, .bool false, .int .i64 0, .int .u64 0, .float .f64 0, .string (⟨#[]⟩ : ByteArray), .slice none 0 0] 43 (0, 0)) (by (with_reducible repeat (first | refine blk_drewN ?_ _ | refine blk_drew ?_ | refine blk_alloc ?_ _)); exact BK380.out)) : gb380 ≠ gb383)); have n8_ := Aside0.mk ((by rw [hg]; exact Nat.ne_of_gt (blk_lt (g := gb380) (o := .cells #[.string (⟨#[]⟩ : ByteArray), .int .i64 0, .bool false, .int .i64 0, .int .u64 0, .float .f64 0, .string (⟨#[]⟩ : ByteArray), .slice none 0 0] 43 (0, 0)) (by (with_reducible repeat (first | refine blk_drewN ?_ _ | refine blk_drew ?_ | refine blk_alloc ?_ _)); exact BK380.out)) : gb383 ≠ gb380)); have n9_ := Aside0.mk ((by rw [hg]; exact Nat.ne_of_lt (blk_lt (g := gb381) (o := .cells #[.string a0, .int .i64 6, .bool false, .int .i64 0, .int .u64 0, .float .f64 0, .string (⟨#[]⟩ : ByteArray), u382007] 43 (0, 0)) (by (with_reducible repeat (first | refine blk_drewN ?_ _ | refine blk_drew ?_ | refine blk_alloc ?_ _)); exact BK381.out)) : gb381 ≠ gb383)); have n10_ := Aside0.mk ((by rw [hg]; exact Nat.ne_of_gt (blk_lt (g := gb381) (o := .cells #[.string a0, .int .i64 6, .bool false, .int .i64 0, .int .u64 0, .float .f64 0, .string (⟨#[]⟩ : ByteArray), u382007] 43 (0, 0)) (by (with_reducible repeat (first | refine blk_drewN ?_ _ | refine blk_drew ?_ | refine blk_alloc ?_ _)); exact BK381.out)) : gb383 ≠ gb381)); clear HO_382007; clear BK380; clear BK381; clear HB; have HO_382007 := n0_; have BK380 := n1_; have BK381 := n2_; have HB := n3_; have BK383 := n4_; have GW383 := n5_; have GE383 := n6_; have NB380_383 := n7_; have NB383_380 := n8_; have NB381_383 := n9_; have NB383_381 := n10_; clear n0_ n1_ n2_ n3_ n4_ n5_ n6_ n7_ n8_ n9_ n10_; clear hb hbox hg; have hnb13 := NB383_380.out; have hnc13 := NB380_383.out; have hnb14 := NB383_381.out; have hnc14 := NB381_383.out; have hcz15_0 : w12.cell? ⟨gb383, 0, none⟩ = some (.int .u32 0) := (blk_cell BK383.out 0).trans rfl; have hcz15_1 : w12.cell? ⟨gb383, 1, none⟩ = some (.int .u32 0) := (blk_cell BK383.out 1).trans rfl; have hcz15_2 : w12.cell? ⟨gb383, 2, none⟩ = some (.int .u32 0) := (blk_cell BK383.out 2).trans rfl; have hcz15_3 : w12.cell? ⟨gb383, 3, none⟩ = some (.int .u32 0) := (blk_cell BK383.out 3).trans rfl; have hcz15_4 : w12.cell? ⟨gb383, 4, none⟩ = some (.int .u32 0) := (blk_cell BK383.out 4).trans rfl; have hcz15_5 : w12.cell? ⟨gb383, 5, none⟩ = some (.int .u32 0) := (blk_cell BK383.out 5).trans rfl; have hcz15_6 : w12.cell? ⟨gb383, 6, none⟩ = some (.int .u32 0) := (blk_cell BK383.out 6).trans rfl; have hcz15_7 : w12.cell? ⟨gb383, 7, none⟩ = some (.int .u32 0) := (blk_cell BK383.out 7).trans rfl; have hcz15_8 : w12.cell? ⟨gb383, 8, none⟩ = some (.int .i64 0) := (blk_cell BK383.out 8).trans rfl; have hfz15_0 := blk_frozen BK383.out 0; have hfz15_1 := blk_frozen BK383.out 1; have hfz15_2 := blk_frozen BK383.out 2; have hfz15_3 := blk_frozen BK383.out 3; have hfz15_4 := blk_frozen BK383.out 4; have hfz15_5 := blk_frozen BK383.out 5; have hfz15_6 := blk_frozen BK383.out 6; have hfz15_7 := blk_frozen BK383.out 7; have hfz15_8 := blk_frozen BK383.out 8))
    have n0_ : Aside0 (Kd.R k43 43 (((((((((w12.setCell ⟨gb383, 0, none⟩ (.int .u32 ((rd_T120 l1 x14_1).f0))).setCell ⟨gb383, 1, none⟩ (.int .u32 ((rd_T120 l1 x14_1).f1))).setCell ⟨gb383, 2, none⟩ (.int .u32 ((rd_T120 l1 x14_1).f2))).setCell ⟨gb383, 3, none⟩ (.int .u32 ((rd_T120 l1 x14_1).f3))).setCell ⟨gb383, 4, none⟩ (.int .u32 ((rd_T120 l1 x14_1).f4))).setCell ⟨gb383, 5, none⟩ (.int .u32 ((rd_T120 l1 x14_1).f5))).setCell ⟨gb383, 6, none⟩ (.int .u32 ((rd_T120 l1 x14_1).f6))).setCell ⟨gb383, 7, none⟩ (.int .u32 ((rd_T120 l1 x14_1).f7))).setCell ⟨gb383, 8, none⟩ (.int .i64 ((rd_T120 l1 x14_1).f8))) w.heap.size (fun k_ => k_ ≠ gb380 ∧ k_ ≠ gb381) u382007 x382007_1) := ⟨by (with_reducible repeat (first | apply Kd.R_alloc | apply Kd.R_drewN | apply Kd.R_drew)); exact Kd.R_mono (Kd.R_far (p := ⟨gb383, 8, none⟩) (Kd.R_far (p := ⟨gb383, 7, none⟩) (Kd.R_far (p := ⟨gb383, 6, none⟩) (Kd.R_far (p := ⟨gb383, 5, none⟩) (Kd.R_far (p := ⟨gb383, 4, none⟩) (Kd.R_far (p := ⟨gb383, 3, none⟩) (Kd.R_far (p := ⟨gb383, 2, none⟩) (Kd.R_far (p := ⟨gb383, 1, none⟩) (Kd.R_far (p := ⟨gb383, 0, none⟩) (Kd.R_types HO_382007.out BK383.out (by decide)) (fun _ hk => hk.2) (.int .u32 ((rd_T120 l1 x14_1).f0))) (fun _ hk => hk.2) (.int .u32 ((rd_T120 l1 x14_1).f1))) (fun _ hk => hk.2) (.int .u32 ((rd_T120 l1 x14_1).f2))) (fun _ hk => hk.2) (.int .u32 ((rd_T120 l1 x14_1).f3))) (fun _ hk => hk.2) (.int .u32 ((rd_T120 l1 x14_1).f4))) (fun _ hk => hk.2) (.int .u32 ((rd_T120 l1 x14_1).f5))) (fun _ hk => hk.2) (.int .u32 ((rd_T120 l1 x14_1).f6))) (fun _ hk => hk.2) (.int .u32 ((rd_T120 l1 x14_1).f7))) (fun _ hk => hk.2) (.int .i64 ((rd_T120 l1 x14_1).f8))) (fun _ hk => ⟨hk.1.1, hk.1.2⟩)⟩
    have n1_ : Aside0 ((((((((((w12.setCell ⟨gb383, 0, none⟩ (.int .u32 ((rd_T120 l1 x14_1).f0))).setCell ⟨gb383, 1, none⟩ (.int .u32 ((rd_T120 l1 x14_1).f1))).setCell ⟨gb383, 2, none⟩ (.int .u32 ((rd_T120 l1 x14_1).f2))).setCell ⟨gb383, 3, none⟩ (.int .u32 ((rd_T120 l1 x14_1).f3))).setCell ⟨gb383, 4, none⟩ (.int .u32 ((rd_T120 l1 x14_1).f4))).setCell ⟨gb383, 5, none⟩ (.int .u32 ((rd_T120 l1 x14_1).f5))).setCell ⟨gb383, 6, none⟩ (.int .u32 ((rd_T120 l1 x14_1).f6))).setCell ⟨gb383, 7, none⟩ (.int .u32 ((rd_T120 l1 x14_1).f7))).setCell ⟨gb383, 8, none⟩ (.int .i64 ((rd_T120 l1 x14_1).f8))).heap[gb380]? = some (.cells #[.string (⟨#[]⟩ : ByteArray), .int .i64 0, .bool false, .int .i64 0, .int .u64 0, .float .f64 0, .string (⟨#[]⟩ : ByteArray), .slice none 0 0] 43 (0, 0))) := ⟨by (with_reducible repeat (first | refine blk_drewN ?_ _ | refine blk_drew ?_ | refine blk_alloc ?_ _)); refine blk_far ?_ NB380_383.out _; (with_reducible repeat (first | refine blk_drewN ?_ _ | refine blk_drew ?_ | refine blk_alloc ?_ _)); refine blk_far ?_ NB380_383.out _; (with_reducible repeat (first | refine blk_drewN ?_ _ | refine blk_drew ?_ | refine blk_alloc ?_ _)); refine blk_far ?_ NB380_383.out _; (with_reducible repeat (first | refine blk_drewN ?_ _ | refine blk_drew ?_ | refine blk_alloc ?_ _)); refine blk_far ?_ NB380_383.out _; (with_reducible repeat (first | refine blk_drewN ?_ _ | refine blk_drew ?_ | refine blk_alloc ?_ _)); refine blk_far ?_ NB380_383.out _; (with_reducible repeat (first | refine blk_drewN ?_ _ | refine blk_drew ?_ | refine blk_alloc ?_ _)); refine blk_far ?_ NB380_383.out _; (with_reducible repeat (first | refine blk_drewN ?_ _ | refine blk_drew ?_ | refine blk_alloc ?_ _)); refine blk_far ?_ NB380_383.out _; (with_reducible repeat (first | refine blk_drewN ?_ _ | refine blk_drew ?_ | refine blk_alloc ?_ _)); refine blk_far ?_ NB380_383.out _; (with_reducible repeat (first | refine blk_drewN ?_ _ | refine blk_drew ?_ | refine blk_alloc ?_ _)); refine blk_far ?_ NB380_383.out _; (with_reducible repeat (first | refine blk_drewN ?_ _ | refine blk_drew ?_ | refine blk_alloc ?_ _)); exact BK380.out⟩
    have n2_ : Aside0 ((((((((((w12.setCell ⟨gb383, 0, none⟩ (.int .u32 ((rd_T120 l1 x14_1).f0))).setCell ⟨gb383, 1, none⟩ (.int .u32 ((rd_T120 l1 x14_1).f1))).setCell ⟨gb383, 2, none⟩ (.int .u32 ((rd_T120 l1 x14_1).f2))).setCell ⟨gb383, 3, none⟩ (.int .u32 ((rd_T120 l1 x14_1).f3))).setCell ⟨gb383, 4, none⟩ (.int .u32 ((rd_T120 l1 x14_1).f4))).setCell ⟨gb383, 5, none⟩ (.int .u32 ((rd_T120 l1 x14_1).f5))).setCell ⟨gb383, 6, none⟩ (.int .u32 ((rd_T120 l1 x14_1).f6))).setCell ⟨gb383, 7, none⟩ (.int .u32 ((rd_T120 l1 x14_1).f7))).setCell ⟨gb383, 8, none⟩ (.int .i64 ((rd_T120 l1 x14_1).f8))).heap[gb381]? = some (.cells #[.string a0, .int .i64 6, .bool false, .int .i64 0, .int .u64 0, .float .f64 0, .string (⟨#[]⟩ : ByteArray), u382007] 43 (0, 0))) := ⟨by (with_reducible repeat (first | refine blk_drewN ?_ _ | refine blk_drew ?_ | refine blk_alloc ?_ _)); refine blk_far ?_ NB381_383.out _; (with_reducible repeat (first | refine blk_drewN ?_ _ | refine blk_drew ?_ | refine blk_alloc ?_ _)); refine blk_far ?_ NB381_383.out _; (with_reducible repeat (first | refine blk_drewN ?_ _ | refine blk_drew ?_ | refine blk_alloc ?_ _)); refine blk_far ?_ NB381_383.out _; (with_reducible repeat (first | refine blk_drewN ?_ _ | refine blk_drew ?_ | refine blk_alloc ?_ _)); refine blk_far ?_ NB381_383.out _; (with_reducible repeat (first | refine blk_drewN ?_ _ | refine blk_drew ?_ | refine blk_alloc ?_ _)); refine blk_far ?_ NB381_383.out _; (with_reducible repeat (first | refine blk_drewN ?_ _ | refine blk_drew ?_ | refine blk_alloc ?_ _)); refine blk_far ?_ NB381_383.out _; (with_reducible repeat (first | refine blk_drewN ?_ _ | refine blk_drew ?_ | refine blk_alloc ?_ _)); refine blk_far ?_ NB381_383.out _; (with_reducible repeat (first | refine blk_drewN ?_ _ | refine blk_drew ?_ | refine blk_alloc ?_ _)); refine blk_far ?_ NB381_383.out _; (with_reducible repeat (first | refine blk_drewN ?_ _ | refine blk_drew ?_ | refine blk_alloc ?_ _)); refine blk_far ?_ NB381_383.out _; (with_reducible repeat (first | refine blk_drewN ?_ _ | refine blk_drew ?_ | refine blk_alloc ?_ _)); exact BK381.out⟩
    have n3_ : Aside0 ((((((((((w12.setCell ⟨gb383, 0, none⟩ (.int .u32 ((rd_T120 l1 x14_1).f0))).setCell ⟨gb383, 1, none⟩ (.int .u32 ((rd_T120 l1 x14_1).f1))).setCell ⟨gb383, 2, none⟩ (.int .u32 ((rd_T120 l1 x14_1).f2))).setCell ⟨gb383, 3, none⟩ (.int .u32 ((rd_T120 l1 x14_1).f3))).setCell ⟨gb383, 4, none⟩ (.int .u32 ((rd_T120 l1 x14_1).f4))).setCell ⟨gb383, 5, none⟩ (.int .u32 ((rd_T120 l1 x14_1).f5))).setCell ⟨gb383, 6, none⟩ (.int .u32 ((rd_T120 l1 x14_1).f6))).setCell ⟨gb383, 7, none⟩ (.int .u32 ((rd_T120 l1 x14_1).f7))).setCell ⟨gb383, 8, none⟩ (.int .i64 ((rd_T120 l1 x14_1).f8))).heap[gb383]? = some (.cells #[.int .u32 ((rd_T120 l1 x14_1).f0), .int .u32 ((rd_T120 l1 x14_1).f1), .int .u32 ((rd_T120 l1 x14_1).f2), .int .u32 ((rd_T120 l1 x14_1).f3), .int .u32 ((rd_T120 l1 x14_1).f4), .int .u32 ((rd_T120 l1 x14_1).f5), .int .u32 ((rd_T120 l1 x14_1).f6), .int .u32 ((rd_T120 l1 x14_1).f7), .int .i64 ((rd_T120 l1 x14_1).f8)] 120 (0, 0))) := ⟨by (with_reducible repeat (first | refine blk_drewN ?_ _ | refine blk_drew ?_ | refine blk_alloc ?_ _)); refine blk_put (cs := #[.int .u32 ((rd_T120 l1 x14_1).f0), .int .u32 ((rd_T120 l1 x14_1).f1), .int .u32 ((rd_T120 l1 x14_1).f2), .int .u32 ((rd_T120 l1 x14_1).f3), .int .u32 ((rd_T120 l1 x14_1).f4), .int .u32 ((rd_T120 l1 x14_1).f5), .int .u32 ((rd_T120 l1 x14_1).f6), .int .u32 ((rd_T120 l1 x14_1).f7), .int .i64 0]) ?_ 8 _ rfl; (with_reducible repeat (first | refine blk_drewN ?_ _ | refine blk_drew ?_ | refine blk_alloc ?_ _)); refine blk_put (cs := #[.int .u32 ((rd_T120 l1 x14_1).f0), .int .u32 ((rd_T120 l1 x14_1).f1), .int .u32 ((rd_T120 l1 x14_1).f2), .int .u32 ((rd_T120 l1 x14_1).f3), .int .u32 ((rd_T120 l1 x14_1).f4), .int .u32 ((rd_T120 l1 x14_1).f5), .int .u32 ((rd_T120 l1 x14_1).f6), .int .u32 0, .int .i64 0]) ?_ 7 _ rfl; (with_reducible repeat (first | refine blk_drewN ?_ _ | refine blk_drew ?_ | refine blk_alloc ?_ _)); refine blk_put (cs := #[.int .u32 ((rd_T120 l1 x14_1).f0), .int .u32 ((rd_T120 l1 x14_1).f1), .int .u32 ((rd_T120 l1 x14_1).f2), .int .u32 ((rd_T120 l1 x14_1).f3), .int .u32 ((rd_T120 l1 x14_1).f4), .int .u32 ((rd_T120 l1 x14_1).f5), .int .u32 0, .int .u32 0, .int .i64 0]) ?_ 6 _ rfl; (with_reducible repeat (first | refine blk_drewN ?_ _ | refine blk_drew ?_ | refine blk_alloc ?_ _)); refine blk_put (cs := #[.int .u32 ((rd_T120 l1 x14_1).f0), .int .u32 ((rd_T120 l1 x14_1).f1), .int .u32 ((rd_T120 l1 x14_1).f2), .int .u32 ((rd_T120 l1 x14_1).f3), .int .u32 ((rd_T120 l1 x14_1).f4), .int .u32 0, .int .u32 0, .int .u32 0, .int .i64 0]) ?_ 5 _ rfl; (with_reducible repeat (first | refine blk_drewN ?_ _ | refine blk_drew ?_ | refine blk_alloc ?_ _)); refine blk_put (cs := #[.int .u32 ((rd_T120 l1 x14_1).f0), .int .u32 ((rd_T120 l1 x14_1).f1), .int .u32 ((rd_T120 l1 x14_1).f2), .int .u32 ((rd_T120 l1 x14_1).f3), .int .u32 0, .int .u32 0, .int .u32 0, .int .u32 0, .int .i64 0]) ?_ 4 _ rfl; (with_reducible repeat (first | refine blk_drewN ?_ _ | refine blk_drew ?_ | refine blk_alloc ?_ _)); refine blk_put (cs := #[.int .u32 ((rd_T120 l1 x14_1).f0), .int .u32 ((rd_T120 l1 x14_1).f1), .int .u32 ((rd_T120 l1 x14_1).f2), .int .u32 0, .int .u32 0, .int .u32 0, .int .u32 0, .int .u32 0, .int .i64 0]) ?_ 3 _ rfl; (with_reducible repeat (first | refine blk_drewN ?_ _ | refine blk_drew ?_ | refine blk_alloc ?_ _)); refine blk_put (cs := #[.int .u32 ((rd_T120 l1 x14_1).f0), .int .u32 ((rd_T120 l1 x14_1).f1), .int .u32 0, .int .u32 0, .int .u32 0, .int .u32 0, .int .u32 0, .int .u32 0, .int .i64 0]) ?_ 2 _ rfl; (with_reducible repeat (first | refine blk_drewN ?_ _ | refine blk_drew ?_ | refine blk_alloc ?_ _)); refine blk_put (cs := #[.int .u32 ((rd_T120 l1 x14_1).f0), .int .u32 0, .int .u32 0, .int .u32 0, .int .u32 0, .int .u32 0, .int .u32 0, .int .u32 0, .int .i64 0]) ?_ 1 _ rfl; (with_reducible repeat (first | refine blk_drewN ?_ _ | refine blk_drew ?_ | refine blk_alloc ?_ _)); refine blk_put (cs := #[.int .u32 0, .int .u32 0, .int .u32 0, .int .u32 0, .int .u32 0, .int .u32 0, .int .u32 0, .int .u32 0, .int .i64 0]) ?_ 0 _ rfl; (with_reducible repeat (first | refine blk_drewN ?_ _ | refine blk_drew ?_ | refine blk_alloc ?_ _)); exact BK383.out⟩
    have n4_ : Aside0 (Below w.heap.size w (((((((((w12.setCell ⟨gb383, 0, none⟩ (.int .u32 ((rd_T120 l1 x14_1).f0))).setCell ⟨gb383, 1, none⟩ (.int .u32 ((rd_T120 l1 x14_1).f1))).setCell ⟨gb383, 2, none⟩ (.int .u32 ((rd_T120 l1 x14_1).f2))).setCell ⟨gb383, 3, none⟩ (.int .u32 ((rd_T120 l1 x14_1).f3))).setCell ⟨gb383, 4, none⟩ (.int .u32 ((rd_T120 l1 x14_1).f4))).setCell ⟨gb383, 5, none⟩ (.int .u32 ((rd_T120 l1 x14_1).f5))).setCell ⟨gb383, 6, none⟩ (.int .u32 ((rd_T120 l1 x14_1).f6))).setCell ⟨gb383, 7, none⟩ (.int .u32 ((rd_T120 l1 x14_1).f7))).setCell ⟨gb383, 8, none⟩ (.int .i64 ((rd_T120 l1 x14_1).f8)))) := ⟨by repeat (first | (with_reducible first | exact HB.out | apply below_alloc | apply pw_below_drewN | apply below_drew1 | refine below_set ?_ GE380.out | refine below_set ?_ GE381.out | refine below_set ?_ GE383.out) | exact HB.out)⟩
    (try clear HO_382007)
    (try clear BK380)
    (try clear BK381)
    (try clear BK383)
    (try clear HB)
    generalize (((((((((w12.setCell ⟨gb383, 0, none⟩ (.int .u32 ((rd_T120 l1 x14_1).f0))).setCell ⟨gb383, 1, none⟩ (.int .u32 ((rd_T120 l1 x14_1).f1))).setCell ⟨gb383, 2, none⟩ (.int .u32 ((rd_T120 l1 x14_1).f2))).setCell ⟨gb383, 3, none⟩ (.int .u32 ((rd_T120 l1 x14_1).f3))).setCell ⟨gb383, 4, none⟩ (.int .u32 ((rd_T120 l1 x14_1).f4))).setCell ⟨gb383, 5, none⟩ (.int .u32 ((rd_T120 l1 x14_1).f5))).setCell ⟨gb383, 6, none⟩ (.int .u32 ((rd_T120 l1 x14_1).f6))).setCell ⟨gb383, 7, none⟩ (.int .u32 ((rd_T120 l1 x14_1).f7))).setCell ⟨gb383, 8, none⟩ (.int .i64 ((rd_T120 l1 x14_1).f8))) = w16 at n0_ n1_ n2_ n3_ n4_ ⊢
    have HO_382007 := n0_
    have BK380 := n1_
    have BK381 := n2_
    have BK383 := n3_
    have HB := n4_
    clear n0_ n1_ n2_ n3_ n4_
    have n0_ := Aside0.mk (Kd.R_drew HO_382007.out)
    have n1_ := Aside0.mk (blk_drew BK380.out)
    have n2_ := Aside0.mk (blk_drew BK381.out)
    have n3_ := Aside0.mk (blk_drew BK383.out)
    have n4_ := Aside0.mk (below_drew1 HB.out)
    clear HO_382007
    clear BK380
    clear BK381
    clear BK383
    clear HB
    have HO_382007 := n0_
    have BK380 := n1_
    have BK381 := n2_
    have BK383 := n3_
    have HB := n4_
    clear n0_ n1_ n2_ n3_ n4_
    refine start_ (n := 9) (S := fun w' => w'.cell? ⟨gb381, 0, none⟩ = some (.string a0) ∧ w'.cell? ⟨gb381, 1, none⟩ = some (.int .i64 6) ∧ w'.cell? ⟨gb381, 2, none⟩ = some (.bool false) ∧ w'.cell? ⟨gb381, 3, none⟩ = some (.int .i64 0) ∧ w'.cell? ⟨gb381, 4, none⟩ = some (.int .u64 0) ∧ w'.cell? ⟨gb381, 5, none⟩ = some (.float .f64 0) ∧ w'.cell? ⟨gb381, 6, none⟩ = some (.string (⟨#[]⟩ : ByteArray)) ∧ w'.cell? ⟨gb381, 7, none⟩ = some (u382007) ∧ w'.cell? ⟨gb383, 0, none⟩ = some (.int .u32 ((rd_T120 l1 x14_1).f0)) ∧ w'.cell? ⟨gb383, 1, none⟩ = some (.int .u32 ((rd_T120 l1 x14_1).f1)) ∧ w'.cell? ⟨gb383, 2, none⟩ = some (.int .u32 ((rd_T120 l1 x14_1).f2)) ∧ w'.cell? ⟨gb383, 3, none⟩ = some (.int .u32 ((rd_T120 l1 x14_1).f3)) ∧ w'.cell? ⟨gb383, 4, none⟩ = some (.int .u32 ((rd_T120 l1 x14_1).f4)) ∧ w'.cell? ⟨gb383, 5, none⟩ = some (.int .u32 ((rd_T120 l1 x14_1).f5)) ∧ w'.cell? ⟨gb383, 6, none⟩ = some (.int .u32 ((rd_T120 l1 x14_1).f6)) ∧ w'.cell? ⟨gb383, 7, none⟩ = some (.int .u32 ((rd_T120 l1 x14_1).f7)) ∧ w'.cell? ⟨gb383, 8, none⟩ = some (.int .i64 ((rd_T120 l1 x14_1).f8))) (ds := [8]) (bb [0, 9]) (by kernel_rfl) rfl rfl ⟨(blk_cell BK381.out 0).trans rfl, (blk_cell BK381.out 1).trans rfl, (blk_cell BK381.out 2).trans rfl, (blk_cell BK381.out 3).trans rfl, (blk_cell BK381.out 4).trans rfl, (blk_cell BK381.out 5).trans rfl, (blk_cell BK381.out 6).trans rfl, (blk_cell BK381.out 7).trans rfl, (blk_cell BK383.out 0).trans rfl, (blk_cell BK383.out 1).trans rfl, (blk_cell BK383.out 2).trans rfl, (blk_cell BK383.out 3).trans rfl, (blk_cell BK383.out 4).trans rfl, (blk_cell BK383.out 5).trans rfl, (blk_cell BK383.out 6).trans rfl, (blk_cell BK383.out 7).trans rfl, (blk_cell BK383.out 8).trans rfl⟩ (fun hHeld => ?_); refine with_tabW procfs_SoftnetStat.tab5 procfs_SoftnetStat.bits5 (fun HT_ HW_ => ?_)
    generalize w16.drew = w17 at HO_382007 BK380 BK381 BK383 HB hHeld ⊢
    refine pure_ (i := 0) (N := some 18) (v := ?_) (a' := ?_) (bb [1, 8]) rfl rfl (any_of HT_.out (by kernel_rfl)) (fun _ _ _ h => h) (Or.inl ⟨by rfl, ?_⟩) ?_ ?_
    rotate_left
    ·intro w'
     go_simp
     with_reducible rfl
    rotate_left
    ·simp only [Act.put, List.setIfInBounds_toArray, List.set_cons_zero, List.set_cons_succ, i64_w, i32_w]
     rfl
    refine pure_ (i := 2) (N := some 20) (v := ?_) (a' := ?_) (bb [1, 1, 1, 6]) rfl rfl (any_of HT_.out (by kernel_rfl)) (fun _ _ _ h => h) (Or.inl ⟨by rfl, ?_⟩) ?_ ?_
    rotate_left
    ·intro w'
     go_simp
     with_reducible rfl
    rotate_left
    ·simp only [Act.put, List.setIfInBounds_toArray, List.set_cons_zero, List.set_cons_succ, i64_w, i32_w]
     rfl
    refine take_ (i := 1) (N := some 19) (v := ?_) (a' := ?_) (bb [3, 6]) rfl rfl (take_ofW HT_.out HW_.out (by kernel_rfl)) (fun _ _ _ h => h) (Or.inl ⟨by rfl, ?_⟩) hHeld ?_ ?_
    rotate_left
    ·rintro w' ⟨s0, s1, s2, s3, s4, s5, s6, s7, s8, s9, s10, s11, s12, s13, s14, s15, s16⟩
     go_simp
     with_reducible rfl
    rotate_left
    ·simp only [Act.put, List.setIfInBounds_toArray, List.set_cons_zero, List.set_cons_succ, i64_w, i32_w]
     rfl
    refine take_ (i := 3) (N := some 21) (v := ?_) (a' := ?_) (bb [4, 5]) rfl rfl (take_ofW HT_.out HW_.out (by kernel_rfl)) (fun _ _ _ h => h) (Or.inl ⟨by rfl, ?_⟩) hHeld ?_ ?_
    rotate_left
    ·rintro w' ⟨s0, s1, s2, s3, s4, s5, s6, s7, s8, s9, s10, s11, s12, s13, s14, s15, s16⟩
     go_simp
     with_reducible rfl
    rotate_left
    ·simp only [Act.put, List.setIfInBounds_toArray, List.set_cons_zero, List.set_cons_succ, i64_w, i32_w]
     rfl
    refine one_ (i := 4) (N := some 22) (bb [5, 4]) rfl rfl (one_of HT_.out (by kernel_rfl)) (by decide) (fun K hK => ?_)
    refine goesV_ Tryz.func102 (by kernel_rfl) rfl #[.agg #[.int .u32 ((rd_T120 l1 x14_1).f0), .int .u32 ((rd_T120 l1 x14_1).f1), .int .u32 ((rd_T120 l1 x14_1).f2), .int .u32 ((rd_T120 l1 x14_1).f3), .int .u32 ((rd_T120 l1 x14_1).f4), .int .u32 ((rd_T120 l1 x14_1).f5), .int .u32 ((rd_T120 l1 x14_1).f6), .int .u32 ((rd_T120 l1 x14_1).f7), .int .i64 ((rd_T120 l1 x14_1).f8)]] (by rfl) rfl rfl (by rfl) (by (try simp only [List.map_toArray, List.map_cons, List.map_nil]); first | done | rfl | (simp only [List.length_drop, List.length_take]; rfl)) ?_
    with_reducible refine (impl_Softnet_1_1.calls ((rd_T120 l1 x14_1).f0) ((rd_T120 l1 x14_1).f1) ((rd_T120 l1 x14_1).f2) ((rd_T120 l1 x14_1).f3) ((rd_T120 l1 x14_1).f4) ((rd_T120 l1 x14_1).f5) ((rd_T120 l1 x14_1).f6) ((rd_T120 l1 x14_1).f7) ((rd_T120 l1 x14_1).f8) t384 t385 t386 t387 t388 t389 t390 t391 _ A10.out).mono ?_
    rintro e w18 ⟨v392, rfl, ho0, hb⟩
    refine ⟨_, rfl, ?_⟩
    have n0_ := Aside0.mk (Kd.R_elder' (by (with_reducible repeat (first | apply Kd.R_alloc | apply Kd.R_drewN | apply Kd.R_drew)); exact HO_382007.out) (by first | exact Kd.R_base ho0 | exact Kd.R_base ho0) hb)
    have n1_ := Aside0.mk (Kd.R_lower (Kd.R_newB (Kd.R_newB (Kd.R_new' ho0 (Kd.R_lt (by (with_reducible repeat (first | apply Kd.R_alloc | apply Kd.R_drewN | apply Kd.R_drew)); exact HO_382007.out))) (g := gb380) (o := .cells #[.string (⟨#[]⟩ : ByteArray), .int .i64 0, .bool false, .int .i64 0, .int .u64 0, .float .f64 0, .string (⟨#[]⟩ : ByteArray), .slice none 0 0] 43 (0, 0)) (by (with_reducible repeat (first | refine blk_drewN ?_ _ | refine blk_drew ?_ | refine blk_alloc ?_ _)); exact BK380.out)) (g := gb381) (o := .cells #[.string a0, .int .i64 6, .bool false, .int .i64 0, .int .u64 0, .float .f64 0, .string (⟨#[]⟩ : ByteArray), u382007] 43 (0, 0)) (by (with_reducible repeat (first | refine blk_drewN ?_ _ | refine blk_drew ?_ | refine blk_alloc ?_ _)); exact BK381.out)) (below_size (by repeat (first | (with_reducible first | exact HB.out | apply below_alloc | apply pw_below_drewN | apply below_drew1 | refine below_set ?_ GE380.out | refine below_set ?_ GE381.out | refine below_set ?_ GE383.out) | exact HB.out))))
    have n2_ := Aside0.mk (blk_below (g := gb380) (o := .cells #[.string (⟨#[]⟩ : ByteArray), .int .i64 0, .bool false, .int .i64 0, .int .u64 0, .float .f64 0, .string (⟨#[]⟩ : ByteArray), .slice none 0 0] 43 (0, 0)) (by (with_reducible repeat (first | refine blk_drewN ?_ _ | refine blk_drew ?_ | refine blk_alloc ?_ _)); exact BK380.out) hb)
    have n3_ := Aside0.mk (blk_below (g := gb381) (o := .cells #[.string a0, .int .i64 6, .bool false, .int .i64 0, .int .u64 0, .float .f64 0, .string (⟨#[]⟩ : ByteArray), u382007] 43 (0, 0)) (by (with_reducible repeat (first | refine blk_drewN ?_ _ | refine blk_drew ?_ | refine blk_alloc ?_ _)); exact BK381.out) hb)
    have n4_ := Aside0.mk (blk_below (g := gb383) (o := .cells #[.int .u32 ((rd_T120 l1 x14_1).f0), .int .u32 ((rd_T120 l1 x14_1).f1), .int .u32 ((rd_T120 l1 x14_1).f2), .int .u32 ((rd_T120 l1 x14_1).f3), .int .u32 ((rd_T120 l1 x14_1).f4), .int .u32 ((rd_T120 l1 x14_1).f5), .int .u32 ((rd_T120 l1 x14_1).f6), .int .u32 ((rd_T120 l1 x14_1).f7), .int .i64 ((rd_T120 l1 x14_1).f8)] 120 (0, 0)) (by (with_reducible repeat (first | refine blk_drewN ?_ _ | refine blk_drew ?_ | refine blk_alloc ?_ _)); exact BK383.out) hb)
    have n5_ := Aside0.mk (below_step (by repeat (first | (with_reducible first | exact HB.out | apply below_alloc | apply pw_below_drewN | apply below_drew1 | refine below_set ?_ GE380.out | refine below_set ?_ GE381.out | refine below_set ?_ GE383.out) | exact HB.out)) hb)
    clear HO_382007
    clear BK380
    clear BK381
    clear BK383
    clear HB
    have HO_382007 := n0_
    have HO393 := n1_
    have BK380 := n2_
    have BK381 := n3_
    have BK383 := n4_
    have HB := n5_
    clear n0_ n1_ n2_ n3_ n4_ n5_
    (try clear hb)
    (try clear hb2)
    (try clear hk)
    (try clear hi)
    (try clear ho0)
    obtain ⟨Ao20, co20, eo20⟩ := Kd.R_slice HO393.out
    (first | subst eo20 | (injection eo20 with f1_ f2_ f3_; have f4_ := f1_.symm; have f5_ := f3_.symm; clear f1_ f2_ f3_; subst f4_; subst f5_))
    refine hK.out _ _ ⟨(blk_cell BK381.out 0).trans rfl, (blk_cell BK381.out 1).trans rfl, (blk_cell BK381.out 2).trans rfl, (blk_cell BK381.out 3).trans rfl, (blk_cell BK381.out 4).trans rfl, (blk_cell BK381.out 5).trans rfl, (blk_cell BK381.out 6).trans rfl, (blk_cell BK381.out 7).trans rfl, (blk_cell BK383.out 0).trans rfl, (blk_cell BK383.out 1).trans rfl, (blk_cell BK383.out 2).trans rfl, (blk_cell BK383.out 3).trans rfl, (blk_cell BK383.out 4).trans rfl, (blk_cell BK383.out 5).trans rfl, (blk_cell BK383.out 6).trans rfl, (blk_cell BK383.out 7).trans rfl, (blk_cell BK383.out 8).trans rfl⟩ (fun hHeld => ?_)
    clear hK K
    refine norm_ (a' := ?_) ?_ ?_
    rotate_left
    ·show Act.put _ (some 22) _ = _
     simp only [Act.put, List.setIfInBounds_toArray, List.set_cons_zero, List.set_cons_succ, i64_w, i32_w]
     rfl
    refine one_ (i := 5) (N := some 23) (bb [6, 3]) rfl rfl (one_of HT_.out (by kernel_rfl)) (by decide) (fun K hK => ?_)
    refine value_ (w1 := ?_) (v := ?_) (by rfl) rfl ?_ ?_
    rotate_left 2
    ·go_simp
     constructor
     ·rfl
     ·rfl
    refine hK.out _ _ ⟨(blk_cell (blk_alloc BK381.out _) 0).trans rfl, (blk_cell (blk_alloc BK381.out _) 1).trans rfl, (blk_cell (blk_alloc BK381.out _) 2).trans rfl, (blk_cell (blk_alloc BK381.out _) 3).trans rfl, (blk_cell (blk_alloc BK381.out _) 4).trans rfl, (blk_cell (blk_alloc BK381.out _) 5).trans rfl, (blk_cell (blk_alloc BK381.out _) 6).trans rfl, (blk_cell (blk_alloc BK381.out _) 7).trans rfl, (blk_cell (blk_alloc BK383.out _) 0).trans rfl, (blk_cell (blk_alloc BK383.out _) 1).trans rfl, (blk_cell (blk_alloc BK383.out _) 2).trans rfl, (blk_cell (blk_alloc BK383.out _) 3).trans rfl, (blk_cell (blk_alloc BK383.out _) 4).trans rfl, (blk_cell (blk_alloc BK383.out _) 5).trans rfl, (blk_cell (blk_alloc BK383.out _) 6).trans rfl, (blk_cell (blk_alloc BK383.out _) 7).trans rfl, (blk_cell (blk_alloc BK383.out _) 8).trans rfl⟩ (fun hHeld => ?_)
    clear hK K
    refine norm_ (a' := ?_) ?_ ?_
    rotate_left
    ·show Act.put _ (some 23) _ = _
     simp only [Act.put, List.setIfInBounds_toArray, List.set_cons_zero, List.set_cons_succ, i64_w, i32_w]
     rfl
    refine one_ (i := 6) (N := some 24) (bb [7, 2]) rfl rfl (one_of HT_.out (by kernel_rfl)) (by decide) (fun K hK => ?_)
    refine Kd.R_append_step k43 (w0 := w) w.heap.size (by rfl) (.tmp 19) (.tmp 23) 41 43 (.agg #[(.string ⟨#[]⟩), (.int .i64 0), (.bool false), (.int .i64 0), (.int .u64 0), (.float .f64 0), (.string ⟨#[]⟩), (.slice none 0 0)]) 96 rfl Tryz.underlying41 info43 rfl (by decide) (by omega) u382007 x382007_1 (⟨t384, t385, t386, t387, t388, t389, t390, t391⟩ : S43) [.string t384, .int .i64 t385, .bool t386, .int .i64 t387, .int .u64 t388, .float .f64 t389, .string t390, .slice Ao20 t391.length co20] (fun k_ => k_ ≠ gb380 ∧ k_ ≠ gb381) (fun k_ => ((fun k_ => k_ ≠ gb380 ∧ k_ ≠ gb381)) k_ ∧ some k_ ≠ (u382007 : Value).ownBlock) rfl rfl ?aP (fun _ hk => hk) ?aF ?aO ?aB ?aS ?aL ?_
    (case aP => exact k43_mkM _ _ _ (⟨t384, t385, t386, t387, t388, t389, t390, t391⟩ : S43) (Kd.R_mono (HO393.out) (fun k_ hk => ⟨⟨hk.1.2, hk.2⟩, hk.1.1.2⟩)))
    (case aB => exact (by repeat (first | (with_reducible first | exact HB.out | apply below_alloc | apply pw_below_drewN | apply below_drew1 | refine below_set ?_ GE380.out | refine below_set ?_ GE381.out | refine below_set ?_ GE383.out) | exact HB.out)))
    (case aF => exact (fun k_ hk => ⟨Kd.freshB (g := gb380) (o := .cells #[.string (⟨#[]⟩ : ByteArray), .int .i64 0, .bool false, .int .i64 0, .int .u64 0, .float .f64 0, .string (⟨#[]⟩ : ByteArray), .slice none 0 0] 43 (0, 0)) (by (with_reducible repeat (first | refine blk_drewN ?_ _ | refine blk_drew ?_ | refine blk_alloc ?_ _)); exact BK380.out) k_ hk, Kd.freshB (g := gb381) (o := .cells #[.string a0, .int .i64 6, .bool false, .int .i64 0, .int .u64 0, .float .f64 0, .string (⟨#[]⟩ : ByteArray), u382007] 43 (0, 0)) (by (with_reducible repeat (first | refine blk_drewN ?_ _ | refine blk_drew ?_ | refine blk_alloc ?_ _)); exact BK381.out) k_ hk⟩))
    (case aO => exact (by (with_reducible repeat (first | apply Kd.R_alloc | apply Kd.R_drewN | apply Kd.R_drew)); exact Kd.R_mono HO_382007.out (fun _ hk => ⟨hk.1.1, hk.1.2⟩)))
    (case aS => exact (below_size (by repeat (first | (with_reducible first | exact HB.out | apply below_alloc | apply pw_below_drewN | apply below_drew1 | refine below_set ?_ GE380.out | refine below_set ?_ GE381.out | refine below_set ?_ GE383.out) | exact HB.out))))
    (case aL => have := LMc11.out; omega)
    intro v395 w19 ho hb hg hat
    rw [← Ny394.out] at ho
    have n0_ := Aside0.mk (blk_grown (g := gb380) (o := .cells #[.string (⟨#[]⟩ : ByteArray), .int .i64 0, .bool false, .int .i64 0, .int .u64 0, .float .f64 0, .string (⟨#[]⟩ : ByteArray), .slice none 0 0] 43 (0, 0)) (by (with_reducible repeat (first | refine blk_drewN ?_ _ | refine blk_drew ?_ | refine blk_alloc ?_ _)); exact BK380.out) hg (Kd.R_away HO_382007.out (fun _ hk => hk.1.1)))
    have n1_ := Aside0.mk (blk_grown (g := gb381) (o := .cells #[.string a0, .int .i64 6, .bool false, .int .i64 0, .int .u64 0, .float .f64 0, .string (⟨#[]⟩ : ByteArray), u382007] 43 (0, 0)) (by (with_reducible repeat (first | refine blk_drewN ?_ _ | refine blk_drew ?_ | refine blk_alloc ?_ _)); exact BK381.out) hg (Kd.R_away HO_382007.out (fun _ hk => hk.1.2)))
    have n2_ := Aside0.mk (blk_grown (g := gb383) (o := .cells #[.int .u32 ((rd_T120 l1 x14_1).f0), .int .u32 ((rd_T120 l1 x14_1).f1), .int .u32 ((rd_T120 l1 x14_1).f2), .int .u32 ((rd_T120 l1 x14_1).f3), .int .u32 ((rd_T120 l1 x14_1).f4), .int .u32 ((rd_T120 l1 x14_1).f5), .int .u32 ((rd_T120 l1 x14_1).f6), .int .u32 ((rd_T120 l1 x14_1).f7), .int .i64 ((rd_T120 l1 x14_1).f8)] 120 (0, 0)) (by (with_reducible repeat (first | refine blk_drewN ?_ _ | refine blk_drew ?_ | refine blk_alloc ?_ _)); exact BK383.out) hg (Kd.R_ne HO_382007.out BK383.out (by decide)))
    have n3_ := Aside0.mk (hb)
    have n4_ := Aside0.mk (ho)
    clear BK380
    clear BK381
    clear BK383
    clear HB
    clear HO_382007
    clear HO393
    have BK380 := n0_
    have BK381 := n1_
    have BK383 := n2_
    have HB := n3_
    have HO396 := n4_
    clear n0_ n1_ n2_ n3_ n4_
    clear ho hb hg hat
    obtain ⟨Ao21, co21, eo21⟩ := Kd.R_slice HO396.out
    (first | subst eo21 | (injection eo21 with f1_ f2_ f3_; have f4_ := f1_.symm; have f5_ := f3_.symm; clear f1_ f2_ f3_; subst f4_; subst f5_))
    refine hK.out _ _ ⟨(blk_cell BK381.out 0).trans rfl, (blk_cell BK381.out 1).trans rfl, (blk_cell BK381.out 2).trans rfl, (blk_cell BK381.out 3).trans rfl, (blk_cell BK381.out 4).trans rfl, (blk_cell BK381.out 5).trans rfl, (blk_cell BK381.out 6).trans rfl, (blk_cell BK381.out 7).trans rfl, (blk_cell BK383.out 0).trans rfl, (blk_cell BK383.out 1).trans rfl, (blk_cell BK383.out 2).trans rfl, (blk_cell BK383.out 3).trans rfl, (blk_cell BK383.out 4).trans rfl, (blk_cell BK383.out 5).trans rfl, (blk_cell BK383.out 6).trans rfl, (blk_cell BK383.out 7).trans rfl, (blk_cell BK383.out 8).trans rfl⟩ (fun hHeld => ?_)
    clear hK K
    refine norm_ (a' := ?_) ?_ ?_
    rotate_left
    ·show Act.put _ (some 24) _ = _
     simp only [Act.put, List.setIfInBounds_toArray, List.set_cons_zero, List.set_cons_succ, i64_w, i32_w]
     rfl
    refine pure_ (i := 7) (N := some 25) (v := ?_) (a' := ?_) (bb [8, 1]) rfl rfl (any_of HT_.out (by kernel_rfl)) (fun _ _ _ h => h) (Or.inl ⟨by rfl, ?_⟩) ?_ ?_
    rotate_left
    ·intro w'
     go_simp
     with_reducible rfl
    rotate_left
    ·simp only [Act.put, List.setIfInBounds_toArray, List.set_cons_zero, List.set_cons_succ, i64_w, i32_w]
     rfl
    refine last_ (i := 8) (N := none) (bb [9]) rfl rfl (one_of HT_.out (by kernel_rfl)) (by decide) (fun K hK => ?_)
    have hs22 : w19.cell? ⟨gb381, 7, none⟩ = some (u382007) := (blk_cell BK381.out 7).trans rfl
    have hfs22 := blk_frozen BK381.out 7
    have hns22_0 := NB380_381.out
    have hns22_2 := NB383_381.out
    have hms22_0 := NB381_380.out
    have hms22_2 := NB381_383.out
    refine skip_ (w1 := ?_) (by rfl) rfl ?_ ?_
    rotate_left
    ·go_simp
     rfl
    refine hK.out _ _ ?_
    clear hK K
    refine done_ (done_of HT_.out (by kernel_rfl)) ?_
    try go_wp2
    go_roundg k1
    case measure => have := HK1.out; omega
    case rel => exact ⟨(wrap64 (x14_1 + 1)), (y394), (.slice Ao21 y394.length co21), (by first | rfl | (simp; done) | (simp [*]; done)), H', ⟨by have := HK1.out; omega⟩, ⟨by (with_reducible repeat (first | apply Kd.R_alloc | apply Kd.R_drewN | apply Kd.R_drew)); exact Kd.R_mono (Kd.R_far (p := ⟨gb381, 7, none⟩) (Kd.R_mono HO396.out (fun k_ hk => (⟨hk, hk.2⟩ : _ ∧ k_ ≠ gb381))) (fun _ hk => hk.2) (.slice Ao21 y394.length co21)) (fun _ hk => ⟨hk.1.1, hk.1.2⟩)⟩, ⟨by (with_reducible repeat (first | refine blk_drewN ?_ _ | refine blk_drew ?_ | refine blk_alloc ?_ _)); refine blk_far ?_ NB380_381.out _; (with_reducible repeat (first | refine blk_drewN ?_ _ | refine blk_drew ?_ | refine blk_alloc ?_ _)); exact BK380.out⟩, ⟨by (with_reducible repeat (first | refine blk_drewN ?_ _ | refine blk_drew ?_ | refine blk_alloc ?_ _)); refine blk_put (cs := #[.string a0, .int .i64 6, .bool false, .int .i64 0, .int .u64 0, .float .f64 0, .string (⟨#[]⟩ : ByteArray), u382007]) ?_ 7 _ rfl; (with_reducible repeat (first | refine blk_drewN ?_ _ | refine blk_drew ?_ | refine blk_alloc ?_ _)); exact BK381.out⟩, ⟨by repeat (first | (with_reducible first | exact HB.out | apply below_alloc | apply pw_below_drewN | apply below_drew1 | refine below_set ?_ GE380.out | refine below_set ?_ GE381.out | refine below_set ?_ GE383.out) | exact HB.out)⟩⟩
   ·rw [if_neg c7] at H
    have c7b0 : decide (x14_1 < (l1.length : Int)) = false := decide_eq_false c7
    clear c7
    simp only [Option.some.injEq, Prod.mk.injEq] at H
    obtain ⟨rfl, rfl, rfl, rfl, rfl, rfl, rfl, rfl⟩ := H
    have hnb23 := NB381_380.out
    have hnc23 := NB380_381.out
    have hcz24_0 : wr.cell? ⟨gb381, 0, none⟩ = some (.string a0) := (blk_cell BK381.out 0).trans rfl
    have hcz24_1 : wr.cell? ⟨gb381, 1, none⟩ = some (.int .i64 6) := (blk_cell BK381.out 1).trans rfl
    have hcz24_2 : wr.cell? ⟨gb381, 2, none⟩ = some (.bool false) := (blk_cell BK381.out 2).trans rfl
    have hcz24_3 : wr.cell? ⟨gb381, 3, none⟩ = some (.int .i64 0) := (blk_cell BK381.out 3).trans rfl
    have hcz24_4 : wr.cell? ⟨gb381, 4, none⟩ = some (.int .u64 0) := (blk_cell BK381.out 4).trans rfl
    have hcz24_5 : wr.cell? ⟨gb381, 5, none⟩ = some (.float .f64 0) := (blk_cell BK381.out 5).trans rfl
    have hcz24_6 : wr.cell? ⟨gb381, 6, none⟩ = some (.string (⟨#[]⟩ : ByteArray)) := (blk_cell BK381.out 6).trans rfl
    have hcz24_7 : wr.cell? ⟨gb381, 7, none⟩ = some (u382007) := (blk_cell BK381.out 7).trans rfl
    have hfz24_0 := blk_frozen BK381.out 0
    have hfz24_1 := blk_frozen BK381.out 1
    have hfz24_2 := blk_frozen BK381.out 2
    have hfz24_3 := blk_frozen BK381.out 3
    have hfz24_4 := blk_frozen BK381.out 4
    have hfz24_5 := blk_frozen BK381.out 5
    have hfz24_6 := blk_frozen BK381.out 6
    have hfz24_7 := blk_frozen BK381.out 7
    have hcz25_0 : wr.cell? ⟨gb380, 0, none⟩ = some (.string (⟨#[]⟩ : ByteArray)) := (blk_cell BK380.out 0).trans rfl
    have hcz25_1 : wr.cell? ⟨gb380, 1, none⟩ = some (.int .i64 0) := (blk_cell BK380.out 1).trans rfl
    have hcz25_2 : wr.cell? ⟨gb380, 2, none⟩ = some (.bool false) := (blk_cell BK380.out 2).trans rfl
    have hcz25_3 : wr.cell? ⟨gb380, 3, none⟩ = some (.int .i64 0) := (blk_cell BK380.out 3).trans rfl
    have hcz25_4 : wr.cell? ⟨gb380, 4, none⟩ = some (.int .u64 0) := (blk_cell BK380.out 4).trans rfl
    have hcz25_5 : wr.cell? ⟨gb380, 5, none⟩ = some (.float .f64 0) := (blk_cell BK380.out 5).trans rfl
    have hcz25_6 : wr.cell? ⟨gb380, 6, none⟩ = some (.string (⟨#[]⟩ : ByteArray)) := (blk_cell BK380.out 6).trans rfl
    have hcz25_7 : wr.cell? ⟨gb380, 7, none⟩ = some (.slice none 0 0) := (blk_cell BK380.out 7).trans rfl
    have hfz25_0 := blk_frozen BK380.out 0
    have hfz25_1 := blk_frozen BK380.out 1
    have hfz25_2 := blk_frozen BK380.out 2
    have hfz25_3 := blk_frozen BK380.out 3
    have hfz25_4 := blk_frozen BK380.out 4
    have hfz25_5 := blk_frozen BK380.out 5
    have hfz25_6 := blk_frozen BK380.out 6
    have hfz25_7 := blk_frozen BK380.out 7
    obtain ⟨Ao26, co26, eo26⟩ := Kd.R_slice HO_382007.out
    subst eo26
    go_wp2
    refine bodyPost_ret (results_cell_row rfl _ _ gb380 43 #[.string a0, .int .i64 6, .bool false, .int .i64 0, .int .u64 0, .float .f64 0, .string (⟨#[]⟩ : ByteArray), .slice Ao26 x382007_1.length co26] (0, 0) _ rfl (by (with_reducible repeat (first | refine blk_drewN ?_ _ | refine blk_drew ?_ | refine blk_alloc ?_ _)); refine blk_put (cs := #[.string a0, .int .i64 6, .bool false, .int .i64 0, .int .u64 0, .float .f64 0, .string (⟨#[]⟩ : ByteArray), .slice none 0 0]) ?_ 7 _ rfl; (with_reducible repeat (first | refine blk_drewN ?_ _ | refine blk_drew ?_ | refine blk_alloc ?_ _)); refine blk_put (cs := #[.string a0, .int .i64 6, .bool false, .int .i64 0, .int .u64 0, .float .f64 0, .string (⟨#[]⟩ : ByteArray), .slice none 0 0]) ?_ 6 _ rfl; (with_reducible repeat (first | refine blk_drewN ?_ _ | refine blk_drew ?_ | refine blk_alloc ?_ _)); refine blk_put (cs := #[.string a0, .int .i64 6, .bool false, .int .i64 0, .int .u64 0, .float .f64 0, .string (⟨#[]⟩ : ByteArray), .slice none 0 0]) ?_ 5 _ rfl; (with_reducible repeat (first | refine blk_drewN ?_ _ | refine blk_drew ?_ | refine blk_alloc ?_ _)); refine blk_put (cs := #[.string a0, .int .i64 6, .bool false, .int .i64 0, .int .u64 0, .float .f64 0, .string (⟨#[]⟩ : ByteArray), .slice none 0 0]) ?_ 4 _ rfl; (with_reducible repeat (first | refine blk_drewN ?_ _ | refine blk_drew ?_ | refine blk_alloc ?_ _)); refine blk_put (cs := #[.string a0, .int .i64 6, .bool false, .int .i64 0, .int .u64 0, .float .f64 0, .string (⟨#[]⟩ : ByteArray), .slice none 0 0]) ?_ 3 _ rfl; (with_reducible repeat (first | refine blk_drewN ?_ _ | refine blk_drew ?_ | refine blk_alloc ?_ _)); refine blk_put (cs := #[.string a0, .int .i64 6, .bool false, .int .i64 0, .int .u64 0, .float .f64 0, .string (⟨#[]⟩ : ByteArray), .slice none 0 0]) ?_ 2 _ rfl; (with_reducible repeat (first | refine blk_drewN ?_ _ | refine blk_drew ?_ | refine blk_alloc ?_ _)); refine blk_put (cs := #[.string a0, .int .i64 0, .bool false, .int .i64 0, .int .u64 0, .float .f64 0, .string (⟨#[]⟩ : ByteArray), .slice none 0 0]) ?_ 1 _ rfl; (with_reducible repeat (first | refine blk_drewN ?_ _ | refine blk_drew ?_ | refine blk_alloc ?_ _)); refine blk_put (cs := #[.string (⟨#[]⟩ : ByteArray), .int .i64 0, .bool false, .int .i64 0, .int .u64 0, .float .f64 0, .string (⟨#[]⟩ : ByteArray), .slice none 0 0]) ?_ 0 _ rfl; (with_reducible repeat (first | refine blk_drewN ?_ _ | refine blk_drew ?_ | refine blk_alloc ?_ _)); exact BK380.out) Tryz.underlying43 rfl (by kernel_rfl)) rfl ?_
    exact ⟨_, by first | rfl | (simp [errW_none, errW_some] <;> rfl) | (simp [*, errW_none, errW_some] <;> rfl), by (with_reducible repeat (first | apply Kd.R_alloc | apply Kd.R_drewN | apply Kd.R_drew)); exact Kd.R_mono (Kd.R_far (p := ⟨gb380, 7, none⟩) (Kd.R_far (p := ⟨gb380, 6, none⟩) (Kd.R_far (p := ⟨gb380, 5, none⟩) (Kd.R_far (p := ⟨gb380, 4, none⟩) (Kd.R_far (p := ⟨gb380, 3, none⟩) (Kd.R_far (p := ⟨gb380, 2, none⟩) (Kd.R_far (p := ⟨gb380, 1, none⟩) (Kd.R_far (p := ⟨gb380, 0, none⟩) (Kd.R_mono HO_382007.out (fun k_ hk => (⟨hk, hk.1⟩ : _ ∧ k_ ≠ gb380))) (fun _ hk => hk.2) (.string a0)) (fun _ hk => hk.2) (.int .i64 6)) (fun _ hk => hk.2) (.bool false)) (fun _ hk => hk.2) (.int .i64 0)) (fun _ hk => hk.2) (.int .u64 0)) (fun _ hk => hk.2) (.float .f64 0)) (fun _ hk => hk.2) (.string (⟨#[]⟩ : ByteArray))) (fun _ hk => hk.2) (.slice Ao26 x382007_1.length co26)) (fun _ hk => trivial), by repeat (first | (with_reducible first | exact HB.out | apply below_alloc | apply pw_below_drewN | apply below_drew1 | refine below_set ?_ GE380.out | refine below_set ?_ GE381.out) | exact HB.out)⟩
/-! ### impl_Softnet_1: function 100 -/
def impl_Softnet_1.f (k : Nat) (l0 : List (S120)) : Option (ByteArray × Int × Bool × Int × Int × Nat × ByteArray × (List (S43))) := (procfs_SoftnetStat.f k (⟨#[]⟩ : ByteArray) l0).bind fun bt398 => (some (bt398.1, bt398.2.1, bt398.2.2.1, bt398.2.2.2.1, bt398.2.2.2.2.1, bt398.2.2.2.2.2.1, bt398.2.2.2.2.2.2.1, bt398.2.2.2.2.2.2.2))
theorem impl_Softnet_1.mono : ∀ a0 k, LeO (impl_Softnet_1.f k a0) (impl_Softnet_1.f (k + 1) a0) := by
 intro a0 k
 unfold impl_Softnet_1.f
 repeat' first
   | (with_reducible exact procfs_SoftnetStat.mono _ _ _)
   | (with_reducible exact LeO.refl _)
   | (with_reducible exact LeO.none _)
   | (with_reducible refine LeO.ite ?_ ?_)
   | (with_reducible refine LeO.bind ?_ (fun _ => ?_))
   | exact procfs_SoftnetStat.mono _ _ _
   | exact LeO.none _
   | refine LeO.ite ?_ ?_
   | refine LeO.bind ?_ (fun _ => ?_)
set_option maxHeartbeats 8000000 in
set_option maxRecDepth 100000 in
theorem impl_Softnet_1.calls (k : Nat) (A0 : Option Addr) (c0 : Nat) (l0 : List (S120)) (r1 : ByteArray) (r2 : Int) (r3 : Bool) (r4 : Int) (r5 : Int) (r6 : Nat) (r7 : ByteArray) (r8 : List (S43)) (w : World) (hr0 : Kd.C k120 w A0 l0.length l0) (hc0 : l0.length ≤ c0) (h : impl_Softnet_1.f k l0 = some (r1, r2, r3, r4, r5, r6, r7, r8)) :
  Calls Tryz.prog 100 #[.slice A0 l0.length c0] w fun e w' => ∃ v7_ : Value, e = .returned (.agg #[.string r1, .int .i64 r2, .bool r3, .int .i64 r4, .int .u64 r5, .float .f64 r6, .string r7, v7_]) ∧ Kd.R k43 43 w' w.heap.size (fun _ => True) v7_ r8 ∧ Below w.heap.size w w' := by
 have hu43 := Tryz.underlying43
 have HR0 := Aside0.mk hr0
 have HC0 := Aside0.mk hc0
 clear hr0 hc0
 have HB := Aside0.mk (Below.refl w.heap.size w)
 have H : ((procfs_SoftnetStat.f k (⟨#[]⟩ : ByteArray) l0).bind fun bt398 => (some (bt398.1, bt398.2.1, bt398.2.2.1, bt398.2.2.2.1, bt398.2.2.2.2.1, bt398.2.2.2.2.2.1, bt398.2.2.2.2.2.2.1, bt398.2.2.2.2.2.2.2))) = some (r1, r2, r3, r4, r5, r6, r7, r8) := h
 clear h
 replace H := Option.bind_eq_some_iff.mp H
 obtain ⟨⟨t398, t399, t400, t401, t402, t403, t404, t405⟩, A20, H⟩ := H
 replace H : (some (t398, t399, t400, t401, t402, t403, t404, t405)) = some (r1, r2, r3, r4, r5, r6, r7, r8) := H
 have A2 := Aside0.mk A20
 clear A20
 simp only [Option.some.injEq, Prod.mk.injEq] at H
 obtain ⟨rfl, rfl, rfl, rfl, rfl, rfl, rfl, rfl⟩ := H
 go_enter Tryz.func100, Tryz.ntmps100
 go_wp2_with (first | ((with_reducible refine gate_dst (N := 2) rfl ?_); refine box_event ?hg (N := 2) ?hd (cs := #[.string (⟨#[]⟩ : ByteArray), .int .i64 0, .bool false, .int .i64 0, .int .u64 0, .float .f64 0, .string (⟨#[]⟩ : ByteArray), .slice none 0 0]) (t := 43) ?hr ?_; (case hd => rfl); (case hg => rfl); (case hr => first | (go_simp; done) | (go_simp; rfl)); intro gb397 hg w3 hbox hb; have n0_ := Aside0.mk (below_step (by repeat (first | (with_reducible first | exact HB.out | apply below_alloc | apply pw_below_drewN | apply below_drew1) | exact HB.out)) hb); have n1_ := Aside0.mk (hbox); have n2_ := Aside0.mk ((by rw [hg]; exact (below_size (by repeat (first | (with_reducible first | exact HB.out | apply below_alloc | apply pw_below_drewN | apply below_drew1) | exact HB.out))) : w.heap.size ≤ gb397)); have n3_ := Aside0.mk ((by rw [hg]; exact (below_size (by repeat (first | (with_reducible first | exact HB.out | apply below_alloc | apply pw_below_drewN | apply below_drew1) | exact HB.out))) : w.heap.size ≤ gb397)); clear HB; have HB := n0_; have BK397 := n1_; have GW397 := n2_; have GE397 := n3_; clear n0_ n1_ n2_ n3_; clear hb hbox hg) | ((with_reducible refine gate_callee (f := 101) rfl ?_); refine goesL_ (some 4) rfl rfl Tryz.func101 (by kernel_rfl) rfl #[.string (⟨#[]⟩ : ByteArray), .slice A0 l0.length c0, .func (.func 102) #[] #[]] rfl (by (try simp only [List.map_toArray, List.map_cons, List.map_nil]); first | done | rfl | (simp only [List.length_drop, List.length_take]; rfl)) ?_; (with_reducible refine (procfs_SoftnetStat.calls k (⟨#[]⟩ : ByteArray) _ _ l0 t398 t399 t400 t401 t402 t403 t404 t405 _ ?side1 ?side2 A2.out).mono ?_); (case side1 => repeat (first | exact (Kd.C_below HR0.out HB.out) | (with_reducible refine Kd.C_alloc ?_ _) | (with_reducible refine Kd.C_drewN ?_ _) | (with_reducible refine Kd.C_drew ?_))); (case side2 => exact HC0.out); rintro e w4 ⟨v406, rfl, ho0, hb⟩; refine ⟨_, rfl, ?_⟩; have n0_ := Aside0.mk (Kd.R_lower (Kd.R_newB ho0 (g := gb397) (o := .cells #[.string (⟨#[]⟩ : ByteArray), .int .i64 0, .bool false, .int .i64 0, .int .u64 0, .float .f64 0, .string (⟨#[]⟩ : ByteArray), .slice none 0 0] 43 (0, 0)) (by (with_reducible repeat (first | refine blk_drewN ?_ _ | refine blk_drew ?_ | refine blk_alloc ?_ _)); exact BK397.out)) (below_size (by repeat (first | (with_reducible first | exact HB.out | apply below_alloc | apply pw_below_drewN | apply below_drew1 | refine below_set ?_ GE397.out) | exact HB.out)))); have n1_ := Aside0.mk (blk_below (g := gb397) (o := .cells #[.string (⟨#[]⟩ : ByteArray), .int .i64 0, .bool false, .int .i64 0, .int .u64 0, .float .f64 0, .string (⟨#[]⟩ : ByteArray), .slice none 0 0] 43 (0, 0)) (by (with_reducible repeat (first | refine blk_drewN ?_ _ | refine blk_drew ?_ | refine blk_alloc ?_ _)); exact BK397.out) hb); have n2_ := Aside0.mk (below_step (by repeat (first | (with_reducible first | exact HB.out | apply below_alloc | apply pw_below_drewN | apply below_drew1 | refine below_set ?_ GE397.out) | exact HB.out)) hb); clear BK397; clear HB; have HO407 := n0_; have BK397 := n1_; have HB := n2_; clear n0_ n1_ n2_; (try clear hb); (try clear hb2); (try clear hk); (try clear hi); (try clear ho0); have hcz5_0 : w4.cell? ⟨gb397, 0, none⟩ = some (.string (⟨#[]⟩ : ByteArray)) := (blk_cell BK397.out 0).trans rfl; have hcz5_1 : w4.cell? ⟨gb397, 1, none⟩ = some (.int .i64 0) := (blk_cell BK397.out 1).trans rfl; have hcz5_2 : w4.cell? ⟨gb397, 2, none⟩ = some (.bool false) := (blk_cell BK397.out 2).trans rfl; have hcz5_3 : w4.cell? ⟨gb397, 3, none⟩ = some (.int .i64 0) := (blk_cell BK397.out 3).trans rfl; have hcz5_4 : w4.cell? ⟨gb397, 4, none⟩ = some (.int .u64 0) := (blk_cell BK397.out 4).trans rfl; have hcz5_5 : w4.cell? ⟨gb397, 5, none⟩ = some (.float .f64 0) := (blk_cell BK397.out 5).trans rfl; have hcz5_6 : w4.cell? ⟨gb397, 6, none⟩ = some (.string (⟨#[]⟩ : ByteArray)) := (blk_cell BK397.out 6).trans rfl; have hcz5_7 : w4.cell? ⟨gb397, 7, none⟩ = some (.slice none 0 0) := (blk_cell BK397.out 7).trans rfl; have hfz5_0 := blk_frozen BK397.out 0; have hfz5_1 := blk_frozen BK397.out 1; have hfz5_2 := blk_frozen BK397.out 2; have hfz5_3 := blk_frozen BK397.out 3; have hfz5_4 := blk_frozen BK397.out 4; have hfz5_5 := blk_frozen BK397.out 5; have hfz5_6 := blk_frozen BK397.out 6; have hfz5_7 := blk_frozen BK397.out 7; obtain ⟨Ao6, co6, eo6⟩ := Kd.R_slice HO407.out; subst eo6))
 refine bodyPost_ret (results_cell_row rfl _ _ gb397 43 #[.string t398, .int .i64 t399, .bool t400, .int .i64 t401, .int .u64 t402, .float .f64 t403, .string t404, .slice Ao6 t405.length co6] (0, 0) _ rfl (by (with_reducible repeat (first | refine blk_drewN ?_ _ | refine blk_drew ?_ | refine blk_alloc ?_ _)); refine blk_put (cs := #[.string t398, .int .i64 t399, .bool t400, .int .i64 t401, .int .u64 t402, .float .f64 t403, .string t404, .slice none 0 0]) ?_ 7 _ rfl; (with_reducible repeat (first | refine blk_drewN ?_ _ | refine blk_drew ?_ | refine blk_alloc ?_ _)); refine blk_put (cs := #[.string t398, .int .i64 t399, .bool t400, .int .i64 t401, .int .u64 t402, .float .f64 t403, .string (⟨#[]⟩ : ByteArray), .slice none 0 0]) ?_ 6 _ rfl; (with_reducible repeat (first | refine blk_drewN ?_ _ | refine blk_drew ?_ | refine blk_alloc ?_ _)); refine blk_put (cs := #[.string t398, .int .i64 t399, .bool t400, .int .i64 t401, .int .u64 t402, .float .f64 0, .string (⟨#[]⟩ : ByteArray), .slice none 0 0]) ?_ 5 _ rfl; (with_reducible repeat (first | refine blk_drewN ?_ _ | refine blk_drew ?_ | refine blk_alloc ?_ _)); refine blk_put (cs := #[.string t398, .int .i64 t399, .bool t400, .int .i64 t401, .int .u64 0, .float .f64 0, .string (⟨#[]⟩ : ByteArray), .slice none 0 0]) ?_ 4 _ rfl; (with_reducible repeat (first | refine blk_drewN ?_ _ | refine blk_drew ?_ | refine blk_alloc ?_ _)); refine blk_put (cs := #[.string t398, .int .i64 t399, .bool t400, .int .i64 0, .int .u64 0, .float .f64 0, .string (⟨#[]⟩ : ByteArray), .slice none 0 0]) ?_ 3 _ rfl; (with_reducible repeat (first | refine blk_drewN ?_ _ | refine blk_drew ?_ | refine blk_alloc ?_ _)); refine blk_put (cs := #[.string t398, .int .i64 t399, .bool false, .int .i64 0, .int .u64 0, .float .f64 0, .string (⟨#[]⟩ : ByteArray), .slice none 0 0]) ?_ 2 _ rfl; (with_reducible repeat (first | refine blk_drewN ?_ _ | refine blk_drew ?_ | refine blk_alloc ?_ _)); refine blk_put (cs := #[.string t398, .int .i64 0, .bool false, .int .i64 0, .int .u64 0, .float .f64 0, .string (⟨#[]⟩ : ByteArray), .slice none 0 0]) ?_ 1 _ rfl; (with_reducible repeat (first | refine blk_drewN ?_ _ | refine blk_drew ?_ | refine blk_alloc ?_ _)); refine blk_put (cs := #[.string (⟨#[]⟩ : ByteArray), .int .i64 0, .bool false, .int .i64 0, .int .u64 0, .float .f64 0, .string (⟨#[]⟩ : ByteArray), .slice none 0 0]) ?_ 0 _ rfl; (with_reducible repeat (first | refine blk_drewN ?_ _ | refine blk_drew ?_ | refine blk_alloc ?_ _)); exact BK397.out) Tryz.underlying43 rfl (by kernel_rfl)) rfl ?_
 exact ⟨_, by first | rfl | (simp [errW_none, errW_some] <;> rfl) | (simp [*, errW_none, errW_some] <;> rfl), by (with_reducible repeat (first | apply Kd.R_alloc | apply Kd.R_drewN | apply Kd.R_drew)); exact Kd.R_mono (Kd.R_far (p := ⟨gb397, 7, none⟩) (Kd.R_far (p := ⟨gb397, 6, none⟩) (Kd.R_far (p := ⟨gb397, 5, none⟩) (Kd.R_far (p := ⟨gb397, 4, none⟩) (Kd.R_far (p := ⟨gb397, 3, none⟩) (Kd.R_far (p := ⟨gb397, 2, none⟩) (Kd.R_far (p := ⟨gb397, 1, none⟩) (Kd.R_far (p := ⟨gb397, 0, none⟩) (Kd.R_mono HO407.out (fun k_ hk => (⟨hk, hk.2⟩ : _ ∧ k_ ≠ gb397))) (fun _ hk => hk.2) (.string t398)) (fun _ hk => hk.2) (.int .i64 t399)) (fun _ hk => hk.2) (.bool t400)) (fun _ hk => hk.2) (.int .i64 t401)) (fun _ hk => hk.2) (.int .u64 t402)) (fun _ hk => hk.2) (.float .f64 t403)) (fun _ hk => hk.2) (.string t404)) (fun _ hk => hk.2) (.slice Ao6 t405.length co6)) (fun _ hk => trivial), by repeat (first | (with_reducible first | exact HB.out | apply below_alloc | apply pw_below_drewN | apply below_drew1 | refine below_set ?_ GE397.out) | exact HB.out)⟩
end Go.Proofs.YtednjmngalmdkaaGreatDoor.GPC
end
section
/- procfs.parseSoftnet: the rows that a text says, line by line. Conditions: rowsF; the tables as laid. -/
namespace Go.Proofs.YtednjmngalmdkaaGreatDoor.GPC
open Go Go.RowKit Go.Proofs.YtednjmngalmdkaaGreatDoorW.PrintWords Go.Proofs.YtednjmngalmdkaaGreatDoorW.PrintLast
set_option linter.unusedVariables false
set_option linter.unusedSimpArgs false
def snW (fs : List ByteArray) (i : Nat) : ByteArray := rdOf ByteArray.empty fs (i : Int)
def snF (fs : List ByteArray) : Option S120 := if 13 ≤ fs.length ∧ fs.length ≤ 1000 then
 (hx32 (snW fs) 0 9).bind fun a => (hx32 (snW fs) 9 1).bind fun b => (hx32 (snW fs) 10 1).bind fun c => (hx32 (snW fs) 11 2).bind fun d => some ⟨a.getD 0 0, a.getD 1 0, a.getD 2 0, a.getD 8 0, b.getD 0 0, c.getD 0 0, d.getD 0 0, d.getD 1 0, (fs.length : Int)⟩ else none
theorem snF_some {fs : List ByteArray} {m : S120} (h : snF fs = some m) : 13 ≤ fs.length ∧ fs.length ≤ 1000 ∧ ∃ a b c d, hx32 (snW fs) 0 9 = some a ∧ hx32 (snW fs) 9 1 = some b ∧ hx32 (snW fs) 10 1 = some c ∧ hx32 (snW fs) 11 2 = some d ∧
  m = ⟨a.getD 0 0, a.getD 1 0, a.getD 2 0, a.getD 8 0, b.getD 0 0, c.getD 0 0, d.getD 0 0, d.getD 1 0, (fs.length : Int)⟩ := by
 unfold snF at h
 split at h
 ·rename_i hc
  obtain ⟨a, h1, h⟩ := Option.bind_eq_some_iff.1 h
  obtain ⟨b, h2, h⟩ := Option.bind_eq_some_iff.1 h
  obtain ⟨c, h3, h⟩ := Option.bind_eq_some_iff.1 h
  obtain ⟨d, h4, h⟩ := Option.bind_eq_some_iff.1 h
  exact ⟨hc.1, hc.2, a, b, c, d, h1, h2, h3, h4, (Option.some.inj h).symm⟩
 ·cases h
def snL (t : ByteArray) : Option (Option S120) := (strings_Fields.f t).bind fun fs => (snF fs).map some
theorem snL_some {t : ByteArray} {m : Option S120} (h : snL t = some m) : ∃ fs x, strings_Fields.f t = some fs ∧ snF fs = some x ∧ m = some x := by
 unfold snL at h
 obtain ⟨fs, h1, h⟩ := Option.bind_eq_some_iff.1 h
 obtain ⟨x, h2, rfl⟩ := Option.map_eq_some_iff.1 h
 exact ⟨fs, x, h1, h2, rfl⟩
theorem infoSn : (Tryz.prog.info? 120).map (fun i => (i.zero, i.size, i.bytes)) = some (some (.agg #[(.int .u32 0), (.int .u32 0), (.int .u32 0), (.int .u32 0), (.int .u32 0), (.int .u32 0), (.int .u32 0), (.int .u32 0), (.int .i64 0)]), 9, 40) := by kernel_rfl
theorem u32_cell {w : World} {base : Nat} {ok : Nat → Prop} {g cap : Nat} {ns : List Int} (h : (Kd.int .u32).R 118 w base ok (.slice (some ⟨g, 0, none⟩) ns.length cap) ns) (i : Nat) (hi : i < ns.length) :
  w.cell? ⟨g, i, none⟩ = some (.int .u32 (ns.getD i 0)) := by
 have := (Kd.R_cell (0 : Int) h (i : Int) (by omega) (by omega)).1
 unfold rdOf at this
 simpa only [Int.toNat_natCast] using this
theorem slice_str (gs n c lo hi : Nat) (h1 : lo ≤ hi) (h2 : hi ≤ n) (h3 : n ≤ c) (h4 : lo < c) (W : World) :
  (Instr.slice 29 (.slice (some ⟨gs, 0, none⟩) n c) (some (.int .i64 (lo : Int))) (some (.int .i64 (hi : Int))) none).run Tryz.prog W = .ok (.slice (some ⟨gs, lo, none⟩) (hi - lo) (c - lo)) W := by
 have hel : Tryz.prog.elem 29 = 9 := by simp [Program.elem, Tryz.underlying29]
 have hu : Tryz.prog.underlying 29 = some (.slice (Tryz.prog.elem 29)) := by rw [hel]; exact Tryz.underlying29
 have hi0 : (Tryz.prog.info? 9).map (fun i => (i.zero, i.size, i.bytes)) = some (some (.string ⟨#[]⟩), 1, 16) := by kernel_rfl
 obtain ⟨i0, hi0, hz0, hz1, hz2⟩ := info_parts hi0
 rw [run_slice_lh W 29 (some ⟨gs, 0, none⟩) n c hu .i64 .i64 (lo : Int) (hi : Int) (by omega) (by omega) (by omega), hel]
 have hne : c ≠ lo := by omega
 have e1 : (hi : Int).toNat - (lo : Int).toNat = hi - lo := by omega
 simp [sizeOf, typeInfo, hi0, hz1, sliced, Result.andThen, hne, add_plain]
set_option maxHeartbeats 16000000 in
set_option maxRecDepth 100000 in
theorem snParse (k : Nat) (text : ByteArray) (ms : List S120) (w : World) (hT : TabW w) (h : rowsF snL k text = some ms) :
  Calls Tryz.prog 168 #[.string text] w fun e w' => ∃ v, e = .returned (.tuple #[v, .nilIface]) ∧ Kd.R k120 120 w' w.heap.size (fun _ => True) v ms ∧ Below w.heap.size w w' := by
 have HT := Aside0.mk hT
 have HSZ := Aside0.mk (rowsF_size h)
 have H := Aside0.mk h
 clear hT h
 go_enter Tryz.func168, Tryz.ntmps168
 go_wp2_with (first
  | (go_at_call 154; refine (GL.lines_new text _).mono ?_; rintro e w1 ⟨g, rfl, hg1, hg2, hb1⟩; have HB := Aside0.mk hb1; have HG := Aside0.mk hg2; have HG1 := Aside0.mk hg1; clear hg1 hg2 hb1))
 go_loopg [5, 6] k (fun kq v5 v6 w' => ∃ (ci : Int) (t line : ByteArray) (rest done : List S120), v6 = .int .i64 ci ∧ Aside0 (rowsF snL kq t = some rest) ∧ Aside0 (done ++ rest = ms) ∧ Aside0 (t.size = 0 ∨ done.length + t.size ≤ 1000000) ∧
  Aside0 (w'.heap[g]? = some (GL.linesCells t line)) ∧ Aside0 (Kd.R k120 120 w' w.heap.size (fun _ => True) v5 done) ∧ Aside0 (Below w.heap.size w w'))
 case atStart => exact ⟨0, text, _, ms, [], rfl, H, ⟨rfl⟩, ⟨by simpa using HSZ.out⟩, HG, ⟨Kd.R_nil _ _ _ _ _⟩, HB⟩
 case round =>
  clear H HSZ HG HB
  obtain ⟨ci, t, line, rest, done, rfl, H, HD, HS, HG, HO, HB⟩ := hrel
  cases gk with
  | zero => exact absurd H.out (by simp [rowsF])
  | succ k1 =>
   by_cases ht : t.size = 0
   ·have h := H.out
    clear H
    unfold rowsF at h
    rw [if_pos ht] at h
    obtain rfl := Option.some.inj h
    obtain rfl := GL.size0 ht
    clear h ht
    go_wp2_with (first
     | (go_at_call 155; refine (GL.lines_scan_end g line _ HG.out).mono ?_; rintro e w3 ⟨rfl, hg3, hgr3⟩))
    go_ret2
    refine ⟨_, rfl, ?_, ?_⟩
    ·have := HD.out
     rw [List.append_nil] at this
     rw [← this]
     exact Kd.R_mono (Kd.R_grown (Kd.R_types HO.out HG.out (by decide)) hgr3 (fun k hk e => hk.2 (by cases e; rfl))) (fun _ _ => trivial)
    ·exact pw_below_grown HB.out (some g) HB.out.size hgr3 (fun k e => by cases e; exact HG1.out)
   ·obtain ⟨hok, m0, ms', hm, hms, hre⟩ := rowsF_step H.out ht
    obtain ⟨fs, m, hfs, hmf, rfl⟩ := snL_some hm
    obtain ⟨hn1, hn2, a, b, c, d, ha, hb, hc, hd, hmm⟩ := snF_some hmf
    have hla := (hx32_get ha).1
    have hlb := (hx32_get hb).1
    have hlc := (hx32_get hc).1
    have hld := (hx32_get hd).1
    obtain ⟨x0, hx0⟩ : ∃ x, x = a.getD 0 0 := ⟨_, rfl⟩
    have Xx0 := Aside0.mk hx0
    rw [← hx0] at hmm
    clear hx0
    obtain ⟨x1, hx1⟩ : ∃ x, x = a.getD 1 0 := ⟨_, rfl⟩
    have Xx1 := Aside0.mk hx1
    rw [← hx1] at hmm
    clear hx1
    obtain ⟨x2, hx2⟩ : ∃ x, x = a.getD 2 0 := ⟨_, rfl⟩
    have Xx2 := Aside0.mk hx2
    rw [← hx2] at hmm
    clear hx2
    obtain ⟨x3, hx3⟩ : ∃ x, x = a.getD 8 0 := ⟨_, rfl⟩
    have Xx3 := Aside0.mk hx3
    rw [← hx3] at hmm
    clear hx3
    obtain ⟨y0, hy0⟩ : ∃ x, x = b.getD 0 0 := ⟨_, rfl⟩
    have Xy0 := Aside0.mk hy0
    rw [← hy0] at hmm
    clear hy0
    obtain ⟨z0, hz0⟩ : ∃ x, x = c.getD 0 0 := ⟨_, rfl⟩
    have Xz0 := Aside0.mk hz0
    rw [← hz0] at hmm
    clear hz0
    obtain ⟨u0, hu0⟩ : ∃ x, x = d.getD 0 0 := ⟨_, rfl⟩
    have Xu0 := Aside0.mk hu0
    rw [← hu0] at hmm
    clear hu0
    obtain ⟨u1, hu1⟩ : ∃ x, x = d.getD 1 0 := ⟨_, rfl⟩
    have Xu1 := Aside0.mk hu1
    rw [← hu1] at hmm
    clear hu1
    have HMM := Aside0.mk hmm
    have HT2 := Aside0.mk ht
    have HOK := Aside0.mk hok
    have HMS := Aside0.mk hms
    have HRE := Aside0.mk hre
    have HFF := Aside0.mk hfs
    have HA := Aside0.mk ha
    have HBB := Aside0.mk hb
    have HC := Aside0.mk hc
    have HDD := Aside0.mk hd
    have LA := Aside0.mk hla
    have LB := Aside0.mk hlb
    have LC := Aside0.mk hlc
    have LD := Aside0.mk hld
    have HN1 := Aside0.mk hn1
    have HN2 := Aside0.mk hn2
    have d9 : decide ((fs.length : Int) < 9) = false := decide_eq_false (by omega)
    have d9' : decide (fs.length < 9) = false := decide_eq_false (by omega)
    have e9 : decide ((9 : Int) ≤ (fs.length : Int)) = true := decide_eq_true (by omega)
    have e9' : decide (9 ≤ fs.length) = true := decide_eq_true (by omega)
    have e10 : decide ((10 : Int) ≤ (fs.length : Int)) = true := decide_eq_true (by omega)
    have e10' : decide (10 ≤ fs.length) = true := decide_eq_true (by omega)
    have e11 : decide ((11 : Int) ≤ (fs.length : Int)) = true := decide_eq_true (by omega)
    have e11' : decide (11 ≤ fs.length) = true := decide_eq_true (by omega)
    have e13 : decide ((13 : Int) ≤ (fs.length : Int)) = true := decide_eq_true (by omega)
    have e13' : decide (13 ≤ fs.length) = true := decide_eq_true (by omega)
    clear H ht hok hm hms hre hfs hmf ha hb hc hd hla hlb hlc hld hn1 hn2 hmm
    have tk0 : True := trivial
    have tk1 : True := trivial
    have tk2 : True := trivial
    have tk3 : True := trivial
    go_wp2_with (first
     | (go_at_call 155; refine (GL.lines_scan g t line _ HG.out (by have := HT2.out; omega) (by have := HOK.out.1; omega) HOK.out.2.1 HOK.out.2.2).mono ?_; rintro e w3 ⟨rfl, hg3, hgr3⟩; have HO3 := Aside0.mk (Kd.R_mono (Kd.R_grown (Kd.R_types HO.out HG.out (by decide)) hgr3 (fun k hk e => hk.2 (by cases e; rfl))) (fun _ _ => trivial) : Kd.R k120 120 w3 w.heap.size (fun _ => True) _ done); have HB3 := Aside0.mk (pw_below_grown HB.out (some g) HB.out.size hgr3 (fun k e => by cases e; exact HG1.out)); have HG3 := Aside0.mk hg3; clear hg3 hgr3)
     | (go_at_call 157; refine (GL.lines_text g _ _ _ HG3.out).mono ?_; rintro e w3' ⟨rfl, rfl⟩)
     | (go_at_call 190; refine (strings_Fields.calls _ fs _ (tabW_below HT.out HB3.out) HFF.out).mono ?_; rintro e w5 ⟨v0, rfl, hf, hb5⟩; obtain ⟨gs, cap, rfl, hgs1, hgs2, cells, hcells⟩ := Kd.R_form hf (by have := HN1.out; omega); have HCAP := Aside0.mk (Kd.R_reads' hf).2.1; have CELLS := Aside0.mk (show ∀ i : Nat, i < fs.length → w5.cell? ⟨gs, i, none⟩ = some (.string (snW fs i)) from fun i hi => by have := (Kd.R_cell ByteArray.empty hf (i : Int) (by omega) (by omega)).1; rw [Int.toNat_natCast] at this; exact this); have HB5 := Aside0.mk hb5; have HGS := Aside0.mk hgs2; have hsl0 : ∀ W : World, (Instr.slice 29 (.slice (some ⟨gs, 0, none⟩) fs.length cap) (some (.int .i64 0)) (some (.int .i64 9)) none).run Tryz.prog W = .ok (.slice (some ⟨gs, 0, none⟩) 9 cap) W := fun W => slice_str gs fs.length cap 0 9 (by omega) (by have := HN1.out; omega) HCAP.out (by have := HN1.out; have := HCAP.out; omega) W; have hsl9 : ∀ W : World, (Instr.slice 29 (.slice (some ⟨gs, 0, none⟩) fs.length cap) (some (.int .i64 9)) (some (.int .i64 10)) none).run Tryz.prog W = .ok (.slice (some ⟨gs, 9, none⟩) 1 (cap - 9)) W := fun W => slice_str gs fs.length cap 9 10 (by omega) (by have := HN1.out; omega) HCAP.out (by have := HN1.out; have := HCAP.out; omega) W; have hsl10 : ∀ W : World, (Instr.slice 29 (.slice (some ⟨gs, 0, none⟩) fs.length cap) (some (.int .i64 10)) (some (.int .i64 11)) none).run Tryz.prog W = .ok (.slice (some ⟨gs, 10, none⟩) 1 (cap - 10)) W := fun W => slice_str gs fs.length cap 10 11 (by omega) (by have := HN1.out; omega) HCAP.out (by have := HN1.out; have := HCAP.out; omega) W; have hsl11 : ∀ W : World, (Instr.slice 29 (.slice (some ⟨gs, 0, none⟩) fs.length cap) (some (.int .i64 11)) (some (.int .i64 13)) none).run Tryz.prog W = .ok (.slice (some ⟨gs, 11, none⟩) 2 (cap - 11)) W := fun W => slice_str gs fs.length cap 11 13 (by omega) (by have := HN1.out; omega) HCAP.out (by have := HN1.out; have := HCAP.out; omega) W; clear hf hb5 hcells hgs1 hgs2)
     | (go_at_call 198; clear tk0; have HQB0 := Aside0.mk (show Below w5.heap.size w5 (w5.alloc (Obj.cells #[.int .u32 0, .int .u32 0, .int .u32 0, .int .u32 0, .int .u32 0, .int .u32 0, .int .u32 0, .int .u32 0, .int .i64 0] 120 (0, 0))) from below_alloc (Below.refl w5.heap.size w5) _); have HQK0 := Aside0.mk (heap_alloc_new w5 (Obj.cells #[.int .u32 0, .int .u32 0, .int .u32 0, .int .u32 0, .int .u32 0, .int .u32 0, .int .u32 0, .int .u32 0, .int .i64 0] 120 (0, 0))); refine (hex32Call gs cap 0 9 (snW fs) a _ (Nat.lt_of_lt_of_le HGS.out HQB0.out.size) (fun i hi => (HQB0.out.cell (p := ⟨gs, 0 + i, none⟩) HGS.out).trans (CELLS.out (0 + i) (by have := HN1.out; omega))) (by omega) HA.out).mono ?_; rintro e w6 ⟨v, rfl, hR, hb⟩; obtain ⟨ga, cpa, rfl, hg1, hg2, cells, hcells⟩ := Kd.R_form hR (by have := LA.out; omega); have cx0 : w6.cell? ⟨ga, 0, none⟩ = some (.int .u32 x0) := by { rw [Xx0.out]; exact u32_cell hR 0 (by have := LA.out; omega) }; have cx1 : w6.cell? ⟨ga, 1, none⟩ = some (.int .u32 x1) := by { rw [Xx1.out]; exact u32_cell hR 1 (by have := LA.out; omega) }; have cx2 : w6.cell? ⟨ga, 2, none⟩ = some (.int .u32 x2) := by { rw [Xx2.out]; exact u32_cell hR 2 (by have := LA.out; omega) }; have cx3 : w6.cell? ⟨ga, 8, none⟩ = some (.int .u32 x3) := by { rw [Xx3.out]; exact u32_cell hR 8 (by have := LA.out; omega) }; have hB := below_step HQB0.out hb; have hK := blk_below HQK0.out hb; have hne0 : (ga = w5.heap.size) = False := eq_false (by have := hg1; have := HQB0.out.size; have := blk_lt HQK0.out; omega); have hnf0 : (w5.heap.size = ga) = False := eq_false (by have := hg1; have := blk_lt HQK0.out; omega); have hq0 : w6.cell? ⟨w5.heap.size, 0, none⟩ = some (.int .u32 0) := (blk_cell hK 0).trans rfl; have hz0 := blk_frozen hK 0; have hq1 : w6.cell? ⟨w5.heap.size, 1, none⟩ = some (.int .u32 0) := (blk_cell hK 1).trans rfl; have hz1 := blk_frozen hK 1; have hq2 : w6.cell? ⟨w5.heap.size, 2, none⟩ = some (.int .u32 0) := (blk_cell hK 2).trans rfl; have hz2 := blk_frozen hK 2; have hq3 : w6.cell? ⟨w5.heap.size, 3, none⟩ = some (.int .u32 0) := (blk_cell hK 3).trans rfl; have hz3 := blk_frozen hK 3; have HQB1 := Aside0.mk (below_set (below_set (below_set (below_set hB (g := w5.heap.size) (j := 0) (v := .int .u32 x0) (Nat.le_refl _)) (g := w5.heap.size) (j := 1) (v := .int .u32 x1) (Nat.le_refl _)) (g := w5.heap.size) (j := 2) (v := .int .u32 x2) (Nat.le_refl _)) (g := w5.heap.size) (j := 3) (v := .int .u32 x3) (Nat.le_refl _)); have HQK1 := Aside0.mk (blk_put (blk_put (blk_put (blk_put hK (cs' := #[.int .u32 x0, .int .u32 0, .int .u32 0, .int .u32 0, .int .u32 0, .int .u32 0, .int .u32 0, .int .u32 0, .int .i64 0]) 0 (.int .u32 x0) rfl) (cs' := #[.int .u32 x0, .int .u32 x1, .int .u32 0, .int .u32 0, .int .u32 0, .int .u32 0, .int .u32 0, .int .u32 0, .int .i64 0]) 1 (.int .u32 x1) rfl) (cs' := #[.int .u32 x0, .int .u32 x1, .int .u32 x2, .int .u32 0, .int .u32 0, .int .u32 0, .int .u32 0, .int .u32 0, .int .i64 0]) 2 (.int .u32 x2) rfl) (cs' := #[.int .u32 x0, .int .u32 x1, .int .u32 x2, .int .u32 x3, .int .u32 0, .int .u32 0, .int .u32 0, .int .u32 0, .int .i64 0]) 3 (.int .u32 x3) rfl); rw [LA.out]; clear hR hcells hg1 hg2 hb hB hK)
     | (go_at_call 198; clear tk1; skip; refine (hex32Call gs (cap - 9) 9 1 (snW fs) b _ (Nat.lt_of_lt_of_le HGS.out HQB1.out.size) (fun i hi => (HQB1.out.cell (p := ⟨gs, 9 + i, none⟩) HGS.out).trans (CELLS.out (9 + i) (by have := HN1.out; omega))) (by omega) HBB.out).mono ?_; rintro e w7 ⟨v, rfl, hR, hb⟩; obtain ⟨gb, cpb, rfl, hg1, hg2, cells, hcells⟩ := Kd.R_form hR (by have := LB.out; omega); have cy0 : w7.cell? ⟨gb, 0, none⟩ = some (.int .u32 y0) := by { rw [Xy0.out]; exact u32_cell hR 0 (by have := LB.out; omega) }; have hB := below_step HQB1.out hb; have hK := blk_below HQK1.out hb; have hne1 : (gb = w5.heap.size) = False := eq_false (by have := hg1; have := HQB1.out.size; have := blk_lt HQK1.out; omega); have hnf1 : (w5.heap.size = gb) = False := eq_false (by have := hg1; have := blk_lt HQK1.out; omega); have hq4 : w7.cell? ⟨w5.heap.size, 4, none⟩ = some (.int .u32 0) := (blk_cell hK 4).trans rfl; have hz4 := blk_frozen hK 4; have HQB2 := Aside0.mk (below_set hB (g := w5.heap.size) (j := 4) (v := .int .u32 y0) (Nat.le_refl _)); have HQK2 := Aside0.mk (blk_put hK (cs' := #[.int .u32 x0, .int .u32 x1, .int .u32 x2, .int .u32 x3, .int .u32 y0, .int .u32 0, .int .u32 0, .int .u32 0, .int .i64 0]) 4 (.int .u32 y0) rfl); rw [LB.out]; clear hR hcells hg1 hg2 hb hB hK)
     | (go_at_call 198; clear tk2; skip; refine (hex32Call gs (cap - 10) 10 1 (snW fs) c _ (Nat.lt_of_lt_of_le HGS.out HQB2.out.size) (fun i hi => (HQB2.out.cell (p := ⟨gs, 10 + i, none⟩) HGS.out).trans (CELLS.out (10 + i) (by have := HN1.out; omega))) (by omega) HC.out).mono ?_; rintro e w8 ⟨v, rfl, hR, hb⟩; obtain ⟨gc, cpc, rfl, hg1, hg2, cells, hcells⟩ := Kd.R_form hR (by have := LC.out; omega); have cz0 : w8.cell? ⟨gc, 0, none⟩ = some (.int .u32 z0) := by { rw [Xz0.out]; exact u32_cell hR 0 (by have := LC.out; omega) }; have hB := below_step HQB2.out hb; have hK := blk_below HQK2.out hb; have hne2 : (gc = w5.heap.size) = False := eq_false (by have := hg1; have := HQB2.out.size; have := blk_lt HQK2.out; omega); have hnf2 : (w5.heap.size = gc) = False := eq_false (by have := hg1; have := blk_lt HQK2.out; omega); have hq5 : w8.cell? ⟨w5.heap.size, 5, none⟩ = some (.int .u32 0) := (blk_cell hK 5).trans rfl; have hz5 := blk_frozen hK 5; have HQB3 := Aside0.mk (below_set hB (g := w5.heap.size) (j := 5) (v := .int .u32 z0) (Nat.le_refl _)); have HQK3 := Aside0.mk (blk_put hK (cs' := #[.int .u32 x0, .int .u32 x1, .int .u32 x2, .int .u32 x3, .int .u32 y0, .int .u32 z0, .int .u32 0, .int .u32 0, .int .i64 0]) 5 (.int .u32 z0) rfl); rw [LC.out]; clear hR hcells hg1 hg2 hb hB hK)
     | (go_at_call 198; clear tk3; skip; refine (hex32Call gs (cap - 11) 11 2 (snW fs) d _ (Nat.lt_of_lt_of_le HGS.out HQB3.out.size) (fun i hi => (HQB3.out.cell (p := ⟨gs, 11 + i, none⟩) HGS.out).trans (CELLS.out (11 + i) (by have := HN1.out; omega))) (by omega) HDD.out).mono ?_; rintro e w9 ⟨v, rfl, hR, hb⟩; obtain ⟨gd, cpd, rfl, hg1, hg2, cells, hcells⟩ := Kd.R_form hR (by have := LD.out; omega); have cu0 : w9.cell? ⟨gd, 0, none⟩ = some (.int .u32 u0) := by { rw [Xu0.out]; exact u32_cell hR 0 (by have := LD.out; omega) }; have cu1 : w9.cell? ⟨gd, 1, none⟩ = some (.int .u32 u1) := by { rw [Xu1.out]; exact u32_cell hR 1 (by have := LD.out; omega) }; have hB := below_step HQB3.out hb; have hK := blk_below HQK3.out hb; have hne3 : (gd = w5.heap.size) = False := eq_false (by have := hg1; have := HQB3.out.size; have := blk_lt HQK3.out; omega); have hnf3 : (w5.heap.size = gd) = False := eq_false (by have := hg1; have := blk_lt HQK3.out; omega); have hq6 : w9.cell? ⟨w5.heap.size, 6, none⟩ = some (.int .u32 0) := (blk_cell hK 6).trans rfl; have hz6 := blk_frozen hK 6; have hq7 : w9.cell? ⟨w5.heap.size, 7, none⟩ = some (.int .u32 0) := (blk_cell hK 7).trans rfl; have hz7 := blk_frozen hK 7; have hq8 : w9.cell? ⟨w5.heap.size, 8, none⟩ = some (.int .i64 0) := (blk_cell hK 8).trans rfl; have hz8 := blk_frozen hK 8; have hq0 : w9.cell? ⟨w5.heap.size, 0, none⟩ = some (.int .u32 x0) := (blk_cell hK 0).trans rfl; have hq1 : w9.cell? ⟨w5.heap.size, 1, none⟩ = some (.int .u32 x1) := (blk_cell hK 1).trans rfl; have hq2 : w9.cell? ⟨w5.heap.size, 2, none⟩ = some (.int .u32 x2) := (blk_cell hK 2).trans rfl; have hq3 : w9.cell? ⟨w5.heap.size, 3, none⟩ = some (.int .u32 x3) := (blk_cell hK 3).trans rfl; have hq4 : w9.cell? ⟨w5.heap.size, 4, none⟩ = some (.int .u32 y0) := (blk_cell hK 4).trans rfl; have hq5 : w9.cell? ⟨w5.heap.size, 5, none⟩ = some (.int .u32 z0) := (blk_cell hK 5).trans rfl; have HQB4 := Aside0.mk (below_set (below_set (below_set hB (g := w5.heap.size) (j := 6) (v := .int .u32 u0) (Nat.le_refl _)) (g := w5.heap.size) (j := 7) (v := .int .u32 u1) (Nat.le_refl _)) (g := w5.heap.size) (j := 8) (v := .int .i64 (fs.length : Int)) (Nat.le_refl _)); have HQK4 := Aside0.mk (blk_put (blk_put (blk_put hK (cs' := #[.int .u32 x0, .int .u32 x1, .int .u32 x2, .int .u32 x3, .int .u32 y0, .int .u32 z0, .int .u32 u0, .int .u32 0, .int .i64 0]) 6 (.int .u32 u0) rfl) (cs' := #[.int .u32 x0, .int .u32 x1, .int .u32 x2, .int .u32 x3, .int .u32 y0, .int .u32 z0, .int .u32 u0, .int .u32 u1, .int .i64 0]) 7 (.int .u32 u1) rfl) (cs' := #[.int .u32 x0, .int .u32 x1, .int .u32 x2, .int .u32 x3, .int .u32 y0, .int .u32 z0, .int .u32 u0, .int .u32 u1, .int .i64 (fs.length : Int)]) 8 (.int .i64 (fs.length : Int)) rfl); rw [LD.out]; clear hR hcells hg1 hg2 hb hB hK)
     | ((with_reducible refine gate_builtin (b := .append) (xs := #[.tmp 112, .tmp 114]) rfl ?_); at_builtin; have hx5 := below_then HB3.out HB3.out.size HB5.out; have ho5 := Kd.R_below HO3.out HB5.out; have hg5 := blk_below HG3.out HB5.out; refine Kd.R_append k120 (w0 := w) w.heap.size rfl (.tmp 112) (.tmp 114) 115 120 (.agg #[(.int .u32 0), (.int .u32 0), (.int .u32 0), (.int .u32 0), (.int .u32 0), (.int .u32 0), (.int .u32 0), (.int .u32 0), (.int .i64 0)]) 40 rfl Tryz.underlying115 infoSn rfl (by decide) (by omega) u5 done ⟨x0, x1, x2, x3, y0, z0, u0, u1, (fs.length : Int)⟩ [.int .u32 x0, .int .u32 x1, .int .u32 x2, .int .u32 x3, .int .u32 y0, .int .u32 z0, .int .u32 u0, .int .u32 u1, .int .i64 (fs.length : Int)] (fun _ => True) (fun _ => False) rfl (by first | (go_simp; done) | (go_simp; rfl)) (k120_mkM _ _ _ ⟨x0, x1, x2, x3, y0, z0, u0, u1, (fs.length : Int)⟩) (fun _ hk => hk.elim) (fun _ _ => trivial) (Kd.R_below ho5 HQB4.out) (below_then hx5 hx5.size HQB4.out) (below_then hx5 hx5.size HQB4.out).size (by have := HS.out; have := HT2.out; omega) ?_; intro v11 w11 ho hb hg _; have HO11 := Aside0.mk ho; have HB11 := Aside0.mk hb; have HG11 := Aside0.mk (blk_grown (blk_below hg5 HQB4.out) hg (Kd.R_ne (Kd.R_below ho5 HQB4.out) (blk_below hg5 HQB4.out) (by decide))); clear ho hb hg hx5 ho5 hg5))
    go_roundg k1
    case measure => omega
    case rel =>
     exact ⟨_, GL.restOf t, GL.lineOf t, ms', done ++ [⟨x0, x1, x2, x3, y0, z0, u0, u1, (fs.length : Int)⟩], rfl, HMS, ⟨by have := HD.out; rw [HRE.out, HMM.out] at this; rw [← this]; simp⟩, ⟨by have := restOf_size t (by have := HT2.out; omega); have := HS.out; have := HT2.out; simp; omega⟩, HG11, HO11, HB11⟩
end Go.Proofs.YtednjmngalmdkaaGreatDoor.GPC
end
section
/- (pub-frontispiece/pub/procfs.FS).NetSoftnetStat: the text read and parsed. Conditions: snTextF; the tables as laid. -/
namespace Go.Proofs.YtednjmngalmdkaaGreatDoor.GPC
open Go Go.RowKit Go.Proofs.YtednjmngalmdkaaGreatDoorW.PrintWords Go.Proofs.YtednjmngalmdkaaGreatDoorW.PrintLast
set_option linter.unusedVariables false
set_option linter.unusedSimpArgs false
def snTextF (k : Nat) (text : ByteArray) : Option (List S120 × Option Int) := (texts_Read.f text).bind fun q => if q.2 = none then (rowsF snL k (strOfNums q.1)).map fun x => (x, none) else none
set_option maxHeartbeats 8000000 in
set_option maxRecDepth 100000 in
theorem fsSoftnet (k : Nat) (text : ByteArray) (r : List S120) (w : World) (hT : TabW w) (h : snTextF k text = some (r, none)) :
  Calls Tryz.prog 99 #[.agg #[.string text]] w fun e w' => ∃ v, e = .returned (.tuple #[v, .nilIface]) ∧ Kd.R k120 120 w' w.heap.size (fun _ => True) v r ∧ Below w.heap.size w w' := by
 unfold snTextF at h
 obtain ⟨⟨bs, er⟩, hrd, h⟩ := Option.bind_eq_some_iff.1 h
 split at h
 ·rename_i he
  simp only at he
  subst he
  obtain ⟨x, hx, e⟩ := Option.map_eq_some_iff.1 h
  cases e
  have HT := Aside0.mk hT
  have HRD := Aside0.mk hrd
  have HL := Aside0.mk hx
  have HW0 := Aside0.mk (show Below w.heap.size w ((w.alloc (Obj.cells #[Value.string text] 58 (0,0))).alloc (Obj.cells #[Value.string ⟨#[110, 101, 116, 47, 115, 111, 102, 116, 110, 101, 116, 95, 115, 116, 97, 116]⟩] 9 (0,0))) from below_alloc (below_alloc (Below.refl _ _) _) _)
  clear hT hrd h hx
  go_enter Tryz.func99, Tryz.ntmps99
  go_wp2_with (first
   | (go_at_call 139; go_in)
   | (go_at_call 140; refine (texts_Read.calls text bs none _ HRD.out).mono ?_; rintro e w1 ⟨v0, rfl, hv, hb⟩; simp only [errW_none]; obtain ⟨Ab, cb, rfl, hlb, hFb⟩ := hv; have hcv := Kd.C_string (P := Tryz.prog) (A := Ab) (c := cb) Tryz.underlying173 Tryz.underlying5 Tryz.underlying56 (Kd.F_now hFb); have HW1 := Aside0.mk (below_then HW0.out HW0.out.size hb); clear hb hFb hlb)
   | (go_at_call 168; refine (snParse k (strOfNums bs) r _ (tabW_below HT.out HW1.out) HL.out).mono ?_; rintro e w2 ⟨v, rfl, hR, hb2⟩; have HR := Aside0.mk (Kd.R_lower hR HW1.out.size); have HB2 := Aside0.mk (below_then HW1.out HW1.out.size hb2); clear hR hb2))
  go_ret2
  exact ⟨v, rfl, HR.out, HB2.out⟩
 ·cases h
end Go.Proofs.YtednjmngalmdkaaGreatDoor.GPC
end
section
/- impl.tree, impl.Softnet: the door of this law. Conditions: the printed functions' answers; the tables as laid. -/
namespace Go.Proofs.YtednjmngalmdkaaGreatDoor.GPC
open Go.RowKit Go.Proofs.YtednjmngalmdkaaGreatDoorW.PrintWords Go.Proofs.YtednjmngalmdkaaGreatDoorW.PrintLast
set_option linter.unusedVariables false
set_option linter.unusedSimpArgs false
attribute [local go_sem] run_store_float
def nodeSoftnet (k : Nat) (r : List S120) : Option S43 := (impl_Softnet_1.f k r).map fun r => ⟨r.1, r.2.1, r.2.2.1, r.2.2.2.1, r.2.2.2.2.1, r.2.2.2.2.2.1, r.2.2.2.2.2.2.1, r.2.2.2.2.2.2.2⟩
theorem litSoftnet (k : Nat) (A : Option Addr) (c : Nat) (r : List S120) (n : S43) (w : World) (hC : Kd.C k120 w A r.length r) (hc : r.length ≤ c) (h : nodeSoftnet k r = some n) :
  Calls Tryz.prog 100 #[.slice A r.length c] w fun e w' => ∃ v7, e = .returned (nodeVal n v7) ∧ KidsV n w w' v7 ∧ Below w.heap.size w w' := by
 unfold nodeSoftnet at h
 obtain ⟨⟨r1, r2, r3, r4, r5, r6, r7, r8⟩, hr, rfl⟩ := Option.map_eq_some_iff.1 h
 refine (impl_Softnet_1.calls k A c r r1 r2 r3 r4 r5 r6 r7 r8 w hC hc hr).mono ?_
 rintro e w' ⟨v7, rfl, ho, hb⟩
 exact ⟨v7, rfl, ho, hb⟩
theorem idleSoftnet (p q : Addr) (w : World) :
  CallsD Tryz.prog 167 #[.pointer (some p), .pointer (some q)] .returning w fun e u' w' => e = .returned (.tuple #[]) ∧ u' = .returning ∧ w' = w := by
 refine callsD_of_wpS Tryz.func167 rfl fun c₀ cs hu => ?_
 apply wpS_seq
 apply wpS_region
 simp [wpOpsS, go_sem, recoverD, hu, Tryz.ntmps167, Exit.thenS]
 refine wpS_cond (t := false) (by simp [Act.eval, Array.replicate]) ?_
 simp only [Bool.false_eq_true, if_false]
 refine wpS_of_wp (wp_skip ?_)
 cases c₀
 simp_all [bodyPostS, results, Tryz.results167]
set_option maxHeartbeats 8000000 in
set_option maxRecDepth 100000 in
theorem treeSoftnet (k : Nat) (text : ByteArray) (r : List S120) (n : S43) (w : World) (hT : TabW w) (h : snTextF k text = some (r, none)) (hn : nodeSoftnet k r = some n) :
  Calls Tryz.prog 98 #[.func (.func 99) #[.agg #[.string text]] #[], .func (.func 100) #[] #[]] w fun e w' => ∃ v7, e = .returned (.tuple #[nodeVal n v7, .int .i64 0]) ∧ KidsV n w w' v7 ∧ Below w.heap.size w w' := by
 have hmf : ∀ (fn : Fn) (first cap : Array Value) (w : World), (Instr.makeFunc fn first cap).run Tryz.prog w = .ok (.func fn first cap) w := fun _ _ _ _ => rfl
 have HT := Aside0.mk hT
 have HL := Aside0.mk h
 have HN := Aside0.mk hn
 clear hT h hn
 go_enter_defers Tryz.func98, Tryz.ntmps98
 go_wp2_with (first
   | ((with_reducible refine gate_dst (N := 4) rfl ?_); refine box_event ?hg (N := 4) ?hd (cs := nodeZero) (t := 43) ?hr ?_; (case hd => rfl); (case hg => rfl); (case hr => first | (go_simp; done) | (go_simp; rfl)); intro gb hgb w1 hbox hb1; have HBX := Aside0.mk hbox; have HB1 := Aside0.mk hb1; have HGB := Aside0.mk hgb; clear hgb hbox hb1)
   | ((with_reducible refine gate_dst (N := 5) rfl ?_); refine box_event ?hg (N := 5) ?hd (cs := #[.int .i64 0]) (t := 3) ?hr ?_; (case hd => rfl); (case hg => rfl); (case hr => first | (go_simp; done) | (go_simp; rfl)); intro gc hgc w2 hboxc hb2; have HBC := Aside0.mk hboxc; have HBX2 := Aside0.mk (blk_below HBX.out hb2); have HB2 := Aside0.mk (below_then HB1.out HB1.out.size hb2); have HGC := Aside0.mk hgc; have HCG := Aside0.mk (show gb < gc by rw [hgc]; exact blk_lt HBX.out); have HWC := Aside0.mk (show w.heap.size ≤ gc by rw [hgc]; exact HB1.out.size); clear hgc hboxc hb2)
   | (go_at_call 99; refine (fsSoftnet k text r _ (tabW_below HT.out HB2.out) HL.out).mono ?_; rintro e w3 ⟨vr, rfl, hg2, hb3⟩; obtain ⟨Ar, cr, rfl, hlr, hCr⟩ := Kd.R_reads hg2; have HG := Aside0.mk hCr; have HGL := Aside0.mk hlr; have HBX3 := Aside0.mk (blk_below HBX2.out hb3); have HBC3 := Aside0.mk (blk_below HBC.out hb3); have HB3 := Aside0.mk (below_then HB2.out HB2.out.size hb3); clear hg2 hb3 hlr hCr)
   | (go_at_call 100; refine (litSoftnet k Ar cr r n _ HG.out HGL.out HN.out).mono ?_; rintro e w4 ⟨v7, rfl, ho, hb4⟩; have HK := Aside0.mk ho; have HBX4 := Aside0.mk (blk_below HBX3.out hb4); have HBC4 := Aside0.mk (blk_below HBC3.out hb4); have HB4 := Aside0.mk (below_then HB3.out HB3.out.size hb4); have HLC := Aside0.mk (show gc < w3.heap.size from blk_lt HBC3.out); clear ho hb4)
   | ((with_reducible refine gate_ (.store 43 (.tmp 4) (.tmp 19)) rfl ?_); refine box_store rfl rfl 43 (.tmp 4) (.tmp 19) rfl gb 43 nodeZero (nodeVal n v7) (nodeCells n v7) rfl rfl rfl node_size (node_one HK.out.slice) HBX4.out rfl ?_; intro W5 hbk hgr; have HBK5 := Aside0.mk hbk; have HK5 := Aside0.mk (HK.out.grown hgr (Nat.lt_trans HCG.out HLC.out)); have HBC5 := Aside0.mk (blk_grown HBC4.out hgr (by have := HCG.out; intro e; injection e with e; omega)); have HB5 := Aside0.mk (pw_below_grown HB4.out (some gb) HB4.out.size hgr (fun k e => by cases e; rw [HGB.out]; exact Nat.le_refl _)); have hfc := blk_frozen HBC5.out 0; have hcc : W5.cell? ⟨gc, 0, none⟩ = some (.int .i64 0) := (blk_cell HBC5.out 0).trans rfl; clear hbk hgr))
 have hbk6 := blk_far HBK5.out (p := ⟨gc, 0, none⟩) (by have := HCG.out; show gb ≠ gc; omega) (.int .i64 0)
 have hbc6 := blk_put HBC5.out 0 (.int .i64 0) rfl
 have HB6 := below_set HB5.out HWC.out (j := 0) (v := .int .i64 0)
 have HK6 := (HK5.out.grown (grown_set W5 gc 0 (.int .i64 0)) HLC.out).lower HB3.out.size
 generalize W5.setCell ⟨gc, 0, none⟩ (.int .i64 0) = W6 at hbk6 hbc6 HB6 HK6 ⊢
 have cc : W6.cell? ⟨gc, 0, none⟩ = some (.int .i64 0) := (blk_cell hbc6 0).trans rfl
 have cb0 : W6.cell? ⟨gb, 0, none⟩ = some (.string n.f0) := (blk_cell hbk6 0).trans rfl
 have cb1 : W6.cell? ⟨gb, 1, none⟩ = some (.int .i64 n.f1) := (blk_cell hbk6 1).trans rfl
 have cb2 : W6.cell? ⟨gb, 2, none⟩ = some (.bool n.f2) := (blk_cell hbk6 2).trans rfl
 have cb3 : W6.cell? ⟨gb, 3, none⟩ = some (.int .i64 n.f3) := (blk_cell hbk6 3).trans rfl
 have cb4 : W6.cell? ⟨gb, 4, none⟩ = some (.int .u64 n.f4) := (blk_cell hbk6 4).trans rfl
 have cb5 : W6.cell? ⟨gb, 5, none⟩ = some (.float .f64 n.f5) := (blk_cell hbk6 5).trans rfl
 have cb6 : W6.cell? ⟨gb, 6, none⟩ = some (.string n.f6) := (blk_cell hbk6 6).trans rfl
 have cb7 : W6.cell? ⟨gb, 7, none⟩ = some (v7) := (blk_cell hbk6 7).trans rfl
 refine leaves_cons (f := 167) (args := #[.pointer (some ⟨gb, 0, none⟩), .pointer (some ⟨gc, 0, none⟩)]) (by simp) (by simp [go_sem]) ?_
 refine (idleSoftnet _ _ _).mono ?_
 rintro e u' w'' ⟨rfl, rfl, rfl⟩
 simp [Leaves, settle, results, Tryz.results98, go_sem, cb0, cb1, cb2, cb3, cb4, cb5, cb6, cb7, cc]
 exact ⟨v7, rfl, HK6, HB6⟩
set_option maxHeartbeats 8000000 in
set_option maxRecDepth 100000 in
theorem implSoftnet (k : Nat) (text : ByteArray) (r : List S120) (n : S43) (w : World) (hT : TabW w) (h : snTextF k text = some (r, none)) (hn : nodeSoftnet k r = some n) :
  Calls Tryz.prog 32 #[.string text] w fun e w' => ∃ v7, e = .returned (.tuple #[nodeVal n v7, .int .i64 0]) ∧ KidsV n w w' v7 ∧ Below w.heap.size w w' := by
 have hmf : ∀ (fn : Fn) (first cap : Array Value) (w : World), (Instr.makeFunc fn first cap).run Tryz.prog w = .ok (.func fn first cap) w := fun _ _ _ _ => rfl
 have HT := Aside0.mk hT
 have HL := Aside0.mk h
 have HN := Aside0.mk hn
 clear hT h hn
 go_enter Tryz.func32, Tryz.ntmps32
 go_wp2_with (first
   | ((with_reducible refine gate_dst (N := 2) rfl ?_); refine box_event ?hg (N := 2) ?hd (cs := nodeZero) (t := 43) ?hr ?_; (case hd => rfl); (case hg => rfl); (case hr => first | (go_simp; done) | (go_simp; rfl)); intro gb hgb w1 hbox hb1; have HBX := Aside0.mk hbox; have HB1 := Aside0.mk hb1; have HGB := Aside0.mk hgb; clear hgb hbox hb1)
   | (go_at_call 57; refine (procfs_TextFS.calls text text _ rfl).mono ?_; rintro e w2 ⟨rfl, hb2⟩; have HBX2 := Aside0.mk (blk_below HBX.out hb2); have HB2 := Aside0.mk (below_then HB1.out HB1.out.size hb2); clear hb2)
   | (go_at_call 98; refine (treeSoftnet k text r n _ (tabW_below HT.out HB2.out) HL.out HN.out).mono ?_; rintro e w3 ⟨v7, rfl, ho, hb3⟩; have HK := Aside0.mk ho; have HBX3 := Aside0.mk (blk_below HBX2.out hb3); have HB3 := Aside0.mk (below_then HB2.out HB2.out.size hb3); have HLT := Aside0.mk (show gb < w2.heap.size from blk_lt HBX2.out); clear ho hb3)
   | ((with_reducible refine gate_ (.store 43 (.tmp 2) (.tmp 8)) rfl ?_); refine box_store rfl rfl 43 (.tmp 2) (.tmp 8) rfl gb 43 nodeZero (nodeVal n v7) (nodeCells n v7) rfl rfl rfl node_size (node_one HK.out.slice) HBX3.out rfl ?_; intro W' hbk hgr))
 refine bodyPost_ret (results_cell_tmp rfl _ _ gb 43 _ (0, 0) _ rfl hbk Tryz.underlying43 rfl node_size) rfl ?_
 refine ⟨v7, rfl, (HK.out.grown hgr HLT.out).lower HB2.out.size, pw_below_grown HB3.out (some gb) HB3.out.size hgr (fun k e => by cases e; rw [HGB.out]; exact Nat.le_refl _)⟩
def doorSoftnet (s : ByteArray) (n : S43) : Prop := ∃ k r, snTextF k s = some (r, none) ∧ nodeSoftnet k r = some n
theorem doorSoftnet_calls (text : ByteArray) (n : S43) (w : World) (hT : TabW w) (h : doorSoftnet text n) :
  Calls Tryz.prog 32 #[.string text] w fun e w' => ∃ v7, e = .returned (.tuple #[nodeVal n v7, .int .i64 0]) ∧ KidsV n w w' v7 ∧ Below w.heap.size w w' := by
 obtain ⟨k, r, h1, h2⟩ := h
 exact implSoftnet k text r n w hT h1 h2
end Go.Proofs.YtednjmngalmdkaaGreatDoor.GPC
end
section
/- A region that may be carried out in several orders: what is known of the world grows on the way (behind a call whose result is read further on). Conditions: as it says. -/
namespace Go.Proofs.YtednjmngalmdkaaGreatDoor.GPC
open Go Go.RowKit Go.Proofs.YtednjmngalmdkaaGreatDoorW.PrintWords Go.Proofs.YtednjmngalmdkaaGreatDoorW.PrintLast
set_option linter.unusedVariables false
theorem getD_set_imp {l : Array Bool} {i j : Nat} (h : (l.setIfInBounds j true).getD i true = false) : l.getD i true = false := by
 by_cases hji : j = i
 ·subst hji
  rcases Nat.lt_or_ge j l.size with h' | h'
  ·simp [h'] at h
  ·simp at h
 ·rwa [getD_set_ne true hji] at h
theorem less_ {P : Program} {md : Region.Mode} {ops : Array Oper} {Q : Exit → Act → World → Prop} {S S' : World → Prop} {ds : List Nat} : ∀ (fuel : Nat) (l : Array Bool) (a : Act) (w : World), (∀ i, l.getD i true = false → i ∈ ds) →
  wpAnyLast P md ops Q S' ds fuel l a w → wpAnyLast P md ops Q S ds fuel l a w
 | 0, l, a, w, _, h => h
 | fuel + 1, l, a, w, hl, h => ⟨h.1, fun j hj => wpOp_mono (fun a' w' h3 => ⟨fun hn => absurd (hl j (mem_ready.1 hj).1) hn, less_ fuel _ a' w' (fun i hi => hl i (getD_set_imp hi)) h3.2⟩) (h.2 j hj)⟩
theorem more_l {P : Program} {md : Region.Mode} {ops : Array Oper} {Q : Exit → Act → World → Prop} {S F : World → Prop} {ds : List Nat} :
  ∀ (fuel : Nat) (l : Array Bool) (a : Act) (w : World), (∀ i, i < ops.size → l.getD i true = false → i ∈ ds ∨ ∀ d ∈ ds, Region.reachB md ops i ops.size d = true) → ListedClosed md ops l → l.size = ops.size → S w → F w →
  wpAnyLast P md ops Q (fun w => S w ∧ F w) ds fuel l a w → wpAnyLast P md ops Q S ds fuel l a w
 | 0, l, a, w, _, _, _, _, _, h => h
 | fuel + 1, l, a, w, hall, hc, hz, hS, hF, h => ⟨h.1, fun j hj => by
   refine wpOp_mono (fun a' w' h3 => ?_) (h.2 j hj)
   by_cases hd : j ∈ ds
   ·refine ⟨fun hn => absurd hd hn, less_ fuel _ a' w' (fun i hi => ?_) h3.2⟩
    have hu := getD_set_imp hi
    have hlt : i < ops.size := by
     rcases Nat.lt_or_ge i l.size with h' | h'
     ·omega
     ·simp [Array.getElem?_eq_none h'] at hu
    rcases hall i hlt hu with h4 | h4
    ·exact h4
    ·exact absurd hj (Region.reach_not_ready hc (h4 j hd) hu)
   ·have h5 := h3.1 hd ⟨hS, hF⟩
    exact ⟨fun _ _ => h5.1, more_l fuel _ a' w' (fun i hi hu => hall i hi (getD_set_imp hu)) (hc.set hj) (by simpa using hz) h5.1 h5.2 h3.2⟩⟩
theorem more_ {P : Program} {md : Region.Mode} {ops : Array Oper} {Q : Exit → Act → World → Prop} {S : World → Prop} {ds : List Nat} (F : World → Prop) {l : Array Bool} {a : Act} {w : World} {fuel : Nat}
  (hc : (Region.closedB md ops l && (l.size == ops.size) && (List.range ops.size).all fun i => l.getD i true || ds.contains i || ds.all fun d => Region.reachB md ops i ops.size d) = true)
  (hS : S w) (hF : F w) (h : S w ∧ F w → wpAnyLast P md ops Q (fun w => S w ∧ F w) ds fuel l a w) : wpAnyLast P md ops Q S ds fuel l a w := by
 simp only [Bool.and_eq_true, beq_iff_eq] at hc
 obtain ⟨⟨h1, h2⟩, h3⟩ := hc
 refine more_l fuel l a w (fun i hi hu => ?_) (Region.closedB_spec h1) h2 hS hF (h ⟨hS, hF⟩)
 have h4 := List.all_eq_true.1 h3 i (List.mem_range.2 hi)
 rw [hu, Bool.false_or, Bool.or_eq_true] at h4
 rcases h4 with h5 | h5
 ·exact .inl (by simpa using h5)
 ·exact .inr (fun d hd => List.all_eq_true.1 h5 d hd)
end Go.Proofs.YtednjmngalmdkaaGreatDoor.GPC
end
section
namespace Go.Proofs.YtednjmngalmdkaaGreatDoor.GPC
open Go.RowKit Go.Proofs.YtednjmngalmdkaaGreatDoorW.PrintWords Go.Proofs.YtednjmngalmdkaaGreatDoorW.PrintLast Go.Proofs.YtednjmngalmdkaaGreatDoorW.PrintMore
attribute [local go_sem] max2_int min2_int max_two min_two max_three min_three max_four min_four   -- for this text's walks alone
set_option linter.unusedVariables false
set_option linter.unusedSimpArgs false

attribute [local go_sem] run_store_float
/-! ### spec_SoftnetTree: function 31 -/
mutual
def spec_SoftnetTree.l0 : Nat → List (S39) → List (S31) → Int → Int → Option (ByteArray × Int × Bool × Int × Int × Nat × ByteArray × (List (S39)) × Int)
 | 0, _, _, _, _ => none
 | k + 1, x4, x14, x15, x16 => if x16 < x15 then (if 0 ≤ x16 then (if x16 < (x14.length : Int) then ((some (([0, 1, 2, 8, 9, 10, 11, 12] : List Int) : List Int)).bind fun y290 => (spec_SoftnetTree.l1 k x4 ([] : List (S39)) x14 x15 x16 y290 (y290.length : Int) 0 ((rd_T31 x14 x16).f0) ((rd_T31 x14 x16).f1) ((rd_T31 x14 x16).f2))) else (none)) else (none)) else ((spec_listNode.f (⟨#[]⟩ : ByteArray) x4).bind fun bt278 => (some (bt278.1, bt278.2.1, bt278.2.2.1, bt278.2.2.2.1, bt278.2.2.2.2.1, bt278.2.2.2.2.2.1, bt278.2.2.2.2.2.2.1, bt278.2.2.2.2.2.2.2, 1)))
def spec_SoftnetTree.l1 : Nat → List (S39) → List (S39) → List (S31) → Int → Int → List Int → Int → Int → ByteArray → List Int → List ByteArray → Option (ByteArray × Int × Bool × Int × Int × Nat × ByteArray × (List (S39)) × Int)
 | 0, _, _, _, _, _, _, _, _, _, _, _ => none
 | k + 1, x4, x7, x14, x15, x16, x20, x21, x22, x290000, x290001, x290002 => if x22 < x21 then (if 0 ≤ x22 then (if x22 < (x20.length : Int) then ((spec_softnetNames.f).bind fun t294 => (if x22 < (t294.length : Int) then (if 0 ≤ (rd x20 x22) then (if (rd x20 x22) < (x290001.length : Int) then ((spec_uintNode.f (rdOf ByteArray.empty t294 x22) (rd x290001 (rd x20 x22))).bind fun bt299 => (if x7.length < 1466015503701 then (spec_SoftnetTree.l1 k x4 (x7 ++ [(⟨bt299.1, bt299.2.1, bt299.2.2.1, bt299.2.2.2.1, bt299.2.2.2.2.1, bt299.2.2.2.2.2.1, bt299.2.2.2.2.2.2.1, bt299.2.2.2.2.2.2.2⟩ : S39)]) x14 x15 x16 x20 x21 (wrap64 (x22 + 1)) x290000 x290001 x290002) else (none))) else (none)) else (none)) else (none))) else (none)) else (none)) else ((spec_intNode.f (⟨#[87, 105, 100, 116, 104]⟩ : ByteArray) (x290001.length : Int)).bind fun bt312 => (if x7.length < 1466015503701 then ((spec_recordNode.f (⟨#[]⟩ : ByteArray) (x7 ++ [(⟨bt312.1, bt312.2.1, bt312.2.2.1, bt312.2.2.2.1, bt312.2.2.2.2.1, bt312.2.2.2.2.2.1, bt312.2.2.2.2.2.2.1, bt312.2.2.2.2.2.2.2⟩ : S39)])).bind fun bt325 => (if x4.length < 1466015503701 then (spec_SoftnetTree.l0 k (x4 ++ [(⟨bt325.1, bt325.2.1, bt325.2.2.1, bt325.2.2.2.1, bt325.2.2.2.2.1, bt325.2.2.2.2.2.1, bt325.2.2.2.2.2.2.1, bt325.2.2.2.2.2.2.2⟩ : S39)]) x14 x15 (wrap64 (x16 + 1))) else (none))) else (none)))
end
def spec_SoftnetTree.f (k : Nat) (l0 : List (S31)) : Option (ByteArray × Int × Bool × Int × Int × Nat × ByteArray × (List (S39)) × Int) := (spec_softnetFine.f k l0).bind fun t277 => (if t277 = true then (spec_SoftnetTree.l0 k ([] : List (S39)) l0 (l0.length : Int) 0) else (some ((⟨#[]⟩ : ByteArray), 0, false, 0, 0, 0, (⟨#[]⟩ : ByteArray), ([] : List (S39)), 2)))
theorem spec_SoftnetTree.mono_l : ∀ k, (∀ y0 y1 y2 y3, LeO (spec_SoftnetTree.l0 k y0 y1 y2 y3) (spec_SoftnetTree.l0 (k + 1) y0 y1 y2 y3)) ∧ (∀ y0 y1 y2 y3 y4 y5 y6 y7 y8 y9 y10, LeO (spec_SoftnetTree.l1 k y0 y1 y2 y3 y4 y5 y6 y7 y8 y9 y10) (spec_SoftnetTree.l1 (k + 1) y0 y1 y2 y3 y4 y5 y6 y7 y8 y9 y10))
 | 0 => ⟨fun _ _ _ _ r h => by simp [spec_SoftnetTree.l0] at h, fun _ _ _ _ _ _ _ _ _ _ _ r h => by simp [spec_SoftnetTree.l1] at h⟩
 | k + 1 => by
  obtain ⟨ih0, ih1⟩ := spec_SoftnetTree.mono_l k
  refine ⟨?_, ?_⟩
  ·intro y0 y1 y2 y3
   unfold spec_SoftnetTree.l0
   repeat' first
   | (with_reducible exact ih0 _ _ _ _)
   | (with_reducible exact ih1 _ _ _ _ _ _ _ _ _ _ _)
   | (with_reducible exact spec_softnetFine.mono _ _)
   | (with_reducible exact LeO.refl _)
   | (with_reducible exact LeO.none _)
   | (with_reducible refine LeO.ite ?_ ?_)
   | (with_reducible refine LeO.bind ?_ (fun _ => ?_))
   | exact ih0 _ _ _ _
   | exact ih1 _ _ _ _ _ _ _ _ _ _ _
   | exact spec_softnetFine.mono _ _
   | exact LeO.none _
   | refine LeO.ite ?_ ?_
   | refine LeO.bind ?_ (fun _ => ?_)
  ·intro y0 y1 y2 y3 y4 y5 y6 y7 y8 y9 y10
   unfold spec_SoftnetTree.l1
   repeat' first
   | (with_reducible exact ih0 _ _ _ _)
   | (with_reducible exact ih1 _ _ _ _ _ _ _ _ _ _ _)
   | (with_reducible exact spec_softnetFine.mono _ _)
   | (with_reducible exact LeO.refl _)
   | (with_reducible exact LeO.none _)
   | (with_reducible refine LeO.ite ?_ ?_)
   | (with_reducible refine LeO.bind ?_ (fun _ => ?_))
   | exact ih0 _ _ _ _
   | exact ih1 _ _ _ _ _ _ _ _ _ _ _
   | exact spec_softnetFine.mono _ _
   | exact LeO.none _
   | refine LeO.ite ?_ ?_
   | refine LeO.bind ?_ (fun _ => ?_)
theorem spec_SoftnetTree.mono : ∀ a0 k, LeO (spec_SoftnetTree.f k a0) (spec_SoftnetTree.f (k + 1) a0) := by
 intro a0 k
 obtain ⟨ih0, ih1⟩ := spec_SoftnetTree.mono_l k
 unfold spec_SoftnetTree.f
 repeat' first
   | (with_reducible exact ih0 _ _ _ _)
   | (with_reducible exact ih1 _ _ _ _ _ _ _ _ _ _ _)
   | (with_reducible exact spec_softnetFine.mono _ _)
   | (with_reducible exact LeO.refl _)
   | (with_reducible exact LeO.none _)
   | (with_reducible refine LeO.ite ?_ ?_)
   | (with_reducible refine LeO.bind ?_ (fun _ => ?_))
   | exact ih0 _ _ _ _
   | exact ih1 _ _ _ _ _ _ _ _ _ _ _
   | exact spec_softnetFine.mono _ _
   | exact LeO.none _
   | refine LeO.ite ?_ ?_
   | refine LeO.bind ?_ (fun _ => ?_)
def spec_SoftnetTree.T11 : Bool × List (List Nat × List Nat) := (true, [([], []), ([], []), ([], []), ([1, 2], [1, 2]), ([3], [3]), ([], []), ([5], [5]), ([], []), ([6, 7], [6, 7]), ([8], [8]), ([4, 9, 1], [4, 9]), ([10], [10]), ([0, 11, 10], [0, 11]), ([12, 12, 0, 1, 2, 3, 4, 5, 6, 7, 8, 9, 10, 11, 12], [0, 12])])
def spec_SoftnetTree.B11 : List Nat := [0, 0, 0, 6, 14, 0, 32, 0, 224, 480, 1022, 2046, 4095, 8191]
theorem spec_SoftnetTree.tab11 : rtab .any (opsOf Tryz.f31 11) = spec_SoftnetTree.T11 := by kernel_rfl
theorem spec_SoftnetTree.bits11 : waitsOk spec_SoftnetTree.T11.2 spec_SoftnetTree.B11 = true := by kernel_rfl
set_option maxHeartbeats 8000000 in
set_option maxRecDepth 100000 in
theorem spec_SoftnetTree.calls (k : Nat) (A0 : Option Addr) (c0 : Nat) (l0 : List (S31)) (r1 : ByteArray) (r2 : Int) (r3 : Bool) (r4 : Int) (r5 : Int) (r6 : Nat) (r7 : ByteArray) (r8 : List (S39)) (r9 : Int) (w : World) (hr0 : Kd.C k31 w A0 l0.length l0) (hc0 : l0.length ≤ c0) (h : spec_SoftnetTree.f k l0 = some (r1, r2, r3, r4, r5, r6, r7, r8, r9)) :
  Calls Tryz.prog 31 #[.slice A0 l0.length c0] w fun e w' => ∃ v7_ : Value, e = .returned (.tuple #[.agg #[.string r1, .int .i64 r2, .bool r3, .int .i64 r4, .int .u64 r5, .float .f64 r6, .string r7, v7_], .int .i64 r9]) ∧ Kd.V k39 39 w' w.heap.size (fun k_ => (w.heap.size ≤ k_)) v7_ r8 ∧ Below w.heap.size w w' := by
 have hu39 := Tryz.underlying39
 have hu31 := Tryz.underlying31
 have HR0 := Aside0.mk hr0
 have HC0 := Aside0.mk hc0
 clear hr0 hc0
 have HB := Aside0.mk (Below.refl w.heap.size w)
 have H : ((spec_softnetFine.f k l0).bind fun t277 => (if t277 = true then (spec_SoftnetTree.l0 k ([] : List (S39)) l0 (l0.length : Int) 0) else (some ((⟨#[]⟩ : ByteArray), 0, false, 0, 0, 0, (⟨#[]⟩ : ByteArray), ([] : List (S39)), 2)))) = some (r1, r2, r3, r4, r5, r6, r7, r8, r9) := h
 clear h
 replace H := Option.bind_eq_some_iff.mp H
 obtain ⟨t277, A20, H⟩ := H
 try dsimp -simprocs only at H
 have A2 := Aside0.mk A20
 clear A20
 by_cases c3 : t277 = true
 ·subst c3
  have H1 : (spec_SoftnetTree.l0 k ([] : List (S39)) l0 (l0.length : Int) 0) = some (r1, r2, r3, r4, r5, r6, r7, r8, r9) := by rw [if_pos rfl] at H; exact H
  clear H
  have H := H1
  clear H1
  have H' := Aside0.mk H
  clear H
  go_enter Tryz.func31, Tryz.ntmps31
  go_wp2_with (first | ((with_reducible refine gate_dst (N := 2) rfl ?_); refine box_event ?hg (N := 2) ?hd (cs := #[.string (⟨#[]⟩ : ByteArray), .int .i64 0, .bool false, .int .i64 0, .int .u64 0, .float .f64 0, .string (⟨#[]⟩ : ByteArray), .slice none 0 0]) (t := 39) ?hr ?_; (case hd => rfl); (case hg => rfl); (case hr => first | (go_simp; done) | (go_simp; rfl)); intro gb276 hg w4 hbox hb; have n0_ := Aside0.mk (below_step (by repeat (first | (with_reducible first | exact HB.out | apply below_alloc | apply pw_below_drewN | apply below_drew1) | exact HB.out)) hb); have n1_ := Aside0.mk (hbox); have n2_ := Aside0.mk ((by rw [hg]; exact (below_size (by repeat (first | (with_reducible first | exact HB.out | apply below_alloc | apply pw_below_drewN | apply below_drew1) | exact HB.out))) : w.heap.size ≤ gb276)); have n3_ := Aside0.mk ((by rw [hg]; exact (below_size (by repeat (first | (with_reducible first | exact HB.out | apply below_alloc | apply pw_below_drewN | apply below_drew1) | exact HB.out))) : w.heap.size ≤ gb276)); clear HB; have HB := n0_; have BK276 := n1_; have GW276 := n2_; have GE276 := n3_; clear n0_ n1_ n2_ n3_; clear hb hbox hg) | ((with_reducible refine gate_callee (f := 96) rfl ?_); refine goesL_ (some 11) rfl rfl Tryz.func96 (by kernel_rfl) rfl #[.slice A0 l0.length c0] rfl (by (try simp only [List.map_toArray, List.map_cons, List.map_nil]); first | done | rfl | (simp only [List.length_drop, List.length_take]; rfl)) ?_; (with_reducible refine (spec_softnetFine.calls k _ _ l0 true _ ?side1 ?side2 A2.out).mono ?_); (case side1 => repeat (first | exact (Kd.C_below HR0.out HB.out) | (with_reducible refine Kd.C_alloc ?_ _) | (with_reducible refine Kd.C_drewN ?_ _) | (with_reducible refine Kd.C_drew ?_))); (case side2 => exact HC0.out); rintro e w5 ⟨rfl, hb⟩; refine ⟨_, rfl, ?_⟩; have n0_ := Aside0.mk (blk_below (g := gb276) (o := .cells #[.string (⟨#[]⟩ : ByteArray), .int .i64 0, .bool false, .int .i64 0, .int .u64 0, .float .f64 0, .string (⟨#[]⟩ : ByteArray), .slice none 0 0] 39 (0, 0)) (by (with_reducible repeat (first | refine blk_drewN ?_ _ | refine blk_drew ?_ | refine blk_alloc ?_ _)); exact BK276.out) hb); have n1_ := Aside0.mk (below_step (by repeat (first | (with_reducible first | exact HB.out | apply below_alloc | apply pw_below_drewN | apply below_drew1 | refine below_set ?_ GE276.out) | exact HB.out)) hb); clear BK276; clear HB; have BK276 := n0_; have HB := n1_; clear n0_ n1_; (try clear hb); (try clear hb2); (try clear hk); (try clear hi)))
  go_loopg [4, 16] k (fun kq v4 v16 w' => ∃ (x4_1 : List (S39)) (x16_1 : Int), v16 = .int .i64 x16_1 ∧ Aside0 (spec_SoftnetTree.l0 kq x4_1 l0 (l0.length : Int) x16_1 = some (r1, r2, r3, r4, r5, r6, r7, r8, r9)) ∧ Aside0 (kq ≤ k) ∧ Aside0 (Kd.N k39 39 w' w.heap.size (fun k_ => (w.heap.size ≤ k_) ∧ k_ ≠ gb276) v4 x4_1) ∧ Aside0 (w'.heap[gb276]? = some (.cells #[.string (⟨#[]⟩ : ByteArray), .int .i64 0, .bool false, .int .i64 0, .int .u64 0, .float .f64 0, .string (⟨#[]⟩ : ByteArray), (.slice none 0 0)] 39 (0, 0))) ∧ Aside0 (Below w.heap.size w w'))
  case atStart => exact ⟨(([] : List (S39))), (0), (by first | rfl | (simp; done) | (simp [*]; done)), H', ⟨Nat.le_refl _⟩, ⟨by first | exact Kd.R_nil _ _ _ _ _ | exact Kd.N_nil _ _ _ _ _ | exact Kd.V_nil _ _ _ _ _ | exact Kd.Q_nil _ _ _ _ _ | exact Kd.S_nil _ _ _ _ _⟩, ⟨by (with_reducible repeat (first | refine blk_drewN ?_ _ | refine blk_drew ?_ | refine blk_alloc ?_ _)); exact BK276.out⟩, ⟨by repeat (first | (with_reducible first | exact HB.out | apply below_alloc | apply pw_below_drewN | apply below_drew1 | refine below_set ?_ GE276.out) | exact HB.out)⟩⟩
  case round =>
   clear H'
   try clear p2
   try clear c3
   obtain ⟨x4_1, x16_1, rfl, HA, HK1, HO_4, BK276, HB⟩ := hrel
   cases gk with
   | zero => exact absurd HA.out (by simp [spec_SoftnetTree.l0])
   | succ k1 =>
    have H := HA.out
    clear HA
    simp only [spec_SoftnetTree.l0] at H
    by_cases c6 : x16_1 < (l0.length : Int)
    ·rw [if_pos c6] at H
     have c6b0 : decide (x16_1 < (l0.length : Int)) = true := decide_eq_true c6
     clear c6
     replace H := guard_inv H
     obtain ⟨c7, H⟩ := H
     have c7b0 : decide (0 ≤ x16_1) = true := decide_eq_true c7
     clear c7
     replace H := guard_inv H
     obtain ⟨c8, H⟩ := H
     have c8b0 : decide (x16_1 < (l0.length : Int)) = true := decide_eq_true c8
     clear c8
     obtain ⟨y290, hy290⟩ : ∃ y_ : List Int, y_ = (([0, 1, 2, 8, 9, 10, 11, 12] : List Int)) := ⟨_, rfl⟩
     replace H : (spec_SoftnetTree.l1 k1 x4_1 ([] : List (S39)) l0 (l0.length : Int) x16_1 y290 (y290.length : Int) 0 ((rd_T31 l0 x16_1).f0) ((rd_T31 l0 x16_1).f1) ((rd_T31 l0 x16_1).f2)) = some (r1, r2, r3, r4, r5, r6, r7, r8, r9) := by first | (rw [hy290]; with_reducible exact H) | (have H2_ := (Option.bind_some _ _).symm.trans H; rw [hy290]; with_reducible exact H2_) | (have H2_ := (Option.bind_some _ _).symm.trans H; with_reducible exact H2_) | with_reducible exact H | (rw [hy290]; exact H) | exact H
     have Ny290 := Aside0.mk hy290
     clear hy290
     have H' := Aside0.mk H
     clear H
     have p288 : 0 ≤ (x16_1 : Int) := of_decide_eq_true (by first | (with_reducible assumption) | assumption)
     have q288 : x16_1 < (l0.length : Int) := of_decide_eq_true (by first | (with_reducible assumption) | assumption)
     obtain ⟨ad288, A288_1, c288_1, A288_2, c288_2, e288, hx288_0, hx288_1, hx288_2, hl288_1, hi288_1, hl288_2, hi288_2⟩ := at_T31 HR0.out x16_1 p288 q288
     cases e288
     replace hx288_0 := (HB.out.cell (World.block_lt_of_cell? w _ hx288_0)).trans hx288_0
     replace hx288_1 := (HB.out.cell (World.block_lt_of_cell? w _ hx288_1)).trans hx288_1
     replace hx288_2 := (HB.out.cell (World.block_lt_of_cell? w _ hx288_2)).trans hx288_2
     have HR288_1 := Aside0.mk hi288_1
     have HC288_1 := Aside0.mk hl288_1
     clear hi288_1 hl288_1
     have HR288_2 := Aside0.mk hi288_2
     have HC288_2 := Aside0.mk hl288_2
     clear hi288_2 hl288_2
     replace p288 := eq_true p288
     replace q288 := eq_true q288
     go_wp2_with (first | ((with_reducible refine gate_dst (N := 6) rfl ?_); refine box_event ?hg (N := 6) ?hd (cs := #[.string (⟨#[]⟩ : ByteArray), .slice none 0 0, .slice none 0 0]) (t := 31) ?hr ?_; (case hd => rfl); (case hg => rfl); (case hr => first | (go_simp; done) | (go_simp; rfl)); intro gb289 hg w9 hbox hb; have n0_ := Aside0.mk (Kd.N_below (Kd.N_elderB (by (with_reducible repeat (first | apply Kd.N_alloc | apply Kd.N_drewN | apply Kd.N_drew)); exact HO_4.out) gb289 (Nat.le_of_eq hg.symm)) hb); have n1_ := Aside0.mk (blk_below (g := gb276) (o := .cells #[.string (⟨#[]⟩ : ByteArray), .int .i64 0, .bool false, .int .i64 0, .int .u64 0, .float .f64 0, .string (⟨#[]⟩ : ByteArray), .slice none 0 0] 39 (0, 0)) (by (with_reducible repeat (first | refine blk_drewN ?_ _ | refine blk_drew ?_ | refine blk_alloc ?_ _)); exact BK276.out) hb); have n2_ := Aside0.mk (below_step (by repeat (first | (with_reducible first | exact HB.out | apply below_alloc | apply pw_below_drewN | apply below_drew1 | refine below_set ?_ GE276.out) | exact HB.out)) hb); have n3_ := Aside0.mk (hbox); have n4_ := Aside0.mk ((by rw [hg]; exact (below_size (by repeat (first | (with_reducible first | exact HB.out | apply below_alloc | apply pw_below_drewN | apply below_drew1 | refine below_set ?_ GE276.out) | exact HB.out))) : w.heap.size ≤ gb289)); have n5_ := Aside0.mk ((by rw [hg]; exact (below_size (by repeat (first | (with_reducible first | exact HB.out | apply below_alloc | apply pw_below_drewN | apply below_drew1 | refine below_set ?_ GE276.out) | exact HB.out))) : w.heap.size ≤ gb289)); have n6_ := Aside0.mk ((by rw [hg]; exact Nat.ne_of_lt (blk_lt (g := gb276) (o := .cells #[.string (⟨#[]⟩ : ByteArray), .int .i64 0, .bool false, .int .i64 0, .int .u64 0, .float .f64 0, .string (⟨#[]⟩ : ByteArray), .slice none 0 0] 39 (0, 0)) (by (with_reducible repeat (first | refine blk_drewN ?_ _ | refine blk_drew ?_ | refine blk_alloc ?_ _)); exact BK276.out)) : gb276 ≠ gb289)); have n7_ := Aside0.mk ((by rw [hg]; exact Nat.ne_of_gt (blk_lt (g := gb276) (o := .cells #[.string (⟨#[]⟩ : ByteArray), .int .i64 0, .bool false, .int .i64 0, .int .u64 0, .float .f64 0, .string (⟨#[]⟩ : ByteArray), .slice none 0 0] 39 (0, 0)) (by (with_reducible repeat (first | refine blk_drewN ?_ _ | refine blk_drew ?_ | refine blk_alloc ?_ _)); exact BK276.out)) : gb289 ≠ gb276)); clear HO_4; clear BK276; clear HB; have HO_4 := n0_; have BK276 := n1_; have HB := n2_; have BK289 := n3_; have GW289 := n4_; have GE289 := n5_; have NB276_289 := n6_; have NB289_276 := n7_; clear n0_ n1_ n2_ n3_ n4_ n5_ n6_ n7_; clear hb hbox hg; have hnb10 := NB289_276.out; have hnc10 := NB276_289.out; have hcz11_0 : w9.cell? ⟨gb289, 0, none⟩ = some (.string (⟨#[]⟩ : ByteArray)) := (blk_cell BK289.out 0).trans rfl; have hcz11_1 : w9.cell? ⟨gb289, 1, none⟩ = some (.slice none 0 0) := (blk_cell BK289.out 1).trans rfl; have hcz11_2 : w9.cell? ⟨gb289, 2, none⟩ = some (.slice none 0 0) := (blk_cell BK289.out 2).trans rfl; have hfz11_0 := blk_frozen BK289.out 0; have hfz11_1 := blk_frozen BK289.out 1; have hfz11_2 := blk_frozen BK289.out 2) | ((with_reducible refine gate_dst (N := 20) rfl ?_); refine Kd.R_lit (Kd.int .i64) _ 3 ?hg (N := 20) ?hd (xs := ([0, 1, 2, 8, 9, 10, 11, 12] : List Int)) (inner := [.int .i64 0, .int .i64 1, .int .i64 2, .int .i64 8, .int .i64 9, .int .i64 10, .int .i64 11, .int .i64 12]) (ok := fun _ => True) (okp := fun _ => True) ?hr ?hp (fun _ hk => hk) trivial (Below.refl _ _) (Nat.le_refl _) (by simp) ?_; (case hd => rfl); (case hg => rfl); (case hr => first | (go_simp; done) | (go_simp; rfl)); (case hp => exact (Reps.one (show Kd.M (Kd.int .i64) _ _ _ 0 [.int .i64 0] from rfl) (Reps.one (show Kd.M (Kd.int .i64) _ _ _ 1 [.int .i64 1] from rfl) (Reps.one (show Kd.M (Kd.int .i64) _ _ _ 2 [.int .i64 2] from rfl) (Reps.one (show Kd.M (Kd.int .i64) _ _ _ 8 [.int .i64 8] from rfl) (Reps.one (show Kd.M (Kd.int .i64) _ _ _ 9 [.int .i64 9] from rfl) (Reps.one (show Kd.M (Kd.int .i64) _ _ _ 10 [.int .i64 10] from rfl) (Reps.one (show Kd.M (Kd.int .i64) _ _ _ 11 [.int .i64 11] from rfl) (Reps.one (show Kd.M (Kd.int .i64) _ _ _ 12 [.int .i64 12] from rfl) (Reps.none _ _)))))))))); intro v291 w12 ho13 hb hg_ hnew_; clear hg_ hnew_; (first | rw [← Ny290.out] at ho13 | (simp only [Int.reduceToNat] at ho13; rw [← Ny290.out] at ho13)); have n0_ := Aside0.mk (Kd.N_elder' (by (with_reducible repeat (first | apply Kd.N_alloc | apply Kd.N_drewN | apply Kd.N_drew)); exact (Kd.N_mono (Kd.N_far (p := ⟨gb289, 2, none⟩) (Kd.N_far (p := ⟨gb289, 1, none⟩) (Kd.N_far (p := ⟨gb289, 0, none⟩) (Kd.N_mono HO_4.out (fun k_ hk => (⟨hk, hk.2⟩ : _ ∧ k_ ≠ gb289))) (fun _ hk => hk.2) (.string ((rd_T31 l0 x16_1).f0))) (fun _ hk => hk.2) (.slice A288_1 ((rd_T31 l0 x16_1).f1).length c288_1)) (fun _ hk => hk.2) (.slice A288_2 ((rd_T31 l0 x16_1).f2).length c288_2)) (fun _ h_ => h_.1))) (by first | exact Kd.R_base ho13 | exact Kd.R_base ho13) hb); have n1_ := Aside0.mk (Kd.R_lower (Kd.R_newM (M := fun k_ => (w.heap.size ≤ k_)) ho13 (below_size (by repeat (first | (with_reducible first | exact HB.out | apply below_alloc | apply pw_below_drewN | apply below_drew1 | refine below_set ?_ GE276.out | refine below_set ?_ GE289.out) | exact HB.out))) (fun k_ h_ => h_)) (below_size (by repeat (first | (with_reducible first | exact HB.out | apply below_alloc | apply pw_below_drewN | apply below_drew1 | refine below_set ?_ GE276.out | refine below_set ?_ GE289.out) | exact HB.out)))); have n2_ := Aside0.mk (blk_below (g := gb276) (o := .cells #[.string (⟨#[]⟩ : ByteArray), .int .i64 0, .bool false, .int .i64 0, .int .u64 0, .float .f64 0, .string (⟨#[]⟩ : ByteArray), .slice none 0 0] 39 (0, 0)) (by (with_reducible repeat (first | refine blk_drewN ?_ _ | refine blk_drew ?_ | refine blk_alloc ?_ _)); refine blk_far ?_ NB276_289.out _; (with_reducible repeat (first | refine blk_drewN ?_ _ | refine blk_drew ?_ | refine blk_alloc ?_ _)); refine blk_far ?_ NB276_289.out _; (with_reducible repeat (first | refine blk_drewN ?_ _ | refine blk_drew ?_ | refine blk_alloc ?_ _)); refine blk_far ?_ NB276_289.out _; (with_reducible repeat (first | refine blk_drewN ?_ _ | refine blk_drew ?_ | refine blk_alloc ?_ _)); exact BK276.out) hb); have n3_ := Aside0.mk (blk_below (g := gb289) (o := .cells #[.string ((rd_T31 l0 x16_1).f0), .slice A288_1 ((rd_T31 l0 x16_1).f1).length c288_1, .slice A288_2 ((rd_T31 l0 x16_1).f2).length c288_2] 31 (0, 0)) (by (with_reducible repeat (first | refine blk_drewN ?_ _ | refine blk_drew ?_ | refine blk_alloc ?_ _)); refine blk_put (cs := #[.string ((rd_T31 l0 x16_1).f0), .slice A288_1 ((rd_T31 l0 x16_1).f1).length c288_1, .slice none 0 0]) ?_ 2 _ rfl; (with_reducible repeat (first | refine blk_drewN ?_ _ | refine blk_drew ?_ | refine blk_alloc ?_ _)); refine blk_put (cs := #[.string ((rd_T31 l0 x16_1).f0), .slice none 0 0, .slice none 0 0]) ?_ 1 _ rfl; (with_reducible repeat (first | refine blk_drewN ?_ _ | refine blk_drew ?_ | refine blk_alloc ?_ _)); refine blk_put (cs := #[.string (⟨#[]⟩ : ByteArray), .slice none 0 0, .slice none 0 0]) ?_ 0 _ rfl; (with_reducible repeat (first | refine blk_drewN ?_ _ | refine blk_drew ?_ | refine blk_alloc ?_ _)); exact BK289.out) hb); have n4_ := Aside0.mk (below_step (by repeat (first | (with_reducible first | exact HB.out | apply below_alloc | apply pw_below_drewN | apply below_drew1 | refine below_set ?_ GE276.out | refine below_set ?_ GE289.out) | exact HB.out)) hb); clear HO_4; clear BK276; clear BK289; clear HB; have HO_4 := n0_; have HO292 := n1_; have BK276 := n2_; have BK289 := n3_; have HB := n4_; clear n0_ n1_ n2_ n3_ n4_; clear hb ho13; obtain ⟨Ao14, co14, eo14⟩ := Kd.R_slice HO292.out; subst eo14))
     go_loopg [7, 22] k1 (fun kq v7 v22 w' => ∃ (x7_2 : List (S39)) (x22_2 : Int), v22 = .int .i64 x22_2 ∧ Aside0 (spec_SoftnetTree.l1 kq x4_1 x7_2 l0 (l0.length : Int) x16_1 y290 (y290.length : Int) x22_2 ((rd_T31 l0 x16_1).f0) ((rd_T31 l0 x16_1).f1) ((rd_T31 l0 x16_1).f2) = some (r1, r2, r3, r4, r5, r6, r7, r8, r9)) ∧ Aside0 (kq ≤ k1) ∧ Aside0 (Kd.N k39 39 w' w.heap.size (fun k_ => (w.heap.size ≤ k_) ∧ some k_ ≠ (v7 : Value).ownBlock ∧ some k_ ≠ ((.slice Ao14 y290.length co14) : Value).ownBlock ∧ k_ ≠ gb276 ∧ k_ ≠ gb289) u4 x4_1) ∧ Aside0 (Kd.N k39 39 w' w.heap.size (fun k_ => (w.heap.size ≤ k_) ∧ some k_ ≠ (u4 : Value).ownBlock ∧ some k_ ≠ ((.slice Ao14 y290.length co14) : Value).ownBlock ∧ k_ ≠ gb276 ∧ k_ ≠ gb289) v7 x7_2) ∧ Aside0 (Kd.R (Kd.int .i64) 3 w' w.heap.size (fun k_ => (w.heap.size ≤ k_)) (.slice Ao14 y290.length co14) y290) ∧ Aside0 (w'.heap[gb276]? = some (.cells #[.string (⟨#[]⟩ : ByteArray), .int .i64 0, .bool false, .int .i64 0, .int .u64 0, .float .f64 0, .string (⟨#[]⟩ : ByteArray), (.slice none 0 0)] 39 (0, 0))) ∧ Aside0 (w'.heap[gb289]? = some (.cells #[.string ((rd_T31 l0 x16_1).f0), (.slice A288_1 ((rd_T31 l0 x16_1).f1).length c288_1), (.slice A288_2 ((rd_T31 l0 x16_1).f2).length c288_2)] 31 (0, 0))) ∧ Aside0 (Below w.heap.size w w'))
     case atStart => exact ⟨(([] : List (S39))), (0), (by first | rfl | (simp; done) | (simp [*]; done)), H', ⟨Nat.le_refl _⟩, ⟨by (with_reducible repeat (first | apply Kd.N_alloc | apply Kd.N_drewN | apply Kd.N_drew)); exact Kd.N_mono HO_4.out (fun _ hk => ⟨hk.1.1.1, ⟨(by simp [Value.ownBlock]), ⟨hk.2, ⟨hk.1.1.2, hk.1.2⟩⟩⟩⟩)⟩, ⟨by first | exact Kd.R_nil _ _ _ _ _ | exact Kd.N_nil _ _ _ _ _ | exact Kd.V_nil _ _ _ _ _ | exact Kd.Q_nil _ _ _ _ _ | exact Kd.S_nil _ _ _ _ _⟩, ⟨by (with_reducible repeat (first | apply Kd.R_alloc | apply Kd.R_drewN | apply Kd.R_drew)); exact Kd.R_mono HO292.out (fun _ hk => hk.1)⟩, ⟨by (with_reducible repeat (first | refine blk_drewN ?_ _ | refine blk_drew ?_ | refine blk_alloc ?_ _)); exact BK276.out⟩, ⟨by (with_reducible repeat (first | refine blk_drewN ?_ _ | refine blk_drew ?_ | refine blk_alloc ?_ _)); exact BK289.out⟩, ⟨by repeat (first | (with_reducible first | exact HB.out | apply below_alloc | apply pw_below_drewN | apply below_drew1 | refine below_set ?_ GE276.out | refine below_set ?_ GE289.out) | exact HB.out)⟩⟩
     case round =>
      clear H'
      try clear c1
      try clear c2
      try clear p2
      try clear q2
      try clear hx2
      try clear c3
      try clear c6
      try clear c6b0
      try clear c7
      try clear c7b0
      try clear c8
      try clear c8b0
      try clear c9
      try clear c10
      try clear hcz11_0
      try clear hcz11_1
      try clear hcz11_2
      try clear hfz11_0
      try clear hfz11_1
      try clear hfz11_2
      try clear hx288_0
      try clear hx288_1
      try clear hx288_2
      try clear p2
      try clear p288
      try clear q288
      obtain ⟨x7_2, x22_2, rfl, HA, HK2, HO_4, HO_7, HO_20, BK276, BK289, HB⟩ := hrel
      cases gk with
      | zero => exact absurd HA.out (by simp [spec_SoftnetTree.l1])
      | succ k2 =>
       have H := HA.out
       clear HA
       simp only [spec_SoftnetTree.l1] at H
       by_cases c15 : x22_2 < (y290.length : Int)
       ·rw [if_pos c15] at H
        have c15b0 : decide (x22_2 < (y290.length : Int)) = true := decide_eq_true c15
        clear c15
        replace H := guard_inv H
        obtain ⟨c16, H⟩ := H
        have c16b0 : decide (0 ≤ x22_2) = true := decide_eq_true c16
        clear c16
        replace H := guard_inv H
        obtain ⟨c17, H⟩ := H
        have c17b0 : decide (x22_2 < (y290.length : Int)) = true := decide_eq_true c17
        clear c17
        replace H := Option.bind_eq_some_iff.mp H
        obtain ⟨t294, A180, H⟩ := H
        try dsimp -simprocs only at H
        have A18 := Aside0.mk A180
        clear A180
        replace H := guard_inv H
        obtain ⟨c19, H⟩ := H
        have c19b0 : decide (x22_2 < (t294.length : Int)) = true := decide_eq_true c19
        clear c19
        replace H := guard_inv H
        obtain ⟨c20, H⟩ := H
        have c20b0 : decide (0 ≤ (rd y290 x22_2)) = true := decide_eq_true c20
        clear c20
        replace H := guard_inv H
        obtain ⟨c21, H⟩ := H
        have c21b0 : decide ((rd y290 x22_2) < (((rd_T31 l0 x16_1).f1).length : Int)) = true := decide_eq_true c21
        clear c21
        replace H := Option.bind_eq_some_iff.mp H
        obtain ⟨⟨t299, t300, t301, t302, t303, t304, t305, t306⟩, A220, H⟩ := H
        replace H : (if x7_2.length < 1466015503701 then (spec_SoftnetTree.l1 k2 x4_1 (x7_2 ++ [(⟨t299, t300, t301, t302, t303, t304, t305, t306⟩ : S39)]) l0 (l0.length : Int) x16_1 y290 (y290.length : Int) (wrap64 (x22_2 + 1)) ((rd_T31 l0 x16_1).f0) ((rd_T31 l0 x16_1).f1) ((rd_T31 l0 x16_1).f2)) else (none)) = some (r1, r2, r3, r4, r5, r6, r7, r8, r9) := H
        have A22 := Aside0.mk A220
        clear A220
        replace H := guard_inv H
        obtain ⟨c23, H⟩ := H
        have LMc23 := Aside0.mk c23
        clear c23
        obtain ⟨y309, hy309⟩ : ∃ y_ : List (S39), y_ = (x7_2 ++ [(⟨t299, t300, t301, t302, t303, t304, t305, t306⟩ : S39)]) := ⟨_, rfl⟩
        replace H : (spec_SoftnetTree.l1 k2 x4_1 y309 l0 (l0.length : Int) x16_1 y290 (y290.length : Int) (wrap64 (x22_2 + 1)) ((rd_T31 l0 x16_1).f0) ((rd_T31 l0 x16_1).f1) ((rd_T31 l0 x16_1).f2)) = some (r1, r2, r3, r4, r5, r6, r7, r8, r9) := by first | (rw [hy309]; with_reducible exact H) | (have H2_ := (Option.bind_some _ _).symm.trans H; rw [hy309]; with_reducible exact H2_) | (have H2_ := (Option.bind_some _ _).symm.trans H; with_reducible exact H2_) | with_reducible exact H | (rw [hy309]; exact H) | exact H
        have Ny309 := Aside0.mk hy309
        clear hy309
        have H' := Aside0.mk H
        clear H
        have p293 : 0 ≤ (x22_2 : Int) := of_decide_eq_true (by first | (with_reducible assumption) | assumption)
        have q293 : x22_2 < (y290.length : Int) := of_decide_eq_true (by first | (with_reducible assumption) | assumption)
        obtain ⟨ad293, e293, hx293_0⟩ := Kd.at_int (Kd.R_reads' HO_20.out).2.2 x22_2 p293 q293
        cases e293
        replace p293 := eq_true p293
        replace q293 := eq_true q293
        try go_wp2
        have n0_ := Aside0.mk (Kd.N_drew HO_4.out)
        have n1_ := Aside0.mk (Kd.N_drew HO_7.out)
        have n2_ := Aside0.mk (Kd.R_drew HO_20.out)
        have n3_ := Aside0.mk (blk_drew BK276.out)
        have n4_ := Aside0.mk (blk_drew BK289.out)
        have n5_ := Aside0.mk (below_drew1 HB.out)
        clear HO_4
        clear HO_7
        clear HO_20
        clear BK276
        clear BK289
        clear HB
        have HO_4 := n0_
        have HO_7 := n1_
        have HO_20 := n2_
        have BK276 := n3_
        have BK289 := n4_
        have HB := n5_
        clear n0_ n1_ n2_ n3_ n4_ n5_
        have p298 : 0 ≤ ((rd y290 x22_2) : Int) := of_decide_eq_true (by first | (with_reducible assumption) | assumption)
        have q298 : (rd y290 x22_2) < (((rd_T31 l0 x16_1).f1).length : Int) := of_decide_eq_true (by first | (with_reducible assumption) | assumption)
        obtain ⟨ad298, e298, hx298_0⟩ := Kd.at_int HR288_1.out (rd y290 x22_2) p298 q298
        have hw298_0 := hx298_0
        cases e298
        replace hx298_0 := (HB.out.cell (World.block_lt_of_cell? w _ hx298_0)).trans hx298_0
        replace p298 := eq_true p298
        replace q298 := eq_true q298
        refine start_ (n := 14) (S := fun w' => w'.cell? ⟨gb289, 0, none⟩ = some (.string ((rd_T31 l0 x16_1).f0)) ∧ w'.cell? ⟨gb289, 1, none⟩ = some (.slice (some ad298) ((rd_T31 l0 x16_1).f1).length c288_1) ∧ w'.cell? ⟨gb289, 2, none⟩ = some (.slice A288_2 ((rd_T31 l0 x16_1).f2).length c288_2) ∧ w'.cell? (ad298.add ((rd y290 x22_2)).toNat) = some (.int .u64 (rd ((rd_T31 l0 x16_1).f1) (rd y290 x22_2)))) (ds := [11, 12, 13]) (bb [0, 14]) (by kernel_rfl) rfl rfl ⟨(blk_cell BK289.out 0).trans rfl, (blk_cell BK289.out 1).trans rfl, (blk_cell BK289.out 2).trans rfl, ((HB.out.cell (World.block_lt_of_cell? w _ hw298_0)).trans hw298_0)⟩ (fun hHeld => ?_); refine with_tabW spec_SoftnetTree.tab11 spec_SoftnetTree.bits11 (fun HT_ HW_ => ?_)
        generalize wr.drew = w24 at HO_4 HO_7 HO_20 BK276 BK289 HB hx298_0 hHeld ⊢
        refine pure_ (i := 0) (N := some 27) (v := ?_) (a' := ?_) (bb [1, 13]) rfl rfl (any_of HT_.out (by kernel_rfl)) (fun _ _ _ h => h) (Or.inl ⟨by rfl, ?_⟩) ?_ ?_
        rotate_left
        ·intro w'
         go_simp
         with_reducible rfl
        rotate_left
        ·simp only [Act.put, List.setIfInBounds_toArray, List.set_cons_zero, List.set_cons_succ, i64_w, i32_w]
         rfl
        refine pure_ (i := 2) (N := some 29) (v := ?_) (a' := ?_) (bb [1, 1, 1, 11]) rfl rfl (any_of HT_.out (by kernel_rfl)) (fun _ _ _ h => h) (Or.inl ⟨by rfl, ?_⟩) ?_ ?_
        rotate_left
        ·intro w'
         go_simp
         with_reducible rfl
        rotate_left
        ·simp only [Act.put, List.setIfInBounds_toArray, List.set_cons_zero, List.set_cons_succ, i64_w, i32_w]
         rfl
        refine pure_ (i := 5) (N := some 32) (v := ?_) (a' := ?_) (bb [1, 1, 1, 2, 1, 8]) rfl rfl (any_of HT_.out (by kernel_rfl)) (fun _ _ _ h => h) (Or.inl ⟨by rfl, ?_⟩) ?_ ?_
        rotate_left
        ·intro w'
         go_simp
         with_reducible rfl
        rotate_left
        ·simp only [Act.put, List.setIfInBounds_toArray, List.set_cons_zero, List.set_cons_succ, i64_w, i32_w]
         rfl
        refine pure_ (i := 7) (N := some 34) (v := ?_) (a' := ?_) (bb [1, 1, 1, 2, 1, 1, 1, 6]) rfl rfl (any_of HT_.out (by kernel_rfl)) (fun _ _ _ h => h) (Or.inl ⟨by rfl, ?_⟩) ?_ ?_
        rotate_left
        ·intro w'
         go_simp
         with_reducible rfl
        rotate_left
        ·simp only [Act.put, List.setIfInBounds_toArray, List.set_cons_zero, List.set_cons_succ, i64_w, i32_w]
         rfl
        refine take_ (i := 6) (N := some 33) (v := ?_) (a' := ?_) (bb [1, 1, 1, 2, 3, 6]) rfl rfl (take_ofW HT_.out HW_.out (by kernel_rfl)) (fun _ _ _ h => h) (Or.inl ⟨by rfl, ?_⟩) hHeld ?_ ?_
        rotate_left
        ·rintro w' ⟨s0, s1, s2, s3⟩
         go_simp
         with_reducible rfl
        rotate_left
        ·simp only [Act.put, List.setIfInBounds_toArray, List.set_cons_zero, List.set_cons_succ, i64_w, i32_w]
         rfl
        refine pure_ (i := 8) (N := some 35) (v := ?_) (a' := ?_) (bb [1, 1, 1, 2, 4, 5]) rfl rfl (any_of HT_.out (by kernel_rfl)) (fun _ _ _ h => h) (Or.inl ⟨by rfl, ?_⟩) ?_ ?_
        rotate_left
        ·intro w'
         go_simp
         with_reducible rfl
        rotate_left
        ·simp only [Act.put, List.setIfInBounds_toArray, List.set_cons_zero, List.set_cons_succ, i64_w, i32_w]
         rfl
        refine take_ (i := 9) (N := some 36) (v := ?_) (a' := ?_) (bb [1, 1, 1, 2, 5, 4]) rfl rfl (take_ofW HT_.out HW_.out (by kernel_rfl)) (fun _ _ _ h => h) (Or.inl ⟨by rfl, ?_⟩) hHeld ?_ ?_
        rotate_left
        ·rintro w' ⟨s0, s1, s2, s3⟩
         go_simp
         with_reducible rfl
        rotate_left
        ·simp only [Act.put, List.setIfInBounds_toArray, List.set_cons_zero, List.set_cons_succ, i64_w, i32_w]
         rfl
        refine one_ (i := 1) (N := some 28) (bb [3, 2, 5, 4]) rfl rfl (one_of HT_.out (by kernel_rfl)) (by decide) (fun K hK => ?_)
        refine goes_ Tryz.func97 (by kernel_rfl) rfl #[] (by rfl) rfl rfl (by (try simp only [List.map_toArray, List.map_cons, List.map_nil]); first | done | rfl | (simp only [List.length_drop, List.length_take]; rfl)) ?_
        with_reducible refine (spec_softnetNames.calls  t294 _ A18.out).mono ?_
        rintro e w25 ⟨v295, rfl, ho0, hb⟩
        refine ⟨_, rfl, ?_⟩
        have n0_ := Aside0.mk (Kd.N_elder' (by (with_reducible repeat (first | apply Kd.N_alloc | apply Kd.N_drewN | apply Kd.N_drew)); exact HO_4.out) (by first | exact Kd.R_base ho0 | exact Kd.R_base ho0) hb)
        have n1_ := Aside0.mk (Kd.N_elder' (by (with_reducible repeat (first | apply Kd.N_alloc | apply Kd.N_drewN | apply Kd.N_drew)); exact HO_7.out) (by first | exact Kd.R_base ho0 | exact Kd.R_base ho0) hb)
        have n2_ := Aside0.mk (Kd.R_below (by (with_reducible repeat (first | apply Kd.R_alloc | apply Kd.R_drewN | apply Kd.R_drew)); exact HO_20.out) hb)
        have n3_ := Aside0.mk (Kd.R_lower (Kd.R_newM (M := fun k_ => (w.heap.size ≤ k_)) ho0 (below_size (by repeat (first | (with_reducible first | exact HB.out | apply below_alloc | apply pw_below_drewN | apply below_drew1 | refine below_set ?_ GE276.out | refine below_set ?_ GE289.out) | exact HB.out))) (fun k_ h_ => h_)) (below_size (by repeat (first | (with_reducible first | exact HB.out | apply below_alloc | apply pw_below_drewN | apply below_drew1 | refine below_set ?_ GE276.out | refine below_set ?_ GE289.out) | exact HB.out))))
        have n4_ := Aside0.mk (blk_below (g := gb276) (o := .cells #[.string (⟨#[]⟩ : ByteArray), .int .i64 0, .bool false, .int .i64 0, .int .u64 0, .float .f64 0, .string (⟨#[]⟩ : ByteArray), .slice none 0 0] 39 (0, 0)) (by (with_reducible repeat (first | refine blk_drewN ?_ _ | refine blk_drew ?_ | refine blk_alloc ?_ _)); exact BK276.out) hb)
        have n5_ := Aside0.mk (blk_below (g := gb289) (o := .cells #[.string ((rd_T31 l0 x16_1).f0), .slice (some ad298) ((rd_T31 l0 x16_1).f1).length c288_1, .slice A288_2 ((rd_T31 l0 x16_1).f2).length c288_2] 31 (0, 0)) (by (with_reducible repeat (first | refine blk_drewN ?_ _ | refine blk_drew ?_ | refine blk_alloc ?_ _)); exact BK289.out) hb)
        have n6_ := Aside0.mk (below_step (by repeat (first | (with_reducible first | exact HB.out | apply below_alloc | apply pw_below_drewN | apply below_drew1 | refine below_set ?_ GE276.out | refine below_set ?_ GE289.out) | exact HB.out)) hb)
        clear HO_4
        clear HO_7
        clear HO_20
        clear BK276
        clear BK289
        clear HB
        have HO_4 := n0_
        have HO_7 := n1_
        have HO_20 := n2_
        have HO296 := n3_
        have BK276 := n4_
        have BK289 := n5_
        have HB := n6_
        clear n0_ n1_ n2_ n3_ n4_ n5_ n6_
        (try clear hb)
        (try clear hb2)
        (try clear hk)
        (try clear hi)
        (try clear ho0)
        obtain ⟨Ao26, co26, eo26⟩ := Kd.R_slice HO296.out
        (first | subst eo26 | (injection eo26 with f1_ f2_ f3_; have f4_ := f1_.symm; have f5_ := f3_.symm; clear f1_ f2_ f3_; subst f4_; subst f5_))
        have p297 : 0 ≤ (x22_2 : Int) := of_decide_eq_true (by first | (with_reducible assumption) | assumption)
        have q297 : x22_2 < (t294.length : Int) := of_decide_eq_true (by first | (with_reducible assumption) | assumption)
        obtain ⟨ad297, e297, hx297_0⟩ := Kd.at_string (Kd.R_reads' HO296.out).2.2 x22_2 p297 q297
        cases e297
        replace p297 := eq_true p297
        replace q297 := eq_true q297
        refine hK.out _ _ ⟨(blk_cell BK289.out 0).trans rfl, (blk_cell BK289.out 1).trans rfl, (blk_cell BK289.out 2).trans rfl, ((HB.out.cell (World.block_lt_of_cell? w _ hw298_0)).trans hw298_0)⟩ (fun hHeld => ?_)
        clear hK K
        refine more_ (fun w' => w'.cell? (ad297.add (x22_2).toNat) = some (.string (rdOf ByteArray.empty t294 x22_2))) (by kernel_rfl) hHeld hx297_0 (fun hHeld => ?_)
        refine norm_ (a' := ?_) ?_ ?_
        rotate_left
        ·show Act.put _ (some 28) _ = _
         simp only [Act.put, List.setIfInBounds_toArray, List.set_cons_zero, List.set_cons_succ, i64_w, i32_w]
         rfl
        refine pure_ (i := 3) (N := some 30) (v := ?_) (a' := ?_) (bb [4, 1, 5, 4]) rfl rfl (any_of HT_.out (by kernel_rfl)) (fun _ _ _ h => h) (Or.inl ⟨by rfl, ?_⟩) ?_ ?_
        rotate_left
        ·intro w'
         go_simp
         with_reducible rfl
        rotate_left
        ·simp only [Act.put, List.setIfInBounds_toArray, List.set_cons_zero, List.set_cons_succ, i64_w, i32_w]
         rfl
        refine take_ (i := 4) (N := some 31) (v := ?_) (a' := ?_) (bb [10, 4]) rfl rfl (take_ofW HT_.out HW_.out (by kernel_rfl)) (fun _ _ _ h => h) (Or.inl ⟨by rfl, ?_⟩) hHeld ?_ ?_
        rotate_left
        ·rintro w' ⟨⟨s0, s1, s2, s3⟩, s4⟩
         go_simp
         with_reducible rfl
        rotate_left
        ·simp only [Act.put, List.setIfInBounds_toArray, List.set_cons_zero, List.set_cons_succ, i64_w, i32_w]
         rfl
        refine one_ (i := 10) (N := some 37) (bb [11, 3]) rfl rfl (one_of HT_.out (by kernel_rfl)) (by decide) (fun K hK => ?_)
        refine goes_ Tryz.func75 (by kernel_rfl) rfl #[.string (rdOf ByteArray.empty t294 x22_2), .int .u64 (rd ((rd_T31 l0 x16_1).f1) (rd y290 x22_2))] (by rfl) rfl rfl (by (try simp only [List.map_toArray, List.map_cons, List.map_nil]); first | done | rfl | (simp only [List.length_drop, List.length_take]; rfl)) ?_
        with_reducible refine (spec_uintNode.calls (rdOf ByteArray.empty t294 x22_2) (rd ((rd_T31 l0 x16_1).f1) (rd y290 x22_2)) t299 t300 t301 t302 t303 t304 t305 t306 _ A22.out).mono ?_
        rintro e w27 ⟨v307, rfl, ho0, hb⟩
        have HS4_ := (hb.cell (World.block_lt_of_cell? _ _ (hHeld.2))).trans (hHeld.2)
        refine ⟨_, rfl, ?_⟩
        have n0_ := Aside0.mk (Kd.N_elder' (by (with_reducible repeat (first | apply Kd.N_alloc | apply Kd.N_drewN | apply Kd.N_drew)); exact HO_4.out) (by first | exact Kd.N_base ho0 | exact Kd.R_base ho0) hb)
        have n1_ := Aside0.mk (Kd.N_elder' (by (with_reducible repeat (first | apply Kd.N_alloc | apply Kd.N_drewN | apply Kd.N_drew)); exact HO_7.out) (by first | exact Kd.N_base ho0 | exact Kd.R_base ho0) hb)
        have n2_ := Aside0.mk (Kd.R_below (by (with_reducible repeat (first | apply Kd.R_alloc | apply Kd.R_drewN | apply Kd.R_drew)); exact HO_20.out) hb)
        have n3_ := Aside0.mk (Kd.R_below (by (with_reducible repeat (first | apply Kd.R_alloc | apply Kd.R_drewN | apply Kd.R_drew)); exact HO296.out) hb)
        have n4_ := Aside0.mk (Kd.N_lower (Kd.N_mono (ok' := fun k_ => (w.heap.size ≤ k_) ∧ some k_ ≠ (u4 : Value).ownBlock ∧ some k_ ≠ (u7 : Value).ownBlock ∧ some k_ ≠ (.slice (some ad293) y290.length co14 : Value).ownBlock ∧ some k_ ≠ (.slice (some ad297) t294.length co26 : Value).ownBlock ∧ k_ ≠ gb276 ∧ k_ ≠ gb289) (Kd.R_N (Kd.R_bound ho0)) (fun k_ hk_ => ⟨(Nat.le_trans (below_size (by repeat (first | (with_reducible first | exact HB.out | apply below_alloc | apply pw_below_drewN | apply below_drew1 | refine below_set ?_ GE276.out | refine below_set ?_ GE289.out) | exact HB.out))) hk_.2.1), (Kd.fresh' (Kd.N_lt (by (with_reducible repeat (first | apply Kd.N_alloc | apply Kd.N_drewN | apply Kd.N_drew)); exact HO_4.out)) k_ hk_.2.1), (Kd.fresh' (Kd.N_lt (by (with_reducible repeat (first | apply Kd.N_alloc | apply Kd.N_drewN | apply Kd.N_drew)); exact HO_7.out)) k_ hk_.2.1), (Kd.fresh' (Kd.R_lt (by (with_reducible repeat (first | apply Kd.R_alloc | apply Kd.R_drewN | apply Kd.R_drew)); exact HO_20.out)) k_ hk_.2.1), (Kd.fresh' (Kd.R_lt (by (with_reducible repeat (first | apply Kd.R_alloc | apply Kd.R_drewN | apply Kd.R_drew)); exact HO296.out)) k_ hk_.2.1), (Kd.freshB (g := gb276) (o := .cells #[.string (⟨#[]⟩ : ByteArray), .int .i64 0, .bool false, .int .i64 0, .int .u64 0, .float .f64 0, .string (⟨#[]⟩ : ByteArray), .slice none 0 0] 39 (0, 0)) (by (with_reducible repeat (first | refine blk_drewN ?_ _ | refine blk_drew ?_ | refine blk_alloc ?_ _)); exact BK276.out) k_ hk_.2.1), (Kd.freshB (g := gb289) (o := .cells #[.string ((rd_T31 l0 x16_1).f0), .slice (some ad298) ((rd_T31 l0 x16_1).f1).length c288_1, .slice A288_2 ((rd_T31 l0 x16_1).f2).length c288_2] 31 (0, 0)) (by (with_reducible repeat (first | refine blk_drewN ?_ _ | refine blk_drew ?_ | refine blk_alloc ?_ _)); exact BK289.out) k_ hk_.2.1)⟩)) (below_size (by repeat (first | (with_reducible first | exact HB.out | apply below_alloc | apply pw_below_drewN | apply below_drew1 | refine below_set ?_ GE276.out | refine below_set ?_ GE289.out) | exact HB.out))))
        have n5_ := Aside0.mk (blk_below (g := gb276) (o := .cells #[.string (⟨#[]⟩ : ByteArray), .int .i64 0, .bool false, .int .i64 0, .int .u64 0, .float .f64 0, .string (⟨#[]⟩ : ByteArray), .slice none 0 0] 39 (0, 0)) (by (with_reducible repeat (first | refine blk_drewN ?_ _ | refine blk_drew ?_ | refine blk_alloc ?_ _)); exact BK276.out) hb)
        have n6_ := Aside0.mk (blk_below (g := gb289) (o := .cells #[.string ((rd_T31 l0 x16_1).f0), .slice (some ad298) ((rd_T31 l0 x16_1).f1).length c288_1, .slice A288_2 ((rd_T31 l0 x16_1).f2).length c288_2] 31 (0, 0)) (by (with_reducible repeat (first | refine blk_drewN ?_ _ | refine blk_drew ?_ | refine blk_alloc ?_ _)); exact BK289.out) hb)
        have n7_ := Aside0.mk (below_step (by repeat (first | (with_reducible first | exact HB.out | apply below_alloc | apply pw_below_drewN | apply below_drew1 | refine below_set ?_ GE276.out | refine below_set ?_ GE289.out) | exact HB.out)) hb)
        clear HO_4
        clear HO_7
        clear HO_20
        clear HO296
        clear BK276
        clear BK289
        clear HB
        have HO_4 := n0_
        have HO_7 := n1_
        have HO_20 := n2_
        have HO296 := n3_
        have HO308 := n4_
        have BK276 := n5_
        have BK289 := n6_
        have HB := n7_
        clear n0_ n1_ n2_ n3_ n4_ n5_ n6_ n7_
        (try clear hb)
        (try clear hb2)
        (try clear hk)
        (try clear hi)
        (try clear ho0)
        obtain ⟨Ao29, co29, eo29⟩ := Kd.N_slice HO308.out
        (first | subst eo29 | (injection eo29 with f1_ f2_ f3_; have f4_ := f1_.symm; have f5_ := f3_.symm; clear f1_ f2_ f3_; subst f4_; subst f5_))
        refine hK.out _ _ ⟨⟨(blk_cell BK289.out 0).trans rfl, (blk_cell BK289.out 1).trans rfl, (blk_cell BK289.out 2).trans rfl, ((HB.out.cell (World.block_lt_of_cell? w _ hw298_0)).trans hw298_0)⟩, HS4_⟩ (fun hHeld => ?_)
        clear hK K
        refine norm_ (a' := ?_) ?_ ?_
        rotate_left
        ·show Act.put _ (some 37) _ = _
         simp only [Act.put, List.setIfInBounds_toArray, List.set_cons_zero, List.set_cons_succ, i64_w, i32_w]
         rfl
        refine last_ (i := 11) (N := some 38) (bb [12, 2]) rfl rfl (one_of HT_.out (by kernel_rfl)) (by decide) (fun K hK => ?_)
        refine value_ (w1 := ?_) (v := ?_) (by rfl) rfl ?_ ?_
        rotate_left 2
        ·go_simp
         constructor
         ·rfl
         ·rfl
        refine hK.out _ _ ?_
        clear hK K
        refine norm_ (a' := ?_) ?_ ?_
        rotate_left
        ·show Act.put _ (some 38) _ = _
         simp only [Act.put, List.setIfInBounds_toArray, List.set_cons_zero, List.set_cons_succ, i64_w, i32_w]
         rfl
        refine last_ (i := 12) (N := some 39) (bb [13, 1]) rfl rfl (one_of HT_.out (by kernel_rfl)) (by decide) (fun K hK => ?_)
        refine Kd.N_append_step k39 (w0 := w) w.heap.size (by rfl) (.tmp 27) (.tmp 38) 37 39 (.agg #[(.string ⟨#[]⟩), (.int .i64 0), (.bool false), (.int .i64 0), (.int .u64 0), (.float .f64 0), (.string ⟨#[]⟩), (.slice none 0 0)]) 96 rfl Tryz.underlying37 info39 rfl (by decide) (by omega) u7 x7_2 (⟨t299, t300, t301, t302, t303, t304, t305, t306⟩ : S39) [.string t299, .int .i64 t300, .bool t301, .int .i64 t302, .int .u64 t303, .float .f64 t304, .string t305, .slice Ao29 t306.length co29] (fun k_ => (w.heap.size ≤ k_) ∧ some k_ ≠ (u4 : Value).ownBlock ∧ some k_ ≠ (.slice (some ad293) y290.length co14 : Value).ownBlock ∧ some k_ ≠ (.slice (some ad297) t294.length co26 : Value).ownBlock ∧ k_ ≠ gb276 ∧ k_ ≠ gb289) (fun k_ => ((fun k_ => (w.heap.size ≤ k_) ∧ some k_ ≠ (u4 : Value).ownBlock ∧ some k_ ≠ (.slice (some ad293) y290.length co14 : Value).ownBlock ∧ some k_ ≠ (.slice (some ad297) t294.length co26 : Value).ownBlock ∧ k_ ≠ gb276 ∧ k_ ≠ gb289)) k_ ∧ some k_ ≠ (u7 : Value).ownBlock) rfl rfl ?aP (fun _ hk => hk) ?aF ?aO ?aB ?aS ?aL ?_
        (case aP => exact (k39_mkF _ _ (⟨t299, t300, t301, t302, t303, t304, t305, t306⟩ : S39) (Kd.N_reads' (Kd.N_mono (ok' := (fun k_ => ((fun k_ => (w.heap.size ≤ k_) ∧ some k_ ≠ (u4 : Value).ownBlock ∧ some k_ ≠ (.slice (some ad293) y290.length co14 : Value).ownBlock ∧ some k_ ≠ (.slice (some ad297) t294.length co26 : Value).ownBlock ∧ k_ ≠ gb276 ∧ k_ ≠ gb289)) k_ ∧ some k_ ≠ (u7 : Value).ownBlock)) (HO308.out) (fun k_ hk => ⟨⟨hk.1, ⟨hk.2.1, ⟨hk.2.2.2.1, ⟨hk.2.2.2.2.1, ⟨hk.2.2.2.2.2.1, hk.2.2.2.2.2.2⟩⟩⟩⟩⟩, hk.2.2.1⟩))).2.1 (Kd.N_F (Kd.N_mono (ok' := (fun k_ => ((fun k_ => (w.heap.size ≤ k_) ∧ some k_ ≠ (u4 : Value).ownBlock ∧ some k_ ≠ (.slice (some ad293) y290.length co14 : Value).ownBlock ∧ some k_ ≠ (.slice (some ad297) t294.length co26 : Value).ownBlock ∧ k_ ≠ gb276 ∧ k_ ≠ gb289)) k_ ∧ some k_ ≠ (u7 : Value).ownBlock)) (HO308.out) (fun k_ hk => ⟨⟨hk.1, ⟨hk.2.1, ⟨hk.2.2.2.1, ⟨hk.2.2.2.2.1, ⟨hk.2.2.2.2.2.1, hk.2.2.2.2.2.2⟩⟩⟩⟩⟩, hk.2.2.1⟩)))))
        (case aB => exact (by repeat (first | (with_reducible first | exact HB.out | apply below_alloc | apply pw_below_drewN | apply below_drew1 | refine below_set ?_ GE276.out | refine below_set ?_ GE289.out) | exact HB.out)))
        (case aF => exact (fun k_ hk => ⟨(Nat.le_trans (below_size (by repeat (first | (with_reducible first | exact HB.out | apply below_alloc | apply pw_below_drewN | apply below_drew1 | refine below_set ?_ GE276.out | refine below_set ?_ GE289.out) | exact HB.out))) hk), Kd.fresh' (Kd.N_lt (by (with_reducible repeat (first | apply Kd.N_alloc | apply Kd.N_drewN | apply Kd.N_drew)); exact HO_4.out)) k_ hk, Kd.fresh' (Kd.R_lt (by (with_reducible repeat (first | apply Kd.R_alloc | apply Kd.R_drewN | apply Kd.R_drew)); exact HO_20.out)) k_ hk, Kd.fresh' (Kd.R_lt (by (with_reducible repeat (first | apply Kd.R_alloc | apply Kd.R_drewN | apply Kd.R_drew)); exact HO296.out)) k_ hk, Kd.freshB (g := gb276) (o := .cells #[.string (⟨#[]⟩ : ByteArray), .int .i64 0, .bool false, .int .i64 0, .int .u64 0, .float .f64 0, .string (⟨#[]⟩ : ByteArray), .slice none 0 0] 39 (0, 0)) (by (with_reducible repeat (first | refine blk_drewN ?_ _ | refine blk_drew ?_ | refine blk_alloc ?_ _)); exact BK276.out) k_ hk, Kd.freshB (g := gb289) (o := .cells #[.string ((rd_T31 l0 x16_1).f0), .slice (some ad298) ((rd_T31 l0 x16_1).f1).length c288_1, .slice A288_2 ((rd_T31 l0 x16_1).f2).length c288_2] 31 (0, 0)) (by (with_reducible repeat (first | refine blk_drewN ?_ _ | refine blk_drew ?_ | refine blk_alloc ?_ _)); exact BK289.out) k_ hk⟩))
        (case aO => exact (by (with_reducible repeat (first | apply Kd.N_alloc | apply Kd.N_drewN | apply Kd.N_drew)); exact Kd.N_mono HO_7.out (fun _ hk => ⟨hk.1.1.1, ⟨hk.1.1.2.1, ⟨hk.1.1.2.2.1, ⟨hk.1.2, ⟨hk.1.1.2.2.2.1, hk.1.1.2.2.2.2⟩⟩⟩⟩⟩)))
        (case aS => exact (below_size (by repeat (first | (with_reducible first | exact HB.out | apply below_alloc | apply pw_below_drewN | apply below_drew1 | refine below_set ?_ GE276.out | refine below_set ?_ GE289.out) | exact HB.out))))
        (case aL => have := LMc23.out; omega)
        intro v310 w28 ho hb hg hat
        rw [← Ny309.out] at ho
        have n0_ := Aside0.mk (Kd.N_afterv (ok := (fun k_ => (w.heap.size ≤ k_) ∧ some k_ ≠ (.slice (some ad293) y290.length co14 : Value).ownBlock ∧ some k_ ≠ (.slice (some ad297) t294.length co26 : Value).ownBlock ∧ some k_ ≠ (.slice Ao29 t306.length co29 : Value).ownBlock ∧ k_ ≠ gb276 ∧ k_ ≠ gb289)) (by (with_reducible repeat (first | apply Kd.N_alloc | apply Kd.N_drewN | apply Kd.N_drew)); exact Kd.N_mono HO_4.out (fun _ hk => ⟨⟨hk.1.1.1, ⟨hk.1.1.2.2.1, ⟨hk.1.2, ⟨hk.2, ⟨hk.1.1.2.2.2.1, hk.1.1.2.2.2.2⟩⟩⟩⟩⟩, hk.1.1.2.1⟩)) hg hat)
        have n1_ := Aside0.mk (Kd.R_over' (by (with_reducible repeat (first | apply Kd.R_alloc | apply Kd.R_drewN | apply Kd.R_drew)); exact HO_20.out) (Kd.N_typed (by (with_reducible repeat (first | apply Kd.N_alloc | apply Kd.N_drewN | apply Kd.N_drew)); exact HO_7.out)) (by decide) hg)
        have n2_ := Aside0.mk (blk_grown (g := gb276) (o := .cells #[.string (⟨#[]⟩ : ByteArray), .int .i64 0, .bool false, .int .i64 0, .int .u64 0, .float .f64 0, .string (⟨#[]⟩ : ByteArray), .slice none 0 0] 39 (0, 0)) (by (with_reducible repeat (first | refine blk_drewN ?_ _ | refine blk_drew ?_ | refine blk_alloc ?_ _)); exact BK276.out) hg (Kd.N_away HO_7.out (fun _ hk => hk.1.1.2.2.2.1)))
        have n3_ := Aside0.mk (blk_grown (g := gb289) (o := .cells #[.string ((rd_T31 l0 x16_1).f0), .slice (some ad298) ((rd_T31 l0 x16_1).f1).length c288_1, .slice A288_2 ((rd_T31 l0 x16_1).f2).length c288_2] 31 (0, 0)) (by (with_reducible repeat (first | refine blk_drewN ?_ _ | refine blk_drew ?_ | refine blk_alloc ?_ _)); exact BK289.out) hg (Kd.N_ne HO_7.out BK289.out (by decide)))
        have n4_ := Aside0.mk (Kd.R_over' (by (with_reducible repeat (first | apply Kd.R_alloc | apply Kd.R_drewN | apply Kd.R_drew)); exact HO296.out) (Kd.N_typed (by (with_reducible repeat (first | apply Kd.N_alloc | apply Kd.N_drewN | apply Kd.N_drew)); exact HO_7.out)) (by decide) hg)
        have n5_ := Aside0.mk (hb)
        have n6_ := Aside0.mk (ho)
        clear HO_4
        clear HO_20
        clear BK276
        clear BK289
        clear HO296
        clear HB
        clear HO_7
        clear HO308
        have HO_4 := n0_
        have HO_20 := n1_
        have BK276 := n2_
        have BK289 := n3_
        have HO296 := n4_
        have HB := n5_
        have HO311 := n6_
        clear n0_ n1_ n2_ n3_ n4_ n5_ n6_
        clear ho hb hg hat
        refine hK.out _ _ ?_
        clear hK K
        refine norm_ (a' := ?_) ?_ ?_
        rotate_left
        ·show Act.put _ (some 39) _ = _
         simp only [Act.put, List.setIfInBounds_toArray, List.set_cons_zero, List.set_cons_succ, i64_w, i32_w]
         rfl
        refine pure_ (i := 13) (N := some 7) (v := ?_) (a' := ?_) (bb [14]) rfl rfl (any_of HT_.out (by kernel_rfl)) (fun _ _ _ h => h) (Or.inl ⟨by rfl, ?_⟩) ?_ ?_
        rotate_left
        ·intro w'
         go_simp
         with_reducible rfl
        rotate_left
        ·simp only [Act.put, List.setIfInBounds_toArray, List.set_cons_zero, List.set_cons_succ, i64_w, i32_w]
         rfl
        refine done_ (done_of HT_.out (by kernel_rfl)) ?_
        try go_wp2
        go_roundg k2
        case measure => have := HK1.out; have := HK2.out; omega
        case rel => exact ⟨(y309), (wrap64 (x22_2 + 1)), (by first | rfl | (simp; done) | (simp [*]; done)), H', ⟨by have := HK1.out; have := HK2.out; omega⟩, ⟨by (with_reducible repeat (first | apply Kd.N_alloc | apply Kd.N_drewN | apply Kd.N_drew)); exact Kd.N_mono HO_4.out (fun _ hk => ⟨hk.1.1, ⟨hk.2, ⟨hk.1.2.1, ⟨hk.1.2.2.2.2.1, hk.1.2.2.2.2.2⟩⟩⟩⟩)⟩, ⟨by (with_reducible repeat (first | apply Kd.N_alloc | apply Kd.N_drewN | apply Kd.N_drew)); exact Kd.N_mono HO311.out (fun _ hk => ⟨hk.1, ⟨hk.2.1, ⟨hk.2.2.1, ⟨hk.2.2.2.2.1, hk.2.2.2.2.2⟩⟩⟩⟩)⟩, ⟨by (with_reducible repeat (first | apply Kd.R_alloc | apply Kd.R_drewN | apply Kd.R_drew)); exact HO_20.out⟩, ⟨by (with_reducible repeat (first | refine blk_drewN ?_ _ | refine blk_drew ?_ | refine blk_alloc ?_ _)); exact BK276.out⟩, ⟨by (with_reducible repeat (first | refine blk_drewN ?_ _ | refine blk_drew ?_ | refine blk_alloc ?_ _)); exact BK289.out⟩, ⟨by repeat (first | (with_reducible first | exact HB.out | apply below_alloc | apply pw_below_drewN | apply below_drew1 | refine below_set ?_ GE276.out | refine below_set ?_ GE289.out) | exact HB.out)⟩⟩
       ·rw [if_neg c15] at H
        have c15b0 : decide (x22_2 < (y290.length : Int)) = false := decide_eq_false c15
        clear c15
        replace H := Option.bind_eq_some_iff.mp H
        obtain ⟨⟨t312, t313, t314, t315, t316, t317, t318, t319⟩, A300, H⟩ := H
        replace H : (if x7_2.length < 1466015503701 then ((spec_recordNode.f (⟨#[]⟩ : ByteArray) (x7_2 ++ [(⟨t312, t313, t314, t315, t316, t317, t318, t319⟩ : S39)])).bind fun bt325 => (if x4_1.length < 1466015503701 then (spec_SoftnetTree.l0 k2 (x4_1 ++ [(⟨bt325.1, bt325.2.1, bt325.2.2.1, bt325.2.2.2.1, bt325.2.2.2.2.1, bt325.2.2.2.2.2.1, bt325.2.2.2.2.2.2.1, bt325.2.2.2.2.2.2.2⟩ : S39)]) l0 (l0.length : Int) (wrap64 (x16_1 + 1))) else (none))) else (none)) = some (r1, r2, r3, r4, r5, r6, r7, r8, r9) := H
        have A30 := Aside0.mk A300
        clear A300
        replace H := guard_inv H
        obtain ⟨c31, H⟩ := H
        have LMc31 := Aside0.mk c31
        clear c31
        obtain ⟨y322, hy322⟩ : ∃ y_ : List (S39), y_ = (x7_2 ++ [(⟨t312, t313, t314, t315, t316, t317, t318, t319⟩ : S39)]) := ⟨_, rfl⟩
        replace H : ((spec_recordNode.f (⟨#[]⟩ : ByteArray) y322).bind fun bt325 => (if x4_1.length < 1466015503701 then (spec_SoftnetTree.l0 k2 (x4_1 ++ [(⟨bt325.1, bt325.2.1, bt325.2.2.1, bt325.2.2.2.1, bt325.2.2.2.2.1, bt325.2.2.2.2.2.1, bt325.2.2.2.2.2.2.1, bt325.2.2.2.2.2.2.2⟩ : S39)]) l0 (l0.length : Int) (wrap64 (x16_1 + 1))) else (none))) = some (r1, r2, r3, r4, r5, r6, r7, r8, r9) := by first | (rw [hy322]; with_reducible exact H) | (have H2_ := (Option.bind_some _ _).symm.trans H; rw [hy322]; with_reducible exact H2_) | (have H2_ := (Option.bind_some _ _).symm.trans H; with_reducible exact H2_) | with_reducible exact H | (rw [hy322]; exact H) | exact H
        have Ny322 := Aside0.mk hy322
        clear hy322
        replace H := Option.bind_eq_some_iff.mp H
        obtain ⟨⟨t325, t326, t327, t328, t329, t330, t331, t332⟩, A320, H⟩ := H
        replace H : (if x4_1.length < 1466015503701 then (spec_SoftnetTree.l0 k2 (x4_1 ++ [(⟨t325, t326, t327, t328, t329, t330, t331, t332⟩ : S39)]) l0 (l0.length : Int) (wrap64 (x16_1 + 1))) else (none)) = some (r1, r2, r3, r4, r5, r6, r7, r8, r9) := H
        have A32 := Aside0.mk A320
        clear A320
        replace H := guard_inv H
        obtain ⟨c33, H⟩ := H
        have LMc33 := Aside0.mk c33
        clear c33
        obtain ⟨y335, hy335⟩ : ∃ y_ : List (S39), y_ = (x4_1 ++ [(⟨t325, t326, t327, t328, t329, t330, t331, t332⟩ : S39)]) := ⟨_, rfl⟩
        replace H : (spec_SoftnetTree.l0 k2 y335 l0 (l0.length : Int) (wrap64 (x16_1 + 1))) = some (r1, r2, r3, r4, r5, r6, r7, r8, r9) := by first | (rw [hy335]; with_reducible exact H) | (have H2_ := (Option.bind_some _ _).symm.trans H; rw [hy335]; with_reducible exact H2_) | (have H2_ := (Option.bind_some _ _).symm.trans H; with_reducible exact H2_) | with_reducible exact H | (rw [hy335]; exact H) | exact H
        have Ny335 := Aside0.mk hy335
        clear hy335
        have H' := Aside0.mk H
        clear H
        have hnb34 := NB289_276.out
        have hnc34 := NB276_289.out
        have hcz35_0 : wr.cell? ⟨gb289, 0, none⟩ = some (.string ((rd_T31 l0 x16_1).f0)) := (blk_cell BK289.out 0).trans rfl
        have hcz35_1 : wr.cell? ⟨gb289, 1, none⟩ = some (.slice A288_1 ((rd_T31 l0 x16_1).f1).length c288_1) := (blk_cell BK289.out 1).trans rfl
        have hcz35_2 : wr.cell? ⟨gb289, 2, none⟩ = some (.slice A288_2 ((rd_T31 l0 x16_1).f2).length c288_2) := (blk_cell BK289.out 2).trans rfl
        have hfz35_0 := blk_frozen BK289.out 0
        have hfz35_1 := blk_frozen BK289.out 1
        have hfz35_2 := blk_frozen BK289.out 2
        go_wp2_with (first | ((with_reducible refine gate_callee (f := 74) rfl ?_); refine goesL_ (some 46) rfl rfl Tryz.func74 (by kernel_rfl) rfl #[.string (⟨#[87, 105, 100, 116, 104]⟩ : ByteArray), .int .i64 (((rd_T31 l0 x16_1).f1).length : Int)] rfl (by (try simp only [List.map_toArray, List.map_cons, List.map_nil]); first | done | rfl | (simp only [List.length_drop, List.length_take]; rfl)) ?_; (with_reducible refine (spec_intNode.calls (⟨#[87, 105, 100, 116, 104]⟩ : ByteArray) (((rd_T31 l0 x16_1).f1).length : Int) t312 t313 t314 t315 t316 t317 t318 t319 _ A30.out).mono ?_); rintro e w36 ⟨v320, rfl, ho0, hb⟩; refine ⟨_, rfl, ?_⟩; have n0_ := Aside0.mk (Kd.N_elder' (by (with_reducible repeat (first | apply Kd.N_alloc | apply Kd.N_drewN | apply Kd.N_drew)); exact HO_4.out) (by first | exact Kd.N_base ho0 | exact Kd.R_base ho0) hb); have n1_ := Aside0.mk (Kd.N_elder' (by (with_reducible repeat (first | apply Kd.N_alloc | apply Kd.N_drewN | apply Kd.N_drew)); exact HO_7.out) (by first | exact Kd.N_base ho0 | exact Kd.R_base ho0) hb); have n2_ := Aside0.mk (Kd.R_below (by (with_reducible repeat (first | apply Kd.R_alloc | apply Kd.R_drewN | apply Kd.R_drew)); exact HO_20.out) hb); have n3_ := Aside0.mk (Kd.N_lower (Kd.N_mono (ok' := fun k_ => (w.heap.size ≤ k_) ∧ some k_ ≠ (u4 : Value).ownBlock ∧ some k_ ≠ (u7 : Value).ownBlock ∧ some k_ ≠ (.slice Ao14 y290.length co14 : Value).ownBlock ∧ k_ ≠ gb276 ∧ k_ ≠ gb289) (Kd.R_N (Kd.R_bound ho0)) (fun k_ hk_ => ⟨(Nat.le_trans (below_size (by repeat (first | (with_reducible first | exact HB.out | apply below_alloc | apply pw_below_drewN | apply below_drew1 | refine below_set ?_ GE276.out | refine below_set ?_ GE289.out) | exact HB.out))) hk_.2.1), (Kd.fresh' (Kd.N_lt (by (with_reducible repeat (first | apply Kd.N_alloc | apply Kd.N_drewN | apply Kd.N_drew)); exact HO_4.out)) k_ hk_.2.1), (Kd.fresh' (Kd.N_lt (by (with_reducible repeat (first | apply Kd.N_alloc | apply Kd.N_drewN | apply Kd.N_drew)); exact HO_7.out)) k_ hk_.2.1), (Kd.fresh' (Kd.R_lt (by (with_reducible repeat (first | apply Kd.R_alloc | apply Kd.R_drewN | apply Kd.R_drew)); exact HO_20.out)) k_ hk_.2.1), (Kd.freshB (g := gb276) (o := .cells #[.string (⟨#[]⟩ : ByteArray), .int .i64 0, .bool false, .int .i64 0, .int .u64 0, .float .f64 0, .string (⟨#[]⟩ : ByteArray), .slice none 0 0] 39 (0, 0)) (by (with_reducible repeat (first | refine blk_drewN ?_ _ | refine blk_drew ?_ | refine blk_alloc ?_ _)); exact BK276.out) k_ hk_.2.1), (Kd.freshB (g := gb289) (o := .cells #[.string ((rd_T31 l0 x16_1).f0), .slice A288_1 ((rd_T31 l0 x16_1).f1).length c288_1, .slice A288_2 ((rd_T31 l0 x16_1).f2).length c288_2] 31 (0, 0)) (by (with_reducible repeat (first | refine blk_drewN ?_ _ | refine blk_drew ?_ | refine blk_alloc ?_ _)); exact BK289.out) k_ hk_.2.1)⟩)) (below_size (by repeat (first | (with_reducible first | exact HB.out | apply below_alloc | apply pw_below_drewN | apply below_drew1 | refine below_set ?_ GE276.out | refine below_set ?_ GE289.out) | exact HB.out)))); have n4_ := Aside0.mk (blk_below (g := gb276) (o := .cells #[.string (⟨#[]⟩ : ByteArray), .int .i64 0, .bool false, .int .i64 0, .int .u64 0, .float .f64 0, .string (⟨#[]⟩ : ByteArray), .slice none 0 0] 39 (0, 0)) (by (with_reducible repeat (first | refine blk_drewN ?_ _ | refine blk_drew ?_ | refine blk_alloc ?_ _)); exact BK276.out) hb); have n5_ := Aside0.mk (blk_below (g := gb289) (o := .cells #[.string ((rd_T31 l0 x16_1).f0), .slice A288_1 ((rd_T31 l0 x16_1).f1).length c288_1, .slice A288_2 ((rd_T31 l0 x16_1).f2).length c288_2] 31 (0, 0)) (by (with_reducible repeat (first | refine blk_drewN ?_ _ | refine blk_drew ?_ | refine blk_alloc ?_ _)); exact BK289.out) hb); have n6_ := Aside0.mk (below_step (by repeat (first | (with_reducible first | exact HB.out | apply below_alloc | apply pw_below_drewN | apply below_drew1 | refine below_set ?_ GE276.out | refine below_set ?_ GE289.out) | exact HB.out)) hb); clear HO_4; clear HO_7; clear HO_20; clear BK276; clear BK289; clear HB; have HO_4 := n0_; have HO_7 := n1_; have HO_20 := n2_; have HO321 := n3_; have BK276 := n4_; have BK289 := n5_; have HB := n6_; clear n0_ n1_ n2_ n3_ n4_ n5_ n6_; (try clear hb); (try clear hb2); (try clear hk); (try clear hi); (try clear ho0); obtain ⟨Ao38, co38, eo38⟩ := Kd.N_slice HO321.out; subst eo38) | ((with_reducible refine gate_builtin (b := .append) (xs := #[.tmp 42, .tmp 47]) rfl ?_); at_builtin; refine Kd.N_append k39 (w0 := w) w.heap.size rfl (.tmp 42) (.tmp 47) 37 39 (.agg #[(.string ⟨#[]⟩), (.int .i64 0), (.bool false), (.int .i64 0), (.int .u64 0), (.float .f64 0), (.string ⟨#[]⟩), (.slice none 0 0)]) 96 rfl Tryz.underlying37 info39 rfl (by decide) (by omega) u7 x7_2 (⟨t312, t313, t314, t315, t316, t317, t318, t319⟩ : S39) [.string t312, .int .i64 t313, .bool t314, .int .i64 t315, .int .u64 t316, .float .f64 t317, .string t318, .slice Ao38 t319.length co38] (fun k_ => (w.heap.size ≤ k_) ∧ some k_ ≠ (u4 : Value).ownBlock ∧ some k_ ≠ (.slice Ao14 y290.length co14 : Value).ownBlock ∧ k_ ≠ gb276 ∧ k_ ≠ gb289) (fun k_ => ((fun k_ => (w.heap.size ≤ k_) ∧ some k_ ≠ (u4 : Value).ownBlock ∧ some k_ ≠ (.slice Ao14 y290.length co14 : Value).ownBlock ∧ k_ ≠ gb276 ∧ k_ ≠ gb289)) k_ ∧ some k_ ≠ (u7 : Value).ownBlock) rfl rfl ?aP (fun _ hk => hk) ?aF ?aO ?aB ?aS ?aL ?_; (case aP => exact (k39_mkF _ _ (⟨t312, t313, t314, t315, t316, t317, t318, t319⟩ : S39) (Kd.N_reads' (Kd.N_mono (ok' := (fun k_ => ((fun k_ => (w.heap.size ≤ k_) ∧ some k_ ≠ (u4 : Value).ownBlock ∧ some k_ ≠ (.slice Ao14 y290.length co14 : Value).ownBlock ∧ k_ ≠ gb276 ∧ k_ ≠ gb289)) k_ ∧ some k_ ≠ (u7 : Value).ownBlock)) (HO321.out) (fun k_ hk => ⟨⟨hk.1, ⟨hk.2.1, ⟨hk.2.2.2.1, ⟨hk.2.2.2.2.1, hk.2.2.2.2.2⟩⟩⟩⟩, hk.2.2.1⟩))).2.1 (Kd.N_F (Kd.N_mono (ok' := (fun k_ => ((fun k_ => (w.heap.size ≤ k_) ∧ some k_ ≠ (u4 : Value).ownBlock ∧ some k_ ≠ (.slice Ao14 y290.length co14 : Value).ownBlock ∧ k_ ≠ gb276 ∧ k_ ≠ gb289)) k_ ∧ some k_ ≠ (u7 : Value).ownBlock)) (HO321.out) (fun k_ hk => ⟨⟨hk.1, ⟨hk.2.1, ⟨hk.2.2.2.1, ⟨hk.2.2.2.2.1, hk.2.2.2.2.2⟩⟩⟩⟩, hk.2.2.1⟩))))); (case aB => exact (by repeat (first | (with_reducible first | exact HB.out | apply below_alloc | apply pw_below_drewN | apply below_drew1 | refine below_set ?_ GE276.out | refine below_set ?_ GE289.out) | exact HB.out))); (case aF => exact (fun k_ hk => ⟨(Nat.le_trans (below_size (by repeat (first | (with_reducible first | exact HB.out | apply below_alloc | apply pw_below_drewN | apply below_drew1 | refine below_set ?_ GE276.out | refine below_set ?_ GE289.out) | exact HB.out))) hk), Kd.fresh' (Kd.N_lt (by (with_reducible repeat (first | apply Kd.N_alloc | apply Kd.N_drewN | apply Kd.N_drew)); exact HO_4.out)) k_ hk, Kd.fresh' (Kd.R_lt (by (with_reducible repeat (first | apply Kd.R_alloc | apply Kd.R_drewN | apply Kd.R_drew)); exact HO_20.out)) k_ hk, Kd.freshB (g := gb276) (o := .cells #[.string (⟨#[]⟩ : ByteArray), .int .i64 0, .bool false, .int .i64 0, .int .u64 0, .float .f64 0, .string (⟨#[]⟩ : ByteArray), .slice none 0 0] 39 (0, 0)) (by (with_reducible repeat (first | refine blk_drewN ?_ _ | refine blk_drew ?_ | refine blk_alloc ?_ _)); exact BK276.out) k_ hk, Kd.freshB (g := gb289) (o := .cells #[.string ((rd_T31 l0 x16_1).f0), .slice A288_1 ((rd_T31 l0 x16_1).f1).length c288_1, .slice A288_2 ((rd_T31 l0 x16_1).f2).length c288_2] 31 (0, 0)) (by (with_reducible repeat (first | refine blk_drewN ?_ _ | refine blk_drew ?_ | refine blk_alloc ?_ _)); exact BK289.out) k_ hk⟩)); (case aO => exact (by (with_reducible repeat (first | apply Kd.N_alloc | apply Kd.N_drewN | apply Kd.N_drew)); exact Kd.N_mono HO_7.out (fun _ hk => ⟨hk.1.1, ⟨hk.1.2.1, ⟨hk.1.2.2.1, ⟨hk.1.2.2.2.1, hk.1.2.2.2.2⟩⟩⟩⟩))); (case aS => exact (below_size (by repeat (first | (with_reducible first | exact HB.out | apply below_alloc | apply pw_below_drewN | apply below_drew1 | refine below_set ?_ GE276.out | refine below_set ?_ GE289.out) | exact HB.out)))); (case aL => have := LMc31.out; omega); intro v323 w37 ho hb hg hat; rw [← Ny322.out] at ho; have n0_ := Aside0.mk (Kd.N_afterv (ok := (fun k_ => (w.heap.size ≤ k_) ∧ some k_ ≠ (.slice Ao14 y290.length co14 : Value).ownBlock ∧ some k_ ≠ (.slice Ao38 t319.length co38 : Value).ownBlock ∧ k_ ≠ gb276 ∧ k_ ≠ gb289)) (by (with_reducible repeat (first | apply Kd.N_alloc | apply Kd.N_drewN | apply Kd.N_drew)); exact Kd.N_mono HO_4.out (fun _ hk => ⟨⟨hk.1.1, ⟨hk.1.2.2.1, ⟨hk.2, ⟨hk.1.2.2.2.1, hk.1.2.2.2.2⟩⟩⟩⟩, hk.1.2.1⟩)) hg hat); have n1_ := Aside0.mk (Kd.R_over' (by (with_reducible repeat (first | apply Kd.R_alloc | apply Kd.R_drewN | apply Kd.R_drew)); exact HO_20.out) (Kd.N_typed (by (with_reducible repeat (first | apply Kd.N_alloc | apply Kd.N_drewN | apply Kd.N_drew)); exact HO_7.out)) (by decide) hg); have n2_ := Aside0.mk (blk_grown (g := gb276) (o := .cells #[.string (⟨#[]⟩ : ByteArray), .int .i64 0, .bool false, .int .i64 0, .int .u64 0, .float .f64 0, .string (⟨#[]⟩ : ByteArray), .slice none 0 0] 39 (0, 0)) (by (with_reducible repeat (first | refine blk_drewN ?_ _ | refine blk_drew ?_ | refine blk_alloc ?_ _)); exact BK276.out) hg (Kd.N_away HO_7.out (fun _ hk => hk.1.2.2.2.1))); have n3_ := Aside0.mk (blk_grown (g := gb289) (o := .cells #[.string ((rd_T31 l0 x16_1).f0), .slice A288_1 ((rd_T31 l0 x16_1).f1).length c288_1, .slice A288_2 ((rd_T31 l0 x16_1).f2).length c288_2] 31 (0, 0)) (by (with_reducible repeat (first | refine blk_drewN ?_ _ | refine blk_drew ?_ | refine blk_alloc ?_ _)); exact BK289.out) hg (Kd.N_ne HO_7.out BK289.out (by decide))); have n4_ := Aside0.mk (hb); have n5_ := Aside0.mk (ho); clear HO_4; clear HO_20; clear BK276; clear BK289; clear HB; clear HO_7; clear HO321; have HO_4 := n0_; have HO_20 := n1_; have BK276 := n2_; have BK289 := n3_; have HB := n4_; have HO324 := n5_; clear n0_ n1_ n2_ n3_ n4_ n5_; clear ho hb hg hat; obtain ⟨Ao39, co39, eo39⟩ := Kd.N_slice HO324.out; subst eo39) | ((with_reducible refine gate_callee (f := 53) rfl ?_); refine goesL_ (some 49) rfl rfl Tryz.func53 (by kernel_rfl) rfl #[.string (⟨#[]⟩ : ByteArray), .slice Ao39 y322.length co39] rfl (by (try simp only [List.map_toArray, List.map_cons, List.map_nil]); first | done | rfl | (simp only [List.length_drop, List.length_take]; rfl)) ?_; (with_reducible refine (spec_recordNode.calls (⟨#[]⟩ : ByteArray) (fun k_ => ((w.heap.size ≤ k_) ∧ (some k_ ≠ (u4 : Value).ownBlock ∧ (some k_ ≠ (.slice Ao14 y290.length co14 : Value).ownBlock ∧ (k_ ≠ gb276 ∧ k_ ≠ gb289))))) _ _ y322 t325 t326 t327 t328 t329 t330 t331 t332 _ ?side1 A32.out).mono ?_); (case side1 => exact Kd.N_V (HO324.out)); rintro e w40 ⟨v333, rfl, ho0, hb⟩; refine ⟨_, rfl, ?_⟩; have n0_ := Aside0.mk (Kd.N_below (by (with_reducible repeat (first | apply Kd.N_alloc | apply Kd.N_drewN | apply Kd.N_drew)); exact HO_4.out) hb); have n1_ := Aside0.mk (Kd.R_below (by (with_reducible repeat (first | apply Kd.R_alloc | apply Kd.R_drewN | apply Kd.R_drew)); exact HO_20.out) hb); have n2_ := Aside0.mk (Kd.N_below (by (with_reducible repeat (first | apply Kd.N_alloc | apply Kd.N_drewN | apply Kd.N_drew)); exact HO324.out) hb); have n3_ := Aside0.mk (Kd.V_lower (Kd.V_mono (ok' := fun k_ => (w.heap.size ≤ k_) ∧ some k_ ≠ (u4 : Value).ownBlock ∧ some k_ ≠ (.slice Ao14 y290.length co14 : Value).ownBlock ∧ k_ ≠ gb276 ∧ k_ ≠ gb289) ho0 (fun k_ hk_ => ⟨Or.elim hk_ (fun hs_ => hs_.1) (fun hn_ => (Nat.le_trans (below_size (by repeat (first | (with_reducible first | exact HB.out | apply below_alloc | apply pw_below_drewN | apply below_drew1 | refine below_set ?_ GE276.out | refine below_set ?_ GE289.out) | exact HB.out))) hn_)), Or.elim hk_ (fun hs_ => hs_.2.1) (fun hn_ => (Kd.fresh' (Kd.N_lt (by (with_reducible repeat (first | apply Kd.N_alloc | apply Kd.N_drewN | apply Kd.N_drew)); exact HO_4.out)) k_ hn_)), Or.elim hk_ (fun hs_ => hs_.2.2.1) (fun hn_ => (Kd.fresh' (Kd.R_lt (by (with_reducible repeat (first | apply Kd.R_alloc | apply Kd.R_drewN | apply Kd.R_drew)); exact HO_20.out)) k_ hn_)), Or.elim hk_ (fun hs_ => hs_.2.2.2.1) (fun hn_ => (Kd.freshB (g := gb276) (o := .cells #[.string (⟨#[]⟩ : ByteArray), .int .i64 0, .bool false, .int .i64 0, .int .u64 0, .float .f64 0, .string (⟨#[]⟩ : ByteArray), .slice none 0 0] 39 (0, 0)) (by (with_reducible repeat (first | refine blk_drewN ?_ _ | refine blk_drew ?_ | refine blk_alloc ?_ _)); exact BK276.out) k_ hn_)), Or.elim hk_ (fun hs_ => hs_.2.2.2.2) (fun hn_ => (Kd.freshB (g := gb289) (o := .cells #[.string ((rd_T31 l0 x16_1).f0), .slice A288_1 ((rd_T31 l0 x16_1).f1).length c288_1, .slice A288_2 ((rd_T31 l0 x16_1).f2).length c288_2] 31 (0, 0)) (by (with_reducible repeat (first | refine blk_drewN ?_ _ | refine blk_drew ?_ | refine blk_alloc ?_ _)); exact BK289.out) k_ hn_))⟩)) (below_size (by repeat (first | (with_reducible first | exact HB.out | apply below_alloc | apply pw_below_drewN | apply below_drew1 | refine below_set ?_ GE276.out | refine below_set ?_ GE289.out) | exact HB.out)))); have n4_ := Aside0.mk (blk_below (g := gb276) (o := .cells #[.string (⟨#[]⟩ : ByteArray), .int .i64 0, .bool false, .int .i64 0, .int .u64 0, .float .f64 0, .string (⟨#[]⟩ : ByteArray), .slice none 0 0] 39 (0, 0)) (by (with_reducible repeat (first | refine blk_drewN ?_ _ | refine blk_drew ?_ | refine blk_alloc ?_ _)); exact BK276.out) hb); have n5_ := Aside0.mk (blk_below (g := gb289) (o := .cells #[.string ((rd_T31 l0 x16_1).f0), .slice A288_1 ((rd_T31 l0 x16_1).f1).length c288_1, .slice A288_2 ((rd_T31 l0 x16_1).f2).length c288_2] 31 (0, 0)) (by (with_reducible repeat (first | refine blk_drewN ?_ _ | refine blk_drew ?_ | refine blk_alloc ?_ _)); exact BK289.out) hb); have n6_ := Aside0.mk (below_step (by repeat (first | (with_reducible first | exact HB.out | apply below_alloc | apply pw_below_drewN | apply below_drew1 | refine below_set ?_ GE276.out | refine below_set ?_ GE289.out) | exact HB.out)) hb); clear HO_4; clear HO_20; clear HO324; clear BK276; clear BK289; clear HB; have HO_4 := n0_; have HO_20 := n1_; have HO324 := n2_; have HO334 := n3_; have BK276 := n4_; have BK289 := n5_; have HB := n6_; clear n0_ n1_ n2_ n3_ n4_ n5_ n6_; (try clear hb); (try clear hb2); (try clear hk); (try clear hi); (try clear ho0); obtain ⟨Ao42, co42, eo42⟩ := Kd.V_slice HO334.out; subst eo42) | ((with_reducible refine gate_builtin (b := .append) (xs := #[.tmp 41, .tmp 50]) rfl ?_); at_builtin; refine Kd.N_append k39 (w0 := w) w.heap.size rfl (.tmp 41) (.tmp 50) 37 39 (.agg #[(.string ⟨#[]⟩), (.int .i64 0), (.bool false), (.int .i64 0), (.int .u64 0), (.float .f64 0), (.string ⟨#[]⟩), (.slice none 0 0)]) 96 rfl Tryz.underlying37 info39 rfl (by decide) (by omega) u4 x4_1 (⟨t325, t326, t327, t328, t329, t330, t331, t332⟩ : S39) [.string t325, .int .i64 t326, .bool t327, .int .i64 t328, .int .u64 t329, .float .f64 t330, .string t331, .slice Ao42 t332.length co42] (fun k_ => (w.heap.size ≤ k_) ∧ some k_ ≠ (.slice Ao14 y290.length co14 : Value).ownBlock ∧ k_ ≠ gb276 ∧ k_ ≠ gb289) (fun k_ => ((fun k_ => (w.heap.size ≤ k_) ∧ some k_ ≠ (.slice Ao14 y290.length co14 : Value).ownBlock ∧ k_ ≠ gb276 ∧ k_ ≠ gb289)) k_ ∧ some k_ ≠ (u4 : Value).ownBlock) rfl rfl ?aP (fun _ hk => hk) ?aF ?aO ?aB ?aS ?aL ?_; (case aP => exact (k39_mkF _ _ (⟨t325, t326, t327, t328, t329, t330, t331, t332⟩ : S39) (Kd.V_reads' (Kd.V_mono (ok' := (fun k_ => ((fun k_ => (w.heap.size ≤ k_) ∧ some k_ ≠ (.slice Ao14 y290.length co14 : Value).ownBlock ∧ k_ ≠ gb276 ∧ k_ ≠ gb289)) k_ ∧ some k_ ≠ (u4 : Value).ownBlock)) (HO334.out) (fun k_ hk => ⟨⟨hk.1, ⟨hk.2.2.1, ⟨hk.2.2.2.1, hk.2.2.2.2⟩⟩⟩, hk.2.1⟩))).2.1 (Kd.V_F (Kd.V_mono (ok' := (fun k_ => ((fun k_ => (w.heap.size ≤ k_) ∧ some k_ ≠ (.slice Ao14 y290.length co14 : Value).ownBlock ∧ k_ ≠ gb276 ∧ k_ ≠ gb289)) k_ ∧ some k_ ≠ (u4 : Value).ownBlock)) (HO334.out) (fun k_ hk => ⟨⟨hk.1, ⟨hk.2.2.1, ⟨hk.2.2.2.1, hk.2.2.2.2⟩⟩⟩, hk.2.1⟩))))); (case aB => exact (by repeat (first | (with_reducible first | exact HB.out | apply below_alloc | apply pw_below_drewN | apply below_drew1 | refine below_set ?_ GE276.out | refine below_set ?_ GE289.out) | exact HB.out))); (case aF => exact (fun k_ hk => ⟨(Nat.le_trans (below_size (by repeat (first | (with_reducible first | exact HB.out | apply below_alloc | apply pw_below_drewN | apply below_drew1 | refine below_set ?_ GE276.out | refine below_set ?_ GE289.out) | exact HB.out))) hk), Kd.fresh' (Kd.R_lt (by (with_reducible repeat (first | apply Kd.R_alloc | apply Kd.R_drewN | apply Kd.R_drew)); exact HO_20.out)) k_ hk, Kd.freshB (g := gb276) (o := .cells #[.string (⟨#[]⟩ : ByteArray), .int .i64 0, .bool false, .int .i64 0, .int .u64 0, .float .f64 0, .string (⟨#[]⟩ : ByteArray), .slice none 0 0] 39 (0, 0)) (by (with_reducible repeat (first | refine blk_drewN ?_ _ | refine blk_drew ?_ | refine blk_alloc ?_ _)); exact BK276.out) k_ hk, Kd.freshB (g := gb289) (o := .cells #[.string ((rd_T31 l0 x16_1).f0), .slice A288_1 ((rd_T31 l0 x16_1).f1).length c288_1, .slice A288_2 ((rd_T31 l0 x16_1).f2).length c288_2] 31 (0, 0)) (by (with_reducible repeat (first | refine blk_drewN ?_ _ | refine blk_drew ?_ | refine blk_alloc ?_ _)); exact BK289.out) k_ hk⟩)); (case aO => exact (by (with_reducible repeat (first | apply Kd.N_alloc | apply Kd.N_drewN | apply Kd.N_drew)); exact Kd.N_mono HO_4.out (fun _ hk => ⟨hk.1.1, ⟨hk.1.2.1, ⟨hk.1.2.2.2.1, hk.1.2.2.2.2⟩⟩⟩))); (case aS => exact (below_size (by repeat (first | (with_reducible first | exact HB.out | apply below_alloc | apply pw_below_drewN | apply below_drew1 | refine below_set ?_ GE276.out | refine below_set ?_ GE289.out) | exact HB.out)))); (case aL => have := LMc33.out; omega); intro v336 w41 ho hb hg hat; rw [← Ny335.out] at ho; have n0_ := Aside0.mk (Kd.R_over' (by (with_reducible repeat (first | apply Kd.R_alloc | apply Kd.R_drewN | apply Kd.R_drew)); exact HO_20.out) (Kd.N_typed (by (with_reducible repeat (first | apply Kd.N_alloc | apply Kd.N_drewN | apply Kd.N_drew)); exact HO_4.out)) (by decide) hg); have n1_ := Aside0.mk (blk_grown (g := gb276) (o := .cells #[.string (⟨#[]⟩ : ByteArray), .int .i64 0, .bool false, .int .i64 0, .int .u64 0, .float .f64 0, .string (⟨#[]⟩ : ByteArray), .slice none 0 0] 39 (0, 0)) (by (with_reducible repeat (first | refine blk_drewN ?_ _ | refine blk_drew ?_ | refine blk_alloc ?_ _)); exact BK276.out) hg (Kd.N_away HO_4.out (fun _ hk => hk.1.2.2.2.1))); have n2_ := Aside0.mk (blk_grown (g := gb289) (o := .cells #[.string ((rd_T31 l0 x16_1).f0), .slice A288_1 ((rd_T31 l0 x16_1).f1).length c288_1, .slice A288_2 ((rd_T31 l0 x16_1).f2).length c288_2] 31 (0, 0)) (by (with_reducible repeat (first | refine blk_drewN ?_ _ | refine blk_drew ?_ | refine blk_alloc ?_ _)); exact BK289.out) hg (Kd.N_ne HO_4.out BK289.out (by decide))); have n3_ := Aside0.mk (Kd.N_afterv (ok := (fun k_ => (w.heap.size ≤ k_) ∧ some k_ ≠ (.slice Ao14 y290.length co14 : Value).ownBlock ∧ k_ ≠ gb276 ∧ k_ ≠ gb289)) (by (with_reducible repeat (first | apply Kd.N_alloc | apply Kd.N_drewN | apply Kd.N_drew)); exact Kd.N_mono HO324.out (fun _ hk => ⟨⟨hk.1, ⟨hk.2.2.1, ⟨hk.2.2.2.1, hk.2.2.2.2⟩⟩⟩, hk.2.1⟩)) hg hat); have n4_ := Aside0.mk (Kd.V_afterv (ok := (fun k_ => (w.heap.size ≤ k_) ∧ some k_ ≠ (.slice Ao14 y290.length co14 : Value).ownBlock ∧ k_ ≠ gb276 ∧ k_ ≠ gb289)) (by (with_reducible repeat (first | apply Kd.V_alloc | apply Kd.V_drewN | apply Kd.V_drew)); exact Kd.V_mono HO334.out (fun _ hk => ⟨⟨hk.1, ⟨hk.2.2.1, ⟨hk.2.2.2.1, hk.2.2.2.2⟩⟩⟩, hk.2.1⟩)) hg hat); have n5_ := Aside0.mk (hb); have n6_ := Aside0.mk (ho); clear HO_20; clear BK276; clear BK289; clear HO324; clear HO334; clear HB; clear HO_4; have HO_20 := n0_; have BK276 := n1_; have BK289 := n2_; have HO324 := n3_; have HO334 := n4_; have HB := n5_; have HO337 := n6_; clear n0_ n1_ n2_ n3_ n4_ n5_ n6_; clear ho hb hg hat))
        go_roundg k2
        case measure => have := HK1.out; have := HK2.out; omega
        case rel => exact ⟨(y335), (wrap64 (x16_1 + 1)), (by first | rfl | (simp; done) | (simp [*]; done)), H', ⟨by have := HK1.out; have := HK2.out; omega⟩, ⟨by (with_reducible repeat (first | apply Kd.N_alloc | apply Kd.N_drewN | apply Kd.N_drew)); exact Kd.N_mono HO337.out (fun _ hk => ⟨hk.1, hk.2.2.1⟩)⟩, ⟨by (with_reducible repeat (first | refine blk_drewN ?_ _ | refine blk_drew ?_ | refine blk_alloc ?_ _)); exact BK276.out⟩, ⟨by repeat (first | (with_reducible first | exact HB.out | apply below_alloc | apply pw_below_drewN | apply below_drew1 | refine below_set ?_ GE276.out | refine below_set ?_ GE289.out) | exact HB.out)⟩⟩
    ·rw [if_neg c6] at H
     have c6b0 : decide (x16_1 < (l0.length : Int)) = false := decide_eq_false c6
     clear c6
     replace H := Option.bind_eq_some_iff.mp H
     obtain ⟨⟨t278, t279, t280, t281, t282, t283, t284, t285⟩, A430, H⟩ := H
     replace H : (some (t278, t279, t280, t281, t282, t283, t284, t285, 1)) = some (r1, r2, r3, r4, r5, r6, r7, r8, r9) := H
     have A43 := Aside0.mk A430
     clear A430
     simp only [Option.some.injEq, Prod.mk.injEq] at H
     obtain ⟨rfl, rfl, rfl, rfl, rfl, rfl, rfl, rfl, rfl⟩ := H
     obtain ⟨Ao44, co44, eo44⟩ := Kd.N_slice HO_4.out
     subst eo44
     go_wp2_with (first | ((with_reducible refine gate_callee (f := 66) rfl ?_); refine goesL_ (some 54) rfl rfl Tryz.func66 (by kernel_rfl) rfl #[.string (⟨#[]⟩ : ByteArray), .slice Ao44 x4_1.length co44] rfl (by (try simp only [List.map_toArray, List.map_cons, List.map_nil]); first | done | rfl | (simp only [List.length_drop, List.length_take]; rfl)) ?_; (with_reducible refine (spec_listNode.calls (⟨#[]⟩ : ByteArray) (fun k_ => ((w.heap.size ≤ k_) ∧ k_ ≠ gb276)) _ _ x4_1 t278 t279 t280 t281 t282 t283 t284 t285 _ ?side1 A43.out).mono ?_); (case side1 => exact Kd.N_V (HO_4.out)); rintro e w45 ⟨v286, rfl, ho0, hb⟩; refine ⟨_, rfl, ?_⟩; have n0_ := Aside0.mk (Kd.N_below (by (with_reducible repeat (first | apply Kd.N_alloc | apply Kd.N_drewN | apply Kd.N_drew)); exact HO_4.out) hb); have n1_ := Aside0.mk (Kd.V_lower (Kd.V_mono (ok' := fun k_ => (w.heap.size ≤ k_) ∧ k_ ≠ gb276) ho0 (fun k_ hk_ => ⟨Or.elim hk_ (fun hs_ => hs_.1) (fun hn_ => (Nat.le_trans (below_size (by repeat (first | (with_reducible first | exact HB.out | apply below_alloc | apply pw_below_drewN | apply below_drew1 | refine below_set ?_ GE276.out) | exact HB.out))) hn_)), Or.elim hk_ (fun hs_ => hs_.2) (fun hn_ => (Kd.freshB (g := gb276) (o := .cells #[.string (⟨#[]⟩ : ByteArray), .int .i64 0, .bool false, .int .i64 0, .int .u64 0, .float .f64 0, .string (⟨#[]⟩ : ByteArray), .slice none 0 0] 39 (0, 0)) (by (with_reducible repeat (first | refine blk_drewN ?_ _ | refine blk_drew ?_ | refine blk_alloc ?_ _)); exact BK276.out) k_ hn_))⟩)) (below_size (by repeat (first | (with_reducible first | exact HB.out | apply below_alloc | apply pw_below_drewN | apply below_drew1 | refine below_set ?_ GE276.out) | exact HB.out)))); have n2_ := Aside0.mk (blk_below (g := gb276) (o := .cells #[.string (⟨#[]⟩ : ByteArray), .int .i64 0, .bool false, .int .i64 0, .int .u64 0, .float .f64 0, .string (⟨#[]⟩ : ByteArray), .slice none 0 0] 39 (0, 0)) (by (with_reducible repeat (first | refine blk_drewN ?_ _ | refine blk_drew ?_ | refine blk_alloc ?_ _)); exact BK276.out) hb); have n3_ := Aside0.mk (below_step (by repeat (first | (with_reducible first | exact HB.out | apply below_alloc | apply pw_below_drewN | apply below_drew1 | refine below_set ?_ GE276.out) | exact HB.out)) hb); clear HO_4; clear BK276; clear HB; have HO_4 := n0_; have HO287 := n1_; have BK276 := n2_; have HB := n3_; clear n0_ n1_ n2_ n3_; (try clear hb); (try clear hb2); (try clear hk); (try clear hi); (try clear ho0); have hcz46_0 : w45.cell? ⟨gb276, 0, none⟩ = some (.string (⟨#[]⟩ : ByteArray)) := (blk_cell BK276.out 0).trans rfl; have hcz46_1 : w45.cell? ⟨gb276, 1, none⟩ = some (.int .i64 0) := (blk_cell BK276.out 1).trans rfl; have hcz46_2 : w45.cell? ⟨gb276, 2, none⟩ = some (.bool false) := (blk_cell BK276.out 2).trans rfl; have hcz46_3 : w45.cell? ⟨gb276, 3, none⟩ = some (.int .i64 0) := (blk_cell BK276.out 3).trans rfl; have hcz46_4 : w45.cell? ⟨gb276, 4, none⟩ = some (.int .u64 0) := (blk_cell BK276.out 4).trans rfl; have hcz46_5 : w45.cell? ⟨gb276, 5, none⟩ = some (.float .f64 0) := (blk_cell BK276.out 5).trans rfl; have hcz46_6 : w45.cell? ⟨gb276, 6, none⟩ = some (.string (⟨#[]⟩ : ByteArray)) := (blk_cell BK276.out 6).trans rfl; have hcz46_7 : w45.cell? ⟨gb276, 7, none⟩ = some (.slice none 0 0) := (blk_cell BK276.out 7).trans rfl; have hfz46_0 := blk_frozen BK276.out 0; have hfz46_1 := blk_frozen BK276.out 1; have hfz46_2 := blk_frozen BK276.out 2; have hfz46_3 := blk_frozen BK276.out 3; have hfz46_4 := blk_frozen BK276.out 4; have hfz46_5 := blk_frozen BK276.out 5; have hfz46_6 := blk_frozen BK276.out 6; have hfz46_7 := blk_frozen BK276.out 7; obtain ⟨Ao47, co47, eo47⟩ := Kd.V_slice HO287.out; subst eo47))
     refine bodyPost_ret (results_ct rfl _ _ gb276 39 #[.string t278, .int .i64 t279, .bool t280, .int .i64 t281, .int .u64 t282, .float .f64 t283, .string t284, .slice Ao47 t285.length co47] (0, 0) _ rfl (by (with_reducible repeat (first | refine blk_drewN ?_ _ | refine blk_drew ?_ | refine blk_alloc ?_ _)); refine blk_put (cs := #[.string t278, .int .i64 t279, .bool t280, .int .i64 t281, .int .u64 t282, .float .f64 t283, .string t284, .slice none 0 0]) ?_ 7 _ rfl; (with_reducible repeat (first | refine blk_drewN ?_ _ | refine blk_drew ?_ | refine blk_alloc ?_ _)); refine blk_put (cs := #[.string t278, .int .i64 t279, .bool t280, .int .i64 t281, .int .u64 t282, .float .f64 t283, .string (⟨#[]⟩ : ByteArray), .slice none 0 0]) ?_ 6 _ rfl; (with_reducible repeat (first | refine blk_drewN ?_ _ | refine blk_drew ?_ | refine blk_alloc ?_ _)); refine blk_put (cs := #[.string t278, .int .i64 t279, .bool t280, .int .i64 t281, .int .u64 t282, .float .f64 0, .string (⟨#[]⟩ : ByteArray), .slice none 0 0]) ?_ 5 _ rfl; (with_reducible repeat (first | refine blk_drewN ?_ _ | refine blk_drew ?_ | refine blk_alloc ?_ _)); refine blk_put (cs := #[.string t278, .int .i64 t279, .bool t280, .int .i64 t281, .int .u64 0, .float .f64 0, .string (⟨#[]⟩ : ByteArray), .slice none 0 0]) ?_ 4 _ rfl; (with_reducible repeat (first | refine blk_drewN ?_ _ | refine blk_drew ?_ | refine blk_alloc ?_ _)); refine blk_put (cs := #[.string t278, .int .i64 t279, .bool t280, .int .i64 0, .int .u64 0, .float .f64 0, .string (⟨#[]⟩ : ByteArray), .slice none 0 0]) ?_ 3 _ rfl; (with_reducible repeat (first | refine blk_drewN ?_ _ | refine blk_drew ?_ | refine blk_alloc ?_ _)); refine blk_put (cs := #[.string t278, .int .i64 t279, .bool false, .int .i64 0, .int .u64 0, .float .f64 0, .string (⟨#[]⟩ : ByteArray), .slice none 0 0]) ?_ 2 _ rfl; (with_reducible repeat (first | refine blk_drewN ?_ _ | refine blk_drew ?_ | refine blk_alloc ?_ _)); refine blk_put (cs := #[.string t278, .int .i64 0, .bool false, .int .i64 0, .int .u64 0, .float .f64 0, .string (⟨#[]⟩ : ByteArray), .slice none 0 0]) ?_ 1 _ rfl; (with_reducible repeat (first | refine blk_drewN ?_ _ | refine blk_drew ?_ | refine blk_alloc ?_ _)); refine blk_put (cs := #[.string (⟨#[]⟩ : ByteArray), .int .i64 0, .bool false, .int .i64 0, .int .u64 0, .float .f64 0, .string (⟨#[]⟩ : ByteArray), .slice none 0 0]) ?_ 0 _ rfl; (with_reducible repeat (first | refine blk_drewN ?_ _ | refine blk_drew ?_ | refine blk_alloc ?_ _)); exact BK276.out) Tryz.underlying39 rfl (by kernel_rfl)) rfl ?_
     exact ⟨_, by first | rfl | (simp [errW_none, errW_some] <;> rfl) | (simp [*, errW_none, errW_some] <;> rfl), by (with_reducible repeat (first | apply Kd.V_alloc | apply Kd.V_drewN | apply Kd.V_drew)); exact Kd.V_mono (Kd.V_far (p := ⟨gb276, 7, none⟩) (Kd.V_far (p := ⟨gb276, 6, none⟩) (Kd.V_far (p := ⟨gb276, 5, none⟩) (Kd.V_far (p := ⟨gb276, 4, none⟩) (Kd.V_far (p := ⟨gb276, 3, none⟩) (Kd.V_far (p := ⟨gb276, 2, none⟩) (Kd.V_far (p := ⟨gb276, 1, none⟩) (Kd.V_far (p := ⟨gb276, 0, none⟩) (Kd.V_mono HO287.out (fun k_ hk => (⟨hk, hk.2⟩ : _ ∧ k_ ≠ gb276))) (fun _ hk => hk.2) (.string t278)) (fun _ hk => hk.2) (.int .i64 t279)) (fun _ hk => hk.2) (.bool t280)) (fun _ hk => hk.2) (.int .i64 t281)) (fun _ hk => hk.2) (.int .u64 t282)) (fun _ hk => hk.2) (.float .f64 t283)) (fun _ hk => hk.2) (.string t284)) (fun _ hk => hk.2) (.slice Ao47 t285.length co47)) (fun _ hk => hk.1.1), by repeat (first | (with_reducible first | exact HB.out | apply below_alloc | apply pw_below_drewN | apply below_drew1 | refine below_set ?_ GE276.out) | exact HB.out)⟩
 ·replace c3 := Bool.eq_false_iff.mpr c3
  subst c3
  have H1 : (some ((⟨#[]⟩ : ByteArray), 0, false, 0, 0, 0, (⟨#[]⟩ : ByteArray), ([] : List (S39)), 2)) = some (r1, r2, r3, r4, r5, r6, r7, r8, r9) := by rw [if_neg (show ¬ (false = true) by decide)] at H; exact H
  clear H
  have H := H1
  clear H1
  simp only [Option.some.injEq, Prod.mk.injEq] at H
  obtain ⟨rfl, rfl, rfl, rfl, rfl, rfl, rfl, rfl, rfl⟩ := H
  go_enter Tryz.func31, Tryz.ntmps31
  go_wp2_with (first | ((with_reducible refine gate_dst (N := 2) rfl ?_); refine box_event ?hg (N := 2) ?hd (cs := #[.string (⟨#[]⟩ : ByteArray), .int .i64 0, .bool false, .int .i64 0, .int .u64 0, .float .f64 0, .string (⟨#[]⟩ : ByteArray), .slice none 0 0]) (t := 39) ?hr ?_; (case hd => rfl); (case hg => rfl); (case hr => first | (go_simp; done) | (go_simp; rfl)); intro gb276 hg w48 hbox hb; have n0_ := Aside0.mk (below_step (by repeat (first | (with_reducible first | exact HB.out | apply below_alloc | apply pw_below_drewN | apply below_drew1) | exact HB.out)) hb); have n1_ := Aside0.mk (hbox); have n2_ := Aside0.mk ((by rw [hg]; exact (below_size (by repeat (first | (with_reducible first | exact HB.out | apply below_alloc | apply pw_below_drewN | apply below_drew1) | exact HB.out))) : w.heap.size ≤ gb276)); have n3_ := Aside0.mk ((by rw [hg]; exact (below_size (by repeat (first | (with_reducible first | exact HB.out | apply below_alloc | apply pw_below_drewN | apply below_drew1) | exact HB.out))) : w.heap.size ≤ gb276)); clear HB; have HB := n0_; have BK276 := n1_; have GW276 := n2_; have GE276 := n3_; clear n0_ n1_ n2_ n3_; clear hb hbox hg) | ((with_reducible refine gate_callee (f := 96) rfl ?_); refine goesL_ (some 11) rfl rfl Tryz.func96 (by kernel_rfl) rfl #[.slice A0 l0.length c0] rfl (by (try simp only [List.map_toArray, List.map_cons, List.map_nil]); first | done | rfl | (simp only [List.length_drop, List.length_take]; rfl)) ?_; (with_reducible refine (spec_softnetFine.calls k _ _ l0 false _ ?side1 ?side2 A2.out).mono ?_); (case side1 => repeat (first | exact (Kd.C_below HR0.out HB.out) | (with_reducible refine Kd.C_alloc ?_ _) | (with_reducible refine Kd.C_drewN ?_ _) | (with_reducible refine Kd.C_drew ?_))); (case side2 => exact HC0.out); rintro e w49 ⟨rfl, hb⟩; refine ⟨_, rfl, ?_⟩; have n0_ := Aside0.mk (blk_below (g := gb276) (o := .cells #[.string (⟨#[]⟩ : ByteArray), .int .i64 0, .bool false, .int .i64 0, .int .u64 0, .float .f64 0, .string (⟨#[]⟩ : ByteArray), .slice none 0 0] 39 (0, 0)) (by (with_reducible repeat (first | refine blk_drewN ?_ _ | refine blk_drew ?_ | refine blk_alloc ?_ _)); exact BK276.out) hb); have n1_ := Aside0.mk (below_step (by repeat (first | (with_reducible first | exact HB.out | apply below_alloc | apply pw_below_drewN | apply below_drew1 | refine below_set ?_ GE276.out) | exact HB.out)) hb); clear BK276; clear HB; have BK276 := n0_; have HB := n1_; clear n0_ n1_; (try clear hb); (try clear hb2); (try clear hk); (try clear hi); have hcz50_0 : w49.cell? ⟨gb276, 0, none⟩ = some (.string (⟨#[]⟩ : ByteArray)) := (blk_cell BK276.out 0).trans rfl; have hcz50_1 : w49.cell? ⟨gb276, 1, none⟩ = some (.int .i64 0) := (blk_cell BK276.out 1).trans rfl; have hcz50_2 : w49.cell? ⟨gb276, 2, none⟩ = some (.bool false) := (blk_cell BK276.out 2).trans rfl; have hcz50_3 : w49.cell? ⟨gb276, 3, none⟩ = some (.int .i64 0) := (blk_cell BK276.out 3).trans rfl; have hcz50_4 : w49.cell? ⟨gb276, 4, none⟩ = some (.int .u64 0) := (blk_cell BK276.out 4).trans rfl; have hcz50_5 : w49.cell? ⟨gb276, 5, none⟩ = some (.float .f64 0) := (blk_cell BK276.out 5).trans rfl; have hcz50_6 : w49.cell? ⟨gb276, 6, none⟩ = some (.string (⟨#[]⟩ : ByteArray)) := (blk_cell BK276.out 6).trans rfl; have hcz50_7 : w49.cell? ⟨gb276, 7, none⟩ = some (.slice none 0 0) := (blk_cell BK276.out 7).trans rfl; have hfz50_0 := blk_frozen BK276.out 0; have hfz50_1 := blk_frozen BK276.out 1; have hfz50_2 := blk_frozen BK276.out 2; have hfz50_3 := blk_frozen BK276.out 3; have hfz50_4 := blk_frozen BK276.out 4; have hfz50_5 := blk_frozen BK276.out 5; have hfz50_6 := blk_frozen BK276.out 6; have hfz50_7 := blk_frozen BK276.out 7))
  refine bodyPost_ret (results_ct rfl _ _ gb276 39 #[.string (⟨#[]⟩ : ByteArray), .int .i64 0, .bool false, .int .i64 0, .int .u64 0, .float .f64 0, .string (⟨#[]⟩ : ByteArray), .slice none 0 0] (0, 0) _ rfl (by (with_reducible repeat (first | refine blk_drewN ?_ _ | refine blk_drew ?_ | refine blk_alloc ?_ _)); refine blk_put (cs := #[.string (⟨#[]⟩ : ByteArray), .int .i64 0, .bool false, .int .i64 0, .int .u64 0, .float .f64 0, .string (⟨#[]⟩ : ByteArray), .slice none 0 0]) ?_ 7 _ rfl; (with_reducible repeat (first | refine blk_drewN ?_ _ | refine blk_drew ?_ | refine blk_alloc ?_ _)); refine blk_put (cs := #[.string (⟨#[]⟩ : ByteArray), .int .i64 0, .bool false, .int .i64 0, .int .u64 0, .float .f64 0, .string (⟨#[]⟩ : ByteArray), .slice none 0 0]) ?_ 6 _ rfl; (with_reducible repeat (first | refine blk_drewN ?_ _ | refine blk_drew ?_ | refine blk_alloc ?_ _)); refine blk_put (cs := #[.string (⟨#[]⟩ : ByteArray), .int .i64 0, .bool false, .int .i64 0, .int .u64 0, .float .f64 0, .string (⟨#[]⟩ : ByteArray), .slice none 0 0]) ?_ 5 _ rfl; (with_reducible repeat (first | refine blk_drewN ?_ _ | refine blk_drew ?_ | refine blk_alloc ?_ _)); refine blk_put (cs := #[.string (⟨#[]⟩ : ByteArray), .int .i64 0, .bool false, .int .i64 0, .int .u64 0, .float .f64 0, .string (⟨#[]⟩ : ByteArray), .slice none 0 0]) ?_ 4 _ rfl; (with_reducible repeat (first | refine blk_drewN ?_ _ | refine blk_drew ?_ | refine blk_alloc ?_ _)); refine blk_put (cs := #[.string (⟨#[]⟩ : ByteArray), .int .i64 0, .bool false, .int .i64 0, .int .u64 0, .float .f64 0, .string (⟨#[]⟩ : ByteArray), .slice none 0 0]) ?_ 3 _ rfl; (with_reducible repeat (first | refine blk_drewN ?_ _ | refine blk_drew ?_ | refine blk_alloc ?_ _)); refine blk_put (cs := #[.string (⟨#[]⟩ : ByteArray), .int .i64 0, .bool false, .int .i64 0, .int .u64 0, .float .f64 0, .string (⟨#[]⟩ : ByteArray), .slice none 0 0]) ?_ 2 _ rfl; (with_reducible repeat (first | refine blk_drewN ?_ _ | refine blk_drew ?_ | refine blk_alloc ?_ _)); refine blk_put (cs := #[.string (⟨#[]⟩ : ByteArray), .int .i64 0, .bool false, .int .i64 0, .int .u64 0, .float .f64 0, .string (⟨#[]⟩ : ByteArray), .slice none 0 0]) ?_ 1 _ rfl; (with_reducible repeat (first | refine blk_drewN ?_ _ | refine blk_drew ?_ | refine blk_alloc ?_ _)); refine blk_put (cs := #[.string (⟨#[]⟩ : ByteArray), .int .i64 0, .bool false, .int .i64 0, .int .u64 0, .float .f64 0, .string (⟨#[]⟩ : ByteArray), .slice none 0 0]) ?_ 0 _ rfl; (with_reducible repeat (first | refine blk_drewN ?_ _ | refine blk_drew ?_ | refine blk_alloc ?_ _)); exact BK276.out) Tryz.underlying39 rfl (by kernel_rfl)) rfl ?_
  exact ⟨_, by first | rfl | (simp [errW_none, errW_some] <;> rfl) | (simp [*, errW_none, errW_some] <;> rfl), Kd.N_V (base := 0) (by first | exact Kd.R_nil _ _ _ _ _ | exact Kd.N_nil _ _ _ _ _ | exact Kd.V_nil _ _ _ _ _ | exact Kd.Q_nil _ _ _ _ _ | exact Kd.S_nil _ _ _ _ _), by repeat (first | (with_reducible first | exact HB.out | apply below_alloc | apply pw_below_drewN | apply below_drew1 | refine below_set ?_ GE276.out) | exact HB.out)⟩
end Go.Proofs.YtednjmngalmdkaaGreatDoor.GPC
end
section
/- laws.back at Softnet: it answers true where BackOk holds. Conditions: BackOk; the tables as laid. -/
namespace Go.Proofs.YtednjmngalmdkaaGreatDoor.GPC
open Go.RowKit Go.Proofs.YtednjmngalmdkaaGreatDoorW.PrintWords Go.Proofs.YtednjmngalmdkaaGreatDoorW.PrintLast
set_option linter.unusedVariables false
set_option linter.unusedSimpArgs false
attribute [local go_sem] run_store_float
set_option maxHeartbeats 16000000 in
set_option maxRecDepth 100000 in
theorem backSoftnet (A0 : Option Addr) (c0 : Nat) (l0 : List S31) (w : World) (hr0 : Kd.C k31 w A0 l0.length l0) (hc0 : l0.length ≤ c0) (hT : TabW w) (h : BackOk (fun k => spec_SoftnetPrint.f k l0) (fun k => spec_SoftnetTree.f k l0) (fun s n => doorSoftnet s n) l0) :
  Calls Tryz.prog 14 #[.slice A0 l0.length c0, .func (.func 30) #[] #[], .func (.func 31) #[] #[], .func (.func 32) #[] #[]] w fun e w' => e = .returned (.bool true) ∧ Below w.heap.size w w' := by
 have HR := Aside0.mk hr0
 have HT := Aside0.mk hT
 have HC := Aside0.mk hc0
 clear hr0 hT hc0
 cases h with
 | long h1 =>
  have d1 : decide ((l0.length : Int) > 1000) = true := decide_eq_true (by omega)
  have d1' : decide (1000 < l0.length) = true := decide_eq_true (by omega)
  go_enter Tryz.func14, Tryz.ntmps14
  go_wp2
  go_ret
  exact ⟨rfl, Below.refl _ _⟩
 | noPrint h1 k text told hp hno =>
  have d1 : decide ((l0.length : Int) > 1000) = false := decide_eq_false (by omega)
  have d1' : decide (1000 < l0.length) = false := decide_eq_false (by omega)
  have HP := Aside0.mk hp
  clear hp h1
  go_enter Tryz.func14, Tryz.ntmps14
  have hd : (told != 1) = true ∨ (told != 1) = false ∧ decide ((text.size : Int) > 40000) = true := by
   rcases hno with hh | hh
   ·exact .inl (by simpa using hh)
   ·by_cases he : told = 1
    ·exact .inr ⟨by simp [he], decide_eq_true (by omega)⟩
    ·exact .inl (by simpa using he)
  rcases hd with q1 | ⟨q1, q2⟩
  all_goals (go_wp2_with (first
   | (go_at_call 30; refine (spec_SoftnetPrint.calls k A0 c0 l0 text told _ HR.out HC.out HP.out).mono ?_; rintro e w1 ⟨rfl, hb⟩; have HB1 := Aside0.mk hb; clear hb)
   | (go_at_call 46; refine (lives_calls _ (tabW_below HT.out HB1.out)).mono ?_; rintro e w2 ⟨rfl, hb⟩; have HB2 := Aside0.mk (below_then HB1.out HB1.out.size hb); clear hb)))
  all_goals go_ret
  all_goals exact ⟨rfl, HB2.out⟩
 | noTree h1 k text hp hsz r tt ht hno =>
  have d1 : decide ((l0.length : Int) > 1000) = false := decide_eq_false (by omega)
  have d1' : decide (1000 < l0.length) = false := decide_eq_false (by omega)
  have q2 : decide ((text.size : Int) > 40000) = false := decide_eq_false (by omega)
  have q2' : decide (40000 < text.size) = false := decide_eq_false (by omega)
  have q3 : (tt != 1) = true := by simpa using hno
  have HP := Aside0.mk hp
  have HTR := Aside0.mk ht
  clear hp ht h1 hno hsz
  obtain ⟨r1, r2, r3, r4, r5, r6, r7, r8⟩ := r
  go_enter Tryz.func14, Tryz.ntmps14
  go_wp2_with (first
   | (go_at_call 30; refine (spec_SoftnetPrint.calls k A0 c0 l0 text 1 _ HR.out HC.out HP.out).mono ?_; rintro e w1 ⟨rfl, hb⟩; have HB1 := Aside0.mk hb; clear hb)
   | (go_at_call 31; refine (spec_SoftnetTree.calls k A0 c0 l0 r1 r2 r3 r4 r5 r6 r7 r8 tt _ (Kd.C_below HR.out HB1.out) HC.out HTR.out).mono ?_; rintro e w2 ⟨v7, rfl, hv, hb⟩; have HB2 := Aside0.mk (below_then HB1.out HB1.out.size hb); clear hb)
   | ((with_reducible refine gate_dst (N := 11) rfl ?_); refine box_event ?hg (N := 11) ?hd (cs := nodeZero) (t := 39) ?hr ?_; (case hd => rfl); (case hg => rfl); (case hr => first | (go_simp; done) | (go_simp; rfl)); intro gb hgb w3 hbox hb; have HBX := Aside0.mk hbox; have HB3 := Aside0.mk (below_then HB2.out HB2.out.size hb); have HGB := Aside0.mk (show w.heap.size ≤ gb by rw [hgb]; exact HB2.out.size); clear hgb hbox hb)
   | ((with_reducible refine gate_ (.store 39 (.tmp 11) (.tmp 35)) rfl ?_); refine box_store rfl rfl 39 (.tmp 11) (.tmp 35) rfl gb 39 nodeZero (snodeVal ⟨r1, r2, r3, r4, r5, r6, r7, r8⟩ v7) (snodeCells ⟨r1, r2, r3, r4, r5, r6, r7, r8⟩ v7) rfl rfl rfl snode_size (snode_one (Kd.V_sl hv)) HBX.out rfl ?_; intro w4 hbk hgr; have HB4 := Aside0.mk (pw_below_grown HB3.out (some gb) HB3.out.size hgr (fun k e => by cases e; exact HGB.out)); clear hbk hgr)
   | (go_at_call 46; refine (lives_calls _ (tabW_below HT.out HB4.out)).mono ?_; rintro e w5 ⟨rfl, hb⟩; have HB5 := Aside0.mk (below_then HB4.out HB4.out.size hb); clear hb))
  go_ret
  exact ⟨rfl, HB5.out⟩
 | same h1 k text hp hsz r ht n hd k2 m hm hs =>
  have d1 : decide ((l0.length : Int) > 1000) = false := decide_eq_false (by omega)
  have d1' : decide (1000 < l0.length) = false := decide_eq_false (by omega)
  have q2 : decide ((text.size : Int) > 40000) = false := decide_eq_false (by omega)
  have q2' : decide (40000 < text.size) = false := decide_eq_false (by omega)
  have HP := Aside0.mk hp
  have HTR := Aside0.mk ht
  have HD := Aside0.mk hd
  have HM := Aside0.mk hm
  have HS := Aside0.mk hs
  clear hp ht h1 hsz hd hm hs
  obtain ⟨r1, r2, r3, r4, r5, r6, r7, r8⟩ := r
  obtain ⟨m1, m2, m3, m4, m5, m6, m7, m8⟩ := m
  go_enter Tryz.func14, Tryz.ntmps14
  go_wp2_with (first
   | (go_at_call 30; refine (spec_SoftnetPrint.calls k A0 c0 l0 text 1 _ HR.out HC.out HP.out).mono ?_; rintro e w1 ⟨rfl, hb⟩; have HB1 := Aside0.mk hb; clear hb)
   | (go_at_call 31; refine (spec_SoftnetTree.calls k A0 c0 l0 r1 r2 r3 r4 r5 r6 r7 r8 1 _ (Kd.C_below HR.out HB1.out) HC.out HTR.out).mono ?_; rintro e w2 ⟨v7, rfl, hv, hb⟩; obtain ⟨At, ct, rfl, hlt, hFt⟩ := hv; have HCT := Aside0.mk (Kd.F_now hFt); have HLT := Aside0.mk hlt; have HB2 := Aside0.mk (below_then HB1.out HB1.out.size hb); clear hb hlt hFt)
   | ((with_reducible refine gate_dst (N := 11) rfl ?_); refine box_event ?hg (N := 11) ?hd (cs := nodeZero) (t := 39) ?hr ?_; (case hd => rfl); (case hg => rfl); (case hr => first | (go_simp; done) | (go_simp; rfl)); intro gb hgb w3 hbox hb; have HBX := Aside0.mk hbox; have HB3 := Aside0.mk hb; have HGB := Aside0.mk (show w2.heap.size ≤ gb by rw [hgb]; exact Nat.le_refl _); clear hgb hbox hb)
   | ((with_reducible refine gate_ (.store 39 (.tmp 11) (.tmp 35)) rfl ?_); refine box_store rfl rfl 39 (.tmp 11) (.tmp 35) rfl gb 39 nodeZero (snodeVal ⟨r1, r2, r3, r4, r5, r6, r7, r8⟩ (.slice At r8.length ct)) (snodeCells ⟨r1, r2, r3, r4, r5, r6, r7, r8⟩ (.slice At r8.length ct)) rfl rfl rfl snode_size (snode_one ⟨_, _, rfl⟩) HBX.out rfl ?_; intro w4 hbk hgr; have HW := Aside0.mk hbk; have HB4 := Aside0.mk (pw_below_grown HB3.out (some gb) HB3.out.size hgr (fun k e => by cases e; exact HGB.out)); clear hbk hgr)
   | (go_at_call 32; refine (doorSoftnet_calls text n _ (tabW_below HT.out (below_then HB2.out HB2.out.size HB4.out)) HD.out).mono ?_; rintro e w5 ⟨v9, rfl, ho, hb⟩; obtain ⟨Ag, cg, rfl⟩ := ho.slice; obtain ⟨_, hlg, hCg⟩ := Kd.R_reads' ho; have HCG := Aside0.mk hCg; have HLG := Aside0.mk hlg; have HW5 := Aside0.mk (blk_below HW.out hb); have HB5 := Aside0.mk (below_then HB4.out HB4.out.size hb); clear ho hb hlg hCg)
   | ((with_reducible refine gate_dst (N := 12) rfl ?_); refine box_event ?hg (N := 12) ?hd (cs := nodeZero) (t := 43) ?hr ?_; (case hd => rfl); (case hg => rfl); (case hr => first | (go_simp; done) | (go_simp; rfl)); intro gc hgc w6 hbox hb; have HCX := Aside0.mk hbox; have HW6 := Aside0.mk (blk_below HW5.out hb); have HB6 := Aside0.mk hb; have HGC := Aside0.mk (show w5.heap.size ≤ gc by rw [hgc]; exact Nat.le_refl _); have HNE := Aside0.mk (show gb < gc by rw [hgc]; exact blk_lt HW5.out); clear hgc hbox hb)
   | ((with_reducible refine gate_ (.store 43 (.tmp 12) (.tmp 44)) rfl ?_); refine box_store rfl rfl 43 (.tmp 12) (.tmp 44) rfl gc 43 nodeZero (nodeVal n (.slice Ag n.f7.length cg)) (nodeCells n (.slice Ag n.f7.length cg)) rfl rfl rfl node_size (node_one ⟨_, _, rfl⟩) HCX.out rfl ?_; intro w7 hbk hgr; have HG7 := Aside0.mk hbk; have HW7 := Aside0.mk (blk_grown HW6.out hgr (by have := HNE.out; intro e; injection e with e; omega)); have HB7 := Aside0.mk (pw_below_grown HB6.out (some gc) HB6.out.size hgr (fun k e => by cases e; exact HGC.out)); clear hbk hgr))
  have HB27 := Aside0.mk (below_then HB5.out HB5.out.size HB7.out)
  have HB07 := Aside0.mk (below_then HB2.out HB2.out.size HB27.out)
  have KA : Aside0 (∀ W : World, Below w7.heap.size w7 W → (Below w7.heap.size w7 W ∧ W.cell? ⟨gc, 0, none⟩ = some (.string n.f0) ∧ W.cell? ⟨gc, 1, none⟩ = some (.int .i64 n.f1) ∧ W.cell? ⟨gc, 2, none⟩ = some (.bool n.f2) ∧ W.cell? ⟨gc, 3, none⟩ = some (.int .i64 n.f3) ∧ W.cell? ⟨gc, 4, none⟩ = some (.int .u64 n.f4) ∧ W.cell? ⟨gc, 5, none⟩ = some (.float .f64 n.f5) ∧ W.cell? ⟨gc, 6, none⟩ = some (.string n.f6) ∧ W.cell? ⟨gc, 7, none⟩ = some (.slice Ag n.f7.length cg) ∧ W.cell? ⟨gb, 0, none⟩ = some (.string r1) ∧ W.cell? ⟨gb, 1, none⟩ = some (.int .i64 r2) ∧ W.cell? ⟨gb, 2, none⟩ = some (.bool r3) ∧ W.cell? ⟨gb, 3, none⟩ = some (.int .i64 r4) ∧ W.cell? ⟨gb, 4, none⟩ = some (.int .u64 r5) ∧ W.cell? ⟨gb, 5, none⟩ = some (.float .f64 r6) ∧ W.cell? ⟨gb, 6, none⟩ = some (.string r7) ∧ W.cell? ⟨gb, 7, none⟩ = some (.slice At r8.length ct))) := ⟨fun W hb => by
   have h1 := blk_below HG7.out hb
   have h2 := blk_below HW7.out hb
   exact ⟨hb, (blk_cell h1 0).trans rfl, (blk_cell h1 1).trans rfl, (blk_cell h1 2).trans rfl, (blk_cell h1 3).trans rfl, (blk_cell h1 4).trans rfl, (blk_cell h1 5).trans rfl, (blk_cell h1 6).trans rfl, (blk_cell h1 7).trans rfl, (blk_cell h2 0).trans rfl, (blk_cell h2 1).trans rfl, (blk_cell h2 2).trans rfl, (blk_cell h2 3).trans rfl, (blk_cell h2 4).trans rfl, (blk_cell h2 5).trans rfl, (blk_cell h2 6).trans rfl, (blk_cell h2 7).trans rfl⟩⟩
  go_region_held3 (fun W => Below w7.heap.size w7 W ∧ W.cell? ⟨gc, 0, none⟩ = some (.string n.f0) ∧ W.cell? ⟨gc, 1, none⟩ = some (.int .i64 n.f1) ∧ W.cell? ⟨gc, 2, none⟩ = some (.bool n.f2) ∧ W.cell? ⟨gc, 3, none⟩ = some (.int .i64 n.f3) ∧ W.cell? ⟨gc, 4, none⟩ = some (.int .u64 n.f4) ∧ W.cell? ⟨gc, 5, none⟩ = some (.float .f64 n.f5) ∧ W.cell? ⟨gc, 6, none⟩ = some (.string n.f6) ∧ W.cell? ⟨gc, 7, none⟩ = some (.slice Ag n.f7.length cg) ∧ W.cell? ⟨gb, 0, none⟩ = some (.string r1) ∧ W.cell? ⟨gb, 1, none⟩ = some (.int .i64 r2) ∧ W.cell? ⟨gb, 2, none⟩ = some (.bool r3) ∧ W.cell? ⟨gb, 3, none⟩ = some (.int .i64 r4) ∧ W.cell? ⟨gb, 4, none⟩ = some (.int .u64 r5) ∧ W.cell? ⟨gb, 5, none⟩ = some (.float .f64 r6) ∧ W.cell? ⟨gb, 6, none⟩ = some (.string r7) ∧ W.cell? ⟨gb, 7, none⟩ = some (.slice At r8.length ct))
   (first
    | exact KA.out _ (below_drew (Below.refl _ _))
    | (go_split_ands; exact KA.out _ (keepS (by assumption) hb'))
    | (go_split_ands; exact KA.out _ (below_drew (by assumption))))
   (first
    | (go_at_call 48; (with_reducible refine (laws_toNode.calls k2 n.f0 n.f1 n.f2 n.f3 n.f4 n.f5 n.f6 Ag cg n.f7 m1 m2 m3 m4 m5 m6 m7 m8 _ (by go_split_ands; exact Kd.C_below HCG.out (keepS HB7.out (by assumption))) HLG.out HM.out).mono ?_); rintro e w' ⟨v9, rfl, hom, hb'⟩; obtain ⟨Am, cm, rfl⟩ := Kd.R_slice hom)
    | (go_at_call 47; (with_reducible refine (spec_SameNode.calls k2 m1 m2 m3 m4 m5 m6 m7 Am cm m8 r1 r2 r3 r4 r5 r6 r7 At ct r8 true _ (by first | exact (Kd.R_reads' hom).2.2 | exact Kd.C_below (Kd.R_reads' hom).2.2 (below_drew (Below.refl _ _))) (Kd.R_reads' hom).2.1 (by go_split_ands; exact Kd.C_below HCT.out (keepS HB27.out (by assumption))) HLT.out HS.out).mono ?_); rintro e w' ⟨rfl, hb'⟩)
    | (go_at_call 46; (with_reducible refine (lives_calls _ (by go_split_ands; exact tabW_below HT.out (keepS HB07.out (by assumption)))).mono ?_); rintro e w' ⟨rfl, hb'⟩))
  go_split_ands
  go_wp2
  go_ret
  exact ⟨rfl, keepS HB07.out (by assumption)⟩
end Go.Proofs.YtednjmngalmdkaaGreatDoor.GPC
end
section
/- laws.FnSoftnetBack answers true where BackOk holds. Conditions: BackOk; the tables as laid. -/
namespace Go.Proofs.YtednjmngalmdkaaGreatDoor.GPC
open Go.RowKit Go.Proofs.YtednjmngalmdkaaGreatDoorW.PrintWords Go.Proofs.YtednjmngalmdkaaGreatDoorW.PrintLast
set_option linter.unusedVariables false
set_option maxHeartbeats 8000000 in
set_option maxRecDepth 100000 in
theorem lawSoftnet (A0 : Option Addr) (c0 : Nat) (l0 : List S31) (w : World) (hr0 : Kd.C k31 w A0 l0.length l0) (hc0 : l0.length ≤ c0) (hT : TabW w) (k : Nat) (b : Bool) (hz : laws_zzFits5.f k l0 = some b)
  (h : b = true → BackOk (fun k => spec_SoftnetPrint.f k l0) (fun k => spec_SoftnetTree.f k l0) (fun s n => doorSoftnet s n) l0) :
  Calls Tryz.prog 8 #[.slice A0 l0.length c0] w fun e w' => e = .returned (.bool true) ∧ Below w.heap.size w w' := by
 have HR := Aside0.mk hr0
 have HT := Aside0.mk hT
 have HC := Aside0.mk hc0
 have HZ := Aside0.mk hz
 have H := Aside0.mk h
 clear hr0 hT hc0 hz h
 cases b
 ·go_enter Tryz.func8, Tryz.ntmps8
  go_wp2_with (first
   | (go_at_call 13; refine (laws_zzFits5.calls k A0 c0 l0 false _ HR.out HC.out HZ.out).mono ?_; rintro e w1 ⟨rfl, hb⟩; have HB1 := Aside0.mk hb; clear hb))
  go_ret
  exact ⟨rfl, HB1.out⟩
 ·have H2 := Aside0.mk (H.out rfl)
  clear H
  go_enter Tryz.func8, Tryz.ntmps8
  go_wp2_with (first
   | (go_at_call 13; refine (laws_zzFits5.calls k A0 c0 l0 true _ HR.out HC.out HZ.out).mono ?_; rintro e w1 ⟨rfl, hb⟩; have HB1 := Aside0.mk hb; clear hb)
   | (go_at_call 14; refine (backSoftnet A0 c0 l0 _ (Kd.C_below HR.out HB1.out) HC.out (tabW_below HT.out HB1.out) H2.out).mono ?_; rintro e w2 ⟨rfl, hb⟩; have HB2 := Aside0.mk (keepS HB1.out hb); clear hb))
  go_ret
  exact ⟨rfl, HB2.out⟩
end Go.Proofs.YtednjmngalmdkaaGreatDoor.GPC
end
section
/- Plain facts: a tree of the door, handed over, is the same tree; a tree is the same as itself. Conditions: a depth, lists of at most a million parts. -/
namespace Go.Proofs.YtednjmngalmdkaaGreatDoor.GPC
open Go Go.RowKit Go.Proofs.YtednjmngalmdkaaGreatDoorW.PrintWords Go.Proofs.YtednjmngalmdkaaGreatDoorW.PrintLast
set_option linter.unusedVariables false
def tup39 (n : S39) : N8 S39 := (n.f0, n.f1, n.f2, n.f3, n.f4, n.f5, n.f6, n.f7)
def convN : Nat → S43 → S39
 | 0, n => ⟨n.f0, n.f1, n.f2, n.f3, n.f4, n.f5, n.f6, []⟩
 | d + 1, n => ⟨n.f0, n.f1, n.f2, n.f3, n.f4, n.f5, n.f6, n.f7.map (convN d)⟩
def FitN : Nat → S43 → Prop
 | 0, n => n.f7 = []
 | d + 1, n => n.f7.length ≤ 1000000 ∧ ∀ x ∈ n.f7, FitN d x
def FitS : Nat → S39 → Prop
 | 0, n => n.f7 = []
 | d + 1, n => n.f7.length ≤ 1000000 ∧ ∀ x ∈ n.f7, FitS d x
theorem fit_conv : ∀ (d : Nat) (n : S43), FitN d n → FitS d (convN d n)
 | 0, n, h => rfl
 | d + 1, n, h => ⟨by simpa [convN] using h.1, fun x hx => by
   simp only [convN, List.mem_map] at hx
   obtain ⟨y, hy, rfl⟩ := hx
   exact fit_conv d y (h.2 y hy)⟩
theorem rd43 (l : List S43) (i : Nat) (h : i < l.length) : rd_T43 l (i : Int) = l[i] := by
 simp [rd_T43, List.getD_eq_getElem?_getD, List.getElem?_eq_getElem h]
theorem rd39 (l : List S39) (i : Nat) (h : i < l.length) : rd_T39 l (i : Int) = l[i] := by
 simp [rd_T39, List.getD_eq_getElem?_getD, List.getElem?_eq_getElem h]
theorem eta39 (x : S39) : (⟨(tup39 x).1, (tup39 x).2.1, (tup39 x).2.2.1, (tup39 x).2.2.2.1, (tup39 x).2.2.2.2.1, (tup39 x).2.2.2.2.2.1, (tup39 x).2.2.2.2.2.2.1, (tup39 x).2.2.2.2.2.2.2⟩ : S39) = x := by cases x; rfl
theorem toNode_loop (l : List S43) (hl : l.length ≤ 1000000) (g : S43 → S39) (hg : ∀ x ∈ l, Ev (fun k => laws_toNode.f k x.f0 x.f1 x.f2 x.f3 x.f4 x.f5 x.f6 x.f7) (tup39 (g x))) (a0 : ByteArray) (a1 : Int) (a2 : Bool) (a3 a4 : Int) (a5 : Nat) (a6 : ByteArray) :
  ∀ (d i : Nat) (acc : List S39), i + d = l.length → acc.length ≤ i → Ev (fun k => laws_toNode.l0 k l (l.length : Int) (i : Int) a0 a1 a2 a3 a4 a5 a6 acc) (a0, a1, a2, a3, a4, a5, a6, acc ++ (l.drop i).map g)
 | 0, i, acc, h, ha => by
  rw [List.drop_eq_nil_of_le (by omega), List.map_nil, List.append_nil]
  exact Ev.step (f := fun _ => some (a0, a1, a2, a3, a4, a5, a6, acc)) (fun k => by simp only [laws_toNode.l0]; rw [if_neg (by omega)]) (Ev.now _)
 | d + 1, i, acc, h, ha => by
  have hi : i < l.length := by omega
  have hw : wrap64 ((i : Int) + 1) = ((i + 1 : Nat) : Int) := by unfold wrap64; omega
  have hx := hg l[i] (List.getElem_mem hi)
  have ih := toNode_loop l hl g hg a0 a1 a2 a3 a4 a5 a6 d (i + 1) (acc ++ [g l[i]]) (by omega) (by simp; omega)
  rw [List.append_assoc, List.singleton_append, ← List.map_cons, ← List.drop_eq_getElem_cons hi] at ih
  refine Ev.step (fun k => by simp only [laws_toNode.l0]; rw [if_pos (by omega), if_pos (by omega), if_pos (by omega), rd43 l i hi, hw]) (Ev.bind (f := fun k (bt : N8 S39) => if acc.length < 1466015503701 then (laws_toNode.l0 k l (l.length : Int) ((i + 1 : Nat) : Int) a0 a1 a2 a3 a4 a5 a6 (acc ++ [(⟨bt.1, bt.2.1, bt.2.2.1, bt.2.2.2.1, bt.2.2.2.2.1, bt.2.2.2.2.2.1, bt.2.2.2.2.2.2.1, bt.2.2.2.2.2.2.2⟩ : S39)])) else none) hx ?_)
  exact Ev.congr (fun k => by rw [if_pos (by omega), eta39]) ih
theorem toNode_ev : ∀ (d : Nat) (n : S43), FitN d n → Ev (fun k => laws_toNode.f k n.f0 n.f1 n.f2 n.f3 n.f4 n.f5 n.f6 n.f7) (tup39 (convN d n))
 | 0, n, h => by
  have := toNode_loop n.f7 (by rw [show n.f7 = [] from h]; simp) (fun x => convN 0 x) (by rw [show n.f7 = [] from h]; simp) n.f0 n.f1 n.f2 n.f3 n.f4 n.f5 n.f6 n.f7.length 0 [] (by omega) (by simp)
  rw [List.drop_zero, List.nil_append] at this
  refine Ev.step (f := fun k => laws_toNode.l0 k n.f7 (n.f7.length : Int) 0 n.f0 n.f1 n.f2 n.f3 n.f4 n.f5 n.f6 []) (fun k => by simp only [laws_toNode.f]) ?_
  have e : tup39 (convN 0 n) = (n.f0, n.f1, n.f2, n.f3, n.f4, n.f5, n.f6, n.f7.map fun x => convN 0 x) := by
   rw [show n.f7 = [] from h]; rfl
  rw [e]
  exact this
 | d + 1, n, h => by
  have := toNode_loop n.f7 h.1 (convN d) (fun x hx => toNode_ev d x (h.2 x hx)) n.f0 n.f1 n.f2 n.f3 n.f4 n.f5 n.f6 n.f7.length 0 [] (by omega) (by simp)
  rw [List.drop_zero, List.nil_append] at this
  exact Ev.step (f := fun k => laws_toNode.l0 k n.f7 (n.f7.length : Int) 0 n.f0 n.f1 n.f2 n.f3 n.f4 n.f5 n.f6 []) (fun k => by simp only [laws_toNode.f]) this
theorem same_loop (n : S39) (hl : n.f7.length ≤ 1000000) (hg : ∀ x ∈ n.f7, Ev (fun k => spec_SameNode.f k x.f0 x.f1 x.f2 x.f3 x.f4 x.f5 x.f6 x.f7 x.f0 x.f1 x.f2 x.f3 x.f4 x.f5 x.f6 x.f7) true) :
  ∀ (d i : Nat), i + d = n.f7.length → Ev (fun k => spec_SameNode.l0 k (n.f7.length : Int) (i : Int) n.f0 n.f1 n.f2 n.f3 n.f4 n.f5 n.f6 n.f7 n.f0 n.f1 n.f2 n.f3 n.f4 n.f5 n.f6 n.f7) true
 | 0, i, h => Ev.step (f := fun _ => some true) (fun k => by simp only [spec_SameNode.l0]; rw [if_neg (by omega)]) (Ev.now _)
 | d + 1, i, h => by
  have hi : i < n.f7.length := by omega
  have hw : wrap64 ((i : Int) + 1) = ((i + 1 : Nat) : Int) := by unfold wrap64; omega
  have hx := hg n.f7[i] (List.getElem_mem hi)
  have ih := same_loop n hl hg d (i + 1) (by omega)
  refine Ev.step (fun k => by simp only [spec_SameNode.l0]; rw [if_pos (by omega), if_pos (by omega), if_pos (by omega), if_pos (by omega), rd39 n.f7 i hi, hw]) (Ev.bind (f := fun k t => if t = true then (spec_SameNode.l0 k (n.f7.length : Int) ((i + 1 : Nat) : Int) n.f0 n.f1 n.f2 n.f3 n.f4 n.f5 n.f6 n.f7 n.f0 n.f1 n.f2 n.f3 n.f4 n.f5 n.f6 n.f7) else none) hx ?_)
  exact Ev.congr (fun k => if_pos rfl) ih
theorem same_ev : ∀ (d : Nat) (n : S39), FitS d n → Ev (fun k => spec_SameNode.f k n.f0 n.f1 n.f2 n.f3 n.f4 n.f5 n.f6 n.f7 n.f0 n.f1 n.f2 n.f3 n.f4 n.f5 n.f6 n.f7) true := by
 have top : ∀ (n : S39), Ev (fun k => spec_SameNode.l0 k (n.f7.length : Int) 0 n.f0 n.f1 n.f2 n.f3 n.f4 n.f5 n.f6 n.f7 n.f0 n.f1 n.f2 n.f3 n.f4 n.f5 n.f6 n.f7) true → Ev (fun k => spec_SameNode.f k n.f0 n.f1 n.f2 n.f3 n.f4 n.f5 n.f6 n.f7 n.f0 n.f1 n.f2 n.f3 n.f4 n.f5 n.f6 n.f7) true := by
  intro n h
  refine Ev.step (f := fun k => spec_SameNode.j0 k ((n.f7.length : Int) != (n.f7.length : Int)) n.f0 n.f1 n.f2 n.f3 n.f4 n.f5 n.f6 n.f7 n.f0 n.f1 n.f2 n.f3 n.f4 n.f5 n.f6 n.f7) (fun k => ?_) (Ev.step (fun k => ?_) h)
  ·simp [spec_SameNode.f, math_Float64bits.f]
  ·simp only [spec_SameNode.j0]
   rw [if_neg (by simp)]
 intro d
 induction d with
 | zero =>
  intro n h
  have h7 : n.f7 = [] := h
  exact top n (same_loop n (by rw [h7]; simp) (by rw [h7]; simp) n.f7.length 0 (by omega))
 | succ d ih =>
  intro n h
  exact top n (same_loop n h.1 (fun x hx => ih x (h.2 x hx)) n.f7.length 0 (by omega))
theorem back_same {print : Nat → Option (ByteArray × Int)} {tree : Nat → Option (ByteArray × Int × Bool × Int × Int × Nat × ByteArray × List S39 × Int)} {door : ByteArray → S43 → Prop} {l : List S31} (h : l.length ≤ 1000) (text : ByteArray)
  (hp : Ev print (text, 1)) (hsz : text.size ≤ 40000) (d : Nat) (n : S43) (hf : FitN d n)
  (ht : Ev tree ((convN d n).f0, (convN d n).f1, (convN d n).f2, (convN d n).f3, (convN d n).f4, (convN d n).f5, (convN d n).f6, (convN d n).f7, 1)) (hd : door text n) : BackOk print tree door l := by
 obtain ⟨K1, h1⟩ := hp
 obtain ⟨K2, h2⟩ := ht
 obtain ⟨K3, h3⟩ := toNode_ev d n hf
 obtain ⟨K4, h4⟩ := same_ev d (convN d n) (fit_conv d n hf)
 exact BackOk.same h (K1 + K2) text (h1 _ (by omega)) hsz (tup39 (convN d n)) (h2 _ (by omega)) n hd (K3 + K4) (tup39 (convN d n)) (h3 _ (by omega)) (h4 _ (by omega))
end Go.Proofs.YtednjmngalmdkaaGreatDoor.GPC
end
section
/- Plain facts: the digits of a number in a base tell this number, with noughts ahead and in great letters, too. Condition: the number is at most the bound. -/
namespace Go.Proofs.YtednjmngalmdkaaGreatDoor.PF
open Go Go.Proofs.YtednjmngalmdkaaGreatDoor.GPC
set_option linter.unusedVariables false
theorem puN_append (b mx : Nat) : ∀ (x y : List UInt8) (acc : Nat), puN b mx acc (x ++ y) = (puN b mx acc x).bind fun a => puN b mx a y
 | [], y, acc => rfl
 | c :: x, y, acc => by
  simp only [List.cons_append, puN]
  split
  ·exact puN_append b mx x y _
  ·rfl
theorem dch_val : ((List.range 16).all fun d => decide (digV (dch d).toNat = d)) = true := by decide +kernel
theorem digV_dch (d : Nat) (h : d < 16) : digV (dch d).toNat = d := by
 have := List.all_eq_true.1 dch_val d (List.mem_range.2 h)
 simpa using this
theorem puN_dig (b n mx : Nat) (hb : 2 ≤ b) (hb2 : b ≤ 16) (hn : n ≤ mx) : puN b mx 0 (digB b n) = some n := by
 induction n using Nat.strongRecOn with
 | _ n ih =>
  unfold digB
  by_cases h : n < b ∨ b < 2
  ·rw [dif_pos h]
   have hlt : n < b := by omega
   simp only [puN, digV_dch n (by omega)]
   rw [if_pos ⟨hlt, by omega⟩]
   simp
  ·rw [dif_neg h, puN_append, ih (n / b) (Nat.div_lt_self (by omega) (by omega)) (Nat.le_trans (Nat.div_le_self _ _) hn)]
   have hm : n % b < b := Nat.mod_lt _ (by omega)
   have he : n / b * b + n % b = n := by rw [Nat.mul_comm]; exact Nat.div_add_mod n b
   simp only [Option.bind_some, puN, digV_dch (n % b) (by omega), he]
   rw [if_pos ⟨hm, hn⟩]
theorem puN_noughts (b mx : Nat) (hb : 1 ≤ b) : ∀ (k : Nat) (l : List UInt8), puN b mx 0 (List.replicate k 48 ++ l) = puN b mx 0 l
 | 0, l => rfl
 | k + 1, l => by
  have ih := puN_noughts b mx hb k l
  have h48 : digV (48 : UInt8).toNat = 0 := by decide
  rw [List.replicate_succ, List.cons_append]
  simp only [puN, h48]
  rw [if_pos ⟨by omega, by omega⟩]
  simpa using ih
end Go.Proofs.YtednjmngalmdkaaGreatDoor.PF
end
section
/- Plain facts on the printed functions that all the rows share: sizes, bounds, digits. Conditions: lists of at most 2^47 cells. -/
namespace Go.Proofs.YtednjmngalmdkaaGreatDoor.GPC
open Go Go.RowKit Go.Proofs.YtednjmngalmdkaaGreatDoorW.PrintWords Go.Proofs.YtednjmngalmdkaaGreatDoorW.PrintLast Go.Proofs.YtednjmngalmdkaaGreatDoor.PF
set_option linter.unusedVariables false
def strB (l : List UInt8) : ByteArray := ⟨l.toArray⟩
theorem hex_at : ∀ d : Fin 16, strOfNums [bt (⟨#[48, 49, 50, 51, 52, 53, 54, 55, 56, 57, 97, 98, 99, 100, 101, 102]⟩ : ByteArray) (d.val : Int)] = strB [dch d.val] := by decide
theorem hex_n (d : Nat) (h : d < 16) : strOfNums [bt (⟨#[48, 49, 50, 51, 52, 53, 54, 55, 56, 57, 97, 98, 99, 100, 101, 102]⟩ : ByteArray) (d : Int)] = strB [dch d] := hex_at ⟨d, h⟩
theorem u64_w {n : Int} (h0 : 0 ≤ n) (h1 : n < 18446744073709551616) : IntKind.u64.wrap n = n := by
 simp only [IntKind.wrap, IntKind.bits, IntKind.signed, Bool.false_and]
 exact Int.emod_eq_of_lt h0 h1
theorem strB_append (x y : List UInt8) : strB x ++ strB y = strB (x ++ y) := by
 apply ByteArray.ext
 simp [strB]
theorem strB_size (x : List UInt8) : (strB x).size = x.length := by simp [strB, ByteArray.size]
theorem digits_ev (b : Nat) (hb : 2 ≤ b) (hb2 : b ≤ 16) (n : Nat) (hn : n < 18446744073709551616) : Ev (fun k => spec_Digits.f k (n : Int) (b : Int)) (strB (digB b n)) ∧ (digB b n).length ≤ n + 1 := by
 induction n using Nat.strongRecOn with
 | _ n ih =>
  have hmod : n % b < 16 := Nat.lt_of_lt_of_le (Nat.mod_lt _ (by omega)) hb2
  have e1 : Int.tmod (n : Int) (b : Int) = ((n % b : Nat) : Int) := by rw [Int.tmod_eq_emod_of_nonneg (by omega)]; simp
  have e2 : Int.tdiv (n : Int) (b : Int) = ((n / b : Nat) : Int) := by rw [Int.tdiv_eq_ediv_of_nonneg (by omega)]; simp
  have hx := hex_n (n % b) hmod
  unfold digB
  by_cases h : n < b
  ·rw [dif_pos (.inl h)]
   rw [Nat.mod_eq_of_lt h] at hx e1
   refine ⟨Ev.step (f := fun _ => some (strB [dch n])) (fun k => ?_) (Ev.now _), by simp⟩
   simp only [spec_Digits.f]
   rw [if_neg (by omega), e1, if_pos (by omega), if_pos (by omega), if_pos (by omega), hx]
  ·rw [dif_neg (by omega)]
   have hlt : n / b < n := Nat.div_lt_self (by omega) (by omega)
   obtain ⟨ih1, ih2⟩ := ih (n / b) hlt (by omega)
   have hw : IntKind.u64.wrap (Int.tdiv (n : Int) (b : Int)) = ((n / b : Nat) : Int) := by
    rw [e2]
    generalize n / b = q at hlt ⊢
    exact u64_w (by omega) (by omega)
   have h64 : (digB b (n / b)).length ≤ 64 := by
    have := digB_length b (n / b) 63 hb (Nat.lt_of_lt_of_le (show n / b < 2 ^ 64 by omega) (Nat.pow_le_pow_left hb 64))
    exact this
   refine ⟨Ev.step (f := fun k => (spec_Digits.f k ((n / b : Nat) : Int) (b : Int)).bind fun t => if t.size + (strB [dch (n % b)]).size ≤ 9223372036854775807 then some (t ++ strB [dch (n % b)]) else none) (fun k => ?_) (Ev.bind (f := fun _ t => if t.size + (strB [dch (n % b)]).size ≤ 9223372036854775807 then some (t ++ strB [dch (n % b)]) else none) ih1 ?_), ?_⟩
   ·simp only [spec_Digits.f, Option.bind_some]
    rw [if_neg (by omega), e1, if_pos (by omega), if_pos (by omega), if_neg (by omega), hw, hx]
   ·rw [if_pos (by rw [strB_size, strB_size]; simp; omega), strB_append]
    exact Ev.now _
   ·simp; omega
end Go.Proofs.YtednjmngalmdkaaGreatDoor.GPC
end
