/- Texts of this claim, put together: GPEx9, BackConntrack, LwConntrack, PlNode, PNum, PlBase, PlFit, PlFlt, PlNums, PlLines, PlGen, GivenUp, PlHex, PlConntrack. Conditions: as each one says. -/
import Derived.Test.YtednjmngalmdkaaGreatDoorKCt0
import Derived.Test.YtednjmngalmdkaaGreatDoorKCt1
import Derived.Test.YtednjmngalmdkaaGreatDoorKCt2
import Derived.Test.YtednjmngalmdkaaGreatDoorKCt3
import Derived.Test.YtednjmngalmdkaaGreatDoorKCt4
import Derived.Deep.RegionHeld3
import Derived.Laws.FloatArith
import Derived.Lib.ConvBytes
import Derived.StillTailTactics
section
namespace Go.Proofs.YtednjmngalmdkaaGreatDoor.GPC
open Go.RowKit Go.Proofs.YtednjmngalmdkaaGreatDoorW.PrintWords Go.Proofs.YtednjmngalmdkaaGreatDoorW.PrintLast Go.Proofs.YtednjmngalmdkaaGreatDoorW.PrintMore
attribute [local go_sem] max2_int min2_int max_two min_two max_three min_three max_four min_four   -- for this text's walks alone
set_option linter.unusedVariables false
set_option linter.unusedSimpArgs false

attribute [local go_sem] run_store_float
/-! ### spec_ConntrackTree: function 28 -/
mutual
def spec_ConntrackTree.l0 : Nat → List (S39) → List (S31) → Int → Int → Option (ByteArray × Int × Bool × Int × Int × Nat × ByteArray × (List (S39)) × Int)
 | 0, _, _, _, _ => none
 | k + 1, x4, x15, x16, x17 => if x17 < x16 then (if 0 ≤ x17 then (if x17 < (x15.length : Int) then ((spec_conntrackNames.f).bind fun t438 => (spec_ConntrackTree.l1 k x4 ([] : List (S39)) x15 x16 x17 t438 (t438.length : Int) 0 ((rd_T31 x15 x17).f0) ((rd_T31 x15 x17).f1) ((rd_T31 x15 x17).f2))) else (none)) else (none)) else ((spec_listNode.f (⟨#[]⟩ : ByteArray) x4).bind fun bt426 => (some (bt426.1, bt426.2.1, bt426.2.2.1, bt426.2.2.2.1, bt426.2.2.2.2.1, bt426.2.2.2.2.2.1, bt426.2.2.2.2.2.2.1, bt426.2.2.2.2.2.2.2, 1)))
def spec_ConntrackTree.l1 : Nat → List (S39) → List (S39) → List (S31) → Int → Int → List ByteArray → Int → Int → ByteArray → List Int → List ByteArray → Option (ByteArray × Int × Bool × Int × Int × Nat × ByteArray × (List (S39)) × Int)
 | 0, _, _, _, _, _, _, _, _, _, _, _ => none
 | k + 1, x4, x7, x15, x16, x17, x21, x22, x23, x438000, x438001, x438002 => if x23 < x22 then (if 0 ≤ x23 then (if x23 < (x21.length : Int) then (if x23 = 12 then (if 16 < (x438001.length : Int) then ((spec_uintNode.f (rdOf ByteArray.empty x21 x23) (rd x438001 16)).bind fun bt443 => (if x7.length < 1466015503701 then (spec_ConntrackTree.l1 k x4 (x7 ++ [(⟨bt443.1, bt443.2.1, bt443.2.2.1, bt443.2.2.2.1, bt443.2.2.2.2.1, bt443.2.2.2.2.2.1, bt443.2.2.2.2.2.2.1, bt443.2.2.2.2.2.2.2⟩ : S39)]) x15 x16 x17 x21 x22 (wrap64 (x23 + 1)) x438000 x438001 x438002) else (none))) else (none)) else (if x23 < (x438001.length : Int) then ((spec_uintNode.f (rdOf ByteArray.empty x21 x23) (rd x438001 x23)).bind fun bt457 => (if x7.length < 1466015503701 then (spec_ConntrackTree.l1 k x4 (x7 ++ [(⟨bt457.1, bt457.2.1, bt457.2.2.1, bt457.2.2.2.1, bt457.2.2.2.2.1, bt457.2.2.2.2.2.1, bt457.2.2.2.2.2.2.1, bt457.2.2.2.2.2.2.2⟩ : S39)]) x15 x16 x17 x21 x22 (wrap64 (x23 + 1)) x438000 x438001 x438002) else (none))) else (none))) else (none)) else (none)) else ((spec_recordNode.f (⟨#[]⟩ : ByteArray) x7).bind fun bt470 => (if x4.length < 1466015503701 then (spec_ConntrackTree.l0 k (x4 ++ [(⟨bt470.1, bt470.2.1, bt470.2.2.1, bt470.2.2.2.1, bt470.2.2.2.2.1, bt470.2.2.2.2.2.1, bt470.2.2.2.2.2.2.1, bt470.2.2.2.2.2.2.2⟩ : S39)]) x15 x16 (wrap64 (x17 + 1))) else (none)))
end
def spec_ConntrackTree.f (k : Nat) (l0 : List (S31)) : Option (ByteArray × Int × Bool × Int × Int × Nat × ByteArray × (List (S39)) × Int) := (spec_conntrackFine.f k l0).bind fun t425 => (if t425 = true then (spec_ConntrackTree.l0 k ([] : List (S39)) l0 (l0.length : Int) 0) else (some ((⟨#[]⟩ : ByteArray), 0, false, 0, 0, 0, (⟨#[]⟩ : ByteArray), ([] : List (S39)), 2)))
theorem spec_ConntrackTree.mono_l : ∀ k, (∀ y0 y1 y2 y3, LeO (spec_ConntrackTree.l0 k y0 y1 y2 y3) (spec_ConntrackTree.l0 (k + 1) y0 y1 y2 y3)) ∧ (∀ y0 y1 y2 y3 y4 y5 y6 y7 y8 y9 y10, LeO (spec_ConntrackTree.l1 k y0 y1 y2 y3 y4 y5 y6 y7 y8 y9 y10) (spec_ConntrackTree.l1 (k + 1) y0 y1 y2 y3 y4 y5 y6 y7 y8 y9 y10))
 | 0 => ⟨fun _ _ _ _ r h => by simp [spec_ConntrackTree.l0] at h, fun _ _ _ _ _ _ _ _ _ _ _ r h => by simp [spec_ConntrackTree.l1] at h⟩
 | k + 1 => by
  obtain ⟨ih0, ih1⟩ := spec_ConntrackTree.mono_l k
  refine ⟨?_, ?_⟩
  ·intro y0 y1 y2 y3
   unfold spec_ConntrackTree.l0
   repeat' first
   | (with_reducible exact ih0 _ _ _ _)
   | (with_reducible exact ih1 _ _ _ _ _ _ _ _ _ _ _)
   | (with_reducible exact spec_conntrackFine.mono _ _)
   | (with_reducible exact LeO.refl _)
   | (with_reducible exact LeO.none _)
   | (with_reducible refine LeO.ite ?_ ?_)
   | (with_reducible refine LeO.bind ?_ (fun _ => ?_))
   | exact ih0 _ _ _ _
   | exact ih1 _ _ _ _ _ _ _ _ _ _ _
   | exact spec_conntrackFine.mono _ _
   | exact LeO.none _
   | refine LeO.ite ?_ ?_
   | refine LeO.bind ?_ (fun _ => ?_)
  ·intro y0 y1 y2 y3 y4 y5 y6 y7 y8 y9 y10
   unfold spec_ConntrackTree.l1
   repeat' first
   | (with_reducible exact ih0 _ _ _ _)
   | (with_reducible exact ih1 _ _ _ _ _ _ _ _ _ _ _)
   | (with_reducible exact spec_conntrackFine.mono _ _)
   | (with_reducible exact LeO.refl _)
   | (with_reducible exact LeO.none _)
   | (with_reducible refine LeO.ite ?_ ?_)
   | (with_reducible refine LeO.bind ?_ (fun _ => ?_))
   | exact ih0 _ _ _ _
   | exact ih1 _ _ _ _ _ _ _ _ _ _ _
   | exact spec_conntrackFine.mono _ _
   | exact LeO.none _
   | refine LeO.ite ?_ ?_
   | refine LeO.bind ?_ (fun _ => ?_)
theorem spec_ConntrackTree.mono : ∀ a0 k, LeO (spec_ConntrackTree.f k a0) (spec_ConntrackTree.f (k + 1) a0) := by
 intro a0 k
 obtain ⟨ih0, ih1⟩ := spec_ConntrackTree.mono_l k
 unfold spec_ConntrackTree.f
 repeat' first
   | (with_reducible exact ih0 _ _ _ _)
   | (with_reducible exact ih1 _ _ _ _ _ _ _ _ _ _ _)
   | (with_reducible exact spec_conntrackFine.mono _ _)
   | (with_reducible exact LeO.refl _)
   | (with_reducible exact LeO.none _)
   | (with_reducible refine LeO.ite ?_ ?_)
   | (with_reducible refine LeO.bind ?_ (fun _ => ?_))
   | exact ih0 _ _ _ _
   | exact ih1 _ _ _ _ _ _ _ _ _ _ _
   | exact spec_conntrackFine.mono _ _
   | exact LeO.none _
   | refine LeO.ite ?_ ?_
   | refine LeO.bind ?_ (fun _ => ?_)
set_option maxHeartbeats 8000000 in
set_option maxRecDepth 100000 in
theorem spec_ConntrackTree.calls (k : Nat) (A0 : Option Addr) (c0 : Nat) (l0 : List (S31)) (r1 : ByteArray) (r2 : Int) (r3 : Bool) (r4 : Int) (r5 : Int) (r6 : Nat) (r7 : ByteArray) (r8 : List (S39)) (r9 : Int) (w : World) (hr0 : Kd.C k31 w A0 l0.length l0) (hc0 : l0.length ≤ c0) (h : spec_ConntrackTree.f k l0 = some (r1, r2, r3, r4, r5, r6, r7, r8, r9)) :
  Calls Tryz.prog 28 #[.slice A0 l0.length c0] w fun e w' => ∃ v7_ : Value, e = .returned (.tuple #[.agg #[.string r1, .int .i64 r2, .bool r3, .int .i64 r4, .int .u64 r5, .float .f64 r6, .string r7, v7_], .int .i64 r9]) ∧ Kd.V k39 39 w' w.heap.size (fun k_ => (w.heap.size ≤ k_)) v7_ r8 ∧ Below w.heap.size w w' := by
 have hu39 := Tryz.underlying39
 have hu31 := Tryz.underlying31
 have HR0 := Aside0.mk hr0
 have HC0 := Aside0.mk hc0
 clear hr0 hc0
 have HB := Aside0.mk (Below.refl w.heap.size w)
 have H : ((spec_conntrackFine.f k l0).bind fun t425 => (if t425 = true then (spec_ConntrackTree.l0 k ([] : List (S39)) l0 (l0.length : Int) 0) else (some ((⟨#[]⟩ : ByteArray), 0, false, 0, 0, 0, (⟨#[]⟩ : ByteArray), ([] : List (S39)), 2)))) = some (r1, r2, r3, r4, r5, r6, r7, r8, r9) := h
 clear h
 replace H := Option.bind_eq_some_iff.mp H
 obtain ⟨t425, A20, H⟩ := H
 try dsimp -simprocs only at H
 have A2 := Aside0.mk A20
 clear A20
 by_cases c3 : t425 = true
 ·subst c3
  have H1 : (spec_ConntrackTree.l0 k ([] : List (S39)) l0 (l0.length : Int) 0) = some (r1, r2, r3, r4, r5, r6, r7, r8, r9) := by rw [if_pos rfl] at H; exact H
  clear H
  have H := H1
  clear H1
  have H' := Aside0.mk H
  clear H
  go_enter Tryz.func28, Tryz.ntmps28
  go_wp2_with (first | ((with_reducible refine gate_dst (N := 2) rfl ?_); refine box_event ?hg (N := 2) ?hd (cs := #[.string (⟨#[]⟩ : ByteArray), .int .i64 0, .bool false, .int .i64 0, .int .u64 0, .float .f64 0, .string (⟨#[]⟩ : ByteArray), .slice none 0 0]) (t := 39) ?hr ?_; (case hd => rfl); (case hg => rfl); (case hr => first | (go_simp; done) | (go_simp; rfl)); intro gb424 hg w4 hbox hb; have n0_ := Aside0.mk (below_step (by repeat (first | (with_reducible first | exact HB.out | apply below_alloc | apply pw_below_drewN | apply below_drew1) | exact HB.out)) hb); have n1_ := Aside0.mk (hbox); have n2_ := Aside0.mk ((by rw [hg]; exact (below_size (by repeat (first | (with_reducible first | exact HB.out | apply below_alloc | apply pw_below_drewN | apply below_drew1) | exact HB.out))) : w.heap.size ≤ gb424)); have n3_ := Aside0.mk ((by rw [hg]; exact (below_size (by repeat (first | (with_reducible first | exact HB.out | apply below_alloc | apply pw_below_drewN | apply below_drew1) | exact HB.out))) : w.heap.size ≤ gb424)); clear HB; have HB := n0_; have BK424 := n1_; have GW424 := n2_; have GE424 := n3_; clear n0_ n1_ n2_ n3_; clear hb hbox hg) | ((with_reducible refine gate_callee (f := 87) rfl ?_); refine goesL_ (some 12) rfl rfl Tryz.func87 (by kernel_rfl) rfl #[.slice A0 l0.length c0] rfl (by (try simp only [List.map_toArray, List.map_cons, List.map_nil]); first | done | rfl | (simp only [List.length_drop, List.length_take]; rfl)) ?_; (with_reducible refine (spec_conntrackFine.calls k _ _ l0 true _ ?side1 ?side2 A2.out).mono ?_); (case side1 => repeat (first | exact (Kd.C_below HR0.out HB.out) | (with_reducible refine Kd.C_alloc ?_ _) | (with_reducible refine Kd.C_drewN ?_ _) | (with_reducible refine Kd.C_drew ?_))); (case side2 => exact HC0.out); rintro e w5 ⟨rfl, hb⟩; refine ⟨_, rfl, ?_⟩; have n0_ := Aside0.mk (blk_below (g := gb424) (o := .cells #[.string (⟨#[]⟩ : ByteArray), .int .i64 0, .bool false, .int .i64 0, .int .u64 0, .float .f64 0, .string (⟨#[]⟩ : ByteArray), .slice none 0 0] 39 (0, 0)) (by (with_reducible repeat (first | refine blk_drewN ?_ _ | refine blk_drew ?_ | refine blk_alloc ?_ _)); exact BK424.out) hb); have n1_ := Aside0.mk (below_step (by repeat (first | (with_reducible first | exact HB.out | apply below_alloc | apply pw_below_drewN | apply below_drew1 | refine below_set ?_ GE424.out) | exact HB.out)) hb); clear BK424; clear HB; have BK424 := n0_; have HB := n1_; clear n0_ n1_; (try clear hb); (try clear hb2); (try clear hk); (try clear hi)))
  go_loopg [4, 17] k (fun kq v4 v17 w' => ∃ (x4_1 : List (S39)) (x17_1 : Int), v17 = .int .i64 x17_1 ∧ Aside0 (spec_ConntrackTree.l0 kq x4_1 l0 (l0.length : Int) x17_1 = some (r1, r2, r3, r4, r5, r6, r7, r8, r9)) ∧ Aside0 (kq ≤ k) ∧ Aside0 (Kd.N k39 39 w' w.heap.size (fun k_ => (w.heap.size ≤ k_) ∧ k_ ≠ gb424) v4 x4_1) ∧ Aside0 (w'.heap[gb424]? = some (.cells #[.string (⟨#[]⟩ : ByteArray), .int .i64 0, .bool false, .int .i64 0, .int .u64 0, .float .f64 0, .string (⟨#[]⟩ : ByteArray), (.slice none 0 0)] 39 (0, 0))) ∧ Aside0 (Below w.heap.size w w'))
  case atStart => exact ⟨(([] : List (S39))), (0), (by first | rfl | (simp; done) | (simp [*]; done)), H', ⟨Nat.le_refl _⟩, ⟨by first | exact Kd.R_nil _ _ _ _ _ | exact Kd.N_nil _ _ _ _ _ | exact Kd.V_nil _ _ _ _ _ | exact Kd.Q_nil _ _ _ _ _ | exact Kd.S_nil _ _ _ _ _⟩, ⟨by (with_reducible repeat (first | refine blk_drewN ?_ _ | refine blk_drew ?_ | refine blk_alloc ?_ _)); exact BK424.out⟩, ⟨by repeat (first | (with_reducible first | exact HB.out | apply below_alloc | apply pw_below_drewN | apply below_drew1 | refine below_set ?_ GE424.out) | exact HB.out)⟩⟩
  case round =>
   clear H'
   try clear c2
   try clear p2
   try clear c3
   obtain ⟨x4_1, x17_1, rfl, HA, HK1, HO_4, BK424, HB⟩ := hrel
   cases gk with
   | zero => exact absurd HA.out (by simp [spec_ConntrackTree.l0])
   | succ k1 =>
    have H := HA.out
    clear HA
    simp only [spec_ConntrackTree.l0] at H
    by_cases c6 : x17_1 < (l0.length : Int)
    ·rw [if_pos c6] at H
     have c6b0 : decide (x17_1 < (l0.length : Int)) = true := decide_eq_true c6
     clear c6
     replace H := guard_inv H
     obtain ⟨c7, H⟩ := H
     have c7b0 : decide (0 ≤ x17_1) = true := decide_eq_true c7
     clear c7
     replace H := guard_inv H
     obtain ⟨c8, H⟩ := H
     have c8b0 : decide (x17_1 < (l0.length : Int)) = true := decide_eq_true c8
     clear c8
     replace H := Option.bind_eq_some_iff.mp H
     obtain ⟨t438, A90, H⟩ := H
     try dsimp -simprocs only at H
     have A9 := Aside0.mk A90
     clear A90
     have H' := Aside0.mk H
     clear H
     have p436 : 0 ≤ (x17_1 : Int) := of_decide_eq_true (by first | (with_reducible assumption) | assumption)
     have q436 : x17_1 < (l0.length : Int) := of_decide_eq_true (by first | (with_reducible assumption) | assumption)
     obtain ⟨ad436, A436_1, c436_1, A436_2, c436_2, e436, hx436_0, hx436_1, hx436_2, hl436_1, hi436_1, hl436_2, hi436_2⟩ := at_T31 HR0.out x17_1 p436 q436
     cases e436
     replace hx436_0 := (HB.out.cell (World.block_lt_of_cell? w _ hx436_0)).trans hx436_0
     replace hx436_1 := (HB.out.cell (World.block_lt_of_cell? w _ hx436_1)).trans hx436_1
     replace hx436_2 := (HB.out.cell (World.block_lt_of_cell? w _ hx436_2)).trans hx436_2
     have HR436_1 := Aside0.mk hi436_1
     have HC436_1 := Aside0.mk hl436_1
     clear hi436_1 hl436_1
     have HR436_2 := Aside0.mk hi436_2
     have HC436_2 := Aside0.mk hl436_2
     clear hi436_2 hl436_2
     replace p436 := eq_true p436
     replace q436 := eq_true q436
     go_wp2_with (first | ((with_reducible refine gate_dst (N := 6) rfl ?_); refine box_event ?hg (N := 6) ?hd (cs := #[.string (⟨#[]⟩ : ByteArray), .slice none 0 0, .slice none 0 0]) (t := 31) ?hr ?_; (case hd => rfl); (case hg => rfl); (case hr => first | (go_simp; done) | (go_simp; rfl)); intro gb437 hg w10 hbox hb; have n0_ := Aside0.mk (Kd.N_below (Kd.N_elderB (by (with_reducible repeat (first | apply Kd.N_alloc | apply Kd.N_drewN | apply Kd.N_drew)); exact HO_4.out) gb437 (Nat.le_of_eq hg.symm)) hb); have n1_ := Aside0.mk (blk_below (g := gb424) (o := .cells #[.string (⟨#[]⟩ : ByteArray), .int .i64 0, .bool false, .int .i64 0, .int .u64 0, .float .f64 0, .string (⟨#[]⟩ : ByteArray), .slice none 0 0] 39 (0, 0)) (by (with_reducible repeat (first | refine blk_drewN ?_ _ | refine blk_drew ?_ | refine blk_alloc ?_ _)); exact BK424.out) hb); have n2_ := Aside0.mk (below_step (by repeat (first | (with_reducible first | exact HB.out | apply below_alloc | apply pw_below_drewN | apply below_drew1 | refine below_set ?_ GE424.out) | exact HB.out)) hb); have n3_ := Aside0.mk (hbox); have n4_ := Aside0.mk ((by rw [hg]; exact (below_size (by repeat (first | (with_reducible first | exact HB.out | apply below_alloc | apply pw_below_drewN | apply below_drew1 | refine below_set ?_ GE424.out) | exact HB.out))) : w.heap.size ≤ gb437)); have n5_ := Aside0.mk ((by rw [hg]; exact (below_size (by repeat (first | (with_reducible first | exact HB.out | apply below_alloc | apply pw_below_drewN | apply below_drew1 | refine below_set ?_ GE424.out) | exact HB.out))) : w.heap.size ≤ gb437)); have n6_ := Aside0.mk ((by rw [hg]; exact Nat.ne_of_lt (blk_lt (g := gb424) (o := .cells #[.string (⟨#[]⟩ : ByteArray), .int .i64 0, .bool false, .int .i64 0, .int .u64 0, .float .f64 0, .string (⟨#[]⟩ : ByteArray), .slice none 0 0] 39 (0, 0)) (by (with_reducible repeat (first | refine blk_drewN ?_ _ | refine blk_drew ?_ | refine blk_alloc ?_ _)); exact BK424.out)) : gb424 ≠ gb437)); have n7_ := Aside0.mk ((by rw [hg]; exact Nat.ne_of_gt (blk_lt (g := gb424) (o := .cells #[.string (⟨#[]⟩ : ByteArray), .int .i64 0, .bool false, .int .i64 0, .int .u64 0, .float .f64 0, .string (⟨#[]⟩ : ByteArray), .slice none 0 0] 39 (0, 0)) (by (with_reducible repeat (first | refine blk_drewN ?_ _ | refine blk_drew ?_ | refine blk_alloc ?_ _)); exact BK424.out)) : gb437 ≠ gb424)); clear HO_4; clear BK424; clear HB; have HO_4 := n0_; have BK424 := n1_; have HB := n2_; have BK437 := n3_; have GW437 := n4_; have GE437 := n5_; have NB424_437 := n6_; have NB437_424 := n7_; clear n0_ n1_ n2_ n3_ n4_ n5_ n6_ n7_; clear hb hbox hg; have hnb11 := NB437_424.out; have hnc11 := NB424_437.out; have hcz12_0 : w10.cell? ⟨gb437, 0, none⟩ = some (.string (⟨#[]⟩ : ByteArray)) := (blk_cell BK437.out 0).trans rfl; have hcz12_1 : w10.cell? ⟨gb437, 1, none⟩ = some (.slice none 0 0) := (blk_cell BK437.out 1).trans rfl; have hcz12_2 : w10.cell? ⟨gb437, 2, none⟩ = some (.slice none 0 0) := (blk_cell BK437.out 2).trans rfl; have hfz12_0 := blk_frozen BK437.out 0; have hfz12_1 := blk_frozen BK437.out 1; have hfz12_2 := blk_frozen BK437.out 2) | ((with_reducible refine gate_callee (f := 89) rfl ?_); refine goesL_ (some 21) rfl rfl Tryz.func89 (by kernel_rfl) rfl #[] rfl (by (try simp only [List.map_toArray, List.map_cons, List.map_nil]); first | done | rfl | (simp only [List.length_drop, List.length_take]; rfl)) ?_; (with_reducible refine (spec_conntrackNames.calls  t438 _ A9.out).mono ?_); rintro e w13 ⟨v439, rfl, ho0, hb⟩; refine ⟨_, rfl, ?_⟩; have n0_ := Aside0.mk (Kd.N_elder' (by (with_reducible repeat (first | apply Kd.N_alloc | apply Kd.N_drewN | apply Kd.N_drew)); exact (Kd.N_mono (Kd.N_far (p := ⟨gb437, 2, none⟩) (Kd.N_far (p := ⟨gb437, 1, none⟩) (Kd.N_far (p := ⟨gb437, 0, none⟩) (Kd.N_mono HO_4.out (fun k_ hk => (⟨hk, hk.2⟩ : _ ∧ k_ ≠ gb437))) (fun _ hk => hk.2) (.string ((rd_T31 l0 x17_1).f0))) (fun _ hk => hk.2) (.slice A436_1 ((rd_T31 l0 x17_1).f1).length c436_1)) (fun _ hk => hk.2) (.slice A436_2 ((rd_T31 l0 x17_1).f2).length c436_2)) (fun _ h_ => h_.1))) (by first | exact Kd.R_base ho0 | exact Kd.R_base ho0) hb); have n1_ := Aside0.mk (Kd.R_lower (Kd.R_newM (M := fun k_ => (w.heap.size ≤ k_)) ho0 (below_size (by repeat (first | (with_reducible first | exact HB.out | apply below_alloc | apply pw_below_drewN | apply below_drew1 | refine below_set ?_ GE424.out | refine below_set ?_ GE437.out) | exact HB.out))) (fun k_ h_ => h_)) (below_size (by repeat (first | (with_reducible first | exact HB.out | apply below_alloc | apply pw_below_drewN | apply below_drew1 | refine below_set ?_ GE424.out | refine below_set ?_ GE437.out) | exact HB.out)))); have n2_ := Aside0.mk (blk_below (g := gb424) (o := .cells #[.string (⟨#[]⟩ : ByteArray), .int .i64 0, .bool false, .int .i64 0, .int .u64 0, .float .f64 0, .string (⟨#[]⟩ : ByteArray), .slice none 0 0] 39 (0, 0)) (by (with_reducible repeat (first | refine blk_drewN ?_ _ | refine blk_drew ?_ | refine blk_alloc ?_ _)); refine blk_far ?_ NB424_437.out _; (with_reducible repeat (first | refine blk_drewN ?_ _ | refine blk_drew ?_ | refine blk_alloc ?_ _)); refine blk_far ?_ NB424_437.out _; (with_reducible repeat (first | refine blk_drewN ?_ _ | refine blk_drew ?_ | refine blk_alloc ?_ _)); refine blk_far ?_ NB424_437.out _; (with_reducible repeat (first | refine blk_drewN ?_ _ | refine blk_drew ?_ | refine blk_alloc ?_ _)); exact BK424.out) hb); have n3_ := Aside0.mk (blk_below (g := gb437) (o := .cells #[.string ((rd_T31 l0 x17_1).f0), .slice A436_1 ((rd_T31 l0 x17_1).f1).length c436_1, .slice A436_2 ((rd_T31 l0 x17_1).f2).length c436_2] 31 (0, 0)) (by (with_reducible repeat (first | refine blk_drewN ?_ _ | refine blk_drew ?_ | refine blk_alloc ?_ _)); refine blk_put (cs := #[.string ((rd_T31 l0 x17_1).f0), .slice A436_1 ((rd_T31 l0 x17_1).f1).length c436_1, .slice none 0 0]) ?_ 2 _ rfl; (with_reducible repeat (first | refine blk_drewN ?_ _ | refine blk_drew ?_ | refine blk_alloc ?_ _)); refine blk_put (cs := #[.string ((rd_T31 l0 x17_1).f0), .slice none 0 0, .slice none 0 0]) ?_ 1 _ rfl; (with_reducible repeat (first | refine blk_drewN ?_ _ | refine blk_drew ?_ | refine blk_alloc ?_ _)); refine blk_put (cs := #[.string (⟨#[]⟩ : ByteArray), .slice none 0 0, .slice none 0 0]) ?_ 0 _ rfl; (with_reducible repeat (first | refine blk_drewN ?_ _ | refine blk_drew ?_ | refine blk_alloc ?_ _)); exact BK437.out) hb); have n4_ := Aside0.mk (below_step (by repeat (first | (with_reducible first | exact HB.out | apply below_alloc | apply pw_below_drewN | apply below_drew1 | refine below_set ?_ GE424.out | refine below_set ?_ GE437.out) | exact HB.out)) hb); clear HO_4; clear BK424; clear BK437; clear HB; have HO_4 := n0_; have HO440 := n1_; have BK424 := n2_; have BK437 := n3_; have HB := n4_; clear n0_ n1_ n2_ n3_ n4_; (try clear hb); (try clear hb2); (try clear hk); (try clear hi); (try clear ho0); obtain ⟨Ao14, co14, eo14⟩ := Kd.R_slice HO440.out; subst eo14))
     go_loopg [7, 23] k1 (fun kq v7 v23 w' => ∃ (x7_2 : List (S39)) (x23_2 : Int), v23 = .int .i64 x23_2 ∧ Aside0 (spec_ConntrackTree.l1 kq x4_1 x7_2 l0 (l0.length : Int) x17_1 t438 (t438.length : Int) x23_2 ((rd_T31 l0 x17_1).f0) ((rd_T31 l0 x17_1).f1) ((rd_T31 l0 x17_1).f2) = some (r1, r2, r3, r4, r5, r6, r7, r8, r9)) ∧ Aside0 (kq ≤ k1) ∧ Aside0 (Kd.N k39 39 w' w.heap.size (fun k_ => (w.heap.size ≤ k_) ∧ some k_ ≠ (v7 : Value).ownBlock ∧ some k_ ≠ ((.slice Ao14 t438.length co14) : Value).ownBlock ∧ k_ ≠ gb424 ∧ k_ ≠ gb437) u4 x4_1) ∧ Aside0 (Kd.N k39 39 w' w.heap.size (fun k_ => (w.heap.size ≤ k_) ∧ some k_ ≠ (u4 : Value).ownBlock ∧ some k_ ≠ ((.slice Ao14 t438.length co14) : Value).ownBlock ∧ k_ ≠ gb424 ∧ k_ ≠ gb437) v7 x7_2) ∧ Aside0 (Kd.R Kd.string 9 w' w.heap.size (fun k_ => (w.heap.size ≤ k_)) (.slice Ao14 t438.length co14) t438) ∧ Aside0 (w'.heap[gb424]? = some (.cells #[.string (⟨#[]⟩ : ByteArray), .int .i64 0, .bool false, .int .i64 0, .int .u64 0, .float .f64 0, .string (⟨#[]⟩ : ByteArray), (.slice none 0 0)] 39 (0, 0))) ∧ Aside0 (w'.heap[gb437]? = some (.cells #[.string ((rd_T31 l0 x17_1).f0), (.slice A436_1 ((rd_T31 l0 x17_1).f1).length c436_1), (.slice A436_2 ((rd_T31 l0 x17_1).f2).length c436_2)] 31 (0, 0))) ∧ Aside0 (Below w.heap.size w w'))
     case atStart => exact ⟨(([] : List (S39))), (0), (by first | rfl | (simp; done) | (simp [*]; done)), H', ⟨Nat.le_refl _⟩, ⟨by (with_reducible repeat (first | apply Kd.N_alloc | apply Kd.N_drewN | apply Kd.N_drew)); exact Kd.N_mono HO_4.out (fun _ hk => ⟨hk.1.1.1, ⟨(by simp [Value.ownBlock]), ⟨hk.2, ⟨hk.1.1.2, hk.1.2⟩⟩⟩⟩)⟩, ⟨by first | exact Kd.R_nil _ _ _ _ _ | exact Kd.N_nil _ _ _ _ _ | exact Kd.V_nil _ _ _ _ _ | exact Kd.Q_nil _ _ _ _ _ | exact Kd.S_nil _ _ _ _ _⟩, ⟨by (with_reducible repeat (first | apply Kd.R_alloc | apply Kd.R_drewN | apply Kd.R_drew)); exact Kd.R_mono HO440.out (fun _ hk => hk.1)⟩, ⟨by (with_reducible repeat (first | refine blk_drewN ?_ _ | refine blk_drew ?_ | refine blk_alloc ?_ _)); exact BK424.out⟩, ⟨by (with_reducible repeat (first | refine blk_drewN ?_ _ | refine blk_drew ?_ | refine blk_alloc ?_ _)); exact BK437.out⟩, ⟨by repeat (first | (with_reducible first | exact HB.out | apply below_alloc | apply pw_below_drewN | apply below_drew1 | refine below_set ?_ GE424.out | refine below_set ?_ GE437.out) | exact HB.out)⟩⟩
     case round =>
      clear H'
      try clear c1
      try clear c2
      try clear p2
      try clear c3
      try clear c4
      try clear p4
      try clear q4
      try clear hx4
      try clear c6
      try clear c6b0
      try clear c7
      try clear c7b0
      try clear c8
      try clear c8b0
      try clear c11
      try clear hcz12_0
      try clear hcz12_1
      try clear hcz12_2
      try clear hfz12_0
      try clear hfz12_1
      try clear hfz12_2
      try clear hx436_0
      try clear hx436_1
      try clear hx436_2
      try clear p2
      try clear p436
      try clear q436
      obtain ⟨x7_2, x23_2, rfl, HA, HK2, HO_4, HO_7, HO_21, BK424, BK437, HB⟩ := hrel
      cases gk with
      | zero => exact absurd HA.out (by simp [spec_ConntrackTree.l1])
      | succ k2 =>
       have H := HA.out
       clear HA
       simp only [spec_ConntrackTree.l1] at H
       by_cases c15 : x23_2 < (t438.length : Int)
       ·rw [if_pos c15] at H
        have c15b0 : decide (x23_2 < (t438.length : Int)) = true := decide_eq_true c15
        clear c15
        replace H := guard_inv H
        obtain ⟨c16, H⟩ := H
        have c16b0 : decide (0 ≤ x23_2) = true := decide_eq_true c16
        clear c16
        replace H := guard_inv H
        obtain ⟨c17, H⟩ := H
        have c17b0 : decide (x23_2 < (t438.length : Int)) = true := decide_eq_true c17
        clear c17
        by_cases c18 : x23_2 = 12
        ·rw [if_pos c18] at H
         have c18b0 : (x23_2 == 12) = true := beq_iff_eq.mpr c18
         have c18b1 : (x23_2 != 12) = false := bne_eq_false_iff_eq.mpr c18
         clear c18
         replace H := guard_inv H
         obtain ⟨c19, H⟩ := H
         have c19b0 : decide (16 < (((rd_T31 l0 x17_1).f1).length : Int)) = true := decide_eq_true c19
         have c19b1 : decide (16 < ((rd_T31 l0 x17_1).f1).length) = true := decide_eq_true (by omega)
         clear c19
         replace H := Option.bind_eq_some_iff.mp H
         obtain ⟨⟨t443, t444, t445, t446, t447, t448, t449, t450⟩, A200, H⟩ := H
         replace H : (if x7_2.length < 1466015503701 then (spec_ConntrackTree.l1 k2 x4_1 (x7_2 ++ [(⟨t443, t444, t445, t446, t447, t448, t449, t450⟩ : S39)]) l0 (l0.length : Int) x17_1 t438 (t438.length : Int) (wrap64 (x23_2 + 1)) ((rd_T31 l0 x17_1).f0) ((rd_T31 l0 x17_1).f1) ((rd_T31 l0 x17_1).f2)) else (none)) = some (r1, r2, r3, r4, r5, r6, r7, r8, r9) := H
         have A20 := Aside0.mk A200
         clear A200
         replace H := guard_inv H
         obtain ⟨c21, H⟩ := H
         have LMc21 := Aside0.mk c21
         clear c21
         obtain ⟨y453, hy453⟩ : ∃ y_ : List (S39), y_ = (x7_2 ++ [(⟨t443, t444, t445, t446, t447, t448, t449, t450⟩ : S39)]) := ⟨_, rfl⟩
         replace H : (spec_ConntrackTree.l1 k2 x4_1 y453 l0 (l0.length : Int) x17_1 t438 (t438.length : Int) (wrap64 (x23_2 + 1)) ((rd_T31 l0 x17_1).f0) ((rd_T31 l0 x17_1).f1) ((rd_T31 l0 x17_1).f2)) = some (r1, r2, r3, r4, r5, r6, r7, r8, r9) := by first | (rw [hy453]; with_reducible exact H) | (have H2_ := (Option.bind_some _ _).symm.trans H; rw [hy453]; with_reducible exact H2_) | (have H2_ := (Option.bind_some _ _).symm.trans H; with_reducible exact H2_) | with_reducible exact H | (rw [hy453]; exact H) | exact H
         have Ny453 := Aside0.mk hy453
         clear hy453
         have H' := Aside0.mk H
         clear H
         have p441 : 0 ≤ (x23_2 : Int) := of_decide_eq_true (by first | (with_reducible assumption) | assumption)
         have q441 : x23_2 < (t438.length : Int) := of_decide_eq_true (by first | (with_reducible assumption) | assumption)
         obtain ⟨ad441, e441, hx441_0⟩ := Kd.at_string (Kd.R_reads' HO_21.out).2.2 x23_2 p441 q441
         cases e441
         replace p441 := eq_true p441
         replace q441 := eq_true q441
         have hnb22 := NB437_424.out
         have hnc22 := NB424_437.out
         have hcz23_0 : wr.cell? ⟨gb437, 0, none⟩ = some (.string ((rd_T31 l0 x17_1).f0)) := (blk_cell BK437.out 0).trans rfl
         have hcz23_1 : wr.cell? ⟨gb437, 1, none⟩ = some (.slice A436_1 ((rd_T31 l0 x17_1).f1).length c436_1) := (blk_cell BK437.out 1).trans rfl
         have hcz23_2 : wr.cell? ⟨gb437, 2, none⟩ = some (.slice A436_2 ((rd_T31 l0 x17_1).f2).length c436_2) := (blk_cell BK437.out 2).trans rfl
         have hfz23_0 := blk_frozen BK437.out 0
         have hfz23_1 := blk_frozen BK437.out 1
         have hfz23_2 := blk_frozen BK437.out 2
         have p442 : 0 ≤ (16 : Int) := (by omega)
         have q442 : 16 < (((rd_T31 l0 x17_1).f1).length : Int) := of_decide_eq_true (by first | (with_reducible assumption) | assumption)
         obtain ⟨ad442, e442, hx442_0⟩ := Kd.at_int HR436_1.out 16 p442 q442
         cases e442
         (try simp only [show (16 : Int).toNat = 16 from rfl, Nat.reduceMul, Nat.reduceEqDiff, Go.Addr.add, ↓reduceIte] at hx442_0)
         have qi442 : (16 < ((rd_T31 l0 x17_1).f1).length) = True := eq_true (by omega)
         (try rw [show ((16 : Int)).toNat = 16 from rfl] at hx442_0)
         replace hx442_0 := (HB.out.cell (World.block_lt_of_cell? w _ hx442_0)).trans hx442_0
         replace p442 := eq_true p442
         replace q442 := eq_true q442
         go_wp2_with (first | ((with_reducible refine gate_callee (f := 75) rfl ?_); refine goesL_ (some 38) rfl rfl Tryz.func75 (by kernel_rfl) rfl #[.string (rdOf ByteArray.empty t438 x23_2), .int .u64 (rd ((rd_T31 l0 x17_1).f1) 16)] rfl (by (try simp only [List.map_toArray, List.map_cons, List.map_nil]); first | done | rfl | (simp only [List.length_drop, List.length_take]; rfl)) ?_; (with_reducible refine (spec_uintNode.calls (rdOf ByteArray.empty t438 x23_2) (rd ((rd_T31 l0 x17_1).f1) 16) t443 t444 t445 t446 t447 t448 t449 t450 _ A20.out).mono ?_); rintro e w24 ⟨v451, rfl, ho0, hb⟩; refine ⟨_, rfl, ?_⟩; have n0_ := Aside0.mk (Kd.N_elder' (by (with_reducible repeat (first | apply Kd.N_alloc | apply Kd.N_drewN | apply Kd.N_drew)); exact HO_4.out) (by first | exact Kd.N_base ho0 | exact Kd.R_base ho0) hb); have n1_ := Aside0.mk (Kd.N_elder' (by (with_reducible repeat (first | apply Kd.N_alloc | apply Kd.N_drewN | apply Kd.N_drew)); exact HO_7.out) (by first | exact Kd.N_base ho0 | exact Kd.R_base ho0) hb); have n2_ := Aside0.mk (Kd.R_below (by (with_reducible repeat (first | apply Kd.R_alloc | apply Kd.R_drewN | apply Kd.R_drew)); exact HO_21.out) hb); have n3_ := Aside0.mk (Kd.N_lower (Kd.N_mono (ok' := fun k_ => (w.heap.size ≤ k_) ∧ some k_ ≠ (u4 : Value).ownBlock ∧ some k_ ≠ (u7 : Value).ownBlock ∧ some k_ ≠ (.slice (some ad441) t438.length co14 : Value).ownBlock ∧ k_ ≠ gb424 ∧ k_ ≠ gb437) (Kd.R_N (Kd.R_bound ho0)) (fun k_ hk_ => ⟨(Nat.le_trans (below_size (by repeat (first | (with_reducible first | exact HB.out | apply below_alloc | apply pw_below_drewN | apply below_drew1 | refine below_set ?_ GE424.out | refine below_set ?_ GE437.out) | exact HB.out))) hk_.2.1), (Kd.fresh' (Kd.N_lt (by (with_reducible repeat (first | apply Kd.N_alloc | apply Kd.N_drewN | apply Kd.N_drew)); exact HO_4.out)) k_ hk_.2.1), (Kd.fresh' (Kd.N_lt (by (with_reducible repeat (first | apply Kd.N_alloc | apply Kd.N_drewN | apply Kd.N_drew)); exact HO_7.out)) k_ hk_.2.1), (Kd.fresh' (Kd.R_lt (by (with_reducible repeat (first | apply Kd.R_alloc | apply Kd.R_drewN | apply Kd.R_drew)); exact HO_21.out)) k_ hk_.2.1), (Kd.freshB (g := gb424) (o := .cells #[.string (⟨#[]⟩ : ByteArray), .int .i64 0, .bool false, .int .i64 0, .int .u64 0, .float .f64 0, .string (⟨#[]⟩ : ByteArray), .slice none 0 0] 39 (0, 0)) (by (with_reducible repeat (first | refine blk_drewN ?_ _ | refine blk_drew ?_ | refine blk_alloc ?_ _)); exact BK424.out) k_ hk_.2.1), (Kd.freshB (g := gb437) (o := .cells #[.string ((rd_T31 l0 x17_1).f0), .slice (some ad442) ((rd_T31 l0 x17_1).f1).length c436_1, .slice A436_2 ((rd_T31 l0 x17_1).f2).length c436_2] 31 (0, 0)) (by (with_reducible repeat (first | refine blk_drewN ?_ _ | refine blk_drew ?_ | refine blk_alloc ?_ _)); exact BK437.out) k_ hk_.2.1)⟩)) (below_size (by repeat (first | (with_reducible first | exact HB.out | apply below_alloc | apply pw_below_drewN | apply below_drew1 | refine below_set ?_ GE424.out | refine below_set ?_ GE437.out) | exact HB.out)))); have n4_ := Aside0.mk (blk_below (g := gb424) (o := .cells #[.string (⟨#[]⟩ : ByteArray), .int .i64 0, .bool false, .int .i64 0, .int .u64 0, .float .f64 0, .string (⟨#[]⟩ : ByteArray), .slice none 0 0] 39 (0, 0)) (by (with_reducible repeat (first | refine blk_drewN ?_ _ | refine blk_drew ?_ | refine blk_alloc ?_ _)); exact BK424.out) hb); have n5_ := Aside0.mk (blk_below (g := gb437) (o := .cells #[.string ((rd_T31 l0 x17_1).f0), .slice (some ad442) ((rd_T31 l0 x17_1).f1).length c436_1, .slice A436_2 ((rd_T31 l0 x17_1).f2).length c436_2] 31 (0, 0)) (by (with_reducible repeat (first | refine blk_drewN ?_ _ | refine blk_drew ?_ | refine blk_alloc ?_ _)); exact BK437.out) hb); have n6_ := Aside0.mk (below_step (by repeat (first | (with_reducible first | exact HB.out | apply below_alloc | apply pw_below_drewN | apply below_drew1 | refine below_set ?_ GE424.out | refine below_set ?_ GE437.out) | exact HB.out)) hb); clear HO_4; clear HO_7; clear HO_21; clear BK424; clear BK437; clear HB; have HO_4 := n0_; have HO_7 := n1_; have HO_21 := n2_; have HO452 := n3_; have BK424 := n4_; have BK437 := n5_; have HB := n6_; clear n0_ n1_ n2_ n3_ n4_ n5_ n6_; (try clear hb); (try clear hb2); (try clear hk); (try clear hi); (try clear ho0); obtain ⟨Ao26, co26, eo26⟩ := Kd.N_slice HO452.out; subst eo26) | ((with_reducible refine gate_builtin (b := .append) (xs := #[.tmp 31, .tmp 39]) rfl ?_); at_builtin; refine Kd.N_append k39 (w0 := w) w.heap.size rfl (.tmp 31) (.tmp 39) 37 39 (.agg #[(.string ⟨#[]⟩), (.int .i64 0), (.bool false), (.int .i64 0), (.int .u64 0), (.float .f64 0), (.string ⟨#[]⟩), (.slice none 0 0)]) 96 rfl Tryz.underlying37 info39 rfl (by decide) (by omega) u7 x7_2 (⟨t443, t444, t445, t446, t447, t448, t449, t450⟩ : S39) [.string t443, .int .i64 t444, .bool t445, .int .i64 t446, .int .u64 t447, .float .f64 t448, .string t449, .slice Ao26 t450.length co26] (fun k_ => (w.heap.size ≤ k_) ∧ some k_ ≠ (u4 : Value).ownBlock ∧ some k_ ≠ (.slice (some ad441) t438.length co14 : Value).ownBlock ∧ k_ ≠ gb424 ∧ k_ ≠ gb437) (fun k_ => ((fun k_ => (w.heap.size ≤ k_) ∧ some k_ ≠ (u4 : Value).ownBlock ∧ some k_ ≠ (.slice (some ad441) t438.length co14 : Value).ownBlock ∧ k_ ≠ gb424 ∧ k_ ≠ gb437)) k_ ∧ some k_ ≠ (u7 : Value).ownBlock) rfl rfl ?aP (fun _ hk => hk) ?aF ?aO ?aB ?aS ?aL ?_; (case aP => exact (k39_mkF _ _ (⟨t443, t444, t445, t446, t447, t448, t449, t450⟩ : S39) (Kd.N_reads' (Kd.N_mono (ok' := (fun k_ => ((fun k_ => (w.heap.size ≤ k_) ∧ some k_ ≠ (u4 : Value).ownBlock ∧ some k_ ≠ (.slice (some ad441) t438.length co14 : Value).ownBlock ∧ k_ ≠ gb424 ∧ k_ ≠ gb437)) k_ ∧ some k_ ≠ (u7 : Value).ownBlock)) (HO452.out) (fun k_ hk => ⟨⟨hk.1, ⟨hk.2.1, ⟨hk.2.2.2.1, ⟨hk.2.2.2.2.1, hk.2.2.2.2.2⟩⟩⟩⟩, hk.2.2.1⟩))).2.1 (Kd.N_F (Kd.N_mono (ok' := (fun k_ => ((fun k_ => (w.heap.size ≤ k_) ∧ some k_ ≠ (u4 : Value).ownBlock ∧ some k_ ≠ (.slice (some ad441) t438.length co14 : Value).ownBlock ∧ k_ ≠ gb424 ∧ k_ ≠ gb437)) k_ ∧ some k_ ≠ (u7 : Value).ownBlock)) (HO452.out) (fun k_ hk => ⟨⟨hk.1, ⟨hk.2.1, ⟨hk.2.2.2.1, ⟨hk.2.2.2.2.1, hk.2.2.2.2.2⟩⟩⟩⟩, hk.2.2.1⟩))))); (case aB => exact (by repeat (first | (with_reducible first | exact HB.out | apply below_alloc | apply pw_below_drewN | apply below_drew1 | refine below_set ?_ GE424.out | refine below_set ?_ GE437.out) | exact HB.out))); (case aF => exact (fun k_ hk => ⟨(Nat.le_trans (below_size (by repeat (first | (with_reducible first | exact HB.out | apply below_alloc | apply pw_below_drewN | apply below_drew1 | refine below_set ?_ GE424.out | refine below_set ?_ GE437.out) | exact HB.out))) hk), Kd.fresh' (Kd.N_lt (by (with_reducible repeat (first | apply Kd.N_alloc | apply Kd.N_drewN | apply Kd.N_drew)); exact HO_4.out)) k_ hk, Kd.fresh' (Kd.R_lt (by (with_reducible repeat (first | apply Kd.R_alloc | apply Kd.R_drewN | apply Kd.R_drew)); exact HO_21.out)) k_ hk, Kd.freshB (g := gb424) (o := .cells #[.string (⟨#[]⟩ : ByteArray), .int .i64 0, .bool false, .int .i64 0, .int .u64 0, .float .f64 0, .string (⟨#[]⟩ : ByteArray), .slice none 0 0] 39 (0, 0)) (by (with_reducible repeat (first | refine blk_drewN ?_ _ | refine blk_drew ?_ | refine blk_alloc ?_ _)); exact BK424.out) k_ hk, Kd.freshB (g := gb437) (o := .cells #[.string ((rd_T31 l0 x17_1).f0), .slice (some ad442) ((rd_T31 l0 x17_1).f1).length c436_1, .slice A436_2 ((rd_T31 l0 x17_1).f2).length c436_2] 31 (0, 0)) (by (with_reducible repeat (first | refine blk_drewN ?_ _ | refine blk_drew ?_ | refine blk_alloc ?_ _)); exact BK437.out) k_ hk⟩)); (case aO => exact (by (with_reducible repeat (first | apply Kd.N_alloc | apply Kd.N_drewN | apply Kd.N_drew)); exact Kd.N_mono HO_7.out (fun _ hk => ⟨hk.1.1, ⟨hk.1.2.1, ⟨hk.1.2.2.1, ⟨hk.1.2.2.2.1, hk.1.2.2.2.2⟩⟩⟩⟩))); (case aS => exact (below_size (by repeat (first | (with_reducible first | exact HB.out | apply below_alloc | apply pw_below_drewN | apply below_drew1 | refine below_set ?_ GE424.out | refine below_set ?_ GE437.out) | exact HB.out)))); (case aL => have := LMc21.out; omega); intro v454 w25 ho hb hg hat; rw [← Ny453.out] at ho; have n0_ := Aside0.mk (Kd.N_afterv (ok := (fun k_ => (w.heap.size ≤ k_) ∧ some k_ ≠ (.slice (some ad441) t438.length co14 : Value).ownBlock ∧ some k_ ≠ (.slice Ao26 t450.length co26 : Value).ownBlock ∧ k_ ≠ gb424 ∧ k_ ≠ gb437)) (by (with_reducible repeat (first | apply Kd.N_alloc | apply Kd.N_drewN | apply Kd.N_drew)); exact Kd.N_mono HO_4.out (fun _ hk => ⟨⟨hk.1.1, ⟨hk.1.2.2.1, ⟨hk.2, ⟨hk.1.2.2.2.1, hk.1.2.2.2.2⟩⟩⟩⟩, hk.1.2.1⟩)) hg hat); have n1_ := Aside0.mk (Kd.R_over' (by (with_reducible repeat (first | apply Kd.R_alloc | apply Kd.R_drewN | apply Kd.R_drew)); exact HO_21.out) (Kd.N_typed (by (with_reducible repeat (first | apply Kd.N_alloc | apply Kd.N_drewN | apply Kd.N_drew)); exact HO_7.out)) (by decide) hg); have n2_ := Aside0.mk (blk_grown (g := gb424) (o := .cells #[.string (⟨#[]⟩ : ByteArray), .int .i64 0, .bool false, .int .i64 0, .int .u64 0, .float .f64 0, .string (⟨#[]⟩ : ByteArray), .slice none 0 0] 39 (0, 0)) (by (with_reducible repeat (first | refine blk_drewN ?_ _ | refine blk_drew ?_ | refine blk_alloc ?_ _)); exact BK424.out) hg (Kd.N_away HO_7.out (fun _ hk => hk.1.2.2.2.1))); have n3_ := Aside0.mk (blk_grown (g := gb437) (o := .cells #[.string ((rd_T31 l0 x17_1).f0), .slice (some ad442) ((rd_T31 l0 x17_1).f1).length c436_1, .slice A436_2 ((rd_T31 l0 x17_1).f2).length c436_2] 31 (0, 0)) (by (with_reducible repeat (first | refine blk_drewN ?_ _ | refine blk_drew ?_ | refine blk_alloc ?_ _)); exact BK437.out) hg (Kd.N_ne HO_7.out BK437.out (by decide))); have n4_ := Aside0.mk (hb); have n5_ := Aside0.mk (ho); clear HO_4; clear HO_21; clear BK424; clear BK437; clear HB; clear HO_7; clear HO452; have HO_4 := n0_; have HO_21 := n1_; have BK424 := n2_; have BK437 := n3_; have HB := n4_; have HO455 := n5_; clear n0_ n1_ n2_ n3_ n4_ n5_; clear ho hb hg hat))
         go_roundg k2
         case measure => have := HK1.out; have := HK2.out; omega
         case rel => exact ⟨(y453), (wrap64 (x23_2 + 1)), (by first | rfl | (simp; done) | (simp [*]; done)), H', ⟨by have := HK1.out; have := HK2.out; omega⟩, ⟨by (with_reducible repeat (first | apply Kd.N_alloc | apply Kd.N_drewN | apply Kd.N_drew)); exact Kd.N_mono HO_4.out (fun _ hk => ⟨hk.1.1, ⟨hk.2, ⟨hk.1.2.1, ⟨hk.1.2.2.2.1, hk.1.2.2.2.2⟩⟩⟩⟩)⟩, ⟨by (with_reducible repeat (first | apply Kd.N_alloc | apply Kd.N_drewN | apply Kd.N_drew)); exact HO455.out⟩, ⟨by (with_reducible repeat (first | apply Kd.R_alloc | apply Kd.R_drewN | apply Kd.R_drew)); exact HO_21.out⟩, ⟨by (with_reducible repeat (first | refine blk_drewN ?_ _ | refine blk_drew ?_ | refine blk_alloc ?_ _)); exact BK424.out⟩, ⟨by (with_reducible repeat (first | refine blk_drewN ?_ _ | refine blk_drew ?_ | refine blk_alloc ?_ _)); exact BK437.out⟩, ⟨by repeat (first | (with_reducible first | exact HB.out | apply below_alloc | apply pw_below_drewN | apply below_drew1 | refine below_set ?_ GE424.out | refine below_set ?_ GE437.out) | exact HB.out)⟩⟩
        ·rw [if_neg c18] at H
         have c18b0 : (x23_2 == 12) = false := beq_eq_false_iff_ne.mpr c18
         have c18b1 : (x23_2 != 12) = true := bne_iff_ne.mpr c18
         replace H := guard_inv H
         obtain ⟨c27, H⟩ := H
         have c27b0 : decide (x23_2 < (((rd_T31 l0 x17_1).f1).length : Int)) = true := decide_eq_true c27
         clear c27
         replace H := Option.bind_eq_some_iff.mp H
         obtain ⟨⟨t457, t458, t459, t460, t461, t462, t463, t464⟩, A280, H⟩ := H
         replace H : (if x7_2.length < 1466015503701 then (spec_ConntrackTree.l1 k2 x4_1 (x7_2 ++ [(⟨t457, t458, t459, t460, t461, t462, t463, t464⟩ : S39)]) l0 (l0.length : Int) x17_1 t438 (t438.length : Int) (wrap64 (x23_2 + 1)) ((rd_T31 l0 x17_1).f0) ((rd_T31 l0 x17_1).f1) ((rd_T31 l0 x17_1).f2)) else (none)) = some (r1, r2, r3, r4, r5, r6, r7, r8, r9) := H
         have A28 := Aside0.mk A280
         clear A280
         replace H := guard_inv H
         obtain ⟨c29, H⟩ := H
         have LMc29 := Aside0.mk c29
         clear c29
         obtain ⟨y467, hy467⟩ : ∃ y_ : List (S39), y_ = (x7_2 ++ [(⟨t457, t458, t459, t460, t461, t462, t463, t464⟩ : S39)]) := ⟨_, rfl⟩
         replace H : (spec_ConntrackTree.l1 k2 x4_1 y467 l0 (l0.length : Int) x17_1 t438 (t438.length : Int) (wrap64 (x23_2 + 1)) ((rd_T31 l0 x17_1).f0) ((rd_T31 l0 x17_1).f1) ((rd_T31 l0 x17_1).f2)) = some (r1, r2, r3, r4, r5, r6, r7, r8, r9) := by first | (rw [hy467]; with_reducible exact H) | (have H2_ := (Option.bind_some _ _).symm.trans H; rw [hy467]; with_reducible exact H2_) | (have H2_ := (Option.bind_some _ _).symm.trans H; with_reducible exact H2_) | with_reducible exact H | (rw [hy467]; exact H) | exact H
         have Ny467 := Aside0.mk hy467
         clear hy467
         have H' := Aside0.mk H
         clear H
         have p441 : 0 ≤ (x23_2 : Int) := of_decide_eq_true (by first | (with_reducible assumption) | assumption)
         have q441 : x23_2 < (t438.length : Int) := of_decide_eq_true (by first | (with_reducible assumption) | assumption)
         obtain ⟨ad441, e441, hx441_0⟩ := Kd.at_string (Kd.R_reads' HO_21.out).2.2 x23_2 p441 q441
         cases e441
         replace p441 := eq_true p441
         replace q441 := eq_true q441
         have hnb30 := NB437_424.out
         have hnc30 := NB424_437.out
         have hcz31_0 : wr.cell? ⟨gb437, 0, none⟩ = some (.string ((rd_T31 l0 x17_1).f0)) := (blk_cell BK437.out 0).trans rfl
         have hcz31_1 : wr.cell? ⟨gb437, 1, none⟩ = some (.slice A436_1 ((rd_T31 l0 x17_1).f1).length c436_1) := (blk_cell BK437.out 1).trans rfl
         have hcz31_2 : wr.cell? ⟨gb437, 2, none⟩ = some (.slice A436_2 ((rd_T31 l0 x17_1).f2).length c436_2) := (blk_cell BK437.out 2).trans rfl
         have hfz31_0 := blk_frozen BK437.out 0
         have hfz31_1 := blk_frozen BK437.out 1
         have hfz31_2 := blk_frozen BK437.out 2
         have p456 : 0 ≤ (x23_2 : Int) := of_decide_eq_true (by first | (with_reducible assumption) | assumption)
         have q456 : x23_2 < (((rd_T31 l0 x17_1).f1).length : Int) := of_decide_eq_true (by first | (with_reducible assumption) | assumption)
         obtain ⟨ad456, e456, hx456_0⟩ := Kd.at_int HR436_1.out x23_2 p456 q456
         cases e456
         replace hx456_0 := (HB.out.cell (World.block_lt_of_cell? w _ hx456_0)).trans hx456_0
         replace p456 := eq_true p456
         replace q456 := eq_true q456
         go_wp2_with (first | ((with_reducible refine gate_callee (f := 75) rfl ?_); refine goesL_ (some 38) rfl rfl Tryz.func75 (by kernel_rfl) rfl #[.string (rdOf ByteArray.empty t438 x23_2), .int .u64 (rd ((rd_T31 l0 x17_1).f1) x23_2)] rfl (by (try simp only [List.map_toArray, List.map_cons, List.map_nil]); first | done | rfl | (simp only [List.length_drop, List.length_take]; rfl)) ?_; (with_reducible refine (spec_uintNode.calls (rdOf ByteArray.empty t438 x23_2) (rd ((rd_T31 l0 x17_1).f1) x23_2) t457 t458 t459 t460 t461 t462 t463 t464 _ A28.out).mono ?_); rintro e w32 ⟨v465, rfl, ho0, hb⟩; refine ⟨_, rfl, ?_⟩; have n0_ := Aside0.mk (Kd.N_elder' (by (with_reducible repeat (first | apply Kd.N_alloc | apply Kd.N_drewN | apply Kd.N_drew)); exact HO_4.out) (by first | exact Kd.N_base ho0 | exact Kd.R_base ho0) hb); have n1_ := Aside0.mk (Kd.N_elder' (by (with_reducible repeat (first | apply Kd.N_alloc | apply Kd.N_drewN | apply Kd.N_drew)); exact HO_7.out) (by first | exact Kd.N_base ho0 | exact Kd.R_base ho0) hb); have n2_ := Aside0.mk (Kd.R_below (by (with_reducible repeat (first | apply Kd.R_alloc | apply Kd.R_drewN | apply Kd.R_drew)); exact HO_21.out) hb); have n3_ := Aside0.mk (Kd.N_lower (Kd.N_mono (ok' := fun k_ => (w.heap.size ≤ k_) ∧ some k_ ≠ (u4 : Value).ownBlock ∧ some k_ ≠ (u7 : Value).ownBlock ∧ some k_ ≠ (.slice (some ad441) t438.length co14 : Value).ownBlock ∧ k_ ≠ gb424 ∧ k_ ≠ gb437) (Kd.R_N (Kd.R_bound ho0)) (fun k_ hk_ => ⟨(Nat.le_trans (below_size (by repeat (first | (with_reducible first | exact HB.out | apply below_alloc | apply pw_below_drewN | apply below_drew1 | refine below_set ?_ GE424.out | refine below_set ?_ GE437.out) | exact HB.out))) hk_.2.1), (Kd.fresh' (Kd.N_lt (by (with_reducible repeat (first | apply Kd.N_alloc | apply Kd.N_drewN | apply Kd.N_drew)); exact HO_4.out)) k_ hk_.2.1), (Kd.fresh' (Kd.N_lt (by (with_reducible repeat (first | apply Kd.N_alloc | apply Kd.N_drewN | apply Kd.N_drew)); exact HO_7.out)) k_ hk_.2.1), (Kd.fresh' (Kd.R_lt (by (with_reducible repeat (first | apply Kd.R_alloc | apply Kd.R_drewN | apply Kd.R_drew)); exact HO_21.out)) k_ hk_.2.1), (Kd.freshB (g := gb424) (o := .cells #[.string (⟨#[]⟩ : ByteArray), .int .i64 0, .bool false, .int .i64 0, .int .u64 0, .float .f64 0, .string (⟨#[]⟩ : ByteArray), .slice none 0 0] 39 (0, 0)) (by (with_reducible repeat (first | refine blk_drewN ?_ _ | refine blk_drew ?_ | refine blk_alloc ?_ _)); exact BK424.out) k_ hk_.2.1), (Kd.freshB (g := gb437) (o := .cells #[.string ((rd_T31 l0 x17_1).f0), .slice (some ad456) ((rd_T31 l0 x17_1).f1).length c436_1, .slice A436_2 ((rd_T31 l0 x17_1).f2).length c436_2] 31 (0, 0)) (by (with_reducible repeat (first | refine blk_drewN ?_ _ | refine blk_drew ?_ | refine blk_alloc ?_ _)); exact BK437.out) k_ hk_.2.1)⟩)) (below_size (by repeat (first | (with_reducible first | exact HB.out | apply below_alloc | apply pw_below_drewN | apply below_drew1 | refine below_set ?_ GE424.out | refine below_set ?_ GE437.out) | exact HB.out)))); have n4_ := Aside0.mk (blk_below (g := gb424) (o := .cells #[.string (⟨#[]⟩ : ByteArray), .int .i64 0, .bool false, .int .i64 0, .int .u64 0, .float .f64 0, .string (⟨#[]⟩ : ByteArray), .slice none 0 0] 39 (0, 0)) (by (with_reducible repeat (first | refine blk_drewN ?_ _ | refine blk_drew ?_ | refine blk_alloc ?_ _)); exact BK424.out) hb); have n5_ := Aside0.mk (blk_below (g := gb437) (o := .cells #[.string ((rd_T31 l0 x17_1).f0), .slice (some ad456) ((rd_T31 l0 x17_1).f1).length c436_1, .slice A436_2 ((rd_T31 l0 x17_1).f2).length c436_2] 31 (0, 0)) (by (with_reducible repeat (first | refine blk_drewN ?_ _ | refine blk_drew ?_ | refine blk_alloc ?_ _)); exact BK437.out) hb); have n6_ := Aside0.mk (below_step (by repeat (first | (with_reducible first | exact HB.out | apply below_alloc | apply pw_below_drewN | apply below_drew1 | refine below_set ?_ GE424.out | refine below_set ?_ GE437.out) | exact HB.out)) hb); clear HO_4; clear HO_7; clear HO_21; clear BK424; clear BK437; clear HB; have HO_4 := n0_; have HO_7 := n1_; have HO_21 := n2_; have HO466 := n3_; have BK424 := n4_; have BK437 := n5_; have HB := n6_; clear n0_ n1_ n2_ n3_ n4_ n5_ n6_; (try clear hb); (try clear hb2); (try clear hk); (try clear hi); (try clear ho0); obtain ⟨Ao34, co34, eo34⟩ := Kd.N_slice HO466.out; subst eo34) | ((with_reducible refine gate_builtin (b := .append) (xs := #[.tmp 31, .tmp 39]) rfl ?_); at_builtin; refine Kd.N_append k39 (w0 := w) w.heap.size rfl (.tmp 31) (.tmp 39) 37 39 (.agg #[(.string ⟨#[]⟩), (.int .i64 0), (.bool false), (.int .i64 0), (.int .u64 0), (.float .f64 0), (.string ⟨#[]⟩), (.slice none 0 0)]) 96 rfl Tryz.underlying37 info39 rfl (by decide) (by omega) u7 x7_2 (⟨t457, t458, t459, t460, t461, t462, t463, t464⟩ : S39) [.string t457, .int .i64 t458, .bool t459, .int .i64 t460, .int .u64 t461, .float .f64 t462, .string t463, .slice Ao34 t464.length co34] (fun k_ => (w.heap.size ≤ k_) ∧ some k_ ≠ (u4 : Value).ownBlock ∧ some k_ ≠ (.slice (some ad441) t438.length co14 : Value).ownBlock ∧ k_ ≠ gb424 ∧ k_ ≠ gb437) (fun k_ => ((fun k_ => (w.heap.size ≤ k_) ∧ some k_ ≠ (u4 : Value).ownBlock ∧ some k_ ≠ (.slice (some ad441) t438.length co14 : Value).ownBlock ∧ k_ ≠ gb424 ∧ k_ ≠ gb437)) k_ ∧ some k_ ≠ (u7 : Value).ownBlock) rfl rfl ?aP (fun _ hk => hk) ?aF ?aO ?aB ?aS ?aL ?_; (case aP => exact (k39_mkF _ _ (⟨t457, t458, t459, t460, t461, t462, t463, t464⟩ : S39) (Kd.N_reads' (Kd.N_mono (ok' := (fun k_ => ((fun k_ => (w.heap.size ≤ k_) ∧ some k_ ≠ (u4 : Value).ownBlock ∧ some k_ ≠ (.slice (some ad441) t438.length co14 : Value).ownBlock ∧ k_ ≠ gb424 ∧ k_ ≠ gb437)) k_ ∧ some k_ ≠ (u7 : Value).ownBlock)) (HO466.out) (fun k_ hk => ⟨⟨hk.1, ⟨hk.2.1, ⟨hk.2.2.2.1, ⟨hk.2.2.2.2.1, hk.2.2.2.2.2⟩⟩⟩⟩, hk.2.2.1⟩))).2.1 (Kd.N_F (Kd.N_mono (ok' := (fun k_ => ((fun k_ => (w.heap.size ≤ k_) ∧ some k_ ≠ (u4 : Value).ownBlock ∧ some k_ ≠ (.slice (some ad441) t438.length co14 : Value).ownBlock ∧ k_ ≠ gb424 ∧ k_ ≠ gb437)) k_ ∧ some k_ ≠ (u7 : Value).ownBlock)) (HO466.out) (fun k_ hk => ⟨⟨hk.1, ⟨hk.2.1, ⟨hk.2.2.2.1, ⟨hk.2.2.2.2.1, hk.2.2.2.2.2⟩⟩⟩⟩, hk.2.2.1⟩))))); (case aB => exact (by repeat (first | (with_reducible first | exact HB.out | apply below_alloc | apply pw_below_drewN | apply below_drew1 | refine below_set ?_ GE424.out | refine below_set ?_ GE437.out) | exact HB.out))); (case aF => exact (fun k_ hk => ⟨(Nat.le_trans (below_size (by repeat (first | (with_reducible first | exact HB.out | apply below_alloc | apply pw_below_drewN | apply below_drew1 | refine below_set ?_ GE424.out | refine below_set ?_ GE437.out) | exact HB.out))) hk), Kd.fresh' (Kd.N_lt (by (with_reducible repeat (first | apply Kd.N_alloc | apply Kd.N_drewN | apply Kd.N_drew)); exact HO_4.out)) k_ hk, Kd.fresh' (Kd.R_lt (by (with_reducible repeat (first | apply Kd.R_alloc | apply Kd.R_drewN | apply Kd.R_drew)); exact HO_21.out)) k_ hk, Kd.freshB (g := gb424) (o := .cells #[.string (⟨#[]⟩ : ByteArray), .int .i64 0, .bool false, .int .i64 0, .int .u64 0, .float .f64 0, .string (⟨#[]⟩ : ByteArray), .slice none 0 0] 39 (0, 0)) (by (with_reducible repeat (first | refine blk_drewN ?_ _ | refine blk_drew ?_ | refine blk_alloc ?_ _)); exact BK424.out) k_ hk, Kd.freshB (g := gb437) (o := .cells #[.string ((rd_T31 l0 x17_1).f0), .slice (some ad456) ((rd_T31 l0 x17_1).f1).length c436_1, .slice A436_2 ((rd_T31 l0 x17_1).f2).length c436_2] 31 (0, 0)) (by (with_reducible repeat (first | refine blk_drewN ?_ _ | refine blk_drew ?_ | refine blk_alloc ?_ _)); exact BK437.out) k_ hk⟩)); (case aO => exact (by (with_reducible repeat (first | apply Kd.N_alloc | apply Kd.N_drewN | apply Kd.N_drew)); exact Kd.N_mono HO_7.out (fun _ hk => ⟨hk.1.1, ⟨hk.1.2.1, ⟨hk.1.2.2.1, ⟨hk.1.2.2.2.1, hk.1.2.2.2.2⟩⟩⟩⟩))); (case aS => exact (below_size (by repeat (first | (with_reducible first | exact HB.out | apply below_alloc | apply pw_below_drewN | apply below_drew1 | refine below_set ?_ GE424.out | refine below_set ?_ GE437.out) | exact HB.out)))); (case aL => have := LMc29.out; omega); intro v468 w33 ho hb hg hat; rw [← Ny467.out] at ho; have n0_ := Aside0.mk (Kd.N_afterv (ok := (fun k_ => (w.heap.size ≤ k_) ∧ some k_ ≠ (.slice (some ad441) t438.length co14 : Value).ownBlock ∧ some k_ ≠ (.slice Ao34 t464.length co34 : Value).ownBlock ∧ k_ ≠ gb424 ∧ k_ ≠ gb437)) (by (with_reducible repeat (first | apply Kd.N_alloc | apply Kd.N_drewN | apply Kd.N_drew)); exact Kd.N_mono HO_4.out (fun _ hk => ⟨⟨hk.1.1, ⟨hk.1.2.2.1, ⟨hk.2, ⟨hk.1.2.2.2.1, hk.1.2.2.2.2⟩⟩⟩⟩, hk.1.2.1⟩)) hg hat); have n1_ := Aside0.mk (Kd.R_over' (by (with_reducible repeat (first | apply Kd.R_alloc | apply Kd.R_drewN | apply Kd.R_drew)); exact HO_21.out) (Kd.N_typed (by (with_reducible repeat (first | apply Kd.N_alloc | apply Kd.N_drewN | apply Kd.N_drew)); exact HO_7.out)) (by decide) hg); have n2_ := Aside0.mk (blk_grown (g := gb424) (o := .cells #[.string (⟨#[]⟩ : ByteArray), .int .i64 0, .bool false, .int .i64 0, .int .u64 0, .float .f64 0, .string (⟨#[]⟩ : ByteArray), .slice none 0 0] 39 (0, 0)) (by (with_reducible repeat (first | refine blk_drewN ?_ _ | refine blk_drew ?_ | refine blk_alloc ?_ _)); exact BK424.out) hg (Kd.N_away HO_7.out (fun _ hk => hk.1.2.2.2.1))); have n3_ := Aside0.mk (blk_grown (g := gb437) (o := .cells #[.string ((rd_T31 l0 x17_1).f0), .slice (some ad456) ((rd_T31 l0 x17_1).f1).length c436_1, .slice A436_2 ((rd_T31 l0 x17_1).f2).length c436_2] 31 (0, 0)) (by (with_reducible repeat (first | refine blk_drewN ?_ _ | refine blk_drew ?_ | refine blk_alloc ?_ _)); exact BK437.out) hg (Kd.N_ne HO_7.out BK437.out (by decide))); have n4_ := Aside0.mk (hb); have n5_ := Aside0.mk (ho); clear HO_4; clear HO_21; clear BK424; clear BK437; clear HB; clear HO_7; clear HO466; have HO_4 := n0_; have HO_21 := n1_; have BK424 := n2_; have BK437 := n3_; have HB := n4_; have HO469 := n5_; clear n0_ n1_ n2_ n3_ n4_ n5_; clear ho hb hg hat))
         go_roundg k2
         case measure => have := HK1.out; have := HK2.out; omega
         case rel => exact ⟨(y467), (wrap64 (x23_2 + 1)), (by first | rfl | (simp; done) | (simp [*]; done)), H', ⟨by have := HK1.out; have := HK2.out; omega⟩, ⟨by (with_reducible repeat (first | apply Kd.N_alloc | apply Kd.N_drewN | apply Kd.N_drew)); exact Kd.N_mono HO_4.out (fun _ hk => ⟨hk.1.1, ⟨hk.2, ⟨hk.1.2.1, ⟨hk.1.2.2.2.1, hk.1.2.2.2.2⟩⟩⟩⟩)⟩, ⟨by (with_reducible repeat (first | apply Kd.N_alloc | apply Kd.N_drewN | apply Kd.N_drew)); exact HO469.out⟩, ⟨by (with_reducible repeat (first | apply Kd.R_alloc | apply Kd.R_drewN | apply Kd.R_drew)); exact HO_21.out⟩, ⟨by (with_reducible repeat (first | refine blk_drewN ?_ _ | refine blk_drew ?_ | refine blk_alloc ?_ _)); exact BK424.out⟩, ⟨by (with_reducible repeat (first | refine blk_drewN ?_ _ | refine blk_drew ?_ | refine blk_alloc ?_ _)); exact BK437.out⟩, ⟨by repeat (first | (with_reducible first | exact HB.out | apply below_alloc | apply pw_below_drewN | apply below_drew1 | refine below_set ?_ GE424.out | refine below_set ?_ GE437.out) | exact HB.out)⟩⟩
       ·rw [if_neg c15] at H
        have c15b0 : decide (x23_2 < (t438.length : Int)) = false := decide_eq_false c15
        clear c15
        replace H := Option.bind_eq_some_iff.mp H
        obtain ⟨⟨t470, t471, t472, t473, t474, t475, t476, t477⟩, A350, H⟩ := H
        replace H : (if x4_1.length < 1466015503701 then (spec_ConntrackTree.l0 k2 (x4_1 ++ [(⟨t470, t471, t472, t473, t474, t475, t476, t477⟩ : S39)]) l0 (l0.length : Int) (wrap64 (x17_1 + 1))) else (none)) = some (r1, r2, r3, r4, r5, r6, r7, r8, r9) := H
        have A35 := Aside0.mk A350
        clear A350
        replace H := guard_inv H
        obtain ⟨c36, H⟩ := H
        have LMc36 := Aside0.mk c36
        clear c36
        obtain ⟨y480, hy480⟩ : ∃ y_ : List (S39), y_ = (x4_1 ++ [(⟨t470, t471, t472, t473, t474, t475, t476, t477⟩ : S39)]) := ⟨_, rfl⟩
        replace H : (spec_ConntrackTree.l0 k2 y480 l0 (l0.length : Int) (wrap64 (x17_1 + 1))) = some (r1, r2, r3, r4, r5, r6, r7, r8, r9) := by first | (rw [hy480]; with_reducible exact H) | (have H2_ := (Option.bind_some _ _).symm.trans H; rw [hy480]; with_reducible exact H2_) | (have H2_ := (Option.bind_some _ _).symm.trans H; with_reducible exact H2_) | with_reducible exact H | (rw [hy480]; exact H) | exact H
        have Ny480 := Aside0.mk hy480
        clear hy480
        have H' := Aside0.mk H
        clear H
        obtain ⟨Ao37, co37, eo37⟩ := Kd.N_slice HO_7.out
        subst eo37
        go_wp2_with (first | ((with_reducible refine gate_callee (f := 53) rfl ?_); refine goesL_ (some 44) rfl rfl Tryz.func53 (by kernel_rfl) rfl #[.string (⟨#[]⟩ : ByteArray), .slice Ao37 x7_2.length co37] rfl (by (try simp only [List.map_toArray, List.map_cons, List.map_nil]); first | done | rfl | (simp only [List.length_drop, List.length_take]; rfl)) ?_; (with_reducible refine (spec_recordNode.calls (⟨#[]⟩ : ByteArray) (fun k_ => ((w.heap.size ≤ k_) ∧ (some k_ ≠ (u4 : Value).ownBlock ∧ (some k_ ≠ (.slice Ao14 t438.length co14 : Value).ownBlock ∧ (k_ ≠ gb424 ∧ k_ ≠ gb437))))) _ _ x7_2 t470 t471 t472 t473 t474 t475 t476 t477 _ ?side1 A35.out).mono ?_); (case side1 => exact Kd.N_V (HO_7.out)); rintro e w38 ⟨v478, rfl, ho0, hb⟩; refine ⟨_, rfl, ?_⟩; have n0_ := Aside0.mk (Kd.N_below (by (with_reducible repeat (first | apply Kd.N_alloc | apply Kd.N_drewN | apply Kd.N_drew)); exact HO_4.out) hb); have n1_ := Aside0.mk (Kd.N_below (by (with_reducible repeat (first | apply Kd.N_alloc | apply Kd.N_drewN | apply Kd.N_drew)); exact HO_7.out) hb); have n2_ := Aside0.mk (Kd.R_below (by (with_reducible repeat (first | apply Kd.R_alloc | apply Kd.R_drewN | apply Kd.R_drew)); exact HO_21.out) hb); have n3_ := Aside0.mk (Kd.V_lower (Kd.V_mono (ok' := fun k_ => (w.heap.size ≤ k_) ∧ some k_ ≠ (u4 : Value).ownBlock ∧ some k_ ≠ (.slice Ao14 t438.length co14 : Value).ownBlock ∧ k_ ≠ gb424 ∧ k_ ≠ gb437) ho0 (fun k_ hk_ => ⟨Or.elim hk_ (fun hs_ => hs_.1) (fun hn_ => (Nat.le_trans (below_size (by repeat (first | (with_reducible first | exact HB.out | apply below_alloc | apply pw_below_drewN | apply below_drew1 | refine below_set ?_ GE424.out | refine below_set ?_ GE437.out) | exact HB.out))) hn_)), Or.elim hk_ (fun hs_ => hs_.2.1) (fun hn_ => (Kd.fresh' (Kd.N_lt (by (with_reducible repeat (first | apply Kd.N_alloc | apply Kd.N_drewN | apply Kd.N_drew)); exact HO_4.out)) k_ hn_)), Or.elim hk_ (fun hs_ => hs_.2.2.1) (fun hn_ => (Kd.fresh' (Kd.R_lt (by (with_reducible repeat (first | apply Kd.R_alloc | apply Kd.R_drewN | apply Kd.R_drew)); exact HO_21.out)) k_ hn_)), Or.elim hk_ (fun hs_ => hs_.2.2.2.1) (fun hn_ => (Kd.freshB (g := gb424) (o := .cells #[.string (⟨#[]⟩ : ByteArray), .int .i64 0, .bool false, .int .i64 0, .int .u64 0, .float .f64 0, .string (⟨#[]⟩ : ByteArray), .slice none 0 0] 39 (0, 0)) (by (with_reducible repeat (first | refine blk_drewN ?_ _ | refine blk_drew ?_ | refine blk_alloc ?_ _)); exact BK424.out) k_ hn_)), Or.elim hk_ (fun hs_ => hs_.2.2.2.2) (fun hn_ => (Kd.freshB (g := gb437) (o := .cells #[.string ((rd_T31 l0 x17_1).f0), .slice A436_1 ((rd_T31 l0 x17_1).f1).length c436_1, .slice A436_2 ((rd_T31 l0 x17_1).f2).length c436_2] 31 (0, 0)) (by (with_reducible repeat (first | refine blk_drewN ?_ _ | refine blk_drew ?_ | refine blk_alloc ?_ _)); exact BK437.out) k_ hn_))⟩)) (below_size (by repeat (first | (with_reducible first | exact HB.out | apply below_alloc | apply pw_below_drewN | apply below_drew1 | refine below_set ?_ GE424.out | refine below_set ?_ GE437.out) | exact HB.out)))); have n4_ := Aside0.mk (blk_below (g := gb424) (o := .cells #[.string (⟨#[]⟩ : ByteArray), .int .i64 0, .bool false, .int .i64 0, .int .u64 0, .float .f64 0, .string (⟨#[]⟩ : ByteArray), .slice none 0 0] 39 (0, 0)) (by (with_reducible repeat (first | refine blk_drewN ?_ _ | refine blk_drew ?_ | refine blk_alloc ?_ _)); exact BK424.out) hb); have n5_ := Aside0.mk (blk_below (g := gb437) (o := .cells #[.string ((rd_T31 l0 x17_1).f0), .slice A436_1 ((rd_T31 l0 x17_1).f1).length c436_1, .slice A436_2 ((rd_T31 l0 x17_1).f2).length c436_2] 31 (0, 0)) (by (with_reducible repeat (first | refine blk_drewN ?_ _ | refine blk_drew ?_ | refine blk_alloc ?_ _)); exact BK437.out) hb); have n6_ := Aside0.mk (below_step (by repeat (first | (with_reducible first | exact HB.out | apply below_alloc | apply pw_below_drewN | apply below_drew1 | refine below_set ?_ GE424.out | refine below_set ?_ GE437.out) | exact HB.out)) hb); clear HO_4; clear HO_7; clear HO_21; clear BK424; clear BK437; clear HB; have HO_4 := n0_; have HO_7 := n1_; have HO_21 := n2_; have HO479 := n3_; have BK424 := n4_; have BK437 := n5_; have HB := n6_; clear n0_ n1_ n2_ n3_ n4_ n5_ n6_; (try clear hb); (try clear hb2); (try clear hk); (try clear hi); (try clear ho0); obtain ⟨Ao40, co40, eo40⟩ := Kd.V_slice HO479.out; subst eo40) | ((with_reducible refine gate_builtin (b := .append) (xs := #[.tmp 42, .tmp 45]) rfl ?_); at_builtin; refine Kd.N_append k39 (w0 := w) w.heap.size rfl (.tmp 42) (.tmp 45) 37 39 (.agg #[(.string ⟨#[]⟩), (.int .i64 0), (.bool false), (.int .i64 0), (.int .u64 0), (.float .f64 0), (.string ⟨#[]⟩), (.slice none 0 0)]) 96 rfl Tryz.underlying37 info39 rfl (by decide) (by omega) u4 x4_1 (⟨t470, t471, t472, t473, t474, t475, t476, t477⟩ : S39) [.string t470, .int .i64 t471, .bool t472, .int .i64 t473, .int .u64 t474, .float .f64 t475, .string t476, .slice Ao40 t477.length co40] (fun k_ => (w.heap.size ≤ k_) ∧ some k_ ≠ (.slice Ao14 t438.length co14 : Value).ownBlock ∧ k_ ≠ gb424 ∧ k_ ≠ gb437) (fun k_ => ((fun k_ => (w.heap.size ≤ k_) ∧ some k_ ≠ (.slice Ao14 t438.length co14 : Value).ownBlock ∧ k_ ≠ gb424 ∧ k_ ≠ gb437)) k_ ∧ some k_ ≠ (u4 : Value).ownBlock) rfl rfl ?aP (fun _ hk => hk) ?aF ?aO ?aB ?aS ?aL ?_; (case aP => exact (k39_mkF _ _ (⟨t470, t471, t472, t473, t474, t475, t476, t477⟩ : S39) (Kd.V_reads' (Kd.V_mono (ok' := (fun k_ => ((fun k_ => (w.heap.size ≤ k_) ∧ some k_ ≠ (.slice Ao14 t438.length co14 : Value).ownBlock ∧ k_ ≠ gb424 ∧ k_ ≠ gb437)) k_ ∧ some k_ ≠ (u4 : Value).ownBlock)) (HO479.out) (fun k_ hk => ⟨⟨hk.1, ⟨hk.2.2.1, ⟨hk.2.2.2.1, hk.2.2.2.2⟩⟩⟩, hk.2.1⟩))).2.1 (Kd.V_F (Kd.V_mono (ok' := (fun k_ => ((fun k_ => (w.heap.size ≤ k_) ∧ some k_ ≠ (.slice Ao14 t438.length co14 : Value).ownBlock ∧ k_ ≠ gb424 ∧ k_ ≠ gb437)) k_ ∧ some k_ ≠ (u4 : Value).ownBlock)) (HO479.out) (fun k_ hk => ⟨⟨hk.1, ⟨hk.2.2.1, ⟨hk.2.2.2.1, hk.2.2.2.2⟩⟩⟩, hk.2.1⟩))))); (case aB => exact (by repeat (first | (with_reducible first | exact HB.out | apply below_alloc | apply pw_below_drewN | apply below_drew1 | refine below_set ?_ GE424.out | refine below_set ?_ GE437.out) | exact HB.out))); (case aF => exact (fun k_ hk => ⟨(Nat.le_trans (below_size (by repeat (first | (with_reducible first | exact HB.out | apply below_alloc | apply pw_below_drewN | apply below_drew1 | refine below_set ?_ GE424.out | refine below_set ?_ GE437.out) | exact HB.out))) hk), Kd.fresh' (Kd.R_lt (by (with_reducible repeat (first | apply Kd.R_alloc | apply Kd.R_drewN | apply Kd.R_drew)); exact HO_21.out)) k_ hk, Kd.freshB (g := gb424) (o := .cells #[.string (⟨#[]⟩ : ByteArray), .int .i64 0, .bool false, .int .i64 0, .int .u64 0, .float .f64 0, .string (⟨#[]⟩ : ByteArray), .slice none 0 0] 39 (0, 0)) (by (with_reducible repeat (first | refine blk_drewN ?_ _ | refine blk_drew ?_ | refine blk_alloc ?_ _)); exact BK424.out) k_ hk, Kd.freshB (g := gb437) (o := .cells #[.string ((rd_T31 l0 x17_1).f0), .slice A436_1 ((rd_T31 l0 x17_1).f1).length c436_1, .slice A436_2 ((rd_T31 l0 x17_1).f2).length c436_2] 31 (0, 0)) (by (with_reducible repeat (first | refine blk_drewN ?_ _ | refine blk_drew ?_ | refine blk_alloc ?_ _)); exact BK437.out) k_ hk⟩)); (case aO => exact (by (with_reducible repeat (first | apply Kd.N_alloc | apply Kd.N_drewN | apply Kd.N_drew)); exact Kd.N_mono HO_4.out (fun _ hk => ⟨hk.1, ⟨hk.2.2.1, ⟨hk.2.2.2.1, hk.2.2.2.2⟩⟩⟩))); (case aS => exact (below_size (by repeat (first | (with_reducible first | exact HB.out | apply below_alloc | apply pw_below_drewN | apply below_drew1 | refine below_set ?_ GE424.out | refine below_set ?_ GE437.out) | exact HB.out)))); (case aL => have := LMc36.out; omega); intro v481 w39 ho hb hg hat; rw [← Ny480.out] at ho; have n0_ := Aside0.mk (Kd.N_afterv (ok := (fun k_ => (w.heap.size ≤ k_) ∧ some k_ ≠ (.slice Ao14 t438.length co14 : Value).ownBlock ∧ k_ ≠ gb424 ∧ k_ ≠ gb437)) (by (with_reducible repeat (first | apply Kd.N_alloc | apply Kd.N_drewN | apply Kd.N_drew)); exact Kd.N_mono HO_7.out (fun _ hk => ⟨⟨hk.1, ⟨hk.2.2.1, ⟨hk.2.2.2.1, hk.2.2.2.2⟩⟩⟩, hk.2.1⟩)) hg hat); have n1_ := Aside0.mk (Kd.R_over' (by (with_reducible repeat (first | apply Kd.R_alloc | apply Kd.R_drewN | apply Kd.R_drew)); exact HO_21.out) (Kd.N_typed (by (with_reducible repeat (first | apply Kd.N_alloc | apply Kd.N_drewN | apply Kd.N_drew)); exact HO_4.out)) (by decide) hg); have n2_ := Aside0.mk (blk_grown (g := gb424) (o := .cells #[.string (⟨#[]⟩ : ByteArray), .int .i64 0, .bool false, .int .i64 0, .int .u64 0, .float .f64 0, .string (⟨#[]⟩ : ByteArray), .slice none 0 0] 39 (0, 0)) (by (with_reducible repeat (first | refine blk_drewN ?_ _ | refine blk_drew ?_ | refine blk_alloc ?_ _)); exact BK424.out) hg (Kd.N_away HO_4.out (fun _ hk => hk.2.2.2.1))); have n3_ := Aside0.mk (blk_grown (g := gb437) (o := .cells #[.string ((rd_T31 l0 x17_1).f0), .slice A436_1 ((rd_T31 l0 x17_1).f1).length c436_1, .slice A436_2 ((rd_T31 l0 x17_1).f2).length c436_2] 31 (0, 0)) (by (with_reducible repeat (first | refine blk_drewN ?_ _ | refine blk_drew ?_ | refine blk_alloc ?_ _)); exact BK437.out) hg (Kd.N_ne HO_4.out BK437.out (by decide))); have n4_ := Aside0.mk (Kd.V_afterv (ok := (fun k_ => (w.heap.size ≤ k_) ∧ some k_ ≠ (.slice Ao14 t438.length co14 : Value).ownBlock ∧ k_ ≠ gb424 ∧ k_ ≠ gb437)) (by (with_reducible repeat (first | apply Kd.V_alloc | apply Kd.V_drewN | apply Kd.V_drew)); exact Kd.V_mono HO479.out (fun _ hk => ⟨⟨hk.1, ⟨hk.2.2.1, ⟨hk.2.2.2.1, hk.2.2.2.2⟩⟩⟩, hk.2.1⟩)) hg hat); have n5_ := Aside0.mk (hb); have n6_ := Aside0.mk (ho); clear HO_7; clear HO_21; clear BK424; clear BK437; clear HO479; clear HB; clear HO_4; have HO_7 := n0_; have HO_21 := n1_; have BK424 := n2_; have BK437 := n3_; have HO479 := n4_; have HB := n5_; have HO482 := n6_; clear n0_ n1_ n2_ n3_ n4_ n5_ n6_; clear ho hb hg hat))
        go_roundg k2
        case measure => have := HK1.out; have := HK2.out; omega
        case rel => exact ⟨(y480), (wrap64 (x17_1 + 1)), (by first | rfl | (simp; done) | (simp [*]; done)), H', ⟨by have := HK1.out; have := HK2.out; omega⟩, ⟨by (with_reducible repeat (first | apply Kd.N_alloc | apply Kd.N_drewN | apply Kd.N_drew)); exact Kd.N_mono HO482.out (fun _ hk => ⟨hk.1, hk.2.2.1⟩)⟩, ⟨by (with_reducible repeat (first | refine blk_drewN ?_ _ | refine blk_drew ?_ | refine blk_alloc ?_ _)); exact BK424.out⟩, ⟨by repeat (first | (with_reducible first | exact HB.out | apply below_alloc | apply pw_below_drewN | apply below_drew1 | refine below_set ?_ GE424.out | refine below_set ?_ GE437.out) | exact HB.out)⟩⟩
    ·rw [if_neg c6] at H
     have c6b0 : decide (x17_1 < (l0.length : Int)) = false := decide_eq_false c6
     clear c6
     replace H := Option.bind_eq_some_iff.mp H
     obtain ⟨⟨t426, t427, t428, t429, t430, t431, t432, t433⟩, A410, H⟩ := H
     replace H : (some (t426, t427, t428, t429, t430, t431, t432, t433, 1)) = some (r1, r2, r3, r4, r5, r6, r7, r8, r9) := H
     have A41 := Aside0.mk A410
     clear A410
     simp only [Option.some.injEq, Prod.mk.injEq] at H
     obtain ⟨rfl, rfl, rfl, rfl, rfl, rfl, rfl, rfl, rfl⟩ := H
     obtain ⟨Ao42, co42, eo42⟩ := Kd.N_slice HO_4.out
     subst eo42
     go_wp2_with (first | ((with_reducible refine gate_callee (f := 66) rfl ?_); refine goesL_ (some 49) rfl rfl Tryz.func66 (by kernel_rfl) rfl #[.string (⟨#[]⟩ : ByteArray), .slice Ao42 x4_1.length co42] rfl (by (try simp only [List.map_toArray, List.map_cons, List.map_nil]); first | done | rfl | (simp only [List.length_drop, List.length_take]; rfl)) ?_; (with_reducible refine (spec_listNode.calls (⟨#[]⟩ : ByteArray) (fun k_ => ((w.heap.size ≤ k_) ∧ k_ ≠ gb424)) _ _ x4_1 t426 t427 t428 t429 t430 t431 t432 t433 _ ?side1 A41.out).mono ?_); (case side1 => exact Kd.N_V (HO_4.out)); rintro e w43 ⟨v434, rfl, ho0, hb⟩; refine ⟨_, rfl, ?_⟩; have n0_ := Aside0.mk (Kd.N_below (by (with_reducible repeat (first | apply Kd.N_alloc | apply Kd.N_drewN | apply Kd.N_drew)); exact HO_4.out) hb); have n1_ := Aside0.mk (Kd.V_lower (Kd.V_mono (ok' := fun k_ => (w.heap.size ≤ k_) ∧ k_ ≠ gb424) ho0 (fun k_ hk_ => ⟨Or.elim hk_ (fun hs_ => hs_.1) (fun hn_ => (Nat.le_trans (below_size (by repeat (first | (with_reducible first | exact HB.out | apply below_alloc | apply pw_below_drewN | apply below_drew1 | refine below_set ?_ GE424.out) | exact HB.out))) hn_)), Or.elim hk_ (fun hs_ => hs_.2) (fun hn_ => (Kd.freshB (g := gb424) (o := .cells #[.string (⟨#[]⟩ : ByteArray), .int .i64 0, .bool false, .int .i64 0, .int .u64 0, .float .f64 0, .string (⟨#[]⟩ : ByteArray), .slice none 0 0] 39 (0, 0)) (by (with_reducible repeat (first | refine blk_drewN ?_ _ | refine blk_drew ?_ | refine blk_alloc ?_ _)); exact BK424.out) k_ hn_))⟩)) (below_size (by repeat (first | (with_reducible first | exact HB.out | apply below_alloc | apply pw_below_drewN | apply below_drew1 | refine below_set ?_ GE424.out) | exact HB.out)))); have n2_ := Aside0.mk (blk_below (g := gb424) (o := .cells #[.string (⟨#[]⟩ : ByteArray), .int .i64 0, .bool false, .int .i64 0, .int .u64 0, .float .f64 0, .string (⟨#[]⟩ : ByteArray), .slice none 0 0] 39 (0, 0)) (by (with_reducible repeat (first | refine blk_drewN ?_ _ | refine blk_drew ?_ | refine blk_alloc ?_ _)); exact BK424.out) hb); have n3_ := Aside0.mk (below_step (by repeat (first | (with_reducible first | exact HB.out | apply below_alloc | apply pw_below_drewN | apply below_drew1 | refine below_set ?_ GE424.out) | exact HB.out)) hb); clear HO_4; clear BK424; clear HB; have HO_4 := n0_; have HO435 := n1_; have BK424 := n2_; have HB := n3_; clear n0_ n1_ n2_ n3_; (try clear hb); (try clear hb2); (try clear hk); (try clear hi); (try clear ho0); have hcz44_0 : w43.cell? ⟨gb424, 0, none⟩ = some (.string (⟨#[]⟩ : ByteArray)) := (blk_cell BK424.out 0).trans rfl; have hcz44_1 : w43.cell? ⟨gb424, 1, none⟩ = some (.int .i64 0) := (blk_cell BK424.out 1).trans rfl; have hcz44_2 : w43.cell? ⟨gb424, 2, none⟩ = some (.bool false) := (blk_cell BK424.out 2).trans rfl; have hcz44_3 : w43.cell? ⟨gb424, 3, none⟩ = some (.int .i64 0) := (blk_cell BK424.out 3).trans rfl; have hcz44_4 : w43.cell? ⟨gb424, 4, none⟩ = some (.int .u64 0) := (blk_cell BK424.out 4).trans rfl; have hcz44_5 : w43.cell? ⟨gb424, 5, none⟩ = some (.float .f64 0) := (blk_cell BK424.out 5).trans rfl; have hcz44_6 : w43.cell? ⟨gb424, 6, none⟩ = some (.string (⟨#[]⟩ : ByteArray)) := (blk_cell BK424.out 6).trans rfl; have hcz44_7 : w43.cell? ⟨gb424, 7, none⟩ = some (.slice none 0 0) := (blk_cell BK424.out 7).trans rfl; have hfz44_0 := blk_frozen BK424.out 0; have hfz44_1 := blk_frozen BK424.out 1; have hfz44_2 := blk_frozen BK424.out 2; have hfz44_3 := blk_frozen BK424.out 3; have hfz44_4 := blk_frozen BK424.out 4; have hfz44_5 := blk_frozen BK424.out 5; have hfz44_6 := blk_frozen BK424.out 6; have hfz44_7 := blk_frozen BK424.out 7; obtain ⟨Ao45, co45, eo45⟩ := Kd.V_slice HO435.out; subst eo45))
     refine bodyPost_ret (results_ct rfl _ _ gb424 39 #[.string t426, .int .i64 t427, .bool t428, .int .i64 t429, .int .u64 t430, .float .f64 t431, .string t432, .slice Ao45 t433.length co45] (0, 0) _ rfl (by (with_reducible repeat (first | refine blk_drewN ?_ _ | refine blk_drew ?_ | refine blk_alloc ?_ _)); refine blk_put (cs := #[.string t426, .int .i64 t427, .bool t428, .int .i64 t429, .int .u64 t430, .float .f64 t431, .string t432, .slice none 0 0]) ?_ 7 _ rfl; (with_reducible repeat (first | refine blk_drewN ?_ _ | refine blk_drew ?_ | refine blk_alloc ?_ _)); refine blk_put (cs := #[.string t426, .int .i64 t427, .bool t428, .int .i64 t429, .int .u64 t430, .float .f64 t431, .string (⟨#[]⟩ : ByteArray), .slice none 0 0]) ?_ 6 _ rfl; (with_reducible repeat (first | refine blk_drewN ?_ _ | refine blk_drew ?_ | refine blk_alloc ?_ _)); refine blk_put (cs := #[.string t426, .int .i64 t427, .bool t428, .int .i64 t429, .int .u64 t430, .float .f64 0, .string (⟨#[]⟩ : ByteArray), .slice none 0 0]) ?_ 5 _ rfl; (with_reducible repeat (first | refine blk_drewN ?_ _ | refine blk_drew ?_ | refine blk_alloc ?_ _)); refine blk_put (cs := #[.string t426, .int .i64 t427, .bool t428, .int .i64 t429, .int .u64 0, .float .f64 0, .string (⟨#[]⟩ : ByteArray), .slice none 0 0]) ?_ 4 _ rfl; (with_reducible repeat (first | refine blk_drewN ?_ _ | refine blk_drew ?_ | refine blk_alloc ?_ _)); refine blk_put (cs := #[.string t426, .int .i64 t427, .bool t428, .int .i64 0, .int .u64 0, .float .f64 0, .string (⟨#[]⟩ : ByteArray), .slice none 0 0]) ?_ 3 _ rfl; (with_reducible repeat (first | refine blk_drewN ?_ _ | refine blk_drew ?_ | refine blk_alloc ?_ _)); refine blk_put (cs := #[.string t426, .int .i64 t427, .bool false, .int .i64 0, .int .u64 0, .float .f64 0, .string (⟨#[]⟩ : ByteArray), .slice none 0 0]) ?_ 2 _ rfl; (with_reducible repeat (first | refine blk_drewN ?_ _ | refine blk_drew ?_ | refine blk_alloc ?_ _)); refine blk_put (cs := #[.string t426, .int .i64 0, .bool false, .int .i64 0, .int .u64 0, .float .f64 0, .string (⟨#[]⟩ : ByteArray), .slice none 0 0]) ?_ 1 _ rfl; (with_reducible repeat (first | refine blk_drewN ?_ _ | refine blk_drew ?_ | refine blk_alloc ?_ _)); refine blk_put (cs := #[.string (⟨#[]⟩ : ByteArray), .int .i64 0, .bool false, .int .i64 0, .int .u64 0, .float .f64 0, .string (⟨#[]⟩ : ByteArray), .slice none 0 0]) ?_ 0 _ rfl; (with_reducible repeat (first | refine blk_drewN ?_ _ | refine blk_drew ?_ | refine blk_alloc ?_ _)); exact BK424.out) Tryz.underlying39 rfl (by kernel_rfl)) rfl ?_
     exact ⟨_, by first | rfl | (simp [errW_none, errW_some] <;> rfl) | (simp [*, errW_none, errW_some] <;> rfl), by (with_reducible repeat (first | apply Kd.V_alloc | apply Kd.V_drewN | apply Kd.V_drew)); exact Kd.V_mono (Kd.V_far (p := ⟨gb424, 7, none⟩) (Kd.V_far (p := ⟨gb424, 6, none⟩) (Kd.V_far (p := ⟨gb424, 5, none⟩) (Kd.V_far (p := ⟨gb424, 4, none⟩) (Kd.V_far (p := ⟨gb424, 3, none⟩) (Kd.V_far (p := ⟨gb424, 2, none⟩) (Kd.V_far (p := ⟨gb424, 1, none⟩) (Kd.V_far (p := ⟨gb424, 0, none⟩) (Kd.V_mono HO435.out (fun k_ hk => (⟨hk, hk.2⟩ : _ ∧ k_ ≠ gb424))) (fun _ hk => hk.2) (.string t426)) (fun _ hk => hk.2) (.int .i64 t427)) (fun _ hk => hk.2) (.bool t428)) (fun _ hk => hk.2) (.int .i64 t429)) (fun _ hk => hk.2) (.int .u64 t430)) (fun _ hk => hk.2) (.float .f64 t431)) (fun _ hk => hk.2) (.string t432)) (fun _ hk => hk.2) (.slice Ao45 t433.length co45)) (fun _ hk => hk.1.1), by repeat (first | (with_reducible first | exact HB.out | apply below_alloc | apply pw_below_drewN | apply below_drew1 | refine below_set ?_ GE424.out) | exact HB.out)⟩
 ·replace c3 := Bool.eq_false_iff.mpr c3
  subst c3
  have H1 : (some ((⟨#[]⟩ : ByteArray), 0, false, 0, 0, 0, (⟨#[]⟩ : ByteArray), ([] : List (S39)), 2)) = some (r1, r2, r3, r4, r5, r6, r7, r8, r9) := by rw [if_neg (show ¬ (false = true) by decide)] at H; exact H
  clear H
  have H := H1
  clear H1
  simp only [Option.some.injEq, Prod.mk.injEq] at H
  obtain ⟨rfl, rfl, rfl, rfl, rfl, rfl, rfl, rfl, rfl⟩ := H
  go_enter Tryz.func28, Tryz.ntmps28
  go_wp2_with (first | ((with_reducible refine gate_dst (N := 2) rfl ?_); refine box_event ?hg (N := 2) ?hd (cs := #[.string (⟨#[]⟩ : ByteArray), .int .i64 0, .bool false, .int .i64 0, .int .u64 0, .float .f64 0, .string (⟨#[]⟩ : ByteArray), .slice none 0 0]) (t := 39) ?hr ?_; (case hd => rfl); (case hg => rfl); (case hr => first | (go_simp; done) | (go_simp; rfl)); intro gb424 hg w46 hbox hb; have n0_ := Aside0.mk (below_step (by repeat (first | (with_reducible first | exact HB.out | apply below_alloc | apply pw_below_drewN | apply below_drew1) | exact HB.out)) hb); have n1_ := Aside0.mk (hbox); have n2_ := Aside0.mk ((by rw [hg]; exact (below_size (by repeat (first | (with_reducible first | exact HB.out | apply below_alloc | apply pw_below_drewN | apply below_drew1) | exact HB.out))) : w.heap.size ≤ gb424)); have n3_ := Aside0.mk ((by rw [hg]; exact (below_size (by repeat (first | (with_reducible first | exact HB.out | apply below_alloc | apply pw_below_drewN | apply below_drew1) | exact HB.out))) : w.heap.size ≤ gb424)); clear HB; have HB := n0_; have BK424 := n1_; have GW424 := n2_; have GE424 := n3_; clear n0_ n1_ n2_ n3_; clear hb hbox hg) | ((with_reducible refine gate_callee (f := 87) rfl ?_); refine goesL_ (some 12) rfl rfl Tryz.func87 (by kernel_rfl) rfl #[.slice A0 l0.length c0] rfl (by (try simp only [List.map_toArray, List.map_cons, List.map_nil]); first | done | rfl | (simp only [List.length_drop, List.length_take]; rfl)) ?_; (with_reducible refine (spec_conntrackFine.calls k _ _ l0 false _ ?side1 ?side2 A2.out).mono ?_); (case side1 => repeat (first | exact (Kd.C_below HR0.out HB.out) | (with_reducible refine Kd.C_alloc ?_ _) | (with_reducible refine Kd.C_drewN ?_ _) | (with_reducible refine Kd.C_drew ?_))); (case side2 => exact HC0.out); rintro e w47 ⟨rfl, hb⟩; refine ⟨_, rfl, ?_⟩; have n0_ := Aside0.mk (blk_below (g := gb424) (o := .cells #[.string (⟨#[]⟩ : ByteArray), .int .i64 0, .bool false, .int .i64 0, .int .u64 0, .float .f64 0, .string (⟨#[]⟩ : ByteArray), .slice none 0 0] 39 (0, 0)) (by (with_reducible repeat (first | refine blk_drewN ?_ _ | refine blk_drew ?_ | refine blk_alloc ?_ _)); exact BK424.out) hb); have n1_ := Aside0.mk (below_step (by repeat (first | (with_reducible first | exact HB.out | apply below_alloc | apply pw_below_drewN | apply below_drew1 | refine below_set ?_ GE424.out) | exact HB.out)) hb); clear BK424; clear HB; have BK424 := n0_; have HB := n1_; clear n0_ n1_; (try clear hb); (try clear hb2); (try clear hk); (try clear hi); have hcz48_0 : w47.cell? ⟨gb424, 0, none⟩ = some (.string (⟨#[]⟩ : ByteArray)) := (blk_cell BK424.out 0).trans rfl; have hcz48_1 : w47.cell? ⟨gb424, 1, none⟩ = some (.int .i64 0) := (blk_cell BK424.out 1).trans rfl; have hcz48_2 : w47.cell? ⟨gb424, 2, none⟩ = some (.bool false) := (blk_cell BK424.out 2).trans rfl; have hcz48_3 : w47.cell? ⟨gb424, 3, none⟩ = some (.int .i64 0) := (blk_cell BK424.out 3).trans rfl; have hcz48_4 : w47.cell? ⟨gb424, 4, none⟩ = some (.int .u64 0) := (blk_cell BK424.out 4).trans rfl; have hcz48_5 : w47.cell? ⟨gb424, 5, none⟩ = some (.float .f64 0) := (blk_cell BK424.out 5).trans rfl; have hcz48_6 : w47.cell? ⟨gb424, 6, none⟩ = some (.string (⟨#[]⟩ : ByteArray)) := (blk_cell BK424.out 6).trans rfl; have hcz48_7 : w47.cell? ⟨gb424, 7, none⟩ = some (.slice none 0 0) := (blk_cell BK424.out 7).trans rfl; have hfz48_0 := blk_frozen BK424.out 0; have hfz48_1 := blk_frozen BK424.out 1; have hfz48_2 := blk_frozen BK424.out 2; have hfz48_3 := blk_frozen BK424.out 3; have hfz48_4 := blk_frozen BK424.out 4; have hfz48_5 := blk_frozen BK424.out 5; have hfz48_6 := blk_frozen BK424.out 6; have hfz48_7 := blk_frozen BK424.out 7))
  refine bodyPost_ret (results_ct rfl _ _ gb424 39 #[.string (⟨#[]⟩ : ByteArray), .int .i64 0, .bool false, .int .i64 0, .int .u64 0, .float .f64 0, .string (⟨#[]⟩ : ByteArray), .slice none 0 0] (0, 0) _ rfl (by (with_reducible repeat (first | refine blk_drewN ?_ _ | refine blk_drew ?_ | refine blk_alloc ?_ _)); refine blk_put (cs := #[.string (⟨#[]⟩ : ByteArray), .int .i64 0, .bool false, .int .i64 0, .int .u64 0, .float .f64 0, .string (⟨#[]⟩ : ByteArray), .slice none 0 0]) ?_ 7 _ rfl; (with_reducible repeat (first | refine blk_drewN ?_ _ | refine blk_drew ?_ | refine blk_alloc ?_ _)); refine blk_put (cs := #[.string (⟨#[]⟩ : ByteArray), .int .i64 0, .bool false, .int .i64 0, .int .u64 0, .float .f64 0, .string (⟨#[]⟩ : ByteArray), .slice none 0 0]) ?_ 6 _ rfl; (with_reducible repeat (first | refine blk_drewN ?_ _ | refine blk_drew ?_ | refine blk_alloc ?_ _)); refine blk_put (cs := #[.string (⟨#[]⟩ : ByteArray), .int .i64 0, .bool false, .int .i64 0, .int .u64 0, .float .f64 0, .string (⟨#[]⟩ : ByteArray), .slice none 0 0]) ?_ 5 _ rfl; (with_reducible repeat (first | refine blk_drewN ?_ _ | refine blk_drew ?_ | refine blk_alloc ?_ _)); refine blk_put (cs := #[.string (⟨#[]⟩ : ByteArray), .int .i64 0, .bool false, .int .i64 0, .int .u64 0, .float .f64 0, .string (⟨#[]⟩ : ByteArray), .slice none 0 0]) ?_ 4 _ rfl; (with_reducible repeat (first | refine blk_drewN ?_ _ | refine blk_drew ?_ | refine blk_alloc ?_ _)); refine blk_put (cs := #[.string (⟨#[]⟩ : ByteArray), .int .i64 0, .bool false, .int .i64 0, .int .u64 0, .float .f64 0, .string (⟨#[]⟩ : ByteArray), .slice none 0 0]) ?_ 3 _ rfl; (with_reducible repeat (first | refine blk_drewN ?_ _ | refine blk_drew ?_ | refine blk_alloc ?_ _)); refine blk_put (cs := #[.string (⟨#[]⟩ : ByteArray), .int .i64 0, .bool false, .int .i64 0, .int .u64 0, .float .f64 0, .string (⟨#[]⟩ : ByteArray), .slice none 0 0]) ?_ 2 _ rfl; (with_reducible repeat (first | refine blk_drewN ?_ _ | refine blk_drew ?_ | refine blk_alloc ?_ _)); refine blk_put (cs := #[.string (⟨#[]⟩ : ByteArray), .int .i64 0, .bool false, .int .i64 0, .int .u64 0, .float .f64 0, .string (⟨#[]⟩ : ByteArray), .slice none 0 0]) ?_ 1 _ rfl; (with_reducible repeat (first | refine blk_drewN ?_ _ | refine blk_drew ?_ | refine blk_alloc ?_ _)); refine blk_put (cs := #[.string (⟨#[]⟩ : ByteArray), .int .i64 0, .bool false, .int .i64 0, .int .u64 0, .float .f64 0, .string (⟨#[]⟩ : ByteArray), .slice none 0 0]) ?_ 0 _ rfl; (with_reducible repeat (first | refine blk_drewN ?_ _ | refine blk_drew ?_ | refine blk_alloc ?_ _)); exact BK424.out) Tryz.underlying39 rfl (by kernel_rfl)) rfl ?_
  exact ⟨_, by first | rfl | (simp [errW_none, errW_some] <;> rfl) | (simp [*, errW_none, errW_some] <;> rfl), Kd.N_V (base := 0) (by first | exact Kd.R_nil _ _ _ _ _ | exact Kd.N_nil _ _ _ _ _ | exact Kd.V_nil _ _ _ _ _ | exact Kd.Q_nil _ _ _ _ _ | exact Kd.S_nil _ _ _ _ _), by repeat (first | (with_reducible first | exact HB.out | apply below_alloc | apply pw_below_drewN | apply below_drew1 | refine below_set ?_ GE424.out) | exact HB.out)⟩
end Go.Proofs.YtednjmngalmdkaaGreatDoor.GPC
end
section
/- laws.back at Conntrack: it answers true where BackOk holds. Conditions: BackOk; the tables as laid. -/
namespace Go.Proofs.YtednjmngalmdkaaGreatDoor.GPC
open Go.RowKit Go.Proofs.YtednjmngalmdkaaGreatDoorW.PrintWords Go.Proofs.YtednjmngalmdkaaGreatDoorW.PrintLast
set_option linter.unusedVariables false
set_option linter.unusedSimpArgs false
attribute [local go_sem] run_store_float
set_option maxHeartbeats 16000000 in
set_option maxRecDepth 100000 in
theorem backConntrack (A0 : Option Addr) (c0 : Nat) (l0 : List S31) (w : World) (hr0 : Kd.C k31 w A0 l0.length l0) (hc0 : l0.length ≤ c0) (hT : TabW w) (h : BackOk (fun k => spec_ConntrackPrint.f k l0) (fun k => spec_ConntrackTree.f k l0) (fun s n => doorConntrack s n) l0) :
  Calls Tryz.prog 14 #[.slice A0 l0.length c0, .func (.func 27) #[] #[], .func (.func 28) #[] #[], .func (.func 29) #[] #[]] w fun e w' => e = .returned (.bool true) ∧ Below w.heap.size w w' := by
 have HR := Aside0.mk hr0
 have HT := Aside0.mk hT
 have HC := Aside0.mk hc0
 clear hr0 hT hc0
 cases h with
 | long h1 =>
  have d1 : decide ((l0.length : Int) > 1000) = true := decide_eq_true (by omega)
  have d1' : decide (1000 < l0.length) = true := decide_eq_true (by omega)
  go_enter Tryz.func14, Tryz.ntmps14
  go_wp2
  go_ret
  exact ⟨rfl, Below.refl _ _⟩
 | noPrint h1 k text told hp hno =>
  have d1 : decide ((l0.length : Int) > 1000) = false := decide_eq_false (by omega)
  have d1' : decide (1000 < l0.length) = false := decide_eq_false (by omega)
  have HP := Aside0.mk hp
  clear hp h1
  go_enter Tryz.func14, Tryz.ntmps14
  have hd : (told != 1) = true ∨ (told != 1) = false ∧ decide ((text.size : Int) > 40000) = true := by
   rcases hno with hh | hh
   ·exact .inl (by simpa using hh)
   ·by_cases he : told = 1
    ·exact .inr ⟨by simp [he], decide_eq_true (by omega)⟩
    ·exact .inl (by simpa using he)
  rcases hd with q1 | ⟨q1, q2⟩
  all_goals (go_wp2_with (first
   | (go_at_call 27; refine (spec_ConntrackPrint.calls k A0 c0 l0 text told _ HR.out HC.out HP.out).mono ?_; rintro e w1 ⟨rfl, hb⟩; have HB1 := Aside0.mk hb; clear hb)
   | (go_at_call 46; refine (lives_calls _ (tabW_below HT.out HB1.out)).mono ?_; rintro e w2 ⟨rfl, hb⟩; have HB2 := Aside0.mk (below_then HB1.out HB1.out.size hb); clear hb)))
  all_goals go_ret
  all_goals exact ⟨rfl, HB2.out⟩
 | noTree h1 k text hp hsz r tt ht hno =>
  have d1 : decide ((l0.length : Int) > 1000) = false := decide_eq_false (by omega)
  have d1' : decide (1000 < l0.length) = false := decide_eq_false (by omega)
  have q2 : decide ((text.size : Int) > 40000) = false := decide_eq_false (by omega)
  have q2' : decide (40000 < text.size) = false := decide_eq_false (by omega)
  have q3 : (tt != 1) = true := by simpa using hno
  have HP := Aside0.mk hp
  have HTR := Aside0.mk ht
  clear hp ht h1 hno hsz
  obtain ⟨r1, r2, r3, r4, r5, r6, r7, r8⟩ := r
  go_enter Tryz.func14, Tryz.ntmps14
  go_wp2_with (first
   | (go_at_call 27; refine (spec_ConntrackPrint.calls k A0 c0 l0 text 1 _ HR.out HC.out HP.out).mono ?_; rintro e w1 ⟨rfl, hb⟩; have HB1 := Aside0.mk hb; clear hb)
   | (go_at_call 28; refine (spec_ConntrackTree.calls k A0 c0 l0 r1 r2 r3 r4 r5 r6 r7 r8 tt _ (Kd.C_below HR.out HB1.out) HC.out HTR.out).mono ?_; rintro e w2 ⟨v7, rfl, hv, hb⟩; have HB2 := Aside0.mk (below_then HB1.out HB1.out.size hb); clear hb)
   | ((with_reducible refine gate_dst (N := 11) rfl ?_); refine box_event ?hg (N := 11) ?hd (cs := nodeZero) (t := 39) ?hr ?_; (case hd => rfl); (case hg => rfl); (case hr => first | (go_simp; done) | (go_simp; rfl)); intro gb hgb w3 hbox hb; have HBX := Aside0.mk hbox; have HB3 := Aside0.mk (below_then HB2.out HB2.out.size hb); have HGB := Aside0.mk (show w.heap.size ≤ gb by rw [hgb]; exact HB2.out.size); clear hgb hbox hb)
   | ((with_reducible refine gate_ (.store 39 (.tmp 11) (.tmp 35)) rfl ?_); refine box_store rfl rfl 39 (.tmp 11) (.tmp 35) rfl gb 39 nodeZero (snodeVal ⟨r1, r2, r3, r4, r5, r6, r7, r8⟩ v7) (snodeCells ⟨r1, r2, r3, r4, r5, r6, r7, r8⟩ v7) rfl rfl rfl snode_size (snode_one (Kd.V_sl hv)) HBX.out rfl ?_; intro w4 hbk hgr; have HB4 := Aside0.mk (pw_below_grown HB3.out (some gb) HB3.out.size hgr (fun k e => by cases e; exact HGB.out)); clear hbk hgr)
   | (go_at_call 46; refine (lives_calls _ (tabW_below HT.out HB4.out)).mono ?_; rintro e w5 ⟨rfl, hb⟩; have HB5 := Aside0.mk (below_then HB4.out HB4.out.size hb); clear hb))
  go_ret
  exact ⟨rfl, HB5.out⟩
 | same h1 k text hp hsz r ht n hd k2 m hm hs =>
  have d1 : decide ((l0.length : Int) > 1000) = false := decide_eq_false (by omega)
  have d1' : decide (1000 < l0.length) = false := decide_eq_false (by omega)
  have q2 : decide ((text.size : Int) > 40000) = false := decide_eq_false (by omega)
  have q2' : decide (40000 < text.size) = false := decide_eq_false (by omega)
  have HP := Aside0.mk hp
  have HTR := Aside0.mk ht
  have HD := Aside0.mk hd
  have HM := Aside0.mk hm
  have HS := Aside0.mk hs
  clear hp ht h1 hsz hd hm hs
  obtain ⟨r1, r2, r3, r4, r5, r6, r7, r8⟩ := r
  obtain ⟨m1, m2, m3, m4, m5, m6, m7, m8⟩ := m
  go_enter Tryz.func14, Tryz.ntmps14
  go_wp2_with (first
   | (go_at_call 27; refine (spec_ConntrackPrint.calls k A0 c0 l0 text 1 _ HR.out HC.out HP.out).mono ?_; rintro e w1 ⟨rfl, hb⟩; have HB1 := Aside0.mk hb; clear hb)
   | (go_at_call 28; refine (spec_ConntrackTree.calls k A0 c0 l0 r1 r2 r3 r4 r5 r6 r7 r8 1 _ (Kd.C_below HR.out HB1.out) HC.out HTR.out).mono ?_; rintro e w2 ⟨v7, rfl, hv, hb⟩; obtain ⟨At, ct, rfl, hlt, hFt⟩ := hv; have HCT := Aside0.mk (Kd.F_now hFt); have HLT := Aside0.mk hlt; have HB2 := Aside0.mk (below_then HB1.out HB1.out.size hb); clear hb hlt hFt)
   | ((with_reducible refine gate_dst (N := 11) rfl ?_); refine box_event ?hg (N := 11) ?hd (cs := nodeZero) (t := 39) ?hr ?_; (case hd => rfl); (case hg => rfl); (case hr => first | (go_simp; done) | (go_simp; rfl)); intro gb hgb w3 hbox hb; have HBX := Aside0.mk hbox; have HB3 := Aside0.mk hb; have HGB := Aside0.mk (show w2.heap.size ≤ gb by rw [hgb]; exact Nat.le_refl _); clear hgb hbox hb)
   | ((with_reducible refine gate_ (.store 39 (.tmp 11) (.tmp 35)) rfl ?_); refine box_store rfl rfl 39 (.tmp 11) (.tmp 35) rfl gb 39 nodeZero (snodeVal ⟨r1, r2, r3, r4, r5, r6, r7, r8⟩ (.slice At r8.length ct)) (snodeCells ⟨r1, r2, r3, r4, r5, r6, r7, r8⟩ (.slice At r8.length ct)) rfl rfl rfl snode_size (snode_one ⟨_, _, rfl⟩) HBX.out rfl ?_; intro w4 hbk hgr; have HW := Aside0.mk hbk; have HB4 := Aside0.mk (pw_below_grown HB3.out (some gb) HB3.out.size hgr (fun k e => by cases e; exact HGB.out)); clear hbk hgr)
   | (go_at_call 29; refine (doorConntrack_calls text n _ (tabW_below HT.out (below_then HB2.out HB2.out.size HB4.out)) HD.out).mono ?_; rintro e w5 ⟨v9, rfl, ho, hb⟩; obtain ⟨Ag, cg, rfl⟩ := ho.slice; obtain ⟨_, hlg, hCg⟩ := Kd.R_reads' ho; have HCG := Aside0.mk hCg; have HLG := Aside0.mk hlg; have HW5 := Aside0.mk (blk_below HW.out hb); have HB5 := Aside0.mk (below_then HB4.out HB4.out.size hb); clear ho hb hlg hCg)
   | ((with_reducible refine gate_dst (N := 12) rfl ?_); refine box_event ?hg (N := 12) ?hd (cs := nodeZero) (t := 43) ?hr ?_; (case hd => rfl); (case hg => rfl); (case hr => first | (go_simp; done) | (go_simp; rfl)); intro gc hgc w6 hbox hb; have HCX := Aside0.mk hbox; have HW6 := Aside0.mk (blk_below HW5.out hb); have HB6 := Aside0.mk hb; have HGC := Aside0.mk (show w5.heap.size ≤ gc by rw [hgc]; exact Nat.le_refl _); have HNE := Aside0.mk (show gb < gc by rw [hgc]; exact blk_lt HW5.out); clear hgc hbox hb)
   | ((with_reducible refine gate_ (.store 43 (.tmp 12) (.tmp 44)) rfl ?_); refine box_store rfl rfl 43 (.tmp 12) (.tmp 44) rfl gc 43 nodeZero (nodeVal n (.slice Ag n.f7.length cg)) (nodeCells n (.slice Ag n.f7.length cg)) rfl rfl rfl node_size (node_one ⟨_, _, rfl⟩) HCX.out rfl ?_; intro w7 hbk hgr; have HG7 := Aside0.mk hbk; have HW7 := Aside0.mk (blk_grown HW6.out hgr (by have := HNE.out; intro e; injection e with e; omega)); have HB7 := Aside0.mk (pw_below_grown HB6.out (some gc) HB6.out.size hgr (fun k e => by cases e; exact HGC.out)); clear hbk hgr))
  have HB27 := Aside0.mk (below_then HB5.out HB5.out.size HB7.out)
  have HB07 := Aside0.mk (below_then HB2.out HB2.out.size HB27.out)
  have KA : Aside0 (∀ W : World, Below w7.heap.size w7 W → (Below w7.heap.size w7 W ∧ W.cell? ⟨gc, 0, none⟩ = some (.string n.f0) ∧ W.cell? ⟨gc, 1, none⟩ = some (.int .i64 n.f1) ∧ W.cell? ⟨gc, 2, none⟩ = some (.bool n.f2) ∧ W.cell? ⟨gc, 3, none⟩ = some (.int .i64 n.f3) ∧ W.cell? ⟨gc, 4, none⟩ = some (.int .u64 n.f4) ∧ W.cell? ⟨gc, 5, none⟩ = some (.float .f64 n.f5) ∧ W.cell? ⟨gc, 6, none⟩ = some (.string n.f6) ∧ W.cell? ⟨gc, 7, none⟩ = some (.slice Ag n.f7.length cg) ∧ W.cell? ⟨gb, 0, none⟩ = some (.string r1) ∧ W.cell? ⟨gb, 1, none⟩ = some (.int .i64 r2) ∧ W.cell? ⟨gb, 2, none⟩ = some (.bool r3) ∧ W.cell? ⟨gb, 3, none⟩ = some (.int .i64 r4) ∧ W.cell? ⟨gb, 4, none⟩ = some (.int .u64 r5) ∧ W.cell? ⟨gb, 5, none⟩ = some (.float .f64 r6) ∧ W.cell? ⟨gb, 6, none⟩ = some (.string r7) ∧ W.cell? ⟨gb, 7, none⟩ = some (.slice At r8.length ct))) := ⟨fun W hb => by
   have h1 := blk_below HG7.out hb
   have h2 := blk_below HW7.out hb
   exact ⟨hb, (blk_cell h1 0).trans rfl, (blk_cell h1 1).trans rfl, (blk_cell h1 2).trans rfl, (blk_cell h1 3).trans rfl, (blk_cell h1 4).trans rfl, (blk_cell h1 5).trans rfl, (blk_cell h1 6).trans rfl, (blk_cell h1 7).trans rfl, (blk_cell h2 0).trans rfl, (blk_cell h2 1).trans rfl, (blk_cell h2 2).trans rfl, (blk_cell h2 3).trans rfl, (blk_cell h2 4).trans rfl, (blk_cell h2 5).trans rfl, (blk_cell h2 6).trans rfl, (blk_cell h2 7).trans rfl⟩⟩
  go_region_held3 (fun W => Below w7.heap.size w7 W ∧ W.cell? ⟨gc, 0, none⟩ = some (.string n.f0) ∧ W.cell? ⟨gc, 1, none⟩ = some (.int .i64 n.f1) ∧ W.cell? ⟨gc, 2, none⟩ = some (.bool n.f2) ∧ W.cell? ⟨gc, 3, none⟩ = some (.int .i64 n.f3) ∧ W.cell? ⟨gc, 4, none⟩ = some (.int .u64 n.f4) ∧ W.cell? ⟨gc, 5, none⟩ = some (.float .f64 n.f5) ∧ W.cell? ⟨gc, 6, none⟩ = some (.string n.f6) ∧ W.cell? ⟨gc, 7, none⟩ = some (.slice Ag n.f7.length cg) ∧ W.cell? ⟨gb, 0, none⟩ = some (.string r1) ∧ W.cell? ⟨gb, 1, none⟩ = some (.int .i64 r2) ∧ W.cell? ⟨gb, 2, none⟩ = some (.bool r3) ∧ W.cell? ⟨gb, 3, none⟩ = some (.int .i64 r4) ∧ W.cell? ⟨gb, 4, none⟩ = some (.int .u64 r5) ∧ W.cell? ⟨gb, 5, none⟩ = some (.float .f64 r6) ∧ W.cell? ⟨gb, 6, none⟩ = some (.string r7) ∧ W.cell? ⟨gb, 7, none⟩ = some (.slice At r8.length ct))
   (first
    | exact KA.out _ (below_drew (Below.refl _ _))
    | (go_split_ands; exact KA.out _ (keepS (by assumption) hb'))
    | (go_split_ands; exact KA.out _ (below_drew (by assumption))))
   (first
    | (go_at_call 48; (with_reducible refine (laws_toNode.calls k2 n.f0 n.f1 n.f2 n.f3 n.f4 n.f5 n.f6 Ag cg n.f7 m1 m2 m3 m4 m5 m6 m7 m8 _ (by go_split_ands; exact Kd.C_below HCG.out (keepS HB7.out (by assumption))) HLG.out HM.out).mono ?_); rintro e w' ⟨v9, rfl, hom, hb'⟩; obtain ⟨Am, cm, rfl⟩ := Kd.R_slice hom)
    | (go_at_call 47; (with_reducible refine (spec_SameNode.calls k2 m1 m2 m3 m4 m5 m6 m7 Am cm m8 r1 r2 r3 r4 r5 r6 r7 At ct r8 true _ (by first | exact (Kd.R_reads' hom).2.2 | exact Kd.C_below (Kd.R_reads' hom).2.2 (below_drew (Below.refl _ _))) (Kd.R_reads' hom).2.1 (by go_split_ands; exact Kd.C_below HCT.out (keepS HB27.out (by assumption))) HLT.out HS.out).mono ?_); rintro e w' ⟨rfl, hb'⟩)
    | (go_at_call 46; (with_reducible refine (lives_calls _ (by go_split_ands; exact tabW_below HT.out (keepS HB07.out (by assumption)))).mono ?_); rintro e w' ⟨rfl, hb'⟩))
  go_split_ands
  go_wp2
  go_ret
  exact ⟨rfl, keepS HB07.out (by assumption)⟩
end Go.Proofs.YtednjmngalmdkaaGreatDoor.GPC
end
section
/- laws.FnConntrackBack answers true where BackOk holds. Conditions: BackOk; the tables as laid. -/
namespace Go.Proofs.YtednjmngalmdkaaGreatDoor.GPC
open Go.RowKit Go.Proofs.YtednjmngalmdkaaGreatDoorW.PrintWords Go.Proofs.YtednjmngalmdkaaGreatDoorW.PrintLast
set_option linter.unusedVariables false
set_option maxHeartbeats 8000000 in
set_option maxRecDepth 100000 in
theorem lawConntrack (A0 : Option Addr) (c0 : Nat) (l0 : List S31) (w : World) (hr0 : Kd.C k31 w A0 l0.length l0) (hc0 : l0.length ≤ c0) (hT : TabW w) (k : Nat) (b : Bool) (hz : laws_zzFits5.f k l0 = some b)
  (h : b = true → BackOk (fun k => spec_ConntrackPrint.f k l0) (fun k => spec_ConntrackTree.f k l0) (fun s n => doorConntrack s n) l0) :
  Calls Tryz.prog 7 #[.slice A0 l0.length c0] w fun e w' => e = .returned (.bool true) ∧ Below w.heap.size w w' := by
 have HR := Aside0.mk hr0
 have HT := Aside0.mk hT
 have HC := Aside0.mk hc0
 have HZ := Aside0.mk hz
 have H := Aside0.mk h
 clear hr0 hT hc0 hz h
 cases b
 ·go_enter Tryz.func7, Tryz.ntmps7
  go_wp2_with (first
   | (go_at_call 13; refine (laws_zzFits5.calls k A0 c0 l0 false _ HR.out HC.out HZ.out).mono ?_; rintro e w1 ⟨rfl, hb⟩; have HB1 := Aside0.mk hb; clear hb))
  go_ret
  exact ⟨rfl, HB1.out⟩
 ·have H2 := Aside0.mk (H.out rfl)
  clear H
  go_enter Tryz.func7, Tryz.ntmps7
  go_wp2_with (first
   | (go_at_call 13; refine (laws_zzFits5.calls k A0 c0 l0 true _ HR.out HC.out HZ.out).mono ?_; rintro e w1 ⟨rfl, hb⟩; have HB1 := Aside0.mk hb; clear hb)
   | (go_at_call 14; refine (backConntrack A0 c0 l0 _ (Kd.C_below HR.out HB1.out) HC.out (tabW_below HT.out HB1.out) H2.out).mono ?_; rintro e w2 ⟨rfl, hb⟩; have HB2 := Aside0.mk (keepS HB1.out hb); clear hb))
  go_ret
  exact ⟨rfl, HB2.out⟩
end Go.Proofs.YtednjmngalmdkaaGreatDoor.GPC
end
section
/- Plain facts: a tree of the door, handed over, is the same tree; a tree is the same as itself. Conditions: a depth, lists of at most a million parts. -/
namespace Go.Proofs.YtednjmngalmdkaaGreatDoor.GPC
open Go Go.RowKit Go.Proofs.YtednjmngalmdkaaGreatDoorW.PrintWords Go.Proofs.YtednjmngalmdkaaGreatDoorW.PrintLast
set_option linter.unusedVariables false
def tup39 (n : S39) : N8 S39 := (n.f0, n.f1, n.f2, n.f3, n.f4, n.f5, n.f6, n.f7)
def convN : Nat → S43 → S39
 | 0, n => ⟨n.f0, n.f1, n.f2, n.f3, n.f4, n.f5, n.f6, []⟩
 | d + 1, n => ⟨n.f0, n.f1, n.f2, n.f3, n.f4, n.f5, n.f6, n.f7.map (convN d)⟩
def FitN : Nat → S43 → Prop
 | 0, n => n.f7 = []
 | d + 1, n => n.f7.length ≤ 1000000 ∧ ∀ x ∈ n.f7, FitN d x
def FitS : Nat → S39 → Prop
 | 0, n => n.f7 = []
 | d + 1, n => n.f7.length ≤ 1000000 ∧ ∀ x ∈ n.f7, FitS d x
theorem fit_conv : ∀ (d : Nat) (n : S43), FitN d n → FitS d (convN d n)
 | 0, n, h => rfl
 | d + 1, n, h => ⟨by simpa [convN] using h.1, fun x hx => by
   simp only [convN, List.mem_map] at hx
   obtain ⟨y, hy, rfl⟩ := hx
   exact fit_conv d y (h.2 y hy)⟩
theorem rd43 (l : List S43) (i : Nat) (h : i < l.length) : rd_T43 l (i : Int) = l[i] := by
 simp [rd_T43, List.getD_eq_getElem?_getD, List.getElem?_eq_getElem h]
theorem rd39 (l : List S39) (i : Nat) (h : i < l.length) : rd_T39 l (i : Int) = l[i] := by
 simp [rd_T39, List.getD_eq_getElem?_getD, List.getElem?_eq_getElem h]
theorem eta39 (x : S39) : (⟨(tup39 x).1, (tup39 x).2.1, (tup39 x).2.2.1, (tup39 x).2.2.2.1, (tup39 x).2.2.2.2.1, (tup39 x).2.2.2.2.2.1, (tup39 x).2.2.2.2.2.2.1, (tup39 x).2.2.2.2.2.2.2⟩ : S39) = x := by cases x; rfl
theorem toNode_loop (l : List S43) (hl : l.length ≤ 1000000) (g : S43 → S39) (hg : ∀ x ∈ l, Ev (fun k => laws_toNode.f k x.f0 x.f1 x.f2 x.f3 x.f4 x.f5 x.f6 x.f7) (tup39 (g x))) (a0 : ByteArray) (a1 : Int) (a2 : Bool) (a3 a4 : Int) (a5 : Nat) (a6 : ByteArray) :
  ∀ (d i : Nat) (acc : List S39), i + d = l.length → acc.length ≤ i → Ev (fun k => laws_toNode.l0 k l (l.length : Int) (i : Int) a0 a1 a2 a3 a4 a5 a6 acc) (a0, a1, a2, a3, a4, a5, a6, acc ++ (l.drop i).map g)
 | 0, i, acc, h, ha => by
  rw [List.drop_eq_nil_of_le (by omega), List.map_nil, List.append_nil]
  exact Ev.step (f := fun _ => some (a0, a1, a2, a3, a4, a5, a6, acc)) (fun k => by simp only [laws_toNode.l0]; rw [if_neg (by omega)]) (Ev.now _)
 | d + 1, i, acc, h, ha => by
  have hi : i < l.length := by omega
  have hw : wrap64 ((i : Int) + 1) = ((i + 1 : Nat) : Int) := by unfold wrap64; omega
  have hx := hg l[i] (List.getElem_mem hi)
  have ih := toNode_loop l hl g hg a0 a1 a2 a3 a4 a5 a6 d (i + 1) (acc ++ [g l[i]]) (by omega) (by simp; omega)
  rw [List.append_assoc, List.singleton_append, ← List.map_cons, ← List.drop_eq_getElem_cons hi] at ih
  refine Ev.step (fun k => by simp only [laws_toNode.l0]; rw [if_pos (by omega), if_pos (by omega), if_pos (by omega), rd43 l i hi, hw]) (Ev.bind (f := fun k (bt : N8 S39) => if acc.length < 1466015503701 then (laws_toNode.l0 k l (l.length : Int) ((i + 1 : Nat) : Int) a0 a1 a2 a3 a4 a5 a6 (acc ++ [(⟨bt.1, bt.2.1, bt.2.2.1, bt.2.2.2.1, bt.2.2.2.2.1, bt.2.2.2.2.2.1, bt.2.2.2.2.2.2.1, bt.2.2.2.2.2.2.2⟩ : S39)])) else none) hx ?_)
  exact Ev.congr (fun k => by rw [if_pos (by omega), eta39]) ih
theorem toNode_ev : ∀ (d : Nat) (n : S43), FitN d n → Ev (fun k => laws_toNode.f k n.f0 n.f1 n.f2 n.f3 n.f4 n.f5 n.f6 n.f7) (tup39 (convN d n))
 | 0, n, h => by
  have := toNode_loop n.f7 (by rw [show n.f7 = [] from h]; simp) (fun x => convN 0 x) (by rw [show n.f7 = [] from h]; simp) n.f0 n.f1 n.f2 n.f3 n.f4 n.f5 n.f6 n.f7.length 0 [] (by omega) (by simp)
  rw [List.drop_zero, List.nil_append] at this
  refine Ev.step (f := fun k => laws_toNode.l0 k n.f7 (n.f7.length : Int) 0 n.f0 n.f1 n.f2 n.f3 n.f4 n.f5 n.f6 []) (fun k => by simp only [laws_toNode.f]) ?_
  have e : tup39 (convN 0 n) = (n.f0, n.f1, n.f2, n.f3, n.f4, n.f5, n.f6, n.f7.map fun x => convN 0 x) := by
   rw [show n.f7 = [] from h]; rfl
  rw [e]
  exact this
 | d + 1, n, h => by
  have := toNode_loop n.f7 h.1 (convN d) (fun x hx => toNode_ev d x (h.2 x hx)) n.f0 n.f1 n.f2 n.f3 n.f4 n.f5 n.f6 n.f7.length 0 [] (by omega) (by simp)
  rw [List.drop_zero, List.nil_append] at this
  exact Ev.step (f := fun k => laws_toNode.l0 k n.f7 (n.f7.length : Int) 0 n.f0 n.f1 n.f2 n.f3 n.f4 n.f5 n.f6 []) (fun k => by simp only [laws_toNode.f]) this
theorem same_loop (n : S39) (hl : n.f7.length ≤ 1000000) (hg : ∀ x ∈ n.f7, Ev (fun k => spec_SameNode.f k x.f0 x.f1 x.f2 x.f3 x.f4 x.f5 x.f6 x.f7 x.f0 x.f1 x.f2 x.f3 x.f4 x.f5 x.f6 x.f7) true) :
  ∀ (d i : Nat), i + d = n.f7.length → Ev (fun k => spec_SameNode.l0 k (n.f7.length : Int) (i : Int) n.f0 n.f1 n.f2 n.f3 n.f4 n.f5 n.f6 n.f7 n.f0 n.f1 n.f2 n.f3 n.f4 n.f5 n.f6 n.f7) true
 | 0, i, h => Ev.step (f := fun _ => some true) (fun k => by simp only [spec_SameNode.l0]; rw [if_neg (by omega)]) (Ev.now _)
 | d + 1, i, h => by
  have hi : i < n.f7.length := by omega
  have hw : wrap64 ((i : Int) + 1) = ((i + 1 : Nat) : Int) := by unfold wrap64; omega
  have hx := hg n.f7[i] (List.getElem_mem hi)
  have ih := same_loop n hl hg d (i + 1) (by omega)
  refine Ev.step (fun k => by simp only [spec_SameNode.l0]; rw [if_pos (by omega), if_pos (by omega), if_pos (by omega), if_pos (by omega), rd39 n.f7 i hi, hw]) (Ev.bind (f := fun k t => if t = true then (spec_SameNode.l0 k (n.f7.length : Int) ((i + 1 : Nat) : Int) n.f0 n.f1 n.f2 n.f3 n.f4 n.f5 n.f6 n.f7 n.f0 n.f1 n.f2 n.f3 n.f4 n.f5 n.f6 n.f7) else none) hx ?_)
  exact Ev.congr (fun k => if_pos rfl) ih
theorem same_ev : ∀ (d : Nat) (n : S39), FitS d n → Ev (fun k => spec_SameNode.f k n.f0 n.f1 n.f2 n.f3 n.f4 n.f5 n.f6 n.f7 n.f0 n.f1 n.f2 n.f3 n.f4 n.f5 n.f6 n.f7) true := by
 have top : ∀ (n : S39), Ev (fun k => spec_SameNode.l0 k (n.f7.length : Int) 0 n.f0 n.f1 n.f2 n.f3 n.f4 n.f5 n.f6 n.f7 n.f0 n.f1 n.f2 n.f3 n.f4 n.f5 n.f6 n.f7) true → Ev (fun k => spec_SameNode.f k n.f0 n.f1 n.f2 n.f3 n.f4 n.f5 n.f6 n.f7 n.f0 n.f1 n.f2 n.f3 n.f4 n.f5 n.f6 n.f7) true := by
  intro n h
  refine Ev.step (f := fun k => spec_SameNode.j0 k ((n.f7.length : Int) != (n.f7.length : Int)) n.f0 n.f1 n.f2 n.f3 n.f4 n.f5 n.f6 n.f7 n.f0 n.f1 n.f2 n.f3 n.f4 n.f5 n.f6 n.f7) (fun k => ?_) (Ev.step (fun k => ?_) h)
  ·simp [spec_SameNode.f, math_Float64bits.f]
  ·simp only [spec_SameNode.j0]
   rw [if_neg (by simp)]
 intro d
 induction d with
 | zero =>
  intro n h
  have h7 : n.f7 = [] := h
  exact top n (same_loop n (by rw [h7]; simp) (by rw [h7]; simp) n.f7.length 0 (by omega))
 | succ d ih =>
  intro n h
  exact top n (same_loop n h.1 (fun x hx => ih x (h.2 x hx)) n.f7.length 0 (by omega))
theorem back_same {print : Nat → Option (ByteArray × Int)} {tree : Nat → Option (ByteArray × Int × Bool × Int × Int × Nat × ByteArray × List S39 × Int)} {door : ByteArray → S43 → Prop} {l : List S31} (h : l.length ≤ 1000) (text : ByteArray)
  (hp : Ev print (text, 1)) (hsz : text.size ≤ 40000) (d : Nat) (n : S43) (hf : FitN d n)
  (ht : Ev tree ((convN d n).f0, (convN d n).f1, (convN d n).f2, (convN d n).f3, (convN d n).f4, (convN d n).f5, (convN d n).f6, (convN d n).f7, 1)) (hd : door text n) : BackOk print tree door l := by
 obtain ⟨K1, h1⟩ := hp
 obtain ⟨K2, h2⟩ := ht
 obtain ⟨K3, h3⟩ := toNode_ev d n hf
 obtain ⟨K4, h4⟩ := same_ev d (convN d n) (fit_conv d n hf)
 exact BackOk.same h (K1 + K2) text (h1 _ (by omega)) hsz (tup39 (convN d n)) (h2 _ (by omega)) n hd (K3 + K4) (tup39 (convN d n)) (h3 _ (by omega)) (h4 _ (by omega))
end Go.Proofs.YtednjmngalmdkaaGreatDoor.GPC
end
section
/- Plain facts: the digits of a number in a base tell this number, with noughts ahead and in great letters, too. Condition: the number is at most the bound. -/
namespace Go.Proofs.YtednjmngalmdkaaGreatDoor.PF
open Go Go.Proofs.YtednjmngalmdkaaGreatDoor.GPC
set_option linter.unusedVariables false
theorem puN_append (b mx : Nat) : ∀ (x y : List UInt8) (acc : Nat), puN b mx acc (x ++ y) = (puN b mx acc x).bind fun a => puN b mx a y
 | [], y, acc => rfl
 | c :: x, y, acc => by
  simp only [List.cons_append, puN]
  split
  ·exact puN_append b mx x y _
  ·rfl
theorem dch_val : ((List.range 16).all fun d => decide (digV (dch d).toNat = d)) = true := by decide +kernel
theorem digV_dch (d : Nat) (h : d < 16) : digV (dch d).toNat = d := by
 have := List.all_eq_true.1 dch_val d (List.mem_range.2 h)
 simpa using this
theorem puN_dig (b n mx : Nat) (hb : 2 ≤ b) (hb2 : b ≤ 16) (hn : n ≤ mx) : puN b mx 0 (digB b n) = some n := by
 induction n using Nat.strongRecOn with
 | _ n ih =>
  unfold digB
  by_cases h : n < b ∨ b < 2
  ·rw [dif_pos h]
   have hlt : n < b := by omega
   simp only [puN, digV_dch n (by omega)]
   rw [if_pos ⟨hlt, by omega⟩]
   simp
  ·rw [dif_neg h, puN_append, ih (n / b) (Nat.div_lt_self (by omega) (by omega)) (Nat.le_trans (Nat.div_le_self _ _) hn)]
   have hm : n % b < b := Nat.mod_lt _ (by omega)
   have he : n / b * b + n % b = n := by rw [Nat.mul_comm]; exact Nat.div_add_mod n b
   simp only [Option.bind_some, puN, digV_dch (n % b) (by omega), he]
   rw [if_pos ⟨hm, hn⟩]
theorem puN_noughts (b mx : Nat) (hb : 1 ≤ b) : ∀ (k : Nat) (l : List UInt8), puN b mx 0 (List.replicate k 48 ++ l) = puN b mx 0 l
 | 0, l => rfl
 | k + 1, l => by
  have ih := puN_noughts b mx hb k l
  have h48 : digV (48 : UInt8).toNat = 0 := by decide
  rw [List.replicate_succ, List.cons_append]
  simp only [puN, h48]
  rw [if_pos ⟨by omega, by omega⟩]
  simpa using ih
end Go.Proofs.YtednjmngalmdkaaGreatDoor.PF
end
section
/- Plain facts on the printed functions that all the rows share: sizes, bounds, digits. Conditions: lists of at most 2^47 cells. -/
namespace Go.Proofs.YtednjmngalmdkaaGreatDoor.GPC
open Go Go.RowKit Go.Proofs.YtednjmngalmdkaaGreatDoorW.PrintWords Go.Proofs.YtednjmngalmdkaaGreatDoorW.PrintLast Go.Proofs.YtednjmngalmdkaaGreatDoor.PF
set_option linter.unusedVariables false
def strB (l : List UInt8) : ByteArray := ⟨l.toArray⟩
theorem hex_at : ∀ d : Fin 16, strOfNums [bt (⟨#[48, 49, 50, 51, 52, 53, 54, 55, 56, 57, 97, 98, 99, 100, 101, 102]⟩ : ByteArray) (d.val : Int)] = strB [dch d.val] := by decide
theorem hex_n (d : Nat) (h : d < 16) : strOfNums [bt (⟨#[48, 49, 50, 51, 52, 53, 54, 55, 56, 57, 97, 98, 99, 100, 101, 102]⟩ : ByteArray) (d : Int)] = strB [dch d] := hex_at ⟨d, h⟩
theorem u64_w {n : Int} (h0 : 0 ≤ n) (h1 : n < 18446744073709551616) : IntKind.u64.wrap n = n := by
 simp only [IntKind.wrap, IntKind.bits, IntKind.signed, Bool.false_and]
 exact Int.emod_eq_of_lt h0 h1
theorem strB_append (x y : List UInt8) : strB x ++ strB y = strB (x ++ y) := by
 apply ByteArray.ext
 simp [strB]
theorem strB_size (x : List UInt8) : (strB x).size = x.length := by simp [strB, ByteArray.size]
theorem digits_ev (b : Nat) (hb : 2 ≤ b) (hb2 : b ≤ 16) (n : Nat) (hn : n < 18446744073709551616) : Ev (fun k => spec_Digits.f k (n : Int) (b : Int)) (strB (digB b n)) ∧ (digB b n).length ≤ n + 1 := by
 induction n using Nat.strongRecOn with
 | _ n ih =>
  have hmod : n % b < 16 := Nat.lt_of_lt_of_le (Nat.mod_lt _ (by omega)) hb2
  have e1 : Int.tmod (n : Int) (b : Int) = ((n % b : Nat) : Int) := by rw [Int.tmod_eq_emod_of_nonneg (by omega)]; simp
  have e2 : Int.tdiv (n : Int) (b : Int) = ((n / b : Nat) : Int) := by rw [Int.tdiv_eq_ediv_of_nonneg (by omega)]; simp
  have hx := hex_n (n % b) hmod
  unfold digB
  by_cases h : n < b
  ·rw [dif_pos (.inl h)]
   rw [Nat.mod_eq_of_lt h] at hx e1
   refine ⟨Ev.step (f := fun _ => some (strB [dch n])) (fun k => ?_) (Ev.now _), by simp⟩
   simp only [spec_Digits.f]
   rw [if_neg (by omega), e1, if_pos (by omega), if_pos (by omega), if_pos (by omega), hx]
  ·rw [dif_neg (by omega)]
   have hlt : n / b < n := Nat.div_lt_self (by omega) (by omega)
   obtain ⟨ih1, ih2⟩ := ih (n / b) hlt (by omega)
   have hw : IntKind.u64.wrap (Int.tdiv (n : Int) (b : Int)) = ((n / b : Nat) : Int) := by
    rw [e2]
    generalize n / b = q at hlt ⊢
    exact u64_w (by omega) (by omega)
   have h64 : (digB b (n / b)).length ≤ 64 := by
    have := digB_length b (n / b) 63 hb (Nat.lt_of_lt_of_le (show n / b < 2 ^ 64 by omega) (Nat.pow_le_pow_left hb 64))
    exact this
   refine ⟨Ev.step (f := fun k => (spec_Digits.f k ((n / b : Nat) : Int) (b : Int)).bind fun t => if t.size + (strB [dch (n % b)]).size ≤ 9223372036854775807 then some (t ++ strB [dch (n % b)]) else none) (fun k => ?_) (Ev.bind (f := fun _ t => if t.size + (strB [dch (n % b)]).size ≤ 9223372036854775807 then some (t ++ strB [dch (n % b)]) else none) ih1 ?_), ?_⟩
   ·simp only [spec_Digits.f, Option.bind_some]
    rw [if_neg (by omega), e1, if_pos (by omega), if_pos (by omega), if_neg (by omega), hw, hx]
   ·rw [if_pos (by rw [strB_size, strB_size]; simp; omega), strB_append]
    exact Ev.now _
   ·simp; omega
end Go.Proofs.YtednjmngalmdkaaGreatDoor.GPC
end
section
/- The sizes that zzFits5 lets through, told. No condition. -/
namespace Go.Proofs.YtednjmngalmdkaaGreatDoor.GPC
open Go Go.RowKit Go.Proofs.YtednjmngalmdkaaGreatDoorW.PrintWords Go.Proofs.YtednjmngalmdkaaGreatDoorW.PrintLast Go.Proofs.YtednjmngalmdkaaGreatDoor.PF
set_option linter.unusedVariables false
structure FitR (r : S31) : Prop where
 s : r.f0.size ≤ 2147483647
 n : r.f1.length ≤ 2147483647
 l : r.f2.length ≤ 2147483647
 w : ∀ x ∈ r.f2, x.size ≤ 2147483647
theorem rdOf_el (l : List ByteArray) (i : Int) (h0 : 0 ≤ i) (h : i.toNat < l.length) : rdOf ByteArray.empty l i = l[i.toNat] := by
 simp [rdOf, List.getD_eq_getElem?_getD, List.getElem?_eq_getElem h]
theorem rd31i (l : List S31) (i : Int) (h0 : 0 ≤ i) (h : i.toNat < l.length) : rd_T31 l i = l[i.toNat] := by
 simp [rd_T31, List.getD_eq_getElem?_getD, List.getElem?_eq_getElem h]
theorem zz4F (l : List ByteArray) (hl : l.length ≤ 2147483647) : ∀ (d : Nat) (i : Int), 0 ≤ i → i + d = l.length → ∃ b, Ev (fun k => laws_zzFits4.l0 k l (l.length : Int) i) b ∧ (b = true → ∀ x ∈ l.drop i.toNat, x.size ≤ 2147483647)
 | 0, i, h0, h => ⟨true, Ev.step (f := fun _ => some true) (fun k => by simp only [laws_zzFits4.l0]; rw [if_neg (by omega)]) (Ev.now _), fun _ x hx => by rw [List.drop_eq_nil_of_le (by omega)] at hx; cases hx⟩
 | d + 1, i, h0, h => by
  have hw : wrap64 (i + 1) = i + 1 := by unfold wrap64; omega
  have hi : i.toNat < l.length := by omega
  by_cases hc : ((rdOf ByteArray.empty l i).size : Int) > 2147483647
  ·exact ⟨false, Ev.step (f := fun _ => some false) (fun k => by simp only [laws_zzFits4.l0]; rw [if_pos (by omega), if_pos h0, if_pos (by omega), if_pos hc]) (Ev.now _), fun h => by cases h⟩
  ·obtain ⟨b, hb, hx⟩ := zz4F l hl d (i + 1) (by omega) (by omega)
   refine ⟨b, Ev.step (fun k => by simp only [laws_zzFits4.l0]; rw [if_pos (by omega), if_pos h0, if_pos (by omega), if_neg hc, hw]) hb, fun e x hm => ?_⟩
   rw [List.drop_eq_getElem_cons hi] at hm
   rcases List.mem_cons.1 hm with rfl | hm
   ·rw [rdOf_el l i h0 hi] at hc; omega
   ·exact hx e x (by rw [show (i + 1).toNat = i.toNat + 1 by omega]; exact hm)
theorem zz4fF (l : List ByteArray) : ∃ b, Ev (fun k => laws_zzFits4.f k l) b ∧ (b = true → l.length ≤ 2147483647 ∧ ∀ x ∈ l, x.size ≤ 2147483647) := by
 by_cases hl : (l.length : Int) > 2147483647
 ·exact ⟨false, Ev.congr (fun k => by simp only [laws_zzFits4.f]; rw [if_pos hl]) (Ev.now _), fun h => by cases h⟩
 ·obtain ⟨b, hb, hx⟩ := zz4F l (by omega) l.length 0 (by omega) (by omega)
  exact ⟨b, Ev.congr (fun k => by simp only [laws_zzFits4.f]; rw [if_neg hl]) hb, fun e => ⟨by omega, by simpa using hx e⟩⟩
theorem zz6fF (a : ByteArray) (n : List Int) (s : List ByteArray) : ∃ b, Ev (fun k => laws_zzFits6.f k a n s) b ∧ (b = true → FitR ⟨a, n, s⟩) := by
 by_cases h1 : (a.size : Int) > 2147483647
 ·exact ⟨false, Ev.congr (fun k => by simp only [laws_zzFits6.f]; rw [if_pos h1]) (Ev.now _), fun h => by cases h⟩
 ·by_cases h2 : (n.length : Int) > 2147483647
  ·exact ⟨false, Ev.congr (fun k => by simp only [laws_zzFits6.f]; rw [if_neg h1, if_pos h2]) (Ev.now _), fun h => by cases h⟩
  ·obtain ⟨b, hb, hx⟩ := zz4fF s
   refine ⟨if b = true then true else false, Ev.congr (f := fun k => (laws_zzFits4.f k s).bind fun t => if t = true then some true else some false) (fun k => by simp only [laws_zzFits6.f]; rw [if_neg h1, if_neg h2]) (Ev.bind (f := fun _ t => if t = true then some true else some false) hb ?_), ?_⟩
   ·cases b
    ·exact Ev.now _
    ·exact Ev.now _
   ·cases b
    ·intro h; cases h
    ·exact fun _ => ⟨(by show a.size ≤ 2147483647; omega), (by show n.length ≤ 2147483647; omega), (hx rfl).1, (hx rfl).2⟩
theorem zz5F (l : List S31) (hl : l.length ≤ 2147483647) : ∀ (d : Nat) (i : Int), 0 ≤ i → i + d = l.length → ∃ b, Ev (fun k => laws_zzFits5.l0 k l (l.length : Int) i) b ∧ (b = true → ∀ x ∈ l.drop i.toNat, FitR x)
 | 0, i, h0, h => ⟨true, Ev.step (f := fun _ => some true) (fun k => by simp only [laws_zzFits5.l0]; rw [if_neg (by omega)]) (Ev.now _), fun _ x hx => by rw [List.drop_eq_nil_of_le (by omega)] at hx; cases hx⟩
 | d + 1, i, h0, h => by
  have hw : wrap64 (i + 1) = i + 1 := by unfold wrap64; omega
  have hi : i.toNat < l.length := by omega
  obtain ⟨b6, h6, hx6⟩ := zz6fF ((rd_T31 l i).f0) ((rd_T31 l i).f1) ((rd_T31 l i).f2)
  have hstep : ∀ k, laws_zzFits5.l0 (k + 1) l (l.length : Int) i = (laws_zzFits6.f k ((rd_T31 l i).f0) ((rd_T31 l i).f1) ((rd_T31 l i).f2)).bind fun t => if t = true then laws_zzFits5.l0 k l (l.length : Int) (i + 1) else some false := fun k => by
   simp only [laws_zzFits5.l0]; rw [if_pos (by omega), if_pos h0, if_pos (by omega), hw]
  obtain ⟨b, hb, hx⟩ := zz5F l hl d (i + 1) (by omega) (by omega)
  cases b6
  ·exact ⟨false, Ev.step hstep (Ev.bind (f := fun k t => if t = true then laws_zzFits5.l0 k l (l.length : Int) (i + 1) else some false) h6 (Ev.now _)), fun h => by cases h⟩
  ·refine ⟨b, Ev.step hstep (Ev.bind (f := fun k t => if t = true then laws_zzFits5.l0 k l (l.length : Int) (i + 1) else some false) h6 hb), fun e x hm => ?_⟩
   rw [List.drop_eq_getElem_cons hi] at hm
   rcases List.mem_cons.1 hm with rfl | hm
   ·have := hx6 rfl
    rw [rd31i l i h0 hi] at this
    exact this
   ·exact hx e x (by rw [show (i + 1).toNat = i.toNat + 1 by omega]; exact hm)
theorem zz5fF (l : List S31) : ∃ k b, laws_zzFits5.f k l = some b ∧ (b = true → l.length ≤ 2147483647 ∧ ∀ x ∈ l, FitR x) := by
 by_cases hl : (l.length : Int) > 2147483647
 ·exact ⟨0, false, by simp only [laws_zzFits5.f]; rw [if_pos hl], fun h => by cases h⟩
 ·obtain ⟨b, hb, hx⟩ := zz5F l (by omega) l.length 0 (by omega) (by omega)
  obtain ⟨k, hk⟩ := hb.rounds
  exact ⟨k, b, by simp only [laws_zzFits5.f]; rw [if_neg hl]; exact hk, fun e => ⟨by omega, by simpa using hx e⟩⟩
end Go.Proofs.YtednjmngalmdkaaGreatDoor.GPC
end
section
/- Plain facts: a number of hundredths, written, is read as the same float. Condition: below 2^40. -/
namespace Go.Proofs.YtednjmngalmdkaaGreatDoor.GPC
open Go Go.RowKit Go.Proofs.YtednjmngalmdkaaGreatDoorW.PrintWords Go.Proofs.YtednjmngalmdkaaGreatDoorW.PrintLast Go.Proofs.YtednjmngalmdkaaGreatDoor.PF
set_option linter.unusedVariables false
def padL (least : Nat) (l : List UInt8) : List UInt8 := List.replicate (least - l.length) 48 ++ l
theorem padL_cons (least : Nat) (l : List UInt8) (h : l.length < least) : padL least (48 :: l) = padL least l := by
 unfold padL
 obtain ⟨d, hd⟩ : ∃ d, least - l.length = d + 1 := ⟨least - l.length - 1, by omega⟩
 rw [List.length_cons, hd, show least - (l.length + 1) = d by omega, List.replicate_succ', List.append_assoc, List.singleton_append]
theorem pad_ev (least : Nat) (hl : least ≤ 1000) : ∀ (d : Nat) (l : List UInt8), least - l.length = d → l.length ≤ 100000 → Ev (fun k => spec_Padded.l0 k (least : Int) (strB l)) (strB (padL least l))
 | 0, l, h, hl2 => by
  have e : padL least l = l := by simp [padL, h]
  rw [e]
  exact Ev.step (f := fun _ => some (strB l)) (fun k => by simp only [spec_Padded.l0]; rw [if_neg (by rw [strB_size]; omega)]) (Ev.now _)
 | d + 1, l, h, hl2 => by
  have ih := pad_ev least hl d (48 :: l) (by simp; omega) (by simp; omega)
  rw [padL_cons least l (by omega)] at ih
  refine Ev.step (fun k => ?_) ih
  simp only [spec_Padded.l0]
  rw [if_pos (by rw [strB_size]; omega), if_pos (by rw [strB_size]; omega)]
  rw [show ((⟨#[48]⟩ : ByteArray) ++ strB l) = strB (48 :: l) from strB_append [48] l]
theorem padded_ev (n b least : Nat) (hb : 2 ≤ b) (hb2 : b ≤ 16) (hn : n < 18446744073709551616) (hl : least ≤ 1000) : Ev (fun k => spec_Padded.f k (n : Int) (b : Int) (least : Int)) (strB (padL least (digB b n))) := by
 have h64 : (digB b n).length ≤ 64 := digB_length b n 63 hb (Nat.lt_of_lt_of_le (show n < 2 ^ 64 by omega) (Nat.pow_le_pow_left hb 64))
 exact Ev.bind (f := fun k t => spec_Padded.l0 k (least : Int) t) (digits_ev b hb hb2 n hn).1 (pad_ev least hl _ _ rfl (by omega))
end Go.Proofs.YtednjmngalmdkaaGreatDoor.GPC
end
section
/- Plain facts: numbers written with a sign between, and read again as words. Conditions: at most 100,000 numbers of 64 bits. -/
namespace Go.Proofs.YtednjmngalmdkaaGreatDoor.GPC
open Go Go.RowKit Go.Proofs.YtednjmngalmdkaaGreatDoorW.PrintWords Go.Proofs.YtednjmngalmdkaaGreatDoorW.PrintLast Go.Proofs.YtednjmngalmdkaaGreatDoor.PF
set_option linter.unusedVariables false
theorem evG {α : Type} {c : Prop} [Decidable c] {A : Nat → Option α} {r : α} (h : c) (hA : Ev A r) : Ev (fun k => if c then A k else none) r := Ev.congr (fun k => if_pos h) hA
theorem evN {α : Type} {c : Prop} [Decidable c] {A B : Nat → Option α} {r : α} (h : ¬ c) (hA : Ev B r) : Ev (fun k => if c then A k else B k) r := Ev.congr (fun k => if_neg h) hA
theorem evP {α : Type} {c : Prop} [Decidable c] {A B : Nat → Option α} {r : α} (h : c) (hA : Ev A r) : Ev (fun k => if c then A k else B k) r := Ev.congr (fun k => if_pos h) hA
theorem evB {α β : Type} {g : Nat → Option α} {a : α} {F : Nat → α → Option β} {r : β} (h : Ev g a) (hF : Ev (fun k => F k a) r) : Ev (fun k => (g k).bind (F k)) r := Ev.bind (f := F) h hF
def intsOf (ns : List Nat) : List Int := ns.map Int.ofNat
theorem intsOf_len (ns : List Nat) : (intsOf ns).length = ns.length := by simp [intsOf]
theorem rd_ints (ns : List Nat) (i : Nat) (h : i < ns.length) : rd (intsOf ns) (i : Int) = (ns[i] : Int) := by
 simp [rd, intsOf, List.getD_eq_getElem?_getD, List.getElem?_eq_getElem h]
theorem strNums2 (s : ByteArray) : strOfNums (s.data.toList.map fun b => (b.toNat : Int)) = s := by
 apply ByteArray.ext
 apply Array.toList_inj.1
 simp only [strOfNums]
 simp only [List.map_map]
 have e : ((fun n => UInt8.ofNat n.toNat) ∘ fun b : UInt8 => (b.toNat : Int)) = id := funext fun b => by simp [Function.comp]
 rw [e, List.map_id]
end Go.Proofs.YtednjmngalmdkaaGreatDoor.GPC
end
section
/- The lines of a written text, one by one: on lists of bytes alone. Conditions: as they say. -/
namespace Go.Proofs.YtednjmngalmdkaaGreatDoor.GPC
open Go Go.RowKit Go.Proofs.YtednjmngalmdkaaGreatDoorW.PrintWords Go.Proofs.YtednjmngalmdkaaGreatDoorW.PrintLast
set_option linter.unusedVariables false
theorem strB_dl (l : List UInt8) : (strB l).data.toList = l := by simp [strB]
theorem ext_strB (l : List UInt8) (i j : Nat) : (strB l).extract i j = strB ((l.drop i).take (j - i)) := by
 apply ByteArray.ext
 rw [ByteArray.data_extract]
 apply Array.toList_inj.1
 simp [strB, List.extract]
theorem lineEnd_lf (a b : List UInt8) (ha : ∀ c ∈ a, c ≠ 10) : GL.lineEnd (strB (a ++ 10 :: b)) = a.length := by
 unfold GL.lineEnd
 rw [strB_dl, List.findIdx_append]
 have h0 : List.findIdx (· == (10 : UInt8)) a = a.length := List.findIdx_eq_length.2 (fun x hx => by
  simp only [beq_eq_false_iff_ne]
  exact ha x hx)
 have h1 : List.findIdx (fun x => x == (10 : UInt8)) (10 :: b) = 0 := by simp [List.findIdx_cons]
 rw [h0, h1]
 simp
theorem lineOf_lf (a b : List UInt8) (ha : ∀ c ∈ a, c ≠ 10) : GL.lineOf (strB (a ++ 10 :: b)) = strB a := by
 unfold GL.lineOf
 rw [lineEnd_lf a b ha, ext_strB]
 simp
theorem restOf_lf (a b : List UInt8) (ha : ∀ c ∈ a, c ≠ 10) : GL.restOf (strB (a ++ 10 :: b)) = strB b := by
 unfold GL.restOf
 rw [lineEnd_lf a b ha, if_pos (by rw [strB_size]; simp), ext_strB, strB_size]
 have e : a ++ 10 :: b = (a ++ [10]) ++ b := by simp
 rw [e, List.drop_left' (l₁ := a ++ [10]) (by simp), List.take_of_length_le (by simp; omega)]
end Go.Proofs.YtednjmngalmdkaaGreatDoor.GPC
end
section
/- Loops over rows, in general: printed text, tree, lines read; the end of a plain law. Conditions: as they say. -/
namespace Go.Proofs.YtednjmngalmdkaaGreatDoor.GPC
open Go Go.RowKit Go.Proofs.YtednjmngalmdkaaGreatDoorW.PrintWords Go.Proofs.YtednjmngalmdkaaGreatDoorW.PrintLast Go.Proofs.YtednjmngalmdkaaGreatDoor.PF
set_option linter.unusedVariables false
theorem gints_of (r : S31) (hr : OP.RowOk r) : r.f1 = intsOf (r.f1.map Int.toNat) := by
 unfold intsOf
 rw [List.map_map]
 refine (List.map_id r.f1).symm.trans (List.map_congr_left fun a ha => ?_)
 have := (hr.2.1.2 a ha).1
 simp only [Function.comp, id]
 show a = ((a.toNat : Nat) : Int)
 omega
theorem grd31 (l : List S31) (i : Nat) (h : i < l.length) : rd_T31 l (i : Int) = l[i] := by
 simp [rd_T31, List.getD_eq_getElem?_getD, List.getElem?_eq_getElem h]
theorem gen_print {T : Type} (L : List UInt8 → Nat → Nat → Option (ByteArray × Int)) (n A B : Nat) (hM : A + B * n ≤ 100000000000000000) (line : T → List UInt8) (Good : Nat → T → Prop)
  (hend : ∀ acc, Ev (L acc n) (strB acc, 1))
  (hone : ∀ i, i < n → ∀ acc : List UInt8, acc.length ≤ 100000000000000000 → Ev (L acc i) (⟨#[]⟩, 2) ∨ ∃ t, Good i t ∧ (line t).length ≤ B ∧ ∀ r, Ev (L (acc ++ line t) (i + 1)) r → Ev (L acc i) r) :
  ∀ (d i : Nat) (acc : List UInt8), i + d = n → acc.length ≤ A + B * i →
   Ev (L acc i) (⟨#[]⟩, 2) ∨ ∃ ts : List T, ts.length = d ∧ (∀ (j : Nat) (h : j < ts.length), Good (i + j) ts[j]) ∧ Ev (L acc i) (strB (acc ++ ts.flatMap line), 1)
 | 0, i, acc, h, ha => by
  obtain rfl : i = n := by omega
  refine .inr ⟨[], rfl, fun j h => by simp at h, ?_⟩
  simpa using hend acc
 | d + 1, i, acc, h, ha => by
  have hB : B * i ≤ B * n := Nat.mul_le_mul_left B (by omega)
  rcases hone i (by omega) acc (by omega) with hb | ⟨t, hg, hl, ht⟩
  ·exact .inl hb
  ·have hB2 : B * (i + 1) = B * i + B := by rw [Nat.mul_add, Nat.mul_one]
   rcases gen_print L n A B hM line Good hend hone d (i + 1) (acc ++ line t) (by omega) (by simp only [List.length_append]; omega) with hb | ⟨ts, hts, hgs, he⟩
   ·exact .inl (ht _ hb)
   ·refine .inr ⟨t :: ts, by simp [hts], fun j h2 => ?_, ?_⟩
    ·match j with
     | 0 => exact hg
     | j + 1 =>
      have := hgs j (by simpa using h2)
      simp only [List.getElem_cons_succ]
      rw [show i + (j + 1) = i + 1 + j by omega]
      exact this
    ·have e : acc ++ line t ++ ts.flatMap line = acc ++ (t :: ts).flatMap line := by simp
     rw [e] at he
     exact ht _ he
theorem gen_list {S R : Type} (L : List S → Nat → Nat → Option R) (n : Nat) (node : Nat → S) (fin : List S → R)
  (hend : ∀ acc, acc.length ≤ n → Ev (L acc n) (fin acc)) (hone : ∀ i, i < n → ∀ acc : List S, acc.length ≤ i → ∀ r, Ev (L (acc ++ [node i]) (i + 1)) r → Ev (L acc i) r) :
  ∀ (d i : Nat) (acc : List S), i + d = n → acc.length ≤ i → Ev (L acc i) (fin (acc ++ (List.range' i d).map node))
 | 0, i, acc, h, ha => by
  obtain rfl : i = n := by omega
  simpa using hend acc ha
 | d + 1, i, acc, h, ha => by
  have ih := gen_list L n node fin hend hone d (i + 1) (acc ++ [node i]) (by omega) (by simp; omega)
  rw [List.append_assoc, List.singleton_append, ← List.map_cons] at ih
  have e : i :: List.range' (i + 1) d = List.range' i (d + 1) := by simp [List.range'_succ]
  rw [e] at ih
  exact hone i (by omega) acc ha _ ih
theorem range_map {T S : Type} (ts : List T) (f : T → S) (node : Nat → S) (h : ∀ (i : Nat) (hi : i < ts.length), node i = f ts[i]) : (List.range' 0 ts.length).map node = ts.map f := by
 apply List.ext_getElem
 ·simp
 ·intro i h1 h2
  simp only [List.length_map, List.length_range'] at h1
  simp [h i h1]
structure LnOk (l : List UInt8) : Prop where
 ne : l ≠ []
 ch : ∀ c ∈ l, c ≠ 10 ∧ c ≠ 13
 len : l.length < 65536
theorem line_ok (a b : List UInt8) (h : LnOk a) (hs : (a ++ 10 :: b).length ≤ 1000000) : ¬ (strB (a ++ 10 :: b)).size = 0 ∧ LineOk (strB (a ++ 10 :: b)) ∧ GL.lineOf (strB (a ++ 10 :: b)) = strB a ∧ GL.restOf (strB (a ++ 10 :: b)) = strB b := by
 have h10 : ∀ c ∈ a, c ≠ 10 := fun c hc => (h.ch c hc).1
 have hp : 0 < a.length := List.length_pos_iff.2 h.ne
 refine ⟨by rw [strB_size]; simp, ⟨by rw [strB_size]; omega, by rw [lineEnd_lf a b h10]; exact h.len, ?_⟩, lineOf_lf a b h10, restOf_lf a b h10⟩
 rw [lineOf_lf a b h10, strB_size, show ((a.length : Nat) : Int) - 1 = ((a.length - 1 : Nat) : Int) by omega, GL.bt_list _ _ (by rw [strB_size]; omega)]
 intro e
 have hm : a[a.length - 1]'(by omega) ∈ a := List.getElem_mem _
 apply (h.ch _ hm).2
 apply UInt8.toNat_inj.1
 have : ((strB a).data.toList[a.length - 1]'(by rw [strB_dl]; omega)) = a[a.length - 1]'(by omega) := by simp only [strB_dl]
 rw [← this]
 show _ = 13
 omega
theorem rows_end {α : Type} (L : ByteArray → Option (Option α)) (q : Nat) : rowsF L (q + 1) (strB []) = some [] := by
 unfold rowsF
 rw [if_pos (by rw [strB_size]; rfl)]
theorem rows_cons {α : Type} (L : ByteArray → Option (Option α)) (q : Nat) (a b : List UInt8) (h : LnOk a) (hs : (a ++ 10 :: b).length ≤ 1000000) (m : Option α) (ms : List α) (hm : L (strB a) = some m) (hr : rowsF L q (strB b) = some ms) :
  rowsF L (q + 1) (strB (a ++ 10 :: b)) = some (m.toList ++ ms) := by
 obtain ⟨h1, h2, h3, h4⟩ := line_ok a b h hs
 unfold rowsF
 rw [if_neg h1, if_pos h2, h3, h4, hm, hr]
 rfl
theorem rows_text {T α : Type} (L : ByteArray → Option (Option α)) (line : T → List UInt8) (val : T → α) : ∀ (ts : List T) (q : Nat), ts.length < q → (∀ t ∈ ts, LnOk (line t) ∧ L (strB (line t)) = some (some (val t))) → (ts.flatMap fun t => line t ++ [10]).length ≤ 1000000 →
  rowsF L q (strB (ts.flatMap fun t => line t ++ [10])) = some (ts.map val)
 | [], q + 1, _, _, _ => rows_end L q
 | t :: ts, q + 1, hq, h, hl => by
  have e : (t :: ts).flatMap (fun t => line t ++ [10]) = line t ++ 10 :: ts.flatMap (fun t => line t ++ [10]) := by simp
  rw [e] at hl ⊢
  have ih := rows_text L line val ts q (by simpa using hq) (fun u hu => h u (by simp [hu])) (by simp only [List.length_append, List.length_cons] at hl; omega)
  exact rows_cons L q (line t) _ (h t (by simp)).1 hl (some (val t)) _ (h t (by simp)).2 ih
theorem head_line (a b : List UInt8) (h : LnOk a) (hs : (a ++ 10 :: b).length ≤ 1000000) : headF (strB (a ++ 10 :: b)) = some (strB b) := by
 obtain ⟨h1, h2, h3, h4⟩ := line_ok a b h hs
 unfold headF
 rw [if_neg h1, if_pos h2, h4]
theorem rowsF_more {α : Type} {L : ByteArray → Option (Option α)} : ∀ {q k : Nat} {t : ByteArray} {r : List α}, q ≤ k → rowsF L q t = some r → rowsF L k t = some r
 | 0, _, _, _, _, h => by cases h
 | q + 1, 0, _, _, hk, _ => by omega
 | q + 1, k + 1, t, r, hk, h => by
  unfold rowsF at h ⊢
  split at h
  ·rename_i h0; rw [if_pos h0]; exact h
  ·rename_i h0
   rw [if_neg h0]
   split at h
   ·rename_i h1
    rw [if_pos h1]
    obtain ⟨m, hm, h⟩ := Option.bind_eq_some_iff.1 h
    obtain ⟨ms, hms, h⟩ := Option.bind_eq_some_iff.1 h
    rw [hm, Option.bind_some, rowsF_more (by omega) hms, Option.bind_some]
    exact h
   ·cases h
theorem flat_len {T : Type} (line : T → List UInt8) : ∀ (ts : List T) (t : T), t ∈ ts → (line t).length ≤ (ts.flatMap line).length
 | [], t, h => by cases h
 | u :: ts, t, h => by
  rw [List.flatMap_cons, List.length_append]
  rcases List.mem_cons.1 h with rfl | h
  ·omega
  ·have := flat_len line ts t h; omega
theorem read_text (l : List UInt8) (h : l.length ≤ 1048576) : texts_Read.f (strB l) = some (l.map (fun b => (b.toNat : Int)), none) := by
 unfold texts_Read.f
 rw [if_pos (by rw [strB_size]; omega), strB_dl]
theorem nums_text (l : List UInt8) : strOfNums (l.map (fun b => (b.toNat : Int))) = strB l := by
 have := strNums2 (strB l)
 rw [strB_dl] at this
 exact this
theorem gen_end {print : Nat → Option (ByteArray × Int)} {tree : Nat → Option (ByteArray × Int × Bool × Int × Int × Nat × ByteArray × List S39 × Int)} {door : ByteArray → S43 → Prop} {l : List S31} (h : l.length ≤ 1000) (text : List UInt8)
  (hp : Ev print (strB text, 1)) (d : Nat) (n : S43) (hf : text.length ≤ 40000 → FitN d n)
  (ht : text.length ≤ 40000 → Ev tree ((convN d n).f0, (convN d n).f1, (convN d n).f2, (convN d n).f3, (convN d n).f4, (convN d n).f5, (convN d n).f6, (convN d n).f7, 1)) (hd : text.length ≤ 40000 → door (strB text) n) : BackOk print tree door l := by
 by_cases hsz : 40000 < text.length
 ·obtain ⟨K, hk⟩ := hp
  exact .noPrint h K _ _ (hk K (Nat.le_refl _)) (.inr (by rw [strB_size]; exact hsz))
 ·exact back_same h _ hp (by rw [strB_size]; omega) d n (hf (by omega)) (ht (by omega)) (hd (by omega))
theorem gen_no {print : Nat → Option (ByteArray × Int)} {tree : Nat → Option (ByteArray × Int × Bool × Int × Int × Nat × ByteArray × List S39 × Int)} {door : ByteArray → S43 → Prop} {l : List S31} (h : l.length ≤ 1000) (hp : Ev print (⟨#[]⟩, 2)) : BackOk print tree door l := by
 obtain ⟨K, hk⟩ := hp
 exact .noPrint h K _ _ (hk K (Nat.le_refl _)) (.inl (by decide))
end Go.Proofs.YtednjmngalmdkaaGreatDoor.GPC
end
section
/- spec.upper: a number in hexadecimal digits, large letters. Conditions: what spec.Padded answers, of at most a million bytes. -/
namespace Go.Proofs.YtednjmngalmdkaaGreatDoor.GPC
open Go.RowKit Go.Proofs.YtednjmngalmdkaaGreatDoorW.PrintWords Go.Proofs.YtednjmngalmdkaaGreatDoorW.PrintLast
set_option linter.unusedVariables false
set_option linter.unusedSimpArgs false
def upI (c : Int) : Int := if c ≥ 97 then IntKind.u8.wrap (c - 32) else c
def upM (L : List Int) (x : Nat) : List Value := ((L.take x).map upI ++ L.drop x).map (Value.int .u8)
end Go.Proofs.YtednjmngalmdkaaGreatDoor.GPC
end
section
/- Hexadecimal numbers with noughts ahead, in small or great letters, and decimal ones: printed, read by strconv.ParseUint; spec.counted; texts with blanks behind. Conditions: as they say. -/
namespace Go.Proofs.YtednjmngalmdkaaGreatDoor.GPC
open Go Go.RowKit Go.Proofs.YtednjmngalmdkaaGreatDoorW.PrintWords Go.Proofs.YtednjmngalmdkaaGreatDoorW.PrintLast Go.Proofs.YtednjmngalmdkaaGreatDoor.PF
set_option linter.unusedVariables false
theorem shl32 : (IntKind.u64.wrap ((IntKind.u64.wrap ((shl .u64 1 (wrap64 (32 - 1))) * 2)) - 1)) = 4294967295 := by decide +kernel
theorem counted_l (f0 : ByteArray) (l : List Int) (f2 : List ByteArray) (n w : Int) (hl : l.length ≤ 2147483647) : ∀ (d i : Nat), i + d = l.length →
  ∃ b, Ev (fun k => spec_counted.l0 k n 32 w l (l.length : Int) (i : Int) f0 l f2) b ∧ (b = true → (l.length : Int) = n ∧ (f2.length : Int) = w ∧ ∀ x ∈ l.drop i, x ≤ 4294967295)
 | 0, i, h => by
  by_cases h1 : (l.length : Int) = n
  ·refine ⟨_, Ev.step (f := fun _ => some ((f2.length : Int) == w)) (fun k => by simp only [spec_counted.l0]; rw [if_neg (by omega), if_pos h1]) (Ev.now _), fun e => ⟨h1, beq_iff_eq.1 e, fun x hx => ?_⟩⟩
   rw [List.drop_eq_nil_of_le (by omega)] at hx; cases hx
  ·exact ⟨false, Ev.step (f := fun _ => some false) (fun k => by simp only [spec_counted.l0]; rw [if_neg (by omega), if_neg h1]) (Ev.now _), fun e => by cases e⟩
 | d + 1, i, h => by
  have hi : i < l.length := by omega
  have hw : wrap64 ((i : Int) + 1) = ((i + 1 : Nat) : Int) := by unfold wrap64; omega
  have h31 : 0 ≤ wrap64 (32 - 1) := by unfold wrap64; omega
  have hrd : rd l (i : Int) = l[i] := by simp [rd, List.getD_eq_getElem?_getD, List.getElem?_eq_getElem hi]
  by_cases hc : rd l (i : Int) > 4294967295
  ·exact ⟨false, Ev.step (f := fun _ => some false) (fun k => by simp only [spec_counted.l0]; rw [if_pos (by omega), if_pos (by omega), if_pos (by omega), if_pos h31, shl32, if_pos hc]) (Ev.now _), fun e => by cases e⟩
  ·obtain ⟨b, hb, hx⟩ := counted_l f0 l f2 n w hl d (i + 1) (by omega)
   refine ⟨b, Ev.step (fun k => by simp only [spec_counted.l0]; rw [if_pos (by omega), if_pos (by omega), if_pos (by omega), if_pos h31, shl32, if_neg hc, hw]) hb, fun e => ⟨(hx e).1, (hx e).2.1, fun x hm => ?_⟩⟩
   rw [List.drop_eq_getElem_cons hi] at hm
   rcases List.mem_cons.1 hm with rfl | hm
   ·rw [hrd] at hc; omega
   ·exact (hx e).2.2 x hm
theorem counted_ev (f0 : ByteArray) (l : List Int) (f2 : List ByteArray) (n w : Int) (hl : l.length ≤ 2147483647) :
  ∃ b, Ev (fun k => spec_counted.f k f0 l f2 n 32 w) b ∧ (b = true → (l.length : Int) = n ∧ (f2.length : Int) = w ∧ ∀ x ∈ l, x ≤ 4294967295) := by
 obtain ⟨b, hb, hx⟩ := counted_l f0 l f2 n w hl l.length 0 (by omega)
 exact ⟨b, Ev.congr (fun k => rfl) hb, fun e => by simpa using hx e⟩
def hexP (m n : Nat) : List UInt8 := padL m (digB 16 n)
theorem hex_digits (n : Nat) (h : n < 4294967296) : (digB 16 n).length ≤ 8 := digB_length 16 n 7 (by omega) (by omega)
theorem hexP_len (m n : Nat) (h : n < 4294967296) (hm : m ≤ 8) : (hexP m n).length ≤ 8 := by
 have := hex_digits n h
 simp only [hexP, padL, List.length_append, List.length_replicate]
 omega
theorem hexP_dig (m n : Nat) : ∀ c ∈ hexP m n, isDig c = true := fun c hc => by
 rcases List.mem_append.1 hc with hc | hc
 ·rw [(List.mem_replicate.1 hc).2]; decide
 ·exact digB_dig 16 n (by omega) (by omega) c hc
theorem hexP_ne (m n : Nat) : hexP m n ≠ [] := by
 intro e
 have := digB_ne 16 n
 simp only [hexP, padL, List.append_eq_nil_iff] at e
 exact this e.2
theorem hexP_pu (m n mx : Nat) (h : n ≤ mx) : puN 16 mx 0 (hexP m n) = some n := by
 unfold hexP padL
 rw [puN_noughts 16 mx (by omega), puN_dig 16 n mx (by omega) (by omega) h]
theorem pu_hex64 (l : List UInt8) (n : Nat) (hne : l ≠ []) (hl : l.length ≤ 1000) (h : puN 16 18446744073709551615 0 l = some n) : puF (strB l) 16 64 = some (n : Int) := by
 have hp : 0 < l.length := List.length_pos_iff.2 hne
 unfold puF strconv_ParseUint.f istrconv_ParseUint.f
 rw [if_neg (by rw [strB_size]; omega), if_neg (by decide), if_pos ⟨rfl, rfl⟩, if_neg (by rw [strB_size]; omega), strB_dl, h]
 rfl
end Go.Proofs.YtednjmngalmdkaaGreatDoor.GPC
end
section
/- What /proc/net/stat/nf_conntrack says, written, is read as its tree: on numbers and lists alone. Condition: rows as a call's arguments hold them (RowOk). -/
namespace Go.Proofs.YtednjmngalmdkaaGreatDoor.GPC
open Go Go.RowKit Go.Proofs.YtednjmngalmdkaaGreatDoorW.PrintWords Go.Proofs.YtednjmngalmdkaaGreatDoorW.PrintLast Go.Proofs.YtednjmngalmdkaaGreatDoor.PF
set_option linter.unusedVariables false
abbrev CtT := List Nat
structure CtGood (r : S31) (t : CtT) : Prop where
 n : r.f1 = intsOf t
 l : t.length = 17
 small : ∀ n ∈ t, n < 4294967296
theorem sev {l : List Nat} (h : l.length = 17) : ∃ n0 n1 n2 n3 n4 n5 n6 n7 n8 n9 n10 n11 n12 n13 n14 n15 n16, l = [n0, n1, n2, n3, n4, n5, n6, n7, n8, n9, n10, n11, n12, n13, n14, n15, n16] := by
 match l, h with
 | [n0, n1, n2, n3, n4, n5, n6, n7, n8, n9, n10, n11, n12, n13, n14, n15, n16], _ => exact ⟨n0, n1, n2, n3, n4, n5, n6, n7, n8, n9, n10, n11, n12, n13, n14, n15, n16, rfl⟩
theorem ct_fine (l : List S31) (hl : l.length ≤ 1000) (hf : ∀ r ∈ l, FitR r ∧ OP.RowOk r) : ∀ (d i : Nat), i + d = l.length →
  ∃ b, Ev (fun k => spec_conntrackFine.l0 k l (l.length : Int) (i : Int)) b ∧ (b = true → ∀ (j : Nat) (hj : j < l.length), i ≤ j → ∃ t, CtGood l[j] t)
 | 0, i, h => ⟨true, Ev.step (f := fun _ => some true) (fun k => by simp only [spec_conntrackFine.l0]; rw [if_neg (by omega)]) (Ev.now _), fun _ j hj h2 => by omega⟩
 | d + 1, i, h => by
  have hi : i < l.length := by omega
  have hw : wrap64 ((i : Int) + 1) = ((i + 1 : Nat) : Int) := by unfold wrap64; omega
  have hrd := grd31 l i hi
  obtain ⟨hfr, hro⟩ := hf l[i] (List.getElem_mem _)
  obtain ⟨ns, hns⟩ : ∃ ns, l[i].f1 = intsOf ns := ⟨_, gints_of _ hro⟩
  have hnl : ns.length ≤ 2147483647 := by have := hfr.n; rwa [hns, intsOf_len] at this
  obtain ⟨b2, hb2, hx2⟩ := counted_ev l[i].f0 (intsOf ns) l[i].f2 17 0 (by rw [intsOf_len]; exact hnl)
  obtain ⟨b, hb, hx⟩ := ct_fine l hl hf d (i + 1) (by omega)
  have hst : ∀ k, spec_conntrackFine.l0 (k + 1) l (l.length : Int) (i : Int) = if (l[i].f0).toList = ([] : List UInt8) then ((spec_counted.f k l[i].f0 (intsOf ns) l[i].f2 17 32 0).bind fun t568 => (if t568 = true then spec_conntrackFine.l0 k l (l.length : Int) ((i + 1 : Nat) : Int) else some false)) else some false := fun k => by
   simp only [spec_conntrackFine.l0]
   rw [if_pos (by omega), if_pos (by omega), if_pos (by omega), hrd, hns, hw]
  by_cases h0 : (l[i].f0).toList = ([] : List UInt8)
  ·cases b2 with
   | false => exact ⟨false, Ev.step hst (evP h0 (evB hb2 (evN (by decide) (Ev.now _)))), fun e => by cases e⟩
   | true =>
    obtain ⟨h17, _, hsm⟩ := hx2 rfl
    rw [intsOf_len] at h17
    refine ⟨b, Ev.step hst (evP h0 (evB hb2 (evP rfl hb))), fun e j hj hij => ?_⟩
    by_cases hji : j = i
    ·subst hji
     exact ⟨ns, ⟨hns, by omega, fun n hn => by
      have := hsm (n : Int) (by unfold intsOf; exact List.mem_map.2 ⟨n, hn, rfl⟩)
      omega⟩⟩
    ·exact hx e j hj (by omega)
  ·exact ⟨false, Ev.step hst (evN h0 (Ev.now _)), fun e => by cases e⟩
def ctSep (i : Nat) : List UInt8 := (if 0 < i then [32] else []) ++ (if i = 1 ∨ i = 13 then [32] else [])
def ctFrom : Nat → List Nat → List UInt8
 | _, [] => []
 | i, n :: r => ctSep i ++ (hexP 8 n ++ ctFrom (i + 1) r)
def ctLn (t : CtT) : List UInt8 := ctFrom 0 t
theorem ctSep_len (i : Nat) : (ctSep i).length ≤ 2 := by
 unfold ctSep
 rw [List.length_append]
 split <;> split <;> simp
theorem ctFrom_len : ∀ (ns : List Nat) (i : Nat), (∀ n ∈ ns, n < 4294967296) → (ctFrom i ns).length ≤ 10 * ns.length
 | [], i, _ => by simp [ctFrom]
 | n :: r, i, h => by
  have h1 := ctFrom_len r (i + 1) (fun m hm => h m (by simp [hm]))
  have h2 := ctSep_len i
  have h3 := hexP_len 8 n (h n (by simp)) (by omega)
  simp only [ctFrom, List.length_append, List.length_cons]
  omega
theorem ct_nums (l : List S31) (n i : Int) (ns : List Nat) (hl : ns.length ≤ 1000) (hn : ∀ n ∈ ns, n < 4294967296) (r : ByteArray × Int) : ∀ (d j : Nat) (acc : List UInt8), j + d = ns.length → acc.length + 100 * d ≤ 1000000000000000000 →
  Ev (fun k => spec_ConntrackPrint.l0 k (strB (acc ++ (ctFrom j (ns.drop j) ++ [10]))) l n (wrap64 (i + 1))) r →
  Ev (fun k => spec_ConntrackPrint.l1 k (strB acc) l n i (intsOf ns) (ns.length : Int) (j : Int)) r
 | 0, j, acc, h, ha, hr => by
  rw [List.drop_eq_nil_of_le (by omega)] at hr
  refine Ev.step (fun k => ?_) hr
  simp only [spec_ConntrackPrint.l1]
  rw [if_neg (by omega), if_pos (by rw [strB_size]; omega)]
  rw [show strB acc ++ (⟨#[10]⟩ : ByteArray) = strB (acc ++ [10]) from strB_append acc [10]]
  rfl
 | d + 1, j, acc, h, ha, hr => by
  have hj : j < ns.length := by omega
  have hm := hn ns[j] (List.getElem_mem _)
  have hw : wrap64 ((j : Int) + 1) = ((j + 1 : Nat) : Int) := by unfold wrap64; omega
  have hpl := hexP_len 8 ns[j] hm (by omega)
  have hsl := ctSep_len j
  have hpad := padded_ev ns[j] 16 8 (by omega) (by omega) (by omega) (by omega)
  have e : acc ++ (ctFrom j (ns.drop j) ++ [10]) = (acc ++ (ctSep j ++ hexP 8 ns[j])) ++ (ctFrom (j + 1) (ns.drop (j + 1)) ++ [10]) := by
   rw [List.drop_eq_getElem_cons hj]
   simp only [ctFrom, List.append_assoc]
  rw [e] at hr
  have ih := ct_nums l n i ns hl hn r d (j + 1) (acc ++ (ctSep j ++ hexP 8 ns[j])) (by omega) (by simp only [List.length_append]; omega) hr
  refine Ev.step (f := fun k => (spec_Padded.f k ((ns[j] : Nat) : Int) (16 : Nat) (8 : Nat)).bind fun t => if (strB (acc ++ ctSep j)).size + t.size ≤ 9223372036854775807 then spec_ConntrackPrint.l1 k (strB (acc ++ ctSep j) ++ t) l n i (intsOf ns) (ns.length : Int) ((j + 1 : Nat) : Int) else none) (fun k => ?_) ?_
  ·simp only [spec_ConntrackPrint.l1]
   rw [if_pos (by omega), if_pos (by omega), if_pos (by rw [intsOf_len]; omega), rd_ints ns j hj, hw, show (⟨#[32]⟩ : ByteArray) = strB [32] from rfl]
   by_cases h0 : (j : Int) > 0
   ·rw [if_pos h0, if_pos (by rw [strB_size]; omega)]
    by_cases h1 : (j : Int) = 1
    ·have e1 : ctSep j = [32] ++ [32] := by unfold ctSep; rw [if_pos (by omega), if_pos (.inl (by omega))]
     rw [if_pos h1, strB_append, if_pos (by rw [strB_size]; simp only [List.length_append, List.length_cons, List.length_nil]; omega), strB_append, e1, ← List.append_assoc]
     rfl
    ·rw [if_neg h1]
     by_cases h13 : (j : Int) = 13
     ·have e1 : ctSep j = [32] ++ [32] := by unfold ctSep; rw [if_pos (by omega), if_pos (.inr (by omega))]
      rw [if_pos h13, strB_append, if_pos (by rw [strB_size]; simp only [List.length_append, List.length_cons, List.length_nil]; omega), strB_append, e1, ← List.append_assoc]
      rfl
     ·have e1 : ctSep j = [32] := by unfold ctSep; rw [if_pos (by omega), if_neg (by omega)]; rfl
      rw [if_neg h13, strB_append, e1]
      rfl
   ·have e1 : ctSep j = [] := by unfold ctSep; rw [if_neg (by omega), if_neg (by omega)]; rfl
    rw [if_neg h0, if_neg (by omega), if_neg (by omega), e1, List.append_nil]
    rfl
  ·refine evB hpad (evG (by rw [strB_size, strB_size]; unfold hexP at hpl; simp only [List.length_append]; omega) ?_)
   rw [strB_append, List.append_assoc]
   exact ih
theorem ct_len (t : CtT) (h : t.length = 17) (hn : ∀ n ∈ t, n < 4294967296) : (ctLn t ++ [10]).length ≤ 3000000000 := by
 have := ctFrom_len t 0 hn
 unfold ctLn
 simp only [List.length_append, List.length_cons, List.length_nil]
 omega
theorem ct_one (l : List S31) (hl : l.length ≤ 1000) (i : Nat) (hi : i < l.length) (acc : List UInt8) (hacc : acc.length ≤ 100000000000000000) (t : CtT) (g : CtGood l[i] t) (r : ByteArray × Int)
  (hr : Ev (fun k => spec_ConntrackPrint.l0 k (strB (acc ++ (ctLn t ++ [10]))) l (l.length : Int) ((i + 1 : Nat) : Int)) r) : Ev (fun k => spec_ConntrackPrint.l0 k (strB acc) l (l.length : Int) (i : Int)) r := by
 have hw : wrap64 ((i : Int) + 1) = ((i + 1 : Nat) : Int) := by unfold wrap64; omega
 have hrd := grd31 l i hi
 have h1 := ct_nums l (l.length : Int) (i : Int) t (by rw [g.l]; omega) g.small r t.length 0 acc (by omega) (by rw [g.l]; omega) (by rw [List.drop_zero, hw]; exact hr)
 refine Ev.step (fun k => ?_) h1
 simp only [spec_ConntrackPrint.l0]
 rw [if_pos (by omega), if_pos (by omega), if_pos (by omega), hrd, g.n, intsOf_len]
 rfl
theorem hexP_mem (m n : Nat) (c : UInt8) (h : c ∈ hexP m n) : (48 ≤ c.toNat ∧ c.toNat ≤ 57) ∨ (97 ≤ c.toNat ∧ c.toNat ≤ 102) := by
 have := hexP_dig m n c h
 unfold isDig at this
 rw [Bool.or_eq_true, Bool.and_eq_true, Bool.and_eq_true] at this
 rcases this with h | h
 ·exact .inl ⟨of_decide_eq_true h.1, of_decide_eq_true h.2⟩
 ·exact .inr ⟨of_decide_eq_true h.1, of_decide_eq_true h.2⟩
theorem hexP_sp (m n : Nat) : ∀ c ∈ hexP m n, Lib.isSp c = false := fun c hc => isDig_sp (hexP_dig m n c hc)
theorem ct_chars : ∀ (ns : List Nat) (i : Nat), ∀ x ∈ ctFrom i ns, x.toNat < 128 ∧ x ≠ 10 ∧ x ≠ 13
 | [], i, x, hx => by cases hx
 | n :: r, i, x, hx => by
  unfold ctFrom at hx
  rcases List.mem_append.1 hx with hx | hx
  ·have : x = 32 := by
    unfold ctSep at hx
    rcases List.mem_append.1 hx with hx | hx
    ·split at hx
     ·simpa using hx
     ·cases hx
    ·split at hx
     ·simpa using hx
     ·cases hx
   rw [this]; decide
  rcases List.mem_append.1 hx with hx | hx
  ·have := hexP_mem 8 n x hx
   exact ⟨by omega, fun e => by rw [e] at this; revert this; decide, fun e => by rw [e] at this; revert this; decide⟩
  ·exact ct_chars r (i + 1) x hx
theorem ct_fields : ∀ (ns : List Nat) (i : Nat), Lib.fields (ctFrom i ns) = ns.map (hexP 8)
 | [], i => rfl
 | n :: r, i => by
  have hs : ∀ c ∈ ctSep i, Lib.isSp c = true := fun c hc => by
   have : c = 32 := by
    unfold ctSep at hc
    rcases List.mem_append.1 hc with hc | hc
    ·split at hc
     ·simpa using hc
     ·cases hc
    ·split at hc
     ·simpa using hc
     ·cases hc
   rw [this]; decide
  unfold ctFrom
  rw [fields_blanks _ _ hs]
  cases r with
  | nil => rw [show ctFrom (i + 1) [] = [] from rfl, List.append_nil]; exact fields_last _ (hexP_ne 8 n) (hexP_sp 8 n)
  | cons m r =>
   have ih := ct_fields (m :: r) (i + 1)
   obtain ⟨z, hz⟩ : ∃ z, ctFrom (i + 1) (m :: r) = 32 :: z := by
    unfold ctFrom ctSep
    rw [if_pos (by omega)]
    exact ⟨_, rfl⟩
   rw [hz] at ih ⊢
   rw [fields_word _ 32 z (hexP_ne 8 n) (hexP_sp 8 n) (by decide), ih]
   rfl
theorem ct_hexs : ∀ (ns : List Nat), (∀ n ∈ ns, n < 4294967296) → hexs ((ns.map (hexP 8)).map strB) = some (intsOf ns)
 | [], _ => rfl
 | n :: r, h => by
  have ih := ct_hexs r (fun m hm => h m (by simp [hm]))
  have h1 := h n (by simp)
  have hl := hexP_len 8 n h1 (by omega)
  simp only [List.map_cons, hexs]
  rw [pu_hex64 (hexP 8 n) n (hexP_ne 8 n) (by omega) (hexP_pu 8 n _ (by omega)), Option.bind_some, ih]
  rfl
def ctS (t : CtT) : S109 := ⟨(intsOf t).getD 0 0, (intsOf t).getD 1 0, (intsOf t).getD 2 0, (intsOf t).getD 3 0, (intsOf t).getD 4 0, (intsOf t).getD 5 0, (intsOf t).getD 6 0, (intsOf t).getD 7 0, (intsOf t).getD 8 0, (intsOf t).getD 9 0, (intsOf t).getD 10 0, (intsOf t).getD 11 0, (intsOf t).getD 16 0⟩
theorem ct_line (r : S31) (t : CtT) (g : CtGood r t) (hl : (ctLn t).length ≤ 40000) : LnOk (ctLn t) ∧ ctL (strB (ctLn t)) = some (some (ctS t)) := by
 have hch := ct_chars t 0
 have hfd := ct_fields t 0
 refine ⟨⟨(fun e => by unfold ctLn at e; rw [e] at hfd; have := congrArg List.length hfd; rw [List.length_map, g.l] at this; cases this), (fun c hc => (hch c hc).2), by omega⟩, ?_⟩
 have hf : strings_Fields.f (strB (ctLn t)) = some ((t.map (hexP 8)).map strB) := by
  unfold strings_Fields.f
  rw [if_pos ⟨by rw [strB_size]; omega, by rw [strB_dl, List.all_eq_true]; exact fun c hc => decide_eq_true (hch c hc).1⟩, strB_dl, show Lib.fields (ctLn t) = _ from hfd]
  rfl
 unfold ctL
 rw [hf, Option.bind_some]
 have hF : ctF ((t.map (hexP 8)).map strB) = some (ctS t) := by
  unfold ctF
  rw [if_pos (by rw [List.length_map, List.length_map, g.l]), ct_hexs t g.small]
  rfl
 rw [hF]
 rfl
def ctNames : List ByteArray := [⟨#[69, 110, 116, 114, 105, 101, 115]⟩, ⟨#[83, 101, 97, 114, 99, 104, 101, 100]⟩, ⟨#[70, 111, 117, 110, 100]⟩, ⟨#[78, 101, 119]⟩, ⟨#[73, 110, 118, 97, 108, 105, 100]⟩, ⟨#[73, 103, 110, 111, 114, 101]⟩, ⟨#[68, 101, 108, 101, 116, 101]⟩, ⟨#[68, 101, 108, 101, 116, 101, 76, 105, 115, 116]⟩, ⟨#[73, 110, 115, 101, 114, 116]⟩, ⟨#[73, 110, 115, 101, 114, 116, 70, 97, 105, 108, 101, 100]⟩, ⟨#[68, 114, 111, 112]⟩, ⟨#[69, 97, 114, 108, 121, 68, 114, 111, 112]⟩, ⟨#[83, 101, 97, 114, 99, 104, 82, 101, 115, 116, 97, 114, 116]⟩]
def ctVals (t : CtT) : List Nat := t.take 12 ++ [t.getD 16 0]
def ctKid39 (p : ByteArray × Int) : S39 := ⟨p.1, 3, false, 0, p.2, 0, ⟨#[]⟩, []⟩
def ctKid43 (p : ByteArray × Int) : S43 := ⟨p.1, 3, false, 0, p.2, 0, ⟨#[]⟩, []⟩
def ctN39 (t : CtT) : S39 := ⟨⟨#[]⟩, 8, false, 0, 0, 0, ⟨#[]⟩, (ctNames.zip (intsOf (ctVals t))).map ctKid39⟩
def ctN43 (t : CtT) : S43 := ⟨⟨#[]⟩, 8, false, 0, 0, 0, ⟨#[]⟩, (ctNames.zip (intsOf (ctVals t))).map ctKid43⟩
def ctAll (ts : List CtT) : S43 := ⟨⟨#[]⟩, 6, false, 0, 0, 0, ⟨#[]⟩, ts.map ctN43⟩
theorem ct_conv (ts : List CtT) : convN 2 (ctAll ts) = ⟨⟨#[]⟩, 6, false, 0, 0, 0, ⟨#[]⟩, ts.map ctN39⟩ := by
 have h : ∀ t, convN 1 (ctN43 t) = ctN39 t := fun t => by
  simp only [ctN43, ctN39, convN, List.map_map]
  congr 1
 simp only [ctAll, convN, List.map_map]
 congr 1
 exact List.map_congr_left fun t _ => h t
theorem ct_fit (ts : List CtT) (hl : ts.length ≤ 1000000) : FitN 2 (ctAll ts) := by
 refine ⟨by simpa [ctAll] using hl, fun x hx => ?_⟩
 simp only [ctAll, List.mem_map] at hx
 obtain ⟨t, _, rfl⟩ := hx
 refine ⟨by simp only [ctN43, List.length_map, List.length_zip, ctNames, List.length_cons, List.length_nil]; omega, fun y hy => ?_⟩
 simp only [ctN43, List.mem_map] at hy
 obtain ⟨p, _, rfl⟩ := hy
 rfl
theorem ctVals_len (t : CtT) (h : t.length = 17) : (ctVals t).length = 13 := by simp [ctVals, h]
theorem ct_kids (x4 : List S39) (hx4 : x4.length ≤ 1000000) (rows : List S31) (n i : Int) (f0 : ByteArray) (t : CtT) (h17 : t.length = 17) (f2 : List ByteArray) (r : ByteArray × Int × Bool × Int × Int × Nat × ByteArray × (List (S39)) × Int) : ∀ (d j : Nat) (acc : List S39), j + d = 13 → acc.length ≤ j →
  Ev (fun k => spec_ConntrackTree.l0 k (x4 ++ [⟨⟨#[]⟩, 8, false, 0, 0, 0, ⟨#[]⟩, acc ++ ((ctNames.zip (intsOf (ctVals t))).drop j).map ctKid39⟩]) rows n (wrap64 (i + 1))) r →
  Ev (fun k => spec_ConntrackTree.l1 k x4 acc rows n i ctNames 13 (j : Int) f0 (intsOf t) f2) r
 | 0, j, acc, h, ha, hr => by
  rw [List.drop_eq_nil_of_le (by simp [ctNames, intsOf_len, ctVals_len t h17]; omega), List.map_nil, List.append_nil] at hr
  refine Ev.step (fun k => ?_) hr
  simp only [spec_ConntrackTree.l1]
  rw [if_neg (by omega)]
  simp only [spec_recordNode.f, Option.bind_some]
  rw [if_pos (by omega)]
 | d + 1, j, acc, h, ha, hr => by
  have hw1 : wrap64 ((j : Int) + 1) = ((j + 1 : Nat) : Int) := by unfold wrap64; omega
  have hv := ctVals_len t h17
  have hlz : j < (ctNames.zip (intsOf (ctVals t))).length := by simp [ctNames, intsOf_len, hv]; omega
  have hin : j < (ctVals t).length := by omega
  have his : j < ctNames.length := by simp [ctNames]; omega
  have hz : (ctNames.zip (intsOf (ctVals t)))[j] = (ctNames[j], ((ctVals t)[j] : Int)) := by
   rw [List.getElem_zip]
   simp [intsOf]
  have e : ∀ (x : S39) (z : List S39), acc ++ x :: z = (acc ++ [x]) ++ z := fun x z => by simp
  rw [List.drop_eq_getElem_cons hlz, List.map_cons, hz, e] at hr
  refine Ev.step (fun k => ?_) (ct_kids x4 hx4 rows n i f0 t h17 f2 r d (j + 1) _ (by omega) (by simp; omega) hr)
  have hrn : rdOf ByteArray.empty ctNames (j : Int) = ctNames[j] := by simp [rdOf, List.getD_eq_getElem?_getD, List.getElem?_eq_getElem his]
  simp only [spec_ConntrackTree.l1]
  rw [if_pos (by omega), if_pos (by omega), if_pos (by omega)]
  by_cases h12 : (j : Int) = 12
  ·have e16 : rd (intsOf t) 16 = ((ctVals t)[j] : Int) := by
    rw [show (16 : Int) = ((16 : Nat) : Int) from rfl, rd_ints t 16 (by omega)]
    have hj : j = 12 := by omega
    subst hj
    simp only [ctVals]
    rw [List.getElem_append_right (by simp [h17])]
    simp [h17, List.getD_eq_getElem?_getD]
   rw [if_pos h12, if_pos (by rw [intsOf_len]; omega), hrn, e16, hw1]
   simp only [spec_uintNode.f, Option.bind_some]
   rw [if_pos (by omega)]
   rfl
  ·have ej : rd (intsOf t) (j : Int) = ((ctVals t)[j] : Int) := by
    rw [rd_ints t j (by omega)]
    simp only [ctVals]
    rw [List.getElem_append_left (by simp [h17]; omega), List.getElem_take]
   rw [if_neg h12, if_pos (by rw [intsOf_len]; omega), hrn, ej, hw1]
   simp only [spec_uintNode.f, Option.bind_some]
   rw [if_pos (by omega)]
   rfl
theorem ct_tree (l : List S31) (hl : l.length ≤ 1000) (ts : List CtT) (hlen : ts.length = l.length) (hg : ∀ (j : Nat) (h1 : j < l.length) (h2 : j < ts.length), CtGood l[j] ts[j]) :
  Ev (fun k => spec_ConntrackTree.l0 k [] l (l.length : Int) 0) (⟨#[]⟩, 6, false, 0, 0, 0, ⟨#[]⟩, ts.map ctN39, 1) := by
 have h := gen_list (fun acc i k => spec_ConntrackTree.l0 k acc l (l.length : Int) (i : Int)) l.length (fun i => ctN39 (ts.getD i [])) (fun acc => ((⟨#[]⟩ : ByteArray), (6 : Int), false, (0 : Int), (0 : Int), (0 : Nat), (⟨#[]⟩ : ByteArray), acc, (1 : Int))) ?_ ?_ l.length 0 [] (by omega) (by simp)
 ·rw [← hlen, range_map ts ctN39 _ (fun i hi => by simp [List.getD_eq_getElem?_getD, List.getElem?_eq_getElem hi]), List.nil_append, hlen] at h
  exact h
 ·intro acc ha
  refine Ev.step (f := fun _ => some ((⟨#[]⟩ : ByteArray), (6 : Int), false, (0 : Int), (0 : Int), (0 : Nat), (⟨#[]⟩ : ByteArray), acc, (1 : Int))) (fun k => ?_) (Ev.now _)
  simp only [spec_ConntrackTree.l0]
  rw [if_neg (by omega)]
  rfl
 ·intro i hi acc ha r hr
  have hit : i < ts.length := by omega
  have g := hg i hi hit
  have hrd := grd31 l i hi
  have hw : wrap64 ((i : Int) + 1) = ((i + 1 : Nat) : Int) := by unfold wrap64; omega
  have egd : ts.getD i [] = ts[i] := by simp [List.getD_eq_getElem?_getD, List.getElem?_eq_getElem hit]
  rw [egd] at hr
  have hk := ct_kids acc (by omega) l (l.length : Int) (i : Int) l[i].f0 ts[i] g.l l[i].f2 r 13 0 [] (by omega) (by simp) (by rw [hw]; exact hr)
  refine Ev.step (fun k => ?_) hk
  simp only [spec_ConntrackTree.l0]
  rw [if_pos (by omega), if_pos (by omega), if_pos (by omega), hrd, g.n]
  rfl
theorem ct_node (ts : List CtT) (hl : ts.length ≤ 1000000) (hg : ∀ t ∈ ts, ∃ r, CtGood r t) : Ev (fun k => nodeConntrack k (ts.map ctS)) (ctAll ts) := by
 have h := gen_list (fun acc i k => procfs_ConntrackStatEntry.l0 k (ts.map ctS) (ts.length : Int) (i : Int) ⟨#[]⟩ 6 false 0 0 0 ⟨#[]⟩ acc) ts.length (fun i => ctN43 (ts.getD i [])) (fun acc => ((⟨#[]⟩ : ByteArray), (6 : Int), false, (0 : Int), (0 : Int), (0 : Nat), (⟨#[]⟩ : ByteArray), acc)) ?_ ?_ ts.length 0 [] (by omega) (by simp)
 ·rw [range_map ts ctN43 _ (fun i hi => by simp [List.getD_eq_getElem?_getD, List.getElem?_eq_getElem hi]), List.nil_append] at h
  have h1 : Ev (fun k => procfs_ConntrackStatEntry.f k ⟨#[]⟩ (ts.map ctS)) (⟨#[]⟩, 6, false, 0, 0, 0, ⟨#[]⟩, ts.map ctN43) := Ev.congr (fun k => by unfold procfs_ConntrackStatEntry.f; rw [List.length_map]; rfl) h
  have h2 : Ev (fun k => impl_Conntrack_1.f k (ts.map ctS)) (⟨#[]⟩, 6, false, 0, 0, 0, ⟨#[]⟩, ts.map ctN43) :=
   evB (F := fun _ bt326 => some (bt326.1, bt326.2.1, bt326.2.2.1, bt326.2.2.2.1, bt326.2.2.2.2.1, bt326.2.2.2.2.2.1, bt326.2.2.2.2.2.2.1, bt326.2.2.2.2.2.2.2)) (a := (⟨#[]⟩, 6, false, 0, 0, 0, ⟨#[]⟩, ts.map ctN43)) h1 (Ev.now _)
  obtain ⟨K, hK⟩ := h2
  exact ⟨K, fun k hk => by
   have h3 := hK k hk
   simp only at h3
   show Option.map _ (impl_Conntrack_1.f k (ts.map ctS)) = _
   rw [h3]
   rfl⟩
 ·intro acc ha
  refine Ev.step (f := fun _ => some ((⟨#[]⟩ : ByteArray), (6 : Int), false, (0 : Int), (0 : Int), (0 : Nat), (⟨#[]⟩ : ByteArray), acc)) (fun k => ?_) (Ev.now _)
  simp only [procfs_ConntrackStatEntry.l0]
  rw [if_neg (by omega)]
 ·intro i hi acc ha r hr
  have hw : wrap64 ((i : Int) + 1) = ((i + 1 : Nat) : Int) := by unfold wrap64; omega
  have egd : rd_T109 (ts.map ctS) (i : Int) = ctS ts[i] := by simp [rd_T109, List.getD_eq_getElem?_getD, hi]
  have egd2 : ts.getD i [] = ts[i] := by simp [List.getD_eq_getElem?_getD, List.getElem?_eq_getElem hi]
  obtain ⟨R, g⟩ := hg ts[i] (List.getElem_mem _)
  rw [egd2] at hr
  refine Ev.step (fun k => ?_) hr
  simp only [procfs_ConntrackStatEntry.l0]
  rw [if_pos (by omega), if_pos (by omega), if_pos (by simp; omega), egd, hw]
  generalize ts[i] = t at g
  obtain ⟨n0, n1, n2, n3, n4, n5, n6, n7, n8, n9, n10, n11, n12, n13, n14, n15, n16, rfl⟩ := sev g.l
  have key : impl_Conntrack_1_1.f n0 n1 n2 n3 n4 n5 n6 n7 n8 n9 n10 n11 n16 = some (⟨#[]⟩, 8, false, 0, 0, 0, ⟨#[]⟩, (ctN43 [n0, n1, n2, n3, n4, n5, n6, n7, n8, n9, n10, n11, n12, n13, n14, n15, n16]).f7) := by
   simp only [impl_Conntrack_1_1.f, impl_procfsConntrackStatEntry.f, Option.bind_some, List.nil_append, List.cons_append, List.length_cons, List.length_nil]
   repeat rw [if_pos (by decide)]
   rfl
  show (impl_Conntrack_1_1.f n0 n1 n2 n3 n4 n5 n6 n7 n8 n9 n10 n11 n16).bind _ = _
  rw [key]
  simp only [Option.bind_some]
  rw [if_pos (by omega)]
  rfl
def ctHead : List UInt8 := [101, 110, 116, 114, 105, 101, 115, 32, 32, 115, 101, 97, 114, 99, 104, 101, 100, 32, 102, 111, 117, 110, 100, 32, 110, 101, 119, 32, 105, 110, 118, 97, 108, 105, 100, 32, 105, 103, 110, 111, 114, 101, 32, 100, 101, 108, 101, 116, 101, 32, 100, 101, 108, 101, 116, 101, 95, 108, 105, 115, 116, 32, 105, 110, 115, 101, 114, 116, 32, 105, 110, 115, 101, 114, 116, 95, 102, 97, 105, 108, 101, 100, 32, 100, 114, 111, 112, 32, 101, 97, 114, 108, 121, 95, 100, 114, 111, 112, 32, 105, 99, 109, 112, 95, 101, 114, 114, 111, 114, 32, 32, 101, 120, 112, 101, 99, 116, 95, 110, 101, 119, 32, 101, 120, 112, 101, 99, 116, 95, 99, 114, 101, 97, 116, 101, 32, 101, 120, 112, 101, 99, 116, 95, 100, 101, 108, 101, 116, 101, 32, 115, 101, 97, 114, 99, 104, 95, 114, 101, 115, 116, 97, 114, 116]
theorem plainConntrack (l : List S31) (hl : l.length ≤ maxLen) (hr : ∀ r ∈ l, OP.RowOk r) : ∃ k b, laws_zzFits5.f k l = some b ∧ (b = true → BackOk (fun k => spec_ConntrackPrint.f k l) (fun k => spec_ConntrackTree.f k l) (fun s n => doorConntrack s n) l) := by
 obtain ⟨k, b, hz, hfit⟩ := zz5fF l
 refine ⟨k, b, hz, fun e => ?_⟩
 obtain ⟨_, hf⟩ := hfit e
 by_cases h1000 : 1000 < l.length
 ·exact .long h1000
 have hh : ctHead.length = 164 := by decide +kernel
 obtain ⟨bf, hbf, hgood⟩ := ct_fine l (by omega) (fun r h => ⟨hf r h, hr r h⟩) l.length 0 (by omega)
 cases bf with
 | false => exact gen_no (by omega) (evB (F := fun k t570 => if t570 = true then _ else _) hbf (evN (by decide) (Ev.now _)))
 | true =>
 rcases gen_print (fun acc i k => spec_ConntrackPrint.l0 k (strB acc) l (l.length : Int) (i : Int)) l.length 1000 3000000000 (by omega) (fun t => ctLn t ++ [10]) (fun i t => ∃ h : i < l.length, CtGood l[i] t)
  (fun acc => Ev.step (f := fun _ => some (strB acc, (1 : Int))) (fun k => by simp only [spec_ConntrackPrint.l0]; rw [if_neg (by omega)]) (Ev.now _))
  (fun i hi acc hacc => by
   obtain ⟨t, g⟩ := hgood rfl i hi (by omega)
   exact .inr ⟨t, ⟨hi, g⟩, ct_len t g.l g.small, fun r h => ct_one l (by omega) i hi acc hacc t g r h⟩) l.length 0 (ctHead ++ [10]) (by omega) (by simp [hh]) with hp0 | ⟨ts, hlen, hg, hp0⟩
 ·exact gen_no (by omega) (evB (F := fun k t570 => if t570 = true then _ else _) hbf (evP rfl hp0))
 have hp : Ev (fun k => spec_ConntrackPrint.f k l) (strB (ctHead ++ [10] ++ ts.flatMap fun t => ctLn t ++ [10]), 1) := evB (F := fun k t570 => if t570 = true then _ else _) hbf (evP rfl hp0)
 have hg' : ∀ (j : Nat) (h1 : j < l.length) (h2 : j < ts.length), CtGood l[j] ts[j] := fun j h1 h2 => by
  obtain ⟨h, hc⟩ := hg j h2
  simp only [Nat.zero_add] at hc
  exact hc
 have hgt : ∀ t ∈ ts, ∃ r, CtGood r t := fun t ht => by
  obtain ⟨j, hj, rfl⟩ := List.getElem_of_mem ht
  exact ⟨_, hg' j (by omega) hj⟩
 refine gen_end (by omega) _ hp 2 (ctAll ts) (fun _ => ct_fit ts (by omega)) (fun _ => ?_) (fun hsz => ?_)
 ·rw [ct_conv]
  exact evB (F := fun k t598 => if t598 = true then _ else _) hbf (evP rfl (ct_tree l (by omega) ts hlen hg'))
 ·have hn := ct_node ts (by omega) hgt
  have e : ctHead ++ [10] ++ (ts.flatMap fun t => ctLn t ++ [10]) = ctHead ++ 10 :: ts.flatMap fun t => ctLn t ++ [10] := by simp
  rw [e] at hsz ⊢
  have hlt : (ts.flatMap fun t => ctLn t ++ [10]).length ≤ 40000 := by simp only [List.length_append, List.length_cons] at hsz; omega
  have hrows : rowsF ctL (ts.length + 1) (strB (ts.flatMap fun t => ctLn t ++ [10])) = some (ts.map ctS) := by
   refine rows_text ctL ctLn ctS ts (ts.length + 1) (by omega) (fun t ht => ?_) (by omega)
   obtain ⟨r, g⟩ := hgt t ht
   have hfl := flat_len (fun t => ctLn t ++ [10]) ts t ht
   simp only [List.length_append, List.length_cons, List.length_nil] at hfl
   exact ct_line r t g (by omega)
  have hhd : headF (strB (ctHead ++ 10 :: ts.flatMap fun t => ctLn t ++ [10])) = some (strB (ts.flatMap fun t => ctLn t ++ [10])) := head_line ctHead _ ⟨(by unfold ctHead; exact List.cons_ne_nil _ _), (by decide +kernel), (by rw [hh]; omega)⟩ (by omega)
  have htxt : ∀ k, ts.length + 1 ≤ k → ctTextF k (strB (ctHead ++ 10 :: ts.flatMap fun t => ctLn t ++ [10])) = some (ts.map ctS, none) := fun k hk => by
   unfold ctTextF
   rw [read_text _ (by omega)]
   simp only [Option.bind_some, if_true]
   rw [nums_text, hhd, Option.bind_some, rowsF_more hk hrows]
   rfl
  obtain ⟨K, hK⟩ := hn
  exact ⟨K + (ts.length + 1), ts.map ctS, htxt _ (by omega), hK _ (by omega)⟩
end Go.Proofs.YtednjmngalmdkaaGreatDoor.GPC
end
