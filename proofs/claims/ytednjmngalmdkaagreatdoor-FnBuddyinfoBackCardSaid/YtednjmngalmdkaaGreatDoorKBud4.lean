/- Texts of this claim, put together: GPDx4, GivenLines, GivenScan, GPDx5. Conditions: as each one says. -/
import Derived.Test.YtednjmngalmdkaaGreatDoorKBud0
import Derived.Test.YtednjmngalmdkaaGreatDoorKBud1
import Derived.Test.YtednjmngalmdkaaGreatDoorKBud2
import Derived.Test.YtednjmngalmdkaaGreatDoorKBud3
import Derived.Laws.FloatArith
import Derived.Laws.Cover2
import Derived.Deep.RegionHeld3
import Derived.Test.YtednjmngalmdkaaGreatDoorProg
section
namespace Go.Proofs.YtednjmngalmdkaaGreatDoor.GPC
open Go.RowKit Go.Proofs.YtednjmngalmdkaaGreatDoorW.PrintWords Go.Proofs.YtednjmngalmdkaaGreatDoorW.PrintLast Go.Proofs.YtednjmngalmdkaaGreatDoorW.PrintMore
attribute [local go_sem] max2_int min2_int max_two min_two max_three min_three max_four min_four   -- for this text's walks alone
set_option linter.unusedVariables false
set_option linter.unusedSimpArgs false

attribute [local go_sem] run_store_float
/-! ### spec_textNode: function 65 -/
def spec_textNode.f (a0 : ByteArray) (a1 : ByteArray) : Option (ByteArray × Int × Bool × Int × Int × Nat × ByteArray × (List (S39))) := some (a0, 5, false, 0, 0, 0, a1, ([] : List (S39)))
set_option maxHeartbeats 8000000 in
set_option maxRecDepth 100000 in
theorem spec_textNode.calls (a0 : ByteArray) (a1 : ByteArray) (r1 : ByteArray) (r2 : Int) (r3 : Bool) (r4 : Int) (r5 : Int) (r6 : Nat) (r7 : ByteArray) (r8 : List (S39)) (w : World) (h : spec_textNode.f a0 a1 = some (r1, r2, r3, r4, r5, r6, r7, r8)) :
  Calls Tryz.prog 65 #[.string a0, .string a1] w fun e w' => ∃ v7_ : Value, e = .returned (.agg #[.string r1, .int .i64 r2, .bool r3, .int .i64 r4, .int .u64 r5, .float .f64 r6, .string r7, v7_]) ∧ Kd.R k39 39 w' w.heap.size (fun _ => True) v7_ r8 ∧ Below w.heap.size w w' := by
 have hu39 := Tryz.underlying39
 have HB := Aside0.mk (Below.refl w.heap.size w)
 have H : (some (a0, 5, false, 0, 0, 0, a1, ([] : List (S39)))) = some (r1, r2, r3, r4, r5, r6, r7, r8) := h
 clear h
 simp only [Option.some.injEq, Prod.mk.injEq] at H
 obtain ⟨rfl, rfl, rfl, rfl, rfl, rfl, rfl, rfl⟩ := H
 go_enter Tryz.func65, Tryz.ntmps65
 go_wp2_with (first | ((with_reducible refine gate_dst (N := 4) rfl ?_); refine box_event ?hg (N := 4) ?hd (cs := #[.string (⟨#[]⟩ : ByteArray), .int .i64 0, .bool false, .int .i64 0, .int .u64 0, .float .f64 0, .string (⟨#[]⟩ : ByteArray), .slice none 0 0]) (t := 39) ?hr ?_; (case hd => rfl); (case hg => rfl); (case hr => first | (go_simp; done) | (go_simp; rfl)); intro gb129 hg w3 hbox hb; have n0_ := Aside0.mk (below_step (by repeat (first | (with_reducible first | exact HB.out | apply below_alloc | apply pw_below_drewN | apply below_drew1) | exact HB.out)) hb); have n1_ := Aside0.mk (hbox); have n2_ := Aside0.mk ((by rw [hg]; exact (below_size (by repeat (first | (with_reducible first | exact HB.out | apply below_alloc | apply pw_below_drewN | apply below_drew1) | exact HB.out))) : w.heap.size ≤ gb129)); have n3_ := Aside0.mk ((by rw [hg]; exact (below_size (by repeat (first | (with_reducible first | exact HB.out | apply below_alloc | apply pw_below_drewN | apply below_drew1) | exact HB.out))) : w.heap.size ≤ gb129)); clear HB; have HB := n0_; have BK129 := n1_; have GW129 := n2_; have GE129 := n3_; clear n0_ n1_ n2_ n3_; clear hb hbox hg; have hcz4_0 : w3.cell? ⟨gb129, 0, none⟩ = some (.string (⟨#[]⟩ : ByteArray)) := (blk_cell BK129.out 0).trans rfl; have hcz4_1 : w3.cell? ⟨gb129, 1, none⟩ = some (.int .i64 0) := (blk_cell BK129.out 1).trans rfl; have hcz4_2 : w3.cell? ⟨gb129, 2, none⟩ = some (.bool false) := (blk_cell BK129.out 2).trans rfl; have hcz4_3 : w3.cell? ⟨gb129, 3, none⟩ = some (.int .i64 0) := (blk_cell BK129.out 3).trans rfl; have hcz4_4 : w3.cell? ⟨gb129, 4, none⟩ = some (.int .u64 0) := (blk_cell BK129.out 4).trans rfl; have hcz4_5 : w3.cell? ⟨gb129, 5, none⟩ = some (.float .f64 0) := (blk_cell BK129.out 5).trans rfl; have hcz4_6 : w3.cell? ⟨gb129, 6, none⟩ = some (.string (⟨#[]⟩ : ByteArray)) := (blk_cell BK129.out 6).trans rfl; have hcz4_7 : w3.cell? ⟨gb129, 7, none⟩ = some (.slice none 0 0) := (blk_cell BK129.out 7).trans rfl; have hfz4_0 := blk_frozen BK129.out 0; have hfz4_1 := blk_frozen BK129.out 1; have hfz4_2 := blk_frozen BK129.out 2; have hfz4_3 := blk_frozen BK129.out 3; have hfz4_4 := blk_frozen BK129.out 4; have hfz4_5 := blk_frozen BK129.out 5; have hfz4_6 := blk_frozen BK129.out 6; have hfz4_7 := blk_frozen BK129.out 7))
 refine bodyPost_ret (results_cell_row rfl _ _ gb129 39 #[.string a0, .int .i64 5, .bool false, .int .i64 0, .int .u64 0, .float .f64 0, .string a1, .slice none 0 0] (0, 0) _ rfl (by (with_reducible repeat (first | refine blk_drewN ?_ _ | refine blk_drew ?_ | refine blk_alloc ?_ _)); refine blk_put (cs := #[.string a0, .int .i64 5, .bool false, .int .i64 0, .int .u64 0, .float .f64 0, .string a1, .slice none 0 0]) ?_ 7 _ rfl; (with_reducible repeat (first | refine blk_drewN ?_ _ | refine blk_drew ?_ | refine blk_alloc ?_ _)); refine blk_put (cs := #[.string a0, .int .i64 5, .bool false, .int .i64 0, .int .u64 0, .float .f64 0, .string (⟨#[]⟩ : ByteArray), .slice none 0 0]) ?_ 6 _ rfl; (with_reducible repeat (first | refine blk_drewN ?_ _ | refine blk_drew ?_ | refine blk_alloc ?_ _)); refine blk_put (cs := #[.string a0, .int .i64 5, .bool false, .int .i64 0, .int .u64 0, .float .f64 0, .string (⟨#[]⟩ : ByteArray), .slice none 0 0]) ?_ 5 _ rfl; (with_reducible repeat (first | refine blk_drewN ?_ _ | refine blk_drew ?_ | refine blk_alloc ?_ _)); refine blk_put (cs := #[.string a0, .int .i64 5, .bool false, .int .i64 0, .int .u64 0, .float .f64 0, .string (⟨#[]⟩ : ByteArray), .slice none 0 0]) ?_ 4 _ rfl; (with_reducible repeat (first | refine blk_drewN ?_ _ | refine blk_drew ?_ | refine blk_alloc ?_ _)); refine blk_put (cs := #[.string a0, .int .i64 5, .bool false, .int .i64 0, .int .u64 0, .float .f64 0, .string (⟨#[]⟩ : ByteArray), .slice none 0 0]) ?_ 3 _ rfl; (with_reducible repeat (first | refine blk_drewN ?_ _ | refine blk_drew ?_ | refine blk_alloc ?_ _)); refine blk_put (cs := #[.string a0, .int .i64 5, .bool false, .int .i64 0, .int .u64 0, .float .f64 0, .string (⟨#[]⟩ : ByteArray), .slice none 0 0]) ?_ 2 _ rfl; (with_reducible repeat (first | refine blk_drewN ?_ _ | refine blk_drew ?_ | refine blk_alloc ?_ _)); refine blk_put (cs := #[.string a0, .int .i64 0, .bool false, .int .i64 0, .int .u64 0, .float .f64 0, .string (⟨#[]⟩ : ByteArray), .slice none 0 0]) ?_ 1 _ rfl; (with_reducible repeat (first | refine blk_drewN ?_ _ | refine blk_drew ?_ | refine blk_alloc ?_ _)); refine blk_put (cs := #[.string (⟨#[]⟩ : ByteArray), .int .i64 0, .bool false, .int .i64 0, .int .u64 0, .float .f64 0, .string (⟨#[]⟩ : ByteArray), .slice none 0 0]) ?_ 0 _ rfl; (with_reducible repeat (first | refine blk_drewN ?_ _ | refine blk_drew ?_ | refine blk_alloc ?_ _)); exact BK129.out) Tryz.underlying39 rfl (by kernel_rfl)) rfl ?_
 exact ⟨_, by first | rfl | (simp [errW_none, errW_some] <;> rfl) | (simp [*, errW_none, errW_some] <;> rfl), by first | exact Kd.R_nil _ _ _ _ _ | exact Kd.N_nil _ _ _ _ _ | exact Kd.V_nil _ _ _ _ _ | exact Kd.Q_nil _ _ _ _ _ | exact Kd.S_nil _ _ _ _ _, by repeat (first | (with_reducible first | exact HB.out | apply below_alloc | apply pw_below_drewN | apply below_drew1 | refine below_set ?_ GE129.out) | exact HB.out)⟩
/-! ### spec_listNode: function 66 -/
def spec_listNode.f (a0 : ByteArray) (l1 : List (S39)) : Option (ByteArray × Int × Bool × Int × Int × Nat × ByteArray × (List (S39))) := some (a0, 6, false, 0, 0, 0, (⟨#[]⟩ : ByteArray), l1)
set_option maxHeartbeats 8000000 in
set_option maxRecDepth 100000 in
theorem spec_listNode.calls (a0 : ByteArray) (P1_ : Nat → Prop) (A1 : Option Addr) (c1 : Nat) (l1 : List (S39)) (r1 : ByteArray) (r2 : Int) (r3 : Bool) (r4 : Int) (r5 : Int) (r6 : Nat) (r7 : ByteArray) (r8 : List (S39)) (w : World) (hs1 : Kd.V k39 39 w w.heap.size (fun k_ => P1_ k_) (.slice A1 l1.length c1) l1) (h : spec_listNode.f a0 l1 = some (r1, r2, r3, r4, r5, r6, r7, r8)) :
  Calls Tryz.prog 66 #[.string a0, .slice A1 l1.length c1] w fun e w' => ∃ v7_ : Value, e = .returned (.agg #[.string r1, .int .i64 r2, .bool r3, .int .i64 r4, .int .u64 r5, .float .f64 r6, .string r7, v7_]) ∧ Kd.V k39 39 w' w.heap.size (fun k_ => (P1_ k_ ∨ w.heap.size ≤ k_)) v7_ r8 ∧ Below w.heap.size w w' := by
 have hu39 := Tryz.underlying39
 have HO1 := Aside0.mk (show Kd.V k39 39 w w.heap.size (fun k_ => (P1_ k_ ∨ w.heap.size ≤ k_)) (.slice A1 l1.length c1) l1 from Kd.V_mono hs1 (fun k_ hk => .inl hk))
 have HB := Aside0.mk (Below.refl w.heap.size w)
 have H : (some (a0, 6, false, 0, 0, 0, (⟨#[]⟩ : ByteArray), l1)) = some (r1, r2, r3, r4, r5, r6, r7, r8) := h
 clear h
 simp only [Option.some.injEq, Prod.mk.injEq] at H
 obtain ⟨rfl, rfl, rfl, rfl, rfl, rfl, rfl, rfl⟩ := H
 go_enter Tryz.func66, Tryz.ntmps66
 go_wp2_with (first | ((with_reducible refine gate_dst (N := 4) rfl ?_); refine box_event ?hg (N := 4) ?hd (cs := #[.string (⟨#[]⟩ : ByteArray), .int .i64 0, .bool false, .int .i64 0, .int .u64 0, .float .f64 0, .string (⟨#[]⟩ : ByteArray), .slice none 0 0]) (t := 39) ?hr ?_; (case hd => rfl); (case hg => rfl); (case hr => first | (go_simp; done) | (go_simp; rfl)); intro gb130 hg w3 hbox hb; have n0_ := Aside0.mk (Kd.V_below (Kd.V_elderB (by (with_reducible repeat (first | apply Kd.V_alloc | apply Kd.V_drewN | apply Kd.V_drew)); exact HO1.out) gb130 (Nat.le_of_eq hg.symm)) hb); have n1_ := Aside0.mk (below_step (by repeat (first | (with_reducible first | exact HB.out | apply below_alloc | apply pw_below_drewN | apply below_drew1) | exact HB.out)) hb); have n2_ := Aside0.mk (hbox); have n3_ := Aside0.mk ((by rw [hg]; exact (below_size (by repeat (first | (with_reducible first | exact HB.out | apply below_alloc | apply pw_below_drewN | apply below_drew1) | exact HB.out))) : w.heap.size ≤ gb130)); have n4_ := Aside0.mk ((by rw [hg]; exact (below_size (by repeat (first | (with_reducible first | exact HB.out | apply below_alloc | apply pw_below_drewN | apply below_drew1) | exact HB.out))) : w.heap.size ≤ gb130)); clear HO1; clear HB; have HO1 := n0_; have HB := n1_; have BK130 := n2_; have GW130 := n3_; have GE130 := n4_; clear n0_ n1_ n2_ n3_ n4_; clear hb hbox hg; have hcz4_0 : w3.cell? ⟨gb130, 0, none⟩ = some (.string (⟨#[]⟩ : ByteArray)) := (blk_cell BK130.out 0).trans rfl; have hcz4_1 : w3.cell? ⟨gb130, 1, none⟩ = some (.int .i64 0) := (blk_cell BK130.out 1).trans rfl; have hcz4_2 : w3.cell? ⟨gb130, 2, none⟩ = some (.bool false) := (blk_cell BK130.out 2).trans rfl; have hcz4_3 : w3.cell? ⟨gb130, 3, none⟩ = some (.int .i64 0) := (blk_cell BK130.out 3).trans rfl; have hcz4_4 : w3.cell? ⟨gb130, 4, none⟩ = some (.int .u64 0) := (blk_cell BK130.out 4).trans rfl; have hcz4_5 : w3.cell? ⟨gb130, 5, none⟩ = some (.float .f64 0) := (blk_cell BK130.out 5).trans rfl; have hcz4_6 : w3.cell? ⟨gb130, 6, none⟩ = some (.string (⟨#[]⟩ : ByteArray)) := (blk_cell BK130.out 6).trans rfl; have hcz4_7 : w3.cell? ⟨gb130, 7, none⟩ = some (.slice none 0 0) := (blk_cell BK130.out 7).trans rfl; have hfz4_0 := blk_frozen BK130.out 0; have hfz4_1 := blk_frozen BK130.out 1; have hfz4_2 := blk_frozen BK130.out 2; have hfz4_3 := blk_frozen BK130.out 3; have hfz4_4 := blk_frozen BK130.out 4; have hfz4_5 := blk_frozen BK130.out 5; have hfz4_6 := blk_frozen BK130.out 6; have hfz4_7 := blk_frozen BK130.out 7))
 refine bodyPost_ret (results_cell_row rfl _ _ gb130 39 #[.string a0, .int .i64 6, .bool false, .int .i64 0, .int .u64 0, .float .f64 0, .string (⟨#[]⟩ : ByteArray), .slice A1 l1.length c1] (0, 0) _ rfl (by (with_reducible repeat (first | refine blk_drewN ?_ _ | refine blk_drew ?_ | refine blk_alloc ?_ _)); refine blk_put (cs := #[.string a0, .int .i64 6, .bool false, .int .i64 0, .int .u64 0, .float .f64 0, .string (⟨#[]⟩ : ByteArray), .slice none 0 0]) ?_ 7 _ rfl; (with_reducible repeat (first | refine blk_drewN ?_ _ | refine blk_drew ?_ | refine blk_alloc ?_ _)); refine blk_put (cs := #[.string a0, .int .i64 6, .bool false, .int .i64 0, .int .u64 0, .float .f64 0, .string (⟨#[]⟩ : ByteArray), .slice none 0 0]) ?_ 6 _ rfl; (with_reducible repeat (first | refine blk_drewN ?_ _ | refine blk_drew ?_ | refine blk_alloc ?_ _)); refine blk_put (cs := #[.string a0, .int .i64 6, .bool false, .int .i64 0, .int .u64 0, .float .f64 0, .string (⟨#[]⟩ : ByteArray), .slice none 0 0]) ?_ 5 _ rfl; (with_reducible repeat (first | refine blk_drewN ?_ _ | refine blk_drew ?_ | refine blk_alloc ?_ _)); refine blk_put (cs := #[.string a0, .int .i64 6, .bool false, .int .i64 0, .int .u64 0, .float .f64 0, .string (⟨#[]⟩ : ByteArray), .slice none 0 0]) ?_ 4 _ rfl; (with_reducible repeat (first | refine blk_drewN ?_ _ | refine blk_drew ?_ | refine blk_alloc ?_ _)); refine blk_put (cs := #[.string a0, .int .i64 6, .bool false, .int .i64 0, .int .u64 0, .float .f64 0, .string (⟨#[]⟩ : ByteArray), .slice none 0 0]) ?_ 3 _ rfl; (with_reducible repeat (first | refine blk_drewN ?_ _ | refine blk_drew ?_ | refine blk_alloc ?_ _)); refine blk_put (cs := #[.string a0, .int .i64 6, .bool false, .int .i64 0, .int .u64 0, .float .f64 0, .string (⟨#[]⟩ : ByteArray), .slice none 0 0]) ?_ 2 _ rfl; (with_reducible repeat (first | refine blk_drewN ?_ _ | refine blk_drew ?_ | refine blk_alloc ?_ _)); refine blk_put (cs := #[.string a0, .int .i64 0, .bool false, .int .i64 0, .int .u64 0, .float .f64 0, .string (⟨#[]⟩ : ByteArray), .slice none 0 0]) ?_ 1 _ rfl; (with_reducible repeat (first | refine blk_drewN ?_ _ | refine blk_drew ?_ | refine blk_alloc ?_ _)); refine blk_put (cs := #[.string (⟨#[]⟩ : ByteArray), .int .i64 0, .bool false, .int .i64 0, .int .u64 0, .float .f64 0, .string (⟨#[]⟩ : ByteArray), .slice none 0 0]) ?_ 0 _ rfl; (with_reducible repeat (first | refine blk_drewN ?_ _ | refine blk_drew ?_ | refine blk_alloc ?_ _)); exact BK130.out) Tryz.underlying39 rfl (by kernel_rfl)) rfl ?_
 exact ⟨_, by first | rfl | (simp [errW_none, errW_some] <;> rfl) | (simp [*, errW_none, errW_some] <;> rfl), by (with_reducible repeat (first | apply Kd.V_alloc | apply Kd.V_drewN | apply Kd.V_drew)); exact Kd.V_mono (Kd.V_far (p := ⟨gb130, 7, none⟩) (Kd.V_far (p := ⟨gb130, 6, none⟩) (Kd.V_far (p := ⟨gb130, 5, none⟩) (Kd.V_far (p := ⟨gb130, 4, none⟩) (Kd.V_far (p := ⟨gb130, 3, none⟩) (Kd.V_far (p := ⟨gb130, 2, none⟩) (Kd.V_far (p := ⟨gb130, 1, none⟩) (Kd.V_far (p := ⟨gb130, 0, none⟩) (Kd.V_mono HO1.out (fun k_ hk => (⟨hk, hk.2⟩ : _ ∧ k_ ≠ gb130))) (fun _ hk => hk.2) (.string a0)) (fun _ hk => hk.2) (.int .i64 6)) (fun _ hk => hk.2) (.bool false)) (fun _ hk => hk.2) (.int .i64 0)) (fun _ hk => hk.2) (.int .u64 0)) (fun _ hk => hk.2) (.float .f64 0)) (fun _ hk => hk.2) (.string (⟨#[]⟩ : ByteArray))) (fun _ hk => hk.2) (.slice A1 l1.length c1)) (fun _ hk => hk.1.1), by repeat (first | (with_reducible first | exact HB.out | apply below_alloc | apply pw_below_drewN | apply below_drew1 | refine below_set ?_ GE130.out) | exact HB.out)⟩
/-! ### spec_BuddyinfoTree: function 19 -/
mutual
def spec_BuddyinfoTree.l0 : Nat → List (S39) → List (S31) → Int → Int → Option (ByteArray × Int × Bool × Int × Int × Nat × ByteArray × (List (S39)) × Int)
 | 0, _, _, _, _ => none
 | k + 1, x6, x20, x21, x22 => if x22 < x21 then (if 0 ≤ x22 then (if x22 < (x20.length : Int) then (spec_BuddyinfoTree.l1 k x6 ([] : List (S39)) x20 x21 x22 ((rd_T31 x20 x22).f1) (((rd_T31 x20 x22).f1).length : Int) 0 ((rd_T31 x20 x22).f0) ((rd_T31 x20 x22).f1) ((rd_T31 x20 x22).f2)) else (none)) else (none)) else ((spec_listNode.f (⟨#[]⟩ : ByteArray) x6).bind fun bt134 => (some (bt134.1, bt134.2.1, bt134.2.2.1, bt134.2.2.2.1, bt134.2.2.2.2.1, bt134.2.2.2.2.2.1, bt134.2.2.2.2.2.2.1, bt134.2.2.2.2.2.2.2, 1)))
def spec_BuddyinfoTree.l1 : Nat → List (S39) → List (S39) → List (S31) → Int → Int → List Int → Int → Int → ByteArray → List Int → List ByteArray → Option (ByteArray × Int × Bool × Int × Int × Nat × ByteArray × (List (S39)) × Int)
 | 0, _, _, _, _, _, _, _, _, _, _, _ => none
 | k + 1, x6, x9, x20, x21, x22, x27, x28, x29, x146000, x146001, x146002 => if x29 < x28 then (if 0 ≤ x29 then (if x29 < (x27.length : Int) then ((spec_floatNode.f (⟨#[]⟩ : ByteArray) (floatOfInt .f64 (rd x27 x29))).bind fun bt147 => (if x9.length < 1466015503701 then (spec_BuddyinfoTree.l1 k x6 (x9 ++ [(⟨bt147.1, bt147.2.1, bt147.2.2.1, bt147.2.2.2.1, bt147.2.2.2.2.1, bt147.2.2.2.2.2.1, bt147.2.2.2.2.2.2.1, bt147.2.2.2.2.2.2.2⟩ : S39)]) x20 x21 x22 x27 x28 (wrap64 (x29 + 1)) x146000 x146001 x146002) else (none))) else (none)) else (none)) else (if 0 < (x146002.length : Int) then ((spec_textNode.f (⟨#[78, 111, 100, 101]⟩ : ByteArray) (rdOf ByteArray.empty x146002 0)).bind fun bt161 => (if 1 < (x146002.length : Int) then ((spec_textNode.f (⟨#[90, 111, 110, 101]⟩ : ByteArray) (rdOf ByteArray.empty x146002 1)).bind fun bt172 => ((spec_listNode.f (⟨#[83, 105, 122, 101, 115]⟩ : ByteArray) x9).bind fun bt182 => ((spec_recordNode.f (⟨#[]⟩ : ByteArray) (([(⟨bt161.1, bt161.2.1, bt161.2.2.1, bt161.2.2.2.1, bt161.2.2.2.2.1, bt161.2.2.2.2.2.1, bt161.2.2.2.2.2.2.1, bt161.2.2.2.2.2.2.2⟩ : S39), (⟨bt172.1, bt172.2.1, bt172.2.2.1, bt172.2.2.2.1, bt172.2.2.2.2.1, bt172.2.2.2.2.2.1, bt172.2.2.2.2.2.2.1, bt172.2.2.2.2.2.2.2⟩ : S39), (⟨bt182.1, bt182.2.1, bt182.2.2.1, bt182.2.2.2.1, bt182.2.2.2.2.1, bt182.2.2.2.2.2.1, bt182.2.2.2.2.2.2.1, bt182.2.2.2.2.2.2.2⟩ : S39)] : List (S39)))).bind fun bt195 => (if x6.length < 1466015503701 then (spec_BuddyinfoTree.l0 k (x6 ++ [(⟨bt195.1, bt195.2.1, bt195.2.2.1, bt195.2.2.2.1, bt195.2.2.2.2.1, bt195.2.2.2.2.2.1, bt195.2.2.2.2.2.2.1, bt195.2.2.2.2.2.2.2⟩ : S39)]) x20 x21 (wrap64 (x22 + 1))) else (none))))) else (none))) else (none))
end
def spec_BuddyinfoTree.f (k : Nat) (l0 : List (S31)) : Option (ByteArray × Int × Bool × Int × Int × Nat × ByteArray × (List (S39)) × Int) := (spec_BuddyinfoPrint.f k l0).bind fun bt132 => (if bt132.2 = 1 then (spec_BuddyinfoTree.l0 k ([] : List (S39)) l0 (l0.length : Int) 0) else (some ((⟨#[]⟩ : ByteArray), 0, false, 0, 0, 0, (⟨#[]⟩ : ByteArray), ([] : List (S39)), 2)))
theorem spec_BuddyinfoTree.mono_l : ∀ k, (∀ y0 y1 y2 y3, LeO (spec_BuddyinfoTree.l0 k y0 y1 y2 y3) (spec_BuddyinfoTree.l0 (k + 1) y0 y1 y2 y3)) ∧ (∀ y0 y1 y2 y3 y4 y5 y6 y7 y8 y9 y10, LeO (spec_BuddyinfoTree.l1 k y0 y1 y2 y3 y4 y5 y6 y7 y8 y9 y10) (spec_BuddyinfoTree.l1 (k + 1) y0 y1 y2 y3 y4 y5 y6 y7 y8 y9 y10))
 | 0 => ⟨fun _ _ _ _ r h => by simp [spec_BuddyinfoTree.l0] at h, fun _ _ _ _ _ _ _ _ _ _ _ r h => by simp [spec_BuddyinfoTree.l1] at h⟩
 | k + 1 => by
  obtain ⟨ih0, ih1⟩ := spec_BuddyinfoTree.mono_l k
  refine ⟨?_, ?_⟩
  ·intro y0 y1 y2 y3
   unfold spec_BuddyinfoTree.l0
   repeat' first
   | (with_reducible exact ih0 _ _ _ _)
   | (with_reducible exact ih1 _ _ _ _ _ _ _ _ _ _ _)
   | (with_reducible exact spec_BuddyinfoPrint.mono _ _)
   | (with_reducible exact LeO.refl _)
   | (with_reducible exact LeO.none _)
   | (with_reducible refine LeO.ite ?_ ?_)
   | (with_reducible refine LeO.bind ?_ (fun _ => ?_))
   | exact ih0 _ _ _ _
   | exact ih1 _ _ _ _ _ _ _ _ _ _ _
   | exact spec_BuddyinfoPrint.mono _ _
   | exact LeO.none _
   | refine LeO.ite ?_ ?_
   | refine LeO.bind ?_ (fun _ => ?_)
  ·intro y0 y1 y2 y3 y4 y5 y6 y7 y8 y9 y10
   unfold spec_BuddyinfoTree.l1
   repeat' first
   | (with_reducible exact ih0 _ _ _ _)
   | (with_reducible exact ih1 _ _ _ _ _ _ _ _ _ _ _)
   | (with_reducible exact spec_BuddyinfoPrint.mono _ _)
   | (with_reducible exact LeO.refl _)
   | (with_reducible exact LeO.none _)
   | (with_reducible refine LeO.ite ?_ ?_)
   | (with_reducible refine LeO.bind ?_ (fun _ => ?_))
   | exact ih0 _ _ _ _
   | exact ih1 _ _ _ _ _ _ _ _ _ _ _
   | exact spec_BuddyinfoPrint.mono _ _
   | exact LeO.none _
   | refine LeO.ite ?_ ?_
   | refine LeO.bind ?_ (fun _ => ?_)
theorem spec_BuddyinfoTree.mono : ∀ a0 k, LeO (spec_BuddyinfoTree.f k a0) (spec_BuddyinfoTree.f (k + 1) a0) := by
 intro a0 k
 obtain ⟨ih0, ih1⟩ := spec_BuddyinfoTree.mono_l k
 unfold spec_BuddyinfoTree.f
 repeat' first
   | (with_reducible exact ih0 _ _ _ _)
   | (with_reducible exact ih1 _ _ _ _ _ _ _ _ _ _ _)
   | (with_reducible exact spec_BuddyinfoPrint.mono _ _)
   | (with_reducible exact LeO.refl _)
   | (with_reducible exact LeO.none _)
   | (with_reducible refine LeO.ite ?_ ?_)
   | (with_reducible refine LeO.bind ?_ (fun _ => ?_))
   | exact ih0 _ _ _ _
   | exact ih1 _ _ _ _ _ _ _ _ _ _ _
   | exact spec_BuddyinfoPrint.mono _ _
   | exact LeO.none _
   | refine LeO.ite ?_ ?_
   | refine LeO.bind ?_ (fun _ => ?_)
def spec_BuddyinfoTree.T14 : Bool × List (List Nat × List Nat) := (true, [([], []), ([], []), ([1], [1]), ([2], [2]), ([3], [3]), ([4], [4]), ([], []), ([6], [6]), ([7], [7]), ([8], [8]), ([9, 5], [9]), ([], []), ([11, 10], [11]), ([5, 10, 12], [5, 10, 12]), ([13, 12], [13]), ([14], [14]), ([0, 15, 14], [0, 15]), ([16, 16, 0, 1, 2, 3, 4, 5, 6, 7, 8, 9, 10, 11, 12, 13, 14, 15, 16], [0, 16])])
def spec_BuddyinfoTree.B14 : List Nat := [0, 0, 2, 6, 14, 30, 0, 64, 192, 448, 1022, 0, 4094, 8190, 16382, 32766, 65535, 131071]
theorem spec_BuddyinfoTree.tab14 : rtab .any (opsOf Tryz.f19 14) = spec_BuddyinfoTree.T14 := by kernel_rfl
theorem spec_BuddyinfoTree.bits14 : waitsOk spec_BuddyinfoTree.T14.2 spec_BuddyinfoTree.B14 = true := by kernel_rfl
set_option maxHeartbeats 8000000 in
set_option maxRecDepth 100000 in
theorem spec_BuddyinfoTree.calls (k : Nat) (A0 : Option Addr) (c0 : Nat) (l0 : List (S31)) (r1 : ByteArray) (r2 : Int) (r3 : Bool) (r4 : Int) (r5 : Int) (r6 : Nat) (r7 : ByteArray) (r8 : List (S39)) (r9 : Int) (w : World) (hr0 : Kd.C k31 w A0 l0.length l0) (hc0 : l0.length ≤ c0) (h : spec_BuddyinfoTree.f k l0 = some (r1, r2, r3, r4, r5, r6, r7, r8, r9)) :
  Calls Tryz.prog 19 #[.slice A0 l0.length c0] w fun e w' => ∃ v7_ : Value, e = .returned (.tuple #[.agg #[.string r1, .int .i64 r2, .bool r3, .int .i64 r4, .int .u64 r5, .float .f64 r6, .string r7, v7_], .int .i64 r9]) ∧ Kd.V k39 39 w' w.heap.size (fun k_ => (w.heap.size ≤ k_)) v7_ r8 ∧ Below w.heap.size w w' := by
 have hu35 := Tryz.underlying35
 have hu36 := Tryz.underlying36
 have hu39 := Tryz.underlying39
 have hu31 := Tryz.underlying31
 have HR0 := Aside0.mk hr0
 have HC0 := Aside0.mk hc0
 clear hr0 hc0
 have HB := Aside0.mk (Below.refl w.heap.size w)
 have H : ((spec_BuddyinfoPrint.f k l0).bind fun bt132 => (if bt132.2 = 1 then (spec_BuddyinfoTree.l0 k ([] : List (S39)) l0 (l0.length : Int) 0) else (some ((⟨#[]⟩ : ByteArray), 0, false, 0, 0, 0, (⟨#[]⟩ : ByteArray), ([] : List (S39)), 2)))) = some (r1, r2, r3, r4, r5, r6, r7, r8, r9) := h
 clear h
 replace H := Option.bind_eq_some_iff.mp H
 obtain ⟨⟨t132, t133⟩, A20, H⟩ := H
 replace H : (if t133 = 1 then (spec_BuddyinfoTree.l0 k ([] : List (S39)) l0 (l0.length : Int) 0) else (some ((⟨#[]⟩ : ByteArray), 0, false, 0, 0, 0, (⟨#[]⟩ : ByteArray), ([] : List (S39)), 2))) = some (r1, r2, r3, r4, r5, r6, r7, r8, r9) := H
 have A2 := Aside0.mk A20
 clear A20
 by_cases c3 : t133 = 1
 ·rw [if_pos c3] at H
  have c3b0 : (t133 == 1) = true := beq_iff_eq.mpr c3
  have c3b1 : (t133 != 1) = false := bne_eq_false_iff_eq.mpr c3
  clear c3
  have H' := Aside0.mk H
  clear H
  go_enter Tryz.func19, Tryz.ntmps19
  go_wp2_with (first | ((with_reducible refine gate_dst (N := 2) rfl ?_); refine box_event ?hg (N := 2) ?hd (cs := #[.string (⟨#[]⟩ : ByteArray), .int .i64 0, .bool false, .int .i64 0, .int .u64 0, .float .f64 0, .string (⟨#[]⟩ : ByteArray), .slice none 0 0]) (t := 39) ?hr ?_; (case hd => rfl); (case hg => rfl); (case hr => first | (go_simp; done) | (go_simp; rfl)); intro gb131 hg w4 hbox hb; have n0_ := Aside0.mk (below_step (by repeat (first | (with_reducible first | exact HB.out | apply below_alloc | apply pw_below_drewN | apply below_drew1) | exact HB.out)) hb); have n1_ := Aside0.mk (hbox); have n2_ := Aside0.mk ((by rw [hg]; exact (below_size (by repeat (first | (with_reducible first | exact HB.out | apply below_alloc | apply pw_below_drewN | apply below_drew1) | exact HB.out))) : w.heap.size ≤ gb131)); have n3_ := Aside0.mk ((by rw [hg]; exact (below_size (by repeat (first | (with_reducible first | exact HB.out | apply below_alloc | apply pw_below_drewN | apply below_drew1) | exact HB.out))) : w.heap.size ≤ gb131)); clear HB; have HB := n0_; have BK131 := n1_; have GW131 := n2_; have GE131 := n3_; clear n0_ n1_ n2_ n3_; clear hb hbox hg) | ((with_reducible refine gate_callee (f := 18) rfl ?_); refine goesL_ (some 14) rfl rfl Tryz.func18 (by kernel_rfl) rfl #[.slice A0 l0.length c0] rfl (by (try simp only [List.map_toArray, List.map_cons, List.map_nil]); first | done | rfl | (simp only [List.length_drop, List.length_take]; rfl)) ?_; (with_reducible refine (spec_BuddyinfoPrint.calls k _ _ l0 t132 t133 _ ?side1 ?side2 A2.out).mono ?_); (case side1 => repeat (first | exact (Kd.C_below HR0.out HB.out) | (with_reducible refine Kd.C_alloc ?_ _) | (with_reducible refine Kd.C_drewN ?_ _) | (with_reducible refine Kd.C_drew ?_))); (case side2 => exact HC0.out); rintro e w5 ⟨rfl, hb⟩; refine ⟨_, rfl, ?_⟩; have n0_ := Aside0.mk (blk_below (g := gb131) (o := .cells #[.string (⟨#[]⟩ : ByteArray), .int .i64 0, .bool false, .int .i64 0, .int .u64 0, .float .f64 0, .string (⟨#[]⟩ : ByteArray), .slice none 0 0] 39 (0, 0)) (by (with_reducible repeat (first | refine blk_drewN ?_ _ | refine blk_drew ?_ | refine blk_alloc ?_ _)); exact BK131.out) hb); have n1_ := Aside0.mk (below_step (by repeat (first | (with_reducible first | exact HB.out | apply below_alloc | apply pw_below_drewN | apply below_drew1 | refine below_set ?_ GE131.out) | exact HB.out)) hb); clear BK131; clear HB; have BK131 := n0_; have HB := n1_; clear n0_ n1_; (try clear hb); (try clear hb2); (try clear hk); (try clear hi)))
  go_loopg [6, 22] k (fun kq v6 v22 w' => ∃ (x6_1 : List (S39)) (x22_1 : Int), v22 = .int .i64 x22_1 ∧ Aside0 (spec_BuddyinfoTree.l0 kq x6_1 l0 (l0.length : Int) x22_1 = some (r1, r2, r3, r4, r5, r6, r7, r8, r9)) ∧ Aside0 (kq ≤ k) ∧ Aside0 (Kd.N k39 39 w' w.heap.size (fun k_ => (w.heap.size ≤ k_) ∧ k_ ≠ gb131) v6 x6_1) ∧ Aside0 (w'.heap[gb131]? = some (.cells #[.string (⟨#[]⟩ : ByteArray), .int .i64 0, .bool false, .int .i64 0, .int .u64 0, .float .f64 0, .string (⟨#[]⟩ : ByteArray), (.slice none 0 0)] 39 (0, 0))) ∧ Aside0 (Below w.heap.size w w'))
  case atStart => exact ⟨(([] : List (S39))), (0), (by first | rfl | (simp; done) | (simp [*]; done)), H', ⟨Nat.le_refl _⟩, ⟨by first | exact Kd.R_nil _ _ _ _ _ | exact Kd.N_nil _ _ _ _ _ | exact Kd.V_nil _ _ _ _ _ | exact Kd.Q_nil _ _ _ _ _ | exact Kd.S_nil _ _ _ _ _⟩, ⟨by (with_reducible repeat (first | refine blk_drewN ?_ _ | refine blk_drew ?_ | refine blk_alloc ?_ _)); exact BK131.out⟩, ⟨by repeat (first | (with_reducible first | exact HB.out | apply below_alloc | apply pw_below_drewN | apply below_drew1 | refine below_set ?_ GE131.out) | exact HB.out)⟩⟩
  case round =>
   clear H'
   try clear c1
   try clear p2
   try clear c3
   try clear c3b0
   try clear c3b1
   obtain ⟨x6_1, x22_1, rfl, HA, HK1, HO_6, BK131, HB⟩ := hrel
   cases gk with
   | zero => exact absurd HA.out (by simp [spec_BuddyinfoTree.l0])
   | succ k1 =>
    have H := HA.out
    clear HA
    simp only [spec_BuddyinfoTree.l0] at H
    by_cases c6 : x22_1 < (l0.length : Int)
    ·rw [if_pos c6] at H
     have c6b0 : decide (x22_1 < (l0.length : Int)) = true := decide_eq_true c6
     clear c6
     replace H := guard_inv H
     obtain ⟨c7, H⟩ := H
     have c7b0 : decide (0 ≤ x22_1) = true := decide_eq_true c7
     clear c7
     replace H := guard_inv H
     obtain ⟨c8, H⟩ := H
     have c8b0 : decide (x22_1 < (l0.length : Int)) = true := decide_eq_true c8
     clear c8
     have H' := Aside0.mk H
     clear H
     have p144 : 0 ≤ (x22_1 : Int) := of_decide_eq_true (by first | (with_reducible assumption) | assumption)
     have q144 : x22_1 < (l0.length : Int) := of_decide_eq_true (by first | (with_reducible assumption) | assumption)
     obtain ⟨ad144, A144_1, c144_1, A144_2, c144_2, e144, hx144_0, hx144_1, hx144_2, hl144_1, hi144_1, hl144_2, hi144_2⟩ := at_T31 HR0.out x22_1 p144 q144
     cases e144
     replace hx144_0 := (HB.out.cell (World.block_lt_of_cell? w _ hx144_0)).trans hx144_0
     replace hx144_1 := (HB.out.cell (World.block_lt_of_cell? w _ hx144_1)).trans hx144_1
     replace hx144_2 := (HB.out.cell (World.block_lt_of_cell? w _ hx144_2)).trans hx144_2
     have HR144_1 := Aside0.mk hi144_1
     have HC144_1 := Aside0.mk hl144_1
     clear hi144_1 hl144_1
     have HR144_2 := Aside0.mk hi144_2
     have HC144_2 := Aside0.mk hl144_2
     clear hi144_2 hl144_2
     replace p144 := eq_true p144
     replace q144 := eq_true q144
     go_wp2_with (first | ((with_reducible refine gate_dst (N := 8) rfl ?_); refine box_event ?hg (N := 8) ?hd (cs := #[.string (⟨#[]⟩ : ByteArray), .slice none 0 0, .slice none 0 0]) (t := 31) ?hr ?_; (case hd => rfl); (case hg => rfl); (case hr => first | (go_simp; done) | (go_simp; rfl)); intro gb145 hg w9 hbox hb; have n0_ := Aside0.mk (Kd.N_below (Kd.N_elderB (by (with_reducible repeat (first | apply Kd.N_alloc | apply Kd.N_drewN | apply Kd.N_drew)); exact HO_6.out) gb145 (Nat.le_of_eq hg.symm)) hb); have n1_ := Aside0.mk (blk_below (g := gb131) (o := .cells #[.string (⟨#[]⟩ : ByteArray), .int .i64 0, .bool false, .int .i64 0, .int .u64 0, .float .f64 0, .string (⟨#[]⟩ : ByteArray), .slice none 0 0] 39 (0, 0)) (by (with_reducible repeat (first | refine blk_drewN ?_ _ | refine blk_drew ?_ | refine blk_alloc ?_ _)); exact BK131.out) hb); have n2_ := Aside0.mk (below_step (by repeat (first | (with_reducible first | exact HB.out | apply below_alloc | apply pw_below_drewN | apply below_drew1 | refine below_set ?_ GE131.out) | exact HB.out)) hb); have n3_ := Aside0.mk (hbox); have n4_ := Aside0.mk ((by rw [hg]; exact (below_size (by repeat (first | (with_reducible first | exact HB.out | apply below_alloc | apply pw_below_drewN | apply below_drew1 | refine below_set ?_ GE131.out) | exact HB.out))) : w.heap.size ≤ gb145)); have n5_ := Aside0.mk ((by rw [hg]; exact (below_size (by repeat (first | (with_reducible first | exact HB.out | apply below_alloc | apply pw_below_drewN | apply below_drew1 | refine below_set ?_ GE131.out) | exact HB.out))) : w.heap.size ≤ gb145)); have n6_ := Aside0.mk ((by rw [hg]; exact Nat.ne_of_lt (blk_lt (g := gb131) (o := .cells #[.string (⟨#[]⟩ : ByteArray), .int .i64 0, .bool false, .int .i64 0, .int .u64 0, .float .f64 0, .string (⟨#[]⟩ : ByteArray), .slice none 0 0] 39 (0, 0)) (by (with_reducible repeat (first | refine blk_drewN ?_ _ | refine blk_drew ?_ | refine blk_alloc ?_ _)); exact BK131.out)) : gb131 ≠ gb145)); have n7_ := Aside0.mk ((by rw [hg]; exact Nat.ne_of_gt (blk_lt (g := gb131) (o := .cells #[.string (⟨#[]⟩ : ByteArray), .int .i64 0, .bool false, .int .i64 0, .int .u64 0, .float .f64 0, .string (⟨#[]⟩ : ByteArray), .slice none 0 0] 39 (0, 0)) (by (with_reducible repeat (first | refine blk_drewN ?_ _ | refine blk_drew ?_ | refine blk_alloc ?_ _)); exact BK131.out)) : gb145 ≠ gb131)); clear HO_6; clear BK131; clear HB; have HO_6 := n0_; have BK131 := n1_; have HB := n2_; have BK145 := n3_; have GW145 := n4_; have GE145 := n5_; have NB131_145 := n6_; have NB145_131 := n7_; clear n0_ n1_ n2_ n3_ n4_ n5_ n6_ n7_; clear hb hbox hg; have hnb10 := NB145_131.out; have hnc10 := NB131_145.out; have hcz11_0 : w9.cell? ⟨gb145, 0, none⟩ = some (.string (⟨#[]⟩ : ByteArray)) := (blk_cell BK145.out 0).trans rfl; have hcz11_1 : w9.cell? ⟨gb145, 1, none⟩ = some (.slice none 0 0) := (blk_cell BK145.out 1).trans rfl; have hcz11_2 : w9.cell? ⟨gb145, 2, none⟩ = some (.slice none 0 0) := (blk_cell BK145.out 2).trans rfl; have hfz11_0 := blk_frozen BK145.out 0; have hfz11_1 := blk_frozen BK145.out 1; have hfz11_2 := blk_frozen BK145.out 2))
     go_loopg [9, 29] k1 (fun kq v9 v29 w' => ∃ (x9_2 : List (S39)) (x29_2 : Int), v29 = .int .i64 x29_2 ∧ Aside0 (spec_BuddyinfoTree.l1 kq x6_1 x9_2 l0 (l0.length : Int) x22_1 ((rd_T31 l0 x22_1).f1) (((rd_T31 l0 x22_1).f1).length : Int) x29_2 ((rd_T31 l0 x22_1).f0) ((rd_T31 l0 x22_1).f1) ((rd_T31 l0 x22_1).f2) = some (r1, r2, r3, r4, r5, r6, r7, r8, r9)) ∧ Aside0 (kq ≤ k1) ∧ Aside0 (Kd.N k39 39 w' w.heap.size (fun k_ => (w.heap.size ≤ k_) ∧ some k_ ≠ (v9 : Value).ownBlock ∧ k_ ≠ gb131 ∧ k_ ≠ gb145) u6 x6_1) ∧ Aside0 (Kd.N k39 39 w' w.heap.size (fun k_ => (w.heap.size ≤ k_) ∧ some k_ ≠ (u6 : Value).ownBlock ∧ k_ ≠ gb131 ∧ k_ ≠ gb145) v9 x9_2) ∧ Aside0 (w'.heap[gb131]? = some (.cells #[.string (⟨#[]⟩ : ByteArray), .int .i64 0, .bool false, .int .i64 0, .int .u64 0, .float .f64 0, .string (⟨#[]⟩ : ByteArray), (.slice none 0 0)] 39 (0, 0))) ∧ Aside0 (w'.heap[gb145]? = some (.cells #[.string ((rd_T31 l0 x22_1).f0), (.slice A144_1 ((rd_T31 l0 x22_1).f1).length c144_1), (.slice A144_2 ((rd_T31 l0 x22_1).f2).length c144_2)] 31 (0, 0))) ∧ Aside0 (Below w.heap.size w w'))
     case atStart => exact ⟨(([] : List (S39))), (0), (by first | rfl | (simp; done) | (simp [*]; done)), H', ⟨Nat.le_refl _⟩, ⟨by (with_reducible repeat (first | apply Kd.N_alloc | apply Kd.N_drewN | apply Kd.N_drew)); exact Kd.N_mono (Kd.N_far (p := ⟨gb145, 2, none⟩) (Kd.N_far (p := ⟨gb145, 1, none⟩) (Kd.N_far (p := ⟨gb145, 0, none⟩) (Kd.N_mono HO_6.out (fun k_ hk => (⟨hk, hk.2⟩ : _ ∧ k_ ≠ gb145))) (fun _ hk => hk.2) (.string ((rd_T31 l0 x22_1).f0))) (fun _ hk => hk.2) (.slice A144_1 ((rd_T31 l0 x22_1).f1).length c144_1)) (fun _ hk => hk.2) (.slice A144_2 ((rd_T31 l0 x22_1).f2).length c144_2)) (fun _ hk => ⟨hk.1.1.1, ⟨(by simp [Value.ownBlock]), ⟨hk.1.1.2, hk.1.2⟩⟩⟩)⟩, ⟨by first | exact Kd.R_nil _ _ _ _ _ | exact Kd.N_nil _ _ _ _ _ | exact Kd.V_nil _ _ _ _ _ | exact Kd.Q_nil _ _ _ _ _ | exact Kd.S_nil _ _ _ _ _⟩, ⟨by (with_reducible repeat (first | refine blk_drewN ?_ _ | refine blk_drew ?_ | refine blk_alloc ?_ _)); refine blk_far ?_ NB131_145.out _; (with_reducible repeat (first | refine blk_drewN ?_ _ | refine blk_drew ?_ | refine blk_alloc ?_ _)); refine blk_far ?_ NB131_145.out _; (with_reducible repeat (first | refine blk_drewN ?_ _ | refine blk_drew ?_ | refine blk_alloc ?_ _)); refine blk_far ?_ NB131_145.out _; (with_reducible repeat (first | refine blk_drewN ?_ _ | refine blk_drew ?_ | refine blk_alloc ?_ _)); exact BK131.out⟩, ⟨by (with_reducible repeat (first | refine blk_drewN ?_ _ | refine blk_drew ?_ | refine blk_alloc ?_ _)); refine blk_put (cs := #[.string ((rd_T31 l0 x22_1).f0), .slice A144_1 ((rd_T31 l0 x22_1).f1).length c144_1, .slice none 0 0]) ?_ 2 _ rfl; (with_reducible repeat (first | refine blk_drewN ?_ _ | refine blk_drew ?_ | refine blk_alloc ?_ _)); refine blk_put (cs := #[.string ((rd_T31 l0 x22_1).f0), .slice none 0 0, .slice none 0 0]) ?_ 1 _ rfl; (with_reducible repeat (first | refine blk_drewN ?_ _ | refine blk_drew ?_ | refine blk_alloc ?_ _)); refine blk_put (cs := #[.string (⟨#[]⟩ : ByteArray), .slice none 0 0, .slice none 0 0]) ?_ 0 _ rfl; (with_reducible repeat (first | refine blk_drewN ?_ _ | refine blk_drew ?_ | refine blk_alloc ?_ _)); exact BK145.out⟩, ⟨by repeat (first | (with_reducible first | exact HB.out | apply below_alloc | apply pw_below_drewN | apply below_drew1 | refine below_set ?_ GE131.out | refine below_set ?_ GE145.out) | exact HB.out)⟩⟩
     case round =>
      clear H'
      try clear c1
      try clear p1
      try clear q1
      try clear hx1
      try clear p2
      try clear c3
      try clear c3b0
      try clear c3b1
      try clear c6
      try clear c6b0
      try clear c7
      try clear c7b0
      try clear c8
      try clear c8b0
      try clear c10
      try clear hcz11_0
      try clear hcz11_1
      try clear hcz11_2
      try clear hfz11_0
      try clear hfz11_1
      try clear hfz11_2
      try clear hx144_0
      try clear hx144_1
      try clear hx144_2
      try clear p144
      try clear p2
      try clear q144
      obtain ⟨x9_2, x29_2, rfl, HA, HK2, HO_6, HO_9, BK131, BK145, HB⟩ := hrel
      cases gk with
      | zero => exact absurd HA.out (by simp [spec_BuddyinfoTree.l1])
      | succ k2 =>
       have H := HA.out
       clear HA
       simp only [spec_BuddyinfoTree.l1] at H
       by_cases c12 : x29_2 < (((rd_T31 l0 x22_1).f1).length : Int)
       ·rw [if_pos c12] at H
        have c12b0 : decide (x29_2 < (((rd_T31 l0 x22_1).f1).length : Int)) = true := decide_eq_true c12
        clear c12
        replace H := guard_inv H
        obtain ⟨c13, H⟩ := H
        have c13b0 : decide (0 ≤ x29_2) = true := decide_eq_true c13
        clear c13
        replace H := guard_inv H
        obtain ⟨c14, H⟩ := H
        have c14b0 : decide (x29_2 < (((rd_T31 l0 x22_1).f1).length : Int)) = true := decide_eq_true c14
        clear c14
        replace H := Option.bind_eq_some_iff.mp H
        obtain ⟨⟨t147, t148, t149, t150, t151, t152, t153, t154⟩, A150, H⟩ := H
        replace H : (if x9_2.length < 1466015503701 then (spec_BuddyinfoTree.l1 k2 x6_1 (x9_2 ++ [(⟨t147, t148, t149, t150, t151, t152, t153, t154⟩ : S39)]) l0 (l0.length : Int) x22_1 ((rd_T31 l0 x22_1).f1) (((rd_T31 l0 x22_1).f1).length : Int) (wrap64 (x29_2 + 1)) ((rd_T31 l0 x22_1).f0) ((rd_T31 l0 x22_1).f1) ((rd_T31 l0 x22_1).f2)) else (none)) = some (r1, r2, r3, r4, r5, r6, r7, r8, r9) := H
        have A15 := Aside0.mk A150
        clear A150
        replace H := guard_inv H
        obtain ⟨c16, H⟩ := H
        have LMc16 := Aside0.mk c16
        clear c16
        obtain ⟨y157, hy157⟩ : ∃ y_ : List (S39), y_ = (x9_2 ++ [(⟨t147, t148, t149, t150, t151, t152, t153, t154⟩ : S39)]) := ⟨_, rfl⟩
        replace H : (spec_BuddyinfoTree.l1 k2 x6_1 y157 l0 (l0.length : Int) x22_1 ((rd_T31 l0 x22_1).f1) (((rd_T31 l0 x22_1).f1).length : Int) (wrap64 (x29_2 + 1)) ((rd_T31 l0 x22_1).f0) ((rd_T31 l0 x22_1).f1) ((rd_T31 l0 x22_1).f2)) = some (r1, r2, r3, r4, r5, r6, r7, r8, r9) := by first | (rw [hy157]; with_reducible exact H) | (have H2_ := (Option.bind_some _ _).symm.trans H; rw [hy157]; with_reducible exact H2_) | (have H2_ := (Option.bind_some _ _).symm.trans H; with_reducible exact H2_) | with_reducible exact H | (rw [hy157]; exact H) | exact H
        have Ny157 := Aside0.mk hy157
        clear hy157
        have H' := Aside0.mk H
        clear H
        have p146 : 0 ≤ (x29_2 : Int) := of_decide_eq_true (by first | (with_reducible assumption) | assumption)
        have q146 : x29_2 < (((rd_T31 l0 x22_1).f1).length : Int) := of_decide_eq_true (by first | (with_reducible assumption) | assumption)
        obtain ⟨ad146, e146, hx146_0⟩ := Kd.at_int HR144_1.out x29_2 p146 q146
        cases e146
        replace hx146_0 := (HB.out.cell (World.block_lt_of_cell? w _ hx146_0)).trans hx146_0
        replace p146 := eq_true p146
        replace q146 := eq_true q146
        go_wp2_with (first | ((with_reducible refine gate_callee (f := 54) rfl ?_); refine goesL_ (some 36) rfl rfl Tryz.func54 (by kernel_rfl) rfl #[.string (⟨#[]⟩ : ByteArray), .float .f64 (floatOfInt .f64 (rd ((rd_T31 l0 x22_1).f1) x29_2))] rfl (by (try simp only [List.map_toArray, List.map_cons, List.map_nil]); first | done | rfl | (simp only [List.length_drop, List.length_take]; rfl)) ?_; (with_reducible refine (spec_floatNode.calls (⟨#[]⟩ : ByteArray) (floatOfInt .f64 (rd ((rd_T31 l0 x22_1).f1) x29_2)) t147 t148 t149 t150 t151 t152 t153 t154 _ A15.out).mono ?_); rintro e w17 ⟨v155, rfl, ho0, hb⟩; refine ⟨_, rfl, ?_⟩; have n0_ := Aside0.mk (Kd.N_elder' (by (with_reducible repeat (first | apply Kd.N_alloc | apply Kd.N_drewN | apply Kd.N_drew)); exact HO_6.out) (by first | exact Kd.N_base ho0 | exact Kd.R_base ho0) hb); have n1_ := Aside0.mk (Kd.N_elder' (by (with_reducible repeat (first | apply Kd.N_alloc | apply Kd.N_drewN | apply Kd.N_drew)); exact HO_9.out) (by first | exact Kd.N_base ho0 | exact Kd.R_base ho0) hb); have n2_ := Aside0.mk (Kd.N_lower (Kd.N_mono (ok' := fun k_ => (w.heap.size ≤ k_) ∧ some k_ ≠ (u6 : Value).ownBlock ∧ some k_ ≠ (u9 : Value).ownBlock ∧ k_ ≠ gb131 ∧ k_ ≠ gb145) (Kd.R_N (Kd.R_bound ho0)) (fun k_ hk_ => ⟨(Nat.le_trans (below_size (by repeat (first | (with_reducible first | exact HB.out | apply below_alloc | apply pw_below_drewN | apply below_drew1 | refine below_set ?_ GE131.out | refine below_set ?_ GE145.out) | exact HB.out))) hk_.2.1), (Kd.fresh' (Kd.N_lt (by (with_reducible repeat (first | apply Kd.N_alloc | apply Kd.N_drewN | apply Kd.N_drew)); exact HO_6.out)) k_ hk_.2.1), (Kd.fresh' (Kd.N_lt (by (with_reducible repeat (first | apply Kd.N_alloc | apply Kd.N_drewN | apply Kd.N_drew)); exact HO_9.out)) k_ hk_.2.1), (Kd.freshB (g := gb131) (o := .cells #[.string (⟨#[]⟩ : ByteArray), .int .i64 0, .bool false, .int .i64 0, .int .u64 0, .float .f64 0, .string (⟨#[]⟩ : ByteArray), .slice none 0 0] 39 (0, 0)) (by (with_reducible repeat (first | refine blk_drewN ?_ _ | refine blk_drew ?_ | refine blk_alloc ?_ _)); exact BK131.out) k_ hk_.2.1), (Kd.freshB (g := gb145) (o := .cells #[.string ((rd_T31 l0 x22_1).f0), .slice (some ad146) ((rd_T31 l0 x22_1).f1).length c144_1, .slice A144_2 ((rd_T31 l0 x22_1).f2).length c144_2] 31 (0, 0)) (by (with_reducible repeat (first | refine blk_drewN ?_ _ | refine blk_drew ?_ | refine blk_alloc ?_ _)); exact BK145.out) k_ hk_.2.1)⟩)) (below_size (by repeat (first | (with_reducible first | exact HB.out | apply below_alloc | apply pw_below_drewN | apply below_drew1 | refine below_set ?_ GE131.out | refine below_set ?_ GE145.out) | exact HB.out)))); have n3_ := Aside0.mk (blk_below (g := gb131) (o := .cells #[.string (⟨#[]⟩ : ByteArray), .int .i64 0, .bool false, .int .i64 0, .int .u64 0, .float .f64 0, .string (⟨#[]⟩ : ByteArray), .slice none 0 0] 39 (0, 0)) (by (with_reducible repeat (first | refine blk_drewN ?_ _ | refine blk_drew ?_ | refine blk_alloc ?_ _)); exact BK131.out) hb); have n4_ := Aside0.mk (blk_below (g := gb145) (o := .cells #[.string ((rd_T31 l0 x22_1).f0), .slice (some ad146) ((rd_T31 l0 x22_1).f1).length c144_1, .slice A144_2 ((rd_T31 l0 x22_1).f2).length c144_2] 31 (0, 0)) (by (with_reducible repeat (first | refine blk_drewN ?_ _ | refine blk_drew ?_ | refine blk_alloc ?_ _)); exact BK145.out) hb); have n5_ := Aside0.mk (below_step (by repeat (first | (with_reducible first | exact HB.out | apply below_alloc | apply pw_below_drewN | apply below_drew1 | refine below_set ?_ GE131.out | refine below_set ?_ GE145.out) | exact HB.out)) hb); clear HO_6; clear HO_9; clear BK131; clear BK145; clear HB; have HO_6 := n0_; have HO_9 := n1_; have HO156 := n2_; have BK131 := n3_; have BK145 := n4_; have HB := n5_; clear n0_ n1_ n2_ n3_ n4_ n5_; (try clear hb); (try clear hb2); (try clear hk); (try clear hi); (try clear ho0); obtain ⟨Ao19, co19, eo19⟩ := Kd.N_slice HO156.out; subst eo19) | ((with_reducible refine gate_builtin (b := .append) (xs := #[.tmp 33, .tmp 37]) rfl ?_); at_builtin; refine Kd.N_append k39 (w0 := w) w.heap.size rfl (.tmp 33) (.tmp 37) 37 39 (.agg #[(.string ⟨#[]⟩), (.int .i64 0), (.bool false), (.int .i64 0), (.int .u64 0), (.float .f64 0), (.string ⟨#[]⟩), (.slice none 0 0)]) 96 rfl Tryz.underlying37 info39 rfl (by decide) (by omega) u9 x9_2 (⟨t147, t148, t149, t150, t151, t152, t153, t154⟩ : S39) [.string t147, .int .i64 t148, .bool t149, .int .i64 t150, .int .u64 t151, .float .f64 t152, .string t153, .slice Ao19 t154.length co19] (fun k_ => (w.heap.size ≤ k_) ∧ some k_ ≠ (u6 : Value).ownBlock ∧ k_ ≠ gb131 ∧ k_ ≠ gb145) (fun k_ => ((fun k_ => (w.heap.size ≤ k_) ∧ some k_ ≠ (u6 : Value).ownBlock ∧ k_ ≠ gb131 ∧ k_ ≠ gb145)) k_ ∧ some k_ ≠ (u9 : Value).ownBlock) rfl rfl ?aP (fun _ hk => hk) ?aF ?aO ?aB ?aS ?aL ?_; (case aP => exact (k39_mkF _ _ (⟨t147, t148, t149, t150, t151, t152, t153, t154⟩ : S39) (Kd.N_reads' (Kd.N_mono (ok' := (fun k_ => ((fun k_ => (w.heap.size ≤ k_) ∧ some k_ ≠ (u6 : Value).ownBlock ∧ k_ ≠ gb131 ∧ k_ ≠ gb145)) k_ ∧ some k_ ≠ (u9 : Value).ownBlock)) (HO156.out) (fun k_ hk => ⟨⟨hk.1, ⟨hk.2.1, ⟨hk.2.2.2.1, hk.2.2.2.2⟩⟩⟩, hk.2.2.1⟩))).2.1 (Kd.N_F (Kd.N_mono (ok' := (fun k_ => ((fun k_ => (w.heap.size ≤ k_) ∧ some k_ ≠ (u6 : Value).ownBlock ∧ k_ ≠ gb131 ∧ k_ ≠ gb145)) k_ ∧ some k_ ≠ (u9 : Value).ownBlock)) (HO156.out) (fun k_ hk => ⟨⟨hk.1, ⟨hk.2.1, ⟨hk.2.2.2.1, hk.2.2.2.2⟩⟩⟩, hk.2.2.1⟩))))); (case aB => exact (by repeat (first | (with_reducible first | exact HB.out | apply below_alloc | apply pw_below_drewN | apply below_drew1 | refine below_set ?_ GE131.out | refine below_set ?_ GE145.out) | exact HB.out))); (case aF => exact (fun k_ hk => ⟨(Nat.le_trans (below_size (by repeat (first | (with_reducible first | exact HB.out | apply below_alloc | apply pw_below_drewN | apply below_drew1 | refine below_set ?_ GE131.out | refine below_set ?_ GE145.out) | exact HB.out))) hk), Kd.fresh' (Kd.N_lt (by (with_reducible repeat (first | apply Kd.N_alloc | apply Kd.N_drewN | apply Kd.N_drew)); exact HO_6.out)) k_ hk, Kd.freshB (g := gb131) (o := .cells #[.string (⟨#[]⟩ : ByteArray), .int .i64 0, .bool false, .int .i64 0, .int .u64 0, .float .f64 0, .string (⟨#[]⟩ : ByteArray), .slice none 0 0] 39 (0, 0)) (by (with_reducible repeat (first | refine blk_drewN ?_ _ | refine blk_drew ?_ | refine blk_alloc ?_ _)); exact BK131.out) k_ hk, Kd.freshB (g := gb145) (o := .cells #[.string ((rd_T31 l0 x22_1).f0), .slice (some ad146) ((rd_T31 l0 x22_1).f1).length c144_1, .slice A144_2 ((rd_T31 l0 x22_1).f2).length c144_2] 31 (0, 0)) (by (with_reducible repeat (first | refine blk_drewN ?_ _ | refine blk_drew ?_ | refine blk_alloc ?_ _)); exact BK145.out) k_ hk⟩)); (case aO => exact (by (with_reducible repeat (first | apply Kd.N_alloc | apply Kd.N_drewN | apply Kd.N_drew)); exact Kd.N_mono HO_9.out (fun _ hk => ⟨hk.1.1, ⟨hk.1.2.1, ⟨hk.1.2.2.1, hk.1.2.2.2⟩⟩⟩))); (case aS => exact (below_size (by repeat (first | (with_reducible first | exact HB.out | apply below_alloc | apply pw_below_drewN | apply below_drew1 | refine below_set ?_ GE131.out | refine below_set ?_ GE145.out) | exact HB.out)))); (case aL => have := LMc16.out; omega); intro v158 w18 ho hb hg hat; rw [← Ny157.out] at ho; have n0_ := Aside0.mk (Kd.N_afterv (ok := (fun k_ => (w.heap.size ≤ k_) ∧ some k_ ≠ (.slice Ao19 t154.length co19 : Value).ownBlock ∧ k_ ≠ gb131 ∧ k_ ≠ gb145)) (by (with_reducible repeat (first | apply Kd.N_alloc | apply Kd.N_drewN | apply Kd.N_drew)); exact Kd.N_mono HO_6.out (fun _ hk => ⟨⟨hk.1.1, ⟨hk.2, ⟨hk.1.2.2.1, hk.1.2.2.2⟩⟩⟩, hk.1.2.1⟩)) hg hat); have n1_ := Aside0.mk (blk_grown (g := gb131) (o := .cells #[.string (⟨#[]⟩ : ByteArray), .int .i64 0, .bool false, .int .i64 0, .int .u64 0, .float .f64 0, .string (⟨#[]⟩ : ByteArray), .slice none 0 0] 39 (0, 0)) (by (with_reducible repeat (first | refine blk_drewN ?_ _ | refine blk_drew ?_ | refine blk_alloc ?_ _)); exact BK131.out) hg (Kd.N_away HO_9.out (fun _ hk => hk.1.2.2.1))); have n2_ := Aside0.mk (blk_grown (g := gb145) (o := .cells #[.string ((rd_T31 l0 x22_1).f0), .slice (some ad146) ((rd_T31 l0 x22_1).f1).length c144_1, .slice A144_2 ((rd_T31 l0 x22_1).f2).length c144_2] 31 (0, 0)) (by (with_reducible repeat (first | refine blk_drewN ?_ _ | refine blk_drew ?_ | refine blk_alloc ?_ _)); exact BK145.out) hg (Kd.N_ne HO_9.out BK145.out (by decide))); have n3_ := Aside0.mk (hb); have n4_ := Aside0.mk (ho); clear HO_6; clear BK131; clear BK145; clear HB; clear HO_9; clear HO156; have HO_6 := n0_; have BK131 := n1_; have BK145 := n2_; have HB := n3_; have HO159 := n4_; clear n0_ n1_ n2_ n3_ n4_; clear ho hb hg hat))
        go_roundg k2
        case measure => have := HK1.out; have := HK2.out; omega
        case rel => exact ⟨(y157), (wrap64 (x29_2 + 1)), (by first | rfl | (simp; done) | (simp [*]; done)), H', ⟨by have := HK1.out; have := HK2.out; omega⟩, ⟨by (with_reducible repeat (first | apply Kd.N_alloc | apply Kd.N_drewN | apply Kd.N_drew)); exact Kd.N_mono HO_6.out (fun _ hk => ⟨hk.1.1, ⟨hk.2, ⟨hk.1.2.2.1, hk.1.2.2.2⟩⟩⟩)⟩, ⟨by (with_reducible repeat (first | apply Kd.N_alloc | apply Kd.N_drewN | apply Kd.N_drew)); exact HO159.out⟩, ⟨by (with_reducible repeat (first | refine blk_drewN ?_ _ | refine blk_drew ?_ | refine blk_alloc ?_ _)); exact BK131.out⟩, ⟨by (with_reducible repeat (first | refine blk_drewN ?_ _ | refine blk_drew ?_ | refine blk_alloc ?_ _)); exact BK145.out⟩, ⟨by repeat (first | (with_reducible first | exact HB.out | apply below_alloc | apply pw_below_drewN | apply below_drew1 | refine below_set ?_ GE131.out | refine below_set ?_ GE145.out) | exact HB.out)⟩⟩
       ·rw [if_neg c12] at H
        have c12b0 : decide (x29_2 < (((rd_T31 l0 x22_1).f1).length : Int)) = false := decide_eq_false c12
        clear c12
        replace H := guard_inv H
        obtain ⟨c20, H⟩ := H
        have c20b0 : decide (0 < (((rd_T31 l0 x22_1).f2).length : Int)) = true := decide_eq_true c20
        have c20b1 : decide (0 < ((rd_T31 l0 x22_1).f2).length) = true := decide_eq_true (by omega)
        clear c20
        replace H := Option.bind_eq_some_iff.mp H
        obtain ⟨⟨t161, t162, t163, t164, t165, t166, t167, t168⟩, A210, H⟩ := H
        replace H : (if 1 < (((rd_T31 l0 x22_1).f2).length : Int) then ((spec_textNode.f (⟨#[90, 111, 110, 101]⟩ : ByteArray) (rdOf ByteArray.empty ((rd_T31 l0 x22_1).f2) 1)).bind fun bt172 => ((spec_listNode.f (⟨#[83, 105, 122, 101, 115]⟩ : ByteArray) x9_2).bind fun bt182 => ((spec_recordNode.f (⟨#[]⟩ : ByteArray) (([(⟨t161, t162, t163, t164, t165, t166, t167, t168⟩ : S39), (⟨bt172.1, bt172.2.1, bt172.2.2.1, bt172.2.2.2.1, bt172.2.2.2.2.1, bt172.2.2.2.2.2.1, bt172.2.2.2.2.2.2.1, bt172.2.2.2.2.2.2.2⟩ : S39), (⟨bt182.1, bt182.2.1, bt182.2.2.1, bt182.2.2.2.1, bt182.2.2.2.2.1, bt182.2.2.2.2.2.1, bt182.2.2.2.2.2.2.1, bt182.2.2.2.2.2.2.2⟩ : S39)] : List (S39)))).bind fun bt195 => (if x6_1.length < 1466015503701 then (spec_BuddyinfoTree.l0 k2 (x6_1 ++ [(⟨bt195.1, bt195.2.1, bt195.2.2.1, bt195.2.2.2.1, bt195.2.2.2.2.1, bt195.2.2.2.2.2.1, bt195.2.2.2.2.2.2.1, bt195.2.2.2.2.2.2.2⟩ : S39)]) l0 (l0.length : Int) (wrap64 (x22_1 + 1))) else (none))))) else (none)) = some (r1, r2, r3, r4, r5, r6, r7, r8, r9) := H
        have A21 := Aside0.mk A210
        clear A210
        replace H := guard_inv H
        obtain ⟨c22, H⟩ := H
        have c22b0 : decide (1 < (((rd_T31 l0 x22_1).f2).length : Int)) = true := decide_eq_true c22
        have c22b1 : decide (1 < ((rd_T31 l0 x22_1).f2).length) = true := decide_eq_true (by omega)
        clear c22
        replace H := Option.bind_eq_some_iff.mp H
        obtain ⟨⟨t172, t173, t174, t175, t176, t177, t178, t179⟩, A230, H⟩ := H
        replace H : ((spec_listNode.f (⟨#[83, 105, 122, 101, 115]⟩ : ByteArray) x9_2).bind fun bt182 => ((spec_recordNode.f (⟨#[]⟩ : ByteArray) (([(⟨t161, t162, t163, t164, t165, t166, t167, t168⟩ : S39), (⟨t172, t173, t174, t175, t176, t177, t178, t179⟩ : S39), (⟨bt182.1, bt182.2.1, bt182.2.2.1, bt182.2.2.2.1, bt182.2.2.2.2.1, bt182.2.2.2.2.2.1, bt182.2.2.2.2.2.2.1, bt182.2.2.2.2.2.2.2⟩ : S39)] : List (S39)))).bind fun bt195 => (if x6_1.length < 1466015503701 then (spec_BuddyinfoTree.l0 k2 (x6_1 ++ [(⟨bt195.1, bt195.2.1, bt195.2.2.1, bt195.2.2.2.1, bt195.2.2.2.2.1, bt195.2.2.2.2.2.1, bt195.2.2.2.2.2.2.1, bt195.2.2.2.2.2.2.2⟩ : S39)]) l0 (l0.length : Int) (wrap64 (x22_1 + 1))) else (none)))) = some (r1, r2, r3, r4, r5, r6, r7, r8, r9) := H
        have A23 := Aside0.mk A230
        clear A230
        replace H := Option.bind_eq_some_iff.mp H
        obtain ⟨⟨t182, t183, t184, t185, t186, t187, t188, t189⟩, A240, H⟩ := H
        replace H : ((spec_recordNode.f (⟨#[]⟩ : ByteArray) (([(⟨t161, t162, t163, t164, t165, t166, t167, t168⟩ : S39), (⟨t172, t173, t174, t175, t176, t177, t178, t179⟩ : S39), (⟨t182, t183, t184, t185, t186, t187, t188, t189⟩ : S39)] : List (S39)))).bind fun bt195 => (if x6_1.length < 1466015503701 then (spec_BuddyinfoTree.l0 k2 (x6_1 ++ [(⟨bt195.1, bt195.2.1, bt195.2.2.1, bt195.2.2.2.1, bt195.2.2.2.2.1, bt195.2.2.2.2.2.1, bt195.2.2.2.2.2.2.1, bt195.2.2.2.2.2.2.2⟩ : S39)]) l0 (l0.length : Int) (wrap64 (x22_1 + 1))) else (none))) = some (r1, r2, r3, r4, r5, r6, r7, r8, r9) := H
        have A24 := Aside0.mk A240
        clear A240
        obtain ⟨y192, hy192⟩ : ∃ y_ : List (S39), y_ = (([(⟨t161, t162, t163, t164, t165, t166, t167, t168⟩ : S39), (⟨t172, t173, t174, t175, t176, t177, t178, t179⟩ : S39), (⟨t182, t183, t184, t185, t186, t187, t188, t189⟩ : S39)] : List (S39))) := ⟨_, rfl⟩
        replace H : ((spec_recordNode.f (⟨#[]⟩ : ByteArray) y192).bind fun bt195 => (if x6_1.length < 1466015503701 then (spec_BuddyinfoTree.l0 k2 (x6_1 ++ [(⟨bt195.1, bt195.2.1, bt195.2.2.1, bt195.2.2.2.1, bt195.2.2.2.2.1, bt195.2.2.2.2.2.1, bt195.2.2.2.2.2.2.1, bt195.2.2.2.2.2.2.2⟩ : S39)]) l0 (l0.length : Int) (wrap64 (x22_1 + 1))) else (none))) = some (r1, r2, r3, r4, r5, r6, r7, r8, r9) := by first | (rw [hy192]; with_reducible exact H) | (have H2_ := (Option.bind_some _ _).symm.trans H; rw [hy192]; with_reducible exact H2_) | (have H2_ := (Option.bind_some _ _).symm.trans H; with_reducible exact H2_) | with_reducible exact H | (rw [hy192]; exact H) | exact H
        have Ny192 := Aside0.mk hy192
        clear hy192
        replace H := Option.bind_eq_some_iff.mp H
        obtain ⟨⟨t195, t196, t197, t198, t199, t200, t201, t202⟩, A250, H⟩ := H
        replace H : (if x6_1.length < 1466015503701 then (spec_BuddyinfoTree.l0 k2 (x6_1 ++ [(⟨t195, t196, t197, t198, t199, t200, t201, t202⟩ : S39)]) l0 (l0.length : Int) (wrap64 (x22_1 + 1))) else (none)) = some (r1, r2, r3, r4, r5, r6, r7, r8, r9) := H
        have A25 := Aside0.mk A250
        clear A250
        replace H := guard_inv H
        obtain ⟨c26, H⟩ := H
        have LMc26 := Aside0.mk c26
        clear c26
        obtain ⟨y205, hy205⟩ : ∃ y_ : List (S39), y_ = (x6_1 ++ [(⟨t195, t196, t197, t198, t199, t200, t201, t202⟩ : S39)]) := ⟨_, rfl⟩
        replace H : (spec_BuddyinfoTree.l0 k2 y205 l0 (l0.length : Int) (wrap64 (x22_1 + 1))) = some (r1, r2, r3, r4, r5, r6, r7, r8, r9) := by first | (rw [hy205]; with_reducible exact H) | (have H2_ := (Option.bind_some _ _).symm.trans H; rw [hy205]; with_reducible exact H2_) | (have H2_ := (Option.bind_some _ _).symm.trans H; with_reducible exact H2_) | with_reducible exact H | (rw [hy205]; exact H) | exact H
        have Ny205 := Aside0.mk hy205
        clear hy205
        have H' := Aside0.mk H
        clear H
        try go_wp2
        have n0_ := Aside0.mk (Kd.N_drew HO_6.out)
        have n1_ := Aside0.mk (Kd.N_drew HO_9.out)
        have n2_ := Aside0.mk (blk_drew BK131.out)
        have n3_ := Aside0.mk (blk_drew BK145.out)
        have n4_ := Aside0.mk (below_drew1 HB.out)
        clear HO_6
        clear HO_9
        clear BK131
        clear BK145
        clear HB
        have HO_6 := n0_
        have HO_9 := n1_
        have BK131 := n2_
        have BK145 := n3_
        have HB := n4_
        clear n0_ n1_ n2_ n3_ n4_
        have p160 : 0 ≤ (0 : Int) := (by omega)
        have q160 : 0 < (((rd_T31 l0 x22_1).f2).length : Int) := of_decide_eq_true (by first | (with_reducible assumption) | assumption)
        obtain ⟨ad160, e160, hx160_0⟩ := Kd.at_string HR144_2.out 0 p160 q160
        have hw160_0 := hx160_0
        (try rw [show ((0 : Int)).toNat = 0 from rfl] at hw160_0)
        (try rw [show 0 * 1 = 0 from rfl] at hw160_0)
        (try rw [Addr.add_zero'] at hw160_0)
        cases e160
        have qi160 : (0 < ((rd_T31 l0 x22_1).f2).length) = True := eq_true (by omega)
        (try rw [show ((0 : Int)).toNat = 0 from rfl] at hx160_0)
        (try rw [Addr.add_zero'] at hx160_0)
        replace hx160_0 := (HB.out.cell (World.block_lt_of_cell? w _ hx160_0)).trans hx160_0
        replace p160 := eq_true p160
        replace q160 := eq_true q160
        have p171 : 0 ≤ (1 : Int) := (by omega)
        have q171 : 1 < (((rd_T31 l0 x22_1).f2).length : Int) := of_decide_eq_true (by first | (with_reducible assumption) | assumption)
        obtain ⟨ad171, e171, hx171_0⟩ := Kd.at_string HR144_2.out 1 p171 q171
        have hw171_0 := hx171_0
        (try rw [show ((1 : Int)).toNat = 1 from rfl] at hw171_0)
        (try rw [show 1 * 1 = 1 from rfl] at hw171_0)
        (try simp only [Nat.reduceMul, Nat.reduceEqDiff, Go.Addr.add, ↓reduceIte] at hw171_0)
        obtain rfl : ad160 = ad171 := (by injection e171)
        (try simp only [show (1 : Int).toNat = 1 from rfl, Nat.reduceMul, Nat.reduceEqDiff, Go.Addr.add, ↓reduceIte] at hx171_0)
        have qi171 : (1 < ((rd_T31 l0 x22_1).f2).length) = True := eq_true (by omega)
        (try rw [show ((1 : Int)).toNat = 1 from rfl] at hx171_0)
        replace hx171_0 := (HB.out.cell (World.block_lt_of_cell? w _ hx171_0)).trans hx171_0
        replace p171 := eq_true p171
        replace q171 := eq_true q171
        refine start_ (n := 18) (S := fun w' => w'.cell? ⟨gb145, 0, none⟩ = some (.string ((rd_T31 l0 x22_1).f0)) ∧ w'.cell? ⟨gb145, 1, none⟩ = some (.slice A144_1 ((rd_T31 l0 x22_1).f1).length c144_1) ∧ w'.cell? ⟨gb145, 2, none⟩ = some (.slice (some ad160) ((rd_T31 l0 x22_1).f2).length c144_2) ∧ w'.cell? ad160 = some (.string (rdOf ByteArray.empty ((rd_T31 l0 x22_1).f2) 0)) ∧ w'.cell? ⟨ad160.block, ad160.off + 1, none⟩ = some (.string (rdOf ByteArray.empty ((rd_T31 l0 x22_1).f2) 1))) (ds := []) (bb [0, 18]) (by kernel_rfl) rfl rfl ⟨(blk_cell BK145.out 0).trans rfl, (blk_cell BK145.out 1).trans rfl, (blk_cell BK145.out 2).trans rfl, ((HB.out.cell (World.block_lt_of_cell? w _ hw160_0)).trans hw160_0), ((HB.out.cell (World.block_lt_of_cell? w _ hw171_0)).trans hw171_0)⟩ (fun hHeld => ?_); refine with_tabW spec_BuddyinfoTree.tab14 spec_BuddyinfoTree.bits14 (fun HT_ HW_ => ?_)
        generalize wr.drew = w27 at HO_6 HO_9 BK131 BK145 HB hx160_0 hx171_0 hHeld ⊢
        refine pure_ (i := 0) (N := some 40) (v := ?_) (a' := ?_) (bb [1, 17]) rfl rfl (any_of HT_.out (by kernel_rfl)) (fun _ _ _ h => h) (Or.inl ⟨by rfl, ?_⟩) ?_ ?_
        rotate_left
        ·intro w'
         go_simp
         with_reducible rfl
        rotate_left
        ·simp only [Act.put, List.setIfInBounds_toArray, List.set_cons_zero, List.set_cons_succ, i64_w, i32_w]
         rfl
        refine pure_ (i := 1) (N := some 41) (v := ?_) (a' := ?_) (bb [2, 16]) rfl rfl (any_of HT_.out (by kernel_rfl)) (fun _ _ _ h => h) (Or.inl ⟨by rfl, ?_⟩) ?_ ?_
        rotate_left
        ·intro w'
         go_simp
         with_reducible rfl
        rotate_left
        ·simp only [Act.put, List.setIfInBounds_toArray, List.set_cons_zero, List.set_cons_succ, i64_w, i32_w]
         rfl
        refine pure_ (i := 6) (N := some 46) (v := ?_) (a' := ?_) (bb [2, 4, 1, 11]) rfl rfl (any_of HT_.out (by kernel_rfl)) (fun _ _ _ h => h) (Or.inl ⟨by rfl, ?_⟩) ?_ ?_
        rotate_left
        ·intro w'
         go_simp
         with_reducible rfl
        rotate_left
        ·simp only [Act.put, List.setIfInBounds_toArray, List.set_cons_zero, List.set_cons_succ, i64_w, i32_w]
         rfl
        refine pure_ (i := 11) (N := some 51) (v := ?_) (a' := ?_) (bb [2, 4, 1, 4, 1, 6]) rfl rfl (any_of HT_.out (by kernel_rfl)) (fun _ _ _ h => h) (Or.inl ⟨by rfl, ?_⟩) ?_ ?_
        rotate_left
        ·intro w'
         go_simp
         with_reducible rfl
        rotate_left
        ·simp only [Act.put, List.setIfInBounds_toArray, List.set_cons_zero, List.set_cons_succ, i64_w, i32_w]
         rfl
        refine take_ (i := 2) (N := some 42) (v := ?_) (a' := ?_) (bb [3, 3, 1, 4, 1, 6]) rfl rfl (take_ofW HT_.out HW_.out (by kernel_rfl)) (fun _ _ _ h => h) (Or.inl ⟨by rfl, ?_⟩) hHeld ?_ ?_
        rotate_left
        ·rintro w' ⟨s0, s1, s2, s3, s4⟩
         go_simp
         with_reducible rfl
        rotate_left
        ·simp only [Act.put, List.setIfInBounds_toArray, List.set_cons_zero, List.set_cons_succ, i64_w, i32_w]
         rfl
        refine pure_ (i := 3) (N := some 43) (v := ?_) (a' := ?_) (bb [4, 2, 1, 4, 1, 6]) rfl rfl (any_of HT_.out (by kernel_rfl)) (fun _ _ _ h => h) (Or.inl ⟨by rfl, ?_⟩) ?_ ?_
        rotate_left
        ·intro w'
         go_simp
         with_reducible rfl
        rotate_left
        ·simp only [Act.put, List.setIfInBounds_toArray, List.set_cons_zero, List.set_cons_succ, i64_w, i32_w]
         rfl
        refine take_ (i := 4) (N := some 44) (v := ?_) (a' := ?_) (bb [5, 1, 1, 4, 1, 6]) rfl rfl (take_ofW HT_.out HW_.out (by kernel_rfl)) (fun _ _ _ h => h) (Or.inl ⟨by rfl, ?_⟩) hHeld ?_ ?_
        rotate_left
        ·rintro w' ⟨s0, s1, s2, s3, s4⟩
         go_simp
         with_reducible rfl
        rotate_left
        ·simp only [Act.put, List.setIfInBounds_toArray, List.set_cons_zero, List.set_cons_succ, i64_w, i32_w]
         rfl
        refine take_ (i := 7) (N := some 47) (v := ?_) (a' := ?_) (bb [5, 1, 2, 3, 1, 6]) rfl rfl (take_ofW HT_.out HW_.out (by kernel_rfl)) (fun _ _ _ h => h) (Or.inl ⟨by rfl, ?_⟩) hHeld ?_ ?_
        rotate_left
        ·rintro w' ⟨s0, s1, s2, s3, s4⟩
         go_simp
         with_reducible rfl
        rotate_left
        ·simp only [Act.put, List.setIfInBounds_toArray, List.set_cons_zero, List.set_cons_succ, i64_w, i32_w]
         rfl
        refine pure_ (i := 8) (N := some 48) (v := ?_) (a' := ?_) (bb [5, 1, 3, 2, 1, 6]) rfl rfl (any_of HT_.out (by kernel_rfl)) (fun _ _ _ h => h) (Or.inl ⟨by rfl, ?_⟩) ?_ ?_
        rotate_left
        ·intro w'
         go_simp
         with_reducible rfl
        rotate_left
        ·simp only [Act.put, List.setIfInBounds_toArray, List.set_cons_zero, List.set_cons_succ, i64_w, i32_w]
         rfl
        refine take_ (i := 9) (N := some 49) (v := ?_) (a' := ?_) (bb [5, 1, 4, 1, 1, 6]) rfl rfl (take_ofW HT_.out HW_.out (by kernel_rfl)) (fun _ _ _ h => h) (Or.inl ⟨by rfl, ?_⟩) hHeld ?_ ?_
        rotate_left
        ·rintro w' ⟨s0, s1, s2, s3, s4⟩
         go_simp
         with_reducible rfl
        rotate_left
        ·simp only [Act.put, List.setIfInBounds_toArray, List.set_cons_zero, List.set_cons_succ, i64_w, i32_w]
         rfl
        refine one_ (i := 5) (N := some 45) (bb [10, 1, 1, 6]) rfl rfl (one_of HT_.out (by kernel_rfl)) (by decide) (fun K hK => ?_)
        refine goes_ Tryz.func65 (by kernel_rfl) rfl #[.string (⟨#[78, 111, 100, 101]⟩ : ByteArray), .string (rdOf ByteArray.empty ((rd_T31 l0 x22_1).f2) 0)] (by rfl) rfl rfl (by (try simp only [List.map_toArray, List.map_cons, List.map_nil]); first | done | rfl | (simp only [List.length_drop, List.length_take]; rfl)) ?_
        with_reducible refine (spec_textNode.calls (⟨#[78, 111, 100, 101]⟩ : ByteArray) (rdOf ByteArray.empty ((rd_T31 l0 x22_1).f2) 0) t161 t162 t163 t164 t165 t166 t167 t168 _ A21.out).mono ?_
        rintro e w28 ⟨v169, rfl, ho0, hb⟩
        refine ⟨_, rfl, ?_⟩
        have n0_ := Aside0.mk (Kd.N_elder' (by (with_reducible repeat (first | apply Kd.N_alloc | apply Kd.N_drewN | apply Kd.N_drew)); exact HO_6.out) (by first | exact Kd.N_base ho0 | exact Kd.R_base ho0) hb)
        have n1_ := Aside0.mk (Kd.N_elder' (by (with_reducible repeat (first | apply Kd.N_alloc | apply Kd.N_drewN | apply Kd.N_drew)); exact HO_9.out) (by first | exact Kd.N_base ho0 | exact Kd.R_base ho0) hb)
        have n2_ := Aside0.mk (Kd.N_lower (Kd.N_mono (ok' := fun k_ => (w.heap.size ≤ k_) ∧ some k_ ≠ (u6 : Value).ownBlock ∧ some k_ ≠ (u9 : Value).ownBlock ∧ k_ ≠ gb131 ∧ k_ ≠ gb145) (Kd.R_N (Kd.R_bound ho0)) (fun k_ hk_ => ⟨(Nat.le_trans (below_size (by repeat (first | (with_reducible first | exact HB.out | apply below_alloc | apply pw_below_drewN | apply below_drew1 | refine below_set ?_ GE131.out | refine below_set ?_ GE145.out) | exact HB.out))) hk_.2.1), (Kd.fresh' (Kd.N_lt (by (with_reducible repeat (first | apply Kd.N_alloc | apply Kd.N_drewN | apply Kd.N_drew)); exact HO_6.out)) k_ hk_.2.1), (Kd.fresh' (Kd.N_lt (by (with_reducible repeat (first | apply Kd.N_alloc | apply Kd.N_drewN | apply Kd.N_drew)); exact HO_9.out)) k_ hk_.2.1), (Kd.freshB (g := gb131) (o := .cells #[.string (⟨#[]⟩ : ByteArray), .int .i64 0, .bool false, .int .i64 0, .int .u64 0, .float .f64 0, .string (⟨#[]⟩ : ByteArray), .slice none 0 0] 39 (0, 0)) (by (with_reducible repeat (first | refine blk_drewN ?_ _ | refine blk_drew ?_ | refine blk_alloc ?_ _)); exact BK131.out) k_ hk_.2.1), (Kd.freshB (g := gb145) (o := .cells #[.string ((rd_T31 l0 x22_1).f0), .slice A144_1 ((rd_T31 l0 x22_1).f1).length c144_1, .slice (some ad160) ((rd_T31 l0 x22_1).f2).length c144_2] 31 (0, 0)) (by (with_reducible repeat (first | refine blk_drewN ?_ _ | refine blk_drew ?_ | refine blk_alloc ?_ _)); exact BK145.out) k_ hk_.2.1)⟩)) (below_size (by repeat (first | (with_reducible first | exact HB.out | apply below_alloc | apply pw_below_drewN | apply below_drew1 | refine below_set ?_ GE131.out | refine below_set ?_ GE145.out) | exact HB.out))))
        have n3_ := Aside0.mk (blk_below (g := gb131) (o := .cells #[.string (⟨#[]⟩ : ByteArray), .int .i64 0, .bool false, .int .i64 0, .int .u64 0, .float .f64 0, .string (⟨#[]⟩ : ByteArray), .slice none 0 0] 39 (0, 0)) (by (with_reducible repeat (first | refine blk_drewN ?_ _ | refine blk_drew ?_ | refine blk_alloc ?_ _)); exact BK131.out) hb)
        have n4_ := Aside0.mk (blk_below (g := gb145) (o := .cells #[.string ((rd_T31 l0 x22_1).f0), .slice A144_1 ((rd_T31 l0 x22_1).f1).length c144_1, .slice (some ad160) ((rd_T31 l0 x22_1).f2).length c144_2] 31 (0, 0)) (by (with_reducible repeat (first | refine blk_drewN ?_ _ | refine blk_drew ?_ | refine blk_alloc ?_ _)); exact BK145.out) hb)
        have n5_ := Aside0.mk (below_step (by repeat (first | (with_reducible first | exact HB.out | apply below_alloc | apply pw_below_drewN | apply below_drew1 | refine below_set ?_ GE131.out | refine below_set ?_ GE145.out) | exact HB.out)) hb)
        clear HO_6
        clear HO_9
        clear BK131
        clear BK145
        clear HB
        have HO_6 := n0_
        have HO_9 := n1_
        have HO170 := n2_
        have BK131 := n3_
        have BK145 := n4_
        have HB := n5_
        clear n0_ n1_ n2_ n3_ n4_ n5_
        (try clear hb)
        (try clear hb2)
        (try clear hk)
        (try clear hi)
        (try clear ho0)
        refine hK.out _ _ ⟨(blk_cell BK145.out 0).trans rfl, (blk_cell BK145.out 1).trans rfl, (blk_cell BK145.out 2).trans rfl, ((HB.out.cell (World.block_lt_of_cell? w _ hw160_0)).trans hw160_0), ((HB.out.cell (World.block_lt_of_cell? w _ hw171_0)).trans hw171_0)⟩ (fun hHeld => ?_)
        clear hK K
        refine norm_ (a' := ?_) ?_ ?_
        rotate_left
        ·show Act.put _ (some 45) _ = _
         simp only [Act.put, List.setIfInBounds_toArray, List.set_cons_zero, List.set_cons_succ, i64_w, i32_w]
         rfl
        refine one_ (i := 10) (N := some 50) (bb [12, 6]) rfl rfl (one_of HT_.out (by kernel_rfl)) (by decide) (fun K hK => ?_)
        refine goes_ Tryz.func65 (by kernel_rfl) rfl #[.string (⟨#[90, 111, 110, 101]⟩ : ByteArray), .string (rdOf ByteArray.empty ((rd_T31 l0 x22_1).f2) 1)] (by rfl) rfl rfl (by (try simp only [List.map_toArray, List.map_cons, List.map_nil]); first | done | rfl | (simp only [List.length_drop, List.length_take]; rfl)) ?_
        with_reducible refine (spec_textNode.calls (⟨#[90, 111, 110, 101]⟩ : ByteArray) (rdOf ByteArray.empty ((rd_T31 l0 x22_1).f2) 1) t172 t173 t174 t175 t176 t177 t178 t179 _ A23.out).mono ?_
        rintro e w29 ⟨v180, rfl, ho0, hb⟩
        refine ⟨_, rfl, ?_⟩
        have n0_ := Aside0.mk (Kd.N_elder' (by (with_reducible repeat (first | apply Kd.N_alloc | apply Kd.N_drewN | apply Kd.N_drew)); exact HO_6.out) (by first | exact Kd.N_base ho0 | exact Kd.R_base ho0) hb)
        have n1_ := Aside0.mk (Kd.N_elder' (by (with_reducible repeat (first | apply Kd.N_alloc | apply Kd.N_drewN | apply Kd.N_drew)); exact HO_9.out) (by first | exact Kd.N_base ho0 | exact Kd.R_base ho0) hb)
        have n2_ := Aside0.mk (Kd.N_elder' (by (with_reducible repeat (first | apply Kd.N_alloc | apply Kd.N_drewN | apply Kd.N_drew)); exact HO170.out) (by first | exact Kd.N_base ho0 | exact Kd.R_base ho0) hb)
        have n3_ := Aside0.mk (Kd.N_lower (Kd.N_mono (ok' := fun k_ => (w.heap.size ≤ k_) ∧ some k_ ≠ (u6 : Value).ownBlock ∧ some k_ ≠ (u9 : Value).ownBlock ∧ some k_ ≠ (v169 : Value).ownBlock ∧ k_ ≠ gb131 ∧ k_ ≠ gb145) (Kd.R_N (Kd.R_bound ho0)) (fun k_ hk_ => ⟨(Nat.le_trans (below_size (by repeat (first | (with_reducible first | exact HB.out | apply below_alloc | apply pw_below_drewN | apply below_drew1 | refine below_set ?_ GE131.out | refine below_set ?_ GE145.out) | exact HB.out))) hk_.2.1), (Kd.fresh' (Kd.N_lt (by (with_reducible repeat (first | apply Kd.N_alloc | apply Kd.N_drewN | apply Kd.N_drew)); exact HO_6.out)) k_ hk_.2.1), (Kd.fresh' (Kd.N_lt (by (with_reducible repeat (first | apply Kd.N_alloc | apply Kd.N_drewN | apply Kd.N_drew)); exact HO_9.out)) k_ hk_.2.1), (Kd.fresh' (Kd.N_lt (by (with_reducible repeat (first | apply Kd.N_alloc | apply Kd.N_drewN | apply Kd.N_drew)); exact HO170.out)) k_ hk_.2.1), (Kd.freshB (g := gb131) (o := .cells #[.string (⟨#[]⟩ : ByteArray), .int .i64 0, .bool false, .int .i64 0, .int .u64 0, .float .f64 0, .string (⟨#[]⟩ : ByteArray), .slice none 0 0] 39 (0, 0)) (by (with_reducible repeat (first | refine blk_drewN ?_ _ | refine blk_drew ?_ | refine blk_alloc ?_ _)); exact BK131.out) k_ hk_.2.1), (Kd.freshB (g := gb145) (o := .cells #[.string ((rd_T31 l0 x22_1).f0), .slice A144_1 ((rd_T31 l0 x22_1).f1).length c144_1, .slice (some ad160) ((rd_T31 l0 x22_1).f2).length c144_2] 31 (0, 0)) (by (with_reducible repeat (first | refine blk_drewN ?_ _ | refine blk_drew ?_ | refine blk_alloc ?_ _)); exact BK145.out) k_ hk_.2.1)⟩)) (below_size (by repeat (first | (with_reducible first | exact HB.out | apply below_alloc | apply pw_below_drewN | apply below_drew1 | refine below_set ?_ GE131.out | refine below_set ?_ GE145.out) | exact HB.out))))
        have n4_ := Aside0.mk (blk_below (g := gb131) (o := .cells #[.string (⟨#[]⟩ : ByteArray), .int .i64 0, .bool false, .int .i64 0, .int .u64 0, .float .f64 0, .string (⟨#[]⟩ : ByteArray), .slice none 0 0] 39 (0, 0)) (by (with_reducible repeat (first | refine blk_drewN ?_ _ | refine blk_drew ?_ | refine blk_alloc ?_ _)); exact BK131.out) hb)
        have n5_ := Aside0.mk (blk_below (g := gb145) (o := .cells #[.string ((rd_T31 l0 x22_1).f0), .slice A144_1 ((rd_T31 l0 x22_1).f1).length c144_1, .slice (some ad160) ((rd_T31 l0 x22_1).f2).length c144_2] 31 (0, 0)) (by (with_reducible repeat (first | refine blk_drewN ?_ _ | refine blk_drew ?_ | refine blk_alloc ?_ _)); exact BK145.out) hb)
        have n6_ := Aside0.mk (below_step (by repeat (first | (with_reducible first | exact HB.out | apply below_alloc | apply pw_below_drewN | apply below_drew1 | refine below_set ?_ GE131.out | refine below_set ?_ GE145.out) | exact HB.out)) hb)
        clear HO_6
        clear HO_9
        clear HO170
        clear BK131
        clear BK145
        clear HB
        have HO_6 := n0_
        have HO_9 := n1_
        have HO170 := n2_
        have HO181 := n3_
        have BK131 := n4_
        have BK145 := n5_
        have HB := n6_
        clear n0_ n1_ n2_ n3_ n4_ n5_ n6_
        (try clear hb)
        (try clear hb2)
        (try clear hk)
        (try clear hi)
        (try clear ho0)
        obtain ⟨Ao30, co30, eo30⟩ := Kd.N_slice HO_9.out
        (first | subst eo30 | (injection eo30 with f1_ f2_ f3_; have f4_ := f1_.symm; have f5_ := f3_.symm; clear f1_ f2_ f3_; subst f4_; subst f5_))
        refine hK.out _ _ ⟨(blk_cell BK145.out 0).trans rfl, (blk_cell BK145.out 1).trans rfl, (blk_cell BK145.out 2).trans rfl, ((HB.out.cell (World.block_lt_of_cell? w _ hw160_0)).trans hw160_0), ((HB.out.cell (World.block_lt_of_cell? w _ hw171_0)).trans hw171_0)⟩ (fun hHeld => ?_)
        clear hK K
        refine norm_ (a' := ?_) ?_ ?_
        rotate_left
        ·show Act.put _ (some 50) _ = _
         simp only [Act.put, List.setIfInBounds_toArray, List.set_cons_zero, List.set_cons_succ, i64_w, i32_w]
         rfl
        refine one_ (i := 12) (N := some 52) (bb [13, 5]) rfl rfl (one_of HT_.out (by kernel_rfl)) (by decide) (fun K hK => ?_)
        refine goes_ Tryz.func66 (by kernel_rfl) rfl #[.string (⟨#[83, 105, 122, 101, 115]⟩ : ByteArray), .slice Ao30 x9_2.length co30] (by rfl) rfl rfl (by (try simp only [List.map_toArray, List.map_cons, List.map_nil]); first | done | rfl | (simp only [List.length_drop, List.length_take]; rfl)) ?_
        with_reducible refine (spec_listNode.calls (⟨#[83, 105, 122, 101, 115]⟩ : ByteArray) (fun k_ => ((((w.heap.size ≤ k_) ∧ (some k_ ≠ (u6 : Value).ownBlock ∧ (k_ ≠ gb131 ∧ k_ ≠ gb145))) ∧ some k_ ≠ (v169 : Value).ownBlock) ∧ some k_ ≠ (v180 : Value).ownBlock)) _ _ x9_2 t182 t183 t184 t185 t186 t187 t188 t189 _ ?side1 A24.out).mono ?_
        (case side1 => exact Kd.N_V (HO_9.out))
        rintro e w31 ⟨v190, rfl, ho0, hb⟩
        refine ⟨_, rfl, ?_⟩
        have n0_ := Aside0.mk (Kd.N_below (by (with_reducible repeat (first | apply Kd.N_alloc | apply Kd.N_drewN | apply Kd.N_drew)); exact HO_6.out) hb)
        have n1_ := Aside0.mk (Kd.N_below (by (with_reducible repeat (first | apply Kd.N_alloc | apply Kd.N_drewN | apply Kd.N_drew)); exact HO_9.out) hb)
        have n2_ := Aside0.mk (Kd.N_below (by (with_reducible repeat (first | apply Kd.N_alloc | apply Kd.N_drewN | apply Kd.N_drew)); exact HO170.out) hb)
        have n3_ := Aside0.mk (Kd.N_below (by (with_reducible repeat (first | apply Kd.N_alloc | apply Kd.N_drewN | apply Kd.N_drew)); exact HO181.out) hb)
        have n4_ := Aside0.mk (Kd.V_lower (Kd.V_mono (ok' := fun k_ => (w.heap.size ≤ k_) ∧ some k_ ≠ (u6 : Value).ownBlock ∧ some k_ ≠ (v169 : Value).ownBlock ∧ some k_ ≠ (v180 : Value).ownBlock ∧ k_ ≠ gb131 ∧ k_ ≠ gb145) ho0 (fun k_ hk_ => ⟨Or.elim hk_ (fun hs_ => hs_.1.1.1) (fun hn_ => (Nat.le_trans (below_size (by repeat (first | (with_reducible first | exact HB.out | apply below_alloc | apply pw_below_drewN | apply below_drew1 | refine below_set ?_ GE131.out | refine below_set ?_ GE145.out) | exact HB.out))) hn_)), Or.elim hk_ (fun hs_ => hs_.1.1.2.1) (fun hn_ => (Kd.fresh' (Kd.N_lt (by (with_reducible repeat (first | apply Kd.N_alloc | apply Kd.N_drewN | apply Kd.N_drew)); exact HO_6.out)) k_ hn_)), Or.elim hk_ (fun hs_ => hs_.1.2) (fun hn_ => (Kd.fresh' (Kd.N_lt (by (with_reducible repeat (first | apply Kd.N_alloc | apply Kd.N_drewN | apply Kd.N_drew)); exact HO170.out)) k_ hn_)), Or.elim hk_ (fun hs_ => hs_.2) (fun hn_ => (Kd.fresh' (Kd.N_lt (by (with_reducible repeat (first | apply Kd.N_alloc | apply Kd.N_drewN | apply Kd.N_drew)); exact HO181.out)) k_ hn_)), Or.elim hk_ (fun hs_ => hs_.1.1.2.2.1) (fun hn_ => (Kd.freshB (g := gb131) (o := .cells #[.string (⟨#[]⟩ : ByteArray), .int .i64 0, .bool false, .int .i64 0, .int .u64 0, .float .f64 0, .string (⟨#[]⟩ : ByteArray), .slice none 0 0] 39 (0, 0)) (by (with_reducible repeat (first | refine blk_drewN ?_ _ | refine blk_drew ?_ | refine blk_alloc ?_ _)); exact BK131.out) k_ hn_)), Or.elim hk_ (fun hs_ => hs_.1.1.2.2.2) (fun hn_ => (Kd.freshB (g := gb145) (o := .cells #[.string ((rd_T31 l0 x22_1).f0), .slice A144_1 ((rd_T31 l0 x22_1).f1).length c144_1, .slice (some ad160) ((rd_T31 l0 x22_1).f2).length c144_2] 31 (0, 0)) (by (with_reducible repeat (first | refine blk_drewN ?_ _ | refine blk_drew ?_ | refine blk_alloc ?_ _)); exact BK145.out) k_ hn_))⟩)) (below_size (by repeat (first | (with_reducible first | exact HB.out | apply below_alloc | apply pw_below_drewN | apply below_drew1 | refine below_set ?_ GE131.out | refine below_set ?_ GE145.out) | exact HB.out))))
        have n5_ := Aside0.mk (blk_below (g := gb131) (o := .cells #[.string (⟨#[]⟩ : ByteArray), .int .i64 0, .bool false, .int .i64 0, .int .u64 0, .float .f64 0, .string (⟨#[]⟩ : ByteArray), .slice none 0 0] 39 (0, 0)) (by (with_reducible repeat (first | refine blk_drewN ?_ _ | refine blk_drew ?_ | refine blk_alloc ?_ _)); exact BK131.out) hb)
        have n6_ := Aside0.mk (blk_below (g := gb145) (o := .cells #[.string ((rd_T31 l0 x22_1).f0), .slice A144_1 ((rd_T31 l0 x22_1).f1).length c144_1, .slice (some ad160) ((rd_T31 l0 x22_1).f2).length c144_2] 31 (0, 0)) (by (with_reducible repeat (first | refine blk_drewN ?_ _ | refine blk_drew ?_ | refine blk_alloc ?_ _)); exact BK145.out) hb)
        have n7_ := Aside0.mk (below_step (by repeat (first | (with_reducible first | exact HB.out | apply below_alloc | apply pw_below_drewN | apply below_drew1 | refine below_set ?_ GE131.out | refine below_set ?_ GE145.out) | exact HB.out)) hb)
        clear HO_6
        clear HO_9
        clear HO170
        clear HO181
        clear BK131
        clear BK145
        clear HB
        have HO_6 := n0_
        have HO_9 := n1_
        have HO170 := n2_
        have HO181 := n3_
        have HO191 := n4_
        have BK131 := n5_
        have BK145 := n6_
        have HB := n7_
        clear n0_ n1_ n2_ n3_ n4_ n5_ n6_ n7_
        (try clear hb)
        (try clear hb2)
        (try clear hk)
        (try clear hi)
        (try clear ho0)
        obtain ⟨Ao32, co32, eo32⟩ := Kd.N_slice HO170.out
        (first | subst eo32 | (injection eo32 with f1_ f2_ f3_; have f4_ := f1_.symm; have f5_ := f3_.symm; clear f1_ f2_ f3_; subst f4_; subst f5_))
        obtain ⟨Ao33, co33, eo33⟩ := Kd.N_slice HO181.out
        (first | subst eo33 | (injection eo33 with f1_ f2_ f3_; have f4_ := f1_.symm; have f5_ := f3_.symm; clear f1_ f2_ f3_; subst f4_; subst f5_))
        obtain ⟨Ao34, co34, eo34⟩ := Kd.V_slice HO191.out
        (first | subst eo34 | (injection eo34 with f1_ f2_ f3_; have f4_ := f1_.symm; have f5_ := f3_.symm; clear f1_ f2_ f3_; subst f4_; subst f5_))
        refine hK.out _ _ ⟨(blk_cell BK145.out 0).trans rfl, (blk_cell BK145.out 1).trans rfl, (blk_cell BK145.out 2).trans rfl, ((HB.out.cell (World.block_lt_of_cell? w _ hw160_0)).trans hw160_0), ((HB.out.cell (World.block_lt_of_cell? w _ hw171_0)).trans hw171_0)⟩ (fun hHeld => ?_)
        clear hK K
        refine norm_ (a' := ?_) ?_ ?_
        rotate_left
        ·show Act.put _ (some 52) _ = _
         simp only [Act.put, List.setIfInBounds_toArray, List.set_cons_zero, List.set_cons_succ, i64_w, i32_w]
         rfl
        refine one_ (i := 13) (N := some 53) (bb [14, 4]) rfl rfl (one_of HT_.out (by kernel_rfl)) (by decide) (fun K hK => ?_)
        refine Kd.N_lit_step k39 _ 39 ?hg (N' := 53) ?hd (xs := ([(⟨t161, t162, t163, t164, t165, t166, t167, t168⟩ : S39), (⟨t172, t173, t174, t175, t176, t177, t178, t179⟩ : S39), (⟨t182, t183, t184, t185, t186, t187, t188, t189⟩ : S39)] : List (S39))) (inner := [.string t161, .int .i64 t162, .bool t163, .int .i64 t164, .int .u64 t165, .float .f64 t166, .string t167, .slice Ao32 t168.length co32, .string t172, .int .i64 t173, .bool t174, .int .i64 t175, .int .u64 t176, .float .f64 t177, .string t178, .slice Ao33 t179.length co33, .string t182, .int .i64 t183, .bool t184, .int .i64 t185, .int .u64 t186, .float .f64 t187, .string t188, .slice Ao34 t189.length co34]) (ok := (fun k_ => (w.heap.size ≤ k_) ∧ some k_ ≠ (u6 : Value).ownBlock ∧ k_ ≠ gb131 ∧ k_ ≠ gb145)) (okp := (fun k_ => (w.heap.size ≤ k_) ∧ some k_ ≠ (u6 : Value).ownBlock ∧ k_ ≠ gb131 ∧ k_ ≠ gb145)) ?hr ?hp (fun _ hk => hk) ((show ∀ k_, w31.heap.size ≤ k_ → (fun k_ => (w.heap.size ≤ k_) ∧ some k_ ≠ (u6 : Value).ownBlock ∧ k_ ≠ gb131 ∧ k_ ≠ gb145) k_ from fun k_ hk => ⟨(Nat.le_trans (below_size (by repeat (first | (with_reducible first | exact HB.out | apply below_alloc | apply pw_below_drewN | apply below_drew1 | refine below_set ?_ GE131.out | refine below_set ?_ GE145.out) | exact HB.out))) hk), Kd.fresh' (Kd.N_lt (by (with_reducible repeat (first | apply Kd.N_alloc | apply Kd.N_drewN | apply Kd.N_drew)); exact HO_6.out)) k_ hk, Kd.freshB (g := gb131) (o := .cells #[.string (⟨#[]⟩ : ByteArray), .int .i64 0, .bool false, .int .i64 0, .int .u64 0, .float .f64 0, .string (⟨#[]⟩ : ByteArray), .slice none 0 0] 39 (0, 0)) (by (with_reducible repeat (first | refine blk_drewN ?_ _ | refine blk_drew ?_ | refine blk_alloc ?_ _)); exact BK131.out) k_ hk, Kd.freshB (g := gb145) (o := .cells #[.string ((rd_T31 l0 x22_1).f0), .slice A144_1 ((rd_T31 l0 x22_1).f1).length c144_1, .slice (some ad160) ((rd_T31 l0 x22_1).f2).length c144_2] 31 (0, 0)) (by (with_reducible repeat (first | refine blk_drewN ?_ _ | refine blk_drew ?_ | refine blk_alloc ?_ _)); exact BK145.out) k_ hk⟩) _ (Nat.le_refl _)) (Below.refl _ _) (Nat.le_refl _) (by simp) ?_; (case hd => rfl); (case hg => rfl); (case hr => first | (go_simp; done) | (go_simp; rfl)); (case hp => exact (Reps.c8 (show Kd.FK k39 _ _ (⟨t161, t162, t163, t164, t165, t166, t167, t168⟩ : S39) [.string t161, .int .i64 t162, .bool t163, .int .i64 t164, .int .u64 t165, .float .f64 t166, .string t167, .slice Ao32 t168.length co32] from (k39_mkF _ _ (⟨t161, t162, t163, t164, t165, t166, t167, t168⟩ : S39) (Kd.N_reads' (Kd.N_mono (ok' := (fun k_ => (w.heap.size ≤ k_) ∧ some k_ ≠ (u6 : Value).ownBlock ∧ k_ ≠ gb131 ∧ k_ ≠ gb145)) (HO170.out) (fun k_ hk => ⟨hk.1.1, ⟨hk.1.2.1, ⟨hk.1.2.2.2.1, hk.1.2.2.2.2⟩⟩⟩))).2.1 (Kd.N_F (Kd.N_mono (ok' := (fun k_ => (w.heap.size ≤ k_) ∧ some k_ ≠ (u6 : Value).ownBlock ∧ k_ ≠ gb131 ∧ k_ ≠ gb145)) (HO170.out) (fun k_ hk => ⟨hk.1.1, ⟨hk.1.2.1, ⟨hk.1.2.2.2.1, hk.1.2.2.2.2⟩⟩⟩))))) (Reps.c8 (show Kd.FK k39 _ _ (⟨t172, t173, t174, t175, t176, t177, t178, t179⟩ : S39) [.string t172, .int .i64 t173, .bool t174, .int .i64 t175, .int .u64 t176, .float .f64 t177, .string t178, .slice Ao33 t179.length co33] from (k39_mkF _ _ (⟨t172, t173, t174, t175, t176, t177, t178, t179⟩ : S39) (Kd.N_reads' (Kd.N_mono (ok' := (fun k_ => (w.heap.size ≤ k_) ∧ some k_ ≠ (u6 : Value).ownBlock ∧ k_ ≠ gb131 ∧ k_ ≠ gb145)) (HO181.out) (fun k_ hk => ⟨hk.1, ⟨hk.2.1, ⟨hk.2.2.2.2.1, hk.2.2.2.2.2⟩⟩⟩))).2.1 (Kd.N_F (Kd.N_mono (ok' := (fun k_ => (w.heap.size ≤ k_) ∧ some k_ ≠ (u6 : Value).ownBlock ∧ k_ ≠ gb131 ∧ k_ ≠ gb145)) (HO181.out) (fun k_ hk => ⟨hk.1, ⟨hk.2.1, ⟨hk.2.2.2.2.1, hk.2.2.2.2.2⟩⟩⟩))))) (Reps.c8 (show Kd.FK k39 _ _ (⟨t182, t183, t184, t185, t186, t187, t188, t189⟩ : S39) [.string t182, .int .i64 t183, .bool t184, .int .i64 t185, .int .u64 t186, .float .f64 t187, .string t188, .slice Ao34 t189.length co34] from (k39_mkF _ _ (⟨t182, t183, t184, t185, t186, t187, t188, t189⟩ : S39) (Kd.V_reads' (Kd.V_mono (ok' := (fun k_ => (w.heap.size ≤ k_) ∧ some k_ ≠ (u6 : Value).ownBlock ∧ k_ ≠ gb131 ∧ k_ ≠ gb145)) (HO191.out) (fun k_ hk => ⟨hk.1, ⟨hk.2.1, ⟨hk.2.2.2.2.1, hk.2.2.2.2.2⟩⟩⟩))).2.1 (Kd.V_F (Kd.V_mono (ok' := (fun k_ => (w.heap.size ≤ k_) ∧ some k_ ≠ (u6 : Value).ownBlock ∧ k_ ≠ gb131 ∧ k_ ≠ gb145)) (HO191.out) (fun k_ hk => ⟨hk.1, ⟨hk.2.1, ⟨hk.2.2.2.2.1, hk.2.2.2.2.2⟩⟩⟩))))) (Reps.none _ _)))))
        intro v193 w35 ho36 hb hg_ hnew_
        clear hg_ hnew_
        (first | rw [← Ny192.out] at ho36 | (simp only [Int.reduceToNat] at ho36; rw [← Ny192.out] at ho36))
        have n0_ := Aside0.mk (Kd.N_elder' (by (with_reducible repeat (first | apply Kd.N_alloc | apply Kd.N_drewN | apply Kd.N_drew)); exact HO_6.out) (by first | exact Kd.N_base ho36 | exact Kd.R_base ho36) hb)
        have n1_ := Aside0.mk (Kd.N_elder' (by (with_reducible repeat (first | apply Kd.N_alloc | apply Kd.N_drewN | apply Kd.N_drew)); exact HO_9.out) (by first | exact Kd.N_base ho36 | exact Kd.R_base ho36) hb)
        have n2_ := Aside0.mk (Kd.V_elder' (by (with_reducible repeat (first | apply Kd.V_alloc | apply Kd.V_drewN | apply Kd.V_drew)); exact HO191.out) (by first | exact Kd.N_base ho36 | exact Kd.R_base ho36) hb)
        have n3_ := Aside0.mk (Kd.N_lower ho36 (below_size (by repeat (first | (with_reducible first | exact HB.out | apply below_alloc | apply pw_below_drewN | apply below_drew1 | refine below_set ?_ GE131.out | refine below_set ?_ GE145.out) | exact HB.out))))
        have n4_ := Aside0.mk (blk_below (g := gb131) (o := .cells #[.string (⟨#[]⟩ : ByteArray), .int .i64 0, .bool false, .int .i64 0, .int .u64 0, .float .f64 0, .string (⟨#[]⟩ : ByteArray), .slice none 0 0] 39 (0, 0)) (by (with_reducible repeat (first | refine blk_drewN ?_ _ | refine blk_drew ?_ | refine blk_alloc ?_ _)); exact BK131.out) hb)
        have n5_ := Aside0.mk (blk_below (g := gb145) (o := .cells #[.string ((rd_T31 l0 x22_1).f0), .slice A144_1 ((rd_T31 l0 x22_1).f1).length c144_1, .slice (some ad160) ((rd_T31 l0 x22_1).f2).length c144_2] 31 (0, 0)) (by (with_reducible repeat (first | refine blk_drewN ?_ _ | refine blk_drew ?_ | refine blk_alloc ?_ _)); exact BK145.out) hb)
        have n6_ := Aside0.mk (below_step (by repeat (first | (with_reducible first | exact HB.out | apply below_alloc | apply pw_below_drewN | apply below_drew1 | refine below_set ?_ GE131.out | refine below_set ?_ GE145.out) | exact HB.out)) hb)
        clear HO_6
        clear HO_9
        clear HO191
        clear BK131
        clear BK145
        clear HB
        clear HO170
        clear HO181
        have HO_6 := n0_
        have HO_9 := n1_
        have HO191 := n2_
        have HO194 := n3_
        have BK131 := n4_
        have BK145 := n5_
        have HB := n6_
        clear n0_ n1_ n2_ n3_ n4_ n5_ n6_
        clear hb ho36
        obtain ⟨Ao37, co37, eo37⟩ := Kd.N_slice HO194.out
        (first | subst eo37 | (injection eo37 with f1_ f2_ f3_; have f4_ := f1_.symm; have f5_ := f3_.symm; clear f1_ f2_ f3_; subst f4_; subst f5_))
        refine hK.out _ _ ⟨(blk_cell BK145.out 0).trans rfl, (blk_cell BK145.out 1).trans rfl, (blk_cell BK145.out 2).trans rfl, ((HB.out.cell (World.block_lt_of_cell? w _ hw160_0)).trans hw160_0), ((HB.out.cell (World.block_lt_of_cell? w _ hw171_0)).trans hw171_0)⟩ (fun hHeld => ?_)
        clear hK K
        refine norm_ (a' := ?_) ?_ ?_
        rotate_left
        ·show Act.put _ (some 53) _ = _
         simp only [Act.put, List.setIfInBounds_toArray, List.set_cons_zero, List.set_cons_succ, i64_w, i32_w]
         rfl
        refine one_ (i := 14) (N := some 54) (bb [15, 3]) rfl rfl (one_of HT_.out (by kernel_rfl)) (by decide) (fun K hK => ?_)
        refine goes_ Tryz.func53 (by kernel_rfl) rfl #[.string (⟨#[]⟩ : ByteArray), .slice Ao37 y192.length co37] (by rfl) rfl rfl (by (try simp only [List.map_toArray, List.map_cons, List.map_nil]); first | done | rfl | (simp only [List.length_drop, List.length_take]; rfl)) ?_
        with_reducible refine (spec_recordNode.calls (⟨#[]⟩ : ByteArray) (fun k_ => ((w.heap.size ≤ k_) ∧ (some k_ ≠ (u6 : Value).ownBlock ∧ (k_ ≠ gb131 ∧ k_ ≠ gb145)))) _ _ y192 t195 t196 t197 t198 t199 t200 t201 t202 _ ?side1 A25.out).mono ?_
        (case side1 => exact Kd.N_V (HO194.out))
        rintro e w38 ⟨v203, rfl, ho0, hb⟩
        refine ⟨_, rfl, ?_⟩
        have n0_ := Aside0.mk (Kd.N_below (by (with_reducible repeat (first | apply Kd.N_alloc | apply Kd.N_drewN | apply Kd.N_drew)); exact HO_6.out) hb)
        have n1_ := Aside0.mk (Kd.N_below (by (with_reducible repeat (first | apply Kd.N_alloc | apply Kd.N_drewN | apply Kd.N_drew)); exact HO_9.out) hb)
        have n2_ := Aside0.mk (Kd.V_below (by (with_reducible repeat (first | apply Kd.V_alloc | apply Kd.V_drewN | apply Kd.V_drew)); exact HO191.out) hb)
        have n3_ := Aside0.mk (Kd.N_below (by (with_reducible repeat (first | apply Kd.N_alloc | apply Kd.N_drewN | apply Kd.N_drew)); exact HO194.out) hb)
        have n4_ := Aside0.mk (Kd.V_lower (Kd.V_mono (ok' := fun k_ => (w.heap.size ≤ k_) ∧ some k_ ≠ (u6 : Value).ownBlock ∧ k_ ≠ gb131 ∧ k_ ≠ gb145) ho0 (fun k_ hk_ => ⟨Or.elim hk_ (fun hs_ => hs_.1) (fun hn_ => (Nat.le_trans (below_size (by repeat (first | (with_reducible first | exact HB.out | apply below_alloc | apply pw_below_drewN | apply below_drew1 | refine below_set ?_ GE131.out | refine below_set ?_ GE145.out) | exact HB.out))) hn_)), Or.elim hk_ (fun hs_ => hs_.2.1) (fun hn_ => (Kd.fresh' (Kd.N_lt (by (with_reducible repeat (first | apply Kd.N_alloc | apply Kd.N_drewN | apply Kd.N_drew)); exact HO_6.out)) k_ hn_)), Or.elim hk_ (fun hs_ => hs_.2.2.1) (fun hn_ => (Kd.freshB (g := gb131) (o := .cells #[.string (⟨#[]⟩ : ByteArray), .int .i64 0, .bool false, .int .i64 0, .int .u64 0, .float .f64 0, .string (⟨#[]⟩ : ByteArray), .slice none 0 0] 39 (0, 0)) (by (with_reducible repeat (first | refine blk_drewN ?_ _ | refine blk_drew ?_ | refine blk_alloc ?_ _)); exact BK131.out) k_ hn_)), Or.elim hk_ (fun hs_ => hs_.2.2.2) (fun hn_ => (Kd.freshB (g := gb145) (o := .cells #[.string ((rd_T31 l0 x22_1).f0), .slice A144_1 ((rd_T31 l0 x22_1).f1).length c144_1, .slice (some ad160) ((rd_T31 l0 x22_1).f2).length c144_2] 31 (0, 0)) (by (with_reducible repeat (first | refine blk_drewN ?_ _ | refine blk_drew ?_ | refine blk_alloc ?_ _)); exact BK145.out) k_ hn_))⟩)) (below_size (by repeat (first | (with_reducible first | exact HB.out | apply below_alloc | apply pw_below_drewN | apply below_drew1 | refine below_set ?_ GE131.out | refine below_set ?_ GE145.out) | exact HB.out))))
        have n5_ := Aside0.mk (blk_below (g := gb131) (o := .cells #[.string (⟨#[]⟩ : ByteArray), .int .i64 0, .bool false, .int .i64 0, .int .u64 0, .float .f64 0, .string (⟨#[]⟩ : ByteArray), .slice none 0 0] 39 (0, 0)) (by (with_reducible repeat (first | refine blk_drewN ?_ _ | refine blk_drew ?_ | refine blk_alloc ?_ _)); exact BK131.out) hb)
        have n6_ := Aside0.mk (blk_below (g := gb145) (o := .cells #[.string ((rd_T31 l0 x22_1).f0), .slice A144_1 ((rd_T31 l0 x22_1).f1).length c144_1, .slice (some ad160) ((rd_T31 l0 x22_1).f2).length c144_2] 31 (0, 0)) (by (with_reducible repeat (first | refine blk_drewN ?_ _ | refine blk_drew ?_ | refine blk_alloc ?_ _)); exact BK145.out) hb)
        have n7_ := Aside0.mk (below_step (by repeat (first | (with_reducible first | exact HB.out | apply below_alloc | apply pw_below_drewN | apply below_drew1 | refine below_set ?_ GE131.out | refine below_set ?_ GE145.out) | exact HB.out)) hb)
        clear HO_6
        clear HO_9
        clear HO191
        clear HO194
        clear BK131
        clear BK145
        clear HB
        have HO_6 := n0_
        have HO_9 := n1_
        have HO191 := n2_
        have HO194 := n3_
        have HO204 := n4_
        have BK131 := n5_
        have BK145 := n6_
        have HB := n7_
        clear n0_ n1_ n2_ n3_ n4_ n5_ n6_ n7_
        (try clear hb)
        (try clear hb2)
        (try clear hk)
        (try clear hi)
        (try clear ho0)
        obtain ⟨Ao40, co40, eo40⟩ := Kd.V_slice HO204.out
        (first | subst eo40 | (injection eo40 with f1_ f2_ f3_; have f4_ := f1_.symm; have f5_ := f3_.symm; clear f1_ f2_ f3_; subst f4_; subst f5_))
        refine hK.out _ _ ⟨(blk_cell BK145.out 0).trans rfl, (blk_cell BK145.out 1).trans rfl, (blk_cell BK145.out 2).trans rfl, ((HB.out.cell (World.block_lt_of_cell? w _ hw160_0)).trans hw160_0), ((HB.out.cell (World.block_lt_of_cell? w _ hw171_0)).trans hw171_0)⟩ (fun hHeld => ?_)
        clear hK K
        refine norm_ (a' := ?_) ?_ ?_
        rotate_left
        ·show Act.put _ (some 54) _ = _
         simp only [Act.put, List.setIfInBounds_toArray, List.set_cons_zero, List.set_cons_succ, i64_w, i32_w]
         rfl
        refine one_ (i := 15) (N := some 55) (bb [16, 2]) rfl rfl (one_of HT_.out (by kernel_rfl)) (by decide) (fun K hK => ?_)
        refine value_ (w1 := ?_) (v := ?_) (by rfl) rfl ?_ ?_
        rotate_left 2
        ·go_simp
         constructor
         ·rfl
         ·rfl
        refine hK.out _ _ ⟨(blk_cell (blk_alloc BK145.out _) 0).trans rfl, (blk_cell (blk_alloc BK145.out _) 1).trans rfl, (blk_cell (blk_alloc BK145.out _) 2).trans rfl, (World.cell?_alloc_lt _ _ _ (World.block_lt_of_cell? _ _ (((HB.out.cell (World.block_lt_of_cell? w _ hw160_0)).trans hw160_0)))).trans (((HB.out.cell (World.block_lt_of_cell? w _ hw160_0)).trans hw160_0)), (World.cell?_alloc_lt _ _ _ (World.block_lt_of_cell? _ _ (((HB.out.cell (World.block_lt_of_cell? w _ hw171_0)).trans hw171_0)))).trans (((HB.out.cell (World.block_lt_of_cell? w _ hw171_0)).trans hw171_0))⟩ (fun hHeld => ?_)
        clear hK K
        refine norm_ (a' := ?_) ?_ ?_
        rotate_left
        ·show Act.put _ (some 55) _ = _
         simp only [Act.put, List.setIfInBounds_toArray, List.set_cons_zero, List.set_cons_succ, i64_w, i32_w]
         rfl
        refine one_ (i := 16) (N := some 56) (bb [17, 1]) rfl rfl (one_of HT_.out (by kernel_rfl)) (by decide) (fun K hK => ?_)
        refine Kd.N_append_step k39 (w0 := w) w.heap.size (by rfl) (.tmp 40) (.tmp 55) 37 39 (.agg #[(.string ⟨#[]⟩), (.int .i64 0), (.bool false), (.int .i64 0), (.int .u64 0), (.float .f64 0), (.string ⟨#[]⟩), (.slice none 0 0)]) 96 rfl Tryz.underlying37 info39 rfl (by decide) (by omega) u6 x6_1 (⟨t195, t196, t197, t198, t199, t200, t201, t202⟩ : S39) [.string t195, .int .i64 t196, .bool t197, .int .i64 t198, .int .u64 t199, .float .f64 t200, .string t201, .slice Ao40 t202.length co40] (fun k_ => (w.heap.size ≤ k_) ∧ k_ ≠ gb131 ∧ k_ ≠ gb145) (fun k_ => ((fun k_ => (w.heap.size ≤ k_) ∧ k_ ≠ gb131 ∧ k_ ≠ gb145)) k_ ∧ some k_ ≠ (u6 : Value).ownBlock) rfl rfl ?aP (fun _ hk => hk) ?aF ?aO ?aB ?aS ?aL ?_
        (case aP => exact (k39_mkF _ _ (⟨t195, t196, t197, t198, t199, t200, t201, t202⟩ : S39) (Kd.V_reads' (Kd.V_mono (ok' := (fun k_ => ((fun k_ => (w.heap.size ≤ k_) ∧ k_ ≠ gb131 ∧ k_ ≠ gb145)) k_ ∧ some k_ ≠ (u6 : Value).ownBlock)) (HO204.out) (fun k_ hk => ⟨⟨hk.1, ⟨hk.2.2.1, hk.2.2.2⟩⟩, hk.2.1⟩))).2.1 (Kd.V_F (Kd.V_mono (ok' := (fun k_ => ((fun k_ => (w.heap.size ≤ k_) ∧ k_ ≠ gb131 ∧ k_ ≠ gb145)) k_ ∧ some k_ ≠ (u6 : Value).ownBlock)) (HO204.out) (fun k_ hk => ⟨⟨hk.1, ⟨hk.2.2.1, hk.2.2.2⟩⟩, hk.2.1⟩)))))
        (case aB => exact (by repeat (first | (with_reducible first | exact HB.out | apply below_alloc | apply pw_below_drewN | apply below_drew1 | refine below_set ?_ GE131.out | refine below_set ?_ GE145.out) | exact HB.out)))
        (case aF => exact (fun k_ hk => ⟨(Nat.le_trans (below_size (by repeat (first | (with_reducible first | exact HB.out | apply below_alloc | apply pw_below_drewN | apply below_drew1 | refine below_set ?_ GE131.out | refine below_set ?_ GE145.out) | exact HB.out))) hk), Kd.freshB (g := gb131) (o := .cells #[.string (⟨#[]⟩ : ByteArray), .int .i64 0, .bool false, .int .i64 0, .int .u64 0, .float .f64 0, .string (⟨#[]⟩ : ByteArray), .slice none 0 0] 39 (0, 0)) (by (with_reducible repeat (first | refine blk_drewN ?_ _ | refine blk_drew ?_ | refine blk_alloc ?_ _)); exact BK131.out) k_ hk, Kd.freshB (g := gb145) (o := .cells #[.string ((rd_T31 l0 x22_1).f0), .slice A144_1 ((rd_T31 l0 x22_1).f1).length c144_1, .slice (some ad160) ((rd_T31 l0 x22_1).f2).length c144_2] 31 (0, 0)) (by (with_reducible repeat (first | refine blk_drewN ?_ _ | refine blk_drew ?_ | refine blk_alloc ?_ _)); exact BK145.out) k_ hk⟩))
        (case aO => exact (by (with_reducible repeat (first | apply Kd.N_alloc | apply Kd.N_drewN | apply Kd.N_drew)); exact Kd.N_mono HO_6.out (fun _ hk => ⟨hk.1.1.1.1, ⟨hk.1.1.1.2.2.1, hk.1.1.1.2.2.2⟩⟩)))
        (case aS => exact (below_size (by repeat (first | (with_reducible first | exact HB.out | apply below_alloc | apply pw_below_drewN | apply below_drew1 | refine below_set ?_ GE131.out | refine below_set ?_ GE145.out) | exact HB.out))))
        (case aL => have := LMc26.out; omega)
        intro v206 w39 ho hb hg hat
        rw [← Ny205.out] at ho
        have n0_ := Aside0.mk (Kd.N_afterv (ok := (fun k_ => (w.heap.size ≤ k_) ∧ some k_ ≠ (.slice Ao37 y192.length co37 : Value).ownBlock ∧ k_ ≠ gb131 ∧ k_ ≠ gb145)) (by (with_reducible repeat (first | apply Kd.N_alloc | apply Kd.N_drewN | apply Kd.N_drew)); exact Kd.N_mono HO_9.out (fun _ hk => ⟨⟨hk.1.1.1.1, ⟨hk.2, ⟨hk.1.1.1.2.2.1, hk.1.1.1.2.2.2⟩⟩⟩, hk.1.1.1.2.1⟩)) hg hat)
        have n1_ := Aside0.mk (blk_grown (g := gb131) (o := .cells #[.string (⟨#[]⟩ : ByteArray), .int .i64 0, .bool false, .int .i64 0, .int .u64 0, .float .f64 0, .string (⟨#[]⟩ : ByteArray), .slice none 0 0] 39 (0, 0)) (by (with_reducible repeat (first | refine blk_drewN ?_ _ | refine blk_drew ?_ | refine blk_alloc ?_ _)); exact BK131.out) hg (Kd.N_away HO_6.out (fun _ hk => hk.1.1.1.2.2.1)))
        have n2_ := Aside0.mk (blk_grown (g := gb145) (o := .cells #[.string ((rd_T31 l0 x22_1).f0), .slice A144_1 ((rd_T31 l0 x22_1).f1).length c144_1, .slice (some ad160) ((rd_T31 l0 x22_1).f2).length c144_2] 31 (0, 0)) (by (with_reducible repeat (first | refine blk_drewN ?_ _ | refine blk_drew ?_ | refine blk_alloc ?_ _)); exact BK145.out) hg (Kd.N_ne HO_6.out BK145.out (by decide)))
        have n3_ := Aside0.mk (Kd.V_afterv (ok := (fun k_ => (w.heap.size ≤ k_) ∧ some k_ ≠ (.slice Ao37 y192.length co37 : Value).ownBlock ∧ k_ ≠ gb131 ∧ k_ ≠ gb145)) (by (with_reducible repeat (first | apply Kd.V_alloc | apply Kd.V_drewN | apply Kd.V_drew)); exact Kd.V_mono HO191.out (fun _ hk => ⟨⟨hk.1.1, ⟨hk.2, ⟨hk.1.2.2.2.2.1, hk.1.2.2.2.2.2⟩⟩⟩, hk.1.2.1⟩)) hg hat)
        have n4_ := Aside0.mk (Kd.N_afterv (ok := (fun k_ => (w.heap.size ≤ k_) ∧ k_ ≠ gb131 ∧ k_ ≠ gb145)) (by (with_reducible repeat (first | apply Kd.N_alloc | apply Kd.N_drewN | apply Kd.N_drew)); exact Kd.N_mono HO194.out (fun _ hk => ⟨⟨hk.1, ⟨hk.2.2.1, hk.2.2.2⟩⟩, hk.2.1⟩)) hg hat)
        have n5_ := Aside0.mk (Kd.V_afterv (ok := (fun k_ => (w.heap.size ≤ k_) ∧ k_ ≠ gb131 ∧ k_ ≠ gb145)) (by (with_reducible repeat (first | apply Kd.V_alloc | apply Kd.V_drewN | apply Kd.V_drew)); exact Kd.V_mono HO204.out (fun _ hk => ⟨⟨hk.1, ⟨hk.2.2.1, hk.2.2.2⟩⟩, hk.2.1⟩)) hg hat)
        have n6_ := Aside0.mk (hb)
        have n7_ := Aside0.mk (ho)
        clear HO_9
        clear BK131
        clear BK145
        clear HO191
        clear HO194
        clear HO204
        clear HB
        clear HO_6
        have HO_9 := n0_
        have BK131 := n1_
        have BK145 := n2_
        have HO191 := n3_
        have HO194 := n4_
        have HO204 := n5_
        have HB := n6_
        have HO207 := n7_
        clear n0_ n1_ n2_ n3_ n4_ n5_ n6_ n7_
        clear ho hb hg hat
        refine hK.out _ _ ⟨(blk_cell BK145.out 0).trans rfl, (blk_cell BK145.out 1).trans rfl, (blk_cell BK145.out 2).trans rfl, ((HB.out.cell (World.block_lt_of_cell? w _ hw160_0)).trans hw160_0), ((HB.out.cell (World.block_lt_of_cell? w _ hw171_0)).trans hw171_0)⟩ (fun hHeld => ?_)
        clear hK K
        refine norm_ (a' := ?_) ?_ ?_
        rotate_left
        ·show Act.put _ (some 56) _ = _
         simp only [Act.put, List.setIfInBounds_toArray, List.set_cons_zero, List.set_cons_succ, i64_w, i32_w]
         rfl
        refine pure_ (i := 17) (N := some 6) (v := ?_) (a' := ?_) (bb [18]) rfl rfl (any_of HT_.out (by kernel_rfl)) (fun _ _ _ h => h) (Or.inl ⟨by rfl, ?_⟩) ?_ ?_
        rotate_left
        ·intro w'
         go_simp
         with_reducible rfl
        rotate_left
        ·simp only [Act.put, List.setIfInBounds_toArray, List.set_cons_zero, List.set_cons_succ, i64_w, i32_w]
         rfl
        refine done_ (done_of HT_.out (by kernel_rfl)) ?_
        try go_wp2
        go_roundg k2
        case measure => have := HK1.out; have := HK2.out; omega
        case rel => exact ⟨(y205), (wrap64 (x22_1 + 1)), (by first | rfl | (simp; done) | (simp [*]; done)), H', ⟨by have := HK1.out; have := HK2.out; omega⟩, ⟨by (with_reducible repeat (first | apply Kd.N_alloc | apply Kd.N_drewN | apply Kd.N_drew)); exact Kd.N_mono HO207.out (fun _ hk => ⟨hk.1, hk.2.1⟩)⟩, ⟨by (with_reducible repeat (first | refine blk_drewN ?_ _ | refine blk_drew ?_ | refine blk_alloc ?_ _)); exact BK131.out⟩, ⟨by repeat (first | (with_reducible first | exact HB.out | apply below_alloc | apply pw_below_drewN | apply below_drew1 | refine below_set ?_ GE131.out | refine below_set ?_ GE145.out) | exact HB.out)⟩⟩
    ·rw [if_neg c6] at H
     have c6b0 : decide (x22_1 < (l0.length : Int)) = false := decide_eq_false c6
     clear c6
     replace H := Option.bind_eq_some_iff.mp H
     obtain ⟨⟨t134, t135, t136, t137, t138, t139, t140, t141⟩, A410, H⟩ := H
     replace H : (some (t134, t135, t136, t137, t138, t139, t140, t141, 1)) = some (r1, r2, r3, r4, r5, r6, r7, r8, r9) := H
     have A41 := Aside0.mk A410
     clear A410
     simp only [Option.some.injEq, Prod.mk.injEq] at H
     obtain ⟨rfl, rfl, rfl, rfl, rfl, rfl, rfl, rfl, rfl⟩ := H
     obtain ⟨Ao42, co42, eo42⟩ := Kd.N_slice HO_6.out
     subst eo42
     go_wp2_with (first | ((with_reducible refine gate_callee (f := 66) rfl ?_); refine goesL_ (some 59) rfl rfl Tryz.func66 (by kernel_rfl) rfl #[.string (⟨#[]⟩ : ByteArray), .slice Ao42 x6_1.length co42] rfl (by (try simp only [List.map_toArray, List.map_cons, List.map_nil]); first | done | rfl | (simp only [List.length_drop, List.length_take]; rfl)) ?_; (with_reducible refine (spec_listNode.calls (⟨#[]⟩ : ByteArray) (fun k_ => ((w.heap.size ≤ k_) ∧ k_ ≠ gb131)) _ _ x6_1 t134 t135 t136 t137 t138 t139 t140 t141 _ ?side1 A41.out).mono ?_); (case side1 => exact Kd.N_V (HO_6.out)); rintro e w43 ⟨v142, rfl, ho0, hb⟩; refine ⟨_, rfl, ?_⟩; have n0_ := Aside0.mk (Kd.N_below (by (with_reducible repeat (first | apply Kd.N_alloc | apply Kd.N_drewN | apply Kd.N_drew)); exact HO_6.out) hb); have n1_ := Aside0.mk (Kd.V_lower (Kd.V_mono (ok' := fun k_ => (w.heap.size ≤ k_) ∧ k_ ≠ gb131) ho0 (fun k_ hk_ => ⟨Or.elim hk_ (fun hs_ => hs_.1) (fun hn_ => (Nat.le_trans (below_size (by repeat (first | (with_reducible first | exact HB.out | apply below_alloc | apply pw_below_drewN | apply below_drew1 | refine below_set ?_ GE131.out) | exact HB.out))) hn_)), Or.elim hk_ (fun hs_ => hs_.2) (fun hn_ => (Kd.freshB (g := gb131) (o := .cells #[.string (⟨#[]⟩ : ByteArray), .int .i64 0, .bool false, .int .i64 0, .int .u64 0, .float .f64 0, .string (⟨#[]⟩ : ByteArray), .slice none 0 0] 39 (0, 0)) (by (with_reducible repeat (first | refine blk_drewN ?_ _ | refine blk_drew ?_ | refine blk_alloc ?_ _)); exact BK131.out) k_ hn_))⟩)) (below_size (by repeat (first | (with_reducible first | exact HB.out | apply below_alloc | apply pw_below_drewN | apply below_drew1 | refine below_set ?_ GE131.out) | exact HB.out)))); have n2_ := Aside0.mk (blk_below (g := gb131) (o := .cells #[.string (⟨#[]⟩ : ByteArray), .int .i64 0, .bool false, .int .i64 0, .int .u64 0, .float .f64 0, .string (⟨#[]⟩ : ByteArray), .slice none 0 0] 39 (0, 0)) (by (with_reducible repeat (first | refine blk_drewN ?_ _ | refine blk_drew ?_ | refine blk_alloc ?_ _)); exact BK131.out) hb); have n3_ := Aside0.mk (below_step (by repeat (first | (with_reducible first | exact HB.out | apply below_alloc | apply pw_below_drewN | apply below_drew1 | refine below_set ?_ GE131.out) | exact HB.out)) hb); clear HO_6; clear BK131; clear HB; have HO_6 := n0_; have HO143 := n1_; have BK131 := n2_; have HB := n3_; clear n0_ n1_ n2_ n3_; (try clear hb); (try clear hb2); (try clear hk); (try clear hi); (try clear ho0); have hcz44_0 : w43.cell? ⟨gb131, 0, none⟩ = some (.string (⟨#[]⟩ : ByteArray)) := (blk_cell BK131.out 0).trans rfl; have hcz44_1 : w43.cell? ⟨gb131, 1, none⟩ = some (.int .i64 0) := (blk_cell BK131.out 1).trans rfl; have hcz44_2 : w43.cell? ⟨gb131, 2, none⟩ = some (.bool false) := (blk_cell BK131.out 2).trans rfl; have hcz44_3 : w43.cell? ⟨gb131, 3, none⟩ = some (.int .i64 0) := (blk_cell BK131.out 3).trans rfl; have hcz44_4 : w43.cell? ⟨gb131, 4, none⟩ = some (.int .u64 0) := (blk_cell BK131.out 4).trans rfl; have hcz44_5 : w43.cell? ⟨gb131, 5, none⟩ = some (.float .f64 0) := (blk_cell BK131.out 5).trans rfl; have hcz44_6 : w43.cell? ⟨gb131, 6, none⟩ = some (.string (⟨#[]⟩ : ByteArray)) := (blk_cell BK131.out 6).trans rfl; have hcz44_7 : w43.cell? ⟨gb131, 7, none⟩ = some (.slice none 0 0) := (blk_cell BK131.out 7).trans rfl; have hfz44_0 := blk_frozen BK131.out 0; have hfz44_1 := blk_frozen BK131.out 1; have hfz44_2 := blk_frozen BK131.out 2; have hfz44_3 := blk_frozen BK131.out 3; have hfz44_4 := blk_frozen BK131.out 4; have hfz44_5 := blk_frozen BK131.out 5; have hfz44_6 := blk_frozen BK131.out 6; have hfz44_7 := blk_frozen BK131.out 7; obtain ⟨Ao45, co45, eo45⟩ := Kd.V_slice HO143.out; subst eo45))
     refine bodyPost_ret (results_ct rfl _ _ gb131 39 #[.string t134, .int .i64 t135, .bool t136, .int .i64 t137, .int .u64 t138, .float .f64 t139, .string t140, .slice Ao45 t141.length co45] (0, 0) _ rfl (by (with_reducible repeat (first | refine blk_drewN ?_ _ | refine blk_drew ?_ | refine blk_alloc ?_ _)); refine blk_put (cs := #[.string t134, .int .i64 t135, .bool t136, .int .i64 t137, .int .u64 t138, .float .f64 t139, .string t140, .slice none 0 0]) ?_ 7 _ rfl; (with_reducible repeat (first | refine blk_drewN ?_ _ | refine blk_drew ?_ | refine blk_alloc ?_ _)); refine blk_put (cs := #[.string t134, .int .i64 t135, .bool t136, .int .i64 t137, .int .u64 t138, .float .f64 t139, .string (⟨#[]⟩ : ByteArray), .slice none 0 0]) ?_ 6 _ rfl; (with_reducible repeat (first | refine blk_drewN ?_ _ | refine blk_drew ?_ | refine blk_alloc ?_ _)); refine blk_put (cs := #[.string t134, .int .i64 t135, .bool t136, .int .i64 t137, .int .u64 t138, .float .f64 0, .string (⟨#[]⟩ : ByteArray), .slice none 0 0]) ?_ 5 _ rfl; (with_reducible repeat (first | refine blk_drewN ?_ _ | refine blk_drew ?_ | refine blk_alloc ?_ _)); refine blk_put (cs := #[.string t134, .int .i64 t135, .bool t136, .int .i64 t137, .int .u64 0, .float .f64 0, .string (⟨#[]⟩ : ByteArray), .slice none 0 0]) ?_ 4 _ rfl; (with_reducible repeat (first | refine blk_drewN ?_ _ | refine blk_drew ?_ | refine blk_alloc ?_ _)); refine blk_put (cs := #[.string t134, .int .i64 t135, .bool t136, .int .i64 0, .int .u64 0, .float .f64 0, .string (⟨#[]⟩ : ByteArray), .slice none 0 0]) ?_ 3 _ rfl; (with_reducible repeat (first | refine blk_drewN ?_ _ | refine blk_drew ?_ | refine blk_alloc ?_ _)); refine blk_put (cs := #[.string t134, .int .i64 t135, .bool false, .int .i64 0, .int .u64 0, .float .f64 0, .string (⟨#[]⟩ : ByteArray), .slice none 0 0]) ?_ 2 _ rfl; (with_reducible repeat (first | refine blk_drewN ?_ _ | refine blk_drew ?_ | refine blk_alloc ?_ _)); refine blk_put (cs := #[.string t134, .int .i64 0, .bool false, .int .i64 0, .int .u64 0, .float .f64 0, .string (⟨#[]⟩ : ByteArray), .slice none 0 0]) ?_ 1 _ rfl; (with_reducible repeat (first | refine blk_drewN ?_ _ | refine blk_drew ?_ | refine blk_alloc ?_ _)); refine blk_put (cs := #[.string (⟨#[]⟩ : ByteArray), .int .i64 0, .bool false, .int .i64 0, .int .u64 0, .float .f64 0, .string (⟨#[]⟩ : ByteArray), .slice none 0 0]) ?_ 0 _ rfl; (with_reducible repeat (first | refine blk_drewN ?_ _ | refine blk_drew ?_ | refine blk_alloc ?_ _)); exact BK131.out) Tryz.underlying39 rfl (by kernel_rfl)) rfl ?_
     exact ⟨_, by first | rfl | (simp [errW_none, errW_some] <;> rfl) | (simp [*, errW_none, errW_some] <;> rfl), by (with_reducible repeat (first | apply Kd.V_alloc | apply Kd.V_drewN | apply Kd.V_drew)); exact Kd.V_mono (Kd.V_far (p := ⟨gb131, 7, none⟩) (Kd.V_far (p := ⟨gb131, 6, none⟩) (Kd.V_far (p := ⟨gb131, 5, none⟩) (Kd.V_far (p := ⟨gb131, 4, none⟩) (Kd.V_far (p := ⟨gb131, 3, none⟩) (Kd.V_far (p := ⟨gb131, 2, none⟩) (Kd.V_far (p := ⟨gb131, 1, none⟩) (Kd.V_far (p := ⟨gb131, 0, none⟩) (Kd.V_mono HO143.out (fun k_ hk => (⟨hk, hk.2⟩ : _ ∧ k_ ≠ gb131))) (fun _ hk => hk.2) (.string t134)) (fun _ hk => hk.2) (.int .i64 t135)) (fun _ hk => hk.2) (.bool t136)) (fun _ hk => hk.2) (.int .i64 t137)) (fun _ hk => hk.2) (.int .u64 t138)) (fun _ hk => hk.2) (.float .f64 t139)) (fun _ hk => hk.2) (.string t140)) (fun _ hk => hk.2) (.slice Ao45 t141.length co45)) (fun _ hk => hk.1.1), by repeat (first | (with_reducible first | exact HB.out | apply below_alloc | apply pw_below_drewN | apply below_drew1 | refine below_set ?_ GE131.out) | exact HB.out)⟩
 ·rw [if_neg c3] at H
  have c3b0 : (t133 == 1) = false := beq_eq_false_iff_ne.mpr c3
  have c3b1 : (t133 != 1) = true := bne_iff_ne.mpr c3
  simp only [Option.some.injEq, Prod.mk.injEq] at H
  obtain ⟨rfl, rfl, rfl, rfl, rfl, rfl, rfl, rfl, rfl⟩ := H
  go_enter Tryz.func19, Tryz.ntmps19
  go_wp2_with (first | ((with_reducible refine gate_dst (N := 2) rfl ?_); refine box_event ?hg (N := 2) ?hd (cs := #[.string (⟨#[]⟩ : ByteArray), .int .i64 0, .bool false, .int .i64 0, .int .u64 0, .float .f64 0, .string (⟨#[]⟩ : ByteArray), .slice none 0 0]) (t := 39) ?hr ?_; (case hd => rfl); (case hg => rfl); (case hr => first | (go_simp; done) | (go_simp; rfl)); intro gb131 hg w46 hbox hb; have n0_ := Aside0.mk (below_step (by repeat (first | (with_reducible first | exact HB.out | apply below_alloc | apply pw_below_drewN | apply below_drew1) | exact HB.out)) hb); have n1_ := Aside0.mk (hbox); have n2_ := Aside0.mk ((by rw [hg]; exact (below_size (by repeat (first | (with_reducible first | exact HB.out | apply below_alloc | apply pw_below_drewN | apply below_drew1) | exact HB.out))) : w.heap.size ≤ gb131)); have n3_ := Aside0.mk ((by rw [hg]; exact (below_size (by repeat (first | (with_reducible first | exact HB.out | apply below_alloc | apply pw_below_drewN | apply below_drew1) | exact HB.out))) : w.heap.size ≤ gb131)); clear HB; have HB := n0_; have BK131 := n1_; have GW131 := n2_; have GE131 := n3_; clear n0_ n1_ n2_ n3_; clear hb hbox hg) | ((with_reducible refine gate_callee (f := 18) rfl ?_); refine goesL_ (some 14) rfl rfl Tryz.func18 (by kernel_rfl) rfl #[.slice A0 l0.length c0] rfl (by (try simp only [List.map_toArray, List.map_cons, List.map_nil]); first | done | rfl | (simp only [List.length_drop, List.length_take]; rfl)) ?_; (with_reducible refine (spec_BuddyinfoPrint.calls k _ _ l0 t132 t133 _ ?side1 ?side2 A2.out).mono ?_); (case side1 => repeat (first | exact (Kd.C_below HR0.out HB.out) | (with_reducible refine Kd.C_alloc ?_ _) | (with_reducible refine Kd.C_drewN ?_ _) | (with_reducible refine Kd.C_drew ?_))); (case side2 => exact HC0.out); rintro e w47 ⟨rfl, hb⟩; refine ⟨_, rfl, ?_⟩; have n0_ := Aside0.mk (blk_below (g := gb131) (o := .cells #[.string (⟨#[]⟩ : ByteArray), .int .i64 0, .bool false, .int .i64 0, .int .u64 0, .float .f64 0, .string (⟨#[]⟩ : ByteArray), .slice none 0 0] 39 (0, 0)) (by (with_reducible repeat (first | refine blk_drewN ?_ _ | refine blk_drew ?_ | refine blk_alloc ?_ _)); exact BK131.out) hb); have n1_ := Aside0.mk (below_step (by repeat (first | (with_reducible first | exact HB.out | apply below_alloc | apply pw_below_drewN | apply below_drew1 | refine below_set ?_ GE131.out) | exact HB.out)) hb); clear BK131; clear HB; have BK131 := n0_; have HB := n1_; clear n0_ n1_; (try clear hb); (try clear hb2); (try clear hk); (try clear hi); have hcz48_0 : w47.cell? ⟨gb131, 0, none⟩ = some (.string (⟨#[]⟩ : ByteArray)) := (blk_cell BK131.out 0).trans rfl; have hcz48_1 : w47.cell? ⟨gb131, 1, none⟩ = some (.int .i64 0) := (blk_cell BK131.out 1).trans rfl; have hcz48_2 : w47.cell? ⟨gb131, 2, none⟩ = some (.bool false) := (blk_cell BK131.out 2).trans rfl; have hcz48_3 : w47.cell? ⟨gb131, 3, none⟩ = some (.int .i64 0) := (blk_cell BK131.out 3).trans rfl; have hcz48_4 : w47.cell? ⟨gb131, 4, none⟩ = some (.int .u64 0) := (blk_cell BK131.out 4).trans rfl; have hcz48_5 : w47.cell? ⟨gb131, 5, none⟩ = some (.float .f64 0) := (blk_cell BK131.out 5).trans rfl; have hcz48_6 : w47.cell? ⟨gb131, 6, none⟩ = some (.string (⟨#[]⟩ : ByteArray)) := (blk_cell BK131.out 6).trans rfl; have hcz48_7 : w47.cell? ⟨gb131, 7, none⟩ = some (.slice none 0 0) := (blk_cell BK131.out 7).trans rfl; have hfz48_0 := blk_frozen BK131.out 0; have hfz48_1 := blk_frozen BK131.out 1; have hfz48_2 := blk_frozen BK131.out 2; have hfz48_3 := blk_frozen BK131.out 3; have hfz48_4 := blk_frozen BK131.out 4; have hfz48_5 := blk_frozen BK131.out 5; have hfz48_6 := blk_frozen BK131.out 6; have hfz48_7 := blk_frozen BK131.out 7))
  refine bodyPost_ret (results_ct rfl _ _ gb131 39 #[.string (⟨#[]⟩ : ByteArray), .int .i64 0, .bool false, .int .i64 0, .int .u64 0, .float .f64 0, .string (⟨#[]⟩ : ByteArray), .slice none 0 0] (0, 0) _ rfl (by (with_reducible repeat (first | refine blk_drewN ?_ _ | refine blk_drew ?_ | refine blk_alloc ?_ _)); refine blk_put (cs := #[.string (⟨#[]⟩ : ByteArray), .int .i64 0, .bool false, .int .i64 0, .int .u64 0, .float .f64 0, .string (⟨#[]⟩ : ByteArray), .slice none 0 0]) ?_ 7 _ rfl; (with_reducible repeat (first | refine blk_drewN ?_ _ | refine blk_drew ?_ | refine blk_alloc ?_ _)); refine blk_put (cs := #[.string (⟨#[]⟩ : ByteArray), .int .i64 0, .bool false, .int .i64 0, .int .u64 0, .float .f64 0, .string (⟨#[]⟩ : ByteArray), .slice none 0 0]) ?_ 6 _ rfl; (with_reducible repeat (first | refine blk_drewN ?_ _ | refine blk_drew ?_ | refine blk_alloc ?_ _)); refine blk_put (cs := #[.string (⟨#[]⟩ : ByteArray), .int .i64 0, .bool false, .int .i64 0, .int .u64 0, .float .f64 0, .string (⟨#[]⟩ : ByteArray), .slice none 0 0]) ?_ 5 _ rfl; (with_reducible repeat (first | refine blk_drewN ?_ _ | refine blk_drew ?_ | refine blk_alloc ?_ _)); refine blk_put (cs := #[.string (⟨#[]⟩ : ByteArray), .int .i64 0, .bool false, .int .i64 0, .int .u64 0, .float .f64 0, .string (⟨#[]⟩ : ByteArray), .slice none 0 0]) ?_ 4 _ rfl; (with_reducible repeat (first | refine blk_drewN ?_ _ | refine blk_drew ?_ | refine blk_alloc ?_ _)); refine blk_put (cs := #[.string (⟨#[]⟩ : ByteArray), .int .i64 0, .bool false, .int .i64 0, .int .u64 0, .float .f64 0, .string (⟨#[]⟩ : ByteArray), .slice none 0 0]) ?_ 3 _ rfl; (with_reducible repeat (first | refine blk_drewN ?_ _ | refine blk_drew ?_ | refine blk_alloc ?_ _)); refine blk_put (cs := #[.string (⟨#[]⟩ : ByteArray), .int .i64 0, .bool false, .int .i64 0, .int .u64 0, .float .f64 0, .string (⟨#[]⟩ : ByteArray), .slice none 0 0]) ?_ 2 _ rfl; (with_reducible repeat (first | refine blk_drewN ?_ _ | refine blk_drew ?_ | refine blk_alloc ?_ _)); refine blk_put (cs := #[.string (⟨#[]⟩ : ByteArray), .int .i64 0, .bool false, .int .i64 0, .int .u64 0, .float .f64 0, .string (⟨#[]⟩ : ByteArray), .slice none 0 0]) ?_ 1 _ rfl; (with_reducible repeat (first | refine blk_drewN ?_ _ | refine blk_drew ?_ | refine blk_alloc ?_ _)); refine blk_put (cs := #[.string (⟨#[]⟩ : ByteArray), .int .i64 0, .bool false, .int .i64 0, .int .u64 0, .float .f64 0, .string (⟨#[]⟩ : ByteArray), .slice none 0 0]) ?_ 0 _ rfl; (with_reducible repeat (first | refine blk_drewN ?_ _ | refine blk_drew ?_ | refine blk_alloc ?_ _)); exact BK131.out) Tryz.underlying39 rfl (by kernel_rfl)) rfl ?_
  exact ⟨_, by first | rfl | (simp [errW_none, errW_some] <;> rfl) | (simp [*, errW_none, errW_some] <;> rfl), Kd.N_V (base := 0) (by first | exact Kd.R_nil _ _ _ _ _ | exact Kd.N_nil _ _ _ _ _ | exact Kd.V_nil _ _ _ _ _ | exact Kd.Q_nil _ _ _ _ _ | exact Kd.S_nil _ _ _ _ _), by repeat (first | (with_reducible first | exact HB.out | apply below_alloc | apply pw_below_drewN | apply below_drew1 | refine below_set ?_ GE131.out) | exact HB.out)⟩

/-- A state of type 225 at block g of W; what its slices lead to came in by w0. -/
def IsS225 (w0 W : World) (g : Nat) (f0 : ByteArray) (f1 : ByteArray) (f2 : Int) (f3 : Option Int) : Prop := W.heap[g]? = some (.cells #[.string f0, .string f1, .int .i64 f2, errW f3] 225 (0, 0)) ∧ w0.heap.size ≤ g
theorem IsS225.grown {w0 W : World} {g : Nat} {f0 : ByteArray} {f1 : ByteArray} {f2 : Int} {f3 : Option Int} {W1 : World} {row : Option Nat} (h : IsS225 w0 W g f0 f1 f2 f3) (hw : W.grownBy W1 row) (hne : some g ≠ row) : IsS225 w0 W1 g f0 f1 f2 f3 := by
 obtain ⟨hb, hg⟩ := h
 exact ⟨blk_grown hb hw hne, hg⟩
theorem IsS225.own_neN {w0 W : World} {g : Nat} {f0 : ByteArray} {f1 : ByteArray} {f2 : Int} {f3 : Option Int} {α : Type} {d : Kd α} {e : Nat} {base : Nat} {ok : Nat → Prop} {v : Value} {xs : List α} (h : IsS225 w0 W g f0 f1 f2 f3) (ho : Kd.N d e W base ok v xs) (ht : e ≠ 225) : some g ≠ v.ownBlock := by
 obtain ⟨hb, hg⟩ := h
 exact Kd.N_ne ho hb ht
theorem IsS225.fresh {w0 W : World} {g : Nat} {f0 : ByteArray} {f1 : ByteArray} {f2 : Int} {f3 : Option Int} (h : IsS225 w0 W g f0 f1 f2 f3) : ∀ k, W.heap.size ≤ k → k ≠ g := by
 obtain ⟨hb, hg⟩ := h
 exact Kd.freshB hb
theorem IsS225.kept {w0 W : World} {g : Nat} {f0 : ByteArray} {f1 : ByteArray} {f2 : Int} {f3 : Option Int} {W1 : World} {S : Nat → Prop} (h : IsS225 w0 W g f0 f1 f2 f3) (hk : Kept W W1 S) (hne : ¬ S g) : IsS225 w0 W1 g f0 f1 f2 f3 := by
 obtain ⟨hb, hg⟩ := h
 exact ⟨blk_kept hb hk hne, hg⟩
theorem IsS225.below {w0 W : World} {g : Nat} {f0 : ByteArray} {f1 : ByteArray} {f2 : Int} {f3 : Option Int} {W1 : World} (h : IsS225 w0 W g f0 f1 f2 f3) (hw : Below W.heap.size W W1) : IsS225 w0 W1 g f0 f1 f2 f3 := h.grown (grown_of_below hw none) (by simp)
theorem IsS225.alloc {w0 W : World} {g : Nat} {f0 : ByteArray} {f1 : ByteArray} {f2 : Int} {f3 : Option Int} (h : IsS225 w0 W g f0 f1 f2 f3) (o : Obj) : IsS225 w0 (W.alloc o) g f0 f1 f2 f3 := h.below (below_alloc (Below.refl _ _) o)
theorem IsS225.drewN {w0 W : World} {g : Nat} {f0 : ByteArray} {f1 : ByteArray} {f2 : Int} {f3 : Option Int} (h : IsS225 w0 W g f0 f1 f2 f3) (m : Nat) : IsS225 w0 (W.drewN m) g f0 f1 f2 f3 := h
theorem IsS225.drew {w0 W : World} {g : Nat} {f0 : ByteArray} {f1 : ByteArray} {f2 : Int} {f3 : Option Int} (h : IsS225 w0 W g f0 f1 f2 f3) : IsS225 w0 W.drew g f0 f1 f2 f3 := h
theorem IsS225.at_ {w0 W : World} {g : Nat} {f0 : ByteArray} {f1 : ByteArray} {f2 : Int} {f3 : Option Int} {w' : World} {m : Nat} (hq : W.drewN m = w') (h : IsS225 w0 W g f0 f1 f2 f3) : IsS225 w0 w' g f0 f1 f2 f3 := by subst hq; exact IsS225.drewN h m
theorem IsS225.apart {w0 W : World} {g : Nat} {f0 : ByteArray} {f1 : ByteArray} {f2 : Int} {f3 : Option Int} {α : Type} {d : Kd α} {e : Nat} {base : Nat} {ok : Nat → Prop} {v : Value} {xs : List α} (h : IsS225 w0 W g f0 f1 f2 f3) (ho : d.R e W base ok v xs) (ht : ∀ q, q ∈ e :: d.E → q ≠ 225) : d.R e W base (fun k => ok k ∧ k ≠ g) v xs := by
 obtain ⟨hb, hg⟩ := h
 exact Kd.R_types ho hb ht
theorem IsS225.own_ne {w0 W : World} {g : Nat} {f0 : ByteArray} {f1 : ByteArray} {f2 : Int} {f3 : Option Int} {α : Type} {d : Kd α} {e : Nat} {base : Nat} {ok : Nat → Prop} {v : Value} {xs : List α} (h : IsS225 w0 W g f0 f1 f2 f3) (ho : d.R e W base ok v xs) (ht : e ≠ 225) : some g ≠ v.ownBlock := by
 obtain ⟨hb, hg⟩ := h
 exact Kd.R_ne ho hb ht
theorem IsS225.apartQ {w0 W : World} {g : Nat} {f0 : ByteArray} {f1 : ByteArray} {f2 : Int} {f3 : Option Int} {α : Type} {d : Kd α} {e : Nat} {base : Nat} {ok : Nat → Prop} {v : Value} {xs : List α} (h : IsS225 w0 W g f0 f1 f2 f3) (ho : d.Q e W base ok v xs) (ht : ∀ q, q ∈ e :: d.E → q ≠ 225) : d.Q e W base (fun k => ok k ∧ k ≠ g) v xs := by
 obtain ⟨hb, hg⟩ := h
 exact Kd.Q_types ho hb ht
theorem IsS225.own_neQ {w0 W : World} {g : Nat} {f0 : ByteArray} {f1 : ByteArray} {f2 : Int} {f3 : Option Int} {α : Type} {d : Kd α} {e : Nat} {base : Nat} {ok : Nat → Prop} {v : Value} {xs : List α} (h : IsS225 w0 W g f0 f1 f2 f3) (ho : d.Q e W base ok v xs) (ht : e ≠ 225) : some g ≠ v.ownBlock := by
 obtain ⟨hb, hg⟩ := h
 exact Kd.Q_ne ho hb ht
theorem IsS225.apartS {w0 W : World} {g : Nat} {f0 : ByteArray} {f1 : ByteArray} {f2 : Int} {f3 : Option Int} {α : Type} {d : Kd α} {e : Nat} {base : Nat} {ok : Nat → Prop} {v : Value} {xs : List α} (h : IsS225 w0 W g f0 f1 f2 f3) (ho : d.S e W base ok v xs) (ht : ∀ q, q ∈ e :: d.E → q ≠ 225) : d.S e W base (fun k => ok k ∧ k ≠ g) v xs := by
 obtain ⟨hb, hg⟩ := h
 exact Kd.S_types ho hb ht
theorem IsS225.own_neS {w0 W : World} {g : Nat} {f0 : ByteArray} {f1 : ByteArray} {f2 : Int} {f3 : Option Int} {α : Type} {d : Kd α} {e : Nat} {base : Nat} {ok : Nat → Prop} {v : Value} {xs : List α} (h : IsS225 w0 W g f0 f1 f2 f3) (ho : d.S e W base ok v xs) (ht : e ≠ 225) : some g ≠ v.ownBlock := by
 obtain ⟨hb, hg⟩ := h
 exact Kd.S_ne ho hb ht
theorem IsS225.lt {w0 W : World} {g : Nat} {f0 : ByteArray} {f1 : ByteArray} {f2 : Int} {f3 : Option Int} (h : IsS225 w0 W g f0 f1 f2 f3) : g < W.heap.size := by
 obtain ⟨hb, hg⟩ := h
 exact blk_lt hb
theorem IsS225.ge {w0 W : World} {g : Nat} {f0 : ByteArray} {f1 : ByteArray} {f2 : Int} {f3 : Option Int} (h : IsS225 w0 W g f0 f1 f2 f3) : w0.heap.size ≤ g := by
 obtain ⟨hb, hg⟩ := h
 exact hg
theorem IsS225.ne_blk {w0 W : World} {g : Nat} {f0 : ByteArray} {f1 : ByteArray} {f2 : Int} {f3 : Option Int} {a : Nat} {cs : Array Value} {t : TypeId} {fr : Nat × Nat} (h : IsS225 w0 W g f0 f1 f2 f3) (hb2 : W.heap[a]? = some (.cells cs t fr)) (ht : t ≠ 225) : g ≠ a := by
 obtain ⟨hb, hg⟩ := h
 rintro rfl
 rw [hb] at hb2
 injection hb2 with hb2
 injection hb2 with _ ht2
 exact ht ht2.symm
theorem IsS225.far {w0 W : World} {g : Nat} {f0 : ByteArray} {f1 : ByteArray} {f2 : Int} {f3 : Option Int} {p : Addr} (h : IsS225 w0 W g f0 f1 f2 f3) (hne : g ≠ p.block) (u : Value) : IsS225 w0 (W.setCell p u) g f0 f1 f2 f3 := by
 obtain ⟨hb, hg⟩ := h
 exact ⟨blk_far hb hne u, hg⟩
theorem cellS225_0 {W : World} {g : Nat} {f0 : ByteArray} {f1 : ByteArray} {f2 : Int} {f3 : Option Int} (h : W.heap[g]? = some (.cells #[.string f0, .string f1, .int .i64 f2, errW f3] 225 (0, 0))) : W.cell? ⟨g, 0, none⟩ = some (.string f0) := (blk_cell h 0).trans rfl
theorem IsS225.set_0 {w0 W : World} {g : Nat} {f0 : ByteArray} {f1 : ByteArray} {f2 : Int} {f3 : Option Int} (h : IsS225 w0 W g f0 f1 f2 f3) (x : ByteArray) : IsS225 w0 (W.setCell ⟨g, 0, none⟩ (.string x)) g x f1 f2 f3 := by
 obtain ⟨hb, hg⟩ := h
 exact ⟨by simpa using blk_set hb 0 (.string x), hg⟩
theorem cellS225_1 {W : World} {g : Nat} {f0 : ByteArray} {f1 : ByteArray} {f2 : Int} {f3 : Option Int} (h : W.heap[g]? = some (.cells #[.string f0, .string f1, .int .i64 f2, errW f3] 225 (0, 0))) : W.cell? ⟨g, 1, none⟩ = some (.string f1) := (blk_cell h 1).trans rfl
theorem IsS225.set_1 {w0 W : World} {g : Nat} {f0 : ByteArray} {f1 : ByteArray} {f2 : Int} {f3 : Option Int} (h : IsS225 w0 W g f0 f1 f2 f3) (x : ByteArray) : IsS225 w0 (W.setCell ⟨g, 1, none⟩ (.string x)) g f0 x f2 f3 := by
 obtain ⟨hb, hg⟩ := h
 exact ⟨by simpa using blk_set hb 1 (.string x), hg⟩
theorem cellS225_2 {W : World} {g : Nat} {f0 : ByteArray} {f1 : ByteArray} {f2 : Int} {f3 : Option Int} (h : W.heap[g]? = some (.cells #[.string f0, .string f1, .int .i64 f2, errW f3] 225 (0, 0))) : W.cell? ⟨g, 2, none⟩ = some (.int .i64 f2) := (blk_cell h 2).trans rfl
theorem IsS225.set_2 {w0 W : World} {g : Nat} {f0 : ByteArray} {f1 : ByteArray} {f2 : Int} {f3 : Option Int} (h : IsS225 w0 W g f0 f1 f2 f3) (x : Int) : IsS225 w0 (W.setCell ⟨g, 2, none⟩ (.int .i64 x)) g f0 f1 x f3 := by
 obtain ⟨hb, hg⟩ := h
 exact ⟨by simpa using blk_set hb 2 (.int .i64 x), hg⟩
theorem cellS225_3 {W : World} {g : Nat} {f0 : ByteArray} {f1 : ByteArray} {f2 : Int} {f3 : Option Int} (h : W.heap[g]? = some (.cells #[.string f0, .string f1, .int .i64 f2, errW f3] 225 (0, 0))) : W.cell? ⟨g, 3, none⟩ = some (errW f3) := (blk_cell h 3).trans rfl
theorem IsS225.set_3 {w0 W : World} {g : Nat} {f0 : ByteArray} {f1 : ByteArray} {f2 : Int} {f3 : Option Int} (h : IsS225 w0 W g f0 f1 f2 f3) (x : Option Int) : IsS225 w0 (W.setCell ⟨g, 3, none⟩ (errW x)) g f0 f1 f2 x := by
 obtain ⟨hb, hg⟩ := h
 exact ⟨by simpa using blk_set hb 3 (errW x), hg⟩
theorem IsS225.new (w0 W : World) (f0 : ByteArray) (f1 : ByteArray) (f2 : Int) (f3 : Option Int) (hB : Below w0.heap.size w0 W) : IsS225 w0 (W.alloc (.cells #[.string f0, .string f1, .int .i64 f2, errW f3] 225)) W.heap.size f0 f1 f2 f3 := ⟨by simpa using heap_alloc_new W _, hB.size⟩
/-! ### texts_NewLines: function 154 -/
def texts_NewLines.f (a0 : ByteArray) : Option (ByteArray × ByteArray × Int × Option Int) := some (a0, (⟨#[]⟩ : ByteArray), 65536, none)
set_option maxHeartbeats 8000000 in
set_option maxRecDepth 100000 in
theorem texts_NewLines.calls (a0 : ByteArray) (r1 : ByteArray) (r2 : ByteArray) (r3 : Int) (r4 : Option Int) (w0 w : World) (hB : Below w0.heap.size w0 w) (h : texts_NewLines.f a0 = some (r1, r2, r3, r4)) :
  Calls Tryz.prog 154 #[.string a0] w fun e w' => ∃ g_ : Nat, e = .returned (.pointer (some ⟨g_, 0, none⟩)) ∧ IsS225 w0 w' g_ r1 r2 r3 r4 ∧ Below w0.heap.size w0 w' ∧ Below w.heap.size w w' := by
 have hu225 := Tryz.underlying225
 have HBW := Aside0.mk (Below.refl w.heap.size w)
 have HW0 := Aside0.mk hB.size
 have HB := Aside0.mk hB
 clear hB
 have H : (some (a0, (⟨#[]⟩ : ByteArray), 65536, none)) = some (r1, r2, r3, r4) := h
 clear h
 simp only [Option.some.injEq, Prod.mk.injEq] at H
 obtain ⟨rfl, rfl, rfl, rfl⟩ := H
 go_enter Tryz.func154, Tryz.ntmps154
 go_wp2_with (first | ((with_reducible refine gate_dst (N := 5) rfl ?_); refine box_event ?hg (N := 5) ?hd (cs := #[.string a0, .string (⟨#[]⟩ : ByteArray), .int .i64 65536, .nilIface]) (t := 225) ?hr ?_; (case hd => rfl); (case hg => rfl); (case hr => first | (go_simp; done) | (go_simp; rfl)); intro gb208 hg w2 hbox hb; have n0_ := Aside0.mk (below_step HBW.out hb); have n1_ := Aside0.mk (below_step (by repeat (first | (with_reducible first | exact HB.out | apply below_alloc | apply pw_below_drewN | apply below_drew1) | exact HB.out)) hb); have n2_ := Aside0.mk (hbox); have n3_ := Aside0.mk ((by rw [hg]; exact (below_size (by repeat (first | (with_reducible first | exact HBW.out | apply below_alloc | apply pw_below_drewN | apply below_drew1) | exact HBW.out))) : w.heap.size ≤ gb208)); have n4_ := Aside0.mk ((Nat.le_trans HW0.out (by rw [hg]; exact (below_size (by repeat (first | (with_reducible first | exact HBW.out | apply below_alloc | apply pw_below_drewN | apply below_drew1) | exact HBW.out))) : w.heap.size ≤ gb208) : w0.heap.size ≤ gb208)); clear HBW; clear HB; have HBW := n0_; have HB := n1_; have BK208 := n2_; have GW208 := n3_; have GE208 := n4_; clear n0_ n1_ n2_ n3_ n4_; clear hb hbox hg))
 go_ret
 exact ⟨_, rfl, (show IsS225 w0 _ gb208 a0 (⟨#[]⟩ : ByteArray) 65536 none from ⟨by (with_reducible repeat (first | refine blk_drewN ?_ _ | refine blk_drew ?_ | refine blk_alloc ?_ _)); exact BK208.out, GE208.out⟩), by repeat (first | (with_reducible first | exact HB.out | apply below_alloc | apply pw_below_drewN | apply below_drew1 | refine below_set ?_ GE208.out) | exact HB.out), by repeat (first | (with_reducible first | exact HBW.out | apply below_alloc | apply pw_below_drewN | apply below_drew1 | refine below_set ?_ GW208.out) | exact HBW.out)⟩
/-! ### texts_Lines_Text: function 157 -/
def texts_Lines_Text.f (s0_0 : ByteArray) (s0_1 : ByteArray) (s0_2 : Int) (s0_3 : Option Int) : Option (ByteArray × ByteArray × ByteArray × Int × Option Int) := some (s0_1, s0_0, s0_1, s0_2, s0_3)
set_option maxHeartbeats 8000000 in
set_option maxRecDepth 100000 in
theorem texts_Lines_Text.calls (g : Nat) (s0_0 : ByteArray) (s0_1 : ByteArray) (s0_2 : Int) (s0_3 : Option Int) (r1 : ByteArray) (r2 : ByteArray) (r3 : ByteArray) (r4 : Int) (r5 : Option Int) (w0 w : World) (hI : IsS225 w0 w g s0_0 s0_1 s0_2 s0_3) (hB : Below w0.heap.size w0 w) (h : texts_Lines_Text.f s0_0 s0_1 s0_2 s0_3 = some (r1, r2, r3, r4, r5)) :
  Calls Tryz.prog 157 #[.pointer (some ⟨g, 0, none⟩)] w fun e w' => e = .returned (.string r1) ∧ IsS225 w0 w' g r2 r3 r4 r5 ∧ Below w0.heap.size w0 w' ∧ KeepBut w w' g none := by
 have HI0 := Aside0.mk hI
 have HK := Aside0.mk (KeepBut.refl w g none)
 have HL := Aside0.mk hB.size
 clear hI
 have HW0 := Aside0.mk hB.size
 have HB := Aside0.mk hB
 clear hB
 have H : (some (s0_1, s0_0, s0_1, s0_2, s0_3)) = some (r1, r2, r3, r4, r5) := h
 clear h
 simp only [Option.some.injEq, Prod.mk.injEq] at H
 obtain ⟨rfl, rfl, rfl, rfl, rfl⟩ := H
 obtain ⟨HGz2, hgz2⟩ := HI0.out
 have hcz2_0 := cellS225_0 HGz2
 have hcz2_1 := cellS225_1 HGz2
 have hcz2_2 := cellS225_2 HGz2
 have hcz2_3 := cellS225_3 HGz2
 have hfz2_0 := blk_frozen HGz2 0
 have hfz2_1 := blk_frozen HGz2 1
 have hfz2_2 := blk_frozen HGz2 2
 have hfz2_3 := blk_frozen HGz2 3
 clear HGz2 hgz2
 go_enter Tryz.func157, Tryz.ntmps157
 go_wp2
 go_ret
 exact ⟨by first | rfl | (simp [errW_none, errW_some] <;> rfl) | (simp [*, errW_none, errW_some] <;> rfl), by repeat (first | (with_reducible first | exact HI0.out | apply IsS225.alloc | apply IsS225.drewN | apply IsS225.drew | apply IsS225.set_0 | apply IsS225.set_1 | apply IsS225.set_2 | apply IsS225.set_3) | exact HI0.out), by repeat (first | (with_reducible first | exact HB.out | apply below_alloc | apply pw_below_drewN | apply below_drew1 | refine below_set ?_ (IsS225.ge HI0.out)) | exact HB.out), by repeat (first | (with_reducible first | exact HK.out | apply KeepBut.set_ | apply keep_drewN | apply keep_drew | apply keep_alloc) | exact HK.out)⟩

-- NOT PRINTED: function 169 (errors_New)
end Go.Proofs.YtednjmngalmdkaaGreatDoor.GPC
end
section
/- The lines of a text (package texts): NewLines, Scan, Text, Err, in the block that holds them. Conditions: a line of fewer than 65,536 bytes, without a carriage return at its end. -/
namespace Go.Proofs.YtednjmngalmdkaaGreatDoor.GL
open Go.RowKit Go.Proofs.YtednjmngalmdkaaGreatDoorW.PrintWords Go.Proofs.YtednjmngalmdkaaGreatDoorW
set_option linter.unusedVariables false
set_option linter.unusedSimpArgs false
def lineEnd (t : ByteArray) : Nat := t.data.toList.findIdx (· == 10)
theorem szl (t : ByteArray) : t.data.toList.length = t.size := Array.length_toList
theorem lineEnd_le (t : ByteArray) : lineEnd t ≤ t.size := by
 have := List.findIdx_le_length (p := (· == (10 : UInt8))) (xs := t.data.toList)
 rwa [szl] at this
theorem bt_list (t : ByteArray) (i : Nat) (h : i < t.size) : bt t (i : Int) = ((t.data.toList[i]'(by rw [szl]; exact h)).toNat : Int) := by
 have h' : (i : Int).toNat < t.size := by omega
 unfold bt
 rw [dif_pos h']
 rfl
theorem lineEnd_before (t : ByteArray) (i : Nat) (h : i < lineEnd t) : bt t (i : Int) ≠ 10 := by
 have hle := lineEnd_le t
 rw [bt_list t i (by omega)]
 have hn := List.not_of_lt_findIdx (p := (· == (10 : UInt8))) (xs := t.data.toList) h
 intro e
 have e2 : (t.data.toList[i]'(by rw [szl]; omega)).toNat = 10 := by exact_mod_cast e
 have e3 : t.data.toList[i]'(by rw [szl]; omega) = 10 := UInt8.toNat_inj.1 e2
 rw [e3] at hn
 exact absurd hn (by decide)
theorem lineEnd_at (t : ByteArray) (h : lineEnd t < t.size) : bt t (lineEnd t : Int) = 10 := by
 rw [bt_list t _ h]
 have h' : List.findIdx (· == (10 : UInt8)) t.data.toList < t.data.toList.length := by rw [szl]; exact h
 have hn := List.findIdx_getElem (p := (· == (10 : UInt8))) (xs := t.data.toList) (w := h')
 have e : t.data.toList[lineEnd t]'(by rw [szl]; exact h) = 10 := eq_of_beq hn
 rw [e]
 rfl
def linesCells (text line : ByteArray) : Obj := .cells #[.string text, .string line, .int .i64 65536, .nilIface] 225 (0, 0)
theorem size0 {t : ByteArray} (h : t.size = 0) : t = ⟨#[]⟩ := by
 cases t with
 | mk d => exact congrArg ByteArray.mk (Array.eq_empty_of_size_eq_zero h)
set_option maxHeartbeats 4000000 in
theorem lines_scan_end (g : Nat) (line : ByteArray) (w : World) (hb : w.heap[g]? = some (linesCells ⟨#[]⟩ line)) :
  Calls Tryz.prog 155 #[.pointer (some ⟨g, 0, none⟩)] w fun e w' => e = .returned (.bool false) ∧ w'.heap[g]? = some (linesCells ⟨#[]⟩ ⟨#[]⟩) ∧ w.grownBy w' (some g) := by
 have h0 : w.cell? ⟨g, 0, none⟩ = some (.string ⟨#[]⟩) := (blk_cell hb 0).trans rfl
 have h1 : w.cell? ⟨g, 1, none⟩ = some (.string line) := (blk_cell hb 1).trans rfl
 have h3 : w.cell? ⟨g, 3, none⟩ = some .nilIface := (blk_cell hb 3).trans rfl
 have hf := blk_frozen hb 1
 go_enter Tryz.func155, Tryz.ntmps155
 go_wp2
 go_ret
 refine ⟨rfl, blk_put hb 1 _ rfl, ?_⟩
 exact ⟨rfl, rfl, rfl, by simp [World.setCell], fun i hi hne => Below.heap_setCell w ⟨g, 1, none⟩ _ i (fun e => hne (by rw [e]))⟩
def lineOf (t : ByteArray) : ByteArray := t.extract 0 (lineEnd t)
def restOf (t : ByteArray) : ByteArray := t.extract (if lineEnd t < t.size then lineEnd t + 1 else lineEnd t) t.size
theorem grown_set (w : World) (g i : Nat) (u : Value) : w.grownBy (w.setCell ⟨g, i, none⟩ u) (some g) :=
 ⟨rfl, rfl, rfl, by simp [World.setCell], fun k hi hne => Below.heap_setCell w ⟨g, i, none⟩ _ k (fun e => hne (by rw [e]))⟩
theorem grown_drewN {w W : World} {row : Option Nat} (h : w.grownBy W row) (n : Nat) : w.grownBy (W.drewN n) row := ⟨h.os, h.tape, h.output, h.size, h.block⟩
theorem lines_post {g : Nat} {text line : ByteArray} {w : World} (hb : w.heap[g]? = some (linesCells text line)) (L R : ByteArray) (hL : L = lineOf text) (hR : restOf text = R) :
  (((w.setCell ⟨g, 1, none⟩ (.string ⟨#[]⟩)).setCell ⟨g, 1, none⟩ (.string L)).setCell ⟨g, 0, none⟩ (.string R)).heap[g]? = some (linesCells (restOf text) (lineOf text)) ∧
   w.grownBy (((w.setCell ⟨g, 1, none⟩ (.string ⟨#[]⟩)).setCell ⟨g, 1, none⟩ (.string L)).setCell ⟨g, 0, none⟩ (.string R)) (some g) := by
 subst hL hR
 refine ⟨blk_put (blk_put (blk_put hb 1 _ rfl) 1 _ rfl) 0 _ rfl, ?_⟩
 exact ((grown_set w g 1 _).trans (grown_set _ g 1 _)).trans (grown_set _ g 0 _)
set_option maxHeartbeats 8000000 in
set_option maxRecDepth 100000 in
theorem lines_scan (g : Nat) (text line : ByteArray) (w : World) (hb : w.heap[g]? = some (linesCells text line)) (hne : 0 < text.size) (hsz : text.size ≤ 140737488355328)
  (h64 : lineEnd text < 65536) (hcr : ¬ bt (lineOf text) ((lineOf text).size - 1) = 13) :
  Calls Tryz.prog 155 #[.pointer (some ⟨g, 0, none⟩)] w fun e w' => e = .returned (.bool true) ∧ w'.heap[g]? = some (linesCells (restOf text) (lineOf text)) ∧ w.grownBy w' (some g) := by
 have h0 : w.cell? ⟨g, 0, none⟩ = some (.string text) := (blk_cell hb 0).trans rfl
 have h1 : w.cell? ⟨g, 1, none⟩ = some (.string line) := (blk_cell hb 1).trans rfl
 have h2 : w.cell? ⟨g, 2, none⟩ = some (.int .i64 65536) := (blk_cell hb 2).trans rfl
 have h3 : w.cell? ⟨g, 3, none⟩ = some .nilIface := (blk_cell hb 3).trans rfl
 have hf0 := blk_frozen hb 0
 have hf1 := blk_frozen hb 1
 have e1 : (text.toList == ([] : List UInt8)) = false := by
  rw [beq_eq_false_iff_ne]
  intro e
  have : text.size = 0 := by rw [← szl, ← Go.ByteArray.toList_eq, e]; rfl
  omega
 have HL := Aside0.mk (lineEnd_le text)
 have H64 := Aside0.mk h64
 have HCR := Aside0.mk hcr
 have HSZ := Aside0.mk hsz
 have HNE := Aside0.mk hne
 clear h64 hcr hsz hne
 go_enter Tryz.func155, Tryz.ntmps155
 go_wp2
 go_loopg [3] text.size (fun kq v3 w' => ∃ (x : Int), v3 = .int .i64 x ∧ Aside0 (0 ≤ x ∧ x ≤ lineEnd text ∧ x + kq = text.size) ∧ w' = w.setCell ⟨g, 1, none⟩ (.string ⟨#[]⟩))
 case atStart => exact ⟨0, rfl, ⟨by omega, by omega, by omega⟩, rfl⟩
 case round =>
  obtain ⟨x, rfl, HX, rfl⟩ := hrel
  have p5 := HX.out.1
  by_cases hx : x < lineEnd text
  ·have q5 : x < (text.size : Int) := by have := HL.out; omega
   have c0 : decide (x < (text.size : Int)) = true := decide_eq_true q5
   have hx5 := bt_at text x
   have hbt : bt text x ≠ 10 := by
    have := lineEnd_before text x.toNat (by omega)
    rwa [show ((x.toNat : Nat) : Int) = x by omega] at this
   have c6b0 : ((bt text x) == 10) = false := beq_eq_false_iff_ne.mpr hbt
   have c6b1 : ((bt text x) != 10) = true := bne_iff_ne.mpr hbt
   have hw : IntKind.i64.wrap (x + 1) = x + 1 := by have := HSZ.out; rw [PrintLast.i64_w]; unfold wrap64; omega
   have HX2 := Aside0.mk hx
   clear hbt hx
   replace p5 := eq_true p5
   replace q5 := eq_true q5
   go_wp2
   go_roundg (gk - 1)
   case measure => have := HX.out; have := HX2.out; have := HL.out; omega
   case rel => exact ⟨x + 1, rfl, ⟨by have := HX.out; omega, by have := HX2.out; omega, by have := HX.out; have := HX2.out; have := HL.out; omega⟩, rfl⟩
  ·have hxe : x = lineEnd text := by have := HX.out; omega
   have HXE := Aside0.mk hxe
   have hle : x ≤ (text.size : Int) := by have := HL.out; omega
   have c65 : decide (65536 ≤ x) = false := decide_eq_false (by have := H64.out; omega)
   have c65' : decide (x < 65536) = true := decide_eq_true (by have := H64.out; omega)
   have hlr : (if lineEnd text < text.size then lineEnd text + 1 else lineEnd text) = (if x < (text.size : Int) then x + 1 else x).toNat := by
    subst hxe
    split <;> split <;> omega
   have hll : lineOf text = text.extract 0 x.toNat := by rw [hxe]; rfl
   have HLR := Aside0.mk hlr
   have HLL := Aside0.mk hll
   have hcr' := HCR.out
   rw [hll] at hcr'
   generalize hLL : text.extract 0 x.toNat = L at *
   clear hlr hll hx
   by_cases hlt : x < (text.size : Int)
   ·have c0 : decide (x < (text.size : Int)) = true := decide_eq_true hlt
    have hx5 := bt_at text x
    have hbt : bt text x = 10 := by
     have := lineEnd_at text (by omega)
     rwa [← hxe] at this
    have c6b0 : ((bt text x) == 10) = true := beq_iff_eq.mpr hbt
    have c6b1 : ((bt text x) != 10) = false := bne_eq_false_iff_eq.mpr hbt
    have hw : IntKind.i64.wrap (x + 1) = x + 1 := by have := HSZ.out; rw [PrintLast.i64_w]; unfold wrap64; omega
    clear hbt hxe
    have p5' := p5
    replace p5 := eq_true p5
    have q5 := eq_true hlt
    have hle' := eq_true hle
    have hLs : L.size ≤ text.size := by rw [← hLL, ByteArray.size_extract]; omega
    obtain ⟨y, hy⟩ : ∃ y, y = (L.size : Int) - 1 := ⟨_, rfl⟩
    rw [← hy] at hcr'
    have hwl : IntKind.i64.wrap ((L.size : Int) - 1) = y := by have := HSZ.out; rw [PrintLast.i64_w, hy]; unfold wrap64; omega
    have hxl := bt_at L y
    have cl0 : (bt L y == 13) = false := beq_eq_false_iff_ne.mpr hcr'
    have HY := Aside0.mk hy
    clear hy
    go_wp2
    obtain ⟨hbW, hgW⟩ := lines_post hb L (text.extract (x + 1).toNat text.size) HLL.out.symm (by unfold restOf; rw [HLR.out, if_pos hlt])
    generalize ((w.setCell ⟨g, 1, none⟩ (.string ⟨#[]⟩)).setCell ⟨g, 1, none⟩ (.string L)).setCell ⟨g, 0, none⟩ (.string (text.extract (x + 1).toNat text.size)) = W at hbW hgW ⊢
    have h1W : W.cell? ⟨g, 1, none⟩ = some (.string L) := (blk_cell hbW 1).trans (by rw [← HLL.out]; rfl)
    by_cases hL0 : 0 < (L.size : Int)
    ·have d0 : decide (0 < (L.size : Int)) = true := decide_eq_true hL0
     have d0n : decide (0 < L.size) = true := decide_eq_true (by omega)
     have d1 : (0 ≤ y) = True := eq_true (by have := HY.out; omega)
     have d2 : (y < (L.size : Int)) = True := eq_true (by have := HY.out; omega)
     go_quiet (fail)
     go_wp2
     go_ret
     exact ⟨rfl, blk_drewN hbW nq, grown_drewN hgW nq⟩
    ·have d0 : decide (0 < (L.size : Int)) = false := decide_eq_false hL0
     have d0n : decide (0 < L.size) = false := decide_eq_false (by omega)
     go_quiet (fail)
     go_wp2
     go_ret
     exact ⟨rfl, blk_drewN hbW nq, grown_drewN hgW nq⟩
   ·have c0 : decide (x < (text.size : Int)) = false := decide_eq_false hlt
    have hlt' := Aside0.mk hlt
    clear hxe hlt
    have p5' := p5
    replace p5 := eq_true p5
    have hle' := eq_true hle
    have hLs : L.size ≤ text.size := by rw [← hLL, ByteArray.size_extract]; omega
    obtain ⟨y, hy⟩ : ∃ y, y = (L.size : Int) - 1 := ⟨_, rfl⟩
    rw [← hy] at hcr'
    have hwl : IntKind.i64.wrap ((L.size : Int) - 1) = y := by have := HSZ.out; rw [PrintLast.i64_w, hy]; unfold wrap64; omega
    have hxl := bt_at L y
    have cl0 : (bt L y == 13) = false := beq_eq_false_iff_ne.mpr hcr'
    have HY := Aside0.mk hy
    clear hy
    go_wp2
    obtain ⟨hbW, hgW⟩ := lines_post hb L (text.extract x.toNat text.size) HLL.out.symm (by unfold restOf; rw [HLR.out, if_neg (by have := hlt'.out; omega)])
    generalize ((w.setCell ⟨g, 1, none⟩ (.string ⟨#[]⟩)).setCell ⟨g, 1, none⟩ (.string L)).setCell ⟨g, 0, none⟩ (.string (text.extract x.toNat text.size)) = W at hbW hgW ⊢
    have h1W : W.cell? ⟨g, 1, none⟩ = some (.string L) := (blk_cell hbW 1).trans (by rw [← HLL.out]; rfl)
    by_cases hL0 : 0 < (L.size : Int)
    ·have d0 : decide (0 < (L.size : Int)) = true := decide_eq_true hL0
     have d0n : decide (0 < L.size) = true := decide_eq_true (by omega)
     have d1 : (0 ≤ y) = True := eq_true (by have := HY.out; omega)
     have d2 : (y < (L.size : Int)) = True := eq_true (by have := HY.out; omega)
     go_quiet (fail)
     go_wp2
     go_ret
     exact ⟨rfl, blk_drewN hbW nq, grown_drewN hgW nq⟩
    ·have d0 : decide (0 < (L.size : Int)) = false := decide_eq_false hL0
     have d0n : decide (0 < L.size) = false := decide_eq_false (by omega)
     go_quiet (fail)
     go_wp2
     go_ret
     exact ⟨rfl, blk_drewN hbW nq, grown_drewN hgW nq⟩
end Go.Proofs.YtednjmngalmdkaaGreatDoor.GL
end
section
/- (*texts.Lines).Scan as a contract in the printed form. Conditions: no limit but 65,536, no error, lines shorter than that without a carriage return at their end. -/
namespace Go.Proofs.YtednjmngalmdkaaGreatDoor.GPC
open Go.RowKit Go.Proofs.YtednjmngalmdkaaGreatDoorW.PrintWords Go.Proofs.YtednjmngalmdkaaGreatDoorW.PrintLast Go.Proofs.YtednjmngalmdkaaGreatDoorW
set_option linter.unusedVariables false
def texts_Lines_Scan.f (s0 s1 : ByteArray) (s2 : Int) (s3 : Option Int) : Option (Bool × ByteArray × ByteArray × Int × Option Int) :=
 if s2 = 65536 ∧ s3 = none then (if s0.size = 0 then some (false, ⟨#[]⟩, ⟨#[]⟩, 65536, none) else
  if s0.size ≤ 140737488355328 ∧ GL.lineEnd s0 < 65536 ∧ ¬ bt (GL.lineOf s0) ((GL.lineOf s0).size - 1) = 13 then some (true, GL.restOf s0, GL.lineOf s0, 65536, none) else none) else none
theorem texts_Lines_Scan.calls (g : Nat) (s0 s1 : ByteArray) (s2 : Int) (s3 : Option Int) (r1 : Bool) (r2 r3 : ByteArray) (r4 : Int) (r5 : Option Int) (w0 w : World) (hI : IsS225 w0 w g s0 s1 s2 s3) (hB : Below w0.heap.size w0 w)
  (h : texts_Lines_Scan.f s0 s1 s2 s3 = some (r1, r2, r3, r4, r5)) :
  Calls Tryz.prog 155 #[.pointer (some ⟨g, 0, none⟩)] w fun e w' => e = .returned (.bool r1) ∧ IsS225 w0 w' g r2 r3 r4 r5 ∧ Below w0.heap.size w0 w' ∧ KeepBut w w' g none := by
 obtain ⟨hc, hge⟩ := hI
 unfold texts_Lines_Scan.f at h
 split at h
 ·rename_i h1
  obtain ⟨rfl, rfl⟩ := h1
  have key : ∀ w', w.grownBy w' (some g) → Below w0.heap.size w0 w' ∧ KeepBut w w' g none := fun w' hg =>
   ⟨pw_below_grown hB (some g) hB.size hg (fun k e => by cases e; exact hge), ⟨hg.size, fun i hi hne _ => hg.block i hi (fun e => hne (by injection e))⟩⟩
  split at h
  ·rename_i h2
   injection h with h
   simp only [Prod.mk.injEq] at h
   obtain ⟨rfl, rfl, rfl, rfl, rfl⟩ := h
   obtain rfl := GL.size0 h2
   refine (GL.lines_scan_end g s1 w hc).mono ?_
   rintro e w' ⟨rfl, hb, hg⟩
   exact ⟨rfl, ⟨hb, hge⟩, key w' hg⟩
  ·rename_i h2
   split at h
   ·rename_i h3
    injection h with h
    simp only [Prod.mk.injEq] at h
    obtain ⟨rfl, rfl, rfl, rfl, rfl⟩ := h
    refine (GL.lines_scan g s0 s1 w hc (by omega) h3.1 h3.2.1 h3.2.2).mono ?_
    rintro e w' ⟨rfl, hb, hg⟩
    exact ⟨rfl, ⟨hb, hge⟩, key w' hg⟩
   ·cases h
 ·cases h
end Go.Proofs.YtednjmngalmdkaaGreatDoor.GPC
end
section
namespace Go.Proofs.YtednjmngalmdkaaGreatDoor.GPC
open Go.RowKit Go.Proofs.YtednjmngalmdkaaGreatDoorW.PrintWords Go.Proofs.YtednjmngalmdkaaGreatDoorW.PrintLast Go.Proofs.YtednjmngalmdkaaGreatDoorW.PrintMore
attribute [local go_sem] max2_int min2_int max_two min_two max_three min_three max_four min_four   -- for this text's walks alone
set_option linter.unusedVariables false
set_option linter.unusedSimpArgs false

attribute [local go_sem] run_store_float
/-! ### stringslite_HasSuffix: function 219 -/
def stringslite_HasSuffix.f (a0 : ByteArray) (a1 : ByteArray) : Option (Bool) := if (a0.size : Int) ≥ (a1.size : Int) then (if 0 ≤ (wrap64 ((a0.size : Int) - (a1.size : Int))) then (if (wrap64 ((a0.size : Int) - (a1.size : Int))) ≤ (a0.size : Int) then (some ((a0.extract ((wrap64 ((a0.size : Int) - (a1.size : Int))) : Int).toNat a0.size).toList == a1.toList)) else (none)) else (none)) else (some false)
set_option maxHeartbeats 8000000 in
set_option maxRecDepth 100000 in
theorem stringslite_HasSuffix.calls (a0 : ByteArray) (a1 : ByteArray) (r : Bool) (w : World) (h : stringslite_HasSuffix.f a0 a1 = some r) :
  Calls Tryz.prog 219 #[.string a0, .string a1] w fun e w' => e = .returned (.bool r) ∧ Drawn0 w w' := by
 have H : (if (a0.size : Int) ≥ (a1.size : Int) then (if 0 ≤ (wrap64 ((a0.size : Int) - (a1.size : Int))) then (if (wrap64 ((a0.size : Int) - (a1.size : Int))) ≤ (a0.size : Int) then (some ((a0.extract ((wrap64 ((a0.size : Int) - (a1.size : Int))) : Int).toNat a0.size).toList == a1.toList)) else (none)) else (none)) else (some false)) = some r := h
 clear h
 by_cases c3 : (a0.size : Int) ≥ (a1.size : Int)
 ·rw [if_pos c3] at H
  have c3b0 : decide ((a1.size : Int) ≤ (a0.size : Int)) = true := decide_eq_true c3
  have c3b1 : decide (a1.size ≤ a0.size) = true := decide_eq_true (Int.ofNat_le.mp c3)
  clear c3
  obtain ⟨ji4, hji4⟩ : ∃ j_ : Int, (wrap64 ((a0.size : Int) - (a1.size : Int))) = j_ := ⟨_, rfl⟩
  replace H : (if 0 ≤ (ji4) then (if (ji4) ≤ (a0.size : Int) then (some ((a0.extract ((ji4) : Int).toNat a0.size).toList == a1.toList)) else (none)) else (none)) = some r := by first | (rw [hji4] at H; exact H) | (simp only [hji4] at H ⊢; exact H)
  have hji4w : (IntKind.i64.wrap ((a0.size : Int) - (a1.size : Int))) = ji4 := (i64_w _).trans hji4
  replace H := guard_inv H
  obtain ⟨c5, H⟩ := H
  have c5b0 := eq_true c5
  have c5b1 := decide_eq_true c5
  clear c5
  replace H := guard_inv H
  obtain ⟨c6, H⟩ := H
  have c6b0 := eq_true c6
  have c6b1 := decide_eq_true c6
  clear c6
  obtain rfl := Option.some.inj H
  go_enter Tryz.func219, Tryz.ntmps219
  go_wp2
  go_ret
  exact ⟨by first | rfl | (simp; done) | (simp only [← hji4] <;> (first | rfl | simp)) | (simp [*]; done), by repeat (first | exact Drawn0.refl _ | apply Drawn0.step)⟩
 ·rw [if_neg c3] at H
  have c3b0 : decide ((a1.size : Int) ≤ (a0.size : Int)) = false := decide_eq_false c3
  have c3b1 : decide (a1.size ≤ a0.size) = false := decide_eq_false (fun h => c3 (Int.ofNat_le.mpr h))
  clear c3
  obtain rfl := Option.some.inj H
  go_enter Tryz.func219, Tryz.ntmps219
  go_wp2
  go_ret
  exact ⟨by first | rfl | (simp; done) | (simp [*]; done), by repeat (first | exact Drawn0.refl _ | apply Drawn0.step)⟩
/-! ### stringslite_TrimSuffix: function 206 -/
def stringslite_TrimSuffix.f (a0 : ByteArray) (a1 : ByteArray) : Option (ByteArray) := (stringslite_HasSuffix.f a0 a1).bind fun t210 => (if t210 = true then (if 0 ≤ (wrap64 ((a0.size : Int) - (a1.size : Int))) then (if (wrap64 ((a0.size : Int) - (a1.size : Int))) ≤ (a0.size : Int) then (some (a0.extract 0 ((wrap64 ((a0.size : Int) - (a1.size : Int))) : Int).toNat)) else (none)) else (none)) else (some a0))
set_option maxHeartbeats 8000000 in
set_option maxRecDepth 100000 in
theorem stringslite_TrimSuffix.calls (a0 : ByteArray) (a1 : ByteArray) (r : ByteArray) (w : World) (h : stringslite_TrimSuffix.f a0 a1 = some r) :
  Calls Tryz.prog 206 #[.string a0, .string a1] w fun e w' => e = .returned (.string r) ∧ Drawn0 w w' := by
 have H : ((stringslite_HasSuffix.f a0 a1).bind fun t210 => (if t210 = true then (if 0 ≤ (wrap64 ((a0.size : Int) - (a1.size : Int))) then (if (wrap64 ((a0.size : Int) - (a1.size : Int))) ≤ (a0.size : Int) then (some (a0.extract 0 ((wrap64 ((a0.size : Int) - (a1.size : Int))) : Int).toNat)) else (none)) else (none)) else (some a0))) = some r := h
 clear h
 replace H := Option.bind_eq_some_iff.mp H
 obtain ⟨t210, A30, H⟩ := H
 try dsimp -simprocs only at H
 have A3 := Aside0.mk A30
 clear A30
 by_cases c4 : t210 = true
 ·subst c4
  have H1 : (if 0 ≤ (wrap64 ((a0.size : Int) - (a1.size : Int))) then (if (wrap64 ((a0.size : Int) - (a1.size : Int))) ≤ (a0.size : Int) then (some (a0.extract 0 ((wrap64 ((a0.size : Int) - (a1.size : Int))) : Int).toNat)) else (none)) else (none)) = some r := by rw [if_pos rfl] at H; exact H
  clear H
  have H := H1
  clear H1
  obtain ⟨ji5, hji5⟩ : ∃ j_ : Int, (wrap64 ((a0.size : Int) - (a1.size : Int))) = j_ := ⟨_, rfl⟩
  replace H : (if 0 ≤ (ji5) then (if (ji5) ≤ (a0.size : Int) then (some (a0.extract 0 ((ji5) : Int).toNat)) else (none)) else (none)) = some r := by first | (rw [hji5] at H; exact H) | (simp only [hji5] at H ⊢; exact H)
  (try rw [hji5] at A3)
  have hji5w : (IntKind.i64.wrap ((a0.size : Int) - (a1.size : Int))) = ji5 := (i64_w _).trans hji5
  replace H := guard_inv H
  obtain ⟨c6, H⟩ := H
  have c6b0 := eq_true c6
  have c6b1 := decide_eq_true c6
  clear c6
  replace H := guard_inv H
  obtain ⟨c7, H⟩ := H
  have c7b0 := eq_true c7
  have c7b1 := decide_eq_true c7
  clear c7
  obtain rfl := Option.some.inj H
  go_enter Tryz.func206, Tryz.ntmps206
  go_wp2_with (first | ((with_reducible refine gate_callee (f := 219) rfl ?_); refine goesL_ (some 7) rfl rfl Tryz.func219 (by kernel_rfl) rfl #[.string a0, .string a1] rfl (by (try simp only [List.map_toArray, List.map_cons, List.map_nil]); first | done | rfl | (simp only [List.length_drop, List.length_take]; rfl)) ?_; (with_reducible refine (stringslite_HasSuffix.calls a0 a1 true _ A3.out).mono ?_); rintro e w' ⟨rfl, ⟨nd, rfl⟩⟩; refine ⟨_, rfl, ?_⟩))
  go_ret
  exact ⟨by first | rfl | (simp; done) | (simp only [← hji5] <;> (first | rfl | simp)) | (simp [*]; done), by repeat (first | exact Drawn0.refl _ | apply Drawn0.step)⟩
 ·replace c4 := Bool.eq_false_iff.mpr c4
  subst c4
  have H1 : (some a0) = some r := by rw [if_neg (show ¬ (false = true) by decide)] at H; exact H
  clear H
  have H := H1
  clear H1
  obtain rfl := Option.some.inj H
  go_enter Tryz.func206, Tryz.ntmps206
  go_wp2_with (first | ((with_reducible refine gate_callee (f := 219) rfl ?_); refine goesL_ (some 7) rfl rfl Tryz.func219 (by kernel_rfl) rfl #[.string a0, .string a1] rfl (by (try simp only [List.map_toArray, List.map_cons, List.map_nil]); first | done | rfl | (simp only [List.length_drop, List.length_take]; rfl)) ?_; (with_reducible refine (stringslite_HasSuffix.calls a0 a1 false _ A3.out).mono ?_); rintro e w' ⟨rfl, ⟨nd, rfl⟩⟩; refine ⟨_, rfl, ?_⟩))
  go_ret
  exact ⟨by first | rfl | (simp; done) | (simp [*]; done), by repeat (first | exact Drawn0.refl _ | apply Drawn0.step)⟩
/-! ### strings_TrimSuffix: function 192 -/
def strings_TrimSuffix.f (a0 : ByteArray) (a1 : ByteArray) : Option (ByteArray) := (stringslite_TrimSuffix.f a0 a1).bind fun t211 => (some t211)
set_option maxHeartbeats 8000000 in
set_option maxRecDepth 100000 in
theorem strings_TrimSuffix.calls (a0 : ByteArray) (a1 : ByteArray) (r : ByteArray) (w : World) (h : strings_TrimSuffix.f a0 a1 = some r) :
  Calls Tryz.prog 192 #[.string a0, .string a1] w fun e w' => e = .returned (.string r) ∧ Drawn0 w w' := by
 have H : ((stringslite_TrimSuffix.f a0 a1).bind fun t211 => (some t211)) = some r := h
 clear h
 replace H := Option.bind_eq_some_iff.mp H
 obtain ⟨t211, A30, H⟩ := H
 replace H : (some t211) = some r := H
 have A3 := Aside0.mk A30
 clear A30
 obtain rfl := Option.some.inj H
 go_enter Tryz.func192, Tryz.ntmps192
 go_wp2_with (first | ((with_reducible refine gate_callee (f := 206) rfl ?_); refine goesL_ (some 7) rfl rfl Tryz.func206 (by kernel_rfl) rfl #[.string a0, .string a1] rfl (by (try simp only [List.map_toArray, List.map_cons, List.map_nil]); first | done | rfl | (simp only [List.length_drop, List.length_take]; rfl)) ?_; (with_reducible refine (stringslite_TrimSuffix.calls a0 a1 t211 _ A3.out).mono ?_); rintro e w' ⟨rfl, ⟨nd, rfl⟩⟩; refine ⟨_, rfl, ?_⟩))
 go_ret
 exact ⟨by first | rfl | (simp; done) | (simp [*]; done), by repeat (first | exact Drawn0.refl _ | apply Drawn0.step)⟩
/-! ### texts_Lines_Err: function 193 -/
def texts_Lines_Err.f (s0_0 : ByteArray) (s0_1 : ByteArray) (s0_2 : Int) (s0_3 : Option Int) : Option (Option Int × ByteArray × ByteArray × Int × Option Int) := some (s0_3, s0_0, s0_1, s0_2, s0_3)
set_option maxHeartbeats 8000000 in
set_option maxRecDepth 100000 in
theorem texts_Lines_Err.calls (g : Nat) (s0_0 : ByteArray) (s0_1 : ByteArray) (s0_2 : Int) (s0_3 : Option Int) (r1 : Option Int) (r2 : ByteArray) (r3 : ByteArray) (r4 : Int) (r5 : Option Int) (w0 w : World) (hI : IsS225 w0 w g s0_0 s0_1 s0_2 s0_3) (hB : Below w0.heap.size w0 w) (h : texts_Lines_Err.f s0_0 s0_1 s0_2 s0_3 = some (r1, r2, r3, r4, r5)) :
  Calls Tryz.prog 193 #[.pointer (some ⟨g, 0, none⟩)] w fun e w' => e = .returned (errW r1) ∧ IsS225 w0 w' g r2 r3 r4 r5 ∧ Below w0.heap.size w0 w' ∧ KeepBut w w' g none := by
 have HI0 := Aside0.mk hI
 have HK := Aside0.mk (KeepBut.refl w g none)
 have HL := Aside0.mk hB.size
 clear hI
 have HW0 := Aside0.mk hB.size
 have HB := Aside0.mk hB
 clear hB
 have H : (some (s0_3, s0_0, s0_1, s0_2, s0_3)) = some (r1, r2, r3, r4, r5) := h
 clear h
 simp only [Option.some.injEq, Prod.mk.injEq] at H
 obtain ⟨rfl, rfl, rfl, rfl, rfl⟩ := H
 obtain ⟨HGz2, hgz2⟩ := HI0.out
 have hcz2_0 := cellS225_0 HGz2
 have hcz2_1 := cellS225_1 HGz2
 have hcz2_2 := cellS225_2 HGz2
 have hcz2_3 := cellS225_3 HGz2
 have hfz2_0 := blk_frozen HGz2 0
 have hfz2_1 := blk_frozen HGz2 1
 have hfz2_2 := blk_frozen HGz2 2
 have hfz2_3 := blk_frozen HGz2 3
 clear HGz2 hgz2
 go_enter Tryz.func193, Tryz.ntmps193
 go_wp2
 go_ret
 exact ⟨by first | rfl | (simp [errW_none, errW_some] <;> rfl) | (simp [*, errW_none, errW_some] <;> rfl), by repeat (first | (with_reducible first | exact HI0.out | apply IsS225.alloc | apply IsS225.drewN | apply IsS225.drew | apply IsS225.set_0 | apply IsS225.set_1 | apply IsS225.set_2 | apply IsS225.set_3) | exact HI0.out), by repeat (first | (with_reducible first | exact HB.out | apply below_alloc | apply pw_below_drewN | apply below_drew1 | refine below_set ?_ (IsS225.ge HI0.out)) | exact HB.out), by repeat (first | (with_reducible first | exact HK.out | apply KeepBut.set_ | apply keep_drewN | apply keep_drew | apply keep_alloc) | exact HK.out)⟩
/-! ### procfs_parseBuddyInfo: function 145 -/
mutual
def procfs_parseBuddyInfo.l0 : Nat → List (S75) → Int → ByteArray → ByteArray → Int → Option Int → Option ((List (S75)) × Option Int)
 | 0, _, _, _, _, _, _ => none
 | k + 1, x4, x6, x220000, x220001, x220002, x220003 => (texts_Lines_Scan.f x220000 x220001 x220002 x220003).bind fun bt220 => (if bt220.1 = true then ((texts_Lines_Text.f bt220.2.1 bt220.2.2.1 bt220.2.2.2.1 bt220.2.2.2.2).bind fun bt230 => ((strings_Fields.f bt230.1).bind fun t235 => (if (t235.length : Int) < 4 then (none) else (if 1 < (t235.length : Int) then ((strings_TrimSuffix.f (rdOf ByteArray.empty t235 1) (⟨#[44]⟩ : ByteArray)).bind fun t239 => (if 3 < (t235.length : Int) then ((strings_TrimSuffix.f (rdOf ByteArray.empty t235 3) (⟨#[44]⟩ : ByteArray)).bind fun t241 => (if 4 ≤ (t235.length : Int) then ((some (t235.drop 4 : List ByteArray)).bind fun y242 => (if x6 = (-1) then (procfs_parseBuddyInfo.j1 k x4 (y242.length : Int) t235 t239 t241 (y242.length : Int) bt230.2.1 bt230.2.2.1 bt230.2.2.2.1 bt230.2.2.2.2) else (if x6 = (y242.length : Int) then (procfs_parseBuddyInfo.j1 k x4 x6 t235 t239 t241 (y242.length : Int) bt230.2.1 bt230.2.2.1 bt230.2.2.2.1 bt230.2.2.2.2) else (none)))) else (none))) else (none))) else (none))))) else ((texts_Lines_Err.f bt220.2.1 bt220.2.2.1 bt220.2.2.2.1 bt220.2.2.2.2).bind fun bt225 => (some (x4, bt225.1))))
def procfs_parseBuddyInfo.j1 : Nat → List (S75) → Int → List ByteArray → ByteArray → ByteArray → Int → ByteArray → ByteArray → Int → Option Int → Option ((List (S75)) × Option Int)
 | 0, _, _, _, _, _, _, _, _, _, _ => none
 | k + 1, x4, x6, x9, x10, x11, x12, x220000, x220001, x220002, x220003 => if 0 ≤ x12 then (if (x12 : Int).toNat ≤ 35184372088832 then (procfs_parseBuddyInfo.l1 k x4 x6 x9 x10 x11 (List.replicate (x12 : Int).toNat (0 : Nat)) x12 0 x220000 x220001 x220002 x220003) else (none)) else (none)
def procfs_parseBuddyInfo.l1 : Nat → List (S75) → Int → List ByteArray → ByteArray → ByteArray → List Nat → Int → Int → ByteArray → ByteArray → Int → Option Int → Option ((List (S75)) × Option Int)
 | 0, _, _, _, _, _, _, _, _, _, _, _, _ => none
 | k + 1, x4, x6, x9, x10, x11, x13, x48, x49, x220000, x220001, x220002, x220003 => if x49 < x48 then (if 0 ≤ (wrap64 (x49 + 4)) then (if (wrap64 (x49 + 4)) < (x9.length : Int) then ((strconv_ParseFloat.f (rdOf ByteArray.empty x9 (wrap64 (x49 + 4))) 64).bind fun bt253 => (if 0 ≤ x49 then (if x49 < (x13.length : Int) then (if bt253.2.isNone = true then (procfs_parseBuddyInfo.l1 k x4 x6 x9 x10 x11 (x13.set (x49 : Int).toNat bt253.1) x48 (wrap64 (x49 + 1)) x220000 x220001 x220002 x220003) else (none)) else (none)) else (none))) else (none)) else (none)) else (if x4.length < 2513169434916 then (procfs_parseBuddyInfo.l0 k (x4 ++ [(⟨x10, x11, x13⟩ : S75)]) x6 x220000 x220001 x220002 x220003) else (none))
end
def procfs_parseBuddyInfo.f (k : Nat) (a0 : ByteArray) : Option ((List (S75)) × Option Int) := (texts_NewLines.f a0).bind fun bt215 => (procfs_parseBuddyInfo.l0 k (([] : List (S75))) (-1) bt215.1 bt215.2.1 bt215.2.2.1 bt215.2.2.2)
theorem procfs_parseBuddyInfo.mono_l : ∀ k, (∀ y0 y1 y2 y3 y4 y5, LeO (procfs_parseBuddyInfo.l0 k y0 y1 y2 y3 y4 y5) (procfs_parseBuddyInfo.l0 (k + 1) y0 y1 y2 y3 y4 y5)) ∧ (∀ y0 y1 y2 y3 y4 y5 y6 y7 y8 y9, LeO (procfs_parseBuddyInfo.j1 k y0 y1 y2 y3 y4 y5 y6 y7 y8 y9) (procfs_parseBuddyInfo.j1 (k + 1) y0 y1 y2 y3 y4 y5 y6 y7 y8 y9)) ∧ (∀ y0 y1 y2 y3 y4 y5 y6 y7 y8 y9 y10 y11, LeO (procfs_parseBuddyInfo.l1 k y0 y1 y2 y3 y4 y5 y6 y7 y8 y9 y10 y11) (procfs_parseBuddyInfo.l1 (k + 1) y0 y1 y2 y3 y4 y5 y6 y7 y8 y9 y10 y11))
 | 0 => ⟨fun _ _ _ _ _ _ r h => by simp [procfs_parseBuddyInfo.l0] at h, fun _ _ _ _ _ _ _ _ _ _ r h => by simp [procfs_parseBuddyInfo.j1] at h, fun _ _ _ _ _ _ _ _ _ _ _ _ r h => by simp [procfs_parseBuddyInfo.l1] at h⟩
 | k + 1 => by
  obtain ⟨ih0, ih1, ih2⟩ := procfs_parseBuddyInfo.mono_l k
  refine ⟨?_, ?_, ?_⟩
  ·intro y0 y1 y2 y3 y4 y5
   unfold procfs_parseBuddyInfo.l0
   repeat' first
   | (with_reducible exact ih0 _ _ _ _ _ _)
   | (with_reducible exact ih1 _ _ _ _ _ _ _ _ _ _)
   | (with_reducible exact ih2 _ _ _ _ _ _ _ _ _ _ _ _)
   | (with_reducible exact LeO.refl _)
   | (with_reducible exact LeO.none _)
   | (with_reducible refine LeO.ite ?_ ?_)
   | (with_reducible refine LeO.bind ?_ (fun _ => ?_))
   | exact ih0 _ _ _ _ _ _
   | exact ih1 _ _ _ _ _ _ _ _ _ _
   | exact ih2 _ _ _ _ _ _ _ _ _ _ _ _
   | exact LeO.none _
   | refine LeO.ite ?_ ?_
   | refine LeO.bind ?_ (fun _ => ?_)
  ·intro y0 y1 y2 y3 y4 y5 y6 y7 y8 y9
   unfold procfs_parseBuddyInfo.j1
   repeat' first
   | (with_reducible exact ih0 _ _ _ _ _ _)
   | (with_reducible exact ih1 _ _ _ _ _ _ _ _ _ _)
   | (with_reducible exact ih2 _ _ _ _ _ _ _ _ _ _ _ _)
   | (with_reducible exact LeO.refl _)
   | (with_reducible exact LeO.none _)
   | (with_reducible refine LeO.ite ?_ ?_)
   | (with_reducible refine LeO.bind ?_ (fun _ => ?_))
   | exact ih0 _ _ _ _ _ _
   | exact ih1 _ _ _ _ _ _ _ _ _ _
   | exact ih2 _ _ _ _ _ _ _ _ _ _ _ _
   | exact LeO.none _
   | refine LeO.ite ?_ ?_
   | refine LeO.bind ?_ (fun _ => ?_)
  ·intro y0 y1 y2 y3 y4 y5 y6 y7 y8 y9 y10 y11
   unfold procfs_parseBuddyInfo.l1
   repeat' first
   | (with_reducible exact ih0 _ _ _ _ _ _)
   | (with_reducible exact ih1 _ _ _ _ _ _ _ _ _ _)
   | (with_reducible exact ih2 _ _ _ _ _ _ _ _ _ _ _ _)
   | (with_reducible exact LeO.refl _)
   | (with_reducible exact LeO.none _)
   | (with_reducible refine LeO.ite ?_ ?_)
   | (with_reducible refine LeO.bind ?_ (fun _ => ?_))
   | exact ih0 _ _ _ _ _ _
   | exact ih1 _ _ _ _ _ _ _ _ _ _
   | exact ih2 _ _ _ _ _ _ _ _ _ _ _ _
   | exact LeO.none _
   | refine LeO.ite ?_ ?_
   | refine LeO.bind ?_ (fun _ => ?_)
theorem procfs_parseBuddyInfo.mono : ∀ a0 k, LeO (procfs_parseBuddyInfo.f k a0) (procfs_parseBuddyInfo.f (k + 1) a0) := by
 intro a0 k
 obtain ⟨ih0, ih1, ih2⟩ := procfs_parseBuddyInfo.mono_l k
 unfold procfs_parseBuddyInfo.f
 repeat' first
   | (with_reducible exact ih0 _ _ _ _ _ _)
   | (with_reducible exact ih1 _ _ _ _ _ _ _ _ _ _)
   | (with_reducible exact ih2 _ _ _ _ _ _ _ _ _ _ _ _)
   | (with_reducible exact LeO.refl _)
   | (with_reducible exact LeO.none _)
   | (with_reducible refine LeO.ite ?_ ?_)
   | (with_reducible refine LeO.bind ?_ (fun _ => ?_))
   | exact ih0 _ _ _ _ _ _
   | exact ih1 _ _ _ _ _ _ _ _ _ _
   | exact ih2 _ _ _ _ _ _ _ _ _ _ _ _
   | exact LeO.none _
   | refine LeO.ite ?_ ?_
   | refine LeO.bind ?_ (fun _ => ?_)
set_option maxHeartbeats 8000000 in
set_option maxRecDepth 100000 in
theorem procfs_parseBuddyInfo.calls (k : Nat) (a0 : ByteArray) (r1 : List (S75)) (r2 : Option Int) (w : World) (hT_ : TabW w) (h : procfs_parseBuddyInfo.f k a0 = some (r1, r2)) :
  Calls Tryz.prog 145 #[.string a0] w fun e w' => ∃ v0_ : Value, e = .returned (.tuple #[v0_, errW r2]) ∧ Kd.S k75 75 w' w.heap.size (fun _ => True) v0_ r1 ∧ Below w.heap.size w w' := by
 have hu75 := Tryz.underlying75
 have hu170 := Tryz.underlying170
 have HTAB := Aside0.mk hT_
 clear hT_
 have HB := Aside0.mk (Below.refl w.heap.size w)
 have H : ((texts_NewLines.f a0).bind fun bt215 => (procfs_parseBuddyInfo.l0 k (([] : List (S75))) (-1) bt215.1 bt215.2.1 bt215.2.2.1 bt215.2.2.2)) = some (r1, r2) := h
 clear h
 obtain ⟨y212, hy212⟩ : ∃ y_ : List (S75), y_ = (([] : List (S75))) := ⟨_, rfl⟩
 replace H : ((texts_NewLines.f a0).bind fun bt215 => (procfs_parseBuddyInfo.l0 k y212 (-1) bt215.1 bt215.2.1 bt215.2.2.1 bt215.2.2.2)) = some (r1, r2) := by first | (rw [hy212]; with_reducible exact H) | (have H2_ := (Option.bind_some _ _).symm.trans H; rw [hy212]; with_reducible exact H2_) | (have H2_ := (Option.bind_some _ _).symm.trans H; with_reducible exact H2_) | with_reducible exact H | (rw [hy212]; exact H) | exact H
 have Ny212 := Aside0.mk hy212
 clear hy212
 replace H := Option.bind_eq_some_iff.mp H
 obtain ⟨⟨t215, t216, t217, t218⟩, A20, H⟩ := H
 replace H : (procfs_parseBuddyInfo.l0 k y212 (-1) t215 t216 t217 t218) = some (r1, r2) := H
 have A2 := Aside0.mk A20
 clear A20
 have H' := Aside0.mk H
 clear H
 go_enter Tryz.func145, Tryz.ntmps145
 go_wp2_with (first | ((with_reducible refine gate_dst (N := 15) rfl ?_); refine Kd.S_lit k75 _ 75 ?hg (N := 15) ?hd (xs := ([] : List (S75))) (inner := []) (ok := fun _ => True) (okp := fun _ => True) ?hr ?hp (fun _ hk => hk) trivial (Below.refl _ _) (Nat.le_refl _) (by simp) ?_; (case hd => rfl); (case hg => rfl); (case hr => first | (go_simp; done) | (go_simp; rfl)); (case hp => exact (Reps.none _ _)); intro v213 w3 ho4 hb hg_ hnew_; clear hg_ hnew_; (first | rw [← Ny212.out] at ho4 | (simp only [Int.reduceToNat] at ho4; rw [← Ny212.out] at ho4)); have n0_ := Aside0.mk (Kd.S_lower ho4 (below_size (by repeat (first | (with_reducible first | exact HB.out | apply below_alloc | apply pw_below_drewN | apply below_drew1) | exact HB.out)))); have n1_ := Aside0.mk (below_step (by repeat (first | (with_reducible first | exact HB.out | apply below_alloc | apply pw_below_drewN | apply below_drew1) | exact HB.out)) hb); clear HB; have HO214 := n0_; have HB := n1_; clear n0_ n1_; clear hb ho4) | ((with_reducible refine gate_callee (f := 154) rfl ?_); refine goesL_ (some 17) rfl rfl Tryz.func154 (by kernel_rfl) rfl #[.string a0] rfl (by (try simp only [List.map_toArray, List.map_cons, List.map_nil]); first | done | rfl | (simp only [List.length_drop, List.length_take]; rfl)) ?_; (with_reducible refine (texts_NewLines.calls a0 t215 t216 t217 t218 w _ ?side1 A2.out).mono ?_); (case side1 => repeat (first | (with_reducible first | exact HB.out | apply below_alloc | apply pw_below_drewN | apply below_drew1) | exact HB.out)); rintro e w5 ⟨g219, rfl, hi, hb, hb2⟩; refine ⟨_, rfl, ?_⟩; have n0_ := Aside0.mk (Kd.S_below (by (with_reducible repeat (first | apply Kd.S_alloc | apply Kd.S_drewN | apply Kd.S_drew)); exact HO214.out) hb2); have n1_ := Aside0.mk (hb); have n2_ := Aside0.mk (hi); clear HO214; clear HB; have HO214 := n0_; have HB := n1_; have HI219 := n2_; clear n0_ n1_ n2_; (try clear hb); (try clear hb2); (try clear hk); (try clear hi); (try simp only [errW_none, errW_some])))
 go_loopg [4, 6] k (fun kq v4 v6 w' => ∃ (x4_1 : List (S75)) (x6_1 : Int) (x220000_1 : ByteArray) (x220001_1 : ByteArray) (x220002_1 : Int) (x220003_1 : Option Int), v6 = .int .i64 x6_1 ∧ Aside0 (procfs_parseBuddyInfo.l0 kq x4_1 x6_1 x220000_1 x220001_1 x220002_1 x220003_1 = some (r1, r2)) ∧ Aside0 (kq ≤ k) ∧ Aside0 (Kd.S k75 75 w' w.heap.size (fun _ => True) v4 x4_1) ∧ Aside0 (IsS225 w w' g219 x220000_1 x220001_1 x220002_1 x220003_1) ∧ Aside0 (Below w.heap.size w w'))
 case atStart => exact ⟨(y212), ((-1)), (t215), (t216), (t217), (t218), (by first | rfl | (simp; done) | (simp [*]; done)), H', ⟨Nat.le_refl _⟩, ⟨by (with_reducible repeat (first | apply Kd.S_alloc | apply Kd.S_drewN | apply Kd.S_drew)); exact HO214.out⟩, ⟨by repeat (first | (with_reducible first | exact HI219.out | apply IsS225.alloc | apply IsS225.drewN | apply IsS225.drew | apply IsS225.set_0 | apply IsS225.set_1 | apply IsS225.set_2 | apply IsS225.set_3) | exact HI219.out)⟩, ⟨by repeat (first | (with_reducible first | exact HB.out | apply below_alloc | apply pw_below_drewN | apply below_drew1 | refine below_set ?_ (IsS225.ge HI219.out)) | exact HB.out)⟩⟩
 case round =>
  clear H'
  try clear c1
  try clear p2
  obtain ⟨x4_1, x6_1, x220000_1, x220001_1, x220002_1, x220003_1, rfl, HA, HK1, HO_4, HI219, HB⟩ := hrel
  cases gk with
  | zero => exact absurd HA.out (by simp [procfs_parseBuddyInfo.l0])
  | succ k1 =>
   have H := HA.out
   clear HA
   simp only [procfs_parseBuddyInfo.l0] at H
   replace H := Option.bind_eq_some_iff.mp H
   obtain ⟨⟨t220, t221, t222, t223, t224⟩, A60, H⟩ := H
   replace H : (if t220 = true then ((texts_Lines_Text.f t221 t222 t223 t224).bind fun bt230 => ((strings_Fields.f bt230.1).bind fun t235 => (if (t235.length : Int) < 4 then (none) else (if 1 < (t235.length : Int) then ((strings_TrimSuffix.f (rdOf ByteArray.empty t235 1) (⟨#[44]⟩ : ByteArray)).bind fun t239 => (if 3 < (t235.length : Int) then ((strings_TrimSuffix.f (rdOf ByteArray.empty t235 3) (⟨#[44]⟩ : ByteArray)).bind fun t241 => (if 4 ≤ (t235.length : Int) then ((some (t235.drop 4 : List ByteArray)).bind fun y242 => (if x6_1 = (-1) then (procfs_parseBuddyInfo.j1 k1 x4_1 (y242.length : Int) t235 t239 t241 (y242.length : Int) bt230.2.1 bt230.2.2.1 bt230.2.2.2.1 bt230.2.2.2.2) else (if x6_1 = (y242.length : Int) then (procfs_parseBuddyInfo.j1 k1 x4_1 x6_1 t235 t239 t241 (y242.length : Int) bt230.2.1 bt230.2.2.1 bt230.2.2.2.1 bt230.2.2.2.2) else (none)))) else (none))) else (none))) else (none))))) else ((texts_Lines_Err.f t221 t222 t223 t224).bind fun bt225 => (some (x4_1, bt225.1)))) = some (r1, r2) := H
   have A6 := Aside0.mk A60
   clear A60
   by_cases c7 : t220 = true
   ·subst c7
    have H1 : ((texts_Lines_Text.f t221 t222 t223 t224).bind fun bt230 => ((strings_Fields.f bt230.1).bind fun t235 => (if (t235.length : Int) < 4 then (none) else (if 1 < (t235.length : Int) then ((strings_TrimSuffix.f (rdOf ByteArray.empty t235 1) (⟨#[44]⟩ : ByteArray)).bind fun t239 => (if 3 < (t235.length : Int) then ((strings_TrimSuffix.f (rdOf ByteArray.empty t235 3) (⟨#[44]⟩ : ByteArray)).bind fun t241 => (if 4 ≤ (t235.length : Int) then ((some (t235.drop 4 : List ByteArray)).bind fun y242 => (if x6_1 = (-1) then (procfs_parseBuddyInfo.j1 k1 x4_1 (y242.length : Int) t235 t239 t241 (y242.length : Int) bt230.2.1 bt230.2.2.1 bt230.2.2.2.1 bt230.2.2.2.2) else (if x6_1 = (y242.length : Int) then (procfs_parseBuddyInfo.j1 k1 x4_1 x6_1 t235 t239 t241 (y242.length : Int) bt230.2.1 bt230.2.2.1 bt230.2.2.2.1 bt230.2.2.2.2) else (none)))) else (none))) else (none))) else (none))))) = some (r1, r2) := by rw [if_pos rfl] at H; exact H
    clear H
    have H := H1
    clear H1
    replace H := Option.bind_eq_some_iff.mp H
    obtain ⟨⟨t230, t231, t232, t233, t234⟩, A80, H⟩ := H
    replace H : ((strings_Fields.f t230).bind fun t235 => (if (t235.length : Int) < 4 then (none) else (if 1 < (t235.length : Int) then ((strings_TrimSuffix.f (rdOf ByteArray.empty t235 1) (⟨#[44]⟩ : ByteArray)).bind fun t239 => (if 3 < (t235.length : Int) then ((strings_TrimSuffix.f (rdOf ByteArray.empty t235 3) (⟨#[44]⟩ : ByteArray)).bind fun t241 => (if 4 ≤ (t235.length : Int) then ((some (t235.drop 4 : List ByteArray)).bind fun y242 => (if x6_1 = (-1) then (procfs_parseBuddyInfo.j1 k1 x4_1 (y242.length : Int) t235 t239 t241 (y242.length : Int) t231 t232 t233 t234) else (if x6_1 = (y242.length : Int) then (procfs_parseBuddyInfo.j1 k1 x4_1 x6_1 t235 t239 t241 (y242.length : Int) t231 t232 t233 t234) else (none)))) else (none))) else (none))) else (none)))) = some (r1, r2) := H
    have A8 := Aside0.mk A80
    clear A80
    replace H := Option.bind_eq_some_iff.mp H
    obtain ⟨t235, A90, H⟩ := H
    try dsimp -simprocs only at H
    have A9 := Aside0.mk A90
    clear A90
    by_cases c10 : (t235.length : Int) < 4
    ·rw [if_pos c10] at H
     exact absurd H (by simp)
    ·rw [if_neg c10] at H
     have c10b0 : decide ((t235.length : Int) < 4) = false := decide_eq_false c10
     have c10b1 : decide (t235.length < 4) = false := decide_eq_false (by omega)
     clear c10
     replace H := guard_inv H
     obtain ⟨c11, H⟩ := H
     have c11b0 : decide (1 < (t235.length : Int)) = true := decide_eq_true c11
     have c11b1 : decide (1 < t235.length) = true := decide_eq_true (by omega)
     clear c11
     replace H := Option.bind_eq_some_iff.mp H
     obtain ⟨t239, A120, H⟩ := H
     try dsimp -simprocs only at H
     have A12 := Aside0.mk A120
     clear A120
     replace H := guard_inv H
     obtain ⟨c13, H⟩ := H
     have c13b0 : decide (3 < (t235.length : Int)) = true := decide_eq_true c13
     have c13b1 : decide (3 < t235.length) = true := decide_eq_true (by omega)
     clear c13
     replace H := Option.bind_eq_some_iff.mp H
     obtain ⟨t241, A140, H⟩ := H
     try dsimp -simprocs only at H
     have A14 := Aside0.mk A140
     clear A140
     replace H := guard_inv H
     obtain ⟨c15, H⟩ := H
     have c15b0 := eq_true c15
     have c15b1 := decide_eq_true c15
     clear c15
     obtain ⟨y242, hy242⟩ : ∃ y_ : List ByteArray, y_ = (t235.drop 4) := ⟨_, rfl⟩
     replace H : (if x6_1 = (-1) then (procfs_parseBuddyInfo.j1 k1 x4_1 (y242.length : Int) t235 t239 t241 (y242.length : Int) t231 t232 t233 t234) else (if x6_1 = (y242.length : Int) then (procfs_parseBuddyInfo.j1 k1 x4_1 x6_1 t235 t239 t241 (y242.length : Int) t231 t232 t233 t234) else (none))) = some (r1, r2) := by first | (rw [hy242]; with_reducible exact H) | (have H2_ := (Option.bind_some _ _).symm.trans H; rw [hy242]; with_reducible exact H2_) | (have H2_ := (Option.bind_some _ _).symm.trans H; with_reducible exact H2_) | with_reducible exact H | (rw [hy242]; exact H) | exact H
     have Ny242 := Aside0.mk hy242
     clear hy242
     have HC16 := Aside0.mk H
     clear H
     go_upto_if 40 with (first | ((with_reducible refine gate_callee (f := 155) rfl ?_); refine goesL_ (some 19) rfl rfl Tryz.func155 (by kernel_rfl) rfl #[.pointer (some ⟨g219, 0, none⟩)] rfl (by (try simp only [List.map_toArray, List.map_cons, List.map_nil]); first | done | rfl | (simp only [List.length_drop, List.length_take]; rfl)) ?_; (with_reducible refine (texts_Lines_Scan.calls g219 x220000_1 x220001_1 x220002_1 x220003_1 true t221 t222 t223 t224 w _ ?side1 ?side2 A6.out).mono ?_); (case side1 => repeat (first | (with_reducible first | exact HI219.out | apply IsS225.alloc | apply IsS225.drewN | apply IsS225.drew | apply IsS225.set_0 | apply IsS225.set_1 | apply IsS225.set_2 | apply IsS225.set_3) | exact HI219.out)); (case side2 => repeat (first | (with_reducible first | exact HB.out | apply below_alloc | apply pw_below_drewN | apply below_drew1 | refine below_set ?_ (IsS225.ge HI219.out)) | exact HB.out)); rintro e w17 ⟨rfl, hi, hb, hk⟩; refine ⟨_, rfl, ?_⟩; have n0_ := Aside0.mk (Kd.S_mono (Kd.S_keep (IsS225.apartS (show IsS225 w _ g219 x220000_1 x220001_1 x220002_1 x220003_1 from by repeat (first | (with_reducible first | exact HI219.out | apply IsS225.alloc | apply IsS225.drewN | apply IsS225.drew | apply IsS225.set_0 | apply IsS225.set_1 | apply IsS225.set_2 | apply IsS225.set_3) | exact HI219.out)) (by (with_reducible repeat (first | apply Kd.S_alloc | apply Kd.S_drewN | apply Kd.S_drew)); exact HO_4.out) (by decide)) hk (fun _ h => h.2)) (fun _ h => h.1)); have n1_ := Aside0.mk (hb); have n2_ := Aside0.mk (hi); clear HO_4; clear HB; clear HI219; have HO_4 := n0_; have HB := n1_; have HI219 := n2_; clear n0_ n1_ n2_; (try clear hb); (try clear hb2); (try clear hk); (try clear hi); (try simp only [errW_none, errW_some])) | ((with_reducible refine gate_callee (f := 157) rfl ?_); refine goesL_ (some 21) rfl rfl Tryz.func157 (by kernel_rfl) rfl #[.pointer (some ⟨g219, 0, none⟩)] rfl (by (try simp only [List.map_toArray, List.map_cons, List.map_nil]); first | done | rfl | (simp only [List.length_drop, List.length_take]; rfl)) ?_; (with_reducible refine (texts_Lines_Text.calls g219 t221 t222 t223 t224 t230 t231 t232 t233 t234 w _ ?side1 ?side2 A8.out).mono ?_); (case side1 => repeat (first | (with_reducible first | exact HI219.out | apply IsS225.alloc | apply IsS225.drewN | apply IsS225.drew | apply IsS225.set_0 | apply IsS225.set_1 | apply IsS225.set_2 | apply IsS225.set_3) | exact HI219.out)); (case side2 => repeat (first | (with_reducible first | exact HB.out | apply below_alloc | apply pw_below_drewN | apply below_drew1 | refine below_set ?_ (IsS225.ge HI219.out)) | exact HB.out)); rintro e w18 ⟨rfl, hi, hb, hk⟩; refine ⟨_, rfl, ?_⟩; have n0_ := Aside0.mk (Kd.S_mono (Kd.S_keep (IsS225.apartS (show IsS225 w _ g219 t221 t222 t223 t224 from by repeat (first | (with_reducible first | exact HI219.out | apply IsS225.alloc | apply IsS225.drewN | apply IsS225.drew | apply IsS225.set_0 | apply IsS225.set_1 | apply IsS225.set_2 | apply IsS225.set_3) | exact HI219.out)) (by (with_reducible repeat (first | apply Kd.S_alloc | apply Kd.S_drewN | apply Kd.S_drew)); exact HO_4.out) (by decide)) hk (fun _ h => h.2)) (fun _ h => h.1)); have n1_ := Aside0.mk (hb); have n2_ := Aside0.mk (hi); clear HO_4; clear HB; clear HI219; have HO_4 := n0_; have HB := n1_; have HI219 := n2_; clear n0_ n1_ n2_; (try clear hb); (try clear hb2); (try clear hk); (try clear hi); (try simp only [errW_none, errW_some])) | ((with_reducible refine gate_callee (f := 190) rfl ?_); refine goesL_ (some 23) rfl rfl Tryz.func190 (by kernel_rfl) rfl #[.string t230] rfl (by (try simp only [List.map_toArray, List.map_cons, List.map_nil]); first | done | rfl | (simp only [List.length_drop, List.length_take]; rfl)) ?_; (with_reducible refine (strings_Fields.calls t230 t235 _ ?side1 A9.out).mono ?_); (case side1 => exact tabW_below HTAB.out (by repeat (first | (with_reducible first | exact HB.out | apply below_alloc | apply pw_below_drewN | apply below_drew1 | refine below_set ?_ (IsS225.ge HI219.out)) | exact HB.out))); rintro e w19 ⟨v236, rfl, ho0, hb⟩; refine ⟨_, rfl, ?_⟩; have n0_ := Aside0.mk (Kd.S_below (by (with_reducible repeat (first | apply Kd.S_alloc | apply Kd.S_drewN | apply Kd.S_drew)); exact HO_4.out) hb); have n1_ := Aside0.mk (Kd.R_lower ho0 (below_size (by repeat (first | (with_reducible first | exact HB.out | apply below_alloc | apply pw_below_drewN | apply below_drew1 | refine below_set ?_ (IsS225.ge HI219.out)) | exact HB.out)))); have n2_ := Aside0.mk (IsS225.below (by repeat (first | (with_reducible first | exact HI219.out | apply IsS225.alloc | apply IsS225.drewN | apply IsS225.drew | apply IsS225.set_0 | apply IsS225.set_1 | apply IsS225.set_2 | apply IsS225.set_3) | exact HI219.out)) hb); have n3_ := Aside0.mk (below_step (by repeat (first | (with_reducible first | exact HB.out | apply below_alloc | apply pw_below_drewN | apply below_drew1 | refine below_set ?_ (IsS225.ge HI219.out)) | exact HB.out)) hb); clear HO_4; clear HI219; clear HB; have HO_4 := n0_; have HO237 := n1_; have HI219 := n2_; have HB := n3_; clear n0_ n1_ n2_ n3_; (try clear hb); (try clear hb2); (try clear hk); (try clear hi); (try clear ho0); obtain ⟨Ao20, co20, eo20⟩ := Kd.R_slice HO237.out; subst eo20; have p238 : 0 ≤ (1 : Int) := (by omega); have q238 : 1 < (t235.length : Int) := of_decide_eq_true (by first | (with_reducible assumption) | assumption); obtain ⟨ad238, e238, hx238_0⟩ := Kd.at_string (Kd.R_reads' HO237.out).2.2 1 p238 q238; cases e238; (try simp only [show (1 : Int).toNat = 1 from rfl, Nat.reduceMul, Nat.reduceEqDiff, Go.Addr.add, ↓reduceIte] at hx238_0); have qi238 : (1 < t235.length) = True := eq_true (by omega); (try rw [show ((1 : Int)).toNat = 1 from rfl] at hx238_0); replace p238 := eq_true p238; replace q238 := eq_true q238) | ((with_reducible refine gate_callee (f := 192) rfl ?_); refine goesL_ (some 31) rfl rfl Tryz.func192 (by kernel_rfl) rfl #[.string (rdOf ByteArray.empty t235 1), .string (⟨#[44]⟩ : ByteArray)] rfl (by (try simp only [List.map_toArray, List.map_cons, List.map_nil]); first | done | rfl | (simp only [List.length_drop, List.length_take]; rfl)) ?_; (with_reducible refine (strings_TrimSuffix.calls (rdOf ByteArray.empty t235 1) (⟨#[44]⟩ : ByteArray) t239 _ A12.out).mono ?_); rintro e w' ⟨rfl, ⟨nd, rfl⟩⟩; refine ⟨_, rfl, ?_⟩; have p240 : 0 ≤ (3 : Int) := (by omega); have q240 : 3 < (t235.length : Int) := of_decide_eq_true (by first | (with_reducible assumption) | assumption); obtain ⟨ad240, e240, hx240_0⟩ := Kd.at_string (Kd.R_reads' HO237.out).2.2 3 p240 q240; obtain rfl : ad238 = ad240 := (by injection e240); (try simp only [show (3 : Int).toNat = 3 from rfl, Nat.reduceMul, Nat.reduceEqDiff, Go.Addr.add, ↓reduceIte] at hx240_0); have qi240 : (3 < t235.length) = True := eq_true (by omega); (try rw [show ((3 : Int)).toNat = 3 from rfl] at hx240_0); replace p240 := eq_true p240; replace q240 := eq_true q240) | ((with_reducible refine gate_callee (f := 192) rfl ?_); refine goesL_ (some 35) rfl rfl Tryz.func192 (by kernel_rfl) rfl #[.string (rdOf ByteArray.empty t235 3), .string (⟨#[44]⟩ : ByteArray)] rfl (by (try simp only [List.map_toArray, List.map_cons, List.map_nil]); first | done | rfl | (simp only [List.length_drop, List.length_take]; rfl)) ?_; (with_reducible refine (strings_TrimSuffix.calls (rdOf ByteArray.empty t235 3) (⟨#[44]⟩ : ByteArray) t241 _ A14.out).mono ?_); rintro e w' ⟨rfl, ⟨nd, rfl⟩⟩; refine ⟨_, rfl, ?_⟩; have q21 : (4 : Int) ≤ ((t235.length : Int) : Int) := of_decide_eq_true (by first | (with_reducible assumption) | assumption); obtain ⟨i021, hi021, _, hsz21, _⟩ := info_parts info9; have hroom21 : t235.length ≤ co20 := (Kd.R_reads' HO237.out).2.1; have hC21 : Kd.C Kd.string _ (some ad238) t235.length t235 := (Kd.R_reads' HO237.out).2.2; have hcut21 := cut_from (P := Tryz.prog) 29 9 .i64 Tryz.underlying29 hi021 1 hsz21 (some ad238) t235.length co20 4 (by omega) q21; have hr21 := Kd.C_drop (m := (4 : Int).toNat) (c := co20) hC21 (by omega) hroom21; obtain ⟨A21, hA21⟩ : ∃ A1, A1 = (if co20 = (4 : Int).toNat then (some ad238) else ((some ad238) : Option Addr).map (·.add ((4 : Int).toNat * 1))) := ⟨_, rfl⟩; obtain ⟨c21, hc21⟩ : ∃ c1, c1 = co20 - (4 : Int).toNat := ⟨_, rfl⟩; have hy21 : y242.length = t235.length - (4 : Int).toNat := (by rw [Ny242.out, List.length_drop] <;> omega); rw [show (t235).drop (4 : Int).toNat = y242 from Ny242.out.symm] at hr21; replace hr21 : Kd.C Kd.string _ A21 y242.length y242 := (by rw [hA21]; exact hr21); rw [← hy21, ← hA21, ← hc21] at hcut21; have HR245 := Aside0.mk hr21; have HC245 := Aside0.mk (show y242.length ≤ c21 from by rw [hy21, hc21]; exact Nat.sub_le_sub_right hroom21 _); clear hr21 hC21 hroom21 hi021 hsz21 hc21; have KY21 := Aside0.mk hy21; have KA21 := Aside0.mk hA21; clear hy21 hA21; have KL21 := Aside0.mk (show 4 ≤ t235.length from by omega); replace q21 := eq_true q21))
     (try simp only [Act.put, List.setIfInBounds_toArray, List.set_cons_zero, List.set_cons_succ])
     go_cut [6] (fun v6 wc => ∃ (kq : Nat) (x6_15 : Int), v6 = .int .i64 x6_15 ∧ Aside0 (procfs_parseBuddyInfo.j1 kq x4_1 x6_15 t235 t239 t241 (y242.length : Int) t231 t232 t233 t234 = some (r1, r2)) ∧ Aside0 (kq ≤ k1) ∧ Aside0 (Kd.S k75 75 wc w.heap.size (fun _ => True) u4 x4_1) ∧ Aside0 (Kd.R Kd.string 9 wc w.heap.size (fun _ => True) (.slice (some ad238) t235.length co20) t235) ∧ Aside0 (IsS225 w wc g219 t231 t232 t233 t234) ∧ Aside0 (Below w.heap.size w wc))
     case first =>
      have H := HC16.out
      clear HC16
      by_cases c22 : x6_1 = (-1)
      ·rw [if_pos c22] at H
       have c22b0 : (x6_1 == (-1)) = true := beq_iff_eq.mpr c22
       have c22b1 : (x6_1 != (-1)) = false := bne_eq_false_iff_eq.mpr c22
       clear c22
       (first | rw [c22b0] | (simp only [i64_w, i32_w]; rw [c22b0]) | skip)
       have H' := Aside0.mk H
       clear H
       go_wp2
       go_meet
       case rel => exact ⟨_, ((y242.length : Int)), (by first | rfl | (simp; done) | (simp [*]; done)), H', ⟨by have := HK1.out; first | omega | exact Nat.le_refl _⟩, ⟨by (with_reducible repeat (first | apply Kd.S_alloc | apply Kd.S_drewN | apply Kd.S_drew)); exact HO_4.out⟩, ⟨by (with_reducible repeat (first | apply Kd.R_alloc | apply Kd.R_drewN | apply Kd.R_drew)); exact HO237.out⟩, ⟨by repeat (first | (with_reducible first | exact HI219.out | apply IsS225.alloc | apply IsS225.drewN | apply IsS225.drew | apply IsS225.set_0 | apply IsS225.set_1 | apply IsS225.set_2 | apply IsS225.set_3) | exact HI219.out)⟩, ⟨by repeat (first | (with_reducible first | exact HB.out | apply below_alloc | apply pw_below_drewN | apply below_drew1 | refine below_set ?_ (IsS225.ge HI219.out)) | exact HB.out)⟩⟩
      ·rw [if_neg c22] at H
       have c22b0 : (x6_1 == (-1)) = false := beq_eq_false_iff_ne.mpr c22
       have c22b1 : (x6_1 != (-1)) = true := bne_iff_ne.mpr c22
       (first | rw [c22b0] | (simp only [i64_w, i32_w]; rw [c22b0]) | skip)
       replace H := guard_inv H
       obtain ⟨c23, H⟩ := H
       have c23b0 : (x6_1 == (y242.length : Int)) = true := beq_iff_eq.mpr c23
       have c23b1 : (x6_1 != (y242.length : Int)) = false := bne_eq_false_iff_eq.mpr c23
       clear c23
       have H' := Aside0.mk H
       clear H
       go_wp2
       go_meet
       case rel => exact ⟨_, (x6_1), (by first | rfl | (simp; done) | (simp [*]; done)), H', ⟨by have := HK1.out; first | omega | exact Nat.le_refl _⟩, ⟨by (with_reducible repeat (first | apply Kd.S_alloc | apply Kd.S_drewN | apply Kd.S_drew)); exact HO_4.out⟩, ⟨by (with_reducible repeat (first | apply Kd.R_alloc | apply Kd.R_drewN | apply Kd.R_drew)); exact HO237.out⟩, ⟨by repeat (first | (with_reducible first | exact HI219.out | apply IsS225.alloc | apply IsS225.drewN | apply IsS225.drew | apply IsS225.set_0 | apply IsS225.set_1 | apply IsS225.set_2 | apply IsS225.set_3) | exact HI219.out)⟩, ⟨by repeat (first | (with_reducible first | exact HB.out | apply below_alloc | apply pw_below_drewN | apply below_drew1 | refine below_set ?_ (IsS225.ge HI219.out)) | exact HB.out)⟩⟩
     case rest =>
      clear HC16
      try clear c1
      try clear c2
      try clear p2
      try clear q2
      try clear hx2
      try clear qi2
      try clear c7
      try clear c10
      try clear c10b0
      try clear c10b1
      try clear c11
      try clear c11b0
      try clear c11b1
      try clear c13
      try clear c13b0
      try clear c13b1
      try clear c14
      try clear c15
      try clear c15b0
      try clear c15b1
      try clear c19
      try clear c21
      try clear q21
      try clear c22
      try clear c22b0
      try clear c22b1
      try clear c23
      try clear c23b0
      try clear c23b1
      try clear p23
      try clear q23
      try clear hx23
      try clear qi23
      try clear hx238_0
      try clear hx240_0
      try clear p2
      try clear p238
      try clear p240
      try clear q21
      try clear q238
      try clear q240
      obtain ⟨kq, x6_15, rfl, HA, HJ15, HO_4, HO_9, HI219, HB⟩ := hcut
      cases kq with
      | zero => exact absurd HA.out (by simp [procfs_parseBuddyInfo.j1])
      | succ kj15 =>
       have H := HA.out
       clear HA
       simp only [procfs_parseBuddyInfo.j1] at H
       replace H := guard_inv H
       obtain ⟨c24, H⟩ := H
       have c24b0 := eq_true c24
       have c24b1 := decide_eq_true c24
       clear c24
       replace H := guard_inv H
       obtain ⟨c25, H⟩ := H
       have c25b0 := eq_true c25
       have c25b1 := decide_eq_true c25
       clear c25
       obtain ⟨y246, hy246⟩ : ∃ y_ : List Nat, y_ = (List.replicate ((y242.length : Int) : Int).toNat (0 : Nat)) := ⟨_, rfl⟩
       replace H : (procfs_parseBuddyInfo.l1 kj15 x4_1 x6_15 t235 t239 t241 y246 (y242.length : Int) 0 t231 t232 t233 t234) = some (r1, r2) := by first | (rw [hy246]; with_reducible exact H) | (have H2_ := (Option.bind_some _ _).symm.trans H; rw [hy246]; with_reducible exact H2_) | (have H2_ := (Option.bind_some _ _).symm.trans H; with_reducible exact H2_) | with_reducible exact H | (rw [hy246]; exact H) | exact H
       have Ny246 := Aside0.mk hy246
       clear hy246
       have H' := Aside0.mk H
       clear H
       go_wp2_with (first | ((with_reducible refine gate_dst (N := 47) rfl ?_); refine Kd.R_make kF64 _ 36 rfl (N := 47) rfl 73 _ _ rfl (y242.length : Int) rfl rfl Tryz.underlying73 (.float .f64 0) 8 info36 rfl (by decide) (by omega) (0 : Nat) (ok := fun _ => True) (okp := fun _ => True) rfl (fun _ hk => hk) trivial (of_decide_eq_true (by first | (with_reducible assumption) | assumption)) (Nat.le_trans (Nat.mul_le_mul_right _ (of_decide_eq_true (by first | (with_reducible assumption) | assumption) : (y242.length : Int).toNat ≤ 35184372088832)) (by omega)) (Below.refl _ _) (Nat.le_refl _) ?_; intro v247 w26 ho27 hb hg_ hnew_; clear hg_ hnew_; (first | rw [← Ny246.out] at ho27 | (simp only [Int.reduceToNat] at ho27; rw [← Ny246.out] at ho27)); have n0_ := Aside0.mk (Kd.S_elder' (by (with_reducible repeat (first | apply Kd.S_alloc | apply Kd.S_drewN | apply Kd.S_drew)); exact HO_4.out) (by first | exact Kd.R_base ho27 | exact Kd.R_base ho27) hb); have n1_ := Aside0.mk (Kd.R_below (by (with_reducible repeat (first | apply Kd.R_alloc | apply Kd.R_drewN | apply Kd.R_drew)); exact HO_9.out) hb); have n2_ := Aside0.mk (Kd.R_lower ho27 (below_size (by repeat (first | (with_reducible first | exact HB.out | apply below_alloc | apply pw_below_drewN | apply below_drew1 | refine below_set ?_ (IsS225.ge HI219.out)) | exact HB.out)))); have n3_ := Aside0.mk (IsS225.below (by repeat (first | (with_reducible first | exact HI219.out | apply IsS225.alloc | apply IsS225.drewN | apply IsS225.drew | apply IsS225.set_0 | apply IsS225.set_1 | apply IsS225.set_2 | apply IsS225.set_3) | exact HI219.out)) hb); have n5_ := Aside0.mk (below_step (by repeat (first | (with_reducible first | exact HB.out | apply below_alloc | apply pw_below_drewN | apply below_drew1 | refine below_set ?_ (IsS225.ge HI219.out)) | exact HB.out)) hb); clear HO_4; clear HO_9; clear HI219; clear HB; have HO_4 := n0_; have HO_9 := n1_; have HO248 := n2_; have HI219 := n3_; have HB := n5_; clear n0_ n1_ n2_ n3_ n5_; clear hb ho27))
       go_loopg [49] kj15 (fun kq v49 w' => ∃ (x13_3 : List Nat) (x49_3 : Int), v49 = .int .i64 x49_3 ∧ Aside0 (procfs_parseBuddyInfo.l1 kq x4_1 x6_15 t235 t239 t241 x13_3 (y242.length : Int) x49_3 t231 t232 t233 t234 = some (r1, r2)) ∧ Aside0 (kq ≤ kj15) ∧ Aside0 (Kd.S k75 75 w' w.heap.size (fun k_ => some k_ ≠ (v247 : Value).ownBlock) u4 x4_1) ∧ Aside0 (Kd.R Kd.string 9 w' w.heap.size (fun _ => True) (.slice (some ad238) t235.length co20) t235) ∧ Aside0 (Kd.R kF64 36 w' w.heap.size (fun _ => True) v247 x13_3) ∧ Aside0 (IsS225 w w' g219 t231 t232 t233 t234) ∧ Aside0 (Below w.heap.size w w'))
       case atStart => exact ⟨(y246), (0), (by first | rfl | (simp; done) | (simp [*]; done)), H', ⟨Nat.le_refl _⟩, ⟨by (with_reducible repeat (first | apply Kd.S_alloc | apply Kd.S_drewN | apply Kd.S_drew)); exact Kd.S_mono HO_4.out (fun _ hk => hk.2)⟩, ⟨by (with_reducible repeat (first | apply Kd.R_alloc | apply Kd.R_drewN | apply Kd.R_drew)); exact HO_9.out⟩, ⟨by (with_reducible repeat (first | apply Kd.R_alloc | apply Kd.R_drewN | apply Kd.R_drew)); exact HO248.out⟩, ⟨by repeat (first | (with_reducible first | exact HI219.out | apply IsS225.alloc | apply IsS225.drewN | apply IsS225.drew | apply IsS225.set_0 | apply IsS225.set_1 | apply IsS225.set_2 | apply IsS225.set_3) | exact HI219.out)⟩, ⟨by repeat (first | (with_reducible first | exact HB.out | apply below_alloc | apply pw_below_drewN | apply below_drew1 | refine below_set ?_ (IsS225.ge HI219.out)) | exact HB.out)⟩⟩
       case round =>
        clear H'
        try clear c1
        try clear c2
        try clear p2
        try clear q2
        try clear hx2
        try clear qi2
        try clear c7
        try clear c10
        try clear c10b0
        try clear c10b1
        try clear c11
        try clear c11b0
        try clear c11b1
        try clear c13
        try clear c13b0
        try clear c13b1
        try clear c14
        try clear c15
        try clear c15b0
        try clear c15b1
        try clear c19
        try clear c21
        try clear q21
        try clear c22
        try clear c22b0
        try clear c22b1
        try clear c23
        try clear c23b0
        try clear c23b1
        try clear p23
        try clear q23
        try clear hx23
        try clear qi23
        try clear c24
        try clear c24b0
        try clear c24b1
        try clear p24
        try clear q24
        try clear hx24
        try clear qi24
        try clear c25
        try clear c25b0
        try clear c25b1
        try clear hx238_0
        try clear hx240_0
        try clear p2
        try clear p23
        try clear p238
        try clear p240
        try clear q2
        try clear q21
        try clear q23
        try clear q238
        try clear q240
        obtain ⟨x13_3, x49_3, rfl, HA, HK3, HO_4, HO_9, HO_13, HI219, HB⟩ := hrel
        cases gk with
        | zero => exact absurd HA.out (by simp [procfs_parseBuddyInfo.l1])
        | succ k3 =>
         have H := HA.out
         clear HA
         simp only [procfs_parseBuddyInfo.l1] at H
         by_cases c28 : x49_3 < (y242.length : Int)
         ·rw [if_pos c28] at H
          have c28b0 : decide (x49_3 < (y242.length : Int)) = true := decide_eq_true c28
          clear c28
          obtain ⟨ji29, hji29⟩ : ∃ j_ : Int, (wrap64 (x49_3 + 4)) = j_ := ⟨_, rfl⟩
          replace H : (if 0 ≤ (ji29) then (if (ji29) < (t235.length : Int) then ((strconv_ParseFloat.f (rdOf ByteArray.empty t235 (ji29)) 64).bind fun bt253 => (if 0 ≤ x49_3 then (if x49_3 < (x13_3.length : Int) then (if bt253.2.isNone = true then (procfs_parseBuddyInfo.l1 k3 x4_1 x6_15 t235 t239 t241 (x13_3.set (x49_3 : Int).toNat bt253.1) (y242.length : Int) (wrap64 (x49_3 + 1)) t231 t232 t233 t234) else (none)) else (none)) else (none))) else (none)) else (none)) = some (r1, r2) := by first | (rw [hji29] at H; exact H) | (simp only [hji29] at H ⊢; exact H)
          have hji29w : (IntKind.i64.wrap (x49_3 + 4)) = ji29 := (i64_w _).trans hji29
          replace H := guard_inv H
          obtain ⟨c30, H⟩ := H
          have c30b0 : decide (0 ≤ (ji29)) = true := decide_eq_true c30
          clear c30
          replace H := guard_inv H
          obtain ⟨c31, H⟩ := H
          have c31b0 : decide ((ji29) < (t235.length : Int)) = true := decide_eq_true c31
          clear c31
          replace H := Option.bind_eq_some_iff.mp H
          obtain ⟨⟨t253, t254⟩, A320, H⟩ := H
          replace H : (if 0 ≤ x49_3 then (if x49_3 < (x13_3.length : Int) then (if t254.isNone = true then (procfs_parseBuddyInfo.l1 k3 x4_1 x6_15 t235 t239 t241 (x13_3.set (x49_3 : Int).toNat t253) (y242.length : Int) (wrap64 (x49_3 + 1)) t231 t232 t233 t234) else (none)) else (none)) else (none)) = some (r1, r2) := H
          have A32 := Aside0.mk A320
          clear A320
          replace H := guard_inv H
          obtain ⟨c33, H⟩ := H
          have c33b0 : decide (0 ≤ x49_3) = true := decide_eq_true c33
          clear c33
          replace H := guard_inv H
          obtain ⟨c34, H⟩ := H
          have c34b0 : decide (x49_3 < (x13_3.length : Int)) = true := decide_eq_true c34
          clear c34
          obtain ⟨y255, hy255⟩ : ∃ y_ : List Nat, y_ = (x13_3.set (x49_3 : Int).toNat t253) := ⟨_, rfl⟩
          replace H : (if t254.isNone = true then (procfs_parseBuddyInfo.l1 k3 x4_1 x6_15 t235 t239 t241 y255 (y242.length : Int) (wrap64 (x49_3 + 1)) t231 t232 t233 t234) else (none)) = some (r1, r2) := by first | (rw [hy255]; with_reducible exact H) | (have H2_ := (Option.bind_some _ _).symm.trans H; rw [hy255]; with_reducible exact H2_) | (have H2_ := (Option.bind_some _ _).symm.trans H; with_reducible exact H2_) | with_reducible exact H | (rw [hy255]; exact H) | exact H
          have Ny255 := Aside0.mk hy255
          clear hy255
          rcases t254 with _ | q256
          ·have H1 : (procfs_parseBuddyInfo.l1 k3 x4_1 x6_15 t235 t239 t241 y255 (y242.length : Int) (wrap64 (x49_3 + 1)) t231 t232 t233 t234) = some (r1, r2) := by rw [if_pos (show (none : Option Int).isNone = true by rfl)] at H; exact H
           clear H
           have H := H1
           clear H1
           try simp only [errW_none, errW_some]
           have H' := Aside0.mk H
           clear H
           have p252 : 0 ≤ ((ji29) : Int) := of_decide_eq_true (by first | (with_reducible assumption) | assumption)
           have q252 : (ji29) < (t235.length : Int) := of_decide_eq_true (by first | (with_reducible assumption) | assumption)
           obtain ⟨ad252, e252, hx252_0⟩ := Kd.at_string (Kd.R_reads' HO_9.out).2.2 (ji29) p252 q252
           obtain rfl : ad238 = ad252 := (by injection e252)
           replace p252 := eq_true p252
           replace q252 := eq_true q252
           go_wp2_with (first | ((with_reducible refine gate_callee (f := 191) rfl ?_); refine goesL_ (some 60) rfl rfl Tryz.func191 (by kernel_rfl) rfl #[.string (rdOf ByteArray.empty t235 (ji29)), .int .i64 64] rfl (by (try simp only [List.map_toArray, List.map_cons, List.map_nil]); first | done | (simp only [hji29]; rfl) | rfl | (simp only [List.length_drop, List.length_take]; rfl)) ?_; (with_reducible refine (strconv_ParseFloat.calls (rdOf ByteArray.empty t235 (ji29)) 64 t253 none _ ?side1 A32.out).mono ?_); (case side1 => exact tabW_below HTAB.out (by repeat (first | (with_reducible first | exact HB.out | apply below_alloc | apply pw_below_drewN | apply below_drew1 | refine below_set ?_ (IsS225.ge HI219.out)) | exact HB.out))); rintro e w36 ⟨rfl, hb⟩; refine ⟨_, rfl, ?_⟩; have n0_ := Aside0.mk (Kd.S_below (by (with_reducible repeat (first | apply Kd.S_alloc | apply Kd.S_drewN | apply Kd.S_drew)); exact HO_4.out) hb); have n1_ := Aside0.mk (Kd.R_below (by (with_reducible repeat (first | apply Kd.R_alloc | apply Kd.R_drewN | apply Kd.R_drew)); exact HO_9.out) hb); have n2_ := Aside0.mk (Kd.R_below (by (with_reducible repeat (first | apply Kd.R_alloc | apply Kd.R_drewN | apply Kd.R_drew)); exact HO_13.out) hb); have n3_ := Aside0.mk (IsS225.below (by repeat (first | (with_reducible first | exact HI219.out | apply IsS225.alloc | apply IsS225.drewN | apply IsS225.drew | apply IsS225.set_0 | apply IsS225.set_1 | apply IsS225.set_2 | apply IsS225.set_3) | exact HI219.out)) hb); have n4_ := Aside0.mk (below_step (by repeat (first | (with_reducible first | exact HB.out | apply below_alloc | apply pw_below_drewN | apply below_drew1 | refine below_set ?_ (IsS225.ge HI219.out)) | exact HB.out)) hb); clear HO_4; clear HO_9; clear HO_13; clear HI219; clear HB; have HO_4 := n0_; have HO_9 := n1_; have HO_13 := n2_; have HI219 := n3_; have HB := n4_; clear n0_ n1_ n2_ n3_ n4_; (try clear hb); (try clear hb2); (try clear hk); (try clear hi); (try simp only [errW_none, errW_some]); have p35 : 0 ≤ (x49_3 : Int) := of_decide_eq_true (by first | (with_reducible assumption) | assumption); have q35 : (x49_3 : Int) < ((x13_3.length : Int) : Int) := of_decide_eq_true (by first | (with_reducible assumption) | assumption); obtain ⟨go35, co35, eo35, gb35, gl35, cl35, HG35⟩ := Kd.R_form HO_13.out (by omega); (first | cases eo35 | (injection eo35 with ea_ en_ ec_; (first | subst ea_ | (injection ea_ with ea_; subst ea_)); subst ec_; clear en_)); have GB35 := Aside0.mk gb35; have GG35 := Aside0.mk HG35; clear gb35 gl35 HG35; obtain ⟨hx35_0, hf35_0⟩ := Kd.R_celln (0 : Nat) HO_13.out (x49_3 : Int) p35 q35; replace p35 := eq_true p35; replace q35 := eq_true q35; obtain ⟨hy37_, hz37_⟩ := Kd.R_celln (0 : Nat) HO_13.out (x49_3 : Int) (of_decide_eq_true (by first | (with_reducible assumption) | assumption)) (of_decide_eq_true (by first | (with_reducible assumption) | assumption)); have HP37 := Kd.R_putg HO_13.out (x49_3 : Int) t253) | ((with_reducible refine gate_store (t := 36) (p := 63) rfl ?_); refine store_event (t := 36) (p := 63) (v := ?vo_w38) (w1 := (w36.setCell ⟨go35, (x49_3 : Int).toNat, none⟩ (.float .f64 t253))) ?hg ?ho ?hn ?hr ?_; (case ho => rfl); (case hg => rfl); (case hn => rfl); (case hr => first | (go_simp; done) | (go_simp; rfl)); intro w38 hw; have hg : w36.grownBy w38 (some go35) := (by rw [hw]; exact HP37.2); have hp_ : Kd.R kF64 36 w38 w.heap.size (fun _ => True) (.slice (some ⟨go35, 0, none⟩) x13_3.length co35) y255 := (by rw [hw, Ny255.out]; exact HP37.1); clear HP37; have n0_ := Aside0.mk (Kd.S_after (v := (.slice (some ⟨go35, 0, none⟩) x13_3.length co35)) (v1 := (.slice (some ⟨go35, 0, none⟩) x13_3.length co35)) (ok := (fun _ => True)) (by (with_reducible repeat (first | apply Kd.S_alloc | apply Kd.S_drewN | apply Kd.S_drew)); exact Kd.S_mono HO_4.out (fun _ hk => ⟨trivial, hk⟩)) hg (.inl rfl)); have n1_ := Aside0.mk (Kd.R_over' (v := (.slice (some ⟨go35, 0, none⟩) x13_3.length co35)) (by (with_reducible repeat (first | apply Kd.R_alloc | apply Kd.R_drewN | apply Kd.R_drew)); exact HO_9.out) (Kd.R_typed HO_13.out) (by decide) hg); have n2_ := Aside0.mk (hp_); have n3_ := Aside0.mk (IsS225.grown (by repeat (first | (with_reducible first | exact HI219.out | apply IsS225.alloc | apply IsS225.drewN | apply IsS225.drew | apply IsS225.set_0 | apply IsS225.set_1 | apply IsS225.set_2 | apply IsS225.set_3) | exact HI219.out)) hg (IsS225.own_ne HI219.out HO_13.out (by decide))); have n4_ := Aside0.mk ((by rw [hw]; exact below_set (HB.out) GB35.out : Below w.heap.size w w38)); clear HO_4; clear HO_9; clear HO_13; clear HI219; clear HB; have HO_4 := n0_; have HO_9 := n1_; have HO_13 := n2_; have HI219 := n3_; have HB := n4_; clear n0_ n1_ n2_ n3_ n4_; clear hg hw hp_))
           go_roundg k3
           case measure => have := HK1.out; have := HJ15.out; have := HK3.out; omega
           case rel => exact ⟨(y255), (wrap64 (x49_3 + 1)), (by first | rfl | (simp; done) | (simp [*]; done)), H', ⟨by have := HK1.out; have := HJ15.out; have := HK3.out; omega⟩, ⟨by (with_reducible repeat (first | apply Kd.S_alloc | apply Kd.S_drewN | apply Kd.S_drew)); exact Kd.S_mono HO_4.out (fun _ hk => hk.2)⟩, ⟨by (with_reducible repeat (first | apply Kd.R_alloc | apply Kd.R_drewN | apply Kd.R_drew)); exact HO_9.out⟩, ⟨by (with_reducible repeat (first | apply Kd.R_alloc | apply Kd.R_drewN | apply Kd.R_drew)); exact HO_13.out⟩, ⟨by repeat (first | (with_reducible first | exact HI219.out | apply IsS225.alloc | apply IsS225.drewN | apply IsS225.drew | apply IsS225.set_0 | apply IsS225.set_1 | apply IsS225.set_2 | apply IsS225.set_3) | exact HI219.out)⟩, ⟨by repeat (first | (with_reducible first | exact HB.out | apply below_alloc | apply pw_below_drewN | apply below_drew1 | refine below_set ?_ (IsS225.ge HI219.out)) | exact HB.out)⟩⟩
          ·have H1 : (none) = some (r1, r2) := by rw [if_neg (show ¬ (some q256).isNone = true by simp)] at H; exact H
           clear H
           have H := H1
           clear H1
           try simp only [errW_none, errW_some]
           exact absurd H (by simp)
         ·rw [if_neg c28] at H
          have c28b0 : decide (x49_3 < (y242.length : Int)) = false := decide_eq_false c28
          clear c28
          replace H := guard_inv H
          obtain ⟨c39, H⟩ := H
          have LMc39 := Aside0.mk c39
          clear c39
          obtain ⟨y249, hy249⟩ : ∃ y_ : List (S75), y_ = (x4_1 ++ [(⟨t239, t241, x13_3⟩ : S75)]) := ⟨_, rfl⟩
          replace H : (procfs_parseBuddyInfo.l0 k3 y249 x6_15 t231 t232 t233 t234) = some (r1, r2) := by first | (rw [hy249]; with_reducible exact H) | (have H2_ := (Option.bind_some _ _).symm.trans H; rw [hy249]; with_reducible exact H2_) | (have H2_ := (Option.bind_some _ _).symm.trans H; with_reducible exact H2_) | with_reducible exact H | (rw [hy249]; exact H) | exact H
          have Ny249 := Aside0.mk hy249
          clear hy249
          have H' := Aside0.mk H
          clear H
          obtain ⟨Ao40, co40, eo40⟩ := Kd.R_slice HO_13.out
          subst eo40
          go_wp2_with (first | ((with_reducible refine gate_builtin (b := .append) (xs := #[.tmp 68, .tmp 73]) rfl ?_); at_builtin; refine Kd.S_append k75 (w0 := w) w.heap.size rfl (.tmp 68) (.tmp 73) 70 75 (.agg #[(.string ⟨#[]⟩), (.string ⟨#[]⟩), (.slice none 0 0)]) 56 rfl Tryz.underlying70 info75 rfl (by decide) (by omega) u4 x4_1 (⟨t239, t241, x13_3⟩ : S75) [.string t239, .string t241, .slice Ao40 x13_3.length co40] (fun _ => True) (fun k_ => some k_ = (.slice Ao40 x13_3.length co40 : Value).ownBlock) rfl rfl ?aP (fun k_ hk_ => ((Kd.R_mono (ok' := fun k_ => ((fun _ => True)) k_ ∧ some k_ ≠ (u4 : Value).ownBlock) (Kd.R_apart' (HO_13.out) (Kd.S_typed HO_4.out) (by decide)) (fun k_ hk => ⟨trivial, hk.2⟩))).1 k_ hk_.symm) ?aF ?aO ?aB ?aS ?aL ?_; (case aP => exact k75_mkM _ _ _ (⟨t239, t241, x13_3⟩ : S75) (Kd.R_mono (Kd.R_tight rfl (Kd.R_mono (ok' := fun k_ => ((fun _ => True)) k_ ∧ some k_ ≠ (u4 : Value).ownBlock) (Kd.R_apart' (HO_13.out) (Kd.S_typed HO_4.out) (by decide)) (fun k_ hk => ⟨trivial, hk.2⟩))) (fun _ h_ => h_))); (case aB => exact (by repeat (first | (with_reducible first | exact HB.out | apply below_alloc | apply pw_below_drewN | apply below_drew1 | refine below_set ?_ (IsS225.ge HI219.out)) | exact HB.out))); (case aF => exact (fun _ _ => trivial)); (case aO => exact (by (with_reducible repeat (first | apply Kd.S_alloc | apply Kd.S_drewN | apply Kd.S_drew)); exact Kd.S_mono HO_4.out (fun k_ hk => ⟨trivial, fun e_ => hk e_⟩))); (case aS => exact (below_size (by repeat (first | (with_reducible first | exact HB.out | apply below_alloc | apply pw_below_drewN | apply below_drew1 | refine below_set ?_ (IsS225.ge HI219.out)) | exact HB.out)))); (case aL => have := LMc39.out; omega); intro v250 w41 ho hb hg hat; rw [← Ny249.out] at ho; have n0_ := Aside0.mk (Kd.R_over' (by (with_reducible repeat (first | apply Kd.R_alloc | apply Kd.R_drewN | apply Kd.R_drew)); exact HO_9.out) (Kd.S_typed (by (with_reducible repeat (first | apply Kd.S_alloc | apply Kd.S_drewN | apply Kd.S_drew)); exact HO_4.out)) (by decide) hg); have n1_ := Aside0.mk (IsS225.grown (by repeat (first | (with_reducible first | exact HI219.out | apply IsS225.alloc | apply IsS225.drewN | apply IsS225.drew | apply IsS225.set_0 | apply IsS225.set_1 | apply IsS225.set_2 | apply IsS225.set_3) | exact HI219.out)) hg (IsS225.own_neS HI219.out HO_4.out (by decide))); have n2_ := Aside0.mk (hb); have n3_ := Aside0.mk (ho); clear HO_9; clear HI219; clear HB; clear HO_4; clear HO_13; have HO_9 := n0_; have HI219 := n1_; have HB := n2_; have HO251 := n3_; clear n0_ n1_ n2_ n3_; clear ho hb hg hat))
          go_roundg k3
          case measure => have := HK1.out; have := HJ15.out; have := HK3.out; omega
          case rel => exact ⟨(y249), (x6_15), (t231), (t232), (t233), (t234), (by first | rfl | (simp; done) | (simp [*]; done)), H', ⟨by have := HK1.out; have := HJ15.out; have := HK3.out; omega⟩, ⟨by (with_reducible repeat (first | apply Kd.S_alloc | apply Kd.S_drewN | apply Kd.S_drew)); exact HO251.out⟩, ⟨by repeat (first | (with_reducible first | exact HI219.out | apply IsS225.alloc | apply IsS225.drewN | apply IsS225.drew | apply IsS225.set_0 | apply IsS225.set_1 | apply IsS225.set_2 | apply IsS225.set_3) | exact HI219.out)⟩, ⟨by repeat (first | (with_reducible first | exact HB.out | apply below_alloc | apply pw_below_drewN | apply below_drew1 | refine below_set ?_ (IsS225.ge HI219.out)) | exact HB.out)⟩⟩
   ·replace c7 := Bool.eq_false_iff.mpr c7
    subst c7
    have H1 : ((texts_Lines_Err.f t221 t222 t223 t224).bind fun bt225 => (some (x4_1, bt225.1))) = some (r1, r2) := by rw [if_neg (show ¬ (false = true) by decide)] at H; exact H
    clear H
    have H := H1
    clear H1
    replace H := Option.bind_eq_some_iff.mp H
    obtain ⟨⟨t225, t226, t227, t228, t229⟩, A420, H⟩ := H
    replace H : (some (x4_1, t225)) = some (r1, r2) := H
    have A42 := Aside0.mk A420
    clear A420
    simp only [Option.some.injEq, Prod.mk.injEq] at H
    obtain ⟨rfl, rfl⟩ := H
    go_wp2_with (first | ((with_reducible refine gate_callee (f := 155) rfl ?_); refine goesL_ (some 19) rfl rfl Tryz.func155 (by kernel_rfl) rfl #[.pointer (some ⟨g219, 0, none⟩)] rfl (by (try simp only [List.map_toArray, List.map_cons, List.map_nil]); first | done | rfl | (simp only [List.length_drop, List.length_take]; rfl)) ?_; (with_reducible refine (texts_Lines_Scan.calls g219 x220000_1 x220001_1 x220002_1 x220003_1 false t221 t222 t223 t224 w _ ?side1 ?side2 A6.out).mono ?_); (case side1 => repeat (first | (with_reducible first | exact HI219.out | apply IsS225.alloc | apply IsS225.drewN | apply IsS225.drew | apply IsS225.set_0 | apply IsS225.set_1 | apply IsS225.set_2 | apply IsS225.set_3) | exact HI219.out)); (case side2 => repeat (first | (with_reducible first | exact HB.out | apply below_alloc | apply pw_below_drewN | apply below_drew1 | refine below_set ?_ (IsS225.ge HI219.out)) | exact HB.out)); rintro e w43 ⟨rfl, hi, hb, hk⟩; refine ⟨_, rfl, ?_⟩; have n0_ := Aside0.mk (Kd.S_mono (Kd.S_keep (IsS225.apartS (show IsS225 w _ g219 x220000_1 x220001_1 x220002_1 x220003_1 from by repeat (first | (with_reducible first | exact HI219.out | apply IsS225.alloc | apply IsS225.drewN | apply IsS225.drew | apply IsS225.set_0 | apply IsS225.set_1 | apply IsS225.set_2 | apply IsS225.set_3) | exact HI219.out)) (by (with_reducible repeat (first | apply Kd.S_alloc | apply Kd.S_drewN | apply Kd.S_drew)); exact HO_4.out) (by decide)) hk (fun _ h => h.2)) (fun _ h => h.1)); have n1_ := Aside0.mk (hb); have n2_ := Aside0.mk (hi); clear HO_4; clear HB; clear HI219; have HO_4 := n0_; have HB := n1_; have HI219 := n2_; clear n0_ n1_ n2_; (try clear hb); (try clear hb2); (try clear hk); (try clear hi); (try simp only [errW_none, errW_some])) | ((with_reducible refine gate_callee (f := 193) rfl ?_); refine goesL_ (some 77) rfl rfl Tryz.func193 (by kernel_rfl) rfl #[.pointer (some ⟨g219, 0, none⟩)] rfl (by (try simp only [List.map_toArray, List.map_cons, List.map_nil]); first | done | rfl | (simp only [List.length_drop, List.length_take]; rfl)) ?_; (with_reducible refine (texts_Lines_Err.calls g219 t221 t222 t223 t224 t225 t226 t227 t228 t229 w _ ?side1 ?side2 A42.out).mono ?_); (case side1 => repeat (first | (with_reducible first | exact HI219.out | apply IsS225.alloc | apply IsS225.drewN | apply IsS225.drew | apply IsS225.set_0 | apply IsS225.set_1 | apply IsS225.set_2 | apply IsS225.set_3) | exact HI219.out)); (case side2 => repeat (first | (with_reducible first | exact HB.out | apply below_alloc | apply pw_below_drewN | apply below_drew1 | refine below_set ?_ (IsS225.ge HI219.out)) | exact HB.out)); rintro e w44 ⟨rfl, hi, hb, hk⟩; refine ⟨_, rfl, ?_⟩; have n0_ := Aside0.mk (Kd.S_mono (Kd.S_keep (IsS225.apartS (show IsS225 w _ g219 t221 t222 t223 t224 from by repeat (first | (with_reducible first | exact HI219.out | apply IsS225.alloc | apply IsS225.drewN | apply IsS225.drew | apply IsS225.set_0 | apply IsS225.set_1 | apply IsS225.set_2 | apply IsS225.set_3) | exact HI219.out)) (by (with_reducible repeat (first | apply Kd.S_alloc | apply Kd.S_drewN | apply Kd.S_drew)); exact HO_4.out) (by decide)) hk (fun _ h => h.2)) (fun _ h => h.1)); have n1_ := Aside0.mk (hb); have n2_ := Aside0.mk (hi); clear HO_4; clear HB; clear HI219; have HO_4 := n0_; have HB := n1_; have HI219 := n2_; clear n0_ n1_ n2_; (try clear hb); (try clear hb2); (try clear hk); (try clear hi); (try simp only [errW_none, errW_some])))
    go_ret2
    exact ⟨_, by first | rfl | (simp [errW_none, errW_some] <;> rfl) | (simp [*, errW_none, errW_some] <;> rfl), by (with_reducible repeat (first | apply Kd.S_alloc | apply Kd.S_drewN | apply Kd.S_drew)); exact HO_4.out, by repeat (first | (with_reducible first | exact HB.out | apply below_alloc | apply pw_below_drewN | apply below_drew1 | refine below_set ?_ (IsS225.ge HI219.out)) | exact HB.out)⟩
/-! ### impl_procfsBuddyInfo_1: function 147 -/
def impl_procfsBuddyInfo_1.f (a0 : Nat) : Option (ByteArray × Int × Bool × Int × Int × Nat × ByteArray × (List (S43))) := some ((⟨#[]⟩ : ByteArray), 4, false, 0, 0, a0, (⟨#[]⟩ : ByteArray), ([] : List (S43)))
set_option maxHeartbeats 8000000 in
set_option maxRecDepth 100000 in
theorem impl_procfsBuddyInfo_1.calls (a0 : Nat) (r1 : ByteArray) (r2 : Int) (r3 : Bool) (r4 : Int) (r5 : Int) (r6 : Nat) (r7 : ByteArray) (r8 : List (S43)) (w : World) (h : impl_procfsBuddyInfo_1.f a0 = some (r1, r2, r3, r4, r5, r6, r7, r8)) :
  Calls Tryz.prog 147 #[.float .f64 a0] w fun e w' => ∃ v7_ : Value, e = .returned (.agg #[.string r1, .int .i64 r2, .bool r3, .int .i64 r4, .int .u64 r5, .float .f64 r6, .string r7, v7_]) ∧ Kd.R k43 43 w' w.heap.size (fun _ => True) v7_ r8 ∧ Below w.heap.size w w' := by
 have hu43 := Tryz.underlying43
 have HB := Aside0.mk (Below.refl w.heap.size w)
 have H : (some ((⟨#[]⟩ : ByteArray), 4, false, 0, 0, a0, (⟨#[]⟩ : ByteArray), ([] : List (S43)))) = some (r1, r2, r3, r4, r5, r6, r7, r8) := h
 clear h
 simp only [Option.some.injEq, Prod.mk.injEq] at H
 obtain ⟨rfl, rfl, rfl, rfl, rfl, rfl, rfl, rfl⟩ := H
 go_enter Tryz.func147, Tryz.ntmps147
 go_wp2_with (first | ((with_reducible refine gate_dst (N := 2) rfl ?_); refine box_event ?hg (N := 2) ?hd (cs := #[.string (⟨#[]⟩ : ByteArray), .int .i64 0, .bool false, .int .i64 0, .int .u64 0, .float .f64 0, .string (⟨#[]⟩ : ByteArray), .slice none 0 0]) (t := 43) ?hr ?_; (case hd => rfl); (case hg => rfl); (case hr => first | (go_simp; done) | (go_simp; rfl)); intro gb257 hg w2 hbox hb; have n0_ := Aside0.mk (below_step (by repeat (first | (with_reducible first | exact HB.out | apply below_alloc | apply pw_below_drewN | apply below_drew1) | exact HB.out)) hb); have n1_ := Aside0.mk (hbox); have n2_ := Aside0.mk ((by rw [hg]; exact (below_size (by repeat (first | (with_reducible first | exact HB.out | apply below_alloc | apply pw_below_drewN | apply below_drew1) | exact HB.out))) : w.heap.size ≤ gb257)); have n3_ := Aside0.mk ((by rw [hg]; exact (below_size (by repeat (first | (with_reducible first | exact HB.out | apply below_alloc | apply pw_below_drewN | apply below_drew1) | exact HB.out))) : w.heap.size ≤ gb257)); clear HB; have HB := n0_; have BK257 := n1_; have GW257 := n2_; have GE257 := n3_; clear n0_ n1_ n2_ n3_; clear hb hbox hg; have hcz3_0 : w2.cell? ⟨gb257, 0, none⟩ = some (.string (⟨#[]⟩ : ByteArray)) := (blk_cell BK257.out 0).trans rfl; have hcz3_1 : w2.cell? ⟨gb257, 1, none⟩ = some (.int .i64 0) := (blk_cell BK257.out 1).trans rfl; have hcz3_2 : w2.cell? ⟨gb257, 2, none⟩ = some (.bool false) := (blk_cell BK257.out 2).trans rfl; have hcz3_3 : w2.cell? ⟨gb257, 3, none⟩ = some (.int .i64 0) := (blk_cell BK257.out 3).trans rfl; have hcz3_4 : w2.cell? ⟨gb257, 4, none⟩ = some (.int .u64 0) := (blk_cell BK257.out 4).trans rfl; have hcz3_5 : w2.cell? ⟨gb257, 5, none⟩ = some (.float .f64 0) := (blk_cell BK257.out 5).trans rfl; have hcz3_6 : w2.cell? ⟨gb257, 6, none⟩ = some (.string (⟨#[]⟩ : ByteArray)) := (blk_cell BK257.out 6).trans rfl; have hcz3_7 : w2.cell? ⟨gb257, 7, none⟩ = some (.slice none 0 0) := (blk_cell BK257.out 7).trans rfl; have hfz3_0 := blk_frozen BK257.out 0; have hfz3_1 := blk_frozen BK257.out 1; have hfz3_2 := blk_frozen BK257.out 2; have hfz3_3 := blk_frozen BK257.out 3; have hfz3_4 := blk_frozen BK257.out 4; have hfz3_5 := blk_frozen BK257.out 5; have hfz3_6 := blk_frozen BK257.out 6; have hfz3_7 := blk_frozen BK257.out 7))
 refine bodyPost_ret (results_cell_row rfl _ _ gb257 43 #[.string (⟨#[]⟩ : ByteArray), .int .i64 4, .bool false, .int .i64 0, .int .u64 0, .float .f64 a0, .string (⟨#[]⟩ : ByteArray), .slice none 0 0] (0, 0) _ rfl (by (with_reducible repeat (first | refine blk_drewN ?_ _ | refine blk_drew ?_ | refine blk_alloc ?_ _)); refine blk_put (cs := #[.string (⟨#[]⟩ : ByteArray), .int .i64 4, .bool false, .int .i64 0, .int .u64 0, .float .f64 a0, .string (⟨#[]⟩ : ByteArray), .slice none 0 0]) ?_ 7 _ rfl; (with_reducible repeat (first | refine blk_drewN ?_ _ | refine blk_drew ?_ | refine blk_alloc ?_ _)); refine blk_put (cs := #[.string (⟨#[]⟩ : ByteArray), .int .i64 4, .bool false, .int .i64 0, .int .u64 0, .float .f64 a0, .string (⟨#[]⟩ : ByteArray), .slice none 0 0]) ?_ 6 _ rfl; (with_reducible repeat (first | refine blk_drewN ?_ _ | refine blk_drew ?_ | refine blk_alloc ?_ _)); refine blk_put (cs := #[.string (⟨#[]⟩ : ByteArray), .int .i64 4, .bool false, .int .i64 0, .int .u64 0, .float .f64 0, .string (⟨#[]⟩ : ByteArray), .slice none 0 0]) ?_ 5 _ rfl; (with_reducible repeat (first | refine blk_drewN ?_ _ | refine blk_drew ?_ | refine blk_alloc ?_ _)); refine blk_put (cs := #[.string (⟨#[]⟩ : ByteArray), .int .i64 4, .bool false, .int .i64 0, .int .u64 0, .float .f64 0, .string (⟨#[]⟩ : ByteArray), .slice none 0 0]) ?_ 4 _ rfl; (with_reducible repeat (first | refine blk_drewN ?_ _ | refine blk_drew ?_ | refine blk_alloc ?_ _)); refine blk_put (cs := #[.string (⟨#[]⟩ : ByteArray), .int .i64 4, .bool false, .int .i64 0, .int .u64 0, .float .f64 0, .string (⟨#[]⟩ : ByteArray), .slice none 0 0]) ?_ 3 _ rfl; (with_reducible repeat (first | refine blk_drewN ?_ _ | refine blk_drew ?_ | refine blk_alloc ?_ _)); refine blk_put (cs := #[.string (⟨#[]⟩ : ByteArray), .int .i64 4, .bool false, .int .i64 0, .int .u64 0, .float .f64 0, .string (⟨#[]⟩ : ByteArray), .slice none 0 0]) ?_ 2 _ rfl; (with_reducible repeat (first | refine blk_drewN ?_ _ | refine blk_drew ?_ | refine blk_alloc ?_ _)); refine blk_put (cs := #[.string (⟨#[]⟩ : ByteArray), .int .i64 0, .bool false, .int .i64 0, .int .u64 0, .float .f64 0, .string (⟨#[]⟩ : ByteArray), .slice none 0 0]) ?_ 1 _ rfl; (with_reducible repeat (first | refine blk_drewN ?_ _ | refine blk_drew ?_ | refine blk_alloc ?_ _)); refine blk_put (cs := #[.string (⟨#[]⟩ : ByteArray), .int .i64 0, .bool false, .int .i64 0, .int .u64 0, .float .f64 0, .string (⟨#[]⟩ : ByteArray), .slice none 0 0]) ?_ 0 _ rfl; (with_reducible repeat (first | refine blk_drewN ?_ _ | refine blk_drew ?_ | refine blk_alloc ?_ _)); exact BK257.out) Tryz.underlying43 rfl (by kernel_rfl)) rfl ?_
 exact ⟨_, by first | rfl | (simp [errW_none, errW_some] <;> rfl) | (simp [*, errW_none, errW_some] <;> rfl), by first | exact Kd.R_nil _ _ _ _ _ | exact Kd.N_nil _ _ _ _ _ | exact Kd.V_nil _ _ _ _ _ | exact Kd.Q_nil _ _ _ _ _ | exact Kd.S_nil _ _ _ _ _, by repeat (first | (with_reducible first | exact HB.out | apply below_alloc | apply pw_below_drewN | apply below_drew1 | refine below_set ?_ GE257.out) | exact HB.out)⟩
end Go.Proofs.YtednjmngalmdkaaGreatDoor.GPC
end
