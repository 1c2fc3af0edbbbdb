/- Texts of this claim, put together: GPDx4, GivenRows, GivenFnV, GPJx1, GivenSdN, GPKx1. Conditions: as each one says. -/
import Derived.Test.YtednjmngalmdkaaGreatDoorKSd0
import Derived.Test.YtednjmngalmdkaaGreatDoorKSd1
import Derived.Test.YtednjmngalmdkaaGreatDoorKSd2
import Derived.Laws.FloatArith
import Derived.Laws.Cover2
import Derived.Test.YtednjmngalmdkaaGreatDoorProg
import Derived.Below
import Derived.Deep.Draws
import Derived.Deep.AppendLies
import Derived.Maps.AppendAt
import Derived.OwnWalk
import Derived.Laws.BytesArg
import Derived.Laws.MakeOwn
import Derived.Laws.OwnMore
import Derived.Deep.OwnRows
import Derived.Tactics
import Derived.Lib.ConvBytes
import Derived.Laws.Slices
import Derived.WalkKit
import Derived.KernelRfl
import Derived.RowKit3
import Derived.Deep.LoopGhost
import Derived.Deep.QuietTactic
import Derived.BigQuiet
import Derived.WideLaws
import Derived.Deep.DeepCutAuto
import Derived.Deep.CutBlock
import Derived.Deep.RegionHeld3
import Derived.Laws.Rows
import Derived.Lib.AppendStr
import Derived.ArgAppend
import Derived.Laws.IdiomCopy
import Derived.OrdersHeld
import Derived.Laws.BitsLemmas
import Derived.RowKit
import Derived.Shelf.Strconv.Atoi
section
namespace Go.Proofs.YtednjmngalmdkaaGreatDoor.GPC
open Go.RowKit Go.Proofs.YtednjmngalmdkaaGreatDoorW.PrintWords Go.Proofs.YtednjmngalmdkaaGreatDoorW.PrintLast Go.Proofs.YtednjmngalmdkaaGreatDoorW.PrintMore
attribute [local go_sem] max2_int min2_int max_two min_two max_three min_three max_four min_four   -- for this text's walks alone
set_option linter.unusedVariables false
set_option linter.unusedSimpArgs false

attribute [local go_sem] run_store_float
/-! ### spec_textNode: function 65 -/
def spec_textNode.f (a0 : ByteArray) (a1 : ByteArray) : Option (ByteArray × Int × Bool × Int × Int × Nat × ByteArray × (List (S39))) := some (a0, 5, false, 0, 0, 0, a1, ([] : List (S39)))
set_option maxHeartbeats 8000000 in
set_option maxRecDepth 100000 in
theorem spec_textNode.calls (a0 : ByteArray) (a1 : ByteArray) (r1 : ByteArray) (r2 : Int) (r3 : Bool) (r4 : Int) (r5 : Int) (r6 : Nat) (r7 : ByteArray) (r8 : List (S39)) (w : World) (h : spec_textNode.f a0 a1 = some (r1, r2, r3, r4, r5, r6, r7, r8)) :
  Calls Tryz.prog 65 #[.string a0, .string a1] w fun e w' => ∃ v7_ : Value, e = .returned (.agg #[.string r1, .int .i64 r2, .bool r3, .int .i64 r4, .int .u64 r5, .float .f64 r6, .string r7, v7_]) ∧ Kd.R k39 39 w' w.heap.size (fun _ => True) v7_ r8 ∧ Below w.heap.size w w' := by
 have hu39 := Tryz.underlying39
 have HB := Aside0.mk (Below.refl w.heap.size w)
 have H : (some (a0, 5, false, 0, 0, 0, a1, ([] : List (S39)))) = some (r1, r2, r3, r4, r5, r6, r7, r8) := h
 clear h
 simp only [Option.some.injEq, Prod.mk.injEq] at H
 obtain ⟨rfl, rfl, rfl, rfl, rfl, rfl, rfl, rfl⟩ := H
 go_enter Tryz.func65, Tryz.ntmps65
 go_wp2_with (first | ((with_reducible refine gate_dst (N := 4) rfl ?_); refine box_event ?hg (N := 4) ?hd (cs := #[.string (⟨#[]⟩ : ByteArray), .int .i64 0, .bool false, .int .i64 0, .int .u64 0, .float .f64 0, .string (⟨#[]⟩ : ByteArray), .slice none 0 0]) (t := 39) ?hr ?_; (case hd => rfl); (case hg => rfl); (case hr => first | (go_simp; done) | (go_simp; rfl)); intro gb129 hg w3 hbox hb; have n0_ := Aside0.mk (below_step (by repeat (first | (with_reducible first | exact HB.out | apply below_alloc | apply pw_below_drewN | apply below_drew1) | exact HB.out)) hb); have n1_ := Aside0.mk (hbox); have n2_ := Aside0.mk ((by rw [hg]; exact (below_size (by repeat (first | (with_reducible first | exact HB.out | apply below_alloc | apply pw_below_drewN | apply below_drew1) | exact HB.out))) : w.heap.size ≤ gb129)); have n3_ := Aside0.mk ((by rw [hg]; exact (below_size (by repeat (first | (with_reducible first | exact HB.out | apply below_alloc | apply pw_below_drewN | apply below_drew1) | exact HB.out))) : w.heap.size ≤ gb129)); clear HB; have HB := n0_; have BK129 := n1_; have GW129 := n2_; have GE129 := n3_; clear n0_ n1_ n2_ n3_; clear hb hbox hg; have hcz4_0 : w3.cell? ⟨gb129, 0, none⟩ = some (.string (⟨#[]⟩ : ByteArray)) := (blk_cell BK129.out 0).trans rfl; have hcz4_1 : w3.cell? ⟨gb129, 1, none⟩ = some (.int .i64 0) := (blk_cell BK129.out 1).trans rfl; have hcz4_2 : w3.cell? ⟨gb129, 2, none⟩ = some (.bool false) := (blk_cell BK129.out 2).trans rfl; have hcz4_3 : w3.cell? ⟨gb129, 3, none⟩ = some (.int .i64 0) := (blk_cell BK129.out 3).trans rfl; have hcz4_4 : w3.cell? ⟨gb129, 4, none⟩ = some (.int .u64 0) := (blk_cell BK129.out 4).trans rfl; have hcz4_5 : w3.cell? ⟨gb129, 5, none⟩ = some (.float .f64 0) := (blk_cell BK129.out 5).trans rfl; have hcz4_6 : w3.cell? ⟨gb129, 6, none⟩ = some (.string (⟨#[]⟩ : ByteArray)) := (blk_cell BK129.out 6).trans rfl; have hcz4_7 : w3.cell? ⟨gb129, 7, none⟩ = some (.slice none 0 0) := (blk_cell BK129.out 7).trans rfl; have hfz4_0 := blk_frozen BK129.out 0; have hfz4_1 := blk_frozen BK129.out 1; have hfz4_2 := blk_frozen BK129.out 2; have hfz4_3 := blk_frozen BK129.out 3; have hfz4_4 := blk_frozen BK129.out 4; have hfz4_5 := blk_frozen BK129.out 5; have hfz4_6 := blk_frozen BK129.out 6; have hfz4_7 := blk_frozen BK129.out 7))
 refine bodyPost_ret (results_cell_row rfl _ _ gb129 39 #[.string a0, .int .i64 5, .bool false, .int .i64 0, .int .u64 0, .float .f64 0, .string a1, .slice none 0 0] (0, 0) _ rfl (by (with_reducible repeat (first | refine blk_drewN ?_ _ | refine blk_drew ?_ | refine blk_alloc ?_ _)); refine blk_put (cs := #[.string a0, .int .i64 5, .bool false, .int .i64 0, .int .u64 0, .float .f64 0, .string a1, .slice none 0 0]) ?_ 7 _ rfl; (with_reducible repeat (first | refine blk_drewN ?_ _ | refine blk_drew ?_ | refine blk_alloc ?_ _)); refine blk_put (cs := #[.string a0, .int .i64 5, .bool false, .int .i64 0, .int .u64 0, .float .f64 0, .string (⟨#[]⟩ : ByteArray), .slice none 0 0]) ?_ 6 _ rfl; (with_reducible repeat (first | refine blk_drewN ?_ _ | refine blk_drew ?_ | refine blk_alloc ?_ _)); refine blk_put (cs := #[.string a0, .int .i64 5, .bool false, .int .i64 0, .int .u64 0, .float .f64 0, .string (⟨#[]⟩ : ByteArray), .slice none 0 0]) ?_ 5 _ rfl; (with_reducible repeat (first | refine blk_drewN ?_ _ | refine blk_drew ?_ | refine blk_alloc ?_ _)); refine blk_put (cs := #[.string a0, .int .i64 5, .bool false, .int .i64 0, .int .u64 0, .float .f64 0, .string (⟨#[]⟩ : ByteArray), .slice none 0 0]) ?_ 4 _ rfl; (with_reducible repeat (first | refine blk_drewN ?_ _ | refine blk_drew ?_ | refine blk_alloc ?_ _)); refine blk_put (cs := #[.string a0, .int .i64 5, .bool false, .int .i64 0, .int .u64 0, .float .f64 0, .string (⟨#[]⟩ : ByteArray), .slice none 0 0]) ?_ 3 _ rfl; (with_reducible repeat (first | refine blk_drewN ?_ _ | refine blk_drew ?_ | refine blk_alloc ?_ _)); refine blk_put (cs := #[.string a0, .int .i64 5, .bool false, .int .i64 0, .int .u64 0, .float .f64 0, .string (⟨#[]⟩ : ByteArray), .slice none 0 0]) ?_ 2 _ rfl; (with_reducible repeat (first | refine blk_drewN ?_ _ | refine blk_drew ?_ | refine blk_alloc ?_ _)); refine blk_put (cs := #[.string a0, .int .i64 0, .bool false, .int .i64 0, .int .u64 0, .float .f64 0, .string (⟨#[]⟩ : ByteArray), .slice none 0 0]) ?_ 1 _ rfl; (with_reducible repeat (first | refine blk_drewN ?_ _ | refine blk_drew ?_ | refine blk_alloc ?_ _)); refine blk_put (cs := #[.string (⟨#[]⟩ : ByteArray), .int .i64 0, .bool false, .int .i64 0, .int .u64 0, .float .f64 0, .string (⟨#[]⟩ : ByteArray), .slice none 0 0]) ?_ 0 _ rfl; (with_reducible repeat (first | refine blk_drewN ?_ _ | refine blk_drew ?_ | refine blk_alloc ?_ _)); exact BK129.out) Tryz.underlying39 rfl (by kernel_rfl)) rfl ?_
 exact ⟨_, by first | rfl | (simp [errW_none, errW_some] <;> rfl) | (simp [*, errW_none, errW_some] <;> rfl), by first | exact Kd.R_nil _ _ _ _ _ | exact Kd.N_nil _ _ _ _ _ | exact Kd.V_nil _ _ _ _ _ | exact Kd.Q_nil _ _ _ _ _ | exact Kd.S_nil _ _ _ _ _, by repeat (first | (with_reducible first | exact HB.out | apply below_alloc | apply pw_below_drewN | apply below_drew1 | refine below_set ?_ GE129.out) | exact HB.out)⟩
/-! ### spec_listNode: function 66 -/
def spec_listNode.f (a0 : ByteArray) (l1 : List (S39)) : Option (ByteArray × Int × Bool × Int × Int × Nat × ByteArray × (List (S39))) := some (a0, 6, false, 0, 0, 0, (⟨#[]⟩ : ByteArray), l1)
set_option maxHeartbeats 8000000 in
set_option maxRecDepth 100000 in
theorem spec_listNode.calls (a0 : ByteArray) (P1_ : Nat → Prop) (A1 : Option Addr) (c1 : Nat) (l1 : List (S39)) (r1 : ByteArray) (r2 : Int) (r3 : Bool) (r4 : Int) (r5 : Int) (r6 : Nat) (r7 : ByteArray) (r8 : List (S39)) (w : World) (hs1 : Kd.V k39 39 w w.heap.size (fun k_ => P1_ k_) (.slice A1 l1.length c1) l1) (h : spec_listNode.f a0 l1 = some (r1, r2, r3, r4, r5, r6, r7, r8)) :
  Calls Tryz.prog 66 #[.string a0, .slice A1 l1.length c1] w fun e w' => ∃ v7_ : Value, e = .returned (.agg #[.string r1, .int .i64 r2, .bool r3, .int .i64 r4, .int .u64 r5, .float .f64 r6, .string r7, v7_]) ∧ Kd.V k39 39 w' w.heap.size (fun k_ => (P1_ k_ ∨ w.heap.size ≤ k_)) v7_ r8 ∧ Below w.heap.size w w' := by
 have hu39 := Tryz.underlying39
 have HO1 := Aside0.mk (show Kd.V k39 39 w w.heap.size (fun k_ => (P1_ k_ ∨ w.heap.size ≤ k_)) (.slice A1 l1.length c1) l1 from Kd.V_mono hs1 (fun k_ hk => .inl hk))
 have HB := Aside0.mk (Below.refl w.heap.size w)
 have H : (some (a0, 6, false, 0, 0, 0, (⟨#[]⟩ : ByteArray), l1)) = some (r1, r2, r3, r4, r5, r6, r7, r8) := h
 clear h
 simp only [Option.some.injEq, Prod.mk.injEq] at H
 obtain ⟨rfl, rfl, rfl, rfl, rfl, rfl, rfl, rfl⟩ := H
 go_enter Tryz.func66, Tryz.ntmps66
 go_wp2_with (first | ((with_reducible refine gate_dst (N := 4) rfl ?_); refine box_event ?hg (N := 4) ?hd (cs := #[.string (⟨#[]⟩ : ByteArray), .int .i64 0, .bool false, .int .i64 0, .int .u64 0, .float .f64 0, .string (⟨#[]⟩ : ByteArray), .slice none 0 0]) (t := 39) ?hr ?_; (case hd => rfl); (case hg => rfl); (case hr => first | (go_simp; done) | (go_simp; rfl)); intro gb130 hg w3 hbox hb; have n0_ := Aside0.mk (Kd.V_below (Kd.V_elderB (by (with_reducible repeat (first | apply Kd.V_alloc | apply Kd.V_drewN | apply Kd.V_drew)); exact HO1.out) gb130 (Nat.le_of_eq hg.symm)) hb); have n1_ := Aside0.mk (below_step (by repeat (first | (with_reducible first | exact HB.out | apply below_alloc | apply pw_below_drewN | apply below_drew1) | exact HB.out)) hb); have n2_ := Aside0.mk (hbox); have n3_ := Aside0.mk ((by rw [hg]; exact (below_size (by repeat (first | (with_reducible first | exact HB.out | apply below_alloc | apply pw_below_drewN | apply below_drew1) | exact HB.out))) : w.heap.size ≤ gb130)); have n4_ := Aside0.mk ((by rw [hg]; exact (below_size (by repeat (first | (with_reducible first | exact HB.out | apply below_alloc | apply pw_below_drewN | apply below_drew1) | exact HB.out))) : w.heap.size ≤ gb130)); clear HO1; clear HB; have HO1 := n0_; have HB := n1_; have BK130 := n2_; have GW130 := n3_; have GE130 := n4_; clear n0_ n1_ n2_ n3_ n4_; clear hb hbox hg; have hcz4_0 : w3.cell? ⟨gb130, 0, none⟩ = some (.string (⟨#[]⟩ : ByteArray)) := (blk_cell BK130.out 0).trans rfl; have hcz4_1 : w3.cell? ⟨gb130, 1, none⟩ = some (.int .i64 0) := (blk_cell BK130.out 1).trans rfl; have hcz4_2 : w3.cell? ⟨gb130, 2, none⟩ = some (.bool false) := (blk_cell BK130.out 2).trans rfl; have hcz4_3 : w3.cell? ⟨gb130, 3, none⟩ = some (.int .i64 0) := (blk_cell BK130.out 3).trans rfl; have hcz4_4 : w3.cell? ⟨gb130, 4, none⟩ = some (.int .u64 0) := (blk_cell BK130.out 4).trans rfl; have hcz4_5 : w3.cell? ⟨gb130, 5, none⟩ = some (.float .f64 0) := (blk_cell BK130.out 5).trans rfl; have hcz4_6 : w3.cell? ⟨gb130, 6, none⟩ = some (.string (⟨#[]⟩ : ByteArray)) := (blk_cell BK130.out 6).trans rfl; have hcz4_7 : w3.cell? ⟨gb130, 7, none⟩ = some (.slice none 0 0) := (blk_cell BK130.out 7).trans rfl; have hfz4_0 := blk_frozen BK130.out 0; have hfz4_1 := blk_frozen BK130.out 1; have hfz4_2 := blk_frozen BK130.out 2; have hfz4_3 := blk_frozen BK130.out 3; have hfz4_4 := blk_frozen BK130.out 4; have hfz4_5 := blk_frozen BK130.out 5; have hfz4_6 := blk_frozen BK130.out 6; have hfz4_7 := blk_frozen BK130.out 7))
 refine bodyPost_ret (results_cell_row rfl _ _ gb130 39 #[.string a0, .int .i64 6, .bool false, .int .i64 0, .int .u64 0, .float .f64 0, .string (⟨#[]⟩ : ByteArray), .slice A1 l1.length c1] (0, 0) _ rfl (by (with_reducible repeat (first | refine blk_drewN ?_ _ | refine blk_drew ?_ | refine blk_alloc ?_ _)); refine blk_put (cs := #[.string a0, .int .i64 6, .bool false, .int .i64 0, .int .u64 0, .float .f64 0, .string (⟨#[]⟩ : ByteArray), .slice none 0 0]) ?_ 7 _ rfl; (with_reducible repeat (first | refine blk_drewN ?_ _ | refine blk_drew ?_ | refine blk_alloc ?_ _)); refine blk_put (cs := #[.string a0, .int .i64 6, .bool false, .int .i64 0, .int .u64 0, .float .f64 0, .string (⟨#[]⟩ : ByteArray), .slice none 0 0]) ?_ 6 _ rfl; (with_reducible repeat (first | refine blk_drewN ?_ _ | refine blk_drew ?_ | refine blk_alloc ?_ _)); refine blk_put (cs := #[.string a0, .int .i64 6, .bool false, .int .i64 0, .int .u64 0, .float .f64 0, .string (⟨#[]⟩ : ByteArray), .slice none 0 0]) ?_ 5 _ rfl; (with_reducible repeat (first | refine blk_drewN ?_ _ | refine blk_drew ?_ | refine blk_alloc ?_ _)); refine blk_put (cs := #[.string a0, .int .i64 6, .bool false, .int .i64 0, .int .u64 0, .float .f64 0, .string (⟨#[]⟩ : ByteArray), .slice none 0 0]) ?_ 4 _ rfl; (with_reducible repeat (first | refine blk_drewN ?_ _ | refine blk_drew ?_ | refine blk_alloc ?_ _)); refine blk_put (cs := #[.string a0, .int .i64 6, .bool false, .int .i64 0, .int .u64 0, .float .f64 0, .string (⟨#[]⟩ : ByteArray), .slice none 0 0]) ?_ 3 _ rfl; (with_reducible repeat (first | refine blk_drewN ?_ _ | refine blk_drew ?_ | refine blk_alloc ?_ _)); refine blk_put (cs := #[.string a0, .int .i64 6, .bool false, .int .i64 0, .int .u64 0, .float .f64 0, .string (⟨#[]⟩ : ByteArray), .slice none 0 0]) ?_ 2 _ rfl; (with_reducible repeat (first | refine blk_drewN ?_ _ | refine blk_drew ?_ | refine blk_alloc ?_ _)); refine blk_put (cs := #[.string a0, .int .i64 0, .bool false, .int .i64 0, .int .u64 0, .float .f64 0, .string (⟨#[]⟩ : ByteArray), .slice none 0 0]) ?_ 1 _ rfl; (with_reducible repeat (first | refine blk_drewN ?_ _ | refine blk_drew ?_ | refine blk_alloc ?_ _)); refine blk_put (cs := #[.string (⟨#[]⟩ : ByteArray), .int .i64 0, .bool false, .int .i64 0, .int .u64 0, .float .f64 0, .string (⟨#[]⟩ : ByteArray), .slice none 0 0]) ?_ 0 _ rfl; (with_reducible repeat (first | refine blk_drewN ?_ _ | refine blk_drew ?_ | refine blk_alloc ?_ _)); exact BK130.out) Tryz.underlying39 rfl (by kernel_rfl)) rfl ?_
 exact ⟨_, by first | rfl | (simp [errW_none, errW_some] <;> rfl) | (simp [*, errW_none, errW_some] <;> rfl), by (with_reducible repeat (first | apply Kd.V_alloc | apply Kd.V_drewN | apply Kd.V_drew)); exact Kd.V_mono (Kd.V_far (p := ⟨gb130, 7, none⟩) (Kd.V_far (p := ⟨gb130, 6, none⟩) (Kd.V_far (p := ⟨gb130, 5, none⟩) (Kd.V_far (p := ⟨gb130, 4, none⟩) (Kd.V_far (p := ⟨gb130, 3, none⟩) (Kd.V_far (p := ⟨gb130, 2, none⟩) (Kd.V_far (p := ⟨gb130, 1, none⟩) (Kd.V_far (p := ⟨gb130, 0, none⟩) (Kd.V_mono HO1.out (fun k_ hk => (⟨hk, hk.2⟩ : _ ∧ k_ ≠ gb130))) (fun _ hk => hk.2) (.string a0)) (fun _ hk => hk.2) (.int .i64 6)) (fun _ hk => hk.2) (.bool false)) (fun _ hk => hk.2) (.int .i64 0)) (fun _ hk => hk.2) (.int .u64 0)) (fun _ hk => hk.2) (.float .f64 0)) (fun _ hk => hk.2) (.string (⟨#[]⟩ : ByteArray))) (fun _ hk => hk.2) (.slice A1 l1.length c1)) (fun _ hk => hk.1.1), by repeat (first | (with_reducible first | exact HB.out | apply below_alloc | apply pw_below_drewN | apply below_drew1 | refine below_set ?_ GE130.out) | exact HB.out)⟩
end Go.Proofs.YtednjmngalmdkaaGreatDoor.GPC
end
section
/- Texts of lines, read line by line; strconv.Atoi as a contract. Plain definitions and small laws. Conditions: as they say. -/
namespace Go.Proofs.YtednjmngalmdkaaGreatDoor.GPC
open Go Go.RowKit Go.Proofs.YtednjmngalmdkaaGreatDoorW.PrintWords Go.Proofs.YtednjmngalmdkaaGreatDoorW.PrintLast
set_option linter.unusedVariables false
def LineOk (t : ByteArray) : Prop := t.size ≤ 1000000 ∧ GL.lineEnd t < 65536 ∧ ¬ bt (GL.lineOf t) ((GL.lineOf t).size - 1) = 13
instance (t : ByteArray) : Decidable (LineOk t) := by unfold LineOk; exact inferInstance
def rowsF {α : Type} (L : ByteArray → Option (Option α)) : Nat → ByteArray → Option (List α)
 | 0, _ => none
 | q + 1, t => if t.size = 0 then some [] else
   if LineOk t then (L (GL.lineOf t)).bind fun m => (rowsF L q (GL.restOf t)).bind fun ms => some (m.toList ++ ms) else none
theorem restOf_size (t : ByteArray) (h : 0 < t.size) : (GL.restOf t).size < t.size := by
 unfold GL.restOf
 rw [ByteArray.size_extract]
 have := GL.lineEnd_le t
 split <;> omega
theorem rowsF_size {α : Type} {L : ByteArray → Option (Option α)} {q : Nat} {t : ByteArray} {r : List α} (h : rowsF L q t = some r) : t.size = 0 ∨ t.size ≤ 1000000 := by
 cases q with
 | zero => cases h
 | succ q =>
  unfold rowsF at h
  split at h
  ·exact .inl (by assumption)
  ·split at h
   ·rename_i hc; exact .inr hc.1
   ·cases h
theorem rowsF_step {α : Type} {L : ByteArray → Option (Option α)} {q : Nat} {t : ByteArray} {r : List α} (h : rowsF L (q + 1) t = some r) (ht : ¬ t.size = 0) :
  LineOk t ∧ ∃ m ms, L (GL.lineOf t) = some m ∧ rowsF L q (GL.restOf t) = some ms ∧ r = m.toList ++ ms := by
 unfold rowsF at h
 rw [if_neg ht] at h
 split at h
 ·rename_i hc
  obtain ⟨m, hm, h⟩ := Option.bind_eq_some_iff.1 h
  obtain ⟨ms, hms, h⟩ := Option.bind_eq_some_iff.1 h
  obtain rfl := Option.some.inj h
  exact ⟨hc, m, ms, hm, hms, rfl⟩
 ·cases h
end Go.Proofs.YtednjmngalmdkaaGreatDoor.GPC
end
section
/- A call of a function value in a region that draws; reads of floats. Plain laws of the walk. -/
namespace Go.Proofs.YtednjmngalmdkaaGreatDoor.GPC
open Go.RowKit Go.Proofs.YtednjmngalmdkaaGreatDoorW.PrintWords Go.Proofs.YtednjmngalmdkaaGreatDoorW.PrintLast
set_option linter.unusedVariables false
open Kd in
section
variable {P : Program} {ops : Array Oper} {Q : Exit → Act → World → Prop}
theorem goesV_ {oi : Oper} {N : Option Tmp} {a : Act} {w : World} {K : Act → World → Prop} {f : FuncId} {fn : Func} {asx : Array Operand} {ts : Array TypeId} {x : Operand} (hf : P.funcs[f]? = some fn) (hname : (fn.name == "runtime.NumGoroutine") = false) (hb : fn.body.isSome = true) (args : Array Value)
  (hw : Region.wanted oi (yielded ops a.tmps) = true) (hN : oi.dst = N) (hop : oi.op = .call { callee := .value x, args := asx, argTypes := ts }) (hx : a.eval x = .func (.func f) #[] #[]) (hargs : asx.map a.eval = args)
  (h : Calls P f args w fun e w' => ∃ v, e = .returned v ∧ K (a.put N v) w') : if Region.wanted oi (yielded ops a.tmps) = true then Oper.wp P oi a w K Q else K (a.put N undef) w := by
 refine call_ f args hw hN ?_ h
 have he := enters_ hf hname hb args w
 unfold execOp
 simp [hop, resolve, Deferred.ofValue, invoke, hx, hargs, he]
end
end Go.Proofs.YtednjmngalmdkaaGreatDoor.GPC
end
section
namespace Go.Proofs.YtednjmngalmdkaaGreatDoor.GPC
open Go.RowKit Go.Proofs.YtednjmngalmdkaaGreatDoorW.PrintWords Go.Proofs.YtednjmngalmdkaaGreatDoorW.PrintLast Go.Proofs.YtednjmngalmdkaaGreatDoorW.PrintMore
attribute [local go_sem] max2_int min2_int max_two min_two max_three min_three max_four min_four   -- for this text's walks alone
set_option linter.unusedVariables false
set_option linter.unusedSimpArgs false

attribute [local go_sem] run_store_float
/-! ### impl_procfsSchedstatCPU: function 163 -/
def impl_procfsSchedstatCPU.f (a0 : ByteArray) (a1_0 : ByteArray) (a1_1 : Int) (a1_2 : Int) (a1_3 : Int) : Option (ByteArray × Int × Bool × Int × Int × Nat × ByteArray × (List (S43))) := if ([] : List (S43)).length < 1466015503701 then ((some (([] : List (S43)) ++ [(⟨(⟨#[67, 80, 85, 78, 117, 109]⟩ : ByteArray), 5, false, 0, 0, 0, a1_0, ([] : List (S43))⟩ : S43)] : List (S43))).bind fun y104 => (if y104.length < 1466015503701 then ((some (y104 ++ [(⟨(⟨#[82, 117, 110, 110, 105, 110, 103, 78, 97, 110, 111, 115, 101, 99, 111, 110, 100, 115]⟩ : ByteArray), 3, false, 0, a1_1, 0, (⟨#[]⟩ : ByteArray), ([] : List (S43))⟩ : S43)] : List (S43))).bind fun y107 => (if y107.length < 1466015503701 then ((some (y107 ++ [(⟨(⟨#[87, 97, 105, 116, 105, 110, 103, 78, 97, 110, 111, 115, 101, 99, 111, 110, 100, 115]⟩ : ByteArray), 3, false, 0, a1_2, 0, (⟨#[]⟩ : ByteArray), ([] : List (S43))⟩ : S43)] : List (S43))).bind fun y110 => (if y110.length < 1466015503701 then (some (a0, 8, false, 0, 0, 0, (⟨#[]⟩ : ByteArray), (y110 ++ [(⟨(⟨#[82, 117, 110, 84, 105, 109, 101, 115, 108, 105, 99, 101, 115]⟩ : ByteArray), 3, false, 0, a1_3, 0, (⟨#[]⟩ : ByteArray), ([] : List (S43))⟩ : S43)]))) else (none))) else (none))) else (none))) else (none)
set_option maxHeartbeats 8000000 in
set_option maxRecDepth 100000 in
theorem impl_procfsSchedstatCPU.calls (a0 : ByteArray) (a1_0 : ByteArray) (a1_1 : Int) (a1_2 : Int) (a1_3 : Int) (r1 : ByteArray) (r2 : Int) (r3 : Bool) (r4 : Int) (r5 : Int) (r6 : Nat) (r7 : ByteArray) (r8 : List (S43)) (w : World) (h : impl_procfsSchedstatCPU.f a0 a1_0 a1_1 a1_2 a1_3 = some (r1, r2, r3, r4, r5, r6, r7, r8)) :
  Calls Tryz.prog 163 #[.string a0, .agg #[.string a1_0, .int .u64 a1_1, .int .u64 a1_2, .int .u64 a1_3]] w fun e w' => ∃ v7_ : Value, e = .returned (.agg #[.string r1, .int .i64 r2, .bool r3, .int .i64 r4, .int .u64 r5, .float .f64 r6, .string r7, v7_]) ∧ Kd.R k43 43 w' w.heap.size (fun _ => True) v7_ r8 ∧ Below w.heap.size w w' := by
 have hu196 := Tryz.underlying196
 have hu43 := Tryz.underlying43
 have HB := Aside0.mk (Below.refl w.heap.size w)
 have H : (if ([] : List (S43)).length < 1466015503701 then ((some (([] : List (S43)) ++ [(⟨(⟨#[67, 80, 85, 78, 117, 109]⟩ : ByteArray), 5, false, 0, 0, 0, a1_0, ([] : List (S43))⟩ : S43)] : List (S43))).bind fun y104 => (if y104.length < 1466015503701 then ((some (y104 ++ [(⟨(⟨#[82, 117, 110, 110, 105, 110, 103, 78, 97, 110, 111, 115, 101, 99, 111, 110, 100, 115]⟩ : ByteArray), 3, false, 0, a1_1, 0, (⟨#[]⟩ : ByteArray), ([] : List (S43))⟩ : S43)] : List (S43))).bind fun y107 => (if y107.length < 1466015503701 then ((some (y107 ++ [(⟨(⟨#[87, 97, 105, 116, 105, 110, 103, 78, 97, 110, 111, 115, 101, 99, 111, 110, 100, 115]⟩ : ByteArray), 3, false, 0, a1_2, 0, (⟨#[]⟩ : ByteArray), ([] : List (S43))⟩ : S43)] : List (S43))).bind fun y110 => (if y110.length < 1466015503701 then (some (a0, 8, false, 0, 0, 0, (⟨#[]⟩ : ByteArray), (y110 ++ [(⟨(⟨#[82, 117, 110, 84, 105, 109, 101, 115, 108, 105, 99, 101, 115]⟩ : ByteArray), 3, false, 0, a1_3, 0, (⟨#[]⟩ : ByteArray), ([] : List (S43))⟩ : S43)]))) else (none))) else (none))) else (none))) else (none)) = some (r1, r2, r3, r4, r5, r6, r7, r8) := h
 clear h
 replace H := guard_inv H
 obtain ⟨c3, H⟩ := H
 have LMc3 := Aside0.mk c3
 clear c3
 obtain ⟨y104, hy104⟩ : ∃ y_ : List (S43), y_ = (([] : List (S43)) ++ [(⟨(⟨#[67, 80, 85, 78, 117, 109]⟩ : ByteArray), 5, false, 0, 0, 0, a1_0, ([] : List (S43))⟩ : S43)]) := ⟨_, rfl⟩
 replace H : (if y104.length < 1466015503701 then ((some (y104 ++ [(⟨(⟨#[82, 117, 110, 110, 105, 110, 103, 78, 97, 110, 111, 115, 101, 99, 111, 110, 100, 115]⟩ : ByteArray), 3, false, 0, a1_1, 0, (⟨#[]⟩ : ByteArray), ([] : List (S43))⟩ : S43)] : List (S43))).bind fun y107 => (if y107.length < 1466015503701 then ((some (y107 ++ [(⟨(⟨#[87, 97, 105, 116, 105, 110, 103, 78, 97, 110, 111, 115, 101, 99, 111, 110, 100, 115]⟩ : ByteArray), 3, false, 0, a1_2, 0, (⟨#[]⟩ : ByteArray), ([] : List (S43))⟩ : S43)] : List (S43))).bind fun y110 => (if y110.length < 1466015503701 then (some (a0, 8, false, 0, 0, 0, (⟨#[]⟩ : ByteArray), (y110 ++ [(⟨(⟨#[82, 117, 110, 84, 105, 109, 101, 115, 108, 105, 99, 101, 115]⟩ : ByteArray), 3, false, 0, a1_3, 0, (⟨#[]⟩ : ByteArray), ([] : List (S43))⟩ : S43)]))) else (none))) else (none))) else (none)) = some (r1, r2, r3, r4, r5, r6, r7, r8) := by first | (rw [hy104]; with_reducible exact H) | (have H2_ := (Option.bind_some _ _).symm.trans H; rw [hy104]; with_reducible exact H2_) | (have H2_ := (Option.bind_some _ _).symm.trans H; with_reducible exact H2_) | with_reducible exact H | (rw [hy104]; exact H) | exact H
 have Ny104 := Aside0.mk hy104
 clear hy104
 replace H := guard_inv H
 obtain ⟨c4, H⟩ := H
 have LMc4 := Aside0.mk c4
 clear c4
 obtain ⟨y107, hy107⟩ : ∃ y_ : List (S43), y_ = (y104 ++ [(⟨(⟨#[82, 117, 110, 110, 105, 110, 103, 78, 97, 110, 111, 115, 101, 99, 111, 110, 100, 115]⟩ : ByteArray), 3, false, 0, a1_1, 0, (⟨#[]⟩ : ByteArray), ([] : List (S43))⟩ : S43)]) := ⟨_, rfl⟩
 replace H : (if y107.length < 1466015503701 then ((some (y107 ++ [(⟨(⟨#[87, 97, 105, 116, 105, 110, 103, 78, 97, 110, 111, 115, 101, 99, 111, 110, 100, 115]⟩ : ByteArray), 3, false, 0, a1_2, 0, (⟨#[]⟩ : ByteArray), ([] : List (S43))⟩ : S43)] : List (S43))).bind fun y110 => (if y110.length < 1466015503701 then (some (a0, 8, false, 0, 0, 0, (⟨#[]⟩ : ByteArray), (y110 ++ [(⟨(⟨#[82, 117, 110, 84, 105, 109, 101, 115, 108, 105, 99, 101, 115]⟩ : ByteArray), 3, false, 0, a1_3, 0, (⟨#[]⟩ : ByteArray), ([] : List (S43))⟩ : S43)]))) else (none))) else (none)) = some (r1, r2, r3, r4, r5, r6, r7, r8) := by first | (rw [hy107]; with_reducible exact H) | (have H2_ := (Option.bind_some _ _).symm.trans H; rw [hy107]; with_reducible exact H2_) | (have H2_ := (Option.bind_some _ _).symm.trans H; with_reducible exact H2_) | with_reducible exact H | (rw [hy107]; exact H) | exact H
 have Ny107 := Aside0.mk hy107
 clear hy107
 replace H := guard_inv H
 obtain ⟨c5, H⟩ := H
 have LMc5 := Aside0.mk c5
 clear c5
 obtain ⟨y110, hy110⟩ : ∃ y_ : List (S43), y_ = (y107 ++ [(⟨(⟨#[87, 97, 105, 116, 105, 110, 103, 78, 97, 110, 111, 115, 101, 99, 111, 110, 100, 115]⟩ : ByteArray), 3, false, 0, a1_2, 0, (⟨#[]⟩ : ByteArray), ([] : List (S43))⟩ : S43)]) := ⟨_, rfl⟩
 replace H : (if y110.length < 1466015503701 then (some (a0, 8, false, 0, 0, 0, (⟨#[]⟩ : ByteArray), (y110 ++ [(⟨(⟨#[82, 117, 110, 84, 105, 109, 101, 115, 108, 105, 99, 101, 115]⟩ : ByteArray), 3, false, 0, a1_3, 0, (⟨#[]⟩ : ByteArray), ([] : List (S43))⟩ : S43)]))) else (none)) = some (r1, r2, r3, r4, r5, r6, r7, r8) := by first | (rw [hy110]; with_reducible exact H) | (have H2_ := (Option.bind_some _ _).symm.trans H; rw [hy110]; with_reducible exact H2_) | (have H2_ := (Option.bind_some _ _).symm.trans H; with_reducible exact H2_) | with_reducible exact H | (rw [hy110]; exact H) | exact H
 have Ny110 := Aside0.mk hy110
 clear hy110
 replace H := guard_inv H
 obtain ⟨c6, H⟩ := H
 have LMc6 := Aside0.mk c6
 clear c6
 obtain ⟨y113, hy113⟩ : ∃ y_ : List (S43), y_ = (y110 ++ [(⟨(⟨#[82, 117, 110, 84, 105, 109, 101, 115, 108, 105, 99, 101, 115]⟩ : ByteArray), 3, false, 0, a1_3, 0, (⟨#[]⟩ : ByteArray), ([] : List (S43))⟩ : S43)]) := ⟨_, rfl⟩
 replace H : (some (a0, 8, false, 0, 0, 0, (⟨#[]⟩ : ByteArray), y113)) = some (r1, r2, r3, r4, r5, r6, r7, r8) := by first | (rw [hy113]; with_reducible exact H) | (have H2_ := (Option.bind_some _ _).symm.trans H; rw [hy113]; with_reducible exact H2_) | (have H2_ := (Option.bind_some _ _).symm.trans H; with_reducible exact H2_) | with_reducible exact H | (rw [hy113]; exact H) | exact H
 have Ny113 := Aside0.mk hy113
 clear hy113
 simp only [Option.some.injEq, Prod.mk.injEq] at H
 obtain ⟨rfl, rfl, rfl, rfl, rfl, rfl, rfl, rfl⟩ := H
 go_enter Tryz.func163, Tryz.ntmps163
 go_wp2_with (first | ((with_reducible refine gate_dst (N := 3) rfl ?_); refine box_event ?hg (N := 3) ?hd (cs := #[.string a1_0, .int .u64 a1_1, .int .u64 a1_2, .int .u64 a1_3]) (t := 196) ?hr ?_; (case hd => rfl); (case hg => rfl); (case hr => first | (go_simp; done) | (go_simp; rfl)); intro gb101 hg w7 hbox hb; have n0_ := Aside0.mk (below_step (by repeat (first | (with_reducible first | exact HB.out | apply below_alloc | apply pw_below_drewN | apply below_drew1) | exact HB.out)) hb); have n1_ := Aside0.mk (hbox); have n2_ := Aside0.mk ((by rw [hg]; exact (below_size (by repeat (first | (with_reducible first | exact HB.out | apply below_alloc | apply pw_below_drewN | apply below_drew1) | exact HB.out))) : w.heap.size ≤ gb101)); have n3_ := Aside0.mk ((by rw [hg]; exact (below_size (by repeat (first | (with_reducible first | exact HB.out | apply below_alloc | apply pw_below_drewN | apply below_drew1) | exact HB.out))) : w.heap.size ≤ gb101)); clear HB; have HB := n0_; have BK101 := n1_; have GW101 := n2_; have GE101 := n3_; clear n0_ n1_ n2_ n3_; clear hb hbox hg) | ((with_reducible refine gate_dst (N := 4) rfl ?_); refine box_event ?hg (N := 4) ?hd (cs := #[.string (⟨#[]⟩ : ByteArray), .int .i64 0, .bool false, .int .i64 0, .int .u64 0, .float .f64 0, .string (⟨#[]⟩ : ByteArray), .slice none 0 0]) (t := 43) ?hr ?_; (case hd => rfl); (case hg => rfl); (case hr => first | (go_simp; done) | (go_simp; rfl)); intro gb102 hg w8 hbox hb; have n0_ := Aside0.mk (blk_below (g := gb101) (o := .cells #[.string a1_0, .int .u64 a1_1, .int .u64 a1_2, .int .u64 a1_3] 196 (0, 0)) (by (with_reducible repeat (first | refine blk_drewN ?_ _ | refine blk_drew ?_ | refine blk_alloc ?_ _)); exact BK101.out) hb); have n1_ := Aside0.mk (below_step (by repeat (first | (with_reducible first | exact HB.out | apply below_alloc | apply pw_below_drewN | apply below_drew1 | refine below_set ?_ GE101.out) | exact HB.out)) hb); have n2_ := Aside0.mk (hbox); have n3_ := Aside0.mk ((by rw [hg]; exact (below_size (by repeat (first | (with_reducible first | exact HB.out | apply below_alloc | apply pw_below_drewN | apply below_drew1 | refine below_set ?_ GE101.out) | exact HB.out))) : w.heap.size ≤ gb102)); have n4_ := Aside0.mk ((by rw [hg]; exact (below_size (by repeat (first | (with_reducible first | exact HB.out | apply below_alloc | apply pw_below_drewN | apply below_drew1 | refine below_set ?_ GE101.out) | exact HB.out))) : w.heap.size ≤ gb102)); have n5_ := Aside0.mk ((by rw [hg]; exact Nat.ne_of_lt (blk_lt (g := gb101) (o := .cells #[.string a1_0, .int .u64 a1_1, .int .u64 a1_2, .int .u64 a1_3] 196 (0, 0)) (by (with_reducible repeat (first | refine blk_drewN ?_ _ | refine blk_drew ?_ | refine blk_alloc ?_ _)); exact BK101.out)) : gb101 ≠ gb102)); have n6_ := Aside0.mk ((by rw [hg]; exact Nat.ne_of_gt (blk_lt (g := gb101) (o := .cells #[.string a1_0, .int .u64 a1_1, .int .u64 a1_2, .int .u64 a1_3] 196 (0, 0)) (by (with_reducible repeat (first | refine blk_drewN ?_ _ | refine blk_drew ?_ | refine blk_alloc ?_ _)); exact BK101.out)) : gb102 ≠ gb101)); clear BK101; clear HB; have BK101 := n0_; have HB := n1_; have BK102 := n2_; have GW102 := n3_; have GE102 := n4_; have NB101_102 := n5_; have NB102_101 := n6_; clear n0_ n1_ n2_ n3_ n4_ n5_ n6_; clear hb hbox hg) | ((with_reducible refine gate_dst (N := 5) rfl ?_); refine box_event ?hg (N := 5) ?hd (cs := #[.string (⟨#[]⟩ : ByteArray), .int .i64 0, .bool false, .int .i64 0, .int .u64 0, .float .f64 0, .string (⟨#[]⟩ : ByteArray), .slice none 0 0]) (t := 43) ?hr ?_; (case hd => rfl); (case hg => rfl); (case hr => first | (go_simp; done) | (go_simp; rfl)); intro gb103 hg w9 hbox hb; have n0_ := Aside0.mk (blk_below (g := gb101) (o := .cells #[.string a1_0, .int .u64 a1_1, .int .u64 a1_2, .int .u64 a1_3] 196 (0, 0)) (by (with_reducible repeat (first | refine blk_drewN ?_ _ | refine blk_drew ?_ | refine blk_alloc ?_ _)); exact BK101.out) hb); have n1_ := Aside0.mk (blk_below (g := gb102) (o := .cells #[.string (⟨#[]⟩ : ByteArray), .int .i64 0, .bool false, .int .i64 0, .int .u64 0, .float .f64 0, .string (⟨#[]⟩ : ByteArray), .slice none 0 0] 43 (0, 0)) (by (with_reducible repeat (first | refine blk_drewN ?_ _ | refine blk_drew ?_ | refine blk_alloc ?_ _)); exact BK102.out) hb); have n2_ := Aside0.mk (below_step (by repeat (first | (with_reducible first | exact HB.out | apply below_alloc | apply pw_below_drewN | apply below_drew1 | refine below_set ?_ GE101.out | refine below_set ?_ GE102.out) | exact HB.out)) hb); have n3_ := Aside0.mk (hbox); have n4_ := Aside0.mk ((by rw [hg]; exact (below_size (by repeat (first | (with_reducible first | exact HB.out | apply below_alloc | apply pw_below_drewN | apply below_drew1 | refine below_set ?_ GE101.out | refine below_set ?_ GE102.out) | exact HB.out))) : w.heap.size ≤ gb103)); have n5_ := Aside0.mk ((by rw [hg]; exact (below_size (by repeat (first | (with_reducible first | exact HB.out | apply below_alloc | apply pw_below_drewN | apply below_drew1 | refine below_set ?_ GE101.out | refine below_set ?_ GE102.out) | exact HB.out))) : w.heap.size ≤ gb103)); have n6_ := Aside0.mk ((by rw [hg]; exact Nat.ne_of_lt (blk_lt (g := gb101) (o := .cells #[.string a1_0, .int .u64 a1_1, .int .u64 a1_2, .int .u64 a1_3] 196 (0, 0)) (by (with_reducible repeat (first | refine blk_drewN ?_ _ | refine blk_drew ?_ | refine blk_alloc ?_ _)); exact BK101.out)) : gb101 ≠ gb103)); have n7_ := Aside0.mk ((by rw [hg]; exact Nat.ne_of_gt (blk_lt (g := gb101) (o := .cells #[.string a1_0, .int .u64 a1_1, .int .u64 a1_2, .int .u64 a1_3] 196 (0, 0)) (by (with_reducible repeat (first | refine blk_drewN ?_ _ | refine blk_drew ?_ | refine blk_alloc ?_ _)); exact BK101.out)) : gb103 ≠ gb101)); have n8_ := Aside0.mk ((by rw [hg]; exact Nat.ne_of_lt (blk_lt (g := gb102) (o := .cells #[.string (⟨#[]⟩ : ByteArray), .int .i64 0, .bool false, .int .i64 0, .int .u64 0, .float .f64 0, .string (⟨#[]⟩ : ByteArray), .slice none 0 0] 43 (0, 0)) (by (with_reducible repeat (first | refine blk_drewN ?_ _ | refine blk_drew ?_ | refine blk_alloc ?_ _)); exact BK102.out)) : gb102 ≠ gb103)); have n9_ := Aside0.mk ((by rw [hg]; exact Nat.ne_of_gt (blk_lt (g := gb102) (o := .cells #[.string (⟨#[]⟩ : ByteArray), .int .i64 0, .bool false, .int .i64 0, .int .u64 0, .float .f64 0, .string (⟨#[]⟩ : ByteArray), .slice none 0 0] 43 (0, 0)) (by (with_reducible repeat (first | refine blk_drewN ?_ _ | refine blk_drew ?_ | refine blk_alloc ?_ _)); exact BK102.out)) : gb103 ≠ gb102)); clear BK101; clear BK102; clear HB; have BK101 := n0_; have BK102 := n1_; have HB := n2_; have BK103 := n3_; have GW103 := n4_; have GE103 := n5_; have NB101_103 := n6_; have NB103_101 := n7_; have NB102_103 := n8_; have NB103_102 := n9_; clear n0_ n1_ n2_ n3_ n4_ n5_ n6_ n7_ n8_ n9_; clear hb hbox hg; have hnb10 := NB103_101.out; have hnc10 := NB101_103.out; have hnb11 := NB103_102.out; have hnc11 := NB102_103.out; have hcz12_0 : w9.cell? ⟨gb103, 0, none⟩ = some (.string (⟨#[]⟩ : ByteArray)) := (blk_cell BK103.out 0).trans rfl; have hcz12_1 : w9.cell? ⟨gb103, 1, none⟩ = some (.int .i64 0) := (blk_cell BK103.out 1).trans rfl; have hcz12_2 : w9.cell? ⟨gb103, 2, none⟩ = some (.bool false) := (blk_cell BK103.out 2).trans rfl; have hcz12_3 : w9.cell? ⟨gb103, 3, none⟩ = some (.int .i64 0) := (blk_cell BK103.out 3).trans rfl; have hcz12_4 : w9.cell? ⟨gb103, 4, none⟩ = some (.int .u64 0) := (blk_cell BK103.out 4).trans rfl; have hcz12_5 : w9.cell? ⟨gb103, 5, none⟩ = some (.float .f64 0) := (blk_cell BK103.out 5).trans rfl; have hcz12_6 : w9.cell? ⟨gb103, 6, none⟩ = some (.string (⟨#[]⟩ : ByteArray)) := (blk_cell BK103.out 6).trans rfl; have hcz12_7 : w9.cell? ⟨gb103, 7, none⟩ = some (.slice none 0 0) := (blk_cell BK103.out 7).trans rfl; have hfz12_0 := blk_frozen BK103.out 0; have hfz12_1 := blk_frozen BK103.out 1; have hfz12_2 := blk_frozen BK103.out 2; have hfz12_3 := blk_frozen BK103.out 3; have hfz12_4 := blk_frozen BK103.out 4; have hfz12_5 := blk_frozen BK103.out 5; have hfz12_6 := blk_frozen BK103.out 6; have hfz12_7 := blk_frozen BK103.out 7; have hnb13 := NB101_102.out; have hnc13 := NB102_101.out; have hcz14_0 : w9.cell? ⟨gb101, 0, none⟩ = some (.string a1_0) := (blk_cell BK101.out 0).trans rfl; have hcz14_1 : w9.cell? ⟨gb101, 1, none⟩ = some (.int .u64 a1_1) := (blk_cell BK101.out 1).trans rfl; have hcz14_2 : w9.cell? ⟨gb101, 2, none⟩ = some (.int .u64 a1_2) := (blk_cell BK101.out 2).trans rfl; have hcz14_3 : w9.cell? ⟨gb101, 3, none⟩ = some (.int .u64 a1_3) := (blk_cell BK101.out 3).trans rfl; have hfz14_0 := blk_frozen BK101.out 0; have hfz14_1 := blk_frozen BK101.out 1; have hfz14_2 := blk_frozen BK101.out 2; have hfz14_3 := blk_frozen BK101.out 3) | ((with_reducible refine gate_builtin (b := .append) (xs := #[.tmp 9, .tmp 13]) rfl ?_); at_builtin; refine Kd.R_append k43 (w0 := w) w.heap.size rfl (.tmp 9) (.tmp 13) 41 43 (.agg #[(.string ⟨#[]⟩), (.int .i64 0), (.bool false), (.int .i64 0), (.int .u64 0), (.float .f64 0), (.string ⟨#[]⟩), (.slice none 0 0)]) 96 rfl Tryz.underlying41 info43 rfl (by decide) (by omega) (.slice none 0 0) ([] : List (S43)) (⟨(⟨#[67, 80, 85, 78, 117, 109]⟩ : ByteArray), 5, false, 0, 0, 0, a1_0, ([] : List (S43))⟩ : S43) [.string (⟨#[67, 80, 85, 78, 117, 109]⟩ : ByteArray), .int .i64 5, .bool false, .int .i64 0, .int .u64 0, .float .f64 0, .string a1_0, .slice none 0 0] (fun k_ => k_ ≠ gb102 ∧ k_ ≠ gb103) (fun k_ => ((fun k_ => k_ ≠ gb102 ∧ k_ ≠ gb103)) k_ ∧ some k_ ≠ (.slice none 0 0 : Value).ownBlock) rfl (by first | (go_simp; done) | (go_simp; rfl)) ?aP (fun _ hk => hk) ?aF ?aO ?aB ?aS ?aL ?_; (case aP => exact k43_mkM _ _ _ (⟨(⟨#[67, 80, 85, 78, 117, 109]⟩ : ByteArray), 5, false, 0, 0, 0, a1_0, ([] : List (S43))⟩ : S43) (Kd.R_nil _ _ _ _ _)); (case aB => exact (by repeat (first | (with_reducible first | exact HB.out | apply below_alloc | apply pw_below_drewN | apply below_drew1 | refine below_set ?_ GE101.out | refine below_set ?_ GE102.out | refine below_set ?_ GE103.out) | exact HB.out))); (case aF => exact (fun k_ hk => ⟨Kd.freshB (g := gb102) (o := .cells #[.string (⟨#[]⟩ : ByteArray), .int .i64 0, .bool false, .int .i64 0, .int .u64 0, .float .f64 0, .string (⟨#[]⟩ : ByteArray), .slice none 0 0] 43 (0, 0)) (by (with_reducible repeat (first | refine blk_drewN ?_ _ | refine blk_drew ?_ | refine blk_alloc ?_ _)); refine blk_far ?_ NB102_103.out _; (with_reducible repeat (first | refine blk_drewN ?_ _ | refine blk_drew ?_ | refine blk_alloc ?_ _)); refine blk_far ?_ NB102_103.out _; (with_reducible repeat (first | refine blk_drewN ?_ _ | refine blk_drew ?_ | refine blk_alloc ?_ _)); refine blk_far ?_ NB102_103.out _; (with_reducible repeat (first | refine blk_drewN ?_ _ | refine blk_drew ?_ | refine blk_alloc ?_ _)); refine blk_far ?_ NB102_103.out _; (with_reducible repeat (first | refine blk_drewN ?_ _ | refine blk_drew ?_ | refine blk_alloc ?_ _)); refine blk_far ?_ NB102_103.out _; (with_reducible repeat (first | refine blk_drewN ?_ _ | refine blk_drew ?_ | refine blk_alloc ?_ _)); refine blk_far ?_ NB102_103.out _; (with_reducible repeat (first | refine blk_drewN ?_ _ | refine blk_drew ?_ | refine blk_alloc ?_ _)); refine blk_far ?_ NB102_103.out _; (with_reducible repeat (first | refine blk_drewN ?_ _ | refine blk_drew ?_ | refine blk_alloc ?_ _)); refine blk_far ?_ NB102_103.out _; (with_reducible repeat (first | refine blk_drewN ?_ _ | refine blk_drew ?_ | refine blk_alloc ?_ _)); exact BK102.out) k_ hk, Kd.freshB (g := gb103) (o := .cells #[.string a0, .int .i64 8, .bool false, .int .i64 0, .int .u64 0, .float .f64 0, .string (⟨#[]⟩ : ByteArray), .slice none 0 0] 43 (0, 0)) (by (with_reducible repeat (first | refine blk_drewN ?_ _ | refine blk_drew ?_ | refine blk_alloc ?_ _)); refine blk_put (cs := #[.string a0, .int .i64 8, .bool false, .int .i64 0, .int .u64 0, .float .f64 0, .string (⟨#[]⟩ : ByteArray), .slice none 0 0]) ?_ 7 _ rfl; (with_reducible repeat (first | refine blk_drewN ?_ _ | refine blk_drew ?_ | refine blk_alloc ?_ _)); refine blk_put (cs := #[.string a0, .int .i64 8, .bool false, .int .i64 0, .int .u64 0, .float .f64 0, .string (⟨#[]⟩ : ByteArray), .slice none 0 0]) ?_ 6 _ rfl; (with_reducible repeat (first | refine blk_drewN ?_ _ | refine blk_drew ?_ | refine blk_alloc ?_ _)); refine blk_put (cs := #[.string a0, .int .i64 8, .bool false, .int .i64 0, .int .u64 0, .float .f64 0, .string (⟨#[]⟩ : ByteArray), .slice none 0 0]) ?_ 5 _ rfl; (with_reducible repeat (first | refine blk_drewN ?_ _ | refine blk_drew ?_ | refine blk_alloc ?_ _)); refine blk_put (cs := #[.string a0, .int .i64 8, .bool false, .int .i64 0, .int .u64 0, .float .f64 0, .string (⟨#[]⟩ : ByteArray), .slice none 0 0]) ?_ 4 _ rfl; (with_reducible repeat (first | refine blk_drewN ?_ _ | refine blk_drew ?_ | refine blk_alloc ?_ _)); refine blk_put (cs := #[.string a0, .int .i64 8, .bool false, .int .i64 0, .int .u64 0, .float .f64 0, .string (⟨#[]⟩ : ByteArray), .slice none 0 0]) ?_ 3 _ rfl; (with_reducible repeat (first | refine blk_drewN ?_ _ | refine blk_drew ?_ | refine blk_alloc ?_ _)); refine blk_put (cs := #[.string a0, .int .i64 8, .bool false, .int .i64 0, .int .u64 0, .float .f64 0, .string (⟨#[]⟩ : ByteArray), .slice none 0 0]) ?_ 2 _ rfl; (with_reducible repeat (first | refine blk_drewN ?_ _ | refine blk_drew ?_ | refine blk_alloc ?_ _)); refine blk_put (cs := #[.string a0, .int .i64 0, .bool false, .int .i64 0, .int .u64 0, .float .f64 0, .string (⟨#[]⟩ : ByteArray), .slice none 0 0]) ?_ 1 _ rfl; (with_reducible repeat (first | refine blk_drewN ?_ _ | refine blk_drew ?_ | refine blk_alloc ?_ _)); refine blk_put (cs := #[.string (⟨#[]⟩ : ByteArray), .int .i64 0, .bool false, .int .i64 0, .int .u64 0, .float .f64 0, .string (⟨#[]⟩ : ByteArray), .slice none 0 0]) ?_ 0 _ rfl; (with_reducible repeat (first | refine blk_drewN ?_ _ | refine blk_drew ?_ | refine blk_alloc ?_ _)); exact BK103.out) k_ hk⟩)); (case aO => exact ((Kd.R_nil _ _ _ _ (fun k_ => k_ ≠ gb102 ∧ k_ ≠ gb103)))); (case aS => exact (below_size (by repeat (first | (with_reducible first | exact HB.out | apply below_alloc | apply pw_below_drewN | apply below_drew1 | refine below_set ?_ GE101.out | refine below_set ?_ GE102.out | refine below_set ?_ GE103.out) | exact HB.out)))); (case aL => have := LMc3.out; omega); intro v105 w15 ho hb hg hat; rw [← Ny104.out] at ho; have n0_ := Aside0.mk (blk_grown (g := gb101) (o := .cells #[.string a1_0, .int .u64 a1_1, .int .u64 a1_2, .int .u64 a1_3] 196 (0, 0)) (by (with_reducible repeat (first | refine blk_drewN ?_ _ | refine blk_drew ?_ | refine blk_alloc ?_ _)); refine blk_far ?_ NB101_103.out _; (with_reducible repeat (first | refine blk_drewN ?_ _ | refine blk_drew ?_ | refine blk_alloc ?_ _)); refine blk_far ?_ NB101_103.out _; (with_reducible repeat (first | refine blk_drewN ?_ _ | refine blk_drew ?_ | refine blk_alloc ?_ _)); refine blk_far ?_ NB101_103.out _; (with_reducible repeat (first | refine blk_drewN ?_ _ | refine blk_drew ?_ | refine blk_alloc ?_ _)); refine blk_far ?_ NB101_103.out _; (with_reducible repeat (first | refine blk_drewN ?_ _ | refine blk_drew ?_ | refine blk_alloc ?_ _)); refine blk_far ?_ NB101_103.out _; (with_reducible repeat (first | refine blk_drewN ?_ _ | refine blk_drew ?_ | refine blk_alloc ?_ _)); refine blk_far ?_ NB101_103.out _; (with_reducible repeat (first | refine blk_drewN ?_ _ | refine blk_drew ?_ | refine blk_alloc ?_ _)); refine blk_far ?_ NB101_103.out _; (with_reducible repeat (first | refine blk_drewN ?_ _ | refine blk_drew ?_ | refine blk_alloc ?_ _)); refine blk_far ?_ NB101_103.out _; (with_reducible repeat (first | refine blk_drewN ?_ _ | refine blk_drew ?_ | refine blk_alloc ?_ _)); exact BK101.out) hg (by simp [Value.ownBlock])); have n1_ := Aside0.mk (blk_grown (g := gb102) (o := .cells #[.string (⟨#[]⟩ : ByteArray), .int .i64 0, .bool false, .int .i64 0, .int .u64 0, .float .f64 0, .string (⟨#[]⟩ : ByteArray), .slice none 0 0] 43 (0, 0)) (by (with_reducible repeat (first | refine blk_drewN ?_ _ | refine blk_drew ?_ | refine blk_alloc ?_ _)); refine blk_far ?_ NB102_103.out _; (with_reducible repeat (first | refine blk_drewN ?_ _ | refine blk_drew ?_ | refine blk_alloc ?_ _)); refine blk_far ?_ NB102_103.out _; (with_reducible repeat (first | refine blk_drewN ?_ _ | refine blk_drew ?_ | refine blk_alloc ?_ _)); refine blk_far ?_ NB102_103.out _; (with_reducible repeat (first | refine blk_drewN ?_ _ | refine blk_drew ?_ | refine blk_alloc ?_ _)); refine blk_far ?_ NB102_103.out _; (with_reducible repeat (first | refine blk_drewN ?_ _ | refine blk_drew ?_ | refine blk_alloc ?_ _)); refine blk_far ?_ NB102_103.out _; (with_reducible repeat (first | refine blk_drewN ?_ _ | refine blk_drew ?_ | refine blk_alloc ?_ _)); refine blk_far ?_ NB102_103.out _; (with_reducible repeat (first | refine blk_drewN ?_ _ | refine blk_drew ?_ | refine blk_alloc ?_ _)); refine blk_far ?_ NB102_103.out _; (with_reducible repeat (first | refine blk_drewN ?_ _ | refine blk_drew ?_ | refine blk_alloc ?_ _)); refine blk_far ?_ NB102_103.out _; (with_reducible repeat (first | refine blk_drewN ?_ _ | refine blk_drew ?_ | refine blk_alloc ?_ _)); exact BK102.out) hg (by simp [Value.ownBlock])); have n2_ := Aside0.mk (blk_grown (g := gb103) (o := .cells #[.string a0, .int .i64 8, .bool false, .int .i64 0, .int .u64 0, .float .f64 0, .string (⟨#[]⟩ : ByteArray), .slice none 0 0] 43 (0, 0)) (by (with_reducible repeat (first | refine blk_drewN ?_ _ | refine blk_drew ?_ | refine blk_alloc ?_ _)); refine blk_put (cs := #[.string a0, .int .i64 8, .bool false, .int .i64 0, .int .u64 0, .float .f64 0, .string (⟨#[]⟩ : ByteArray), .slice none 0 0]) ?_ 7 _ rfl; (with_reducible repeat (first | refine blk_drewN ?_ _ | refine blk_drew ?_ | refine blk_alloc ?_ _)); refine blk_put (cs := #[.string a0, .int .i64 8, .bool false, .int .i64 0, .int .u64 0, .float .f64 0, .string (⟨#[]⟩ : ByteArray), .slice none 0 0]) ?_ 6 _ rfl; (with_reducible repeat (first | refine blk_drewN ?_ _ | refine blk_drew ?_ | refine blk_alloc ?_ _)); refine blk_put (cs := #[.string a0, .int .i64 8, .bool false, .int .i64 0, .int .u64 0, .float .f64 0, .string (⟨#[]⟩ : ByteArray), .slice none 0 0]) ?_ 5 _ rfl; (with_reducible repeat (first | refine blk_drewN ?_ _ | refine blk_drew ?_ | refine blk_alloc ?_ _)); refine blk_put (cs := #[.string a0, .int .i64 8, .bool false, .int .i64 0, .int .u64 0, .float .f64 0, .string (⟨#[]⟩ : ByteArray), .slice none 0 0]) ?_ 4 _ rfl; (with_reducible repeat (first | refine blk_drewN ?_ _ | refine blk_drew ?_ | refine blk_alloc ?_ _)); refine blk_put (cs := #[.string a0, .int .i64 8, .bool false, .int .i64 0, .int .u64 0, .float .f64 0, .string (⟨#[]⟩ : ByteArray), .slice none 0 0]) ?_ 3 _ rfl; (with_reducible repeat (first | refine blk_drewN ?_ _ | refine blk_drew ?_ | refine blk_alloc ?_ _)); refine blk_put (cs := #[.string a0, .int .i64 8, .bool false, .int .i64 0, .int .u64 0, .float .f64 0, .string (⟨#[]⟩ : ByteArray), .slice none 0 0]) ?_ 2 _ rfl; (with_reducible repeat (first | refine blk_drewN ?_ _ | refine blk_drew ?_ | refine blk_alloc ?_ _)); refine blk_put (cs := #[.string a0, .int .i64 0, .bool false, .int .i64 0, .int .u64 0, .float .f64 0, .string (⟨#[]⟩ : ByteArray), .slice none 0 0]) ?_ 1 _ rfl; (with_reducible repeat (first | refine blk_drewN ?_ _ | refine blk_drew ?_ | refine blk_alloc ?_ _)); refine blk_put (cs := #[.string (⟨#[]⟩ : ByteArray), .int .i64 0, .bool false, .int .i64 0, .int .u64 0, .float .f64 0, .string (⟨#[]⟩ : ByteArray), .slice none 0 0]) ?_ 0 _ rfl; (with_reducible repeat (first | refine blk_drewN ?_ _ | refine blk_drew ?_ | refine blk_alloc ?_ _)); exact BK103.out) hg (by simp [Value.ownBlock])); have n3_ := Aside0.mk (hb); have n4_ := Aside0.mk (ho); clear BK101; clear BK102; clear BK103; clear HB; have BK101 := n0_; have BK102 := n1_; have BK103 := n2_; have HB := n3_; have HO106 := n4_; clear n0_ n1_ n2_ n3_ n4_; clear ho hb hg hat; obtain ⟨Ao16, co16, eo16⟩ := Kd.R_slice HO106.out; subst eo16; have hcz17_0 : w15.cell? ⟨gb103, 0, none⟩ = some (.string a0) := (blk_cell BK103.out 0).trans rfl; have hcz17_1 : w15.cell? ⟨gb103, 1, none⟩ = some (.int .i64 8) := (blk_cell BK103.out 1).trans rfl; have hcz17_2 : w15.cell? ⟨gb103, 2, none⟩ = some (.bool false) := (blk_cell BK103.out 2).trans rfl; have hcz17_3 : w15.cell? ⟨gb103, 3, none⟩ = some (.int .i64 0) := (blk_cell BK103.out 3).trans rfl; have hcz17_4 : w15.cell? ⟨gb103, 4, none⟩ = some (.int .u64 0) := (blk_cell BK103.out 4).trans rfl; have hcz17_5 : w15.cell? ⟨gb103, 5, none⟩ = some (.float .f64 0) := (blk_cell BK103.out 5).trans rfl; have hcz17_6 : w15.cell? ⟨gb103, 6, none⟩ = some (.string (⟨#[]⟩ : ByteArray)) := (blk_cell BK103.out 6).trans rfl; have hcz17_7 : w15.cell? ⟨gb103, 7, none⟩ = some (.slice none 0 0) := (blk_cell BK103.out 7).trans rfl; have hfz17_0 := blk_frozen BK103.out 0; have hfz17_1 := blk_frozen BK103.out 1; have hfz17_2 := blk_frozen BK103.out 2; have hfz17_3 := blk_frozen BK103.out 3; have hfz17_4 := blk_frozen BK103.out 4; have hfz17_5 := blk_frozen BK103.out 5; have hfz17_6 := blk_frozen BK103.out 6; have hfz17_7 := blk_frozen BK103.out 7; have hcz18_0 : w15.cell? ⟨gb101, 0, none⟩ = some (.string a1_0) := (blk_cell BK101.out 0).trans rfl; have hcz18_1 : w15.cell? ⟨gb101, 1, none⟩ = some (.int .u64 a1_1) := (blk_cell BK101.out 1).trans rfl; have hcz18_2 : w15.cell? ⟨gb101, 2, none⟩ = some (.int .u64 a1_2) := (blk_cell BK101.out 2).trans rfl; have hcz18_3 : w15.cell? ⟨gb101, 3, none⟩ = some (.int .u64 a1_3) := (blk_cell BK101.out 3).trans rfl; have hfz18_0 := blk_frozen BK101.out 0; have hfz18_1 := blk_frozen BK101.out 1; have hfz18_2 := blk_frozen BK101.out 2; have hfz18_3 := blk_frozen BK101.out 3) | ((with_reducible refine gate_builtin (b := .append) (xs := #[.tmp 17, .tmp 21]) rfl ?_); at_builtin; refine Kd.R_append k43 (w0 := w) w.heap.size rfl (.tmp 17) (.tmp 21) 41 43 (.agg #[(.string ⟨#[]⟩), (.int .i64 0), (.bool false), (.int .i64 0), (.int .u64 0), (.float .f64 0), (.string ⟨#[]⟩), (.slice none 0 0)]) 96 rfl Tryz.underlying41 info43 rfl (by decide) (by omega) (.slice Ao16 y104.length co16) y104 (⟨(⟨#[82, 117, 110, 110, 105, 110, 103, 78, 97, 110, 111, 115, 101, 99, 111, 110, 100, 115]⟩ : ByteArray), 3, false, 0, a1_1, 0, (⟨#[]⟩ : ByteArray), ([] : List (S43))⟩ : S43) [.string (⟨#[82, 117, 110, 110, 105, 110, 103, 78, 97, 110, 111, 115, 101, 99, 111, 110, 100, 115]⟩ : ByteArray), .int .i64 3, .bool false, .int .i64 0, .int .u64 a1_1, .float .f64 0, .string (⟨#[]⟩ : ByteArray), .slice none 0 0] (fun k_ => k_ ≠ gb102 ∧ k_ ≠ gb103) (fun k_ => ((fun k_ => k_ ≠ gb102 ∧ k_ ≠ gb103)) k_ ∧ some k_ ≠ (.slice Ao16 y104.length co16 : Value).ownBlock) rfl (by first | (go_simp; done) | (go_simp; rfl)) ?aP (fun _ hk => hk) ?aF ?aO ?aB ?aS ?aL ?_; (case aP => exact k43_mkM _ _ _ (⟨(⟨#[82, 117, 110, 110, 105, 110, 103, 78, 97, 110, 111, 115, 101, 99, 111, 110, 100, 115]⟩ : ByteArray), 3, false, 0, a1_1, 0, (⟨#[]⟩ : ByteArray), ([] : List (S43))⟩ : S43) (Kd.R_nil _ _ _ _ _)); (case aB => exact (by repeat (first | (with_reducible first | exact HB.out | apply below_alloc | apply pw_below_drewN | apply below_drew1 | refine below_set ?_ GE101.out | refine below_set ?_ GE102.out | refine below_set ?_ GE103.out) | exact HB.out))); (case aF => exact (fun k_ hk => ⟨Kd.freshB (g := gb102) (o := .cells #[.string (⟨#[]⟩ : ByteArray), .int .i64 0, .bool false, .int .i64 0, .int .u64 0, .float .f64 0, .string (⟨#[]⟩ : ByteArray), .slice none 0 0] 43 (0, 0)) (by (with_reducible repeat (first | refine blk_drewN ?_ _ | refine blk_drew ?_ | refine blk_alloc ?_ _)); refine blk_far ?_ NB102_103.out _; (with_reducible repeat (first | refine blk_drewN ?_ _ | refine blk_drew ?_ | refine blk_alloc ?_ _)); exact BK102.out) k_ hk, Kd.freshB (g := gb103) (o := .cells #[.string a0, .int .i64 8, .bool false, .int .i64 0, .int .u64 0, .float .f64 0, .string (⟨#[]⟩ : ByteArray), .slice Ao16 y104.length co16] 43 (0, 0)) (by (with_reducible repeat (first | refine blk_drewN ?_ _ | refine blk_drew ?_ | refine blk_alloc ?_ _)); refine blk_put (cs := #[.string a0, .int .i64 8, .bool false, .int .i64 0, .int .u64 0, .float .f64 0, .string (⟨#[]⟩ : ByteArray), .slice none 0 0]) ?_ 7 _ rfl; (with_reducible repeat (first | refine blk_drewN ?_ _ | refine blk_drew ?_ | refine blk_alloc ?_ _)); exact BK103.out) k_ hk⟩)); (case aO => exact (by (with_reducible repeat (first | apply Kd.R_alloc | apply Kd.R_drewN | apply Kd.R_drew)); exact Kd.R_mono (Kd.R_far (p := ⟨gb103, 7, none⟩) (Kd.R_mono HO106.out (fun k_ hk => (⟨hk, hk.2⟩ : _ ∧ k_ ≠ gb103))) (fun _ hk => hk.2) (.slice Ao16 y104.length co16)) (fun _ hk => ⟨hk.1.1, hk.1.2⟩))); (case aS => exact (below_size (by repeat (first | (with_reducible first | exact HB.out | apply below_alloc | apply pw_below_drewN | apply below_drew1 | refine below_set ?_ GE101.out | refine below_set ?_ GE102.out | refine below_set ?_ GE103.out) | exact HB.out)))); (case aL => have := LMc4.out; omega); intro v108 w19 ho hb hg hat; rw [← Ny107.out] at ho; have n0_ := Aside0.mk (blk_grown (g := gb101) (o := .cells #[.string a1_0, .int .u64 a1_1, .int .u64 a1_2, .int .u64 a1_3] 196 (0, 0)) (by (with_reducible repeat (first | refine blk_drewN ?_ _ | refine blk_drew ?_ | refine blk_alloc ?_ _)); refine blk_far ?_ NB101_103.out _; (with_reducible repeat (first | refine blk_drewN ?_ _ | refine blk_drew ?_ | refine blk_alloc ?_ _)); exact BK101.out) hg (Kd.R_ne HO106.out BK101.out (by decide))); have n1_ := Aside0.mk (blk_grown (g := gb102) (o := .cells #[.string (⟨#[]⟩ : ByteArray), .int .i64 0, .bool false, .int .i64 0, .int .u64 0, .float .f64 0, .string (⟨#[]⟩ : ByteArray), .slice none 0 0] 43 (0, 0)) (by (with_reducible repeat (first | refine blk_drewN ?_ _ | refine blk_drew ?_ | refine blk_alloc ?_ _)); refine blk_far ?_ NB102_103.out _; (with_reducible repeat (first | refine blk_drewN ?_ _ | refine blk_drew ?_ | refine blk_alloc ?_ _)); exact BK102.out) hg (Kd.R_away HO106.out (fun _ hk => hk.1))); have n2_ := Aside0.mk (blk_grown (g := gb103) (o := .cells #[.string a0, .int .i64 8, .bool false, .int .i64 0, .int .u64 0, .float .f64 0, .string (⟨#[]⟩ : ByteArray), .slice Ao16 y104.length co16] 43 (0, 0)) (by (with_reducible repeat (first | refine blk_drewN ?_ _ | refine blk_drew ?_ | refine blk_alloc ?_ _)); refine blk_put (cs := #[.string a0, .int .i64 8, .bool false, .int .i64 0, .int .u64 0, .float .f64 0, .string (⟨#[]⟩ : ByteArray), .slice none 0 0]) ?_ 7 _ rfl; (with_reducible repeat (first | refine blk_drewN ?_ _ | refine blk_drew ?_ | refine blk_alloc ?_ _)); exact BK103.out) hg (Kd.R_away HO106.out (fun _ hk => hk.2))); have n3_ := Aside0.mk (hb); have n4_ := Aside0.mk (ho); clear BK101; clear BK102; clear BK103; clear HB; clear HO106; have BK101 := n0_; have BK102 := n1_; have BK103 := n2_; have HB := n3_; have HO109 := n4_; clear n0_ n1_ n2_ n3_ n4_; clear ho hb hg hat; obtain ⟨Ao20, co20, eo20⟩ := Kd.R_slice HO109.out; subst eo20; have hcz21_0 : w19.cell? ⟨gb103, 0, none⟩ = some (.string a0) := (blk_cell BK103.out 0).trans rfl; have hcz21_1 : w19.cell? ⟨gb103, 1, none⟩ = some (.int .i64 8) := (blk_cell BK103.out 1).trans rfl; have hcz21_2 : w19.cell? ⟨gb103, 2, none⟩ = some (.bool false) := (blk_cell BK103.out 2).trans rfl; have hcz21_3 : w19.cell? ⟨gb103, 3, none⟩ = some (.int .i64 0) := (blk_cell BK103.out 3).trans rfl; have hcz21_4 : w19.cell? ⟨gb103, 4, none⟩ = some (.int .u64 0) := (blk_cell BK103.out 4).trans rfl; have hcz21_5 : w19.cell? ⟨gb103, 5, none⟩ = some (.float .f64 0) := (blk_cell BK103.out 5).trans rfl; have hcz21_6 : w19.cell? ⟨gb103, 6, none⟩ = some (.string (⟨#[]⟩ : ByteArray)) := (blk_cell BK103.out 6).trans rfl; have hcz21_7 : w19.cell? ⟨gb103, 7, none⟩ = some (.slice Ao16 y104.length co16) := (blk_cell BK103.out 7).trans rfl; have hfz21_0 := blk_frozen BK103.out 0; have hfz21_1 := blk_frozen BK103.out 1; have hfz21_2 := blk_frozen BK103.out 2; have hfz21_3 := blk_frozen BK103.out 3; have hfz21_4 := blk_frozen BK103.out 4; have hfz21_5 := blk_frozen BK103.out 5; have hfz21_6 := blk_frozen BK103.out 6; have hfz21_7 := blk_frozen BK103.out 7; have hcz22_0 : w19.cell? ⟨gb101, 0, none⟩ = some (.string a1_0) := (blk_cell BK101.out 0).trans rfl; have hcz22_1 : w19.cell? ⟨gb101, 1, none⟩ = some (.int .u64 a1_1) := (blk_cell BK101.out 1).trans rfl; have hcz22_2 : w19.cell? ⟨gb101, 2, none⟩ = some (.int .u64 a1_2) := (blk_cell BK101.out 2).trans rfl; have hcz22_3 : w19.cell? ⟨gb101, 3, none⟩ = some (.int .u64 a1_3) := (blk_cell BK101.out 3).trans rfl; have hfz22_0 := blk_frozen BK101.out 0; have hfz22_1 := blk_frozen BK101.out 1; have hfz22_2 := blk_frozen BK101.out 2; have hfz22_3 := blk_frozen BK101.out 3) | ((with_reducible refine gate_builtin (b := .append) (xs := #[.tmp 25, .tmp 29]) rfl ?_); at_builtin; refine Kd.R_append k43 (w0 := w) w.heap.size rfl (.tmp 25) (.tmp 29) 41 43 (.agg #[(.string ⟨#[]⟩), (.int .i64 0), (.bool false), (.int .i64 0), (.int .u64 0), (.float .f64 0), (.string ⟨#[]⟩), (.slice none 0 0)]) 96 rfl Tryz.underlying41 info43 rfl (by decide) (by omega) (.slice Ao20 y107.length co20) y107 (⟨(⟨#[87, 97, 105, 116, 105, 110, 103, 78, 97, 110, 111, 115, 101, 99, 111, 110, 100, 115]⟩ : ByteArray), 3, false, 0, a1_2, 0, (⟨#[]⟩ : ByteArray), ([] : List (S43))⟩ : S43) [.string (⟨#[87, 97, 105, 116, 105, 110, 103, 78, 97, 110, 111, 115, 101, 99, 111, 110, 100, 115]⟩ : ByteArray), .int .i64 3, .bool false, .int .i64 0, .int .u64 a1_2, .float .f64 0, .string (⟨#[]⟩ : ByteArray), .slice none 0 0] (fun k_ => k_ ≠ gb102 ∧ k_ ≠ gb103) (fun k_ => ((fun k_ => k_ ≠ gb102 ∧ k_ ≠ gb103)) k_ ∧ some k_ ≠ (.slice Ao20 y107.length co20 : Value).ownBlock) rfl (by first | (go_simp; done) | (go_simp; rfl)) ?aP (fun _ hk => hk) ?aF ?aO ?aB ?aS ?aL ?_; (case aP => exact k43_mkM _ _ _ (⟨(⟨#[87, 97, 105, 116, 105, 110, 103, 78, 97, 110, 111, 115, 101, 99, 111, 110, 100, 115]⟩ : ByteArray), 3, false, 0, a1_2, 0, (⟨#[]⟩ : ByteArray), ([] : List (S43))⟩ : S43) (Kd.R_nil _ _ _ _ _)); (case aB => exact (by repeat (first | (with_reducible first | exact HB.out | apply below_alloc | apply pw_below_drewN | apply below_drew1 | refine below_set ?_ GE101.out | refine below_set ?_ GE102.out | refine below_set ?_ GE103.out) | exact HB.out))); (case aF => exact (fun k_ hk => ⟨Kd.freshB (g := gb102) (o := .cells #[.string (⟨#[]⟩ : ByteArray), .int .i64 0, .bool false, .int .i64 0, .int .u64 0, .float .f64 0, .string (⟨#[]⟩ : ByteArray), .slice none 0 0] 43 (0, 0)) (by (with_reducible repeat (first | refine blk_drewN ?_ _ | refine blk_drew ?_ | refine blk_alloc ?_ _)); refine blk_far ?_ NB102_103.out _; (with_reducible repeat (first | refine blk_drewN ?_ _ | refine blk_drew ?_ | refine blk_alloc ?_ _)); exact BK102.out) k_ hk, Kd.freshB (g := gb103) (o := .cells #[.string a0, .int .i64 8, .bool false, .int .i64 0, .int .u64 0, .float .f64 0, .string (⟨#[]⟩ : ByteArray), .slice Ao20 y107.length co20] 43 (0, 0)) (by (with_reducible repeat (first | refine blk_drewN ?_ _ | refine blk_drew ?_ | refine blk_alloc ?_ _)); refine blk_put (cs := #[.string a0, .int .i64 8, .bool false, .int .i64 0, .int .u64 0, .float .f64 0, .string (⟨#[]⟩ : ByteArray), .slice Ao16 y104.length co16]) ?_ 7 _ rfl; (with_reducible repeat (first | refine blk_drewN ?_ _ | refine blk_drew ?_ | refine blk_alloc ?_ _)); exact BK103.out) k_ hk⟩)); (case aO => exact (by (with_reducible repeat (first | apply Kd.R_alloc | apply Kd.R_drewN | apply Kd.R_drew)); exact Kd.R_mono (Kd.R_far (p := ⟨gb103, 7, none⟩) (Kd.R_mono HO109.out (fun k_ hk => (⟨hk, hk.2⟩ : _ ∧ k_ ≠ gb103))) (fun _ hk => hk.2) (.slice Ao20 y107.length co20)) (fun _ hk => ⟨hk.1.1, hk.1.2⟩))); (case aS => exact (below_size (by repeat (first | (with_reducible first | exact HB.out | apply below_alloc | apply pw_below_drewN | apply below_drew1 | refine below_set ?_ GE101.out | refine below_set ?_ GE102.out | refine below_set ?_ GE103.out) | exact HB.out)))); (case aL => have := LMc5.out; omega); intro v111 w23 ho hb hg hat; rw [← Ny110.out] at ho; have n0_ := Aside0.mk (blk_grown (g := gb101) (o := .cells #[.string a1_0, .int .u64 a1_1, .int .u64 a1_2, .int .u64 a1_3] 196 (0, 0)) (by (with_reducible repeat (first | refine blk_drewN ?_ _ | refine blk_drew ?_ | refine blk_alloc ?_ _)); refine blk_far ?_ NB101_103.out _; (with_reducible repeat (first | refine blk_drewN ?_ _ | refine blk_drew ?_ | refine blk_alloc ?_ _)); exact BK101.out) hg (Kd.R_ne HO109.out BK101.out (by decide))); have n1_ := Aside0.mk (blk_grown (g := gb102) (o := .cells #[.string (⟨#[]⟩ : ByteArray), .int .i64 0, .bool false, .int .i64 0, .int .u64 0, .float .f64 0, .string (⟨#[]⟩ : ByteArray), .slice none 0 0] 43 (0, 0)) (by (with_reducible repeat (first | refine blk_drewN ?_ _ | refine blk_drew ?_ | refine blk_alloc ?_ _)); refine blk_far ?_ NB102_103.out _; (with_reducible repeat (first | refine blk_drewN ?_ _ | refine blk_drew ?_ | refine blk_alloc ?_ _)); exact BK102.out) hg (Kd.R_away HO109.out (fun _ hk => hk.1))); have n2_ := Aside0.mk (blk_grown (g := gb103) (o := .cells #[.string a0, .int .i64 8, .bool false, .int .i64 0, .int .u64 0, .float .f64 0, .string (⟨#[]⟩ : ByteArray), .slice Ao20 y107.length co20] 43 (0, 0)) (by (with_reducible repeat (first | refine blk_drewN ?_ _ | refine blk_drew ?_ | refine blk_alloc ?_ _)); refine blk_put (cs := #[.string a0, .int .i64 8, .bool false, .int .i64 0, .int .u64 0, .float .f64 0, .string (⟨#[]⟩ : ByteArray), .slice Ao16 y104.length co16]) ?_ 7 _ rfl; (with_reducible repeat (first | refine blk_drewN ?_ _ | refine blk_drew ?_ | refine blk_alloc ?_ _)); exact BK103.out) hg (Kd.R_away HO109.out (fun _ hk => hk.2))); have n3_ := Aside0.mk (hb); have n4_ := Aside0.mk (ho); clear BK101; clear BK102; clear BK103; clear HB; clear HO109; have BK101 := n0_; have BK102 := n1_; have BK103 := n2_; have HB := n3_; have HO112 := n4_; clear n0_ n1_ n2_ n3_ n4_; clear ho hb hg hat; obtain ⟨Ao24, co24, eo24⟩ := Kd.R_slice HO112.out; subst eo24; have hcz25_0 : w23.cell? ⟨gb103, 0, none⟩ = some (.string a0) := (blk_cell BK103.out 0).trans rfl; have hcz25_1 : w23.cell? ⟨gb103, 1, none⟩ = some (.int .i64 8) := (blk_cell BK103.out 1).trans rfl; have hcz25_2 : w23.cell? ⟨gb103, 2, none⟩ = some (.bool false) := (blk_cell BK103.out 2).trans rfl; have hcz25_3 : w23.cell? ⟨gb103, 3, none⟩ = some (.int .i64 0) := (blk_cell BK103.out 3).trans rfl; have hcz25_4 : w23.cell? ⟨gb103, 4, none⟩ = some (.int .u64 0) := (blk_cell BK103.out 4).trans rfl; have hcz25_5 : w23.cell? ⟨gb103, 5, none⟩ = some (.float .f64 0) := (blk_cell BK103.out 5).trans rfl; have hcz25_6 : w23.cell? ⟨gb103, 6, none⟩ = some (.string (⟨#[]⟩ : ByteArray)) := (blk_cell BK103.out 6).trans rfl; have hcz25_7 : w23.cell? ⟨gb103, 7, none⟩ = some (.slice Ao20 y107.length co20) := (blk_cell BK103.out 7).trans rfl; have hfz25_0 := blk_frozen BK103.out 0; have hfz25_1 := blk_frozen BK103.out 1; have hfz25_2 := blk_frozen BK103.out 2; have hfz25_3 := blk_frozen BK103.out 3; have hfz25_4 := blk_frozen BK103.out 4; have hfz25_5 := blk_frozen BK103.out 5; have hfz25_6 := blk_frozen BK103.out 6; have hfz25_7 := blk_frozen BK103.out 7; have hcz26_0 : w23.cell? ⟨gb101, 0, none⟩ = some (.string a1_0) := (blk_cell BK101.out 0).trans rfl; have hcz26_1 : w23.cell? ⟨gb101, 1, none⟩ = some (.int .u64 a1_1) := (blk_cell BK101.out 1).trans rfl; have hcz26_2 : w23.cell? ⟨gb101, 2, none⟩ = some (.int .u64 a1_2) := (blk_cell BK101.out 2).trans rfl; have hcz26_3 : w23.cell? ⟨gb101, 3, none⟩ = some (.int .u64 a1_3) := (blk_cell BK101.out 3).trans rfl; have hfz26_0 := blk_frozen BK101.out 0; have hfz26_1 := blk_frozen BK101.out 1; have hfz26_2 := blk_frozen BK101.out 2; have hfz26_3 := blk_frozen BK101.out 3) | ((with_reducible refine gate_builtin (b := .append) (xs := #[.tmp 33, .tmp 37]) rfl ?_); at_builtin; refine Kd.R_append k43 (w0 := w) w.heap.size rfl (.tmp 33) (.tmp 37) 41 43 (.agg #[(.string ⟨#[]⟩), (.int .i64 0), (.bool false), (.int .i64 0), (.int .u64 0), (.float .f64 0), (.string ⟨#[]⟩), (.slice none 0 0)]) 96 rfl Tryz.underlying41 info43 rfl (by decide) (by omega) (.slice Ao24 y110.length co24) y110 (⟨(⟨#[82, 117, 110, 84, 105, 109, 101, 115, 108, 105, 99, 101, 115]⟩ : ByteArray), 3, false, 0, a1_3, 0, (⟨#[]⟩ : ByteArray), ([] : List (S43))⟩ : S43) [.string (⟨#[82, 117, 110, 84, 105, 109, 101, 115, 108, 105, 99, 101, 115]⟩ : ByteArray), .int .i64 3, .bool false, .int .i64 0, .int .u64 a1_3, .float .f64 0, .string (⟨#[]⟩ : ByteArray), .slice none 0 0] (fun k_ => k_ ≠ gb102 ∧ k_ ≠ gb103) (fun k_ => ((fun k_ => k_ ≠ gb102 ∧ k_ ≠ gb103)) k_ ∧ some k_ ≠ (.slice Ao24 y110.length co24 : Value).ownBlock) rfl (by first | (go_simp; done) | (go_simp; rfl)) ?aP (fun _ hk => hk) ?aF ?aO ?aB ?aS ?aL ?_; (case aP => exact k43_mkM _ _ _ (⟨(⟨#[82, 117, 110, 84, 105, 109, 101, 115, 108, 105, 99, 101, 115]⟩ : ByteArray), 3, false, 0, a1_3, 0, (⟨#[]⟩ : ByteArray), ([] : List (S43))⟩ : S43) (Kd.R_nil _ _ _ _ _)); (case aB => exact (by repeat (first | (with_reducible first | exact HB.out | apply below_alloc | apply pw_below_drewN | apply below_drew1 | refine below_set ?_ GE101.out | refine below_set ?_ GE102.out | refine below_set ?_ GE103.out) | exact HB.out))); (case aF => exact (fun k_ hk => ⟨Kd.freshB (g := gb102) (o := .cells #[.string (⟨#[]⟩ : ByteArray), .int .i64 0, .bool false, .int .i64 0, .int .u64 0, .float .f64 0, .string (⟨#[]⟩ : ByteArray), .slice none 0 0] 43 (0, 0)) (by (with_reducible repeat (first | refine blk_drewN ?_ _ | refine blk_drew ?_ | refine blk_alloc ?_ _)); refine blk_far ?_ NB102_103.out _; (with_reducible repeat (first | refine blk_drewN ?_ _ | refine blk_drew ?_ | refine blk_alloc ?_ _)); exact BK102.out) k_ hk, Kd.freshB (g := gb103) (o := .cells #[.string a0, .int .i64 8, .bool false, .int .i64 0, .int .u64 0, .float .f64 0, .string (⟨#[]⟩ : ByteArray), .slice Ao24 y110.length co24] 43 (0, 0)) (by (with_reducible repeat (first | refine blk_drewN ?_ _ | refine blk_drew ?_ | refine blk_alloc ?_ _)); refine blk_put (cs := #[.string a0, .int .i64 8, .bool false, .int .i64 0, .int .u64 0, .float .f64 0, .string (⟨#[]⟩ : ByteArray), .slice Ao20 y107.length co20]) ?_ 7 _ rfl; (with_reducible repeat (first | refine blk_drewN ?_ _ | refine blk_drew ?_ | refine blk_alloc ?_ _)); exact BK103.out) k_ hk⟩)); (case aO => exact (by (with_reducible repeat (first | apply Kd.R_alloc | apply Kd.R_drewN | apply Kd.R_drew)); exact Kd.R_mono (Kd.R_far (p := ⟨gb103, 7, none⟩) (Kd.R_mono HO112.out (fun k_ hk => (⟨hk, hk.2⟩ : _ ∧ k_ ≠ gb103))) (fun _ hk => hk.2) (.slice Ao24 y110.length co24)) (fun _ hk => ⟨hk.1.1, hk.1.2⟩))); (case aS => exact (below_size (by repeat (first | (with_reducible first | exact HB.out | apply below_alloc | apply pw_below_drewN | apply below_drew1 | refine below_set ?_ GE101.out | refine below_set ?_ GE102.out | refine below_set ?_ GE103.out) | exact HB.out)))); (case aL => have := LMc6.out; omega); intro v114 w27 ho hb hg hat; rw [← Ny113.out] at ho; have n0_ := Aside0.mk (blk_grown (g := gb101) (o := .cells #[.string a1_0, .int .u64 a1_1, .int .u64 a1_2, .int .u64 a1_3] 196 (0, 0)) (by (with_reducible repeat (first | refine blk_drewN ?_ _ | refine blk_drew ?_ | refine blk_alloc ?_ _)); refine blk_far ?_ NB101_103.out _; (with_reducible repeat (first | refine blk_drewN ?_ _ | refine blk_drew ?_ | refine blk_alloc ?_ _)); exact BK101.out) hg (Kd.R_ne HO112.out BK101.out (by decide))); have n1_ := Aside0.mk (blk_grown (g := gb102) (o := .cells #[.string (⟨#[]⟩ : ByteArray), .int .i64 0, .bool false, .int .i64 0, .int .u64 0, .float .f64 0, .string (⟨#[]⟩ : ByteArray), .slice none 0 0] 43 (0, 0)) (by (with_reducible repeat (first | refine blk_drewN ?_ _ | refine blk_drew ?_ | refine blk_alloc ?_ _)); refine blk_far ?_ NB102_103.out _; (with_reducible repeat (first | refine blk_drewN ?_ _ | refine blk_drew ?_ | refine blk_alloc ?_ _)); exact BK102.out) hg (Kd.R_away HO112.out (fun _ hk => hk.1))); have n2_ := Aside0.mk (blk_grown (g := gb103) (o := .cells #[.string a0, .int .i64 8, .bool false, .int .i64 0, .int .u64 0, .float .f64 0, .string (⟨#[]⟩ : ByteArray), .slice Ao24 y110.length co24] 43 (0, 0)) (by (with_reducible repeat (first | refine blk_drewN ?_ _ | refine blk_drew ?_ | refine blk_alloc ?_ _)); refine blk_put (cs := #[.string a0, .int .i64 8, .bool false, .int .i64 0, .int .u64 0, .float .f64 0, .string (⟨#[]⟩ : ByteArray), .slice Ao20 y107.length co20]) ?_ 7 _ rfl; (with_reducible repeat (first | refine blk_drewN ?_ _ | refine blk_drew ?_ | refine blk_alloc ?_ _)); exact BK103.out) hg (Kd.R_away HO112.out (fun _ hk => hk.2))); have n3_ := Aside0.mk (hb); have n4_ := Aside0.mk (ho); clear BK101; clear BK102; clear BK103; clear HB; clear HO112; have BK101 := n0_; have BK102 := n1_; have BK103 := n2_; have HB := n3_; have HO115 := n4_; clear n0_ n1_ n2_ n3_ n4_; clear ho hb hg hat; obtain ⟨Ao28, co28, eo28⟩ := Kd.R_slice HO115.out; subst eo28; have hcz29_0 : w27.cell? ⟨gb103, 0, none⟩ = some (.string a0) := (blk_cell BK103.out 0).trans rfl; have hcz29_1 : w27.cell? ⟨gb103, 1, none⟩ = some (.int .i64 8) := (blk_cell BK103.out 1).trans rfl; have hcz29_2 : w27.cell? ⟨gb103, 2, none⟩ = some (.bool false) := (blk_cell BK103.out 2).trans rfl; have hcz29_3 : w27.cell? ⟨gb103, 3, none⟩ = some (.int .i64 0) := (blk_cell BK103.out 3).trans rfl; have hcz29_4 : w27.cell? ⟨gb103, 4, none⟩ = some (.int .u64 0) := (blk_cell BK103.out 4).trans rfl; have hcz29_5 : w27.cell? ⟨gb103, 5, none⟩ = some (.float .f64 0) := (blk_cell BK103.out 5).trans rfl; have hcz29_6 : w27.cell? ⟨gb103, 6, none⟩ = some (.string (⟨#[]⟩ : ByteArray)) := (blk_cell BK103.out 6).trans rfl; have hcz29_7 : w27.cell? ⟨gb103, 7, none⟩ = some (.slice Ao24 y110.length co24) := (blk_cell BK103.out 7).trans rfl; have hfz29_0 := blk_frozen BK103.out 0; have hfz29_1 := blk_frozen BK103.out 1; have hfz29_2 := blk_frozen BK103.out 2; have hfz29_3 := blk_frozen BK103.out 3; have hfz29_4 := blk_frozen BK103.out 4; have hfz29_5 := blk_frozen BK103.out 5; have hfz29_6 := blk_frozen BK103.out 6; have hfz29_7 := blk_frozen BK103.out 7; have hcz30_0 : w27.cell? ⟨gb102, 0, none⟩ = some (.string (⟨#[]⟩ : ByteArray)) := (blk_cell BK102.out 0).trans rfl; have hcz30_1 : w27.cell? ⟨gb102, 1, none⟩ = some (.int .i64 0) := (blk_cell BK102.out 1).trans rfl; have hcz30_2 : w27.cell? ⟨gb102, 2, none⟩ = some (.bool false) := (blk_cell BK102.out 2).trans rfl; have hcz30_3 : w27.cell? ⟨gb102, 3, none⟩ = some (.int .i64 0) := (blk_cell BK102.out 3).trans rfl; have hcz30_4 : w27.cell? ⟨gb102, 4, none⟩ = some (.int .u64 0) := (blk_cell BK102.out 4).trans rfl; have hcz30_5 : w27.cell? ⟨gb102, 5, none⟩ = some (.float .f64 0) := (blk_cell BK102.out 5).trans rfl; have hcz30_6 : w27.cell? ⟨gb102, 6, none⟩ = some (.string (⟨#[]⟩ : ByteArray)) := (blk_cell BK102.out 6).trans rfl; have hcz30_7 : w27.cell? ⟨gb102, 7, none⟩ = some (.slice none 0 0) := (blk_cell BK102.out 7).trans rfl; have hfz30_0 := blk_frozen BK102.out 0; have hfz30_1 := blk_frozen BK102.out 1; have hfz30_2 := blk_frozen BK102.out 2; have hfz30_3 := blk_frozen BK102.out 3; have hfz30_4 := blk_frozen BK102.out 4; have hfz30_5 := blk_frozen BK102.out 5; have hfz30_6 := blk_frozen BK102.out 6; have hfz30_7 := blk_frozen BK102.out 7))
 refine bodyPost_ret (results_cell_row rfl _ _ gb102 43 #[.string a0, .int .i64 8, .bool false, .int .i64 0, .int .u64 0, .float .f64 0, .string (⟨#[]⟩ : ByteArray), .slice Ao28 y113.length co28] (0, 0) _ rfl (by (with_reducible repeat (first | refine blk_drewN ?_ _ | refine blk_drew ?_ | refine blk_alloc ?_ _)); refine blk_put (cs := #[.string a0, .int .i64 8, .bool false, .int .i64 0, .int .u64 0, .float .f64 0, .string (⟨#[]⟩ : ByteArray), .slice none 0 0]) ?_ 7 _ rfl; (with_reducible repeat (first | refine blk_drewN ?_ _ | refine blk_drew ?_ | refine blk_alloc ?_ _)); refine blk_put (cs := #[.string a0, .int .i64 8, .bool false, .int .i64 0, .int .u64 0, .float .f64 0, .string (⟨#[]⟩ : ByteArray), .slice none 0 0]) ?_ 6 _ rfl; (with_reducible repeat (first | refine blk_drewN ?_ _ | refine blk_drew ?_ | refine blk_alloc ?_ _)); refine blk_put (cs := #[.string a0, .int .i64 8, .bool false, .int .i64 0, .int .u64 0, .float .f64 0, .string (⟨#[]⟩ : ByteArray), .slice none 0 0]) ?_ 5 _ rfl; (with_reducible repeat (first | refine blk_drewN ?_ _ | refine blk_drew ?_ | refine blk_alloc ?_ _)); refine blk_put (cs := #[.string a0, .int .i64 8, .bool false, .int .i64 0, .int .u64 0, .float .f64 0, .string (⟨#[]⟩ : ByteArray), .slice none 0 0]) ?_ 4 _ rfl; (with_reducible repeat (first | refine blk_drewN ?_ _ | refine blk_drew ?_ | refine blk_alloc ?_ _)); refine blk_put (cs := #[.string a0, .int .i64 8, .bool false, .int .i64 0, .int .u64 0, .float .f64 0, .string (⟨#[]⟩ : ByteArray), .slice none 0 0]) ?_ 3 _ rfl; (with_reducible repeat (first | refine blk_drewN ?_ _ | refine blk_drew ?_ | refine blk_alloc ?_ _)); refine blk_put (cs := #[.string a0, .int .i64 8, .bool false, .int .i64 0, .int .u64 0, .float .f64 0, .string (⟨#[]⟩ : ByteArray), .slice none 0 0]) ?_ 2 _ rfl; (with_reducible repeat (first | refine blk_drewN ?_ _ | refine blk_drew ?_ | refine blk_alloc ?_ _)); refine blk_put (cs := #[.string a0, .int .i64 0, .bool false, .int .i64 0, .int .u64 0, .float .f64 0, .string (⟨#[]⟩ : ByteArray), .slice none 0 0]) ?_ 1 _ rfl; (with_reducible repeat (first | refine blk_drewN ?_ _ | refine blk_drew ?_ | refine blk_alloc ?_ _)); refine blk_put (cs := #[.string (⟨#[]⟩ : ByteArray), .int .i64 0, .bool false, .int .i64 0, .int .u64 0, .float .f64 0, .string (⟨#[]⟩ : ByteArray), .slice none 0 0]) ?_ 0 _ rfl; (with_reducible repeat (first | refine blk_drewN ?_ _ | refine blk_drew ?_ | refine blk_alloc ?_ _)); refine blk_far ?_ NB102_103.out _; (with_reducible repeat (first | refine blk_drewN ?_ _ | refine blk_drew ?_ | refine blk_alloc ?_ _)); exact BK102.out) Tryz.underlying43 rfl (by kernel_rfl)) rfl ?_
 exact ⟨_, by first | rfl | (simp [errW_none, errW_some] <;> rfl) | (simp [*, errW_none, errW_some] <;> rfl), by (with_reducible repeat (first | apply Kd.R_alloc | apply Kd.R_drewN | apply Kd.R_drew)); exact Kd.R_mono (Kd.R_far (p := ⟨gb102, 7, none⟩) (Kd.R_far (p := ⟨gb102, 6, none⟩) (Kd.R_far (p := ⟨gb102, 5, none⟩) (Kd.R_far (p := ⟨gb102, 4, none⟩) (Kd.R_far (p := ⟨gb102, 3, none⟩) (Kd.R_far (p := ⟨gb102, 2, none⟩) (Kd.R_far (p := ⟨gb102, 1, none⟩) (Kd.R_far (p := ⟨gb102, 0, none⟩) (Kd.R_far (p := ⟨gb103, 7, none⟩) (Kd.R_mono (Kd.R_mono HO115.out (fun k_ hk => (⟨hk, hk.2⟩ : _ ∧ k_ ≠ gb103))) (fun k_ hk => (⟨hk, hk.1.1⟩ : _ ∧ k_ ≠ gb102))) (fun _ hk => hk.1.2) (.slice Ao28 y113.length co28)) (fun _ hk => hk.2) (.string a0)) (fun _ hk => hk.2) (.int .i64 8)) (fun _ hk => hk.2) (.bool false)) (fun _ hk => hk.2) (.int .i64 0)) (fun _ hk => hk.2) (.int .u64 0)) (fun _ hk => hk.2) (.float .f64 0)) (fun _ hk => hk.2) (.string (⟨#[]⟩ : ByteArray))) (fun _ hk => hk.2) (.slice Ao28 y113.length co28)) (fun _ hk => trivial), by repeat (first | (with_reducible first | exact HB.out | apply below_alloc | apply pw_below_drewN | apply below_drew1 | refine below_set ?_ GE101.out | refine below_set ?_ GE102.out | refine below_set ?_ GE103.out) | exact HB.out)⟩
end Go.Proofs.YtednjmngalmdkaaGreatDoor.GPC
end
section
/- A CPU's row of schedstat in memory: impl.procfsSchedstat$1$1, impl.pointer[SchedstatCPU], impl.procfsSchedstat$1. Conditions: what the plain functions answer. -/
namespace Go.Proofs.YtednjmngalmdkaaGreatDoor.GPC
open Go.RowKit Go.Proofs.YtednjmngalmdkaaGreatDoorW.PrintWords Go.Proofs.YtednjmngalmdkaaGreatDoorW.PrintLast Go.Proofs.YtednjmngalmdkaaGreatDoorW.PrintMore
set_option linter.unusedVariables false
set_option linter.unusedSimpArgs false
attribute [local go_sem] run_store_float
structure S196 where
 f0 : ByteArray
 f1 : Int
 f2 : Int
 f3 : Int
def sdCells (m : S196) : Array Value := #[.string m.f0, .int .u64 m.f1, .int .u64 m.f2, .int .u64 m.f3]
def sdObj (m : S196) : Obj := .cells (sdCells m) 196 (0, 0)
def kpSd : Kd S196 where
 sz := 1
 E := [196]
 K := fun w x cs => ∃ b, cs = [.pointer (some ⟨b, 0, none⟩)] ∧ w.heap[b]? = some (sdObj x)
 M := fun w base ok x cs => ∃ b, cs = [.pointer (some ⟨b, 0, none⟩)] ∧ w.heap[b]? = some (sdObj x) ∧ base ≤ b ∧ ok b
 K_len := by rintro w x cs ⟨b, rfl, _⟩; rfl
 K_one := by rintro w x cs ⟨b, rfl, _⟩ u hu; simp at hu; subst hu; rfl
 K_below := by rintro w w1 x cs hb ⟨b, rfl, h⟩; exact ⟨b, rfl, blk_below h hb⟩
 K_of_M := by rintro w base ok x cs ⟨b, rfl, h, _⟩; exact ⟨b, rfl, h⟩
 M_mono := by rintro w base ok ok' x cs ho ⟨b, rfl, h, h1, h2⟩; exact ⟨b, rfl, h, h1, ho _ h2⟩
 M_bound := by rintro w base ok x cs ⟨b, rfl, h, h1, h2⟩; exact ⟨b, rfl, h, h1, h2, h1, blk_lt h, 196, by simp, _, h⟩
 M_move := by rintro w w1 base ok x cs hm ⟨b, rfl, h, h1, h2⟩; exact ⟨b, rfl, (hm b h2).trans h, h1, h2⟩
 M_lower := by rintro w base base' ok x cs hb ⟨b, rfl, h, h1, h2⟩; exact ⟨b, rfl, h, Nat.le_trans hb h1, h2⟩
def zSd : S196 := ⟨⟨#[]⟩, 0, 0, 0⟩
theorem at_pSd {w : World} {A : Option Addr} {n : Nat} {xs : List S196} (h : Kd.C kpSd w A n xs) (i : Int) (h0 : 0 ≤ i) (h1 : i < n) : ∃ ad b, A = some ad ∧ w.cell? (ad.add i.toNat) = some (.pointer (some ⟨b, 0, none⟩)) ∧ w.heap[b]? = some (sdObj (rdOf zSd xs i)) := by
 obtain ⟨ad, cs, e1, hcl, ⟨b, rfl, hb⟩, hcc⟩ := Kd.C_get h zSd i h0 h1
 refine ⟨ad, b, e1, ?_, hb⟩
 have := hcc 0 _ rfl
 rwa [show i.toNat * kpSd.sz + 0 = i.toNat from by show i.toNat * 1 + 0 = i.toNat; omega] at this
def sdNode (m : S196) : Option S43 := (impl_procfsSchedstatCPU.f ⟨#[]⟩ m.f0 m.f1 m.f2 m.f3).map fun r => ⟨r.1, r.2.1, r.2.2.1, r.2.2.2.1, r.2.2.2.2.1, r.2.2.2.2.2.1, r.2.2.2.2.2.2.1, r.2.2.2.2.2.2.2⟩
theorem sd_node (m : S196) (n : S43) (w : World) (h : sdNode m = some n) : Calls Tryz.prog 163 #[.string ⟨#[]⟩, .agg #[.string m.f0, .int .u64 m.f1, .int .u64 m.f2, .int .u64 m.f3]] w fun e w' => ∃ v7, e = .returned (nodeVal n v7) ∧ KidsV n w w' v7 ∧ Below w.heap.size w w' := by
 unfold sdNode at h
 obtain ⟨⟨r1, r2, r3, r4, r5, r6, r7, r8⟩, hr, rfl⟩ := Option.map_eq_some_iff.1 h
 refine (impl_procfsSchedstatCPU.calls ⟨#[]⟩ m.f0 m.f1 m.f2 m.f3 r1 r2 r3 r4 r5 r6 r7 r8 w hr).mono ?_
 rintro e w' ⟨v7, rfl, ho, hb⟩
 exact ⟨v7, rfl, ho, hb⟩
set_option maxHeartbeats 8000000 in
set_option maxRecDepth 100000 in
theorem sdIn (m : S196) (n : S43) (w : World) (h : sdNode m = some n) :
  Calls Tryz.prog 162 #[.string ⟨#[]⟩, .agg #[.string m.f0, .int .u64 m.f1, .int .u64 m.f2, .int .u64 m.f3]] w fun e w' => ∃ v7, e = .returned (nodeVal n v7) ∧ KidsV n w w' v7 ∧ Below w.heap.size w w' := by
 have HN := Aside0.mk h
 clear h
 go_enter Tryz.func162, Tryz.ntmps162
 go_wp2_with (first
   | ((with_reducible refine gate_dst (N := 3) rfl ?_); refine box_event ?hg (N := 3) ?hd (cs := #[.string m.f0, .int .u64 m.f1, .int .u64 m.f2, .int .u64 m.f3]) (t := 196) ?hr ?_; (case hd => rfl); (case hg => rfl); (case hr => first | (go_simp; done) | (go_simp; rfl)); intro ga hga w0 hbox hb0; have HBA := Aside0.mk hbox; have HB0 := Aside0.mk hb0; clear hga hbox hb0)
   | ((with_reducible refine gate_dst (N := 4) rfl ?_); refine box_event ?hg (N := 4) ?hd (cs := nodeZero) (t := 43) ?hr ?_; (case hd => rfl); (case hg => rfl); (case hr => first | (go_simp; done) | (go_simp; rfl)); intro gb hgb w1 hbox hb1; have HBX := Aside0.mk hbox; have hG1 := blk_below HBA.out hb1; have HB1 := Aside0.mk (below_then HB0.out HB0.out.size hb1); have HGB := Aside0.mk (show w.heap.size ≤ gb by rw [hgb]; exact HB0.out.size); have h0 : w1.cell? ⟨ga, 0, none⟩ = some (.string m.f0) := (blk_cell hG1 0).trans rfl; have h1 : w1.cell? ⟨ga, 1, none⟩ = some (.int .u64 m.f1) := (blk_cell hG1 1).trans rfl; have h2 : w1.cell? ⟨ga, 2, none⟩ = some (.int .u64 m.f2) := (blk_cell hG1 2).trans rfl; have h3 : w1.cell? ⟨ga, 3, none⟩ = some (.int .u64 m.f3) := (blk_cell hG1 3).trans rfl; clear hgb hbox hb1 hG1)
   | (go_at_call 163; refine (sd_node m n _ HN.out).mono ?_; rintro e w2 ⟨v7, rfl, ho, hb⟩; have HK := Aside0.mk ho; have HBX2 := Aside0.mk (blk_below HBX.out hb); have HLT := Aside0.mk (show gb < w1.heap.size from blk_lt HBX.out); have HB2 := Aside0.mk (below_then HB1.out HB1.out.size hb); clear ho hb)
   | ((with_reducible refine gate_ (.store 43 (.tmp 4) (.tmp 7)) rfl ?_); refine box_store rfl rfl 43 (.tmp 4) (.tmp 7) rfl gb 43 nodeZero (nodeVal n v7) (nodeCells n v7) rfl rfl rfl node_size (node_one HK.out.slice) HBX2.out rfl ?_; intro W' hbk hgr))
 refine bodyPost_ret (results_cell_row rfl _ _ gb 43 _ (0, 0) _ rfl hbk Tryz.underlying43 rfl node_size) rfl ?_
 refine ⟨v7, rfl, (HK.out.grown hgr HLT.out).lower HB1.out.size, pw_below_grown HB2.out (some gb) HB2.out.size hgr (fun k e => by cases e; exact HGB.out)⟩
set_option maxHeartbeats 8000000 in
set_option maxRecDepth 100000 in
theorem ptrSd (g : Nat) (m : S196) (n : S43) (w : World) (hg : w.heap[g]? = some (sdObj m)) (h : sdNode m = some n) :
  Calls Tryz.prog 161 #[.string ⟨#[]⟩, .pointer (some ⟨g, 0, none⟩), .func (.func 162) #[] #[]] w fun e w' => ∃ v7, e = .returned (nodeVal n v7) ∧ KidsV n w w' v7 ∧ Below w.heap.size w w' := by
 have HN := Aside0.mk h
 have HG := Aside0.mk hg
 clear h hg
 go_enter Tryz.func161, Tryz.ntmps161
 go_wp2_with (first
   | ((with_reducible refine gate_dst (N := 6) rfl ?_); refine box_event ?hg (N := 6) ?hd (cs := nodeZero) (t := 43) ?hr ?_; (case hd => rfl); (case hg => rfl); (case hr => first | (go_simp; done) | (go_simp; rfl)); intro gb hgb w1 hbox hb1; have HBX := Aside0.mk hbox; have HB1 := Aside0.mk hb1; have HGB := Aside0.mk hgb; have hG1 := blk_below HG.out hb1; have h0 : w1.cell? ⟨g, 0, none⟩ = some (.string m.f0) := (blk_cell hG1 0).trans rfl; have h1 : w1.cell? ⟨g, 1, none⟩ = some (.int .u64 m.f1) := (blk_cell hG1 1).trans rfl; have h2 : w1.cell? ⟨g, 2, none⟩ = some (.int .u64 m.f2) := (blk_cell hG1 2).trans rfl; have h3 : w1.cell? ⟨g, 3, none⟩ = some (.int .u64 m.f3) := (blk_cell hG1 3).trans rfl; clear hgb hbox hb1 hG1)
   | (go_at_call 162; refine (sdIn m n _ HN.out).mono ?_; rintro e w2 ⟨v7, rfl, ho, hb⟩; have HK := Aside0.mk ho; have HBX2 := Aside0.mk (blk_below HBX.out hb); have HLT := Aside0.mk (show gb < w1.heap.size from blk_lt HBX.out); have HB2 := Aside0.mk (below_then HB1.out HB1.out.size hb); clear ho hb)
   | ((with_reducible refine gate_ (.store 43 (.tmp 6) (.tmp 16)) rfl ?_); refine box_store rfl rfl 43 (.tmp 6) (.tmp 16) rfl gb 43 nodeZero (nodeVal n v7) (nodeCells n v7) rfl rfl rfl node_size (node_one HK.out.slice) HBX2.out rfl ?_; intro W' hbk hgr))
 refine bodyPost_ret (results_cell_row rfl _ _ gb 43 _ (0, 0) _ rfl hbk Tryz.underlying43 rfl node_size) rfl ?_
 refine ⟨v7, rfl, (HK.out.grown hgr HLT.out).lower HB1.out.size, pw_below_grown HB2.out (some gb) HB2.out.size hgr (fun k e => by cases e; rw [HGB.out]; exact Nat.le_refl _)⟩
set_option maxHeartbeats 8000000 in
set_option maxRecDepth 100000 in
theorem sdFn (g : Nat) (m : S196) (n : S43) (w : World) (hg : w.heap[g]? = some (sdObj m)) (h : sdNode m = some n) :
  Calls Tryz.prog 160 #[.pointer (some ⟨g, 0, none⟩)] w fun e w' => ∃ v7, e = .returned (nodeVal n v7) ∧ KidsV n w w' v7 ∧ Below w.heap.size w w' := by
 have HN := Aside0.mk h
 have HG := Aside0.mk hg
 clear h hg
 go_enter Tryz.func160, Tryz.ntmps160
 go_wp2_with (first
   | ((with_reducible refine gate_dst (N := 2) rfl ?_); refine box_event ?hg (N := 2) ?hd (cs := nodeZero) (t := 43) ?hr ?_; (case hd => rfl); (case hg => rfl); (case hr => first | (go_simp; done) | (go_simp; rfl)); intro gb hgb w1 hbox hb1; have HBX := Aside0.mk hbox; have HB1 := Aside0.mk hb1; have HGB := Aside0.mk hgb; have HG1 := Aside0.mk (blk_below HG.out hb1); clear hgb hbox hb1)
   | (go_at_call 161; refine (ptrSd g m n _ HG1.out HN.out).mono ?_; rintro e w2 ⟨v7, rfl, ho, hb⟩; have HK := Aside0.mk ho; have HBX2 := Aside0.mk (blk_below HBX.out hb); have HLT := Aside0.mk (show gb < w1.heap.size from blk_lt HBX.out); have HB2 := Aside0.mk (below_then HB1.out HB1.out.size hb); clear ho hb)
   | ((with_reducible refine gate_ (.store 43 (.tmp 2) (.tmp 4)) rfl ?_); refine box_store rfl rfl 43 (.tmp 2) (.tmp 4) rfl gb 43 nodeZero (nodeVal n v7) (nodeCells n v7) rfl rfl rfl node_size (node_one HK.out.slice) HBX2.out rfl ?_; intro W' hbk hgr))
 refine bodyPost_ret (results_cell_row rfl _ _ gb 43 _ (0, 0) _ rfl hbk Tryz.underlying43 rfl node_size) rfl ?_
 refine ⟨v7, rfl, (HK.out.grown hgr HLT.out).lower HB1.out.size, pw_below_grown HB2.out (some gb) HB2.out.size hgr (fun k e => by cases e; rw [HGB.out]; exact Nat.le_refl _)⟩
def impl_procfsSchedstat_1.f (m : S196) : Option (ByteArray × Int × Bool × Int × Int × Nat × ByteArray × (List (S43))) := impl_procfsSchedstatCPU.f ⟨#[]⟩ m.f0 m.f1 m.f2 m.f3
theorem impl_procfsSchedstat_1.calls (g : Nat) (m : S196) (r1 : ByteArray) (r2 : Int) (r3 : Bool) (r4 : Int) (r5 : Int) (r6 : Nat) (r7 : ByteArray) (r8 : List (S43)) (w : World) (hg : w.heap[g]? = some (sdObj m)) (h : impl_procfsSchedstat_1.f m = some (r1, r2, r3, r4, r5, r6, r7, r8)) :
  Calls Tryz.prog 160 #[.pointer (some ⟨g, 0, none⟩)] w fun e w' => ∃ v7_ : Value, e = .returned (.agg #[.string r1, .int .i64 r2, .bool r3, .int .i64 r4, .int .u64 r5, .float .f64 r6, .string r7, v7_]) ∧ Kd.R k43 43 w' w.heap.size (fun _ => True) v7_ r8 ∧ Below w.heap.size w w' := by
 have hn : sdNode m = some ⟨r1, r2, r3, r4, r5, r6, r7, r8⟩ := by
  unfold sdNode
  rw [show impl_procfsSchedstatCPU.f ⟨#[]⟩ m.f0 m.f1 m.f2 m.f3 = _ from h]
  rfl
 refine (sdFn g m _ w hg hn).mono ?_
 rintro e w' ⟨v7, rfl, ho, hb⟩
 exact ⟨v7, rfl, ho, hb⟩
end Go.Proofs.YtednjmngalmdkaaGreatDoor.GPC
end
section
namespace Go.Proofs.YtednjmngalmdkaaGreatDoor.GPC
open Go.RowKit Go.Proofs.YtednjmngalmdkaaGreatDoorW.PrintWords Go.Proofs.YtednjmngalmdkaaGreatDoorW.PrintLast Go.Proofs.YtednjmngalmdkaaGreatDoorW.PrintMore
attribute [local go_sem] max2_int min2_int max_two min_two max_three min_three max_four min_four   -- for this text's walks alone
set_option linter.unusedVariables false
set_option linter.unusedSimpArgs false

attribute [local go_sem] run_store_float
/-! ### impl_list_pSd: function 159 -/
def impl_list_pSd.l0 : Nat → List S196 → Int → Int → ByteArray → Int → Bool → Int → Int → Nat → ByteArray → List (S43) → Option (ByteArray × Int × Bool × Int × Int × Nat × ByteArray × (List (S43)))
 | 0, _, _, _, _, _, _, _, _, _, _, _ => none
 | k + 1, x12, x13, x14, x103000, x103001, x103002, x103003, x103004, x103005, x103006, x103007 => if x14 < x13 then (if 0 ≤ x14 then (if x14 < (x12.length : Int) then ((impl_procfsSchedstat_1.f (rdOf zSd x12 x14)).bind fun bt104 => (if x103007.length < 1466015503701 then (impl_list_pSd.l0 k x12 x13 (wrap64 (x14 + 1)) x103000 x103001 x103002 x103003 x103004 x103005 x103006 (x103007 ++ [(⟨bt104.1, bt104.2.1, bt104.2.2.1, bt104.2.2.2.1, bt104.2.2.2.2.1, bt104.2.2.2.2.2.1, bt104.2.2.2.2.2.2.1, bt104.2.2.2.2.2.2.2⟩ : S43)])) else (none))) else (none)) else (none)) else (some (x103000, x103001, x103002, x103003, x103004, x103005, x103006, x103007))
def impl_list_pSd.f (k : Nat) (a0 : ByteArray) (l1 : List S196) : Option (ByteArray × Int × Bool × Int × Int × Nat × ByteArray × (List (S43))) := impl_list_pSd.l0 k l1 (l1.length : Int) 0 a0 6 false 0 0 0 (⟨#[]⟩ : ByteArray) ([] : List (S43))
theorem impl_list_pSd.mono_l : ∀ k, (∀ y0 y1 y2 y3 y4 y5 y6 y7 y8 y9 y10, LeO (impl_list_pSd.l0 k y0 y1 y2 y3 y4 y5 y6 y7 y8 y9 y10) (impl_list_pSd.l0 (k + 1) y0 y1 y2 y3 y4 y5 y6 y7 y8 y9 y10))
 | 0 => fun _ _ _ _ _ _ _ _ _ _ _ r h => by simp [impl_list_pSd.l0] at h
 | k + 1 => by
  have ih0 := impl_list_pSd.mono_l k
  ·intro y0 y1 y2 y3 y4 y5 y6 y7 y8 y9 y10
   unfold impl_list_pSd.l0
   repeat' first
   | (with_reducible exact ih0 _ _ _ _ _ _ _ _ _ _ _)
   | (with_reducible exact LeO.refl _)
   | (with_reducible exact LeO.none _)
   | (with_reducible refine LeO.ite ?_ ?_)
   | (with_reducible refine LeO.bind ?_ (fun _ => ?_))
   | exact ih0 _ _ _ _ _ _ _ _ _ _ _
   | exact LeO.none _
   | refine LeO.ite ?_ ?_
   | refine LeO.bind ?_ (fun _ => ?_)
theorem impl_list_pSd.mono : ∀ a0 a1 k, LeO (impl_list_pSd.f k a0 a1) (impl_list_pSd.f (k + 1) a0 a1) := by
 intro a0 a1 k
 have ih0 := impl_list_pSd.mono_l k
 unfold impl_list_pSd.f
 repeat' first
   | (with_reducible exact ih0 _ _ _ _ _ _ _ _ _ _ _)
   | (with_reducible exact LeO.refl _)
   | (with_reducible exact LeO.none _)
   | (with_reducible refine LeO.ite ?_ ?_)
   | (with_reducible refine LeO.bind ?_ (fun _ => ?_))
   | exact ih0 _ _ _ _ _ _ _ _ _ _ _
   | exact LeO.none _
   | refine LeO.ite ?_ ?_
   | refine LeO.bind ?_ (fun _ => ?_)
def impl_list_pSd.T5 : Bool × List (List Nat × List Nat) := (true, [([], []), ([0], [0]), ([], []), ([], []), ([2, 3], [2, 3]), ([4], [4]), ([1, 5, 4], [1, 5]), ([0, 1, 2, 3, 4, 5, 6], []), ([7, 6, 6, 0, 1, 2, 3, 4, 5, 6], [6, 7])])
def impl_list_pSd.B5 : List Nat := [0, 1, 0, 0, 12, 28, 63, 127, 255]
theorem impl_list_pSd.tab5 : rtab .any (opsOf Tryz.f159 5) = impl_list_pSd.T5 := by kernel_rfl
theorem impl_list_pSd.bits5 : waitsOk impl_list_pSd.T5.2 impl_list_pSd.B5 = true := by kernel_rfl
set_option maxHeartbeats 8000000 in
set_option maxRecDepth 100000 in
theorem impl_list_pSd.calls (k : Nat) (a0 : ByteArray) (A1 : Option Addr) (c1 : Nat) (l1 : List S196) (r1 : ByteArray) (r2 : Int) (r3 : Bool) (r4 : Int) (r5 : Int) (r6 : Nat) (r7 : ByteArray) (r8 : List (S43)) (w : World) (hr1 : Kd.C kpSd w A1 l1.length l1) (hc1 : l1.length ≤ c1) (h : impl_list_pSd.f k a0 l1 = some (r1, r2, r3, r4, r5, r6, r7, r8)) :
  Calls Tryz.prog 159 #[.string a0, .slice A1 l1.length c1, .func (.func 160) #[] #[]] w fun e w' => ∃ v7_ : Value, e = .returned (.agg #[.string r1, .int .i64 r2, .bool r3, .int .i64 r4, .int .u64 r5, .float .f64 r6, .string r7, v7_]) ∧ Kd.R k43 43 w' w.heap.size (fun _ => True) v7_ r8 ∧ Below w.heap.size w w' := by
 have hu43 := Tryz.underlying43
 have HR1 := Aside0.mk hr1
 have HC1 := Aside0.mk hc1
 clear hr1 hc1
 have HB := Aside0.mk (Below.refl w.heap.size w)
 have H : (impl_list_pSd.l0 k l1 (l1.length : Int) 0 a0 6 false 0 0 0 (⟨#[]⟩ : ByteArray) ([] : List (S43))) = some (r1, r2, r3, r4, r5, r6, r7, r8) := h
 clear h
 have H' := Aside0.mk H
 clear H
 go_enter Tryz.func159, Tryz.ntmps159
 go_wp2_with (first | ((with_reducible refine gate_dst (N := 6) rfl ?_); refine box_event ?hg (N := 6) ?hd (cs := #[.string (⟨#[]⟩ : ByteArray), .int .i64 0, .bool false, .int .i64 0, .int .u64 0, .float .f64 0, .string (⟨#[]⟩ : ByteArray), .slice none 0 0]) (t := 43) ?hr ?_; (case hd => rfl); (case hg => rfl); (case hr => first | (go_simp; done) | (go_simp; rfl)); intro gb101 hg w3 hbox hb; have n0_ := Aside0.mk (below_step (by repeat (first | (with_reducible first | exact HB.out | apply below_alloc | apply pw_below_drewN | apply below_drew1) | exact HB.out)) hb); have n1_ := Aside0.mk (hbox); have n2_ := Aside0.mk ((by rw [hg]; exact (below_size (by repeat (first | (with_reducible first | exact HB.out | apply below_alloc | apply pw_below_drewN | apply below_drew1) | exact HB.out))) : w.heap.size ≤ gb101)); have n3_ := Aside0.mk ((by rw [hg]; exact (below_size (by repeat (first | (with_reducible first | exact HB.out | apply below_alloc | apply pw_below_drewN | apply below_drew1) | exact HB.out))) : w.heap.size ≤ gb101)); clear HB; have HB := n0_; have BK101 := n1_; have GW101 := n2_; have GE101 := n3_; clear n0_ n1_ n2_ n3_; clear hb hbox hg) | ((with_reducible refine gate_dst (N := 7) rfl ?_); refine box_event ?hg (N := 7) ?hd (cs := #[.string (⟨#[]⟩ : ByteArray), .int .i64 0, .bool false, .int .i64 0, .int .u64 0, .float .f64 0, .string (⟨#[]⟩ : ByteArray), .slice none 0 0]) (t := 43) ?hr ?_; (case hd => rfl); (case hg => rfl); (case hr => first | (go_simp; done) | (go_simp; rfl)); intro gb102 hg w4 hbox hb; have n0_ := Aside0.mk (blk_below (g := gb101) (o := .cells #[.string (⟨#[]⟩ : ByteArray), .int .i64 0, .bool false, .int .i64 0, .int .u64 0, .float .f64 0, .string (⟨#[]⟩ : ByteArray), .slice none 0 0] 43 (0, 0)) (by (with_reducible repeat (first | refine blk_drewN ?_ _ | refine blk_drew ?_ | refine blk_alloc ?_ _)); exact BK101.out) hb); have n1_ := Aside0.mk (below_step (by repeat (first | (with_reducible first | exact HB.out | apply below_alloc | apply pw_below_drewN | apply below_drew1 | refine below_set ?_ GE101.out) | exact HB.out)) hb); have n2_ := Aside0.mk (hbox); have n3_ := Aside0.mk ((by rw [hg]; exact (below_size (by repeat (first | (with_reducible first | exact HB.out | apply below_alloc | apply pw_below_drewN | apply below_drew1 | refine below_set ?_ GE101.out) | exact HB.out))) : w.heap.size ≤ gb102)); have n4_ := Aside0.mk ((by rw [hg]; exact (below_size (by repeat (first | (with_reducible first | exact HB.out | apply below_alloc | apply pw_below_drewN | apply below_drew1 | refine below_set ?_ GE101.out) | exact HB.out))) : w.heap.size ≤ gb102)); have n5_ := Aside0.mk ((by rw [hg]; exact Nat.ne_of_lt (blk_lt (g := gb101) (o := .cells #[.string (⟨#[]⟩ : ByteArray), .int .i64 0, .bool false, .int .i64 0, .int .u64 0, .float .f64 0, .string (⟨#[]⟩ : ByteArray), .slice none 0 0] 43 (0, 0)) (by (with_reducible repeat (first | refine blk_drewN ?_ _ | refine blk_drew ?_ | refine blk_alloc ?_ _)); exact BK101.out)) : gb101 ≠ gb102)); have n6_ := Aside0.mk ((by rw [hg]; exact Nat.ne_of_gt (blk_lt (g := gb101) (o := .cells #[.string (⟨#[]⟩ : ByteArray), .int .i64 0, .bool false, .int .i64 0, .int .u64 0, .float .f64 0, .string (⟨#[]⟩ : ByteArray), .slice none 0 0] 43 (0, 0)) (by (with_reducible repeat (first | refine blk_drewN ?_ _ | refine blk_drew ?_ | refine blk_alloc ?_ _)); exact BK101.out)) : gb102 ≠ gb101)); clear BK101; clear HB; have BK101 := n0_; have HB := n1_; have BK102 := n2_; have GW102 := n3_; have GE102 := n4_; have NB101_102 := n5_; have NB102_101 := n6_; clear n0_ n1_ n2_ n3_ n4_ n5_ n6_; clear hb hbox hg; have hnb5 := NB102_101.out; have hnc5 := NB101_102.out; have hcz6_0 : w4.cell? ⟨gb102, 0, none⟩ = some (.string (⟨#[]⟩ : ByteArray)) := (blk_cell BK102.out 0).trans rfl; have hcz6_1 : w4.cell? ⟨gb102, 1, none⟩ = some (.int .i64 0) := (blk_cell BK102.out 1).trans rfl; have hcz6_2 : w4.cell? ⟨gb102, 2, none⟩ = some (.bool false) := (blk_cell BK102.out 2).trans rfl; have hcz6_3 : w4.cell? ⟨gb102, 3, none⟩ = some (.int .i64 0) := (blk_cell BK102.out 3).trans rfl; have hcz6_4 : w4.cell? ⟨gb102, 4, none⟩ = some (.int .u64 0) := (blk_cell BK102.out 4).trans rfl; have hcz6_5 : w4.cell? ⟨gb102, 5, none⟩ = some (.float .f64 0) := (blk_cell BK102.out 5).trans rfl; have hcz6_6 : w4.cell? ⟨gb102, 6, none⟩ = some (.string (⟨#[]⟩ : ByteArray)) := (blk_cell BK102.out 6).trans rfl; have hcz6_7 : w4.cell? ⟨gb102, 7, none⟩ = some (.slice none 0 0) := (blk_cell BK102.out 7).trans rfl; have hfz6_0 := blk_frozen BK102.out 0; have hfz6_1 := blk_frozen BK102.out 1; have hfz6_2 := blk_frozen BK102.out 2; have hfz6_3 := blk_frozen BK102.out 3; have hfz6_4 := blk_frozen BK102.out 4; have hfz6_5 := blk_frozen BK102.out 5; have hfz6_6 := blk_frozen BK102.out 6; have hfz6_7 := blk_frozen BK102.out 7))
 go_loopg [14] k (fun kq v14 w' => ∃ (x14_1 : Int) (x103007_1 : List (S43)) (u103007 : Value), v14 = .int .i64 x14_1 ∧ Aside0 (impl_list_pSd.l0 kq l1 (l1.length : Int) x14_1 a0 6 false 0 0 0 (⟨#[]⟩ : ByteArray) x103007_1 = some (r1, r2, r3, r4, r5, r6, r7, r8)) ∧ Aside0 (kq ≤ k) ∧ Aside0 (Kd.R k43 43 w' w.heap.size (fun k_ => k_ ≠ gb101 ∧ k_ ≠ gb102) u103007 x103007_1) ∧ Aside0 (w'.heap[gb101]? = some (.cells #[.string (⟨#[]⟩ : ByteArray), .int .i64 0, .bool false, .int .i64 0, .int .u64 0, .float .f64 0, .string (⟨#[]⟩ : ByteArray), (.slice none 0 0)] 43 (0, 0))) ∧ Aside0 (w'.heap[gb102]? = some (.cells #[.string a0, .int .i64 6, .bool false, .int .i64 0, .int .u64 0, .float .f64 0, .string (⟨#[]⟩ : ByteArray), u103007] 43 (0, 0))) ∧ Aside0 (Below w.heap.size w w'))
 case atStart => exact ⟨(0), (([] : List (S43))), (.slice none 0 0), (by first | rfl | (simp; done) | (simp [*]; done)), H', ⟨Nat.le_refl _⟩, ⟨by first | exact Kd.R_nil _ _ _ _ _ | exact Kd.N_nil _ _ _ _ _ | exact Kd.V_nil _ _ _ _ _ | exact Kd.Q_nil _ _ _ _ _ | exact Kd.S_nil _ _ _ _ _⟩, ⟨by (with_reducible repeat (first | refine blk_drewN ?_ _ | refine blk_drew ?_ | refine blk_alloc ?_ _)); refine blk_far ?_ NB101_102.out _; (with_reducible repeat (first | refine blk_drewN ?_ _ | refine blk_drew ?_ | refine blk_alloc ?_ _)); refine blk_far ?_ NB101_102.out _; (with_reducible repeat (first | refine blk_drewN ?_ _ | refine blk_drew ?_ | refine blk_alloc ?_ _)); refine blk_far ?_ NB101_102.out _; (with_reducible repeat (first | refine blk_drewN ?_ _ | refine blk_drew ?_ | refine blk_alloc ?_ _)); refine blk_far ?_ NB101_102.out _; (with_reducible repeat (first | refine blk_drewN ?_ _ | refine blk_drew ?_ | refine blk_alloc ?_ _)); refine blk_far ?_ NB101_102.out _; (with_reducible repeat (first | refine blk_drewN ?_ _ | refine blk_drew ?_ | refine blk_alloc ?_ _)); refine blk_far ?_ NB101_102.out _; (with_reducible repeat (first | refine blk_drewN ?_ _ | refine blk_drew ?_ | refine blk_alloc ?_ _)); refine blk_far ?_ NB101_102.out _; (with_reducible repeat (first | refine blk_drewN ?_ _ | refine blk_drew ?_ | refine blk_alloc ?_ _)); refine blk_far ?_ NB101_102.out _; (with_reducible repeat (first | refine blk_drewN ?_ _ | refine blk_drew ?_ | refine blk_alloc ?_ _)); exact BK101.out⟩, ⟨by (with_reducible repeat (first | refine blk_drewN ?_ _ | refine blk_drew ?_ | refine blk_alloc ?_ _)); refine blk_put (cs := #[.string a0, .int .i64 6, .bool false, .int .i64 0, .int .u64 0, .float .f64 0, .string (⟨#[]⟩ : ByteArray), .slice none 0 0]) ?_ 7 _ rfl; (with_reducible repeat (first | refine blk_drewN ?_ _ | refine blk_drew ?_ | refine blk_alloc ?_ _)); refine blk_put (cs := #[.string a0, .int .i64 6, .bool false, .int .i64 0, .int .u64 0, .float .f64 0, .string (⟨#[]⟩ : ByteArray), .slice none 0 0]) ?_ 6 _ rfl; (with_reducible repeat (first | refine blk_drewN ?_ _ | refine blk_drew ?_ | refine blk_alloc ?_ _)); refine blk_put (cs := #[.string a0, .int .i64 6, .bool false, .int .i64 0, .int .u64 0, .float .f64 0, .string (⟨#[]⟩ : ByteArray), .slice none 0 0]) ?_ 5 _ rfl; (with_reducible repeat (first | refine blk_drewN ?_ _ | refine blk_drew ?_ | refine blk_alloc ?_ _)); refine blk_put (cs := #[.string a0, .int .i64 6, .bool false, .int .i64 0, .int .u64 0, .float .f64 0, .string (⟨#[]⟩ : ByteArray), .slice none 0 0]) ?_ 4 _ rfl; (with_reducible repeat (first | refine blk_drewN ?_ _ | refine blk_drew ?_ | refine blk_alloc ?_ _)); refine blk_put (cs := #[.string a0, .int .i64 6, .bool false, .int .i64 0, .int .u64 0, .float .f64 0, .string (⟨#[]⟩ : ByteArray), .slice none 0 0]) ?_ 3 _ rfl; (with_reducible repeat (first | refine blk_drewN ?_ _ | refine blk_drew ?_ | refine blk_alloc ?_ _)); refine blk_put (cs := #[.string a0, .int .i64 6, .bool false, .int .i64 0, .int .u64 0, .float .f64 0, .string (⟨#[]⟩ : ByteArray), .slice none 0 0]) ?_ 2 _ rfl; (with_reducible repeat (first | refine blk_drewN ?_ _ | refine blk_drew ?_ | refine blk_alloc ?_ _)); refine blk_put (cs := #[.string a0, .int .i64 0, .bool false, .int .i64 0, .int .u64 0, .float .f64 0, .string (⟨#[]⟩ : ByteArray), .slice none 0 0]) ?_ 1 _ rfl; (with_reducible repeat (first | refine blk_drewN ?_ _ | refine blk_drew ?_ | refine blk_alloc ?_ _)); refine blk_put (cs := #[.string (⟨#[]⟩ : ByteArray), .int .i64 0, .bool false, .int .i64 0, .int .u64 0, .float .f64 0, .string (⟨#[]⟩ : ByteArray), .slice none 0 0]) ?_ 0 _ rfl; (with_reducible repeat (first | refine blk_drewN ?_ _ | refine blk_drew ?_ | refine blk_alloc ?_ _)); exact BK102.out⟩, ⟨by repeat (first | (with_reducible first | exact HB.out | apply below_alloc | apply pw_below_drewN | apply below_drew1 | refine below_set ?_ GE101.out | refine below_set ?_ GE102.out) | exact HB.out)⟩⟩
 case round =>
  clear H'
  try clear c1
  try clear p2
  try clear c5
  try clear hcz6_0
  try clear hcz6_1
  try clear hcz6_2
  try clear hcz6_3
  try clear hcz6_4
  try clear hcz6_5
  try clear hcz6_6
  try clear hcz6_7
  try clear hfz6_0
  try clear hfz6_1
  try clear hfz6_2
  try clear hfz6_3
  try clear hfz6_4
  try clear hfz6_5
  try clear hfz6_6
  try clear hfz6_7
  obtain ⟨x14_1, x103007_1, u103007, rfl, HA, HK1, HO_103007, BK101, BK102, HB⟩ := hrel
  cases gk with
  | zero => exact absurd HA.out (by simp [impl_list_pSd.l0])
  | succ k1 =>
   have H := HA.out
   clear HA
   simp only [impl_list_pSd.l0] at H
   by_cases c7 : x14_1 < (l1.length : Int)
   ·rw [if_pos c7] at H
    have c7b0 : decide (x14_1 < (l1.length : Int)) = true := decide_eq_true c7
    clear c7
    replace H := guard_inv H
    obtain ⟨c8, H⟩ := H
    have c8b0 : decide (0 ≤ x14_1) = true := decide_eq_true c8
    clear c8
    replace H := guard_inv H
    obtain ⟨c9, H⟩ := H
    have c9b0 : decide (x14_1 < (l1.length : Int)) = true := decide_eq_true c9
    clear c9
    replace H := Option.bind_eq_some_iff.mp H
    obtain ⟨⟨t104, t105, t106, t107, t108, t109, t110, t111⟩, A100, H⟩ := H
    replace H : (if x103007_1.length < 1466015503701 then (impl_list_pSd.l0 k1 l1 (l1.length : Int) (wrap64 (x14_1 + 1)) a0 6 false 0 0 0 (⟨#[]⟩ : ByteArray) (x103007_1 ++ [(⟨t104, t105, t106, t107, t108, t109, t110, t111⟩ : S43)])) else (none)) = some (r1, r2, r3, r4, r5, r6, r7, r8) := H
    have A10 := Aside0.mk A100
    clear A100
    replace H := guard_inv H
    obtain ⟨c11, H⟩ := H
    have LMc11 := Aside0.mk c11
    clear c11
    obtain ⟨y114, hy114⟩ : ∃ y_ : List (S43), y_ = (x103007_1 ++ [(⟨t104, t105, t106, t107, t108, t109, t110, t111⟩ : S43)]) := ⟨_, rfl⟩
    replace H : (impl_list_pSd.l0 k1 l1 (l1.length : Int) (wrap64 (x14_1 + 1)) a0 6 false 0 0 0 (⟨#[]⟩ : ByteArray) y114) = some (r1, r2, r3, r4, r5, r6, r7, r8) := by first | (rw [hy114]; with_reducible exact H) | (have H2_ := (Option.bind_some _ _).symm.trans H; rw [hy114]; with_reducible exact H2_) | (have H2_ := (Option.bind_some _ _).symm.trans H; with_reducible exact H2_) | with_reducible exact H | (rw [hy114]; exact H) | exact H
    have Ny114 := Aside0.mk hy114
    clear hy114
    have H' := Aside0.mk H
    clear H
    have p103 : 0 ≤ (x14_1 : Int) := of_decide_eq_true (by first | (with_reducible assumption) | assumption)
    have q103 : x14_1 < (l1.length : Int) := of_decide_eq_true (by first | (with_reducible assumption) | assumption)
    obtain ⟨ad103, bp, e103, hx103_0, hob⟩ := at_pSd HR1.out x14_1 p103 q103
    cases e103
    have HOB := Aside0.mk hob
    clear hob
    replace hx103_0 := (HB.out.cell (World.block_lt_of_cell? w _ hx103_0)).trans hx103_0
    replace p103 := eq_true p103
    replace q103 := eq_true q103
    try go_wp2
    have n0_ := Aside0.mk (Kd.R_drew HO_103007.out)
    have n1_ := Aside0.mk (blk_drew BK101.out)
    have n2_ := Aside0.mk (blk_drew BK102.out)
    have n3_ := Aside0.mk (below_drew1 HB.out)
    clear HO_103007
    clear BK101
    clear BK102
    clear HB
    have HO_103007 := n0_
    have BK101 := n1_
    have BK102 := n2_
    have HB := n3_
    clear n0_ n1_ n2_ n3_
    refine start_ (n := 9) (S := fun w' => w'.cell? ⟨gb102, 0, none⟩ = some (.string a0) ∧ w'.cell? ⟨gb102, 1, none⟩ = some (.int .i64 6) ∧ w'.cell? ⟨gb102, 2, none⟩ = some (.bool false) ∧ w'.cell? ⟨gb102, 3, none⟩ = some (.int .i64 0) ∧ w'.cell? ⟨gb102, 4, none⟩ = some (.int .u64 0) ∧ w'.cell? ⟨gb102, 5, none⟩ = some (.float .f64 0) ∧ w'.cell? ⟨gb102, 6, none⟩ = some (.string (⟨#[]⟩ : ByteArray)) ∧ w'.cell? ⟨gb102, 7, none⟩ = some (u103007)) (ds := [8]) (bb [0, 9]) (by kernel_rfl) rfl rfl ⟨(blk_cell BK102.out 0).trans rfl, (blk_cell BK102.out 1).trans rfl, (blk_cell BK102.out 2).trans rfl, (blk_cell BK102.out 3).trans rfl, (blk_cell BK102.out 4).trans rfl, (blk_cell BK102.out 5).trans rfl, (blk_cell BK102.out 6).trans rfl, (blk_cell BK102.out 7).trans rfl⟩ (fun hHeld => ?_); refine with_tabW impl_list_pSd.tab5 impl_list_pSd.bits5 (fun HT_ HW_ => ?_)
    generalize wr.drew = w12 at HO_103007 BK101 BK102 HB hHeld ⊢
    refine pure_ (i := 0) (N := some 18) (v := ?_) (a' := ?_) (bb [1, 8]) rfl rfl (any_of HT_.out (by kernel_rfl)) (fun _ _ _ h => h) (Or.inl ⟨by rfl, ?_⟩) ?_ ?_
    rotate_left
    ·intro w'
     go_simp
     with_reducible rfl
    rotate_left
    ·simp only [Act.put, List.setIfInBounds_toArray, List.set_cons_zero, List.set_cons_succ, i64_w, i32_w]
     rfl
    refine pure_ (i := 2) (N := some 20) (v := ?_) (a' := ?_) (bb [1, 1, 1, 6]) rfl rfl (any_of HT_.out (by kernel_rfl)) (fun _ _ _ h => h) (Or.inl ⟨by rfl, ?_⟩) ?_ ?_
    rotate_left
    ·intro w'
     go_simp
     with_reducible rfl
    rotate_left
    ·simp only [Act.put, List.setIfInBounds_toArray, List.set_cons_zero, List.set_cons_succ, i64_w, i32_w]
     rfl
    refine pure_ (i := 3) (N := some 21) (v := ?_) (a' := ?_) (bb [1, 1, 2, 5]) rfl rfl (any_of HT_.out (by kernel_rfl)) (fun _ _ _ h => h) (Or.inl ⟨by rfl, ?_⟩) ?_ ?_
    rotate_left
    ·intro w'
     go_simp
     with_reducible rfl
    rotate_left
    ·simp only [Act.put, List.setIfInBounds_toArray, List.set_cons_zero, List.set_cons_succ, i64_w, i32_w]
     rfl
    refine take_ (i := 1) (N := some 19) (v := ?_) (a' := ?_) (bb [4, 5]) rfl rfl (take_ofW HT_.out HW_.out (by kernel_rfl)) (fun _ _ _ h => h) (Or.inl ⟨by rfl, ?_⟩) hHeld ?_ ?_
    rotate_left
    ·rintro w' ⟨s0, s1, s2, s3, s4, s5, s6, s7⟩
     go_simp
     with_reducible rfl
    rotate_left
    ·simp only [Act.put, List.setIfInBounds_toArray, List.set_cons_zero, List.set_cons_succ, i64_w, i32_w]
     rfl
    refine one_ (i := 4) (N := some 22) (bb [5, 4]) rfl rfl (one_of HT_.out (by kernel_rfl)) (by decide) (fun K hK => ?_)
    refine goesV_ Tryz.func160 (by kernel_rfl) rfl #[.pointer (some ⟨bp, 0, none⟩)] (by rfl) rfl rfl (by rfl) (by (try simp only [List.map_toArray, List.map_cons, List.map_nil]); first | done | rfl | (simp only [List.length_drop, List.length_take]; rfl)) ?_
    with_reducible refine (impl_procfsSchedstat_1.calls bp (rdOf zSd l1 x14_1) t104 t105 t106 t107 t108 t109 t110 t111 _ (blk_below HOB.out HB.out) A10.out).mono ?_
    rintro e w13 ⟨v112, rfl, ho0, hb⟩
    refine ⟨_, rfl, ?_⟩
    have n0_ := Aside0.mk (Kd.R_elder' (by (with_reducible repeat (first | apply Kd.R_alloc | apply Kd.R_drewN | apply Kd.R_drew)); exact HO_103007.out) (by first | exact Kd.R_base ho0 | exact Kd.R_base ho0) hb)
    have n1_ := Aside0.mk (Kd.R_lower (Kd.R_newB (Kd.R_newB (Kd.R_new' ho0 (Kd.R_lt (by (with_reducible repeat (first | apply Kd.R_alloc | apply Kd.R_drewN | apply Kd.R_drew)); exact HO_103007.out))) (g := gb101) (o := .cells #[.string (⟨#[]⟩ : ByteArray), .int .i64 0, .bool false, .int .i64 0, .int .u64 0, .float .f64 0, .string (⟨#[]⟩ : ByteArray), .slice none 0 0] 43 (0, 0)) (by (with_reducible repeat (first | refine blk_drewN ?_ _ | refine blk_drew ?_ | refine blk_alloc ?_ _)); exact BK101.out)) (g := gb102) (o := .cells #[.string a0, .int .i64 6, .bool false, .int .i64 0, .int .u64 0, .float .f64 0, .string (⟨#[]⟩ : ByteArray), u103007] 43 (0, 0)) (by (with_reducible repeat (first | refine blk_drewN ?_ _ | refine blk_drew ?_ | refine blk_alloc ?_ _)); exact BK102.out)) (below_size (by repeat (first | (with_reducible first | exact HB.out | apply below_alloc | apply pw_below_drewN | apply below_drew1 | refine below_set ?_ GE101.out | refine below_set ?_ GE102.out) | exact HB.out))))
    have n2_ := Aside0.mk (blk_below (g := gb101) (o := .cells #[.string (⟨#[]⟩ : ByteArray), .int .i64 0, .bool false, .int .i64 0, .int .u64 0, .float .f64 0, .string (⟨#[]⟩ : ByteArray), .slice none 0 0] 43 (0, 0)) (by (with_reducible repeat (first | refine blk_drewN ?_ _ | refine blk_drew ?_ | refine blk_alloc ?_ _)); exact BK101.out) hb)
    have n3_ := Aside0.mk (blk_below (g := gb102) (o := .cells #[.string a0, .int .i64 6, .bool false, .int .i64 0, .int .u64 0, .float .f64 0, .string (⟨#[]⟩ : ByteArray), u103007] 43 (0, 0)) (by (with_reducible repeat (first | refine blk_drewN ?_ _ | refine blk_drew ?_ | refine blk_alloc ?_ _)); exact BK102.out) hb)
    have n4_ := Aside0.mk (below_step (by repeat (first | (with_reducible first | exact HB.out | apply below_alloc | apply pw_below_drewN | apply below_drew1 | refine below_set ?_ GE101.out | refine below_set ?_ GE102.out) | exact HB.out)) hb)
    clear HO_103007
    clear BK101
    clear BK102
    clear HB
    have HO_103007 := n0_
    have HO113 := n1_
    have BK101 := n2_
    have BK102 := n3_
    have HB := n4_
    clear n0_ n1_ n2_ n3_ n4_
    (try clear hb)
    (try clear hb2)
    (try clear hk)
    (try clear hi)
    (try clear ho0)
    obtain ⟨Ao15, co15, eo15⟩ := Kd.R_slice HO113.out
    (first | subst eo15 | (injection eo15 with f1_ f2_ f3_; have f4_ := f1_.symm; have f5_ := f3_.symm; clear f1_ f2_ f3_; subst f4_; subst f5_))
    refine hK.out _ _ ⟨(blk_cell BK102.out 0).trans rfl, (blk_cell BK102.out 1).trans rfl, (blk_cell BK102.out 2).trans rfl, (blk_cell BK102.out 3).trans rfl, (blk_cell BK102.out 4).trans rfl, (blk_cell BK102.out 5).trans rfl, (blk_cell BK102.out 6).trans rfl, (blk_cell BK102.out 7).trans rfl⟩ (fun hHeld => ?_)
    clear hK K
    refine norm_ (a' := ?_) ?_ ?_
    rotate_left
    ·show Act.put _ (some 22) _ = _
     simp only [Act.put, List.setIfInBounds_toArray, List.set_cons_zero, List.set_cons_succ, i64_w, i32_w]
     rfl
    refine one_ (i := 5) (N := some 23) (bb [6, 3]) rfl rfl (one_of HT_.out (by kernel_rfl)) (by decide) (fun K hK => ?_)
    refine value_ (w1 := ?_) (v := ?_) (by rfl) rfl ?_ ?_
    rotate_left 2
    ·go_simp
     constructor
     ·rfl
     ·rfl
    refine hK.out _ _ ⟨(blk_cell (blk_alloc BK102.out _) 0).trans rfl, (blk_cell (blk_alloc BK102.out _) 1).trans rfl, (blk_cell (blk_alloc BK102.out _) 2).trans rfl, (blk_cell (blk_alloc BK102.out _) 3).trans rfl, (blk_cell (blk_alloc BK102.out _) 4).trans rfl, (blk_cell (blk_alloc BK102.out _) 5).trans rfl, (blk_cell (blk_alloc BK102.out _) 6).trans rfl, (blk_cell (blk_alloc BK102.out _) 7).trans rfl⟩ (fun hHeld => ?_)
    clear hK K
    refine norm_ (a' := ?_) ?_ ?_
    rotate_left
    ·show Act.put _ (some 23) _ = _
     simp only [Act.put, List.setIfInBounds_toArray, List.set_cons_zero, List.set_cons_succ, i64_w, i32_w]
     rfl
    refine one_ (i := 6) (N := some 24) (bb [7, 2]) rfl rfl (one_of HT_.out (by kernel_rfl)) (by decide) (fun K hK => ?_)
    refine Kd.R_append_step k43 (w0 := w) w.heap.size (by rfl) (.tmp 19) (.tmp 23) 41 43 (.agg #[(.string ⟨#[]⟩), (.int .i64 0), (.bool false), (.int .i64 0), (.int .u64 0), (.float .f64 0), (.string ⟨#[]⟩), (.slice none 0 0)]) 96 rfl Tryz.underlying41 info43 rfl (by decide) (by omega) u103007 x103007_1 (⟨t104, t105, t106, t107, t108, t109, t110, t111⟩ : S43) [.string t104, .int .i64 t105, .bool t106, .int .i64 t107, .int .u64 t108, .float .f64 t109, .string t110, .slice Ao15 t111.length co15] (fun k_ => k_ ≠ gb101 ∧ k_ ≠ gb102) (fun k_ => ((fun k_ => k_ ≠ gb101 ∧ k_ ≠ gb102)) k_ ∧ some k_ ≠ (u103007 : Value).ownBlock) rfl rfl ?aP (fun _ hk => hk) ?aF ?aO ?aB ?aS ?aL ?_
    (case aP => exact k43_mkM _ _ _ (⟨t104, t105, t106, t107, t108, t109, t110, t111⟩ : S43) (Kd.R_mono (HO113.out) (fun k_ hk => ⟨⟨hk.1.2, hk.2⟩, hk.1.1.2⟩)))
    (case aB => exact (by repeat (first | (with_reducible first | exact HB.out | apply below_alloc | apply pw_below_drewN | apply below_drew1 | refine below_set ?_ GE101.out | refine below_set ?_ GE102.out) | exact HB.out)))
    (case aF => exact (fun k_ hk => ⟨Kd.freshB (g := gb101) (o := .cells #[.string (⟨#[]⟩ : ByteArray), .int .i64 0, .bool false, .int .i64 0, .int .u64 0, .float .f64 0, .string (⟨#[]⟩ : ByteArray), .slice none 0 0] 43 (0, 0)) (by (with_reducible repeat (first | refine blk_drewN ?_ _ | refine blk_drew ?_ | refine blk_alloc ?_ _)); exact BK101.out) k_ hk, Kd.freshB (g := gb102) (o := .cells #[.string a0, .int .i64 6, .bool false, .int .i64 0, .int .u64 0, .float .f64 0, .string (⟨#[]⟩ : ByteArray), u103007] 43 (0, 0)) (by (with_reducible repeat (first | refine blk_drewN ?_ _ | refine blk_drew ?_ | refine blk_alloc ?_ _)); exact BK102.out) k_ hk⟩))
    (case aO => exact (by (with_reducible repeat (first | apply Kd.R_alloc | apply Kd.R_drewN | apply Kd.R_drew)); exact Kd.R_mono HO_103007.out (fun _ hk => ⟨hk.1.1, hk.1.2⟩)))
    (case aS => exact (below_size (by repeat (first | (with_reducible first | exact HB.out | apply below_alloc | apply pw_below_drewN | apply below_drew1 | refine below_set ?_ GE101.out | refine below_set ?_ GE102.out) | exact HB.out))))
    (case aL => have := LMc11.out; omega)
    intro v115 w14 ho hb hg hat
    rw [← Ny114.out] at ho
    have n0_ := Aside0.mk (blk_grown (g := gb101) (o := .cells #[.string (⟨#[]⟩ : ByteArray), .int .i64 0, .bool false, .int .i64 0, .int .u64 0, .float .f64 0, .string (⟨#[]⟩ : ByteArray), .slice none 0 0] 43 (0, 0)) (by (with_reducible repeat (first | refine blk_drewN ?_ _ | refine blk_drew ?_ | refine blk_alloc ?_ _)); exact BK101.out) hg (Kd.R_away HO_103007.out (fun _ hk => hk.1.1)))
    have n1_ := Aside0.mk (blk_grown (g := gb102) (o := .cells #[.string a0, .int .i64 6, .bool false, .int .i64 0, .int .u64 0, .float .f64 0, .string (⟨#[]⟩ : ByteArray), u103007] 43 (0, 0)) (by (with_reducible repeat (first | refine blk_drewN ?_ _ | refine blk_drew ?_ | refine blk_alloc ?_ _)); exact BK102.out) hg (Kd.R_away HO_103007.out (fun _ hk => hk.1.2)))
    have n2_ := Aside0.mk (hb)
    have n3_ := Aside0.mk (ho)
    clear BK101
    clear BK102
    clear HB
    clear HO_103007
    clear HO113
    have BK101 := n0_
    have BK102 := n1_
    have HB := n2_
    have HO116 := n3_
    clear n0_ n1_ n2_ n3_
    clear ho hb hg hat
    obtain ⟨Ao16, co16, eo16⟩ := Kd.R_slice HO116.out
    (first | subst eo16 | (injection eo16 with f1_ f2_ f3_; have f4_ := f1_.symm; have f5_ := f3_.symm; clear f1_ f2_ f3_; subst f4_; subst f5_))
    refine hK.out _ _ ⟨(blk_cell BK102.out 0).trans rfl, (blk_cell BK102.out 1).trans rfl, (blk_cell BK102.out 2).trans rfl, (blk_cell BK102.out 3).trans rfl, (blk_cell BK102.out 4).trans rfl, (blk_cell BK102.out 5).trans rfl, (blk_cell BK102.out 6).trans rfl, (blk_cell BK102.out 7).trans rfl⟩ (fun hHeld => ?_)
    clear hK K
    refine norm_ (a' := ?_) ?_ ?_
    rotate_left
    ·show Act.put _ (some 24) _ = _
     simp only [Act.put, List.setIfInBounds_toArray, List.set_cons_zero, List.set_cons_succ, i64_w, i32_w]
     rfl
    refine pure_ (i := 7) (N := some 25) (v := ?_) (a' := ?_) (bb [8, 1]) rfl rfl (any_of HT_.out (by kernel_rfl)) (fun _ _ _ h => h) (Or.inl ⟨by rfl, ?_⟩) ?_ ?_
    rotate_left
    ·intro w'
     go_simp
     with_reducible rfl
    rotate_left
    ·simp only [Act.put, List.setIfInBounds_toArray, List.set_cons_zero, List.set_cons_succ, i64_w, i32_w]
     rfl
    refine last_ (i := 8) (N := none) (bb [9]) rfl rfl (one_of HT_.out (by kernel_rfl)) (by decide) (fun K hK => ?_)
    have hs17 : w14.cell? ⟨gb102, 7, none⟩ = some (u103007) := (blk_cell BK102.out 7).trans rfl
    have hfs17 := blk_frozen BK102.out 7
    have hns17_0 := NB101_102.out
    have hms17_0 := NB102_101.out
    refine skip_ (w1 := ?_) (by rfl) rfl ?_ ?_
    rotate_left
    ·go_simp
     rfl
    refine hK.out _ _ ?_
    clear hK K
    refine done_ (done_of HT_.out (by kernel_rfl)) ?_
    try go_wp2
    go_roundg k1
    case measure => have := HK1.out; omega
    case rel => exact ⟨(wrap64 (x14_1 + 1)), (y114), (.slice Ao16 y114.length co16), (by first | rfl | (simp; done) | (simp [*]; done)), H', ⟨by have := HK1.out; omega⟩, ⟨by (with_reducible repeat (first | apply Kd.R_alloc | apply Kd.R_drewN | apply Kd.R_drew)); exact Kd.R_mono (Kd.R_far (p := ⟨gb102, 7, none⟩) (Kd.R_mono HO116.out (fun k_ hk => (⟨hk, hk.2⟩ : _ ∧ k_ ≠ gb102))) (fun _ hk => hk.2) (.slice Ao16 y114.length co16)) (fun _ hk => ⟨hk.1.1, hk.1.2⟩)⟩, ⟨by (with_reducible repeat (first | refine blk_drewN ?_ _ | refine blk_drew ?_ | refine blk_alloc ?_ _)); refine blk_far ?_ NB101_102.out _; (with_reducible repeat (first | refine blk_drewN ?_ _ | refine blk_drew ?_ | refine blk_alloc ?_ _)); exact BK101.out⟩, ⟨by (with_reducible repeat (first | refine blk_drewN ?_ _ | refine blk_drew ?_ | refine blk_alloc ?_ _)); refine blk_put (cs := #[.string a0, .int .i64 6, .bool false, .int .i64 0, .int .u64 0, .float .f64 0, .string (⟨#[]⟩ : ByteArray), u103007]) ?_ 7 _ rfl; (with_reducible repeat (first | refine blk_drewN ?_ _ | refine blk_drew ?_ | refine blk_alloc ?_ _)); exact BK102.out⟩, ⟨by repeat (first | (with_reducible first | exact HB.out | apply below_alloc | apply pw_below_drewN | apply below_drew1 | refine below_set ?_ GE101.out | refine below_set ?_ GE102.out) | exact HB.out)⟩⟩
   ·rw [if_neg c7] at H
    have c7b0 : decide (x14_1 < (l1.length : Int)) = false := decide_eq_false c7
    clear c7
    simp only [Option.some.injEq, Prod.mk.injEq] at H
    obtain ⟨rfl, rfl, rfl, rfl, rfl, rfl, rfl, rfl⟩ := H
    have hnb18 := NB102_101.out
    have hnc18 := NB101_102.out
    have hcz19_0 : wr.cell? ⟨gb102, 0, none⟩ = some (.string a0) := (blk_cell BK102.out 0).trans rfl
    have hcz19_1 : wr.cell? ⟨gb102, 1, none⟩ = some (.int .i64 6) := (blk_cell BK102.out 1).trans rfl
    have hcz19_2 : wr.cell? ⟨gb102, 2, none⟩ = some (.bool false) := (blk_cell BK102.out 2).trans rfl
    have hcz19_3 : wr.cell? ⟨gb102, 3, none⟩ = some (.int .i64 0) := (blk_cell BK102.out 3).trans rfl
    have hcz19_4 : wr.cell? ⟨gb102, 4, none⟩ = some (.int .u64 0) := (blk_cell BK102.out 4).trans rfl
    have hcz19_5 : wr.cell? ⟨gb102, 5, none⟩ = some (.float .f64 0) := (blk_cell BK102.out 5).trans rfl
    have hcz19_6 : wr.cell? ⟨gb102, 6, none⟩ = some (.string (⟨#[]⟩ : ByteArray)) := (blk_cell BK102.out 6).trans rfl
    have hcz19_7 : wr.cell? ⟨gb102, 7, none⟩ = some (u103007) := (blk_cell BK102.out 7).trans rfl
    have hfz19_0 := blk_frozen BK102.out 0
    have hfz19_1 := blk_frozen BK102.out 1
    have hfz19_2 := blk_frozen BK102.out 2
    have hfz19_3 := blk_frozen BK102.out 3
    have hfz19_4 := blk_frozen BK102.out 4
    have hfz19_5 := blk_frozen BK102.out 5
    have hfz19_6 := blk_frozen BK102.out 6
    have hfz19_7 := blk_frozen BK102.out 7
    have hcz20_0 : wr.cell? ⟨gb101, 0, none⟩ = some (.string (⟨#[]⟩ : ByteArray)) := (blk_cell BK101.out 0).trans rfl
    have hcz20_1 : wr.cell? ⟨gb101, 1, none⟩ = some (.int .i64 0) := (blk_cell BK101.out 1).trans rfl
    have hcz20_2 : wr.cell? ⟨gb101, 2, none⟩ = some (.bool false) := (blk_cell BK101.out 2).trans rfl
    have hcz20_3 : wr.cell? ⟨gb101, 3, none⟩ = some (.int .i64 0) := (blk_cell BK101.out 3).trans rfl
    have hcz20_4 : wr.cell? ⟨gb101, 4, none⟩ = some (.int .u64 0) := (blk_cell BK101.out 4).trans rfl
    have hcz20_5 : wr.cell? ⟨gb101, 5, none⟩ = some (.float .f64 0) := (blk_cell BK101.out 5).trans rfl
    have hcz20_6 : wr.cell? ⟨gb101, 6, none⟩ = some (.string (⟨#[]⟩ : ByteArray)) := (blk_cell BK101.out 6).trans rfl
    have hcz20_7 : wr.cell? ⟨gb101, 7, none⟩ = some (.slice none 0 0) := (blk_cell BK101.out 7).trans rfl
    have hfz20_0 := blk_frozen BK101.out 0
    have hfz20_1 := blk_frozen BK101.out 1
    have hfz20_2 := blk_frozen BK101.out 2
    have hfz20_3 := blk_frozen BK101.out 3
    have hfz20_4 := blk_frozen BK101.out 4
    have hfz20_5 := blk_frozen BK101.out 5
    have hfz20_6 := blk_frozen BK101.out 6
    have hfz20_7 := blk_frozen BK101.out 7
    obtain ⟨Ao21, co21, eo21⟩ := Kd.R_slice HO_103007.out
    subst eo21
    go_wp2
    refine bodyPost_ret (results_cell_row rfl _ _ gb101 43 #[.string a0, .int .i64 6, .bool false, .int .i64 0, .int .u64 0, .float .f64 0, .string (⟨#[]⟩ : ByteArray), .slice Ao21 x103007_1.length co21] (0, 0) _ rfl (by (with_reducible repeat (first | refine blk_drewN ?_ _ | refine blk_drew ?_ | refine blk_alloc ?_ _)); refine blk_put (cs := #[.string a0, .int .i64 6, .bool false, .int .i64 0, .int .u64 0, .float .f64 0, .string (⟨#[]⟩ : ByteArray), .slice none 0 0]) ?_ 7 _ rfl; (with_reducible repeat (first | refine blk_drewN ?_ _ | refine blk_drew ?_ | refine blk_alloc ?_ _)); refine blk_put (cs := #[.string a0, .int .i64 6, .bool false, .int .i64 0, .int .u64 0, .float .f64 0, .string (⟨#[]⟩ : ByteArray), .slice none 0 0]) ?_ 6 _ rfl; (with_reducible repeat (first | refine blk_drewN ?_ _ | refine blk_drew ?_ | refine blk_alloc ?_ _)); refine blk_put (cs := #[.string a0, .int .i64 6, .bool false, .int .i64 0, .int .u64 0, .float .f64 0, .string (⟨#[]⟩ : ByteArray), .slice none 0 0]) ?_ 5 _ rfl; (with_reducible repeat (first | refine blk_drewN ?_ _ | refine blk_drew ?_ | refine blk_alloc ?_ _)); refine blk_put (cs := #[.string a0, .int .i64 6, .bool false, .int .i64 0, .int .u64 0, .float .f64 0, .string (⟨#[]⟩ : ByteArray), .slice none 0 0]) ?_ 4 _ rfl; (with_reducible repeat (first | refine blk_drewN ?_ _ | refine blk_drew ?_ | refine blk_alloc ?_ _)); refine blk_put (cs := #[.string a0, .int .i64 6, .bool false, .int .i64 0, .int .u64 0, .float .f64 0, .string (⟨#[]⟩ : ByteArray), .slice none 0 0]) ?_ 3 _ rfl; (with_reducible repeat (first | refine blk_drewN ?_ _ | refine blk_drew ?_ | refine blk_alloc ?_ _)); refine blk_put (cs := #[.string a0, .int .i64 6, .bool false, .int .i64 0, .int .u64 0, .float .f64 0, .string (⟨#[]⟩ : ByteArray), .slice none 0 0]) ?_ 2 _ rfl; (with_reducible repeat (first | refine blk_drewN ?_ _ | refine blk_drew ?_ | refine blk_alloc ?_ _)); refine blk_put (cs := #[.string a0, .int .i64 0, .bool false, .int .i64 0, .int .u64 0, .float .f64 0, .string (⟨#[]⟩ : ByteArray), .slice none 0 0]) ?_ 1 _ rfl; (with_reducible repeat (first | refine blk_drewN ?_ _ | refine blk_drew ?_ | refine blk_alloc ?_ _)); refine blk_put (cs := #[.string (⟨#[]⟩ : ByteArray), .int .i64 0, .bool false, .int .i64 0, .int .u64 0, .float .f64 0, .string (⟨#[]⟩ : ByteArray), .slice none 0 0]) ?_ 0 _ rfl; (with_reducible repeat (first | refine blk_drewN ?_ _ | refine blk_drew ?_ | refine blk_alloc ?_ _)); exact BK101.out) Tryz.underlying43 rfl (by kernel_rfl)) rfl ?_
    exact ⟨_, by first | rfl | (simp [errW_none, errW_some] <;> rfl) | (simp [*, errW_none, errW_some] <;> rfl), by (with_reducible repeat (first | apply Kd.R_alloc | apply Kd.R_drewN | apply Kd.R_drew)); exact Kd.R_mono (Kd.R_far (p := ⟨gb101, 7, none⟩) (Kd.R_far (p := ⟨gb101, 6, none⟩) (Kd.R_far (p := ⟨gb101, 5, none⟩) (Kd.R_far (p := ⟨gb101, 4, none⟩) (Kd.R_far (p := ⟨gb101, 3, none⟩) (Kd.R_far (p := ⟨gb101, 2, none⟩) (Kd.R_far (p := ⟨gb101, 1, none⟩) (Kd.R_far (p := ⟨gb101, 0, none⟩) (Kd.R_mono HO_103007.out (fun k_ hk => (⟨hk, hk.1⟩ : _ ∧ k_ ≠ gb101))) (fun _ hk => hk.2) (.string a0)) (fun _ hk => hk.2) (.int .i64 6)) (fun _ hk => hk.2) (.bool false)) (fun _ hk => hk.2) (.int .i64 0)) (fun _ hk => hk.2) (.int .u64 0)) (fun _ hk => hk.2) (.float .f64 0)) (fun _ hk => hk.2) (.string (⟨#[]⟩ : ByteArray))) (fun _ hk => hk.2) (.slice Ao21 x103007_1.length co21)) (fun _ hk => trivial), by repeat (first | (with_reducible first | exact HB.out | apply below_alloc | apply pw_below_drewN | apply below_drew1 | refine below_set ?_ GE101.out | refine below_set ?_ GE102.out) | exact HB.out)⟩
/-! ### impl_procfsSchedstat: function 86 -/
def impl_procfsSchedstat.f (k : Nat) (a0 : ByteArray) (l1_0 : List S196) : Option (ByteArray × Int × Bool × Int × Int × Nat × ByteArray × (List (S43))) := (impl_list_pSd.f k (⟨#[67, 80, 85, 115]⟩ : ByteArray) l1_0).bind fun bt120 => (if ([] : List (S43)).length < 1466015503701 then (some (a0, 8, false, 0, 0, 0, (⟨#[]⟩ : ByteArray), (([] : List (S43)) ++ [(⟨bt120.1, bt120.2.1, bt120.2.2.1, bt120.2.2.2.1, bt120.2.2.2.2.1, bt120.2.2.2.2.2.1, bt120.2.2.2.2.2.2.1, bt120.2.2.2.2.2.2.2⟩ : S43)]))) else (none))
theorem impl_procfsSchedstat.mono : ∀ a0 a1 k, LeO (impl_procfsSchedstat.f k a0 a1) (impl_procfsSchedstat.f (k + 1) a0 a1) := by
 intro a0 a1 k
 unfold impl_procfsSchedstat.f
 repeat' first
   | (with_reducible exact impl_list_pSd.mono _ _ _)
   | (with_reducible exact LeO.refl _)
   | (with_reducible exact LeO.none _)
   | (with_reducible refine LeO.ite ?_ ?_)
   | (with_reducible refine LeO.bind ?_ (fun _ => ?_))
   | exact impl_list_pSd.mono _ _ _
   | exact LeO.none _
   | refine LeO.ite ?_ ?_
   | refine LeO.bind ?_ (fun _ => ?_)
def impl_procfsSchedstat.T2 : Bool × List (List Nat × List Nat) := (true, [([], []), ([0], [0]), ([], []), ([2], [2]), ([3], [3]), ([4], [4]), ([1, 5, 4], [1, 5]), ([0, 1, 2, 3, 4, 5, 6], []), ([7, 6, 6, 0, 1, 2, 3, 4, 5, 6], [6, 7])])
def impl_procfsSchedstat.B2 : List Nat := [0, 1, 0, 4, 12, 28, 63, 127, 255]
theorem impl_procfsSchedstat.tab2 : rtab .any (opsOf Tryz.f86 2) = impl_procfsSchedstat.T2 := by kernel_rfl
theorem impl_procfsSchedstat.bits2 : waitsOk impl_procfsSchedstat.T2.2 impl_procfsSchedstat.B2 = true := by kernel_rfl
set_option maxHeartbeats 8000000 in
set_option maxRecDepth 100000 in
theorem impl_procfsSchedstat.calls (k : Nat) (a0 : ByteArray) (A1_0 : Option Addr) (c1_0 : Nat) (l1_0 : List S196) (r1 : ByteArray) (r2 : Int) (r3 : Bool) (r4 : Int) (r5 : Int) (r6 : Nat) (r7 : ByteArray) (r8 : List (S43)) (w : World) (hr1_0 : Kd.C kpSd w A1_0 l1_0.length l1_0) (hc1_0 : l1_0.length ≤ c1_0) (h : impl_procfsSchedstat.f k a0 l1_0 = some (r1, r2, r3, r4, r5, r6, r7, r8)) :
  Calls Tryz.prog 86 #[.string a0, .agg #[.slice A1_0 l1_0.length c1_0]] w fun e w' => ∃ v7_ : Value, e = .returned (.agg #[.string r1, .int .i64 r2, .bool r3, .int .i64 r4, .int .u64 r5, .float .f64 r6, .string r7, v7_]) ∧ Kd.R k43 43 w' w.heap.size (fun _ => True) v7_ r8 ∧ Below w.heap.size w w' := by
 have hu99 := Tryz.underlying99
 have hu43 := Tryz.underlying43
 have HR1_0 := Aside0.mk hr1_0
 have HC1_0 := Aside0.mk hc1_0
 clear hr1_0 hc1_0
 have HB := Aside0.mk (Below.refl w.heap.size w)
 have H : ((impl_list_pSd.f k (⟨#[67, 80, 85, 115]⟩ : ByteArray) l1_0).bind fun bt120 => (if ([] : List (S43)).length < 1466015503701 then (some (a0, 8, false, 0, 0, 0, (⟨#[]⟩ : ByteArray), (([] : List (S43)) ++ [(⟨bt120.1, bt120.2.1, bt120.2.2.1, bt120.2.2.2.1, bt120.2.2.2.2.1, bt120.2.2.2.2.2.1, bt120.2.2.2.2.2.2.1, bt120.2.2.2.2.2.2.2⟩ : S43)]))) else (none))) = some (r1, r2, r3, r4, r5, r6, r7, r8) := h
 clear h
 replace H := Option.bind_eq_some_iff.mp H
 obtain ⟨⟨t120, t121, t122, t123, t124, t125, t126, t127⟩, A30, H⟩ := H
 replace H : (if ([] : List (S43)).length < 1466015503701 then (some (a0, 8, false, 0, 0, 0, (⟨#[]⟩ : ByteArray), (([] : List (S43)) ++ [(⟨t120, t121, t122, t123, t124, t125, t126, t127⟩ : S43)]))) else (none)) = some (r1, r2, r3, r4, r5, r6, r7, r8) := H
 have A3 := Aside0.mk A30
 clear A30
 replace H := guard_inv H
 obtain ⟨c4, H⟩ := H
 have LMc4 := Aside0.mk c4
 clear c4
 obtain ⟨y130, hy130⟩ : ∃ y_ : List (S43), y_ = (([] : List (S43)) ++ [(⟨t120, t121, t122, t123, t124, t125, t126, t127⟩ : S43)]) := ⟨_, rfl⟩
 replace H : (some (a0, 8, false, 0, 0, 0, (⟨#[]⟩ : ByteArray), y130)) = some (r1, r2, r3, r4, r5, r6, r7, r8) := by first | (rw [hy130]; with_reducible exact H) | (have H2_ := (Option.bind_some _ _).symm.trans H; rw [hy130]; with_reducible exact H2_) | (have H2_ := (Option.bind_some _ _).symm.trans H; with_reducible exact H2_) | with_reducible exact H | (rw [hy130]; exact H) | exact H
 have Ny130 := Aside0.mk hy130
 clear hy130
 simp only [Option.some.injEq, Prod.mk.injEq] at H
 obtain ⟨rfl, rfl, rfl, rfl, rfl, rfl, rfl, rfl⟩ := H
 go_enter Tryz.func86, Tryz.ntmps86
 try go_wp2_with (first | ((with_reducible refine gate_dst (N := 3) rfl ?_); refine box_event ?hg (N := 3) ?hd (cs := #[.slice A1_0 l1_0.length c1_0]) (t := 99) ?hr ?_; (case hd => rfl); (case hg => rfl); (case hr => first | (go_simp; done) | (go_simp; rfl)); intro gb117 hg w5 hbox hb; have n0_ := Aside0.mk (below_step (by repeat (first | (with_reducible first | exact HB.out | apply below_alloc | apply pw_below_drewN | apply below_drew1) | exact HB.out)) hb); have n1_ := Aside0.mk (hbox); have n2_ := Aside0.mk ((by rw [hg]; exact (below_size (by repeat (first | (with_reducible first | exact HB.out | apply below_alloc | apply pw_below_drewN | apply below_drew1) | exact HB.out))) : w.heap.size ≤ gb117)); have n3_ := Aside0.mk ((by rw [hg]; exact (below_size (by repeat (first | (with_reducible first | exact HB.out | apply below_alloc | apply pw_below_drewN | apply below_drew1) | exact HB.out))) : w.heap.size ≤ gb117)); clear HB; have HB := n0_; have BK117 := n1_; have GW117 := n2_; have GE117 := n3_; clear n0_ n1_ n2_ n3_; clear hb hbox hg) | ((with_reducible refine gate_dst (N := 4) rfl ?_); refine box_event ?hg (N := 4) ?hd (cs := #[.string (⟨#[]⟩ : ByteArray), .int .i64 0, .bool false, .int .i64 0, .int .u64 0, .float .f64 0, .string (⟨#[]⟩ : ByteArray), .slice none 0 0]) (t := 43) ?hr ?_; (case hd => rfl); (case hg => rfl); (case hr => first | (go_simp; done) | (go_simp; rfl)); intro gb118 hg w6 hbox hb; have n0_ := Aside0.mk (blk_below (g := gb117) (o := .cells #[.slice A1_0 l1_0.length c1_0] 99 (0, 0)) (by (with_reducible repeat (first | refine blk_drewN ?_ _ | refine blk_drew ?_ | refine blk_alloc ?_ _)); exact BK117.out) hb); have n1_ := Aside0.mk (below_step (by repeat (first | (with_reducible first | exact HB.out | apply below_alloc | apply pw_below_drewN | apply below_drew1 | refine below_set ?_ GE117.out) | exact HB.out)) hb); have n2_ := Aside0.mk (hbox); have n3_ := Aside0.mk ((by rw [hg]; exact (below_size (by repeat (first | (with_reducible first | exact HB.out | apply below_alloc | apply pw_below_drewN | apply below_drew1 | refine below_set ?_ GE117.out) | exact HB.out))) : w.heap.size ≤ gb118)); have n4_ := Aside0.mk ((by rw [hg]; exact (below_size (by repeat (first | (with_reducible first | exact HB.out | apply below_alloc | apply pw_below_drewN | apply below_drew1 | refine below_set ?_ GE117.out) | exact HB.out))) : w.heap.size ≤ gb118)); have n5_ := Aside0.mk ((by rw [hg]; exact Nat.ne_of_lt (blk_lt (g := gb117) (o := .cells #[.slice A1_0 l1_0.length c1_0] 99 (0, 0)) (by (with_reducible repeat (first | refine blk_drewN ?_ _ | refine blk_drew ?_ | refine blk_alloc ?_ _)); exact BK117.out)) : gb117 ≠ gb118)); have n6_ := Aside0.mk ((by rw [hg]; exact Nat.ne_of_gt (blk_lt (g := gb117) (o := .cells #[.slice A1_0 l1_0.length c1_0] 99 (0, 0)) (by (with_reducible repeat (first | refine blk_drewN ?_ _ | refine blk_drew ?_ | refine blk_alloc ?_ _)); exact BK117.out)) : gb118 ≠ gb117)); clear BK117; clear HB; have BK117 := n0_; have HB := n1_; have BK118 := n2_; have GW118 := n3_; have GE118 := n4_; have NB117_118 := n5_; have NB118_117 := n6_; clear n0_ n1_ n2_ n3_ n4_ n5_ n6_; clear hb hbox hg) | ((with_reducible refine gate_dst (N := 5) rfl ?_); refine box_event ?hg (N := 5) ?hd (cs := #[.string (⟨#[]⟩ : ByteArray), .int .i64 0, .bool false, .int .i64 0, .int .u64 0, .float .f64 0, .string (⟨#[]⟩ : ByteArray), .slice none 0 0]) (t := 43) ?hr ?_; (case hd => rfl); (case hg => rfl); (case hr => first | (go_simp; done) | (go_simp; rfl)); intro gb119 hg w7 hbox hb; have n0_ := Aside0.mk (blk_below (g := gb117) (o := .cells #[.slice A1_0 l1_0.length c1_0] 99 (0, 0)) (by (with_reducible repeat (first | refine blk_drewN ?_ _ | refine blk_drew ?_ | refine blk_alloc ?_ _)); exact BK117.out) hb); have n1_ := Aside0.mk (blk_below (g := gb118) (o := .cells #[.string (⟨#[]⟩ : ByteArray), .int .i64 0, .bool false, .int .i64 0, .int .u64 0, .float .f64 0, .string (⟨#[]⟩ : ByteArray), .slice none 0 0] 43 (0, 0)) (by (with_reducible repeat (first | refine blk_drewN ?_ _ | refine blk_drew ?_ | refine blk_alloc ?_ _)); exact BK118.out) hb); have n2_ := Aside0.mk (below_step (by repeat (first | (with_reducible first | exact HB.out | apply below_alloc | apply pw_below_drewN | apply below_drew1 | refine below_set ?_ GE117.out | refine below_set ?_ GE118.out) | exact HB.out)) hb); have n3_ := Aside0.mk (hbox); have n4_ := Aside0.mk ((by rw [hg]; exact (below_size (by repeat (first | (with_reducible first | exact HB.out | apply below_alloc | apply pw_below_drewN | apply below_drew1 | refine below_set ?_ GE117.out | refine below_set ?_ GE118.out) | exact HB.out))) : w.heap.size ≤ gb119)); have n5_ := Aside0.mk ((by rw [hg]; exact (below_size (by repeat (first | (with_reducible first | exact HB.out | apply below_alloc | apply pw_below_drewN | apply below_drew1 | refine below_set ?_ GE117.out | refine below_set ?_ GE118.out) | exact HB.out))) : w.heap.size ≤ gb119)); have n6_ := Aside0.mk ((by rw [hg]; exact Nat.ne_of_lt (blk_lt (g := gb117) (o := .cells #[.slice A1_0 l1_0.length c1_0] 99 (0, 0)) (by (with_reducible repeat (first | refine blk_drewN ?_ _ | refine blk_drew ?_ | refine blk_alloc ?_ _)); exact BK117.out)) : gb117 ≠ gb119)); have n7_ := Aside0.mk ((by rw [hg]; exact Nat.ne_of_gt (blk_lt (g := gb117) (o := .cells #[.slice A1_0 l1_0.length c1_0] 99 (0, 0)) (by (with_reducible repeat (first | refine blk_drewN ?_ _ | refine blk_drew ?_ | refine blk_alloc ?_ _)); exact BK117.out)) : gb119 ≠ gb117)); have n8_ := Aside0.mk ((by rw [hg]; exact Nat.ne_of_lt (blk_lt (g := gb118) (o := .cells #[.string (⟨#[]⟩ : ByteArray), .int .i64 0, .bool false, .int .i64 0, .int .u64 0, .float .f64 0, .string (⟨#[]⟩ : ByteArray), .slice none 0 0] 43 (0, 0)) (by (with_reducible repeat (first | refine blk_drewN ?_ _ | refine blk_drew ?_ | refine blk_alloc ?_ _)); exact BK118.out)) : gb118 ≠ gb119)); have n9_ := Aside0.mk ((by rw [hg]; exact Nat.ne_of_gt (blk_lt (g := gb118) (o := .cells #[.string (⟨#[]⟩ : ByteArray), .int .i64 0, .bool false, .int .i64 0, .int .u64 0, .float .f64 0, .string (⟨#[]⟩ : ByteArray), .slice none 0 0] 43 (0, 0)) (by (with_reducible repeat (first | refine blk_drewN ?_ _ | refine blk_drew ?_ | refine blk_alloc ?_ _)); exact BK118.out)) : gb119 ≠ gb118)); clear BK117; clear BK118; clear HB; have BK117 := n0_; have BK118 := n1_; have HB := n2_; have BK119 := n3_; have GW119 := n4_; have GE119 := n5_; have NB117_119 := n6_; have NB119_117 := n7_; have NB118_119 := n8_; have NB119_118 := n9_; clear n0_ n1_ n2_ n3_ n4_ n5_ n6_ n7_ n8_ n9_; clear hb hbox hg; have hnb8 := NB119_117.out; have hnc8 := NB117_119.out; have hnb9 := NB119_118.out; have hnc9 := NB118_119.out; have hcz10_0 : w7.cell? ⟨gb119, 0, none⟩ = some (.string (⟨#[]⟩ : ByteArray)) := (blk_cell BK119.out 0).trans rfl; have hcz10_1 : w7.cell? ⟨gb119, 1, none⟩ = some (.int .i64 0) := (blk_cell BK119.out 1).trans rfl; have hcz10_2 : w7.cell? ⟨gb119, 2, none⟩ = some (.bool false) := (blk_cell BK119.out 2).trans rfl; have hcz10_3 : w7.cell? ⟨gb119, 3, none⟩ = some (.int .i64 0) := (blk_cell BK119.out 3).trans rfl; have hcz10_4 : w7.cell? ⟨gb119, 4, none⟩ = some (.int .u64 0) := (blk_cell BK119.out 4).trans rfl; have hcz10_5 : w7.cell? ⟨gb119, 5, none⟩ = some (.float .f64 0) := (blk_cell BK119.out 5).trans rfl; have hcz10_6 : w7.cell? ⟨gb119, 6, none⟩ = some (.string (⟨#[]⟩ : ByteArray)) := (blk_cell BK119.out 6).trans rfl; have hcz10_7 : w7.cell? ⟨gb119, 7, none⟩ = some (.slice none 0 0) := (blk_cell BK119.out 7).trans rfl; have hfz10_0 := blk_frozen BK119.out 0; have hfz10_1 := blk_frozen BK119.out 1; have hfz10_2 := blk_frozen BK119.out 2; have hfz10_3 := blk_frozen BK119.out 3; have hfz10_4 := blk_frozen BK119.out 4; have hfz10_5 := blk_frozen BK119.out 5; have hfz10_6 := blk_frozen BK119.out 6; have hfz10_7 := blk_frozen BK119.out 7))
 have n0_ : Aside0 (((((((((w7.setCell ⟨gb119, 0, none⟩ (.string a0)).setCell ⟨gb119, 1, none⟩ (.int .i64 8)).setCell ⟨gb119, 2, none⟩ (.bool false)).setCell ⟨gb119, 3, none⟩ (.int .i64 0)).setCell ⟨gb119, 4, none⟩ (.int .u64 0)).setCell ⟨gb119, 5, none⟩ (.float .f64 0)).setCell ⟨gb119, 6, none⟩ (.string (⟨#[]⟩ : ByteArray))).setCell ⟨gb119, 7, none⟩ (.slice none 0 0)).heap[gb117]? = some (.cells #[.slice A1_0 l1_0.length c1_0] 99 (0, 0))) := ⟨by (with_reducible repeat (first | refine blk_drewN ?_ _ | refine blk_drew ?_ | refine blk_alloc ?_ _)); refine blk_far ?_ NB117_119.out _; (with_reducible repeat (first | refine blk_drewN ?_ _ | refine blk_drew ?_ | refine blk_alloc ?_ _)); refine blk_far ?_ NB117_119.out _; (with_reducible repeat (first | refine blk_drewN ?_ _ | refine blk_drew ?_ | refine blk_alloc ?_ _)); refine blk_far ?_ NB117_119.out _; (with_reducible repeat (first | refine blk_drewN ?_ _ | refine blk_drew ?_ | refine blk_alloc ?_ _)); refine blk_far ?_ NB117_119.out _; (with_reducible repeat (first | refine blk_drewN ?_ _ | refine blk_drew ?_ | refine blk_alloc ?_ _)); refine blk_far ?_ NB117_119.out _; (with_reducible repeat (first | refine blk_drewN ?_ _ | refine blk_drew ?_ | refine blk_alloc ?_ _)); refine blk_far ?_ NB117_119.out _; (with_reducible repeat (first | refine blk_drewN ?_ _ | refine blk_drew ?_ | refine blk_alloc ?_ _)); refine blk_far ?_ NB117_119.out _; (with_reducible repeat (first | refine blk_drewN ?_ _ | refine blk_drew ?_ | refine blk_alloc ?_ _)); refine blk_far ?_ NB117_119.out _; (with_reducible repeat (first | refine blk_drewN ?_ _ | refine blk_drew ?_ | refine blk_alloc ?_ _)); exact BK117.out⟩
 have n1_ : Aside0 (((((((((w7.setCell ⟨gb119, 0, none⟩ (.string a0)).setCell ⟨gb119, 1, none⟩ (.int .i64 8)).setCell ⟨gb119, 2, none⟩ (.bool false)).setCell ⟨gb119, 3, none⟩ (.int .i64 0)).setCell ⟨gb119, 4, none⟩ (.int .u64 0)).setCell ⟨gb119, 5, none⟩ (.float .f64 0)).setCell ⟨gb119, 6, none⟩ (.string (⟨#[]⟩ : ByteArray))).setCell ⟨gb119, 7, none⟩ (.slice none 0 0)).heap[gb118]? = some (.cells #[.string (⟨#[]⟩ : ByteArray), .int .i64 0, .bool false, .int .i64 0, .int .u64 0, .float .f64 0, .string (⟨#[]⟩ : ByteArray), .slice none 0 0] 43 (0, 0))) := ⟨by (with_reducible repeat (first | refine blk_drewN ?_ _ | refine blk_drew ?_ | refine blk_alloc ?_ _)); refine blk_far ?_ NB118_119.out _; (with_reducible repeat (first | refine blk_drewN ?_ _ | refine blk_drew ?_ | refine blk_alloc ?_ _)); refine blk_far ?_ NB118_119.out _; (with_reducible repeat (first | refine blk_drewN ?_ _ | refine blk_drew ?_ | refine blk_alloc ?_ _)); refine blk_far ?_ NB118_119.out _; (with_reducible repeat (first | refine blk_drewN ?_ _ | refine blk_drew ?_ | refine blk_alloc ?_ _)); refine blk_far ?_ NB118_119.out _; (with_reducible repeat (first | refine blk_drewN ?_ _ | refine blk_drew ?_ | refine blk_alloc ?_ _)); refine blk_far ?_ NB118_119.out _; (with_reducible repeat (first | refine blk_drewN ?_ _ | refine blk_drew ?_ | refine blk_alloc ?_ _)); refine blk_far ?_ NB118_119.out _; (with_reducible repeat (first | refine blk_drewN ?_ _ | refine blk_drew ?_ | refine blk_alloc ?_ _)); refine blk_far ?_ NB118_119.out _; (with_reducible repeat (first | refine blk_drewN ?_ _ | refine blk_drew ?_ | refine blk_alloc ?_ _)); refine blk_far ?_ NB118_119.out _; (with_reducible repeat (first | refine blk_drewN ?_ _ | refine blk_drew ?_ | refine blk_alloc ?_ _)); exact BK118.out⟩
 have n2_ : Aside0 (((((((((w7.setCell ⟨gb119, 0, none⟩ (.string a0)).setCell ⟨gb119, 1, none⟩ (.int .i64 8)).setCell ⟨gb119, 2, none⟩ (.bool false)).setCell ⟨gb119, 3, none⟩ (.int .i64 0)).setCell ⟨gb119, 4, none⟩ (.int .u64 0)).setCell ⟨gb119, 5, none⟩ (.float .f64 0)).setCell ⟨gb119, 6, none⟩ (.string (⟨#[]⟩ : ByteArray))).setCell ⟨gb119, 7, none⟩ (.slice none 0 0)).heap[gb119]? = some (.cells #[.string a0, .int .i64 8, .bool false, .int .i64 0, .int .u64 0, .float .f64 0, .string (⟨#[]⟩ : ByteArray), .slice none 0 0] 43 (0, 0))) := ⟨by (with_reducible repeat (first | refine blk_drewN ?_ _ | refine blk_drew ?_ | refine blk_alloc ?_ _)); refine blk_put (cs := #[.string a0, .int .i64 8, .bool false, .int .i64 0, .int .u64 0, .float .f64 0, .string (⟨#[]⟩ : ByteArray), .slice none 0 0]) ?_ 7 _ rfl; (with_reducible repeat (first | refine blk_drewN ?_ _ | refine blk_drew ?_ | refine blk_alloc ?_ _)); refine blk_put (cs := #[.string a0, .int .i64 8, .bool false, .int .i64 0, .int .u64 0, .float .f64 0, .string (⟨#[]⟩ : ByteArray), .slice none 0 0]) ?_ 6 _ rfl; (with_reducible repeat (first | refine blk_drewN ?_ _ | refine blk_drew ?_ | refine blk_alloc ?_ _)); refine blk_put (cs := #[.string a0, .int .i64 8, .bool false, .int .i64 0, .int .u64 0, .float .f64 0, .string (⟨#[]⟩ : ByteArray), .slice none 0 0]) ?_ 5 _ rfl; (with_reducible repeat (first | refine blk_drewN ?_ _ | refine blk_drew ?_ | refine blk_alloc ?_ _)); refine blk_put (cs := #[.string a0, .int .i64 8, .bool false, .int .i64 0, .int .u64 0, .float .f64 0, .string (⟨#[]⟩ : ByteArray), .slice none 0 0]) ?_ 4 _ rfl; (with_reducible repeat (first | refine blk_drewN ?_ _ | refine blk_drew ?_ | refine blk_alloc ?_ _)); refine blk_put (cs := #[.string a0, .int .i64 8, .bool false, .int .i64 0, .int .u64 0, .float .f64 0, .string (⟨#[]⟩ : ByteArray), .slice none 0 0]) ?_ 3 _ rfl; (with_reducible repeat (first | refine blk_drewN ?_ _ | refine blk_drew ?_ | refine blk_alloc ?_ _)); refine blk_put (cs := #[.string a0, .int .i64 8, .bool false, .int .i64 0, .int .u64 0, .float .f64 0, .string (⟨#[]⟩ : ByteArray), .slice none 0 0]) ?_ 2 _ rfl; (with_reducible repeat (first | refine blk_drewN ?_ _ | refine blk_drew ?_ | refine blk_alloc ?_ _)); refine blk_put (cs := #[.string a0, .int .i64 0, .bool false, .int .i64 0, .int .u64 0, .float .f64 0, .string (⟨#[]⟩ : ByteArray), .slice none 0 0]) ?_ 1 _ rfl; (with_reducible repeat (first | refine blk_drewN ?_ _ | refine blk_drew ?_ | refine blk_alloc ?_ _)); refine blk_put (cs := #[.string (⟨#[]⟩ : ByteArray), .int .i64 0, .bool false, .int .i64 0, .int .u64 0, .float .f64 0, .string (⟨#[]⟩ : ByteArray), .slice none 0 0]) ?_ 0 _ rfl; (with_reducible repeat (first | refine blk_drewN ?_ _ | refine blk_drew ?_ | refine blk_alloc ?_ _)); exact BK119.out⟩
 have n3_ : Aside0 (Below w.heap.size w ((((((((w7.setCell ⟨gb119, 0, none⟩ (.string a0)).setCell ⟨gb119, 1, none⟩ (.int .i64 8)).setCell ⟨gb119, 2, none⟩ (.bool false)).setCell ⟨gb119, 3, none⟩ (.int .i64 0)).setCell ⟨gb119, 4, none⟩ (.int .u64 0)).setCell ⟨gb119, 5, none⟩ (.float .f64 0)).setCell ⟨gb119, 6, none⟩ (.string (⟨#[]⟩ : ByteArray))).setCell ⟨gb119, 7, none⟩ (.slice none 0 0))) := ⟨by repeat (first | (with_reducible first | exact HB.out | apply below_alloc | apply pw_below_drewN | apply below_drew1 | refine below_set ?_ GE117.out | refine below_set ?_ GE118.out | refine below_set ?_ GE119.out) | exact HB.out)⟩
 (try clear BK117)
 (try clear BK118)
 (try clear BK119)
 (try clear HB)
 generalize ((((((((w7.setCell ⟨gb119, 0, none⟩ (.string a0)).setCell ⟨gb119, 1, none⟩ (.int .i64 8)).setCell ⟨gb119, 2, none⟩ (.bool false)).setCell ⟨gb119, 3, none⟩ (.int .i64 0)).setCell ⟨gb119, 4, none⟩ (.int .u64 0)).setCell ⟨gb119, 5, none⟩ (.float .f64 0)).setCell ⟨gb119, 6, none⟩ (.string (⟨#[]⟩ : ByteArray))).setCell ⟨gb119, 7, none⟩ (.slice none 0 0)) = w11 at n0_ n1_ n2_ n3_ ⊢
 have BK117 := n0_
 have BK118 := n1_
 have BK119 := n2_
 have HB := n3_
 clear n0_ n1_ n2_ n3_
 have n0_ := Aside0.mk (blk_drew BK117.out)
 have n1_ := Aside0.mk (blk_drew BK118.out)
 have n2_ := Aside0.mk (blk_drew BK119.out)
 have n3_ := Aside0.mk (below_drew1 HB.out)
 clear BK117
 clear BK118
 clear BK119
 clear HB
 have BK117 := n0_
 have BK118 := n1_
 have BK119 := n2_
 have HB := n3_
 clear n0_ n1_ n2_ n3_
 refine start_ (n := 9) (S := fun w' => w'.cell? ⟨gb119, 0, none⟩ = some (.string a0) ∧ w'.cell? ⟨gb119, 1, none⟩ = some (.int .i64 8) ∧ w'.cell? ⟨gb119, 2, none⟩ = some (.bool false) ∧ w'.cell? ⟨gb119, 3, none⟩ = some (.int .i64 0) ∧ w'.cell? ⟨gb119, 4, none⟩ = some (.int .u64 0) ∧ w'.cell? ⟨gb119, 5, none⟩ = some (.float .f64 0) ∧ w'.cell? ⟨gb119, 6, none⟩ = some (.string (⟨#[]⟩ : ByteArray)) ∧ w'.cell? ⟨gb119, 7, none⟩ = some (.slice none 0 0) ∧ w'.cell? ⟨gb117, 0, none⟩ = some (.slice A1_0 l1_0.length c1_0)) (ds := [8]) (bb [0, 9]) (by kernel_rfl) rfl rfl ⟨(blk_cell BK119.out 0).trans rfl, (blk_cell BK119.out 1).trans rfl, (blk_cell BK119.out 2).trans rfl, (blk_cell BK119.out 3).trans rfl, (blk_cell BK119.out 4).trans rfl, (blk_cell BK119.out 5).trans rfl, (blk_cell BK119.out 6).trans rfl, (blk_cell BK119.out 7).trans rfl, (blk_cell BK117.out 0).trans rfl⟩ (fun hHeld => ?_); refine with_tabW impl_procfsSchedstat.tab2 impl_procfsSchedstat.bits2 (fun HT_ HW_ => ?_)
 generalize w11.drew = w12 at BK117 BK118 BK119 HB hHeld ⊢
 refine pure_ (i := 0) (N := some 8) (v := ?_) (a' := ?_) (bb [1, 8]) rfl rfl (any_of HT_.out (by kernel_rfl)) (fun _ _ _ h => h) (Or.inl ⟨by rfl, ?_⟩) ?_ ?_
 rotate_left
 ·intro w'
  go_simp
  with_reducible rfl
 rotate_left
 ·simp only [Act.put, List.setIfInBounds_toArray, List.set_cons_zero, List.set_cons_succ, i64_w, i32_w]
  rfl
 refine pure_ (i := 2) (N := some 10) (v := ?_) (a' := ?_) (bb [1, 1, 1, 6]) rfl rfl (any_of HT_.out (by kernel_rfl)) (fun _ _ _ h => h) (Or.inl ⟨by rfl, ?_⟩) ?_ ?_
 rotate_left
 ·intro w'
  go_simp
  with_reducible rfl
 rotate_left
 ·simp only [Act.put, List.setIfInBounds_toArray, List.set_cons_zero, List.set_cons_succ, i64_w, i32_w]
  rfl
 refine take_ (i := 1) (N := some 9) (v := ?_) (a' := ?_) (bb [3, 6]) rfl rfl (take_ofW HT_.out HW_.out (by kernel_rfl)) (fun _ _ _ h => h) (Or.inl ⟨by rfl, ?_⟩) hHeld ?_ ?_
 rotate_left
 ·rintro w' ⟨s0, s1, s2, s3, s4, s5, s6, s7, s8⟩
  go_simp
  with_reducible rfl
 rotate_left
 ·simp only [Act.put, List.setIfInBounds_toArray, List.set_cons_zero, List.set_cons_succ, i64_w, i32_w]
  rfl
 refine take_ (i := 3) (N := some 11) (v := ?_) (a' := ?_) (bb [4, 5]) rfl rfl (take_ofW HT_.out HW_.out (by kernel_rfl)) (fun _ _ _ h => h) (Or.inl ⟨by rfl, ?_⟩) hHeld ?_ ?_
 rotate_left
 ·rintro w' ⟨s0, s1, s2, s3, s4, s5, s6, s7, s8⟩
  go_simp
  with_reducible rfl
 rotate_left
 ·simp only [Act.put, List.setIfInBounds_toArray, List.set_cons_zero, List.set_cons_succ, i64_w, i32_w]
  rfl
 refine one_ (i := 4) (N := some 12) (bb [5, 4]) rfl rfl (one_of HT_.out (by kernel_rfl)) (by decide) (fun K hK => ?_)
 refine goes_ Tryz.func159 (by kernel_rfl) rfl #[.string (⟨#[67, 80, 85, 115]⟩ : ByteArray), .slice A1_0 l1_0.length c1_0, .func (.func 160) #[] #[]] (by rfl) rfl rfl (by (try simp only [List.map_toArray, List.map_cons, List.map_nil]); first | done | rfl | (simp only [List.length_drop, List.length_take]; rfl)) ?_
 with_reducible refine (impl_list_pSd.calls k (⟨#[67, 80, 85, 115]⟩ : ByteArray) _ _ l1_0 t120 t121 t122 t123 t124 t125 t126 t127 _ ?side1 ?side2 A3.out).mono ?_
 (case side1 => repeat (first | exact (Kd.C_below HR1_0.out HB.out) | (with_reducible refine Kd.C_alloc ?_ _) | (with_reducible refine Kd.C_drewN ?_ _) | (with_reducible refine Kd.C_drew ?_)))
 (case side2 => exact HC1_0.out)
 rintro e w13 ⟨v128, rfl, ho0, hb⟩
 refine ⟨_, rfl, ?_⟩
 have n0_ := Aside0.mk (Kd.R_lower (Kd.R_newB (Kd.R_newB ho0 (g := gb118) (o := .cells #[.string (⟨#[]⟩ : ByteArray), .int .i64 0, .bool false, .int .i64 0, .int .u64 0, .float .f64 0, .string (⟨#[]⟩ : ByteArray), .slice none 0 0] 43 (0, 0)) (by (with_reducible repeat (first | refine blk_drewN ?_ _ | refine blk_drew ?_ | refine blk_alloc ?_ _)); exact BK118.out)) (g := gb119) (o := .cells #[.string a0, .int .i64 8, .bool false, .int .i64 0, .int .u64 0, .float .f64 0, .string (⟨#[]⟩ : ByteArray), .slice none 0 0] 43 (0, 0)) (by (with_reducible repeat (first | refine blk_drewN ?_ _ | refine blk_drew ?_ | refine blk_alloc ?_ _)); exact BK119.out)) (below_size (by repeat (first | (with_reducible first | exact HB.out | apply below_alloc | apply pw_below_drewN | apply below_drew1 | refine below_set ?_ GE117.out | refine below_set ?_ GE118.out | refine below_set ?_ GE119.out) | exact HB.out))))
 have n1_ := Aside0.mk (blk_below (g := gb117) (o := .cells #[.slice A1_0 l1_0.length c1_0] 99 (0, 0)) (by (with_reducible repeat (first | refine blk_drewN ?_ _ | refine blk_drew ?_ | refine blk_alloc ?_ _)); exact BK117.out) hb)
 have n2_ := Aside0.mk (blk_below (g := gb118) (o := .cells #[.string (⟨#[]⟩ : ByteArray), .int .i64 0, .bool false, .int .i64 0, .int .u64 0, .float .f64 0, .string (⟨#[]⟩ : ByteArray), .slice none 0 0] 43 (0, 0)) (by (with_reducible repeat (first | refine blk_drewN ?_ _ | refine blk_drew ?_ | refine blk_alloc ?_ _)); exact BK118.out) hb)
 have n3_ := Aside0.mk (blk_below (g := gb119) (o := .cells #[.string a0, .int .i64 8, .bool false, .int .i64 0, .int .u64 0, .float .f64 0, .string (⟨#[]⟩ : ByteArray), .slice none 0 0] 43 (0, 0)) (by (with_reducible repeat (first | refine blk_drewN ?_ _ | refine blk_drew ?_ | refine blk_alloc ?_ _)); exact BK119.out) hb)
 have n4_ := Aside0.mk (below_step (by repeat (first | (with_reducible first | exact HB.out | apply below_alloc | apply pw_below_drewN | apply below_drew1 | refine below_set ?_ GE117.out | refine below_set ?_ GE118.out | refine below_set ?_ GE119.out) | exact HB.out)) hb)
 clear BK117
 clear BK118
 clear BK119
 clear HB
 have HO129 := n0_
 have BK117 := n1_
 have BK118 := n2_
 have BK119 := n3_
 have HB := n4_
 clear n0_ n1_ n2_ n3_ n4_
 (try clear hb)
 (try clear hb2)
 (try clear hk)
 (try clear hi)
 (try clear ho0)
 obtain ⟨Ao15, co15, eo15⟩ := Kd.R_slice HO129.out
 (first | subst eo15 | (injection eo15 with f1_ f2_ f3_; have f4_ := f1_.symm; have f5_ := f3_.symm; clear f1_ f2_ f3_; subst f4_; subst f5_))
 refine hK.out _ _ ⟨(blk_cell BK119.out 0).trans rfl, (blk_cell BK119.out 1).trans rfl, (blk_cell BK119.out 2).trans rfl, (blk_cell BK119.out 3).trans rfl, (blk_cell BK119.out 4).trans rfl, (blk_cell BK119.out 5).trans rfl, (blk_cell BK119.out 6).trans rfl, (blk_cell BK119.out 7).trans rfl, (blk_cell BK117.out 0).trans rfl⟩ (fun hHeld => ?_)
 clear hK K
 refine norm_ (a' := ?_) ?_ ?_
 rotate_left
 ·show Act.put _ (some 12) _ = _
  simp only [Act.put, List.setIfInBounds_toArray, List.set_cons_zero, List.set_cons_succ, i64_w, i32_w]
  rfl
 refine one_ (i := 5) (N := some 13) (bb [6, 3]) rfl rfl (one_of HT_.out (by kernel_rfl)) (by decide) (fun K hK => ?_)
 refine value_ (w1 := ?_) (v := ?_) (by rfl) rfl ?_ ?_
 rotate_left 2
 ·go_simp
  constructor
  ·rfl
  ·rfl
 refine hK.out _ _ ⟨(blk_cell (blk_alloc BK119.out _) 0).trans rfl, (blk_cell (blk_alloc BK119.out _) 1).trans rfl, (blk_cell (blk_alloc BK119.out _) 2).trans rfl, (blk_cell (blk_alloc BK119.out _) 3).trans rfl, (blk_cell (blk_alloc BK119.out _) 4).trans rfl, (blk_cell (blk_alloc BK119.out _) 5).trans rfl, (blk_cell (blk_alloc BK119.out _) 6).trans rfl, (blk_cell (blk_alloc BK119.out _) 7).trans rfl, (blk_cell (blk_alloc BK117.out _) 0).trans rfl⟩ (fun hHeld => ?_)
 clear hK K
 refine norm_ (a' := ?_) ?_ ?_
 rotate_left
 ·show Act.put _ (some 13) _ = _
  simp only [Act.put, List.setIfInBounds_toArray, List.set_cons_zero, List.set_cons_succ, i64_w, i32_w]
  rfl
 refine one_ (i := 6) (N := some 14) (bb [7, 2]) rfl rfl (one_of HT_.out (by kernel_rfl)) (by decide) (fun K hK => ?_)
 refine Kd.R_append_step k43 (w0 := w) w.heap.size (by rfl) (.tmp 9) (.tmp 13) 41 43 (.agg #[(.string ⟨#[]⟩), (.int .i64 0), (.bool false), (.int .i64 0), (.int .u64 0), (.float .f64 0), (.string ⟨#[]⟩), (.slice none 0 0)]) 96 rfl Tryz.underlying41 info43 rfl (by decide) (by omega) (.slice none 0 0) ([] : List (S43)) (⟨t120, t121, t122, t123, t124, t125, t126, t127⟩ : S43) [.string t120, .int .i64 t121, .bool t122, .int .i64 t123, .int .u64 t124, .float .f64 t125, .string t126, .slice Ao15 t127.length co15] (fun k_ => k_ ≠ gb118 ∧ k_ ≠ gb119) (fun k_ => ((fun k_ => k_ ≠ gb118 ∧ k_ ≠ gb119)) k_ ∧ some k_ ≠ (.slice none 0 0 : Value).ownBlock) rfl rfl ?aP (fun _ hk => hk) ?aF ?aO ?aB ?aS ?aL ?_
 (case aP => exact k43_mkM _ _ _ (⟨t120, t121, t122, t123, t124, t125, t126, t127⟩ : S43) (Kd.R_mono (HO129.out) (fun k_ hk => ⟨⟨hk.1.2, hk.2⟩, (by simp [Value.ownBlock])⟩)))
 (case aB => exact (by repeat (first | (with_reducible first | exact HB.out | apply below_alloc | apply pw_below_drewN | apply below_drew1 | refine below_set ?_ GE117.out | refine below_set ?_ GE118.out | refine below_set ?_ GE119.out) | exact HB.out)))
 (case aF => exact (fun k_ hk => ⟨Kd.freshB (g := gb118) (o := .cells #[.string (⟨#[]⟩ : ByteArray), .int .i64 0, .bool false, .int .i64 0, .int .u64 0, .float .f64 0, .string (⟨#[]⟩ : ByteArray), .slice none 0 0] 43 (0, 0)) (by (with_reducible repeat (first | refine blk_drewN ?_ _ | refine blk_drew ?_ | refine blk_alloc ?_ _)); exact BK118.out) k_ hk, Kd.freshB (g := gb119) (o := .cells #[.string a0, .int .i64 8, .bool false, .int .i64 0, .int .u64 0, .float .f64 0, .string (⟨#[]⟩ : ByteArray), .slice none 0 0] 43 (0, 0)) (by (with_reducible repeat (first | refine blk_drewN ?_ _ | refine blk_drew ?_ | refine blk_alloc ?_ _)); exact BK119.out) k_ hk⟩))
 (case aO => exact ((Kd.R_nil _ _ _ _ (fun k_ => k_ ≠ gb118 ∧ k_ ≠ gb119))))
 (case aS => exact (below_size (by repeat (first | (with_reducible first | exact HB.out | apply below_alloc | apply pw_below_drewN | apply below_drew1 | refine below_set ?_ GE117.out | refine below_set ?_ GE118.out | refine below_set ?_ GE119.out) | exact HB.out))))
 (case aL => have := LMc4.out; omega)
 intro v131 w14 ho hb hg hat
 rw [← Ny130.out] at ho
 have n0_ := Aside0.mk (blk_grown (g := gb117) (o := .cells #[.slice A1_0 l1_0.length c1_0] 99 (0, 0)) (by (with_reducible repeat (first | refine blk_drewN ?_ _ | refine blk_drew ?_ | refine blk_alloc ?_ _)); exact BK117.out) hg (by simp [Value.ownBlock]))
 have n1_ := Aside0.mk (blk_grown (g := gb118) (o := .cells #[.string (⟨#[]⟩ : ByteArray), .int .i64 0, .bool false, .int .i64 0, .int .u64 0, .float .f64 0, .string (⟨#[]⟩ : ByteArray), .slice none 0 0] 43 (0, 0)) (by (with_reducible repeat (first | refine blk_drewN ?_ _ | refine blk_drew ?_ | refine blk_alloc ?_ _)); exact BK118.out) hg (by simp [Value.ownBlock]))
 have n2_ := Aside0.mk (blk_grown (g := gb119) (o := .cells #[.string a0, .int .i64 8, .bool false, .int .i64 0, .int .u64 0, .float .f64 0, .string (⟨#[]⟩ : ByteArray), .slice none 0 0] 43 (0, 0)) (by (with_reducible repeat (first | refine blk_drewN ?_ _ | refine blk_drew ?_ | refine blk_alloc ?_ _)); exact BK119.out) hg (by simp [Value.ownBlock]))
 have n3_ := Aside0.mk (hb)
 have n4_ := Aside0.mk (ho)
 clear BK117
 clear BK118
 clear BK119
 clear HB
 clear HO129
 have BK117 := n0_
 have BK118 := n1_
 have BK119 := n2_
 have HB := n3_
 have HO132 := n4_
 clear n0_ n1_ n2_ n3_ n4_
 clear ho hb hg hat
 obtain ⟨Ao16, co16, eo16⟩ := Kd.R_slice HO132.out
 (first | subst eo16 | (injection eo16 with f1_ f2_ f3_; have f4_ := f1_.symm; have f5_ := f3_.symm; clear f1_ f2_ f3_; subst f4_; subst f5_))
 refine hK.out _ _ ⟨(blk_cell BK119.out 0).trans rfl, (blk_cell BK119.out 1).trans rfl, (blk_cell BK119.out 2).trans rfl, (blk_cell BK119.out 3).trans rfl, (blk_cell BK119.out 4).trans rfl, (blk_cell BK119.out 5).trans rfl, (blk_cell BK119.out 6).trans rfl, (blk_cell BK119.out 7).trans rfl, (blk_cell BK117.out 0).trans rfl⟩ (fun hHeld => ?_)
 clear hK K
 refine norm_ (a' := ?_) ?_ ?_
 rotate_left
 ·show Act.put _ (some 14) _ = _
  simp only [Act.put, List.setIfInBounds_toArray, List.set_cons_zero, List.set_cons_succ, i64_w, i32_w]
  rfl
 refine pure_ (i := 7) (N := some 15) (v := ?_) (a' := ?_) (bb [8, 1]) rfl rfl (any_of HT_.out (by kernel_rfl)) (fun _ _ _ h => h) (Or.inl ⟨by rfl, ?_⟩) ?_ ?_
 rotate_left
 ·intro w'
  go_simp
  with_reducible rfl
 rotate_left
 ·simp only [Act.put, List.setIfInBounds_toArray, List.set_cons_zero, List.set_cons_succ, i64_w, i32_w]
  rfl
 refine last_ (i := 8) (N := none) (bb [9]) rfl rfl (one_of HT_.out (by kernel_rfl)) (by decide) (fun K hK => ?_)
 have hs17 : w14.cell? ⟨gb119, 7, none⟩ = some (.slice none 0 0) := (blk_cell BK119.out 7).trans rfl
 have hfs17 := blk_frozen BK119.out 7
 have hns17_0 := NB117_119.out
 have hns17_1 := NB118_119.out
 have hms17_0 := NB119_117.out
 have hms17_1 := NB119_118.out
 refine skip_ (w1 := ?_) (by rfl) rfl ?_ ?_
 rotate_left
 ·go_simp
  rfl
 refine hK.out _ _ ?_
 clear hK K
 refine done_ (done_of HT_.out (by kernel_rfl)) ?_
 have hcz18_0 : w14.cell? ⟨gb119, 0, none⟩ = some (.string a0) := (blk_cell BK119.out 0).trans rfl
 have hcz18_1 : w14.cell? ⟨gb119, 1, none⟩ = some (.int .i64 8) := (blk_cell BK119.out 1).trans rfl
 have hcz18_2 : w14.cell? ⟨gb119, 2, none⟩ = some (.bool false) := (blk_cell BK119.out 2).trans rfl
 have hcz18_3 : w14.cell? ⟨gb119, 3, none⟩ = some (.int .i64 0) := (blk_cell BK119.out 3).trans rfl
 have hcz18_4 : w14.cell? ⟨gb119, 4, none⟩ = some (.int .u64 0) := (blk_cell BK119.out 4).trans rfl
 have hcz18_5 : w14.cell? ⟨gb119, 5, none⟩ = some (.float .f64 0) := (blk_cell BK119.out 5).trans rfl
 have hcz18_6 : w14.cell? ⟨gb119, 6, none⟩ = some (.string (⟨#[]⟩ : ByteArray)) := (blk_cell BK119.out 6).trans rfl
 have hcz18_7 : w14.cell? ⟨gb119, 7, none⟩ = some (.slice none 0 0) := (blk_cell BK119.out 7).trans rfl
 have hfz18_0 := blk_frozen BK119.out 0
 have hfz18_1 := blk_frozen BK119.out 1
 have hfz18_2 := blk_frozen BK119.out 2
 have hfz18_3 := blk_frozen BK119.out 3
 have hfz18_4 := blk_frozen BK119.out 4
 have hfz18_5 := blk_frozen BK119.out 5
 have hfz18_6 := blk_frozen BK119.out 6
 have hfz18_7 := blk_frozen BK119.out 7
 have hnb19 := NB118_117.out
 have hnc19 := NB117_118.out
 have hcz20_0 : w14.cell? ⟨gb118, 0, none⟩ = some (.string (⟨#[]⟩ : ByteArray)) := (blk_cell BK118.out 0).trans rfl
 have hcz20_1 : w14.cell? ⟨gb118, 1, none⟩ = some (.int .i64 0) := (blk_cell BK118.out 1).trans rfl
 have hcz20_2 : w14.cell? ⟨gb118, 2, none⟩ = some (.bool false) := (blk_cell BK118.out 2).trans rfl
 have hcz20_3 : w14.cell? ⟨gb118, 3, none⟩ = some (.int .i64 0) := (blk_cell BK118.out 3).trans rfl
 have hcz20_4 : w14.cell? ⟨gb118, 4, none⟩ = some (.int .u64 0) := (blk_cell BK118.out 4).trans rfl
 have hcz20_5 : w14.cell? ⟨gb118, 5, none⟩ = some (.float .f64 0) := (blk_cell BK118.out 5).trans rfl
 have hcz20_6 : w14.cell? ⟨gb118, 6, none⟩ = some (.string (⟨#[]⟩ : ByteArray)) := (blk_cell BK118.out 6).trans rfl
 have hcz20_7 : w14.cell? ⟨gb118, 7, none⟩ = some (.slice none 0 0) := (blk_cell BK118.out 7).trans rfl
 have hfz20_0 := blk_frozen BK118.out 0
 have hfz20_1 := blk_frozen BK118.out 1
 have hfz20_2 := blk_frozen BK118.out 2
 have hfz20_3 := blk_frozen BK118.out 3
 have hfz20_4 := blk_frozen BK118.out 4
 have hfz20_5 := blk_frozen BK118.out 5
 have hfz20_6 := blk_frozen BK118.out 6
 have hfz20_7 := blk_frozen BK118.out 7
 try go_wp2
 refine bodyPost_ret (results_cell_row rfl _ _ gb118 43 #[.string a0, .int .i64 8, .bool false, .int .i64 0, .int .u64 0, .float .f64 0, .string (⟨#[]⟩ : ByteArray), .slice Ao16 y130.length co16] (0, 0) _ rfl (by (with_reducible repeat (first | refine blk_drewN ?_ _ | refine blk_drew ?_ | refine blk_alloc ?_ _)); refine blk_put (cs := #[.string a0, .int .i64 8, .bool false, .int .i64 0, .int .u64 0, .float .f64 0, .string (⟨#[]⟩ : ByteArray), .slice none 0 0]) ?_ 7 _ rfl; (with_reducible repeat (first | refine blk_drewN ?_ _ | refine blk_drew ?_ | refine blk_alloc ?_ _)); refine blk_put (cs := #[.string a0, .int .i64 8, .bool false, .int .i64 0, .int .u64 0, .float .f64 0, .string (⟨#[]⟩ : ByteArray), .slice none 0 0]) ?_ 6 _ rfl; (with_reducible repeat (first | refine blk_drewN ?_ _ | refine blk_drew ?_ | refine blk_alloc ?_ _)); refine blk_put (cs := #[.string a0, .int .i64 8, .bool false, .int .i64 0, .int .u64 0, .float .f64 0, .string (⟨#[]⟩ : ByteArray), .slice none 0 0]) ?_ 5 _ rfl; (with_reducible repeat (first | refine blk_drewN ?_ _ | refine blk_drew ?_ | refine blk_alloc ?_ _)); refine blk_put (cs := #[.string a0, .int .i64 8, .bool false, .int .i64 0, .int .u64 0, .float .f64 0, .string (⟨#[]⟩ : ByteArray), .slice none 0 0]) ?_ 4 _ rfl; (with_reducible repeat (first | refine blk_drewN ?_ _ | refine blk_drew ?_ | refine blk_alloc ?_ _)); refine blk_put (cs := #[.string a0, .int .i64 8, .bool false, .int .i64 0, .int .u64 0, .float .f64 0, .string (⟨#[]⟩ : ByteArray), .slice none 0 0]) ?_ 3 _ rfl; (with_reducible repeat (first | refine blk_drewN ?_ _ | refine blk_drew ?_ | refine blk_alloc ?_ _)); refine blk_put (cs := #[.string a0, .int .i64 8, .bool false, .int .i64 0, .int .u64 0, .float .f64 0, .string (⟨#[]⟩ : ByteArray), .slice none 0 0]) ?_ 2 _ rfl; (with_reducible repeat (first | refine blk_drewN ?_ _ | refine blk_drew ?_ | refine blk_alloc ?_ _)); refine blk_put (cs := #[.string a0, .int .i64 0, .bool false, .int .i64 0, .int .u64 0, .float .f64 0, .string (⟨#[]⟩ : ByteArray), .slice none 0 0]) ?_ 1 _ rfl; (with_reducible repeat (first | refine blk_drewN ?_ _ | refine blk_drew ?_ | refine blk_alloc ?_ _)); refine blk_put (cs := #[.string (⟨#[]⟩ : ByteArray), .int .i64 0, .bool false, .int .i64 0, .int .u64 0, .float .f64 0, .string (⟨#[]⟩ : ByteArray), .slice none 0 0]) ?_ 0 _ rfl; (with_reducible repeat (first | refine blk_drewN ?_ _ | refine blk_drew ?_ | refine blk_alloc ?_ _)); refine blk_far ?_ NB118_119.out _; (with_reducible repeat (first | refine blk_drewN ?_ _ | refine blk_drew ?_ | refine blk_alloc ?_ _)); exact BK118.out) Tryz.underlying43 rfl (by kernel_rfl)) rfl ?_
 exact ⟨_, by first | rfl | (simp [errW_none, errW_some] <;> rfl) | (simp [*, errW_none, errW_some] <;> rfl), by (with_reducible repeat (first | apply Kd.R_alloc | apply Kd.R_drewN | apply Kd.R_drew)); exact Kd.R_mono (Kd.R_far (p := ⟨gb118, 7, none⟩) (Kd.R_far (p := ⟨gb118, 6, none⟩) (Kd.R_far (p := ⟨gb118, 5, none⟩) (Kd.R_far (p := ⟨gb118, 4, none⟩) (Kd.R_far (p := ⟨gb118, 3, none⟩) (Kd.R_far (p := ⟨gb118, 2, none⟩) (Kd.R_far (p := ⟨gb118, 1, none⟩) (Kd.R_far (p := ⟨gb118, 0, none⟩) (Kd.R_far (p := ⟨gb119, 7, none⟩) (Kd.R_mono (Kd.R_mono HO132.out (fun k_ hk => (⟨hk, hk.2⟩ : _ ∧ k_ ≠ gb119))) (fun k_ hk => (⟨hk, hk.1.1⟩ : _ ∧ k_ ≠ gb118))) (fun _ hk => hk.1.2) (.slice Ao16 y130.length co16)) (fun _ hk => hk.2) (.string a0)) (fun _ hk => hk.2) (.int .i64 8)) (fun _ hk => hk.2) (.bool false)) (fun _ hk => hk.2) (.int .i64 0)) (fun _ hk => hk.2) (.int .u64 0)) (fun _ hk => hk.2) (.float .f64 0)) (fun _ hk => hk.2) (.string (⟨#[]⟩ : ByteArray))) (fun _ hk => hk.2) (.slice Ao16 y130.length co16)) (fun _ hk => trivial), by repeat (first | (with_reducible first | exact HB.out | apply below_alloc | apply pw_below_drewN | apply below_drew1 | refine below_set ?_ GE117.out | refine below_set ?_ GE118.out | refine below_set ?_ GE119.out) | exact HB.out)⟩
end Go.Proofs.YtednjmngalmdkaaGreatDoor.GPC
end
