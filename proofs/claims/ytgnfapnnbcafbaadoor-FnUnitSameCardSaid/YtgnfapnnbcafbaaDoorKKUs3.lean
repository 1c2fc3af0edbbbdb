/- Texts of this claim, put together: GULx2, UPl1, UPl2, UPl3, UPl4, GUMx2, GUMx3, UPl7. Conditions: as each one says. -/
import Derived.Test.YtgnfapnnbcafbaaDoorKKUs0
import Derived.Test.YtgnfapnnbcafbaaDoorKKUs1
import Derived.Test.YtgnfapnnbcafbaaDoorKKUs2
import Derived.Test.YtgnfapnnbcafbaaDoorProg
import Derived.Below
import Derived.Deep.Draws
import Derived.Deep.AppendLies
import Derived.Maps.AppendAt
import Derived.OwnWalk
import Derived.Laws.BytesArg
import Derived.Laws.MakeOwn
import Derived.Laws.OwnMore
import Derived.Deep.OwnRows
import Derived.Tactics
import Derived.Lib.ConvBytes
import Derived.Laws.Slices
import Derived.WalkKit
import Derived.KernelRfl
import Derived.RowKit3
import Derived.Deep.LoopGhost
import Derived.Deep.QuietTactic
import Derived.BigQuiet
import Derived.WideLaws
import Derived.Deep.DeepCutAuto
import Derived.Deep.CutBlock
import Derived.Deep.RegionHeld3
import Derived.Laws.Rows
import Derived.Lib.AppendStr
import Derived.ArgAppend
import Derived.Laws.IdiomCopy
import Derived.OrdersHeld
import Derived.Laws.BitsLemmas
import Derived.RowKit
section
namespace Go.Proofs.YtgnfapnnbcafbaaDoor.GUL
open Go.RowKit Go.Proofs.YtgnfapnnbcafbaaDoorW.PrintWords Go.Proofs.YtgnfapnnbcafbaaDoorW.PrintLast Go.Proofs.YtgnfapnnbcafbaaDoorW.PrintMore
attribute [local go_sem] max2_int min2_int max_two min_two max_three min_three max_four min_four   -- for this text's walks alone
set_option linter.unusedVariables false
set_option linter.unusedSimpArgs false

attribute [local go_sem high] eqA30
/-! ### laws_zzFits8: function 33 -/
def laws_zzFits8.f (a0_0 : ByteArray) (a0_1 : ByteArray) (a0_2 : ByteArray) : Option (Bool) := if (a0_0.size : Int) > 2147483647 then (some false) else (if (a0_1.size : Int) > 2147483647 then (some false) else (if (a0_2.size : Int) > 2147483647 then (some false) else (some true)))
set_option maxHeartbeats 8000000 in
set_option maxRecDepth 100000 in
theorem laws_zzFits8.calls (a0_0 : ByteArray) (a0_1 : ByteArray) (a0_2 : ByteArray) (r : Bool) (w : World) (h : laws_zzFits8.f a0_0 a0_1 a0_2 = some r) :
  Calls Tryd.prog 33 #[.agg #[.string a0_0, .string a0_1, .string a0_2]] w fun e w' => e = .returned (.bool r) ∧ Below w.heap.size w w' := by
 have hu30 := Tryd.underlying30
 have HB := Aside0.mk (Below.refl w.heap.size w)
 have H : (if (a0_0.size : Int) > 2147483647 then (some false) else (if (a0_1.size : Int) > 2147483647 then (some false) else (if (a0_2.size : Int) > 2147483647 then (some false) else (some true)))) = some r := h
 clear h
 by_cases c2 : (a0_0.size : Int) > 2147483647
 ·rw [if_pos c2] at H
  have c2b0 : decide (2147483647 < (a0_0.size : Int)) = true := decide_eq_true c2
  have c2b1 : decide (2147483647 < a0_0.size) = true := decide_eq_true (by omega)
  clear c2
  obtain rfl := Option.some.inj H
  go_enter Tryd.func33, Tryd.ntmps33
  go_wp2_with (first | ((with_reducible refine gate_dst (N := 1) rfl ?_); refine box_event ?hg (N := 1) ?hd (cs := #[.string a0_0, .string a0_1, .string a0_2]) (t := 30) ?hr ?_; (case hd => rfl); (case hg => rfl); (case hr => first | (go_simp; done) | (go_simp; rfl)); intro gb101 hg w3 hbox hb; have n0_ := Aside0.mk (below_step (by repeat (first | (with_reducible first | exact HB.out | apply below_alloc | apply pw_below_drewN | apply below_drew1) | exact HB.out)) hb); have n1_ := Aside0.mk (hbox); have n2_ := Aside0.mk ((by rw [hg]; exact (below_size (by repeat (first | (with_reducible first | exact HB.out | apply below_alloc | apply pw_below_drewN | apply below_drew1) | exact HB.out))) : w.heap.size ≤ gb101)); have n3_ := Aside0.mk ((by rw [hg]; exact (below_size (by repeat (first | (with_reducible first | exact HB.out | apply below_alloc | apply pw_below_drewN | apply below_drew1) | exact HB.out))) : w.heap.size ≤ gb101)); clear HB; have HB := n0_; have BK101 := n1_; have GW101 := n2_; have GE101 := n3_; clear n0_ n1_ n2_ n3_; clear hb hbox hg; have hcz4_0 : w3.cell? ⟨gb101, 0, none⟩ = some (.string a0_0) := (blk_cell BK101.out 0).trans rfl; have hcz4_1 : w3.cell? ⟨gb101, 1, none⟩ = some (.string a0_1) := (blk_cell BK101.out 1).trans rfl; have hcz4_2 : w3.cell? ⟨gb101, 2, none⟩ = some (.string a0_2) := (blk_cell BK101.out 2).trans rfl; have hfz4_0 := blk_frozen BK101.out 0; have hfz4_1 := blk_frozen BK101.out 1; have hfz4_2 := blk_frozen BK101.out 2))
  go_ret
  exact ⟨by first | rfl | (simp [errW_none, errW_some] <;> rfl) | (simp [*, errW_none, errW_some] <;> rfl), by repeat (first | (with_reducible first | exact HB.out | apply below_alloc | apply pw_below_drewN | apply below_drew1 | refine below_set ?_ GE101.out) | exact HB.out)⟩
 ·rw [if_neg c2] at H
  have c2b0 : decide (2147483647 < (a0_0.size : Int)) = false := decide_eq_false c2
  have c2b1 : decide (2147483647 < a0_0.size) = false := decide_eq_false (by omega)
  clear c2
  by_cases c5 : (a0_1.size : Int) > 2147483647
  ·rw [if_pos c5] at H
   have c5b0 : decide (2147483647 < (a0_1.size : Int)) = true := decide_eq_true c5
   have c5b1 : decide (2147483647 < a0_1.size) = true := decide_eq_true (by omega)
   clear c5
   obtain rfl := Option.some.inj H
   go_enter Tryd.func33, Tryd.ntmps33
   go_wp2_with (first | ((with_reducible refine gate_dst (N := 1) rfl ?_); refine box_event ?hg (N := 1) ?hd (cs := #[.string a0_0, .string a0_1, .string a0_2]) (t := 30) ?hr ?_; (case hd => rfl); (case hg => rfl); (case hr => first | (go_simp; done) | (go_simp; rfl)); intro gb101 hg w6 hbox hb; have n0_ := Aside0.mk (below_step (by repeat (first | (with_reducible first | exact HB.out | apply below_alloc | apply pw_below_drewN | apply below_drew1) | exact HB.out)) hb); have n1_ := Aside0.mk (hbox); have n2_ := Aside0.mk ((by rw [hg]; exact (below_size (by repeat (first | (with_reducible first | exact HB.out | apply below_alloc | apply pw_below_drewN | apply below_drew1) | exact HB.out))) : w.heap.size ≤ gb101)); have n3_ := Aside0.mk ((by rw [hg]; exact (below_size (by repeat (first | (with_reducible first | exact HB.out | apply below_alloc | apply pw_below_drewN | apply below_drew1) | exact HB.out))) : w.heap.size ≤ gb101)); clear HB; have HB := n0_; have BK101 := n1_; have GW101 := n2_; have GE101 := n3_; clear n0_ n1_ n2_ n3_; clear hb hbox hg; have hcz7_0 : w6.cell? ⟨gb101, 0, none⟩ = some (.string a0_0) := (blk_cell BK101.out 0).trans rfl; have hcz7_1 : w6.cell? ⟨gb101, 1, none⟩ = some (.string a0_1) := (blk_cell BK101.out 1).trans rfl; have hcz7_2 : w6.cell? ⟨gb101, 2, none⟩ = some (.string a0_2) := (blk_cell BK101.out 2).trans rfl; have hfz7_0 := blk_frozen BK101.out 0; have hfz7_1 := blk_frozen BK101.out 1; have hfz7_2 := blk_frozen BK101.out 2))
   go_ret
   exact ⟨by first | rfl | (simp [errW_none, errW_some] <;> rfl) | (simp [*, errW_none, errW_some] <;> rfl), by repeat (first | (with_reducible first | exact HB.out | apply below_alloc | apply pw_below_drewN | apply below_drew1 | refine below_set ?_ GE101.out) | exact HB.out)⟩
  ·rw [if_neg c5] at H
   have c5b0 : decide (2147483647 < (a0_1.size : Int)) = false := decide_eq_false c5
   have c5b1 : decide (2147483647 < a0_1.size) = false := decide_eq_false (by omega)
   clear c5
   by_cases c8 : (a0_2.size : Int) > 2147483647
   ·rw [if_pos c8] at H
    have c8b0 : decide (2147483647 < (a0_2.size : Int)) = true := decide_eq_true c8
    have c8b1 : decide (2147483647 < a0_2.size) = true := decide_eq_true (by omega)
    clear c8
    obtain rfl := Option.some.inj H
    go_enter Tryd.func33, Tryd.ntmps33
    go_wp2_with (first | ((with_reducible refine gate_dst (N := 1) rfl ?_); refine box_event ?hg (N := 1) ?hd (cs := #[.string a0_0, .string a0_1, .string a0_2]) (t := 30) ?hr ?_; (case hd => rfl); (case hg => rfl); (case hr => first | (go_simp; done) | (go_simp; rfl)); intro gb101 hg w9 hbox hb; have n0_ := Aside0.mk (below_step (by repeat (first | (with_reducible first | exact HB.out | apply below_alloc | apply pw_below_drewN | apply below_drew1) | exact HB.out)) hb); have n1_ := Aside0.mk (hbox); have n2_ := Aside0.mk ((by rw [hg]; exact (below_size (by repeat (first | (with_reducible first | exact HB.out | apply below_alloc | apply pw_below_drewN | apply below_drew1) | exact HB.out))) : w.heap.size ≤ gb101)); have n3_ := Aside0.mk ((by rw [hg]; exact (below_size (by repeat (first | (with_reducible first | exact HB.out | apply below_alloc | apply pw_below_drewN | apply below_drew1) | exact HB.out))) : w.heap.size ≤ gb101)); clear HB; have HB := n0_; have BK101 := n1_; have GW101 := n2_; have GE101 := n3_; clear n0_ n1_ n2_ n3_; clear hb hbox hg; have hcz10_0 : w9.cell? ⟨gb101, 0, none⟩ = some (.string a0_0) := (blk_cell BK101.out 0).trans rfl; have hcz10_1 : w9.cell? ⟨gb101, 1, none⟩ = some (.string a0_1) := (blk_cell BK101.out 1).trans rfl; have hcz10_2 : w9.cell? ⟨gb101, 2, none⟩ = some (.string a0_2) := (blk_cell BK101.out 2).trans rfl; have hfz10_0 := blk_frozen BK101.out 0; have hfz10_1 := blk_frozen BK101.out 1; have hfz10_2 := blk_frozen BK101.out 2))
    go_ret
    exact ⟨by first | rfl | (simp [errW_none, errW_some] <;> rfl) | (simp [*, errW_none, errW_some] <;> rfl), by repeat (first | (with_reducible first | exact HB.out | apply below_alloc | apply pw_below_drewN | apply below_drew1 | refine below_set ?_ GE101.out) | exact HB.out)⟩
   ·rw [if_neg c8] at H
    have c8b0 : decide (2147483647 < (a0_2.size : Int)) = false := decide_eq_false c8
    have c8b1 : decide (2147483647 < a0_2.size) = false := decide_eq_false (by omega)
    clear c8
    obtain rfl := Option.some.inj H
    go_enter Tryd.func33, Tryd.ntmps33
    go_wp2_with (first | ((with_reducible refine gate_dst (N := 1) rfl ?_); refine box_event ?hg (N := 1) ?hd (cs := #[.string a0_0, .string a0_1, .string a0_2]) (t := 30) ?hr ?_; (case hd => rfl); (case hg => rfl); (case hr => first | (go_simp; done) | (go_simp; rfl)); intro gb101 hg w11 hbox hb; have n0_ := Aside0.mk (below_step (by repeat (first | (with_reducible first | exact HB.out | apply below_alloc | apply pw_below_drewN | apply below_drew1) | exact HB.out)) hb); have n1_ := Aside0.mk (hbox); have n2_ := Aside0.mk ((by rw [hg]; exact (below_size (by repeat (first | (with_reducible first | exact HB.out | apply below_alloc | apply pw_below_drewN | apply below_drew1) | exact HB.out))) : w.heap.size ≤ gb101)); have n3_ := Aside0.mk ((by rw [hg]; exact (below_size (by repeat (first | (with_reducible first | exact HB.out | apply below_alloc | apply pw_below_drewN | apply below_drew1) | exact HB.out))) : w.heap.size ≤ gb101)); clear HB; have HB := n0_; have BK101 := n1_; have GW101 := n2_; have GE101 := n3_; clear n0_ n1_ n2_ n3_; clear hb hbox hg; have hcz12_0 : w11.cell? ⟨gb101, 0, none⟩ = some (.string a0_0) := (blk_cell BK101.out 0).trans rfl; have hcz12_1 : w11.cell? ⟨gb101, 1, none⟩ = some (.string a0_1) := (blk_cell BK101.out 1).trans rfl; have hcz12_2 : w11.cell? ⟨gb101, 2, none⟩ = some (.string a0_2) := (blk_cell BK101.out 2).trans rfl; have hfz12_0 := blk_frozen BK101.out 0; have hfz12_1 := blk_frozen BK101.out 1; have hfz12_2 := blk_frozen BK101.out 2))
    go_ret
    exact ⟨by first | rfl | (simp [errW_none, errW_some] <;> rfl) | (simp [*, errW_none, errW_some] <;> rfl), by repeat (first | (with_reducible first | exact HB.out | apply below_alloc | apply pw_below_drewN | apply below_drew1 | refine below_set ?_ GE101.out) | exact HB.out)⟩
/-! ### laws_zzFits7: function 16 -/
def laws_zzFits7.l0 : Nat → List (S30) → Int → Int → Option (Bool)
 | 0, _, _, _ => none
 | k + 1, x8, x9, x10 => if x10 < x9 then (if 0 ≤ x10 then (if x10 < (x8.length : Int) then ((laws_zzFits8.f ((rd_T30 x8 x10).f0) ((rd_T30 x8 x10).f1) ((rd_T30 x8 x10).f2)).bind fun t104 => (if t104 = true then (laws_zzFits7.l0 k x8 x9 (wrap64 (x10 + 1))) else (some false))) else (none)) else (none)) else (some true)
def laws_zzFits7.f (k : Nat) (l0 : List (S30)) : Option (Bool) := if (l0.length : Int) > 2147483647 then (some false) else (laws_zzFits7.l0 k l0 (l0.length : Int) 0)
theorem laws_zzFits7.mono_l : ∀ k, (∀ y0 y1 y2, LeO (laws_zzFits7.l0 k y0 y1 y2) (laws_zzFits7.l0 (k + 1) y0 y1 y2))
 | 0 => fun _ _ _ r h => by simp [laws_zzFits7.l0] at h
 | k + 1 => by
  have ih0 := laws_zzFits7.mono_l k
  ·intro y0 y1 y2
   unfold laws_zzFits7.l0
   repeat' first
   | (with_reducible exact ih0 _ _ _)
   | (with_reducible exact LeO.refl _)
   | (with_reducible exact LeO.none _)
   | (with_reducible refine LeO.ite ?_ ?_)
   | (with_reducible refine LeO.bind ?_ (fun _ => ?_))
   | exact ih0 _ _ _
   | exact LeO.none _
   | refine LeO.ite ?_ ?_
   | refine LeO.bind ?_ (fun _ => ?_)
theorem laws_zzFits7.mono : ∀ a0 k, LeO (laws_zzFits7.f k a0) (laws_zzFits7.f (k + 1) a0) := by
 intro a0 k
 have ih0 := laws_zzFits7.mono_l k
 unfold laws_zzFits7.f
 repeat' first
   | (with_reducible exact ih0 _ _ _)
   | (with_reducible exact LeO.refl _)
   | (with_reducible exact LeO.none _)
   | (with_reducible refine LeO.ite ?_ ?_)
   | (with_reducible refine LeO.bind ?_ (fun _ => ?_))
   | exact ih0 _ _ _
   | exact LeO.none _
   | refine LeO.ite ?_ ?_
   | refine LeO.bind ?_ (fun _ => ?_)
set_option maxHeartbeats 8000000 in
set_option maxRecDepth 100000 in
theorem laws_zzFits7.calls (k : Nat) (A0 : Option Addr) (c0 : Nat) (l0 : List (S30)) (r : Bool) (w : World) (hr0 : Kd.C k30 w A0 l0.length l0) (hc0 : l0.length ≤ c0) (h : laws_zzFits7.f k l0 = some r) :
  Calls Tryd.prog 16 #[.slice A0 l0.length c0] w fun e w' => e = .returned (.bool r) ∧ Below w.heap.size w w' := by
 have hu30 := Tryd.underlying30
 have HR0 := Aside0.mk hr0
 have HC0 := Aside0.mk hc0
 clear hr0 hc0
 have HB := Aside0.mk (Below.refl w.heap.size w)
 have H : (if (l0.length : Int) > 2147483647 then (some false) else (laws_zzFits7.l0 k l0 (l0.length : Int) 0)) = some r := h
 clear h
 by_cases c2 : (l0.length : Int) > 2147483647
 ·rw [if_pos c2] at H
  have c2b0 : decide (2147483647 < (l0.length : Int)) = true := decide_eq_true c2
  have c2b1 : decide (2147483647 < l0.length) = true := decide_eq_true (by omega)
  clear c2
  obtain rfl := Option.some.inj H
  go_enter Tryd.func16, Tryd.ntmps16
  go_wp2
  go_ret
  exact ⟨by first | rfl | (simp [errW_none, errW_some] <;> rfl) | (simp [*, errW_none, errW_some] <;> rfl), by repeat (first | (with_reducible first | exact HB.out | apply below_alloc | apply pw_below_drewN | apply below_drew1) | exact HB.out)⟩
 ·rw [if_neg c2] at H
  have c2b0 : decide (2147483647 < (l0.length : Int)) = false := decide_eq_false c2
  have c2b1 : decide (2147483647 < l0.length) = false := decide_eq_false (by omega)
  clear c2
  have H' := Aside0.mk H
  clear H
  go_enter Tryd.func16, Tryd.ntmps16
  go_wp2
  go_loopg [10] k (fun kq v10 w' => ∃ (x10_1 : Int), v10 = .int .i64 x10_1 ∧ Aside0 (laws_zzFits7.l0 kq l0 (l0.length : Int) x10_1 = some r) ∧ Aside0 (kq ≤ k) ∧ Aside0 (Below w.heap.size w w'))
  case atStart => exact ⟨(0), (by first | rfl | (simp; done) | (simp [*]; done)), H', ⟨Nat.le_refl _⟩, ⟨by repeat (first | (with_reducible first | exact HB.out | apply below_alloc | apply pw_below_drewN | apply below_drew1) | exact HB.out)⟩⟩
  case round =>
   clear H'
   try clear c1
   try clear c2
   try clear c2b0
   try clear c2b1
   try clear p2
   obtain ⟨x10_1, rfl, HA, HK1, HB⟩ := hrel
   cases gk with
   | zero => exact absurd HA.out (by simp [laws_zzFits7.l0])
   | succ k1 =>
    have H := HA.out
    clear HA
    simp only [laws_zzFits7.l0] at H
    by_cases c3 : x10_1 < (l0.length : Int)
    ·rw [if_pos c3] at H
     have c3b0 : decide (x10_1 < (l0.length : Int)) = true := decide_eq_true c3
     clear c3
     by_cases c4 : 0 ≤ x10_1
     ·rw [if_pos c4] at H
      have c4b0 : decide (0 ≤ x10_1) = true := decide_eq_true c4
      clear c4
      by_cases c5 : x10_1 < (l0.length : Int)
      ·rw [if_pos c5] at H
       have c5b0 : decide (x10_1 < (l0.length : Int)) = true := decide_eq_true c5
       clear c5
       replace H := Option.bind_eq_some_iff.mp H
       obtain ⟨t104, A60, H⟩ := H
       replace H : (if t104 = true then (laws_zzFits7.l0 k1 l0 (l0.length : Int) (wrap64 (x10_1 + 1))) else (some false)) = some r := H
       have A6 := Aside0.mk A60
       clear A60
       by_cases c7 : t104 = true
       ·subst c7
        have H1 : (laws_zzFits7.l0 k1 l0 (l0.length : Int) (wrap64 (x10_1 + 1))) = some r := by rw [if_pos rfl] at H; exact H
        clear H
        have H := H1
        clear H1
        have H' := Aside0.mk H
        clear H
        have p102 : 0 ≤ (x10_1 : Int) := of_decide_eq_true (by first | (with_reducible assumption) | assumption)
        have q102 : x10_1 < (l0.length : Int) := of_decide_eq_true (by first | (with_reducible assumption) | assumption)
        obtain ⟨ad102, e102, hx102_0, hx102_1, hx102_2⟩ := at_T30 HR0.out x10_1 p102 q102
        cases e102
        replace hx102_0 := (HB.out.cell (World.block_lt_of_cell? w _ hx102_0)).trans hx102_0
        replace hx102_1 := (HB.out.cell (World.block_lt_of_cell? w _ hx102_1)).trans hx102_1
        replace hx102_2 := (HB.out.cell (World.block_lt_of_cell? w _ hx102_2)).trans hx102_2
        replace p102 := eq_true p102
        replace q102 := eq_true q102
        go_wp2_with (first | ((with_reducible refine gate_dst (N := 4) rfl ?_); refine box_event ?hg (N := 4) ?hd (cs := #[.string (⟨#[]⟩ : ByteArray), .string (⟨#[]⟩ : ByteArray), .string (⟨#[]⟩ : ByteArray)]) (t := 30) ?hr ?_; (case hd => rfl); (case hg => rfl); (case hr => first | (go_simp; done) | (go_simp; rfl)); intro gb103 hg w8 hbox hb; have n0_ := Aside0.mk (below_step (by repeat (first | (with_reducible first | exact HB.out | apply below_alloc | apply pw_below_drewN | apply below_drew1) | exact HB.out)) hb); have n1_ := Aside0.mk (hbox); have n2_ := Aside0.mk ((by rw [hg]; exact (below_size (by repeat (first | (with_reducible first | exact HB.out | apply below_alloc | apply pw_below_drewN | apply below_drew1) | exact HB.out))) : w.heap.size ≤ gb103)); have n3_ := Aside0.mk ((by rw [hg]; exact (below_size (by repeat (first | (with_reducible first | exact HB.out | apply below_alloc | apply pw_below_drewN | apply below_drew1) | exact HB.out))) : w.heap.size ≤ gb103)); clear HB; have HB := n0_; have BK103 := n1_; have GW103 := n2_; have GE103 := n3_; clear n0_ n1_ n2_ n3_; clear hb hbox hg; have hcz9_0 : w8.cell? ⟨gb103, 0, none⟩ = some (.string (⟨#[]⟩ : ByteArray)) := (blk_cell BK103.out 0).trans rfl; have hcz9_1 : w8.cell? ⟨gb103, 1, none⟩ = some (.string (⟨#[]⟩ : ByteArray)) := (blk_cell BK103.out 1).trans rfl; have hcz9_2 : w8.cell? ⟨gb103, 2, none⟩ = some (.string (⟨#[]⟩ : ByteArray)) := (blk_cell BK103.out 2).trans rfl; have hfz9_0 := blk_frozen BK103.out 0; have hfz9_1 := blk_frozen BK103.out 1; have hfz9_2 := blk_frozen BK103.out 2) | ((with_reducible refine gate_callee (f := 33) rfl ?_); refine goesL_ (some 15) rfl rfl Tryd.func33 (by kernel_rfl) rfl #[.agg #[.string ((rd_T30 l0 x10_1).f0), .string ((rd_T30 l0 x10_1).f1), .string ((rd_T30 l0 x10_1).f2)]] rfl (by (try simp only [List.map_toArray, List.map_cons, List.map_nil]); first | done | rfl | (simp only [List.length_drop, List.length_take]; rfl)) ?_; (with_reducible refine (laws_zzFits8.calls ((rd_T30 l0 x10_1).f0) ((rd_T30 l0 x10_1).f1) ((rd_T30 l0 x10_1).f2) true _ A6.out).mono ?_); rintro e w10 ⟨rfl, hb⟩; refine ⟨_, rfl, ?_⟩; have n0_ := Aside0.mk (blk_below (g := gb103) (o := .cells #[.string ((rd_T30 l0 x10_1).f0), .string ((rd_T30 l0 x10_1).f1), .string ((rd_T30 l0 x10_1).f2)] 30 (0, 0)) (by (with_reducible repeat (first | refine blk_drewN ?_ _ | refine blk_drew ?_ | refine blk_alloc ?_ _)); refine blk_put (cs := #[.string ((rd_T30 l0 x10_1).f0), .string ((rd_T30 l0 x10_1).f1), .string (⟨#[]⟩ : ByteArray)]) ?_ 2 _ rfl; (with_reducible repeat (first | refine blk_drewN ?_ _ | refine blk_drew ?_ | refine blk_alloc ?_ _)); refine blk_put (cs := #[.string ((rd_T30 l0 x10_1).f0), .string (⟨#[]⟩ : ByteArray), .string (⟨#[]⟩ : ByteArray)]) ?_ 1 _ rfl; (with_reducible repeat (first | refine blk_drewN ?_ _ | refine blk_drew ?_ | refine blk_alloc ?_ _)); refine blk_put (cs := #[.string (⟨#[]⟩ : ByteArray), .string (⟨#[]⟩ : ByteArray), .string (⟨#[]⟩ : ByteArray)]) ?_ 0 _ rfl; (with_reducible repeat (first | refine blk_drewN ?_ _ | refine blk_drew ?_ | refine blk_alloc ?_ _)); exact BK103.out) hb); have n1_ := Aside0.mk (below_step (by repeat (first | (with_reducible first | exact HB.out | apply below_alloc | apply pw_below_drewN | apply below_drew1 | refine below_set ?_ GE103.out) | exact HB.out)) hb); clear BK103; clear HB; have BK103 := n0_; have HB := n1_; clear n0_ n1_; (try clear hb); (try clear hb2); (try clear hk); (try clear hi)))
        go_roundg k1
        case measure => have := HK1.out; omega
        case rel => exact ⟨(wrap64 (x10_1 + 1)), (by first | rfl | (simp; done) | (simp [*]; done)), H', ⟨by have := HK1.out; omega⟩, ⟨by repeat (first | (with_reducible first | exact HB.out | apply below_alloc | apply pw_below_drewN | apply below_drew1 | refine below_set ?_ GE103.out) | exact HB.out)⟩⟩
       ·replace c7 := Bool.eq_false_iff.mpr c7
        subst c7
        have H1 : (some false) = some r := by rw [if_neg (show ¬ (false = true) by decide)] at H; exact H
        clear H
        have H := H1
        clear H1
        obtain rfl := Option.some.inj H
        have p102 : 0 ≤ (x10_1 : Int) := of_decide_eq_true (by first | (with_reducible assumption) | assumption)
        have q102 : x10_1 < (l0.length : Int) := of_decide_eq_true (by first | (with_reducible assumption) | assumption)
        obtain ⟨ad102, e102, hx102_0, hx102_1, hx102_2⟩ := at_T30 HR0.out x10_1 p102 q102
        cases e102
        replace hx102_0 := (HB.out.cell (World.block_lt_of_cell? w _ hx102_0)).trans hx102_0
        replace hx102_1 := (HB.out.cell (World.block_lt_of_cell? w _ hx102_1)).trans hx102_1
        replace hx102_2 := (HB.out.cell (World.block_lt_of_cell? w _ hx102_2)).trans hx102_2
        replace p102 := eq_true p102
        replace q102 := eq_true q102
        go_wp2_with (first | ((with_reducible refine gate_dst (N := 4) rfl ?_); refine box_event ?hg (N := 4) ?hd (cs := #[.string (⟨#[]⟩ : ByteArray), .string (⟨#[]⟩ : ByteArray), .string (⟨#[]⟩ : ByteArray)]) (t := 30) ?hr ?_; (case hd => rfl); (case hg => rfl); (case hr => first | (go_simp; done) | (go_simp; rfl)); intro gb103 hg w11 hbox hb; have n0_ := Aside0.mk (below_step (by repeat (first | (with_reducible first | exact HB.out | apply below_alloc | apply pw_below_drewN | apply below_drew1) | exact HB.out)) hb); have n1_ := Aside0.mk (hbox); have n2_ := Aside0.mk ((by rw [hg]; exact (below_size (by repeat (first | (with_reducible first | exact HB.out | apply below_alloc | apply pw_below_drewN | apply below_drew1) | exact HB.out))) : w.heap.size ≤ gb103)); have n3_ := Aside0.mk ((by rw [hg]; exact (below_size (by repeat (first | (with_reducible first | exact HB.out | apply below_alloc | apply pw_below_drewN | apply below_drew1) | exact HB.out))) : w.heap.size ≤ gb103)); clear HB; have HB := n0_; have BK103 := n1_; have GW103 := n2_; have GE103 := n3_; clear n0_ n1_ n2_ n3_; clear hb hbox hg; have hcz12_0 : w11.cell? ⟨gb103, 0, none⟩ = some (.string (⟨#[]⟩ : ByteArray)) := (blk_cell BK103.out 0).trans rfl; have hcz12_1 : w11.cell? ⟨gb103, 1, none⟩ = some (.string (⟨#[]⟩ : ByteArray)) := (blk_cell BK103.out 1).trans rfl; have hcz12_2 : w11.cell? ⟨gb103, 2, none⟩ = some (.string (⟨#[]⟩ : ByteArray)) := (blk_cell BK103.out 2).trans rfl; have hfz12_0 := blk_frozen BK103.out 0; have hfz12_1 := blk_frozen BK103.out 1; have hfz12_2 := blk_frozen BK103.out 2) | ((with_reducible refine gate_callee (f := 33) rfl ?_); refine goesL_ (some 15) rfl rfl Tryd.func33 (by kernel_rfl) rfl #[.agg #[.string ((rd_T30 l0 x10_1).f0), .string ((rd_T30 l0 x10_1).f1), .string ((rd_T30 l0 x10_1).f2)]] rfl (by (try simp only [List.map_toArray, List.map_cons, List.map_nil]); first | done | rfl | (simp only [List.length_drop, List.length_take]; rfl)) ?_; (with_reducible refine (laws_zzFits8.calls ((rd_T30 l0 x10_1).f0) ((rd_T30 l0 x10_1).f1) ((rd_T30 l0 x10_1).f2) false _ A6.out).mono ?_); rintro e w13 ⟨rfl, hb⟩; refine ⟨_, rfl, ?_⟩; have n0_ := Aside0.mk (blk_below (g := gb103) (o := .cells #[.string ((rd_T30 l0 x10_1).f0), .string ((rd_T30 l0 x10_1).f1), .string ((rd_T30 l0 x10_1).f2)] 30 (0, 0)) (by (with_reducible repeat (first | refine blk_drewN ?_ _ | refine blk_drew ?_ | refine blk_alloc ?_ _)); refine blk_put (cs := #[.string ((rd_T30 l0 x10_1).f0), .string ((rd_T30 l0 x10_1).f1), .string (⟨#[]⟩ : ByteArray)]) ?_ 2 _ rfl; (with_reducible repeat (first | refine blk_drewN ?_ _ | refine blk_drew ?_ | refine blk_alloc ?_ _)); refine blk_put (cs := #[.string ((rd_T30 l0 x10_1).f0), .string (⟨#[]⟩ : ByteArray), .string (⟨#[]⟩ : ByteArray)]) ?_ 1 _ rfl; (with_reducible repeat (first | refine blk_drewN ?_ _ | refine blk_drew ?_ | refine blk_alloc ?_ _)); refine blk_put (cs := #[.string (⟨#[]⟩ : ByteArray), .string (⟨#[]⟩ : ByteArray), .string (⟨#[]⟩ : ByteArray)]) ?_ 0 _ rfl; (with_reducible repeat (first | refine blk_drewN ?_ _ | refine blk_drew ?_ | refine blk_alloc ?_ _)); exact BK103.out) hb); have n1_ := Aside0.mk (below_step (by repeat (first | (with_reducible first | exact HB.out | apply below_alloc | apply pw_below_drewN | apply below_drew1 | refine below_set ?_ GE103.out) | exact HB.out)) hb); clear BK103; clear HB; have BK103 := n0_; have HB := n1_; clear n0_ n1_; (try clear hb); (try clear hb2); (try clear hk); (try clear hi)))
        go_ret
        exact ⟨by first | rfl | (simp [errW_none, errW_some] <;> rfl) | (simp [*, errW_none, errW_some] <;> rfl), by repeat (first | (with_reducible first | exact HB.out | apply below_alloc | apply pw_below_drewN | apply below_drew1 | refine below_set ?_ GE103.out) | exact HB.out)⟩
      ·rw [if_neg c5] at H
       exact absurd H (by simp)
     ·rw [if_neg c4] at H
      exact absurd H (by simp)
    ·rw [if_neg c3] at H
     have c3b0 : decide (x10_1 < (l0.length : Int)) = false := decide_eq_false c3
     clear c3
     obtain rfl := Option.some.inj H
     go_wp2
     go_ret
     exact ⟨by first | rfl | (simp [errW_none, errW_some] <;> rfl) | (simp [*, errW_none, errW_some] <;> rfl), by repeat (first | (with_reducible first | exact HB.out | apply below_alloc | apply pw_below_drewN | apply below_drew1) | exact HB.out)⟩
/-! ### laws_reads: function 19 -/
def laws_reads.f  : Option (Bool) := (impl_UnitRead.f (⟨#[91, 85, 110, 105, 116, 93, 10, 65, 102, 116, 101, 114, 61, 97, 46, 116, 97, 114, 103, 101, 116, 10]⟩ : ByteArray)).bind fun bt105 => (if bt105.2 = 0 then (if (bt105.1.length : Int) = 1 then (if 0 < (bt105.1.length : Int) then (some ((((rd_T30 bt105.1 0).f0).toList) == ([85, 110, 105, 116] : List UInt8) && ((((rd_T30 bt105.1 0).f1).toList) == ([65, 102, 116, 101, 114] : List UInt8) && ((((rd_T30 bt105.1 0).f2).toList) == ([97, 46, 116, 97, 114, 103, 101, 116] : List UInt8))))) else (none)) else (some false)) else (some false))
set_option maxHeartbeats 8000000 in
set_option maxRecDepth 100000 in
theorem laws_reads.calls  (r : Bool) (w : World) (hT_ : TabW w) (h : laws_reads.f  = some r) :
  Calls Tryd.prog 19 #[] w fun e w' => e = .returned (.bool r) ∧ Below w.heap.size w w' := by
 have hu30 := Tryd.underlying30
 have HTAB := Aside0.mk hT_
 clear hT_
 have HB := Aside0.mk (Below.refl w.heap.size w)
 have H : ((impl_UnitRead.f (⟨#[91, 85, 110, 105, 116, 93, 10, 65, 102, 116, 101, 114, 61, 97, 46, 116, 97, 114, 103, 101, 116, 10]⟩ : ByteArray)).bind fun bt105 => (if bt105.2 = 0 then (if (bt105.1.length : Int) = 1 then (if 0 < (bt105.1.length : Int) then (some ((((rd_T30 bt105.1 0).f0).toList) == ([85, 110, 105, 116] : List UInt8) && ((((rd_T30 bt105.1 0).f1).toList) == ([65, 102, 116, 101, 114] : List UInt8) && ((((rd_T30 bt105.1 0).f2).toList) == ([97, 46, 116, 97, 114, 103, 101, 116] : List UInt8))))) else (none)) else (some false)) else (some false))) = some r := h
 clear h
 replace H := Option.bind_eq_some_iff.mp H
 obtain ⟨⟨t105, t106⟩, A10, H⟩ := H
 replace H : (if t106 = 0 then (if (t105.length : Int) = 1 then (if 0 < (t105.length : Int) then (some ((((rd_T30 t105 0).f0).toList) == ([85, 110, 105, 116] : List UInt8) && ((((rd_T30 t105 0).f1).toList) == ([65, 102, 116, 101, 114] : List UInt8) && ((((rd_T30 t105 0).f2).toList) == ([97, 46, 116, 97, 114, 103, 101, 116] : List UInt8))))) else (none)) else (some false)) else (some false)) = some r := H
 have A1 := Aside0.mk A10
 clear A10
 by_cases c2 : t106 = 0
 ·rw [if_pos c2] at H
  have c2b0 : (t106 == 0) = true := beq_iff_eq.mpr c2
  have c2b1 : (t106 != 0) = false := bne_eq_false_iff_eq.mpr c2
  clear c2
  by_cases c3 : (t105.length : Int) = 1
  ·rw [if_pos c3] at H
   have c3b0 : ((t105.length : Int) == 1) = true := beq_iff_eq.mpr c3
   have c3b1 : ((t105.length : Int) != 1) = false := bne_eq_false_iff_eq.mpr c3
   clear c3
   by_cases c4 : 0 < (t105.length : Int)
   ·rw [if_pos c4] at H
    have c4b0 : decide (0 < (t105.length : Int)) = true := decide_eq_true c4
    have c4b1 : decide (0 < t105.length) = true := decide_eq_true (by omega)
    clear c4
    obtain rfl := Option.some.inj H
    go_enter Tryd.func19, Tryd.ntmps19
    go_wp2_with (first | ((with_reducible refine gate_callee (f := 21) rfl ?_); refine goesL_ (some 4) rfl rfl Tryd.func21 (by kernel_rfl) rfl #[.string (⟨#[91, 85, 110, 105, 116, 93, 10, 65, 102, 116, 101, 114, 61, 97, 46, 116, 97, 114, 103, 101, 116, 10]⟩ : ByteArray)] rfl (by (try simp only [List.map_toArray, List.map_cons, List.map_nil]); first | done | rfl | (simp only [List.length_drop, List.length_take]; rfl)) ?_; (with_reducible refine (impl_UnitRead.calls (⟨#[91, 85, 110, 105, 116, 93, 10, 65, 102, 116, 101, 114, 61, 97, 46, 116, 97, 114, 103, 101, 116, 10]⟩ : ByteArray) t105 t106 _ ?side1 A1.out).mono ?_); (case side1 => exact tabW_below HTAB.out (by repeat (first | (with_reducible first | exact HB.out | apply below_alloc | apply pw_below_drewN | apply below_drew1) | exact HB.out))); rintro e w5 ⟨v107, rfl, ho0, hb⟩; refine ⟨_, rfl, ?_⟩; have n0_ := Aside0.mk (Kd.R_lower ho0 (below_size (by repeat (first | (with_reducible first | exact HB.out | apply below_alloc | apply pw_below_drewN | apply below_drew1) | exact HB.out)))); have n1_ := Aside0.mk (below_step (by repeat (first | (with_reducible first | exact HB.out | apply below_alloc | apply pw_below_drewN | apply below_drew1) | exact HB.out)) hb); clear HB; have HO108 := n0_; have HB := n1_; clear n0_ n1_; (try clear hb); (try clear hb2); (try clear hk); (try clear hi); (try clear ho0); obtain ⟨Ao6, co6, eo6⟩ := Kd.R_slice HO108.out; subst eo6; have p109 : 0 ≤ (0 : Int) := (by omega); have q109 : 0 < (t105.length : Int) := of_decide_eq_true (by first | (with_reducible assumption) | assumption); obtain ⟨ad109, e109, hx109_0, hx109_1, hx109_2⟩ := at_T30 (Kd.R_reads' HO108.out).2.2 0 p109 q109; cases e109; have qi109 : (0 < t105.length) = True := eq_true (by omega); (try rw [show ((0 : Int)).toNat = 0 from rfl] at hx109_0); (try rw [show 0 * 3 = 0 from rfl] at hx109_0); (try rw [Addr.add_zero'] at hx109_0); (try rw [show ((0 : Int)).toNat = 0 from rfl] at hx109_1); (try rw [show 0 * 3 = 0 from rfl] at hx109_1); (try rw [Addr.add_zero'] at hx109_1); (try rw [show ((0 : Int)).toNat = 0 from rfl] at hx109_2); (try rw [show 0 * 3 = 0 from rfl] at hx109_2); (try rw [Addr.add_zero'] at hx109_2); replace p109 := eq_true p109; replace q109 := eq_true q109))
    go_ret
    exact ⟨by first | rfl | (simp [errW_none, errW_some] <;> rfl) | (simp [*, errW_none, errW_some] <;> rfl), by repeat (first | (with_reducible first | exact HB.out | apply below_alloc | apply pw_below_drewN | apply below_drew1) | exact HB.out)⟩
   ·rw [if_neg c4] at H
    exact absurd H (by simp)
  ·rw [if_neg c3] at H
   have c3b0 : ((t105.length : Int) == 1) = false := beq_eq_false_iff_ne.mpr c3
   have c3b1 : ((t105.length : Int) != 1) = true := bne_iff_ne.mpr c3
   obtain rfl := Option.some.inj H
   go_enter Tryd.func19, Tryd.ntmps19
   go_wp2_with (first | ((with_reducible refine gate_callee (f := 21) rfl ?_); refine goesL_ (some 4) rfl rfl Tryd.func21 (by kernel_rfl) rfl #[.string (⟨#[91, 85, 110, 105, 116, 93, 10, 65, 102, 116, 101, 114, 61, 97, 46, 116, 97, 114, 103, 101, 116, 10]⟩ : ByteArray)] rfl (by (try simp only [List.map_toArray, List.map_cons, List.map_nil]); first | done | rfl | (simp only [List.length_drop, List.length_take]; rfl)) ?_; (with_reducible refine (impl_UnitRead.calls (⟨#[91, 85, 110, 105, 116, 93, 10, 65, 102, 116, 101, 114, 61, 97, 46, 116, 97, 114, 103, 101, 116, 10]⟩ : ByteArray) t105 t106 _ ?side1 A1.out).mono ?_); (case side1 => exact tabW_below HTAB.out (by repeat (first | (with_reducible first | exact HB.out | apply below_alloc | apply pw_below_drewN | apply below_drew1) | exact HB.out))); rintro e w7 ⟨v107, rfl, ho0, hb⟩; refine ⟨_, rfl, ?_⟩; have n0_ := Aside0.mk (Kd.R_lower ho0 (below_size (by repeat (first | (with_reducible first | exact HB.out | apply below_alloc | apply pw_below_drewN | apply below_drew1) | exact HB.out)))); have n1_ := Aside0.mk (below_step (by repeat (first | (with_reducible first | exact HB.out | apply below_alloc | apply pw_below_drewN | apply below_drew1) | exact HB.out)) hb); clear HB; have HO108 := n0_; have HB := n1_; clear n0_ n1_; (try clear hb); (try clear hb2); (try clear hk); (try clear hi); (try clear ho0); obtain ⟨Ao8, co8, eo8⟩ := Kd.R_slice HO108.out; subst eo8))
   go_ret
   exact ⟨by first | rfl | (simp [errW_none, errW_some] <;> rfl) | (simp [*, errW_none, errW_some] <;> rfl), by repeat (first | (with_reducible first | exact HB.out | apply below_alloc | apply pw_below_drewN | apply below_drew1) | exact HB.out)⟩
 ·rw [if_neg c2] at H
  have c2b0 : (t106 == 0) = false := beq_eq_false_iff_ne.mpr c2
  have c2b1 : (t106 != 0) = true := bne_iff_ne.mpr c2
  obtain rfl := Option.some.inj H
  go_enter Tryd.func19, Tryd.ntmps19
  go_wp2_with (first | ((with_reducible refine gate_callee (f := 21) rfl ?_); refine goesL_ (some 4) rfl rfl Tryd.func21 (by kernel_rfl) rfl #[.string (⟨#[91, 85, 110, 105, 116, 93, 10, 65, 102, 116, 101, 114, 61, 97, 46, 116, 97, 114, 103, 101, 116, 10]⟩ : ByteArray)] rfl (by (try simp only [List.map_toArray, List.map_cons, List.map_nil]); first | done | rfl | (simp only [List.length_drop, List.length_take]; rfl)) ?_; (with_reducible refine (impl_UnitRead.calls (⟨#[91, 85, 110, 105, 116, 93, 10, 65, 102, 116, 101, 114, 61, 97, 46, 116, 97, 114, 103, 101, 116, 10]⟩ : ByteArray) t105 t106 _ ?side1 A1.out).mono ?_); (case side1 => exact tabW_below HTAB.out (by repeat (first | (with_reducible first | exact HB.out | apply below_alloc | apply pw_below_drewN | apply below_drew1) | exact HB.out))); rintro e w9 ⟨v107, rfl, ho0, hb⟩; refine ⟨_, rfl, ?_⟩; have n0_ := Aside0.mk (Kd.R_lower ho0 (below_size (by repeat (first | (with_reducible first | exact HB.out | apply below_alloc | apply pw_below_drewN | apply below_drew1) | exact HB.out)))); have n1_ := Aside0.mk (below_step (by repeat (first | (with_reducible first | exact HB.out | apply below_alloc | apply pw_below_drewN | apply below_drew1) | exact HB.out)) hb); clear HB; have HO108 := n0_; have HB := n1_; clear n0_ n1_; (try clear hb); (try clear hb2); (try clear hk); (try clear hi); (try clear ho0)))
  go_ret
  exact ⟨by first | rfl | (simp [errW_none, errW_some] <;> rfl) | (simp [*, errW_none, errW_some] <;> rfl), by repeat (first | (with_reducible first | exact HB.out | apply below_alloc | apply pw_below_drewN | apply below_drew1) | exact HB.out)⟩
/-! ### laws_sameOptions: function 20 -/
def laws_sameOptions.l0 : Nat → List (S30) → List (S30) → Int → Int → Option (Bool)
 | 0, _, _, _, _ => none
 | k + 1, x0, x1, x12, x13 => if x13 < x12 then (if 0 ≤ x13 then (if x13 < (x0.length : Int) then (if x13 < (x1.length : Int) then (if (!((((rd_T30 x0 x13).f0).toList) == (((rd_T30 x1 x13).f0).toList)) || (!((((rd_T30 x0 x13).f1).toList) == (((rd_T30 x1 x13).f1).toList)) || (!((((rd_T30 x0 x13).f2).toList) == (((rd_T30 x1 x13).f2).toList))))) = true then (some false) else (laws_sameOptions.l0 k x0 x1 x12 (wrap64 (x13 + 1)))) else (none)) else (none)) else (none)) else (some true)
def laws_sameOptions.f (k : Nat) (l0 : List (S30)) (l1 : List (S30)) : Option (Bool) := if (l0.length : Int) = (l1.length : Int) then (laws_sameOptions.l0 k l0 l1 (l0.length : Int) 0) else (some false)
theorem laws_sameOptions.mono_l : ∀ k, (∀ y0 y1 y2 y3, LeO (laws_sameOptions.l0 k y0 y1 y2 y3) (laws_sameOptions.l0 (k + 1) y0 y1 y2 y3))
 | 0 => fun _ _ _ _ r h => by simp [laws_sameOptions.l0] at h
 | k + 1 => by
  have ih0 := laws_sameOptions.mono_l k
  ·intro y0 y1 y2 y3
   unfold laws_sameOptions.l0
   repeat' first
   | (with_reducible exact ih0 _ _ _ _)
   | (with_reducible exact LeO.refl _)
   | (with_reducible exact LeO.none _)
   | (with_reducible refine LeO.ite ?_ ?_)
   | (with_reducible refine LeO.bind ?_ (fun _ => ?_))
   | exact ih0 _ _ _ _
   | exact LeO.none _
   | refine LeO.ite ?_ ?_
   | refine LeO.bind ?_ (fun _ => ?_)
theorem laws_sameOptions.mono : ∀ a0 a1 k, LeO (laws_sameOptions.f k a0 a1) (laws_sameOptions.f (k + 1) a0 a1) := by
 intro a0 a1 k
 have ih0 := laws_sameOptions.mono_l k
 unfold laws_sameOptions.f
 repeat' first
   | (with_reducible exact ih0 _ _ _ _)
   | (with_reducible exact LeO.refl _)
   | (with_reducible exact LeO.none _)
   | (with_reducible refine LeO.ite ?_ ?_)
   | (with_reducible refine LeO.bind ?_ (fun _ => ?_))
   | exact ih0 _ _ _ _
   | exact LeO.none _
   | refine LeO.ite ?_ ?_
   | refine LeO.bind ?_ (fun _ => ?_)
set_option maxHeartbeats 8000000 in
set_option maxRecDepth 100000 in
theorem laws_sameOptions.calls (k : Nat) (A0 : Option Addr) (c0 : Nat) (l0 : List (S30)) (A1 : Option Addr) (c1 : Nat) (l1 : List (S30)) (r : Bool) (w : World) (hr0 : Kd.C k30 w A0 l0.length l0) (hc0 : l0.length ≤ c0) (hr1 : Kd.C k30 w A1 l1.length l1) (hc1 : l1.length ≤ c1) (h : laws_sameOptions.f k l0 l1 = some r) :
  Calls Tryd.prog 20 #[.slice A0 l0.length c0, .slice A1 l1.length c1] w fun e w' => e = .returned (.bool r) ∧ Drawn0 w w' := by
 have hu30 := Tryd.underlying30
 have HR0 := Aside0.mk hr0
 have HC0 := Aside0.mk hc0
 clear hr0 hc0
 have HR1 := Aside0.mk hr1
 have HC1 := Aside0.mk hc1
 clear hr1 hc1
 have H : (if (l0.length : Int) = (l1.length : Int) then (laws_sameOptions.l0 k l0 l1 (l0.length : Int) 0) else (some false)) = some r := h
 clear h
 by_cases c3 : (l0.length : Int) = (l1.length : Int)
 ·rw [if_pos c3] at H
  have c3b0 : ((l0.length : Int) == (l1.length : Int)) = true := beq_iff_eq.mpr c3
  have c3b1 : ((l0.length : Int) != (l1.length : Int)) = false := bne_eq_false_iff_eq.mpr c3
  have c3b2 : (l0.length == l1.length) = true := by first | simpa using c3 | (simp at c3 ⊢; omega)
  clear c3
  have H' := Aside0.mk H
  clear H
  go_enter Tryd.func20, Tryd.ntmps20
  go_wp2
  repeat (go_quiet (fail); try go_wp2)
  go_loopg [13] k (fun kq v13 w' => ∃ (x13_1 : Int), v13 = .int .i64 x13_1 ∧ Aside0 (laws_sameOptions.l0 kq l0 l1 (l0.length : Int) x13_1 = some r) ∧ Aside0 (kq ≤ k) ∧ Drawn0 w w')
  case atStart => exact ⟨(0), (by first | rfl | (simp; done) | (simp [*]; done)), H', ⟨Nat.le_refl _⟩, by repeat (first | exact Drawn0.refl _ | apply Drawn0.step)⟩
  case round =>
   clear H'
   try clear c1
   try clear c2
   try clear p2
   try clear c3
   try clear c3b0
   try clear c3b1
   try clear c3b2
   obtain ⟨x13_1, rfl, HA, HK1, ⟨m1, rfl⟩⟩ := hrel
   cases gk with
   | zero => exact absurd HA.out (by simp [laws_sameOptions.l0])
   | succ k1 =>
    have H := HA.out
    clear HA
    simp only [laws_sameOptions.l0] at H
    by_cases c4 : x13_1 < (l0.length : Int)
    ·rw [if_pos c4] at H
     have c4b0 : decide (x13_1 < (l0.length : Int)) = true := decide_eq_true c4
     clear c4
     by_cases c5 : 0 ≤ x13_1
     ·rw [if_pos c5] at H
      have c5b0 : decide (0 ≤ x13_1) = true := decide_eq_true c5
      clear c5
      by_cases c6 : x13_1 < (l0.length : Int)
      ·rw [if_pos c6] at H
       have c6b0 : decide (x13_1 < (l0.length : Int)) = true := decide_eq_true c6
       clear c6
       by_cases c7 : x13_1 < (l1.length : Int)
       ·rw [if_pos c7] at H
        have c7b0 : decide (x13_1 < (l1.length : Int)) = true := decide_eq_true c7
        clear c7
        by_cases c8 : (!((((rd_T30 l0 x13_1).f0).toList) == (((rd_T30 l1 x13_1).f0).toList)) || (!((((rd_T30 l0 x13_1).f1).toList) == (((rd_T30 l1 x13_1).f1).toList)) || (!((((rd_T30 l0 x13_1).f2).toList) == (((rd_T30 l1 x13_1).f2).toList))))) = true
        ·rw [if_pos c8] at H
         have c8b0 : (!((((rd_T30 l0 x13_1).f0).toList) == (((rd_T30 l1 x13_1).f0).toList)) || (!((((rd_T30 l0 x13_1).f1).toList) == (((rd_T30 l1 x13_1).f1).toList)) || (!((((rd_T30 l0 x13_1).f2).toList) == (((rd_T30 l1 x13_1).f2).toList))))) = true := c8
         clear c8
         obtain rfl := Option.some.inj H
         have p110 : 0 ≤ (x13_1 : Int) := of_decide_eq_true (by first | (with_reducible assumption) | assumption)
         have q110 : x13_1 < (l0.length : Int) := of_decide_eq_true (by first | (with_reducible assumption) | assumption)
         obtain ⟨ad110, e110, hx110_0, hx110_1, hx110_2⟩ := at_T30 HR0.out x13_1 p110 q110
         cases e110
         replace p110 := eq_true p110
         replace q110 := eq_true q110
         have p111 : 0 ≤ (x13_1 : Int) := of_decide_eq_true (by first | (with_reducible assumption) | assumption)
         have q111 : x13_1 < (l1.length : Int) := of_decide_eq_true (by first | (with_reducible assumption) | assumption)
         obtain ⟨ad111, e111, hx111_0, hx111_1, hx111_2⟩ := at_T30 HR1.out x13_1 p111 q111
         cases e111
         replace p111 := eq_true p111
         replace q111 := eq_true q111
         go_wp2
         repeat (go_quiet (fail); try go_wp2)
         go_ret
         exact ⟨by first | rfl | (simp; done) | (simp [*]; done), by repeat (first | exact Drawn0.refl _ | apply Drawn0.step)⟩
        ·rw [if_neg c8] at H
         have c8b0 : (!((((rd_T30 l0 x13_1).f0).toList) == (((rd_T30 l1 x13_1).f0).toList)) || (!((((rd_T30 l0 x13_1).f1).toList) == (((rd_T30 l1 x13_1).f1).toList)) || (!((((rd_T30 l0 x13_1).f2).toList) == (((rd_T30 l1 x13_1).f2).toList))))) = false := by simpa using c8
         clear c8
         have H' := Aside0.mk H
         clear H
         have p110 : 0 ≤ (x13_1 : Int) := of_decide_eq_true (by first | (with_reducible assumption) | assumption)
         have q110 : x13_1 < (l0.length : Int) := of_decide_eq_true (by first | (with_reducible assumption) | assumption)
         obtain ⟨ad110, e110, hx110_0, hx110_1, hx110_2⟩ := at_T30 HR0.out x13_1 p110 q110
         cases e110
         replace p110 := eq_true p110
         replace q110 := eq_true q110
         have p111 : 0 ≤ (x13_1 : Int) := of_decide_eq_true (by first | (with_reducible assumption) | assumption)
         have q111 : x13_1 < (l1.length : Int) := of_decide_eq_true (by first | (with_reducible assumption) | assumption)
         obtain ⟨ad111, e111, hx111_0, hx111_1, hx111_2⟩ := at_T30 HR1.out x13_1 p111 q111
         cases e111
         replace p111 := eq_true p111
         replace q111 := eq_true q111
         go_wp2
         repeat (go_quiet (fail); try go_wp2)
         go_roundg k1
         case measure => have := HK1.out; omega
         case rel => exact ⟨(wrap64 (x13_1 + 1)), (by first | rfl | (simp; done) | (simp [*]; done)), H', ⟨by have := HK1.out; omega⟩, by repeat (first | exact Drawn0.refl _ | apply Drawn0.step)⟩
       ·rw [if_neg c7] at H
        exact absurd H (by simp)
      ·rw [if_neg c6] at H
       exact absurd H (by simp)
     ·rw [if_neg c5] at H
      exact absurd H (by simp)
    ·rw [if_neg c4] at H
     have c4b0 : decide (x13_1 < (l0.length : Int)) = false := decide_eq_false c4
     clear c4
     obtain rfl := Option.some.inj H
     go_wp2
     repeat (go_quiet (fail); try go_wp2)
     go_ret
     exact ⟨by first | rfl | (simp; done) | (simp [*]; done), by repeat (first | exact Drawn0.refl _ | apply Drawn0.step)⟩
 ·rw [if_neg c3] at H
  have c3b0 : ((l0.length : Int) == (l1.length : Int)) = false := beq_eq_false_iff_ne.mpr c3
  have c3b1 : ((l0.length : Int) != (l1.length : Int)) = true := bne_iff_ne.mpr c3
  have c3b2 : (l0.length == l1.length) = false := by first | simpa using c3 | (simp at c3 ⊢; omega)
  obtain rfl := Option.some.inj H
  go_enter Tryd.func20, Tryd.ntmps20
  go_wp2
  repeat (go_quiet (fail); try go_wp2)
  go_ret
  exact ⟨by first | rfl | (simp; done) | (simp [*]; done), by repeat (first | exact Drawn0.refl _ | apply Drawn0.step)⟩
end Go.Proofs.YtgnfapnnbcafbaaDoor.GUL
end
section
/- Plain facts: what the laws' checks on options tell: zzFits7, printable, has, letter. Conditions: sizes below 2^31. -/
namespace Go.Proofs.YtgnfapnnbcafbaaDoor.GUL
open Go Go.RowKit Go.Proofs.YtgnfapnnbcafbaaDoorW.PrintWords Go.Proofs.YtgnfapnnbcafbaaDoorW Go.Proofs.YtgnfapnnbcafbaaDoorW.PrintLast Go.Proofs.YtgnfapnnbcafbaaDoor.UN
set_option linter.unusedVariables false
set_option linter.unusedSimpArgs false
def Tells (g : Nat → Option Bool) (Q : Prop) : Prop := ∃ b, Ev g b ∧ (b = true → Q)
def Denies (g : Nat → Option Bool) (Q : Prop) : Prop := ∃ b, Ev g b ∧ (b = false → Q)
theorem Tells.step {g f : Nat → Option Bool} {Q : Prop} (h : ∀ k, g (k + 1) = f k) (t : Tells f Q) : Tells g Q := by
 obtain ⟨b, hb, hq⟩ := t
 exact ⟨b, Ev.step h hb, hq⟩
theorem Denies.step {g f : Nat → Option Bool} {Q : Prop} (h : ∀ k, g (k + 1) = f k) (t : Denies f Q) : Denies g Q := by
 obtain ⟨b, hb, hq⟩ := t
 exact ⟨b, Ev.step h hb, hq⟩
theorem Tells.congr {g f : Nat → Option Bool} {Q : Prop} (h : ∀ k, g k = f k) (t : Tells f Q) : Tells g Q := by
 obtain ⟨b, hb, hq⟩ := t
 exact ⟨b, Ev.congr h hb, hq⟩
theorem Tells.no {Q : Prop} : Tells (fun _ => some false) Q := ⟨false, Ev.now _, fun h => by cases h⟩
theorem Tells.yes {Q : Prop} (h : Q) : Tells (fun _ => some true) Q := ⟨true, Ev.now _, fun _ => h⟩
theorem Denies.no {Q : Prop} (h : Q) : Denies (fun _ => some false) Q := ⟨false, Ev.now _, fun _ => h⟩
theorem Denies.yes {Q : Prop} : Denies (fun _ => some true) Q := ⟨true, Ev.now _, fun h => by cases h⟩
theorem Tells.mono {g : Nat → Option Bool} {Q R : Prop} (t : Tells g Q) (h : Q → R) : Tells g R := by
 obtain ⟨b, hb, hq⟩ := t
 exact ⟨b, hb, fun e => h (hq e)⟩
theorem Tells.bind {g : Nat → Option Bool} {f : Nat → Option Bool} {Q R : Prop} (t : Tells g Q) (h : Q → Tells f R) : Tells (fun k => (g k).bind fun t => if t = true then f k else some false) R := by
 obtain ⟨b, hb, hq⟩ := t
 cases b with
 | false => exact ⟨false, Ev.bind (f := fun k t => if t = true then f k else some false) hb (Ev.now _), fun h => by cases h⟩
 | true =>
  obtain ⟨c, hc, hr⟩ := h (hq rfl)
  exact ⟨c, Ev.bind (f := fun k t => if t = true then f k else some false) hb hc, hr⟩
theorem Denies.bind {g : Nat → Option Bool} {f : Nat → Option Bool} {Q R : Prop} (t : Denies g Q) (h : Q → Tells f R) : Tells (fun k => (g k).bind fun t => if t = true then some false else f k) R := by
 obtain ⟨b, hb, hq⟩ := t
 cases b with
 | true => exact ⟨false, Ev.bind (f := fun k t => if t = true then some false else f k) hb (Ev.now _), fun h => by cases h⟩
 | false =>
  obtain ⟨c, hc, hr⟩ := h (hq rfl)
  exact ⟨c, Ev.bind (f := fun k t => if t = true then some false else f k) hb hc, hr⟩
theorem wr1 (i : Nat) (h : i ≤ 100000000000) : wrap64 ((i : Int) + 1) = ((i + 1 : Nat) : Int) := by unfold wrap64; omega
theorem rd30_at (l : List S30) (i : Nat) (h : i < l.length) : rd_T30 l (i : Int) = l[i] := by
 simp [rd_T30, List.getD_eq_getElem?_getD, List.getElem?_eq_getElem h]
structure Fit30 (x : S30) : Prop where
 a : x.f0.size ≤ 2147483647
 b : x.f1.size ≤ 2147483647
 c : x.f2.size ≤ 2147483647
theorem zz8 (a b c : ByteArray) : ∃ t, laws_zzFits8.f a b c = some t ∧ (t = true → Fit30 ⟨a, b, c⟩) := by
 unfold laws_zzFits8.f
 by_cases h1 : (a.size : Int) > 2147483647
 ·exact ⟨false, by rw [if_pos h1], fun h => by cases h⟩
 ·by_cases h2 : (b.size : Int) > 2147483647
  ·exact ⟨false, by rw [if_neg h1, if_pos h2], fun h => by cases h⟩
  ·by_cases h3 : (c.size : Int) > 2147483647
   ·exact ⟨false, by rw [if_neg h1, if_neg h2, if_pos h3], fun h => by cases h⟩
   ·exact ⟨true, by rw [if_neg h1, if_neg h2, if_neg h3], fun _ => ⟨by show a.size ≤ _; omega, by show b.size ≤ _; omega, by show c.size ≤ _; omega⟩⟩
theorem zz7 (l : List S30) : Tells (fun k => laws_zzFits7.f k l) (l.length ≤ 2147483647 ∧ ∀ x ∈ l, Fit30 x) := by
 by_cases hl : (l.length : Int) > 2147483647
 ·exact Tells.congr (f := fun _ => some false) (fun k => by simp only [laws_zzFits7.f]; rw [if_pos hl]) Tells.no
 ·refine Tells.congr (f := fun k => laws_zzFits7.l0 k l (l.length : Int) ((0 : Nat) : Int)) (fun k => by simp only [laws_zzFits7.f]; rw [if_neg hl]; rfl) ?_
  have go : ∀ (d i : Nat), i + d = l.length → Tells (fun k => laws_zzFits7.l0 k l (l.length : Int) (i : Int)) (∀ x ∈ l.drop i, Fit30 x) := by
   intro d
   induction d with
   | zero =>
    intro i hi
    refine Tells.step (f := fun _ => some true) (fun k => ?_) (Tells.yes fun x hx => ?_)
    ·simp only [laws_zzFits7.l0]
     rw [if_neg (by omega)]
    ·rw [List.drop_eq_nil_of_le (by omega)] at hx
     cases hx
   | succ d ih =>
    intro i hi
    have hil : i < l.length := by omega
    obtain ⟨t, ht, hq⟩ := zz8 l[i].f0 l[i].f1 l[i].f2
    refine Tells.step (f := fun k => if t = true then laws_zzFits7.l0 k l (l.length : Int) ((i + 1 : Nat) : Int) else some false) (fun k => ?_) ?_
    ·simp only [laws_zzFits7.l0]
     rw [if_pos (by omega), if_pos (by omega), if_pos (by omega), rd30_at l i hil, ht, wr1 i (by omega)]
     rfl
    ·cases t with
     | false => exact Tells.no
     | true =>
      refine Tells.mono (ih (i + 1) (by omega)) fun h x hx => ?_
      rw [List.drop_eq_getElem_cons hil] at hx
      rcases List.mem_cons.1 hx with rfl | hx
      ·exact hq rfl
      ·exact h x hx
  exact Tells.mono (go l.length 0 (by omega)) fun h => ⟨by omega, h⟩
end Go.Proofs.YtgnfapnnbcafbaaDoor.GUL
end
section
/- Plain facts: what plainOption and plainOptions tell. Conditions: sizes below 2^31. -/
namespace Go.Proofs.YtgnfapnnbcafbaaDoor.GUL
open Go Go.RowKit Go.Proofs.YtgnfapnnbcafbaaDoorW.PrintWords Go.Proofs.YtgnfapnnbcafbaaDoorW Go.Proofs.YtgnfapnnbcafbaaDoorW.PrintLast Go.Proofs.YtgnfapnnbcafbaaDoor.UN
set_option linter.unusedVariables false
set_option linter.unusedSimpArgs false
theorem sB_list (l : Bs) : (sB l).toList = l := Go.ByteArray.toList_mk l
structure Plain (a b c : Bs) : Prop where
 ne : a ≠ []
 s : GoodS a
 o : GoodO ⟨a, b, c⟩
end Go.Proofs.YtgnfapnnbcafbaaDoor.GUL
end
section
/- Plain facts: plainOptions, sameOptions, grouped: what they tell. Conditions: lists of at most 2^31 options, grouped's of at most a million. -/
namespace Go.Proofs.YtgnfapnnbcafbaaDoor.GUL
open Go Go.RowKit Go.Proofs.YtgnfapnnbcafbaaDoorW.PrintWords Go.Proofs.YtgnfapnnbcafbaaDoorW Go.Proofs.YtgnfapnnbcafbaaDoorW.PrintLast Go.Proofs.YtgnfapnnbcafbaaDoor.UN
set_option linter.unusedVariables false
set_option linter.unusedSimpArgs false
theorem toList_dl (b : ByteArray) : b.toList = b.data.toList := by
 have := sB_list b.data.toList
 rwa [sB_toList] at this
theorem secs_len (l : List O) : (secs l).length ≤ l.length := by
 have k2 : ∀ (l : List O) (S : List Bs), (l.foldl (fun S o => addS S o.s) S).length ≤ S.length + l.length := by
  intro l
  induction l with
  | nil => intro S; exact Nat.le_refl _
  | cons o l ih =>
   intro S
   rw [List.foldl_cons]
   have h1 := ih (addS S o.s)
   have h2 : (addS S o.s).length ≤ S.length + 1 := by
    unfold addS
    split
    ·omega
    ·simp
   simp only [List.length_cons]
   omega
 have h9 := k2 l []
 rw [List.length_nil, Nat.zero_add] at h9
 exact h9
end Go.Proofs.YtgnfapnnbcafbaaDoor.GUL
end
section
/- Plain facts: what is written of plain options is of ASCII bytes and short; it is read as these options, grouped; reads() says yes. Conditions: what plainOptions says. -/
namespace Go.Proofs.YtgnfapnnbcafbaaDoor.GUL
open Go Go.RowKit Go.Proofs.YtgnfapnnbcafbaaDoorW.PrintWords Go.Proofs.YtgnfapnnbcafbaaDoorW Go.Proofs.YtgnfapnnbcafbaaDoorW.PrintLast Go.Proofs.YtgnfapnnbcafbaaDoor.UN
set_option linter.unusedVariables false
set_option linter.unusedSimpArgs false
theorem reads_yes : laws_reads.f = some true := by decide +kernel
theorem ascii_app (a b : Bs) : ascii (a ++ b) = (ascii a && ascii b) := by simp [ascii]
theorem opt_ascii {o : O} (h : GoodO o) : ascii (optText o) = true := by
 have h1 := seen_ascii h.hn
 have h2 := seen_ascii h.hv
 have e : optText o = o.n ++ ([61] ++ (o.v ++ [10])) := rfl
 rw [e, ascii_app, ascii_app, ascii_app, h1, h2]
 rfl
theorem opts_ascii : ∀ (l : List O), (∀ o ∈ l, GoodO o) → ascii (l.flatMap optText) = true
 | [], _ => rfl
 | o :: l, h => by
  rw [List.flatMap_cons, ascii_app, opt_ascii (h o (by simp)), opts_ascii l (fun x hx => h x (by simp [hx]))]
  rfl
theorem sec_ascii {g : G} (h : GoodG g) : ascii (secText g) = true := by
 have e : secText g = [91] ++ (g.1 ++ ([93, 10] ++ g.2.flatMap optText)) := rfl
 rw [e, ascii_app, ascii_app, ascii_app, seen_ascii h.s.h, opts_ascii g.2 h.o]
 rfl
theorem tail_ascii : ∀ (gs : List G), (∀ g ∈ gs, GoodG g) → ascii (tailText gs) = true
 | [], _ => rfl
 | g :: r, h => by
  have e : tailText (g :: r) = [10] ++ (secText g ++ tailText r) := rfl
  rw [e, ascii_app, ascii_app, sec_ascii (h g (by simp)), tail_ascii r (fun x hx => h x (by simp [hx]))]
  rfl
theorem groups_ascii (gs : List G) (h : ∀ g ∈ gs, GoodG g) : ascii (groupsText gs) = true := by
 cases gs with
 | nil => rfl
 | cons g r =>
  have e : groupsText (g :: r) = secText g ++ tailText r := rfl
  rw [e, ascii_app, sec_ascii (h g (by simp)), tail_ascii r (fun x hx => h x (by simp [hx]))]
  rfl
theorem opts_len : ∀ (l : List O), (∀ o ∈ l, GoodO o) → (l.flatMap optText).length ≤ 802 * l.length
 | [], _ => by simp
 | o :: l, h => by
  have h1 := opts_len l (fun x hx => h x (by simp [hx]))
  have h2 := (h o (by simp)).ln
  have h3 := (h o (by simp)).lv
  have e : (optText o).length = o.n.length + o.v.length + 2 := by simp [optText]; omega
  rw [List.flatMap_cons, List.length_append, List.length_cons, e]
  omega
theorem sec_len {g : G} (h : GoodG g) : (secText g).length ≤ 403 + 802 * g.2.length := by
 have h1 := opts_len g.2 h.o
 have h2 := h.s.l
 have e : (secText g).length = g.1.length + (g.2.flatMap optText).length + 3 := by simp [secText]; omega
 omega
theorem tail_len : ∀ (gs : List G), (∀ g ∈ gs, GoodG g) → (tailText gs).length ≤ 404 * gs.length + 802 * (gs.flatMap (·.2)).length
 | [], _ => by simp [tailText]
 | g :: r, h => by
  have h1 := tail_len r (fun x hx => h x (by simp [hx]))
  have h2 := sec_len (h g (by simp))
  have e : (tailText (g :: r)).length = (secText g).length + (tailText r).length + 1 := by simp [tailText]
  rw [e, List.flatMap_cons, List.length_append, List.length_cons]
  omega
theorem groups_len (gs : List G) (h : ∀ g ∈ gs, GoodG g) : (groupsText gs).length ≤ 404 * gs.length + 802 * (gs.flatMap (·.2)).length := by
 cases gs with
 | nil => simp [groupsText]
 | cons g r =>
  have h1 := tail_len (g :: r) h
  have e : (tailText (g :: r)).length = (groupsText (g :: r)).length + 1 := by simp [tailText, groupsText]
  omega
theorem flat_congr {α β : Type} {f g : α → List β} : ∀ {l : List α}, (∀ a ∈ l, f a = g a) → l.flatMap f = l.flatMap g
 | [], _ => rfl
 | a :: l, h => by rw [List.flatMap_cons, List.flatMap_cons, h a (by simp), flat_congr (fun x hx => h x (by simp [hx]))]
theorem two_len (p : O → Bool) : ∀ l : List O, l.length = (l.filter p).length + (l.filter fun o => !p o).length
 | [] => rfl
 | o :: l => by
  have := two_len p l
  cases h : p o <;> simp [h] <;> omega
theorem filt_len : ∀ (S : List Bs) (l : List O), S.Nodup → (S.flatMap fun a => l.filter fun o => o.s == a).length ≤ l.length
 | [], l, _ => by simp
 | a :: S, l, h => by
  obtain ⟨h1, h2⟩ := List.nodup_cons.1 h
  have ih := filt_len S (l.filter fun o => !(o.s == a)) h2
  have e : (S.flatMap fun b => (l.filter fun o => !(o.s == a)).filter fun o => o.s == b) = S.flatMap fun b => l.filter fun o => o.s == b := by
   refine flat_congr fun b hb => ?_
   rw [List.filter_filter]
   refine List.filter_congr fun o _ => ?_
   by_cases hob : o.s = b
   ·have : ¬ o.s = a := fun e => h1 (by rw [← e, hob]; exact hb)
    simp [hob]
    intro e2
    exact this (hob.trans e2)
   ·simp [hob]
  rw [e] at ih
  rw [List.flatMap_cons, List.length_append]
  have h3 := two_len (fun o => o.s == a) l
  omega
theorem groupedL_len (l : List O) : (groupedL l).length ≤ l.length := by
 have h := filt_len (secs l) l (nodup_secs l)
 unfold groupedL groups
 rw [List.flatMap_map]
 exact h
theorem text_len (l : List O) (hs : ∀ o ∈ l, GoodS o.s) (ho : ∀ o ∈ l, GoodO o) (hl : l.length ≤ 200) : (groupsText (groups l)).length ≤ 241200 := by
 have h1 := groups_len (groups l) (groups_good l hs ho)
 have h2 := groupedL_len l
 have h3 : (groups l).length ≤ l.length := by unfold groups; rw [List.length_map]; exact secs_len l
 have e : ((groups l).flatMap (·.2)).length = (groupedL l).length := rfl
 omega
def Plains (l : List S30) : Prop := l.length ≤ 200 ∧ ∀ x ∈ l, Plain (toO x).s (toO x).n (toO x).v
theorem Plains.s {l : List S30} (h : Plains l) : ∀ o ∈ l.map toO, GoodS o.s := fun o ho => by
 obtain ⟨x, hx, rfl⟩ := List.mem_map.1 ho
 exact (h.2 x hx).s
theorem Plains.o {l : List S30} (h : Plains l) : ∀ o ∈ l.map toO, GoodO o := fun o ho => by
 obtain ⟨x, hx, rfl⟩ := List.mem_map.1 ho
 exact (h.2 x hx).o
theorem Plains.len {l : List S30} (h : Plains l) : (groupsText (groups (l.map toO))).length ≤ 241200 := text_len _ h.s h.o (by rw [List.length_map]; exact h.1)
theorem Plains.ascii {l : List S30} (h : Plains l) : UN.ascii (groupsText (groups (l.map toO))) = true := groups_ascii _ (groups_good _ h.s h.o)
end Go.Proofs.YtgnfapnnbcafbaaDoor.GUL
end
section
namespace Go.Proofs.YtgnfapnnbcafbaaDoor.GUL
open Go.RowKit Go.Proofs.YtgnfapnnbcafbaaDoorW.PrintWords Go.Proofs.YtgnfapnnbcafbaaDoorW.PrintLast Go.Proofs.YtgnfapnnbcafbaaDoorW.PrintMore
attribute [local go_sem] max2_int min2_int max_two min_two max_three min_three max_four min_four   -- for this text's walks alone
set_option linter.unusedVariables false
set_option linter.unusedSimpArgs false

attribute [local go_sem high] eqA30
/-! ### laws_FnUnitSame_1: function 17 -/
def laws_FnUnitSame_1.l0 : Nat → Int → List (S30) → Int → Int → ByteArray → ByteArray → ByteArray → Option (Int)
 | 0, _, _, _, _, _, _, _ => none
 | k + 1, x5, x8, x9, x10, x106000, x106001, x106002 => if x10 < x9 then (if 0 ≤ x10 then (if x10 < (x8.length : Int) then (if ((((rd_T30 x8 x10).f0).toList) == x106000.toList && ((((rd_T30 x8 x10).f1).toList) == x106001.toList && ((((rd_T30 x8 x10).f2).toList) == x106002.toList))) = true then (laws_FnUnitSame_1.l0 k (wrap64 (x5 + 1)) x8 x9 (wrap64 (x10 + 1)) x106000 x106001 x106002) else (laws_FnUnitSame_1.l0 k x5 x8 x9 (wrap64 (x10 + 1)) x106000 x106001 x106002)) else (none)) else (none)) else (some x5)
def laws_FnUnitSame_1.f (k : Nat) (l0 : List (S30)) (a1_0 : ByteArray) (a1_1 : ByteArray) (a1_2 : ByteArray) : Option (Int) := laws_FnUnitSame_1.l0 k 0 l0 (l0.length : Int) 0 a1_0 a1_1 a1_2
theorem laws_FnUnitSame_1.mono_l : ∀ k, (∀ y0 y1 y2 y3 y4 y5 y6, LeO (laws_FnUnitSame_1.l0 k y0 y1 y2 y3 y4 y5 y6) (laws_FnUnitSame_1.l0 (k + 1) y0 y1 y2 y3 y4 y5 y6))
 | 0 => fun _ _ _ _ _ _ _ r h => by simp [laws_FnUnitSame_1.l0] at h
 | k + 1 => by
  have ih0 := laws_FnUnitSame_1.mono_l k
  ·intro y0 y1 y2 y3 y4 y5 y6
   unfold laws_FnUnitSame_1.l0
   repeat' first
   | (with_reducible exact ih0 _ _ _ _ _ _ _)
   | (with_reducible exact LeO.refl _)
   | (with_reducible exact LeO.none _)
   | (with_reducible refine LeO.ite ?_ ?_)
   | (with_reducible refine LeO.bind ?_ (fun _ => ?_))
   | exact ih0 _ _ _ _ _ _ _
   | exact LeO.none _
   | refine LeO.ite ?_ ?_
   | refine LeO.bind ?_ (fun _ => ?_)
theorem laws_FnUnitSame_1.mono : ∀ a0 a1 a2 a3 k, LeO (laws_FnUnitSame_1.f k a0 a1 a2 a3) (laws_FnUnitSame_1.f (k + 1) a0 a1 a2 a3) := by
 intro a0 a1 a2 a3 k
 have ih0 := laws_FnUnitSame_1.mono_l k
 unfold laws_FnUnitSame_1.f
 repeat' first
   | (with_reducible exact ih0 _ _ _ _ _ _ _)
   | (with_reducible exact LeO.refl _)
   | (with_reducible exact LeO.none _)
   | (with_reducible refine LeO.ite ?_ ?_)
   | (with_reducible refine LeO.bind ?_ (fun _ => ?_))
   | exact ih0 _ _ _ _ _ _ _
   | exact LeO.none _
   | refine LeO.ite ?_ ?_
   | refine LeO.bind ?_ (fun _ => ?_)
set_option maxHeartbeats 8000000 in
set_option maxRecDepth 100000 in
theorem laws_FnUnitSame_1.calls (k : Nat) (A0 : Option Addr) (c0 : Nat) (l0 : List (S30)) (a1_0 : ByteArray) (a1_1 : ByteArray) (a1_2 : ByteArray) (r : Int) (w : World) (hr0 : Kd.C k30 w A0 l0.length l0) (hc0 : l0.length ≤ c0) (h : laws_FnUnitSame_1.f k l0 a1_0 a1_1 a1_2 = some r) :
  Calls Tryd.prog 17 #[.slice A0 l0.length c0, .agg #[.string a1_0, .string a1_1, .string a1_2]] w fun e w' => e = .returned (.int .i64 r) ∧ Below w.heap.size w w' := by
 have hu30 := Tryd.underlying30
 have HR0 := Aside0.mk hr0
 have HC0 := Aside0.mk hc0
 clear hr0 hc0
 have HB := Aside0.mk (Below.refl w.heap.size w)
 have H : (laws_FnUnitSame_1.l0 k 0 l0 (l0.length : Int) 0 a1_0 a1_1 a1_2) = some r := h
 clear h
 have H' := Aside0.mk H
 clear H
 go_enter Tryd.func17, Tryd.ntmps17
 go_wp2_with (first | ((with_reducible refine gate_dst (N := 3) rfl ?_); refine box_event ?hg (N := 3) ?hd (cs := #[.string a1_0, .string a1_1, .string a1_2]) (t := 30) ?hr ?_; (case hd => rfl); (case hg => rfl); (case hr => first | (go_simp; done) | (go_simp; rfl)); intro gb105 hg w3 hbox hb; have n0_ := Aside0.mk (below_step (by repeat (first | (with_reducible first | exact HB.out | apply below_alloc | apply pw_below_drewN | apply below_drew1) | exact HB.out)) hb); have n1_ := Aside0.mk (hbox); have n2_ := Aside0.mk ((by rw [hg]; exact (below_size (by repeat (first | (with_reducible first | exact HB.out | apply below_alloc | apply pw_below_drewN | apply below_drew1) | exact HB.out))) : w.heap.size ≤ gb105)); have n3_ := Aside0.mk ((by rw [hg]; exact (below_size (by repeat (first | (with_reducible first | exact HB.out | apply below_alloc | apply pw_below_drewN | apply below_drew1) | exact HB.out))) : w.heap.size ≤ gb105)); clear HB; have HB := n0_; have BK105 := n1_; have GW105 := n2_; have GE105 := n3_; clear n0_ n1_ n2_ n3_; clear hb hbox hg))
 go_loopg [5, 10] k (fun kq v5 v10 w' => ∃ (x5_1 : Int) (x10_1 : Int), v5 = .int .i64 x5_1 ∧ v10 = .int .i64 x10_1 ∧ Aside0 (laws_FnUnitSame_1.l0 kq x5_1 l0 (l0.length : Int) x10_1 a1_0 a1_1 a1_2 = some r) ∧ Aside0 (kq ≤ k) ∧ Aside0 (w'.heap[gb105]? = some (.cells #[.string a1_0, .string a1_1, .string a1_2] 30 (0, 0))) ∧ Aside0 (Below w.heap.size w w'))
 case atStart => exact ⟨(0), (0), (by first | rfl | (simp; done) | (simp [*]; done)), (by first | rfl | (simp; done) | (simp [*]; done)), H', ⟨Nat.le_refl _⟩, ⟨by (with_reducible repeat (first | refine blk_drewN ?_ _ | refine blk_drew ?_ | refine blk_alloc ?_ _)); exact BK105.out⟩, ⟨by repeat (first | (with_reducible first | exact HB.out | apply below_alloc | apply pw_below_drewN | apply below_drew1 | refine below_set ?_ GE105.out) | exact HB.out)⟩⟩
 case round =>
  clear H'
  try clear c1
  try clear p2
  obtain ⟨x5_1, x10_1, rfl, rfl, HA, HK1, BK105, HB⟩ := hrel
  cases gk with
  | zero => exact absurd HA.out (by simp [laws_FnUnitSame_1.l0])
  | succ k1 =>
   have H := HA.out
   clear HA
   simp only [laws_FnUnitSame_1.l0] at H
   by_cases c4 : x10_1 < (l0.length : Int)
   ·rw [if_pos c4] at H
    have c4b0 : decide (x10_1 < (l0.length : Int)) = true := decide_eq_true c4
    clear c4
    by_cases c5 : 0 ≤ x10_1
    ·rw [if_pos c5] at H
     have c5b0 : decide (0 ≤ x10_1) = true := decide_eq_true c5
     clear c5
     by_cases c6 : x10_1 < (l0.length : Int)
     ·rw [if_pos c6] at H
      have c6b0 : decide (x10_1 < (l0.length : Int)) = true := decide_eq_true c6
      clear c6
      by_cases c7 : ((((rd_T30 l0 x10_1).f0).toList) == a1_0.toList && ((((rd_T30 l0 x10_1).f1).toList) == a1_1.toList && ((((rd_T30 l0 x10_1).f2).toList) == a1_2.toList))) = true
      ·rw [if_pos c7] at H
       have c7b0 : ((((rd_T30 l0 x10_1).f0).toList) == a1_0.toList && ((((rd_T30 l0 x10_1).f1).toList) == a1_1.toList && ((((rd_T30 l0 x10_1).f2).toList) == a1_2.toList))) = true := c7
       (try (have c7b1 : decide ((((rd_T30 l0 x10_1).f0).toList) = a1_0.toList && ((((rd_T30 l0 x10_1).f1).toList) == a1_1.toList && ((((rd_T30 l0 x10_1).f2).toList) == a1_2.toList))) = true := by simpa using c7))
       (try (have c7b2 : ((((rd_T30 l0 x10_1).f0).toList) == a1_0.toList && ((((rd_T30 l0 x10_1).f1).toList) == a1_1.toList && ((((rd_T30 l0 x10_1).f2).toList) == a1_2.toList))) = true := by simpa using c7))
       clear c7
       have H' := Aside0.mk H
       clear H
       have p106 : 0 ≤ (x10_1 : Int) := of_decide_eq_true (by first | (with_reducible assumption) | assumption)
       have q106 : x10_1 < (l0.length : Int) := of_decide_eq_true (by first | (with_reducible assumption) | assumption)
       obtain ⟨ad106, e106, hx106_0, hx106_1, hx106_2⟩ := at_T30 HR0.out x10_1 p106 q106
       cases e106
       replace hx106_0 := (HB.out.cell (World.block_lt_of_cell? w _ hx106_0)).trans hx106_0
       replace hx106_1 := (HB.out.cell (World.block_lt_of_cell? w _ hx106_1)).trans hx106_1
       replace hx106_2 := (HB.out.cell (World.block_lt_of_cell? w _ hx106_2)).trans hx106_2
       replace p106 := eq_true p106
       replace q106 := eq_true q106
       go_wp2_with (first | ((with_reducible refine gate_dst (N := 7) rfl ?_); refine box_event ?hg (N := 7) ?hd (cs := #[.string (⟨#[]⟩ : ByteArray), .string (⟨#[]⟩ : ByteArray), .string (⟨#[]⟩ : ByteArray)]) (t := 30) ?hr ?_; (case hd => rfl); (case hg => rfl); (case hr => first | (go_simp; done) | (go_simp; rfl)); intro gb107 hg w8 hbox hb; have n0_ := Aside0.mk (blk_below (g := gb105) (o := .cells #[.string a1_0, .string a1_1, .string a1_2] 30 (0, 0)) (by (with_reducible repeat (first | refine blk_drewN ?_ _ | refine blk_drew ?_ | refine blk_alloc ?_ _)); exact BK105.out) hb); have n1_ := Aside0.mk (below_step (by repeat (first | (with_reducible first | exact HB.out | apply below_alloc | apply pw_below_drewN | apply below_drew1 | refine below_set ?_ GE105.out) | exact HB.out)) hb); have n2_ := Aside0.mk (hbox); have n3_ := Aside0.mk ((by rw [hg]; exact (below_size (by repeat (first | (with_reducible first | exact HB.out | apply below_alloc | apply pw_below_drewN | apply below_drew1 | refine below_set ?_ GE105.out) | exact HB.out))) : w.heap.size ≤ gb107)); have n4_ := Aside0.mk ((by rw [hg]; exact (below_size (by repeat (first | (with_reducible first | exact HB.out | apply below_alloc | apply pw_below_drewN | apply below_drew1 | refine below_set ?_ GE105.out) | exact HB.out))) : w.heap.size ≤ gb107)); have n5_ := Aside0.mk ((by rw [hg]; exact Nat.ne_of_lt (blk_lt (g := gb105) (o := .cells #[.string a1_0, .string a1_1, .string a1_2] 30 (0, 0)) (by (with_reducible repeat (first | refine blk_drewN ?_ _ | refine blk_drew ?_ | refine blk_alloc ?_ _)); exact BK105.out)) : gb105 ≠ gb107)); have n6_ := Aside0.mk ((by rw [hg]; exact Nat.ne_of_gt (blk_lt (g := gb105) (o := .cells #[.string a1_0, .string a1_1, .string a1_2] 30 (0, 0)) (by (with_reducible repeat (first | refine blk_drewN ?_ _ | refine blk_drew ?_ | refine blk_alloc ?_ _)); exact BK105.out)) : gb107 ≠ gb105)); clear BK105; clear HB; have BK105 := n0_; have HB := n1_; have BK107 := n2_; have GW107 := n3_; have GE107 := n4_; have NB105_107 := n5_; have NB107_105 := n6_; clear n0_ n1_ n2_ n3_ n4_ n5_ n6_; clear hb hbox hg; have hnb9 := NB107_105.out; have hnc9 := NB105_107.out; have hcz10_0 : w8.cell? ⟨gb107, 0, none⟩ = some (.string (⟨#[]⟩ : ByteArray)) := (blk_cell BK107.out 0).trans rfl; have hcz10_1 : w8.cell? ⟨gb107, 1, none⟩ = some (.string (⟨#[]⟩ : ByteArray)) := (blk_cell BK107.out 1).trans rfl; have hcz10_2 : w8.cell? ⟨gb107, 2, none⟩ = some (.string (⟨#[]⟩ : ByteArray)) := (blk_cell BK107.out 2).trans rfl; have hfz10_0 := blk_frozen BK107.out 0; have hfz10_1 := blk_frozen BK107.out 1; have hfz10_2 := blk_frozen BK107.out 2; have hcz11_0 : w8.cell? ⟨gb105, 0, none⟩ = some (.string a1_0) := (blk_cell BK105.out 0).trans rfl; have hcz11_1 : w8.cell? ⟨gb105, 1, none⟩ = some (.string a1_1) := (blk_cell BK105.out 1).trans rfl; have hcz11_2 : w8.cell? ⟨gb105, 2, none⟩ = some (.string a1_2) := (blk_cell BK105.out 2).trans rfl; have hfz11_0 := blk_frozen BK105.out 0; have hfz11_1 := blk_frozen BK105.out 1; have hfz11_2 := blk_frozen BK105.out 2))
       go_roundg k1
       case measure => have := HK1.out; omega
       case rel => exact ⟨(wrap64 (x5_1 + 1)), (wrap64 (x10_1 + 1)), (by first | rfl | (simp; done) | (simp [*]; done)), (by first | rfl | (simp; done) | (simp [*]; done)), H', ⟨by have := HK1.out; omega⟩, ⟨by (with_reducible repeat (first | refine blk_drewN ?_ _ | refine blk_drew ?_ | refine blk_alloc ?_ _)); refine blk_far ?_ NB105_107.out _; (with_reducible repeat (first | refine blk_drewN ?_ _ | refine blk_drew ?_ | refine blk_alloc ?_ _)); refine blk_far ?_ NB105_107.out _; (with_reducible repeat (first | refine blk_drewN ?_ _ | refine blk_drew ?_ | refine blk_alloc ?_ _)); refine blk_far ?_ NB105_107.out _; (with_reducible repeat (first | refine blk_drewN ?_ _ | refine blk_drew ?_ | refine blk_alloc ?_ _)); exact BK105.out⟩, ⟨by repeat (first | (with_reducible first | exact HB.out | apply below_alloc | apply pw_below_drewN | apply below_drew1 | refine below_set ?_ GE105.out | refine below_set ?_ GE107.out) | exact HB.out)⟩⟩
      ·rw [if_neg c7] at H
       have c7b0 : ((((rd_T30 l0 x10_1).f0).toList) == a1_0.toList && ((((rd_T30 l0 x10_1).f1).toList) == a1_1.toList && ((((rd_T30 l0 x10_1).f2).toList) == a1_2.toList))) = false := by simpa using c7
       (try (have c7b1 : decide ((((rd_T30 l0 x10_1).f0).toList) = a1_0.toList && ((((rd_T30 l0 x10_1).f1).toList) == a1_1.toList && ((((rd_T30 l0 x10_1).f2).toList) == a1_2.toList))) = false := by simpa using c7))
       (try (have c7b2 : ((((rd_T30 l0 x10_1).f0).toList) == a1_0.toList && ((((rd_T30 l0 x10_1).f1).toList) == a1_1.toList && ((((rd_T30 l0 x10_1).f2).toList) == a1_2.toList))) = false := by simpa using c7))
       (try (have c7b3 : ¬ ((((rd_T30 l0 x10_1).f0).toList) = a1_0.toList && ((((rd_T30 l0 x10_1).f1).toList) == a1_1.toList && ((((rd_T30 l0 x10_1).f2).toList) == a1_2.toList))) := by simpa using c7))
       clear c7
       have H' := Aside0.mk H
       clear H
       have p106 : 0 ≤ (x10_1 : Int) := of_decide_eq_true (by first | (with_reducible assumption) | assumption)
       have q106 : x10_1 < (l0.length : Int) := of_decide_eq_true (by first | (with_reducible assumption) | assumption)
       obtain ⟨ad106, e106, hx106_0, hx106_1, hx106_2⟩ := at_T30 HR0.out x10_1 p106 q106
       cases e106
       replace hx106_0 := (HB.out.cell (World.block_lt_of_cell? w _ hx106_0)).trans hx106_0
       replace hx106_1 := (HB.out.cell (World.block_lt_of_cell? w _ hx106_1)).trans hx106_1
       replace hx106_2 := (HB.out.cell (World.block_lt_of_cell? w _ hx106_2)).trans hx106_2
       replace p106 := eq_true p106
       replace q106 := eq_true q106
       go_wp2_with (first | ((with_reducible refine gate_dst (N := 7) rfl ?_); refine box_event ?hg (N := 7) ?hd (cs := #[.string (⟨#[]⟩ : ByteArray), .string (⟨#[]⟩ : ByteArray), .string (⟨#[]⟩ : ByteArray)]) (t := 30) ?hr ?_; (case hd => rfl); (case hg => rfl); (case hr => first | (go_simp; done) | (go_simp; rfl)); intro gb107 hg w12 hbox hb; have n0_ := Aside0.mk (blk_below (g := gb105) (o := .cells #[.string a1_0, .string a1_1, .string a1_2] 30 (0, 0)) (by (with_reducible repeat (first | refine blk_drewN ?_ _ | refine blk_drew ?_ | refine blk_alloc ?_ _)); exact BK105.out) hb); have n1_ := Aside0.mk (below_step (by repeat (first | (with_reducible first | exact HB.out | apply below_alloc | apply pw_below_drewN | apply below_drew1 | refine below_set ?_ GE105.out) | exact HB.out)) hb); have n2_ := Aside0.mk (hbox); have n3_ := Aside0.mk ((by rw [hg]; exact (below_size (by repeat (first | (with_reducible first | exact HB.out | apply below_alloc | apply pw_below_drewN | apply below_drew1 | refine below_set ?_ GE105.out) | exact HB.out))) : w.heap.size ≤ gb107)); have n4_ := Aside0.mk ((by rw [hg]; exact (below_size (by repeat (first | (with_reducible first | exact HB.out | apply below_alloc | apply pw_below_drewN | apply below_drew1 | refine below_set ?_ GE105.out) | exact HB.out))) : w.heap.size ≤ gb107)); have n5_ := Aside0.mk ((by rw [hg]; exact Nat.ne_of_lt (blk_lt (g := gb105) (o := .cells #[.string a1_0, .string a1_1, .string a1_2] 30 (0, 0)) (by (with_reducible repeat (first | refine blk_drewN ?_ _ | refine blk_drew ?_ | refine blk_alloc ?_ _)); exact BK105.out)) : gb105 ≠ gb107)); have n6_ := Aside0.mk ((by rw [hg]; exact Nat.ne_of_gt (blk_lt (g := gb105) (o := .cells #[.string a1_0, .string a1_1, .string a1_2] 30 (0, 0)) (by (with_reducible repeat (first | refine blk_drewN ?_ _ | refine blk_drew ?_ | refine blk_alloc ?_ _)); exact BK105.out)) : gb107 ≠ gb105)); clear BK105; clear HB; have BK105 := n0_; have HB := n1_; have BK107 := n2_; have GW107 := n3_; have GE107 := n4_; have NB105_107 := n5_; have NB107_105 := n6_; clear n0_ n1_ n2_ n3_ n4_ n5_ n6_; clear hb hbox hg; have hnb13 := NB107_105.out; have hnc13 := NB105_107.out; have hcz14_0 : w12.cell? ⟨gb107, 0, none⟩ = some (.string (⟨#[]⟩ : ByteArray)) := (blk_cell BK107.out 0).trans rfl; have hcz14_1 : w12.cell? ⟨gb107, 1, none⟩ = some (.string (⟨#[]⟩ : ByteArray)) := (blk_cell BK107.out 1).trans rfl; have hcz14_2 : w12.cell? ⟨gb107, 2, none⟩ = some (.string (⟨#[]⟩ : ByteArray)) := (blk_cell BK107.out 2).trans rfl; have hfz14_0 := blk_frozen BK107.out 0; have hfz14_1 := blk_frozen BK107.out 1; have hfz14_2 := blk_frozen BK107.out 2; have hcz15_0 : w12.cell? ⟨gb105, 0, none⟩ = some (.string a1_0) := (blk_cell BK105.out 0).trans rfl; have hcz15_1 : w12.cell? ⟨gb105, 1, none⟩ = some (.string a1_1) := (blk_cell BK105.out 1).trans rfl; have hcz15_2 : w12.cell? ⟨gb105, 2, none⟩ = some (.string a1_2) := (blk_cell BK105.out 2).trans rfl; have hfz15_0 := blk_frozen BK105.out 0; have hfz15_1 := blk_frozen BK105.out 1; have hfz15_2 := blk_frozen BK105.out 2))
       go_roundg k1
       case measure => have := HK1.out; omega
       case rel => exact ⟨(x5_1), (wrap64 (x10_1 + 1)), (by first | rfl | (simp; done) | (simp [*]; done)), (by first | rfl | (simp; done) | (simp [*]; done)), H', ⟨by have := HK1.out; omega⟩, ⟨by (with_reducible repeat (first | refine blk_drewN ?_ _ | refine blk_drew ?_ | refine blk_alloc ?_ _)); refine blk_far ?_ NB105_107.out _; (with_reducible repeat (first | refine blk_drewN ?_ _ | refine blk_drew ?_ | refine blk_alloc ?_ _)); refine blk_far ?_ NB105_107.out _; (with_reducible repeat (first | refine blk_drewN ?_ _ | refine blk_drew ?_ | refine blk_alloc ?_ _)); refine blk_far ?_ NB105_107.out _; (with_reducible repeat (first | refine blk_drewN ?_ _ | refine blk_drew ?_ | refine blk_alloc ?_ _)); exact BK105.out⟩, ⟨by repeat (first | (with_reducible first | exact HB.out | apply below_alloc | apply pw_below_drewN | apply below_drew1 | refine below_set ?_ GE105.out | refine below_set ?_ GE107.out) | exact HB.out)⟩⟩
     ·rw [if_neg c6] at H
      exact absurd H (by simp)
    ·rw [if_neg c5] at H
     exact absurd H (by simp)
   ·rw [if_neg c4] at H
    have c4b0 : decide (x10_1 < (l0.length : Int)) = false := decide_eq_false c4
    clear c4
    obtain rfl := Option.some.inj H
    go_wp2
    go_ret
    exact ⟨by first | rfl | (simp [errW_none, errW_some] <;> rfl) | (simp [*, errW_none, errW_some] <;> rfl), by repeat (first | (with_reducible first | exact HB.out | apply below_alloc | apply pw_below_drewN | apply below_drew1 | refine below_set ?_ GE105.out) | exact HB.out)⟩
end Go.Proofs.YtgnfapnnbcafbaaDoor.GUL
end
section
namespace Go.Proofs.YtgnfapnnbcafbaaDoor.GUL
open Go.RowKit Go.Proofs.YtgnfapnnbcafbaaDoorW.PrintWords Go.Proofs.YtgnfapnnbcafbaaDoorW.PrintLast Go.Proofs.YtgnfapnnbcafbaaDoorW.PrintMore
attribute [local go_sem] max2_int min2_int max_two min_two max_three min_three max_four min_four   -- for this text's walks alone
set_option linter.unusedVariables false
set_option linter.unusedSimpArgs false

/-- A call by a function's value that lies in a place of the frame. -/
theorem goesv_ {P : Program} {ops : Array Oper} {Q : Exit → Act → World → Prop} {oi : Oper} {N : Option Tmp} {a : Act} {w : World} {K : Act → World → Prop} {f : FuncId} {fn : Func} {xs : Array Operand} {ts : Array TypeId} (hf : P.funcs[f]? = some fn) (hname : (fn.name == "runtime.NumGoroutine") = false) (hb : fn.body.isSome = true) (args : Array Value) (t : Tmp)
    (hw : Region.wanted oi (yielded ops a.tmps) = true) (hN : oi.dst = N) (hop : oi.op = .call { callee := .value (.tmp t), args := xs, argTypes := ts }) (hv : a.eval (.tmp t) = .func (.func f) #[] #[]) (hargs : xs.map a.eval = args)
    (h : Calls P f args w fun e w' => ∃ v, e = .returned v ∧ K (a.put N v) w') : if Region.wanted oi (yielded ops a.tmps) = true then Oper.wp P oi a w K Q else K (a.put N undef) w := by
  refine call_ f args hw hN ?_ h
  have he := enters_ hf hname hb args w
  unfold execOp
  simp [hop, resolve, Deferred.ofValue, invoke, hv, hargs, he]
/-! ### laws_FnUnitSame: function 5 -/
mutual
def laws_FnUnitSame.j0 : Nat → List (S30) → List (S30) → Bool → Option (Bool)
 | 0, _, _, _ => none
 | k + 1, x0, x1, x16 => if x16 = true then (some true) else (if (x0.length : Int) > 40 then (laws_FnUnitSame.j1 k x0 x1 true) else (laws_FnUnitSame.j1 k x0 x1 (decide ((x1.length : Int) > 40))))
def laws_FnUnitSame.j1 : Nat → List (S30) → List (S30) → Bool → Option (Bool)
 | 0, _, _, _ => none
 | k + 1, x0, x1, x24 => if x24 = true then (some true) else (if ([] : List (S30)).length + x0.length < 2932031007402 then ((some (([] : List (S30)) ++ x0 : List (S30))).bind fun y117 => (if y117.length + x1.length < 2932031007402 then ((some (y117 ++ x1 : List (S30))).bind fun y120 => (laws_FnUnitSame.l0 k x0 x1 ((x0.length : Int) != (x1.length : Int)) y120 (y120.length : Int) 0)) else (none))) else (none))
def laws_FnUnitSame.l0 : Nat → List (S30) → List (S30) → Bool → List (S30) → Int → Int → Option (Bool)
 | 0, _, _, _, _, _, _ => none
 | k + 1, x0, x1, x6, x33, x34, x35 => if x35 < x34 then (if 0 ≤ x35 then (if x35 < (x33.length : Int) then (if x6 = true then (laws_FnUnitSame.l0 k x0 x1 true x33 x34 (wrap64 (x35 + 1))) else ((laws_FnUnitSame_1.f k x0 ((rd_T30 x33 x35).f0) ((rd_T30 x33 x35).f1) ((rd_T30 x33 x35).f2)).bind fun t125 => ((laws_FnUnitSame_1.f k x1 ((rd_T30 x33 x35).f0) ((rd_T30 x33 x35).f1) ((rd_T30 x33 x35).f2)).bind fun t126 => (laws_FnUnitSame.l0 k x0 x1 (t125 != t126) x33 x34 (wrap64 (x35 + 1)))))) else (none)) else (none)) else (if x6 = true then ((impl_UnitSame.f x0 x1).bind fun t127 => (if t127 = true then (some false) else ((laws_reads.f).bind fun t128 => (some t128)))) else (if ([] : List (S30)).length + x0.length < 2932031007402 then ((impl_UnitSame.f x0 (([] : List (S30)) ++ x0)).bind fun t132 => (if t132 = true then ((laws_sameOptions.f k x0 x1).bind fun t133 => (if t133 = true then ((impl_UnitSame.f x0 x1).bind fun t134 => (if t134 = true then ((laws_reads.f).bind fun t135 => (some t135)) else (some false))) else ((laws_reads.f).bind fun t136 => (some t136)))) else (some false))) else (none)))
end
def laws_FnUnitSame.f (k : Nat) (l0 : List (S30)) (l1 : List (S30)) : Option (Bool) := (laws_zzFits7.f k l0).bind fun t115 => (if t115 = true then ((laws_zzFits7.f k l1).bind fun t116 => (laws_FnUnitSame.j0 k l0 l1 (!t116))) else (laws_FnUnitSame.j0 k l0 l1 true))
theorem laws_FnUnitSame.mono_l : ∀ k, (∀ y0 y1 y2, LeO (laws_FnUnitSame.j0 k y0 y1 y2) (laws_FnUnitSame.j0 (k + 1) y0 y1 y2)) ∧ (∀ y0 y1 y2, LeO (laws_FnUnitSame.j1 k y0 y1 y2) (laws_FnUnitSame.j1 (k + 1) y0 y1 y2)) ∧ (∀ y0 y1 y2 y3 y4 y5, LeO (laws_FnUnitSame.l0 k y0 y1 y2 y3 y4 y5) (laws_FnUnitSame.l0 (k + 1) y0 y1 y2 y3 y4 y5))
 | 0 => ⟨fun _ _ _ r h => by simp [laws_FnUnitSame.j0] at h, fun _ _ _ r h => by simp [laws_FnUnitSame.j1] at h, fun _ _ _ _ _ _ r h => by simp [laws_FnUnitSame.l0] at h⟩
 | k + 1 => by
  obtain ⟨ih0, ih1, ih2⟩ := laws_FnUnitSame.mono_l k
  refine ⟨?_, ?_, ?_⟩
  ·intro y0 y1 y2
   unfold laws_FnUnitSame.j0
   repeat' first
   | (with_reducible exact ih0 _ _ _)
   | (with_reducible exact ih1 _ _ _)
   | (with_reducible exact ih2 _ _ _ _ _ _)
   | (with_reducible exact laws_FnUnitSame_1.mono _ _ _ _ _)
   | (with_reducible exact laws_sameOptions.mono _ _ _)
   | (with_reducible exact laws_zzFits7.mono _ _)
   | (with_reducible exact LeO.refl _)
   | (with_reducible exact LeO.none _)
   | (with_reducible refine LeO.ite ?_ ?_)
   | (with_reducible refine LeO.bind ?_ (fun _ => ?_))
   | exact ih0 _ _ _
   | exact ih1 _ _ _
   | exact ih2 _ _ _ _ _ _
   | exact laws_FnUnitSame_1.mono _ _ _ _ _
   | exact laws_sameOptions.mono _ _ _
   | exact laws_zzFits7.mono _ _
   | exact LeO.none _
   | refine LeO.ite ?_ ?_
   | refine LeO.bind ?_ (fun _ => ?_)
  ·intro y0 y1 y2
   unfold laws_FnUnitSame.j1
   repeat' first
   | (with_reducible exact ih0 _ _ _)
   | (with_reducible exact ih1 _ _ _)
   | (with_reducible exact ih2 _ _ _ _ _ _)
   | (with_reducible exact laws_FnUnitSame_1.mono _ _ _ _ _)
   | (with_reducible exact laws_sameOptions.mono _ _ _)
   | (with_reducible exact laws_zzFits7.mono _ _)
   | (with_reducible exact LeO.refl _)
   | (with_reducible exact LeO.none _)
   | (with_reducible refine LeO.ite ?_ ?_)
   | (with_reducible refine LeO.bind ?_ (fun _ => ?_))
   | exact ih0 _ _ _
   | exact ih1 _ _ _
   | exact ih2 _ _ _ _ _ _
   | exact laws_FnUnitSame_1.mono _ _ _ _ _
   | exact laws_sameOptions.mono _ _ _
   | exact laws_zzFits7.mono _ _
   | exact LeO.none _
   | refine LeO.ite ?_ ?_
   | refine LeO.bind ?_ (fun _ => ?_)
  ·intro y0 y1 y2 y3 y4 y5
   unfold laws_FnUnitSame.l0
   repeat' first
   | (with_reducible exact ih0 _ _ _)
   | (with_reducible exact ih1 _ _ _)
   | (with_reducible exact ih2 _ _ _ _ _ _)
   | (with_reducible exact laws_FnUnitSame_1.mono _ _ _ _ _)
   | (with_reducible exact laws_sameOptions.mono _ _ _)
   | (with_reducible exact laws_zzFits7.mono _ _)
   | (with_reducible exact LeO.refl _)
   | (with_reducible exact LeO.none _)
   | (with_reducible refine LeO.ite ?_ ?_)
   | (with_reducible refine LeO.bind ?_ (fun _ => ?_))
   | exact ih0 _ _ _
   | exact ih1 _ _ _
   | exact ih2 _ _ _ _ _ _
   | exact laws_FnUnitSame_1.mono _ _ _ _ _
   | exact laws_sameOptions.mono _ _ _
   | exact laws_zzFits7.mono _ _
   | exact LeO.none _
   | refine LeO.ite ?_ ?_
   | refine LeO.bind ?_ (fun _ => ?_)
theorem laws_FnUnitSame.mono : ∀ a0 a1 k, LeO (laws_FnUnitSame.f k a0 a1) (laws_FnUnitSame.f (k + 1) a0 a1) := by
 intro a0 a1 k
 obtain ⟨ih0, ih1, ih2⟩ := laws_FnUnitSame.mono_l k
 unfold laws_FnUnitSame.f
 repeat' first
   | (with_reducible exact ih0 _ _ _)
   | (with_reducible exact ih1 _ _ _)
   | (with_reducible exact ih2 _ _ _ _ _ _)
   | (with_reducible exact laws_FnUnitSame_1.mono _ _ _ _ _)
   | (with_reducible exact laws_sameOptions.mono _ _ _)
   | (with_reducible exact laws_zzFits7.mono _ _)
   | (with_reducible exact LeO.refl _)
   | (with_reducible exact LeO.none _)
   | (with_reducible refine LeO.ite ?_ ?_)
   | (with_reducible refine LeO.bind ?_ (fun _ => ?_))
   | exact ih0 _ _ _
   | exact ih1 _ _ _
   | exact ih2 _ _ _ _ _ _
   | exact laws_FnUnitSame_1.mono _ _ _ _ _
   | exact laws_sameOptions.mono _ _ _
   | exact laws_zzFits7.mono _ _
   | exact LeO.none _
   | refine LeO.ite ?_ ?_
   | refine LeO.bind ?_ (fun _ => ?_)
def laws_FnUnitSame.T10 : Bool × List (List Nat × List Nat) := (true, [([], []), ([0], [0]), ([1], [1]), ([1], [1]), ([1], [1]), ([2, 3, 4, 1, 1], [1, 2, 3, 4]), ([1], [1]), ([1], [1]), ([1], [1]), ([6, 7, 8, 5, 1], [1, 6, 7, 8]), ([5, 9, 1], [1, 5, 9]), ([1, 10], [1, 10]), ([11, 9, 0, 1, 2, 3, 4, 5, 6, 7, 8, 9, 10, 11], [0, 11])])
def laws_FnUnitSame.B10 : List Nat := [0, 1, 3, 3, 3, 31, 3, 3, 3, 511, 1023, 2047, 4095]
theorem laws_FnUnitSame.tab10 : rtab .any (opsOf Tryd.f5 10) = laws_FnUnitSame.T10 := by kernel_rfl
theorem laws_FnUnitSame.bits10 : waitsOk laws_FnUnitSame.T10.2 laws_FnUnitSame.B10 = true := by kernel_rfl
set_option maxHeartbeats 8000000 in
set_option maxRecDepth 100000 in
theorem laws_FnUnitSame.calls (k : Nat) (A0 : Option Addr) (c0 : Nat) (l0 : List (S30)) (A1 : Option Addr) (c1 : Nat) (l1 : List (S30)) (r : Bool) (w : World) (hr0 : Kd.C k30 w A0 l0.length l0) (hc0 : l0.length ≤ c0) (hr1 : Kd.C k30 w A1 l1.length l1) (hc1 : l1.length ≤ c1) (hT_ : TabW w) (h : laws_FnUnitSame.f k l0 l1 = some r) :
  Calls Tryd.prog 5 #[.slice A0 l0.length c0, .slice A1 l1.length c1] w fun e w' => e = .returned (.bool r) ∧ Below w.heap.size w w' := by
 have hu30 := Tryd.underlying30
 have HR0 := Aside0.mk hr0
 have HC0 := Aside0.mk hc0
 clear hr0 hc0
 have HR1 := Aside0.mk hr1
 have HC1 := Aside0.mk hc1
 clear hr1 hc1
 have HTAB := Aside0.mk hT_
 clear hT_
 have HB := Aside0.mk (Below.refl w.heap.size w)
 have H : ((laws_zzFits7.f k l0).bind fun t115 => (if t115 = true then ((laws_zzFits7.f k l1).bind fun t116 => (laws_FnUnitSame.j0 k l0 l1 (!t116))) else (laws_FnUnitSame.j0 k l0 l1 true))) = some r := h
 clear h
 have HC3 := Aside0.mk H
 clear H
 go_enter Tryd.func5, Tryd.ntmps5
 go_upto_region 1 with (fail)
 go_cut [16] (fun v16 wc => ∃ (kq : Nat) (x16_2 : Bool), v16 = .bool x16_2 ∧ Aside0 (laws_FnUnitSame.j0 kq l0 l1 x16_2 = some r) ∧ Aside0 (kq ≤ k) ∧ Aside0 (Below w.heap.size w wc))
 case first =>
  have H := HC3.out
  clear HC3
  replace H := Option.bind_eq_some_iff.mp H
  obtain ⟨t115, A40, H⟩ := H
  replace H : (if t115 = true then ((laws_zzFits7.f k l1).bind fun t116 => (laws_FnUnitSame.j0 k l0 l1 (!t116))) else (laws_FnUnitSame.j0 k l0 l1 true)) = some r := H
  have A4 := Aside0.mk A40
  clear A40
  by_cases c5 : t115 = true
  ·subst c5
   have H1 : ((laws_zzFits7.f k l1).bind fun t116 => (laws_FnUnitSame.j0 k l0 l1 (!t116))) = some r := by rw [if_pos rfl] at H; exact H
   clear H
   have H := H1
   clear H1
   replace H := Option.bind_eq_some_iff.mp H
   obtain ⟨t116, A60, H⟩ := H
   replace H : (laws_FnUnitSame.j0 k l0 l1 (!t116)) = some r := H
   have A6 := Aside0.mk A60
   clear A60
   have H' := Aside0.mk H
   clear H
   go_wp2_with (first | ((with_reducible refine gate_callee (f := 16) rfl ?_); refine goesL_ (some 10) rfl rfl Tryd.func16 (by kernel_rfl) rfl #[.slice A0 l0.length c0] rfl (by (try simp only [List.map_toArray, List.map_cons, List.map_nil]); first | done | rfl | (simp only [List.length_drop, List.length_take]; rfl)) ?_; (with_reducible refine (laws_zzFits7.calls k _ _ l0 true _ ?side1 ?side2 A4.out).mono ?_); (case side1 => repeat (first | exact (Kd.C_below HR0.out HB.out) | (with_reducible refine Kd.C_alloc ?_ _) | (with_reducible refine Kd.C_drewN ?_ _) | (with_reducible refine Kd.C_drew ?_))); (case side2 => exact HC0.out); rintro e w7 ⟨rfl, hb⟩; refine ⟨_, rfl, ?_⟩; have n0_ := Aside0.mk (below_step (by repeat (first | (with_reducible first | exact HB.out | apply below_alloc | apply pw_below_drewN | apply below_drew1) | exact HB.out)) hb); clear HB; have HB := n0_; clear n0_; (try clear hb); (try clear hb2); (try clear hk); (try clear hi)) | (go_at_call 16; (with_reducible refine (laws_zzFits7.calls k _ _ l1 t116 _ ?side1 ?side2 A6.out).mono ?_); (case side1 => repeat (first | exact (Kd.C_below HR1.out HB.out) | (with_reducible refine Kd.C_alloc ?_ _) | (with_reducible refine Kd.C_drewN ?_ _) | (with_reducible refine Kd.C_drew ?_))); (case side2 => exact HC1.out); rintro e w8 ⟨rfl, hb⟩; have n0_ := Aside0.mk (below_step (by repeat (first | (with_reducible first | exact HB.out | apply below_alloc | apply pw_below_drewN | apply below_drew1) | exact HB.out)) hb); clear HB; have HB := n0_; clear n0_; (try clear hb); (try clear hb2); (try clear hk); (try clear hi)))
   go_meet
   case rel => exact ⟨_, (!t116), (by first | rfl | (simp; done) | (simp [*]; done)), H', ⟨by first | omega | exact Nat.le_refl _⟩, ⟨by repeat (first | (with_reducible first | exact HB.out | apply below_alloc | apply pw_below_drewN | apply below_drew1) | exact HB.out)⟩⟩
  ·replace c5 := Bool.eq_false_iff.mpr c5
   subst c5
   have H1 : (laws_FnUnitSame.j0 k l0 l1 true) = some r := by rw [if_neg (show ¬ (false = true) by decide)] at H; exact H
   clear H
   have H := H1
   clear H1
   have H' := Aside0.mk H
   clear H
   go_wp2_with (first | ((with_reducible refine gate_callee (f := 16) rfl ?_); refine goesL_ (some 10) rfl rfl Tryd.func16 (by kernel_rfl) rfl #[.slice A0 l0.length c0] rfl (by (try simp only [List.map_toArray, List.map_cons, List.map_nil]); first | done | rfl | (simp only [List.length_drop, List.length_take]; rfl)) ?_; (with_reducible refine (laws_zzFits7.calls k _ _ l0 false _ ?side1 ?side2 A4.out).mono ?_); (case side1 => repeat (first | exact (Kd.C_below HR0.out HB.out) | (with_reducible refine Kd.C_alloc ?_ _) | (with_reducible refine Kd.C_drewN ?_ _) | (with_reducible refine Kd.C_drew ?_))); (case side2 => exact HC0.out); rintro e w9 ⟨rfl, hb⟩; refine ⟨_, rfl, ?_⟩; have n0_ := Aside0.mk (below_step (by repeat (first | (with_reducible first | exact HB.out | apply below_alloc | apply pw_below_drewN | apply below_drew1) | exact HB.out)) hb); clear HB; have HB := n0_; clear n0_; (try clear hb); (try clear hb2); (try clear hk); (try clear hi)))
   go_meet
   case rel => exact ⟨_, (true), (by first | rfl | (simp; done) | (simp [*]; done)), H', ⟨by first | omega | exact Nat.le_refl _⟩, ⟨by repeat (first | (with_reducible first | exact HB.out | apply below_alloc | apply pw_below_drewN | apply below_drew1) | exact HB.out)⟩⟩
 case rest =>
  clear HC3
  try clear c1
  try clear p2
  try clear c5
  obtain ⟨kq, x16_2, rfl, HA, HJ2, HB⟩ := hcut
  cases kq with
  | zero => exact absurd HA.out (by simp [laws_FnUnitSame.j0])
  | succ kj2 =>
   have H := HA.out
   clear HA
   simp only [laws_FnUnitSame.j0] at H
   by_cases c10 : x16_2 = true
   ·subst c10
    have H1 : (some true) = some r := by rw [if_pos rfl] at H; exact H
    clear H
    have H := H1
    clear H1
    obtain rfl := Option.some.inj H
    go_wp2
    go_ret
    exact ⟨by first | rfl | (simp [errW_none, errW_some] <;> rfl) | (simp [*, errW_none, errW_some] <;> rfl), by repeat (first | (with_reducible first | exact HB.out | apply below_alloc | apply pw_below_drewN | apply below_drew1) | exact HB.out)⟩
   ·replace c10 := Bool.eq_false_iff.mpr c10
    subst c10
    have H1 : (if (l0.length : Int) > 40 then (laws_FnUnitSame.j1 kj2 l0 l1 true) else (laws_FnUnitSame.j1 kj2 l0 l1 (decide ((l1.length : Int) > 40)))) = some r := by rw [if_neg (show ¬ (false = true) by decide)] at H; exact H
    clear H
    have H := H1
    clear H1
    have HC11 := Aside0.mk H
    clear H
    go_upto_region 3 with (fail)
    go_cut [24] (fun v24 wc => ∃ (kq : Nat) (x24_10 : Bool), v24 = .bool x24_10 ∧ Aside0 (laws_FnUnitSame.j1 kq l0 l1 x24_10 = some r) ∧ Aside0 (kq ≤ kj2) ∧ Aside0 (Below w.heap.size w wc))
    case first =>
     have H := HC11.out
     clear HC11
     by_cases c12 : (l0.length : Int) > 40
     ·rw [if_pos c12] at H
      have c12b0 : decide (40 < (l0.length : Int)) = true := decide_eq_true c12
      have c12b1 : decide (40 < l0.length) = true := decide_eq_true (by omega)
      clear c12
      (first | rw [c12b0] | (simp only [i64_w, i32_w]; rw [c12b0]) | skip)
      have H' := Aside0.mk H
      clear H
      go_wp2
      go_meet
      case rel => exact ⟨_, (true), (by first | rfl | (simp; done) | (simp [*]; done)), H', ⟨by have := HJ2.out; first | omega | exact Nat.le_refl _⟩, ⟨by repeat (first | (with_reducible first | exact HB.out | apply below_alloc | apply pw_below_drewN | apply below_drew1) | exact HB.out)⟩⟩
     ·rw [if_neg c12] at H
      have c12b0 : decide (40 < (l0.length : Int)) = false := decide_eq_false c12
      have c12b1 : decide (40 < l0.length) = false := decide_eq_false (by omega)
      clear c12
      (first | rw [c12b0] | (simp only [i64_w, i32_w]; rw [c12b0]) | skip)
      have H' := Aside0.mk H
      clear H
      go_wp2
      go_meet
      case rel => exact ⟨_, (decide ((l1.length : Int) > 40)), (by first | rfl | (simp; done) | (simp [*]; done)), H', ⟨by have := HJ2.out; first | omega | exact Nat.le_refl _⟩, ⟨by repeat (first | (with_reducible first | exact HB.out | apply below_alloc | apply pw_below_drewN | apply below_drew1) | exact HB.out)⟩⟩
    case rest =>
     clear HC11
     try clear c1
     try clear p2
     try clear c5
     try clear c10
     try clear c12
     try clear c12b0
     try clear c12b1
     try clear p2
     obtain ⟨kq, x24_10, rfl, HA, HJ10, HB⟩ := hcut
     cases kq with
     | zero => exact absurd HA.out (by simp [laws_FnUnitSame.j1])
     | succ kj10 =>
      have H := HA.out
      clear HA
      simp only [laws_FnUnitSame.j1] at H
      by_cases c13 : x24_10 = true
      ·subst c13
       have H1 : (some true) = some r := by rw [if_pos rfl] at H; exact H
       clear H
       have H := H1
       clear H1
       obtain rfl := Option.some.inj H
       go_wp2
       go_ret
       exact ⟨by first | rfl | (simp [errW_none, errW_some] <;> rfl) | (simp [*, errW_none, errW_some] <;> rfl), by repeat (first | (with_reducible first | exact HB.out | apply below_alloc | apply pw_below_drewN | apply below_drew1) | exact HB.out)⟩
      ·replace c13 := Bool.eq_false_iff.mpr c13
       subst c13
       have H1 : (if ([] : List (S30)).length + l0.length < 2932031007402 then ((some (([] : List (S30)) ++ l0 : List (S30))).bind fun y117 => (if y117.length + l1.length < 2932031007402 then ((some (y117 ++ l1 : List (S30))).bind fun y120 => (laws_FnUnitSame.l0 kj10 l0 l1 ((l0.length : Int) != (l1.length : Int)) y120 (y120.length : Int) 0)) else (none))) else (none)) = some r := by rw [if_neg (show ¬ (false = true) by decide)] at H; exact H
       clear H
       have H := H1
       clear H1
       by_cases c14 : ([] : List (S30)).length + l0.length < 2932031007402
       ·rw [if_pos c14] at H
        have LMc14 := Aside0.mk c14
        clear c14
        obtain ⟨y117, hy117⟩ : ∃ y_ : List (S30), y_ = (([] : List (S30)) ++ l0) := ⟨_, rfl⟩
        replace H : (if y117.length + l1.length < 2932031007402 then ((some (y117 ++ l1 : List (S30))).bind fun y120 => (laws_FnUnitSame.l0 kj10 l0 l1 ((l0.length : Int) != (l1.length : Int)) y120 (y120.length : Int) 0)) else (none)) = some r := by first | (rw [hy117]; with_reducible exact H) | (have H2_ := (Option.bind_some _ _).symm.trans H; rw [hy117]; with_reducible exact H2_) | (have H2_ := (Option.bind_some _ _).symm.trans H; with_reducible exact H2_) | with_reducible exact H | (rw [hy117]; exact H) | exact H
        have Ny117 := Aside0.mk hy117
        clear hy117
        by_cases c15 : y117.length + l1.length < 2932031007402
        ·rw [if_pos c15] at H
         have LMc15 := Aside0.mk c15
         clear c15
         obtain ⟨y120, hy120⟩ : ∃ y_ : List (S30), y_ = (y117 ++ l1) := ⟨_, rfl⟩
         replace H : (laws_FnUnitSame.l0 kj10 l0 l1 ((l0.length : Int) != (l1.length : Int)) y120 (y120.length : Int) 0) = some r := by first | (rw [hy120]; with_reducible exact H) | (have H2_ := (Option.bind_some _ _).symm.trans H; rw [hy120]; with_reducible exact H2_) | (have H2_ := (Option.bind_some _ _).symm.trans H; with_reducible exact H2_) | with_reducible exact H | (rw [hy120]; exact H) | exact H
         have Ny120 := Aside0.mk hy120
         clear hy120
         have H' := Aside0.mk H
         clear H
         go_wp2_with (first | ((with_reducible refine gate_builtin (b := .append) (xs := #[.const (.slice none 0 0), .tmp 30]) rfl ?_); (try (refine gate_guard (by rfl) ?_; dsimp only)); at_builtin; refine Kd.R_append_rows k30 (w0 := w) w.heap.size rfl (.const (.slice none 0 0)) (.tmp 30) 27 30 (.agg #[(.string ⟨#[]⟩), (.string ⟨#[]⟩), (.string ⟨#[]⟩)]) 48 rfl Tryd.underlying27 info30 rfl (by decide) (by omega) (.slice none 0 0) ([] : List (S30)) l0 _ _ _ (fun _ => True) (fun _ => False) rfl rfl ?aO ?aR (fun _ _ h => h) (fun _ h => h.elim) ?aF ?aB ?aS ?aL ?_; (case aR => repeat (first | exact (Kd.C_below HR0.out HB.out) | (with_reducible refine Kd.C_alloc ?_ _) | (with_reducible refine Kd.C_drewN ?_ _) | (with_reducible refine Kd.C_drew ?_))); (case aB => exact (by repeat (first | (with_reducible first | exact HB.out | apply below_alloc | apply pw_below_drewN | apply below_drew1) | exact HB.out))); (case aF => exact (fun _ _ => trivial)); (case aO => exact ((Kd.R_nil _ _ _ _ (fun _ => True)))); (case aS => exact (below_size (by repeat (first | (with_reducible first | exact HB.out | apply below_alloc | apply pw_below_drewN | apply below_drew1) | exact HB.out)))); (case aL => have := LMc14.out; omega); intro v118 w16 ho hb hg hat; rw [← Ny117.out] at ho; have n0_ := Aside0.mk (hb); have n1_ := Aside0.mk (ho); clear HB; have HB := n0_; have HO119 := n1_; clear n0_ n1_; clear ho hb hg hat) | ((with_reducible refine gate_builtin (b := .append) (xs := #[.tmp 31, .tmp 32]) rfl ?_); (try (refine gate_guard (by rfl) ?_; dsimp only)); at_builtin; refine Kd.R_append_rows k30 (w0 := w) w.heap.size rfl (.tmp 31) (.tmp 32) 27 30 (.agg #[(.string ⟨#[]⟩), (.string ⟨#[]⟩), (.string ⟨#[]⟩)]) 48 rfl Tryd.underlying27 info30 rfl (by decide) (by omega) v118 y117 l1 _ _ _ (fun _ => True) (fun _ => False) rfl rfl ?aO ?aR (fun _ _ h => h) (fun _ h => h.elim) ?aF ?aB ?aS ?aL ?_; (case aR => repeat (first | exact (Kd.C_below HR1.out HB.out) | (with_reducible refine Kd.C_alloc ?_ _) | (with_reducible refine Kd.C_drewN ?_ _) | (with_reducible refine Kd.C_drew ?_))); (case aB => exact (by repeat (first | (with_reducible first | exact HB.out | apply below_alloc | apply pw_below_drewN | apply below_drew1) | exact HB.out))); (case aF => exact (fun _ _ => trivial)); (case aO => exact (by (with_reducible repeat (first | apply Kd.R_alloc | apply Kd.R_drewN | apply Kd.R_drew)); exact HO119.out)); (case aS => exact (below_size (by repeat (first | (with_reducible first | exact HB.out | apply below_alloc | apply pw_below_drewN | apply below_drew1) | exact HB.out)))); (case aL => have := LMc15.out; omega); intro v121 w17 ho hb hg hat; rw [← Ny120.out] at ho; have n0_ := Aside0.mk (hb); have n1_ := Aside0.mk (ho); clear HB; clear HO119; have HB := n0_; have HO122 := n1_; clear n0_ n1_; clear ho hb hg hat; obtain ⟨Ao18, co18, eo18⟩ := Kd.R_slice HO122.out; subst eo18))
         go_loopg [6, 35] kj10 (fun kq v6 v35 w' => ∃ (x6_3 : Bool) (x35_3 : Int), v6 = .bool x6_3 ∧ v35 = .int .i64 x35_3 ∧ Aside0 (laws_FnUnitSame.l0 kq l0 l1 x6_3 y120 (y120.length : Int) x35_3 = some r) ∧ Aside0 (kq ≤ kj10) ∧ Aside0 (Kd.R k30 30 w' w.heap.size (fun _ => True) (.slice Ao18 y120.length co18) y120) ∧ Aside0 (Below w.heap.size w w'))
         case atStart => exact ⟨(((l0.length : Int) != (l1.length : Int))), (0), (by first | rfl | (simp; done) | (simp [*]; done)), (by first | rfl | (simp; done) | (simp [*]; done)), H', ⟨Nat.le_refl _⟩, ⟨by (with_reducible repeat (first | apply Kd.R_alloc | apply Kd.R_drewN | apply Kd.R_drew)); exact HO122.out⟩, ⟨by repeat (first | (with_reducible first | exact HB.out | apply below_alloc | apply pw_below_drewN | apply below_drew1) | exact HB.out)⟩⟩
         case round =>
          clear H'
          try clear c1
          try clear p2
          try clear c5
          try clear c10
          try clear c12
          try clear c12b0
          try clear c12b1
          try clear c13
          try clear c14
          try clear c15
          try clear c16
          try clear p2
          obtain ⟨x6_3, x35_3, rfl, rfl, HA, HK3, HO_33, HB⟩ := hrel
          cases gk with
          | zero => exact absurd HA.out (by simp [laws_FnUnitSame.l0])
          | succ k3 =>
           have H := HA.out
           clear HA
           simp only [laws_FnUnitSame.l0] at H
           by_cases c19 : x35_3 < (y120.length : Int)
           ·rw [if_pos c19] at H
            have c19b0 : decide (x35_3 < (y120.length : Int)) = true := decide_eq_true c19
            clear c19
            by_cases c20 : 0 ≤ x35_3
            ·rw [if_pos c20] at H
             have c20b0 : decide (0 ≤ x35_3) = true := decide_eq_true c20
             clear c20
             by_cases c21 : x35_3 < (y120.length : Int)
             ·rw [if_pos c21] at H
              have c21b0 : decide (x35_3 < (y120.length : Int)) = true := decide_eq_true c21
              clear c21
              by_cases c22 : x6_3 = true
              ·subst c22
               have H1 : (laws_FnUnitSame.l0 k3 l0 l1 true y120 (y120.length : Int) (wrap64 (x35_3 + 1))) = some r := by rw [if_pos rfl] at H; exact H
               clear H
               have H := H1
               clear H1
               have H' := Aside0.mk H
               clear H
               have p123 : 0 ≤ (x35_3 : Int) := of_decide_eq_true (by first | (with_reducible assumption) | assumption)
               have q123 : x35_3 < (y120.length : Int) := of_decide_eq_true (by first | (with_reducible assumption) | assumption)
               obtain ⟨ad123, e123, hx123_0, hx123_1, hx123_2⟩ := at_T30 (Kd.R_reads' HO_33.out).2.2 x35_3 p123 q123
               cases e123
               replace p123 := eq_true p123
               replace q123 := eq_true q123
               try go_wp2_with (first | ((with_reducible refine gate_dst (N := 8) rfl ?_); (try (refine gate_guard (by rfl) ?_; dsimp only)); refine box_event ?hg (N := 8) ?hd (cs := #[.string (⟨#[]⟩ : ByteArray), .string (⟨#[]⟩ : ByteArray), .string (⟨#[]⟩ : ByteArray)]) (t := 30) ?hr ?_; (case hd => rfl); (case hg => rfl); (case hr => first | (go_simp; done) | (go_simp; rfl)); intro gb124 hg w23 hbox hb; have n0_ := Aside0.mk (Kd.R_below (Kd.R_elderB (by (with_reducible repeat (first | apply Kd.R_alloc | apply Kd.R_drewN | apply Kd.R_drew)); exact HO_33.out) gb124 (Nat.le_of_eq hg.symm)) hb); have n1_ := Aside0.mk (below_step (by repeat (first | (with_reducible first | exact HB.out | apply below_alloc | apply pw_below_drewN | apply below_drew1) | exact HB.out)) hb); have n2_ := Aside0.mk (hbox); have n3_ := Aside0.mk ((by rw [hg]; exact (below_size (by repeat (first | (with_reducible first | exact HB.out | apply below_alloc | apply pw_below_drewN | apply below_drew1) | exact HB.out))) : w.heap.size ≤ gb124)); have n4_ := Aside0.mk ((by rw [hg]; exact (below_size (by repeat (first | (with_reducible first | exact HB.out | apply below_alloc | apply pw_below_drewN | apply below_drew1) | exact HB.out))) : w.heap.size ≤ gb124)); clear HO_33; clear HB; have HO_33 := n0_; have HB := n1_; have BK124 := n2_; have GW124 := n3_; have GE124 := n4_; clear n0_ n1_ n2_ n3_ n4_; clear hb hbox hg; have hcz24_0 : w23.cell? ⟨gb124, 0, none⟩ = some (.string (⟨#[]⟩ : ByteArray)) := (blk_cell BK124.out 0).trans rfl; have hcz24_1 : w23.cell? ⟨gb124, 1, none⟩ = some (.string (⟨#[]⟩ : ByteArray)) := (blk_cell BK124.out 1).trans rfl; have hcz24_2 : w23.cell? ⟨gb124, 2, none⟩ = some (.string (⟨#[]⟩ : ByteArray)) := (blk_cell BK124.out 2).trans rfl; have hfz24_0 := blk_frozen BK124.out 0; have hfz24_1 := blk_frozen BK124.out 1; have hfz24_2 := blk_frozen BK124.out 2))
               have n0_ : Aside0 (Kd.R k30 30 (((w23.setCell ⟨gb124, 0, none⟩ (.string ((rd_T30 y120 x35_3).f0))).setCell ⟨gb124, 1, none⟩ (.string ((rd_T30 y120 x35_3).f1))).setCell ⟨gb124, 2, none⟩ (.string ((rd_T30 y120 x35_3).f2))) w.heap.size (fun k_ => k_ ≠ gb124) (.slice (some ad123) y120.length co18) y120) := ⟨by (with_reducible repeat (first | apply Kd.R_alloc | apply Kd.R_drewN | apply Kd.R_drew)); exact Kd.R_mono (Kd.R_far (p := ⟨gb124, 2, none⟩) (Kd.R_far (p := ⟨gb124, 1, none⟩) (Kd.R_far (p := ⟨gb124, 0, none⟩) (Kd.R_mono HO_33.out (fun k_ hk => (⟨hk, hk.2⟩ : _ ∧ k_ ≠ gb124))) (fun _ hk => hk.2) (.string ((rd_T30 y120 x35_3).f0))) (fun _ hk => hk.2) (.string ((rd_T30 y120 x35_3).f1))) (fun _ hk => hk.2) (.string ((rd_T30 y120 x35_3).f2))) (fun _ hk => hk.1.2)⟩
               have n1_ : Aside0 ((((w23.setCell ⟨gb124, 0, none⟩ (.string ((rd_T30 y120 x35_3).f0))).setCell ⟨gb124, 1, none⟩ (.string ((rd_T30 y120 x35_3).f1))).setCell ⟨gb124, 2, none⟩ (.string ((rd_T30 y120 x35_3).f2))).heap[gb124]? = some (.cells #[.string ((rd_T30 y120 x35_3).f0), .string ((rd_T30 y120 x35_3).f1), .string ((rd_T30 y120 x35_3).f2)] 30 (0, 0))) := ⟨by (with_reducible repeat (first | refine blk_drewN ?_ _ | refine blk_drew ?_ | refine blk_alloc ?_ _)); refine blk_put (cs := #[.string ((rd_T30 y120 x35_3).f0), .string ((rd_T30 y120 x35_3).f1), .string (⟨#[]⟩ : ByteArray)]) ?_ 2 _ rfl; (with_reducible repeat (first | refine blk_drewN ?_ _ | refine blk_drew ?_ | refine blk_alloc ?_ _)); refine blk_put (cs := #[.string ((rd_T30 y120 x35_3).f0), .string (⟨#[]⟩ : ByteArray), .string (⟨#[]⟩ : ByteArray)]) ?_ 1 _ rfl; (with_reducible repeat (first | refine blk_drewN ?_ _ | refine blk_drew ?_ | refine blk_alloc ?_ _)); refine blk_put (cs := #[.string (⟨#[]⟩ : ByteArray), .string (⟨#[]⟩ : ByteArray), .string (⟨#[]⟩ : ByteArray)]) ?_ 0 _ rfl; (with_reducible repeat (first | refine blk_drewN ?_ _ | refine blk_drew ?_ | refine blk_alloc ?_ _)); exact BK124.out⟩
               have n2_ : Aside0 (Below w.heap.size w (((w23.setCell ⟨gb124, 0, none⟩ (.string ((rd_T30 y120 x35_3).f0))).setCell ⟨gb124, 1, none⟩ (.string ((rd_T30 y120 x35_3).f1))).setCell ⟨gb124, 2, none⟩ (.string ((rd_T30 y120 x35_3).f2)))) := ⟨by repeat (first | (with_reducible first | exact HB.out | apply below_alloc | apply pw_below_drewN | apply below_drew1 | refine below_set ?_ GE124.out) | exact HB.out)⟩
               (try clear HO_33)
               (try clear BK124)
               (try clear HB)
               generalize (((w23.setCell ⟨gb124, 0, none⟩ (.string ((rd_T30 y120 x35_3).f0))).setCell ⟨gb124, 1, none⟩ (.string ((rd_T30 y120 x35_3).f1))).setCell ⟨gb124, 2, none⟩ (.string ((rd_T30 y120 x35_3).f2))) = w25 at n0_ n1_ n2_ ⊢
               have HO_33 := n0_
               have BK124 := n1_
               have HB := n2_
               clear n0_ n1_ n2_
               have n0_ := Aside0.mk (Kd.R_drew HO_33.out)
               have n1_ := Aside0.mk (blk_drew BK124.out)
               have n2_ := Aside0.mk (below_drew1 HB.out)
               clear HO_33
               clear BK124
               clear HB
               have HO_33 := n0_
               have BK124 := n1_
               have HB := n2_
               clear n0_ n1_ n2_
               refine start_ (n := 13) (S := fun w' => True) (ds := []) (bb [0, 13]) (by kernel_rfl) rfl rfl trivial (fun hHeld => ?_); refine with_tabW laws_FnUnitSame.tab10 laws_FnUnitSame.bits10 (fun HT_ HW_ => ?_)
               generalize w25.drew = w26 at HO_33 BK124 HB hHeld ⊢
               refine pure_ (i := 0) (N := some 39) (v := ?_) (a' := ?_) (bb [1, 12]) rfl rfl (any_of HT_.out (by kernel_rfl)) (fun _ _ _ h => h) (Or.inl ⟨by rfl, ?_⟩) ?_ ?_
               rotate_left
               ·intro w'
                go_simp
                with_reducible rfl
               rotate_left
               ·simp only [Act.put, List.setIfInBounds_toArray, List.set_cons_zero, List.set_cons_succ, i64_w, i32_w]
                rfl
               refine pure_ (i := 1) (N := some 40) (v := ?_) (a' := ?_) (bb [2, 11]) rfl rfl (any_of HT_.out (by kernel_rfl)) (fun _ _ _ h => h) (Or.inl ⟨by rfl, ?_⟩) ?_ ?_
               rotate_left
               ·intro w'
                go_simp
                with_reducible rfl
               rotate_left
               ·simp only [Act.put, List.setIfInBounds_toArray, List.set_cons_zero, List.set_cons_succ, i64_w, i32_w]
                rfl
               refine pure_ (i := 2) (N := some 41) (v := undef) (a' := ?_) (bb [3, 10]) rfl rfl (any_of HT_.out (by kernel_rfl)) (fun _ _ _ h => h) (Or.inr ⟨by rfl, rfl⟩) ?_ ?_
               rotate_left
               ·simp only [Act.put, List.setIfInBounds_toArray, List.set_cons_zero, List.set_cons_succ, i64_w, i32_w]
                rfl
               refine pure_ (i := 3) (N := some 42) (v := undef) (a' := ?_) (bb [4, 9]) rfl rfl (any_of HT_.out (by kernel_rfl)) (fun _ _ _ h => h) (Or.inr ⟨by rfl, rfl⟩) ?_ ?_
               rotate_left
               ·simp only [Act.put, List.setIfInBounds_toArray, List.set_cons_zero, List.set_cons_succ, i64_w, i32_w]
                rfl
               refine pure_ (i := 4) (N := some 43) (v := undef) (a' := ?_) (bb [5, 8]) rfl rfl (any_of HT_.out (by kernel_rfl)) (fun _ _ _ h => h) (Or.inr ⟨by rfl, rfl⟩) ?_ ?_
               rotate_left
               ·simp only [Act.put, List.setIfInBounds_toArray, List.set_cons_zero, List.set_cons_succ, i64_w, i32_w]
                rfl
               refine pure_ (i := 5) (N := some 44) (v := undef) (a' := ?_) (bb [6, 7]) rfl rfl (any_of HT_.out (by kernel_rfl)) (fun _ _ _ h => h) (Or.inr ⟨by rfl, rfl⟩) ?_ ?_
               rotate_left
               ·simp only [Act.put, List.setIfInBounds_toArray, List.set_cons_zero, List.set_cons_succ, i64_w, i32_w]
                rfl
               refine pure_ (i := 6) (N := some 45) (v := undef) (a' := ?_) (bb [7, 6]) rfl rfl (any_of HT_.out (by kernel_rfl)) (fun _ _ _ h => h) (Or.inr ⟨by rfl, rfl⟩) ?_ ?_
               rotate_left
               ·simp only [Act.put, List.setIfInBounds_toArray, List.set_cons_zero, List.set_cons_succ, i64_w, i32_w]
                rfl
               refine pure_ (i := 7) (N := some 46) (v := undef) (a' := ?_) (bb [8, 5]) rfl rfl (any_of HT_.out (by kernel_rfl)) (fun _ _ _ h => h) (Or.inr ⟨by rfl, rfl⟩) ?_ ?_
               rotate_left
               ·simp only [Act.put, List.setIfInBounds_toArray, List.set_cons_zero, List.set_cons_succ, i64_w, i32_w]
                rfl
               refine pure_ (i := 8) (N := some 47) (v := undef) (a' := ?_) (bb [9, 4]) rfl rfl (any_of HT_.out (by kernel_rfl)) (fun _ _ _ h => h) (Or.inr ⟨by rfl, rfl⟩) ?_ ?_
               rotate_left
               ·simp only [Act.put, List.setIfInBounds_toArray, List.set_cons_zero, List.set_cons_succ, i64_w, i32_w]
                rfl
               refine pure_ (i := 9) (N := some 48) (v := undef) (a' := ?_) (bb [10, 3]) rfl rfl (any_of HT_.out (by kernel_rfl)) (fun _ _ _ h => h) (Or.inr ⟨by rfl, rfl⟩) ?_ ?_
               rotate_left
               ·simp only [Act.put, List.setIfInBounds_toArray, List.set_cons_zero, List.set_cons_succ, i64_w, i32_w]
                rfl
               refine pure_ (i := 10) (N := some 49) (v := undef) (a' := ?_) (bb [11, 2]) rfl rfl (any_of HT_.out (by kernel_rfl)) (fun _ _ _ h => h) (Or.inr ⟨by rfl, rfl⟩) ?_ ?_
               rotate_left
               ·simp only [Act.put, List.setIfInBounds_toArray, List.set_cons_zero, List.set_cons_succ, i64_w, i32_w]
                rfl
               refine pure_ (i := 11) (N := some 50) (v := ?_) (a' := ?_) (bb [12, 1]) rfl rfl (any_of HT_.out (by kernel_rfl)) (fun _ _ _ h => h) (Or.inl ⟨by rfl, ?_⟩) ?_ ?_
               rotate_left
               ·intro w'
                go_simp
                with_reducible rfl
               rotate_left
               ·simp only [Act.put, List.setIfInBounds_toArray, List.set_cons_zero, List.set_cons_succ, i64_w, i32_w]
                rfl
               refine pure_ (i := 12) (N := some 6) (v := ?_) (a' := ?_) (bb [13]) rfl rfl (any_of HT_.out (by kernel_rfl)) (fun _ _ _ h => h) (Or.inl ⟨by rfl, ?_⟩) ?_ ?_
               rotate_left
               ·intro w'
                go_simp
                with_reducible rfl
               rotate_left
               ·simp only [Act.put, List.setIfInBounds_toArray, List.set_cons_zero, List.set_cons_succ, i64_w, i32_w]
                rfl
               refine done_ (done_of HT_.out (by kernel_rfl)) ?_
               try go_wp2
               go_roundg k3
               case measure => have := HJ2.out; have := HJ10.out; have := HK3.out; omega
               case rel => exact ⟨(true), (wrap64 (x35_3 + 1)), (by first | rfl | (simp; done) | (simp [*]; done)), (by first | rfl | (simp; done) | (simp [*]; done)), H', ⟨by have := HJ2.out; have := HJ10.out; have := HK3.out; omega⟩, ⟨by (with_reducible repeat (first | apply Kd.R_alloc | apply Kd.R_drewN | apply Kd.R_drew)); exact Kd.R_mono HO_33.out (fun _ hk => trivial)⟩, ⟨by repeat (first | (with_reducible first | exact HB.out | apply below_alloc | apply pw_below_drewN | apply below_drew1 | refine below_set ?_ GE124.out) | exact HB.out)⟩⟩
              ·replace c22 := Bool.eq_false_iff.mpr c22
               subst c22
               have H1 : ((laws_FnUnitSame_1.f k3 l0 ((rd_T30 y120 x35_3).f0) ((rd_T30 y120 x35_3).f1) ((rd_T30 y120 x35_3).f2)).bind fun t125 => ((laws_FnUnitSame_1.f k3 l1 ((rd_T30 y120 x35_3).f0) ((rd_T30 y120 x35_3).f1) ((rd_T30 y120 x35_3).f2)).bind fun t126 => (laws_FnUnitSame.l0 k3 l0 l1 (t125 != t126) y120 (y120.length : Int) (wrap64 (x35_3 + 1))))) = some r := by rw [if_neg (show ¬ (false = true) by decide)] at H; exact H
               clear H
               have H := H1
               clear H1
               replace H := Option.bind_eq_some_iff.mp H
               obtain ⟨t125, A270, H⟩ := H
               replace H : ((laws_FnUnitSame_1.f k3 l1 ((rd_T30 y120 x35_3).f0) ((rd_T30 y120 x35_3).f1) ((rd_T30 y120 x35_3).f2)).bind fun t126 => (laws_FnUnitSame.l0 k3 l0 l1 (t125 != t126) y120 (y120.length : Int) (wrap64 (x35_3 + 1)))) = some r := H
               have A27 := Aside0.mk A270
               clear A270
               replace H := Option.bind_eq_some_iff.mp H
               obtain ⟨t126, A280, H⟩ := H
               replace H : (laws_FnUnitSame.l0 k3 l0 l1 (t125 != t126) y120 (y120.length : Int) (wrap64 (x35_3 + 1))) = some r := H
               have A28 := Aside0.mk A280
               clear A280
               have H' := Aside0.mk H
               clear H
               have p123 : 0 ≤ (x35_3 : Int) := of_decide_eq_true (by first | (with_reducible assumption) | assumption)
               have q123 : x35_3 < (y120.length : Int) := of_decide_eq_true (by first | (with_reducible assumption) | assumption)
               obtain ⟨ad123, e123, hx123_0, hx123_1, hx123_2⟩ := at_T30 (Kd.R_reads' HO_33.out).2.2 x35_3 p123 q123
               cases e123
               replace p123 := eq_true p123
               replace q123 := eq_true q123
               try go_wp2_with (first | ((with_reducible refine gate_dst (N := 8) rfl ?_); (try (refine gate_guard (by rfl) ?_; dsimp only)); refine box_event ?hg (N := 8) ?hd (cs := #[.string (⟨#[]⟩ : ByteArray), .string (⟨#[]⟩ : ByteArray), .string (⟨#[]⟩ : ByteArray)]) (t := 30) ?hr ?_; (case hd => rfl); (case hg => rfl); (case hr => first | (go_simp; done) | (go_simp; rfl)); intro gb124 hg w29 hbox hb; have n0_ := Aside0.mk (Kd.R_below (Kd.R_elderB (by (with_reducible repeat (first | apply Kd.R_alloc | apply Kd.R_drewN | apply Kd.R_drew)); exact HO_33.out) gb124 (Nat.le_of_eq hg.symm)) hb); have n1_ := Aside0.mk (below_step (by repeat (first | (with_reducible first | exact HB.out | apply below_alloc | apply pw_below_drewN | apply below_drew1) | exact HB.out)) hb); have n2_ := Aside0.mk (hbox); have n3_ := Aside0.mk ((by rw [hg]; exact (below_size (by repeat (first | (with_reducible first | exact HB.out | apply below_alloc | apply pw_below_drewN | apply below_drew1) | exact HB.out))) : w.heap.size ≤ gb124)); have n4_ := Aside0.mk ((by rw [hg]; exact (below_size (by repeat (first | (with_reducible first | exact HB.out | apply below_alloc | apply pw_below_drewN | apply below_drew1) | exact HB.out))) : w.heap.size ≤ gb124)); clear HO_33; clear HB; have HO_33 := n0_; have HB := n1_; have BK124 := n2_; have GW124 := n3_; have GE124 := n4_; clear n0_ n1_ n2_ n3_ n4_; clear hb hbox hg; have hcz30_0 : w29.cell? ⟨gb124, 0, none⟩ = some (.string (⟨#[]⟩ : ByteArray)) := (blk_cell BK124.out 0).trans rfl; have hcz30_1 : w29.cell? ⟨gb124, 1, none⟩ = some (.string (⟨#[]⟩ : ByteArray)) := (blk_cell BK124.out 1).trans rfl; have hcz30_2 : w29.cell? ⟨gb124, 2, none⟩ = some (.string (⟨#[]⟩ : ByteArray)) := (blk_cell BK124.out 2).trans rfl; have hfz30_0 := blk_frozen BK124.out 0; have hfz30_1 := blk_frozen BK124.out 1; have hfz30_2 := blk_frozen BK124.out 2))
               have n0_ : Aside0 (Kd.R k30 30 (((w29.setCell ⟨gb124, 0, none⟩ (.string ((rd_T30 y120 x35_3).f0))).setCell ⟨gb124, 1, none⟩ (.string ((rd_T30 y120 x35_3).f1))).setCell ⟨gb124, 2, none⟩ (.string ((rd_T30 y120 x35_3).f2))) w.heap.size (fun k_ => k_ ≠ gb124) (.slice (some ad123) y120.length co18) y120) := ⟨by (with_reducible repeat (first | apply Kd.R_alloc | apply Kd.R_drewN | apply Kd.R_drew)); exact Kd.R_mono (Kd.R_far (p := ⟨gb124, 2, none⟩) (Kd.R_far (p := ⟨gb124, 1, none⟩) (Kd.R_far (p := ⟨gb124, 0, none⟩) (Kd.R_mono HO_33.out (fun k_ hk => (⟨hk, hk.2⟩ : _ ∧ k_ ≠ gb124))) (fun _ hk => hk.2) (.string ((rd_T30 y120 x35_3).f0))) (fun _ hk => hk.2) (.string ((rd_T30 y120 x35_3).f1))) (fun _ hk => hk.2) (.string ((rd_T30 y120 x35_3).f2))) (fun _ hk => hk.1.2)⟩
               have n1_ : Aside0 ((((w29.setCell ⟨gb124, 0, none⟩ (.string ((rd_T30 y120 x35_3).f0))).setCell ⟨gb124, 1, none⟩ (.string ((rd_T30 y120 x35_3).f1))).setCell ⟨gb124, 2, none⟩ (.string ((rd_T30 y120 x35_3).f2))).heap[gb124]? = some (.cells #[.string ((rd_T30 y120 x35_3).f0), .string ((rd_T30 y120 x35_3).f1), .string ((rd_T30 y120 x35_3).f2)] 30 (0, 0))) := ⟨by (with_reducible repeat (first | refine blk_drewN ?_ _ | refine blk_drew ?_ | refine blk_alloc ?_ _)); refine blk_put (cs := #[.string ((rd_T30 y120 x35_3).f0), .string ((rd_T30 y120 x35_3).f1), .string (⟨#[]⟩ : ByteArray)]) ?_ 2 _ rfl; (with_reducible repeat (first | refine blk_drewN ?_ _ | refine blk_drew ?_ | refine blk_alloc ?_ _)); refine blk_put (cs := #[.string ((rd_T30 y120 x35_3).f0), .string (⟨#[]⟩ : ByteArray), .string (⟨#[]⟩ : ByteArray)]) ?_ 1 _ rfl; (with_reducible repeat (first | refine blk_drewN ?_ _ | refine blk_drew ?_ | refine blk_alloc ?_ _)); refine blk_put (cs := #[.string (⟨#[]⟩ : ByteArray), .string (⟨#[]⟩ : ByteArray), .string (⟨#[]⟩ : ByteArray)]) ?_ 0 _ rfl; (with_reducible repeat (first | refine blk_drewN ?_ _ | refine blk_drew ?_ | refine blk_alloc ?_ _)); exact BK124.out⟩
               have n2_ : Aside0 (Below w.heap.size w (((w29.setCell ⟨gb124, 0, none⟩ (.string ((rd_T30 y120 x35_3).f0))).setCell ⟨gb124, 1, none⟩ (.string ((rd_T30 y120 x35_3).f1))).setCell ⟨gb124, 2, none⟩ (.string ((rd_T30 y120 x35_3).f2)))) := ⟨by repeat (first | (with_reducible first | exact HB.out | apply below_alloc | apply pw_below_drewN | apply below_drew1 | refine below_set ?_ GE124.out) | exact HB.out)⟩
               (try clear HO_33)
               (try clear BK124)
               (try clear HB)
               generalize (((w29.setCell ⟨gb124, 0, none⟩ (.string ((rd_T30 y120 x35_3).f0))).setCell ⟨gb124, 1, none⟩ (.string ((rd_T30 y120 x35_3).f1))).setCell ⟨gb124, 2, none⟩ (.string ((rd_T30 y120 x35_3).f2))) = w31 at n0_ n1_ n2_ ⊢
               have HO_33 := n0_
               have BK124 := n1_
               have HB := n2_
               clear n0_ n1_ n2_
               have n0_ := Aside0.mk (Kd.R_drew HO_33.out)
               have n1_ := Aside0.mk (blk_drew BK124.out)
               have n2_ := Aside0.mk (below_drew1 HB.out)
               clear HO_33
               clear BK124
               clear HB
               have HO_33 := n0_
               have BK124 := n1_
               have HB := n2_
               clear n0_ n1_ n2_
               refine start_ (n := 13) (S := fun w' => w'.cell? ⟨gb124, 0, none⟩ = some (.string ((rd_T30 y120 x35_3).f0)) ∧ w'.cell? ⟨gb124, 1, none⟩ = some (.string ((rd_T30 y120 x35_3).f1)) ∧ w'.cell? ⟨gb124, 2, none⟩ = some (.string ((rd_T30 y120 x35_3).f2))) (ds := []) (bb [0, 13]) (by kernel_rfl) rfl rfl ⟨(blk_cell BK124.out 0).trans rfl, (blk_cell BK124.out 1).trans rfl, (blk_cell BK124.out 2).trans rfl⟩ (fun hHeld => ?_); refine with_tabW laws_FnUnitSame.tab10 laws_FnUnitSame.bits10 (fun HT_ HW_ => ?_)
               generalize w31.drew = w32 at HO_33 BK124 HB hHeld ⊢
               refine pure_ (i := 0) (N := some 39) (v := ?_) (a' := ?_) (bb [1, 12]) rfl rfl (any_of HT_.out (by kernel_rfl)) (fun _ _ _ h => h) (Or.inl ⟨by rfl, ?_⟩) ?_ ?_
               rotate_left
               ·intro w'
                go_simp
                with_reducible rfl
               rotate_left
               ·simp only [Act.put, List.setIfInBounds_toArray, List.set_cons_zero, List.set_cons_succ, i64_w, i32_w]
                rfl
               refine pure_ (i := 1) (N := some 40) (v := ?_) (a' := ?_) (bb [2, 11]) rfl rfl (any_of HT_.out (by kernel_rfl)) (fun _ _ _ h => h) (Or.inl ⟨by rfl, ?_⟩) ?_ ?_
               rotate_left
               ·intro w'
                go_simp
                with_reducible rfl
               rotate_left
               ·simp only [Act.put, List.setIfInBounds_toArray, List.set_cons_zero, List.set_cons_succ, i64_w, i32_w]
                rfl
               refine pure_ (i := 2) (N := some 41) (v := ?_) (a' := ?_) (bb [3, 10]) rfl rfl (any_of HT_.out (by kernel_rfl)) (fun _ _ _ h => h) (Or.inl ⟨by rfl, ?_⟩) ?_ ?_
               rotate_left
               ·intro w'
                go_simp
                with_reducible rfl
               rotate_left
               ·simp only [Act.put, List.setIfInBounds_toArray, List.set_cons_zero, List.set_cons_succ, i64_w, i32_w]
                rfl
               refine pure_ (i := 3) (N := some 42) (v := ?_) (a' := ?_) (bb [4, 9]) rfl rfl (any_of HT_.out (by kernel_rfl)) (fun _ _ _ h => h) (Or.inl ⟨by rfl, ?_⟩) ?_ ?_
               rotate_left
               ·intro w'
                go_simp
                with_reducible rfl
               rotate_left
               ·simp only [Act.put, List.setIfInBounds_toArray, List.set_cons_zero, List.set_cons_succ, i64_w, i32_w]
                rfl
               refine pure_ (i := 6) (N := some 45) (v := ?_) (a' := ?_) (bb [4, 2, 1, 6]) rfl rfl (any_of HT_.out (by kernel_rfl)) (fun _ _ _ h => h) (Or.inl ⟨by rfl, ?_⟩) ?_ ?_
               rotate_left
               ·intro w'
                go_simp
                with_reducible rfl
               rotate_left
               ·simp only [Act.put, List.setIfInBounds_toArray, List.set_cons_zero, List.set_cons_succ, i64_w, i32_w]
                rfl
               refine pure_ (i := 7) (N := some 46) (v := ?_) (a' := ?_) (bb [4, 2, 2, 5]) rfl rfl (any_of HT_.out (by kernel_rfl)) (fun _ _ _ h => h) (Or.inl ⟨by rfl, ?_⟩) ?_ ?_
               rotate_left
               ·intro w'
                go_simp
                with_reducible rfl
               rotate_left
               ·simp only [Act.put, List.setIfInBounds_toArray, List.set_cons_zero, List.set_cons_succ, i64_w, i32_w]
                rfl
               refine take_ (i := 4) (N := some 43) (v := ?_) (a' := ?_) (bb [5, 1, 2, 5]) rfl rfl (take_ofW HT_.out HW_.out (by kernel_rfl)) (fun _ _ _ h => h) (Or.inl ⟨by rfl, ?_⟩) hHeld ?_ ?_
               rotate_left
               ·rintro w' ⟨s0, s1, s2⟩
                go_simp
                with_reducible rfl
               rotate_left
               ·simp only [Act.put, List.setIfInBounds_toArray, List.set_cons_zero, List.set_cons_succ, i64_w, i32_w]
                rfl
               refine take_ (i := 8) (N := some 47) (v := ?_) (a' := ?_) (bb [5, 1, 3, 4]) rfl rfl (take_ofW HT_.out HW_.out (by kernel_rfl)) (fun _ _ _ h => h) (Or.inl ⟨by rfl, ?_⟩) hHeld ?_ ?_
               rotate_left
               ·rintro w' ⟨s0, s1, s2⟩
                go_simp
                with_reducible rfl
               rotate_left
               ·simp only [Act.put, List.setIfInBounds_toArray, List.set_cons_zero, List.set_cons_succ, i64_w, i32_w]
                rfl
               refine one_ (i := 5) (N := some 44) (bb [9, 4]) rfl rfl (one_of HT_.out (by kernel_rfl)) (by decide) (fun K hK => ?_)
               refine goesv_ Tryd.func17 (by kernel_rfl) rfl #[.slice A0 l0.length c0, .agg #[.string ((rd_T30 y120 x35_3).f0), .string ((rd_T30 y120 x35_3).f1), .string ((rd_T30 y120 x35_3).f2)]] 41 (by rfl) rfl rfl (by rfl) (by (try simp only [List.map_toArray, List.map_cons, List.map_nil]); first | done | rfl | (simp only [List.length_drop, List.length_take]; rfl)) ?_
               with_reducible refine (laws_FnUnitSame_1.calls k3 _ _ l0 ((rd_T30 y120 x35_3).f0) ((rd_T30 y120 x35_3).f1) ((rd_T30 y120 x35_3).f2) t125 _ ?side1 ?side2 A27.out).mono ?_
               (case side1 => repeat (first | exact (Kd.C_below HR0.out HB.out) | (with_reducible refine Kd.C_alloc ?_ _) | (with_reducible refine Kd.C_drewN ?_ _) | (with_reducible refine Kd.C_drew ?_)))
               (case side2 => exact HC0.out)
               rintro e w33 ⟨rfl, hb⟩
               refine ⟨_, rfl, ?_⟩
               have n0_ := Aside0.mk (Kd.R_below (by (with_reducible repeat (first | apply Kd.R_alloc | apply Kd.R_drewN | apply Kd.R_drew)); exact HO_33.out) hb)
               have n1_ := Aside0.mk (blk_below (g := gb124) (o := .cells #[.string ((rd_T30 y120 x35_3).f0), .string ((rd_T30 y120 x35_3).f1), .string ((rd_T30 y120 x35_3).f2)] 30 (0, 0)) (by (with_reducible repeat (first | refine blk_drewN ?_ _ | refine blk_drew ?_ | refine blk_alloc ?_ _)); exact BK124.out) hb)
               have n2_ := Aside0.mk (below_step (by repeat (first | (with_reducible first | exact HB.out | apply below_alloc | apply pw_below_drewN | apply below_drew1 | refine below_set ?_ GE124.out) | exact HB.out)) hb)
               clear HO_33
               clear BK124
               clear HB
               have HO_33 := n0_
               have BK124 := n1_
               have HB := n2_
               clear n0_ n1_ n2_
               (try clear hb)
               (try clear hb2)
               (try clear hk)
               (try clear hi)
               refine hK.out _ _ ⟨(blk_cell BK124.out 0).trans rfl, (blk_cell BK124.out 1).trans rfl, (blk_cell BK124.out 2).trans rfl⟩ (fun hHeld => ?_)
               clear hK K
               refine norm_ (a' := ?_) ?_ ?_
               rotate_left
               ·show Act.put _ (some 44) _ = _
                simp only [Act.put, List.setIfInBounds_toArray, List.set_cons_zero, List.set_cons_succ, i64_w, i32_w]
                rfl
               refine one_ (i := 9) (N := some 48) (bb [10, 3]) rfl rfl (one_of HT_.out (by kernel_rfl)) (by decide) (fun K hK => ?_)
               refine goesv_ Tryd.func17 (by kernel_rfl) rfl #[.slice A1 l1.length c1, .agg #[.string ((rd_T30 y120 x35_3).f0), .string ((rd_T30 y120 x35_3).f1), .string ((rd_T30 y120 x35_3).f2)]] 45 (by rfl) rfl rfl (by rfl) (by (try simp only [List.map_toArray, List.map_cons, List.map_nil]); first | done | rfl | (simp only [List.length_drop, List.length_take]; rfl)) ?_
               with_reducible refine (laws_FnUnitSame_1.calls k3 _ _ l1 ((rd_T30 y120 x35_3).f0) ((rd_T30 y120 x35_3).f1) ((rd_T30 y120 x35_3).f2) t126 _ ?side1 ?side2 A28.out).mono ?_
               (case side1 => repeat (first | exact (Kd.C_below HR1.out HB.out) | (with_reducible refine Kd.C_alloc ?_ _) | (with_reducible refine Kd.C_drewN ?_ _) | (with_reducible refine Kd.C_drew ?_)))
               (case side2 => exact HC1.out)
               rintro e w34 ⟨rfl, hb⟩
               refine ⟨_, rfl, ?_⟩
               have n0_ := Aside0.mk (Kd.R_below (by (with_reducible repeat (first | apply Kd.R_alloc | apply Kd.R_drewN | apply Kd.R_drew)); exact HO_33.out) hb)
               have n1_ := Aside0.mk (blk_below (g := gb124) (o := .cells #[.string ((rd_T30 y120 x35_3).f0), .string ((rd_T30 y120 x35_3).f1), .string ((rd_T30 y120 x35_3).f2)] 30 (0, 0)) (by (with_reducible repeat (first | refine blk_drewN ?_ _ | refine blk_drew ?_ | refine blk_alloc ?_ _)); exact BK124.out) hb)
               have n2_ := Aside0.mk (below_step (by repeat (first | (with_reducible first | exact HB.out | apply below_alloc | apply pw_below_drewN | apply below_drew1 | refine below_set ?_ GE124.out) | exact HB.out)) hb)
               clear HO_33
               clear BK124
               clear HB
               have HO_33 := n0_
               have BK124 := n1_
               have HB := n2_
               clear n0_ n1_ n2_
               (try clear hb)
               (try clear hb2)
               (try clear hk)
               (try clear hi)
               refine hK.out _ _ ⟨(blk_cell BK124.out 0).trans rfl, (blk_cell BK124.out 1).trans rfl, (blk_cell BK124.out 2).trans rfl⟩ (fun hHeld => ?_)
               clear hK K
               refine norm_ (a' := ?_) ?_ ?_
               rotate_left
               ·show Act.put _ (some 48) _ = _
                simp only [Act.put, List.setIfInBounds_toArray, List.set_cons_zero, List.set_cons_succ, i64_w, i32_w]
                rfl
               refine pure_ (i := 10) (N := some 49) (v := ?_) (a' := ?_) (bb [11, 2]) rfl rfl (any_of HT_.out (by kernel_rfl)) (fun _ _ _ h => h) (Or.inl ⟨by rfl, ?_⟩) ?_ ?_
               rotate_left
               ·intro w'
                go_simp
                with_reducible rfl
               rotate_left
               ·simp only [Act.put, List.setIfInBounds_toArray, List.set_cons_zero, List.set_cons_succ, i64_w, i32_w]
                rfl
               refine pure_ (i := 11) (N := some 50) (v := ?_) (a' := ?_) (bb [12, 1]) rfl rfl (any_of HT_.out (by kernel_rfl)) (fun _ _ _ h => h) (Or.inl ⟨by rfl, ?_⟩) ?_ ?_
               rotate_left
               ·intro w'
                go_simp
                with_reducible rfl
               rotate_left
               ·simp only [Act.put, List.setIfInBounds_toArray, List.set_cons_zero, List.set_cons_succ, i64_w, i32_w]
                rfl
               refine pure_ (i := 12) (N := some 6) (v := ?_) (a' := ?_) (bb [13]) rfl rfl (any_of HT_.out (by kernel_rfl)) (fun _ _ _ h => h) (Or.inl ⟨by rfl, ?_⟩) ?_ ?_
               rotate_left
               ·intro w'
                go_simp
                with_reducible rfl
               rotate_left
               ·simp only [Act.put, List.setIfInBounds_toArray, List.set_cons_zero, List.set_cons_succ, i64_w, i32_w]
                rfl
               refine done_ (done_of HT_.out (by kernel_rfl)) ?_
               try go_wp2
               go_roundg k3
               case measure => have := HJ2.out; have := HJ10.out; have := HK3.out; omega
               case rel => exact ⟨((t125 != t126)), (wrap64 (x35_3 + 1)), (by first | rfl | (simp; done) | (simp [*]; done)), (by first | rfl | (simp; done) | (simp [*]; done)), H', ⟨by have := HJ2.out; have := HJ10.out; have := HK3.out; omega⟩, ⟨by (with_reducible repeat (first | apply Kd.R_alloc | apply Kd.R_drewN | apply Kd.R_drew)); exact Kd.R_mono HO_33.out (fun _ hk => trivial)⟩, ⟨by repeat (first | (with_reducible first | exact HB.out | apply below_alloc | apply pw_below_drewN | apply below_drew1 | refine below_set ?_ GE124.out) | exact HB.out)⟩⟩
             ·rw [if_neg c21] at H
              exact absurd H (by simp)
            ·rw [if_neg c20] at H
             exact absurd H (by simp)
           ·rw [if_neg c19] at H
            have c19b0 : decide (x35_3 < (y120.length : Int)) = false := decide_eq_false c19
            clear c19
            by_cases c35 : x6_3 = true
            ·subst c35
             have H1 : ((impl_UnitSame.f l0 l1).bind fun t127 => (if t127 = true then (some false) else ((laws_reads.f).bind fun t128 => (some t128)))) = some r := by rw [if_pos rfl] at H; exact H
             clear H
             have H := H1
             clear H1
             replace H := Option.bind_eq_some_iff.mp H
             obtain ⟨t127, A360, H⟩ := H
             replace H : (if t127 = true then (some false) else ((laws_reads.f).bind fun t128 => (some t128))) = some r := H
             have A36 := Aside0.mk A360
             clear A360
             by_cases c37 : t127 = true
             ·subst c37
              have H1 : (some false) = some r := by rw [if_pos rfl] at H; exact H
              clear H
              have H := H1
              clear H1
              obtain rfl := Option.some.inj H
              go_wp2_with (first | ((with_reducible refine gate_callee (f := 18) rfl ?_); refine goesL_ (some 55) rfl rfl Tryd.func18 (by kernel_rfl) rfl #[.slice A0 l0.length c0, .slice A1 l1.length c1] rfl (by (try simp only [List.map_toArray, List.map_cons, List.map_nil]); first | done | rfl | (simp only [List.length_drop, List.length_take]; rfl)) ?_; (with_reducible refine (impl_UnitSame.calls _ _ l0 _ _ l1 true _ ?side1 ?side2 ?side3 ?side4 A36.out).mono ?_); (case side1 => repeat (first | exact (Kd.C_below HR0.out HB.out) | (with_reducible refine Kd.C_alloc ?_ _) | (with_reducible refine Kd.C_drewN ?_ _) | (with_reducible refine Kd.C_drew ?_))); (case side2 => exact HC0.out); (case side3 => repeat (first | exact (Kd.C_below HR1.out HB.out) | (with_reducible refine Kd.C_alloc ?_ _) | (with_reducible refine Kd.C_drewN ?_ _) | (with_reducible refine Kd.C_drew ?_))); (case side4 => exact HC1.out); rintro e w38 ⟨rfl, hb⟩; refine ⟨_, rfl, ?_⟩; have n0_ := Aside0.mk (Kd.R_below (by (with_reducible repeat (first | apply Kd.R_alloc | apply Kd.R_drewN | apply Kd.R_drew)); exact HO_33.out) hb); have n1_ := Aside0.mk (below_step (by repeat (first | (with_reducible first | exact HB.out | apply below_alloc | apply pw_below_drewN | apply below_drew1) | exact HB.out)) hb); clear HO_33; clear HB; have HO_33 := n0_; have HB := n1_; clear n0_ n1_; (try clear hb); (try clear hb2); (try clear hk); (try clear hi)))
              go_ret
              exact ⟨by first | rfl | (simp [errW_none, errW_some] <;> rfl) | (simp [*, errW_none, errW_some] <;> rfl), by repeat (first | (with_reducible first | exact HB.out | apply below_alloc | apply pw_below_drewN | apply below_drew1) | exact HB.out)⟩
             ·replace c37 := Bool.eq_false_iff.mpr c37
              subst c37
              have H1 : ((laws_reads.f).bind fun t128 => (some t128)) = some r := by rw [if_neg (show ¬ (false = true) by decide)] at H; exact H
              clear H
              have H := H1
              clear H1
              replace H := Option.bind_eq_some_iff.mp H
              obtain ⟨t128, A390, H⟩ := H
              replace H : (some t128) = some r := H
              have A39 := Aside0.mk A390
              clear A390
              obtain rfl := Option.some.inj H
              go_wp2_with (first | ((with_reducible refine gate_callee (f := 18) rfl ?_); refine goesL_ (some 55) rfl rfl Tryd.func18 (by kernel_rfl) rfl #[.slice A0 l0.length c0, .slice A1 l1.length c1] rfl (by (try simp only [List.map_toArray, List.map_cons, List.map_nil]); first | done | rfl | (simp only [List.length_drop, List.length_take]; rfl)) ?_; (with_reducible refine (impl_UnitSame.calls _ _ l0 _ _ l1 false _ ?side1 ?side2 ?side3 ?side4 A36.out).mono ?_); (case side1 => repeat (first | exact (Kd.C_below HR0.out HB.out) | (with_reducible refine Kd.C_alloc ?_ _) | (with_reducible refine Kd.C_drewN ?_ _) | (with_reducible refine Kd.C_drew ?_))); (case side2 => exact HC0.out); (case side3 => repeat (first | exact (Kd.C_below HR1.out HB.out) | (with_reducible refine Kd.C_alloc ?_ _) | (with_reducible refine Kd.C_drewN ?_ _) | (with_reducible refine Kd.C_drew ?_))); (case side4 => exact HC1.out); rintro e w40 ⟨rfl, hb⟩; refine ⟨_, rfl, ?_⟩; have n0_ := Aside0.mk (Kd.R_below (by (with_reducible repeat (first | apply Kd.R_alloc | apply Kd.R_drewN | apply Kd.R_drew)); exact HO_33.out) hb); have n1_ := Aside0.mk (below_step (by repeat (first | (with_reducible first | exact HB.out | apply below_alloc | apply pw_below_drewN | apply below_drew1) | exact HB.out)) hb); clear HO_33; clear HB; have HO_33 := n0_; have HB := n1_; clear n0_ n1_; (try clear hb); (try clear hb2); (try clear hk); (try clear hi)) | (go_at_call 19; (with_reducible refine (laws_reads.calls  t128 _ ?side1 A39.out).mono ?_); (case side1 => exact tabW_below HTAB.out (by repeat (first | (with_reducible first | exact HB.out | apply below_alloc | apply pw_below_drewN | apply below_drew1) | exact HB.out))); rintro e w41 ⟨rfl, hb⟩; have n0_ := Aside0.mk (Kd.R_below (by (with_reducible repeat (first | apply Kd.R_alloc | apply Kd.R_drewN | apply Kd.R_drew)); exact HO_33.out) hb); have n1_ := Aside0.mk (below_step (by repeat (first | (with_reducible first | exact HB.out | apply below_alloc | apply pw_below_drewN | apply below_drew1) | exact HB.out)) hb); clear HO_33; clear HB; have HO_33 := n0_; have HB := n1_; clear n0_ n1_; (try clear hb); (try clear hb2); (try clear hk); (try clear hi)))
              go_ret
              exact ⟨by first | rfl | (simp [errW_none, errW_some] <;> rfl) | (simp [*, errW_none, errW_some] <;> rfl), by repeat (first | (with_reducible first | exact HB.out | apply below_alloc | apply pw_below_drewN | apply below_drew1) | exact HB.out)⟩
            ·replace c35 := Bool.eq_false_iff.mpr c35
             subst c35
             have H1 : (if ([] : List (S30)).length + l0.length < 2932031007402 then ((impl_UnitSame.f l0 (([] : List (S30)) ++ l0)).bind fun t132 => (if t132 = true then ((laws_sameOptions.f k3 l0 l1).bind fun t133 => (if t133 = true then ((impl_UnitSame.f l0 l1).bind fun t134 => (if t134 = true then ((laws_reads.f).bind fun t135 => (some t135)) else (some false))) else ((laws_reads.f).bind fun t136 => (some t136)))) else (some false))) else (none)) = some r := by rw [if_neg (show ¬ (false = true) by decide)] at H; exact H
             clear H
             have H := H1
             clear H1
             by_cases c42 : ([] : List (S30)).length + l0.length < 2932031007402
             ·rw [if_pos c42] at H
              have LMc42 := Aside0.mk c42
              clear c42
              obtain ⟨y129, hy129⟩ : ∃ y_ : List (S30), y_ = (([] : List (S30)) ++ l0) := ⟨_, rfl⟩
              replace H : ((impl_UnitSame.f l0 y129).bind fun t132 => (if t132 = true then ((laws_sameOptions.f k3 l0 l1).bind fun t133 => (if t133 = true then ((impl_UnitSame.f l0 l1).bind fun t134 => (if t134 = true then ((laws_reads.f).bind fun t135 => (some t135)) else (some false))) else ((laws_reads.f).bind fun t136 => (some t136)))) else (some false))) = some r := by first | (rw [hy129]; with_reducible exact H) | (have H2_ := (Option.bind_some _ _).symm.trans H; rw [hy129]; with_reducible exact H2_) | (have H2_ := (Option.bind_some _ _).symm.trans H; with_reducible exact H2_) | with_reducible exact H | (rw [hy129]; exact H) | exact H
              have Ny129 := Aside0.mk hy129
              clear hy129
              replace H := Option.bind_eq_some_iff.mp H
              obtain ⟨t132, A430, H⟩ := H
              replace H : (if t132 = true then ((laws_sameOptions.f k3 l0 l1).bind fun t133 => (if t133 = true then ((impl_UnitSame.f l0 l1).bind fun t134 => (if t134 = true then ((laws_reads.f).bind fun t135 => (some t135)) else (some false))) else ((laws_reads.f).bind fun t136 => (some t136)))) else (some false)) = some r := H
              have A43 := Aside0.mk A430
              clear A430
              by_cases c44 : t132 = true
              ·subst c44
               have H1 : ((laws_sameOptions.f k3 l0 l1).bind fun t133 => (if t133 = true then ((impl_UnitSame.f l0 l1).bind fun t134 => (if t134 = true then ((laws_reads.f).bind fun t135 => (some t135)) else (some false))) else ((laws_reads.f).bind fun t136 => (some t136)))) = some r := by rw [if_pos rfl] at H; exact H
               clear H
               have H := H1
               clear H1
               replace H := Option.bind_eq_some_iff.mp H
               obtain ⟨t133, A450, H⟩ := H
               replace H : (if t133 = true then ((impl_UnitSame.f l0 l1).bind fun t134 => (if t134 = true then ((laws_reads.f).bind fun t135 => (some t135)) else (some false))) else ((laws_reads.f).bind fun t136 => (some t136))) = some r := H
               have A45 := Aside0.mk A450
               clear A450
               by_cases c46 : t133 = true
               ·subst c46
                have H1 : ((impl_UnitSame.f l0 l1).bind fun t134 => (if t134 = true then ((laws_reads.f).bind fun t135 => (some t135)) else (some false))) = some r := by rw [if_pos rfl] at H; exact H
                clear H
                have H := H1
                clear H1
                replace H := Option.bind_eq_some_iff.mp H
                obtain ⟨t134, A470, H⟩ := H
                replace H : (if t134 = true then ((laws_reads.f).bind fun t135 => (some t135)) else (some false)) = some r := H
                have A47 := Aside0.mk A470
                clear A470
                by_cases c48 : t134 = true
                ·subst c48
                 have H1 : ((laws_reads.f).bind fun t135 => (some t135)) = some r := by rw [if_pos rfl] at H; exact H
                 clear H
                 have H := H1
                 clear H1
                 replace H := Option.bind_eq_some_iff.mp H
                 obtain ⟨t135, A490, H⟩ := H
                 replace H : (some t135) = some r := H
                 have A49 := Aside0.mk A490
                 clear A490
                 obtain rfl := Option.some.inj H
                 go_wp2_with (first | ((with_reducible refine gate_builtin (b := .append) (xs := #[.const (.slice none 0 0), .tmp 61]) rfl ?_); (try (refine gate_guard (by rfl) ?_; dsimp only)); at_builtin; refine Kd.R_append_rows k30 (w0 := w) w.heap.size rfl (.const (.slice none 0 0)) (.tmp 61) 27 30 (.agg #[(.string ⟨#[]⟩), (.string ⟨#[]⟩), (.string ⟨#[]⟩)]) 48 rfl Tryd.underlying27 info30 rfl (by decide) (by omega) (.slice none 0 0) ([] : List (S30)) l0 _ _ _ (fun k_ => some k_ ≠ (.slice Ao18 y120.length co18 : Value).ownBlock) (fun _ => False) rfl rfl ?aO ?aR (fun _ _ h => h) (fun _ h => h.elim) ?aF ?aB ?aS ?aL ?_; (case aR => repeat (first | exact (Kd.C_below HR0.out HB.out) | (with_reducible refine Kd.C_alloc ?_ _) | (with_reducible refine Kd.C_drewN ?_ _) | (with_reducible refine Kd.C_drew ?_))); (case aB => exact (by repeat (first | (with_reducible first | exact HB.out | apply below_alloc | apply pw_below_drewN | apply below_drew1) | exact HB.out))); (case aF => exact (fun k_ hk => Kd.fresh' (Kd.R_lt (by (with_reducible repeat (first | apply Kd.R_alloc | apply Kd.R_drewN | apply Kd.R_drew)); exact HO_33.out)) k_ hk)); (case aO => exact ((Kd.R_nil _ _ _ _ (fun k_ => some k_ ≠ (.slice Ao18 y120.length co18 : Value).ownBlock)))); (case aS => exact (below_size (by repeat (first | (with_reducible first | exact HB.out | apply below_alloc | apply pw_below_drewN | apply below_drew1) | exact HB.out)))); (case aL => have := LMc42.out; omega); intro v130 w50 ho hb hg hat; rw [← Ny129.out] at ho; have n0_ := Aside0.mk (Kd.R_after (Kd.R_apart_nil (by (with_reducible repeat (first | apply Kd.R_alloc | apply Kd.R_drewN | apply Kd.R_drew)); exact HO_33.out)) hg hat); have n1_ := Aside0.mk (hb); have n2_ := Aside0.mk (ho); clear HO_33; clear HB; have HO_33 := n0_; have HB := n1_; have HO131 := n2_; clear n0_ n1_ n2_; clear ho hb hg hat; obtain ⟨Ao51, co51, eo51⟩ := Kd.R_slice HO131.out; subst eo51) | ((with_reducible refine gate_callee (f := 18) rfl ?_); refine goesL_ (some 63) rfl rfl Tryd.func18 (by kernel_rfl) rfl #[.slice A0 l0.length c0, .slice Ao51 y129.length co51] rfl (by (try simp only [List.map_toArray, List.map_cons, List.map_nil]); first | done | rfl | (simp only [List.length_drop, List.length_take]; rfl)) ?_; (with_reducible refine (impl_UnitSame.calls _ _ l0 _ _ y129 true _ ?side1 ?side2 ?side3 ?side4 A43.out).mono ?_); (case side1 => repeat (first | exact (Kd.C_below HR0.out HB.out) | (with_reducible refine Kd.C_alloc ?_ _) | (with_reducible refine Kd.C_drewN ?_ _) | (with_reducible refine Kd.C_drew ?_))); (case side2 => exact HC0.out); (case side3 => repeat (first | exact (Kd.R_reads' HO131.out).2.2 | (with_reducible refine Kd.C_alloc ?_ _) | (with_reducible refine Kd.C_drewN ?_ _) | (with_reducible refine Kd.C_drew ?_))); (case side4 => exact (Kd.R_reads' HO131.out).2.1); rintro e w52 ⟨rfl, hb⟩; refine ⟨_, rfl, ?_⟩; have n0_ := Aside0.mk (Kd.R_below (by (with_reducible repeat (first | apply Kd.R_alloc | apply Kd.R_drewN | apply Kd.R_drew)); exact HO_33.out) hb); have n1_ := Aside0.mk (Kd.R_below (by (with_reducible repeat (first | apply Kd.R_alloc | apply Kd.R_drewN | apply Kd.R_drew)); exact HO131.out) hb); have n2_ := Aside0.mk (below_step (by repeat (first | (with_reducible first | exact HB.out | apply below_alloc | apply pw_below_drewN | apply below_drew1) | exact HB.out)) hb); clear HO_33; clear HO131; clear HB; have HO_33 := n0_; have HO131 := n1_; have HB := n2_; clear n0_ n1_ n2_; (try clear hb); (try clear hb2); (try clear hk); (try clear hi)) | (go_at_call 20; (with_reducible refine (laws_sameOptions.calls k3 _ _ l0 _ _ l1 true _ ?side1 ?side2 ?side3 ?side4 A45.out).mono ?_); (case side1 => repeat (first | exact (Kd.C_below HR0.out HB.out) | (with_reducible refine Kd.C_alloc ?_ _) | (with_reducible refine Kd.C_drewN ?_ _) | (with_reducible refine Kd.C_drew ?_))); (case side2 => exact HC0.out); (case side3 => repeat (first | exact (Kd.C_below HR1.out HB.out) | (with_reducible refine Kd.C_alloc ?_ _) | (with_reducible refine Kd.C_drewN ?_ _) | (with_reducible refine Kd.C_drew ?_))); (case side4 => exact HC1.out); rintro e w' ⟨rfl, ⟨nd, rfl⟩⟩) | (go_at_call 18; (with_reducible refine (impl_UnitSame.calls _ _ l0 _ _ l1 true _ ?side1 ?side2 ?side3 ?side4 A47.out).mono ?_); (case side1 => repeat (first | exact (Kd.C_below HR0.out (by repeat (first | (with_reducible first | exact HB.out | apply below_alloc | apply pw_below_drewN | apply below_drew1) | exact HB.out))) | (with_reducible refine Kd.C_alloc ?_ _) | (with_reducible refine Kd.C_drewN ?_ _) | (with_reducible refine Kd.C_drew ?_))); (case side2 => exact HC0.out); (case side3 => repeat (first | exact (Kd.C_below HR1.out (by repeat (first | (with_reducible first | exact HB.out | apply below_alloc | apply pw_below_drewN | apply below_drew1) | exact HB.out))) | (with_reducible refine Kd.C_alloc ?_ _) | (with_reducible refine Kd.C_drewN ?_ _) | (with_reducible refine Kd.C_drew ?_))); (case side4 => exact HC1.out); rintro e w53 ⟨rfl, hb⟩; have n0_ := Aside0.mk (Kd.R_below (by (with_reducible repeat (first | apply Kd.R_alloc | apply Kd.R_drewN | apply Kd.R_drew)); exact HO_33.out) hb); have n1_ := Aside0.mk (Kd.R_below (by (with_reducible repeat (first | apply Kd.R_alloc | apply Kd.R_drewN | apply Kd.R_drew)); exact HO131.out) hb); have n2_ := Aside0.mk (below_step (by repeat (first | (with_reducible first | exact HB.out | apply below_alloc | apply pw_below_drewN | apply below_drew1) | exact HB.out)) hb); clear HO_33; clear HO131; clear HB; have HO_33 := n0_; have HO131 := n1_; have HB := n2_; clear n0_ n1_ n2_; (try clear hb); (try clear hb2); (try clear hk); (try clear hi)) | (go_at_call 19; (with_reducible refine (laws_reads.calls  t135 _ ?side1 A49.out).mono ?_); (case side1 => exact tabW_below HTAB.out (by repeat (first | (with_reducible first | exact HB.out | apply below_alloc | apply pw_below_drewN | apply below_drew1) | exact HB.out))); rintro e w54 ⟨rfl, hb⟩; have n0_ := Aside0.mk (Kd.R_below (by (with_reducible repeat (first | apply Kd.R_alloc | apply Kd.R_drewN | apply Kd.R_drew)); exact HO_33.out) hb); have n1_ := Aside0.mk (Kd.R_below (by (with_reducible repeat (first | apply Kd.R_alloc | apply Kd.R_drewN | apply Kd.R_drew)); exact HO131.out) hb); have n2_ := Aside0.mk (below_step (by repeat (first | (with_reducible first | exact HB.out | apply below_alloc | apply pw_below_drewN | apply below_drew1) | exact HB.out)) hb); clear HO_33; clear HO131; clear HB; have HO_33 := n0_; have HO131 := n1_; have HB := n2_; clear n0_ n1_ n2_; (try clear hb); (try clear hb2); (try clear hk); (try clear hi)))
                 go_ret
                 exact ⟨by first | rfl | (simp [errW_none, errW_some] <;> rfl) | (simp [*, errW_none, errW_some] <;> rfl), by repeat (first | (with_reducible first | exact HB.out | apply below_alloc | apply pw_below_drewN | apply below_drew1) | exact HB.out)⟩
                ·replace c48 := Bool.eq_false_iff.mpr c48
                 subst c48
                 have H1 : (some false) = some r := by rw [if_neg (show ¬ (false = true) by decide)] at H; exact H
                 clear H
                 have H := H1
                 clear H1
                 obtain rfl := Option.some.inj H
                 go_wp2_with (first | ((with_reducible refine gate_builtin (b := .append) (xs := #[.const (.slice none 0 0), .tmp 61]) rfl ?_); (try (refine gate_guard (by rfl) ?_; dsimp only)); at_builtin; refine Kd.R_append_rows k30 (w0 := w) w.heap.size rfl (.const (.slice none 0 0)) (.tmp 61) 27 30 (.agg #[(.string ⟨#[]⟩), (.string ⟨#[]⟩), (.string ⟨#[]⟩)]) 48 rfl Tryd.underlying27 info30 rfl (by decide) (by omega) (.slice none 0 0) ([] : List (S30)) l0 _ _ _ (fun k_ => some k_ ≠ (.slice Ao18 y120.length co18 : Value).ownBlock) (fun _ => False) rfl rfl ?aO ?aR (fun _ _ h => h) (fun _ h => h.elim) ?aF ?aB ?aS ?aL ?_; (case aR => repeat (first | exact (Kd.C_below HR0.out HB.out) | (with_reducible refine Kd.C_alloc ?_ _) | (with_reducible refine Kd.C_drewN ?_ _) | (with_reducible refine Kd.C_drew ?_))); (case aB => exact (by repeat (first | (with_reducible first | exact HB.out | apply below_alloc | apply pw_below_drewN | apply below_drew1) | exact HB.out))); (case aF => exact (fun k_ hk => Kd.fresh' (Kd.R_lt (by (with_reducible repeat (first | apply Kd.R_alloc | apply Kd.R_drewN | apply Kd.R_drew)); exact HO_33.out)) k_ hk)); (case aO => exact ((Kd.R_nil _ _ _ _ (fun k_ => some k_ ≠ (.slice Ao18 y120.length co18 : Value).ownBlock)))); (case aS => exact (below_size (by repeat (first | (with_reducible first | exact HB.out | apply below_alloc | apply pw_below_drewN | apply below_drew1) | exact HB.out)))); (case aL => have := LMc42.out; omega); intro v130 w55 ho hb hg hat; rw [← Ny129.out] at ho; have n0_ := Aside0.mk (Kd.R_after (Kd.R_apart_nil (by (with_reducible repeat (first | apply Kd.R_alloc | apply Kd.R_drewN | apply Kd.R_drew)); exact HO_33.out)) hg hat); have n1_ := Aside0.mk (hb); have n2_ := Aside0.mk (ho); clear HO_33; clear HB; have HO_33 := n0_; have HB := n1_; have HO131 := n2_; clear n0_ n1_ n2_; clear ho hb hg hat; obtain ⟨Ao56, co56, eo56⟩ := Kd.R_slice HO131.out; subst eo56) | ((with_reducible refine gate_callee (f := 18) rfl ?_); refine goesL_ (some 63) rfl rfl Tryd.func18 (by kernel_rfl) rfl #[.slice A0 l0.length c0, .slice Ao56 y129.length co56] rfl (by (try simp only [List.map_toArray, List.map_cons, List.map_nil]); first | done | rfl | (simp only [List.length_drop, List.length_take]; rfl)) ?_; (with_reducible refine (impl_UnitSame.calls _ _ l0 _ _ y129 true _ ?side1 ?side2 ?side3 ?side4 A43.out).mono ?_); (case side1 => repeat (first | exact (Kd.C_below HR0.out HB.out) | (with_reducible refine Kd.C_alloc ?_ _) | (with_reducible refine Kd.C_drewN ?_ _) | (with_reducible refine Kd.C_drew ?_))); (case side2 => exact HC0.out); (case side3 => repeat (first | exact (Kd.R_reads' HO131.out).2.2 | (with_reducible refine Kd.C_alloc ?_ _) | (with_reducible refine Kd.C_drewN ?_ _) | (with_reducible refine Kd.C_drew ?_))); (case side4 => exact (Kd.R_reads' HO131.out).2.1); rintro e w57 ⟨rfl, hb⟩; refine ⟨_, rfl, ?_⟩; have n0_ := Aside0.mk (Kd.R_below (by (with_reducible repeat (first | apply Kd.R_alloc | apply Kd.R_drewN | apply Kd.R_drew)); exact HO_33.out) hb); have n1_ := Aside0.mk (Kd.R_below (by (with_reducible repeat (first | apply Kd.R_alloc | apply Kd.R_drewN | apply Kd.R_drew)); exact HO131.out) hb); have n2_ := Aside0.mk (below_step (by repeat (first | (with_reducible first | exact HB.out | apply below_alloc | apply pw_below_drewN | apply below_drew1) | exact HB.out)) hb); clear HO_33; clear HO131; clear HB; have HO_33 := n0_; have HO131 := n1_; have HB := n2_; clear n0_ n1_ n2_; (try clear hb); (try clear hb2); (try clear hk); (try clear hi)) | (go_at_call 20; (with_reducible refine (laws_sameOptions.calls k3 _ _ l0 _ _ l1 true _ ?side1 ?side2 ?side3 ?side4 A45.out).mono ?_); (case side1 => repeat (first | exact (Kd.C_below HR0.out HB.out) | (with_reducible refine Kd.C_alloc ?_ _) | (with_reducible refine Kd.C_drewN ?_ _) | (with_reducible refine Kd.C_drew ?_))); (case side2 => exact HC0.out); (case side3 => repeat (first | exact (Kd.C_below HR1.out HB.out) | (with_reducible refine Kd.C_alloc ?_ _) | (with_reducible refine Kd.C_drewN ?_ _) | (with_reducible refine Kd.C_drew ?_))); (case side4 => exact HC1.out); rintro e w' ⟨rfl, ⟨nd, rfl⟩⟩) | (go_at_call 18; (with_reducible refine (impl_UnitSame.calls _ _ l0 _ _ l1 false _ ?side1 ?side2 ?side3 ?side4 A47.out).mono ?_); (case side1 => repeat (first | exact (Kd.C_below HR0.out (by repeat (first | (with_reducible first | exact HB.out | apply below_alloc | apply pw_below_drewN | apply below_drew1) | exact HB.out))) | (with_reducible refine Kd.C_alloc ?_ _) | (with_reducible refine Kd.C_drewN ?_ _) | (with_reducible refine Kd.C_drew ?_))); (case side2 => exact HC0.out); (case side3 => repeat (first | exact (Kd.C_below HR1.out (by repeat (first | (with_reducible first | exact HB.out | apply below_alloc | apply pw_below_drewN | apply below_drew1) | exact HB.out))) | (with_reducible refine Kd.C_alloc ?_ _) | (with_reducible refine Kd.C_drewN ?_ _) | (with_reducible refine Kd.C_drew ?_))); (case side4 => exact HC1.out); rintro e w58 ⟨rfl, hb⟩; have n0_ := Aside0.mk (Kd.R_below (by (with_reducible repeat (first | apply Kd.R_alloc | apply Kd.R_drewN | apply Kd.R_drew)); exact HO_33.out) hb); have n1_ := Aside0.mk (Kd.R_below (by (with_reducible repeat (first | apply Kd.R_alloc | apply Kd.R_drewN | apply Kd.R_drew)); exact HO131.out) hb); have n2_ := Aside0.mk (below_step (by repeat (first | (with_reducible first | exact HB.out | apply below_alloc | apply pw_below_drewN | apply below_drew1) | exact HB.out)) hb); clear HO_33; clear HO131; clear HB; have HO_33 := n0_; have HO131 := n1_; have HB := n2_; clear n0_ n1_ n2_; (try clear hb); (try clear hb2); (try clear hk); (try clear hi)))
                 go_ret
                 exact ⟨by first | rfl | (simp [errW_none, errW_some] <;> rfl) | (simp [*, errW_none, errW_some] <;> rfl), by repeat (first | (with_reducible first | exact HB.out | apply below_alloc | apply pw_below_drewN | apply below_drew1) | exact HB.out)⟩
               ·replace c46 := Bool.eq_false_iff.mpr c46
                subst c46
                have H1 : ((laws_reads.f).bind fun t136 => (some t136)) = some r := by rw [if_neg (show ¬ (false = true) by decide)] at H; exact H
                clear H
                have H := H1
                clear H1
                replace H := Option.bind_eq_some_iff.mp H
                obtain ⟨t136, A590, H⟩ := H
                replace H : (some t136) = some r := H
                have A59 := Aside0.mk A590
                clear A590
                obtain rfl := Option.some.inj H
                go_wp2_with (first | ((with_reducible refine gate_builtin (b := .append) (xs := #[.const (.slice none 0 0), .tmp 61]) rfl ?_); (try (refine gate_guard (by rfl) ?_; dsimp only)); at_builtin; refine Kd.R_append_rows k30 (w0 := w) w.heap.size rfl (.const (.slice none 0 0)) (.tmp 61) 27 30 (.agg #[(.string ⟨#[]⟩), (.string ⟨#[]⟩), (.string ⟨#[]⟩)]) 48 rfl Tryd.underlying27 info30 rfl (by decide) (by omega) (.slice none 0 0) ([] : List (S30)) l0 _ _ _ (fun k_ => some k_ ≠ (.slice Ao18 y120.length co18 : Value).ownBlock) (fun _ => False) rfl rfl ?aO ?aR (fun _ _ h => h) (fun _ h => h.elim) ?aF ?aB ?aS ?aL ?_; (case aR => repeat (first | exact (Kd.C_below HR0.out HB.out) | (with_reducible refine Kd.C_alloc ?_ _) | (with_reducible refine Kd.C_drewN ?_ _) | (with_reducible refine Kd.C_drew ?_))); (case aB => exact (by repeat (first | (with_reducible first | exact HB.out | apply below_alloc | apply pw_below_drewN | apply below_drew1) | exact HB.out))); (case aF => exact (fun k_ hk => Kd.fresh' (Kd.R_lt (by (with_reducible repeat (first | apply Kd.R_alloc | apply Kd.R_drewN | apply Kd.R_drew)); exact HO_33.out)) k_ hk)); (case aO => exact ((Kd.R_nil _ _ _ _ (fun k_ => some k_ ≠ (.slice Ao18 y120.length co18 : Value).ownBlock)))); (case aS => exact (below_size (by repeat (first | (with_reducible first | exact HB.out | apply below_alloc | apply pw_below_drewN | apply below_drew1) | exact HB.out)))); (case aL => have := LMc42.out; omega); intro v130 w60 ho hb hg hat; rw [← Ny129.out] at ho; have n0_ := Aside0.mk (Kd.R_after (Kd.R_apart_nil (by (with_reducible repeat (first | apply Kd.R_alloc | apply Kd.R_drewN | apply Kd.R_drew)); exact HO_33.out)) hg hat); have n1_ := Aside0.mk (hb); have n2_ := Aside0.mk (ho); clear HO_33; clear HB; have HO_33 := n0_; have HB := n1_; have HO131 := n2_; clear n0_ n1_ n2_; clear ho hb hg hat; obtain ⟨Ao61, co61, eo61⟩ := Kd.R_slice HO131.out; subst eo61) | ((with_reducible refine gate_callee (f := 18) rfl ?_); refine goesL_ (some 63) rfl rfl Tryd.func18 (by kernel_rfl) rfl #[.slice A0 l0.length c0, .slice Ao61 y129.length co61] rfl (by (try simp only [List.map_toArray, List.map_cons, List.map_nil]); first | done | rfl | (simp only [List.length_drop, List.length_take]; rfl)) ?_; (with_reducible refine (impl_UnitSame.calls _ _ l0 _ _ y129 true _ ?side1 ?side2 ?side3 ?side4 A43.out).mono ?_); (case side1 => repeat (first | exact (Kd.C_below HR0.out HB.out) | (with_reducible refine Kd.C_alloc ?_ _) | (with_reducible refine Kd.C_drewN ?_ _) | (with_reducible refine Kd.C_drew ?_))); (case side2 => exact HC0.out); (case side3 => repeat (first | exact (Kd.R_reads' HO131.out).2.2 | (with_reducible refine Kd.C_alloc ?_ _) | (with_reducible refine Kd.C_drewN ?_ _) | (with_reducible refine Kd.C_drew ?_))); (case side4 => exact (Kd.R_reads' HO131.out).2.1); rintro e w62 ⟨rfl, hb⟩; refine ⟨_, rfl, ?_⟩; have n0_ := Aside0.mk (Kd.R_below (by (with_reducible repeat (first | apply Kd.R_alloc | apply Kd.R_drewN | apply Kd.R_drew)); exact HO_33.out) hb); have n1_ := Aside0.mk (Kd.R_below (by (with_reducible repeat (first | apply Kd.R_alloc | apply Kd.R_drewN | apply Kd.R_drew)); exact HO131.out) hb); have n2_ := Aside0.mk (below_step (by repeat (first | (with_reducible first | exact HB.out | apply below_alloc | apply pw_below_drewN | apply below_drew1) | exact HB.out)) hb); clear HO_33; clear HO131; clear HB; have HO_33 := n0_; have HO131 := n1_; have HB := n2_; clear n0_ n1_ n2_; (try clear hb); (try clear hb2); (try clear hk); (try clear hi)) | (go_at_call 20; (with_reducible refine (laws_sameOptions.calls k3 _ _ l0 _ _ l1 false _ ?side1 ?side2 ?side3 ?side4 A45.out).mono ?_); (case side1 => repeat (first | exact (Kd.C_below HR0.out HB.out) | (with_reducible refine Kd.C_alloc ?_ _) | (with_reducible refine Kd.C_drewN ?_ _) | (with_reducible refine Kd.C_drew ?_))); (case side2 => exact HC0.out); (case side3 => repeat (first | exact (Kd.C_below HR1.out HB.out) | (with_reducible refine Kd.C_alloc ?_ _) | (with_reducible refine Kd.C_drewN ?_ _) | (with_reducible refine Kd.C_drew ?_))); (case side4 => exact HC1.out); rintro e w' ⟨rfl, ⟨nd, rfl⟩⟩) | (go_at_call 19; (with_reducible refine (laws_reads.calls  t136 _ ?side1 A59.out).mono ?_); (case side1 => exact tabW_below HTAB.out (by repeat (first | (with_reducible first | exact HB.out | apply below_alloc | apply pw_below_drewN | apply below_drew1) | exact HB.out))); rintro e w63 ⟨rfl, hb⟩; have n0_ := Aside0.mk (Kd.R_below (by (with_reducible repeat (first | apply Kd.R_alloc | apply Kd.R_drewN | apply Kd.R_drew)); exact HO_33.out) hb); have n1_ := Aside0.mk (Kd.R_below (by (with_reducible repeat (first | apply Kd.R_alloc | apply Kd.R_drewN | apply Kd.R_drew)); exact HO131.out) hb); have n2_ := Aside0.mk (below_step (by repeat (first | (with_reducible first | exact HB.out | apply below_alloc | apply pw_below_drewN | apply below_drew1) | exact HB.out)) hb); clear HO_33; clear HO131; clear HB; have HO_33 := n0_; have HO131 := n1_; have HB := n2_; clear n0_ n1_ n2_; (try clear hb); (try clear hb2); (try clear hk); (try clear hi)))
                go_ret
                exact ⟨by first | rfl | (simp [errW_none, errW_some] <;> rfl) | (simp [*, errW_none, errW_some] <;> rfl), by repeat (first | (with_reducible first | exact HB.out | apply below_alloc | apply pw_below_drewN | apply below_drew1) | exact HB.out)⟩
              ·replace c44 := Bool.eq_false_iff.mpr c44
               subst c44
               have H1 : (some false) = some r := by rw [if_neg (show ¬ (false = true) by decide)] at H; exact H
               clear H
               have H := H1
               clear H1
               obtain rfl := Option.some.inj H
               go_wp2_with (first | ((with_reducible refine gate_builtin (b := .append) (xs := #[.const (.slice none 0 0), .tmp 61]) rfl ?_); (try (refine gate_guard (by rfl) ?_; dsimp only)); at_builtin; refine Kd.R_append_rows k30 (w0 := w) w.heap.size rfl (.const (.slice none 0 0)) (.tmp 61) 27 30 (.agg #[(.string ⟨#[]⟩), (.string ⟨#[]⟩), (.string ⟨#[]⟩)]) 48 rfl Tryd.underlying27 info30 rfl (by decide) (by omega) (.slice none 0 0) ([] : List (S30)) l0 _ _ _ (fun k_ => some k_ ≠ (.slice Ao18 y120.length co18 : Value).ownBlock) (fun _ => False) rfl rfl ?aO ?aR (fun _ _ h => h) (fun _ h => h.elim) ?aF ?aB ?aS ?aL ?_; (case aR => repeat (first | exact (Kd.C_below HR0.out HB.out) | (with_reducible refine Kd.C_alloc ?_ _) | (with_reducible refine Kd.C_drewN ?_ _) | (with_reducible refine Kd.C_drew ?_))); (case aB => exact (by repeat (first | (with_reducible first | exact HB.out | apply below_alloc | apply pw_below_drewN | apply below_drew1) | exact HB.out))); (case aF => exact (fun k_ hk => Kd.fresh' (Kd.R_lt (by (with_reducible repeat (first | apply Kd.R_alloc | apply Kd.R_drewN | apply Kd.R_drew)); exact HO_33.out)) k_ hk)); (case aO => exact ((Kd.R_nil _ _ _ _ (fun k_ => some k_ ≠ (.slice Ao18 y120.length co18 : Value).ownBlock)))); (case aS => exact (below_size (by repeat (first | (with_reducible first | exact HB.out | apply below_alloc | apply pw_below_drewN | apply below_drew1) | exact HB.out)))); (case aL => have := LMc42.out; omega); intro v130 w64 ho hb hg hat; rw [← Ny129.out] at ho; have n0_ := Aside0.mk (Kd.R_after (Kd.R_apart_nil (by (with_reducible repeat (first | apply Kd.R_alloc | apply Kd.R_drewN | apply Kd.R_drew)); exact HO_33.out)) hg hat); have n1_ := Aside0.mk (hb); have n2_ := Aside0.mk (ho); clear HO_33; clear HB; have HO_33 := n0_; have HB := n1_; have HO131 := n2_; clear n0_ n1_ n2_; clear ho hb hg hat; obtain ⟨Ao65, co65, eo65⟩ := Kd.R_slice HO131.out; subst eo65) | ((with_reducible refine gate_callee (f := 18) rfl ?_); refine goesL_ (some 63) rfl rfl Tryd.func18 (by kernel_rfl) rfl #[.slice A0 l0.length c0, .slice Ao65 y129.length co65] rfl (by (try simp only [List.map_toArray, List.map_cons, List.map_nil]); first | done | rfl | (simp only [List.length_drop, List.length_take]; rfl)) ?_; (with_reducible refine (impl_UnitSame.calls _ _ l0 _ _ y129 false _ ?side1 ?side2 ?side3 ?side4 A43.out).mono ?_); (case side1 => repeat (first | exact (Kd.C_below HR0.out HB.out) | (with_reducible refine Kd.C_alloc ?_ _) | (with_reducible refine Kd.C_drewN ?_ _) | (with_reducible refine Kd.C_drew ?_))); (case side2 => exact HC0.out); (case side3 => repeat (first | exact (Kd.R_reads' HO131.out).2.2 | (with_reducible refine Kd.C_alloc ?_ _) | (with_reducible refine Kd.C_drewN ?_ _) | (with_reducible refine Kd.C_drew ?_))); (case side4 => exact (Kd.R_reads' HO131.out).2.1); rintro e w66 ⟨rfl, hb⟩; refine ⟨_, rfl, ?_⟩; have n0_ := Aside0.mk (Kd.R_below (by (with_reducible repeat (first | apply Kd.R_alloc | apply Kd.R_drewN | apply Kd.R_drew)); exact HO_33.out) hb); have n1_ := Aside0.mk (Kd.R_below (by (with_reducible repeat (first | apply Kd.R_alloc | apply Kd.R_drewN | apply Kd.R_drew)); exact HO131.out) hb); have n2_ := Aside0.mk (below_step (by repeat (first | (with_reducible first | exact HB.out | apply below_alloc | apply pw_below_drewN | apply below_drew1) | exact HB.out)) hb); clear HO_33; clear HO131; clear HB; have HO_33 := n0_; have HO131 := n1_; have HB := n2_; clear n0_ n1_ n2_; (try clear hb); (try clear hb2); (try clear hk); (try clear hi)))
               go_ret
               exact ⟨by first | rfl | (simp [errW_none, errW_some] <;> rfl) | (simp [*, errW_none, errW_some] <;> rfl), by repeat (first | (with_reducible first | exact HB.out | apply below_alloc | apply pw_below_drewN | apply below_drew1) | exact HB.out)⟩
             ·rw [if_neg c42] at H
              exact absurd H (by simp)
        ·rw [if_neg c15] at H
         exact absurd H (by simp)
       ·rw [if_neg c14] at H
        exact absurd H (by simp)
end Go.Proofs.YtgnfapnnbcafbaaDoor.GUL
end
section
/- Plain facts: FnUnitSame says yes, always. No condition. -/
namespace Go.Proofs.YtgnfapnnbcafbaaDoor.GUL
open Go Go.RowKit Go.Proofs.YtgnfapnnbcafbaaDoorW.PrintWords Go.Proofs.YtgnfapnnbcafbaaDoorW Go.Proofs.YtgnfapnnbcafbaaDoorW.PrintLast Go.Proofs.YtgnfapnnbcafbaaDoor.UN
set_option linter.unusedVariables false
set_option linter.unusedSimpArgs false
def cntL (x y z : ByteArray) : List S30 → Int → Int
 | [], n => n
 | h :: t, n => cntL x y z t (if (h.f0.toList == x.toList && (h.f1.toList == y.toList && h.f2.toList == z.toList)) = true then wrap64 (n + 1) else n)
theorem cnt_ev (l : List S30) (hl : l.length ≤ 2147483647) (x y z : ByteArray) : Ev (fun k => laws_FnUnitSame_1.f k l x y z) (cntL x y z l 0) := by
 have go : ∀ (d i : Nat) (n : Int), i + d = l.length → Ev (fun k => laws_FnUnitSame_1.l0 k n l (l.length : Int) (i : Int) x y z) (cntL x y z (l.drop i) n) := by
  intro d
  induction d with
  | zero =>
   intro i n hi
   refine Ev.step (f := fun _ => some n) (fun k => ?_) ?_
   ·simp only [laws_FnUnitSame_1.l0]
    rw [if_neg (by omega)]
   ·rw [List.drop_eq_nil_of_le (by omega)]
    exact Ev.now _
  | succ d ih =>
   intro i n hi
   have hil : i < l.length := by omega
   refine Ev.step (f := fun k => laws_FnUnitSame_1.l0 k (if (l[i].f0.toList == x.toList && (l[i].f1.toList == y.toList && l[i].f2.toList == z.toList)) = true then wrap64 (n + 1) else n) l (l.length : Int) ((i + 1 : Nat) : Int) x y z) (fun k => ?_) ?_
   ·simp only [laws_FnUnitSame_1.l0]
    rw [if_pos (by omega), if_pos (by omega), if_pos (by omega), rd30_at l i hil, wr1 i (by omega)]
    split <;> rfl
   ·have := ih (i + 1) (if (l[i].f0.toList == x.toList && (l[i].f1.toList == y.toList && l[i].f2.toList == z.toList)) = true then wrap64 (n + 1) else n) (by omega)
    rw [List.drop_eq_getElem_cons hil]
    exact this
 have := go l.length 0 0 (by omega)
 rw [List.drop_zero] at this
 exact this
theorem s30_ext {a b : S30} (h0 : a.f0.toList = b.f0.toList) (h1 : a.f1.toList = b.f1.toList) (h2 : a.f2.toList = b.f2.toList) : a = b := by
 have e : toO a = toO b := by
  unfold toO
  rw [← toList_dl, ← toList_dl, ← toList_dl, ← toList_dl, ← toList_dl, ← toList_dl, h0, h1, h2]
 rw [← toS_toO a, e, toS_toO]
theorem same_tells (a b : List S30) (ha : a.length ≤ 2147483647) : Tells (fun k => laws_sameOptions.f k a b) (a = b) := by
 by_cases hl : (a.length : Int) = (b.length : Int)
 ·refine Tells.congr (f := fun k => laws_sameOptions.l0 k a b (a.length : Int) ((0 : Nat) : Int)) (fun k => by simp only [laws_sameOptions.f]; rw [if_pos hl]; rfl) ?_
  have go : ∀ (d i : Nat), i + d = a.length → Tells (fun k => laws_sameOptions.l0 k a b (a.length : Int) (i : Int)) (a.drop i = b.drop i) := by
   intro d
   induction d with
   | zero =>
    intro i hi
    refine Tells.step (f := fun _ => some true) (fun k => ?_) (Tells.yes ?_)
    ·simp only [laws_sameOptions.l0]
     rw [if_neg (by omega)]
    ·rw [List.drop_eq_nil_of_le (by omega), List.drop_eq_nil_of_le (by omega)]
   | succ d ih =>
    intro i hi
    have hia : i < a.length := by omega
    have hib : i < b.length := by omega
    by_cases hq : (!((a[i].f0.toList) == (b[i].f0.toList)) || (!((a[i].f1.toList) == (b[i].f1.toList)) || (!((a[i].f2.toList) == (b[i].f2.toList))))) = true
    ·refine Tells.step (f := fun _ => some false) (fun k => ?_) Tells.no
     simp only [laws_sameOptions.l0]
     rw [if_pos (by omega), if_pos (by omega), if_pos (by omega), if_pos (by omega), rd30_at a i hia, rd30_at b i hib, if_pos hq]
    ·refine Tells.step (f := fun k => laws_sameOptions.l0 k a b (a.length : Int) ((i + 1 : Nat) : Int)) (fun k => ?_) (Tells.mono (ih (i + 1) (by omega)) fun h => ?_)
     ·simp only [laws_sameOptions.l0]
      rw [if_pos (by omega), if_pos (by omega), if_pos (by omega), if_pos (by omega), rd30_at a i hia, rd30_at b i hib, if_neg hq, wr1 i (by omega)]
     ·rw [List.drop_eq_getElem_cons hia, List.drop_eq_getElem_cons hib, h]
      simp only [Bool.or_eq_true, Bool.not_eq_true', beq_eq_false_iff_ne, not_or, Decidable.not_not, ne_eq] at hq
      rw [s30_ext hq.1 hq.2.1 hq.2.2]
  exact Tells.mono (go a.length 0 (by omega)) fun h => by rwa [List.drop_zero, List.drop_zero] at h
 ·exact Tells.congr (f := fun _ => some false) (fun k => by simp only [laws_sameOptions.f]; rw [if_neg hl]) Tells.no
theorem toO_inj {a b : List S30} : a.map toO = b.map toO ↔ a = b := by
 constructor
 ·intro h
  have e3 : (toS ∘ toO) = id := funext fun x => toS_toO x
  have := congrArg (List.map toS) h
  rwa [List.map_map, List.map_map, e3, List.map_id, List.map_id] at this
 ·rintro rfl; rfl
theorem usame_is (a b : List S30) (ha : a.length ≤ 1000000) (hb : b.length ≤ 1000000) : impl_UnitSame.f a b = some (decide (a.map toO = b.map toO)) := by
 unfold impl_UnitSame.f
 rw [if_pos ⟨ha, hb⟩]
theorem same_end (a b : List S30) (ha : a.length ≤ 40) (hb : b.length ≤ 40) (y : List S30) (x6 : Bool) (h6 : x6 = true → a ≠ b) (n i : Int) (hi : ¬ i < n) : Ev (fun k => laws_FnUnitSame.l0 k a b x6 y n i) true := by
 have us := usame_is a b (by omega) (by omega)
 cases x6 with
 | true =>
  refine Ev.step (f := fun _ => some true) (fun k => ?_) (Ev.now _)
  simp only [laws_FnUnitSame.l0]
  rw [if_neg hi, if_pos trivial, us, Option.bind_some, if_neg (by simpa [toO_inj] using h6 rfl), reads_yes]
  rfl
 | false =>
  obtain ⟨c, hc, hq⟩ := same_tells a b (by omega)
  refine Ev.step (f := fun k => (laws_sameOptions.f k a b).bind fun t133 => (if t133 = true then ((impl_UnitSame.f a b).bind fun t134 => (if t134 = true then ((laws_reads.f).bind fun t135 => (some t135)) else (some false))) else ((laws_reads.f).bind fun t136 => (some t136)))) (fun k => ?_) ?_
  ·simp only [laws_FnUnitSame.l0]
   rw [if_neg hi, if_neg (by simp), if_pos (by rw [List.length_nil]; omega), List.nil_append, usame_is a a (by omega) (by omega), Option.bind_some, if_pos (by simp)]
  ·refine Ev.bind (a := c) (f := fun k t133 => (if t133 = true then ((impl_UnitSame.f a b).bind fun t134 => (if t134 = true then ((laws_reads.f).bind fun t135 => (some t135)) else (some false))) else ((laws_reads.f).bind fun t136 => (some t136)))) hc ?_
   cases c with
   | true =>
    refine Ev.congr (f := fun _ => some true) (fun k => ?_) (Ev.now _)
    rw [if_pos rfl, us, Option.bind_some, if_pos (by simpa [toO_inj] using hq rfl), reads_yes]
    rfl
   | false =>
    refine Ev.congr (f := fun _ => some true) (fun k => ?_) (Ev.now _)
    rw [if_neg (by simp), reads_yes]
    rfl
theorem same_loop (a b : List S30) (ha : a.length ≤ 40) (hb : b.length ≤ 40) (y : List S30) (hy : y.length ≤ 80) : ∀ (d i : Nat) (x6 : Bool), i + d = y.length → (x6 = true → a ≠ b) → Ev (fun k => laws_FnUnitSame.l0 k a b x6 y (y.length : Int) (i : Int)) true := by
 intro d
 induction d with
 | zero =>
  intro i x6 hi h6
  exact same_end a b ha hb y x6 h6 _ _ (by omega)
 | succ d ih =>
  intro i x6 hi h6
  have hil : i < y.length := by omega
  cases x6 with
  | true =>
   refine Ev.step (f := fun k => laws_FnUnitSame.l0 k a b true y (y.length : Int) ((i + 1 : Nat) : Int)) (fun k => ?_) (ih (i + 1) true (by omega) h6)
   simp only [laws_FnUnitSame.l0]
   rw [if_pos (by omega), if_pos (by omega), if_pos (by omega), if_pos trivial, wr1 i (by omega)]
  | false =>
   refine Ev.step (f := fun k => (laws_FnUnitSame_1.f k a y[i].f0 y[i].f1 y[i].f2).bind fun t125 => ((laws_FnUnitSame_1.f k b y[i].f0 y[i].f1 y[i].f2).bind fun t126 => (laws_FnUnitSame.l0 k a b (t125 != t126) y (y.length : Int) ((i + 1 : Nat) : Int)))) (fun k => ?_) ?_
   ·simp only [laws_FnUnitSame.l0]
    rw [if_pos (by omega), if_pos (by omega), if_pos (by omega), if_neg (by simp), wr1 i (by omega), rd30_at y i hil]
   ·refine Ev.bind (f := fun k t125 => ((laws_FnUnitSame_1.f k b y[i].f0 y[i].f1 y[i].f2).bind fun t126 => (laws_FnUnitSame.l0 k a b (t125 != t126) y (y.length : Int) ((i + 1 : Nat) : Int)))) (cnt_ev a (by omega) _ _ _) ?_
    refine Ev.bind (f := fun k t126 => (laws_FnUnitSame.l0 k a b (cntL y[i].f0 y[i].f1 y[i].f2 a 0 != t126) y (y.length : Int) ((i + 1 : Nat) : Int))) (cnt_ev b (by omega) _ _ _) ?_
    refine ih (i + 1) _ (by omega) fun h => ?_
    rintro rfl
    simp at h
theorem same_j1t (a b : List S30) : Ev (fun k => laws_FnUnitSame.j1 k a b true) true :=
 Ev.step (f := fun _ => some true) (fun k => by simp only [laws_FnUnitSame.j1]; rw [if_pos trivial]) (Ev.now _)
theorem same_j0t (a b : List S30) : Ev (fun k => laws_FnUnitSame.j0 k a b true) true :=
 Ev.step (f := fun _ => some true) (fun k => by simp only [laws_FnUnitSame.j0]; rw [if_pos trivial]) (Ev.now _)
theorem same_j1f (a b : List S30) (ha : a.length ≤ 40) (hb : b.length ≤ 40) : Ev (fun k => laws_FnUnitSame.j1 k a b false) true := by
 refine Ev.step (f := fun k => laws_FnUnitSame.l0 k a b ((a.length : Int) != (b.length : Int)) (a ++ b) ((a ++ b).length : Int) ((0 : Nat) : Int)) (fun k => ?_) ?_
 ·simp only [laws_FnUnitSame.j1]
  rw [if_neg (by simp), if_pos (by rw [List.length_nil]; omega), List.nil_append, Option.bind_some, if_pos (by omega), Option.bind_some]
  rfl
 ·refine same_loop a b ha hb (a ++ b) (by rw [List.length_append]; omega) (a ++ b).length 0 _ (by omega) fun h => ?_
  rintro rfl
  simp at h
theorem same_j0f (a b : List S30) : Ev (fun k => laws_FnUnitSame.j0 k a b false) true := by
 by_cases ha : (a.length : Int) > 40
 ·refine Ev.step (f := fun k => laws_FnUnitSame.j1 k a b true) (fun k => ?_) (same_j1t a b)
  simp only [laws_FnUnitSame.j0]
  rw [if_neg (by simp), if_pos ha]
 ·by_cases hb : (b.length : Int) > 40
  ·refine Ev.step (f := fun k => laws_FnUnitSame.j1 k a b true) (fun k => ?_) (same_j1t a b)
   simp only [laws_FnUnitSame.j0]
   rw [if_neg (by simp), if_neg ha, decide_eq_true hb]
  ·refine Ev.step (f := fun k => laws_FnUnitSame.j1 k a b false) (fun k => ?_) (same_j1f a b (by omega) (by omega))
   simp only [laws_FnUnitSame.j0]
   rw [if_neg (by simp), if_neg ha, decide_eq_false hb]
theorem same_pure (a b : List S30) : Ev (fun k => laws_FnUnitSame.f k a b) true := by
 obtain ⟨c, hc, hp⟩ := zz7 a
 obtain ⟨d, hd, hq⟩ := zz7 b
 unfold laws_FnUnitSame.f
 refine Ev.bind (a := c) (f := fun k t115 => (if t115 = true then ((laws_zzFits7.f k b).bind fun t116 => (laws_FnUnitSame.j0 k a b (!t116))) else (laws_FnUnitSame.j0 k a b true))) hc ?_
 cases c with
 | false => exact same_j0t a b
 | true =>
  simp only [if_true]
  refine Ev.bind (a := d) (f := fun k t116 => (laws_FnUnitSame.j0 k a b (!t116))) hd ?_
  cases d with
  | false => exact same_j0t a b
  | true => exact same_j0f a b
end Go.Proofs.YtgnfapnnbcafbaaDoor.GUL
end
