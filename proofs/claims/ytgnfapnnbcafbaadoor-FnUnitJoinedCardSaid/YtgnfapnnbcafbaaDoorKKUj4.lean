/- Texts of this claim, put together: GULx4, UPl3, UPl4, GULx5, UPl6. Conditions: as each one says. -/
import Derived.Test.YtgnfapnnbcafbaaDoorKKUj0
import Derived.Test.YtgnfapnnbcafbaaDoorKKUj1
import Derived.Test.YtgnfapnnbcafbaaDoorKKUj3
section
namespace Go.Proofs.YtgnfapnnbcafbaaDoor.GUL
open Go.RowKit Go.Proofs.YtgnfapnnbcafbaaDoorW.PrintWords Go.Proofs.YtgnfapnnbcafbaaDoorW.PrintLast Go.Proofs.YtgnfapnnbcafbaaDoorW.PrintMore
attribute [local go_sem] max2_int min2_int max_two min_two max_three min_three max_four min_four   -- for this text's walks alone
set_option linter.unusedVariables false
set_option linter.unusedSimpArgs false
/-! ### laws_grouped: function 24 -/
mutual
def laws_grouped.l0 : Nat → List (S30) → List (S30) → List (S30) → Int → Int → Option ((List (S30)))
 | 0, _, _, _, _, _ => none
 | k + 1, x0, x3, x11, x12, x13 => if x13 < x12 then (if 0 ≤ x13 then (if x13 < (x11.length : Int) then (if x13 ≤ (x0.length : Int) then ((some (x0.take (x13 : Int).toNat : List (S30))).bind fun y126 => (laws_grouped.l1 k x0 x3 x13 true x11 x12 x13 y126 (y126.length : Int) 0 ((rd_T30 x11 x13).f0) ((rd_T30 x11 x13).f1) ((rd_T30 x11 x13).f2))) else (none)) else (none)) else (none)) else (some x3)
def laws_grouped.l1 : Nat → List (S30) → List (S30) → Int → Bool → List (S30) → Int → Int → List (S30) → Int → Int → ByteArray → ByteArray → ByteArray → Option ((List (S30)))
 | 0, _, _, _, _, _, _, _, _, _, _, _, _, _ => none
 | k + 1, x0, x3, x4, x6, x11, x12, x13, x20, x21, x22, x126000, x126001, x126002 => if x22 < x21 then (if 0 ≤ x22 then (if x22 < (x20.length : Int) then (if x6 = true then (laws_grouped.l1 k x0 x3 x4 (((rd_T30 x20 x22).f0).toList != x126000.toList) x11 x12 x13 x20 x21 (wrap64 (x22 + 1)) x126000 x126001 x126002) else (laws_grouped.l1 k x0 x3 x4 false x11 x12 x13 x20 x21 (wrap64 (x22 + 1)) x126000 x126001 x126002)) else (none)) else (none)) else (if 0 ≤ x4 then (if x4 ≤ (x0.length : Int) then ((some (x0.drop (x4 : Int).toNat : List (S30))).bind fun y132 => (laws_grouped.l2 k x0 x3 x6 x11 x12 x13 y132 (y132.length : Int) 0 x126000 x126001 x126002)) else (none)) else (none))
def laws_grouped.l2 : Nat → List (S30) → List (S30) → Bool → List (S30) → Int → Int → List (S30) → Int → Int → ByteArray → ByteArray → ByteArray → Option ((List (S30)))
 | 0, _, _, _, _, _, _, _, _, _, _, _, _ => none
 | k + 1, x0, x3, x6, x11, x12, x13, x37, x38, x39, x126000, x126001, x126002 => if x39 < x38 then (if 0 ≤ x39 then (if x39 < (x37.length : Int) then (if x6 = true then (if ((rd_T30 x37 x39).f0).toList = x126000.toList then (if x3.length < 2932031007402 then (laws_grouped.l2 k x0 (x3 ++ [(⟨(rd_T30 x37 x39).f0, (rd_T30 x37 x39).f1, (rd_T30 x37 x39).f2⟩ : S30)]) x6 x11 x12 x13 x37 x38 (wrap64 (x39 + 1)) x126000 x126001 x126002) else (none)) else (laws_grouped.l2 k x0 x3 x6 x11 x12 x13 x37 x38 (wrap64 (x39 + 1)) x126000 x126001 x126002)) else (laws_grouped.l2 k x0 x3 x6 x11 x12 x13 x37 x38 (wrap64 (x39 + 1)) x126000 x126001 x126002)) else (none)) else (none)) else (laws_grouped.l0 k x0 x3 x11 x12 (wrap64 (x13 + 1)))
end
def laws_grouped.f (k : Nat) (l0 : List (S30)) : Option ((List (S30))) := laws_grouped.l0 k l0 ([] : List (S30)) l0 (l0.length : Int) 0
theorem laws_grouped.mono_l : ∀ k, (∀ y0 y1 y2 y3 y4, LeO (laws_grouped.l0 k y0 y1 y2 y3 y4) (laws_grouped.l0 (k + 1) y0 y1 y2 y3 y4)) ∧ (∀ y0 y1 y2 y3 y4 y5 y6 y7 y8 y9 y10 y11 y12, LeO (laws_grouped.l1 k y0 y1 y2 y3 y4 y5 y6 y7 y8 y9 y10 y11 y12) (laws_grouped.l1 (k + 1) y0 y1 y2 y3 y4 y5 y6 y7 y8 y9 y10 y11 y12)) ∧ (∀ y0 y1 y2 y3 y4 y5 y6 y7 y8 y9 y10 y11, LeO (laws_grouped.l2 k y0 y1 y2 y3 y4 y5 y6 y7 y8 y9 y10 y11) (laws_grouped.l2 (k + 1) y0 y1 y2 y3 y4 y5 y6 y7 y8 y9 y10 y11))
 | 0 => ⟨fun _ _ _ _ _ r h => by simp [laws_grouped.l0] at h, fun _ _ _ _ _ _ _ _ _ _ _ _ _ r h => by simp [laws_grouped.l1] at h, fun _ _ _ _ _ _ _ _ _ _ _ _ r h => by simp [laws_grouped.l2] at h⟩
 | k + 1 => by
  obtain ⟨ih0, ih1, ih2⟩ := laws_grouped.mono_l k
  refine ⟨?_, ?_, ?_⟩
  ·intro y0 y1 y2 y3 y4
   unfold laws_grouped.l0
   repeat' first
   | (with_reducible exact ih0 _ _ _ _ _)
   | (with_reducible exact ih1 _ _ _ _ _ _ _ _ _ _ _ _ _)
   | (with_reducible exact ih2 _ _ _ _ _ _ _ _ _ _ _ _)
   | (with_reducible exact LeO.refl _)
   | (with_reducible exact LeO.none _)
   | (with_reducible refine LeO.ite ?_ ?_)
   | (with_reducible refine LeO.bind ?_ (fun _ => ?_))
   | exact ih0 _ _ _ _ _
   | exact ih1 _ _ _ _ _ _ _ _ _ _ _ _ _
   | exact ih2 _ _ _ _ _ _ _ _ _ _ _ _
   | exact LeO.none _
   | refine LeO.ite ?_ ?_
   | refine LeO.bind ?_ (fun _ => ?_)
  ·intro y0 y1 y2 y3 y4 y5 y6 y7 y8 y9 y10 y11 y12
   unfold laws_grouped.l1
   repeat' first
   | (with_reducible exact ih0 _ _ _ _ _)
   | (with_reducible exact ih1 _ _ _ _ _ _ _ _ _ _ _ _ _)
   | (with_reducible exact ih2 _ _ _ _ _ _ _ _ _ _ _ _)
   | (with_reducible exact LeO.refl _)
   | (with_reducible exact LeO.none _)
   | (with_reducible refine LeO.ite ?_ ?_)
   | (with_reducible refine LeO.bind ?_ (fun _ => ?_))
   | exact ih0 _ _ _ _ _
   | exact ih1 _ _ _ _ _ _ _ _ _ _ _ _ _
   | exact ih2 _ _ _ _ _ _ _ _ _ _ _ _
   | exact LeO.none _
   | refine LeO.ite ?_ ?_
   | refine LeO.bind ?_ (fun _ => ?_)
  ·intro y0 y1 y2 y3 y4 y5 y6 y7 y8 y9 y10 y11
   unfold laws_grouped.l2
   repeat' first
   | (with_reducible exact ih0 _ _ _ _ _)
   | (with_reducible exact ih1 _ _ _ _ _ _ _ _ _ _ _ _ _)
   | (with_reducible exact ih2 _ _ _ _ _ _ _ _ _ _ _ _)
   | (with_reducible exact LeO.refl _)
   | (with_reducible exact LeO.none _)
   | (with_reducible refine LeO.ite ?_ ?_)
   | (with_reducible refine LeO.bind ?_ (fun _ => ?_))
   | exact ih0 _ _ _ _ _
   | exact ih1 _ _ _ _ _ _ _ _ _ _ _ _ _
   | exact ih2 _ _ _ _ _ _ _ _ _ _ _ _
   | exact LeO.none _
   | refine LeO.ite ?_ ?_
   | refine LeO.bind ?_ (fun _ => ?_)
theorem laws_grouped.mono : ∀ a0 k, LeO (laws_grouped.f k a0) (laws_grouped.f (k + 1) a0) := by
 intro a0 k
 obtain ⟨ih0, ih1, ih2⟩ := laws_grouped.mono_l k
 unfold laws_grouped.f
 repeat' first
   | (with_reducible exact ih0 _ _ _ _ _)
   | (with_reducible exact ih1 _ _ _ _ _ _ _ _ _ _ _ _ _)
   | (with_reducible exact ih2 _ _ _ _ _ _ _ _ _ _ _ _)
   | (with_reducible exact LeO.refl _)
   | (with_reducible exact LeO.none _)
   | (with_reducible refine LeO.ite ?_ ?_)
   | (with_reducible refine LeO.bind ?_ (fun _ => ?_))
   | exact ih0 _ _ _ _ _
   | exact ih1 _ _ _ _ _ _ _ _ _ _ _ _ _
   | exact ih2 _ _ _ _ _ _ _ _ _ _ _ _
   | exact LeO.none _
   | refine LeO.ite ?_ ?_
   | refine LeO.bind ?_ (fun _ => ?_)
set_option maxHeartbeats 8000000 in
set_option maxRecDepth 100000 in
theorem laws_grouped.calls (k : Nat) (A0 : Option Addr) (c0 : Nat) (l0 : List (S30)) (r : List (S30)) (w : World) (hr0 : Kd.C k30 w A0 l0.length l0) (hc0 : l0.length ≤ c0) (h : laws_grouped.f k l0 = some r) :
  Calls Tryd.prog 24 #[.slice A0 l0.length c0] w fun e w' => ∃ v0_ : Value, e = .returned (v0_) ∧ Kd.R k30 30 w' w.heap.size (fun _ => True) v0_ r ∧ Below w.heap.size w w' := by
 have hu30 := Tryd.underlying30
 have HR0 := Aside0.mk hr0
 have HC0 := Aside0.mk hc0
 clear hr0 hc0
 have HB := Aside0.mk (Below.refl w.heap.size w)
 have H : (laws_grouped.l0 k l0 ([] : List (S30)) l0 (l0.length : Int) 0) = some r := h
 clear h
 have H' := Aside0.mk H
 clear H
 go_enter Tryd.func24, Tryd.ntmps24
 go_wp2
 go_loopg [3, 13] k (fun kq v3 v13 w' => ∃ (x3_1 : List (S30)) (x13_1 : Int), v13 = .int .i64 x13_1 ∧ Aside0 (laws_grouped.l0 kq l0 x3_1 l0 (l0.length : Int) x13_1 = some r) ∧ Aside0 (kq ≤ k) ∧ Aside0 (Kd.R k30 30 w' w.heap.size (fun _ => True) v3 x3_1) ∧ Aside0 (Below w.heap.size w w'))
 case atStart => exact ⟨(([] : List (S30))), (0), (by first | rfl | (simp; done) | (simp [*]; done)), H', ⟨Nat.le_refl _⟩, ⟨by first | exact Kd.R_nil _ _ _ _ _ | exact Kd.N_nil _ _ _ _ _ | exact Kd.V_nil _ _ _ _ _ | exact Kd.Q_nil _ _ _ _ _ | exact Kd.S_nil _ _ _ _ _⟩, ⟨by repeat (first | (with_reducible first | exact HB.out | apply below_alloc | apply pw_below_drewN | apply below_drew1) | exact HB.out)⟩⟩
 case round =>
  clear H'
  obtain ⟨x3_1, x13_1, rfl, HA, HK1, HO_3, HB⟩ := hrel
  cases gk with
  | zero => exact absurd HA.out (by simp [laws_grouped.l0])
  | succ k1 =>
   have H := HA.out
   clear HA
   simp only [laws_grouped.l0] at H
   by_cases c2 : x13_1 < (l0.length : Int)
   ·rw [if_pos c2] at H
    have c2b0 : decide (x13_1 < (l0.length : Int)) = true := decide_eq_true c2
    clear c2
    by_cases c3 : 0 ≤ x13_1
    ·rw [if_pos c3] at H
     have c3b0 : decide (0 ≤ x13_1) = true := decide_eq_true c3
     clear c3
     by_cases c4 : x13_1 < (l0.length : Int)
     ·rw [if_pos c4] at H
      have c4b0 : decide (x13_1 < (l0.length : Int)) = true := decide_eq_true c4
      clear c4
      have c5b0 := eq_true (of_decide_eq_true (by first | (with_reducible assumption) | assumption) : 0 ≤ x13_1)
      by_cases c6 : x13_1 ≤ (l0.length : Int)
      ·rw [if_pos c6] at H
       have c6b0 := eq_true c6
       have c6b1 : decide (x13_1 ≤ (l0.length : Int)) = true := decide_eq_true c6
       clear c6
       obtain ⟨y126, hy126⟩ : ∃ y_ : List (S30), y_ = (l0.take (x13_1 : Int).toNat) := ⟨_, rfl⟩
       replace H : (laws_grouped.l1 k1 l0 x3_1 x13_1 true l0 (l0.length : Int) x13_1 y126 (y126.length : Int) 0 ((rd_T30 l0 x13_1).f0) ((rd_T30 l0 x13_1).f1) ((rd_T30 l0 x13_1).f2)) = some r := by first | (rw [hy126]; with_reducible exact H) | (have H2_ := (Option.bind_some _ _).symm.trans H; rw [hy126]; with_reducible exact H2_) | (have H2_ := (Option.bind_some _ _).symm.trans H; with_reducible exact H2_) | with_reducible exact H | (rw [hy126]; exact H) | exact H
       have Ny126 := Aside0.mk hy126
       clear hy126
       have H' := Aside0.mk H
       clear H
       have p124 : 0 ≤ (x13_1 : Int) := of_decide_eq_true (by first | (with_reducible assumption) | assumption)
       have q124 : x13_1 < (l0.length : Int) := of_decide_eq_true (by first | (with_reducible assumption) | assumption)
       obtain ⟨ad124, e124, hx124_0, hx124_1, hx124_2⟩ := at_T30 HR0.out x13_1 p124 q124
       cases e124
       replace hx124_0 := (HB.out.cell (World.block_lt_of_cell? w _ hx124_0)).trans hx124_0
       replace hx124_1 := (HB.out.cell (World.block_lt_of_cell? w _ hx124_1)).trans hx124_1
       replace hx124_2 := (HB.out.cell (World.block_lt_of_cell? w _ hx124_2)).trans hx124_2
       replace p124 := eq_true p124
       replace q124 := eq_true q124
       go_wp2_with (first | ((with_reducible refine gate_dst (N := 5) rfl ?_); refine box_event ?hg (N := 5) ?hd (cs := #[.string (⟨#[]⟩ : ByteArray), .string (⟨#[]⟩ : ByteArray), .string (⟨#[]⟩ : ByteArray)]) (t := 30) ?hr ?_; (case hd => rfl); (case hg => rfl); (case hr => first | (go_simp; done) | (go_simp; rfl)); intro gb125 hg w7 hbox hb; have n0_ := Aside0.mk (Kd.R_below (Kd.R_elderB (by (with_reducible repeat (first | apply Kd.R_alloc | apply Kd.R_drewN | apply Kd.R_drew)); exact HO_3.out) gb125 (Nat.le_of_eq hg.symm)) hb); have n1_ := Aside0.mk (below_step (by repeat (first | (with_reducible first | exact HB.out | apply below_alloc | apply pw_below_drewN | apply below_drew1) | exact HB.out)) hb); have n2_ := Aside0.mk (hbox); have n3_ := Aside0.mk ((by rw [hg]; exact (below_size (by repeat (first | (with_reducible first | exact HB.out | apply below_alloc | apply pw_below_drewN | apply below_drew1) | exact HB.out))) : w.heap.size ≤ gb125)); have n4_ := Aside0.mk ((by rw [hg]; exact (below_size (by repeat (first | (with_reducible first | exact HB.out | apply below_alloc | apply pw_below_drewN | apply below_drew1) | exact HB.out))) : w.heap.size ≤ gb125)); clear HO_3; clear HB; have HO_3 := n0_; have HB := n1_; have BK125 := n2_; have GW125 := n3_; have GE125 := n4_; clear n0_ n1_ n2_ n3_ n4_; clear hb hbox hg; have hcz8_0 : w7.cell? ⟨gb125, 0, none⟩ = some (.string (⟨#[]⟩ : ByteArray)) := (blk_cell BK125.out 0).trans rfl; have hcz8_1 : w7.cell? ⟨gb125, 1, none⟩ = some (.string (⟨#[]⟩ : ByteArray)) := (blk_cell BK125.out 1).trans rfl; have hcz8_2 : w7.cell? ⟨gb125, 2, none⟩ = some (.string (⟨#[]⟩ : ByteArray)) := (blk_cell BK125.out 2).trans rfl; have hfz8_0 := blk_frozen BK125.out 0; have hfz8_1 := blk_frozen BK125.out 1; have hfz8_2 := blk_frozen BK125.out 2) | ((with_reducible refine gate_store (t := 30) (p := 5) rfl ?_); refine store_event (t := 30) (p := 5) (v := ?vo_w9) (w1 := (((w7.setCell ⟨gb125, 0, none⟩ (.string ((rd_T30 l0 x13_1).f0))).setCell ⟨gb125, 1, none⟩ (.string ((rd_T30 l0 x13_1).f1))).setCell ⟨gb125, 2, none⟩ (.string ((rd_T30 l0 x13_1).f2)))) ?hg ?ho ?hn ?hr ?_; (case ho => rfl); (case hg => rfl); (case hn => rfl); (case hr => first | (go_simp; done) | (go_simp; rfl)); intro w9 hw; have n0_ : Aside0 (Kd.R k30 30 w9 w.heap.size (fun k_ => k_ ≠ gb125) u3 x3_1) := ⟨(by rw [hw]; exact (by (with_reducible repeat (first | apply Kd.R_alloc | apply Kd.R_drewN | apply Kd.R_drew)); exact Kd.R_mono (Kd.R_far (p := ⟨gb125, 2, none⟩) (Kd.R_far (p := ⟨gb125, 1, none⟩) (Kd.R_far (p := ⟨gb125, 0, none⟩) (Kd.R_mono HO_3.out (fun k_ hk => (⟨hk, hk.2⟩ : _ ∧ k_ ≠ gb125))) (fun _ hk => hk.2) (.string ((rd_T30 l0 x13_1).f0))) (fun _ hk => hk.2) (.string ((rd_T30 l0 x13_1).f1))) (fun _ hk => hk.2) (.string ((rd_T30 l0 x13_1).f2))) (fun _ hk => hk.1.2)))⟩; have n1_ : Aside0 (w9.heap[gb125]? = some (.cells #[.string ((rd_T30 l0 x13_1).f0), .string ((rd_T30 l0 x13_1).f1), .string ((rd_T30 l0 x13_1).f2)] 30 (0, 0))) := ⟨(by rw [hw]; exact (by (with_reducible repeat (first | refine blk_drewN ?_ _ | refine blk_drew ?_ | refine blk_alloc ?_ _)); refine blk_put (cs := #[.string ((rd_T30 l0 x13_1).f0), .string ((rd_T30 l0 x13_1).f1), .string (⟨#[]⟩ : ByteArray)]) ?_ 2 _ rfl; (with_reducible repeat (first | refine blk_drewN ?_ _ | refine blk_drew ?_ | refine blk_alloc ?_ _)); refine blk_put (cs := #[.string ((rd_T30 l0 x13_1).f0), .string (⟨#[]⟩ : ByteArray), .string (⟨#[]⟩ : ByteArray)]) ?_ 1 _ rfl; (with_reducible repeat (first | refine blk_drewN ?_ _ | refine blk_drew ?_ | refine blk_alloc ?_ _)); refine blk_put (cs := #[.string (⟨#[]⟩ : ByteArray), .string (⟨#[]⟩ : ByteArray), .string (⟨#[]⟩ : ByteArray)]) ?_ 0 _ rfl; (with_reducible repeat (first | refine blk_drewN ?_ _ | refine blk_drew ?_ | refine blk_alloc ?_ _)); exact BK125.out))⟩; have n2_ : Aside0 (Below w.heap.size w w9) := ⟨(by rw [hw]; exact (by repeat (first | (with_reducible first | exact HB.out | apply below_alloc | apply pw_below_drewN | apply below_drew1 | refine below_set ?_ GE125.out) | exact HB.out)))⟩; clear hw; clear HO_3; clear BK125; clear HB; have HO_3 := n0_; have BK125 := n1_; have HB := n2_; clear n0_ n1_ n2_; have q10 : (x13_1 : Int) ≤ ((l0.length : Int) : Int) := of_decide_eq_true (by first | (with_reducible assumption) | assumption); obtain ⟨i010, hi010, _, hsz10, _⟩ := info_parts info30; have hroom10 : l0.length ≤ c0 := HC0.out; have hC10 : Kd.C k30 _ (some ad124) l0.length l0 := HR0.out; have hcut10 := cut_to (P := Tryd.prog) 27 30 .i64 Tryd.underlying27 hi010 (some ad124) l0.length c0 x13_1 (of_decide_eq_true (by first | (with_reducible assumption) | assumption)) q10 hroom10; have hr10 := Kd.C_take (m := (x13_1 : Int).toNat) hC10 (by omega); have hy10 : y126.length = (x13_1 : Int).toNat := (by rw [Ny126.out, List.length_take]; omega); rw [← Ny126.out] at hr10; rw [← hy10] at hcut10; have HR129 := Aside0.mk hr10; have HC129 := Aside0.mk (show y126.length ≤ c0 from by omega); clear hr10 hC10 hroom10 hi010 hsz10; have KY10 := Aside0.mk hy10; clear hy10; replace q10 := eq_true q10))
       go_loopg [6, 22] k1 (fun kq v6 v22 w' => ∃ (x6_2 : Bool) (x22_2 : Int), v6 = .bool x6_2 ∧ v22 = .int .i64 x22_2 ∧ Aside0 (laws_grouped.l1 kq l0 x3_1 x13_1 x6_2 l0 (l0.length : Int) x13_1 y126 (y126.length : Int) x22_2 ((rd_T30 l0 x13_1).f0) ((rd_T30 l0 x13_1).f1) ((rd_T30 l0 x13_1).f2) = some r) ∧ Aside0 (kq ≤ k1) ∧ Aside0 (Kd.R k30 30 w' w.heap.size (fun k_ => k_ ≠ gb125) u3 x3_1) ∧ Aside0 (w'.heap[gb125]? = some (.cells #[.string ((rd_T30 l0 x13_1).f0), .string ((rd_T30 l0 x13_1).f1), .string ((rd_T30 l0 x13_1).f2)] 30 (0, 0))) ∧ Aside0 (Below w.heap.size w w'))
       case atStart => exact ⟨(true), (0), (by first | rfl | (simp; done) | (simp [*]; done)), (by first | rfl | (simp; done) | (simp [*]; done)), H', ⟨Nat.le_refl _⟩, ⟨by (with_reducible repeat (first | apply Kd.R_alloc | apply Kd.R_drewN | apply Kd.R_drew)); exact HO_3.out⟩, ⟨by (with_reducible repeat (first | refine blk_drewN ?_ _ | refine blk_drew ?_ | refine blk_alloc ?_ _)); exact BK125.out⟩, ⟨by repeat (first | (with_reducible first | exact HB.out | apply below_alloc | apply pw_below_drewN | apply below_drew1 | refine below_set ?_ GE125.out) | exact HB.out)⟩⟩
       case round =>
        clear H'
        try clear p1
        try clear q1
        try clear hx1
        try clear c2
        try clear c2b0
        try clear p2
        try clear c3
        try clear c3b0
        try clear c4
        try clear c4b0
        try clear c5
        try clear c5b0
        try clear c6
        try clear c6b0
        try clear c6b1
        try clear q10
        try clear hcz8_0
        try clear hcz8_1
        try clear hcz8_2
        try clear hfz8_0
        try clear hfz8_1
        try clear hfz8_2
        try clear hx124_0
        try clear hx124_1
        try clear hx124_2
        try clear p124
        try clear q10
        try clear q124
        obtain ⟨x6_2, x22_2, rfl, rfl, HA, HK2, HO_3, BK125, HB⟩ := hrel
        cases gk with
        | zero => exact absurd HA.out (by simp [laws_grouped.l1])
        | succ k2 =>
         have H := HA.out
         clear HA
         simp only [laws_grouped.l1] at H
         by_cases c11 : x22_2 < (y126.length : Int)
         ·rw [if_pos c11] at H
          have c11b0 : decide (x22_2 < (y126.length : Int)) = true := decide_eq_true c11
          clear c11
          by_cases c12 : 0 ≤ x22_2
          ·rw [if_pos c12] at H
           have c12b0 : decide (0 ≤ x22_2) = true := decide_eq_true c12
           clear c12
           by_cases c13 : x22_2 < (y126.length : Int)
           ·rw [if_pos c13] at H
            have c13b0 : decide (x22_2 < (y126.length : Int)) = true := decide_eq_true c13
            clear c13
            by_cases c14 : x6_2 = true
            ·subst c14
             have H1 : (laws_grouped.l1 k2 l0 x3_1 x13_1 (((rd_T30 y126 x22_2).f0).toList != ((rd_T30 l0 x13_1).f0).toList) l0 (l0.length : Int) x13_1 y126 (y126.length : Int) (wrap64 (x22_2 + 1)) ((rd_T30 l0 x13_1).f0) ((rd_T30 l0 x13_1).f1) ((rd_T30 l0 x13_1).f2)) = some r := by rw [if_pos rfl] at H; exact H
             clear H
             have H := H1
             clear H1
             have H' := Aside0.mk H
             clear H
             have p130 : 0 ≤ (x22_2 : Int) := of_decide_eq_true (by first | (with_reducible assumption) | assumption)
             have q130 : x22_2 < (y126.length : Int) := of_decide_eq_true (by first | (with_reducible assumption) | assumption)
             obtain ⟨ad130, e130, hx130_0, hx130_1, hx130_2⟩ := at_T30 HR129.out x22_2 p130 q130
             obtain rfl : ad124 = ad130 := (by injection e130)
             replace hx130_0 := (HB.out.cell (World.block_lt_of_cell? w _ hx130_0)).trans hx130_0
             replace hx130_1 := (HB.out.cell (World.block_lt_of_cell? w _ hx130_1)).trans hx130_1
             replace hx130_2 := (HB.out.cell (World.block_lt_of_cell? w _ hx130_2)).trans hx130_2
             replace p130 := eq_true p130
             replace q130 := eq_true q130
             go_wp2_with (first | ((with_reducible refine gate_dst (N := 8) rfl ?_); refine box_event ?hg (N := 8) ?hd (cs := #[.string (⟨#[]⟩ : ByteArray), .string (⟨#[]⟩ : ByteArray), .string (⟨#[]⟩ : ByteArray)]) (t := 30) ?hr ?_; (case hd => rfl); (case hg => rfl); (case hr => first | (go_simp; done) | (go_simp; rfl)); intro gb131 hg w15 hbox hb; have n0_ := Aside0.mk (Kd.R_below (Kd.R_elderB (by (with_reducible repeat (first | apply Kd.R_alloc | apply Kd.R_drewN | apply Kd.R_drew)); exact HO_3.out) gb131 (Nat.le_of_eq hg.symm)) hb); have n1_ := Aside0.mk (blk_below (g := gb125) (o := .cells #[.string ((rd_T30 l0 x13_1).f0), .string ((rd_T30 l0 x13_1).f1), .string ((rd_T30 l0 x13_1).f2)] 30 (0, 0)) (by (with_reducible repeat (first | refine blk_drewN ?_ _ | refine blk_drew ?_ | refine blk_alloc ?_ _)); exact BK125.out) hb); have n2_ := Aside0.mk (below_step (by repeat (first | (with_reducible first | exact HB.out | apply below_alloc | apply pw_below_drewN | apply below_drew1 | refine below_set ?_ GE125.out) | exact HB.out)) hb); have n3_ := Aside0.mk (hbox); have n4_ := Aside0.mk ((by rw [hg]; exact (below_size (by repeat (first | (with_reducible first | exact HB.out | apply below_alloc | apply pw_below_drewN | apply below_drew1 | refine below_set ?_ GE125.out) | exact HB.out))) : w.heap.size ≤ gb131)); have n5_ := Aside0.mk ((by rw [hg]; exact (below_size (by repeat (first | (with_reducible first | exact HB.out | apply below_alloc | apply pw_below_drewN | apply below_drew1 | refine below_set ?_ GE125.out) | exact HB.out))) : w.heap.size ≤ gb131)); have n6_ := Aside0.mk ((by rw [hg]; exact Nat.ne_of_lt (blk_lt (g := gb125) (o := .cells #[.string ((rd_T30 l0 x13_1).f0), .string ((rd_T30 l0 x13_1).f1), .string ((rd_T30 l0 x13_1).f2)] 30 (0, 0)) (by (with_reducible repeat (first | refine blk_drewN ?_ _ | refine blk_drew ?_ | refine blk_alloc ?_ _)); exact BK125.out)) : gb125 ≠ gb131)); have n7_ := Aside0.mk ((by rw [hg]; exact Nat.ne_of_gt (blk_lt (g := gb125) (o := .cells #[.string ((rd_T30 l0 x13_1).f0), .string ((rd_T30 l0 x13_1).f1), .string ((rd_T30 l0 x13_1).f2)] 30 (0, 0)) (by (with_reducible repeat (first | refine blk_drewN ?_ _ | refine blk_drew ?_ | refine blk_alloc ?_ _)); exact BK125.out)) : gb131 ≠ gb125)); clear HO_3; clear BK125; clear HB; have HO_3 := n0_; have BK125 := n1_; have HB := n2_; have BK131 := n3_; have GW131 := n4_; have GE131 := n5_; have NB125_131 := n6_; have NB131_125 := n7_; clear n0_ n1_ n2_ n3_ n4_ n5_ n6_ n7_; clear hb hbox hg; have hnb16 := NB131_125.out; have hnc16 := NB125_131.out; have hcz17_0 : w15.cell? ⟨gb131, 0, none⟩ = some (.string (⟨#[]⟩ : ByteArray)) := (blk_cell BK131.out 0).trans rfl; have hcz17_1 : w15.cell? ⟨gb131, 1, none⟩ = some (.string (⟨#[]⟩ : ByteArray)) := (blk_cell BK131.out 1).trans rfl; have hcz17_2 : w15.cell? ⟨gb131, 2, none⟩ = some (.string (⟨#[]⟩ : ByteArray)) := (blk_cell BK131.out 2).trans rfl; have hfz17_0 := blk_frozen BK131.out 0; have hfz17_1 := blk_frozen BK131.out 1; have hfz17_2 := blk_frozen BK131.out 2; have hcz18_0 : w15.cell? ⟨gb125, 0, none⟩ = some (.string ((rd_T30 l0 x13_1).f0)) := (blk_cell BK125.out 0).trans rfl; have hcz18_1 : w15.cell? ⟨gb125, 1, none⟩ = some (.string ((rd_T30 l0 x13_1).f1)) := (blk_cell BK125.out 1).trans rfl; have hcz18_2 : w15.cell? ⟨gb125, 2, none⟩ = some (.string ((rd_T30 l0 x13_1).f2)) := (blk_cell BK125.out 2).trans rfl; have hfz18_0 := blk_frozen BK125.out 0; have hfz18_1 := blk_frozen BK125.out 1; have hfz18_2 := blk_frozen BK125.out 2))
             go_roundg k2
             case measure => have := HK1.out; have := HK2.out; omega
             case rel => exact ⟨((((rd_T30 y126 x22_2).f0).toList != ((rd_T30 l0 x13_1).f0).toList)), (wrap64 (x22_2 + 1)), (by first | rfl | (simp; done) | (simp [*]; done)), (by first | rfl | (simp; done) | (simp [*]; done)), H', ⟨by have := HK1.out; have := HK2.out; omega⟩, ⟨by (with_reducible repeat (first | apply Kd.R_alloc | apply Kd.R_drewN | apply Kd.R_drew)); exact Kd.R_mono (Kd.R_far (p := ⟨gb131, 2, none⟩) (Kd.R_far (p := ⟨gb131, 1, none⟩) (Kd.R_far (p := ⟨gb131, 0, none⟩) (Kd.R_mono HO_3.out (fun k_ hk => (⟨hk, hk.2⟩ : _ ∧ k_ ≠ gb131))) (fun _ hk => hk.2) (.string ((rd_T30 y126 x22_2).f0))) (fun _ hk => hk.2) (.string ((rd_T30 y126 x22_2).f1))) (fun _ hk => hk.2) (.string ((rd_T30 y126 x22_2).f2))) (fun _ hk => hk.1.1)⟩, ⟨by (with_reducible repeat (first | refine blk_drewN ?_ _ | refine blk_drew ?_ | refine blk_alloc ?_ _)); refine blk_far ?_ NB125_131.out _; (with_reducible repeat (first | refine blk_drewN ?_ _ | refine blk_drew ?_ | refine blk_alloc ?_ _)); refine blk_far ?_ NB125_131.out _; (with_reducible repeat (first | refine blk_drewN ?_ _ | refine blk_drew ?_ | refine blk_alloc ?_ _)); refine blk_far ?_ NB125_131.out _; (with_reducible repeat (first | refine blk_drewN ?_ _ | refine blk_drew ?_ | refine blk_alloc ?_ _)); exact BK125.out⟩, ⟨by repeat (first | (with_reducible first | exact HB.out | apply below_alloc | apply pw_below_drewN | apply below_drew1 | refine below_set ?_ GE125.out | refine below_set ?_ GE131.out) | exact HB.out)⟩⟩
            ·replace c14 := Bool.eq_false_iff.mpr c14
             subst c14
             have H1 : (laws_grouped.l1 k2 l0 x3_1 x13_1 false l0 (l0.length : Int) x13_1 y126 (y126.length : Int) (wrap64 (x22_2 + 1)) ((rd_T30 l0 x13_1).f0) ((rd_T30 l0 x13_1).f1) ((rd_T30 l0 x13_1).f2)) = some r := by rw [if_neg (show ¬ (false = true) by decide)] at H; exact H
             clear H
             have H := H1
             clear H1
             have H' := Aside0.mk H
             clear H
             have p130 : 0 ≤ (x22_2 : Int) := of_decide_eq_true (by first | (with_reducible assumption) | assumption)
             have q130 : x22_2 < (y126.length : Int) := of_decide_eq_true (by first | (with_reducible assumption) | assumption)
             obtain ⟨ad130, e130, hx130_0, hx130_1, hx130_2⟩ := at_T30 HR129.out x22_2 p130 q130
             obtain rfl : ad124 = ad130 := (by injection e130)
             replace hx130_0 := (HB.out.cell (World.block_lt_of_cell? w _ hx130_0)).trans hx130_0
             replace hx130_1 := (HB.out.cell (World.block_lt_of_cell? w _ hx130_1)).trans hx130_1
             replace hx130_2 := (HB.out.cell (World.block_lt_of_cell? w _ hx130_2)).trans hx130_2
             replace p130 := eq_true p130
             replace q130 := eq_true q130
             go_wp2_with (first | ((with_reducible refine gate_dst (N := 8) rfl ?_); refine box_event ?hg (N := 8) ?hd (cs := #[.string (⟨#[]⟩ : ByteArray), .string (⟨#[]⟩ : ByteArray), .string (⟨#[]⟩ : ByteArray)]) (t := 30) ?hr ?_; (case hd => rfl); (case hg => rfl); (case hr => first | (go_simp; done) | (go_simp; rfl)); intro gb131 hg w19 hbox hb; have n0_ := Aside0.mk (Kd.R_below (Kd.R_elderB (by (with_reducible repeat (first | apply Kd.R_alloc | apply Kd.R_drewN | apply Kd.R_drew)); exact HO_3.out) gb131 (Nat.le_of_eq hg.symm)) hb); have n1_ := Aside0.mk (blk_below (g := gb125) (o := .cells #[.string ((rd_T30 l0 x13_1).f0), .string ((rd_T30 l0 x13_1).f1), .string ((rd_T30 l0 x13_1).f2)] 30 (0, 0)) (by (with_reducible repeat (first | refine blk_drewN ?_ _ | refine blk_drew ?_ | refine blk_alloc ?_ _)); exact BK125.out) hb); have n2_ := Aside0.mk (below_step (by repeat (first | (with_reducible first | exact HB.out | apply below_alloc | apply pw_below_drewN | apply below_drew1 | refine below_set ?_ GE125.out) | exact HB.out)) hb); have n3_ := Aside0.mk (hbox); have n4_ := Aside0.mk ((by rw [hg]; exact (below_size (by repeat (first | (with_reducible first | exact HB.out | apply below_alloc | apply pw_below_drewN | apply below_drew1 | refine below_set ?_ GE125.out) | exact HB.out))) : w.heap.size ≤ gb131)); have n5_ := Aside0.mk ((by rw [hg]; exact (below_size (by repeat (first | (with_reducible first | exact HB.out | apply below_alloc | apply pw_below_drewN | apply below_drew1 | refine below_set ?_ GE125.out) | exact HB.out))) : w.heap.size ≤ gb131)); have n6_ := Aside0.mk ((by rw [hg]; exact Nat.ne_of_lt (blk_lt (g := gb125) (o := .cells #[.string ((rd_T30 l0 x13_1).f0), .string ((rd_T30 l0 x13_1).f1), .string ((rd_T30 l0 x13_1).f2)] 30 (0, 0)) (by (with_reducible repeat (first | refine blk_drewN ?_ _ | refine blk_drew ?_ | refine blk_alloc ?_ _)); exact BK125.out)) : gb125 ≠ gb131)); have n7_ := Aside0.mk ((by rw [hg]; exact Nat.ne_of_gt (blk_lt (g := gb125) (o := .cells #[.string ((rd_T30 l0 x13_1).f0), .string ((rd_T30 l0 x13_1).f1), .string ((rd_T30 l0 x13_1).f2)] 30 (0, 0)) (by (with_reducible repeat (first | refine blk_drewN ?_ _ | refine blk_drew ?_ | refine blk_alloc ?_ _)); exact BK125.out)) : gb131 ≠ gb125)); clear HO_3; clear BK125; clear HB; have HO_3 := n0_; have BK125 := n1_; have HB := n2_; have BK131 := n3_; have GW131 := n4_; have GE131 := n5_; have NB125_131 := n6_; have NB131_125 := n7_; clear n0_ n1_ n2_ n3_ n4_ n5_ n6_ n7_; clear hb hbox hg; have hnb20 := NB131_125.out; have hnc20 := NB125_131.out; have hcz21_0 : w19.cell? ⟨gb131, 0, none⟩ = some (.string (⟨#[]⟩ : ByteArray)) := (blk_cell BK131.out 0).trans rfl; have hcz21_1 : w19.cell? ⟨gb131, 1, none⟩ = some (.string (⟨#[]⟩ : ByteArray)) := (blk_cell BK131.out 1).trans rfl; have hcz21_2 : w19.cell? ⟨gb131, 2, none⟩ = some (.string (⟨#[]⟩ : ByteArray)) := (blk_cell BK131.out 2).trans rfl; have hfz21_0 := blk_frozen BK131.out 0; have hfz21_1 := blk_frozen BK131.out 1; have hfz21_2 := blk_frozen BK131.out 2))
             go_roundg k2
             case measure => have := HK1.out; have := HK2.out; omega
             case rel => exact ⟨(false), (wrap64 (x22_2 + 1)), (by first | rfl | (simp; done) | (simp [*]; done)), (by first | rfl | (simp; done) | (simp [*]; done)), H', ⟨by have := HK1.out; have := HK2.out; omega⟩, ⟨by (with_reducible repeat (first | apply Kd.R_alloc | apply Kd.R_drewN | apply Kd.R_drew)); exact Kd.R_mono (Kd.R_far (p := ⟨gb131, 2, none⟩) (Kd.R_far (p := ⟨gb131, 1, none⟩) (Kd.R_far (p := ⟨gb131, 0, none⟩) (Kd.R_mono HO_3.out (fun k_ hk => (⟨hk, hk.2⟩ : _ ∧ k_ ≠ gb131))) (fun _ hk => hk.2) (.string ((rd_T30 y126 x22_2).f0))) (fun _ hk => hk.2) (.string ((rd_T30 y126 x22_2).f1))) (fun _ hk => hk.2) (.string ((rd_T30 y126 x22_2).f2))) (fun _ hk => hk.1.1)⟩, ⟨by (with_reducible repeat (first | refine blk_drewN ?_ _ | refine blk_drew ?_ | refine blk_alloc ?_ _)); refine blk_far ?_ NB125_131.out _; (with_reducible repeat (first | refine blk_drewN ?_ _ | refine blk_drew ?_ | refine blk_alloc ?_ _)); refine blk_far ?_ NB125_131.out _; (with_reducible repeat (first | refine blk_drewN ?_ _ | refine blk_drew ?_ | refine blk_alloc ?_ _)); refine blk_far ?_ NB125_131.out _; (with_reducible repeat (first | refine blk_drewN ?_ _ | refine blk_drew ?_ | refine blk_alloc ?_ _)); exact BK125.out⟩, ⟨by repeat (first | (with_reducible first | exact HB.out | apply below_alloc | apply pw_below_drewN | apply below_drew1 | refine below_set ?_ GE125.out | refine below_set ?_ GE131.out) | exact HB.out)⟩⟩
           ·rw [if_neg c13] at H
            exact absurd H (by simp)
          ·rw [if_neg c12] at H
           exact absurd H (by simp)
         ·rw [if_neg c11] at H
          have c11b0 : decide (x22_2 < (y126.length : Int)) = false := decide_eq_false c11
          clear c11
          by_cases c22 : 0 ≤ x13_1
          ·rw [if_pos c22] at H
           have c22b0 := eq_true c22
           have c22b1 : decide (0 ≤ x13_1) = true := decide_eq_true c22
           clear c22
           by_cases c23 : x13_1 ≤ (l0.length : Int)
           ·rw [if_pos c23] at H
            have c23b0 := eq_true c23
            have c23b1 : decide (x13_1 ≤ (l0.length : Int)) = true := decide_eq_true c23
            clear c23
            obtain ⟨y132, hy132⟩ : ∃ y_ : List (S30), y_ = (l0.drop (x13_1 : Int).toNat) := ⟨_, rfl⟩
            replace H : (laws_grouped.l2 k2 l0 x3_1 x6_2 l0 (l0.length : Int) x13_1 y132 (y132.length : Int) 0 ((rd_T30 l0 x13_1).f0) ((rd_T30 l0 x13_1).f1) ((rd_T30 l0 x13_1).f2)) = some r := by first | (rw [hy132]; with_reducible exact H) | (have H2_ := (Option.bind_some _ _).symm.trans H; rw [hy132]; with_reducible exact H2_) | (have H2_ := (Option.bind_some _ _).symm.trans H; with_reducible exact H2_) | with_reducible exact H | (rw [hy132]; exact H) | exact H
            have Ny132 := Aside0.mk hy132
            clear hy132
            have H' := Aside0.mk H
            clear H
            have q24 : (x13_1 : Int) ≤ ((l0.length : Int) : Int) := of_decide_eq_true (by first | (with_reducible assumption) | assumption)
            obtain ⟨i024, hi024, _, hsz24, _⟩ := info_parts info30
            have hroom24 : l0.length ≤ c0 := HC0.out
            have hC24 : Kd.C k30 _ (some ad124) l0.length l0 := HR0.out
            have q024 : (0 : Int) ≤ (x13_1 : Int) := of_decide_eq_true (by first | (with_reducible assumption) | assumption)
            have hcut24 := cut_from (P := Tryd.prog) 27 30 .i64 Tryd.underlying27 hi024 3 hsz24 (some ad124) l0.length c0 x13_1 q024 q24
            have hr24 := Kd.C_drop (m := (x13_1 : Int).toNat) (c := c0) hC24 (by omega) hroom24
            obtain ⟨A24, hA24⟩ : ∃ A1, A1 = (if c0 = (x13_1 : Int).toNat then (some ad124) else ((some ad124) : Option Addr).map (·.add ((x13_1 : Int).toNat * 3))) := ⟨_, rfl⟩
            obtain ⟨c24, hc24⟩ : ∃ c1, c1 = c0 - (x13_1 : Int).toNat := ⟨_, rfl⟩
            have hy24 : y132.length = l0.length - (x13_1 : Int).toNat := (by rw [Ny132.out, List.length_drop] <;> omega)
            rw [show (l0).drop (x13_1 : Int).toNat = y132 from Ny132.out.symm] at hr24
            replace hr24 : Kd.C k30 _ A24 y132.length y132 := (by rw [hA24]; exact hr24)
            rw [← hy24, ← hA24, ← hc24] at hcut24
            have HR135 := Aside0.mk hr24
            have HC135 := Aside0.mk (show y132.length ≤ c24 from by rw [hy24, hc24]; exact Nat.sub_le_sub_right hroom24 _)
            clear hr24 hC24 hroom24 hi024 hsz24 hc24
            have KY24 := Aside0.mk hy24
            have KA24 := Aside0.mk hA24
            clear hy24 hA24
            replace q24 := eq_true q24
            go_wp2
            go_loopg [3, 39] k2 (fun kq v3 v39 w' => ∃ (x3_3 : List (S30)) (x39_3 : Int), v39 = .int .i64 x39_3 ∧ Aside0 (laws_grouped.l2 kq l0 x3_3 x6_2 l0 (l0.length : Int) x13_1 y132 (y132.length : Int) x39_3 ((rd_T30 l0 x13_1).f0) ((rd_T30 l0 x13_1).f1) ((rd_T30 l0 x13_1).f2) = some r) ∧ Aside0 (kq ≤ k2) ∧ Aside0 (Kd.R k30 30 w' w.heap.size (fun k_ => k_ ≠ gb125) v3 x3_3) ∧ Aside0 (w'.heap[gb125]? = some (.cells #[.string ((rd_T30 l0 x13_1).f0), .string ((rd_T30 l0 x13_1).f1), .string ((rd_T30 l0 x13_1).f2)] 30 (0, 0))) ∧ Aside0 (Below w.heap.size w w'))
            case atStart => exact ⟨(x3_1), (0), (by first | rfl | (simp; done) | (simp [*]; done)), H', ⟨Nat.le_refl _⟩, ⟨by (with_reducible repeat (first | apply Kd.R_alloc | apply Kd.R_drewN | apply Kd.R_drew)); exact HO_3.out⟩, ⟨by (with_reducible repeat (first | refine blk_drewN ?_ _ | refine blk_drew ?_ | refine blk_alloc ?_ _)); exact BK125.out⟩, ⟨by repeat (first | (with_reducible first | exact HB.out | apply below_alloc | apply pw_below_drewN | apply below_drew1 | refine below_set ?_ GE125.out) | exact HB.out)⟩⟩
            case round =>
             clear H'
             try clear c1
             try clear p1
             try clear q1
             try clear hx1
             try clear c2
             try clear c2b0
             try clear p2
             try clear q2
             try clear c3
             try clear c3b0
             try clear c4
             try clear c4b0
             try clear c5
             try clear c5b0
             try clear c6
             try clear c6b0
             try clear c6b1
             try clear p6
             try clear q10
             try clear c11
             try clear c11b0
             try clear c12
             try clear c12b0
             try clear p12
             try clear q12
             try clear hx12
             try clear c13
             try clear c13b0
             try clear p13
             try clear q13
             try clear hx13
             try clear c14
             try clear c16
             try clear c20
             try clear c22
             try clear c22b0
             try clear c22b1
             try clear c23
             try clear c23b0
             try clear c23b1
             try clear c24
             try clear q24
             try clear hcz17_0
             try clear hcz17_1
             try clear hcz17_2
             try clear hcz18_0
             try clear hcz18_1
             try clear hcz18_2
             try clear hcz21_0
             try clear hcz21_1
             try clear hcz21_2
             try clear hcz8_0
             try clear hcz8_1
             try clear hcz8_2
             try clear hfz17_0
             try clear hfz17_1
             try clear hfz17_2
             try clear hfz18_0
             try clear hfz18_1
             try clear hfz18_2
             try clear hfz21_0
             try clear hfz21_1
             try clear hfz21_2
             try clear hfz8_0
             try clear hfz8_1
             try clear hfz8_2
             try clear hx124_0
             try clear hx124_1
             try clear hx124_2
             try clear hx130_0
             try clear hx130_1
             try clear hx130_2
             try clear p1
             try clear p124
             try clear p130
             try clear p2
             try clear q024
             try clear q1
             try clear q10
             try clear q124
             try clear q130
             try clear q24
             obtain ⟨x3_3, x39_3, rfl, HA, HK3, HO_3, BK125, HB⟩ := hrel
             cases gk with
             | zero => exact absurd HA.out (by simp [laws_grouped.l2])
             | succ k3 =>
              have H := HA.out
              clear HA
              simp only [laws_grouped.l2] at H
              by_cases c25 : x39_3 < (y132.length : Int)
              ·rw [if_pos c25] at H
               have c25b0 : decide (x39_3 < (y132.length : Int)) = true := decide_eq_true c25
               clear c25
               by_cases c26 : 0 ≤ x39_3
               ·rw [if_pos c26] at H
                have c26b0 : decide (0 ≤ x39_3) = true := decide_eq_true c26
                clear c26
                by_cases c27 : x39_3 < (y132.length : Int)
                ·rw [if_pos c27] at H
                 have c27b0 : decide (x39_3 < (y132.length : Int)) = true := decide_eq_true c27
                 clear c27
                 by_cases c28 : x6_2 = true
                 ·subst c28
                  have H1 : (if ((rd_T30 y132 x39_3).f0).toList = ((rd_T30 l0 x13_1).f0).toList then (if x3_3.length < 2932031007402 then (laws_grouped.l2 k3 l0 (x3_3 ++ [(⟨(rd_T30 y132 x39_3).f0, (rd_T30 y132 x39_3).f1, (rd_T30 y132 x39_3).f2⟩ : S30)]) true l0 (l0.length : Int) x13_1 y132 (y132.length : Int) (wrap64 (x39_3 + 1)) ((rd_T30 l0 x13_1).f0) ((rd_T30 l0 x13_1).f1) ((rd_T30 l0 x13_1).f2)) else (none)) else (laws_grouped.l2 k3 l0 x3_3 true l0 (l0.length : Int) x13_1 y132 (y132.length : Int) (wrap64 (x39_3 + 1)) ((rd_T30 l0 x13_1).f0) ((rd_T30 l0 x13_1).f1) ((rd_T30 l0 x13_1).f2))) = some r := by rw [if_pos rfl] at H; exact H
                  clear H
                  have H := H1
                  clear H1
                  by_cases c29 : ((rd_T30 y132 x39_3).f0).toList = ((rd_T30 l0 x13_1).f0).toList
                  ·rw [if_pos c29] at H
                   have c29b0 : (((rd_T30 y132 x39_3).f0).toList == ((rd_T30 l0 x13_1).f0).toList) = true := beq_iff_eq.mpr c29
                   have c29b1 : (((rd_T30 y132 x39_3).f0).toList != ((rd_T30 l0 x13_1).f0).toList) = false := bne_eq_false_iff_eq.mpr c29
                   clear c29
                   by_cases c30 : x3_3.length < 2932031007402
                   ·rw [if_pos c30] at H
                    have LMc30 := Aside0.mk c30
                    clear c30
                    obtain ⟨y138, hy138⟩ : ∃ y_ : List (S30), y_ = (x3_3 ++ [(⟨(rd_T30 y132 x39_3).f0, (rd_T30 y132 x39_3).f1, (rd_T30 y132 x39_3).f2⟩ : S30)]) := ⟨_, rfl⟩
                    replace H : (laws_grouped.l2 k3 l0 y138 true l0 (l0.length : Int) x13_1 y132 (y132.length : Int) (wrap64 (x39_3 + 1)) ((rd_T30 l0 x13_1).f0) ((rd_T30 l0 x13_1).f1) ((rd_T30 l0 x13_1).f2)) = some r := by first | (rw [hy138]; with_reducible exact H) | (have H2_ := (Option.bind_some _ _).symm.trans H; rw [hy138]; with_reducible exact H2_) | (have H2_ := (Option.bind_some _ _).symm.trans H; with_reducible exact H2_) | with_reducible exact H | (rw [hy138]; exact H) | exact H
                    have Ny138 := Aside0.mk hy138
                    clear hy138
                    have H' := Aside0.mk H
                    clear H
                    have p136 : 0 ≤ (x39_3 : Int) := of_decide_eq_true (by first | (with_reducible assumption) | assumption)
                    have q136 : x39_3 < (y132.length : Int) := of_decide_eq_true (by first | (with_reducible assumption) | assumption)
                    obtain ⟨ad136, e136, hx136_0, hx136_1, hx136_2⟩ := at_T30 HR135.out x39_3 p136 q136
                    cases e136
                    replace hx136_0 := (HB.out.cell (World.block_lt_of_cell? w _ hx136_0)).trans hx136_0
                    replace hx136_1 := (HB.out.cell (World.block_lt_of_cell? w _ hx136_1)).trans hx136_1
                    replace hx136_2 := (HB.out.cell (World.block_lt_of_cell? w _ hx136_2)).trans hx136_2
                    replace p136 := eq_true p136
                    replace q136 := eq_true q136
                    go_wp2_with (first | ((with_reducible refine gate_dst (N := 10) rfl ?_); refine box_event ?hg (N := 10) ?hd (cs := #[.string (⟨#[]⟩ : ByteArray), .string (⟨#[]⟩ : ByteArray), .string (⟨#[]⟩ : ByteArray)]) (t := 30) ?hr ?_; (case hd => rfl); (case hg => rfl); (case hr => first | (go_simp; done) | (go_simp; rfl)); intro gb137 hg w31 hbox hb; have n0_ := Aside0.mk (Kd.R_below (Kd.R_elderB (by (with_reducible repeat (first | apply Kd.R_alloc | apply Kd.R_drewN | apply Kd.R_drew)); exact HO_3.out) gb137 (Nat.le_of_eq hg.symm)) hb); have n1_ := Aside0.mk (blk_below (g := gb125) (o := .cells #[.string ((rd_T30 l0 x13_1).f0), .string ((rd_T30 l0 x13_1).f1), .string ((rd_T30 l0 x13_1).f2)] 30 (0, 0)) (by (with_reducible repeat (first | refine blk_drewN ?_ _ | refine blk_drew ?_ | refine blk_alloc ?_ _)); exact BK125.out) hb); have n2_ := Aside0.mk (below_step (by repeat (first | (with_reducible first | exact HB.out | apply below_alloc | apply pw_below_drewN | apply below_drew1 | refine below_set ?_ GE125.out) | exact HB.out)) hb); have n3_ := Aside0.mk (hbox); have n4_ := Aside0.mk ((by rw [hg]; exact (below_size (by repeat (first | (with_reducible first | exact HB.out | apply below_alloc | apply pw_below_drewN | apply below_drew1 | refine below_set ?_ GE125.out) | exact HB.out))) : w.heap.size ≤ gb137)); have n5_ := Aside0.mk ((by rw [hg]; exact (below_size (by repeat (first | (with_reducible first | exact HB.out | apply below_alloc | apply pw_below_drewN | apply below_drew1 | refine below_set ?_ GE125.out) | exact HB.out))) : w.heap.size ≤ gb137)); have n6_ := Aside0.mk ((by rw [hg]; exact Nat.ne_of_lt (blk_lt (g := gb125) (o := .cells #[.string ((rd_T30 l0 x13_1).f0), .string ((rd_T30 l0 x13_1).f1), .string ((rd_T30 l0 x13_1).f2)] 30 (0, 0)) (by (with_reducible repeat (first | refine blk_drewN ?_ _ | refine blk_drew ?_ | refine blk_alloc ?_ _)); exact BK125.out)) : gb125 ≠ gb137)); have n7_ := Aside0.mk ((by rw [hg]; exact Nat.ne_of_gt (blk_lt (g := gb125) (o := .cells #[.string ((rd_T30 l0 x13_1).f0), .string ((rd_T30 l0 x13_1).f1), .string ((rd_T30 l0 x13_1).f2)] 30 (0, 0)) (by (with_reducible repeat (first | refine blk_drewN ?_ _ | refine blk_drew ?_ | refine blk_alloc ?_ _)); exact BK125.out)) : gb137 ≠ gb125)); clear HO_3; clear BK125; clear HB; have HO_3 := n0_; have BK125 := n1_; have HB := n2_; have BK137 := n3_; have GW137 := n4_; have GE137 := n5_; have NB125_137 := n6_; have NB137_125 := n7_; clear n0_ n1_ n2_ n3_ n4_ n5_ n6_ n7_; clear hb hbox hg; have hnb32 := NB137_125.out; have hnc32 := NB125_137.out; have hcz33_0 : w31.cell? ⟨gb137, 0, none⟩ = some (.string (⟨#[]⟩ : ByteArray)) := (blk_cell BK137.out 0).trans rfl; have hcz33_1 : w31.cell? ⟨gb137, 1, none⟩ = some (.string (⟨#[]⟩ : ByteArray)) := (blk_cell BK137.out 1).trans rfl; have hcz33_2 : w31.cell? ⟨gb137, 2, none⟩ = some (.string (⟨#[]⟩ : ByteArray)) := (blk_cell BK137.out 2).trans rfl; have hfz33_0 := blk_frozen BK137.out 0; have hfz33_1 := blk_frozen BK137.out 1; have hfz33_2 := blk_frozen BK137.out 2; have hcz34_0 : w31.cell? ⟨gb125, 0, none⟩ = some (.string ((rd_T30 l0 x13_1).f0)) := (blk_cell BK125.out 0).trans rfl; have hcz34_1 : w31.cell? ⟨gb125, 1, none⟩ = some (.string ((rd_T30 l0 x13_1).f1)) := (blk_cell BK125.out 1).trans rfl; have hcz34_2 : w31.cell? ⟨gb125, 2, none⟩ = some (.string ((rd_T30 l0 x13_1).f2)) := (blk_cell BK125.out 2).trans rfl; have hfz34_0 := blk_frozen BK125.out 0; have hfz34_1 := blk_frozen BK125.out 1; have hfz34_2 := blk_frozen BK125.out 2) | ((with_reducible refine gate_builtin (b := .append) (xs := #[.tmp 51, .tmp 53]) rfl ?_); at_builtin; refine Kd.R_append k30 (w0 := w) w.heap.size rfl (.tmp 51) (.tmp 53) 27 30 (.agg #[(.string ⟨#[]⟩), (.string ⟨#[]⟩), (.string ⟨#[]⟩)]) 48 rfl Tryd.underlying27 info30 rfl (by decide) (by omega) u3 x3_3 (⟨(rd_T30 y132 x39_3).f0, (rd_T30 y132 x39_3).f1, (rd_T30 y132 x39_3).f2⟩ : S30) [.string ((rd_T30 y132 x39_3).f0), .string ((rd_T30 y132 x39_3).f1), .string ((rd_T30 y132 x39_3).f2)] (fun k_ => k_ ≠ gb125 ∧ k_ ≠ gb137) (fun _ => False) rfl (by first | (go_simp; done) | (go_simp; rfl)) ?aP (fun _ hk => hk.elim) ?aF ?aO ?aB ?aS ?aL ?_; (case aP => exact k30_mkM _ _ _ (⟨(rd_T30 y132 x39_3).f0, (rd_T30 y132 x39_3).f1, (rd_T30 y132 x39_3).f2⟩ : S30)); (case aB => exact (by repeat (first | (with_reducible first | exact HB.out | apply below_alloc | apply pw_below_drewN | apply below_drew1 | refine below_set ?_ GE125.out | refine below_set ?_ GE137.out) | exact HB.out))); (case aF => exact (fun k_ hk => ⟨Kd.freshB (g := gb125) (o := .cells #[.string ((rd_T30 l0 x13_1).f0), .string ((rd_T30 l0 x13_1).f1), .string ((rd_T30 l0 x13_1).f2)] 30 (0, 0)) (by (with_reducible repeat (first | refine blk_drewN ?_ _ | refine blk_drew ?_ | refine blk_alloc ?_ _)); refine blk_far ?_ NB125_137.out _; (with_reducible repeat (first | refine blk_drewN ?_ _ | refine blk_drew ?_ | refine blk_alloc ?_ _)); refine blk_far ?_ NB125_137.out _; (with_reducible repeat (first | refine blk_drewN ?_ _ | refine blk_drew ?_ | refine blk_alloc ?_ _)); refine blk_far ?_ NB125_137.out _; (with_reducible repeat (first | refine blk_drewN ?_ _ | refine blk_drew ?_ | refine blk_alloc ?_ _)); exact BK125.out) k_ hk, Kd.freshB (g := gb137) (o := .cells #[.string ((rd_T30 y132 x39_3).f0), .string ((rd_T30 y132 x39_3).f1), .string ((rd_T30 y132 x39_3).f2)] 30 (0, 0)) (by (with_reducible repeat (first | refine blk_drewN ?_ _ | refine blk_drew ?_ | refine blk_alloc ?_ _)); refine blk_put (cs := #[.string ((rd_T30 y132 x39_3).f0), .string ((rd_T30 y132 x39_3).f1), .string (⟨#[]⟩ : ByteArray)]) ?_ 2 _ rfl; (with_reducible repeat (first | refine blk_drewN ?_ _ | refine blk_drew ?_ | refine blk_alloc ?_ _)); refine blk_put (cs := #[.string ((rd_T30 y132 x39_3).f0), .string (⟨#[]⟩ : ByteArray), .string (⟨#[]⟩ : ByteArray)]) ?_ 1 _ rfl; (with_reducible repeat (first | refine blk_drewN ?_ _ | refine blk_drew ?_ | refine blk_alloc ?_ _)); refine blk_put (cs := #[.string (⟨#[]⟩ : ByteArray), .string (⟨#[]⟩ : ByteArray), .string (⟨#[]⟩ : ByteArray)]) ?_ 0 _ rfl; (with_reducible repeat (first | refine blk_drewN ?_ _ | refine blk_drew ?_ | refine blk_alloc ?_ _)); exact BK137.out) k_ hk⟩)); (case aO => exact (by (with_reducible repeat (first | apply Kd.R_alloc | apply Kd.R_drewN | apply Kd.R_drew)); exact Kd.R_mono (Kd.R_far (p := ⟨gb137, 2, none⟩) (Kd.R_far (p := ⟨gb137, 1, none⟩) (Kd.R_far (p := ⟨gb137, 0, none⟩) (Kd.R_mono HO_3.out (fun k_ hk => (⟨hk, hk.2⟩ : _ ∧ k_ ≠ gb137))) (fun _ hk => hk.2) (.string ((rd_T30 y132 x39_3).f0))) (fun _ hk => hk.2) (.string ((rd_T30 y132 x39_3).f1))) (fun _ hk => hk.2) (.string ((rd_T30 y132 x39_3).f2))) (fun _ hk => ⟨hk.1.1, hk.1.2⟩))); (case aS => exact (below_size (by repeat (first | (with_reducible first | exact HB.out | apply below_alloc | apply pw_below_drewN | apply below_drew1 | refine below_set ?_ GE125.out | refine below_set ?_ GE137.out) | exact HB.out)))); (case aL => have := LMc30.out; omega); intro v139 w35 ho hb hg hat; rw [← Ny138.out] at ho; have n0_ := Aside0.mk (blk_grown (g := gb125) (o := .cells #[.string ((rd_T30 l0 x13_1).f0), .string ((rd_T30 l0 x13_1).f1), .string ((rd_T30 l0 x13_1).f2)] 30 (0, 0)) (by (with_reducible repeat (first | refine blk_drewN ?_ _ | refine blk_drew ?_ | refine blk_alloc ?_ _)); refine blk_far ?_ NB125_137.out _; (with_reducible repeat (first | refine blk_drewN ?_ _ | refine blk_drew ?_ | refine blk_alloc ?_ _)); refine blk_far ?_ NB125_137.out _; (with_reducible repeat (first | refine blk_drewN ?_ _ | refine blk_drew ?_ | refine blk_alloc ?_ _)); refine blk_far ?_ NB125_137.out _; (with_reducible repeat (first | refine blk_drewN ?_ _ | refine blk_drew ?_ | refine blk_alloc ?_ _)); exact BK125.out) hg (Kd.R_away HO_3.out (fun _ hk => hk.1))); have n1_ := Aside0.mk (blk_grown (g := gb137) (o := .cells #[.string ((rd_T30 y132 x39_3).f0), .string ((rd_T30 y132 x39_3).f1), .string ((rd_T30 y132 x39_3).f2)] 30 (0, 0)) (by (with_reducible repeat (first | refine blk_drewN ?_ _ | refine blk_drew ?_ | refine blk_alloc ?_ _)); refine blk_put (cs := #[.string ((rd_T30 y132 x39_3).f0), .string ((rd_T30 y132 x39_3).f1), .string (⟨#[]⟩ : ByteArray)]) ?_ 2 _ rfl; (with_reducible repeat (first | refine blk_drewN ?_ _ | refine blk_drew ?_ | refine blk_alloc ?_ _)); refine blk_put (cs := #[.string ((rd_T30 y132 x39_3).f0), .string (⟨#[]⟩ : ByteArray), .string (⟨#[]⟩ : ByteArray)]) ?_ 1 _ rfl; (with_reducible repeat (first | refine blk_drewN ?_ _ | refine blk_drew ?_ | refine blk_alloc ?_ _)); refine blk_put (cs := #[.string (⟨#[]⟩ : ByteArray), .string (⟨#[]⟩ : ByteArray), .string (⟨#[]⟩ : ByteArray)]) ?_ 0 _ rfl; (with_reducible repeat (first | refine blk_drewN ?_ _ | refine blk_drew ?_ | refine blk_alloc ?_ _)); exact BK137.out) hg (Kd.R_away HO_3.out (fun _ hk => hk.2))); have n2_ := Aside0.mk (hb); have n3_ := Aside0.mk (ho); clear BK125; clear BK137; clear HB; clear HO_3; have BK125 := n0_; have BK137 := n1_; have HB := n2_; have HO140 := n3_; clear n0_ n1_ n2_ n3_; clear ho hb hg hat))
                    go_roundg k3
                    case measure => have := HK1.out; have := HK2.out; have := HK3.out; omega
                    case rel => exact ⟨(y138), (wrap64 (x39_3 + 1)), (by first | rfl | (simp; done) | (simp [*]; done)), H', ⟨by have := HK1.out; have := HK2.out; have := HK3.out; omega⟩, ⟨by (with_reducible repeat (first | apply Kd.R_alloc | apply Kd.R_drewN | apply Kd.R_drew)); exact Kd.R_mono HO140.out (fun _ hk => hk.1)⟩, ⟨by (with_reducible repeat (first | refine blk_drewN ?_ _ | refine blk_drew ?_ | refine blk_alloc ?_ _)); exact BK125.out⟩, ⟨by repeat (first | (with_reducible first | exact HB.out | apply below_alloc | apply pw_below_drewN | apply below_drew1 | refine below_set ?_ GE125.out | refine below_set ?_ GE137.out) | exact HB.out)⟩⟩
                   ·rw [if_neg c30] at H
                    exact absurd H (by simp)
                  ·rw [if_neg c29] at H
                   have c29b0 : (((rd_T30 y132 x39_3).f0).toList == ((rd_T30 l0 x13_1).f0).toList) = false := beq_eq_false_iff_ne.mpr c29
                   have c29b1 : (((rd_T30 y132 x39_3).f0).toList != ((rd_T30 l0 x13_1).f0).toList) = true := bne_iff_ne.mpr c29
                   have H' := Aside0.mk H
                   clear H
                   have p136 : 0 ≤ (x39_3 : Int) := of_decide_eq_true (by first | (with_reducible assumption) | assumption)
                   have q136 : x39_3 < (y132.length : Int) := of_decide_eq_true (by first | (with_reducible assumption) | assumption)
                   obtain ⟨ad136, e136, hx136_0, hx136_1, hx136_2⟩ := at_T30 HR135.out x39_3 p136 q136
                   cases e136
                   replace hx136_0 := (HB.out.cell (World.block_lt_of_cell? w _ hx136_0)).trans hx136_0
                   replace hx136_1 := (HB.out.cell (World.block_lt_of_cell? w _ hx136_1)).trans hx136_1
                   replace hx136_2 := (HB.out.cell (World.block_lt_of_cell? w _ hx136_2)).trans hx136_2
                   replace p136 := eq_true p136
                   replace q136 := eq_true q136
                   go_wp2_with (first | ((with_reducible refine gate_dst (N := 10) rfl ?_); refine box_event ?hg (N := 10) ?hd (cs := #[.string (⟨#[]⟩ : ByteArray), .string (⟨#[]⟩ : ByteArray), .string (⟨#[]⟩ : ByteArray)]) (t := 30) ?hr ?_; (case hd => rfl); (case hg => rfl); (case hr => first | (go_simp; done) | (go_simp; rfl)); intro gb137 hg w36 hbox hb; have n0_ := Aside0.mk (Kd.R_below (Kd.R_elderB (by (with_reducible repeat (first | apply Kd.R_alloc | apply Kd.R_drewN | apply Kd.R_drew)); exact HO_3.out) gb137 (Nat.le_of_eq hg.symm)) hb); have n1_ := Aside0.mk (blk_below (g := gb125) (o := .cells #[.string ((rd_T30 l0 x13_1).f0), .string ((rd_T30 l0 x13_1).f1), .string ((rd_T30 l0 x13_1).f2)] 30 (0, 0)) (by (with_reducible repeat (first | refine blk_drewN ?_ _ | refine blk_drew ?_ | refine blk_alloc ?_ _)); exact BK125.out) hb); have n2_ := Aside0.mk (below_step (by repeat (first | (with_reducible first | exact HB.out | apply below_alloc | apply pw_below_drewN | apply below_drew1 | refine below_set ?_ GE125.out) | exact HB.out)) hb); have n3_ := Aside0.mk (hbox); have n4_ := Aside0.mk ((by rw [hg]; exact (below_size (by repeat (first | (with_reducible first | exact HB.out | apply below_alloc | apply pw_below_drewN | apply below_drew1 | refine below_set ?_ GE125.out) | exact HB.out))) : w.heap.size ≤ gb137)); have n5_ := Aside0.mk ((by rw [hg]; exact (below_size (by repeat (first | (with_reducible first | exact HB.out | apply below_alloc | apply pw_below_drewN | apply below_drew1 | refine below_set ?_ GE125.out) | exact HB.out))) : w.heap.size ≤ gb137)); have n6_ := Aside0.mk ((by rw [hg]; exact Nat.ne_of_lt (blk_lt (g := gb125) (o := .cells #[.string ((rd_T30 l0 x13_1).f0), .string ((rd_T30 l0 x13_1).f1), .string ((rd_T30 l0 x13_1).f2)] 30 (0, 0)) (by (with_reducible repeat (first | refine blk_drewN ?_ _ | refine blk_drew ?_ | refine blk_alloc ?_ _)); exact BK125.out)) : gb125 ≠ gb137)); have n7_ := Aside0.mk ((by rw [hg]; exact Nat.ne_of_gt (blk_lt (g := gb125) (o := .cells #[.string ((rd_T30 l0 x13_1).f0), .string ((rd_T30 l0 x13_1).f1), .string ((rd_T30 l0 x13_1).f2)] 30 (0, 0)) (by (with_reducible repeat (first | refine blk_drewN ?_ _ | refine blk_drew ?_ | refine blk_alloc ?_ _)); exact BK125.out)) : gb137 ≠ gb125)); clear HO_3; clear BK125; clear HB; have HO_3 := n0_; have BK125 := n1_; have HB := n2_; have BK137 := n3_; have GW137 := n4_; have GE137 := n5_; have NB125_137 := n6_; have NB137_125 := n7_; clear n0_ n1_ n2_ n3_ n4_ n5_ n6_ n7_; clear hb hbox hg; have hnb37 := NB137_125.out; have hnc37 := NB125_137.out; have hcz38_0 : w36.cell? ⟨gb137, 0, none⟩ = some (.string (⟨#[]⟩ : ByteArray)) := (blk_cell BK137.out 0).trans rfl; have hcz38_1 : w36.cell? ⟨gb137, 1, none⟩ = some (.string (⟨#[]⟩ : ByteArray)) := (blk_cell BK137.out 1).trans rfl; have hcz38_2 : w36.cell? ⟨gb137, 2, none⟩ = some (.string (⟨#[]⟩ : ByteArray)) := (blk_cell BK137.out 2).trans rfl; have hfz38_0 := blk_frozen BK137.out 0; have hfz38_1 := blk_frozen BK137.out 1; have hfz38_2 := blk_frozen BK137.out 2; have hcz39_0 : w36.cell? ⟨gb125, 0, none⟩ = some (.string ((rd_T30 l0 x13_1).f0)) := (blk_cell BK125.out 0).trans rfl; have hcz39_1 : w36.cell? ⟨gb125, 1, none⟩ = some (.string ((rd_T30 l0 x13_1).f1)) := (blk_cell BK125.out 1).trans rfl; have hcz39_2 : w36.cell? ⟨gb125, 2, none⟩ = some (.string ((rd_T30 l0 x13_1).f2)) := (blk_cell BK125.out 2).trans rfl; have hfz39_0 := blk_frozen BK125.out 0; have hfz39_1 := blk_frozen BK125.out 1; have hfz39_2 := blk_frozen BK125.out 2))
                   go_roundg k3
                   case measure => have := HK1.out; have := HK2.out; have := HK3.out; omega
                   case rel => exact ⟨(x3_3), (wrap64 (x39_3 + 1)), (by first | rfl | (simp; done) | (simp [*]; done)), H', ⟨by have := HK1.out; have := HK2.out; have := HK3.out; omega⟩, ⟨by (with_reducible repeat (first | apply Kd.R_alloc | apply Kd.R_drewN | apply Kd.R_drew)); exact Kd.R_mono (Kd.R_far (p := ⟨gb137, 2, none⟩) (Kd.R_far (p := ⟨gb137, 1, none⟩) (Kd.R_far (p := ⟨gb137, 0, none⟩) (Kd.R_mono HO_3.out (fun k_ hk => (⟨hk, hk.2⟩ : _ ∧ k_ ≠ gb137))) (fun _ hk => hk.2) (.string ((rd_T30 y132 x39_3).f0))) (fun _ hk => hk.2) (.string ((rd_T30 y132 x39_3).f1))) (fun _ hk => hk.2) (.string ((rd_T30 y132 x39_3).f2))) (fun _ hk => hk.1.1)⟩, ⟨by (with_reducible repeat (first | refine blk_drewN ?_ _ | refine blk_drew ?_ | refine blk_alloc ?_ _)); refine blk_far ?_ NB125_137.out _; (with_reducible repeat (first | refine blk_drewN ?_ _ | refine blk_drew ?_ | refine blk_alloc ?_ _)); refine blk_far ?_ NB125_137.out _; (with_reducible repeat (first | refine blk_drewN ?_ _ | refine blk_drew ?_ | refine blk_alloc ?_ _)); refine blk_far ?_ NB125_137.out _; (with_reducible repeat (first | refine blk_drewN ?_ _ | refine blk_drew ?_ | refine blk_alloc ?_ _)); exact BK125.out⟩, ⟨by repeat (first | (with_reducible first | exact HB.out | apply below_alloc | apply pw_below_drewN | apply below_drew1 | refine below_set ?_ GE125.out | refine below_set ?_ GE137.out) | exact HB.out)⟩⟩
                 ·replace c28 := Bool.eq_false_iff.mpr c28
                  subst c28
                  have H1 : (laws_grouped.l2 k3 l0 x3_3 false l0 (l0.length : Int) x13_1 y132 (y132.length : Int) (wrap64 (x39_3 + 1)) ((rd_T30 l0 x13_1).f0) ((rd_T30 l0 x13_1).f1) ((rd_T30 l0 x13_1).f2)) = some r := by rw [if_neg (show ¬ (false = true) by decide)] at H; exact H
                  clear H
                  have H := H1
                  clear H1
                  have H' := Aside0.mk H
                  clear H
                  have p136 : 0 ≤ (x39_3 : Int) := of_decide_eq_true (by first | (with_reducible assumption) | assumption)
                  have q136 : x39_3 < (y132.length : Int) := of_decide_eq_true (by first | (with_reducible assumption) | assumption)
                  obtain ⟨ad136, e136, hx136_0, hx136_1, hx136_2⟩ := at_T30 HR135.out x39_3 p136 q136
                  cases e136
                  replace hx136_0 := (HB.out.cell (World.block_lt_of_cell? w _ hx136_0)).trans hx136_0
                  replace hx136_1 := (HB.out.cell (World.block_lt_of_cell? w _ hx136_1)).trans hx136_1
                  replace hx136_2 := (HB.out.cell (World.block_lt_of_cell? w _ hx136_2)).trans hx136_2
                  replace p136 := eq_true p136
                  replace q136 := eq_true q136
                  go_wp2_with (first | ((with_reducible refine gate_dst (N := 10) rfl ?_); refine box_event ?hg (N := 10) ?hd (cs := #[.string (⟨#[]⟩ : ByteArray), .string (⟨#[]⟩ : ByteArray), .string (⟨#[]⟩ : ByteArray)]) (t := 30) ?hr ?_; (case hd => rfl); (case hg => rfl); (case hr => first | (go_simp; done) | (go_simp; rfl)); intro gb137 hg w40 hbox hb; have n0_ := Aside0.mk (Kd.R_below (Kd.R_elderB (by (with_reducible repeat (first | apply Kd.R_alloc | apply Kd.R_drewN | apply Kd.R_drew)); exact HO_3.out) gb137 (Nat.le_of_eq hg.symm)) hb); have n1_ := Aside0.mk (blk_below (g := gb125) (o := .cells #[.string ((rd_T30 l0 x13_1).f0), .string ((rd_T30 l0 x13_1).f1), .string ((rd_T30 l0 x13_1).f2)] 30 (0, 0)) (by (with_reducible repeat (first | refine blk_drewN ?_ _ | refine blk_drew ?_ | refine blk_alloc ?_ _)); exact BK125.out) hb); have n2_ := Aside0.mk (below_step (by repeat (first | (with_reducible first | exact HB.out | apply below_alloc | apply pw_below_drewN | apply below_drew1 | refine below_set ?_ GE125.out) | exact HB.out)) hb); have n3_ := Aside0.mk (hbox); have n4_ := Aside0.mk ((by rw [hg]; exact (below_size (by repeat (first | (with_reducible first | exact HB.out | apply below_alloc | apply pw_below_drewN | apply below_drew1 | refine below_set ?_ GE125.out) | exact HB.out))) : w.heap.size ≤ gb137)); have n5_ := Aside0.mk ((by rw [hg]; exact (below_size (by repeat (first | (with_reducible first | exact HB.out | apply below_alloc | apply pw_below_drewN | apply below_drew1 | refine below_set ?_ GE125.out) | exact HB.out))) : w.heap.size ≤ gb137)); have n6_ := Aside0.mk ((by rw [hg]; exact Nat.ne_of_lt (blk_lt (g := gb125) (o := .cells #[.string ((rd_T30 l0 x13_1).f0), .string ((rd_T30 l0 x13_1).f1), .string ((rd_T30 l0 x13_1).f2)] 30 (0, 0)) (by (with_reducible repeat (first | refine blk_drewN ?_ _ | refine blk_drew ?_ | refine blk_alloc ?_ _)); exact BK125.out)) : gb125 ≠ gb137)); have n7_ := Aside0.mk ((by rw [hg]; exact Nat.ne_of_gt (blk_lt (g := gb125) (o := .cells #[.string ((rd_T30 l0 x13_1).f0), .string ((rd_T30 l0 x13_1).f1), .string ((rd_T30 l0 x13_1).f2)] 30 (0, 0)) (by (with_reducible repeat (first | refine blk_drewN ?_ _ | refine blk_drew ?_ | refine blk_alloc ?_ _)); exact BK125.out)) : gb137 ≠ gb125)); clear HO_3; clear BK125; clear HB; have HO_3 := n0_; have BK125 := n1_; have HB := n2_; have BK137 := n3_; have GW137 := n4_; have GE137 := n5_; have NB125_137 := n6_; have NB137_125 := n7_; clear n0_ n1_ n2_ n3_ n4_ n5_ n6_ n7_; clear hb hbox hg; have hnb41 := NB137_125.out; have hnc41 := NB125_137.out; have hcz42_0 : w40.cell? ⟨gb137, 0, none⟩ = some (.string (⟨#[]⟩ : ByteArray)) := (blk_cell BK137.out 0).trans rfl; have hcz42_1 : w40.cell? ⟨gb137, 1, none⟩ = some (.string (⟨#[]⟩ : ByteArray)) := (blk_cell BK137.out 1).trans rfl; have hcz42_2 : w40.cell? ⟨gb137, 2, none⟩ = some (.string (⟨#[]⟩ : ByteArray)) := (blk_cell BK137.out 2).trans rfl; have hfz42_0 := blk_frozen BK137.out 0; have hfz42_1 := blk_frozen BK137.out 1; have hfz42_2 := blk_frozen BK137.out 2))
                  go_roundg k3
                  case measure => have := HK1.out; have := HK2.out; have := HK3.out; omega
                  case rel => exact ⟨(x3_3), (wrap64 (x39_3 + 1)), (by first | rfl | (simp; done) | (simp [*]; done)), H', ⟨by have := HK1.out; have := HK2.out; have := HK3.out; omega⟩, ⟨by (with_reducible repeat (first | apply Kd.R_alloc | apply Kd.R_drewN | apply Kd.R_drew)); exact Kd.R_mono (Kd.R_far (p := ⟨gb137, 2, none⟩) (Kd.R_far (p := ⟨gb137, 1, none⟩) (Kd.R_far (p := ⟨gb137, 0, none⟩) (Kd.R_mono HO_3.out (fun k_ hk => (⟨hk, hk.2⟩ : _ ∧ k_ ≠ gb137))) (fun _ hk => hk.2) (.string ((rd_T30 y132 x39_3).f0))) (fun _ hk => hk.2) (.string ((rd_T30 y132 x39_3).f1))) (fun _ hk => hk.2) (.string ((rd_T30 y132 x39_3).f2))) (fun _ hk => hk.1.1)⟩, ⟨by (with_reducible repeat (first | refine blk_drewN ?_ _ | refine blk_drew ?_ | refine blk_alloc ?_ _)); refine blk_far ?_ NB125_137.out _; (with_reducible repeat (first | refine blk_drewN ?_ _ | refine blk_drew ?_ | refine blk_alloc ?_ _)); refine blk_far ?_ NB125_137.out _; (with_reducible repeat (first | refine blk_drewN ?_ _ | refine blk_drew ?_ | refine blk_alloc ?_ _)); refine blk_far ?_ NB125_137.out _; (with_reducible repeat (first | refine blk_drewN ?_ _ | refine blk_drew ?_ | refine blk_alloc ?_ _)); exact BK125.out⟩, ⟨by repeat (first | (with_reducible first | exact HB.out | apply below_alloc | apply pw_below_drewN | apply below_drew1 | refine below_set ?_ GE125.out | refine below_set ?_ GE137.out) | exact HB.out)⟩⟩
                ·rw [if_neg c27] at H
                 exact absurd H (by simp)
               ·rw [if_neg c26] at H
                exact absurd H (by simp)
              ·rw [if_neg c25] at H
               have c25b0 : decide (x39_3 < (y132.length : Int)) = false := decide_eq_false c25
               clear c25
               have H' := Aside0.mk H
               clear H
               go_wp2
               go_roundg k3
               case measure => have := HK1.out; have := HK2.out; have := HK3.out; omega
               case rel => exact ⟨(x3_3), (wrap64 (x13_1 + 1)), (by first | rfl | (simp; done) | (simp [*]; done)), H', ⟨by have := HK1.out; have := HK2.out; have := HK3.out; omega⟩, ⟨by (with_reducible repeat (first | apply Kd.R_alloc | apply Kd.R_drewN | apply Kd.R_drew)); exact Kd.R_mono HO_3.out (fun _ hk => trivial)⟩, ⟨by repeat (first | (with_reducible first | exact HB.out | apply below_alloc | apply pw_below_drewN | apply below_drew1 | refine below_set ?_ GE125.out) | exact HB.out)⟩⟩
           ·rw [if_neg c23] at H
            exact absurd H (by simp)
          ·rw [if_neg c22] at H
           exact absurd H (by simp)
      ·rw [if_neg c6] at H
       exact absurd H (by simp)
     ·rw [if_neg c4] at H
      exact absurd H (by simp)
    ·rw [if_neg c3] at H
     exact absurd H (by simp)
   ·rw [if_neg c2] at H
    have c2b0 : decide (x13_1 < (l0.length : Int)) = false := decide_eq_false c2
    clear c2
    obtain rfl := Option.some.inj H
    go_wp2
    go_ret
    exact ⟨_, by first | rfl | (simp [errW_none, errW_some] <;> rfl) | (simp [*, errW_none, errW_some] <;> rfl), by (with_reducible repeat (first | apply Kd.R_alloc | apply Kd.R_drewN | apply Kd.R_drew)); exact HO_3.out, by repeat (first | (with_reducible first | exact HB.out | apply below_alloc | apply pw_below_drewN | apply below_drew1) | exact HB.out)⟩
end Go.Proofs.YtgnfapnnbcafbaaDoor.GUL
end
section
/- Plain facts: plainOptions, sameOptions, grouped: what they tell. Conditions: lists of at most 2^31 options, grouped's of at most a million. -/
namespace Go.Proofs.YtgnfapnnbcafbaaDoor.GUL
open Go Go.RowKit Go.Proofs.YtgnfapnnbcafbaaDoorW.PrintWords Go.Proofs.YtgnfapnnbcafbaaDoorW Go.Proofs.YtgnfapnnbcafbaaDoorW.PrintLast Go.Proofs.YtgnfapnnbcafbaaDoor.UN
set_option linter.unusedVariables false
set_option linter.unusedSimpArgs false
theorem toList_dl (b : ByteArray) : b.toList = b.data.toList := by
 have := sB_list b.data.toList
 rwa [sB_toList] at this
theorem fit_len {x : S30} (h : Fit30 x) : (toO x).s.length ≤ 2147483647 ∧ (toO x).n.length ≤ 2147483647 ∧ (toO x).v.length ≤ 2147483647 := by
 have e : ∀ b : ByteArray, b.data.toList.length = b.size := fun b => Array.length_toList
 simp only [toO, e]
 exact ⟨h.a, h.b, h.c⟩
theorem plainO_is (x : S30) (h : Fit30 x) : Tells (fun k => laws_plainOption.f k x.f0 x.f1 x.f2) (Plain (toO x).s (toO x).n (toO x).v) := by
 have h1 := plain_is (toO x).s (toO x).n (toO x).v (fit_len h).1 (fit_len h).2.1 (fit_len h).2.2
 simp only [toO, sB_toList] at h1
 exact h1
theorem plains_is (l : List S30) (hl : l.length ≤ 2147483647) (hf : ∀ x ∈ l, Fit30 x) : Tells (fun k => laws_plainOptions.f k l) (l.length ≤ 200 ∧ ∀ x ∈ l, Plain (toO x).s (toO x).n (toO x).v) := by
 have go : ∀ (d i : Nat), i + d = l.length → Tells (fun k => laws_plainOptions.l0 k l l (l.length : Int) (i : Int)) (l.length ≤ 200 ∧ ∀ x ∈ l.drop i, Plain (toO x).s (toO x).n (toO x).v) := by
  intro d
  induction d with
  | zero =>
   intro i hi
   refine Tells.step (f := fun _ => some (decide ((l.length : Int) ≤ 200))) (fun k => ?_) ⟨_, Ev.now _, fun h => ⟨by have := of_decide_eq_true h; omega, fun x hx => ?_⟩⟩
   ·simp only [laws_plainOptions.l0]
    rw [if_neg (by omega)]
   ·rw [List.drop_eq_nil_of_le (by omega)] at hx
    cases hx
  | succ d ih =>
   intro i hi
   have hil : i < l.length := by omega
   refine Tells.step (f := fun k => (laws_plainOption.f k l[i].f0 l[i].f1 l[i].f2).bind fun t => if t = true then laws_plainOptions.l0 k l l (l.length : Int) ((i + 1 : Nat) : Int) else some false) (fun k => ?_) ?_
   ·simp only [laws_plainOptions.l0]
    rw [if_pos (by omega), if_pos (by omega), if_pos (by omega), rd30_at l i hil, wr1 i (by omega)]
   ·refine Tells.bind (plainO_is l[i] (hf _ (List.getElem_mem hil))) fun h1 => Tells.mono (ih (i + 1) (by omega)) fun ⟨h2, h3⟩ => ⟨h2, fun x hx => ?_⟩
    rw [List.drop_eq_getElem_cons hil] at hx
    rcases List.mem_cons.1 hx with rfl | hx
    ·exact h1
    ·exact h3 x hx
 exact Tells.mono (go l.length 0 (by omega)) fun h => h
theorem same_self (l : List S30) (hl : l.length ≤ 2147483647) : Ev (fun k => laws_sameOptions.f k l l) true := by
 refine Ev.congr (f := fun k => laws_sameOptions.l0 k l l (l.length : Int) ((0 : Nat) : Int)) (fun k => by simp only [laws_sameOptions.f]; rw [if_pos trivial]; rfl) ?_
 have go : ∀ (d i : Nat), i + d = l.length → Ev (fun k => laws_sameOptions.l0 k l l (l.length : Int) (i : Int)) true := by
  intro d
  induction d with
  | zero =>
   intro i hi
   refine Ev.step (f := fun _ => some true) (fun k => ?_) (Ev.now _)
   simp only [laws_sameOptions.l0]
   rw [if_neg (by omega)]
  | succ d ih =>
   intro i hi
   refine Ev.step (f := fun k => laws_sameOptions.l0 k l l (l.length : Int) ((i + 1 : Nat) : Int)) (fun k => ?_) (ih (i + 1) (by omega))
   simp only [laws_sameOptions.l0]
   rw [if_pos (by omega), if_pos (by omega), if_pos (by omega), if_pos (by omega), wr1 i (by omega)]
   simp
 exact go l.length 0 (by omega)
theorem secs_len (l : List O) : (secs l).length ≤ l.length := by
 have k2 : ∀ (l : List O) (S : List Bs), (l.foldl (fun S o => addS S o.s) S).length ≤ S.length + l.length := by
  intro l
  induction l with
  | nil => intro S; exact Nat.le_refl _
  | cons o l ih =>
   intro S
   rw [List.foldl_cons]
   have h1 := ih (addS S o.s)
   have h2 : (addS S o.s).length ≤ S.length + 1 := by
    unfold addS
    split
    ·omega
    ·simp
   simp only [List.length_cons]
   omega
 have h9 := k2 l []
 rw [List.length_nil, Nat.zero_add] at h9
 exact h9
theorem upto_len (l : List O) (i : Nat) (hl : l.length ≤ 1000000) (hi : i ≤ 1000000) : (groupedUpto l i).length ≤ 1000000 * 1000000 := by
 unfold groupedUpto
 have k1 : ∀ S : List Bs, (S.flatMap fun a => l.filter fun o => o.s == a).length ≤ S.length * 1000000 := by
  intro S
  induction S with
  | nil => simp
  | cons a S ih =>
   rw [List.flatMap_cons, List.length_append, List.length_cons]
   have := List.length_filter_le (fun o => o.s == a) l
   omega
 have h1 := k1 (secs (l.take i))
 have h2 := secs_len (l.take i)
 rw [List.length_take] at h2
 have h3 : (secs (l.take i)).length * 1000000 ≤ 1000000 * 1000000 := Nat.mul_le_mul_right _ (by omega)
 exact Nat.le_trans h1 h3
section
variable (l : List S30)
theorem grp2 (F : Bool) (i : Nat) (hi : i < l.length) (o : S30) (zs : List S30) (hz : zs.length ≤ l.length) (r : List S30) (hl : l.length ≤ 1000000) : ∀ (d j : Nat) (out : List S30), j + d = zs.length → out.length ≤ 1000000 * 1000000 + j →
  Ev (fun k => laws_grouped.l0 k l (out ++ (if F = true then (zs.drop j).filter (fun x => x.f0.toList == o.f0.toList) else [])) l (l.length : Int) ((i + 1 : Nat) : Int)) r →
  Ev (fun k => laws_grouped.l2 k l out F l (l.length : Int) (i : Int) zs (zs.length : Int) (j : Int) o.f0 o.f1 o.f2) r
 | 0, j, out, hj, ho, h => by
  refine Ev.step (fun k => ?_) h
  simp only [laws_grouped.l2]
  rw [if_neg (by omega), wr1 i (by omega), List.drop_eq_nil_of_le (by omega)]
  simp
 | d + 1, j, out, hj, ho, h => by
  have hjl : j < zs.length := by omega
  rw [List.drop_eq_getElem_cons hjl] at h
  cases F with
  | false =>
   simp only [Bool.false_eq_true, if_false] at h
   refine Ev.step (f := fun k => laws_grouped.l2 k l out false l (l.length : Int) (i : Int) zs (zs.length : Int) ((j + 1 : Nat) : Int) o.f0 o.f1 o.f2) (fun k => ?_) (grp2 false i hi o zs hz r hl d (j + 1) out (by omega) (by omega) (by simp only [Bool.false_eq_true, if_false]; exact h))
   simp only [laws_grouped.l2]
   rw [if_pos (by omega), if_pos (by omega), if_pos (by omega), if_neg (by simp), wr1 j (by omega)]
  | true =>
   simp only [if_true] at h
   by_cases he : zs[j].f0.toList = o.f0.toList
   ·have hb : (zs[j].f0.toList == o.f0.toList) = true := beq_iff_eq.mpr he
    rw [List.filter_cons_of_pos (by exact hb)] at h
    refine Ev.step (f := fun k => laws_grouped.l2 k l (out ++ [zs[j]]) true l (l.length : Int) (i : Int) zs (zs.length : Int) ((j + 1 : Nat) : Int) o.f0 o.f1 o.f2) (fun k => ?_) (grp2 true i hi o zs hz r hl d (j + 1) (out ++ [zs[j]]) (by omega) (by rw [List.length_append]; simp; omega) (by simp only [if_true]; rw [List.append_assoc]; exact h))
    simp only [laws_grouped.l2]
    rw [if_pos (by omega), if_pos (by omega), if_pos (by omega), if_pos trivial, rd30_at zs j hjl, if_pos he, if_pos (by omega), wr1 j (by omega)]
   ·have hb : ¬ (zs[j].f0.toList == o.f0.toList) = true := fun e => he (beq_iff_eq.mp e)
    rw [List.filter_cons_of_neg (by exact hb)] at h
    refine Ev.step (f := fun k => laws_grouped.l2 k l out true l (l.length : Int) (i : Int) zs (zs.length : Int) ((j + 1 : Nat) : Int) o.f0 o.f1 o.f2) (fun k => ?_) (grp2 true i hi o zs hz r hl d (j + 1) out (by omega) (by omega) (by simp only [if_true]; exact h))
    simp only [laws_grouped.l2]
    rw [if_pos (by omega), if_pos (by omega), if_pos (by omega), if_pos trivial, rd30_at zs j hjl, if_neg he, wr1 j (by omega)]
theorem grp1 (i : Nat) (hi : i < l.length) (o : S30) (out ys : List S30) (hy : ys.length ≤ l.length) (r : List S30) (hl : l.length ≤ 1000000) : ∀ (d j : Nat) (F : Bool), j + d = ys.length →
  Ev (fun k => laws_grouped.l2 k l out (F && (ys.drop j).all fun x => x.f0.toList != o.f0.toList) l (l.length : Int) (i : Int) (l.drop i) ((l.drop i).length : Int) ((0 : Nat) : Int) o.f0 o.f1 o.f2) r →
  Ev (fun k => laws_grouped.l1 k l out (i : Int) F l (l.length : Int) (i : Int) ys (ys.length : Int) (j : Int) o.f0 o.f1 o.f2) r
 | 0, j, F, hj, h => by
  refine Ev.step (fun k => ?_) h
  simp only [laws_grouped.l1]
  rw [if_neg (by omega), if_pos (by omega), if_pos (by omega), List.drop_eq_nil_of_le (show ys.length ≤ j by omega)]
  simp
 | d + 1, j, F, hj, h => by
  have hjl : j < ys.length := by omega
  rw [List.drop_eq_getElem_cons hjl] at h
  cases F with
  | false =>
   refine Ev.step (f := fun k => laws_grouped.l1 k l out (i : Int) false l (l.length : Int) (i : Int) ys (ys.length : Int) ((j + 1 : Nat) : Int) o.f0 o.f1 o.f2) (fun k => ?_) (grp1 i hi o out ys hy r hl d (j + 1) false (by omega) (by simpa using h))
   simp only [laws_grouped.l1]
   rw [if_pos (by omega), if_pos (by omega), if_pos (by omega), if_neg (by simp), wr1 j (by omega)]
  | true =>
   refine Ev.step (f := fun k => laws_grouped.l1 k l out (i : Int) (ys[j].f0.toList != o.f0.toList) l (l.length : Int) (i : Int) ys (ys.length : Int) ((j + 1 : Nat) : Int) o.f0 o.f1 o.f2) (fun k => ?_) (grp1 i hi o out ys hy r hl d (j + 1) (ys[j].f0.toList != o.f0.toList) (by omega) (by rw [List.all_cons, Bool.true_and] at h; exact h))
   simp only [laws_grouped.l1]
   rw [if_pos (by omega), if_pos (by omega), if_pos (by omega), if_pos trivial, rd30_at ys j hjl, wr1 j (by omega)]
theorem grp0 (r : List S30) (hl : l.length ≤ 1000000) : ∀ (d i : Nat), i + d = l.length → r = (groupedL (l.map toO)).map toS →
  Ev (fun k => laws_grouped.l0 k l ((groupedUpto (l.map toO) i).map toS) l (l.length : Int) (i : Int)) r
 | 0, i, hi, hr => by
  refine Ev.step (f := fun _ => some ((groupedUpto (l.map toO) i).map toS)) (fun k => ?_) ?_
  ·simp only [laws_grouped.l0]
   rw [if_neg (by omega)]
  ·have e : groupedUpto (l.map toO) i = groupedL (l.map toO) := by
    rw [← groupedUpto_all, List.length_map]
    congr 1
   rw [e, ← hr]
   exact Ev.now _
 | d + 1, i, hi, hr => by
  have hil : i < l.length := by omega
  have ih := grp0 r hl d (i + 1) (by omega) hr
  have hilo : i < (l.map toO).length := by rw [List.length_map]; exact hil
  have hub : ((groupedUpto (l.map toO) i).map toS).length ≤ 1000000 * 1000000 := by
   rw [List.length_map]
   exact upto_len _ _ (by rw [List.length_map]; exact hl) (by omega)
  have hstep := groupedUpto_step (l.map toO) i hilo
  have e1 : (l.map toO)[i] = toO l[i] := List.getElem_map ..
  rw [e1] at hstep
  have e2 : (groupedUpto (l.map toO) (i + 1)).map toS = (groupedUpto (l.map toO) i).map toS ++ (if (true && (l.take i).all fun x => x.f0.toList != l[i].f0.toList) = true then ((l.drop i).drop 0).filter (fun x => x.f0.toList == l[i].f0.toList) else []) := by
   rw [hstep, List.map_append]
   congr 1
   rw [Bool.true_and, List.drop_zero]
   by_cases hx : ∃ x ∈ (l.map toO).take i, x.s = (toO l[i]).s
   ·have hno : ¬ ((l.take i).all fun x => x.f0.toList != l[i].f0.toList) = true := by
     intro ha
     obtain ⟨x, hm, he⟩ := hx
     rw [← List.map_take] at hm
     obtain ⟨y, hy, rfl⟩ := List.mem_map.1 hm
     have := List.all_eq_true.1 ha y hy
     rw [toList_dl, toList_dl] at this
     simp only [bne_iff_ne] at this
     exact this he
    rw [if_pos hx, if_neg hno]
    rfl
   ·rw [if_neg hx, if_pos]
    ·rw [← List.map_drop, List.filter_map, List.map_map]
     have e3 : (toS ∘ toO) = id := funext fun x => toS_toO x
     rw [e3, List.map_id]
     refine List.filter_congr fun x _ => ?_
     show ((toO x).s == (toO l[i]).s) = _
     rw [toList_dl, toList_dl]
     rfl
    ·refine List.all_eq_true.2 fun y hy => ?_
     rw [toList_dl, toList_dl]
     simp only [bne_iff_ne]
     intro he
     exact hx ⟨toO y, by rw [← List.map_take]; exact List.mem_map.2 ⟨y, hy, rfl⟩, he⟩
  rw [e2] at ih
  refine Ev.step (f := fun k => laws_grouped.l1 k l ((groupedUpto (l.map toO) i).map toS) (i : Int) true l (l.length : Int) (i : Int) (l.take i) ((l.take i).length : Int) ((0 : Nat) : Int) l[i].f0 l[i].f1 l[i].f2) (fun k => ?_) ?_
  ·simp only [laws_grouped.l0]
   rw [if_pos (by omega), if_pos (by omega), if_pos (by omega), if_pos (by omega), rd30_at l i hil]
   rfl
  ·exact grp1 l i hil l[i] _ (l.take i) (by rw [List.length_take]; omega) r hl (l.take i).length 0 true (by omega) (grp2 l _ i hil l[i] (l.drop i) (by rw [List.length_drop]; omega) r hl (l.drop i).length 0 _ (by omega) (by omega) ih)
end
theorem grouped_is (l : List S30) (hl : l.length ≤ 1000000) : Ev (fun k => laws_grouped.f k l) ((groupedL (l.map toO)).map toS) :=
 grp0 l _ hl l.length 0 (by omega) rfl
end Go.Proofs.YtgnfapnnbcafbaaDoor.GUL
end
section
/- Plain facts: what is written of plain options is of ASCII bytes and short; it is read as these options, grouped; reads() says yes. Conditions: what plainOptions says. -/
namespace Go.Proofs.YtgnfapnnbcafbaaDoor.GUL
open Go Go.RowKit Go.Proofs.YtgnfapnnbcafbaaDoorW.PrintWords Go.Proofs.YtgnfapnnbcafbaaDoorW Go.Proofs.YtgnfapnnbcafbaaDoorW.PrintLast Go.Proofs.YtgnfapnnbcafbaaDoor.UN
set_option linter.unusedVariables false
set_option linter.unusedSimpArgs false
theorem reads_yes : laws_reads.f = some true := by decide +kernel
theorem ascii_app (a b : Bs) : ascii (a ++ b) = (ascii a && ascii b) := by simp [ascii]
theorem opt_ascii {o : O} (h : GoodO o) : ascii (optText o) = true := by
 have h1 := seen_ascii h.hn
 have h2 := seen_ascii h.hv
 have e : optText o = o.n ++ ([61] ++ (o.v ++ [10])) := rfl
 rw [e, ascii_app, ascii_app, ascii_app, h1, h2]
 rfl
theorem opts_ascii : ∀ (l : List O), (∀ o ∈ l, GoodO o) → ascii (l.flatMap optText) = true
 | [], _ => rfl
 | o :: l, h => by
  rw [List.flatMap_cons, ascii_app, opt_ascii (h o (by simp)), opts_ascii l (fun x hx => h x (by simp [hx]))]
  rfl
theorem sec_ascii {g : G} (h : GoodG g) : ascii (secText g) = true := by
 have e : secText g = [91] ++ (g.1 ++ ([93, 10] ++ g.2.flatMap optText)) := rfl
 rw [e, ascii_app, ascii_app, ascii_app, seen_ascii h.s.h, opts_ascii g.2 h.o]
 rfl
theorem tail_ascii : ∀ (gs : List G), (∀ g ∈ gs, GoodG g) → ascii (tailText gs) = true
 | [], _ => rfl
 | g :: r, h => by
  have e : tailText (g :: r) = [10] ++ (secText g ++ tailText r) := rfl
  rw [e, ascii_app, ascii_app, sec_ascii (h g (by simp)), tail_ascii r (fun x hx => h x (by simp [hx]))]
  rfl
theorem groups_ascii (gs : List G) (h : ∀ g ∈ gs, GoodG g) : ascii (groupsText gs) = true := by
 cases gs with
 | nil => rfl
 | cons g r =>
  have e : groupsText (g :: r) = secText g ++ tailText r := rfl
  rw [e, ascii_app, sec_ascii (h g (by simp)), tail_ascii r (fun x hx => h x (by simp [hx]))]
  rfl
theorem opts_len : ∀ (l : List O), (∀ o ∈ l, GoodO o) → (l.flatMap optText).length ≤ 802 * l.length
 | [], _ => by simp
 | o :: l, h => by
  have h1 := opts_len l (fun x hx => h x (by simp [hx]))
  have h2 := (h o (by simp)).ln
  have h3 := (h o (by simp)).lv
  have e : (optText o).length = o.n.length + o.v.length + 2 := by simp [optText]; omega
  rw [List.flatMap_cons, List.length_append, List.length_cons, e]
  omega
theorem sec_len {g : G} (h : GoodG g) : (secText g).length ≤ 403 + 802 * g.2.length := by
 have h1 := opts_len g.2 h.o
 have h2 := h.s.l
 have e : (secText g).length = g.1.length + (g.2.flatMap optText).length + 3 := by simp [secText]; omega
 omega
theorem tail_len : ∀ (gs : List G), (∀ g ∈ gs, GoodG g) → (tailText gs).length ≤ 404 * gs.length + 802 * (gs.flatMap (·.2)).length
 | [], _ => by simp [tailText]
 | g :: r, h => by
  have h1 := tail_len r (fun x hx => h x (by simp [hx]))
  have h2 := sec_len (h g (by simp))
  have e : (tailText (g :: r)).length = (secText g).length + (tailText r).length + 1 := by simp [tailText]
  rw [e, List.flatMap_cons, List.length_append, List.length_cons]
  omega
theorem groups_len (gs : List G) (h : ∀ g ∈ gs, GoodG g) : (groupsText gs).length ≤ 404 * gs.length + 802 * (gs.flatMap (·.2)).length := by
 cases gs with
 | nil => simp [groupsText]
 | cons g r =>
  have h1 := tail_len (g :: r) h
  have e : (tailText (g :: r)).length = (groupsText (g :: r)).length + 1 := by simp [tailText, groupsText]
  omega
theorem flat_congr {α β : Type} {f g : α → List β} : ∀ {l : List α}, (∀ a ∈ l, f a = g a) → l.flatMap f = l.flatMap g
 | [], _ => rfl
 | a :: l, h => by rw [List.flatMap_cons, List.flatMap_cons, h a (by simp), flat_congr (fun x hx => h x (by simp [hx]))]
theorem two_len (p : O → Bool) : ∀ l : List O, l.length = (l.filter p).length + (l.filter fun o => !p o).length
 | [] => rfl
 | o :: l => by
  have := two_len p l
  cases h : p o <;> simp [h] <;> omega
theorem filt_len : ∀ (S : List Bs) (l : List O), S.Nodup → (S.flatMap fun a => l.filter fun o => o.s == a).length ≤ l.length
 | [], l, _ => by simp
 | a :: S, l, h => by
  obtain ⟨h1, h2⟩ := List.nodup_cons.1 h
  have ih := filt_len S (l.filter fun o => !(o.s == a)) h2
  have e : (S.flatMap fun b => (l.filter fun o => !(o.s == a)).filter fun o => o.s == b) = S.flatMap fun b => l.filter fun o => o.s == b := by
   refine flat_congr fun b hb => ?_
   rw [List.filter_filter]
   refine List.filter_congr fun o _ => ?_
   by_cases hob : o.s = b
   ·have : ¬ o.s = a := fun e => h1 (by rw [← e, hob]; exact hb)
    simp [hob]
    intro e2
    exact this (hob.trans e2)
   ·simp [hob]
  rw [e] at ih
  rw [List.flatMap_cons, List.length_append]
  have h3 := two_len (fun o => o.s == a) l
  omega
theorem groupedL_len (l : List O) : (groupedL l).length ≤ l.length := by
 have h := filt_len (secs l) l (nodup_secs l)
 unfold groupedL groups
 rw [List.flatMap_map]
 exact h
theorem text_len (l : List O) (hs : ∀ o ∈ l, GoodS o.s) (ho : ∀ o ∈ l, GoodO o) (hl : l.length ≤ 200) : (groupsText (groups l)).length ≤ 241200 := by
 have h1 := groups_len (groups l) (groups_good l hs ho)
 have h2 := groupedL_len l
 have h3 : (groups l).length ≤ l.length := by unfold groups; rw [List.length_map]; exact secs_len l
 have e : ((groups l).flatMap (·.2)).length = (groupedL l).length := rfl
 omega
def Plains (l : List S30) : Prop := l.length ≤ 200 ∧ ∀ x ∈ l, Plain (toO x).s (toO x).n (toO x).v
theorem Plains.s {l : List S30} (h : Plains l) : ∀ o ∈ l.map toO, GoodS o.s := fun o ho => by
 obtain ⟨x, hx, rfl⟩ := List.mem_map.1 ho
 exact (h.2 x hx).s
theorem Plains.o {l : List S30} (h : Plains l) : ∀ o ∈ l.map toO, GoodO o := fun o ho => by
 obtain ⟨x, hx, rfl⟩ := List.mem_map.1 ho
 exact (h.2 x hx).o
theorem Plains.len {l : List S30} (h : Plains l) : (groupsText (groups (l.map toO))).length ≤ 241200 := text_len _ h.s h.o (by rw [List.length_map]; exact h.1)
theorem Plains.ascii {l : List S30} (h : Plains l) : UN.ascii (groupsText (groups (l.map toO))) = true := groups_ascii _ (groups_good _ h.s h.o)
theorem write_is {l : List S30} (h : Plains l) : impl_UnitWrite.f l = some (sB (groupsText (groups (l.map toO)))) := by
 unfold impl_UnitWrite.f
 rw [if_pos]
 refine ⟨by have := h.1; omega, fun o ho => ?_, by have := h.len; omega⟩
 have h1 := (h.s o ho).l
 have h2 := (h.o o ho).ln
 have h3 := (h.o o ho).lv
 exact ⟨by omega, by omega, by omega⟩
theorem read_is (t : Bs) (d : List LD) (hr : Run .ns t [] (false, d)) (hok : okD false d = true) (hl : t.length ≤ 1000000) (ha : UN.ascii t = true) : impl_UnitRead.f (sB t) = some ((optsOf d).map toS, 0) := by
 have e : (sB t).data.toList = t := rfl
 obtain ⟨k, hk⟩ := hr
 have h9 := run_mu (mu .ns t + 1) (by omega) hk
 unfold impl_UnitRead.f
 rw [if_pos ⟨by rw [sB_size]; exact hl, by rw [e]; exact ha⟩, e, h9]
 simp [listOf, codeOf, hok]
theorem joined_is {a b : List S30} (ha : Plains a) (hb : Plains b) (na : a ≠ []) (nb : b ≠ []) : impl_UnitRead.f (sB (groupsText (groups (a.map toO)) ++ 10 :: groupsText (groups (b.map toO)))) = some ((groupedL (a.map toO) ++ groupedL (b.map toO)).map toS, 0) := by
 obtain ⟨d, h1, h2, h3⟩ := run_joined (a.map toO) (b.map toO) (by simpa using na) (by simpa using nb) ha.s ha.o hb.s hb.o
 rw [read_is _ d h1 h2 (by have := ha.len; have := hb.len; rw [List.length_append, List.length_cons]; omega) (by
  have e : groupsText (groups (a.map toO)) ++ 10 :: groupsText (groups (b.map toO)) = groupsText (groups (a.map toO)) ++ ([10] ++ groupsText (groups (b.map toO))) := rfl
  rw [e, ascii_app, ascii_app, ha.ascii, hb.ascii]
  rfl), h3]
end Go.Proofs.YtgnfapnnbcafbaaDoor.GUL
end
section
namespace Go.Proofs.YtgnfapnnbcafbaaDoor.GUL
open Go.RowKit Go.Proofs.YtgnfapnnbcafbaaDoorW.PrintWords Go.Proofs.YtgnfapnnbcafbaaDoorW.PrintLast Go.Proofs.YtgnfapnnbcafbaaDoorW.PrintMore
attribute [local go_sem] max2_int min2_int max_two min_two max_three min_three max_four min_four   -- for this text's walks alone
set_option linter.unusedVariables false
set_option linter.unusedSimpArgs false
/-! ### laws_FnUnitJoined: function 8 -/
mutual
def laws_FnUnitJoined.j0 : Nat → List (S30) → List (S30) → Bool → Option (Bool)
 | 0, _, _, _ => none
 | k + 1, x0, x1, x14 => if x14 = true then (some true) else ((laws_plainOptions.f k x0).bind fun t155 => (if t155 = true then ((laws_plainOptions.f k x1).bind fun t156 => (if t156 = true then (if (x0.length : Int) = 0 then (laws_FnUnitJoined.j1 k x0 x1 true) else (laws_FnUnitJoined.j1 k x0 x1 ((x1.length : Int) == 0))) else (laws_FnUnitJoined.j1 k x0 x1 true))) else (laws_FnUnitJoined.j1 k x0 x1 true)))
def laws_FnUnitJoined.j1 : Nat → List (S30) → List (S30) → Bool → Option (Bool)
 | 0, _, _, _ => none
 | k + 1, x0, x1, x32 => if x32 = true then (some true) else ((impl_UnitWrite.f x0).bind fun t157 => (if t157.size + 1 ≤ 9223372036854775807 then ((impl_UnitWrite.f x1).bind fun t158 => (if (t157 ++ (⟨#[10]⟩ : ByteArray)).size + t158.size ≤ 9223372036854775807 then ((impl_UnitRead.f ((t157 ++ (⟨#[10]⟩ : ByteArray)) ++ t158)).bind fun bt159 => (if bt159.2 = 0 then ((laws_grouped.f k x0).bind fun t163 => ((laws_grouped.f k x1).bind fun t166 => (if t163.length + t166.length < 2932031007402 then ((laws_sameOptions.f k bt159.1 (t163 ++ t166)).bind fun t172 => (if t172 = true then ((laws_reads.f).bind fun t173 => (some t173)) else (some false))) else (none)))) else (some false))) else (none))) else (none)))
end
def laws_FnUnitJoined.f (k : Nat) (l0 : List (S30)) (l1 : List (S30)) : Option (Bool) := (laws_zzFits7.f k l0).bind fun t153 => (if t153 = true then ((laws_zzFits7.f k l1).bind fun t154 => (laws_FnUnitJoined.j0 k l0 l1 (!t154))) else (laws_FnUnitJoined.j0 k l0 l1 true))
theorem laws_FnUnitJoined.mono_l : ∀ k, (∀ y0 y1 y2, LeO (laws_FnUnitJoined.j0 k y0 y1 y2) (laws_FnUnitJoined.j0 (k + 1) y0 y1 y2)) ∧ (∀ y0 y1 y2, LeO (laws_FnUnitJoined.j1 k y0 y1 y2) (laws_FnUnitJoined.j1 (k + 1) y0 y1 y2))
 | 0 => ⟨fun _ _ _ r h => by simp [laws_FnUnitJoined.j0] at h, fun _ _ _ r h => by simp [laws_FnUnitJoined.j1] at h⟩
 | k + 1 => by
  obtain ⟨ih0, ih1⟩ := laws_FnUnitJoined.mono_l k
  refine ⟨?_, ?_⟩
  ·intro y0 y1 y2
   unfold laws_FnUnitJoined.j0
   repeat' first
   | (with_reducible exact ih0 _ _ _)
   | (with_reducible exact ih1 _ _ _)
   | (with_reducible exact laws_grouped.mono _ _)
   | (with_reducible exact laws_plainOptions.mono _ _)
   | (with_reducible exact laws_sameOptions.mono _ _ _)
   | (with_reducible exact laws_zzFits7.mono _ _)
   | (with_reducible exact LeO.refl _)
   | (with_reducible exact LeO.none _)
   | (with_reducible refine LeO.ite ?_ ?_)
   | (with_reducible refine LeO.bind ?_ (fun _ => ?_))
   | exact ih0 _ _ _
   | exact ih1 _ _ _
   | exact laws_grouped.mono _ _
   | exact laws_plainOptions.mono _ _
   | exact laws_sameOptions.mono _ _ _
   | exact laws_zzFits7.mono _ _
   | exact LeO.none _
   | refine LeO.ite ?_ ?_
   | refine LeO.bind ?_ (fun _ => ?_)
  ·intro y0 y1 y2
   unfold laws_FnUnitJoined.j1
   repeat' first
   | (with_reducible exact ih0 _ _ _)
   | (with_reducible exact ih1 _ _ _)
   | (with_reducible exact laws_grouped.mono _ _)
   | (with_reducible exact laws_plainOptions.mono _ _)
   | (with_reducible exact laws_sameOptions.mono _ _ _)
   | (with_reducible exact laws_zzFits7.mono _ _)
   | (with_reducible exact LeO.refl _)
   | (with_reducible exact LeO.none _)
   | (with_reducible refine LeO.ite ?_ ?_)
   | (with_reducible refine LeO.bind ?_ (fun _ => ?_))
   | exact ih0 _ _ _
   | exact ih1 _ _ _
   | exact laws_grouped.mono _ _
   | exact laws_plainOptions.mono _ _
   | exact laws_sameOptions.mono _ _ _
   | exact laws_zzFits7.mono _ _
   | exact LeO.none _
   | refine LeO.ite ?_ ?_
   | refine LeO.bind ?_ (fun _ => ?_)
theorem laws_FnUnitJoined.mono : ∀ a0 a1 k, LeO (laws_FnUnitJoined.f k a0 a1) (laws_FnUnitJoined.f (k + 1) a0 a1) := by
 intro a0 a1 k
 obtain ⟨ih0, ih1⟩ := laws_FnUnitJoined.mono_l k
 unfold laws_FnUnitJoined.f
 repeat' first
   | (with_reducible exact ih0 _ _ _)
   | (with_reducible exact ih1 _ _ _)
   | (with_reducible exact laws_grouped.mono _ _)
   | (with_reducible exact laws_plainOptions.mono _ _)
   | (with_reducible exact laws_sameOptions.mono _ _ _)
   | (with_reducible exact laws_zzFits7.mono _ _)
   | (with_reducible exact LeO.refl _)
   | (with_reducible exact LeO.none _)
   | (with_reducible refine LeO.ite ?_ ?_)
   | (with_reducible refine LeO.bind ?_ (fun _ => ?_))
   | exact ih0 _ _ _
   | exact ih1 _ _ _
   | exact laws_grouped.mono _ _
   | exact laws_plainOptions.mono _ _
   | exact laws_sameOptions.mono _ _ _
   | exact laws_zzFits7.mono _ _
   | exact LeO.none _
   | refine LeO.ite ?_ ?_
   | refine LeO.bind ?_ (fun _ => ?_)
set_option maxHeartbeats 8000000 in
set_option maxRecDepth 100000 in
theorem laws_FnUnitJoined.calls (k : Nat) (A0 : Option Addr) (c0 : Nat) (l0 : List (S30)) (A1 : Option Addr) (c1 : Nat) (l1 : List (S30)) (r : Bool) (w : World) (hr0 : Kd.C k30 w A0 l0.length l0) (hc0 : l0.length ≤ c0) (hr1 : Kd.C k30 w A1 l1.length l1) (hc1 : l1.length ≤ c1) (hT_ : TabW w) (h : laws_FnUnitJoined.f k l0 l1 = some r) :
  Calls Tryd.prog 8 #[.slice A0 l0.length c0, .slice A1 l1.length c1] w fun e w' => e = .returned (.bool r) ∧ Below w.heap.size w w' := by
 have HR0 := Aside0.mk hr0
 have HC0 := Aside0.mk hc0
 clear hr0 hc0
 have HR1 := Aside0.mk hr1
 have HC1 := Aside0.mk hc1
 clear hr1 hc1
 have HTAB := Aside0.mk hT_
 clear hT_
 have HB := Aside0.mk (Below.refl w.heap.size w)
 have H : ((laws_zzFits7.f k l0).bind fun t153 => (if t153 = true then ((laws_zzFits7.f k l1).bind fun t154 => (laws_FnUnitJoined.j0 k l0 l1 (!t154))) else (laws_FnUnitJoined.j0 k l0 l1 true))) = some r := h
 clear h
 have HC3 := Aside0.mk H
 clear H
 go_enter Tryd.func8, Tryd.ntmps8
 go_upto_region 1 with (fail)
 go_cut [14] (fun v14 wc => ∃ (kq : Nat) (x14_2 : Bool), v14 = .bool x14_2 ∧ Aside0 (laws_FnUnitJoined.j0 kq l0 l1 x14_2 = some r) ∧ Aside0 (kq ≤ k) ∧ Aside0 (Below w.heap.size w wc))
 case first =>
  have H := HC3.out
  clear HC3
  replace H := Option.bind_eq_some_iff.mp H
  obtain ⟨t153, A40, H⟩ := H
  replace H : (if t153 = true then ((laws_zzFits7.f k l1).bind fun t154 => (laws_FnUnitJoined.j0 k l0 l1 (!t154))) else (laws_FnUnitJoined.j0 k l0 l1 true)) = some r := H
  have A4 := Aside0.mk A40
  clear A40
  by_cases c5 : t153 = true
  ·subst c5
   have H1 : ((laws_zzFits7.f k l1).bind fun t154 => (laws_FnUnitJoined.j0 k l0 l1 (!t154))) = some r := by rw [if_pos rfl] at H; exact H
   clear H
   have H := H1
   clear H1
   replace H := Option.bind_eq_some_iff.mp H
   obtain ⟨t154, A60, H⟩ := H
   replace H : (laws_FnUnitJoined.j0 k l0 l1 (!t154)) = some r := H
   have A6 := Aside0.mk A60
   clear A60
   have H' := Aside0.mk H
   clear H
   go_wp2_with (first | ((with_reducible refine gate_callee (f := 16) rfl ?_); refine goesL_ (some 8) rfl rfl Tryd.func16 (by kernel_rfl) rfl #[.slice A0 l0.length c0] rfl (by (try simp only [List.map_toArray, List.map_cons, List.map_nil]); first | done | rfl | (simp only [List.length_drop, List.length_take]; rfl)) ?_; (with_reducible refine (laws_zzFits7.calls k _ _ l0 true _ ?side1 ?side2 A4.out).mono ?_); (case side1 => repeat (first | exact (Kd.C_below HR0.out HB.out) | (with_reducible refine Kd.C_alloc ?_ _) | (with_reducible refine Kd.C_drewN ?_ _) | (with_reducible refine Kd.C_drew ?_))); (case side2 => exact HC0.out); rintro e w7 ⟨rfl, hb⟩; refine ⟨_, rfl, ?_⟩; have n0_ := Aside0.mk (below_step (by repeat (first | (with_reducible first | exact HB.out | apply below_alloc | apply pw_below_drewN | apply below_drew1) | exact HB.out)) hb); clear HB; have HB := n0_; clear n0_; (try clear hb); (try clear hb2); (try clear hk); (try clear hi)) | (go_at_call 16; (with_reducible refine (laws_zzFits7.calls k _ _ l1 t154 _ ?side1 ?side2 A6.out).mono ?_); (case side1 => repeat (first | exact (Kd.C_below HR1.out HB.out) | (with_reducible refine Kd.C_alloc ?_ _) | (with_reducible refine Kd.C_drewN ?_ _) | (with_reducible refine Kd.C_drew ?_))); (case side2 => exact HC1.out); rintro e w8 ⟨rfl, hb⟩; have n0_ := Aside0.mk (below_step (by repeat (first | (with_reducible first | exact HB.out | apply below_alloc | apply pw_below_drewN | apply below_drew1) | exact HB.out)) hb); clear HB; have HB := n0_; clear n0_; (try clear hb); (try clear hb2); (try clear hk); (try clear hi)))
   go_meet
   case rel => exact ⟨_, (!t154), (by first | rfl | (simp; done) | (simp [*]; done)), H', ⟨by first | omega | exact Nat.le_refl _⟩, ⟨by repeat (first | (with_reducible first | exact HB.out | apply below_alloc | apply pw_below_drewN | apply below_drew1) | exact HB.out)⟩⟩
  ·replace c5 := Bool.eq_false_iff.mpr c5
   subst c5
   have H1 : (laws_FnUnitJoined.j0 k l0 l1 true) = some r := by rw [if_neg (show ¬ (false = true) by decide)] at H; exact H
   clear H
   have H := H1
   clear H1
   have H' := Aside0.mk H
   clear H
   go_wp2_with (first | ((with_reducible refine gate_callee (f := 16) rfl ?_); refine goesL_ (some 8) rfl rfl Tryd.func16 (by kernel_rfl) rfl #[.slice A0 l0.length c0] rfl (by (try simp only [List.map_toArray, List.map_cons, List.map_nil]); first | done | rfl | (simp only [List.length_drop, List.length_take]; rfl)) ?_; (with_reducible refine (laws_zzFits7.calls k _ _ l0 false _ ?side1 ?side2 A4.out).mono ?_); (case side1 => repeat (first | exact (Kd.C_below HR0.out HB.out) | (with_reducible refine Kd.C_alloc ?_ _) | (with_reducible refine Kd.C_drewN ?_ _) | (with_reducible refine Kd.C_drew ?_))); (case side2 => exact HC0.out); rintro e w9 ⟨rfl, hb⟩; refine ⟨_, rfl, ?_⟩; have n0_ := Aside0.mk (below_step (by repeat (first | (with_reducible first | exact HB.out | apply below_alloc | apply pw_below_drewN | apply below_drew1) | exact HB.out)) hb); clear HB; have HB := n0_; clear n0_; (try clear hb); (try clear hb2); (try clear hk); (try clear hi)))
   go_meet
   case rel => exact ⟨_, (true), (by first | rfl | (simp; done) | (simp [*]; done)), H', ⟨by first | omega | exact Nat.le_refl _⟩, ⟨by repeat (first | (with_reducible first | exact HB.out | apply below_alloc | apply pw_below_drewN | apply below_drew1) | exact HB.out)⟩⟩
 case rest =>
  clear HC3
  try clear c1
  try clear p2
  try clear c5
  try clear c8
  obtain ⟨kq, x14_2, rfl, HA, HJ2, HB⟩ := hcut
  cases kq with
  | zero => exact absurd HA.out (by simp [laws_FnUnitJoined.j0])
  | succ kj2 =>
   have H := HA.out
   clear HA
   simp only [laws_FnUnitJoined.j0] at H
   by_cases c10 : x14_2 = true
   ·subst c10
    have H1 : (some true) = some r := by rw [if_pos rfl] at H; exact H
    clear H
    have H := H1
    clear H1
    obtain rfl := Option.some.inj H
    go_wp2
    go_ret
    exact ⟨by first | rfl | (simp [errW_none, errW_some] <;> rfl) | (simp [*, errW_none, errW_some] <;> rfl), by repeat (first | (with_reducible first | exact HB.out | apply below_alloc | apply pw_below_drewN | apply below_drew1) | exact HB.out)⟩
   ·replace c10 := Bool.eq_false_iff.mpr c10
    subst c10
    have H1 : ((laws_plainOptions.f kj2 l0).bind fun t155 => (if t155 = true then ((laws_plainOptions.f kj2 l1).bind fun t156 => (if t156 = true then (if (l0.length : Int) = 0 then (laws_FnUnitJoined.j1 kj2 l0 l1 true) else (laws_FnUnitJoined.j1 kj2 l0 l1 ((l1.length : Int) == 0))) else (laws_FnUnitJoined.j1 kj2 l0 l1 true))) else (laws_FnUnitJoined.j1 kj2 l0 l1 true))) = some r := by rw [if_neg (show ¬ (false = true) by decide)] at H; exact H
    clear H
    have H := H1
    clear H1
    have HC11 := Aside0.mk H
    clear H
    go_upto_region 3 with (fail)
    go_cut [32] (fun v32 wc => ∃ (kq : Nat) (x32_10 : Bool), v32 = .bool x32_10 ∧ Aside0 (laws_FnUnitJoined.j1 kq l0 l1 x32_10 = some r) ∧ Aside0 (kq ≤ kj2) ∧ Aside0 (Below w.heap.size w wc))
    case first =>
     have H := HC11.out
     clear HC11
     replace H := Option.bind_eq_some_iff.mp H
     obtain ⟨t155, A120, H⟩ := H
     replace H : (if t155 = true then ((laws_plainOptions.f kj2 l1).bind fun t156 => (if t156 = true then (if (l0.length : Int) = 0 then (laws_FnUnitJoined.j1 kj2 l0 l1 true) else (laws_FnUnitJoined.j1 kj2 l0 l1 ((l1.length : Int) == 0))) else (laws_FnUnitJoined.j1 kj2 l0 l1 true))) else (laws_FnUnitJoined.j1 kj2 l0 l1 true)) = some r := H
     have A12 := Aside0.mk A120
     clear A120
     by_cases c13 : t155 = true
     ·subst c13
      have H1 : ((laws_plainOptions.f kj2 l1).bind fun t156 => (if t156 = true then (if (l0.length : Int) = 0 then (laws_FnUnitJoined.j1 kj2 l0 l1 true) else (laws_FnUnitJoined.j1 kj2 l0 l1 ((l1.length : Int) == 0))) else (laws_FnUnitJoined.j1 kj2 l0 l1 true))) = some r := by rw [if_pos rfl] at H; exact H
      clear H
      have H := H1
      clear H1
      replace H := Option.bind_eq_some_iff.mp H
      obtain ⟨t156, A140, H⟩ := H
      replace H : (if t156 = true then (if (l0.length : Int) = 0 then (laws_FnUnitJoined.j1 kj2 l0 l1 true) else (laws_FnUnitJoined.j1 kj2 l0 l1 ((l1.length : Int) == 0))) else (laws_FnUnitJoined.j1 kj2 l0 l1 true)) = some r := H
      have A14 := Aside0.mk A140
      clear A140
      by_cases c15 : t156 = true
      ·subst c15
       have H1 : (if (l0.length : Int) = 0 then (laws_FnUnitJoined.j1 kj2 l0 l1 true) else (laws_FnUnitJoined.j1 kj2 l0 l1 ((l1.length : Int) == 0))) = some r := by rw [if_pos rfl] at H; exact H
       clear H
       have H := H1
       clear H1
       by_cases c16 : (l0.length : Int) = 0
       ·rw [if_pos c16] at H
        have c16b0 : ((l0.length : Int) == 0) = true := beq_iff_eq.mpr c16
        have c16b1 : ((l0.length : Int) != 0) = false := bne_eq_false_iff_eq.mpr c16
        clear c16
        (first | rw [c16b0] | (simp only [i64_w, i32_w]; rw [c16b0]) | skip)
        have H' := Aside0.mk H
        clear H
        go_wp2_with (first | ((with_reducible refine gate_callee (f := 22) rfl ?_); refine goesL_ (some 16) rfl rfl Tryd.func22 (by kernel_rfl) rfl #[.slice A0 l0.length c0] rfl (by (try simp only [List.map_toArray, List.map_cons, List.map_nil]); first | done | rfl | (simp only [List.length_drop, List.length_take]; rfl)) ?_; (with_reducible refine (laws_plainOptions.calls kj2 _ _ l0 true _ ?side1 ?side2 A12.out).mono ?_); (case side1 => repeat (first | exact (Kd.C_below HR0.out HB.out) | (with_reducible refine Kd.C_alloc ?_ _) | (with_reducible refine Kd.C_drewN ?_ _) | (with_reducible refine Kd.C_drew ?_))); (case side2 => exact HC0.out); rintro e w17 ⟨rfl, hb⟩; refine ⟨_, rfl, ?_⟩; have n0_ := Aside0.mk (below_step (by repeat (first | (with_reducible first | exact HB.out | apply below_alloc | apply pw_below_drewN | apply below_drew1) | exact HB.out)) hb); clear HB; have HB := n0_; clear n0_; (try clear hb); (try clear hb2); (try clear hk); (try clear hi)) | (go_at_call 22; (with_reducible refine (laws_plainOptions.calls kj2 _ _ l1 true _ ?side1 ?side2 A14.out).mono ?_); (case side1 => repeat (first | exact (Kd.C_below HR1.out HB.out) | (with_reducible refine Kd.C_alloc ?_ _) | (with_reducible refine Kd.C_drewN ?_ _) | (with_reducible refine Kd.C_drew ?_))); (case side2 => exact HC1.out); rintro e w18 ⟨rfl, hb⟩; have n0_ := Aside0.mk (below_step (by repeat (first | (with_reducible first | exact HB.out | apply below_alloc | apply pw_below_drewN | apply below_drew1) | exact HB.out)) hb); clear HB; have HB := n0_; clear n0_; (try clear hb); (try clear hb2); (try clear hk); (try clear hi)))
        go_meet
        case rel => exact ⟨_, (true), (by first | rfl | (simp; done) | (simp [*]; done)), H', ⟨by have := HJ2.out; first | omega | exact Nat.le_refl _⟩, ⟨by repeat (first | (with_reducible first | exact HB.out | apply below_alloc | apply pw_below_drewN | apply below_drew1) | exact HB.out)⟩⟩
       ·rw [if_neg c16] at H
        have c16b0 : ((l0.length : Int) == 0) = false := beq_eq_false_iff_ne.mpr c16
        have c16b1 : ((l0.length : Int) != 0) = true := bne_iff_ne.mpr c16
        have c16b2 : ¬ (l0 = []) := fun h_ => c16 (by rw [h_]; rfl)
        (first | rw [c16b0] | (simp only [i64_w, i32_w]; rw [c16b0]) | skip)
        have H' := Aside0.mk H
        clear H
        go_wp2_with (first | ((with_reducible refine gate_callee (f := 22) rfl ?_); refine goesL_ (some 16) rfl rfl Tryd.func22 (by kernel_rfl) rfl #[.slice A0 l0.length c0] rfl (by (try simp only [List.map_toArray, List.map_cons, List.map_nil]); first | done | rfl | (simp only [List.length_drop, List.length_take]; rfl)) ?_; (with_reducible refine (laws_plainOptions.calls kj2 _ _ l0 true _ ?side1 ?side2 A12.out).mono ?_); (case side1 => repeat (first | exact (Kd.C_below HR0.out HB.out) | (with_reducible refine Kd.C_alloc ?_ _) | (with_reducible refine Kd.C_drewN ?_ _) | (with_reducible refine Kd.C_drew ?_))); (case side2 => exact HC0.out); rintro e w19 ⟨rfl, hb⟩; refine ⟨_, rfl, ?_⟩; have n0_ := Aside0.mk (below_step (by repeat (first | (with_reducible first | exact HB.out | apply below_alloc | apply pw_below_drewN | apply below_drew1) | exact HB.out)) hb); clear HB; have HB := n0_; clear n0_; (try clear hb); (try clear hb2); (try clear hk); (try clear hi)) | (go_at_call 22; (with_reducible refine (laws_plainOptions.calls kj2 _ _ l1 true _ ?side1 ?side2 A14.out).mono ?_); (case side1 => repeat (first | exact (Kd.C_below HR1.out HB.out) | (with_reducible refine Kd.C_alloc ?_ _) | (with_reducible refine Kd.C_drewN ?_ _) | (with_reducible refine Kd.C_drew ?_))); (case side2 => exact HC1.out); rintro e w20 ⟨rfl, hb⟩; have n0_ := Aside0.mk (below_step (by repeat (first | (with_reducible first | exact HB.out | apply below_alloc | apply pw_below_drewN | apply below_drew1) | exact HB.out)) hb); clear HB; have HB := n0_; clear n0_; (try clear hb); (try clear hb2); (try clear hk); (try clear hi)))
        go_meet
        case rel => exact ⟨_, (((l1.length : Int) == 0)), (by first | rfl | (simp; done) | (simp [*]; done)), H', ⟨by have := HJ2.out; first | omega | exact Nat.le_refl _⟩, ⟨by repeat (first | (with_reducible first | exact HB.out | apply below_alloc | apply pw_below_drewN | apply below_drew1) | exact HB.out)⟩⟩
      ·replace c15 := Bool.eq_false_iff.mpr c15
       subst c15
       have H1 : (laws_FnUnitJoined.j1 kj2 l0 l1 true) = some r := by rw [if_neg (show ¬ (false = true) by decide)] at H; exact H
       clear H
       have H := H1
       clear H1
       have H' := Aside0.mk H
       clear H
       go_wp2_with (first | ((with_reducible refine gate_callee (f := 22) rfl ?_); refine goesL_ (some 16) rfl rfl Tryd.func22 (by kernel_rfl) rfl #[.slice A0 l0.length c0] rfl (by (try simp only [List.map_toArray, List.map_cons, List.map_nil]); first | done | rfl | (simp only [List.length_drop, List.length_take]; rfl)) ?_; (with_reducible refine (laws_plainOptions.calls kj2 _ _ l0 true _ ?side1 ?side2 A12.out).mono ?_); (case side1 => repeat (first | exact (Kd.C_below HR0.out HB.out) | (with_reducible refine Kd.C_alloc ?_ _) | (with_reducible refine Kd.C_drewN ?_ _) | (with_reducible refine Kd.C_drew ?_))); (case side2 => exact HC0.out); rintro e w21 ⟨rfl, hb⟩; refine ⟨_, rfl, ?_⟩; have n0_ := Aside0.mk (below_step (by repeat (first | (with_reducible first | exact HB.out | apply below_alloc | apply pw_below_drewN | apply below_drew1) | exact HB.out)) hb); clear HB; have HB := n0_; clear n0_; (try clear hb); (try clear hb2); (try clear hk); (try clear hi)) | (go_at_call 22; (with_reducible refine (laws_plainOptions.calls kj2 _ _ l1 false _ ?side1 ?side2 A14.out).mono ?_); (case side1 => repeat (first | exact (Kd.C_below HR1.out HB.out) | (with_reducible refine Kd.C_alloc ?_ _) | (with_reducible refine Kd.C_drewN ?_ _) | (with_reducible refine Kd.C_drew ?_))); (case side2 => exact HC1.out); rintro e w22 ⟨rfl, hb⟩; have n0_ := Aside0.mk (below_step (by repeat (first | (with_reducible first | exact HB.out | apply below_alloc | apply pw_below_drewN | apply below_drew1) | exact HB.out)) hb); clear HB; have HB := n0_; clear n0_; (try clear hb); (try clear hb2); (try clear hk); (try clear hi)))
       go_meet
       case rel => exact ⟨_, (true), (by first | rfl | (simp; done) | (simp [*]; done)), H', ⟨by have := HJ2.out; first | omega | exact Nat.le_refl _⟩, ⟨by repeat (first | (with_reducible first | exact HB.out | apply below_alloc | apply pw_below_drewN | apply below_drew1) | exact HB.out)⟩⟩
     ·replace c13 := Bool.eq_false_iff.mpr c13
      subst c13
      have H1 : (laws_FnUnitJoined.j1 kj2 l0 l1 true) = some r := by rw [if_neg (show ¬ (false = true) by decide)] at H; exact H
      clear H
      have H := H1
      clear H1
      have H' := Aside0.mk H
      clear H
      go_wp2_with (first | ((with_reducible refine gate_callee (f := 22) rfl ?_); refine goesL_ (some 16) rfl rfl Tryd.func22 (by kernel_rfl) rfl #[.slice A0 l0.length c0] rfl (by (try simp only [List.map_toArray, List.map_cons, List.map_nil]); first | done | rfl | (simp only [List.length_drop, List.length_take]; rfl)) ?_; (with_reducible refine (laws_plainOptions.calls kj2 _ _ l0 false _ ?side1 ?side2 A12.out).mono ?_); (case side1 => repeat (first | exact (Kd.C_below HR0.out HB.out) | (with_reducible refine Kd.C_alloc ?_ _) | (with_reducible refine Kd.C_drewN ?_ _) | (with_reducible refine Kd.C_drew ?_))); (case side2 => exact HC0.out); rintro e w23 ⟨rfl, hb⟩; refine ⟨_, rfl, ?_⟩; have n0_ := Aside0.mk (below_step (by repeat (first | (with_reducible first | exact HB.out | apply below_alloc | apply pw_below_drewN | apply below_drew1) | exact HB.out)) hb); clear HB; have HB := n0_; clear n0_; (try clear hb); (try clear hb2); (try clear hk); (try clear hi)))
      go_meet
      case rel => exact ⟨_, (true), (by first | rfl | (simp; done) | (simp [*]; done)), H', ⟨by have := HJ2.out; first | omega | exact Nat.le_refl _⟩, ⟨by repeat (first | (with_reducible first | exact HB.out | apply below_alloc | apply pw_below_drewN | apply below_drew1) | exact HB.out)⟩⟩
    case rest =>
     clear HC11
     try clear c1
     try clear c2
     try clear p2
     try clear c5
     try clear c8
     try clear c10
     try clear c13
     try clear c15
     try clear c16
     try clear c16b0
     try clear c16b1
     try clear c16b2
     try clear c22
     try clear p2
     obtain ⟨kq, x32_10, rfl, HA, HJ10, HB⟩ := hcut
     cases kq with
     | zero => exact absurd HA.out (by simp [laws_FnUnitJoined.j1])
     | succ kj10 =>
      have H := HA.out
      clear HA
      simp only [laws_FnUnitJoined.j1] at H
      by_cases c24 : x32_10 = true
      ·subst c24
       have H1 : (some true) = some r := by rw [if_pos rfl] at H; exact H
       clear H
       have H := H1
       clear H1
       obtain rfl := Option.some.inj H
       go_wp2
       go_ret
       exact ⟨by first | rfl | (simp [errW_none, errW_some] <;> rfl) | (simp [*, errW_none, errW_some] <;> rfl), by repeat (first | (with_reducible first | exact HB.out | apply below_alloc | apply pw_below_drewN | apply below_drew1) | exact HB.out)⟩
      ·replace c24 := Bool.eq_false_iff.mpr c24
       subst c24
       have H1 : ((impl_UnitWrite.f l0).bind fun t157 => (if t157.size + 1 ≤ 9223372036854775807 then ((impl_UnitWrite.f l1).bind fun t158 => (if (t157 ++ (⟨#[10]⟩ : ByteArray)).size + t158.size ≤ 9223372036854775807 then ((impl_UnitRead.f ((t157 ++ (⟨#[10]⟩ : ByteArray)) ++ t158)).bind fun bt159 => (if bt159.2 = 0 then ((laws_grouped.f kj10 l0).bind fun t163 => ((laws_grouped.f kj10 l1).bind fun t166 => (if t163.length + t166.length < 2932031007402 then ((laws_sameOptions.f kj10 bt159.1 (t163 ++ t166)).bind fun t172 => (if t172 = true then ((laws_reads.f).bind fun t173 => (some t173)) else (some false))) else (none)))) else (some false))) else (none))) else (none))) = some r := by rw [if_neg (show ¬ (false = true) by decide)] at H; exact H
       clear H
       have H := H1
       clear H1
       replace H := Option.bind_eq_some_iff.mp H
       obtain ⟨t157, A250, H⟩ := H
       replace H : (if t157.size + 1 ≤ 9223372036854775807 then ((impl_UnitWrite.f l1).bind fun t158 => (if (t157 ++ (⟨#[10]⟩ : ByteArray)).size + t158.size ≤ 9223372036854775807 then ((impl_UnitRead.f ((t157 ++ (⟨#[10]⟩ : ByteArray)) ++ t158)).bind fun bt159 => (if bt159.2 = 0 then ((laws_grouped.f kj10 l0).bind fun t163 => ((laws_grouped.f kj10 l1).bind fun t166 => (if t163.length + t166.length < 2932031007402 then ((laws_sameOptions.f kj10 bt159.1 (t163 ++ t166)).bind fun t172 => (if t172 = true then ((laws_reads.f).bind fun t173 => (some t173)) else (some false))) else (none)))) else (some false))) else (none))) else (none)) = some r := H
       have A25 := Aside0.mk A250
       clear A250
       by_cases c26 : t157.size + 1 ≤ 9223372036854775807
       ·rw [if_pos c26] at H
        have c26b0 := eq_true c26
        have c26b1 : decide (t157.size + 1 ≤ 9223372036854775807) = true := decide_eq_true c26
        try have c26b2 : (9223372036854775807 < t157.size + 1) = False := eq_false (Nat.not_lt.2 c26)
        replace H := Option.bind_eq_some_iff.mp H
        obtain ⟨t158, A270, H⟩ := H
        replace H : (if (t157 ++ (⟨#[10]⟩ : ByteArray)).size + t158.size ≤ 9223372036854775807 then ((impl_UnitRead.f ((t157 ++ (⟨#[10]⟩ : ByteArray)) ++ t158)).bind fun bt159 => (if bt159.2 = 0 then ((laws_grouped.f kj10 l0).bind fun t163 => ((laws_grouped.f kj10 l1).bind fun t166 => (if t163.length + t166.length < 2932031007402 then ((laws_sameOptions.f kj10 bt159.1 (t163 ++ t166)).bind fun t172 => (if t172 = true then ((laws_reads.f).bind fun t173 => (some t173)) else (some false))) else (none)))) else (some false))) else (none)) = some r := H
        have A27 := Aside0.mk A270
        clear A270
        by_cases c28 : (t157 ++ (⟨#[10]⟩ : ByteArray)).size + t158.size ≤ 9223372036854775807
        ·rw [if_pos c28] at H
         have c28b0 := eq_true c28
         have c28b1 : decide ((t157 ++ (⟨#[10]⟩ : ByteArray)).size + t158.size ≤ 9223372036854775807) = true := decide_eq_true c28
         try have c28b2 : (9223372036854775807 < (t157 ++ (⟨#[10]⟩ : ByteArray)).size + t158.size) = False := eq_false (Nat.not_lt.2 c28)
         try have c28b5 : (9223372036854775807 < t157.size + 1 + t158.size) = False := by have e_ := c28b2; (repeat rw [ByteArray.size_append] at e_); exact e_
         replace H := Option.bind_eq_some_iff.mp H
         obtain ⟨⟨t159, t160⟩, A290, H⟩ := H
         replace H : (if t160 = 0 then ((laws_grouped.f kj10 l0).bind fun t163 => ((laws_grouped.f kj10 l1).bind fun t166 => (if t163.length + t166.length < 2932031007402 then ((laws_sameOptions.f kj10 t159 (t163 ++ t166)).bind fun t172 => (if t172 = true then ((laws_reads.f).bind fun t173 => (some t173)) else (some false))) else (none)))) else (some false)) = some r := H
         have A29 := Aside0.mk A290
         clear A290
         by_cases c30 : t160 = 0
         ·rw [if_pos c30] at H
          have c30b0 : (t160 == 0) = true := beq_iff_eq.mpr c30
          have c30b1 : (t160 != 0) = false := bne_eq_false_iff_eq.mpr c30
          clear c30
          replace H := Option.bind_eq_some_iff.mp H
          obtain ⟨t163, A310, H⟩ := H
          replace H : ((laws_grouped.f kj10 l1).bind fun t166 => (if t163.length + t166.length < 2932031007402 then ((laws_sameOptions.f kj10 t159 (t163 ++ t166)).bind fun t172 => (if t172 = true then ((laws_reads.f).bind fun t173 => (some t173)) else (some false))) else (none))) = some r := H
          have A31 := Aside0.mk A310
          clear A310
          replace H := Option.bind_eq_some_iff.mp H
          obtain ⟨t166, A320, H⟩ := H
          replace H : (if t163.length + t166.length < 2932031007402 then ((laws_sameOptions.f kj10 t159 (t163 ++ t166)).bind fun t172 => (if t172 = true then ((laws_reads.f).bind fun t173 => (some t173)) else (some false))) else (none)) = some r := H
          have A32 := Aside0.mk A320
          clear A320
          by_cases c33 : t163.length + t166.length < 2932031007402
          ·rw [if_pos c33] at H
           have LMc33 := Aside0.mk c33
           clear c33
           obtain ⟨y169, hy169⟩ : ∃ y_ : List (S30), y_ = (t163 ++ t166) := ⟨_, rfl⟩
           replace H : ((laws_sameOptions.f kj10 t159 y169).bind fun t172 => (if t172 = true then ((laws_reads.f).bind fun t173 => (some t173)) else (some false))) = some r := by first | (rw [hy169]; with_reducible exact H) | (have H2_ := (Option.bind_some _ _).symm.trans H; rw [hy169]; with_reducible exact H2_) | (have H2_ := (Option.bind_some _ _).symm.trans H; with_reducible exact H2_) | with_reducible exact H | (rw [hy169]; exact H) | exact H
           have Ny169 := Aside0.mk hy169
           clear hy169
           replace H := Option.bind_eq_some_iff.mp H
           obtain ⟨t172, A340, H⟩ := H
           replace H : (if t172 = true then ((laws_reads.f).bind fun t173 => (some t173)) else (some false)) = some r := H
           have A34 := Aside0.mk A340
           clear A340
           by_cases c35 : t172 = true
           ·subst c35
            have H1 : ((laws_reads.f).bind fun t173 => (some t173)) = some r := by rw [if_pos rfl] at H; exact H
            clear H
            have H := H1
            clear H1
            replace H := Option.bind_eq_some_iff.mp H
            obtain ⟨t173, A360, H⟩ := H
            replace H : (some t173) = some r := H
            have A36 := Aside0.mk A360
            clear A360
            obtain rfl := Option.some.inj H
            go_wp2_with (first | ((with_reducible refine gate_callee (f := 23) rfl ?_); refine goesL_ (some 35) rfl rfl Tryd.func23 (by kernel_rfl) rfl #[.slice A0 l0.length c0] rfl (by (try simp only [List.map_toArray, List.map_cons, List.map_nil]); first | done | rfl | (simp only [List.length_drop, List.length_take]; rfl)) ?_; (with_reducible refine (impl_UnitWrite.calls _ _ l0 t157 _ ?side1 ?side2 A25.out).mono ?_); (case side1 => repeat (first | exact (Kd.C_below HR0.out HB.out) | (with_reducible refine Kd.C_alloc ?_ _) | (with_reducible refine Kd.C_drewN ?_ _) | (with_reducible refine Kd.C_drew ?_))); (case side2 => exact HC0.out); rintro e w37 ⟨rfl, hb⟩; refine ⟨_, rfl, ?_⟩; have n0_ := Aside0.mk (below_step (by repeat (first | (with_reducible first | exact HB.out | apply below_alloc | apply pw_below_drewN | apply below_drew1) | exact HB.out)) hb); clear HB; have HB := n0_; clear n0_; (try clear hb); (try clear hb2); (try clear hk); (try clear hi)) | ((with_reducible refine gate_callee (f := 23) rfl ?_); refine goesL_ (some 38) rfl rfl Tryd.func23 (by kernel_rfl) rfl #[.slice A1 l1.length c1] rfl (by (try simp only [List.map_toArray, List.map_cons, List.map_nil]); first | done | rfl | (simp only [List.length_drop, List.length_take]; rfl)) ?_; (with_reducible refine (impl_UnitWrite.calls _ _ l1 t158 _ ?side1 ?side2 A27.out).mono ?_); (case side1 => repeat (first | exact (Kd.C_below HR1.out HB.out) | (with_reducible refine Kd.C_alloc ?_ _) | (with_reducible refine Kd.C_drewN ?_ _) | (with_reducible refine Kd.C_drew ?_))); (case side2 => exact HC1.out); rintro e w38 ⟨rfl, hb⟩; refine ⟨_, rfl, ?_⟩; have n0_ := Aside0.mk (below_step (by repeat (first | (with_reducible first | exact HB.out | apply below_alloc | apply pw_below_drewN | apply below_drew1) | exact HB.out)) hb); clear HB; have HB := n0_; clear n0_; (try clear hb); (try clear hb2); (try clear hk); (try clear hi)) | ((with_reducible refine gate_callee (f := 21) rfl ?_); refine goesL_ (some 40) rfl rfl Tryd.func21 (by kernel_rfl) rfl #[.string ((t157 ++ (⟨#[10]⟩ : ByteArray)) ++ t158)] rfl (by (try simp only [List.map_toArray, List.map_cons, List.map_nil]); first | done | rfl | (simp only [List.length_drop, List.length_take]; rfl)) ?_; (with_reducible refine (impl_UnitRead.calls ((t157 ++ (⟨#[10]⟩ : ByteArray)) ++ t158) t159 t160 _ ?side1 A29.out).mono ?_); (case side1 => exact tabW_below HTAB.out (by repeat (first | (with_reducible first | exact HB.out | apply below_alloc | apply pw_below_drewN | apply below_drew1) | exact HB.out))); rintro e w39 ⟨v161, rfl, ho0, hb⟩; refine ⟨_, rfl, ?_⟩; have n0_ := Aside0.mk (Kd.R_lower ho0 (below_size (by repeat (first | (with_reducible first | exact HB.out | apply below_alloc | apply pw_below_drewN | apply below_drew1) | exact HB.out)))); have n1_ := Aside0.mk (below_step (by repeat (first | (with_reducible first | exact HB.out | apply below_alloc | apply pw_below_drewN | apply below_drew1) | exact HB.out)) hb); clear HB; have HO162 := n0_; have HB := n1_; clear n0_ n1_; (try clear hb); (try clear hb2); (try clear hk); (try clear hi); (try clear ho0)) | (go_at_call 24; (with_reducible refine (laws_grouped.calls kj10 _ _ l0 t163 _ ?side1 ?side2 A31.out).mono ?_); (case side1 => repeat (first | exact (Kd.C_below HR0.out HB.out) | (with_reducible refine Kd.C_alloc ?_ _) | (with_reducible refine Kd.C_drewN ?_ _) | (with_reducible refine Kd.C_drew ?_))); (case side2 => exact HC0.out); rintro e w40 ⟨v164, rfl, ho0, hb⟩; have n0_ := Aside0.mk (Kd.R_elder' (by (with_reducible repeat (first | apply Kd.R_alloc | apply Kd.R_drewN | apply Kd.R_drew)); exact HO162.out) (Kd.R_base ho0) hb); have n1_ := Aside0.mk (Kd.R_lower (Kd.R_new' ho0 (Kd.R_lt (by (with_reducible repeat (first | apply Kd.R_alloc | apply Kd.R_drewN | apply Kd.R_drew)); exact HO162.out))) (below_size (by repeat (first | (with_reducible first | exact HB.out | apply below_alloc | apply pw_below_drewN | apply below_drew1) | exact HB.out)))); have n2_ := Aside0.mk (below_step (by repeat (first | (with_reducible first | exact HB.out | apply below_alloc | apply pw_below_drewN | apply below_drew1) | exact HB.out)) hb); clear HO162; clear HB; have HO162 := n0_; have HO165 := n1_; have HB := n2_; clear n0_ n1_ n2_; (try clear hb); (try clear hb2); (try clear hk); (try clear hi); (try clear ho0)) | (go_at_call 24; (with_reducible refine (laws_grouped.calls kj10 _ _ l1 t166 _ ?side1 ?side2 A32.out).mono ?_); (case side1 => repeat (first | exact (Kd.C_below HR1.out HB.out) | (with_reducible refine Kd.C_alloc ?_ _) | (with_reducible refine Kd.C_drewN ?_ _) | (with_reducible refine Kd.C_drew ?_))); (case side2 => exact HC1.out); rintro e w41 ⟨v167, rfl, ho0, hb⟩; have n0_ := Aside0.mk (Kd.R_elder' (by (with_reducible repeat (first | apply Kd.R_alloc | apply Kd.R_drewN | apply Kd.R_drew)); exact HO162.out) (Kd.R_base ho0) hb); have n1_ := Aside0.mk (Kd.R_elder' (by (with_reducible repeat (first | apply Kd.R_alloc | apply Kd.R_drewN | apply Kd.R_drew)); exact HO165.out) (Kd.R_base ho0) hb); have n2_ := Aside0.mk (Kd.R_lower (Kd.R_new' (Kd.R_new' ho0 (Kd.R_lt (by (with_reducible repeat (first | apply Kd.R_alloc | apply Kd.R_drewN | apply Kd.R_drew)); exact HO162.out))) (Kd.R_lt (by (with_reducible repeat (first | apply Kd.R_alloc | apply Kd.R_drewN | apply Kd.R_drew)); exact HO165.out))) (below_size (by repeat (first | (with_reducible first | exact HB.out | apply below_alloc | apply pw_below_drewN | apply below_drew1) | exact HB.out)))); have n3_ := Aside0.mk (below_step (by repeat (first | (with_reducible first | exact HB.out | apply below_alloc | apply pw_below_drewN | apply below_drew1) | exact HB.out)) hb); clear HO162; clear HO165; clear HB; have HO162 := n0_; have HO165 := n1_; have HO168 := n2_; have HB := n3_; clear n0_ n1_ n2_ n3_; (try clear hb); (try clear hb2); (try clear hk); (try clear hi); (try clear ho0); obtain ⟨Ao43, co43, eo43⟩ := Kd.R_slice HO168.out; subst eo43) | ((with_reducible refine gate_builtin (b := .append) (xs := #[.tmp 48, .tmp 50]) rfl ?_); (try (refine gate_guard (by rfl) ?_; dsimp only)); at_builtin; refine Kd.R_append_rows k30 (w0 := w) w.heap.size rfl (.tmp 48) (.tmp 50) 27 30 (.agg #[(.string ⟨#[]⟩), (.string ⟨#[]⟩), (.string ⟨#[]⟩)]) 48 rfl Tryd.underlying27 info30 rfl (by decide) (by omega) v164 t163 t166 _ _ _ (fun k_ => some k_ ≠ (v161 : Value).ownBlock ∧ some k_ ≠ (.slice Ao43 t166.length co43 : Value).ownBlock) (fun _ => False) rfl rfl ?aO ?aR (fun _ _ h => h) (fun _ h => h.elim) ?aF ?aB ?aS ?aL ?_; (case aR => repeat (first | exact (Kd.R_reads' HO168.out).2.2 | (with_reducible refine Kd.C_alloc ?_ _) | (with_reducible refine Kd.C_drewN ?_ _) | (with_reducible refine Kd.C_drew ?_))); (case aB => exact (by repeat (first | (with_reducible first | exact HB.out | apply below_alloc | apply pw_below_drewN | apply below_drew1) | exact HB.out))); (case aF => exact (fun k_ hk => ⟨Kd.fresh' (Kd.R_lt (by (with_reducible repeat (first | apply Kd.R_alloc | apply Kd.R_drewN | apply Kd.R_drew)); exact HO162.out)) k_ hk, Kd.fresh' (Kd.R_lt (by (with_reducible repeat (first | apply Kd.R_alloc | apply Kd.R_drewN | apply Kd.R_drew)); exact HO168.out)) k_ hk⟩)); (case aO => exact (by (with_reducible repeat (first | apply Kd.R_alloc | apply Kd.R_drewN | apply Kd.R_drew)); exact Kd.R_mono HO165.out (fun _ hk => ⟨hk.1.2, hk.2⟩))); (case aS => exact (below_size (by repeat (first | (with_reducible first | exact HB.out | apply below_alloc | apply pw_below_drewN | apply below_drew1) | exact HB.out)))); (case aL => have := LMc33.out; omega); intro v170 w42 ho hb hg hat; rw [← Ny169.out] at ho; have n0_ := Aside0.mk (Kd.R_after (ok := (fun k_ => some k_ ≠ (.slice Ao43 t166.length co43 : Value).ownBlock)) (by (with_reducible repeat (first | apply Kd.R_alloc | apply Kd.R_drewN | apply Kd.R_drew)); exact Kd.R_mono HO162.out (fun _ hk => ⟨hk.2, hk.1.2⟩)) hg hat); have n1_ := Aside0.mk (Kd.R_after (ok := (fun k_ => some k_ ≠ (v161 : Value).ownBlock)) (by (with_reducible repeat (first | apply Kd.R_alloc | apply Kd.R_drewN | apply Kd.R_drew)); exact Kd.R_mono HO168.out (fun _ hk => ⟨hk.1.2, hk.2⟩)) hg hat); have n2_ := Aside0.mk (hb); have n3_ := Aside0.mk (ho); clear HO162; clear HO168; clear HB; clear HO165; have HO162 := n0_; have HO168 := n1_; have HB := n2_; have HO171 := n3_; clear n0_ n1_ n2_ n3_; clear ho hb hg hat; obtain ⟨Ao44, co44, eo44⟩ := Kd.R_slice HO162.out; subst eo44; obtain ⟨Ao45, co45, eo45⟩ := Kd.R_slice HO171.out; subst eo45) | (go_at_call 20; (with_reducible refine (laws_sameOptions.calls kj10 _ _ t159 _ _ y169 true _ ?side1 ?side2 ?side3 ?side4 A34.out).mono ?_); (case side1 => repeat (first | exact (Kd.R_reads' HO162.out).2.2 | (with_reducible refine Kd.C_alloc ?_ _) | (with_reducible refine Kd.C_drewN ?_ _) | (with_reducible refine Kd.C_drew ?_))); (case side2 => exact (Kd.R_reads' HO162.out).2.1); (case side3 => repeat (first | exact (Kd.R_reads' HO171.out).2.2 | (with_reducible refine Kd.C_alloc ?_ _) | (with_reducible refine Kd.C_drewN ?_ _) | (with_reducible refine Kd.C_drew ?_))); (case side4 => exact (Kd.R_reads' HO171.out).2.1); rintro e w' ⟨rfl, ⟨nd, rfl⟩⟩) | (go_at_call 19; (with_reducible refine (laws_reads.calls  t173 _ ?side1 A36.out).mono ?_); (case side1 => exact tabW_below HTAB.out (by repeat (first | (with_reducible first | exact HB.out | apply below_alloc | apply pw_below_drewN | apply below_drew1) | exact HB.out))); rintro e w46 ⟨rfl, hb⟩; have n0_ := Aside0.mk (Kd.R_below (by (with_reducible repeat (first | apply Kd.R_alloc | apply Kd.R_drewN | apply Kd.R_drew)); exact HO162.out) hb); have n1_ := Aside0.mk (Kd.R_below (by (with_reducible repeat (first | apply Kd.R_alloc | apply Kd.R_drewN | apply Kd.R_drew)); exact HO168.out) hb); have n2_ := Aside0.mk (Kd.R_below (by (with_reducible repeat (first | apply Kd.R_alloc | apply Kd.R_drewN | apply Kd.R_drew)); exact HO171.out) hb); have n3_ := Aside0.mk (below_step (by repeat (first | (with_reducible first | exact HB.out | apply below_alloc | apply pw_below_drewN | apply below_drew1) | exact HB.out)) hb); clear HO162; clear HO168; clear HO171; clear HB; have HO162 := n0_; have HO168 := n1_; have HO171 := n2_; have HB := n3_; clear n0_ n1_ n2_ n3_; (try clear hb); (try clear hb2); (try clear hk); (try clear hi)))
            go_ret
            exact ⟨by first | rfl | (simp [errW_none, errW_some] <;> rfl) | (simp [*, errW_none, errW_some] <;> rfl), by repeat (first | (with_reducible first | exact HB.out | apply below_alloc | apply pw_below_drewN | apply below_drew1) | exact HB.out)⟩
           ·replace c35 := Bool.eq_false_iff.mpr c35
            subst c35
            have H1 : (some false) = some r := by rw [if_neg (show ¬ (false = true) by decide)] at H; exact H
            clear H
            have H := H1
            clear H1
            obtain rfl := Option.some.inj H
            go_wp2_with (first | ((with_reducible refine gate_callee (f := 23) rfl ?_); refine goesL_ (some 35) rfl rfl Tryd.func23 (by kernel_rfl) rfl #[.slice A0 l0.length c0] rfl (by (try simp only [List.map_toArray, List.map_cons, List.map_nil]); first | done | rfl | (simp only [List.length_drop, List.length_take]; rfl)) ?_; (with_reducible refine (impl_UnitWrite.calls _ _ l0 t157 _ ?side1 ?side2 A25.out).mono ?_); (case side1 => repeat (first | exact (Kd.C_below HR0.out HB.out) | (with_reducible refine Kd.C_alloc ?_ _) | (with_reducible refine Kd.C_drewN ?_ _) | (with_reducible refine Kd.C_drew ?_))); (case side2 => exact HC0.out); rintro e w47 ⟨rfl, hb⟩; refine ⟨_, rfl, ?_⟩; have n0_ := Aside0.mk (below_step (by repeat (first | (with_reducible first | exact HB.out | apply below_alloc | apply pw_below_drewN | apply below_drew1) | exact HB.out)) hb); clear HB; have HB := n0_; clear n0_; (try clear hb); (try clear hb2); (try clear hk); (try clear hi)) | ((with_reducible refine gate_callee (f := 23) rfl ?_); refine goesL_ (some 38) rfl rfl Tryd.func23 (by kernel_rfl) rfl #[.slice A1 l1.length c1] rfl (by (try simp only [List.map_toArray, List.map_cons, List.map_nil]); first | done | rfl | (simp only [List.length_drop, List.length_take]; rfl)) ?_; (with_reducible refine (impl_UnitWrite.calls _ _ l1 t158 _ ?side1 ?side2 A27.out).mono ?_); (case side1 => repeat (first | exact (Kd.C_below HR1.out HB.out) | (with_reducible refine Kd.C_alloc ?_ _) | (with_reducible refine Kd.C_drewN ?_ _) | (with_reducible refine Kd.C_drew ?_))); (case side2 => exact HC1.out); rintro e w48 ⟨rfl, hb⟩; refine ⟨_, rfl, ?_⟩; have n0_ := Aside0.mk (below_step (by repeat (first | (with_reducible first | exact HB.out | apply below_alloc | apply pw_below_drewN | apply below_drew1) | exact HB.out)) hb); clear HB; have HB := n0_; clear n0_; (try clear hb); (try clear hb2); (try clear hk); (try clear hi)) | ((with_reducible refine gate_callee (f := 21) rfl ?_); refine goesL_ (some 40) rfl rfl Tryd.func21 (by kernel_rfl) rfl #[.string ((t157 ++ (⟨#[10]⟩ : ByteArray)) ++ t158)] rfl (by (try simp only [List.map_toArray, List.map_cons, List.map_nil]); first | done | rfl | (simp only [List.length_drop, List.length_take]; rfl)) ?_; (with_reducible refine (impl_UnitRead.calls ((t157 ++ (⟨#[10]⟩ : ByteArray)) ++ t158) t159 t160 _ ?side1 A29.out).mono ?_); (case side1 => exact tabW_below HTAB.out (by repeat (first | (with_reducible first | exact HB.out | apply below_alloc | apply pw_below_drewN | apply below_drew1) | exact HB.out))); rintro e w49 ⟨v161, rfl, ho0, hb⟩; refine ⟨_, rfl, ?_⟩; have n0_ := Aside0.mk (Kd.R_lower ho0 (below_size (by repeat (first | (with_reducible first | exact HB.out | apply below_alloc | apply pw_below_drewN | apply below_drew1) | exact HB.out)))); have n1_ := Aside0.mk (below_step (by repeat (first | (with_reducible first | exact HB.out | apply below_alloc | apply pw_below_drewN | apply below_drew1) | exact HB.out)) hb); clear HB; have HO162 := n0_; have HB := n1_; clear n0_ n1_; (try clear hb); (try clear hb2); (try clear hk); (try clear hi); (try clear ho0)) | (go_at_call 24; (with_reducible refine (laws_grouped.calls kj10 _ _ l0 t163 _ ?side1 ?side2 A31.out).mono ?_); (case side1 => repeat (first | exact (Kd.C_below HR0.out HB.out) | (with_reducible refine Kd.C_alloc ?_ _) | (with_reducible refine Kd.C_drewN ?_ _) | (with_reducible refine Kd.C_drew ?_))); (case side2 => exact HC0.out); rintro e w50 ⟨v164, rfl, ho0, hb⟩; have n0_ := Aside0.mk (Kd.R_elder' (by (with_reducible repeat (first | apply Kd.R_alloc | apply Kd.R_drewN | apply Kd.R_drew)); exact HO162.out) (Kd.R_base ho0) hb); have n1_ := Aside0.mk (Kd.R_lower (Kd.R_new' ho0 (Kd.R_lt (by (with_reducible repeat (first | apply Kd.R_alloc | apply Kd.R_drewN | apply Kd.R_drew)); exact HO162.out))) (below_size (by repeat (first | (with_reducible first | exact HB.out | apply below_alloc | apply pw_below_drewN | apply below_drew1) | exact HB.out)))); have n2_ := Aside0.mk (below_step (by repeat (first | (with_reducible first | exact HB.out | apply below_alloc | apply pw_below_drewN | apply below_drew1) | exact HB.out)) hb); clear HO162; clear HB; have HO162 := n0_; have HO165 := n1_; have HB := n2_; clear n0_ n1_ n2_; (try clear hb); (try clear hb2); (try clear hk); (try clear hi); (try clear ho0)) | (go_at_call 24; (with_reducible refine (laws_grouped.calls kj10 _ _ l1 t166 _ ?side1 ?side2 A32.out).mono ?_); (case side1 => repeat (first | exact (Kd.C_below HR1.out HB.out) | (with_reducible refine Kd.C_alloc ?_ _) | (with_reducible refine Kd.C_drewN ?_ _) | (with_reducible refine Kd.C_drew ?_))); (case side2 => exact HC1.out); rintro e w51 ⟨v167, rfl, ho0, hb⟩; have n0_ := Aside0.mk (Kd.R_elder' (by (with_reducible repeat (first | apply Kd.R_alloc | apply Kd.R_drewN | apply Kd.R_drew)); exact HO162.out) (Kd.R_base ho0) hb); have n1_ := Aside0.mk (Kd.R_elder' (by (with_reducible repeat (first | apply Kd.R_alloc | apply Kd.R_drewN | apply Kd.R_drew)); exact HO165.out) (Kd.R_base ho0) hb); have n2_ := Aside0.mk (Kd.R_lower (Kd.R_new' (Kd.R_new' ho0 (Kd.R_lt (by (with_reducible repeat (first | apply Kd.R_alloc | apply Kd.R_drewN | apply Kd.R_drew)); exact HO162.out))) (Kd.R_lt (by (with_reducible repeat (first | apply Kd.R_alloc | apply Kd.R_drewN | apply Kd.R_drew)); exact HO165.out))) (below_size (by repeat (first | (with_reducible first | exact HB.out | apply below_alloc | apply pw_below_drewN | apply below_drew1) | exact HB.out)))); have n3_ := Aside0.mk (below_step (by repeat (first | (with_reducible first | exact HB.out | apply below_alloc | apply pw_below_drewN | apply below_drew1) | exact HB.out)) hb); clear HO162; clear HO165; clear HB; have HO162 := n0_; have HO165 := n1_; have HO168 := n2_; have HB := n3_; clear n0_ n1_ n2_ n3_; (try clear hb); (try clear hb2); (try clear hk); (try clear hi); (try clear ho0); obtain ⟨Ao53, co53, eo53⟩ := Kd.R_slice HO168.out; subst eo53) | ((with_reducible refine gate_builtin (b := .append) (xs := #[.tmp 48, .tmp 50]) rfl ?_); (try (refine gate_guard (by rfl) ?_; dsimp only)); at_builtin; refine Kd.R_append_rows k30 (w0 := w) w.heap.size rfl (.tmp 48) (.tmp 50) 27 30 (.agg #[(.string ⟨#[]⟩), (.string ⟨#[]⟩), (.string ⟨#[]⟩)]) 48 rfl Tryd.underlying27 info30 rfl (by decide) (by omega) v164 t163 t166 _ _ _ (fun k_ => some k_ ≠ (v161 : Value).ownBlock ∧ some k_ ≠ (.slice Ao53 t166.length co53 : Value).ownBlock) (fun _ => False) rfl rfl ?aO ?aR (fun _ _ h => h) (fun _ h => h.elim) ?aF ?aB ?aS ?aL ?_; (case aR => repeat (first | exact (Kd.R_reads' HO168.out).2.2 | (with_reducible refine Kd.C_alloc ?_ _) | (with_reducible refine Kd.C_drewN ?_ _) | (with_reducible refine Kd.C_drew ?_))); (case aB => exact (by repeat (first | (with_reducible first | exact HB.out | apply below_alloc | apply pw_below_drewN | apply below_drew1) | exact HB.out))); (case aF => exact (fun k_ hk => ⟨Kd.fresh' (Kd.R_lt (by (with_reducible repeat (first | apply Kd.R_alloc | apply Kd.R_drewN | apply Kd.R_drew)); exact HO162.out)) k_ hk, Kd.fresh' (Kd.R_lt (by (with_reducible repeat (first | apply Kd.R_alloc | apply Kd.R_drewN | apply Kd.R_drew)); exact HO168.out)) k_ hk⟩)); (case aO => exact (by (with_reducible repeat (first | apply Kd.R_alloc | apply Kd.R_drewN | apply Kd.R_drew)); exact Kd.R_mono HO165.out (fun _ hk => ⟨hk.1.2, hk.2⟩))); (case aS => exact (below_size (by repeat (first | (with_reducible first | exact HB.out | apply below_alloc | apply pw_below_drewN | apply below_drew1) | exact HB.out)))); (case aL => have := LMc33.out; omega); intro v170 w52 ho hb hg hat; rw [← Ny169.out] at ho; have n0_ := Aside0.mk (Kd.R_after (ok := (fun k_ => some k_ ≠ (.slice Ao53 t166.length co53 : Value).ownBlock)) (by (with_reducible repeat (first | apply Kd.R_alloc | apply Kd.R_drewN | apply Kd.R_drew)); exact Kd.R_mono HO162.out (fun _ hk => ⟨hk.2, hk.1.2⟩)) hg hat); have n1_ := Aside0.mk (Kd.R_after (ok := (fun k_ => some k_ ≠ (v161 : Value).ownBlock)) (by (with_reducible repeat (first | apply Kd.R_alloc | apply Kd.R_drewN | apply Kd.R_drew)); exact Kd.R_mono HO168.out (fun _ hk => ⟨hk.1.2, hk.2⟩)) hg hat); have n2_ := Aside0.mk (hb); have n3_ := Aside0.mk (ho); clear HO162; clear HO168; clear HB; clear HO165; have HO162 := n0_; have HO168 := n1_; have HB := n2_; have HO171 := n3_; clear n0_ n1_ n2_ n3_; clear ho hb hg hat; obtain ⟨Ao54, co54, eo54⟩ := Kd.R_slice HO162.out; subst eo54; obtain ⟨Ao55, co55, eo55⟩ := Kd.R_slice HO171.out; subst eo55) | (go_at_call 20; (with_reducible refine (laws_sameOptions.calls kj10 _ _ t159 _ _ y169 false _ ?side1 ?side2 ?side3 ?side4 A34.out).mono ?_); (case side1 => repeat (first | exact (Kd.R_reads' HO162.out).2.2 | (with_reducible refine Kd.C_alloc ?_ _) | (with_reducible refine Kd.C_drewN ?_ _) | (with_reducible refine Kd.C_drew ?_))); (case side2 => exact (Kd.R_reads' HO162.out).2.1); (case side3 => repeat (first | exact (Kd.R_reads' HO171.out).2.2 | (with_reducible refine Kd.C_alloc ?_ _) | (with_reducible refine Kd.C_drewN ?_ _) | (with_reducible refine Kd.C_drew ?_))); (case side4 => exact (Kd.R_reads' HO171.out).2.1); rintro e w' ⟨rfl, ⟨nd, rfl⟩⟩))
            go_ret
            exact ⟨by first | rfl | (simp [errW_none, errW_some] <;> rfl) | (simp [*, errW_none, errW_some] <;> rfl), by repeat (first | (with_reducible first | exact HB.out | apply below_alloc | apply pw_below_drewN | apply below_drew1) | exact HB.out)⟩
          ·rw [if_neg c33] at H
           exact absurd H (by simp)
         ·rw [if_neg c30] at H
          have c30b0 : (t160 == 0) = false := beq_eq_false_iff_ne.mpr c30
          have c30b1 : (t160 != 0) = true := bne_iff_ne.mpr c30
          obtain rfl := Option.some.inj H
          go_wp2_with (first | ((with_reducible refine gate_callee (f := 23) rfl ?_); refine goesL_ (some 35) rfl rfl Tryd.func23 (by kernel_rfl) rfl #[.slice A0 l0.length c0] rfl (by (try simp only [List.map_toArray, List.map_cons, List.map_nil]); first | done | rfl | (simp only [List.length_drop, List.length_take]; rfl)) ?_; (with_reducible refine (impl_UnitWrite.calls _ _ l0 t157 _ ?side1 ?side2 A25.out).mono ?_); (case side1 => repeat (first | exact (Kd.C_below HR0.out HB.out) | (with_reducible refine Kd.C_alloc ?_ _) | (with_reducible refine Kd.C_drewN ?_ _) | (with_reducible refine Kd.C_drew ?_))); (case side2 => exact HC0.out); rintro e w56 ⟨rfl, hb⟩; refine ⟨_, rfl, ?_⟩; have n0_ := Aside0.mk (below_step (by repeat (first | (with_reducible first | exact HB.out | apply below_alloc | apply pw_below_drewN | apply below_drew1) | exact HB.out)) hb); clear HB; have HB := n0_; clear n0_; (try clear hb); (try clear hb2); (try clear hk); (try clear hi)) | ((with_reducible refine gate_callee (f := 23) rfl ?_); refine goesL_ (some 38) rfl rfl Tryd.func23 (by kernel_rfl) rfl #[.slice A1 l1.length c1] rfl (by (try simp only [List.map_toArray, List.map_cons, List.map_nil]); first | done | rfl | (simp only [List.length_drop, List.length_take]; rfl)) ?_; (with_reducible refine (impl_UnitWrite.calls _ _ l1 t158 _ ?side1 ?side2 A27.out).mono ?_); (case side1 => repeat (first | exact (Kd.C_below HR1.out HB.out) | (with_reducible refine Kd.C_alloc ?_ _) | (with_reducible refine Kd.C_drewN ?_ _) | (with_reducible refine Kd.C_drew ?_))); (case side2 => exact HC1.out); rintro e w57 ⟨rfl, hb⟩; refine ⟨_, rfl, ?_⟩; have n0_ := Aside0.mk (below_step (by repeat (first | (with_reducible first | exact HB.out | apply below_alloc | apply pw_below_drewN | apply below_drew1) | exact HB.out)) hb); clear HB; have HB := n0_; clear n0_; (try clear hb); (try clear hb2); (try clear hk); (try clear hi)) | ((with_reducible refine gate_callee (f := 21) rfl ?_); refine goesL_ (some 40) rfl rfl Tryd.func21 (by kernel_rfl) rfl #[.string ((t157 ++ (⟨#[10]⟩ : ByteArray)) ++ t158)] rfl (by (try simp only [List.map_toArray, List.map_cons, List.map_nil]); first | done | rfl | (simp only [List.length_drop, List.length_take]; rfl)) ?_; (with_reducible refine (impl_UnitRead.calls ((t157 ++ (⟨#[10]⟩ : ByteArray)) ++ t158) t159 t160 _ ?side1 A29.out).mono ?_); (case side1 => exact tabW_below HTAB.out (by repeat (first | (with_reducible first | exact HB.out | apply below_alloc | apply pw_below_drewN | apply below_drew1) | exact HB.out))); rintro e w58 ⟨v161, rfl, ho0, hb⟩; refine ⟨_, rfl, ?_⟩; have n0_ := Aside0.mk (Kd.R_lower ho0 (below_size (by repeat (first | (with_reducible first | exact HB.out | apply below_alloc | apply pw_below_drewN | apply below_drew1) | exact HB.out)))); have n1_ := Aside0.mk (below_step (by repeat (first | (with_reducible first | exact HB.out | apply below_alloc | apply pw_below_drewN | apply below_drew1) | exact HB.out)) hb); clear HB; have HO162 := n0_; have HB := n1_; clear n0_ n1_; (try clear hb); (try clear hb2); (try clear hk); (try clear hi); (try clear ho0)))
          go_ret
          exact ⟨by first | rfl | (simp [errW_none, errW_some] <;> rfl) | (simp [*, errW_none, errW_some] <;> rfl), by repeat (first | (with_reducible first | exact HB.out | apply below_alloc | apply pw_below_drewN | apply below_drew1) | exact HB.out)⟩
        ·rw [if_neg c28] at H
         exact absurd H (by simp)
       ·rw [if_neg c26] at H
        exact absurd H (by simp)
end Go.Proofs.YtgnfapnnbcafbaaDoor.GUL
end
section
/- Plain facts: FnUnitJoined says yes, always. No condition. -/
namespace Go.Proofs.YtgnfapnnbcafbaaDoor.GUL
open Go Go.RowKit Go.Proofs.YtgnfapnnbcafbaaDoorW.PrintWords Go.Proofs.YtgnfapnnbcafbaaDoorW Go.Proofs.YtgnfapnnbcafbaaDoorW.PrintLast Go.Proofs.YtgnfapnnbcafbaaDoor.UN
set_option linter.unusedVariables false
set_option linter.unusedSimpArgs false
theorem j1_true (a b : List S30) : Ev (fun k => laws_FnUnitJoined.j1 k a b true) true :=
 Ev.step (f := fun _ => some true) (fun k => by simp only [laws_FnUnitJoined.j1]; rw [if_pos trivial]) (Ev.now _)
theorem j0_true (a b : List S30) : Ev (fun k => laws_FnUnitJoined.j0 k a b true) true :=
 Ev.step (f := fun _ => some true) (fun k => by simp only [laws_FnUnitJoined.j0]; rw [if_pos trivial]) (Ev.now _)
theorem j1_false {a b : List S30} (ha : Plains a) (hb : Plains b) (na : a ≠ []) (nb : b ≠ []) : Ev (fun k => laws_FnUnitJoined.j1 k a b false) true := by
 have la := ha.len
 have lb := hb.len
 have e : (sB (groupsText (groups (a.map toO))) ++ (⟨#[10]⟩ : ByteArray)) ++ sB (groupsText (groups (b.map toO))) = sB (groupsText (groups (a.map toO)) ++ 10 :: groupsText (groups (b.map toO))) := by
  rw [show (⟨#[10]⟩ : ByteArray) = sB [10] from rfl, sB_add, sB_add, List.append_assoc]
  rfl
 have e5 : (⟨#[10]⟩ : ByteArray).size = 1 := rfl
 have hga : (groupedL (a.map toO)).length ≤ 200 := by have := groupedL_len (a.map toO); have := ha.1; rw [List.length_map] at *; omega
 have hgb : (groupedL (b.map toO)).length ≤ 200 := by have := groupedL_len (b.map toO); have := hb.1; rw [List.length_map] at *; omega
 refine Ev.step (f := fun k => (laws_grouped.f k a).bind fun t163 => ((laws_grouped.f k b).bind fun t166 => (if t163.length + t166.length < 2932031007402 then ((laws_sameOptions.f k ((groupedL (a.map toO) ++ groupedL (b.map toO)).map toS) (t163 ++ t166)).bind fun t172 => (if t172 = true then some true else (some false))) else (none)))) (fun k => ?_) ?_
 ·simp only [laws_FnUnitJoined.j1]
  rw [if_neg (by simp), write_is ha, Option.bind_some, if_pos (by rw [sB_size]; omega), write_is hb, Option.bind_some, if_pos (by rw [ByteArray.size_append, e5, sB_size, sB_size]; omega), e, joined_is ha hb na nb, Option.bind_some, reads_yes]
  rfl
 ·refine Ev.bind (f := fun k t163 => ((laws_grouped.f k b).bind fun t166 => (if t163.length + t166.length < 2932031007402 then ((laws_sameOptions.f k ((groupedL (a.map toO) ++ groupedL (b.map toO)).map toS) (t163 ++ t166)).bind fun t172 => (if t172 = true then some true else (some false))) else (none)))) (grouped_is a (by have := ha.1; omega)) ?_
  refine Ev.bind (f := fun k t166 => (if ((groupedL (a.map toO)).map toS).length + t166.length < 2932031007402 then ((laws_sameOptions.f k ((groupedL (a.map toO) ++ groupedL (b.map toO)).map toS) (((groupedL (a.map toO)).map toS) ++ t166)).bind fun t172 => (if t172 = true then some true else (some false))) else (none))) (grouped_is b (by have := hb.1; omega)) ?_
  rw [← List.map_append]
  simp only [List.length_map, if_pos (show (groupedL (a.map toO)).length + (groupedL (b.map toO)).length < 2932031007402 by omega)]
  exact Ev.bind (f := fun k t172 => (if t172 = true then some true else (some false))) (same_self _ (by rw [List.length_map, List.length_append]; omega)) (Ev.now _)
theorem j0_false (a b : List S30) (fa : a.length ≤ 2147483647 ∧ ∀ x ∈ a, Fit30 x) (fb : b.length ≤ 2147483647 ∧ ∀ x ∈ b, Fit30 x) : Ev (fun k => laws_FnUnitJoined.j0 k a b false) true := by
 obtain ⟨c, hc, hp⟩ := plains_is a fa.1 fa.2
 obtain ⟨d, hd, hq⟩ := plains_is b fb.1 fb.2
 refine Ev.step (f := fun k => (laws_plainOptions.f k a).bind fun t155 => (if t155 = true then ((laws_plainOptions.f k b).bind fun t156 => (if t156 = true then (if (a.length : Int) = 0 then (laws_FnUnitJoined.j1 k a b true) else (laws_FnUnitJoined.j1 k a b ((b.length : Int) == 0))) else (laws_FnUnitJoined.j1 k a b true))) else (laws_FnUnitJoined.j1 k a b true))) (fun k => ?_) ?_
 ·simp only [laws_FnUnitJoined.j0]
  rw [if_neg (by simp)]
 ·refine Ev.bind (a := c) (f := fun k t155 => (if t155 = true then ((laws_plainOptions.f k b).bind fun t156 => (if t156 = true then (if (a.length : Int) = 0 then (laws_FnUnitJoined.j1 k a b true) else (laws_FnUnitJoined.j1 k a b ((b.length : Int) == 0))) else (laws_FnUnitJoined.j1 k a b true))) else (laws_FnUnitJoined.j1 k a b true))) hc ?_
  cases c with
  | false => exact j1_true a b
  | true =>
   simp only [if_true]
   refine Ev.bind (a := d) (f := fun k t156 => (if t156 = true then (if (a.length : Int) = 0 then (laws_FnUnitJoined.j1 k a b true) else (laws_FnUnitJoined.j1 k a b ((b.length : Int) == 0))) else (laws_FnUnitJoined.j1 k a b true))) hd ?_
   cases d with
   | false => exact j1_true a b
   | true =>
    simp only [if_true]
    by_cases ha : (a.length : Int) = 0
    ·simp only [if_pos ha]
     exact j1_true a b
    ·simp only [if_neg ha]
     by_cases hb : (b.length : Int) = 0
     ·rw [show ((b.length : Int) == 0) = true from beq_iff_eq.mpr hb]
      exact j1_true a b
     ·rw [show ((b.length : Int) == 0) = false from beq_eq_false_iff_ne.mpr hb]
      exact j1_false (hp rfl) (hq rfl) (by rintro rfl; exact ha rfl) (by rintro rfl; exact hb rfl)
theorem joined_pure (a b : List S30) : Ev (fun k => laws_FnUnitJoined.f k a b) true := by
 obtain ⟨c, hc, hp⟩ := zz7 a
 obtain ⟨d, hd, hq⟩ := zz7 b
 unfold laws_FnUnitJoined.f
 refine Ev.bind (a := c) (f := fun k t153 => (if t153 = true then ((laws_zzFits7.f k b).bind fun t154 => (laws_FnUnitJoined.j0 k a b (!t154))) else (laws_FnUnitJoined.j0 k a b true))) hc ?_
 cases c with
 | false => exact j0_true a b
 | true =>
  simp only [if_true]
  refine Ev.bind (a := d) (f := fun k t154 => (laws_FnUnitJoined.j0 k a b (!t154))) hd ?_
  cases d with
  | false => exact j0_true a b
  | true => exact j0_false a b (hp rfl) (hq rfl)
end Go.Proofs.YtgnfapnnbcafbaaDoor.GUL
end
