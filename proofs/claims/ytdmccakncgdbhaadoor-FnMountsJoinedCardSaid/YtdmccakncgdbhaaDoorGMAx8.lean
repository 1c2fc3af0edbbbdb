-- printed by gprint.py (a session's own turn of the kit's print): MA
import Derived.Test.YtdmccakncgdbhaaDoorGMAx0
import Derived.Test.YtdmccakncgdbhaaDoorGMAx1
import Derived.Test.YtdmccakncgdbhaaDoorGMAx7
import Derived.Test.YtdmccakncgdbhaaDoorGivenMA
import Derived.Test.YtdmccakncgdbhaaDoorGivenMT
import Derived.Test.YtdmccakncgdbhaaDoorGivenMB
namespace Go.Proofs.YtdmccakncgdbhaaDoor.GMA
open Go.RowKit Go.Proofs.YtdmccakncgdbhaaDoorW.PrintWords Go.Proofs.YtdmccakncgdbhaaDoorW.PrintLast Go.Proofs.YtdmccakncgdbhaaDoorW.PrintMore
attribute [local go_sem] max2_int min2_int max_two min_two max_three min_three max_four min_four   -- for this text's walks alone
set_option linter.unusedVariables false
set_option linter.unusedSimpArgs false

attribute [local go_sem high] eqA36
/-! ### laws_printed: function 7 -/
def laws_printed.f (k : Nat) (l0 : List (S36)) : Option (ByteArray × Bool) := if (l0.length : Int) > 200 then (some ((⟨#[]⟩ : ByteArray), false)) else ((laws_mountsTo.f k l0).bind fun t189 => ((spec_MountsPrint.f k t189).bind fun bt192 => (if bt192.2 = 1 then (some (bt192.1, decide ((bt192.1.size : Int) ≤ 60000))) else (some (bt192.1, false)))))
theorem laws_printed.mono : ∀ a0 k, LeO (laws_printed.f k a0) (laws_printed.f (k + 1) a0) := by
  intro a0 k
  unfold laws_printed.f
  repeat' first
      | (with_reducible exact laws_mountsTo.mono _ _)
      | (with_reducible exact spec_MountsPrint.mono _ _)
      | (with_reducible exact LeO.refl _)
      | (with_reducible exact LeO.none _)
      | (with_reducible refine LeO.ite ?_ ?_)
      | (with_reducible refine LeO.bind ?_ (fun _ => ?_))
      | exact laws_mountsTo.mono _ _
      | exact spec_MountsPrint.mono _ _
      | exact LeO.none _
      | refine LeO.ite ?_ ?_
      | refine LeO.bind ?_ (fun _ => ?_)
set_option maxHeartbeats 8000000 in
set_option maxRecDepth 100000 in
theorem laws_printed.calls (k : Nat) (A0 : Option Addr) (c0 : Nat) (l0 : List (S36)) (r1 : ByteArray) (r2 : Bool) (w : World) (hr0 : Kd.C k36 w A0 l0.length l0) (hc0 : l0.length ≤ c0) (h : laws_printed.f k l0 = some (r1, r2)) :
    Calls Tryd.prog 7 #[.slice A0 l0.length c0] w fun e w' => e = .returned (.tuple #[.string r1, .bool r2]) ∧ Below w.heap.size w w' := by
  have HR0 := Aside0.mk hr0
  have HC0 := Aside0.mk hc0
  clear hr0 hc0
  have HB := Aside0.mk (Below.refl w.heap.size w)
  have H : (if (l0.length : Int) > 200 then (some ((⟨#[]⟩ : ByteArray), false)) else ((laws_mountsTo.f k l0).bind fun t189 => ((spec_MountsPrint.f k t189).bind fun bt192 => (if bt192.2 = 1 then (some (bt192.1, decide ((bt192.1.size : Int) ≤ 60000))) else (some (bt192.1, false)))))) = some (r1, r2) := h
  clear h
  by_cases c2 : (l0.length : Int) > 200
  · rw [if_pos c2] at H
    have c2b0 : decide (200 < (l0.length : Int)) = true := decide_eq_true c2
    have c2b1 : decide (200 < l0.length) = true := decide_eq_true (by omega)
    clear c2
    simp only [Option.some.injEq, Prod.mk.injEq] at H
    obtain ⟨rfl, rfl⟩ := H
    go_enter Tryd.func7, Tryd.ntmps7
    go_wp2
    go_ret2
    exact ⟨by first | rfl | (simp [errW_none, errW_some] <;> rfl) | (simp [*, errW_none, errW_some] <;> rfl), by repeat (first | (with_reducible first | exact HB.out | apply below_alloc | apply pw_below_drewN | apply below_drew1) | exact HB.out)⟩
  · rw [if_neg c2] at H
    have c2b0 : decide (200 < (l0.length : Int)) = false := decide_eq_false c2
    have c2b1 : decide (200 < l0.length) = false := decide_eq_false (by omega)
    clear c2
    replace H := Option.bind_eq_some_iff.mp H
    obtain ⟨t189, A30, H⟩ := H
    replace H : ((spec_MountsPrint.f k t189).bind fun bt192 => (if bt192.2 = 1 then (some (bt192.1, decide ((bt192.1.size : Int) ≤ 60000))) else (some (bt192.1, false)))) = some (r1, r2) := H
    have A3 := Aside0.mk A30
    clear A30
    replace H := Option.bind_eq_some_iff.mp H
    obtain ⟨⟨t192, t193⟩, A40, H⟩ := H
    replace H : (if t193 = 1 then (some (t192, decide ((t192.size : Int) ≤ 60000))) else (some (t192, false))) = some (r1, r2) := H
    have A4 := Aside0.mk A40
    clear A40
    by_cases c5 : t193 = 1
    · rw [if_pos c5] at H
      have c5b0 : (t193 == 1) = true := beq_iff_eq.mpr c5
      have c5b1 : (t193 != 1) = false := bne_eq_false_iff_eq.mpr c5
      clear c5
      simp only [Option.some.injEq, Prod.mk.injEq] at H
      obtain ⟨rfl, rfl⟩ := H
      go_enter Tryd.func7, Tryd.ntmps7
      go_wp2_with (first | ((with_reducible refine gate_callee (f := 17) rfl ?_); refine goesL_ (some 11) rfl rfl Tryd.func17 (by kernel_rfl) rfl #[.slice A0 l0.length c0] rfl (by (try simp only [List.map_toArray, List.map_cons, List.map_nil]); first | done | rfl | (simp only [List.length_drop, List.length_take]; rfl)) ?_; (with_reducible refine (laws_mountsTo.calls k _ _ l0 t189 _ ?side1 ?side2 A3.out).mono ?_); (case side1 => repeat (first | exact HR0.out | (with_reducible refine Kd.C_alloc ?_ _) | (with_reducible refine Kd.C_drewN ?_ _) | (with_reducible refine Kd.C_drew ?_))); (case side2 => exact HC0.out); rintro e w6 ⟨v190, rfl, ho0, hb⟩; refine ⟨_, rfl, ?_⟩; have n0_ := Aside0.mk (Kd.R_lower ho0 (below_size (by repeat (first | (with_reducible first | exact HB.out | apply below_alloc | apply pw_below_drewN | apply below_drew1) | exact HB.out)))); have n1_ := Aside0.mk (below_step (by repeat (first | (with_reducible first | exact HB.out | apply below_alloc | apply pw_below_drewN | apply below_drew1) | exact HB.out)) hb); clear HB; have HO191 := n0_; have HB := n1_; clear n0_ n1_; (try clear hb); (try clear hb2); (try clear hk); (try clear hi); (try clear ho0); obtain ⟨Ao7, co7, eo7⟩ := Kd.R_slice HO191.out; subst eo7) | ((with_reducible refine gate_callee (f := 16) rfl ?_); refine goesL_ (some 12) rfl rfl Tryd.func16 (by kernel_rfl) rfl #[.slice Ao7 t189.length co7] rfl (by (try simp only [List.map_toArray, List.map_cons, List.map_nil]); first | done | rfl | (simp only [List.length_drop, List.length_take]; rfl)) ?_; (with_reducible refine (spec_MountsPrint.calls k _ _ t189 t192 t193 _ ?side1 ?side2 A4.out).mono ?_); (case side1 => repeat (first | exact (Kd.R_reads' HO191.out).2.2 | (with_reducible refine Kd.C_alloc ?_ _) | (with_reducible refine Kd.C_drewN ?_ _) | (with_reducible refine Kd.C_drew ?_))); (case side2 => exact (Kd.R_reads' HO191.out).2.1); rintro e w8 ⟨rfl, hb⟩; refine ⟨_, rfl, ?_⟩; have n0_ := Aside0.mk (Kd.R_below (by (with_reducible repeat (first | apply Kd.R_alloc | apply Kd.R_drewN | apply Kd.R_drew)); exact HO191.out) hb); have n1_ := Aside0.mk (below_step (by repeat (first | (with_reducible first | exact HB.out | apply below_alloc | apply pw_below_drewN | apply below_drew1) | exact HB.out)) hb); clear HO191; clear HB; have HO191 := n0_; have HB := n1_; clear n0_ n1_; (try clear hb); (try clear hb2); (try clear hk); (try clear hi)))
      go_ret2
      exact ⟨by first | rfl | (simp [errW_none, errW_some] <;> rfl) | (simp [*, errW_none, errW_some] <;> rfl), by repeat (first | (with_reducible first | exact HB.out | apply below_alloc | apply pw_below_drewN | apply below_drew1) | exact HB.out)⟩
    · rw [if_neg c5] at H
      have c5b0 : (t193 == 1) = false := beq_eq_false_iff_ne.mpr c5
      have c5b1 : (t193 != 1) = true := bne_iff_ne.mpr c5
      simp only [Option.some.injEq, Prod.mk.injEq] at H
      obtain ⟨rfl, rfl⟩ := H
      go_enter Tryd.func7, Tryd.ntmps7
      go_wp2_with (first | ((with_reducible refine gate_callee (f := 17) rfl ?_); refine goesL_ (some 11) rfl rfl Tryd.func17 (by kernel_rfl) rfl #[.slice A0 l0.length c0] rfl (by (try simp only [List.map_toArray, List.map_cons, List.map_nil]); first | done | rfl | (simp only [List.length_drop, List.length_take]; rfl)) ?_; (with_reducible refine (laws_mountsTo.calls k _ _ l0 t189 _ ?side1 ?side2 A3.out).mono ?_); (case side1 => repeat (first | exact HR0.out | (with_reducible refine Kd.C_alloc ?_ _) | (with_reducible refine Kd.C_drewN ?_ _) | (with_reducible refine Kd.C_drew ?_))); (case side2 => exact HC0.out); rintro e w9 ⟨v190, rfl, ho0, hb⟩; refine ⟨_, rfl, ?_⟩; have n0_ := Aside0.mk (Kd.R_lower ho0 (below_size (by repeat (first | (with_reducible first | exact HB.out | apply below_alloc | apply pw_below_drewN | apply below_drew1) | exact HB.out)))); have n1_ := Aside0.mk (below_step (by repeat (first | (with_reducible first | exact HB.out | apply below_alloc | apply pw_below_drewN | apply below_drew1) | exact HB.out)) hb); clear HB; have HO191 := n0_; have HB := n1_; clear n0_ n1_; (try clear hb); (try clear hb2); (try clear hk); (try clear hi); (try clear ho0); obtain ⟨Ao10, co10, eo10⟩ := Kd.R_slice HO191.out; subst eo10) | ((with_reducible refine gate_callee (f := 16) rfl ?_); refine goesL_ (some 12) rfl rfl Tryd.func16 (by kernel_rfl) rfl #[.slice Ao10 t189.length co10] rfl (by (try simp only [List.map_toArray, List.map_cons, List.map_nil]); first | done | rfl | (simp only [List.length_drop, List.length_take]; rfl)) ?_; (with_reducible refine (spec_MountsPrint.calls k _ _ t189 t192 t193 _ ?side1 ?side2 A4.out).mono ?_); (case side1 => repeat (first | exact (Kd.R_reads' HO191.out).2.2 | (with_reducible refine Kd.C_alloc ?_ _) | (with_reducible refine Kd.C_drewN ?_ _) | (with_reducible refine Kd.C_drew ?_))); (case side2 => exact (Kd.R_reads' HO191.out).2.1); rintro e w11 ⟨rfl, hb⟩; refine ⟨_, rfl, ?_⟩; have n0_ := Aside0.mk (Kd.R_below (by (with_reducible repeat (first | apply Kd.R_alloc | apply Kd.R_drewN | apply Kd.R_drew)); exact HO191.out) hb); have n1_ := Aside0.mk (below_step (by repeat (first | (with_reducible first | exact HB.out | apply below_alloc | apply pw_below_drewN | apply below_drew1) | exact HB.out)) hb); clear HO191; clear HB; have HO191 := n0_; have HB := n1_; clear n0_ n1_; (try clear hb); (try clear hb2); (try clear hk); (try clear hi)))
      go_ret2
      exact ⟨by first | rfl | (simp [errW_none, errW_some] <;> rfl) | (simp [*, errW_none, errW_some] <;> rfl), by repeat (first | (with_reducible first | exact HB.out | apply below_alloc | apply pw_below_drewN | apply below_drew1) | exact HB.out)⟩

/-! ### laws_all: function 9 -/
def laws_all.f  : Option (Int × List ByteArray) := some (0, ([] : List ByteArray))
set_option maxHeartbeats 8000000 in
set_option maxRecDepth 100000 in
theorem laws_all.calls  (r1 : Int) (r2 : List ByteArray) (w : World) (h : laws_all.f  = some (r1, r2)) :
    Calls Tryd.prog 9 #[] w fun e w' => ∃ v1_ : Value, e = .returned (.agg #[.int .i64 r1, v1_]) ∧ Kd.R Kd.string 9 w' w.heap.size (fun _ => True) v1_ r2 ∧ Below w.heap.size w w' := by
  have hu30 := Tryd.underlying30
  have HB := Aside0.mk (Below.refl w.heap.size w)
  have H : (some (0, ([] : List ByteArray))) = some (r1, r2) := h
  clear h
  simp only [Option.some.injEq, Prod.mk.injEq] at H
  obtain ⟨rfl, rfl⟩ := H
  go_enter Tryd.func9, Tryd.ntmps9
  go_wp2_with (first | ((with_reducible refine gate_dst (N := 0) rfl ?_); refine box_event ?hg (N := 0) ?hd (cs := #[.int .i64 0, .slice none 0 0]) (t := 30) ?hr ?_; (case hd => rfl); (case hg => rfl); (case hr => first | (go_simp; done) | (go_simp; rfl)); intro gb194 hg w1 hbox hb; have n0_ := Aside0.mk (below_step (by repeat (first | (with_reducible first | exact HB.out | apply below_alloc | apply pw_below_drewN | apply below_drew1) | exact HB.out)) hb); have n1_ := Aside0.mk (hbox); have n2_ := Aside0.mk ((by rw [hg]; exact (below_size (by repeat (first | (with_reducible first | exact HB.out | apply below_alloc | apply pw_below_drewN | apply below_drew1) | exact HB.out))) : w.heap.size ≤ gb194)); have n3_ := Aside0.mk ((by rw [hg]; exact (below_size (by repeat (first | (with_reducible first | exact HB.out | apply below_alloc | apply pw_below_drewN | apply below_drew1) | exact HB.out))) : w.heap.size ≤ gb194)); clear HB; have HB := n0_; have BK194 := n1_; have GW194 := n2_; have GE194 := n3_; clear n0_ n1_ n2_ n3_; clear hb hbox hg; have hcz2_0 : w1.cell? ⟨gb194, 0, none⟩ = some (.int .i64 0) := (blk_cell BK194.out 0).trans rfl; have hcz2_1 : w1.cell? ⟨gb194, 1, none⟩ = some (.slice none 0 0) := (blk_cell BK194.out 1).trans rfl; have hfz2_0 := blk_frozen BK194.out 0; have hfz2_1 := blk_frozen BK194.out 1))
  refine bodyPost_ret (results_cell_row rfl _ _ gb194 30 #[.int .i64 0, .slice none 0 0] (0, 0) _ rfl (by (with_reducible repeat (first | refine blk_drewN ?_ _ | refine blk_drew ?_ | refine blk_alloc ?_ _)); refine blk_put (cs := #[.int .i64 0, .slice none 0 0]) ?_ 1 _ rfl; (with_reducible repeat (first | refine blk_drewN ?_ _ | refine blk_drew ?_ | refine blk_alloc ?_ _)); refine blk_put (cs := #[.int .i64 0, .slice none 0 0]) ?_ 0 _ rfl; (with_reducible repeat (first | refine blk_drewN ?_ _ | refine blk_drew ?_ | refine blk_alloc ?_ _)); exact BK194.out) Tryd.underlying30 rfl (by kernel_rfl)) rfl ?_
  exact ⟨_, by first | rfl | (simp [errW_none, errW_some] <;> rfl) | (simp [*, errW_none, errW_some] <;> rfl), by first | exact Kd.R_nil _ _ _ _ _ | exact Kd.N_nil _ _ _ _ _ | exact Kd.V_nil _ _ _ _ _ | exact Kd.Q_nil _ _ _ _ _ | exact Kd.S_nil _ _ _ _ _, by repeat (first | (with_reducible first | exact HB.out | apply below_alloc | apply pw_below_drewN | apply below_drew1 | refine below_set ?_ GE194.out) | exact HB.out)⟩

/-! ### laws_sameMounts: function 10 -/
def laws_sameMounts.l0 : Nat → List (S36) → List (S36) → Int → Int → Option (Bool)
  | 0, _, _, _, _ => none
  | k + 1, x0, x1, x12, x13 => if x13 < x12 then (if 0 ≤ x13 then (if x13 < (x0.length : Int) then (if x13 < (x1.length : Int) then (if (!(((rd_T36 x0 x13).f0) == ((rd_T36 x1 x13).f0)) || (!(((rd_T36 x0 x13).f1) == ((rd_T36 x1 x13).f1)) || (!(((rd_T36 x0 x13).f2) == ((rd_T36 x1 x13).f2)) || (!(((rd_T36 x0 x13).f3) == ((rd_T36 x1 x13).f3)) || (!((((rd_T36 x0 x13).f4).toList) == (((rd_T36 x1 x13).f4).toList)) || (!((((rd_T36 x0 x13).f5).toList) == (((rd_T36 x1 x13).f5).toList)) || (!((((rd_T36 x0 x13).f6).toList) == (((rd_T36 x1 x13).f6).toList)) || (!((((rd_T36 x0 x13).f7).toList) == (((rd_T36 x1 x13).f7).toList)) || (!((((rd_T36 x0 x13).f8).toList) == (((rd_T36 x1 x13).f8).toList)) || (!((((rd_T36 x0 x13).f9).toList) == (((rd_T36 x1 x13).f9).toList)) || (!((((rd_T36 x0 x13).f10).toList) == (((rd_T36 x1 x13).f10).toList))))))))))))) = true then (some false) else (laws_sameMounts.l0 k x0 x1 x12 (wrap64 (x13 + 1)))) else (none)) else (none)) else (none)) else (some true)
def laws_sameMounts.f (k : Nat) (l0 : List (S36)) (l1 : List (S36)) : Option (Bool) := if (l0.length : Int) = (l1.length : Int) then (laws_sameMounts.l0 k l0 l1 (l0.length : Int) 0) else (some false)
theorem laws_sameMounts.mono_l : ∀ k, (∀ y0 y1 y2 y3, LeO (laws_sameMounts.l0 k y0 y1 y2 y3) (laws_sameMounts.l0 (k + 1) y0 y1 y2 y3))
  | 0 => fun _ _ _ _ r h => by simp [laws_sameMounts.l0] at h
  | k + 1 => by
    have ih0 := laws_sameMounts.mono_l k
    · intro y0 y1 y2 y3
      unfold laws_sameMounts.l0
      repeat' first
      | (with_reducible exact ih0 _ _ _ _)
      | (with_reducible exact LeO.refl _)
      | (with_reducible exact LeO.none _)
      | (with_reducible refine LeO.ite ?_ ?_)
      | (with_reducible refine LeO.bind ?_ (fun _ => ?_))
      | exact ih0 _ _ _ _
      | exact LeO.none _
      | refine LeO.ite ?_ ?_
      | refine LeO.bind ?_ (fun _ => ?_)
theorem laws_sameMounts.mono : ∀ a0 a1 k, LeO (laws_sameMounts.f k a0 a1) (laws_sameMounts.f (k + 1) a0 a1) := by
  intro a0 a1 k
  have ih0 := laws_sameMounts.mono_l k
  unfold laws_sameMounts.f
  repeat' first
      | (with_reducible exact ih0 _ _ _ _)
      | (with_reducible exact LeO.refl _)
      | (with_reducible exact LeO.none _)
      | (with_reducible refine LeO.ite ?_ ?_)
      | (with_reducible refine LeO.bind ?_ (fun _ => ?_))
      | exact ih0 _ _ _ _
      | exact LeO.none _
      | refine LeO.ite ?_ ?_
      | refine LeO.bind ?_ (fun _ => ?_)
set_option maxHeartbeats 8000000 in
set_option maxRecDepth 100000 in
theorem laws_sameMounts.calls (k : Nat) (A0 : Option Addr) (c0 : Nat) (l0 : List (S36)) (A1 : Option Addr) (c1 : Nat) (l1 : List (S36)) (r : Bool) (w : World) (hr0 : Kd.C k36 w A0 l0.length l0) (hc0 : l0.length ≤ c0) (hr1 : Kd.C k36 w A1 l1.length l1) (hc1 : l1.length ≤ c1) (h : laws_sameMounts.f k l0 l1 = some r) :
    Calls Tryd.prog 10 #[.slice A0 l0.length c0, .slice A1 l1.length c1] w fun e w' => e = .returned (.bool r) ∧ Drawn0 w w' := by
  have hu36 := Tryd.underlying36
  have HR0 := Aside0.mk hr0
  have HC0 := Aside0.mk hc0
  clear hr0 hc0
  have HR1 := Aside0.mk hr1
  have HC1 := Aside0.mk hc1
  clear hr1 hc1
  have H : (if (l0.length : Int) = (l1.length : Int) then (laws_sameMounts.l0 k l0 l1 (l0.length : Int) 0) else (some false)) = some r := h
  clear h
  by_cases c3 : (l0.length : Int) = (l1.length : Int)
  · rw [if_pos c3] at H
    have c3b0 : ((l0.length : Int) == (l1.length : Int)) = true := beq_iff_eq.mpr c3
    have c3b1 : ((l0.length : Int) != (l1.length : Int)) = false := bne_eq_false_iff_eq.mpr c3
    have c3b2 : (l0.length == l1.length) = true := by first | simpa using c3 | (simp at c3 ⊢; omega)
    clear c3
    have H' := Aside0.mk H
    clear H
    go_enter Tryd.func10, Tryd.ntmps10
    go_wp2
    repeat (go_quiet (fail); try go_wp2)
    go_loopg [13] k (fun kq v13 w' => ∃ (x13_1 : Int), v13 = .int .i64 x13_1 ∧ Aside0 (laws_sameMounts.l0 kq l0 l1 (l0.length : Int) x13_1 = some r) ∧ Aside0 (kq ≤ k) ∧ Drawn0 w w')
    case atStart => exact ⟨(0), (by first | rfl | (simp; done) | (simp [*]; done)), H', ⟨Nat.le_refl _⟩, by repeat (first | exact Drawn0.refl _ | apply Drawn0.step)⟩
    case round =>
      clear H'
      try clear c1
      try clear p2
      try clear c3
      try clear c3b0
      try clear c3b1
      try clear c3b2
      obtain ⟨x13_1, rfl, HA, HK1, ⟨m1, rfl⟩⟩ := hrel
      cases gk with
      | zero => exact absurd HA.out (by simp [laws_sameMounts.l0])
      | succ k1 =>
        have H := HA.out
        clear HA
        simp only [laws_sameMounts.l0] at H
        by_cases c4 : x13_1 < (l0.length : Int)
        · rw [if_pos c4] at H
          have c4b0 : decide (x13_1 < (l0.length : Int)) = true := decide_eq_true c4
          clear c4
          replace H := guard_inv H
          obtain ⟨c5, H⟩ := H
          have c5b0 : decide (0 ≤ x13_1) = true := decide_eq_true c5
          clear c5
          replace H := guard_inv H
          obtain ⟨c6, H⟩ := H
          have c6b0 : decide (x13_1 < (l0.length : Int)) = true := decide_eq_true c6
          clear c6
          replace H := guard_inv H
          obtain ⟨c7, H⟩ := H
          have c7b0 : decide (x13_1 < (l1.length : Int)) = true := decide_eq_true c7
          clear c7
          by_cases c8 : (!(((rd_T36 l0 x13_1).f0) == ((rd_T36 l1 x13_1).f0)) || (!(((rd_T36 l0 x13_1).f1) == ((rd_T36 l1 x13_1).f1)) || (!(((rd_T36 l0 x13_1).f2) == ((rd_T36 l1 x13_1).f2)) || (!(((rd_T36 l0 x13_1).f3) == ((rd_T36 l1 x13_1).f3)) || (!((((rd_T36 l0 x13_1).f4).toList) == (((rd_T36 l1 x13_1).f4).toList)) || (!((((rd_T36 l0 x13_1).f5).toList) == (((rd_T36 l1 x13_1).f5).toList)) || (!((((rd_T36 l0 x13_1).f6).toList) == (((rd_T36 l1 x13_1).f6).toList)) || (!((((rd_T36 l0 x13_1).f7).toList) == (((rd_T36 l1 x13_1).f7).toList)) || (!((((rd_T36 l0 x13_1).f8).toList) == (((rd_T36 l1 x13_1).f8).toList)) || (!((((rd_T36 l0 x13_1).f9).toList) == (((rd_T36 l1 x13_1).f9).toList)) || (!((((rd_T36 l0 x13_1).f10).toList) == (((rd_T36 l1 x13_1).f10).toList))))))))))))) = true
          · rw [if_pos c8] at H
            have c8b0 : (!(((rd_T36 l0 x13_1).f0) == ((rd_T36 l1 x13_1).f0)) || (!(((rd_T36 l0 x13_1).f1) == ((rd_T36 l1 x13_1).f1)) || (!(((rd_T36 l0 x13_1).f2) == ((rd_T36 l1 x13_1).f2)) || (!(((rd_T36 l0 x13_1).f3) == ((rd_T36 l1 x13_1).f3)) || (!((((rd_T36 l0 x13_1).f4).toList) == (((rd_T36 l1 x13_1).f4).toList)) || (!((((rd_T36 l0 x13_1).f5).toList) == (((rd_T36 l1 x13_1).f5).toList)) || (!((((rd_T36 l0 x13_1).f6).toList) == (((rd_T36 l1 x13_1).f6).toList)) || (!((((rd_T36 l0 x13_1).f7).toList) == (((rd_T36 l1 x13_1).f7).toList)) || (!((((rd_T36 l0 x13_1).f8).toList) == (((rd_T36 l1 x13_1).f8).toList)) || (!((((rd_T36 l0 x13_1).f9).toList) == (((rd_T36 l1 x13_1).f9).toList)) || (!((((rd_T36 l0 x13_1).f10).toList) == (((rd_T36 l1 x13_1).f10).toList))))))))))))) = true := c8
            clear c8
            obtain rfl := Option.some.inj H
            have p195 : 0 ≤ (x13_1 : Int) := of_decide_eq_true (by first | (with_reducible assumption) | assumption)
            have q195 : x13_1 < (l0.length : Int) := of_decide_eq_true (by first | (with_reducible assumption) | assumption)
            obtain ⟨ad195, e195, hx195_0, hx195_1, hx195_2, hx195_3, hx195_4, hx195_5, hx195_6, hx195_7, hx195_8, hx195_9, hx195_10⟩ := at_T36 HR0.out x13_1 p195 q195
            cases e195
            replace p195 := eq_true p195
            replace q195 := eq_true q195
            have p196 : 0 ≤ (x13_1 : Int) := of_decide_eq_true (by first | (with_reducible assumption) | assumption)
            have q196 : x13_1 < (l1.length : Int) := of_decide_eq_true (by first | (with_reducible assumption) | assumption)
            obtain ⟨ad196, e196, hx196_0, hx196_1, hx196_2, hx196_3, hx196_4, hx196_5, hx196_6, hx196_7, hx196_8, hx196_9, hx196_10⟩ := at_T36 HR1.out x13_1 p196 q196
            cases e196
            replace p196 := eq_true p196
            replace q196 := eq_true q196
            go_wp2
            repeat (go_quiet (fail); try go_wp2)
            go_ret
            exact ⟨by first | rfl | (simp; done) | (simp [*]; done), by repeat (first | exact Drawn0.refl _ | apply Drawn0.step)⟩
          · rw [if_neg c8] at H
            have c8b0 : (!(((rd_T36 l0 x13_1).f0) == ((rd_T36 l1 x13_1).f0)) || (!(((rd_T36 l0 x13_1).f1) == ((rd_T36 l1 x13_1).f1)) || (!(((rd_T36 l0 x13_1).f2) == ((rd_T36 l1 x13_1).f2)) || (!(((rd_T36 l0 x13_1).f3) == ((rd_T36 l1 x13_1).f3)) || (!((((rd_T36 l0 x13_1).f4).toList) == (((rd_T36 l1 x13_1).f4).toList)) || (!((((rd_T36 l0 x13_1).f5).toList) == (((rd_T36 l1 x13_1).f5).toList)) || (!((((rd_T36 l0 x13_1).f6).toList) == (((rd_T36 l1 x13_1).f6).toList)) || (!((((rd_T36 l0 x13_1).f7).toList) == (((rd_T36 l1 x13_1).f7).toList)) || (!((((rd_T36 l0 x13_1).f8).toList) == (((rd_T36 l1 x13_1).f8).toList)) || (!((((rd_T36 l0 x13_1).f9).toList) == (((rd_T36 l1 x13_1).f9).toList)) || (!((((rd_T36 l0 x13_1).f10).toList) == (((rd_T36 l1 x13_1).f10).toList))))))))))))) = false := by simpa using c8
            clear c8
            have H' := Aside0.mk H
            clear H
            have p195 : 0 ≤ (x13_1 : Int) := of_decide_eq_true (by first | (with_reducible assumption) | assumption)
            have q195 : x13_1 < (l0.length : Int) := of_decide_eq_true (by first | (with_reducible assumption) | assumption)
            obtain ⟨ad195, e195, hx195_0, hx195_1, hx195_2, hx195_3, hx195_4, hx195_5, hx195_6, hx195_7, hx195_8, hx195_9, hx195_10⟩ := at_T36 HR0.out x13_1 p195 q195
            cases e195
            replace p195 := eq_true p195
            replace q195 := eq_true q195
            have p196 : 0 ≤ (x13_1 : Int) := of_decide_eq_true (by first | (with_reducible assumption) | assumption)
            have q196 : x13_1 < (l1.length : Int) := of_decide_eq_true (by first | (with_reducible assumption) | assumption)
            obtain ⟨ad196, e196, hx196_0, hx196_1, hx196_2, hx196_3, hx196_4, hx196_5, hx196_6, hx196_7, hx196_8, hx196_9, hx196_10⟩ := at_T36 HR1.out x13_1 p196 q196
            cases e196
            replace p196 := eq_true p196
            replace q196 := eq_true q196
            go_wp2
            repeat (go_quiet (fail); try go_wp2)
            go_roundg k1
            case measure => have := HK1.out; omega
            case rel => exact ⟨(wrap64 (x13_1 + 1)), (by first | rfl | (simp; done) | (simp [*]; done)), H', ⟨by have := HK1.out; omega⟩, by repeat (first | exact Drawn0.refl _ | apply Drawn0.step)⟩
        · rw [if_neg c4] at H
          have c4b0 : decide (x13_1 < (l0.length : Int)) = false := decide_eq_false c4
          clear c4
          obtain rfl := Option.some.inj H
          go_wp2
          repeat (go_quiet (fail); try go_wp2)
          go_ret
          exact ⟨by first | rfl | (simp; done) | (simp [*]; done), by repeat (first | exact Drawn0.refl _ | apply Drawn0.step)⟩
  · rw [if_neg c3] at H
    have c3b0 : ((l0.length : Int) == (l1.length : Int)) = false := beq_eq_false_iff_ne.mpr c3
    have c3b1 : ((l0.length : Int) != (l1.length : Int)) = true := bne_iff_ne.mpr c3
    have c3b2 : (l0.length == l1.length) = false := by first | simpa using c3 | (simp at c3 ⊢; omega)
    obtain rfl := Option.some.inj H
    go_enter Tryd.func10, Tryd.ntmps10
    go_wp2
    repeat (go_quiet (fail); try go_wp2)
    go_ret
    exact ⟨by first | rfl | (simp; done) | (simp [*]; done), by repeat (first | exact Drawn0.refl _ | apply Drawn0.step)⟩

/-! ### laws_mounts: function 11 -/
def laws_mounts.f (k : Nat)  : Option (Bool) := (laws_all.f).bind fun bt197 => ((impl_Mounts.f k (⟨#[51, 54, 32, 51, 53, 32, 57, 56, 58, 48, 32, 47, 109, 110, 116, 49, 32, 47, 109, 110, 116, 50, 32, 114, 119, 44, 110, 111, 97, 116, 105, 109, 101, 32, 109, 97, 115, 116, 101, 114, 58, 49, 32, 45, 32, 101, 120, 116, 51, 32, 47, 100, 101, 118, 47, 114, 111, 111, 116, 32, 114, 119, 44, 101, 114, 114, 111, 114, 115, 61, 99, 111, 110, 116, 105, 110, 117, 101, 10]⟩ : ByteArray) bt197.1 bt197.2).bind fun bt201 => (if bt201.2 = 0 then (if (bt201.1.length : Int) = 1 then (if 0 < (bt201.1.length : Int) then (some (((rd_T36 bt201.1 0).f0) == 36 && (((rd_T36 bt201.1 0).f1) == 35 && (((rd_T36 bt201.1 0).f2) == 98 && (((rd_T36 bt201.1 0).f3) == 0 && ((((rd_T36 bt201.1 0).f4).toList) == ([47, 109, 110, 116, 49] : List UInt8) && ((((rd_T36 bt201.1 0).f5).toList) == ([47, 109, 110, 116, 50] : List UInt8) && ((((rd_T36 bt201.1 0).f6).toList) == ([114, 119, 44, 110, 111, 97, 116, 105, 109, 101] : List UInt8) && ((((rd_T36 bt201.1 0).f7).toList) == ([109, 97, 115, 116, 101, 114, 58, 49] : List UInt8) && ((((rd_T36 bt201.1 0).f8).toList) == ([101, 120, 116, 51] : List UInt8) && ((((rd_T36 bt201.1 0).f9).toList) == ([47, 100, 101, 118, 47, 114, 111, 111, 116] : List UInt8) && ((((rd_T36 bt201.1 0).f10).toList) == ([114, 119, 44, 101, 114, 114, 111, 114, 115, 61, 99, 111, 110, 116, 105, 110, 117, 101] : List UInt8))))))))))))) else (none)) else (some false)) else (some false)))
theorem laws_mounts.mono : ∀ k, LeO (laws_mounts.f k ) (laws_mounts.f (k + 1) ) := by
  intro  k
  unfold laws_mounts.f
  repeat' first
      | (with_reducible exact impl_Mounts.mono _ _ _ _)
      | (with_reducible exact LeO.refl _)
      | (with_reducible exact LeO.none _)
      | (with_reducible refine LeO.ite ?_ ?_)
      | (with_reducible refine LeO.bind ?_ (fun _ => ?_))
      | exact impl_Mounts.mono _ _ _ _
      | exact LeO.none _
      | refine LeO.ite ?_ ?_
      | refine LeO.bind ?_ (fun _ => ?_)
set_option maxHeartbeats 8000000 in
set_option maxRecDepth 100000 in
theorem laws_mounts.calls (k : Nat)  (r : Bool) (w : World) (h : laws_mounts.f k  = some r) :
    Calls Tryd.prog 11 #[] w fun e w' => e = .returned (.bool r) ∧ Below w.heap.size w w' := by
  have hu36 := Tryd.underlying36
  have HB := Aside0.mk (Below.refl w.heap.size w)
  have H : ((laws_all.f).bind fun bt197 => ((impl_Mounts.f k (⟨#[51, 54, 32, 51, 53, 32, 57, 56, 58, 48, 32, 47, 109, 110, 116, 49, 32, 47, 109, 110, 116, 50, 32, 114, 119, 44, 110, 111, 97, 116, 105, 109, 101, 32, 109, 97, 115, 116, 101, 114, 58, 49, 32, 45, 32, 101, 120, 116, 51, 32, 47, 100, 101, 118, 47, 114, 111, 111, 116, 32, 114, 119, 44, 101, 114, 114, 111, 114, 115, 61, 99, 111, 110, 116, 105, 110, 117, 101, 10]⟩ : ByteArray) bt197.1 bt197.2).bind fun bt201 => (if bt201.2 = 0 then (if (bt201.1.length : Int) = 1 then (if 0 < (bt201.1.length : Int) then (some (((rd_T36 bt201.1 0).f0) == 36 && (((rd_T36 bt201.1 0).f1) == 35 && (((rd_T36 bt201.1 0).f2) == 98 && (((rd_T36 bt201.1 0).f3) == 0 && ((((rd_T36 bt201.1 0).f4).toList) == ([47, 109, 110, 116, 49] : List UInt8) && ((((rd_T36 bt201.1 0).f5).toList) == ([47, 109, 110, 116, 50] : List UInt8) && ((((rd_T36 bt201.1 0).f6).toList) == ([114, 119, 44, 110, 111, 97, 116, 105, 109, 101] : List UInt8) && ((((rd_T36 bt201.1 0).f7).toList) == ([109, 97, 115, 116, 101, 114, 58, 49] : List UInt8) && ((((rd_T36 bt201.1 0).f8).toList) == ([101, 120, 116, 51] : List UInt8) && ((((rd_T36 bt201.1 0).f9).toList) == ([47, 100, 101, 118, 47, 114, 111, 111, 116] : List UInt8) && ((((rd_T36 bt201.1 0).f10).toList) == ([114, 119, 44, 101, 114, 114, 111, 114, 115, 61, 99, 111, 110, 116, 105, 110, 117, 101] : List UInt8))))))))))))) else (none)) else (some false)) else (some false)))) = some r := h
  clear h
  replace H := Option.bind_eq_some_iff.mp H
  obtain ⟨⟨t197, t198⟩, A10, H⟩ := H
  replace H : ((impl_Mounts.f k (⟨#[51, 54, 32, 51, 53, 32, 57, 56, 58, 48, 32, 47, 109, 110, 116, 49, 32, 47, 109, 110, 116, 50, 32, 114, 119, 44, 110, 111, 97, 116, 105, 109, 101, 32, 109, 97, 115, 116, 101, 114, 58, 49, 32, 45, 32, 101, 120, 116, 51, 32, 47, 100, 101, 118, 47, 114, 111, 111, 116, 32, 114, 119, 44, 101, 114, 114, 111, 114, 115, 61, 99, 111, 110, 116, 105, 110, 117, 101, 10]⟩ : ByteArray) t197 t198).bind fun bt201 => (if bt201.2 = 0 then (if (bt201.1.length : Int) = 1 then (if 0 < (bt201.1.length : Int) then (some (((rd_T36 bt201.1 0).f0) == 36 && (((rd_T36 bt201.1 0).f1) == 35 && (((rd_T36 bt201.1 0).f2) == 98 && (((rd_T36 bt201.1 0).f3) == 0 && ((((rd_T36 bt201.1 0).f4).toList) == ([47, 109, 110, 116, 49] : List UInt8) && ((((rd_T36 bt201.1 0).f5).toList) == ([47, 109, 110, 116, 50] : List UInt8) && ((((rd_T36 bt201.1 0).f6).toList) == ([114, 119, 44, 110, 111, 97, 116, 105, 109, 101] : List UInt8) && ((((rd_T36 bt201.1 0).f7).toList) == ([109, 97, 115, 116, 101, 114, 58, 49] : List UInt8) && ((((rd_T36 bt201.1 0).f8).toList) == ([101, 120, 116, 51] : List UInt8) && ((((rd_T36 bt201.1 0).f9).toList) == ([47, 100, 101, 118, 47, 114, 111, 111, 116] : List UInt8) && ((((rd_T36 bt201.1 0).f10).toList) == ([114, 119, 44, 101, 114, 114, 111, 114, 115, 61, 99, 111, 110, 116, 105, 110, 117, 101] : List UInt8))))))))))))) else (none)) else (some false)) else (some false))) = some r := H
  have A1 := Aside0.mk A10
  clear A10
  replace H := Option.bind_eq_some_iff.mp H
  obtain ⟨⟨t201, t204⟩, A20, H⟩ := H
  replace H : (if t204 = 0 then (if (t201.length : Int) = 1 then (if 0 < (t201.length : Int) then (some (((rd_T36 t201 0).f0) == 36 && (((rd_T36 t201 0).f1) == 35 && (((rd_T36 t201 0).f2) == 98 && (((rd_T36 t201 0).f3) == 0 && ((((rd_T36 t201 0).f4).toList) == ([47, 109, 110, 116, 49] : List UInt8) && ((((rd_T36 t201 0).f5).toList) == ([47, 109, 110, 116, 50] : List UInt8) && ((((rd_T36 t201 0).f6).toList) == ([114, 119, 44, 110, 111, 97, 116, 105, 109, 101] : List UInt8) && ((((rd_T36 t201 0).f7).toList) == ([109, 97, 115, 116, 101, 114, 58, 49] : List UInt8) && ((((rd_T36 t201 0).f8).toList) == ([101, 120, 116, 51] : List UInt8) && ((((rd_T36 t201 0).f9).toList) == ([47, 100, 101, 118, 47, 114, 111, 111, 116] : List UInt8) && ((((rd_T36 t201 0).f10).toList) == ([114, 119, 44, 101, 114, 114, 111, 114, 115, 61, 99, 111, 110, 116, 105, 110, 117, 101] : List UInt8))))))))))))) else (none)) else (some false)) else (some false)) = some r := H
  have A2 := Aside0.mk A20
  clear A20
  by_cases c3 : t204 = 0
  · rw [if_pos c3] at H
    have c3b0 : (t204 == 0) = true := beq_iff_eq.mpr c3
    have c3b1 : (t204 != 0) = false := bne_eq_false_iff_eq.mpr c3
    clear c3
    by_cases c4 : (t201.length : Int) = 1
    · rw [if_pos c4] at H
      have c4b0 : ((t201.length : Int) == 1) = true := beq_iff_eq.mpr c4
      have c4b1 : ((t201.length : Int) != 1) = false := bne_eq_false_iff_eq.mpr c4
      clear c4
      replace H := guard_inv H
      obtain ⟨c5, H⟩ := H
      have c5b0 : decide (0 < (t201.length : Int)) = true := decide_eq_true c5
      have c5b1 : decide (0 < t201.length) = true := decide_eq_true (by omega)
      clear c5
      obtain rfl := Option.some.inj H
      go_enter Tryd.func11, Tryd.ntmps11
      go_wp2_with (first | ((with_reducible refine gate_callee (f := 9) rfl ?_); refine goesL_ (some 4) rfl rfl Tryd.func9 (by kernel_rfl) rfl #[] rfl (by (try simp only [List.map_toArray, List.map_cons, List.map_nil]); first | done | rfl | (simp only [List.length_drop, List.length_take]; rfl)) ?_; (with_reducible refine (laws_all.calls  t197 t198 _ A1.out).mono ?_); rintro e w6 ⟨v199, rfl, ho0, hb⟩; refine ⟨_, rfl, ?_⟩; have n0_ := Aside0.mk (Kd.R_lower ho0 (below_size (by repeat (first | (with_reducible first | exact HB.out | apply below_alloc | apply pw_below_drewN | apply below_drew1) | exact HB.out)))); have n1_ := Aside0.mk (below_step (by repeat (first | (with_reducible first | exact HB.out | apply below_alloc | apply pw_below_drewN | apply below_drew1) | exact HB.out)) hb); clear HB; have HO200 := n0_; have HB := n1_; clear n0_ n1_; (try clear hb); (try clear hb2); (try clear hk); (try clear hi); (try clear ho0); obtain ⟨Ao7, co7, eo7⟩ := Kd.R_slice HO200.out; subst eo7) | ((with_reducible refine gate_callee (f := 8) rfl ?_); refine goesL_ (some 5) rfl rfl Tryd.func8 (by kernel_rfl) rfl #[.string (⟨#[51, 54, 32, 51, 53, 32, 57, 56, 58, 48, 32, 47, 109, 110, 116, 49, 32, 47, 109, 110, 116, 50, 32, 114, 119, 44, 110, 111, 97, 116, 105, 109, 101, 32, 109, 97, 115, 116, 101, 114, 58, 49, 32, 45, 32, 101, 120, 116, 51, 32, 47, 100, 101, 118, 47, 114, 111, 111, 116, 32, 114, 119, 44, 101, 114, 114, 111, 114, 115, 61, 99, 111, 110, 116, 105, 110, 117, 101, 10]⟩ : ByteArray), .agg #[.int .i64 t197, .slice Ao7 t198.length co7]] rfl (by (try simp only [List.map_toArray, List.map_cons, List.map_nil]); first | done | rfl | (simp only [List.length_drop, List.length_take]; rfl)) ?_; (with_reducible refine (impl_Mounts.calls k (⟨#[51, 54, 32, 51, 53, 32, 57, 56, 58, 48, 32, 47, 109, 110, 116, 49, 32, 47, 109, 110, 116, 50, 32, 114, 119, 44, 110, 111, 97, 116, 105, 109, 101, 32, 109, 97, 115, 116, 101, 114, 58, 49, 32, 45, 32, 101, 120, 116, 51, 32, 47, 100, 101, 118, 47, 114, 111, 111, 116, 32, 114, 119, 44, 101, 114, 114, 111, 114, 115, 61, 99, 111, 110, 116, 105, 110, 117, 101, 10]⟩ : ByteArray) t197 _ _ t198 t201 t204 _ ?side1 ?side2 A2.out).mono ?_); (case side1 => repeat (first | exact (Kd.R_reads' HO200.out).2.2 | (with_reducible refine Kd.C_alloc ?_ _) | (with_reducible refine Kd.C_drewN ?_ _) | (with_reducible refine Kd.C_drew ?_))); (case side2 => exact (Kd.R_reads' HO200.out).2.1); rintro e w8 ⟨v202, rfl, ho0, hb⟩; refine ⟨_, rfl, ?_⟩; have n0_ := Aside0.mk (Kd.R_below (by (with_reducible repeat (first | apply Kd.R_alloc | apply Kd.R_drewN | apply Kd.R_drew)); exact HO200.out) hb); have n1_ := Aside0.mk (Kd.R_lower ho0 (below_size (by repeat (first | (with_reducible first | exact HB.out | apply below_alloc | apply pw_below_drewN | apply below_drew1) | exact HB.out)))); have n2_ := Aside0.mk (below_step (by repeat (first | (with_reducible first | exact HB.out | apply below_alloc | apply pw_below_drewN | apply below_drew1) | exact HB.out)) hb); clear HO200; clear HB; have HO200 := n0_; have HO203 := n1_; have HB := n2_; clear n0_ n1_ n2_; (try clear hb); (try clear hb2); (try clear hk); (try clear hi); (try clear ho0); obtain ⟨Ao9, co9, eo9⟩ := Kd.R_slice HO203.out; subst eo9; have p205 : 0 ≤ (0 : Int) := (by omega); have q205 : 0 < (t201.length : Int) := of_decide_eq_true (by first | (with_reducible assumption) | assumption); obtain ⟨ad205, e205, hx205_0, hx205_1, hx205_2, hx205_3, hx205_4, hx205_5, hx205_6, hx205_7, hx205_8, hx205_9, hx205_10⟩ := at_T36 (Kd.R_reads' HO203.out).2.2 0 p205 q205; cases e205; have qi205 : (0 < t201.length) = True := eq_true (by omega); (try rw [show ((0 : Int)).toNat = 0 from rfl] at hx205_0); (try rw [show 0 * 11 = 0 from rfl] at hx205_0); (try rw [Addr.add_zero'] at hx205_0); (try rw [show ((0 : Int)).toNat = 0 from rfl] at hx205_1); (try rw [show 0 * 11 = 0 from rfl] at hx205_1); (try rw [Addr.add_zero'] at hx205_1); (try rw [show ((0 : Int)).toNat = 0 from rfl] at hx205_2); (try rw [show 0 * 11 = 0 from rfl] at hx205_2); (try rw [Addr.add_zero'] at hx205_2); (try rw [show ((0 : Int)).toNat = 0 from rfl] at hx205_3); (try rw [show 0 * 11 = 0 from rfl] at hx205_3); (try rw [Addr.add_zero'] at hx205_3); (try rw [show ((0 : Int)).toNat = 0 from rfl] at hx205_4); (try rw [show 0 * 11 = 0 from rfl] at hx205_4); (try rw [Addr.add_zero'] at hx205_4); (try rw [show ((0 : Int)).toNat = 0 from rfl] at hx205_5); (try rw [show 0 * 11 = 0 from rfl] at hx205_5); (try rw [Addr.add_zero'] at hx205_5); (try rw [show ((0 : Int)).toNat = 0 from rfl] at hx205_6); (try rw [show 0 * 11 = 0 from rfl] at hx205_6); (try rw [Addr.add_zero'] at hx205_6); (try rw [show ((0 : Int)).toNat = 0 from rfl] at hx205_7); (try rw [show 0 * 11 = 0 from rfl] at hx205_7); (try rw [Addr.add_zero'] at hx205_7); (try rw [show ((0 : Int)).toNat = 0 from rfl] at hx205_8); (try rw [show 0 * 11 = 0 from rfl] at hx205_8); (try rw [Addr.add_zero'] at hx205_8); (try rw [show ((0 : Int)).toNat = 0 from rfl] at hx205_9); (try rw [show 0 * 11 = 0 from rfl] at hx205_9); (try rw [Addr.add_zero'] at hx205_9); (try rw [show ((0 : Int)).toNat = 0 from rfl] at hx205_10); (try rw [show 0 * 11 = 0 from rfl] at hx205_10); (try rw [Addr.add_zero'] at hx205_10); replace p205 := eq_true p205; replace q205 := eq_true q205))
      go_ret
      exact ⟨by first | rfl | (simp [errW_none, errW_some] <;> rfl) | (simp [*, errW_none, errW_some] <;> rfl), by repeat (first | (with_reducible first | exact HB.out | apply below_alloc | apply pw_below_drewN | apply below_drew1) | exact HB.out)⟩
    · rw [if_neg c4] at H
      have c4b0 : ((t201.length : Int) == 1) = false := beq_eq_false_iff_ne.mpr c4
      have c4b1 : ((t201.length : Int) != 1) = true := bne_iff_ne.mpr c4
      obtain rfl := Option.some.inj H
      go_enter Tryd.func11, Tryd.ntmps11
      go_wp2_with (first | ((with_reducible refine gate_callee (f := 9) rfl ?_); refine goesL_ (some 4) rfl rfl Tryd.func9 (by kernel_rfl) rfl #[] rfl (by (try simp only [List.map_toArray, List.map_cons, List.map_nil]); first | done | rfl | (simp only [List.length_drop, List.length_take]; rfl)) ?_; (with_reducible refine (laws_all.calls  t197 t198 _ A1.out).mono ?_); rintro e w10 ⟨v199, rfl, ho0, hb⟩; refine ⟨_, rfl, ?_⟩; have n0_ := Aside0.mk (Kd.R_lower ho0 (below_size (by repeat (first | (with_reducible first | exact HB.out | apply below_alloc | apply pw_below_drewN | apply below_drew1) | exact HB.out)))); have n1_ := Aside0.mk (below_step (by repeat (first | (with_reducible first | exact HB.out | apply below_alloc | apply pw_below_drewN | apply below_drew1) | exact HB.out)) hb); clear HB; have HO200 := n0_; have HB := n1_; clear n0_ n1_; (try clear hb); (try clear hb2); (try clear hk); (try clear hi); (try clear ho0); obtain ⟨Ao11, co11, eo11⟩ := Kd.R_slice HO200.out; subst eo11) | ((with_reducible refine gate_callee (f := 8) rfl ?_); refine goesL_ (some 5) rfl rfl Tryd.func8 (by kernel_rfl) rfl #[.string (⟨#[51, 54, 32, 51, 53, 32, 57, 56, 58, 48, 32, 47, 109, 110, 116, 49, 32, 47, 109, 110, 116, 50, 32, 114, 119, 44, 110, 111, 97, 116, 105, 109, 101, 32, 109, 97, 115, 116, 101, 114, 58, 49, 32, 45, 32, 101, 120, 116, 51, 32, 47, 100, 101, 118, 47, 114, 111, 111, 116, 32, 114, 119, 44, 101, 114, 114, 111, 114, 115, 61, 99, 111, 110, 116, 105, 110, 117, 101, 10]⟩ : ByteArray), .agg #[.int .i64 t197, .slice Ao11 t198.length co11]] rfl (by (try simp only [List.map_toArray, List.map_cons, List.map_nil]); first | done | rfl | (simp only [List.length_drop, List.length_take]; rfl)) ?_; (with_reducible refine (impl_Mounts.calls k (⟨#[51, 54, 32, 51, 53, 32, 57, 56, 58, 48, 32, 47, 109, 110, 116, 49, 32, 47, 109, 110, 116, 50, 32, 114, 119, 44, 110, 111, 97, 116, 105, 109, 101, 32, 109, 97, 115, 116, 101, 114, 58, 49, 32, 45, 32, 101, 120, 116, 51, 32, 47, 100, 101, 118, 47, 114, 111, 111, 116, 32, 114, 119, 44, 101, 114, 114, 111, 114, 115, 61, 99, 111, 110, 116, 105, 110, 117, 101, 10]⟩ : ByteArray) t197 _ _ t198 t201 t204 _ ?side1 ?side2 A2.out).mono ?_); (case side1 => repeat (first | exact (Kd.R_reads' HO200.out).2.2 | (with_reducible refine Kd.C_alloc ?_ _) | (with_reducible refine Kd.C_drewN ?_ _) | (with_reducible refine Kd.C_drew ?_))); (case side2 => exact (Kd.R_reads' HO200.out).2.1); rintro e w12 ⟨v202, rfl, ho0, hb⟩; refine ⟨_, rfl, ?_⟩; have n0_ := Aside0.mk (Kd.R_below (by (with_reducible repeat (first | apply Kd.R_alloc | apply Kd.R_drewN | apply Kd.R_drew)); exact HO200.out) hb); have n1_ := Aside0.mk (Kd.R_lower ho0 (below_size (by repeat (first | (with_reducible first | exact HB.out | apply below_alloc | apply pw_below_drewN | apply below_drew1) | exact HB.out)))); have n2_ := Aside0.mk (below_step (by repeat (first | (with_reducible first | exact HB.out | apply below_alloc | apply pw_below_drewN | apply below_drew1) | exact HB.out)) hb); clear HO200; clear HB; have HO200 := n0_; have HO203 := n1_; have HB := n2_; clear n0_ n1_ n2_; (try clear hb); (try clear hb2); (try clear hk); (try clear hi); (try clear ho0); obtain ⟨Ao13, co13, eo13⟩ := Kd.R_slice HO203.out; subst eo13))
      go_ret
      exact ⟨by first | rfl | (simp [errW_none, errW_some] <;> rfl) | (simp [*, errW_none, errW_some] <;> rfl), by repeat (first | (with_reducible first | exact HB.out | apply below_alloc | apply pw_below_drewN | apply below_drew1) | exact HB.out)⟩
  · rw [if_neg c3] at H
    have c3b0 : (t204 == 0) = false := beq_eq_false_iff_ne.mpr c3
    have c3b1 : (t204 != 0) = true := bne_iff_ne.mpr c3
    obtain rfl := Option.some.inj H
    go_enter Tryd.func11, Tryd.ntmps11
    go_wp2_with (first | ((with_reducible refine gate_callee (f := 9) rfl ?_); refine goesL_ (some 4) rfl rfl Tryd.func9 (by kernel_rfl) rfl #[] rfl (by (try simp only [List.map_toArray, List.map_cons, List.map_nil]); first | done | rfl | (simp only [List.length_drop, List.length_take]; rfl)) ?_; (with_reducible refine (laws_all.calls  t197 t198 _ A1.out).mono ?_); rintro e w14 ⟨v199, rfl, ho0, hb⟩; refine ⟨_, rfl, ?_⟩; have n0_ := Aside0.mk (Kd.R_lower ho0 (below_size (by repeat (first | (with_reducible first | exact HB.out | apply below_alloc | apply pw_below_drewN | apply below_drew1) | exact HB.out)))); have n1_ := Aside0.mk (below_step (by repeat (first | (with_reducible first | exact HB.out | apply below_alloc | apply pw_below_drewN | apply below_drew1) | exact HB.out)) hb); clear HB; have HO200 := n0_; have HB := n1_; clear n0_ n1_; (try clear hb); (try clear hb2); (try clear hk); (try clear hi); (try clear ho0); obtain ⟨Ao15, co15, eo15⟩ := Kd.R_slice HO200.out; subst eo15) | ((with_reducible refine gate_callee (f := 8) rfl ?_); refine goesL_ (some 5) rfl rfl Tryd.func8 (by kernel_rfl) rfl #[.string (⟨#[51, 54, 32, 51, 53, 32, 57, 56, 58, 48, 32, 47, 109, 110, 116, 49, 32, 47, 109, 110, 116, 50, 32, 114, 119, 44, 110, 111, 97, 116, 105, 109, 101, 32, 109, 97, 115, 116, 101, 114, 58, 49, 32, 45, 32, 101, 120, 116, 51, 32, 47, 100, 101, 118, 47, 114, 111, 111, 116, 32, 114, 119, 44, 101, 114, 114, 111, 114, 115, 61, 99, 111, 110, 116, 105, 110, 117, 101, 10]⟩ : ByteArray), .agg #[.int .i64 t197, .slice Ao15 t198.length co15]] rfl (by (try simp only [List.map_toArray, List.map_cons, List.map_nil]); first | done | rfl | (simp only [List.length_drop, List.length_take]; rfl)) ?_; (with_reducible refine (impl_Mounts.calls k (⟨#[51, 54, 32, 51, 53, 32, 57, 56, 58, 48, 32, 47, 109, 110, 116, 49, 32, 47, 109, 110, 116, 50, 32, 114, 119, 44, 110, 111, 97, 116, 105, 109, 101, 32, 109, 97, 115, 116, 101, 114, 58, 49, 32, 45, 32, 101, 120, 116, 51, 32, 47, 100, 101, 118, 47, 114, 111, 111, 116, 32, 114, 119, 44, 101, 114, 114, 111, 114, 115, 61, 99, 111, 110, 116, 105, 110, 117, 101, 10]⟩ : ByteArray) t197 _ _ t198 t201 t204 _ ?side1 ?side2 A2.out).mono ?_); (case side1 => repeat (first | exact (Kd.R_reads' HO200.out).2.2 | (with_reducible refine Kd.C_alloc ?_ _) | (with_reducible refine Kd.C_drewN ?_ _) | (with_reducible refine Kd.C_drew ?_))); (case side2 => exact (Kd.R_reads' HO200.out).2.1); rintro e w16 ⟨v202, rfl, ho0, hb⟩; refine ⟨_, rfl, ?_⟩; have n0_ := Aside0.mk (Kd.R_below (by (with_reducible repeat (first | apply Kd.R_alloc | apply Kd.R_drewN | apply Kd.R_drew)); exact HO200.out) hb); have n1_ := Aside0.mk (Kd.R_lower ho0 (below_size (by repeat (first | (with_reducible first | exact HB.out | apply below_alloc | apply pw_below_drewN | apply below_drew1) | exact HB.out)))); have n2_ := Aside0.mk (below_step (by repeat (first | (with_reducible first | exact HB.out | apply below_alloc | apply pw_below_drewN | apply below_drew1) | exact HB.out)) hb); clear HO200; clear HB; have HO200 := n0_; have HO203 := n1_; have HB := n2_; clear n0_ n1_ n2_; (try clear hb); (try clear hb2); (try clear hk); (try clear hi); (try clear ho0)))
    go_ret
    exact ⟨by first | rfl | (simp [errW_none, errW_some] <;> rfl) | (simp [*, errW_none, errW_some] <;> rfl), by repeat (first | (with_reducible first | exact HB.out | apply below_alloc | apply pw_below_drewN | apply below_drew1) | exact HB.out)⟩

-- NOT PRINTED: function 3 (laws_FnMountsJoined)

/-! ### laws_printable: function 24 -/
def laws_printable.l0 : Nat → ByteArray → Int → Int → Option (Bool)
  | 0, _, _, _ => none
  | k + 1, x0, x5, x6 => if x6 < x5 then (if 0 ≤ x6 then (if x6 < (x0.size : Int) then (if (bt x0 x6) < 32 then (some false) else (if (bt x0 x6) > 126 then (some false) else (laws_printable.l0 k x0 x5 (wrap64 (x6 + 1))))) else (none)) else (none)) else (some true)
def laws_printable.f (k : Nat) (a0 : ByteArray) : Option (Bool) := laws_printable.l0 k a0 (a0.size : Int) 0
theorem laws_printable.mono_l : ∀ k, (∀ y0 y1 y2, LeO (laws_printable.l0 k y0 y1 y2) (laws_printable.l0 (k + 1) y0 y1 y2))
  | 0 => fun _ _ _ r h => by simp [laws_printable.l0] at h
  | k + 1 => by
    have ih0 := laws_printable.mono_l k
    · intro y0 y1 y2
      unfold laws_printable.l0
      repeat' first
      | (with_reducible exact ih0 _ _ _)
      | (with_reducible exact LeO.refl _)
      | (with_reducible exact LeO.none _)
      | (with_reducible refine LeO.ite ?_ ?_)
      | (with_reducible refine LeO.bind ?_ (fun _ => ?_))
      | exact ih0 _ _ _
      | exact LeO.none _
      | refine LeO.ite ?_ ?_
      | refine LeO.bind ?_ (fun _ => ?_)
theorem laws_printable.mono : ∀ a0 k, LeO (laws_printable.f k a0) (laws_printable.f (k + 1) a0) := by
  intro a0 k
  have ih0 := laws_printable.mono_l k
  unfold laws_printable.f
  repeat' first
      | (with_reducible exact ih0 _ _ _)
      | (with_reducible exact LeO.refl _)
      | (with_reducible exact LeO.none _)
      | (with_reducible refine LeO.ite ?_ ?_)
      | (with_reducible refine LeO.bind ?_ (fun _ => ?_))
      | exact ih0 _ _ _
      | exact LeO.none _
      | refine LeO.ite ?_ ?_
      | refine LeO.bind ?_ (fun _ => ?_)
set_option maxHeartbeats 8000000 in
set_option maxRecDepth 100000 in
theorem laws_printable.calls (k : Nat) (a0 : ByteArray) (r : Bool) (w : World) (h : laws_printable.f k a0 = some r) :
    Calls Tryd.prog 24 #[.string a0] w fun e w' => e = .returned (.bool r) ∧ Drawn0 w w' := by
  have H : (laws_printable.l0 k a0 (a0.size : Int) 0) = some r := h
  clear h
  have H' := Aside0.mk H
  clear H
  go_enter Tryd.func24, Tryd.ntmps24
  go_wp2
  go_loopg [6] k (fun kq v6 w' => ∃ (x6_1 : Int), v6 = .int .i64 x6_1 ∧ Aside0 (laws_printable.l0 kq a0 (a0.size : Int) x6_1 = some r) ∧ Aside0 (kq ≤ k) ∧ Drawn0 w w')
  case atStart => exact ⟨(0), (by first | rfl | (simp; done) | (simp [*]; done)), H', ⟨Nat.le_refl _⟩, by repeat (first | exact Drawn0.refl _ | apply Drawn0.step)⟩
  case round =>
    clear H'
    obtain ⟨x6_1, rfl, HA, HK1, ⟨m1, rfl⟩⟩ := hrel
    cases gk with
    | zero => exact absurd HA.out (by simp [laws_printable.l0])
    | succ k1 =>
      have H := HA.out
      clear HA
      simp only [laws_printable.l0] at H
      by_cases c2 : x6_1 < (a0.size : Int)
      · rw [if_pos c2] at H
        have c2b0 : decide (x6_1 < (a0.size : Int)) = true := decide_eq_true c2
        clear c2
        replace H := guard_inv H
        obtain ⟨c3, H⟩ := H
        have c3b0 : decide (0 ≤ x6_1) = true := decide_eq_true c3
        clear c3
        replace H := guard_inv H
        obtain ⟨c4, H⟩ := H
        have c4b0 : decide (x6_1 < (a0.size : Int)) = true := decide_eq_true c4
        clear c4
        by_cases c6 : (bt a0 x6_1) < 32
        · rw [if_pos c6] at H
          have c6b0 : decide ((bt a0 x6_1) < 32) = true := decide_eq_true c6
          clear c6
          obtain rfl := Option.some.inj H
          have p5 : 0 ≤ (x6_1 : Int) := of_decide_eq_true (by first | (with_reducible assumption) | assumption)
          have q5 : x6_1 < (a0.size : Int) := of_decide_eq_true (by first | (with_reducible assumption) | assumption)
          have hx5 := bt_at a0 x6_1
          replace p5 := eq_true p5
          replace q5 := eq_true q5
          go_wp2
          go_ret
          exact ⟨by first | rfl | (simp; done) | (simp [*]; done), by repeat (first | exact Drawn0.refl _ | apply Drawn0.step)⟩
        · rw [if_neg c6] at H
          have c6b0 : decide ((bt a0 x6_1) < 32) = false := decide_eq_false c6
          clear c6
          by_cases c8 : (bt a0 x6_1) > 126
          · rw [if_pos c8] at H
            have c8b0 : decide (126 < (bt a0 x6_1)) = true := decide_eq_true c8
            clear c8
            obtain rfl := Option.some.inj H
            have p5 : 0 ≤ (x6_1 : Int) := of_decide_eq_true (by first | (with_reducible assumption) | assumption)
            have q5 : x6_1 < (a0.size : Int) := of_decide_eq_true (by first | (with_reducible assumption) | assumption)
            have hx5 := bt_at a0 x6_1
            replace p5 := eq_true p5
            replace q5 := eq_true q5
            have p7 : 0 ≤ (x6_1 : Int) := of_decide_eq_true (by first | (with_reducible assumption) | assumption)
            have q7 : x6_1 < (a0.size : Int) := of_decide_eq_true (by first | (with_reducible assumption) | assumption)
            have hx7 := bt_at a0 x6_1
            replace p7 := eq_true p7
            replace q7 := eq_true q7
            go_wp2
            go_ret
            exact ⟨by first | rfl | (simp; done) | (simp [*]; done), by repeat (first | exact Drawn0.refl _ | apply Drawn0.step)⟩
          · rw [if_neg c8] at H
            have c8b0 : decide (126 < (bt a0 x6_1)) = false := decide_eq_false c8
            clear c8
            have H' := Aside0.mk H
            clear H
            have p5 : 0 ≤ (x6_1 : Int) := of_decide_eq_true (by first | (with_reducible assumption) | assumption)
            have q5 : x6_1 < (a0.size : Int) := of_decide_eq_true (by first | (with_reducible assumption) | assumption)
            have hx5 := bt_at a0 x6_1
            replace p5 := eq_true p5
            replace q5 := eq_true q5
            have p7 : 0 ≤ (x6_1 : Int) := of_decide_eq_true (by first | (with_reducible assumption) | assumption)
            have q7 : x6_1 < (a0.size : Int) := of_decide_eq_true (by first | (with_reducible assumption) | assumption)
            have hx7 := bt_at a0 x6_1
            replace p7 := eq_true p7
            replace q7 := eq_true q7
            go_wp2
            go_roundg k1
            case measure => have := HK1.out; omega
            case rel => exact ⟨(wrap64 (x6_1 + 1)), (by first | rfl | (simp; done) | (simp [*]; done)), H', ⟨by have := HK1.out; omega⟩, by repeat (first | exact Drawn0.refl _ | apply Drawn0.step)⟩
      · rw [if_neg c2] at H
        have c2b0 : decide (x6_1 < (a0.size : Int)) = false := decide_eq_false c2
        clear c2
        obtain rfl := Option.some.inj H
        go_wp2
        go_ret
        exact ⟨by first | rfl | (simp; done) | (simp [*]; done), by repeat (first | exact Drawn0.refl _ | apply Drawn0.step)⟩

end Go.Proofs.YtdmccakncgdbhaaDoor.GMA
