-- printed by gprint.py (a session's own turn of the kit's print): MA
import Derived.Test.YtdmccakncgdbhaaDoorGMAx0
import Derived.Test.YtdmccakncgdbhaaDoorGivenMA
import Derived.Test.YtdmccakncgdbhaaDoorGivenMT
namespace Go.Proofs.YtdmccakncgdbhaaDoor.GMA
open Go.RowKit Go.Proofs.YtdmccakncgdbhaaDoorW.PrintWords Go.Proofs.YtdmccakncgdbhaaDoorW.PrintLast Go.Proofs.YtdmccakncgdbhaaDoorW.PrintMore
attribute [local go_sem] max2_int min2_int max_two min_two max_three min_three max_four min_four   -- for this text's walks alone
set_option linter.unusedVariables false
set_option linter.unusedSimpArgs false

/-! ### laws_zzFits2: function 15 -/
def laws_zzFits2.f (a0_0 : Int) (a0_1 : Int) (a0_2 : Int) (a0_3 : Int) (a0_4 : ByteArray) (a0_5 : ByteArray) (a0_6 : ByteArray) (a0_7 : ByteArray) (a0_8 : ByteArray) (a0_9 : ByteArray) (a0_10 : ByteArray) : Option (Bool) := if (a0_4.size : Int) > 2147483647 then (some false) else (if (a0_5.size : Int) > 2147483647 then (some false) else (if (a0_6.size : Int) > 2147483647 then (some false) else (if (a0_7.size : Int) > 2147483647 then (some false) else (if (a0_8.size : Int) > 2147483647 then (some false) else (if (a0_9.size : Int) > 2147483647 then (some false) else (if (a0_10.size : Int) > 2147483647 then (some false) else (some true)))))))
set_option maxHeartbeats 8000000 in
set_option maxRecDepth 100000 in
theorem laws_zzFits2.calls (a0_0 : Int) (a0_1 : Int) (a0_2 : Int) (a0_3 : Int) (a0_4 : ByteArray) (a0_5 : ByteArray) (a0_6 : ByteArray) (a0_7 : ByteArray) (a0_8 : ByteArray) (a0_9 : ByteArray) (a0_10 : ByteArray) (r : Bool) (w : World) (h : laws_zzFits2.f a0_0 a0_1 a0_2 a0_3 a0_4 a0_5 a0_6 a0_7 a0_8 a0_9 a0_10 = some r) :
    Calls Tryd.prog 15 #[.agg #[.int .i64 a0_0, .int .i64 a0_1, .int .i64 a0_2, .int .i64 a0_3, .string a0_4, .string a0_5, .string a0_6, .string a0_7, .string a0_8, .string a0_9, .string a0_10]] w fun e w' => e = .returned (.bool r) ∧ Below w.heap.size w w' := by
  have hu36 := Tryd.underlying36
  have HB := Aside0.mk (Below.refl w.heap.size w)
  have H : (if (a0_4.size : Int) > 2147483647 then (some false) else (if (a0_5.size : Int) > 2147483647 then (some false) else (if (a0_6.size : Int) > 2147483647 then (some false) else (if (a0_7.size : Int) > 2147483647 then (some false) else (if (a0_8.size : Int) > 2147483647 then (some false) else (if (a0_9.size : Int) > 2147483647 then (some false) else (if (a0_10.size : Int) > 2147483647 then (some false) else (some true)))))))) = some r := h
  clear h
  by_cases c2 : (a0_4.size : Int) > 2147483647
  · rw [if_pos c2] at H
    have c2b0 : decide (2147483647 < (a0_4.size : Int)) = true := decide_eq_true c2
    have c2b1 : decide (2147483647 < a0_4.size) = true := decide_eq_true (by omega)
    clear c2
    obtain rfl := Option.some.inj H
    go_enter Tryd.func15, Tryd.ntmps15
    go_wp2_with (first | ((with_reducible refine gate_dst (N := 1) rfl ?_); refine box_event ?hg (N := 1) ?hd (cs := #[.int .i64 a0_0, .int .i64 a0_1, .int .i64 a0_2, .int .i64 a0_3, .string a0_4, .string a0_5, .string a0_6, .string a0_7, .string a0_8, .string a0_9, .string a0_10]) (t := 36) ?hr ?_; (case hd => rfl); (case hg => rfl); (case hr => first | (go_simp; done) | (go_simp; rfl)); intro gb132 hg w3 hbox hb; have n0_ := Aside0.mk (below_step (by repeat (first | (with_reducible first | exact HB.out | apply below_alloc | apply pw_below_drewN | apply below_drew1) | exact HB.out)) hb); have n1_ := Aside0.mk (hbox); have n2_ := Aside0.mk ((by rw [hg]; exact (below_size (by repeat (first | (with_reducible first | exact HB.out | apply below_alloc | apply pw_below_drewN | apply below_drew1) | exact HB.out))) : w.heap.size ≤ gb132)); have n3_ := Aside0.mk ((by rw [hg]; exact (below_size (by repeat (first | (with_reducible first | exact HB.out | apply below_alloc | apply pw_below_drewN | apply below_drew1) | exact HB.out))) : w.heap.size ≤ gb132)); clear HB; have HB := n0_; have BK132 := n1_; have GW132 := n2_; have GE132 := n3_; clear n0_ n1_ n2_ n3_; clear hb hbox hg; have hcz4_0 : w3.cell? ⟨gb132, 0, none⟩ = some (.int .i64 a0_0) := (blk_cell BK132.out 0).trans rfl; have hcz4_1 : w3.cell? ⟨gb132, 1, none⟩ = some (.int .i64 a0_1) := (blk_cell BK132.out 1).trans rfl; have hcz4_2 : w3.cell? ⟨gb132, 2, none⟩ = some (.int .i64 a0_2) := (blk_cell BK132.out 2).trans rfl; have hcz4_3 : w3.cell? ⟨gb132, 3, none⟩ = some (.int .i64 a0_3) := (blk_cell BK132.out 3).trans rfl; have hcz4_4 : w3.cell? ⟨gb132, 4, none⟩ = some (.string a0_4) := (blk_cell BK132.out 4).trans rfl; have hcz4_5 : w3.cell? ⟨gb132, 5, none⟩ = some (.string a0_5) := (blk_cell BK132.out 5).trans rfl; have hcz4_6 : w3.cell? ⟨gb132, 6, none⟩ = some (.string a0_6) := (blk_cell BK132.out 6).trans rfl; have hcz4_7 : w3.cell? ⟨gb132, 7, none⟩ = some (.string a0_7) := (blk_cell BK132.out 7).trans rfl; have hcz4_8 : w3.cell? ⟨gb132, 8, none⟩ = some (.string a0_8) := (blk_cell BK132.out 8).trans rfl; have hcz4_9 : w3.cell? ⟨gb132, 9, none⟩ = some (.string a0_9) := (blk_cell BK132.out 9).trans rfl; have hcz4_10 : w3.cell? ⟨gb132, 10, none⟩ = some (.string a0_10) := (blk_cell BK132.out 10).trans rfl; have hfz4_0 := blk_frozen BK132.out 0; have hfz4_1 := blk_frozen BK132.out 1; have hfz4_2 := blk_frozen BK132.out 2; have hfz4_3 := blk_frozen BK132.out 3; have hfz4_4 := blk_frozen BK132.out 4; have hfz4_5 := blk_frozen BK132.out 5; have hfz4_6 := blk_frozen BK132.out 6; have hfz4_7 := blk_frozen BK132.out 7; have hfz4_8 := blk_frozen BK132.out 8; have hfz4_9 := blk_frozen BK132.out 9; have hfz4_10 := blk_frozen BK132.out 10))
    go_ret
    exact ⟨by first | rfl | (simp [errW_none, errW_some] <;> rfl) | (simp [*, errW_none, errW_some] <;> rfl), by repeat (first | (with_reducible first | exact HB.out | apply below_alloc | apply pw_below_drewN | apply below_drew1 | refine below_set ?_ GE132.out) | exact HB.out)⟩
  · rw [if_neg c2] at H
    have c2b0 : decide (2147483647 < (a0_4.size : Int)) = false := decide_eq_false c2
    have c2b1 : decide (2147483647 < a0_4.size) = false := decide_eq_false (by omega)
    clear c2
    by_cases c5 : (a0_5.size : Int) > 2147483647
    · rw [if_pos c5] at H
      have c5b0 : decide (2147483647 < (a0_5.size : Int)) = true := decide_eq_true c5
      have c5b1 : decide (2147483647 < a0_5.size) = true := decide_eq_true (by omega)
      clear c5
      obtain rfl := Option.some.inj H
      go_enter Tryd.func15, Tryd.ntmps15
      go_wp2_with (first | ((with_reducible refine gate_dst (N := 1) rfl ?_); refine box_event ?hg (N := 1) ?hd (cs := #[.int .i64 a0_0, .int .i64 a0_1, .int .i64 a0_2, .int .i64 a0_3, .string a0_4, .string a0_5, .string a0_6, .string a0_7, .string a0_8, .string a0_9, .string a0_10]) (t := 36) ?hr ?_; (case hd => rfl); (case hg => rfl); (case hr => first | (go_simp; done) | (go_simp; rfl)); intro gb132 hg w6 hbox hb; have n0_ := Aside0.mk (below_step (by repeat (first | (with_reducible first | exact HB.out | apply below_alloc | apply pw_below_drewN | apply below_drew1) | exact HB.out)) hb); have n1_ := Aside0.mk (hbox); have n2_ := Aside0.mk ((by rw [hg]; exact (below_size (by repeat (first | (with_reducible first | exact HB.out | apply below_alloc | apply pw_below_drewN | apply below_drew1) | exact HB.out))) : w.heap.size ≤ gb132)); have n3_ := Aside0.mk ((by rw [hg]; exact (below_size (by repeat (first | (with_reducible first | exact HB.out | apply below_alloc | apply pw_below_drewN | apply below_drew1) | exact HB.out))) : w.heap.size ≤ gb132)); clear HB; have HB := n0_; have BK132 := n1_; have GW132 := n2_; have GE132 := n3_; clear n0_ n1_ n2_ n3_; clear hb hbox hg; have hcz7_0 : w6.cell? ⟨gb132, 0, none⟩ = some (.int .i64 a0_0) := (blk_cell BK132.out 0).trans rfl; have hcz7_1 : w6.cell? ⟨gb132, 1, none⟩ = some (.int .i64 a0_1) := (blk_cell BK132.out 1).trans rfl; have hcz7_2 : w6.cell? ⟨gb132, 2, none⟩ = some (.int .i64 a0_2) := (blk_cell BK132.out 2).trans rfl; have hcz7_3 : w6.cell? ⟨gb132, 3, none⟩ = some (.int .i64 a0_3) := (blk_cell BK132.out 3).trans rfl; have hcz7_4 : w6.cell? ⟨gb132, 4, none⟩ = some (.string a0_4) := (blk_cell BK132.out 4).trans rfl; have hcz7_5 : w6.cell? ⟨gb132, 5, none⟩ = some (.string a0_5) := (blk_cell BK132.out 5).trans rfl; have hcz7_6 : w6.cell? ⟨gb132, 6, none⟩ = some (.string a0_6) := (blk_cell BK132.out 6).trans rfl; have hcz7_7 : w6.cell? ⟨gb132, 7, none⟩ = some (.string a0_7) := (blk_cell BK132.out 7).trans rfl; have hcz7_8 : w6.cell? ⟨gb132, 8, none⟩ = some (.string a0_8) := (blk_cell BK132.out 8).trans rfl; have hcz7_9 : w6.cell? ⟨gb132, 9, none⟩ = some (.string a0_9) := (blk_cell BK132.out 9).trans rfl; have hcz7_10 : w6.cell? ⟨gb132, 10, none⟩ = some (.string a0_10) := (blk_cell BK132.out 10).trans rfl; have hfz7_0 := blk_frozen BK132.out 0; have hfz7_1 := blk_frozen BK132.out 1; have hfz7_2 := blk_frozen BK132.out 2; have hfz7_3 := blk_frozen BK132.out 3; have hfz7_4 := blk_frozen BK132.out 4; have hfz7_5 := blk_frozen BK132.out 5; have hfz7_6 := blk_frozen BK132.out 6; have hfz7_7 := blk_frozen BK132.out 7; have hfz7_8 := blk_frozen BK132.out 8; have hfz7_9 := blk_frozen BK132.out 9; have hfz7_10 := blk_frozen BK132.out 10))
      go_ret
      exact ⟨by first | rfl | (simp [errW_none, errW_some] <;> rfl) | (simp [*, errW_none, errW_some] <;> rfl), by repeat (first | (with_reducible first | exact HB.out | apply below_alloc | apply pw_below_drewN | apply below_drew1 | refine below_set ?_ GE132.out) | exact HB.out)⟩
    · rw [if_neg c5] at H
      have c5b0 : decide (2147483647 < (a0_5.size : Int)) = false := decide_eq_false c5
      have c5b1 : decide (2147483647 < a0_5.size) = false := decide_eq_false (by omega)
      clear c5
      by_cases c8 : (a0_6.size : Int) > 2147483647
      · rw [if_pos c8] at H
        have c8b0 : decide (2147483647 < (a0_6.size : Int)) = true := decide_eq_true c8
        have c8b1 : decide (2147483647 < a0_6.size) = true := decide_eq_true (by omega)
        clear c8
        obtain rfl := Option.some.inj H
        go_enter Tryd.func15, Tryd.ntmps15
        go_wp2_with (first | ((with_reducible refine gate_dst (N := 1) rfl ?_); refine box_event ?hg (N := 1) ?hd (cs := #[.int .i64 a0_0, .int .i64 a0_1, .int .i64 a0_2, .int .i64 a0_3, .string a0_4, .string a0_5, .string a0_6, .string a0_7, .string a0_8, .string a0_9, .string a0_10]) (t := 36) ?hr ?_; (case hd => rfl); (case hg => rfl); (case hr => first | (go_simp; done) | (go_simp; rfl)); intro gb132 hg w9 hbox hb; have n0_ := Aside0.mk (below_step (by repeat (first | (with_reducible first | exact HB.out | apply below_alloc | apply pw_below_drewN | apply below_drew1) | exact HB.out)) hb); have n1_ := Aside0.mk (hbox); have n2_ := Aside0.mk ((by rw [hg]; exact (below_size (by repeat (first | (with_reducible first | exact HB.out | apply below_alloc | apply pw_below_drewN | apply below_drew1) | exact HB.out))) : w.heap.size ≤ gb132)); have n3_ := Aside0.mk ((by rw [hg]; exact (below_size (by repeat (first | (with_reducible first | exact HB.out | apply below_alloc | apply pw_below_drewN | apply below_drew1) | exact HB.out))) : w.heap.size ≤ gb132)); clear HB; have HB := n0_; have BK132 := n1_; have GW132 := n2_; have GE132 := n3_; clear n0_ n1_ n2_ n3_; clear hb hbox hg; have hcz10_0 : w9.cell? ⟨gb132, 0, none⟩ = some (.int .i64 a0_0) := (blk_cell BK132.out 0).trans rfl; have hcz10_1 : w9.cell? ⟨gb132, 1, none⟩ = some (.int .i64 a0_1) := (blk_cell BK132.out 1).trans rfl; have hcz10_2 : w9.cell? ⟨gb132, 2, none⟩ = some (.int .i64 a0_2) := (blk_cell BK132.out 2).trans rfl; have hcz10_3 : w9.cell? ⟨gb132, 3, none⟩ = some (.int .i64 a0_3) := (blk_cell BK132.out 3).trans rfl; have hcz10_4 : w9.cell? ⟨gb132, 4, none⟩ = some (.string a0_4) := (blk_cell BK132.out 4).trans rfl; have hcz10_5 : w9.cell? ⟨gb132, 5, none⟩ = some (.string a0_5) := (blk_cell BK132.out 5).trans rfl; have hcz10_6 : w9.cell? ⟨gb132, 6, none⟩ = some (.string a0_6) := (blk_cell BK132.out 6).trans rfl; have hcz10_7 : w9.cell? ⟨gb132, 7, none⟩ = some (.string a0_7) := (blk_cell BK132.out 7).trans rfl; have hcz10_8 : w9.cell? ⟨gb132, 8, none⟩ = some (.string a0_8) := (blk_cell BK132.out 8).trans rfl; have hcz10_9 : w9.cell? ⟨gb132, 9, none⟩ = some (.string a0_9) := (blk_cell BK132.out 9).trans rfl; have hcz10_10 : w9.cell? ⟨gb132, 10, none⟩ = some (.string a0_10) := (blk_cell BK132.out 10).trans rfl; have hfz10_0 := blk_frozen BK132.out 0; have hfz10_1 := blk_frozen BK132.out 1; have hfz10_2 := blk_frozen BK132.out 2; have hfz10_3 := blk_frozen BK132.out 3; have hfz10_4 := blk_frozen BK132.out 4; have hfz10_5 := blk_frozen BK132.out 5; have hfz10_6 := blk_frozen BK132.out 6; have hfz10_7 := blk_frozen BK132.out 7; have hfz10_8 := blk_frozen BK132.out 8; have hfz10_9 := blk_frozen BK132.out 9; have hfz10_10 := blk_frozen BK132.out 10))
        go_ret
        exact ⟨by first | rfl | (simp [errW_none, errW_some] <;> rfl) | (simp [*, errW_none, errW_some] <;> rfl), by repeat (first | (with_reducible first | exact HB.out | apply below_alloc | apply pw_below_drewN | apply below_drew1 | refine below_set ?_ GE132.out) | exact HB.out)⟩
      · rw [if_neg c8] at H
        have c8b0 : decide (2147483647 < (a0_6.size : Int)) = false := decide_eq_false c8
        have c8b1 : decide (2147483647 < a0_6.size) = false := decide_eq_false (by omega)
        clear c8
        by_cases c11 : (a0_7.size : Int) > 2147483647
        · rw [if_pos c11] at H
          have c11b0 : decide (2147483647 < (a0_7.size : Int)) = true := decide_eq_true c11
          have c11b1 : decide (2147483647 < a0_7.size) = true := decide_eq_true (by omega)
          clear c11
          obtain rfl := Option.some.inj H
          go_enter Tryd.func15, Tryd.ntmps15
          go_wp2_with (first | ((with_reducible refine gate_dst (N := 1) rfl ?_); refine box_event ?hg (N := 1) ?hd (cs := #[.int .i64 a0_0, .int .i64 a0_1, .int .i64 a0_2, .int .i64 a0_3, .string a0_4, .string a0_5, .string a0_6, .string a0_7, .string a0_8, .string a0_9, .string a0_10]) (t := 36) ?hr ?_; (case hd => rfl); (case hg => rfl); (case hr => first | (go_simp; done) | (go_simp; rfl)); intro gb132 hg w12 hbox hb; have n0_ := Aside0.mk (below_step (by repeat (first | (with_reducible first | exact HB.out | apply below_alloc | apply pw_below_drewN | apply below_drew1) | exact HB.out)) hb); have n1_ := Aside0.mk (hbox); have n2_ := Aside0.mk ((by rw [hg]; exact (below_size (by repeat (first | (with_reducible first | exact HB.out | apply below_alloc | apply pw_below_drewN | apply below_drew1) | exact HB.out))) : w.heap.size ≤ gb132)); have n3_ := Aside0.mk ((by rw [hg]; exact (below_size (by repeat (first | (with_reducible first | exact HB.out | apply below_alloc | apply pw_below_drewN | apply below_drew1) | exact HB.out))) : w.heap.size ≤ gb132)); clear HB; have HB := n0_; have BK132 := n1_; have GW132 := n2_; have GE132 := n3_; clear n0_ n1_ n2_ n3_; clear hb hbox hg; have hcz13_0 : w12.cell? ⟨gb132, 0, none⟩ = some (.int .i64 a0_0) := (blk_cell BK132.out 0).trans rfl; have hcz13_1 : w12.cell? ⟨gb132, 1, none⟩ = some (.int .i64 a0_1) := (blk_cell BK132.out 1).trans rfl; have hcz13_2 : w12.cell? ⟨gb132, 2, none⟩ = some (.int .i64 a0_2) := (blk_cell BK132.out 2).trans rfl; have hcz13_3 : w12.cell? ⟨gb132, 3, none⟩ = some (.int .i64 a0_3) := (blk_cell BK132.out 3).trans rfl; have hcz13_4 : w12.cell? ⟨gb132, 4, none⟩ = some (.string a0_4) := (blk_cell BK132.out 4).trans rfl; have hcz13_5 : w12.cell? ⟨gb132, 5, none⟩ = some (.string a0_5) := (blk_cell BK132.out 5).trans rfl; have hcz13_6 : w12.cell? ⟨gb132, 6, none⟩ = some (.string a0_6) := (blk_cell BK132.out 6).trans rfl; have hcz13_7 : w12.cell? ⟨gb132, 7, none⟩ = some (.string a0_7) := (blk_cell BK132.out 7).trans rfl; have hcz13_8 : w12.cell? ⟨gb132, 8, none⟩ = some (.string a0_8) := (blk_cell BK132.out 8).trans rfl; have hcz13_9 : w12.cell? ⟨gb132, 9, none⟩ = some (.string a0_9) := (blk_cell BK132.out 9).trans rfl; have hcz13_10 : w12.cell? ⟨gb132, 10, none⟩ = some (.string a0_10) := (blk_cell BK132.out 10).trans rfl; have hfz13_0 := blk_frozen BK132.out 0; have hfz13_1 := blk_frozen BK132.out 1; have hfz13_2 := blk_frozen BK132.out 2; have hfz13_3 := blk_frozen BK132.out 3; have hfz13_4 := blk_frozen BK132.out 4; have hfz13_5 := blk_frozen BK132.out 5; have hfz13_6 := blk_frozen BK132.out 6; have hfz13_7 := blk_frozen BK132.out 7; have hfz13_8 := blk_frozen BK132.out 8; have hfz13_9 := blk_frozen BK132.out 9; have hfz13_10 := blk_frozen BK132.out 10))
          go_ret
          exact ⟨by first | rfl | (simp [errW_none, errW_some] <;> rfl) | (simp [*, errW_none, errW_some] <;> rfl), by repeat (first | (with_reducible first | exact HB.out | apply below_alloc | apply pw_below_drewN | apply below_drew1 | refine below_set ?_ GE132.out) | exact HB.out)⟩
        · rw [if_neg c11] at H
          have c11b0 : decide (2147483647 < (a0_7.size : Int)) = false := decide_eq_false c11
          have c11b1 : decide (2147483647 < a0_7.size) = false := decide_eq_false (by omega)
          clear c11
          by_cases c14 : (a0_8.size : Int) > 2147483647
          · rw [if_pos c14] at H
            have c14b0 : decide (2147483647 < (a0_8.size : Int)) = true := decide_eq_true c14
            have c14b1 : decide (2147483647 < a0_8.size) = true := decide_eq_true (by omega)
            clear c14
            obtain rfl := Option.some.inj H
            go_enter Tryd.func15, Tryd.ntmps15
            go_wp2_with (first | ((with_reducible refine gate_dst (N := 1) rfl ?_); refine box_event ?hg (N := 1) ?hd (cs := #[.int .i64 a0_0, .int .i64 a0_1, .int .i64 a0_2, .int .i64 a0_3, .string a0_4, .string a0_5, .string a0_6, .string a0_7, .string a0_8, .string a0_9, .string a0_10]) (t := 36) ?hr ?_; (case hd => rfl); (case hg => rfl); (case hr => first | (go_simp; done) | (go_simp; rfl)); intro gb132 hg w15 hbox hb; have n0_ := Aside0.mk (below_step (by repeat (first | (with_reducible first | exact HB.out | apply below_alloc | apply pw_below_drewN | apply below_drew1) | exact HB.out)) hb); have n1_ := Aside0.mk (hbox); have n2_ := Aside0.mk ((by rw [hg]; exact (below_size (by repeat (first | (with_reducible first | exact HB.out | apply below_alloc | apply pw_below_drewN | apply below_drew1) | exact HB.out))) : w.heap.size ≤ gb132)); have n3_ := Aside0.mk ((by rw [hg]; exact (below_size (by repeat (first | (with_reducible first | exact HB.out | apply below_alloc | apply pw_below_drewN | apply below_drew1) | exact HB.out))) : w.heap.size ≤ gb132)); clear HB; have HB := n0_; have BK132 := n1_; have GW132 := n2_; have GE132 := n3_; clear n0_ n1_ n2_ n3_; clear hb hbox hg; have hcz16_0 : w15.cell? ⟨gb132, 0, none⟩ = some (.int .i64 a0_0) := (blk_cell BK132.out 0).trans rfl; have hcz16_1 : w15.cell? ⟨gb132, 1, none⟩ = some (.int .i64 a0_1) := (blk_cell BK132.out 1).trans rfl; have hcz16_2 : w15.cell? ⟨gb132, 2, none⟩ = some (.int .i64 a0_2) := (blk_cell BK132.out 2).trans rfl; have hcz16_3 : w15.cell? ⟨gb132, 3, none⟩ = some (.int .i64 a0_3) := (blk_cell BK132.out 3).trans rfl; have hcz16_4 : w15.cell? ⟨gb132, 4, none⟩ = some (.string a0_4) := (blk_cell BK132.out 4).trans rfl; have hcz16_5 : w15.cell? ⟨gb132, 5, none⟩ = some (.string a0_5) := (blk_cell BK132.out 5).trans rfl; have hcz16_6 : w15.cell? ⟨gb132, 6, none⟩ = some (.string a0_6) := (blk_cell BK132.out 6).trans rfl; have hcz16_7 : w15.cell? ⟨gb132, 7, none⟩ = some (.string a0_7) := (blk_cell BK132.out 7).trans rfl; have hcz16_8 : w15.cell? ⟨gb132, 8, none⟩ = some (.string a0_8) := (blk_cell BK132.out 8).trans rfl; have hcz16_9 : w15.cell? ⟨gb132, 9, none⟩ = some (.string a0_9) := (blk_cell BK132.out 9).trans rfl; have hcz16_10 : w15.cell? ⟨gb132, 10, none⟩ = some (.string a0_10) := (blk_cell BK132.out 10).trans rfl; have hfz16_0 := blk_frozen BK132.out 0; have hfz16_1 := blk_frozen BK132.out 1; have hfz16_2 := blk_frozen BK132.out 2; have hfz16_3 := blk_frozen BK132.out 3; have hfz16_4 := blk_frozen BK132.out 4; have hfz16_5 := blk_frozen BK132.out 5; have hfz16_6 := blk_frozen BK132.out 6; have hfz16_7 := blk_frozen BK132.out 7; have hfz16_8 := blk_frozen BK132.out 8; have hfz16_9 := blk_frozen BK132.out 9; have hfz16_10 := blk_frozen BK132.out 10))
            go_ret
            exact ⟨by first | rfl | (simp [errW_none, errW_some] <;> rfl) | (simp [*, errW_none, errW_some] <;> rfl), by repeat (first | (with_reducible first | exact HB.out | apply below_alloc | apply pw_below_drewN | apply below_drew1 | refine below_set ?_ GE132.out) | exact HB.out)⟩
          · rw [if_neg c14] at H
            have c14b0 : decide (2147483647 < (a0_8.size : Int)) = false := decide_eq_false c14
            have c14b1 : decide (2147483647 < a0_8.size) = false := decide_eq_false (by omega)
            clear c14
            by_cases c17 : (a0_9.size : Int) > 2147483647
            · rw [if_pos c17] at H
              have c17b0 : decide (2147483647 < (a0_9.size : Int)) = true := decide_eq_true c17
              have c17b1 : decide (2147483647 < a0_9.size) = true := decide_eq_true (by omega)
              clear c17
              obtain rfl := Option.some.inj H
              go_enter Tryd.func15, Tryd.ntmps15
              go_wp2_with (first | ((with_reducible refine gate_dst (N := 1) rfl ?_); refine box_event ?hg (N := 1) ?hd (cs := #[.int .i64 a0_0, .int .i64 a0_1, .int .i64 a0_2, .int .i64 a0_3, .string a0_4, .string a0_5, .string a0_6, .string a0_7, .string a0_8, .string a0_9, .string a0_10]) (t := 36) ?hr ?_; (case hd => rfl); (case hg => rfl); (case hr => first | (go_simp; done) | (go_simp; rfl)); intro gb132 hg w18 hbox hb; have n0_ := Aside0.mk (below_step (by repeat (first | (with_reducible first | exact HB.out | apply below_alloc | apply pw_below_drewN | apply below_drew1) | exact HB.out)) hb); have n1_ := Aside0.mk (hbox); have n2_ := Aside0.mk ((by rw [hg]; exact (below_size (by repeat (first | (with_reducible first | exact HB.out | apply below_alloc | apply pw_below_drewN | apply below_drew1) | exact HB.out))) : w.heap.size ≤ gb132)); have n3_ := Aside0.mk ((by rw [hg]; exact (below_size (by repeat (first | (with_reducible first | exact HB.out | apply below_alloc | apply pw_below_drewN | apply below_drew1) | exact HB.out))) : w.heap.size ≤ gb132)); clear HB; have HB := n0_; have BK132 := n1_; have GW132 := n2_; have GE132 := n3_; clear n0_ n1_ n2_ n3_; clear hb hbox hg; have hcz19_0 : w18.cell? ⟨gb132, 0, none⟩ = some (.int .i64 a0_0) := (blk_cell BK132.out 0).trans rfl; have hcz19_1 : w18.cell? ⟨gb132, 1, none⟩ = some (.int .i64 a0_1) := (blk_cell BK132.out 1).trans rfl; have hcz19_2 : w18.cell? ⟨gb132, 2, none⟩ = some (.int .i64 a0_2) := (blk_cell BK132.out 2).trans rfl; have hcz19_3 : w18.cell? ⟨gb132, 3, none⟩ = some (.int .i64 a0_3) := (blk_cell BK132.out 3).trans rfl; have hcz19_4 : w18.cell? ⟨gb132, 4, none⟩ = some (.string a0_4) := (blk_cell BK132.out 4).trans rfl; have hcz19_5 : w18.cell? ⟨gb132, 5, none⟩ = some (.string a0_5) := (blk_cell BK132.out 5).trans rfl; have hcz19_6 : w18.cell? ⟨gb132, 6, none⟩ = some (.string a0_6) := (blk_cell BK132.out 6).trans rfl; have hcz19_7 : w18.cell? ⟨gb132, 7, none⟩ = some (.string a0_7) := (blk_cell BK132.out 7).trans rfl; have hcz19_8 : w18.cell? ⟨gb132, 8, none⟩ = some (.string a0_8) := (blk_cell BK132.out 8).trans rfl; have hcz19_9 : w18.cell? ⟨gb132, 9, none⟩ = some (.string a0_9) := (blk_cell BK132.out 9).trans rfl; have hcz19_10 : w18.cell? ⟨gb132, 10, none⟩ = some (.string a0_10) := (blk_cell BK132.out 10).trans rfl; have hfz19_0 := blk_frozen BK132.out 0; have hfz19_1 := blk_frozen BK132.out 1; have hfz19_2 := blk_frozen BK132.out 2; have hfz19_3 := blk_frozen BK132.out 3; have hfz19_4 := blk_frozen BK132.out 4; have hfz19_5 := blk_frozen BK132.out 5; have hfz19_6 := blk_frozen BK132.out 6; have hfz19_7 := blk_frozen BK132.out 7; have hfz19_8 := blk_frozen BK132.out 8; have hfz19_9 := blk_frozen BK132.out 9; have hfz19_10 := blk_frozen BK132.out 10))
              go_ret
              exact ⟨by first | rfl | (simp [errW_none, errW_some] <;> rfl) | (simp [*, errW_none, errW_some] <;> rfl), by repeat (first | (with_reducible first | exact HB.out | apply below_alloc | apply pw_below_drewN | apply below_drew1 | refine below_set ?_ GE132.out) | exact HB.out)⟩
            · rw [if_neg c17] at H
              have c17b0 : decide (2147483647 < (a0_9.size : Int)) = false := decide_eq_false c17
              have c17b1 : decide (2147483647 < a0_9.size) = false := decide_eq_false (by omega)
              clear c17
              by_cases c20 : (a0_10.size : Int) > 2147483647
              · rw [if_pos c20] at H
                have c20b0 : decide (2147483647 < (a0_10.size : Int)) = true := decide_eq_true c20
                have c20b1 : decide (2147483647 < a0_10.size) = true := decide_eq_true (by omega)
                clear c20
                obtain rfl := Option.some.inj H
                go_enter Tryd.func15, Tryd.ntmps15
                go_wp2_with (first | ((with_reducible refine gate_dst (N := 1) rfl ?_); refine box_event ?hg (N := 1) ?hd (cs := #[.int .i64 a0_0, .int .i64 a0_1, .int .i64 a0_2, .int .i64 a0_3, .string a0_4, .string a0_5, .string a0_6, .string a0_7, .string a0_8, .string a0_9, .string a0_10]) (t := 36) ?hr ?_; (case hd => rfl); (case hg => rfl); (case hr => first | (go_simp; done) | (go_simp; rfl)); intro gb132 hg w21 hbox hb; have n0_ := Aside0.mk (below_step (by repeat (first | (with_reducible first | exact HB.out | apply below_alloc | apply pw_below_drewN | apply below_drew1) | exact HB.out)) hb); have n1_ := Aside0.mk (hbox); have n2_ := Aside0.mk ((by rw [hg]; exact (below_size (by repeat (first | (with_reducible first | exact HB.out | apply below_alloc | apply pw_below_drewN | apply below_drew1) | exact HB.out))) : w.heap.size ≤ gb132)); have n3_ := Aside0.mk ((by rw [hg]; exact (below_size (by repeat (first | (with_reducible first | exact HB.out | apply below_alloc | apply pw_below_drewN | apply below_drew1) | exact HB.out))) : w.heap.size ≤ gb132)); clear HB; have HB := n0_; have BK132 := n1_; have GW132 := n2_; have GE132 := n3_; clear n0_ n1_ n2_ n3_; clear hb hbox hg; have hcz22_0 : w21.cell? ⟨gb132, 0, none⟩ = some (.int .i64 a0_0) := (blk_cell BK132.out 0).trans rfl; have hcz22_1 : w21.cell? ⟨gb132, 1, none⟩ = some (.int .i64 a0_1) := (blk_cell BK132.out 1).trans rfl; have hcz22_2 : w21.cell? ⟨gb132, 2, none⟩ = some (.int .i64 a0_2) := (blk_cell BK132.out 2).trans rfl; have hcz22_3 : w21.cell? ⟨gb132, 3, none⟩ = some (.int .i64 a0_3) := (blk_cell BK132.out 3).trans rfl; have hcz22_4 : w21.cell? ⟨gb132, 4, none⟩ = some (.string a0_4) := (blk_cell BK132.out 4).trans rfl; have hcz22_5 : w21.cell? ⟨gb132, 5, none⟩ = some (.string a0_5) := (blk_cell BK132.out 5).trans rfl; have hcz22_6 : w21.cell? ⟨gb132, 6, none⟩ = some (.string a0_6) := (blk_cell BK132.out 6).trans rfl; have hcz22_7 : w21.cell? ⟨gb132, 7, none⟩ = some (.string a0_7) := (blk_cell BK132.out 7).trans rfl; have hcz22_8 : w21.cell? ⟨gb132, 8, none⟩ = some (.string a0_8) := (blk_cell BK132.out 8).trans rfl; have hcz22_9 : w21.cell? ⟨gb132, 9, none⟩ = some (.string a0_9) := (blk_cell BK132.out 9).trans rfl; have hcz22_10 : w21.cell? ⟨gb132, 10, none⟩ = some (.string a0_10) := (blk_cell BK132.out 10).trans rfl; have hfz22_0 := blk_frozen BK132.out 0; have hfz22_1 := blk_frozen BK132.out 1; have hfz22_2 := blk_frozen BK132.out 2; have hfz22_3 := blk_frozen BK132.out 3; have hfz22_4 := blk_frozen BK132.out 4; have hfz22_5 := blk_frozen BK132.out 5; have hfz22_6 := blk_frozen BK132.out 6; have hfz22_7 := blk_frozen BK132.out 7; have hfz22_8 := blk_frozen BK132.out 8; have hfz22_9 := blk_frozen BK132.out 9; have hfz22_10 := blk_frozen BK132.out 10))
                go_ret
                exact ⟨by first | rfl | (simp [errW_none, errW_some] <;> rfl) | (simp [*, errW_none, errW_some] <;> rfl), by repeat (first | (with_reducible first | exact HB.out | apply below_alloc | apply pw_below_drewN | apply below_drew1 | refine below_set ?_ GE132.out) | exact HB.out)⟩
              · rw [if_neg c20] at H
                have c20b0 : decide (2147483647 < (a0_10.size : Int)) = false := decide_eq_false c20
                have c20b1 : decide (2147483647 < a0_10.size) = false := decide_eq_false (by omega)
                clear c20
                obtain rfl := Option.some.inj H
                go_enter Tryd.func15, Tryd.ntmps15
                go_wp2_with (first | ((with_reducible refine gate_dst (N := 1) rfl ?_); refine box_event ?hg (N := 1) ?hd (cs := #[.int .i64 a0_0, .int .i64 a0_1, .int .i64 a0_2, .int .i64 a0_3, .string a0_4, .string a0_5, .string a0_6, .string a0_7, .string a0_8, .string a0_9, .string a0_10]) (t := 36) ?hr ?_; (case hd => rfl); (case hg => rfl); (case hr => first | (go_simp; done) | (go_simp; rfl)); intro gb132 hg w23 hbox hb; have n0_ := Aside0.mk (below_step (by repeat (first | (with_reducible first | exact HB.out | apply below_alloc | apply pw_below_drewN | apply below_drew1) | exact HB.out)) hb); have n1_ := Aside0.mk (hbox); have n2_ := Aside0.mk ((by rw [hg]; exact (below_size (by repeat (first | (with_reducible first | exact HB.out | apply below_alloc | apply pw_below_drewN | apply below_drew1) | exact HB.out))) : w.heap.size ≤ gb132)); have n3_ := Aside0.mk ((by rw [hg]; exact (below_size (by repeat (first | (with_reducible first | exact HB.out | apply below_alloc | apply pw_below_drewN | apply below_drew1) | exact HB.out))) : w.heap.size ≤ gb132)); clear HB; have HB := n0_; have BK132 := n1_; have GW132 := n2_; have GE132 := n3_; clear n0_ n1_ n2_ n3_; clear hb hbox hg; have hcz24_0 : w23.cell? ⟨gb132, 0, none⟩ = some (.int .i64 a0_0) := (blk_cell BK132.out 0).trans rfl; have hcz24_1 : w23.cell? ⟨gb132, 1, none⟩ = some (.int .i64 a0_1) := (blk_cell BK132.out 1).trans rfl; have hcz24_2 : w23.cell? ⟨gb132, 2, none⟩ = some (.int .i64 a0_2) := (blk_cell BK132.out 2).trans rfl; have hcz24_3 : w23.cell? ⟨gb132, 3, none⟩ = some (.int .i64 a0_3) := (blk_cell BK132.out 3).trans rfl; have hcz24_4 : w23.cell? ⟨gb132, 4, none⟩ = some (.string a0_4) := (blk_cell BK132.out 4).trans rfl; have hcz24_5 : w23.cell? ⟨gb132, 5, none⟩ = some (.string a0_5) := (blk_cell BK132.out 5).trans rfl; have hcz24_6 : w23.cell? ⟨gb132, 6, none⟩ = some (.string a0_6) := (blk_cell BK132.out 6).trans rfl; have hcz24_7 : w23.cell? ⟨gb132, 7, none⟩ = some (.string a0_7) := (blk_cell BK132.out 7).trans rfl; have hcz24_8 : w23.cell? ⟨gb132, 8, none⟩ = some (.string a0_8) := (blk_cell BK132.out 8).trans rfl; have hcz24_9 : w23.cell? ⟨gb132, 9, none⟩ = some (.string a0_9) := (blk_cell BK132.out 9).trans rfl; have hcz24_10 : w23.cell? ⟨gb132, 10, none⟩ = some (.string a0_10) := (blk_cell BK132.out 10).trans rfl; have hfz24_0 := blk_frozen BK132.out 0; have hfz24_1 := blk_frozen BK132.out 1; have hfz24_2 := blk_frozen BK132.out 2; have hfz24_3 := blk_frozen BK132.out 3; have hfz24_4 := blk_frozen BK132.out 4; have hfz24_5 := blk_frozen BK132.out 5; have hfz24_6 := blk_frozen BK132.out 6; have hfz24_7 := blk_frozen BK132.out 7; have hfz24_8 := blk_frozen BK132.out 8; have hfz24_9 := blk_frozen BK132.out 9; have hfz24_10 := blk_frozen BK132.out 10))
                go_ret
                exact ⟨by first | rfl | (simp [errW_none, errW_some] <;> rfl) | (simp [*, errW_none, errW_some] <;> rfl), by repeat (first | (with_reducible first | exact HB.out | apply below_alloc | apply pw_below_drewN | apply below_drew1 | refine below_set ?_ GE132.out) | exact HB.out)⟩

/-! ### laws_zzFits1: function 6 -/
def laws_zzFits1.l0 : Nat → List (S36) → Int → Int → Option (Bool)
  | 0, _, _, _ => none
  | k + 1, x8, x9, x10 => if x10 < x9 then (if 0 ≤ x10 then (if x10 < (x8.length : Int) then ((laws_zzFits2.f ((rd_T36 x8 x10).f0) ((rd_T36 x8 x10).f1) ((rd_T36 x8 x10).f2) ((rd_T36 x8 x10).f3) ((rd_T36 x8 x10).f4) ((rd_T36 x8 x10).f5) ((rd_T36 x8 x10).f6) ((rd_T36 x8 x10).f7) ((rd_T36 x8 x10).f8) ((rd_T36 x8 x10).f9) ((rd_T36 x8 x10).f10)).bind fun t135 => (if t135 = true then (laws_zzFits1.l0 k x8 x9 (wrap64 (x10 + 1))) else (some false))) else (none)) else (none)) else (some true)
def laws_zzFits1.f (k : Nat) (l0 : List (S36)) : Option (Bool) := if (l0.length : Int) > 2147483647 then (some false) else (laws_zzFits1.l0 k l0 (l0.length : Int) 0)
theorem laws_zzFits1.mono_l : ∀ k, (∀ y0 y1 y2, LeO (laws_zzFits1.l0 k y0 y1 y2) (laws_zzFits1.l0 (k + 1) y0 y1 y2))
  | 0 => fun _ _ _ r h => by simp [laws_zzFits1.l0] at h
  | k + 1 => by
    have ih0 := laws_zzFits1.mono_l k
    · intro y0 y1 y2
      unfold laws_zzFits1.l0
      repeat' first
      | (with_reducible exact ih0 _ _ _)
      | (with_reducible exact LeO.refl _)
      | (with_reducible exact LeO.none _)
      | (with_reducible refine LeO.ite ?_ ?_)
      | (with_reducible refine LeO.bind ?_ (fun _ => ?_))
      | exact ih0 _ _ _
      | exact LeO.none _
      | refine LeO.ite ?_ ?_
      | refine LeO.bind ?_ (fun _ => ?_)
theorem laws_zzFits1.mono : ∀ a0 k, LeO (laws_zzFits1.f k a0) (laws_zzFits1.f (k + 1) a0) := by
  intro a0 k
  have ih0 := laws_zzFits1.mono_l k
  unfold laws_zzFits1.f
  repeat' first
      | (with_reducible exact ih0 _ _ _)
      | (with_reducible exact LeO.refl _)
      | (with_reducible exact LeO.none _)
      | (with_reducible refine LeO.ite ?_ ?_)
      | (with_reducible refine LeO.bind ?_ (fun _ => ?_))
      | exact ih0 _ _ _
      | exact LeO.none _
      | refine LeO.ite ?_ ?_
      | refine LeO.bind ?_ (fun _ => ?_)
set_option maxHeartbeats 8000000 in
set_option maxRecDepth 100000 in
theorem laws_zzFits1.calls (k : Nat) (A0 : Option Addr) (c0 : Nat) (l0 : List (S36)) (r : Bool) (w : World) (hr0 : Kd.C k36 w A0 l0.length l0) (hc0 : l0.length ≤ c0) (h : laws_zzFits1.f k l0 = some r) :
    Calls Tryd.prog 6 #[.slice A0 l0.length c0] w fun e w' => e = .returned (.bool r) ∧ Below w.heap.size w w' := by
  have hu36 := Tryd.underlying36
  have HR0 := Aside0.mk hr0
  have HC0 := Aside0.mk hc0
  clear hr0 hc0
  have HB := Aside0.mk (Below.refl w.heap.size w)
  have H : (if (l0.length : Int) > 2147483647 then (some false) else (laws_zzFits1.l0 k l0 (l0.length : Int) 0)) = some r := h
  clear h
  by_cases c2 : (l0.length : Int) > 2147483647
  · rw [if_pos c2] at H
    have c2b0 : decide (2147483647 < (l0.length : Int)) = true := decide_eq_true c2
    have c2b1 : decide (2147483647 < l0.length) = true := decide_eq_true (by omega)
    clear c2
    obtain rfl := Option.some.inj H
    go_enter Tryd.func6, Tryd.ntmps6
    go_wp2
    go_ret
    exact ⟨by first | rfl | (simp [errW_none, errW_some] <;> rfl) | (simp [*, errW_none, errW_some] <;> rfl), by repeat (first | (with_reducible first | exact HB.out | apply below_alloc | apply pw_below_drewN | apply below_drew1) | exact HB.out)⟩
  · rw [if_neg c2] at H
    have c2b0 : decide (2147483647 < (l0.length : Int)) = false := decide_eq_false c2
    have c2b1 : decide (2147483647 < l0.length) = false := decide_eq_false (by omega)
    clear c2
    have H' := Aside0.mk H
    clear H
    go_enter Tryd.func6, Tryd.ntmps6
    go_wp2
    go_loopg [10] k (fun kq v10 w' => ∃ (x10_1 : Int), v10 = .int .i64 x10_1 ∧ Aside0 (laws_zzFits1.l0 kq l0 (l0.length : Int) x10_1 = some r) ∧ Aside0 (kq ≤ k) ∧ Aside0 (Below w.heap.size w w'))
    case atStart => exact ⟨(0), (by first | rfl | (simp; done) | (simp [*]; done)), H', ⟨Nat.le_refl _⟩, ⟨by repeat (first | (with_reducible first | exact HB.out | apply below_alloc | apply pw_below_drewN | apply below_drew1) | exact HB.out)⟩⟩
    case round =>
      clear H'
      try clear c2
      try clear c2b0
      try clear c2b1
      try clear p2
      obtain ⟨x10_1, rfl, HA, HK1, HB⟩ := hrel
      cases gk with
      | zero => exact absurd HA.out (by simp [laws_zzFits1.l0])
      | succ k1 =>
        have H := HA.out
        clear HA
        simp only [laws_zzFits1.l0] at H
        by_cases c3 : x10_1 < (l0.length : Int)
        · rw [if_pos c3] at H
          have c3b0 : decide (x10_1 < (l0.length : Int)) = true := decide_eq_true c3
          clear c3
          replace H := guard_inv H
          obtain ⟨c4, H⟩ := H
          have c4b0 : decide (0 ≤ x10_1) = true := decide_eq_true c4
          clear c4
          replace H := guard_inv H
          obtain ⟨c5, H⟩ := H
          have c5b0 : decide (x10_1 < (l0.length : Int)) = true := decide_eq_true c5
          clear c5
          replace H := Option.bind_eq_some_iff.mp H
          obtain ⟨t135, A60, H⟩ := H
          replace H : (if t135 = true then (laws_zzFits1.l0 k1 l0 (l0.length : Int) (wrap64 (x10_1 + 1))) else (some false)) = some r := H
          have A6 := Aside0.mk A60
          clear A60
          by_cases c7 : t135 = true
          · subst c7
            have H1 : (laws_zzFits1.l0 k1 l0 (l0.length : Int) (wrap64 (x10_1 + 1))) = some r := by rw [if_pos rfl] at H; exact H
            clear H
            have H := H1
            clear H1
            have H' := Aside0.mk H
            clear H
            have p133 : 0 ≤ (x10_1 : Int) := of_decide_eq_true (by first | (with_reducible assumption) | assumption)
            have q133 : x10_1 < (l0.length : Int) := of_decide_eq_true (by first | (with_reducible assumption) | assumption)
            obtain ⟨ad133, e133, hx133_0, hx133_1, hx133_2, hx133_3, hx133_4, hx133_5, hx133_6, hx133_7, hx133_8, hx133_9, hx133_10⟩ := at_T36 HR0.out x10_1 p133 q133
            cases e133
            replace hx133_0 := (HB.out.cell (World.block_lt_of_cell? w _ hx133_0)).trans hx133_0
            replace hx133_1 := (HB.out.cell (World.block_lt_of_cell? w _ hx133_1)).trans hx133_1
            replace hx133_2 := (HB.out.cell (World.block_lt_of_cell? w _ hx133_2)).trans hx133_2
            replace hx133_3 := (HB.out.cell (World.block_lt_of_cell? w _ hx133_3)).trans hx133_3
            replace hx133_4 := (HB.out.cell (World.block_lt_of_cell? w _ hx133_4)).trans hx133_4
            replace hx133_5 := (HB.out.cell (World.block_lt_of_cell? w _ hx133_5)).trans hx133_5
            replace hx133_6 := (HB.out.cell (World.block_lt_of_cell? w _ hx133_6)).trans hx133_6
            replace hx133_7 := (HB.out.cell (World.block_lt_of_cell? w _ hx133_7)).trans hx133_7
            replace hx133_8 := (HB.out.cell (World.block_lt_of_cell? w _ hx133_8)).trans hx133_8
            replace hx133_9 := (HB.out.cell (World.block_lt_of_cell? w _ hx133_9)).trans hx133_9
            replace hx133_10 := (HB.out.cell (World.block_lt_of_cell? w _ hx133_10)).trans hx133_10
            replace p133 := eq_true p133
            replace q133 := eq_true q133
            go_wp2_with (first | ((with_reducible refine gate_dst (N := 4) rfl ?_); refine box_event ?hg (N := 4) ?hd (cs := #[.int .i64 0, .int .i64 0, .int .i64 0, .int .i64 0, .string (⟨#[]⟩ : ByteArray), .string (⟨#[]⟩ : ByteArray), .string (⟨#[]⟩ : ByteArray), .string (⟨#[]⟩ : ByteArray), .string (⟨#[]⟩ : ByteArray), .string (⟨#[]⟩ : ByteArray), .string (⟨#[]⟩ : ByteArray)]) (t := 36) ?hr ?_; (case hd => rfl); (case hg => rfl); (case hr => first | (go_simp; done) | (go_simp; rfl)); intro gb134 hg w8 hbox hb; have n0_ := Aside0.mk (below_step (by repeat (first | (with_reducible first | exact HB.out | apply below_alloc | apply pw_below_drewN | apply below_drew1) | exact HB.out)) hb); have n1_ := Aside0.mk (hbox); have n2_ := Aside0.mk ((by rw [hg]; exact (below_size (by repeat (first | (with_reducible first | exact HB.out | apply below_alloc | apply pw_below_drewN | apply below_drew1) | exact HB.out))) : w.heap.size ≤ gb134)); have n3_ := Aside0.mk ((by rw [hg]; exact (below_size (by repeat (first | (with_reducible first | exact HB.out | apply below_alloc | apply pw_below_drewN | apply below_drew1) | exact HB.out))) : w.heap.size ≤ gb134)); clear HB; have HB := n0_; have BK134 := n1_; have GW134 := n2_; have GE134 := n3_; clear n0_ n1_ n2_ n3_; clear hb hbox hg; have hcz9_0 : w8.cell? ⟨gb134, 0, none⟩ = some (.int .i64 0) := (blk_cell BK134.out 0).trans rfl; have hcz9_1 : w8.cell? ⟨gb134, 1, none⟩ = some (.int .i64 0) := (blk_cell BK134.out 1).trans rfl; have hcz9_2 : w8.cell? ⟨gb134, 2, none⟩ = some (.int .i64 0) := (blk_cell BK134.out 2).trans rfl; have hcz9_3 : w8.cell? ⟨gb134, 3, none⟩ = some (.int .i64 0) := (blk_cell BK134.out 3).trans rfl; have hcz9_4 : w8.cell? ⟨gb134, 4, none⟩ = some (.string (⟨#[]⟩ : ByteArray)) := (blk_cell BK134.out 4).trans rfl; have hcz9_5 : w8.cell? ⟨gb134, 5, none⟩ = some (.string (⟨#[]⟩ : ByteArray)) := (blk_cell BK134.out 5).trans rfl; have hcz9_6 : w8.cell? ⟨gb134, 6, none⟩ = some (.string (⟨#[]⟩ : ByteArray)) := (blk_cell BK134.out 6).trans rfl; have hcz9_7 : w8.cell? ⟨gb134, 7, none⟩ = some (.string (⟨#[]⟩ : ByteArray)) := (blk_cell BK134.out 7).trans rfl; have hcz9_8 : w8.cell? ⟨gb134, 8, none⟩ = some (.string (⟨#[]⟩ : ByteArray)) := (blk_cell BK134.out 8).trans rfl; have hcz9_9 : w8.cell? ⟨gb134, 9, none⟩ = some (.string (⟨#[]⟩ : ByteArray)) := (blk_cell BK134.out 9).trans rfl; have hcz9_10 : w8.cell? ⟨gb134, 10, none⟩ = some (.string (⟨#[]⟩ : ByteArray)) := (blk_cell BK134.out 10).trans rfl; have hfz9_0 := blk_frozen BK134.out 0; have hfz9_1 := blk_frozen BK134.out 1; have hfz9_2 := blk_frozen BK134.out 2; have hfz9_3 := blk_frozen BK134.out 3; have hfz9_4 := blk_frozen BK134.out 4; have hfz9_5 := blk_frozen BK134.out 5; have hfz9_6 := blk_frozen BK134.out 6; have hfz9_7 := blk_frozen BK134.out 7; have hfz9_8 := blk_frozen BK134.out 8; have hfz9_9 := blk_frozen BK134.out 9; have hfz9_10 := blk_frozen BK134.out 10) | ((with_reducible refine gate_callee (f := 15) rfl ?_); refine goesL_ (some 15) rfl rfl Tryd.func15 (by kernel_rfl) rfl #[.agg #[.int .i64 ((rd_T36 l0 x10_1).f0), .int .i64 ((rd_T36 l0 x10_1).f1), .int .i64 ((rd_T36 l0 x10_1).f2), .int .i64 ((rd_T36 l0 x10_1).f3), .string ((rd_T36 l0 x10_1).f4), .string ((rd_T36 l0 x10_1).f5), .string ((rd_T36 l0 x10_1).f6), .string ((rd_T36 l0 x10_1).f7), .string ((rd_T36 l0 x10_1).f8), .string ((rd_T36 l0 x10_1).f9), .string ((rd_T36 l0 x10_1).f10)]] rfl (by (try simp only [List.map_toArray, List.map_cons, List.map_nil]); first | done | rfl | (simp only [List.length_drop, List.length_take]; rfl)) ?_; (with_reducible refine (laws_zzFits2.calls ((rd_T36 l0 x10_1).f0) ((rd_T36 l0 x10_1).f1) ((rd_T36 l0 x10_1).f2) ((rd_T36 l0 x10_1).f3) ((rd_T36 l0 x10_1).f4) ((rd_T36 l0 x10_1).f5) ((rd_T36 l0 x10_1).f6) ((rd_T36 l0 x10_1).f7) ((rd_T36 l0 x10_1).f8) ((rd_T36 l0 x10_1).f9) ((rd_T36 l0 x10_1).f10) true _ A6.out).mono ?_); rintro e w10 ⟨rfl, hb⟩; refine ⟨_, rfl, ?_⟩; have n0_ := Aside0.mk (blk_below (g := gb134) (o := .cells #[.int .i64 ((rd_T36 l0 x10_1).f0), .int .i64 ((rd_T36 l0 x10_1).f1), .int .i64 ((rd_T36 l0 x10_1).f2), .int .i64 ((rd_T36 l0 x10_1).f3), .string ((rd_T36 l0 x10_1).f4), .string ((rd_T36 l0 x10_1).f5), .string ((rd_T36 l0 x10_1).f6), .string ((rd_T36 l0 x10_1).f7), .string ((rd_T36 l0 x10_1).f8), .string ((rd_T36 l0 x10_1).f9), .string ((rd_T36 l0 x10_1).f10)] 36 (0, 0)) (by (with_reducible repeat (first | refine blk_drewN ?_ _ | refine blk_drew ?_ | refine blk_alloc ?_ _)); refine blk_put (cs := #[.int .i64 ((rd_T36 l0 x10_1).f0), .int .i64 ((rd_T36 l0 x10_1).f1), .int .i64 ((rd_T36 l0 x10_1).f2), .int .i64 ((rd_T36 l0 x10_1).f3), .string ((rd_T36 l0 x10_1).f4), .string ((rd_T36 l0 x10_1).f5), .string ((rd_T36 l0 x10_1).f6), .string ((rd_T36 l0 x10_1).f7), .string ((rd_T36 l0 x10_1).f8), .string ((rd_T36 l0 x10_1).f9), .string (⟨#[]⟩ : ByteArray)]) ?_ 10 _ rfl; (with_reducible repeat (first | refine blk_drewN ?_ _ | refine blk_drew ?_ | refine blk_alloc ?_ _)); refine blk_put (cs := #[.int .i64 ((rd_T36 l0 x10_1).f0), .int .i64 ((rd_T36 l0 x10_1).f1), .int .i64 ((rd_T36 l0 x10_1).f2), .int .i64 ((rd_T36 l0 x10_1).f3), .string ((rd_T36 l0 x10_1).f4), .string ((rd_T36 l0 x10_1).f5), .string ((rd_T36 l0 x10_1).f6), .string ((rd_T36 l0 x10_1).f7), .string ((rd_T36 l0 x10_1).f8), .string (⟨#[]⟩ : ByteArray), .string (⟨#[]⟩ : ByteArray)]) ?_ 9 _ rfl; (with_reducible repeat (first | refine blk_drewN ?_ _ | refine blk_drew ?_ | refine blk_alloc ?_ _)); refine blk_put (cs := #[.int .i64 ((rd_T36 l0 x10_1).f0), .int .i64 ((rd_T36 l0 x10_1).f1), .int .i64 ((rd_T36 l0 x10_1).f2), .int .i64 ((rd_T36 l0 x10_1).f3), .string ((rd_T36 l0 x10_1).f4), .string ((rd_T36 l0 x10_1).f5), .string ((rd_T36 l0 x10_1).f6), .string ((rd_T36 l0 x10_1).f7), .string (⟨#[]⟩ : ByteArray), .string (⟨#[]⟩ : ByteArray), .string (⟨#[]⟩ : ByteArray)]) ?_ 8 _ rfl; (with_reducible repeat (first | refine blk_drewN ?_ _ | refine blk_drew ?_ | refine blk_alloc ?_ _)); refine blk_put (cs := #[.int .i64 ((rd_T36 l0 x10_1).f0), .int .i64 ((rd_T36 l0 x10_1).f1), .int .i64 ((rd_T36 l0 x10_1).f2), .int .i64 ((rd_T36 l0 x10_1).f3), .string ((rd_T36 l0 x10_1).f4), .string ((rd_T36 l0 x10_1).f5), .string ((rd_T36 l0 x10_1).f6), .string (⟨#[]⟩ : ByteArray), .string (⟨#[]⟩ : ByteArray), .string (⟨#[]⟩ : ByteArray), .string (⟨#[]⟩ : ByteArray)]) ?_ 7 _ rfl; (with_reducible repeat (first | refine blk_drewN ?_ _ | refine blk_drew ?_ | refine blk_alloc ?_ _)); refine blk_put (cs := #[.int .i64 ((rd_T36 l0 x10_1).f0), .int .i64 ((rd_T36 l0 x10_1).f1), .int .i64 ((rd_T36 l0 x10_1).f2), .int .i64 ((rd_T36 l0 x10_1).f3), .string ((rd_T36 l0 x10_1).f4), .string ((rd_T36 l0 x10_1).f5), .string (⟨#[]⟩ : ByteArray), .string (⟨#[]⟩ : ByteArray), .string (⟨#[]⟩ : ByteArray), .string (⟨#[]⟩ : ByteArray), .string (⟨#[]⟩ : ByteArray)]) ?_ 6 _ rfl; (with_reducible repeat (first | refine blk_drewN ?_ _ | refine blk_drew ?_ | refine blk_alloc ?_ _)); refine blk_put (cs := #[.int .i64 ((rd_T36 l0 x10_1).f0), .int .i64 ((rd_T36 l0 x10_1).f1), .int .i64 ((rd_T36 l0 x10_1).f2), .int .i64 ((rd_T36 l0 x10_1).f3), .string ((rd_T36 l0 x10_1).f4), .string (⟨#[]⟩ : ByteArray), .string (⟨#[]⟩ : ByteArray), .string (⟨#[]⟩ : ByteArray), .string (⟨#[]⟩ : ByteArray), .string (⟨#[]⟩ : ByteArray), .string (⟨#[]⟩ : ByteArray)]) ?_ 5 _ rfl; (with_reducible repeat (first | refine blk_drewN ?_ _ | refine blk_drew ?_ | refine blk_alloc ?_ _)); refine blk_put (cs := #[.int .i64 ((rd_T36 l0 x10_1).f0), .int .i64 ((rd_T36 l0 x10_1).f1), .int .i64 ((rd_T36 l0 x10_1).f2), .int .i64 ((rd_T36 l0 x10_1).f3), .string (⟨#[]⟩ : ByteArray), .string (⟨#[]⟩ : ByteArray), .string (⟨#[]⟩ : ByteArray), .string (⟨#[]⟩ : ByteArray), .string (⟨#[]⟩ : ByteArray), .string (⟨#[]⟩ : ByteArray), .string (⟨#[]⟩ : ByteArray)]) ?_ 4 _ rfl; (with_reducible repeat (first | refine blk_drewN ?_ _ | refine blk_drew ?_ | refine blk_alloc ?_ _)); refine blk_put (cs := #[.int .i64 ((rd_T36 l0 x10_1).f0), .int .i64 ((rd_T36 l0 x10_1).f1), .int .i64 ((rd_T36 l0 x10_1).f2), .int .i64 0, .string (⟨#[]⟩ : ByteArray), .string (⟨#[]⟩ : ByteArray), .string (⟨#[]⟩ : ByteArray), .string (⟨#[]⟩ : ByteArray), .string (⟨#[]⟩ : ByteArray), .string (⟨#[]⟩ : ByteArray), .string (⟨#[]⟩ : ByteArray)]) ?_ 3 _ rfl; (with_reducible repeat (first | refine blk_drewN ?_ _ | refine blk_drew ?_ | refine blk_alloc ?_ _)); refine blk_put (cs := #[.int .i64 ((rd_T36 l0 x10_1).f0), .int .i64 ((rd_T36 l0 x10_1).f1), .int .i64 0, .int .i64 0, .string (⟨#[]⟩ : ByteArray), .string (⟨#[]⟩ : ByteArray), .string (⟨#[]⟩ : ByteArray), .string (⟨#[]⟩ : ByteArray), .string (⟨#[]⟩ : ByteArray), .string (⟨#[]⟩ : ByteArray), .string (⟨#[]⟩ : ByteArray)]) ?_ 2 _ rfl; (with_reducible repeat (first | refine blk_drewN ?_ _ | refine blk_drew ?_ | refine blk_alloc ?_ _)); refine blk_put (cs := #[.int .i64 ((rd_T36 l0 x10_1).f0), .int .i64 0, .int .i64 0, .int .i64 0, .string (⟨#[]⟩ : ByteArray), .string (⟨#[]⟩ : ByteArray), .string (⟨#[]⟩ : ByteArray), .string (⟨#[]⟩ : ByteArray), .string (⟨#[]⟩ : ByteArray), .string (⟨#[]⟩ : ByteArray), .string (⟨#[]⟩ : ByteArray)]) ?_ 1 _ rfl; (with_reducible repeat (first | refine blk_drewN ?_ _ | refine blk_drew ?_ | refine blk_alloc ?_ _)); refine blk_put (cs := #[.int .i64 0, .int .i64 0, .int .i64 0, .int .i64 0, .string (⟨#[]⟩ : ByteArray), .string (⟨#[]⟩ : ByteArray), .string (⟨#[]⟩ : ByteArray), .string (⟨#[]⟩ : ByteArray), .string (⟨#[]⟩ : ByteArray), .string (⟨#[]⟩ : ByteArray), .string (⟨#[]⟩ : ByteArray)]) ?_ 0 _ rfl; (with_reducible repeat (first | refine blk_drewN ?_ _ | refine blk_drew ?_ | refine blk_alloc ?_ _)); exact BK134.out) hb); have n1_ := Aside0.mk (below_step (by repeat (first | (with_reducible first | exact HB.out | apply below_alloc | apply pw_below_drewN | apply below_drew1 | refine below_set ?_ GE134.out) | exact HB.out)) hb); clear BK134; clear HB; have BK134 := n0_; have HB := n1_; clear n0_ n1_; (try clear hb); (try clear hb2); (try clear hk); (try clear hi)))
            go_roundg k1
            case measure => have := HK1.out; omega
            case rel => exact ⟨(wrap64 (x10_1 + 1)), (by first | rfl | (simp; done) | (simp [*]; done)), H', ⟨by have := HK1.out; omega⟩, ⟨by repeat (first | (with_reducible first | exact HB.out | apply below_alloc | apply pw_below_drewN | apply below_drew1 | refine below_set ?_ GE134.out) | exact HB.out)⟩⟩
          · replace c7 := Bool.eq_false_iff.mpr c7
            subst c7
            have H1 : (some false) = some r := by rw [if_neg (show ¬ (false = true) by decide)] at H; exact H
            clear H
            have H := H1
            clear H1
            obtain rfl := Option.some.inj H
            have p133 : 0 ≤ (x10_1 : Int) := of_decide_eq_true (by first | (with_reducible assumption) | assumption)
            have q133 : x10_1 < (l0.length : Int) := of_decide_eq_true (by first | (with_reducible assumption) | assumption)
            obtain ⟨ad133, e133, hx133_0, hx133_1, hx133_2, hx133_3, hx133_4, hx133_5, hx133_6, hx133_7, hx133_8, hx133_9, hx133_10⟩ := at_T36 HR0.out x10_1 p133 q133
            cases e133
            replace hx133_0 := (HB.out.cell (World.block_lt_of_cell? w _ hx133_0)).trans hx133_0
            replace hx133_1 := (HB.out.cell (World.block_lt_of_cell? w _ hx133_1)).trans hx133_1
            replace hx133_2 := (HB.out.cell (World.block_lt_of_cell? w _ hx133_2)).trans hx133_2
            replace hx133_3 := (HB.out.cell (World.block_lt_of_cell? w _ hx133_3)).trans hx133_3
            replace hx133_4 := (HB.out.cell (World.block_lt_of_cell? w _ hx133_4)).trans hx133_4
            replace hx133_5 := (HB.out.cell (World.block_lt_of_cell? w _ hx133_5)).trans hx133_5
            replace hx133_6 := (HB.out.cell (World.block_lt_of_cell? w _ hx133_6)).trans hx133_6
            replace hx133_7 := (HB.out.cell (World.block_lt_of_cell? w _ hx133_7)).trans hx133_7
            replace hx133_8 := (HB.out.cell (World.block_lt_of_cell? w _ hx133_8)).trans hx133_8
            replace hx133_9 := (HB.out.cell (World.block_lt_of_cell? w _ hx133_9)).trans hx133_9
            replace hx133_10 := (HB.out.cell (World.block_lt_of_cell? w _ hx133_10)).trans hx133_10
            replace p133 := eq_true p133
            replace q133 := eq_true q133
            go_wp2_with (first | ((with_reducible refine gate_dst (N := 4) rfl ?_); refine box_event ?hg (N := 4) ?hd (cs := #[.int .i64 0, .int .i64 0, .int .i64 0, .int .i64 0, .string (⟨#[]⟩ : ByteArray), .string (⟨#[]⟩ : ByteArray), .string (⟨#[]⟩ : ByteArray), .string (⟨#[]⟩ : ByteArray), .string (⟨#[]⟩ : ByteArray), .string (⟨#[]⟩ : ByteArray), .string (⟨#[]⟩ : ByteArray)]) (t := 36) ?hr ?_; (case hd => rfl); (case hg => rfl); (case hr => first | (go_simp; done) | (go_simp; rfl)); intro gb134 hg w11 hbox hb; have n0_ := Aside0.mk (below_step (by repeat (first | (with_reducible first | exact HB.out | apply below_alloc | apply pw_below_drewN | apply below_drew1) | exact HB.out)) hb); have n1_ := Aside0.mk (hbox); have n2_ := Aside0.mk ((by rw [hg]; exact (below_size (by repeat (first | (with_reducible first | exact HB.out | apply below_alloc | apply pw_below_drewN | apply below_drew1) | exact HB.out))) : w.heap.size ≤ gb134)); have n3_ := Aside0.mk ((by rw [hg]; exact (below_size (by repeat (first | (with_reducible first | exact HB.out | apply below_alloc | apply pw_below_drewN | apply below_drew1) | exact HB.out))) : w.heap.size ≤ gb134)); clear HB; have HB := n0_; have BK134 := n1_; have GW134 := n2_; have GE134 := n3_; clear n0_ n1_ n2_ n3_; clear hb hbox hg; have hcz12_0 : w11.cell? ⟨gb134, 0, none⟩ = some (.int .i64 0) := (blk_cell BK134.out 0).trans rfl; have hcz12_1 : w11.cell? ⟨gb134, 1, none⟩ = some (.int .i64 0) := (blk_cell BK134.out 1).trans rfl; have hcz12_2 : w11.cell? ⟨gb134, 2, none⟩ = some (.int .i64 0) := (blk_cell BK134.out 2).trans rfl; have hcz12_3 : w11.cell? ⟨gb134, 3, none⟩ = some (.int .i64 0) := (blk_cell BK134.out 3).trans rfl; have hcz12_4 : w11.cell? ⟨gb134, 4, none⟩ = some (.string (⟨#[]⟩ : ByteArray)) := (blk_cell BK134.out 4).trans rfl; have hcz12_5 : w11.cell? ⟨gb134, 5, none⟩ = some (.string (⟨#[]⟩ : ByteArray)) := (blk_cell BK134.out 5).trans rfl; have hcz12_6 : w11.cell? ⟨gb134, 6, none⟩ = some (.string (⟨#[]⟩ : ByteArray)) := (blk_cell BK134.out 6).trans rfl; have hcz12_7 : w11.cell? ⟨gb134, 7, none⟩ = some (.string (⟨#[]⟩ : ByteArray)) := (blk_cell BK134.out 7).trans rfl; have hcz12_8 : w11.cell? ⟨gb134, 8, none⟩ = some (.string (⟨#[]⟩ : ByteArray)) := (blk_cell BK134.out 8).trans rfl; have hcz12_9 : w11.cell? ⟨gb134, 9, none⟩ = some (.string (⟨#[]⟩ : ByteArray)) := (blk_cell BK134.out 9).trans rfl; have hcz12_10 : w11.cell? ⟨gb134, 10, none⟩ = some (.string (⟨#[]⟩ : ByteArray)) := (blk_cell BK134.out 10).trans rfl; have hfz12_0 := blk_frozen BK134.out 0; have hfz12_1 := blk_frozen BK134.out 1; have hfz12_2 := blk_frozen BK134.out 2; have hfz12_3 := blk_frozen BK134.out 3; have hfz12_4 := blk_frozen BK134.out 4; have hfz12_5 := blk_frozen BK134.out 5; have hfz12_6 := blk_frozen BK134.out 6; have hfz12_7 := blk_frozen BK134.out 7; have hfz12_8 := blk_frozen BK134.out 8; have hfz12_9 := blk_frozen BK134.out 9; have hfz12_10 := blk_frozen BK134.out 10) | ((with_reducible refine gate_callee (f := 15) rfl ?_); refine goesL_ (some 15) rfl rfl Tryd.func15 (by kernel_rfl) rfl #[.agg #[.int .i64 ((rd_T36 l0 x10_1).f0), .int .i64 ((rd_T36 l0 x10_1).f1), .int .i64 ((rd_T36 l0 x10_1).f2), .int .i64 ((rd_T36 l0 x10_1).f3), .string ((rd_T36 l0 x10_1).f4), .string ((rd_T36 l0 x10_1).f5), .string ((rd_T36 l0 x10_1).f6), .string ((rd_T36 l0 x10_1).f7), .string ((rd_T36 l0 x10_1).f8), .string ((rd_T36 l0 x10_1).f9), .string ((rd_T36 l0 x10_1).f10)]] rfl (by (try simp only [List.map_toArray, List.map_cons, List.map_nil]); first | done | rfl | (simp only [List.length_drop, List.length_take]; rfl)) ?_; (with_reducible refine (laws_zzFits2.calls ((rd_T36 l0 x10_1).f0) ((rd_T36 l0 x10_1).f1) ((rd_T36 l0 x10_1).f2) ((rd_T36 l0 x10_1).f3) ((rd_T36 l0 x10_1).f4) ((rd_T36 l0 x10_1).f5) ((rd_T36 l0 x10_1).f6) ((rd_T36 l0 x10_1).f7) ((rd_T36 l0 x10_1).f8) ((rd_T36 l0 x10_1).f9) ((rd_T36 l0 x10_1).f10) false _ A6.out).mono ?_); rintro e w13 ⟨rfl, hb⟩; refine ⟨_, rfl, ?_⟩; have n0_ := Aside0.mk (blk_below (g := gb134) (o := .cells #[.int .i64 ((rd_T36 l0 x10_1).f0), .int .i64 ((rd_T36 l0 x10_1).f1), .int .i64 ((rd_T36 l0 x10_1).f2), .int .i64 ((rd_T36 l0 x10_1).f3), .string ((rd_T36 l0 x10_1).f4), .string ((rd_T36 l0 x10_1).f5), .string ((rd_T36 l0 x10_1).f6), .string ((rd_T36 l0 x10_1).f7), .string ((rd_T36 l0 x10_1).f8), .string ((rd_T36 l0 x10_1).f9), .string ((rd_T36 l0 x10_1).f10)] 36 (0, 0)) (by (with_reducible repeat (first | refine blk_drewN ?_ _ | refine blk_drew ?_ | refine blk_alloc ?_ _)); refine blk_put (cs := #[.int .i64 ((rd_T36 l0 x10_1).f0), .int .i64 ((rd_T36 l0 x10_1).f1), .int .i64 ((rd_T36 l0 x10_1).f2), .int .i64 ((rd_T36 l0 x10_1).f3), .string ((rd_T36 l0 x10_1).f4), .string ((rd_T36 l0 x10_1).f5), .string ((rd_T36 l0 x10_1).f6), .string ((rd_T36 l0 x10_1).f7), .string ((rd_T36 l0 x10_1).f8), .string ((rd_T36 l0 x10_1).f9), .string (⟨#[]⟩ : ByteArray)]) ?_ 10 _ rfl; (with_reducible repeat (first | refine blk_drewN ?_ _ | refine blk_drew ?_ | refine blk_alloc ?_ _)); refine blk_put (cs := #[.int .i64 ((rd_T36 l0 x10_1).f0), .int .i64 ((rd_T36 l0 x10_1).f1), .int .i64 ((rd_T36 l0 x10_1).f2), .int .i64 ((rd_T36 l0 x10_1).f3), .string ((rd_T36 l0 x10_1).f4), .string ((rd_T36 l0 x10_1).f5), .string ((rd_T36 l0 x10_1).f6), .string ((rd_T36 l0 x10_1).f7), .string ((rd_T36 l0 x10_1).f8), .string (⟨#[]⟩ : ByteArray), .string (⟨#[]⟩ : ByteArray)]) ?_ 9 _ rfl; (with_reducible repeat (first | refine blk_drewN ?_ _ | refine blk_drew ?_ | refine blk_alloc ?_ _)); refine blk_put (cs := #[.int .i64 ((rd_T36 l0 x10_1).f0), .int .i64 ((rd_T36 l0 x10_1).f1), .int .i64 ((rd_T36 l0 x10_1).f2), .int .i64 ((rd_T36 l0 x10_1).f3), .string ((rd_T36 l0 x10_1).f4), .string ((rd_T36 l0 x10_1).f5), .string ((rd_T36 l0 x10_1).f6), .string ((rd_T36 l0 x10_1).f7), .string (⟨#[]⟩ : ByteArray), .string (⟨#[]⟩ : ByteArray), .string (⟨#[]⟩ : ByteArray)]) ?_ 8 _ rfl; (with_reducible repeat (first | refine blk_drewN ?_ _ | refine blk_drew ?_ | refine blk_alloc ?_ _)); refine blk_put (cs := #[.int .i64 ((rd_T36 l0 x10_1).f0), .int .i64 ((rd_T36 l0 x10_1).f1), .int .i64 ((rd_T36 l0 x10_1).f2), .int .i64 ((rd_T36 l0 x10_1).f3), .string ((rd_T36 l0 x10_1).f4), .string ((rd_T36 l0 x10_1).f5), .string ((rd_T36 l0 x10_1).f6), .string (⟨#[]⟩ : ByteArray), .string (⟨#[]⟩ : ByteArray), .string (⟨#[]⟩ : ByteArray), .string (⟨#[]⟩ : ByteArray)]) ?_ 7 _ rfl; (with_reducible repeat (first | refine blk_drewN ?_ _ | refine blk_drew ?_ | refine blk_alloc ?_ _)); refine blk_put (cs := #[.int .i64 ((rd_T36 l0 x10_1).f0), .int .i64 ((rd_T36 l0 x10_1).f1), .int .i64 ((rd_T36 l0 x10_1).f2), .int .i64 ((rd_T36 l0 x10_1).f3), .string ((rd_T36 l0 x10_1).f4), .string ((rd_T36 l0 x10_1).f5), .string (⟨#[]⟩ : ByteArray), .string (⟨#[]⟩ : ByteArray), .string (⟨#[]⟩ : ByteArray), .string (⟨#[]⟩ : ByteArray), .string (⟨#[]⟩ : ByteArray)]) ?_ 6 _ rfl; (with_reducible repeat (first | refine blk_drewN ?_ _ | refine blk_drew ?_ | refine blk_alloc ?_ _)); refine blk_put (cs := #[.int .i64 ((rd_T36 l0 x10_1).f0), .int .i64 ((rd_T36 l0 x10_1).f1), .int .i64 ((rd_T36 l0 x10_1).f2), .int .i64 ((rd_T36 l0 x10_1).f3), .string ((rd_T36 l0 x10_1).f4), .string (⟨#[]⟩ : ByteArray), .string (⟨#[]⟩ : ByteArray), .string (⟨#[]⟩ : ByteArray), .string (⟨#[]⟩ : ByteArray), .string (⟨#[]⟩ : ByteArray), .string (⟨#[]⟩ : ByteArray)]) ?_ 5 _ rfl; (with_reducible repeat (first | refine blk_drewN ?_ _ | refine blk_drew ?_ | refine blk_alloc ?_ _)); refine blk_put (cs := #[.int .i64 ((rd_T36 l0 x10_1).f0), .int .i64 ((rd_T36 l0 x10_1).f1), .int .i64 ((rd_T36 l0 x10_1).f2), .int .i64 ((rd_T36 l0 x10_1).f3), .string (⟨#[]⟩ : ByteArray), .string (⟨#[]⟩ : ByteArray), .string (⟨#[]⟩ : ByteArray), .string (⟨#[]⟩ : ByteArray), .string (⟨#[]⟩ : ByteArray), .string (⟨#[]⟩ : ByteArray), .string (⟨#[]⟩ : ByteArray)]) ?_ 4 _ rfl; (with_reducible repeat (first | refine blk_drewN ?_ _ | refine blk_drew ?_ | refine blk_alloc ?_ _)); refine blk_put (cs := #[.int .i64 ((rd_T36 l0 x10_1).f0), .int .i64 ((rd_T36 l0 x10_1).f1), .int .i64 ((rd_T36 l0 x10_1).f2), .int .i64 0, .string (⟨#[]⟩ : ByteArray), .string (⟨#[]⟩ : ByteArray), .string (⟨#[]⟩ : ByteArray), .string (⟨#[]⟩ : ByteArray), .string (⟨#[]⟩ : ByteArray), .string (⟨#[]⟩ : ByteArray), .string (⟨#[]⟩ : ByteArray)]) ?_ 3 _ rfl; (with_reducible repeat (first | refine blk_drewN ?_ _ | refine blk_drew ?_ | refine blk_alloc ?_ _)); refine blk_put (cs := #[.int .i64 ((rd_T36 l0 x10_1).f0), .int .i64 ((rd_T36 l0 x10_1).f1), .int .i64 0, .int .i64 0, .string (⟨#[]⟩ : ByteArray), .string (⟨#[]⟩ : ByteArray), .string (⟨#[]⟩ : ByteArray), .string (⟨#[]⟩ : ByteArray), .string (⟨#[]⟩ : ByteArray), .string (⟨#[]⟩ : ByteArray), .string (⟨#[]⟩ : ByteArray)]) ?_ 2 _ rfl; (with_reducible repeat (first | refine blk_drewN ?_ _ | refine blk_drew ?_ | refine blk_alloc ?_ _)); refine blk_put (cs := #[.int .i64 ((rd_T36 l0 x10_1).f0), .int .i64 0, .int .i64 0, .int .i64 0, .string (⟨#[]⟩ : ByteArray), .string (⟨#[]⟩ : ByteArray), .string (⟨#[]⟩ : ByteArray), .string (⟨#[]⟩ : ByteArray), .string (⟨#[]⟩ : ByteArray), .string (⟨#[]⟩ : ByteArray), .string (⟨#[]⟩ : ByteArray)]) ?_ 1 _ rfl; (with_reducible repeat (first | refine blk_drewN ?_ _ | refine blk_drew ?_ | refine blk_alloc ?_ _)); refine blk_put (cs := #[.int .i64 0, .int .i64 0, .int .i64 0, .int .i64 0, .string (⟨#[]⟩ : ByteArray), .string (⟨#[]⟩ : ByteArray), .string (⟨#[]⟩ : ByteArray), .string (⟨#[]⟩ : ByteArray), .string (⟨#[]⟩ : ByteArray), .string (⟨#[]⟩ : ByteArray), .string (⟨#[]⟩ : ByteArray)]) ?_ 0 _ rfl; (with_reducible repeat (first | refine blk_drewN ?_ _ | refine blk_drew ?_ | refine blk_alloc ?_ _)); exact BK134.out) hb); have n1_ := Aside0.mk (below_step (by repeat (first | (with_reducible first | exact HB.out | apply below_alloc | apply pw_below_drewN | apply below_drew1 | refine below_set ?_ GE134.out) | exact HB.out)) hb); clear BK134; clear HB; have BK134 := n0_; have HB := n1_; clear n0_ n1_; (try clear hb); (try clear hb2); (try clear hk); (try clear hi)))
            go_ret
            exact ⟨by first | rfl | (simp [errW_none, errW_some] <;> rfl) | (simp [*, errW_none, errW_some] <;> rfl), by repeat (first | (with_reducible first | exact HB.out | apply below_alloc | apply pw_below_drewN | apply below_drew1 | refine below_set ?_ GE134.out) | exact HB.out)⟩
        · rw [if_neg c3] at H
          have c3b0 : decide (x10_1 < (l0.length : Int)) = false := decide_eq_false c3
          clear c3
          obtain rfl := Option.some.inj H
          go_wp2
          go_ret
          exact ⟨by first | rfl | (simp [errW_none, errW_some] <;> rfl) | (simp [*, errW_none, errW_some] <;> rfl), by repeat (first | (with_reducible first | exact HB.out | apply below_alloc | apply pw_below_drewN | apply below_drew1) | exact HB.out)⟩

/-! ### spec_printable: function 44 -/
def spec_printable.l0 : Nat → ByteArray → Bool → Int → Int → Option (Bool)
  | 0, _, _, _, _ => none
  | k + 1, x0, x1, x8, x9 => if x9 < x8 then (if 0 ≤ x9 then (if x9 < (x0.size : Int) then (if (bt x0 x9) > 32 then (if (bt x0 x9) < 127 then (spec_printable.l0 k x0 x1 x8 (wrap64 (x9 + 1))) else (if x1 = true then (if (bt x0 x9) = 32 then (spec_printable.l0 k x0 x1 x8 (wrap64 (x9 + 1))) else (if (bt x0 x9) = 9 then (spec_printable.l0 k x0 x1 x8 (wrap64 (x9 + 1))) else (if (bt x0 x9) = 10 then (spec_printable.l0 k x0 x1 x8 (wrap64 (x9 + 1))) else (some false)))) else (some false))) else (if x1 = true then (if (bt x0 x9) = 32 then (spec_printable.l0 k x0 x1 x8 (wrap64 (x9 + 1))) else (if (bt x0 x9) = 9 then (spec_printable.l0 k x0 x1 x8 (wrap64 (x9 + 1))) else (if (bt x0 x9) = 10 then (spec_printable.l0 k x0 x1 x8 (wrap64 (x9 + 1))) else (some false)))) else (some false))) else (none)) else (none)) else (some true)
def spec_printable.f (k : Nat) (a0 : ByteArray) (a1 : Bool) : Option (Bool) := spec_printable.l0 k a0 a1 (a0.size : Int) 0
theorem spec_printable.mono_l : ∀ k, (∀ y0 y1 y2 y3, LeO (spec_printable.l0 k y0 y1 y2 y3) (spec_printable.l0 (k + 1) y0 y1 y2 y3))
  | 0 => fun _ _ _ _ r h => by simp [spec_printable.l0] at h
  | k + 1 => by
    have ih0 := spec_printable.mono_l k
    · intro y0 y1 y2 y3
      unfold spec_printable.l0
      repeat' first
      | (with_reducible exact ih0 _ _ _ _)
      | (with_reducible exact LeO.refl _)
      | (with_reducible exact LeO.none _)
      | (with_reducible refine LeO.ite ?_ ?_)
      | (with_reducible refine LeO.bind ?_ (fun _ => ?_))
      | exact ih0 _ _ _ _
      | exact LeO.none _
      | refine LeO.ite ?_ ?_
      | refine LeO.bind ?_ (fun _ => ?_)
theorem spec_printable.mono : ∀ a0 a1 k, LeO (spec_printable.f k a0 a1) (spec_printable.f (k + 1) a0 a1) := by
  intro a0 a1 k
  have ih0 := spec_printable.mono_l k
  unfold spec_printable.f
  repeat' first
      | (with_reducible exact ih0 _ _ _ _)
      | (with_reducible exact LeO.refl _)
      | (with_reducible exact LeO.none _)
      | (with_reducible refine LeO.ite ?_ ?_)
      | (with_reducible refine LeO.bind ?_ (fun _ => ?_))
      | exact ih0 _ _ _ _
      | exact LeO.none _
      | refine LeO.ite ?_ ?_
      | refine LeO.bind ?_ (fun _ => ?_)
set_option maxHeartbeats 8000000 in
set_option maxRecDepth 100000 in
theorem spec_printable.calls (k : Nat) (a0 : ByteArray) (a1 : Bool) (r : Bool) (w : World) (h : spec_printable.f k a0 a1 = some r) :
    Calls Tryd.prog 44 #[.string a0, .bool a1] w fun e w' => e = .returned (.bool r) ∧ Drawn0 w w' := by
  have H : (spec_printable.l0 k a0 a1 (a0.size : Int) 0) = some r := h
  clear h
  have H' := Aside0.mk H
  clear H
  go_enter Tryd.func44, Tryd.ntmps44
  go_wp2
  go_loopg [9] k (fun kq v9 w' => ∃ (x9_1 : Int), v9 = .int .i64 x9_1 ∧ Aside0 (spec_printable.l0 kq a0 a1 (a0.size : Int) x9_1 = some r) ∧ Aside0 (kq ≤ k) ∧ Drawn0 w w')
  case atStart => exact ⟨(0), (by first | rfl | (simp; done) | (simp [*]; done)), H', ⟨Nat.le_refl _⟩, by repeat (first | exact Drawn0.refl _ | apply Drawn0.step)⟩
  case round =>
    clear H'
    try clear p2
    obtain ⟨x9_1, rfl, HA, HK1, ⟨m1, rfl⟩⟩ := hrel
    cases gk with
    | zero => exact absurd HA.out (by simp [spec_printable.l0])
    | succ k1 =>
      have H := HA.out
      clear HA
      simp only [spec_printable.l0] at H
      by_cases c3 : x9_1 < (a0.size : Int)
      · rw [if_pos c3] at H
        have c3b0 : decide (x9_1 < (a0.size : Int)) = true := decide_eq_true c3
        clear c3
        replace H := guard_inv H
        obtain ⟨c4, H⟩ := H
        have c4b0 : decide (0 ≤ x9_1) = true := decide_eq_true c4
        clear c4
        replace H := guard_inv H
        obtain ⟨c5, H⟩ := H
        have c5b0 : decide (x9_1 < (a0.size : Int)) = true := decide_eq_true c5
        clear c5
        by_cases c7 : (bt a0 x9_1) > 32
        · rw [if_pos c7] at H
          have c7b0 : decide (32 < (bt a0 x9_1)) = true := decide_eq_true c7
          clear c7
          by_cases c8 : (bt a0 x9_1) < 127
          · rw [if_pos c8] at H
            have c8b0 : decide ((bt a0 x9_1) < 127) = true := decide_eq_true c8
            clear c8
            have H' := Aside0.mk H
            clear H
            have p6 : 0 ≤ (x9_1 : Int) := of_decide_eq_true (by first | (with_reducible assumption) | assumption)
            have q6 : x9_1 < (a0.size : Int) := of_decide_eq_true (by first | (with_reducible assumption) | assumption)
            have hx6 := bt_at a0 x9_1
            replace p6 := eq_true p6
            replace q6 := eq_true q6
            go_wp2
            go_roundg k1
            case measure => have := HK1.out; omega
            case rel => exact ⟨(wrap64 (x9_1 + 1)), (by first | rfl | (simp; done) | (simp [*]; done)), H', ⟨by have := HK1.out; omega⟩, by repeat (first | exact Drawn0.refl _ | apply Drawn0.step)⟩
          · rw [if_neg c8] at H
            have c8b0 : decide ((bt a0 x9_1) < 127) = false := decide_eq_false c8
            clear c8
            by_cases c9 : a1 = true
            · subst c9
              have H1 : (if (bt a0 x9_1) = 32 then (spec_printable.l0 k1 a0 true (a0.size : Int) (wrap64 (x9_1 + 1))) else (if (bt a0 x9_1) = 9 then (spec_printable.l0 k1 a0 true (a0.size : Int) (wrap64 (x9_1 + 1))) else (if (bt a0 x9_1) = 10 then (spec_printable.l0 k1 a0 true (a0.size : Int) (wrap64 (x9_1 + 1))) else (some false)))) = some r := by rw [if_pos rfl] at H; exact H
              clear H
              have H := H1
              clear H1
              by_cases c10 : (bt a0 x9_1) = 32
              · rw [if_pos c10] at H
                have c10b0 : ((bt a0 x9_1) == 32) = true := beq_iff_eq.mpr c10
                have c10b1 : ((bt a0 x9_1) != 32) = false := bne_eq_false_iff_eq.mpr c10
                clear c10
                have H' := Aside0.mk H
                clear H
                have p6 : 0 ≤ (x9_1 : Int) := of_decide_eq_true (by first | (with_reducible assumption) | assumption)
                have q6 : x9_1 < (a0.size : Int) := of_decide_eq_true (by first | (with_reducible assumption) | assumption)
                have hx6 := bt_at a0 x9_1
                replace p6 := eq_true p6
                replace q6 := eq_true q6
                go_wp2
                go_roundg k1
                case measure => have := HK1.out; omega
                case rel => exact ⟨(wrap64 (x9_1 + 1)), (by first | rfl | (simp; done) | (simp [*]; done)), H', ⟨by have := HK1.out; omega⟩, by repeat (first | exact Drawn0.refl _ | apply Drawn0.step)⟩
              · rw [if_neg c10] at H
                have c10b0 : ((bt a0 x9_1) == 32) = false := beq_eq_false_iff_ne.mpr c10
                have c10b1 : ((bt a0 x9_1) != 32) = true := bne_iff_ne.mpr c10
                by_cases c11 : (bt a0 x9_1) = 9
                · rw [if_pos c11] at H
                  have c11b0 : ((bt a0 x9_1) == 9) = true := beq_iff_eq.mpr c11
                  have c11b1 : ((bt a0 x9_1) != 9) = false := bne_eq_false_iff_eq.mpr c11
                  clear c11
                  have H' := Aside0.mk H
                  clear H
                  have p6 : 0 ≤ (x9_1 : Int) := of_decide_eq_true (by first | (with_reducible assumption) | assumption)
                  have q6 : x9_1 < (a0.size : Int) := of_decide_eq_true (by first | (with_reducible assumption) | assumption)
                  have hx6 := bt_at a0 x9_1
                  replace p6 := eq_true p6
                  replace q6 := eq_true q6
                  go_wp2
                  go_roundg k1
                  case measure => have := HK1.out; omega
                  case rel => exact ⟨(wrap64 (x9_1 + 1)), (by first | rfl | (simp; done) | (simp [*]; done)), H', ⟨by have := HK1.out; omega⟩, by repeat (first | exact Drawn0.refl _ | apply Drawn0.step)⟩
                · rw [if_neg c11] at H
                  have c11b0 : ((bt a0 x9_1) == 9) = false := beq_eq_false_iff_ne.mpr c11
                  have c11b1 : ((bt a0 x9_1) != 9) = true := bne_iff_ne.mpr c11
                  by_cases c12 : (bt a0 x9_1) = 10
                  · rw [if_pos c12] at H
                    have c12b0 : ((bt a0 x9_1) == 10) = true := beq_iff_eq.mpr c12
                    have c12b1 : ((bt a0 x9_1) != 10) = false := bne_eq_false_iff_eq.mpr c12
                    clear c12
                    have H' := Aside0.mk H
                    clear H
                    have p6 : 0 ≤ (x9_1 : Int) := of_decide_eq_true (by first | (with_reducible assumption) | assumption)
                    have q6 : x9_1 < (a0.size : Int) := of_decide_eq_true (by first | (with_reducible assumption) | assumption)
                    have hx6 := bt_at a0 x9_1
                    replace p6 := eq_true p6
                    replace q6 := eq_true q6
                    go_wp2
                    go_roundg k1
                    case measure => have := HK1.out; omega
                    case rel => exact ⟨(wrap64 (x9_1 + 1)), (by first | rfl | (simp; done) | (simp [*]; done)), H', ⟨by have := HK1.out; omega⟩, by repeat (first | exact Drawn0.refl _ | apply Drawn0.step)⟩
                  · rw [if_neg c12] at H
                    have c12b0 : ((bt a0 x9_1) == 10) = false := beq_eq_false_iff_ne.mpr c12
                    have c12b1 : ((bt a0 x9_1) != 10) = true := bne_iff_ne.mpr c12
                    obtain rfl := Option.some.inj H
                    have p6 : 0 ≤ (x9_1 : Int) := of_decide_eq_true (by first | (with_reducible assumption) | assumption)
                    have q6 : x9_1 < (a0.size : Int) := of_decide_eq_true (by first | (with_reducible assumption) | assumption)
                    have hx6 := bt_at a0 x9_1
                    replace p6 := eq_true p6
                    replace q6 := eq_true q6
                    go_wp2
                    go_ret
                    exact ⟨by first | rfl | (simp; done) | (simp [*]; done), by repeat (first | exact Drawn0.refl _ | apply Drawn0.step)⟩
            · replace c9 := Bool.eq_false_iff.mpr c9
              subst c9
              have H1 : (some false) = some r := by rw [if_neg (show ¬ (false = true) by decide)] at H; exact H
              clear H
              have H := H1
              clear H1
              obtain rfl := Option.some.inj H
              have p6 : 0 ≤ (x9_1 : Int) := of_decide_eq_true (by first | (with_reducible assumption) | assumption)
              have q6 : x9_1 < (a0.size : Int) := of_decide_eq_true (by first | (with_reducible assumption) | assumption)
              have hx6 := bt_at a0 x9_1
              replace p6 := eq_true p6
              replace q6 := eq_true q6
              go_wp2
              go_ret
              exact ⟨by first | rfl | (simp; done) | (simp [*]; done), by repeat (first | exact Drawn0.refl _ | apply Drawn0.step)⟩
        · rw [if_neg c7] at H
          have c7b0 : decide (32 < (bt a0 x9_1)) = false := decide_eq_false c7
          clear c7
          by_cases c13 : a1 = true
          · subst c13
            have H1 : (if (bt a0 x9_1) = 32 then (spec_printable.l0 k1 a0 true (a0.size : Int) (wrap64 (x9_1 + 1))) else (if (bt a0 x9_1) = 9 then (spec_printable.l0 k1 a0 true (a0.size : Int) (wrap64 (x9_1 + 1))) else (if (bt a0 x9_1) = 10 then (spec_printable.l0 k1 a0 true (a0.size : Int) (wrap64 (x9_1 + 1))) else (some false)))) = some r := by rw [if_pos rfl] at H; exact H
            clear H
            have H := H1
            clear H1
            by_cases c14 : (bt a0 x9_1) = 32
            · rw [if_pos c14] at H
              have c14b0 : ((bt a0 x9_1) == 32) = true := beq_iff_eq.mpr c14
              have c14b1 : ((bt a0 x9_1) != 32) = false := bne_eq_false_iff_eq.mpr c14
              clear c14
              have H' := Aside0.mk H
              clear H
              have p6 : 0 ≤ (x9_1 : Int) := of_decide_eq_true (by first | (with_reducible assumption) | assumption)
              have q6 : x9_1 < (a0.size : Int) := of_decide_eq_true (by first | (with_reducible assumption) | assumption)
              have hx6 := bt_at a0 x9_1
              replace p6 := eq_true p6
              replace q6 := eq_true q6
              go_wp2
              go_roundg k1
              case measure => have := HK1.out; omega
              case rel => exact ⟨(wrap64 (x9_1 + 1)), (by first | rfl | (simp; done) | (simp [*]; done)), H', ⟨by have := HK1.out; omega⟩, by repeat (first | exact Drawn0.refl _ | apply Drawn0.step)⟩
            · rw [if_neg c14] at H
              have c14b0 : ((bt a0 x9_1) == 32) = false := beq_eq_false_iff_ne.mpr c14
              have c14b1 : ((bt a0 x9_1) != 32) = true := bne_iff_ne.mpr c14
              by_cases c15 : (bt a0 x9_1) = 9
              · rw [if_pos c15] at H
                have c15b0 : ((bt a0 x9_1) == 9) = true := beq_iff_eq.mpr c15
                have c15b1 : ((bt a0 x9_1) != 9) = false := bne_eq_false_iff_eq.mpr c15
                clear c15
                have H' := Aside0.mk H
                clear H
                have p6 : 0 ≤ (x9_1 : Int) := of_decide_eq_true (by first | (with_reducible assumption) | assumption)
                have q6 : x9_1 < (a0.size : Int) := of_decide_eq_true (by first | (with_reducible assumption) | assumption)
                have hx6 := bt_at a0 x9_1
                replace p6 := eq_true p6
                replace q6 := eq_true q6
                go_wp2
                go_roundg k1
                case measure => have := HK1.out; omega
                case rel => exact ⟨(wrap64 (x9_1 + 1)), (by first | rfl | (simp; done) | (simp [*]; done)), H', ⟨by have := HK1.out; omega⟩, by repeat (first | exact Drawn0.refl _ | apply Drawn0.step)⟩
              · rw [if_neg c15] at H
                have c15b0 : ((bt a0 x9_1) == 9) = false := beq_eq_false_iff_ne.mpr c15
                have c15b1 : ((bt a0 x9_1) != 9) = true := bne_iff_ne.mpr c15
                by_cases c16 : (bt a0 x9_1) = 10
                · rw [if_pos c16] at H
                  have c16b0 : ((bt a0 x9_1) == 10) = true := beq_iff_eq.mpr c16
                  have c16b1 : ((bt a0 x9_1) != 10) = false := bne_eq_false_iff_eq.mpr c16
                  clear c16
                  have H' := Aside0.mk H
                  clear H
                  have p6 : 0 ≤ (x9_1 : Int) := of_decide_eq_true (by first | (with_reducible assumption) | assumption)
                  have q6 : x9_1 < (a0.size : Int) := of_decide_eq_true (by first | (with_reducible assumption) | assumption)
                  have hx6 := bt_at a0 x9_1
                  replace p6 := eq_true p6
                  replace q6 := eq_true q6
                  go_wp2
                  go_roundg k1
                  case measure => have := HK1.out; omega
                  case rel => exact ⟨(wrap64 (x9_1 + 1)), (by first | rfl | (simp; done) | (simp [*]; done)), H', ⟨by have := HK1.out; omega⟩, by repeat (first | exact Drawn0.refl _ | apply Drawn0.step)⟩
                · rw [if_neg c16] at H
                  have c16b0 : ((bt a0 x9_1) == 10) = false := beq_eq_false_iff_ne.mpr c16
                  have c16b1 : ((bt a0 x9_1) != 10) = true := bne_iff_ne.mpr c16
                  obtain rfl := Option.some.inj H
                  have p6 : 0 ≤ (x9_1 : Int) := of_decide_eq_true (by first | (with_reducible assumption) | assumption)
                  have q6 : x9_1 < (a0.size : Int) := of_decide_eq_true (by first | (with_reducible assumption) | assumption)
                  have hx6 := bt_at a0 x9_1
                  replace p6 := eq_true p6
                  replace q6 := eq_true q6
                  go_wp2
                  go_ret
                  exact ⟨by first | rfl | (simp; done) | (simp [*]; done), by repeat (first | exact Drawn0.refl _ | apply Drawn0.step)⟩
          · replace c13 := Bool.eq_false_iff.mpr c13
            subst c13
            have H1 : (some false) = some r := by rw [if_neg (show ¬ (false = true) by decide)] at H; exact H
            clear H
            have H := H1
            clear H1
            obtain rfl := Option.some.inj H
            have p6 : 0 ≤ (x9_1 : Int) := of_decide_eq_true (by first | (with_reducible assumption) | assumption)
            have q6 : x9_1 < (a0.size : Int) := of_decide_eq_true (by first | (with_reducible assumption) | assumption)
            have hx6 := bt_at a0 x9_1
            replace p6 := eq_true p6
            replace q6 := eq_true q6
            go_wp2
            go_ret
            exact ⟨by first | rfl | (simp; done) | (simp [*]; done), by repeat (first | exact Drawn0.refl _ | apply Drawn0.step)⟩
      · rw [if_neg c3] at H
        have c3b0 : decide (x9_1 < (a0.size : Int)) = false := decide_eq_false c3
        clear c3
        obtain rfl := Option.some.inj H
        go_wp2
        go_ret
        exact ⟨by first | rfl | (simp; done) | (simp [*]; done), by repeat (first | exact Drawn0.refl _ | apply Drawn0.step)⟩

/-! ### spec_word: function 45 -/
def spec_word.l0 : Nat → ByteArray → Int → Int → Option (Bool)
  | 0, _, _, _ => none
  | k + 1, x0, x5, x6 => if x6 < x5 then (if 0 ≤ x6 then (if x6 < (x0.size : Int) then (if (bt x0 x6) = 92 then (some false) else (spec_word.l0 k x0 x5 (wrap64 (x6 + 1)))) else (none)) else (none)) else (if x0.toList = ([] : List UInt8) then (some false) else ((spec_printable.f k x0 false).bind fun t136 => (some t136)))
def spec_word.f (k : Nat) (a0 : ByteArray) : Option (Bool) := spec_word.l0 k a0 (a0.size : Int) 0
theorem spec_word.mono_l : ∀ k, (∀ y0 y1 y2, LeO (spec_word.l0 k y0 y1 y2) (spec_word.l0 (k + 1) y0 y1 y2))
  | 0 => fun _ _ _ r h => by simp [spec_word.l0] at h
  | k + 1 => by
    have ih0 := spec_word.mono_l k
    · intro y0 y1 y2
      unfold spec_word.l0
      repeat' first
      | (with_reducible exact ih0 _ _ _)
      | (with_reducible exact spec_printable.mono _ _ _)
      | (with_reducible exact LeO.refl _)
      | (with_reducible exact LeO.none _)
      | (with_reducible refine LeO.ite ?_ ?_)
      | (with_reducible refine LeO.bind ?_ (fun _ => ?_))
      | exact ih0 _ _ _
      | exact spec_printable.mono _ _ _
      | exact LeO.none _
      | refine LeO.ite ?_ ?_
      | refine LeO.bind ?_ (fun _ => ?_)
theorem spec_word.mono : ∀ a0 k, LeO (spec_word.f k a0) (spec_word.f (k + 1) a0) := by
  intro a0 k
  have ih0 := spec_word.mono_l k
  unfold spec_word.f
  repeat' first
      | (with_reducible exact ih0 _ _ _)
      | (with_reducible exact spec_printable.mono _ _ _)
      | (with_reducible exact LeO.refl _)
      | (with_reducible exact LeO.none _)
      | (with_reducible refine LeO.ite ?_ ?_)
      | (with_reducible refine LeO.bind ?_ (fun _ => ?_))
      | exact ih0 _ _ _
      | exact spec_printable.mono _ _ _
      | exact LeO.none _
      | refine LeO.ite ?_ ?_
      | refine LeO.bind ?_ (fun _ => ?_)
set_option maxHeartbeats 8000000 in
set_option maxRecDepth 100000 in
theorem spec_word.calls (k : Nat) (a0 : ByteArray) (r : Bool) (w : World) (h : spec_word.f k a0 = some r) :
    Calls Tryd.prog 45 #[.string a0] w fun e w' => e = .returned (.bool r) ∧ Drawn0 w w' := by
  have H : (spec_word.l0 k a0 (a0.size : Int) 0) = some r := h
  clear h
  have H' := Aside0.mk H
  clear H
  go_enter Tryd.func45, Tryd.ntmps45
  go_wp2
  go_loopg [6] k (fun kq v6 w' => ∃ (x6_1 : Int), v6 = .int .i64 x6_1 ∧ Aside0 (spec_word.l0 kq a0 (a0.size : Int) x6_1 = some r) ∧ Aside0 (kq ≤ k) ∧ Drawn0 w w')
  case atStart => exact ⟨(0), (by first | rfl | (simp; done) | (simp [*]; done)), H', ⟨Nat.le_refl _⟩, by repeat (first | exact Drawn0.refl _ | apply Drawn0.step)⟩
  case round =>
    clear H'
    obtain ⟨x6_1, rfl, HA, HK1, ⟨m1, rfl⟩⟩ := hrel
    cases gk with
    | zero => exact absurd HA.out (by simp [spec_word.l0])
    | succ k1 =>
      have H := HA.out
      clear HA
      simp only [spec_word.l0] at H
      by_cases c2 : x6_1 < (a0.size : Int)
      · rw [if_pos c2] at H
        have c2b0 : decide (x6_1 < (a0.size : Int)) = true := decide_eq_true c2
        clear c2
        replace H := guard_inv H
        obtain ⟨c3, H⟩ := H
        have c3b0 : decide (0 ≤ x6_1) = true := decide_eq_true c3
        clear c3
        replace H := guard_inv H
        obtain ⟨c4, H⟩ := H
        have c4b0 : decide (x6_1 < (a0.size : Int)) = true := decide_eq_true c4
        clear c4
        by_cases c6 : (bt a0 x6_1) = 92
        · rw [if_pos c6] at H
          have c6b0 : ((bt a0 x6_1) == 92) = true := beq_iff_eq.mpr c6
          have c6b1 : ((bt a0 x6_1) != 92) = false := bne_eq_false_iff_eq.mpr c6
          clear c6
          obtain rfl := Option.some.inj H
          have p5 : 0 ≤ (x6_1 : Int) := of_decide_eq_true (by first | (with_reducible assumption) | assumption)
          have q5 : x6_1 < (a0.size : Int) := of_decide_eq_true (by first | (with_reducible assumption) | assumption)
          have hx5 := bt_at a0 x6_1
          replace p5 := eq_true p5
          replace q5 := eq_true q5
          go_wp2
          go_ret
          exact ⟨by first | rfl | (simp; done) | (simp [*]; done), by repeat (first | exact Drawn0.refl _ | apply Drawn0.step)⟩
        · rw [if_neg c6] at H
          have c6b0 : ((bt a0 x6_1) == 92) = false := beq_eq_false_iff_ne.mpr c6
          have c6b1 : ((bt a0 x6_1) != 92) = true := bne_iff_ne.mpr c6
          have H' := Aside0.mk H
          clear H
          have p5 : 0 ≤ (x6_1 : Int) := of_decide_eq_true (by first | (with_reducible assumption) | assumption)
          have q5 : x6_1 < (a0.size : Int) := of_decide_eq_true (by first | (with_reducible assumption) | assumption)
          have hx5 := bt_at a0 x6_1
          replace p5 := eq_true p5
          replace q5 := eq_true q5
          go_wp2
          go_roundg k1
          case measure => have := HK1.out; omega
          case rel => exact ⟨(wrap64 (x6_1 + 1)), (by first | rfl | (simp; done) | (simp [*]; done)), H', ⟨by have := HK1.out; omega⟩, by repeat (first | exact Drawn0.refl _ | apply Drawn0.step)⟩
      · rw [if_neg c2] at H
        have c2b0 : decide (x6_1 < (a0.size : Int)) = false := decide_eq_false c2
        clear c2
        by_cases c7 : a0.toList = ([] : List UInt8)
        · rw [if_pos c7] at H
          have c7b0 : (a0.toList == ([] : List UInt8)) = true := beq_iff_eq.mpr c7
          have c7b1 : (a0.toList != ([] : List UInt8)) = false := bne_eq_false_iff_eq.mpr c7
          clear c7
          obtain rfl := Option.some.inj H
          go_wp2
          go_ret
          exact ⟨by first | rfl | (simp; done) | (simp [*]; done), by repeat (first | exact Drawn0.refl _ | apply Drawn0.step)⟩
        · rw [if_neg c7] at H
          have c7b0 : (a0.toList == ([] : List UInt8)) = false := beq_eq_false_iff_ne.mpr c7
          have c7b1 : (a0.toList != ([] : List UInt8)) = true := bne_iff_ne.mpr c7
          replace H := Option.bind_eq_some_iff.mp H
          obtain ⟨t136, A80, H⟩ := H
          replace H : (some t136) = some r := H
          have A8 := Aside0.mk A80
          clear A80
          obtain rfl := Option.some.inj H
          go_wp2_with (first | (go_at_call 44; (with_reducible refine (spec_printable.calls k1 a0 false t136 _ A8.out).mono ?_); rintro e w' ⟨rfl, ⟨nd, rfl⟩⟩))
          go_ret
          exact ⟨by first | rfl | (simp; done) | (simp [*]; done), by repeat (first | exact Drawn0.refl _ | apply Drawn0.step)⟩

/-! ### spec_fields: function 46 -/
def spec_fields.l0 : Nat → ByteArray → List ByteArray → Int → Int → Int → Option (List ByteArray)
  | 0, _, _, _, _, _ => none
  | k + 1, x0, x3, x4, x7, x8 => if x8 < x7 then (if 0 ≤ x8 then (if x8 < (x0.size : Int) then (if (bt x0 x8) = 32 then (if 0 ≤ x4 then (if x4 ≤ x8 then (if x8 ≤ (x0.size : Int) then (if x3.length < 8796093022208 then (spec_fields.l0 k x0 (x3 ++ [x0.extract (x4 : Int).toNat (x8 : Int).toNat]) (wrap64 (x8 + 1)) x7 (wrap64 (x8 + 1))) else (none)) else (none)) else (none)) else (none)) else (spec_fields.l0 k x0 x3 x4 x7 (wrap64 (x8 + 1)))) else (none)) else (none)) else (if 0 ≤ x4 then (if x4 ≤ (x0.size : Int) then (if x3.length < 8796093022208 then (some (x3 ++ [x0.extract (x4 : Int).toNat x0.size])) else (none)) else (none)) else (none))
def spec_fields.f (k : Nat) (a0 : ByteArray) : Option (List ByteArray) := spec_fields.l0 k a0 ([] : List ByteArray) 0 (a0.size : Int) 0
theorem spec_fields.mono_l : ∀ k, (∀ y0 y1 y2 y3 y4, LeO (spec_fields.l0 k y0 y1 y2 y3 y4) (spec_fields.l0 (k + 1) y0 y1 y2 y3 y4))
  | 0 => fun _ _ _ _ _ r h => by simp [spec_fields.l0] at h
  | k + 1 => by
    have ih0 := spec_fields.mono_l k
    · intro y0 y1 y2 y3 y4
      unfold spec_fields.l0
      repeat' first
      | (with_reducible exact ih0 _ _ _ _ _)
      | (with_reducible exact LeO.refl _)
      | (with_reducible exact LeO.none _)
      | (with_reducible refine LeO.ite ?_ ?_)
      | (with_reducible refine LeO.bind ?_ (fun _ => ?_))
      | exact ih0 _ _ _ _ _
      | exact LeO.none _
      | refine LeO.ite ?_ ?_
      | refine LeO.bind ?_ (fun _ => ?_)
theorem spec_fields.mono : ∀ a0 k, LeO (spec_fields.f k a0) (spec_fields.f (k + 1) a0) := by
  intro a0 k
  have ih0 := spec_fields.mono_l k
  unfold spec_fields.f
  repeat' first
      | (with_reducible exact ih0 _ _ _ _ _)
      | (with_reducible exact LeO.refl _)
      | (with_reducible exact LeO.none _)
      | (with_reducible refine LeO.ite ?_ ?_)
      | (with_reducible refine LeO.bind ?_ (fun _ => ?_))
      | exact ih0 _ _ _ _ _
      | exact LeO.none _
      | refine LeO.ite ?_ ?_
      | refine LeO.bind ?_ (fun _ => ?_)
set_option maxHeartbeats 8000000 in
set_option maxRecDepth 100000 in
theorem spec_fields.calls (k : Nat) (a0 : ByteArray) (r : List ByteArray) (w : World) (h : spec_fields.f k a0 = some r) :
    Calls Tryd.prog 46 #[.string a0] w fun e w' => ∃ v0_ : Value, e = .returned (v0_) ∧ Kd.R Kd.string 9 w' w.heap.size (fun _ => True) v0_ r ∧ Below w.heap.size w w' := by
  have HB := Aside0.mk (Below.refl w.heap.size w)
  have H : (spec_fields.l0 k a0 ([] : List ByteArray) 0 (a0.size : Int) 0) = some r := h
  clear h
  have H' := Aside0.mk H
  clear H
  go_enter Tryd.func46, Tryd.ntmps46
  go_wp2
  go_loopg [3, 4, 8] k (fun kq v3 v4 v8 w' => ∃ (x3_1 : List ByteArray) (x4_1 : Int) (x8_1 : Int), v4 = .int .i64 x4_1 ∧ v8 = .int .i64 x8_1 ∧ Aside0 (spec_fields.l0 kq a0 x3_1 x4_1 (a0.size : Int) x8_1 = some r) ∧ Aside0 (kq ≤ k) ∧ Aside0 (Kd.R Kd.string 9 w' w.heap.size (fun _ => True) v3 x3_1) ∧ Aside0 (Below w.heap.size w w'))
  case atStart => exact ⟨(([] : List ByteArray)), (0), (0), (by first | rfl | (simp; done) | (simp [*]; done)), (by first | rfl | (simp; done) | (simp [*]; done)), H', ⟨Nat.le_refl _⟩, ⟨by first | exact Kd.R_nil _ _ _ _ _ | exact Kd.N_nil _ _ _ _ _ | exact Kd.V_nil _ _ _ _ _ | exact Kd.Q_nil _ _ _ _ _ | exact Kd.S_nil _ _ _ _ _⟩, ⟨by repeat (first | (with_reducible first | exact HB.out | apply below_alloc | apply pw_below_drewN | apply below_drew1) | exact HB.out)⟩⟩
  case round =>
    clear H'
    obtain ⟨x3_1, x4_1, x8_1, rfl, rfl, HA, HK1, HO_3, HB⟩ := hrel
    cases gk with
    | zero => exact absurd HA.out (by simp [spec_fields.l0])
    | succ k1 =>
      have H := HA.out
      clear HA
      simp only [spec_fields.l0] at H
      by_cases c2 : x8_1 < (a0.size : Int)
      · rw [if_pos c2] at H
        have c2b0 : decide (x8_1 < (a0.size : Int)) = true := decide_eq_true c2
        clear c2
        replace H := guard_inv H
        obtain ⟨c3, H⟩ := H
        have c3b0 : decide (0 ≤ x8_1) = true := decide_eq_true c3
        clear c3
        replace H := guard_inv H
        obtain ⟨c4, H⟩ := H
        have c4b0 : decide (x8_1 < (a0.size : Int)) = true := decide_eq_true c4
        clear c4
        by_cases c6 : (bt a0 x8_1) = 32
        · rw [if_pos c6] at H
          have c6b0 : ((bt a0 x8_1) == 32) = true := beq_iff_eq.mpr c6
          have c6b1 : ((bt a0 x8_1) != 32) = false := bne_eq_false_iff_eq.mpr c6
          clear c6
          replace H := guard_inv H
          obtain ⟨c7, H⟩ := H
          have c7b0 := eq_true c7
          have c7b1 := decide_eq_true c7
          clear c7
          replace H := guard_inv H
          obtain ⟨c8, H⟩ := H
          have c8b0 := eq_true c8
          have c8b1 := decide_eq_true c8
          clear c8
          replace H := guard_inv H
          obtain ⟨c9, H⟩ := H
          have c9b0 := eq_true c9
          have c9b1 := decide_eq_true c9
          clear c9
          replace H := guard_inv H
          obtain ⟨c10, H⟩ := H
          have LMc10 := Aside0.mk c10
          clear c10
          obtain ⟨y137, hy137⟩ : ∃ y_ : List ByteArray, y_ = (x3_1 ++ [a0.extract (x4_1 : Int).toNat (x8_1 : Int).toNat]) := ⟨_, rfl⟩
          replace H : (spec_fields.l0 k1 a0 y137 (wrap64 (x8_1 + 1)) (a0.size : Int) (wrap64 (x8_1 + 1))) = some r := by first | (rw [hy137]; with_reducible exact H) | (have H2_ := (Option.bind_some _ _).symm.trans H; rw [hy137]; with_reducible exact H2_) | (have H2_ := (Option.bind_some _ _).symm.trans H; with_reducible exact H2_) | with_reducible exact H | (rw [hy137]; exact H) | exact H
          have Ny137 := Aside0.mk hy137
          clear hy137
          have H' := Aside0.mk H
          clear H
          have p5 : 0 ≤ (x8_1 : Int) := of_decide_eq_true (by first | (with_reducible assumption) | assumption)
          have q5 : x8_1 < (a0.size : Int) := of_decide_eq_true (by first | (with_reducible assumption) | assumption)
          have hx5 := bt_at a0 x8_1
          replace p5 := eq_true p5
          replace q5 := eq_true q5
          go_wp2_with (first | ((with_reducible refine gate_builtin (b := .append) (xs := #[.tmp 15, .tmp 20]) rfl ?_); at_builtin; refine Kd.R_append Kd.string (w0 := w) w.heap.size rfl (.tmp 15) (.tmp 20) 28 9 (.string ⟨#[]⟩) 16 rfl Tryd.underlying28 info9 rfl (by decide) (by omega) u3 x3_1 (a0.extract (x4_1 : Int).toNat (x8_1 : Int).toNat) [.string (a0.extract (x4_1 : Int).toNat (x8_1 : Int).toNat)] (fun _ => True) (fun _ => False) rfl rfl ?aP (fun _ hk => hk.elim) ?aF ?aO ?aB ?aS ?aL ?_; (case aP => exact rfl); (case aB => exact (by repeat (first | (with_reducible first | exact HB.out | apply below_alloc | apply pw_below_drewN | apply below_drew1) | exact HB.out))); (case aF => exact (fun _ _ => trivial)); (case aO => exact (by (with_reducible repeat (first | apply Kd.R_alloc | apply Kd.R_drewN | apply Kd.R_drew)); exact HO_3.out)); (case aS => exact (below_size (by repeat (first | (with_reducible first | exact HB.out | apply below_alloc | apply pw_below_drewN | apply below_drew1) | exact HB.out)))); (case aL => have := LMc10.out; omega); intro v138 w11 ho hb hg hat; rw [← Ny137.out] at ho; have n0_ := Aside0.mk (hb); have n1_ := Aside0.mk (ho); clear HB; clear HO_3; have HB := n0_; have HO139 := n1_; clear n0_ n1_; clear ho hb hg hat))
          go_roundg k1
          case measure => have := HK1.out; omega
          case rel => exact ⟨(y137), (wrap64 (x8_1 + 1)), (wrap64 (x8_1 + 1)), (by first | rfl | (simp; done) | (simp [*]; done)), (by first | rfl | (simp; done) | (simp [*]; done)), H', ⟨by have := HK1.out; omega⟩, ⟨by (with_reducible repeat (first | apply Kd.R_alloc | apply Kd.R_drewN | apply Kd.R_drew)); exact HO139.out⟩, ⟨by repeat (first | (with_reducible first | exact HB.out | apply below_alloc | apply pw_below_drewN | apply below_drew1) | exact HB.out)⟩⟩
        · rw [if_neg c6] at H
          have c6b0 : ((bt a0 x8_1) == 32) = false := beq_eq_false_iff_ne.mpr c6
          have c6b1 : ((bt a0 x8_1) != 32) = true := bne_iff_ne.mpr c6
          have H' := Aside0.mk H
          clear H
          have p5 : 0 ≤ (x8_1 : Int) := of_decide_eq_true (by first | (with_reducible assumption) | assumption)
          have q5 : x8_1 < (a0.size : Int) := of_decide_eq_true (by first | (with_reducible assumption) | assumption)
          have hx5 := bt_at a0 x8_1
          replace p5 := eq_true p5
          replace q5 := eq_true q5
          go_wp2
          go_roundg k1
          case measure => have := HK1.out; omega
          case rel => exact ⟨(x3_1), (x4_1), (wrap64 (x8_1 + 1)), (by first | rfl | (simp; done) | (simp [*]; done)), (by first | rfl | (simp; done) | (simp [*]; done)), H', ⟨by have := HK1.out; omega⟩, ⟨by (with_reducible repeat (first | apply Kd.R_alloc | apply Kd.R_drewN | apply Kd.R_drew)); exact HO_3.out⟩, ⟨by repeat (first | (with_reducible first | exact HB.out | apply below_alloc | apply pw_below_drewN | apply below_drew1) | exact HB.out)⟩⟩
      · rw [if_neg c2] at H
        have c2b0 : decide (x8_1 < (a0.size : Int)) = false := decide_eq_false c2
        clear c2
        replace H := guard_inv H
        obtain ⟨c12, H⟩ := H
        have c12b0 := eq_true c12
        have c12b1 := decide_eq_true c12
        clear c12
        replace H := guard_inv H
        obtain ⟨c13, H⟩ := H
        have c13b0 := eq_true c13
        have c13b1 := decide_eq_true c13
        clear c13
        replace H := guard_inv H
        obtain ⟨c14, H⟩ := H
        have LMc14 := Aside0.mk c14
        clear c14
        obtain ⟨y140, hy140⟩ : ∃ y_ : List ByteArray, y_ = (x3_1 ++ [a0.extract (x4_1 : Int).toNat a0.size]) := ⟨_, rfl⟩
        replace H : (some y140) = some r := by first | (rw [hy140]; with_reducible exact H) | (have H2_ := (Option.bind_some _ _).symm.trans H; rw [hy140]; with_reducible exact H2_) | (have H2_ := (Option.bind_some _ _).symm.trans H; with_reducible exact H2_) | with_reducible exact H | (rw [hy140]; exact H) | exact H
        have Ny140 := Aside0.mk hy140
        clear hy140
        obtain rfl := Option.some.inj H
        go_wp2_with (first | ((with_reducible refine gate_builtin (b := .append) (xs := #[.tmp 25, .tmp 29]) rfl ?_); at_builtin; refine Kd.R_append Kd.string (w0 := w) w.heap.size rfl (.tmp 25) (.tmp 29) 28 9 (.string ⟨#[]⟩) 16 rfl Tryd.underlying28 info9 rfl (by decide) (by omega) u3 x3_1 (a0.extract (x4_1 : Int).toNat a0.size) [.string (a0.extract (x4_1 : Int).toNat a0.size)] (fun _ => True) (fun _ => False) rfl rfl ?aP (fun _ hk => hk.elim) ?aF ?aO ?aB ?aS ?aL ?_; (case aP => exact rfl); (case aB => exact (by repeat (first | (with_reducible first | exact HB.out | apply below_alloc | apply pw_below_drewN | apply below_drew1) | exact HB.out))); (case aF => exact (fun _ _ => trivial)); (case aO => exact (by (with_reducible repeat (first | apply Kd.R_alloc | apply Kd.R_drewN | apply Kd.R_drew)); exact HO_3.out)); (case aS => exact (below_size (by repeat (first | (with_reducible first | exact HB.out | apply below_alloc | apply pw_below_drewN | apply below_drew1) | exact HB.out)))); (case aL => have := LMc14.out; omega); intro v141 w15 ho hb hg hat; rw [← Ny140.out] at ho; have n0_ := Aside0.mk (hb); have n1_ := Aside0.mk (ho); clear HB; clear HO_3; have HB := n0_; have HO142 := n1_; clear n0_ n1_; clear ho hb hg hat))
        go_ret
        exact ⟨_, by first | rfl | (simp [errW_none, errW_some] <;> rfl) | (simp [*, errW_none, errW_some] <;> rfl), by (with_reducible repeat (first | apply Kd.R_alloc | apply Kd.R_drewN | apply Kd.R_drew)); exact HO142.out, by repeat (first | (with_reducible first | exact HB.out | apply below_alloc | apply pw_below_drewN | apply below_drew1) | exact HB.out)⟩

end Go.Proofs.YtdmccakncgdbhaaDoor.GMA
