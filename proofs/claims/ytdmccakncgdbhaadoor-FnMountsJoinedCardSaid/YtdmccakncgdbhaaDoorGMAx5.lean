-- printed by gprint.py (a session's own turn of the kit's print): MA
import Derived.Test.YtdmccakncgdbhaaDoorGMAx0
import Derived.Test.YtdmccakncgdbhaaDoorGMAx4
import Derived.Test.YtdmccakncgdbhaaDoorGivenMA
import Derived.Test.YtdmccakncgdbhaaDoorGivenMT
namespace Go.Proofs.YtdmccakncgdbhaaDoor.GMA
open Go.RowKit Go.Proofs.YtdmccakncgdbhaaDoorW.PrintWords Go.Proofs.YtdmccakncgdbhaaDoorW.PrintLast Go.Proofs.YtdmccakncgdbhaaDoorW.PrintMore
attribute [local go_sem] max2_int min2_int max_two min_two max_three min_three max_four min_four   -- for this text's walks alone
set_option linter.unusedVariables false
set_option linter.unusedSimpArgs false

/-! ### spec_mountValid: function 26 -/
mutual
def spec_mountValid.l0 : Nat → List Int → Int → Int → Int → Int → Int → Int → ByteArray → ByteArray → ByteArray → ByteArray → ByteArray → ByteArray → ByteArray → Option (Bool)
  | 0, _, _, _, _, _, _, _, _, _, _, _, _, _, _ => none
  | k + 1, x15, x16, x17, x144000, x144001, x144002, x144003, x144004, x144005, x144006, x144007, x144008, x144009, x144010 => if x17 < x16 then (if 0 ≤ x17 then (if x17 < (x15.length : Int) then (if (rd x15 x17) < 0 then (some false) else (if (rd x15 x17) > 2147483647 then (some false) else (spec_mountValid.l0 k x15 x16 (wrap64 (x17 + 1)) x144000 x144001 x144002 x144003 x144004 x144005 x144006 x144007 x144008 x144009 x144010))) else (none)) else (none)) else (if x144004.toList = ([] : List UInt8) then (spec_mountValid.j1 k true x144000 x144001 x144002 x144003 x144004 x144005 x144006 x144007 x144008 x144009 x144010) else (if x144005.toList = ([] : List UInt8) then (spec_mountValid.j1 k true x144000 x144001 x144002 x144003 x144004 x144005 x144006 x144007 x144008 x144009 x144010) else (if x144009.toList = ([] : List UInt8) then (spec_mountValid.j1 k true x144000 x144001 x144002 x144003 x144004 x144005 x144006 x144007 x144008 x144009 x144010) else ((spec_printable.f k x144004 true).bind fun t148 => (if t148 = true then ((spec_printable.f k x144005 true).bind fun t149 => (if t149 = true then ((spec_printable.f k x144009 true).bind fun t150 => (if t150 = true then ((spec_word.f k x144006).bind fun t151 => (if t151 = true then ((spec_word.f k x144008).bind fun t152 => (if t152 = true then ((spec_word.f k x144010).bind fun t153 => (spec_mountValid.j1 k (!t153) x144000 x144001 x144002 x144003 x144004 x144005 x144006 x144007 x144008 x144009 x144010)) else (spec_mountValid.j1 k true x144000 x144001 x144002 x144003 x144004 x144005 x144006 x144007 x144008 x144009 x144010))) else (spec_mountValid.j1 k true x144000 x144001 x144002 x144003 x144004 x144005 x144006 x144007 x144008 x144009 x144010))) else (spec_mountValid.j1 k true x144000 x144001 x144002 x144003 x144004 x144005 x144006 x144007 x144008 x144009 x144010))) else (spec_mountValid.j1 k true x144000 x144001 x144002 x144003 x144004 x144005 x144006 x144007 x144008 x144009 x144010))) else (spec_mountValid.j1 k true x144000 x144001 x144002 x144003 x144004 x144005 x144006 x144007 x144008 x144009 x144010))))))
def spec_mountValid.j1 : Nat → Bool → Int → Int → Int → Int → ByteArray → ByteArray → ByteArray → ByteArray → ByteArray → ByteArray → ByteArray → Option (Bool)
  | 0, _, _, _, _, _, _, _, _, _, _, _, _ => none
  | k + 1, x76, x144000, x144001, x144002, x144003, x144004, x144005, x144006, x144007, x144008, x144009, x144010 => if x76 = true then (some false) else (if x144007.toList = ([] : List UInt8) then (some true) else ((spec_fields.f k x144007).bind fun t154 => (spec_mountValid.l1 k t154 (t154.length : Int) 0)))
def spec_mountValid.l1 : Nat → List ByteArray → Int → Int → Option (Bool)
  | 0, _, _, _ => none
  | k + 1, x82, x83, x84 => if x84 < x83 then (if 0 ≤ x84 then (if x84 < (x82.length : Int) then ((spec_word.f k (rdOf ByteArray.empty x82 x84)).bind fun t158 => (if t158 = true then (if (rdOf ByteArray.empty x82 x84).toList = ([45] : List UInt8) then (some false) else (spec_mountValid.l1 k x82 x83 (wrap64 (x84 + 1)))) else (some false))) else (none)) else (none)) else (some true)
end
def spec_mountValid.f (k : Nat) (a0_0 : Int) (a0_1 : Int) (a0_2 : Int) (a0_3 : Int) (a0_4 : ByteArray) (a0_5 : ByteArray) (a0_6 : ByteArray) (a0_7 : ByteArray) (a0_8 : ByteArray) (a0_9 : ByteArray) (a0_10 : ByteArray) : Option (Bool) := (some (([a0_0, a0_1, a0_2, a0_3] : List Int) : List Int)).bind fun y144 => (spec_mountValid.l0 k y144 (y144.length : Int) 0 a0_0 a0_1 a0_2 a0_3 a0_4 a0_5 a0_6 a0_7 a0_8 a0_9 a0_10)
theorem spec_mountValid.mono_l : ∀ k, (∀ y0 y1 y2 y3 y4 y5 y6 y7 y8 y9 y10 y11 y12 y13, LeO (spec_mountValid.l0 k y0 y1 y2 y3 y4 y5 y6 y7 y8 y9 y10 y11 y12 y13) (spec_mountValid.l0 (k + 1) y0 y1 y2 y3 y4 y5 y6 y7 y8 y9 y10 y11 y12 y13)) ∧ (∀ y0 y1 y2 y3 y4 y5 y6 y7 y8 y9 y10 y11, LeO (spec_mountValid.j1 k y0 y1 y2 y3 y4 y5 y6 y7 y8 y9 y10 y11) (spec_mountValid.j1 (k + 1) y0 y1 y2 y3 y4 y5 y6 y7 y8 y9 y10 y11)) ∧ (∀ y0 y1 y2, LeO (spec_mountValid.l1 k y0 y1 y2) (spec_mountValid.l1 (k + 1) y0 y1 y2))
  | 0 => ⟨fun _ _ _ _ _ _ _ _ _ _ _ _ _ _ r h => by simp [spec_mountValid.l0] at h, fun _ _ _ _ _ _ _ _ _ _ _ _ r h => by simp [spec_mountValid.j1] at h, fun _ _ _ r h => by simp [spec_mountValid.l1] at h⟩
  | k + 1 => by
    obtain ⟨ih0, ih1, ih2⟩ := spec_mountValid.mono_l k
    refine ⟨?_, ?_, ?_⟩
    · intro y0 y1 y2 y3 y4 y5 y6 y7 y8 y9 y10 y11 y12 y13
      unfold spec_mountValid.l0
      repeat' first
      | (with_reducible exact ih0 _ _ _ _ _ _ _ _ _ _ _ _ _ _)
      | (with_reducible exact ih1 _ _ _ _ _ _ _ _ _ _ _ _)
      | (with_reducible exact ih2 _ _ _)
      | (with_reducible exact spec_fields.mono _ _)
      | (with_reducible exact spec_printable.mono _ _ _)
      | (with_reducible exact spec_word.mono _ _)
      | (with_reducible exact LeO.refl _)
      | (with_reducible exact LeO.none _)
      | (with_reducible refine LeO.ite ?_ ?_)
      | (with_reducible refine LeO.bind ?_ (fun _ => ?_))
      | exact ih0 _ _ _ _ _ _ _ _ _ _ _ _ _ _
      | exact ih1 _ _ _ _ _ _ _ _ _ _ _ _
      | exact ih2 _ _ _
      | exact spec_fields.mono _ _
      | exact spec_printable.mono _ _ _
      | exact spec_word.mono _ _
      | exact LeO.none _
      | refine LeO.ite ?_ ?_
      | refine LeO.bind ?_ (fun _ => ?_)
    · intro y0 y1 y2 y3 y4 y5 y6 y7 y8 y9 y10 y11
      unfold spec_mountValid.j1
      repeat' first
      | (with_reducible exact ih0 _ _ _ _ _ _ _ _ _ _ _ _ _ _)
      | (with_reducible exact ih1 _ _ _ _ _ _ _ _ _ _ _ _)
      | (with_reducible exact ih2 _ _ _)
      | (with_reducible exact spec_fields.mono _ _)
      | (with_reducible exact spec_printable.mono _ _ _)
      | (with_reducible exact spec_word.mono _ _)
      | (with_reducible exact LeO.refl _)
      | (with_reducible exact LeO.none _)
      | (with_reducible refine LeO.ite ?_ ?_)
      | (with_reducible refine LeO.bind ?_ (fun _ => ?_))
      | exact ih0 _ _ _ _ _ _ _ _ _ _ _ _ _ _
      | exact ih1 _ _ _ _ _ _ _ _ _ _ _ _
      | exact ih2 _ _ _
      | exact spec_fields.mono _ _
      | exact spec_printable.mono _ _ _
      | exact spec_word.mono _ _
      | exact LeO.none _
      | refine LeO.ite ?_ ?_
      | refine LeO.bind ?_ (fun _ => ?_)
    · intro y0 y1 y2
      unfold spec_mountValid.l1
      repeat' first
      | (with_reducible exact ih0 _ _ _ _ _ _ _ _ _ _ _ _ _ _)
      | (with_reducible exact ih1 _ _ _ _ _ _ _ _ _ _ _ _)
      | (with_reducible exact ih2 _ _ _)
      | (with_reducible exact spec_fields.mono _ _)
      | (with_reducible exact spec_printable.mono _ _ _)
      | (with_reducible exact spec_word.mono _ _)
      | (with_reducible exact LeO.refl _)
      | (with_reducible exact LeO.none _)
      | (with_reducible refine LeO.ite ?_ ?_)
      | (with_reducible refine LeO.bind ?_ (fun _ => ?_))
      | exact ih0 _ _ _ _ _ _ _ _ _ _ _ _ _ _
      | exact ih1 _ _ _ _ _ _ _ _ _ _ _ _
      | exact ih2 _ _ _
      | exact spec_fields.mono _ _
      | exact spec_printable.mono _ _ _
      | exact spec_word.mono _ _
      | exact LeO.none _
      | refine LeO.ite ?_ ?_
      | refine LeO.bind ?_ (fun _ => ?_)
theorem spec_mountValid.mono : ∀ a0 a1 a2 a3 a4 a5 a6 a7 a8 a9 a10 k, LeO (spec_mountValid.f k a0 a1 a2 a3 a4 a5 a6 a7 a8 a9 a10) (spec_mountValid.f (k + 1) a0 a1 a2 a3 a4 a5 a6 a7 a8 a9 a10) := by
  intro a0 a1 a2 a3 a4 a5 a6 a7 a8 a9 a10 k
  obtain ⟨ih0, ih1, ih2⟩ := spec_mountValid.mono_l k
  unfold spec_mountValid.f
  repeat' first
      | (with_reducible exact ih0 _ _ _ _ _ _ _ _ _ _ _ _ _ _)
      | (with_reducible exact ih1 _ _ _ _ _ _ _ _ _ _ _ _)
      | (with_reducible exact ih2 _ _ _)
      | (with_reducible exact spec_fields.mono _ _)
      | (with_reducible exact spec_printable.mono _ _ _)
      | (with_reducible exact spec_word.mono _ _)
      | (with_reducible exact LeO.refl _)
      | (with_reducible exact LeO.none _)
      | (with_reducible refine LeO.ite ?_ ?_)
      | (with_reducible refine LeO.bind ?_ (fun _ => ?_))
      | exact ih0 _ _ _ _ _ _ _ _ _ _ _ _ _ _
      | exact ih1 _ _ _ _ _ _ _ _ _ _ _ _
      | exact ih2 _ _ _
      | exact spec_fields.mono _ _
      | exact spec_printable.mono _ _ _
      | exact spec_word.mono _ _
      | exact LeO.none _
      | refine LeO.ite ?_ ?_
      | refine LeO.bind ?_ (fun _ => ?_)
set_option maxHeartbeats 8000000 in
set_option maxRecDepth 100000 in
theorem spec_mountValid.calls (k : Nat) (a0_0 : Int) (a0_1 : Int) (a0_2 : Int) (a0_3 : Int) (a0_4 : ByteArray) (a0_5 : ByteArray) (a0_6 : ByteArray) (a0_7 : ByteArray) (a0_8 : ByteArray) (a0_9 : ByteArray) (a0_10 : ByteArray) (r : Bool) (w : World) (h : spec_mountValid.f k a0_0 a0_1 a0_2 a0_3 a0_4 a0_5 a0_6 a0_7 a0_8 a0_9 a0_10 = some r) :
    Calls Tryd.prog 26 #[.agg #[.int .i64 a0_0, .int .i64 a0_1, .int .i64 a0_2, .int .i64 a0_3, .string a0_4, .string a0_5, .string a0_6, .string a0_7, .string a0_8, .string a0_9, .string a0_10]] w fun e w' => e = .returned (.bool r) ∧ Below w.heap.size w w' := by
  have hu58 := Tryd.underlying58
  have HB := Aside0.mk (Below.refl w.heap.size w)
  have H : ((some (([a0_0, a0_1, a0_2, a0_3] : List Int) : List Int)).bind fun y144 => (spec_mountValid.l0 k y144 (y144.length : Int) 0 a0_0 a0_1 a0_2 a0_3 a0_4 a0_5 a0_6 a0_7 a0_8 a0_9 a0_10)) = some r := h
  clear h
  obtain ⟨y144, hy144⟩ : ∃ y_ : List Int, y_ = (([a0_0, a0_1, a0_2, a0_3] : List Int)) := ⟨_, rfl⟩
  replace H : (spec_mountValid.l0 k y144 (y144.length : Int) 0 a0_0 a0_1 a0_2 a0_3 a0_4 a0_5 a0_6 a0_7 a0_8 a0_9 a0_10) = some r := by first | (rw [hy144]; with_reducible exact H) | (have H2_ := (Option.bind_some _ _).symm.trans H; rw [hy144]; with_reducible exact H2_) | (have H2_ := (Option.bind_some _ _).symm.trans H; with_reducible exact H2_) | with_reducible exact H | (rw [hy144]; exact H) | exact H
  have Ny144 := Aside0.mk hy144
  clear hy144
  have H' := Aside0.mk H
  clear H
  go_enter Tryd.func26, Tryd.ntmps26
  go_wp2_with (first | ((with_reducible refine gate_dst (N := 1) rfl ?_); refine box_event ?hg (N := 1) ?hd (cs := #[.int .i64 a0_0, .int .i64 a0_1, .int .i64 a0_2, .int .i64 a0_3, .string a0_4, .string a0_5, .string a0_6, .string a0_7, .string a0_8, .string a0_9, .string a0_10]) (t := 58) ?hr ?_; (case hd => rfl); (case hg => rfl); (case hr => first | (go_simp; done) | (go_simp; rfl)); intro gb143 hg w2 hbox hb; have n0_ := Aside0.mk (below_step (by repeat (first | (with_reducible first | exact HB.out | apply below_alloc | apply pw_below_drewN | apply below_drew1) | exact HB.out)) hb); have n1_ := Aside0.mk (hbox); have n2_ := Aside0.mk ((by rw [hg]; exact (below_size (by repeat (first | (with_reducible first | exact HB.out | apply below_alloc | apply pw_below_drewN | apply below_drew1) | exact HB.out))) : w.heap.size ≤ gb143)); have n3_ := Aside0.mk ((by rw [hg]; exact (below_size (by repeat (first | (with_reducible first | exact HB.out | apply below_alloc | apply pw_below_drewN | apply below_drew1) | exact HB.out))) : w.heap.size ≤ gb143)); clear HB; have HB := n0_; have BK143 := n1_; have GW143 := n2_; have GE143 := n3_; clear n0_ n1_ n2_ n3_; clear hb hbox hg; have hcz3_0 : w2.cell? ⟨gb143, 0, none⟩ = some (.int .i64 a0_0) := (blk_cell BK143.out 0).trans rfl; have hcz3_1 : w2.cell? ⟨gb143, 1, none⟩ = some (.int .i64 a0_1) := (blk_cell BK143.out 1).trans rfl; have hcz3_2 : w2.cell? ⟨gb143, 2, none⟩ = some (.int .i64 a0_2) := (blk_cell BK143.out 2).trans rfl; have hcz3_3 : w2.cell? ⟨gb143, 3, none⟩ = some (.int .i64 a0_3) := (blk_cell BK143.out 3).trans rfl; have hcz3_4 : w2.cell? ⟨gb143, 4, none⟩ = some (.string a0_4) := (blk_cell BK143.out 4).trans rfl; have hcz3_5 : w2.cell? ⟨gb143, 5, none⟩ = some (.string a0_5) := (blk_cell BK143.out 5).trans rfl; have hcz3_6 : w2.cell? ⟨gb143, 6, none⟩ = some (.string a0_6) := (blk_cell BK143.out 6).trans rfl; have hcz3_7 : w2.cell? ⟨gb143, 7, none⟩ = some (.string a0_7) := (blk_cell BK143.out 7).trans rfl; have hcz3_8 : w2.cell? ⟨gb143, 8, none⟩ = some (.string a0_8) := (blk_cell BK143.out 8).trans rfl; have hcz3_9 : w2.cell? ⟨gb143, 9, none⟩ = some (.string a0_9) := (blk_cell BK143.out 9).trans rfl; have hcz3_10 : w2.cell? ⟨gb143, 10, none⟩ = some (.string a0_10) := (blk_cell BK143.out 10).trans rfl; have hfz3_0 := blk_frozen BK143.out 0; have hfz3_1 := blk_frozen BK143.out 1; have hfz3_2 := blk_frozen BK143.out 2; have hfz3_3 := blk_frozen BK143.out 3; have hfz3_4 := blk_frozen BK143.out 4; have hfz3_5 := blk_frozen BK143.out 5; have hfz3_6 := blk_frozen BK143.out 6; have hfz3_7 := blk_frozen BK143.out 7; have hfz3_8 := blk_frozen BK143.out 8; have hfz3_9 := blk_frozen BK143.out 9; have hfz3_10 := blk_frozen BK143.out 10) | ((with_reducible refine gate_dst (N := 15) rfl ?_); refine Kd.R_lit (Kd.int .i64) _ 3 ?hg (N := 15) ?hd (xs := ([a0_0, a0_1, a0_2, a0_3] : List Int)) (inner := [.int .i64 a0_0, .int .i64 a0_1, .int .i64 a0_2, .int .i64 a0_3]) (ok := fun _ => True) (okp := fun _ => True) ?hr ?hp (fun _ hk => hk) trivial (Below.refl _ _) (Nat.le_refl _) (by simp) ?_; (case hd => rfl); (case hg => rfl); (case hr => first | (go_simp; done) | (go_simp; rfl)); (case hp => exact (Reps.one (show Kd.M (Kd.int .i64) _ _ _ a0_0 [.int .i64 a0_0] from rfl) (Reps.one (show Kd.M (Kd.int .i64) _ _ _ a0_1 [.int .i64 a0_1] from rfl) (Reps.one (show Kd.M (Kd.int .i64) _ _ _ a0_2 [.int .i64 a0_2] from rfl) (Reps.one (show Kd.M (Kd.int .i64) _ _ _ a0_3 [.int .i64 a0_3] from rfl) (Reps.none _ _)))))); intro v145 w4 ho5 hb hg_ hnew_; clear hg_ hnew_; (first | rw [← Ny144.out] at ho5 | (simp only [Int.reduceToNat] at ho5; rw [← Ny144.out] at ho5)); have n0_ := Aside0.mk (Kd.R_lower ho5 (below_size (by repeat (first | (with_reducible first | exact HB.out | apply below_alloc | apply pw_below_drewN | apply below_drew1 | refine below_set ?_ GE143.out) | exact HB.out)))); have n1_ := Aside0.mk (blk_below (g := gb143) (o := .cells #[.int .i64 a0_0, .int .i64 a0_1, .int .i64 a0_2, .int .i64 a0_3, .string a0_4, .string a0_5, .string a0_6, .string a0_7, .string a0_8, .string a0_9, .string a0_10] 58 (0, 0)) (by (with_reducible repeat (first | refine blk_drewN ?_ _ | refine blk_drew ?_ | refine blk_alloc ?_ _)); exact BK143.out) hb); have n2_ := Aside0.mk (below_step (by repeat (first | (with_reducible first | exact HB.out | apply below_alloc | apply pw_below_drewN | apply below_drew1 | refine below_set ?_ GE143.out) | exact HB.out)) hb); clear BK143; clear HB; have HO146 := n0_; have BK143 := n1_; have HB := n2_; clear n0_ n1_ n2_; clear hb ho5; obtain ⟨Ao6, co6, eo6⟩ := Kd.R_slice HO146.out; subst eo6))
  go_loopg [17] k (fun kq v17 w' => ∃ (x17_1 : Int), v17 = .int .i64 x17_1 ∧ Aside0 (spec_mountValid.l0 kq y144 (y144.length : Int) x17_1 a0_0 a0_1 a0_2 a0_3 a0_4 a0_5 a0_6 a0_7 a0_8 a0_9 a0_10 = some r) ∧ Aside0 (kq ≤ k) ∧ Aside0 (Kd.R (Kd.int .i64) 3 w' w.heap.size (fun _ => True) (.slice Ao6 y144.length co6) y144) ∧ Aside0 (w'.heap[gb143]? = some (.cells #[.int .i64 a0_0, .int .i64 a0_1, .int .i64 a0_2, .int .i64 a0_3, .string a0_4, .string a0_5, .string a0_6, .string a0_7, .string a0_8, .string a0_9, .string a0_10] 58 (0, 0))) ∧ Aside0 (Below w.heap.size w w'))
  case atStart => exact ⟨(0), (by first | rfl | (simp; done) | (simp [*]; done)), H', ⟨Nat.le_refl _⟩, ⟨by (with_reducible repeat (first | apply Kd.R_alloc | apply Kd.R_drewN | apply Kd.R_drew)); exact HO146.out⟩, ⟨by (with_reducible repeat (first | refine blk_drewN ?_ _ | refine blk_drew ?_ | refine blk_alloc ?_ _)); exact BK143.out⟩, ⟨by repeat (first | (with_reducible first | exact HB.out | apply below_alloc | apply pw_below_drewN | apply below_drew1 | refine below_set ?_ GE143.out) | exact HB.out)⟩⟩
  case round =>
    clear H'
    try clear c2
    try clear p2
    try clear hcz3_0
    try clear hcz3_1
    try clear hcz3_10
    try clear hcz3_2
    try clear hcz3_3
    try clear hcz3_4
    try clear hcz3_5
    try clear hcz3_6
    try clear hcz3_7
    try clear hcz3_8
    try clear hcz3_9
    try clear hfz3_0
    try clear hfz3_1
    try clear hfz3_10
    try clear hfz3_2
    try clear hfz3_3
    try clear hfz3_4
    try clear hfz3_5
    try clear hfz3_6
    try clear hfz3_7
    try clear hfz3_8
    try clear hfz3_9
    obtain ⟨x17_1, rfl, HA, HK1, HO_15, BK143, HB⟩ := hrel
    cases gk with
    | zero => exact absurd HA.out (by simp [spec_mountValid.l0])
    | succ k1 =>
      have H := HA.out
      clear HA
      simp only [spec_mountValid.l0] at H
      by_cases c7 : x17_1 < (y144.length : Int)
      · rw [if_pos c7] at H
        have c7b0 : decide (x17_1 < (y144.length : Int)) = true := decide_eq_true c7
        clear c7
        replace H := guard_inv H
        obtain ⟨c8, H⟩ := H
        have c8b0 : decide (0 ≤ x17_1) = true := decide_eq_true c8
        clear c8
        replace H := guard_inv H
        obtain ⟨c9, H⟩ := H
        have c9b0 : decide (x17_1 < (y144.length : Int)) = true := decide_eq_true c9
        clear c9
        by_cases c10 : (rd y144 x17_1) < 0
        · rw [if_pos c10] at H
          have c10b0 : decide ((rd y144 x17_1) < 0) = true := decide_eq_true c10
          clear c10
          obtain rfl := Option.some.inj H
          have p147 : 0 ≤ (x17_1 : Int) := of_decide_eq_true (by first | (with_reducible assumption) | assumption)
          have q147 : x17_1 < (y144.length : Int) := of_decide_eq_true (by first | (with_reducible assumption) | assumption)
          obtain ⟨ad147, e147, hx147_0⟩ := Kd.at_int (Kd.R_reads' HO_15.out).2.2 x17_1 p147 q147
          cases e147
          replace p147 := eq_true p147
          replace q147 := eq_true q147
          go_wp2
          go_ret
          exact ⟨by first | rfl | (simp [errW_none, errW_some] <;> rfl) | (simp [*, errW_none, errW_some] <;> rfl), by repeat (first | (with_reducible first | exact HB.out | apply below_alloc | apply pw_below_drewN | apply below_drew1 | refine below_set ?_ GE143.out) | exact HB.out)⟩
        · rw [if_neg c10] at H
          have c10b0 : decide ((rd y144 x17_1) < 0) = false := decide_eq_false c10
          clear c10
          by_cases c11 : (rd y144 x17_1) > 2147483647
          · rw [if_pos c11] at H
            have c11b0 : decide (2147483647 < (rd y144 x17_1)) = true := decide_eq_true c11
            clear c11
            obtain rfl := Option.some.inj H
            have p147 : 0 ≤ (x17_1 : Int) := of_decide_eq_true (by first | (with_reducible assumption) | assumption)
            have q147 : x17_1 < (y144.length : Int) := of_decide_eq_true (by first | (with_reducible assumption) | assumption)
            obtain ⟨ad147, e147, hx147_0⟩ := Kd.at_int (Kd.R_reads' HO_15.out).2.2 x17_1 p147 q147
            cases e147
            replace p147 := eq_true p147
            replace q147 := eq_true q147
            go_wp2
            go_ret
            exact ⟨by first | rfl | (simp [errW_none, errW_some] <;> rfl) | (simp [*, errW_none, errW_some] <;> rfl), by repeat (first | (with_reducible first | exact HB.out | apply below_alloc | apply pw_below_drewN | apply below_drew1 | refine below_set ?_ GE143.out) | exact HB.out)⟩
          · rw [if_neg c11] at H
            have c11b0 : decide (2147483647 < (rd y144 x17_1)) = false := decide_eq_false c11
            clear c11
            have H' := Aside0.mk H
            clear H
            have p147 : 0 ≤ (x17_1 : Int) := of_decide_eq_true (by first | (with_reducible assumption) | assumption)
            have q147 : x17_1 < (y144.length : Int) := of_decide_eq_true (by first | (with_reducible assumption) | assumption)
            obtain ⟨ad147, e147, hx147_0⟩ := Kd.at_int (Kd.R_reads' HO_15.out).2.2 x17_1 p147 q147
            cases e147
            replace p147 := eq_true p147
            replace q147 := eq_true q147
            go_wp2
            go_roundg k1
            case measure => have := HK1.out; omega
            case rel => exact ⟨(wrap64 (x17_1 + 1)), (by first | rfl | (simp; done) | (simp [*]; done)), H', ⟨by have := HK1.out; omega⟩, ⟨by (with_reducible repeat (first | apply Kd.R_alloc | apply Kd.R_drewN | apply Kd.R_drew)); exact HO_15.out⟩, ⟨by (with_reducible repeat (first | refine blk_drewN ?_ _ | refine blk_drew ?_ | refine blk_alloc ?_ _)); exact BK143.out⟩, ⟨by repeat (first | (with_reducible first | exact HB.out | apply below_alloc | apply pw_below_drewN | apply below_drew1 | refine below_set ?_ GE143.out) | exact HB.out)⟩⟩
      · rw [if_neg c7] at H
        have c7b0 : decide (x17_1 < (y144.length : Int)) = false := decide_eq_false c7
        clear c7
        have HC12 := Aside0.mk H
        clear H
        go_upto_region 7 with (fail)
        go_cut [76] (fun v76 wc => ∃ (kq : Nat) (x76_11 : Bool), v76 = .bool x76_11 ∧ Aside0 (spec_mountValid.j1 kq x76_11 a0_0 a0_1 a0_2 a0_3 a0_4 a0_5 a0_6 a0_7 a0_8 a0_9 a0_10 = some r) ∧ Aside0 (kq ≤ k1) ∧ Aside0 (wc.heap[gb143]? = some (.cells #[.int .i64 a0_0, .int .i64 a0_1, .int .i64 a0_2, .int .i64 a0_3, .string a0_4, .string a0_5, .string a0_6, .string a0_7, .string a0_8, .string a0_9, .string a0_10] 58 (0, 0))) ∧ Aside0 (Below w.heap.size w wc))
        case first =>
          have H := HC12.out
          clear HC12
          by_cases c13 : a0_4.toList = ([] : List UInt8)
          · rw [if_pos c13] at H
            have c13b0 : (a0_4.toList == ([] : List UInt8)) = true := beq_iff_eq.mpr c13
            have c13b1 : (a0_4.toList != ([] : List UInt8)) = false := bne_eq_false_iff_eq.mpr c13
            clear c13
            (first | rw [c13b0] | (simp only [i64_w, i32_w]; rw [c13b0]) | skip)
            have H' := Aside0.mk H
            clear H
            have hcz14_0 : wr.cell? ⟨gb143, 0, none⟩ = some (.int .i64 a0_0) := (blk_cell BK143.out 0).trans rfl
            have hcz14_1 : wr.cell? ⟨gb143, 1, none⟩ = some (.int .i64 a0_1) := (blk_cell BK143.out 1).trans rfl
            have hcz14_2 : wr.cell? ⟨gb143, 2, none⟩ = some (.int .i64 a0_2) := (blk_cell BK143.out 2).trans rfl
            have hcz14_3 : wr.cell? ⟨gb143, 3, none⟩ = some (.int .i64 a0_3) := (blk_cell BK143.out 3).trans rfl
            have hcz14_4 : wr.cell? ⟨gb143, 4, none⟩ = some (.string a0_4) := (blk_cell BK143.out 4).trans rfl
            have hcz14_5 : wr.cell? ⟨gb143, 5, none⟩ = some (.string a0_5) := (blk_cell BK143.out 5).trans rfl
            have hcz14_6 : wr.cell? ⟨gb143, 6, none⟩ = some (.string a0_6) := (blk_cell BK143.out 6).trans rfl
            have hcz14_7 : wr.cell? ⟨gb143, 7, none⟩ = some (.string a0_7) := (blk_cell BK143.out 7).trans rfl
            have hcz14_8 : wr.cell? ⟨gb143, 8, none⟩ = some (.string a0_8) := (blk_cell BK143.out 8).trans rfl
            have hcz14_9 : wr.cell? ⟨gb143, 9, none⟩ = some (.string a0_9) := (blk_cell BK143.out 9).trans rfl
            have hcz14_10 : wr.cell? ⟨gb143, 10, none⟩ = some (.string a0_10) := (blk_cell BK143.out 10).trans rfl
            have hfz14_0 := blk_frozen BK143.out 0
            have hfz14_1 := blk_frozen BK143.out 1
            have hfz14_2 := blk_frozen BK143.out 2
            have hfz14_3 := blk_frozen BK143.out 3
            have hfz14_4 := blk_frozen BK143.out 4
            have hfz14_5 := blk_frozen BK143.out 5
            have hfz14_6 := blk_frozen BK143.out 6
            have hfz14_7 := blk_frozen BK143.out 7
            have hfz14_8 := blk_frozen BK143.out 8
            have hfz14_9 := blk_frozen BK143.out 9
            have hfz14_10 := blk_frozen BK143.out 10
            go_wp2
            go_meet
            case rel => exact ⟨_, (true), (by first | rfl | (simp; done) | (simp [*]; done)), H', ⟨by have := HK1.out; first | omega | exact Nat.le_refl _⟩, ⟨by (with_reducible repeat (first | refine blk_drewN ?_ _ | refine blk_drew ?_ | refine blk_alloc ?_ _)); exact BK143.out⟩, ⟨by repeat (first | (with_reducible first | exact HB.out | apply below_alloc | apply pw_below_drewN | apply below_drew1 | refine below_set ?_ GE143.out) | exact HB.out)⟩⟩
          · rw [if_neg c13] at H
            have c13b0 : (a0_4.toList == ([] : List UInt8)) = false := beq_eq_false_iff_ne.mpr c13
            have c13b1 : (a0_4.toList != ([] : List UInt8)) = true := bne_iff_ne.mpr c13
            (first | rw [c13b0] | (simp only [i64_w, i32_w]; rw [c13b0]) | skip)
            by_cases c15 : a0_5.toList = ([] : List UInt8)
            · rw [if_pos c15] at H
              have c15b0 : (a0_5.toList == ([] : List UInt8)) = true := beq_iff_eq.mpr c15
              have c15b1 : (a0_5.toList != ([] : List UInt8)) = false := bne_eq_false_iff_eq.mpr c15
              clear c15
              have H' := Aside0.mk H
              clear H
              have hcz16_0 : wr.cell? ⟨gb143, 0, none⟩ = some (.int .i64 a0_0) := (blk_cell BK143.out 0).trans rfl
              have hcz16_1 : wr.cell? ⟨gb143, 1, none⟩ = some (.int .i64 a0_1) := (blk_cell BK143.out 1).trans rfl
              have hcz16_2 : wr.cell? ⟨gb143, 2, none⟩ = some (.int .i64 a0_2) := (blk_cell BK143.out 2).trans rfl
              have hcz16_3 : wr.cell? ⟨gb143, 3, none⟩ = some (.int .i64 a0_3) := (blk_cell BK143.out 3).trans rfl
              have hcz16_4 : wr.cell? ⟨gb143, 4, none⟩ = some (.string a0_4) := (blk_cell BK143.out 4).trans rfl
              have hcz16_5 : wr.cell? ⟨gb143, 5, none⟩ = some (.string a0_5) := (blk_cell BK143.out 5).trans rfl
              have hcz16_6 : wr.cell? ⟨gb143, 6, none⟩ = some (.string a0_6) := (blk_cell BK143.out 6).trans rfl
              have hcz16_7 : wr.cell? ⟨gb143, 7, none⟩ = some (.string a0_7) := (blk_cell BK143.out 7).trans rfl
              have hcz16_8 : wr.cell? ⟨gb143, 8, none⟩ = some (.string a0_8) := (blk_cell BK143.out 8).trans rfl
              have hcz16_9 : wr.cell? ⟨gb143, 9, none⟩ = some (.string a0_9) := (blk_cell BK143.out 9).trans rfl
              have hcz16_10 : wr.cell? ⟨gb143, 10, none⟩ = some (.string a0_10) := (blk_cell BK143.out 10).trans rfl
              have hfz16_0 := blk_frozen BK143.out 0
              have hfz16_1 := blk_frozen BK143.out 1
              have hfz16_2 := blk_frozen BK143.out 2
              have hfz16_3 := blk_frozen BK143.out 3
              have hfz16_4 := blk_frozen BK143.out 4
              have hfz16_5 := blk_frozen BK143.out 5
              have hfz16_6 := blk_frozen BK143.out 6
              have hfz16_7 := blk_frozen BK143.out 7
              have hfz16_8 := blk_frozen BK143.out 8
              have hfz16_9 := blk_frozen BK143.out 9
              have hfz16_10 := blk_frozen BK143.out 10
              go_wp2
              go_meet
              case rel => exact ⟨_, (true), (by first | rfl | (simp; done) | (simp [*]; done)), H', ⟨by have := HK1.out; first | omega | exact Nat.le_refl _⟩, ⟨by (with_reducible repeat (first | refine blk_drewN ?_ _ | refine blk_drew ?_ | refine blk_alloc ?_ _)); exact BK143.out⟩, ⟨by repeat (first | (with_reducible first | exact HB.out | apply below_alloc | apply pw_below_drewN | apply below_drew1 | refine below_set ?_ GE143.out) | exact HB.out)⟩⟩
            · rw [if_neg c15] at H
              have c15b0 : (a0_5.toList == ([] : List UInt8)) = false := beq_eq_false_iff_ne.mpr c15
              have c15b1 : (a0_5.toList != ([] : List UInt8)) = true := bne_iff_ne.mpr c15
              by_cases c17 : a0_9.toList = ([] : List UInt8)
              · rw [if_pos c17] at H
                have c17b0 : (a0_9.toList == ([] : List UInt8)) = true := beq_iff_eq.mpr c17
                have c17b1 : (a0_9.toList != ([] : List UInt8)) = false := bne_eq_false_iff_eq.mpr c17
                clear c17
                have H' := Aside0.mk H
                clear H
                have hcz18_0 : wr.cell? ⟨gb143, 0, none⟩ = some (.int .i64 a0_0) := (blk_cell BK143.out 0).trans rfl
                have hcz18_1 : wr.cell? ⟨gb143, 1, none⟩ = some (.int .i64 a0_1) := (blk_cell BK143.out 1).trans rfl
                have hcz18_2 : wr.cell? ⟨gb143, 2, none⟩ = some (.int .i64 a0_2) := (blk_cell BK143.out 2).trans rfl
                have hcz18_3 : wr.cell? ⟨gb143, 3, none⟩ = some (.int .i64 a0_3) := (blk_cell BK143.out 3).trans rfl
                have hcz18_4 : wr.cell? ⟨gb143, 4, none⟩ = some (.string a0_4) := (blk_cell BK143.out 4).trans rfl
                have hcz18_5 : wr.cell? ⟨gb143, 5, none⟩ = some (.string a0_5) := (blk_cell BK143.out 5).trans rfl
                have hcz18_6 : wr.cell? ⟨gb143, 6, none⟩ = some (.string a0_6) := (blk_cell BK143.out 6).trans rfl
                have hcz18_7 : wr.cell? ⟨gb143, 7, none⟩ = some (.string a0_7) := (blk_cell BK143.out 7).trans rfl
                have hcz18_8 : wr.cell? ⟨gb143, 8, none⟩ = some (.string a0_8) := (blk_cell BK143.out 8).trans rfl
                have hcz18_9 : wr.cell? ⟨gb143, 9, none⟩ = some (.string a0_9) := (blk_cell BK143.out 9).trans rfl
                have hcz18_10 : wr.cell? ⟨gb143, 10, none⟩ = some (.string a0_10) := (blk_cell BK143.out 10).trans rfl
                have hfz18_0 := blk_frozen BK143.out 0
                have hfz18_1 := blk_frozen BK143.out 1
                have hfz18_2 := blk_frozen BK143.out 2
                have hfz18_3 := blk_frozen BK143.out 3
                have hfz18_4 := blk_frozen BK143.out 4
                have hfz18_5 := blk_frozen BK143.out 5
                have hfz18_6 := blk_frozen BK143.out 6
                have hfz18_7 := blk_frozen BK143.out 7
                have hfz18_8 := blk_frozen BK143.out 8
                have hfz18_9 := blk_frozen BK143.out 9
                have hfz18_10 := blk_frozen BK143.out 10
                go_wp2
                go_meet
                case rel => exact ⟨_, (true), (by first | rfl | (simp; done) | (simp [*]; done)), H', ⟨by have := HK1.out; first | omega | exact Nat.le_refl _⟩, ⟨by (with_reducible repeat (first | refine blk_drewN ?_ _ | refine blk_drew ?_ | refine blk_alloc ?_ _)); exact BK143.out⟩, ⟨by repeat (first | (with_reducible first | exact HB.out | apply below_alloc | apply pw_below_drewN | apply below_drew1 | refine below_set ?_ GE143.out) | exact HB.out)⟩⟩
              · rw [if_neg c17] at H
                have c17b0 : (a0_9.toList == ([] : List UInt8)) = false := beq_eq_false_iff_ne.mpr c17
                have c17b1 : (a0_9.toList != ([] : List UInt8)) = true := bne_iff_ne.mpr c17
                replace H := Option.bind_eq_some_iff.mp H
                obtain ⟨t148, A190, H⟩ := H
                try dsimp -simprocs only at H
                have A19 := Aside0.mk A190
                clear A190
                by_cases c20 : t148 = true
                · subst c20
                  have H1 : ((spec_printable.f k1 a0_5 true).bind fun t149 => (if t149 = true then ((spec_printable.f k1 a0_9 true).bind fun t150 => (if t150 = true then ((spec_word.f k1 a0_6).bind fun t151 => (if t151 = true then ((spec_word.f k1 a0_8).bind fun t152 => (if t152 = true then ((spec_word.f k1 a0_10).bind fun t153 => (spec_mountValid.j1 k1 (!t153) a0_0 a0_1 a0_2 a0_3 a0_4 a0_5 a0_6 a0_7 a0_8 a0_9 a0_10)) else (spec_mountValid.j1 k1 true a0_0 a0_1 a0_2 a0_3 a0_4 a0_5 a0_6 a0_7 a0_8 a0_9 a0_10))) else (spec_mountValid.j1 k1 true a0_0 a0_1 a0_2 a0_3 a0_4 a0_5 a0_6 a0_7 a0_8 a0_9 a0_10))) else (spec_mountValid.j1 k1 true a0_0 a0_1 a0_2 a0_3 a0_4 a0_5 a0_6 a0_7 a0_8 a0_9 a0_10))) else (spec_mountValid.j1 k1 true a0_0 a0_1 a0_2 a0_3 a0_4 a0_5 a0_6 a0_7 a0_8 a0_9 a0_10))) = some r := by rw [if_pos rfl] at H; exact H
                  clear H
                  have H := H1
                  clear H1
                  replace H := Option.bind_eq_some_iff.mp H
                  obtain ⟨t149, A210, H⟩ := H
                  try dsimp -simprocs only at H
                  have A21 := Aside0.mk A210
                  clear A210
                  by_cases c22 : t149 = true
                  · subst c22
                    have H1 : ((spec_printable.f k1 a0_9 true).bind fun t150 => (if t150 = true then ((spec_word.f k1 a0_6).bind fun t151 => (if t151 = true then ((spec_word.f k1 a0_8).bind fun t152 => (if t152 = true then ((spec_word.f k1 a0_10).bind fun t153 => (spec_mountValid.j1 k1 (!t153) a0_0 a0_1 a0_2 a0_3 a0_4 a0_5 a0_6 a0_7 a0_8 a0_9 a0_10)) else (spec_mountValid.j1 k1 true a0_0 a0_1 a0_2 a0_3 a0_4 a0_5 a0_6 a0_7 a0_8 a0_9 a0_10))) else (spec_mountValid.j1 k1 true a0_0 a0_1 a0_2 a0_3 a0_4 a0_5 a0_6 a0_7 a0_8 a0_9 a0_10))) else (spec_mountValid.j1 k1 true a0_0 a0_1 a0_2 a0_3 a0_4 a0_5 a0_6 a0_7 a0_8 a0_9 a0_10))) = some r := by rw [if_pos rfl] at H; exact H
                    clear H
                    have H := H1
                    clear H1
                    replace H := Option.bind_eq_some_iff.mp H
                    obtain ⟨t150, A230, H⟩ := H
                    try dsimp -simprocs only at H
                    have A23 := Aside0.mk A230
                    clear A230
                    by_cases c24 : t150 = true
                    · subst c24
                      have H1 : ((spec_word.f k1 a0_6).bind fun t151 => (if t151 = true then ((spec_word.f k1 a0_8).bind fun t152 => (if t152 = true then ((spec_word.f k1 a0_10).bind fun t153 => (spec_mountValid.j1 k1 (!t153) a0_0 a0_1 a0_2 a0_3 a0_4 a0_5 a0_6 a0_7 a0_8 a0_9 a0_10)) else (spec_mountValid.j1 k1 true a0_0 a0_1 a0_2 a0_3 a0_4 a0_5 a0_6 a0_7 a0_8 a0_9 a0_10))) else (spec_mountValid.j1 k1 true a0_0 a0_1 a0_2 a0_3 a0_4 a0_5 a0_6 a0_7 a0_8 a0_9 a0_10))) = some r := by rw [if_pos rfl] at H; exact H
                      clear H
                      have H := H1
                      clear H1
                      replace H := Option.bind_eq_some_iff.mp H
                      obtain ⟨t151, A250, H⟩ := H
                      try dsimp -simprocs only at H
                      have A25 := Aside0.mk A250
                      clear A250
                      by_cases c26 : t151 = true
                      · subst c26
                        have H1 : ((spec_word.f k1 a0_8).bind fun t152 => (if t152 = true then ((spec_word.f k1 a0_10).bind fun t153 => (spec_mountValid.j1 k1 (!t153) a0_0 a0_1 a0_2 a0_3 a0_4 a0_5 a0_6 a0_7 a0_8 a0_9 a0_10)) else (spec_mountValid.j1 k1 true a0_0 a0_1 a0_2 a0_3 a0_4 a0_5 a0_6 a0_7 a0_8 a0_9 a0_10))) = some r := by rw [if_pos rfl] at H; exact H
                        clear H
                        have H := H1
                        clear H1
                        replace H := Option.bind_eq_some_iff.mp H
                        obtain ⟨t152, A270, H⟩ := H
                        try dsimp -simprocs only at H
                        have A27 := Aside0.mk A270
                        clear A270
                        by_cases c28 : t152 = true
                        · subst c28
                          have H1 : ((spec_word.f k1 a0_10).bind fun t153 => (spec_mountValid.j1 k1 (!t153) a0_0 a0_1 a0_2 a0_3 a0_4 a0_5 a0_6 a0_7 a0_8 a0_9 a0_10)) = some r := by rw [if_pos rfl] at H; exact H
                          clear H
                          have H := H1
                          clear H1
                          replace H := Option.bind_eq_some_iff.mp H
                          obtain ⟨t153, A290, H⟩ := H
                          replace H : (spec_mountValid.j1 k1 (!t153) a0_0 a0_1 a0_2 a0_3 a0_4 a0_5 a0_6 a0_7 a0_8 a0_9 a0_10) = some r := H
                          have A29 := Aside0.mk A290
                          clear A290
                          have H' := Aside0.mk H
                          clear H
                          have hcz30_0 : wr.cell? ⟨gb143, 0, none⟩ = some (.int .i64 a0_0) := (blk_cell BK143.out 0).trans rfl
                          have hcz30_1 : wr.cell? ⟨gb143, 1, none⟩ = some (.int .i64 a0_1) := (blk_cell BK143.out 1).trans rfl
                          have hcz30_2 : wr.cell? ⟨gb143, 2, none⟩ = some (.int .i64 a0_2) := (blk_cell BK143.out 2).trans rfl
                          have hcz30_3 : wr.cell? ⟨gb143, 3, none⟩ = some (.int .i64 a0_3) := (blk_cell BK143.out 3).trans rfl
                          have hcz30_4 : wr.cell? ⟨gb143, 4, none⟩ = some (.string a0_4) := (blk_cell BK143.out 4).trans rfl
                          have hcz30_5 : wr.cell? ⟨gb143, 5, none⟩ = some (.string a0_5) := (blk_cell BK143.out 5).trans rfl
                          have hcz30_6 : wr.cell? ⟨gb143, 6, none⟩ = some (.string a0_6) := (blk_cell BK143.out 6).trans rfl
                          have hcz30_7 : wr.cell? ⟨gb143, 7, none⟩ = some (.string a0_7) := (blk_cell BK143.out 7).trans rfl
                          have hcz30_8 : wr.cell? ⟨gb143, 8, none⟩ = some (.string a0_8) := (blk_cell BK143.out 8).trans rfl
                          have hcz30_9 : wr.cell? ⟨gb143, 9, none⟩ = some (.string a0_9) := (blk_cell BK143.out 9).trans rfl
                          have hcz30_10 : wr.cell? ⟨gb143, 10, none⟩ = some (.string a0_10) := (blk_cell BK143.out 10).trans rfl
                          have hfz30_0 := blk_frozen BK143.out 0
                          have hfz30_1 := blk_frozen BK143.out 1
                          have hfz30_2 := blk_frozen BK143.out 2
                          have hfz30_3 := blk_frozen BK143.out 3
                          have hfz30_4 := blk_frozen BK143.out 4
                          have hfz30_5 := blk_frozen BK143.out 5
                          have hfz30_6 := blk_frozen BK143.out 6
                          have hfz30_7 := blk_frozen BK143.out 7
                          have hfz30_8 := blk_frozen BK143.out 8
                          have hfz30_9 := blk_frozen BK143.out 9
                          have hfz30_10 := blk_frozen BK143.out 10
                          go_wp2_with (first | (go_at_call 44; (with_reducible refine (spec_printable.calls k1 a0_4 true true _ A19.out).mono ?_); rintro e w' ⟨rfl, ⟨nd, rfl⟩⟩) | (go_at_call 44; (with_reducible refine (spec_printable.calls k1 a0_5 true true _ A21.out).mono ?_); rintro e w' ⟨rfl, ⟨nd, rfl⟩⟩) | (go_at_call 44; (with_reducible refine (spec_printable.calls k1 a0_9 true true _ A23.out).mono ?_); rintro e w' ⟨rfl, ⟨nd, rfl⟩⟩) | (go_at_call 45; (with_reducible refine (spec_word.calls k1 a0_6 true _ A25.out).mono ?_); rintro e w' ⟨rfl, ⟨nd, rfl⟩⟩) | (go_at_call 45; (with_reducible refine (spec_word.calls k1 a0_8 true _ A27.out).mono ?_); rintro e w' ⟨rfl, ⟨nd, rfl⟩⟩) | (go_at_call 45; (with_reducible refine (spec_word.calls k1 a0_10 t153 _ A29.out).mono ?_); rintro e w' ⟨rfl, ⟨nd, rfl⟩⟩))
                          go_meet
                          case rel => exact ⟨_, (!t153), (by first | rfl | (simp; done) | (simp [*]; done)), H', ⟨by have := HK1.out; first | omega | exact Nat.le_refl _⟩, ⟨by (with_reducible repeat (first | refine blk_drewN ?_ _ | refine blk_drew ?_ | refine blk_alloc ?_ _)); exact BK143.out⟩, ⟨by repeat (first | (with_reducible first | exact HB.out | apply below_alloc | apply pw_below_drewN | apply below_drew1 | refine below_set ?_ GE143.out) | exact HB.out)⟩⟩
                        · replace c28 := Bool.eq_false_iff.mpr c28
                          subst c28
                          have H1 : (spec_mountValid.j1 k1 true a0_0 a0_1 a0_2 a0_3 a0_4 a0_5 a0_6 a0_7 a0_8 a0_9 a0_10) = some r := by rw [if_neg (show ¬ (false = true) by decide)] at H; exact H
                          clear H
                          have H := H1
                          clear H1
                          have H' := Aside0.mk H
                          clear H
                          have hcz31_0 : wr.cell? ⟨gb143, 0, none⟩ = some (.int .i64 a0_0) := (blk_cell BK143.out 0).trans rfl
                          have hcz31_1 : wr.cell? ⟨gb143, 1, none⟩ = some (.int .i64 a0_1) := (blk_cell BK143.out 1).trans rfl
                          have hcz31_2 : wr.cell? ⟨gb143, 2, none⟩ = some (.int .i64 a0_2) := (blk_cell BK143.out 2).trans rfl
                          have hcz31_3 : wr.cell? ⟨gb143, 3, none⟩ = some (.int .i64 a0_3) := (blk_cell BK143.out 3).trans rfl
                          have hcz31_4 : wr.cell? ⟨gb143, 4, none⟩ = some (.string a0_4) := (blk_cell BK143.out 4).trans rfl
                          have hcz31_5 : wr.cell? ⟨gb143, 5, none⟩ = some (.string a0_5) := (blk_cell BK143.out 5).trans rfl
                          have hcz31_6 : wr.cell? ⟨gb143, 6, none⟩ = some (.string a0_6) := (blk_cell BK143.out 6).trans rfl
                          have hcz31_7 : wr.cell? ⟨gb143, 7, none⟩ = some (.string a0_7) := (blk_cell BK143.out 7).trans rfl
                          have hcz31_8 : wr.cell? ⟨gb143, 8, none⟩ = some (.string a0_8) := (blk_cell BK143.out 8).trans rfl
                          have hcz31_9 : wr.cell? ⟨gb143, 9, none⟩ = some (.string a0_9) := (blk_cell BK143.out 9).trans rfl
                          have hcz31_10 : wr.cell? ⟨gb143, 10, none⟩ = some (.string a0_10) := (blk_cell BK143.out 10).trans rfl
                          have hfz31_0 := blk_frozen BK143.out 0
                          have hfz31_1 := blk_frozen BK143.out 1
                          have hfz31_2 := blk_frozen BK143.out 2
                          have hfz31_3 := blk_frozen BK143.out 3
                          have hfz31_4 := blk_frozen BK143.out 4
                          have hfz31_5 := blk_frozen BK143.out 5
                          have hfz31_6 := blk_frozen BK143.out 6
                          have hfz31_7 := blk_frozen BK143.out 7
                          have hfz31_8 := blk_frozen BK143.out 8
                          have hfz31_9 := blk_frozen BK143.out 9
                          have hfz31_10 := blk_frozen BK143.out 10
                          go_wp2_with (first | (go_at_call 44; (with_reducible refine (spec_printable.calls k1 a0_4 true true _ A19.out).mono ?_); rintro e w' ⟨rfl, ⟨nd, rfl⟩⟩) | (go_at_call 44; (with_reducible refine (spec_printable.calls k1 a0_5 true true _ A21.out).mono ?_); rintro e w' ⟨rfl, ⟨nd, rfl⟩⟩) | (go_at_call 44; (with_reducible refine (spec_printable.calls k1 a0_9 true true _ A23.out).mono ?_); rintro e w' ⟨rfl, ⟨nd, rfl⟩⟩) | (go_at_call 45; (with_reducible refine (spec_word.calls k1 a0_6 true _ A25.out).mono ?_); rintro e w' ⟨rfl, ⟨nd, rfl⟩⟩) | (go_at_call 45; (with_reducible refine (spec_word.calls k1 a0_8 false _ A27.out).mono ?_); rintro e w' ⟨rfl, ⟨nd, rfl⟩⟩))
                          go_meet
                          case rel => exact ⟨_, (true), (by first | rfl | (simp; done) | (simp [*]; done)), H', ⟨by have := HK1.out; first | omega | exact Nat.le_refl _⟩, ⟨by (with_reducible repeat (first | refine blk_drewN ?_ _ | refine blk_drew ?_ | refine blk_alloc ?_ _)); exact BK143.out⟩, ⟨by repeat (first | (with_reducible first | exact HB.out | apply below_alloc | apply pw_below_drewN | apply below_drew1 | refine below_set ?_ GE143.out) | exact HB.out)⟩⟩
                      · replace c26 := Bool.eq_false_iff.mpr c26
                        subst c26
                        have H1 : (spec_mountValid.j1 k1 true a0_0 a0_1 a0_2 a0_3 a0_4 a0_5 a0_6 a0_7 a0_8 a0_9 a0_10) = some r := by rw [if_neg (show ¬ (false = true) by decide)] at H; exact H
                        clear H
                        have H := H1
                        clear H1
                        have H' := Aside0.mk H
                        clear H
                        have hcz32_0 : wr.cell? ⟨gb143, 0, none⟩ = some (.int .i64 a0_0) := (blk_cell BK143.out 0).trans rfl
                        have hcz32_1 : wr.cell? ⟨gb143, 1, none⟩ = some (.int .i64 a0_1) := (blk_cell BK143.out 1).trans rfl
                        have hcz32_2 : wr.cell? ⟨gb143, 2, none⟩ = some (.int .i64 a0_2) := (blk_cell BK143.out 2).trans rfl
                        have hcz32_3 : wr.cell? ⟨gb143, 3, none⟩ = some (.int .i64 a0_3) := (blk_cell BK143.out 3).trans rfl
                        have hcz32_4 : wr.cell? ⟨gb143, 4, none⟩ = some (.string a0_4) := (blk_cell BK143.out 4).trans rfl
                        have hcz32_5 : wr.cell? ⟨gb143, 5, none⟩ = some (.string a0_5) := (blk_cell BK143.out 5).trans rfl
                        have hcz32_6 : wr.cell? ⟨gb143, 6, none⟩ = some (.string a0_6) := (blk_cell BK143.out 6).trans rfl
                        have hcz32_7 : wr.cell? ⟨gb143, 7, none⟩ = some (.string a0_7) := (blk_cell BK143.out 7).trans rfl
                        have hcz32_8 : wr.cell? ⟨gb143, 8, none⟩ = some (.string a0_8) := (blk_cell BK143.out 8).trans rfl
                        have hcz32_9 : wr.cell? ⟨gb143, 9, none⟩ = some (.string a0_9) := (blk_cell BK143.out 9).trans rfl
                        have hcz32_10 : wr.cell? ⟨gb143, 10, none⟩ = some (.string a0_10) := (blk_cell BK143.out 10).trans rfl
                        have hfz32_0 := blk_frozen BK143.out 0
                        have hfz32_1 := blk_frozen BK143.out 1
                        have hfz32_2 := blk_frozen BK143.out 2
                        have hfz32_3 := blk_frozen BK143.out 3
                        have hfz32_4 := blk_frozen BK143.out 4
                        have hfz32_5 := blk_frozen BK143.out 5
                        have hfz32_6 := blk_frozen BK143.out 6
                        have hfz32_7 := blk_frozen BK143.out 7
                        have hfz32_8 := blk_frozen BK143.out 8
                        have hfz32_9 := blk_frozen BK143.out 9
                        have hfz32_10 := blk_frozen BK143.out 10
                        go_wp2_with (first | (go_at_call 44; (with_reducible refine (spec_printable.calls k1 a0_4 true true _ A19.out).mono ?_); rintro e w' ⟨rfl, ⟨nd, rfl⟩⟩) | (go_at_call 44; (with_reducible refine (spec_printable.calls k1 a0_5 true true _ A21.out).mono ?_); rintro e w' ⟨rfl, ⟨nd, rfl⟩⟩) | (go_at_call 44; (with_reducible refine (spec_printable.calls k1 a0_9 true true _ A23.out).mono ?_); rintro e w' ⟨rfl, ⟨nd, rfl⟩⟩) | (go_at_call 45; (with_reducible refine (spec_word.calls k1 a0_6 false _ A25.out).mono ?_); rintro e w' ⟨rfl, ⟨nd, rfl⟩⟩))
                        go_meet
                        case rel => exact ⟨_, (true), (by first | rfl | (simp; done) | (simp [*]; done)), H', ⟨by have := HK1.out; first | omega | exact Nat.le_refl _⟩, ⟨by (with_reducible repeat (first | refine blk_drewN ?_ _ | refine blk_drew ?_ | refine blk_alloc ?_ _)); exact BK143.out⟩, ⟨by repeat (first | (with_reducible first | exact HB.out | apply below_alloc | apply pw_below_drewN | apply below_drew1 | refine below_set ?_ GE143.out) | exact HB.out)⟩⟩
                    · replace c24 := Bool.eq_false_iff.mpr c24
                      subst c24
                      have H1 : (spec_mountValid.j1 k1 true a0_0 a0_1 a0_2 a0_3 a0_4 a0_5 a0_6 a0_7 a0_8 a0_9 a0_10) = some r := by rw [if_neg (show ¬ (false = true) by decide)] at H; exact H
                      clear H
                      have H := H1
                      clear H1
                      have H' := Aside0.mk H
                      clear H
                      have hcz33_0 : wr.cell? ⟨gb143, 0, none⟩ = some (.int .i64 a0_0) := (blk_cell BK143.out 0).trans rfl
                      have hcz33_1 : wr.cell? ⟨gb143, 1, none⟩ = some (.int .i64 a0_1) := (blk_cell BK143.out 1).trans rfl
                      have hcz33_2 : wr.cell? ⟨gb143, 2, none⟩ = some (.int .i64 a0_2) := (blk_cell BK143.out 2).trans rfl
                      have hcz33_3 : wr.cell? ⟨gb143, 3, none⟩ = some (.int .i64 a0_3) := (blk_cell BK143.out 3).trans rfl
                      have hcz33_4 : wr.cell? ⟨gb143, 4, none⟩ = some (.string a0_4) := (blk_cell BK143.out 4).trans rfl
                      have hcz33_5 : wr.cell? ⟨gb143, 5, none⟩ = some (.string a0_5) := (blk_cell BK143.out 5).trans rfl
                      have hcz33_6 : wr.cell? ⟨gb143, 6, none⟩ = some (.string a0_6) := (blk_cell BK143.out 6).trans rfl
                      have hcz33_7 : wr.cell? ⟨gb143, 7, none⟩ = some (.string a0_7) := (blk_cell BK143.out 7).trans rfl
                      have hcz33_8 : wr.cell? ⟨gb143, 8, none⟩ = some (.string a0_8) := (blk_cell BK143.out 8).trans rfl
                      have hcz33_9 : wr.cell? ⟨gb143, 9, none⟩ = some (.string a0_9) := (blk_cell BK143.out 9).trans rfl
                      have hcz33_10 : wr.cell? ⟨gb143, 10, none⟩ = some (.string a0_10) := (blk_cell BK143.out 10).trans rfl
                      have hfz33_0 := blk_frozen BK143.out 0
                      have hfz33_1 := blk_frozen BK143.out 1
                      have hfz33_2 := blk_frozen BK143.out 2
                      have hfz33_3 := blk_frozen BK143.out 3
                      have hfz33_4 := blk_frozen BK143.out 4
                      have hfz33_5 := blk_frozen BK143.out 5
                      have hfz33_6 := blk_frozen BK143.out 6
                      have hfz33_7 := blk_frozen BK143.out 7
                      have hfz33_8 := blk_frozen BK143.out 8
                      have hfz33_9 := blk_frozen BK143.out 9
                      have hfz33_10 := blk_frozen BK143.out 10
                      go_wp2_with (first | (go_at_call 44; (with_reducible refine (spec_printable.calls k1 a0_4 true true _ A19.out).mono ?_); rintro e w' ⟨rfl, ⟨nd, rfl⟩⟩) | (go_at_call 44; (with_reducible refine (spec_printable.calls k1 a0_5 true true _ A21.out).mono ?_); rintro e w' ⟨rfl, ⟨nd, rfl⟩⟩) | (go_at_call 44; (with_reducible refine (spec_printable.calls k1 a0_9 true false _ A23.out).mono ?_); rintro e w' ⟨rfl, ⟨nd, rfl⟩⟩))
                      go_meet
                      case rel => exact ⟨_, (true), (by first | rfl | (simp; done) | (simp [*]; done)), H', ⟨by have := HK1.out; first | omega | exact Nat.le_refl _⟩, ⟨by (with_reducible repeat (first | refine blk_drewN ?_ _ | refine blk_drew ?_ | refine blk_alloc ?_ _)); exact BK143.out⟩, ⟨by repeat (first | (with_reducible first | exact HB.out | apply below_alloc | apply pw_below_drewN | apply below_drew1 | refine below_set ?_ GE143.out) | exact HB.out)⟩⟩
                  · replace c22 := Bool.eq_false_iff.mpr c22
                    subst c22
                    have H1 : (spec_mountValid.j1 k1 true a0_0 a0_1 a0_2 a0_3 a0_4 a0_5 a0_6 a0_7 a0_8 a0_9 a0_10) = some r := by rw [if_neg (show ¬ (false = true) by decide)] at H; exact H
                    clear H
                    have H := H1
                    clear H1
                    have H' := Aside0.mk H
                    clear H
                    have hcz34_0 : wr.cell? ⟨gb143, 0, none⟩ = some (.int .i64 a0_0) := (blk_cell BK143.out 0).trans rfl
                    have hcz34_1 : wr.cell? ⟨gb143, 1, none⟩ = some (.int .i64 a0_1) := (blk_cell BK143.out 1).trans rfl
                    have hcz34_2 : wr.cell? ⟨gb143, 2, none⟩ = some (.int .i64 a0_2) := (blk_cell BK143.out 2).trans rfl
                    have hcz34_3 : wr.cell? ⟨gb143, 3, none⟩ = some (.int .i64 a0_3) := (blk_cell BK143.out 3).trans rfl
                    have hcz34_4 : wr.cell? ⟨gb143, 4, none⟩ = some (.string a0_4) := (blk_cell BK143.out 4).trans rfl
                    have hcz34_5 : wr.cell? ⟨gb143, 5, none⟩ = some (.string a0_5) := (blk_cell BK143.out 5).trans rfl
                    have hcz34_6 : wr.cell? ⟨gb143, 6, none⟩ = some (.string a0_6) := (blk_cell BK143.out 6).trans rfl
                    have hcz34_7 : wr.cell? ⟨gb143, 7, none⟩ = some (.string a0_7) := (blk_cell BK143.out 7).trans rfl
                    have hcz34_8 : wr.cell? ⟨gb143, 8, none⟩ = some (.string a0_8) := (blk_cell BK143.out 8).trans rfl
                    have hcz34_9 : wr.cell? ⟨gb143, 9, none⟩ = some (.string a0_9) := (blk_cell BK143.out 9).trans rfl
                    have hcz34_10 : wr.cell? ⟨gb143, 10, none⟩ = some (.string a0_10) := (blk_cell BK143.out 10).trans rfl
                    have hfz34_0 := blk_frozen BK143.out 0
                    have hfz34_1 := blk_frozen BK143.out 1
                    have hfz34_2 := blk_frozen BK143.out 2
                    have hfz34_3 := blk_frozen BK143.out 3
                    have hfz34_4 := blk_frozen BK143.out 4
                    have hfz34_5 := blk_frozen BK143.out 5
                    have hfz34_6 := blk_frozen BK143.out 6
                    have hfz34_7 := blk_frozen BK143.out 7
                    have hfz34_8 := blk_frozen BK143.out 8
                    have hfz34_9 := blk_frozen BK143.out 9
                    have hfz34_10 := blk_frozen BK143.out 10
                    go_wp2_with (first | (go_at_call 44; (with_reducible refine (spec_printable.calls k1 a0_4 true true _ A19.out).mono ?_); rintro e w' ⟨rfl, ⟨nd, rfl⟩⟩) | (go_at_call 44; (with_reducible refine (spec_printable.calls k1 a0_5 true false _ A21.out).mono ?_); rintro e w' ⟨rfl, ⟨nd, rfl⟩⟩))
                    go_meet
                    case rel => exact ⟨_, (true), (by first | rfl | (simp; done) | (simp [*]; done)), H', ⟨by have := HK1.out; first | omega | exact Nat.le_refl _⟩, ⟨by (with_reducible repeat (first | refine blk_drewN ?_ _ | refine blk_drew ?_ | refine blk_alloc ?_ _)); exact BK143.out⟩, ⟨by repeat (first | (with_reducible first | exact HB.out | apply below_alloc | apply pw_below_drewN | apply below_drew1 | refine below_set ?_ GE143.out) | exact HB.out)⟩⟩
                · replace c20 := Bool.eq_false_iff.mpr c20
                  subst c20
                  have H1 : (spec_mountValid.j1 k1 true a0_0 a0_1 a0_2 a0_3 a0_4 a0_5 a0_6 a0_7 a0_8 a0_9 a0_10) = some r := by rw [if_neg (show ¬ (false = true) by decide)] at H; exact H
                  clear H
                  have H := H1
                  clear H1
                  have H' := Aside0.mk H
                  clear H
                  have hcz35_0 : wr.cell? ⟨gb143, 0, none⟩ = some (.int .i64 a0_0) := (blk_cell BK143.out 0).trans rfl
                  have hcz35_1 : wr.cell? ⟨gb143, 1, none⟩ = some (.int .i64 a0_1) := (blk_cell BK143.out 1).trans rfl
                  have hcz35_2 : wr.cell? ⟨gb143, 2, none⟩ = some (.int .i64 a0_2) := (blk_cell BK143.out 2).trans rfl
                  have hcz35_3 : wr.cell? ⟨gb143, 3, none⟩ = some (.int .i64 a0_3) := (blk_cell BK143.out 3).trans rfl
                  have hcz35_4 : wr.cell? ⟨gb143, 4, none⟩ = some (.string a0_4) := (blk_cell BK143.out 4).trans rfl
                  have hcz35_5 : wr.cell? ⟨gb143, 5, none⟩ = some (.string a0_5) := (blk_cell BK143.out 5).trans rfl
                  have hcz35_6 : wr.cell? ⟨gb143, 6, none⟩ = some (.string a0_6) := (blk_cell BK143.out 6).trans rfl
                  have hcz35_7 : wr.cell? ⟨gb143, 7, none⟩ = some (.string a0_7) := (blk_cell BK143.out 7).trans rfl
                  have hcz35_8 : wr.cell? ⟨gb143, 8, none⟩ = some (.string a0_8) := (blk_cell BK143.out 8).trans rfl
                  have hcz35_9 : wr.cell? ⟨gb143, 9, none⟩ = some (.string a0_9) := (blk_cell BK143.out 9).trans rfl
                  have hcz35_10 : wr.cell? ⟨gb143, 10, none⟩ = some (.string a0_10) := (blk_cell BK143.out 10).trans rfl
                  have hfz35_0 := blk_frozen BK143.out 0
                  have hfz35_1 := blk_frozen BK143.out 1
                  have hfz35_2 := blk_frozen BK143.out 2
                  have hfz35_3 := blk_frozen BK143.out 3
                  have hfz35_4 := blk_frozen BK143.out 4
                  have hfz35_5 := blk_frozen BK143.out 5
                  have hfz35_6 := blk_frozen BK143.out 6
                  have hfz35_7 := blk_frozen BK143.out 7
                  have hfz35_8 := blk_frozen BK143.out 8
                  have hfz35_9 := blk_frozen BK143.out 9
                  have hfz35_10 := blk_frozen BK143.out 10
                  go_wp2_with (first | (go_at_call 44; (with_reducible refine (spec_printable.calls k1 a0_4 true false _ A19.out).mono ?_); rintro e w' ⟨rfl, ⟨nd, rfl⟩⟩))
                  go_meet
                  case rel => exact ⟨_, (true), (by first | rfl | (simp; done) | (simp [*]; done)), H', ⟨by have := HK1.out; first | omega | exact Nat.le_refl _⟩, ⟨by (with_reducible repeat (first | refine blk_drewN ?_ _ | refine blk_drew ?_ | refine blk_alloc ?_ _)); exact BK143.out⟩, ⟨by repeat (first | (with_reducible first | exact HB.out | apply below_alloc | apply pw_below_drewN | apply below_drew1 | refine below_set ?_ GE143.out) | exact HB.out)⟩⟩
        case rest =>
          clear HC12
          try clear c1
          try clear p1
          try clear q1
          try clear hx1
          try clear c2
          try clear p2
          try clear p6
          try clear c7
          try clear c7b0
          try clear c8
          try clear c8b0
          try clear c9
          try clear c9b0
          try clear c10
          try clear c10b0
          try clear c11
          try clear c11b0
          try clear c13
          try clear c13b0
          try clear c13b1
          try clear p14
          try clear q14
          try clear hx14
          try clear c15
          try clear c15b0
          try clear c15b1
          try clear c17
          try clear c17b0
          try clear c17b1
          try clear c20
          try clear c22
          try clear c24
          try clear c26
          try clear c28
          try clear hcz14_0
          try clear hcz14_1
          try clear hcz14_10
          try clear hcz14_2
          try clear hcz14_3
          try clear hcz14_4
          try clear hcz14_5
          try clear hcz14_6
          try clear hcz14_7
          try clear hcz14_8
          try clear hcz14_9
          try clear hcz16_0
          try clear hcz16_1
          try clear hcz16_10
          try clear hcz16_2
          try clear hcz16_3
          try clear hcz16_4
          try clear hcz16_5
          try clear hcz16_6
          try clear hcz16_7
          try clear hcz16_8
          try clear hcz16_9
          try clear hcz18_0
          try clear hcz18_1
          try clear hcz18_10
          try clear hcz18_2
          try clear hcz18_3
          try clear hcz18_4
          try clear hcz18_5
          try clear hcz18_6
          try clear hcz18_7
          try clear hcz18_8
          try clear hcz18_9
          try clear hcz30_0
          try clear hcz30_1
          try clear hcz30_10
          try clear hcz30_2
          try clear hcz30_3
          try clear hcz30_4
          try clear hcz30_5
          try clear hcz30_6
          try clear hcz30_7
          try clear hcz30_8
          try clear hcz30_9
          try clear hcz31_0
          try clear hcz31_1
          try clear hcz31_10
          try clear hcz31_2
          try clear hcz31_3
          try clear hcz31_4
          try clear hcz31_5
          try clear hcz31_6
          try clear hcz31_7
          try clear hcz31_8
          try clear hcz31_9
          try clear hcz32_0
          try clear hcz32_1
          try clear hcz32_10
          try clear hcz32_2
          try clear hcz32_3
          try clear hcz32_4
          try clear hcz32_5
          try clear hcz32_6
          try clear hcz32_7
          try clear hcz32_8
          try clear hcz32_9
          try clear hcz33_0
          try clear hcz33_1
          try clear hcz33_10
          try clear hcz33_2
          try clear hcz33_3
          try clear hcz33_4
          try clear hcz33_5
          try clear hcz33_6
          try clear hcz33_7
          try clear hcz33_8
          try clear hcz33_9
          try clear hcz34_0
          try clear hcz34_1
          try clear hcz34_10
          try clear hcz34_2
          try clear hcz34_3
          try clear hcz34_4
          try clear hcz34_5
          try clear hcz34_6
          try clear hcz34_7
          try clear hcz34_8
          try clear hcz34_9
          try clear hcz35_0
          try clear hcz35_1
          try clear hcz35_10
          try clear hcz35_2
          try clear hcz35_3
          try clear hcz35_4
          try clear hcz35_5
          try clear hcz35_6
          try clear hcz35_7
          try clear hcz35_8
          try clear hcz35_9
          try clear hcz3_0
          try clear hcz3_1
          try clear hcz3_10
          try clear hcz3_2
          try clear hcz3_3
          try clear hcz3_4
          try clear hcz3_5
          try clear hcz3_6
          try clear hcz3_7
          try clear hcz3_8
          try clear hcz3_9
          try clear hfz14_0
          try clear hfz14_1
          try clear hfz14_10
          try clear hfz14_2
          try clear hfz14_3
          try clear hfz14_4
          try clear hfz14_5
          try clear hfz14_6
          try clear hfz14_7
          try clear hfz14_8
          try clear hfz14_9
          try clear hfz16_0
          try clear hfz16_1
          try clear hfz16_10
          try clear hfz16_2
          try clear hfz16_3
          try clear hfz16_4
          try clear hfz16_5
          try clear hfz16_6
          try clear hfz16_7
          try clear hfz16_8
          try clear hfz16_9
          try clear hfz18_0
          try clear hfz18_1
          try clear hfz18_10
          try clear hfz18_2
          try clear hfz18_3
          try clear hfz18_4
          try clear hfz18_5
          try clear hfz18_6
          try clear hfz18_7
          try clear hfz18_8
          try clear hfz18_9
          try clear hfz30_0
          try clear hfz30_1
          try clear hfz30_10
          try clear hfz30_2
          try clear hfz30_3
          try clear hfz30_4
          try clear hfz30_5
          try clear hfz30_6
          try clear hfz30_7
          try clear hfz30_8
          try clear hfz30_9
          try clear hfz31_0
          try clear hfz31_1
          try clear hfz31_10
          try clear hfz31_2
          try clear hfz31_3
          try clear hfz31_4
          try clear hfz31_5
          try clear hfz31_6
          try clear hfz31_7
          try clear hfz31_8
          try clear hfz31_9
          try clear hfz32_0
          try clear hfz32_1
          try clear hfz32_10
          try clear hfz32_2
          try clear hfz32_3
          try clear hfz32_4
          try clear hfz32_5
          try clear hfz32_6
          try clear hfz32_7
          try clear hfz32_8
          try clear hfz32_9
          try clear hfz33_0
          try clear hfz33_1
          try clear hfz33_10
          try clear hfz33_2
          try clear hfz33_3
          try clear hfz33_4
          try clear hfz33_5
          try clear hfz33_6
          try clear hfz33_7
          try clear hfz33_8
          try clear hfz33_9
          try clear hfz34_0
          try clear hfz34_1
          try clear hfz34_10
          try clear hfz34_2
          try clear hfz34_3
          try clear hfz34_4
          try clear hfz34_5
          try clear hfz34_6
          try clear hfz34_7
          try clear hfz34_8
          try clear hfz34_9
          try clear hfz35_0
          try clear hfz35_1
          try clear hfz35_10
          try clear hfz35_2
          try clear hfz35_3
          try clear hfz35_4
          try clear hfz35_5
          try clear hfz35_6
          try clear hfz35_7
          try clear hfz35_8
          try clear hfz35_9
          try clear hfz3_0
          try clear hfz3_1
          try clear hfz3_10
          try clear hfz3_2
          try clear hfz3_3
          try clear hfz3_4
          try clear hfz3_5
          try clear hfz3_6
          try clear hfz3_7
          try clear hfz3_8
          try clear hfz3_9
          try clear hx147_0
          try clear p147
          try clear p2
          try clear q147
          obtain ⟨kq, x76_11, rfl, HA, HJ11, BK143, HB⟩ := hcut
          cases kq with
          | zero => exact absurd HA.out (by simp [spec_mountValid.j1])
          | succ kj11 =>
            have H := HA.out
            clear HA
            simp only [spec_mountValid.j1] at H
            by_cases c36 : x76_11 = true
            · subst c36
              have H1 : (some false) = some r := by rw [if_pos rfl] at H; exact H
              clear H
              have H := H1
              clear H1
              obtain rfl := Option.some.inj H
              go_wp2
              go_ret
              exact ⟨by first | rfl | (simp [errW_none, errW_some] <;> rfl) | (simp [*, errW_none, errW_some] <;> rfl), by repeat (first | (with_reducible first | exact HB.out | apply below_alloc | apply pw_below_drewN | apply below_drew1 | refine below_set ?_ GE143.out) | exact HB.out)⟩
            · replace c36 := Bool.eq_false_iff.mpr c36
              subst c36
              have H1 : (if a0_7.toList = ([] : List UInt8) then (some true) else ((spec_fields.f kj11 a0_7).bind fun t154 => (spec_mountValid.l1 kj11 t154 (t154.length : Int) 0))) = some r := by rw [if_neg (show ¬ (false = true) by decide)] at H; exact H
              clear H
              have H := H1
              clear H1
              by_cases c37 : a0_7.toList = ([] : List UInt8)
              · rw [if_pos c37] at H
                have c37b0 : (a0_7.toList == ([] : List UInt8)) = true := beq_iff_eq.mpr c37
                have c37b1 : (a0_7.toList != ([] : List UInt8)) = false := bne_eq_false_iff_eq.mpr c37
                clear c37
                obtain rfl := Option.some.inj H
                have hcz38_0 : wc.cell? ⟨gb143, 0, none⟩ = some (.int .i64 a0_0) := (blk_cell BK143.out 0).trans rfl
                have hcz38_1 : wc.cell? ⟨gb143, 1, none⟩ = some (.int .i64 a0_1) := (blk_cell BK143.out 1).trans rfl
                have hcz38_2 : wc.cell? ⟨gb143, 2, none⟩ = some (.int .i64 a0_2) := (blk_cell BK143.out 2).trans rfl
                have hcz38_3 : wc.cell? ⟨gb143, 3, none⟩ = some (.int .i64 a0_3) := (blk_cell BK143.out 3).trans rfl
                have hcz38_4 : wc.cell? ⟨gb143, 4, none⟩ = some (.string a0_4) := (blk_cell BK143.out 4).trans rfl
                have hcz38_5 : wc.cell? ⟨gb143, 5, none⟩ = some (.string a0_5) := (blk_cell BK143.out 5).trans rfl
                have hcz38_6 : wc.cell? ⟨gb143, 6, none⟩ = some (.string a0_6) := (blk_cell BK143.out 6).trans rfl
                have hcz38_7 : wc.cell? ⟨gb143, 7, none⟩ = some (.string a0_7) := (blk_cell BK143.out 7).trans rfl
                have hcz38_8 : wc.cell? ⟨gb143, 8, none⟩ = some (.string a0_8) := (blk_cell BK143.out 8).trans rfl
                have hcz38_9 : wc.cell? ⟨gb143, 9, none⟩ = some (.string a0_9) := (blk_cell BK143.out 9).trans rfl
                have hcz38_10 : wc.cell? ⟨gb143, 10, none⟩ = some (.string a0_10) := (blk_cell BK143.out 10).trans rfl
                have hfz38_0 := blk_frozen BK143.out 0
                have hfz38_1 := blk_frozen BK143.out 1
                have hfz38_2 := blk_frozen BK143.out 2
                have hfz38_3 := blk_frozen BK143.out 3
                have hfz38_4 := blk_frozen BK143.out 4
                have hfz38_5 := blk_frozen BK143.out 5
                have hfz38_6 := blk_frozen BK143.out 6
                have hfz38_7 := blk_frozen BK143.out 7
                have hfz38_8 := blk_frozen BK143.out 8
                have hfz38_9 := blk_frozen BK143.out 9
                have hfz38_10 := blk_frozen BK143.out 10
                go_wp2
                go_ret
                exact ⟨by first | rfl | (simp [errW_none, errW_some] <;> rfl) | (simp [*, errW_none, errW_some] <;> rfl), by repeat (first | (with_reducible first | exact HB.out | apply below_alloc | apply pw_below_drewN | apply below_drew1 | refine below_set ?_ GE143.out) | exact HB.out)⟩
              · rw [if_neg c37] at H
                have c37b0 : (a0_7.toList == ([] : List UInt8)) = false := beq_eq_false_iff_ne.mpr c37
                have c37b1 : (a0_7.toList != ([] : List UInt8)) = true := bne_iff_ne.mpr c37
                replace H := Option.bind_eq_some_iff.mp H
                obtain ⟨t154, A390, H⟩ := H
                replace H : (spec_mountValid.l1 kj11 t154 (t154.length : Int) 0) = some r := H
                have A39 := Aside0.mk A390
                clear A390
                have H' := Aside0.mk H
                clear H
                have hcz40_0 : wc.cell? ⟨gb143, 0, none⟩ = some (.int .i64 a0_0) := (blk_cell BK143.out 0).trans rfl
                have hcz40_1 : wc.cell? ⟨gb143, 1, none⟩ = some (.int .i64 a0_1) := (blk_cell BK143.out 1).trans rfl
                have hcz40_2 : wc.cell? ⟨gb143, 2, none⟩ = some (.int .i64 a0_2) := (blk_cell BK143.out 2).trans rfl
                have hcz40_3 : wc.cell? ⟨gb143, 3, none⟩ = some (.int .i64 a0_3) := (blk_cell BK143.out 3).trans rfl
                have hcz40_4 : wc.cell? ⟨gb143, 4, none⟩ = some (.string a0_4) := (blk_cell BK143.out 4).trans rfl
                have hcz40_5 : wc.cell? ⟨gb143, 5, none⟩ = some (.string a0_5) := (blk_cell BK143.out 5).trans rfl
                have hcz40_6 : wc.cell? ⟨gb143, 6, none⟩ = some (.string a0_6) := (blk_cell BK143.out 6).trans rfl
                have hcz40_7 : wc.cell? ⟨gb143, 7, none⟩ = some (.string a0_7) := (blk_cell BK143.out 7).trans rfl
                have hcz40_8 : wc.cell? ⟨gb143, 8, none⟩ = some (.string a0_8) := (blk_cell BK143.out 8).trans rfl
                have hcz40_9 : wc.cell? ⟨gb143, 9, none⟩ = some (.string a0_9) := (blk_cell BK143.out 9).trans rfl
                have hcz40_10 : wc.cell? ⟨gb143, 10, none⟩ = some (.string a0_10) := (blk_cell BK143.out 10).trans rfl
                have hfz40_0 := blk_frozen BK143.out 0
                have hfz40_1 := blk_frozen BK143.out 1
                have hfz40_2 := blk_frozen BK143.out 2
                have hfz40_3 := blk_frozen BK143.out 3
                have hfz40_4 := blk_frozen BK143.out 4
                have hfz40_5 := blk_frozen BK143.out 5
                have hfz40_6 := blk_frozen BK143.out 6
                have hfz40_7 := blk_frozen BK143.out 7
                have hfz40_8 := blk_frozen BK143.out 8
                have hfz40_9 := blk_frozen BK143.out 9
                have hfz40_10 := blk_frozen BK143.out 10
                go_wp2_with (first | ((with_reducible refine gate_callee (f := 46) rfl ?_); refine goesL_ (some 82) rfl rfl Tryd.func46 (by kernel_rfl) rfl #[.string a0_7] rfl (by (try simp only [List.map_toArray, List.map_cons, List.map_nil]); first | done | rfl | (simp only [List.length_drop, List.length_take]; rfl)) ?_; (with_reducible refine (spec_fields.calls kj11 a0_7 t154 _ A39.out).mono ?_); rintro e w41 ⟨v155, rfl, ho0, hb⟩; refine ⟨_, rfl, ?_⟩; have n0_ := Aside0.mk (Kd.R_lower ho0 (below_size (by repeat (first | (with_reducible first | exact HB.out | apply below_alloc | apply pw_below_drewN | apply below_drew1 | refine below_set ?_ GE143.out) | exact HB.out)))); have n1_ := Aside0.mk (blk_below (g := gb143) (o := .cells #[.int .i64 a0_0, .int .i64 a0_1, .int .i64 a0_2, .int .i64 a0_3, .string a0_4, .string a0_5, .string a0_6, .string a0_7, .string a0_8, .string a0_9, .string a0_10] 58 (0, 0)) (by (with_reducible repeat (first | refine blk_drewN ?_ _ | refine blk_drew ?_ | refine blk_alloc ?_ _)); exact BK143.out) hb); have n2_ := Aside0.mk (below_step (by repeat (first | (with_reducible first | exact HB.out | apply below_alloc | apply pw_below_drewN | apply below_drew1 | refine below_set ?_ GE143.out) | exact HB.out)) hb); clear BK143; clear HB; have HO156 := n0_; have BK143 := n1_; have HB := n2_; clear n0_ n1_ n2_; (try clear hb); (try clear hb2); (try clear hk); (try clear hi); (try clear ho0); obtain ⟨Ao42, co42, eo42⟩ := Kd.R_slice HO156.out; subst eo42))
                go_loopg [84] kj11 (fun kq v84 w' => ∃ (x84_3 : Int), v84 = .int .i64 x84_3 ∧ Aside0 (spec_mountValid.l1 kq t154 (t154.length : Int) x84_3 = some r) ∧ Aside0 (kq ≤ kj11) ∧ Aside0 (Kd.R Kd.string 9 w' w.heap.size (fun _ => True) (.slice Ao42 t154.length co42) t154) ∧ Aside0 (w'.heap[gb143]? = some (.cells #[.int .i64 a0_0, .int .i64 a0_1, .int .i64 a0_2, .int .i64 a0_3, .string a0_4, .string a0_5, .string a0_6, .string a0_7, .string a0_8, .string a0_9, .string a0_10] 58 (0, 0))) ∧ Aside0 (Below w.heap.size w w'))
                case atStart => exact ⟨(0), (by first | rfl | (simp; done) | (simp [*]; done)), H', ⟨Nat.le_refl _⟩, ⟨by (with_reducible repeat (first | apply Kd.R_alloc | apply Kd.R_drewN | apply Kd.R_drew)); exact HO156.out⟩, ⟨by (with_reducible repeat (first | refine blk_drewN ?_ _ | refine blk_drew ?_ | refine blk_alloc ?_ _)); exact BK143.out⟩, ⟨by repeat (first | (with_reducible first | exact HB.out | apply below_alloc | apply pw_below_drewN | apply below_drew1 | refine below_set ?_ GE143.out) | exact HB.out)⟩⟩
                case round =>
                  clear H'
                  try clear c1
                  try clear p1
                  try clear q1
                  try clear hx1
                  try clear c2
                  try clear p2
                  try clear c3
                  try clear c4
                  try clear p6
                  try clear c7
                  try clear c7b0
                  try clear c8
                  try clear c8b0
                  try clear c9
                  try clear c9b0
                  try clear c10
                  try clear c10b0
                  try clear c11
                  try clear c11b0
                  try clear c13
                  try clear c13b0
                  try clear c13b1
                  try clear p14
                  try clear q14
                  try clear hx14
                  try clear c15
                  try clear c15b0
                  try clear c15b1
                  try clear c17
                  try clear c17b0
                  try clear c17b1
                  try clear c20
                  try clear c22
                  try clear c24
                  try clear c26
                  try clear c28
                  try clear c36
                  try clear c37
                  try clear c37b0
                  try clear c37b1
                  try clear hcz14_0
                  try clear hcz14_1
                  try clear hcz14_10
                  try clear hcz14_2
                  try clear hcz14_3
                  try clear hcz14_4
                  try clear hcz14_5
                  try clear hcz14_6
                  try clear hcz14_7
                  try clear hcz14_8
                  try clear hcz14_9
                  try clear hcz16_0
                  try clear hcz16_1
                  try clear hcz16_10
                  try clear hcz16_2
                  try clear hcz16_3
                  try clear hcz16_4
                  try clear hcz16_5
                  try clear hcz16_6
                  try clear hcz16_7
                  try clear hcz16_8
                  try clear hcz16_9
                  try clear hcz18_0
                  try clear hcz18_1
                  try clear hcz18_10
                  try clear hcz18_2
                  try clear hcz18_3
                  try clear hcz18_4
                  try clear hcz18_5
                  try clear hcz18_6
                  try clear hcz18_7
                  try clear hcz18_8
                  try clear hcz18_9
                  try clear hcz30_0
                  try clear hcz30_1
                  try clear hcz30_10
                  try clear hcz30_2
                  try clear hcz30_3
                  try clear hcz30_4
                  try clear hcz30_5
                  try clear hcz30_6
                  try clear hcz30_7
                  try clear hcz30_8
                  try clear hcz30_9
                  try clear hcz31_0
                  try clear hcz31_1
                  try clear hcz31_10
                  try clear hcz31_2
                  try clear hcz31_3
                  try clear hcz31_4
                  try clear hcz31_5
                  try clear hcz31_6
                  try clear hcz31_7
                  try clear hcz31_8
                  try clear hcz31_9
                  try clear hcz32_0
                  try clear hcz32_1
                  try clear hcz32_10
                  try clear hcz32_2
                  try clear hcz32_3
                  try clear hcz32_4
                  try clear hcz32_5
                  try clear hcz32_6
                  try clear hcz32_7
                  try clear hcz32_8
                  try clear hcz32_9
                  try clear hcz33_0
                  try clear hcz33_1
                  try clear hcz33_10
                  try clear hcz33_2
                  try clear hcz33_3
                  try clear hcz33_4
                  try clear hcz33_5
                  try clear hcz33_6
                  try clear hcz33_7
                  try clear hcz33_8
                  try clear hcz33_9
                  try clear hcz34_0
                  try clear hcz34_1
                  try clear hcz34_10
                  try clear hcz34_2
                  try clear hcz34_3
                  try clear hcz34_4
                  try clear hcz34_5
                  try clear hcz34_6
                  try clear hcz34_7
                  try clear hcz34_8
                  try clear hcz34_9
                  try clear hcz35_0
                  try clear hcz35_1
                  try clear hcz35_10
                  try clear hcz35_2
                  try clear hcz35_3
                  try clear hcz35_4
                  try clear hcz35_5
                  try clear hcz35_6
                  try clear hcz35_7
                  try clear hcz35_8
                  try clear hcz35_9
                  try clear hcz38_0
                  try clear hcz38_1
                  try clear hcz38_10
                  try clear hcz38_2
                  try clear hcz38_3
                  try clear hcz38_4
                  try clear hcz38_5
                  try clear hcz38_6
                  try clear hcz38_7
                  try clear hcz38_8
                  try clear hcz38_9
                  try clear hcz3_0
                  try clear hcz3_1
                  try clear hcz3_10
                  try clear hcz3_2
                  try clear hcz3_3
                  try clear hcz3_4
                  try clear hcz3_5
                  try clear hcz3_6
                  try clear hcz3_7
                  try clear hcz3_8
                  try clear hcz3_9
                  try clear hcz40_0
                  try clear hcz40_1
                  try clear hcz40_10
                  try clear hcz40_2
                  try clear hcz40_3
                  try clear hcz40_4
                  try clear hcz40_5
                  try clear hcz40_6
                  try clear hcz40_7
                  try clear hcz40_8
                  try clear hcz40_9
                  try clear hfz14_0
                  try clear hfz14_1
                  try clear hfz14_10
                  try clear hfz14_2
                  try clear hfz14_3
                  try clear hfz14_4
                  try clear hfz14_5
                  try clear hfz14_6
                  try clear hfz14_7
                  try clear hfz14_8
                  try clear hfz14_9
                  try clear hfz16_0
                  try clear hfz16_1
                  try clear hfz16_10
                  try clear hfz16_2
                  try clear hfz16_3
                  try clear hfz16_4
                  try clear hfz16_5
                  try clear hfz16_6
                  try clear hfz16_7
                  try clear hfz16_8
                  try clear hfz16_9
                  try clear hfz18_0
                  try clear hfz18_1
                  try clear hfz18_10
                  try clear hfz18_2
                  try clear hfz18_3
                  try clear hfz18_4
                  try clear hfz18_5
                  try clear hfz18_6
                  try clear hfz18_7
                  try clear hfz18_8
                  try clear hfz18_9
                  try clear hfz30_0
                  try clear hfz30_1
                  try clear hfz30_10
                  try clear hfz30_2
                  try clear hfz30_3
                  try clear hfz30_4
                  try clear hfz30_5
                  try clear hfz30_6
                  try clear hfz30_7
                  try clear hfz30_8
                  try clear hfz30_9
                  try clear hfz31_0
                  try clear hfz31_1
                  try clear hfz31_10
                  try clear hfz31_2
                  try clear hfz31_3
                  try clear hfz31_4
                  try clear hfz31_5
                  try clear hfz31_6
                  try clear hfz31_7
                  try clear hfz31_8
                  try clear hfz31_9
                  try clear hfz32_0
                  try clear hfz32_1
                  try clear hfz32_10
                  try clear hfz32_2
                  try clear hfz32_3
                  try clear hfz32_4
                  try clear hfz32_5
                  try clear hfz32_6
                  try clear hfz32_7
                  try clear hfz32_8
                  try clear hfz32_9
                  try clear hfz33_0
                  try clear hfz33_1
                  try clear hfz33_10
                  try clear hfz33_2
                  try clear hfz33_3
                  try clear hfz33_4
                  try clear hfz33_5
                  try clear hfz33_6
                  try clear hfz33_7
                  try clear hfz33_8
                  try clear hfz33_9
                  try clear hfz34_0
                  try clear hfz34_1
                  try clear hfz34_10
                  try clear hfz34_2
                  try clear hfz34_3
                  try clear hfz34_4
                  try clear hfz34_5
                  try clear hfz34_6
                  try clear hfz34_7
                  try clear hfz34_8
                  try clear hfz34_9
                  try clear hfz35_0
                  try clear hfz35_1
                  try clear hfz35_10
                  try clear hfz35_2
                  try clear hfz35_3
                  try clear hfz35_4
                  try clear hfz35_5
                  try clear hfz35_6
                  try clear hfz35_7
                  try clear hfz35_8
                  try clear hfz35_9
                  try clear hfz38_0
                  try clear hfz38_1
                  try clear hfz38_10
                  try clear hfz38_2
                  try clear hfz38_3
                  try clear hfz38_4
                  try clear hfz38_5
                  try clear hfz38_6
                  try clear hfz38_7
                  try clear hfz38_8
                  try clear hfz38_9
                  try clear hfz3_0
                  try clear hfz3_1
                  try clear hfz3_10
                  try clear hfz3_2
                  try clear hfz3_3
                  try clear hfz3_4
                  try clear hfz3_5
                  try clear hfz3_6
                  try clear hfz3_7
                  try clear hfz3_8
                  try clear hfz3_9
                  try clear hfz40_0
                  try clear hfz40_1
                  try clear hfz40_10
                  try clear hfz40_2
                  try clear hfz40_3
                  try clear hfz40_4
                  try clear hfz40_5
                  try clear hfz40_6
                  try clear hfz40_7
                  try clear hfz40_8
                  try clear hfz40_9
                  try clear hx147_0
                  try clear p1
                  try clear p14
                  try clear p147
                  try clear p2
                  try clear p6
                  try clear q1
                  try clear q14
                  try clear q147
                  obtain ⟨x84_3, rfl, HA, HK3, HO_82, BK143, HB⟩ := hrel
                  cases gk with
                  | zero => exact absurd HA.out (by simp [spec_mountValid.l1])
                  | succ k3 =>
                    have H := HA.out
                    clear HA
                    simp only [spec_mountValid.l1] at H
                    by_cases c43 : x84_3 < (t154.length : Int)
                    · rw [if_pos c43] at H
                      have c43b0 : decide (x84_3 < (t154.length : Int)) = true := decide_eq_true c43
                      clear c43
                      replace H := guard_inv H
                      obtain ⟨c44, H⟩ := H
                      have c44b0 : decide (0 ≤ x84_3) = true := decide_eq_true c44
                      clear c44
                      replace H := guard_inv H
                      obtain ⟨c45, H⟩ := H
                      have c45b0 : decide (x84_3 < (t154.length : Int)) = true := decide_eq_true c45
                      clear c45
                      replace H := Option.bind_eq_some_iff.mp H
                      obtain ⟨t158, A460, H⟩ := H
                      try dsimp -simprocs only at H
                      have A46 := Aside0.mk A460
                      clear A460
                      by_cases c47 : t158 = true
                      · subst c47
                        have H1 : (if (rdOf ByteArray.empty t154 x84_3).toList = ([45] : List UInt8) then (some false) else (spec_mountValid.l1 k3 t154 (t154.length : Int) (wrap64 (x84_3 + 1)))) = some r := by rw [if_pos rfl] at H; exact H
                        clear H
                        have H := H1
                        clear H1
                        by_cases c48 : (rdOf ByteArray.empty t154 x84_3).toList = ([45] : List UInt8)
                        · rw [if_pos c48] at H
                          have c48b0 : ((rdOf ByteArray.empty t154 x84_3).toList == ([45] : List UInt8)) = true := beq_iff_eq.mpr c48
                          have c48b1 : ((rdOf ByteArray.empty t154 x84_3).toList != ([45] : List UInt8)) = false := bne_eq_false_iff_eq.mpr c48
                          clear c48
                          obtain rfl := Option.some.inj H
                          have p157 : 0 ≤ (x84_3 : Int) := of_decide_eq_true (by first | (with_reducible assumption) | assumption)
                          have q157 : x84_3 < (t154.length : Int) := of_decide_eq_true (by first | (with_reducible assumption) | assumption)
                          obtain ⟨ad157, e157, hx157_0⟩ := Kd.at_string (Kd.R_reads' HO_82.out).2.2 x84_3 p157 q157
                          cases e157
                          replace p157 := eq_true p157
                          replace q157 := eq_true q157
                          go_wp2_with (first | ((with_reducible refine gate_callee (f := 45) rfl ?_); refine goesL_ (some 89) rfl rfl Tryd.func45 (by kernel_rfl) rfl #[.string (rdOf ByteArray.empty t154 x84_3)] rfl (by (try simp only [List.map_toArray, List.map_cons, List.map_nil]); first | done | rfl | (simp only [List.length_drop, List.length_take]; rfl)) ?_; (with_reducible refine (spec_word.calls k3 (rdOf ByteArray.empty t154 x84_3) true _ A46.out).mono ?_); rintro e w' ⟨rfl, ⟨nd, rfl⟩⟩; refine ⟨_, rfl, ?_⟩))
                          go_ret
                          exact ⟨by first | rfl | (simp [errW_none, errW_some] <;> rfl) | (simp [*, errW_none, errW_some] <;> rfl), by repeat (first | (with_reducible first | exact HB.out | apply below_alloc | apply pw_below_drewN | apply below_drew1 | refine below_set ?_ GE143.out) | exact HB.out)⟩
                        · rw [if_neg c48] at H
                          have c48b0 : ((rdOf ByteArray.empty t154 x84_3).toList == ([45] : List UInt8)) = false := beq_eq_false_iff_ne.mpr c48
                          have c48b1 : ((rdOf ByteArray.empty t154 x84_3).toList != ([45] : List UInt8)) = true := bne_iff_ne.mpr c48
                          have H' := Aside0.mk H
                          clear H
                          have p157 : 0 ≤ (x84_3 : Int) := of_decide_eq_true (by first | (with_reducible assumption) | assumption)
                          have q157 : x84_3 < (t154.length : Int) := of_decide_eq_true (by first | (with_reducible assumption) | assumption)
                          obtain ⟨ad157, e157, hx157_0⟩ := Kd.at_string (Kd.R_reads' HO_82.out).2.2 x84_3 p157 q157
                          cases e157
                          replace p157 := eq_true p157
                          replace q157 := eq_true q157
                          go_wp2_with (first | ((with_reducible refine gate_callee (f := 45) rfl ?_); refine goesL_ (some 89) rfl rfl Tryd.func45 (by kernel_rfl) rfl #[.string (rdOf ByteArray.empty t154 x84_3)] rfl (by (try simp only [List.map_toArray, List.map_cons, List.map_nil]); first | done | rfl | (simp only [List.length_drop, List.length_take]; rfl)) ?_; (with_reducible refine (spec_word.calls k3 (rdOf ByteArray.empty t154 x84_3) true _ A46.out).mono ?_); rintro e w' ⟨rfl, ⟨nd, rfl⟩⟩; refine ⟨_, rfl, ?_⟩))
                          go_roundg k3
                          case measure => have := HK1.out; have := HJ11.out; have := HK3.out; omega
                          case rel => exact ⟨(wrap64 (x84_3 + 1)), (by first | rfl | (simp; done) | (simp [*]; done)), H', ⟨by have := HK1.out; have := HJ11.out; have := HK3.out; omega⟩, ⟨by (with_reducible repeat (first | apply Kd.R_alloc | apply Kd.R_drewN | apply Kd.R_drew)); exact HO_82.out⟩, ⟨by (with_reducible repeat (first | refine blk_drewN ?_ _ | refine blk_drew ?_ | refine blk_alloc ?_ _)); exact BK143.out⟩, ⟨by repeat (first | (with_reducible first | exact HB.out | apply below_alloc | apply pw_below_drewN | apply below_drew1 | refine below_set ?_ GE143.out) | exact HB.out)⟩⟩
                      · replace c47 := Bool.eq_false_iff.mpr c47
                        subst c47
                        have H1 : (some false) = some r := by rw [if_neg (show ¬ (false = true) by decide)] at H; exact H
                        clear H
                        have H := H1
                        clear H1
                        obtain rfl := Option.some.inj H
                        have p157 : 0 ≤ (x84_3 : Int) := of_decide_eq_true (by first | (with_reducible assumption) | assumption)
                        have q157 : x84_3 < (t154.length : Int) := of_decide_eq_true (by first | (with_reducible assumption) | assumption)
                        obtain ⟨ad157, e157, hx157_0⟩ := Kd.at_string (Kd.R_reads' HO_82.out).2.2 x84_3 p157 q157
                        cases e157
                        replace p157 := eq_true p157
                        replace q157 := eq_true q157
                        go_wp2_with (first | ((with_reducible refine gate_callee (f := 45) rfl ?_); refine goesL_ (some 89) rfl rfl Tryd.func45 (by kernel_rfl) rfl #[.string (rdOf ByteArray.empty t154 x84_3)] rfl (by (try simp only [List.map_toArray, List.map_cons, List.map_nil]); first | done | rfl | (simp only [List.length_drop, List.length_take]; rfl)) ?_; (with_reducible refine (spec_word.calls k3 (rdOf ByteArray.empty t154 x84_3) false _ A46.out).mono ?_); rintro e w' ⟨rfl, ⟨nd, rfl⟩⟩; refine ⟨_, rfl, ?_⟩))
                        go_ret
                        exact ⟨by first | rfl | (simp [errW_none, errW_some] <;> rfl) | (simp [*, errW_none, errW_some] <;> rfl), by repeat (first | (with_reducible first | exact HB.out | apply below_alloc | apply pw_below_drewN | apply below_drew1 | refine below_set ?_ GE143.out) | exact HB.out)⟩
                    · rw [if_neg c43] at H
                      have c43b0 : decide (x84_3 < (t154.length : Int)) = false := decide_eq_false c43
                      clear c43
                      obtain rfl := Option.some.inj H
                      go_wp2
                      go_ret
                      exact ⟨by first | rfl | (simp [errW_none, errW_some] <;> rfl) | (simp [*, errW_none, errW_some] <;> rfl), by repeat (first | (with_reducible first | exact HB.out | apply below_alloc | apply pw_below_drewN | apply below_drew1 | refine below_set ?_ GE143.out) | exact HB.out)⟩

end Go.Proofs.YtdmccakncgdbhaaDoor.GMA
