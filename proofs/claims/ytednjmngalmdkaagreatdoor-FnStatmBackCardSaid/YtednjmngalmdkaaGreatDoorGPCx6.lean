-- printed by gprint.py (a session's own turn of the kit's print): PC
import Derived.Test.YtednjmngalmdkaaGreatDoorGPCx0
import Derived.Test.YtednjmngalmdkaaGreatDoorGivenPC
namespace Go.Proofs.YtednjmngalmdkaaGreatDoor.GPC
open Go.RowKit Go.Proofs.YtednjmngalmdkaaGreatDoorW.PrintWords Go.Proofs.YtednjmngalmdkaaGreatDoorW.PrintLast Go.Proofs.YtednjmngalmdkaaGreatDoorW.PrintMore
attribute [local go_sem] max2_int min2_int max_two min_two max_three min_three max_four min_four   -- for this text's walks alone
set_option linter.unusedVariables false
set_option linter.unusedSimpArgs false

attribute [local go_sem] run_store_float
/-! ### spec_SameNode: function 47 -/
mutual
def spec_SameNode.j0 : Nat → Bool → ByteArray → Int → Bool → Int → Int → Nat → ByteArray → List (S39) → ByteArray → Int → Bool → Int → Int → Nat → ByteArray → List (S39) → Option (Bool)
  | 0, _, _, _, _, _, _, _, _, _, _, _, _, _, _, _, _, _ => none
  | k + 1, x63, x270000, x270001, x270002, x270003, x270004, x270005, x270006, x270007, x271000, x271001, x271002, x271003, x271004, x271005, x271006, x271007 => if x63 = true then (none) else (spec_SameNode.l0 k (x270007.length : Int) 0 x270000 x270001 x270002 x270003 x270004 x270005 x270006 x270007 x271000 x271001 x271002 x271003 x271004 x271005 x271006 x271007)
def spec_SameNode.l0 : Nat → Int → Int → ByteArray → Int → Bool → Int → Int → Nat → ByteArray → List (S39) → ByteArray → Int → Bool → Int → Int → Nat → ByteArray → List (S39) → Option (Bool)
  | 0, _, _, _, _, _, _, _, _, _, _, _, _, _, _, _, _, _, _ => none
  | k + 1, x66, x67, x270000, x270001, x270002, x270003, x270004, x270005, x270006, x270007, x271000, x271001, x271002, x271003, x271004, x271005, x271006, x271007 => if x67 < x66 then (if 0 ≤ x67 then (if x67 < (x270007.length : Int) then (if x67 < (x271007.length : Int) then ((spec_SameNode.f k ((rd_T39 x270007 x67).f0) ((rd_T39 x270007 x67).f1) ((rd_T39 x270007 x67).f2) ((rd_T39 x270007 x67).f3) ((rd_T39 x270007 x67).f4) ((rd_T39 x270007 x67).f5) ((rd_T39 x270007 x67).f6) ((rd_T39 x270007 x67).f7) ((rd_T39 x271007 x67).f0) ((rd_T39 x271007 x67).f1) ((rd_T39 x271007 x67).f2) ((rd_T39 x271007 x67).f3) ((rd_T39 x271007 x67).f4) ((rd_T39 x271007 x67).f5) ((rd_T39 x271007 x67).f6) ((rd_T39 x271007 x67).f7)).bind fun t275 => (if t275 = true then (spec_SameNode.l0 k x66 (wrap64 (x67 + 1)) x270000 x270001 x270002 x270003 x270004 x270005 x270006 x270007 x271000 x271001 x271002 x271003 x271004 x271005 x271006 x271007) else (none))) else (none)) else (none)) else (none)) else (some true)
def spec_SameNode.f : Nat → ByteArray → Int → Bool → Int → Int → Nat → ByteArray → List (S39) → ByteArray → Int → Bool → Int → Int → Nat → ByteArray → List (S39) → Option (Bool)
  | 0, _, _, _, _, _, _, _, _, _, _, _, _, _, _, _, _ => none
  | k + 1, a0_0, a0_1, a0_2, a0_3, a0_4, a0_5, a0_6, l0_7, a1_0, a1_1, a1_2, a1_3, a1_4, a1_5, a1_6, l1_7 => if a0_0.toList = a1_0.toList then (if a0_1 = a1_1 then (if (a0_2 != a1_2) = true then (none) else (if a0_3 = a1_3 then (if a0_4 = a1_4 then ((math_Float64bits.f a0_5).bind fun t271 => ((math_Float64bits.f a1_5).bind fun t272 => (if t271 = t272 then (if a0_6.toList = a1_6.toList then (spec_SameNode.j0 k ((l0_7.length : Int) != (l1_7.length : Int)) a0_0 a0_1 a0_2 a0_3 a0_4 a0_5 a0_6 l0_7 a1_0 a1_1 a1_2 a1_3 a1_4 a1_5 a1_6 l1_7) else (none)) else (none)))) else (none)) else (none))) else (none)) else (none)
end
theorem spec_SameNode.mono_l : ∀ k, (∀ y0 y1 y2 y3 y4 y5 y6 y7 y8 y9 y10 y11 y12 y13 y14 y15, LeO (spec_SameNode.f k y0 y1 y2 y3 y4 y5 y6 y7 y8 y9 y10 y11 y12 y13 y14 y15) (spec_SameNode.f (k + 1) y0 y1 y2 y3 y4 y5 y6 y7 y8 y9 y10 y11 y12 y13 y14 y15)) ∧ (∀ y0 y1 y2 y3 y4 y5 y6 y7 y8 y9 y10 y11 y12 y13 y14 y15 y16, LeO (spec_SameNode.j0 k y0 y1 y2 y3 y4 y5 y6 y7 y8 y9 y10 y11 y12 y13 y14 y15 y16) (spec_SameNode.j0 (k + 1) y0 y1 y2 y3 y4 y5 y6 y7 y8 y9 y10 y11 y12 y13 y14 y15 y16)) ∧ (∀ y0 y1 y2 y3 y4 y5 y6 y7 y8 y9 y10 y11 y12 y13 y14 y15 y16 y17, LeO (spec_SameNode.l0 k y0 y1 y2 y3 y4 y5 y6 y7 y8 y9 y10 y11 y12 y13 y14 y15 y16 y17) (spec_SameNode.l0 (k + 1) y0 y1 y2 y3 y4 y5 y6 y7 y8 y9 y10 y11 y12 y13 y14 y15 y16 y17))
  | 0 => ⟨fun _ _ _ _ _ _ _ _ _ _ _ _ _ _ _ _ r h => by simp [spec_SameNode.f] at h, fun _ _ _ _ _ _ _ _ _ _ _ _ _ _ _ _ _ r h => by simp [spec_SameNode.j0] at h, fun _ _ _ _ _ _ _ _ _ _ _ _ _ _ _ _ _ _ r h => by simp [spec_SameNode.l0] at h⟩
  | k + 1 => by
    obtain ⟨ih0, ih1, ih2⟩ := spec_SameNode.mono_l k
    refine ⟨?_, ?_, ?_⟩
    · intro y0 y1 y2 y3 y4 y5 y6 y7 y8 y9 y10 y11 y12 y13 y14 y15
      unfold spec_SameNode.f
      repeat' first
      | (with_reducible exact ih0 _ _ _ _ _ _ _ _ _ _ _ _ _ _ _ _)
      | (with_reducible exact ih1 _ _ _ _ _ _ _ _ _ _ _ _ _ _ _ _ _)
      | (with_reducible exact ih2 _ _ _ _ _ _ _ _ _ _ _ _ _ _ _ _ _ _)
      | (with_reducible exact LeO.refl _)
      | (with_reducible exact LeO.none _)
      | (with_reducible refine LeO.ite ?_ ?_)
      | (with_reducible refine LeO.bind ?_ (fun _ => ?_))
      | exact ih0 _ _ _ _ _ _ _ _ _ _ _ _ _ _ _ _
      | exact ih1 _ _ _ _ _ _ _ _ _ _ _ _ _ _ _ _ _
      | exact ih2 _ _ _ _ _ _ _ _ _ _ _ _ _ _ _ _ _ _
      | exact LeO.none _
      | refine LeO.ite ?_ ?_
      | refine LeO.bind ?_ (fun _ => ?_)
    · intro y0 y1 y2 y3 y4 y5 y6 y7 y8 y9 y10 y11 y12 y13 y14 y15 y16
      unfold spec_SameNode.j0
      repeat' first
      | (with_reducible exact ih0 _ _ _ _ _ _ _ _ _ _ _ _ _ _ _ _)
      | (with_reducible exact ih1 _ _ _ _ _ _ _ _ _ _ _ _ _ _ _ _ _)
      | (with_reducible exact ih2 _ _ _ _ _ _ _ _ _ _ _ _ _ _ _ _ _ _)
      | (with_reducible exact LeO.refl _)
      | (with_reducible exact LeO.none _)
      | (with_reducible refine LeO.ite ?_ ?_)
      | (with_reducible refine LeO.bind ?_ (fun _ => ?_))
      | exact ih0 _ _ _ _ _ _ _ _ _ _ _ _ _ _ _ _
      | exact ih1 _ _ _ _ _ _ _ _ _ _ _ _ _ _ _ _ _
      | exact ih2 _ _ _ _ _ _ _ _ _ _ _ _ _ _ _ _ _ _
      | exact LeO.none _
      | refine LeO.ite ?_ ?_
      | refine LeO.bind ?_ (fun _ => ?_)
    · intro y0 y1 y2 y3 y4 y5 y6 y7 y8 y9 y10 y11 y12 y13 y14 y15 y16 y17
      unfold spec_SameNode.l0
      repeat' first
      | (with_reducible exact ih0 _ _ _ _ _ _ _ _ _ _ _ _ _ _ _ _)
      | (with_reducible exact ih1 _ _ _ _ _ _ _ _ _ _ _ _ _ _ _ _ _)
      | (with_reducible exact ih2 _ _ _ _ _ _ _ _ _ _ _ _ _ _ _ _ _ _)
      | (with_reducible exact LeO.refl _)
      | (with_reducible exact LeO.none _)
      | (with_reducible refine LeO.ite ?_ ?_)
      | (with_reducible refine LeO.bind ?_ (fun _ => ?_))
      | exact ih0 _ _ _ _ _ _ _ _ _ _ _ _ _ _ _ _
      | exact ih1 _ _ _ _ _ _ _ _ _ _ _ _ _ _ _ _ _
      | exact ih2 _ _ _ _ _ _ _ _ _ _ _ _ _ _ _ _ _ _
      | exact LeO.none _
      | refine LeO.ite ?_ ?_
      | refine LeO.bind ?_ (fun _ => ?_)
theorem spec_SameNode.mono : ∀ a0 a1 a2 a3 a4 a5 a6 a7 a8 a9 a10 a11 a12 a13 a14 a15 k, LeO (spec_SameNode.f k a0 a1 a2 a3 a4 a5 a6 a7 a8 a9 a10 a11 a12 a13 a14 a15) (spec_SameNode.f (k + 1) a0 a1 a2 a3 a4 a5 a6 a7 a8 a9 a10 a11 a12 a13 a14 a15) := by
  intro a0 a1 a2 a3 a4 a5 a6 a7 a8 a9 a10 a11 a12 a13 a14 a15 k
  obtain ⟨ih0, ih1, ih2⟩ := spec_SameNode.mono_l k
  exact ih0 a0 a1 a2 a3 a4 a5 a6 a7 a8 a9 a10 a11 a12 a13 a14 a15
def spec_SameNode.T1 : Bool × List (List Nat × List Nat) := (true, [([], []), ([0], [0]), ([], []), ([2], [2]), ([1, 3], [1, 3]), ([4], [4]), ([5], [5]), ([6, 5], [5, 6]), ([5], [5]), ([8, 5], [5, 8]), ([7, 9, 5], [5, 7, 9]), ([5, 10], [5, 10]), ([11, 5], [11]), ([12], [12]), ([13, 12], [12, 13]), ([12], [12]), ([15, 12], [12, 15]), ([14, 16, 12], [12, 14, 16]), ([12, 17], [12, 17]), ([18, 12], [18]), ([19], [19]), ([20, 19], [19, 20]), ([19], [19]), ([22, 19], [19, 22]), ([21, 23, 19], [19, 21, 23]), ([19, 24], [19, 24]), ([25, 19], [25]), ([26], [26]), ([27, 26], [26, 27]), ([26], [26]), ([29, 26], [26, 29]), ([28, 30, 26], [26, 28, 30]), ([26, 31], [26, 31]), ([32, 26], [32]), ([33], [33]), ([34, 33], [33, 34]), ([35, 33, 33], [33, 35]), ([33], [33]), ([37, 33], [33, 37]), ([38, 36, 33], [33, 38]), ([36, 39, 33], [33, 36, 39]), ([33, 40], [33, 40]), ([41, 39], [41]), ([42], [42]), ([43, 42], [42, 43]), ([42], [42]), ([45, 42], [42, 45]), ([44, 46, 42], [42, 44, 46]), ([42, 47], [42, 47]), ([48, 42], [48]), ([49], [49]), ([50, 49], [49, 50]), ([51, 49], [49, 51]), ([49], [49]), ([53, 49], [49, 53]), ([54, 49], [49, 54]), ([52, 55, 49], [49, 52, 55]), ([49, 56], [49, 56])])
def spec_SameNode.B1 : List Nat := [0, 1, 0, 4, 15, 31, 63, 127, 63, 319, 1023, 2047, 4095, 8191, 16383, 8191, 40959, 131071, 262143, 524287, 1048575, 2097151, 1048575, 5242879, 16777215, 33554431, 67108863, 134217727, 268435455, 134217727, 671088639, 2147483647, 4294967295, 8589934591, 17179869183, 34359738367, 68719476735, 17179869183, 154618822655, 549755813887, 1099511627775, 2199023255551, 4398046511103, 8796093022207, 17592186044415, 8796093022207, 43980465111039, 140737488355327, 281474976710655, 562949953421311, 1125899906842623, 2251799813685247, 4503599627370495, 1125899906842623, 10133099161583615, 28147497671065599, 72057594037927935, 144115188075855871]
theorem spec_SameNode.tab1 : rtab .any (opsOf Tryz.f47 1) = spec_SameNode.T1 := by kernel_rfl
theorem spec_SameNode.bits1 : waitsOk spec_SameNode.T1.2 spec_SameNode.B1 = true := by kernel_rfl
def spec_SameNode.T6 : Bool × List (List Nat × List Nat) := (true, [([], []), ([0], [0]), ([], []), ([1, 2], [1, 2]), ([3], [3]), ([], []), ([5], [5]), ([], []), ([6, 7], [6, 7]), ([8], [8]), ([4, 9], [4, 9]), ([10], [10])])
def spec_SameNode.B6 : List Nat := [0, 1, 0, 7, 15, 0, 32, 0, 224, 480, 1023, 2047]
theorem spec_SameNode.tab6 : rtab .any (opsOf Tryz.f47 6) = spec_SameNode.T6 := by kernel_rfl
theorem spec_SameNode.bits6 : waitsOk spec_SameNode.T6.2 spec_SameNode.B6 = true := by kernel_rfl
set_option maxHeartbeats 8000000 in
set_option maxRecDepth 100000 in
theorem spec_SameNode.calls (k : Nat) : ∀ (a0_0 : ByteArray) (a0_1 : Int) (a0_2 : Bool) (a0_3 : Int) (a0_4 : Int) (a0_5 : Nat) (a0_6 : ByteArray) (A0_7 : Option Addr) (c0_7 : Nat) (l0_7 : List (S39)) (a1_0 : ByteArray) (a1_1 : Int) (a1_2 : Bool) (a1_3 : Int) (a1_4 : Int) (a1_5 : Nat) (a1_6 : ByteArray) (A1_7 : Option Addr) (c1_7 : Nat) (l1_7 : List (S39)) (r : Bool) (w : World) (hr0_7 : Kd.C k39 w A0_7 l0_7.length l0_7) (hc0_7 : l0_7.length ≤ c0_7) (hr1_7 : Kd.C k39 w A1_7 l1_7.length l1_7) (hc1_7 : l1_7.length ≤ c1_7) (h : spec_SameNode.f k a0_0 a0_1 a0_2 a0_3 a0_4 a0_5 a0_6 l0_7 a1_0 a1_1 a1_2 a1_3 a1_4 a1_5 a1_6 l1_7 = some r),
    Calls Tryz.prog 47 #[.agg #[.string a0_0, .int .i64 a0_1, .bool a0_2, .int .i64 a0_3, .int .u64 a0_4, .float .f64 a0_5, .string a0_6, .slice A0_7 l0_7.length c0_7], .agg #[.string a1_0, .int .i64 a1_1, .bool a1_2, .int .i64 a1_3, .int .u64 a1_4, .float .f64 a1_5, .string a1_6, .slice A1_7 l1_7.length c1_7]] w fun e w' => e = .returned (.bool r) ∧ Below w.heap.size w w' := by
  induction k using Nat.strongRecOn with
  | _ k ih =>
  intro a0_0 a0_1 a0_2 a0_3 a0_4 a0_5 a0_6 A0_7 c0_7 l0_7 a1_0 a1_1 a1_2 a1_3 a1_4 a1_5 a1_6 A1_7 c1_7 l1_7 r w hr0_7 hc0_7 hr1_7 hc1_7 h
  cases k with
  | zero => exact absurd h (by simp [spec_SameNode.f])
  | succ k =>
  simp only [spec_SameNode.f] at h
  have hu39 := Tryz.underlying39
  have HR0_7 := Aside0.mk hr0_7
  have HC0_7 := Aside0.mk hc0_7
  clear hr0_7 hc0_7
  have HR1_7 := Aside0.mk hr1_7
  have HC1_7 := Aside0.mk hc1_7
  clear hr1_7 hc1_7
  have HB := Aside0.mk (Below.refl w.heap.size w)
  have H : (if a0_0.toList = a1_0.toList then (if a0_1 = a1_1 then (if (a0_2 != a1_2) = true then (none) else (if a0_3 = a1_3 then (if a0_4 = a1_4 then ((math_Float64bits.f a0_5).bind fun t271 => ((math_Float64bits.f a1_5).bind fun t272 => (if t271 = t272 then (if a0_6.toList = a1_6.toList then (spec_SameNode.j0 k ((l0_7.length : Int) != (l1_7.length : Int)) a0_0 a0_1 a0_2 a0_3 a0_4 a0_5 a0_6 l0_7 a1_0 a1_1 a1_2 a1_3 a1_4 a1_5 a1_6 l1_7) else (none)) else (none)))) else (none)) else (none))) else (none)) else (none)) = some r := h
  clear h
  have HC3 := Aside0.mk H
  clear H
  go_enter Tryz.func47, Tryz.ntmps47
  go_upto_region 1 with (first | ((with_reducible refine gate_dst (N := 2) rfl ?_); (try (refine gate_guard (by rfl) ?_; dsimp only)); refine box_event ?hg (N := 2) ?hd (cs := #[.string a0_0, .int .i64 a0_1, .bool a0_2, .int .i64 a0_3, .int .u64 a0_4, .float .f64 a0_5, .string a0_6, .slice A0_7 l0_7.length c0_7]) (t := 39) ?hr ?_; (case hd => rfl); (case hg => rfl); (case hr => first | (go_simp; done) | (go_simp; rfl)); intro gb269 hg w4 hbox hb; have n0_ := Aside0.mk (below_step (by repeat (first | (with_reducible first | exact HB.out | apply below_alloc | apply pw_below_drewN | apply below_drew1) | exact HB.out)) hb); have n1_ := Aside0.mk (hbox); have n2_ := Aside0.mk ((by rw [hg]; exact (below_size (by repeat (first | (with_reducible first | exact HB.out | apply below_alloc | apply pw_below_drewN | apply below_drew1) | exact HB.out))) : w.heap.size ≤ gb269)); have n3_ := Aside0.mk ((by rw [hg]; exact (below_size (by repeat (first | (with_reducible first | exact HB.out | apply below_alloc | apply pw_below_drewN | apply below_drew1) | exact HB.out))) : w.heap.size ≤ gb269)); clear HB; have HB := n0_; have BK269 := n1_; have GW269 := n2_; have GE269 := n3_; clear n0_ n1_ n2_ n3_; clear hb hbox hg) | ((with_reducible refine gate_dst (N := 3) rfl ?_); (try (refine gate_guard (by rfl) ?_; dsimp only)); refine box_event ?hg (N := 3) ?hd (cs := #[.string a1_0, .int .i64 a1_1, .bool a1_2, .int .i64 a1_3, .int .u64 a1_4, .float .f64 a1_5, .string a1_6, .slice A1_7 l1_7.length c1_7]) (t := 39) ?hr ?_; (case hd => rfl); (case hg => rfl); (case hr => first | (go_simp; done) | (go_simp; rfl)); intro gb270 hg w5 hbox hb; have n0_ := Aside0.mk (blk_below (g := gb269) (o := .cells #[.string a0_0, .int .i64 a0_1, .bool a0_2, .int .i64 a0_3, .int .u64 a0_4, .float .f64 a0_5, .string a0_6, .slice A0_7 l0_7.length c0_7] 39 (0, 0)) (by (with_reducible repeat (first | refine blk_drewN ?_ _ | refine blk_drew ?_ | refine blk_alloc ?_ _)); exact BK269.out) hb); have n1_ := Aside0.mk (below_step (by repeat (first | (with_reducible first | exact HB.out | apply below_alloc | apply pw_below_drewN | apply below_drew1 | refine below_set ?_ GE269.out) | exact HB.out)) hb); have n2_ := Aside0.mk (hbox); have n3_ := Aside0.mk ((by rw [hg]; exact (below_size (by repeat (first | (with_reducible first | exact HB.out | apply below_alloc | apply pw_below_drewN | apply below_drew1 | refine below_set ?_ GE269.out) | exact HB.out))) : w.heap.size ≤ gb270)); have n4_ := Aside0.mk ((by rw [hg]; exact (below_size (by repeat (first | (with_reducible first | exact HB.out | apply below_alloc | apply pw_below_drewN | apply below_drew1 | refine below_set ?_ GE269.out) | exact HB.out))) : w.heap.size ≤ gb270)); have n5_ := Aside0.mk ((by rw [hg]; exact Nat.ne_of_lt (blk_lt (g := gb269) (o := .cells #[.string a0_0, .int .i64 a0_1, .bool a0_2, .int .i64 a0_3, .int .u64 a0_4, .float .f64 a0_5, .string a0_6, .slice A0_7 l0_7.length c0_7] 39 (0, 0)) (by (with_reducible repeat (first | refine blk_drewN ?_ _ | refine blk_drew ?_ | refine blk_alloc ?_ _)); exact BK269.out)) : gb269 ≠ gb270)); have n6_ := Aside0.mk ((by rw [hg]; exact Nat.ne_of_gt (blk_lt (g := gb269) (o := .cells #[.string a0_0, .int .i64 a0_1, .bool a0_2, .int .i64 a0_3, .int .u64 a0_4, .float .f64 a0_5, .string a0_6, .slice A0_7 l0_7.length c0_7] 39 (0, 0)) (by (with_reducible repeat (first | refine blk_drewN ?_ _ | refine blk_drew ?_ | refine blk_alloc ?_ _)); exact BK269.out)) : gb270 ≠ gb269)); clear BK269; clear HB; have BK269 := n0_; have HB := n1_; have BK270 := n2_; have GW270 := n3_; have GE270 := n4_; have NB269_270 := n5_; have NB270_269 := n6_; clear n0_ n1_ n2_ n3_ n4_ n5_ n6_; clear hb hbox hg))
  (try simp only [Act.put, List.setIfInBounds_toArray, List.set_cons_zero, List.set_cons_succ])
  go_cut [63] (fun v63 wc => ∃ (kq : Nat) (x63_2 : Bool), v63 = .bool x63_2 ∧ Aside0 (spec_SameNode.j0 kq x63_2 a0_0 a0_1 a0_2 a0_3 a0_4 a0_5 a0_6 l0_7 a1_0 a1_1 a1_2 a1_3 a1_4 a1_5 a1_6 l1_7 = some r) ∧ Aside0 (kq ≤ k) ∧ Aside0 (wc.heap[gb269]? = some (.cells #[.string a0_0, .int .i64 a0_1, .bool a0_2, .int .i64 a0_3, .int .u64 a0_4, .float .f64 a0_5, .string a0_6, (.slice A0_7 l0_7.length c0_7)] 39 (0, 0))) ∧ Aside0 (wc.heap[gb270]? = some (.cells #[.string a1_0, .int .i64 a1_1, .bool a1_2, .int .i64 a1_3, .int .u64 a1_4, .float .f64 a1_5, .string a1_6, (.slice A1_7 l1_7.length c1_7)] 39 (0, 0))) ∧ Aside0 (Below w.heap.size w wc))
  case first =>
    have H := HC3.out
    clear HC3
    by_cases c6 : a0_0.toList = a1_0.toList
    · rw [if_pos c6] at H
      have c6b0 : (a0_0.toList == a1_0.toList) = true := beq_iff_eq.mpr c6
      have c6b1 : (a0_0.toList != a1_0.toList) = false := bne_eq_false_iff_eq.mpr c6
      clear c6
      (first | rw [c6b0] | (simp only [i64_w, i32_w]; rw [c6b0]) | skip)
      by_cases c7 : a0_1 = a1_1
      · rw [if_pos c7] at H
        have c7b0 : (a0_1 == a1_1) = true := beq_iff_eq.mpr c7
        have c7b1 : (a0_1 != a1_1) = false := bne_eq_false_iff_eq.mpr c7
        clear c7
        by_cases c8 : (a0_2 != a1_2) = true
        · rw [if_pos c8] at H
          have c8b0 : (a0_2 != a1_2) = true := c8
          (try (have c8b1 : decide (a0_2 = a1_2) = false := by simpa using c8))
          (try (have c8b2 : (a0_2 == a1_2) = false := by simpa using c8))
          (try (have c8b3 : ¬ (a0_2 = a1_2) := by simpa using c8))
          clear c8
          exact absurd H (by simp)
        · rw [if_neg c8] at H
          have c8b0 : (a0_2 != a1_2) = false := by simpa using c8
          (try (have c8b1 : decide (a0_2 = a1_2) = true := by simpa using c8))
          (try (have c8b2 : (a0_2 == a1_2) = true := by simpa using c8))
          clear c8
          by_cases c9 : a0_3 = a1_3
          · rw [if_pos c9] at H
            have c9b0 : (a0_3 == a1_3) = true := beq_iff_eq.mpr c9
            have c9b1 : (a0_3 != a1_3) = false := bne_eq_false_iff_eq.mpr c9
            clear c9
            by_cases c10 : a0_4 = a1_4
            · rw [if_pos c10] at H
              have c10b0 : (a0_4 == a1_4) = true := beq_iff_eq.mpr c10
              have c10b1 : (a0_4 != a1_4) = false := bne_eq_false_iff_eq.mpr c10
              clear c10
              replace H := Option.bind_eq_some_iff.mp H
              obtain ⟨t271, A110, H⟩ := H
              try dsimp -simprocs only at H
              have A11 := Aside0.mk A110
              clear A110
              replace H := Option.bind_eq_some_iff.mp H
              obtain ⟨t272, A120, H⟩ := H
              try dsimp -simprocs only at H
              have A12 := Aside0.mk A120
              clear A120
              by_cases c13 : t271 = t272
              · rw [if_pos c13] at H
                have c13b0 : (t271 == t272) = true := beq_iff_eq.mpr c13
                have c13b1 : (t271 != t272) = false := bne_eq_false_iff_eq.mpr c13
                clear c13
                by_cases c14 : a0_6.toList = a1_6.toList
                · rw [if_pos c14] at H
                  have c14b0 : (a0_6.toList == a1_6.toList) = true := beq_iff_eq.mpr c14
                  have c14b1 : (a0_6.toList != a1_6.toList) = false := bne_eq_false_iff_eq.mpr c14
                  clear c14
                  have H' := Aside0.mk H
                  clear H
                  try go_wp2
                  have n0_ := Aside0.mk (blk_drew BK269.out)
                  have n1_ := Aside0.mk (blk_drew BK270.out)
                  have n2_ := Aside0.mk (below_drew1 HB.out)
                  clear BK269
                  clear BK270
                  clear HB
                  have BK269 := n0_
                  have BK270 := n1_
                  have HB := n2_
                  clear n0_ n1_ n2_
                  refine start_ (n := 58) (S := fun w' => w'.cell? ⟨gb269, 0, none⟩ = some (.string a0_0) ∧ w'.cell? ⟨gb269, 1, none⟩ = some (.int .i64 a0_1) ∧ w'.cell? ⟨gb269, 2, none⟩ = some (.bool a0_2) ∧ w'.cell? ⟨gb269, 3, none⟩ = some (.int .i64 a0_3) ∧ w'.cell? ⟨gb269, 4, none⟩ = some (.int .u64 a0_4) ∧ w'.cell? ⟨gb269, 5, none⟩ = some (.float .f64 a0_5) ∧ w'.cell? ⟨gb269, 6, none⟩ = some (.string a0_6) ∧ w'.cell? ⟨gb269, 7, none⟩ = some (.slice A0_7 l0_7.length c0_7) ∧ w'.cell? ⟨gb270, 0, none⟩ = some (.string a1_0) ∧ w'.cell? ⟨gb270, 1, none⟩ = some (.int .i64 a1_1) ∧ w'.cell? ⟨gb270, 2, none⟩ = some (.bool a1_2) ∧ w'.cell? ⟨gb270, 3, none⟩ = some (.int .i64 a1_3) ∧ w'.cell? ⟨gb270, 4, none⟩ = some (.int .u64 a1_4) ∧ w'.cell? ⟨gb270, 5, none⟩ = some (.float .f64 a1_5) ∧ w'.cell? ⟨gb270, 6, none⟩ = some (.string a1_6) ∧ w'.cell? ⟨gb270, 7, none⟩ = some (.slice A1_7 l1_7.length c1_7)) (ds := []) #[false, false, false, false, false, false, false, false, false, false, false, false, false, false, false, false, false, false, false, false, false, false, false, false, false, false, false, false, false, false, false, false, false, false, false, false, false, false, false, false, false, false, false, false, false, false, false, false, false, false, false, false, false, false, false, false, false, false] (by kernel_rfl) rfl rfl ⟨(blk_cell BK269.out 0).trans rfl, (blk_cell BK269.out 1).trans rfl, (blk_cell BK269.out 2).trans rfl, (blk_cell BK269.out 3).trans rfl, (blk_cell BK269.out 4).trans rfl, (blk_cell BK269.out 5).trans rfl, (blk_cell BK269.out 6).trans rfl, (blk_cell BK269.out 7).trans rfl, (blk_cell BK270.out 0).trans rfl, (blk_cell BK270.out 1).trans rfl, (blk_cell BK270.out 2).trans rfl, (blk_cell BK270.out 3).trans rfl, (blk_cell BK270.out 4).trans rfl, (blk_cell BK270.out 5).trans rfl, (blk_cell BK270.out 6).trans rfl, (blk_cell BK270.out 7).trans rfl⟩ (fun hHeld => ?_); refine with_tabW spec_SameNode.tab1 spec_SameNode.bits1 (fun HT_ HW_ => ?_)
                  generalize w5.drew = w15 at BK269 BK270 HB hHeld ⊢
                  refine pure_ (i := 0) (N := some 6) (v := ?_) (a' := ?_) #[true, false, false, false, false, false, false, false, false, false, false, false, false, false, false, false, false, false, false, false, false, false, false, false, false, false, false, false, false, false, false, false, false, false, false, false, false, false, false, false, false, false, false, false, false, false, false, false, false, false, false, false, false, false, false, false, false, false] rfl rfl (any_of HT_.out (by kernel_rfl)) (fun _ _ _ h => h) (Or.inl ⟨by rfl, ?_⟩) ?_ ?_
                  rotate_left
                  · intro w'
                    go_simp
                    with_reducible rfl
                  rotate_left
                  · simp only [Act.put, List.setIfInBounds_toArray, List.set_cons_zero, List.set_cons_succ, i64_w, i32_w]
                    rfl
                  refine pure_ (i := 2) (N := some 8) (v := ?_) (a' := ?_) #[true, false, true, false, false, false, false, false, false, false, false, false, false, false, false, false, false, false, false, false, false, false, false, false, false, false, false, false, false, false, false, false, false, false, false, false, false, false, false, false, false, false, false, false, false, false, false, false, false, false, false, false, false, false, false, false, false, false] rfl rfl (any_of HT_.out (by kernel_rfl)) (fun _ _ _ h => h) (Or.inl ⟨by rfl, ?_⟩) ?_ ?_
                  rotate_left
                  · intro w'
                    go_simp
                    with_reducible rfl
                  rotate_left
                  · simp only [Act.put, List.setIfInBounds_toArray, List.set_cons_zero, List.set_cons_succ, i64_w, i32_w]
                    rfl
                  refine take_ (i := 1) (N := some 7) (v := ?_) (a' := ?_) #[true, true, true, false, false, false, false, false, false, false, false, false, false, false, false, false, false, false, false, false, false, false, false, false, false, false, false, false, false, false, false, false, false, false, false, false, false, false, false, false, false, false, false, false, false, false, false, false, false, false, false, false, false, false, false, false, false, false] rfl rfl (take_ofW HT_.out HW_.out (by kernel_rfl)) (fun _ _ _ h => h) (Or.inl ⟨by rfl, ?_⟩) hHeld ?_ ?_
                  rotate_left
                  · rintro w' ⟨s0, s1, s2, s3, s4, s5, s6, s7, s8, s9, s10, s11, s12, s13, s14, s15⟩
                    go_simp
                    with_reducible rfl
                  rotate_left
                  · simp only [Act.put, List.setIfInBounds_toArray, List.set_cons_zero, List.set_cons_succ, i64_w, i32_w]
                    rfl
                  refine take_ (i := 3) (N := some 9) (v := ?_) (a' := ?_) #[true, true, true, true, false, false, false, false, false, false, false, false, false, false, false, false, false, false, false, false, false, false, false, false, false, false, false, false, false, false, false, false, false, false, false, false, false, false, false, false, false, false, false, false, false, false, false, false, false, false, false, false, false, false, false, false, false, false] rfl rfl (take_ofW HT_.out HW_.out (by kernel_rfl)) (fun _ _ _ h => h) (Or.inl ⟨by rfl, ?_⟩) hHeld ?_ ?_
                  rotate_left
                  · rintro w' ⟨s0, s1, s2, s3, s4, s5, s6, s7, s8, s9, s10, s11, s12, s13, s14, s15⟩
                    go_simp
                    with_reducible rfl
                  rotate_left
                  · simp only [Act.put, List.setIfInBounds_toArray, List.set_cons_zero, List.set_cons_succ, i64_w, i32_w]
                    rfl
                  refine pure_ (i := 4) (N := some 10) (v := ?_) (a' := ?_) #[true, true, true, true, true, false, false, false, false, false, false, false, false, false, false, false, false, false, false, false, false, false, false, false, false, false, false, false, false, false, false, false, false, false, false, false, false, false, false, false, false, false, false, false, false, false, false, false, false, false, false, false, false, false, false, false, false, false] rfl rfl (any_of HT_.out (by kernel_rfl)) (fun _ _ _ h => h) (Or.inl ⟨by rfl, ?_⟩) ?_ ?_
                  rotate_left
                  · intro w'
                    go_simp
                    with_reducible rfl
                  rotate_left
                  · simp only [Act.put, List.setIfInBounds_toArray, List.set_cons_zero, List.set_cons_succ, i64_w, i32_w]
                    rfl
                  refine pure_ (i := 5) (N := some 11) (v := ?_) (a' := ?_) #[true, true, true, true, true, true, false, false, false, false, false, false, false, false, false, false, false, false, false, false, false, false, false, false, false, false, false, false, false, false, false, false, false, false, false, false, false, false, false, false, false, false, false, false, false, false, false, false, false, false, false, false, false, false, false, false, false, false] rfl rfl (any_of HT_.out (by kernel_rfl)) (fun _ _ _ h => h) (Or.inl ⟨by rfl, ?_⟩) ?_ ?_
                  rotate_left
                  · intro w'
                    go_simp
                    with_reducible rfl
                  rotate_left
                  · simp only [Act.put, List.setIfInBounds_toArray, List.set_cons_zero, List.set_cons_succ, i64_w, i32_w]
                    rfl
                  refine pure_ (i := 6) (N := some 12) (v := ?_) (a' := ?_) #[true, true, true, true, true, true, true, false, false, false, false, false, false, false, false, false, false, false, false, false, false, false, false, false, false, false, false, false, false, false, false, false, false, false, false, false, false, false, false, false, false, false, false, false, false, false, false, false, false, false, false, false, false, false, false, false, false, false] rfl rfl (any_of HT_.out (by kernel_rfl)) (fun _ _ _ h => h) (Or.inl ⟨by rfl, ?_⟩) ?_ ?_
                  rotate_left
                  · intro w'
                    go_simp
                    with_reducible rfl
                  rotate_left
                  · simp only [Act.put, List.setIfInBounds_toArray, List.set_cons_zero, List.set_cons_succ, i64_w, i32_w]
                    rfl
                  refine pure_ (i := 8) (N := some 14) (v := ?_) (a' := ?_) #[true, true, true, true, true, true, true, false, true, false, false, false, false, false, false, false, false, false, false, false, false, false, false, false, false, false, false, false, false, false, false, false, false, false, false, false, false, false, false, false, false, false, false, false, false, false, false, false, false, false, false, false, false, false, false, false, false, false] rfl rfl (any_of HT_.out (by kernel_rfl)) (fun _ _ _ h => h) (Or.inl ⟨by rfl, ?_⟩) ?_ ?_
                  rotate_left
                  · intro w'
                    go_simp
                    with_reducible rfl
                  rotate_left
                  · simp only [Act.put, List.setIfInBounds_toArray, List.set_cons_zero, List.set_cons_succ, i64_w, i32_w]
                    rfl
                  refine take_ (i := 7) (N := some 13) (v := ?_) (a' := ?_) #[true, true, true, true, true, true, true, true, true, false, false, false, false, false, false, false, false, false, false, false, false, false, false, false, false, false, false, false, false, false, false, false, false, false, false, false, false, false, false, false, false, false, false, false, false, false, false, false, false, false, false, false, false, false, false, false, false, false] rfl rfl (take_ofW HT_.out HW_.out (by kernel_rfl)) (fun _ _ _ h => h) (Or.inl ⟨by rfl, ?_⟩) hHeld ?_ ?_
                  rotate_left
                  · rintro w' ⟨s0, s1, s2, s3, s4, s5, s6, s7, s8, s9, s10, s11, s12, s13, s14, s15⟩
                    go_simp
                    with_reducible rfl
                  rotate_left
                  · simp only [Act.put, List.setIfInBounds_toArray, List.set_cons_zero, List.set_cons_succ, i64_w, i32_w]
                    rfl
                  refine take_ (i := 9) (N := some 15) (v := ?_) (a' := ?_) #[true, true, true, true, true, true, true, true, true, true, false, false, false, false, false, false, false, false, false, false, false, false, false, false, false, false, false, false, false, false, false, false, false, false, false, false, false, false, false, false, false, false, false, false, false, false, false, false, false, false, false, false, false, false, false, false, false, false] rfl rfl (take_ofW HT_.out HW_.out (by kernel_rfl)) (fun _ _ _ h => h) (Or.inl ⟨by rfl, ?_⟩) hHeld ?_ ?_
                  rotate_left
                  · rintro w' ⟨s0, s1, s2, s3, s4, s5, s6, s7, s8, s9, s10, s11, s12, s13, s14, s15⟩
                    go_simp
                    with_reducible rfl
                  rotate_left
                  · simp only [Act.put, List.setIfInBounds_toArray, List.set_cons_zero, List.set_cons_succ, i64_w, i32_w]
                    rfl
                  refine pure_ (i := 10) (N := some 16) (v := ?_) (a' := ?_) #[true, true, true, true, true, true, true, true, true, true, true, false, false, false, false, false, false, false, false, false, false, false, false, false, false, false, false, false, false, false, false, false, false, false, false, false, false, false, false, false, false, false, false, false, false, false, false, false, false, false, false, false, false, false, false, false, false, false] rfl rfl (any_of HT_.out (by kernel_rfl)) (fun _ _ _ h => h) (Or.inl ⟨by rfl, ?_⟩) ?_ ?_
                  rotate_left
                  · intro w'
                    go_simp
                    with_reducible rfl
                  rotate_left
                  · simp only [Act.put, List.setIfInBounds_toArray, List.set_cons_zero, List.set_cons_succ, i64_w, i32_w]
                    rfl
                  refine pure_ (i := 11) (N := some 17) (v := ?_) (a' := ?_) #[true, true, true, true, true, true, true, true, true, true, true, true, false, false, false, false, false, false, false, false, false, false, false, false, false, false, false, false, false, false, false, false, false, false, false, false, false, false, false, false, false, false, false, false, false, false, false, false, false, false, false, false, false, false, false, false, false, false] rfl rfl (any_of HT_.out (by kernel_rfl)) (fun _ _ _ h => h) (Or.inl ⟨by rfl, ?_⟩) ?_ ?_
                  rotate_left
                  · intro w'
                    go_simp
                    with_reducible rfl
                  rotate_left
                  · simp only [Act.put, List.setIfInBounds_toArray, List.set_cons_zero, List.set_cons_succ, i64_w, i32_w]
                    rfl
                  refine pure_ (i := 12) (N := some 18) (v := ?_) (a' := ?_) #[true, true, true, true, true, true, true, true, true, true, true, true, true, false, false, false, false, false, false, false, false, false, false, false, false, false, false, false, false, false, false, false, false, false, false, false, false, false, false, false, false, false, false, false, false, false, false, false, false, false, false, false, false, false, false, false, false, false] rfl rfl (any_of HT_.out (by kernel_rfl)) (fun _ _ _ h => h) (Or.inl ⟨by rfl, ?_⟩) ?_ ?_
                  rotate_left
                  · intro w'
                    go_simp
                    with_reducible rfl
                  rotate_left
                  · simp only [Act.put, List.setIfInBounds_toArray, List.set_cons_zero, List.set_cons_succ, i64_w, i32_w]
                    rfl
                  refine pure_ (i := 13) (N := some 19) (v := ?_) (a' := ?_) #[true, true, true, true, true, true, true, true, true, true, true, true, true, true, false, false, false, false, false, false, false, false, false, false, false, false, false, false, false, false, false, false, false, false, false, false, false, false, false, false, false, false, false, false, false, false, false, false, false, false, false, false, false, false, false, false, false, false] rfl rfl (any_of HT_.out (by kernel_rfl)) (fun _ _ _ h => h) (Or.inl ⟨by rfl, ?_⟩) ?_ ?_
                  rotate_left
                  · intro w'
                    go_simp
                    with_reducible rfl
                  rotate_left
                  · simp only [Act.put, List.setIfInBounds_toArray, List.set_cons_zero, List.set_cons_succ, i64_w, i32_w]
                    rfl
                  refine pure_ (i := 15) (N := some 21) (v := ?_) (a' := ?_) #[true, true, true, true, true, true, true, true, true, true, true, true, true, true, false, true, false, false, false, false, false, false, false, false, false, false, false, false, false, false, false, false, false, false, false, false, false, false, false, false, false, false, false, false, false, false, false, false, false, false, false, false, false, false, false, false, false, false] rfl rfl (any_of HT_.out (by kernel_rfl)) (fun _ _ _ h => h) (Or.inl ⟨by rfl, ?_⟩) ?_ ?_
                  rotate_left
                  · intro w'
                    go_simp
                    with_reducible rfl
                  rotate_left
                  · simp only [Act.put, List.setIfInBounds_toArray, List.set_cons_zero, List.set_cons_succ, i64_w, i32_w]
                    rfl
                  refine take_ (i := 14) (N := some 20) (v := ?_) (a' := ?_) #[true, true, true, true, true, true, true, true, true, true, true, true, true, true, true, true, false, false, false, false, false, false, false, false, false, false, false, false, false, false, false, false, false, false, false, false, false, false, false, false, false, false, false, false, false, false, false, false, false, false, false, false, false, false, false, false, false, false] rfl rfl (take_ofW HT_.out HW_.out (by kernel_rfl)) (fun _ _ _ h => h) (Or.inl ⟨by rfl, ?_⟩) hHeld ?_ ?_
                  rotate_left
                  · rintro w' ⟨s0, s1, s2, s3, s4, s5, s6, s7, s8, s9, s10, s11, s12, s13, s14, s15⟩
                    go_simp
                    with_reducible rfl
                  rotate_left
                  · simp only [Act.put, List.setIfInBounds_toArray, List.set_cons_zero, List.set_cons_succ, i64_w, i32_w]
                    rfl
                  refine take_ (i := 16) (N := some 22) (v := ?_) (a' := ?_) #[true, true, true, true, true, true, true, true, true, true, true, true, true, true, true, true, true, false, false, false, false, false, false, false, false, false, false, false, false, false, false, false, false, false, false, false, false, false, false, false, false, false, false, false, false, false, false, false, false, false, false, false, false, false, false, false, false, false] rfl rfl (take_ofW HT_.out HW_.out (by kernel_rfl)) (fun _ _ _ h => h) (Or.inl ⟨by rfl, ?_⟩) hHeld ?_ ?_
                  rotate_left
                  · rintro w' ⟨s0, s1, s2, s3, s4, s5, s6, s7, s8, s9, s10, s11, s12, s13, s14, s15⟩
                    go_simp
                    with_reducible rfl
                  rotate_left
                  · simp only [Act.put, List.setIfInBounds_toArray, List.set_cons_zero, List.set_cons_succ, i64_w, i32_w]
                    rfl
                  refine pure_ (i := 17) (N := some 23) (v := ?_) (a' := ?_) #[true, true, true, true, true, true, true, true, true, true, true, true, true, true, true, true, true, true, false, false, false, false, false, false, false, false, false, false, false, false, false, false, false, false, false, false, false, false, false, false, false, false, false, false, false, false, false, false, false, false, false, false, false, false, false, false, false, false] rfl rfl (any_of HT_.out (by kernel_rfl)) (fun _ _ _ h => h) (Or.inl ⟨by rfl, ?_⟩) ?_ ?_
                  rotate_left
                  · intro w'
                    go_simp
                    with_reducible rfl
                  rotate_left
                  · simp only [Act.put, List.setIfInBounds_toArray, List.set_cons_zero, List.set_cons_succ, i64_w, i32_w]
                    rfl
                  refine pure_ (i := 18) (N := some 24) (v := ?_) (a' := ?_) #[true, true, true, true, true, true, true, true, true, true, true, true, true, true, true, true, true, true, true, false, false, false, false, false, false, false, false, false, false, false, false, false, false, false, false, false, false, false, false, false, false, false, false, false, false, false, false, false, false, false, false, false, false, false, false, false, false, false] rfl rfl (any_of HT_.out (by kernel_rfl)) (fun _ _ _ h => h) (Or.inl ⟨by rfl, ?_⟩) ?_ ?_
                  rotate_left
                  · intro w'
                    go_simp
                    with_reducible rfl
                  rotate_left
                  · simp only [Act.put, List.setIfInBounds_toArray, List.set_cons_zero, List.set_cons_succ, i64_w, i32_w]
                    rfl
                  refine pure_ (i := 19) (N := some 25) (v := ?_) (a' := ?_) #[true, true, true, true, true, true, true, true, true, true, true, true, true, true, true, true, true, true, true, true, false, false, false, false, false, false, false, false, false, false, false, false, false, false, false, false, false, false, false, false, false, false, false, false, false, false, false, false, false, false, false, false, false, false, false, false, false, false] rfl rfl (any_of HT_.out (by kernel_rfl)) (fun _ _ _ h => h) (Or.inl ⟨by rfl, ?_⟩) ?_ ?_
                  rotate_left
                  · intro w'
                    go_simp
                    with_reducible rfl
                  rotate_left
                  · simp only [Act.put, List.setIfInBounds_toArray, List.set_cons_zero, List.set_cons_succ, i64_w, i32_w]
                    rfl
                  refine pure_ (i := 20) (N := some 26) (v := ?_) (a' := ?_) #[true, true, true, true, true, true, true, true, true, true, true, true, true, true, true, true, true, true, true, true, true, false, false, false, false, false, false, false, false, false, false, false, false, false, false, false, false, false, false, false, false, false, false, false, false, false, false, false, false, false, false, false, false, false, false, false, false, false] rfl rfl (any_of HT_.out (by kernel_rfl)) (fun _ _ _ h => h) (Or.inl ⟨by rfl, ?_⟩) ?_ ?_
                  rotate_left
                  · intro w'
                    go_simp
                    with_reducible rfl
                  rotate_left
                  · simp only [Act.put, List.setIfInBounds_toArray, List.set_cons_zero, List.set_cons_succ, i64_w, i32_w]
                    rfl
                  refine pure_ (i := 22) (N := some 28) (v := ?_) (a' := ?_) #[true, true, true, true, true, true, true, true, true, true, true, true, true, true, true, true, true, true, true, true, true, false, true, false, false, false, false, false, false, false, false, false, false, false, false, false, false, false, false, false, false, false, false, false, false, false, false, false, false, false, false, false, false, false, false, false, false, false] rfl rfl (any_of HT_.out (by kernel_rfl)) (fun _ _ _ h => h) (Or.inl ⟨by rfl, ?_⟩) ?_ ?_
                  rotate_left
                  · intro w'
                    go_simp
                    with_reducible rfl
                  rotate_left
                  · simp only [Act.put, List.setIfInBounds_toArray, List.set_cons_zero, List.set_cons_succ, i64_w, i32_w]
                    rfl
                  refine take_ (i := 21) (N := some 27) (v := ?_) (a' := ?_) #[true, true, true, true, true, true, true, true, true, true, true, true, true, true, true, true, true, true, true, true, true, true, true, false, false, false, false, false, false, false, false, false, false, false, false, false, false, false, false, false, false, false, false, false, false, false, false, false, false, false, false, false, false, false, false, false, false, false] rfl rfl (take_ofW HT_.out HW_.out (by kernel_rfl)) (fun _ _ _ h => h) (Or.inl ⟨by rfl, ?_⟩) hHeld ?_ ?_
                  rotate_left
                  · rintro w' ⟨s0, s1, s2, s3, s4, s5, s6, s7, s8, s9, s10, s11, s12, s13, s14, s15⟩
                    go_simp
                    with_reducible rfl
                  rotate_left
                  · simp only [Act.put, List.setIfInBounds_toArray, List.set_cons_zero, List.set_cons_succ, i64_w, i32_w]
                    rfl
                  refine take_ (i := 23) (N := some 29) (v := ?_) (a' := ?_) #[true, true, true, true, true, true, true, true, true, true, true, true, true, true, true, true, true, true, true, true, true, true, true, true, false, false, false, false, false, false, false, false, false, false, false, false, false, false, false, false, false, false, false, false, false, false, false, false, false, false, false, false, false, false, false, false, false, false] rfl rfl (take_ofW HT_.out HW_.out (by kernel_rfl)) (fun _ _ _ h => h) (Or.inl ⟨by rfl, ?_⟩) hHeld ?_ ?_
                  rotate_left
                  · rintro w' ⟨s0, s1, s2, s3, s4, s5, s6, s7, s8, s9, s10, s11, s12, s13, s14, s15⟩
                    go_simp
                    with_reducible rfl
                  rotate_left
                  · simp only [Act.put, List.setIfInBounds_toArray, List.set_cons_zero, List.set_cons_succ, i64_w, i32_w]
                    rfl
                  refine pure_ (i := 24) (N := some 30) (v := ?_) (a' := ?_) #[true, true, true, true, true, true, true, true, true, true, true, true, true, true, true, true, true, true, true, true, true, true, true, true, true, false, false, false, false, false, false, false, false, false, false, false, false, false, false, false, false, false, false, false, false, false, false, false, false, false, false, false, false, false, false, false, false, false] rfl rfl (any_of HT_.out (by kernel_rfl)) (fun _ _ _ h => h) (Or.inl ⟨by rfl, ?_⟩) ?_ ?_
                  rotate_left
                  · intro w'
                    go_simp
                    with_reducible rfl
                  rotate_left
                  · simp only [Act.put, List.setIfInBounds_toArray, List.set_cons_zero, List.set_cons_succ, i64_w, i32_w]
                    rfl
                  refine pure_ (i := 25) (N := some 31) (v := ?_) (a' := ?_) #[true, true, true, true, true, true, true, true, true, true, true, true, true, true, true, true, true, true, true, true, true, true, true, true, true, true, false, false, false, false, false, false, false, false, false, false, false, false, false, false, false, false, false, false, false, false, false, false, false, false, false, false, false, false, false, false, false, false] rfl rfl (any_of HT_.out (by kernel_rfl)) (fun _ _ _ h => h) (Or.inl ⟨by rfl, ?_⟩) ?_ ?_
                  rotate_left
                  · intro w'
                    go_simp
                    with_reducible rfl
                  rotate_left
                  · simp only [Act.put, List.setIfInBounds_toArray, List.set_cons_zero, List.set_cons_succ, i64_w, i32_w]
                    rfl
                  refine pure_ (i := 26) (N := some 32) (v := ?_) (a' := ?_) #[true, true, true, true, true, true, true, true, true, true, true, true, true, true, true, true, true, true, true, true, true, true, true, true, true, true, true, false, false, false, false, false, false, false, false, false, false, false, false, false, false, false, false, false, false, false, false, false, false, false, false, false, false, false, false, false, false, false] rfl rfl (any_of HT_.out (by kernel_rfl)) (fun _ _ _ h => h) (Or.inl ⟨by rfl, ?_⟩) ?_ ?_
                  rotate_left
                  · intro w'
                    go_simp
                    with_reducible rfl
                  rotate_left
                  · simp only [Act.put, List.setIfInBounds_toArray, List.set_cons_zero, List.set_cons_succ, i64_w, i32_w]
                    rfl
                  refine pure_ (i := 27) (N := some 33) (v := ?_) (a' := ?_) #[true, true, true, true, true, true, true, true, true, true, true, true, true, true, true, true, true, true, true, true, true, true, true, true, true, true, true, true, false, false, false, false, false, false, false, false, false, false, false, false, false, false, false, false, false, false, false, false, false, false, false, false, false, false, false, false, false, false] rfl rfl (any_of HT_.out (by kernel_rfl)) (fun _ _ _ h => h) (Or.inl ⟨by rfl, ?_⟩) ?_ ?_
                  rotate_left
                  · intro w'
                    go_simp
                    with_reducible rfl
                  rotate_left
                  · simp only [Act.put, List.setIfInBounds_toArray, List.set_cons_zero, List.set_cons_succ, i64_w, i32_w]
                    rfl
                  refine pure_ (i := 29) (N := some 35) (v := ?_) (a' := ?_) #[true, true, true, true, true, true, true, true, true, true, true, true, true, true, true, true, true, true, true, true, true, true, true, true, true, true, true, true, false, true, false, false, false, false, false, false, false, false, false, false, false, false, false, false, false, false, false, false, false, false, false, false, false, false, false, false, false, false] rfl rfl (any_of HT_.out (by kernel_rfl)) (fun _ _ _ h => h) (Or.inl ⟨by rfl, ?_⟩) ?_ ?_
                  rotate_left
                  · intro w'
                    go_simp
                    with_reducible rfl
                  rotate_left
                  · simp only [Act.put, List.setIfInBounds_toArray, List.set_cons_zero, List.set_cons_succ, i64_w, i32_w]
                    rfl
                  refine take_ (i := 28) (N := some 34) (v := ?_) (a' := ?_) #[true, true, true, true, true, true, true, true, true, true, true, true, true, true, true, true, true, true, true, true, true, true, true, true, true, true, true, true, true, true, false, false, false, false, false, false, false, false, false, false, false, false, false, false, false, false, false, false, false, false, false, false, false, false, false, false, false, false] rfl rfl (take_ofW HT_.out HW_.out (by kernel_rfl)) (fun _ _ _ h => h) (Or.inl ⟨by rfl, ?_⟩) hHeld ?_ ?_
                  rotate_left
                  · rintro w' ⟨s0, s1, s2, s3, s4, s5, s6, s7, s8, s9, s10, s11, s12, s13, s14, s15⟩
                    go_simp
                    with_reducible rfl
                  rotate_left
                  · simp only [Act.put, List.setIfInBounds_toArray, List.set_cons_zero, List.set_cons_succ, i64_w, i32_w]
                    rfl
                  refine take_ (i := 30) (N := some 36) (v := ?_) (a' := ?_) #[true, true, true, true, true, true, true, true, true, true, true, true, true, true, true, true, true, true, true, true, true, true, true, true, true, true, true, true, true, true, true, false, false, false, false, false, false, false, false, false, false, false, false, false, false, false, false, false, false, false, false, false, false, false, false, false, false, false] rfl rfl (take_ofW HT_.out HW_.out (by kernel_rfl)) (fun _ _ _ h => h) (Or.inl ⟨by rfl, ?_⟩) hHeld ?_ ?_
                  rotate_left
                  · rintro w' ⟨s0, s1, s2, s3, s4, s5, s6, s7, s8, s9, s10, s11, s12, s13, s14, s15⟩
                    go_simp
                    with_reducible rfl
                  rotate_left
                  · simp only [Act.put, List.setIfInBounds_toArray, List.set_cons_zero, List.set_cons_succ, i64_w, i32_w]
                    rfl
                  refine pure_ (i := 31) (N := some 37) (v := ?_) (a' := ?_) #[true, true, true, true, true, true, true, true, true, true, true, true, true, true, true, true, true, true, true, true, true, true, true, true, true, true, true, true, true, true, true, true, false, false, false, false, false, false, false, false, false, false, false, false, false, false, false, false, false, false, false, false, false, false, false, false, false, false] rfl rfl (any_of HT_.out (by kernel_rfl)) (fun _ _ _ h => h) (Or.inl ⟨by rfl, ?_⟩) ?_ ?_
                  rotate_left
                  · intro w'
                    go_simp
                    with_reducible rfl
                  rotate_left
                  · simp only [Act.put, List.setIfInBounds_toArray, List.set_cons_zero, List.set_cons_succ, i64_w, i32_w]
                    rfl
                  refine pure_ (i := 32) (N := some 38) (v := ?_) (a' := ?_) #[true, true, true, true, true, true, true, true, true, true, true, true, true, true, true, true, true, true, true, true, true, true, true, true, true, true, true, true, true, true, true, true, true, false, false, false, false, false, false, false, false, false, false, false, false, false, false, false, false, false, false, false, false, false, false, false, false, false] rfl rfl (any_of HT_.out (by kernel_rfl)) (fun _ _ _ h => h) (Or.inl ⟨by rfl, ?_⟩) ?_ ?_
                  rotate_left
                  · intro w'
                    go_simp
                    with_reducible rfl
                  rotate_left
                  · simp only [Act.put, List.setIfInBounds_toArray, List.set_cons_zero, List.set_cons_succ, i64_w, i32_w]
                    rfl
                  refine pure_ (i := 33) (N := some 39) (v := ?_) (a' := ?_) #[true, true, true, true, true, true, true, true, true, true, true, true, true, true, true, true, true, true, true, true, true, true, true, true, true, true, true, true, true, true, true, true, true, true, false, false, false, false, false, false, false, false, false, false, false, false, false, false, false, false, false, false, false, false, false, false, false, false] rfl rfl (any_of HT_.out (by kernel_rfl)) (fun _ _ _ h => h) (Or.inl ⟨by rfl, ?_⟩) ?_ ?_
                  rotate_left
                  · intro w'
                    go_simp
                    with_reducible rfl
                  rotate_left
                  · simp only [Act.put, List.setIfInBounds_toArray, List.set_cons_zero, List.set_cons_succ, i64_w, i32_w]
                    rfl
                  refine pure_ (i := 34) (N := some 40) (v := ?_) (a' := ?_) #[true, true, true, true, true, true, true, true, true, true, true, true, true, true, true, true, true, true, true, true, true, true, true, true, true, true, true, true, true, true, true, true, true, true, true, false, false, false, false, false, false, false, false, false, false, false, false, false, false, false, false, false, false, false, false, false, false, false] rfl rfl (any_of HT_.out (by kernel_rfl)) (fun _ _ _ h => h) (Or.inl ⟨by rfl, ?_⟩) ?_ ?_
                  rotate_left
                  · intro w'
                    go_simp
                    with_reducible rfl
                  rotate_left
                  · simp only [Act.put, List.setIfInBounds_toArray, List.set_cons_zero, List.set_cons_succ, i64_w, i32_w]
                    rfl
                  refine pure_ (i := 37) (N := some 43) (v := ?_) (a' := ?_) #[true, true, true, true, true, true, true, true, true, true, true, true, true, true, true, true, true, true, true, true, true, true, true, true, true, true, true, true, true, true, true, true, true, true, true, false, false, true, false, false, false, false, false, false, false, false, false, false, false, false, false, false, false, false, false, false, false, false] rfl rfl (any_of HT_.out (by kernel_rfl)) (fun _ _ _ h => h) (Or.inl ⟨by rfl, ?_⟩) ?_ ?_
                  rotate_left
                  · intro w'
                    go_simp
                    with_reducible rfl
                  rotate_left
                  · simp only [Act.put, List.setIfInBounds_toArray, List.set_cons_zero, List.set_cons_succ, i64_w, i32_w]
                    rfl
                  refine take_ (i := 35) (N := some 41) (v := ?_) (a' := ?_) #[true, true, true, true, true, true, true, true, true, true, true, true, true, true, true, true, true, true, true, true, true, true, true, true, true, true, true, true, true, true, true, true, true, true, true, true, false, true, false, false, false, false, false, false, false, false, false, false, false, false, false, false, false, false, false, false, false, false] rfl rfl (take_ofW HT_.out HW_.out (by kernel_rfl)) (fun _ _ _ h => h) (Or.inl ⟨by rfl, ?_⟩) hHeld ?_ ?_
                  rotate_left
                  · rintro w' ⟨s0, s1, s2, s3, s4, s5, s6, s7, s8, s9, s10, s11, s12, s13, s14, s15⟩
                    go_simp
                    with_reducible rfl
                  rotate_left
                  · simp only [Act.put, List.setIfInBounds_toArray, List.set_cons_zero, List.set_cons_succ, i64_w, i32_w]
                    rfl
                  refine take_ (i := 38) (N := some 44) (v := ?_) (a' := ?_) #[true, true, true, true, true, true, true, true, true, true, true, true, true, true, true, true, true, true, true, true, true, true, true, true, true, true, true, true, true, true, true, true, true, true, true, true, false, true, true, false, false, false, false, false, false, false, false, false, false, false, false, false, false, false, false, false, false, false] rfl rfl (take_ofW HT_.out HW_.out (by kernel_rfl)) (fun _ _ _ h => h) (Or.inl ⟨by rfl, ?_⟩) hHeld ?_ ?_
                  rotate_left
                  · rintro w' ⟨s0, s1, s2, s3, s4, s5, s6, s7, s8, s9, s10, s11, s12, s13, s14, s15⟩
                    go_simp
                    with_reducible rfl
                  rotate_left
                  · simp only [Act.put, List.setIfInBounds_toArray, List.set_cons_zero, List.set_cons_succ, i64_w, i32_w]
                    rfl
                  refine one_ (i := 36) (N := some 42) #[true, true, true, true, true, true, true, true, true, true, true, true, true, true, true, true, true, true, true, true, true, true, true, true, true, true, true, true, true, true, true, true, true, true, true, true, true, true, true, false, false, false, false, false, false, false, false, false, false, false, false, false, false, false, false, false, false, false] rfl rfl (one_of HT_.out (by kernel_rfl)) (by decide) (fun K hK => ?_)
                  refine value_ (w1 := ?_) (v := .int .u64 t271) (by rfl) rfl ?_ ?_
                  rotate_left
                  · simp only [execOp]
                    go_simp
                    exact f64bits_at A11.out _
                  refine hK.out _ _ ⟨(blk_cell BK269.out 0).trans rfl, (blk_cell BK269.out 1).trans rfl, (blk_cell BK269.out 2).trans rfl, (blk_cell BK269.out 3).trans rfl, (blk_cell BK269.out 4).trans rfl, (blk_cell BK269.out 5).trans rfl, (blk_cell BK269.out 6).trans rfl, (blk_cell BK269.out 7).trans rfl, (blk_cell BK270.out 0).trans rfl, (blk_cell BK270.out 1).trans rfl, (blk_cell BK270.out 2).trans rfl, (blk_cell BK270.out 3).trans rfl, (blk_cell BK270.out 4).trans rfl, (blk_cell BK270.out 5).trans rfl, (blk_cell BK270.out 6).trans rfl, (blk_cell BK270.out 7).trans rfl⟩ (fun hHeld => ?_)
                  clear hK K
                  refine norm_ (a' := ?_) ?_ ?_
                  rotate_left
                  · show Act.put _ (some 42) _ = _
                    simp only [Act.put, List.setIfInBounds_toArray, List.set_cons_zero, List.set_cons_succ, i64_w, i32_w]
                    rfl
                  refine one_ (i := 39) (N := some 45) #[true, true, true, true, true, true, true, true, true, true, true, true, true, true, true, true, true, true, true, true, true, true, true, true, true, true, true, true, true, true, true, true, true, true, true, true, true, true, true, true, false, false, false, false, false, false, false, false, false, false, false, false, false, false, false, false, false, false] rfl rfl (one_of HT_.out (by kernel_rfl)) (by decide) (fun K hK => ?_)
                  refine value_ (w1 := ?_) (v := .int .u64 t272) (by rfl) rfl ?_ ?_
                  rotate_left
                  · simp only [execOp]
                    go_simp
                    exact f64bits_at A12.out _
                  refine hK.out _ _ ⟨(blk_cell BK269.out 0).trans rfl, (blk_cell BK269.out 1).trans rfl, (blk_cell BK269.out 2).trans rfl, (blk_cell BK269.out 3).trans rfl, (blk_cell BK269.out 4).trans rfl, (blk_cell BK269.out 5).trans rfl, (blk_cell BK269.out 6).trans rfl, (blk_cell BK269.out 7).trans rfl, (blk_cell BK270.out 0).trans rfl, (blk_cell BK270.out 1).trans rfl, (blk_cell BK270.out 2).trans rfl, (blk_cell BK270.out 3).trans rfl, (blk_cell BK270.out 4).trans rfl, (blk_cell BK270.out 5).trans rfl, (blk_cell BK270.out 6).trans rfl, (blk_cell BK270.out 7).trans rfl⟩ (fun hHeld => ?_)
                  clear hK K
                  refine norm_ (a' := ?_) ?_ ?_
                  rotate_left
                  · show Act.put _ (some 45) _ = _
                    simp only [Act.put, List.setIfInBounds_toArray, List.set_cons_zero, List.set_cons_succ, i64_w, i32_w]
                    rfl
                  refine pure_ (i := 40) (N := some 46) (v := ?_) (a' := ?_) #[true, true, true, true, true, true, true, true, true, true, true, true, true, true, true, true, true, true, true, true, true, true, true, true, true, true, true, true, true, true, true, true, true, true, true, true, true, true, true, true, true, false, false, false, false, false, false, false, false, false, false, false, false, false, false, false, false, false] rfl rfl (any_of HT_.out (by kernel_rfl)) (fun _ _ _ h => h) (Or.inl ⟨by rfl, ?_⟩) ?_ ?_
                  rotate_left
                  · intro w'
                    go_simp
                    with_reducible rfl
                  rotate_left
                  · simp only [Act.put, List.setIfInBounds_toArray, List.set_cons_zero, List.set_cons_succ, i64_w, i32_w]
                    rfl
                  refine pure_ (i := 41) (N := some 47) (v := ?_) (a' := ?_) #[true, true, true, true, true, true, true, true, true, true, true, true, true, true, true, true, true, true, true, true, true, true, true, true, true, true, true, true, true, true, true, true, true, true, true, true, true, true, true, true, true, true, false, false, false, false, false, false, false, false, false, false, false, false, false, false, false, false] rfl rfl (any_of HT_.out (by kernel_rfl)) (fun _ _ _ h => h) (Or.inl ⟨by rfl, ?_⟩) ?_ ?_
                  rotate_left
                  · intro w'
                    go_simp
                    with_reducible rfl
                  rotate_left
                  · simp only [Act.put, List.setIfInBounds_toArray, List.set_cons_zero, List.set_cons_succ, i64_w, i32_w]
                    rfl
                  refine pure_ (i := 42) (N := some 48) (v := ?_) (a' := ?_) #[true, true, true, true, true, true, true, true, true, true, true, true, true, true, true, true, true, true, true, true, true, true, true, true, true, true, true, true, true, true, true, true, true, true, true, true, true, true, true, true, true, true, true, false, false, false, false, false, false, false, false, false, false, false, false, false, false, false] rfl rfl (any_of HT_.out (by kernel_rfl)) (fun _ _ _ h => h) (Or.inl ⟨by rfl, ?_⟩) ?_ ?_
                  rotate_left
                  · intro w'
                    go_simp
                    with_reducible rfl
                  rotate_left
                  · simp only [Act.put, List.setIfInBounds_toArray, List.set_cons_zero, List.set_cons_succ, i64_w, i32_w]
                    rfl
                  refine pure_ (i := 43) (N := some 49) (v := ?_) (a' := ?_) #[true, true, true, true, true, true, true, true, true, true, true, true, true, true, true, true, true, true, true, true, true, true, true, true, true, true, true, true, true, true, true, true, true, true, true, true, true, true, true, true, true, true, true, true, false, false, false, false, false, false, false, false, false, false, false, false, false, false] rfl rfl (any_of HT_.out (by kernel_rfl)) (fun _ _ _ h => h) (Or.inl ⟨by rfl, ?_⟩) ?_ ?_
                  rotate_left
                  · intro w'
                    go_simp
                    with_reducible rfl
                  rotate_left
                  · simp only [Act.put, List.setIfInBounds_toArray, List.set_cons_zero, List.set_cons_succ, i64_w, i32_w]
                    rfl
                  refine pure_ (i := 45) (N := some 51) (v := ?_) (a' := ?_) #[true, true, true, true, true, true, true, true, true, true, true, true, true, true, true, true, true, true, true, true, true, true, true, true, true, true, true, true, true, true, true, true, true, true, true, true, true, true, true, true, true, true, true, true, false, true, false, false, false, false, false, false, false, false, false, false, false, false] rfl rfl (any_of HT_.out (by kernel_rfl)) (fun _ _ _ h => h) (Or.inl ⟨by rfl, ?_⟩) ?_ ?_
                  rotate_left
                  · intro w'
                    go_simp
                    with_reducible rfl
                  rotate_left
                  · simp only [Act.put, List.setIfInBounds_toArray, List.set_cons_zero, List.set_cons_succ, i64_w, i32_w]
                    rfl
                  refine take_ (i := 44) (N := some 50) (v := ?_) (a' := ?_) #[true, true, true, true, true, true, true, true, true, true, true, true, true, true, true, true, true, true, true, true, true, true, true, true, true, true, true, true, true, true, true, true, true, true, true, true, true, true, true, true, true, true, true, true, true, true, false, false, false, false, false, false, false, false, false, false, false, false] rfl rfl (take_ofW HT_.out HW_.out (by kernel_rfl)) (fun _ _ _ h => h) (Or.inl ⟨by rfl, ?_⟩) hHeld ?_ ?_
                  rotate_left
                  · rintro w' ⟨s0, s1, s2, s3, s4, s5, s6, s7, s8, s9, s10, s11, s12, s13, s14, s15⟩
                    go_simp
                    with_reducible rfl
                  rotate_left
                  · simp only [Act.put, List.setIfInBounds_toArray, List.set_cons_zero, List.set_cons_succ, i64_w, i32_w]
                    rfl
                  refine take_ (i := 46) (N := some 52) (v := ?_) (a' := ?_) #[true, true, true, true, true, true, true, true, true, true, true, true, true, true, true, true, true, true, true, true, true, true, true, true, true, true, true, true, true, true, true, true, true, true, true, true, true, true, true, true, true, true, true, true, true, true, true, false, false, false, false, false, false, false, false, false, false, false] rfl rfl (take_ofW HT_.out HW_.out (by kernel_rfl)) (fun _ _ _ h => h) (Or.inl ⟨by rfl, ?_⟩) hHeld ?_ ?_
                  rotate_left
                  · rintro w' ⟨s0, s1, s2, s3, s4, s5, s6, s7, s8, s9, s10, s11, s12, s13, s14, s15⟩
                    go_simp
                    with_reducible rfl
                  rotate_left
                  · simp only [Act.put, List.setIfInBounds_toArray, List.set_cons_zero, List.set_cons_succ, i64_w, i32_w]
                    rfl
                  refine pure_ (i := 47) (N := some 53) (v := ?_) (a' := ?_) #[true, true, true, true, true, true, true, true, true, true, true, true, true, true, true, true, true, true, true, true, true, true, true, true, true, true, true, true, true, true, true, true, true, true, true, true, true, true, true, true, true, true, true, true, true, true, true, true, false, false, false, false, false, false, false, false, false, false] rfl rfl (any_of HT_.out (by kernel_rfl)) (fun _ _ _ h => h) (Or.inl ⟨by rfl, ?_⟩) ?_ ?_
                  rotate_left
                  · intro w'
                    go_simp
                    with_reducible rfl
                  rotate_left
                  · simp only [Act.put, List.setIfInBounds_toArray, List.set_cons_zero, List.set_cons_succ, i64_w, i32_w]
                    rfl
                  refine pure_ (i := 48) (N := some 54) (v := ?_) (a' := ?_) #[true, true, true, true, true, true, true, true, true, true, true, true, true, true, true, true, true, true, true, true, true, true, true, true, true, true, true, true, true, true, true, true, true, true, true, true, true, true, true, true, true, true, true, true, true, true, true, true, true, false, false, false, false, false, false, false, false, false] rfl rfl (any_of HT_.out (by kernel_rfl)) (fun _ _ _ h => h) (Or.inl ⟨by rfl, ?_⟩) ?_ ?_
                  rotate_left
                  · intro w'
                    go_simp
                    with_reducible rfl
                  rotate_left
                  · simp only [Act.put, List.setIfInBounds_toArray, List.set_cons_zero, List.set_cons_succ, i64_w, i32_w]
                    rfl
                  refine pure_ (i := 49) (N := some 55) (v := ?_) (a' := ?_) #[true, true, true, true, true, true, true, true, true, true, true, true, true, true, true, true, true, true, true, true, true, true, true, true, true, true, true, true, true, true, true, true, true, true, true, true, true, true, true, true, true, true, true, true, true, true, true, true, true, true, false, false, false, false, false, false, false, false] rfl rfl (any_of HT_.out (by kernel_rfl)) (fun _ _ _ h => h) (Or.inl ⟨by rfl, ?_⟩) ?_ ?_
                  rotate_left
                  · intro w'
                    go_simp
                    with_reducible rfl
                  rotate_left
                  · simp only [Act.put, List.setIfInBounds_toArray, List.set_cons_zero, List.set_cons_succ, i64_w, i32_w]
                    rfl
                  refine pure_ (i := 50) (N := some 56) (v := ?_) (a' := ?_) #[true, true, true, true, true, true, true, true, true, true, true, true, true, true, true, true, true, true, true, true, true, true, true, true, true, true, true, true, true, true, true, true, true, true, true, true, true, true, true, true, true, true, true, true, true, true, true, true, true, true, true, false, false, false, false, false, false, false] rfl rfl (any_of HT_.out (by kernel_rfl)) (fun _ _ _ h => h) (Or.inl ⟨by rfl, ?_⟩) ?_ ?_
                  rotate_left
                  · intro w'
                    go_simp
                    with_reducible rfl
                  rotate_left
                  · simp only [Act.put, List.setIfInBounds_toArray, List.set_cons_zero, List.set_cons_succ, i64_w, i32_w]
                    rfl
                  refine pure_ (i := 53) (N := some 59) (v := ?_) (a' := ?_) #[true, true, true, true, true, true, true, true, true, true, true, true, true, true, true, true, true, true, true, true, true, true, true, true, true, true, true, true, true, true, true, true, true, true, true, true, true, true, true, true, true, true, true, true, true, true, true, true, true, true, true, false, false, true, false, false, false, false] rfl rfl (any_of HT_.out (by kernel_rfl)) (fun _ _ _ h => h) (Or.inl ⟨by rfl, ?_⟩) ?_ ?_
                  rotate_left
                  · intro w'
                    go_simp
                    with_reducible rfl
                  rotate_left
                  · simp only [Act.put, List.setIfInBounds_toArray, List.set_cons_zero, List.set_cons_succ, i64_w, i32_w]
                    rfl
                  refine take_ (i := 51) (N := some 57) (v := ?_) (a' := ?_) #[true, true, true, true, true, true, true, true, true, true, true, true, true, true, true, true, true, true, true, true, true, true, true, true, true, true, true, true, true, true, true, true, true, true, true, true, true, true, true, true, true, true, true, true, true, true, true, true, true, true, true, true, false, true, false, false, false, false] rfl rfl (take_ofW HT_.out HW_.out (by kernel_rfl)) (fun _ _ _ h => h) (Or.inl ⟨by rfl, ?_⟩) hHeld ?_ ?_
                  rotate_left
                  · rintro w' ⟨s0, s1, s2, s3, s4, s5, s6, s7, s8, s9, s10, s11, s12, s13, s14, s15⟩
                    go_simp
                    with_reducible rfl
                  rotate_left
                  · simp only [Act.put, List.setIfInBounds_toArray, List.set_cons_zero, List.set_cons_succ, i64_w, i32_w]
                    rfl
                  refine pure_ (i := 52) (N := some 58) (v := ?_) (a' := ?_) #[true, true, true, true, true, true, true, true, true, true, true, true, true, true, true, true, true, true, true, true, true, true, true, true, true, true, true, true, true, true, true, true, true, true, true, true, true, true, true, true, true, true, true, true, true, true, true, true, true, true, true, true, true, true, false, false, false, false] rfl rfl (any_of HT_.out (by kernel_rfl)) (fun _ _ _ h => h) (Or.inl ⟨by rfl, ?_⟩) ?_ ?_
                  rotate_left
                  · intro w'
                    go_simp
                    with_reducible rfl
                  rotate_left
                  · simp only [Act.put, List.setIfInBounds_toArray, List.set_cons_zero, List.set_cons_succ, i64_w, i32_w]
                    rfl
                  refine take_ (i := 54) (N := some 60) (v := ?_) (a' := ?_) #[true, true, true, true, true, true, true, true, true, true, true, true, true, true, true, true, true, true, true, true, true, true, true, true, true, true, true, true, true, true, true, true, true, true, true, true, true, true, true, true, true, true, true, true, true, true, true, true, true, true, true, true, true, true, true, false, false, false] rfl rfl (take_ofW HT_.out HW_.out (by kernel_rfl)) (fun _ _ _ h => h) (Or.inl ⟨by rfl, ?_⟩) hHeld ?_ ?_
                  rotate_left
                  · rintro w' ⟨s0, s1, s2, s3, s4, s5, s6, s7, s8, s9, s10, s11, s12, s13, s14, s15⟩
                    go_simp
                    with_reducible rfl
                  rotate_left
                  · simp only [Act.put, List.setIfInBounds_toArray, List.set_cons_zero, List.set_cons_succ, i64_w, i32_w]
                    rfl
                  refine pure_ (i := 55) (N := some 61) (v := ?_) (a' := ?_) #[true, true, true, true, true, true, true, true, true, true, true, true, true, true, true, true, true, true, true, true, true, true, true, true, true, true, true, true, true, true, true, true, true, true, true, true, true, true, true, true, true, true, true, true, true, true, true, true, true, true, true, true, true, true, true, true, false, false] rfl rfl (any_of HT_.out (by kernel_rfl)) (fun _ _ _ h => h) (Or.inl ⟨by rfl, ?_⟩) ?_ ?_
                  rotate_left
                  · intro w'
                    go_simp
                    with_reducible rfl
                  rotate_left
                  · simp only [Act.put, List.setIfInBounds_toArray, List.set_cons_zero, List.set_cons_succ, i64_w, i32_w]
                    rfl
                  refine pure_ (i := 56) (N := some 62) (v := ?_) (a' := ?_) #[true, true, true, true, true, true, true, true, true, true, true, true, true, true, true, true, true, true, true, true, true, true, true, true, true, true, true, true, true, true, true, true, true, true, true, true, true, true, true, true, true, true, true, true, true, true, true, true, true, true, true, true, true, true, true, true, true, false] rfl rfl (any_of HT_.out (by kernel_rfl)) (fun _ _ _ h => h) (Or.inl ⟨by rfl, ?_⟩) ?_ ?_
                  rotate_left
                  · intro w'
                    go_simp
                    with_reducible rfl
                  rotate_left
                  · simp only [Act.put, List.setIfInBounds_toArray, List.set_cons_zero, List.set_cons_succ, i64_w, i32_w]
                    rfl
                  refine pure_ (i := 57) (N := some 63) (v := ?_) (a' := ?_) #[true, true, true, true, true, true, true, true, true, true, true, true, true, true, true, true, true, true, true, true, true, true, true, true, true, true, true, true, true, true, true, true, true, true, true, true, true, true, true, true, true, true, true, true, true, true, true, true, true, true, true, true, true, true, true, true, true, true] rfl rfl (any_of HT_.out (by kernel_rfl)) (fun _ _ _ h => h) (Or.inl ⟨by rfl, ?_⟩) ?_ ?_
                  rotate_left
                  · intro w'
                    go_simp
                    with_reducible rfl
                  rotate_left
                  · simp only [Act.put, List.setIfInBounds_toArray, List.set_cons_zero, List.set_cons_succ, i64_w, i32_w]
                    rfl
                  refine done_ (done_of HT_.out (by kernel_rfl)) ?_
                  try go_wp2
                  go_meet
                  case rel => exact ⟨_, (((l0_7.length : Int) != (l1_7.length : Int))), (by first | rfl | (simp; done) | (simp [*]; done)), H', ⟨by first | omega | exact Nat.le_refl _⟩, ⟨by (with_reducible repeat (first | refine blk_drewN ?_ _ | refine blk_drew ?_ | refine blk_alloc ?_ _)); exact BK269.out⟩, ⟨by (with_reducible repeat (first | refine blk_drewN ?_ _ | refine blk_drew ?_ | refine blk_alloc ?_ _)); exact BK270.out⟩, ⟨by repeat (first | (with_reducible first | exact HB.out | apply below_alloc | apply pw_below_drewN | apply below_drew1 | refine below_set ?_ GE269.out | refine below_set ?_ GE270.out) | exact HB.out)⟩⟩
                · rw [if_neg c14] at H
                  have c14b0 : (a0_6.toList == a1_6.toList) = false := beq_eq_false_iff_ne.mpr c14
                  have c14b1 : (a0_6.toList != a1_6.toList) = true := bne_iff_ne.mpr c14
                  exact absurd H (by simp)
              · rw [if_neg c13] at H
                have c13b0 : (t271 == t272) = false := beq_eq_false_iff_ne.mpr c13
                have c13b1 : (t271 != t272) = true := bne_iff_ne.mpr c13
                exact absurd H (by simp)
            · rw [if_neg c10] at H
              have c10b0 : (a0_4 == a1_4) = false := beq_eq_false_iff_ne.mpr c10
              have c10b1 : (a0_4 != a1_4) = true := bne_iff_ne.mpr c10
              exact absurd H (by simp)
          · rw [if_neg c9] at H
            have c9b0 : (a0_3 == a1_3) = false := beq_eq_false_iff_ne.mpr c9
            have c9b1 : (a0_3 != a1_3) = true := bne_iff_ne.mpr c9
            exact absurd H (by simp)
      · rw [if_neg c7] at H
        have c7b0 : (a0_1 == a1_1) = false := beq_eq_false_iff_ne.mpr c7
        have c7b1 : (a0_1 != a1_1) = true := bne_iff_ne.mpr c7
        exact absurd H (by simp)
    · rw [if_neg c6] at H
      have c6b0 : (a0_0.toList == a1_0.toList) = false := beq_eq_false_iff_ne.mpr c6
      have c6b1 : (a0_0.toList != a1_0.toList) = true := bne_iff_ne.mpr c6
      (first | rw [c6b0] | (simp only [i64_w, i32_w]; rw [c6b0]) | skip)
      exact absurd H (by simp)
  case rest =>
    clear HC3
    try clear c1
    try clear p2
    try clear c4
    try clear c6
    try clear c6b0
    try clear c6b1
    try clear c7
    try clear c7b0
    try clear c7b1
    try clear c8
    try clear c8b0
    try clear c8b1
    try clear c8b2
    try clear c9
    try clear c9b0
    try clear c9b1
    try clear c10
    try clear c10b0
    try clear c10b1
    try clear c13
    try clear c13b0
    try clear c13b1
    try clear c14
    try clear c14b0
    try clear c14b1
    obtain ⟨kq, x63_2, rfl, HA, HJ2, BK269, BK270, HB⟩ := hcut
    cases kq with
    | zero => exact absurd HA.out (by simp [spec_SameNode.j0])
    | succ kj2 =>
      have H := HA.out
      clear HA
      simp only [spec_SameNode.j0] at H
      by_cases c16 : x63_2 = true
      · subst c16
        have H1 : (none) = some r := by rw [if_pos rfl] at H; exact H
        clear H
        have H := H1
        clear H1
        exact absurd H (by simp)
      · replace c16 := Bool.eq_false_iff.mpr c16
        subst c16
        have H1 : (spec_SameNode.l0 kj2 (l0_7.length : Int) 0 a0_0 a0_1 a0_2 a0_3 a0_4 a0_5 a0_6 l0_7 a1_0 a1_1 a1_2 a1_3 a1_4 a1_5 a1_6 l1_7) = some r := by rw [if_neg (show ¬ (false = true) by decide)] at H; exact H
        clear H
        have H := H1
        clear H1
        have H' := Aside0.mk H
        clear H
        have hnb17 := NB269_270.out
        have hnc17 := NB270_269.out
        have hcz18_0 : wc.cell? ⟨gb269, 0, none⟩ = some (.string a0_0) := (blk_cell BK269.out 0).trans rfl
        have hcz18_1 : wc.cell? ⟨gb269, 1, none⟩ = some (.int .i64 a0_1) := (blk_cell BK269.out 1).trans rfl
        have hcz18_2 : wc.cell? ⟨gb269, 2, none⟩ = some (.bool a0_2) := (blk_cell BK269.out 2).trans rfl
        have hcz18_3 : wc.cell? ⟨gb269, 3, none⟩ = some (.int .i64 a0_3) := (blk_cell BK269.out 3).trans rfl
        have hcz18_4 : wc.cell? ⟨gb269, 4, none⟩ = some (.int .u64 a0_4) := (blk_cell BK269.out 4).trans rfl
        have hcz18_5 : wc.cell? ⟨gb269, 5, none⟩ = some (.float .f64 a0_5) := (blk_cell BK269.out 5).trans rfl
        have hcz18_6 : wc.cell? ⟨gb269, 6, none⟩ = some (.string a0_6) := (blk_cell BK269.out 6).trans rfl
        have hcz18_7 : wc.cell? ⟨gb269, 7, none⟩ = some (.slice A0_7 l0_7.length c0_7) := (blk_cell BK269.out 7).trans rfl
        have hfz18_0 := blk_frozen BK269.out 0
        have hfz18_1 := blk_frozen BK269.out 1
        have hfz18_2 := blk_frozen BK269.out 2
        have hfz18_3 := blk_frozen BK269.out 3
        have hfz18_4 := blk_frozen BK269.out 4
        have hfz18_5 := blk_frozen BK269.out 5
        have hfz18_6 := blk_frozen BK269.out 6
        have hfz18_7 := blk_frozen BK269.out 7
        go_wp2
        go_loopg [67] kj2 (fun kq v67 w' => ∃ (x67_2 : Int), v67 = .int .i64 x67_2 ∧ Aside0 (spec_SameNode.l0 kq (l0_7.length : Int) x67_2 a0_0 a0_1 a0_2 a0_3 a0_4 a0_5 a0_6 l0_7 a1_0 a1_1 a1_2 a1_3 a1_4 a1_5 a1_6 l1_7 = some r) ∧ Aside0 (kq ≤ kj2) ∧ Aside0 (w'.heap[gb269]? = some (.cells #[.string a0_0, .int .i64 a0_1, .bool a0_2, .int .i64 a0_3, .int .u64 a0_4, .float .f64 a0_5, .string a0_6, (.slice A0_7 l0_7.length c0_7)] 39 (0, 0))) ∧ Aside0 (w'.heap[gb270]? = some (.cells #[.string a1_0, .int .i64 a1_1, .bool a1_2, .int .i64 a1_3, .int .u64 a1_4, .float .f64 a1_5, .string a1_6, (.slice A1_7 l1_7.length c1_7)] 39 (0, 0))) ∧ Aside0 (Below w.heap.size w w'))
        case atStart => exact ⟨(0), (by first | rfl | (simp; done) | (simp [*]; done)), H', ⟨Nat.le_refl _⟩, ⟨by (with_reducible repeat (first | refine blk_drewN ?_ _ | refine blk_drew ?_ | refine blk_alloc ?_ _)); exact BK269.out⟩, ⟨by (with_reducible repeat (first | refine blk_drewN ?_ _ | refine blk_drew ?_ | refine blk_alloc ?_ _)); exact BK270.out⟩, ⟨by repeat (first | (with_reducible first | exact HB.out | apply below_alloc | apply pw_below_drewN | apply below_drew1 | refine below_set ?_ GE269.out | refine below_set ?_ GE270.out) | exact HB.out)⟩⟩
        case round =>
          clear H'
          try clear c1
          try clear p2
          try clear c4
          try clear c6
          try clear c6b0
          try clear c6b1
          try clear c7
          try clear c7b0
          try clear c7b1
          try clear c8
          try clear c8b0
          try clear c8b1
          try clear c8b2
          try clear c9
          try clear c9b0
          try clear c9b1
          try clear c10
          try clear c10b0
          try clear c10b1
          try clear c13
          try clear c13b0
          try clear c13b1
          try clear c14
          try clear c14b0
          try clear c14b1
          try clear c16
          try clear c17
          try clear hcz18_0
          try clear hcz18_1
          try clear hcz18_2
          try clear hcz18_3
          try clear hcz18_4
          try clear hcz18_5
          try clear hcz18_6
          try clear hcz18_7
          try clear hfz18_0
          try clear hfz18_1
          try clear hfz18_2
          try clear hfz18_3
          try clear hfz18_4
          try clear hfz18_5
          try clear hfz18_6
          try clear hfz18_7
          try clear p2
          obtain ⟨x67_2, rfl, HA, HK2, BK269, BK270, HB⟩ := hrel
          cases gk with
          | zero => exact absurd HA.out (by simp [spec_SameNode.l0])
          | succ k2 =>
            have H := HA.out
            clear HA
            simp only [spec_SameNode.l0] at H
            by_cases c19 : x67_2 < (l0_7.length : Int)
            · rw [if_pos c19] at H
              have c19b0 : decide (x67_2 < (l0_7.length : Int)) = true := decide_eq_true c19
              clear c19
              replace H := guard_inv H
              obtain ⟨c20, H⟩ := H
              have c20b0 : decide (0 ≤ x67_2) = true := decide_eq_true c20
              clear c20
              replace H := guard_inv H
              obtain ⟨c21, H⟩ := H
              have c21b0 : decide (x67_2 < (l0_7.length : Int)) = true := decide_eq_true c21
              clear c21
              replace H := guard_inv H
              obtain ⟨c22, H⟩ := H
              have c22b0 : decide (x67_2 < (l1_7.length : Int)) = true := decide_eq_true c22
              clear c22
              replace H := Option.bind_eq_some_iff.mp H
              obtain ⟨t275, A230, H⟩ := H
              try dsimp -simprocs only at H
              have A23 := Aside0.mk A230
              clear A230
              by_cases c24 : t275 = true
              · subst c24
                have H1 : (spec_SameNode.l0 k2 (l0_7.length : Int) (wrap64 (x67_2 + 1)) a0_0 a0_1 a0_2 a0_3 a0_4 a0_5 a0_6 l0_7 a1_0 a1_1 a1_2 a1_3 a1_4 a1_5 a1_6 l1_7) = some r := by rw [if_pos rfl] at H; exact H
                clear H
                have H := H1
                clear H1
                have H' := Aside0.mk H
                clear H
                try go_wp2
                have n0_ := Aside0.mk (blk_drew BK269.out)
                have n1_ := Aside0.mk (blk_drew BK270.out)
                have n2_ := Aside0.mk (below_drew1 HB.out)
                clear BK269
                clear BK270
                clear HB
                have BK269 := n0_
                have BK270 := n1_
                have HB := n2_
                clear n0_ n1_ n2_
                have p273 : 0 ≤ (x67_2 : Int) := of_decide_eq_true (by first | (with_reducible assumption) | assumption)
                have q273 : x67_2 < (l0_7.length : Int) := of_decide_eq_true (by first | (with_reducible assumption) | assumption)
                obtain ⟨ad273, A273_7, c273_7, e273, hx273_0, hx273_1, hx273_2, hx273_3, hx273_4, hx273_5, hx273_6, hx273_7, hl273_7, hi273_7⟩ := at_T39 HR0_7.out x67_2 p273 q273
                have hw273_7 := hx273_7
                have hw273_6 := hx273_6
                have hw273_5 := hx273_5
                have hw273_4 := hx273_4
                have hw273_3 := hx273_3
                have hw273_2 := hx273_2
                have hw273_1 := hx273_1
                have hw273_0 := hx273_0
                cases e273
                replace hx273_0 := (HB.out.cell (World.block_lt_of_cell? w _ hx273_0)).trans hx273_0
                replace hx273_1 := (HB.out.cell (World.block_lt_of_cell? w _ hx273_1)).trans hx273_1
                replace hx273_2 := (HB.out.cell (World.block_lt_of_cell? w _ hx273_2)).trans hx273_2
                replace hx273_3 := (HB.out.cell (World.block_lt_of_cell? w _ hx273_3)).trans hx273_3
                replace hx273_4 := (HB.out.cell (World.block_lt_of_cell? w _ hx273_4)).trans hx273_4
                replace hx273_5 := (HB.out.cell (World.block_lt_of_cell? w _ hx273_5)).trans hx273_5
                replace hx273_6 := (HB.out.cell (World.block_lt_of_cell? w _ hx273_6)).trans hx273_6
                replace hx273_7 := (HB.out.cell (World.block_lt_of_cell? w _ hx273_7)).trans hx273_7
                have HR273_7 := Aside0.mk hi273_7
                have HC273_7 := Aside0.mk hl273_7
                clear hi273_7 hl273_7
                replace p273 := eq_true p273
                replace q273 := eq_true q273
                have p274 : 0 ≤ (x67_2 : Int) := of_decide_eq_true (by first | (with_reducible assumption) | assumption)
                have q274 : x67_2 < (l1_7.length : Int) := of_decide_eq_true (by first | (with_reducible assumption) | assumption)
                obtain ⟨ad274, A274_7, c274_7, e274, hx274_0, hx274_1, hx274_2, hx274_3, hx274_4, hx274_5, hx274_6, hx274_7, hl274_7, hi274_7⟩ := at_T39 HR1_7.out x67_2 p274 q274
                have hw274_7 := hx274_7
                have hw274_6 := hx274_6
                have hw274_5 := hx274_5
                have hw274_4 := hx274_4
                have hw274_3 := hx274_3
                have hw274_2 := hx274_2
                have hw274_1 := hx274_1
                have hw274_0 := hx274_0
                cases e274
                replace hx274_0 := (HB.out.cell (World.block_lt_of_cell? w _ hx274_0)).trans hx274_0
                replace hx274_1 := (HB.out.cell (World.block_lt_of_cell? w _ hx274_1)).trans hx274_1
                replace hx274_2 := (HB.out.cell (World.block_lt_of_cell? w _ hx274_2)).trans hx274_2
                replace hx274_3 := (HB.out.cell (World.block_lt_of_cell? w _ hx274_3)).trans hx274_3
                replace hx274_4 := (HB.out.cell (World.block_lt_of_cell? w _ hx274_4)).trans hx274_4
                replace hx274_5 := (HB.out.cell (World.block_lt_of_cell? w _ hx274_5)).trans hx274_5
                replace hx274_6 := (HB.out.cell (World.block_lt_of_cell? w _ hx274_6)).trans hx274_6
                replace hx274_7 := (HB.out.cell (World.block_lt_of_cell? w _ hx274_7)).trans hx274_7
                have HR274_7 := Aside0.mk hi274_7
                have HC274_7 := Aside0.mk hl274_7
                clear hi274_7 hl274_7
                replace p274 := eq_true p274
                replace q274 := eq_true q274
                refine start_ (n := 12) (S := fun w' => w'.cell? ⟨gb269, 0, none⟩ = some (.string a0_0) ∧ w'.cell? ⟨gb269, 1, none⟩ = some (.int .i64 a0_1) ∧ w'.cell? ⟨gb269, 2, none⟩ = some (.bool a0_2) ∧ w'.cell? ⟨gb269, 3, none⟩ = some (.int .i64 a0_3) ∧ w'.cell? ⟨gb269, 4, none⟩ = some (.int .u64 a0_4) ∧ w'.cell? ⟨gb269, 5, none⟩ = some (.float .f64 a0_5) ∧ w'.cell? ⟨gb269, 6, none⟩ = some (.string a0_6) ∧ w'.cell? ⟨gb269, 7, none⟩ = some (.slice (some ad273) l0_7.length c0_7) ∧ w'.cell? ⟨gb270, 0, none⟩ = some (.string a1_0) ∧ w'.cell? ⟨gb270, 1, none⟩ = some (.int .i64 a1_1) ∧ w'.cell? ⟨gb270, 2, none⟩ = some (.bool a1_2) ∧ w'.cell? ⟨gb270, 3, none⟩ = some (.int .i64 a1_3) ∧ w'.cell? ⟨gb270, 4, none⟩ = some (.int .u64 a1_4) ∧ w'.cell? ⟨gb270, 5, none⟩ = some (.float .f64 a1_5) ∧ w'.cell? ⟨gb270, 6, none⟩ = some (.string a1_6) ∧ w'.cell? ⟨gb270, 7, none⟩ = some (.slice (some ad274) l1_7.length c1_7) ∧ w'.cell? (ad273.add ((x67_2).toNat * 8)) = some (.string ((rd_T39 l0_7 x67_2).f0)) ∧ w'.cell? ⟨(ad273.add ((x67_2).toNat * 8)).block, (ad273.add ((x67_2).toNat * 8)).off + 1, none⟩ = some (.int .i64 ((rd_T39 l0_7 x67_2).f1)) ∧ w'.cell? ⟨(ad273.add ((x67_2).toNat * 8)).block, (ad273.add ((x67_2).toNat * 8)).off + 2, none⟩ = some (.bool ((rd_T39 l0_7 x67_2).f2)) ∧ w'.cell? ⟨(ad273.add ((x67_2).toNat * 8)).block, (ad273.add ((x67_2).toNat * 8)).off + 3, none⟩ = some (.int .i64 ((rd_T39 l0_7 x67_2).f3)) ∧ w'.cell? ⟨(ad273.add ((x67_2).toNat * 8)).block, (ad273.add ((x67_2).toNat * 8)).off + 4, none⟩ = some (.int .u64 ((rd_T39 l0_7 x67_2).f4)) ∧ w'.cell? ⟨(ad273.add ((x67_2).toNat * 8)).block, (ad273.add ((x67_2).toNat * 8)).off + 5, none⟩ = some (.float .f64 ((rd_T39 l0_7 x67_2).f5)) ∧ w'.cell? ⟨(ad273.add ((x67_2).toNat * 8)).block, (ad273.add ((x67_2).toNat * 8)).off + 6, none⟩ = some (.string ((rd_T39 l0_7 x67_2).f6)) ∧ w'.cell? ⟨(ad273.add ((x67_2).toNat * 8)).block, (ad273.add ((x67_2).toNat * 8)).off + 7, none⟩ = some (.slice A273_7 ((rd_T39 l0_7 x67_2).f7).length c273_7) ∧ w'.cell? (ad274.add ((x67_2).toNat * 8)) = some (.string ((rd_T39 l1_7 x67_2).f0)) ∧ w'.cell? ⟨(ad274.add ((x67_2).toNat * 8)).block, (ad274.add ((x67_2).toNat * 8)).off + 1, none⟩ = some (.int .i64 ((rd_T39 l1_7 x67_2).f1)) ∧ w'.cell? ⟨(ad274.add ((x67_2).toNat * 8)).block, (ad274.add ((x67_2).toNat * 8)).off + 2, none⟩ = some (.bool ((rd_T39 l1_7 x67_2).f2)) ∧ w'.cell? ⟨(ad274.add ((x67_2).toNat * 8)).block, (ad274.add ((x67_2).toNat * 8)).off + 3, none⟩ = some (.int .i64 ((rd_T39 l1_7 x67_2).f3)) ∧ w'.cell? ⟨(ad274.add ((x67_2).toNat * 8)).block, (ad274.add ((x67_2).toNat * 8)).off + 4, none⟩ = some (.int .u64 ((rd_T39 l1_7 x67_2).f4)) ∧ w'.cell? ⟨(ad274.add ((x67_2).toNat * 8)).block, (ad274.add ((x67_2).toNat * 8)).off + 5, none⟩ = some (.float .f64 ((rd_T39 l1_7 x67_2).f5)) ∧ w'.cell? ⟨(ad274.add ((x67_2).toNat * 8)).block, (ad274.add ((x67_2).toNat * 8)).off + 6, none⟩ = some (.string ((rd_T39 l1_7 x67_2).f6)) ∧ w'.cell? ⟨(ad274.add ((x67_2).toNat * 8)).block, (ad274.add ((x67_2).toNat * 8)).off + 7, none⟩ = some (.slice A274_7 ((rd_T39 l1_7 x67_2).f7).length c274_7)) (ds := []) #[false, false, false, false, false, false, false, false, false, false, false, false] (by kernel_rfl) rfl rfl ⟨(blk_cell BK269.out 0).trans rfl, (blk_cell BK269.out 1).trans rfl, (blk_cell BK269.out 2).trans rfl, (blk_cell BK269.out 3).trans rfl, (blk_cell BK269.out 4).trans rfl, (blk_cell BK269.out 5).trans rfl, (blk_cell BK269.out 6).trans rfl, (blk_cell BK269.out 7).trans rfl, (blk_cell BK270.out 0).trans rfl, (blk_cell BK270.out 1).trans rfl, (blk_cell BK270.out 2).trans rfl, (blk_cell BK270.out 3).trans rfl, (blk_cell BK270.out 4).trans rfl, (blk_cell BK270.out 5).trans rfl, (blk_cell BK270.out 6).trans rfl, (blk_cell BK270.out 7).trans rfl, ((HB.out.cell (World.block_lt_of_cell? w _ hw273_0)).trans hw273_0), ((HB.out.cell (World.block_lt_of_cell? w _ hw273_1)).trans hw273_1), ((HB.out.cell (World.block_lt_of_cell? w _ hw273_2)).trans hw273_2), ((HB.out.cell (World.block_lt_of_cell? w _ hw273_3)).trans hw273_3), ((HB.out.cell (World.block_lt_of_cell? w _ hw273_4)).trans hw273_4), ((HB.out.cell (World.block_lt_of_cell? w _ hw273_5)).trans hw273_5), ((HB.out.cell (World.block_lt_of_cell? w _ hw273_6)).trans hw273_6), ((HB.out.cell (World.block_lt_of_cell? w _ hw273_7)).trans hw273_7), ((HB.out.cell (World.block_lt_of_cell? w _ hw274_0)).trans hw274_0), ((HB.out.cell (World.block_lt_of_cell? w _ hw274_1)).trans hw274_1), ((HB.out.cell (World.block_lt_of_cell? w _ hw274_2)).trans hw274_2), ((HB.out.cell (World.block_lt_of_cell? w _ hw274_3)).trans hw274_3), ((HB.out.cell (World.block_lt_of_cell? w _ hw274_4)).trans hw274_4), ((HB.out.cell (World.block_lt_of_cell? w _ hw274_5)).trans hw274_5), ((HB.out.cell (World.block_lt_of_cell? w _ hw274_6)).trans hw274_6), ((HB.out.cell (World.block_lt_of_cell? w _ hw274_7)).trans hw274_7)⟩ (fun hHeld => ?_); refine with_tabW spec_SameNode.tab6 spec_SameNode.bits6 (fun HT_ HW_ => ?_)
                generalize wr.drew = w25 at BK269 BK270 HB HR273_7 HR274_7 hx273_0 hx273_1 hx273_2 hx273_3 hx273_4 hx273_5 hx273_6 hx273_7 hx274_0 hx274_1 hx274_2 hx274_3 hx274_4 hx274_5 hx274_6 hx274_7 hHeld ⊢
                refine pure_ (i := 0) (N := some 70) (v := ?_) (a' := ?_) #[true, false, false, false, false, false, false, false, false, false, false, false] rfl rfl (any_of HT_.out (by kernel_rfl)) (fun _ _ _ h => h) (Or.inl ⟨by rfl, ?_⟩) ?_ ?_
                rotate_left
                · intro w'
                  go_simp
                  with_reducible rfl
                rotate_left
                · simp only [Act.put, List.setIfInBounds_toArray, List.set_cons_zero, List.set_cons_succ, i64_w, i32_w]
                  rfl
                refine pure_ (i := 2) (N := some 72) (v := ?_) (a' := ?_) #[true, false, true, false, false, false, false, false, false, false, false, false] rfl rfl (any_of HT_.out (by kernel_rfl)) (fun _ _ _ h => h) (Or.inl ⟨by rfl, ?_⟩) ?_ ?_
                rotate_left
                · intro w'
                  go_simp
                  with_reducible rfl
                rotate_left
                · simp only [Act.put, List.setIfInBounds_toArray, List.set_cons_zero, List.set_cons_succ, i64_w, i32_w]
                  rfl
                refine pure_ (i := 5) (N := some 75) (v := ?_) (a' := ?_) #[true, false, true, false, false, true, false, false, false, false, false, false] rfl rfl (any_of HT_.out (by kernel_rfl)) (fun _ _ _ h => h) (Or.inl ⟨by rfl, ?_⟩) ?_ ?_
                rotate_left
                · intro w'
                  go_simp
                  with_reducible rfl
                rotate_left
                · simp only [Act.put, List.setIfInBounds_toArray, List.set_cons_zero, List.set_cons_succ, i64_w, i32_w]
                  rfl
                refine pure_ (i := 7) (N := some 77) (v := ?_) (a' := ?_) #[true, false, true, false, false, true, false, true, false, false, false, false] rfl rfl (any_of HT_.out (by kernel_rfl)) (fun _ _ _ h => h) (Or.inl ⟨by rfl, ?_⟩) ?_ ?_
                rotate_left
                · intro w'
                  go_simp
                  with_reducible rfl
                rotate_left
                · simp only [Act.put, List.setIfInBounds_toArray, List.set_cons_zero, List.set_cons_succ, i64_w, i32_w]
                  rfl
                refine take_ (i := 1) (N := some 71) (v := ?_) (a' := ?_) #[true, true, true, false, false, true, false, true, false, false, false, false] rfl rfl (take_ofW HT_.out HW_.out (by kernel_rfl)) (fun _ _ _ h => h) (Or.inl ⟨by rfl, ?_⟩) hHeld ?_ ?_
                rotate_left
                · rintro w' ⟨s0, s1, s2, s3, s4, s5, s6, s7, s8, s9, s10, s11, s12, s13, s14, s15, s16, s17, s18, s19, s20, s21, s22, s23, s24, s25, s26, s27, s28, s29, s30, s31⟩
                  go_simp
                  with_reducible rfl
                rotate_left
                · simp only [Act.put, List.setIfInBounds_toArray, List.set_cons_zero, List.set_cons_succ, i64_w, i32_w]
                  rfl
                refine pure_ (i := 3) (N := some 73) (v := ?_) (a' := ?_) #[true, true, true, true, false, true, false, true, false, false, false, false] rfl rfl (any_of HT_.out (by kernel_rfl)) (fun _ _ _ h => h) (Or.inl ⟨by rfl, ?_⟩) ?_ ?_
                rotate_left
                · intro w'
                  go_simp
                  with_reducible rfl
                rotate_left
                · simp only [Act.put, List.setIfInBounds_toArray, List.set_cons_zero, List.set_cons_succ, i64_w, i32_w]
                  rfl
                refine take_ (i := 4) (N := some 74) (v := ?_) (a' := ?_) #[true, true, true, true, true, true, false, true, false, false, false, false] rfl rfl (take_ofW HT_.out HW_.out (by kernel_rfl)) (fun _ _ _ h => h) (Or.inl ⟨by rfl, ?_⟩) hHeld ?_ ?_
                rotate_left
                · rintro w' ⟨s0, s1, s2, s3, s4, s5, s6, s7, s8, s9, s10, s11, s12, s13, s14, s15, s16, s17, s18, s19, s20, s21, s22, s23, s24, s25, s26, s27, s28, s29, s30, s31⟩
                  go_simp
                  with_reducible rfl
                rotate_left
                · simp only [Act.put, List.setIfInBounds_toArray, List.set_cons_zero, List.set_cons_succ, i64_w, i32_w]
                  rfl
                refine take_ (i := 6) (N := some 76) (v := ?_) (a' := ?_) #[true, true, true, true, true, true, true, true, false, false, false, false] rfl rfl (take_ofW HT_.out HW_.out (by kernel_rfl)) (fun _ _ _ h => h) (Or.inl ⟨by rfl, ?_⟩) hHeld ?_ ?_
                rotate_left
                · rintro w' ⟨s0, s1, s2, s3, s4, s5, s6, s7, s8, s9, s10, s11, s12, s13, s14, s15, s16, s17, s18, s19, s20, s21, s22, s23, s24, s25, s26, s27, s28, s29, s30, s31⟩
                  go_simp
                  with_reducible rfl
                rotate_left
                · simp only [Act.put, List.setIfInBounds_toArray, List.set_cons_zero, List.set_cons_succ, i64_w, i32_w]
                  rfl
                refine pure_ (i := 8) (N := some 78) (v := ?_) (a' := ?_) #[true, true, true, true, true, true, true, true, true, false, false, false] rfl rfl (any_of HT_.out (by kernel_rfl)) (fun _ _ _ h => h) (Or.inl ⟨by rfl, ?_⟩) ?_ ?_
                rotate_left
                · intro w'
                  go_simp
                  with_reducible rfl
                rotate_left
                · simp only [Act.put, List.setIfInBounds_toArray, List.set_cons_zero, List.set_cons_succ, i64_w, i32_w]
                  rfl
                refine take_ (i := 9) (N := some 79) (v := ?_) (a' := ?_) #[true, true, true, true, true, true, true, true, true, true, false, false] rfl rfl (take_ofW HT_.out HW_.out (by kernel_rfl)) (fun _ _ _ h => h) (Or.inl ⟨by rfl, ?_⟩) hHeld ?_ ?_
                rotate_left
                · rintro w' ⟨s0, s1, s2, s3, s4, s5, s6, s7, s8, s9, s10, s11, s12, s13, s14, s15, s16, s17, s18, s19, s20, s21, s22, s23, s24, s25, s26, s27, s28, s29, s30, s31⟩
                  go_simp
                  with_reducible rfl
                rotate_left
                · simp only [Act.put, List.setIfInBounds_toArray, List.set_cons_zero, List.set_cons_succ, i64_w, i32_w]
                  rfl
                refine one_ (i := 10) (N := some 80) #[true, true, true, true, true, true, true, true, true, true, true, false] rfl rfl (one_of HT_.out (by kernel_rfl)) (by decide) (fun K hK => ?_)
                refine goes_ Tryz.func47 (by kernel_rfl) rfl #[.agg #[.string ((rd_T39 l0_7 x67_2).f0), .int .i64 ((rd_T39 l0_7 x67_2).f1), .bool ((rd_T39 l0_7 x67_2).f2), .int .i64 ((rd_T39 l0_7 x67_2).f3), .int .u64 ((rd_T39 l0_7 x67_2).f4), .float .f64 ((rd_T39 l0_7 x67_2).f5), .string ((rd_T39 l0_7 x67_2).f6), .slice A273_7 ((rd_T39 l0_7 x67_2).f7).length c273_7], .agg #[.string ((rd_T39 l1_7 x67_2).f0), .int .i64 ((rd_T39 l1_7 x67_2).f1), .bool ((rd_T39 l1_7 x67_2).f2), .int .i64 ((rd_T39 l1_7 x67_2).f3), .int .u64 ((rd_T39 l1_7 x67_2).f4), .float .f64 ((rd_T39 l1_7 x67_2).f5), .string ((rd_T39 l1_7 x67_2).f6), .slice A274_7 ((rd_T39 l1_7 x67_2).f7).length c274_7]] (by rfl) rfl rfl (by (try simp only [List.map_toArray, List.map_cons, List.map_nil]); first | done | rfl | (simp only [List.length_drop, List.length_take]; rfl)) ?_
                with_reducible refine (ih k2 (by have := HJ2.out; have := HK2.out; omega) ((rd_T39 l0_7 x67_2).f0) ((rd_T39 l0_7 x67_2).f1) ((rd_T39 l0_7 x67_2).f2) ((rd_T39 l0_7 x67_2).f3) ((rd_T39 l0_7 x67_2).f4) ((rd_T39 l0_7 x67_2).f5) ((rd_T39 l0_7 x67_2).f6) _ _ ((rd_T39 l0_7 x67_2).f7) ((rd_T39 l1_7 x67_2).f0) ((rd_T39 l1_7 x67_2).f1) ((rd_T39 l1_7 x67_2).f2) ((rd_T39 l1_7 x67_2).f3) ((rd_T39 l1_7 x67_2).f4) ((rd_T39 l1_7 x67_2).f5) ((rd_T39 l1_7 x67_2).f6) _ _ ((rd_T39 l1_7 x67_2).f7) true _ ?side1 ?side2 ?side3 ?side4 A23.out).mono ?_
                (case side1 => repeat (first | exact (Kd.C_below HR273_7.out HB.out) | (with_reducible refine Kd.C_alloc ?_ _) | (with_reducible refine Kd.C_drewN ?_ _) | (with_reducible refine Kd.C_drew ?_)))
                (case side2 => exact HC273_7.out)
                (case side3 => repeat (first | exact (Kd.C_below HR274_7.out HB.out) | (with_reducible refine Kd.C_alloc ?_ _) | (with_reducible refine Kd.C_drewN ?_ _) | (with_reducible refine Kd.C_drew ?_)))
                (case side4 => exact HC274_7.out)
                rintro e w26 ⟨rfl, hb⟩
                refine ⟨_, rfl, ?_⟩
                have n0_ := Aside0.mk (blk_below (g := gb269) (o := .cells #[.string a0_0, .int .i64 a0_1, .bool a0_2, .int .i64 a0_3, .int .u64 a0_4, .float .f64 a0_5, .string a0_6, .slice (some ad273) l0_7.length c0_7] 39 (0, 0)) (by (with_reducible repeat (first | refine blk_drewN ?_ _ | refine blk_drew ?_ | refine blk_alloc ?_ _)); exact BK269.out) hb)
                have n1_ := Aside0.mk (blk_below (g := gb270) (o := .cells #[.string a1_0, .int .i64 a1_1, .bool a1_2, .int .i64 a1_3, .int .u64 a1_4, .float .f64 a1_5, .string a1_6, .slice (some ad274) l1_7.length c1_7] 39 (0, 0)) (by (with_reducible repeat (first | refine blk_drewN ?_ _ | refine blk_drew ?_ | refine blk_alloc ?_ _)); exact BK270.out) hb)
                have n2_ := Aside0.mk (below_step (by repeat (first | (with_reducible first | exact HB.out | apply below_alloc | apply pw_below_drewN | apply below_drew1 | refine below_set ?_ GE269.out | refine below_set ?_ GE270.out) | exact HB.out)) hb)
                clear BK269
                clear BK270
                clear HB
                have BK269 := n0_
                have BK270 := n1_
                have HB := n2_
                clear n0_ n1_ n2_
                (try clear hb)
                (try clear hb2)
                (try clear hk)
                (try clear hi)
                refine hK.out _ _ ⟨(blk_cell BK269.out 0).trans rfl, (blk_cell BK269.out 1).trans rfl, (blk_cell BK269.out 2).trans rfl, (blk_cell BK269.out 3).trans rfl, (blk_cell BK269.out 4).trans rfl, (blk_cell BK269.out 5).trans rfl, (blk_cell BK269.out 6).trans rfl, (blk_cell BK269.out 7).trans rfl, (blk_cell BK270.out 0).trans rfl, (blk_cell BK270.out 1).trans rfl, (blk_cell BK270.out 2).trans rfl, (blk_cell BK270.out 3).trans rfl, (blk_cell BK270.out 4).trans rfl, (blk_cell BK270.out 5).trans rfl, (blk_cell BK270.out 6).trans rfl, (blk_cell BK270.out 7).trans rfl, ((HB.out.cell (World.block_lt_of_cell? w _ hw273_0)).trans hw273_0), ((HB.out.cell (World.block_lt_of_cell? w _ hw273_1)).trans hw273_1), ((HB.out.cell (World.block_lt_of_cell? w _ hw273_2)).trans hw273_2), ((HB.out.cell (World.block_lt_of_cell? w _ hw273_3)).trans hw273_3), ((HB.out.cell (World.block_lt_of_cell? w _ hw273_4)).trans hw273_4), ((HB.out.cell (World.block_lt_of_cell? w _ hw273_5)).trans hw273_5), ((HB.out.cell (World.block_lt_of_cell? w _ hw273_6)).trans hw273_6), ((HB.out.cell (World.block_lt_of_cell? w _ hw273_7)).trans hw273_7), ((HB.out.cell (World.block_lt_of_cell? w _ hw274_0)).trans hw274_0), ((HB.out.cell (World.block_lt_of_cell? w _ hw274_1)).trans hw274_1), ((HB.out.cell (World.block_lt_of_cell? w _ hw274_2)).trans hw274_2), ((HB.out.cell (World.block_lt_of_cell? w _ hw274_3)).trans hw274_3), ((HB.out.cell (World.block_lt_of_cell? w _ hw274_4)).trans hw274_4), ((HB.out.cell (World.block_lt_of_cell? w _ hw274_5)).trans hw274_5), ((HB.out.cell (World.block_lt_of_cell? w _ hw274_6)).trans hw274_6), ((HB.out.cell (World.block_lt_of_cell? w _ hw274_7)).trans hw274_7)⟩ (fun hHeld => ?_)
                clear hK K
                refine norm_ (a' := ?_) ?_ ?_
                rotate_left
                · show Act.put _ (some 80) _ = _
                  simp only [Act.put, List.setIfInBounds_toArray, List.set_cons_zero, List.set_cons_succ, i64_w, i32_w]
                  rfl
                refine pure_ (i := 11) (N := some 81) (v := ?_) (a' := ?_) #[true, true, true, true, true, true, true, true, true, true, true, true] rfl rfl (any_of HT_.out (by kernel_rfl)) (fun _ _ _ h => h) (Or.inl ⟨by rfl, ?_⟩) ?_ ?_
                rotate_left
                · intro w'
                  go_simp
                  with_reducible rfl
                rotate_left
                · simp only [Act.put, List.setIfInBounds_toArray, List.set_cons_zero, List.set_cons_succ, i64_w, i32_w]
                  rfl
                refine done_ (done_of HT_.out (by kernel_rfl)) ?_
                try go_wp2
                go_roundg k2
                case measure => have := HJ2.out; have := HK2.out; omega
                case rel => exact ⟨(wrap64 (x67_2 + 1)), (by first | rfl | (simp; done) | (simp [*]; done)), H', ⟨by have := HJ2.out; have := HK2.out; omega⟩, ⟨by (with_reducible repeat (first | refine blk_drewN ?_ _ | refine blk_drew ?_ | refine blk_alloc ?_ _)); exact BK269.out⟩, ⟨by (with_reducible repeat (first | refine blk_drewN ?_ _ | refine blk_drew ?_ | refine blk_alloc ?_ _)); exact BK270.out⟩, ⟨by repeat (first | (with_reducible first | exact HB.out | apply below_alloc | apply pw_below_drewN | apply below_drew1 | refine below_set ?_ GE269.out | refine below_set ?_ GE270.out) | exact HB.out)⟩⟩
              · replace c24 := Bool.eq_false_iff.mpr c24
                subst c24
                have H1 : (none) = some r := by rw [if_neg (show ¬ (false = true) by decide)] at H; exact H
                clear H
                have H := H1
                clear H1
                exact absurd H (by simp)
            · rw [if_neg c19] at H
              have c19b0 : decide (x67_2 < (l0_7.length : Int)) = false := decide_eq_false c19
              clear c19
              obtain rfl := Option.some.inj H
              go_wp2
              go_ret
              exact ⟨by first | rfl | (simp [errW_none, errW_some] <;> rfl) | (simp [*, errW_none, errW_some] <;> rfl), by repeat (first | (with_reducible first | exact HB.out | apply below_alloc | apply pw_below_drewN | apply below_drew1 | refine below_set ?_ GE269.out | refine below_set ?_ GE270.out) | exact HB.out)⟩

end Go.Proofs.YtednjmngalmdkaaGreatDoor.GPC
