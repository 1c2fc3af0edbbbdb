-- printed by gprint.py (a session's own turn of the kit's print): PC
import Derived.Test.YtednjmngalmdkaaGreatDoorGPCx0
import Derived.Test.YtednjmngalmdkaaGreatDoorGPCx1
import Derived.Test.YtednjmngalmdkaaGreatDoorGPCx2
import Derived.Test.YtednjmngalmdkaaGreatDoorGPCx3
import Derived.Test.YtednjmngalmdkaaGreatDoorGivenPC
namespace Go.Proofs.YtednjmngalmdkaaGreatDoor.GPC
open Go.RowKit Go.Proofs.YtednjmngalmdkaaGreatDoorW.PrintWords Go.Proofs.YtednjmngalmdkaaGreatDoorW.PrintLast Go.Proofs.YtednjmngalmdkaaGreatDoorW.PrintMore
attribute [local go_sem] max2_int min2_int max_two min_two max_three min_three max_four min_four   -- for this text's walks alone
set_option linter.unusedVariables false
set_option linter.unusedSimpArgs false

attribute [local go_sem] run_store_float
/-! ### spec_LoadavgPrint: function 15 -/
def spec_LoadavgPrint.j0 : Nat → List (S31) → Bool → Option (ByteArray × Int)
  | 0, _, _ => none
  | k + 1, x0, x22 => if x22 = true then (some ((⟨#[]⟩ : ByteArray), 2)) else (if 0 < (x0.length : Int) then (if 0 < (((rd_T31 x0 0).f1).length : Int) then ((spec_Hundredths.f k (rd ((rd_T31 x0 0).f1) 0)).bind fun t186 => (if t186.size + 1 ≤ 9223372036854775807 then (if 1 < (((rd_T31 x0 0).f1).length : Int) then ((spec_Hundredths.f k (rd ((rd_T31 x0 0).f1) 1)).bind fun t188 => (if (t186 ++ (⟨#[32]⟩ : ByteArray)).size + t188.size ≤ 9223372036854775807 then (if ((t186 ++ (⟨#[32]⟩ : ByteArray)) ++ t188).size + 1 ≤ 9223372036854775807 then (if 2 < (((rd_T31 x0 0).f1).length : Int) then ((spec_Hundredths.f k (rd ((rd_T31 x0 0).f1) 2)).bind fun t190 => (if (((t186 ++ (⟨#[32]⟩ : ByteArray)) ++ t188) ++ (⟨#[32]⟩ : ByteArray)).size + t190.size ≤ 9223372036854775807 then (if ((((t186 ++ (⟨#[32]⟩ : ByteArray)) ++ t188) ++ (⟨#[32]⟩ : ByteArray)) ++ t190).size + 1 ≤ 9223372036854775807 then (if 3 < (((rd_T31 x0 0).f1).length : Int) then ((spec_Text.f k (rd ((rd_T31 x0 0).f1) 3)).bind fun t192 => (if (((((t186 ++ (⟨#[32]⟩ : ByteArray)) ++ t188) ++ (⟨#[32]⟩ : ByteArray)) ++ t190) ++ (⟨#[32]⟩ : ByteArray)).size + t192.size ≤ 9223372036854775807 then (if ((((((t186 ++ (⟨#[32]⟩ : ByteArray)) ++ t188) ++ (⟨#[32]⟩ : ByteArray)) ++ t190) ++ (⟨#[32]⟩ : ByteArray)) ++ t192).size + 1 ≤ 9223372036854775807 then (if 4 < (((rd_T31 x0 0).f1).length : Int) then ((spec_Text.f k (rd ((rd_T31 x0 0).f1) 4)).bind fun t194 => (if (((((((t186 ++ (⟨#[32]⟩ : ByteArray)) ++ t188) ++ (⟨#[32]⟩ : ByteArray)) ++ t190) ++ (⟨#[32]⟩ : ByteArray)) ++ t192) ++ (⟨#[47]⟩ : ByteArray)).size + t194.size ≤ 9223372036854775807 then (if ((((((((t186 ++ (⟨#[32]⟩ : ByteArray)) ++ t188) ++ (⟨#[32]⟩ : ByteArray)) ++ t190) ++ (⟨#[32]⟩ : ByteArray)) ++ t192) ++ (⟨#[47]⟩ : ByteArray)) ++ t194).size + 1 ≤ 9223372036854775807 then (if 5 < (((rd_T31 x0 0).f1).length : Int) then ((spec_Text.f k (rd ((rd_T31 x0 0).f1) 5)).bind fun t196 => (if (((((((((t186 ++ (⟨#[32]⟩ : ByteArray)) ++ t188) ++ (⟨#[32]⟩ : ByteArray)) ++ t190) ++ (⟨#[32]⟩ : ByteArray)) ++ t192) ++ (⟨#[47]⟩ : ByteArray)) ++ t194) ++ (⟨#[32]⟩ : ByteArray)).size + t196.size ≤ 9223372036854775807 then (if ((((((((((t186 ++ (⟨#[32]⟩ : ByteArray)) ++ t188) ++ (⟨#[32]⟩ : ByteArray)) ++ t190) ++ (⟨#[32]⟩ : ByteArray)) ++ t192) ++ (⟨#[47]⟩ : ByteArray)) ++ t194) ++ (⟨#[32]⟩ : ByteArray)) ++ t196).size + 1 ≤ 9223372036854775807 then (some (((((((((((t186 ++ (⟨#[32]⟩ : ByteArray)) ++ t188) ++ (⟨#[32]⟩ : ByteArray)) ++ t190) ++ (⟨#[32]⟩ : ByteArray)) ++ t192) ++ (⟨#[47]⟩ : ByteArray)) ++ t194) ++ (⟨#[32]⟩ : ByteArray)) ++ t196) ++ (⟨#[10]⟩ : ByteArray), 1)) else (none)) else (none))) else (none)) else (none)) else (none))) else (none)) else (none)) else (none))) else (none)) else (none)) else (none))) else (none)) else (none)) else (none))) else (none)) else (none))) else (none)) else (none))
def spec_LoadavgPrint.f (k : Nat) (l0 : List (S31)) : Option (ByteArray × Int) := if (l0.length : Int) = 1 then (if 0 < (l0.length : Int) then ((spec_sized.f ((rd_T31 l0 0).f0) ((rd_T31 l0 0).f1) ((rd_T31 l0 0).f2) 6 0).bind fun t181 => (if t181 = true then ((spec_small.f k 1099511627776 ((rd_T31 l0 0).f1)).bind fun t183 => (spec_LoadavgPrint.j0 k l0 (!t183))) else (spec_LoadavgPrint.j0 k l0 true))) else (none)) else (spec_LoadavgPrint.j0 k l0 true)
theorem spec_LoadavgPrint.mono_l : ∀ k, (∀ y0 y1, LeO (spec_LoadavgPrint.j0 k y0 y1) (spec_LoadavgPrint.j0 (k + 1) y0 y1))
  | 0 => fun _ _ r h => by simp [spec_LoadavgPrint.j0] at h
  | k + 1 => by
    have ih0 := spec_LoadavgPrint.mono_l k
    · intro y0 y1
      unfold spec_LoadavgPrint.j0
      repeat' first
      | (with_reducible exact ih0 _ _)
      | (with_reducible exact spec_Hundredths.mono _ _)
      | (with_reducible exact spec_Text.mono _ _)
      | (with_reducible exact spec_small.mono _ _ _)
      | (with_reducible exact LeO.refl _)
      | (with_reducible exact LeO.none _)
      | (with_reducible refine LeO.ite ?_ ?_)
      | (with_reducible refine LeO.bind ?_ (fun _ => ?_))
      | exact ih0 _ _
      | exact spec_Hundredths.mono _ _
      | exact spec_Text.mono _ _
      | exact spec_small.mono _ _ _
      | exact LeO.none _
      | refine LeO.ite ?_ ?_
      | refine LeO.bind ?_ (fun _ => ?_)
theorem spec_LoadavgPrint.mono : ∀ a0 k, LeO (spec_LoadavgPrint.f k a0) (spec_LoadavgPrint.f (k + 1) a0) := by
  intro a0 k
  have ih0 := spec_LoadavgPrint.mono_l k
  unfold spec_LoadavgPrint.f
  repeat' first
      | (with_reducible exact ih0 _ _)
      | (with_reducible exact spec_Hundredths.mono _ _)
      | (with_reducible exact spec_Text.mono _ _)
      | (with_reducible exact spec_small.mono _ _ _)
      | (with_reducible exact LeO.refl _)
      | (with_reducible exact LeO.none _)
      | (with_reducible refine LeO.ite ?_ ?_)
      | (with_reducible refine LeO.bind ?_ (fun _ => ?_))
      | exact ih0 _ _
      | exact spec_Hundredths.mono _ _
      | exact spec_Text.mono _ _
      | exact spec_small.mono _ _ _
      | exact LeO.none _
      | refine LeO.ite ?_ ?_
      | refine LeO.bind ?_ (fun _ => ?_)
def spec_LoadavgPrint.T4 : Bool × List (List Nat × List Nat) := (true, [([], []), ([0], [0]), ([1], [1]), ([2], [2]), ([3], [3]), ([], []), ([5], [5]), ([6], [6]), ([7, 3], [7]), ([4, 8], [4, 8]), ([9], [9]), ([], []), ([11], [11]), ([12], [12]), ([13, 8], [13]), ([10, 14], [10, 14]), ([15], [15]), ([], []), ([17], [17]), ([18], [18]), ([19, 14], [19]), ([16, 20], [16, 20]), ([21], [21]), ([], []), ([23], [23]), ([24], [24]), ([25, 20], [25]), ([22, 26], [22, 26]), ([27], [27]), ([], []), ([29], [29]), ([30], [30]), ([31, 26], [31]), ([28, 32], [28, 32]), ([33], [33]), ([34, 32, 0, 1, 2, 3, 4, 5, 6, 7, 8, 9, 10, 11, 12, 13, 14, 15, 16, 17, 18, 19, 20, 21, 22, 23, 24, 25, 26, 27, 28, 29, 30, 31, 32, 33, 34], [34]), ([35, 0, 1, 2, 3, 4, 5, 6, 7, 8, 9, 10, 11, 12, 13, 14, 15, 16, 17, 18, 19, 20, 21, 22, 23, 24, 25, 26, 27, 28, 29, 30, 31, 32, 33, 34, 35], [])])
def spec_LoadavgPrint.B4 : List Nat := [0, 1, 3, 7, 15, 0, 32, 96, 239, 511, 1023, 0, 2048, 6144, 14831, 32767, 65535, 0, 131072, 393216, 948719, 2097151, 4194303, 0, 8388608, 25165824, 60717551, 134217727, 268435455, 0, 536870912, 1610612736, 3885922799, 8589934591, 17179869183, 34359738367, 68719476735]
theorem spec_LoadavgPrint.tab4 : rtab .any (opsOf Tryz.f15 4) = spec_LoadavgPrint.T4 := by kernel_rfl
theorem spec_LoadavgPrint.bits4 : waitsOk spec_LoadavgPrint.T4.2 spec_LoadavgPrint.B4 = true := by kernel_rfl
set_option maxHeartbeats 8000000 in
set_option maxRecDepth 100000 in
theorem spec_LoadavgPrint.calls (k : Nat) (A0 : Option Addr) (c0 : Nat) (l0 : List (S31)) (r1 : ByteArray) (r2 : Int) (w : World) (hr0 : Kd.C k31 w A0 l0.length l0) (hc0 : l0.length ≤ c0) (h : spec_LoadavgPrint.f k l0 = some (r1, r2)) :
    Calls Tryz.prog 15 #[.slice A0 l0.length c0] w fun e w' => e = .returned (.tuple #[.string r1, .int .i64 r2]) ∧ Below w.heap.size w w' := by
  have hu31 := Tryz.underlying31
  have HR0 := Aside0.mk hr0
  have HC0 := Aside0.mk hc0
  clear hr0 hc0
  have HB := Aside0.mk (Below.refl w.heap.size w)
  have H : (if (l0.length : Int) = 1 then (if 0 < (l0.length : Int) then ((spec_sized.f ((rd_T31 l0 0).f0) ((rd_T31 l0 0).f1) ((rd_T31 l0 0).f2) 6 0).bind fun t181 => (if t181 = true then ((spec_small.f k 1099511627776 ((rd_T31 l0 0).f1)).bind fun t183 => (spec_LoadavgPrint.j0 k l0 (!t183))) else (spec_LoadavgPrint.j0 k l0 true))) else (none)) else (spec_LoadavgPrint.j0 k l0 true)) = some (r1, r2) := h
  clear h
  have HC2 := Aside0.mk H
  clear H
  go_enter Tryz.func15, Tryz.ntmps15
  go_upto_region 1 with (fail)
  go_cut [22] (fun v22 wc => ∃ (kq : Nat) (x22_1 : Bool), v22 = .bool x22_1 ∧ Aside0 (spec_LoadavgPrint.j0 kq l0 x22_1 = some (r1, r2)) ∧ Aside0 (kq ≤ k) ∧ Aside0 (Below w.heap.size w wc))
  case first =>
    have H := HC2.out
    clear HC2
    by_cases c3 : (l0.length : Int) = 1
    · rw [if_pos c3] at H
      have c3b0 : ((l0.length : Int) == 1) = true := beq_iff_eq.mpr c3
      have c3b1 : ((l0.length : Int) != 1) = false := bne_eq_false_iff_eq.mpr c3
      clear c3
      (first | rw [c3b0] | (simp only [i64_w, i32_w]; rw [c3b0]) | skip)
      replace H := guard_inv H
      obtain ⟨c4, H⟩ := H
      have c4b0 : decide (0 < (l0.length : Int)) = true := decide_eq_true c4
      have c4b1 : decide (0 < l0.length) = true := decide_eq_true (by omega)
      clear c4
      replace H := Option.bind_eq_some_iff.mp H
      obtain ⟨t181, A50, H⟩ := H
      try dsimp -simprocs only at H
      have A5 := Aside0.mk A50
      clear A50
      by_cases c6 : t181 = true
      · subst c6
        have H1 : ((spec_small.f k 1099511627776 ((rd_T31 l0 0).f1)).bind fun t183 => (spec_LoadavgPrint.j0 k l0 (!t183))) = some (r1, r2) := by rw [if_pos rfl] at H; exact H
        clear H
        have H := H1
        clear H1
        replace H := Option.bind_eq_some_iff.mp H
        obtain ⟨t183, A70, H⟩ := H
        replace H : (spec_LoadavgPrint.j0 k l0 (!t183)) = some (r1, r2) := H
        have A7 := Aside0.mk A70
        clear A70
        have H' := Aside0.mk H
        clear H
        have p180 : 0 ≤ (0 : Int) := (by omega)
        have q180 : 0 < (l0.length : Int) := of_decide_eq_true (by first | (with_reducible assumption) | assumption)
        obtain ⟨ad180, A180_1, c180_1, A180_2, c180_2, e180, hx180_0, hx180_1, hx180_2, hl180_1, hi180_1, hl180_2, hi180_2⟩ := at_T31 HR0.out 0 p180 q180
        cases e180
        have qi180 : (0 < l0.length) = True := eq_true (by omega)
        (try rw [show ((0 : Int)).toNat = 0 from rfl] at hx180_0)
        (try rw [show 0 * 3 = 0 from rfl] at hx180_0)
        (try rw [Addr.add_zero'] at hx180_0)
        (try rw [show ((0 : Int)).toNat = 0 from rfl] at hx180_1)
        (try rw [show 0 * 3 = 0 from rfl] at hx180_1)
        (try rw [Addr.add_zero'] at hx180_1)
        (try rw [show ((0 : Int)).toNat = 0 from rfl] at hx180_2)
        (try rw [show 0 * 3 = 0 from rfl] at hx180_2)
        (try rw [Addr.add_zero'] at hx180_2)
        replace hx180_0 := (HB.out.cell (World.block_lt_of_cell? w _ hx180_0)).trans hx180_0
        replace hx180_1 := (HB.out.cell (World.block_lt_of_cell? w _ hx180_1)).trans hx180_1
        replace hx180_2 := (HB.out.cell (World.block_lt_of_cell? w _ hx180_2)).trans hx180_2
        have HR180_1 := Aside0.mk hi180_1
        have HC180_1 := Aside0.mk hl180_1
        clear hi180_1 hl180_1
        have HR180_2 := Aside0.mk hi180_2
        have HC180_2 := Aside0.mk hl180_2
        clear hi180_2 hl180_2
        replace p180 := eq_true p180
        replace q180 := eq_true q180
        go_wp2_with (first | (go_at_call 49; (with_reducible refine (spec_sized.calls ((rd_T31 l0 0).f0) _ _ ((rd_T31 l0 0).f1) _ _ ((rd_T31 l0 0).f2) 6 0 true _ ?side1 ?side2 ?side3 ?side4 A5.out).mono ?_); (case side1 => repeat (first | exact (Kd.C_below HR180_1.out HB.out) | (with_reducible refine Kd.C_alloc ?_ _) | (with_reducible refine Kd.C_drewN ?_ _) | (with_reducible refine Kd.C_drew ?_))); (case side2 => exact HC180_1.out); (case side3 => repeat (first | exact (Kd.C_below HR180_2.out HB.out) | (with_reducible refine Kd.C_alloc ?_ _) | (with_reducible refine Kd.C_drewN ?_ _) | (with_reducible refine Kd.C_drew ?_))); (case side4 => exact HC180_2.out); rintro e w8 ⟨rfl, hb⟩; have n0_ := Aside0.mk (below_step (by repeat (first | (with_reducible first | exact HB.out | apply below_alloc | apply pw_below_drewN | apply below_drew1) | exact HB.out)) hb); clear HB; have HB := n0_; clear n0_; (try clear hb); (try clear hb2); (try clear hk); (try clear hi); have p182 : 0 ≤ (0 : Int) := (by omega); have q182 : 0 < (l0.length : Int) := of_decide_eq_true (by first | (with_reducible assumption) | assumption); obtain ⟨ad182, A182_1, c182_1, A182_2, c182_2, e182, hx182_0, hx182_1, hx182_2, hl182_1, hi182_1, hl182_2, hi182_2⟩ := at_T31 HR0.out 0 p182 q182; obtain rfl : ad180 = ad182 := (by injection e182); have qi182 : (0 < l0.length) = True := eq_true (by omega); (try rw [show ((0 : Int)).toNat = 0 from rfl] at hx182_0); (try rw [show 0 * 3 = 0 from rfl] at hx182_0); (try rw [Addr.add_zero'] at hx182_0); (try rw [show ((0 : Int)).toNat = 0 from rfl] at hx182_1); (try rw [show 0 * 3 = 0 from rfl] at hx182_1); (try rw [Addr.add_zero'] at hx182_1); (try rw [show ((0 : Int)).toNat = 0 from rfl] at hx182_2); (try rw [show 0 * 3 = 0 from rfl] at hx182_2); (try rw [Addr.add_zero'] at hx182_2); replace hx182_0 := (HB.out.cell (World.block_lt_of_cell? w _ hx182_0)).trans hx182_0; replace hx182_1 := (HB.out.cell (World.block_lt_of_cell? w _ hx182_1)).trans hx182_1; replace hx182_2 := (HB.out.cell (World.block_lt_of_cell? w _ hx182_2)).trans hx182_2; have HR182_1 := Aside0.mk hi182_1; have HC182_1 := Aside0.mk hl182_1; clear hi182_1 hl182_1; have HR182_2 := Aside0.mk hi182_2; have HC182_2 := Aside0.mk hl182_2; clear hi182_2 hl182_2; replace p182 := eq_true p182; replace q182 := eq_true q182) | (go_at_call 50; (with_reducible refine (spec_small.calls k 1099511627776 _ _ ((rd_T31 l0 0).f1) t183 _ ?side1 ?side2 A7.out).mono ?_); (case side1 => repeat (first | exact (Kd.C_below HR182_1.out HB.out) | (with_reducible refine Kd.C_alloc ?_ _) | (with_reducible refine Kd.C_drewN ?_ _) | (with_reducible refine Kd.C_drew ?_))); (case side2 => exact HC182_1.out); rintro e w' ⟨rfl, ⟨nd, rfl⟩⟩))
        go_meet
        case rel => exact ⟨_, (!t183), (by first | rfl | (simp; done) | (simp [*]; done)), H', ⟨by first | omega | exact Nat.le_refl _⟩, ⟨by repeat (first | (with_reducible first | exact HB.out | apply below_alloc | apply pw_below_drewN | apply below_drew1) | exact HB.out)⟩⟩
      · replace c6 := Bool.eq_false_iff.mpr c6
        subst c6
        have H1 : (spec_LoadavgPrint.j0 k l0 true) = some (r1, r2) := by rw [if_neg (show ¬ (false = true) by decide)] at H; exact H
        clear H
        have H := H1
        clear H1
        have H' := Aside0.mk H
        clear H
        have p180 : 0 ≤ (0 : Int) := (by omega)
        have q180 : 0 < (l0.length : Int) := of_decide_eq_true (by first | (with_reducible assumption) | assumption)
        obtain ⟨ad180, A180_1, c180_1, A180_2, c180_2, e180, hx180_0, hx180_1, hx180_2, hl180_1, hi180_1, hl180_2, hi180_2⟩ := at_T31 HR0.out 0 p180 q180
        cases e180
        have qi180 : (0 < l0.length) = True := eq_true (by omega)
        (try rw [show ((0 : Int)).toNat = 0 from rfl] at hx180_0)
        (try rw [show 0 * 3 = 0 from rfl] at hx180_0)
        (try rw [Addr.add_zero'] at hx180_0)
        (try rw [show ((0 : Int)).toNat = 0 from rfl] at hx180_1)
        (try rw [show 0 * 3 = 0 from rfl] at hx180_1)
        (try rw [Addr.add_zero'] at hx180_1)
        (try rw [show ((0 : Int)).toNat = 0 from rfl] at hx180_2)
        (try rw [show 0 * 3 = 0 from rfl] at hx180_2)
        (try rw [Addr.add_zero'] at hx180_2)
        replace hx180_0 := (HB.out.cell (World.block_lt_of_cell? w _ hx180_0)).trans hx180_0
        replace hx180_1 := (HB.out.cell (World.block_lt_of_cell? w _ hx180_1)).trans hx180_1
        replace hx180_2 := (HB.out.cell (World.block_lt_of_cell? w _ hx180_2)).trans hx180_2
        have HR180_1 := Aside0.mk hi180_1
        have HC180_1 := Aside0.mk hl180_1
        clear hi180_1 hl180_1
        have HR180_2 := Aside0.mk hi180_2
        have HC180_2 := Aside0.mk hl180_2
        clear hi180_2 hl180_2
        replace p180 := eq_true p180
        replace q180 := eq_true q180
        go_wp2_with (first | (go_at_call 49; (with_reducible refine (spec_sized.calls ((rd_T31 l0 0).f0) _ _ ((rd_T31 l0 0).f1) _ _ ((rd_T31 l0 0).f2) 6 0 false _ ?side1 ?side2 ?side3 ?side4 A5.out).mono ?_); (case side1 => repeat (first | exact (Kd.C_below HR180_1.out HB.out) | (with_reducible refine Kd.C_alloc ?_ _) | (with_reducible refine Kd.C_drewN ?_ _) | (with_reducible refine Kd.C_drew ?_))); (case side2 => exact HC180_1.out); (case side3 => repeat (first | exact (Kd.C_below HR180_2.out HB.out) | (with_reducible refine Kd.C_alloc ?_ _) | (with_reducible refine Kd.C_drewN ?_ _) | (with_reducible refine Kd.C_drew ?_))); (case side4 => exact HC180_2.out); rintro e w9 ⟨rfl, hb⟩; have n0_ := Aside0.mk (below_step (by repeat (first | (with_reducible first | exact HB.out | apply below_alloc | apply pw_below_drewN | apply below_drew1) | exact HB.out)) hb); clear HB; have HB := n0_; clear n0_; (try clear hb); (try clear hb2); (try clear hk); (try clear hi)))
        go_meet
        case rel => exact ⟨_, (true), (by first | rfl | (simp; done) | (simp [*]; done)), H', ⟨by first | omega | exact Nat.le_refl _⟩, ⟨by repeat (first | (with_reducible first | exact HB.out | apply below_alloc | apply pw_below_drewN | apply below_drew1) | exact HB.out)⟩⟩
    · rw [if_neg c3] at H
      have c3b0 : ((l0.length : Int) == 1) = false := beq_eq_false_iff_ne.mpr c3
      have c3b1 : ((l0.length : Int) != 1) = true := bne_iff_ne.mpr c3
      (first | rw [c3b0] | (simp only [i64_w, i32_w]; rw [c3b0]) | skip)
      have H' := Aside0.mk H
      clear H
      go_wp2
      go_meet
      case rel => exact ⟨_, (true), (by first | rfl | (simp; done) | (simp [*]; done)), H', ⟨by first | omega | exact Nat.le_refl _⟩, ⟨by repeat (first | (with_reducible first | exact HB.out | apply below_alloc | apply pw_below_drewN | apply below_drew1) | exact HB.out)⟩⟩
  case rest =>
    clear HC2
    try clear c1
    try clear p1
    try clear q1
    try clear hx1
    try clear qi1
    try clear p2
    try clear c3
    try clear c3b0
    try clear c3b1
    try clear c4
    try clear c4b0
    try clear c4b1
    try clear c6
    try clear hx180_0
    try clear hx180_1
    try clear hx180_2
    try clear hx182_0
    try clear hx182_1
    try clear hx182_2
    try clear p180
    try clear p182
    try clear q180
    try clear q182
    obtain ⟨kq, x22_1, rfl, HA, HJ1, HB⟩ := hcut
    cases kq with
    | zero => exact absurd HA.out (by simp [spec_LoadavgPrint.j0])
    | succ kj1 =>
      have H := HA.out
      clear HA
      simp only [spec_LoadavgPrint.j0] at H
      by_cases c10 : x22_1 = true
      · subst c10
        have H1 : (some ((⟨#[]⟩ : ByteArray), 2)) = some (r1, r2) := by rw [if_pos rfl] at H; exact H
        clear H
        have H := H1
        clear H1
        simp only [Option.some.injEq, Prod.mk.injEq] at H
        obtain ⟨rfl, rfl⟩ := H
        go_wp2
        go_ret2
        exact ⟨by first | rfl | (simp [errW_none, errW_some] <;> rfl) | (simp [*, errW_none, errW_some] <;> rfl), by repeat (first | (with_reducible first | exact HB.out | apply below_alloc | apply pw_below_drewN | apply below_drew1) | exact HB.out)⟩
      · replace c10 := Bool.eq_false_iff.mpr c10
        subst c10
        have H1 : (if 0 < (l0.length : Int) then (if 0 < (((rd_T31 l0 0).f1).length : Int) then ((spec_Hundredths.f kj1 (rd ((rd_T31 l0 0).f1) 0)).bind fun t186 => (if t186.size + 1 ≤ 9223372036854775807 then (if 1 < (((rd_T31 l0 0).f1).length : Int) then ((spec_Hundredths.f kj1 (rd ((rd_T31 l0 0).f1) 1)).bind fun t188 => (if (t186 ++ (⟨#[32]⟩ : ByteArray)).size + t188.size ≤ 9223372036854775807 then (if ((t186 ++ (⟨#[32]⟩ : ByteArray)) ++ t188).size + 1 ≤ 9223372036854775807 then (if 2 < (((rd_T31 l0 0).f1).length : Int) then ((spec_Hundredths.f kj1 (rd ((rd_T31 l0 0).f1) 2)).bind fun t190 => (if (((t186 ++ (⟨#[32]⟩ : ByteArray)) ++ t188) ++ (⟨#[32]⟩ : ByteArray)).size + t190.size ≤ 9223372036854775807 then (if ((((t186 ++ (⟨#[32]⟩ : ByteArray)) ++ t188) ++ (⟨#[32]⟩ : ByteArray)) ++ t190).size + 1 ≤ 9223372036854775807 then (if 3 < (((rd_T31 l0 0).f1).length : Int) then ((spec_Text.f kj1 (rd ((rd_T31 l0 0).f1) 3)).bind fun t192 => (if (((((t186 ++ (⟨#[32]⟩ : ByteArray)) ++ t188) ++ (⟨#[32]⟩ : ByteArray)) ++ t190) ++ (⟨#[32]⟩ : ByteArray)).size + t192.size ≤ 9223372036854775807 then (if ((((((t186 ++ (⟨#[32]⟩ : ByteArray)) ++ t188) ++ (⟨#[32]⟩ : ByteArray)) ++ t190) ++ (⟨#[32]⟩ : ByteArray)) ++ t192).size + 1 ≤ 9223372036854775807 then (if 4 < (((rd_T31 l0 0).f1).length : Int) then ((spec_Text.f kj1 (rd ((rd_T31 l0 0).f1) 4)).bind fun t194 => (if (((((((t186 ++ (⟨#[32]⟩ : ByteArray)) ++ t188) ++ (⟨#[32]⟩ : ByteArray)) ++ t190) ++ (⟨#[32]⟩ : ByteArray)) ++ t192) ++ (⟨#[47]⟩ : ByteArray)).size + t194.size ≤ 9223372036854775807 then (if ((((((((t186 ++ (⟨#[32]⟩ : ByteArray)) ++ t188) ++ (⟨#[32]⟩ : ByteArray)) ++ t190) ++ (⟨#[32]⟩ : ByteArray)) ++ t192) ++ (⟨#[47]⟩ : ByteArray)) ++ t194).size + 1 ≤ 9223372036854775807 then (if 5 < (((rd_T31 l0 0).f1).length : Int) then ((spec_Text.f kj1 (rd ((rd_T31 l0 0).f1) 5)).bind fun t196 => (if (((((((((t186 ++ (⟨#[32]⟩ : ByteArray)) ++ t188) ++ (⟨#[32]⟩ : ByteArray)) ++ t190) ++ (⟨#[32]⟩ : ByteArray)) ++ t192) ++ (⟨#[47]⟩ : ByteArray)) ++ t194) ++ (⟨#[32]⟩ : ByteArray)).size + t196.size ≤ 9223372036854775807 then (if ((((((((((t186 ++ (⟨#[32]⟩ : ByteArray)) ++ t188) ++ (⟨#[32]⟩ : ByteArray)) ++ t190) ++ (⟨#[32]⟩ : ByteArray)) ++ t192) ++ (⟨#[47]⟩ : ByteArray)) ++ t194) ++ (⟨#[32]⟩ : ByteArray)) ++ t196).size + 1 ≤ 9223372036854775807 then (some (((((((((((t186 ++ (⟨#[32]⟩ : ByteArray)) ++ t188) ++ (⟨#[32]⟩ : ByteArray)) ++ t190) ++ (⟨#[32]⟩ : ByteArray)) ++ t192) ++ (⟨#[47]⟩ : ByteArray)) ++ t194) ++ (⟨#[32]⟩ : ByteArray)) ++ t196) ++ (⟨#[10]⟩ : ByteArray), 1)) else (none)) else (none))) else (none)) else (none)) else (none))) else (none)) else (none)) else (none))) else (none)) else (none)) else (none))) else (none)) else (none)) else (none))) else (none)) else (none))) else (none)) else (none)) = some (r1, r2) := by rw [if_neg (show ¬ (false = true) by decide)] at H; exact H
        clear H
        have H := H1
        clear H1
        replace H := guard_inv H
        obtain ⟨c11, H⟩ := H
        have c11b0 : decide (0 < (l0.length : Int)) = true := decide_eq_true c11
        have c11b1 : decide (0 < l0.length) = true := decide_eq_true (by omega)
        clear c11
        replace H := guard_inv H
        obtain ⟨c12, H⟩ := H
        have c12b0 : decide (0 < (((rd_T31 l0 0).f1).length : Int)) = true := decide_eq_true c12
        have c12b1 : decide (0 < ((rd_T31 l0 0).f1).length) = true := decide_eq_true (by omega)
        clear c12
        replace H := Option.bind_eq_some_iff.mp H
        obtain ⟨t186, A130, H⟩ := H
        try dsimp -simprocs only at H
        have A13 := Aside0.mk A130
        clear A130
        replace H := guard_inv H
        obtain ⟨c14, H⟩ := H
        have c14b0 := eq_true c14
        have c14b1 := decide_eq_true c14
        try have c14b2 := eq_false (Nat.not_lt.2 c14)
        replace H := guard_inv H
        obtain ⟨c15, H⟩ := H
        have c15b0 : decide (1 < (((rd_T31 l0 0).f1).length : Int)) = true := decide_eq_true c15
        have c15b1 : decide (1 < ((rd_T31 l0 0).f1).length) = true := decide_eq_true (by omega)
        clear c15
        replace H := Option.bind_eq_some_iff.mp H
        obtain ⟨t188, A160, H⟩ := H
        try dsimp -simprocs only at H
        have A16 := Aside0.mk A160
        clear A160
        replace H := guard_inv H
        obtain ⟨c17, H⟩ := H
        have c17b0 := eq_true c17
        have c17b1 := decide_eq_true c17
        try have c17b2 := eq_false (Nat.not_lt.2 c17)
        try have c17b5 : (9223372036854775807 < t186.size + 1 + t188.size) = False := by have e_ := c17b2; (repeat rw [ByteArray.size_append] at e_); exact e_
        replace H := guard_inv H
        obtain ⟨c18, H⟩ := H
        have c18b0 := eq_true c18
        have c18b1 := decide_eq_true c18
        try have c18b2 := eq_false (Nat.not_lt.2 c18)
        try have c18b5 : (9223372036854775807 < t186.size + 1 + t188.size + 1) = False := by have e_ := c18b2; (repeat rw [ByteArray.size_append] at e_); exact e_
        replace H := guard_inv H
        obtain ⟨c19, H⟩ := H
        have c19b0 : decide (2 < (((rd_T31 l0 0).f1).length : Int)) = true := decide_eq_true c19
        have c19b1 : decide (2 < ((rd_T31 l0 0).f1).length) = true := decide_eq_true (by omega)
        clear c19
        replace H := Option.bind_eq_some_iff.mp H
        obtain ⟨t190, A200, H⟩ := H
        try dsimp -simprocs only at H
        have A20 := Aside0.mk A200
        clear A200
        replace H := guard_inv H
        obtain ⟨c21, H⟩ := H
        have c21b0 := eq_true c21
        have c21b1 := decide_eq_true c21
        try have c21b2 := eq_false (Nat.not_lt.2 c21)
        try have c21b5 : (9223372036854775807 < t186.size + 1 + t188.size + 1 + t190.size) = False := by have e_ := c21b2; (repeat rw [ByteArray.size_append] at e_); exact e_
        replace H := guard_inv H
        obtain ⟨c22, H⟩ := H
        have c22b0 := eq_true c22
        have c22b1 := decide_eq_true c22
        try have c22b2 := eq_false (Nat.not_lt.2 c22)
        try have c22b5 : (9223372036854775807 < t186.size + 1 + t188.size + 1 + t190.size + 1) = False := by have e_ := c22b2; (repeat rw [ByteArray.size_append] at e_); exact e_
        replace H := guard_inv H
        obtain ⟨c23, H⟩ := H
        have c23b0 : decide (3 < (((rd_T31 l0 0).f1).length : Int)) = true := decide_eq_true c23
        have c23b1 : decide (3 < ((rd_T31 l0 0).f1).length) = true := decide_eq_true (by omega)
        clear c23
        replace H := Option.bind_eq_some_iff.mp H
        obtain ⟨t192, A240, H⟩ := H
        try dsimp -simprocs only at H
        have A24 := Aside0.mk A240
        clear A240
        replace H := guard_inv H
        obtain ⟨c25, H⟩ := H
        have c25b0 := eq_true c25
        have c25b1 := decide_eq_true c25
        try have c25b2 := eq_false (Nat.not_lt.2 c25)
        try have c25b5 : (9223372036854775807 < t186.size + 1 + t188.size + 1 + t190.size + 1 + t192.size) = False := by have e_ := c25b2; (repeat rw [ByteArray.size_append] at e_); exact e_
        replace H := guard_inv H
        obtain ⟨c26, H⟩ := H
        have c26b0 := eq_true c26
        have c26b1 := decide_eq_true c26
        try have c26b2 := eq_false (Nat.not_lt.2 c26)
        try have c26b5 : (9223372036854775807 < t186.size + 1 + t188.size + 1 + t190.size + 1 + t192.size + 1) = False := by have e_ := c26b2; (repeat rw [ByteArray.size_append] at e_); exact e_
        replace H := guard_inv H
        obtain ⟨c27, H⟩ := H
        have c27b0 : decide (4 < (((rd_T31 l0 0).f1).length : Int)) = true := decide_eq_true c27
        have c27b1 : decide (4 < ((rd_T31 l0 0).f1).length) = true := decide_eq_true (by omega)
        clear c27
        replace H := Option.bind_eq_some_iff.mp H
        obtain ⟨t194, A280, H⟩ := H
        try dsimp -simprocs only at H
        have A28 := Aside0.mk A280
        clear A280
        replace H := guard_inv H
        obtain ⟨c29, H⟩ := H
        have c29b0 := eq_true c29
        have c29b1 := decide_eq_true c29
        try have c29b2 := eq_false (Nat.not_lt.2 c29)
        try have c29b5 : (9223372036854775807 < t186.size + 1 + t188.size + 1 + t190.size + 1 + t192.size + 1 + t194.size) = False := by have e_ := c29b2; (repeat rw [ByteArray.size_append] at e_); exact e_
        replace H := guard_inv H
        obtain ⟨c30, H⟩ := H
        have c30b0 := eq_true c30
        have c30b1 := decide_eq_true c30
        try have c30b2 := eq_false (Nat.not_lt.2 c30)
        try have c30b5 : (9223372036854775807 < t186.size + 1 + t188.size + 1 + t190.size + 1 + t192.size + 1 + t194.size + 1) = False := by have e_ := c30b2; (repeat rw [ByteArray.size_append] at e_); exact e_
        replace H := guard_inv H
        obtain ⟨c31, H⟩ := H
        have c31b0 : decide (5 < (((rd_T31 l0 0).f1).length : Int)) = true := decide_eq_true c31
        have c31b1 : decide (5 < ((rd_T31 l0 0).f1).length) = true := decide_eq_true (by omega)
        clear c31
        replace H := Option.bind_eq_some_iff.mp H
        obtain ⟨t196, A320, H⟩ := H
        try dsimp -simprocs only at H
        have A32 := Aside0.mk A320
        clear A320
        replace H := guard_inv H
        obtain ⟨c33, H⟩ := H
        have c33b0 := eq_true c33
        have c33b1 := decide_eq_true c33
        try have c33b2 := eq_false (Nat.not_lt.2 c33)
        try have c33b5 : (9223372036854775807 < t186.size + 1 + t188.size + 1 + t190.size + 1 + t192.size + 1 + t194.size + 1 + t196.size) = False := by have e_ := c33b2; (repeat rw [ByteArray.size_append] at e_); exact e_
        replace H := guard_inv H
        obtain ⟨c34, H⟩ := H
        have c34b0 := eq_true c34
        have c34b1 := decide_eq_true c34
        try have c34b2 := eq_false (Nat.not_lt.2 c34)
        try have c34b5 : (9223372036854775807 < t186.size + 1 + t188.size + 1 + t190.size + 1 + t192.size + 1 + t194.size + 1 + t196.size + 1) = False := by have e_ := c34b2; (repeat rw [ByteArray.size_append] at e_); exact e_
        simp only [Option.some.injEq, Prod.mk.injEq] at H
        obtain ⟨rfl, rfl⟩ := H
        have p184 : 0 ≤ (0 : Int) := (by omega)
        have q184 : 0 < (l0.length : Int) := of_decide_eq_true (by first | (with_reducible assumption) | assumption)
        obtain ⟨ad184, A184_1, c184_1, A184_2, c184_2, e184, hx184_0, hx184_1, hx184_2, hl184_1, hi184_1, hl184_2, hi184_2⟩ := at_T31 HR0.out 0 p184 q184
        cases e184
        have qi184 : (0 < l0.length) = True := eq_true (by omega)
        (try rw [show ((0 : Int)).toNat = 0 from rfl] at hx184_0)
        (try rw [show 0 * 3 = 0 from rfl] at hx184_0)
        (try rw [Addr.add_zero'] at hx184_0)
        (try rw [show ((0 : Int)).toNat = 0 from rfl] at hx184_1)
        (try rw [show 0 * 3 = 0 from rfl] at hx184_1)
        (try rw [Addr.add_zero'] at hx184_1)
        (try rw [show ((0 : Int)).toNat = 0 from rfl] at hx184_2)
        (try rw [show 0 * 3 = 0 from rfl] at hx184_2)
        (try rw [Addr.add_zero'] at hx184_2)
        replace hx184_0 := (HB.out.cell (World.block_lt_of_cell? w _ hx184_0)).trans hx184_0
        replace hx184_1 := (HB.out.cell (World.block_lt_of_cell? w _ hx184_1)).trans hx184_1
        replace hx184_2 := (HB.out.cell (World.block_lt_of_cell? w _ hx184_2)).trans hx184_2
        have HR184_1 := Aside0.mk hi184_1
        have HC184_1 := Aside0.mk hl184_1
        clear hi184_1 hl184_1
        have HR184_2 := Aside0.mk hi184_2
        have HC184_2 := Aside0.mk hl184_2
        clear hi184_2 hl184_2
        replace p184 := eq_true p184
        replace q184 := eq_true q184
        try go_wp2
        have n0_ := Aside0.mk (below_drew1 HB.out)
        clear HB
        have HB := n0_
        clear n0_
        have p185 : 0 ≤ (0 : Int) := (by omega)
        have q185 : 0 < (((rd_T31 l0 0).f1).length : Int) := of_decide_eq_true (by first | (with_reducible assumption) | assumption)
        obtain ⟨ad185, e185, hx185_0⟩ := Kd.at_int HR184_1.out 0 p185 q185
        have hw185_0 := hx185_0
        (try rw [show ((0 : Int)).toNat = 0 from rfl] at hw185_0)
        (try rw [show 0 * 1 = 0 from rfl] at hw185_0)
        (try rw [Addr.add_zero'] at hw185_0)
        cases e185
        have qi185 : (0 < ((rd_T31 l0 0).f1).length) = True := eq_true (by omega)
        (try rw [show ((0 : Int)).toNat = 0 from rfl] at hx185_0)
        (try rw [Addr.add_zero'] at hx185_0)
        replace hx185_0 := (HB.out.cell (World.block_lt_of_cell? w _ hx185_0)).trans hx185_0
        replace p185 := eq_true p185
        replace q185 := eq_true q185
        have p187 : 0 ≤ (1 : Int) := (by omega)
        have q187 : 1 < (((rd_T31 l0 0).f1).length : Int) := of_decide_eq_true (by first | (with_reducible assumption) | assumption)
        obtain ⟨ad187, e187, hx187_0⟩ := Kd.at_int HR184_1.out 1 p187 q187
        have hw187_0 := hx187_0
        (try rw [show ((1 : Int)).toNat = 1 from rfl] at hw187_0)
        (try rw [show 1 * 1 = 1 from rfl] at hw187_0)
        (try simp only [Nat.reduceMul, Nat.reduceEqDiff, Go.Addr.add, ↓reduceIte] at hw187_0)
        obtain rfl : ad185 = ad187 := (by injection e187)
        (try simp only [show (1 : Int).toNat = 1 from rfl, Nat.reduceMul, Nat.reduceEqDiff, Go.Addr.add, ↓reduceIte] at hx187_0)
        have qi187 : (1 < ((rd_T31 l0 0).f1).length) = True := eq_true (by omega)
        (try rw [show ((1 : Int)).toNat = 1 from rfl] at hx187_0)
        replace hx187_0 := (HB.out.cell (World.block_lt_of_cell? w _ hx187_0)).trans hx187_0
        replace p187 := eq_true p187
        replace q187 := eq_true q187
        have p189 : 0 ≤ (2 : Int) := (by omega)
        have q189 : 2 < (((rd_T31 l0 0).f1).length : Int) := of_decide_eq_true (by first | (with_reducible assumption) | assumption)
        obtain ⟨ad189, e189, hx189_0⟩ := Kd.at_int HR184_1.out 2 p189 q189
        have hw189_0 := hx189_0
        (try rw [show ((2 : Int)).toNat = 2 from rfl] at hw189_0)
        (try rw [show 2 * 1 = 2 from rfl] at hw189_0)
        (try simp only [Nat.reduceMul, Nat.reduceEqDiff, Go.Addr.add, ↓reduceIte] at hw189_0)
        obtain rfl : ad185 = ad189 := (by injection e189)
        (try simp only [show (2 : Int).toNat = 2 from rfl, Nat.reduceMul, Nat.reduceEqDiff, Go.Addr.add, ↓reduceIte] at hx189_0)
        have qi189 : (2 < ((rd_T31 l0 0).f1).length) = True := eq_true (by omega)
        (try rw [show ((2 : Int)).toNat = 2 from rfl] at hx189_0)
        replace hx189_0 := (HB.out.cell (World.block_lt_of_cell? w _ hx189_0)).trans hx189_0
        replace p189 := eq_true p189
        replace q189 := eq_true q189
        have p191 : 0 ≤ (3 : Int) := (by omega)
        have q191 : 3 < (((rd_T31 l0 0).f1).length : Int) := of_decide_eq_true (by first | (with_reducible assumption) | assumption)
        obtain ⟨ad191, e191, hx191_0⟩ := Kd.at_int HR184_1.out 3 p191 q191
        have hw191_0 := hx191_0
        (try rw [show ((3 : Int)).toNat = 3 from rfl] at hw191_0)
        (try rw [show 3 * 1 = 3 from rfl] at hw191_0)
        (try simp only [Nat.reduceMul, Nat.reduceEqDiff, Go.Addr.add, ↓reduceIte] at hw191_0)
        obtain rfl : ad185 = ad191 := (by injection e191)
        (try simp only [show (3 : Int).toNat = 3 from rfl, Nat.reduceMul, Nat.reduceEqDiff, Go.Addr.add, ↓reduceIte] at hx191_0)
        have qi191 : (3 < ((rd_T31 l0 0).f1).length) = True := eq_true (by omega)
        (try rw [show ((3 : Int)).toNat = 3 from rfl] at hx191_0)
        replace hx191_0 := (HB.out.cell (World.block_lt_of_cell? w _ hx191_0)).trans hx191_0
        replace p191 := eq_true p191
        replace q191 := eq_true q191
        have p193 : 0 ≤ (4 : Int) := (by omega)
        have q193 : 4 < (((rd_T31 l0 0).f1).length : Int) := of_decide_eq_true (by first | (with_reducible assumption) | assumption)
        obtain ⟨ad193, e193, hx193_0⟩ := Kd.at_int HR184_1.out 4 p193 q193
        have hw193_0 := hx193_0
        (try rw [show ((4 : Int)).toNat = 4 from rfl] at hw193_0)
        (try rw [show 4 * 1 = 4 from rfl] at hw193_0)
        (try simp only [Nat.reduceMul, Nat.reduceEqDiff, Go.Addr.add, ↓reduceIte] at hw193_0)
        obtain rfl : ad185 = ad193 := (by injection e193)
        (try simp only [show (4 : Int).toNat = 4 from rfl, Nat.reduceMul, Nat.reduceEqDiff, Go.Addr.add, ↓reduceIte] at hx193_0)
        have qi193 : (4 < ((rd_T31 l0 0).f1).length) = True := eq_true (by omega)
        (try rw [show ((4 : Int)).toNat = 4 from rfl] at hx193_0)
        replace hx193_0 := (HB.out.cell (World.block_lt_of_cell? w _ hx193_0)).trans hx193_0
        replace p193 := eq_true p193
        replace q193 := eq_true q193
        have p195 : 0 ≤ (5 : Int) := (by omega)
        have q195 : 5 < (((rd_T31 l0 0).f1).length : Int) := of_decide_eq_true (by first | (with_reducible assumption) | assumption)
        obtain ⟨ad195, e195, hx195_0⟩ := Kd.at_int HR184_1.out 5 p195 q195
        have hw195_0 := hx195_0
        (try rw [show ((5 : Int)).toNat = 5 from rfl] at hw195_0)
        (try rw [show 5 * 1 = 5 from rfl] at hw195_0)
        (try simp only [Nat.reduceMul, Nat.reduceEqDiff, Go.Addr.add, ↓reduceIte] at hw195_0)
        obtain rfl : ad185 = ad195 := (by injection e195)
        (try simp only [show (5 : Int).toNat = 5 from rfl, Nat.reduceMul, Nat.reduceEqDiff, Go.Addr.add, ↓reduceIte] at hx195_0)
        have qi195 : (5 < ((rd_T31 l0 0).f1).length) = True := eq_true (by omega)
        (try rw [show ((5 : Int)).toNat = 5 from rfl] at hx195_0)
        replace hx195_0 := (HB.out.cell (World.block_lt_of_cell? w _ hx195_0)).trans hx195_0
        replace p195 := eq_true p195
        replace q195 := eq_true q195
        refine start_ (n := 37) (S := fun w' => w'.cell? ad185 = some (.int .u64 (rd ((rd_T31 l0 0).f1) 0)) ∧ w'.cell? ⟨ad185.block, ad185.off + 1, none⟩ = some (.int .u64 (rd ((rd_T31 l0 0).f1) 1)) ∧ w'.cell? ⟨ad185.block, ad185.off + 2, none⟩ = some (.int .u64 (rd ((rd_T31 l0 0).f1) 2)) ∧ w'.cell? ⟨ad185.block, ad185.off + 3, none⟩ = some (.int .u64 (rd ((rd_T31 l0 0).f1) 3)) ∧ w'.cell? ⟨ad185.block, ad185.off + 4, none⟩ = some (.int .u64 (rd ((rd_T31 l0 0).f1) 4)) ∧ w'.cell? ⟨ad185.block, ad185.off + 5, none⟩ = some (.int .u64 (rd ((rd_T31 l0 0).f1) 5))) (ds := []) #[false, false, false, false, false, false, false, false, false, false, false, false, false, false, false, false, false, false, false, false, false, false, false, false, false, false, false, false, false, false, false, false, false, false, false, false, false] (by kernel_rfl) rfl rfl ⟨((HB.out.cell (World.block_lt_of_cell? w _ hw185_0)).trans hw185_0), ((HB.out.cell (World.block_lt_of_cell? w _ hw187_0)).trans hw187_0), ((HB.out.cell (World.block_lt_of_cell? w _ hw189_0)).trans hw189_0), ((HB.out.cell (World.block_lt_of_cell? w _ hw191_0)).trans hw191_0), ((HB.out.cell (World.block_lt_of_cell? w _ hw193_0)).trans hw193_0), ((HB.out.cell (World.block_lt_of_cell? w _ hw195_0)).trans hw195_0)⟩ (fun hHeld => ?_); refine with_tabW spec_LoadavgPrint.tab4 spec_LoadavgPrint.bits4 (fun HT_ HW_ => ?_)
        generalize wc.drew = w35 at HB hx185_0 hx187_0 hx189_0 hx191_0 hx193_0 hx195_0 hHeld ⊢
        refine pure_ (i := 0) (N := some 27) (v := ?_) (a' := ?_) #[true, false, false, false, false, false, false, false, false, false, false, false, false, false, false, false, false, false, false, false, false, false, false, false, false, false, false, false, false, false, false, false, false, false, false, false, false] rfl rfl (any_of HT_.out (by kernel_rfl)) (fun _ _ _ h => h) (Or.inl ⟨by rfl, ?_⟩) ?_ ?_
        rotate_left
        · intro w'
          go_simp
          with_reducible rfl
        rotate_left
        · simp only [Act.put, List.setIfInBounds_toArray, List.set_cons_zero, List.set_cons_succ, i64_w, i32_w]
          rfl
        refine pure_ (i := 1) (N := some 28) (v := ?_) (a' := ?_) #[true, true, false, false, false, false, false, false, false, false, false, false, false, false, false, false, false, false, false, false, false, false, false, false, false, false, false, false, false, false, false, false, false, false, false, false, false] rfl rfl (any_of HT_.out (by kernel_rfl)) (fun _ _ _ h => h) (Or.inl ⟨by rfl, ?_⟩) ?_ ?_
        rotate_left
        · intro w'
          go_simp
          with_reducible rfl
        rotate_left
        · simp only [Act.put, List.setIfInBounds_toArray, List.set_cons_zero, List.set_cons_succ, i64_w, i32_w]
          rfl
        refine pure_ (i := 5) (N := some 32) (v := ?_) (a' := ?_) #[true, true, false, false, false, true, false, false, false, false, false, false, false, false, false, false, false, false, false, false, false, false, false, false, false, false, false, false, false, false, false, false, false, false, false, false, false] rfl rfl (any_of HT_.out (by kernel_rfl)) (fun _ _ _ h => h) (Or.inl ⟨by rfl, ?_⟩) ?_ ?_
        rotate_left
        · intro w'
          go_simp
          with_reducible rfl
        rotate_left
        · simp only [Act.put, List.setIfInBounds_toArray, List.set_cons_zero, List.set_cons_succ, i64_w, i32_w]
          rfl
        refine pure_ (i := 6) (N := some 33) (v := ?_) (a' := ?_) #[true, true, false, false, false, true, true, false, false, false, false, false, false, false, false, false, false, false, false, false, false, false, false, false, false, false, false, false, false, false, false, false, false, false, false, false, false] rfl rfl (any_of HT_.out (by kernel_rfl)) (fun _ _ _ h => h) (Or.inl ⟨by rfl, ?_⟩) ?_ ?_
        rotate_left
        · intro w'
          go_simp
          with_reducible rfl
        rotate_left
        · simp only [Act.put, List.setIfInBounds_toArray, List.set_cons_zero, List.set_cons_succ, i64_w, i32_w]
          rfl
        refine pure_ (i := 11) (N := some 38) (v := ?_) (a' := ?_) #[true, true, false, false, false, true, true, false, false, false, false, true, false, false, false, false, false, false, false, false, false, false, false, false, false, false, false, false, false, false, false, false, false, false, false, false, false] rfl rfl (any_of HT_.out (by kernel_rfl)) (fun _ _ _ h => h) (Or.inl ⟨by rfl, ?_⟩) ?_ ?_
        rotate_left
        · intro w'
          go_simp
          with_reducible rfl
        rotate_left
        · simp only [Act.put, List.setIfInBounds_toArray, List.set_cons_zero, List.set_cons_succ, i64_w, i32_w]
          rfl
        refine pure_ (i := 12) (N := some 39) (v := ?_) (a' := ?_) #[true, true, false, false, false, true, true, false, false, false, false, true, true, false, false, false, false, false, false, false, false, false, false, false, false, false, false, false, false, false, false, false, false, false, false, false, false] rfl rfl (any_of HT_.out (by kernel_rfl)) (fun _ _ _ h => h) (Or.inl ⟨by rfl, ?_⟩) ?_ ?_
        rotate_left
        · intro w'
          go_simp
          with_reducible rfl
        rotate_left
        · simp only [Act.put, List.setIfInBounds_toArray, List.set_cons_zero, List.set_cons_succ, i64_w, i32_w]
          rfl
        refine pure_ (i := 17) (N := some 44) (v := ?_) (a' := ?_) #[true, true, false, false, false, true, true, false, false, false, false, true, true, false, false, false, false, true, false, false, false, false, false, false, false, false, false, false, false, false, false, false, false, false, false, false, false] rfl rfl (any_of HT_.out (by kernel_rfl)) (fun _ _ _ h => h) (Or.inl ⟨by rfl, ?_⟩) ?_ ?_
        rotate_left
        · intro w'
          go_simp
          with_reducible rfl
        rotate_left
        · simp only [Act.put, List.setIfInBounds_toArray, List.set_cons_zero, List.set_cons_succ, i64_w, i32_w]
          rfl
        refine pure_ (i := 18) (N := some 45) (v := ?_) (a' := ?_) #[true, true, false, false, false, true, true, false, false, false, false, true, true, false, false, false, false, true, true, false, false, false, false, false, false, false, false, false, false, false, false, false, false, false, false, false, false] rfl rfl (any_of HT_.out (by kernel_rfl)) (fun _ _ _ h => h) (Or.inl ⟨by rfl, ?_⟩) ?_ ?_
        rotate_left
        · intro w'
          go_simp
          with_reducible rfl
        rotate_left
        · simp only [Act.put, List.setIfInBounds_toArray, List.set_cons_zero, List.set_cons_succ, i64_w, i32_w]
          rfl
        refine pure_ (i := 23) (N := some 50) (v := ?_) (a' := ?_) #[true, true, false, false, false, true, true, false, false, false, false, true, true, false, false, false, false, true, true, false, false, false, false, true, false, false, false, false, false, false, false, false, false, false, false, false, false] rfl rfl (any_of HT_.out (by kernel_rfl)) (fun _ _ _ h => h) (Or.inl ⟨by rfl, ?_⟩) ?_ ?_
        rotate_left
        · intro w'
          go_simp
          with_reducible rfl
        rotate_left
        · simp only [Act.put, List.setIfInBounds_toArray, List.set_cons_zero, List.set_cons_succ, i64_w, i32_w]
          rfl
        refine pure_ (i := 24) (N := some 51) (v := ?_) (a' := ?_) #[true, true, false, false, false, true, true, false, false, false, false, true, true, false, false, false, false, true, true, false, false, false, false, true, true, false, false, false, false, false, false, false, false, false, false, false, false] rfl rfl (any_of HT_.out (by kernel_rfl)) (fun _ _ _ h => h) (Or.inl ⟨by rfl, ?_⟩) ?_ ?_
        rotate_left
        · intro w'
          go_simp
          with_reducible rfl
        rotate_left
        · simp only [Act.put, List.setIfInBounds_toArray, List.set_cons_zero, List.set_cons_succ, i64_w, i32_w]
          rfl
        refine pure_ (i := 29) (N := some 56) (v := ?_) (a' := ?_) #[true, true, false, false, false, true, true, false, false, false, false, true, true, false, false, false, false, true, true, false, false, false, false, true, true, false, false, false, false, true, false, false, false, false, false, false, false] rfl rfl (any_of HT_.out (by kernel_rfl)) (fun _ _ _ h => h) (Or.inl ⟨by rfl, ?_⟩) ?_ ?_
        rotate_left
        · intro w'
          go_simp
          with_reducible rfl
        rotate_left
        · simp only [Act.put, List.setIfInBounds_toArray, List.set_cons_zero, List.set_cons_succ, i64_w, i32_w]
          rfl
        refine pure_ (i := 30) (N := some 57) (v := ?_) (a' := ?_) #[true, true, false, false, false, true, true, false, false, false, false, true, true, false, false, false, false, true, true, false, false, false, false, true, true, false, false, false, false, true, true, false, false, false, false, false, false] rfl rfl (any_of HT_.out (by kernel_rfl)) (fun _ _ _ h => h) (Or.inl ⟨by rfl, ?_⟩) ?_ ?_
        rotate_left
        · intro w'
          go_simp
          with_reducible rfl
        rotate_left
        · simp only [Act.put, List.setIfInBounds_toArray, List.set_cons_zero, List.set_cons_succ, i64_w, i32_w]
          rfl
        refine take_ (i := 2) (N := some 29) (v := ?_) (a' := ?_) #[true, true, true, false, false, true, true, false, false, false, false, true, true, false, false, false, false, true, true, false, false, false, false, true, true, false, false, false, false, true, true, false, false, false, false, false, false] rfl rfl (take_ofW HT_.out HW_.out (by kernel_rfl)) (fun _ _ _ h => h) (Or.inl ⟨by rfl, ?_⟩) hHeld ?_ ?_
        rotate_left
        · rintro w' ⟨s0, s1, s2, s3, s4, s5⟩
          go_simp
          with_reducible rfl
        rotate_left
        · simp only [Act.put, List.setIfInBounds_toArray, List.set_cons_zero, List.set_cons_succ, i64_w, i32_w]
          rfl
        refine take_ (i := 7) (N := some 34) (v := ?_) (a' := ?_) #[true, true, true, false, false, true, true, true, false, false, false, true, true, false, false, false, false, true, true, false, false, false, false, true, true, false, false, false, false, true, true, false, false, false, false, false, false] rfl rfl (take_ofW HT_.out HW_.out (by kernel_rfl)) (fun _ _ _ h => h) (Or.inl ⟨by rfl, ?_⟩) hHeld ?_ ?_
        rotate_left
        · rintro w' ⟨s0, s1, s2, s3, s4, s5⟩
          go_simp
          with_reducible rfl
        rotate_left
        · simp only [Act.put, List.setIfInBounds_toArray, List.set_cons_zero, List.set_cons_succ, i64_w, i32_w]
          rfl
        refine take_ (i := 13) (N := some 40) (v := ?_) (a' := ?_) #[true, true, true, false, false, true, true, true, false, false, false, true, true, true, false, false, false, true, true, false, false, false, false, true, true, false, false, false, false, true, true, false, false, false, false, false, false] rfl rfl (take_ofW HT_.out HW_.out (by kernel_rfl)) (fun _ _ _ h => h) (Or.inl ⟨by rfl, ?_⟩) hHeld ?_ ?_
        rotate_left
        · rintro w' ⟨s0, s1, s2, s3, s4, s5⟩
          go_simp
          with_reducible rfl
        rotate_left
        · simp only [Act.put, List.setIfInBounds_toArray, List.set_cons_zero, List.set_cons_succ, i64_w, i32_w]
          rfl
        refine take_ (i := 19) (N := some 46) (v := ?_) (a' := ?_) #[true, true, true, false, false, true, true, true, false, false, false, true, true, true, false, false, false, true, true, true, false, false, false, true, true, false, false, false, false, true, true, false, false, false, false, false, false] rfl rfl (take_ofW HT_.out HW_.out (by kernel_rfl)) (fun _ _ _ h => h) (Or.inl ⟨by rfl, ?_⟩) hHeld ?_ ?_
        rotate_left
        · rintro w' ⟨s0, s1, s2, s3, s4, s5⟩
          go_simp
          with_reducible rfl
        rotate_left
        · simp only [Act.put, List.setIfInBounds_toArray, List.set_cons_zero, List.set_cons_succ, i64_w, i32_w]
          rfl
        refine take_ (i := 25) (N := some 52) (v := ?_) (a' := ?_) #[true, true, true, false, false, true, true, true, false, false, false, true, true, true, false, false, false, true, true, true, false, false, false, true, true, true, false, false, false, true, true, false, false, false, false, false, false] rfl rfl (take_ofW HT_.out HW_.out (by kernel_rfl)) (fun _ _ _ h => h) (Or.inl ⟨by rfl, ?_⟩) hHeld ?_ ?_
        rotate_left
        · rintro w' ⟨s0, s1, s2, s3, s4, s5⟩
          go_simp
          with_reducible rfl
        rotate_left
        · simp only [Act.put, List.setIfInBounds_toArray, List.set_cons_zero, List.set_cons_succ, i64_w, i32_w]
          rfl
        refine take_ (i := 31) (N := some 58) (v := ?_) (a' := ?_) #[true, true, true, false, false, true, true, true, false, false, false, true, true, true, false, false, false, true, true, true, false, false, false, true, true, true, false, false, false, true, true, true, false, false, false, false, false] rfl rfl (take_ofW HT_.out HW_.out (by kernel_rfl)) (fun _ _ _ h => h) (Or.inl ⟨by rfl, ?_⟩) hHeld ?_ ?_
        rotate_left
        · rintro w' ⟨s0, s1, s2, s3, s4, s5⟩
          go_simp
          with_reducible rfl
        rotate_left
        · simp only [Act.put, List.setIfInBounds_toArray, List.set_cons_zero, List.set_cons_succ, i64_w, i32_w]
          rfl
        refine one_ (i := 3) (N := some 30) #[true, true, true, true, false, true, true, true, false, false, false, true, true, true, false, false, false, true, true, true, false, false, false, true, true, true, false, false, false, true, true, true, false, false, false, false, false] rfl rfl (one_of HT_.out (by kernel_rfl)) (by decide) (fun K hK => ?_)
        refine goes_ Tryz.func51 (by kernel_rfl) rfl #[.int .u64 (rd ((rd_T31 l0 0).f1) 0)] (by rfl) rfl rfl (by (try simp only [List.map_toArray, List.map_cons, List.map_nil]); first | done | rfl | (simp only [List.length_drop, List.length_take]; rfl)) ?_
        with_reducible refine (spec_Hundredths.calls kj1 (rd ((rd_T31 l0 0).f1) 0) t186 _ A13.out).mono ?_
        rintro e w36 ⟨rfl, hb⟩
        refine ⟨_, rfl, ?_⟩
        have n0_ := Aside0.mk (below_step (by repeat (first | (with_reducible first | exact HB.out | apply below_alloc | apply pw_below_drewN | apply below_drew1) | exact HB.out)) hb)
        clear HB
        have HB := n0_
        clear n0_
        (try clear hb)
        (try clear hb2)
        (try clear hk)
        (try clear hi)
        refine hK.out _ _ ⟨((HB.out.cell (World.block_lt_of_cell? w _ hw185_0)).trans hw185_0), ((HB.out.cell (World.block_lt_of_cell? w _ hw187_0)).trans hw187_0), ((HB.out.cell (World.block_lt_of_cell? w _ hw189_0)).trans hw189_0), ((HB.out.cell (World.block_lt_of_cell? w _ hw191_0)).trans hw191_0), ((HB.out.cell (World.block_lt_of_cell? w _ hw193_0)).trans hw193_0), ((HB.out.cell (World.block_lt_of_cell? w _ hw195_0)).trans hw195_0)⟩ (fun hHeld => ?_)
        clear hK K
        refine norm_ (a' := ?_) ?_ ?_
        rotate_left
        · show Act.put _ (some 30) _ = _
          simp only [Act.put, List.setIfInBounds_toArray, List.set_cons_zero, List.set_cons_succ, i64_w, i32_w]
          rfl
        refine pure_ (i := 4) (N := some 31) (v := ?_) (a' := ?_) #[true, true, true, true, true, true, true, true, false, false, false, true, true, true, false, false, false, true, true, true, false, false, false, true, true, true, false, false, false, true, true, true, false, false, false, false, false] rfl rfl (any_of HT_.out (by kernel_rfl)) (fun _ _ _ h => h) (Or.inl ⟨by rfl, ?_⟩) ?_ ?_
        rotate_left
        · intro w'
          go_simp
          with_reducible rfl
        rotate_left
        · simp only [Act.put, List.setIfInBounds_toArray, List.set_cons_zero, List.set_cons_succ, i64_w, i32_w]
          rfl
        refine one_ (i := 8) (N := some 35) #[true, true, true, true, true, true, true, true, true, false, false, true, true, true, false, false, false, true, true, true, false, false, false, true, true, true, false, false, false, true, true, true, false, false, false, false, false] rfl rfl (one_of HT_.out (by kernel_rfl)) (by decide) (fun K hK => ?_)
        refine goes_ Tryz.func51 (by kernel_rfl) rfl #[.int .u64 (rd ((rd_T31 l0 0).f1) 1)] (by rfl) rfl rfl (by (try simp only [List.map_toArray, List.map_cons, List.map_nil]); first | done | rfl | (simp only [List.length_drop, List.length_take]; rfl)) ?_
        with_reducible refine (spec_Hundredths.calls kj1 (rd ((rd_T31 l0 0).f1) 1) t188 _ A16.out).mono ?_
        rintro e w37 ⟨rfl, hb⟩
        refine ⟨_, rfl, ?_⟩
        have n0_ := Aside0.mk (below_step (by repeat (first | (with_reducible first | exact HB.out | apply below_alloc | apply pw_below_drewN | apply below_drew1) | exact HB.out)) hb)
        clear HB
        have HB := n0_
        clear n0_
        (try clear hb)
        (try clear hb2)
        (try clear hk)
        (try clear hi)
        refine hK.out _ _ ⟨((HB.out.cell (World.block_lt_of_cell? w _ hw185_0)).trans hw185_0), ((HB.out.cell (World.block_lt_of_cell? w _ hw187_0)).trans hw187_0), ((HB.out.cell (World.block_lt_of_cell? w _ hw189_0)).trans hw189_0), ((HB.out.cell (World.block_lt_of_cell? w _ hw191_0)).trans hw191_0), ((HB.out.cell (World.block_lt_of_cell? w _ hw193_0)).trans hw193_0), ((HB.out.cell (World.block_lt_of_cell? w _ hw195_0)).trans hw195_0)⟩ (fun hHeld => ?_)
        clear hK K
        refine norm_ (a' := ?_) ?_ ?_
        rotate_left
        · show Act.put _ (some 35) _ = _
          simp only [Act.put, List.setIfInBounds_toArray, List.set_cons_zero, List.set_cons_succ, i64_w, i32_w]
          rfl
        refine pure_ (i := 9) (N := some 36) (v := ?_) (a' := ?_) #[true, true, true, true, true, true, true, true, true, true, false, true, true, true, false, false, false, true, true, true, false, false, false, true, true, true, false, false, false, true, true, true, false, false, false, false, false] rfl rfl (any_of HT_.out (by kernel_rfl)) (fun _ _ _ h => h) (Or.inl ⟨by rfl, ?_⟩) ?_ ?_
        rotate_left
        · intro w'
          go_simp
          with_reducible rfl
        rotate_left
        · simp only [Act.put, List.setIfInBounds_toArray, List.set_cons_zero, List.set_cons_succ, i64_w, i32_w]
          rfl
        refine pure_ (i := 10) (N := some 37) (v := ?_) (a' := ?_) #[true, true, true, true, true, true, true, true, true, true, true, true, true, true, false, false, false, true, true, true, false, false, false, true, true, true, false, false, false, true, true, true, false, false, false, false, false] rfl rfl (any_of HT_.out (by kernel_rfl)) (fun _ _ _ h => h) (Or.inl ⟨by rfl, ?_⟩) ?_ ?_
        rotate_left
        · intro w'
          go_simp
          with_reducible rfl
        rotate_left
        · simp only [Act.put, List.setIfInBounds_toArray, List.set_cons_zero, List.set_cons_succ, i64_w, i32_w]
          rfl
        refine one_ (i := 14) (N := some 41) #[true, true, true, true, true, true, true, true, true, true, true, true, true, true, true, false, false, true, true, true, false, false, false, true, true, true, false, false, false, true, true, true, false, false, false, false, false] rfl rfl (one_of HT_.out (by kernel_rfl)) (by decide) (fun K hK => ?_)
        refine goes_ Tryz.func51 (by kernel_rfl) rfl #[.int .u64 (rd ((rd_T31 l0 0).f1) 2)] (by rfl) rfl rfl (by (try simp only [List.map_toArray, List.map_cons, List.map_nil]); first | done | rfl | (simp only [List.length_drop, List.length_take]; rfl)) ?_
        with_reducible refine (spec_Hundredths.calls kj1 (rd ((rd_T31 l0 0).f1) 2) t190 _ A20.out).mono ?_
        rintro e w38 ⟨rfl, hb⟩
        refine ⟨_, rfl, ?_⟩
        have n0_ := Aside0.mk (below_step (by repeat (first | (with_reducible first | exact HB.out | apply below_alloc | apply pw_below_drewN | apply below_drew1) | exact HB.out)) hb)
        clear HB
        have HB := n0_
        clear n0_
        (try clear hb)
        (try clear hb2)
        (try clear hk)
        (try clear hi)
        refine hK.out _ _ ⟨((HB.out.cell (World.block_lt_of_cell? w _ hw185_0)).trans hw185_0), ((HB.out.cell (World.block_lt_of_cell? w _ hw187_0)).trans hw187_0), ((HB.out.cell (World.block_lt_of_cell? w _ hw189_0)).trans hw189_0), ((HB.out.cell (World.block_lt_of_cell? w _ hw191_0)).trans hw191_0), ((HB.out.cell (World.block_lt_of_cell? w _ hw193_0)).trans hw193_0), ((HB.out.cell (World.block_lt_of_cell? w _ hw195_0)).trans hw195_0)⟩ (fun hHeld => ?_)
        clear hK K
        refine norm_ (a' := ?_) ?_ ?_
        rotate_left
        · show Act.put _ (some 41) _ = _
          simp only [Act.put, List.setIfInBounds_toArray, List.set_cons_zero, List.set_cons_succ, i64_w, i32_w]
          rfl
        refine pure_ (i := 15) (N := some 42) (v := ?_) (a' := ?_) #[true, true, true, true, true, true, true, true, true, true, true, true, true, true, true, true, false, true, true, true, false, false, false, true, true, true, false, false, false, true, true, true, false, false, false, false, false] rfl rfl (any_of HT_.out (by kernel_rfl)) (fun _ _ _ h => h) (Or.inl ⟨by rfl, ?_⟩) ?_ ?_
        rotate_left
        · intro w'
          go_simp
          with_reducible rfl
        rotate_left
        · simp only [Act.put, List.setIfInBounds_toArray, List.set_cons_zero, List.set_cons_succ, i64_w, i32_w]
          rfl
        refine pure_ (i := 16) (N := some 43) (v := ?_) (a' := ?_) #[true, true, true, true, true, true, true, true, true, true, true, true, true, true, true, true, true, true, true, true, false, false, false, true, true, true, false, false, false, true, true, true, false, false, false, false, false] rfl rfl (any_of HT_.out (by kernel_rfl)) (fun _ _ _ h => h) (Or.inl ⟨by rfl, ?_⟩) ?_ ?_
        rotate_left
        · intro w'
          go_simp
          with_reducible rfl
        rotate_left
        · simp only [Act.put, List.setIfInBounds_toArray, List.set_cons_zero, List.set_cons_succ, i64_w, i32_w]
          rfl
        refine one_ (i := 20) (N := some 47) #[true, true, true, true, true, true, true, true, true, true, true, true, true, true, true, true, true, true, true, true, true, false, false, true, true, true, false, false, false, true, true, true, false, false, false, false, false] rfl rfl (one_of HT_.out (by kernel_rfl)) (by decide) (fun K hK => ?_)
        refine goes_ Tryz.func52 (by kernel_rfl) rfl #[.int .u64 (rd ((rd_T31 l0 0).f1) 3)] (by rfl) rfl rfl (by (try simp only [List.map_toArray, List.map_cons, List.map_nil]); first | done | rfl | (simp only [List.length_drop, List.length_take]; rfl)) ?_
        with_reducible refine (spec_Text.calls kj1 (rd ((rd_T31 l0 0).f1) 3) t192 _ A24.out).mono ?_
        rintro e w39 ⟨rfl, hb⟩
        refine ⟨_, rfl, ?_⟩
        have n0_ := Aside0.mk (below_step (by repeat (first | (with_reducible first | exact HB.out | apply below_alloc | apply pw_below_drewN | apply below_drew1) | exact HB.out)) hb)
        clear HB
        have HB := n0_
        clear n0_
        (try clear hb)
        (try clear hb2)
        (try clear hk)
        (try clear hi)
        refine hK.out _ _ ⟨((HB.out.cell (World.block_lt_of_cell? w _ hw185_0)).trans hw185_0), ((HB.out.cell (World.block_lt_of_cell? w _ hw187_0)).trans hw187_0), ((HB.out.cell (World.block_lt_of_cell? w _ hw189_0)).trans hw189_0), ((HB.out.cell (World.block_lt_of_cell? w _ hw191_0)).trans hw191_0), ((HB.out.cell (World.block_lt_of_cell? w _ hw193_0)).trans hw193_0), ((HB.out.cell (World.block_lt_of_cell? w _ hw195_0)).trans hw195_0)⟩ (fun hHeld => ?_)
        clear hK K
        refine norm_ (a' := ?_) ?_ ?_
        rotate_left
        · show Act.put _ (some 47) _ = _
          simp only [Act.put, List.setIfInBounds_toArray, List.set_cons_zero, List.set_cons_succ, i64_w, i32_w]
          rfl
        refine pure_ (i := 21) (N := some 48) (v := ?_) (a' := ?_) #[true, true, true, true, true, true, true, true, true, true, true, true, true, true, true, true, true, true, true, true, true, true, false, true, true, true, false, false, false, true, true, true, false, false, false, false, false] rfl rfl (any_of HT_.out (by kernel_rfl)) (fun _ _ _ h => h) (Or.inl ⟨by rfl, ?_⟩) ?_ ?_
        rotate_left
        · intro w'
          go_simp
          with_reducible rfl
        rotate_left
        · simp only [Act.put, List.setIfInBounds_toArray, List.set_cons_zero, List.set_cons_succ, i64_w, i32_w]
          rfl
        refine pure_ (i := 22) (N := some 49) (v := ?_) (a' := ?_) #[true, true, true, true, true, true, true, true, true, true, true, true, true, true, true, true, true, true, true, true, true, true, true, true, true, true, false, false, false, true, true, true, false, false, false, false, false] rfl rfl (any_of HT_.out (by kernel_rfl)) (fun _ _ _ h => h) (Or.inl ⟨by rfl, ?_⟩) ?_ ?_
        rotate_left
        · intro w'
          go_simp
          with_reducible rfl
        rotate_left
        · simp only [Act.put, List.setIfInBounds_toArray, List.set_cons_zero, List.set_cons_succ, i64_w, i32_w]
          rfl
        refine one_ (i := 26) (N := some 53) #[true, true, true, true, true, true, true, true, true, true, true, true, true, true, true, true, true, true, true, true, true, true, true, true, true, true, true, false, false, true, true, true, false, false, false, false, false] rfl rfl (one_of HT_.out (by kernel_rfl)) (by decide) (fun K hK => ?_)
        refine goes_ Tryz.func52 (by kernel_rfl) rfl #[.int .u64 (rd ((rd_T31 l0 0).f1) 4)] (by rfl) rfl rfl (by (try simp only [List.map_toArray, List.map_cons, List.map_nil]); first | done | rfl | (simp only [List.length_drop, List.length_take]; rfl)) ?_
        with_reducible refine (spec_Text.calls kj1 (rd ((rd_T31 l0 0).f1) 4) t194 _ A28.out).mono ?_
        rintro e w40 ⟨rfl, hb⟩
        refine ⟨_, rfl, ?_⟩
        have n0_ := Aside0.mk (below_step (by repeat (first | (with_reducible first | exact HB.out | apply below_alloc | apply pw_below_drewN | apply below_drew1) | exact HB.out)) hb)
        clear HB
        have HB := n0_
        clear n0_
        (try clear hb)
        (try clear hb2)
        (try clear hk)
        (try clear hi)
        refine hK.out _ _ ⟨((HB.out.cell (World.block_lt_of_cell? w _ hw185_0)).trans hw185_0), ((HB.out.cell (World.block_lt_of_cell? w _ hw187_0)).trans hw187_0), ((HB.out.cell (World.block_lt_of_cell? w _ hw189_0)).trans hw189_0), ((HB.out.cell (World.block_lt_of_cell? w _ hw191_0)).trans hw191_0), ((HB.out.cell (World.block_lt_of_cell? w _ hw193_0)).trans hw193_0), ((HB.out.cell (World.block_lt_of_cell? w _ hw195_0)).trans hw195_0)⟩ (fun hHeld => ?_)
        clear hK K
        refine norm_ (a' := ?_) ?_ ?_
        rotate_left
        · show Act.put _ (some 53) _ = _
          simp only [Act.put, List.setIfInBounds_toArray, List.set_cons_zero, List.set_cons_succ, i64_w, i32_w]
          rfl
        refine pure_ (i := 27) (N := some 54) (v := ?_) (a' := ?_) #[true, true, true, true, true, true, true, true, true, true, true, true, true, true, true, true, true, true, true, true, true, true, true, true, true, true, true, true, false, true, true, true, false, false, false, false, false] rfl rfl (any_of HT_.out (by kernel_rfl)) (fun _ _ _ h => h) (Or.inl ⟨by rfl, ?_⟩) ?_ ?_
        rotate_left
        · intro w'
          go_simp
          with_reducible rfl
        rotate_left
        · simp only [Act.put, List.setIfInBounds_toArray, List.set_cons_zero, List.set_cons_succ, i64_w, i32_w]
          rfl
        refine pure_ (i := 28) (N := some 55) (v := ?_) (a' := ?_) #[true, true, true, true, true, true, true, true, true, true, true, true, true, true, true, true, true, true, true, true, true, true, true, true, true, true, true, true, true, true, true, true, false, false, false, false, false] rfl rfl (any_of HT_.out (by kernel_rfl)) (fun _ _ _ h => h) (Or.inl ⟨by rfl, ?_⟩) ?_ ?_
        rotate_left
        · intro w'
          go_simp
          with_reducible rfl
        rotate_left
        · simp only [Act.put, List.setIfInBounds_toArray, List.set_cons_zero, List.set_cons_succ, i64_w, i32_w]
          rfl
        refine one_ (i := 32) (N := some 59) #[true, true, true, true, true, true, true, true, true, true, true, true, true, true, true, true, true, true, true, true, true, true, true, true, true, true, true, true, true, true, true, true, true, false, false, false, false] rfl rfl (one_of HT_.out (by kernel_rfl)) (by decide) (fun K hK => ?_)
        refine goes_ Tryz.func52 (by kernel_rfl) rfl #[.int .u64 (rd ((rd_T31 l0 0).f1) 5)] (by rfl) rfl rfl (by (try simp only [List.map_toArray, List.map_cons, List.map_nil]); first | done | rfl | (simp only [List.length_drop, List.length_take]; rfl)) ?_
        with_reducible refine (spec_Text.calls kj1 (rd ((rd_T31 l0 0).f1) 5) t196 _ A32.out).mono ?_
        rintro e w41 ⟨rfl, hb⟩
        refine ⟨_, rfl, ?_⟩
        have n0_ := Aside0.mk (below_step (by repeat (first | (with_reducible first | exact HB.out | apply below_alloc | apply pw_below_drewN | apply below_drew1) | exact HB.out)) hb)
        clear HB
        have HB := n0_
        clear n0_
        (try clear hb)
        (try clear hb2)
        (try clear hk)
        (try clear hi)
        refine hK.out _ _ ⟨((HB.out.cell (World.block_lt_of_cell? w _ hw185_0)).trans hw185_0), ((HB.out.cell (World.block_lt_of_cell? w _ hw187_0)).trans hw187_0), ((HB.out.cell (World.block_lt_of_cell? w _ hw189_0)).trans hw189_0), ((HB.out.cell (World.block_lt_of_cell? w _ hw191_0)).trans hw191_0), ((HB.out.cell (World.block_lt_of_cell? w _ hw193_0)).trans hw193_0), ((HB.out.cell (World.block_lt_of_cell? w _ hw195_0)).trans hw195_0)⟩ (fun hHeld => ?_)
        clear hK K
        refine norm_ (a' := ?_) ?_ ?_
        rotate_left
        · show Act.put _ (some 59) _ = _
          simp only [Act.put, List.setIfInBounds_toArray, List.set_cons_zero, List.set_cons_succ, i64_w, i32_w]
          rfl
        refine pure_ (i := 33) (N := some 60) (v := ?_) (a' := ?_) #[true, true, true, true, true, true, true, true, true, true, true, true, true, true, true, true, true, true, true, true, true, true, true, true, true, true, true, true, true, true, true, true, true, true, false, false, false] rfl rfl (any_of HT_.out (by kernel_rfl)) (fun _ _ _ h => h) (Or.inl ⟨by rfl, ?_⟩) ?_ ?_
        rotate_left
        · intro w'
          go_simp
          with_reducible rfl
        rotate_left
        · simp only [Act.put, List.setIfInBounds_toArray, List.set_cons_zero, List.set_cons_succ, i64_w, i32_w]
          rfl
        refine pure_ (i := 34) (N := some 61) (v := ?_) (a' := ?_) #[true, true, true, true, true, true, true, true, true, true, true, true, true, true, true, true, true, true, true, true, true, true, true, true, true, true, true, true, true, true, true, true, true, true, true, false, false] rfl rfl (any_of HT_.out (by kernel_rfl)) (fun _ _ _ h => h) (Or.inl ⟨by rfl, ?_⟩) ?_ ?_
        rotate_left
        · intro w'
          go_simp
          with_reducible rfl
        rotate_left
        · simp only [Act.put, List.setIfInBounds_toArray, List.set_cons_zero, List.set_cons_succ, i64_w, i32_w]
          rfl
        refine pure_ (i := 35) (N := some 2) (v := ?_) (a' := ?_) #[true, true, true, true, true, true, true, true, true, true, true, true, true, true, true, true, true, true, true, true, true, true, true, true, true, true, true, true, true, true, true, true, true, true, true, true, false] rfl rfl (any_of HT_.out (by kernel_rfl)) (fun _ _ _ h => h) (Or.inl ⟨by rfl, ?_⟩) ?_ ?_
        rotate_left
        · intro w'
          go_simp
          with_reducible rfl
        rotate_left
        · simp only [Act.put, List.setIfInBounds_toArray, List.set_cons_zero, List.set_cons_succ, i64_w, i32_w]
          rfl
        refine pure_ (i := 36) (N := some 3) (v := ?_) (a' := ?_) #[true, true, true, true, true, true, true, true, true, true, true, true, true, true, true, true, true, true, true, true, true, true, true, true, true, true, true, true, true, true, true, true, true, true, true, true, true] rfl rfl (any_of HT_.out (by kernel_rfl)) (fun _ _ _ h => h) (Or.inl ⟨by rfl, ?_⟩) ?_ ?_
        rotate_left
        · intro w'
          go_simp
          with_reducible rfl
        rotate_left
        · simp only [Act.put, List.setIfInBounds_toArray, List.set_cons_zero, List.set_cons_succ, i64_w, i32_w]
          rfl
        refine done_ (done_of HT_.out (by kernel_rfl)) ?_
        try go_wp2
        go_ret2
        exact ⟨by first | rfl | (simp [errW_none, errW_some] <;> rfl) | (simp [*, errW_none, errW_some] <;> rfl), by repeat (first | (with_reducible first | exact HB.out | apply below_alloc | apply pw_below_drewN | apply below_drew1) | exact HB.out)⟩

/-! ### spec_floatNode: function 54 -/
def spec_floatNode.f (a0 : ByteArray) (a1 : Nat) : Option (ByteArray × Int × Bool × Int × Int × Nat × ByteArray × (List (S39))) := some (a0, 4, false, 0, 0, a1, (⟨#[]⟩ : ByteArray), ([] : List (S39)))
set_option maxHeartbeats 8000000 in
set_option maxRecDepth 100000 in
theorem spec_floatNode.calls (a0 : ByteArray) (a1 : Nat) (r1 : ByteArray) (r2 : Int) (r3 : Bool) (r4 : Int) (r5 : Int) (r6 : Nat) (r7 : ByteArray) (r8 : List (S39)) (w : World) (h : spec_floatNode.f a0 a1 = some (r1, r2, r3, r4, r5, r6, r7, r8)) :
    Calls Tryz.prog 54 #[.string a0, .float .f64 a1] w fun e w' => ∃ v7_ : Value, e = .returned (.agg #[.string r1, .int .i64 r2, .bool r3, .int .i64 r4, .int .u64 r5, .float .f64 r6, .string r7, v7_]) ∧ Kd.R k39 39 w' w.heap.size (fun _ => True) v7_ r8 ∧ Below w.heap.size w w' := by
  have hu39 := Tryz.underlying39
  have HB := Aside0.mk (Below.refl w.heap.size w)
  have H : (some (a0, 4, false, 0, 0, a1, (⟨#[]⟩ : ByteArray), ([] : List (S39)))) = some (r1, r2, r3, r4, r5, r6, r7, r8) := h
  clear h
  simp only [Option.some.injEq, Prod.mk.injEq] at H
  obtain ⟨rfl, rfl, rfl, rfl, rfl, rfl, rfl, rfl⟩ := H
  go_enter Tryz.func54, Tryz.ntmps54
  go_wp2_with (first | ((with_reducible refine gate_dst (N := 4) rfl ?_); refine box_event ?hg (N := 4) ?hd (cs := #[.string (⟨#[]⟩ : ByteArray), .int .i64 0, .bool false, .int .i64 0, .int .u64 0, .float .f64 0, .string (⟨#[]⟩ : ByteArray), .slice none 0 0]) (t := 39) ?hr ?_; (case hd => rfl); (case hg => rfl); (case hr => first | (go_simp; done) | (go_simp; rfl)); intro gb197 hg w3 hbox hb; have n0_ := Aside0.mk (below_step (by repeat (first | (with_reducible first | exact HB.out | apply below_alloc | apply pw_below_drewN | apply below_drew1) | exact HB.out)) hb); have n1_ := Aside0.mk (hbox); have n2_ := Aside0.mk ((by rw [hg]; exact (below_size (by repeat (first | (with_reducible first | exact HB.out | apply below_alloc | apply pw_below_drewN | apply below_drew1) | exact HB.out))) : w.heap.size ≤ gb197)); have n3_ := Aside0.mk ((by rw [hg]; exact (below_size (by repeat (first | (with_reducible first | exact HB.out | apply below_alloc | apply pw_below_drewN | apply below_drew1) | exact HB.out))) : w.heap.size ≤ gb197)); clear HB; have HB := n0_; have BK197 := n1_; have GW197 := n2_; have GE197 := n3_; clear n0_ n1_ n2_ n3_; clear hb hbox hg; have hcz4_0 : w3.cell? ⟨gb197, 0, none⟩ = some (.string (⟨#[]⟩ : ByteArray)) := (blk_cell BK197.out 0).trans rfl; have hcz4_1 : w3.cell? ⟨gb197, 1, none⟩ = some (.int .i64 0) := (blk_cell BK197.out 1).trans rfl; have hcz4_2 : w3.cell? ⟨gb197, 2, none⟩ = some (.bool false) := (blk_cell BK197.out 2).trans rfl; have hcz4_3 : w3.cell? ⟨gb197, 3, none⟩ = some (.int .i64 0) := (blk_cell BK197.out 3).trans rfl; have hcz4_4 : w3.cell? ⟨gb197, 4, none⟩ = some (.int .u64 0) := (blk_cell BK197.out 4).trans rfl; have hcz4_5 : w3.cell? ⟨gb197, 5, none⟩ = some (.float .f64 0) := (blk_cell BK197.out 5).trans rfl; have hcz4_6 : w3.cell? ⟨gb197, 6, none⟩ = some (.string (⟨#[]⟩ : ByteArray)) := (blk_cell BK197.out 6).trans rfl; have hcz4_7 : w3.cell? ⟨gb197, 7, none⟩ = some (.slice none 0 0) := (blk_cell BK197.out 7).trans rfl; have hfz4_0 := blk_frozen BK197.out 0; have hfz4_1 := blk_frozen BK197.out 1; have hfz4_2 := blk_frozen BK197.out 2; have hfz4_3 := blk_frozen BK197.out 3; have hfz4_4 := blk_frozen BK197.out 4; have hfz4_5 := blk_frozen BK197.out 5; have hfz4_6 := blk_frozen BK197.out 6; have hfz4_7 := blk_frozen BK197.out 7))
  refine bodyPost_ret (results_cell_row rfl _ _ gb197 39 #[.string a0, .int .i64 4, .bool false, .int .i64 0, .int .u64 0, .float .f64 a1, .string (⟨#[]⟩ : ByteArray), .slice none 0 0] (0, 0) _ rfl (by (with_reducible repeat (first | refine blk_drewN ?_ _ | refine blk_drew ?_ | refine blk_alloc ?_ _)); refine blk_put (cs := #[.string a0, .int .i64 4, .bool false, .int .i64 0, .int .u64 0, .float .f64 a1, .string (⟨#[]⟩ : ByteArray), .slice none 0 0]) ?_ 7 _ rfl; (with_reducible repeat (first | refine blk_drewN ?_ _ | refine blk_drew ?_ | refine blk_alloc ?_ _)); refine blk_put (cs := #[.string a0, .int .i64 4, .bool false, .int .i64 0, .int .u64 0, .float .f64 a1, .string (⟨#[]⟩ : ByteArray), .slice none 0 0]) ?_ 6 _ rfl; (with_reducible repeat (first | refine blk_drewN ?_ _ | refine blk_drew ?_ | refine blk_alloc ?_ _)); refine blk_put (cs := #[.string a0, .int .i64 4, .bool false, .int .i64 0, .int .u64 0, .float .f64 0, .string (⟨#[]⟩ : ByteArray), .slice none 0 0]) ?_ 5 _ rfl; (with_reducible repeat (first | refine blk_drewN ?_ _ | refine blk_drew ?_ | refine blk_alloc ?_ _)); refine blk_put (cs := #[.string a0, .int .i64 4, .bool false, .int .i64 0, .int .u64 0, .float .f64 0, .string (⟨#[]⟩ : ByteArray), .slice none 0 0]) ?_ 4 _ rfl; (with_reducible repeat (first | refine blk_drewN ?_ _ | refine blk_drew ?_ | refine blk_alloc ?_ _)); refine blk_put (cs := #[.string a0, .int .i64 4, .bool false, .int .i64 0, .int .u64 0, .float .f64 0, .string (⟨#[]⟩ : ByteArray), .slice none 0 0]) ?_ 3 _ rfl; (with_reducible repeat (first | refine blk_drewN ?_ _ | refine blk_drew ?_ | refine blk_alloc ?_ _)); refine blk_put (cs := #[.string a0, .int .i64 4, .bool false, .int .i64 0, .int .u64 0, .float .f64 0, .string (⟨#[]⟩ : ByteArray), .slice none 0 0]) ?_ 2 _ rfl; (with_reducible repeat (first | refine blk_drewN ?_ _ | refine blk_drew ?_ | refine blk_alloc ?_ _)); refine blk_put (cs := #[.string a0, .int .i64 0, .bool false, .int .i64 0, .int .u64 0, .float .f64 0, .string (⟨#[]⟩ : ByteArray), .slice none 0 0]) ?_ 1 _ rfl; (with_reducible repeat (first | refine blk_drewN ?_ _ | refine blk_drew ?_ | refine blk_alloc ?_ _)); refine blk_put (cs := #[.string (⟨#[]⟩ : ByteArray), .int .i64 0, .bool false, .int .i64 0, .int .u64 0, .float .f64 0, .string (⟨#[]⟩ : ByteArray), .slice none 0 0]) ?_ 0 _ rfl; (with_reducible repeat (first | refine blk_drewN ?_ _ | refine blk_drew ?_ | refine blk_alloc ?_ _)); exact BK197.out) Tryz.underlying39 rfl (by kernel_rfl)) rfl ?_
  exact ⟨_, by first | rfl | (simp [errW_none, errW_some] <;> rfl) | (simp [*, errW_none, errW_some] <;> rfl), by first | exact Kd.R_nil _ _ _ _ _ | exact Kd.N_nil _ _ _ _ _ | exact Kd.V_nil _ _ _ _ _ | exact Kd.Q_nil _ _ _ _ _ | exact Kd.S_nil _ _ _ _ _, by repeat (first | (with_reducible first | exact HB.out | apply below_alloc | apply pw_below_drewN | apply below_drew1 | refine below_set ?_ GE197.out) | exact HB.out)⟩

end Go.Proofs.YtednjmngalmdkaaGreatDoor.GPC
