/- Texts of this claim, put together: GPEx11, GPEx4, GPEx12, GPEx14, GPEx14. Conditions: as each one says. -/
import Derived.Test.YtednjmngalmdkaaGreatDoorKRt0
import Derived.Test.YtednjmngalmdkaaGreatDoorKRt1
import Derived.Test.YtednjmngalmdkaaGreatDoorKRt2
import Derived.Test.YtednjmngalmdkaaGreatDoorProg
import Derived.Below
import Derived.Deep.Draws
import Derived.Deep.AppendLies
import Derived.Maps.AppendAt
import Derived.OwnWalk
import Derived.Laws.BytesArg
import Derived.Laws.MakeOwn
import Derived.Laws.OwnMore
import Derived.Deep.OwnRows
import Derived.Tactics
import Derived.Lib.ConvBytes
import Derived.Laws.Slices
import Derived.WalkKit
import Derived.KernelRfl
import Derived.RowKit3
import Derived.Deep.LoopGhost
import Derived.Deep.QuietTactic
import Derived.BigQuiet
import Derived.WideLaws
import Derived.Deep.DeepCutAuto
import Derived.Deep.CutBlock
import Derived.Deep.RegionHeld3
import Derived.Laws.Rows
import Derived.Lib.AppendStr
import Derived.ArgAppend
import Derived.Laws.IdiomCopy
import Derived.OrdersHeld
import Derived.Laws.BitsLemmas
import Derived.RowKit
section
namespace Go.Proofs.YtednjmngalmdkaaGreatDoor.GPC
open Go.RowKit Go.Proofs.YtednjmngalmdkaaGreatDoorW.PrintWords Go.Proofs.YtednjmngalmdkaaGreatDoorW.PrintLast Go.Proofs.YtednjmngalmdkaaGreatDoorW.PrintMore
attribute [local go_sem] max2_int min2_int max_two min_two max_three min_three max_four min_four   -- for this text's walks alone
set_option linter.unusedVariables false
set_option linter.unusedSimpArgs false

attribute [local go_sem] run_store_float
/-! ### spec_ifName: function 170 -/
def spec_ifName.l0 : Nat → ByteArray → Int → Int → Option (Bool)
 | 0, _, _, _ => none
 | k + 1, x0, x6, x7 => if x7 < x6 then (if 0 ≤ x7 then (if x7 < (x0.size : Int) then (if (bt x0 x7) < 97 then (if (bt x0 x7) < 65 then (if (bt x0 x7) < 48 then (if (bt x0 x7) = 46 then (spec_ifName.l0 k x0 x6 (wrap64 (x7 + 1))) else (if (bt x0 x7) = 45 then (spec_ifName.l0 k x0 x6 (wrap64 (x7 + 1))) else (if (bt x0 x7) = 95 then (spec_ifName.l0 k x0 x6 (wrap64 (x7 + 1))) else (some false)))) else (if (bt x0 x7) > 57 then (if (bt x0 x7) = 46 then (spec_ifName.l0 k x0 x6 (wrap64 (x7 + 1))) else (if (bt x0 x7) = 45 then (spec_ifName.l0 k x0 x6 (wrap64 (x7 + 1))) else (if (bt x0 x7) = 95 then (spec_ifName.l0 k x0 x6 (wrap64 (x7 + 1))) else (some false)))) else (spec_ifName.l0 k x0 x6 (wrap64 (x7 + 1))))) else (if (bt x0 x7) > 90 then (if (bt x0 x7) < 48 then (if (bt x0 x7) = 46 then (spec_ifName.l0 k x0 x6 (wrap64 (x7 + 1))) else (if (bt x0 x7) = 45 then (spec_ifName.l0 k x0 x6 (wrap64 (x7 + 1))) else (if (bt x0 x7) = 95 then (spec_ifName.l0 k x0 x6 (wrap64 (x7 + 1))) else (some false)))) else (if (bt x0 x7) > 57 then (if (bt x0 x7) = 46 then (spec_ifName.l0 k x0 x6 (wrap64 (x7 + 1))) else (if (bt x0 x7) = 45 then (spec_ifName.l0 k x0 x6 (wrap64 (x7 + 1))) else (if (bt x0 x7) = 95 then (spec_ifName.l0 k x0 x6 (wrap64 (x7 + 1))) else (some false)))) else (spec_ifName.l0 k x0 x6 (wrap64 (x7 + 1))))) else (spec_ifName.l0 k x0 x6 (wrap64 (x7 + 1))))) else (if (bt x0 x7) > 122 then (if (bt x0 x7) < 65 then (if (bt x0 x7) < 48 then (if (bt x0 x7) = 46 then (spec_ifName.l0 k x0 x6 (wrap64 (x7 + 1))) else (if (bt x0 x7) = 45 then (spec_ifName.l0 k x0 x6 (wrap64 (x7 + 1))) else (if (bt x0 x7) = 95 then (spec_ifName.l0 k x0 x6 (wrap64 (x7 + 1))) else (some false)))) else (if (bt x0 x7) > 57 then (if (bt x0 x7) = 46 then (spec_ifName.l0 k x0 x6 (wrap64 (x7 + 1))) else (if (bt x0 x7) = 45 then (spec_ifName.l0 k x0 x6 (wrap64 (x7 + 1))) else (if (bt x0 x7) = 95 then (spec_ifName.l0 k x0 x6 (wrap64 (x7 + 1))) else (some false)))) else (spec_ifName.l0 k x0 x6 (wrap64 (x7 + 1))))) else (if (bt x0 x7) > 90 then (if (bt x0 x7) < 48 then (if (bt x0 x7) = 46 then (spec_ifName.l0 k x0 x6 (wrap64 (x7 + 1))) else (if (bt x0 x7) = 45 then (spec_ifName.l0 k x0 x6 (wrap64 (x7 + 1))) else (if (bt x0 x7) = 95 then (spec_ifName.l0 k x0 x6 (wrap64 (x7 + 1))) else (some false)))) else (if (bt x0 x7) > 57 then (if (bt x0 x7) = 46 then (spec_ifName.l0 k x0 x6 (wrap64 (x7 + 1))) else (if (bt x0 x7) = 45 then (spec_ifName.l0 k x0 x6 (wrap64 (x7 + 1))) else (if (bt x0 x7) = 95 then (spec_ifName.l0 k x0 x6 (wrap64 (x7 + 1))) else (some false)))) else (spec_ifName.l0 k x0 x6 (wrap64 (x7 + 1))))) else (spec_ifName.l0 k x0 x6 (wrap64 (x7 + 1))))) else (spec_ifName.l0 k x0 x6 (wrap64 (x7 + 1))))) else (none)) else (none)) else (if (x0.size : Int) ≥ 1 then (some (decide ((x0.size : Int) ≤ 15))) else (some false))
def spec_ifName.f (k : Nat) (a0 : ByteArray) : Option (Bool) := spec_ifName.l0 k a0 (a0.size : Int) 0
theorem spec_ifName.mono_l : ∀ k, (∀ y0 y1 y2, LeO (spec_ifName.l0 k y0 y1 y2) (spec_ifName.l0 (k + 1) y0 y1 y2))
 | 0 => fun _ _ _ r h => by simp [spec_ifName.l0] at h
 | k + 1 => by
  have ih0 := spec_ifName.mono_l k
  ·intro y0 y1 y2
   unfold spec_ifName.l0
   repeat' first
   | (with_reducible exact ih0 _ _ _)
   | (with_reducible exact LeO.refl _)
   | (with_reducible exact LeO.none _)
   | (with_reducible refine LeO.ite ?_ ?_)
   | (with_reducible refine LeO.bind ?_ (fun _ => ?_))
   | exact ih0 _ _ _
   | exact LeO.none _
   | refine LeO.ite ?_ ?_
   | refine LeO.bind ?_ (fun _ => ?_)
theorem spec_ifName.mono : ∀ a0 k, LeO (spec_ifName.f k a0) (spec_ifName.f (k + 1) a0) := by
 intro a0 k
 have ih0 := spec_ifName.mono_l k
 unfold spec_ifName.f
 repeat' first
   | (with_reducible exact ih0 _ _ _)
   | (with_reducible exact LeO.refl _)
   | (with_reducible exact LeO.none _)
   | (with_reducible refine LeO.ite ?_ ?_)
   | (with_reducible refine LeO.bind ?_ (fun _ => ?_))
   | exact ih0 _ _ _
   | exact LeO.none _
   | refine LeO.ite ?_ ?_
   | refine LeO.bind ?_ (fun _ => ?_)
set_option maxHeartbeats 8000000 in
set_option maxRecDepth 100000 in
theorem spec_ifName.calls (k : Nat) (a0 : ByteArray) (r : Bool) (w : World) (h : spec_ifName.f k a0 = some r) :
  Calls Tryz.prog 170 #[.string a0] w fun e w' => e = .returned (.bool r) ∧ Drawn0 w w' := by
 have H : (spec_ifName.l0 k a0 (a0.size : Int) 0) = some r := h
 clear h
 have H' := Aside0.mk H
 clear H
 go_enter Tryz.func170, Tryz.ntmps170
 go_wp2
 go_loopg [7] k (fun kq v7 w' => ∃ (x7_1 : Int), v7 = .int .i64 x7_1 ∧ Aside0 (spec_ifName.l0 kq a0 (a0.size : Int) x7_1 = some r) ∧ Aside0 (kq ≤ k) ∧ Drawn0 w w')
 case atStart => exact ⟨(0), (by first | rfl | (simp; done) | (simp [*]; done)), H', ⟨Nat.le_refl _⟩, by repeat (first | exact Drawn0.refl _ | apply Drawn0.step)⟩
 case round =>
  clear H'
  try clear c1
  obtain ⟨x7_1, rfl, HA, HK1, ⟨m1, rfl⟩⟩ := hrel
  cases gk with
  | zero => exact absurd HA.out (by simp [spec_ifName.l0])
  | succ k1 =>
   have H := HA.out
   clear HA
   simp only [spec_ifName.l0] at H
   by_cases c2 : x7_1 < (a0.size : Int)
   ·rw [if_pos c2] at H
    have c2b0 : decide (x7_1 < (a0.size : Int)) = true := decide_eq_true c2
    clear c2
    replace H := guard_inv H
    obtain ⟨c3, H⟩ := H
    have c3b0 : decide (0 ≤ x7_1) = true := decide_eq_true c3
    clear c3
    replace H := guard_inv H
    obtain ⟨c4, H⟩ := H
    have c4b0 : decide (x7_1 < (a0.size : Int)) = true := decide_eq_true c4
    clear c4
    by_cases c6 : (bt a0 x7_1) < 97
    ·rw [if_pos c6] at H
     have c6b0 : decide ((bt a0 x7_1) < 97) = true := decide_eq_true c6
     clear c6
     by_cases c7 : (bt a0 x7_1) < 65
     ·rw [if_pos c7] at H
      have c7b0 : decide ((bt a0 x7_1) < 65) = true := decide_eq_true c7
      clear c7
      by_cases c8 : (bt a0 x7_1) < 48
      ·rw [if_pos c8] at H
       have c8b0 : decide ((bt a0 x7_1) < 48) = true := decide_eq_true c8
       clear c8
       by_cases c9 : (bt a0 x7_1) = 46
       ·rw [if_pos c9] at H
        have c9b0 : ((bt a0 x7_1) == 46) = true := beq_iff_eq.mpr c9
        have c9b1 : ((bt a0 x7_1) != 46) = false := bne_eq_false_iff_eq.mpr c9
        clear c9
        have H' := Aside0.mk H
        clear H
        have p5 : 0 ≤ (x7_1 : Int) := of_decide_eq_true (by first | (with_reducible assumption) | assumption)
        have q5 : x7_1 < (a0.size : Int) := of_decide_eq_true (by first | (with_reducible assumption) | assumption)
        have hx5 := bt_at a0 x7_1
        replace p5 := eq_true p5
        replace q5 := eq_true q5
        go_wp2
        go_roundg k1
        case measure => have := HK1.out; omega
        case rel => exact ⟨(wrap64 (x7_1 + 1)), (by first | rfl | (simp; done) | (simp [*]; done)), H', ⟨by have := HK1.out; omega⟩, by repeat (first | exact Drawn0.refl _ | apply Drawn0.step)⟩
       ·rw [if_neg c9] at H
        have c9b0 : ((bt a0 x7_1) == 46) = false := beq_eq_false_iff_ne.mpr c9
        have c9b1 : ((bt a0 x7_1) != 46) = true := bne_iff_ne.mpr c9
        by_cases c10 : (bt a0 x7_1) = 45
        ·rw [if_pos c10] at H
         have c10b0 : ((bt a0 x7_1) == 45) = true := beq_iff_eq.mpr c10
         have c10b1 : ((bt a0 x7_1) != 45) = false := bne_eq_false_iff_eq.mpr c10
         clear c10
         have H' := Aside0.mk H
         clear H
         have p5 : 0 ≤ (x7_1 : Int) := of_decide_eq_true (by first | (with_reducible assumption) | assumption)
         have q5 : x7_1 < (a0.size : Int) := of_decide_eq_true (by first | (with_reducible assumption) | assumption)
         have hx5 := bt_at a0 x7_1
         replace p5 := eq_true p5
         replace q5 := eq_true q5
         go_wp2
         go_roundg k1
         case measure => have := HK1.out; omega
         case rel => exact ⟨(wrap64 (x7_1 + 1)), (by first | rfl | (simp; done) | (simp [*]; done)), H', ⟨by have := HK1.out; omega⟩, by repeat (first | exact Drawn0.refl _ | apply Drawn0.step)⟩
        ·rw [if_neg c10] at H
         have c10b0 : ((bt a0 x7_1) == 45) = false := beq_eq_false_iff_ne.mpr c10
         have c10b1 : ((bt a0 x7_1) != 45) = true := bne_iff_ne.mpr c10
         by_cases c11 : (bt a0 x7_1) = 95
         ·rw [if_pos c11] at H
          have c11b0 : ((bt a0 x7_1) == 95) = true := beq_iff_eq.mpr c11
          have c11b1 : ((bt a0 x7_1) != 95) = false := bne_eq_false_iff_eq.mpr c11
          clear c11
          have H' := Aside0.mk H
          clear H
          have p5 : 0 ≤ (x7_1 : Int) := of_decide_eq_true (by first | (with_reducible assumption) | assumption)
          have q5 : x7_1 < (a0.size : Int) := of_decide_eq_true (by first | (with_reducible assumption) | assumption)
          have hx5 := bt_at a0 x7_1
          replace p5 := eq_true p5
          replace q5 := eq_true q5
          go_wp2
          go_roundg k1
          case measure => have := HK1.out; omega
          case rel => exact ⟨(wrap64 (x7_1 + 1)), (by first | rfl | (simp; done) | (simp [*]; done)), H', ⟨by have := HK1.out; omega⟩, by repeat (first | exact Drawn0.refl _ | apply Drawn0.step)⟩
         ·rw [if_neg c11] at H
          have c11b0 : ((bt a0 x7_1) == 95) = false := beq_eq_false_iff_ne.mpr c11
          have c11b1 : ((bt a0 x7_1) != 95) = true := bne_iff_ne.mpr c11
          obtain rfl := Option.some.inj H
          have p5 : 0 ≤ (x7_1 : Int) := of_decide_eq_true (by first | (with_reducible assumption) | assumption)
          have q5 : x7_1 < (a0.size : Int) := of_decide_eq_true (by first | (with_reducible assumption) | assumption)
          have hx5 := bt_at a0 x7_1
          replace p5 := eq_true p5
          replace q5 := eq_true q5
          go_wp2
          go_ret
          exact ⟨by first | rfl | (simp; done) | (simp [*]; done), by repeat (first | exact Drawn0.refl _ | apply Drawn0.step)⟩
      ·rw [if_neg c8] at H
       have c8b0 : decide ((bt a0 x7_1) < 48) = false := decide_eq_false c8
       clear c8
       by_cases c12 : (bt a0 x7_1) > 57
       ·rw [if_pos c12] at H
        have c12b0 : decide (57 < (bt a0 x7_1)) = true := decide_eq_true c12
        clear c12
        by_cases c13 : (bt a0 x7_1) = 46
        ·rw [if_pos c13] at H
         have c13b0 : ((bt a0 x7_1) == 46) = true := beq_iff_eq.mpr c13
         have c13b1 : ((bt a0 x7_1) != 46) = false := bne_eq_false_iff_eq.mpr c13
         clear c13
         have H' := Aside0.mk H
         clear H
         have p5 : 0 ≤ (x7_1 : Int) := of_decide_eq_true (by first | (with_reducible assumption) | assumption)
         have q5 : x7_1 < (a0.size : Int) := of_decide_eq_true (by first | (with_reducible assumption) | assumption)
         have hx5 := bt_at a0 x7_1
         replace p5 := eq_true p5
         replace q5 := eq_true q5
         go_wp2
         go_roundg k1
         case measure => have := HK1.out; omega
         case rel => exact ⟨(wrap64 (x7_1 + 1)), (by first | rfl | (simp; done) | (simp [*]; done)), H', ⟨by have := HK1.out; omega⟩, by repeat (first | exact Drawn0.refl _ | apply Drawn0.step)⟩
        ·rw [if_neg c13] at H
         have c13b0 : ((bt a0 x7_1) == 46) = false := beq_eq_false_iff_ne.mpr c13
         have c13b1 : ((bt a0 x7_1) != 46) = true := bne_iff_ne.mpr c13
         by_cases c14 : (bt a0 x7_1) = 45
         ·rw [if_pos c14] at H
          have c14b0 : ((bt a0 x7_1) == 45) = true := beq_iff_eq.mpr c14
          have c14b1 : ((bt a0 x7_1) != 45) = false := bne_eq_false_iff_eq.mpr c14
          clear c14
          have H' := Aside0.mk H
          clear H
          have p5 : 0 ≤ (x7_1 : Int) := of_decide_eq_true (by first | (with_reducible assumption) | assumption)
          have q5 : x7_1 < (a0.size : Int) := of_decide_eq_true (by first | (with_reducible assumption) | assumption)
          have hx5 := bt_at a0 x7_1
          replace p5 := eq_true p5
          replace q5 := eq_true q5
          go_wp2
          go_roundg k1
          case measure => have := HK1.out; omega
          case rel => exact ⟨(wrap64 (x7_1 + 1)), (by first | rfl | (simp; done) | (simp [*]; done)), H', ⟨by have := HK1.out; omega⟩, by repeat (first | exact Drawn0.refl _ | apply Drawn0.step)⟩
         ·rw [if_neg c14] at H
          have c14b0 : ((bt a0 x7_1) == 45) = false := beq_eq_false_iff_ne.mpr c14
          have c14b1 : ((bt a0 x7_1) != 45) = true := bne_iff_ne.mpr c14
          by_cases c15 : (bt a0 x7_1) = 95
          ·rw [if_pos c15] at H
           have c15b0 : ((bt a0 x7_1) == 95) = true := beq_iff_eq.mpr c15
           have c15b1 : ((bt a0 x7_1) != 95) = false := bne_eq_false_iff_eq.mpr c15
           clear c15
           have H' := Aside0.mk H
           clear H
           have p5 : 0 ≤ (x7_1 : Int) := of_decide_eq_true (by first | (with_reducible assumption) | assumption)
           have q5 : x7_1 < (a0.size : Int) := of_decide_eq_true (by first | (with_reducible assumption) | assumption)
           have hx5 := bt_at a0 x7_1
           replace p5 := eq_true p5
           replace q5 := eq_true q5
           go_wp2
           go_roundg k1
           case measure => have := HK1.out; omega
           case rel => exact ⟨(wrap64 (x7_1 + 1)), (by first | rfl | (simp; done) | (simp [*]; done)), H', ⟨by have := HK1.out; omega⟩, by repeat (first | exact Drawn0.refl _ | apply Drawn0.step)⟩
          ·rw [if_neg c15] at H
           have c15b0 : ((bt a0 x7_1) == 95) = false := beq_eq_false_iff_ne.mpr c15
           have c15b1 : ((bt a0 x7_1) != 95) = true := bne_iff_ne.mpr c15
           obtain rfl := Option.some.inj H
           have p5 : 0 ≤ (x7_1 : Int) := of_decide_eq_true (by first | (with_reducible assumption) | assumption)
           have q5 : x7_1 < (a0.size : Int) := of_decide_eq_true (by first | (with_reducible assumption) | assumption)
           have hx5 := bt_at a0 x7_1
           replace p5 := eq_true p5
           replace q5 := eq_true q5
           go_wp2
           go_ret
           exact ⟨by first | rfl | (simp; done) | (simp [*]; done), by repeat (first | exact Drawn0.refl _ | apply Drawn0.step)⟩
       ·rw [if_neg c12] at H
        have c12b0 : decide (57 < (bt a0 x7_1)) = false := decide_eq_false c12
        clear c12
        have H' := Aside0.mk H
        clear H
        have p5 : 0 ≤ (x7_1 : Int) := of_decide_eq_true (by first | (with_reducible assumption) | assumption)
        have q5 : x7_1 < (a0.size : Int) := of_decide_eq_true (by first | (with_reducible assumption) | assumption)
        have hx5 := bt_at a0 x7_1
        replace p5 := eq_true p5
        replace q5 := eq_true q5
        go_wp2
        go_roundg k1
        case measure => have := HK1.out; omega
        case rel => exact ⟨(wrap64 (x7_1 + 1)), (by first | rfl | (simp; done) | (simp [*]; done)), H', ⟨by have := HK1.out; omega⟩, by repeat (first | exact Drawn0.refl _ | apply Drawn0.step)⟩
     ·rw [if_neg c7] at H
      have c7b0 : decide ((bt a0 x7_1) < 65) = false := decide_eq_false c7
      clear c7
      by_cases c16 : (bt a0 x7_1) > 90
      ·rw [if_pos c16] at H
       have c16b0 : decide (90 < (bt a0 x7_1)) = true := decide_eq_true c16
       clear c16
       by_cases c17 : (bt a0 x7_1) < 48
       ·rw [if_pos c17] at H
        have c17b0 : decide ((bt a0 x7_1) < 48) = true := decide_eq_true c17
        clear c17
        by_cases c18 : (bt a0 x7_1) = 46
        ·rw [if_pos c18] at H
         have c18b0 : ((bt a0 x7_1) == 46) = true := beq_iff_eq.mpr c18
         have c18b1 : ((bt a0 x7_1) != 46) = false := bne_eq_false_iff_eq.mpr c18
         clear c18
         have H' := Aside0.mk H
         clear H
         have p5 : 0 ≤ (x7_1 : Int) := of_decide_eq_true (by first | (with_reducible assumption) | assumption)
         have q5 : x7_1 < (a0.size : Int) := of_decide_eq_true (by first | (with_reducible assumption) | assumption)
         have hx5 := bt_at a0 x7_1
         replace p5 := eq_true p5
         replace q5 := eq_true q5
         go_wp2
         go_roundg k1
         case measure => have := HK1.out; omega
         case rel => exact ⟨(wrap64 (x7_1 + 1)), (by first | rfl | (simp; done) | (simp [*]; done)), H', ⟨by have := HK1.out; omega⟩, by repeat (first | exact Drawn0.refl _ | apply Drawn0.step)⟩
        ·rw [if_neg c18] at H
         have c18b0 : ((bt a0 x7_1) == 46) = false := beq_eq_false_iff_ne.mpr c18
         have c18b1 : ((bt a0 x7_1) != 46) = true := bne_iff_ne.mpr c18
         by_cases c19 : (bt a0 x7_1) = 45
         ·rw [if_pos c19] at H
          have c19b0 : ((bt a0 x7_1) == 45) = true := beq_iff_eq.mpr c19
          have c19b1 : ((bt a0 x7_1) != 45) = false := bne_eq_false_iff_eq.mpr c19
          clear c19
          have H' := Aside0.mk H
          clear H
          have p5 : 0 ≤ (x7_1 : Int) := of_decide_eq_true (by first | (with_reducible assumption) | assumption)
          have q5 : x7_1 < (a0.size : Int) := of_decide_eq_true (by first | (with_reducible assumption) | assumption)
          have hx5 := bt_at a0 x7_1
          replace p5 := eq_true p5
          replace q5 := eq_true q5
          go_wp2
          go_roundg k1
          case measure => have := HK1.out; omega
          case rel => exact ⟨(wrap64 (x7_1 + 1)), (by first | rfl | (simp; done) | (simp [*]; done)), H', ⟨by have := HK1.out; omega⟩, by repeat (first | exact Drawn0.refl _ | apply Drawn0.step)⟩
         ·rw [if_neg c19] at H
          have c19b0 : ((bt a0 x7_1) == 45) = false := beq_eq_false_iff_ne.mpr c19
          have c19b1 : ((bt a0 x7_1) != 45) = true := bne_iff_ne.mpr c19
          by_cases c20 : (bt a0 x7_1) = 95
          ·rw [if_pos c20] at H
           have c20b0 : ((bt a0 x7_1) == 95) = true := beq_iff_eq.mpr c20
           have c20b1 : ((bt a0 x7_1) != 95) = false := bne_eq_false_iff_eq.mpr c20
           clear c20
           have H' := Aside0.mk H
           clear H
           have p5 : 0 ≤ (x7_1 : Int) := of_decide_eq_true (by first | (with_reducible assumption) | assumption)
           have q5 : x7_1 < (a0.size : Int) := of_decide_eq_true (by first | (with_reducible assumption) | assumption)
           have hx5 := bt_at a0 x7_1
           replace p5 := eq_true p5
           replace q5 := eq_true q5
           go_wp2
           go_roundg k1
           case measure => have := HK1.out; omega
           case rel => exact ⟨(wrap64 (x7_1 + 1)), (by first | rfl | (simp; done) | (simp [*]; done)), H', ⟨by have := HK1.out; omega⟩, by repeat (first | exact Drawn0.refl _ | apply Drawn0.step)⟩
          ·rw [if_neg c20] at H
           have c20b0 : ((bt a0 x7_1) == 95) = false := beq_eq_false_iff_ne.mpr c20
           have c20b1 : ((bt a0 x7_1) != 95) = true := bne_iff_ne.mpr c20
           obtain rfl := Option.some.inj H
           have p5 : 0 ≤ (x7_1 : Int) := of_decide_eq_true (by first | (with_reducible assumption) | assumption)
           have q5 : x7_1 < (a0.size : Int) := of_decide_eq_true (by first | (with_reducible assumption) | assumption)
           have hx5 := bt_at a0 x7_1
           replace p5 := eq_true p5
           replace q5 := eq_true q5
           go_wp2
           go_ret
           exact ⟨by first | rfl | (simp; done) | (simp [*]; done), by repeat (first | exact Drawn0.refl _ | apply Drawn0.step)⟩
       ·rw [if_neg c17] at H
        have c17b0 : decide ((bt a0 x7_1) < 48) = false := decide_eq_false c17
        clear c17
        by_cases c21 : (bt a0 x7_1) > 57
        ·rw [if_pos c21] at H
         have c21b0 : decide (57 < (bt a0 x7_1)) = true := decide_eq_true c21
         clear c21
         by_cases c22 : (bt a0 x7_1) = 46
         ·rw [if_pos c22] at H
          have c22b0 : ((bt a0 x7_1) == 46) = true := beq_iff_eq.mpr c22
          have c22b1 : ((bt a0 x7_1) != 46) = false := bne_eq_false_iff_eq.mpr c22
          clear c22
          have H' := Aside0.mk H
          clear H
          have p5 : 0 ≤ (x7_1 : Int) := of_decide_eq_true (by first | (with_reducible assumption) | assumption)
          have q5 : x7_1 < (a0.size : Int) := of_decide_eq_true (by first | (with_reducible assumption) | assumption)
          have hx5 := bt_at a0 x7_1
          replace p5 := eq_true p5
          replace q5 := eq_true q5
          go_wp2
          go_roundg k1
          case measure => have := HK1.out; omega
          case rel => exact ⟨(wrap64 (x7_1 + 1)), (by first | rfl | (simp; done) | (simp [*]; done)), H', ⟨by have := HK1.out; omega⟩, by repeat (first | exact Drawn0.refl _ | apply Drawn0.step)⟩
         ·rw [if_neg c22] at H
          have c22b0 : ((bt a0 x7_1) == 46) = false := beq_eq_false_iff_ne.mpr c22
          have c22b1 : ((bt a0 x7_1) != 46) = true := bne_iff_ne.mpr c22
          by_cases c23 : (bt a0 x7_1) = 45
          ·rw [if_pos c23] at H
           have c23b0 : ((bt a0 x7_1) == 45) = true := beq_iff_eq.mpr c23
           have c23b1 : ((bt a0 x7_1) != 45) = false := bne_eq_false_iff_eq.mpr c23
           clear c23
           have H' := Aside0.mk H
           clear H
           have p5 : 0 ≤ (x7_1 : Int) := of_decide_eq_true (by first | (with_reducible assumption) | assumption)
           have q5 : x7_1 < (a0.size : Int) := of_decide_eq_true (by first | (with_reducible assumption) | assumption)
           have hx5 := bt_at a0 x7_1
           replace p5 := eq_true p5
           replace q5 := eq_true q5
           go_wp2
           go_roundg k1
           case measure => have := HK1.out; omega
           case rel => exact ⟨(wrap64 (x7_1 + 1)), (by first | rfl | (simp; done) | (simp [*]; done)), H', ⟨by have := HK1.out; omega⟩, by repeat (first | exact Drawn0.refl _ | apply Drawn0.step)⟩
          ·rw [if_neg c23] at H
           have c23b0 : ((bt a0 x7_1) == 45) = false := beq_eq_false_iff_ne.mpr c23
           have c23b1 : ((bt a0 x7_1) != 45) = true := bne_iff_ne.mpr c23
           by_cases c24 : (bt a0 x7_1) = 95
           ·rw [if_pos c24] at H
            have c24b0 : ((bt a0 x7_1) == 95) = true := beq_iff_eq.mpr c24
            have c24b1 : ((bt a0 x7_1) != 95) = false := bne_eq_false_iff_eq.mpr c24
            clear c24
            have H' := Aside0.mk H
            clear H
            have p5 : 0 ≤ (x7_1 : Int) := of_decide_eq_true (by first | (with_reducible assumption) | assumption)
            have q5 : x7_1 < (a0.size : Int) := of_decide_eq_true (by first | (with_reducible assumption) | assumption)
            have hx5 := bt_at a0 x7_1
            replace p5 := eq_true p5
            replace q5 := eq_true q5
            go_wp2
            go_roundg k1
            case measure => have := HK1.out; omega
            case rel => exact ⟨(wrap64 (x7_1 + 1)), (by first | rfl | (simp; done) | (simp [*]; done)), H', ⟨by have := HK1.out; omega⟩, by repeat (first | exact Drawn0.refl _ | apply Drawn0.step)⟩
           ·rw [if_neg c24] at H
            have c24b0 : ((bt a0 x7_1) == 95) = false := beq_eq_false_iff_ne.mpr c24
            have c24b1 : ((bt a0 x7_1) != 95) = true := bne_iff_ne.mpr c24
            obtain rfl := Option.some.inj H
            have p5 : 0 ≤ (x7_1 : Int) := of_decide_eq_true (by first | (with_reducible assumption) | assumption)
            have q5 : x7_1 < (a0.size : Int) := of_decide_eq_true (by first | (with_reducible assumption) | assumption)
            have hx5 := bt_at a0 x7_1
            replace p5 := eq_true p5
            replace q5 := eq_true q5
            go_wp2
            go_ret
            exact ⟨by first | rfl | (simp; done) | (simp [*]; done), by repeat (first | exact Drawn0.refl _ | apply Drawn0.step)⟩
        ·rw [if_neg c21] at H
         have c21b0 : decide (57 < (bt a0 x7_1)) = false := decide_eq_false c21
         clear c21
         have H' := Aside0.mk H
         clear H
         have p5 : 0 ≤ (x7_1 : Int) := of_decide_eq_true (by first | (with_reducible assumption) | assumption)
         have q5 : x7_1 < (a0.size : Int) := of_decide_eq_true (by first | (with_reducible assumption) | assumption)
         have hx5 := bt_at a0 x7_1
         replace p5 := eq_true p5
         replace q5 := eq_true q5
         go_wp2
         go_roundg k1
         case measure => have := HK1.out; omega
         case rel => exact ⟨(wrap64 (x7_1 + 1)), (by first | rfl | (simp; done) | (simp [*]; done)), H', ⟨by have := HK1.out; omega⟩, by repeat (first | exact Drawn0.refl _ | apply Drawn0.step)⟩
      ·rw [if_neg c16] at H
       have c16b0 : decide (90 < (bt a0 x7_1)) = false := decide_eq_false c16
       clear c16
       have H' := Aside0.mk H
       clear H
       have p5 : 0 ≤ (x7_1 : Int) := of_decide_eq_true (by first | (with_reducible assumption) | assumption)
       have q5 : x7_1 < (a0.size : Int) := of_decide_eq_true (by first | (with_reducible assumption) | assumption)
       have hx5 := bt_at a0 x7_1
       replace p5 := eq_true p5
       replace q5 := eq_true q5
       go_wp2
       go_roundg k1
       case measure => have := HK1.out; omega
       case rel => exact ⟨(wrap64 (x7_1 + 1)), (by first | rfl | (simp; done) | (simp [*]; done)), H', ⟨by have := HK1.out; omega⟩, by repeat (first | exact Drawn0.refl _ | apply Drawn0.step)⟩
    ·rw [if_neg c6] at H
     have c6b0 : decide ((bt a0 x7_1) < 97) = false := decide_eq_false c6
     clear c6
     by_cases c25 : (bt a0 x7_1) > 122
     ·rw [if_pos c25] at H
      have c25b0 : decide (122 < (bt a0 x7_1)) = true := decide_eq_true c25
      clear c25
      by_cases c26 : (bt a0 x7_1) < 65
      ·rw [if_pos c26] at H
       have c26b0 : decide ((bt a0 x7_1) < 65) = true := decide_eq_true c26
       clear c26
       by_cases c27 : (bt a0 x7_1) < 48
       ·rw [if_pos c27] at H
        have c27b0 : decide ((bt a0 x7_1) < 48) = true := decide_eq_true c27
        clear c27
        by_cases c28 : (bt a0 x7_1) = 46
        ·rw [if_pos c28] at H
         have c28b0 : ((bt a0 x7_1) == 46) = true := beq_iff_eq.mpr c28
         have c28b1 : ((bt a0 x7_1) != 46) = false := bne_eq_false_iff_eq.mpr c28
         clear c28
         have H' := Aside0.mk H
         clear H
         have p5 : 0 ≤ (x7_1 : Int) := of_decide_eq_true (by first | (with_reducible assumption) | assumption)
         have q5 : x7_1 < (a0.size : Int) := of_decide_eq_true (by first | (with_reducible assumption) | assumption)
         have hx5 := bt_at a0 x7_1
         replace p5 := eq_true p5
         replace q5 := eq_true q5
         go_wp2
         go_roundg k1
         case measure => have := HK1.out; omega
         case rel => exact ⟨(wrap64 (x7_1 + 1)), (by first | rfl | (simp; done) | (simp [*]; done)), H', ⟨by have := HK1.out; omega⟩, by repeat (first | exact Drawn0.refl _ | apply Drawn0.step)⟩
        ·rw [if_neg c28] at H
         have c28b0 : ((bt a0 x7_1) == 46) = false := beq_eq_false_iff_ne.mpr c28
         have c28b1 : ((bt a0 x7_1) != 46) = true := bne_iff_ne.mpr c28
         by_cases c29 : (bt a0 x7_1) = 45
         ·rw [if_pos c29] at H
          have c29b0 : ((bt a0 x7_1) == 45) = true := beq_iff_eq.mpr c29
          have c29b1 : ((bt a0 x7_1) != 45) = false := bne_eq_false_iff_eq.mpr c29
          clear c29
          have H' := Aside0.mk H
          clear H
          have p5 : 0 ≤ (x7_1 : Int) := of_decide_eq_true (by first | (with_reducible assumption) | assumption)
          have q5 : x7_1 < (a0.size : Int) := of_decide_eq_true (by first | (with_reducible assumption) | assumption)
          have hx5 := bt_at a0 x7_1
          replace p5 := eq_true p5
          replace q5 := eq_true q5
          go_wp2
          go_roundg k1
          case measure => have := HK1.out; omega
          case rel => exact ⟨(wrap64 (x7_1 + 1)), (by first | rfl | (simp; done) | (simp [*]; done)), H', ⟨by have := HK1.out; omega⟩, by repeat (first | exact Drawn0.refl _ | apply Drawn0.step)⟩
         ·rw [if_neg c29] at H
          have c29b0 : ((bt a0 x7_1) == 45) = false := beq_eq_false_iff_ne.mpr c29
          have c29b1 : ((bt a0 x7_1) != 45) = true := bne_iff_ne.mpr c29
          by_cases c30 : (bt a0 x7_1) = 95
          ·rw [if_pos c30] at H
           have c30b0 : ((bt a0 x7_1) == 95) = true := beq_iff_eq.mpr c30
           have c30b1 : ((bt a0 x7_1) != 95) = false := bne_eq_false_iff_eq.mpr c30
           clear c30
           have H' := Aside0.mk H
           clear H
           have p5 : 0 ≤ (x7_1 : Int) := of_decide_eq_true (by first | (with_reducible assumption) | assumption)
           have q5 : x7_1 < (a0.size : Int) := of_decide_eq_true (by first | (with_reducible assumption) | assumption)
           have hx5 := bt_at a0 x7_1
           replace p5 := eq_true p5
           replace q5 := eq_true q5
           go_wp2
           go_roundg k1
           case measure => have := HK1.out; omega
           case rel => exact ⟨(wrap64 (x7_1 + 1)), (by first | rfl | (simp; done) | (simp [*]; done)), H', ⟨by have := HK1.out; omega⟩, by repeat (first | exact Drawn0.refl _ | apply Drawn0.step)⟩
          ·rw [if_neg c30] at H
           have c30b0 : ((bt a0 x7_1) == 95) = false := beq_eq_false_iff_ne.mpr c30
           have c30b1 : ((bt a0 x7_1) != 95) = true := bne_iff_ne.mpr c30
           obtain rfl := Option.some.inj H
           have p5 : 0 ≤ (x7_1 : Int) := of_decide_eq_true (by first | (with_reducible assumption) | assumption)
           have q5 : x7_1 < (a0.size : Int) := of_decide_eq_true (by first | (with_reducible assumption) | assumption)
           have hx5 := bt_at a0 x7_1
           replace p5 := eq_true p5
           replace q5 := eq_true q5
           go_wp2
           go_ret
           exact ⟨by first | rfl | (simp; done) | (simp [*]; done), by repeat (first | exact Drawn0.refl _ | apply Drawn0.step)⟩
       ·rw [if_neg c27] at H
        have c27b0 : decide ((bt a0 x7_1) < 48) = false := decide_eq_false c27
        clear c27
        by_cases c31 : (bt a0 x7_1) > 57
        ·rw [if_pos c31] at H
         have c31b0 : decide (57 < (bt a0 x7_1)) = true := decide_eq_true c31
         clear c31
         by_cases c32 : (bt a0 x7_1) = 46
         ·rw [if_pos c32] at H
          have c32b0 : ((bt a0 x7_1) == 46) = true := beq_iff_eq.mpr c32
          have c32b1 : ((bt a0 x7_1) != 46) = false := bne_eq_false_iff_eq.mpr c32
          clear c32
          have H' := Aside0.mk H
          clear H
          have p5 : 0 ≤ (x7_1 : Int) := of_decide_eq_true (by first | (with_reducible assumption) | assumption)
          have q5 : x7_1 < (a0.size : Int) := of_decide_eq_true (by first | (with_reducible assumption) | assumption)
          have hx5 := bt_at a0 x7_1
          replace p5 := eq_true p5
          replace q5 := eq_true q5
          go_wp2
          go_roundg k1
          case measure => have := HK1.out; omega
          case rel => exact ⟨(wrap64 (x7_1 + 1)), (by first | rfl | (simp; done) | (simp [*]; done)), H', ⟨by have := HK1.out; omega⟩, by repeat (first | exact Drawn0.refl _ | apply Drawn0.step)⟩
         ·rw [if_neg c32] at H
          have c32b0 : ((bt a0 x7_1) == 46) = false := beq_eq_false_iff_ne.mpr c32
          have c32b1 : ((bt a0 x7_1) != 46) = true := bne_iff_ne.mpr c32
          by_cases c33 : (bt a0 x7_1) = 45
          ·rw [if_pos c33] at H
           have c33b0 : ((bt a0 x7_1) == 45) = true := beq_iff_eq.mpr c33
           have c33b1 : ((bt a0 x7_1) != 45) = false := bne_eq_false_iff_eq.mpr c33
           clear c33
           have H' := Aside0.mk H
           clear H
           have p5 : 0 ≤ (x7_1 : Int) := of_decide_eq_true (by first | (with_reducible assumption) | assumption)
           have q5 : x7_1 < (a0.size : Int) := of_decide_eq_true (by first | (with_reducible assumption) | assumption)
           have hx5 := bt_at a0 x7_1
           replace p5 := eq_true p5
           replace q5 := eq_true q5
           go_wp2
           go_roundg k1
           case measure => have := HK1.out; omega
           case rel => exact ⟨(wrap64 (x7_1 + 1)), (by first | rfl | (simp; done) | (simp [*]; done)), H', ⟨by have := HK1.out; omega⟩, by repeat (first | exact Drawn0.refl _ | apply Drawn0.step)⟩
          ·rw [if_neg c33] at H
           have c33b0 : ((bt a0 x7_1) == 45) = false := beq_eq_false_iff_ne.mpr c33
           have c33b1 : ((bt a0 x7_1) != 45) = true := bne_iff_ne.mpr c33
           by_cases c34 : (bt a0 x7_1) = 95
           ·rw [if_pos c34] at H
            have c34b0 : ((bt a0 x7_1) == 95) = true := beq_iff_eq.mpr c34
            have c34b1 : ((bt a0 x7_1) != 95) = false := bne_eq_false_iff_eq.mpr c34
            clear c34
            have H' := Aside0.mk H
            clear H
            have p5 : 0 ≤ (x7_1 : Int) := of_decide_eq_true (by first | (with_reducible assumption) | assumption)
            have q5 : x7_1 < (a0.size : Int) := of_decide_eq_true (by first | (with_reducible assumption) | assumption)
            have hx5 := bt_at a0 x7_1
            replace p5 := eq_true p5
            replace q5 := eq_true q5
            go_wp2
            go_roundg k1
            case measure => have := HK1.out; omega
            case rel => exact ⟨(wrap64 (x7_1 + 1)), (by first | rfl | (simp; done) | (simp [*]; done)), H', ⟨by have := HK1.out; omega⟩, by repeat (first | exact Drawn0.refl _ | apply Drawn0.step)⟩
           ·rw [if_neg c34] at H
            have c34b0 : ((bt a0 x7_1) == 95) = false := beq_eq_false_iff_ne.mpr c34
            have c34b1 : ((bt a0 x7_1) != 95) = true := bne_iff_ne.mpr c34
            obtain rfl := Option.some.inj H
            have p5 : 0 ≤ (x7_1 : Int) := of_decide_eq_true (by first | (with_reducible assumption) | assumption)
            have q5 : x7_1 < (a0.size : Int) := of_decide_eq_true (by first | (with_reducible assumption) | assumption)
            have hx5 := bt_at a0 x7_1
            replace p5 := eq_true p5
            replace q5 := eq_true q5
            go_wp2
            go_ret
            exact ⟨by first | rfl | (simp; done) | (simp [*]; done), by repeat (first | exact Drawn0.refl _ | apply Drawn0.step)⟩
        ·rw [if_neg c31] at H
         have c31b0 : decide (57 < (bt a0 x7_1)) = false := decide_eq_false c31
         clear c31
         have H' := Aside0.mk H
         clear H
         have p5 : 0 ≤ (x7_1 : Int) := of_decide_eq_true (by first | (with_reducible assumption) | assumption)
         have q5 : x7_1 < (a0.size : Int) := of_decide_eq_true (by first | (with_reducible assumption) | assumption)
         have hx5 := bt_at a0 x7_1
         replace p5 := eq_true p5
         replace q5 := eq_true q5
         go_wp2
         go_roundg k1
         case measure => have := HK1.out; omega
         case rel => exact ⟨(wrap64 (x7_1 + 1)), (by first | rfl | (simp; done) | (simp [*]; done)), H', ⟨by have := HK1.out; omega⟩, by repeat (first | exact Drawn0.refl _ | apply Drawn0.step)⟩
      ·rw [if_neg c26] at H
       have c26b0 : decide ((bt a0 x7_1) < 65) = false := decide_eq_false c26
       clear c26
       by_cases c35 : (bt a0 x7_1) > 90
       ·rw [if_pos c35] at H
        have c35b0 : decide (90 < (bt a0 x7_1)) = true := decide_eq_true c35
        clear c35
        by_cases c36 : (bt a0 x7_1) < 48
        ·rw [if_pos c36] at H
         have c36b0 : decide ((bt a0 x7_1) < 48) = true := decide_eq_true c36
         clear c36
         by_cases c37 : (bt a0 x7_1) = 46
         ·rw [if_pos c37] at H
          have c37b0 : ((bt a0 x7_1) == 46) = true := beq_iff_eq.mpr c37
          have c37b1 : ((bt a0 x7_1) != 46) = false := bne_eq_false_iff_eq.mpr c37
          clear c37
          have H' := Aside0.mk H
          clear H
          have p5 : 0 ≤ (x7_1 : Int) := of_decide_eq_true (by first | (with_reducible assumption) | assumption)
          have q5 : x7_1 < (a0.size : Int) := of_decide_eq_true (by first | (with_reducible assumption) | assumption)
          have hx5 := bt_at a0 x7_1
          replace p5 := eq_true p5
          replace q5 := eq_true q5
          go_wp2
          go_roundg k1
          case measure => have := HK1.out; omega
          case rel => exact ⟨(wrap64 (x7_1 + 1)), (by first | rfl | (simp; done) | (simp [*]; done)), H', ⟨by have := HK1.out; omega⟩, by repeat (first | exact Drawn0.refl _ | apply Drawn0.step)⟩
         ·rw [if_neg c37] at H
          have c37b0 : ((bt a0 x7_1) == 46) = false := beq_eq_false_iff_ne.mpr c37
          have c37b1 : ((bt a0 x7_1) != 46) = true := bne_iff_ne.mpr c37
          by_cases c38 : (bt a0 x7_1) = 45
          ·rw [if_pos c38] at H
           have c38b0 : ((bt a0 x7_1) == 45) = true := beq_iff_eq.mpr c38
           have c38b1 : ((bt a0 x7_1) != 45) = false := bne_eq_false_iff_eq.mpr c38
           clear c38
           have H' := Aside0.mk H
           clear H
           have p5 : 0 ≤ (x7_1 : Int) := of_decide_eq_true (by first | (with_reducible assumption) | assumption)
           have q5 : x7_1 < (a0.size : Int) := of_decide_eq_true (by first | (with_reducible assumption) | assumption)
           have hx5 := bt_at a0 x7_1
           replace p5 := eq_true p5
           replace q5 := eq_true q5
           go_wp2
           go_roundg k1
           case measure => have := HK1.out; omega
           case rel => exact ⟨(wrap64 (x7_1 + 1)), (by first | rfl | (simp; done) | (simp [*]; done)), H', ⟨by have := HK1.out; omega⟩, by repeat (first | exact Drawn0.refl _ | apply Drawn0.step)⟩
          ·rw [if_neg c38] at H
           have c38b0 : ((bt a0 x7_1) == 45) = false := beq_eq_false_iff_ne.mpr c38
           have c38b1 : ((bt a0 x7_1) != 45) = true := bne_iff_ne.mpr c38
           by_cases c39 : (bt a0 x7_1) = 95
           ·rw [if_pos c39] at H
            have c39b0 : ((bt a0 x7_1) == 95) = true := beq_iff_eq.mpr c39
            have c39b1 : ((bt a0 x7_1) != 95) = false := bne_eq_false_iff_eq.mpr c39
            clear c39
            have H' := Aside0.mk H
            clear H
            have p5 : 0 ≤ (x7_1 : Int) := of_decide_eq_true (by first | (with_reducible assumption) | assumption)
            have q5 : x7_1 < (a0.size : Int) := of_decide_eq_true (by first | (with_reducible assumption) | assumption)
            have hx5 := bt_at a0 x7_1
            replace p5 := eq_true p5
            replace q5 := eq_true q5
            go_wp2
            go_roundg k1
            case measure => have := HK1.out; omega
            case rel => exact ⟨(wrap64 (x7_1 + 1)), (by first | rfl | (simp; done) | (simp [*]; done)), H', ⟨by have := HK1.out; omega⟩, by repeat (first | exact Drawn0.refl _ | apply Drawn0.step)⟩
           ·rw [if_neg c39] at H
            have c39b0 : ((bt a0 x7_1) == 95) = false := beq_eq_false_iff_ne.mpr c39
            have c39b1 : ((bt a0 x7_1) != 95) = true := bne_iff_ne.mpr c39
            obtain rfl := Option.some.inj H
            have p5 : 0 ≤ (x7_1 : Int) := of_decide_eq_true (by first | (with_reducible assumption) | assumption)
            have q5 : x7_1 < (a0.size : Int) := of_decide_eq_true (by first | (with_reducible assumption) | assumption)
            have hx5 := bt_at a0 x7_1
            replace p5 := eq_true p5
            replace q5 := eq_true q5
            go_wp2
            go_ret
            exact ⟨by first | rfl | (simp; done) | (simp [*]; done), by repeat (first | exact Drawn0.refl _ | apply Drawn0.step)⟩
        ·rw [if_neg c36] at H
         have c36b0 : decide ((bt a0 x7_1) < 48) = false := decide_eq_false c36
         clear c36
         by_cases c40 : (bt a0 x7_1) > 57
         ·rw [if_pos c40] at H
          have c40b0 : decide (57 < (bt a0 x7_1)) = true := decide_eq_true c40
          clear c40
          by_cases c41 : (bt a0 x7_1) = 46
          ·rw [if_pos c41] at H
           have c41b0 : ((bt a0 x7_1) == 46) = true := beq_iff_eq.mpr c41
           have c41b1 : ((bt a0 x7_1) != 46) = false := bne_eq_false_iff_eq.mpr c41
           clear c41
           have H' := Aside0.mk H
           clear H
           have p5 : 0 ≤ (x7_1 : Int) := of_decide_eq_true (by first | (with_reducible assumption) | assumption)
           have q5 : x7_1 < (a0.size : Int) := of_decide_eq_true (by first | (with_reducible assumption) | assumption)
           have hx5 := bt_at a0 x7_1
           replace p5 := eq_true p5
           replace q5 := eq_true q5
           go_wp2
           go_roundg k1
           case measure => have := HK1.out; omega
           case rel => exact ⟨(wrap64 (x7_1 + 1)), (by first | rfl | (simp; done) | (simp [*]; done)), H', ⟨by have := HK1.out; omega⟩, by repeat (first | exact Drawn0.refl _ | apply Drawn0.step)⟩
          ·rw [if_neg c41] at H
           have c41b0 : ((bt a0 x7_1) == 46) = false := beq_eq_false_iff_ne.mpr c41
           have c41b1 : ((bt a0 x7_1) != 46) = true := bne_iff_ne.mpr c41
           by_cases c42 : (bt a0 x7_1) = 45
           ·rw [if_pos c42] at H
            have c42b0 : ((bt a0 x7_1) == 45) = true := beq_iff_eq.mpr c42
            have c42b1 : ((bt a0 x7_1) != 45) = false := bne_eq_false_iff_eq.mpr c42
            clear c42
            have H' := Aside0.mk H
            clear H
            have p5 : 0 ≤ (x7_1 : Int) := of_decide_eq_true (by first | (with_reducible assumption) | assumption)
            have q5 : x7_1 < (a0.size : Int) := of_decide_eq_true (by first | (with_reducible assumption) | assumption)
            have hx5 := bt_at a0 x7_1
            replace p5 := eq_true p5
            replace q5 := eq_true q5
            go_wp2
            go_roundg k1
            case measure => have := HK1.out; omega
            case rel => exact ⟨(wrap64 (x7_1 + 1)), (by first | rfl | (simp; done) | (simp [*]; done)), H', ⟨by have := HK1.out; omega⟩, by repeat (first | exact Drawn0.refl _ | apply Drawn0.step)⟩
           ·rw [if_neg c42] at H
            have c42b0 : ((bt a0 x7_1) == 45) = false := beq_eq_false_iff_ne.mpr c42
            have c42b1 : ((bt a0 x7_1) != 45) = true := bne_iff_ne.mpr c42
            by_cases c43 : (bt a0 x7_1) = 95
            ·rw [if_pos c43] at H
             have c43b0 : ((bt a0 x7_1) == 95) = true := beq_iff_eq.mpr c43
             have c43b1 : ((bt a0 x7_1) != 95) = false := bne_eq_false_iff_eq.mpr c43
             clear c43
             have H' := Aside0.mk H
             clear H
             have p5 : 0 ≤ (x7_1 : Int) := of_decide_eq_true (by first | (with_reducible assumption) | assumption)
             have q5 : x7_1 < (a0.size : Int) := of_decide_eq_true (by first | (with_reducible assumption) | assumption)
             have hx5 := bt_at a0 x7_1
             replace p5 := eq_true p5
             replace q5 := eq_true q5
             go_wp2
             go_roundg k1
             case measure => have := HK1.out; omega
             case rel => exact ⟨(wrap64 (x7_1 + 1)), (by first | rfl | (simp; done) | (simp [*]; done)), H', ⟨by have := HK1.out; omega⟩, by repeat (first | exact Drawn0.refl _ | apply Drawn0.step)⟩
            ·rw [if_neg c43] at H
             have c43b0 : ((bt a0 x7_1) == 95) = false := beq_eq_false_iff_ne.mpr c43
             have c43b1 : ((bt a0 x7_1) != 95) = true := bne_iff_ne.mpr c43
             obtain rfl := Option.some.inj H
             have p5 : 0 ≤ (x7_1 : Int) := of_decide_eq_true (by first | (with_reducible assumption) | assumption)
             have q5 : x7_1 < (a0.size : Int) := of_decide_eq_true (by first | (with_reducible assumption) | assumption)
             have hx5 := bt_at a0 x7_1
             replace p5 := eq_true p5
             replace q5 := eq_true q5
             go_wp2
             go_ret
             exact ⟨by first | rfl | (simp; done) | (simp [*]; done), by repeat (first | exact Drawn0.refl _ | apply Drawn0.step)⟩
         ·rw [if_neg c40] at H
          have c40b0 : decide (57 < (bt a0 x7_1)) = false := decide_eq_false c40
          clear c40
          have H' := Aside0.mk H
          clear H
          have p5 : 0 ≤ (x7_1 : Int) := of_decide_eq_true (by first | (with_reducible assumption) | assumption)
          have q5 : x7_1 < (a0.size : Int) := of_decide_eq_true (by first | (with_reducible assumption) | assumption)
          have hx5 := bt_at a0 x7_1
          replace p5 := eq_true p5
          replace q5 := eq_true q5
          go_wp2
          go_roundg k1
          case measure => have := HK1.out; omega
          case rel => exact ⟨(wrap64 (x7_1 + 1)), (by first | rfl | (simp; done) | (simp [*]; done)), H', ⟨by have := HK1.out; omega⟩, by repeat (first | exact Drawn0.refl _ | apply Drawn0.step)⟩
       ·rw [if_neg c35] at H
        have c35b0 : decide (90 < (bt a0 x7_1)) = false := decide_eq_false c35
        clear c35
        have H' := Aside0.mk H
        clear H
        have p5 : 0 ≤ (x7_1 : Int) := of_decide_eq_true (by first | (with_reducible assumption) | assumption)
        have q5 : x7_1 < (a0.size : Int) := of_decide_eq_true (by first | (with_reducible assumption) | assumption)
        have hx5 := bt_at a0 x7_1
        replace p5 := eq_true p5
        replace q5 := eq_true q5
        go_wp2
        go_roundg k1
        case measure => have := HK1.out; omega
        case rel => exact ⟨(wrap64 (x7_1 + 1)), (by first | rfl | (simp; done) | (simp [*]; done)), H', ⟨by have := HK1.out; omega⟩, by repeat (first | exact Drawn0.refl _ | apply Drawn0.step)⟩
     ·rw [if_neg c25] at H
      have c25b0 : decide (122 < (bt a0 x7_1)) = false := decide_eq_false c25
      clear c25
      have H' := Aside0.mk H
      clear H
      have p5 : 0 ≤ (x7_1 : Int) := of_decide_eq_true (by first | (with_reducible assumption) | assumption)
      have q5 : x7_1 < (a0.size : Int) := of_decide_eq_true (by first | (with_reducible assumption) | assumption)
      have hx5 := bt_at a0 x7_1
      replace p5 := eq_true p5
      replace q5 := eq_true q5
      go_wp2
      go_roundg k1
      case measure => have := HK1.out; omega
      case rel => exact ⟨(wrap64 (x7_1 + 1)), (by first | rfl | (simp; done) | (simp [*]; done)), H', ⟨by have := HK1.out; omega⟩, by repeat (first | exact Drawn0.refl _ | apply Drawn0.step)⟩
   ·rw [if_neg c2] at H
    have c2b0 : decide (x7_1 < (a0.size : Int)) = false := decide_eq_false c2
    clear c2
    by_cases c44 : (a0.size : Int) ≥ 1
    ·rw [if_pos c44] at H
     have c44b0 : decide (1 ≤ (a0.size : Int)) = true := decide_eq_true c44
     have c44b1 : decide (1 ≤ a0.size) = true := decide_eq_true (by omega)
     clear c44
     obtain rfl := Option.some.inj H
     go_wp2
     go_ret
     exact ⟨by first | rfl | (simp; done) | (simp [*]; done), by repeat (first | exact Drawn0.refl _ | apply Drawn0.step)⟩
    ·rw [if_neg c44] at H
     have c44b0 : decide (1 ≤ (a0.size : Int)) = false := decide_eq_false c44
     have c44b1 : decide (1 ≤ a0.size) = false := decide_eq_false (by omega)
     clear c44
     obtain rfl := Option.some.inj H
     go_wp2
     go_ret
     exact ⟨by first | rfl | (simp; done) | (simp [*]; done), by repeat (first | exact Drawn0.refl _ | apply Drawn0.step)⟩
end Go.Proofs.YtednjmngalmdkaaGreatDoor.GPC
end
section
namespace Go.Proofs.YtednjmngalmdkaaGreatDoor.GPC
open Go.RowKit Go.Proofs.YtednjmngalmdkaaGreatDoorW.PrintWords Go.Proofs.YtednjmngalmdkaaGreatDoorW.PrintLast Go.Proofs.YtednjmngalmdkaaGreatDoorW.PrintMore
attribute [local go_sem] max2_int min2_int max_two min_two max_three min_three max_four min_four   -- for this text's walks alone
set_option linter.unusedVariables false
set_option linter.unusedSimpArgs false

attribute [local go_sem] run_store_float
/-! ### spec_counted: function 164 -/
def spec_counted.l0 : Nat → Int → Int → Int → List Int → Int → Int → ByteArray → List Int → List ByteArray → Option (Bool)
 | 0, _, _, _, _, _, _, _, _, _ => none
 | k + 1, x1, x2, x3, x12, x13, x14, x259000, x259001, x259002 => if x14 < x13 then (if 0 ≤ x14 then (if x14 < (x12.length : Int) then (if 0 ≤ (wrap64 (x2 - 1)) then (if (rd x12 x14) > (IntKind.u64.wrap ((IntKind.u64.wrap ((shl .u64 1 (wrap64 (x2 - 1))) * 2)) - 1)) then (some false) else (spec_counted.l0 k x1 x2 x3 x12 x13 (wrap64 (x14 + 1)) x259000 x259001 x259002)) else (none)) else (none)) else (none)) else (if (x259001.length : Int) = x1 then (some ((x259002.length : Int) == x3)) else (some false))
def spec_counted.f (k : Nat) (a0_0 : ByteArray) (l0_1 : List Int) (l0_2 : List ByteArray) (a1 : Int) (a2 : Int) (a3 : Int) : Option (Bool) := spec_counted.l0 k a1 a2 a3 l0_1 (l0_1.length : Int) 0 a0_0 l0_1 l0_2
theorem spec_counted.mono_l : ∀ k, (∀ y0 y1 y2 y3 y4 y5 y6 y7 y8, LeO (spec_counted.l0 k y0 y1 y2 y3 y4 y5 y6 y7 y8) (spec_counted.l0 (k + 1) y0 y1 y2 y3 y4 y5 y6 y7 y8))
 | 0 => fun _ _ _ _ _ _ _ _ _ r h => by simp [spec_counted.l0] at h
 | k + 1 => by
  have ih0 := spec_counted.mono_l k
  ·intro y0 y1 y2 y3 y4 y5 y6 y7 y8
   unfold spec_counted.l0
   repeat' first
   | (with_reducible exact ih0 _ _ _ _ _ _ _ _ _)
   | (with_reducible exact LeO.refl _)
   | (with_reducible exact LeO.none _)
   | (with_reducible refine LeO.ite ?_ ?_)
   | (with_reducible refine LeO.bind ?_ (fun _ => ?_))
   | exact ih0 _ _ _ _ _ _ _ _ _
   | exact LeO.none _
   | refine LeO.ite ?_ ?_
   | refine LeO.bind ?_ (fun _ => ?_)
theorem spec_counted.mono : ∀ a0 a1 a2 a3 a4 a5 k, LeO (spec_counted.f k a0 a1 a2 a3 a4 a5) (spec_counted.f (k + 1) a0 a1 a2 a3 a4 a5) := by
 intro a0 a1 a2 a3 a4 a5 k
 have ih0 := spec_counted.mono_l k
 unfold spec_counted.f
 repeat' first
   | (with_reducible exact ih0 _ _ _ _ _ _ _ _ _)
   | (with_reducible exact LeO.refl _)
   | (with_reducible exact LeO.none _)
   | (with_reducible refine LeO.ite ?_ ?_)
   | (with_reducible refine LeO.bind ?_ (fun _ => ?_))
   | exact ih0 _ _ _ _ _ _ _ _ _
   | exact LeO.none _
   | refine LeO.ite ?_ ?_
   | refine LeO.bind ?_ (fun _ => ?_)
set_option maxHeartbeats 8000000 in
set_option maxRecDepth 100000 in
theorem spec_counted.calls (k : Nat) (a0_0 : ByteArray) (A0_1 : Option Addr) (c0_1 : Nat) (l0_1 : List Int) (A0_2 : Option Addr) (c0_2 : Nat) (l0_2 : List ByteArray) (a1 : Int) (a2 : Int) (a3 : Int) (r : Bool) (w : World) (hr0_1 : Kd.C (Kd.int .u64) w A0_1 l0_1.length l0_1) (hc0_1 : l0_1.length ≤ c0_1) (hr0_2 : Kd.C Kd.string w A0_2 l0_2.length l0_2) (hc0_2 : l0_2.length ≤ c0_2) (h : spec_counted.f k a0_0 l0_1 l0_2 a1 a2 a3 = some r) :
  Calls Tryz.prog 164 #[.agg #[.string a0_0, .slice A0_1 l0_1.length c0_1, .slice A0_2 l0_2.length c0_2], .int .i64 a1, .int .i64 a2, .int .i64 a3] w fun e w' => e = .returned (.bool r) ∧ Below w.heap.size w w' := by
 have hu31 := Tryz.underlying31
 have HR0_1 := Aside0.mk hr0_1
 have HC0_1 := Aside0.mk hc0_1
 clear hr0_1 hc0_1
 have HR0_2 := Aside0.mk hr0_2
 have HC0_2 := Aside0.mk hc0_2
 clear hr0_2 hc0_2
 have HB := Aside0.mk (Below.refl w.heap.size w)
 have H : (spec_counted.l0 k a1 a2 a3 l0_1 (l0_1.length : Int) 0 a0_0 l0_1 l0_2) = some r := h
 clear h
 have H' := Aside0.mk H
 clear H
 go_enter Tryz.func164, Tryz.ntmps164
 go_wp2_with (first | ((with_reducible refine gate_dst (N := 4) rfl ?_); (try (refine gate_guard (by rfl) ?_; dsimp only)); refine box_event ?hg (N := 4) ?hd (cs := #[.string a0_0, .slice A0_1 l0_1.length c0_1, .slice A0_2 l0_2.length c0_2]) (t := 31) ?hr ?_; (case hd => rfl); (case hg => rfl); (case hr => first | (go_simp; done) | (go_simp; rfl)); intro gb258 hg w5 hbox hb; have n0_ := Aside0.mk (below_step (by repeat (first | (with_reducible first | exact HB.out | apply below_alloc | apply pw_below_drewN | apply below_drew1) | exact HB.out)) hb); have n1_ := Aside0.mk (hbox); have n2_ := Aside0.mk ((by rw [hg]; exact (below_size (by repeat (first | (with_reducible first | exact HB.out | apply below_alloc | apply pw_below_drewN | apply below_drew1) | exact HB.out))) : w.heap.size ≤ gb258)); have n3_ := Aside0.mk ((by rw [hg]; exact (below_size (by repeat (first | (with_reducible first | exact HB.out | apply below_alloc | apply pw_below_drewN | apply below_drew1) | exact HB.out))) : w.heap.size ≤ gb258)); clear HB; have HB := n0_; have BK258 := n1_; have GW258 := n2_; have GE258 := n3_; clear n0_ n1_ n2_ n3_; clear hb hbox hg; have hcz6_0 : w5.cell? ⟨gb258, 0, none⟩ = some (.string a0_0) := (blk_cell BK258.out 0).trans rfl; have hcz6_1 : w5.cell? ⟨gb258, 1, none⟩ = some (.slice A0_1 l0_1.length c0_1) := (blk_cell BK258.out 1).trans rfl; have hcz6_2 : w5.cell? ⟨gb258, 2, none⟩ = some (.slice A0_2 l0_2.length c0_2) := (blk_cell BK258.out 2).trans rfl; have hfz6_0 := blk_frozen BK258.out 0; have hfz6_1 := blk_frozen BK258.out 1; have hfz6_2 := blk_frozen BK258.out 2))
 go_loopg [14] k (fun kq v14 w' => ∃ (x14_1 : Int), v14 = .int .i64 x14_1 ∧ Aside0 (spec_counted.l0 kq a1 a2 a3 l0_1 (l0_1.length : Int) x14_1 a0_0 l0_1 l0_2 = some r) ∧ Aside0 (kq ≤ k) ∧ Aside0 (w'.heap[gb258]? = some (.cells #[.string a0_0, (.slice A0_1 l0_1.length c0_1), (.slice A0_2 l0_2.length c0_2)] 31 (0, 0))) ∧ Aside0 (Below w.heap.size w w'))
 case atStart => exact ⟨(0), (by first | rfl | (simp; done) | (simp [*]; done)), H', ⟨Nat.le_refl _⟩, ⟨by (with_reducible repeat (first | refine blk_drewN ?_ _ | refine blk_drew ?_ | refine blk_alloc ?_ _)); exact BK258.out⟩, ⟨by repeat (first | (with_reducible first | exact HB.out | apply below_alloc | apply pw_below_drewN | apply below_drew1 | refine below_set ?_ GE258.out) | exact HB.out)⟩⟩
 case round =>
  clear H'
  try clear c1
  try clear p2
  try clear hcz6_0
  try clear hcz6_1
  try clear hcz6_2
  try clear hfz6_0
  try clear hfz6_1
  try clear hfz6_2
  obtain ⟨x14_1, rfl, HA, HK1, BK258, HB⟩ := hrel
  cases gk with
  | zero => exact absurd HA.out (by simp [spec_counted.l0])
  | succ k1 =>
   have H := HA.out
   clear HA
   simp only [spec_counted.l0] at H
   by_cases c7 : x14_1 < (l0_1.length : Int)
   ·rw [if_pos c7] at H
    have c7b0 : decide (x14_1 < (l0_1.length : Int)) = true := decide_eq_true c7
    clear c7
    replace H := guard_inv H
    obtain ⟨c8, H⟩ := H
    have c8b0 : decide (0 ≤ x14_1) = true := decide_eq_true c8
    clear c8
    replace H := guard_inv H
    obtain ⟨c9, H⟩ := H
    have c9b0 : decide (x14_1 < (l0_1.length : Int)) = true := decide_eq_true c9
    clear c9
    obtain ⟨ji10, hji10⟩ : ∃ j_ : Int, (wrap64 (a2 - 1)) = j_ := ⟨_, rfl⟩
    replace H : (if 0 ≤ (ji10) then (if (rd l0_1 x14_1) > (IntKind.u64.wrap ((IntKind.u64.wrap ((shl .u64 1 (ji10)) * 2)) - 1)) then (some false) else (spec_counted.l0 k1 a1 a2 a3 l0_1 (l0_1.length : Int) (wrap64 (x14_1 + 1)) a0_0 l0_1 l0_2)) else (none)) = some r := by first | (rw [hji10] at H; exact H) | (simp only [hji10] at H ⊢; exact H)
    have hji10w : (IntKind.i64.wrap (a2 - 1)) = ji10 := (i64_w _).trans hji10
    replace H := guard_inv H
    obtain ⟨c11, H⟩ := H
    have c11b0 := eq_true c11
    have c11b1 := decide_eq_true c11
    clear c11
    obtain ⟨ji12, hji12⟩ : ∃ j_ : Int, (shl .u64 1 (ji10)) = j_ := ⟨_, rfl⟩
    replace H : (if (rd l0_1 x14_1) > (IntKind.u64.wrap ((IntKind.u64.wrap ((ji12) * 2)) - 1)) then (some false) else (spec_counted.l0 k1 a1 a2 a3 l0_1 (l0_1.length : Int) (wrap64 (x14_1 + 1)) a0_0 l0_1 l0_2)) = some r := by first | (rw [hji12] at H; exact H) | (simp only [hji12] at H ⊢; exact H)
    have hji12_ : (IntKind.u64.wrap (1 * 2 ^ min (ji10).toNat 64)) = ji12 := hji12
    have hji12z : (ji10) ≤ 64 → (IntKind.u64.wrap (1 * 2 ^ (ji10).toNat)) = ji12 := shl_small hji12
    have hji12u : (IntKind.u64.wrap (2 ^ min (ji10).toNat 64)) = ji12 := by have h_ := hji12_; rw [Int.one_mul] at h_; exact h_
    have hji12v : (ji10) ≤ 64 → (IntKind.u64.wrap (2 ^ (ji10).toNat)) = ji12 := fun hle_ => by have h_ := hji12z hle_; rw [Int.one_mul] at h_; exact h_
    by_cases c13 : (rd l0_1 x14_1) > (IntKind.u64.wrap ((IntKind.u64.wrap ((ji12) * 2)) - 1))
    ·rw [if_pos c13] at H
     have c13b0 : decide ((IntKind.u64.wrap ((IntKind.u64.wrap ((ji12) * 2)) - 1)) < (rd l0_1 x14_1)) = true := decide_eq_true c13
     clear c13
     obtain rfl := Option.some.inj H
     have p259 : 0 ≤ (x14_1 : Int) := of_decide_eq_true (by first | (with_reducible assumption) | assumption)
     have q259 : x14_1 < (l0_1.length : Int) := of_decide_eq_true (by first | (with_reducible assumption) | assumption)
     obtain ⟨ad259, e259, hx259_0⟩ := Kd.at_int HR0_1.out x14_1 p259 q259
     cases e259
     replace hx259_0 := (HB.out.cell (World.block_lt_of_cell? w _ hx259_0)).trans hx259_0
     replace p259 := eq_true p259
     replace q259 := eq_true q259
     go_wp2
     go_ret
     exact ⟨by first | rfl | (simp [errW_none, errW_some] <;> rfl) | (simp only [← hji10, ← hji12]; first | rfl | (simp [errW_none, errW_some] <;> rfl)) | (simp [*, errW_none, errW_some] <;> rfl), by repeat (first | (with_reducible first | exact HB.out | apply below_alloc | apply pw_below_drewN | apply below_drew1 | refine below_set ?_ GE258.out) | exact HB.out)⟩
    ·rw [if_neg c13] at H
     have c13b0 : decide ((IntKind.u64.wrap ((IntKind.u64.wrap ((ji12) * 2)) - 1)) < (rd l0_1 x14_1)) = false := decide_eq_false c13
     clear c13
     have H' := Aside0.mk H
     clear H
     have p259 : 0 ≤ (x14_1 : Int) := of_decide_eq_true (by first | (with_reducible assumption) | assumption)
     have q259 : x14_1 < (l0_1.length : Int) := of_decide_eq_true (by first | (with_reducible assumption) | assumption)
     obtain ⟨ad259, e259, hx259_0⟩ := Kd.at_int HR0_1.out x14_1 p259 q259
     cases e259
     replace hx259_0 := (HB.out.cell (World.block_lt_of_cell? w _ hx259_0)).trans hx259_0
     replace p259 := eq_true p259
     replace q259 := eq_true q259
     go_wp2
     go_roundg k1
     case measure => have := HK1.out; omega
     case rel => exact ⟨(wrap64 (x14_1 + 1)), (by first | rfl | (simp; done) | (simp [*]; done)), H', ⟨by have := HK1.out; omega⟩, ⟨by (with_reducible repeat (first | refine blk_drewN ?_ _ | refine blk_drew ?_ | refine blk_alloc ?_ _)); exact BK258.out⟩, ⟨by repeat (first | (with_reducible first | exact HB.out | apply below_alloc | apply pw_below_drewN | apply below_drew1 | refine below_set ?_ GE258.out) | exact HB.out)⟩⟩
   ·rw [if_neg c7] at H
    have c7b0 : decide (x14_1 < (l0_1.length : Int)) = false := decide_eq_false c7
    clear c7
    by_cases c14 : (l0_1.length : Int) = a1
    ·rw [if_pos c14] at H
     have c14b0 : ((l0_1.length : Int) == a1) = true := beq_iff_eq.mpr c14
     have c14b1 : ((l0_1.length : Int) != a1) = false := bne_eq_false_iff_eq.mpr c14
     clear c14
     obtain rfl := Option.some.inj H
     have hcz15_0 : wr.cell? ⟨gb258, 0, none⟩ = some (.string a0_0) := (blk_cell BK258.out 0).trans rfl
     have hcz15_1 : wr.cell? ⟨gb258, 1, none⟩ = some (.slice A0_1 l0_1.length c0_1) := (blk_cell BK258.out 1).trans rfl
     have hcz15_2 : wr.cell? ⟨gb258, 2, none⟩ = some (.slice A0_2 l0_2.length c0_2) := (blk_cell BK258.out 2).trans rfl
     have hfz15_0 := blk_frozen BK258.out 0
     have hfz15_1 := blk_frozen BK258.out 1
     have hfz15_2 := blk_frozen BK258.out 2
     go_wp2
     go_ret
     exact ⟨by first | rfl | (simp [errW_none, errW_some] <;> rfl) | (simp [*, errW_none, errW_some] <;> rfl), by repeat (first | (with_reducible first | exact HB.out | apply below_alloc | apply pw_below_drewN | apply below_drew1 | refine below_set ?_ GE258.out) | exact HB.out)⟩
    ·rw [if_neg c14] at H
     have c14b0 : ((l0_1.length : Int) == a1) = false := beq_eq_false_iff_ne.mpr c14
     have c14b1 : ((l0_1.length : Int) != a1) = true := bne_iff_ne.mpr c14
     obtain rfl := Option.some.inj H
     have hcz16_0 : wr.cell? ⟨gb258, 0, none⟩ = some (.string a0_0) := (blk_cell BK258.out 0).trans rfl
     have hcz16_1 : wr.cell? ⟨gb258, 1, none⟩ = some (.slice A0_1 l0_1.length c0_1) := (blk_cell BK258.out 1).trans rfl
     have hcz16_2 : wr.cell? ⟨gb258, 2, none⟩ = some (.slice A0_2 l0_2.length c0_2) := (blk_cell BK258.out 2).trans rfl
     have hfz16_0 := blk_frozen BK258.out 0
     have hfz16_1 := blk_frozen BK258.out 1
     have hfz16_2 := blk_frozen BK258.out 2
     go_wp2
     go_ret
     exact ⟨by first | rfl | (simp [errW_none, errW_some] <;> rfl) | (simp [*, errW_none, errW_some] <;> rfl), by repeat (first | (with_reducible first | exact HB.out | apply below_alloc | apply pw_below_drewN | apply below_drew1 | refine below_set ?_ GE258.out) | exact HB.out)⟩
end Go.Proofs.YtednjmngalmdkaaGreatDoor.GPC
end
section
namespace Go.Proofs.YtednjmngalmdkaaGreatDoor.GPC
open Go.RowKit Go.Proofs.YtednjmngalmdkaaGreatDoorW.PrintWords Go.Proofs.YtednjmngalmdkaaGreatDoorW.PrintLast Go.Proofs.YtednjmngalmdkaaGreatDoorW.PrintMore
attribute [local go_sem] max2_int min2_int max_two min_two max_three min_three max_four min_four   -- for this text's walks alone
set_option linter.unusedVariables false
set_option linter.unusedSimpArgs false

attribute [local go_sem] run_store_float
/-! ### spec_routeFine: function 104 -/
def spec_routeFine.l0 : Nat → List (S31) → Int → Int → Option (Bool)
 | 0, _, _, _ => none
 | k + 1, x5, x6, x7 => if x7 < x6 then (if 0 ≤ x7 then (if x7 < (x5.length : Int) then ((spec_ifName.f k ((rd_T31 x5 x7).f0)).bind fun t567 => (if t567 = true then ((spec_counted.f k ((rd_T31 x5 x7).f0) ((rd_T31 x5 x7).f1) ((rd_T31 x5 x7).f2) 10 32 0).bind fun t568 => (if t568 = true then (if 2 < (((rd_T31 x5 x7).f1).length : Int) then (if (rd ((rd_T31 x5 x7).f1) 2) > 9 then (some false) else (spec_routeFine.l0 k x5 x6 (wrap64 (x7 + 1)))) else (none)) else (some false))) else (some false))) else (none)) else (none)) else (some true)
def spec_routeFine.f (k : Nat) (l0 : List (S31)) : Option (Bool) := spec_routeFine.l0 k l0 (l0.length : Int) 0
theorem spec_routeFine.mono_l : ∀ k, (∀ y0 y1 y2, LeO (spec_routeFine.l0 k y0 y1 y2) (spec_routeFine.l0 (k + 1) y0 y1 y2))
 | 0 => fun _ _ _ r h => by simp [spec_routeFine.l0] at h
 | k + 1 => by
  have ih0 := spec_routeFine.mono_l k
  ·intro y0 y1 y2
   unfold spec_routeFine.l0
   repeat' first
   | (with_reducible exact ih0 _ _ _)
   | (with_reducible exact spec_counted.mono _ _ _ _ _ _ _)
   | (with_reducible exact spec_ifName.mono _ _)
   | (with_reducible exact LeO.refl _)
   | (with_reducible exact LeO.none _)
   | (with_reducible refine LeO.ite ?_ ?_)
   | (with_reducible refine LeO.bind ?_ (fun _ => ?_))
   | exact ih0 _ _ _
   | exact spec_counted.mono _ _ _ _ _ _ _
   | exact spec_ifName.mono _ _
   | exact LeO.none _
   | refine LeO.ite ?_ ?_
   | refine LeO.bind ?_ (fun _ => ?_)
theorem spec_routeFine.mono : ∀ a0 k, LeO (spec_routeFine.f k a0) (spec_routeFine.f (k + 1) a0) := by
 intro a0 k
 have ih0 := spec_routeFine.mono_l k
 unfold spec_routeFine.f
 repeat' first
   | (with_reducible exact ih0 _ _ _)
   | (with_reducible exact spec_counted.mono _ _ _ _ _ _ _)
   | (with_reducible exact spec_ifName.mono _ _)
   | (with_reducible exact LeO.refl _)
   | (with_reducible exact LeO.none _)
   | (with_reducible refine LeO.ite ?_ ?_)
   | (with_reducible refine LeO.bind ?_ (fun _ => ?_))
   | exact ih0 _ _ _
   | exact spec_counted.mono _ _ _ _ _ _ _
   | exact spec_ifName.mono _ _
   | exact LeO.none _
   | refine LeO.ite ?_ ?_
   | refine LeO.bind ?_ (fun _ => ?_)
set_option maxHeartbeats 8000000 in
set_option maxRecDepth 100000 in
theorem spec_routeFine.calls (k : Nat) (A0 : Option Addr) (c0 : Nat) (l0 : List (S31)) (r : Bool) (w : World) (hr0 : Kd.C k31 w A0 l0.length l0) (hc0 : l0.length ≤ c0) (h : spec_routeFine.f k l0 = some r) :
  Calls Tryz.prog 104 #[.slice A0 l0.length c0] w fun e w' => e = .returned (.bool r) ∧ Below w.heap.size w w' := by
 have hu31 := Tryz.underlying31
 have HR0 := Aside0.mk hr0
 have HC0 := Aside0.mk hc0
 clear hr0 hc0
 have HB := Aside0.mk (Below.refl w.heap.size w)
 have H : (spec_routeFine.l0 k l0 (l0.length : Int) 0) = some r := h
 clear h
 have H' := Aside0.mk H
 clear H
 go_enter Tryz.func104, Tryz.ntmps104
 go_wp2
 go_loopg [7] k (fun kq v7 w' => ∃ (x7_1 : Int), v7 = .int .i64 x7_1 ∧ Aside0 (spec_routeFine.l0 kq l0 (l0.length : Int) x7_1 = some r) ∧ Aside0 (kq ≤ k) ∧ Aside0 (Below w.heap.size w w'))
 case atStart => exact ⟨(0), (by first | rfl | (simp; done) | (simp [*]; done)), H', ⟨Nat.le_refl _⟩, ⟨by repeat (first | (with_reducible first | exact HB.out | apply below_alloc | apply pw_below_drewN | apply below_drew1) | exact HB.out)⟩⟩
 case round =>
  clear H'
  try clear c1
  obtain ⟨x7_1, rfl, HA, HK1, HB⟩ := hrel
  cases gk with
  | zero => exact absurd HA.out (by simp [spec_routeFine.l0])
  | succ k1 =>
   have H := HA.out
   clear HA
   simp only [spec_routeFine.l0] at H
   by_cases c2 : x7_1 < (l0.length : Int)
   ·rw [if_pos c2] at H
    have c2b0 : decide (x7_1 < (l0.length : Int)) = true := decide_eq_true c2
    clear c2
    replace H := guard_inv H
    obtain ⟨c3, H⟩ := H
    have c3b0 : decide (0 ≤ x7_1) = true := decide_eq_true c3
    clear c3
    replace H := guard_inv H
    obtain ⟨c4, H⟩ := H
    have c4b0 : decide (x7_1 < (l0.length : Int)) = true := decide_eq_true c4
    clear c4
    replace H := Option.bind_eq_some_iff.mp H
    obtain ⟨t567, A50, H⟩ := H
    try dsimp -simprocs only at H
    have A5 := Aside0.mk A50
    clear A50
    by_cases c6 : t567 = true
    ·subst c6
     have H1 : ((spec_counted.f k1 ((rd_T31 l0 x7_1).f0) ((rd_T31 l0 x7_1).f1) ((rd_T31 l0 x7_1).f2) 10 32 0).bind fun t568 => (if t568 = true then (if 2 < (((rd_T31 l0 x7_1).f1).length : Int) then (if (rd ((rd_T31 l0 x7_1).f1) 2) > 9 then (some false) else (spec_routeFine.l0 k1 l0 (l0.length : Int) (wrap64 (x7_1 + 1)))) else (none)) else (some false))) = some r := by rw [if_pos rfl] at H; exact H
     clear H
     have H := H1
     clear H1
     replace H := Option.bind_eq_some_iff.mp H
     obtain ⟨t568, A70, H⟩ := H
     try dsimp -simprocs only at H
     have A7 := Aside0.mk A70
     clear A70
     by_cases c8 : t568 = true
     ·subst c8
      have H1 : (if 2 < (((rd_T31 l0 x7_1).f1).length : Int) then (if (rd ((rd_T31 l0 x7_1).f1) 2) > 9 then (some false) else (spec_routeFine.l0 k1 l0 (l0.length : Int) (wrap64 (x7_1 + 1)))) else (none)) = some r := by rw [if_pos rfl] at H; exact H
      clear H
      have H := H1
      clear H1
      replace H := guard_inv H
      obtain ⟨c9, H⟩ := H
      have c9b0 : decide (2 < (((rd_T31 l0 x7_1).f1).length : Int)) = true := decide_eq_true c9
      have c9b1 : decide (2 < ((rd_T31 l0 x7_1).f1).length) = true := decide_eq_true (by omega)
      clear c9
      by_cases c10 : (rd ((rd_T31 l0 x7_1).f1) 2) > 9
      ·rw [if_pos c10] at H
       have c10b0 : decide (9 < (rd ((rd_T31 l0 x7_1).f1) 2)) = true := decide_eq_true c10
       clear c10
       obtain rfl := Option.some.inj H
       have p565 : 0 ≤ (x7_1 : Int) := of_decide_eq_true (by first | (with_reducible assumption) | assumption)
       have q565 : x7_1 < (l0.length : Int) := of_decide_eq_true (by first | (with_reducible assumption) | assumption)
       obtain ⟨ad565, A565_1, c565_1, A565_2, c565_2, e565, hx565_0, hx565_1, hx565_2, hl565_1, hi565_1, hl565_2, hi565_2⟩ := at_T31 HR0.out x7_1 p565 q565
       cases e565
       replace hx565_0 := (HB.out.cell (World.block_lt_of_cell? w _ hx565_0)).trans hx565_0
       replace hx565_1 := (HB.out.cell (World.block_lt_of_cell? w _ hx565_1)).trans hx565_1
       replace hx565_2 := (HB.out.cell (World.block_lt_of_cell? w _ hx565_2)).trans hx565_2
       have HR565_1 := Aside0.mk hi565_1
       have HC565_1 := Aside0.mk hl565_1
       clear hi565_1 hl565_1
       have HR565_2 := Aside0.mk hi565_2
       have HC565_2 := Aside0.mk hl565_2
       clear hi565_2 hl565_2
       replace p565 := eq_true p565
       replace q565 := eq_true q565
       go_wp2_with (first | ((with_reducible refine gate_dst (N := 4) rfl ?_); refine box_event ?hg (N := 4) ?hd (cs := #[.string (⟨#[]⟩ : ByteArray), .slice none 0 0, .slice none 0 0]) (t := 31) ?hr ?_; (case hd => rfl); (case hg => rfl); (case hr => first | (go_simp; done) | (go_simp; rfl)); intro gb566 hg w11 hbox hb; have n0_ := Aside0.mk (below_step (by repeat (first | (with_reducible first | exact HB.out | apply below_alloc | apply pw_below_drewN | apply below_drew1) | exact HB.out)) hb); have n1_ := Aside0.mk (hbox); have n2_ := Aside0.mk ((by rw [hg]; exact (below_size (by repeat (first | (with_reducible first | exact HB.out | apply below_alloc | apply pw_below_drewN | apply below_drew1) | exact HB.out))) : w.heap.size ≤ gb566)); have n3_ := Aside0.mk ((by rw [hg]; exact (below_size (by repeat (first | (with_reducible first | exact HB.out | apply below_alloc | apply pw_below_drewN | apply below_drew1) | exact HB.out))) : w.heap.size ≤ gb566)); clear HB; have HB := n0_; have BK566 := n1_; have GW566 := n2_; have GE566 := n3_; clear n0_ n1_ n2_ n3_; clear hb hbox hg; have hcz12_0 : w11.cell? ⟨gb566, 0, none⟩ = some (.string (⟨#[]⟩ : ByteArray)) := (blk_cell BK566.out 0).trans rfl; have hcz12_1 : w11.cell? ⟨gb566, 1, none⟩ = some (.slice none 0 0) := (blk_cell BK566.out 1).trans rfl; have hcz12_2 : w11.cell? ⟨gb566, 2, none⟩ = some (.slice none 0 0) := (blk_cell BK566.out 2).trans rfl; have hfz12_0 := blk_frozen BK566.out 0; have hfz12_1 := blk_frozen BK566.out 1; have hfz12_2 := blk_frozen BK566.out 2) | ((with_reducible refine gate_callee (f := 170) rfl ?_); refine goesL_ (some 13) rfl rfl Tryz.func170 (by kernel_rfl) rfl #[.string ((rd_T31 l0 x7_1).f0)] rfl (by (try simp only [List.map_toArray, List.map_cons, List.map_nil]); first | done | rfl | (simp only [List.length_drop, List.length_take]; rfl)) ?_; (with_reducible refine (spec_ifName.calls k1 ((rd_T31 l0 x7_1).f0) true _ A5.out).mono ?_); rintro e w' ⟨rfl, ⟨nd, rfl⟩⟩; refine ⟨_, rfl, ?_⟩) | (go_at_call 164; (with_reducible refine (spec_counted.calls k1 ((rd_T31 l0 x7_1).f0) _ _ ((rd_T31 l0 x7_1).f1) _ _ ((rd_T31 l0 x7_1).f2) 10 32 0 true _ ?side1 ?side2 ?side3 ?side4 A7.out).mono ?_); (case side1 => exact Kd.C_below HR565_1.out (by repeat (first | (with_reducible first | exact HB.out | apply below_alloc | apply pw_below_drewN | apply below_drew1 | refine below_set ?_ GE566.out) | exact HB.out))); (case side2 => exact HC565_1.out); (case side3 => exact Kd.C_below HR565_2.out (by repeat (first | (with_reducible first | exact HB.out | apply below_alloc | apply pw_below_drewN | apply below_drew1 | refine below_set ?_ GE566.out) | exact HB.out))); (case side4 => exact HC565_2.out); rintro e w13 ⟨rfl, hb⟩; have n0_ := Aside0.mk (blk_below (g := gb566) (o := .cells #[.string ((rd_T31 l0 x7_1).f0), .slice A565_1 ((rd_T31 l0 x7_1).f1).length c565_1, .slice A565_2 ((rd_T31 l0 x7_1).f2).length c565_2] 31 (0, 0)) (by (with_reducible repeat (first | refine blk_drewN ?_ _ | refine blk_drew ?_ | refine blk_alloc ?_ _)); refine blk_put (cs := #[.string ((rd_T31 l0 x7_1).f0), .slice A565_1 ((rd_T31 l0 x7_1).f1).length c565_1, .slice none 0 0]) ?_ 2 _ rfl; (with_reducible repeat (first | refine blk_drewN ?_ _ | refine blk_drew ?_ | refine blk_alloc ?_ _)); refine blk_put (cs := #[.string ((rd_T31 l0 x7_1).f0), .slice none 0 0, .slice none 0 0]) ?_ 1 _ rfl; (with_reducible repeat (first | refine blk_drewN ?_ _ | refine blk_drew ?_ | refine blk_alloc ?_ _)); refine blk_put (cs := #[.string (⟨#[]⟩ : ByteArray), .slice none 0 0, .slice none 0 0]) ?_ 0 _ rfl; (with_reducible repeat (first | refine blk_drewN ?_ _ | refine blk_drew ?_ | refine blk_alloc ?_ _)); exact BK566.out) hb); have n1_ := Aside0.mk (below_step (by repeat (first | (with_reducible first | exact HB.out | apply below_alloc | apply pw_below_drewN | apply below_drew1 | refine below_set ?_ GE566.out) | exact HB.out)) hb); clear BK566; clear HB; have BK566 := n0_; have HB := n1_; clear n0_ n1_; (try clear hb); (try clear hb2); (try clear hk); (try clear hi); have hcz14_0 : w13.cell? ⟨gb566, 0, none⟩ = some (.string ((rd_T31 l0 x7_1).f0)) := (blk_cell BK566.out 0).trans rfl; have hcz14_1 : w13.cell? ⟨gb566, 1, none⟩ = some (.slice A565_1 ((rd_T31 l0 x7_1).f1).length c565_1) := (blk_cell BK566.out 1).trans rfl; have hcz14_2 : w13.cell? ⟨gb566, 2, none⟩ = some (.slice A565_2 ((rd_T31 l0 x7_1).f2).length c565_2) := (blk_cell BK566.out 2).trans rfl; have hfz14_0 := blk_frozen BK566.out 0; have hfz14_1 := blk_frozen BK566.out 1; have hfz14_2 := blk_frozen BK566.out 2; have p569 : 0 ≤ (2 : Int) := (by omega); have q569 : 2 < (((rd_T31 l0 x7_1).f1).length : Int) := of_decide_eq_true (by first | (with_reducible assumption) | assumption); obtain ⟨ad569, e569, hx569_0⟩ := Kd.at_int HR565_1.out 2 p569 q569; cases e569; (try simp only [show (2 : Int).toNat = 2 from rfl, Nat.reduceMul, Nat.reduceEqDiff, Go.Addr.add, ↓reduceIte] at hx569_0); have qi569 : (2 < ((rd_T31 l0 x7_1).f1).length) = True := eq_true (by omega); (try rw [show ((2 : Int)).toNat = 2 from rfl] at hx569_0); replace hx569_0 := (HB.out.cell (World.block_lt_of_cell? w _ hx569_0)).trans hx569_0; replace p569 := eq_true p569; replace q569 := eq_true q569))
       go_ret
       exact ⟨by first | rfl | (simp [errW_none, errW_some] <;> rfl) | (simp [*, errW_none, errW_some] <;> rfl), by repeat (first | (with_reducible first | exact HB.out | apply below_alloc | apply pw_below_drewN | apply below_drew1 | refine below_set ?_ GE566.out) | exact HB.out)⟩
      ·rw [if_neg c10] at H
       have c10b0 : decide (9 < (rd ((rd_T31 l0 x7_1).f1) 2)) = false := decide_eq_false c10
       clear c10
       have H' := Aside0.mk H
       clear H
       have p565 : 0 ≤ (x7_1 : Int) := of_decide_eq_true (by first | (with_reducible assumption) | assumption)
       have q565 : x7_1 < (l0.length : Int) := of_decide_eq_true (by first | (with_reducible assumption) | assumption)
       obtain ⟨ad565, A565_1, c565_1, A565_2, c565_2, e565, hx565_0, hx565_1, hx565_2, hl565_1, hi565_1, hl565_2, hi565_2⟩ := at_T31 HR0.out x7_1 p565 q565
       cases e565
       replace hx565_0 := (HB.out.cell (World.block_lt_of_cell? w _ hx565_0)).trans hx565_0
       replace hx565_1 := (HB.out.cell (World.block_lt_of_cell? w _ hx565_1)).trans hx565_1
       replace hx565_2 := (HB.out.cell (World.block_lt_of_cell? w _ hx565_2)).trans hx565_2
       have HR565_1 := Aside0.mk hi565_1
       have HC565_1 := Aside0.mk hl565_1
       clear hi565_1 hl565_1
       have HR565_2 := Aside0.mk hi565_2
       have HC565_2 := Aside0.mk hl565_2
       clear hi565_2 hl565_2
       replace p565 := eq_true p565
       replace q565 := eq_true q565
       go_wp2_with (first | ((with_reducible refine gate_dst (N := 4) rfl ?_); refine box_event ?hg (N := 4) ?hd (cs := #[.string (⟨#[]⟩ : ByteArray), .slice none 0 0, .slice none 0 0]) (t := 31) ?hr ?_; (case hd => rfl); (case hg => rfl); (case hr => first | (go_simp; done) | (go_simp; rfl)); intro gb566 hg w15 hbox hb; have n0_ := Aside0.mk (below_step (by repeat (first | (with_reducible first | exact HB.out | apply below_alloc | apply pw_below_drewN | apply below_drew1) | exact HB.out)) hb); have n1_ := Aside0.mk (hbox); have n2_ := Aside0.mk ((by rw [hg]; exact (below_size (by repeat (first | (with_reducible first | exact HB.out | apply below_alloc | apply pw_below_drewN | apply below_drew1) | exact HB.out))) : w.heap.size ≤ gb566)); have n3_ := Aside0.mk ((by rw [hg]; exact (below_size (by repeat (first | (with_reducible first | exact HB.out | apply below_alloc | apply pw_below_drewN | apply below_drew1) | exact HB.out))) : w.heap.size ≤ gb566)); clear HB; have HB := n0_; have BK566 := n1_; have GW566 := n2_; have GE566 := n3_; clear n0_ n1_ n2_ n3_; clear hb hbox hg; have hcz16_0 : w15.cell? ⟨gb566, 0, none⟩ = some (.string (⟨#[]⟩ : ByteArray)) := (blk_cell BK566.out 0).trans rfl; have hcz16_1 : w15.cell? ⟨gb566, 1, none⟩ = some (.slice none 0 0) := (blk_cell BK566.out 1).trans rfl; have hcz16_2 : w15.cell? ⟨gb566, 2, none⟩ = some (.slice none 0 0) := (blk_cell BK566.out 2).trans rfl; have hfz16_0 := blk_frozen BK566.out 0; have hfz16_1 := blk_frozen BK566.out 1; have hfz16_2 := blk_frozen BK566.out 2) | ((with_reducible refine gate_callee (f := 170) rfl ?_); refine goesL_ (some 13) rfl rfl Tryz.func170 (by kernel_rfl) rfl #[.string ((rd_T31 l0 x7_1).f0)] rfl (by (try simp only [List.map_toArray, List.map_cons, List.map_nil]); first | done | rfl | (simp only [List.length_drop, List.length_take]; rfl)) ?_; (with_reducible refine (spec_ifName.calls k1 ((rd_T31 l0 x7_1).f0) true _ A5.out).mono ?_); rintro e w' ⟨rfl, ⟨nd, rfl⟩⟩; refine ⟨_, rfl, ?_⟩) | (go_at_call 164; (with_reducible refine (spec_counted.calls k1 ((rd_T31 l0 x7_1).f0) _ _ ((rd_T31 l0 x7_1).f1) _ _ ((rd_T31 l0 x7_1).f2) 10 32 0 true _ ?side1 ?side2 ?side3 ?side4 A7.out).mono ?_); (case side1 => exact Kd.C_below HR565_1.out (by repeat (first | (with_reducible first | exact HB.out | apply below_alloc | apply pw_below_drewN | apply below_drew1 | refine below_set ?_ GE566.out) | exact HB.out))); (case side2 => exact HC565_1.out); (case side3 => exact Kd.C_below HR565_2.out (by repeat (first | (with_reducible first | exact HB.out | apply below_alloc | apply pw_below_drewN | apply below_drew1 | refine below_set ?_ GE566.out) | exact HB.out))); (case side4 => exact HC565_2.out); rintro e w17 ⟨rfl, hb⟩; have n0_ := Aside0.mk (blk_below (g := gb566) (o := .cells #[.string ((rd_T31 l0 x7_1).f0), .slice A565_1 ((rd_T31 l0 x7_1).f1).length c565_1, .slice A565_2 ((rd_T31 l0 x7_1).f2).length c565_2] 31 (0, 0)) (by (with_reducible repeat (first | refine blk_drewN ?_ _ | refine blk_drew ?_ | refine blk_alloc ?_ _)); refine blk_put (cs := #[.string ((rd_T31 l0 x7_1).f0), .slice A565_1 ((rd_T31 l0 x7_1).f1).length c565_1, .slice none 0 0]) ?_ 2 _ rfl; (with_reducible repeat (first | refine blk_drewN ?_ _ | refine blk_drew ?_ | refine blk_alloc ?_ _)); refine blk_put (cs := #[.string ((rd_T31 l0 x7_1).f0), .slice none 0 0, .slice none 0 0]) ?_ 1 _ rfl; (with_reducible repeat (first | refine blk_drewN ?_ _ | refine blk_drew ?_ | refine blk_alloc ?_ _)); refine blk_put (cs := #[.string (⟨#[]⟩ : ByteArray), .slice none 0 0, .slice none 0 0]) ?_ 0 _ rfl; (with_reducible repeat (first | refine blk_drewN ?_ _ | refine blk_drew ?_ | refine blk_alloc ?_ _)); exact BK566.out) hb); have n1_ := Aside0.mk (below_step (by repeat (first | (with_reducible first | exact HB.out | apply below_alloc | apply pw_below_drewN | apply below_drew1 | refine below_set ?_ GE566.out) | exact HB.out)) hb); clear BK566; clear HB; have BK566 := n0_; have HB := n1_; clear n0_ n1_; (try clear hb); (try clear hb2); (try clear hk); (try clear hi); have hcz18_0 : w17.cell? ⟨gb566, 0, none⟩ = some (.string ((rd_T31 l0 x7_1).f0)) := (blk_cell BK566.out 0).trans rfl; have hcz18_1 : w17.cell? ⟨gb566, 1, none⟩ = some (.slice A565_1 ((rd_T31 l0 x7_1).f1).length c565_1) := (blk_cell BK566.out 1).trans rfl; have hcz18_2 : w17.cell? ⟨gb566, 2, none⟩ = some (.slice A565_2 ((rd_T31 l0 x7_1).f2).length c565_2) := (blk_cell BK566.out 2).trans rfl; have hfz18_0 := blk_frozen BK566.out 0; have hfz18_1 := blk_frozen BK566.out 1; have hfz18_2 := blk_frozen BK566.out 2; have p569 : 0 ≤ (2 : Int) := (by omega); have q569 : 2 < (((rd_T31 l0 x7_1).f1).length : Int) := of_decide_eq_true (by first | (with_reducible assumption) | assumption); obtain ⟨ad569, e569, hx569_0⟩ := Kd.at_int HR565_1.out 2 p569 q569; cases e569; (try simp only [show (2 : Int).toNat = 2 from rfl, Nat.reduceMul, Nat.reduceEqDiff, Go.Addr.add, ↓reduceIte] at hx569_0); have qi569 : (2 < ((rd_T31 l0 x7_1).f1).length) = True := eq_true (by omega); (try rw [show ((2 : Int)).toNat = 2 from rfl] at hx569_0); replace hx569_0 := (HB.out.cell (World.block_lt_of_cell? w _ hx569_0)).trans hx569_0; replace p569 := eq_true p569; replace q569 := eq_true q569))
       go_roundg k1
       case measure => have := HK1.out; omega
       case rel => exact ⟨(wrap64 (x7_1 + 1)), (by first | rfl | (simp; done) | (simp [*]; done)), H', ⟨by have := HK1.out; omega⟩, ⟨by repeat (first | (with_reducible first | exact HB.out | apply below_alloc | apply pw_below_drewN | apply below_drew1 | refine below_set ?_ GE566.out) | exact HB.out)⟩⟩
     ·replace c8 := Bool.eq_false_iff.mpr c8
      subst c8
      have H1 : (some false) = some r := by rw [if_neg (show ¬ (false = true) by decide)] at H; exact H
      clear H
      have H := H1
      clear H1
      obtain rfl := Option.some.inj H
      have p565 : 0 ≤ (x7_1 : Int) := of_decide_eq_true (by first | (with_reducible assumption) | assumption)
      have q565 : x7_1 < (l0.length : Int) := of_decide_eq_true (by first | (with_reducible assumption) | assumption)
      obtain ⟨ad565, A565_1, c565_1, A565_2, c565_2, e565, hx565_0, hx565_1, hx565_2, hl565_1, hi565_1, hl565_2, hi565_2⟩ := at_T31 HR0.out x7_1 p565 q565
      cases e565
      replace hx565_0 := (HB.out.cell (World.block_lt_of_cell? w _ hx565_0)).trans hx565_0
      replace hx565_1 := (HB.out.cell (World.block_lt_of_cell? w _ hx565_1)).trans hx565_1
      replace hx565_2 := (HB.out.cell (World.block_lt_of_cell? w _ hx565_2)).trans hx565_2
      have HR565_1 := Aside0.mk hi565_1
      have HC565_1 := Aside0.mk hl565_1
      clear hi565_1 hl565_1
      have HR565_2 := Aside0.mk hi565_2
      have HC565_2 := Aside0.mk hl565_2
      clear hi565_2 hl565_2
      replace p565 := eq_true p565
      replace q565 := eq_true q565
      go_wp2_with (first | ((with_reducible refine gate_dst (N := 4) rfl ?_); refine box_event ?hg (N := 4) ?hd (cs := #[.string (⟨#[]⟩ : ByteArray), .slice none 0 0, .slice none 0 0]) (t := 31) ?hr ?_; (case hd => rfl); (case hg => rfl); (case hr => first | (go_simp; done) | (go_simp; rfl)); intro gb566 hg w19 hbox hb; have n0_ := Aside0.mk (below_step (by repeat (first | (with_reducible first | exact HB.out | apply below_alloc | apply pw_below_drewN | apply below_drew1) | exact HB.out)) hb); have n1_ := Aside0.mk (hbox); have n2_ := Aside0.mk ((by rw [hg]; exact (below_size (by repeat (first | (with_reducible first | exact HB.out | apply below_alloc | apply pw_below_drewN | apply below_drew1) | exact HB.out))) : w.heap.size ≤ gb566)); have n3_ := Aside0.mk ((by rw [hg]; exact (below_size (by repeat (first | (with_reducible first | exact HB.out | apply below_alloc | apply pw_below_drewN | apply below_drew1) | exact HB.out))) : w.heap.size ≤ gb566)); clear HB; have HB := n0_; have BK566 := n1_; have GW566 := n2_; have GE566 := n3_; clear n0_ n1_ n2_ n3_; clear hb hbox hg; have hcz20_0 : w19.cell? ⟨gb566, 0, none⟩ = some (.string (⟨#[]⟩ : ByteArray)) := (blk_cell BK566.out 0).trans rfl; have hcz20_1 : w19.cell? ⟨gb566, 1, none⟩ = some (.slice none 0 0) := (blk_cell BK566.out 1).trans rfl; have hcz20_2 : w19.cell? ⟨gb566, 2, none⟩ = some (.slice none 0 0) := (blk_cell BK566.out 2).trans rfl; have hfz20_0 := blk_frozen BK566.out 0; have hfz20_1 := blk_frozen BK566.out 1; have hfz20_2 := blk_frozen BK566.out 2) | ((with_reducible refine gate_callee (f := 170) rfl ?_); refine goesL_ (some 13) rfl rfl Tryz.func170 (by kernel_rfl) rfl #[.string ((rd_T31 l0 x7_1).f0)] rfl (by (try simp only [List.map_toArray, List.map_cons, List.map_nil]); first | done | rfl | (simp only [List.length_drop, List.length_take]; rfl)) ?_; (with_reducible refine (spec_ifName.calls k1 ((rd_T31 l0 x7_1).f0) true _ A5.out).mono ?_); rintro e w' ⟨rfl, ⟨nd, rfl⟩⟩; refine ⟨_, rfl, ?_⟩) | (go_at_call 164; (with_reducible refine (spec_counted.calls k1 ((rd_T31 l0 x7_1).f0) _ _ ((rd_T31 l0 x7_1).f1) _ _ ((rd_T31 l0 x7_1).f2) 10 32 0 false _ ?side1 ?side2 ?side3 ?side4 A7.out).mono ?_); (case side1 => exact Kd.C_below HR565_1.out (by repeat (first | (with_reducible first | exact HB.out | apply below_alloc | apply pw_below_drewN | apply below_drew1 | refine below_set ?_ GE566.out) | exact HB.out))); (case side2 => exact HC565_1.out); (case side3 => exact Kd.C_below HR565_2.out (by repeat (first | (with_reducible first | exact HB.out | apply below_alloc | apply pw_below_drewN | apply below_drew1 | refine below_set ?_ GE566.out) | exact HB.out))); (case side4 => exact HC565_2.out); rintro e w21 ⟨rfl, hb⟩; have n0_ := Aside0.mk (blk_below (g := gb566) (o := .cells #[.string ((rd_T31 l0 x7_1).f0), .slice A565_1 ((rd_T31 l0 x7_1).f1).length c565_1, .slice A565_2 ((rd_T31 l0 x7_1).f2).length c565_2] 31 (0, 0)) (by (with_reducible repeat (first | refine blk_drewN ?_ _ | refine blk_drew ?_ | refine blk_alloc ?_ _)); refine blk_put (cs := #[.string ((rd_T31 l0 x7_1).f0), .slice A565_1 ((rd_T31 l0 x7_1).f1).length c565_1, .slice none 0 0]) ?_ 2 _ rfl; (with_reducible repeat (first | refine blk_drewN ?_ _ | refine blk_drew ?_ | refine blk_alloc ?_ _)); refine blk_put (cs := #[.string ((rd_T31 l0 x7_1).f0), .slice none 0 0, .slice none 0 0]) ?_ 1 _ rfl; (with_reducible repeat (first | refine blk_drewN ?_ _ | refine blk_drew ?_ | refine blk_alloc ?_ _)); refine blk_put (cs := #[.string (⟨#[]⟩ : ByteArray), .slice none 0 0, .slice none 0 0]) ?_ 0 _ rfl; (with_reducible repeat (first | refine blk_drewN ?_ _ | refine blk_drew ?_ | refine blk_alloc ?_ _)); exact BK566.out) hb); have n1_ := Aside0.mk (below_step (by repeat (first | (with_reducible first | exact HB.out | apply below_alloc | apply pw_below_drewN | apply below_drew1 | refine below_set ?_ GE566.out) | exact HB.out)) hb); clear BK566; clear HB; have BK566 := n0_; have HB := n1_; clear n0_ n1_; (try clear hb); (try clear hb2); (try clear hk); (try clear hi)))
      go_ret
      exact ⟨by first | rfl | (simp [errW_none, errW_some] <;> rfl) | (simp [*, errW_none, errW_some] <;> rfl), by repeat (first | (with_reducible first | exact HB.out | apply below_alloc | apply pw_below_drewN | apply below_drew1 | refine below_set ?_ GE566.out) | exact HB.out)⟩
    ·replace c6 := Bool.eq_false_iff.mpr c6
     subst c6
     have H1 : (some false) = some r := by rw [if_neg (show ¬ (false = true) by decide)] at H; exact H
     clear H
     have H := H1
     clear H1
     obtain rfl := Option.some.inj H
     have p565 : 0 ≤ (x7_1 : Int) := of_decide_eq_true (by first | (with_reducible assumption) | assumption)
     have q565 : x7_1 < (l0.length : Int) := of_decide_eq_true (by first | (with_reducible assumption) | assumption)
     obtain ⟨ad565, A565_1, c565_1, A565_2, c565_2, e565, hx565_0, hx565_1, hx565_2, hl565_1, hi565_1, hl565_2, hi565_2⟩ := at_T31 HR0.out x7_1 p565 q565
     cases e565
     replace hx565_0 := (HB.out.cell (World.block_lt_of_cell? w _ hx565_0)).trans hx565_0
     replace hx565_1 := (HB.out.cell (World.block_lt_of_cell? w _ hx565_1)).trans hx565_1
     replace hx565_2 := (HB.out.cell (World.block_lt_of_cell? w _ hx565_2)).trans hx565_2
     have HR565_1 := Aside0.mk hi565_1
     have HC565_1 := Aside0.mk hl565_1
     clear hi565_1 hl565_1
     have HR565_2 := Aside0.mk hi565_2
     have HC565_2 := Aside0.mk hl565_2
     clear hi565_2 hl565_2
     replace p565 := eq_true p565
     replace q565 := eq_true q565
     go_wp2_with (first | ((with_reducible refine gate_dst (N := 4) rfl ?_); refine box_event ?hg (N := 4) ?hd (cs := #[.string (⟨#[]⟩ : ByteArray), .slice none 0 0, .slice none 0 0]) (t := 31) ?hr ?_; (case hd => rfl); (case hg => rfl); (case hr => first | (go_simp; done) | (go_simp; rfl)); intro gb566 hg w22 hbox hb; have n0_ := Aside0.mk (below_step (by repeat (first | (with_reducible first | exact HB.out | apply below_alloc | apply pw_below_drewN | apply below_drew1) | exact HB.out)) hb); have n1_ := Aside0.mk (hbox); have n2_ := Aside0.mk ((by rw [hg]; exact (below_size (by repeat (first | (with_reducible first | exact HB.out | apply below_alloc | apply pw_below_drewN | apply below_drew1) | exact HB.out))) : w.heap.size ≤ gb566)); have n3_ := Aside0.mk ((by rw [hg]; exact (below_size (by repeat (first | (with_reducible first | exact HB.out | apply below_alloc | apply pw_below_drewN | apply below_drew1) | exact HB.out))) : w.heap.size ≤ gb566)); clear HB; have HB := n0_; have BK566 := n1_; have GW566 := n2_; have GE566 := n3_; clear n0_ n1_ n2_ n3_; clear hb hbox hg; have hcz23_0 : w22.cell? ⟨gb566, 0, none⟩ = some (.string (⟨#[]⟩ : ByteArray)) := (blk_cell BK566.out 0).trans rfl; have hcz23_1 : w22.cell? ⟨gb566, 1, none⟩ = some (.slice none 0 0) := (blk_cell BK566.out 1).trans rfl; have hcz23_2 : w22.cell? ⟨gb566, 2, none⟩ = some (.slice none 0 0) := (blk_cell BK566.out 2).trans rfl; have hfz23_0 := blk_frozen BK566.out 0; have hfz23_1 := blk_frozen BK566.out 1; have hfz23_2 := blk_frozen BK566.out 2) | ((with_reducible refine gate_callee (f := 170) rfl ?_); refine goesL_ (some 13) rfl rfl Tryz.func170 (by kernel_rfl) rfl #[.string ((rd_T31 l0 x7_1).f0)] rfl (by (try simp only [List.map_toArray, List.map_cons, List.map_nil]); first | done | rfl | (simp only [List.length_drop, List.length_take]; rfl)) ?_; (with_reducible refine (spec_ifName.calls k1 ((rd_T31 l0 x7_1).f0) false _ A5.out).mono ?_); rintro e w' ⟨rfl, ⟨nd, rfl⟩⟩; refine ⟨_, rfl, ?_⟩))
     go_ret
     exact ⟨by first | rfl | (simp [errW_none, errW_some] <;> rfl) | (simp [*, errW_none, errW_some] <;> rfl), by repeat (first | (with_reducible first | exact HB.out | apply below_alloc | apply pw_below_drewN | apply below_drew1 | refine below_set ?_ GE566.out) | exact HB.out)⟩
   ·rw [if_neg c2] at H
    have c2b0 : decide (x7_1 < (l0.length : Int)) = false := decide_eq_false c2
    clear c2
    obtain rfl := Option.some.inj H
    go_wp2
    go_ret
    exact ⟨by first | rfl | (simp [errW_none, errW_some] <;> rfl) | (simp [*, errW_none, errW_some] <;> rfl), by repeat (first | (with_reducible first | exact HB.out | apply below_alloc | apply pw_below_drewN | apply below_drew1) | exact HB.out)⟩
/-! ### spec_Left: function 106 -/
def spec_Left.l0 : Nat → ByteArray → Int → Option (ByteArray)
 | 0, _, _ => none
 | k + 1, x0, x1 => if (x0.size : Int) < x1 then (if x0.size + 1 ≤ 9223372036854775807 then (spec_Left.l0 k (x0 ++ (⟨#[32]⟩ : ByteArray)) x1) else (none)) else (some x0)
def spec_Left.f (k : Nat) (a0 : ByteArray) (a1 : Int) : Option (ByteArray) := spec_Left.l0 k a0 a1
theorem spec_Left.mono_l : ∀ k, (∀ y0 y1, LeO (spec_Left.l0 k y0 y1) (spec_Left.l0 (k + 1) y0 y1))
 | 0 => fun _ _ r h => by simp [spec_Left.l0] at h
 | k + 1 => by
  have ih0 := spec_Left.mono_l k
  ·intro y0 y1
   unfold spec_Left.l0
   repeat' first
   | (with_reducible exact ih0 _ _)
   | (with_reducible exact LeO.refl _)
   | (with_reducible exact LeO.none _)
   | (with_reducible refine LeO.ite ?_ ?_)
   | (with_reducible refine LeO.bind ?_ (fun _ => ?_))
   | exact ih0 _ _
   | exact LeO.none _
   | refine LeO.ite ?_ ?_
   | refine LeO.bind ?_ (fun _ => ?_)
theorem spec_Left.mono : ∀ a0 a1 k, LeO (spec_Left.f k a0 a1) (spec_Left.f (k + 1) a0 a1) := by
 intro a0 a1 k
 have ih0 := spec_Left.mono_l k
 unfold spec_Left.f
 repeat' first
   | (with_reducible exact ih0 _ _)
   | (with_reducible exact LeO.refl _)
   | (with_reducible exact LeO.none _)
   | (with_reducible refine LeO.ite ?_ ?_)
   | (with_reducible refine LeO.bind ?_ (fun _ => ?_))
   | exact ih0 _ _
   | exact LeO.none _
   | refine LeO.ite ?_ ?_
   | refine LeO.bind ?_ (fun _ => ?_)
set_option maxHeartbeats 8000000 in
set_option maxRecDepth 100000 in
theorem spec_Left.calls (k : Nat) (a0 : ByteArray) (a1 : Int) (r : ByteArray) (w : World) (h : spec_Left.f k a0 a1 = some r) :
  Calls Tryz.prog 106 #[.string a0, .int .i64 a1] w fun e w' => e = .returned (.string r) ∧ Drawn0 w w' := by
 have H : (spec_Left.l0 k a0 a1) = some r := h
 clear h
 have H' := Aside0.mk H
 clear H
 go_enter Tryz.func106, Tryz.ntmps106
 go_wp2
 go_loopg [0] k (fun kq v0 w' => ∃ (x0_1 : ByteArray), v0 = .string x0_1 ∧ Aside0 (spec_Left.l0 kq x0_1 a1 = some r) ∧ Aside0 (kq ≤ k) ∧ Drawn0 w w')
 case atStart => exact ⟨(a0), (by first | rfl | (simp; done) | (simp [*]; done)), H', ⟨Nat.le_refl _⟩, by repeat (first | exact Drawn0.refl _ | apply Drawn0.step)⟩
 case round =>
  clear H'
  try clear c1
  try clear p2
  obtain ⟨x0_1, rfl, HA, HK1, ⟨m1, rfl⟩⟩ := hrel
  cases gk with
  | zero => exact absurd HA.out (by simp [spec_Left.l0])
  | succ k1 =>
   have H := HA.out
   clear HA
   simp only [spec_Left.l0] at H
   by_cases c3 : (x0_1.size : Int) < a1
   ·rw [if_pos c3] at H
    have c3b0 : decide ((x0_1.size : Int) < a1) = true := decide_eq_true c3
    clear c3
    replace H := guard_inv H
    obtain ⟨c4, H⟩ := H
    have c4b0 := eq_true c4
    have c4b1 := decide_eq_true c4
    try have c4b2 := eq_false (Nat.not_lt.2 c4)
    have H' := Aside0.mk H
    clear H
    go_wp2
    go_roundg k1
    case measure => have := HK1.out; omega
    case rel => exact ⟨(x0_1 ++ (⟨#[32]⟩ : ByteArray)), (by first | rfl | (simp; done) | (simp [*]; done)), H', ⟨by have := HK1.out; omega⟩, by repeat (first | exact Drawn0.refl _ | apply Drawn0.step)⟩
   ·rw [if_neg c3] at H
    have c3b0 : decide ((x0_1.size : Int) < a1) = false := decide_eq_false c3
    clear c3
    obtain rfl := Option.some.inj H
    go_wp2
    go_ret
    exact ⟨by first | rfl | (simp; done) | (simp [*]; done), by repeat (first | exact Drawn0.refl _ | apply Drawn0.step)⟩
end Go.Proofs.YtednjmngalmdkaaGreatDoor.GPC
end
section
namespace Go.Proofs.YtednjmngalmdkaaGreatDoor.GPC
open Go.RowKit Go.Proofs.YtednjmngalmdkaaGreatDoorW.PrintWords Go.Proofs.YtednjmngalmdkaaGreatDoorW.PrintLast Go.Proofs.YtednjmngalmdkaaGreatDoorW.PrintMore
attribute [local go_sem] max2_int min2_int max_two min_two max_three min_three max_four min_four   -- for this text's walks alone
set_option linter.unusedVariables false
set_option linter.unusedSimpArgs false

attribute [local go_sem] run_store_float
/-! ### spec_routeNames: function 107 -/
def spec_routeNames.f  : Option (List ByteArray) := some (([(⟨#[73, 102, 97, 99, 101]⟩ : ByteArray), (⟨#[68, 101, 115, 116, 105, 110, 97, 116, 105, 111, 110]⟩ : ByteArray), (⟨#[71, 97, 116, 101, 119, 97, 121]⟩ : ByteArray), (⟨#[70, 108, 97, 103, 115]⟩ : ByteArray), (⟨#[82, 101, 102, 67, 110, 116]⟩ : ByteArray), (⟨#[85, 115, 101]⟩ : ByteArray), (⟨#[77, 101, 116, 114, 105, 99]⟩ : ByteArray), (⟨#[77, 97, 115, 107]⟩ : ByteArray), (⟨#[77, 84, 85]⟩ : ByteArray), (⟨#[87, 105, 110, 100, 111, 119]⟩ : ByteArray), (⟨#[73, 82, 84, 84]⟩ : ByteArray)] : List ByteArray))
set_option maxHeartbeats 8000000 in
set_option maxRecDepth 100000 in
theorem spec_routeNames.calls  (r : List ByteArray) (w : World) (h : spec_routeNames.f  = some r) :
  Calls Tryz.prog 107 #[] w fun e w' => ∃ v0_ : Value, e = .returned (v0_) ∧ Kd.R Kd.string 9 w' w.heap.size (fun _ => True) v0_ r ∧ Below w.heap.size w w' := by
 have HB := Aside0.mk (Below.refl w.heap.size w)
 have H : (some (([(⟨#[73, 102, 97, 99, 101]⟩ : ByteArray), (⟨#[68, 101, 115, 116, 105, 110, 97, 116, 105, 111, 110]⟩ : ByteArray), (⟨#[71, 97, 116, 101, 119, 97, 121]⟩ : ByteArray), (⟨#[70, 108, 97, 103, 115]⟩ : ByteArray), (⟨#[82, 101, 102, 67, 110, 116]⟩ : ByteArray), (⟨#[85, 115, 101]⟩ : ByteArray), (⟨#[77, 101, 116, 114, 105, 99]⟩ : ByteArray), (⟨#[77, 97, 115, 107]⟩ : ByteArray), (⟨#[77, 84, 85]⟩ : ByteArray), (⟨#[87, 105, 110, 100, 111, 119]⟩ : ByteArray), (⟨#[73, 82, 84, 84]⟩ : ByteArray)] : List ByteArray))) = some r := h
 clear h
 obtain ⟨y594, hy594⟩ : ∃ y_ : List ByteArray, y_ = (([(⟨#[73, 102, 97, 99, 101]⟩ : ByteArray), (⟨#[68, 101, 115, 116, 105, 110, 97, 116, 105, 111, 110]⟩ : ByteArray), (⟨#[71, 97, 116, 101, 119, 97, 121]⟩ : ByteArray), (⟨#[70, 108, 97, 103, 115]⟩ : ByteArray), (⟨#[82, 101, 102, 67, 110, 116]⟩ : ByteArray), (⟨#[85, 115, 101]⟩ : ByteArray), (⟨#[77, 101, 116, 114, 105, 99]⟩ : ByteArray), (⟨#[77, 97, 115, 107]⟩ : ByteArray), (⟨#[77, 84, 85]⟩ : ByteArray), (⟨#[87, 105, 110, 100, 111, 119]⟩ : ByteArray), (⟨#[73, 82, 84, 84]⟩ : ByteArray)] : List ByteArray)) := ⟨_, rfl⟩
 replace H : (some y594) = some r := by first | (rw [hy594]; with_reducible exact H) | (have H2_ := (Option.bind_some _ _).symm.trans H; rw [hy594]; with_reducible exact H2_) | (have H2_ := (Option.bind_some _ _).symm.trans H; with_reducible exact H2_) | with_reducible exact H | (rw [hy594]; exact H) | exact H
 have Ny594 := Aside0.mk hy594
 clear hy594
 obtain rfl := Option.some.inj H
 go_enter Tryz.func107, Tryz.ntmps107
 go_wp2_with (first | ((with_reducible refine gate_dst (N := 1) rfl ?_); refine Kd.R_lit Kd.string _ 9 ?hg (N := 1) ?hd (xs := ([(⟨#[73, 102, 97, 99, 101]⟩ : ByteArray), (⟨#[68, 101, 115, 116, 105, 110, 97, 116, 105, 111, 110]⟩ : ByteArray), (⟨#[71, 97, 116, 101, 119, 97, 121]⟩ : ByteArray), (⟨#[70, 108, 97, 103, 115]⟩ : ByteArray), (⟨#[82, 101, 102, 67, 110, 116]⟩ : ByteArray), (⟨#[85, 115, 101]⟩ : ByteArray), (⟨#[77, 101, 116, 114, 105, 99]⟩ : ByteArray), (⟨#[77, 97, 115, 107]⟩ : ByteArray), (⟨#[77, 84, 85]⟩ : ByteArray), (⟨#[87, 105, 110, 100, 111, 119]⟩ : ByteArray), (⟨#[73, 82, 84, 84]⟩ : ByteArray)] : List ByteArray)) (inner := [.string (⟨#[73, 102, 97, 99, 101]⟩ : ByteArray), .string (⟨#[68, 101, 115, 116, 105, 110, 97, 116, 105, 111, 110]⟩ : ByteArray), .string (⟨#[71, 97, 116, 101, 119, 97, 121]⟩ : ByteArray), .string (⟨#[70, 108, 97, 103, 115]⟩ : ByteArray), .string (⟨#[82, 101, 102, 67, 110, 116]⟩ : ByteArray), .string (⟨#[85, 115, 101]⟩ : ByteArray), .string (⟨#[77, 101, 116, 114, 105, 99]⟩ : ByteArray), .string (⟨#[77, 97, 115, 107]⟩ : ByteArray), .string (⟨#[77, 84, 85]⟩ : ByteArray), .string (⟨#[87, 105, 110, 100, 111, 119]⟩ : ByteArray), .string (⟨#[73, 82, 84, 84]⟩ : ByteArray)]) (ok := fun _ => True) (okp := fun _ => True) ?hr ?hp (fun _ hk => hk) trivial (Below.refl _ _) (Nat.le_refl _) (by simp) ?_; (case hd => rfl); (case hg => rfl); (case hr => first | (go_simp; done) | (go_simp; rfl)); (case hp => exact (Reps.one (show Kd.M Kd.string _ _ _ (⟨#[73, 102, 97, 99, 101]⟩ : ByteArray) [.string (⟨#[73, 102, 97, 99, 101]⟩ : ByteArray)] from rfl) (Reps.one (show Kd.M Kd.string _ _ _ (⟨#[68, 101, 115, 116, 105, 110, 97, 116, 105, 111, 110]⟩ : ByteArray) [.string (⟨#[68, 101, 115, 116, 105, 110, 97, 116, 105, 111, 110]⟩ : ByteArray)] from rfl) (Reps.one (show Kd.M Kd.string _ _ _ (⟨#[71, 97, 116, 101, 119, 97, 121]⟩ : ByteArray) [.string (⟨#[71, 97, 116, 101, 119, 97, 121]⟩ : ByteArray)] from rfl) (Reps.one (show Kd.M Kd.string _ _ _ (⟨#[70, 108, 97, 103, 115]⟩ : ByteArray) [.string (⟨#[70, 108, 97, 103, 115]⟩ : ByteArray)] from rfl) (Reps.one (show Kd.M Kd.string _ _ _ (⟨#[82, 101, 102, 67, 110, 116]⟩ : ByteArray) [.string (⟨#[82, 101, 102, 67, 110, 116]⟩ : ByteArray)] from rfl) (Reps.one (show Kd.M Kd.string _ _ _ (⟨#[85, 115, 101]⟩ : ByteArray) [.string (⟨#[85, 115, 101]⟩ : ByteArray)] from rfl) (Reps.one (show Kd.M Kd.string _ _ _ (⟨#[77, 101, 116, 114, 105, 99]⟩ : ByteArray) [.string (⟨#[77, 101, 116, 114, 105, 99]⟩ : ByteArray)] from rfl) (Reps.one (show Kd.M Kd.string _ _ _ (⟨#[77, 97, 115, 107]⟩ : ByteArray) [.string (⟨#[77, 97, 115, 107]⟩ : ByteArray)] from rfl) (Reps.one (show Kd.M Kd.string _ _ _ (⟨#[77, 84, 85]⟩ : ByteArray) [.string (⟨#[77, 84, 85]⟩ : ByteArray)] from rfl) (Reps.one (show Kd.M Kd.string _ _ _ (⟨#[87, 105, 110, 100, 111, 119]⟩ : ByteArray) [.string (⟨#[87, 105, 110, 100, 111, 119]⟩ : ByteArray)] from rfl) (Reps.one (show Kd.M Kd.string _ _ _ (⟨#[73, 82, 84, 84]⟩ : ByteArray) [.string (⟨#[73, 82, 84, 84]⟩ : ByteArray)] from rfl) (Reps.none _ _))))))))))))); intro v595 w1 ho2 hb hg_ hnew_; clear hg_ hnew_; (first | rw [← Ny594.out] at ho2 | (simp only [Int.reduceToNat] at ho2; rw [← Ny594.out] at ho2)); have n0_ := Aside0.mk (Kd.R_lower ho2 (below_size (by repeat (first | (with_reducible first | exact HB.out | apply below_alloc | apply pw_below_drewN | apply below_drew1) | exact HB.out)))); have n1_ := Aside0.mk (below_step (by repeat (first | (with_reducible first | exact HB.out | apply below_alloc | apply pw_below_drewN | apply below_drew1) | exact HB.out)) hb); clear HB; have HO596 := n0_; have HB := n1_; clear n0_ n1_; clear hb ho2))
 go_ret
 exact ⟨_, by first | rfl | (simp [errW_none, errW_some] <;> rfl) | (simp [*, errW_none, errW_some] <;> rfl), by (with_reducible repeat (first | apply Kd.R_alloc | apply Kd.R_drewN | apply Kd.R_drew)); exact HO596.out, by repeat (first | (with_reducible first | exact HB.out | apply below_alloc | apply pw_below_drewN | apply below_drew1) | exact HB.out)⟩
end Go.Proofs.YtednjmngalmdkaaGreatDoor.GPC
end
section
namespace Go.Proofs.YtednjmngalmdkaaGreatDoor.GPC
open Go.RowKit Go.Proofs.YtednjmngalmdkaaGreatDoorW.PrintWords Go.Proofs.YtednjmngalmdkaaGreatDoorW.PrintLast Go.Proofs.YtednjmngalmdkaaGreatDoorW.PrintMore
attribute [local go_sem] max2_int min2_int max_two min_two max_three min_three max_four min_four   -- for this text's walks alone
set_option linter.unusedVariables false
set_option linter.unusedSimpArgs false

attribute [local go_sem] run_store_float
/-! ### spec_RouteTree: function 34 -/
mutual
def spec_RouteTree.l0 : Nat → List (S39) → List (S31) → Int → Int → Option (ByteArray × Int × Bool × Int × Int × Nat × ByteArray × (List (S39)) × Int)
 | 0, _, _, _, _ => none
 | k + 1, x4, x14, x15, x16 => if x16 < x15 then (if 0 ≤ x16 then (if x16 < (x14.length : Int) then ((spec_textNode.f (⟨#[73, 102, 97, 99, 101]⟩ : ByteArray) ((rd_T31 x14 x16).f0)).bind fun bt611 => ((spec_routeNames.f).bind fun t624 => (if 1 ≤ (t624.length : Int) then ((some (t624.drop 1 : List ByteArray)).bind fun y627 => (spec_RouteTree.l1 k x4 (([(⟨bt611.1, bt611.2.1, bt611.2.2.1, bt611.2.2.2.1, bt611.2.2.2.2.1, bt611.2.2.2.2.2.1, bt611.2.2.2.2.2.2.1, bt611.2.2.2.2.2.2.2⟩ : S39)] : List (S39))) x14 x15 x16 y627 (y627.length : Int) 0 ((rd_T31 x14 x16).f0) ((rd_T31 x14 x16).f1) ((rd_T31 x14 x16).f2))) else (none)))) else (none)) else (none)) else ((spec_listNode.f (⟨#[]⟩ : ByteArray) x4).bind fun bt599 => (some (bt599.1, bt599.2.1, bt599.2.2.1, bt599.2.2.2.1, bt599.2.2.2.2.1, bt599.2.2.2.2.2.1, bt599.2.2.2.2.2.2.1, bt599.2.2.2.2.2.2.2, 1)))
def spec_RouteTree.l1 : Nat → List (S39) → List (S39) → List (S31) → Int → Int → List ByteArray → Int → Int → ByteArray → List Int → List ByteArray → Option (ByteArray × Int × Bool × Int × Int × Nat × ByteArray × (List (S39)) × Int)
 | 0, _, _, _, _, _, _, _, _, _, _, _ => none
 | k + 1, x4, x7, x14, x15, x16, x25, x26, x27, x611000, x611001, x611002 => if x27 < x26 then (if 0 ≤ x27 then (if x27 < (x25.length : Int) then (if x27 < (x611001.length : Int) then ((spec_uintNode.f (rdOf ByteArray.empty x25 x27) (rd x611001 x27)).bind fun bt634 => (if x7.length < 1466015503701 then (spec_RouteTree.l1 k x4 (x7 ++ [(⟨bt634.1, bt634.2.1, bt634.2.2.1, bt634.2.2.2.1, bt634.2.2.2.2.1, bt634.2.2.2.2.2.1, bt634.2.2.2.2.2.2.1, bt634.2.2.2.2.2.2.2⟩ : S39)]) x14 x15 x16 x25 x26 (wrap64 (x27 + 1)) x611000 x611001 x611002) else (none))) else (none)) else (none)) else (none)) else ((spec_recordNode.f (⟨#[]⟩ : ByteArray) x7).bind fun bt647 => (if x4.length < 1466015503701 then (spec_RouteTree.l0 k (x4 ++ [(⟨bt647.1, bt647.2.1, bt647.2.2.1, bt647.2.2.2.1, bt647.2.2.2.2.1, bt647.2.2.2.2.2.1, bt647.2.2.2.2.2.2.1, bt647.2.2.2.2.2.2.2⟩ : S39)]) x14 x15 (wrap64 (x16 + 1))) else (none)))
end
def spec_RouteTree.f (k : Nat) (l0 : List (S31)) : Option (ByteArray × Int × Bool × Int × Int × Nat × ByteArray × (List (S39)) × Int) := (spec_routeFine.f k l0).bind fun t598 => (if t598 = true then (spec_RouteTree.l0 k ([] : List (S39)) l0 (l0.length : Int) 0) else (some ((⟨#[]⟩ : ByteArray), 0, false, 0, 0, 0, (⟨#[]⟩ : ByteArray), ([] : List (S39)), 2)))
theorem spec_RouteTree.mono_l : ∀ k, (∀ y0 y1 y2 y3, LeO (spec_RouteTree.l0 k y0 y1 y2 y3) (spec_RouteTree.l0 (k + 1) y0 y1 y2 y3)) ∧ (∀ y0 y1 y2 y3 y4 y5 y6 y7 y8 y9 y10, LeO (spec_RouteTree.l1 k y0 y1 y2 y3 y4 y5 y6 y7 y8 y9 y10) (spec_RouteTree.l1 (k + 1) y0 y1 y2 y3 y4 y5 y6 y7 y8 y9 y10))
 | 0 => ⟨fun _ _ _ _ r h => by simp [spec_RouteTree.l0] at h, fun _ _ _ _ _ _ _ _ _ _ _ r h => by simp [spec_RouteTree.l1] at h⟩
 | k + 1 => by
  obtain ⟨ih0, ih1⟩ := spec_RouteTree.mono_l k
  refine ⟨?_, ?_⟩
  ·intro y0 y1 y2 y3
   unfold spec_RouteTree.l0
   repeat' first
   | (with_reducible exact ih0 _ _ _ _)
   | (with_reducible exact ih1 _ _ _ _ _ _ _ _ _ _ _)
   | (with_reducible exact spec_routeFine.mono _ _)
   | (with_reducible exact LeO.refl _)
   | (with_reducible exact LeO.none _)
   | (with_reducible refine LeO.ite ?_ ?_)
   | (with_reducible refine LeO.bind ?_ (fun _ => ?_))
   | exact ih0 _ _ _ _
   | exact ih1 _ _ _ _ _ _ _ _ _ _ _
   | exact spec_routeFine.mono _ _
   | exact LeO.none _
   | refine LeO.ite ?_ ?_
   | refine LeO.bind ?_ (fun _ => ?_)
  ·intro y0 y1 y2 y3 y4 y5 y6 y7 y8 y9 y10
   unfold spec_RouteTree.l1
   repeat' first
   | (with_reducible exact ih0 _ _ _ _)
   | (with_reducible exact ih1 _ _ _ _ _ _ _ _ _ _ _)
   | (with_reducible exact spec_routeFine.mono _ _)
   | (with_reducible exact LeO.refl _)
   | (with_reducible exact LeO.none _)
   | (with_reducible refine LeO.ite ?_ ?_)
   | (with_reducible refine LeO.bind ?_ (fun _ => ?_))
   | exact ih0 _ _ _ _
   | exact ih1 _ _ _ _ _ _ _ _ _ _ _
   | exact spec_routeFine.mono _ _
   | exact LeO.none _
   | refine LeO.ite ?_ ?_
   | refine LeO.bind ?_ (fun _ => ?_)
theorem spec_RouteTree.mono : ∀ a0 k, LeO (spec_RouteTree.f k a0) (spec_RouteTree.f (k + 1) a0) := by
 intro a0 k
 obtain ⟨ih0, ih1⟩ := spec_RouteTree.mono_l k
 unfold spec_RouteTree.f
 repeat' first
   | (with_reducible exact ih0 _ _ _ _)
   | (with_reducible exact ih1 _ _ _ _ _ _ _ _ _ _ _)
   | (with_reducible exact spec_routeFine.mono _ _)
   | (with_reducible exact LeO.refl _)
   | (with_reducible exact LeO.none _)
   | (with_reducible refine LeO.ite ?_ ?_)
   | (with_reducible refine LeO.bind ?_ (fun _ => ?_))
   | exact ih0 _ _ _ _
   | exact ih1 _ _ _ _ _ _ _ _ _ _ _
   | exact spec_routeFine.mono _ _
   | exact LeO.none _
   | refine LeO.ite ?_ ?_
   | refine LeO.bind ?_ (fun _ => ?_)
set_option maxHeartbeats 8000000 in
set_option maxRecDepth 100000 in
theorem spec_RouteTree.calls (k : Nat) (A0 : Option Addr) (c0 : Nat) (l0 : List (S31)) (r1 : ByteArray) (r2 : Int) (r3 : Bool) (r4 : Int) (r5 : Int) (r6 : Nat) (r7 : ByteArray) (r8 : List (S39)) (r9 : Int) (w : World) (hr0 : Kd.C k31 w A0 l0.length l0) (hc0 : l0.length ≤ c0) (h : spec_RouteTree.f k l0 = some (r1, r2, r3, r4, r5, r6, r7, r8, r9)) :
  Calls Tryz.prog 34 #[.slice A0 l0.length c0] w fun e w' => ∃ v7_ : Value, e = .returned (.tuple #[.agg #[.string r1, .int .i64 r2, .bool r3, .int .i64 r4, .int .u64 r5, .float .f64 r6, .string r7, v7_], .int .i64 r9]) ∧ Kd.V k39 39 w' w.heap.size (fun k_ => (w.heap.size ≤ k_)) v7_ r8 ∧ Below w.heap.size w w' := by
 have hu39 := Tryz.underlying39
 have hu31 := Tryz.underlying31
 have HR0 := Aside0.mk hr0
 have HC0 := Aside0.mk hc0
 clear hr0 hc0
 have HB := Aside0.mk (Below.refl w.heap.size w)
 have H : ((spec_routeFine.f k l0).bind fun t598 => (if t598 = true then (spec_RouteTree.l0 k ([] : List (S39)) l0 (l0.length : Int) 0) else (some ((⟨#[]⟩ : ByteArray), 0, false, 0, 0, 0, (⟨#[]⟩ : ByteArray), ([] : List (S39)), 2)))) = some (r1, r2, r3, r4, r5, r6, r7, r8, r9) := h
 clear h
 replace H := Option.bind_eq_some_iff.mp H
 obtain ⟨t598, A20, H⟩ := H
 try dsimp -simprocs only at H
 have A2 := Aside0.mk A20
 clear A20
 by_cases c3 : t598 = true
 ·subst c3
  have H1 : (spec_RouteTree.l0 k ([] : List (S39)) l0 (l0.length : Int) 0) = some (r1, r2, r3, r4, r5, r6, r7, r8, r9) := by rw [if_pos rfl] at H; exact H
  clear H
  have H := H1
  clear H1
  have H' := Aside0.mk H
  clear H
  go_enter Tryz.func34, Tryz.ntmps34
  go_wp2_with (first | ((with_reducible refine gate_dst (N := 2) rfl ?_); refine box_event ?hg (N := 2) ?hd (cs := #[.string (⟨#[]⟩ : ByteArray), .int .i64 0, .bool false, .int .i64 0, .int .u64 0, .float .f64 0, .string (⟨#[]⟩ : ByteArray), .slice none 0 0]) (t := 39) ?hr ?_; (case hd => rfl); (case hg => rfl); (case hr => first | (go_simp; done) | (go_simp; rfl)); intro gb597 hg w4 hbox hb; have n0_ := Aside0.mk (below_step (by repeat (first | (with_reducible first | exact HB.out | apply below_alloc | apply pw_below_drewN | apply below_drew1) | exact HB.out)) hb); have n1_ := Aside0.mk (hbox); have n2_ := Aside0.mk ((by rw [hg]; exact (below_size (by repeat (first | (with_reducible first | exact HB.out | apply below_alloc | apply pw_below_drewN | apply below_drew1) | exact HB.out))) : w.heap.size ≤ gb597)); have n3_ := Aside0.mk ((by rw [hg]; exact (below_size (by repeat (first | (with_reducible first | exact HB.out | apply below_alloc | apply pw_below_drewN | apply below_drew1) | exact HB.out))) : w.heap.size ≤ gb597)); clear HB; have HB := n0_; have BK597 := n1_; have GW597 := n2_; have GE597 := n3_; clear n0_ n1_ n2_ n3_; clear hb hbox hg) | ((with_reducible refine gate_callee (f := 104) rfl ?_); refine goesL_ (some 11) rfl rfl Tryz.func104 (by kernel_rfl) rfl #[.slice A0 l0.length c0] rfl (by (try simp only [List.map_toArray, List.map_cons, List.map_nil]); first | done | rfl | (simp only [List.length_drop, List.length_take]; rfl)) ?_; (with_reducible refine (spec_routeFine.calls k _ _ l0 true _ ?side1 ?side2 A2.out).mono ?_); (case side1 => repeat (first | exact (Kd.C_below HR0.out HB.out) | (with_reducible refine Kd.C_alloc ?_ _) | (with_reducible refine Kd.C_drewN ?_ _) | (with_reducible refine Kd.C_drew ?_))); (case side2 => exact HC0.out); rintro e w5 ⟨rfl, hb⟩; refine ⟨_, rfl, ?_⟩; have n0_ := Aside0.mk (blk_below (g := gb597) (o := .cells #[.string (⟨#[]⟩ : ByteArray), .int .i64 0, .bool false, .int .i64 0, .int .u64 0, .float .f64 0, .string (⟨#[]⟩ : ByteArray), .slice none 0 0] 39 (0, 0)) (by (with_reducible repeat (first | refine blk_drewN ?_ _ | refine blk_drew ?_ | refine blk_alloc ?_ _)); exact BK597.out) hb); have n1_ := Aside0.mk (below_step (by repeat (first | (with_reducible first | exact HB.out | apply below_alloc | apply pw_below_drewN | apply below_drew1 | refine below_set ?_ GE597.out) | exact HB.out)) hb); clear BK597; clear HB; have BK597 := n0_; have HB := n1_; clear n0_ n1_; (try clear hb); (try clear hb2); (try clear hk); (try clear hi)))
  go_loopg [4, 16] k (fun kq v4 v16 w' => ∃ (x4_1 : List (S39)) (x16_1 : Int), v16 = .int .i64 x16_1 ∧ Aside0 (spec_RouteTree.l0 kq x4_1 l0 (l0.length : Int) x16_1 = some (r1, r2, r3, r4, r5, r6, r7, r8, r9)) ∧ Aside0 (kq ≤ k) ∧ Aside0 (Kd.N k39 39 w' w.heap.size (fun k_ => (w.heap.size ≤ k_) ∧ k_ ≠ gb597) v4 x4_1) ∧ Aside0 (w'.heap[gb597]? = some (.cells #[.string (⟨#[]⟩ : ByteArray), .int .i64 0, .bool false, .int .i64 0, .int .u64 0, .float .f64 0, .string (⟨#[]⟩ : ByteArray), (.slice none 0 0)] 39 (0, 0))) ∧ Aside0 (Below w.heap.size w w'))
  case atStart => exact ⟨(([] : List (S39))), (0), (by first | rfl | (simp; done) | (simp [*]; done)), H', ⟨Nat.le_refl _⟩, ⟨by first | exact Kd.R_nil _ _ _ _ _ | exact Kd.N_nil _ _ _ _ _ | exact Kd.V_nil _ _ _ _ _ | exact Kd.Q_nil _ _ _ _ _ | exact Kd.S_nil _ _ _ _ _⟩, ⟨by (with_reducible repeat (first | refine blk_drewN ?_ _ | refine blk_drew ?_ | refine blk_alloc ?_ _)); exact BK597.out⟩, ⟨by repeat (first | (with_reducible first | exact HB.out | apply below_alloc | apply pw_below_drewN | apply below_drew1 | refine below_set ?_ GE597.out) | exact HB.out)⟩⟩
  case round =>
   clear H'
   try clear c1
   try clear p2
   try clear c3
   obtain ⟨x4_1, x16_1, rfl, HA, HK1, HO_4, BK597, HB⟩ := hrel
   cases gk with
   | zero => exact absurd HA.out (by simp [spec_RouteTree.l0])
   | succ k1 =>
    have H := HA.out
    clear HA
    simp only [spec_RouteTree.l0] at H
    by_cases c6 : x16_1 < (l0.length : Int)
    ·rw [if_pos c6] at H
     have c6b0 : decide (x16_1 < (l0.length : Int)) = true := decide_eq_true c6
     clear c6
     replace H := guard_inv H
     obtain ⟨c7, H⟩ := H
     have c7b0 : decide (0 ≤ x16_1) = true := decide_eq_true c7
     clear c7
     replace H := guard_inv H
     obtain ⟨c8, H⟩ := H
     have c8b0 : decide (x16_1 < (l0.length : Int)) = true := decide_eq_true c8
     clear c8
     replace H := Option.bind_eq_some_iff.mp H
     obtain ⟨⟨t611, t612, t613, t614, t615, t616, t617, t618⟩, A90, H⟩ := H
     replace H : ((spec_routeNames.f).bind fun t624 => (if 1 ≤ (t624.length : Int) then ((some (t624.drop 1 : List ByteArray)).bind fun y627 => (spec_RouteTree.l1 k1 x4_1 (([(⟨t611, t612, t613, t614, t615, t616, t617, t618⟩ : S39)] : List (S39))) l0 (l0.length : Int) x16_1 y627 (y627.length : Int) 0 ((rd_T31 l0 x16_1).f0) ((rd_T31 l0 x16_1).f1) ((rd_T31 l0 x16_1).f2))) else (none))) = some (r1, r2, r3, r4, r5, r6, r7, r8, r9) := H
     have A9 := Aside0.mk A90
     clear A90
     obtain ⟨y621, hy621⟩ : ∃ y_ : List (S39), y_ = (([(⟨t611, t612, t613, t614, t615, t616, t617, t618⟩ : S39)] : List (S39))) := ⟨_, rfl⟩
     replace H : ((spec_routeNames.f).bind fun t624 => (if 1 ≤ (t624.length : Int) then ((some (t624.drop 1 : List ByteArray)).bind fun y627 => (spec_RouteTree.l1 k1 x4_1 y621 l0 (l0.length : Int) x16_1 y627 (y627.length : Int) 0 ((rd_T31 l0 x16_1).f0) ((rd_T31 l0 x16_1).f1) ((rd_T31 l0 x16_1).f2))) else (none))) = some (r1, r2, r3, r4, r5, r6, r7, r8, r9) := by first | (rw [hy621]; with_reducible exact H) | (have H2_ := (Option.bind_some _ _).symm.trans H; rw [hy621]; with_reducible exact H2_) | (have H2_ := (Option.bind_some _ _).symm.trans H; with_reducible exact H2_) | with_reducible exact H | (rw [hy621]; exact H) | exact H
     have Ny621 := Aside0.mk hy621
     clear hy621
     replace H := Option.bind_eq_some_iff.mp H
     obtain ⟨t624, A100, H⟩ := H
     try dsimp -simprocs only at H
     have A10 := Aside0.mk A100
     clear A100
     replace H := guard_inv H
     obtain ⟨c11, H⟩ := H
     have c11b0 := eq_true c11
     have c11b1 := decide_eq_true c11
     clear c11
     obtain ⟨y627, hy627⟩ : ∃ y_ : List ByteArray, y_ = (t624.drop 1) := ⟨_, rfl⟩
     replace H : (spec_RouteTree.l1 k1 x4_1 y621 l0 (l0.length : Int) x16_1 y627 (y627.length : Int) 0 ((rd_T31 l0 x16_1).f0) ((rd_T31 l0 x16_1).f1) ((rd_T31 l0 x16_1).f2)) = some (r1, r2, r3, r4, r5, r6, r7, r8, r9) := by first | (rw [hy627]; with_reducible exact H) | (have H2_ := (Option.bind_some _ _).symm.trans H; rw [hy627]; with_reducible exact H2_) | (have H2_ := (Option.bind_some _ _).symm.trans H; with_reducible exact H2_) | with_reducible exact H | (rw [hy627]; exact H) | exact H
     have Ny627 := Aside0.mk hy627
     clear hy627
     have H' := Aside0.mk H
     clear H
     have p609 : 0 ≤ (x16_1 : Int) := of_decide_eq_true (by first | (with_reducible assumption) | assumption)
     have q609 : x16_1 < (l0.length : Int) := of_decide_eq_true (by first | (with_reducible assumption) | assumption)
     obtain ⟨ad609, A609_1, c609_1, A609_2, c609_2, e609, hx609_0, hx609_1, hx609_2, hl609_1, hi609_1, hl609_2, hi609_2⟩ := at_T31 HR0.out x16_1 p609 q609
     cases e609
     replace hx609_0 := (HB.out.cell (World.block_lt_of_cell? w _ hx609_0)).trans hx609_0
     replace hx609_1 := (HB.out.cell (World.block_lt_of_cell? w _ hx609_1)).trans hx609_1
     replace hx609_2 := (HB.out.cell (World.block_lt_of_cell? w _ hx609_2)).trans hx609_2
     have HR609_1 := Aside0.mk hi609_1
     have HC609_1 := Aside0.mk hl609_1
     clear hi609_1 hl609_1
     have HR609_2 := Aside0.mk hi609_2
     have HC609_2 := Aside0.mk hl609_2
     clear hi609_2 hl609_2
     replace p609 := eq_true p609
     replace q609 := eq_true q609
     go_wp2_with (first | ((with_reducible refine gate_dst (N := 6) rfl ?_); refine box_event ?hg (N := 6) ?hd (cs := #[.string (⟨#[]⟩ : ByteArray), .slice none 0 0, .slice none 0 0]) (t := 31) ?hr ?_; (case hd => rfl); (case hg => rfl); (case hr => first | (go_simp; done) | (go_simp; rfl)); intro gb610 hg w12 hbox hb; have n0_ := Aside0.mk (Kd.N_below (Kd.N_elderB (by (with_reducible repeat (first | apply Kd.N_alloc | apply Kd.N_drewN | apply Kd.N_drew)); exact HO_4.out) gb610 (Nat.le_of_eq hg.symm)) hb); have n1_ := Aside0.mk (blk_below (g := gb597) (o := .cells #[.string (⟨#[]⟩ : ByteArray), .int .i64 0, .bool false, .int .i64 0, .int .u64 0, .float .f64 0, .string (⟨#[]⟩ : ByteArray), .slice none 0 0] 39 (0, 0)) (by (with_reducible repeat (first | refine blk_drewN ?_ _ | refine blk_drew ?_ | refine blk_alloc ?_ _)); exact BK597.out) hb); have n2_ := Aside0.mk (below_step (by repeat (first | (with_reducible first | exact HB.out | apply below_alloc | apply pw_below_drewN | apply below_drew1 | refine below_set ?_ GE597.out) | exact HB.out)) hb); have n3_ := Aside0.mk (hbox); have n4_ := Aside0.mk ((by rw [hg]; exact (below_size (by repeat (first | (with_reducible first | exact HB.out | apply below_alloc | apply pw_below_drewN | apply below_drew1 | refine below_set ?_ GE597.out) | exact HB.out))) : w.heap.size ≤ gb610)); have n5_ := Aside0.mk ((by rw [hg]; exact (below_size (by repeat (first | (with_reducible first | exact HB.out | apply below_alloc | apply pw_below_drewN | apply below_drew1 | refine below_set ?_ GE597.out) | exact HB.out))) : w.heap.size ≤ gb610)); have n6_ := Aside0.mk ((by rw [hg]; exact Nat.ne_of_lt (blk_lt (g := gb597) (o := .cells #[.string (⟨#[]⟩ : ByteArray), .int .i64 0, .bool false, .int .i64 0, .int .u64 0, .float .f64 0, .string (⟨#[]⟩ : ByteArray), .slice none 0 0] 39 (0, 0)) (by (with_reducible repeat (first | refine blk_drewN ?_ _ | refine blk_drew ?_ | refine blk_alloc ?_ _)); exact BK597.out)) : gb597 ≠ gb610)); have n7_ := Aside0.mk ((by rw [hg]; exact Nat.ne_of_gt (blk_lt (g := gb597) (o := .cells #[.string (⟨#[]⟩ : ByteArray), .int .i64 0, .bool false, .int .i64 0, .int .u64 0, .float .f64 0, .string (⟨#[]⟩ : ByteArray), .slice none 0 0] 39 (0, 0)) (by (with_reducible repeat (first | refine blk_drewN ?_ _ | refine blk_drew ?_ | refine blk_alloc ?_ _)); exact BK597.out)) : gb610 ≠ gb597)); clear HO_4; clear BK597; clear HB; have HO_4 := n0_; have BK597 := n1_; have HB := n2_; have BK610 := n3_; have GW610 := n4_; have GE610 := n5_; have NB597_610 := n6_; have NB610_597 := n7_; clear n0_ n1_ n2_ n3_ n4_ n5_ n6_ n7_; clear hb hbox hg; have hnb13 := NB610_597.out; have hnc13 := NB597_610.out; have hcz14_0 : w12.cell? ⟨gb610, 0, none⟩ = some (.string (⟨#[]⟩ : ByteArray)) := (blk_cell BK610.out 0).trans rfl; have hcz14_1 : w12.cell? ⟨gb610, 1, none⟩ = some (.slice none 0 0) := (blk_cell BK610.out 1).trans rfl; have hcz14_2 : w12.cell? ⟨gb610, 2, none⟩ = some (.slice none 0 0) := (blk_cell BK610.out 2).trans rfl; have hfz14_0 := blk_frozen BK610.out 0; have hfz14_1 := blk_frozen BK610.out 1; have hfz14_2 := blk_frozen BK610.out 2) | ((with_reducible refine gate_callee (f := 65) rfl ?_); refine goesL_ (some 22) rfl rfl Tryz.func65 (by kernel_rfl) rfl #[.string (⟨#[73, 102, 97, 99, 101]⟩ : ByteArray), .string ((rd_T31 l0 x16_1).f0)] rfl (by (try simp only [List.map_toArray, List.map_cons, List.map_nil]); first | done | rfl | (simp only [List.length_drop, List.length_take]; rfl)) ?_; (with_reducible refine (spec_textNode.calls (⟨#[73, 102, 97, 99, 101]⟩ : ByteArray) ((rd_T31 l0 x16_1).f0) t611 t612 t613 t614 t615 t616 t617 t618 _ A9.out).mono ?_); rintro e w15 ⟨v619, rfl, ho0, hb⟩; refine ⟨_, rfl, ?_⟩; have n0_ := Aside0.mk (Kd.N_elder' (by (with_reducible repeat (first | apply Kd.N_alloc | apply Kd.N_drewN | apply Kd.N_drew)); exact (Kd.N_mono (Kd.N_far (p := ⟨gb610, 2, none⟩) (Kd.N_far (p := ⟨gb610, 1, none⟩) (Kd.N_far (p := ⟨gb610, 0, none⟩) (Kd.N_mono HO_4.out (fun k_ hk => (⟨hk, hk.2⟩ : _ ∧ k_ ≠ gb610))) (fun _ hk => hk.2) (.string ((rd_T31 l0 x16_1).f0))) (fun _ hk => hk.2) (.slice A609_1 ((rd_T31 l0 x16_1).f1).length c609_1)) (fun _ hk => hk.2) (.slice A609_2 ((rd_T31 l0 x16_1).f2).length c609_2)) (fun _ h_ => h_.1))) (by first | exact Kd.N_base ho0 | exact Kd.R_base ho0) hb); have n1_ := Aside0.mk (Kd.N_lower (Kd.N_mono (ok' := fun k_ => (w.heap.size ≤ k_) ∧ some k_ ≠ (u4 : Value).ownBlock ∧ k_ ≠ gb597 ∧ k_ ≠ gb610) (Kd.R_N (Kd.R_bound ho0)) (fun k_ hk_ => ⟨(Nat.le_trans (below_size (by repeat (first | (with_reducible first | exact HB.out | apply below_alloc | apply pw_below_drewN | apply below_drew1 | refine below_set ?_ GE597.out | refine below_set ?_ GE610.out) | exact HB.out))) hk_.2.1), (Kd.fresh' (Kd.N_lt (by (with_reducible repeat (first | apply Kd.N_alloc | apply Kd.N_drewN | apply Kd.N_drew)); exact (Kd.N_mono (Kd.N_far (p := ⟨gb610, 2, none⟩) (Kd.N_far (p := ⟨gb610, 1, none⟩) (Kd.N_far (p := ⟨gb610, 0, none⟩) (Kd.N_mono HO_4.out (fun k_ hk => (⟨hk, hk.2⟩ : _ ∧ k_ ≠ gb610))) (fun _ hk => hk.2) (.string ((rd_T31 l0 x16_1).f0))) (fun _ hk => hk.2) (.slice A609_1 ((rd_T31 l0 x16_1).f1).length c609_1)) (fun _ hk => hk.2) (.slice A609_2 ((rd_T31 l0 x16_1).f2).length c609_2)) (fun _ h_ => h_.1)))) k_ hk_.2.1), (Kd.freshB (g := gb597) (o := .cells #[.string (⟨#[]⟩ : ByteArray), .int .i64 0, .bool false, .int .i64 0, .int .u64 0, .float .f64 0, .string (⟨#[]⟩ : ByteArray), .slice none 0 0] 39 (0, 0)) (by (with_reducible repeat (first | refine blk_drewN ?_ _ | refine blk_drew ?_ | refine blk_alloc ?_ _)); refine blk_far ?_ NB597_610.out _; (with_reducible repeat (first | refine blk_drewN ?_ _ | refine blk_drew ?_ | refine blk_alloc ?_ _)); refine blk_far ?_ NB597_610.out _; (with_reducible repeat (first | refine blk_drewN ?_ _ | refine blk_drew ?_ | refine blk_alloc ?_ _)); refine blk_far ?_ NB597_610.out _; (with_reducible repeat (first | refine blk_drewN ?_ _ | refine blk_drew ?_ | refine blk_alloc ?_ _)); exact BK597.out) k_ hk_.2.1), (Kd.freshB (g := gb610) (o := .cells #[.string ((rd_T31 l0 x16_1).f0), .slice A609_1 ((rd_T31 l0 x16_1).f1).length c609_1, .slice A609_2 ((rd_T31 l0 x16_1).f2).length c609_2] 31 (0, 0)) (by (with_reducible repeat (first | refine blk_drewN ?_ _ | refine blk_drew ?_ | refine blk_alloc ?_ _)); refine blk_put (cs := #[.string ((rd_T31 l0 x16_1).f0), .slice A609_1 ((rd_T31 l0 x16_1).f1).length c609_1, .slice none 0 0]) ?_ 2 _ rfl; (with_reducible repeat (first | refine blk_drewN ?_ _ | refine blk_drew ?_ | refine blk_alloc ?_ _)); refine blk_put (cs := #[.string ((rd_T31 l0 x16_1).f0), .slice none 0 0, .slice none 0 0]) ?_ 1 _ rfl; (with_reducible repeat (first | refine blk_drewN ?_ _ | refine blk_drew ?_ | refine blk_alloc ?_ _)); refine blk_put (cs := #[.string (⟨#[]⟩ : ByteArray), .slice none 0 0, .slice none 0 0]) ?_ 0 _ rfl; (with_reducible repeat (first | refine blk_drewN ?_ _ | refine blk_drew ?_ | refine blk_alloc ?_ _)); exact BK610.out) k_ hk_.2.1)⟩)) (below_size (by repeat (first | (with_reducible first | exact HB.out | apply below_alloc | apply pw_below_drewN | apply below_drew1 | refine below_set ?_ GE597.out | refine below_set ?_ GE610.out) | exact HB.out)))); have n2_ := Aside0.mk (blk_below (g := gb597) (o := .cells #[.string (⟨#[]⟩ : ByteArray), .int .i64 0, .bool false, .int .i64 0, .int .u64 0, .float .f64 0, .string (⟨#[]⟩ : ByteArray), .slice none 0 0] 39 (0, 0)) (by (with_reducible repeat (first | refine blk_drewN ?_ _ | refine blk_drew ?_ | refine blk_alloc ?_ _)); refine blk_far ?_ NB597_610.out _; (with_reducible repeat (first | refine blk_drewN ?_ _ | refine blk_drew ?_ | refine blk_alloc ?_ _)); refine blk_far ?_ NB597_610.out _; (with_reducible repeat (first | refine blk_drewN ?_ _ | refine blk_drew ?_ | refine blk_alloc ?_ _)); refine blk_far ?_ NB597_610.out _; (with_reducible repeat (first | refine blk_drewN ?_ _ | refine blk_drew ?_ | refine blk_alloc ?_ _)); exact BK597.out) hb); have n3_ := Aside0.mk (blk_below (g := gb610) (o := .cells #[.string ((rd_T31 l0 x16_1).f0), .slice A609_1 ((rd_T31 l0 x16_1).f1).length c609_1, .slice A609_2 ((rd_T31 l0 x16_1).f2).length c609_2] 31 (0, 0)) (by (with_reducible repeat (first | refine blk_drewN ?_ _ | refine blk_drew ?_ | refine blk_alloc ?_ _)); refine blk_put (cs := #[.string ((rd_T31 l0 x16_1).f0), .slice A609_1 ((rd_T31 l0 x16_1).f1).length c609_1, .slice none 0 0]) ?_ 2 _ rfl; (with_reducible repeat (first | refine blk_drewN ?_ _ | refine blk_drew ?_ | refine blk_alloc ?_ _)); refine blk_put (cs := #[.string ((rd_T31 l0 x16_1).f0), .slice none 0 0, .slice none 0 0]) ?_ 1 _ rfl; (with_reducible repeat (first | refine blk_drewN ?_ _ | refine blk_drew ?_ | refine blk_alloc ?_ _)); refine blk_put (cs := #[.string (⟨#[]⟩ : ByteArray), .slice none 0 0, .slice none 0 0]) ?_ 0 _ rfl; (with_reducible repeat (first | refine blk_drewN ?_ _ | refine blk_drew ?_ | refine blk_alloc ?_ _)); exact BK610.out) hb); have n4_ := Aside0.mk (below_step (by repeat (first | (with_reducible first | exact HB.out | apply below_alloc | apply pw_below_drewN | apply below_drew1 | refine below_set ?_ GE597.out | refine below_set ?_ GE610.out) | exact HB.out)) hb); clear HO_4; clear BK597; clear BK610; clear HB; have HO_4 := n0_; have HO620 := n1_; have BK597 := n2_; have BK610 := n3_; have HB := n4_; clear n0_ n1_ n2_ n3_ n4_; (try clear hb); (try clear hb2); (try clear hk); (try clear hi); (try clear ho0); obtain ⟨Ao16, co16, eo16⟩ := Kd.N_slice HO620.out; subst eo16) | ((with_reducible refine gate_dst (N := 23) rfl ?_); refine Kd.N_lit k39 _ 39 ?hg (N' := 23) ?hd (xs := ([(⟨t611, t612, t613, t614, t615, t616, t617, t618⟩ : S39)] : List (S39))) (inner := [.string t611, .int .i64 t612, .bool t613, .int .i64 t614, .int .u64 t615, .float .f64 t616, .string t617, .slice Ao16 t618.length co16]) (ok := (fun k_ => (w.heap.size ≤ k_) ∧ some k_ ≠ (u4 : Value).ownBlock ∧ k_ ≠ gb597 ∧ k_ ≠ gb610)) (okp := (fun k_ => (w.heap.size ≤ k_) ∧ some k_ ≠ (u4 : Value).ownBlock ∧ k_ ≠ gb597 ∧ k_ ≠ gb610)) ?hr ?hp (fun _ hk => hk) ((show ∀ k_, w15.heap.size ≤ k_ → (fun k_ => (w.heap.size ≤ k_) ∧ some k_ ≠ (u4 : Value).ownBlock ∧ k_ ≠ gb597 ∧ k_ ≠ gb610) k_ from fun k_ hk => ⟨(Nat.le_trans (below_size (by repeat (first | (with_reducible first | exact HB.out | apply below_alloc | apply pw_below_drewN | apply below_drew1 | refine below_set ?_ GE597.out | refine below_set ?_ GE610.out) | exact HB.out))) hk), Kd.fresh' (Kd.N_lt (by (with_reducible repeat (first | apply Kd.N_alloc | apply Kd.N_drewN | apply Kd.N_drew)); exact HO_4.out)) k_ hk, Kd.freshB (g := gb597) (o := .cells #[.string (⟨#[]⟩ : ByteArray), .int .i64 0, .bool false, .int .i64 0, .int .u64 0, .float .f64 0, .string (⟨#[]⟩ : ByteArray), .slice none 0 0] 39 (0, 0)) (by (with_reducible repeat (first | refine blk_drewN ?_ _ | refine blk_drew ?_ | refine blk_alloc ?_ _)); exact BK597.out) k_ hk, Kd.freshB (g := gb610) (o := .cells #[.string ((rd_T31 l0 x16_1).f0), .slice A609_1 ((rd_T31 l0 x16_1).f1).length c609_1, .slice A609_2 ((rd_T31 l0 x16_1).f2).length c609_2] 31 (0, 0)) (by (with_reducible repeat (first | refine blk_drewN ?_ _ | refine blk_drew ?_ | refine blk_alloc ?_ _)); exact BK610.out) k_ hk⟩) _ (Nat.le_refl _)) (Below.refl _ _) (Nat.le_refl _) (by simp) ?_; (case hd => rfl); (case hg => rfl); (case hr => first | (go_simp; done) | (go_simp; rfl)); (case hp => exact (Reps.c8 (show Kd.FK k39 _ _ (⟨t611, t612, t613, t614, t615, t616, t617, t618⟩ : S39) [.string t611, .int .i64 t612, .bool t613, .int .i64 t614, .int .u64 t615, .float .f64 t616, .string t617, .slice Ao16 t618.length co16] from (k39_mkF _ _ (⟨t611, t612, t613, t614, t615, t616, t617, t618⟩ : S39) (Kd.N_reads' (Kd.N_mono (ok' := (fun k_ => (w.heap.size ≤ k_) ∧ some k_ ≠ (u4 : Value).ownBlock ∧ k_ ≠ gb597 ∧ k_ ≠ gb610)) (HO620.out) (fun k_ hk => ⟨hk.1, ⟨hk.2.1, ⟨hk.2.2.1, hk.2.2.2⟩⟩⟩))).2.1 (Kd.N_F (Kd.N_mono (ok' := (fun k_ => (w.heap.size ≤ k_) ∧ some k_ ≠ (u4 : Value).ownBlock ∧ k_ ≠ gb597 ∧ k_ ≠ gb610)) (HO620.out) (fun k_ hk => ⟨hk.1, ⟨hk.2.1, ⟨hk.2.2.1, hk.2.2.2⟩⟩⟩))))) (Reps.none _ _))); intro v622 w17 ho18 hb hg_ hnew_; clear hg_ hnew_; (first | rw [← Ny621.out] at ho18 | (simp only [Int.reduceToNat] at ho18; rw [← Ny621.out] at ho18)); have n0_ := Aside0.mk (Kd.N_elder' (by (with_reducible repeat (first | apply Kd.N_alloc | apply Kd.N_drewN | apply Kd.N_drew)); exact HO_4.out) (by first | exact Kd.N_base ho18 | exact Kd.R_base ho18) hb); have n1_ := Aside0.mk (Kd.N_lower ho18 (below_size (by repeat (first | (with_reducible first | exact HB.out | apply below_alloc | apply pw_below_drewN | apply below_drew1 | refine below_set ?_ GE597.out | refine below_set ?_ GE610.out) | exact HB.out)))); have n2_ := Aside0.mk (blk_below (g := gb597) (o := .cells #[.string (⟨#[]⟩ : ByteArray), .int .i64 0, .bool false, .int .i64 0, .int .u64 0, .float .f64 0, .string (⟨#[]⟩ : ByteArray), .slice none 0 0] 39 (0, 0)) (by (with_reducible repeat (first | refine blk_drewN ?_ _ | refine blk_drew ?_ | refine blk_alloc ?_ _)); exact BK597.out) hb); have n3_ := Aside0.mk (blk_below (g := gb610) (o := .cells #[.string ((rd_T31 l0 x16_1).f0), .slice A609_1 ((rd_T31 l0 x16_1).f1).length c609_1, .slice A609_2 ((rd_T31 l0 x16_1).f2).length c609_2] 31 (0, 0)) (by (with_reducible repeat (first | refine blk_drewN ?_ _ | refine blk_drew ?_ | refine blk_alloc ?_ _)); exact BK610.out) hb); have n4_ := Aside0.mk (below_step (by repeat (first | (with_reducible first | exact HB.out | apply below_alloc | apply pw_below_drewN | apply below_drew1 | refine below_set ?_ GE597.out | refine below_set ?_ GE610.out) | exact HB.out)) hb); clear HO_4; clear BK597; clear BK610; clear HB; clear HO620; have HO_4 := n0_; have HO623 := n1_; have BK597 := n2_; have BK610 := n3_; have HB := n4_; clear n0_ n1_ n2_ n3_ n4_; clear hb ho18) | ((with_reducible refine gate_callee (f := 107) rfl ?_); refine goesL_ (some 24) rfl rfl Tryz.func107 (by kernel_rfl) rfl #[] rfl (by (try simp only [List.map_toArray, List.map_cons, List.map_nil]); first | done | rfl | (simp only [List.length_drop, List.length_take]; rfl)) ?_; (with_reducible refine (spec_routeNames.calls  t624 _ A10.out).mono ?_); rintro e w19 ⟨v625, rfl, ho0, hb⟩; refine ⟨_, rfl, ?_⟩; have n0_ := Aside0.mk (Kd.N_elder' (by (with_reducible repeat (first | apply Kd.N_alloc | apply Kd.N_drewN | apply Kd.N_drew)); exact HO_4.out) (by first | exact Kd.R_base ho0 | exact Kd.R_base ho0) hb); have n1_ := Aside0.mk (Kd.N_elder' (by (with_reducible repeat (first | apply Kd.N_alloc | apply Kd.N_drewN | apply Kd.N_drew)); exact HO623.out) (by first | exact Kd.R_base ho0 | exact Kd.R_base ho0) hb); have n2_ := Aside0.mk (Kd.R_lower (Kd.R_newM (M := fun k_ => (w.heap.size ≤ k_)) ho0 (below_size (by repeat (first | (with_reducible first | exact HB.out | apply below_alloc | apply pw_below_drewN | apply below_drew1 | refine below_set ?_ GE597.out | refine below_set ?_ GE610.out) | exact HB.out))) (fun k_ h_ => h_)) (below_size (by repeat (first | (with_reducible first | exact HB.out | apply below_alloc | apply pw_below_drewN | apply below_drew1 | refine below_set ?_ GE597.out | refine below_set ?_ GE610.out) | exact HB.out)))); have n3_ := Aside0.mk (blk_below (g := gb597) (o := .cells #[.string (⟨#[]⟩ : ByteArray), .int .i64 0, .bool false, .int .i64 0, .int .u64 0, .float .f64 0, .string (⟨#[]⟩ : ByteArray), .slice none 0 0] 39 (0, 0)) (by (with_reducible repeat (first | refine blk_drewN ?_ _ | refine blk_drew ?_ | refine blk_alloc ?_ _)); exact BK597.out) hb); have n4_ := Aside0.mk (blk_below (g := gb610) (o := .cells #[.string ((rd_T31 l0 x16_1).f0), .slice A609_1 ((rd_T31 l0 x16_1).f1).length c609_1, .slice A609_2 ((rd_T31 l0 x16_1).f2).length c609_2] 31 (0, 0)) (by (with_reducible repeat (first | refine blk_drewN ?_ _ | refine blk_drew ?_ | refine blk_alloc ?_ _)); exact BK610.out) hb); have n5_ := Aside0.mk (below_step (by repeat (first | (with_reducible first | exact HB.out | apply below_alloc | apply pw_below_drewN | apply below_drew1 | refine below_set ?_ GE597.out | refine below_set ?_ GE610.out) | exact HB.out)) hb); clear HO_4; clear HO623; clear BK597; clear BK610; clear HB; have HO_4 := n0_; have HO623 := n1_; have HO626 := n2_; have BK597 := n3_; have BK610 := n4_; have HB := n5_; clear n0_ n1_ n2_ n3_ n4_ n5_; (try clear hb); (try clear hb2); (try clear hk); (try clear hi); (try clear ho0); obtain ⟨Ao21, co21, eo21⟩ := Kd.R_slice HO626.out; subst eo21; have q20 : (1 : Int) ≤ ((t624.length : Int) : Int) := of_decide_eq_true (by first | (with_reducible assumption) | assumption); obtain ⟨i020, hi020, _, hsz20, _⟩ := info_parts info9; have hroom20 : t624.length ≤ co21 := (Kd.R_reads' HO626.out).2.1; have hC20 : Kd.F Kd.string _ _ Ao21 t624.length t624 := (Kd.V_at (base := w.heap.size) (Kd.R_V (Kd.R_types (Kd.R_types (Kd.R_apart' (Kd.R_apart' (HO626.out) (Kd.N_typed HO_4.out) (by decide)) (Kd.N_typed HO623.out) (by decide)) BK597.out (by decide)) BK610.out (by decide)))).2.2; have hcut20 := cut_from (P := Tryz.prog) 29 9 .i64 Tryz.underlying29 hi020 1 hsz20 Ao21 t624.length co21 1 (by omega) q20; have hr20 := Kd.F_cut (m := (1 : Int).toNat) (c := co21) hC20 (by omega) hroom20; obtain ⟨A20, hA20⟩ : ∃ A1, A1 = (if co21 = (1 : Int).toNat then Ao21 else (Ao21 : Option Addr).map (·.add ((1 : Int).toNat * 1))) := ⟨_, rfl⟩; obtain ⟨c20, hc20⟩ : ∃ c1, c1 = co21 - (1 : Int).toNat := ⟨_, rfl⟩; have hy20 : y627.length = t624.length - (1 : Int).toNat := (by rw [Ny627.out, List.length_drop] <;> omega); rw [show (t624).drop (1 : Int).toNat = y627 from Ny627.out.symm] at hr20; replace hr20 : Kd.F Kd.string _ _ A20 y627.length y627 := (by rw [hA20]; exact hr20); rw [← hy20, ← hA20, ← hc20] at hcut20; have HO631 := Aside0.mk (show Kd.V Kd.string 9 _ w.heap.size _ (.slice A20 y627.length c20) y627 from Kd.V_mk (by rw [hy20, hc20]; exact Nat.sub_le_sub_right hroom20 _) hr20); have HC631 := Aside0.mk (show y627.length ≤ c20 from by rw [hy20, hc20]; exact Nat.sub_le_sub_right hroom20 _); clear hr20 hC20 hroom20 hi020 hsz20 hc20; have KY20 := Aside0.mk hy20; have KA20 := Aside0.mk hA20; clear hy20 hA20; replace q20 := eq_true q20))
     go_loopg [7, 27] k1 (fun kq v7 v27 w' => ∃ (x7_2 : List (S39)) (x27_2 : Int), v27 = .int .i64 x27_2 ∧ Aside0 (spec_RouteTree.l1 kq x4_1 x7_2 l0 (l0.length : Int) x16_1 y627 (y627.length : Int) x27_2 ((rd_T31 l0 x16_1).f0) ((rd_T31 l0 x16_1).f1) ((rd_T31 l0 x16_1).f2) = some (r1, r2, r3, r4, r5, r6, r7, r8, r9)) ∧ Aside0 (kq ≤ k1) ∧ Aside0 (Kd.N k39 39 w' w.heap.size (fun k_ => (w.heap.size ≤ k_) ∧ some k_ ≠ (v7 : Value).ownBlock ∧ k_ ≠ gb597 ∧ k_ ≠ gb610) u4 x4_1) ∧ Aside0 (Kd.N k39 39 w' w.heap.size (fun k_ => (w.heap.size ≤ k_) ∧ some k_ ≠ (u4 : Value).ownBlock ∧ k_ ≠ gb597 ∧ k_ ≠ gb610) v7 x7_2) ∧ Aside0 (Kd.V Kd.string 9 w' w.heap.size (fun k_ => (w.heap.size ≤ k_) ∧ some k_ ≠ (u4 : Value).ownBlock ∧ some k_ ≠ (v7 : Value).ownBlock ∧ k_ ≠ gb597 ∧ k_ ≠ gb610) (.slice A20 y627.length c20) y627) ∧ Aside0 (w'.heap[gb597]? = some (.cells #[.string (⟨#[]⟩ : ByteArray), .int .i64 0, .bool false, .int .i64 0, .int .u64 0, .float .f64 0, .string (⟨#[]⟩ : ByteArray), (.slice none 0 0)] 39 (0, 0))) ∧ Aside0 (w'.heap[gb610]? = some (.cells #[.string ((rd_T31 l0 x16_1).f0), (.slice A609_1 ((rd_T31 l0 x16_1).f1).length c609_1), (.slice A609_2 ((rd_T31 l0 x16_1).f2).length c609_2)] 31 (0, 0))) ∧ Aside0 (Below w.heap.size w w'))
     case atStart => exact ⟨(y621), (0), (by first | rfl | (simp; done) | (simp [*]; done)), H', ⟨Nat.le_refl _⟩, ⟨by (with_reducible repeat (first | apply Kd.N_alloc | apply Kd.N_drewN | apply Kd.N_drew)); exact Kd.N_mono HO_4.out (fun _ hk => ⟨hk.1.1.1.1.1, ⟨hk.1.2, ⟨hk.1.1.1.1.2, hk.1.1.1.2⟩⟩⟩)⟩, ⟨by (with_reducible repeat (first | apply Kd.N_alloc | apply Kd.N_drewN | apply Kd.N_drew)); exact Kd.N_mono HO623.out (fun _ hk => ⟨hk.1.1, ⟨hk.1.2.1, ⟨hk.1.2.2.1, hk.1.2.2.2⟩⟩⟩)⟩, ⟨by (with_reducible repeat (first | apply Kd.V_alloc | apply Kd.V_drewN | apply Kd.V_drew)); exact Kd.V_mono HO631.out (fun _ hk => ⟨hk.1.1.1.1.1, ⟨hk.1.1.1.2, ⟨hk.1.1.2, ⟨hk.1.2, hk.2⟩⟩⟩⟩)⟩, ⟨by (with_reducible repeat (first | refine blk_drewN ?_ _ | refine blk_drew ?_ | refine blk_alloc ?_ _)); exact BK597.out⟩, ⟨by (with_reducible repeat (first | refine blk_drewN ?_ _ | refine blk_drew ?_ | refine blk_alloc ?_ _)); exact BK610.out⟩, ⟨by repeat (first | (with_reducible first | exact HB.out | apply below_alloc | apply pw_below_drewN | apply below_drew1 | refine below_set ?_ GE597.out | refine below_set ?_ GE610.out) | exact HB.out)⟩⟩
     case round =>
      clear H'
      try clear c1
      try clear c2
      try clear p2
      try clear q2
      try clear c3
      try clear c6
      try clear c6b0
      try clear p6
      try clear q6
      try clear hx6
      try clear c7
      try clear c7b0
      try clear c8
      try clear c8b0
      try clear c10
      try clear c11
      try clear c11b0
      try clear c11b1
      try clear c13
      try clear c20
      try clear q20
      try clear hcz14_0
      try clear hcz14_1
      try clear hcz14_2
      try clear hfz14_0
      try clear hfz14_1
      try clear hfz14_2
      try clear hx609_0
      try clear hx609_1
      try clear hx609_2
      try clear p2
      try clear p609
      try clear q20
      try clear q609
      obtain ⟨x7_2, x27_2, rfl, HA, HK2, HO_4, HO_7, HO_25, BK597, BK610, HB⟩ := hrel
      cases gk with
      | zero => exact absurd HA.out (by simp [spec_RouteTree.l1])
      | succ k2 =>
       have H := HA.out
       clear HA
       simp only [spec_RouteTree.l1] at H
       by_cases c22 : x27_2 < (y627.length : Int)
       ·rw [if_pos c22] at H
        have c22b0 : decide (x27_2 < (y627.length : Int)) = true := decide_eq_true c22
        clear c22
        replace H := guard_inv H
        obtain ⟨c23, H⟩ := H
        have c23b0 : decide (0 ≤ x27_2) = true := decide_eq_true c23
        clear c23
        replace H := guard_inv H
        obtain ⟨c24, H⟩ := H
        have c24b0 : decide (x27_2 < (y627.length : Int)) = true := decide_eq_true c24
        clear c24
        replace H := guard_inv H
        obtain ⟨c25, H⟩ := H
        have c25b0 : decide (x27_2 < (((rd_T31 l0 x16_1).f1).length : Int)) = true := decide_eq_true c25
        clear c25
        replace H := Option.bind_eq_some_iff.mp H
        obtain ⟨⟨t634, t635, t636, t637, t638, t639, t640, t641⟩, A260, H⟩ := H
        replace H : (if x7_2.length < 1466015503701 then (spec_RouteTree.l1 k2 x4_1 (x7_2 ++ [(⟨t634, t635, t636, t637, t638, t639, t640, t641⟩ : S39)]) l0 (l0.length : Int) x16_1 y627 (y627.length : Int) (wrap64 (x27_2 + 1)) ((rd_T31 l0 x16_1).f0) ((rd_T31 l0 x16_1).f1) ((rd_T31 l0 x16_1).f2)) else (none)) = some (r1, r2, r3, r4, r5, r6, r7, r8, r9) := H
        have A26 := Aside0.mk A260
        clear A260
        replace H := guard_inv H
        obtain ⟨c27, H⟩ := H
        have LMc27 := Aside0.mk c27
        clear c27
        obtain ⟨y644, hy644⟩ : ∃ y_ : List (S39), y_ = (x7_2 ++ [(⟨t634, t635, t636, t637, t638, t639, t640, t641⟩ : S39)]) := ⟨_, rfl⟩
        replace H : (spec_RouteTree.l1 k2 x4_1 y644 l0 (l0.length : Int) x16_1 y627 (y627.length : Int) (wrap64 (x27_2 + 1)) ((rd_T31 l0 x16_1).f0) ((rd_T31 l0 x16_1).f1) ((rd_T31 l0 x16_1).f2)) = some (r1, r2, r3, r4, r5, r6, r7, r8, r9) := by first | (rw [hy644]; with_reducible exact H) | (have H2_ := (Option.bind_some _ _).symm.trans H; rw [hy644]; with_reducible exact H2_) | (have H2_ := (Option.bind_some _ _).symm.trans H; with_reducible exact H2_) | with_reducible exact H | (rw [hy644]; exact H) | exact H
        have Ny644 := Aside0.mk hy644
        clear hy644
        have H' := Aside0.mk H
        clear H
        have p632 : 0 ≤ (x27_2 : Int) := of_decide_eq_true (by first | (with_reducible assumption) | assumption)
        have q632 : x27_2 < (y627.length : Int) := of_decide_eq_true (by first | (with_reducible assumption) | assumption)
        obtain ⟨ad632, e632, hx632_0⟩ := Kd.at_string (Kd.V_reads' HO_25.out).2.2 x27_2 p632 q632
        cases e632
        replace p632 := eq_true p632
        replace q632 := eq_true q632
        have hnb28 := NB610_597.out
        have hnc28 := NB597_610.out
        have hcz29_0 : wr.cell? ⟨gb610, 0, none⟩ = some (.string ((rd_T31 l0 x16_1).f0)) := (blk_cell BK610.out 0).trans rfl
        have hcz29_1 : wr.cell? ⟨gb610, 1, none⟩ = some (.slice A609_1 ((rd_T31 l0 x16_1).f1).length c609_1) := (blk_cell BK610.out 1).trans rfl
        have hcz29_2 : wr.cell? ⟨gb610, 2, none⟩ = some (.slice A609_2 ((rd_T31 l0 x16_1).f2).length c609_2) := (blk_cell BK610.out 2).trans rfl
        have hfz29_0 := blk_frozen BK610.out 0
        have hfz29_1 := blk_frozen BK610.out 1
        have hfz29_2 := blk_frozen BK610.out 2
        have p633 : 0 ≤ (x27_2 : Int) := of_decide_eq_true (by first | (with_reducible assumption) | assumption)
        have q633 : x27_2 < (((rd_T31 l0 x16_1).f1).length : Int) := of_decide_eq_true (by first | (with_reducible assumption) | assumption)
        obtain ⟨ad633, e633, hx633_0⟩ := Kd.at_int HR609_1.out x27_2 p633 q633
        cases e633
        replace hx633_0 := (HB.out.cell (World.block_lt_of_cell? w _ hx633_0)).trans hx633_0
        replace p633 := eq_true p633
        replace q633 := eq_true q633
        go_wp2_with (first | ((with_reducible refine gate_callee (f := 75) rfl ?_); refine goesL_ (some 39) rfl rfl Tryz.func75 (by kernel_rfl) rfl #[.string (rdOf ByteArray.empty y627 x27_2), .int .u64 (rd ((rd_T31 l0 x16_1).f1) x27_2)] rfl (by (try simp only [List.map_toArray, List.map_cons, List.map_nil]); first | done | rfl | (simp only [List.length_drop, List.length_take]; rfl)) ?_; (with_reducible refine (spec_uintNode.calls (rdOf ByteArray.empty y627 x27_2) (rd ((rd_T31 l0 x16_1).f1) x27_2) t634 t635 t636 t637 t638 t639 t640 t641 _ A26.out).mono ?_); rintro e w30 ⟨v642, rfl, ho0, hb⟩; refine ⟨_, rfl, ?_⟩; have n0_ := Aside0.mk (Kd.N_elder' (by (with_reducible repeat (first | apply Kd.N_alloc | apply Kd.N_drewN | apply Kd.N_drew)); exact HO_4.out) (by first | exact Kd.N_base ho0 | exact Kd.R_base ho0) hb); have n1_ := Aside0.mk (Kd.N_elder' (by (with_reducible repeat (first | apply Kd.N_alloc | apply Kd.N_drewN | apply Kd.N_drew)); exact HO_7.out) (by first | exact Kd.N_base ho0 | exact Kd.R_base ho0) hb); have n2_ := Aside0.mk (Kd.V_elder' (by (with_reducible repeat (first | apply Kd.V_alloc | apply Kd.V_drewN | apply Kd.V_drew)); exact HO_25.out) (by first | exact Kd.N_base ho0 | exact Kd.R_base ho0) hb); have n3_ := Aside0.mk (Kd.N_lower (Kd.N_mono (ok' := fun k_ => (w.heap.size ≤ k_) ∧ some k_ ≠ (u4 : Value).ownBlock ∧ some k_ ≠ (u7 : Value).ownBlock ∧ k_ ≠ gb597 ∧ k_ ≠ gb610) (Kd.R_N (Kd.R_bound ho0)) (fun k_ hk_ => ⟨(Nat.le_trans (below_size (by repeat (first | (with_reducible first | exact HB.out | apply below_alloc | apply pw_below_drewN | apply below_drew1 | refine below_set ?_ GE597.out | refine below_set ?_ GE610.out) | exact HB.out))) hk_.2.1), (Kd.fresh' (Kd.N_lt (by (with_reducible repeat (first | apply Kd.N_alloc | apply Kd.N_drewN | apply Kd.N_drew)); exact HO_4.out)) k_ hk_.2.1), (Kd.fresh' (Kd.N_lt (by (with_reducible repeat (first | apply Kd.N_alloc | apply Kd.N_drewN | apply Kd.N_drew)); exact HO_7.out)) k_ hk_.2.1), (Kd.freshB (g := gb597) (o := .cells #[.string (⟨#[]⟩ : ByteArray), .int .i64 0, .bool false, .int .i64 0, .int .u64 0, .float .f64 0, .string (⟨#[]⟩ : ByteArray), .slice none 0 0] 39 (0, 0)) (by (with_reducible repeat (first | refine blk_drewN ?_ _ | refine blk_drew ?_ | refine blk_alloc ?_ _)); exact BK597.out) k_ hk_.2.1), (Kd.freshB (g := gb610) (o := .cells #[.string ((rd_T31 l0 x16_1).f0), .slice (some ad633) ((rd_T31 l0 x16_1).f1).length c609_1, .slice A609_2 ((rd_T31 l0 x16_1).f2).length c609_2] 31 (0, 0)) (by (with_reducible repeat (first | refine blk_drewN ?_ _ | refine blk_drew ?_ | refine blk_alloc ?_ _)); exact BK610.out) k_ hk_.2.1)⟩)) (below_size (by repeat (first | (with_reducible first | exact HB.out | apply below_alloc | apply pw_below_drewN | apply below_drew1 | refine below_set ?_ GE597.out | refine below_set ?_ GE610.out) | exact HB.out)))); have n4_ := Aside0.mk (blk_below (g := gb597) (o := .cells #[.string (⟨#[]⟩ : ByteArray), .int .i64 0, .bool false, .int .i64 0, .int .u64 0, .float .f64 0, .string (⟨#[]⟩ : ByteArray), .slice none 0 0] 39 (0, 0)) (by (with_reducible repeat (first | refine blk_drewN ?_ _ | refine blk_drew ?_ | refine blk_alloc ?_ _)); exact BK597.out) hb); have n5_ := Aside0.mk (blk_below (g := gb610) (o := .cells #[.string ((rd_T31 l0 x16_1).f0), .slice (some ad633) ((rd_T31 l0 x16_1).f1).length c609_1, .slice A609_2 ((rd_T31 l0 x16_1).f2).length c609_2] 31 (0, 0)) (by (with_reducible repeat (first | refine blk_drewN ?_ _ | refine blk_drew ?_ | refine blk_alloc ?_ _)); exact BK610.out) hb); have n6_ := Aside0.mk (below_step (by repeat (first | (with_reducible first | exact HB.out | apply below_alloc | apply pw_below_drewN | apply below_drew1 | refine below_set ?_ GE597.out | refine below_set ?_ GE610.out) | exact HB.out)) hb); clear HO_4; clear HO_7; clear HO_25; clear BK597; clear BK610; clear HB; have HO_4 := n0_; have HO_7 := n1_; have HO_25 := n2_; have HO643 := n3_; have BK597 := n4_; have BK610 := n5_; have HB := n6_; clear n0_ n1_ n2_ n3_ n4_ n5_ n6_; (try clear hb); (try clear hb2); (try clear hk); (try clear hi); (try clear ho0); obtain ⟨Ao32, co32, eo32⟩ := Kd.N_slice HO643.out; subst eo32) | ((with_reducible refine gate_builtin (b := .append) (xs := #[.tmp 32, .tmp 40]) rfl ?_); at_builtin; refine Kd.N_append k39 (w0 := w) w.heap.size rfl (.tmp 32) (.tmp 40) 37 39 (.agg #[(.string ⟨#[]⟩), (.int .i64 0), (.bool false), (.int .i64 0), (.int .u64 0), (.float .f64 0), (.string ⟨#[]⟩), (.slice none 0 0)]) 96 rfl Tryz.underlying37 info39 rfl (by decide) (by omega) u7 x7_2 (⟨t634, t635, t636, t637, t638, t639, t640, t641⟩ : S39) [.string t634, .int .i64 t635, .bool t636, .int .i64 t637, .int .u64 t638, .float .f64 t639, .string t640, .slice Ao32 t641.length co32] (fun k_ => (w.heap.size ≤ k_) ∧ some k_ ≠ (u4 : Value).ownBlock ∧ k_ ≠ gb597 ∧ k_ ≠ gb610) (fun k_ => ((fun k_ => (w.heap.size ≤ k_) ∧ some k_ ≠ (u4 : Value).ownBlock ∧ k_ ≠ gb597 ∧ k_ ≠ gb610)) k_ ∧ some k_ ≠ (u7 : Value).ownBlock) rfl rfl ?aP (fun _ hk => hk) ?aF ?aO ?aB ?aS ?aL ?_; (case aP => exact (k39_mkF _ _ (⟨t634, t635, t636, t637, t638, t639, t640, t641⟩ : S39) (Kd.N_reads' (Kd.N_mono (ok' := (fun k_ => ((fun k_ => (w.heap.size ≤ k_) ∧ some k_ ≠ (u4 : Value).ownBlock ∧ k_ ≠ gb597 ∧ k_ ≠ gb610)) k_ ∧ some k_ ≠ (u7 : Value).ownBlock)) (HO643.out) (fun k_ hk => ⟨⟨hk.1, ⟨hk.2.1, ⟨hk.2.2.2.1, hk.2.2.2.2⟩⟩⟩, hk.2.2.1⟩))).2.1 (Kd.N_F (Kd.N_mono (ok' := (fun k_ => ((fun k_ => (w.heap.size ≤ k_) ∧ some k_ ≠ (u4 : Value).ownBlock ∧ k_ ≠ gb597 ∧ k_ ≠ gb610)) k_ ∧ some k_ ≠ (u7 : Value).ownBlock)) (HO643.out) (fun k_ hk => ⟨⟨hk.1, ⟨hk.2.1, ⟨hk.2.2.2.1, hk.2.2.2.2⟩⟩⟩, hk.2.2.1⟩))))); (case aB => exact (by repeat (first | (with_reducible first | exact HB.out | apply below_alloc | apply pw_below_drewN | apply below_drew1 | refine below_set ?_ GE597.out | refine below_set ?_ GE610.out) | exact HB.out))); (case aF => exact (fun k_ hk => ⟨(Nat.le_trans (below_size (by repeat (first | (with_reducible first | exact HB.out | apply below_alloc | apply pw_below_drewN | apply below_drew1 | refine below_set ?_ GE597.out | refine below_set ?_ GE610.out) | exact HB.out))) hk), Kd.fresh' (Kd.N_lt (by (with_reducible repeat (first | apply Kd.N_alloc | apply Kd.N_drewN | apply Kd.N_drew)); exact HO_4.out)) k_ hk, Kd.freshB (g := gb597) (o := .cells #[.string (⟨#[]⟩ : ByteArray), .int .i64 0, .bool false, .int .i64 0, .int .u64 0, .float .f64 0, .string (⟨#[]⟩ : ByteArray), .slice none 0 0] 39 (0, 0)) (by (with_reducible repeat (first | refine blk_drewN ?_ _ | refine blk_drew ?_ | refine blk_alloc ?_ _)); exact BK597.out) k_ hk, Kd.freshB (g := gb610) (o := .cells #[.string ((rd_T31 l0 x16_1).f0), .slice (some ad633) ((rd_T31 l0 x16_1).f1).length c609_1, .slice A609_2 ((rd_T31 l0 x16_1).f2).length c609_2] 31 (0, 0)) (by (with_reducible repeat (first | refine blk_drewN ?_ _ | refine blk_drew ?_ | refine blk_alloc ?_ _)); exact BK610.out) k_ hk⟩)); (case aO => exact (by (with_reducible repeat (first | apply Kd.N_alloc | apply Kd.N_drewN | apply Kd.N_drew)); exact Kd.N_mono HO_7.out (fun _ hk => ⟨hk.1.1, ⟨hk.1.2.1, ⟨hk.1.2.2.1, hk.1.2.2.2⟩⟩⟩))); (case aS => exact (below_size (by repeat (first | (with_reducible first | exact HB.out | apply below_alloc | apply pw_below_drewN | apply below_drew1 | refine below_set ?_ GE597.out | refine below_set ?_ GE610.out) | exact HB.out)))); (case aL => have := LMc27.out; omega); intro v645 w31 ho hb hg hat; rw [← Ny644.out] at ho; have n0_ := Aside0.mk (Kd.N_afterv (ok := (fun k_ => (w.heap.size ≤ k_) ∧ some k_ ≠ (.slice Ao32 t641.length co32 : Value).ownBlock ∧ k_ ≠ gb597 ∧ k_ ≠ gb610)) (by (with_reducible repeat (first | apply Kd.N_alloc | apply Kd.N_drewN | apply Kd.N_drew)); exact Kd.N_mono HO_4.out (fun _ hk => ⟨⟨hk.1.1, ⟨hk.2, ⟨hk.1.2.2.1, hk.1.2.2.2⟩⟩⟩, hk.1.2.1⟩)) hg hat); have n1_ := Aside0.mk (Kd.V_afterv (ok := (fun k_ => (w.heap.size ≤ k_) ∧ some k_ ≠ (u4 : Value).ownBlock ∧ some k_ ≠ (.slice Ao32 t641.length co32 : Value).ownBlock ∧ k_ ≠ gb597 ∧ k_ ≠ gb610)) (by (with_reducible repeat (first | apply Kd.V_alloc | apply Kd.V_drewN | apply Kd.V_drew)); exact Kd.V_mono HO_25.out (fun _ hk => ⟨⟨hk.1.1, ⟨hk.1.2.1, ⟨hk.2, ⟨hk.1.2.2.2.1, hk.1.2.2.2.2⟩⟩⟩⟩, hk.1.2.2.1⟩)) hg hat); have n2_ := Aside0.mk (blk_grown (g := gb597) (o := .cells #[.string (⟨#[]⟩ : ByteArray), .int .i64 0, .bool false, .int .i64 0, .int .u64 0, .float .f64 0, .string (⟨#[]⟩ : ByteArray), .slice none 0 0] 39 (0, 0)) (by (with_reducible repeat (first | refine blk_drewN ?_ _ | refine blk_drew ?_ | refine blk_alloc ?_ _)); exact BK597.out) hg (Kd.N_away HO_7.out (fun _ hk => hk.1.2.2.1))); have n3_ := Aside0.mk (blk_grown (g := gb610) (o := .cells #[.string ((rd_T31 l0 x16_1).f0), .slice (some ad633) ((rd_T31 l0 x16_1).f1).length c609_1, .slice A609_2 ((rd_T31 l0 x16_1).f2).length c609_2] 31 (0, 0)) (by (with_reducible repeat (first | refine blk_drewN ?_ _ | refine blk_drew ?_ | refine blk_alloc ?_ _)); exact BK610.out) hg (Kd.N_ne HO_7.out BK610.out (by decide))); have n4_ := Aside0.mk (hb); have n5_ := Aside0.mk (ho); clear HO_4; clear HO_25; clear BK597; clear BK610; clear HB; clear HO_7; clear HO643; have HO_4 := n0_; have HO_25 := n1_; have BK597 := n2_; have BK610 := n3_; have HB := n4_; have HO646 := n5_; clear n0_ n1_ n2_ n3_ n4_ n5_; clear ho hb hg hat))
        go_roundg k2
        case measure => have := HK1.out; have := HK2.out; omega
        case rel => exact ⟨(y644), (wrap64 (x27_2 + 1)), (by first | rfl | (simp; done) | (simp [*]; done)), H', ⟨by have := HK1.out; have := HK2.out; omega⟩, ⟨by (with_reducible repeat (first | apply Kd.N_alloc | apply Kd.N_drewN | apply Kd.N_drew)); exact Kd.N_mono HO_4.out (fun _ hk => ⟨hk.1.1, ⟨hk.2, ⟨hk.1.2.2.1, hk.1.2.2.2⟩⟩⟩)⟩, ⟨by (with_reducible repeat (first | apply Kd.N_alloc | apply Kd.N_drewN | apply Kd.N_drew)); exact HO646.out⟩, ⟨by (with_reducible repeat (first | apply Kd.V_alloc | apply Kd.V_drewN | apply Kd.V_drew)); exact Kd.V_mono HO_25.out (fun _ hk => ⟨hk.1.1, ⟨hk.1.2.1, ⟨hk.2, ⟨hk.1.2.2.2.1, hk.1.2.2.2.2⟩⟩⟩⟩)⟩, ⟨by (with_reducible repeat (first | refine blk_drewN ?_ _ | refine blk_drew ?_ | refine blk_alloc ?_ _)); exact BK597.out⟩, ⟨by (with_reducible repeat (first | refine blk_drewN ?_ _ | refine blk_drew ?_ | refine blk_alloc ?_ _)); exact BK610.out⟩, ⟨by repeat (first | (with_reducible first | exact HB.out | apply below_alloc | apply pw_below_drewN | apply below_drew1 | refine below_set ?_ GE597.out | refine below_set ?_ GE610.out) | exact HB.out)⟩⟩
       ·rw [if_neg c22] at H
        have c22b0 : decide (x27_2 < (y627.length : Int)) = false := decide_eq_false c22
        clear c22
        replace H := Option.bind_eq_some_iff.mp H
        obtain ⟨⟨t647, t648, t649, t650, t651, t652, t653, t654⟩, A330, H⟩ := H
        replace H : (if x4_1.length < 1466015503701 then (spec_RouteTree.l0 k2 (x4_1 ++ [(⟨t647, t648, t649, t650, t651, t652, t653, t654⟩ : S39)]) l0 (l0.length : Int) (wrap64 (x16_1 + 1))) else (none)) = some (r1, r2, r3, r4, r5, r6, r7, r8, r9) := H
        have A33 := Aside0.mk A330
        clear A330
        replace H := guard_inv H
        obtain ⟨c34, H⟩ := H
        have LMc34 := Aside0.mk c34
        clear c34
        obtain ⟨y657, hy657⟩ : ∃ y_ : List (S39), y_ = (x4_1 ++ [(⟨t647, t648, t649, t650, t651, t652, t653, t654⟩ : S39)]) := ⟨_, rfl⟩
        replace H : (spec_RouteTree.l0 k2 y657 l0 (l0.length : Int) (wrap64 (x16_1 + 1))) = some (r1, r2, r3, r4, r5, r6, r7, r8, r9) := by first | (rw [hy657]; with_reducible exact H) | (have H2_ := (Option.bind_some _ _).symm.trans H; rw [hy657]; with_reducible exact H2_) | (have H2_ := (Option.bind_some _ _).symm.trans H; with_reducible exact H2_) | with_reducible exact H | (rw [hy657]; exact H) | exact H
        have Ny657 := Aside0.mk hy657
        clear hy657
        have H' := Aside0.mk H
        clear H
        obtain ⟨Ao35, co35, eo35⟩ := Kd.N_slice HO_7.out
        subst eo35
        go_wp2_with (first | ((with_reducible refine gate_callee (f := 53) rfl ?_); refine goesL_ (some 45) rfl rfl Tryz.func53 (by kernel_rfl) rfl #[.string (⟨#[]⟩ : ByteArray), .slice Ao35 x7_2.length co35] rfl (by (try simp only [List.map_toArray, List.map_cons, List.map_nil]); first | done | rfl | (simp only [List.length_drop, List.length_take]; rfl)) ?_; (with_reducible refine (spec_recordNode.calls (⟨#[]⟩ : ByteArray) (fun k_ => ((w.heap.size ≤ k_) ∧ (some k_ ≠ (u4 : Value).ownBlock ∧ (k_ ≠ gb597 ∧ k_ ≠ gb610)))) _ _ x7_2 t647 t648 t649 t650 t651 t652 t653 t654 _ ?side1 A33.out).mono ?_); (case side1 => exact Kd.N_V (HO_7.out)); rintro e w36 ⟨v655, rfl, ho0, hb⟩; refine ⟨_, rfl, ?_⟩; have n0_ := Aside0.mk (Kd.N_below (by (with_reducible repeat (first | apply Kd.N_alloc | apply Kd.N_drewN | apply Kd.N_drew)); exact HO_4.out) hb); have n1_ := Aside0.mk (Kd.N_below (by (with_reducible repeat (first | apply Kd.N_alloc | apply Kd.N_drewN | apply Kd.N_drew)); exact HO_7.out) hb); have n2_ := Aside0.mk (Kd.V_below (by (with_reducible repeat (first | apply Kd.V_alloc | apply Kd.V_drewN | apply Kd.V_drew)); exact HO_25.out) hb); have n3_ := Aside0.mk (Kd.V_lower (Kd.V_mono (ok' := fun k_ => (w.heap.size ≤ k_) ∧ some k_ ≠ (u4 : Value).ownBlock ∧ k_ ≠ gb597 ∧ k_ ≠ gb610) ho0 (fun k_ hk_ => ⟨Or.elim hk_ (fun hs_ => hs_.1) (fun hn_ => (Nat.le_trans (below_size (by repeat (first | (with_reducible first | exact HB.out | apply below_alloc | apply pw_below_drewN | apply below_drew1 | refine below_set ?_ GE597.out | refine below_set ?_ GE610.out) | exact HB.out))) hn_)), Or.elim hk_ (fun hs_ => hs_.2.1) (fun hn_ => (Kd.fresh' (Kd.N_lt (by (with_reducible repeat (first | apply Kd.N_alloc | apply Kd.N_drewN | apply Kd.N_drew)); exact HO_4.out)) k_ hn_)), Or.elim hk_ (fun hs_ => hs_.2.2.1) (fun hn_ => (Kd.freshB (g := gb597) (o := .cells #[.string (⟨#[]⟩ : ByteArray), .int .i64 0, .bool false, .int .i64 0, .int .u64 0, .float .f64 0, .string (⟨#[]⟩ : ByteArray), .slice none 0 0] 39 (0, 0)) (by (with_reducible repeat (first | refine blk_drewN ?_ _ | refine blk_drew ?_ | refine blk_alloc ?_ _)); exact BK597.out) k_ hn_)), Or.elim hk_ (fun hs_ => hs_.2.2.2) (fun hn_ => (Kd.freshB (g := gb610) (o := .cells #[.string ((rd_T31 l0 x16_1).f0), .slice A609_1 ((rd_T31 l0 x16_1).f1).length c609_1, .slice A609_2 ((rd_T31 l0 x16_1).f2).length c609_2] 31 (0, 0)) (by (with_reducible repeat (first | refine blk_drewN ?_ _ | refine blk_drew ?_ | refine blk_alloc ?_ _)); exact BK610.out) k_ hn_))⟩)) (below_size (by repeat (first | (with_reducible first | exact HB.out | apply below_alloc | apply pw_below_drewN | apply below_drew1 | refine below_set ?_ GE597.out | refine below_set ?_ GE610.out) | exact HB.out)))); have n4_ := Aside0.mk (blk_below (g := gb597) (o := .cells #[.string (⟨#[]⟩ : ByteArray), .int .i64 0, .bool false, .int .i64 0, .int .u64 0, .float .f64 0, .string (⟨#[]⟩ : ByteArray), .slice none 0 0] 39 (0, 0)) (by (with_reducible repeat (first | refine blk_drewN ?_ _ | refine blk_drew ?_ | refine blk_alloc ?_ _)); exact BK597.out) hb); have n5_ := Aside0.mk (blk_below (g := gb610) (o := .cells #[.string ((rd_T31 l0 x16_1).f0), .slice A609_1 ((rd_T31 l0 x16_1).f1).length c609_1, .slice A609_2 ((rd_T31 l0 x16_1).f2).length c609_2] 31 (0, 0)) (by (with_reducible repeat (first | refine blk_drewN ?_ _ | refine blk_drew ?_ | refine blk_alloc ?_ _)); exact BK610.out) hb); have n6_ := Aside0.mk (below_step (by repeat (first | (with_reducible first | exact HB.out | apply below_alloc | apply pw_below_drewN | apply below_drew1 | refine below_set ?_ GE597.out | refine below_set ?_ GE610.out) | exact HB.out)) hb); clear HO_4; clear HO_7; clear HO_25; clear BK597; clear BK610; clear HB; have HO_4 := n0_; have HO_7 := n1_; have HO_25 := n2_; have HO656 := n3_; have BK597 := n4_; have BK610 := n5_; have HB := n6_; clear n0_ n1_ n2_ n3_ n4_ n5_ n6_; (try clear hb); (try clear hb2); (try clear hk); (try clear hi); (try clear ho0); obtain ⟨Ao38, co38, eo38⟩ := Kd.V_slice HO656.out; subst eo38) | ((with_reducible refine gate_builtin (b := .append) (xs := #[.tmp 43, .tmp 46]) rfl ?_); at_builtin; refine Kd.N_append k39 (w0 := w) w.heap.size rfl (.tmp 43) (.tmp 46) 37 39 (.agg #[(.string ⟨#[]⟩), (.int .i64 0), (.bool false), (.int .i64 0), (.int .u64 0), (.float .f64 0), (.string ⟨#[]⟩), (.slice none 0 0)]) 96 rfl Tryz.underlying37 info39 rfl (by decide) (by omega) u4 x4_1 (⟨t647, t648, t649, t650, t651, t652, t653, t654⟩ : S39) [.string t647, .int .i64 t648, .bool t649, .int .i64 t650, .int .u64 t651, .float .f64 t652, .string t653, .slice Ao38 t654.length co38] (fun k_ => (w.heap.size ≤ k_) ∧ k_ ≠ gb597 ∧ k_ ≠ gb610) (fun k_ => ((fun k_ => (w.heap.size ≤ k_) ∧ k_ ≠ gb597 ∧ k_ ≠ gb610)) k_ ∧ some k_ ≠ (u4 : Value).ownBlock) rfl rfl ?aP (fun _ hk => hk) ?aF ?aO ?aB ?aS ?aL ?_; (case aP => exact (k39_mkF _ _ (⟨t647, t648, t649, t650, t651, t652, t653, t654⟩ : S39) (Kd.V_reads' (Kd.V_mono (ok' := (fun k_ => ((fun k_ => (w.heap.size ≤ k_) ∧ k_ ≠ gb597 ∧ k_ ≠ gb610)) k_ ∧ some k_ ≠ (u4 : Value).ownBlock)) (HO656.out) (fun k_ hk => ⟨⟨hk.1, ⟨hk.2.2.1, hk.2.2.2⟩⟩, hk.2.1⟩))).2.1 (Kd.V_F (Kd.V_mono (ok' := (fun k_ => ((fun k_ => (w.heap.size ≤ k_) ∧ k_ ≠ gb597 ∧ k_ ≠ gb610)) k_ ∧ some k_ ≠ (u4 : Value).ownBlock)) (HO656.out) (fun k_ hk => ⟨⟨hk.1, ⟨hk.2.2.1, hk.2.2.2⟩⟩, hk.2.1⟩))))); (case aB => exact (by repeat (first | (with_reducible first | exact HB.out | apply below_alloc | apply pw_below_drewN | apply below_drew1 | refine below_set ?_ GE597.out | refine below_set ?_ GE610.out) | exact HB.out))); (case aF => exact (fun k_ hk => ⟨(Nat.le_trans (below_size (by repeat (first | (with_reducible first | exact HB.out | apply below_alloc | apply pw_below_drewN | apply below_drew1 | refine below_set ?_ GE597.out | refine below_set ?_ GE610.out) | exact HB.out))) hk), Kd.freshB (g := gb597) (o := .cells #[.string (⟨#[]⟩ : ByteArray), .int .i64 0, .bool false, .int .i64 0, .int .u64 0, .float .f64 0, .string (⟨#[]⟩ : ByteArray), .slice none 0 0] 39 (0, 0)) (by (with_reducible repeat (first | refine blk_drewN ?_ _ | refine blk_drew ?_ | refine blk_alloc ?_ _)); exact BK597.out) k_ hk, Kd.freshB (g := gb610) (o := .cells #[.string ((rd_T31 l0 x16_1).f0), .slice A609_1 ((rd_T31 l0 x16_1).f1).length c609_1, .slice A609_2 ((rd_T31 l0 x16_1).f2).length c609_2] 31 (0, 0)) (by (with_reducible repeat (first | refine blk_drewN ?_ _ | refine blk_drew ?_ | refine blk_alloc ?_ _)); exact BK610.out) k_ hk⟩)); (case aO => exact (by (with_reducible repeat (first | apply Kd.N_alloc | apply Kd.N_drewN | apply Kd.N_drew)); exact Kd.N_mono HO_4.out (fun _ hk => ⟨hk.1, ⟨hk.2.2.1, hk.2.2.2⟩⟩))); (case aS => exact (below_size (by repeat (first | (with_reducible first | exact HB.out | apply below_alloc | apply pw_below_drewN | apply below_drew1 | refine below_set ?_ GE597.out | refine below_set ?_ GE610.out) | exact HB.out)))); (case aL => have := LMc34.out; omega); intro v658 w37 ho hb hg hat; rw [← Ny657.out] at ho; have n0_ := Aside0.mk (Kd.N_afterv (ok := (fun k_ => (w.heap.size ≤ k_) ∧ k_ ≠ gb597 ∧ k_ ≠ gb610)) (by (with_reducible repeat (first | apply Kd.N_alloc | apply Kd.N_drewN | apply Kd.N_drew)); exact Kd.N_mono HO_7.out (fun _ hk => ⟨⟨hk.1, ⟨hk.2.2.1, hk.2.2.2⟩⟩, hk.2.1⟩)) hg hat); have n1_ := Aside0.mk (Kd.V_afterv (ok := (fun k_ => (w.heap.size ≤ k_) ∧ some k_ ≠ (.slice Ao35 x7_2.length co35 : Value).ownBlock ∧ k_ ≠ gb597 ∧ k_ ≠ gb610)) (by (with_reducible repeat (first | apply Kd.V_alloc | apply Kd.V_drewN | apply Kd.V_drew)); exact Kd.V_mono HO_25.out (fun _ hk => ⟨⟨hk.1, ⟨hk.2.2.1, ⟨hk.2.2.2.1, hk.2.2.2.2⟩⟩⟩, hk.2.1⟩)) hg hat); have n2_ := Aside0.mk (blk_grown (g := gb597) (o := .cells #[.string (⟨#[]⟩ : ByteArray), .int .i64 0, .bool false, .int .i64 0, .int .u64 0, .float .f64 0, .string (⟨#[]⟩ : ByteArray), .slice none 0 0] 39 (0, 0)) (by (with_reducible repeat (first | refine blk_drewN ?_ _ | refine blk_drew ?_ | refine blk_alloc ?_ _)); exact BK597.out) hg (Kd.N_away HO_4.out (fun _ hk => hk.2.2.1))); have n3_ := Aside0.mk (blk_grown (g := gb610) (o := .cells #[.string ((rd_T31 l0 x16_1).f0), .slice A609_1 ((rd_T31 l0 x16_1).f1).length c609_1, .slice A609_2 ((rd_T31 l0 x16_1).f2).length c609_2] 31 (0, 0)) (by (with_reducible repeat (first | refine blk_drewN ?_ _ | refine blk_drew ?_ | refine blk_alloc ?_ _)); exact BK610.out) hg (Kd.N_ne HO_4.out BK610.out (by decide))); have n4_ := Aside0.mk (Kd.V_afterv (ok := (fun k_ => (w.heap.size ≤ k_) ∧ k_ ≠ gb597 ∧ k_ ≠ gb610)) (by (with_reducible repeat (first | apply Kd.V_alloc | apply Kd.V_drewN | apply Kd.V_drew)); exact Kd.V_mono HO656.out (fun _ hk => ⟨⟨hk.1, ⟨hk.2.2.1, hk.2.2.2⟩⟩, hk.2.1⟩)) hg hat); have n5_ := Aside0.mk (hb); have n6_ := Aside0.mk (ho); clear HO_7; clear HO_25; clear BK597; clear BK610; clear HO656; clear HB; clear HO_4; have HO_7 := n0_; have HO_25 := n1_; have BK597 := n2_; have BK610 := n3_; have HO656 := n4_; have HB := n5_; have HO659 := n6_; clear n0_ n1_ n2_ n3_ n4_ n5_ n6_; clear ho hb hg hat))
        go_roundg k2
        case measure => have := HK1.out; have := HK2.out; omega
        case rel => exact ⟨(y657), (wrap64 (x16_1 + 1)), (by first | rfl | (simp; done) | (simp [*]; done)), H', ⟨by have := HK1.out; have := HK2.out; omega⟩, ⟨by (with_reducible repeat (first | apply Kd.N_alloc | apply Kd.N_drewN | apply Kd.N_drew)); exact Kd.N_mono HO659.out (fun _ hk => ⟨hk.1, hk.2.1⟩)⟩, ⟨by (with_reducible repeat (first | refine blk_drewN ?_ _ | refine blk_drew ?_ | refine blk_alloc ?_ _)); exact BK597.out⟩, ⟨by repeat (first | (with_reducible first | exact HB.out | apply below_alloc | apply pw_below_drewN | apply below_drew1 | refine below_set ?_ GE597.out | refine below_set ?_ GE610.out) | exact HB.out)⟩⟩
    ·rw [if_neg c6] at H
     have c6b0 : decide (x16_1 < (l0.length : Int)) = false := decide_eq_false c6
     clear c6
     replace H := Option.bind_eq_some_iff.mp H
     obtain ⟨⟨t599, t600, t601, t602, t603, t604, t605, t606⟩, A390, H⟩ := H
     replace H : (some (t599, t600, t601, t602, t603, t604, t605, t606, 1)) = some (r1, r2, r3, r4, r5, r6, r7, r8, r9) := H
     have A39 := Aside0.mk A390
     clear A390
     simp only [Option.some.injEq, Prod.mk.injEq] at H
     obtain ⟨rfl, rfl, rfl, rfl, rfl, rfl, rfl, rfl, rfl⟩ := H
     obtain ⟨Ao40, co40, eo40⟩ := Kd.N_slice HO_4.out
     subst eo40
     go_wp2_with (first | ((with_reducible refine gate_callee (f := 66) rfl ?_); refine goesL_ (some 50) rfl rfl Tryz.func66 (by kernel_rfl) rfl #[.string (⟨#[]⟩ : ByteArray), .slice Ao40 x4_1.length co40] rfl (by (try simp only [List.map_toArray, List.map_cons, List.map_nil]); first | done | rfl | (simp only [List.length_drop, List.length_take]; rfl)) ?_; (with_reducible refine (spec_listNode.calls (⟨#[]⟩ : ByteArray) (fun k_ => ((w.heap.size ≤ k_) ∧ k_ ≠ gb597)) _ _ x4_1 t599 t600 t601 t602 t603 t604 t605 t606 _ ?side1 A39.out).mono ?_); (case side1 => exact Kd.N_V (HO_4.out)); rintro e w41 ⟨v607, rfl, ho0, hb⟩; refine ⟨_, rfl, ?_⟩; have n0_ := Aside0.mk (Kd.N_below (by (with_reducible repeat (first | apply Kd.N_alloc | apply Kd.N_drewN | apply Kd.N_drew)); exact HO_4.out) hb); have n1_ := Aside0.mk (Kd.V_lower (Kd.V_mono (ok' := fun k_ => (w.heap.size ≤ k_) ∧ k_ ≠ gb597) ho0 (fun k_ hk_ => ⟨Or.elim hk_ (fun hs_ => hs_.1) (fun hn_ => (Nat.le_trans (below_size (by repeat (first | (with_reducible first | exact HB.out | apply below_alloc | apply pw_below_drewN | apply below_drew1 | refine below_set ?_ GE597.out) | exact HB.out))) hn_)), Or.elim hk_ (fun hs_ => hs_.2) (fun hn_ => (Kd.freshB (g := gb597) (o := .cells #[.string (⟨#[]⟩ : ByteArray), .int .i64 0, .bool false, .int .i64 0, .int .u64 0, .float .f64 0, .string (⟨#[]⟩ : ByteArray), .slice none 0 0] 39 (0, 0)) (by (with_reducible repeat (first | refine blk_drewN ?_ _ | refine blk_drew ?_ | refine blk_alloc ?_ _)); exact BK597.out) k_ hn_))⟩)) (below_size (by repeat (first | (with_reducible first | exact HB.out | apply below_alloc | apply pw_below_drewN | apply below_drew1 | refine below_set ?_ GE597.out) | exact HB.out)))); have n2_ := Aside0.mk (blk_below (g := gb597) (o := .cells #[.string (⟨#[]⟩ : ByteArray), .int .i64 0, .bool false, .int .i64 0, .int .u64 0, .float .f64 0, .string (⟨#[]⟩ : ByteArray), .slice none 0 0] 39 (0, 0)) (by (with_reducible repeat (first | refine blk_drewN ?_ _ | refine blk_drew ?_ | refine blk_alloc ?_ _)); exact BK597.out) hb); have n3_ := Aside0.mk (below_step (by repeat (first | (with_reducible first | exact HB.out | apply below_alloc | apply pw_below_drewN | apply below_drew1 | refine below_set ?_ GE597.out) | exact HB.out)) hb); clear HO_4; clear BK597; clear HB; have HO_4 := n0_; have HO608 := n1_; have BK597 := n2_; have HB := n3_; clear n0_ n1_ n2_ n3_; (try clear hb); (try clear hb2); (try clear hk); (try clear hi); (try clear ho0); have hcz42_0 : w41.cell? ⟨gb597, 0, none⟩ = some (.string (⟨#[]⟩ : ByteArray)) := (blk_cell BK597.out 0).trans rfl; have hcz42_1 : w41.cell? ⟨gb597, 1, none⟩ = some (.int .i64 0) := (blk_cell BK597.out 1).trans rfl; have hcz42_2 : w41.cell? ⟨gb597, 2, none⟩ = some (.bool false) := (blk_cell BK597.out 2).trans rfl; have hcz42_3 : w41.cell? ⟨gb597, 3, none⟩ = some (.int .i64 0) := (blk_cell BK597.out 3).trans rfl; have hcz42_4 : w41.cell? ⟨gb597, 4, none⟩ = some (.int .u64 0) := (blk_cell BK597.out 4).trans rfl; have hcz42_5 : w41.cell? ⟨gb597, 5, none⟩ = some (.float .f64 0) := (blk_cell BK597.out 5).trans rfl; have hcz42_6 : w41.cell? ⟨gb597, 6, none⟩ = some (.string (⟨#[]⟩ : ByteArray)) := (blk_cell BK597.out 6).trans rfl; have hcz42_7 : w41.cell? ⟨gb597, 7, none⟩ = some (.slice none 0 0) := (blk_cell BK597.out 7).trans rfl; have hfz42_0 := blk_frozen BK597.out 0; have hfz42_1 := blk_frozen BK597.out 1; have hfz42_2 := blk_frozen BK597.out 2; have hfz42_3 := blk_frozen BK597.out 3; have hfz42_4 := blk_frozen BK597.out 4; have hfz42_5 := blk_frozen BK597.out 5; have hfz42_6 := blk_frozen BK597.out 6; have hfz42_7 := blk_frozen BK597.out 7; obtain ⟨Ao43, co43, eo43⟩ := Kd.V_slice HO608.out; subst eo43))
     refine bodyPost_ret (results_ct rfl _ _ gb597 39 #[.string t599, .int .i64 t600, .bool t601, .int .i64 t602, .int .u64 t603, .float .f64 t604, .string t605, .slice Ao43 t606.length co43] (0, 0) _ rfl (by (with_reducible repeat (first | refine blk_drewN ?_ _ | refine blk_drew ?_ | refine blk_alloc ?_ _)); refine blk_put (cs := #[.string t599, .int .i64 t600, .bool t601, .int .i64 t602, .int .u64 t603, .float .f64 t604, .string t605, .slice none 0 0]) ?_ 7 _ rfl; (with_reducible repeat (first | refine blk_drewN ?_ _ | refine blk_drew ?_ | refine blk_alloc ?_ _)); refine blk_put (cs := #[.string t599, .int .i64 t600, .bool t601, .int .i64 t602, .int .u64 t603, .float .f64 t604, .string (⟨#[]⟩ : ByteArray), .slice none 0 0]) ?_ 6 _ rfl; (with_reducible repeat (first | refine blk_drewN ?_ _ | refine blk_drew ?_ | refine blk_alloc ?_ _)); refine blk_put (cs := #[.string t599, .int .i64 t600, .bool t601, .int .i64 t602, .int .u64 t603, .float .f64 0, .string (⟨#[]⟩ : ByteArray), .slice none 0 0]) ?_ 5 _ rfl; (with_reducible repeat (first | refine blk_drewN ?_ _ | refine blk_drew ?_ | refine blk_alloc ?_ _)); refine blk_put (cs := #[.string t599, .int .i64 t600, .bool t601, .int .i64 t602, .int .u64 0, .float .f64 0, .string (⟨#[]⟩ : ByteArray), .slice none 0 0]) ?_ 4 _ rfl; (with_reducible repeat (first | refine blk_drewN ?_ _ | refine blk_drew ?_ | refine blk_alloc ?_ _)); refine blk_put (cs := #[.string t599, .int .i64 t600, .bool t601, .int .i64 0, .int .u64 0, .float .f64 0, .string (⟨#[]⟩ : ByteArray), .slice none 0 0]) ?_ 3 _ rfl; (with_reducible repeat (first | refine blk_drewN ?_ _ | refine blk_drew ?_ | refine blk_alloc ?_ _)); refine blk_put (cs := #[.string t599, .int .i64 t600, .bool false, .int .i64 0, .int .u64 0, .float .f64 0, .string (⟨#[]⟩ : ByteArray), .slice none 0 0]) ?_ 2 _ rfl; (with_reducible repeat (first | refine blk_drewN ?_ _ | refine blk_drew ?_ | refine blk_alloc ?_ _)); refine blk_put (cs := #[.string t599, .int .i64 0, .bool false, .int .i64 0, .int .u64 0, .float .f64 0, .string (⟨#[]⟩ : ByteArray), .slice none 0 0]) ?_ 1 _ rfl; (with_reducible repeat (first | refine blk_drewN ?_ _ | refine blk_drew ?_ | refine blk_alloc ?_ _)); refine blk_put (cs := #[.string (⟨#[]⟩ : ByteArray), .int .i64 0, .bool false, .int .i64 0, .int .u64 0, .float .f64 0, .string (⟨#[]⟩ : ByteArray), .slice none 0 0]) ?_ 0 _ rfl; (with_reducible repeat (first | refine blk_drewN ?_ _ | refine blk_drew ?_ | refine blk_alloc ?_ _)); exact BK597.out) Tryz.underlying39 rfl (by kernel_rfl)) rfl ?_
     exact ⟨_, by first | rfl | (simp [errW_none, errW_some] <;> rfl) | (simp [*, errW_none, errW_some] <;> rfl), by (with_reducible repeat (first | apply Kd.V_alloc | apply Kd.V_drewN | apply Kd.V_drew)); exact Kd.V_mono (Kd.V_far (p := ⟨gb597, 7, none⟩) (Kd.V_far (p := ⟨gb597, 6, none⟩) (Kd.V_far (p := ⟨gb597, 5, none⟩) (Kd.V_far (p := ⟨gb597, 4, none⟩) (Kd.V_far (p := ⟨gb597, 3, none⟩) (Kd.V_far (p := ⟨gb597, 2, none⟩) (Kd.V_far (p := ⟨gb597, 1, none⟩) (Kd.V_far (p := ⟨gb597, 0, none⟩) (Kd.V_mono HO608.out (fun k_ hk => (⟨hk, hk.2⟩ : _ ∧ k_ ≠ gb597))) (fun _ hk => hk.2) (.string t599)) (fun _ hk => hk.2) (.int .i64 t600)) (fun _ hk => hk.2) (.bool t601)) (fun _ hk => hk.2) (.int .i64 t602)) (fun _ hk => hk.2) (.int .u64 t603)) (fun _ hk => hk.2) (.float .f64 t604)) (fun _ hk => hk.2) (.string t605)) (fun _ hk => hk.2) (.slice Ao43 t606.length co43)) (fun _ hk => hk.1.1), by repeat (first | (with_reducible first | exact HB.out | apply below_alloc | apply pw_below_drewN | apply below_drew1 | refine below_set ?_ GE597.out) | exact HB.out)⟩
 ·replace c3 := Bool.eq_false_iff.mpr c3
  subst c3
  have H1 : (some ((⟨#[]⟩ : ByteArray), 0, false, 0, 0, 0, (⟨#[]⟩ : ByteArray), ([] : List (S39)), 2)) = some (r1, r2, r3, r4, r5, r6, r7, r8, r9) := by rw [if_neg (show ¬ (false = true) by decide)] at H; exact H
  clear H
  have H := H1
  clear H1
  simp only [Option.some.injEq, Prod.mk.injEq] at H
  obtain ⟨rfl, rfl, rfl, rfl, rfl, rfl, rfl, rfl, rfl⟩ := H
  go_enter Tryz.func34, Tryz.ntmps34
  go_wp2_with (first | ((with_reducible refine gate_dst (N := 2) rfl ?_); refine box_event ?hg (N := 2) ?hd (cs := #[.string (⟨#[]⟩ : ByteArray), .int .i64 0, .bool false, .int .i64 0, .int .u64 0, .float .f64 0, .string (⟨#[]⟩ : ByteArray), .slice none 0 0]) (t := 39) ?hr ?_; (case hd => rfl); (case hg => rfl); (case hr => first | (go_simp; done) | (go_simp; rfl)); intro gb597 hg w44 hbox hb; have n0_ := Aside0.mk (below_step (by repeat (first | (with_reducible first | exact HB.out | apply below_alloc | apply pw_below_drewN | apply below_drew1) | exact HB.out)) hb); have n1_ := Aside0.mk (hbox); have n2_ := Aside0.mk ((by rw [hg]; exact (below_size (by repeat (first | (with_reducible first | exact HB.out | apply below_alloc | apply pw_below_drewN | apply below_drew1) | exact HB.out))) : w.heap.size ≤ gb597)); have n3_ := Aside0.mk ((by rw [hg]; exact (below_size (by repeat (first | (with_reducible first | exact HB.out | apply below_alloc | apply pw_below_drewN | apply below_drew1) | exact HB.out))) : w.heap.size ≤ gb597)); clear HB; have HB := n0_; have BK597 := n1_; have GW597 := n2_; have GE597 := n3_; clear n0_ n1_ n2_ n3_; clear hb hbox hg) | ((with_reducible refine gate_callee (f := 104) rfl ?_); refine goesL_ (some 11) rfl rfl Tryz.func104 (by kernel_rfl) rfl #[.slice A0 l0.length c0] rfl (by (try simp only [List.map_toArray, List.map_cons, List.map_nil]); first | done | rfl | (simp only [List.length_drop, List.length_take]; rfl)) ?_; (with_reducible refine (spec_routeFine.calls k _ _ l0 false _ ?side1 ?side2 A2.out).mono ?_); (case side1 => repeat (first | exact (Kd.C_below HR0.out HB.out) | (with_reducible refine Kd.C_alloc ?_ _) | (with_reducible refine Kd.C_drewN ?_ _) | (with_reducible refine Kd.C_drew ?_))); (case side2 => exact HC0.out); rintro e w45 ⟨rfl, hb⟩; refine ⟨_, rfl, ?_⟩; have n0_ := Aside0.mk (blk_below (g := gb597) (o := .cells #[.string (⟨#[]⟩ : ByteArray), .int .i64 0, .bool false, .int .i64 0, .int .u64 0, .float .f64 0, .string (⟨#[]⟩ : ByteArray), .slice none 0 0] 39 (0, 0)) (by (with_reducible repeat (first | refine blk_drewN ?_ _ | refine blk_drew ?_ | refine blk_alloc ?_ _)); exact BK597.out) hb); have n1_ := Aside0.mk (below_step (by repeat (first | (with_reducible first | exact HB.out | apply below_alloc | apply pw_below_drewN | apply below_drew1 | refine below_set ?_ GE597.out) | exact HB.out)) hb); clear BK597; clear HB; have BK597 := n0_; have HB := n1_; clear n0_ n1_; (try clear hb); (try clear hb2); (try clear hk); (try clear hi); have hcz46_0 : w45.cell? ⟨gb597, 0, none⟩ = some (.string (⟨#[]⟩ : ByteArray)) := (blk_cell BK597.out 0).trans rfl; have hcz46_1 : w45.cell? ⟨gb597, 1, none⟩ = some (.int .i64 0) := (blk_cell BK597.out 1).trans rfl; have hcz46_2 : w45.cell? ⟨gb597, 2, none⟩ = some (.bool false) := (blk_cell BK597.out 2).trans rfl; have hcz46_3 : w45.cell? ⟨gb597, 3, none⟩ = some (.int .i64 0) := (blk_cell BK597.out 3).trans rfl; have hcz46_4 : w45.cell? ⟨gb597, 4, none⟩ = some (.int .u64 0) := (blk_cell BK597.out 4).trans rfl; have hcz46_5 : w45.cell? ⟨gb597, 5, none⟩ = some (.float .f64 0) := (blk_cell BK597.out 5).trans rfl; have hcz46_6 : w45.cell? ⟨gb597, 6, none⟩ = some (.string (⟨#[]⟩ : ByteArray)) := (blk_cell BK597.out 6).trans rfl; have hcz46_7 : w45.cell? ⟨gb597, 7, none⟩ = some (.slice none 0 0) := (blk_cell BK597.out 7).trans rfl; have hfz46_0 := blk_frozen BK597.out 0; have hfz46_1 := blk_frozen BK597.out 1; have hfz46_2 := blk_frozen BK597.out 2; have hfz46_3 := blk_frozen BK597.out 3; have hfz46_4 := blk_frozen BK597.out 4; have hfz46_5 := blk_frozen BK597.out 5; have hfz46_6 := blk_frozen BK597.out 6; have hfz46_7 := blk_frozen BK597.out 7))
  refine bodyPost_ret (results_ct rfl _ _ gb597 39 #[.string (⟨#[]⟩ : ByteArray), .int .i64 0, .bool false, .int .i64 0, .int .u64 0, .float .f64 0, .string (⟨#[]⟩ : ByteArray), .slice none 0 0] (0, 0) _ rfl (by (with_reducible repeat (first | refine blk_drewN ?_ _ | refine blk_drew ?_ | refine blk_alloc ?_ _)); refine blk_put (cs := #[.string (⟨#[]⟩ : ByteArray), .int .i64 0, .bool false, .int .i64 0, .int .u64 0, .float .f64 0, .string (⟨#[]⟩ : ByteArray), .slice none 0 0]) ?_ 7 _ rfl; (with_reducible repeat (first | refine blk_drewN ?_ _ | refine blk_drew ?_ | refine blk_alloc ?_ _)); refine blk_put (cs := #[.string (⟨#[]⟩ : ByteArray), .int .i64 0, .bool false, .int .i64 0, .int .u64 0, .float .f64 0, .string (⟨#[]⟩ : ByteArray), .slice none 0 0]) ?_ 6 _ rfl; (with_reducible repeat (first | refine blk_drewN ?_ _ | refine blk_drew ?_ | refine blk_alloc ?_ _)); refine blk_put (cs := #[.string (⟨#[]⟩ : ByteArray), .int .i64 0, .bool false, .int .i64 0, .int .u64 0, .float .f64 0, .string (⟨#[]⟩ : ByteArray), .slice none 0 0]) ?_ 5 _ rfl; (with_reducible repeat (first | refine blk_drewN ?_ _ | refine blk_drew ?_ | refine blk_alloc ?_ _)); refine blk_put (cs := #[.string (⟨#[]⟩ : ByteArray), .int .i64 0, .bool false, .int .i64 0, .int .u64 0, .float .f64 0, .string (⟨#[]⟩ : ByteArray), .slice none 0 0]) ?_ 4 _ rfl; (with_reducible repeat (first | refine blk_drewN ?_ _ | refine blk_drew ?_ | refine blk_alloc ?_ _)); refine blk_put (cs := #[.string (⟨#[]⟩ : ByteArray), .int .i64 0, .bool false, .int .i64 0, .int .u64 0, .float .f64 0, .string (⟨#[]⟩ : ByteArray), .slice none 0 0]) ?_ 3 _ rfl; (with_reducible repeat (first | refine blk_drewN ?_ _ | refine blk_drew ?_ | refine blk_alloc ?_ _)); refine blk_put (cs := #[.string (⟨#[]⟩ : ByteArray), .int .i64 0, .bool false, .int .i64 0, .int .u64 0, .float .f64 0, .string (⟨#[]⟩ : ByteArray), .slice none 0 0]) ?_ 2 _ rfl; (with_reducible repeat (first | refine blk_drewN ?_ _ | refine blk_drew ?_ | refine blk_alloc ?_ _)); refine blk_put (cs := #[.string (⟨#[]⟩ : ByteArray), .int .i64 0, .bool false, .int .i64 0, .int .u64 0, .float .f64 0, .string (⟨#[]⟩ : ByteArray), .slice none 0 0]) ?_ 1 _ rfl; (with_reducible repeat (first | refine blk_drewN ?_ _ | refine blk_drew ?_ | refine blk_alloc ?_ _)); refine blk_put (cs := #[.string (⟨#[]⟩ : ByteArray), .int .i64 0, .bool false, .int .i64 0, .int .u64 0, .float .f64 0, .string (⟨#[]⟩ : ByteArray), .slice none 0 0]) ?_ 0 _ rfl; (with_reducible repeat (first | refine blk_drewN ?_ _ | refine blk_drew ?_ | refine blk_alloc ?_ _)); exact BK597.out) Tryz.underlying39 rfl (by kernel_rfl)) rfl ?_
  exact ⟨_, by first | rfl | (simp [errW_none, errW_some] <;> rfl) | (simp [*, errW_none, errW_some] <;> rfl), Kd.N_V (base := 0) (by first | exact Kd.R_nil _ _ _ _ _ | exact Kd.N_nil _ _ _ _ _ | exact Kd.V_nil _ _ _ _ _ | exact Kd.Q_nil _ _ _ _ _ | exact Kd.S_nil _ _ _ _ _), by repeat (first | (with_reducible first | exact HB.out | apply below_alloc | apply pw_below_drewN | apply below_drew1 | refine below_set ?_ GE597.out) | exact HB.out)⟩
end Go.Proofs.YtednjmngalmdkaaGreatDoor.GPC
end
