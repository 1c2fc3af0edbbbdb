/- Texts of this claim, put together: GPEx21, GivenSdF, GivenSdT, GPEx18, GPEx19. Conditions: as each one says. -/
import Derived.Test.YtednjmngalmdkaaGreatDoorKSd0
import Derived.Test.YtednjmngalmdkaaGreatDoorKSd1
import Derived.Test.YtednjmngalmdkaaGreatDoorKSd2
import Derived.Test.YtednjmngalmdkaaGreatDoorKSd3
import Derived.Test.YtednjmngalmdkaaGreatDoorProg
import Derived.Below
import Derived.Deep.Draws
import Derived.Deep.AppendLies
import Derived.Maps.AppendAt
import Derived.OwnWalk
import Derived.Laws.BytesArg
import Derived.Laws.MakeOwn
import Derived.Laws.OwnMore
import Derived.Deep.OwnRows
import Derived.Tactics
import Derived.Lib.ConvBytes
import Derived.Laws.Slices
import Derived.WalkKit
import Derived.KernelRfl
import Derived.RowKit3
import Derived.Deep.LoopGhost
import Derived.Deep.QuietTactic
import Derived.BigQuiet
import Derived.WideLaws
import Derived.Deep.DeepCutAuto
import Derived.Deep.CutBlock
import Derived.Deep.RegionHeld3
import Derived.Laws.Rows
import Derived.Lib.AppendStr
import Derived.ArgAppend
import Derived.Laws.IdiomCopy
import Derived.OrdersHeld
import Derived.Laws.BitsLemmas
import Derived.RowKit
import Derived.Laws.Cover3
import Derived.Defers
import Derived.Recover
section
namespace Go.Proofs.YtednjmngalmdkaaGreatDoor.GPC
open Go.RowKit Go.Proofs.YtednjmngalmdkaaGreatDoorW.PrintWords Go.Proofs.YtednjmngalmdkaaGreatDoorW.PrintLast Go.Proofs.YtednjmngalmdkaaGreatDoorW.PrintMore
attribute [local go_sem] max2_int min2_int max_two min_two max_three min_three max_four min_four   -- for this text's walks alone
set_option linter.unusedVariables false
set_option linter.unusedSimpArgs false

attribute [local go_sem] run_store_float
/-! ### procfs_zzNumbers: function 156 -/
mutual
def procfs_zzNumbers.l0 : Nat → ByteArray → ByteArray → Int → Int → Option (List ByteArray)
 | 0, _, _, _, _ => none
 | k + 1, x0, x1, x2, x7 => if (wrap64 (x7 + (x1.size : Int))) ≤ (x0.size : Int) then (if 0 ≤ x7 then (if x7 ≤ (wrap64 (x7 + (x1.size : Int))) then (if (x0.extract (x7 : Int).toNat ((wrap64 (x7 + (x1.size : Int))) : Int).toNat).toList = x1.toList then (procfs_zzNumbers.l1 k x0 x1 x2 x7 (wrap64 (x7 + (x1.size : Int))) (([(⟨#[]⟩ : ByteArray)] : List ByteArray))) else (procfs_zzNumbers.l0 k x0 x1 x2 (wrap64 (x7 + 1)))) else (none)) else (none)) else (some ([] : List ByteArray))
def procfs_zzNumbers.l1 : Nat → ByteArray → ByteArray → Int → Int → Int → List ByteArray → Option (List ByteArray)
 | 0, _, _, _, _, _, _ => none
 | k + 1, x0, x1, x2, x7, x8, x9 => if (x9.length : Int) ≤ x2 then (if (x9.length : Int) > 1 then (if x8 = (x0.size : Int) then (if (x9.length : Int) > x2 then (if 0 ≤ x7 then (if x7 ≤ x8 then (if x8 ≤ (x0.size : Int) then (if 0 < (x9.length : Int) then (some (x9.set (0 : Int).toNat (x0.extract (x7 : Int).toNat (x8 : Int).toNat))) else (none)) else (none)) else (none)) else (none)) else (procfs_zzNumbers.l0 k x0 x1 x2 (wrap64 (x7 + 1)))) else (if 0 ≤ x8 then (if x8 < (x0.size : Int) then (if (bt x0 x8) = 32 then (procfs_zzNumbers.j2 k x0 x1 x2 x7 (wrap64 (x8 + 1)) x9) else (if (x9.length : Int) > x2 then (if 0 ≤ x7 then (if x7 ≤ x8 then (if x8 ≤ (x0.size : Int) then (if 0 < (x9.length : Int) then (some (x9.set (0 : Int).toNat (x0.extract (x7 : Int).toNat (x8 : Int).toNat))) else (none)) else (none)) else (none)) else (none)) else (procfs_zzNumbers.l0 k x0 x1 x2 (wrap64 (x7 + 1))))) else (none)) else (none))) else (procfs_zzNumbers.j2 k x0 x1 x2 x7 x8 x9)) else (if (x9.length : Int) > x2 then (if 0 ≤ x7 then (if x7 ≤ x8 then (if x8 ≤ (x0.size : Int) then (if 0 < (x9.length : Int) then (some (x9.set (0 : Int).toNat (x0.extract (x7 : Int).toNat (x8 : Int).toNat))) else (none)) else (none)) else (none)) else (none)) else (procfs_zzNumbers.l0 k x0 x1 x2 (wrap64 (x7 + 1))))
def procfs_zzNumbers.j2 : Nat → ByteArray → ByteArray → Int → Int → Int → List ByteArray → Option (List ByteArray)
 | 0, _, _, _, _, _, _ => none
 | k + 1, x0, x1, x2, x7, x8, x9 => procfs_zzNumbers.l2 k x0 x1 x2 x7 x8 x9 x8
def procfs_zzNumbers.l2 : Nat → ByteArray → ByteArray → Int → Int → Int → List ByteArray → Int → Option (List ByteArray)
 | 0, _, _, _, _, _, _, _ => none
 | k + 1, x0, x1, x2, x7, x8, x9, x10 => if x8 < (x0.size : Int) then (if 0 ≤ x8 then (if (bt x0 x8) ≥ 48 then (if (bt x0 x8) ≤ 57 then (procfs_zzNumbers.l2 k x0 x1 x2 x7 (wrap64 (x8 + 1)) x9 x10) else (if x8 = x10 then (if (x9.length : Int) > x2 then (if 0 ≤ x7 then (if x7 ≤ x8 then (if x8 ≤ (x0.size : Int) then (if 0 < (x9.length : Int) then (some (x9.set (0 : Int).toNat (x0.extract (x7 : Int).toNat (x8 : Int).toNat))) else (none)) else (none)) else (none)) else (none)) else (procfs_zzNumbers.l0 k x0 x1 x2 (wrap64 (x7 + 1)))) else (if 0 ≤ x10 then (if x10 ≤ x8 then (if x8 ≤ (x0.size : Int) then (if x9.length < 8796093022208 then (procfs_zzNumbers.l1 k x0 x1 x2 x7 x8 (x9 ++ [x0.extract (x10 : Int).toNat (x8 : Int).toNat])) else (none)) else (none)) else (none)) else (none)))) else (if x8 = x10 then (if (x9.length : Int) > x2 then (if 0 ≤ x7 then (if x7 ≤ x8 then (if x8 ≤ (x0.size : Int) then (if 0 < (x9.length : Int) then (some (x9.set (0 : Int).toNat (x0.extract (x7 : Int).toNat (x8 : Int).toNat))) else (none)) else (none)) else (none)) else (none)) else (procfs_zzNumbers.l0 k x0 x1 x2 (wrap64 (x7 + 1)))) else (if 0 ≤ x10 then (if x10 ≤ x8 then (if x8 ≤ (x0.size : Int) then (if x9.length < 8796093022208 then (procfs_zzNumbers.l1 k x0 x1 x2 x7 x8 (x9 ++ [x0.extract (x10 : Int).toNat (x8 : Int).toNat])) else (none)) else (none)) else (none)) else (none)))) else (none)) else (if x8 = x10 then (if (x9.length : Int) > x2 then (if 0 ≤ x7 then (if x7 ≤ x8 then (if x8 ≤ (x0.size : Int) then (if 0 < (x9.length : Int) then (some (x9.set (0 : Int).toNat (x0.extract (x7 : Int).toNat (x8 : Int).toNat))) else (none)) else (none)) else (none)) else (none)) else (procfs_zzNumbers.l0 k x0 x1 x2 (wrap64 (x7 + 1)))) else (if 0 ≤ x10 then (if x10 ≤ x8 then (if x8 ≤ (x0.size : Int) then (if x9.length < 8796093022208 then (procfs_zzNumbers.l1 k x0 x1 x2 x7 x8 (x9 ++ [x0.extract (x10 : Int).toNat (x8 : Int).toNat])) else (none)) else (none)) else (none)) else (none)))
end
def procfs_zzNumbers.f (k : Nat) (a0 : ByteArray) (a1 : ByteArray) (a2 : Int) : Option (List ByteArray) := procfs_zzNumbers.l0 k a0 a1 a2 0
theorem procfs_zzNumbers.mono_l : ∀ k, (∀ y0 y1 y2 y3, LeO (procfs_zzNumbers.l0 k y0 y1 y2 y3) (procfs_zzNumbers.l0 (k + 1) y0 y1 y2 y3)) ∧ (∀ y0 y1 y2 y3 y4 y5, LeO (procfs_zzNumbers.l1 k y0 y1 y2 y3 y4 y5) (procfs_zzNumbers.l1 (k + 1) y0 y1 y2 y3 y4 y5)) ∧ (∀ y0 y1 y2 y3 y4 y5, LeO (procfs_zzNumbers.j2 k y0 y1 y2 y3 y4 y5) (procfs_zzNumbers.j2 (k + 1) y0 y1 y2 y3 y4 y5)) ∧ (∀ y0 y1 y2 y3 y4 y5 y6, LeO (procfs_zzNumbers.l2 k y0 y1 y2 y3 y4 y5 y6) (procfs_zzNumbers.l2 (k + 1) y0 y1 y2 y3 y4 y5 y6))
 | 0 => ⟨fun _ _ _ _ r h => by simp [procfs_zzNumbers.l0] at h, fun _ _ _ _ _ _ r h => by simp [procfs_zzNumbers.l1] at h, fun _ _ _ _ _ _ r h => by simp [procfs_zzNumbers.j2] at h, fun _ _ _ _ _ _ _ r h => by simp [procfs_zzNumbers.l2] at h⟩
 | k + 1 => by
  obtain ⟨ih0, ih1, ih2, ih3⟩ := procfs_zzNumbers.mono_l k
  refine ⟨?_, ?_, ?_, ?_⟩
  ·intro y0 y1 y2 y3
   unfold procfs_zzNumbers.l0
   repeat' first
   | (with_reducible exact ih0 _ _ _ _)
   | (with_reducible exact ih1 _ _ _ _ _ _)
   | (with_reducible exact ih2 _ _ _ _ _ _)
   | (with_reducible exact ih3 _ _ _ _ _ _ _)
   | (with_reducible exact LeO.refl _)
   | (with_reducible exact LeO.none _)
   | (with_reducible refine LeO.ite ?_ ?_)
   | (with_reducible refine LeO.bind ?_ (fun _ => ?_))
   | exact ih0 _ _ _ _
   | exact ih1 _ _ _ _ _ _
   | exact ih2 _ _ _ _ _ _
   | exact ih3 _ _ _ _ _ _ _
   | exact LeO.none _
   | refine LeO.ite ?_ ?_
   | refine LeO.bind ?_ (fun _ => ?_)
  ·intro y0 y1 y2 y3 y4 y5
   unfold procfs_zzNumbers.l1
   repeat' first
   | (with_reducible exact ih0 _ _ _ _)
   | (with_reducible exact ih1 _ _ _ _ _ _)
   | (with_reducible exact ih2 _ _ _ _ _ _)
   | (with_reducible exact ih3 _ _ _ _ _ _ _)
   | (with_reducible exact LeO.refl _)
   | (with_reducible exact LeO.none _)
   | (with_reducible refine LeO.ite ?_ ?_)
   | (with_reducible refine LeO.bind ?_ (fun _ => ?_))
   | exact ih0 _ _ _ _
   | exact ih1 _ _ _ _ _ _
   | exact ih2 _ _ _ _ _ _
   | exact ih3 _ _ _ _ _ _ _
   | exact LeO.none _
   | refine LeO.ite ?_ ?_
   | refine LeO.bind ?_ (fun _ => ?_)
  ·intro y0 y1 y2 y3 y4 y5
   unfold procfs_zzNumbers.j2
   repeat' first
   | (with_reducible exact ih0 _ _ _ _)
   | (with_reducible exact ih1 _ _ _ _ _ _)
   | (with_reducible exact ih2 _ _ _ _ _ _)
   | (with_reducible exact ih3 _ _ _ _ _ _ _)
   | (with_reducible exact LeO.refl _)
   | (with_reducible exact LeO.none _)
   | (with_reducible refine LeO.ite ?_ ?_)
   | (with_reducible refine LeO.bind ?_ (fun _ => ?_))
   | exact ih0 _ _ _ _
   | exact ih1 _ _ _ _ _ _
   | exact ih2 _ _ _ _ _ _
   | exact ih3 _ _ _ _ _ _ _
   | exact LeO.none _
   | refine LeO.ite ?_ ?_
   | refine LeO.bind ?_ (fun _ => ?_)
  ·intro y0 y1 y2 y3 y4 y5 y6
   unfold procfs_zzNumbers.l2
   repeat' first
   | (with_reducible exact ih0 _ _ _ _)
   | (with_reducible exact ih1 _ _ _ _ _ _)
   | (with_reducible exact ih2 _ _ _ _ _ _)
   | (with_reducible exact ih3 _ _ _ _ _ _ _)
   | (with_reducible exact LeO.refl _)
   | (with_reducible exact LeO.none _)
   | (with_reducible refine LeO.ite ?_ ?_)
   | (with_reducible refine LeO.bind ?_ (fun _ => ?_))
   | exact ih0 _ _ _ _
   | exact ih1 _ _ _ _ _ _
   | exact ih2 _ _ _ _ _ _
   | exact ih3 _ _ _ _ _ _ _
   | exact LeO.none _
   | refine LeO.ite ?_ ?_
   | refine LeO.bind ?_ (fun _ => ?_)
theorem procfs_zzNumbers.mono : ∀ a0 a1 a2 k, LeO (procfs_zzNumbers.f k a0 a1 a2) (procfs_zzNumbers.f (k + 1) a0 a1 a2) := by
 intro a0 a1 a2 k
 obtain ⟨ih0, ih1, ih2, ih3⟩ := procfs_zzNumbers.mono_l k
 unfold procfs_zzNumbers.f
 repeat' first
   | (with_reducible exact ih0 _ _ _ _)
   | (with_reducible exact ih1 _ _ _ _ _ _)
   | (with_reducible exact ih2 _ _ _ _ _ _)
   | (with_reducible exact ih3 _ _ _ _ _ _ _)
   | (with_reducible exact LeO.refl _)
   | (with_reducible exact LeO.none _)
   | (with_reducible refine LeO.ite ?_ ?_)
   | (with_reducible refine LeO.bind ?_ (fun _ => ?_))
   | exact ih0 _ _ _ _
   | exact ih1 _ _ _ _ _ _
   | exact ih2 _ _ _ _ _ _
   | exact ih3 _ _ _ _ _ _ _
   | exact LeO.none _
   | refine LeO.ite ?_ ?_
   | refine LeO.bind ?_ (fun _ => ?_)
set_option maxHeartbeats 8000000 in
set_option maxRecDepth 100000 in
theorem procfs_zzNumbers.calls (k : Nat) (a0 : ByteArray) (a1 : ByteArray) (a2 : Int) (r : List ByteArray) (w : World) (h : procfs_zzNumbers.f k a0 a1 a2 = some r) :
  Calls Tryz.prog 156 #[.string a0, .string a1, .int .i64 a2] w fun e w' => ∃ v0_ : Value, e = .returned (v0_) ∧ Kd.R Kd.string 9 w' w.heap.size (fun _ => True) v0_ r ∧ Below w.heap.size w w' ∧ (r = [] → v0_ = .slice none 0 0) := by
 have HB := Aside0.mk (Below.refl w.heap.size w)
 have H : (procfs_zzNumbers.l0 k a0 a1 a2 0) = some r := h
 clear h
 have H' := Aside0.mk H
 clear H
 go_enter Tryz.func156, Tryz.ntmps156
 go_wp2
 go_loopg [7] k (fun kq v7 w' => ∃ (x7_1 : Int), v7 = .int .i64 x7_1 ∧ Aside0 (procfs_zzNumbers.l0 kq a0 a1 a2 x7_1 = some r) ∧ Aside0 (kq ≤ k) ∧ Aside0 (Below w.heap.size w w'))
 case atStart => exact ⟨(0), (by first | rfl | (simp; done) | (simp [*]; done)), H', ⟨Nat.le_refl _⟩, ⟨by repeat (first | (with_reducible first | exact HB.out | apply below_alloc | apply pw_below_drewN | apply below_drew1) | exact HB.out)⟩⟩
 case round =>
  clear H'
  try clear c1
  try clear p2
  obtain ⟨x7_1, rfl, HA, HK1, HB⟩ := hrel
  cases gk with
  | zero => exact absurd HA.out (by simp [procfs_zzNumbers.l0])
  | succ k1 =>
   have H := HA.out
   clear HA
   simp only [procfs_zzNumbers.l0] at H
   by_cases c4 : (wrap64 (x7_1 + (a1.size : Int))) ≤ (a0.size : Int)
   ·rw [if_pos c4] at H
    have c4b0 : decide ((wrap64 (x7_1 + (a1.size : Int))) ≤ (a0.size : Int)) = true := decide_eq_true c4
    clear c4
    replace H := guard_inv H
    obtain ⟨c5, H⟩ := H
    have c5b0 := eq_true c5
    have c5b1 := decide_eq_true c5
    clear c5
    replace H := guard_inv H
    obtain ⟨c6, H⟩ := H
    have c6b0 := eq_true c6
    have c6b1 := decide_eq_true c6
    have c7b0 := eq_true (of_decide_eq_true (by first | (with_reducible assumption) | assumption) : (wrap64 (x7_1 + (a1.size : Int))) ≤ (a0.size : Int))
    by_cases c8 : (a0.extract (x7_1 : Int).toNat ((wrap64 (x7_1 + (a1.size : Int))) : Int).toNat).toList = a1.toList
    ·rw [if_pos c8] at H
     have c8b0 : ((a0.extract (x7_1 : Int).toNat ((wrap64 (x7_1 + (a1.size : Int))) : Int).toNat).toList == a1.toList) = true := beq_iff_eq.mpr c8
     have c8b1 : ((a0.extract (x7_1 : Int).toNat ((wrap64 (x7_1 + (a1.size : Int))) : Int).toNat).toList != a1.toList) = false := bne_eq_false_iff_eq.mpr c8
     clear c8
     obtain ⟨y960, hy960⟩ : ∃ y_ : List ByteArray, y_ = (([(⟨#[]⟩ : ByteArray)] : List ByteArray)) := ⟨_, rfl⟩
     replace H : (procfs_zzNumbers.l1 k1 a0 a1 a2 x7_1 (wrap64 (x7_1 + (a1.size : Int))) y960) = some r := by first | (rw [hy960]; with_reducible exact H) | (have H2_ := (Option.bind_some _ _).symm.trans H; rw [hy960]; with_reducible exact H2_) | (have H2_ := (Option.bind_some _ _).symm.trans H; with_reducible exact H2_) | with_reducible exact H | (rw [hy960]; exact H) | exact H
     have Ny960 := Aside0.mk hy960
     clear hy960
     have H' := Aside0.mk H
     clear H
     go_wp2_with (first | ((with_reducible refine gate_dst (N := 33) rfl ?_); refine Kd.R_lit Kd.string _ 9 ?hg (N := 33) ?hd (xs := ([(⟨#[]⟩ : ByteArray)] : List ByteArray)) (inner := [.string (⟨#[]⟩ : ByteArray)]) (ok := fun _ => True) (okp := fun _ => True) ?hr ?hp (fun _ hk => hk) trivial (Below.refl _ _) (Nat.le_refl _) (by simp) ?_; (case hd => rfl); (case hg => rfl); (case hr => first | (go_simp; done) | (go_simp; rfl)); (case hp => exact (Reps.one (show Kd.M Kd.string _ _ _ (⟨#[]⟩ : ByteArray) [.string (⟨#[]⟩ : ByteArray)] from rfl) (Reps.none _ _))); intro v961 w9 ho10 hb hg_ hnew_; clear hg_ hnew_; (first | rw [← Ny960.out] at ho10 | (simp only [Int.reduceToNat] at ho10; rw [← Ny960.out] at ho10)); have n0_ := Aside0.mk (Kd.R_lower ho10 (below_size (by repeat (first | (with_reducible first | exact HB.out | apply below_alloc | apply pw_below_drewN | apply below_drew1) | exact HB.out)))); have n1_ := Aside0.mk (below_step (by repeat (first | (with_reducible first | exact HB.out | apply below_alloc | apply pw_below_drewN | apply below_drew1) | exact HB.out)) hb); clear HB; have HO962 := n0_; have HB := n1_; clear n0_ n1_; clear hb ho10))
     go_loopg [8, 9] k1 (fun kq v8 v9 w' => ∃ (x8_2 : Int) (x9_2 : List ByteArray), v8 = .int .i64 x8_2 ∧ Aside0 (procfs_zzNumbers.l1 kq a0 a1 a2 x7_1 x8_2 x9_2 = some r) ∧ Aside0 (kq ≤ k1) ∧ Aside0 (Kd.R Kd.string 9 w' w.heap.size (fun _ => True) v9 x9_2) ∧ Aside0 (Below w.heap.size w w'))
     case atStart => exact ⟨(wrap64 (x7_1 + (a1.size : Int))), (y960), (by first | rfl | (simp; done) | (simp [*]; done)), H', ⟨Nat.le_refl _⟩, ⟨by (with_reducible repeat (first | apply Kd.R_alloc | apply Kd.R_drewN | apply Kd.R_drew)); exact HO962.out⟩, ⟨by repeat (first | (with_reducible first | exact HB.out | apply below_alloc | apply pw_below_drewN | apply below_drew1) | exact HB.out)⟩⟩
     case round =>
      clear H'
      try clear c1
      try clear p2
      try clear c4
      try clear c4b0
      try clear c5
      try clear c5b0
      try clear c5b1
      try clear c6
      try clear c6b0
      try clear c6b1
      try clear p6
      try clear c7
      try clear c7b0
      try clear c8
      try clear c8b0
      try clear c8b1
      try clear p2
      obtain ⟨x8_2, x9_2, rfl, HA, HK2, HO_9, HB⟩ := hrel
      cases gk with
      | zero => exact absurd HA.out (by simp [procfs_zzNumbers.l1])
      | succ k2 =>
       have H := HA.out
       clear HA
       simp only [procfs_zzNumbers.l1] at H
       by_cases c11 : (x9_2.length : Int) ≤ a2
       ·rw [if_pos c11] at H
        have c11b0 : decide ((x9_2.length : Int) ≤ a2) = true := decide_eq_true c11
        clear c11
        have HC12 := Aside0.mk H
        clear H
        obtain ⟨Ao13, co13, eo13⟩ := Kd.R_slice HO_9.out
        subst eo13
        go_upto_if 40 with (fail)
        go_cut [8] (fun v8 wc => ∃ (kq : Nat) (x8_11 : Int), v8 = .int .i64 x8_11 ∧ Aside0 (procfs_zzNumbers.j2 kq a0 a1 a2 x7_1 x8_11 x9_2 = some r) ∧ Aside0 (kq ≤ k2) ∧ Aside0 (Kd.R Kd.string 9 wc w.heap.size (fun _ => True) (.slice Ao13 x9_2.length co13) x9_2) ∧ Aside0 (Below w.heap.size w wc))
        case first =>
         have H := HC12.out
         clear HC12
         by_cases c14 : (x9_2.length : Int) > 1
         ·rw [if_pos c14] at H
          have c14b0 : decide (1 < (x9_2.length : Int)) = true := decide_eq_true c14
          have c14b1 : decide (1 < x9_2.length) = true := decide_eq_true (by omega)
          clear c14
          (first | rw [c14b0] | (simp only [i64_w, i32_w]; rw [c14b0]) | skip)
          by_cases c15 : x8_2 = (a0.size : Int)
          ·rw [if_pos c15] at H
           have c15b0 : (x8_2 == (a0.size : Int)) = true := beq_iff_eq.mpr c15
           have c15b1 : (x8_2 != (a0.size : Int)) = false := bne_eq_false_iff_eq.mpr c15
           clear c15
           by_cases c16 : (x9_2.length : Int) > a2
           ·rw [if_pos c16] at H
            have c16b0 : decide (a2 < (x9_2.length : Int)) = true := decide_eq_true c16
            clear c16
            replace H := guard_inv H
            obtain ⟨c17, H⟩ := H
            have c17b0 := eq_true c17
            have c17b1 := decide_eq_true c17
            clear c17
            replace H := guard_inv H
            obtain ⟨c18, H⟩ := H
            have c18b0 := eq_true c18
            have c18b1 := decide_eq_true c18
            clear c18
            replace H := guard_inv H
            obtain ⟨c19, H⟩ := H
            have c19b0 := eq_true c19
            have c19b1 := decide_eq_true c19
            clear c19
            replace H := guard_inv H
            obtain ⟨c20, H⟩ := H
            have c20b0 : decide (0 < (x9_2.length : Int)) = true := decide_eq_true c20
            have c20b1 : decide (0 < x9_2.length) = true := decide_eq_true (by omega)
            clear c20
            obtain ⟨y964, hy964⟩ : ∃ y_ : List ByteArray, y_ = (x9_2.set (0 : Int).toNat (a0.extract (x7_1 : Int).toNat (x8_2 : Int).toNat)) := ⟨_, rfl⟩
            replace H : (some y964) = some r := by first | (rw [hy964]; with_reducible exact H) | (have H2_ := (Option.bind_some _ _).symm.trans H; rw [hy964]; with_reducible exact H2_) | (have H2_ := (Option.bind_some _ _).symm.trans H; with_reducible exact H2_) | with_reducible exact H | (rw [hy964]; exact H) | exact H
            have Ny964 := Aside0.mk hy964
            clear hy964
            obtain rfl := Option.some.inj H
            have p21 : 0 ≤ (0 : Int) := (by omega)
            have q21 : (0 : Int) < ((x9_2.length : Int) : Int) := of_decide_eq_true (by first | (with_reducible assumption) | assumption)
            have qi21 : (0 < x9_2.length) = True := eq_true (by omega)
            obtain ⟨go21, co21, eo21, gb21, gl21, cl21, HG21⟩ := Kd.R_form HO_9.out (by omega)
            (first | cases eo21 | (injection eo21 with ea_ en_ ec_; (first | subst ea_ | (injection ea_ with ea_; subst ea_)); subst ec_; clear en_))
            have GB21 := Aside0.mk gb21
            have GG21 := Aside0.mk HG21
            clear gb21 gl21 HG21
            obtain ⟨hx21_0, hf21_0⟩ := Kd.R_celln (⟨#[]⟩ : ByteArray) HO_9.out (0 : Int) p21 q21
            (try rw [show ((0 : Int)).toNat = 0 from rfl] at hx21_0)
            (try simp only [Nat.reduceMul, Nat.zero_mul, Nat.zero_add, Nat.reduceAdd] at hx21_0)
            (try rw [show ((0 : Int)).toNat = 0 from rfl] at hf21_0)
            (try simp only [Nat.reduceMul, Nat.zero_mul, Nat.zero_add, Nat.reduceAdd] at hf21_0)
            replace p21 := eq_true p21
            replace q21 := eq_true q21
            have HP22 := Kd.R_putg HO_9.out (0 : Int) (a0.extract (x7_1 : Int).toNat (x8_2 : Int).toNat)
            go_wp2_with (first | ((with_reducible refine gate_store (t := 9) (p := 91) rfl ?_); refine store_event (t := 9) (p := 91) (v := ?vo_w23) (w1 := (wr.setCell ⟨go21, (0 : Int).toNat, none⟩ (.string (a0.extract (x7_1 : Int).toNat (x8_2 : Int).toNat)))) ?hg ?ho ?hn ?hr ?_; (case ho => rfl); (case hg => rfl); (case hn => rfl); (case hr => first | (go_simp; done) | (go_simp; rfl)); intro w23 hw; have hg : wr.grownBy w23 (some go21) := (by rw [hw]; exact HP22.2); have hp_ : Kd.R Kd.string 9 w23 w.heap.size (fun _ => True) (.slice (some ⟨go21, 0, none⟩) x9_2.length co13) y964 := (by rw [hw, Ny964.out]; exact HP22.1); clear HP22; have n0_ := Aside0.mk (hp_); have n1_ := Aside0.mk ((by rw [hw]; exact below_set (HB.out) GB21.out : Below w.heap.size w w23)); clear HO_9; clear HB; have HO_9 := n0_; have HB := n1_; clear n0_ n1_; clear hg hw hp_))
            go_ret
            exact ⟨_, by first | rfl | (simp [errW_none, errW_some] <;> rfl) | (simp [*, errW_none, errW_some] <;> rfl), by (with_reducible repeat (first | apply Kd.R_alloc | apply Kd.R_drewN | apply Kd.R_drew)); exact HO_9.out, by repeat (first | (with_reducible first | exact HB.out | apply below_alloc | apply pw_below_drewN | apply below_drew1) | exact HB.out), fun he_ => by { have hq_ := (Kd.R_reads' HO_9.out).1; rw [he_] at hq_; simp only [List.length_nil] at hq_; have hq2_ := of_eq_true q21; omega }⟩
           ·rw [if_neg c16] at H
            have c16b0 : decide (a2 < (x9_2.length : Int)) = false := decide_eq_false c16
            clear c16
            have H' := Aside0.mk H
            clear H
            go_wp2
            go_roundg k2
            case measure => have := HK1.out; have := HK2.out; omega
            case rel => exact ⟨(wrap64 (x7_1 + 1)), (by first | rfl | (simp; done) | (simp [*]; done)), H', ⟨by have := HK1.out; have := HK2.out; omega⟩, ⟨by repeat (first | (with_reducible first | exact HB.out | apply below_alloc | apply pw_below_drewN | apply below_drew1) | exact HB.out)⟩⟩
          ·rw [if_neg c15] at H
           have c15b0 : (x8_2 == (a0.size : Int)) = false := beq_eq_false_iff_ne.mpr c15
           have c15b1 : (x8_2 != (a0.size : Int)) = true := bne_iff_ne.mpr c15
           replace H := guard_inv H
           obtain ⟨c24, H⟩ := H
           have c24b0 : decide (0 ≤ x8_2) = true := decide_eq_true c24
           clear c24
           replace H := guard_inv H
           obtain ⟨c25, H⟩ := H
           have c25b0 : decide (x8_2 < (a0.size : Int)) = true := decide_eq_true c25
           clear c25
           by_cases c27 : (bt a0 x8_2) = 32
           ·rw [if_pos c27] at H
            have c27b0 : ((bt a0 x8_2) == 32) = true := beq_iff_eq.mpr c27
            have c27b1 : ((bt a0 x8_2) != 32) = false := bne_eq_false_iff_eq.mpr c27
            clear c27
            have H' := Aside0.mk H
            clear H
            have p26 : 0 ≤ (x8_2 : Int) := of_decide_eq_true (by first | (with_reducible assumption) | assumption)
            have q26 : x8_2 < (a0.size : Int) := of_decide_eq_true (by first | (with_reducible assumption) | assumption)
            have hx26 := bt_at a0 x8_2
            replace p26 := eq_true p26
            replace q26 := eq_true q26
            go_wp2
            go_meet
            case rel => exact ⟨_, (wrap64 (x8_2 + 1)), (by first | rfl | (simp; done) | (simp [*]; done)), H', ⟨by have := HK1.out; have := HK2.out; first | omega | exact Nat.le_refl _⟩, ⟨by (with_reducible repeat (first | apply Kd.R_alloc | apply Kd.R_drewN | apply Kd.R_drew)); exact HO_9.out⟩, ⟨by repeat (first | (with_reducible first | exact HB.out | apply below_alloc | apply pw_below_drewN | apply below_drew1) | exact HB.out)⟩⟩
           ·rw [if_neg c27] at H
            have c27b0 : ((bt a0 x8_2) == 32) = false := beq_eq_false_iff_ne.mpr c27
            have c27b1 : ((bt a0 x8_2) != 32) = true := bne_iff_ne.mpr c27
            by_cases c28 : (x9_2.length : Int) > a2
            ·rw [if_pos c28] at H
             have c28b0 : decide (a2 < (x9_2.length : Int)) = true := decide_eq_true c28
             clear c28
             replace H := guard_inv H
             obtain ⟨c29, H⟩ := H
             have c29b0 := eq_true c29
             have c29b1 := decide_eq_true c29
             clear c29
             replace H := guard_inv H
             obtain ⟨c30, H⟩ := H
             have c30b0 := eq_true c30
             have c30b1 := decide_eq_true c30
             clear c30
             replace H := guard_inv H
             obtain ⟨c31, H⟩ := H
             have c31b0 := eq_true c31
             have c31b1 := decide_eq_true c31
             clear c31
             replace H := guard_inv H
             obtain ⟨c32, H⟩ := H
             have c32b0 : decide (0 < (x9_2.length : Int)) = true := decide_eq_true c32
             have c32b1 : decide (0 < x9_2.length) = true := decide_eq_true (by omega)
             clear c32
             obtain ⟨y965, hy965⟩ : ∃ y_ : List ByteArray, y_ = (x9_2.set (0 : Int).toNat (a0.extract (x7_1 : Int).toNat (x8_2 : Int).toNat)) := ⟨_, rfl⟩
             replace H : (some y965) = some r := by first | (rw [hy965]; with_reducible exact H) | (have H2_ := (Option.bind_some _ _).symm.trans H; rw [hy965]; with_reducible exact H2_) | (have H2_ := (Option.bind_some _ _).symm.trans H; with_reducible exact H2_) | with_reducible exact H | (rw [hy965]; exact H) | exact H
             have Ny965 := Aside0.mk hy965
             clear hy965
             obtain rfl := Option.some.inj H
             have p26 : 0 ≤ (x8_2 : Int) := of_decide_eq_true (by first | (with_reducible assumption) | assumption)
             have q26 : x8_2 < (a0.size : Int) := of_decide_eq_true (by first | (with_reducible assumption) | assumption)
             have hx26 := bt_at a0 x8_2
             replace p26 := eq_true p26
             replace q26 := eq_true q26
             have p33 : 0 ≤ (0 : Int) := (by omega)
             have q33 : (0 : Int) < ((x9_2.length : Int) : Int) := of_decide_eq_true (by first | (with_reducible assumption) | assumption)
             have qi33 : (0 < x9_2.length) = True := eq_true (by omega)
             obtain ⟨go33, co33, eo33, gb33, gl33, cl33, HG33⟩ := Kd.R_form HO_9.out (by omega)
             (first | cases eo33 | (injection eo33 with ea_ en_ ec_; (first | subst ea_ | (injection ea_ with ea_; subst ea_)); subst ec_; clear en_))
             have GB33 := Aside0.mk gb33
             have GG33 := Aside0.mk HG33
             clear gb33 gl33 HG33
             obtain ⟨hx33_0, hf33_0⟩ := Kd.R_celln (⟨#[]⟩ : ByteArray) HO_9.out (0 : Int) p33 q33
             (try rw [show ((0 : Int)).toNat = 0 from rfl] at hx33_0)
             (try simp only [Nat.reduceMul, Nat.zero_mul, Nat.zero_add, Nat.reduceAdd] at hx33_0)
             (try rw [show ((0 : Int)).toNat = 0 from rfl] at hf33_0)
             (try simp only [Nat.reduceMul, Nat.zero_mul, Nat.zero_add, Nat.reduceAdd] at hf33_0)
             replace p33 := eq_true p33
             replace q33 := eq_true q33
             have HP34 := Kd.R_putg HO_9.out (0 : Int) (a0.extract (x7_1 : Int).toNat (x8_2 : Int).toNat)
             go_wp2_with (first | ((with_reducible refine gate_store (t := 9) (p := 91) rfl ?_); refine store_event (t := 9) (p := 91) (v := ?vo_w35) (w1 := (wr.setCell ⟨go33, (0 : Int).toNat, none⟩ (.string (a0.extract (x7_1 : Int).toNat (x8_2 : Int).toNat)))) ?hg ?ho ?hn ?hr ?_; (case ho => rfl); (case hg => rfl); (case hn => rfl); (case hr => first | (go_simp; done) | (go_simp; rfl)); intro w35 hw; have hg : wr.grownBy w35 (some go33) := (by rw [hw]; exact HP34.2); have hp_ : Kd.R Kd.string 9 w35 w.heap.size (fun _ => True) (.slice (some ⟨go33, 0, none⟩) x9_2.length co13) y965 := (by rw [hw, Ny965.out]; exact HP34.1); clear HP34; have n0_ := Aside0.mk (hp_); have n1_ := Aside0.mk ((by rw [hw]; exact below_set (HB.out) GB33.out : Below w.heap.size w w35)); clear HO_9; clear HB; have HO_9 := n0_; have HB := n1_; clear n0_ n1_; clear hg hw hp_))
             go_ret
             exact ⟨_, by first | rfl | (simp [errW_none, errW_some] <;> rfl) | (simp [*, errW_none, errW_some] <;> rfl), by (with_reducible repeat (first | apply Kd.R_alloc | apply Kd.R_drewN | apply Kd.R_drew)); exact HO_9.out, by repeat (first | (with_reducible first | exact HB.out | apply below_alloc | apply pw_below_drewN | apply below_drew1) | exact HB.out), fun he_ => by { have hq_ := (Kd.R_reads' HO_9.out).1; rw [he_] at hq_; simp only [List.length_nil] at hq_; have hq2_ := of_eq_true q33; omega }⟩
            ·rw [if_neg c28] at H
             have c28b0 : decide (a2 < (x9_2.length : Int)) = false := decide_eq_false c28
             clear c28
             have H' := Aside0.mk H
             clear H
             have p26 : 0 ≤ (x8_2 : Int) := of_decide_eq_true (by first | (with_reducible assumption) | assumption)
             have q26 : x8_2 < (a0.size : Int) := of_decide_eq_true (by first | (with_reducible assumption) | assumption)
             have hx26 := bt_at a0 x8_2
             replace p26 := eq_true p26
             replace q26 := eq_true q26
             go_wp2
             go_roundg k2
             case measure => have := HK1.out; have := HK2.out; omega
             case rel => exact ⟨(wrap64 (x7_1 + 1)), (by first | rfl | (simp; done) | (simp [*]; done)), H', ⟨by have := HK1.out; have := HK2.out; omega⟩, ⟨by repeat (first | (with_reducible first | exact HB.out | apply below_alloc | apply pw_below_drewN | apply below_drew1) | exact HB.out)⟩⟩
         ·rw [if_neg c14] at H
          have c14b0 : decide (1 < (x9_2.length : Int)) = false := decide_eq_false c14
          have c14b1 : decide (1 < x9_2.length) = false := decide_eq_false (by omega)
          clear c14
          (first | rw [c14b0] | (simp only [i64_w, i32_w]; rw [c14b0]) | skip)
          have H' := Aside0.mk H
          clear H
          go_wp2
          go_meet
          case rel => exact ⟨_, (x8_2), (by first | rfl | (simp; done) | (simp [*]; done)), H', ⟨by have := HK1.out; have := HK2.out; first | omega | exact Nat.le_refl _⟩, ⟨by (with_reducible repeat (first | apply Kd.R_alloc | apply Kd.R_drewN | apply Kd.R_drew)); exact HO_9.out⟩, ⟨by repeat (first | (with_reducible first | exact HB.out | apply below_alloc | apply pw_below_drewN | apply below_drew1) | exact HB.out)⟩⟩
        case rest =>
         clear HC12
         try clear c1
         try clear c2
         try clear p2
         try clear q2
         try clear hx2
         try clear qi2
         try clear c3
         try clear p3
         try clear q3
         try clear hx3
         try clear qi3
         try clear hf3
         try clear c4
         try clear c4b0
         try clear c5
         try clear c5b0
         try clear c5b1
         try clear c6
         try clear c6b0
         try clear c6b1
         try clear p6
         try clear c7
         try clear c7b0
         try clear c8
         try clear c8b0
         try clear c8b1
         try clear c11
         try clear c11b0
         try clear c14
         try clear c14b0
         try clear c14b1
         try clear c15
         try clear c15b0
         try clear c15b1
         try clear c16
         try clear c16b0
         try clear c17
         try clear c17b0
         try clear c17b1
         try clear c18
         try clear c18b0
         try clear c18b1
         try clear c19
         try clear c19b0
         try clear c19b1
         try clear c20
         try clear c20b0
         try clear c20b1
         try clear p21
         try clear q21
         try clear hx21
         try clear qi21
         try clear hf21
         try clear c24
         try clear c24b0
         try clear c25
         try clear c25b0
         try clear p26
         try clear q26
         try clear hx26
         try clear c27
         try clear c27b0
         try clear c27b1
         try clear c28
         try clear c28b0
         try clear c29
         try clear c29b0
         try clear c29b1
         try clear c30
         try clear c30b0
         try clear c30b1
         try clear c31
         try clear c31b0
         try clear c31b1
         try clear c32
         try clear c32b0
         try clear c32b1
         try clear p33
         try clear q33
         try clear hx33
         try clear qi33
         try clear hf33
         try clear hx21_0
         try clear hx33_0
         try clear p2
         try clear p21
         try clear p26
         try clear p33
         try clear p6
         try clear q21
         try clear q26
         try clear q33
         obtain ⟨kq, x8_11, rfl, HA, HJ11, HO_9, HB⟩ := hcut
         cases kq with
         | zero => exact absurd HA.out (by simp [procfs_zzNumbers.j2])
         | succ kj11 =>
          have H := HA.out
          clear HA
          simp only [procfs_zzNumbers.j2] at H
          have H' := Aside0.mk H
          clear H
          go_wp2
          go_loopg [8] kj11 (fun kq v8 w' => ∃ (x8_4 : Int), v8 = .int .i64 x8_4 ∧ Aside0 (procfs_zzNumbers.l2 kq a0 a1 a2 x7_1 x8_4 x9_2 x8_11 = some r) ∧ Aside0 (kq ≤ kj11) ∧ Aside0 (Kd.R Kd.string 9 w' w.heap.size (fun _ => True) (.slice Ao13 x9_2.length co13) x9_2) ∧ Aside0 (Below w.heap.size w w'))
          case atStart => exact ⟨(x8_11), (by first | rfl | (simp; done) | (simp [*]; done)), H', ⟨Nat.le_refl _⟩, ⟨by (with_reducible repeat (first | apply Kd.R_alloc | apply Kd.R_drewN | apply Kd.R_drew)); exact HO_9.out⟩, ⟨by repeat (first | (with_reducible first | exact HB.out | apply below_alloc | apply pw_below_drewN | apply below_drew1) | exact HB.out)⟩⟩
          case round =>
           clear H'
           try clear c1
           try clear c2
           try clear p2
           try clear q2
           try clear hx2
           try clear qi2
           try clear c3
           try clear p3
           try clear q3
           try clear hx3
           try clear qi3
           try clear hf3
           try clear c4
           try clear c4b0
           try clear c5
           try clear c5b0
           try clear c5b1
           try clear c6
           try clear c6b0
           try clear c6b1
           try clear p6
           try clear c7
           try clear c7b0
           try clear c8
           try clear c8b0
           try clear c8b1
           try clear c11
           try clear c11b0
           try clear c14
           try clear c14b0
           try clear c14b1
           try clear c15
           try clear c15b0
           try clear c15b1
           try clear c16
           try clear c16b0
           try clear c17
           try clear c17b0
           try clear c17b1
           try clear c18
           try clear c18b0
           try clear c18b1
           try clear c19
           try clear c19b0
           try clear c19b1
           try clear c20
           try clear c20b0
           try clear c20b1
           try clear p21
           try clear q21
           try clear hx21
           try clear qi21
           try clear hf21
           try clear c24
           try clear c24b0
           try clear c25
           try clear c25b0
           try clear p26
           try clear q26
           try clear hx26
           try clear c27
           try clear c27b0
           try clear c27b1
           try clear c28
           try clear c28b0
           try clear c29
           try clear c29b0
           try clear c29b1
           try clear c30
           try clear c30b0
           try clear c30b1
           try clear c31
           try clear c31b0
           try clear c31b1
           try clear c32
           try clear c32b0
           try clear c32b1
           try clear p33
           try clear q33
           try clear hx33
           try clear qi33
           try clear hf33
           try clear hx21_0
           try clear hx33_0
           try clear p2
           try clear p21
           try clear p26
           try clear p3
           try clear p33
           try clear p6
           try clear q2
           try clear q21
           try clear q26
           try clear q3
           try clear q33
           obtain ⟨x8_4, rfl, HA, HK4, HO_9, HB⟩ := hrel
           cases gk with
           | zero => exact absurd HA.out (by simp [procfs_zzNumbers.l2])
           | succ k4 =>
            have H := HA.out
            clear HA
            simp only [procfs_zzNumbers.l2] at H
            by_cases c36 : x8_4 < (a0.size : Int)
            ·rw [if_pos c36] at H
             have c36b0 : decide (x8_4 < (a0.size : Int)) = true := decide_eq_true c36
             clear c36
             replace H := guard_inv H
             obtain ⟨c37, H⟩ := H
             have c37b0 : decide (0 ≤ x8_4) = true := decide_eq_true c37
             clear c37
             by_cases c39 : (bt a0 x8_4) ≥ 48
             ·rw [if_pos c39] at H
              have c39b0 : decide (48 ≤ (bt a0 x8_4)) = true := decide_eq_true c39
              clear c39
              by_cases c41 : (bt a0 x8_4) ≤ 57
              ·rw [if_pos c41] at H
               have c41b0 : decide ((bt a0 x8_4) ≤ 57) = true := decide_eq_true c41
               clear c41
               have H' := Aside0.mk H
               clear H
               have p38 : 0 ≤ (x8_4 : Int) := of_decide_eq_true (by first | (with_reducible assumption) | assumption)
               have q38 : x8_4 < (a0.size : Int) := of_decide_eq_true (by first | (with_reducible assumption) | assumption)
               have hx38 := bt_at a0 x8_4
               replace p38 := eq_true p38
               replace q38 := eq_true q38
               have p40 : 0 ≤ (x8_4 : Int) := of_decide_eq_true (by first | (with_reducible assumption) | assumption)
               have q40 : x8_4 < (a0.size : Int) := of_decide_eq_true (by first | (with_reducible assumption) | assumption)
               have hx40 := bt_at a0 x8_4
               replace p40 := eq_true p40
               replace q40 := eq_true q40
               go_wp2
               go_roundg k4
               case measure => have := HK1.out; have := HK2.out; have := HJ11.out; have := HK4.out; omega
               case rel => exact ⟨(wrap64 (x8_4 + 1)), (by first | rfl | (simp; done) | (simp [*]; done)), H', ⟨by have := HK1.out; have := HK2.out; have := HJ11.out; have := HK4.out; omega⟩, ⟨by (with_reducible repeat (first | apply Kd.R_alloc | apply Kd.R_drewN | apply Kd.R_drew)); exact HO_9.out⟩, ⟨by repeat (first | (with_reducible first | exact HB.out | apply below_alloc | apply pw_below_drewN | apply below_drew1) | exact HB.out)⟩⟩
              ·rw [if_neg c41] at H
               have c41b0 : decide ((bt a0 x8_4) ≤ 57) = false := decide_eq_false c41
               clear c41
               by_cases c42 : x8_4 = x8_11
               ·rw [if_pos c42] at H
                have c42b0 : (x8_4 == x8_11) = true := beq_iff_eq.mpr c42
                have c42b1 : (x8_4 != x8_11) = false := bne_eq_false_iff_eq.mpr c42
                clear c42
                by_cases c43 : (x9_2.length : Int) > a2
                ·rw [if_pos c43] at H
                 have c43b0 : decide (a2 < (x9_2.length : Int)) = true := decide_eq_true c43
                 clear c43
                 replace H := guard_inv H
                 obtain ⟨c44, H⟩ := H
                 have c44b0 := eq_true c44
                 have c44b1 := decide_eq_true c44
                 clear c44
                 replace H := guard_inv H
                 obtain ⟨c45, H⟩ := H
                 have c45b0 := eq_true c45
                 have c45b1 := decide_eq_true c45
                 clear c45
                 replace H := guard_inv H
                 obtain ⟨c46, H⟩ := H
                 have c46b0 := eq_true c46
                 have c46b1 := decide_eq_true c46
                 clear c46
                 replace H := guard_inv H
                 obtain ⟨c47, H⟩ := H
                 have c47b0 : decide (0 < (x9_2.length : Int)) = true := decide_eq_true c47
                 have c47b1 : decide (0 < x9_2.length) = true := decide_eq_true (by omega)
                 clear c47
                 obtain ⟨y966, hy966⟩ : ∃ y_ : List ByteArray, y_ = (x9_2.set (0 : Int).toNat (a0.extract (x7_1 : Int).toNat (x8_4 : Int).toNat)) := ⟨_, rfl⟩
                 replace H : (some y966) = some r := by first | (rw [hy966]; with_reducible exact H) | (have H2_ := (Option.bind_some _ _).symm.trans H; rw [hy966]; with_reducible exact H2_) | (have H2_ := (Option.bind_some _ _).symm.trans H; with_reducible exact H2_) | with_reducible exact H | (rw [hy966]; exact H) | exact H
                 have Ny966 := Aside0.mk hy966
                 clear hy966
                 obtain rfl := Option.some.inj H
                 have p38 : 0 ≤ (x8_4 : Int) := of_decide_eq_true (by first | (with_reducible assumption) | assumption)
                 have q38 : x8_4 < (a0.size : Int) := of_decide_eq_true (by first | (with_reducible assumption) | assumption)
                 have hx38 := bt_at a0 x8_4
                 replace p38 := eq_true p38
                 replace q38 := eq_true q38
                 have p40 : 0 ≤ (x8_4 : Int) := of_decide_eq_true (by first | (with_reducible assumption) | assumption)
                 have q40 : x8_4 < (a0.size : Int) := of_decide_eq_true (by first | (with_reducible assumption) | assumption)
                 have hx40 := bt_at a0 x8_4
                 replace p40 := eq_true p40
                 replace q40 := eq_true q40
                 have p48 : 0 ≤ (0 : Int) := (by omega)
                 have q48 : (0 : Int) < ((x9_2.length : Int) : Int) := of_decide_eq_true (by first | (with_reducible assumption) | assumption)
                 have qi48 : (0 < x9_2.length) = True := eq_true (by omega)
                 obtain ⟨go48, co48, eo48, gb48, gl48, cl48, HG48⟩ := Kd.R_form HO_9.out (by omega)
                 (first | cases eo48 | (injection eo48 with ea_ en_ ec_; (first | subst ea_ | (injection ea_ with ea_; subst ea_)); subst ec_; clear en_))
                 have GB48 := Aside0.mk gb48
                 have GG48 := Aside0.mk HG48
                 clear gb48 gl48 HG48
                 obtain ⟨hx48_0, hf48_0⟩ := Kd.R_celln (⟨#[]⟩ : ByteArray) HO_9.out (0 : Int) p48 q48
                 (try rw [show ((0 : Int)).toNat = 0 from rfl] at hx48_0)
                 (try simp only [Nat.reduceMul, Nat.zero_mul, Nat.zero_add, Nat.reduceAdd] at hx48_0)
                 (try rw [show ((0 : Int)).toNat = 0 from rfl] at hf48_0)
                 (try simp only [Nat.reduceMul, Nat.zero_mul, Nat.zero_add, Nat.reduceAdd] at hf48_0)
                 replace p48 := eq_true p48
                 replace q48 := eq_true q48
                 have HP49 := Kd.R_putg HO_9.out (0 : Int) (a0.extract (x7_1 : Int).toNat (x8_4 : Int).toNat)
                 go_wp2_with (first | ((with_reducible refine gate_store (t := 9) (p := 91) rfl ?_); refine store_event (t := 9) (p := 91) (v := ?vo_w50) (w1 := (wr.setCell ⟨go48, (0 : Int).toNat, none⟩ (.string (a0.extract (x7_1 : Int).toNat (x8_4 : Int).toNat)))) ?hg ?ho ?hn ?hr ?_; (case ho => rfl); (case hg => rfl); (case hn => rfl); (case hr => first | (go_simp; done) | (go_simp; rfl)); intro w50 hw; have hg : wr.grownBy w50 (some go48) := (by rw [hw]; exact HP49.2); have hp_ : Kd.R Kd.string 9 w50 w.heap.size (fun _ => True) (.slice (some ⟨go48, 0, none⟩) x9_2.length co13) y966 := (by rw [hw, Ny966.out]; exact HP49.1); clear HP49; have n0_ := Aside0.mk (hp_); have n1_ := Aside0.mk ((by rw [hw]; exact below_set (HB.out) GB48.out : Below w.heap.size w w50)); clear HO_9; clear HB; have HO_9 := n0_; have HB := n1_; clear n0_ n1_; clear hg hw hp_))
                 go_ret
                 exact ⟨_, by first | rfl | (simp [errW_none, errW_some] <;> rfl) | (simp [*, errW_none, errW_some] <;> rfl), by (with_reducible repeat (first | apply Kd.R_alloc | apply Kd.R_drewN | apply Kd.R_drew)); exact HO_9.out, by repeat (first | (with_reducible first | exact HB.out | apply below_alloc | apply pw_below_drewN | apply below_drew1) | exact HB.out), fun he_ => by { have hq_ := (Kd.R_reads' HO_9.out).1; rw [he_] at hq_; simp only [List.length_nil] at hq_; have hq2_ := of_eq_true q48; omega }⟩
                ·rw [if_neg c43] at H
                 have c43b0 : decide (a2 < (x9_2.length : Int)) = false := decide_eq_false c43
                 clear c43
                 have H' := Aside0.mk H
                 clear H
                 have p38 : 0 ≤ (x8_4 : Int) := of_decide_eq_true (by first | (with_reducible assumption) | assumption)
                 have q38 : x8_4 < (a0.size : Int) := of_decide_eq_true (by first | (with_reducible assumption) | assumption)
                 have hx38 := bt_at a0 x8_4
                 replace p38 := eq_true p38
                 replace q38 := eq_true q38
                 have p40 : 0 ≤ (x8_4 : Int) := of_decide_eq_true (by first | (with_reducible assumption) | assumption)
                 have q40 : x8_4 < (a0.size : Int) := of_decide_eq_true (by first | (with_reducible assumption) | assumption)
                 have hx40 := bt_at a0 x8_4
                 replace p40 := eq_true p40
                 replace q40 := eq_true q40
                 go_wp2
                 go_roundg k4
                 case measure => have := HK1.out; have := HK2.out; have := HJ11.out; have := HK4.out; omega
                 case rel => exact ⟨(wrap64 (x7_1 + 1)), (by first | rfl | (simp; done) | (simp [*]; done)), H', ⟨by have := HK1.out; have := HK2.out; have := HJ11.out; have := HK4.out; omega⟩, ⟨by repeat (first | (with_reducible first | exact HB.out | apply below_alloc | apply pw_below_drewN | apply below_drew1) | exact HB.out)⟩⟩
               ·rw [if_neg c42] at H
                have c42b0 : (x8_4 == x8_11) = false := beq_eq_false_iff_ne.mpr c42
                have c42b1 : (x8_4 != x8_11) = true := bne_iff_ne.mpr c42
                replace H := guard_inv H
                obtain ⟨c51, H⟩ := H
                have c51b0 := eq_true c51
                have c51b1 := decide_eq_true c51
                clear c51
                replace H := guard_inv H
                obtain ⟨c52, H⟩ := H
                have c52b0 := eq_true c52
                have c52b1 := decide_eq_true c52
                clear c52
                replace H := guard_inv H
                obtain ⟨c53, H⟩ := H
                have c53b0 := eq_true c53
                have c53b1 := decide_eq_true c53
                clear c53
                replace H := guard_inv H
                obtain ⟨c54, H⟩ := H
                have LMc54 := Aside0.mk c54
                clear c54
                obtain ⟨y967, hy967⟩ : ∃ y_ : List ByteArray, y_ = (x9_2 ++ [a0.extract (x8_11 : Int).toNat (x8_4 : Int).toNat]) := ⟨_, rfl⟩
                replace H : (procfs_zzNumbers.l1 k4 a0 a1 a2 x7_1 x8_4 y967) = some r := by first | (rw [hy967]; with_reducible exact H) | (have H2_ := (Option.bind_some _ _).symm.trans H; rw [hy967]; with_reducible exact H2_) | (have H2_ := (Option.bind_some _ _).symm.trans H; with_reducible exact H2_) | with_reducible exact H | (rw [hy967]; exact H) | exact H
                have Ny967 := Aside0.mk hy967
                clear hy967
                have H' := Aside0.mk H
                clear H
                have p38 : 0 ≤ (x8_4 : Int) := of_decide_eq_true (by first | (with_reducible assumption) | assumption)
                have q38 : x8_4 < (a0.size : Int) := of_decide_eq_true (by first | (with_reducible assumption) | assumption)
                have hx38 := bt_at a0 x8_4
                replace p38 := eq_true p38
                replace q38 := eq_true q38
                have p40 : 0 ≤ (x8_4 : Int) := of_decide_eq_true (by first | (with_reducible assumption) | assumption)
                have q40 : x8_4 < (a0.size : Int) := of_decide_eq_true (by first | (with_reducible assumption) | assumption)
                have hx40 := bt_at a0 x8_4
                replace p40 := eq_true p40
                replace q40 := eq_true q40
                go_wp2_with (first | ((with_reducible refine gate_builtin (b := .append) (xs := #[.tmp 75, .tmp 80]) rfl ?_); at_builtin; refine Kd.R_append Kd.string (w0 := w) w.heap.size rfl (.tmp 75) (.tmp 80) 29 9 (.string ⟨#[]⟩) 16 rfl Tryz.underlying29 info9 rfl (by decide) (by omega) (.slice Ao13 x9_2.length co13) x9_2 (a0.extract (x8_11 : Int).toNat (x8_4 : Int).toNat) [.string (a0.extract (x8_11 : Int).toNat (x8_4 : Int).toNat)] (fun _ => True) (fun _ => False) rfl rfl ?aP (fun _ hk => hk.elim) ?aF ?aO ?aB ?aS ?aL ?_; (case aP => exact rfl); (case aB => exact (by repeat (first | (with_reducible first | exact HB.out | apply below_alloc | apply pw_below_drewN | apply below_drew1) | exact HB.out))); (case aF => exact (fun _ _ => trivial)); (case aO => exact (by (with_reducible repeat (first | apply Kd.R_alloc | apply Kd.R_drewN | apply Kd.R_drew)); exact HO_9.out)); (case aS => exact (below_size (by repeat (first | (with_reducible first | exact HB.out | apply below_alloc | apply pw_below_drewN | apply below_drew1) | exact HB.out)))); (case aL => have := LMc54.out; omega); intro v968 w55 ho hb hg hat; rw [← Ny967.out] at ho; have n0_ := Aside0.mk (hb); have n1_ := Aside0.mk (ho); clear HB; clear HO_9; have HB := n0_; have HO969 := n1_; clear n0_ n1_; clear ho hb hg hat))
                go_roundg k4
                case measure => have := HK1.out; have := HK2.out; have := HJ11.out; have := HK4.out; omega
                case rel => exact ⟨(x8_4), (y967), (by first | rfl | (simp; done) | (simp [*]; done)), H', ⟨by have := HK1.out; have := HK2.out; have := HJ11.out; have := HK4.out; omega⟩, ⟨by (with_reducible repeat (first | apply Kd.R_alloc | apply Kd.R_drewN | apply Kd.R_drew)); exact HO969.out⟩, ⟨by repeat (first | (with_reducible first | exact HB.out | apply below_alloc | apply pw_below_drewN | apply below_drew1) | exact HB.out)⟩⟩
             ·rw [if_neg c39] at H
              have c39b0 : decide (48 ≤ (bt a0 x8_4)) = false := decide_eq_false c39
              clear c39
              by_cases c56 : x8_4 = x8_11
              ·rw [if_pos c56] at H
               have c56b0 : (x8_4 == x8_11) = true := beq_iff_eq.mpr c56
               have c56b1 : (x8_4 != x8_11) = false := bne_eq_false_iff_eq.mpr c56
               clear c56
               by_cases c57 : (x9_2.length : Int) > a2
               ·rw [if_pos c57] at H
                have c57b0 : decide (a2 < (x9_2.length : Int)) = true := decide_eq_true c57
                clear c57
                replace H := guard_inv H
                obtain ⟨c58, H⟩ := H
                have c58b0 := eq_true c58
                have c58b1 := decide_eq_true c58
                clear c58
                replace H := guard_inv H
                obtain ⟨c59, H⟩ := H
                have c59b0 := eq_true c59
                have c59b1 := decide_eq_true c59
                clear c59
                replace H := guard_inv H
                obtain ⟨c60, H⟩ := H
                have c60b0 := eq_true c60
                have c60b1 := decide_eq_true c60
                clear c60
                replace H := guard_inv H
                obtain ⟨c61, H⟩ := H
                have c61b0 : decide (0 < (x9_2.length : Int)) = true := decide_eq_true c61
                have c61b1 : decide (0 < x9_2.length) = true := decide_eq_true (by omega)
                clear c61
                obtain ⟨y970, hy970⟩ : ∃ y_ : List ByteArray, y_ = (x9_2.set (0 : Int).toNat (a0.extract (x7_1 : Int).toNat (x8_4 : Int).toNat)) := ⟨_, rfl⟩
                replace H : (some y970) = some r := by first | (rw [hy970]; with_reducible exact H) | (have H2_ := (Option.bind_some _ _).symm.trans H; rw [hy970]; with_reducible exact H2_) | (have H2_ := (Option.bind_some _ _).symm.trans H; with_reducible exact H2_) | with_reducible exact H | (rw [hy970]; exact H) | exact H
                have Ny970 := Aside0.mk hy970
                clear hy970
                obtain rfl := Option.some.inj H
                have p38 : 0 ≤ (x8_4 : Int) := of_decide_eq_true (by first | (with_reducible assumption) | assumption)
                have q38 : x8_4 < (a0.size : Int) := of_decide_eq_true (by first | (with_reducible assumption) | assumption)
                have hx38 := bt_at a0 x8_4
                replace p38 := eq_true p38
                replace q38 := eq_true q38
                have p62 : 0 ≤ (0 : Int) := (by omega)
                have q62 : (0 : Int) < ((x9_2.length : Int) : Int) := of_decide_eq_true (by first | (with_reducible assumption) | assumption)
                have qi62 : (0 < x9_2.length) = True := eq_true (by omega)
                obtain ⟨go62, co62, eo62, gb62, gl62, cl62, HG62⟩ := Kd.R_form HO_9.out (by omega)
                (first | cases eo62 | (injection eo62 with ea_ en_ ec_; (first | subst ea_ | (injection ea_ with ea_; subst ea_)); subst ec_; clear en_))
                have GB62 := Aside0.mk gb62
                have GG62 := Aside0.mk HG62
                clear gb62 gl62 HG62
                obtain ⟨hx62_0, hf62_0⟩ := Kd.R_celln (⟨#[]⟩ : ByteArray) HO_9.out (0 : Int) p62 q62
                (try rw [show ((0 : Int)).toNat = 0 from rfl] at hx62_0)
                (try simp only [Nat.reduceMul, Nat.zero_mul, Nat.zero_add, Nat.reduceAdd] at hx62_0)
                (try rw [show ((0 : Int)).toNat = 0 from rfl] at hf62_0)
                (try simp only [Nat.reduceMul, Nat.zero_mul, Nat.zero_add, Nat.reduceAdd] at hf62_0)
                replace p62 := eq_true p62
                replace q62 := eq_true q62
                have HP63 := Kd.R_putg HO_9.out (0 : Int) (a0.extract (x7_1 : Int).toNat (x8_4 : Int).toNat)
                go_wp2_with (first | ((with_reducible refine gate_store (t := 9) (p := 91) rfl ?_); refine store_event (t := 9) (p := 91) (v := ?vo_w64) (w1 := (wr.setCell ⟨go62, (0 : Int).toNat, none⟩ (.string (a0.extract (x7_1 : Int).toNat (x8_4 : Int).toNat)))) ?hg ?ho ?hn ?hr ?_; (case ho => rfl); (case hg => rfl); (case hn => rfl); (case hr => first | (go_simp; done) | (go_simp; rfl)); intro w64 hw; have hg : wr.grownBy w64 (some go62) := (by rw [hw]; exact HP63.2); have hp_ : Kd.R Kd.string 9 w64 w.heap.size (fun _ => True) (.slice (some ⟨go62, 0, none⟩) x9_2.length co13) y970 := (by rw [hw, Ny970.out]; exact HP63.1); clear HP63; have n0_ := Aside0.mk (hp_); have n1_ := Aside0.mk ((by rw [hw]; exact below_set (HB.out) GB62.out : Below w.heap.size w w64)); clear HO_9; clear HB; have HO_9 := n0_; have HB := n1_; clear n0_ n1_; clear hg hw hp_))
                go_ret
                exact ⟨_, by first | rfl | (simp [errW_none, errW_some] <;> rfl) | (simp [*, errW_none, errW_some] <;> rfl), by (with_reducible repeat (first | apply Kd.R_alloc | apply Kd.R_drewN | apply Kd.R_drew)); exact HO_9.out, by repeat (first | (with_reducible first | exact HB.out | apply below_alloc | apply pw_below_drewN | apply below_drew1) | exact HB.out), fun he_ => by { have hq_ := (Kd.R_reads' HO_9.out).1; rw [he_] at hq_; simp only [List.length_nil] at hq_; have hq2_ := of_eq_true q62; omega }⟩
               ·rw [if_neg c57] at H
                have c57b0 : decide (a2 < (x9_2.length : Int)) = false := decide_eq_false c57
                clear c57
                have H' := Aside0.mk H
                clear H
                have p38 : 0 ≤ (x8_4 : Int) := of_decide_eq_true (by first | (with_reducible assumption) | assumption)
                have q38 : x8_4 < (a0.size : Int) := of_decide_eq_true (by first | (with_reducible assumption) | assumption)
                have hx38 := bt_at a0 x8_4
                replace p38 := eq_true p38
                replace q38 := eq_true q38
                go_wp2
                go_roundg k4
                case measure => have := HK1.out; have := HK2.out; have := HJ11.out; have := HK4.out; omega
                case rel => exact ⟨(wrap64 (x7_1 + 1)), (by first | rfl | (simp; done) | (simp [*]; done)), H', ⟨by have := HK1.out; have := HK2.out; have := HJ11.out; have := HK4.out; omega⟩, ⟨by repeat (first | (with_reducible first | exact HB.out | apply below_alloc | apply pw_below_drewN | apply below_drew1) | exact HB.out)⟩⟩
              ·rw [if_neg c56] at H
               have c56b0 : (x8_4 == x8_11) = false := beq_eq_false_iff_ne.mpr c56
               have c56b1 : (x8_4 != x8_11) = true := bne_iff_ne.mpr c56
               replace H := guard_inv H
               obtain ⟨c65, H⟩ := H
               have c65b0 := eq_true c65
               have c65b1 := decide_eq_true c65
               clear c65
               replace H := guard_inv H
               obtain ⟨c66, H⟩ := H
               have c66b0 := eq_true c66
               have c66b1 := decide_eq_true c66
               clear c66
               replace H := guard_inv H
               obtain ⟨c67, H⟩ := H
               have c67b0 := eq_true c67
               have c67b1 := decide_eq_true c67
               clear c67
               replace H := guard_inv H
               obtain ⟨c68, H⟩ := H
               have LMc68 := Aside0.mk c68
               clear c68
               obtain ⟨y971, hy971⟩ : ∃ y_ : List ByteArray, y_ = (x9_2 ++ [a0.extract (x8_11 : Int).toNat (x8_4 : Int).toNat]) := ⟨_, rfl⟩
               replace H : (procfs_zzNumbers.l1 k4 a0 a1 a2 x7_1 x8_4 y971) = some r := by first | (rw [hy971]; with_reducible exact H) | (have H2_ := (Option.bind_some _ _).symm.trans H; rw [hy971]; with_reducible exact H2_) | (have H2_ := (Option.bind_some _ _).symm.trans H; with_reducible exact H2_) | with_reducible exact H | (rw [hy971]; exact H) | exact H
               have Ny971 := Aside0.mk hy971
               clear hy971
               have H' := Aside0.mk H
               clear H
               have p38 : 0 ≤ (x8_4 : Int) := of_decide_eq_true (by first | (with_reducible assumption) | assumption)
               have q38 : x8_4 < (a0.size : Int) := of_decide_eq_true (by first | (with_reducible assumption) | assumption)
               have hx38 := bt_at a0 x8_4
               replace p38 := eq_true p38
               replace q38 := eq_true q38
               go_wp2_with (first | ((with_reducible refine gate_builtin (b := .append) (xs := #[.tmp 75, .tmp 80]) rfl ?_); at_builtin; refine Kd.R_append Kd.string (w0 := w) w.heap.size rfl (.tmp 75) (.tmp 80) 29 9 (.string ⟨#[]⟩) 16 rfl Tryz.underlying29 info9 rfl (by decide) (by omega) (.slice Ao13 x9_2.length co13) x9_2 (a0.extract (x8_11 : Int).toNat (x8_4 : Int).toNat) [.string (a0.extract (x8_11 : Int).toNat (x8_4 : Int).toNat)] (fun _ => True) (fun _ => False) rfl rfl ?aP (fun _ hk => hk.elim) ?aF ?aO ?aB ?aS ?aL ?_; (case aP => exact rfl); (case aB => exact (by repeat (first | (with_reducible first | exact HB.out | apply below_alloc | apply pw_below_drewN | apply below_drew1) | exact HB.out))); (case aF => exact (fun _ _ => trivial)); (case aO => exact (by (with_reducible repeat (first | apply Kd.R_alloc | apply Kd.R_drewN | apply Kd.R_drew)); exact HO_9.out)); (case aS => exact (below_size (by repeat (first | (with_reducible first | exact HB.out | apply below_alloc | apply pw_below_drewN | apply below_drew1) | exact HB.out)))); (case aL => have := LMc68.out; omega); intro v972 w69 ho hb hg hat; rw [← Ny971.out] at ho; have n0_ := Aside0.mk (hb); have n1_ := Aside0.mk (ho); clear HB; clear HO_9; have HB := n0_; have HO973 := n1_; clear n0_ n1_; clear ho hb hg hat))
               go_roundg k4
               case measure => have := HK1.out; have := HK2.out; have := HJ11.out; have := HK4.out; omega
               case rel => exact ⟨(x8_4), (y971), (by first | rfl | (simp; done) | (simp [*]; done)), H', ⟨by have := HK1.out; have := HK2.out; have := HJ11.out; have := HK4.out; omega⟩, ⟨by (with_reducible repeat (first | apply Kd.R_alloc | apply Kd.R_drewN | apply Kd.R_drew)); exact HO973.out⟩, ⟨by repeat (first | (with_reducible first | exact HB.out | apply below_alloc | apply pw_below_drewN | apply below_drew1) | exact HB.out)⟩⟩
            ·rw [if_neg c36] at H
             have c36b0 : decide (x8_4 < (a0.size : Int)) = false := decide_eq_false c36
             clear c36
             by_cases c70 : x8_4 = x8_11
             ·rw [if_pos c70] at H
              have c70b0 : (x8_4 == x8_11) = true := beq_iff_eq.mpr c70
              have c70b1 : (x8_4 != x8_11) = false := bne_eq_false_iff_eq.mpr c70
              clear c70
              by_cases c71 : (x9_2.length : Int) > a2
              ·rw [if_pos c71] at H
               have c71b0 : decide (a2 < (x9_2.length : Int)) = true := decide_eq_true c71
               clear c71
               replace H := guard_inv H
               obtain ⟨c72, H⟩ := H
               have c72b0 := eq_true c72
               have c72b1 := decide_eq_true c72
               clear c72
               replace H := guard_inv H
               obtain ⟨c73, H⟩ := H
               have c73b0 := eq_true c73
               have c73b1 := decide_eq_true c73
               clear c73
               replace H := guard_inv H
               obtain ⟨c74, H⟩ := H
               have c74b0 := eq_true c74
               have c74b1 := decide_eq_true c74
               clear c74
               replace H := guard_inv H
               obtain ⟨c75, H⟩ := H
               have c75b0 : decide (0 < (x9_2.length : Int)) = true := decide_eq_true c75
               have c75b1 : decide (0 < x9_2.length) = true := decide_eq_true (by omega)
               clear c75
               obtain ⟨y974, hy974⟩ : ∃ y_ : List ByteArray, y_ = (x9_2.set (0 : Int).toNat (a0.extract (x7_1 : Int).toNat (x8_4 : Int).toNat)) := ⟨_, rfl⟩
               replace H : (some y974) = some r := by first | (rw [hy974]; with_reducible exact H) | (have H2_ := (Option.bind_some _ _).symm.trans H; rw [hy974]; with_reducible exact H2_) | (have H2_ := (Option.bind_some _ _).symm.trans H; with_reducible exact H2_) | with_reducible exact H | (rw [hy974]; exact H) | exact H
               have Ny974 := Aside0.mk hy974
               clear hy974
               obtain rfl := Option.some.inj H
               have p76 : 0 ≤ (0 : Int) := (by omega)
               have q76 : (0 : Int) < ((x9_2.length : Int) : Int) := of_decide_eq_true (by first | (with_reducible assumption) | assumption)
               have qi76 : (0 < x9_2.length) = True := eq_true (by omega)
               obtain ⟨go76, co76, eo76, gb76, gl76, cl76, HG76⟩ := Kd.R_form HO_9.out (by omega)
               (first | cases eo76 | (injection eo76 with ea_ en_ ec_; (first | subst ea_ | (injection ea_ with ea_; subst ea_)); subst ec_; clear en_))
               have GB76 := Aside0.mk gb76
               have GG76 := Aside0.mk HG76
               clear gb76 gl76 HG76
               obtain ⟨hx76_0, hf76_0⟩ := Kd.R_celln (⟨#[]⟩ : ByteArray) HO_9.out (0 : Int) p76 q76
               (try rw [show ((0 : Int)).toNat = 0 from rfl] at hx76_0)
               (try simp only [Nat.reduceMul, Nat.zero_mul, Nat.zero_add, Nat.reduceAdd] at hx76_0)
               (try rw [show ((0 : Int)).toNat = 0 from rfl] at hf76_0)
               (try simp only [Nat.reduceMul, Nat.zero_mul, Nat.zero_add, Nat.reduceAdd] at hf76_0)
               replace p76 := eq_true p76
               replace q76 := eq_true q76
               have HP77 := Kd.R_putg HO_9.out (0 : Int) (a0.extract (x7_1 : Int).toNat (x8_4 : Int).toNat)
               go_wp2_with (first | ((with_reducible refine gate_store (t := 9) (p := 91) rfl ?_); refine store_event (t := 9) (p := 91) (v := ?vo_w78) (w1 := (wr.setCell ⟨go76, (0 : Int).toNat, none⟩ (.string (a0.extract (x7_1 : Int).toNat (x8_4 : Int).toNat)))) ?hg ?ho ?hn ?hr ?_; (case ho => rfl); (case hg => rfl); (case hn => rfl); (case hr => first | (go_simp; done) | (go_simp; rfl)); intro w78 hw; have hg : wr.grownBy w78 (some go76) := (by rw [hw]; exact HP77.2); have hp_ : Kd.R Kd.string 9 w78 w.heap.size (fun _ => True) (.slice (some ⟨go76, 0, none⟩) x9_2.length co13) y974 := (by rw [hw, Ny974.out]; exact HP77.1); clear HP77; have n0_ := Aside0.mk (hp_); have n1_ := Aside0.mk ((by rw [hw]; exact below_set (HB.out) GB76.out : Below w.heap.size w w78)); clear HO_9; clear HB; have HO_9 := n0_; have HB := n1_; clear n0_ n1_; clear hg hw hp_))
               go_ret
               exact ⟨_, by first | rfl | (simp [errW_none, errW_some] <;> rfl) | (simp [*, errW_none, errW_some] <;> rfl), by (with_reducible repeat (first | apply Kd.R_alloc | apply Kd.R_drewN | apply Kd.R_drew)); exact HO_9.out, by repeat (first | (with_reducible first | exact HB.out | apply below_alloc | apply pw_below_drewN | apply below_drew1) | exact HB.out), fun he_ => by { have hq_ := (Kd.R_reads' HO_9.out).1; rw [he_] at hq_; simp only [List.length_nil] at hq_; have hq2_ := of_eq_true q76; omega }⟩
              ·rw [if_neg c71] at H
               have c71b0 : decide (a2 < (x9_2.length : Int)) = false := decide_eq_false c71
               clear c71
               have H' := Aside0.mk H
               clear H
               go_wp2
               go_roundg k4
               case measure => have := HK1.out; have := HK2.out; have := HJ11.out; have := HK4.out; omega
               case rel => exact ⟨(wrap64 (x7_1 + 1)), (by first | rfl | (simp; done) | (simp [*]; done)), H', ⟨by have := HK1.out; have := HK2.out; have := HJ11.out; have := HK4.out; omega⟩, ⟨by repeat (first | (with_reducible first | exact HB.out | apply below_alloc | apply pw_below_drewN | apply below_drew1) | exact HB.out)⟩⟩
             ·rw [if_neg c70] at H
              have c70b0 : (x8_4 == x8_11) = false := beq_eq_false_iff_ne.mpr c70
              have c70b1 : (x8_4 != x8_11) = true := bne_iff_ne.mpr c70
              replace H := guard_inv H
              obtain ⟨c79, H⟩ := H
              have c79b0 := eq_true c79
              have c79b1 := decide_eq_true c79
              clear c79
              replace H := guard_inv H
              obtain ⟨c80, H⟩ := H
              have c80b0 := eq_true c80
              have c80b1 := decide_eq_true c80
              clear c80
              replace H := guard_inv H
              obtain ⟨c81, H⟩ := H
              have c81b0 := eq_true c81
              have c81b1 := decide_eq_true c81
              clear c81
              replace H := guard_inv H
              obtain ⟨c82, H⟩ := H
              have LMc82 := Aside0.mk c82
              clear c82
              obtain ⟨y975, hy975⟩ : ∃ y_ : List ByteArray, y_ = (x9_2 ++ [a0.extract (x8_11 : Int).toNat (x8_4 : Int).toNat]) := ⟨_, rfl⟩
              replace H : (procfs_zzNumbers.l1 k4 a0 a1 a2 x7_1 x8_4 y975) = some r := by first | (rw [hy975]; with_reducible exact H) | (have H2_ := (Option.bind_some _ _).symm.trans H; rw [hy975]; with_reducible exact H2_) | (have H2_ := (Option.bind_some _ _).symm.trans H; with_reducible exact H2_) | with_reducible exact H | (rw [hy975]; exact H) | exact H
              have Ny975 := Aside0.mk hy975
              clear hy975
              have H' := Aside0.mk H
              clear H
              go_wp2_with (first | ((with_reducible refine gate_builtin (b := .append) (xs := #[.tmp 75, .tmp 80]) rfl ?_); at_builtin; refine Kd.R_append Kd.string (w0 := w) w.heap.size rfl (.tmp 75) (.tmp 80) 29 9 (.string ⟨#[]⟩) 16 rfl Tryz.underlying29 info9 rfl (by decide) (by omega) (.slice Ao13 x9_2.length co13) x9_2 (a0.extract (x8_11 : Int).toNat (x8_4 : Int).toNat) [.string (a0.extract (x8_11 : Int).toNat (x8_4 : Int).toNat)] (fun _ => True) (fun _ => False) rfl rfl ?aP (fun _ hk => hk.elim) ?aF ?aO ?aB ?aS ?aL ?_; (case aP => exact rfl); (case aB => exact (by repeat (first | (with_reducible first | exact HB.out | apply below_alloc | apply pw_below_drewN | apply below_drew1) | exact HB.out))); (case aF => exact (fun _ _ => trivial)); (case aO => exact (by (with_reducible repeat (first | apply Kd.R_alloc | apply Kd.R_drewN | apply Kd.R_drew)); exact HO_9.out)); (case aS => exact (below_size (by repeat (first | (with_reducible first | exact HB.out | apply below_alloc | apply pw_below_drewN | apply below_drew1) | exact HB.out)))); (case aL => have := LMc82.out; omega); intro v976 w83 ho hb hg hat; rw [← Ny975.out] at ho; have n0_ := Aside0.mk (hb); have n1_ := Aside0.mk (ho); clear HB; clear HO_9; have HB := n0_; have HO977 := n1_; clear n0_ n1_; clear ho hb hg hat))
              go_roundg k4
              case measure => have := HK1.out; have := HK2.out; have := HJ11.out; have := HK4.out; omega
              case rel => exact ⟨(x8_4), (y975), (by first | rfl | (simp; done) | (simp [*]; done)), H', ⟨by have := HK1.out; have := HK2.out; have := HJ11.out; have := HK4.out; omega⟩, ⟨by (with_reducible repeat (first | apply Kd.R_alloc | apply Kd.R_drewN | apply Kd.R_drew)); exact HO977.out⟩, ⟨by repeat (first | (with_reducible first | exact HB.out | apply below_alloc | apply pw_below_drewN | apply below_drew1) | exact HB.out)⟩⟩
       ·rw [if_neg c11] at H
        have c11b0 : decide ((x9_2.length : Int) ≤ a2) = false := decide_eq_false c11
        clear c11
        by_cases c84 : (x9_2.length : Int) > a2
        ·rw [if_pos c84] at H
         have c84b0 : decide (a2 < (x9_2.length : Int)) = true := decide_eq_true c84
         clear c84
         replace H := guard_inv H
         obtain ⟨c85, H⟩ := H
         have c85b0 := eq_true c85
         have c85b1 := decide_eq_true c85
         clear c85
         replace H := guard_inv H
         obtain ⟨c86, H⟩ := H
         have c86b0 := eq_true c86
         have c86b1 := decide_eq_true c86
         clear c86
         replace H := guard_inv H
         obtain ⟨c87, H⟩ := H
         have c87b0 := eq_true c87
         have c87b1 := decide_eq_true c87
         clear c87
         replace H := guard_inv H
         obtain ⟨c88, H⟩ := H
         have c88b0 : decide (0 < (x9_2.length : Int)) = true := decide_eq_true c88
         have c88b1 : decide (0 < x9_2.length) = true := decide_eq_true (by omega)
         clear c88
         obtain ⟨y963, hy963⟩ : ∃ y_ : List ByteArray, y_ = (x9_2.set (0 : Int).toNat (a0.extract (x7_1 : Int).toNat (x8_2 : Int).toNat)) := ⟨_, rfl⟩
         replace H : (some y963) = some r := by first | (rw [hy963]; with_reducible exact H) | (have H2_ := (Option.bind_some _ _).symm.trans H; rw [hy963]; with_reducible exact H2_) | (have H2_ := (Option.bind_some _ _).symm.trans H; with_reducible exact H2_) | with_reducible exact H | (rw [hy963]; exact H) | exact H
         have Ny963 := Aside0.mk hy963
         clear hy963
         obtain rfl := Option.some.inj H
         obtain ⟨Ao90, co90, eo90⟩ := Kd.R_slice HO_9.out
         subst eo90
         have p89 : 0 ≤ (0 : Int) := (by omega)
         have q89 : (0 : Int) < ((x9_2.length : Int) : Int) := of_decide_eq_true (by first | (with_reducible assumption) | assumption)
         have qi89 : (0 < x9_2.length) = True := eq_true (by omega)
         obtain ⟨go89, co89, eo89, gb89, gl89, cl89, HG89⟩ := Kd.R_form HO_9.out (by omega)
         (first | cases eo89 | (injection eo89 with ea_ en_ ec_; (first | subst ea_ | (injection ea_ with ea_; subst ea_)); subst ec_; clear en_))
         have GB89 := Aside0.mk gb89
         have GG89 := Aside0.mk HG89
         clear gb89 gl89 HG89
         obtain ⟨hx89_0, hf89_0⟩ := Kd.R_celln (⟨#[]⟩ : ByteArray) HO_9.out (0 : Int) p89 q89
         (try rw [show ((0 : Int)).toNat = 0 from rfl] at hx89_0)
         (try simp only [Nat.reduceMul, Nat.zero_mul, Nat.zero_add, Nat.reduceAdd] at hx89_0)
         (try rw [show ((0 : Int)).toNat = 0 from rfl] at hf89_0)
         (try simp only [Nat.reduceMul, Nat.zero_mul, Nat.zero_add, Nat.reduceAdd] at hf89_0)
         replace p89 := eq_true p89
         replace q89 := eq_true q89
         have HP91 := Kd.R_putg HO_9.out (0 : Int) (a0.extract (x7_1 : Int).toNat (x8_2 : Int).toNat)
         go_wp2_with (first | ((with_reducible refine gate_store (t := 9) (p := 91) rfl ?_); refine store_event (t := 9) (p := 91) (v := ?vo_w92) (w1 := (wr.setCell ⟨go89, (0 : Int).toNat, none⟩ (.string (a0.extract (x7_1 : Int).toNat (x8_2 : Int).toNat)))) ?hg ?ho ?hn ?hr ?_; (case ho => rfl); (case hg => rfl); (case hn => rfl); (case hr => first | (go_simp; done) | (go_simp; rfl)); intro w92 hw; have hg : wr.grownBy w92 (some go89) := (by rw [hw]; exact HP91.2); have hp_ : Kd.R Kd.string 9 w92 w.heap.size (fun _ => True) (.slice (some ⟨go89, 0, none⟩) x9_2.length co90) y963 := (by rw [hw, Ny963.out]; exact HP91.1); clear HP91; have n0_ := Aside0.mk (hp_); have n1_ := Aside0.mk ((by rw [hw]; exact below_set (HB.out) GB89.out : Below w.heap.size w w92)); clear HO_9; clear HB; have HO_9 := n0_; have HB := n1_; clear n0_ n1_; clear hg hw hp_))
         go_ret
         exact ⟨_, by first | rfl | (simp [errW_none, errW_some] <;> rfl) | (simp [*, errW_none, errW_some] <;> rfl), by (with_reducible repeat (first | apply Kd.R_alloc | apply Kd.R_drewN | apply Kd.R_drew)); exact HO_9.out, by repeat (first | (with_reducible first | exact HB.out | apply below_alloc | apply pw_below_drewN | apply below_drew1) | exact HB.out), fun he_ => by { have hq_ := (Kd.R_reads' HO_9.out).1; rw [he_] at hq_; simp only [List.length_nil] at hq_; have hq2_ := of_eq_true q89; omega }⟩
        ·rw [if_neg c84] at H
         have c84b0 : decide (a2 < (x9_2.length : Int)) = false := decide_eq_false c84
         clear c84
         have H' := Aside0.mk H
         clear H
         obtain ⟨Ao93, co93, eo93⟩ := Kd.R_slice HO_9.out
         subst eo93
         go_wp2
         go_roundg k2
         case measure => have := HK1.out; have := HK2.out; omega
         case rel => exact ⟨(wrap64 (x7_1 + 1)), (by first | rfl | (simp; done) | (simp [*]; done)), H', ⟨by have := HK1.out; have := HK2.out; omega⟩, ⟨by repeat (first | (with_reducible first | exact HB.out | apply below_alloc | apply pw_below_drewN | apply below_drew1) | exact HB.out)⟩⟩
    ·rw [if_neg c8] at H
     have c8b0 : ((a0.extract (x7_1 : Int).toNat ((wrap64 (x7_1 + (a1.size : Int))) : Int).toNat).toList == a1.toList) = false := beq_eq_false_iff_ne.mpr c8
     have c8b1 : ((a0.extract (x7_1 : Int).toNat ((wrap64 (x7_1 + (a1.size : Int))) : Int).toNat).toList != a1.toList) = true := bne_iff_ne.mpr c8
     have H' := Aside0.mk H
     clear H
     go_wp2
     go_roundg k1
     case measure => have := HK1.out; omega
     case rel => exact ⟨(wrap64 (x7_1 + 1)), (by first | rfl | (simp; done) | (simp [*]; done)), H', ⟨by have := HK1.out; omega⟩, ⟨by repeat (first | (with_reducible first | exact HB.out | apply below_alloc | apply pw_below_drewN | apply below_drew1) | exact HB.out)⟩⟩
   ·rw [if_neg c4] at H
    have c4b0 : decide ((wrap64 (x7_1 + (a1.size : Int))) ≤ (a0.size : Int)) = false := decide_eq_false c4
    clear c4
    obtain rfl := Option.some.inj H
    go_wp2
    go_ret
    exact ⟨_, by first | rfl | (simp [errW_none, errW_some] <;> rfl) | (simp [*, errW_none, errW_some] <;> rfl), by first | exact Kd.R_nil _ _ _ _ _ | exact Kd.N_nil _ _ _ _ _ | exact Kd.V_nil _ _ _ _ _ | exact Kd.Q_nil _ _ _ _ _ | exact Kd.S_nil _ _ _ _ _, by repeat (first | (with_reducible first | exact HB.out | apply below_alloc | apply pw_below_drewN | apply below_drew1) | exact HB.out), by first | (intro _; rfl) | rfl⟩
end Go.Proofs.YtednjmngalmdkaaGreatDoor.GPC
end
section
/- (FS).Schedstat: the text opened, read line by line, closed at its end. Conditions: rowsF (sdL K); the tables as laid. -/
namespace Go.Proofs.YtednjmngalmdkaaGreatDoor.GPC
open Go Go.RowKit Go.Proofs.YtednjmngalmdkaaGreatDoorW.PrintWords Go.Proofs.YtednjmngalmdkaaGreatDoorW.PrintLast
set_option linter.unusedVariables false
set_option linter.unusedSimpArgs false
abbrev cpuB : ByteArray := ⟨#[99, 112, 117]⟩
def puSd (s : ByteArray) : Option Int := (strconv_ParseUint.f s 10 64).map fun r => r.1
theorem puSd_call (s : ByteArray) (n : Int) (w : World) (h : puSd s = some n) :
  Calls Tryz.prog 158 #[.string s, .int .i64 10, .int .i64 64] w fun e w' => e = .returned (.tuple #[.int .u64 n, .nilIface]) ∧ Below w.heap.size w w' := by
 unfold puSd at h
 obtain ⟨⟨m, q⟩, h1, rfl⟩ := Option.map_eq_some_iff.1 h
 have hq : q = none := by
  unfold strconv_ParseUint.f at h1
  obtain ⟨r, _, h2⟩ := Option.bind_eq_some_iff.1 h1
  split at h2
  ·rename_i h3; obtain rfl := Option.some.inj h2; exact h3
  ·cases h2
 subst hq
 exact strconv_ParseUint.calls s 10 64 m none w h1
def sdL (K : Nat) (t : ByteArray) : Option (Option S196) := (procfs_zzNumbers.f K t cpuB 10).bind fun fs => if fs.length = 0 then some none else if 11 ≤ fs.length then
 (puSd (rdOf ByteArray.empty fs 8)).bind fun a => (puSd (rdOf ByteArray.empty fs 9)).bind fun b => (puSd (rdOf ByteArray.empty fs 10)).bind fun c => some (some ⟨rdOf ByteArray.empty fs 1, a, b, c⟩) else none
theorem sdL_some {K : Nat} {t : ByteArray} {m : Option S196} (h : sdL K t = some m) : ∃ fs, procfs_zzNumbers.f K t cpuB 10 = some fs ∧ ((fs = [] ∧ m = none) ∨ (11 ≤ fs.length ∧ ∃ x, m = some x ∧ x.f0 = rdOf ByteArray.empty fs 1 ∧ puSd (rdOf ByteArray.empty fs 8) = some x.f1 ∧ puSd (rdOf ByteArray.empty fs 9) = some x.f2 ∧ puSd (rdOf ByteArray.empty fs 10) = some x.f3)) := by
 unfold sdL at h
 obtain ⟨fs, h1, h⟩ := Option.bind_eq_some_iff.1 h
 refine ⟨fs, h1, ?_⟩
 split at h
 ·rename_i h0; exact .inl ⟨List.eq_nil_of_length_eq_zero h0, (Option.some.inj h).symm⟩
 ·split at h
  ·rename_i h5
   obtain ⟨a, ha, h⟩ := Option.bind_eq_some_iff.1 h
   obtain ⟨b, hb, h⟩ := Option.bind_eq_some_iff.1 h
   obtain ⟨c, hc, h⟩ := Option.bind_eq_some_iff.1 h
   exact .inr ⟨h5, _, (Option.some.inj h).symm, rfl, ha, hb, hc⟩
  ·cases h
def sdTextF (K k : Nat) (text : ByteArray) : Option (List S196) := rowsF (sdL K) k text
def sdTop (u : Value) : Obj := .cells #[u] 99 (0, 0)
theorem infoPSd : (Tryz.prog.info? 194).map (fun i => (i.zero, i.size, i.bytes)) = some (some (.pointer none), 1, 8) := by kernel_rfl
theorem closeSd (s : ByteArray) (w : World) :
  CallsD Tryz.prog 144 #[.string s] .returning w fun e u' w' => u' = .returning ∧ e = .returned .nilIface ∧ w' = w := by
 refine callsD_of_wp Tryz.func144 rfl ?_
 simp only [Tryz.ntmps144]
 go_wp2
 go_ret
 exact ⟨rfl, rfl⟩
theorem neq_nil29 (W : World) : Sem.run Tryz.prog (binOp BinOp.neq 29 (.slice none 0 0) (.slice none 0 0)) W = .ok (.bool false) W := by
 have h : (Op.equal 29 (.slice none 0 0) (.slice none 0 0)).run Tryz.prog W = .ok true W := run_equal_slice_nil W _ _ none 0 0 Tryz.underlying29
 simp only [binOp]
 simp [h]
theorem neq_some29 (W : World) (a : Addr) (l c : Nat) : Sem.run Tryz.prog (binOp BinOp.neq 29 (.slice (some a) l c) (.slice none 0 0)) W = .ok (.bool true) W := by
 have h : (Op.equal 29 (.slice (some a) l c) (.slice none 0 0)).run Tryz.prog W = .ok false W := run_equal_slice_nil W _ _ (some a) l c Tryz.underlying29
 simp only [binOp]
 simp [h]
set_option maxHeartbeats 8000000 in
set_option maxRecDepth 100000 in
theorem fsSched (K k : Nat) (text : ByteArray) (ms : List S196) (w : World) (hT : TabW w) (h : sdTextF K k text = some ms) :
  Calls Tryz.prog 83 #[.agg #[.string text]] w fun e w' => ∃ g u, e = .returned (.tuple #[.pointer (some ⟨g, 0, none⟩), .nilIface]) ∧ w.heap.size ≤ g ∧ w'.heap[g]? = some (sdTop u) ∧ kpSd.R 194 w' w.heap.size (fun _ => True) u ms ∧ Below w.heap.size w w' := by
 have HT := Aside0.mk hT
 unfold sdTextF at h
 have HSZ := Aside0.mk (rowsF_size h)
 have H := Aside0.mk h
 have HW0 := Aside0.mk (show Below w.heap.size w ((w.alloc (Obj.cells #[Value.string text] 58 (0,0))).alloc (Obj.cells #[Value.string ⟨#[115, 99, 104, 101, 100, 115, 116, 97, 116]⟩] 9 (0,0))) from below_alloc (below_alloc (Below.refl _ _) _) _)
 clear hT h
 go_enter_defers Tryz.func83, Tryz.ntmps83
 go_wp2_with (first
  | (go_at_call 139; go_in)
  | (go_at_call 143; go_in)
  | ((with_reducible refine gate_dst (N := 23) rfl ?_); refine box_event ?hg (N := 23) ?hd (cs := #[.slice none 0 0]) (t := 99) ?hr ?_; (case hd => rfl); (case hg => rfl); (case hr => first | (go_simp; done) | (go_simp; rfl)); intro gs hgs w1 hbox hb1; have HGS := Aside0.mk (show w.heap.size ≤ gs by rw [hgs]; exact HW0.out.size); have HBS := Aside0.mk hbox; have HB1 := Aside0.mk (below_then HW0.out HW0.out.size hb1); clear hgs hbox hb1)
  | (go_at_call 154; refine (GL.lines_new text _).mono ?_; rintro e w2 ⟨g, rfl, hg1, hg2, hb1⟩; have HG := Aside0.mk hg2; have HG1 := Aside0.mk (show w.heap.size ≤ g from Nat.le_trans HB1.out.size hg1); have HNE := Aside0.mk (show gs ≠ g by have := blk_lt HBS.out; omega); have HBT := Aside0.mk (blk_below HBS.out hb1); have HB := Aside0.mk (below_step HB1.out hb1); clear hg1 hg2 hb1))
 go_loopg [5] k (fun kq v5 w' => ∃ (t line : ByteArray) (rest done : List S196) (u : Value), v5 = .nilIface ∧ Aside0 (rowsF (sdL K) kq t = some rest) ∧ Aside0 (done ++ rest = ms) ∧ Aside0 (t.size = 0 ∨ done.length + t.size ≤ 1000000) ∧
  Aside0 (w'.heap[g]? = some (GL.linesCells t line)) ∧ Aside0 (w'.heap[gs]? = some (sdTop u)) ∧ Aside0 (kpSd.R 194 w' w.heap.size (fun _ => True) u done) ∧ Aside0 (Below w.heap.size w w'))
 case atStart => exact ⟨_, _, ms, [], .slice none 0 0, rfl, H, ⟨rfl⟩, ⟨by simpa using HSZ.out⟩, HG, HBT, ⟨Kd.R_nil _ _ _ _ _⟩, HB⟩
 case round =>
  clear H HSZ HG HBT HBS HB HB1 HW0
  obtain ⟨t, line, rest, done, u, rfl, H, HD, HS, HG, HBT, HO, HB⟩ := hrel
  cases gk with
  | zero => exact absurd H.out (by simp [rowsF])
  | succ k1 =>
   by_cases ht : t.size = 0
   ·have h := H.out
    clear H
    unfold rowsF at h
    rw [if_pos ht] at h
    obtain rfl := Option.some.inj h
    obtain rfl := GL.size0 ht
    clear h ht
    go_wp2_with (first
     | (go_at_call 155; refine (GL.lines_scan_end g line _ HG.out).mono ?_; rintro e w3 ⟨rfl, hg3, hgr3⟩))
    refine leaves_cons (f := 144) (args := #[.string text]) (by simp) (by simp [go_sem]) ?_
    refine (closeSd _ _).mono ?_
    rintro e u' w'' ⟨rfl, rfl, rfl⟩
    simp [Leaves, settle, results, Tryz.results83, go_sem]
    refine ⟨HGS.out, u, ?_, ?_, ?_⟩
    ·exact blk_grown HBT.out hgr3 (fun e => HNE.out (by cases e; rfl))
    ·have := HD.out
     rw [List.append_nil] at this
     rw [← this]
     exact Kd.R_mono (Kd.R_grown (Kd.R_types HO.out HG.out (by decide)) hgr3 (fun k hk e => hk.2 (by cases e; rfl))) (fun _ _ => trivial)
    ·exact pw_below_grown HB.out (some g) HB.out.size hgr3 (fun k e => by cases e; exact HG1.out)
   ·obtain ⟨hok, m0, ms', hm, hms, hre⟩ := rowsF_step H.out ht
    obtain ⟨fs, hfs, hcase⟩ := sdL_some hm
    have HT2 := Aside0.mk ht
    have HOK := Aside0.mk hok
    have HMS := Aside0.mk hms
    have HRE := Aside0.mk hre
    have HFS := Aside0.mk hfs
    clear H ht hok hms hre hm hfs
    rcases hcase with ⟨hnil, e0⟩ | ⟨h11, x, e0, e1, ha, hb, hc⟩
    ·subst e0
     have HNIL := Aside0.mk hnil
     clear hnil
     have hnn := neq_nil29
     go_wp2_with (first
      | (go_at_call 155; refine (GL.lines_scan g t line _ HG.out (by have := HT2.out; omega) (by have := HOK.out.1; omega) HOK.out.2.1 HOK.out.2.2).mono ?_; rintro e w3 ⟨rfl, hg3, hgr3⟩; have HO3 := Aside0.mk (Kd.R_mono (Kd.R_grown (Kd.R_types HO.out HG.out (by decide)) hgr3 (fun k hk e => hk.2 (by cases e; rfl))) (fun _ _ => trivial) : kpSd.R 194 w3 w.heap.size (fun _ => True) u done); have HB3 := Aside0.mk (pw_below_grown HB.out (some g) HB.out.size hgr3 (fun k e => by cases e; exact HG1.out)); have HBT3 := Aside0.mk (blk_grown HBT.out hgr3 (fun e => HNE.out (by cases e; rfl))); have HG3 := Aside0.mk hg3; clear hg3 hgr3)
      | (go_at_call 157; refine (GL.lines_text g _ _ _ HG3.out).mono ?_; rintro e w3' ⟨rfl, rfl⟩)
      | (go_at_call 156; (with_reducible refine (procfs_zzNumbers.calls K _ cpuB 10 fs _ HFS.out).mono ?_); rintro e w4 ⟨v0, rfl, hf, hb4, hv0⟩; obtain rfl := hv0 HNIL.out; have HB4 := Aside0.mk (below_step HB3.out hb4); have HG4 := Aside0.mk (blk_below HG3.out hb4); have HBT4 := Aside0.mk (blk_below HBT3.out hb4); have HO4 := Aside0.mk (Kd.R_below HO3.out hb4); clear hf hb4 hv0))
     go_roundg k1
     case measure => omega
     case rel =>
      exact ⟨GL.restOf t, GL.lineOf t, ms', done, u, rfl, HMS, ⟨by have := HD.out; rw [HRE.out] at this; simpa using this⟩, ⟨by have := restOf_size t (by have := HT2.out; omega); have := HS.out; have := HT2.out; omega⟩, HG4, HBT4, HO4, HB4⟩
    ·subst e0
     obtain ⟨x0, x1, x2, x3⟩ := x
     simp only at e1 ha hb hc
     obtain ⟨s1, hs1⟩ : ∃ s, s = rdOf ByteArray.empty fs 1 := ⟨_, rfl⟩
     obtain ⟨s8, hs8⟩ : ∃ s, s = rdOf ByteArray.empty fs 8 := ⟨_, rfl⟩
     obtain ⟨s9, hs9⟩ : ∃ s, s = rdOf ByteArray.empty fs 9 := ⟨_, rfl⟩
     obtain ⟨s10, hs10⟩ : ∃ s, s = rdOf ByteArray.empty fs 10 := ⟨_, rfl⟩
     rw [← hs1] at e1
     rw [← hs8] at ha
     rw [← hs9] at hb
     rw [← hs10] at hc
     have S1 := Aside0.mk hs1
     have S8 := Aside0.mk hs8
     have S9 := Aside0.mk hs9
     have S10 := Aside0.mk hs10
     have H11 := Aside0.mk h11
     have E1 := Aside0.mk e1
     have HA := Aside0.mk ha
     have HBB := Aside0.mk hb
     have HC := Aside0.mk hc
     have z1 : ((1 : Int) < (fs.length : Int)) = True := eq_true (by omega)
     have kk1 : (1 < fs.length) = True := eq_true (by omega)
     have z8 : ((8 : Int) < (fs.length : Int)) = True := eq_true (by omega)
     have kk8 : (8 < fs.length) = True := eq_true (by omega)
     have z9 : ((9 : Int) < (fs.length : Int)) = True := eq_true (by omega)
     have kk9 : (9 < fs.length) = True := eq_true (by omega)
     have z10 : ((10 : Int) < (fs.length : Int)) = True := eq_true (by omega)
     have kk10 : (10 < fs.length) = True := eq_true (by omega)
     have hnn := neq_some29
     clear h11 e1 ha hb hc hs1 hs8 hs9 hs10
     have tk0 : True := trivial
     have tk1 : True := trivial
     have tk2 : True := trivial
     go_wp2_with (first
       | (go_at_call 155; refine (GL.lines_scan g t line _ HG.out (by have := HT2.out; omega) (by have := HOK.out.1; omega) HOK.out.2.1 HOK.out.2.2).mono ?_; rintro e w3 ⟨rfl, hg3, hgr3⟩; have HO3 := Aside0.mk (Kd.R_mono (Kd.R_grown (Kd.R_types HO.out HG.out (by decide)) hgr3 (fun k hk e => hk.2 (by cases e; rfl))) (fun _ _ => trivial) : kpSd.R 194 w3 w.heap.size (fun _ => True) u done); have HB3 := Aside0.mk (pw_below_grown HB.out (some g) HB.out.size hgr3 (fun k e => by cases e; exact HG1.out)); have HBT3 := Aside0.mk (blk_grown HBT.out hgr3 (fun e => HNE.out (by cases e; rfl))); have HG3 := Aside0.mk hg3; clear hg3 hgr3)
       | (go_at_call 157; refine (GL.lines_text g _ _ _ HG3.out).mono ?_; rintro e w3' ⟨rfl, rfl⟩)
       | (go_at_call 156; (with_reducible refine (procfs_zzNumbers.calls K _ cpuB 10 fs _ HFS.out).mono ?_); rintro e w4 ⟨v0, rfl, hf, hb4, hv0⟩; obtain ⟨gf, cap, rfl, hgf1, hgf2, cells, hcells⟩ := Kd.R_form hf (by have := H11.out; omega); have HF4 := Aside0.mk hf; have HB4 := Aside0.mk (below_step HB3.out hb4); have HG4 := Aside0.mk (blk_below HG3.out hb4); have HBT4 := Aside0.mk (blk_below HBT3.out hb4); have HO4 := Aside0.mk (Kd.R_below HO3.out hb4); have HGF := Aside0.mk hgf2; clear hf hb4 hv0 hcells hgf1 hgf2)
       | ((with_reducible refine gate_dst (N := 34) rfl ?_); refine box_event ?hg (N := 34) ?hd (cs := #[.string ⟨#[]⟩, .int .u64 0, .int .u64 0, .int .u64 0]) (t := 196) ?hr ?_; (case hd => rfl); (case hg => rfl); (case hr => first | (go_simp; done) | (go_simp; rfl)); intro p hp w5 hbox hb5; have HP1 := Aside0.mk (show w4.heap.size ≤ p by rw [hp]; exact Nat.le_refl _); have HPG := Aside0.mk (show p ≠ g by have := blk_lt HG4.out; have := HP1.out; omega); have HPS := Aside0.mk (show p ≠ gs by have := blk_lt HBT4.out; have := HP1.out; omega); have hne1 : (gf = p) = False := eq_false (by have := HGF.out; have := HP1.out; omega); have hne2 : (p = gf) = False := eq_false (by have := HGF.out; have := HP1.out; omega); have HBK5 := Aside0.mk hbox; have HB5 := Aside0.mk (below_step HB4.out hb5); have HG5 := Aside0.mk (blk_below HG4.out hb5); have HBT5 := Aside0.mk (blk_below HBT4.out hb5); have HF5 := Aside0.mk (Kd.R_below HF4.out hb5); have HO5 := Aside0.mk (Kd.R_mono (Kd.R_below (Kd.R_bound HO4.out) hb5) (fun k hk => show k ≠ p by have := hk.2.2.1; have := HP1.out; omega)); have hfz := blk_frozen HBK5.out 0; have hcg : w5.cell? ⟨p, 0, none⟩ = some (.string ⟨#[]⟩) := (blk_cell HBK5.out 0).trans rfl; have c1 : w5.cell? ⟨gf, 1, none⟩ = some (.string s1) := by { rw [S1.out]; exact (Kd.R_cell ByteArray.empty HF5.out 1 (by omega) (by have := H11.out; omega)).1 }; have c8 : w5.cell? ⟨gf, 8, none⟩ = some (.string s8) := by { rw [S8.out]; exact (Kd.R_cell ByteArray.empty HF5.out 8 (by omega) (by have := H11.out; omega)).1 }; clear hp hbox hb5)
       | (go_at_call 158; clear tk0; (with_reducible refine (puSd_call _ x1 _ HA.out).mono ?_); rintro e w6 ⟨rfl, hb6⟩; have HBS5 := Aside0.mk (below_set HB5.out (g := p) (j := 0) (v := (.string s1)) (Nat.le_trans HB4.out.size HP1.out)); have HB6 := Aside0.mk (below_step HBS5.out hb6); have HG6 := Aside0.mk (blk_below (blk_far HG5.out (p := ⟨p, 0, none⟩) (Ne.symm HPG.out) (.string s1)) hb6); have HBT6 := Aside0.mk (blk_below (blk_far HBT5.out (p := ⟨p, 0, none⟩) (Ne.symm HPS.out) (.string s1)) hb6); have HF6 := Aside0.mk (Kd.R_below (Kd.R_set HF5.out HBK5.out (by decide) 0 (.string s1)) hb6); have HO6 := Aside0.mk (Kd.R_below (Kd.R_far (p := ⟨p, 0, none⟩) HO5.out (fun _ hk => hk) (.string s1)) hb6); have HBK6 := Aside0.mk (blk_below (blk_put HBK5.out (cs' := #[.string s1, .int .u64 0, .int .u64 0, .int .u64 0]) 0 (.string s1) rfl) hb6); have hfz6 := blk_frozen HBK6.out 1; have hcg6 : w6.cell? ⟨p, 1, none⟩ = some (.int .u64 0) := (blk_cell HBK6.out 1).trans rfl; have c9 : w6.cell? ⟨gf, 9, none⟩ = some (.string s9) := by { rw [S9.out]; exact (Kd.R_cell ByteArray.empty HF6.out 9 (by omega) (by have := H11.out; omega)).1 }; clear hb6)
       | (go_at_call 158; clear tk1; (with_reducible refine (puSd_call _ x2 _ HBB.out).mono ?_); rintro e w7 ⟨rfl, hb7⟩; have HBS6 := Aside0.mk (below_set HB6.out (g := p) (j := 1) (v := (.int .u64 x1)) (Nat.le_trans HB4.out.size HP1.out)); have HB7 := Aside0.mk (below_step HBS6.out hb7); have HG7 := Aside0.mk (blk_below (blk_far HG6.out (p := ⟨p, 1, none⟩) (Ne.symm HPG.out) (.int .u64 x1)) hb7); have HBT7 := Aside0.mk (blk_below (blk_far HBT6.out (p := ⟨p, 1, none⟩) (Ne.symm HPS.out) (.int .u64 x1)) hb7); have HF7 := Aside0.mk (Kd.R_below (Kd.R_set HF6.out HBK6.out (by decide) 1 (.int .u64 x1)) hb7); have HO7 := Aside0.mk (Kd.R_below (Kd.R_far (p := ⟨p, 1, none⟩) HO6.out (fun _ hk => hk) (.int .u64 x1)) hb7); have HBK7 := Aside0.mk (blk_below (blk_put HBK6.out (cs' := #[.string s1, .int .u64 x1, .int .u64 0, .int .u64 0]) 1 (.int .u64 x1) rfl) hb7); have hfz7 := blk_frozen HBK7.out 2; have hcg7 : w7.cell? ⟨p, 2, none⟩ = some (.int .u64 0) := (blk_cell HBK7.out 2).trans rfl; have c10 : w7.cell? ⟨gf, 10, none⟩ = some (.string s10) := by { rw [S10.out]; exact (Kd.R_cell ByteArray.empty HF7.out 10 (by omega) (by have := H11.out; omega)).1 }; clear hb7)
       | (go_at_call 158; clear tk2; (with_reducible refine (puSd_call _ x3 _ HC.out).mono ?_); rintro e w8 ⟨rfl, hb8⟩; have HBS7 := Aside0.mk (below_set HB7.out (g := p) (j := 2) (v := (.int .u64 x2)) (Nat.le_trans HB4.out.size HP1.out)); have HB8 := Aside0.mk (below_step HBS7.out hb8); have HG8 := Aside0.mk (blk_below (blk_far HG7.out (p := ⟨p, 2, none⟩) (Ne.symm HPG.out) (.int .u64 x2)) hb8); have HBT8 := Aside0.mk (blk_below (blk_far HBT7.out (p := ⟨p, 2, none⟩) (Ne.symm HPS.out) (.int .u64 x2)) hb8); have HF8 := Aside0.mk (Kd.R_below (Kd.R_set HF7.out HBK7.out (by decide) 2 (.int .u64 x2)) hb8); have HO8 := Aside0.mk (Kd.R_below (Kd.R_far (p := ⟨p, 2, none⟩) HO7.out (fun _ hk => hk) (.int .u64 x2)) hb8); have HBK8 := Aside0.mk (blk_below (blk_put HBK7.out (cs' := #[.string s1, .int .u64 x1, .int .u64 x2, .int .u64 0]) 2 (.int .u64 x2) rfl) hb8); have hfz8 := blk_frozen HBK8.out 3; have hcg8 : w8.cell? ⟨p, 3, none⟩ = some (.int .u64 0) := (blk_cell HBK8.out 3).trans rfl; have hcu : w8.cell? ⟨gs, 0, none⟩ = some u := (blk_cell HBT8.out 0).trans rfl; have hne3 : (gs = p) = False := eq_false (Ne.symm HPS.out); have hne4 : (p = gs) = False := eq_false HPS.out; have hfs8 := blk_frozen HBT8.out 0; clear hb8)
       | ((with_reducible refine gate_builtin (b := .append) (xs := #[.tmp 81, .tmp 83]) rfl ?_); at_builtin; have HGW := Aside0.mk (blk_far HG8.out (p := ⟨p, 3, none⟩) (Ne.symm HPG.out) (.int .u64 x3)); have HBTW := Aside0.mk (blk_far HBT8.out (p := ⟨p, 3, none⟩) (Ne.symm HPS.out) (.int .u64 x3)); have HOW := Aside0.mk (Kd.R_mono (Kd.R_far (p := ⟨p, 3, none⟩) HO8.out (fun _ hk => hk) (.int .u64 x3)) (fun _ _ => trivial) : kpSd.R 194 (w8.setCell ⟨p, 3, none⟩ (.int .u64 x3)) w.heap.size (fun _ => True) u done); have HBW := Aside0.mk (below_set HB8.out (g := p) (j := 3) (v := (.int .u64 x3)) (Nat.le_trans HB4.out.size HP1.out)); have HPW := Aside0.mk (blk_put HBK8.out (cs' := #[.string s1, .int .u64 x1, .int .u64 x2, .int .u64 x3]) 3 (.int .u64 x3) rfl); refine Kd.R_append kpSd (w0 := w) w.heap.size rfl (.tmp 81) (.tmp 83) 97 194 (.pointer none) 8 rfl Tryz.underlying97 infoPSd rfl (by decide) (by omega) u done (⟨x0, x1, x2, x3⟩ : S196) [.pointer (some ⟨p, 0, none⟩)] (fun _ => True) (fun k => k = p) rfl (by first | (go_simp; done) | (go_simp; rfl)) ⟨p, rfl, (by rw [E1.out]; exact HPW.out), Nat.le_trans HB4.out.size HP1.out, rfl⟩ (fun k hk => ⟨trivial, by rw [hk]; exact fun e => by have h1 := Kd.R_lt HO4.out p e.symm; have := HP1.out; omega⟩) (fun _ _ => trivial) HOW.out HBW.out HBW.out.size (by have := HS.out; have := HT2.out; omega) ?_; intro v11 w11 ho hb hg _; obtain ⟨A11, c11, rfl⟩ := Kd.R_slice ho; have HO11 := Aside0.mk ho; have HB11 := Aside0.mk hb; have HG11 := Aside0.mk (blk_grown HGW.out hg (Kd.R_ne HOW.out HGW.out (by decide))); have HBT11 := Aside0.mk (blk_grown HBTW.out hg (Kd.R_ne HOW.out HBTW.out (by decide))); have hfz11 := blk_frozen HBT11.out 0; have hcg11 : w11.cell? ⟨gs, 0, none⟩ = some u := (blk_cell HBT11.out 0).trans rfl; clear ho hb hg))
     go_roundg k1
     case measure => omega
     case rel =>
      exact ⟨GL.restOf t, GL.lineOf t, ms', done ++ [⟨x0, x1, x2, x3⟩], _, rfl, HMS, ⟨by have := HD.out; rw [HRE.out] at this; rw [← this]; simp⟩, ⟨by have := restOf_size t (by have := HT2.out; omega); have := HS.out; have := HT2.out; simp; omega⟩, ⟨blk_far HG11.out (p := ⟨gs, 0, none⟩) (Ne.symm HNE.out) _⟩, ⟨blk_put HBT11.out 0 _ rfl⟩, ⟨by have h := Kd.R_set HO11.out HBT11.out (by decide) 0 (.slice A11 (done.length + 1) c11); simpa using h⟩, ⟨below_set HB11.out HGS.out⟩⟩
end Go.Proofs.YtednjmngalmdkaaGreatDoor.GPC
end
section
/- impl.tree, impl.Schedstat: the door of this law. Conditions: the printed functions' answers; the tables as laid. -/
namespace Go.Proofs.YtednjmngalmdkaaGreatDoor.GPC
open Go.RowKit Go.Proofs.YtednjmngalmdkaaGreatDoorW.PrintWords Go.Proofs.YtednjmngalmdkaaGreatDoorW.PrintLast
set_option linter.unusedVariables false
set_option linter.unusedSimpArgs false
attribute [local go_sem] run_store_float
def nodeSched (k : Nat) (ms : List S196) : Option S43 := (impl_procfsSchedstat.f k ⟨#[]⟩ ms).map fun r => ⟨r.1, r.2.1, r.2.2.1, r.2.2.2.1, r.2.2.2.2.1, r.2.2.2.2.2.1, r.2.2.2.2.2.2.1, r.2.2.2.2.2.2.2⟩
theorem node_sched (k : Nat) (A : Option Addr) (c : Nat) (ms : List S196) (n : S43) (w : World) (hC : Kd.C kpSd w A ms.length ms) (hc : ms.length ≤ c) (h : nodeSched k ms = some n) : Calls Tryz.prog 86 #[.string ⟨#[]⟩, .agg #[.slice A ms.length c]] w fun e w' => ∃ v7, e = .returned (nodeVal n v7) ∧ KidsV n w w' v7 ∧ Below w.heap.size w w' := by
 unfold nodeSched at h
 obtain ⟨⟨r1, r2, r3, r4, r5, r6, r7, r8⟩, hr, rfl⟩ := Option.map_eq_some_iff.1 h
 refine (impl_procfsSchedstat.calls k ⟨#[]⟩ A c ms r1 r2 r3 r4 r5 r6 r7 r8 w hC hc hr).mono ?_
 rintro e w' ⟨v7, rfl, ho, hb⟩
 exact ⟨v7, rfl, ho, hb⟩
set_option maxHeartbeats 8000000 in
set_option maxRecDepth 100000 in
theorem ptrSched (k g : Nat) (A : Option Addr) (c : Nat) (ms : List S196) (n : S43) (w : World) (hg : w.heap[g]? = some (sdTop (.slice A ms.length c))) (hC : Kd.C kpSd w A ms.length ms) (hc : ms.length ≤ c) (h : nodeSched k ms = some n) :
  Calls Tryz.prog 85 #[.string ⟨#[]⟩, .pointer (some ⟨g, 0, none⟩), .func (.func 86) #[] #[]] w fun e w' => ∃ v7, e = .returned (nodeVal n v7) ∧ KidsV n w w' v7 ∧ Below w.heap.size w w' := by
 have HN := Aside0.mk h
 have HG := Aside0.mk hg
 have HC := Aside0.mk hC
 have HCC := Aside0.mk hc
 clear h hg hC hc
 go_enter Tryz.func85, Tryz.ntmps85
 go_wp2_with (first
   | ((with_reducible refine gate_dst (N := 6) rfl ?_); refine box_event ?hg (N := 6) ?hd (cs := nodeZero) (t := 43) ?hr ?_; (case hd => rfl); (case hg => rfl); (case hr => first | (go_simp; done) | (go_simp; rfl)); intro gb hgb w1 hbox hb1; have HBX := Aside0.mk hbox; have HB1 := Aside0.mk hb1; have HGB := Aside0.mk hgb; have hG1 := blk_below HG.out hb1; have h0 : w1.cell? ⟨g, 0, none⟩ = some (.slice A ms.length c) := (blk_cell hG1 0).trans rfl; have HC1 := Aside0.mk (Kd.C_below HC.out hb1); clear hgb hbox hb1 hG1)
   | (go_at_call 86; refine (node_sched k A c ms n _ HC1.out HCC.out HN.out).mono ?_; rintro e w2 ⟨v7, rfl, ho, hb⟩; have HK := Aside0.mk ho; have HBX2 := Aside0.mk (blk_below HBX.out hb); have HLT := Aside0.mk (show gb < w1.heap.size from blk_lt HBX.out); have HB2 := Aside0.mk (below_then HB1.out HB1.out.size hb); clear ho hb)
   | ((with_reducible refine gate_ (.store 43 (.tmp 6) (.tmp 16)) rfl ?_); refine box_store rfl rfl 43 (.tmp 6) (.tmp 16) rfl gb 43 nodeZero (nodeVal n v7) (nodeCells n v7) rfl rfl rfl node_size (node_one HK.out.slice) HBX2.out rfl ?_; intro W' hbk hgr))
 refine bodyPost_ret (results_cell_row rfl _ _ gb 43 _ (0, 0) _ rfl hbk Tryz.underlying43 rfl node_size) rfl ?_
 refine ⟨v7, rfl, (HK.out.grown hgr HLT.out).lower HB1.out.size, pw_below_grown HB2.out (some gb) HB2.out.size hgr (fun k e => by cases e; rw [HGB.out]; exact Nat.le_refl _)⟩
set_option maxHeartbeats 8000000 in
set_option maxRecDepth 100000 in
theorem litSched (k g : Nat) (A : Option Addr) (c : Nat) (ms : List S196) (n : S43) (w : World) (hg : w.heap[g]? = some (sdTop (.slice A ms.length c))) (hC : Kd.C kpSd w A ms.length ms) (hc : ms.length ≤ c) (h : nodeSched k ms = some n) :
  Calls Tryz.prog 84 #[.pointer (some ⟨g, 0, none⟩)] w fun e w' => ∃ v7, e = .returned (nodeVal n v7) ∧ KidsV n w w' v7 ∧ Below w.heap.size w w' := by
 have HN := Aside0.mk h
 have HG := Aside0.mk hg
 have HC := Aside0.mk hC
 have HCC := Aside0.mk hc
 clear h hg hC hc
 go_enter Tryz.func84, Tryz.ntmps84
 go_wp2_with (first
   | ((with_reducible refine gate_dst (N := 2) rfl ?_); refine box_event ?hg (N := 2) ?hd (cs := nodeZero) (t := 43) ?hr ?_; (case hd => rfl); (case hg => rfl); (case hr => first | (go_simp; done) | (go_simp; rfl)); intro gb hgb w1 hbox hb1; have HBX := Aside0.mk hbox; have HB1 := Aside0.mk hb1; have HGB := Aside0.mk hgb; have HG1 := Aside0.mk (blk_below HG.out hb1); have HC1 := Aside0.mk (Kd.C_below HC.out hb1); clear hgb hbox hb1)
   | (go_at_call 85; refine (ptrSched k g A c ms n _ HG1.out HC1.out HCC.out HN.out).mono ?_; rintro e w2 ⟨v7, rfl, ho, hb⟩; have HK := Aside0.mk ho; have HBX2 := Aside0.mk (blk_below HBX.out hb); have HLT := Aside0.mk (show gb < w1.heap.size from blk_lt HBX.out); have HB2 := Aside0.mk (below_then HB1.out HB1.out.size hb); clear ho hb)
   | ((with_reducible refine gate_ (.store 43 (.tmp 2) (.tmp 4)) rfl ?_); refine box_store rfl rfl 43 (.tmp 2) (.tmp 4) rfl gb 43 nodeZero (nodeVal n v7) (nodeCells n v7) rfl rfl rfl node_size (node_one HK.out.slice) HBX2.out rfl ?_; intro W' hbk hgr))
 refine bodyPost_ret (results_cell_row rfl _ _ gb 43 _ (0, 0) _ rfl hbk Tryz.underlying43 rfl node_size) rfl ?_
 refine ⟨v7, rfl, (HK.out.grown hgr HLT.out).lower HB1.out.size, pw_below_grown HB2.out (some gb) HB2.out.size hgr (fun k e => by cases e; rw [HGB.out]; exact Nat.le_refl _)⟩
theorem idleSched (p q : Addr) (w : World) :
  CallsD Tryz.prog 153 #[.pointer (some p), .pointer (some q)] .returning w fun e u' w' => e = .returned (.tuple #[]) ∧ u' = .returning ∧ w' = w := by
 refine callsD_of_wpS Tryz.func153 rfl fun c₀ cs hu => ?_
 apply wpS_seq
 apply wpS_region
 simp [wpOpsS, go_sem, recoverD, hu, Tryz.ntmps153, Exit.thenS]
 refine wpS_cond (t := false) (by simp [Act.eval, Array.replicate]) ?_
 simp only [Bool.false_eq_true, if_false]
 refine wpS_of_wp (wp_skip ?_)
 cases c₀
 simp_all [bodyPostS, results, Tryz.results153]
set_option maxHeartbeats 8000000 in
set_option maxRecDepth 100000 in
theorem treeSched (K k : Nat) (text : ByteArray) (ms : List S196) (n : S43) (w : World) (hT : TabW w) (h : sdTextF K k text = some ms) (hn : nodeSched k ms = some n) :
  Calls Tryz.prog 82 #[.func (.func 83) #[.agg #[.string text]] #[], .func (.func 84) #[] #[]] w fun e w' => ∃ v7, e = .returned (.tuple #[nodeVal n v7, .int .i64 0]) ∧ KidsV n w w' v7 ∧ Below w.heap.size w w' := by
 have hmf : ∀ (fn : Fn) (first cap : Array Value) (w : World), (Instr.makeFunc fn first cap).run Tryz.prog w = .ok (.func fn first cap) w := fun _ _ _ _ => rfl
 have HT := Aside0.mk hT
 have HL := Aside0.mk h
 have HN := Aside0.mk hn
 clear hT h hn
 go_enter_defers Tryz.func82, Tryz.ntmps82
 go_wp2_with (first
   | ((with_reducible refine gate_dst (N := 4) rfl ?_); refine box_event ?hg (N := 4) ?hd (cs := nodeZero) (t := 43) ?hr ?_; (case hd => rfl); (case hg => rfl); (case hr => first | (go_simp; done) | (go_simp; rfl)); intro gb hgb w1 hbox hb1; have HBX := Aside0.mk hbox; have HB1 := Aside0.mk hb1; have HGB := Aside0.mk hgb; clear hgb hbox hb1)
   | ((with_reducible refine gate_dst (N := 5) rfl ?_); refine box_event ?hg (N := 5) ?hd (cs := #[.int .i64 0]) (t := 3) ?hr ?_; (case hd => rfl); (case hg => rfl); (case hr => first | (go_simp; done) | (go_simp; rfl)); intro gc hgc w2 hboxc hb2; have HBC := Aside0.mk hboxc; have HBX2 := Aside0.mk (blk_below HBX.out hb2); have HB2 := Aside0.mk (below_then HB1.out HB1.out.size hb2); have HGC := Aside0.mk hgc; have HCG := Aside0.mk (show gb < gc by rw [hgc]; exact blk_lt HBX.out); have HWC := Aside0.mk (show w.heap.size ≤ gc by rw [hgc]; exact HB1.out.size); clear hgc hboxc hb2)
   | (go_at_call 83; refine (fsSched K k text ms _ (tabW_below HT.out HB2.out) HL.out).mono ?_; rintro e w3 ⟨g, u, rfl, hg1, hg2, hR, hb3⟩; obtain ⟨Ar, cr, rfl, hlr, hCr⟩ := Kd.R_reads hR; have HG := Aside0.mk hg2; have HCR := Aside0.mk hCr; have HGL := Aside0.mk hlr; have HBX3 := Aside0.mk (blk_below HBX2.out hb3); have HBC3 := Aside0.mk (blk_below HBC.out hb3); have HB3 := Aside0.mk (below_then HB2.out HB2.out.size hb3); clear hg1 hg2 hb3 hR hlr hCr)
   | (go_at_call 84; refine (litSched k g Ar cr ms n _ HG.out HCR.out HGL.out HN.out).mono ?_; rintro e w4 ⟨v7, rfl, ho, hb4⟩; have HK := Aside0.mk ho; have HBX4 := Aside0.mk (blk_below HBX3.out hb4); have HBC4 := Aside0.mk (blk_below HBC3.out hb4); have HB4 := Aside0.mk (below_then HB3.out HB3.out.size hb4); have HLC := Aside0.mk (show gc < w3.heap.size from blk_lt HBC3.out); clear ho hb4)
   | ((with_reducible refine gate_ (.store 43 (.tmp 4) (.tmp 19)) rfl ?_); refine box_store rfl rfl 43 (.tmp 4) (.tmp 19) rfl gb 43 nodeZero (nodeVal n v7) (nodeCells n v7) rfl rfl rfl node_size (node_one HK.out.slice) HBX4.out rfl ?_; intro W5 hbk hgr; have HBK5 := Aside0.mk hbk; have HK5 := Aside0.mk (HK.out.grown hgr (Nat.lt_trans HCG.out HLC.out)); have HBC5 := Aside0.mk (blk_grown HBC4.out hgr (by have := HCG.out; intro e; injection e with e; omega)); have HB5 := Aside0.mk (pw_below_grown HB4.out (some gb) HB4.out.size hgr (fun k e => by cases e; rw [HGB.out]; exact Nat.le_refl _)); have hfc := blk_frozen HBC5.out 0; have hcc : W5.cell? ⟨gc, 0, none⟩ = some (.int .i64 0) := (blk_cell HBC5.out 0).trans rfl; clear hbk hgr))
 have hbk6 := blk_far HBK5.out (p := ⟨gc, 0, none⟩) (by have := HCG.out; show gb ≠ gc; omega) (.int .i64 0)
 have hbc6 := blk_put HBC5.out 0 (.int .i64 0) rfl
 have HB6 := below_set HB5.out HWC.out (j := 0) (v := .int .i64 0)
 have HK6 := (HK5.out.grown (grown_set W5 gc 0 (.int .i64 0)) HLC.out).lower HB3.out.size
 generalize W5.setCell ⟨gc, 0, none⟩ (.int .i64 0) = W6 at hbk6 hbc6 HB6 HK6 ⊢
 have cc : W6.cell? ⟨gc, 0, none⟩ = some (.int .i64 0) := (blk_cell hbc6 0).trans rfl
 have cb0 : W6.cell? ⟨gb, 0, none⟩ = some (.string n.f0) := (blk_cell hbk6 0).trans rfl
 have cb1 : W6.cell? ⟨gb, 1, none⟩ = some (.int .i64 n.f1) := (blk_cell hbk6 1).trans rfl
 have cb2 : W6.cell? ⟨gb, 2, none⟩ = some (.bool n.f2) := (blk_cell hbk6 2).trans rfl
 have cb3 : W6.cell? ⟨gb, 3, none⟩ = some (.int .i64 n.f3) := (blk_cell hbk6 3).trans rfl
 have cb4 : W6.cell? ⟨gb, 4, none⟩ = some (.int .u64 n.f4) := (blk_cell hbk6 4).trans rfl
 have cb5 : W6.cell? ⟨gb, 5, none⟩ = some (.float .f64 n.f5) := (blk_cell hbk6 5).trans rfl
 have cb6 : W6.cell? ⟨gb, 6, none⟩ = some (.string n.f6) := (blk_cell hbk6 6).trans rfl
 have cb7 : W6.cell? ⟨gb, 7, none⟩ = some (v7) := (blk_cell hbk6 7).trans rfl
 refine leaves_cons (f := 153) (args := #[.pointer (some ⟨gb, 0, none⟩), .pointer (some ⟨gc, 0, none⟩)]) (by simp) (by simp [go_sem]) ?_
 refine (idleSched _ _ _).mono ?_
 rintro e u' w'' ⟨rfl, rfl, rfl⟩
 simp [Leaves, settle, results, Tryz.results82, go_sem, cb0, cb1, cb2, cb3, cb4, cb5, cb6, cb7, cc]
 exact ⟨v7, rfl, HK6, HB6⟩
set_option maxHeartbeats 8000000 in
set_option maxRecDepth 100000 in
theorem implSchedstat (K k : Nat) (text : ByteArray) (ms : List S196) (n : S43) (w : World) (hT : TabW w) (h : sdTextF K k text = some ms) (hn : nodeSched k ms = some n) :
  Calls Tryz.prog 26 #[.string text] w fun e w' => ∃ v7, e = .returned (.tuple #[nodeVal n v7, .int .i64 0]) ∧ KidsV n w w' v7 ∧ Below w.heap.size w w' := by
 have hmf : ∀ (fn : Fn) (first cap : Array Value) (w : World), (Instr.makeFunc fn first cap).run Tryz.prog w = .ok (.func fn first cap) w := fun _ _ _ _ => rfl
 have HT := Aside0.mk hT
 have HL := Aside0.mk h
 have HN := Aside0.mk hn
 clear hT h hn
 go_enter Tryz.func26, Tryz.ntmps26
 go_wp2_with (first
   | ((with_reducible refine gate_dst (N := 2) rfl ?_); refine box_event ?hg (N := 2) ?hd (cs := nodeZero) (t := 43) ?hr ?_; (case hd => rfl); (case hg => rfl); (case hr => first | (go_simp; done) | (go_simp; rfl)); intro gb hgb w1 hbox hb1; have HBX := Aside0.mk hbox; have HB1 := Aside0.mk hb1; have HGB := Aside0.mk hgb; clear hgb hbox hb1)
   | (go_at_call 57; refine (procfs_TextFS.calls text text _ rfl).mono ?_; rintro e w2 ⟨rfl, hb2⟩; have HBX2 := Aside0.mk (blk_below HBX.out hb2); have HB2 := Aside0.mk (below_then HB1.out HB1.out.size hb2); clear hb2)
   | (go_at_call 82; refine (treeSched K k text ms n _ (tabW_below HT.out HB2.out) HL.out HN.out).mono ?_; rintro e w3 ⟨v7, rfl, ho, hb3⟩; have HK := Aside0.mk ho; have HBX3 := Aside0.mk (blk_below HBX2.out hb3); have HB3 := Aside0.mk (below_then HB2.out HB2.out.size hb3); have HLT := Aside0.mk (show gb < w2.heap.size from blk_lt HBX2.out); clear ho hb3)
   | ((with_reducible refine gate_ (.store 43 (.tmp 2) (.tmp 8)) rfl ?_); refine box_store rfl rfl 43 (.tmp 2) (.tmp 8) rfl gb 43 nodeZero (nodeVal n v7) (nodeCells n v7) rfl rfl rfl node_size (node_one HK.out.slice) HBX3.out rfl ?_; intro W' hbk hgr))
 refine bodyPost_ret (results_cell_tmp rfl _ _ gb 43 _ (0, 0) _ rfl hbk Tryz.underlying43 rfl node_size) rfl ?_
 refine ⟨v7, rfl, (HK.out.grown hgr HLT.out).lower HB2.out.size, pw_below_grown HB3.out (some gb) HB3.out.size hgr (fun k e => by cases e; rw [HGB.out]; exact Nat.le_refl _)⟩
def doorSchedstat (s : ByteArray) (n : S43) : Prop := ∃ K k ms, sdTextF K k s = some ms ∧ nodeSched k ms = some n
theorem doorSchedstat_calls (text : ByteArray) (n : S43) (w : World) (hT : TabW w) (h : doorSchedstat text n) :
  Calls Tryz.prog 26 #[.string text] w fun e w' => ∃ v7, e = .returned (.tuple #[nodeVal n v7, .int .i64 0]) ∧ KidsV n w w' v7 ∧ Below w.heap.size w w' := by
 obtain ⟨K, k, ms, h1, h2⟩ := h
 exact implSchedstat K k text ms n w hT h1 h2
end Go.Proofs.YtednjmngalmdkaaGreatDoor.GPC
end
section
namespace Go.Proofs.YtednjmngalmdkaaGreatDoor.GPC
open Go.RowKit Go.Proofs.YtednjmngalmdkaaGreatDoorW.PrintWords Go.Proofs.YtednjmngalmdkaaGreatDoorW.PrintLast Go.Proofs.YtednjmngalmdkaaGreatDoorW.PrintMore
attribute [local go_sem] max2_int min2_int max_two min_two max_three min_three max_four min_four   -- for this text's walks alone
set_option linter.unusedVariables false
set_option linter.unusedSimpArgs false

attribute [local go_sem] run_store_float
/-! ### spec_digit: function 194 -/
mutual
def spec_digit.j0 : Nat → Int → Bool → Option (Int)
 | 0, _, _ => none
 | k + 1, x0, x3 => if x3 = true then (some ((x0 - 48) % 256)) else (if x0 ≥ 97 then (spec_digit.j1 k x0 (decide (x0 ≤ 102))) else (spec_digit.j1 k x0 false))
def spec_digit.j1 : Nat → Int → Bool → Option (Int)
 | 0, _, _ => none
 | k + 1, x0, x13 => if x13 = true then (some (((x0 - 97) % 256) + 10)) else (if x0 ≥ 65 then (if x0 ≤ 70 then (some (((x0 - 65) % 256) + 10)) else (some 99)) else (some 99))
end
def spec_digit.f (k : Nat) (a0 : Int) : Option (Int) := if a0 ≥ 48 then (spec_digit.j0 k a0 (decide (a0 ≤ 57))) else (spec_digit.j0 k a0 false)
theorem spec_digit.mono_l : ∀ k, (∀ y0 y1, LeO (spec_digit.j0 k y0 y1) (spec_digit.j0 (k + 1) y0 y1)) ∧ (∀ y0 y1, LeO (spec_digit.j1 k y0 y1) (spec_digit.j1 (k + 1) y0 y1))
 | 0 => ⟨fun _ _ r h => by simp [spec_digit.j0] at h, fun _ _ r h => by simp [spec_digit.j1] at h⟩
 | k + 1 => by
  obtain ⟨ih0, ih1⟩ := spec_digit.mono_l k
  refine ⟨?_, ?_⟩
  ·intro y0 y1
   unfold spec_digit.j0
   repeat' first
   | (with_reducible exact ih0 _ _)
   | (with_reducible exact ih1 _ _)
   | (with_reducible exact LeO.refl _)
   | (with_reducible exact LeO.none _)
   | (with_reducible refine LeO.ite ?_ ?_)
   | (with_reducible refine LeO.bind ?_ (fun _ => ?_))
   | exact ih0 _ _
   | exact ih1 _ _
   | exact LeO.none _
   | refine LeO.ite ?_ ?_
   | refine LeO.bind ?_ (fun _ => ?_)
  ·intro y0 y1
   unfold spec_digit.j1
   repeat' first
   | (with_reducible exact ih0 _ _)
   | (with_reducible exact ih1 _ _)
   | (with_reducible exact LeO.refl _)
   | (with_reducible exact LeO.none _)
   | (with_reducible refine LeO.ite ?_ ?_)
   | (with_reducible refine LeO.bind ?_ (fun _ => ?_))
   | exact ih0 _ _
   | exact ih1 _ _
   | exact LeO.none _
   | refine LeO.ite ?_ ?_
   | refine LeO.bind ?_ (fun _ => ?_)
theorem spec_digit.mono : ∀ a0 k, LeO (spec_digit.f k a0) (spec_digit.f (k + 1) a0) := by
 intro a0 k
 obtain ⟨ih0, ih1⟩ := spec_digit.mono_l k
 unfold spec_digit.f
 repeat' first
   | (with_reducible exact ih0 _ _)
   | (with_reducible exact ih1 _ _)
   | (with_reducible exact LeO.refl _)
   | (with_reducible exact LeO.none _)
   | (with_reducible refine LeO.ite ?_ ?_)
   | (with_reducible refine LeO.bind ?_ (fun _ => ?_))
   | exact ih0 _ _
   | exact ih1 _ _
   | exact LeO.none _
   | refine LeO.ite ?_ ?_
   | refine LeO.bind ?_ (fun _ => ?_)
set_option maxHeartbeats 8000000 in
set_option maxRecDepth 100000 in
theorem spec_digit.calls (k : Nat) (a0 : Int) (r : Int) (w : World) (h : spec_digit.f k a0 = some r) :
  Calls Tryz.prog 194 #[.int .u8 a0] w fun e w' => e = .returned (.int .u64 r) ∧ Drawn0 w w' := by
 have H : (if a0 ≥ 48 then (spec_digit.j0 k a0 (decide (a0 ≤ 57))) else (spec_digit.j0 k a0 false)) = some r := h
 clear h
 have HC2 := Aside0.mk H
 clear H
 go_enter Tryz.func194, Tryz.ntmps194
 go_upto_region 1 with (fail)
 go_cut [3] (fun v3 wc => ∃ (kq : Nat) (x3_1 : Bool), v3 = .bool x3_1 ∧ Aside0 (spec_digit.j0 kq a0 x3_1 = some r) ∧ Aside0 (kq ≤ k) ∧ Drawn0 w wc)
 case first =>
  have H := HC2.out
  clear HC2
  by_cases c3 : a0 ≥ 48
  ·rw [if_pos c3] at H
   have c3b0 : decide (48 ≤ a0) = true := decide_eq_true c3
   clear c3
   (first | rw [c3b0] | (simp only [i64_w, i32_w]; rw [c3b0]) | skip)
   have H' := Aside0.mk H
   clear H
   go_wp2
   go_meet
   case rel => exact ⟨_, (decide (a0 ≤ 57)), (by first | rfl | (simp; done) | (simp [*]; done)), H', ⟨by first | omega | exact Nat.le_refl _⟩, by repeat (first | exact Drawn0.refl _ | apply Drawn0.step)⟩
  ·rw [if_neg c3] at H
   have c3b0 : decide (48 ≤ a0) = false := decide_eq_false c3
   clear c3
   (first | rw [c3b0] | (simp only [i64_w, i32_w]; rw [c3b0]) | skip)
   have H' := Aside0.mk H
   clear H
   go_wp2
   go_meet
   case rel => exact ⟨_, (false), (by first | rfl | (simp; done) | (simp [*]; done)), H', ⟨by first | omega | exact Nat.le_refl _⟩, by repeat (first | exact Drawn0.refl _ | apply Drawn0.step)⟩
 case rest =>
  clear HC2
  try clear c1
  try clear p2
  try clear c3
  try clear c3b0
  obtain ⟨kq, x3_1, rfl, HA, HJ1, ⟨mc1, rfl⟩⟩ := hcut
  cases kq with
  | zero => exact absurd HA.out (by simp [spec_digit.j0])
  | succ kj1 =>
   have H := HA.out
   clear HA
   simp only [spec_digit.j0] at H
   by_cases c4 : x3_1 = true
   ·subst c4
    have H1 : (some ((a0 - 48) % 256)) = some r := by rw [if_pos rfl] at H; exact H
    clear H
    have H := H1
    clear H1
    obtain rfl := Option.some.inj H
    go_wp2
    go_ret
    exact ⟨by first | rfl | (simp; done) | (simp [*]; done), by repeat (first | exact Drawn0.refl _ | apply Drawn0.step)⟩
   ·replace c4 := Bool.eq_false_iff.mpr c4
    subst c4
    have H1 : (if a0 ≥ 97 then (spec_digit.j1 kj1 a0 (decide (a0 ≤ 102))) else (spec_digit.j1 kj1 a0 false)) = some r := by rw [if_neg (show ¬ (false = true) by decide)] at H; exact H
    clear H
    have H := H1
    clear H1
    have HC5 := Aside0.mk H
    clear H
    go_upto_region 3 with (fail)
    go_cut [13] (fun v13 wc => ∃ (kq : Nat) (x13_4 : Bool), v13 = .bool x13_4 ∧ Aside0 (spec_digit.j1 kq a0 x13_4 = some r) ∧ Aside0 (kq ≤ kj1) ∧ Drawn0 w wc)
    case first =>
     have H := HC5.out
     clear HC5
     by_cases c6 : a0 ≥ 97
     ·rw [if_pos c6] at H
      have c6b0 : decide (97 ≤ a0) = true := decide_eq_true c6
      clear c6
      (first | rw [c6b0] | (simp only [i64_w, i32_w]; rw [c6b0]) | skip)
      have H' := Aside0.mk H
      clear H
      go_wp2
      go_meet
      case rel => exact ⟨_, (decide (a0 ≤ 102)), (by first | rfl | (simp; done) | (simp [*]; done)), H', ⟨by have := HJ1.out; first | omega | exact Nat.le_refl _⟩, by repeat (first | exact Drawn0.refl _ | apply Drawn0.step)⟩
     ·rw [if_neg c6] at H
      have c6b0 : decide (97 ≤ a0) = false := decide_eq_false c6
      clear c6
      (first | rw [c6b0] | (simp only [i64_w, i32_w]; rw [c6b0]) | skip)
      have H' := Aside0.mk H
      clear H
      go_wp2
      go_meet
      case rel => exact ⟨_, (false), (by first | rfl | (simp; done) | (simp [*]; done)), H', ⟨by have := HJ1.out; first | omega | exact Nat.le_refl _⟩, by repeat (first | exact Drawn0.refl _ | apply Drawn0.step)⟩
    case rest =>
     clear HC5
     try clear c1
     try clear p2
     try clear c3
     try clear c3b0
     try clear c4
     try clear c6
     try clear c6b0
     try clear p2
     obtain ⟨kq, x13_4, rfl, HA, HJ4, ⟨mc4, rfl⟩⟩ := hcut
     cases kq with
     | zero => exact absurd HA.out (by simp [spec_digit.j1])
     | succ kj4 =>
      have H := HA.out
      clear HA
      simp only [spec_digit.j1] at H
      by_cases c7 : x13_4 = true
      ·subst c7
       have H1 : (some (((a0 - 97) % 256) + 10)) = some r := by rw [if_pos rfl] at H; exact H
       clear H
       have H := H1
       clear H1
       obtain rfl := Option.some.inj H
       go_wp2
       go_ret
       exact ⟨by first | rfl | (simp; done) | (simp [*]; done), by repeat (first | exact Drawn0.refl _ | apply Drawn0.step)⟩
      ·replace c7 := Bool.eq_false_iff.mpr c7
       subst c7
       have H1 : (if a0 ≥ 65 then (if a0 ≤ 70 then (some (((a0 - 65) % 256) + 10)) else (some 99)) else (some 99)) = some r := by rw [if_neg (show ¬ (false = true) by decide)] at H; exact H
       clear H
       have H := H1
       clear H1
       by_cases c8 : a0 ≥ 65
       ·rw [if_pos c8] at H
        have c8b0 : decide (65 ≤ a0) = true := decide_eq_true c8
        clear c8
        by_cases c9 : a0 ≤ 70
        ·rw [if_pos c9] at H
         have c9b0 : decide (a0 ≤ 70) = true := decide_eq_true c9
         clear c9
         obtain rfl := Option.some.inj H
         go_wp2
         go_ret
         exact ⟨by first | rfl | (simp; done) | (simp [*]; done), by repeat (first | exact Drawn0.refl _ | apply Drawn0.step)⟩
        ·rw [if_neg c9] at H
         have c9b0 : decide (a0 ≤ 70) = false := decide_eq_false c9
         clear c9
         obtain rfl := Option.some.inj H
         go_wp2
         go_ret
         exact ⟨by first | rfl | (simp; done) | (simp [*]; done), by repeat (first | exact Drawn0.refl _ | apply Drawn0.step)⟩
       ·rw [if_neg c8] at H
        have c8b0 : decide (65 ≤ a0) = false := decide_eq_false c8
        clear c8
        obtain rfl := Option.some.inj H
        go_wp2
        go_ret
        exact ⟨by first | rfl | (simp; done) | (simp [*]; done), by repeat (first | exact Drawn0.refl _ | apply Drawn0.step)⟩
/-! ### spec_Number: function 152 -/
def spec_Number.l0 : Nat → ByteArray → Int → Int → Int → Int → Option (Int × Bool)
 | 0, _, _, _, _, _ => none
 | k + 1, x0, x1, x6, x10, x11 => if x11 < x10 then (if 0 ≤ x11 then (if x11 < (x0.size : Int) then ((spec_digit.f k (bt x0 x11)).bind fun t863 => (if t863 ≥ x1 then (some (0, false)) else (if x1 = 0 then (none) else (if x6 > (IntKind.u64.wrap (Int.tdiv (IntKind.u64.wrap (18446744073709551615 - t863)) x1)) then (some (0, false)) else (spec_Number.l0 k x0 x1 (IntKind.u64.wrap ((IntKind.u64.wrap (x6 * x1)) + t863)) x10 (wrap64 (x11 + 1))))))) else (none)) else (none)) else (some (x6, (x0.toList != ([] : List UInt8))))
def spec_Number.f (k : Nat) (a0 : ByteArray) (a1 : Int) : Option (Int × Bool) := spec_Number.l0 k a0 a1 0 (a0.size : Int) 0
theorem spec_Number.mono_l : ∀ k, (∀ y0 y1 y2 y3 y4, LeO (spec_Number.l0 k y0 y1 y2 y3 y4) (spec_Number.l0 (k + 1) y0 y1 y2 y3 y4))
 | 0 => fun _ _ _ _ _ r h => by simp [spec_Number.l0] at h
 | k + 1 => by
  have ih0 := spec_Number.mono_l k
  ·intro y0 y1 y2 y3 y4
   unfold spec_Number.l0
   repeat' first
   | (with_reducible exact ih0 _ _ _ _ _)
   | (with_reducible exact spec_digit.mono _ _)
   | (with_reducible exact LeO.refl _)
   | (with_reducible exact LeO.none _)
   | (with_reducible refine LeO.ite ?_ ?_)
   | (with_reducible refine LeO.bind ?_ (fun _ => ?_))
   | exact ih0 _ _ _ _ _
   | exact spec_digit.mono _ _
   | exact LeO.none _
   | refine LeO.ite ?_ ?_
   | refine LeO.bind ?_ (fun _ => ?_)
theorem spec_Number.mono : ∀ a0 a1 k, LeO (spec_Number.f k a0 a1) (spec_Number.f (k + 1) a0 a1) := by
 intro a0 a1 k
 have ih0 := spec_Number.mono_l k
 unfold spec_Number.f
 repeat' first
   | (with_reducible exact ih0 _ _ _ _ _)
   | (with_reducible exact spec_digit.mono _ _)
   | (with_reducible exact LeO.refl _)
   | (with_reducible exact LeO.none _)
   | (with_reducible refine LeO.ite ?_ ?_)
   | (with_reducible refine LeO.bind ?_ (fun _ => ?_))
   | exact ih0 _ _ _ _ _
   | exact spec_digit.mono _ _
   | exact LeO.none _
   | refine LeO.ite ?_ ?_
   | refine LeO.bind ?_ (fun _ => ?_)
set_option maxHeartbeats 8000000 in
set_option maxRecDepth 100000 in
theorem spec_Number.calls (k : Nat) (a0 : ByteArray) (a1 : Int) (r1 : Int) (r2 : Bool) (w : World) (h : spec_Number.f k a0 a1 = some (r1, r2)) :
  Calls Tryz.prog 152 #[.string a0, .int .u64 a1] w fun e w' => e = .returned (.tuple #[.int .u64 r1, .bool r2]) ∧ Drawn0 w w' := by
 have H : (spec_Number.l0 k a0 a1 0 (a0.size : Int) 0) = some (r1, r2) := h
 clear h
 have H' := Aside0.mk H
 clear H
 go_enter Tryz.func152, Tryz.ntmps152
 go_wp2
 go_loopg [6, 11] k (fun kq v6 v11 w' => ∃ (x6_1 : Int) (x11_1 : Int), v6 = .int .u64 x6_1 ∧ v11 = .int .i64 x11_1 ∧ Aside0 (spec_Number.l0 kq a0 a1 x6_1 (a0.size : Int) x11_1 = some (r1, r2)) ∧ Aside0 (kq ≤ k) ∧ Drawn0 w w')
 case atStart => exact ⟨(0), (0), (by first | rfl | (simp; done) | (simp [*]; done)), (by first | rfl | (simp; done) | (simp [*]; done)), H', ⟨Nat.le_refl _⟩, by repeat (first | exact Drawn0.refl _ | apply Drawn0.step)⟩
 case round =>
  clear H'
  try clear c1
  try clear p2
  obtain ⟨x6_1, x11_1, rfl, rfl, HA, HK1, ⟨m1, rfl⟩⟩ := hrel
  cases gk with
  | zero => exact absurd HA.out (by simp [spec_Number.l0])
  | succ k1 =>
   have H := HA.out
   clear HA
   simp only [spec_Number.l0] at H
   by_cases c3 : x11_1 < (a0.size : Int)
   ·rw [if_pos c3] at H
    have c3b0 : decide (x11_1 < (a0.size : Int)) = true := decide_eq_true c3
    clear c3
    replace H := guard_inv H
    obtain ⟨c4, H⟩ := H
    have c4b0 : decide (0 ≤ x11_1) = true := decide_eq_true c4
    clear c4
    replace H := guard_inv H
    obtain ⟨c5, H⟩ := H
    have c5b0 : decide (x11_1 < (a0.size : Int)) = true := decide_eq_true c5
    clear c5
    replace H := Option.bind_eq_some_iff.mp H
    obtain ⟨t863, A70, H⟩ := H
    try dsimp -simprocs only at H
    have A7 := Aside0.mk A70
    clear A70
    by_cases c8 : t863 ≥ a1
    ·rw [if_pos c8] at H
     have c8b0 : decide (a1 ≤ t863) = true := decide_eq_true c8
     clear c8
     simp only [Option.some.injEq, Prod.mk.injEq] at H
     obtain ⟨rfl, rfl⟩ := H
     have p6 : 0 ≤ (x11_1 : Int) := of_decide_eq_true (by first | (with_reducible assumption) | assumption)
     have q6 : x11_1 < (a0.size : Int) := of_decide_eq_true (by first | (with_reducible assumption) | assumption)
     have hx6 := bt_at a0 x11_1
     replace p6 := eq_true p6
     replace q6 := eq_true q6
     go_wp2_with (first | ((with_reducible refine gate_callee (f := 194) rfl ?_); refine goesL_ (some 17) rfl rfl Tryz.func194 (by kernel_rfl) rfl #[.int .u8 (bt a0 x11_1)] rfl (by (try simp only [List.map_toArray, List.map_cons, List.map_nil]); first | done | rfl | (simp only [List.length_drop, List.length_take]; rfl)) ?_; (with_reducible refine (spec_digit.calls k1 (bt a0 x11_1) t863 _ A7.out).mono ?_); rintro e w' ⟨rfl, ⟨nd, rfl⟩⟩; refine ⟨_, rfl, ?_⟩))
     go_ret2
     exact ⟨by first | rfl | (simp; done) | (simp [*]; done) | (simp; cases a0.toList <;> rfl), by repeat (first | exact Drawn0.refl _ | apply Drawn0.step)⟩
    ·rw [if_neg c8] at H
     have c8b0 : decide (a1 ≤ t863) = false := decide_eq_false c8
     clear c8
     by_cases c9 : a1 = 0
     ·rw [if_pos c9] at H
      exact absurd H (by simp)
     ·rw [if_neg c9] at H
      have c9b0 : (a1 == 0) = false := beq_eq_false_iff_ne.mpr c9
      have c9b1 : (a1 != 0) = true := bne_iff_ne.mpr c9
      by_cases c10 : x6_1 > (IntKind.u64.wrap (Int.tdiv (IntKind.u64.wrap (18446744073709551615 - t863)) a1))
      ·rw [if_pos c10] at H
       have c10b0 : decide ((IntKind.u64.wrap (Int.tdiv (IntKind.u64.wrap (18446744073709551615 - t863)) a1)) < x6_1) = true := decide_eq_true c10
       clear c10
       simp only [Option.some.injEq, Prod.mk.injEq] at H
       obtain ⟨rfl, rfl⟩ := H
       have p6 : 0 ≤ (x11_1 : Int) := of_decide_eq_true (by first | (with_reducible assumption) | assumption)
       have q6 : x11_1 < (a0.size : Int) := of_decide_eq_true (by first | (with_reducible assumption) | assumption)
       have hx6 := bt_at a0 x11_1
       replace p6 := eq_true p6
       replace q6 := eq_true q6
       go_wp2_with (first | ((with_reducible refine gate_callee (f := 194) rfl ?_); refine goesL_ (some 17) rfl rfl Tryz.func194 (by kernel_rfl) rfl #[.int .u8 (bt a0 x11_1)] rfl (by (try simp only [List.map_toArray, List.map_cons, List.map_nil]); first | done | rfl | (simp only [List.length_drop, List.length_take]; rfl)) ?_; (with_reducible refine (spec_digit.calls k1 (bt a0 x11_1) t863 _ A7.out).mono ?_); rintro e w' ⟨rfl, ⟨nd, rfl⟩⟩; refine ⟨_, rfl, ?_⟩))
       go_ret2
       exact ⟨by first | rfl | (simp; done) | (simp [*]; done) | (simp; cases a0.toList <;> rfl), by repeat (first | exact Drawn0.refl _ | apply Drawn0.step)⟩
      ·rw [if_neg c10] at H
       have c10b0 : decide ((IntKind.u64.wrap (Int.tdiv (IntKind.u64.wrap (18446744073709551615 - t863)) a1)) < x6_1) = false := decide_eq_false c10
       clear c10
       have H' := Aside0.mk H
       clear H
       have p6 : 0 ≤ (x11_1 : Int) := of_decide_eq_true (by first | (with_reducible assumption) | assumption)
       have q6 : x11_1 < (a0.size : Int) := of_decide_eq_true (by first | (with_reducible assumption) | assumption)
       have hx6 := bt_at a0 x11_1
       replace p6 := eq_true p6
       replace q6 := eq_true q6
       go_wp2_with (first | ((with_reducible refine gate_callee (f := 194) rfl ?_); refine goesL_ (some 17) rfl rfl Tryz.func194 (by kernel_rfl) rfl #[.int .u8 (bt a0 x11_1)] rfl (by (try simp only [List.map_toArray, List.map_cons, List.map_nil]); first | done | rfl | (simp only [List.length_drop, List.length_take]; rfl)) ?_; (with_reducible refine (spec_digit.calls k1 (bt a0 x11_1) t863 _ A7.out).mono ?_); rintro e w' ⟨rfl, ⟨nd, rfl⟩⟩; refine ⟨_, rfl, ?_⟩))
       go_roundg k1
       case measure => have := HK1.out; omega
       case rel => exact ⟨(IntKind.u64.wrap ((IntKind.u64.wrap (x6_1 * a1)) + t863)), (wrap64 (x11_1 + 1)), (by first | rfl | (simp; done) | (simp [*]; done)), (by first | rfl | (simp; done) | (simp [*]; done)), H', ⟨by have := HK1.out; omega⟩, by repeat (first | exact Drawn0.refl _ | apply Drawn0.step)⟩
   ·rw [if_neg c3] at H
    have c3b0 : decide (x11_1 < (a0.size : Int)) = false := decide_eq_false c3
    clear c3
    simp only [Option.some.injEq, Prod.mk.injEq] at H
    obtain ⟨rfl, rfl⟩ := H
    go_wp2
    go_ret2
    exact ⟨by first | rfl | (simp; done) | (simp [*]; done) | (simp; cases a0.toList <;> rfl), by repeat (first | exact Drawn0.refl _ | apply Drawn0.step)⟩
/-! ### spec_Dec: function 81 -/
def spec_Dec.f (k : Nat) (a0 : ByteArray) : Option (Int × Bool) := (spec_Number.f k a0 10).bind fun bt864 => (some (bt864.1, bt864.2))
theorem spec_Dec.mono : ∀ a0 k, LeO (spec_Dec.f k a0) (spec_Dec.f (k + 1) a0) := by
 intro a0 k
 unfold spec_Dec.f
 repeat' first
   | (with_reducible exact spec_Number.mono _ _ _)
   | (with_reducible exact LeO.refl _)
   | (with_reducible exact LeO.none _)
   | (with_reducible refine LeO.ite ?_ ?_)
   | (with_reducible refine LeO.bind ?_ (fun _ => ?_))
   | exact spec_Number.mono _ _ _
   | exact LeO.none _
   | refine LeO.ite ?_ ?_
   | refine LeO.bind ?_ (fun _ => ?_)
set_option maxHeartbeats 8000000 in
set_option maxRecDepth 100000 in
theorem spec_Dec.calls (k : Nat) (a0 : ByteArray) (r1 : Int) (r2 : Bool) (w : World) (h : spec_Dec.f k a0 = some (r1, r2)) :
  Calls Tryz.prog 81 #[.string a0] w fun e w' => e = .returned (.tuple #[.int .u64 r1, .bool r2]) ∧ Drawn0 w w' := by
 have H : ((spec_Number.f k a0 10).bind fun bt864 => (some (bt864.1, bt864.2))) = some (r1, r2) := h
 clear h
 replace H := Option.bind_eq_some_iff.mp H
 obtain ⟨⟨t864, t865⟩, A20, H⟩ := H
 replace H : (some (t864, t865)) = some (r1, r2) := H
 have A2 := Aside0.mk A20
 clear A20
 simp only [Option.some.injEq, Prod.mk.injEq] at H
 obtain ⟨rfl, rfl⟩ := H
 go_enter Tryz.func81, Tryz.ntmps81
 go_wp2_with (first | ((with_reducible refine gate_callee (f := 152) rfl ?_); refine goesL_ (some 5) rfl rfl Tryz.func152 (by kernel_rfl) rfl #[.string a0, .int .u64 10] rfl (by (try simp only [List.map_toArray, List.map_cons, List.map_nil]); first | done | rfl | (simp only [List.length_drop, List.length_take]; rfl)) ?_; (with_reducible refine (spec_Number.calls k a0 10 t864 t865 _ A2.out).mono ?_); rintro e w' ⟨rfl, ⟨nd, rfl⟩⟩; refine ⟨_, rfl, ?_⟩))
 go_ret2
 exact ⟨by first | rfl | (simp; done) | (simp [*]; done), by repeat (first | exact Drawn0.refl _ | apply Drawn0.step)⟩
end Go.Proofs.YtednjmngalmdkaaGreatDoor.GPC
end
section
namespace Go.Proofs.YtednjmngalmdkaaGreatDoor.GPC
open Go.RowKit Go.Proofs.YtednjmngalmdkaaGreatDoorW.PrintWords Go.Proofs.YtednjmngalmdkaaGreatDoorW.PrintLast Go.Proofs.YtednjmngalmdkaaGreatDoorW.PrintMore
attribute [local go_sem] max2_int min2_int max_two min_two max_three min_three max_four min_four   -- for this text's walks alone
set_option linter.unusedVariables false
set_option linter.unusedSimpArgs false

attribute [local go_sem] run_store_float
/-! ### spec_SchedstatPrint: function 24 -/
def spec_SchedstatPrint.l0 : Nat → ByteArray → List (S31) → Int → Int → Option (ByteArray × Int)
 | 0, _, _, _, _ => none
 | k + 1, x4, x9, x10, x11 => if x11 < x10 then (if 0 ≤ x11 then (if x11 < (x9.length : Int) then ((spec_Dec.f k ((rd_T31 x9 x11).f0)).bind fun bt868 => (if bt868.2 = true then ((spec_Text.f k bt868.1).bind fun t870 => (if t870.toList = ((rd_T31 x9 x11).f0).toList then ((spec_sized.f ((rd_T31 x9 x11).f0) ((rd_T31 x9 x11).f1) ((rd_T31 x9 x11).f2) 9 0).bind fun t871 => (if t871 = true then (if 3 + ((rd_T31 x9 x11).f0).size ≤ 9223372036854775807 then (if ((⟨#[99, 112, 117]⟩ : ByteArray) ++ ((rd_T31 x9 x11).f0)).size + 1 ≤ 9223372036854775807 then ((spec_numbers.f k ((rd_T31 x9 x11).f1) (⟨#[32]⟩ : ByteArray)).bind fun t872 => (if (((⟨#[99, 112, 117]⟩ : ByteArray) ++ ((rd_T31 x9 x11).f0)) ++ (⟨#[32]⟩ : ByteArray)).size + t872.size ≤ 9223372036854775807 then (if ((((⟨#[99, 112, 117]⟩ : ByteArray) ++ ((rd_T31 x9 x11).f0)) ++ (⟨#[32]⟩ : ByteArray)) ++ t872).size + 1 ≤ 9223372036854775807 then (if x4.size + (((((⟨#[99, 112, 117]⟩ : ByteArray) ++ ((rd_T31 x9 x11).f0)) ++ (⟨#[32]⟩ : ByteArray)) ++ t872) ++ (⟨#[10]⟩ : ByteArray)).size ≤ 9223372036854775807 then (spec_SchedstatPrint.l0 k (x4 ++ (((((⟨#[99, 112, 117]⟩ : ByteArray) ++ ((rd_T31 x9 x11).f0)) ++ (⟨#[32]⟩ : ByteArray)) ++ t872) ++ (⟨#[10]⟩ : ByteArray))) x9 x10 (wrap64 (x11 + 1))) else (none)) else (none)) else (none))) else (none)) else (none)) else (some ((⟨#[]⟩ : ByteArray), 2)))) else (some ((⟨#[]⟩ : ByteArray), 2)))) else (some ((⟨#[]⟩ : ByteArray), 2)))) else (none)) else (none)) else (some (x4, 1))
def spec_SchedstatPrint.f (k : Nat) (l0 : List (S31)) : Option (ByteArray × Int) := spec_SchedstatPrint.l0 k (⟨#[118, 101, 114, 115, 105, 111, 110, 32, 49, 53, 10, 116, 105, 109, 101, 115, 116, 97, 109, 112, 32, 52, 50, 57, 52, 56, 57, 50, 50, 57, 54, 10]⟩ : ByteArray) l0 (l0.length : Int) 0
theorem spec_SchedstatPrint.mono_l : ∀ k, (∀ y0 y1 y2 y3, LeO (spec_SchedstatPrint.l0 k y0 y1 y2 y3) (spec_SchedstatPrint.l0 (k + 1) y0 y1 y2 y3))
 | 0 => fun _ _ _ _ r h => by simp [spec_SchedstatPrint.l0] at h
 | k + 1 => by
  have ih0 := spec_SchedstatPrint.mono_l k
  ·intro y0 y1 y2 y3
   unfold spec_SchedstatPrint.l0
   repeat' first
   | (with_reducible exact ih0 _ _ _ _)
   | (with_reducible exact spec_Dec.mono _ _)
   | (with_reducible exact spec_Text.mono _ _)
   | (with_reducible exact spec_numbers.mono _ _ _)
   | (with_reducible exact LeO.refl _)
   | (with_reducible exact LeO.none _)
   | (with_reducible refine LeO.ite ?_ ?_)
   | (with_reducible refine LeO.bind ?_ (fun _ => ?_))
   | exact ih0 _ _ _ _
   | exact spec_Dec.mono _ _
   | exact spec_Text.mono _ _
   | exact spec_numbers.mono _ _ _
   | exact LeO.none _
   | refine LeO.ite ?_ ?_
   | refine LeO.bind ?_ (fun _ => ?_)
theorem spec_SchedstatPrint.mono : ∀ a0 k, LeO (spec_SchedstatPrint.f k a0) (spec_SchedstatPrint.f (k + 1) a0) := by
 intro a0 k
 have ih0 := spec_SchedstatPrint.mono_l k
 unfold spec_SchedstatPrint.f
 repeat' first
   | (with_reducible exact ih0 _ _ _ _)
   | (with_reducible exact spec_Dec.mono _ _)
   | (with_reducible exact spec_Text.mono _ _)
   | (with_reducible exact spec_numbers.mono _ _ _)
   | (with_reducible exact LeO.refl _)
   | (with_reducible exact LeO.none _)
   | (with_reducible refine LeO.ite ?_ ?_)
   | (with_reducible refine LeO.bind ?_ (fun _ => ?_))
   | exact ih0 _ _ _ _
   | exact spec_Dec.mono _ _
   | exact spec_Text.mono _ _
   | exact spec_numbers.mono _ _ _
   | exact LeO.none _
   | refine LeO.ite ?_ ?_
   | refine LeO.bind ?_ (fun _ => ?_)
def spec_SchedstatPrint.T6 : Bool × List (List Nat × List Nat) := (true, [([], []), ([0], [0]), ([1], [1]), ([2], [2]), ([3, 2, 2], [2, 3]), ([2], [2]), ([5, 2], [2, 5]), ([4, 6, 2], [2, 4, 6]), ([2, 7], [2, 7]), ([8, 4], [8]), ([9], [9]), ([10, 9, 9], [9, 10]), ([11, 9], [9, 11]), ([9, 12], [9, 12])])
def spec_SchedstatPrint.B6 : List Nat := [0, 1, 3, 7, 15, 7, 39, 127, 255, 511, 1023, 2047, 4095, 8191]
theorem spec_SchedstatPrint.tab6 : rtab .any (opsOf Tryz.f24 6) = spec_SchedstatPrint.T6 := by kernel_rfl
theorem spec_SchedstatPrint.bits6 : waitsOk spec_SchedstatPrint.T6.2 spec_SchedstatPrint.B6 = true := by kernel_rfl
def spec_SchedstatPrint.T8 : Bool × List (List Nat × List Nat) := (true, [([], []), ([], []), ([1], [1]), ([2], [2]), ([3], [3]), ([], []), ([5], [5]), ([6], [6]), ([4, 7], [4, 7]), ([8], [8]), ([0, 9], [0, 9]), ([10, 7, 0, 1, 2, 3, 4, 5, 6, 7, 8, 9, 10], [0, 10])])
def spec_SchedstatPrint.B8 : List Nat := [0, 0, 2, 6, 14, 0, 32, 96, 254, 510, 1023, 2047]
theorem spec_SchedstatPrint.tab8 : rtab .any (opsOf Tryz.f24 8) = spec_SchedstatPrint.T8 := by kernel_rfl
theorem spec_SchedstatPrint.bits8 : waitsOk spec_SchedstatPrint.T8.2 spec_SchedstatPrint.B8 = true := by kernel_rfl
set_option maxHeartbeats 8000000 in
set_option maxRecDepth 100000 in
theorem spec_SchedstatPrint.calls (k : Nat) (A0 : Option Addr) (c0 : Nat) (l0 : List (S31)) (r1 : ByteArray) (r2 : Int) (w : World) (hr0 : Kd.C k31 w A0 l0.length l0) (hc0 : l0.length ≤ c0) (h : spec_SchedstatPrint.f k l0 = some (r1, r2)) :
  Calls Tryz.prog 24 #[.slice A0 l0.length c0] w fun e w' => e = .returned (.tuple #[.string r1, .int .i64 r2]) ∧ Below w.heap.size w w' := by
 have hu31 := Tryz.underlying31
 have HR0 := Aside0.mk hr0
 have HC0 := Aside0.mk hc0
 clear hr0 hc0
 have HB := Aside0.mk (Below.refl w.heap.size w)
 have H : (spec_SchedstatPrint.l0 k (⟨#[118, 101, 114, 115, 105, 111, 110, 32, 49, 53, 10, 116, 105, 109, 101, 115, 116, 97, 109, 112, 32, 52, 50, 57, 52, 56, 57, 50, 50, 57, 54, 10]⟩ : ByteArray) l0 (l0.length : Int) 0) = some (r1, r2) := h
 clear h
 have H' := Aside0.mk H
 clear H
 go_enter Tryz.func24, Tryz.ntmps24
 go_wp2
 go_loopg [4, 11] k (fun kq v4 v11 w' => ∃ (x4_1 : ByteArray) (x11_1 : Int), v4 = .string x4_1 ∧ v11 = .int .i64 x11_1 ∧ Aside0 (spec_SchedstatPrint.l0 kq x4_1 l0 (l0.length : Int) x11_1 = some (r1, r2)) ∧ Aside0 (kq ≤ k) ∧ Aside0 (Below w.heap.size w w'))
 case atStart => exact ⟨((⟨#[118, 101, 114, 115, 105, 111, 110, 32, 49, 53, 10, 116, 105, 109, 101, 115, 116, 97, 109, 112, 32, 52, 50, 57, 52, 56, 57, 50, 50, 57, 54, 10]⟩ : ByteArray)), (0), (by first | rfl | (simp; done) | (simp [*]; done)), (by first | rfl | (simp; done) | (simp [*]; done)), H', ⟨Nat.le_refl _⟩, ⟨by repeat (first | (with_reducible first | exact HB.out | apply below_alloc | apply pw_below_drewN | apply below_drew1) | exact HB.out)⟩⟩
 case round =>
  clear H'
  obtain ⟨x4_1, x11_1, rfl, rfl, HA, HK1, HB⟩ := hrel
  cases gk with
  | zero => exact absurd HA.out (by simp [spec_SchedstatPrint.l0])
  | succ k1 =>
   have H := HA.out
   clear HA
   simp only [spec_SchedstatPrint.l0] at H
   by_cases c2 : x11_1 < (l0.length : Int)
   ·rw [if_pos c2] at H
    have c2b0 : decide (x11_1 < (l0.length : Int)) = true := decide_eq_true c2
    clear c2
    replace H := guard_inv H
    obtain ⟨c3, H⟩ := H
    have c3b0 : decide (0 ≤ x11_1) = true := decide_eq_true c3
    clear c3
    replace H := guard_inv H
    obtain ⟨c4, H⟩ := H
    have c4b0 : decide (x11_1 < (l0.length : Int)) = true := decide_eq_true c4
    clear c4
    replace H := Option.bind_eq_some_iff.mp H
    obtain ⟨⟨t868, t869⟩, A50, H⟩ := H
    replace H : (if t869 = true then ((spec_Text.f k1 t868).bind fun t870 => (if t870.toList = ((rd_T31 l0 x11_1).f0).toList then ((spec_sized.f ((rd_T31 l0 x11_1).f0) ((rd_T31 l0 x11_1).f1) ((rd_T31 l0 x11_1).f2) 9 0).bind fun t871 => (if t871 = true then (if 3 + ((rd_T31 l0 x11_1).f0).size ≤ 9223372036854775807 then (if ((⟨#[99, 112, 117]⟩ : ByteArray) ++ ((rd_T31 l0 x11_1).f0)).size + 1 ≤ 9223372036854775807 then ((spec_numbers.f k1 ((rd_T31 l0 x11_1).f1) (⟨#[32]⟩ : ByteArray)).bind fun t872 => (if (((⟨#[99, 112, 117]⟩ : ByteArray) ++ ((rd_T31 l0 x11_1).f0)) ++ (⟨#[32]⟩ : ByteArray)).size + t872.size ≤ 9223372036854775807 then (if ((((⟨#[99, 112, 117]⟩ : ByteArray) ++ ((rd_T31 l0 x11_1).f0)) ++ (⟨#[32]⟩ : ByteArray)) ++ t872).size + 1 ≤ 9223372036854775807 then (if x4_1.size + (((((⟨#[99, 112, 117]⟩ : ByteArray) ++ ((rd_T31 l0 x11_1).f0)) ++ (⟨#[32]⟩ : ByteArray)) ++ t872) ++ (⟨#[10]⟩ : ByteArray)).size ≤ 9223372036854775807 then (spec_SchedstatPrint.l0 k1 (x4_1 ++ (((((⟨#[99, 112, 117]⟩ : ByteArray) ++ ((rd_T31 l0 x11_1).f0)) ++ (⟨#[32]⟩ : ByteArray)) ++ t872) ++ (⟨#[10]⟩ : ByteArray))) l0 (l0.length : Int) (wrap64 (x11_1 + 1))) else (none)) else (none)) else (none))) else (none)) else (none)) else (some ((⟨#[]⟩ : ByteArray), 2)))) else (some ((⟨#[]⟩ : ByteArray), 2)))) else (some ((⟨#[]⟩ : ByteArray), 2))) = some (r1, r2) := H
    have A5 := Aside0.mk A50
    clear A50
    by_cases c6 : t869 = true
    ·subst c6
     have H1 : ((spec_Text.f k1 t868).bind fun t870 => (if t870.toList = ((rd_T31 l0 x11_1).f0).toList then ((spec_sized.f ((rd_T31 l0 x11_1).f0) ((rd_T31 l0 x11_1).f1) ((rd_T31 l0 x11_1).f2) 9 0).bind fun t871 => (if t871 = true then (if 3 + ((rd_T31 l0 x11_1).f0).size ≤ 9223372036854775807 then (if ((⟨#[99, 112, 117]⟩ : ByteArray) ++ ((rd_T31 l0 x11_1).f0)).size + 1 ≤ 9223372036854775807 then ((spec_numbers.f k1 ((rd_T31 l0 x11_1).f1) (⟨#[32]⟩ : ByteArray)).bind fun t872 => (if (((⟨#[99, 112, 117]⟩ : ByteArray) ++ ((rd_T31 l0 x11_1).f0)) ++ (⟨#[32]⟩ : ByteArray)).size + t872.size ≤ 9223372036854775807 then (if ((((⟨#[99, 112, 117]⟩ : ByteArray) ++ ((rd_T31 l0 x11_1).f0)) ++ (⟨#[32]⟩ : ByteArray)) ++ t872).size + 1 ≤ 9223372036854775807 then (if x4_1.size + (((((⟨#[99, 112, 117]⟩ : ByteArray) ++ ((rd_T31 l0 x11_1).f0)) ++ (⟨#[32]⟩ : ByteArray)) ++ t872) ++ (⟨#[10]⟩ : ByteArray)).size ≤ 9223372036854775807 then (spec_SchedstatPrint.l0 k1 (x4_1 ++ (((((⟨#[99, 112, 117]⟩ : ByteArray) ++ ((rd_T31 l0 x11_1).f0)) ++ (⟨#[32]⟩ : ByteArray)) ++ t872) ++ (⟨#[10]⟩ : ByteArray))) l0 (l0.length : Int) (wrap64 (x11_1 + 1))) else (none)) else (none)) else (none))) else (none)) else (none)) else (some ((⟨#[]⟩ : ByteArray), 2)))) else (some ((⟨#[]⟩ : ByteArray), 2)))) = some (r1, r2) := by rw [if_pos rfl] at H; exact H
     clear H
     have H := H1
     clear H1
     replace H := Option.bind_eq_some_iff.mp H
     obtain ⟨t870, A70, H⟩ := H
     try dsimp -simprocs only at H
     have A7 := Aside0.mk A70
     clear A70
     by_cases c8 : t870.toList = ((rd_T31 l0 x11_1).f0).toList
     ·rw [if_pos c8] at H
      have c8b0 : (t870.toList == ((rd_T31 l0 x11_1).f0).toList) = true := beq_iff_eq.mpr c8
      have c8b1 : (t870.toList != ((rd_T31 l0 x11_1).f0).toList) = false := bne_eq_false_iff_eq.mpr c8
      clear c8
      replace H := Option.bind_eq_some_iff.mp H
      obtain ⟨t871, A90, H⟩ := H
      try dsimp -simprocs only at H
      have A9 := Aside0.mk A90
      clear A90
      by_cases c10 : t871 = true
      ·subst c10
       have H1 : (if 3 + ((rd_T31 l0 x11_1).f0).size ≤ 9223372036854775807 then (if ((⟨#[99, 112, 117]⟩ : ByteArray) ++ ((rd_T31 l0 x11_1).f0)).size + 1 ≤ 9223372036854775807 then ((spec_numbers.f k1 ((rd_T31 l0 x11_1).f1) (⟨#[32]⟩ : ByteArray)).bind fun t872 => (if (((⟨#[99, 112, 117]⟩ : ByteArray) ++ ((rd_T31 l0 x11_1).f0)) ++ (⟨#[32]⟩ : ByteArray)).size + t872.size ≤ 9223372036854775807 then (if ((((⟨#[99, 112, 117]⟩ : ByteArray) ++ ((rd_T31 l0 x11_1).f0)) ++ (⟨#[32]⟩ : ByteArray)) ++ t872).size + 1 ≤ 9223372036854775807 then (if x4_1.size + (((((⟨#[99, 112, 117]⟩ : ByteArray) ++ ((rd_T31 l0 x11_1).f0)) ++ (⟨#[32]⟩ : ByteArray)) ++ t872) ++ (⟨#[10]⟩ : ByteArray)).size ≤ 9223372036854775807 then (spec_SchedstatPrint.l0 k1 (x4_1 ++ (((((⟨#[99, 112, 117]⟩ : ByteArray) ++ ((rd_T31 l0 x11_1).f0)) ++ (⟨#[32]⟩ : ByteArray)) ++ t872) ++ (⟨#[10]⟩ : ByteArray))) l0 (l0.length : Int) (wrap64 (x11_1 + 1))) else (none)) else (none)) else (none))) else (none)) else (none)) = some (r1, r2) := by rw [if_pos rfl] at H; exact H
       clear H
       have H := H1
       clear H1
       replace H := guard_inv H
       obtain ⟨c11, H⟩ := H
       have c11b0 := eq_true c11
       have c11b1 := decide_eq_true c11
       try have c11b2 := eq_false (Nat.not_lt.2 c11)
       replace H := guard_inv H
       obtain ⟨c12, H⟩ := H
       have c12b0 := eq_true c12
       have c12b1 := decide_eq_true c12
       try have c12b2 := eq_false (Nat.not_lt.2 c12)
       try have c12b5 : (9223372036854775807 < 3 + ((rd_T31 l0 x11_1).f0).size + 1) = False := by have e_ := c12b2; (repeat rw [ByteArray.size_append] at e_); exact e_
       replace H := Option.bind_eq_some_iff.mp H
       obtain ⟨t872, A130, H⟩ := H
       try dsimp -simprocs only at H
       have A13 := Aside0.mk A130
       clear A130
       replace H := guard_inv H
       obtain ⟨c14, H⟩ := H
       have c14b0 := eq_true c14
       have c14b1 := decide_eq_true c14
       try have c14b2 := eq_false (Nat.not_lt.2 c14)
       try have c14b5 : (9223372036854775807 < 3 + ((rd_T31 l0 x11_1).f0).size + 1 + t872.size) = False := by have e_ := c14b2; (repeat rw [ByteArray.size_append] at e_); exact e_
       replace H := guard_inv H
       obtain ⟨c15, H⟩ := H
       have c15b0 := eq_true c15
       have c15b1 := decide_eq_true c15
       try have c15b2 := eq_false (Nat.not_lt.2 c15)
       try have c15b5 : (9223372036854775807 < 3 + ((rd_T31 l0 x11_1).f0).size + 1 + t872.size + 1) = False := by have e_ := c15b2; (repeat rw [ByteArray.size_append] at e_); exact e_
       replace H := guard_inv H
       obtain ⟨c16, H⟩ := H
       have c16b0 := eq_true c16
       have c16b1 := decide_eq_true c16
       try have c16b2 := eq_false (Nat.not_lt.2 c16)
       try have c16b5 : (9223372036854775807 < x4_1.size + (3 + ((rd_T31 l0 x11_1).f0).size + 1 + t872.size + 1)) = False := by have e_ := c16b2; (repeat rw [ByteArray.size_append] at e_); exact e_
       have H' := Aside0.mk H
       clear H
       have p866 : 0 ≤ (x11_1 : Int) := of_decide_eq_true (by first | (with_reducible assumption) | assumption)
       have q866 : x11_1 < (l0.length : Int) := of_decide_eq_true (by first | (with_reducible assumption) | assumption)
       obtain ⟨ad866, A866_1, c866_1, A866_2, c866_2, e866, hx866_0, hx866_1, hx866_2, hl866_1, hi866_1, hl866_2, hi866_2⟩ := at_T31 HR0.out x11_1 p866 q866
       cases e866
       replace hx866_0 := (HB.out.cell (World.block_lt_of_cell? w _ hx866_0)).trans hx866_0
       replace hx866_1 := (HB.out.cell (World.block_lt_of_cell? w _ hx866_1)).trans hx866_1
       replace hx866_2 := (HB.out.cell (World.block_lt_of_cell? w _ hx866_2)).trans hx866_2
       have HR866_1 := Aside0.mk hi866_1
       have HC866_1 := Aside0.mk hl866_1
       clear hi866_1 hl866_1
       have HR866_2 := Aside0.mk hi866_2
       have HC866_2 := Aside0.mk hl866_2
       clear hi866_2 hl866_2
       replace p866 := eq_true p866
       replace q866 := eq_true q866
       try go_wp2_with (first | ((with_reducible refine gate_dst (N := 6) rfl ?_); refine box_event ?hg (N := 6) ?hd (cs := #[.string (⟨#[]⟩ : ByteArray), .slice none 0 0, .slice none 0 0]) (t := 31) ?hr ?_; (case hd => rfl); (case hg => rfl); (case hr => first | (go_simp; done) | (go_simp; rfl)); intro gb867 hg w17 hbox hb; have n0_ := Aside0.mk (below_step (by repeat (first | (with_reducible first | exact HB.out | apply below_alloc | apply pw_below_drewN | apply below_drew1) | exact HB.out)) hb); have n1_ := Aside0.mk (hbox); have n2_ := Aside0.mk ((by rw [hg]; exact (below_size (by repeat (first | (with_reducible first | exact HB.out | apply below_alloc | apply pw_below_drewN | apply below_drew1) | exact HB.out))) : w.heap.size ≤ gb867)); have n3_ := Aside0.mk ((by rw [hg]; exact (below_size (by repeat (first | (with_reducible first | exact HB.out | apply below_alloc | apply pw_below_drewN | apply below_drew1) | exact HB.out))) : w.heap.size ≤ gb867)); clear HB; have HB := n0_; have BK867 := n1_; have GW867 := n2_; have GE867 := n3_; clear n0_ n1_ n2_ n3_; clear hb hbox hg; have hcz18_0 : w17.cell? ⟨gb867, 0, none⟩ = some (.string (⟨#[]⟩ : ByteArray)) := (blk_cell BK867.out 0).trans rfl; have hcz18_1 : w17.cell? ⟨gb867, 1, none⟩ = some (.slice none 0 0) := (blk_cell BK867.out 1).trans rfl; have hcz18_2 : w17.cell? ⟨gb867, 2, none⟩ = some (.slice none 0 0) := (blk_cell BK867.out 2).trans rfl; have hfz18_0 := blk_frozen BK867.out 0; have hfz18_1 := blk_frozen BK867.out 1; have hfz18_2 := blk_frozen BK867.out 2) | ((with_reducible refine gate_callee (f := 81) rfl ?_); refine goesL_ (some 18) rfl rfl Tryz.func81 (by kernel_rfl) rfl #[.string ((rd_T31 l0 x11_1).f0)] rfl (by (try simp only [List.map_toArray, List.map_cons, List.map_nil]); first | done | rfl | (simp only [List.length_drop, List.length_take]; rfl)) ?_; (with_reducible refine (spec_Dec.calls k1 ((rd_T31 l0 x11_1).f0) t868 true _ A5.out).mono ?_); rintro e w' ⟨rfl, ⟨nd, rfl⟩⟩; refine ⟨_, rfl, ?_⟩))
       have n0_ : Aside0 ((((w17.setCell ⟨gb867, 0, none⟩ (.string ((rd_T31 l0 x11_1).f0))).setCell ⟨gb867, 1, none⟩ (.slice A866_1 ((rd_T31 l0 x11_1).f1).length c866_1)).setCell ⟨gb867, 2, none⟩ (.slice A866_2 ((rd_T31 l0 x11_1).f2).length c866_2)).heap[gb867]? = some (.cells #[.string ((rd_T31 l0 x11_1).f0), .slice A866_1 ((rd_T31 l0 x11_1).f1).length c866_1, .slice A866_2 ((rd_T31 l0 x11_1).f2).length c866_2] 31 (0, 0))) := ⟨by (with_reducible repeat (first | refine blk_drewN ?_ _ | refine blk_drew ?_ | refine blk_alloc ?_ _)); refine blk_put (cs := #[.string ((rd_T31 l0 x11_1).f0), .slice A866_1 ((rd_T31 l0 x11_1).f1).length c866_1, .slice none 0 0]) ?_ 2 _ rfl; (with_reducible repeat (first | refine blk_drewN ?_ _ | refine blk_drew ?_ | refine blk_alloc ?_ _)); refine blk_put (cs := #[.string ((rd_T31 l0 x11_1).f0), .slice none 0 0, .slice none 0 0]) ?_ 1 _ rfl; (with_reducible repeat (first | refine blk_drewN ?_ _ | refine blk_drew ?_ | refine blk_alloc ?_ _)); refine blk_put (cs := #[.string (⟨#[]⟩ : ByteArray), .slice none 0 0, .slice none 0 0]) ?_ 0 _ rfl; (with_reducible repeat (first | refine blk_drewN ?_ _ | refine blk_drew ?_ | refine blk_alloc ?_ _)); exact BK867.out⟩
       have n1_ : Aside0 (Below w.heap.size w (((w17.setCell ⟨gb867, 0, none⟩ (.string ((rd_T31 l0 x11_1).f0))).setCell ⟨gb867, 1, none⟩ (.slice A866_1 ((rd_T31 l0 x11_1).f1).length c866_1)).setCell ⟨gb867, 2, none⟩ (.slice A866_2 ((rd_T31 l0 x11_1).f2).length c866_2))) := ⟨by repeat (first | (with_reducible first | exact HB.out | apply below_alloc | apply pw_below_drewN | apply below_drew1 | refine below_set ?_ GE867.out) | exact HB.out)⟩
       (try clear BK867)
       (try clear HB)
       generalize (((w17.setCell ⟨gb867, 0, none⟩ (.string ((rd_T31 l0 x11_1).f0))).setCell ⟨gb867, 1, none⟩ (.slice A866_1 ((rd_T31 l0 x11_1).f1).length c866_1)).setCell ⟨gb867, 2, none⟩ (.slice A866_2 ((rd_T31 l0 x11_1).f2).length c866_2)) = w19 at n0_ n1_ ⊢
       have BK867 := n0_
       have HB := n1_
       clear n0_ n1_
       (try (rw [drewN_self w19]; generalize hq_ : World.drewN w19 _ = w19; have n0_ : Aside0 (w19.heap[gb867]? = some (.cells #[.string ((rd_T31 l0 x11_1).f0), .slice A866_1 ((rd_T31 l0 x11_1).f1).length c866_1, .slice A866_2 ((rd_T31 l0 x11_1).f2).length c866_2] 31 (0, 0))) := ⟨by rw [← hq_]; exact (by (with_reducible repeat (first | refine blk_drewN ?_ _ | refine blk_drew ?_ | refine blk_alloc ?_ _)); exact BK867.out)⟩; have n1_ : Aside0 (Below w.heap.size w w19) := ⟨by rw [← hq_]; exact (by repeat (first | (with_reducible first | exact HB.out | apply below_alloc | apply pw_below_drewN | apply below_drew1 | refine below_set ?_ GE867.out) | exact HB.out))⟩; clear BK867 HB hq_; have BK867 := n0_; have HB := n1_; clear n0_ n1_))
       have n0_ := Aside0.mk (blk_drew BK867.out)
       have n1_ := Aside0.mk (below_drew1 HB.out)
       clear BK867
       clear HB
       have BK867 := n0_
       have HB := n1_
       clear n0_ n1_
       refine start_ (n := 14) (S := fun w' => w'.cell? ⟨gb867, 0, none⟩ = some (.string ((rd_T31 l0 x11_1).f0)) ∧ w'.cell? ⟨gb867, 1, none⟩ = some (.slice A866_1 ((rd_T31 l0 x11_1).f1).length c866_1) ∧ w'.cell? ⟨gb867, 2, none⟩ = some (.slice A866_2 ((rd_T31 l0 x11_1).f2).length c866_2)) (ds := []) (bb [0, 14]) (by kernel_rfl) rfl rfl ⟨(blk_cell BK867.out 0).trans rfl, (blk_cell BK867.out 1).trans rfl, (blk_cell BK867.out 2).trans rfl⟩ (fun hHeld => ?_); refine with_tabW spec_SchedstatPrint.tab6 spec_SchedstatPrint.bits6 (fun HT_ HW_ => ?_)
       generalize w19.drew = w20 at BK867 HB hHeld ⊢
       refine pure_ (i := 0) (N := some 21) (v := ?_) (a' := ?_) (bb [1, 13]) rfl rfl (any_of HT_.out (by kernel_rfl)) (fun _ _ _ h => h) (Or.inl ⟨by rfl, ?_⟩) ?_ ?_
       rotate_left
       ·intro w'
        go_simp
        with_reducible rfl
       rotate_left
       ·simp only [Act.put, List.setIfInBounds_toArray, List.set_cons_zero, List.set_cons_succ, i64_w, i32_w]
        rfl
       refine pure_ (i := 1) (N := some 22) (v := ?_) (a' := ?_) (bb [2, 12]) rfl rfl (any_of HT_.out (by kernel_rfl)) (fun _ _ _ h => h) (Or.inl ⟨by rfl, ?_⟩) ?_ ?_
       rotate_left
       ·intro w'
        go_simp
        with_reducible rfl
       rotate_left
       ·simp only [Act.put, List.setIfInBounds_toArray, List.set_cons_zero, List.set_cons_succ, i64_w, i32_w]
        rfl
       refine pure_ (i := 2) (N := some 23) (v := ?_) (a' := ?_) (bb [3, 11]) rfl rfl (any_of HT_.out (by kernel_rfl)) (fun _ _ _ h => h) (Or.inl ⟨by rfl, ?_⟩) ?_ ?_
       rotate_left
       ·intro w'
        go_simp
        with_reducible rfl
       rotate_left
       ·simp only [Act.put, List.setIfInBounds_toArray, List.set_cons_zero, List.set_cons_succ, i64_w, i32_w]
        rfl
       refine pure_ (i := 3) (N := some 24) (v := ?_) (a' := ?_) (bb [4, 10]) rfl rfl (any_of HT_.out (by kernel_rfl)) (fun _ _ _ h => h) (Or.inl ⟨by rfl, ?_⟩) ?_ ?_
       rotate_left
       ·intro w'
        go_simp
        with_reducible rfl
       rotate_left
       ·simp only [Act.put, List.setIfInBounds_toArray, List.set_cons_zero, List.set_cons_succ, i64_w, i32_w]
        rfl
       refine pure_ (i := 5) (N := some 26) (v := ?_) (a' := ?_) (bb [4, 1, 1, 8]) rfl rfl (any_of HT_.out (by kernel_rfl)) (fun _ _ _ h => h) (Or.inl ⟨by rfl, ?_⟩) ?_ ?_
       rotate_left
       ·intro w'
        go_simp
        with_reducible rfl
       rotate_left
       ·simp only [Act.put, List.setIfInBounds_toArray, List.set_cons_zero, List.set_cons_succ, i64_w, i32_w]
        rfl
       refine take_ (i := 6) (N := some 27) (v := ?_) (a' := ?_) (bb [4, 1, 2, 7]) rfl rfl (take_ofW HT_.out HW_.out (by kernel_rfl)) (fun _ _ _ h => h) (Or.inl ⟨by rfl, ?_⟩) hHeld ?_ ?_
       rotate_left
       ·rintro w' ⟨s0, s1, s2⟩
        go_simp
        with_reducible rfl
       rotate_left
       ·simp only [Act.put, List.setIfInBounds_toArray, List.set_cons_zero, List.set_cons_succ, i64_w, i32_w]
        rfl
       refine one_ (i := 4) (N := some 25) (bb [7, 7]) rfl rfl (one_of HT_.out (by kernel_rfl)) (by decide) (fun K hK => ?_)
       refine goes_ Tryz.func52 (by kernel_rfl) rfl #[.int .u64 t868] (by rfl) rfl rfl (by (try simp only [List.map_toArray, List.map_cons, List.map_nil]); first | done | rfl | (simp only [List.length_drop, List.length_take]; rfl)) ?_
       with_reducible refine (spec_Text.calls k1 t868 t870 _ A7.out).mono ?_
       rintro e w21 ⟨rfl, hb⟩
       refine ⟨_, rfl, ?_⟩
       have n0_ := Aside0.mk (blk_below (g := gb867) (o := .cells #[.string ((rd_T31 l0 x11_1).f0), .slice A866_1 ((rd_T31 l0 x11_1).f1).length c866_1, .slice A866_2 ((rd_T31 l0 x11_1).f2).length c866_2] 31 (0, 0)) (by (with_reducible repeat (first | refine blk_drewN ?_ _ | refine blk_drew ?_ | refine blk_alloc ?_ _)); exact BK867.out) hb)
       have n1_ := Aside0.mk (below_step (by repeat (first | (with_reducible first | exact HB.out | apply below_alloc | apply pw_below_drewN | apply below_drew1 | refine below_set ?_ GE867.out) | exact HB.out)) hb)
       clear BK867
       clear HB
       have BK867 := n0_
       have HB := n1_
       clear n0_ n1_
       (try clear hb)
       (try clear hb2)
       (try clear hk)
       (try clear hi)
       refine hK.out _ _ ⟨(blk_cell BK867.out 0).trans rfl, (blk_cell BK867.out 1).trans rfl, (blk_cell BK867.out 2).trans rfl⟩ (fun hHeld => ?_)
       clear hK K
       refine norm_ (a' := ?_) ?_ ?_
       rotate_left
       ·show Act.put _ (some 25) _ = _
        simp only [Act.put, List.setIfInBounds_toArray, List.set_cons_zero, List.set_cons_succ, i64_w, i32_w]
        rfl
       refine pure_ (i := 7) (N := some 28) (v := ?_) (a' := ?_) (bb [8, 6]) rfl rfl (any_of HT_.out (by kernel_rfl)) (fun _ _ _ h => h) (Or.inl ⟨by rfl, ?_⟩) ?_ ?_
       rotate_left
       ·intro w'
        go_simp
        with_reducible rfl
       rotate_left
       ·simp only [Act.put, List.setIfInBounds_toArray, List.set_cons_zero, List.set_cons_succ, i64_w, i32_w]
        rfl
       refine pure_ (i := 8) (N := some 29) (v := ?_) (a' := ?_) (bb [9, 5]) rfl rfl (any_of HT_.out (by kernel_rfl)) (fun _ _ _ h => h) (Or.inl ⟨by rfl, ?_⟩) ?_ ?_
       rotate_left
       ·intro w'
        go_simp
        with_reducible rfl
       rotate_left
       ·simp only [Act.put, List.setIfInBounds_toArray, List.set_cons_zero, List.set_cons_succ, i64_w, i32_w]
        rfl
       refine pure_ (i := 9) (N := some 30) (v := ?_) (a' := ?_) (bb [10, 4]) rfl rfl (any_of HT_.out (by kernel_rfl)) (fun _ _ _ h => h) (Or.inl ⟨by rfl, ?_⟩) ?_ ?_
       rotate_left
       ·intro w'
        go_simp
        with_reducible rfl
       rotate_left
       ·simp only [Act.put, List.setIfInBounds_toArray, List.set_cons_zero, List.set_cons_succ, i64_w, i32_w]
        rfl
       refine take_ (i := 10) (N := some 31) (v := ?_) (a' := ?_) (bb [11, 3]) rfl rfl (take_ofW HT_.out HW_.out (by kernel_rfl)) (fun _ _ _ h => h) (Or.inl ⟨by rfl, ?_⟩) hHeld ?_ ?_
       rotate_left
       ·rintro w' ⟨s0, s1, s2⟩
        go_simp
        with_reducible rfl
       rotate_left
       ·simp only [Act.put, List.setIfInBounds_toArray, List.set_cons_zero, List.set_cons_succ, i64_w, i32_w]
        rfl
       refine one_ (i := 11) (N := some 32) (bb [12, 2]) rfl rfl (one_of HT_.out (by kernel_rfl)) (by decide) (fun K hK => ?_)
       refine goes_ Tryz.func49 (by kernel_rfl) rfl #[.agg #[.string ((rd_T31 l0 x11_1).f0), .slice A866_1 ((rd_T31 l0 x11_1).f1).length c866_1, .slice A866_2 ((rd_T31 l0 x11_1).f2).length c866_2], .int .i64 9, .int .i64 0] (by rfl) rfl rfl (by (try simp only [List.map_toArray, List.map_cons, List.map_nil]); first | done | rfl | (simp only [List.length_drop, List.length_take]; rfl)) ?_
       with_reducible refine (spec_sized.calls ((rd_T31 l0 x11_1).f0) _ _ ((rd_T31 l0 x11_1).f1) _ _ ((rd_T31 l0 x11_1).f2) 9 0 true _ ?side1 ?side2 ?side3 ?side4 A9.out).mono ?_
       (case side1 => repeat (first | exact (Kd.C_below HR866_1.out HB.out) | (with_reducible refine Kd.C_alloc ?_ _) | (with_reducible refine Kd.C_drewN ?_ _) | (with_reducible refine Kd.C_drew ?_)))
       (case side2 => exact HC866_1.out)
       (case side3 => repeat (first | exact (Kd.C_below HR866_2.out HB.out) | (with_reducible refine Kd.C_alloc ?_ _) | (with_reducible refine Kd.C_drewN ?_ _) | (with_reducible refine Kd.C_drew ?_)))
       (case side4 => exact HC866_2.out)
       rintro e w22 ⟨rfl, hb⟩
       refine ⟨_, rfl, ?_⟩
       have n0_ := Aside0.mk (blk_below (g := gb867) (o := .cells #[.string ((rd_T31 l0 x11_1).f0), .slice A866_1 ((rd_T31 l0 x11_1).f1).length c866_1, .slice A866_2 ((rd_T31 l0 x11_1).f2).length c866_2] 31 (0, 0)) (by (with_reducible repeat (first | refine blk_drewN ?_ _ | refine blk_drew ?_ | refine blk_alloc ?_ _)); exact BK867.out) hb)
       have n1_ := Aside0.mk (below_step (by repeat (first | (with_reducible first | exact HB.out | apply below_alloc | apply pw_below_drewN | apply below_drew1 | refine below_set ?_ GE867.out) | exact HB.out)) hb)
       clear BK867
       clear HB
       have BK867 := n0_
       have HB := n1_
       clear n0_ n1_
       (try clear hb)
       (try clear hb2)
       (try clear hk)
       (try clear hi)
       refine hK.out _ _ ⟨(blk_cell BK867.out 0).trans rfl, (blk_cell BK867.out 1).trans rfl, (blk_cell BK867.out 2).trans rfl⟩ (fun hHeld => ?_)
       clear hK K
       refine norm_ (a' := ?_) ?_ ?_
       rotate_left
       ·show Act.put _ (some 32) _ = _
        simp only [Act.put, List.setIfInBounds_toArray, List.set_cons_zero, List.set_cons_succ, i64_w, i32_w]
        rfl
       refine pure_ (i := 12) (N := some 33) (v := ?_) (a' := ?_) (bb [13, 1]) rfl rfl (any_of HT_.out (by kernel_rfl)) (fun _ _ _ h => h) (Or.inl ⟨by rfl, ?_⟩) ?_ ?_
       rotate_left
       ·intro w'
        go_simp
        with_reducible rfl
       rotate_left
       ·simp only [Act.put, List.setIfInBounds_toArray, List.set_cons_zero, List.set_cons_succ, i64_w, i32_w]
        rfl
       refine pure_ (i := 13) (N := some 34) (v := ?_) (a' := ?_) (bb [14]) rfl rfl (any_of HT_.out (by kernel_rfl)) (fun _ _ _ h => h) (Or.inl ⟨by rfl, ?_⟩) ?_ ?_
       rotate_left
       ·intro w'
        go_simp
        with_reducible rfl
       rotate_left
       ·simp only [Act.put, List.setIfInBounds_toArray, List.set_cons_zero, List.set_cons_succ, i64_w, i32_w]
        rfl
       refine done_ (done_of HT_.out (by kernel_rfl)) ?_
       try go_wp2
       have n0_ := Aside0.mk (blk_drew BK867.out)
       have n1_ := Aside0.mk (below_drew1 HB.out)
       clear BK867
       clear HB
       have BK867 := n0_
       have HB := n1_
       clear n0_ n1_
       refine start_ (n := 12) (S := fun w' => w'.cell? ⟨gb867, 0, none⟩ = some (.string ((rd_T31 l0 x11_1).f0)) ∧ w'.cell? ⟨gb867, 1, none⟩ = some (.slice A866_1 ((rd_T31 l0 x11_1).f1).length c866_1) ∧ w'.cell? ⟨gb867, 2, none⟩ = some (.slice A866_2 ((rd_T31 l0 x11_1).f2).length c866_2)) (ds := []) (bb [0, 12]) (by kernel_rfl) rfl rfl ⟨(blk_cell BK867.out 0).trans rfl, (blk_cell BK867.out 1).trans rfl, (blk_cell BK867.out 2).trans rfl⟩ (fun hHeld => ?_); refine with_tabW spec_SchedstatPrint.tab8 spec_SchedstatPrint.bits8 (fun HT_ HW_ => ?_)
       generalize w22.drew = w23 at BK867 HB hHeld ⊢
       refine pure_ (i := 0) (N := some 35) (v := ?_) (a' := ?_) (bb [1, 11]) rfl rfl (any_of HT_.out (by kernel_rfl)) (fun _ _ _ h => h) (Or.inl ⟨by rfl, ?_⟩) ?_ ?_
       rotate_left
       ·intro w'
        go_simp
        with_reducible rfl
       rotate_left
       ·simp only [Act.put, List.setIfInBounds_toArray, List.set_cons_zero, List.set_cons_succ, i64_w, i32_w]
        rfl
       refine pure_ (i := 1) (N := some 36) (v := ?_) (a' := ?_) (bb [2, 10]) rfl rfl (any_of HT_.out (by kernel_rfl)) (fun _ _ _ h => h) (Or.inl ⟨by rfl, ?_⟩) ?_ ?_
       rotate_left
       ·intro w'
        go_simp
        with_reducible rfl
       rotate_left
       ·simp only [Act.put, List.setIfInBounds_toArray, List.set_cons_zero, List.set_cons_succ, i64_w, i32_w]
        rfl
       refine pure_ (i := 5) (N := some 40) (v := ?_) (a' := ?_) (bb [2, 3, 1, 6]) rfl rfl (any_of HT_.out (by kernel_rfl)) (fun _ _ _ h => h) (Or.inl ⟨by rfl, ?_⟩) ?_ ?_
       rotate_left
       ·intro w'
        go_simp
        with_reducible rfl
       rotate_left
       ·simp only [Act.put, List.setIfInBounds_toArray, List.set_cons_zero, List.set_cons_succ, i64_w, i32_w]
        rfl
       refine take_ (i := 2) (N := some 37) (v := ?_) (a' := ?_) (bb [3, 2, 1, 6]) rfl rfl (take_ofW HT_.out HW_.out (by kernel_rfl)) (fun _ _ _ h => h) (Or.inl ⟨by rfl, ?_⟩) hHeld ?_ ?_
       rotate_left
       ·rintro w' ⟨s0, s1, s2⟩
        go_simp
        with_reducible rfl
       rotate_left
       ·simp only [Act.put, List.setIfInBounds_toArray, List.set_cons_zero, List.set_cons_succ, i64_w, i32_w]
        rfl
       refine pure_ (i := 3) (N := some 38) (v := ?_) (a' := ?_) (bb [4, 1, 1, 6]) rfl rfl (any_of HT_.out (by kernel_rfl)) (fun _ _ _ h => h) (Or.inl ⟨by rfl, ?_⟩) ?_ ?_
       rotate_left
       ·intro w'
        go_simp
        with_reducible rfl
       rotate_left
       ·simp only [Act.put, List.setIfInBounds_toArray, List.set_cons_zero, List.set_cons_succ, i64_w, i32_w]
        rfl
       refine pure_ (i := 4) (N := some 39) (v := ?_) (a' := ?_) (bb [6, 6]) rfl rfl (any_of HT_.out (by kernel_rfl)) (fun _ _ _ h => h) (Or.inl ⟨by rfl, ?_⟩) ?_ ?_
       rotate_left
       ·intro w'
        go_simp
        with_reducible rfl
       rotate_left
       ·simp only [Act.put, List.setIfInBounds_toArray, List.set_cons_zero, List.set_cons_succ, i64_w, i32_w]
        rfl
       refine take_ (i := 6) (N := some 41) (v := ?_) (a' := ?_) (bb [7, 5]) rfl rfl (take_ofW HT_.out HW_.out (by kernel_rfl)) (fun _ _ _ h => h) (Or.inl ⟨by rfl, ?_⟩) hHeld ?_ ?_
       rotate_left
       ·rintro w' ⟨s0, s1, s2⟩
        go_simp
        with_reducible rfl
       rotate_left
       ·simp only [Act.put, List.setIfInBounds_toArray, List.set_cons_zero, List.set_cons_succ, i64_w, i32_w]
        rfl
       refine one_ (i := 7) (N := some 42) (bb [8, 4]) rfl rfl (one_of HT_.out (by kernel_rfl)) (by decide) (fun K hK => ?_)
       refine goes_ Tryz.func73 (by kernel_rfl) rfl #[.slice A866_1 ((rd_T31 l0 x11_1).f1).length c866_1, .string (⟨#[32]⟩ : ByteArray)] (by rfl) rfl rfl (by (try simp only [List.map_toArray, List.map_cons, List.map_nil]); first | done | rfl | (simp only [List.length_drop, List.length_take]; rfl)) ?_
       with_reducible refine (spec_numbers.calls k1 _ _ ((rd_T31 l0 x11_1).f1) (⟨#[32]⟩ : ByteArray) t872 _ ?side1 ?side2 A13.out).mono ?_
       (case side1 => repeat (first | exact (Kd.C_below HR866_1.out HB.out) | (with_reducible refine Kd.C_alloc ?_ _) | (with_reducible refine Kd.C_drewN ?_ _) | (with_reducible refine Kd.C_drew ?_)))
       (case side2 => exact HC866_1.out)
       rintro e w24 ⟨rfl, hb⟩
       refine ⟨_, rfl, ?_⟩
       have n0_ := Aside0.mk (blk_below (g := gb867) (o := .cells #[.string ((rd_T31 l0 x11_1).f0), .slice A866_1 ((rd_T31 l0 x11_1).f1).length c866_1, .slice A866_2 ((rd_T31 l0 x11_1).f2).length c866_2] 31 (0, 0)) (by (with_reducible repeat (first | refine blk_drewN ?_ _ | refine blk_drew ?_ | refine blk_alloc ?_ _)); exact BK867.out) hb)
       have n1_ := Aside0.mk (below_step (by repeat (first | (with_reducible first | exact HB.out | apply below_alloc | apply pw_below_drewN | apply below_drew1 | refine below_set ?_ GE867.out) | exact HB.out)) hb)
       clear BK867
       clear HB
       have BK867 := n0_
       have HB := n1_
       clear n0_ n1_
       (try clear hb)
       (try clear hb2)
       (try clear hk)
       (try clear hi)
       refine hK.out _ _ ⟨(blk_cell BK867.out 0).trans rfl, (blk_cell BK867.out 1).trans rfl, (blk_cell BK867.out 2).trans rfl⟩ (fun hHeld => ?_)
       clear hK K
       refine norm_ (a' := ?_) ?_ ?_
       rotate_left
       ·show Act.put _ (some 42) _ = _
        simp only [Act.put, List.setIfInBounds_toArray, List.set_cons_zero, List.set_cons_succ, i64_w, i32_w]
        rfl
       refine pure_ (i := 8) (N := some 43) (v := ?_) (a' := ?_) (bb [9, 3]) rfl rfl (any_of HT_.out (by kernel_rfl)) (fun _ _ _ h => h) (Or.inl ⟨by rfl, ?_⟩) ?_ ?_
       rotate_left
       ·intro w'
        go_simp
        with_reducible rfl
       rotate_left
       ·simp only [Act.put, List.setIfInBounds_toArray, List.set_cons_zero, List.set_cons_succ, i64_w, i32_w]
        rfl
       refine pure_ (i := 9) (N := some 44) (v := ?_) (a' := ?_) (bb [10, 2]) rfl rfl (any_of HT_.out (by kernel_rfl)) (fun _ _ _ h => h) (Or.inl ⟨by rfl, ?_⟩) ?_ ?_
       rotate_left
       ·intro w'
        go_simp
        with_reducible rfl
       rotate_left
       ·simp only [Act.put, List.setIfInBounds_toArray, List.set_cons_zero, List.set_cons_succ, i64_w, i32_w]
        rfl
       refine pure_ (i := 10) (N := some 45) (v := ?_) (a' := ?_) (bb [11, 1]) rfl rfl (any_of HT_.out (by kernel_rfl)) (fun _ _ _ h => h) (Or.inl ⟨by rfl, ?_⟩) ?_ ?_
       rotate_left
       ·intro w'
        go_simp
        with_reducible rfl
       rotate_left
       ·simp only [Act.put, List.setIfInBounds_toArray, List.set_cons_zero, List.set_cons_succ, i64_w, i32_w]
        rfl
       refine pure_ (i := 11) (N := some 4) (v := ?_) (a' := ?_) (bb [12]) rfl rfl (any_of HT_.out (by kernel_rfl)) (fun _ _ _ h => h) (Or.inl ⟨by rfl, ?_⟩) ?_ ?_
       rotate_left
       ·intro w'
        go_simp
        with_reducible rfl
       rotate_left
       ·simp only [Act.put, List.setIfInBounds_toArray, List.set_cons_zero, List.set_cons_succ, i64_w, i32_w]
        rfl
       refine done_ (done_of HT_.out (by kernel_rfl)) ?_
       try go_wp2
       go_roundg k1
       case measure => have := HK1.out; omega
       case rel => exact ⟨(x4_1 ++ (((((⟨#[99, 112, 117]⟩ : ByteArray) ++ ((rd_T31 l0 x11_1).f0)) ++ (⟨#[32]⟩ : ByteArray)) ++ t872) ++ (⟨#[10]⟩ : ByteArray))), (wrap64 (x11_1 + 1)), (by first | rfl | (simp; done) | (simp [*]; done)), (by first | rfl | (simp; done) | (simp [*]; done)), H', ⟨by have := HK1.out; omega⟩, ⟨by repeat (first | (with_reducible first | exact HB.out | apply below_alloc | apply pw_below_drewN | apply below_drew1 | refine below_set ?_ GE867.out) | exact HB.out)⟩⟩
      ·replace c10 := Bool.eq_false_iff.mpr c10
       subst c10
       have H1 : (some ((⟨#[]⟩ : ByteArray), 2)) = some (r1, r2) := by rw [if_neg (show ¬ (false = true) by decide)] at H; exact H
       clear H
       have H := H1
       clear H1
       simp only [Option.some.injEq, Prod.mk.injEq] at H
       obtain ⟨rfl, rfl⟩ := H
       have p866 : 0 ≤ (x11_1 : Int) := of_decide_eq_true (by first | (with_reducible assumption) | assumption)
       have q866 : x11_1 < (l0.length : Int) := of_decide_eq_true (by first | (with_reducible assumption) | assumption)
       obtain ⟨ad866, A866_1, c866_1, A866_2, c866_2, e866, hx866_0, hx866_1, hx866_2, hl866_1, hi866_1, hl866_2, hi866_2⟩ := at_T31 HR0.out x11_1 p866 q866
       cases e866
       replace hx866_0 := (HB.out.cell (World.block_lt_of_cell? w _ hx866_0)).trans hx866_0
       replace hx866_1 := (HB.out.cell (World.block_lt_of_cell? w _ hx866_1)).trans hx866_1
       replace hx866_2 := (HB.out.cell (World.block_lt_of_cell? w _ hx866_2)).trans hx866_2
       have HR866_1 := Aside0.mk hi866_1
       have HC866_1 := Aside0.mk hl866_1
       clear hi866_1 hl866_1
       have HR866_2 := Aside0.mk hi866_2
       have HC866_2 := Aside0.mk hl866_2
       clear hi866_2 hl866_2
       replace p866 := eq_true p866
       replace q866 := eq_true q866
       try go_wp2_with (first | ((with_reducible refine gate_dst (N := 6) rfl ?_); refine box_event ?hg (N := 6) ?hd (cs := #[.string (⟨#[]⟩ : ByteArray), .slice none 0 0, .slice none 0 0]) (t := 31) ?hr ?_; (case hd => rfl); (case hg => rfl); (case hr => first | (go_simp; done) | (go_simp; rfl)); intro gb867 hg w25 hbox hb; have n0_ := Aside0.mk (below_step (by repeat (first | (with_reducible first | exact HB.out | apply below_alloc | apply pw_below_drewN | apply below_drew1) | exact HB.out)) hb); have n1_ := Aside0.mk (hbox); have n2_ := Aside0.mk ((by rw [hg]; exact (below_size (by repeat (first | (with_reducible first | exact HB.out | apply below_alloc | apply pw_below_drewN | apply below_drew1) | exact HB.out))) : w.heap.size ≤ gb867)); have n3_ := Aside0.mk ((by rw [hg]; exact (below_size (by repeat (first | (with_reducible first | exact HB.out | apply below_alloc | apply pw_below_drewN | apply below_drew1) | exact HB.out))) : w.heap.size ≤ gb867)); clear HB; have HB := n0_; have BK867 := n1_; have GW867 := n2_; have GE867 := n3_; clear n0_ n1_ n2_ n3_; clear hb hbox hg; have hcz26_0 : w25.cell? ⟨gb867, 0, none⟩ = some (.string (⟨#[]⟩ : ByteArray)) := (blk_cell BK867.out 0).trans rfl; have hcz26_1 : w25.cell? ⟨gb867, 1, none⟩ = some (.slice none 0 0) := (blk_cell BK867.out 1).trans rfl; have hcz26_2 : w25.cell? ⟨gb867, 2, none⟩ = some (.slice none 0 0) := (blk_cell BK867.out 2).trans rfl; have hfz26_0 := blk_frozen BK867.out 0; have hfz26_1 := blk_frozen BK867.out 1; have hfz26_2 := blk_frozen BK867.out 2) | ((with_reducible refine gate_callee (f := 81) rfl ?_); refine goesL_ (some 18) rfl rfl Tryz.func81 (by kernel_rfl) rfl #[.string ((rd_T31 l0 x11_1).f0)] rfl (by (try simp only [List.map_toArray, List.map_cons, List.map_nil]); first | done | rfl | (simp only [List.length_drop, List.length_take]; rfl)) ?_; (with_reducible refine (spec_Dec.calls k1 ((rd_T31 l0 x11_1).f0) t868 true _ A5.out).mono ?_); rintro e w' ⟨rfl, ⟨nd, rfl⟩⟩; refine ⟨_, rfl, ?_⟩))
       have n0_ : Aside0 ((((w25.setCell ⟨gb867, 0, none⟩ (.string ((rd_T31 l0 x11_1).f0))).setCell ⟨gb867, 1, none⟩ (.slice A866_1 ((rd_T31 l0 x11_1).f1).length c866_1)).setCell ⟨gb867, 2, none⟩ (.slice A866_2 ((rd_T31 l0 x11_1).f2).length c866_2)).heap[gb867]? = some (.cells #[.string ((rd_T31 l0 x11_1).f0), .slice A866_1 ((rd_T31 l0 x11_1).f1).length c866_1, .slice A866_2 ((rd_T31 l0 x11_1).f2).length c866_2] 31 (0, 0))) := ⟨by (with_reducible repeat (first | refine blk_drewN ?_ _ | refine blk_drew ?_ | refine blk_alloc ?_ _)); refine blk_put (cs := #[.string ((rd_T31 l0 x11_1).f0), .slice A866_1 ((rd_T31 l0 x11_1).f1).length c866_1, .slice none 0 0]) ?_ 2 _ rfl; (with_reducible repeat (first | refine blk_drewN ?_ _ | refine blk_drew ?_ | refine blk_alloc ?_ _)); refine blk_put (cs := #[.string ((rd_T31 l0 x11_1).f0), .slice none 0 0, .slice none 0 0]) ?_ 1 _ rfl; (with_reducible repeat (first | refine blk_drewN ?_ _ | refine blk_drew ?_ | refine blk_alloc ?_ _)); refine blk_put (cs := #[.string (⟨#[]⟩ : ByteArray), .slice none 0 0, .slice none 0 0]) ?_ 0 _ rfl; (with_reducible repeat (first | refine blk_drewN ?_ _ | refine blk_drew ?_ | refine blk_alloc ?_ _)); exact BK867.out⟩
       have n1_ : Aside0 (Below w.heap.size w (((w25.setCell ⟨gb867, 0, none⟩ (.string ((rd_T31 l0 x11_1).f0))).setCell ⟨gb867, 1, none⟩ (.slice A866_1 ((rd_T31 l0 x11_1).f1).length c866_1)).setCell ⟨gb867, 2, none⟩ (.slice A866_2 ((rd_T31 l0 x11_1).f2).length c866_2))) := ⟨by repeat (first | (with_reducible first | exact HB.out | apply below_alloc | apply pw_below_drewN | apply below_drew1 | refine below_set ?_ GE867.out) | exact HB.out)⟩
       (try clear BK867)
       (try clear HB)
       generalize (((w25.setCell ⟨gb867, 0, none⟩ (.string ((rd_T31 l0 x11_1).f0))).setCell ⟨gb867, 1, none⟩ (.slice A866_1 ((rd_T31 l0 x11_1).f1).length c866_1)).setCell ⟨gb867, 2, none⟩ (.slice A866_2 ((rd_T31 l0 x11_1).f2).length c866_2)) = w27 at n0_ n1_ ⊢
       have BK867 := n0_
       have HB := n1_
       clear n0_ n1_
       (try (rw [drewN_self w27]; generalize hq_ : World.drewN w27 _ = w27; have n0_ : Aside0 (w27.heap[gb867]? = some (.cells #[.string ((rd_T31 l0 x11_1).f0), .slice A866_1 ((rd_T31 l0 x11_1).f1).length c866_1, .slice A866_2 ((rd_T31 l0 x11_1).f2).length c866_2] 31 (0, 0))) := ⟨by rw [← hq_]; exact (by (with_reducible repeat (first | refine blk_drewN ?_ _ | refine blk_drew ?_ | refine blk_alloc ?_ _)); exact BK867.out)⟩; have n1_ : Aside0 (Below w.heap.size w w27) := ⟨by rw [← hq_]; exact (by repeat (first | (with_reducible first | exact HB.out | apply below_alloc | apply pw_below_drewN | apply below_drew1 | refine below_set ?_ GE867.out) | exact HB.out))⟩; clear BK867 HB hq_; have BK867 := n0_; have HB := n1_; clear n0_ n1_))
       have n0_ := Aside0.mk (blk_drew BK867.out)
       have n1_ := Aside0.mk (below_drew1 HB.out)
       clear BK867
       clear HB
       have BK867 := n0_
       have HB := n1_
       clear n0_ n1_
       refine start_ (n := 14) (S := fun w' => w'.cell? ⟨gb867, 0, none⟩ = some (.string ((rd_T31 l0 x11_1).f0)) ∧ w'.cell? ⟨gb867, 1, none⟩ = some (.slice A866_1 ((rd_T31 l0 x11_1).f1).length c866_1) ∧ w'.cell? ⟨gb867, 2, none⟩ = some (.slice A866_2 ((rd_T31 l0 x11_1).f2).length c866_2)) (ds := []) (bb [0, 14]) (by kernel_rfl) rfl rfl ⟨(blk_cell BK867.out 0).trans rfl, (blk_cell BK867.out 1).trans rfl, (blk_cell BK867.out 2).trans rfl⟩ (fun hHeld => ?_); refine with_tabW spec_SchedstatPrint.tab6 spec_SchedstatPrint.bits6 (fun HT_ HW_ => ?_)
       generalize w27.drew = w28 at BK867 HB hHeld ⊢
       refine pure_ (i := 0) (N := some 21) (v := ?_) (a' := ?_) (bb [1, 13]) rfl rfl (any_of HT_.out (by kernel_rfl)) (fun _ _ _ h => h) (Or.inl ⟨by rfl, ?_⟩) ?_ ?_
       rotate_left
       ·intro w'
        go_simp
        with_reducible rfl
       rotate_left
       ·simp only [Act.put, List.setIfInBounds_toArray, List.set_cons_zero, List.set_cons_succ, i64_w, i32_w]
        rfl
       refine pure_ (i := 1) (N := some 22) (v := ?_) (a' := ?_) (bb [2, 12]) rfl rfl (any_of HT_.out (by kernel_rfl)) (fun _ _ _ h => h) (Or.inl ⟨by rfl, ?_⟩) ?_ ?_
       rotate_left
       ·intro w'
        go_simp
        with_reducible rfl
       rotate_left
       ·simp only [Act.put, List.setIfInBounds_toArray, List.set_cons_zero, List.set_cons_succ, i64_w, i32_w]
        rfl
       refine pure_ (i := 2) (N := some 23) (v := ?_) (a' := ?_) (bb [3, 11]) rfl rfl (any_of HT_.out (by kernel_rfl)) (fun _ _ _ h => h) (Or.inl ⟨by rfl, ?_⟩) ?_ ?_
       rotate_left
       ·intro w'
        go_simp
        with_reducible rfl
       rotate_left
       ·simp only [Act.put, List.setIfInBounds_toArray, List.set_cons_zero, List.set_cons_succ, i64_w, i32_w]
        rfl
       refine pure_ (i := 3) (N := some 24) (v := ?_) (a' := ?_) (bb [4, 10]) rfl rfl (any_of HT_.out (by kernel_rfl)) (fun _ _ _ h => h) (Or.inl ⟨by rfl, ?_⟩) ?_ ?_
       rotate_left
       ·intro w'
        go_simp
        with_reducible rfl
       rotate_left
       ·simp only [Act.put, List.setIfInBounds_toArray, List.set_cons_zero, List.set_cons_succ, i64_w, i32_w]
        rfl
       refine pure_ (i := 5) (N := some 26) (v := ?_) (a' := ?_) (bb [4, 1, 1, 8]) rfl rfl (any_of HT_.out (by kernel_rfl)) (fun _ _ _ h => h) (Or.inl ⟨by rfl, ?_⟩) ?_ ?_
       rotate_left
       ·intro w'
        go_simp
        with_reducible rfl
       rotate_left
       ·simp only [Act.put, List.setIfInBounds_toArray, List.set_cons_zero, List.set_cons_succ, i64_w, i32_w]
        rfl
       refine take_ (i := 6) (N := some 27) (v := ?_) (a' := ?_) (bb [4, 1, 2, 7]) rfl rfl (take_ofW HT_.out HW_.out (by kernel_rfl)) (fun _ _ _ h => h) (Or.inl ⟨by rfl, ?_⟩) hHeld ?_ ?_
       rotate_left
       ·rintro w' ⟨s0, s1, s2⟩
        go_simp
        with_reducible rfl
       rotate_left
       ·simp only [Act.put, List.setIfInBounds_toArray, List.set_cons_zero, List.set_cons_succ, i64_w, i32_w]
        rfl
       refine one_ (i := 4) (N := some 25) (bb [7, 7]) rfl rfl (one_of HT_.out (by kernel_rfl)) (by decide) (fun K hK => ?_)
       refine goes_ Tryz.func52 (by kernel_rfl) rfl #[.int .u64 t868] (by rfl) rfl rfl (by (try simp only [List.map_toArray, List.map_cons, List.map_nil]); first | done | rfl | (simp only [List.length_drop, List.length_take]; rfl)) ?_
       with_reducible refine (spec_Text.calls k1 t868 t870 _ A7.out).mono ?_
       rintro e w29 ⟨rfl, hb⟩
       refine ⟨_, rfl, ?_⟩
       have n0_ := Aside0.mk (blk_below (g := gb867) (o := .cells #[.string ((rd_T31 l0 x11_1).f0), .slice A866_1 ((rd_T31 l0 x11_1).f1).length c866_1, .slice A866_2 ((rd_T31 l0 x11_1).f2).length c866_2] 31 (0, 0)) (by (with_reducible repeat (first | refine blk_drewN ?_ _ | refine blk_drew ?_ | refine blk_alloc ?_ _)); exact BK867.out) hb)
       have n1_ := Aside0.mk (below_step (by repeat (first | (with_reducible first | exact HB.out | apply below_alloc | apply pw_below_drewN | apply below_drew1 | refine below_set ?_ GE867.out) | exact HB.out)) hb)
       clear BK867
       clear HB
       have BK867 := n0_
       have HB := n1_
       clear n0_ n1_
       (try clear hb)
       (try clear hb2)
       (try clear hk)
       (try clear hi)
       refine hK.out _ _ ⟨(blk_cell BK867.out 0).trans rfl, (blk_cell BK867.out 1).trans rfl, (blk_cell BK867.out 2).trans rfl⟩ (fun hHeld => ?_)
       clear hK K
       refine norm_ (a' := ?_) ?_ ?_
       rotate_left
       ·show Act.put _ (some 25) _ = _
        simp only [Act.put, List.setIfInBounds_toArray, List.set_cons_zero, List.set_cons_succ, i64_w, i32_w]
        rfl
       refine pure_ (i := 7) (N := some 28) (v := ?_) (a' := ?_) (bb [8, 6]) rfl rfl (any_of HT_.out (by kernel_rfl)) (fun _ _ _ h => h) (Or.inl ⟨by rfl, ?_⟩) ?_ ?_
       rotate_left
       ·intro w'
        go_simp
        with_reducible rfl
       rotate_left
       ·simp only [Act.put, List.setIfInBounds_toArray, List.set_cons_zero, List.set_cons_succ, i64_w, i32_w]
        rfl
       refine pure_ (i := 8) (N := some 29) (v := ?_) (a' := ?_) (bb [9, 5]) rfl rfl (any_of HT_.out (by kernel_rfl)) (fun _ _ _ h => h) (Or.inl ⟨by rfl, ?_⟩) ?_ ?_
       rotate_left
       ·intro w'
        go_simp
        with_reducible rfl
       rotate_left
       ·simp only [Act.put, List.setIfInBounds_toArray, List.set_cons_zero, List.set_cons_succ, i64_w, i32_w]
        rfl
       refine pure_ (i := 9) (N := some 30) (v := ?_) (a' := ?_) (bb [10, 4]) rfl rfl (any_of HT_.out (by kernel_rfl)) (fun _ _ _ h => h) (Or.inl ⟨by rfl, ?_⟩) ?_ ?_
       rotate_left
       ·intro w'
        go_simp
        with_reducible rfl
       rotate_left
       ·simp only [Act.put, List.setIfInBounds_toArray, List.set_cons_zero, List.set_cons_succ, i64_w, i32_w]
        rfl
       refine take_ (i := 10) (N := some 31) (v := ?_) (a' := ?_) (bb [11, 3]) rfl rfl (take_ofW HT_.out HW_.out (by kernel_rfl)) (fun _ _ _ h => h) (Or.inl ⟨by rfl, ?_⟩) hHeld ?_ ?_
       rotate_left
       ·rintro w' ⟨s0, s1, s2⟩
        go_simp
        with_reducible rfl
       rotate_left
       ·simp only [Act.put, List.setIfInBounds_toArray, List.set_cons_zero, List.set_cons_succ, i64_w, i32_w]
        rfl
       refine one_ (i := 11) (N := some 32) (bb [12, 2]) rfl rfl (one_of HT_.out (by kernel_rfl)) (by decide) (fun K hK => ?_)
       refine goes_ Tryz.func49 (by kernel_rfl) rfl #[.agg #[.string ((rd_T31 l0 x11_1).f0), .slice A866_1 ((rd_T31 l0 x11_1).f1).length c866_1, .slice A866_2 ((rd_T31 l0 x11_1).f2).length c866_2], .int .i64 9, .int .i64 0] (by rfl) rfl rfl (by (try simp only [List.map_toArray, List.map_cons, List.map_nil]); first | done | rfl | (simp only [List.length_drop, List.length_take]; rfl)) ?_
       with_reducible refine (spec_sized.calls ((rd_T31 l0 x11_1).f0) _ _ ((rd_T31 l0 x11_1).f1) _ _ ((rd_T31 l0 x11_1).f2) 9 0 false _ ?side1 ?side2 ?side3 ?side4 A9.out).mono ?_
       (case side1 => repeat (first | exact (Kd.C_below HR866_1.out HB.out) | (with_reducible refine Kd.C_alloc ?_ _) | (with_reducible refine Kd.C_drewN ?_ _) | (with_reducible refine Kd.C_drew ?_)))
       (case side2 => exact HC866_1.out)
       (case side3 => repeat (first | exact (Kd.C_below HR866_2.out HB.out) | (with_reducible refine Kd.C_alloc ?_ _) | (with_reducible refine Kd.C_drewN ?_ _) | (with_reducible refine Kd.C_drew ?_)))
       (case side4 => exact HC866_2.out)
       rintro e w30 ⟨rfl, hb⟩
       refine ⟨_, rfl, ?_⟩
       have n0_ := Aside0.mk (blk_below (g := gb867) (o := .cells #[.string ((rd_T31 l0 x11_1).f0), .slice A866_1 ((rd_T31 l0 x11_1).f1).length c866_1, .slice A866_2 ((rd_T31 l0 x11_1).f2).length c866_2] 31 (0, 0)) (by (with_reducible repeat (first | refine blk_drewN ?_ _ | refine blk_drew ?_ | refine blk_alloc ?_ _)); exact BK867.out) hb)
       have n1_ := Aside0.mk (below_step (by repeat (first | (with_reducible first | exact HB.out | apply below_alloc | apply pw_below_drewN | apply below_drew1 | refine below_set ?_ GE867.out) | exact HB.out)) hb)
       clear BK867
       clear HB
       have BK867 := n0_
       have HB := n1_
       clear n0_ n1_
       (try clear hb)
       (try clear hb2)
       (try clear hk)
       (try clear hi)
       refine hK.out _ _ ⟨(blk_cell BK867.out 0).trans rfl, (blk_cell BK867.out 1).trans rfl, (blk_cell BK867.out 2).trans rfl⟩ (fun hHeld => ?_)
       clear hK K
       refine norm_ (a' := ?_) ?_ ?_
       rotate_left
       ·show Act.put _ (some 32) _ = _
        simp only [Act.put, List.setIfInBounds_toArray, List.set_cons_zero, List.set_cons_succ, i64_w, i32_w]
        rfl
       refine pure_ (i := 12) (N := some 33) (v := ?_) (a' := ?_) (bb [13, 1]) rfl rfl (any_of HT_.out (by kernel_rfl)) (fun _ _ _ h => h) (Or.inl ⟨by rfl, ?_⟩) ?_ ?_
       rotate_left
       ·intro w'
        go_simp
        with_reducible rfl
       rotate_left
       ·simp only [Act.put, List.setIfInBounds_toArray, List.set_cons_zero, List.set_cons_succ, i64_w, i32_w]
        rfl
       refine pure_ (i := 13) (N := some 34) (v := ?_) (a' := ?_) (bb [14]) rfl rfl (any_of HT_.out (by kernel_rfl)) (fun _ _ _ h => h) (Or.inl ⟨by rfl, ?_⟩) ?_ ?_
       rotate_left
       ·intro w'
        go_simp
        with_reducible rfl
       rotate_left
       ·simp only [Act.put, List.setIfInBounds_toArray, List.set_cons_zero, List.set_cons_succ, i64_w, i32_w]
        rfl
       refine done_ (done_of HT_.out (by kernel_rfl)) ?_
       try go_wp2
       go_ret2
       exact ⟨by first | rfl | (simp [errW_none, errW_some] <;> rfl) | (simp [*, errW_none, errW_some] <;> rfl), by repeat (first | (with_reducible first | exact HB.out | apply below_alloc | apply pw_below_drewN | apply below_drew1 | refine below_set ?_ GE867.out) | exact HB.out)⟩
     ·rw [if_neg c8] at H
      have c8b0 : (t870.toList == ((rd_T31 l0 x11_1).f0).toList) = false := beq_eq_false_iff_ne.mpr c8
      have c8b1 : (t870.toList != ((rd_T31 l0 x11_1).f0).toList) = true := bne_iff_ne.mpr c8
      simp only [Option.some.injEq, Prod.mk.injEq] at H
      obtain ⟨rfl, rfl⟩ := H
      have p866 : 0 ≤ (x11_1 : Int) := of_decide_eq_true (by first | (with_reducible assumption) | assumption)
      have q866 : x11_1 < (l0.length : Int) := of_decide_eq_true (by first | (with_reducible assumption) | assumption)
      obtain ⟨ad866, A866_1, c866_1, A866_2, c866_2, e866, hx866_0, hx866_1, hx866_2, hl866_1, hi866_1, hl866_2, hi866_2⟩ := at_T31 HR0.out x11_1 p866 q866
      cases e866
      replace hx866_0 := (HB.out.cell (World.block_lt_of_cell? w _ hx866_0)).trans hx866_0
      replace hx866_1 := (HB.out.cell (World.block_lt_of_cell? w _ hx866_1)).trans hx866_1
      replace hx866_2 := (HB.out.cell (World.block_lt_of_cell? w _ hx866_2)).trans hx866_2
      have HR866_1 := Aside0.mk hi866_1
      have HC866_1 := Aside0.mk hl866_1
      clear hi866_1 hl866_1
      have HR866_2 := Aside0.mk hi866_2
      have HC866_2 := Aside0.mk hl866_2
      clear hi866_2 hl866_2
      replace p866 := eq_true p866
      replace q866 := eq_true q866
      try go_wp2_with (first | ((with_reducible refine gate_dst (N := 6) rfl ?_); refine box_event ?hg (N := 6) ?hd (cs := #[.string (⟨#[]⟩ : ByteArray), .slice none 0 0, .slice none 0 0]) (t := 31) ?hr ?_; (case hd => rfl); (case hg => rfl); (case hr => first | (go_simp; done) | (go_simp; rfl)); intro gb867 hg w31 hbox hb; have n0_ := Aside0.mk (below_step (by repeat (first | (with_reducible first | exact HB.out | apply below_alloc | apply pw_below_drewN | apply below_drew1) | exact HB.out)) hb); have n1_ := Aside0.mk (hbox); have n2_ := Aside0.mk ((by rw [hg]; exact (below_size (by repeat (first | (with_reducible first | exact HB.out | apply below_alloc | apply pw_below_drewN | apply below_drew1) | exact HB.out))) : w.heap.size ≤ gb867)); have n3_ := Aside0.mk ((by rw [hg]; exact (below_size (by repeat (first | (with_reducible first | exact HB.out | apply below_alloc | apply pw_below_drewN | apply below_drew1) | exact HB.out))) : w.heap.size ≤ gb867)); clear HB; have HB := n0_; have BK867 := n1_; have GW867 := n2_; have GE867 := n3_; clear n0_ n1_ n2_ n3_; clear hb hbox hg; have hcz32_0 : w31.cell? ⟨gb867, 0, none⟩ = some (.string (⟨#[]⟩ : ByteArray)) := (blk_cell BK867.out 0).trans rfl; have hcz32_1 : w31.cell? ⟨gb867, 1, none⟩ = some (.slice none 0 0) := (blk_cell BK867.out 1).trans rfl; have hcz32_2 : w31.cell? ⟨gb867, 2, none⟩ = some (.slice none 0 0) := (blk_cell BK867.out 2).trans rfl; have hfz32_0 := blk_frozen BK867.out 0; have hfz32_1 := blk_frozen BK867.out 1; have hfz32_2 := blk_frozen BK867.out 2) | ((with_reducible refine gate_callee (f := 81) rfl ?_); refine goesL_ (some 18) rfl rfl Tryz.func81 (by kernel_rfl) rfl #[.string ((rd_T31 l0 x11_1).f0)] rfl (by (try simp only [List.map_toArray, List.map_cons, List.map_nil]); first | done | rfl | (simp only [List.length_drop, List.length_take]; rfl)) ?_; (with_reducible refine (spec_Dec.calls k1 ((rd_T31 l0 x11_1).f0) t868 true _ A5.out).mono ?_); rintro e w' ⟨rfl, ⟨nd, rfl⟩⟩; refine ⟨_, rfl, ?_⟩))
      have n0_ : Aside0 ((((w31.setCell ⟨gb867, 0, none⟩ (.string ((rd_T31 l0 x11_1).f0))).setCell ⟨gb867, 1, none⟩ (.slice A866_1 ((rd_T31 l0 x11_1).f1).length c866_1)).setCell ⟨gb867, 2, none⟩ (.slice A866_2 ((rd_T31 l0 x11_1).f2).length c866_2)).heap[gb867]? = some (.cells #[.string ((rd_T31 l0 x11_1).f0), .slice A866_1 ((rd_T31 l0 x11_1).f1).length c866_1, .slice A866_2 ((rd_T31 l0 x11_1).f2).length c866_2] 31 (0, 0))) := ⟨by (with_reducible repeat (first | refine blk_drewN ?_ _ | refine blk_drew ?_ | refine blk_alloc ?_ _)); refine blk_put (cs := #[.string ((rd_T31 l0 x11_1).f0), .slice A866_1 ((rd_T31 l0 x11_1).f1).length c866_1, .slice none 0 0]) ?_ 2 _ rfl; (with_reducible repeat (first | refine blk_drewN ?_ _ | refine blk_drew ?_ | refine blk_alloc ?_ _)); refine blk_put (cs := #[.string ((rd_T31 l0 x11_1).f0), .slice none 0 0, .slice none 0 0]) ?_ 1 _ rfl; (with_reducible repeat (first | refine blk_drewN ?_ _ | refine blk_drew ?_ | refine blk_alloc ?_ _)); refine blk_put (cs := #[.string (⟨#[]⟩ : ByteArray), .slice none 0 0, .slice none 0 0]) ?_ 0 _ rfl; (with_reducible repeat (first | refine blk_drewN ?_ _ | refine blk_drew ?_ | refine blk_alloc ?_ _)); exact BK867.out⟩
      have n1_ : Aside0 (Below w.heap.size w (((w31.setCell ⟨gb867, 0, none⟩ (.string ((rd_T31 l0 x11_1).f0))).setCell ⟨gb867, 1, none⟩ (.slice A866_1 ((rd_T31 l0 x11_1).f1).length c866_1)).setCell ⟨gb867, 2, none⟩ (.slice A866_2 ((rd_T31 l0 x11_1).f2).length c866_2))) := ⟨by repeat (first | (with_reducible first | exact HB.out | apply below_alloc | apply pw_below_drewN | apply below_drew1 | refine below_set ?_ GE867.out) | exact HB.out)⟩
      (try clear BK867)
      (try clear HB)
      generalize (((w31.setCell ⟨gb867, 0, none⟩ (.string ((rd_T31 l0 x11_1).f0))).setCell ⟨gb867, 1, none⟩ (.slice A866_1 ((rd_T31 l0 x11_1).f1).length c866_1)).setCell ⟨gb867, 2, none⟩ (.slice A866_2 ((rd_T31 l0 x11_1).f2).length c866_2)) = w33 at n0_ n1_ ⊢
      have BK867 := n0_
      have HB := n1_
      clear n0_ n1_
      (try (rw [drewN_self w33]; generalize hq_ : World.drewN w33 _ = w33; have n0_ : Aside0 (w33.heap[gb867]? = some (.cells #[.string ((rd_T31 l0 x11_1).f0), .slice A866_1 ((rd_T31 l0 x11_1).f1).length c866_1, .slice A866_2 ((rd_T31 l0 x11_1).f2).length c866_2] 31 (0, 0))) := ⟨by rw [← hq_]; exact (by (with_reducible repeat (first | refine blk_drewN ?_ _ | refine blk_drew ?_ | refine blk_alloc ?_ _)); exact BK867.out)⟩; have n1_ : Aside0 (Below w.heap.size w w33) := ⟨by rw [← hq_]; exact (by repeat (first | (with_reducible first | exact HB.out | apply below_alloc | apply pw_below_drewN | apply below_drew1 | refine below_set ?_ GE867.out) | exact HB.out))⟩; clear BK867 HB hq_; have BK867 := n0_; have HB := n1_; clear n0_ n1_))
      have n0_ := Aside0.mk (blk_drew BK867.out)
      have n1_ := Aside0.mk (below_drew1 HB.out)
      clear BK867
      clear HB
      have BK867 := n0_
      have HB := n1_
      clear n0_ n1_
      refine start_ (n := 14) (S := fun w' => w'.cell? ⟨gb867, 0, none⟩ = some (.string ((rd_T31 l0 x11_1).f0)) ∧ w'.cell? ⟨gb867, 1, none⟩ = some (.slice A866_1 ((rd_T31 l0 x11_1).f1).length c866_1) ∧ w'.cell? ⟨gb867, 2, none⟩ = some (.slice A866_2 ((rd_T31 l0 x11_1).f2).length c866_2)) (ds := []) (bb [0, 14]) (by kernel_rfl) rfl rfl ⟨(blk_cell BK867.out 0).trans rfl, (blk_cell BK867.out 1).trans rfl, (blk_cell BK867.out 2).trans rfl⟩ (fun hHeld => ?_); refine with_tabW spec_SchedstatPrint.tab6 spec_SchedstatPrint.bits6 (fun HT_ HW_ => ?_)
      generalize w33.drew = w34 at BK867 HB hHeld ⊢
      refine pure_ (i := 0) (N := some 21) (v := ?_) (a' := ?_) (bb [1, 13]) rfl rfl (any_of HT_.out (by kernel_rfl)) (fun _ _ _ h => h) (Or.inl ⟨by rfl, ?_⟩) ?_ ?_
      rotate_left
      ·intro w'
       go_simp
       with_reducible rfl
      rotate_left
      ·simp only [Act.put, List.setIfInBounds_toArray, List.set_cons_zero, List.set_cons_succ, i64_w, i32_w]
       rfl
      refine pure_ (i := 1) (N := some 22) (v := ?_) (a' := ?_) (bb [2, 12]) rfl rfl (any_of HT_.out (by kernel_rfl)) (fun _ _ _ h => h) (Or.inl ⟨by rfl, ?_⟩) ?_ ?_
      rotate_left
      ·intro w'
       go_simp
       with_reducible rfl
      rotate_left
      ·simp only [Act.put, List.setIfInBounds_toArray, List.set_cons_zero, List.set_cons_succ, i64_w, i32_w]
       rfl
      refine pure_ (i := 2) (N := some 23) (v := ?_) (a' := ?_) (bb [3, 11]) rfl rfl (any_of HT_.out (by kernel_rfl)) (fun _ _ _ h => h) (Or.inl ⟨by rfl, ?_⟩) ?_ ?_
      rotate_left
      ·intro w'
       go_simp
       with_reducible rfl
      rotate_left
      ·simp only [Act.put, List.setIfInBounds_toArray, List.set_cons_zero, List.set_cons_succ, i64_w, i32_w]
       rfl
      refine pure_ (i := 3) (N := some 24) (v := ?_) (a' := ?_) (bb [4, 10]) rfl rfl (any_of HT_.out (by kernel_rfl)) (fun _ _ _ h => h) (Or.inl ⟨by rfl, ?_⟩) ?_ ?_
      rotate_left
      ·intro w'
       go_simp
       with_reducible rfl
      rotate_left
      ·simp only [Act.put, List.setIfInBounds_toArray, List.set_cons_zero, List.set_cons_succ, i64_w, i32_w]
       rfl
      refine pure_ (i := 5) (N := some 26) (v := ?_) (a' := ?_) (bb [4, 1, 1, 8]) rfl rfl (any_of HT_.out (by kernel_rfl)) (fun _ _ _ h => h) (Or.inl ⟨by rfl, ?_⟩) ?_ ?_
      rotate_left
      ·intro w'
       go_simp
       with_reducible rfl
      rotate_left
      ·simp only [Act.put, List.setIfInBounds_toArray, List.set_cons_zero, List.set_cons_succ, i64_w, i32_w]
       rfl
      refine take_ (i := 6) (N := some 27) (v := ?_) (a' := ?_) (bb [4, 1, 2, 7]) rfl rfl (take_ofW HT_.out HW_.out (by kernel_rfl)) (fun _ _ _ h => h) (Or.inl ⟨by rfl, ?_⟩) hHeld ?_ ?_
      rotate_left
      ·rintro w' ⟨s0, s1, s2⟩
       go_simp
       with_reducible rfl
      rotate_left
      ·simp only [Act.put, List.setIfInBounds_toArray, List.set_cons_zero, List.set_cons_succ, i64_w, i32_w]
       rfl
      refine one_ (i := 4) (N := some 25) (bb [7, 7]) rfl rfl (one_of HT_.out (by kernel_rfl)) (by decide) (fun K hK => ?_)
      refine goes_ Tryz.func52 (by kernel_rfl) rfl #[.int .u64 t868] (by rfl) rfl rfl (by (try simp only [List.map_toArray, List.map_cons, List.map_nil]); first | done | rfl | (simp only [List.length_drop, List.length_take]; rfl)) ?_
      with_reducible refine (spec_Text.calls k1 t868 t870 _ A7.out).mono ?_
      rintro e w35 ⟨rfl, hb⟩
      refine ⟨_, rfl, ?_⟩
      have n0_ := Aside0.mk (blk_below (g := gb867) (o := .cells #[.string ((rd_T31 l0 x11_1).f0), .slice A866_1 ((rd_T31 l0 x11_1).f1).length c866_1, .slice A866_2 ((rd_T31 l0 x11_1).f2).length c866_2] 31 (0, 0)) (by (with_reducible repeat (first | refine blk_drewN ?_ _ | refine blk_drew ?_ | refine blk_alloc ?_ _)); exact BK867.out) hb)
      have n1_ := Aside0.mk (below_step (by repeat (first | (with_reducible first | exact HB.out | apply below_alloc | apply pw_below_drewN | apply below_drew1 | refine below_set ?_ GE867.out) | exact HB.out)) hb)
      clear BK867
      clear HB
      have BK867 := n0_
      have HB := n1_
      clear n0_ n1_
      (try clear hb)
      (try clear hb2)
      (try clear hk)
      (try clear hi)
      refine hK.out _ _ ⟨(blk_cell BK867.out 0).trans rfl, (blk_cell BK867.out 1).trans rfl, (blk_cell BK867.out 2).trans rfl⟩ (fun hHeld => ?_)
      clear hK K
      refine norm_ (a' := ?_) ?_ ?_
      rotate_left
      ·show Act.put _ (some 25) _ = _
       simp only [Act.put, List.setIfInBounds_toArray, List.set_cons_zero, List.set_cons_succ, i64_w, i32_w]
       rfl
      refine pure_ (i := 7) (N := some 28) (v := ?_) (a' := ?_) (bb [8, 6]) rfl rfl (any_of HT_.out (by kernel_rfl)) (fun _ _ _ h => h) (Or.inl ⟨by rfl, ?_⟩) ?_ ?_
      rotate_left
      ·intro w'
       go_simp
       with_reducible rfl
      rotate_left
      ·simp only [Act.put, List.setIfInBounds_toArray, List.set_cons_zero, List.set_cons_succ, i64_w, i32_w]
       rfl
      refine pure_ (i := 8) (N := some 29) (v := ?_) (a' := ?_) (bb [9, 5]) rfl rfl (any_of HT_.out (by kernel_rfl)) (fun _ _ _ h => h) (Or.inl ⟨by rfl, ?_⟩) ?_ ?_
      rotate_left
      ·intro w'
       go_simp
       with_reducible rfl
      rotate_left
      ·simp only [Act.put, List.setIfInBounds_toArray, List.set_cons_zero, List.set_cons_succ, i64_w, i32_w]
       rfl
      refine pure_ (i := 9) (N := some 30) (v := ?_) (a' := ?_) (bb [10, 4]) rfl rfl (any_of HT_.out (by kernel_rfl)) (fun _ _ _ h => h) (Or.inl ⟨by rfl, ?_⟩) ?_ ?_
      rotate_left
      ·intro w'
       go_simp
       with_reducible rfl
      rotate_left
      ·simp only [Act.put, List.setIfInBounds_toArray, List.set_cons_zero, List.set_cons_succ, i64_w, i32_w]
       rfl
      refine pure_ (i := 10) (N := some 31) (v := undef) (a' := ?_) (bb [11, 3]) rfl rfl (any_of HT_.out (by kernel_rfl)) (fun _ _ _ h => h) (Or.inr ⟨by rfl, rfl⟩) ?_ ?_
      rotate_left
      ·simp only [Act.put, List.setIfInBounds_toArray, List.set_cons_zero, List.set_cons_succ, i64_w, i32_w]
       rfl
      refine pure_ (i := 11) (N := some 32) (v := undef) (a' := ?_) (bb [12, 2]) rfl rfl (any_of HT_.out (by kernel_rfl)) (fun _ _ _ h => h) (Or.inr ⟨by rfl, rfl⟩) ?_ ?_
      rotate_left
      ·simp only [Act.put, List.setIfInBounds_toArray, List.set_cons_zero, List.set_cons_succ, i64_w, i32_w]
       rfl
      refine pure_ (i := 12) (N := some 33) (v := undef) (a' := ?_) (bb [13, 1]) rfl rfl (any_of HT_.out (by kernel_rfl)) (fun _ _ _ h => h) (Or.inr ⟨by rfl, rfl⟩) ?_ ?_
      rotate_left
      ·simp only [Act.put, List.setIfInBounds_toArray, List.set_cons_zero, List.set_cons_succ, i64_w, i32_w]
       rfl
      refine pure_ (i := 13) (N := some 34) (v := ?_) (a' := ?_) (bb [14]) rfl rfl (any_of HT_.out (by kernel_rfl)) (fun _ _ _ h => h) (Or.inl ⟨by rfl, ?_⟩) ?_ ?_
      rotate_left
      ·intro w'
       go_simp
       with_reducible rfl
      rotate_left
      ·simp only [Act.put, List.setIfInBounds_toArray, List.set_cons_zero, List.set_cons_succ, i64_w, i32_w]
       rfl
      refine done_ (done_of HT_.out (by kernel_rfl)) ?_
      try go_wp2
      go_ret2
      exact ⟨by first | rfl | (simp [errW_none, errW_some] <;> rfl) | (simp [*, errW_none, errW_some] <;> rfl), by repeat (first | (with_reducible first | exact HB.out | apply below_alloc | apply pw_below_drewN | apply below_drew1 | refine below_set ?_ GE867.out) | exact HB.out)⟩
    ·replace c6 := Bool.eq_false_iff.mpr c6
     subst c6
     have H1 : (some ((⟨#[]⟩ : ByteArray), 2)) = some (r1, r2) := by rw [if_neg (show ¬ (false = true) by decide)] at H; exact H
     clear H
     have H := H1
     clear H1
     simp only [Option.some.injEq, Prod.mk.injEq] at H
     obtain ⟨rfl, rfl⟩ := H
     have p866 : 0 ≤ (x11_1 : Int) := of_decide_eq_true (by first | (with_reducible assumption) | assumption)
     have q866 : x11_1 < (l0.length : Int) := of_decide_eq_true (by first | (with_reducible assumption) | assumption)
     obtain ⟨ad866, A866_1, c866_1, A866_2, c866_2, e866, hx866_0, hx866_1, hx866_2, hl866_1, hi866_1, hl866_2, hi866_2⟩ := at_T31 HR0.out x11_1 p866 q866
     cases e866
     replace hx866_0 := (HB.out.cell (World.block_lt_of_cell? w _ hx866_0)).trans hx866_0
     replace hx866_1 := (HB.out.cell (World.block_lt_of_cell? w _ hx866_1)).trans hx866_1
     replace hx866_2 := (HB.out.cell (World.block_lt_of_cell? w _ hx866_2)).trans hx866_2
     have HR866_1 := Aside0.mk hi866_1
     have HC866_1 := Aside0.mk hl866_1
     clear hi866_1 hl866_1
     have HR866_2 := Aside0.mk hi866_2
     have HC866_2 := Aside0.mk hl866_2
     clear hi866_2 hl866_2
     replace p866 := eq_true p866
     replace q866 := eq_true q866
     try go_wp2_with (first | ((with_reducible refine gate_dst (N := 6) rfl ?_); refine box_event ?hg (N := 6) ?hd (cs := #[.string (⟨#[]⟩ : ByteArray), .slice none 0 0, .slice none 0 0]) (t := 31) ?hr ?_; (case hd => rfl); (case hg => rfl); (case hr => first | (go_simp; done) | (go_simp; rfl)); intro gb867 hg w36 hbox hb; have n0_ := Aside0.mk (below_step (by repeat (first | (with_reducible first | exact HB.out | apply below_alloc | apply pw_below_drewN | apply below_drew1) | exact HB.out)) hb); have n1_ := Aside0.mk (hbox); have n2_ := Aside0.mk ((by rw [hg]; exact (below_size (by repeat (first | (with_reducible first | exact HB.out | apply below_alloc | apply pw_below_drewN | apply below_drew1) | exact HB.out))) : w.heap.size ≤ gb867)); have n3_ := Aside0.mk ((by rw [hg]; exact (below_size (by repeat (first | (with_reducible first | exact HB.out | apply below_alloc | apply pw_below_drewN | apply below_drew1) | exact HB.out))) : w.heap.size ≤ gb867)); clear HB; have HB := n0_; have BK867 := n1_; have GW867 := n2_; have GE867 := n3_; clear n0_ n1_ n2_ n3_; clear hb hbox hg; have hcz37_0 : w36.cell? ⟨gb867, 0, none⟩ = some (.string (⟨#[]⟩ : ByteArray)) := (blk_cell BK867.out 0).trans rfl; have hcz37_1 : w36.cell? ⟨gb867, 1, none⟩ = some (.slice none 0 0) := (blk_cell BK867.out 1).trans rfl; have hcz37_2 : w36.cell? ⟨gb867, 2, none⟩ = some (.slice none 0 0) := (blk_cell BK867.out 2).trans rfl; have hfz37_0 := blk_frozen BK867.out 0; have hfz37_1 := blk_frozen BK867.out 1; have hfz37_2 := blk_frozen BK867.out 2) | ((with_reducible refine gate_callee (f := 81) rfl ?_); refine goesL_ (some 18) rfl rfl Tryz.func81 (by kernel_rfl) rfl #[.string ((rd_T31 l0 x11_1).f0)] rfl (by (try simp only [List.map_toArray, List.map_cons, List.map_nil]); first | done | rfl | (simp only [List.length_drop, List.length_take]; rfl)) ?_; (with_reducible refine (spec_Dec.calls k1 ((rd_T31 l0 x11_1).f0) t868 false _ A5.out).mono ?_); rintro e w' ⟨rfl, ⟨nd, rfl⟩⟩; refine ⟨_, rfl, ?_⟩))
     have n0_ : Aside0 ((((w36.setCell ⟨gb867, 0, none⟩ (.string ((rd_T31 l0 x11_1).f0))).setCell ⟨gb867, 1, none⟩ (.slice A866_1 ((rd_T31 l0 x11_1).f1).length c866_1)).setCell ⟨gb867, 2, none⟩ (.slice A866_2 ((rd_T31 l0 x11_1).f2).length c866_2)).heap[gb867]? = some (.cells #[.string ((rd_T31 l0 x11_1).f0), .slice A866_1 ((rd_T31 l0 x11_1).f1).length c866_1, .slice A866_2 ((rd_T31 l0 x11_1).f2).length c866_2] 31 (0, 0))) := ⟨by (with_reducible repeat (first | refine blk_drewN ?_ _ | refine blk_drew ?_ | refine blk_alloc ?_ _)); refine blk_put (cs := #[.string ((rd_T31 l0 x11_1).f0), .slice A866_1 ((rd_T31 l0 x11_1).f1).length c866_1, .slice none 0 0]) ?_ 2 _ rfl; (with_reducible repeat (first | refine blk_drewN ?_ _ | refine blk_drew ?_ | refine blk_alloc ?_ _)); refine blk_put (cs := #[.string ((rd_T31 l0 x11_1).f0), .slice none 0 0, .slice none 0 0]) ?_ 1 _ rfl; (with_reducible repeat (first | refine blk_drewN ?_ _ | refine blk_drew ?_ | refine blk_alloc ?_ _)); refine blk_put (cs := #[.string (⟨#[]⟩ : ByteArray), .slice none 0 0, .slice none 0 0]) ?_ 0 _ rfl; (with_reducible repeat (first | refine blk_drewN ?_ _ | refine blk_drew ?_ | refine blk_alloc ?_ _)); exact BK867.out⟩
     have n1_ : Aside0 (Below w.heap.size w (((w36.setCell ⟨gb867, 0, none⟩ (.string ((rd_T31 l0 x11_1).f0))).setCell ⟨gb867, 1, none⟩ (.slice A866_1 ((rd_T31 l0 x11_1).f1).length c866_1)).setCell ⟨gb867, 2, none⟩ (.slice A866_2 ((rd_T31 l0 x11_1).f2).length c866_2))) := ⟨by repeat (first | (with_reducible first | exact HB.out | apply below_alloc | apply pw_below_drewN | apply below_drew1 | refine below_set ?_ GE867.out) | exact HB.out)⟩
     (try clear BK867)
     (try clear HB)
     generalize (((w36.setCell ⟨gb867, 0, none⟩ (.string ((rd_T31 l0 x11_1).f0))).setCell ⟨gb867, 1, none⟩ (.slice A866_1 ((rd_T31 l0 x11_1).f1).length c866_1)).setCell ⟨gb867, 2, none⟩ (.slice A866_2 ((rd_T31 l0 x11_1).f2).length c866_2)) = w38 at n0_ n1_ ⊢
     have BK867 := n0_
     have HB := n1_
     clear n0_ n1_
     (try (rw [drewN_self w38]; generalize hq_ : World.drewN w38 _ = w38; have n0_ : Aside0 (w38.heap[gb867]? = some (.cells #[.string ((rd_T31 l0 x11_1).f0), .slice A866_1 ((rd_T31 l0 x11_1).f1).length c866_1, .slice A866_2 ((rd_T31 l0 x11_1).f2).length c866_2] 31 (0, 0))) := ⟨by rw [← hq_]; exact (by (with_reducible repeat (first | refine blk_drewN ?_ _ | refine blk_drew ?_ | refine blk_alloc ?_ _)); exact BK867.out)⟩; have n1_ : Aside0 (Below w.heap.size w w38) := ⟨by rw [← hq_]; exact (by repeat (first | (with_reducible first | exact HB.out | apply below_alloc | apply pw_below_drewN | apply below_drew1 | refine below_set ?_ GE867.out) | exact HB.out))⟩; clear BK867 HB hq_; have BK867 := n0_; have HB := n1_; clear n0_ n1_))
     have n0_ := Aside0.mk (blk_drew BK867.out)
     have n1_ := Aside0.mk (below_drew1 HB.out)
     clear BK867
     clear HB
     have BK867 := n0_
     have HB := n1_
     clear n0_ n1_
     refine start_ (n := 14) (S := fun w' => True) (ds := []) (bb [0, 14]) (by kernel_rfl) rfl rfl trivial (fun hHeld => ?_); refine with_tabW spec_SchedstatPrint.tab6 spec_SchedstatPrint.bits6 (fun HT_ HW_ => ?_)
     generalize w38.drew = w39 at BK867 HB hHeld ⊢
     refine pure_ (i := 0) (N := some 21) (v := ?_) (a' := ?_) (bb [1, 13]) rfl rfl (any_of HT_.out (by kernel_rfl)) (fun _ _ _ h => h) (Or.inl ⟨by rfl, ?_⟩) ?_ ?_
     rotate_left
     ·intro w'
      go_simp
      with_reducible rfl
     rotate_left
     ·simp only [Act.put, List.setIfInBounds_toArray, List.set_cons_zero, List.set_cons_succ, i64_w, i32_w]
      rfl
     refine pure_ (i := 1) (N := some 22) (v := ?_) (a' := ?_) (bb [2, 12]) rfl rfl (any_of HT_.out (by kernel_rfl)) (fun _ _ _ h => h) (Or.inl ⟨by rfl, ?_⟩) ?_ ?_
     rotate_left
     ·intro w'
      go_simp
      with_reducible rfl
     rotate_left
     ·simp only [Act.put, List.setIfInBounds_toArray, List.set_cons_zero, List.set_cons_succ, i64_w, i32_w]
      rfl
     refine pure_ (i := 2) (N := some 23) (v := ?_) (a' := ?_) (bb [3, 11]) rfl rfl (any_of HT_.out (by kernel_rfl)) (fun _ _ _ h => h) (Or.inl ⟨by rfl, ?_⟩) ?_ ?_
     rotate_left
     ·intro w'
      go_simp
      with_reducible rfl
     rotate_left
     ·simp only [Act.put, List.setIfInBounds_toArray, List.set_cons_zero, List.set_cons_succ, i64_w, i32_w]
      rfl
     refine pure_ (i := 3) (N := some 24) (v := undef) (a' := ?_) (bb [4, 10]) rfl rfl (any_of HT_.out (by kernel_rfl)) (fun _ _ _ h => h) (Or.inr ⟨by rfl, rfl⟩) ?_ ?_
     rotate_left
     ·simp only [Act.put, List.setIfInBounds_toArray, List.set_cons_zero, List.set_cons_succ, i64_w, i32_w]
      rfl
     refine pure_ (i := 4) (N := some 25) (v := undef) (a' := ?_) (bb [5, 9]) rfl rfl (any_of HT_.out (by kernel_rfl)) (fun _ _ _ h => h) (Or.inr ⟨by rfl, rfl⟩) ?_ ?_
     rotate_left
     ·simp only [Act.put, List.setIfInBounds_toArray, List.set_cons_zero, List.set_cons_succ, i64_w, i32_w]
      rfl
     refine pure_ (i := 5) (N := some 26) (v := undef) (a' := ?_) (bb [6, 8]) rfl rfl (any_of HT_.out (by kernel_rfl)) (fun _ _ _ h => h) (Or.inr ⟨by rfl, rfl⟩) ?_ ?_
     rotate_left
     ·simp only [Act.put, List.setIfInBounds_toArray, List.set_cons_zero, List.set_cons_succ, i64_w, i32_w]
      rfl
     refine pure_ (i := 6) (N := some 27) (v := undef) (a' := ?_) (bb [7, 7]) rfl rfl (any_of HT_.out (by kernel_rfl)) (fun _ _ _ h => h) (Or.inr ⟨by rfl, rfl⟩) ?_ ?_
     rotate_left
     ·simp only [Act.put, List.setIfInBounds_toArray, List.set_cons_zero, List.set_cons_succ, i64_w, i32_w]
      rfl
     refine pure_ (i := 7) (N := some 28) (v := undef) (a' := ?_) (bb [8, 6]) rfl rfl (any_of HT_.out (by kernel_rfl)) (fun _ _ _ h => h) (Or.inr ⟨by rfl, rfl⟩) ?_ ?_
     rotate_left
     ·simp only [Act.put, List.setIfInBounds_toArray, List.set_cons_zero, List.set_cons_succ, i64_w, i32_w]
      rfl
     refine pure_ (i := 8) (N := some 29) (v := ?_) (a' := ?_) (bb [9, 5]) rfl rfl (any_of HT_.out (by kernel_rfl)) (fun _ _ _ h => h) (Or.inl ⟨by rfl, ?_⟩) ?_ ?_
     rotate_left
     ·intro w'
      go_simp
      with_reducible rfl
     rotate_left
     ·simp only [Act.put, List.setIfInBounds_toArray, List.set_cons_zero, List.set_cons_succ, i64_w, i32_w]
      rfl
     refine pure_ (i := 9) (N := some 30) (v := ?_) (a' := ?_) (bb [10, 4]) rfl rfl (any_of HT_.out (by kernel_rfl)) (fun _ _ _ h => h) (Or.inl ⟨by rfl, ?_⟩) ?_ ?_
     rotate_left
     ·intro w'
      go_simp
      with_reducible rfl
     rotate_left
     ·simp only [Act.put, List.setIfInBounds_toArray, List.set_cons_zero, List.set_cons_succ, i64_w, i32_w]
      rfl
     refine pure_ (i := 10) (N := some 31) (v := undef) (a' := ?_) (bb [11, 3]) rfl rfl (any_of HT_.out (by kernel_rfl)) (fun _ _ _ h => h) (Or.inr ⟨by rfl, rfl⟩) ?_ ?_
     rotate_left
     ·simp only [Act.put, List.setIfInBounds_toArray, List.set_cons_zero, List.set_cons_succ, i64_w, i32_w]
      rfl
     refine pure_ (i := 11) (N := some 32) (v := undef) (a' := ?_) (bb [12, 2]) rfl rfl (any_of HT_.out (by kernel_rfl)) (fun _ _ _ h => h) (Or.inr ⟨by rfl, rfl⟩) ?_ ?_
     rotate_left
     ·simp only [Act.put, List.setIfInBounds_toArray, List.set_cons_zero, List.set_cons_succ, i64_w, i32_w]
      rfl
     refine pure_ (i := 12) (N := some 33) (v := undef) (a' := ?_) (bb [13, 1]) rfl rfl (any_of HT_.out (by kernel_rfl)) (fun _ _ _ h => h) (Or.inr ⟨by rfl, rfl⟩) ?_ ?_
     rotate_left
     ·simp only [Act.put, List.setIfInBounds_toArray, List.set_cons_zero, List.set_cons_succ, i64_w, i32_w]
      rfl
     refine pure_ (i := 13) (N := some 34) (v := ?_) (a' := ?_) (bb [14]) rfl rfl (any_of HT_.out (by kernel_rfl)) (fun _ _ _ h => h) (Or.inl ⟨by rfl, ?_⟩) ?_ ?_
     rotate_left
     ·intro w'
      go_simp
      with_reducible rfl
     rotate_left
     ·simp only [Act.put, List.setIfInBounds_toArray, List.set_cons_zero, List.set_cons_succ, i64_w, i32_w]
      rfl
     refine done_ (done_of HT_.out (by kernel_rfl)) ?_
     try go_wp2
     go_ret2
     exact ⟨by first | rfl | (simp [errW_none, errW_some] <;> rfl) | (simp [*, errW_none, errW_some] <;> rfl), by repeat (first | (with_reducible first | exact HB.out | apply below_alloc | apply pw_below_drewN | apply below_drew1 | refine below_set ?_ GE867.out) | exact HB.out)⟩
   ·rw [if_neg c2] at H
    have c2b0 : decide (x11_1 < (l0.length : Int)) = false := decide_eq_false c2
    clear c2
    simp only [Option.some.injEq, Prod.mk.injEq] at H
    obtain ⟨rfl, rfl⟩ := H
    go_wp2
    go_ret2
    exact ⟨by first | rfl | (simp [errW_none, errW_some] <;> rfl) | (simp [*, errW_none, errW_some] <;> rfl), by repeat (first | (with_reducible first | exact HB.out | apply below_alloc | apply pw_below_drewN | apply below_drew1) | exact HB.out)⟩
end Go.Proofs.YtednjmngalmdkaaGreatDoor.GPC
end
