-- printed by gprint.py (a session's own turn of the kit's print): NU
import Derived.Test.YtgnfapnnbcafbaaDoorGNUx0
import Derived.Test.YtgnfapnnbcafbaaDoorGNUx3
import Derived.Test.YtgnfapnnbcafbaaDoorGNUx4
import Derived.Test.YtgnfapnnbcafbaaDoorGivenPU
import Derived.Test.YtgnfapnnbcafbaaDoorGivenNU
import Derived.Test.YtgnfapnnbcafbaaDoorGivenUN
namespace Go.Proofs.YtgnfapnnbcafbaaDoor.GNU
open Go.RowKit Go.Proofs.YtgnfapnnbcafbaaDoorW.PrintWords Go.Proofs.YtgnfapnnbcafbaaDoorW.PrintLast Go.Proofs.YtgnfapnnbcafbaaDoorW.PrintMore
attribute [local go_sem] max2_int min2_int max_two min_two max_three min_three max_four min_four   -- for this text's walks alone
set_option linter.unusedVariables false
set_option linter.unusedSimpArgs false

/-! ### spec_EscapePath: function 12 -/
mutual
def spec_EscapePath.j0 : Nat → ByteArray → Bool → Option (ByteArray × Int)
  | 0, _, _ => none
  | k + 1, x0, x18 => if x18 = true then (some ((⟨#[]⟩ : ByteArray), 2)) else (spec_EscapePath.l0 k x0 (⟨#[]⟩ : ByteArray) (⟨#[]⟩ : ByteArray) 0)
def spec_EscapePath.l0 : Nat → ByteArray → ByteArray → ByteArray → Int → Option (ByteArray × Int)
  | 0, _, _, _, _ => none
  | k + 1, x0, x4, x5, x6 => if x6 ≤ (x0.size : Int) then (if x6 < (x0.size : Int) then (if 0 ≤ x6 then (spec_EscapePath.j2 k x0 x4 x5 x6 ((bt x0 x6) != 47)) else (none)) else (spec_EscapePath.j2 k x0 x4 x5 x6 false)) else (if x4.toList = ([] : List UInt8) then (some ((⟨#[45]⟩ : ByteArray), 1)) else ((spec_escaped.f k x4).bind fun t166 => (some (t166, 1))))
def spec_EscapePath.j2 : Nat → ByteArray → ByteArray → ByteArray → Int → Bool → Option (ByteArray × Int)
  | 0, _, _, _, _, _ => none
  | k + 1, x0, x4, x5, x6, x34 => if x34 = true then (if 0 ≤ x6 then (if x6 ≤ (wrap64 (x6 + 1)) then (if (wrap64 (x6 + 1)) ≤ (x0.size : Int) then (if x5.size + (x0.extract (x6 : Int).toNat ((wrap64 (x6 + 1)) : Int).toNat).size ≤ 9223372036854775807 then (spec_EscapePath.l0 k x0 x4 (x5 ++ (x0.extract (x6 : Int).toNat ((wrap64 (x6 + 1)) : Int).toNat)) (wrap64 (x6 + 1))) else (none)) else (none)) else (none)) else (none)) else (if x5.toList = ([46] : List UInt8) then (spec_EscapePath.j3 k x0 x4 x5 x6 true) else (spec_EscapePath.j3 k x0 x4 x5 x6 (x5.toList == ([46, 46] : List UInt8))))
def spec_EscapePath.j3 : Nat → ByteArray → ByteArray → ByteArray → Int → Bool → Option (ByteArray × Int)
  | 0, _, _, _, _, _ => none
  | k + 1, x0, x4, x5, x6, x47 => if x47 = true then (some ((⟨#[]⟩ : ByteArray), 2)) else (if x5.toList = ([] : List UInt8) then (if x4.size + x5.size ≤ 9223372036854775807 then (spec_EscapePath.l0 k x0 (x4 ++ x5) (⟨#[]⟩ : ByteArray) (wrap64 (x6 + 1))) else (none)) else (if x4.toList = ([] : List UInt8) then (if x4.size + x5.size ≤ 9223372036854775807 then (spec_EscapePath.l0 k x0 (x4 ++ x5) (⟨#[]⟩ : ByteArray) (wrap64 (x6 + 1))) else (none)) else (if x4.size + 1 ≤ 9223372036854775807 then (if (x4 ++ (⟨#[47]⟩ : ByteArray)).size + x5.size ≤ 9223372036854775807 then (spec_EscapePath.l0 k x0 ((x4 ++ (⟨#[47]⟩ : ByteArray)) ++ x5) (⟨#[]⟩ : ByteArray) (wrap64 (x6 + 1))) else (none)) else (none))))
end
def spec_EscapePath.f (k : Nat) (a0 : ByteArray) : Option (ByteArray × Int) := if a0.toList = ([] : List UInt8) then (spec_EscapePath.j0 k a0 true) else (if 0 < (a0.size : Int) then (if (bt a0 0) = 47 then ((spec_written.f k a0).bind fun t165 => (spec_EscapePath.j0 k a0 (!t165))) else (spec_EscapePath.j0 k a0 true)) else (none))
theorem spec_EscapePath.mono_l : ∀ k, (∀ y0 y1, LeO (spec_EscapePath.j0 k y0 y1) (spec_EscapePath.j0 (k + 1) y0 y1)) ∧ (∀ y0 y1 y2 y3, LeO (spec_EscapePath.l0 k y0 y1 y2 y3) (spec_EscapePath.l0 (k + 1) y0 y1 y2 y3)) ∧ (∀ y0 y1 y2 y3 y4, LeO (spec_EscapePath.j2 k y0 y1 y2 y3 y4) (spec_EscapePath.j2 (k + 1) y0 y1 y2 y3 y4)) ∧ (∀ y0 y1 y2 y3 y4, LeO (spec_EscapePath.j3 k y0 y1 y2 y3 y4) (spec_EscapePath.j3 (k + 1) y0 y1 y2 y3 y4))
  | 0 => ⟨fun _ _ r h => by simp [spec_EscapePath.j0] at h, fun _ _ _ _ r h => by simp [spec_EscapePath.l0] at h, fun _ _ _ _ _ r h => by simp [spec_EscapePath.j2] at h, fun _ _ _ _ _ r h => by simp [spec_EscapePath.j3] at h⟩
  | k + 1 => by
    obtain ⟨ih0, ih1, ih2, ih3⟩ := spec_EscapePath.mono_l k
    refine ⟨?_, ?_, ?_, ?_⟩
    · intro y0 y1
      unfold spec_EscapePath.j0
      repeat' first
      | (with_reducible exact ih0 _ _)
      | (with_reducible exact ih1 _ _ _ _)
      | (with_reducible exact ih2 _ _ _ _ _)
      | (with_reducible exact ih3 _ _ _ _ _)
      | (with_reducible exact spec_escaped.mono _ _)
      | (with_reducible exact spec_written.mono _ _)
      | (with_reducible exact LeO.refl _)
      | (with_reducible exact LeO.none _)
      | (with_reducible refine LeO.ite ?_ ?_)
      | (with_reducible refine LeO.bind ?_ (fun _ => ?_))
      | exact ih0 _ _
      | exact ih1 _ _ _ _
      | exact ih2 _ _ _ _ _
      | exact ih3 _ _ _ _ _
      | exact spec_escaped.mono _ _
      | exact spec_written.mono _ _
      | exact LeO.none _
      | refine LeO.ite ?_ ?_
      | refine LeO.bind ?_ (fun _ => ?_)
    · intro y0 y1 y2 y3
      unfold spec_EscapePath.l0
      repeat' first
      | (with_reducible exact ih0 _ _)
      | (with_reducible exact ih1 _ _ _ _)
      | (with_reducible exact ih2 _ _ _ _ _)
      | (with_reducible exact ih3 _ _ _ _ _)
      | (with_reducible exact spec_escaped.mono _ _)
      | (with_reducible exact spec_written.mono _ _)
      | (with_reducible exact LeO.refl _)
      | (with_reducible exact LeO.none _)
      | (with_reducible refine LeO.ite ?_ ?_)
      | (with_reducible refine LeO.bind ?_ (fun _ => ?_))
      | exact ih0 _ _
      | exact ih1 _ _ _ _
      | exact ih2 _ _ _ _ _
      | exact ih3 _ _ _ _ _
      | exact spec_escaped.mono _ _
      | exact spec_written.mono _ _
      | exact LeO.none _
      | refine LeO.ite ?_ ?_
      | refine LeO.bind ?_ (fun _ => ?_)
    · intro y0 y1 y2 y3 y4
      unfold spec_EscapePath.j2
      repeat' first
      | (with_reducible exact ih0 _ _)
      | (with_reducible exact ih1 _ _ _ _)
      | (with_reducible exact ih2 _ _ _ _ _)
      | (with_reducible exact ih3 _ _ _ _ _)
      | (with_reducible exact spec_escaped.mono _ _)
      | (with_reducible exact spec_written.mono _ _)
      | (with_reducible exact LeO.refl _)
      | (with_reducible exact LeO.none _)
      | (with_reducible refine LeO.ite ?_ ?_)
      | (with_reducible refine LeO.bind ?_ (fun _ => ?_))
      | exact ih0 _ _
      | exact ih1 _ _ _ _
      | exact ih2 _ _ _ _ _
      | exact ih3 _ _ _ _ _
      | exact spec_escaped.mono _ _
      | exact spec_written.mono _ _
      | exact LeO.none _
      | refine LeO.ite ?_ ?_
      | refine LeO.bind ?_ (fun _ => ?_)
    · intro y0 y1 y2 y3 y4
      unfold spec_EscapePath.j3
      repeat' first
      | (with_reducible exact ih0 _ _)
      | (with_reducible exact ih1 _ _ _ _)
      | (with_reducible exact ih2 _ _ _ _ _)
      | (with_reducible exact ih3 _ _ _ _ _)
      | (with_reducible exact spec_escaped.mono _ _)
      | (with_reducible exact spec_written.mono _ _)
      | (with_reducible exact LeO.refl _)
      | (with_reducible exact LeO.none _)
      | (with_reducible refine LeO.ite ?_ ?_)
      | (with_reducible refine LeO.bind ?_ (fun _ => ?_))
      | exact ih0 _ _
      | exact ih1 _ _ _ _
      | exact ih2 _ _ _ _ _
      | exact ih3 _ _ _ _ _
      | exact spec_escaped.mono _ _
      | exact spec_written.mono _ _
      | exact LeO.none _
      | refine LeO.ite ?_ ?_
      | refine LeO.bind ?_ (fun _ => ?_)
theorem spec_EscapePath.mono : ∀ a0 k, LeO (spec_EscapePath.f k a0) (spec_EscapePath.f (k + 1) a0) := by
  intro a0 k
  obtain ⟨ih0, ih1, ih2, ih3⟩ := spec_EscapePath.mono_l k
  unfold spec_EscapePath.f
  repeat' first
      | (with_reducible exact ih0 _ _)
      | (with_reducible exact ih1 _ _ _ _)
      | (with_reducible exact ih2 _ _ _ _ _)
      | (with_reducible exact ih3 _ _ _ _ _)
      | (with_reducible exact spec_escaped.mono _ _)
      | (with_reducible exact spec_written.mono _ _)
      | (with_reducible exact LeO.refl _)
      | (with_reducible exact LeO.none _)
      | (with_reducible refine LeO.ite ?_ ?_)
      | (with_reducible refine LeO.bind ?_ (fun _ => ?_))
      | exact ih0 _ _
      | exact ih1 _ _ _ _
      | exact ih2 _ _ _ _ _
      | exact ih3 _ _ _ _ _
      | exact spec_escaped.mono _ _
      | exact spec_written.mono _ _
      | exact LeO.none _
      | refine LeO.ite ?_ ?_
      | refine LeO.bind ?_ (fun _ => ?_)
set_option maxHeartbeats 8000000 in
set_option maxRecDepth 100000 in
theorem spec_EscapePath.calls (k : Nat) (a0 : ByteArray) (r1 : ByteArray) (r2 : Int) (w : World) (h : spec_EscapePath.f k a0 = some (r1, r2)) :
    Calls Tryd.prog 12 #[.string a0] w fun e w' => e = .returned (.tuple #[.string r1, .int .i64 r2]) ∧ Below w.heap.size w w' := by
  have HB := Aside0.mk (Below.refl w.heap.size w)
  have H : (if a0.toList = ([] : List UInt8) then (spec_EscapePath.j0 k a0 true) else (if 0 < (a0.size : Int) then (if (bt a0 0) = 47 then ((spec_written.f k a0).bind fun t165 => (spec_EscapePath.j0 k a0 (!t165))) else (spec_EscapePath.j0 k a0 true)) else (none))) = some (r1, r2) := h
  clear h
  have HC2 := Aside0.mk H
  clear H
  go_enter Tryd.func12, Tryd.ntmps12
  go_upto_region 1 with (fail)
  go_cut [18] (fun v18 wc => ∃ (kq : Nat) (x18_1 : Bool), v18 = .bool x18_1 ∧ Aside0 (spec_EscapePath.j0 kq a0 x18_1 = some (r1, r2)) ∧ Aside0 (kq ≤ k) ∧ Aside0 (Below w.heap.size w wc))
  case first =>
    have H := HC2.out
    clear HC2
    by_cases c3 : a0.toList = ([] : List UInt8)
    · rw [if_pos c3] at H
      have c3b0 : (a0.toList == ([] : List UInt8)) = true := beq_iff_eq.mpr c3
      have c3b1 : (a0.toList != ([] : List UInt8)) = false := bne_eq_false_iff_eq.mpr c3
      clear c3
      (first | rw [c3b0] | (simp only [i64_w, i32_w]; rw [c3b0]) | skip)
      have H' := Aside0.mk H
      clear H
      go_wp2
      go_meet
      case rel => exact ⟨_, (true), (by first | rfl | (simp; done) | (simp [*]; done)), H', ⟨by first | omega | exact Nat.le_refl _⟩, ⟨by repeat (first | (with_reducible first | exact HB.out | apply below_alloc | apply pw_below_drewN | apply below_drew1) | exact HB.out)⟩⟩
    · rw [if_neg c3] at H
      have c3b0 : (a0.toList == ([] : List UInt8)) = false := beq_eq_false_iff_ne.mpr c3
      have c3b1 : (a0.toList != ([] : List UInt8)) = true := bne_iff_ne.mpr c3
      (first | rw [c3b0] | (simp only [i64_w, i32_w]; rw [c3b0]) | skip)
      by_cases c4 : 0 < (a0.size : Int)
      · rw [if_pos c4] at H
        have c4b0 : decide (0 < (a0.size : Int)) = true := decide_eq_true c4
        have c4b1 : decide (0 < a0.size) = true := decide_eq_true (by omega)
        clear c4
        by_cases c6 : (bt a0 0) = 47
        · rw [if_pos c6] at H
          have c6b0 : ((bt a0 0) == 47) = true := beq_iff_eq.mpr c6
          have c6b1 : ((bt a0 0) != 47) = false := bne_eq_false_iff_eq.mpr c6
          clear c6
          replace H := Option.bind_eq_some_iff.mp H
          obtain ⟨t165, A70, H⟩ := H
          replace H : (spec_EscapePath.j0 k a0 (!t165)) = some (r1, r2) := H
          have A7 := Aside0.mk A70
          clear A70
          have H' := Aside0.mk H
          clear H
          have p5 : 0 ≤ (0 : Int) := (by omega)
          have q5 : 0 < a0.size := (by have : (0 : Int) < (a0.size : Int) := of_decide_eq_true (by first | (with_reducible assumption) | assumption); omega)
          have hx5 : ∀ h : 0 < a0.size, ((a0[0]'h).toNat : Int) = bt a0 0 := bt_at a0 0
          clear p5
          have qi5 : (0 < (a0.size : Int)) = True := eq_true (of_decide_eq_true (by first | (with_reducible assumption) | assumption))
          replace q5 := eq_true q5
          go_wp2_with (first | (go_at_call 29; (with_reducible refine (spec_written.calls k a0 t165 _ A7.out).mono ?_); rintro e w' ⟨rfl, ⟨nd, rfl⟩⟩))
          go_meet
          case rel => exact ⟨_, (!t165), (by first | rfl | (simp; done) | (simp [*]; done)), H', ⟨by first | omega | exact Nat.le_refl _⟩, ⟨by repeat (first | (with_reducible first | exact HB.out | apply below_alloc | apply pw_below_drewN | apply below_drew1) | exact HB.out)⟩⟩
        · rw [if_neg c6] at H
          have c6b0 : ((bt a0 0) == 47) = false := beq_eq_false_iff_ne.mpr c6
          have c6b1 : ((bt a0 0) != 47) = true := bne_iff_ne.mpr c6
          have H' := Aside0.mk H
          clear H
          have p5 : 0 ≤ (0 : Int) := (by omega)
          have q5 : 0 < a0.size := (by have : (0 : Int) < (a0.size : Int) := of_decide_eq_true (by first | (with_reducible assumption) | assumption); omega)
          have hx5 : ∀ h : 0 < a0.size, ((a0[0]'h).toNat : Int) = bt a0 0 := bt_at a0 0
          clear p5
          have qi5 : (0 < (a0.size : Int)) = True := eq_true (of_decide_eq_true (by first | (with_reducible assumption) | assumption))
          replace q5 := eq_true q5
          go_wp2
          go_meet
          case rel => exact ⟨_, (true), (by first | rfl | (simp; done) | (simp [*]; done)), H', ⟨by first | omega | exact Nat.le_refl _⟩, ⟨by repeat (first | (with_reducible first | exact HB.out | apply below_alloc | apply pw_below_drewN | apply below_drew1) | exact HB.out)⟩⟩
      · rw [if_neg c4] at H
        exact absurd H (by simp)
  case rest =>
    clear HC2
    try clear c1
    try clear p2
    try clear c3
    try clear c3b0
    try clear c3b1
    try clear c4
    try clear c4b0
    try clear c4b1
    try clear p5
    try clear q5
    try clear hx5
    try clear qi5
    try clear c6
    try clear c6b0
    try clear c6b1
    try clear p5
    try clear q5
    obtain ⟨kq, x18_1, rfl, HA, HJ1, HB⟩ := hcut
    cases kq with
    | zero => exact absurd HA.out (by simp [spec_EscapePath.j0])
    | succ kj1 =>
      have H := HA.out
      clear HA
      simp only [spec_EscapePath.j0] at H
      by_cases c8 : x18_1 = true
      · subst c8
        have H1 : (some ((⟨#[]⟩ : ByteArray), 2)) = some (r1, r2) := by rw [if_pos rfl] at H; exact H
        clear H
        have H := H1
        clear H1
        simp only [Option.some.injEq, Prod.mk.injEq] at H
        obtain ⟨rfl, rfl⟩ := H
        go_wp2
        go_ret2
        exact ⟨by first | rfl | (simp [errW_none, errW_some] <;> rfl) | (simp [*, errW_none, errW_some] <;> rfl), by repeat (first | (with_reducible first | exact HB.out | apply below_alloc | apply pw_below_drewN | apply below_drew1) | exact HB.out)⟩
      · replace c8 := Bool.eq_false_iff.mpr c8
        subst c8
        have H1 : (spec_EscapePath.l0 kj1 a0 (⟨#[]⟩ : ByteArray) (⟨#[]⟩ : ByteArray) 0) = some (r1, r2) := by rw [if_neg (show ¬ (false = true) by decide)] at H; exact H
        clear H
        have H := H1
        clear H1
        have H' := Aside0.mk H
        clear H
        go_wp2
        go_loopg [4, 5, 6] kj1 (fun kq v4 v5 v6 w' => ∃ (x4_2 : ByteArray) (x5_2 : ByteArray) (x6_2 : Int), v4 = .string x4_2 ∧ v5 = .string x5_2 ∧ v6 = .int .i64 x6_2 ∧ Aside0 (spec_EscapePath.l0 kq a0 x4_2 x5_2 x6_2 = some (r1, r2)) ∧ Aside0 (kq ≤ kj1) ∧ Aside0 (Below w.heap.size w w'))
        case atStart => exact ⟨((⟨#[]⟩ : ByteArray)), ((⟨#[]⟩ : ByteArray)), (0), (by first | rfl | (simp; done) | (simp [*]; done)), (by first | rfl | (simp; done) | (simp [*]; done)), (by first | rfl | (simp; done) | (simp [*]; done)), H', ⟨Nat.le_refl _⟩, ⟨by repeat (first | (with_reducible first | exact HB.out | apply below_alloc | apply pw_below_drewN | apply below_drew1) | exact HB.out)⟩⟩
        case round =>
          clear H'
          try clear c1
          try clear p2
          try clear c3
          try clear c3b0
          try clear c3b1
          try clear c4
          try clear c4b0
          try clear c4b1
          try clear p5
          try clear q5
          try clear hx5
          try clear qi5
          try clear c6
          try clear c6b0
          try clear c6b1
          try clear c8
          try clear p2
          try clear p5
          try clear q5
          obtain ⟨x4_2, x5_2, x6_2, rfl, rfl, rfl, HA, HK2, HB⟩ := hrel
          cases gk with
          | zero => exact absurd HA.out (by simp [spec_EscapePath.l0])
          | succ k2 =>
            have H := HA.out
            clear HA
            simp only [spec_EscapePath.l0] at H
            by_cases c9 : x6_2 ≤ (a0.size : Int)
            · rw [if_pos c9] at H
              have c9b0 : decide (x6_2 ≤ (a0.size : Int)) = true := decide_eq_true c9
              clear c9
              have HC10 := Aside0.mk H
              clear H
              go_upto_region 8 with (fail)
              go_cut [34] (fun v34 wc => ∃ (kq : Nat) (x34_9 : Bool), v34 = .bool x34_9 ∧ Aside0 (spec_EscapePath.j2 kq a0 x4_2 x5_2 x6_2 x34_9 = some (r1, r2)) ∧ Aside0 (kq ≤ k2) ∧ Aside0 (Below w.heap.size w wc))
              case first =>
                have H := HC10.out
                clear HC10
                by_cases c11 : x6_2 < (a0.size : Int)
                · rw [if_pos c11] at H
                  have c11b0 : decide (x6_2 < (a0.size : Int)) = true := decide_eq_true c11
                  clear c11
                  (first | rw [c11b0] | (simp only [i64_w, i32_w]; rw [c11b0]) | skip)
                  by_cases c12 : 0 ≤ x6_2
                  · rw [if_pos c12] at H
                    have c12b0 : decide (0 ≤ x6_2) = true := decide_eq_true c12
                    clear c12
                    have H' := Aside0.mk H
                    clear H
                    have p13 : 0 ≤ (x6_2 : Int) := of_decide_eq_true (by first | (with_reducible assumption) | assumption)
                    have q13 : x6_2 < (a0.size : Int) := of_decide_eq_true (by first | (with_reducible assumption) | assumption)
                    have hx13 := bt_at a0 x6_2
                    replace p13 := eq_true p13
                    replace q13 := eq_true q13
                    go_wp2
                    go_meet
                    case rel => exact ⟨_, (((bt a0 x6_2) != 47)), (by first | rfl | (simp; done) | (simp [*]; done)), H', ⟨by have := HJ1.out; have := HK2.out; first | omega | exact Nat.le_refl _⟩, ⟨by repeat (first | (with_reducible first | exact HB.out | apply below_alloc | apply pw_below_drewN | apply below_drew1) | exact HB.out)⟩⟩
                  · rw [if_neg c12] at H
                    exact absurd H (by simp)
                · rw [if_neg c11] at H
                  have c11b0 : decide (x6_2 < (a0.size : Int)) = false := decide_eq_false c11
                  clear c11
                  (first | rw [c11b0] | (simp only [i64_w, i32_w]; rw [c11b0]) | skip)
                  have H' := Aside0.mk H
                  clear H
                  go_wp2
                  go_meet
                  case rel => exact ⟨_, (false), (by first | rfl | (simp; done) | (simp [*]; done)), H', ⟨by have := HJ1.out; have := HK2.out; first | omega | exact Nat.le_refl _⟩, ⟨by repeat (first | (with_reducible first | exact HB.out | apply below_alloc | apply pw_below_drewN | apply below_drew1) | exact HB.out)⟩⟩
              case rest =>
                clear HC10
                try clear c1
                try clear p1
                try clear q1
                try clear hx1
                try clear p2
                try clear c3
                try clear c3b0
                try clear c3b1
                try clear c4
                try clear c4b0
                try clear c4b1
                try clear p5
                try clear q5
                try clear hx5
                try clear qi5
                try clear c6
                try clear c6b0
                try clear c6b1
                try clear c8
                try clear c9
                try clear c9b0
                try clear c11
                try clear c11b0
                try clear c12
                try clear c12b0
                try clear p13
                try clear q13
                try clear hx13
                try clear p13
                try clear p2
                try clear p5
                try clear q13
                try clear q5
                obtain ⟨kq, x34_9, rfl, HA, HJ9, HB⟩ := hcut
                cases kq with
                | zero => exact absurd HA.out (by simp [spec_EscapePath.j2])
                | succ kj9 =>
                  have H := HA.out
                  clear HA
                  simp only [spec_EscapePath.j2] at H
                  by_cases c14 : x34_9 = true
                  · subst c14
                    have H1 : (if 0 ≤ x6_2 then (if x6_2 ≤ (wrap64 (x6_2 + 1)) then (if (wrap64 (x6_2 + 1)) ≤ (a0.size : Int) then (if x5_2.size + (a0.extract (x6_2 : Int).toNat ((wrap64 (x6_2 + 1)) : Int).toNat).size ≤ 9223372036854775807 then (spec_EscapePath.l0 kj9 a0 x4_2 (x5_2 ++ (a0.extract (x6_2 : Int).toNat ((wrap64 (x6_2 + 1)) : Int).toNat)) (wrap64 (x6_2 + 1))) else (none)) else (none)) else (none)) else (none)) = some (r1, r2) := by rw [if_pos rfl] at H; exact H
                    clear H
                    have H := H1
                    clear H1
                    by_cases c15 : 0 ≤ x6_2
                    · rw [if_pos c15] at H
                      have c15b0 := eq_true c15
                      have c15b1 : decide (0 ≤ x6_2) = true := decide_eq_true c15
                      clear c15
                      by_cases c16 : x6_2 ≤ (wrap64 (x6_2 + 1))
                      · rw [if_pos c16] at H
                        have c16b0 := eq_true c16
                        have c16b1 : decide (x6_2 ≤ (wrap64 (x6_2 + 1))) = true := decide_eq_true c16
                        by_cases c17 : (wrap64 (x6_2 + 1)) ≤ (a0.size : Int)
                        · rw [if_pos c17] at H
                          have c17b0 := eq_true c17
                          have c17b1 : decide ((wrap64 (x6_2 + 1)) ≤ (a0.size : Int)) = true := decide_eq_true c17
                          by_cases c18 : x5_2.size + (a0.extract (x6_2 : Int).toNat ((wrap64 (x6_2 + 1)) : Int).toNat).size ≤ 9223372036854775807
                          · rw [if_pos c18] at H
                            have c18b0 := eq_true c18
                            have c18b1 : decide (x5_2.size + (a0.extract (x6_2 : Int).toNat ((wrap64 (x6_2 + 1)) : Int).toNat).size ≤ 9223372036854775807) = true := decide_eq_true c18
                            try have c18b2 : (9223372036854775807 < x5_2.size + (a0.extract (x6_2 : Int).toNat ((wrap64 (x6_2 + 1)) : Int).toNat).size) = False := eq_false (Nat.not_lt.2 c18)
                            have H' := Aside0.mk H
                            clear H
                            go_wp2
                            go_roundg kj9
                            case measure => have := HJ1.out; have := HK2.out; have := HJ9.out; omega
                            case rel => exact ⟨(x4_2), (x5_2 ++ (a0.extract (x6_2 : Int).toNat ((wrap64 (x6_2 + 1)) : Int).toNat)), (wrap64 (x6_2 + 1)), (by first | rfl | (simp; done) | (simp [*]; done)), (by first | rfl | (simp; done) | (simp [*]; done)), (by first | rfl | (simp; done) | (simp [*]; done)), H', ⟨by have := HJ1.out; have := HK2.out; have := HJ9.out; omega⟩, ⟨by repeat (first | (with_reducible first | exact HB.out | apply below_alloc | apply pw_below_drewN | apply below_drew1) | exact HB.out)⟩⟩
                          · rw [if_neg c18] at H
                            exact absurd H (by simp)
                        · rw [if_neg c17] at H
                          exact absurd H (by simp)
                      · rw [if_neg c16] at H
                        exact absurd H (by simp)
                    · rw [if_neg c15] at H
                      exact absurd H (by simp)
                  · replace c14 := Bool.eq_false_iff.mpr c14
                    subst c14
                    have H1 : (if x5_2.toList = ([46] : List UInt8) then (spec_EscapePath.j3 kj9 a0 x4_2 x5_2 x6_2 true) else (spec_EscapePath.j3 kj9 a0 x4_2 x5_2 x6_2 (x5_2.toList == ([46, 46] : List UInt8)))) = some (r1, r2) := by rw [if_neg (show ¬ (false = true) by decide)] at H; exact H
                    clear H
                    have H := H1
                    clear H1
                    have HC19 := Aside0.mk H
                    clear H
                    go_upto_region 10 with (fail)
                    go_cut [47] (fun v47 wc => ∃ (kq : Nat) (x47_18 : Bool), v47 = .bool x47_18 ∧ Aside0 (spec_EscapePath.j3 kq a0 x4_2 x5_2 x6_2 x47_18 = some (r1, r2)) ∧ Aside0 (kq ≤ kj9) ∧ Aside0 (Below w.heap.size w wc))
                    case first =>
                      have H := HC19.out
                      clear HC19
                      by_cases c20 : x5_2.toList = ([46] : List UInt8)
                      · rw [if_pos c20] at H
                        have c20b0 : (x5_2.toList == ([46] : List UInt8)) = true := beq_iff_eq.mpr c20
                        have c20b1 : (x5_2.toList != ([46] : List UInt8)) = false := bne_eq_false_iff_eq.mpr c20
                        clear c20
                        (first | rw [c20b0] | (simp only [i64_w, i32_w]; rw [c20b0]) | skip)
                        have H' := Aside0.mk H
                        clear H
                        go_wp2
                        go_meet
                        case rel => exact ⟨_, (true), (by first | rfl | (simp; done) | (simp [*]; done)), H', ⟨by have := HJ1.out; have := HK2.out; have := HJ9.out; first | omega | exact Nat.le_refl _⟩, ⟨by repeat (first | (with_reducible first | exact HB.out | apply below_alloc | apply pw_below_drewN | apply below_drew1) | exact HB.out)⟩⟩
                      · rw [if_neg c20] at H
                        have c20b0 : (x5_2.toList == ([46] : List UInt8)) = false := beq_eq_false_iff_ne.mpr c20
                        have c20b1 : (x5_2.toList != ([46] : List UInt8)) = true := bne_iff_ne.mpr c20
                        (first | rw [c20b0] | (simp only [i64_w, i32_w]; rw [c20b0]) | skip)
                        have H' := Aside0.mk H
                        clear H
                        go_wp2
                        go_meet
                        case rel => exact ⟨_, ((x5_2.toList == ([46, 46] : List UInt8))), (by first | rfl | (simp; done) | (simp [*]; done)), H', ⟨by have := HJ1.out; have := HK2.out; have := HJ9.out; first | omega | exact Nat.le_refl _⟩, ⟨by repeat (first | (with_reducible first | exact HB.out | apply below_alloc | apply pw_below_drewN | apply below_drew1) | exact HB.out)⟩⟩
                    case rest =>
                      clear HC19
                      try clear c1
                      try clear p1
                      try clear q1
                      try clear hx1
                      try clear c2
                      try clear p2
                      try clear c3
                      try clear c3b0
                      try clear c3b1
                      try clear c4
                      try clear c4b0
                      try clear c4b1
                      try clear p5
                      try clear q5
                      try clear hx5
                      try clear qi5
                      try clear c6
                      try clear c6b0
                      try clear c6b1
                      try clear p6
                      try clear c8
                      try clear c9
                      try clear c9b0
                      try clear c11
                      try clear c11b0
                      try clear c12
                      try clear c12b0
                      try clear p13
                      try clear q13
                      try clear hx13
                      try clear c14
                      try clear c15
                      try clear c15b0
                      try clear c15b1
                      try clear c16
                      try clear c16b0
                      try clear c16b1
                      try clear c17
                      try clear c17b0
                      try clear c17b1
                      try clear c18
                      try clear c18b0
                      try clear c18b1
                      try clear c18b2
                      try clear c20
                      try clear c20b0
                      try clear c20b1
                      try clear p1
                      try clear p13
                      try clear p2
                      try clear p5
                      try clear q1
                      try clear q13
                      try clear q5
                      obtain ⟨kq, x47_18, rfl, HA, HJ18, HB⟩ := hcut
                      cases kq with
                      | zero => exact absurd HA.out (by simp [spec_EscapePath.j3])
                      | succ kj18 =>
                        have H := HA.out
                        clear HA
                        simp only [spec_EscapePath.j3] at H
                        by_cases c21 : x47_18 = true
                        · subst c21
                          have H1 : (some ((⟨#[]⟩ : ByteArray), 2)) = some (r1, r2) := by rw [if_pos rfl] at H; exact H
                          clear H
                          have H := H1
                          clear H1
                          simp only [Option.some.injEq, Prod.mk.injEq] at H
                          obtain ⟨rfl, rfl⟩ := H
                          go_wp2
                          go_ret2
                          exact ⟨by first | rfl | (simp [errW_none, errW_some] <;> rfl) | (simp [*, errW_none, errW_some] <;> rfl), by repeat (first | (with_reducible first | exact HB.out | apply below_alloc | apply pw_below_drewN | apply below_drew1) | exact HB.out)⟩
                        · replace c21 := Bool.eq_false_iff.mpr c21
                          subst c21
                          have H1 : (if x5_2.toList = ([] : List UInt8) then (if x4_2.size + x5_2.size ≤ 9223372036854775807 then (spec_EscapePath.l0 kj18 a0 (x4_2 ++ x5_2) (⟨#[]⟩ : ByteArray) (wrap64 (x6_2 + 1))) else (none)) else (if x4_2.toList = ([] : List UInt8) then (if x4_2.size + x5_2.size ≤ 9223372036854775807 then (spec_EscapePath.l0 kj18 a0 (x4_2 ++ x5_2) (⟨#[]⟩ : ByteArray) (wrap64 (x6_2 + 1))) else (none)) else (if x4_2.size + 1 ≤ 9223372036854775807 then (if (x4_2 ++ (⟨#[47]⟩ : ByteArray)).size + x5_2.size ≤ 9223372036854775807 then (spec_EscapePath.l0 kj18 a0 ((x4_2 ++ (⟨#[47]⟩ : ByteArray)) ++ x5_2) (⟨#[]⟩ : ByteArray) (wrap64 (x6_2 + 1))) else (none)) else (none)))) = some (r1, r2) := by rw [if_neg (show ¬ (false = true) by decide)] at H; exact H
                          clear H
                          have H := H1
                          clear H1
                          by_cases c22 : x5_2.toList = ([] : List UInt8)
                          · rw [if_pos c22] at H
                            have c22b0 : (x5_2.toList == ([] : List UInt8)) = true := beq_iff_eq.mpr c22
                            have c22b1 : (x5_2.toList != ([] : List UInt8)) = false := bne_eq_false_iff_eq.mpr c22
                            clear c22
                            by_cases c23 : x4_2.size + x5_2.size ≤ 9223372036854775807
                            · rw [if_pos c23] at H
                              have c23b0 := eq_true c23
                              have c23b1 : decide (x4_2.size + x5_2.size ≤ 9223372036854775807) = true := decide_eq_true c23
                              try have c23b2 : (9223372036854775807 < x4_2.size + x5_2.size) = False := eq_false (Nat.not_lt.2 c23)
                              have H' := Aside0.mk H
                              clear H
                              go_wp2
                              go_roundg kj18
                              case measure => have := HJ1.out; have := HK2.out; have := HJ9.out; have := HJ18.out; omega
                              case rel => exact ⟨(x4_2 ++ x5_2), ((⟨#[]⟩ : ByteArray)), (wrap64 (x6_2 + 1)), (by first | rfl | (simp; done) | (simp [*]; done)), (by first | rfl | (simp; done) | (simp [*]; done)), (by first | rfl | (simp; done) | (simp [*]; done)), H', ⟨by have := HJ1.out; have := HK2.out; have := HJ9.out; have := HJ18.out; omega⟩, ⟨by repeat (first | (with_reducible first | exact HB.out | apply below_alloc | apply pw_below_drewN | apply below_drew1) | exact HB.out)⟩⟩
                            · rw [if_neg c23] at H
                              exact absurd H (by simp)
                          · rw [if_neg c22] at H
                            have c22b0 : (x5_2.toList == ([] : List UInt8)) = false := beq_eq_false_iff_ne.mpr c22
                            have c22b1 : (x5_2.toList != ([] : List UInt8)) = true := bne_iff_ne.mpr c22
                            by_cases c24 : x4_2.toList = ([] : List UInt8)
                            · rw [if_pos c24] at H
                              have c24b0 : (x4_2.toList == ([] : List UInt8)) = true := beq_iff_eq.mpr c24
                              have c24b1 : (x4_2.toList != ([] : List UInt8)) = false := bne_eq_false_iff_eq.mpr c24
                              clear c24
                              by_cases c25 : x4_2.size + x5_2.size ≤ 9223372036854775807
                              · rw [if_pos c25] at H
                                have c25b0 := eq_true c25
                                have c25b1 : decide (x4_2.size + x5_2.size ≤ 9223372036854775807) = true := decide_eq_true c25
                                try have c25b2 : (9223372036854775807 < x4_2.size + x5_2.size) = False := eq_false (Nat.not_lt.2 c25)
                                have H' := Aside0.mk H
                                clear H
                                go_wp2
                                go_roundg kj18
                                case measure => have := HJ1.out; have := HK2.out; have := HJ9.out; have := HJ18.out; omega
                                case rel => exact ⟨(x4_2 ++ x5_2), ((⟨#[]⟩ : ByteArray)), (wrap64 (x6_2 + 1)), (by first | rfl | (simp; done) | (simp [*]; done)), (by first | rfl | (simp; done) | (simp [*]; done)), (by first | rfl | (simp; done) | (simp [*]; done)), H', ⟨by have := HJ1.out; have := HK2.out; have := HJ9.out; have := HJ18.out; omega⟩, ⟨by repeat (first | (with_reducible first | exact HB.out | apply below_alloc | apply pw_below_drewN | apply below_drew1) | exact HB.out)⟩⟩
                              · rw [if_neg c25] at H
                                exact absurd H (by simp)
                            · rw [if_neg c24] at H
                              have c24b0 : (x4_2.toList == ([] : List UInt8)) = false := beq_eq_false_iff_ne.mpr c24
                              have c24b1 : (x4_2.toList != ([] : List UInt8)) = true := bne_iff_ne.mpr c24
                              by_cases c26 : x4_2.size + 1 ≤ 9223372036854775807
                              · rw [if_pos c26] at H
                                have c26b0 := eq_true c26
                                have c26b1 : decide (x4_2.size + 1 ≤ 9223372036854775807) = true := decide_eq_true c26
                                try have c26b2 : (9223372036854775807 < x4_2.size + 1) = False := eq_false (Nat.not_lt.2 c26)
                                by_cases c27 : (x4_2 ++ (⟨#[47]⟩ : ByteArray)).size + x5_2.size ≤ 9223372036854775807
                                · rw [if_pos c27] at H
                                  have c27b0 := eq_true c27
                                  have c27b1 : decide ((x4_2 ++ (⟨#[47]⟩ : ByteArray)).size + x5_2.size ≤ 9223372036854775807) = true := decide_eq_true c27
                                  try have c27b2 : (9223372036854775807 < (x4_2 ++ (⟨#[47]⟩ : ByteArray)).size + x5_2.size) = False := eq_false (Nat.not_lt.2 c27)
                                  have H' := Aside0.mk H
                                  clear H
                                  go_wp2
                                  go_roundg kj18
                                  case measure => have := HJ1.out; have := HK2.out; have := HJ9.out; have := HJ18.out; omega
                                  case rel => exact ⟨((x4_2 ++ (⟨#[47]⟩ : ByteArray)) ++ x5_2), ((⟨#[]⟩ : ByteArray)), (wrap64 (x6_2 + 1)), (by first | rfl | (simp; done) | (simp [*]; done)), (by first | rfl | (simp; done) | (simp [*]; done)), (by first | rfl | (simp; done) | (simp [*]; done)), H', ⟨by have := HJ1.out; have := HK2.out; have := HJ9.out; have := HJ18.out; omega⟩, ⟨by repeat (first | (with_reducible first | exact HB.out | apply below_alloc | apply pw_below_drewN | apply below_drew1) | exact HB.out)⟩⟩
                                · rw [if_neg c27] at H
                                  exact absurd H (by simp)
                              · rw [if_neg c26] at H
                                exact absurd H (by simp)
            · rw [if_neg c9] at H
              have c9b0 : decide (x6_2 ≤ (a0.size : Int)) = false := decide_eq_false c9
              clear c9
              by_cases c28 : x4_2.toList = ([] : List UInt8)
              · rw [if_pos c28] at H
                have c28b0 : (x4_2.toList == ([] : List UInt8)) = true := beq_iff_eq.mpr c28
                have c28b1 : (x4_2.toList != ([] : List UInt8)) = false := bne_eq_false_iff_eq.mpr c28
                clear c28
                simp only [Option.some.injEq, Prod.mk.injEq] at H
                obtain ⟨rfl, rfl⟩ := H
                go_wp2
                go_ret2
                exact ⟨by first | rfl | (simp [errW_none, errW_some] <;> rfl) | (simp [*, errW_none, errW_some] <;> rfl), by repeat (first | (with_reducible first | exact HB.out | apply below_alloc | apply pw_below_drewN | apply below_drew1) | exact HB.out)⟩
              · rw [if_neg c28] at H
                have c28b0 : (x4_2.toList == ([] : List UInt8)) = false := beq_eq_false_iff_ne.mpr c28
                have c28b1 : (x4_2.toList != ([] : List UInt8)) = true := bne_iff_ne.mpr c28
                replace H := Option.bind_eq_some_iff.mp H
                obtain ⟨t166, A290, H⟩ := H
                replace H : (some (t166, 1)) = some (r1, r2) := H
                have A29 := Aside0.mk A290
                clear A290
                simp only [Option.some.injEq, Prod.mk.injEq] at H
                obtain ⟨rfl, rfl⟩ := H
                go_wp2_with (first | ((with_reducible refine gate_callee (f := 30) rfl ?_); refine goesL_ (some 62) rfl rfl Tryd.func30 (by kernel_rfl) rfl #[.string x4_2] rfl (by (try simp only [List.map_toArray, List.map_cons, List.map_nil]); first | done | rfl | (simp only [List.length_drop, List.length_take]; rfl)) ?_; (with_reducible refine (spec_escaped.calls k2 x4_2 t166 _ A29.out).mono ?_); rintro e w30 ⟨rfl, hb⟩; refine ⟨_, rfl, ?_⟩; have n0_ := Aside0.mk (below_step (by repeat (first | (with_reducible first | exact HB.out | apply below_alloc | apply pw_below_drewN | apply below_drew1) | exact HB.out)) hb); clear HB; have HB := n0_; clear n0_; (try clear hb); (try clear hb2); (try clear hk); (try clear hi)))
                go_ret2
                exact ⟨by first | rfl | (simp [errW_none, errW_some] <;> rfl) | (simp [*, errW_none, errW_some] <;> rfl), by repeat (first | (with_reducible first | exact HB.out | apply below_alloc | apply pw_below_drewN | apply below_drew1) | exact HB.out)⟩

end Go.Proofs.YtgnfapnnbcafbaaDoor.GNU
