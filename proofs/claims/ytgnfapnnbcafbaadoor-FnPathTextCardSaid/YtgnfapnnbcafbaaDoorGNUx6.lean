-- printed by gprint.py (a session's own turn of the kit's print): NU
import Derived.Test.YtgnfapnnbcafbaaDoorGNUx0
import Derived.Test.YtgnfapnnbcafbaaDoorGNUx2
import Derived.Test.YtgnfapnnbcafbaaDoorGNUx3
import Derived.Test.YtgnfapnnbcafbaaDoorGNUx5
import Derived.Test.YtgnfapnnbcafbaaDoorGivenPU
import Derived.Test.YtgnfapnnbcafbaaDoorGivenNU
import Derived.Test.YtgnfapnnbcafbaaDoorGivenUN
namespace Go.Proofs.YtgnfapnnbcafbaaDoor.GNU
open Go.RowKit Go.Proofs.YtgnfapnnbcafbaaDoorW.PrintWords Go.Proofs.YtgnfapnnbcafbaaDoorW.PrintLast Go.Proofs.YtgnfapnnbcafbaaDoorW.PrintMore
attribute [local go_sem] max2_int min2_int max_two min_two max_three min_three max_four min_four   -- for this text's walks alone
set_option linter.unusedVariables false
set_option linter.unusedSimpArgs false

/-! ### spec_UnescapePath: function 13 -/
mutual
def spec_UnescapePath.j0 : Nat → ByteArray → Bool → Option (ByteArray × Int)
  | 0, _, _ => none
  | k + 1, x4, x28 => if x28 = true then (some ((⟨#[]⟩ : ByteArray), 2)) else (spec_UnescapePath.l0 k x4 1)
def spec_UnescapePath.l0 : Nat → ByteArray → Int → Option (ByteArray × Int)
  | 0, _, _ => none
  | k + 1, x4, x6 => if x6 < (x4.size : Int) then (if 0 ≤ x6 then (if (bt x4 x6) = 47 then (if 0 ≤ (wrap64 (x6 - 1)) then (if (wrap64 (x6 - 1)) < (x4.size : Int) then (if (bt x4 (wrap64 (x6 - 1))) = 47 then (some ((⟨#[]⟩ : ByteArray), 2)) else (spec_UnescapePath.l0 k x4 (wrap64 (x6 + 1)))) else (none)) else (none)) else (spec_UnescapePath.l0 k x4 (wrap64 (x6 + 1)))) else (none)) else (if 1 + x4.size ≤ 9223372036854775807 then (some ((⟨#[47]⟩ : ByteArray) ++ x4, 1)) else (none))
end
def spec_UnescapePath.f (k : Nat) (a0 : ByteArray) : Option (ByteArray × Int) := if a0.toList = ([45] : List UInt8) then (some ((⟨#[47]⟩ : ByteArray), 1)) else ((spec_Unescape.f k a0).bind fun bt167 => (if bt167.2 = 1 then (if 0 < (bt167.1.size : Int) then (if (bt bt167.1 0) = 47 then (spec_UnescapePath.j0 k bt167.1 true) else (if 0 ≤ (wrap64 ((bt167.1.size : Int) - 1)) then (if (wrap64 ((bt167.1.size : Int) - 1)) < (bt167.1.size : Int) then (spec_UnescapePath.j0 k bt167.1 ((bt bt167.1 (wrap64 ((bt167.1.size : Int) - 1))) == 47)) else (none)) else (none))) else (none)) else (spec_UnescapePath.j0 k bt167.1 true)))
theorem spec_UnescapePath.mono_l : ∀ k, (∀ y0 y1, LeO (spec_UnescapePath.j0 k y0 y1) (spec_UnescapePath.j0 (k + 1) y0 y1)) ∧ (∀ y0 y1, LeO (spec_UnescapePath.l0 k y0 y1) (spec_UnescapePath.l0 (k + 1) y0 y1))
  | 0 => ⟨fun _ _ r h => by simp [spec_UnescapePath.j0] at h, fun _ _ r h => by simp [spec_UnescapePath.l0] at h⟩
  | k + 1 => by
    obtain ⟨ih0, ih1⟩ := spec_UnescapePath.mono_l k
    refine ⟨?_, ?_⟩
    · intro y0 y1
      unfold spec_UnescapePath.j0
      repeat' first
      | (with_reducible exact ih0 _ _)
      | (with_reducible exact ih1 _ _)
      | (with_reducible exact spec_Unescape.mono _ _)
      | (with_reducible exact LeO.refl _)
      | (with_reducible exact LeO.none _)
      | (with_reducible refine LeO.ite ?_ ?_)
      | (with_reducible refine LeO.bind ?_ (fun _ => ?_))
      | exact ih0 _ _
      | exact ih1 _ _
      | exact spec_Unescape.mono _ _
      | exact LeO.none _
      | refine LeO.ite ?_ ?_
      | refine LeO.bind ?_ (fun _ => ?_)
    · intro y0 y1
      unfold spec_UnescapePath.l0
      repeat' first
      | (with_reducible exact ih0 _ _)
      | (with_reducible exact ih1 _ _)
      | (with_reducible exact spec_Unescape.mono _ _)
      | (with_reducible exact LeO.refl _)
      | (with_reducible exact LeO.none _)
      | (with_reducible refine LeO.ite ?_ ?_)
      | (with_reducible refine LeO.bind ?_ (fun _ => ?_))
      | exact ih0 _ _
      | exact ih1 _ _
      | exact spec_Unescape.mono _ _
      | exact LeO.none _
      | refine LeO.ite ?_ ?_
      | refine LeO.bind ?_ (fun _ => ?_)
theorem spec_UnescapePath.mono : ∀ a0 k, LeO (spec_UnescapePath.f k a0) (spec_UnescapePath.f (k + 1) a0) := by
  intro a0 k
  obtain ⟨ih0, ih1⟩ := spec_UnescapePath.mono_l k
  unfold spec_UnescapePath.f
  repeat' first
      | (with_reducible exact ih0 _ _)
      | (with_reducible exact ih1 _ _)
      | (with_reducible exact spec_Unescape.mono _ _)
      | (with_reducible exact LeO.refl _)
      | (with_reducible exact LeO.none _)
      | (with_reducible refine LeO.ite ?_ ?_)
      | (with_reducible refine LeO.bind ?_ (fun _ => ?_))
      | exact ih0 _ _
      | exact ih1 _ _
      | exact spec_Unescape.mono _ _
      | exact LeO.none _
      | refine LeO.ite ?_ ?_
      | refine LeO.bind ?_ (fun _ => ?_)
set_option maxHeartbeats 8000000 in
set_option maxRecDepth 100000 in
theorem spec_UnescapePath.calls (k : Nat) (a0 : ByteArray) (r1 : ByteArray) (r2 : Int) (w : World) (h : spec_UnescapePath.f k a0 = some (r1, r2)) :
    Calls Tryd.prog 13 #[.string a0] w fun e w' => e = .returned (.tuple #[.string r1, .int .i64 r2]) ∧ Below w.heap.size w w' := by
  have HB := Aside0.mk (Below.refl w.heap.size w)
  have H : (if a0.toList = ([45] : List UInt8) then (some ((⟨#[47]⟩ : ByteArray), 1)) else ((spec_Unescape.f k a0).bind fun bt167 => (if bt167.2 = 1 then (if 0 < (bt167.1.size : Int) then (if (bt bt167.1 0) = 47 then (spec_UnescapePath.j0 k bt167.1 true) else (if 0 ≤ (wrap64 ((bt167.1.size : Int) - 1)) then (if (wrap64 ((bt167.1.size : Int) - 1)) < (bt167.1.size : Int) then (spec_UnescapePath.j0 k bt167.1 ((bt bt167.1 (wrap64 ((bt167.1.size : Int) - 1))) == 47)) else (none)) else (none))) else (none)) else (spec_UnescapePath.j0 k bt167.1 true)))) = some (r1, r2) := h
  clear h
  by_cases c2 : a0.toList = ([45] : List UInt8)
  · rw [if_pos c2] at H
    have c2b0 : (a0.toList == ([45] : List UInt8)) = true := beq_iff_eq.mpr c2
    have c2b1 : (a0.toList != ([45] : List UInt8)) = false := bne_eq_false_iff_eq.mpr c2
    clear c2
    simp only [Option.some.injEq, Prod.mk.injEq] at H
    obtain ⟨rfl, rfl⟩ := H
    go_enter Tryd.func13, Tryd.ntmps13
    go_wp2
    go_ret2
    exact ⟨by first | rfl | (simp [errW_none, errW_some] <;> rfl) | (simp [*, errW_none, errW_some] <;> rfl), by repeat (first | (with_reducible first | exact HB.out | apply below_alloc | apply pw_below_drewN | apply below_drew1) | exact HB.out)⟩
  · rw [if_neg c2] at H
    have c2b0 : (a0.toList == ([45] : List UInt8)) = false := beq_eq_false_iff_ne.mpr c2
    have c2b1 : (a0.toList != ([45] : List UInt8)) = true := bne_iff_ne.mpr c2
    replace H := Option.bind_eq_some_iff.mp H
    obtain ⟨⟨t167, t168⟩, A30, H⟩ := H
    replace H : (if t168 = 1 then (if 0 < (t167.size : Int) then (if (bt t167 0) = 47 then (spec_UnescapePath.j0 k t167 true) else (if 0 ≤ (wrap64 ((t167.size : Int) - 1)) then (if (wrap64 ((t167.size : Int) - 1)) < (t167.size : Int) then (spec_UnescapePath.j0 k t167 ((bt t167 (wrap64 ((t167.size : Int) - 1))) == 47)) else (none)) else (none))) else (none)) else (spec_UnescapePath.j0 k t167 true)) = some (r1, r2) := H
    have A3 := Aside0.mk A30
    clear A30
    have HC4 := Aside0.mk H
    clear H
    go_enter Tryd.func13, Tryd.ntmps13
    go_upto_region 4 with (first | ((with_reducible refine gate_callee (f := 9) rfl ?_); refine goesL_ (some 11) rfl rfl Tryd.func9 (by kernel_rfl) rfl #[.string a0] rfl (by (try simp only [List.map_toArray, List.map_cons, List.map_nil]); first | done | rfl | (simp only [List.length_drop, List.length_take]; rfl)) ?_; (with_reducible refine (spec_Unescape.calls k a0 t167 t168 _ A3.out).mono ?_); rintro e w5 ⟨rfl, hb⟩; refine ⟨_, rfl, ?_⟩; have n0_ := Aside0.mk (below_step (by repeat (first | (with_reducible first | exact HB.out | apply below_alloc | apply pw_below_drewN | apply below_drew1) | exact HB.out)) hb); clear HB; have HB := n0_; clear n0_; (try clear hb); (try clear hb2); (try clear hk); (try clear hi)))
    (try simp only [Act.put, List.setIfInBounds_toArray, List.set_cons_zero, List.set_cons_succ])
    go_cut [28] (fun v28 wc => ∃ (kq : Nat) (x28_3 : Bool), v28 = .bool x28_3 ∧ Aside0 (spec_UnescapePath.j0 kq t167 x28_3 = some (r1, r2)) ∧ Aside0 (kq ≤ k) ∧ Aside0 (Below w.heap.size w wc))
    case first =>
      have H := HC4.out
      clear HC4
      by_cases c6 : t168 = 1
      · rw [if_pos c6] at H
        have c6b0 : (t168 == 1) = true := beq_iff_eq.mpr c6
        have c6b1 : (t168 != 1) = false := bne_eq_false_iff_eq.mpr c6
        clear c6
        (first | rw [c6b0] | (simp only [i64_w, i32_w]; rw [c6b0]) | skip)
        by_cases c7 : 0 < (t167.size : Int)
        · rw [if_pos c7] at H
          have c7b0 : decide (0 < (t167.size : Int)) = true := decide_eq_true c7
          have c7b1 : decide (0 < t167.size) = true := decide_eq_true (by omega)
          clear c7
          by_cases c9 : (bt t167 0) = 47
          · rw [if_pos c9] at H
            have c9b0 : ((bt t167 0) == 47) = true := beq_iff_eq.mpr c9
            have c9b1 : ((bt t167 0) != 47) = false := bne_eq_false_iff_eq.mpr c9
            clear c9
            have H' := Aside0.mk H
            clear H
            have p8 : 0 ≤ (0 : Int) := (by omega)
            have q8 : 0 < t167.size := (by have : (0 : Int) < (t167.size : Int) := of_decide_eq_true (by first | (with_reducible assumption) | assumption); omega)
            have hx8 : ∀ h : 0 < t167.size, ((t167[0]'h).toNat : Int) = bt t167 0 := bt_at t167 0
            clear p8
            have qi8 : (0 < (t167.size : Int)) = True := eq_true (of_decide_eq_true (by first | (with_reducible assumption) | assumption))
            replace q8 := eq_true q8
            go_wp2
            go_meet
            case rel => exact ⟨_, (true), (by first | rfl | (simp; done) | (simp [*]; done)), H', ⟨by first | omega | exact Nat.le_refl _⟩, ⟨by repeat (first | (with_reducible first | exact HB.out | apply below_alloc | apply pw_below_drewN | apply below_drew1) | exact HB.out)⟩⟩
          · rw [if_neg c9] at H
            have c9b0 : ((bt t167 0) == 47) = false := beq_eq_false_iff_ne.mpr c9
            have c9b1 : ((bt t167 0) != 47) = true := bne_iff_ne.mpr c9
            obtain ⟨ji10, hji10⟩ : ∃ j_ : Int, (wrap64 ((t167.size : Int) - 1)) = j_ := ⟨_, rfl⟩
            replace H : (if 0 ≤ (ji10) then (if (ji10) < (t167.size : Int) then (spec_UnescapePath.j0 k t167 ((bt t167 (ji10)) == 47)) else (none)) else (none)) = some (r1, r2) := by first | (rw [hji10] at H; exact H) | (simp only [hji10] at H ⊢; exact H)
            have hji10w : (IntKind.i64.wrap ((t167.size : Int) - 1)) = ji10 := (i64_w _).trans hji10
            by_cases c11 : 0 ≤ (ji10)
            · rw [if_pos c11] at H
              have c11b0 : decide (0 ≤ (ji10)) = true := decide_eq_true c11
              clear c11
              by_cases c12 : (ji10) < (t167.size : Int)
              · rw [if_pos c12] at H
                have c12b0 : decide ((ji10) < (t167.size : Int)) = true := decide_eq_true c12
                clear c12
                have H' := Aside0.mk H
                clear H
                have p8 : 0 ≤ (0 : Int) := (by omega)
                have q8 : 0 < t167.size := (by have : (0 : Int) < (t167.size : Int) := of_decide_eq_true (by first | (with_reducible assumption) | assumption); omega)
                have hx8 : ∀ h : 0 < t167.size, ((t167[0]'h).toNat : Int) = bt t167 0 := bt_at t167 0
                clear p8
                have qi8 : (0 < (t167.size : Int)) = True := eq_true (of_decide_eq_true (by first | (with_reducible assumption) | assumption))
                replace q8 := eq_true q8
                have p13 : 0 ≤ ((ji10) : Int) := of_decide_eq_true (by first | (with_reducible assumption) | assumption)
                have q13 : (ji10) < (t167.size : Int) := of_decide_eq_true (by first | (with_reducible assumption) | assumption)
                have hx13 := bt_at t167 (ji10)
                replace p13 := eq_true p13
                replace q13 := eq_true q13
                go_wp2
                go_meet
                case rel => exact ⟨_, (((bt t167 (ji10)) == 47)), (by first | rfl | (simp; done) | (simp only [← hji10] <;> (first | rfl | simp)) | (simp [*]; done)), H', ⟨by first | omega | exact Nat.le_refl _⟩, ⟨by repeat (first | (with_reducible first | exact HB.out | apply below_alloc | apply pw_below_drewN | apply below_drew1) | exact HB.out)⟩⟩
              · rw [if_neg c12] at H
                exact absurd H (by simp)
            · rw [if_neg c11] at H
              exact absurd H (by simp)
        · rw [if_neg c7] at H
          exact absurd H (by simp)
      · rw [if_neg c6] at H
        have c6b0 : (t168 == 1) = false := beq_eq_false_iff_ne.mpr c6
        have c6b1 : (t168 != 1) = true := bne_iff_ne.mpr c6
        (first | rw [c6b0] | (simp only [i64_w, i32_w]; rw [c6b0]) | skip)
        have H' := Aside0.mk H
        clear H
        go_wp2
        go_meet
        case rel => exact ⟨_, (true), (by first | rfl | (simp; done) | (simp [*]; done)), H', ⟨by first | omega | exact Nat.le_refl _⟩, ⟨by repeat (first | (with_reducible first | exact HB.out | apply below_alloc | apply pw_below_drewN | apply below_drew1) | exact HB.out)⟩⟩
    case rest =>
      clear HC4
      try clear c1
      try clear p1
      try clear q1
      try clear hx1
      try clear c2
      try clear c2b0
      try clear c2b1
      try clear p2
      try clear c6
      try clear c6b0
      try clear c6b1
      try clear p6
      try clear c7
      try clear c7b0
      try clear c7b1
      try clear p8
      try clear q8
      try clear hx8
      try clear qi8
      try clear c9
      try clear c9b0
      try clear c9b1
      try clear c11
      try clear c11b0
      try clear c12
      try clear c12b0
      try clear c13
      try clear p13
      try clear q13
      try clear hx13
      try clear p13
      try clear p8
      try clear q13
      try clear q8
      obtain ⟨kq, x28_3, rfl, HA, HJ3, HB⟩ := hcut
      cases kq with
      | zero => exact absurd HA.out (by simp [spec_UnescapePath.j0])
      | succ kj3 =>
        have H := HA.out
        clear HA
        simp only [spec_UnescapePath.j0] at H
        by_cases c14 : x28_3 = true
        · subst c14
          have H1 : (some ((⟨#[]⟩ : ByteArray), 2)) = some (r1, r2) := by rw [if_pos rfl] at H; exact H
          clear H
          have H := H1
          clear H1
          simp only [Option.some.injEq, Prod.mk.injEq] at H
          obtain ⟨rfl, rfl⟩ := H
          go_wp2
          go_ret2
          exact ⟨by first | rfl | (simp [errW_none, errW_some] <;> rfl) | (simp [*, errW_none, errW_some] <;> rfl), by repeat (first | (with_reducible first | exact HB.out | apply below_alloc | apply pw_below_drewN | apply below_drew1) | exact HB.out)⟩
        · replace c14 := Bool.eq_false_iff.mpr c14
          subst c14
          have H1 : (spec_UnescapePath.l0 kj3 t167 1) = some (r1, r2) := by rw [if_neg (show ¬ (false = true) by decide)] at H; exact H
          clear H
          have H := H1
          clear H1
          have H' := Aside0.mk H
          clear H
          go_wp2
          go_loopg [6] kj3 (fun kq v6 w' => ∃ (x6_2 : Int), v6 = .int .i64 x6_2 ∧ Aside0 (spec_UnescapePath.l0 kq t167 x6_2 = some (r1, r2)) ∧ Aside0 (kq ≤ kj3) ∧ Aside0 (Below w.heap.size w w'))
          case atStart => exact ⟨(1), (by first | rfl | (simp; done) | (simp [*]; done)), H', ⟨Nat.le_refl _⟩, ⟨by repeat (first | (with_reducible first | exact HB.out | apply below_alloc | apply pw_below_drewN | apply below_drew1) | exact HB.out)⟩⟩
          case round =>
            clear H'
            try clear c1
            try clear p1
            try clear q1
            try clear hx1
            try clear c2
            try clear c2b0
            try clear c2b1
            try clear p2
            try clear c6
            try clear c6b0
            try clear c6b1
            try clear p6
            try clear c7
            try clear c7b0
            try clear c7b1
            try clear p8
            try clear q8
            try clear hx8
            try clear qi8
            try clear c9
            try clear c9b0
            try clear c9b1
            try clear c11
            try clear c11b0
            try clear c12
            try clear c12b0
            try clear c13
            try clear p13
            try clear q13
            try clear hx13
            try clear c14
            try clear p1
            try clear p13
            try clear p2
            try clear p6
            try clear p8
            try clear q1
            try clear q13
            try clear q8
            obtain ⟨x6_2, rfl, HA, HK2, HB⟩ := hrel
            cases gk with
            | zero => exact absurd HA.out (by simp [spec_UnescapePath.l0])
            | succ k2 =>
              have H := HA.out
              clear HA
              simp only [spec_UnescapePath.l0] at H
              by_cases c15 : x6_2 < (t167.size : Int)
              · rw [if_pos c15] at H
                have c15b0 : decide (x6_2 < (t167.size : Int)) = true := decide_eq_true c15
                clear c15
                by_cases c16 : 0 ≤ x6_2
                · rw [if_pos c16] at H
                  have c16b0 : decide (0 ≤ x6_2) = true := decide_eq_true c16
                  clear c16
                  by_cases c18 : (bt t167 x6_2) = 47
                  · rw [if_pos c18] at H
                    have c18b0 : ((bt t167 x6_2) == 47) = true := beq_iff_eq.mpr c18
                    have c18b1 : ((bt t167 x6_2) != 47) = false := bne_eq_false_iff_eq.mpr c18
                    clear c18
                    obtain ⟨ji19, hji19⟩ : ∃ j_ : Int, (wrap64 (x6_2 - 1)) = j_ := ⟨_, rfl⟩
                    replace H : (if 0 ≤ (ji19) then (if (ji19) < (t167.size : Int) then (if (bt t167 (ji19)) = 47 then (some ((⟨#[]⟩ : ByteArray), 2)) else (spec_UnescapePath.l0 k2 t167 (wrap64 (x6_2 + 1)))) else (none)) else (none)) = some (r1, r2) := by first | (rw [hji19] at H; exact H) | (simp only [hji19] at H ⊢; exact H)
                    have hji19w : (IntKind.i64.wrap (x6_2 - 1)) = ji19 := (i64_w _).trans hji19
                    by_cases c20 : 0 ≤ (ji19)
                    · rw [if_pos c20] at H
                      have c20b0 : decide (0 ≤ (ji19)) = true := decide_eq_true c20
                      clear c20
                      by_cases c21 : (ji19) < (t167.size : Int)
                      · rw [if_pos c21] at H
                        have c21b0 : decide ((ji19) < (t167.size : Int)) = true := decide_eq_true c21
                        clear c21
                        by_cases c23 : (bt t167 (ji19)) = 47
                        · rw [if_pos c23] at H
                          have c23b0 : ((bt t167 (ji19)) == 47) = true := beq_iff_eq.mpr c23
                          have c23b1 : ((bt t167 (ji19)) != 47) = false := bne_eq_false_iff_eq.mpr c23
                          clear c23
                          simp only [Option.some.injEq, Prod.mk.injEq] at H
                          obtain ⟨rfl, rfl⟩ := H
                          have p17 : 0 ≤ (x6_2 : Int) := of_decide_eq_true (by first | (with_reducible assumption) | assumption)
                          have q17 : x6_2 < (t167.size : Int) := of_decide_eq_true (by first | (with_reducible assumption) | assumption)
                          have hx17 := bt_at t167 x6_2
                          replace p17 := eq_true p17
                          replace q17 := eq_true q17
                          have p22 : 0 ≤ ((ji19) : Int) := of_decide_eq_true (by first | (with_reducible assumption) | assumption)
                          have q22 : (ji19) < (t167.size : Int) := of_decide_eq_true (by first | (with_reducible assumption) | assumption)
                          have hx22 := bt_at t167 (ji19)
                          replace p22 := eq_true p22
                          replace q22 := eq_true q22
                          go_wp2
                          go_ret2
                          exact ⟨by first | rfl | (simp [errW_none, errW_some] <;> rfl) | (simp only [← hji19]; first | rfl | (simp [errW_none, errW_some] <;> rfl)) | (simp [*, errW_none, errW_some] <;> rfl), by repeat (first | (with_reducible first | exact HB.out | apply below_alloc | apply pw_below_drewN | apply below_drew1) | exact HB.out)⟩
                        · rw [if_neg c23] at H
                          have c23b0 : ((bt t167 (ji19)) == 47) = false := beq_eq_false_iff_ne.mpr c23
                          have c23b1 : ((bt t167 (ji19)) != 47) = true := bne_iff_ne.mpr c23
                          have H' := Aside0.mk H
                          clear H
                          have p17 : 0 ≤ (x6_2 : Int) := of_decide_eq_true (by first | (with_reducible assumption) | assumption)
                          have q17 : x6_2 < (t167.size : Int) := of_decide_eq_true (by first | (with_reducible assumption) | assumption)
                          have hx17 := bt_at t167 x6_2
                          replace p17 := eq_true p17
                          replace q17 := eq_true q17
                          have p22 : 0 ≤ ((ji19) : Int) := of_decide_eq_true (by first | (with_reducible assumption) | assumption)
                          have q22 : (ji19) < (t167.size : Int) := of_decide_eq_true (by first | (with_reducible assumption) | assumption)
                          have hx22 := bt_at t167 (ji19)
                          replace p22 := eq_true p22
                          replace q22 := eq_true q22
                          go_wp2
                          go_roundg k2
                          case measure => have := HJ3.out; have := HK2.out; omega
                          case rel => exact ⟨(wrap64 (x6_2 + 1)), (by first | rfl | (simp; done) | (simp [*]; done)), H', ⟨by have := HJ3.out; have := HK2.out; omega⟩, ⟨by repeat (first | (with_reducible first | exact HB.out | apply below_alloc | apply pw_below_drewN | apply below_drew1) | exact HB.out)⟩⟩
                      · rw [if_neg c21] at H
                        exact absurd H (by simp)
                    · rw [if_neg c20] at H
                      exact absurd H (by simp)
                  · rw [if_neg c18] at H
                    have c18b0 : ((bt t167 x6_2) == 47) = false := beq_eq_false_iff_ne.mpr c18
                    have c18b1 : ((bt t167 x6_2) != 47) = true := bne_iff_ne.mpr c18
                    have H' := Aside0.mk H
                    clear H
                    have p17 : 0 ≤ (x6_2 : Int) := of_decide_eq_true (by first | (with_reducible assumption) | assumption)
                    have q17 : x6_2 < (t167.size : Int) := of_decide_eq_true (by first | (with_reducible assumption) | assumption)
                    have hx17 := bt_at t167 x6_2
                    replace p17 := eq_true p17
                    replace q17 := eq_true q17
                    go_wp2
                    go_roundg k2
                    case measure => have := HJ3.out; have := HK2.out; omega
                    case rel => exact ⟨(wrap64 (x6_2 + 1)), (by first | rfl | (simp; done) | (simp [*]; done)), H', ⟨by have := HJ3.out; have := HK2.out; omega⟩, ⟨by repeat (first | (with_reducible first | exact HB.out | apply below_alloc | apply pw_below_drewN | apply below_drew1) | exact HB.out)⟩⟩
                · rw [if_neg c16] at H
                  exact absurd H (by simp)
              · rw [if_neg c15] at H
                have c15b0 : decide (x6_2 < (t167.size : Int)) = false := decide_eq_false c15
                clear c15
                by_cases c24 : 1 + t167.size ≤ 9223372036854775807
                · rw [if_pos c24] at H
                  have c24b0 := eq_true c24
                  have c24b1 : decide (1 + t167.size ≤ 9223372036854775807) = true := decide_eq_true c24
                  try have c24b2 : (9223372036854775807 < 1 + t167.size) = False := eq_false (Nat.not_lt.2 c24)
                  simp only [Option.some.injEq, Prod.mk.injEq] at H
                  obtain ⟨rfl, rfl⟩ := H
                  go_wp2
                  go_ret2
                  exact ⟨by first | rfl | (simp [errW_none, errW_some] <;> rfl) | (simp [*, errW_none, errW_some] <;> rfl), by repeat (first | (with_reducible first | exact HB.out | apply below_alloc | apply pw_below_drewN | apply below_drew1) | exact HB.out)⟩
                · rw [if_neg c24] at H
                  exact absurd H (by simp)

/-! ### unit_UnitNamePathEscape: function 31 -/
def unit_UnitNamePathEscape.f (k : Nat) (a0 : ByteArray) : Option (ByteArray) := (unit_escape.f k a0 true).bind fun t169 => (some t169)
theorem unit_UnitNamePathEscape.mono : ∀ a0 k, LeO (unit_UnitNamePathEscape.f k a0) (unit_UnitNamePathEscape.f (k + 1) a0) := by
  intro a0 k
  unfold unit_UnitNamePathEscape.f
  repeat' first
      | (with_reducible exact unit_escape.mono _ _ _)
      | (with_reducible exact LeO.refl _)
      | (with_reducible exact LeO.none _)
      | (with_reducible refine LeO.ite ?_ ?_)
      | (with_reducible refine LeO.bind ?_ (fun _ => ?_))
      | exact unit_escape.mono _ _ _
      | exact LeO.none _
      | refine LeO.ite ?_ ?_
      | refine LeO.bind ?_ (fun _ => ?_)
set_option maxHeartbeats 8000000 in
set_option maxRecDepth 100000 in
theorem unit_UnitNamePathEscape.calls (k : Nat) (a0 : ByteArray) (r : ByteArray) (w : World) (h : unit_UnitNamePathEscape.f k a0 = some r) :
    Calls Tryd.prog 31 #[.string a0] w fun e w' => e = .returned (.string r) ∧ Below w.heap.size w w' := by
  have HB := Aside0.mk (Below.refl w.heap.size w)
  have H : ((unit_escape.f k a0 true).bind fun t169 => (some t169)) = some r := h
  clear h
  replace H := Option.bind_eq_some_iff.mp H
  obtain ⟨t169, A20, H⟩ := H
  replace H : (some t169) = some r := H
  have A2 := Aside0.mk A20
  clear A20
  obtain rfl := Option.some.inj H
  go_enter Tryd.func31, Tryd.ntmps31
  go_wp2_with (first | ((with_reducible refine gate_callee (f := 43) rfl ?_); refine goesL_ (some 4) rfl rfl Tryd.func43 (by kernel_rfl) rfl #[.string a0, .bool true] rfl (by (try simp only [List.map_toArray, List.map_cons, List.map_nil]); first | done | rfl | (simp only [List.length_drop, List.length_take]; rfl)) ?_; (with_reducible refine (unit_escape.calls k a0 true t169 _ A2.out).mono ?_); rintro e w3 ⟨rfl, hb⟩; refine ⟨_, rfl, ?_⟩; have n0_ := Aside0.mk (below_step (by repeat (first | (with_reducible first | exact HB.out | apply below_alloc | apply pw_below_drewN | apply below_drew1) | exact HB.out)) hb); clear HB; have HB := n0_; clear n0_; (try clear hb); (try clear hb2); (try clear hk); (try clear hi)))
  go_ret
  exact ⟨by first | rfl | (simp [errW_none, errW_some] <;> rfl) | (simp [*, errW_none, errW_some] <;> rfl), by repeat (first | (with_reducible first | exact HB.out | apply below_alloc | apply pw_below_drewN | apply below_drew1) | exact HB.out)⟩

/-! ### impl_PathEscape: function 14 -/
def impl_PathEscape.f (k : Nat) (a0 : ByteArray) : Option (ByteArray) := (unit_UnitNamePathEscape.f k a0).bind fun t170 => (some t170)
theorem impl_PathEscape.mono : ∀ a0 k, LeO (impl_PathEscape.f k a0) (impl_PathEscape.f (k + 1) a0) := by
  intro a0 k
  unfold impl_PathEscape.f
  repeat' first
      | (with_reducible exact unit_UnitNamePathEscape.mono _ _)
      | (with_reducible exact LeO.refl _)
      | (with_reducible exact LeO.none _)
      | (with_reducible refine LeO.ite ?_ ?_)
      | (with_reducible refine LeO.bind ?_ (fun _ => ?_))
      | exact unit_UnitNamePathEscape.mono _ _
      | exact LeO.none _
      | refine LeO.ite ?_ ?_
      | refine LeO.bind ?_ (fun _ => ?_)
set_option maxHeartbeats 8000000 in
set_option maxRecDepth 100000 in
theorem impl_PathEscape.calls (k : Nat) (a0 : ByteArray) (r : ByteArray) (w : World) (h : impl_PathEscape.f k a0 = some r) :
    Calls Tryd.prog 14 #[.string a0] w fun e w' => e = .returned (.string r) ∧ Below w.heap.size w w' := by
  have HB := Aside0.mk (Below.refl w.heap.size w)
  have H : ((unit_UnitNamePathEscape.f k a0).bind fun t170 => (some t170)) = some r := h
  clear h
  replace H := Option.bind_eq_some_iff.mp H
  obtain ⟨t170, A20, H⟩ := H
  replace H : (some t170) = some r := H
  have A2 := Aside0.mk A20
  clear A20
  obtain rfl := Option.some.inj H
  go_enter Tryd.func14, Tryd.ntmps14
  go_wp2_with (first | ((with_reducible refine gate_callee (f := 31) rfl ?_); refine goesL_ (some 4) rfl rfl Tryd.func31 (by kernel_rfl) rfl #[.string a0] rfl (by (try simp only [List.map_toArray, List.map_cons, List.map_nil]); first | done | rfl | (simp only [List.length_drop, List.length_take]; rfl)) ?_; (with_reducible refine (unit_UnitNamePathEscape.calls k a0 t170 _ A2.out).mono ?_); rintro e w3 ⟨rfl, hb⟩; refine ⟨_, rfl, ?_⟩; have n0_ := Aside0.mk (below_step (by repeat (first | (with_reducible first | exact HB.out | apply below_alloc | apply pw_below_drewN | apply below_drew1) | exact HB.out)) hb); clear HB; have HB := n0_; clear n0_; (try clear hb); (try clear hb2); (try clear hk); (try clear hi)))
  go_ret
  exact ⟨by first | rfl | (simp [errW_none, errW_some] <;> rfl) | (simp [*, errW_none, errW_some] <;> rfl), by repeat (first | (with_reducible first | exact HB.out | apply below_alloc | apply pw_below_drewN | apply below_drew1) | exact HB.out)⟩

/-! ### unit_UnitNamePathUnescape: function 32 -/
def unit_UnitNamePathUnescape.f (k : Nat) (a0 : ByteArray) : Option (ByteArray) := (unit_unescape.f k a0 true).bind fun t171 => (some t171)
theorem unit_UnitNamePathUnescape.mono : ∀ a0 k, LeO (unit_UnitNamePathUnescape.f k a0) (unit_UnitNamePathUnescape.f (k + 1) a0) := by
  intro a0 k
  unfold unit_UnitNamePathUnescape.f
  repeat' first
      | (with_reducible exact unit_unescape.mono _ _ _)
      | (with_reducible exact LeO.refl _)
      | (with_reducible exact LeO.none _)
      | (with_reducible refine LeO.ite ?_ ?_)
      | (with_reducible refine LeO.bind ?_ (fun _ => ?_))
      | exact unit_unescape.mono _ _ _
      | exact LeO.none _
      | refine LeO.ite ?_ ?_
      | refine LeO.bind ?_ (fun _ => ?_)
set_option maxHeartbeats 8000000 in
set_option maxRecDepth 100000 in
theorem unit_UnitNamePathUnescape.calls (k : Nat) (a0 : ByteArray) (r : ByteArray) (w : World) (h : unit_UnitNamePathUnescape.f k a0 = some r) :
    Calls Tryd.prog 32 #[.string a0] w fun e w' => e = .returned (.string r) ∧ Below w.heap.size w w' := by
  have HB := Aside0.mk (Below.refl w.heap.size w)
  have H : ((unit_unescape.f k a0 true).bind fun t171 => (some t171)) = some r := h
  clear h
  replace H := Option.bind_eq_some_iff.mp H
  obtain ⟨t171, A20, H⟩ := H
  replace H : (some t171) = some r := H
  have A2 := Aside0.mk A20
  clear A20
  obtain rfl := Option.some.inj H
  go_enter Tryd.func32, Tryd.ntmps32
  go_wp2_with (first | ((with_reducible refine gate_callee (f := 40) rfl ?_); refine goesL_ (some 4) rfl rfl Tryd.func40 (by kernel_rfl) rfl #[.string a0, .bool true] rfl (by (try simp only [List.map_toArray, List.map_cons, List.map_nil]); first | done | rfl | (simp only [List.length_drop, List.length_take]; rfl)) ?_; (with_reducible refine (unit_unescape.calls k a0 true t171 _ A2.out).mono ?_); rintro e w3 ⟨rfl, hb⟩; refine ⟨_, rfl, ?_⟩; have n0_ := Aside0.mk (below_step (by repeat (first | (with_reducible first | exact HB.out | apply below_alloc | apply pw_below_drewN | apply below_drew1) | exact HB.out)) hb); clear HB; have HB := n0_; clear n0_; (try clear hb); (try clear hb2); (try clear hk); (try clear hi)))
  go_ret
  exact ⟨by first | rfl | (simp [errW_none, errW_some] <;> rfl) | (simp [*, errW_none, errW_some] <;> rfl), by repeat (first | (with_reducible first | exact HB.out | apply below_alloc | apply pw_below_drewN | apply below_drew1) | exact HB.out)⟩

/-! ### impl_PathUnescape: function 15 -/
def impl_PathUnescape.f (k : Nat) (a0 : ByteArray) : Option (ByteArray) := (unit_UnitNamePathUnescape.f k a0).bind fun t172 => (some t172)
theorem impl_PathUnescape.mono : ∀ a0 k, LeO (impl_PathUnescape.f k a0) (impl_PathUnescape.f (k + 1) a0) := by
  intro a0 k
  unfold impl_PathUnescape.f
  repeat' first
      | (with_reducible exact unit_UnitNamePathUnescape.mono _ _)
      | (with_reducible exact LeO.refl _)
      | (with_reducible exact LeO.none _)
      | (with_reducible refine LeO.ite ?_ ?_)
      | (with_reducible refine LeO.bind ?_ (fun _ => ?_))
      | exact unit_UnitNamePathUnescape.mono _ _
      | exact LeO.none _
      | refine LeO.ite ?_ ?_
      | refine LeO.bind ?_ (fun _ => ?_)
set_option maxHeartbeats 8000000 in
set_option maxRecDepth 100000 in
theorem impl_PathUnescape.calls (k : Nat) (a0 : ByteArray) (r : ByteArray) (w : World) (h : impl_PathUnescape.f k a0 = some r) :
    Calls Tryd.prog 15 #[.string a0] w fun e w' => e = .returned (.string r) ∧ Below w.heap.size w w' := by
  have HB := Aside0.mk (Below.refl w.heap.size w)
  have H : ((unit_UnitNamePathUnescape.f k a0).bind fun t172 => (some t172)) = some r := h
  clear h
  replace H := Option.bind_eq_some_iff.mp H
  obtain ⟨t172, A20, H⟩ := H
  replace H : (some t172) = some r := H
  have A2 := Aside0.mk A20
  clear A20
  obtain rfl := Option.some.inj H
  go_enter Tryd.func15, Tryd.ntmps15
  go_wp2_with (first | ((with_reducible refine gate_callee (f := 32) rfl ?_); refine goesL_ (some 4) rfl rfl Tryd.func32 (by kernel_rfl) rfl #[.string a0] rfl (by (try simp only [List.map_toArray, List.map_cons, List.map_nil]); first | done | rfl | (simp only [List.length_drop, List.length_take]; rfl)) ?_; (with_reducible refine (unit_UnitNamePathUnescape.calls k a0 t172 _ A2.out).mono ?_); rintro e w3 ⟨rfl, hb⟩; refine ⟨_, rfl, ?_⟩; have n0_ := Aside0.mk (below_step (by repeat (first | (with_reducible first | exact HB.out | apply below_alloc | apply pw_below_drewN | apply below_drew1) | exact HB.out)) hb); clear HB; have HB := n0_; clear n0_; (try clear hb); (try clear hb2); (try clear hk); (try clear hi)))
  go_ret
  exact ⟨by first | rfl | (simp [errW_none, errW_some] <;> rfl) | (simp [*, errW_none, errW_some] <;> rfl), by repeat (first | (with_reducible first | exact HB.out | apply below_alloc | apply pw_below_drewN | apply below_drew1) | exact HB.out)⟩

/-! ### laws_FnPathText: function 4 -/
def laws_FnPathText.f (k : Nat) (a0 : ByteArray) : Option (Bool) := if (a0.size : Int) > 2147483647 then (some true) else (if (a0.size : Int) > 4000 then (some true) else ((spec_EscapePath.f k a0).bind fun bt173 => ((spec_UnescapePath.f k a0).bind fun bt175 => (if bt173.2 = 1 then ((impl_PathEscape.f k a0).bind fun t177 => (if t177.toList = bt173.1.toList then (if bt175.2 = 1 then ((impl_PathUnescape.f k a0).bind fun t178 => (if t178.toList = bt175.1.toList then ((laws_escapes.f k).bind fun t179 => (some t179)) else (some false))) else ((laws_escapes.f k).bind fun t180 => (some t180))) else (some false))) else (if bt175.2 = 1 then ((impl_PathUnescape.f k a0).bind fun t181 => (if t181.toList = bt175.1.toList then ((laws_escapes.f k).bind fun t182 => (some t182)) else (some false))) else ((laws_escapes.f k).bind fun t183 => (some t183)))))))
theorem laws_FnPathText.mono : ∀ a0 k, LeO (laws_FnPathText.f k a0) (laws_FnPathText.f (k + 1) a0) := by
  intro a0 k
  unfold laws_FnPathText.f
  repeat' first
      | (with_reducible exact impl_PathEscape.mono _ _)
      | (with_reducible exact impl_PathUnescape.mono _ _)
      | (with_reducible exact laws_escapes.mono _)
      | (with_reducible exact spec_EscapePath.mono _ _)
      | (with_reducible exact spec_UnescapePath.mono _ _)
      | (with_reducible exact LeO.refl _)
      | (with_reducible exact LeO.none _)
      | (with_reducible refine LeO.ite ?_ ?_)
      | (with_reducible refine LeO.bind ?_ (fun _ => ?_))
      | exact impl_PathEscape.mono _ _
      | exact impl_PathUnescape.mono _ _
      | exact laws_escapes.mono _
      | exact spec_EscapePath.mono _ _
      | exact spec_UnescapePath.mono _ _
      | exact LeO.none _
      | refine LeO.ite ?_ ?_
      | refine LeO.bind ?_ (fun _ => ?_)
set_option maxHeartbeats 8000000 in
set_option maxRecDepth 100000 in
theorem laws_FnPathText.calls (k : Nat) (a0 : ByteArray) (r : Bool) (w : World) (h : laws_FnPathText.f k a0 = some r) :
    Calls Tryd.prog 4 #[.string a0] w fun e w' => e = .returned (.bool r) ∧ Below w.heap.size w w' := by
  have HB := Aside0.mk (Below.refl w.heap.size w)
  have H : (if (a0.size : Int) > 2147483647 then (some true) else (if (a0.size : Int) > 4000 then (some true) else ((spec_EscapePath.f k a0).bind fun bt173 => ((spec_UnescapePath.f k a0).bind fun bt175 => (if bt173.2 = 1 then ((impl_PathEscape.f k a0).bind fun t177 => (if t177.toList = bt173.1.toList then (if bt175.2 = 1 then ((impl_PathUnescape.f k a0).bind fun t178 => (if t178.toList = bt175.1.toList then ((laws_escapes.f k).bind fun t179 => (some t179)) else (some false))) else ((laws_escapes.f k).bind fun t180 => (some t180))) else (some false))) else (if bt175.2 = 1 then ((impl_PathUnescape.f k a0).bind fun t181 => (if t181.toList = bt175.1.toList then ((laws_escapes.f k).bind fun t182 => (some t182)) else (some false))) else ((laws_escapes.f k).bind fun t183 => (some t183)))))))) = some r := h
  clear h
  by_cases c2 : (a0.size : Int) > 2147483647
  · rw [if_pos c2] at H
    have c2b0 : decide (2147483647 < (a0.size : Int)) = true := decide_eq_true c2
    have c2b1 : decide (2147483647 < a0.size) = true := decide_eq_true (by omega)
    clear c2
    obtain rfl := Option.some.inj H
    go_enter Tryd.func4, Tryd.ntmps4
    go_wp2
    go_ret
    exact ⟨by first | rfl | (simp [errW_none, errW_some] <;> rfl) | (simp [*, errW_none, errW_some] <;> rfl), by repeat (first | (with_reducible first | exact HB.out | apply below_alloc | apply pw_below_drewN | apply below_drew1) | exact HB.out)⟩
  · rw [if_neg c2] at H
    have c2b0 : decide (2147483647 < (a0.size : Int)) = false := decide_eq_false c2
    have c2b1 : decide (2147483647 < a0.size) = false := decide_eq_false (by omega)
    clear c2
    by_cases c3 : (a0.size : Int) > 4000
    · rw [if_pos c3] at H
      have c3b0 : decide (4000 < (a0.size : Int)) = true := decide_eq_true c3
      have c3b1 : decide (4000 < a0.size) = true := decide_eq_true (by omega)
      clear c3
      obtain rfl := Option.some.inj H
      go_enter Tryd.func4, Tryd.ntmps4
      go_wp2
      go_ret
      exact ⟨by first | rfl | (simp [errW_none, errW_some] <;> rfl) | (simp [*, errW_none, errW_some] <;> rfl), by repeat (first | (with_reducible first | exact HB.out | apply below_alloc | apply pw_below_drewN | apply below_drew1) | exact HB.out)⟩
    · rw [if_neg c3] at H
      have c3b0 : decide (4000 < (a0.size : Int)) = false := decide_eq_false c3
      have c3b1 : decide (4000 < a0.size) = false := decide_eq_false (by omega)
      clear c3
      replace H := Option.bind_eq_some_iff.mp H
      obtain ⟨⟨t173, t174⟩, A40, H⟩ := H
      replace H : ((spec_UnescapePath.f k a0).bind fun bt175 => (if t174 = 1 then ((impl_PathEscape.f k a0).bind fun t177 => (if t177.toList = t173.toList then (if bt175.2 = 1 then ((impl_PathUnescape.f k a0).bind fun t178 => (if t178.toList = bt175.1.toList then ((laws_escapes.f k).bind fun t179 => (some t179)) else (some false))) else ((laws_escapes.f k).bind fun t180 => (some t180))) else (some false))) else (if bt175.2 = 1 then ((impl_PathUnescape.f k a0).bind fun t181 => (if t181.toList = bt175.1.toList then ((laws_escapes.f k).bind fun t182 => (some t182)) else (some false))) else ((laws_escapes.f k).bind fun t183 => (some t183))))) = some r := H
      have A4 := Aside0.mk A40
      clear A40
      replace H := Option.bind_eq_some_iff.mp H
      obtain ⟨⟨t175, t176⟩, A50, H⟩ := H
      replace H : (if t174 = 1 then ((impl_PathEscape.f k a0).bind fun t177 => (if t177.toList = t173.toList then (if t176 = 1 then ((impl_PathUnescape.f k a0).bind fun t178 => (if t178.toList = t175.toList then ((laws_escapes.f k).bind fun t179 => (some t179)) else (some false))) else ((laws_escapes.f k).bind fun t180 => (some t180))) else (some false))) else (if t176 = 1 then ((impl_PathUnescape.f k a0).bind fun t181 => (if t181.toList = t175.toList then ((laws_escapes.f k).bind fun t182 => (some t182)) else (some false))) else ((laws_escapes.f k).bind fun t183 => (some t183)))) = some r := H
      have A5 := Aside0.mk A50
      clear A50
      by_cases c6 : t174 = 1
      · rw [if_pos c6] at H
        have c6b0 : (t174 == 1) = true := beq_iff_eq.mpr c6
        have c6b1 : (t174 != 1) = false := bne_eq_false_iff_eq.mpr c6
        clear c6
        replace H := Option.bind_eq_some_iff.mp H
        obtain ⟨t177, A70, H⟩ := H
        replace H : (if t177.toList = t173.toList then (if t176 = 1 then ((impl_PathUnescape.f k a0).bind fun t178 => (if t178.toList = t175.toList then ((laws_escapes.f k).bind fun t179 => (some t179)) else (some false))) else ((laws_escapes.f k).bind fun t180 => (some t180))) else (some false)) = some r := H
        have A7 := Aside0.mk A70
        clear A70
        by_cases c8 : t177.toList = t173.toList
        · rw [if_pos c8] at H
          have c8b0 : (t177.toList == t173.toList) = true := beq_iff_eq.mpr c8
          have c8b1 : (t177.toList != t173.toList) = false := bne_eq_false_iff_eq.mpr c8
          clear c8
          by_cases c9 : t176 = 1
          · rw [if_pos c9] at H
            have c9b0 : (t176 == 1) = true := beq_iff_eq.mpr c9
            have c9b1 : (t176 != 1) = false := bne_eq_false_iff_eq.mpr c9
            clear c9
            replace H := Option.bind_eq_some_iff.mp H
            obtain ⟨t178, A100, H⟩ := H
            replace H : (if t178.toList = t175.toList then ((laws_escapes.f k).bind fun t179 => (some t179)) else (some false)) = some r := H
            have A10 := Aside0.mk A100
            clear A100
            by_cases c11 : t178.toList = t175.toList
            · rw [if_pos c11] at H
              have c11b0 : (t178.toList == t175.toList) = true := beq_iff_eq.mpr c11
              have c11b1 : (t178.toList != t175.toList) = false := bne_eq_false_iff_eq.mpr c11
              clear c11
              replace H := Option.bind_eq_some_iff.mp H
              obtain ⟨t179, A120, H⟩ := H
              replace H : (some t179) = some r := H
              have A12 := Aside0.mk A120
              clear A120
              obtain rfl := Option.some.inj H
              go_enter Tryd.func4, Tryd.ntmps4
              go_wp2_with (first | ((with_reducible refine gate_callee (f := 12) rfl ?_); refine goesL_ (some 15) rfl rfl Tryd.func12 (by kernel_rfl) rfl #[.string a0] rfl (by (try simp only [List.map_toArray, List.map_cons, List.map_nil]); first | done | rfl | (simp only [List.length_drop, List.length_take]; rfl)) ?_; (with_reducible refine (spec_EscapePath.calls k a0 t173 t174 _ A4.out).mono ?_); rintro e w13 ⟨rfl, hb⟩; refine ⟨_, rfl, ?_⟩; have n0_ := Aside0.mk (below_step (by repeat (first | (with_reducible first | exact HB.out | apply below_alloc | apply pw_below_drewN | apply below_drew1) | exact HB.out)) hb); clear HB; have HB := n0_; clear n0_; (try clear hb); (try clear hb2); (try clear hk); (try clear hi)) | ((with_reducible refine gate_callee (f := 13) rfl ?_); refine goesL_ (some 20) rfl rfl Tryd.func13 (by kernel_rfl) rfl #[.string a0] rfl (by (try simp only [List.map_toArray, List.map_cons, List.map_nil]); first | done | rfl | (simp only [List.length_drop, List.length_take]; rfl)) ?_; (with_reducible refine (spec_UnescapePath.calls k a0 t175 t176 _ A5.out).mono ?_); rintro e w14 ⟨rfl, hb⟩; refine ⟨_, rfl, ?_⟩; have n0_ := Aside0.mk (below_step (by repeat (first | (with_reducible first | exact HB.out | apply below_alloc | apply pw_below_drewN | apply below_drew1) | exact HB.out)) hb); clear HB; have HB := n0_; clear n0_; (try clear hb); (try clear hb2); (try clear hk); (try clear hi)) | (go_at_call 14; (with_reducible refine (impl_PathEscape.calls k a0 t177 _ A7.out).mono ?_); rintro e w15 ⟨rfl, hb⟩; have n0_ := Aside0.mk (below_step (by repeat (first | (with_reducible first | exact HB.out | apply below_alloc | apply pw_below_drewN | apply below_drew1) | exact HB.out)) hb); clear HB; have HB := n0_; clear n0_; (try clear hb); (try clear hb2); (try clear hk); (try clear hi)) | (go_at_call 15; (with_reducible refine (impl_PathUnescape.calls k a0 t178 _ A10.out).mono ?_); rintro e w16 ⟨rfl, hb⟩; have n0_ := Aside0.mk (below_step (by repeat (first | (with_reducible first | exact HB.out | apply below_alloc | apply pw_below_drewN | apply below_drew1) | exact HB.out)) hb); clear HB; have HB := n0_; clear n0_; (try clear hb); (try clear hb2); (try clear hk); (try clear hi)) | (go_at_call 11; (with_reducible refine (laws_escapes.calls k  t179 _ A12.out).mono ?_); rintro e w17 ⟨rfl, hb⟩; have n0_ := Aside0.mk (below_step (by repeat (first | (with_reducible first | exact HB.out | apply below_alloc | apply pw_below_drewN | apply below_drew1) | exact HB.out)) hb); clear HB; have HB := n0_; clear n0_; (try clear hb); (try clear hb2); (try clear hk); (try clear hi)))
              go_ret
              exact ⟨by first | rfl | (simp [errW_none, errW_some] <;> rfl) | (simp [*, errW_none, errW_some] <;> rfl), by repeat (first | (with_reducible first | exact HB.out | apply below_alloc | apply pw_below_drewN | apply below_drew1) | exact HB.out)⟩
            · rw [if_neg c11] at H
              have c11b0 : (t178.toList == t175.toList) = false := beq_eq_false_iff_ne.mpr c11
              have c11b1 : (t178.toList != t175.toList) = true := bne_iff_ne.mpr c11
              obtain rfl := Option.some.inj H
              go_enter Tryd.func4, Tryd.ntmps4
              go_wp2_with (first | ((with_reducible refine gate_callee (f := 12) rfl ?_); refine goesL_ (some 15) rfl rfl Tryd.func12 (by kernel_rfl) rfl #[.string a0] rfl (by (try simp only [List.map_toArray, List.map_cons, List.map_nil]); first | done | rfl | (simp only [List.length_drop, List.length_take]; rfl)) ?_; (with_reducible refine (spec_EscapePath.calls k a0 t173 t174 _ A4.out).mono ?_); rintro e w18 ⟨rfl, hb⟩; refine ⟨_, rfl, ?_⟩; have n0_ := Aside0.mk (below_step (by repeat (first | (with_reducible first | exact HB.out | apply below_alloc | apply pw_below_drewN | apply below_drew1) | exact HB.out)) hb); clear HB; have HB := n0_; clear n0_; (try clear hb); (try clear hb2); (try clear hk); (try clear hi)) | ((with_reducible refine gate_callee (f := 13) rfl ?_); refine goesL_ (some 20) rfl rfl Tryd.func13 (by kernel_rfl) rfl #[.string a0] rfl (by (try simp only [List.map_toArray, List.map_cons, List.map_nil]); first | done | rfl | (simp only [List.length_drop, List.length_take]; rfl)) ?_; (with_reducible refine (spec_UnescapePath.calls k a0 t175 t176 _ A5.out).mono ?_); rintro e w19 ⟨rfl, hb⟩; refine ⟨_, rfl, ?_⟩; have n0_ := Aside0.mk (below_step (by repeat (first | (with_reducible first | exact HB.out | apply below_alloc | apply pw_below_drewN | apply below_drew1) | exact HB.out)) hb); clear HB; have HB := n0_; clear n0_; (try clear hb); (try clear hb2); (try clear hk); (try clear hi)) | (go_at_call 14; (with_reducible refine (impl_PathEscape.calls k a0 t177 _ A7.out).mono ?_); rintro e w20 ⟨rfl, hb⟩; have n0_ := Aside0.mk (below_step (by repeat (first | (with_reducible first | exact HB.out | apply below_alloc | apply pw_below_drewN | apply below_drew1) | exact HB.out)) hb); clear HB; have HB := n0_; clear n0_; (try clear hb); (try clear hb2); (try clear hk); (try clear hi)) | (go_at_call 15; (with_reducible refine (impl_PathUnescape.calls k a0 t178 _ A10.out).mono ?_); rintro e w21 ⟨rfl, hb⟩; have n0_ := Aside0.mk (below_step (by repeat (first | (with_reducible first | exact HB.out | apply below_alloc | apply pw_below_drewN | apply below_drew1) | exact HB.out)) hb); clear HB; have HB := n0_; clear n0_; (try clear hb); (try clear hb2); (try clear hk); (try clear hi)))
              go_ret
              exact ⟨by first | rfl | (simp [errW_none, errW_some] <;> rfl) | (simp [*, errW_none, errW_some] <;> rfl), by repeat (first | (with_reducible first | exact HB.out | apply below_alloc | apply pw_below_drewN | apply below_drew1) | exact HB.out)⟩
          · rw [if_neg c9] at H
            have c9b0 : (t176 == 1) = false := beq_eq_false_iff_ne.mpr c9
            have c9b1 : (t176 != 1) = true := bne_iff_ne.mpr c9
            replace H := Option.bind_eq_some_iff.mp H
            obtain ⟨t180, A220, H⟩ := H
            replace H : (some t180) = some r := H
            have A22 := Aside0.mk A220
            clear A220
            obtain rfl := Option.some.inj H
            go_enter Tryd.func4, Tryd.ntmps4
            go_wp2_with (first | ((with_reducible refine gate_callee (f := 12) rfl ?_); refine goesL_ (some 15) rfl rfl Tryd.func12 (by kernel_rfl) rfl #[.string a0] rfl (by (try simp only [List.map_toArray, List.map_cons, List.map_nil]); first | done | rfl | (simp only [List.length_drop, List.length_take]; rfl)) ?_; (with_reducible refine (spec_EscapePath.calls k a0 t173 t174 _ A4.out).mono ?_); rintro e w23 ⟨rfl, hb⟩; refine ⟨_, rfl, ?_⟩; have n0_ := Aside0.mk (below_step (by repeat (first | (with_reducible first | exact HB.out | apply below_alloc | apply pw_below_drewN | apply below_drew1) | exact HB.out)) hb); clear HB; have HB := n0_; clear n0_; (try clear hb); (try clear hb2); (try clear hk); (try clear hi)) | ((with_reducible refine gate_callee (f := 13) rfl ?_); refine goesL_ (some 20) rfl rfl Tryd.func13 (by kernel_rfl) rfl #[.string a0] rfl (by (try simp only [List.map_toArray, List.map_cons, List.map_nil]); first | done | rfl | (simp only [List.length_drop, List.length_take]; rfl)) ?_; (with_reducible refine (spec_UnescapePath.calls k a0 t175 t176 _ A5.out).mono ?_); rintro e w24 ⟨rfl, hb⟩; refine ⟨_, rfl, ?_⟩; have n0_ := Aside0.mk (below_step (by repeat (first | (with_reducible first | exact HB.out | apply below_alloc | apply pw_below_drewN | apply below_drew1) | exact HB.out)) hb); clear HB; have HB := n0_; clear n0_; (try clear hb); (try clear hb2); (try clear hk); (try clear hi)) | (go_at_call 14; (with_reducible refine (impl_PathEscape.calls k a0 t177 _ A7.out).mono ?_); rintro e w25 ⟨rfl, hb⟩; have n0_ := Aside0.mk (below_step (by repeat (first | (with_reducible first | exact HB.out | apply below_alloc | apply pw_below_drewN | apply below_drew1) | exact HB.out)) hb); clear HB; have HB := n0_; clear n0_; (try clear hb); (try clear hb2); (try clear hk); (try clear hi)) | (go_at_call 11; (with_reducible refine (laws_escapes.calls k  t180 _ A22.out).mono ?_); rintro e w26 ⟨rfl, hb⟩; have n0_ := Aside0.mk (below_step (by repeat (first | (with_reducible first | exact HB.out | apply below_alloc | apply pw_below_drewN | apply below_drew1) | exact HB.out)) hb); clear HB; have HB := n0_; clear n0_; (try clear hb); (try clear hb2); (try clear hk); (try clear hi)))
            go_ret
            exact ⟨by first | rfl | (simp [errW_none, errW_some] <;> rfl) | (simp [*, errW_none, errW_some] <;> rfl), by repeat (first | (with_reducible first | exact HB.out | apply below_alloc | apply pw_below_drewN | apply below_drew1) | exact HB.out)⟩
        · rw [if_neg c8] at H
          have c8b0 : (t177.toList == t173.toList) = false := beq_eq_false_iff_ne.mpr c8
          have c8b1 : (t177.toList != t173.toList) = true := bne_iff_ne.mpr c8
          obtain rfl := Option.some.inj H
          go_enter Tryd.func4, Tryd.ntmps4
          go_wp2_with (first | ((with_reducible refine gate_callee (f := 12) rfl ?_); refine goesL_ (some 15) rfl rfl Tryd.func12 (by kernel_rfl) rfl #[.string a0] rfl (by (try simp only [List.map_toArray, List.map_cons, List.map_nil]); first | done | rfl | (simp only [List.length_drop, List.length_take]; rfl)) ?_; (with_reducible refine (spec_EscapePath.calls k a0 t173 t174 _ A4.out).mono ?_); rintro e w27 ⟨rfl, hb⟩; refine ⟨_, rfl, ?_⟩; have n0_ := Aside0.mk (below_step (by repeat (first | (with_reducible first | exact HB.out | apply below_alloc | apply pw_below_drewN | apply below_drew1) | exact HB.out)) hb); clear HB; have HB := n0_; clear n0_; (try clear hb); (try clear hb2); (try clear hk); (try clear hi)) | ((with_reducible refine gate_callee (f := 13) rfl ?_); refine goesL_ (some 20) rfl rfl Tryd.func13 (by kernel_rfl) rfl #[.string a0] rfl (by (try simp only [List.map_toArray, List.map_cons, List.map_nil]); first | done | rfl | (simp only [List.length_drop, List.length_take]; rfl)) ?_; (with_reducible refine (spec_UnescapePath.calls k a0 t175 t176 _ A5.out).mono ?_); rintro e w28 ⟨rfl, hb⟩; refine ⟨_, rfl, ?_⟩; have n0_ := Aside0.mk (below_step (by repeat (first | (with_reducible first | exact HB.out | apply below_alloc | apply pw_below_drewN | apply below_drew1) | exact HB.out)) hb); clear HB; have HB := n0_; clear n0_; (try clear hb); (try clear hb2); (try clear hk); (try clear hi)) | (go_at_call 14; (with_reducible refine (impl_PathEscape.calls k a0 t177 _ A7.out).mono ?_); rintro e w29 ⟨rfl, hb⟩; have n0_ := Aside0.mk (below_step (by repeat (first | (with_reducible first | exact HB.out | apply below_alloc | apply pw_below_drewN | apply below_drew1) | exact HB.out)) hb); clear HB; have HB := n0_; clear n0_; (try clear hb); (try clear hb2); (try clear hk); (try clear hi)))
          go_ret
          exact ⟨by first | rfl | (simp [errW_none, errW_some] <;> rfl) | (simp [*, errW_none, errW_some] <;> rfl), by repeat (first | (with_reducible first | exact HB.out | apply below_alloc | apply pw_below_drewN | apply below_drew1) | exact HB.out)⟩
      · rw [if_neg c6] at H
        have c6b0 : (t174 == 1) = false := beq_eq_false_iff_ne.mpr c6
        have c6b1 : (t174 != 1) = true := bne_iff_ne.mpr c6
        by_cases c30 : t176 = 1
        · rw [if_pos c30] at H
          have c30b0 : (t176 == 1) = true := beq_iff_eq.mpr c30
          have c30b1 : (t176 != 1) = false := bne_eq_false_iff_eq.mpr c30
          clear c30
          replace H := Option.bind_eq_some_iff.mp H
          obtain ⟨t181, A310, H⟩ := H
          replace H : (if t181.toList = t175.toList then ((laws_escapes.f k).bind fun t182 => (some t182)) else (some false)) = some r := H
          have A31 := Aside0.mk A310
          clear A310
          by_cases c32 : t181.toList = t175.toList
          · rw [if_pos c32] at H
            have c32b0 : (t181.toList == t175.toList) = true := beq_iff_eq.mpr c32
            have c32b1 : (t181.toList != t175.toList) = false := bne_eq_false_iff_eq.mpr c32
            clear c32
            replace H := Option.bind_eq_some_iff.mp H
            obtain ⟨t182, A330, H⟩ := H
            replace H : (some t182) = some r := H
            have A33 := Aside0.mk A330
            clear A330
            obtain rfl := Option.some.inj H
            go_enter Tryd.func4, Tryd.ntmps4
            go_wp2_with (first | ((with_reducible refine gate_callee (f := 12) rfl ?_); refine goesL_ (some 15) rfl rfl Tryd.func12 (by kernel_rfl) rfl #[.string a0] rfl (by (try simp only [List.map_toArray, List.map_cons, List.map_nil]); first | done | rfl | (simp only [List.length_drop, List.length_take]; rfl)) ?_; (with_reducible refine (spec_EscapePath.calls k a0 t173 t174 _ A4.out).mono ?_); rintro e w34 ⟨rfl, hb⟩; refine ⟨_, rfl, ?_⟩; have n0_ := Aside0.mk (below_step (by repeat (first | (with_reducible first | exact HB.out | apply below_alloc | apply pw_below_drewN | apply below_drew1) | exact HB.out)) hb); clear HB; have HB := n0_; clear n0_; (try clear hb); (try clear hb2); (try clear hk); (try clear hi)) | ((with_reducible refine gate_callee (f := 13) rfl ?_); refine goesL_ (some 20) rfl rfl Tryd.func13 (by kernel_rfl) rfl #[.string a0] rfl (by (try simp only [List.map_toArray, List.map_cons, List.map_nil]); first | done | rfl | (simp only [List.length_drop, List.length_take]; rfl)) ?_; (with_reducible refine (spec_UnescapePath.calls k a0 t175 t176 _ A5.out).mono ?_); rintro e w35 ⟨rfl, hb⟩; refine ⟨_, rfl, ?_⟩; have n0_ := Aside0.mk (below_step (by repeat (first | (with_reducible first | exact HB.out | apply below_alloc | apply pw_below_drewN | apply below_drew1) | exact HB.out)) hb); clear HB; have HB := n0_; clear n0_; (try clear hb); (try clear hb2); (try clear hk); (try clear hi)) | (go_at_call 15; (with_reducible refine (impl_PathUnescape.calls k a0 t181 _ A31.out).mono ?_); rintro e w36 ⟨rfl, hb⟩; have n0_ := Aside0.mk (below_step (by repeat (first | (with_reducible first | exact HB.out | apply below_alloc | apply pw_below_drewN | apply below_drew1) | exact HB.out)) hb); clear HB; have HB := n0_; clear n0_; (try clear hb); (try clear hb2); (try clear hk); (try clear hi)) | (go_at_call 11; (with_reducible refine (laws_escapes.calls k  t182 _ A33.out).mono ?_); rintro e w37 ⟨rfl, hb⟩; have n0_ := Aside0.mk (below_step (by repeat (first | (with_reducible first | exact HB.out | apply below_alloc | apply pw_below_drewN | apply below_drew1) | exact HB.out)) hb); clear HB; have HB := n0_; clear n0_; (try clear hb); (try clear hb2); (try clear hk); (try clear hi)))
            go_ret
            exact ⟨by first | rfl | (simp [errW_none, errW_some] <;> rfl) | (simp [*, errW_none, errW_some] <;> rfl), by repeat (first | (with_reducible first | exact HB.out | apply below_alloc | apply pw_below_drewN | apply below_drew1) | exact HB.out)⟩
          · rw [if_neg c32] at H
            have c32b0 : (t181.toList == t175.toList) = false := beq_eq_false_iff_ne.mpr c32
            have c32b1 : (t181.toList != t175.toList) = true := bne_iff_ne.mpr c32
            obtain rfl := Option.some.inj H
            go_enter Tryd.func4, Tryd.ntmps4
            go_wp2_with (first | ((with_reducible refine gate_callee (f := 12) rfl ?_); refine goesL_ (some 15) rfl rfl Tryd.func12 (by kernel_rfl) rfl #[.string a0] rfl (by (try simp only [List.map_toArray, List.map_cons, List.map_nil]); first | done | rfl | (simp only [List.length_drop, List.length_take]; rfl)) ?_; (with_reducible refine (spec_EscapePath.calls k a0 t173 t174 _ A4.out).mono ?_); rintro e w38 ⟨rfl, hb⟩; refine ⟨_, rfl, ?_⟩; have n0_ := Aside0.mk (below_step (by repeat (first | (with_reducible first | exact HB.out | apply below_alloc | apply pw_below_drewN | apply below_drew1) | exact HB.out)) hb); clear HB; have HB := n0_; clear n0_; (try clear hb); (try clear hb2); (try clear hk); (try clear hi)) | ((with_reducible refine gate_callee (f := 13) rfl ?_); refine goesL_ (some 20) rfl rfl Tryd.func13 (by kernel_rfl) rfl #[.string a0] rfl (by (try simp only [List.map_toArray, List.map_cons, List.map_nil]); first | done | rfl | (simp only [List.length_drop, List.length_take]; rfl)) ?_; (with_reducible refine (spec_UnescapePath.calls k a0 t175 t176 _ A5.out).mono ?_); rintro e w39 ⟨rfl, hb⟩; refine ⟨_, rfl, ?_⟩; have n0_ := Aside0.mk (below_step (by repeat (first | (with_reducible first | exact HB.out | apply below_alloc | apply pw_below_drewN | apply below_drew1) | exact HB.out)) hb); clear HB; have HB := n0_; clear n0_; (try clear hb); (try clear hb2); (try clear hk); (try clear hi)) | (go_at_call 15; (with_reducible refine (impl_PathUnescape.calls k a0 t181 _ A31.out).mono ?_); rintro e w40 ⟨rfl, hb⟩; have n0_ := Aside0.mk (below_step (by repeat (first | (with_reducible first | exact HB.out | apply below_alloc | apply pw_below_drewN | apply below_drew1) | exact HB.out)) hb); clear HB; have HB := n0_; clear n0_; (try clear hb); (try clear hb2); (try clear hk); (try clear hi)))
            go_ret
            exact ⟨by first | rfl | (simp [errW_none, errW_some] <;> rfl) | (simp [*, errW_none, errW_some] <;> rfl), by repeat (first | (with_reducible first | exact HB.out | apply below_alloc | apply pw_below_drewN | apply below_drew1) | exact HB.out)⟩
        · rw [if_neg c30] at H
          have c30b0 : (t176 == 1) = false := beq_eq_false_iff_ne.mpr c30
          have c30b1 : (t176 != 1) = true := bne_iff_ne.mpr c30
          replace H := Option.bind_eq_some_iff.mp H
          obtain ⟨t183, A410, H⟩ := H
          replace H : (some t183) = some r := H
          have A41 := Aside0.mk A410
          clear A410
          obtain rfl := Option.some.inj H
          go_enter Tryd.func4, Tryd.ntmps4
          go_wp2_with (first | ((with_reducible refine gate_callee (f := 12) rfl ?_); refine goesL_ (some 15) rfl rfl Tryd.func12 (by kernel_rfl) rfl #[.string a0] rfl (by (try simp only [List.map_toArray, List.map_cons, List.map_nil]); first | done | rfl | (simp only [List.length_drop, List.length_take]; rfl)) ?_; (with_reducible refine (spec_EscapePath.calls k a0 t173 t174 _ A4.out).mono ?_); rintro e w42 ⟨rfl, hb⟩; refine ⟨_, rfl, ?_⟩; have n0_ := Aside0.mk (below_step (by repeat (first | (with_reducible first | exact HB.out | apply below_alloc | apply pw_below_drewN | apply below_drew1) | exact HB.out)) hb); clear HB; have HB := n0_; clear n0_; (try clear hb); (try clear hb2); (try clear hk); (try clear hi)) | ((with_reducible refine gate_callee (f := 13) rfl ?_); refine goesL_ (some 20) rfl rfl Tryd.func13 (by kernel_rfl) rfl #[.string a0] rfl (by (try simp only [List.map_toArray, List.map_cons, List.map_nil]); first | done | rfl | (simp only [List.length_drop, List.length_take]; rfl)) ?_; (with_reducible refine (spec_UnescapePath.calls k a0 t175 t176 _ A5.out).mono ?_); rintro e w43 ⟨rfl, hb⟩; refine ⟨_, rfl, ?_⟩; have n0_ := Aside0.mk (below_step (by repeat (first | (with_reducible first | exact HB.out | apply below_alloc | apply pw_below_drewN | apply below_drew1) | exact HB.out)) hb); clear HB; have HB := n0_; clear n0_; (try clear hb); (try clear hb2); (try clear hk); (try clear hi)) | (go_at_call 11; (with_reducible refine (laws_escapes.calls k  t183 _ A41.out).mono ?_); rintro e w44 ⟨rfl, hb⟩; have n0_ := Aside0.mk (below_step (by repeat (first | (with_reducible first | exact HB.out | apply below_alloc | apply pw_below_drewN | apply below_drew1) | exact HB.out)) hb); clear HB; have HB := n0_; clear n0_; (try clear hb); (try clear hb2); (try clear hk); (try clear hi)))
          go_ret
          exact ⟨by first | rfl | (simp [errW_none, errW_some] <;> rfl) | (simp [*, errW_none, errW_some] <;> rfl), by repeat (first | (with_reducible first | exact HB.out | apply below_alloc | apply pw_below_drewN | apply below_drew1) | exact HB.out)⟩

/-- THE ONE PURE STATEMENT of laws_FnPathText: yours. -/
def laws_FnPathText.Pure : Prop := ∀ (a0 : ByteArray), a0.size ≤ 140737488351232 → ∃ k, laws_FnPathText.f k a0 = some true
theorem laws_FnPathText.walk (P : laws_FnPathText.Pure) (a0 : ByteArray) (w : World) (w0 : a0.size ≤ 140737488351232) :
    Calls Tryd.prog 4 #[.string a0] w fun e w' => e = .returned (.bool true) ∧ Below w.heap.size w w' := by
  obtain ⟨k, h⟩ := P a0 w0
  refine (laws_FnPathText.calls k a0 true w h).mono ?_
  rintro e w' ⟨rfl, hd⟩
  exact ⟨rfl, hd⟩

end Go.Proofs.YtgnfapnnbcafbaaDoor.GNU
