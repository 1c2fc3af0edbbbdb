-- printed by gprint.py (a session's own turn of the kit's print): FnNameSigns
import Derived.Test.YtgnfapnnbcafbaaGFnNameSignsx0
import Derived.Test.YtgnfapnnbcafbaaGFnNameSignsx1
namespace Go.Proofs.Ytgnfapnnbcafbaa.GFnNameSigns
open Go.RowKit Go.Proofs.YtgnfapnnbcafbaaW.PrintWords Go.Proofs.YtgnfapnnbcafbaaW.PrintLast Go.Proofs.YtgnfapnnbcafbaaW.PrintMore
attribute [local go_sem] max2_int min2_int max_two min_two max_three min_three max_four min_four   -- for this text's walks alone
set_option linter.unusedVariables false
set_option linter.unusedSimpArgs false

/-! ### laws_FnNameSigns: function 3 -/
def laws_FnNameSigns.l0 : Nat → ByteArray → Int → Int → Option (Bool)
  | 0, _, _, _ => none
  | k + 1, x3, x15, x16 => if x16 < x15 then (if 0 ≤ x16 then (if x16 < (x3.size : Int) then ((laws_letter.f (bt x3 x16)).bind fun t138 => (if t138 = true then (if x16 = 0 then (if (bt x3 x16) = 46 then (some false) else (laws_FnNameSigns.l0 k x3 x15 (wrap64 (x16 + 1)))) else (laws_FnNameSigns.l0 k x3 x15 (wrap64 (x16 + 1)))) else (if (bt x3 x16) < 48 then (if x16 ≤ (wrap64 (x16 + 1)) then (if (wrap64 (x16 + 1)) ≤ (x3.size : Int) then ((laws_has.f k (x3.extract (x16 : Int).toNat ((wrap64 (x16 + 1)) : Int).toNat) (⟨#[58, 95, 46, 45, 92]⟩ : ByteArray)).bind fun t139 => (if t139 = true then (if x16 = 0 then (if (bt x3 x16) = 46 then (some false) else (laws_FnNameSigns.l0 k x3 x15 (wrap64 (x16 + 1)))) else (laws_FnNameSigns.l0 k x3 x15 (wrap64 (x16 + 1)))) else (some false))) else (none)) else (none)) else (if (bt x3 x16) > 57 then (if x16 ≤ (wrap64 (x16 + 1)) then (if (wrap64 (x16 + 1)) ≤ (x3.size : Int) then ((laws_has.f k (x3.extract (x16 : Int).toNat ((wrap64 (x16 + 1)) : Int).toNat) (⟨#[58, 95, 46, 45, 92]⟩ : ByteArray)).bind fun t140 => (if t140 = true then (if x16 = 0 then (if (bt x3 x16) = 46 then (some false) else (laws_FnNameSigns.l0 k x3 x15 (wrap64 (x16 + 1)))) else (laws_FnNameSigns.l0 k x3 x15 (wrap64 (x16 + 1)))) else (some false))) else (none)) else (none)) else (if x16 = 0 then (if (bt x3 x16) = 46 then (some false) else (laws_FnNameSigns.l0 k x3 x15 (wrap64 (x16 + 1)))) else (laws_FnNameSigns.l0 k x3 x15 (wrap64 (x16 + 1)))))))) else (none)) else (none)) else ((laws_escapes.f k).bind fun t137 => (some t137))
def laws_FnNameSigns.f (k : Nat) (a0 : ByteArray) : Option (Bool) := if (a0.size : Int) > 2147483647 then (some true) else (if (a0.size : Int) > 4000 then (some true) else ((impl_NameEscape.f k a0).bind fun t136 => (laws_FnNameSigns.l0 k t136 (t136.size : Int) 0)))
theorem laws_FnNameSigns.mono_l : ∀ k, (∀ y0 y1 y2, LeO (laws_FnNameSigns.l0 k y0 y1 y2) (laws_FnNameSigns.l0 (k + 1) y0 y1 y2))
  | 0 => fun _ _ _ r h => by simp [laws_FnNameSigns.l0] at h
  | k + 1 => by
    have ih0 := laws_FnNameSigns.mono_l k
    · intro y0 y1 y2
      unfold laws_FnNameSigns.l0
      repeat' first
      | (with_reducible exact ih0 _ _ _)
      | (with_reducible exact impl_NameEscape.mono _ _)
      | (with_reducible exact laws_escapes.mono _)
      | (with_reducible exact laws_has.mono _ _ _)
      | (with_reducible exact LeO.refl _)
      | (with_reducible exact LeO.none _)
      | (with_reducible refine LeO.ite ?_ ?_)
      | (with_reducible refine LeO.bind ?_ (fun _ => ?_))
      | exact ih0 _ _ _
      | exact impl_NameEscape.mono _ _
      | exact laws_escapes.mono _
      | exact laws_has.mono _ _ _
      | exact LeO.none _
      | refine LeO.ite ?_ ?_
      | refine LeO.bind ?_ (fun _ => ?_)
theorem laws_FnNameSigns.mono : ∀ a0 k, LeO (laws_FnNameSigns.f k a0) (laws_FnNameSigns.f (k + 1) a0) := by
  intro a0 k
  have ih0 := laws_FnNameSigns.mono_l k
  unfold laws_FnNameSigns.f
  repeat' first
      | (with_reducible exact ih0 _ _ _)
      | (with_reducible exact impl_NameEscape.mono _ _)
      | (with_reducible exact laws_escapes.mono _)
      | (with_reducible exact laws_has.mono _ _ _)
      | (with_reducible exact LeO.refl _)
      | (with_reducible exact LeO.none _)
      | (with_reducible refine LeO.ite ?_ ?_)
      | (with_reducible refine LeO.bind ?_ (fun _ => ?_))
      | exact ih0 _ _ _
      | exact impl_NameEscape.mono _ _
      | exact laws_escapes.mono _
      | exact laws_has.mono _ _ _
      | exact LeO.none _
      | refine LeO.ite ?_ ?_
      | refine LeO.bind ?_ (fun _ => ?_)
set_option maxHeartbeats 8000000 in
set_option maxRecDepth 100000 in
theorem laws_FnNameSigns.calls (k : Nat) (a0 : ByteArray) (r : Bool) (w : World) (h : laws_FnNameSigns.f k a0 = some r) :
    Calls Try.prog 3 #[.string a0] w fun e w' => e = .returned (.bool r) ∧ Below w.heap.size w w' := by
  have HB := Aside0.mk (Below.refl w.heap.size w)
  have H : (if (a0.size : Int) > 2147483647 then (some true) else (if (a0.size : Int) > 4000 then (some true) else ((impl_NameEscape.f k a0).bind fun t136 => (laws_FnNameSigns.l0 k t136 (t136.size : Int) 0)))) = some r := h
  clear h
  by_cases c2 : (a0.size : Int) > 2147483647
  · rw [if_pos c2] at H
    have c2b0 : decide (2147483647 < (a0.size : Int)) = true := decide_eq_true c2
    have c2b1 : decide (2147483647 < a0.size) = true := decide_eq_true (by omega)
    clear c2
    obtain rfl := Option.some.inj H
    go_enter Try.func3, Try.ntmps3
    go_wp2
    go_ret
    exact ⟨by first | rfl | (simp [errW_none, errW_some] <;> rfl) | (simp [*, errW_none, errW_some] <;> rfl), by repeat (first | (with_reducible first | exact HB.out | apply below_alloc | apply pw_below_drewN | apply below_drew1) | exact HB.out)⟩
  · rw [if_neg c2] at H
    have c2b0 : decide (2147483647 < (a0.size : Int)) = false := decide_eq_false c2
    have c2b1 : decide (2147483647 < a0.size) = false := decide_eq_false (by omega)
    clear c2
    by_cases c3 : (a0.size : Int) > 4000
    · rw [if_pos c3] at H
      have c3b0 : decide (4000 < (a0.size : Int)) = true := decide_eq_true c3
      have c3b1 : decide (4000 < a0.size) = true := decide_eq_true (by omega)
      clear c3
      obtain rfl := Option.some.inj H
      go_enter Try.func3, Try.ntmps3
      go_wp2
      go_ret
      exact ⟨by first | rfl | (simp [errW_none, errW_some] <;> rfl) | (simp [*, errW_none, errW_some] <;> rfl), by repeat (first | (with_reducible first | exact HB.out | apply below_alloc | apply pw_below_drewN | apply below_drew1) | exact HB.out)⟩
    · rw [if_neg c3] at H
      have c3b0 : decide (4000 < (a0.size : Int)) = false := decide_eq_false c3
      have c3b1 : decide (4000 < a0.size) = false := decide_eq_false (by omega)
      clear c3
      replace H := Option.bind_eq_some_iff.mp H
      obtain ⟨t136, A40, H⟩ := H
      replace H : (laws_FnNameSigns.l0 k t136 (t136.size : Int) 0) = some r := H
      have A4 := Aside0.mk A40
      clear A40
      have H' := Aside0.mk H
      clear H
      go_enter Try.func3, Try.ntmps3
      go_wp2_with (first | ((with_reducible refine gate_callee (f := 4) rfl ?_); refine goesL_ (some 13) rfl rfl Try.func4 (by kernel_rfl) rfl #[.string a0] rfl (by (try simp only [List.map_toArray, List.map_cons, List.map_nil]); first | done | rfl | (simp only [List.length_drop, List.length_take]; rfl)) ?_; (with_reducible refine (impl_NameEscape.calls k a0 t136 _ A4.out).mono ?_); rintro e w5 ⟨rfl, hb⟩; refine ⟨_, rfl, ?_⟩; have n0_ := Aside0.mk (below_step (by repeat (first | (with_reducible first | exact HB.out | apply below_alloc | apply pw_below_drewN | apply below_drew1) | exact HB.out)) hb); clear HB; have HB := n0_; clear n0_; (try clear hb); (try clear hb2); (try clear hk); (try clear hi)))
      go_loopg [16] k (fun kq v16 w' => ∃ (x16_1 : Int), v16 = .int .i64 x16_1 ∧ Aside0 (laws_FnNameSigns.l0 kq t136 (t136.size : Int) x16_1 = some r) ∧ Aside0 (kq ≤ k) ∧ Aside0 (Below w.heap.size w w'))
      case atStart => exact ⟨(0), (by first | rfl | (simp; done) | (simp [*]; done)), H', ⟨Nat.le_refl _⟩, ⟨by repeat (first | (with_reducible first | exact HB.out | apply below_alloc | apply pw_below_drewN | apply below_drew1) | exact HB.out)⟩⟩
      case round =>
        clear H'
        try clear c2
        try clear c2b0
        try clear c2b1
        try clear p2
        try clear c3
        try clear c3b0
        try clear c3b1
        try clear c4
        obtain ⟨x16_1, rfl, HA, HK1, HB⟩ := hrel
        cases gk with
        | zero => exact absurd HA.out (by simp [laws_FnNameSigns.l0])
        | succ k1 =>
          have H := HA.out
          clear HA
          simp only [laws_FnNameSigns.l0] at H
          by_cases c6 : x16_1 < (t136.size : Int)
          · rw [if_pos c6] at H
            have c6b0 : decide (x16_1 < (t136.size : Int)) = true := decide_eq_true c6
            clear c6
            by_cases c7 : 0 ≤ x16_1
            · rw [if_pos c7] at H
              have c7b0 : decide (0 ≤ x16_1) = true := decide_eq_true c7
              clear c7
              by_cases c8 : x16_1 < (t136.size : Int)
              · rw [if_pos c8] at H
                have c8b0 : decide (x16_1 < (t136.size : Int)) = true := decide_eq_true c8
                clear c8
                replace H := Option.bind_eq_some_iff.mp H
                obtain ⟨t138, A100, H⟩ := H
                replace H : (if t138 = true then (if x16_1 = 0 then (if (bt t136 x16_1) = 46 then (some false) else (laws_FnNameSigns.l0 k1 t136 (t136.size : Int) (wrap64 (x16_1 + 1)))) else (laws_FnNameSigns.l0 k1 t136 (t136.size : Int) (wrap64 (x16_1 + 1)))) else (if (bt t136 x16_1) < 48 then (if x16_1 ≤ (wrap64 (x16_1 + 1)) then (if (wrap64 (x16_1 + 1)) ≤ (t136.size : Int) then ((laws_has.f k1 (t136.extract (x16_1 : Int).toNat ((wrap64 (x16_1 + 1)) : Int).toNat) (⟨#[58, 95, 46, 45, 92]⟩ : ByteArray)).bind fun t139 => (if t139 = true then (if x16_1 = 0 then (if (bt t136 x16_1) = 46 then (some false) else (laws_FnNameSigns.l0 k1 t136 (t136.size : Int) (wrap64 (x16_1 + 1)))) else (laws_FnNameSigns.l0 k1 t136 (t136.size : Int) (wrap64 (x16_1 + 1)))) else (some false))) else (none)) else (none)) else (if (bt t136 x16_1) > 57 then (if x16_1 ≤ (wrap64 (x16_1 + 1)) then (if (wrap64 (x16_1 + 1)) ≤ (t136.size : Int) then ((laws_has.f k1 (t136.extract (x16_1 : Int).toNat ((wrap64 (x16_1 + 1)) : Int).toNat) (⟨#[58, 95, 46, 45, 92]⟩ : ByteArray)).bind fun t140 => (if t140 = true then (if x16_1 = 0 then (if (bt t136 x16_1) = 46 then (some false) else (laws_FnNameSigns.l0 k1 t136 (t136.size : Int) (wrap64 (x16_1 + 1)))) else (laws_FnNameSigns.l0 k1 t136 (t136.size : Int) (wrap64 (x16_1 + 1)))) else (some false))) else (none)) else (none)) else (if x16_1 = 0 then (if (bt t136 x16_1) = 46 then (some false) else (laws_FnNameSigns.l0 k1 t136 (t136.size : Int) (wrap64 (x16_1 + 1)))) else (laws_FnNameSigns.l0 k1 t136 (t136.size : Int) (wrap64 (x16_1 + 1))))))) = some r := H
                have A10 := Aside0.mk A100
                clear A100
                by_cases c11 : t138 = true
                · subst c11
                  have H1 : (if x16_1 = 0 then (if (bt t136 x16_1) = 46 then (some false) else (laws_FnNameSigns.l0 k1 t136 (t136.size : Int) (wrap64 (x16_1 + 1)))) else (laws_FnNameSigns.l0 k1 t136 (t136.size : Int) (wrap64 (x16_1 + 1)))) = some r := by rw [if_pos rfl] at H; exact H
                  clear H
                  have H := H1
                  clear H1
                  by_cases c12 : x16_1 = 0
                  · rw [if_pos c12] at H
                    have c12b0 : (x16_1 == 0) = true := beq_iff_eq.mpr c12
                    have c12b1 : (x16_1 != 0) = false := bne_eq_false_iff_eq.mpr c12
                    clear c12
                    by_cases c13 : (bt t136 x16_1) = 46
                    · rw [if_pos c13] at H
                      have c13b0 : ((bt t136 x16_1) == 46) = true := beq_iff_eq.mpr c13
                      have c13b1 : ((bt t136 x16_1) != 46) = false := bne_eq_false_iff_eq.mpr c13
                      clear c13
                      obtain rfl := Option.some.inj H
                      have p9 : 0 ≤ (x16_1 : Int) := of_decide_eq_true (by first | (with_reducible assumption) | assumption)
                      have q9 : x16_1 < (t136.size : Int) := of_decide_eq_true (by first | (with_reducible assumption) | assumption)
                      have hx9 := bt_at t136 x16_1
                      replace p9 := eq_true p9
                      replace q9 := eq_true q9
                      go_wp2_with (first | ((with_reducible refine gate_callee (f := 5) rfl ?_); refine goesL_ (some 23) rfl rfl Try.func5 (by kernel_rfl) rfl #[.int .u8 (bt t136 x16_1)] rfl (by (try simp only [List.map_toArray, List.map_cons, List.map_nil]); first | done | rfl | (simp only [List.length_drop, List.length_take]; rfl)) ?_; (with_reducible refine (laws_letter.calls (bt t136 x16_1) true _ A10.out).mono ?_); rintro e w' ⟨rfl, ⟨nd, rfl⟩⟩; refine ⟨_, rfl, ?_⟩))
                      go_ret
                      exact ⟨by first | rfl | (simp [errW_none, errW_some] <;> rfl) | (simp [*, errW_none, errW_some] <;> rfl), by repeat (first | (with_reducible first | exact HB.out | apply below_alloc | apply pw_below_drewN | apply below_drew1) | exact HB.out)⟩
                    · rw [if_neg c13] at H
                      have c13b0 : ((bt t136 x16_1) == 46) = false := beq_eq_false_iff_ne.mpr c13
                      have c13b1 : ((bt t136 x16_1) != 46) = true := bne_iff_ne.mpr c13
                      have H' := Aside0.mk H
                      clear H
                      have p9 : 0 ≤ (x16_1 : Int) := of_decide_eq_true (by first | (with_reducible assumption) | assumption)
                      have q9 : x16_1 < (t136.size : Int) := of_decide_eq_true (by first | (with_reducible assumption) | assumption)
                      have hx9 := bt_at t136 x16_1
                      replace p9 := eq_true p9
                      replace q9 := eq_true q9
                      go_wp2_with (first | ((with_reducible refine gate_callee (f := 5) rfl ?_); refine goesL_ (some 23) rfl rfl Try.func5 (by kernel_rfl) rfl #[.int .u8 (bt t136 x16_1)] rfl (by (try simp only [List.map_toArray, List.map_cons, List.map_nil]); first | done | rfl | (simp only [List.length_drop, List.length_take]; rfl)) ?_; (with_reducible refine (laws_letter.calls (bt t136 x16_1) true _ A10.out).mono ?_); rintro e w' ⟨rfl, ⟨nd, rfl⟩⟩; refine ⟨_, rfl, ?_⟩))
                      go_roundg k1
                      case measure => have := HK1.out; omega
                      case rel => exact ⟨(wrap64 (x16_1 + 1)), (by first | rfl | (simp; done) | (simp [*]; done)), H', ⟨by have := HK1.out; omega⟩, ⟨by repeat (first | (with_reducible first | exact HB.out | apply below_alloc | apply pw_below_drewN | apply below_drew1) | exact HB.out)⟩⟩
                  · rw [if_neg c12] at H
                    have c12b0 : (x16_1 == 0) = false := beq_eq_false_iff_ne.mpr c12
                    have c12b1 : (x16_1 != 0) = true := bne_iff_ne.mpr c12
                    have H' := Aside0.mk H
                    clear H
                    have p9 : 0 ≤ (x16_1 : Int) := of_decide_eq_true (by first | (with_reducible assumption) | assumption)
                    have q9 : x16_1 < (t136.size : Int) := of_decide_eq_true (by first | (with_reducible assumption) | assumption)
                    have hx9 := bt_at t136 x16_1
                    replace p9 := eq_true p9
                    replace q9 := eq_true q9
                    go_wp2_with (first | ((with_reducible refine gate_callee (f := 5) rfl ?_); refine goesL_ (some 23) rfl rfl Try.func5 (by kernel_rfl) rfl #[.int .u8 (bt t136 x16_1)] rfl (by (try simp only [List.map_toArray, List.map_cons, List.map_nil]); first | done | rfl | (simp only [List.length_drop, List.length_take]; rfl)) ?_; (with_reducible refine (laws_letter.calls (bt t136 x16_1) true _ A10.out).mono ?_); rintro e w' ⟨rfl, ⟨nd, rfl⟩⟩; refine ⟨_, rfl, ?_⟩))
                    go_roundg k1
                    case measure => have := HK1.out; omega
                    case rel => exact ⟨(wrap64 (x16_1 + 1)), (by first | rfl | (simp; done) | (simp [*]; done)), H', ⟨by have := HK1.out; omega⟩, ⟨by repeat (first | (with_reducible first | exact HB.out | apply below_alloc | apply pw_below_drewN | apply below_drew1) | exact HB.out)⟩⟩
                · replace c11 := Bool.eq_false_iff.mpr c11
                  subst c11
                  have H1 : (if (bt t136 x16_1) < 48 then (if x16_1 ≤ (wrap64 (x16_1 + 1)) then (if (wrap64 (x16_1 + 1)) ≤ (t136.size : Int) then ((laws_has.f k1 (t136.extract (x16_1 : Int).toNat ((wrap64 (x16_1 + 1)) : Int).toNat) (⟨#[58, 95, 46, 45, 92]⟩ : ByteArray)).bind fun t139 => (if t139 = true then (if x16_1 = 0 then (if (bt t136 x16_1) = 46 then (some false) else (laws_FnNameSigns.l0 k1 t136 (t136.size : Int) (wrap64 (x16_1 + 1)))) else (laws_FnNameSigns.l0 k1 t136 (t136.size : Int) (wrap64 (x16_1 + 1)))) else (some false))) else (none)) else (none)) else (if (bt t136 x16_1) > 57 then (if x16_1 ≤ (wrap64 (x16_1 + 1)) then (if (wrap64 (x16_1 + 1)) ≤ (t136.size : Int) then ((laws_has.f k1 (t136.extract (x16_1 : Int).toNat ((wrap64 (x16_1 + 1)) : Int).toNat) (⟨#[58, 95, 46, 45, 92]⟩ : ByteArray)).bind fun t140 => (if t140 = true then (if x16_1 = 0 then (if (bt t136 x16_1) = 46 then (some false) else (laws_FnNameSigns.l0 k1 t136 (t136.size : Int) (wrap64 (x16_1 + 1)))) else (laws_FnNameSigns.l0 k1 t136 (t136.size : Int) (wrap64 (x16_1 + 1)))) else (some false))) else (none)) else (none)) else (if x16_1 = 0 then (if (bt t136 x16_1) = 46 then (some false) else (laws_FnNameSigns.l0 k1 t136 (t136.size : Int) (wrap64 (x16_1 + 1)))) else (laws_FnNameSigns.l0 k1 t136 (t136.size : Int) (wrap64 (x16_1 + 1)))))) = some r := by rw [if_neg (show ¬ (false = true) by decide)] at H; exact H
                  clear H
                  have H := H1
                  clear H1
                  by_cases c14 : (bt t136 x16_1) < 48
                  · rw [if_pos c14] at H
                    have c14b0 : decide ((bt t136 x16_1) < 48) = true := decide_eq_true c14
                    clear c14
                    have c15b0 := eq_true (of_decide_eq_true (by first | (with_reducible assumption) | assumption) : 0 ≤ x16_1)
                    by_cases c16 : x16_1 ≤ (wrap64 (x16_1 + 1))
                    · rw [if_pos c16] at H
                      have c16b0 := eq_true c16
                      have c16b1 : decide (x16_1 ≤ (wrap64 (x16_1 + 1))) = true := decide_eq_true c16
                      by_cases c17 : (wrap64 (x16_1 + 1)) ≤ (t136.size : Int)
                      · rw [if_pos c17] at H
                        have c17b0 := eq_true c17
                        have c17b1 : decide ((wrap64 (x16_1 + 1)) ≤ (t136.size : Int)) = true := decide_eq_true c17
                        replace H := Option.bind_eq_some_iff.mp H
                        obtain ⟨t139, A180, H⟩ := H
                        replace H : (if t139 = true then (if x16_1 = 0 then (if (bt t136 x16_1) = 46 then (some false) else (laws_FnNameSigns.l0 k1 t136 (t136.size : Int) (wrap64 (x16_1 + 1)))) else (laws_FnNameSigns.l0 k1 t136 (t136.size : Int) (wrap64 (x16_1 + 1)))) else (some false)) = some r := H
                        have A18 := Aside0.mk A180
                        clear A180
                        by_cases c19 : t139 = true
                        · subst c19
                          have H1 : (if x16_1 = 0 then (if (bt t136 x16_1) = 46 then (some false) else (laws_FnNameSigns.l0 k1 t136 (t136.size : Int) (wrap64 (x16_1 + 1)))) else (laws_FnNameSigns.l0 k1 t136 (t136.size : Int) (wrap64 (x16_1 + 1)))) = some r := by rw [if_pos rfl] at H; exact H
                          clear H
                          have H := H1
                          clear H1
                          by_cases c20 : x16_1 = 0
                          · rw [if_pos c20] at H
                            have c20b0 : (x16_1 == 0) = true := beq_iff_eq.mpr c20
                            have c20b1 : (x16_1 != 0) = false := bne_eq_false_iff_eq.mpr c20
                            clear c20
                            by_cases c21 : (bt t136 x16_1) = 46
                            · rw [if_pos c21] at H
                              have c21b0 : ((bt t136 x16_1) == 46) = true := beq_iff_eq.mpr c21
                              have c21b1 : ((bt t136 x16_1) != 46) = false := bne_eq_false_iff_eq.mpr c21
                              clear c21
                              obtain rfl := Option.some.inj H
                              have p9 : 0 ≤ (x16_1 : Int) := of_decide_eq_true (by first | (with_reducible assumption) | assumption)
                              have q9 : x16_1 < (t136.size : Int) := of_decide_eq_true (by first | (with_reducible assumption) | assumption)
                              have hx9 := bt_at t136 x16_1
                              replace p9 := eq_true p9
                              replace q9 := eq_true q9
                              go_wp2_with (first | ((with_reducible refine gate_callee (f := 5) rfl ?_); refine goesL_ (some 23) rfl rfl Try.func5 (by kernel_rfl) rfl #[.int .u8 (bt t136 x16_1)] rfl (by (try simp only [List.map_toArray, List.map_cons, List.map_nil]); first | done | rfl | (simp only [List.length_drop, List.length_take]; rfl)) ?_; (with_reducible refine (laws_letter.calls (bt t136 x16_1) false _ A10.out).mono ?_); rintro e w' ⟨rfl, ⟨nd, rfl⟩⟩; refine ⟨_, rfl, ?_⟩) | (go_at_call 6; (with_reducible refine (laws_has.calls k1 (t136.extract (x16_1 : Int).toNat ((wrap64 (x16_1 + 1)) : Int).toNat) (⟨#[58, 95, 46, 45, 92]⟩ : ByteArray) true _ A18.out).mono ?_); rintro e w' ⟨rfl, ⟨nd, rfl⟩⟩))
                              go_ret
                              exact ⟨by first | rfl | (simp [errW_none, errW_some] <;> rfl) | (simp [*, errW_none, errW_some] <;> rfl), by repeat (first | (with_reducible first | exact HB.out | apply below_alloc | apply pw_below_drewN | apply below_drew1) | exact HB.out)⟩
                            · rw [if_neg c21] at H
                              have c21b0 : ((bt t136 x16_1) == 46) = false := beq_eq_false_iff_ne.mpr c21
                              have c21b1 : ((bt t136 x16_1) != 46) = true := bne_iff_ne.mpr c21
                              have H' := Aside0.mk H
                              clear H
                              have p9 : 0 ≤ (x16_1 : Int) := of_decide_eq_true (by first | (with_reducible assumption) | assumption)
                              have q9 : x16_1 < (t136.size : Int) := of_decide_eq_true (by first | (with_reducible assumption) | assumption)
                              have hx9 := bt_at t136 x16_1
                              replace p9 := eq_true p9
                              replace q9 := eq_true q9
                              go_wp2_with (first | ((with_reducible refine gate_callee (f := 5) rfl ?_); refine goesL_ (some 23) rfl rfl Try.func5 (by kernel_rfl) rfl #[.int .u8 (bt t136 x16_1)] rfl (by (try simp only [List.map_toArray, List.map_cons, List.map_nil]); first | done | rfl | (simp only [List.length_drop, List.length_take]; rfl)) ?_; (with_reducible refine (laws_letter.calls (bt t136 x16_1) false _ A10.out).mono ?_); rintro e w' ⟨rfl, ⟨nd, rfl⟩⟩; refine ⟨_, rfl, ?_⟩) | (go_at_call 6; (with_reducible refine (laws_has.calls k1 (t136.extract (x16_1 : Int).toNat ((wrap64 (x16_1 + 1)) : Int).toNat) (⟨#[58, 95, 46, 45, 92]⟩ : ByteArray) true _ A18.out).mono ?_); rintro e w' ⟨rfl, ⟨nd, rfl⟩⟩))
                              go_roundg k1
                              case measure => have := HK1.out; omega
                              case rel => exact ⟨(wrap64 (x16_1 + 1)), (by first | rfl | (simp; done) | (simp [*]; done)), H', ⟨by have := HK1.out; omega⟩, ⟨by repeat (first | (with_reducible first | exact HB.out | apply below_alloc | apply pw_below_drewN | apply below_drew1) | exact HB.out)⟩⟩
                          · rw [if_neg c20] at H
                            have c20b0 : (x16_1 == 0) = false := beq_eq_false_iff_ne.mpr c20
                            have c20b1 : (x16_1 != 0) = true := bne_iff_ne.mpr c20
                            have H' := Aside0.mk H
                            clear H
                            have p9 : 0 ≤ (x16_1 : Int) := of_decide_eq_true (by first | (with_reducible assumption) | assumption)
                            have q9 : x16_1 < (t136.size : Int) := of_decide_eq_true (by first | (with_reducible assumption) | assumption)
                            have hx9 := bt_at t136 x16_1
                            replace p9 := eq_true p9
                            replace q9 := eq_true q9
                            go_wp2_with (first | ((with_reducible refine gate_callee (f := 5) rfl ?_); refine goesL_ (some 23) rfl rfl Try.func5 (by kernel_rfl) rfl #[.int .u8 (bt t136 x16_1)] rfl (by (try simp only [List.map_toArray, List.map_cons, List.map_nil]); first | done | rfl | (simp only [List.length_drop, List.length_take]; rfl)) ?_; (with_reducible refine (laws_letter.calls (bt t136 x16_1) false _ A10.out).mono ?_); rintro e w' ⟨rfl, ⟨nd, rfl⟩⟩; refine ⟨_, rfl, ?_⟩) | (go_at_call 6; (with_reducible refine (laws_has.calls k1 (t136.extract (x16_1 : Int).toNat ((wrap64 (x16_1 + 1)) : Int).toNat) (⟨#[58, 95, 46, 45, 92]⟩ : ByteArray) true _ A18.out).mono ?_); rintro e w' ⟨rfl, ⟨nd, rfl⟩⟩))
                            go_roundg k1
                            case measure => have := HK1.out; omega
                            case rel => exact ⟨(wrap64 (x16_1 + 1)), (by first | rfl | (simp; done) | (simp [*]; done)), H', ⟨by have := HK1.out; omega⟩, ⟨by repeat (first | (with_reducible first | exact HB.out | apply below_alloc | apply pw_below_drewN | apply below_drew1) | exact HB.out)⟩⟩
                        · replace c19 := Bool.eq_false_iff.mpr c19
                          subst c19
                          have H1 : (some false) = some r := by rw [if_neg (show ¬ (false = true) by decide)] at H; exact H
                          clear H
                          have H := H1
                          clear H1
                          obtain rfl := Option.some.inj H
                          have p9 : 0 ≤ (x16_1 : Int) := of_decide_eq_true (by first | (with_reducible assumption) | assumption)
                          have q9 : x16_1 < (t136.size : Int) := of_decide_eq_true (by first | (with_reducible assumption) | assumption)
                          have hx9 := bt_at t136 x16_1
                          replace p9 := eq_true p9
                          replace q9 := eq_true q9
                          go_wp2_with (first | ((with_reducible refine gate_callee (f := 5) rfl ?_); refine goesL_ (some 23) rfl rfl Try.func5 (by kernel_rfl) rfl #[.int .u8 (bt t136 x16_1)] rfl (by (try simp only [List.map_toArray, List.map_cons, List.map_nil]); first | done | rfl | (simp only [List.length_drop, List.length_take]; rfl)) ?_; (with_reducible refine (laws_letter.calls (bt t136 x16_1) false _ A10.out).mono ?_); rintro e w' ⟨rfl, ⟨nd, rfl⟩⟩; refine ⟨_, rfl, ?_⟩) | (go_at_call 6; (with_reducible refine (laws_has.calls k1 (t136.extract (x16_1 : Int).toNat ((wrap64 (x16_1 + 1)) : Int).toNat) (⟨#[58, 95, 46, 45, 92]⟩ : ByteArray) false _ A18.out).mono ?_); rintro e w' ⟨rfl, ⟨nd, rfl⟩⟩))
                          go_ret
                          exact ⟨by first | rfl | (simp [errW_none, errW_some] <;> rfl) | (simp [*, errW_none, errW_some] <;> rfl), by repeat (first | (with_reducible first | exact HB.out | apply below_alloc | apply pw_below_drewN | apply below_drew1) | exact HB.out)⟩
                      · rw [if_neg c17] at H
                        exact absurd H (by simp)
                    · rw [if_neg c16] at H
                      exact absurd H (by simp)
                  · rw [if_neg c14] at H
                    have c14b0 : decide ((bt t136 x16_1) < 48) = false := decide_eq_false c14
                    clear c14
                    by_cases c22 : (bt t136 x16_1) > 57
                    · rw [if_pos c22] at H
                      have c22b0 : decide (57 < (bt t136 x16_1)) = true := decide_eq_true c22
                      clear c22
                      have c23b0 := eq_true (of_decide_eq_true (by first | (with_reducible assumption) | assumption) : 0 ≤ x16_1)
                      by_cases c24 : x16_1 ≤ (wrap64 (x16_1 + 1))
                      · rw [if_pos c24] at H
                        have c24b0 := eq_true c24
                        have c24b1 : decide (x16_1 ≤ (wrap64 (x16_1 + 1))) = true := decide_eq_true c24
                        by_cases c25 : (wrap64 (x16_1 + 1)) ≤ (t136.size : Int)
                        · rw [if_pos c25] at H
                          have c25b0 := eq_true c25
                          have c25b1 : decide ((wrap64 (x16_1 + 1)) ≤ (t136.size : Int)) = true := decide_eq_true c25
                          replace H := Option.bind_eq_some_iff.mp H
                          obtain ⟨t140, A260, H⟩ := H
                          replace H : (if t140 = true then (if x16_1 = 0 then (if (bt t136 x16_1) = 46 then (some false) else (laws_FnNameSigns.l0 k1 t136 (t136.size : Int) (wrap64 (x16_1 + 1)))) else (laws_FnNameSigns.l0 k1 t136 (t136.size : Int) (wrap64 (x16_1 + 1)))) else (some false)) = some r := H
                          have A26 := Aside0.mk A260
                          clear A260
                          by_cases c27 : t140 = true
                          · subst c27
                            have H1 : (if x16_1 = 0 then (if (bt t136 x16_1) = 46 then (some false) else (laws_FnNameSigns.l0 k1 t136 (t136.size : Int) (wrap64 (x16_1 + 1)))) else (laws_FnNameSigns.l0 k1 t136 (t136.size : Int) (wrap64 (x16_1 + 1)))) = some r := by rw [if_pos rfl] at H; exact H
                            clear H
                            have H := H1
                            clear H1
                            by_cases c28 : x16_1 = 0
                            · rw [if_pos c28] at H
                              have c28b0 : (x16_1 == 0) = true := beq_iff_eq.mpr c28
                              have c28b1 : (x16_1 != 0) = false := bne_eq_false_iff_eq.mpr c28
                              clear c28
                              by_cases c29 : (bt t136 x16_1) = 46
                              · rw [if_pos c29] at H
                                have c29b0 : ((bt t136 x16_1) == 46) = true := beq_iff_eq.mpr c29
                                have c29b1 : ((bt t136 x16_1) != 46) = false := bne_eq_false_iff_eq.mpr c29
                                clear c29
                                obtain rfl := Option.some.inj H
                                have p9 : 0 ≤ (x16_1 : Int) := of_decide_eq_true (by first | (with_reducible assumption) | assumption)
                                have q9 : x16_1 < (t136.size : Int) := of_decide_eq_true (by first | (with_reducible assumption) | assumption)
                                have hx9 := bt_at t136 x16_1
                                replace p9 := eq_true p9
                                replace q9 := eq_true q9
                                go_wp2_with (first | ((with_reducible refine gate_callee (f := 5) rfl ?_); refine goesL_ (some 23) rfl rfl Try.func5 (by kernel_rfl) rfl #[.int .u8 (bt t136 x16_1)] rfl (by (try simp only [List.map_toArray, List.map_cons, List.map_nil]); first | done | rfl | (simp only [List.length_drop, List.length_take]; rfl)) ?_; (with_reducible refine (laws_letter.calls (bt t136 x16_1) false _ A10.out).mono ?_); rintro e w' ⟨rfl, ⟨nd, rfl⟩⟩; refine ⟨_, rfl, ?_⟩) | (go_at_call 6; (with_reducible refine (laws_has.calls k1 (t136.extract (x16_1 : Int).toNat ((wrap64 (x16_1 + 1)) : Int).toNat) (⟨#[58, 95, 46, 45, 92]⟩ : ByteArray) true _ A26.out).mono ?_); rintro e w' ⟨rfl, ⟨nd, rfl⟩⟩))
                                go_ret
                                exact ⟨by first | rfl | (simp [errW_none, errW_some] <;> rfl) | (simp [*, errW_none, errW_some] <;> rfl), by repeat (first | (with_reducible first | exact HB.out | apply below_alloc | apply pw_below_drewN | apply below_drew1) | exact HB.out)⟩
                              · rw [if_neg c29] at H
                                have c29b0 : ((bt t136 x16_1) == 46) = false := beq_eq_false_iff_ne.mpr c29
                                have c29b1 : ((bt t136 x16_1) != 46) = true := bne_iff_ne.mpr c29
                                have H' := Aside0.mk H
                                clear H
                                have p9 : 0 ≤ (x16_1 : Int) := of_decide_eq_true (by first | (with_reducible assumption) | assumption)
                                have q9 : x16_1 < (t136.size : Int) := of_decide_eq_true (by first | (with_reducible assumption) | assumption)
                                have hx9 := bt_at t136 x16_1
                                replace p9 := eq_true p9
                                replace q9 := eq_true q9
                                go_wp2_with (first | ((with_reducible refine gate_callee (f := 5) rfl ?_); refine goesL_ (some 23) rfl rfl Try.func5 (by kernel_rfl) rfl #[.int .u8 (bt t136 x16_1)] rfl (by (try simp only [List.map_toArray, List.map_cons, List.map_nil]); first | done | rfl | (simp only [List.length_drop, List.length_take]; rfl)) ?_; (with_reducible refine (laws_letter.calls (bt t136 x16_1) false _ A10.out).mono ?_); rintro e w' ⟨rfl, ⟨nd, rfl⟩⟩; refine ⟨_, rfl, ?_⟩) | (go_at_call 6; (with_reducible refine (laws_has.calls k1 (t136.extract (x16_1 : Int).toNat ((wrap64 (x16_1 + 1)) : Int).toNat) (⟨#[58, 95, 46, 45, 92]⟩ : ByteArray) true _ A26.out).mono ?_); rintro e w' ⟨rfl, ⟨nd, rfl⟩⟩))
                                go_roundg k1
                                case measure => have := HK1.out; omega
                                case rel => exact ⟨(wrap64 (x16_1 + 1)), (by first | rfl | (simp; done) | (simp [*]; done)), H', ⟨by have := HK1.out; omega⟩, ⟨by repeat (first | (with_reducible first | exact HB.out | apply below_alloc | apply pw_below_drewN | apply below_drew1) | exact HB.out)⟩⟩
                            · rw [if_neg c28] at H
                              have c28b0 : (x16_1 == 0) = false := beq_eq_false_iff_ne.mpr c28
                              have c28b1 : (x16_1 != 0) = true := bne_iff_ne.mpr c28
                              have H' := Aside0.mk H
                              clear H
                              have p9 : 0 ≤ (x16_1 : Int) := of_decide_eq_true (by first | (with_reducible assumption) | assumption)
                              have q9 : x16_1 < (t136.size : Int) := of_decide_eq_true (by first | (with_reducible assumption) | assumption)
                              have hx9 := bt_at t136 x16_1
                              replace p9 := eq_true p9
                              replace q9 := eq_true q9
                              go_wp2_with (first | ((with_reducible refine gate_callee (f := 5) rfl ?_); refine goesL_ (some 23) rfl rfl Try.func5 (by kernel_rfl) rfl #[.int .u8 (bt t136 x16_1)] rfl (by (try simp only [List.map_toArray, List.map_cons, List.map_nil]); first | done | rfl | (simp only [List.length_drop, List.length_take]; rfl)) ?_; (with_reducible refine (laws_letter.calls (bt t136 x16_1) false _ A10.out).mono ?_); rintro e w' ⟨rfl, ⟨nd, rfl⟩⟩; refine ⟨_, rfl, ?_⟩) | (go_at_call 6; (with_reducible refine (laws_has.calls k1 (t136.extract (x16_1 : Int).toNat ((wrap64 (x16_1 + 1)) : Int).toNat) (⟨#[58, 95, 46, 45, 92]⟩ : ByteArray) true _ A26.out).mono ?_); rintro e w' ⟨rfl, ⟨nd, rfl⟩⟩))
                              go_roundg k1
                              case measure => have := HK1.out; omega
                              case rel => exact ⟨(wrap64 (x16_1 + 1)), (by first | rfl | (simp; done) | (simp [*]; done)), H', ⟨by have := HK1.out; omega⟩, ⟨by repeat (first | (with_reducible first | exact HB.out | apply below_alloc | apply pw_below_drewN | apply below_drew1) | exact HB.out)⟩⟩
                          · replace c27 := Bool.eq_false_iff.mpr c27
                            subst c27
                            have H1 : (some false) = some r := by rw [if_neg (show ¬ (false = true) by decide)] at H; exact H
                            clear H
                            have H := H1
                            clear H1
                            obtain rfl := Option.some.inj H
                            have p9 : 0 ≤ (x16_1 : Int) := of_decide_eq_true (by first | (with_reducible assumption) | assumption)
                            have q9 : x16_1 < (t136.size : Int) := of_decide_eq_true (by first | (with_reducible assumption) | assumption)
                            have hx9 := bt_at t136 x16_1
                            replace p9 := eq_true p9
                            replace q9 := eq_true q9
                            go_wp2_with (first | ((with_reducible refine gate_callee (f := 5) rfl ?_); refine goesL_ (some 23) rfl rfl Try.func5 (by kernel_rfl) rfl #[.int .u8 (bt t136 x16_1)] rfl (by (try simp only [List.map_toArray, List.map_cons, List.map_nil]); first | done | rfl | (simp only [List.length_drop, List.length_take]; rfl)) ?_; (with_reducible refine (laws_letter.calls (bt t136 x16_1) false _ A10.out).mono ?_); rintro e w' ⟨rfl, ⟨nd, rfl⟩⟩; refine ⟨_, rfl, ?_⟩) | (go_at_call 6; (with_reducible refine (laws_has.calls k1 (t136.extract (x16_1 : Int).toNat ((wrap64 (x16_1 + 1)) : Int).toNat) (⟨#[58, 95, 46, 45, 92]⟩ : ByteArray) false _ A26.out).mono ?_); rintro e w' ⟨rfl, ⟨nd, rfl⟩⟩))
                            go_ret
                            exact ⟨by first | rfl | (simp [errW_none, errW_some] <;> rfl) | (simp [*, errW_none, errW_some] <;> rfl), by repeat (first | (with_reducible first | exact HB.out | apply below_alloc | apply pw_below_drewN | apply below_drew1) | exact HB.out)⟩
                        · rw [if_neg c25] at H
                          exact absurd H (by simp)
                      · rw [if_neg c24] at H
                        exact absurd H (by simp)
                    · rw [if_neg c22] at H
                      have c22b0 : decide (57 < (bt t136 x16_1)) = false := decide_eq_false c22
                      clear c22
                      by_cases c30 : x16_1 = 0
                      · rw [if_pos c30] at H
                        have c30b0 : (x16_1 == 0) = true := beq_iff_eq.mpr c30
                        have c30b1 : (x16_1 != 0) = false := bne_eq_false_iff_eq.mpr c30
                        clear c30
                        by_cases c31 : (bt t136 x16_1) = 46
                        · rw [if_pos c31] at H
                          have c31b0 : ((bt t136 x16_1) == 46) = true := beq_iff_eq.mpr c31
                          have c31b1 : ((bt t136 x16_1) != 46) = false := bne_eq_false_iff_eq.mpr c31
                          clear c31
                          obtain rfl := Option.some.inj H
                          have p9 : 0 ≤ (x16_1 : Int) := of_decide_eq_true (by first | (with_reducible assumption) | assumption)
                          have q9 : x16_1 < (t136.size : Int) := of_decide_eq_true (by first | (with_reducible assumption) | assumption)
                          have hx9 := bt_at t136 x16_1
                          replace p9 := eq_true p9
                          replace q9 := eq_true q9
                          go_wp2_with (first | ((with_reducible refine gate_callee (f := 5) rfl ?_); refine goesL_ (some 23) rfl rfl Try.func5 (by kernel_rfl) rfl #[.int .u8 (bt t136 x16_1)] rfl (by (try simp only [List.map_toArray, List.map_cons, List.map_nil]); first | done | rfl | (simp only [List.length_drop, List.length_take]; rfl)) ?_; (with_reducible refine (laws_letter.calls (bt t136 x16_1) false _ A10.out).mono ?_); rintro e w' ⟨rfl, ⟨nd, rfl⟩⟩; refine ⟨_, rfl, ?_⟩))
                          go_ret
                          exact ⟨by first | rfl | (simp [errW_none, errW_some] <;> rfl) | (simp [*, errW_none, errW_some] <;> rfl), by repeat (first | (with_reducible first | exact HB.out | apply below_alloc | apply pw_below_drewN | apply below_drew1) | exact HB.out)⟩
                        · rw [if_neg c31] at H
                          have c31b0 : ((bt t136 x16_1) == 46) = false := beq_eq_false_iff_ne.mpr c31
                          have c31b1 : ((bt t136 x16_1) != 46) = true := bne_iff_ne.mpr c31
                          have H' := Aside0.mk H
                          clear H
                          have p9 : 0 ≤ (x16_1 : Int) := of_decide_eq_true (by first | (with_reducible assumption) | assumption)
                          have q9 : x16_1 < (t136.size : Int) := of_decide_eq_true (by first | (with_reducible assumption) | assumption)
                          have hx9 := bt_at t136 x16_1
                          replace p9 := eq_true p9
                          replace q9 := eq_true q9
                          go_wp2_with (first | ((with_reducible refine gate_callee (f := 5) rfl ?_); refine goesL_ (some 23) rfl rfl Try.func5 (by kernel_rfl) rfl #[.int .u8 (bt t136 x16_1)] rfl (by (try simp only [List.map_toArray, List.map_cons, List.map_nil]); first | done | rfl | (simp only [List.length_drop, List.length_take]; rfl)) ?_; (with_reducible refine (laws_letter.calls (bt t136 x16_1) false _ A10.out).mono ?_); rintro e w' ⟨rfl, ⟨nd, rfl⟩⟩; refine ⟨_, rfl, ?_⟩))
                          go_roundg k1
                          case measure => have := HK1.out; omega
                          case rel => exact ⟨(wrap64 (x16_1 + 1)), (by first | rfl | (simp; done) | (simp [*]; done)), H', ⟨by have := HK1.out; omega⟩, ⟨by repeat (first | (with_reducible first | exact HB.out | apply below_alloc | apply pw_below_drewN | apply below_drew1) | exact HB.out)⟩⟩
                      · rw [if_neg c30] at H
                        have c30b0 : (x16_1 == 0) = false := beq_eq_false_iff_ne.mpr c30
                        have c30b1 : (x16_1 != 0) = true := bne_iff_ne.mpr c30
                        have H' := Aside0.mk H
                        clear H
                        have p9 : 0 ≤ (x16_1 : Int) := of_decide_eq_true (by first | (with_reducible assumption) | assumption)
                        have q9 : x16_1 < (t136.size : Int) := of_decide_eq_true (by first | (with_reducible assumption) | assumption)
                        have hx9 := bt_at t136 x16_1
                        replace p9 := eq_true p9
                        replace q9 := eq_true q9
                        go_wp2_with (first | ((with_reducible refine gate_callee (f := 5) rfl ?_); refine goesL_ (some 23) rfl rfl Try.func5 (by kernel_rfl) rfl #[.int .u8 (bt t136 x16_1)] rfl (by (try simp only [List.map_toArray, List.map_cons, List.map_nil]); first | done | rfl | (simp only [List.length_drop, List.length_take]; rfl)) ?_; (with_reducible refine (laws_letter.calls (bt t136 x16_1) false _ A10.out).mono ?_); rintro e w' ⟨rfl, ⟨nd, rfl⟩⟩; refine ⟨_, rfl, ?_⟩))
                        go_roundg k1
                        case measure => have := HK1.out; omega
                        case rel => exact ⟨(wrap64 (x16_1 + 1)), (by first | rfl | (simp; done) | (simp [*]; done)), H', ⟨by have := HK1.out; omega⟩, ⟨by repeat (first | (with_reducible first | exact HB.out | apply below_alloc | apply pw_below_drewN | apply below_drew1) | exact HB.out)⟩⟩
              · rw [if_neg c8] at H
                exact absurd H (by simp)
            · rw [if_neg c7] at H
              exact absurd H (by simp)
          · rw [if_neg c6] at H
            have c6b0 : decide (x16_1 < (t136.size : Int)) = false := decide_eq_false c6
            clear c6
            replace H := Option.bind_eq_some_iff.mp H
            obtain ⟨t137, A320, H⟩ := H
            replace H : (some t137) = some r := H
            have A32 := Aside0.mk A320
            clear A320
            obtain rfl := Option.some.inj H
            go_wp2_with (first | ((with_reducible refine gate_callee (f := 7) rfl ?_); refine goesL_ (some 51) rfl rfl Try.func7 (by kernel_rfl) rfl #[] rfl (by (try simp only [List.map_toArray, List.map_cons, List.map_nil]); first | done | rfl | (simp only [List.length_drop, List.length_take]; rfl)) ?_; (with_reducible refine (laws_escapes.calls k1  t137 _ A32.out).mono ?_); rintro e w33 ⟨rfl, hb⟩; refine ⟨_, rfl, ?_⟩; have n0_ := Aside0.mk (below_step (by repeat (first | (with_reducible first | exact HB.out | apply below_alloc | apply pw_below_drewN | apply below_drew1) | exact HB.out)) hb); clear HB; have HB := n0_; clear n0_; (try clear hb); (try clear hb2); (try clear hk); (try clear hi)))
            go_ret
            exact ⟨by first | rfl | (simp [errW_none, errW_some] <;> rfl) | (simp [*, errW_none, errW_some] <;> rfl), by repeat (first | (with_reducible first | exact HB.out | apply below_alloc | apply pw_below_drewN | apply below_drew1) | exact HB.out)⟩

/-- THE ONE PURE STATEMENT of laws_FnNameSigns: yours. -/
def laws_FnNameSigns.Pure : Prop := ∀ (a0 : ByteArray), a0.size ≤ 140737488351232 → ∃ k, laws_FnNameSigns.f k a0 = some true
theorem laws_FnNameSigns.walk (P : laws_FnNameSigns.Pure) (a0 : ByteArray) (w : World) (w0 : a0.size ≤ 140737488351232) :
    Calls Try.prog 3 #[.string a0] w fun e w' => e = .returned (.bool true) ∧ Below w.heap.size w w' := by
  obtain ⟨k, h⟩ := P a0 w0
  refine (laws_FnNameSigns.calls k a0 true w h).mono ?_
  rintro e w' ⟨rfl, hd⟩
  exact ⟨rfl, hd⟩

end Go.Proofs.Ytgnfapnnbcafbaa.GFnNameSigns
