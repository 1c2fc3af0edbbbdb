-- printed by gprint.py (a session's own turn of the kit's print): PC
import Derived.Test.YtednjmngalmdkaaGreatDoorGPCx0
import Derived.Test.YtednjmngalmdkaaGreatDoorGPCx1
import Derived.Test.YtednjmngalmdkaaGreatDoorGivenPC
namespace Go.Proofs.YtednjmngalmdkaaGreatDoor.GPC
open Go.RowKit Go.Proofs.YtednjmngalmdkaaGreatDoorW.PrintWords Go.Proofs.YtednjmngalmdkaaGreatDoorW.PrintLast Go.Proofs.YtednjmngalmdkaaGreatDoorW.PrintMore
attribute [local go_sem] max2_int min2_int max_two min_two max_three min_three max_four min_four   -- for this text's walks alone
set_option linter.unusedVariables false
set_option linter.unusedSimpArgs false

attribute [local go_sem] run_store_float
/-! ### spec_Padded: function 88 -/
def spec_Padded.l0 : Nat → Int → ByteArray → Option (ByteArray)
  | 0, _, _ => none
  | k + 1, x2, x7 => if (x7.size : Int) < x2 then (if 1 + x7.size ≤ 9223372036854775807 then (spec_Padded.l0 k x2 ((⟨#[48]⟩ : ByteArray) ++ x7)) else (none)) else (some x7)
def spec_Padded.f (k : Nat) (a0 : Int) (a1 : Int) (a2 : Int) : Option (ByteArray) := (spec_Digits.f k a0 a1).bind fun t177 => (spec_Padded.l0 k a2 t177)
theorem spec_Padded.mono_l : ∀ k, (∀ y0 y1, LeO (spec_Padded.l0 k y0 y1) (spec_Padded.l0 (k + 1) y0 y1))
  | 0 => fun _ _ r h => by simp [spec_Padded.l0] at h
  | k + 1 => by
    have ih0 := spec_Padded.mono_l k
    · intro y0 y1
      unfold spec_Padded.l0
      repeat' first
      | (with_reducible exact ih0 _ _)
      | (with_reducible exact spec_Digits.mono _ _ _)
      | (with_reducible exact LeO.refl _)
      | (with_reducible exact LeO.none _)
      | (with_reducible refine LeO.ite ?_ ?_)
      | (with_reducible refine LeO.bind ?_ (fun _ => ?_))
      | exact ih0 _ _
      | exact spec_Digits.mono _ _ _
      | exact LeO.none _
      | refine LeO.ite ?_ ?_
      | refine LeO.bind ?_ (fun _ => ?_)
theorem spec_Padded.mono : ∀ a0 a1 a2 k, LeO (spec_Padded.f k a0 a1 a2) (spec_Padded.f (k + 1) a0 a1 a2) := by
  intro a0 a1 a2 k
  have ih0 := spec_Padded.mono_l k
  unfold spec_Padded.f
  repeat' first
      | (with_reducible exact ih0 _ _)
      | (with_reducible exact spec_Digits.mono _ _ _)
      | (with_reducible exact LeO.refl _)
      | (with_reducible exact LeO.none _)
      | (with_reducible refine LeO.ite ?_ ?_)
      | (with_reducible refine LeO.bind ?_ (fun _ => ?_))
      | exact ih0 _ _
      | exact spec_Digits.mono _ _ _
      | exact LeO.none _
      | refine LeO.ite ?_ ?_
      | refine LeO.bind ?_ (fun _ => ?_)
set_option maxHeartbeats 8000000 in
set_option maxRecDepth 100000 in
theorem spec_Padded.calls (k : Nat) (a0 : Int) (a1 : Int) (a2 : Int) (r : ByteArray) (w : World) (h : spec_Padded.f k a0 a1 a2 = some r) :
    Calls Tryz.prog 88 #[.int .u64 a0, .int .u64 a1, .int .i64 a2] w fun e w' => e = .returned (.string r) ∧ Below w.heap.size w w' := by
  have HB := Aside0.mk (Below.refl w.heap.size w)
  have H : ((spec_Digits.f k a0 a1).bind fun t177 => (spec_Padded.l0 k a2 t177)) = some r := h
  clear h
  replace H := Option.bind_eq_some_iff.mp H
  obtain ⟨t177, A40, H⟩ := H
  replace H : (spec_Padded.l0 k a2 t177) = some r := H
  have A4 := Aside0.mk A40
  clear A40
  have H' := Aside0.mk H
  clear H
  go_enter Tryz.func88, Tryz.ntmps88
  go_wp2_with (first | ((with_reducible refine gate_callee (f := 137) rfl ?_); refine goesL_ (some 10) rfl rfl Tryz.func137 (by kernel_rfl) rfl #[.int .u64 a0, .int .u64 a1] rfl (by (try simp only [List.map_toArray, List.map_cons, List.map_nil]); first | done | rfl | (simp only [List.length_drop, List.length_take]; rfl)) ?_; (with_reducible refine (spec_Digits.calls k a0 a1 t177 _ A4.out).mono ?_); rintro e w5 ⟨rfl, hb⟩; refine ⟨_, rfl, ?_⟩; have n0_ := Aside0.mk (below_step (by repeat (first | (with_reducible first | exact HB.out | apply below_alloc | apply pw_below_drewN | apply below_drew1) | exact HB.out)) hb); clear HB; have HB := n0_; clear n0_; (try clear hb); (try clear hb2); (try clear hk); (try clear hi)))
  go_loopg [7] k (fun kq v7 w' => ∃ (x7_1 : ByteArray), v7 = .string x7_1 ∧ Aside0 (spec_Padded.l0 kq a2 x7_1 = some r) ∧ Aside0 (kq ≤ k) ∧ Aside0 (Below w.heap.size w w'))
  case atStart => exact ⟨(t177), (by first | rfl | (simp; done) | (simp [*]; done)), H', ⟨Nat.le_refl _⟩, ⟨by repeat (first | (with_reducible first | exact HB.out | apply below_alloc | apply pw_below_drewN | apply below_drew1) | exact HB.out)⟩⟩
  case round =>
    clear H'
    try clear c1
    try clear p2
    obtain ⟨x7_1, rfl, HA, HK1, HB⟩ := hrel
    cases gk with
    | zero => exact absurd HA.out (by simp [spec_Padded.l0])
    | succ k1 =>
      have H := HA.out
      clear HA
      simp only [spec_Padded.l0] at H
      by_cases c6 : (x7_1.size : Int) < a2
      · rw [if_pos c6] at H
        have c6b0 : decide ((x7_1.size : Int) < a2) = true := decide_eq_true c6
        clear c6
        replace H := guard_inv H
        obtain ⟨c7, H⟩ := H
        have c7b0 := eq_true c7
        have c7b1 := decide_eq_true c7
        try have c7b2 := eq_false (Nat.not_lt.2 c7)
        have H' := Aside0.mk H
        clear H
        go_wp2
        go_roundg k1
        case measure => have := HK1.out; omega
        case rel => exact ⟨((⟨#[48]⟩ : ByteArray) ++ x7_1), (by first | rfl | (simp; done) | (simp [*]; done)), H', ⟨by have := HK1.out; omega⟩, ⟨by repeat (first | (with_reducible first | exact HB.out | apply below_alloc | apply pw_below_drewN | apply below_drew1) | exact HB.out)⟩⟩
      · rw [if_neg c6] at H
        have c6b0 : decide ((x7_1.size : Int) < a2) = false := decide_eq_false c6
        clear c6
        obtain rfl := Option.some.inj H
        go_wp2
        go_ret
        exact ⟨by first | rfl | (simp [errW_none, errW_some] <;> rfl) | (simp [*, errW_none, errW_some] <;> rfl), by repeat (first | (with_reducible first | exact HB.out | apply below_alloc | apply pw_below_drewN | apply below_drew1) | exact HB.out)⟩

/-! ### spec_Hundredths: function 51 -/
def spec_Hundredths.f (k : Nat) (a0 : Int) : Option (ByteArray) := (spec_Text.f k (IntKind.u64.wrap (Int.tdiv a0 100))).bind fun t178 => (if t178.size + 1 ≤ 9223372036854775807 then ((spec_Padded.f k (Int.tmod a0 100) 10 2).bind fun t179 => (if (t178 ++ (⟨#[46]⟩ : ByteArray)).size + t179.size ≤ 9223372036854775807 then (some ((t178 ++ (⟨#[46]⟩ : ByteArray)) ++ t179)) else (none))) else (none))
theorem spec_Hundredths.mono : ∀ a0 k, LeO (spec_Hundredths.f k a0) (spec_Hundredths.f (k + 1) a0) := by
  intro a0 k
  unfold spec_Hundredths.f
  repeat' first
      | (with_reducible exact spec_Padded.mono _ _ _ _)
      | (with_reducible exact spec_Text.mono _ _)
      | (with_reducible exact LeO.refl _)
      | (with_reducible exact LeO.none _)
      | (with_reducible refine LeO.ite ?_ ?_)
      | (with_reducible refine LeO.bind ?_ (fun _ => ?_))
      | exact spec_Padded.mono _ _ _ _
      | exact spec_Text.mono _ _
      | exact LeO.none _
      | refine LeO.ite ?_ ?_
      | refine LeO.bind ?_ (fun _ => ?_)
set_option maxHeartbeats 8000000 in
set_option maxRecDepth 100000 in
theorem spec_Hundredths.calls (k : Nat) (a0 : Int) (r : ByteArray) (w : World) (h : spec_Hundredths.f k a0 = some r) :
    Calls Tryz.prog 51 #[.int .u64 a0] w fun e w' => e = .returned (.string r) ∧ Below w.heap.size w w' := by
  have HB := Aside0.mk (Below.refl w.heap.size w)
  have H : ((spec_Text.f k (IntKind.u64.wrap (Int.tdiv a0 100))).bind fun t178 => (if t178.size + 1 ≤ 9223372036854775807 then ((spec_Padded.f k (Int.tmod a0 100) 10 2).bind fun t179 => (if (t178 ++ (⟨#[46]⟩ : ByteArray)).size + t179.size ≤ 9223372036854775807 then (some ((t178 ++ (⟨#[46]⟩ : ByteArray)) ++ t179)) else (none))) else (none))) = some r := h
  clear h
  replace H := Option.bind_eq_some_iff.mp H
  obtain ⟨t178, A20, H⟩ := H
  try dsimp -simprocs only at H
  have A2 := Aside0.mk A20
  clear A20
  replace H := guard_inv H
  obtain ⟨c3, H⟩ := H
  have c3b0 := eq_true c3
  have c3b1 := decide_eq_true c3
  try have c3b2 := eq_false (Nat.not_lt.2 c3)
  replace H := Option.bind_eq_some_iff.mp H
  obtain ⟨t179, A40, H⟩ := H
  replace H : (if (t178 ++ (⟨#[46]⟩ : ByteArray)).size + t179.size ≤ 9223372036854775807 then (some ((t178 ++ (⟨#[46]⟩ : ByteArray)) ++ t179)) else (none)) = some r := H
  have A4 := Aside0.mk A40
  clear A40
  replace H := guard_inv H
  obtain ⟨c5, H⟩ := H
  have c5b0 := eq_true c5
  have c5b1 := decide_eq_true c5
  try have c5b2 := eq_false (Nat.not_lt.2 c5)
  try have c5b5 : (9223372036854775807 < t178.size + 1 + t179.size) = False := by have e_ := c5b2; (repeat rw [ByteArray.size_append] at e_); exact e_
  obtain rfl := Option.some.inj H
  go_enter Tryz.func51, Tryz.ntmps51
  go_wp2_with (first | ((with_reducible refine gate_callee (f := 52) rfl ?_); refine goesL_ (some 5) rfl rfl Tryz.func52 (by kernel_rfl) rfl #[.int .u64 (IntKind.u64.wrap (Int.tdiv a0 100))] rfl (by (try simp only [List.map_toArray, List.map_cons, List.map_nil]); first | done | rfl | (simp only [List.length_drop, List.length_take]; rfl)) ?_; (with_reducible refine (spec_Text.calls k (IntKind.u64.wrap (Int.tdiv a0 100)) t178 _ A2.out).mono ?_); rintro e w6 ⟨rfl, hb⟩; refine ⟨_, rfl, ?_⟩; have n0_ := Aside0.mk (below_step (by repeat (first | (with_reducible first | exact HB.out | apply below_alloc | apply pw_below_drewN | apply below_drew1) | exact HB.out)) hb); clear HB; have HB := n0_; clear n0_; (try clear hb); (try clear hb2); (try clear hk); (try clear hi)) | ((with_reducible refine gate_callee (f := 88) rfl ?_); refine goesL_ (some 9) rfl rfl Tryz.func88 (by kernel_rfl) rfl #[.int .u64 (Int.tmod a0 100), .int .u64 10, .int .i64 2] rfl (by (try simp only [List.map_toArray, List.map_cons, List.map_nil]); first | done | rfl | (simp only [List.length_drop, List.length_take]; rfl)) ?_; (with_reducible refine (spec_Padded.calls k (Int.tmod a0 100) 10 2 t179 _ A4.out).mono ?_); rintro e w7 ⟨rfl, hb⟩; refine ⟨_, rfl, ?_⟩; have n0_ := Aside0.mk (below_step (by repeat (first | (with_reducible first | exact HB.out | apply below_alloc | apply pw_below_drewN | apply below_drew1) | exact HB.out)) hb); clear HB; have HB := n0_; clear n0_; (try clear hb); (try clear hb2); (try clear hk); (try clear hi)))
  go_ret
  exact ⟨by first | rfl | (simp [errW_none, errW_some] <;> rfl) | (simp [*, errW_none, errW_some] <;> rfl), by repeat (first | (with_reducible first | exact HB.out | apply below_alloc | apply pw_below_drewN | apply below_drew1) | exact HB.out)⟩

end Go.Proofs.YtednjmngalmdkaaGreatDoor.GPC
