-- printed by gprint.py (a session's own turn of the kit's print): MA
import Derived.Test.YtdmccakncgdbhaaDoorGMAx0
import Derived.Test.YtdmccakncgdbhaaDoorGMAx8
import Derived.Test.YtdmccakncgdbhaaDoorGivenMA
import Derived.Test.YtdmccakncgdbhaaDoorGivenMT
namespace Go.Proofs.YtdmccakncgdbhaaDoor.GMA
open Go.RowKit Go.Proofs.YtdmccakncgdbhaaDoorW.PrintWords Go.Proofs.YtdmccakncgdbhaaDoorW.PrintLast Go.Proofs.YtdmccakncgdbhaaDoorW.PrintMore
attribute [local go_sem] max2_int min2_int max_two min_two max_three min_three max_four min_four   -- for this text's walks alone
set_option linter.unusedVariables false
set_option linter.unusedSimpArgs false

/-! ### laws_cleanPath: function 12 -/
mutual
def laws_cleanPath.j0 : Nat → ByteArray → Bool → Option (Bool)
  | 0, _, _ => none
  | k + 1, x0, x33 => if x33 = true then (some false) else (laws_cleanPath.l0 k x0 (⟨#[]⟩ : ByteArray) 1)
def laws_cleanPath.l0 : Nat → ByteArray → ByteArray → Int → Option (Bool)
  | 0, _, _, _ => none
  | k + 1, x0, x3, x4 => if x4 ≤ (x0.size : Int) then (if x4 = (x0.size : Int) then (laws_cleanPath.j2 k x0 x3 x4 true) else (if 0 ≤ x4 then (if x4 < (x0.size : Int) then (laws_cleanPath.j2 k x0 x3 x4 ((bt x0 x4) == 47)) else (none)) else (none))) else (some true)
def laws_cleanPath.j2 : Nat → ByteArray → ByteArray → Int → Bool → Option (Bool)
  | 0, _, _, _, _ => none
  | k + 1, x0, x3, x4, x49 => if x49 = true then (if x0.toList = ([47] : List UInt8) then (laws_cleanPath.l0 k x0 (⟨#[]⟩ : ByteArray) (wrap64 (x4 + 1))) else (if x3.toList = ([] : List UInt8) then (some false) else (if x3.toList = ([46] : List UInt8) then (some false) else (if x3.toList = ([46, 46] : List UInt8) then (some false) else (laws_cleanPath.l0 k x0 (⟨#[]⟩ : ByteArray) (wrap64 (x4 + 1))))))) else (if 0 ≤ x4 then (if x4 ≤ (wrap64 (x4 + 1)) then (if (wrap64 (x4 + 1)) ≤ (x0.size : Int) then (if x3.size + (x0.extract (x4 : Int).toNat ((wrap64 (x4 + 1)) : Int).toNat).size ≤ 9223372036854775807 then (laws_cleanPath.l0 k x0 (x3 ++ (x0.extract (x4 : Int).toNat ((wrap64 (x4 + 1)) : Int).toNat)) (wrap64 (x4 + 1))) else (none)) else (none)) else (none)) else (none))
end
def laws_cleanPath.f (k : Nat) (a0 : ByteArray) : Option (Bool) := (laws_printable.f k a0).bind fun t220 => (if t220 = true then (if a0.toList = ([] : List UInt8) then (laws_cleanPath.j0 k a0 true) else (if 0 < (a0.size : Int) then (if (bt a0 0) = 47 then (if a0.toList = ([47] : List UInt8) then (laws_cleanPath.j0 k a0 (decide ((a0.size : Int) > 200))) else (if 0 ≤ (wrap64 ((a0.size : Int) - 1)) then (if (wrap64 ((a0.size : Int) - 1)) < (a0.size : Int) then (if (bt a0 (wrap64 ((a0.size : Int) - 1))) = 47 then (laws_cleanPath.j0 k a0 true) else (laws_cleanPath.j0 k a0 (decide ((a0.size : Int) > 200)))) else (none)) else (none))) else (laws_cleanPath.j0 k a0 true)) else (none))) else (laws_cleanPath.j0 k a0 true))
theorem laws_cleanPath.mono_l : ∀ k, (∀ y0 y1, LeO (laws_cleanPath.j0 k y0 y1) (laws_cleanPath.j0 (k + 1) y0 y1)) ∧ (∀ y0 y1 y2, LeO (laws_cleanPath.l0 k y0 y1 y2) (laws_cleanPath.l0 (k + 1) y0 y1 y2)) ∧ (∀ y0 y1 y2 y3, LeO (laws_cleanPath.j2 k y0 y1 y2 y3) (laws_cleanPath.j2 (k + 1) y0 y1 y2 y3))
  | 0 => ⟨fun _ _ r h => by simp [laws_cleanPath.j0] at h, fun _ _ _ r h => by simp [laws_cleanPath.l0] at h, fun _ _ _ _ r h => by simp [laws_cleanPath.j2] at h⟩
  | k + 1 => by
    obtain ⟨ih0, ih1, ih2⟩ := laws_cleanPath.mono_l k
    refine ⟨?_, ?_, ?_⟩
    · intro y0 y1
      unfold laws_cleanPath.j0
      repeat' first
      | (with_reducible exact ih0 _ _)
      | (with_reducible exact ih1 _ _ _)
      | (with_reducible exact ih2 _ _ _ _)
      | (with_reducible exact laws_printable.mono _ _)
      | (with_reducible exact LeO.refl _)
      | (with_reducible exact LeO.none _)
      | (with_reducible refine LeO.ite ?_ ?_)
      | (with_reducible refine LeO.bind ?_ (fun _ => ?_))
      | exact ih0 _ _
      | exact ih1 _ _ _
      | exact ih2 _ _ _ _
      | exact laws_printable.mono _ _
      | exact LeO.none _
      | refine LeO.ite ?_ ?_
      | refine LeO.bind ?_ (fun _ => ?_)
    · intro y0 y1 y2
      unfold laws_cleanPath.l0
      repeat' first
      | (with_reducible exact ih0 _ _)
      | (with_reducible exact ih1 _ _ _)
      | (with_reducible exact ih2 _ _ _ _)
      | (with_reducible exact laws_printable.mono _ _)
      | (with_reducible exact LeO.refl _)
      | (with_reducible exact LeO.none _)
      | (with_reducible refine LeO.ite ?_ ?_)
      | (with_reducible refine LeO.bind ?_ (fun _ => ?_))
      | exact ih0 _ _
      | exact ih1 _ _ _
      | exact ih2 _ _ _ _
      | exact laws_printable.mono _ _
      | exact LeO.none _
      | refine LeO.ite ?_ ?_
      | refine LeO.bind ?_ (fun _ => ?_)
    · intro y0 y1 y2 y3
      unfold laws_cleanPath.j2
      repeat' first
      | (with_reducible exact ih0 _ _)
      | (with_reducible exact ih1 _ _ _)
      | (with_reducible exact ih2 _ _ _ _)
      | (with_reducible exact laws_printable.mono _ _)
      | (with_reducible exact LeO.refl _)
      | (with_reducible exact LeO.none _)
      | (with_reducible refine LeO.ite ?_ ?_)
      | (with_reducible refine LeO.bind ?_ (fun _ => ?_))
      | exact ih0 _ _
      | exact ih1 _ _ _
      | exact ih2 _ _ _ _
      | exact laws_printable.mono _ _
      | exact LeO.none _
      | refine LeO.ite ?_ ?_
      | refine LeO.bind ?_ (fun _ => ?_)
theorem laws_cleanPath.mono : ∀ a0 k, LeO (laws_cleanPath.f k a0) (laws_cleanPath.f (k + 1) a0) := by
  intro a0 k
  obtain ⟨ih0, ih1, ih2⟩ := laws_cleanPath.mono_l k
  unfold laws_cleanPath.f
  repeat' first
      | (with_reducible exact ih0 _ _)
      | (with_reducible exact ih1 _ _ _)
      | (with_reducible exact ih2 _ _ _ _)
      | (with_reducible exact laws_printable.mono _ _)
      | (with_reducible exact LeO.refl _)
      | (with_reducible exact LeO.none _)
      | (with_reducible refine LeO.ite ?_ ?_)
      | (with_reducible refine LeO.bind ?_ (fun _ => ?_))
      | exact ih0 _ _
      | exact ih1 _ _ _
      | exact ih2 _ _ _ _
      | exact laws_printable.mono _ _
      | exact LeO.none _
      | refine LeO.ite ?_ ?_
      | refine LeO.bind ?_ (fun _ => ?_)
set_option maxHeartbeats 8000000 in
set_option maxRecDepth 100000 in
theorem laws_cleanPath.calls (k : Nat) (a0 : ByteArray) (r : Bool) (w : World) (h : laws_cleanPath.f k a0 = some r) :
    Calls Tryd.prog 12 #[.string a0] w fun e w' => e = .returned (.bool r) ∧ Drawn0 w w' := by
  have H : ((laws_printable.f k a0).bind fun t220 => (if t220 = true then (if a0.toList = ([] : List UInt8) then (laws_cleanPath.j0 k a0 true) else (if 0 < (a0.size : Int) then (if (bt a0 0) = 47 then (if a0.toList = ([47] : List UInt8) then (laws_cleanPath.j0 k a0 (decide ((a0.size : Int) > 200))) else (if 0 ≤ (wrap64 ((a0.size : Int) - 1)) then (if (wrap64 ((a0.size : Int) - 1)) < (a0.size : Int) then (if (bt a0 (wrap64 ((a0.size : Int) - 1))) = 47 then (laws_cleanPath.j0 k a0 true) else (laws_cleanPath.j0 k a0 (decide ((a0.size : Int) > 200)))) else (none)) else (none))) else (laws_cleanPath.j0 k a0 true)) else (none))) else (laws_cleanPath.j0 k a0 true))) = some r := h
  clear h
  have HC2 := Aside0.mk H
  clear H
  go_enter Tryd.func12, Tryd.ntmps12
  go_upto_region 1 with (fail)
  go_cut [33] (fun v33 wc => ∃ (kq : Nat) (x33_1 : Bool), v33 = .bool x33_1 ∧ Aside0 (laws_cleanPath.j0 kq a0 x33_1 = some r) ∧ Aside0 (kq ≤ k) ∧ Drawn0 w wc)
  case first =>
    have H := HC2.out
    clear HC2
    replace H := Option.bind_eq_some_iff.mp H
    obtain ⟨t220, A30, H⟩ := H
    try dsimp -simprocs only at H
    have A3 := Aside0.mk A30
    clear A30
    by_cases c4 : t220 = true
    · subst c4
      have H1 : (if a0.toList = ([] : List UInt8) then (laws_cleanPath.j0 k a0 true) else (if 0 < (a0.size : Int) then (if (bt a0 0) = 47 then (if a0.toList = ([47] : List UInt8) then (laws_cleanPath.j0 k a0 (decide ((a0.size : Int) > 200))) else (if 0 ≤ (wrap64 ((a0.size : Int) - 1)) then (if (wrap64 ((a0.size : Int) - 1)) < (a0.size : Int) then (if (bt a0 (wrap64 ((a0.size : Int) - 1))) = 47 then (laws_cleanPath.j0 k a0 true) else (laws_cleanPath.j0 k a0 (decide ((a0.size : Int) > 200)))) else (none)) else (none))) else (laws_cleanPath.j0 k a0 true)) else (none))) = some r := by rw [if_pos rfl] at H; exact H
      clear H
      have H := H1
      clear H1
      by_cases c5 : a0.toList = ([] : List UInt8)
      · rw [if_pos c5] at H
        have c5b0 : (a0.toList == ([] : List UInt8)) = true := beq_iff_eq.mpr c5
        have c5b1 : (a0.toList != ([] : List UInt8)) = false := bne_eq_false_iff_eq.mpr c5
        clear c5
        (first | rw [c5b0] | (simp only [i64_w, i32_w]; rw [c5b0]) | skip)
        have H' := Aside0.mk H
        clear H
        go_wp2_with (first | ((with_reducible refine gate_callee (f := 24) rfl ?_); refine goesL_ (some 6) rfl rfl Tryd.func24 (by kernel_rfl) rfl #[.string a0] rfl (by (try simp only [List.map_toArray, List.map_cons, List.map_nil]); first | done | rfl | (simp only [List.length_drop, List.length_take]; rfl)) ?_; (with_reducible refine (laws_printable.calls k a0 true _ A3.out).mono ?_); rintro e w' ⟨rfl, ⟨nd, rfl⟩⟩; refine ⟨_, rfl, ?_⟩))
        go_meet
        case rel => exact ⟨_, (true), (by first | rfl | (simp; done) | (simp [*]; done)), H', ⟨by first | omega | exact Nat.le_refl _⟩, by repeat (first | exact Drawn0.refl _ | apply Drawn0.step)⟩
      · rw [if_neg c5] at H
        have c5b0 : (a0.toList == ([] : List UInt8)) = false := beq_eq_false_iff_ne.mpr c5
        have c5b1 : (a0.toList != ([] : List UInt8)) = true := bne_iff_ne.mpr c5
        (first | rw [c5b0] | (simp only [i64_w, i32_w]; rw [c5b0]) | skip)
        replace H := guard_inv H
        obtain ⟨c6, H⟩ := H
        have c6b0 : decide (0 < (a0.size : Int)) = true := decide_eq_true c6
        have c6b1 : decide (0 < a0.size) = true := decide_eq_true (by omega)
        clear c6
        by_cases c8 : (bt a0 0) = 47
        · rw [if_pos c8] at H
          have c8b0 : ((bt a0 0) == 47) = true := beq_iff_eq.mpr c8
          have c8b1 : ((bt a0 0) != 47) = false := bne_eq_false_iff_eq.mpr c8
          clear c8
          by_cases c9 : a0.toList = ([47] : List UInt8)
          · rw [if_pos c9] at H
            have c9b0 : (a0.toList == ([47] : List UInt8)) = true := beq_iff_eq.mpr c9
            have c9b1 : (a0.toList != ([47] : List UInt8)) = false := bne_eq_false_iff_eq.mpr c9
            clear c9
            have H' := Aside0.mk H
            clear H
            go_wp2_with (first | ((with_reducible refine gate_callee (f := 24) rfl ?_); refine goesL_ (some 6) rfl rfl Tryd.func24 (by kernel_rfl) rfl #[.string a0] rfl (by (try simp only [List.map_toArray, List.map_cons, List.map_nil]); first | done | rfl | (simp only [List.length_drop, List.length_take]; rfl)) ?_; (with_reducible refine (laws_printable.calls k a0 true _ A3.out).mono ?_); rintro e w' ⟨rfl, ⟨nd, rfl⟩⟩; refine ⟨_, rfl, ?_⟩; have p7 : 0 ≤ (0 : Int) := (by omega); have q7 : 0 < a0.size := (by have : (0 : Int) < (a0.size : Int) := of_decide_eq_true (by first | (with_reducible assumption) | assumption); omega); have hx7 : ∀ h : 0 < a0.size, ((a0[0]'h).toNat : Int) = bt a0 0 := bt_at a0 0; clear p7; have qi7 : (0 < (a0.size : Int)) = True := eq_true (of_decide_eq_true (by first | (with_reducible assumption) | assumption)); replace q7 := eq_true q7))
            go_meet
            case rel => exact ⟨_, (decide ((a0.size : Int) > 200)), (by first | rfl | (simp; done) | (simp [*]; done)), H', ⟨by first | omega | exact Nat.le_refl _⟩, by repeat (first | exact Drawn0.refl _ | apply Drawn0.step)⟩
          · rw [if_neg c9] at H
            have c9b0 : (a0.toList == ([47] : List UInt8)) = false := beq_eq_false_iff_ne.mpr c9
            have c9b1 : (a0.toList != ([47] : List UInt8)) = true := bne_iff_ne.mpr c9
            obtain ⟨ji10, hji10⟩ : ∃ j_ : Int, (wrap64 ((a0.size : Int) - 1)) = j_ := ⟨_, rfl⟩
            replace H : (if 0 ≤ (ji10) then (if (ji10) < (a0.size : Int) then (if (bt a0 (ji10)) = 47 then (laws_cleanPath.j0 k a0 true) else (laws_cleanPath.j0 k a0 (decide ((a0.size : Int) > 200)))) else (none)) else (none)) = some r := by first | (rw [hji10] at H; exact H) | (simp only [hji10] at H ⊢; exact H)
            (try rw [hji10] at A3)
            have hji10w : (IntKind.i64.wrap ((a0.size : Int) - 1)) = ji10 := (i64_w _).trans hji10
            replace H := guard_inv H
            obtain ⟨c11, H⟩ := H
            have c11b0 : decide (0 ≤ (ji10)) = true := decide_eq_true c11
            clear c11
            replace H := guard_inv H
            obtain ⟨c12, H⟩ := H
            have c12b0 : decide ((ji10) < (a0.size : Int)) = true := decide_eq_true c12
            clear c12
            by_cases c14 : (bt a0 (ji10)) = 47
            · rw [if_pos c14] at H
              have c14b0 : ((bt a0 (ji10)) == 47) = true := beq_iff_eq.mpr c14
              have c14b1 : ((bt a0 (ji10)) != 47) = false := bne_eq_false_iff_eq.mpr c14
              clear c14
              have H' := Aside0.mk H
              clear H
              go_wp2_with (first | ((with_reducible refine gate_callee (f := 24) rfl ?_); refine goesL_ (some 6) rfl rfl Tryd.func24 (by kernel_rfl) rfl #[.string a0] rfl (by (try simp only [List.map_toArray, List.map_cons, List.map_nil]); first | done | rfl | (simp only [List.length_drop, List.length_take]; rfl)) ?_; (with_reducible refine (laws_printable.calls k a0 true _ A3.out).mono ?_); rintro e w' ⟨rfl, ⟨nd, rfl⟩⟩; refine ⟨_, rfl, ?_⟩; have p7 : 0 ≤ (0 : Int) := (by omega); have q7 : 0 < a0.size := (by have : (0 : Int) < (a0.size : Int) := of_decide_eq_true (by first | (with_reducible assumption) | assumption); omega); have hx7 : ∀ h : 0 < a0.size, ((a0[0]'h).toNat : Int) = bt a0 0 := bt_at a0 0; clear p7; have qi7 : (0 < (a0.size : Int)) = True := eq_true (of_decide_eq_true (by first | (with_reducible assumption) | assumption)); replace q7 := eq_true q7; have p13 : 0 ≤ ((ji10) : Int) := of_decide_eq_true (by first | (with_reducible assumption) | assumption); have q13 : (ji10) < (a0.size : Int) := of_decide_eq_true (by first | (with_reducible assumption) | assumption); have hx13 := bt_at a0 (ji10); replace p13 := eq_true p13; replace q13 := eq_true q13))
              go_meet
              case rel => exact ⟨_, (true), (by first | rfl | (simp; done) | (simp [*]; done)), H', ⟨by first | omega | exact Nat.le_refl _⟩, by repeat (first | exact Drawn0.refl _ | apply Drawn0.step)⟩
            · rw [if_neg c14] at H
              have c14b0 : ((bt a0 (ji10)) == 47) = false := beq_eq_false_iff_ne.mpr c14
              have c14b1 : ((bt a0 (ji10)) != 47) = true := bne_iff_ne.mpr c14
              have H' := Aside0.mk H
              clear H
              go_wp2_with (first | ((with_reducible refine gate_callee (f := 24) rfl ?_); refine goesL_ (some 6) rfl rfl Tryd.func24 (by kernel_rfl) rfl #[.string a0] rfl (by (try simp only [List.map_toArray, List.map_cons, List.map_nil]); first | done | rfl | (simp only [List.length_drop, List.length_take]; rfl)) ?_; (with_reducible refine (laws_printable.calls k a0 true _ A3.out).mono ?_); rintro e w' ⟨rfl, ⟨nd, rfl⟩⟩; refine ⟨_, rfl, ?_⟩; have p7 : 0 ≤ (0 : Int) := (by omega); have q7 : 0 < a0.size := (by have : (0 : Int) < (a0.size : Int) := of_decide_eq_true (by first | (with_reducible assumption) | assumption); omega); have hx7 : ∀ h : 0 < a0.size, ((a0[0]'h).toNat : Int) = bt a0 0 := bt_at a0 0; clear p7; have qi7 : (0 < (a0.size : Int)) = True := eq_true (of_decide_eq_true (by first | (with_reducible assumption) | assumption)); replace q7 := eq_true q7; have p13 : 0 ≤ ((ji10) : Int) := of_decide_eq_true (by first | (with_reducible assumption) | assumption); have q13 : (ji10) < (a0.size : Int) := of_decide_eq_true (by first | (with_reducible assumption) | assumption); have hx13 := bt_at a0 (ji10); replace p13 := eq_true p13; replace q13 := eq_true q13))
              go_meet
              case rel => exact ⟨_, (decide ((a0.size : Int) > 200)), (by first | rfl | (simp; done) | (simp [*]; done)), H', ⟨by first | omega | exact Nat.le_refl _⟩, by repeat (first | exact Drawn0.refl _ | apply Drawn0.step)⟩
        · rw [if_neg c8] at H
          have c8b0 : ((bt a0 0) == 47) = false := beq_eq_false_iff_ne.mpr c8
          have c8b1 : ((bt a0 0) != 47) = true := bne_iff_ne.mpr c8
          have H' := Aside0.mk H
          clear H
          go_wp2_with (first | ((with_reducible refine gate_callee (f := 24) rfl ?_); refine goesL_ (some 6) rfl rfl Tryd.func24 (by kernel_rfl) rfl #[.string a0] rfl (by (try simp only [List.map_toArray, List.map_cons, List.map_nil]); first | done | rfl | (simp only [List.length_drop, List.length_take]; rfl)) ?_; (with_reducible refine (laws_printable.calls k a0 true _ A3.out).mono ?_); rintro e w' ⟨rfl, ⟨nd, rfl⟩⟩; refine ⟨_, rfl, ?_⟩; have p7 : 0 ≤ (0 : Int) := (by omega); have q7 : 0 < a0.size := (by have : (0 : Int) < (a0.size : Int) := of_decide_eq_true (by first | (with_reducible assumption) | assumption); omega); have hx7 : ∀ h : 0 < a0.size, ((a0[0]'h).toNat : Int) = bt a0 0 := bt_at a0 0; clear p7; have qi7 : (0 < (a0.size : Int)) = True := eq_true (of_decide_eq_true (by first | (with_reducible assumption) | assumption)); replace q7 := eq_true q7))
          go_meet
          case rel => exact ⟨_, (true), (by first | rfl | (simp; done) | (simp [*]; done)), H', ⟨by first | omega | exact Nat.le_refl _⟩, by repeat (first | exact Drawn0.refl _ | apply Drawn0.step)⟩
    · replace c4 := Bool.eq_false_iff.mpr c4
      subst c4
      have H1 : (laws_cleanPath.j0 k a0 true) = some r := by rw [if_neg (show ¬ (false = true) by decide)] at H; exact H
      clear H
      have H := H1
      clear H1
      have H' := Aside0.mk H
      clear H
      go_wp2_with (first | ((with_reducible refine gate_callee (f := 24) rfl ?_); refine goesL_ (some 6) rfl rfl Tryd.func24 (by kernel_rfl) rfl #[.string a0] rfl (by (try simp only [List.map_toArray, List.map_cons, List.map_nil]); first | done | rfl | (simp only [List.length_drop, List.length_take]; rfl)) ?_; (with_reducible refine (laws_printable.calls k a0 false _ A3.out).mono ?_); rintro e w' ⟨rfl, ⟨nd, rfl⟩⟩; refine ⟨_, rfl, ?_⟩))
      go_meet
      case rel => exact ⟨_, (true), (by first | rfl | (simp; done) | (simp [*]; done)), H', ⟨by first | omega | exact Nat.le_refl _⟩, by repeat (first | exact Drawn0.refl _ | apply Drawn0.step)⟩
  case rest =>
    clear HC2
    try clear c1
    try clear p1
    try clear q1
    try clear hx1
    try clear c2
    try clear p2
    try clear c4
    try clear c5
    try clear c5b0
    try clear c5b1
    try clear c6
    try clear c6b0
    try clear c6b1
    try clear p6
    try clear p7
    try clear q7
    try clear hx7
    try clear qi7
    try clear c8
    try clear c8b0
    try clear c8b1
    try clear c9
    try clear c9b0
    try clear c9b1
    try clear c11
    try clear c11b0
    try clear c12
    try clear c12b0
    try clear p13
    try clear q13
    try clear hx13
    try clear c14
    try clear c14b0
    try clear c14b1
    try clear p13
    try clear p7
    try clear q13
    try clear q7
    obtain ⟨kq, x33_1, rfl, HA, HJ1, ⟨mc1, rfl⟩⟩ := hcut
    cases kq with
    | zero => exact absurd HA.out (by simp [laws_cleanPath.j0])
    | succ kj1 =>
      have H := HA.out
      clear HA
      simp only [laws_cleanPath.j0] at H
      by_cases c15 : x33_1 = true
      · subst c15
        have H1 : (some false) = some r := by rw [if_pos rfl] at H; exact H
        clear H
        have H := H1
        clear H1
        obtain rfl := Option.some.inj H
        go_wp2
        go_ret
        exact ⟨by first | rfl | (simp; done) | (simp [*]; done), by repeat (first | exact Drawn0.refl _ | apply Drawn0.step)⟩
      · replace c15 := Bool.eq_false_iff.mpr c15
        subst c15
        have H1 : (laws_cleanPath.l0 kj1 a0 (⟨#[]⟩ : ByteArray) 1) = some r := by rw [if_neg (show ¬ (false = true) by decide)] at H; exact H
        clear H
        have H := H1
        clear H1
        have H' := Aside0.mk H
        clear H
        go_wp2
        go_loopg [3, 4] kj1 (fun kq v3 v4 w' => ∃ (x3_2 : ByteArray) (x4_2 : Int), v3 = .string x3_2 ∧ v4 = .int .i64 x4_2 ∧ Aside0 (laws_cleanPath.l0 kq a0 x3_2 x4_2 = some r) ∧ Aside0 (kq ≤ kj1) ∧ Drawn0 w w')
        case atStart => exact ⟨((⟨#[]⟩ : ByteArray)), (1), (by first | rfl | (simp; done) | (simp [*]; done)), (by first | rfl | (simp; done) | (simp [*]; done)), H', ⟨Nat.le_refl _⟩, by repeat (first | exact Drawn0.refl _ | apply Drawn0.step)⟩
        case round =>
          clear H'
          try clear c1
          try clear p1
          try clear q1
          try clear hx1
          try clear c2
          try clear p2
          try clear c4
          try clear c5
          try clear c5b0
          try clear c5b1
          try clear c6
          try clear c6b0
          try clear c6b1
          try clear p6
          try clear p7
          try clear q7
          try clear hx7
          try clear qi7
          try clear c8
          try clear c8b0
          try clear c8b1
          try clear c9
          try clear c9b0
          try clear c9b1
          try clear c11
          try clear c11b0
          try clear c12
          try clear c12b0
          try clear p13
          try clear q13
          try clear hx13
          try clear c14
          try clear c14b0
          try clear c14b1
          try clear c15
          try clear p1
          try clear p13
          try clear p2
          try clear p6
          try clear p7
          try clear q1
          try clear q13
          try clear q7
          obtain ⟨x3_2, x4_2, rfl, rfl, HA, HK2, ⟨m2, rfl⟩⟩ := hrel
          cases gk with
          | zero => exact absurd HA.out (by simp [laws_cleanPath.l0])
          | succ k2 =>
            have H := HA.out
            clear HA
            simp only [laws_cleanPath.l0] at H
            by_cases c16 : x4_2 ≤ (a0.size : Int)
            · rw [if_pos c16] at H
              have c16b0 : decide (x4_2 ≤ (a0.size : Int)) = true := decide_eq_true c16
              clear c16
              have HC17 := Aside0.mk H
              clear H
              go_upto_region 7 with (fail)
              go_cut [49] (fun v49 wc => ∃ (kq : Nat) (x49_16 : Bool), v49 = .bool x49_16 ∧ Aside0 (laws_cleanPath.j2 kq a0 x3_2 x4_2 x49_16 = some r) ∧ Aside0 (kq ≤ k2) ∧ Drawn0 w wc)
              case first =>
                have H := HC17.out
                clear HC17
                by_cases c18 : x4_2 = (a0.size : Int)
                · rw [if_pos c18] at H
                  have c18b0 : (x4_2 == (a0.size : Int)) = true := beq_iff_eq.mpr c18
                  have c18b1 : (x4_2 != (a0.size : Int)) = false := bne_eq_false_iff_eq.mpr c18
                  clear c18
                  (first | rw [c18b0] | (simp only [i64_w, i32_w]; rw [c18b0]) | skip)
                  have H' := Aside0.mk H
                  clear H
                  go_wp2
                  go_meet
                  case rel => exact ⟨_, (true), (by first | rfl | (simp; done) | (simp [*]; done)), H', ⟨by have := HJ1.out; have := HK2.out; first | omega | exact Nat.le_refl _⟩, by repeat (first | exact Drawn0.refl _ | apply Drawn0.step)⟩
                · rw [if_neg c18] at H
                  have c18b0 : (x4_2 == (a0.size : Int)) = false := beq_eq_false_iff_ne.mpr c18
                  have c18b1 : (x4_2 != (a0.size : Int)) = true := bne_iff_ne.mpr c18
                  (first | rw [c18b0] | (simp only [i64_w, i32_w]; rw [c18b0]) | skip)
                  replace H := guard_inv H
                  obtain ⟨c19, H⟩ := H
                  have c19b0 : decide (0 ≤ x4_2) = true := decide_eq_true c19
                  clear c19
                  replace H := guard_inv H
                  obtain ⟨c20, H⟩ := H
                  have c20b0 : decide (x4_2 < (a0.size : Int)) = true := decide_eq_true c20
                  clear c20
                  have H' := Aside0.mk H
                  clear H
                  have p21 : 0 ≤ (x4_2 : Int) := of_decide_eq_true (by first | (with_reducible assumption) | assumption)
                  have q21 : x4_2 < (a0.size : Int) := of_decide_eq_true (by first | (with_reducible assumption) | assumption)
                  have hx21 := bt_at a0 x4_2
                  replace p21 := eq_true p21
                  replace q21 := eq_true q21
                  go_wp2
                  go_meet
                  case rel => exact ⟨_, (((bt a0 x4_2) == 47)), (by first | rfl | (simp; done) | (simp [*]; done)), H', ⟨by have := HJ1.out; have := HK2.out; first | omega | exact Nat.le_refl _⟩, by repeat (first | exact Drawn0.refl _ | apply Drawn0.step)⟩
              case rest =>
                clear HC17
                try clear c1
                try clear p1
                try clear q1
                try clear hx1
                try clear c2
                try clear p2
                try clear q2
                try clear hx2
                try clear c4
                try clear c5
                try clear c5b0
                try clear c5b1
                try clear c6
                try clear c6b0
                try clear c6b1
                try clear p6
                try clear p7
                try clear q7
                try clear hx7
                try clear qi7
                try clear c8
                try clear c8b0
                try clear c8b1
                try clear c9
                try clear c9b0
                try clear c9b1
                try clear c11
                try clear c11b0
                try clear c12
                try clear c12b0
                try clear p13
                try clear q13
                try clear hx13
                try clear c14
                try clear c14b0
                try clear c14b1
                try clear c15
                try clear c16
                try clear c16b0
                try clear c18
                try clear c18b0
                try clear c18b1
                try clear c19
                try clear c19b0
                try clear c20
                try clear c20b0
                try clear p21
                try clear q21
                try clear hx21
                try clear p1
                try clear p13
                try clear p2
                try clear p21
                try clear p6
                try clear p7
                try clear q1
                try clear q13
                try clear q21
                try clear q7
                obtain ⟨kq, x49_16, rfl, HA, HJ16, ⟨mc16, rfl⟩⟩ := hcut
                cases kq with
                | zero => exact absurd HA.out (by simp [laws_cleanPath.j2])
                | succ kj16 =>
                  have H := HA.out
                  clear HA
                  simp only [laws_cleanPath.j2] at H
                  by_cases c22 : x49_16 = true
                  · subst c22
                    have H1 : (if a0.toList = ([47] : List UInt8) then (laws_cleanPath.l0 kj16 a0 (⟨#[]⟩ : ByteArray) (wrap64 (x4_2 + 1))) else (if x3_2.toList = ([] : List UInt8) then (some false) else (if x3_2.toList = ([46] : List UInt8) then (some false) else (if x3_2.toList = ([46, 46] : List UInt8) then (some false) else (laws_cleanPath.l0 kj16 a0 (⟨#[]⟩ : ByteArray) (wrap64 (x4_2 + 1))))))) = some r := by rw [if_pos rfl] at H; exact H
                    clear H
                    have H := H1
                    clear H1
                    by_cases c23 : a0.toList = ([47] : List UInt8)
                    · rw [if_pos c23] at H
                      have c23b0 : (a0.toList == ([47] : List UInt8)) = true := beq_iff_eq.mpr c23
                      have c23b1 : (a0.toList != ([47] : List UInt8)) = false := bne_eq_false_iff_eq.mpr c23
                      clear c23
                      have H' := Aside0.mk H
                      clear H
                      go_wp2
                      go_roundg kj16
                      case measure => have := HJ1.out; have := HK2.out; have := HJ16.out; omega
                      case rel => exact ⟨((⟨#[]⟩ : ByteArray)), (wrap64 (x4_2 + 1)), (by first | rfl | (simp; done) | (simp [*]; done)), (by first | rfl | (simp; done) | (simp [*]; done)), H', ⟨by have := HJ1.out; have := HK2.out; have := HJ16.out; omega⟩, by repeat (first | exact Drawn0.refl _ | apply Drawn0.step)⟩
                    · rw [if_neg c23] at H
                      have c23b0 : (a0.toList == ([47] : List UInt8)) = false := beq_eq_false_iff_ne.mpr c23
                      have c23b1 : (a0.toList != ([47] : List UInt8)) = true := bne_iff_ne.mpr c23
                      by_cases c24 : x3_2.toList = ([] : List UInt8)
                      · rw [if_pos c24] at H
                        have c24b0 : (x3_2.toList == ([] : List UInt8)) = true := beq_iff_eq.mpr c24
                        have c24b1 : (x3_2.toList != ([] : List UInt8)) = false := bne_eq_false_iff_eq.mpr c24
                        clear c24
                        obtain rfl := Option.some.inj H
                        go_wp2
                        go_ret
                        exact ⟨by first | rfl | (simp; done) | (simp [*]; done), by repeat (first | exact Drawn0.refl _ | apply Drawn0.step)⟩
                      · rw [if_neg c24] at H
                        have c24b0 : (x3_2.toList == ([] : List UInt8)) = false := beq_eq_false_iff_ne.mpr c24
                        have c24b1 : (x3_2.toList != ([] : List UInt8)) = true := bne_iff_ne.mpr c24
                        by_cases c25 : x3_2.toList = ([46] : List UInt8)
                        · rw [if_pos c25] at H
                          have c25b0 : (x3_2.toList == ([46] : List UInt8)) = true := beq_iff_eq.mpr c25
                          have c25b1 : (x3_2.toList != ([46] : List UInt8)) = false := bne_eq_false_iff_eq.mpr c25
                          clear c25
                          obtain rfl := Option.some.inj H
                          go_wp2
                          go_ret
                          exact ⟨by first | rfl | (simp; done) | (simp [*]; done), by repeat (first | exact Drawn0.refl _ | apply Drawn0.step)⟩
                        · rw [if_neg c25] at H
                          have c25b0 : (x3_2.toList == ([46] : List UInt8)) = false := beq_eq_false_iff_ne.mpr c25
                          have c25b1 : (x3_2.toList != ([46] : List UInt8)) = true := bne_iff_ne.mpr c25
                          by_cases c26 : x3_2.toList = ([46, 46] : List UInt8)
                          · rw [if_pos c26] at H
                            have c26b0 : (x3_2.toList == ([46, 46] : List UInt8)) = true := beq_iff_eq.mpr c26
                            have c26b1 : (x3_2.toList != ([46, 46] : List UInt8)) = false := bne_eq_false_iff_eq.mpr c26
                            clear c26
                            obtain rfl := Option.some.inj H
                            go_wp2
                            go_ret
                            exact ⟨by first | rfl | (simp; done) | (simp [*]; done), by repeat (first | exact Drawn0.refl _ | apply Drawn0.step)⟩
                          · rw [if_neg c26] at H
                            have c26b0 : (x3_2.toList == ([46, 46] : List UInt8)) = false := beq_eq_false_iff_ne.mpr c26
                            have c26b1 : (x3_2.toList != ([46, 46] : List UInt8)) = true := bne_iff_ne.mpr c26
                            have H' := Aside0.mk H
                            clear H
                            go_wp2
                            go_roundg kj16
                            case measure => have := HJ1.out; have := HK2.out; have := HJ16.out; omega
                            case rel => exact ⟨((⟨#[]⟩ : ByteArray)), (wrap64 (x4_2 + 1)), (by first | rfl | (simp; done) | (simp [*]; done)), (by first | rfl | (simp; done) | (simp [*]; done)), H', ⟨by have := HJ1.out; have := HK2.out; have := HJ16.out; omega⟩, by repeat (first | exact Drawn0.refl _ | apply Drawn0.step)⟩
                  · replace c22 := Bool.eq_false_iff.mpr c22
                    subst c22
                    have H1 : (if 0 ≤ x4_2 then (if x4_2 ≤ (wrap64 (x4_2 + 1)) then (if (wrap64 (x4_2 + 1)) ≤ (a0.size : Int) then (if x3_2.size + (a0.extract (x4_2 : Int).toNat ((wrap64 (x4_2 + 1)) : Int).toNat).size ≤ 9223372036854775807 then (laws_cleanPath.l0 kj16 a0 (x3_2 ++ (a0.extract (x4_2 : Int).toNat ((wrap64 (x4_2 + 1)) : Int).toNat)) (wrap64 (x4_2 + 1))) else (none)) else (none)) else (none)) else (none)) = some r := by rw [if_neg (show ¬ (false = true) by decide)] at H; exact H
                    clear H
                    have H := H1
                    clear H1
                    replace H := guard_inv H
                    obtain ⟨c27, H⟩ := H
                    have c27b0 := eq_true c27
                    have c27b1 := decide_eq_true c27
                    clear c27
                    replace H := guard_inv H
                    obtain ⟨c28, H⟩ := H
                    have c28b0 := eq_true c28
                    have c28b1 := decide_eq_true c28
                    replace H := guard_inv H
                    obtain ⟨c29, H⟩ := H
                    have c29b0 := eq_true c29
                    have c29b1 := decide_eq_true c29
                    replace H := guard_inv H
                    obtain ⟨c30, H⟩ := H
                    have c30b0 := eq_true c30
                    have c30b1 := decide_eq_true c30
                    try have c30b2 := eq_false (Nat.not_lt.2 c30)
                    have H' := Aside0.mk H
                    clear H
                    go_wp2
                    go_roundg kj16
                    case measure => have := HJ1.out; have := HK2.out; have := HJ16.out; omega
                    case rel => exact ⟨(x3_2 ++ (a0.extract (x4_2 : Int).toNat ((wrap64 (x4_2 + 1)) : Int).toNat)), (wrap64 (x4_2 + 1)), (by first | rfl | (simp; done) | (simp [*]; done)), (by first | rfl | (simp; done) | (simp [*]; done)), H', ⟨by have := HJ1.out; have := HK2.out; have := HJ16.out; omega⟩, by repeat (first | exact Drawn0.refl _ | apply Drawn0.step)⟩
            · rw [if_neg c16] at H
              have c16b0 : decide (x4_2 ≤ (a0.size : Int)) = false := decide_eq_false c16
              clear c16
              obtain rfl := Option.some.inj H
              go_wp2
              go_ret
              exact ⟨by first | rfl | (simp; done) | (simp [*]; done), by repeat (first | exact Drawn0.refl _ | apply Drawn0.step)⟩

/-! ### laws_begins: function 25 -/
def laws_begins.f (a0 : ByteArray) (a1 : ByteArray) : Option (Bool) := if (a0.size : Int) ≥ (a1.size : Int) then (if 0 ≤ (a1.size : Int) then (if (a1.size : Int) ≤ (a0.size : Int) then (some ((a0.extract 0 ((a1.size : Int) : Int).toNat).toList == a1.toList)) else (none)) else (none)) else (some false)
set_option maxHeartbeats 8000000 in
set_option maxRecDepth 100000 in
theorem laws_begins.calls (a0 : ByteArray) (a1 : ByteArray) (r : Bool) (w : World) (h : laws_begins.f a0 a1 = some r) :
    Calls Tryd.prog 25 #[.string a0, .string a1] w fun e w' => e = .returned (.bool r) ∧ Drawn0 w w' := by
  have H : (if (a0.size : Int) ≥ (a1.size : Int) then (if 0 ≤ (a1.size : Int) then (if (a1.size : Int) ≤ (a0.size : Int) then (some ((a0.extract 0 ((a1.size : Int) : Int).toNat).toList == a1.toList)) else (none)) else (none)) else (some false)) = some r := h
  clear h
  by_cases c3 : (a0.size : Int) ≥ (a1.size : Int)
  · rw [if_pos c3] at H
    have c3b0 : decide ((a1.size : Int) ≤ (a0.size : Int)) = true := decide_eq_true c3
    have c3b1 : decide (a1.size ≤ a0.size) = true := decide_eq_true (Int.ofNat_le.mp c3)
    clear c3
    replace H := guard_inv H
    obtain ⟨c4, H⟩ := H
    have c4b0 := eq_true c4
    have c4b1 := decide_eq_true c4
    clear c4
    replace H := guard_inv H
    obtain ⟨c5, H⟩ := H
    have c5b0 := eq_true c5
    have c5b1 := decide_eq_true c5
    clear c5
    obtain rfl := Option.some.inj H
    go_enter Tryd.func25, Tryd.ntmps25
    go_wp2
    go_ret
    exact ⟨by first | rfl | (simp; done) | (simp [*]; done), by repeat (first | exact Drawn0.refl _ | apply Drawn0.step)⟩
  · rw [if_neg c3] at H
    have c3b0 : decide ((a1.size : Int) ≤ (a0.size : Int)) = false := decide_eq_false c3
    have c3b1 : decide (a1.size ≤ a0.size) = false := decide_eq_false (fun h => c3 (Int.ofNat_le.mpr h))
    clear c3
    obtain rfl := Option.some.inj H
    go_enter Tryd.func25, Tryd.ntmps25
    go_wp2
    go_ret
    exact ⟨by first | rfl | (simp; done) | (simp [*]; done), by repeat (first | exact Drawn0.refl _ | apply Drawn0.step)⟩

/-! ### laws_under: function 13 -/
def laws_under.f (a0 : ByteArray) (a1 : ByteArray) : Option (Bool) := if a0.toList = a1.toList then (some true) else (if a1.toList = ([47] : List UInt8) then (some true) else (if a1.size + 1 ≤ 9223372036854775807 then ((laws_begins.f a0 (a1 ++ (⟨#[47]⟩ : ByteArray))).bind fun t221 => (some t221)) else (none)))
set_option maxHeartbeats 8000000 in
set_option maxRecDepth 100000 in
theorem laws_under.calls (a0 : ByteArray) (a1 : ByteArray) (r : Bool) (w : World) (h : laws_under.f a0 a1 = some r) :
    Calls Tryd.prog 13 #[.string a0, .string a1] w fun e w' => e = .returned (.bool r) ∧ Drawn0 w w' := by
  have H : (if a0.toList = a1.toList then (some true) else (if a1.toList = ([47] : List UInt8) then (some true) else (if a1.size + 1 ≤ 9223372036854775807 then ((laws_begins.f a0 (a1 ++ (⟨#[47]⟩ : ByteArray))).bind fun t221 => (some t221)) else (none)))) = some r := h
  clear h
  by_cases c3 : a0.toList = a1.toList
  · rw [if_pos c3] at H
    have c3b0 : (a0.toList == a1.toList) = true := beq_iff_eq.mpr c3
    have c3b1 : (a0.toList != a1.toList) = false := bne_eq_false_iff_eq.mpr c3
    clear c3
    obtain rfl := Option.some.inj H
    go_enter Tryd.func13, Tryd.ntmps13
    go_wp2
    go_ret
    exact ⟨by first | rfl | (simp; done) | (simp [*]; done), by repeat (first | exact Drawn0.refl _ | apply Drawn0.step)⟩
  · rw [if_neg c3] at H
    have c3b0 : (a0.toList == a1.toList) = false := beq_eq_false_iff_ne.mpr c3
    have c3b1 : (a0.toList != a1.toList) = true := bne_iff_ne.mpr c3
    by_cases c4 : a1.toList = ([47] : List UInt8)
    · rw [if_pos c4] at H
      have c4b0 : (a1.toList == ([47] : List UInt8)) = true := beq_iff_eq.mpr c4
      have c4b1 : (a1.toList != ([47] : List UInt8)) = false := bne_eq_false_iff_eq.mpr c4
      clear c4
      obtain rfl := Option.some.inj H
      go_enter Tryd.func13, Tryd.ntmps13
      go_wp2
      go_ret
      exact ⟨by first | rfl | (simp; done) | (simp [*]; done), by repeat (first | exact Drawn0.refl _ | apply Drawn0.step)⟩
    · rw [if_neg c4] at H
      have c4b0 : (a1.toList == ([47] : List UInt8)) = false := beq_eq_false_iff_ne.mpr c4
      have c4b1 : (a1.toList != ([47] : List UInt8)) = true := bne_iff_ne.mpr c4
      replace H := guard_inv H
      obtain ⟨c5, H⟩ := H
      have c5b0 := eq_true c5
      have c5b1 := decide_eq_true c5
      try have c5b2 := eq_false (Nat.not_lt.2 c5)
      replace H := Option.bind_eq_some_iff.mp H
      obtain ⟨t221, A60, H⟩ := H
      replace H : (some t221) = some r := H
      have A6 := Aside0.mk A60
      clear A60
      obtain rfl := Option.some.inj H
      go_enter Tryd.func13, Tryd.ntmps13
      go_wp2_with (first | (go_at_call 25; (with_reducible refine (laws_begins.calls a0 (a1 ++ (⟨#[47]⟩ : ByteArray)) t221 _ A6.out).mono ?_); rintro e w' ⟨rfl, ⟨nd, rfl⟩⟩))
      go_ret
      exact ⟨by first | rfl | (simp; done) | (simp [*]; done), by repeat (first | exact Drawn0.refl _ | apply Drawn0.step)⟩

end Go.Proofs.YtdmccakncgdbhaaDoor.GMA
