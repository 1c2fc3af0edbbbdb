-- printed by gprint.py (a session's own turn of the kit's print): MA
import Derived.Test.YtdmccakncgdbhaaDoorGMAx0
import Derived.Test.YtdmccakncgdbhaaDoorGMAx4
import Derived.Test.YtdmccakncgdbhaaDoorGMAx8
import Derived.Test.YtdmccakncgdbhaaDoorGMAx9
import Derived.Test.YtdmccakncgdbhaaDoorGivenMA
import Derived.Test.YtdmccakncgdbhaaDoorGivenMT
import Derived.Test.YtdmccakncgdbhaaDoorGivenMB
namespace Go.Proofs.YtdmccakncgdbhaaDoor.GMA
open Go.RowKit Go.Proofs.YtdmccakncgdbhaaDoorW.PrintWords Go.Proofs.YtdmccakncgdbhaaDoorW.PrintLast Go.Proofs.YtdmccakncgdbhaaDoorW.PrintMore
attribute [local go_sem] max2_int min2_int max_two min_two max_three min_three max_four min_four   -- for this text's walks alone
set_option linter.unusedVariables false
set_option linter.unusedSimpArgs false

/-! ### laws_FnMountsPrefix: function 4 -/
mutual
def laws_FnMountsPrefix.j0 : Nat → List (S36) → ByteArray → Bool → Option (Bool)
  | 0, _, _, _ => none
  | k + 1, x0, x1, x19 => if x19 = true then (some true) else ((laws_printed.f k x0).bind fun bt223 => (if bt223.2 = true then ((laws_cleanPath.f k x1).bind fun t225 => (laws_FnMountsPrefix.j1 k x0 x1 bt223.1 (!t225))) else (laws_FnMountsPrefix.j1 k x0 x1 bt223.1 true)))
def laws_FnMountsPrefix.j1 : Nat → List (S36) → ByteArray → ByteArray → Bool → Option (Bool)
  | 0, _, _, _, _ => none
  | k + 1, x0, x1, x5, x31 => if x31 = true then (some true) else (laws_FnMountsPrefix.l0 k x1 x5 ([] : List (S36)) x0 (x0.length : Int) 0)
def laws_FnMountsPrefix.l0 : Nat → ByteArray → ByteArray → List (S36) → List (S36) → Int → Int → Option (Bool)
  | 0, _, _, _, _, _, _ => none
  | k + 1, x1, x5, x7, x32, x33, x34 => if x34 < x33 then (if 0 ≤ x34 then (if x34 < (x32.length : Int) then ((laws_cleanPath.f k ((rd_T36 x32 x34).f5)).bind fun t237 => (if t237 = true then ((laws_under.f ((rd_T36 x32 x34).f5) x1).bind fun t238 => (if t238 = true then (if x7.length < 977343669134 then (laws_FnMountsPrefix.l0 k x1 x5 (x7 ++ [(⟨(rd_T36 x32 x34).f0, (rd_T36 x32 x34).f1, (rd_T36 x32 x34).f2, (rd_T36 x32 x34).f3, (rd_T36 x32 x34).f4, (rd_T36 x32 x34).f5, (rd_T36 x32 x34).f6, (rd_T36 x32 x34).f7, (rd_T36 x32 x34).f8, (rd_T36 x32 x34).f9, (rd_T36 x32 x34).f10⟩ : S36)]) x32 x33 (wrap64 (x34 + 1))) else (none)) else (laws_FnMountsPrefix.l0 k x1 x5 x7 x32 x33 (wrap64 (x34 + 1))))) else (some true))) else (none)) else (none)) else ((impl_Mounts.f k x5 3 (([x1] : List ByteArray))).bind fun bt229 => (if bt229.2 = 0 then ((laws_sameMounts.f k bt229.1 x7).bind fun t233 => (if t233 = true then ((laws_mounts.f k).bind fun t234 => (some t234)) else (some false))) else (some false)))
end
def laws_FnMountsPrefix.f (k : Nat) (l0 : List (S36)) (a1 : ByteArray) : Option (Bool) := (laws_zzFits1.f k l0).bind fun t222 => (if t222 = true then (laws_FnMountsPrefix.j0 k l0 a1 (decide ((a1.size : Int) > 2147483647))) else (laws_FnMountsPrefix.j0 k l0 a1 true))
theorem laws_FnMountsPrefix.mono_l : ∀ k, (∀ y0 y1 y2, LeO (laws_FnMountsPrefix.j0 k y0 y1 y2) (laws_FnMountsPrefix.j0 (k + 1) y0 y1 y2)) ∧ (∀ y0 y1 y2 y3, LeO (laws_FnMountsPrefix.j1 k y0 y1 y2 y3) (laws_FnMountsPrefix.j1 (k + 1) y0 y1 y2 y3)) ∧ (∀ y0 y1 y2 y3 y4 y5, LeO (laws_FnMountsPrefix.l0 k y0 y1 y2 y3 y4 y5) (laws_FnMountsPrefix.l0 (k + 1) y0 y1 y2 y3 y4 y5))
  | 0 => ⟨fun _ _ _ r h => by simp [laws_FnMountsPrefix.j0] at h, fun _ _ _ _ r h => by simp [laws_FnMountsPrefix.j1] at h, fun _ _ _ _ _ _ r h => by simp [laws_FnMountsPrefix.l0] at h⟩
  | k + 1 => by
    obtain ⟨ih0, ih1, ih2⟩ := laws_FnMountsPrefix.mono_l k
    refine ⟨?_, ?_, ?_⟩
    · intro y0 y1 y2
      unfold laws_FnMountsPrefix.j0
      repeat' first
      | (with_reducible exact ih0 _ _ _)
      | (with_reducible exact ih1 _ _ _ _)
      | (with_reducible exact ih2 _ _ _ _ _ _)
      | (with_reducible exact impl_Mounts.mono _ _ _ _)
      | (with_reducible exact laws_cleanPath.mono _ _)
      | (with_reducible exact laws_mounts.mono _)
      | (with_reducible exact laws_printed.mono _ _)
      | (with_reducible exact laws_sameMounts.mono _ _ _)
      | (with_reducible exact laws_zzFits1.mono _ _)
      | (with_reducible exact LeO.refl _)
      | (with_reducible exact LeO.none _)
      | (with_reducible refine LeO.ite ?_ ?_)
      | (with_reducible refine LeO.bind ?_ (fun _ => ?_))
      | exact ih0 _ _ _
      | exact ih1 _ _ _ _
      | exact ih2 _ _ _ _ _ _
      | exact impl_Mounts.mono _ _ _ _
      | exact laws_cleanPath.mono _ _
      | exact laws_mounts.mono _
      | exact laws_printed.mono _ _
      | exact laws_sameMounts.mono _ _ _
      | exact laws_zzFits1.mono _ _
      | exact LeO.none _
      | refine LeO.ite ?_ ?_
      | refine LeO.bind ?_ (fun _ => ?_)
    · intro y0 y1 y2 y3
      unfold laws_FnMountsPrefix.j1
      repeat' first
      | (with_reducible exact ih0 _ _ _)
      | (with_reducible exact ih1 _ _ _ _)
      | (with_reducible exact ih2 _ _ _ _ _ _)
      | (with_reducible exact impl_Mounts.mono _ _ _ _)
      | (with_reducible exact laws_cleanPath.mono _ _)
      | (with_reducible exact laws_mounts.mono _)
      | (with_reducible exact laws_printed.mono _ _)
      | (with_reducible exact laws_sameMounts.mono _ _ _)
      | (with_reducible exact laws_zzFits1.mono _ _)
      | (with_reducible exact LeO.refl _)
      | (with_reducible exact LeO.none _)
      | (with_reducible refine LeO.ite ?_ ?_)
      | (with_reducible refine LeO.bind ?_ (fun _ => ?_))
      | exact ih0 _ _ _
      | exact ih1 _ _ _ _
      | exact ih2 _ _ _ _ _ _
      | exact impl_Mounts.mono _ _ _ _
      | exact laws_cleanPath.mono _ _
      | exact laws_mounts.mono _
      | exact laws_printed.mono _ _
      | exact laws_sameMounts.mono _ _ _
      | exact laws_zzFits1.mono _ _
      | exact LeO.none _
      | refine LeO.ite ?_ ?_
      | refine LeO.bind ?_ (fun _ => ?_)
    · intro y0 y1 y2 y3 y4 y5
      unfold laws_FnMountsPrefix.l0
      repeat' first
      | (with_reducible exact ih0 _ _ _)
      | (with_reducible exact ih1 _ _ _ _)
      | (with_reducible exact ih2 _ _ _ _ _ _)
      | (with_reducible exact impl_Mounts.mono _ _ _ _)
      | (with_reducible exact laws_cleanPath.mono _ _)
      | (with_reducible exact laws_mounts.mono _)
      | (with_reducible exact laws_printed.mono _ _)
      | (with_reducible exact laws_sameMounts.mono _ _ _)
      | (with_reducible exact laws_zzFits1.mono _ _)
      | (with_reducible exact LeO.refl _)
      | (with_reducible exact LeO.none _)
      | (with_reducible refine LeO.ite ?_ ?_)
      | (with_reducible refine LeO.bind ?_ (fun _ => ?_))
      | exact ih0 _ _ _
      | exact ih1 _ _ _ _
      | exact ih2 _ _ _ _ _ _
      | exact impl_Mounts.mono _ _ _ _
      | exact laws_cleanPath.mono _ _
      | exact laws_mounts.mono _
      | exact laws_printed.mono _ _
      | exact laws_sameMounts.mono _ _ _
      | exact laws_zzFits1.mono _ _
      | exact LeO.none _
      | refine LeO.ite ?_ ?_
      | refine LeO.bind ?_ (fun _ => ?_)
theorem laws_FnMountsPrefix.mono : ∀ a0 a1 k, LeO (laws_FnMountsPrefix.f k a0 a1) (laws_FnMountsPrefix.f (k + 1) a0 a1) := by
  intro a0 a1 k
  obtain ⟨ih0, ih1, ih2⟩ := laws_FnMountsPrefix.mono_l k
  unfold laws_FnMountsPrefix.f
  repeat' first
      | (with_reducible exact ih0 _ _ _)
      | (with_reducible exact ih1 _ _ _ _)
      | (with_reducible exact ih2 _ _ _ _ _ _)
      | (with_reducible exact impl_Mounts.mono _ _ _ _)
      | (with_reducible exact laws_cleanPath.mono _ _)
      | (with_reducible exact laws_mounts.mono _)
      | (with_reducible exact laws_printed.mono _ _)
      | (with_reducible exact laws_sameMounts.mono _ _ _)
      | (with_reducible exact laws_zzFits1.mono _ _)
      | (with_reducible exact LeO.refl _)
      | (with_reducible exact LeO.none _)
      | (with_reducible refine LeO.ite ?_ ?_)
      | (with_reducible refine LeO.bind ?_ (fun _ => ?_))
      | exact ih0 _ _ _
      | exact ih1 _ _ _ _
      | exact ih2 _ _ _ _ _ _
      | exact impl_Mounts.mono _ _ _ _
      | exact laws_cleanPath.mono _ _
      | exact laws_mounts.mono _
      | exact laws_printed.mono _ _
      | exact laws_sameMounts.mono _ _ _
      | exact laws_zzFits1.mono _ _
      | exact LeO.none _
      | refine LeO.ite ?_ ?_
      | refine LeO.bind ?_ (fun _ => ?_)
set_option maxHeartbeats 8000000 in
set_option maxRecDepth 100000 in
theorem laws_FnMountsPrefix.calls (k : Nat) (A0 : Option Addr) (c0 : Nat) (l0 : List (S36)) (a1 : ByteArray) (r : Bool) (w : World) (hr0 : Kd.C k36 w A0 l0.length l0) (hc0 : l0.length ≤ c0) (h : laws_FnMountsPrefix.f k l0 a1 = some r) :
    Calls Tryd.prog 4 #[.slice A0 l0.length c0, .string a1] w fun e w' => e = .returned (.bool r) ∧ Below w.heap.size w w' := by
  have hu36 := Tryd.underlying36
  have hu30 := Tryd.underlying30
  have HR0 := Aside0.mk hr0
  have HC0 := Aside0.mk hc0
  clear hr0 hc0
  have HB := Aside0.mk (Below.refl w.heap.size w)
  have H : ((laws_zzFits1.f k l0).bind fun t222 => (if t222 = true then (laws_FnMountsPrefix.j0 k l0 a1 (decide ((a1.size : Int) > 2147483647))) else (laws_FnMountsPrefix.j0 k l0 a1 true))) = some r := h
  clear h
  have HC3 := Aside0.mk H
  clear H
  go_enter Tryd.func4, Tryd.ntmps4
  go_upto_region 1 with (fail)
  go_cut [19] (fun v19 wc => ∃ (kq : Nat) (x19_2 : Bool), v19 = .bool x19_2 ∧ Aside0 (laws_FnMountsPrefix.j0 kq l0 a1 x19_2 = some r) ∧ Aside0 (kq ≤ k) ∧ Aside0 (Below w.heap.size w wc))
  case first =>
    have H := HC3.out
    clear HC3
    replace H := Option.bind_eq_some_iff.mp H
    obtain ⟨t222, A40, H⟩ := H
    replace H : (if t222 = true then (laws_FnMountsPrefix.j0 k l0 a1 (decide ((a1.size : Int) > 2147483647))) else (laws_FnMountsPrefix.j0 k l0 a1 true)) = some r := H
    have A4 := Aside0.mk A40
    clear A40
    by_cases c5 : t222 = true
    · subst c5
      have H1 : (laws_FnMountsPrefix.j0 k l0 a1 (decide ((a1.size : Int) > 2147483647))) = some r := by rw [if_pos rfl] at H; exact H
      clear H
      have H := H1
      clear H1
      have H' := Aside0.mk H
      clear H
      go_wp2_with (first | ((with_reducible refine gate_callee (f := 6) rfl ?_); refine goesL_ (some 13) rfl rfl Tryd.func6 (by kernel_rfl) rfl #[.slice A0 l0.length c0] rfl (by (try simp only [List.map_toArray, List.map_cons, List.map_nil]); first | done | rfl | (simp only [List.length_drop, List.length_take]; rfl)) ?_; (with_reducible refine (laws_zzFits1.calls k _ _ l0 true _ ?side1 ?side2 A4.out).mono ?_); (case side1 => repeat (first | exact (Kd.C_below HR0.out HB.out) | (with_reducible refine Kd.C_alloc ?_ _) | (with_reducible refine Kd.C_drewN ?_ _) | (with_reducible refine Kd.C_drew ?_))); (case side2 => exact HC0.out); rintro e w6 ⟨rfl, hb⟩; refine ⟨_, rfl, ?_⟩; have n0_ := Aside0.mk (below_step (by repeat (first | (with_reducible first | exact HB.out | apply below_alloc | apply pw_below_drewN | apply below_drew1) | exact HB.out)) hb); clear HB; have HB := n0_; clear n0_; (try clear hb); (try clear hb2); (try clear hk); (try clear hi)))
      go_meet
      case rel => exact ⟨_, (decide ((a1.size : Int) > 2147483647)), (by first | rfl | (simp; done) | (simp [*]; done)), H', ⟨by first | omega | exact Nat.le_refl _⟩, ⟨by repeat (first | (with_reducible first | exact HB.out | apply below_alloc | apply pw_below_drewN | apply below_drew1) | exact HB.out)⟩⟩
    · replace c5 := Bool.eq_false_iff.mpr c5
      subst c5
      have H1 : (laws_FnMountsPrefix.j0 k l0 a1 true) = some r := by rw [if_neg (show ¬ (false = true) by decide)] at H; exact H
      clear H
      have H := H1
      clear H1
      have H' := Aside0.mk H
      clear H
      go_wp2_with (first | ((with_reducible refine gate_callee (f := 6) rfl ?_); refine goesL_ (some 13) rfl rfl Tryd.func6 (by kernel_rfl) rfl #[.slice A0 l0.length c0] rfl (by (try simp only [List.map_toArray, List.map_cons, List.map_nil]); first | done | rfl | (simp only [List.length_drop, List.length_take]; rfl)) ?_; (with_reducible refine (laws_zzFits1.calls k _ _ l0 false _ ?side1 ?side2 A4.out).mono ?_); (case side1 => repeat (first | exact (Kd.C_below HR0.out HB.out) | (with_reducible refine Kd.C_alloc ?_ _) | (with_reducible refine Kd.C_drewN ?_ _) | (with_reducible refine Kd.C_drew ?_))); (case side2 => exact HC0.out); rintro e w7 ⟨rfl, hb⟩; refine ⟨_, rfl, ?_⟩; have n0_ := Aside0.mk (below_step (by repeat (first | (with_reducible first | exact HB.out | apply below_alloc | apply pw_below_drewN | apply below_drew1) | exact HB.out)) hb); clear HB; have HB := n0_; clear n0_; (try clear hb); (try clear hb2); (try clear hk); (try clear hi)))
      go_meet
      case rel => exact ⟨_, (true), (by first | rfl | (simp; done) | (simp [*]; done)), H', ⟨by first | omega | exact Nat.le_refl _⟩, ⟨by repeat (first | (with_reducible first | exact HB.out | apply below_alloc | apply pw_below_drewN | apply below_drew1) | exact HB.out)⟩⟩
  case rest =>
    clear HC3
    try clear p2
    try clear c4
    try clear c5
    try clear c6
    obtain ⟨kq, x19_2, rfl, HA, HJ2, HB⟩ := hcut
    cases kq with
    | zero => exact absurd HA.out (by simp [laws_FnMountsPrefix.j0])
    | succ kj2 =>
      have H := HA.out
      clear HA
      simp only [laws_FnMountsPrefix.j0] at H
      by_cases c8 : x19_2 = true
      · subst c8
        have H1 : (some true) = some r := by rw [if_pos rfl] at H; exact H
        clear H
        have H := H1
        clear H1
        obtain rfl := Option.some.inj H
        go_wp2
        go_ret
        exact ⟨by first | rfl | (simp [errW_none, errW_some] <;> rfl) | (simp [*, errW_none, errW_some] <;> rfl), by repeat (first | (with_reducible first | exact HB.out | apply below_alloc | apply pw_below_drewN | apply below_drew1) | exact HB.out)⟩
      · replace c8 := Bool.eq_false_iff.mpr c8
        subst c8
        have H1 : ((laws_printed.f kj2 l0).bind fun bt223 => (if bt223.2 = true then ((laws_cleanPath.f kj2 a1).bind fun t225 => (laws_FnMountsPrefix.j1 kj2 l0 a1 bt223.1 (!t225))) else (laws_FnMountsPrefix.j1 kj2 l0 a1 bt223.1 true))) = some r := by rw [if_neg (show ¬ (false = true) by decide)] at H; exact H
        clear H
        have H := H1
        clear H1
        replace H := Option.bind_eq_some_iff.mp H
        obtain ⟨⟨t223, t224⟩, A90, H⟩ := H
        replace H : (if t224 = true then ((laws_cleanPath.f kj2 a1).bind fun t225 => (laws_FnMountsPrefix.j1 kj2 l0 a1 t223 (!t225))) else (laws_FnMountsPrefix.j1 kj2 l0 a1 t223 true)) = some r := H
        have A9 := Aside0.mk A90
        clear A90
        have HC10 := Aside0.mk H
        clear H
        go_upto_region 4 with (first | ((with_reducible refine gate_callee (f := 7) rfl ?_); refine goesL_ (some 22) rfl rfl Tryd.func7 (by kernel_rfl) rfl #[.slice A0 l0.length c0] rfl (by (try simp only [List.map_toArray, List.map_cons, List.map_nil]); first | done | rfl | (simp only [List.length_drop, List.length_take]; rfl)) ?_; (with_reducible refine (laws_printed.calls kj2 _ _ l0 t223 t224 _ ?side1 ?side2 A9.out).mono ?_); (case side1 => repeat (first | exact (Kd.C_below HR0.out HB.out) | (with_reducible refine Kd.C_alloc ?_ _) | (with_reducible refine Kd.C_drewN ?_ _) | (with_reducible refine Kd.C_drew ?_))); (case side2 => exact HC0.out); rintro e w11 ⟨rfl, hb⟩; refine ⟨_, rfl, ?_⟩; have n0_ := Aside0.mk (below_step (by repeat (first | (with_reducible first | exact HB.out | apply below_alloc | apply pw_below_drewN | apply below_drew1) | exact HB.out)) hb); clear HB; have HB := n0_; clear n0_; (try clear hb); (try clear hb2); (try clear hk); (try clear hi)))
        (try simp only [Act.put, List.setIfInBounds_toArray, List.set_cons_zero, List.set_cons_succ])
        go_cut [31] (fun v31 wc => ∃ (kq : Nat) (x31_9 : Bool), v31 = .bool x31_9 ∧ Aside0 (laws_FnMountsPrefix.j1 kq l0 a1 t223 x31_9 = some r) ∧ Aside0 (kq ≤ kj2) ∧ Aside0 (Below w.heap.size w wc))
        case first =>
          have H := HC10.out
          clear HC10
          by_cases c12 : t224 = true
          · subst c12
            have H1 : ((laws_cleanPath.f kj2 a1).bind fun t225 => (laws_FnMountsPrefix.j1 kj2 l0 a1 t223 (!t225))) = some r := by rw [if_pos rfl] at H; exact H
            clear H
            have H := H1
            clear H1
            replace H := Option.bind_eq_some_iff.mp H
            obtain ⟨t225, A130, H⟩ := H
            replace H : (laws_FnMountsPrefix.j1 kj2 l0 a1 t223 (!t225)) = some r := H
            have A13 := Aside0.mk A130
            clear A130
            have H' := Aside0.mk H
            clear H
            go_wp2_with (first | (go_at_call 12; (with_reducible refine (laws_cleanPath.calls kj2 a1 t225 _ A13.out).mono ?_); rintro e w' ⟨rfl, ⟨nd, rfl⟩⟩))
            go_meet
            case rel => exact ⟨_, (!t225), (by first | rfl | (simp; done) | (simp [*]; done)), H', ⟨by have := HJ2.out; first | omega | exact Nat.le_refl _⟩, ⟨by repeat (first | (with_reducible first | exact HB.out | apply below_alloc | apply pw_below_drewN | apply below_drew1) | exact HB.out)⟩⟩
          · replace c12 := Bool.eq_false_iff.mpr c12
            subst c12
            have H1 : (laws_FnMountsPrefix.j1 kj2 l0 a1 t223 true) = some r := by rw [if_neg (show ¬ (false = true) by decide)] at H; exact H
            clear H
            have H := H1
            clear H1
            have H' := Aside0.mk H
            clear H
            go_wp2
            go_meet
            case rel => exact ⟨_, (true), (by first | rfl | (simp; done) | (simp [*]; done)), H', ⟨by have := HJ2.out; first | omega | exact Nat.le_refl _⟩, ⟨by repeat (first | (with_reducible first | exact HB.out | apply below_alloc | apply pw_below_drewN | apply below_drew1) | exact HB.out)⟩⟩
        case rest =>
          clear HC10
          try clear c1
          try clear p2
          try clear c4
          try clear c5
          try clear c6
          try clear c7
          try clear c8
          try clear c12
          try clear p2
          obtain ⟨kq, x31_9, rfl, HA, HJ9, HB⟩ := hcut
          cases kq with
          | zero => exact absurd HA.out (by simp [laws_FnMountsPrefix.j1])
          | succ kj9 =>
            have H := HA.out
            clear HA
            simp only [laws_FnMountsPrefix.j1] at H
            by_cases c14 : x31_9 = true
            · subst c14
              have H1 : (some true) = some r := by rw [if_pos rfl] at H; exact H
              clear H
              have H := H1
              clear H1
              obtain rfl := Option.some.inj H
              go_wp2
              go_ret
              exact ⟨by first | rfl | (simp [errW_none, errW_some] <;> rfl) | (simp [*, errW_none, errW_some] <;> rfl), by repeat (first | (with_reducible first | exact HB.out | apply below_alloc | apply pw_below_drewN | apply below_drew1) | exact HB.out)⟩
            · replace c14 := Bool.eq_false_iff.mpr c14
              subst c14
              have H1 : (laws_FnMountsPrefix.l0 kj9 a1 t223 ([] : List (S36)) l0 (l0.length : Int) 0) = some r := by rw [if_neg (show ¬ (false = true) by decide)] at H; exact H
              clear H
              have H := H1
              clear H1
              have H' := Aside0.mk H
              clear H
              go_wp2
              go_loopg [7, 34] kj9 (fun kq v7 v34 w' => ∃ (x7_3 : List (S36)) (x34_3 : Int), v34 = .int .i64 x34_3 ∧ Aside0 (laws_FnMountsPrefix.l0 kq a1 t223 x7_3 l0 (l0.length : Int) x34_3 = some r) ∧ Aside0 (kq ≤ kj9) ∧ Aside0 (Kd.R k36 36 w' w.heap.size (fun _ => True) v7 x7_3) ∧ Aside0 (Below w.heap.size w w'))
              case atStart => exact ⟨(([] : List (S36))), (0), (by first | rfl | (simp; done) | (simp [*]; done)), H', ⟨Nat.le_refl _⟩, ⟨by first | exact Kd.R_nil _ _ _ _ _ | exact Kd.N_nil _ _ _ _ _ | exact Kd.V_nil _ _ _ _ _ | exact Kd.Q_nil _ _ _ _ _ | exact Kd.S_nil _ _ _ _ _⟩, ⟨by repeat (first | (with_reducible first | exact HB.out | apply below_alloc | apply pw_below_drewN | apply below_drew1) | exact HB.out)⟩⟩
              case round =>
                clear H'
                try clear c1
                try clear p2
                try clear c4
                try clear c5
                try clear c6
                try clear c7
                try clear c8
                try clear c12
                try clear c14
                try clear p2
                obtain ⟨x7_3, x34_3, rfl, HA, HK3, HO_7, HB⟩ := hrel
                cases gk with
                | zero => exact absurd HA.out (by simp [laws_FnMountsPrefix.l0])
                | succ k3 =>
                  have H := HA.out
                  clear HA
                  simp only [laws_FnMountsPrefix.l0] at H
                  by_cases c15 : x34_3 < (l0.length : Int)
                  · rw [if_pos c15] at H
                    have c15b0 : decide (x34_3 < (l0.length : Int)) = true := decide_eq_true c15
                    clear c15
                    replace H := guard_inv H
                    obtain ⟨c16, H⟩ := H
                    have c16b0 : decide (0 ≤ x34_3) = true := decide_eq_true c16
                    clear c16
                    replace H := guard_inv H
                    obtain ⟨c17, H⟩ := H
                    have c17b0 : decide (x34_3 < (l0.length : Int)) = true := decide_eq_true c17
                    clear c17
                    replace H := Option.bind_eq_some_iff.mp H
                    obtain ⟨t237, A180, H⟩ := H
                    try dsimp -simprocs only at H
                    have A18 := Aside0.mk A180
                    clear A180
                    by_cases c19 : t237 = true
                    · subst c19
                      have H1 : ((laws_under.f ((rd_T36 l0 x34_3).f5) a1).bind fun t238 => (if t238 = true then (if x7_3.length < 977343669134 then (laws_FnMountsPrefix.l0 k3 a1 t223 (x7_3 ++ [(⟨(rd_T36 l0 x34_3).f0, (rd_T36 l0 x34_3).f1, (rd_T36 l0 x34_3).f2, (rd_T36 l0 x34_3).f3, (rd_T36 l0 x34_3).f4, (rd_T36 l0 x34_3).f5, (rd_T36 l0 x34_3).f6, (rd_T36 l0 x34_3).f7, (rd_T36 l0 x34_3).f8, (rd_T36 l0 x34_3).f9, (rd_T36 l0 x34_3).f10⟩ : S36)]) l0 (l0.length : Int) (wrap64 (x34_3 + 1))) else (none)) else (laws_FnMountsPrefix.l0 k3 a1 t223 x7_3 l0 (l0.length : Int) (wrap64 (x34_3 + 1))))) = some r := by rw [if_pos rfl] at H; exact H
                      clear H
                      have H := H1
                      clear H1
                      replace H := Option.bind_eq_some_iff.mp H
                      obtain ⟨t238, A200, H⟩ := H
                      try dsimp -simprocs only at H
                      have A20 := Aside0.mk A200
                      clear A200
                      by_cases c21 : t238 = true
                      · subst c21
                        have H1 : (if x7_3.length < 977343669134 then (laws_FnMountsPrefix.l0 k3 a1 t223 (x7_3 ++ [(⟨(rd_T36 l0 x34_3).f0, (rd_T36 l0 x34_3).f1, (rd_T36 l0 x34_3).f2, (rd_T36 l0 x34_3).f3, (rd_T36 l0 x34_3).f4, (rd_T36 l0 x34_3).f5, (rd_T36 l0 x34_3).f6, (rd_T36 l0 x34_3).f7, (rd_T36 l0 x34_3).f8, (rd_T36 l0 x34_3).f9, (rd_T36 l0 x34_3).f10⟩ : S36)]) l0 (l0.length : Int) (wrap64 (x34_3 + 1))) else (none)) = some r := by rw [if_pos rfl] at H; exact H
                        clear H
                        have H := H1
                        clear H1
                        replace H := guard_inv H
                        obtain ⟨c22, H⟩ := H
                        have LMc22 := Aside0.mk c22
                        clear c22
                        obtain ⟨y239, hy239⟩ : ∃ y_ : List (S36), y_ = (x7_3 ++ [(⟨(rd_T36 l0 x34_3).f0, (rd_T36 l0 x34_3).f1, (rd_T36 l0 x34_3).f2, (rd_T36 l0 x34_3).f3, (rd_T36 l0 x34_3).f4, (rd_T36 l0 x34_3).f5, (rd_T36 l0 x34_3).f6, (rd_T36 l0 x34_3).f7, (rd_T36 l0 x34_3).f8, (rd_T36 l0 x34_3).f9, (rd_T36 l0 x34_3).f10⟩ : S36)]) := ⟨_, rfl⟩
                        replace H : (laws_FnMountsPrefix.l0 k3 a1 t223 y239 l0 (l0.length : Int) (wrap64 (x34_3 + 1))) = some r := by first | (rw [hy239]; with_reducible exact H) | (have H2_ := (Option.bind_some _ _).symm.trans H; rw [hy239]; with_reducible exact H2_) | (have H2_ := (Option.bind_some _ _).symm.trans H; with_reducible exact H2_) | with_reducible exact H | (rw [hy239]; exact H) | exact H
                        have Ny239 := Aside0.mk hy239
                        clear hy239
                        have H' := Aside0.mk H
                        clear H
                        have p235 : 0 ≤ (x34_3 : Int) := of_decide_eq_true (by first | (with_reducible assumption) | assumption)
                        have q235 : x34_3 < (l0.length : Int) := of_decide_eq_true (by first | (with_reducible assumption) | assumption)
                        obtain ⟨ad235, e235, hx235_0, hx235_1, hx235_2, hx235_3, hx235_4, hx235_5, hx235_6, hx235_7, hx235_8, hx235_9, hx235_10⟩ := at_T36 HR0.out x34_3 p235 q235
                        cases e235
                        replace hx235_0 := (HB.out.cell (World.block_lt_of_cell? w _ hx235_0)).trans hx235_0
                        replace hx235_1 := (HB.out.cell (World.block_lt_of_cell? w _ hx235_1)).trans hx235_1
                        replace hx235_2 := (HB.out.cell (World.block_lt_of_cell? w _ hx235_2)).trans hx235_2
                        replace hx235_3 := (HB.out.cell (World.block_lt_of_cell? w _ hx235_3)).trans hx235_3
                        replace hx235_4 := (HB.out.cell (World.block_lt_of_cell? w _ hx235_4)).trans hx235_4
                        replace hx235_5 := (HB.out.cell (World.block_lt_of_cell? w _ hx235_5)).trans hx235_5
                        replace hx235_6 := (HB.out.cell (World.block_lt_of_cell? w _ hx235_6)).trans hx235_6
                        replace hx235_7 := (HB.out.cell (World.block_lt_of_cell? w _ hx235_7)).trans hx235_7
                        replace hx235_8 := (HB.out.cell (World.block_lt_of_cell? w _ hx235_8)).trans hx235_8
                        replace hx235_9 := (HB.out.cell (World.block_lt_of_cell? w _ hx235_9)).trans hx235_9
                        replace hx235_10 := (HB.out.cell (World.block_lt_of_cell? w _ hx235_10)).trans hx235_10
                        replace p235 := eq_true p235
                        replace q235 := eq_true q235
                        go_wp2_with (first | ((with_reducible refine gate_dst (N := 9) rfl ?_); (try (refine gate_guard (by rfl) ?_; dsimp only)); refine box_event ?hg (N := 9) ?hd (cs := #[.int .i64 0, .int .i64 0, .int .i64 0, .int .i64 0, .string (⟨#[]⟩ : ByteArray), .string (⟨#[]⟩ : ByteArray), .string (⟨#[]⟩ : ByteArray), .string (⟨#[]⟩ : ByteArray), .string (⟨#[]⟩ : ByteArray), .string (⟨#[]⟩ : ByteArray), .string (⟨#[]⟩ : ByteArray)]) (t := 36) ?hr ?_; (case hd => rfl); (case hg => rfl); (case hr => first | (go_simp; done) | (go_simp; rfl)); intro gb236 hg w23 hbox hb; have n0_ := Aside0.mk (Kd.R_below (Kd.R_elderB (by (with_reducible repeat (first | apply Kd.R_alloc | apply Kd.R_drewN | apply Kd.R_drew)); exact HO_7.out) gb236 (Nat.le_of_eq hg.symm)) hb); have n1_ := Aside0.mk (below_step (by repeat (first | (with_reducible first | exact HB.out | apply below_alloc | apply pw_below_drewN | apply below_drew1) | exact HB.out)) hb); have n2_ := Aside0.mk (hbox); have n3_ := Aside0.mk ((by rw [hg]; exact (below_size (by repeat (first | (with_reducible first | exact HB.out | apply below_alloc | apply pw_below_drewN | apply below_drew1) | exact HB.out))) : w.heap.size ≤ gb236)); have n4_ := Aside0.mk ((by rw [hg]; exact (below_size (by repeat (first | (with_reducible first | exact HB.out | apply below_alloc | apply pw_below_drewN | apply below_drew1) | exact HB.out))) : w.heap.size ≤ gb236)); clear HO_7; clear HB; have HO_7 := n0_; have HB := n1_; have BK236 := n2_; have GW236 := n3_; have GE236 := n4_; clear n0_ n1_ n2_ n3_ n4_; clear hb hbox hg; have hcz24_0 : w23.cell? ⟨gb236, 0, none⟩ = some (.int .i64 0) := (blk_cell BK236.out 0).trans rfl; have hcz24_1 : w23.cell? ⟨gb236, 1, none⟩ = some (.int .i64 0) := (blk_cell BK236.out 1).trans rfl; have hcz24_2 : w23.cell? ⟨gb236, 2, none⟩ = some (.int .i64 0) := (blk_cell BK236.out 2).trans rfl; have hcz24_3 : w23.cell? ⟨gb236, 3, none⟩ = some (.int .i64 0) := (blk_cell BK236.out 3).trans rfl; have hcz24_4 : w23.cell? ⟨gb236, 4, none⟩ = some (.string (⟨#[]⟩ : ByteArray)) := (blk_cell BK236.out 4).trans rfl; have hcz24_5 : w23.cell? ⟨gb236, 5, none⟩ = some (.string (⟨#[]⟩ : ByteArray)) := (blk_cell BK236.out 5).trans rfl; have hcz24_6 : w23.cell? ⟨gb236, 6, none⟩ = some (.string (⟨#[]⟩ : ByteArray)) := (blk_cell BK236.out 6).trans rfl; have hcz24_7 : w23.cell? ⟨gb236, 7, none⟩ = some (.string (⟨#[]⟩ : ByteArray)) := (blk_cell BK236.out 7).trans rfl; have hcz24_8 : w23.cell? ⟨gb236, 8, none⟩ = some (.string (⟨#[]⟩ : ByteArray)) := (blk_cell BK236.out 8).trans rfl; have hcz24_9 : w23.cell? ⟨gb236, 9, none⟩ = some (.string (⟨#[]⟩ : ByteArray)) := (blk_cell BK236.out 9).trans rfl; have hcz24_10 : w23.cell? ⟨gb236, 10, none⟩ = some (.string (⟨#[]⟩ : ByteArray)) := (blk_cell BK236.out 10).trans rfl; have hfz24_0 := blk_frozen BK236.out 0; have hfz24_1 := blk_frozen BK236.out 1; have hfz24_2 := blk_frozen BK236.out 2; have hfz24_3 := blk_frozen BK236.out 3; have hfz24_4 := blk_frozen BK236.out 4; have hfz24_5 := blk_frozen BK236.out 5; have hfz24_6 := blk_frozen BK236.out 6; have hfz24_7 := blk_frozen BK236.out 7; have hfz24_8 := blk_frozen BK236.out 8; have hfz24_9 := blk_frozen BK236.out 9; have hfz24_10 := blk_frozen BK236.out 10) | ((with_reducible refine gate_callee (f := 12) rfl ?_); refine goesL_ (some 40) rfl rfl Tryd.func12 (by kernel_rfl) rfl #[.string ((rd_T36 l0 x34_3).f5)] rfl (by (try simp only [List.map_toArray, List.map_cons, List.map_nil]); first | done | rfl | (simp only [List.length_drop, List.length_take]; rfl)) ?_; (with_reducible refine (laws_cleanPath.calls k3 ((rd_T36 l0 x34_3).f5) true _ A18.out).mono ?_); rintro e w' ⟨rfl, ⟨nd, rfl⟩⟩; refine ⟨_, rfl, ?_⟩) | ((with_reducible refine gate_callee (f := 13) rfl ?_); refine goesL_ (some 45) rfl rfl Tryd.func13 (by kernel_rfl) rfl #[.string ((rd_T36 l0 x34_3).f5), .string a1] rfl (by (try simp only [List.map_toArray, List.map_cons, List.map_nil]); first | done | rfl | (simp only [List.length_drop, List.length_take]; rfl)) ?_; (with_reducible refine (laws_under.calls ((rd_T36 l0 x34_3).f5) a1 true _ A20.out).mono ?_); rintro e w' ⟨rfl, ⟨nd, rfl⟩⟩; refine ⟨_, rfl, ?_⟩) | ((with_reducible refine gate_builtin (b := .append) (xs := #[.tmp 46, .tmp 48]) rfl ?_); (try (refine gate_guard (by rfl) ?_; dsimp only)); at_builtin; refine Kd.R_append k36 (w0 := w) w.heap.size rfl (.tmp 46) (.tmp 48) 22 36 (.agg #[(.int .i64 0), (.int .i64 0), (.int .i64 0), (.int .i64 0), (.string ⟨#[]⟩), (.string ⟨#[]⟩), (.string ⟨#[]⟩), (.string ⟨#[]⟩), (.string ⟨#[]⟩), (.string ⟨#[]⟩), (.string ⟨#[]⟩)]) 144 rfl Tryd.underlying22 info36 rfl (by decide) (by omega) u7 x7_3 (⟨(rd_T36 l0 x34_3).f0, (rd_T36 l0 x34_3).f1, (rd_T36 l0 x34_3).f2, (rd_T36 l0 x34_3).f3, (rd_T36 l0 x34_3).f4, (rd_T36 l0 x34_3).f5, (rd_T36 l0 x34_3).f6, (rd_T36 l0 x34_3).f7, (rd_T36 l0 x34_3).f8, (rd_T36 l0 x34_3).f9, (rd_T36 l0 x34_3).f10⟩ : S36) [.int .i64 ((rd_T36 l0 x34_3).f0), .int .i64 ((rd_T36 l0 x34_3).f1), .int .i64 ((rd_T36 l0 x34_3).f2), .int .i64 ((rd_T36 l0 x34_3).f3), .string ((rd_T36 l0 x34_3).f4), .string ((rd_T36 l0 x34_3).f5), .string ((rd_T36 l0 x34_3).f6), .string ((rd_T36 l0 x34_3).f7), .string ((rd_T36 l0 x34_3).f8), .string ((rd_T36 l0 x34_3).f9), .string ((rd_T36 l0 x34_3).f10)] (fun k_ => k_ ≠ gb236) (fun _ => False) rfl (by first | (go_simp; done) | (go_simp; rfl)) ?aP (fun _ hk => hk.elim) ?aF ?aO ?aB ?aS ?aL ?_; (case aP => exact k36_mkM _ _ _ (⟨(rd_T36 l0 x34_3).f0, (rd_T36 l0 x34_3).f1, (rd_T36 l0 x34_3).f2, (rd_T36 l0 x34_3).f3, (rd_T36 l0 x34_3).f4, (rd_T36 l0 x34_3).f5, (rd_T36 l0 x34_3).f6, (rd_T36 l0 x34_3).f7, (rd_T36 l0 x34_3).f8, (rd_T36 l0 x34_3).f9, (rd_T36 l0 x34_3).f10⟩ : S36)); (case aB => exact (by repeat (first | (with_reducible first | exact HB.out | apply below_alloc | apply pw_below_drewN | apply below_drew1 | refine below_set ?_ GE236.out) | exact HB.out))); (case aF => exact (fun k_ hk => Kd.freshB (g := gb236) (o := .cells #[.int .i64 ((rd_T36 l0 x34_3).f0), .int .i64 ((rd_T36 l0 x34_3).f1), .int .i64 ((rd_T36 l0 x34_3).f2), .int .i64 ((rd_T36 l0 x34_3).f3), .string ((rd_T36 l0 x34_3).f4), .string ((rd_T36 l0 x34_3).f5), .string ((rd_T36 l0 x34_3).f6), .string ((rd_T36 l0 x34_3).f7), .string ((rd_T36 l0 x34_3).f8), .string ((rd_T36 l0 x34_3).f9), .string ((rd_T36 l0 x34_3).f10)] 36 (0, 0)) (by (with_reducible repeat (first | refine blk_drewN ?_ _ | refine blk_drew ?_ | refine blk_alloc ?_ _)); refine blk_put (cs := #[.int .i64 ((rd_T36 l0 x34_3).f0), .int .i64 ((rd_T36 l0 x34_3).f1), .int .i64 ((rd_T36 l0 x34_3).f2), .int .i64 ((rd_T36 l0 x34_3).f3), .string ((rd_T36 l0 x34_3).f4), .string ((rd_T36 l0 x34_3).f5), .string ((rd_T36 l0 x34_3).f6), .string ((rd_T36 l0 x34_3).f7), .string ((rd_T36 l0 x34_3).f8), .string ((rd_T36 l0 x34_3).f9), .string (⟨#[]⟩ : ByteArray)]) ?_ 10 _ rfl; (with_reducible repeat (first | refine blk_drewN ?_ _ | refine blk_drew ?_ | refine blk_alloc ?_ _)); refine blk_put (cs := #[.int .i64 ((rd_T36 l0 x34_3).f0), .int .i64 ((rd_T36 l0 x34_3).f1), .int .i64 ((rd_T36 l0 x34_3).f2), .int .i64 ((rd_T36 l0 x34_3).f3), .string ((rd_T36 l0 x34_3).f4), .string ((rd_T36 l0 x34_3).f5), .string ((rd_T36 l0 x34_3).f6), .string ((rd_T36 l0 x34_3).f7), .string ((rd_T36 l0 x34_3).f8), .string (⟨#[]⟩ : ByteArray), .string (⟨#[]⟩ : ByteArray)]) ?_ 9 _ rfl; (with_reducible repeat (first | refine blk_drewN ?_ _ | refine blk_drew ?_ | refine blk_alloc ?_ _)); refine blk_put (cs := #[.int .i64 ((rd_T36 l0 x34_3).f0), .int .i64 ((rd_T36 l0 x34_3).f1), .int .i64 ((rd_T36 l0 x34_3).f2), .int .i64 ((rd_T36 l0 x34_3).f3), .string ((rd_T36 l0 x34_3).f4), .string ((rd_T36 l0 x34_3).f5), .string ((rd_T36 l0 x34_3).f6), .string ((rd_T36 l0 x34_3).f7), .string (⟨#[]⟩ : ByteArray), .string (⟨#[]⟩ : ByteArray), .string (⟨#[]⟩ : ByteArray)]) ?_ 8 _ rfl; (with_reducible repeat (first | refine blk_drewN ?_ _ | refine blk_drew ?_ | refine blk_alloc ?_ _)); refine blk_put (cs := #[.int .i64 ((rd_T36 l0 x34_3).f0), .int .i64 ((rd_T36 l0 x34_3).f1), .int .i64 ((rd_T36 l0 x34_3).f2), .int .i64 ((rd_T36 l0 x34_3).f3), .string ((rd_T36 l0 x34_3).f4), .string ((rd_T36 l0 x34_3).f5), .string ((rd_T36 l0 x34_3).f6), .string (⟨#[]⟩ : ByteArray), .string (⟨#[]⟩ : ByteArray), .string (⟨#[]⟩ : ByteArray), .string (⟨#[]⟩ : ByteArray)]) ?_ 7 _ rfl; (with_reducible repeat (first | refine blk_drewN ?_ _ | refine blk_drew ?_ | refine blk_alloc ?_ _)); refine blk_put (cs := #[.int .i64 ((rd_T36 l0 x34_3).f0), .int .i64 ((rd_T36 l0 x34_3).f1), .int .i64 ((rd_T36 l0 x34_3).f2), .int .i64 ((rd_T36 l0 x34_3).f3), .string ((rd_T36 l0 x34_3).f4), .string ((rd_T36 l0 x34_3).f5), .string (⟨#[]⟩ : ByteArray), .string (⟨#[]⟩ : ByteArray), .string (⟨#[]⟩ : ByteArray), .string (⟨#[]⟩ : ByteArray), .string (⟨#[]⟩ : ByteArray)]) ?_ 6 _ rfl; (with_reducible repeat (first | refine blk_drewN ?_ _ | refine blk_drew ?_ | refine blk_alloc ?_ _)); refine blk_put (cs := #[.int .i64 ((rd_T36 l0 x34_3).f0), .int .i64 ((rd_T36 l0 x34_3).f1), .int .i64 ((rd_T36 l0 x34_3).f2), .int .i64 ((rd_T36 l0 x34_3).f3), .string ((rd_T36 l0 x34_3).f4), .string (⟨#[]⟩ : ByteArray), .string (⟨#[]⟩ : ByteArray), .string (⟨#[]⟩ : ByteArray), .string (⟨#[]⟩ : ByteArray), .string (⟨#[]⟩ : ByteArray), .string (⟨#[]⟩ : ByteArray)]) ?_ 5 _ rfl; (with_reducible repeat (first | refine blk_drewN ?_ _ | refine blk_drew ?_ | refine blk_alloc ?_ _)); refine blk_put (cs := #[.int .i64 ((rd_T36 l0 x34_3).f0), .int .i64 ((rd_T36 l0 x34_3).f1), .int .i64 ((rd_T36 l0 x34_3).f2), .int .i64 ((rd_T36 l0 x34_3).f3), .string (⟨#[]⟩ : ByteArray), .string (⟨#[]⟩ : ByteArray), .string (⟨#[]⟩ : ByteArray), .string (⟨#[]⟩ : ByteArray), .string (⟨#[]⟩ : ByteArray), .string (⟨#[]⟩ : ByteArray), .string (⟨#[]⟩ : ByteArray)]) ?_ 4 _ rfl; (with_reducible repeat (first | refine blk_drewN ?_ _ | refine blk_drew ?_ | refine blk_alloc ?_ _)); refine blk_put (cs := #[.int .i64 ((rd_T36 l0 x34_3).f0), .int .i64 ((rd_T36 l0 x34_3).f1), .int .i64 ((rd_T36 l0 x34_3).f2), .int .i64 0, .string (⟨#[]⟩ : ByteArray), .string (⟨#[]⟩ : ByteArray), .string (⟨#[]⟩ : ByteArray), .string (⟨#[]⟩ : ByteArray), .string (⟨#[]⟩ : ByteArray), .string (⟨#[]⟩ : ByteArray), .string (⟨#[]⟩ : ByteArray)]) ?_ 3 _ rfl; (with_reducible repeat (first | refine blk_drewN ?_ _ | refine blk_drew ?_ | refine blk_alloc ?_ _)); refine blk_put (cs := #[.int .i64 ((rd_T36 l0 x34_3).f0), .int .i64 ((rd_T36 l0 x34_3).f1), .int .i64 0, .int .i64 0, .string (⟨#[]⟩ : ByteArray), .string (⟨#[]⟩ : ByteArray), .string (⟨#[]⟩ : ByteArray), .string (⟨#[]⟩ : ByteArray), .string (⟨#[]⟩ : ByteArray), .string (⟨#[]⟩ : ByteArray), .string (⟨#[]⟩ : ByteArray)]) ?_ 2 _ rfl; (with_reducible repeat (first | refine blk_drewN ?_ _ | refine blk_drew ?_ | refine blk_alloc ?_ _)); refine blk_put (cs := #[.int .i64 ((rd_T36 l0 x34_3).f0), .int .i64 0, .int .i64 0, .int .i64 0, .string (⟨#[]⟩ : ByteArray), .string (⟨#[]⟩ : ByteArray), .string (⟨#[]⟩ : ByteArray), .string (⟨#[]⟩ : ByteArray), .string (⟨#[]⟩ : ByteArray), .string (⟨#[]⟩ : ByteArray), .string (⟨#[]⟩ : ByteArray)]) ?_ 1 _ rfl; (with_reducible repeat (first | refine blk_drewN ?_ _ | refine blk_drew ?_ | refine blk_alloc ?_ _)); refine blk_put (cs := #[.int .i64 0, .int .i64 0, .int .i64 0, .int .i64 0, .string (⟨#[]⟩ : ByteArray), .string (⟨#[]⟩ : ByteArray), .string (⟨#[]⟩ : ByteArray), .string (⟨#[]⟩ : ByteArray), .string (⟨#[]⟩ : ByteArray), .string (⟨#[]⟩ : ByteArray), .string (⟨#[]⟩ : ByteArray)]) ?_ 0 _ rfl; (with_reducible repeat (first | refine blk_drewN ?_ _ | refine blk_drew ?_ | refine blk_alloc ?_ _)); exact BK236.out) k_ hk)); (case aO => exact (by (with_reducible repeat (first | apply Kd.R_alloc | apply Kd.R_drewN | apply Kd.R_drew)); exact Kd.R_mono (Kd.R_far (p := ⟨gb236, 10, none⟩) (Kd.R_far (p := ⟨gb236, 9, none⟩) (Kd.R_far (p := ⟨gb236, 8, none⟩) (Kd.R_far (p := ⟨gb236, 7, none⟩) (Kd.R_far (p := ⟨gb236, 6, none⟩) (Kd.R_far (p := ⟨gb236, 5, none⟩) (Kd.R_far (p := ⟨gb236, 4, none⟩) (Kd.R_far (p := ⟨gb236, 3, none⟩) (Kd.R_far (p := ⟨gb236, 2, none⟩) (Kd.R_far (p := ⟨gb236, 1, none⟩) (Kd.R_far (p := ⟨gb236, 0, none⟩) (Kd.R_mono HO_7.out (fun k_ hk => (⟨hk, hk.2⟩ : _ ∧ k_ ≠ gb236))) (fun _ hk => hk.2) (.int .i64 ((rd_T36 l0 x34_3).f0))) (fun _ hk => hk.2) (.int .i64 ((rd_T36 l0 x34_3).f1))) (fun _ hk => hk.2) (.int .i64 ((rd_T36 l0 x34_3).f2))) (fun _ hk => hk.2) (.int .i64 ((rd_T36 l0 x34_3).f3))) (fun _ hk => hk.2) (.string ((rd_T36 l0 x34_3).f4))) (fun _ hk => hk.2) (.string ((rd_T36 l0 x34_3).f5))) (fun _ hk => hk.2) (.string ((rd_T36 l0 x34_3).f6))) (fun _ hk => hk.2) (.string ((rd_T36 l0 x34_3).f7))) (fun _ hk => hk.2) (.string ((rd_T36 l0 x34_3).f8))) (fun _ hk => hk.2) (.string ((rd_T36 l0 x34_3).f9))) (fun _ hk => hk.2) (.string ((rd_T36 l0 x34_3).f10))) (fun _ hk => hk.1.2))); (case aS => exact (below_size (by repeat (first | (with_reducible first | exact HB.out | apply below_alloc | apply pw_below_drewN | apply below_drew1 | refine below_set ?_ GE236.out) | exact HB.out)))); (case aL => have := LMc22.out; omega); intro v240 w25 ho hb hg hat; rw [← Ny239.out] at ho; have n0_ := Aside0.mk (blk_grown (g := gb236) (o := .cells #[.int .i64 ((rd_T36 l0 x34_3).f0), .int .i64 ((rd_T36 l0 x34_3).f1), .int .i64 ((rd_T36 l0 x34_3).f2), .int .i64 ((rd_T36 l0 x34_3).f3), .string ((rd_T36 l0 x34_3).f4), .string ((rd_T36 l0 x34_3).f5), .string ((rd_T36 l0 x34_3).f6), .string ((rd_T36 l0 x34_3).f7), .string ((rd_T36 l0 x34_3).f8), .string ((rd_T36 l0 x34_3).f9), .string ((rd_T36 l0 x34_3).f10)] 36 (0, 0)) (by (with_reducible repeat (first | refine blk_drewN ?_ _ | refine blk_drew ?_ | refine blk_alloc ?_ _)); refine blk_put (cs := #[.int .i64 ((rd_T36 l0 x34_3).f0), .int .i64 ((rd_T36 l0 x34_3).f1), .int .i64 ((rd_T36 l0 x34_3).f2), .int .i64 ((rd_T36 l0 x34_3).f3), .string ((rd_T36 l0 x34_3).f4), .string ((rd_T36 l0 x34_3).f5), .string ((rd_T36 l0 x34_3).f6), .string ((rd_T36 l0 x34_3).f7), .string ((rd_T36 l0 x34_3).f8), .string ((rd_T36 l0 x34_3).f9), .string (⟨#[]⟩ : ByteArray)]) ?_ 10 _ rfl; (with_reducible repeat (first | refine blk_drewN ?_ _ | refine blk_drew ?_ | refine blk_alloc ?_ _)); refine blk_put (cs := #[.int .i64 ((rd_T36 l0 x34_3).f0), .int .i64 ((rd_T36 l0 x34_3).f1), .int .i64 ((rd_T36 l0 x34_3).f2), .int .i64 ((rd_T36 l0 x34_3).f3), .string ((rd_T36 l0 x34_3).f4), .string ((rd_T36 l0 x34_3).f5), .string ((rd_T36 l0 x34_3).f6), .string ((rd_T36 l0 x34_3).f7), .string ((rd_T36 l0 x34_3).f8), .string (⟨#[]⟩ : ByteArray), .string (⟨#[]⟩ : ByteArray)]) ?_ 9 _ rfl; (with_reducible repeat (first | refine blk_drewN ?_ _ | refine blk_drew ?_ | refine blk_alloc ?_ _)); refine blk_put (cs := #[.int .i64 ((rd_T36 l0 x34_3).f0), .int .i64 ((rd_T36 l0 x34_3).f1), .int .i64 ((rd_T36 l0 x34_3).f2), .int .i64 ((rd_T36 l0 x34_3).f3), .string ((rd_T36 l0 x34_3).f4), .string ((rd_T36 l0 x34_3).f5), .string ((rd_T36 l0 x34_3).f6), .string ((rd_T36 l0 x34_3).f7), .string (⟨#[]⟩ : ByteArray), .string (⟨#[]⟩ : ByteArray), .string (⟨#[]⟩ : ByteArray)]) ?_ 8 _ rfl; (with_reducible repeat (first | refine blk_drewN ?_ _ | refine blk_drew ?_ | refine blk_alloc ?_ _)); refine blk_put (cs := #[.int .i64 ((rd_T36 l0 x34_3).f0), .int .i64 ((rd_T36 l0 x34_3).f1), .int .i64 ((rd_T36 l0 x34_3).f2), .int .i64 ((rd_T36 l0 x34_3).f3), .string ((rd_T36 l0 x34_3).f4), .string ((rd_T36 l0 x34_3).f5), .string ((rd_T36 l0 x34_3).f6), .string (⟨#[]⟩ : ByteArray), .string (⟨#[]⟩ : ByteArray), .string (⟨#[]⟩ : ByteArray), .string (⟨#[]⟩ : ByteArray)]) ?_ 7 _ rfl; (with_reducible repeat (first | refine blk_drewN ?_ _ | refine blk_drew ?_ | refine blk_alloc ?_ _)); refine blk_put (cs := #[.int .i64 ((rd_T36 l0 x34_3).f0), .int .i64 ((rd_T36 l0 x34_3).f1), .int .i64 ((rd_T36 l0 x34_3).f2), .int .i64 ((rd_T36 l0 x34_3).f3), .string ((rd_T36 l0 x34_3).f4), .string ((rd_T36 l0 x34_3).f5), .string (⟨#[]⟩ : ByteArray), .string (⟨#[]⟩ : ByteArray), .string (⟨#[]⟩ : ByteArray), .string (⟨#[]⟩ : ByteArray), .string (⟨#[]⟩ : ByteArray)]) ?_ 6 _ rfl; (with_reducible repeat (first | refine blk_drewN ?_ _ | refine blk_drew ?_ | refine blk_alloc ?_ _)); refine blk_put (cs := #[.int .i64 ((rd_T36 l0 x34_3).f0), .int .i64 ((rd_T36 l0 x34_3).f1), .int .i64 ((rd_T36 l0 x34_3).f2), .int .i64 ((rd_T36 l0 x34_3).f3), .string ((rd_T36 l0 x34_3).f4), .string (⟨#[]⟩ : ByteArray), .string (⟨#[]⟩ : ByteArray), .string (⟨#[]⟩ : ByteArray), .string (⟨#[]⟩ : ByteArray), .string (⟨#[]⟩ : ByteArray), .string (⟨#[]⟩ : ByteArray)]) ?_ 5 _ rfl; (with_reducible repeat (first | refine blk_drewN ?_ _ | refine blk_drew ?_ | refine blk_alloc ?_ _)); refine blk_put (cs := #[.int .i64 ((rd_T36 l0 x34_3).f0), .int .i64 ((rd_T36 l0 x34_3).f1), .int .i64 ((rd_T36 l0 x34_3).f2), .int .i64 ((rd_T36 l0 x34_3).f3), .string (⟨#[]⟩ : ByteArray), .string (⟨#[]⟩ : ByteArray), .string (⟨#[]⟩ : ByteArray), .string (⟨#[]⟩ : ByteArray), .string (⟨#[]⟩ : ByteArray), .string (⟨#[]⟩ : ByteArray), .string (⟨#[]⟩ : ByteArray)]) ?_ 4 _ rfl; (with_reducible repeat (first | refine blk_drewN ?_ _ | refine blk_drew ?_ | refine blk_alloc ?_ _)); refine blk_put (cs := #[.int .i64 ((rd_T36 l0 x34_3).f0), .int .i64 ((rd_T36 l0 x34_3).f1), .int .i64 ((rd_T36 l0 x34_3).f2), .int .i64 0, .string (⟨#[]⟩ : ByteArray), .string (⟨#[]⟩ : ByteArray), .string (⟨#[]⟩ : ByteArray), .string (⟨#[]⟩ : ByteArray), .string (⟨#[]⟩ : ByteArray), .string (⟨#[]⟩ : ByteArray), .string (⟨#[]⟩ : ByteArray)]) ?_ 3 _ rfl; (with_reducible repeat (first | refine blk_drewN ?_ _ | refine blk_drew ?_ | refine blk_alloc ?_ _)); refine blk_put (cs := #[.int .i64 ((rd_T36 l0 x34_3).f0), .int .i64 ((rd_T36 l0 x34_3).f1), .int .i64 0, .int .i64 0, .string (⟨#[]⟩ : ByteArray), .string (⟨#[]⟩ : ByteArray), .string (⟨#[]⟩ : ByteArray), .string (⟨#[]⟩ : ByteArray), .string (⟨#[]⟩ : ByteArray), .string (⟨#[]⟩ : ByteArray), .string (⟨#[]⟩ : ByteArray)]) ?_ 2 _ rfl; (with_reducible repeat (first | refine blk_drewN ?_ _ | refine blk_drew ?_ | refine blk_alloc ?_ _)); refine blk_put (cs := #[.int .i64 ((rd_T36 l0 x34_3).f0), .int .i64 0, .int .i64 0, .int .i64 0, .string (⟨#[]⟩ : ByteArray), .string (⟨#[]⟩ : ByteArray), .string (⟨#[]⟩ : ByteArray), .string (⟨#[]⟩ : ByteArray), .string (⟨#[]⟩ : ByteArray), .string (⟨#[]⟩ : ByteArray), .string (⟨#[]⟩ : ByteArray)]) ?_ 1 _ rfl; (with_reducible repeat (first | refine blk_drewN ?_ _ | refine blk_drew ?_ | refine blk_alloc ?_ _)); refine blk_put (cs := #[.int .i64 0, .int .i64 0, .int .i64 0, .int .i64 0, .string (⟨#[]⟩ : ByteArray), .string (⟨#[]⟩ : ByteArray), .string (⟨#[]⟩ : ByteArray), .string (⟨#[]⟩ : ByteArray), .string (⟨#[]⟩ : ByteArray), .string (⟨#[]⟩ : ByteArray), .string (⟨#[]⟩ : ByteArray)]) ?_ 0 _ rfl; (with_reducible repeat (first | refine blk_drewN ?_ _ | refine blk_drew ?_ | refine blk_alloc ?_ _)); exact BK236.out) hg (Kd.R_away HO_7.out (fun _ hk => hk.2))); have n1_ := Aside0.mk (hb); have n2_ := Aside0.mk (ho); clear BK236; clear HB; clear HO_7; have BK236 := n0_; have HB := n1_; have HO241 := n2_; clear n0_ n1_ n2_; clear ho hb hg hat))
                        go_roundg k3
                        case measure => have := HJ2.out; have := HJ9.out; have := HK3.out; omega
                        case rel => exact ⟨(y239), (wrap64 (x34_3 + 1)), (by first | rfl | (simp; done) | (simp [*]; done)), H', ⟨by have := HJ2.out; have := HJ9.out; have := HK3.out; omega⟩, ⟨by (with_reducible repeat (first | apply Kd.R_alloc | apply Kd.R_drewN | apply Kd.R_drew)); exact Kd.R_mono HO241.out (fun _ hk => trivial)⟩, ⟨by repeat (first | (with_reducible first | exact HB.out | apply below_alloc | apply pw_below_drewN | apply below_drew1 | refine below_set ?_ GE236.out) | exact HB.out)⟩⟩
                      · replace c21 := Bool.eq_false_iff.mpr c21
                        subst c21
                        have H1 : (laws_FnMountsPrefix.l0 k3 a1 t223 x7_3 l0 (l0.length : Int) (wrap64 (x34_3 + 1))) = some r := by rw [if_neg (show ¬ (false = true) by decide)] at H; exact H
                        clear H
                        have H := H1
                        clear H1
                        have H' := Aside0.mk H
                        clear H
                        have p235 : 0 ≤ (x34_3 : Int) := of_decide_eq_true (by first | (with_reducible assumption) | assumption)
                        have q235 : x34_3 < (l0.length : Int) := of_decide_eq_true (by first | (with_reducible assumption) | assumption)
                        obtain ⟨ad235, e235, hx235_0, hx235_1, hx235_2, hx235_3, hx235_4, hx235_5, hx235_6, hx235_7, hx235_8, hx235_9, hx235_10⟩ := at_T36 HR0.out x34_3 p235 q235
                        cases e235
                        replace hx235_0 := (HB.out.cell (World.block_lt_of_cell? w _ hx235_0)).trans hx235_0
                        replace hx235_1 := (HB.out.cell (World.block_lt_of_cell? w _ hx235_1)).trans hx235_1
                        replace hx235_2 := (HB.out.cell (World.block_lt_of_cell? w _ hx235_2)).trans hx235_2
                        replace hx235_3 := (HB.out.cell (World.block_lt_of_cell? w _ hx235_3)).trans hx235_3
                        replace hx235_4 := (HB.out.cell (World.block_lt_of_cell? w _ hx235_4)).trans hx235_4
                        replace hx235_5 := (HB.out.cell (World.block_lt_of_cell? w _ hx235_5)).trans hx235_5
                        replace hx235_6 := (HB.out.cell (World.block_lt_of_cell? w _ hx235_6)).trans hx235_6
                        replace hx235_7 := (HB.out.cell (World.block_lt_of_cell? w _ hx235_7)).trans hx235_7
                        replace hx235_8 := (HB.out.cell (World.block_lt_of_cell? w _ hx235_8)).trans hx235_8
                        replace hx235_9 := (HB.out.cell (World.block_lt_of_cell? w _ hx235_9)).trans hx235_9
                        replace hx235_10 := (HB.out.cell (World.block_lt_of_cell? w _ hx235_10)).trans hx235_10
                        replace p235 := eq_true p235
                        replace q235 := eq_true q235
                        go_wp2_with (first | ((with_reducible refine gate_dst (N := 9) rfl ?_); (try (refine gate_guard (by rfl) ?_; dsimp only)); refine box_event ?hg (N := 9) ?hd (cs := #[.int .i64 0, .int .i64 0, .int .i64 0, .int .i64 0, .string (⟨#[]⟩ : ByteArray), .string (⟨#[]⟩ : ByteArray), .string (⟨#[]⟩ : ByteArray), .string (⟨#[]⟩ : ByteArray), .string (⟨#[]⟩ : ByteArray), .string (⟨#[]⟩ : ByteArray), .string (⟨#[]⟩ : ByteArray)]) (t := 36) ?hr ?_; (case hd => rfl); (case hg => rfl); (case hr => first | (go_simp; done) | (go_simp; rfl)); intro gb236 hg w26 hbox hb; have n0_ := Aside0.mk (Kd.R_below (Kd.R_elderB (by (with_reducible repeat (first | apply Kd.R_alloc | apply Kd.R_drewN | apply Kd.R_drew)); exact HO_7.out) gb236 (Nat.le_of_eq hg.symm)) hb); have n1_ := Aside0.mk (below_step (by repeat (first | (with_reducible first | exact HB.out | apply below_alloc | apply pw_below_drewN | apply below_drew1) | exact HB.out)) hb); have n2_ := Aside0.mk (hbox); have n3_ := Aside0.mk ((by rw [hg]; exact (below_size (by repeat (first | (with_reducible first | exact HB.out | apply below_alloc | apply pw_below_drewN | apply below_drew1) | exact HB.out))) : w.heap.size ≤ gb236)); have n4_ := Aside0.mk ((by rw [hg]; exact (below_size (by repeat (first | (with_reducible first | exact HB.out | apply below_alloc | apply pw_below_drewN | apply below_drew1) | exact HB.out))) : w.heap.size ≤ gb236)); clear HO_7; clear HB; have HO_7 := n0_; have HB := n1_; have BK236 := n2_; have GW236 := n3_; have GE236 := n4_; clear n0_ n1_ n2_ n3_ n4_; clear hb hbox hg; have hcz27_0 : w26.cell? ⟨gb236, 0, none⟩ = some (.int .i64 0) := (blk_cell BK236.out 0).trans rfl; have hcz27_1 : w26.cell? ⟨gb236, 1, none⟩ = some (.int .i64 0) := (blk_cell BK236.out 1).trans rfl; have hcz27_2 : w26.cell? ⟨gb236, 2, none⟩ = some (.int .i64 0) := (blk_cell BK236.out 2).trans rfl; have hcz27_3 : w26.cell? ⟨gb236, 3, none⟩ = some (.int .i64 0) := (blk_cell BK236.out 3).trans rfl; have hcz27_4 : w26.cell? ⟨gb236, 4, none⟩ = some (.string (⟨#[]⟩ : ByteArray)) := (blk_cell BK236.out 4).trans rfl; have hcz27_5 : w26.cell? ⟨gb236, 5, none⟩ = some (.string (⟨#[]⟩ : ByteArray)) := (blk_cell BK236.out 5).trans rfl; have hcz27_6 : w26.cell? ⟨gb236, 6, none⟩ = some (.string (⟨#[]⟩ : ByteArray)) := (blk_cell BK236.out 6).trans rfl; have hcz27_7 : w26.cell? ⟨gb236, 7, none⟩ = some (.string (⟨#[]⟩ : ByteArray)) := (blk_cell BK236.out 7).trans rfl; have hcz27_8 : w26.cell? ⟨gb236, 8, none⟩ = some (.string (⟨#[]⟩ : ByteArray)) := (blk_cell BK236.out 8).trans rfl; have hcz27_9 : w26.cell? ⟨gb236, 9, none⟩ = some (.string (⟨#[]⟩ : ByteArray)) := (blk_cell BK236.out 9).trans rfl; have hcz27_10 : w26.cell? ⟨gb236, 10, none⟩ = some (.string (⟨#[]⟩ : ByteArray)) := (blk_cell BK236.out 10).trans rfl; have hfz27_0 := blk_frozen BK236.out 0; have hfz27_1 := blk_frozen BK236.out 1; have hfz27_2 := blk_frozen BK236.out 2; have hfz27_3 := blk_frozen BK236.out 3; have hfz27_4 := blk_frozen BK236.out 4; have hfz27_5 := blk_frozen BK236.out 5; have hfz27_6 := blk_frozen BK236.out 6; have hfz27_7 := blk_frozen BK236.out 7; have hfz27_8 := blk_frozen BK236.out 8; have hfz27_9 := blk_frozen BK236.out 9; have hfz27_10 := blk_frozen BK236.out 10) | ((with_reducible refine gate_callee (f := 12) rfl ?_); refine goesL_ (some 40) rfl rfl Tryd.func12 (by kernel_rfl) rfl #[.string ((rd_T36 l0 x34_3).f5)] rfl (by (try simp only [List.map_toArray, List.map_cons, List.map_nil]); first | done | rfl | (simp only [List.length_drop, List.length_take]; rfl)) ?_; (with_reducible refine (laws_cleanPath.calls k3 ((rd_T36 l0 x34_3).f5) true _ A18.out).mono ?_); rintro e w' ⟨rfl, ⟨nd, rfl⟩⟩; refine ⟨_, rfl, ?_⟩) | ((with_reducible refine gate_callee (f := 13) rfl ?_); refine goesL_ (some 45) rfl rfl Tryd.func13 (by kernel_rfl) rfl #[.string ((rd_T36 l0 x34_3).f5), .string a1] rfl (by (try simp only [List.map_toArray, List.map_cons, List.map_nil]); first | done | rfl | (simp only [List.length_drop, List.length_take]; rfl)) ?_; (with_reducible refine (laws_under.calls ((rd_T36 l0 x34_3).f5) a1 false _ A20.out).mono ?_); rintro e w' ⟨rfl, ⟨nd, rfl⟩⟩; refine ⟨_, rfl, ?_⟩))
                        go_roundg k3
                        case measure => have := HJ2.out; have := HJ9.out; have := HK3.out; omega
                        case rel => exact ⟨(x7_3), (wrap64 (x34_3 + 1)), (by first | rfl | (simp; done) | (simp [*]; done)), H', ⟨by have := HJ2.out; have := HJ9.out; have := HK3.out; omega⟩, ⟨by (with_reducible repeat (first | apply Kd.R_alloc | apply Kd.R_drewN | apply Kd.R_drew)); exact Kd.R_mono (Kd.R_far (p := ⟨gb236, 10, none⟩) (Kd.R_far (p := ⟨gb236, 9, none⟩) (Kd.R_far (p := ⟨gb236, 8, none⟩) (Kd.R_far (p := ⟨gb236, 7, none⟩) (Kd.R_far (p := ⟨gb236, 6, none⟩) (Kd.R_far (p := ⟨gb236, 5, none⟩) (Kd.R_far (p := ⟨gb236, 4, none⟩) (Kd.R_far (p := ⟨gb236, 3, none⟩) (Kd.R_far (p := ⟨gb236, 2, none⟩) (Kd.R_far (p := ⟨gb236, 1, none⟩) (Kd.R_far (p := ⟨gb236, 0, none⟩) (Kd.R_mono HO_7.out (fun k_ hk => (⟨hk, hk.2⟩ : _ ∧ k_ ≠ gb236))) (fun _ hk => hk.2) (.int .i64 ((rd_T36 l0 x34_3).f0))) (fun _ hk => hk.2) (.int .i64 ((rd_T36 l0 x34_3).f1))) (fun _ hk => hk.2) (.int .i64 ((rd_T36 l0 x34_3).f2))) (fun _ hk => hk.2) (.int .i64 ((rd_T36 l0 x34_3).f3))) (fun _ hk => hk.2) (.string ((rd_T36 l0 x34_3).f4))) (fun _ hk => hk.2) (.string ((rd_T36 l0 x34_3).f5))) (fun _ hk => hk.2) (.string ((rd_T36 l0 x34_3).f6))) (fun _ hk => hk.2) (.string ((rd_T36 l0 x34_3).f7))) (fun _ hk => hk.2) (.string ((rd_T36 l0 x34_3).f8))) (fun _ hk => hk.2) (.string ((rd_T36 l0 x34_3).f9))) (fun _ hk => hk.2) (.string ((rd_T36 l0 x34_3).f10))) (fun _ hk => trivial)⟩, ⟨by repeat (first | (with_reducible first | exact HB.out | apply below_alloc | apply pw_below_drewN | apply below_drew1 | refine below_set ?_ GE236.out) | exact HB.out)⟩⟩
                    · replace c19 := Bool.eq_false_iff.mpr c19
                      subst c19
                      have H1 : (some true) = some r := by rw [if_neg (show ¬ (false = true) by decide)] at H; exact H
                      clear H
                      have H := H1
                      clear H1
                      obtain rfl := Option.some.inj H
                      have p235 : 0 ≤ (x34_3 : Int) := of_decide_eq_true (by first | (with_reducible assumption) | assumption)
                      have q235 : x34_3 < (l0.length : Int) := of_decide_eq_true (by first | (with_reducible assumption) | assumption)
                      obtain ⟨ad235, e235, hx235_0, hx235_1, hx235_2, hx235_3, hx235_4, hx235_5, hx235_6, hx235_7, hx235_8, hx235_9, hx235_10⟩ := at_T36 HR0.out x34_3 p235 q235
                      cases e235
                      replace hx235_0 := (HB.out.cell (World.block_lt_of_cell? w _ hx235_0)).trans hx235_0
                      replace hx235_1 := (HB.out.cell (World.block_lt_of_cell? w _ hx235_1)).trans hx235_1
                      replace hx235_2 := (HB.out.cell (World.block_lt_of_cell? w _ hx235_2)).trans hx235_2
                      replace hx235_3 := (HB.out.cell (World.block_lt_of_cell? w _ hx235_3)).trans hx235_3
                      replace hx235_4 := (HB.out.cell (World.block_lt_of_cell? w _ hx235_4)).trans hx235_4
                      replace hx235_5 := (HB.out.cell (World.block_lt_of_cell? w _ hx235_5)).trans hx235_5
                      replace hx235_6 := (HB.out.cell (World.block_lt_of_cell? w _ hx235_6)).trans hx235_6
                      replace hx235_7 := (HB.out.cell (World.block_lt_of_cell? w _ hx235_7)).trans hx235_7
                      replace hx235_8 := (HB.out.cell (World.block_lt_of_cell? w _ hx235_8)).trans hx235_8
                      replace hx235_9 := (HB.out.cell (World.block_lt_of_cell? w _ hx235_9)).trans hx235_9
                      replace hx235_10 := (HB.out.cell (World.block_lt_of_cell? w _ hx235_10)).trans hx235_10
                      replace p235 := eq_true p235
                      replace q235 := eq_true q235
                      go_wp2_with (first | ((with_reducible refine gate_dst (N := 9) rfl ?_); (try (refine gate_guard (by rfl) ?_; dsimp only)); refine box_event ?hg (N := 9) ?hd (cs := #[.int .i64 0, .int .i64 0, .int .i64 0, .int .i64 0, .string (⟨#[]⟩ : ByteArray), .string (⟨#[]⟩ : ByteArray), .string (⟨#[]⟩ : ByteArray), .string (⟨#[]⟩ : ByteArray), .string (⟨#[]⟩ : ByteArray), .string (⟨#[]⟩ : ByteArray), .string (⟨#[]⟩ : ByteArray)]) (t := 36) ?hr ?_; (case hd => rfl); (case hg => rfl); (case hr => first | (go_simp; done) | (go_simp; rfl)); intro gb236 hg w28 hbox hb; have n0_ := Aside0.mk (Kd.R_below (Kd.R_elderB (by (with_reducible repeat (first | apply Kd.R_alloc | apply Kd.R_drewN | apply Kd.R_drew)); exact HO_7.out) gb236 (Nat.le_of_eq hg.symm)) hb); have n1_ := Aside0.mk (below_step (by repeat (first | (with_reducible first | exact HB.out | apply below_alloc | apply pw_below_drewN | apply below_drew1) | exact HB.out)) hb); have n2_ := Aside0.mk (hbox); have n3_ := Aside0.mk ((by rw [hg]; exact (below_size (by repeat (first | (with_reducible first | exact HB.out | apply below_alloc | apply pw_below_drewN | apply below_drew1) | exact HB.out))) : w.heap.size ≤ gb236)); have n4_ := Aside0.mk ((by rw [hg]; exact (below_size (by repeat (first | (with_reducible first | exact HB.out | apply below_alloc | apply pw_below_drewN | apply below_drew1) | exact HB.out))) : w.heap.size ≤ gb236)); clear HO_7; clear HB; have HO_7 := n0_; have HB := n1_; have BK236 := n2_; have GW236 := n3_; have GE236 := n4_; clear n0_ n1_ n2_ n3_ n4_; clear hb hbox hg; have hcz29_0 : w28.cell? ⟨gb236, 0, none⟩ = some (.int .i64 0) := (blk_cell BK236.out 0).trans rfl; have hcz29_1 : w28.cell? ⟨gb236, 1, none⟩ = some (.int .i64 0) := (blk_cell BK236.out 1).trans rfl; have hcz29_2 : w28.cell? ⟨gb236, 2, none⟩ = some (.int .i64 0) := (blk_cell BK236.out 2).trans rfl; have hcz29_3 : w28.cell? ⟨gb236, 3, none⟩ = some (.int .i64 0) := (blk_cell BK236.out 3).trans rfl; have hcz29_4 : w28.cell? ⟨gb236, 4, none⟩ = some (.string (⟨#[]⟩ : ByteArray)) := (blk_cell BK236.out 4).trans rfl; have hcz29_5 : w28.cell? ⟨gb236, 5, none⟩ = some (.string (⟨#[]⟩ : ByteArray)) := (blk_cell BK236.out 5).trans rfl; have hcz29_6 : w28.cell? ⟨gb236, 6, none⟩ = some (.string (⟨#[]⟩ : ByteArray)) := (blk_cell BK236.out 6).trans rfl; have hcz29_7 : w28.cell? ⟨gb236, 7, none⟩ = some (.string (⟨#[]⟩ : ByteArray)) := (blk_cell BK236.out 7).trans rfl; have hcz29_8 : w28.cell? ⟨gb236, 8, none⟩ = some (.string (⟨#[]⟩ : ByteArray)) := (blk_cell BK236.out 8).trans rfl; have hcz29_9 : w28.cell? ⟨gb236, 9, none⟩ = some (.string (⟨#[]⟩ : ByteArray)) := (blk_cell BK236.out 9).trans rfl; have hcz29_10 : w28.cell? ⟨gb236, 10, none⟩ = some (.string (⟨#[]⟩ : ByteArray)) := (blk_cell BK236.out 10).trans rfl; have hfz29_0 := blk_frozen BK236.out 0; have hfz29_1 := blk_frozen BK236.out 1; have hfz29_2 := blk_frozen BK236.out 2; have hfz29_3 := blk_frozen BK236.out 3; have hfz29_4 := blk_frozen BK236.out 4; have hfz29_5 := blk_frozen BK236.out 5; have hfz29_6 := blk_frozen BK236.out 6; have hfz29_7 := blk_frozen BK236.out 7; have hfz29_8 := blk_frozen BK236.out 8; have hfz29_9 := blk_frozen BK236.out 9; have hfz29_10 := blk_frozen BK236.out 10) | ((with_reducible refine gate_callee (f := 12) rfl ?_); refine goesL_ (some 40) rfl rfl Tryd.func12 (by kernel_rfl) rfl #[.string ((rd_T36 l0 x34_3).f5)] rfl (by (try simp only [List.map_toArray, List.map_cons, List.map_nil]); first | done | rfl | (simp only [List.length_drop, List.length_take]; rfl)) ?_; (with_reducible refine (laws_cleanPath.calls k3 ((rd_T36 l0 x34_3).f5) false _ A18.out).mono ?_); rintro e w' ⟨rfl, ⟨nd, rfl⟩⟩; refine ⟨_, rfl, ?_⟩))
                      go_ret
                      exact ⟨by first | rfl | (simp [errW_none, errW_some] <;> rfl) | (simp [*, errW_none, errW_some] <;> rfl), by repeat (first | (with_reducible first | exact HB.out | apply below_alloc | apply pw_below_drewN | apply below_drew1 | refine below_set ?_ GE236.out) | exact HB.out)⟩
                  · rw [if_neg c15] at H
                    have c15b0 : decide (x34_3 < (l0.length : Int)) = false := decide_eq_false c15
                    clear c15
                    obtain ⟨y226, hy226⟩ : ∃ y_ : List ByteArray, y_ = (([a1] : List ByteArray)) := ⟨_, rfl⟩
                    replace H : ((impl_Mounts.f k3 t223 3 y226).bind fun bt229 => (if bt229.2 = 0 then ((laws_sameMounts.f k3 bt229.1 x7_3).bind fun t233 => (if t233 = true then ((laws_mounts.f k3).bind fun t234 => (some t234)) else (some false))) else (some false))) = some r := by first | (rw [hy226]; with_reducible exact H) | (have H2_ := (Option.bind_some _ _).symm.trans H; rw [hy226]; with_reducible exact H2_) | (have H2_ := (Option.bind_some _ _).symm.trans H; with_reducible exact H2_) | with_reducible exact H | (rw [hy226]; exact H) | exact H
                    have Ny226 := Aside0.mk hy226
                    clear hy226
                    replace H := Option.bind_eq_some_iff.mp H
                    obtain ⟨⟨t229, t232⟩, A300, H⟩ := H
                    replace H : (if t232 = 0 then ((laws_sameMounts.f k3 t229 x7_3).bind fun t233 => (if t233 = true then ((laws_mounts.f k3).bind fun t234 => (some t234)) else (some false))) else (some false)) = some r := H
                    have A30 := Aside0.mk A300
                    clear A300
                    by_cases c31 : t232 = 0
                    · rw [if_pos c31] at H
                      have c31b0 : (t232 == 0) = true := beq_iff_eq.mpr c31
                      have c31b1 : (t232 != 0) = false := bne_eq_false_iff_eq.mpr c31
                      clear c31
                      replace H := Option.bind_eq_some_iff.mp H
                      obtain ⟨t233, A320, H⟩ := H
                      replace H : (if t233 = true then ((laws_mounts.f k3).bind fun t234 => (some t234)) else (some false)) = some r := H
                      have A32 := Aside0.mk A320
                      clear A320
                      by_cases c33 : t233 = true
                      · subst c33
                        have H1 : ((laws_mounts.f k3).bind fun t234 => (some t234)) = some r := by rw [if_pos rfl] at H; exact H
                        clear H
                        have H := H1
                        clear H1
                        replace H := Option.bind_eq_some_iff.mp H
                        obtain ⟨t234, A340, H⟩ := H
                        replace H : (some t234) = some r := H
                        have A34 := Aside0.mk A340
                        clear A340
                        obtain rfl := Option.some.inj H
                        go_wp2_with (first | ((with_reducible refine gate_dst (N := 54) rfl ?_); (try (refine gate_guard (by rfl) ?_; dsimp only)); refine Kd.R_lit Kd.string _ 9 ?hg (N := 54) ?hd (xs := ([a1] : List ByteArray)) (inner := [.string a1]) (ok := fun _ => True) (okp := fun _ => True) ?hr ?hp (fun _ hk => hk) trivial (Below.refl _ _) (Nat.le_refl _) (by simp) ?_; (case hd => rfl); (case hg => rfl); (case hr => first | (go_simp; done) | (go_simp; rfl)); (case hp => exact (Reps.one (show Kd.M Kd.string _ _ _ a1 [.string a1] from rfl) (Reps.none _ _))); intro v227 w35 ho36 hb hg_ hnew_; clear hg_ hnew_; (first | rw [← Ny226.out] at ho36 | (simp only [Int.reduceToNat] at ho36; rw [← Ny226.out] at ho36)); have n0_ := Aside0.mk (Kd.R_below (by (with_reducible repeat (first | apply Kd.R_alloc | apply Kd.R_drewN | apply Kd.R_drew)); exact HO_7.out) hb); have n1_ := Aside0.mk (Kd.R_lower ho36 (below_size (by repeat (first | (with_reducible first | exact HB.out | apply below_alloc | apply pw_below_drewN | apply below_drew1) | exact HB.out)))); have n2_ := Aside0.mk (below_step (by repeat (first | (with_reducible first | exact HB.out | apply below_alloc | apply pw_below_drewN | apply below_drew1) | exact HB.out)) hb); clear HO_7; clear HB; have HO_7 := n0_; have HO228 := n1_; have HB := n2_; clear n0_ n1_ n2_; clear hb ho36; obtain ⟨Ao37, co37, eo37⟩ := Kd.R_slice HO228.out; subst eo37) | ((with_reducible refine gate_callee (f := 8) rfl ?_); refine goesL_ (some 56) rfl rfl Tryd.func8 (by kernel_rfl) rfl #[.string t223, .agg #[.int .i64 3, .slice Ao37 y226.length co37]] rfl (by (try simp only [List.map_toArray, List.map_cons, List.map_nil]); first | done | rfl | (simp only [List.length_drop, List.length_take]; rfl)) ?_; (with_reducible refine (impl_Mounts.calls k3 t223 3 _ _ y226 t229 t232 _ ?side1 ?side2 A30.out).mono ?_); (case side1 => repeat (first | exact (Kd.R_reads' HO228.out).2.2 | (with_reducible refine Kd.C_alloc ?_ _) | (with_reducible refine Kd.C_drewN ?_ _) | (with_reducible refine Kd.C_drew ?_))); (case side2 => exact (Kd.R_reads' HO228.out).2.1); rintro e w38 ⟨v230, rfl, ho0, hb⟩; refine ⟨_, rfl, ?_⟩; have n0_ := Aside0.mk (Kd.R_elder' (by (with_reducible repeat (first | apply Kd.R_alloc | apply Kd.R_drewN | apply Kd.R_drew)); exact HO_7.out) (Kd.R_base ho0) hb); have n1_ := Aside0.mk (Kd.R_below (by (with_reducible repeat (first | apply Kd.R_alloc | apply Kd.R_drewN | apply Kd.R_drew)); exact HO228.out) hb); have n2_ := Aside0.mk (Kd.R_lower (Kd.R_new' ho0 (Kd.R_lt (by (with_reducible repeat (first | apply Kd.R_alloc | apply Kd.R_drewN | apply Kd.R_drew)); exact HO_7.out))) (below_size (by repeat (first | (with_reducible first | exact HB.out | apply below_alloc | apply pw_below_drewN | apply below_drew1) | exact HB.out)))); have n3_ := Aside0.mk (below_step (by repeat (first | (with_reducible first | exact HB.out | apply below_alloc | apply pw_below_drewN | apply below_drew1) | exact HB.out)) hb); clear HO_7; clear HO228; clear HB; have HO_7 := n0_; have HO228 := n1_; have HO231 := n2_; have HB := n3_; clear n0_ n1_ n2_ n3_; (try clear hb); (try clear hb2); (try clear hk); (try clear hi); (try clear ho0); obtain ⟨Ao39, co39, eo39⟩ := Kd.R_slice HO231.out; subst eo39; obtain ⟨Ao40, co40, eo40⟩ := Kd.R_slice HO_7.out; subst eo40) | (go_at_call 10; (with_reducible refine (laws_sameMounts.calls k3 _ _ t229 _ _ x7_3 true _ ?side1 ?side2 ?side3 ?side4 A32.out).mono ?_); (case side1 => repeat (first | exact (Kd.R_reads' HO231.out).2.2 | (with_reducible refine Kd.C_alloc ?_ _) | (with_reducible refine Kd.C_drewN ?_ _) | (with_reducible refine Kd.C_drew ?_))); (case side2 => exact (Kd.R_reads' HO231.out).2.1); (case side3 => repeat (first | exact (Kd.R_reads' HO_7.out).2.2 | (with_reducible refine Kd.C_alloc ?_ _) | (with_reducible refine Kd.C_drewN ?_ _) | (with_reducible refine Kd.C_drew ?_))); (case side4 => exact (Kd.R_reads' HO_7.out).2.1); rintro e w' ⟨rfl, ⟨nd, rfl⟩⟩) | (go_at_call 11; (with_reducible refine (laws_mounts.calls k3  t234 _ A34.out).mono ?_); rintro e w41 ⟨rfl, hb⟩; have n0_ := Aside0.mk (Kd.R_below (by (with_reducible repeat (first | apply Kd.R_alloc | apply Kd.R_drewN | apply Kd.R_drew)); exact HO_7.out) hb); have n1_ := Aside0.mk (Kd.R_below (by (with_reducible repeat (first | apply Kd.R_alloc | apply Kd.R_drewN | apply Kd.R_drew)); exact HO228.out) hb); have n2_ := Aside0.mk (Kd.R_below (by (with_reducible repeat (first | apply Kd.R_alloc | apply Kd.R_drewN | apply Kd.R_drew)); exact HO231.out) hb); have n3_ := Aside0.mk (below_step (by repeat (first | (with_reducible first | exact HB.out | apply below_alloc | apply pw_below_drewN | apply below_drew1) | exact HB.out)) hb); clear HO_7; clear HO228; clear HO231; clear HB; have HO_7 := n0_; have HO228 := n1_; have HO231 := n2_; have HB := n3_; clear n0_ n1_ n2_ n3_; (try clear hb); (try clear hb2); (try clear hk); (try clear hi)))
                        go_ret
                        exact ⟨by first | rfl | (simp [errW_none, errW_some] <;> rfl) | (simp [*, errW_none, errW_some] <;> rfl), by repeat (first | (with_reducible first | exact HB.out | apply below_alloc | apply pw_below_drewN | apply below_drew1) | exact HB.out)⟩
                      · replace c33 := Bool.eq_false_iff.mpr c33
                        subst c33
                        have H1 : (some false) = some r := by rw [if_neg (show ¬ (false = true) by decide)] at H; exact H
                        clear H
                        have H := H1
                        clear H1
                        obtain rfl := Option.some.inj H
                        go_wp2_with (first | ((with_reducible refine gate_dst (N := 54) rfl ?_); (try (refine gate_guard (by rfl) ?_; dsimp only)); refine Kd.R_lit Kd.string _ 9 ?hg (N := 54) ?hd (xs := ([a1] : List ByteArray)) (inner := [.string a1]) (ok := fun _ => True) (okp := fun _ => True) ?hr ?hp (fun _ hk => hk) trivial (Below.refl _ _) (Nat.le_refl _) (by simp) ?_; (case hd => rfl); (case hg => rfl); (case hr => first | (go_simp; done) | (go_simp; rfl)); (case hp => exact (Reps.one (show Kd.M Kd.string _ _ _ a1 [.string a1] from rfl) (Reps.none _ _))); intro v227 w42 ho43 hb hg_ hnew_; clear hg_ hnew_; (first | rw [← Ny226.out] at ho43 | (simp only [Int.reduceToNat] at ho43; rw [← Ny226.out] at ho43)); have n0_ := Aside0.mk (Kd.R_below (by (with_reducible repeat (first | apply Kd.R_alloc | apply Kd.R_drewN | apply Kd.R_drew)); exact HO_7.out) hb); have n1_ := Aside0.mk (Kd.R_lower ho43 (below_size (by repeat (first | (with_reducible first | exact HB.out | apply below_alloc | apply pw_below_drewN | apply below_drew1) | exact HB.out)))); have n2_ := Aside0.mk (below_step (by repeat (first | (with_reducible first | exact HB.out | apply below_alloc | apply pw_below_drewN | apply below_drew1) | exact HB.out)) hb); clear HO_7; clear HB; have HO_7 := n0_; have HO228 := n1_; have HB := n2_; clear n0_ n1_ n2_; clear hb ho43; obtain ⟨Ao44, co44, eo44⟩ := Kd.R_slice HO228.out; subst eo44) | ((with_reducible refine gate_callee (f := 8) rfl ?_); refine goesL_ (some 56) rfl rfl Tryd.func8 (by kernel_rfl) rfl #[.string t223, .agg #[.int .i64 3, .slice Ao44 y226.length co44]] rfl (by (try simp only [List.map_toArray, List.map_cons, List.map_nil]); first | done | rfl | (simp only [List.length_drop, List.length_take]; rfl)) ?_; (with_reducible refine (impl_Mounts.calls k3 t223 3 _ _ y226 t229 t232 _ ?side1 ?side2 A30.out).mono ?_); (case side1 => repeat (first | exact (Kd.R_reads' HO228.out).2.2 | (with_reducible refine Kd.C_alloc ?_ _) | (with_reducible refine Kd.C_drewN ?_ _) | (with_reducible refine Kd.C_drew ?_))); (case side2 => exact (Kd.R_reads' HO228.out).2.1); rintro e w45 ⟨v230, rfl, ho0, hb⟩; refine ⟨_, rfl, ?_⟩; have n0_ := Aside0.mk (Kd.R_elder' (by (with_reducible repeat (first | apply Kd.R_alloc | apply Kd.R_drewN | apply Kd.R_drew)); exact HO_7.out) (Kd.R_base ho0) hb); have n1_ := Aside0.mk (Kd.R_below (by (with_reducible repeat (first | apply Kd.R_alloc | apply Kd.R_drewN | apply Kd.R_drew)); exact HO228.out) hb); have n2_ := Aside0.mk (Kd.R_lower (Kd.R_new' ho0 (Kd.R_lt (by (with_reducible repeat (first | apply Kd.R_alloc | apply Kd.R_drewN | apply Kd.R_drew)); exact HO_7.out))) (below_size (by repeat (first | (with_reducible first | exact HB.out | apply below_alloc | apply pw_below_drewN | apply below_drew1) | exact HB.out)))); have n3_ := Aside0.mk (below_step (by repeat (first | (with_reducible first | exact HB.out | apply below_alloc | apply pw_below_drewN | apply below_drew1) | exact HB.out)) hb); clear HO_7; clear HO228; clear HB; have HO_7 := n0_; have HO228 := n1_; have HO231 := n2_; have HB := n3_; clear n0_ n1_ n2_ n3_; (try clear hb); (try clear hb2); (try clear hk); (try clear hi); (try clear ho0); obtain ⟨Ao46, co46, eo46⟩ := Kd.R_slice HO231.out; subst eo46; obtain ⟨Ao47, co47, eo47⟩ := Kd.R_slice HO_7.out; subst eo47) | (go_at_call 10; (with_reducible refine (laws_sameMounts.calls k3 _ _ t229 _ _ x7_3 false _ ?side1 ?side2 ?side3 ?side4 A32.out).mono ?_); (case side1 => repeat (first | exact (Kd.R_reads' HO231.out).2.2 | (with_reducible refine Kd.C_alloc ?_ _) | (with_reducible refine Kd.C_drewN ?_ _) | (with_reducible refine Kd.C_drew ?_))); (case side2 => exact (Kd.R_reads' HO231.out).2.1); (case side3 => repeat (first | exact (Kd.R_reads' HO_7.out).2.2 | (with_reducible refine Kd.C_alloc ?_ _) | (with_reducible refine Kd.C_drewN ?_ _) | (with_reducible refine Kd.C_drew ?_))); (case side4 => exact (Kd.R_reads' HO_7.out).2.1); rintro e w' ⟨rfl, ⟨nd, rfl⟩⟩))
                        go_ret
                        exact ⟨by first | rfl | (simp [errW_none, errW_some] <;> rfl) | (simp [*, errW_none, errW_some] <;> rfl), by repeat (first | (with_reducible first | exact HB.out | apply below_alloc | apply pw_below_drewN | apply below_drew1) | exact HB.out)⟩
                    · rw [if_neg c31] at H
                      have c31b0 : (t232 == 0) = false := beq_eq_false_iff_ne.mpr c31
                      have c31b1 : (t232 != 0) = true := bne_iff_ne.mpr c31
                      obtain rfl := Option.some.inj H
                      go_wp2_with (first | ((with_reducible refine gate_dst (N := 54) rfl ?_); (try (refine gate_guard (by rfl) ?_; dsimp only)); refine Kd.R_lit Kd.string _ 9 ?hg (N := 54) ?hd (xs := ([a1] : List ByteArray)) (inner := [.string a1]) (ok := fun _ => True) (okp := fun _ => True) ?hr ?hp (fun _ hk => hk) trivial (Below.refl _ _) (Nat.le_refl _) (by simp) ?_; (case hd => rfl); (case hg => rfl); (case hr => first | (go_simp; done) | (go_simp; rfl)); (case hp => exact (Reps.one (show Kd.M Kd.string _ _ _ a1 [.string a1] from rfl) (Reps.none _ _))); intro v227 w48 ho49 hb hg_ hnew_; clear hg_ hnew_; (first | rw [← Ny226.out] at ho49 | (simp only [Int.reduceToNat] at ho49; rw [← Ny226.out] at ho49)); have n0_ := Aside0.mk (Kd.R_below (by (with_reducible repeat (first | apply Kd.R_alloc | apply Kd.R_drewN | apply Kd.R_drew)); exact HO_7.out) hb); have n1_ := Aside0.mk (Kd.R_lower ho49 (below_size (by repeat (first | (with_reducible first | exact HB.out | apply below_alloc | apply pw_below_drewN | apply below_drew1) | exact HB.out)))); have n2_ := Aside0.mk (below_step (by repeat (first | (with_reducible first | exact HB.out | apply below_alloc | apply pw_below_drewN | apply below_drew1) | exact HB.out)) hb); clear HO_7; clear HB; have HO_7 := n0_; have HO228 := n1_; have HB := n2_; clear n0_ n1_ n2_; clear hb ho49; obtain ⟨Ao50, co50, eo50⟩ := Kd.R_slice HO228.out; subst eo50) | ((with_reducible refine gate_callee (f := 8) rfl ?_); refine goesL_ (some 56) rfl rfl Tryd.func8 (by kernel_rfl) rfl #[.string t223, .agg #[.int .i64 3, .slice Ao50 y226.length co50]] rfl (by (try simp only [List.map_toArray, List.map_cons, List.map_nil]); first | done | rfl | (simp only [List.length_drop, List.length_take]; rfl)) ?_; (with_reducible refine (impl_Mounts.calls k3 t223 3 _ _ y226 t229 t232 _ ?side1 ?side2 A30.out).mono ?_); (case side1 => repeat (first | exact (Kd.R_reads' HO228.out).2.2 | (with_reducible refine Kd.C_alloc ?_ _) | (with_reducible refine Kd.C_drewN ?_ _) | (with_reducible refine Kd.C_drew ?_))); (case side2 => exact (Kd.R_reads' HO228.out).2.1); rintro e w51 ⟨v230, rfl, ho0, hb⟩; refine ⟨_, rfl, ?_⟩; have n0_ := Aside0.mk (Kd.R_elder' (by (with_reducible repeat (first | apply Kd.R_alloc | apply Kd.R_drewN | apply Kd.R_drew)); exact HO_7.out) (Kd.R_base ho0) hb); have n1_ := Aside0.mk (Kd.R_below (by (with_reducible repeat (first | apply Kd.R_alloc | apply Kd.R_drewN | apply Kd.R_drew)); exact HO228.out) hb); have n2_ := Aside0.mk (Kd.R_lower (Kd.R_new' ho0 (Kd.R_lt (by (with_reducible repeat (first | apply Kd.R_alloc | apply Kd.R_drewN | apply Kd.R_drew)); exact HO_7.out))) (below_size (by repeat (first | (with_reducible first | exact HB.out | apply below_alloc | apply pw_below_drewN | apply below_drew1) | exact HB.out)))); have n3_ := Aside0.mk (below_step (by repeat (first | (with_reducible first | exact HB.out | apply below_alloc | apply pw_below_drewN | apply below_drew1) | exact HB.out)) hb); clear HO_7; clear HO228; clear HB; have HO_7 := n0_; have HO228 := n1_; have HO231 := n2_; have HB := n3_; clear n0_ n1_ n2_ n3_; (try clear hb); (try clear hb2); (try clear hk); (try clear hi); (try clear ho0)))
                      go_ret
                      exact ⟨by first | rfl | (simp [errW_none, errW_some] <;> rfl) | (simp [*, errW_none, errW_some] <;> rfl), by repeat (first | (with_reducible first | exact HB.out | apply below_alloc | apply pw_below_drewN | apply below_drew1) | exact HB.out)⟩

/-! ### laws_zzFits4: function 14 -/
def laws_zzFits4.l0 : Nat → List ByteArray → Int → Int → Option (Bool)
  | 0, _, _, _ => none
  | k + 1, x8, x9, x10 => if x10 < x9 then (if 0 ≤ x10 then (if x10 < (x8.length : Int) then (if ((rdOf ByteArray.empty x8 x10).size : Int) > 2147483647 then (some false) else (laws_zzFits4.l0 k x8 x9 (wrap64 (x10 + 1)))) else (none)) else (none)) else (some true)
def laws_zzFits4.f (k : Nat) (l0 : List ByteArray) : Option (Bool) := if (l0.length : Int) > 2147483647 then (some false) else (laws_zzFits4.l0 k l0 (l0.length : Int) 0)
theorem laws_zzFits4.mono_l : ∀ k, (∀ y0 y1 y2, LeO (laws_zzFits4.l0 k y0 y1 y2) (laws_zzFits4.l0 (k + 1) y0 y1 y2))
  | 0 => fun _ _ _ r h => by simp [laws_zzFits4.l0] at h
  | k + 1 => by
    have ih0 := laws_zzFits4.mono_l k
    · intro y0 y1 y2
      unfold laws_zzFits4.l0
      repeat' first
      | (with_reducible exact ih0 _ _ _)
      | (with_reducible exact LeO.refl _)
      | (with_reducible exact LeO.none _)
      | (with_reducible refine LeO.ite ?_ ?_)
      | (with_reducible refine LeO.bind ?_ (fun _ => ?_))
      | exact ih0 _ _ _
      | exact LeO.none _
      | refine LeO.ite ?_ ?_
      | refine LeO.bind ?_ (fun _ => ?_)
theorem laws_zzFits4.mono : ∀ a0 k, LeO (laws_zzFits4.f k a0) (laws_zzFits4.f (k + 1) a0) := by
  intro a0 k
  have ih0 := laws_zzFits4.mono_l k
  unfold laws_zzFits4.f
  repeat' first
      | (with_reducible exact ih0 _ _ _)
      | (with_reducible exact LeO.refl _)
      | (with_reducible exact LeO.none _)
      | (with_reducible refine LeO.ite ?_ ?_)
      | (with_reducible refine LeO.bind ?_ (fun _ => ?_))
      | exact ih0 _ _ _
      | exact LeO.none _
      | refine LeO.ite ?_ ?_
      | refine LeO.bind ?_ (fun _ => ?_)
set_option maxHeartbeats 8000000 in
set_option maxRecDepth 100000 in
theorem laws_zzFits4.calls (k : Nat) (A0 : Option Addr) (c0 : Nat) (l0 : List ByteArray) (r : Bool) (w : World) (hr0 : Kd.C Kd.string w A0 l0.length l0) (hc0 : l0.length ≤ c0) (h : laws_zzFits4.f k l0 = some r) :
    Calls Tryd.prog 14 #[.slice A0 l0.length c0] w fun e w' => e = .returned (.bool r) ∧ Drawn0 w w' := by
  have HR0 := Aside0.mk hr0
  have HC0 := Aside0.mk hc0
  clear hr0 hc0
  have H : (if (l0.length : Int) > 2147483647 then (some false) else (laws_zzFits4.l0 k l0 (l0.length : Int) 0)) = some r := h
  clear h
  by_cases c2 : (l0.length : Int) > 2147483647
  · rw [if_pos c2] at H
    have c2b0 : decide (2147483647 < (l0.length : Int)) = true := decide_eq_true c2
    have c2b1 : decide (2147483647 < l0.length) = true := decide_eq_true (by omega)
    clear c2
    obtain rfl := Option.some.inj H
    go_enter Tryd.func14, Tryd.ntmps14
    go_wp2
    go_ret
    exact ⟨by first | rfl | (simp; done) | (simp [*]; done), by repeat (first | exact Drawn0.refl _ | apply Drawn0.step)⟩
  · rw [if_neg c2] at H
    have c2b0 : decide (2147483647 < (l0.length : Int)) = false := decide_eq_false c2
    have c2b1 : decide (2147483647 < l0.length) = false := decide_eq_false (by omega)
    clear c2
    have H' := Aside0.mk H
    clear H
    go_enter Tryd.func14, Tryd.ntmps14
    go_wp2
    go_loopg [10] k (fun kq v10 w' => ∃ (x10_1 : Int), v10 = .int .i64 x10_1 ∧ Aside0 (laws_zzFits4.l0 kq l0 (l0.length : Int) x10_1 = some r) ∧ Aside0 (kq ≤ k) ∧ Drawn0 w w')
    case atStart => exact ⟨(0), (by first | rfl | (simp; done) | (simp [*]; done)), H', ⟨Nat.le_refl _⟩, by repeat (first | exact Drawn0.refl _ | apply Drawn0.step)⟩
    case round =>
      clear H'
      try clear c1
      try clear c2
      try clear c2b0
      try clear c2b1
      try clear p2
      obtain ⟨x10_1, rfl, HA, HK1, ⟨m1, rfl⟩⟩ := hrel
      cases gk with
      | zero => exact absurd HA.out (by simp [laws_zzFits4.l0])
      | succ k1 =>
        have H := HA.out
        clear HA
        simp only [laws_zzFits4.l0] at H
        by_cases c3 : x10_1 < (l0.length : Int)
        · rw [if_pos c3] at H
          have c3b0 : decide (x10_1 < (l0.length : Int)) = true := decide_eq_true c3
          clear c3
          replace H := guard_inv H
          obtain ⟨c4, H⟩ := H
          have c4b0 : decide (0 ≤ x10_1) = true := decide_eq_true c4
          clear c4
          replace H := guard_inv H
          obtain ⟨c5, H⟩ := H
          have c5b0 : decide (x10_1 < (l0.length : Int)) = true := decide_eq_true c5
          clear c5
          by_cases c6 : ((rdOf ByteArray.empty l0 x10_1).size : Int) > 2147483647
          · rw [if_pos c6] at H
            have c6b0 : decide (2147483647 < ((rdOf ByteArray.empty l0 x10_1).size : Int)) = true := decide_eq_true c6
            have c6b1 : decide (2147483647 < (rdOf ByteArray.empty l0 x10_1).size) = true := decide_eq_true (by omega)
            clear c6
            obtain rfl := Option.some.inj H
            have p242 : 0 ≤ (x10_1 : Int) := of_decide_eq_true (by first | (with_reducible assumption) | assumption)
            have q242 : x10_1 < (l0.length : Int) := of_decide_eq_true (by first | (with_reducible assumption) | assumption)
            obtain ⟨ad242, e242, hx242_0⟩ := Kd.at_string HR0.out x10_1 p242 q242
            cases e242
            replace p242 := eq_true p242
            replace q242 := eq_true q242
            go_wp2
            go_ret
            exact ⟨by first | rfl | (simp; done) | (simp [*]; done), by repeat (first | exact Drawn0.refl _ | apply Drawn0.step)⟩
          · rw [if_neg c6] at H
            have c6b0 : decide (2147483647 < ((rdOf ByteArray.empty l0 x10_1).size : Int)) = false := decide_eq_false c6
            have c6b1 : decide (2147483647 < (rdOf ByteArray.empty l0 x10_1).size) = false := decide_eq_false (by omega)
            clear c6
            have H' := Aside0.mk H
            clear H
            have p242 : 0 ≤ (x10_1 : Int) := of_decide_eq_true (by first | (with_reducible assumption) | assumption)
            have q242 : x10_1 < (l0.length : Int) := of_decide_eq_true (by first | (with_reducible assumption) | assumption)
            obtain ⟨ad242, e242, hx242_0⟩ := Kd.at_string HR0.out x10_1 p242 q242
            cases e242
            replace p242 := eq_true p242
            replace q242 := eq_true q242
            go_wp2
            go_roundg k1
            case measure => have := HK1.out; omega
            case rel => exact ⟨(wrap64 (x10_1 + 1)), (by first | rfl | (simp; done) | (simp [*]; done)), H', ⟨by have := HK1.out; omega⟩, by repeat (first | exact Drawn0.refl _ | apply Drawn0.step)⟩
        · rw [if_neg c3] at H
          have c3b0 : decide (x10_1 < (l0.length : Int)) = false := decide_eq_false c3
          clear c3
          obtain rfl := Option.some.inj H
          go_wp2
          go_ret
          exact ⟨by first | rfl | (simp; done) | (simp [*]; done), by repeat (first | exact Drawn0.refl _ | apply Drawn0.step)⟩

end Go.Proofs.YtdmccakncgdbhaaDoor.GMA
