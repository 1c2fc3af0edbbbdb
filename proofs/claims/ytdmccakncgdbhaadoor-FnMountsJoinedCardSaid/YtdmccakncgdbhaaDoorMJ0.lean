/- laws.FnMountsJoined printed (gprint.py, key MJ): what it answers, and its walk. No condition. -/
import Derived.Test.YtdmccakncgdbhaaDoorGMAx8
namespace Go.Proofs.YtdmccakncgdbhaaDoor.GMA
open Go.RowKit Go.Proofs.YtdmccakncgdbhaaDoorW.PrintWords Go.Proofs.YtdmccakncgdbhaaDoorW.PrintLast Go.Proofs.YtdmccakncgdbhaaDoorW.PrintMore
attribute [local go_sem] max2_int min2_int max_two min_two max_three min_three max_four min_four   -- for this text's walks alone
set_option linter.unusedVariables false
set_option linter.unusedSimpArgs false

attribute [local go_sem high] eqA36
/-! ### laws_FnMountsJoined: function 3 -/
mutual
def laws_FnMountsJoined.j0 : Nat → List (S36) → List (S36) → Bool → Option (Bool)
  | 0, _, _, _ => none
  | k + 1, x0, x1, x18 => if x18 = true then (some true) else ((laws_printed.f k x0).bind fun bt208 => ((laws_printed.f k x1).bind fun bt210 => (if bt208.2 = true then (laws_FnMountsJoined.j1 k x0 x1 bt208.1 bt210.1 (!bt210.2)) else (laws_FnMountsJoined.j1 k x0 x1 bt208.1 bt210.1 true))))
def laws_FnMountsJoined.j1 : Nat → List (S36) → List (S36) → ByteArray → ByteArray → Bool → Option (Bool)
  | 0, _, _, _, _, _ => none
  | k + 1, x0, x1, x5, x7, x34 => if x34 = true then (some true) else (if x5.size + x7.size ≤ 9223372036854775807 then ((laws_all.f).bind fun bt212 => ((impl_Mounts.f k (x5 ++ x7) bt212.1 bt212.2).bind fun bt216 => (if bt216.2 = 0 then (if ([] : List (S36)).length + x0.length < 977343669134 then ((some (([] : List (S36)) ++ x0 : List (S36))).bind fun y220 => (if y220.length + x1.length < 977343669134 then ((laws_sameMounts.f k bt216.1 (y220 ++ x1)).bind fun t226 => (if t226 = true then ((laws_mounts.f k).bind fun t227 => (some t227)) else (some false))) else (none))) else (none)) else (some false)))) else (none))
end
def laws_FnMountsJoined.f (k : Nat) (l0 : List (S36)) (l1 : List (S36)) : Option (Bool) := (laws_zzFits1.f k l0).bind fun t206 => (if t206 = true then ((laws_zzFits1.f k l1).bind fun t207 => (laws_FnMountsJoined.j0 k l0 l1 (!t207))) else (laws_FnMountsJoined.j0 k l0 l1 true))
theorem laws_FnMountsJoined.mono_l : ∀ k, (∀ y0 y1 y2, LeO (laws_FnMountsJoined.j0 k y0 y1 y2) (laws_FnMountsJoined.j0 (k + 1) y0 y1 y2)) ∧ (∀ y0 y1 y2 y3 y4, LeO (laws_FnMountsJoined.j1 k y0 y1 y2 y3 y4) (laws_FnMountsJoined.j1 (k + 1) y0 y1 y2 y3 y4))
  | 0 => ⟨fun _ _ _ r h => by simp [laws_FnMountsJoined.j0] at h, fun _ _ _ _ _ r h => by simp [laws_FnMountsJoined.j1] at h⟩
  | k + 1 => by
    obtain ⟨ih0, ih1⟩ := laws_FnMountsJoined.mono_l k
    refine ⟨?_, ?_⟩
    · intro y0 y1 y2
      unfold laws_FnMountsJoined.j0
      repeat' first
      | (with_reducible exact ih0 _ _ _)
      | (with_reducible exact ih1 _ _ _ _ _)
      | (with_reducible exact impl_Mounts.mono _ _ _ _)
      | (with_reducible exact laws_mounts.mono _)
      | (with_reducible exact laws_printed.mono _ _)
      | (with_reducible exact laws_sameMounts.mono _ _ _)
      | (with_reducible exact laws_zzFits1.mono _ _)
      | (with_reducible exact LeO.refl _)
      | (with_reducible exact LeO.none _)
      | (with_reducible refine LeO.ite ?_ ?_)
      | (with_reducible refine LeO.bind ?_ (fun _ => ?_))
      | exact ih0 _ _ _
      | exact ih1 _ _ _ _ _
      | exact impl_Mounts.mono _ _ _ _
      | exact laws_mounts.mono _
      | exact laws_printed.mono _ _
      | exact laws_sameMounts.mono _ _ _
      | exact laws_zzFits1.mono _ _
      | exact LeO.none _
      | refine LeO.ite ?_ ?_
      | refine LeO.bind ?_ (fun _ => ?_)
    · intro y0 y1 y2 y3 y4
      unfold laws_FnMountsJoined.j1
      repeat' first
      | (with_reducible exact ih0 _ _ _)
      | (with_reducible exact ih1 _ _ _ _ _)
      | (with_reducible exact impl_Mounts.mono _ _ _ _)
      | (with_reducible exact laws_mounts.mono _)
      | (with_reducible exact laws_printed.mono _ _)
      | (with_reducible exact laws_sameMounts.mono _ _ _)
      | (with_reducible exact laws_zzFits1.mono _ _)
      | (with_reducible exact LeO.refl _)
      | (with_reducible exact LeO.none _)
      | (with_reducible refine LeO.ite ?_ ?_)
      | (with_reducible refine LeO.bind ?_ (fun _ => ?_))
      | exact ih0 _ _ _
      | exact ih1 _ _ _ _ _
      | exact impl_Mounts.mono _ _ _ _
      | exact laws_mounts.mono _
      | exact laws_printed.mono _ _
      | exact laws_sameMounts.mono _ _ _
      | exact laws_zzFits1.mono _ _
      | exact LeO.none _
      | refine LeO.ite ?_ ?_
      | refine LeO.bind ?_ (fun _ => ?_)
theorem laws_FnMountsJoined.mono : ∀ a0 a1 k, LeO (laws_FnMountsJoined.f k a0 a1) (laws_FnMountsJoined.f (k + 1) a0 a1) := by
  intro a0 a1 k
  obtain ⟨ih0, ih1⟩ := laws_FnMountsJoined.mono_l k
  unfold laws_FnMountsJoined.f
  repeat' first
      | (with_reducible exact ih0 _ _ _)
      | (with_reducible exact ih1 _ _ _ _ _)
      | (with_reducible exact impl_Mounts.mono _ _ _ _)
      | (with_reducible exact laws_mounts.mono _)
      | (with_reducible exact laws_printed.mono _ _)
      | (with_reducible exact laws_sameMounts.mono _ _ _)
      | (with_reducible exact laws_zzFits1.mono _ _)
      | (with_reducible exact LeO.refl _)
      | (with_reducible exact LeO.none _)
      | (with_reducible refine LeO.ite ?_ ?_)
      | (with_reducible refine LeO.bind ?_ (fun _ => ?_))
      | exact ih0 _ _ _
      | exact ih1 _ _ _ _ _
      | exact impl_Mounts.mono _ _ _ _
      | exact laws_mounts.mono _
      | exact laws_printed.mono _ _
      | exact laws_sameMounts.mono _ _ _
      | exact laws_zzFits1.mono _ _
      | exact LeO.none _
      | refine LeO.ite ?_ ?_
      | refine LeO.bind ?_ (fun _ => ?_)
set_option maxHeartbeats 8000000 in
set_option maxRecDepth 100000 in
theorem laws_FnMountsJoined.calls (k : Nat) (A0 : Option Addr) (c0 : Nat) (l0 : List (S36)) (A1 : Option Addr) (c1 : Nat) (l1 : List (S36)) (r : Bool) (w : World) (hr0 : Kd.C k36 w A0 l0.length l0) (hc0 : l0.length ≤ c0) (hr1 : Kd.C k36 w A1 l1.length l1) (hc1 : l1.length ≤ c1) (h : laws_FnMountsJoined.f k l0 l1 = some r) :
    Calls Tryd.prog 3 #[.slice A0 l0.length c0, .slice A1 l1.length c1] w fun e w' => e = .returned (.bool r) ∧ Below w.heap.size w w' := by
  have HR0 := Aside0.mk hr0
  have HC0 := Aside0.mk hc0
  clear hr0 hc0
  have HR1 := Aside0.mk hr1
  have HC1 := Aside0.mk hc1
  clear hr1 hc1
  have HB := Aside0.mk (Below.refl w.heap.size w)
  have H : ((laws_zzFits1.f k l0).bind fun t206 => (if t206 = true then ((laws_zzFits1.f k l1).bind fun t207 => (laws_FnMountsJoined.j0 k l0 l1 (!t207))) else (laws_FnMountsJoined.j0 k l0 l1 true))) = some r := h
  clear h
  have HC3 := Aside0.mk H
  clear H
  go_enter Tryd.func3, Tryd.ntmps3
  go_upto_region 1 with (fail)
  go_cut [18] (fun v18 wc => ∃ (kq : Nat) (x18_2 : Bool), v18 = .bool x18_2 ∧ Aside0 (laws_FnMountsJoined.j0 kq l0 l1 x18_2 = some r) ∧ Aside0 (kq ≤ k) ∧ Aside0 (Below w.heap.size w wc))
  case first =>
    have H := HC3.out
    clear HC3
    replace H := Option.bind_eq_some_iff.mp H
    obtain ⟨t206, A40, H⟩ := H
    replace H : (if t206 = true then ((laws_zzFits1.f k l1).bind fun t207 => (laws_FnMountsJoined.j0 k l0 l1 (!t207))) else (laws_FnMountsJoined.j0 k l0 l1 true)) = some r := H
    have A4 := Aside0.mk A40
    clear A40
    by_cases c5 : t206 = true
    · subst c5
      have H1 : ((laws_zzFits1.f k l1).bind fun t207 => (laws_FnMountsJoined.j0 k l0 l1 (!t207))) = some r := by rw [if_pos rfl] at H; exact H
      clear H
      have H := H1
      clear H1
      replace H := Option.bind_eq_some_iff.mp H
      obtain ⟨t207, A60, H⟩ := H
      replace H : (laws_FnMountsJoined.j0 k l0 l1 (!t207)) = some r := H
      have A6 := Aside0.mk A60
      clear A60
      have H' := Aside0.mk H
      clear H
      go_wp2_with (first | ((with_reducible refine gate_callee (f := 6) rfl ?_); refine goesL_ (some 12) rfl rfl Tryd.func6 (by kernel_rfl) rfl #[.slice A0 l0.length c0] rfl (by (try simp only [List.map_toArray, List.map_cons, List.map_nil]); first | done | rfl | (simp only [List.length_drop, List.length_take]; rfl)) ?_; (with_reducible refine (laws_zzFits1.calls k _ _ l0 true _ ?side1 ?side2 A4.out).mono ?_); (case side1 => repeat (first | exact (Kd.C_below HR0.out HB.out) | (with_reducible refine Kd.C_alloc ?_ _) | (with_reducible refine Kd.C_drewN ?_ _) | (with_reducible refine Kd.C_drew ?_))); (case side2 => exact HC0.out); rintro e w7 ⟨rfl, hb⟩; refine ⟨_, rfl, ?_⟩; have n0_ := Aside0.mk (below_step (by repeat (first | (with_reducible first | exact HB.out | apply below_alloc | apply pw_below_drewN | apply below_drew1) | exact HB.out)) hb); clear HB; have HB := n0_; clear n0_; (try clear hb); (try clear hb2); (try clear hk); (try clear hi)) | (go_at_call 6; (with_reducible refine (laws_zzFits1.calls k _ _ l1 t207 _ ?side1 ?side2 A6.out).mono ?_); (case side1 => repeat (first | exact (Kd.C_below HR1.out HB.out) | (with_reducible refine Kd.C_alloc ?_ _) | (with_reducible refine Kd.C_drewN ?_ _) | (with_reducible refine Kd.C_drew ?_))); (case side2 => exact HC1.out); rintro e w8 ⟨rfl, hb⟩; have n0_ := Aside0.mk (below_step (by repeat (first | (with_reducible first | exact HB.out | apply below_alloc | apply pw_below_drewN | apply below_drew1) | exact HB.out)) hb); clear HB; have HB := n0_; clear n0_; (try clear hb); (try clear hb2); (try clear hk); (try clear hi)))
      go_meet
      case rel => exact ⟨_, (!t207), (by first | rfl | (simp; done) | (simp [*]; done)), H', ⟨by first | omega | exact Nat.le_refl _⟩, ⟨by repeat (first | (with_reducible first | exact HB.out | apply below_alloc | apply pw_below_drewN | apply below_drew1) | exact HB.out)⟩⟩
    · replace c5 := Bool.eq_false_iff.mpr c5
      subst c5
      have H1 : (laws_FnMountsJoined.j0 k l0 l1 true) = some r := by rw [if_neg (show ¬ (false = true) by decide)] at H; exact H
      clear H
      have H := H1
      clear H1
      have H' := Aside0.mk H
      clear H
      go_wp2_with (first | ((with_reducible refine gate_callee (f := 6) rfl ?_); refine goesL_ (some 12) rfl rfl Tryd.func6 (by kernel_rfl) rfl #[.slice A0 l0.length c0] rfl (by (try simp only [List.map_toArray, List.map_cons, List.map_nil]); first | done | rfl | (simp only [List.length_drop, List.length_take]; rfl)) ?_; (with_reducible refine (laws_zzFits1.calls k _ _ l0 false _ ?side1 ?side2 A4.out).mono ?_); (case side1 => repeat (first | exact (Kd.C_below HR0.out HB.out) | (with_reducible refine Kd.C_alloc ?_ _) | (with_reducible refine Kd.C_drewN ?_ _) | (with_reducible refine Kd.C_drew ?_))); (case side2 => exact HC0.out); rintro e w9 ⟨rfl, hb⟩; refine ⟨_, rfl, ?_⟩; have n0_ := Aside0.mk (below_step (by repeat (first | (with_reducible first | exact HB.out | apply below_alloc | apply pw_below_drewN | apply below_drew1) | exact HB.out)) hb); clear HB; have HB := n0_; clear n0_; (try clear hb); (try clear hb2); (try clear hk); (try clear hi)))
      go_meet
      case rel => exact ⟨_, (true), (by first | rfl | (simp; done) | (simp [*]; done)), H', ⟨by first | omega | exact Nat.le_refl _⟩, ⟨by repeat (first | (with_reducible first | exact HB.out | apply below_alloc | apply pw_below_drewN | apply below_drew1) | exact HB.out)⟩⟩
  case rest =>
    clear HC3
    try clear c1
    try clear p2
    try clear c3
    try clear c5
    try clear c6
    obtain ⟨kq, x18_2, rfl, HA, HJ2, HB⟩ := hcut
    cases kq with
    | zero => exact absurd HA.out (by simp [laws_FnMountsJoined.j0])
    | succ kj2 =>
      have H := HA.out
      clear HA
      simp only [laws_FnMountsJoined.j0] at H
      by_cases c10 : x18_2 = true
      · subst c10
        have H1 : (some true) = some r := by rw [if_pos rfl] at H; exact H
        clear H
        have H := H1
        clear H1
        obtain rfl := Option.some.inj H
        go_wp2
        go_ret
        exact ⟨by first | rfl | (simp [errW_none, errW_some] <;> rfl) | (simp [*, errW_none, errW_some] <;> rfl), by repeat (first | (with_reducible first | exact HB.out | apply below_alloc | apply pw_below_drewN | apply below_drew1) | exact HB.out)⟩
      · replace c10 := Bool.eq_false_iff.mpr c10
        subst c10
        have H1 : ((laws_printed.f kj2 l0).bind fun bt208 => ((laws_printed.f kj2 l1).bind fun bt210 => (if bt208.2 = true then (laws_FnMountsJoined.j1 kj2 l0 l1 bt208.1 bt210.1 (!bt210.2)) else (laws_FnMountsJoined.j1 kj2 l0 l1 bt208.1 bt210.1 true)))) = some r := by rw [if_neg (show ¬ (false = true) by decide)] at H; exact H
        clear H
        have H := H1
        clear H1
        replace H := Option.bind_eq_some_iff.mp H
        obtain ⟨⟨t208, t209⟩, A110, H⟩ := H
        replace H : ((laws_printed.f kj2 l1).bind fun bt210 => (if t209 = true then (laws_FnMountsJoined.j1 kj2 l0 l1 t208 bt210.1 (!bt210.2)) else (laws_FnMountsJoined.j1 kj2 l0 l1 t208 bt210.1 true))) = some r := H
        have A11 := Aside0.mk A110
        clear A110
        replace H := Option.bind_eq_some_iff.mp H
        obtain ⟨⟨t210, t211⟩, A120, H⟩ := H
        replace H : (if t209 = true then (laws_FnMountsJoined.j1 kj2 l0 l1 t208 t210 (!t211)) else (laws_FnMountsJoined.j1 kj2 l0 l1 t208 t210 true)) = some r := H
        have A12 := Aside0.mk A120
        clear A120
        have HC13 := Aside0.mk H
        clear H
        go_upto_region 5 with (first | ((with_reducible refine gate_callee (f := 7) rfl ?_); refine goesL_ (some 21) rfl rfl Tryd.func7 (by kernel_rfl) rfl #[.slice A0 l0.length c0] rfl (by (try simp only [List.map_toArray, List.map_cons, List.map_nil]); first | done | rfl | (simp only [List.length_drop, List.length_take]; rfl)) ?_; (with_reducible refine (laws_printed.calls kj2 _ _ l0 t208 t209 _ ?side1 ?side2 A11.out).mono ?_); (case side1 => repeat (first | exact (Kd.C_below HR0.out HB.out) | (with_reducible refine Kd.C_alloc ?_ _) | (with_reducible refine Kd.C_drewN ?_ _) | (with_reducible refine Kd.C_drew ?_))); (case side2 => exact HC0.out); rintro e w14 ⟨rfl, hb⟩; refine ⟨_, rfl, ?_⟩; have n0_ := Aside0.mk (below_step (by repeat (first | (with_reducible first | exact HB.out | apply below_alloc | apply pw_below_drewN | apply below_drew1) | exact HB.out)) hb); clear HB; have HB := n0_; clear n0_; (try clear hb); (try clear hb2); (try clear hk); (try clear hi)) | ((with_reducible refine gate_callee (f := 7) rfl ?_); refine goesL_ (some 26) rfl rfl Tryd.func7 (by kernel_rfl) rfl #[.slice A1 l1.length c1] rfl (by (try simp only [List.map_toArray, List.map_cons, List.map_nil]); first | done | rfl | (simp only [List.length_drop, List.length_take]; rfl)) ?_; (with_reducible refine (laws_printed.calls kj2 _ _ l1 t210 t211 _ ?side1 ?side2 A12.out).mono ?_); (case side1 => repeat (first | exact (Kd.C_below HR1.out HB.out) | (with_reducible refine Kd.C_alloc ?_ _) | (with_reducible refine Kd.C_drewN ?_ _) | (with_reducible refine Kd.C_drew ?_))); (case side2 => exact HC1.out); rintro e w15 ⟨rfl, hb⟩; refine ⟨_, rfl, ?_⟩; have n0_ := Aside0.mk (below_step (by repeat (first | (with_reducible first | exact HB.out | apply below_alloc | apply pw_below_drewN | apply below_drew1) | exact HB.out)) hb); clear HB; have HB := n0_; clear n0_; (try clear hb); (try clear hb2); (try clear hk); (try clear hi)))
        (try simp only [Act.put, List.setIfInBounds_toArray, List.set_cons_zero, List.set_cons_succ])
        go_cut [34] (fun v34 wc => ∃ (kq : Nat) (x34_12 : Bool), v34 = .bool x34_12 ∧ Aside0 (laws_FnMountsJoined.j1 kq l0 l1 t208 t210 x34_12 = some r) ∧ Aside0 (kq ≤ kj2) ∧ Aside0 (Below w.heap.size w wc))
        case first =>
          have H := HC13.out
          clear HC13
          by_cases c16 : t209 = true
          · subst c16
            have H1 : (laws_FnMountsJoined.j1 kj2 l0 l1 t208 t210 (!t211)) = some r := by rw [if_pos rfl] at H; exact H
            clear H
            have H := H1
            clear H1
            have H' := Aside0.mk H
            clear H
            go_wp2
            go_meet
            case rel => exact ⟨_, (!t211), (by first | rfl | (simp; done) | (simp [*]; done)), H', ⟨by have := HJ2.out; first | omega | exact Nat.le_refl _⟩, ⟨by repeat (first | (with_reducible first | exact HB.out | apply below_alloc | apply pw_below_drewN | apply below_drew1) | exact HB.out)⟩⟩
          · replace c16 := Bool.eq_false_iff.mpr c16
            subst c16
            have H1 : (laws_FnMountsJoined.j1 kj2 l0 l1 t208 t210 true) = some r := by rw [if_neg (show ¬ (false = true) by decide)] at H; exact H
            clear H
            have H := H1
            clear H1
            have H' := Aside0.mk H
            clear H
            go_wp2
            go_meet
            case rel => exact ⟨_, (true), (by first | rfl | (simp; done) | (simp [*]; done)), H', ⟨by have := HJ2.out; first | omega | exact Nat.le_refl _⟩, ⟨by repeat (first | (with_reducible first | exact HB.out | apply below_alloc | apply pw_below_drewN | apply below_drew1) | exact HB.out)⟩⟩
        case rest =>
          clear HC13
          try clear c1
          try clear p2
          try clear c3
          try clear c5
          try clear c6
          try clear c7
          try clear c10
          try clear c16
          try clear p2
          obtain ⟨kq, x34_12, rfl, HA, HJ12, HB⟩ := hcut
          cases kq with
          | zero => exact absurd HA.out (by simp [laws_FnMountsJoined.j1])
          | succ kj12 =>
            have H := HA.out
            clear HA
            simp only [laws_FnMountsJoined.j1] at H
            by_cases c17 : x34_12 = true
            · subst c17
              have H1 : (some true) = some r := by rw [if_pos rfl] at H; exact H
              clear H
              have H := H1
              clear H1
              obtain rfl := Option.some.inj H
              go_wp2
              go_ret
              exact ⟨by first | rfl | (simp [errW_none, errW_some] <;> rfl) | (simp [*, errW_none, errW_some] <;> rfl), by repeat (first | (with_reducible first | exact HB.out | apply below_alloc | apply pw_below_drewN | apply below_drew1) | exact HB.out)⟩
            · replace c17 := Bool.eq_false_iff.mpr c17
              subst c17
              have H1 : (if t208.size + t210.size ≤ 9223372036854775807 then ((laws_all.f).bind fun bt212 => ((impl_Mounts.f kj12 (t208 ++ t210) bt212.1 bt212.2).bind fun bt216 => (if bt216.2 = 0 then (if ([] : List (S36)).length + l0.length < 977343669134 then ((some (([] : List (S36)) ++ l0 : List (S36))).bind fun y220 => (if y220.length + l1.length < 977343669134 then ((laws_sameMounts.f kj12 bt216.1 (y220 ++ l1)).bind fun t226 => (if t226 = true then ((laws_mounts.f kj12).bind fun t227 => (some t227)) else (some false))) else (none))) else (none)) else (some false)))) else (none)) = some r := by rw [if_neg (show ¬ (false = true) by decide)] at H; exact H
              clear H
              have H := H1
              clear H1
              replace H := guard_inv H
              obtain ⟨c18, H⟩ := H
              have c18b0 := eq_true c18
              have c18b1 := decide_eq_true c18
              try have c18b2 := eq_false (Nat.not_lt.2 c18)
              replace H := Option.bind_eq_some_iff.mp H
              obtain ⟨⟨t212, t213⟩, A190, H⟩ := H
              replace H : ((impl_Mounts.f kj12 (t208 ++ t210) t212 t213).bind fun bt216 => (if bt216.2 = 0 then (if ([] : List (S36)).length + l0.length < 977343669134 then ((some (([] : List (S36)) ++ l0 : List (S36))).bind fun y220 => (if y220.length + l1.length < 977343669134 then ((laws_sameMounts.f kj12 bt216.1 (y220 ++ l1)).bind fun t226 => (if t226 = true then ((laws_mounts.f kj12).bind fun t227 => (some t227)) else (some false))) else (none))) else (none)) else (some false))) = some r := H
              have A19 := Aside0.mk A190
              clear A190
              replace H := Option.bind_eq_some_iff.mp H
              obtain ⟨⟨t216, t219⟩, A200, H⟩ := H
              replace H : (if t219 = 0 then (if ([] : List (S36)).length + l0.length < 977343669134 then ((some (([] : List (S36)) ++ l0 : List (S36))).bind fun y220 => (if y220.length + l1.length < 977343669134 then ((laws_sameMounts.f kj12 t216 (y220 ++ l1)).bind fun t226 => (if t226 = true then ((laws_mounts.f kj12).bind fun t227 => (some t227)) else (some false))) else (none))) else (none)) else (some false)) = some r := H
              have A20 := Aside0.mk A200
              clear A200
              by_cases c21 : t219 = 0
              · rw [if_pos c21] at H
                have c21b0 : (t219 == 0) = true := beq_iff_eq.mpr c21
                have c21b1 : (t219 != 0) = false := bne_eq_false_iff_eq.mpr c21
                clear c21
                replace H := guard_inv H
                obtain ⟨c22, H⟩ := H
                have LMc22 := Aside0.mk c22
                clear c22
                obtain ⟨y220, hy220⟩ : ∃ y_ : List (S36), y_ = (([] : List (S36)) ++ l0) := ⟨_, rfl⟩
                replace H : (if y220.length + l1.length < 977343669134 then ((laws_sameMounts.f kj12 t216 (y220 ++ l1)).bind fun t226 => (if t226 = true then ((laws_mounts.f kj12).bind fun t227 => (some t227)) else (some false))) else (none)) = some r := by first | (rw [hy220]; with_reducible exact H) | (have H2_ := (Option.bind_some _ _).symm.trans H; rw [hy220]; with_reducible exact H2_) | (have H2_ := (Option.bind_some _ _).symm.trans H; with_reducible exact H2_) | with_reducible exact H | (rw [hy220]; exact H) | exact H
                have Ny220 := Aside0.mk hy220
                clear hy220
                replace H := guard_inv H
                obtain ⟨c23, H⟩ := H
                have LMc23 := Aside0.mk c23
                clear c23
                obtain ⟨y223, hy223⟩ : ∃ y_ : List (S36), y_ = (y220 ++ l1) := ⟨_, rfl⟩
                replace H : ((laws_sameMounts.f kj12 t216 y223).bind fun t226 => (if t226 = true then ((laws_mounts.f kj12).bind fun t227 => (some t227)) else (some false))) = some r := by first | (rw [hy223]; with_reducible exact H) | (have H2_ := (Option.bind_some _ _).symm.trans H; rw [hy223]; with_reducible exact H2_) | (have H2_ := (Option.bind_some _ _).symm.trans H; with_reducible exact H2_) | with_reducible exact H | (rw [hy223]; exact H) | exact H
                have Ny223 := Aside0.mk hy223
                clear hy223
                replace H := Option.bind_eq_some_iff.mp H
                obtain ⟨t226, A240, H⟩ := H
                replace H : (if t226 = true then ((laws_mounts.f kj12).bind fun t227 => (some t227)) else (some false)) = some r := H
                have A24 := Aside0.mk A240
                clear A240
                by_cases c25 : t226 = true
                · subst c25
                  have H1 : ((laws_mounts.f kj12).bind fun t227 => (some t227)) = some r := by rw [if_pos rfl] at H; exact H
                  clear H
                  have H := H1
                  clear H1
                  replace H := Option.bind_eq_some_iff.mp H
                  obtain ⟨t227, A260, H⟩ := H
                  replace H : (some t227) = some r := H
                  have A26 := Aside0.mk A260
                  clear A260
                  obtain rfl := Option.some.inj H
                  go_wp2_with (first | ((with_reducible refine gate_callee (f := 9) rfl ?_); refine goesL_ (some 39) rfl rfl Tryd.func9 (by kernel_rfl) rfl #[] rfl (by (try simp only [List.map_toArray, List.map_cons, List.map_nil]); first | done | rfl | (simp only [List.length_drop, List.length_take]; rfl)) ?_; (with_reducible refine (laws_all.calls  t212 t213 _ A19.out).mono ?_); rintro e w27 ⟨v214, rfl, ho0, hb⟩; refine ⟨_, rfl, ?_⟩; have n0_ := Aside0.mk (Kd.R_lower ho0 (below_size (by repeat (first | (with_reducible first | exact HB.out | apply below_alloc | apply pw_below_drewN | apply below_drew1) | exact HB.out)))); have n1_ := Aside0.mk (below_step (by repeat (first | (with_reducible first | exact HB.out | apply below_alloc | apply pw_below_drewN | apply below_drew1) | exact HB.out)) hb); clear HB; have HO215 := n0_; have HB := n1_; clear n0_ n1_; (try clear hb); (try clear hb2); (try clear hk); (try clear hi); (try clear ho0); obtain ⟨Ao28, co28, eo28⟩ := Kd.R_slice HO215.out; subst eo28) | ((with_reducible refine gate_callee (f := 8) rfl ?_); refine goesL_ (some 40) rfl rfl Tryd.func8 (by kernel_rfl) rfl #[.string (t208 ++ t210), .agg #[.int .i64 t212, .slice Ao28 t213.length co28]] rfl (by (try simp only [List.map_toArray, List.map_cons, List.map_nil]); first | done | rfl | (simp only [List.length_drop, List.length_take]; rfl)) ?_; (with_reducible refine (impl_Mounts.calls kj12 (t208 ++ t210) t212 _ _ t213 t216 t219 _ ?side1 ?side2 A20.out).mono ?_); (case side1 => repeat (first | exact (Kd.R_reads' HO215.out).2.2 | (with_reducible refine Kd.C_alloc ?_ _) | (with_reducible refine Kd.C_drewN ?_ _) | (with_reducible refine Kd.C_drew ?_))); (case side2 => exact (Kd.R_reads' HO215.out).2.1); rintro e w29 ⟨v217, rfl, ho0, hb⟩; refine ⟨_, rfl, ?_⟩; have n0_ := Aside0.mk (Kd.R_below (by (with_reducible repeat (first | apply Kd.R_alloc | apply Kd.R_drewN | apply Kd.R_drew)); exact HO215.out) hb); have n1_ := Aside0.mk (Kd.R_lower ho0 (below_size (by repeat (first | (with_reducible first | exact HB.out | apply below_alloc | apply pw_below_drewN | apply below_drew1) | exact HB.out)))); have n2_ := Aside0.mk (below_step (by repeat (first | (with_reducible first | exact HB.out | apply below_alloc | apply pw_below_drewN | apply below_drew1) | exact HB.out)) hb); clear HO215; clear HB; have HO215 := n0_; have HO218 := n1_; have HB := n2_; clear n0_ n1_ n2_; (try clear hb); (try clear hb2); (try clear hk); (try clear hi); (try clear ho0)) | ((with_reducible refine gate_builtin (b := .append) (xs := #[.const (.slice none 0 0), .tmp 47]) rfl ?_); (try (refine gate_guard (by rfl) ?_; dsimp only)); at_builtin; refine Kd.R_append_rows k36 (w0 := w) w.heap.size rfl (.const (.slice none 0 0)) (.tmp 47) 22 36 (.agg #[(.int .i64 0), (.int .i64 0), (.int .i64 0), (.int .i64 0), (.string ⟨#[]⟩), (.string ⟨#[]⟩), (.string ⟨#[]⟩), (.string ⟨#[]⟩), (.string ⟨#[]⟩), (.string ⟨#[]⟩), (.string ⟨#[]⟩)]) 144 rfl Tryd.underlying22 info36 rfl (by decide) (by omega) (.slice none 0 0) ([] : List (S36)) l0 _ _ _ (fun k_ => some k_ ≠ (v217 : Value).ownBlock) (fun _ => False) rfl rfl ?aO ?aR (fun _ _ h => h) (fun _ h => h.elim) ?aF ?aB ?aS ?aL ?_; (case aR => repeat (first | exact (Kd.C_below HR0.out HB.out) | (with_reducible refine Kd.C_alloc ?_ _) | (with_reducible refine Kd.C_drewN ?_ _) | (with_reducible refine Kd.C_drew ?_))); (case aB => exact (by repeat (first | (with_reducible first | exact HB.out | apply below_alloc | apply pw_below_drewN | apply below_drew1) | exact HB.out))); (case aF => exact (fun k_ hk => Kd.fresh' (Kd.R_lt (by (with_reducible repeat (first | apply Kd.R_alloc | apply Kd.R_drewN | apply Kd.R_drew)); exact HO218.out)) k_ hk)); (case aO => exact ((Kd.R_nil _ _ _ _ (fun k_ => some k_ ≠ (v217 : Value).ownBlock)))); (case aS => exact (below_size (by repeat (first | (with_reducible first | exact HB.out | apply below_alloc | apply pw_below_drewN | apply below_drew1) | exact HB.out)))); (case aL => have := LMc22.out; omega); intro v221 w30 ho hb hg hat; rw [← Ny220.out] at ho; have n0_ := Aside0.mk (Kd.R_grown (by (with_reducible repeat (first | apply Kd.R_alloc | apply Kd.R_drewN | apply Kd.R_drew)); exact HO215.out) hg (fun _ _ => by simp [Value.ownBlock])); have n1_ := Aside0.mk (Kd.R_after (Kd.R_apart_nil (by (with_reducible repeat (first | apply Kd.R_alloc | apply Kd.R_drewN | apply Kd.R_drew)); exact HO218.out)) hg hat); have n2_ := Aside0.mk (hb); have n3_ := Aside0.mk (ho); clear HO215; clear HO218; clear HB; have HO215 := n0_; have HO218 := n1_; have HB := n2_; have HO222 := n3_; clear n0_ n1_ n2_ n3_; clear ho hb hg hat) | ((with_reducible refine gate_builtin (b := .append) (xs := #[.tmp 48, .tmp 49]) rfl ?_); (try (refine gate_guard (by rfl) ?_; dsimp only)); at_builtin; refine Kd.R_append_rows k36 (w0 := w) w.heap.size rfl (.tmp 48) (.tmp 49) 22 36 (.agg #[(.int .i64 0), (.int .i64 0), (.int .i64 0), (.int .i64 0), (.string ⟨#[]⟩), (.string ⟨#[]⟩), (.string ⟨#[]⟩), (.string ⟨#[]⟩), (.string ⟨#[]⟩), (.string ⟨#[]⟩), (.string ⟨#[]⟩)]) 144 rfl Tryd.underlying22 info36 rfl (by decide) (by omega) v221 y220 l1 _ _ _ (fun k_ => some k_ ≠ (v217 : Value).ownBlock) (fun _ => False) rfl rfl ?aO ?aR (fun _ _ h => h) (fun _ h => h.elim) ?aF ?aB ?aS ?aL ?_; (case aR => repeat (first | exact (Kd.C_below HR1.out HB.out) | (with_reducible refine Kd.C_alloc ?_ _) | (with_reducible refine Kd.C_drewN ?_ _) | (with_reducible refine Kd.C_drew ?_))); (case aB => exact (by repeat (first | (with_reducible first | exact HB.out | apply below_alloc | apply pw_below_drewN | apply below_drew1) | exact HB.out))); (case aF => exact (fun k_ hk => Kd.fresh' (Kd.R_lt (by (with_reducible repeat (first | apply Kd.R_alloc | apply Kd.R_drewN | apply Kd.R_drew)); exact HO218.out)) k_ hk)); (case aO => exact (by (with_reducible repeat (first | apply Kd.R_alloc | apply Kd.R_drewN | apply Kd.R_drew)); exact HO222.out)); (case aS => exact (below_size (by repeat (first | (with_reducible first | exact HB.out | apply below_alloc | apply pw_below_drewN | apply below_drew1) | exact HB.out)))); (case aL => have := LMc23.out; omega); intro v224 w31 ho hb hg hat; rw [← Ny223.out] at ho; have n0_ := Aside0.mk (Kd.R_over' (by (with_reducible repeat (first | apply Kd.R_alloc | apply Kd.R_drewN | apply Kd.R_drew)); exact HO215.out) (Kd.R_typed (by (with_reducible repeat (first | apply Kd.R_alloc | apply Kd.R_drewN | apply Kd.R_drew)); exact HO222.out)) (by decide) hg); have n1_ := Aside0.mk (Kd.R_after (ok := (fun _ => True)) (by (with_reducible repeat (first | apply Kd.R_alloc | apply Kd.R_drewN | apply Kd.R_drew)); exact HO218.out) hg hat); have n2_ := Aside0.mk (hb); have n3_ := Aside0.mk (ho); clear HO215; clear HO218; clear HB; clear HO222; have HO215 := n0_; have HO218 := n1_; have HB := n2_; have HO225 := n3_; clear n0_ n1_ n2_ n3_; clear ho hb hg hat; obtain ⟨Ao32, co32, eo32⟩ := Kd.R_slice HO218.out; subst eo32; obtain ⟨Ao33, co33, eo33⟩ := Kd.R_slice HO225.out; subst eo33) | (go_at_call 10; (with_reducible refine (laws_sameMounts.calls kj12 _ _ t216 _ _ y223 true _ ?side1 ?side2 ?side3 ?side4 A24.out).mono ?_); (case side1 => repeat (first | exact (Kd.R_reads' HO218.out).2.2 | (with_reducible refine Kd.C_alloc ?_ _) | (with_reducible refine Kd.C_drewN ?_ _) | (with_reducible refine Kd.C_drew ?_))); (case side2 => exact (Kd.R_reads' HO218.out).2.1); (case side3 => repeat (first | exact (Kd.R_reads' HO225.out).2.2 | (with_reducible refine Kd.C_alloc ?_ _) | (with_reducible refine Kd.C_drewN ?_ _) | (with_reducible refine Kd.C_drew ?_))); (case side4 => exact (Kd.R_reads' HO225.out).2.1); rintro e w' ⟨rfl, ⟨nd, rfl⟩⟩) | (go_at_call 11; (with_reducible refine (laws_mounts.calls kj12  t227 _ A26.out).mono ?_); rintro e w34 ⟨rfl, hb⟩; have n0_ := Aside0.mk (Kd.R_below (by (with_reducible repeat (first | apply Kd.R_alloc | apply Kd.R_drewN | apply Kd.R_drew)); exact HO215.out) hb); have n1_ := Aside0.mk (Kd.R_below (by (with_reducible repeat (first | apply Kd.R_alloc | apply Kd.R_drewN | apply Kd.R_drew)); exact HO218.out) hb); have n2_ := Aside0.mk (Kd.R_below (by (with_reducible repeat (first | apply Kd.R_alloc | apply Kd.R_drewN | apply Kd.R_drew)); exact HO225.out) hb); have n3_ := Aside0.mk (below_step (by repeat (first | (with_reducible first | exact HB.out | apply below_alloc | apply pw_below_drewN | apply below_drew1) | exact HB.out)) hb); clear HO215; clear HO218; clear HO225; clear HB; have HO215 := n0_; have HO218 := n1_; have HO225 := n2_; have HB := n3_; clear n0_ n1_ n2_ n3_; (try clear hb); (try clear hb2); (try clear hk); (try clear hi)))
                  go_ret
                  exact ⟨by first | rfl | (simp [errW_none, errW_some] <;> rfl) | (simp [*, errW_none, errW_some] <;> rfl), by repeat (first | (with_reducible first | exact HB.out | apply below_alloc | apply pw_below_drewN | apply below_drew1) | exact HB.out)⟩
                · replace c25 := Bool.eq_false_iff.mpr c25
                  subst c25
                  have H1 : (some false) = some r := by rw [if_neg (show ¬ (false = true) by decide)] at H; exact H
                  clear H
                  have H := H1
                  clear H1
                  obtain rfl := Option.some.inj H
                  go_wp2_with (first | ((with_reducible refine gate_callee (f := 9) rfl ?_); refine goesL_ (some 39) rfl rfl Tryd.func9 (by kernel_rfl) rfl #[] rfl (by (try simp only [List.map_toArray, List.map_cons, List.map_nil]); first | done | rfl | (simp only [List.length_drop, List.length_take]; rfl)) ?_; (with_reducible refine (laws_all.calls  t212 t213 _ A19.out).mono ?_); rintro e w35 ⟨v214, rfl, ho0, hb⟩; refine ⟨_, rfl, ?_⟩; have n0_ := Aside0.mk (Kd.R_lower ho0 (below_size (by repeat (first | (with_reducible first | exact HB.out | apply below_alloc | apply pw_below_drewN | apply below_drew1) | exact HB.out)))); have n1_ := Aside0.mk (below_step (by repeat (first | (with_reducible first | exact HB.out | apply below_alloc | apply pw_below_drewN | apply below_drew1) | exact HB.out)) hb); clear HB; have HO215 := n0_; have HB := n1_; clear n0_ n1_; (try clear hb); (try clear hb2); (try clear hk); (try clear hi); (try clear ho0); obtain ⟨Ao36, co36, eo36⟩ := Kd.R_slice HO215.out; subst eo36) | ((with_reducible refine gate_callee (f := 8) rfl ?_); refine goesL_ (some 40) rfl rfl Tryd.func8 (by kernel_rfl) rfl #[.string (t208 ++ t210), .agg #[.int .i64 t212, .slice Ao36 t213.length co36]] rfl (by (try simp only [List.map_toArray, List.map_cons, List.map_nil]); first | done | rfl | (simp only [List.length_drop, List.length_take]; rfl)) ?_; (with_reducible refine (impl_Mounts.calls kj12 (t208 ++ t210) t212 _ _ t213 t216 t219 _ ?side1 ?side2 A20.out).mono ?_); (case side1 => repeat (first | exact (Kd.R_reads' HO215.out).2.2 | (with_reducible refine Kd.C_alloc ?_ _) | (with_reducible refine Kd.C_drewN ?_ _) | (with_reducible refine Kd.C_drew ?_))); (case side2 => exact (Kd.R_reads' HO215.out).2.1); rintro e w37 ⟨v217, rfl, ho0, hb⟩; refine ⟨_, rfl, ?_⟩; have n0_ := Aside0.mk (Kd.R_below (by (with_reducible repeat (first | apply Kd.R_alloc | apply Kd.R_drewN | apply Kd.R_drew)); exact HO215.out) hb); have n1_ := Aside0.mk (Kd.R_lower ho0 (below_size (by repeat (first | (with_reducible first | exact HB.out | apply below_alloc | apply pw_below_drewN | apply below_drew1) | exact HB.out)))); have n2_ := Aside0.mk (below_step (by repeat (first | (with_reducible first | exact HB.out | apply below_alloc | apply pw_below_drewN | apply below_drew1) | exact HB.out)) hb); clear HO215; clear HB; have HO215 := n0_; have HO218 := n1_; have HB := n2_; clear n0_ n1_ n2_; (try clear hb); (try clear hb2); (try clear hk); (try clear hi); (try clear ho0)) | ((with_reducible refine gate_builtin (b := .append) (xs := #[.const (.slice none 0 0), .tmp 47]) rfl ?_); (try (refine gate_guard (by rfl) ?_; dsimp only)); at_builtin; refine Kd.R_append_rows k36 (w0 := w) w.heap.size rfl (.const (.slice none 0 0)) (.tmp 47) 22 36 (.agg #[(.int .i64 0), (.int .i64 0), (.int .i64 0), (.int .i64 0), (.string ⟨#[]⟩), (.string ⟨#[]⟩), (.string ⟨#[]⟩), (.string ⟨#[]⟩), (.string ⟨#[]⟩), (.string ⟨#[]⟩), (.string ⟨#[]⟩)]) 144 rfl Tryd.underlying22 info36 rfl (by decide) (by omega) (.slice none 0 0) ([] : List (S36)) l0 _ _ _ (fun k_ => some k_ ≠ (v217 : Value).ownBlock) (fun _ => False) rfl rfl ?aO ?aR (fun _ _ h => h) (fun _ h => h.elim) ?aF ?aB ?aS ?aL ?_; (case aR => repeat (first | exact (Kd.C_below HR0.out HB.out) | (with_reducible refine Kd.C_alloc ?_ _) | (with_reducible refine Kd.C_drewN ?_ _) | (with_reducible refine Kd.C_drew ?_))); (case aB => exact (by repeat (first | (with_reducible first | exact HB.out | apply below_alloc | apply pw_below_drewN | apply below_drew1) | exact HB.out))); (case aF => exact (fun k_ hk => Kd.fresh' (Kd.R_lt (by (with_reducible repeat (first | apply Kd.R_alloc | apply Kd.R_drewN | apply Kd.R_drew)); exact HO218.out)) k_ hk)); (case aO => exact ((Kd.R_nil _ _ _ _ (fun k_ => some k_ ≠ (v217 : Value).ownBlock)))); (case aS => exact (below_size (by repeat (first | (with_reducible first | exact HB.out | apply below_alloc | apply pw_below_drewN | apply below_drew1) | exact HB.out)))); (case aL => have := LMc22.out; omega); intro v221 w38 ho hb hg hat; rw [← Ny220.out] at ho; have n0_ := Aside0.mk (Kd.R_grown (by (with_reducible repeat (first | apply Kd.R_alloc | apply Kd.R_drewN | apply Kd.R_drew)); exact HO215.out) hg (fun _ _ => by simp [Value.ownBlock])); have n1_ := Aside0.mk (Kd.R_after (Kd.R_apart_nil (by (with_reducible repeat (first | apply Kd.R_alloc | apply Kd.R_drewN | apply Kd.R_drew)); exact HO218.out)) hg hat); have n2_ := Aside0.mk (hb); have n3_ := Aside0.mk (ho); clear HO215; clear HO218; clear HB; have HO215 := n0_; have HO218 := n1_; have HB := n2_; have HO222 := n3_; clear n0_ n1_ n2_ n3_; clear ho hb hg hat) | ((with_reducible refine gate_builtin (b := .append) (xs := #[.tmp 48, .tmp 49]) rfl ?_); (try (refine gate_guard (by rfl) ?_; dsimp only)); at_builtin; refine Kd.R_append_rows k36 (w0 := w) w.heap.size rfl (.tmp 48) (.tmp 49) 22 36 (.agg #[(.int .i64 0), (.int .i64 0), (.int .i64 0), (.int .i64 0), (.string ⟨#[]⟩), (.string ⟨#[]⟩), (.string ⟨#[]⟩), (.string ⟨#[]⟩), (.string ⟨#[]⟩), (.string ⟨#[]⟩), (.string ⟨#[]⟩)]) 144 rfl Tryd.underlying22 info36 rfl (by decide) (by omega) v221 y220 l1 _ _ _ (fun k_ => some k_ ≠ (v217 : Value).ownBlock) (fun _ => False) rfl rfl ?aO ?aR (fun _ _ h => h) (fun _ h => h.elim) ?aF ?aB ?aS ?aL ?_; (case aR => repeat (first | exact (Kd.C_below HR1.out HB.out) | (with_reducible refine Kd.C_alloc ?_ _) | (with_reducible refine Kd.C_drewN ?_ _) | (with_reducible refine Kd.C_drew ?_))); (case aB => exact (by repeat (first | (with_reducible first | exact HB.out | apply below_alloc | apply pw_below_drewN | apply below_drew1) | exact HB.out))); (case aF => exact (fun k_ hk => Kd.fresh' (Kd.R_lt (by (with_reducible repeat (first | apply Kd.R_alloc | apply Kd.R_drewN | apply Kd.R_drew)); exact HO218.out)) k_ hk)); (case aO => exact (by (with_reducible repeat (first | apply Kd.R_alloc | apply Kd.R_drewN | apply Kd.R_drew)); exact HO222.out)); (case aS => exact (below_size (by repeat (first | (with_reducible first | exact HB.out | apply below_alloc | apply pw_below_drewN | apply below_drew1) | exact HB.out)))); (case aL => have := LMc23.out; omega); intro v224 w39 ho hb hg hat; rw [← Ny223.out] at ho; have n0_ := Aside0.mk (Kd.R_over' (by (with_reducible repeat (first | apply Kd.R_alloc | apply Kd.R_drewN | apply Kd.R_drew)); exact HO215.out) (Kd.R_typed (by (with_reducible repeat (first | apply Kd.R_alloc | apply Kd.R_drewN | apply Kd.R_drew)); exact HO222.out)) (by decide) hg); have n1_ := Aside0.mk (Kd.R_after (ok := (fun _ => True)) (by (with_reducible repeat (first | apply Kd.R_alloc | apply Kd.R_drewN | apply Kd.R_drew)); exact HO218.out) hg hat); have n2_ := Aside0.mk (hb); have n3_ := Aside0.mk (ho); clear HO215; clear HO218; clear HB; clear HO222; have HO215 := n0_; have HO218 := n1_; have HB := n2_; have HO225 := n3_; clear n0_ n1_ n2_ n3_; clear ho hb hg hat; obtain ⟨Ao40, co40, eo40⟩ := Kd.R_slice HO218.out; subst eo40; obtain ⟨Ao41, co41, eo41⟩ := Kd.R_slice HO225.out; subst eo41) | (go_at_call 10; (with_reducible refine (laws_sameMounts.calls kj12 _ _ t216 _ _ y223 false _ ?side1 ?side2 ?side3 ?side4 A24.out).mono ?_); (case side1 => repeat (first | exact (Kd.R_reads' HO218.out).2.2 | (with_reducible refine Kd.C_alloc ?_ _) | (with_reducible refine Kd.C_drewN ?_ _) | (with_reducible refine Kd.C_drew ?_))); (case side2 => exact (Kd.R_reads' HO218.out).2.1); (case side3 => repeat (first | exact (Kd.R_reads' HO225.out).2.2 | (with_reducible refine Kd.C_alloc ?_ _) | (with_reducible refine Kd.C_drewN ?_ _) | (with_reducible refine Kd.C_drew ?_))); (case side4 => exact (Kd.R_reads' HO225.out).2.1); rintro e w' ⟨rfl, ⟨nd, rfl⟩⟩))
                  go_ret
                  exact ⟨by first | rfl | (simp [errW_none, errW_some] <;> rfl) | (simp [*, errW_none, errW_some] <;> rfl), by repeat (first | (with_reducible first | exact HB.out | apply below_alloc | apply pw_below_drewN | apply below_drew1) | exact HB.out)⟩
              · rw [if_neg c21] at H
                have c21b0 : (t219 == 0) = false := beq_eq_false_iff_ne.mpr c21
                have c21b1 : (t219 != 0) = true := bne_iff_ne.mpr c21
                obtain rfl := Option.some.inj H
                go_wp2_with (first | ((with_reducible refine gate_callee (f := 9) rfl ?_); refine goesL_ (some 39) rfl rfl Tryd.func9 (by kernel_rfl) rfl #[] rfl (by (try simp only [List.map_toArray, List.map_cons, List.map_nil]); first | done | rfl | (simp only [List.length_drop, List.length_take]; rfl)) ?_; (with_reducible refine (laws_all.calls  t212 t213 _ A19.out).mono ?_); rintro e w42 ⟨v214, rfl, ho0, hb⟩; refine ⟨_, rfl, ?_⟩; have n0_ := Aside0.mk (Kd.R_lower ho0 (below_size (by repeat (first | (with_reducible first | exact HB.out | apply below_alloc | apply pw_below_drewN | apply below_drew1) | exact HB.out)))); have n1_ := Aside0.mk (below_step (by repeat (first | (with_reducible first | exact HB.out | apply below_alloc | apply pw_below_drewN | apply below_drew1) | exact HB.out)) hb); clear HB; have HO215 := n0_; have HB := n1_; clear n0_ n1_; (try clear hb); (try clear hb2); (try clear hk); (try clear hi); (try clear ho0); obtain ⟨Ao43, co43, eo43⟩ := Kd.R_slice HO215.out; subst eo43) | ((with_reducible refine gate_callee (f := 8) rfl ?_); refine goesL_ (some 40) rfl rfl Tryd.func8 (by kernel_rfl) rfl #[.string (t208 ++ t210), .agg #[.int .i64 t212, .slice Ao43 t213.length co43]] rfl (by (try simp only [List.map_toArray, List.map_cons, List.map_nil]); first | done | rfl | (simp only [List.length_drop, List.length_take]; rfl)) ?_; (with_reducible refine (impl_Mounts.calls kj12 (t208 ++ t210) t212 _ _ t213 t216 t219 _ ?side1 ?side2 A20.out).mono ?_); (case side1 => repeat (first | exact (Kd.R_reads' HO215.out).2.2 | (with_reducible refine Kd.C_alloc ?_ _) | (with_reducible refine Kd.C_drewN ?_ _) | (with_reducible refine Kd.C_drew ?_))); (case side2 => exact (Kd.R_reads' HO215.out).2.1); rintro e w44 ⟨v217, rfl, ho0, hb⟩; refine ⟨_, rfl, ?_⟩; have n0_ := Aside0.mk (Kd.R_below (by (with_reducible repeat (first | apply Kd.R_alloc | apply Kd.R_drewN | apply Kd.R_drew)); exact HO215.out) hb); have n1_ := Aside0.mk (Kd.R_lower ho0 (below_size (by repeat (first | (with_reducible first | exact HB.out | apply below_alloc | apply pw_below_drewN | apply below_drew1) | exact HB.out)))); have n2_ := Aside0.mk (below_step (by repeat (first | (with_reducible first | exact HB.out | apply below_alloc | apply pw_below_drewN | apply below_drew1) | exact HB.out)) hb); clear HO215; clear HB; have HO215 := n0_; have HO218 := n1_; have HB := n2_; clear n0_ n1_ n2_; (try clear hb); (try clear hb2); (try clear hk); (try clear hi); (try clear ho0)))
                go_ret
                exact ⟨by first | rfl | (simp [errW_none, errW_some] <;> rfl) | (simp [*, errW_none, errW_some] <;> rfl), by repeat (first | (with_reducible first | exact HB.out | apply below_alloc | apply pw_below_drewN | apply below_drew1) | exact HB.out)⟩

end Go.Proofs.YtdmccakncgdbhaaDoor.GMA
