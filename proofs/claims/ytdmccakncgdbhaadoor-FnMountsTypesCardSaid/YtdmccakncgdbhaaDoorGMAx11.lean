-- printed by gprint.py (a session's own turn of the kit's print): MA
import Derived.Test.YtdmccakncgdbhaaDoorGMAx0
import Derived.Test.YtdmccakncgdbhaaDoorGMAx4
import Derived.Test.YtdmccakncgdbhaaDoorGMAx8
import Derived.Test.YtdmccakncgdbhaaDoorGMAx10
import Derived.Test.YtdmccakncgdbhaaDoorGivenMA
import Derived.Test.YtdmccakncgdbhaaDoorGivenMT
import Derived.Test.YtdmccakncgdbhaaDoorGivenMB
namespace Go.Proofs.YtdmccakncgdbhaaDoor.GMA
open Go.RowKit Go.Proofs.YtdmccakncgdbhaaDoorW.PrintWords Go.Proofs.YtdmccakncgdbhaaDoorW.PrintLast Go.Proofs.YtdmccakncgdbhaaDoorW.PrintMore
attribute [local go_sem] max2_int min2_int max_two min_two max_three min_three max_four min_four   -- for this text's walks alone
set_option linter.unusedVariables false
set_option linter.unusedSimpArgs false

/-! ### laws_FnMountsTypes: function 5 -/
mutual
def laws_FnMountsTypes.j0 : Nat → List (S36) → List ByteArray → Bool → Option (Bool)
  | 0, _, _, _ => none
  | k + 1, x0, x1, x22 => if x22 = true then (some true) else ((laws_printed.f k x0).bind fun bt245 => (if bt245.2 = true then (laws_FnMountsTypes.j1 k x0 x1 bt245.1 (decide ((x1.length : Int) > 20))) else (laws_FnMountsTypes.j1 k x0 x1 bt245.1 true)))
def laws_FnMountsTypes.j1 : Nat → List (S36) → List ByteArray → ByteArray → Bool → Option (Bool)
  | 0, _, _, _, _ => none
  | k + 1, x0, x1, x5, x34 => if x34 = true then (some true) else (laws_FnMountsTypes.l0 k x1 x5 ([] : List (S36)) x0 (x0.length : Int) 0)
def laws_FnMountsTypes.l0 : Nat → List ByteArray → ByteArray → List (S36) → List (S36) → Int → Int → Option (Bool)
  | 0, _, _, _, _, _, _ => none
  | k + 1, x1, x5, x7, x35, x36, x37 => if x37 < x36 then (if 0 ≤ x37 then (if x37 < (x35.length : Int) then (laws_FnMountsTypes.l1 k x1 x5 x7 false x35 x36 x37 x1 (x1.length : Int) 0 ((rd_T36 x35 x37).f0) ((rd_T36 x35 x37).f1) ((rd_T36 x35 x37).f2) ((rd_T36 x35 x37).f3) ((rd_T36 x35 x37).f4) ((rd_T36 x35 x37).f5) ((rd_T36 x35 x37).f6) ((rd_T36 x35 x37).f7) ((rd_T36 x35 x37).f8) ((rd_T36 x35 x37).f9) ((rd_T36 x35 x37).f10)) else (none)) else (none)) else ((impl_Mounts.f k x5 1 x1).bind fun bt247 => (if bt247.2 = 0 then ((laws_sameMounts.f k bt247.1 x7).bind fun t251 => (if t251 = true then ((laws_mounts.f k).bind fun t252 => (some t252)) else (some false))) else (some false)))
def laws_FnMountsTypes.l1 : Nat → List ByteArray → ByteArray → List (S36) → Bool → List (S36) → Int → Int → List ByteArray → Int → Int → Int → Int → Int → Int → ByteArray → ByteArray → ByteArray → ByteArray → ByteArray → ByteArray → ByteArray → Option (Bool)
  | 0, _, _, _, _, _, _, _, _, _, _, _, _, _, _, _, _, _, _, _, _, _ => none
  | k + 1, x1, x5, x7, x10, x35, x36, x37, x41, x42, x43, x255000, x255001, x255002, x255003, x255004, x255005, x255006, x255007, x255008, x255009, x255010 => if x43 < x42 then (if 0 ≤ x43 then (if x43 < (x41.length : Int) then (if x10 = true then (laws_FnMountsTypes.l1 k x1 x5 x7 true x35 x36 x37 x41 x42 (wrap64 (x43 + 1)) x255000 x255001 x255002 x255003 x255004 x255005 x255006 x255007 x255008 x255009 x255010) else (laws_FnMountsTypes.l1 k x1 x5 x7 ((rdOf ByteArray.empty x41 x43).toList == x255008.toList) x35 x36 x37 x41 x42 (wrap64 (x43 + 1)) x255000 x255001 x255002 x255003 x255004 x255005 x255006 x255007 x255008 x255009 x255010)) else (none)) else (none)) else (if x10 = true then (if x7.length < 977343669134 then (laws_FnMountsTypes.l0 k x1 x5 (x7 ++ [(⟨x255000, x255001, x255002, x255003, x255004, x255005, x255006, x255007, x255008, x255009, x255010⟩ : S36)]) x35 x36 (wrap64 (x37 + 1))) else (none)) else (laws_FnMountsTypes.l0 k x1 x5 x7 x35 x36 (wrap64 (x37 + 1))))
end
def laws_FnMountsTypes.f (k : Nat) (l0 : List (S36)) (l1 : List ByteArray) : Option (Bool) := (laws_zzFits1.f k l0).bind fun t243 => (if t243 = true then ((laws_zzFits4.f k l1).bind fun t244 => (laws_FnMountsTypes.j0 k l0 l1 (!t244))) else (laws_FnMountsTypes.j0 k l0 l1 true))
theorem laws_FnMountsTypes.mono_l : ∀ k, (∀ y0 y1 y2, LeO (laws_FnMountsTypes.j0 k y0 y1 y2) (laws_FnMountsTypes.j0 (k + 1) y0 y1 y2)) ∧ (∀ y0 y1 y2 y3, LeO (laws_FnMountsTypes.j1 k y0 y1 y2 y3) (laws_FnMountsTypes.j1 (k + 1) y0 y1 y2 y3)) ∧ (∀ y0 y1 y2 y3 y4 y5, LeO (laws_FnMountsTypes.l0 k y0 y1 y2 y3 y4 y5) (laws_FnMountsTypes.l0 (k + 1) y0 y1 y2 y3 y4 y5)) ∧ (∀ y0 y1 y2 y3 y4 y5 y6 y7 y8 y9 y10 y11 y12 y13 y14 y15 y16 y17 y18 y19 y20, LeO (laws_FnMountsTypes.l1 k y0 y1 y2 y3 y4 y5 y6 y7 y8 y9 y10 y11 y12 y13 y14 y15 y16 y17 y18 y19 y20) (laws_FnMountsTypes.l1 (k + 1) y0 y1 y2 y3 y4 y5 y6 y7 y8 y9 y10 y11 y12 y13 y14 y15 y16 y17 y18 y19 y20))
  | 0 => ⟨fun _ _ _ r h => by simp [laws_FnMountsTypes.j0] at h, fun _ _ _ _ r h => by simp [laws_FnMountsTypes.j1] at h, fun _ _ _ _ _ _ r h => by simp [laws_FnMountsTypes.l0] at h, fun _ _ _ _ _ _ _ _ _ _ _ _ _ _ _ _ _ _ _ _ _ r h => by simp [laws_FnMountsTypes.l1] at h⟩
  | k + 1 => by
    obtain ⟨ih0, ih1, ih2, ih3⟩ := laws_FnMountsTypes.mono_l k
    refine ⟨?_, ?_, ?_, ?_⟩
    · intro y0 y1 y2
      unfold laws_FnMountsTypes.j0
      repeat' first
      | (with_reducible exact ih0 _ _ _)
      | (with_reducible exact ih1 _ _ _ _)
      | (with_reducible exact ih2 _ _ _ _ _ _)
      | (with_reducible exact ih3 _ _ _ _ _ _ _ _ _ _ _ _ _ _ _ _ _ _ _ _ _)
      | (with_reducible exact impl_Mounts.mono _ _ _ _)
      | (with_reducible exact laws_mounts.mono _)
      | (with_reducible exact laws_printed.mono _ _)
      | (with_reducible exact laws_sameMounts.mono _ _ _)
      | (with_reducible exact laws_zzFits1.mono _ _)
      | (with_reducible exact laws_zzFits4.mono _ _)
      | (with_reducible exact LeO.refl _)
      | (with_reducible exact LeO.none _)
      | (with_reducible refine LeO.ite ?_ ?_)
      | (with_reducible refine LeO.bind ?_ (fun _ => ?_))
      | exact ih0 _ _ _
      | exact ih1 _ _ _ _
      | exact ih2 _ _ _ _ _ _
      | exact ih3 _ _ _ _ _ _ _ _ _ _ _ _ _ _ _ _ _ _ _ _ _
      | exact impl_Mounts.mono _ _ _ _
      | exact laws_mounts.mono _
      | exact laws_printed.mono _ _
      | exact laws_sameMounts.mono _ _ _
      | exact laws_zzFits1.mono _ _
      | exact laws_zzFits4.mono _ _
      | exact LeO.none _
      | refine LeO.ite ?_ ?_
      | refine LeO.bind ?_ (fun _ => ?_)
    · intro y0 y1 y2 y3
      unfold laws_FnMountsTypes.j1
      repeat' first
      | (with_reducible exact ih0 _ _ _)
      | (with_reducible exact ih1 _ _ _ _)
      | (with_reducible exact ih2 _ _ _ _ _ _)
      | (with_reducible exact ih3 _ _ _ _ _ _ _ _ _ _ _ _ _ _ _ _ _ _ _ _ _)
      | (with_reducible exact impl_Mounts.mono _ _ _ _)
      | (with_reducible exact laws_mounts.mono _)
      | (with_reducible exact laws_printed.mono _ _)
      | (with_reducible exact laws_sameMounts.mono _ _ _)
      | (with_reducible exact laws_zzFits1.mono _ _)
      | (with_reducible exact laws_zzFits4.mono _ _)
      | (with_reducible exact LeO.refl _)
      | (with_reducible exact LeO.none _)
      | (with_reducible refine LeO.ite ?_ ?_)
      | (with_reducible refine LeO.bind ?_ (fun _ => ?_))
      | exact ih0 _ _ _
      | exact ih1 _ _ _ _
      | exact ih2 _ _ _ _ _ _
      | exact ih3 _ _ _ _ _ _ _ _ _ _ _ _ _ _ _ _ _ _ _ _ _
      | exact impl_Mounts.mono _ _ _ _
      | exact laws_mounts.mono _
      | exact laws_printed.mono _ _
      | exact laws_sameMounts.mono _ _ _
      | exact laws_zzFits1.mono _ _
      | exact laws_zzFits4.mono _ _
      | exact LeO.none _
      | refine LeO.ite ?_ ?_
      | refine LeO.bind ?_ (fun _ => ?_)
    · intro y0 y1 y2 y3 y4 y5
      unfold laws_FnMountsTypes.l0
      repeat' first
      | (with_reducible exact ih0 _ _ _)
      | (with_reducible exact ih1 _ _ _ _)
      | (with_reducible exact ih2 _ _ _ _ _ _)
      | (with_reducible exact ih3 _ _ _ _ _ _ _ _ _ _ _ _ _ _ _ _ _ _ _ _ _)
      | (with_reducible exact impl_Mounts.mono _ _ _ _)
      | (with_reducible exact laws_mounts.mono _)
      | (with_reducible exact laws_printed.mono _ _)
      | (with_reducible exact laws_sameMounts.mono _ _ _)
      | (with_reducible exact laws_zzFits1.mono _ _)
      | (with_reducible exact laws_zzFits4.mono _ _)
      | (with_reducible exact LeO.refl _)
      | (with_reducible exact LeO.none _)
      | (with_reducible refine LeO.ite ?_ ?_)
      | (with_reducible refine LeO.bind ?_ (fun _ => ?_))
      | exact ih0 _ _ _
      | exact ih1 _ _ _ _
      | exact ih2 _ _ _ _ _ _
      | exact ih3 _ _ _ _ _ _ _ _ _ _ _ _ _ _ _ _ _ _ _ _ _
      | exact impl_Mounts.mono _ _ _ _
      | exact laws_mounts.mono _
      | exact laws_printed.mono _ _
      | exact laws_sameMounts.mono _ _ _
      | exact laws_zzFits1.mono _ _
      | exact laws_zzFits4.mono _ _
      | exact LeO.none _
      | refine LeO.ite ?_ ?_
      | refine LeO.bind ?_ (fun _ => ?_)
    · intro y0 y1 y2 y3 y4 y5 y6 y7 y8 y9 y10 y11 y12 y13 y14 y15 y16 y17 y18 y19 y20
      unfold laws_FnMountsTypes.l1
      repeat' first
      | (with_reducible exact ih0 _ _ _)
      | (with_reducible exact ih1 _ _ _ _)
      | (with_reducible exact ih2 _ _ _ _ _ _)
      | (with_reducible exact ih3 _ _ _ _ _ _ _ _ _ _ _ _ _ _ _ _ _ _ _ _ _)
      | (with_reducible exact impl_Mounts.mono _ _ _ _)
      | (with_reducible exact laws_mounts.mono _)
      | (with_reducible exact laws_printed.mono _ _)
      | (with_reducible exact laws_sameMounts.mono _ _ _)
      | (with_reducible exact laws_zzFits1.mono _ _)
      | (with_reducible exact laws_zzFits4.mono _ _)
      | (with_reducible exact LeO.refl _)
      | (with_reducible exact LeO.none _)
      | (with_reducible refine LeO.ite ?_ ?_)
      | (with_reducible refine LeO.bind ?_ (fun _ => ?_))
      | exact ih0 _ _ _
      | exact ih1 _ _ _ _
      | exact ih2 _ _ _ _ _ _
      | exact ih3 _ _ _ _ _ _ _ _ _ _ _ _ _ _ _ _ _ _ _ _ _
      | exact impl_Mounts.mono _ _ _ _
      | exact laws_mounts.mono _
      | exact laws_printed.mono _ _
      | exact laws_sameMounts.mono _ _ _
      | exact laws_zzFits1.mono _ _
      | exact laws_zzFits4.mono _ _
      | exact LeO.none _
      | refine LeO.ite ?_ ?_
      | refine LeO.bind ?_ (fun _ => ?_)
theorem laws_FnMountsTypes.mono : ∀ a0 a1 k, LeO (laws_FnMountsTypes.f k a0 a1) (laws_FnMountsTypes.f (k + 1) a0 a1) := by
  intro a0 a1 k
  obtain ⟨ih0, ih1, ih2, ih3⟩ := laws_FnMountsTypes.mono_l k
  unfold laws_FnMountsTypes.f
  repeat' first
      | (with_reducible exact ih0 _ _ _)
      | (with_reducible exact ih1 _ _ _ _)
      | (with_reducible exact ih2 _ _ _ _ _ _)
      | (with_reducible exact ih3 _ _ _ _ _ _ _ _ _ _ _ _ _ _ _ _ _ _ _ _ _)
      | (with_reducible exact impl_Mounts.mono _ _ _ _)
      | (with_reducible exact laws_mounts.mono _)
      | (with_reducible exact laws_printed.mono _ _)
      | (with_reducible exact laws_sameMounts.mono _ _ _)
      | (with_reducible exact laws_zzFits1.mono _ _)
      | (with_reducible exact laws_zzFits4.mono _ _)
      | (with_reducible exact LeO.refl _)
      | (with_reducible exact LeO.none _)
      | (with_reducible refine LeO.ite ?_ ?_)
      | (with_reducible refine LeO.bind ?_ (fun _ => ?_))
      | exact ih0 _ _ _
      | exact ih1 _ _ _ _
      | exact ih2 _ _ _ _ _ _
      | exact ih3 _ _ _ _ _ _ _ _ _ _ _ _ _ _ _ _ _ _ _ _ _
      | exact impl_Mounts.mono _ _ _ _
      | exact laws_mounts.mono _
      | exact laws_printed.mono _ _
      | exact laws_sameMounts.mono _ _ _
      | exact laws_zzFits1.mono _ _
      | exact laws_zzFits4.mono _ _
      | exact LeO.none _
      | refine LeO.ite ?_ ?_
      | refine LeO.bind ?_ (fun _ => ?_)
set_option maxHeartbeats 8000000 in
set_option maxRecDepth 100000 in
theorem laws_FnMountsTypes.calls (k : Nat) (A0 : Option Addr) (c0 : Nat) (l0 : List (S36)) (A1 : Option Addr) (c1 : Nat) (l1 : List ByteArray) (r : Bool) (w : World) (hr0 : Kd.C k36 w A0 l0.length l0) (hc0 : l0.length ≤ c0) (hr1 : Kd.C Kd.string w A1 l1.length l1) (hc1 : l1.length ≤ c1) (h : laws_FnMountsTypes.f k l0 l1 = some r) :
    Calls Tryd.prog 5 #[.slice A0 l0.length c0, .slice A1 l1.length c1] w fun e w' => e = .returned (.bool r) ∧ Below w.heap.size w w' := by
  have hu36 := Tryd.underlying36
  have hu30 := Tryd.underlying30
  have HR0 := Aside0.mk hr0
  have HC0 := Aside0.mk hc0
  clear hr0 hc0
  have HR1 := Aside0.mk hr1
  have HC1 := Aside0.mk hc1
  clear hr1 hc1
  have HB := Aside0.mk (Below.refl w.heap.size w)
  have H : ((laws_zzFits1.f k l0).bind fun t243 => (if t243 = true then ((laws_zzFits4.f k l1).bind fun t244 => (laws_FnMountsTypes.j0 k l0 l1 (!t244))) else (laws_FnMountsTypes.j0 k l0 l1 true))) = some r := h
  clear h
  have HC3 := Aside0.mk H
  clear H
  go_enter Tryd.func5, Tryd.ntmps5
  go_upto_region 1 with (fail)
  go_cut [22] (fun v22 wc => ∃ (kq : Nat) (x22_2 : Bool), v22 = .bool x22_2 ∧ Aside0 (laws_FnMountsTypes.j0 kq l0 l1 x22_2 = some r) ∧ Aside0 (kq ≤ k) ∧ Aside0 (Below w.heap.size w wc))
  case first =>
    have H := HC3.out
    clear HC3
    replace H := Option.bind_eq_some_iff.mp H
    obtain ⟨t243, A40, H⟩ := H
    replace H : (if t243 = true then ((laws_zzFits4.f k l1).bind fun t244 => (laws_FnMountsTypes.j0 k l0 l1 (!t244))) else (laws_FnMountsTypes.j0 k l0 l1 true)) = some r := H
    have A4 := Aside0.mk A40
    clear A40
    by_cases c5 : t243 = true
    · subst c5
      have H1 : ((laws_zzFits4.f k l1).bind fun t244 => (laws_FnMountsTypes.j0 k l0 l1 (!t244))) = some r := by rw [if_pos rfl] at H; exact H
      clear H
      have H := H1
      clear H1
      replace H := Option.bind_eq_some_iff.mp H
      obtain ⟨t244, A60, H⟩ := H
      replace H : (laws_FnMountsTypes.j0 k l0 l1 (!t244)) = some r := H
      have A6 := Aside0.mk A60
      clear A60
      have H' := Aside0.mk H
      clear H
      go_wp2_with (first | ((with_reducible refine gate_callee (f := 6) rfl ?_); refine goesL_ (some 16) rfl rfl Tryd.func6 (by kernel_rfl) rfl #[.slice A0 l0.length c0] rfl (by (try simp only [List.map_toArray, List.map_cons, List.map_nil]); first | done | rfl | (simp only [List.length_drop, List.length_take]; rfl)) ?_; (with_reducible refine (laws_zzFits1.calls k _ _ l0 true _ ?side1 ?side2 A4.out).mono ?_); (case side1 => repeat (first | exact (Kd.C_below HR0.out HB.out) | (with_reducible refine Kd.C_alloc ?_ _) | (with_reducible refine Kd.C_drewN ?_ _) | (with_reducible refine Kd.C_drew ?_))); (case side2 => exact HC0.out); rintro e w7 ⟨rfl, hb⟩; refine ⟨_, rfl, ?_⟩; have n0_ := Aside0.mk (below_step (by repeat (first | (with_reducible first | exact HB.out | apply below_alloc | apply pw_below_drewN | apply below_drew1) | exact HB.out)) hb); clear HB; have HB := n0_; clear n0_; (try clear hb); (try clear hb2); (try clear hk); (try clear hi)) | (go_at_call 14; (with_reducible refine (laws_zzFits4.calls k _ _ l1 t244 _ ?side1 ?side2 A6.out).mono ?_); (case side1 => repeat (first | exact (Kd.C_below HR1.out HB.out) | (with_reducible refine Kd.C_alloc ?_ _) | (with_reducible refine Kd.C_drewN ?_ _) | (with_reducible refine Kd.C_drew ?_))); (case side2 => exact HC1.out); rintro e w' ⟨rfl, ⟨nd, rfl⟩⟩))
      go_meet
      case rel => exact ⟨_, (!t244), (by first | rfl | (simp; done) | (simp [*]; done)), H', ⟨by first | omega | exact Nat.le_refl _⟩, ⟨by repeat (first | (with_reducible first | exact HB.out | apply below_alloc | apply pw_below_drewN | apply below_drew1) | exact HB.out)⟩⟩
    · replace c5 := Bool.eq_false_iff.mpr c5
      subst c5
      have H1 : (laws_FnMountsTypes.j0 k l0 l1 true) = some r := by rw [if_neg (show ¬ (false = true) by decide)] at H; exact H
      clear H
      have H := H1
      clear H1
      have H' := Aside0.mk H
      clear H
      go_wp2_with (first | ((with_reducible refine gate_callee (f := 6) rfl ?_); refine goesL_ (some 16) rfl rfl Tryd.func6 (by kernel_rfl) rfl #[.slice A0 l0.length c0] rfl (by (try simp only [List.map_toArray, List.map_cons, List.map_nil]); first | done | rfl | (simp only [List.length_drop, List.length_take]; rfl)) ?_; (with_reducible refine (laws_zzFits1.calls k _ _ l0 false _ ?side1 ?side2 A4.out).mono ?_); (case side1 => repeat (first | exact (Kd.C_below HR0.out HB.out) | (with_reducible refine Kd.C_alloc ?_ _) | (with_reducible refine Kd.C_drewN ?_ _) | (with_reducible refine Kd.C_drew ?_))); (case side2 => exact HC0.out); rintro e w8 ⟨rfl, hb⟩; refine ⟨_, rfl, ?_⟩; have n0_ := Aside0.mk (below_step (by repeat (first | (with_reducible first | exact HB.out | apply below_alloc | apply pw_below_drewN | apply below_drew1) | exact HB.out)) hb); clear HB; have HB := n0_; clear n0_; (try clear hb); (try clear hb2); (try clear hk); (try clear hi)))
      go_meet
      case rel => exact ⟨_, (true), (by first | rfl | (simp; done) | (simp [*]; done)), H', ⟨by first | omega | exact Nat.le_refl _⟩, ⟨by repeat (first | (with_reducible first | exact HB.out | apply below_alloc | apply pw_below_drewN | apply below_drew1) | exact HB.out)⟩⟩
  case rest =>
    clear HC3
    try clear c1
    try clear p2
    try clear c5
    try clear c6
    obtain ⟨kq, x22_2, rfl, HA, HJ2, HB⟩ := hcut
    cases kq with
    | zero => exact absurd HA.out (by simp [laws_FnMountsTypes.j0])
    | succ kj2 =>
      have H := HA.out
      clear HA
      simp only [laws_FnMountsTypes.j0] at H
      by_cases c9 : x22_2 = true
      · subst c9
        have H1 : (some true) = some r := by rw [if_pos rfl] at H; exact H
        clear H
        have H := H1
        clear H1
        obtain rfl := Option.some.inj H
        go_wp2
        go_ret
        exact ⟨by first | rfl | (simp [errW_none, errW_some] <;> rfl) | (simp [*, errW_none, errW_some] <;> rfl), by repeat (first | (with_reducible first | exact HB.out | apply below_alloc | apply pw_below_drewN | apply below_drew1) | exact HB.out)⟩
      · replace c9 := Bool.eq_false_iff.mpr c9
        subst c9
        have H1 : ((laws_printed.f kj2 l0).bind fun bt245 => (if bt245.2 = true then (laws_FnMountsTypes.j1 kj2 l0 l1 bt245.1 (decide ((l1.length : Int) > 20))) else (laws_FnMountsTypes.j1 kj2 l0 l1 bt245.1 true))) = some r := by rw [if_neg (show ¬ (false = true) by decide)] at H; exact H
        clear H
        have H := H1
        clear H1
        replace H := Option.bind_eq_some_iff.mp H
        obtain ⟨⟨t245, t246⟩, A100, H⟩ := H
        replace H : (if t246 = true then (laws_FnMountsTypes.j1 kj2 l0 l1 t245 (decide ((l1.length : Int) > 20))) else (laws_FnMountsTypes.j1 kj2 l0 l1 t245 true)) = some r := H
        have A10 := Aside0.mk A100
        clear A100
        have HC11 := Aside0.mk H
        clear H
        go_upto_region 4 with (first | ((with_reducible refine gate_callee (f := 7) rfl ?_); refine goesL_ (some 25) rfl rfl Tryd.func7 (by kernel_rfl) rfl #[.slice A0 l0.length c0] rfl (by (try simp only [List.map_toArray, List.map_cons, List.map_nil]); first | done | rfl | (simp only [List.length_drop, List.length_take]; rfl)) ?_; (with_reducible refine (laws_printed.calls kj2 _ _ l0 t245 t246 _ ?side1 ?side2 A10.out).mono ?_); (case side1 => repeat (first | exact (Kd.C_below HR0.out HB.out) | (with_reducible refine Kd.C_alloc ?_ _) | (with_reducible refine Kd.C_drewN ?_ _) | (with_reducible refine Kd.C_drew ?_))); (case side2 => exact HC0.out); rintro e w12 ⟨rfl, hb⟩; refine ⟨_, rfl, ?_⟩; have n0_ := Aside0.mk (below_step (by repeat (first | (with_reducible first | exact HB.out | apply below_alloc | apply pw_below_drewN | apply below_drew1) | exact HB.out)) hb); clear HB; have HB := n0_; clear n0_; (try clear hb); (try clear hb2); (try clear hk); (try clear hi)))
        (try simp only [Act.put, List.setIfInBounds_toArray, List.set_cons_zero, List.set_cons_succ])
        go_cut [34] (fun v34 wc => ∃ (kq : Nat) (x34_10 : Bool), v34 = .bool x34_10 ∧ Aside0 (laws_FnMountsTypes.j1 kq l0 l1 t245 x34_10 = some r) ∧ Aside0 (kq ≤ kj2) ∧ Aside0 (Below w.heap.size w wc))
        case first =>
          have H := HC11.out
          clear HC11
          by_cases c13 : t246 = true
          · subst c13
            have H1 : (laws_FnMountsTypes.j1 kj2 l0 l1 t245 (decide ((l1.length : Int) > 20))) = some r := by rw [if_pos rfl] at H; exact H
            clear H
            have H := H1
            clear H1
            have H' := Aside0.mk H
            clear H
            go_wp2
            go_meet
            case rel => exact ⟨_, (decide ((l1.length : Int) > 20)), (by first | rfl | (simp; done) | (simp [*]; done)), H', ⟨by have := HJ2.out; first | omega | exact Nat.le_refl _⟩, ⟨by repeat (first | (with_reducible first | exact HB.out | apply below_alloc | apply pw_below_drewN | apply below_drew1) | exact HB.out)⟩⟩
          · replace c13 := Bool.eq_false_iff.mpr c13
            subst c13
            have H1 : (laws_FnMountsTypes.j1 kj2 l0 l1 t245 true) = some r := by rw [if_neg (show ¬ (false = true) by decide)] at H; exact H
            clear H
            have H := H1
            clear H1
            have H' := Aside0.mk H
            clear H
            go_wp2
            go_meet
            case rel => exact ⟨_, (true), (by first | rfl | (simp; done) | (simp [*]; done)), H', ⟨by have := HJ2.out; first | omega | exact Nat.le_refl _⟩, ⟨by repeat (first | (with_reducible first | exact HB.out | apply below_alloc | apply pw_below_drewN | apply below_drew1) | exact HB.out)⟩⟩
        case rest =>
          clear HC11
          try clear c1
          try clear p2
          try clear c5
          try clear c6
          try clear c7
          try clear c9
          try clear c13
          try clear p2
          obtain ⟨kq, x34_10, rfl, HA, HJ10, HB⟩ := hcut
          cases kq with
          | zero => exact absurd HA.out (by simp [laws_FnMountsTypes.j1])
          | succ kj10 =>
            have H := HA.out
            clear HA
            simp only [laws_FnMountsTypes.j1] at H
            by_cases c14 : x34_10 = true
            · subst c14
              have H1 : (some true) = some r := by rw [if_pos rfl] at H; exact H
              clear H
              have H := H1
              clear H1
              obtain rfl := Option.some.inj H
              go_wp2
              go_ret
              exact ⟨by first | rfl | (simp [errW_none, errW_some] <;> rfl) | (simp [*, errW_none, errW_some] <;> rfl), by repeat (first | (with_reducible first | exact HB.out | apply below_alloc | apply pw_below_drewN | apply below_drew1) | exact HB.out)⟩
            · replace c14 := Bool.eq_false_iff.mpr c14
              subst c14
              have H1 : (laws_FnMountsTypes.l0 kj10 l1 t245 ([] : List (S36)) l0 (l0.length : Int) 0) = some r := by rw [if_neg (show ¬ (false = true) by decide)] at H; exact H
              clear H
              have H := H1
              clear H1
              have H' := Aside0.mk H
              clear H
              go_wp2
              go_loopg [7, 37] kj10 (fun kq v7 v37 w' => ∃ (x7_3 : List (S36)) (x37_3 : Int), v37 = .int .i64 x37_3 ∧ Aside0 (laws_FnMountsTypes.l0 kq l1 t245 x7_3 l0 (l0.length : Int) x37_3 = some r) ∧ Aside0 (kq ≤ kj10) ∧ Aside0 (Kd.R k36 36 w' w.heap.size (fun _ => True) v7 x7_3) ∧ Aside0 (Below w.heap.size w w'))
              case atStart => exact ⟨(([] : List (S36))), (0), (by first | rfl | (simp; done) | (simp [*]; done)), H', ⟨Nat.le_refl _⟩, ⟨by first | exact Kd.R_nil _ _ _ _ _ | exact Kd.N_nil _ _ _ _ _ | exact Kd.V_nil _ _ _ _ _ | exact Kd.Q_nil _ _ _ _ _ | exact Kd.S_nil _ _ _ _ _⟩, ⟨by repeat (first | (with_reducible first | exact HB.out | apply below_alloc | apply pw_below_drewN | apply below_drew1) | exact HB.out)⟩⟩
              case round =>
                clear H'
                try clear c1
                try clear p2
                try clear c5
                try clear c6
                try clear c7
                try clear c9
                try clear c13
                try clear c14
                try clear p2
                obtain ⟨x7_3, x37_3, rfl, HA, HK3, HO_7, HB⟩ := hrel
                cases gk with
                | zero => exact absurd HA.out (by simp [laws_FnMountsTypes.l0])
                | succ k3 =>
                  have H := HA.out
                  clear HA
                  simp only [laws_FnMountsTypes.l0] at H
                  by_cases c15 : x37_3 < (l0.length : Int)
                  · rw [if_pos c15] at H
                    have c15b0 : decide (x37_3 < (l0.length : Int)) = true := decide_eq_true c15
                    clear c15
                    replace H := guard_inv H
                    obtain ⟨c16, H⟩ := H
                    have c16b0 : decide (0 ≤ x37_3) = true := decide_eq_true c16
                    clear c16
                    replace H := guard_inv H
                    obtain ⟨c17, H⟩ := H
                    have c17b0 : decide (x37_3 < (l0.length : Int)) = true := decide_eq_true c17
                    clear c17
                    have H' := Aside0.mk H
                    clear H
                    have p253 : 0 ≤ (x37_3 : Int) := of_decide_eq_true (by first | (with_reducible assumption) | assumption)
                    have q253 : x37_3 < (l0.length : Int) := of_decide_eq_true (by first | (with_reducible assumption) | assumption)
                    obtain ⟨ad253, e253, hx253_0, hx253_1, hx253_2, hx253_3, hx253_4, hx253_5, hx253_6, hx253_7, hx253_8, hx253_9, hx253_10⟩ := at_T36 HR0.out x37_3 p253 q253
                    cases e253
                    replace hx253_0 := (HB.out.cell (World.block_lt_of_cell? w _ hx253_0)).trans hx253_0
                    replace hx253_1 := (HB.out.cell (World.block_lt_of_cell? w _ hx253_1)).trans hx253_1
                    replace hx253_2 := (HB.out.cell (World.block_lt_of_cell? w _ hx253_2)).trans hx253_2
                    replace hx253_3 := (HB.out.cell (World.block_lt_of_cell? w _ hx253_3)).trans hx253_3
                    replace hx253_4 := (HB.out.cell (World.block_lt_of_cell? w _ hx253_4)).trans hx253_4
                    replace hx253_5 := (HB.out.cell (World.block_lt_of_cell? w _ hx253_5)).trans hx253_5
                    replace hx253_6 := (HB.out.cell (World.block_lt_of_cell? w _ hx253_6)).trans hx253_6
                    replace hx253_7 := (HB.out.cell (World.block_lt_of_cell? w _ hx253_7)).trans hx253_7
                    replace hx253_8 := (HB.out.cell (World.block_lt_of_cell? w _ hx253_8)).trans hx253_8
                    replace hx253_9 := (HB.out.cell (World.block_lt_of_cell? w _ hx253_9)).trans hx253_9
                    replace hx253_10 := (HB.out.cell (World.block_lt_of_cell? w _ hx253_10)).trans hx253_10
                    replace p253 := eq_true p253
                    replace q253 := eq_true q253
                    go_wp2_with (first | ((with_reducible refine gate_dst (N := 9) rfl ?_); (try (refine gate_guard (by rfl) ?_; dsimp only)); refine box_event ?hg (N := 9) ?hd (cs := #[.int .i64 0, .int .i64 0, .int .i64 0, .int .i64 0, .string (⟨#[]⟩ : ByteArray), .string (⟨#[]⟩ : ByteArray), .string (⟨#[]⟩ : ByteArray), .string (⟨#[]⟩ : ByteArray), .string (⟨#[]⟩ : ByteArray), .string (⟨#[]⟩ : ByteArray), .string (⟨#[]⟩ : ByteArray)]) (t := 36) ?hr ?_; (case hd => rfl); (case hg => rfl); (case hr => first | (go_simp; done) | (go_simp; rfl)); intro gb254 hg w18 hbox hb; have n0_ := Aside0.mk (Kd.R_below (Kd.R_elderB (by (with_reducible repeat (first | apply Kd.R_alloc | apply Kd.R_drewN | apply Kd.R_drew)); exact HO_7.out) gb254 (Nat.le_of_eq hg.symm)) hb); have n1_ := Aside0.mk (below_step (by repeat (first | (with_reducible first | exact HB.out | apply below_alloc | apply pw_below_drewN | apply below_drew1) | exact HB.out)) hb); have n2_ := Aside0.mk (hbox); have n3_ := Aside0.mk ((by rw [hg]; exact (below_size (by repeat (first | (with_reducible first | exact HB.out | apply below_alloc | apply pw_below_drewN | apply below_drew1) | exact HB.out))) : w.heap.size ≤ gb254)); have n4_ := Aside0.mk ((by rw [hg]; exact (below_size (by repeat (first | (with_reducible first | exact HB.out | apply below_alloc | apply pw_below_drewN | apply below_drew1) | exact HB.out))) : w.heap.size ≤ gb254)); clear HO_7; clear HB; have HO_7 := n0_; have HB := n1_; have BK254 := n2_; have GW254 := n3_; have GE254 := n4_; clear n0_ n1_ n2_ n3_ n4_; clear hb hbox hg; have hcz19_0 : w18.cell? ⟨gb254, 0, none⟩ = some (.int .i64 0) := (blk_cell BK254.out 0).trans rfl; have hcz19_1 : w18.cell? ⟨gb254, 1, none⟩ = some (.int .i64 0) := (blk_cell BK254.out 1).trans rfl; have hcz19_2 : w18.cell? ⟨gb254, 2, none⟩ = some (.int .i64 0) := (blk_cell BK254.out 2).trans rfl; have hcz19_3 : w18.cell? ⟨gb254, 3, none⟩ = some (.int .i64 0) := (blk_cell BK254.out 3).trans rfl; have hcz19_4 : w18.cell? ⟨gb254, 4, none⟩ = some (.string (⟨#[]⟩ : ByteArray)) := (blk_cell BK254.out 4).trans rfl; have hcz19_5 : w18.cell? ⟨gb254, 5, none⟩ = some (.string (⟨#[]⟩ : ByteArray)) := (blk_cell BK254.out 5).trans rfl; have hcz19_6 : w18.cell? ⟨gb254, 6, none⟩ = some (.string (⟨#[]⟩ : ByteArray)) := (blk_cell BK254.out 6).trans rfl; have hcz19_7 : w18.cell? ⟨gb254, 7, none⟩ = some (.string (⟨#[]⟩ : ByteArray)) := (blk_cell BK254.out 7).trans rfl; have hcz19_8 : w18.cell? ⟨gb254, 8, none⟩ = some (.string (⟨#[]⟩ : ByteArray)) := (blk_cell BK254.out 8).trans rfl; have hcz19_9 : w18.cell? ⟨gb254, 9, none⟩ = some (.string (⟨#[]⟩ : ByteArray)) := (blk_cell BK254.out 9).trans rfl; have hcz19_10 : w18.cell? ⟨gb254, 10, none⟩ = some (.string (⟨#[]⟩ : ByteArray)) := (blk_cell BK254.out 10).trans rfl; have hfz19_0 := blk_frozen BK254.out 0; have hfz19_1 := blk_frozen BK254.out 1; have hfz19_2 := blk_frozen BK254.out 2; have hfz19_3 := blk_frozen BK254.out 3; have hfz19_4 := blk_frozen BK254.out 4; have hfz19_5 := blk_frozen BK254.out 5; have hfz19_6 := blk_frozen BK254.out 6; have hfz19_7 := blk_frozen BK254.out 7; have hfz19_8 := blk_frozen BK254.out 8; have hfz19_9 := blk_frozen BK254.out 9; have hfz19_10 := blk_frozen BK254.out 10))
                    go_loopg [10, 43] k3 (fun kq v10 v43 w' => ∃ (x10_4 : Bool) (x43_4 : Int), v10 = .bool x10_4 ∧ v43 = .int .i64 x43_4 ∧ Aside0 (laws_FnMountsTypes.l1 kq l1 t245 x7_3 x10_4 l0 (l0.length : Int) x37_3 l1 (l1.length : Int) x43_4 ((rd_T36 l0 x37_3).f0) ((rd_T36 l0 x37_3).f1) ((rd_T36 l0 x37_3).f2) ((rd_T36 l0 x37_3).f3) ((rd_T36 l0 x37_3).f4) ((rd_T36 l0 x37_3).f5) ((rd_T36 l0 x37_3).f6) ((rd_T36 l0 x37_3).f7) ((rd_T36 l0 x37_3).f8) ((rd_T36 l0 x37_3).f9) ((rd_T36 l0 x37_3).f10) = some r) ∧ Aside0 (kq ≤ k3) ∧ Aside0 (Kd.R k36 36 w' w.heap.size (fun k_ => k_ ≠ gb254) u7 x7_3) ∧ Aside0 (w'.heap[gb254]? = some (.cells #[.int .i64 ((rd_T36 l0 x37_3).f0), .int .i64 ((rd_T36 l0 x37_3).f1), .int .i64 ((rd_T36 l0 x37_3).f2), .int .i64 ((rd_T36 l0 x37_3).f3), .string ((rd_T36 l0 x37_3).f4), .string ((rd_T36 l0 x37_3).f5), .string ((rd_T36 l0 x37_3).f6), .string ((rd_T36 l0 x37_3).f7), .string ((rd_T36 l0 x37_3).f8), .string ((rd_T36 l0 x37_3).f9), .string ((rd_T36 l0 x37_3).f10)] 36 (0, 0))) ∧ Aside0 (Below w.heap.size w w'))
                    case atStart => exact ⟨(false), (0), (by first | rfl | (simp; done) | (simp [*]; done)), (by first | rfl | (simp; done) | (simp [*]; done)), H', ⟨Nat.le_refl _⟩, ⟨by (with_reducible repeat (first | apply Kd.R_alloc | apply Kd.R_drewN | apply Kd.R_drew)); exact Kd.R_mono (Kd.R_far (p := ⟨gb254, 10, none⟩) (Kd.R_far (p := ⟨gb254, 9, none⟩) (Kd.R_far (p := ⟨gb254, 8, none⟩) (Kd.R_far (p := ⟨gb254, 7, none⟩) (Kd.R_far (p := ⟨gb254, 6, none⟩) (Kd.R_far (p := ⟨gb254, 5, none⟩) (Kd.R_far (p := ⟨gb254, 4, none⟩) (Kd.R_far (p := ⟨gb254, 3, none⟩) (Kd.R_far (p := ⟨gb254, 2, none⟩) (Kd.R_far (p := ⟨gb254, 1, none⟩) (Kd.R_far (p := ⟨gb254, 0, none⟩) (Kd.R_mono HO_7.out (fun k_ hk => (⟨hk, hk.2⟩ : _ ∧ k_ ≠ gb254))) (fun _ hk => hk.2) (.int .i64 ((rd_T36 l0 x37_3).f0))) (fun _ hk => hk.2) (.int .i64 ((rd_T36 l0 x37_3).f1))) (fun _ hk => hk.2) (.int .i64 ((rd_T36 l0 x37_3).f2))) (fun _ hk => hk.2) (.int .i64 ((rd_T36 l0 x37_3).f3))) (fun _ hk => hk.2) (.string ((rd_T36 l0 x37_3).f4))) (fun _ hk => hk.2) (.string ((rd_T36 l0 x37_3).f5))) (fun _ hk => hk.2) (.string ((rd_T36 l0 x37_3).f6))) (fun _ hk => hk.2) (.string ((rd_T36 l0 x37_3).f7))) (fun _ hk => hk.2) (.string ((rd_T36 l0 x37_3).f8))) (fun _ hk => hk.2) (.string ((rd_T36 l0 x37_3).f9))) (fun _ hk => hk.2) (.string ((rd_T36 l0 x37_3).f10))) (fun _ hk => hk.1.2)⟩, ⟨by (with_reducible repeat (first | refine blk_drewN ?_ _ | refine blk_drew ?_ | refine blk_alloc ?_ _)); refine blk_put (cs := #[.int .i64 ((rd_T36 l0 x37_3).f0), .int .i64 ((rd_T36 l0 x37_3).f1), .int .i64 ((rd_T36 l0 x37_3).f2), .int .i64 ((rd_T36 l0 x37_3).f3), .string ((rd_T36 l0 x37_3).f4), .string ((rd_T36 l0 x37_3).f5), .string ((rd_T36 l0 x37_3).f6), .string ((rd_T36 l0 x37_3).f7), .string ((rd_T36 l0 x37_3).f8), .string ((rd_T36 l0 x37_3).f9), .string (⟨#[]⟩ : ByteArray)]) ?_ 10 _ rfl; (with_reducible repeat (first | refine blk_drewN ?_ _ | refine blk_drew ?_ | refine blk_alloc ?_ _)); refine blk_put (cs := #[.int .i64 ((rd_T36 l0 x37_3).f0), .int .i64 ((rd_T36 l0 x37_3).f1), .int .i64 ((rd_T36 l0 x37_3).f2), .int .i64 ((rd_T36 l0 x37_3).f3), .string ((rd_T36 l0 x37_3).f4), .string ((rd_T36 l0 x37_3).f5), .string ((rd_T36 l0 x37_3).f6), .string ((rd_T36 l0 x37_3).f7), .string ((rd_T36 l0 x37_3).f8), .string (⟨#[]⟩ : ByteArray), .string (⟨#[]⟩ : ByteArray)]) ?_ 9 _ rfl; (with_reducible repeat (first | refine blk_drewN ?_ _ | refine blk_drew ?_ | refine blk_alloc ?_ _)); refine blk_put (cs := #[.int .i64 ((rd_T36 l0 x37_3).f0), .int .i64 ((rd_T36 l0 x37_3).f1), .int .i64 ((rd_T36 l0 x37_3).f2), .int .i64 ((rd_T36 l0 x37_3).f3), .string ((rd_T36 l0 x37_3).f4), .string ((rd_T36 l0 x37_3).f5), .string ((rd_T36 l0 x37_3).f6), .string ((rd_T36 l0 x37_3).f7), .string (⟨#[]⟩ : ByteArray), .string (⟨#[]⟩ : ByteArray), .string (⟨#[]⟩ : ByteArray)]) ?_ 8 _ rfl; (with_reducible repeat (first | refine blk_drewN ?_ _ | refine blk_drew ?_ | refine blk_alloc ?_ _)); refine blk_put (cs := #[.int .i64 ((rd_T36 l0 x37_3).f0), .int .i64 ((rd_T36 l0 x37_3).f1), .int .i64 ((rd_T36 l0 x37_3).f2), .int .i64 ((rd_T36 l0 x37_3).f3), .string ((rd_T36 l0 x37_3).f4), .string ((rd_T36 l0 x37_3).f5), .string ((rd_T36 l0 x37_3).f6), .string (⟨#[]⟩ : ByteArray), .string (⟨#[]⟩ : ByteArray), .string (⟨#[]⟩ : ByteArray), .string (⟨#[]⟩ : ByteArray)]) ?_ 7 _ rfl; (with_reducible repeat (first | refine blk_drewN ?_ _ | refine blk_drew ?_ | refine blk_alloc ?_ _)); refine blk_put (cs := #[.int .i64 ((rd_T36 l0 x37_3).f0), .int .i64 ((rd_T36 l0 x37_3).f1), .int .i64 ((rd_T36 l0 x37_3).f2), .int .i64 ((rd_T36 l0 x37_3).f3), .string ((rd_T36 l0 x37_3).f4), .string ((rd_T36 l0 x37_3).f5), .string (⟨#[]⟩ : ByteArray), .string (⟨#[]⟩ : ByteArray), .string (⟨#[]⟩ : ByteArray), .string (⟨#[]⟩ : ByteArray), .string (⟨#[]⟩ : ByteArray)]) ?_ 6 _ rfl; (with_reducible repeat (first | refine blk_drewN ?_ _ | refine blk_drew ?_ | refine blk_alloc ?_ _)); refine blk_put (cs := #[.int .i64 ((rd_T36 l0 x37_3).f0), .int .i64 ((rd_T36 l0 x37_3).f1), .int .i64 ((rd_T36 l0 x37_3).f2), .int .i64 ((rd_T36 l0 x37_3).f3), .string ((rd_T36 l0 x37_3).f4), .string (⟨#[]⟩ : ByteArray), .string (⟨#[]⟩ : ByteArray), .string (⟨#[]⟩ : ByteArray), .string (⟨#[]⟩ : ByteArray), .string (⟨#[]⟩ : ByteArray), .string (⟨#[]⟩ : ByteArray)]) ?_ 5 _ rfl; (with_reducible repeat (first | refine blk_drewN ?_ _ | refine blk_drew ?_ | refine blk_alloc ?_ _)); refine blk_put (cs := #[.int .i64 ((rd_T36 l0 x37_3).f0), .int .i64 ((rd_T36 l0 x37_3).f1), .int .i64 ((rd_T36 l0 x37_3).f2), .int .i64 ((rd_T36 l0 x37_3).f3), .string (⟨#[]⟩ : ByteArray), .string (⟨#[]⟩ : ByteArray), .string (⟨#[]⟩ : ByteArray), .string (⟨#[]⟩ : ByteArray), .string (⟨#[]⟩ : ByteArray), .string (⟨#[]⟩ : ByteArray), .string (⟨#[]⟩ : ByteArray)]) ?_ 4 _ rfl; (with_reducible repeat (first | refine blk_drewN ?_ _ | refine blk_drew ?_ | refine blk_alloc ?_ _)); refine blk_put (cs := #[.int .i64 ((rd_T36 l0 x37_3).f0), .int .i64 ((rd_T36 l0 x37_3).f1), .int .i64 ((rd_T36 l0 x37_3).f2), .int .i64 0, .string (⟨#[]⟩ : ByteArray), .string (⟨#[]⟩ : ByteArray), .string (⟨#[]⟩ : ByteArray), .string (⟨#[]⟩ : ByteArray), .string (⟨#[]⟩ : ByteArray), .string (⟨#[]⟩ : ByteArray), .string (⟨#[]⟩ : ByteArray)]) ?_ 3 _ rfl; (with_reducible repeat (first | refine blk_drewN ?_ _ | refine blk_drew ?_ | refine blk_alloc ?_ _)); refine blk_put (cs := #[.int .i64 ((rd_T36 l0 x37_3).f0), .int .i64 ((rd_T36 l0 x37_3).f1), .int .i64 0, .int .i64 0, .string (⟨#[]⟩ : ByteArray), .string (⟨#[]⟩ : ByteArray), .string (⟨#[]⟩ : ByteArray), .string (⟨#[]⟩ : ByteArray), .string (⟨#[]⟩ : ByteArray), .string (⟨#[]⟩ : ByteArray), .string (⟨#[]⟩ : ByteArray)]) ?_ 2 _ rfl; (with_reducible repeat (first | refine blk_drewN ?_ _ | refine blk_drew ?_ | refine blk_alloc ?_ _)); refine blk_put (cs := #[.int .i64 ((rd_T36 l0 x37_3).f0), .int .i64 0, .int .i64 0, .int .i64 0, .string (⟨#[]⟩ : ByteArray), .string (⟨#[]⟩ : ByteArray), .string (⟨#[]⟩ : ByteArray), .string (⟨#[]⟩ : ByteArray), .string (⟨#[]⟩ : ByteArray), .string (⟨#[]⟩ : ByteArray), .string (⟨#[]⟩ : ByteArray)]) ?_ 1 _ rfl; (with_reducible repeat (first | refine blk_drewN ?_ _ | refine blk_drew ?_ | refine blk_alloc ?_ _)); refine blk_put (cs := #[.int .i64 0, .int .i64 0, .int .i64 0, .int .i64 0, .string (⟨#[]⟩ : ByteArray), .string (⟨#[]⟩ : ByteArray), .string (⟨#[]⟩ : ByteArray), .string (⟨#[]⟩ : ByteArray), .string (⟨#[]⟩ : ByteArray), .string (⟨#[]⟩ : ByteArray), .string (⟨#[]⟩ : ByteArray)]) ?_ 0 _ rfl; (with_reducible repeat (first | refine blk_drewN ?_ _ | refine blk_drew ?_ | refine blk_alloc ?_ _)); exact BK254.out⟩, ⟨by repeat (first | (with_reducible first | exact HB.out | apply below_alloc | apply pw_below_drewN | apply below_drew1 | refine below_set ?_ GE254.out) | exact HB.out)⟩⟩
                    case round =>
                      clear H'
                      try clear c1
                      try clear p2
                      try clear q2
                      try clear hx2
                      try clear c5
                      try clear c6
                      try clear c7
                      try clear c9
                      try clear c13
                      try clear c14
                      try clear c15
                      try clear c15b0
                      try clear c16
                      try clear c16b0
                      try clear c17
                      try clear c17b0
                      try clear hcz19_0
                      try clear hcz19_1
                      try clear hcz19_10
                      try clear hcz19_2
                      try clear hcz19_3
                      try clear hcz19_4
                      try clear hcz19_5
                      try clear hcz19_6
                      try clear hcz19_7
                      try clear hcz19_8
                      try clear hcz19_9
                      try clear hfz19_0
                      try clear hfz19_1
                      try clear hfz19_10
                      try clear hfz19_2
                      try clear hfz19_3
                      try clear hfz19_4
                      try clear hfz19_5
                      try clear hfz19_6
                      try clear hfz19_7
                      try clear hfz19_8
                      try clear hfz19_9
                      try clear hx253_0
                      try clear hx253_1
                      try clear hx253_10
                      try clear hx253_2
                      try clear hx253_3
                      try clear hx253_4
                      try clear hx253_5
                      try clear hx253_6
                      try clear hx253_7
                      try clear hx253_8
                      try clear hx253_9
                      try clear p2
                      try clear p253
                      try clear q253
                      obtain ⟨x10_4, x43_4, rfl, rfl, HA, HK4, HO_7, BK254, HB⟩ := hrel
                      cases gk with
                      | zero => exact absurd HA.out (by simp [laws_FnMountsTypes.l1])
                      | succ k4 =>
                        have H := HA.out
                        clear HA
                        simp only [laws_FnMountsTypes.l1] at H
                        by_cases c20 : x43_4 < (l1.length : Int)
                        · rw [if_pos c20] at H
                          have c20b0 : decide (x43_4 < (l1.length : Int)) = true := decide_eq_true c20
                          clear c20
                          replace H := guard_inv H
                          obtain ⟨c21, H⟩ := H
                          have c21b0 : decide (0 ≤ x43_4) = true := decide_eq_true c21
                          clear c21
                          replace H := guard_inv H
                          obtain ⟨c22, H⟩ := H
                          have c22b0 : decide (x43_4 < (l1.length : Int)) = true := decide_eq_true c22
                          clear c22
                          by_cases c23 : x10_4 = true
                          · subst c23
                            have H1 : (laws_FnMountsTypes.l1 k4 l1 t245 x7_3 true l0 (l0.length : Int) x37_3 l1 (l1.length : Int) (wrap64 (x43_4 + 1)) ((rd_T36 l0 x37_3).f0) ((rd_T36 l0 x37_3).f1) ((rd_T36 l0 x37_3).f2) ((rd_T36 l0 x37_3).f3) ((rd_T36 l0 x37_3).f4) ((rd_T36 l0 x37_3).f5) ((rd_T36 l0 x37_3).f6) ((rd_T36 l0 x37_3).f7) ((rd_T36 l0 x37_3).f8) ((rd_T36 l0 x37_3).f9) ((rd_T36 l0 x37_3).f10)) = some r := by rw [if_pos rfl] at H; exact H
                            clear H
                            have H := H1
                            clear H1
                            have H' := Aside0.mk H
                            clear H
                            have p255 : 0 ≤ (x43_4 : Int) := of_decide_eq_true (by first | (with_reducible assumption) | assumption)
                            have q255 : x43_4 < (l1.length : Int) := of_decide_eq_true (by first | (with_reducible assumption) | assumption)
                            obtain ⟨ad255, e255, hx255_0⟩ := Kd.at_string HR1.out x43_4 p255 q255
                            cases e255
                            replace hx255_0 := (HB.out.cell (World.block_lt_of_cell? w _ hx255_0)).trans hx255_0
                            replace p255 := eq_true p255
                            replace q255 := eq_true q255
                            go_wp2
                            go_roundg k4
                            case measure => have := HJ2.out; have := HJ10.out; have := HK3.out; have := HK4.out; omega
                            case rel => exact ⟨(true), (wrap64 (x43_4 + 1)), (by first | rfl | (simp; done) | (simp [*]; done)), (by first | rfl | (simp; done) | (simp [*]; done)), H', ⟨by have := HJ2.out; have := HJ10.out; have := HK3.out; have := HK4.out; omega⟩, ⟨by (with_reducible repeat (first | apply Kd.R_alloc | apply Kd.R_drewN | apply Kd.R_drew)); exact HO_7.out⟩, ⟨by (with_reducible repeat (first | refine blk_drewN ?_ _ | refine blk_drew ?_ | refine blk_alloc ?_ _)); exact BK254.out⟩, ⟨by repeat (first | (with_reducible first | exact HB.out | apply below_alloc | apply pw_below_drewN | apply below_drew1 | refine below_set ?_ GE254.out) | exact HB.out)⟩⟩
                          · replace c23 := Bool.eq_false_iff.mpr c23
                            subst c23
                            have H1 : (laws_FnMountsTypes.l1 k4 l1 t245 x7_3 ((rdOf ByteArray.empty l1 x43_4).toList == ((rd_T36 l0 x37_3).f8).toList) l0 (l0.length : Int) x37_3 l1 (l1.length : Int) (wrap64 (x43_4 + 1)) ((rd_T36 l0 x37_3).f0) ((rd_T36 l0 x37_3).f1) ((rd_T36 l0 x37_3).f2) ((rd_T36 l0 x37_3).f3) ((rd_T36 l0 x37_3).f4) ((rd_T36 l0 x37_3).f5) ((rd_T36 l0 x37_3).f6) ((rd_T36 l0 x37_3).f7) ((rd_T36 l0 x37_3).f8) ((rd_T36 l0 x37_3).f9) ((rd_T36 l0 x37_3).f10)) = some r := by rw [if_neg (show ¬ (false = true) by decide)] at H; exact H
                            clear H
                            have H := H1
                            clear H1
                            have H' := Aside0.mk H
                            clear H
                            have p255 : 0 ≤ (x43_4 : Int) := of_decide_eq_true (by first | (with_reducible assumption) | assumption)
                            have q255 : x43_4 < (l1.length : Int) := of_decide_eq_true (by first | (with_reducible assumption) | assumption)
                            obtain ⟨ad255, e255, hx255_0⟩ := Kd.at_string HR1.out x43_4 p255 q255
                            cases e255
                            replace hx255_0 := (HB.out.cell (World.block_lt_of_cell? w _ hx255_0)).trans hx255_0
                            replace p255 := eq_true p255
                            replace q255 := eq_true q255
                            have hcz24_0 : wr.cell? ⟨gb254, 0, none⟩ = some (.int .i64 ((rd_T36 l0 x37_3).f0)) := (blk_cell BK254.out 0).trans rfl
                            have hcz24_1 : wr.cell? ⟨gb254, 1, none⟩ = some (.int .i64 ((rd_T36 l0 x37_3).f1)) := (blk_cell BK254.out 1).trans rfl
                            have hcz24_2 : wr.cell? ⟨gb254, 2, none⟩ = some (.int .i64 ((rd_T36 l0 x37_3).f2)) := (blk_cell BK254.out 2).trans rfl
                            have hcz24_3 : wr.cell? ⟨gb254, 3, none⟩ = some (.int .i64 ((rd_T36 l0 x37_3).f3)) := (blk_cell BK254.out 3).trans rfl
                            have hcz24_4 : wr.cell? ⟨gb254, 4, none⟩ = some (.string ((rd_T36 l0 x37_3).f4)) := (blk_cell BK254.out 4).trans rfl
                            have hcz24_5 : wr.cell? ⟨gb254, 5, none⟩ = some (.string ((rd_T36 l0 x37_3).f5)) := (blk_cell BK254.out 5).trans rfl
                            have hcz24_6 : wr.cell? ⟨gb254, 6, none⟩ = some (.string ((rd_T36 l0 x37_3).f6)) := (blk_cell BK254.out 6).trans rfl
                            have hcz24_7 : wr.cell? ⟨gb254, 7, none⟩ = some (.string ((rd_T36 l0 x37_3).f7)) := (blk_cell BK254.out 7).trans rfl
                            have hcz24_8 : wr.cell? ⟨gb254, 8, none⟩ = some (.string ((rd_T36 l0 x37_3).f8)) := (blk_cell BK254.out 8).trans rfl
                            have hcz24_9 : wr.cell? ⟨gb254, 9, none⟩ = some (.string ((rd_T36 l0 x37_3).f9)) := (blk_cell BK254.out 9).trans rfl
                            have hcz24_10 : wr.cell? ⟨gb254, 10, none⟩ = some (.string ((rd_T36 l0 x37_3).f10)) := (blk_cell BK254.out 10).trans rfl
                            have hfz24_0 := blk_frozen BK254.out 0
                            have hfz24_1 := blk_frozen BK254.out 1
                            have hfz24_2 := blk_frozen BK254.out 2
                            have hfz24_3 := blk_frozen BK254.out 3
                            have hfz24_4 := blk_frozen BK254.out 4
                            have hfz24_5 := blk_frozen BK254.out 5
                            have hfz24_6 := blk_frozen BK254.out 6
                            have hfz24_7 := blk_frozen BK254.out 7
                            have hfz24_8 := blk_frozen BK254.out 8
                            have hfz24_9 := blk_frozen BK254.out 9
                            have hfz24_10 := blk_frozen BK254.out 10
                            go_wp2
                            go_roundg k4
                            case measure => have := HJ2.out; have := HJ10.out; have := HK3.out; have := HK4.out; omega
                            case rel => exact ⟨(((rdOf ByteArray.empty l1 x43_4).toList == ((rd_T36 l0 x37_3).f8).toList)), (wrap64 (x43_4 + 1)), (by first | rfl | (simp; done) | (simp [*]; done)), (by first | rfl | (simp; done) | (simp [*]; done)), H', ⟨by have := HJ2.out; have := HJ10.out; have := HK3.out; have := HK4.out; omega⟩, ⟨by (with_reducible repeat (first | apply Kd.R_alloc | apply Kd.R_drewN | apply Kd.R_drew)); exact HO_7.out⟩, ⟨by (with_reducible repeat (first | refine blk_drewN ?_ _ | refine blk_drew ?_ | refine blk_alloc ?_ _)); exact BK254.out⟩, ⟨by repeat (first | (with_reducible first | exact HB.out | apply below_alloc | apply pw_below_drewN | apply below_drew1 | refine below_set ?_ GE254.out) | exact HB.out)⟩⟩
                        · rw [if_neg c20] at H
                          have c20b0 : decide (x43_4 < (l1.length : Int)) = false := decide_eq_false c20
                          clear c20
                          by_cases c25 : x10_4 = true
                          · subst c25
                            have H1 : (if x7_3.length < 977343669134 then (laws_FnMountsTypes.l0 k4 l1 t245 (x7_3 ++ [(⟨((rd_T36 l0 x37_3).f0), ((rd_T36 l0 x37_3).f1), ((rd_T36 l0 x37_3).f2), ((rd_T36 l0 x37_3).f3), ((rd_T36 l0 x37_3).f4), ((rd_T36 l0 x37_3).f5), ((rd_T36 l0 x37_3).f6), ((rd_T36 l0 x37_3).f7), ((rd_T36 l0 x37_3).f8), ((rd_T36 l0 x37_3).f9), ((rd_T36 l0 x37_3).f10)⟩ : S36)]) l0 (l0.length : Int) (wrap64 (x37_3 + 1))) else (none)) = some r := by rw [if_pos rfl] at H; exact H
                            clear H
                            have H := H1
                            clear H1
                            replace H := guard_inv H
                            obtain ⟨c26, H⟩ := H
                            have LMc26 := Aside0.mk c26
                            clear c26
                            obtain ⟨y256, hy256⟩ : ∃ y_ : List (S36), y_ = (x7_3 ++ [(⟨((rd_T36 l0 x37_3).f0), ((rd_T36 l0 x37_3).f1), ((rd_T36 l0 x37_3).f2), ((rd_T36 l0 x37_3).f3), ((rd_T36 l0 x37_3).f4), ((rd_T36 l0 x37_3).f5), ((rd_T36 l0 x37_3).f6), ((rd_T36 l0 x37_3).f7), ((rd_T36 l0 x37_3).f8), ((rd_T36 l0 x37_3).f9), ((rd_T36 l0 x37_3).f10)⟩ : S36)]) := ⟨_, rfl⟩
                            replace H : (laws_FnMountsTypes.l0 k4 l1 t245 y256 l0 (l0.length : Int) (wrap64 (x37_3 + 1))) = some r := by first | (rw [hy256]; with_reducible exact H) | (have H2_ := (Option.bind_some _ _).symm.trans H; rw [hy256]; with_reducible exact H2_) | (have H2_ := (Option.bind_some _ _).symm.trans H; with_reducible exact H2_) | with_reducible exact H | (rw [hy256]; exact H) | exact H
                            have Ny256 := Aside0.mk hy256
                            clear hy256
                            have H' := Aside0.mk H
                            clear H
                            have hcz27_0 : wr.cell? ⟨gb254, 0, none⟩ = some (.int .i64 ((rd_T36 l0 x37_3).f0)) := (blk_cell BK254.out 0).trans rfl
                            have hcz27_1 : wr.cell? ⟨gb254, 1, none⟩ = some (.int .i64 ((rd_T36 l0 x37_3).f1)) := (blk_cell BK254.out 1).trans rfl
                            have hcz27_2 : wr.cell? ⟨gb254, 2, none⟩ = some (.int .i64 ((rd_T36 l0 x37_3).f2)) := (blk_cell BK254.out 2).trans rfl
                            have hcz27_3 : wr.cell? ⟨gb254, 3, none⟩ = some (.int .i64 ((rd_T36 l0 x37_3).f3)) := (blk_cell BK254.out 3).trans rfl
                            have hcz27_4 : wr.cell? ⟨gb254, 4, none⟩ = some (.string ((rd_T36 l0 x37_3).f4)) := (blk_cell BK254.out 4).trans rfl
                            have hcz27_5 : wr.cell? ⟨gb254, 5, none⟩ = some (.string ((rd_T36 l0 x37_3).f5)) := (blk_cell BK254.out 5).trans rfl
                            have hcz27_6 : wr.cell? ⟨gb254, 6, none⟩ = some (.string ((rd_T36 l0 x37_3).f6)) := (blk_cell BK254.out 6).trans rfl
                            have hcz27_7 : wr.cell? ⟨gb254, 7, none⟩ = some (.string ((rd_T36 l0 x37_3).f7)) := (blk_cell BK254.out 7).trans rfl
                            have hcz27_8 : wr.cell? ⟨gb254, 8, none⟩ = some (.string ((rd_T36 l0 x37_3).f8)) := (blk_cell BK254.out 8).trans rfl
                            have hcz27_9 : wr.cell? ⟨gb254, 9, none⟩ = some (.string ((rd_T36 l0 x37_3).f9)) := (blk_cell BK254.out 9).trans rfl
                            have hcz27_10 : wr.cell? ⟨gb254, 10, none⟩ = some (.string ((rd_T36 l0 x37_3).f10)) := (blk_cell BK254.out 10).trans rfl
                            have hfz27_0 := blk_frozen BK254.out 0
                            have hfz27_1 := blk_frozen BK254.out 1
                            have hfz27_2 := blk_frozen BK254.out 2
                            have hfz27_3 := blk_frozen BK254.out 3
                            have hfz27_4 := blk_frozen BK254.out 4
                            have hfz27_5 := blk_frozen BK254.out 5
                            have hfz27_6 := blk_frozen BK254.out 6
                            have hfz27_7 := blk_frozen BK254.out 7
                            have hfz27_8 := blk_frozen BK254.out 8
                            have hfz27_9 := blk_frozen BK254.out 9
                            have hfz27_10 := blk_frozen BK254.out 10
                            go_wp2_with (first | ((with_reducible refine gate_builtin (b := .append) (xs := #[.tmp 56, .tmp 58]) rfl ?_); (try (refine gate_guard (by rfl) ?_; dsimp only)); at_builtin; refine Kd.R_append k36 (w0 := w) w.heap.size rfl (.tmp 56) (.tmp 58) 22 36 (.agg #[(.int .i64 0), (.int .i64 0), (.int .i64 0), (.int .i64 0), (.string ⟨#[]⟩), (.string ⟨#[]⟩), (.string ⟨#[]⟩), (.string ⟨#[]⟩), (.string ⟨#[]⟩), (.string ⟨#[]⟩), (.string ⟨#[]⟩)]) 144 rfl Tryd.underlying22 info36 rfl (by decide) (by omega) u7 x7_3 (⟨((rd_T36 l0 x37_3).f0), ((rd_T36 l0 x37_3).f1), ((rd_T36 l0 x37_3).f2), ((rd_T36 l0 x37_3).f3), ((rd_T36 l0 x37_3).f4), ((rd_T36 l0 x37_3).f5), ((rd_T36 l0 x37_3).f6), ((rd_T36 l0 x37_3).f7), ((rd_T36 l0 x37_3).f8), ((rd_T36 l0 x37_3).f9), ((rd_T36 l0 x37_3).f10)⟩ : S36) [.int .i64 ((rd_T36 l0 x37_3).f0), .int .i64 ((rd_T36 l0 x37_3).f1), .int .i64 ((rd_T36 l0 x37_3).f2), .int .i64 ((rd_T36 l0 x37_3).f3), .string ((rd_T36 l0 x37_3).f4), .string ((rd_T36 l0 x37_3).f5), .string ((rd_T36 l0 x37_3).f6), .string ((rd_T36 l0 x37_3).f7), .string ((rd_T36 l0 x37_3).f8), .string ((rd_T36 l0 x37_3).f9), .string ((rd_T36 l0 x37_3).f10)] (fun k_ => k_ ≠ gb254) (fun _ => False) rfl rfl ?aP (fun _ hk => hk.elim) ?aF ?aO ?aB ?aS ?aL ?_; (case aP => exact k36_mkM _ _ _ (⟨((rd_T36 l0 x37_3).f0), ((rd_T36 l0 x37_3).f1), ((rd_T36 l0 x37_3).f2), ((rd_T36 l0 x37_3).f3), ((rd_T36 l0 x37_3).f4), ((rd_T36 l0 x37_3).f5), ((rd_T36 l0 x37_3).f6), ((rd_T36 l0 x37_3).f7), ((rd_T36 l0 x37_3).f8), ((rd_T36 l0 x37_3).f9), ((rd_T36 l0 x37_3).f10)⟩ : S36)); (case aB => exact (by repeat (first | (with_reducible first | exact HB.out | apply below_alloc | apply pw_below_drewN | apply below_drew1 | refine below_set ?_ GE254.out) | exact HB.out))); (case aF => exact (fun k_ hk => Kd.freshB (g := gb254) (o := .cells #[.int .i64 ((rd_T36 l0 x37_3).f0), .int .i64 ((rd_T36 l0 x37_3).f1), .int .i64 ((rd_T36 l0 x37_3).f2), .int .i64 ((rd_T36 l0 x37_3).f3), .string ((rd_T36 l0 x37_3).f4), .string ((rd_T36 l0 x37_3).f5), .string ((rd_T36 l0 x37_3).f6), .string ((rd_T36 l0 x37_3).f7), .string ((rd_T36 l0 x37_3).f8), .string ((rd_T36 l0 x37_3).f9), .string ((rd_T36 l0 x37_3).f10)] 36 (0, 0)) (by (with_reducible repeat (first | refine blk_drewN ?_ _ | refine blk_drew ?_ | refine blk_alloc ?_ _)); exact BK254.out) k_ hk)); (case aO => exact (by (with_reducible repeat (first | apply Kd.R_alloc | apply Kd.R_drewN | apply Kd.R_drew)); exact HO_7.out)); (case aS => exact (below_size (by repeat (first | (with_reducible first | exact HB.out | apply below_alloc | apply pw_below_drewN | apply below_drew1 | refine below_set ?_ GE254.out) | exact HB.out)))); (case aL => have := LMc26.out; omega); intro v257 w28 ho hb hg hat; rw [← Ny256.out] at ho; have n0_ := Aside0.mk (blk_grown (g := gb254) (o := .cells #[.int .i64 ((rd_T36 l0 x37_3).f0), .int .i64 ((rd_T36 l0 x37_3).f1), .int .i64 ((rd_T36 l0 x37_3).f2), .int .i64 ((rd_T36 l0 x37_3).f3), .string ((rd_T36 l0 x37_3).f4), .string ((rd_T36 l0 x37_3).f5), .string ((rd_T36 l0 x37_3).f6), .string ((rd_T36 l0 x37_3).f7), .string ((rd_T36 l0 x37_3).f8), .string ((rd_T36 l0 x37_3).f9), .string ((rd_T36 l0 x37_3).f10)] 36 (0, 0)) (by (with_reducible repeat (first | refine blk_drewN ?_ _ | refine blk_drew ?_ | refine blk_alloc ?_ _)); exact BK254.out) hg (Kd.R_away HO_7.out (fun _ hk => hk))); have n1_ := Aside0.mk (hb); have n2_ := Aside0.mk (ho); clear BK254; clear HB; clear HO_7; have BK254 := n0_; have HB := n1_; have HO258 := n2_; clear n0_ n1_ n2_; clear ho hb hg hat))
                            go_roundg k4
                            case measure => have := HJ2.out; have := HJ10.out; have := HK3.out; have := HK4.out; omega
                            case rel => exact ⟨(y256), (wrap64 (x37_3 + 1)), (by first | rfl | (simp; done) | (simp [*]; done)), H', ⟨by have := HJ2.out; have := HJ10.out; have := HK3.out; have := HK4.out; omega⟩, ⟨by (with_reducible repeat (first | apply Kd.R_alloc | apply Kd.R_drewN | apply Kd.R_drew)); exact Kd.R_mono HO258.out (fun _ hk => trivial)⟩, ⟨by repeat (first | (with_reducible first | exact HB.out | apply below_alloc | apply pw_below_drewN | apply below_drew1 | refine below_set ?_ GE254.out) | exact HB.out)⟩⟩
                          · replace c25 := Bool.eq_false_iff.mpr c25
                            subst c25
                            have H1 : (laws_FnMountsTypes.l0 k4 l1 t245 x7_3 l0 (l0.length : Int) (wrap64 (x37_3 + 1))) = some r := by rw [if_neg (show ¬ (false = true) by decide)] at H; exact H
                            clear H
                            have H := H1
                            clear H1
                            have H' := Aside0.mk H
                            clear H
                            go_wp2
                            go_roundg k4
                            case measure => have := HJ2.out; have := HJ10.out; have := HK3.out; have := HK4.out; omega
                            case rel => exact ⟨(x7_3), (wrap64 (x37_3 + 1)), (by first | rfl | (simp; done) | (simp [*]; done)), H', ⟨by have := HJ2.out; have := HJ10.out; have := HK3.out; have := HK4.out; omega⟩, ⟨by (with_reducible repeat (first | apply Kd.R_alloc | apply Kd.R_drewN | apply Kd.R_drew)); exact Kd.R_mono HO_7.out (fun _ hk => trivial)⟩, ⟨by repeat (first | (with_reducible first | exact HB.out | apply below_alloc | apply pw_below_drewN | apply below_drew1 | refine below_set ?_ GE254.out) | exact HB.out)⟩⟩
                  · rw [if_neg c15] at H
                    have c15b0 : decide (x37_3 < (l0.length : Int)) = false := decide_eq_false c15
                    clear c15
                    replace H := Option.bind_eq_some_iff.mp H
                    obtain ⟨⟨t247, t250⟩, A290, H⟩ := H
                    replace H : (if t250 = 0 then ((laws_sameMounts.f k3 t247 x7_3).bind fun t251 => (if t251 = true then ((laws_mounts.f k3).bind fun t252 => (some t252)) else (some false))) else (some false)) = some r := H
                    have A29 := Aside0.mk A290
                    clear A290
                    by_cases c30 : t250 = 0
                    · rw [if_pos c30] at H
                      have c30b0 : (t250 == 0) = true := beq_iff_eq.mpr c30
                      have c30b1 : (t250 != 0) = false := bne_eq_false_iff_eq.mpr c30
                      clear c30
                      replace H := Option.bind_eq_some_iff.mp H
                      obtain ⟨t251, A310, H⟩ := H
                      replace H : (if t251 = true then ((laws_mounts.f k3).bind fun t252 => (some t252)) else (some false)) = some r := H
                      have A31 := Aside0.mk A310
                      clear A310
                      by_cases c32 : t251 = true
                      · subst c32
                        have H1 : ((laws_mounts.f k3).bind fun t252 => (some t252)) = some r := by rw [if_pos rfl] at H; exact H
                        clear H
                        have H := H1
                        clear H1
                        replace H := Option.bind_eq_some_iff.mp H
                        obtain ⟨t252, A330, H⟩ := H
                        replace H : (some t252) = some r := H
                        have A33 := Aside0.mk A330
                        clear A330
                        obtain rfl := Option.some.inj H
                        go_wp2_with (first | ((with_reducible refine gate_callee (f := 8) rfl ?_); refine goesL_ (some 65) rfl rfl Tryd.func8 (by kernel_rfl) rfl #[.string t245, .agg #[.int .i64 1, .slice A1 l1.length c1]] rfl (by (try simp only [List.map_toArray, List.map_cons, List.map_nil]); first | done | rfl | (simp only [List.length_drop, List.length_take]; rfl)) ?_; (with_reducible refine (impl_Mounts.calls k3 t245 1 _ _ l1 t247 t250 _ ?side1 ?side2 A29.out).mono ?_); (case side1 => repeat (first | exact (Kd.C_below HR1.out HB.out) | (with_reducible refine Kd.C_alloc ?_ _) | (with_reducible refine Kd.C_drewN ?_ _) | (with_reducible refine Kd.C_drew ?_))); (case side2 => exact HC1.out); rintro e w34 ⟨v248, rfl, ho0, hb⟩; refine ⟨_, rfl, ?_⟩; have n0_ := Aside0.mk (Kd.R_elder' (by (with_reducible repeat (first | apply Kd.R_alloc | apply Kd.R_drewN | apply Kd.R_drew)); exact HO_7.out) (Kd.R_base ho0) hb); have n1_ := Aside0.mk (Kd.R_lower (Kd.R_new' ho0 (Kd.R_lt (by (with_reducible repeat (first | apply Kd.R_alloc | apply Kd.R_drewN | apply Kd.R_drew)); exact HO_7.out))) (below_size (by repeat (first | (with_reducible first | exact HB.out | apply below_alloc | apply pw_below_drewN | apply below_drew1) | exact HB.out)))); have n2_ := Aside0.mk (below_step (by repeat (first | (with_reducible first | exact HB.out | apply below_alloc | apply pw_below_drewN | apply below_drew1) | exact HB.out)) hb); clear HO_7; clear HB; have HO_7 := n0_; have HO249 := n1_; have HB := n2_; clear n0_ n1_ n2_; (try clear hb); (try clear hb2); (try clear hk); (try clear hi); (try clear ho0); obtain ⟨Ao35, co35, eo35⟩ := Kd.R_slice HO249.out; subst eo35; obtain ⟨Ao36, co36, eo36⟩ := Kd.R_slice HO_7.out; subst eo36) | (go_at_call 10; (with_reducible refine (laws_sameMounts.calls k3 _ _ t247 _ _ x7_3 true _ ?side1 ?side2 ?side3 ?side4 A31.out).mono ?_); (case side1 => repeat (first | exact (Kd.R_reads' HO249.out).2.2 | (with_reducible refine Kd.C_alloc ?_ _) | (with_reducible refine Kd.C_drewN ?_ _) | (with_reducible refine Kd.C_drew ?_))); (case side2 => exact (Kd.R_reads' HO249.out).2.1); (case side3 => repeat (first | exact (Kd.R_reads' HO_7.out).2.2 | (with_reducible refine Kd.C_alloc ?_ _) | (with_reducible refine Kd.C_drewN ?_ _) | (with_reducible refine Kd.C_drew ?_))); (case side4 => exact (Kd.R_reads' HO_7.out).2.1); rintro e w' ⟨rfl, ⟨nd, rfl⟩⟩) | (go_at_call 11; (with_reducible refine (laws_mounts.calls k3  t252 _ A33.out).mono ?_); rintro e w37 ⟨rfl, hb⟩; have n0_ := Aside0.mk (Kd.R_below (by (with_reducible repeat (first | apply Kd.R_alloc | apply Kd.R_drewN | apply Kd.R_drew)); exact HO_7.out) hb); have n1_ := Aside0.mk (Kd.R_below (by (with_reducible repeat (first | apply Kd.R_alloc | apply Kd.R_drewN | apply Kd.R_drew)); exact HO249.out) hb); have n2_ := Aside0.mk (below_step (by repeat (first | (with_reducible first | exact HB.out | apply below_alloc | apply pw_below_drewN | apply below_drew1) | exact HB.out)) hb); clear HO_7; clear HO249; clear HB; have HO_7 := n0_; have HO249 := n1_; have HB := n2_; clear n0_ n1_ n2_; (try clear hb); (try clear hb2); (try clear hk); (try clear hi)))
                        go_ret
                        exact ⟨by first | rfl | (simp [errW_none, errW_some] <;> rfl) | (simp [*, errW_none, errW_some] <;> rfl), by repeat (first | (with_reducible first | exact HB.out | apply below_alloc | apply pw_below_drewN | apply below_drew1) | exact HB.out)⟩
                      · replace c32 := Bool.eq_false_iff.mpr c32
                        subst c32
                        have H1 : (some false) = some r := by rw [if_neg (show ¬ (false = true) by decide)] at H; exact H
                        clear H
                        have H := H1
                        clear H1
                        obtain rfl := Option.some.inj H
                        go_wp2_with (first | ((with_reducible refine gate_callee (f := 8) rfl ?_); refine goesL_ (some 65) rfl rfl Tryd.func8 (by kernel_rfl) rfl #[.string t245, .agg #[.int .i64 1, .slice A1 l1.length c1]] rfl (by (try simp only [List.map_toArray, List.map_cons, List.map_nil]); first | done | rfl | (simp only [List.length_drop, List.length_take]; rfl)) ?_; (with_reducible refine (impl_Mounts.calls k3 t245 1 _ _ l1 t247 t250 _ ?side1 ?side2 A29.out).mono ?_); (case side1 => repeat (first | exact (Kd.C_below HR1.out HB.out) | (with_reducible refine Kd.C_alloc ?_ _) | (with_reducible refine Kd.C_drewN ?_ _) | (with_reducible refine Kd.C_drew ?_))); (case side2 => exact HC1.out); rintro e w38 ⟨v248, rfl, ho0, hb⟩; refine ⟨_, rfl, ?_⟩; have n0_ := Aside0.mk (Kd.R_elder' (by (with_reducible repeat (first | apply Kd.R_alloc | apply Kd.R_drewN | apply Kd.R_drew)); exact HO_7.out) (Kd.R_base ho0) hb); have n1_ := Aside0.mk (Kd.R_lower (Kd.R_new' ho0 (Kd.R_lt (by (with_reducible repeat (first | apply Kd.R_alloc | apply Kd.R_drewN | apply Kd.R_drew)); exact HO_7.out))) (below_size (by repeat (first | (with_reducible first | exact HB.out | apply below_alloc | apply pw_below_drewN | apply below_drew1) | exact HB.out)))); have n2_ := Aside0.mk (below_step (by repeat (first | (with_reducible first | exact HB.out | apply below_alloc | apply pw_below_drewN | apply below_drew1) | exact HB.out)) hb); clear HO_7; clear HB; have HO_7 := n0_; have HO249 := n1_; have HB := n2_; clear n0_ n1_ n2_; (try clear hb); (try clear hb2); (try clear hk); (try clear hi); (try clear ho0); obtain ⟨Ao39, co39, eo39⟩ := Kd.R_slice HO249.out; subst eo39; obtain ⟨Ao40, co40, eo40⟩ := Kd.R_slice HO_7.out; subst eo40) | (go_at_call 10; (with_reducible refine (laws_sameMounts.calls k3 _ _ t247 _ _ x7_3 false _ ?side1 ?side2 ?side3 ?side4 A31.out).mono ?_); (case side1 => repeat (first | exact (Kd.R_reads' HO249.out).2.2 | (with_reducible refine Kd.C_alloc ?_ _) | (with_reducible refine Kd.C_drewN ?_ _) | (with_reducible refine Kd.C_drew ?_))); (case side2 => exact (Kd.R_reads' HO249.out).2.1); (case side3 => repeat (first | exact (Kd.R_reads' HO_7.out).2.2 | (with_reducible refine Kd.C_alloc ?_ _) | (with_reducible refine Kd.C_drewN ?_ _) | (with_reducible refine Kd.C_drew ?_))); (case side4 => exact (Kd.R_reads' HO_7.out).2.1); rintro e w' ⟨rfl, ⟨nd, rfl⟩⟩))
                        go_ret
                        exact ⟨by first | rfl | (simp [errW_none, errW_some] <;> rfl) | (simp [*, errW_none, errW_some] <;> rfl), by repeat (first | (with_reducible first | exact HB.out | apply below_alloc | apply pw_below_drewN | apply below_drew1) | exact HB.out)⟩
                    · rw [if_neg c30] at H
                      have c30b0 : (t250 == 0) = false := beq_eq_false_iff_ne.mpr c30
                      have c30b1 : (t250 != 0) = true := bne_iff_ne.mpr c30
                      obtain rfl := Option.some.inj H
                      go_wp2_with (first | ((with_reducible refine gate_callee (f := 8) rfl ?_); refine goesL_ (some 65) rfl rfl Tryd.func8 (by kernel_rfl) rfl #[.string t245, .agg #[.int .i64 1, .slice A1 l1.length c1]] rfl (by (try simp only [List.map_toArray, List.map_cons, List.map_nil]); first | done | rfl | (simp only [List.length_drop, List.length_take]; rfl)) ?_; (with_reducible refine (impl_Mounts.calls k3 t245 1 _ _ l1 t247 t250 _ ?side1 ?side2 A29.out).mono ?_); (case side1 => repeat (first | exact (Kd.C_below HR1.out HB.out) | (with_reducible refine Kd.C_alloc ?_ _) | (with_reducible refine Kd.C_drewN ?_ _) | (with_reducible refine Kd.C_drew ?_))); (case side2 => exact HC1.out); rintro e w41 ⟨v248, rfl, ho0, hb⟩; refine ⟨_, rfl, ?_⟩; have n0_ := Aside0.mk (Kd.R_elder' (by (with_reducible repeat (first | apply Kd.R_alloc | apply Kd.R_drewN | apply Kd.R_drew)); exact HO_7.out) (Kd.R_base ho0) hb); have n1_ := Aside0.mk (Kd.R_lower (Kd.R_new' ho0 (Kd.R_lt (by (with_reducible repeat (first | apply Kd.R_alloc | apply Kd.R_drewN | apply Kd.R_drew)); exact HO_7.out))) (below_size (by repeat (first | (with_reducible first | exact HB.out | apply below_alloc | apply pw_below_drewN | apply below_drew1) | exact HB.out)))); have n2_ := Aside0.mk (below_step (by repeat (first | (with_reducible first | exact HB.out | apply below_alloc | apply pw_below_drewN | apply below_drew1) | exact HB.out)) hb); clear HO_7; clear HB; have HO_7 := n0_; have HO249 := n1_; have HB := n2_; clear n0_ n1_ n2_; (try clear hb); (try clear hb2); (try clear hk); (try clear hi); (try clear ho0)))
                      go_ret
                      exact ⟨by first | rfl | (simp [errW_none, errW_some] <;> rfl) | (simp [*, errW_none, errW_some] <;> rfl), by repeat (first | (with_reducible first | exact HB.out | apply below_alloc | apply pw_below_drewN | apply below_drew1) | exact HB.out)⟩

end Go.Proofs.YtdmccakncgdbhaaDoor.GMA
