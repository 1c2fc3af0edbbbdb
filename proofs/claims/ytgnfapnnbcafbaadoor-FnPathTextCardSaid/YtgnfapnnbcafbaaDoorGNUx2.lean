-- printed by gprint.py (a session's own turn of the kit's print): NU
import Derived.Test.YtgnfapnnbcafbaaDoorGNUx0
import Derived.Test.YtgnfapnnbcafbaaDoorGNUx1
import Derived.Test.YtgnfapnnbcafbaaDoorGivenPU
import Derived.Test.YtgnfapnnbcafbaaDoorGivenNU
import Derived.Test.YtgnfapnnbcafbaaDoorGivenUN
namespace Go.Proofs.YtgnfapnnbcafbaaDoor.GNU
open Go.RowKit Go.Proofs.YtgnfapnnbcafbaaDoorW.PrintWords Go.Proofs.YtgnfapnnbcafbaaDoorW.PrintLast Go.Proofs.YtgnfapnnbcafbaaDoorW.PrintMore
attribute [local go_sem] max2_int min2_int max_two min_two max_three min_three max_four min_four   -- for this text's walks alone
set_option linter.unusedVariables false
set_option linter.unusedSimpArgs false

/-! ### spec_Unescape: function 9 -/
mutual
def spec_Unescape.l0 : Nat → ByteArray → List Int → Int → Option (ByteArray × Int)
  | 0, _, _, _ => none
  | k + 1, x0, x4, x5 => if x5 < (x0.size : Int) then (if 0 ≤ x5 then (if (bt x0 x5) = 45 then (if x4.length < 140737488355328 then (spec_Unescape.l0 k x0 (x4 ++ [47]) (wrap64 (x5 + 1))) else (none)) else ((spec_kept.f (bt x0 x5)).bind fun t104 => (if t104 = true then (if x4.length < 140737488355328 then (spec_Unescape.l0 k x0 (x4 ++ [bt x0 x5]) (wrap64 (x5 + 1))) else (none)) else (if (bt x0 x5) = 92 then (if (wrap64 (x5 + 3)) < (x0.size : Int) then (if 0 ≤ (wrap64 (x5 + 1)) then (if (wrap64 (x5 + 1)) < (x0.size : Int) then (if (bt x0 (wrap64 (x5 + 1))) = 120 then (if 0 ≤ (wrap64 (x5 + 2)) then (if (wrap64 (x5 + 2)) < (x0.size : Int) then ((spec_hexValue.f k (bt x0 (wrap64 (x5 + 2)))).bind fun t108 => (if t108 ≥ 0 then (if 0 ≤ (wrap64 (x5 + 3)) then ((spec_hexValue.f k (bt x0 (wrap64 (x5 + 3)))).bind fun t109 => (spec_Unescape.j1 k x0 x4 x5 (decide (t109 ≥ 0)))) else (none)) else (spec_Unescape.j1 k x0 x4 x5 false))) else (none)) else (none)) else (spec_Unescape.j1 k x0 x4 x5 false)) else (none)) else (none)) else (spec_Unescape.j1 k x0 x4 x5 false)) else (spec_Unescape.j1 k x0 x4 x5 false))))) else (none)) else (some (strOfNums x4, 1))
def spec_Unescape.j1 : Nat → ByteArray → List Int → Int → Bool → Option (ByteArray × Int)
  | 0, _, _, _, _ => none
  | k + 1, x0, x4, x5, x32 => if x32 = true then (if 0 ≤ (wrap64 (x5 + 2)) then (if (wrap64 (x5 + 2)) < (x0.size : Int) then ((spec_hexValue.f k (bt x0 (wrap64 (x5 + 2)))).bind fun t110 => (if 0 ≤ (wrap64 (x5 + 3)) then (if (wrap64 (x5 + 3)) < (x0.size : Int) then ((spec_hexValue.f k (bt x0 (wrap64 (x5 + 3)))).bind fun t111 => (if (wrap64 ((wrap64 (t110 * 16)) + t111)) ≥ 128 then (some ((⟨#[]⟩ : ByteArray), 2)) else (if (wrap64 ((wrap64 (t110 * 16)) + t111)) < 16 then (some ((⟨#[]⟩ : ByteArray), 2)) else (if x4.length < 140737488355328 then (spec_Unescape.l0 k x0 (x4 ++ [(wrap64 ((wrap64 (t110 * 16)) + t111)) % 256]) (wrap64 ((wrap64 (x5 + 3)) + 1))) else (none))))) else (none)) else (none))) else (none)) else (none)) else (some ((⟨#[]⟩ : ByteArray), 2))
end
def spec_Unescape.f (k : Nat) (a0 : ByteArray) : Option (ByteArray × Int) := if a0.toList = ([] : List UInt8) then (some ((⟨#[]⟩ : ByteArray), 2)) else (spec_Unescape.l0 k a0 ([] : List Int) 0)
theorem spec_Unescape.mono_l : ∀ k, (∀ y0 y1 y2, LeO (spec_Unescape.l0 k y0 y1 y2) (spec_Unescape.l0 (k + 1) y0 y1 y2)) ∧ (∀ y0 y1 y2 y3, LeO (spec_Unescape.j1 k y0 y1 y2 y3) (spec_Unescape.j1 (k + 1) y0 y1 y2 y3))
  | 0 => ⟨fun _ _ _ r h => by simp [spec_Unescape.l0] at h, fun _ _ _ _ r h => by simp [spec_Unescape.j1] at h⟩
  | k + 1 => by
    obtain ⟨ih0, ih1⟩ := spec_Unescape.mono_l k
    refine ⟨?_, ?_⟩
    · intro y0 y1 y2
      unfold spec_Unescape.l0
      repeat' first
      | (with_reducible exact ih0 _ _ _)
      | (with_reducible exact ih1 _ _ _ _)
      | (with_reducible exact spec_hexValue.mono _ _)
      | (with_reducible exact LeO.refl _)
      | (with_reducible exact LeO.none _)
      | (with_reducible refine LeO.ite ?_ ?_)
      | (with_reducible refine LeO.bind ?_ (fun _ => ?_))
      | exact ih0 _ _ _
      | exact ih1 _ _ _ _
      | exact spec_hexValue.mono _ _
      | exact LeO.none _
      | refine LeO.ite ?_ ?_
      | refine LeO.bind ?_ (fun _ => ?_)
    · intro y0 y1 y2 y3
      unfold spec_Unescape.j1
      repeat' first
      | (with_reducible exact ih0 _ _ _)
      | (with_reducible exact ih1 _ _ _ _)
      | (with_reducible exact spec_hexValue.mono _ _)
      | (with_reducible exact LeO.refl _)
      | (with_reducible exact LeO.none _)
      | (with_reducible refine LeO.ite ?_ ?_)
      | (with_reducible refine LeO.bind ?_ (fun _ => ?_))
      | exact ih0 _ _ _
      | exact ih1 _ _ _ _
      | exact spec_hexValue.mono _ _
      | exact LeO.none _
      | refine LeO.ite ?_ ?_
      | refine LeO.bind ?_ (fun _ => ?_)
theorem spec_Unescape.mono : ∀ a0 k, LeO (spec_Unescape.f k a0) (spec_Unescape.f (k + 1) a0) := by
  intro a0 k
  obtain ⟨ih0, ih1⟩ := spec_Unescape.mono_l k
  unfold spec_Unescape.f
  repeat' first
      | (with_reducible exact ih0 _ _ _)
      | (with_reducible exact ih1 _ _ _ _)
      | (with_reducible exact spec_hexValue.mono _ _)
      | (with_reducible exact LeO.refl _)
      | (with_reducible exact LeO.none _)
      | (with_reducible refine LeO.ite ?_ ?_)
      | (with_reducible refine LeO.bind ?_ (fun _ => ?_))
      | exact ih0 _ _ _
      | exact ih1 _ _ _ _
      | exact spec_hexValue.mono _ _
      | exact LeO.none _
      | refine LeO.ite ?_ ?_
      | refine LeO.bind ?_ (fun _ => ?_)
set_option maxHeartbeats 8000000 in
set_option maxRecDepth 100000 in
theorem spec_Unescape.calls (k : Nat) (a0 : ByteArray) (r1 : ByteArray) (r2 : Int) (w : World) (h : spec_Unescape.f k a0 = some (r1, r2)) :
    Calls Tryd.prog 9 #[.string a0] w fun e w' => e = .returned (.tuple #[.string r1, .int .i64 r2]) ∧ Below w.heap.size w w' := by
  have HB := Aside0.mk (Below.refl w.heap.size w)
  have H : (if a0.toList = ([] : List UInt8) then (some ((⟨#[]⟩ : ByteArray), 2)) else (spec_Unescape.l0 k a0 ([] : List Int) 0)) = some (r1, r2) := h
  clear h
  by_cases c2 : a0.toList = ([] : List UInt8)
  · rw [if_pos c2] at H
    have c2b0 : (a0.toList == ([] : List UInt8)) = true := beq_iff_eq.mpr c2
    have c2b1 : (a0.toList != ([] : List UInt8)) = false := bne_eq_false_iff_eq.mpr c2
    clear c2
    simp only [Option.some.injEq, Prod.mk.injEq] at H
    obtain ⟨rfl, rfl⟩ := H
    go_enter Tryd.func9, Tryd.ntmps9
    go_wp2
    repeat (go_quiet (fail); try go_wp2)
    go_ret2
    exact ⟨by first | rfl | (simp [errW_none, errW_some] <;> rfl) | (simp [*, errW_none, errW_some] <;> rfl), by repeat (first | (with_reducible first | exact HB.out | apply below_alloc | apply pw_below_drewN | apply below_drew1) | exact HB.out)⟩
  · rw [if_neg c2] at H
    have c2b0 : (a0.toList == ([] : List UInt8)) = false := beq_eq_false_iff_ne.mpr c2
    have c2b1 : (a0.toList != ([] : List UInt8)) = true := bne_iff_ne.mpr c2
    have H' := Aside0.mk H
    clear H
    go_enter Tryd.func9, Tryd.ntmps9
    go_wp2
    repeat (go_quiet (fail); try go_wp2)
    go_loopg [4, 5] k (fun kq v4 v5 w' => ∃ (x4_1 : List Int) (x5_1 : Int), v5 = .int .i64 x5_1 ∧ Aside0 (spec_Unescape.l0 kq a0 x4_1 x5_1 = some (r1, r2)) ∧ Aside0 (kq ≤ k) ∧ Aside0 (Kd.R (Kd.int .u8) 5 w' w.heap.size (fun _ => True) v4 x4_1) ∧ Aside0 (Below w.heap.size w w'))
    case atStart => exact ⟨(([] : List Int)), (0), (by first | rfl | (simp; done) | (simp [*]; done)), H', ⟨Nat.le_refl _⟩, ⟨by first | exact Kd.R_nil _ _ _ _ _ | exact Kd.N_nil _ _ _ _ _ | exact Kd.V_nil _ _ _ _ _ | exact Kd.Q_nil _ _ _ _ _ | exact Kd.S_nil _ _ _ _ _⟩, ⟨by repeat (first | (with_reducible first | exact HB.out | apply below_alloc | apply pw_below_drewN | apply below_drew1) | exact HB.out)⟩⟩
    case round =>
      clear H'
      try clear c2
      try clear c2b0
      try clear c2b1
      try clear p2
      obtain ⟨x4_1, x5_1, rfl, HA, HK1, HO_4, HB⟩ := hrel
      cases gk with
      | zero => exact absurd HA.out (by simp [spec_Unescape.l0])
      | succ k1 =>
        have H := HA.out
        clear HA
        simp only [spec_Unescape.l0] at H
        by_cases c3 : x5_1 < (a0.size : Int)
        · rw [if_pos c3] at H
          have c3b0 : decide (x5_1 < (a0.size : Int)) = true := decide_eq_true c3
          clear c3
          by_cases c4 : 0 ≤ x5_1
          · rw [if_pos c4] at H
            have c4b0 : decide (0 ≤ x5_1) = true := decide_eq_true c4
            clear c4
            by_cases c6 : (bt a0 x5_1) = 45
            · rw [if_pos c6] at H
              have c6b0 : ((bt a0 x5_1) == 45) = true := beq_iff_eq.mpr c6
              have c6b1 : ((bt a0 x5_1) != 45) = false := bne_eq_false_iff_eq.mpr c6
              clear c6
              by_cases c7 : x4_1.length < 140737488355328
              · rw [if_pos c7] at H
                have LMc7 := Aside0.mk c7
                clear c7
                obtain ⟨y101, hy101⟩ : ∃ y_ : List Int, y_ = (x4_1 ++ [47]) := ⟨_, rfl⟩
                replace H : (spec_Unescape.l0 k1 a0 y101 (wrap64 (x5_1 + 1))) = some (r1, r2) := by first | (rw [hy101]; with_reducible exact H) | (have H2_ := (Option.bind_some _ _).symm.trans H; rw [hy101]; with_reducible exact H2_) | (have H2_ := (Option.bind_some _ _).symm.trans H; with_reducible exact H2_) | with_reducible exact H | (rw [hy101]; exact H) | exact H
                have Ny101 := Aside0.mk hy101
                clear hy101
                have H' := Aside0.mk H
                clear H
                have p5 : 0 ≤ (x5_1 : Int) := of_decide_eq_true (by first | (with_reducible assumption) | assumption)
                have q5 : x5_1 < (a0.size : Int) := of_decide_eq_true (by first | (with_reducible assumption) | assumption)
                have hx5 := bt_at a0 x5_1
                replace p5 := eq_true p5
                replace q5 := eq_true q5
                go_wp2_with (first | ((with_reducible refine gate_builtin (b := .append) (xs := #[.tmp 22, .tmp 23]) rfl ?_); (try (refine gate_guard (by rfl) ?_; dsimp only)); at_builtin; refine Kd.R_append (Kd.int .u8) (w0 := w) w.heap.size rfl (.tmp 22) (.tmp 23) 37 5 (.int .u8 0) 1 rfl Tryd.underlying37 info5 rfl (by decide) (by omega) u4 x4_1 47 [.int .u8 47] (fun _ => True) (fun _ => False) rfl rfl ?aP (fun _ hk => hk.elim) ?aF ?aO ?aB ?aS ?aL ?_; (case aP => exact rfl); (case aB => exact (by repeat (first | (with_reducible first | exact HB.out | apply below_alloc | apply pw_below_drewN | apply below_drew1) | exact HB.out))); (case aF => exact (fun _ _ => trivial)); (case aO => exact (by (with_reducible repeat (first | apply Kd.R_alloc | apply Kd.R_drewN | apply Kd.R_drew)); exact HO_4.out)); (case aS => exact (below_size (by repeat (first | (with_reducible first | exact HB.out | apply below_alloc | apply pw_below_drewN | apply below_drew1) | exact HB.out)))); (case aL => have := LMc7.out; omega); intro v102 w8 ho hb hg hat; rw [← Ny101.out] at ho; have n0_ := Aside0.mk (hb); have n1_ := Aside0.mk (ho); clear HB; clear HO_4; have HB := n0_; have HO103 := n1_; clear n0_ n1_; clear ho hb hg hat))
                repeat (go_quiet (first | ((with_reducible refine gate_builtin (b := .append) (xs := #[.tmp 22, .tmp 23]) rfl ?_); (try (refine gate_guard (by rfl) ?_; dsimp only)); at_builtin; refine Kd.R_append (Kd.int .u8) (w0 := w) w.heap.size rfl (.tmp 22) (.tmp 23) 37 5 (.int .u8 0) 1 rfl Tryd.underlying37 info5 rfl (by decide) (by omega) u4 x4_1 47 [.int .u8 47] (fun _ => True) (fun _ => False) rfl rfl ?aP (fun _ hk => hk.elim) ?aF ?aO ?aB ?aS ?aL ?_; (case aP => exact rfl); (case aB => exact (by repeat (first | (with_reducible first | exact HB.out | apply below_alloc | apply pw_below_drewN | apply below_drew1) | exact HB.out))); (case aF => exact (fun _ _ => trivial)); (case aO => exact (by (with_reducible repeat (first | apply Kd.R_alloc | apply Kd.R_drewN | apply Kd.R_drew)); exact HO_4.out)); (case aS => exact (below_size (by repeat (first | (with_reducible first | exact HB.out | apply below_alloc | apply pw_below_drewN | apply below_drew1) | exact HB.out)))); (case aL => have := LMc7.out; omega); intro v102 w8 ho hb hg hat; rw [← Ny101.out] at ho; have n0_ := Aside0.mk (hb); have n1_ := Aside0.mk (ho); clear HB; clear HO_4; have HB := n0_; have HO103 := n1_; clear n0_ n1_; clear ho hb hg hat)); try go_wp2_with (first | ((with_reducible refine gate_builtin (b := .append) (xs := #[.tmp 22, .tmp 23]) rfl ?_); (try (refine gate_guard (by rfl) ?_; dsimp only)); at_builtin; refine Kd.R_append (Kd.int .u8) (w0 := w) w.heap.size rfl (.tmp 22) (.tmp 23) 37 5 (.int .u8 0) 1 rfl Tryd.underlying37 info5 rfl (by decide) (by omega) u4 x4_1 47 [.int .u8 47] (fun _ => True) (fun _ => False) rfl rfl ?aP (fun _ hk => hk.elim) ?aF ?aO ?aB ?aS ?aL ?_; (case aP => exact rfl); (case aB => exact (by repeat (first | (with_reducible first | exact HB.out | apply below_alloc | apply pw_below_drewN | apply below_drew1) | exact HB.out))); (case aF => exact (fun _ _ => trivial)); (case aO => exact (by (with_reducible repeat (first | apply Kd.R_alloc | apply Kd.R_drewN | apply Kd.R_drew)); exact HO_4.out)); (case aS => exact (below_size (by repeat (first | (with_reducible first | exact HB.out | apply below_alloc | apply pw_below_drewN | apply below_drew1) | exact HB.out)))); (case aL => have := LMc7.out; omega); intro v102 w8 ho hb hg hat; rw [← Ny101.out] at ho; have n0_ := Aside0.mk (hb); have n1_ := Aside0.mk (ho); clear HB; clear HO_4; have HB := n0_; have HO103 := n1_; clear n0_ n1_; clear ho hb hg hat)))
                go_roundg k1
                case measure => have := HK1.out; omega
                case rel => exact ⟨(y101), (wrap64 (x5_1 + 1)), (by first | rfl | (simp; done) | (simp [*]; done)), H', ⟨by have := HK1.out; omega⟩, ⟨by (with_reducible repeat (first | apply Kd.R_alloc | apply Kd.R_drewN | apply Kd.R_drew)); exact HO103.out⟩, ⟨by repeat (first | (with_reducible first | exact HB.out | apply below_alloc | apply pw_below_drewN | apply below_drew1) | exact HB.out)⟩⟩
              · rw [if_neg c7] at H
                exact absurd H (by simp)
            · rw [if_neg c6] at H
              have c6b0 : ((bt a0 x5_1) == 45) = false := beq_eq_false_iff_ne.mpr c6
              have c6b1 : ((bt a0 x5_1) != 45) = true := bne_iff_ne.mpr c6
              replace H := Option.bind_eq_some_iff.mp H
              obtain ⟨t104, A90, H⟩ := H
              replace H : (if t104 = true then (if x4_1.length < 140737488355328 then (spec_Unescape.l0 k1 a0 (x4_1 ++ [bt a0 x5_1]) (wrap64 (x5_1 + 1))) else (none)) else (if (bt a0 x5_1) = 92 then (if (wrap64 (x5_1 + 3)) < (a0.size : Int) then (if 0 ≤ (wrap64 (x5_1 + 1)) then (if (wrap64 (x5_1 + 1)) < (a0.size : Int) then (if (bt a0 (wrap64 (x5_1 + 1))) = 120 then (if 0 ≤ (wrap64 (x5_1 + 2)) then (if (wrap64 (x5_1 + 2)) < (a0.size : Int) then ((spec_hexValue.f k1 (bt a0 (wrap64 (x5_1 + 2)))).bind fun t108 => (if t108 ≥ 0 then (if 0 ≤ (wrap64 (x5_1 + 3)) then ((spec_hexValue.f k1 (bt a0 (wrap64 (x5_1 + 3)))).bind fun t109 => (spec_Unescape.j1 k1 a0 x4_1 x5_1 (decide (t109 ≥ 0)))) else (none)) else (spec_Unescape.j1 k1 a0 x4_1 x5_1 false))) else (none)) else (none)) else (spec_Unescape.j1 k1 a0 x4_1 x5_1 false)) else (none)) else (none)) else (spec_Unescape.j1 k1 a0 x4_1 x5_1 false)) else (spec_Unescape.j1 k1 a0 x4_1 x5_1 false))) = some (r1, r2) := H
              have A9 := Aside0.mk A90
              clear A90
              by_cases c10 : t104 = true
              · subst c10
                have H1 : (if x4_1.length < 140737488355328 then (spec_Unescape.l0 k1 a0 (x4_1 ++ [bt a0 x5_1]) (wrap64 (x5_1 + 1))) else (none)) = some (r1, r2) := by rw [if_pos rfl] at H; exact H
                clear H
                have H := H1
                clear H1
                by_cases c11 : x4_1.length < 140737488355328
                · rw [if_pos c11] at H
                  have LMc11 := Aside0.mk c11
                  clear c11
                  obtain ⟨y105, hy105⟩ : ∃ y_ : List Int, y_ = (x4_1 ++ [bt a0 x5_1]) := ⟨_, rfl⟩
                  replace H : (spec_Unescape.l0 k1 a0 y105 (wrap64 (x5_1 + 1))) = some (r1, r2) := by first | (rw [hy105]; with_reducible exact H) | (have H2_ := (Option.bind_some _ _).symm.trans H; rw [hy105]; with_reducible exact H2_) | (have H2_ := (Option.bind_some _ _).symm.trans H; with_reducible exact H2_) | with_reducible exact H | (rw [hy105]; exact H) | exact H
                  have Ny105 := Aside0.mk hy105
                  clear hy105
                  have H' := Aside0.mk H
                  clear H
                  have p5 : 0 ≤ (x5_1 : Int) := of_decide_eq_true (by first | (with_reducible assumption) | assumption)
                  have q5 : x5_1 < (a0.size : Int) := of_decide_eq_true (by first | (with_reducible assumption) | assumption)
                  have hx5 := bt_at a0 x5_1
                  replace p5 := eq_true p5
                  replace q5 := eq_true q5
                  go_wp2_with (first | (go_at_call 25; (with_reducible refine (spec_kept.calls (bt a0 x5_1) true _ A9.out).mono ?_); rintro e w' ⟨rfl, ⟨nd, rfl⟩⟩; (try first | exact ⟨rfl, _, World.drewN_drewN _ _ _⟩ | exact ⟨rfl, _, Eq.trans (World.drewN_drewN _ _ _) (congrArg (World.drewN _) (Nat.add_assoc _ _ _))⟩)) | ((with_reducible refine gate_builtin (b := .append) (xs := #[.tmp 28, .tmp 30]) rfl ?_); (try (refine gate_guard (by rfl) ?_; dsimp only)); at_builtin; refine Kd.R_append (Kd.int .u8) (w0 := w) w.heap.size rfl (.tmp 28) (.tmp 30) 37 5 (.int .u8 0) 1 rfl Tryd.underlying37 info5 rfl (by decide) (by omega) u4 x4_1 (bt a0 x5_1) [.int .u8 (bt a0 x5_1)] (fun _ => True) (fun _ => False) rfl rfl ?aP (fun _ hk => hk.elim) ?aF ?aO ?aB ?aS ?aL ?_; (case aP => exact rfl); (case aB => exact (by repeat (first | (with_reducible first | exact HB.out | apply below_alloc | apply pw_below_drewN | apply below_drew1) | exact HB.out))); (case aF => exact (fun _ _ => trivial)); (case aO => exact (by (with_reducible repeat (first | apply Kd.R_alloc | apply Kd.R_drewN | apply Kd.R_drew)); exact HO_4.out)); (case aS => exact (below_size (by repeat (first | (with_reducible first | exact HB.out | apply below_alloc | apply pw_below_drewN | apply below_drew1) | exact HB.out)))); (case aL => have := LMc11.out; omega); intro v106 w12 ho hb hg hat; rw [← Ny105.out] at ho; have n0_ := Aside0.mk (hb); have n1_ := Aside0.mk (ho); clear HB; clear HO_4; have HB := n0_; have HO107 := n1_; clear n0_ n1_; clear ho hb hg hat))
                  repeat (go_quiet (first | (go_at_call 25; (with_reducible refine (spec_kept.calls (bt a0 x5_1) true _ A9.out).mono ?_); rintro e w' ⟨rfl, ⟨nd, rfl⟩⟩; (try first | exact ⟨rfl, _, World.drewN_drewN _ _ _⟩ | exact ⟨rfl, _, Eq.trans (World.drewN_drewN _ _ _) (congrArg (World.drewN _) (Nat.add_assoc _ _ _))⟩)) | ((with_reducible refine gate_builtin (b := .append) (xs := #[.tmp 28, .tmp 30]) rfl ?_); (try (refine gate_guard (by rfl) ?_; dsimp only)); at_builtin; refine Kd.R_append (Kd.int .u8) (w0 := w) w.heap.size rfl (.tmp 28) (.tmp 30) 37 5 (.int .u8 0) 1 rfl Tryd.underlying37 info5 rfl (by decide) (by omega) u4 x4_1 (bt a0 x5_1) [.int .u8 (bt a0 x5_1)] (fun _ => True) (fun _ => False) rfl rfl ?aP (fun _ hk => hk.elim) ?aF ?aO ?aB ?aS ?aL ?_; (case aP => exact rfl); (case aB => exact (by repeat (first | (with_reducible first | exact HB.out | apply below_alloc | apply pw_below_drewN | apply below_drew1) | exact HB.out))); (case aF => exact (fun _ _ => trivial)); (case aO => exact (by (with_reducible repeat (first | apply Kd.R_alloc | apply Kd.R_drewN | apply Kd.R_drew)); exact HO_4.out)); (case aS => exact (below_size (by repeat (first | (with_reducible first | exact HB.out | apply below_alloc | apply pw_below_drewN | apply below_drew1) | exact HB.out)))); (case aL => have := LMc11.out; omega); intro v106 w12 ho hb hg hat; rw [← Ny105.out] at ho; have n0_ := Aside0.mk (hb); have n1_ := Aside0.mk (ho); clear HB; clear HO_4; have HB := n0_; have HO107 := n1_; clear n0_ n1_; clear ho hb hg hat)); try go_wp2_with (first | (go_at_call 25; (with_reducible refine (spec_kept.calls (bt a0 x5_1) true _ A9.out).mono ?_); rintro e w' ⟨rfl, ⟨nd, rfl⟩⟩; (try first | exact ⟨rfl, _, World.drewN_drewN _ _ _⟩ | exact ⟨rfl, _, Eq.trans (World.drewN_drewN _ _ _) (congrArg (World.drewN _) (Nat.add_assoc _ _ _))⟩)) | ((with_reducible refine gate_builtin (b := .append) (xs := #[.tmp 28, .tmp 30]) rfl ?_); (try (refine gate_guard (by rfl) ?_; dsimp only)); at_builtin; refine Kd.R_append (Kd.int .u8) (w0 := w) w.heap.size rfl (.tmp 28) (.tmp 30) 37 5 (.int .u8 0) 1 rfl Tryd.underlying37 info5 rfl (by decide) (by omega) u4 x4_1 (bt a0 x5_1) [.int .u8 (bt a0 x5_1)] (fun _ => True) (fun _ => False) rfl rfl ?aP (fun _ hk => hk.elim) ?aF ?aO ?aB ?aS ?aL ?_; (case aP => exact rfl); (case aB => exact (by repeat (first | (with_reducible first | exact HB.out | apply below_alloc | apply pw_below_drewN | apply below_drew1) | exact HB.out))); (case aF => exact (fun _ _ => trivial)); (case aO => exact (by (with_reducible repeat (first | apply Kd.R_alloc | apply Kd.R_drewN | apply Kd.R_drew)); exact HO_4.out)); (case aS => exact (below_size (by repeat (first | (with_reducible first | exact HB.out | apply below_alloc | apply pw_below_drewN | apply below_drew1) | exact HB.out)))); (case aL => have := LMc11.out; omega); intro v106 w12 ho hb hg hat; rw [← Ny105.out] at ho; have n0_ := Aside0.mk (hb); have n1_ := Aside0.mk (ho); clear HB; clear HO_4; have HB := n0_; have HO107 := n1_; clear n0_ n1_; clear ho hb hg hat)))
                  go_roundg k1
                  case measure => have := HK1.out; omega
                  case rel => exact ⟨(y105), (wrap64 (x5_1 + 1)), (by first | rfl | (simp; done) | (simp [*]; done)), H', ⟨by have := HK1.out; omega⟩, ⟨by (with_reducible repeat (first | apply Kd.R_alloc | apply Kd.R_drewN | apply Kd.R_drew)); exact HO107.out⟩, ⟨by repeat (first | (with_reducible first | exact HB.out | apply below_alloc | apply pw_below_drewN | apply below_drew1) | exact HB.out)⟩⟩
                · rw [if_neg c11] at H
                  exact absurd H (by simp)
              · replace c10 := Bool.eq_false_iff.mpr c10
                subst c10
                have H1 : (if (bt a0 x5_1) = 92 then (if (wrap64 (x5_1 + 3)) < (a0.size : Int) then (if 0 ≤ (wrap64 (x5_1 + 1)) then (if (wrap64 (x5_1 + 1)) < (a0.size : Int) then (if (bt a0 (wrap64 (x5_1 + 1))) = 120 then (if 0 ≤ (wrap64 (x5_1 + 2)) then (if (wrap64 (x5_1 + 2)) < (a0.size : Int) then ((spec_hexValue.f k1 (bt a0 (wrap64 (x5_1 + 2)))).bind fun t108 => (if t108 ≥ 0 then (if 0 ≤ (wrap64 (x5_1 + 3)) then ((spec_hexValue.f k1 (bt a0 (wrap64 (x5_1 + 3)))).bind fun t109 => (spec_Unescape.j1 k1 a0 x4_1 x5_1 (decide (t109 ≥ 0)))) else (none)) else (spec_Unescape.j1 k1 a0 x4_1 x5_1 false))) else (none)) else (none)) else (spec_Unescape.j1 k1 a0 x4_1 x5_1 false)) else (none)) else (none)) else (spec_Unescape.j1 k1 a0 x4_1 x5_1 false)) else (spec_Unescape.j1 k1 a0 x4_1 x5_1 false)) = some (r1, r2) := by rw [if_neg (show ¬ (false = true) by decide)] at H; exact H
                clear H
                have H := H1
                clear H1
                have HC13 := Aside0.mk H
                clear H
                have p5 : 0 ≤ (x5_1 : Int) := of_decide_eq_true (by first | (with_reducible assumption) | assumption)
                have q5 : x5_1 < (a0.size : Int) := of_decide_eq_true (by first | (with_reducible assumption) | assumption)
                have hx5 := bt_at a0 x5_1
                replace p5 := eq_true p5
                replace q5 := eq_true q5
                go_upto_region 13 with (first | (go_at_call 25; (with_reducible refine (spec_kept.calls (bt a0 x5_1) false _ A9.out).mono ?_); rintro e w' ⟨rfl, ⟨nd, rfl⟩⟩; (try first | exact ⟨rfl, _, World.drewN_drewN _ _ _⟩ | exact ⟨rfl, _, Eq.trans (World.drewN_drewN _ _ _) (congrArg (World.drewN _) (Nat.add_assoc _ _ _))⟩)))
                repeat (go_quiet (first | (go_at_call 25; (with_reducible refine (spec_kept.calls (bt a0 x5_1) false _ A9.out).mono ?_); rintro e w' ⟨rfl, ⟨nd, rfl⟩⟩; (try first | exact ⟨rfl, _, World.drewN_drewN _ _ _⟩ | exact ⟨rfl, _, Eq.trans (World.drewN_drewN _ _ _) (congrArg (World.drewN _) (Nat.add_assoc _ _ _))⟩))); go_upto_region 13 with (first | (go_at_call 25; (with_reducible refine (spec_kept.calls (bt a0 x5_1) false _ A9.out).mono ?_); rintro e w' ⟨rfl, ⟨nd, rfl⟩⟩; (try first | exact ⟨rfl, _, World.drewN_drewN _ _ _⟩ | exact ⟨rfl, _, Eq.trans (World.drewN_drewN _ _ _) (congrArg (World.drewN _) (Nat.add_assoc _ _ _))⟩))))
                (try simp only [Act.put, List.setIfInBounds_toArray, List.set_cons_zero, List.set_cons_succ])
                go_cut [32] (fun v32 wc => ∃ (kq : Nat) (x32_12 : Bool), v32 = .bool x32_12 ∧ Aside0 (spec_Unescape.j1 kq a0 x4_1 x5_1 x32_12 = some (r1, r2)) ∧ Aside0 (kq ≤ k1) ∧ Aside0 (Kd.R (Kd.int .u8) 5 wc w.heap.size (fun _ => True) u4 x4_1) ∧ Aside0 (Below w.heap.size w wc))
                case first =>
                  have H := HC13.out
                  clear HC13
                  by_cases c14 : (bt a0 x5_1) = 92
                  · rw [if_pos c14] at H
                    have c14b0 : ((bt a0 x5_1) == 92) = true := beq_iff_eq.mpr c14
                    have c14b1 : ((bt a0 x5_1) != 92) = false := bne_eq_false_iff_eq.mpr c14
                    clear c14
                    (first | rw [c14b0] | (simp only [i64_w, i32_w]; rw [c14b0]) | skip)
                    by_cases c15 : (wrap64 (x5_1 + 3)) < (a0.size : Int)
                    · rw [if_pos c15] at H
                      have c15b0 : decide ((wrap64 (x5_1 + 3)) < (a0.size : Int)) = true := decide_eq_true c15
                      clear c15
                      obtain ⟨ji16, hji16⟩ : ∃ j_ : Int, (wrap64 (x5_1 + 1)) = j_ := ⟨_, rfl⟩
                      replace H : (if 0 ≤ (ji16) then (if (ji16) < (a0.size : Int) then (if (bt a0 (ji16)) = 120 then (if 0 ≤ (wrap64 (x5_1 + 2)) then (if (wrap64 (x5_1 + 2)) < (a0.size : Int) then ((spec_hexValue.f k1 (bt a0 (wrap64 (x5_1 + 2)))).bind fun t108 => (if t108 ≥ 0 then (if 0 ≤ (wrap64 (x5_1 + 3)) then ((spec_hexValue.f k1 (bt a0 (wrap64 (x5_1 + 3)))).bind fun t109 => (spec_Unescape.j1 k1 a0 x4_1 x5_1 (decide (t109 ≥ 0)))) else (none)) else (spec_Unescape.j1 k1 a0 x4_1 x5_1 false))) else (none)) else (none)) else (spec_Unescape.j1 k1 a0 x4_1 x5_1 false)) else (none)) else (none)) = some (r1, r2) := by first | (rw [hji16] at H; exact H) | (simp only [hji16] at H ⊢; exact H)
                      have hji16w : (IntKind.i64.wrap (x5_1 + 1)) = ji16 := (i64_w _).trans hji16
                      by_cases c17 : 0 ≤ (ji16)
                      · rw [if_pos c17] at H
                        have c17b0 : decide (0 ≤ (ji16)) = true := decide_eq_true c17
                        clear c17
                        by_cases c18 : (ji16) < (a0.size : Int)
                        · rw [if_pos c18] at H
                          have c18b0 : decide ((ji16) < (a0.size : Int)) = true := decide_eq_true c18
                          clear c18
                          by_cases c20 : (bt a0 (ji16)) = 120
                          · rw [if_pos c20] at H
                            have c20b0 : ((bt a0 (ji16)) == 120) = true := beq_iff_eq.mpr c20
                            have c20b1 : ((bt a0 (ji16)) != 120) = false := bne_eq_false_iff_eq.mpr c20
                            clear c20
                            obtain ⟨ji21, hji21⟩ : ∃ j_ : Int, (wrap64 (x5_1 + 2)) = j_ := ⟨_, rfl⟩
                            replace H : (if 0 ≤ (ji21) then (if (ji21) < (a0.size : Int) then ((spec_hexValue.f k1 (bt a0 (ji21))).bind fun t108 => (if t108 ≥ 0 then (if 0 ≤ (wrap64 (x5_1 + 3)) then ((spec_hexValue.f k1 (bt a0 (wrap64 (x5_1 + 3)))).bind fun t109 => (spec_Unescape.j1 k1 a0 x4_1 x5_1 (decide (t109 ≥ 0)))) else (none)) else (spec_Unescape.j1 k1 a0 x4_1 x5_1 false))) else (none)) else (none)) = some (r1, r2) := by first | (rw [hji21] at H; exact H) | (simp only [hji21] at H ⊢; exact H)
                            have hji21w : (IntKind.i64.wrap (x5_1 + 2)) = ji21 := (i64_w _).trans hji21
                            by_cases c22 : 0 ≤ (ji21)
                            · rw [if_pos c22] at H
                              have c22b0 : decide (0 ≤ (ji21)) = true := decide_eq_true c22
                              clear c22
                              by_cases c23 : (ji21) < (a0.size : Int)
                              · rw [if_pos c23] at H
                                have c23b0 : decide ((ji21) < (a0.size : Int)) = true := decide_eq_true c23
                                clear c23
                                replace H := Option.bind_eq_some_iff.mp H
                                obtain ⟨t108, A250, H⟩ := H
                                replace H : (if t108 ≥ 0 then (if 0 ≤ (wrap64 (x5_1 + 3)) then ((spec_hexValue.f k1 (bt a0 (wrap64 (x5_1 + 3)))).bind fun t109 => (spec_Unescape.j1 k1 a0 x4_1 x5_1 (decide (t109 ≥ 0)))) else (none)) else (spec_Unescape.j1 k1 a0 x4_1 x5_1 false)) = some (r1, r2) := H
                                have A25 := Aside0.mk A250
                                clear A250
                                by_cases c26 : t108 ≥ 0
                                · rw [if_pos c26] at H
                                  have c26b0 : decide (0 ≤ t108) = true := decide_eq_true c26
                                  clear c26
                                  obtain ⟨ji27, hji27⟩ : ∃ j_ : Int, (wrap64 (x5_1 + 3)) = j_ := ⟨_, rfl⟩
                                  replace H : (if 0 ≤ (ji27) then ((spec_hexValue.f k1 (bt a0 (ji27))).bind fun t109 => (spec_Unescape.j1 k1 a0 x4_1 x5_1 (decide (t109 ≥ 0)))) else (none)) = some (r1, r2) := by first | (rw [hji27] at H; exact H) | (simp only [hji27] at H ⊢; exact H)
                                  (try rw [hji27] at c15b0)
                                  (try rw [hji27] at A25)
                                  have hji27w : (IntKind.i64.wrap (x5_1 + 3)) = ji27 := (i64_w _).trans hji27
                                  by_cases c28 : 0 ≤ (ji27)
                                  · rw [if_pos c28] at H
                                    have c28b0 : decide (0 ≤ (ji27)) = true := decide_eq_true c28
                                    clear c28
                                    replace H := Option.bind_eq_some_iff.mp H
                                    obtain ⟨t109, A300, H⟩ := H
                                    replace H : (spec_Unescape.j1 k1 a0 x4_1 x5_1 (decide (t109 ≥ 0))) = some (r1, r2) := H
                                    have A30 := Aside0.mk A300
                                    clear A300
                                    have H' := Aside0.mk H
                                    clear H
                                    have p19 : 0 ≤ ((ji16) : Int) := of_decide_eq_true (by first | (with_reducible assumption) | assumption)
                                    have q19 : (ji16) < (a0.size : Int) := of_decide_eq_true (by first | (with_reducible assumption) | assumption)
                                    have hx19 := bt_at a0 (ji16)
                                    replace p19 := eq_true p19
                                    replace q19 := eq_true q19
                                    have p24 : 0 ≤ ((ji21) : Int) := of_decide_eq_true (by first | (with_reducible assumption) | assumption)
                                    have q24 : (ji21) < (a0.size : Int) := of_decide_eq_true (by first | (with_reducible assumption) | assumption)
                                    have hx24 := bt_at a0 (ji21)
                                    replace p24 := eq_true p24
                                    replace q24 := eq_true q24
                                    go_wp2_with (first | (go_at_call 26; (with_reducible refine (spec_hexValue.calls k1 (bt a0 (ji21)) t108 _ A25.out).mono ?_); rintro e w' ⟨rfl, ⟨nd, rfl⟩⟩; (try first | exact ⟨rfl, _, World.drewN_drewN _ _ _⟩ | exact ⟨rfl, _, Eq.trans (World.drewN_drewN _ _ _) (congrArg (World.drewN _) (Nat.add_assoc _ _ _))⟩); have p29 : 0 ≤ ((ji27) : Int) := of_decide_eq_true (by first | (with_reducible assumption) | assumption); have q29 : (ji27) < (a0.size : Int) := of_decide_eq_true (by first | (with_reducible assumption) | assumption); have hx29 := bt_at a0 (ji27); replace p29 := eq_true p29; replace q29 := eq_true q29) | (go_at_call 26; (with_reducible refine (spec_hexValue.calls k1 (bt a0 (ji27)) t109 _ A30.out).mono ?_); rintro e w' ⟨rfl, ⟨nd, rfl⟩⟩; (try first | exact ⟨rfl, _, World.drewN_drewN _ _ _⟩ | exact ⟨rfl, _, Eq.trans (World.drewN_drewN _ _ _) (congrArg (World.drewN _) (Nat.add_assoc _ _ _))⟩)))
                                    repeat (go_quiet (first | (go_at_call 26; (with_reducible refine (spec_hexValue.calls k1 (bt a0 (ji21)) t108 _ A25.out).mono ?_); rintro e w' ⟨rfl, ⟨nd, rfl⟩⟩; (try first | exact ⟨rfl, _, World.drewN_drewN _ _ _⟩ | exact ⟨rfl, _, Eq.trans (World.drewN_drewN _ _ _) (congrArg (World.drewN _) (Nat.add_assoc _ _ _))⟩); have p29 : 0 ≤ ((ji27) : Int) := of_decide_eq_true (by first | (with_reducible assumption) | assumption); have q29 : (ji27) < (a0.size : Int) := of_decide_eq_true (by first | (with_reducible assumption) | assumption); have hx29 := bt_at a0 (ji27); replace p29 := eq_true p29; replace q29 := eq_true q29) | (go_at_call 26; (with_reducible refine (spec_hexValue.calls k1 (bt a0 (ji27)) t109 _ A30.out).mono ?_); rintro e w' ⟨rfl, ⟨nd, rfl⟩⟩; (try first | exact ⟨rfl, _, World.drewN_drewN _ _ _⟩ | exact ⟨rfl, _, Eq.trans (World.drewN_drewN _ _ _) (congrArg (World.drewN _) (Nat.add_assoc _ _ _))⟩))); try go_wp2_with (first | (go_at_call 26; (with_reducible refine (spec_hexValue.calls k1 (bt a0 (ji21)) t108 _ A25.out).mono ?_); rintro e w' ⟨rfl, ⟨nd, rfl⟩⟩; (try first | exact ⟨rfl, _, World.drewN_drewN _ _ _⟩ | exact ⟨rfl, _, Eq.trans (World.drewN_drewN _ _ _) (congrArg (World.drewN _) (Nat.add_assoc _ _ _))⟩); have p29 : 0 ≤ ((ji27) : Int) := of_decide_eq_true (by first | (with_reducible assumption) | assumption); have q29 : (ji27) < (a0.size : Int) := of_decide_eq_true (by first | (with_reducible assumption) | assumption); have hx29 := bt_at a0 (ji27); replace p29 := eq_true p29; replace q29 := eq_true q29) | (go_at_call 26; (with_reducible refine (spec_hexValue.calls k1 (bt a0 (ji27)) t109 _ A30.out).mono ?_); rintro e w' ⟨rfl, ⟨nd, rfl⟩⟩; (try first | exact ⟨rfl, _, World.drewN_drewN _ _ _⟩ | exact ⟨rfl, _, Eq.trans (World.drewN_drewN _ _ _) (congrArg (World.drewN _) (Nat.add_assoc _ _ _))⟩))))
                                    go_meet
                                    case rel => exact ⟨_, (decide (t109 ≥ 0)), (by first | rfl | (simp; done) | (simp [*]; done)), H', ⟨by have := HK1.out; first | omega | exact Nat.le_refl _⟩, ⟨by (with_reducible repeat (first | apply Kd.R_alloc | apply Kd.R_drewN | apply Kd.R_drew)); exact HO_4.out⟩, ⟨by repeat (first | (with_reducible first | exact HB.out | apply below_alloc | apply pw_below_drewN | apply below_drew1) | exact HB.out)⟩⟩
                                  · rw [if_neg c28] at H
                                    exact absurd H (by simp)
                                · rw [if_neg c26] at H
                                  have c26b0 : decide (0 ≤ t108) = false := decide_eq_false c26
                                  clear c26
                                  have H' := Aside0.mk H
                                  clear H
                                  have p19 : 0 ≤ ((ji16) : Int) := of_decide_eq_true (by first | (with_reducible assumption) | assumption)
                                  have q19 : (ji16) < (a0.size : Int) := of_decide_eq_true (by first | (with_reducible assumption) | assumption)
                                  have hx19 := bt_at a0 (ji16)
                                  replace p19 := eq_true p19
                                  replace q19 := eq_true q19
                                  have p24 : 0 ≤ ((ji21) : Int) := of_decide_eq_true (by first | (with_reducible assumption) | assumption)
                                  have q24 : (ji21) < (a0.size : Int) := of_decide_eq_true (by first | (with_reducible assumption) | assumption)
                                  have hx24 := bt_at a0 (ji21)
                                  replace p24 := eq_true p24
                                  replace q24 := eq_true q24
                                  go_wp2_with (first | (go_at_call 26; (with_reducible refine (spec_hexValue.calls k1 (bt a0 (ji21)) t108 _ A25.out).mono ?_); rintro e w' ⟨rfl, ⟨nd, rfl⟩⟩; (try first | exact ⟨rfl, _, World.drewN_drewN _ _ _⟩ | exact ⟨rfl, _, Eq.trans (World.drewN_drewN _ _ _) (congrArg (World.drewN _) (Nat.add_assoc _ _ _))⟩)))
                                  repeat (go_quiet (first | (go_at_call 26; (with_reducible refine (spec_hexValue.calls k1 (bt a0 (ji21)) t108 _ A25.out).mono ?_); rintro e w' ⟨rfl, ⟨nd, rfl⟩⟩; (try first | exact ⟨rfl, _, World.drewN_drewN _ _ _⟩ | exact ⟨rfl, _, Eq.trans (World.drewN_drewN _ _ _) (congrArg (World.drewN _) (Nat.add_assoc _ _ _))⟩))); try go_wp2_with (first | (go_at_call 26; (with_reducible refine (spec_hexValue.calls k1 (bt a0 (ji21)) t108 _ A25.out).mono ?_); rintro e w' ⟨rfl, ⟨nd, rfl⟩⟩; (try first | exact ⟨rfl, _, World.drewN_drewN _ _ _⟩ | exact ⟨rfl, _, Eq.trans (World.drewN_drewN _ _ _) (congrArg (World.drewN _) (Nat.add_assoc _ _ _))⟩))))
                                  go_meet
                                  case rel => exact ⟨_, (false), (by first | rfl | (simp; done) | (simp [*]; done)), H', ⟨by have := HK1.out; first | omega | exact Nat.le_refl _⟩, ⟨by (with_reducible repeat (first | apply Kd.R_alloc | apply Kd.R_drewN | apply Kd.R_drew)); exact HO_4.out⟩, ⟨by repeat (first | (with_reducible first | exact HB.out | apply below_alloc | apply pw_below_drewN | apply below_drew1) | exact HB.out)⟩⟩
                              · rw [if_neg c23] at H
                                exact absurd H (by simp)
                            · rw [if_neg c22] at H
                              exact absurd H (by simp)
                          · rw [if_neg c20] at H
                            have c20b0 : ((bt a0 (ji16)) == 120) = false := beq_eq_false_iff_ne.mpr c20
                            have c20b1 : ((bt a0 (ji16)) != 120) = true := bne_iff_ne.mpr c20
                            have H' := Aside0.mk H
                            clear H
                            have p19 : 0 ≤ ((ji16) : Int) := of_decide_eq_true (by first | (with_reducible assumption) | assumption)
                            have q19 : (ji16) < (a0.size : Int) := of_decide_eq_true (by first | (with_reducible assumption) | assumption)
                            have hx19 := bt_at a0 (ji16)
                            replace p19 := eq_true p19
                            replace q19 := eq_true q19
                            go_wp2
                            repeat (go_quiet (fail); try go_wp2)
                            go_meet
                            case rel => exact ⟨_, (false), (by first | rfl | (simp; done) | (simp [*]; done)), H', ⟨by have := HK1.out; first | omega | exact Nat.le_refl _⟩, ⟨by (with_reducible repeat (first | apply Kd.R_alloc | apply Kd.R_drewN | apply Kd.R_drew)); exact HO_4.out⟩, ⟨by repeat (first | (with_reducible first | exact HB.out | apply below_alloc | apply pw_below_drewN | apply below_drew1) | exact HB.out)⟩⟩
                        · rw [if_neg c18] at H
                          exact absurd H (by simp)
                      · rw [if_neg c17] at H
                        exact absurd H (by simp)
                    · rw [if_neg c15] at H
                      have c15b0 : decide ((wrap64 (x5_1 + 3)) < (a0.size : Int)) = false := decide_eq_false c15
                      clear c15
                      have H' := Aside0.mk H
                      clear H
                      go_wp2
                      repeat (go_quiet (fail); try go_wp2)
                      go_meet
                      case rel => exact ⟨_, (false), (by first | rfl | (simp; done) | (simp [*]; done)), H', ⟨by have := HK1.out; first | omega | exact Nat.le_refl _⟩, ⟨by (with_reducible repeat (first | apply Kd.R_alloc | apply Kd.R_drewN | apply Kd.R_drew)); exact HO_4.out⟩, ⟨by repeat (first | (with_reducible first | exact HB.out | apply below_alloc | apply pw_below_drewN | apply below_drew1) | exact HB.out)⟩⟩
                  · rw [if_neg c14] at H
                    have c14b0 : ((bt a0 x5_1) == 92) = false := beq_eq_false_iff_ne.mpr c14
                    have c14b1 : ((bt a0 x5_1) != 92) = true := bne_iff_ne.mpr c14
                    (first | rw [c14b0] | (simp only [i64_w, i32_w]; rw [c14b0]) | skip)
                    have H' := Aside0.mk H
                    clear H
                    go_wp2
                    repeat (go_quiet (fail); try go_wp2)
                    go_meet
                    case rel => exact ⟨_, (false), (by first | rfl | (simp; done) | (simp [*]; done)), H', ⟨by have := HK1.out; first | omega | exact Nat.le_refl _⟩, ⟨by (with_reducible repeat (first | apply Kd.R_alloc | apply Kd.R_drewN | apply Kd.R_drew)); exact HO_4.out⟩, ⟨by repeat (first | (with_reducible first | exact HB.out | apply below_alloc | apply pw_below_drewN | apply below_drew1) | exact HB.out)⟩⟩
                case rest =>
                  clear HC13
                  try clear c1
                  try clear p1
                  try clear q1
                  try clear hx1
                  try clear c2
                  try clear c2b0
                  try clear c2b1
                  try clear p2
                  try clear q2
                  try clear hx2
                  try clear c3
                  try clear c3b0
                  try clear c4
                  try clear c4b0
                  try clear p5
                  try clear q5
                  try clear hx5
                  try clear c6
                  try clear c6b0
                  try clear c6b1
                  try clear p6
                  try clear c7
                  try clear c9
                  try clear c10
                  try clear c11
                  try clear c14
                  try clear c14b0
                  try clear c14b1
                  try clear c15
                  try clear c15b0
                  try clear c17
                  try clear c17b0
                  try clear c18
                  try clear c18b0
                  try clear p19
                  try clear q19
                  try clear hx19
                  try clear c20
                  try clear c20b0
                  try clear c20b1
                  try clear c22
                  try clear c22b0
                  try clear c23
                  try clear c23b0
                  try clear p24
                  try clear q24
                  try clear hx24
                  try clear c26
                  try clear c26b0
                  try clear c28
                  try clear c28b0
                  try clear p29
                  try clear q29
                  try clear hx29
                  try clear p19
                  try clear p2
                  try clear p24
                  try clear p29
                  try clear p5
                  try clear q19
                  try clear q24
                  try clear q29
                  try clear q5
                  obtain ⟨kq, x32_12, rfl, HA, HJ12, HO_4, HB⟩ := hcut
                  cases kq with
                  | zero => exact absurd HA.out (by simp [spec_Unescape.j1])
                  | succ kj12 =>
                    have H := HA.out
                    clear HA
                    simp only [spec_Unescape.j1] at H
                    by_cases c31 : x32_12 = true
                    · subst c31
                      have H1 : (if 0 ≤ (wrap64 (x5_1 + 2)) then (if (wrap64 (x5_1 + 2)) < (a0.size : Int) then ((spec_hexValue.f kj12 (bt a0 (wrap64 (x5_1 + 2)))).bind fun t110 => (if 0 ≤ (wrap64 (x5_1 + 3)) then (if (wrap64 (x5_1 + 3)) < (a0.size : Int) then ((spec_hexValue.f kj12 (bt a0 (wrap64 (x5_1 + 3)))).bind fun t111 => (if (wrap64 ((wrap64 (t110 * 16)) + t111)) ≥ 128 then (some ((⟨#[]⟩ : ByteArray), 2)) else (if (wrap64 ((wrap64 (t110 * 16)) + t111)) < 16 then (some ((⟨#[]⟩ : ByteArray), 2)) else (if x4_1.length < 140737488355328 then (spec_Unescape.l0 kj12 a0 (x4_1 ++ [(wrap64 ((wrap64 (t110 * 16)) + t111)) % 256]) (wrap64 ((wrap64 (x5_1 + 3)) + 1))) else (none))))) else (none)) else (none))) else (none)) else (none)) = some (r1, r2) := by rw [if_pos rfl] at H; exact H
                      clear H
                      have H := H1
                      clear H1
                      obtain ⟨ji32, hji32⟩ : ∃ j_ : Int, (wrap64 (x5_1 + 2)) = j_ := ⟨_, rfl⟩
                      replace H : (if 0 ≤ (ji32) then (if (ji32) < (a0.size : Int) then ((spec_hexValue.f kj12 (bt a0 (ji32))).bind fun t110 => (if 0 ≤ (wrap64 (x5_1 + 3)) then (if (wrap64 (x5_1 + 3)) < (a0.size : Int) then ((spec_hexValue.f kj12 (bt a0 (wrap64 (x5_1 + 3)))).bind fun t111 => (if (wrap64 ((wrap64 (t110 * 16)) + t111)) ≥ 128 then (some ((⟨#[]⟩ : ByteArray), 2)) else (if (wrap64 ((wrap64 (t110 * 16)) + t111)) < 16 then (some ((⟨#[]⟩ : ByteArray), 2)) else (if x4_1.length < 140737488355328 then (spec_Unescape.l0 kj12 a0 (x4_1 ++ [(wrap64 ((wrap64 (t110 * 16)) + t111)) % 256]) (wrap64 ((wrap64 (x5_1 + 3)) + 1))) else (none))))) else (none)) else (none))) else (none)) else (none)) = some (r1, r2) := by first | (rw [hji32] at H; exact H) | (simp only [hji32] at H ⊢; exact H)
                      have hji32w : (IntKind.i64.wrap (x5_1 + 2)) = ji32 := (i64_w _).trans hji32
                      by_cases c33 : 0 ≤ (ji32)
                      · rw [if_pos c33] at H
                        have c33b0 : decide (0 ≤ (ji32)) = true := decide_eq_true c33
                        clear c33
                        by_cases c34 : (ji32) < (a0.size : Int)
                        · rw [if_pos c34] at H
                          have c34b0 : decide ((ji32) < (a0.size : Int)) = true := decide_eq_true c34
                          clear c34
                          replace H := Option.bind_eq_some_iff.mp H
                          obtain ⟨t110, A360, H⟩ := H
                          replace H : (if 0 ≤ (wrap64 (x5_1 + 3)) then (if (wrap64 (x5_1 + 3)) < (a0.size : Int) then ((spec_hexValue.f kj12 (bt a0 (wrap64 (x5_1 + 3)))).bind fun t111 => (if (wrap64 ((wrap64 (t110 * 16)) + t111)) ≥ 128 then (some ((⟨#[]⟩ : ByteArray), 2)) else (if (wrap64 ((wrap64 (t110 * 16)) + t111)) < 16 then (some ((⟨#[]⟩ : ByteArray), 2)) else (if x4_1.length < 140737488355328 then (spec_Unescape.l0 kj12 a0 (x4_1 ++ [(wrap64 ((wrap64 (t110 * 16)) + t111)) % 256]) (wrap64 ((wrap64 (x5_1 + 3)) + 1))) else (none))))) else (none)) else (none)) = some (r1, r2) := H
                          have A36 := Aside0.mk A360
                          clear A360
                          obtain ⟨ji37, hji37⟩ : ∃ j_ : Int, (wrap64 (x5_1 + 3)) = j_ := ⟨_, rfl⟩
                          replace H : (if 0 ≤ (ji37) then (if (ji37) < (a0.size : Int) then ((spec_hexValue.f kj12 (bt a0 (ji37))).bind fun t111 => (if (wrap64 ((wrap64 (t110 * 16)) + t111)) ≥ 128 then (some ((⟨#[]⟩ : ByteArray), 2)) else (if (wrap64 ((wrap64 (t110 * 16)) + t111)) < 16 then (some ((⟨#[]⟩ : ByteArray), 2)) else (if x4_1.length < 140737488355328 then (spec_Unescape.l0 kj12 a0 (x4_1 ++ [(wrap64 ((wrap64 (t110 * 16)) + t111)) % 256]) (wrap64 ((ji37) + 1))) else (none))))) else (none)) else (none)) = some (r1, r2) := by first | (rw [hji37] at H; exact H) | (simp only [hji37] at H ⊢; exact H)
                          (try rw [hji37] at A36)
                          have hji37w : (IntKind.i64.wrap (x5_1 + 3)) = ji37 := (i64_w _).trans hji37
                          by_cases c38 : 0 ≤ (ji37)
                          · rw [if_pos c38] at H
                            have c38b0 : decide (0 ≤ (ji37)) = true := decide_eq_true c38
                            clear c38
                            by_cases c39 : (ji37) < (a0.size : Int)
                            · rw [if_pos c39] at H
                              have c39b0 : decide ((ji37) < (a0.size : Int)) = true := decide_eq_true c39
                              clear c39
                              replace H := Option.bind_eq_some_iff.mp H
                              obtain ⟨t111, A410, H⟩ := H
                              replace H : (if (wrap64 ((wrap64 (t110 * 16)) + t111)) ≥ 128 then (some ((⟨#[]⟩ : ByteArray), 2)) else (if (wrap64 ((wrap64 (t110 * 16)) + t111)) < 16 then (some ((⟨#[]⟩ : ByteArray), 2)) else (if x4_1.length < 140737488355328 then (spec_Unescape.l0 kj12 a0 (x4_1 ++ [(wrap64 ((wrap64 (t110 * 16)) + t111)) % 256]) (wrap64 ((ji37) + 1))) else (none)))) = some (r1, r2) := H
                              have A41 := Aside0.mk A410
                              clear A410
                              by_cases c42 : (wrap64 ((wrap64 (t110 * 16)) + t111)) ≥ 128
                              · rw [if_pos c42] at H
                                have c42b0 : decide (128 ≤ (wrap64 ((wrap64 (t110 * 16)) + t111))) = true := decide_eq_true c42
                                clear c42
                                simp only [Option.some.injEq, Prod.mk.injEq] at H
                                obtain ⟨rfl, rfl⟩ := H
                                have p35 : 0 ≤ ((ji32) : Int) := of_decide_eq_true (by first | (with_reducible assumption) | assumption)
                                have q35 : (ji32) < (a0.size : Int) := of_decide_eq_true (by first | (with_reducible assumption) | assumption)
                                have hx35 := bt_at a0 (ji32)
                                replace p35 := eq_true p35
                                replace q35 := eq_true q35
                                go_wp2_with (first | (go_at_call 26; (with_reducible refine (spec_hexValue.calls kj12 (bt a0 (ji32)) t110 _ A36.out).mono ?_); rintro e w' ⟨rfl, ⟨nd, rfl⟩⟩; (try first | exact ⟨rfl, _, World.drewN_drewN _ _ _⟩ | exact ⟨rfl, _, Eq.trans (World.drewN_drewN _ _ _) (congrArg (World.drewN _) (Nat.add_assoc _ _ _))⟩); have p40 : 0 ≤ ((ji37) : Int) := of_decide_eq_true (by first | (with_reducible assumption) | assumption); have q40 : (ji37) < (a0.size : Int) := of_decide_eq_true (by first | (with_reducible assumption) | assumption); have hx40 := bt_at a0 (ji37); replace p40 := eq_true p40; replace q40 := eq_true q40) | (go_at_call 26; (with_reducible refine (spec_hexValue.calls kj12 (bt a0 (ji37)) t111 _ A41.out).mono ?_); rintro e w' ⟨rfl, ⟨nd, rfl⟩⟩; (try first | exact ⟨rfl, _, World.drewN_drewN _ _ _⟩ | exact ⟨rfl, _, Eq.trans (World.drewN_drewN _ _ _) (congrArg (World.drewN _) (Nat.add_assoc _ _ _))⟩)))
                                repeat (go_quiet (first | (go_at_call 26; (with_reducible refine (spec_hexValue.calls kj12 (bt a0 (ji32)) t110 _ A36.out).mono ?_); rintro e w' ⟨rfl, ⟨nd, rfl⟩⟩; (try first | exact ⟨rfl, _, World.drewN_drewN _ _ _⟩ | exact ⟨rfl, _, Eq.trans (World.drewN_drewN _ _ _) (congrArg (World.drewN _) (Nat.add_assoc _ _ _))⟩); have p40 : 0 ≤ ((ji37) : Int) := of_decide_eq_true (by first | (with_reducible assumption) | assumption); have q40 : (ji37) < (a0.size : Int) := of_decide_eq_true (by first | (with_reducible assumption) | assumption); have hx40 := bt_at a0 (ji37); replace p40 := eq_true p40; replace q40 := eq_true q40) | (go_at_call 26; (with_reducible refine (spec_hexValue.calls kj12 (bt a0 (ji37)) t111 _ A41.out).mono ?_); rintro e w' ⟨rfl, ⟨nd, rfl⟩⟩; (try first | exact ⟨rfl, _, World.drewN_drewN _ _ _⟩ | exact ⟨rfl, _, Eq.trans (World.drewN_drewN _ _ _) (congrArg (World.drewN _) (Nat.add_assoc _ _ _))⟩))); try go_wp2_with (first | (go_at_call 26; (with_reducible refine (spec_hexValue.calls kj12 (bt a0 (ji32)) t110 _ A36.out).mono ?_); rintro e w' ⟨rfl, ⟨nd, rfl⟩⟩; (try first | exact ⟨rfl, _, World.drewN_drewN _ _ _⟩ | exact ⟨rfl, _, Eq.trans (World.drewN_drewN _ _ _) (congrArg (World.drewN _) (Nat.add_assoc _ _ _))⟩); have p40 : 0 ≤ ((ji37) : Int) := of_decide_eq_true (by first | (with_reducible assumption) | assumption); have q40 : (ji37) < (a0.size : Int) := of_decide_eq_true (by first | (with_reducible assumption) | assumption); have hx40 := bt_at a0 (ji37); replace p40 := eq_true p40; replace q40 := eq_true q40) | (go_at_call 26; (with_reducible refine (spec_hexValue.calls kj12 (bt a0 (ji37)) t111 _ A41.out).mono ?_); rintro e w' ⟨rfl, ⟨nd, rfl⟩⟩; (try first | exact ⟨rfl, _, World.drewN_drewN _ _ _⟩ | exact ⟨rfl, _, Eq.trans (World.drewN_drewN _ _ _) (congrArg (World.drewN _) (Nat.add_assoc _ _ _))⟩))))
                                go_ret2
                                exact ⟨by first | rfl | (simp [errW_none, errW_some] <;> rfl) | (simp only [← hji32, ← hji37]; first | rfl | (simp [errW_none, errW_some] <;> rfl)) | (simp [*, errW_none, errW_some] <;> rfl), by repeat (first | (with_reducible first | exact HB.out | apply below_alloc | apply pw_below_drewN | apply below_drew1) | exact HB.out)⟩
                              · rw [if_neg c42] at H
                                have c42b0 : decide (128 ≤ (wrap64 ((wrap64 (t110 * 16)) + t111))) = false := decide_eq_false c42
                                clear c42
                                by_cases c43 : (wrap64 ((wrap64 (t110 * 16)) + t111)) < 16
                                · rw [if_pos c43] at H
                                  have c43b0 : decide ((wrap64 ((wrap64 (t110 * 16)) + t111)) < 16) = true := decide_eq_true c43
                                  clear c43
                                  simp only [Option.some.injEq, Prod.mk.injEq] at H
                                  obtain ⟨rfl, rfl⟩ := H
                                  have p35 : 0 ≤ ((ji32) : Int) := of_decide_eq_true (by first | (with_reducible assumption) | assumption)
                                  have q35 : (ji32) < (a0.size : Int) := of_decide_eq_true (by first | (with_reducible assumption) | assumption)
                                  have hx35 := bt_at a0 (ji32)
                                  replace p35 := eq_true p35
                                  replace q35 := eq_true q35
                                  go_wp2_with (first | (go_at_call 26; (with_reducible refine (spec_hexValue.calls kj12 (bt a0 (ji32)) t110 _ A36.out).mono ?_); rintro e w' ⟨rfl, ⟨nd, rfl⟩⟩; (try first | exact ⟨rfl, _, World.drewN_drewN _ _ _⟩ | exact ⟨rfl, _, Eq.trans (World.drewN_drewN _ _ _) (congrArg (World.drewN _) (Nat.add_assoc _ _ _))⟩); have p40 : 0 ≤ ((ji37) : Int) := of_decide_eq_true (by first | (with_reducible assumption) | assumption); have q40 : (ji37) < (a0.size : Int) := of_decide_eq_true (by first | (with_reducible assumption) | assumption); have hx40 := bt_at a0 (ji37); replace p40 := eq_true p40; replace q40 := eq_true q40) | (go_at_call 26; (with_reducible refine (spec_hexValue.calls kj12 (bt a0 (ji37)) t111 _ A41.out).mono ?_); rintro e w' ⟨rfl, ⟨nd, rfl⟩⟩; (try first | exact ⟨rfl, _, World.drewN_drewN _ _ _⟩ | exact ⟨rfl, _, Eq.trans (World.drewN_drewN _ _ _) (congrArg (World.drewN _) (Nat.add_assoc _ _ _))⟩)))
                                  repeat (go_quiet (first | (go_at_call 26; (with_reducible refine (spec_hexValue.calls kj12 (bt a0 (ji32)) t110 _ A36.out).mono ?_); rintro e w' ⟨rfl, ⟨nd, rfl⟩⟩; (try first | exact ⟨rfl, _, World.drewN_drewN _ _ _⟩ | exact ⟨rfl, _, Eq.trans (World.drewN_drewN _ _ _) (congrArg (World.drewN _) (Nat.add_assoc _ _ _))⟩); have p40 : 0 ≤ ((ji37) : Int) := of_decide_eq_true (by first | (with_reducible assumption) | assumption); have q40 : (ji37) < (a0.size : Int) := of_decide_eq_true (by first | (with_reducible assumption) | assumption); have hx40 := bt_at a0 (ji37); replace p40 := eq_true p40; replace q40 := eq_true q40) | (go_at_call 26; (with_reducible refine (spec_hexValue.calls kj12 (bt a0 (ji37)) t111 _ A41.out).mono ?_); rintro e w' ⟨rfl, ⟨nd, rfl⟩⟩; (try first | exact ⟨rfl, _, World.drewN_drewN _ _ _⟩ | exact ⟨rfl, _, Eq.trans (World.drewN_drewN _ _ _) (congrArg (World.drewN _) (Nat.add_assoc _ _ _))⟩))); try go_wp2_with (first | (go_at_call 26; (with_reducible refine (spec_hexValue.calls kj12 (bt a0 (ji32)) t110 _ A36.out).mono ?_); rintro e w' ⟨rfl, ⟨nd, rfl⟩⟩; (try first | exact ⟨rfl, _, World.drewN_drewN _ _ _⟩ | exact ⟨rfl, _, Eq.trans (World.drewN_drewN _ _ _) (congrArg (World.drewN _) (Nat.add_assoc _ _ _))⟩); have p40 : 0 ≤ ((ji37) : Int) := of_decide_eq_true (by first | (with_reducible assumption) | assumption); have q40 : (ji37) < (a0.size : Int) := of_decide_eq_true (by first | (with_reducible assumption) | assumption); have hx40 := bt_at a0 (ji37); replace p40 := eq_true p40; replace q40 := eq_true q40) | (go_at_call 26; (with_reducible refine (spec_hexValue.calls kj12 (bt a0 (ji37)) t111 _ A41.out).mono ?_); rintro e w' ⟨rfl, ⟨nd, rfl⟩⟩; (try first | exact ⟨rfl, _, World.drewN_drewN _ _ _⟩ | exact ⟨rfl, _, Eq.trans (World.drewN_drewN _ _ _) (congrArg (World.drewN _) (Nat.add_assoc _ _ _))⟩))))
                                  go_ret2
                                  exact ⟨by first | rfl | (simp [errW_none, errW_some] <;> rfl) | (simp only [← hji32, ← hji37]; first | rfl | (simp [errW_none, errW_some] <;> rfl)) | (simp [*, errW_none, errW_some] <;> rfl), by repeat (first | (with_reducible first | exact HB.out | apply below_alloc | apply pw_below_drewN | apply below_drew1) | exact HB.out)⟩
                                · rw [if_neg c43] at H
                                  have c43b0 : decide ((wrap64 ((wrap64 (t110 * 16)) + t111)) < 16) = false := decide_eq_false c43
                                  clear c43
                                  by_cases c44 : x4_1.length < 140737488355328
                                  · rw [if_pos c44] at H
                                    have LMc44 := Aside0.mk c44
                                    clear c44
                                    obtain ⟨y112, hy112⟩ : ∃ y_ : List Int, y_ = (x4_1 ++ [(wrap64 ((wrap64 (t110 * 16)) + t111)) % 256]) := ⟨_, rfl⟩
                                    replace H : (spec_Unescape.l0 kj12 a0 y112 (wrap64 ((ji37) + 1))) = some (r1, r2) := by first | (rw [hy112]; with_reducible exact H) | (have H2_ := (Option.bind_some _ _).symm.trans H; rw [hy112]; with_reducible exact H2_) | (have H2_ := (Option.bind_some _ _).symm.trans H; with_reducible exact H2_) | with_reducible exact H | (rw [hy112]; exact H) | exact H
                                    have Ny112 := Aside0.mk hy112
                                    clear hy112
                                    have H' := Aside0.mk H
                                    clear H
                                    have p35 : 0 ≤ ((ji32) : Int) := of_decide_eq_true (by first | (with_reducible assumption) | assumption)
                                    have q35 : (ji32) < (a0.size : Int) := of_decide_eq_true (by first | (with_reducible assumption) | assumption)
                                    have hx35 := bt_at a0 (ji32)
                                    replace p35 := eq_true p35
                                    replace q35 := eq_true q35
                                    go_wp2_with (first | (go_at_call 26; (with_reducible refine (spec_hexValue.calls kj12 (bt a0 (ji32)) t110 _ A36.out).mono ?_); rintro e w' ⟨rfl, ⟨nd, rfl⟩⟩; (try first | exact ⟨rfl, _, World.drewN_drewN _ _ _⟩ | exact ⟨rfl, _, Eq.trans (World.drewN_drewN _ _ _) (congrArg (World.drewN _) (Nat.add_assoc _ _ _))⟩); have p40 : 0 ≤ ((ji37) : Int) := of_decide_eq_true (by first | (with_reducible assumption) | assumption); have q40 : (ji37) < (a0.size : Int) := of_decide_eq_true (by first | (with_reducible assumption) | assumption); have hx40 := bt_at a0 (ji37); replace p40 := eq_true p40; replace q40 := eq_true q40) | (go_at_call 26; (with_reducible refine (spec_hexValue.calls kj12 (bt a0 (ji37)) t111 _ A41.out).mono ?_); rintro e w' ⟨rfl, ⟨nd, rfl⟩⟩; (try first | exact ⟨rfl, _, World.drewN_drewN _ _ _⟩ | exact ⟨rfl, _, Eq.trans (World.drewN_drewN _ _ _) (congrArg (World.drewN _) (Nat.add_assoc _ _ _))⟩)) | ((with_reducible refine gate_builtin (b := .append) (xs := #[.tmp 83, .tmp 86]) rfl ?_); (try (refine gate_guard (by rfl) ?_; dsimp only)); at_builtin; refine Kd.R_append (Kd.int .u8) (w0 := w) w.heap.size rfl (.tmp 83) (.tmp 86) 37 5 (.int .u8 0) 1 rfl Tryd.underlying37 info5 rfl (by decide) (by omega) u4 x4_1 ((wrap64 ((wrap64 (t110 * 16)) + t111)) % 256) [.int .u8 ((wrap64 ((wrap64 (t110 * 16)) + t111)) % 256)] (fun _ => True) (fun _ => False) rfl rfl ?aP (fun _ hk => hk.elim) ?aF ?aO ?aB ?aS ?aL ?_; (case aP => exact rfl); (case aB => exact (by repeat (first | (with_reducible first | exact HB.out | apply below_alloc | apply pw_below_drewN | apply below_drew1) | exact HB.out))); (case aF => exact (fun _ _ => trivial)); (case aO => exact (by (with_reducible repeat (first | apply Kd.R_alloc | apply Kd.R_drewN | apply Kd.R_drew)); exact HO_4.out)); (case aS => exact (below_size (by repeat (first | (with_reducible first | exact HB.out | apply below_alloc | apply pw_below_drewN | apply below_drew1) | exact HB.out)))); (case aL => have := LMc44.out; omega); intro v113 w45 ho hb hg hat; rw [← Ny112.out] at ho; have n0_ := Aside0.mk (hb); have n1_ := Aside0.mk (ho); clear HB; clear HO_4; have HB := n0_; have HO114 := n1_; clear n0_ n1_; clear ho hb hg hat))
                                    repeat (go_quiet (first | (go_at_call 26; (with_reducible refine (spec_hexValue.calls kj12 (bt a0 (ji32)) t110 _ A36.out).mono ?_); rintro e w' ⟨rfl, ⟨nd, rfl⟩⟩; (try first | exact ⟨rfl, _, World.drewN_drewN _ _ _⟩ | exact ⟨rfl, _, Eq.trans (World.drewN_drewN _ _ _) (congrArg (World.drewN _) (Nat.add_assoc _ _ _))⟩); have p40 : 0 ≤ ((ji37) : Int) := of_decide_eq_true (by first | (with_reducible assumption) | assumption); have q40 : (ji37) < (a0.size : Int) := of_decide_eq_true (by first | (with_reducible assumption) | assumption); have hx40 := bt_at a0 (ji37); replace p40 := eq_true p40; replace q40 := eq_true q40) | (go_at_call 26; (with_reducible refine (spec_hexValue.calls kj12 (bt a0 (ji37)) t111 _ A41.out).mono ?_); rintro e w' ⟨rfl, ⟨nd, rfl⟩⟩; (try first | exact ⟨rfl, _, World.drewN_drewN _ _ _⟩ | exact ⟨rfl, _, Eq.trans (World.drewN_drewN _ _ _) (congrArg (World.drewN _) (Nat.add_assoc _ _ _))⟩)) | ((with_reducible refine gate_builtin (b := .append) (xs := #[.tmp 83, .tmp 86]) rfl ?_); (try (refine gate_guard (by rfl) ?_; dsimp only)); at_builtin; refine Kd.R_append (Kd.int .u8) (w0 := w) w.heap.size rfl (.tmp 83) (.tmp 86) 37 5 (.int .u8 0) 1 rfl Tryd.underlying37 info5 rfl (by decide) (by omega) u4 x4_1 ((wrap64 ((wrap64 (t110 * 16)) + t111)) % 256) [.int .u8 ((wrap64 ((wrap64 (t110 * 16)) + t111)) % 256)] (fun _ => True) (fun _ => False) rfl rfl ?aP (fun _ hk => hk.elim) ?aF ?aO ?aB ?aS ?aL ?_; (case aP => exact rfl); (case aB => exact (by repeat (first | (with_reducible first | exact HB.out | apply below_alloc | apply pw_below_drewN | apply below_drew1) | exact HB.out))); (case aF => exact (fun _ _ => trivial)); (case aO => exact (by (with_reducible repeat (first | apply Kd.R_alloc | apply Kd.R_drewN | apply Kd.R_drew)); exact HO_4.out)); (case aS => exact (below_size (by repeat (first | (with_reducible first | exact HB.out | apply below_alloc | apply pw_below_drewN | apply below_drew1) | exact HB.out)))); (case aL => have := LMc44.out; omega); intro v113 w45 ho hb hg hat; rw [← Ny112.out] at ho; have n0_ := Aside0.mk (hb); have n1_ := Aside0.mk (ho); clear HB; clear HO_4; have HB := n0_; have HO114 := n1_; clear n0_ n1_; clear ho hb hg hat)); try go_wp2_with (first | (go_at_call 26; (with_reducible refine (spec_hexValue.calls kj12 (bt a0 (ji32)) t110 _ A36.out).mono ?_); rintro e w' ⟨rfl, ⟨nd, rfl⟩⟩; (try first | exact ⟨rfl, _, World.drewN_drewN _ _ _⟩ | exact ⟨rfl, _, Eq.trans (World.drewN_drewN _ _ _) (congrArg (World.drewN _) (Nat.add_assoc _ _ _))⟩); have p40 : 0 ≤ ((ji37) : Int) := of_decide_eq_true (by first | (with_reducible assumption) | assumption); have q40 : (ji37) < (a0.size : Int) := of_decide_eq_true (by first | (with_reducible assumption) | assumption); have hx40 := bt_at a0 (ji37); replace p40 := eq_true p40; replace q40 := eq_true q40) | (go_at_call 26; (with_reducible refine (spec_hexValue.calls kj12 (bt a0 (ji37)) t111 _ A41.out).mono ?_); rintro e w' ⟨rfl, ⟨nd, rfl⟩⟩; (try first | exact ⟨rfl, _, World.drewN_drewN _ _ _⟩ | exact ⟨rfl, _, Eq.trans (World.drewN_drewN _ _ _) (congrArg (World.drewN _) (Nat.add_assoc _ _ _))⟩)) | ((with_reducible refine gate_builtin (b := .append) (xs := #[.tmp 83, .tmp 86]) rfl ?_); (try (refine gate_guard (by rfl) ?_; dsimp only)); at_builtin; refine Kd.R_append (Kd.int .u8) (w0 := w) w.heap.size rfl (.tmp 83) (.tmp 86) 37 5 (.int .u8 0) 1 rfl Tryd.underlying37 info5 rfl (by decide) (by omega) u4 x4_1 ((wrap64 ((wrap64 (t110 * 16)) + t111)) % 256) [.int .u8 ((wrap64 ((wrap64 (t110 * 16)) + t111)) % 256)] (fun _ => True) (fun _ => False) rfl rfl ?aP (fun _ hk => hk.elim) ?aF ?aO ?aB ?aS ?aL ?_; (case aP => exact rfl); (case aB => exact (by repeat (first | (with_reducible first | exact HB.out | apply below_alloc | apply pw_below_drewN | apply below_drew1) | exact HB.out))); (case aF => exact (fun _ _ => trivial)); (case aO => exact (by (with_reducible repeat (first | apply Kd.R_alloc | apply Kd.R_drewN | apply Kd.R_drew)); exact HO_4.out)); (case aS => exact (below_size (by repeat (first | (with_reducible first | exact HB.out | apply below_alloc | apply pw_below_drewN | apply below_drew1) | exact HB.out)))); (case aL => have := LMc44.out; omega); intro v113 w45 ho hb hg hat; rw [← Ny112.out] at ho; have n0_ := Aside0.mk (hb); have n1_ := Aside0.mk (ho); clear HB; clear HO_4; have HB := n0_; have HO114 := n1_; clear n0_ n1_; clear ho hb hg hat)))
                                    go_roundg kj12
                                    case measure => have := HK1.out; have := HJ12.out; omega
                                    case rel => exact ⟨(y112), (wrap64 ((ji37) + 1)), (by first | rfl | (simp; done) | (simp only [← hji37] <;> (first | rfl | simp)) | (simp [*]; done)), H', ⟨by have := HK1.out; have := HJ12.out; omega⟩, ⟨by (with_reducible repeat (first | apply Kd.R_alloc | apply Kd.R_drewN | apply Kd.R_drew)); exact HO114.out⟩, ⟨by repeat (first | (with_reducible first | exact HB.out | apply below_alloc | apply pw_below_drewN | apply below_drew1) | exact HB.out)⟩⟩
                                  · rw [if_neg c44] at H
                                    exact absurd H (by simp)
                            · rw [if_neg c39] at H
                              exact absurd H (by simp)
                          · rw [if_neg c38] at H
                            exact absurd H (by simp)
                        · rw [if_neg c34] at H
                          exact absurd H (by simp)
                      · rw [if_neg c33] at H
                        exact absurd H (by simp)
                    · replace c31 := Bool.eq_false_iff.mpr c31
                      subst c31
                      have H1 : (some ((⟨#[]⟩ : ByteArray), 2)) = some (r1, r2) := by rw [if_neg (show ¬ (false = true) by decide)] at H; exact H
                      clear H
                      have H := H1
                      clear H1
                      simp only [Option.some.injEq, Prod.mk.injEq] at H
                      obtain ⟨rfl, rfl⟩ := H
                      go_wp2
                      repeat (go_quiet (fail); try go_wp2)
                      go_ret2
                      exact ⟨by first | rfl | (simp [errW_none, errW_some] <;> rfl) | (simp [*, errW_none, errW_some] <;> rfl), by repeat (first | (with_reducible first | exact HB.out | apply below_alloc | apply pw_below_drewN | apply below_drew1) | exact HB.out)⟩
          · rw [if_neg c4] at H
            exact absurd H (by simp)
        · rw [if_neg c3] at H
          have c3b0 : decide (x5_1 < (a0.size : Int)) = false := decide_eq_false c3
          clear c3
          simp only [Option.some.injEq, Prod.mk.injEq] at H
          obtain ⟨rfl, rfl⟩ := H
          have hcv46 := own_string (P := Tryd.prog) Tryd.underlying37 Tryd.underlying5 Tryd.underlying9 (Kd.own_of_R HO_4.out)
          go_wp2
          repeat (go_quiet (fail); try go_wp2)
          go_ret2
          exact ⟨by first | rfl | (simp [errW_none, errW_some] <;> rfl) | (simp [*, errW_none, errW_some] <;> rfl), by repeat (first | (with_reducible first | exact HB.out | apply below_alloc | apply pw_below_drewN | apply below_drew1) | exact HB.out)⟩

/-! ### unit_UnitNameUnescape: function 27 -/
def unit_UnitNameUnescape.f (k : Nat) (a0 : ByteArray) : Option (ByteArray) := (unit_unescape.f k a0 false).bind fun t115 => (some t115)
theorem unit_UnitNameUnescape.mono : ∀ a0 k, LeO (unit_UnitNameUnescape.f k a0) (unit_UnitNameUnescape.f (k + 1) a0) := by
  intro a0 k
  unfold unit_UnitNameUnescape.f
  repeat' first
      | (with_reducible exact unit_unescape.mono _ _ _)
      | (with_reducible exact LeO.refl _)
      | (with_reducible exact LeO.none _)
      | (with_reducible refine LeO.ite ?_ ?_)
      | (with_reducible refine LeO.bind ?_ (fun _ => ?_))
      | exact unit_unescape.mono _ _ _
      | exact LeO.none _
      | refine LeO.ite ?_ ?_
      | refine LeO.bind ?_ (fun _ => ?_)
set_option maxHeartbeats 8000000 in
set_option maxRecDepth 100000 in
theorem unit_UnitNameUnescape.calls (k : Nat) (a0 : ByteArray) (r : ByteArray) (w : World) (h : unit_UnitNameUnescape.f k a0 = some r) :
    Calls Tryd.prog 27 #[.string a0] w fun e w' => e = .returned (.string r) ∧ Below w.heap.size w w' := by
  have HB := Aside0.mk (Below.refl w.heap.size w)
  have H : ((unit_unescape.f k a0 false).bind fun t115 => (some t115)) = some r := h
  clear h
  replace H := Option.bind_eq_some_iff.mp H
  obtain ⟨t115, A20, H⟩ := H
  replace H : (some t115) = some r := H
  have A2 := Aside0.mk A20
  clear A20
  obtain rfl := Option.some.inj H
  go_enter Tryd.func27, Tryd.ntmps27
  go_wp2_with (first | ((with_reducible refine gate_callee (f := 40) rfl ?_); refine goesL_ (some 4) rfl rfl Tryd.func40 (by kernel_rfl) rfl #[.string a0, .bool false] rfl (by (try simp only [List.map_toArray, List.map_cons, List.map_nil]); first | done | rfl | (simp only [List.length_drop, List.length_take]; rfl)) ?_; (with_reducible refine (unit_unescape.calls k a0 false t115 _ A2.out).mono ?_); rintro e w3 ⟨rfl, hb⟩; refine ⟨_, rfl, ?_⟩; have n0_ := Aside0.mk (below_step (by repeat (first | (with_reducible first | exact HB.out | apply below_alloc | apply pw_below_drewN | apply below_drew1) | exact HB.out)) hb); clear HB; have HB := n0_; clear n0_; (try clear hb); (try clear hb2); (try clear hk); (try clear hi)))
  go_ret
  exact ⟨by first | rfl | (simp [errW_none, errW_some] <;> rfl) | (simp [*, errW_none, errW_some] <;> rfl), by repeat (first | (with_reducible first | exact HB.out | apply below_alloc | apply pw_below_drewN | apply below_drew1) | exact HB.out)⟩

/-! ### impl_NameUnescape: function 10 -/
def impl_NameUnescape.f (k : Nat) (a0 : ByteArray) : Option (ByteArray) := (unit_UnitNameUnescape.f k a0).bind fun t116 => (some t116)
theorem impl_NameUnescape.mono : ∀ a0 k, LeO (impl_NameUnescape.f k a0) (impl_NameUnescape.f (k + 1) a0) := by
  intro a0 k
  unfold impl_NameUnescape.f
  repeat' first
      | (with_reducible exact unit_UnitNameUnescape.mono _ _)
      | (with_reducible exact LeO.refl _)
      | (with_reducible exact LeO.none _)
      | (with_reducible refine LeO.ite ?_ ?_)
      | (with_reducible refine LeO.bind ?_ (fun _ => ?_))
      | exact unit_UnitNameUnescape.mono _ _
      | exact LeO.none _
      | refine LeO.ite ?_ ?_
      | refine LeO.bind ?_ (fun _ => ?_)
set_option maxHeartbeats 8000000 in
set_option maxRecDepth 100000 in
theorem impl_NameUnescape.calls (k : Nat) (a0 : ByteArray) (r : ByteArray) (w : World) (h : impl_NameUnescape.f k a0 = some r) :
    Calls Tryd.prog 10 #[.string a0] w fun e w' => e = .returned (.string r) ∧ Below w.heap.size w w' := by
  have HB := Aside0.mk (Below.refl w.heap.size w)
  have H : ((unit_UnitNameUnescape.f k a0).bind fun t116 => (some t116)) = some r := h
  clear h
  replace H := Option.bind_eq_some_iff.mp H
  obtain ⟨t116, A20, H⟩ := H
  replace H : (some t116) = some r := H
  have A2 := Aside0.mk A20
  clear A20
  obtain rfl := Option.some.inj H
  go_enter Tryd.func10, Tryd.ntmps10
  go_wp2_with (first | ((with_reducible refine gate_callee (f := 27) rfl ?_); refine goesL_ (some 4) rfl rfl Tryd.func27 (by kernel_rfl) rfl #[.string a0] rfl (by (try simp only [List.map_toArray, List.map_cons, List.map_nil]); first | done | rfl | (simp only [List.length_drop, List.length_take]; rfl)) ?_; (with_reducible refine (unit_UnitNameUnescape.calls k a0 t116 _ A2.out).mono ?_); rintro e w3 ⟨rfl, hb⟩; refine ⟨_, rfl, ?_⟩; have n0_ := Aside0.mk (below_step (by repeat (first | (with_reducible first | exact HB.out | apply below_alloc | apply pw_below_drewN | apply below_drew1) | exact HB.out)) hb); clear HB; have HB := n0_; clear n0_; (try clear hb); (try clear hb2); (try clear hk); (try clear hi)))
  go_ret
  exact ⟨by first | rfl | (simp [errW_none, errW_some] <;> rfl) | (simp [*, errW_none, errW_some] <;> rfl), by repeat (first | (with_reducible first | exact HB.out | apply below_alloc | apply pw_below_drewN | apply below_drew1) | exact HB.out)⟩

/-! ### unit_zzHex: function 55 -/
def unit_zzHex.f (a0 : Int) : Option (ByteArray) := if a0 ≥ 16 then (if 0 ≤ (a0 / 16) then (if (a0 / 16) ≤ (((a0 / 16) + 1) % 256) then (if (((a0 / 16) + 1) % 256) ≤ 16 then (if 2 + ((⟨#[48, 49, 50, 51, 52, 53, 54, 55, 56, 57, 97, 98, 99, 100, 101, 102]⟩ : ByteArray).extract ((a0 / 16) : Int).toNat ((((a0 / 16) + 1) % 256) : Int).toNat).size ≤ 9223372036854775807 then (if 0 ≤ (Go.bits .and .u8 a0 15) then (if (Go.bits .and .u8 a0 15) ≤ (((Go.bits .and .u8 a0 15) + 1) % 256) then (if (((Go.bits .and .u8 a0 15) + 1) % 256) ≤ 16 then (if ((⟨#[92, 120]⟩ : ByteArray) ++ ((⟨#[48, 49, 50, 51, 52, 53, 54, 55, 56, 57, 97, 98, 99, 100, 101, 102]⟩ : ByteArray).extract ((a0 / 16) : Int).toNat ((((a0 / 16) + 1) % 256) : Int).toNat)).size + ((⟨#[48, 49, 50, 51, 52, 53, 54, 55, 56, 57, 97, 98, 99, 100, 101, 102]⟩ : ByteArray).extract ((Go.bits .and .u8 a0 15) : Int).toNat ((((Go.bits .and .u8 a0 15) + 1) % 256) : Int).toNat).size ≤ 9223372036854775807 then (some (((⟨#[92, 120]⟩ : ByteArray) ++ ((⟨#[48, 49, 50, 51, 52, 53, 54, 55, 56, 57, 97, 98, 99, 100, 101, 102]⟩ : ByteArray).extract ((a0 / 16) : Int).toNat ((((a0 / 16) + 1) % 256) : Int).toNat)) ++ ((⟨#[48, 49, 50, 51, 52, 53, 54, 55, 56, 57, 97, 98, 99, 100, 101, 102]⟩ : ByteArray).extract ((Go.bits .and .u8 a0 15) : Int).toNat ((((Go.bits .and .u8 a0 15) + 1) % 256) : Int).toNat))) else (none)) else (none)) else (none)) else (none)) else (none)) else (none)) else (none)) else (none)) else (if 0 ≤ (Go.bits .and .u8 a0 15) then (if (Go.bits .and .u8 a0 15) ≤ (((Go.bits .and .u8 a0 15) + 1) % 256) then (if (((Go.bits .and .u8 a0 15) + 1) % 256) ≤ 16 then (if 2 + ((⟨#[48, 49, 50, 51, 52, 53, 54, 55, 56, 57, 97, 98, 99, 100, 101, 102]⟩ : ByteArray).extract ((Go.bits .and .u8 a0 15) : Int).toNat ((((Go.bits .and .u8 a0 15) + 1) % 256) : Int).toNat).size ≤ 9223372036854775807 then (some ((⟨#[92, 120]⟩ : ByteArray) ++ ((⟨#[48, 49, 50, 51, 52, 53, 54, 55, 56, 57, 97, 98, 99, 100, 101, 102]⟩ : ByteArray).extract ((Go.bits .and .u8 a0 15) : Int).toNat ((((Go.bits .and .u8 a0 15) + 1) % 256) : Int).toNat))) else (none)) else (none)) else (none)) else (none))
set_option maxHeartbeats 8000000 in
set_option maxRecDepth 100000 in
theorem unit_zzHex.calls (a0 : Int) (r : ByteArray) (w : World) (h : unit_zzHex.f a0 = some r) :
    Calls Tryd.prog 55 #[.int .u8 a0] w fun e w' => e = .returned (.string r) ∧ Drawn0 w w' := by
  have H : (if a0 ≥ 16 then (if 0 ≤ (a0 / 16) then (if (a0 / 16) ≤ (((a0 / 16) + 1) % 256) then (if (((a0 / 16) + 1) % 256) ≤ 16 then (if 2 + ((⟨#[48, 49, 50, 51, 52, 53, 54, 55, 56, 57, 97, 98, 99, 100, 101, 102]⟩ : ByteArray).extract ((a0 / 16) : Int).toNat ((((a0 / 16) + 1) % 256) : Int).toNat).size ≤ 9223372036854775807 then (if 0 ≤ (Go.bits .and .u8 a0 15) then (if (Go.bits .and .u8 a0 15) ≤ (((Go.bits .and .u8 a0 15) + 1) % 256) then (if (((Go.bits .and .u8 a0 15) + 1) % 256) ≤ 16 then (if ((⟨#[92, 120]⟩ : ByteArray) ++ ((⟨#[48, 49, 50, 51, 52, 53, 54, 55, 56, 57, 97, 98, 99, 100, 101, 102]⟩ : ByteArray).extract ((a0 / 16) : Int).toNat ((((a0 / 16) + 1) % 256) : Int).toNat)).size + ((⟨#[48, 49, 50, 51, 52, 53, 54, 55, 56, 57, 97, 98, 99, 100, 101, 102]⟩ : ByteArray).extract ((Go.bits .and .u8 a0 15) : Int).toNat ((((Go.bits .and .u8 a0 15) + 1) % 256) : Int).toNat).size ≤ 9223372036854775807 then (some (((⟨#[92, 120]⟩ : ByteArray) ++ ((⟨#[48, 49, 50, 51, 52, 53, 54, 55, 56, 57, 97, 98, 99, 100, 101, 102]⟩ : ByteArray).extract ((a0 / 16) : Int).toNat ((((a0 / 16) + 1) % 256) : Int).toNat)) ++ ((⟨#[48, 49, 50, 51, 52, 53, 54, 55, 56, 57, 97, 98, 99, 100, 101, 102]⟩ : ByteArray).extract ((Go.bits .and .u8 a0 15) : Int).toNat ((((Go.bits .and .u8 a0 15) + 1) % 256) : Int).toNat))) else (none)) else (none)) else (none)) else (none)) else (none)) else (none)) else (none)) else (none)) else (if 0 ≤ (Go.bits .and .u8 a0 15) then (if (Go.bits .and .u8 a0 15) ≤ (((Go.bits .and .u8 a0 15) + 1) % 256) then (if (((Go.bits .and .u8 a0 15) + 1) % 256) ≤ 16 then (if 2 + ((⟨#[48, 49, 50, 51, 52, 53, 54, 55, 56, 57, 97, 98, 99, 100, 101, 102]⟩ : ByteArray).extract ((Go.bits .and .u8 a0 15) : Int).toNat ((((Go.bits .and .u8 a0 15) + 1) % 256) : Int).toNat).size ≤ 9223372036854775807 then (some ((⟨#[92, 120]⟩ : ByteArray) ++ ((⟨#[48, 49, 50, 51, 52, 53, 54, 55, 56, 57, 97, 98, 99, 100, 101, 102]⟩ : ByteArray).extract ((Go.bits .and .u8 a0 15) : Int).toNat ((((Go.bits .and .u8 a0 15) + 1) % 256) : Int).toNat))) else (none)) else (none)) else (none)) else (none))) = some r := h
  clear h
  by_cases c2 : a0 ≥ 16
  · rw [if_pos c2] at H
    have c2b0 : decide (16 ≤ a0) = true := decide_eq_true c2
    clear c2
    obtain ⟨ji3, hji3⟩ : ∃ j_ : Int, (a0 / 16) = j_ := ⟨_, rfl⟩
    replace H : (if 0 ≤ (ji3) then (if (ji3) ≤ (((ji3) + 1) % 256) then (if (((ji3) + 1) % 256) ≤ 16 then (if 2 + ((⟨#[48, 49, 50, 51, 52, 53, 54, 55, 56, 57, 97, 98, 99, 100, 101, 102]⟩ : ByteArray).extract ((ji3) : Int).toNat ((((ji3) + 1) % 256) : Int).toNat).size ≤ 9223372036854775807 then (if 0 ≤ (Go.bits .and .u8 a0 15) then (if (Go.bits .and .u8 a0 15) ≤ (((Go.bits .and .u8 a0 15) + 1) % 256) then (if (((Go.bits .and .u8 a0 15) + 1) % 256) ≤ 16 then (if ((⟨#[92, 120]⟩ : ByteArray) ++ ((⟨#[48, 49, 50, 51, 52, 53, 54, 55, 56, 57, 97, 98, 99, 100, 101, 102]⟩ : ByteArray).extract ((ji3) : Int).toNat ((((ji3) + 1) % 256) : Int).toNat)).size + ((⟨#[48, 49, 50, 51, 52, 53, 54, 55, 56, 57, 97, 98, 99, 100, 101, 102]⟩ : ByteArray).extract ((Go.bits .and .u8 a0 15) : Int).toNat ((((Go.bits .and .u8 a0 15) + 1) % 256) : Int).toNat).size ≤ 9223372036854775807 then (some (((⟨#[92, 120]⟩ : ByteArray) ++ ((⟨#[48, 49, 50, 51, 52, 53, 54, 55, 56, 57, 97, 98, 99, 100, 101, 102]⟩ : ByteArray).extract ((ji3) : Int).toNat ((((ji3) + 1) % 256) : Int).toNat)) ++ ((⟨#[48, 49, 50, 51, 52, 53, 54, 55, 56, 57, 97, 98, 99, 100, 101, 102]⟩ : ByteArray).extract ((Go.bits .and .u8 a0 15) : Int).toNat ((((Go.bits .and .u8 a0 15) + 1) % 256) : Int).toNat))) else (none)) else (none)) else (none)) else (none)) else (none)) else (none)) else (none)) else (none)) = some r := by first | (rw [hji3] at H; exact H) | (simp only [hji3] at H ⊢; exact H)
    by_cases c4 : 0 ≤ (ji3)
    · rw [if_pos c4] at H
      have c4b0 := eq_true c4
      have c4b1 : decide (0 ≤ (ji3)) = true := decide_eq_true c4
      clear c4
      by_cases c5 : (ji3) ≤ (((ji3) + 1) % 256)
      · rw [if_pos c5] at H
        have c5b0 := eq_true c5
        have c5b1 : decide ((ji3) ≤ (((ji3) + 1) % 256)) = true := decide_eq_true c5
        by_cases c6 : (((ji3) + 1) % 256) ≤ 16
        · rw [if_pos c6] at H
          have c6b0 := eq_true c6
          have c6b1 : decide ((((ji3) + 1) % 256) ≤ 16) = true := decide_eq_true c6
          by_cases c7 : 2 + ((⟨#[48, 49, 50, 51, 52, 53, 54, 55, 56, 57, 97, 98, 99, 100, 101, 102]⟩ : ByteArray).extract ((ji3) : Int).toNat ((((ji3) + 1) % 256) : Int).toNat).size ≤ 9223372036854775807
          · rw [if_pos c7] at H
            have c7b0 := eq_true c7
            have c7b1 : decide (2 + ((⟨#[48, 49, 50, 51, 52, 53, 54, 55, 56, 57, 97, 98, 99, 100, 101, 102]⟩ : ByteArray).extract ((ji3) : Int).toNat ((((ji3) + 1) % 256) : Int).toNat).size ≤ 9223372036854775807) = true := decide_eq_true c7
            try have c7b2 : (9223372036854775807 < 2 + ((⟨#[48, 49, 50, 51, 52, 53, 54, 55, 56, 57, 97, 98, 99, 100, 101, 102]⟩ : ByteArray).extract ((ji3) : Int).toNat ((((ji3) + 1) % 256) : Int).toNat).size) = False := eq_false (Nat.not_lt.2 c7)
            by_cases c8 : 0 ≤ (Go.bits .and .u8 a0 15)
            · rw [if_pos c8] at H
              have c8b0 := eq_true c8
              have c8b1 : decide (0 ≤ (Go.bits .and .u8 a0 15)) = true := decide_eq_true c8
              clear c8
              by_cases c9 : (Go.bits .and .u8 a0 15) ≤ (((Go.bits .and .u8 a0 15) + 1) % 256)
              · rw [if_pos c9] at H
                have c9b0 := eq_true c9
                have c9b1 : decide ((Go.bits .and .u8 a0 15) ≤ (((Go.bits .and .u8 a0 15) + 1) % 256)) = true := decide_eq_true c9
                by_cases c10 : (((Go.bits .and .u8 a0 15) + 1) % 256) ≤ 16
                · rw [if_pos c10] at H
                  have c10b0 := eq_true c10
                  have c10b1 : decide ((((Go.bits .and .u8 a0 15) + 1) % 256) ≤ 16) = true := decide_eq_true c10
                  by_cases c11 : ((⟨#[92, 120]⟩ : ByteArray) ++ ((⟨#[48, 49, 50, 51, 52, 53, 54, 55, 56, 57, 97, 98, 99, 100, 101, 102]⟩ : ByteArray).extract ((ji3) : Int).toNat ((((ji3) + 1) % 256) : Int).toNat)).size + ((⟨#[48, 49, 50, 51, 52, 53, 54, 55, 56, 57, 97, 98, 99, 100, 101, 102]⟩ : ByteArray).extract ((Go.bits .and .u8 a0 15) : Int).toNat ((((Go.bits .and .u8 a0 15) + 1) % 256) : Int).toNat).size ≤ 9223372036854775807
                  · rw [if_pos c11] at H
                    have c11b0 := eq_true c11
                    have c11b1 : decide (((⟨#[92, 120]⟩ : ByteArray) ++ ((⟨#[48, 49, 50, 51, 52, 53, 54, 55, 56, 57, 97, 98, 99, 100, 101, 102]⟩ : ByteArray).extract ((ji3) : Int).toNat ((((ji3) + 1) % 256) : Int).toNat)).size + ((⟨#[48, 49, 50, 51, 52, 53, 54, 55, 56, 57, 97, 98, 99, 100, 101, 102]⟩ : ByteArray).extract ((Go.bits .and .u8 a0 15) : Int).toNat ((((Go.bits .and .u8 a0 15) + 1) % 256) : Int).toNat).size ≤ 9223372036854775807) = true := decide_eq_true c11
                    try have c11b2 : (9223372036854775807 < ((⟨#[92, 120]⟩ : ByteArray) ++ ((⟨#[48, 49, 50, 51, 52, 53, 54, 55, 56, 57, 97, 98, 99, 100, 101, 102]⟩ : ByteArray).extract ((ji3) : Int).toNat ((((ji3) + 1) % 256) : Int).toNat)).size + ((⟨#[48, 49, 50, 51, 52, 53, 54, 55, 56, 57, 97, 98, 99, 100, 101, 102]⟩ : ByteArray).extract ((Go.bits .and .u8 a0 15) : Int).toNat ((((Go.bits .and .u8 a0 15) + 1) % 256) : Int).toNat).size) = False := eq_false (Nat.not_lt.2 c11)
                    obtain rfl := Option.some.inj H
                    go_enter Tryd.func55, Tryd.ntmps55
                    go_wp2
                    go_ret
                    exact ⟨by first | rfl | (simp; done) | (simp only [← hji3] <;> (first | rfl | simp)) | (simp [*]; done), by repeat (first | exact Drawn0.refl _ | apply Drawn0.step)⟩
                  · rw [if_neg c11] at H
                    exact absurd H (by simp)
                · rw [if_neg c10] at H
                  exact absurd H (by simp)
              · rw [if_neg c9] at H
                exact absurd H (by simp)
            · rw [if_neg c8] at H
              exact absurd H (by simp)
          · rw [if_neg c7] at H
            exact absurd H (by simp)
        · rw [if_neg c6] at H
          exact absurd H (by simp)
      · rw [if_neg c5] at H
        exact absurd H (by simp)
    · rw [if_neg c4] at H
      exact absurd H (by simp)
  · rw [if_neg c2] at H
    have c2b0 : decide (16 ≤ a0) = false := decide_eq_false c2
    clear c2
    by_cases c12 : 0 ≤ (Go.bits .and .u8 a0 15)
    · rw [if_pos c12] at H
      have c12b0 := eq_true c12
      have c12b1 : decide (0 ≤ (Go.bits .and .u8 a0 15)) = true := decide_eq_true c12
      clear c12
      by_cases c13 : (Go.bits .and .u8 a0 15) ≤ (((Go.bits .and .u8 a0 15) + 1) % 256)
      · rw [if_pos c13] at H
        have c13b0 := eq_true c13
        have c13b1 : decide ((Go.bits .and .u8 a0 15) ≤ (((Go.bits .and .u8 a0 15) + 1) % 256)) = true := decide_eq_true c13
        by_cases c14 : (((Go.bits .and .u8 a0 15) + 1) % 256) ≤ 16
        · rw [if_pos c14] at H
          have c14b0 := eq_true c14
          have c14b1 : decide ((((Go.bits .and .u8 a0 15) + 1) % 256) ≤ 16) = true := decide_eq_true c14
          by_cases c15 : 2 + ((⟨#[48, 49, 50, 51, 52, 53, 54, 55, 56, 57, 97, 98, 99, 100, 101, 102]⟩ : ByteArray).extract ((Go.bits .and .u8 a0 15) : Int).toNat ((((Go.bits .and .u8 a0 15) + 1) % 256) : Int).toNat).size ≤ 9223372036854775807
          · rw [if_pos c15] at H
            have c15b0 := eq_true c15
            have c15b1 : decide (2 + ((⟨#[48, 49, 50, 51, 52, 53, 54, 55, 56, 57, 97, 98, 99, 100, 101, 102]⟩ : ByteArray).extract ((Go.bits .and .u8 a0 15) : Int).toNat ((((Go.bits .and .u8 a0 15) + 1) % 256) : Int).toNat).size ≤ 9223372036854775807) = true := decide_eq_true c15
            try have c15b2 : (9223372036854775807 < 2 + ((⟨#[48, 49, 50, 51, 52, 53, 54, 55, 56, 57, 97, 98, 99, 100, 101, 102]⟩ : ByteArray).extract ((Go.bits .and .u8 a0 15) : Int).toNat ((((Go.bits .and .u8 a0 15) + 1) % 256) : Int).toNat).size) = False := eq_false (Nat.not_lt.2 c15)
            obtain rfl := Option.some.inj H
            go_enter Tryd.func55, Tryd.ntmps55
            go_wp2
            go_ret
            exact ⟨by first | rfl | (simp; done) | (simp [*]; done), by repeat (first | exact Drawn0.refl _ | apply Drawn0.step)⟩
          · rw [if_neg c15] at H
            exact absurd H (by simp)
        · rw [if_neg c14] at H
          exact absurd H (by simp)
      · rw [if_neg c13] at H
        exact absurd H (by simp)
    · rw [if_neg c12] at H
      exact absurd H (by simp)

end Go.Proofs.YtgnfapnnbcafbaaDoor.GNU
