/- unit.unescape: what it answers, of a name and of a path; its last branch is walked by my own law. Condition: the printed function answers (numbers of escapes below 128). -/
import Derived.Test.YtgnfapnnbcafbaaDoorGNUx0
import Derived.Test.YtgnfapnnbcafbaaDoorGivenPU
import Derived.Test.YtgnfapnnbcafbaaDoorGivenNU
import Derived.Test.YtgnfapnnbcafbaaDoorGivenApp
namespace Go.Proofs.YtgnfapnnbcafbaaDoor.GNU
open Go.RowKit Go.Proofs.YtgnfapnnbcafbaaDoorW.PrintWords Go.Proofs.YtgnfapnnbcafbaaDoorW.PrintLast Go.Proofs.YtgnfapnnbcafbaaDoorW.PrintMore
attribute [local go_sem] max2_int min2_int max_two min_two max_three min_three max_four min_four   -- for this text's walks alone
set_option linter.unusedVariables false
set_option linter.unusedSimpArgs false

/-! ### unit_unescape: function 40 -/
mutual
def unit_unescape.l0 : Nat → ByteArray → Bool → List Int → Int → Option (ByteArray)
  | 0, _, _, _, _ => none
  | k + 1, x0, x1, x5, x6 => if x6 < (x0.size : Int) then (if 0 ≤ x6 then (if (bt x0 x6) = 45 then (if x5.length < 140737488355328 then (unit_unescape.l0 k x0 x1 (x5 ++ [47]) (wrap64 (x6 + 1))) else (none)) else (if (bt x0 x6) = 92 then (if (wrap64 ((x0.size : Int) - x6)) ≥ 4 then (if 0 ≤ (wrap64 (x6 + 1)) then (if (wrap64 (x6 + 1)) < (x0.size : Int) then (unit_unescape.j1 k x0 x1 x5 x6 (bt x0 x6) ((bt x0 (wrap64 (x6 + 1))) == 120)) else (none)) else (none)) else (unit_unescape.j1 k x0 x1 x5 x6 (bt x0 x6) false)) else (unit_unescape.j1 k x0 x1 x5 x6 (bt x0 x6) false))) else (none)) else (if x1 = true then (if (x5.length : Int) = 0 then ((some (([47] : List Int) : List Int)).bind fun y118 => (if y118.length + x5.length < 140737488355328 then (some (strOfNums (y118 ++ x5))) else (none))) else (if 0 < (x5.length : Int) then (if (rd x5 0) = 47 then (some (strOfNums x5)) else ((some (([47] : List Int) : List Int)).bind fun y125 => (if y125.length + x5.length < 140737488355328 then (some (strOfNums (y125 ++ x5))) else (none)))) else (none))) else (some (strOfNums x5)))
def unit_unescape.j1 : Nat → ByteArray → Bool → List Int → Int → Int → Bool → Option (ByteArray)
  | 0, _, _, _, _, _, _ => none
  | k + 1, x0, x1, x5, x6, x7, x37 => if x37 = true then (if 0 ≤ (wrap64 (x6 + 2)) then (if (wrap64 (x6 + 2)) ≤ (wrap64 (x6 + 4)) then (if (wrap64 (x6 + 4)) ≤ (x0.size : Int) then ((strconv_ParseInt.f (x0.extract ((wrap64 (x6 + 2)) : Int).toNat ((wrap64 (x6 + 4)) : Int).toNat) 16 8).bind fun bt134 => (if bt134.2.isNone = true then (if x5.length < 140737488355328 then (unit_unescape.l0 k x0 x1 (x5 ++ [(bt134.1) % 256]) (wrap64 ((wrap64 (x6 + 3)) + 1))) else (none)) else (if x5.length < 140737488355328 then (unit_unescape.l0 k x0 x1 (x5 ++ [x7]) (wrap64 (x6 + 1))) else (none)))) else (none)) else (none)) else (none)) else (if x5.length < 140737488355328 then (unit_unescape.l0 k x0 x1 (x5 ++ [x7]) (wrap64 (x6 + 1))) else (none))
end
def unit_unescape.f (k : Nat) (a0 : ByteArray) (a1 : Bool) : Option (ByteArray) := unit_unescape.l0 k a0 a1 (([] : List Int)) 0
theorem unit_unescape.mono_l : ∀ k, (∀ y0 y1 y2 y3, LeO (unit_unescape.l0 k y0 y1 y2 y3) (unit_unescape.l0 (k + 1) y0 y1 y2 y3)) ∧ (∀ y0 y1 y2 y3 y4 y5, LeO (unit_unescape.j1 k y0 y1 y2 y3 y4 y5) (unit_unescape.j1 (k + 1) y0 y1 y2 y3 y4 y5))
  | 0 => ⟨fun _ _ _ _ r h => by simp [unit_unescape.l0] at h, fun _ _ _ _ _ _ r h => by simp [unit_unescape.j1] at h⟩
  | k + 1 => by
    obtain ⟨ih0, ih1⟩ := unit_unescape.mono_l k
    refine ⟨?_, ?_⟩
    · intro y0 y1 y2 y3
      unfold unit_unescape.l0
      repeat' first
      | (with_reducible exact ih0 _ _ _ _)
      | (with_reducible exact ih1 _ _ _ _ _ _)
      | (with_reducible exact LeO.refl _)
      | (with_reducible exact LeO.none _)
      | (with_reducible refine LeO.ite ?_ ?_)
      | (with_reducible refine LeO.bind ?_ (fun _ => ?_))
      | exact ih0 _ _ _ _
      | exact ih1 _ _ _ _ _ _
      | exact LeO.none _
      | refine LeO.ite ?_ ?_
      | refine LeO.bind ?_ (fun _ => ?_)
    · intro y0 y1 y2 y3 y4 y5
      unfold unit_unescape.j1
      repeat' first
      | (with_reducible exact ih0 _ _ _ _)
      | (with_reducible exact ih1 _ _ _ _ _ _)
      | (with_reducible exact LeO.refl _)
      | (with_reducible exact LeO.none _)
      | (with_reducible refine LeO.ite ?_ ?_)
      | (with_reducible refine LeO.bind ?_ (fun _ => ?_))
      | exact ih0 _ _ _ _
      | exact ih1 _ _ _ _ _ _
      | exact LeO.none _
      | refine LeO.ite ?_ ?_
      | refine LeO.bind ?_ (fun _ => ?_)
theorem unit_unescape.mono : ∀ a0 a1 k, LeO (unit_unescape.f k a0 a1) (unit_unescape.f (k + 1) a0 a1) := by
  intro a0 a1 k
  obtain ⟨ih0, ih1⟩ := unit_unescape.mono_l k
  unfold unit_unescape.f
  repeat' first
      | (with_reducible exact ih0 _ _ _ _)
      | (with_reducible exact ih1 _ _ _ _ _ _)
      | (with_reducible exact LeO.refl _)
      | (with_reducible exact LeO.none _)
      | (with_reducible refine LeO.ite ?_ ?_)
      | (with_reducible refine LeO.bind ?_ (fun _ => ?_))
      | exact ih0 _ _ _ _
      | exact ih1 _ _ _ _ _ _
      | exact LeO.none _
      | refine LeO.ite ?_ ?_
      | refine LeO.bind ?_ (fun _ => ?_)
set_option maxHeartbeats 8000000 in
set_option maxRecDepth 100000 in
theorem unit_unescape.calls (k : Nat) (a0 : ByteArray) (a1 : Bool) (r : ByteArray) (w : World) (h : unit_unescape.f k a0 a1 = some r) :
    Calls Tryd.prog 40 #[.string a0, .bool a1] w fun e w' => e = .returned (.string r) ∧ Below w.heap.size w w' := by
  have hu45 := Tryd.underlying45
  have HB := Aside0.mk (Below.refl w.heap.size w)
  have H : (unit_unescape.l0 k a0 a1 (([] : List Int)) 0) = some r := h
  clear h
  obtain ⟨y115, hy115⟩ : ∃ y_ : List Int, y_ = (([] : List Int)) := ⟨_, rfl⟩
  replace H : (unit_unescape.l0 k a0 a1 y115 0) = some r := by first | (rw [hy115]; with_reducible exact H) | (have H2_ := (Option.bind_some _ _).symm.trans H; rw [hy115]; with_reducible exact H2_) | (have H2_ := (Option.bind_some _ _).symm.trans H; with_reducible exact H2_) | with_reducible exact H | (rw [hy115]; exact H) | exact H
  have Ny115 := Aside0.mk hy115
  clear hy115
  have H' := Aside0.mk H
  clear H
  go_enter Tryd.func40, Tryd.ntmps40
  go_wp2_with (first | ((with_reducible refine gate_dst (N := 10) rfl ?_); (try (refine gate_guard (by rfl) ?_; dsimp only)); refine Kd.R_lit (Kd.int .u8) _ 5 ?hg (N := 10) ?hd (xs := ([] : List Int)) (inner := []) (ok := fun _ => True) (okp := fun _ => True) ?hr ?hp (fun _ hk => hk) trivial (Below.refl _ _) (Nat.le_refl _) (by simp) ?_; (case hd => rfl); (case hg => rfl); (case hr => first | (go_simp; done) | (go_simp; rfl)); (case hp => exact (Reps.none _ _)); intro v116 w3 ho4 hb hg_ hnew_; clear hg_ hnew_; (first | rw [← Ny115.out] at ho4 | (simp only [Int.reduceToNat] at ho4; rw [← Ny115.out] at ho4)); have n0_ := Aside0.mk (Kd.R_lower ho4 (below_size (by repeat (first | (with_reducible first | exact HB.out | apply below_alloc | apply pw_below_drewN | apply below_drew1) | exact HB.out)))); have n1_ := Aside0.mk (below_step (by repeat (first | (with_reducible first | exact HB.out | apply below_alloc | apply pw_below_drewN | apply below_drew1) | exact HB.out)) hb); clear HB; have HO117 := n0_; have HB := n1_; clear n0_ n1_; clear hb ho4))
  go_loopg [5, 6] k (fun kq v5 v6 w' => ∃ (x5_1 : List Int) (x6_1 : Int), v6 = .int .i64 x6_1 ∧ Aside0 (unit_unescape.l0 kq a0 a1 x5_1 x6_1 = some r) ∧ Aside0 (kq ≤ k) ∧ Aside0 (Kd.R (Kd.int .u8) 5 w' w.heap.size (fun _ => True) v5 x5_1) ∧ Aside0 (Below w.heap.size w w'))
  case atStart => exact ⟨(y115), (0), (by first | rfl | (simp; done) | (simp [*]; done)), H', ⟨Nat.le_refl _⟩, ⟨by (with_reducible repeat (first | apply Kd.R_alloc | apply Kd.R_drewN | apply Kd.R_drew)); exact HO117.out⟩, ⟨by repeat (first | (with_reducible first | exact HB.out | apply below_alloc | apply pw_below_drewN | apply below_drew1) | exact HB.out)⟩⟩
  case round =>
    clear H'
    try clear p2
    try clear c4
    obtain ⟨x5_1, x6_1, rfl, HA, HK1, HO_5, HB⟩ := hrel
    cases gk with
    | zero => exact absurd HA.out (by simp [unit_unescape.l0])
    | succ k1 =>
      have H := HA.out
      clear HA
      simp only [unit_unescape.l0] at H
      by_cases c5 : x6_1 < (a0.size : Int)
      · rw [if_pos c5] at H
        have c5b0 : decide (x6_1 < (a0.size : Int)) = true := decide_eq_true c5
        clear c5
        by_cases c6 : 0 ≤ x6_1
        · rw [if_pos c6] at H
          have c6b0 : decide (0 ≤ x6_1) = true := decide_eq_true c6
          clear c6
          by_cases c8 : (bt a0 x6_1) = 45
          · rw [if_pos c8] at H
            have c8b0 : ((bt a0 x6_1) == 45) = true := beq_iff_eq.mpr c8
            have c8b1 : ((bt a0 x6_1) != 45) = false := bne_eq_false_iff_eq.mpr c8
            clear c8
            by_cases c9 : x5_1.length < 140737488355328
            · rw [if_pos c9] at H
              have LMc9 := Aside0.mk c9
              clear c9
              obtain ⟨y131, hy131⟩ : ∃ y_ : List Int, y_ = (x5_1 ++ [47]) := ⟨_, rfl⟩
              replace H : (unit_unescape.l0 k1 a0 a1 y131 (wrap64 (x6_1 + 1))) = some r := by first | (rw [hy131]; with_reducible exact H) | (have H2_ := (Option.bind_some _ _).symm.trans H; rw [hy131]; with_reducible exact H2_) | (have H2_ := (Option.bind_some _ _).symm.trans H; with_reducible exact H2_) | with_reducible exact H | (rw [hy131]; exact H) | exact H
              have Ny131 := Aside0.mk hy131
              clear hy131
              have H' := Aside0.mk H
              clear H
              have p7 : 0 ≤ (x6_1 : Int) := of_decide_eq_true (by first | (with_reducible assumption) | assumption)
              have q7 : x6_1 < (a0.size : Int) := of_decide_eq_true (by first | (with_reducible assumption) | assumption)
              have hx7 := bt_at a0 x6_1
              replace p7 := eq_true p7
              replace q7 := eq_true q7
              go_wp2_with (first | ((with_reducible refine gate_builtin (b := .append) (xs := #[.tmp 54, .tmp 56]) rfl ?_); (try (refine gate_guard (by rfl) ?_; dsimp only)); at_builtin; refine Kd.R_append (Kd.int .u8) (w0 := w) w.heap.size rfl (.tmp 54) (.tmp 56) 37 5 (.int .u8 0) 1 rfl Tryd.underlying37 info5 rfl (by decide) (by omega) u5 x5_1 47 [.int .u8 47] (fun _ => True) (fun _ => False) rfl rfl ?aP (fun _ hk => hk.elim) ?aF ?aO ?aB ?aS ?aL ?_; (case aP => exact rfl); (case aB => exact (by repeat (first | (with_reducible first | exact HB.out | apply below_alloc | apply pw_below_drewN | apply below_drew1) | exact HB.out))); (case aF => exact (fun _ _ => trivial)); (case aO => exact (by (with_reducible repeat (first | apply Kd.R_alloc | apply Kd.R_drewN | apply Kd.R_drew)); exact HO_5.out)); (case aS => exact (below_size (by repeat (first | (with_reducible first | exact HB.out | apply below_alloc | apply pw_below_drewN | apply below_drew1) | exact HB.out)))); (case aL => have := LMc9.out; omega); intro v132 w10 ho hb hg hat; rw [← Ny131.out] at ho; have n0_ := Aside0.mk (hb); have n1_ := Aside0.mk (ho); clear HB; clear HO_5; have HB := n0_; have HO133 := n1_; clear n0_ n1_; clear ho hb hg hat))
              go_roundg k1
              case measure => have := HK1.out; omega
              case rel => exact ⟨(y131), (wrap64 (x6_1 + 1)), (by first | rfl | (simp; done) | (simp [*]; done)), H', ⟨by have := HK1.out; omega⟩, ⟨by (with_reducible repeat (first | apply Kd.R_alloc | apply Kd.R_drewN | apply Kd.R_drew)); exact HO133.out⟩, ⟨by repeat (first | (with_reducible first | exact HB.out | apply below_alloc | apply pw_below_drewN | apply below_drew1) | exact HB.out)⟩⟩
            · rw [if_neg c9] at H
              exact absurd H (by simp)
          · rw [if_neg c8] at H
            have c8b0 : ((bt a0 x6_1) == 45) = false := beq_eq_false_iff_ne.mpr c8
            have c8b1 : ((bt a0 x6_1) != 45) = true := bne_iff_ne.mpr c8
            have HC11 := Aside0.mk H
            clear H
            have p7 : 0 ≤ (x6_1 : Int) := of_decide_eq_true (by first | (with_reducible assumption) | assumption)
            have q7 : x6_1 < (a0.size : Int) := of_decide_eq_true (by first | (with_reducible assumption) | assumption)
            have hx7 := bt_at a0 x6_1
            replace p7 := eq_true p7
            replace q7 := eq_true q7
            go_upto_region 8 with (fail)
            go_cut [37] (fun v37 wc => ∃ (kq : Nat) (x37_10 : Bool), v37 = .bool x37_10 ∧ Aside0 (unit_unescape.j1 kq a0 a1 x5_1 x6_1 (bt a0 x6_1) x37_10 = some r) ∧ Aside0 (kq ≤ k1) ∧ Aside0 (Kd.R (Kd.int .u8) 5 wc w.heap.size (fun _ => True) u5 x5_1) ∧ Aside0 (Below w.heap.size w wc))
            case first =>
              have H := HC11.out
              clear HC11
              by_cases c12 : (bt a0 x6_1) = 92
              · rw [if_pos c12] at H
                have c12b0 : ((bt a0 x6_1) == 92) = true := beq_iff_eq.mpr c12
                have c12b1 : ((bt a0 x6_1) != 92) = false := bne_eq_false_iff_eq.mpr c12
                clear c12
                (first | rw [c12b0] | (simp only [i64_w, i32_w]; rw [c12b0]) | skip)
                by_cases c13 : (wrap64 ((a0.size : Int) - x6_1)) ≥ 4
                · rw [if_pos c13] at H
                  have c13b0 : decide (4 ≤ (wrap64 ((a0.size : Int) - x6_1))) = true := decide_eq_true c13
                  clear c13
                  obtain ⟨ji14, hji14⟩ : ∃ j_ : Int, (wrap64 (x6_1 + 1)) = j_ := ⟨_, rfl⟩
                  replace H : (if 0 ≤ (ji14) then (if (ji14) < (a0.size : Int) then (unit_unescape.j1 k1 a0 a1 x5_1 x6_1 (bt a0 x6_1) ((bt a0 (ji14)) == 120)) else (none)) else (none)) = some r := by first | (rw [hji14] at H; exact H) | (simp only [hji14] at H ⊢; exact H)
                  have hji14w : (IntKind.i64.wrap (x6_1 + 1)) = ji14 := (i64_w _).trans hji14
                  by_cases c15 : 0 ≤ (ji14)
                  · rw [if_pos c15] at H
                    have c15b0 : decide (0 ≤ (ji14)) = true := decide_eq_true c15
                    clear c15
                    by_cases c16 : (ji14) < (a0.size : Int)
                    · rw [if_pos c16] at H
                      have c16b0 : decide ((ji14) < (a0.size : Int)) = true := decide_eq_true c16
                      clear c16
                      have H' := Aside0.mk H
                      clear H
                      have p17 : 0 ≤ ((ji14) : Int) := of_decide_eq_true (by first | (with_reducible assumption) | assumption)
                      have q17 : (ji14) < (a0.size : Int) := of_decide_eq_true (by first | (with_reducible assumption) | assumption)
                      have hx17 := bt_at a0 (ji14)
                      replace p17 := eq_true p17
                      replace q17 := eq_true q17
                      go_wp2
                      go_meet
                      case rel => exact ⟨_, (((bt a0 (ji14)) == 120)), (by first | rfl | (simp; done) | (simp only [← hji14] <;> (first | rfl | simp)) | (simp [*]; done)), H', ⟨by have := HK1.out; first | omega | exact Nat.le_refl _⟩, ⟨by (with_reducible repeat (first | apply Kd.R_alloc | apply Kd.R_drewN | apply Kd.R_drew)); exact HO_5.out⟩, ⟨by repeat (first | (with_reducible first | exact HB.out | apply below_alloc | apply pw_below_drewN | apply below_drew1) | exact HB.out)⟩⟩
                    · rw [if_neg c16] at H
                      exact absurd H (by simp)
                  · rw [if_neg c15] at H
                    exact absurd H (by simp)
                · rw [if_neg c13] at H
                  have c13b0 : decide (4 ≤ (wrap64 ((a0.size : Int) - x6_1))) = false := decide_eq_false c13
                  clear c13
                  have H' := Aside0.mk H
                  clear H
                  go_wp2
                  go_meet
                  case rel => exact ⟨_, (false), (by first | rfl | (simp; done) | (simp [*]; done)), H', ⟨by have := HK1.out; first | omega | exact Nat.le_refl _⟩, ⟨by (with_reducible repeat (first | apply Kd.R_alloc | apply Kd.R_drewN | apply Kd.R_drew)); exact HO_5.out⟩, ⟨by repeat (first | (with_reducible first | exact HB.out | apply below_alloc | apply pw_below_drewN | apply below_drew1) | exact HB.out)⟩⟩
              · rw [if_neg c12] at H
                have c12b0 : ((bt a0 x6_1) == 92) = false := beq_eq_false_iff_ne.mpr c12
                have c12b1 : ((bt a0 x6_1) != 92) = true := bne_iff_ne.mpr c12
                (first | rw [c12b0] | (simp only [i64_w, i32_w]; rw [c12b0]) | skip)
                have H' := Aside0.mk H
                clear H
                go_wp2
                go_meet
                case rel => exact ⟨_, (false), (by first | rfl | (simp; done) | (simp [*]; done)), H', ⟨by have := HK1.out; first | omega | exact Nat.le_refl _⟩, ⟨by (with_reducible repeat (first | apply Kd.R_alloc | apply Kd.R_drewN | apply Kd.R_drew)); exact HO_5.out⟩, ⟨by repeat (first | (with_reducible first | exact HB.out | apply below_alloc | apply pw_below_drewN | apply below_drew1) | exact HB.out)⟩⟩
            case rest =>
              clear HC11
              try clear c1
              try clear p1
              try clear q1
              try clear hx1
              try clear p2
              try clear c4
              try clear c5
              try clear c5b0
              try clear c6
              try clear c6b0
              try clear p6
              try clear p7
              try clear q7
              try clear hx7
              try clear c8
              try clear c8b0
              try clear c8b1
              try clear c9
              try clear c12
              try clear c12b0
              try clear c12b1
              try clear c13
              try clear c13b0
              try clear c15
              try clear c15b0
              try clear c16
              try clear c16b0
              try clear p17
              try clear q17
              try clear hx17
              try clear p17
              try clear p2
              try clear p7
              try clear q17
              try clear q7
              obtain ⟨kq, x37_10, rfl, HA, HJ10, HO_5, HB⟩ := hcut
              cases kq with
              | zero => exact absurd HA.out (by simp [unit_unescape.j1])
              | succ kj10 =>
                have H := HA.out
                clear HA
                simp only [unit_unescape.j1] at H
                by_cases c18 : x37_10 = true
                · subst c18
                  have H1 : (if 0 ≤ (wrap64 (x6_1 + 2)) then (if (wrap64 (x6_1 + 2)) ≤ (wrap64 (x6_1 + 4)) then (if (wrap64 (x6_1 + 4)) ≤ (a0.size : Int) then ((strconv_ParseInt.f (a0.extract ((wrap64 (x6_1 + 2)) : Int).toNat ((wrap64 (x6_1 + 4)) : Int).toNat) 16 8).bind fun bt134 => (if bt134.2.isNone = true then (if x5_1.length < 140737488355328 then (unit_unescape.l0 kj10 a0 a1 (x5_1 ++ [(bt134.1) % 256]) (wrap64 ((wrap64 (x6_1 + 3)) + 1))) else (none)) else (if x5_1.length < 140737488355328 then (unit_unescape.l0 kj10 a0 a1 (x5_1 ++ [(bt a0 x6_1)]) (wrap64 (x6_1 + 1))) else (none)))) else (none)) else (none)) else (none)) = some r := by rw [if_pos rfl] at H; exact H
                  clear H
                  have H := H1
                  clear H1
                  obtain ⟨ji19, hji19⟩ : ∃ j_ : Int, (wrap64 (x6_1 + 2)) = j_ := ⟨_, rfl⟩
                  replace H : (if 0 ≤ (ji19) then (if (ji19) ≤ (wrap64 (x6_1 + 4)) then (if (wrap64 (x6_1 + 4)) ≤ (a0.size : Int) then ((strconv_ParseInt.f (a0.extract ((ji19) : Int).toNat ((wrap64 (x6_1 + 4)) : Int).toNat) 16 8).bind fun bt134 => (if bt134.2.isNone = true then (if x5_1.length < 140737488355328 then (unit_unescape.l0 kj10 a0 a1 (x5_1 ++ [(bt134.1) % 256]) (wrap64 ((wrap64 (x6_1 + 3)) + 1))) else (none)) else (if x5_1.length < 140737488355328 then (unit_unescape.l0 kj10 a0 a1 (x5_1 ++ [(bt a0 x6_1)]) (wrap64 (x6_1 + 1))) else (none)))) else (none)) else (none)) else (none)) = some r := by first | (rw [hji19] at H; exact H) | (simp only [hji19] at H ⊢; exact H)
                  have hji19w : (IntKind.i64.wrap (x6_1 + 2)) = ji19 := (i64_w _).trans hji19
                  by_cases c20 : 0 ≤ (ji19)
                  · rw [if_pos c20] at H
                    have c20b0 := eq_true c20
                    have c20b1 : decide (0 ≤ (ji19)) = true := decide_eq_true c20
                    clear c20
                    by_cases c21 : (ji19) ≤ (wrap64 (x6_1 + 4))
                    · rw [if_pos c21] at H
                      have c21b0 := eq_true c21
                      have c21b1 : decide ((ji19) ≤ (wrap64 (x6_1 + 4))) = true := decide_eq_true c21
                      by_cases c22 : (wrap64 (x6_1 + 4)) ≤ (a0.size : Int)
                      · rw [if_pos c22] at H
                        have c22b0 := eq_true c22
                        have c22b1 : decide ((wrap64 (x6_1 + 4)) ≤ (a0.size : Int)) = true := decide_eq_true c22
                        replace H := Option.bind_eq_some_iff.mp H
                        obtain ⟨⟨t134, t135⟩, A230, H⟩ := H
                        replace H : (if t135.isNone = true then (if x5_1.length < 140737488355328 then (unit_unescape.l0 kj10 a0 a1 (x5_1 ++ [(t134) % 256]) (wrap64 ((wrap64 (x6_1 + 3)) + 1))) else (none)) else (if x5_1.length < 140737488355328 then (unit_unescape.l0 kj10 a0 a1 (x5_1 ++ [(bt a0 x6_1)]) (wrap64 (x6_1 + 1))) else (none))) = some r := H
                        have A23 := Aside0.mk A230
                        clear A230
                        rcases t135 with _ | q136
                        · have H1 : (if x5_1.length < 140737488355328 then (unit_unescape.l0 kj10 a0 a1 (x5_1 ++ [(t134) % 256]) (wrap64 ((wrap64 (x6_1 + 3)) + 1))) else (none)) = some r := by rw [if_pos (show (none : Option Int).isNone = true by rfl)] at H; exact H
                          clear H
                          have H := H1
                          clear H1
                          try simp only [errW_none, errW_some]
                          by_cases c24 : x5_1.length < 140737488355328
                          · rw [if_pos c24] at H
                            have LMc24 := Aside0.mk c24
                            clear c24
                            obtain ⟨y137, hy137⟩ : ∃ y_ : List Int, y_ = (x5_1 ++ [(t134) % 256]) := ⟨_, rfl⟩
                            replace H : (unit_unescape.l0 kj10 a0 a1 y137 (wrap64 ((wrap64 (x6_1 + 3)) + 1))) = some r := by first | (rw [hy137]; with_reducible exact H) | (have H2_ := (Option.bind_some _ _).symm.trans H; rw [hy137]; with_reducible exact H2_) | (have H2_ := (Option.bind_some _ _).symm.trans H; with_reducible exact H2_) | with_reducible exact H | (rw [hy137]; exact H) | exact H
                            have Ny137 := Aside0.mk hy137
                            clear hy137
                            have H' := Aside0.mk H
                            clear H
                            go_wp2_with (first | ((with_reducible refine gate_callee (f := 53) rfl ?_); refine goesL_ (some 45) rfl rfl Tryd.func53 (by kernel_rfl) rfl #[.string (a0.extract ((ji19) : Int).toNat ((wrap64 (x6_1 + 4)) : Int).toNat), .int .i64 16, .int .i64 8] rfl (by (try simp only [List.map_toArray, List.map_cons, List.map_nil]); first | done | (simp only [hji19]; rfl) | rfl | (simp only [List.length_drop, List.length_take]; rfl)) ?_; (with_reducible refine (strconv_ParseInt.calls (a0.extract ((ji19) : Int).toNat ((wrap64 (x6_1 + 4)) : Int).toNat) 16 8 t134 none _ A23.out).mono ?_); rintro e w25 ⟨rfl, hb⟩; refine ⟨_, rfl, ?_⟩; have n0_ := Aside0.mk (Kd.R_below (by (with_reducible repeat (first | apply Kd.R_alloc | apply Kd.R_drewN | apply Kd.R_drew)); exact HO_5.out) hb); have n1_ := Aside0.mk (below_step (by repeat (first | (with_reducible first | exact HB.out | apply below_alloc | apply pw_below_drewN | apply below_drew1) | exact HB.out)) hb); clear HO_5; clear HB; have HO_5 := n0_; have HB := n1_; clear n0_ n1_; (try clear hb); (try clear hb2); (try clear hk); (try clear hi); (try simp only [errW_none, errW_some])) | ((with_reducible refine gate_builtin (b := .append) (xs := #[.tmp 54, .tmp 56]) rfl ?_); (try (refine gate_guard (by rfl) ?_; dsimp only)); at_builtin; refine Kd.R_append (Kd.int .u8) (w0 := w) w.heap.size rfl (.tmp 54) (.tmp 56) 37 5 (.int .u8 0) 1 rfl Tryd.underlying37 info5 rfl (by decide) (by omega) u5 x5_1 ((t134) % 256) [.int .u8 ((t134) % 256)] (fun _ => True) (fun _ => False) rfl rfl ?aP (fun _ hk => hk.elim) ?aF ?aO ?aB ?aS ?aL ?_; (case aP => exact rfl); (case aB => exact (by repeat (first | (with_reducible first | exact HB.out | apply below_alloc | apply pw_below_drewN | apply below_drew1) | exact HB.out))); (case aF => exact (fun _ _ => trivial)); (case aO => exact (by (with_reducible repeat (first | apply Kd.R_alloc | apply Kd.R_drewN | apply Kd.R_drew)); exact HO_5.out)); (case aS => exact (below_size (by repeat (first | (with_reducible first | exact HB.out | apply below_alloc | apply pw_below_drewN | apply below_drew1) | exact HB.out)))); (case aL => have := LMc24.out; omega); intro v138 w26 ho hb hg hat; rw [← Ny137.out] at ho; have n0_ := Aside0.mk (hb); have n1_ := Aside0.mk (ho); clear HB; clear HO_5; have HB := n0_; have HO139 := n1_; clear n0_ n1_; clear ho hb hg hat))
                            go_roundg kj10
                            case measure => have := HK1.out; have := HJ10.out; omega
                            case rel => exact ⟨(y137), (wrap64 ((wrap64 (x6_1 + 3)) + 1)), (by first | rfl | (simp; done) | (simp [*]; done)), H', ⟨by have := HK1.out; have := HJ10.out; omega⟩, ⟨by (with_reducible repeat (first | apply Kd.R_alloc | apply Kd.R_drewN | apply Kd.R_drew)); exact HO139.out⟩, ⟨by repeat (first | (with_reducible first | exact HB.out | apply below_alloc | apply pw_below_drewN | apply below_drew1) | exact HB.out)⟩⟩
                          · rw [if_neg c24] at H
                            exact absurd H (by simp)
                        · have H1 : (if x5_1.length < 140737488355328 then (unit_unescape.l0 kj10 a0 a1 (x5_1 ++ [(bt a0 x6_1)]) (wrap64 (x6_1 + 1))) else (none)) = some r := by rw [if_neg (show ¬ (some q136).isNone = true by simp)] at H; exact H
                          clear H
                          have H := H1
                          clear H1
                          try simp only [errW_none, errW_some]
                          by_cases c27 : x5_1.length < 140737488355328
                          · rw [if_pos c27] at H
                            have LMc27 := Aside0.mk c27
                            clear c27
                            obtain ⟨y140, hy140⟩ : ∃ y_ : List Int, y_ = (x5_1 ++ [(bt a0 x6_1)]) := ⟨_, rfl⟩
                            replace H : (unit_unescape.l0 kj10 a0 a1 y140 (wrap64 (x6_1 + 1))) = some r := by first | (rw [hy140]; with_reducible exact H) | (have H2_ := (Option.bind_some _ _).symm.trans H; rw [hy140]; with_reducible exact H2_) | (have H2_ := (Option.bind_some _ _).symm.trans H; with_reducible exact H2_) | with_reducible exact H | (rw [hy140]; exact H) | exact H
                            have Ny140 := Aside0.mk hy140
                            clear hy140
                            have H' := Aside0.mk H
                            clear H
                            go_wp2_with (first | ((with_reducible refine gate_callee (f := 53) rfl ?_); refine goesL_ (some 45) rfl rfl Tryd.func53 (by kernel_rfl) rfl #[.string (a0.extract ((ji19) : Int).toNat ((wrap64 (x6_1 + 4)) : Int).toNat), .int .i64 16, .int .i64 8] rfl (by (try simp only [List.map_toArray, List.map_cons, List.map_nil]); first | done | (simp only [hji19]; rfl) | rfl | (simp only [List.length_drop, List.length_take]; rfl)) ?_; (with_reducible refine (strconv_ParseInt.calls (a0.extract ((ji19) : Int).toNat ((wrap64 (x6_1 + 4)) : Int).toNat) 16 8 t134 (some q136) _ A23.out).mono ?_); rintro e w28 ⟨rfl, hb⟩; refine ⟨_, rfl, ?_⟩; have n0_ := Aside0.mk (Kd.R_below (by (with_reducible repeat (first | apply Kd.R_alloc | apply Kd.R_drewN | apply Kd.R_drew)); exact HO_5.out) hb); have n1_ := Aside0.mk (below_step (by repeat (first | (with_reducible first | exact HB.out | apply below_alloc | apply pw_below_drewN | apply below_drew1) | exact HB.out)) hb); clear HO_5; clear HB; have HO_5 := n0_; have HB := n1_; clear n0_ n1_; (try clear hb); (try clear hb2); (try clear hk); (try clear hi); (try simp only [errW_none, errW_some])) | ((with_reducible refine gate_builtin (b := .append) (xs := #[.tmp 54, .tmp 56]) rfl ?_); (try (refine gate_guard (by rfl) ?_; dsimp only)); at_builtin; refine Kd.R_append (Kd.int .u8) (w0 := w) w.heap.size rfl (.tmp 54) (.tmp 56) 37 5 (.int .u8 0) 1 rfl Tryd.underlying37 info5 rfl (by decide) (by omega) u5 x5_1 (bt a0 x6_1) [.int .u8 (bt a0 x6_1)] (fun _ => True) (fun _ => False) rfl rfl ?aP (fun _ hk => hk.elim) ?aF ?aO ?aB ?aS ?aL ?_; (case aP => exact rfl); (case aB => exact (by repeat (first | (with_reducible first | exact HB.out | apply below_alloc | apply pw_below_drewN | apply below_drew1) | exact HB.out))); (case aF => exact (fun _ _ => trivial)); (case aO => exact (by (with_reducible repeat (first | apply Kd.R_alloc | apply Kd.R_drewN | apply Kd.R_drew)); exact HO_5.out)); (case aS => exact (below_size (by repeat (first | (with_reducible first | exact HB.out | apply below_alloc | apply pw_below_drewN | apply below_drew1) | exact HB.out)))); (case aL => have := LMc27.out; omega); intro v141 w29 ho hb hg hat; rw [← Ny140.out] at ho; have n0_ := Aside0.mk (hb); have n1_ := Aside0.mk (ho); clear HB; clear HO_5; have HB := n0_; have HO142 := n1_; clear n0_ n1_; clear ho hb hg hat))
                            go_roundg kj10
                            case measure => have := HK1.out; have := HJ10.out; omega
                            case rel => exact ⟨(y140), (wrap64 (x6_1 + 1)), (by first | rfl | (simp; done) | (simp [*]; done)), H', ⟨by have := HK1.out; have := HJ10.out; omega⟩, ⟨by (with_reducible repeat (first | apply Kd.R_alloc | apply Kd.R_drewN | apply Kd.R_drew)); exact HO142.out⟩, ⟨by repeat (first | (with_reducible first | exact HB.out | apply below_alloc | apply pw_below_drewN | apply below_drew1) | exact HB.out)⟩⟩
                          · rw [if_neg c27] at H
                            exact absurd H (by simp)
                      · rw [if_neg c22] at H
                        exact absurd H (by simp)
                    · rw [if_neg c21] at H
                      exact absurd H (by simp)
                  · rw [if_neg c20] at H
                    exact absurd H (by simp)
                · replace c18 := Bool.eq_false_iff.mpr c18
                  subst c18
                  have H1 : (if x5_1.length < 140737488355328 then (unit_unescape.l0 kj10 a0 a1 (x5_1 ++ [(bt a0 x6_1)]) (wrap64 (x6_1 + 1))) else (none)) = some r := by rw [if_neg (show ¬ (false = true) by decide)] at H; exact H
                  clear H
                  have H := H1
                  clear H1
                  by_cases c30 : x5_1.length < 140737488355328
                  · rw [if_pos c30] at H
                    have LMc30 := Aside0.mk c30
                    clear c30
                    obtain ⟨y143, hy143⟩ : ∃ y_ : List Int, y_ = (x5_1 ++ [(bt a0 x6_1)]) := ⟨_, rfl⟩
                    replace H : (unit_unescape.l0 kj10 a0 a1 y143 (wrap64 (x6_1 + 1))) = some r := by first | (rw [hy143]; with_reducible exact H) | (have H2_ := (Option.bind_some _ _).symm.trans H; rw [hy143]; with_reducible exact H2_) | (have H2_ := (Option.bind_some _ _).symm.trans H; with_reducible exact H2_) | with_reducible exact H | (rw [hy143]; exact H) | exact H
                    have Ny143 := Aside0.mk hy143
                    clear hy143
                    have H' := Aside0.mk H
                    clear H
                    go_wp2_with (first | ((with_reducible refine gate_builtin (b := .append) (xs := #[.tmp 54, .tmp 56]) rfl ?_); (try (refine gate_guard (by rfl) ?_; dsimp only)); at_builtin; refine Kd.R_append (Kd.int .u8) (w0 := w) w.heap.size rfl (.tmp 54) (.tmp 56) 37 5 (.int .u8 0) 1 rfl Tryd.underlying37 info5 rfl (by decide) (by omega) u5 x5_1 (bt a0 x6_1) [.int .u8 (bt a0 x6_1)] (fun _ => True) (fun _ => False) rfl rfl ?aP (fun _ hk => hk.elim) ?aF ?aO ?aB ?aS ?aL ?_; (case aP => exact rfl); (case aB => exact (by repeat (first | (with_reducible first | exact HB.out | apply below_alloc | apply pw_below_drewN | apply below_drew1) | exact HB.out))); (case aF => exact (fun _ _ => trivial)); (case aO => exact (by (with_reducible repeat (first | apply Kd.R_alloc | apply Kd.R_drewN | apply Kd.R_drew)); exact HO_5.out)); (case aS => exact (below_size (by repeat (first | (with_reducible first | exact HB.out | apply below_alloc | apply pw_below_drewN | apply below_drew1) | exact HB.out)))); (case aL => have := LMc30.out; omega); intro v144 w31 ho hb hg hat; rw [← Ny143.out] at ho; have n0_ := Aside0.mk (hb); have n1_ := Aside0.mk (ho); clear HB; clear HO_5; have HB := n0_; have HO145 := n1_; clear n0_ n1_; clear ho hb hg hat))
                    go_roundg kj10
                    case measure => have := HK1.out; have := HJ10.out; omega
                    case rel => exact ⟨(y143), (wrap64 (x6_1 + 1)), (by first | rfl | (simp; done) | (simp [*]; done)), H', ⟨by have := HK1.out; have := HJ10.out; omega⟩, ⟨by (with_reducible repeat (first | apply Kd.R_alloc | apply Kd.R_drewN | apply Kd.R_drew)); exact HO145.out⟩, ⟨by repeat (first | (with_reducible first | exact HB.out | apply below_alloc | apply pw_below_drewN | apply below_drew1) | exact HB.out)⟩⟩
                  · rw [if_neg c30] at H
                    exact absurd H (by simp)
        · rw [if_neg c6] at H
          exact absurd H (by simp)
      · rw [if_neg c5] at H
        have c5b0 : decide (x6_1 < (a0.size : Int)) = false := decide_eq_false c5
        clear c5
        by_cases c32 : a1 = true
        · subst c32
          have H1 : (if (x5_1.length : Int) = 0 then ((some (([47] : List Int) : List Int)).bind fun y118 => (if y118.length + x5_1.length < 140737488355328 then (some (strOfNums (y118 ++ x5_1))) else (none))) else (if 0 < (x5_1.length : Int) then (if (rd x5_1 0) = 47 then (some (strOfNums x5_1)) else ((some (([47] : List Int) : List Int)).bind fun y125 => (if y125.length + x5_1.length < 140737488355328 then (some (strOfNums (y125 ++ x5_1))) else (none)))) else (none))) = some r := by rw [if_pos rfl] at H; exact H
          clear H
          have H := H1
          clear H1
          by_cases c33 : (x5_1.length : Int) = 0
          · rw [if_pos c33] at H
            have c33b0 : ((x5_1.length : Int) == 0) = true := beq_iff_eq.mpr c33
            have c33b1 : ((x5_1.length : Int) != 0) = false := bne_eq_false_iff_eq.mpr c33
            clear c33
            obtain ⟨y118, hy118⟩ : ∃ y_ : List Int, y_ = (([47] : List Int)) := ⟨_, rfl⟩
            replace H : (if y118.length + x5_1.length < 140737488355328 then (some (strOfNums (y118 ++ x5_1))) else (none)) = some r := by first | (rw [hy118]; with_reducible exact H) | (have H2_ := (Option.bind_some _ _).symm.trans H; rw [hy118]; with_reducible exact H2_) | (have H2_ := (Option.bind_some _ _).symm.trans H; with_reducible exact H2_) | with_reducible exact H | (rw [hy118]; exact H) | exact H
            have Ny118 := Aside0.mk hy118
            clear hy118
            by_cases c34 : y118.length + x5_1.length < 140737488355328
            · rw [if_pos c34] at H
              have LMc34 := Aside0.mk c34
              clear c34
              obtain ⟨y121, hy121⟩ : ∃ y_ : List Int, y_ = (y118 ++ x5_1) := ⟨_, rfl⟩
              replace H : (some (strOfNums y121)) = some r := by first | (rw [hy121]; with_reducible exact H) | (have H2_ := (Option.bind_some _ _).symm.trans H; rw [hy121]; with_reducible exact H2_) | (have H2_ := (Option.bind_some _ _).symm.trans H; with_reducible exact H2_) | with_reducible exact H | (rw [hy121]; exact H) | exact H
              have Ny121 := Aside0.mk hy121
              clear hy121
              obtain rfl := Option.some.inj H
              obtain ⟨Ao35, co35, eo35⟩ := Kd.R_slice HO_5.out
              subst eo35
              have hlim := LMc34.out
              rw [Ny118.out] at hlim
              simp only [List.length_cons, List.length_nil] at hlim
              have kc := fun (w : World) (C : Array Value) (n c : Nat) => Lib.run_convert_bytes_const (P := Tryd.prog) w 37 5 C n c Tryd.underlying37 Tryd.underlying5
              have HBo := HB.out
              have hrd0 := Kd.reads_of_C (enc := Value.int .u8) (d := (0 : Int)) (h1 := fun _ => rfl) (Kd.R_reads' HO_5.out).2.2
              obtain ⟨i0, hi0, hi1, hi2, hi3⟩ := info_parts info5
              go_wp2_with (at_builtin; refine App.wpList_append_one _ rfl (.tmp 71) (.tmp 72) 37 rfl 5 i0 Tryd.underlying37 hi0 hi1 hi2 hi3 _ 47 rfl ?hcellLMc34 _ x5_1.length _ x5_1 rfl ?hrdLMc34 (by simp only [maxLen]; omega) (by omega) ?_; (case hcellLMc34 => exact (World.cell?_alloc_mark _ _ _ _ 0).trans rfl); (case hrdLMc34 => exact hrd0.allocS _); intro A9 c9 w9 hr9 hg9; have hcv9 := string_of_reads (P := Tryd.prog) Tryd.underlying37 Tryd.underlying5 Tryd.underlying9 (c := c9) hr9)
              go_ret
              exact ⟨by rw [Ny121.out, Ny118.out]; rfl, ((HBo.alloc HBo.size _).grown hg9 (below_alloc HBo _).size (fun _ hk => by cases hk))⟩
            · rw [if_neg c34] at H
              exact absurd H (by simp)
          · rw [if_neg c33] at H
            have c33b0 : ((x5_1.length : Int) == 0) = false := beq_eq_false_iff_ne.mpr c33
            have c33b1 : ((x5_1.length : Int) != 0) = true := bne_iff_ne.mpr c33
            have c33b2 : ¬ (x5_1 = []) := fun h_ => c33 (by rw [h_]; rfl)
            by_cases c40 : 0 < (x5_1.length : Int)
            · rw [if_pos c40] at H
              have c40b0 : decide (0 < (x5_1.length : Int)) = true := decide_eq_true c40
              have c40b1 : decide (0 < x5_1.length) = true := decide_eq_true (by omega)
              clear c40
              by_cases c41 : (rd x5_1 0) = 47
              · rw [if_pos c41] at H
                have c41b0 : ((rd x5_1 0) == 47) = true := beq_iff_eq.mpr c41
                have c41b1 : ((rd x5_1 0) != 47) = false := bne_eq_false_iff_eq.mpr c41
                clear c41
                obtain rfl := Option.some.inj H
                obtain ⟨Ao42, co42, eo42⟩ := Kd.R_slice HO_5.out
                subst eo42
                have p124 : 0 ≤ (0 : Int) := (by omega)
                have q124 : 0 < (x5_1.length : Int) := of_decide_eq_true (by first | (with_reducible assumption) | assumption)
                obtain ⟨ad124, e124, hx124_0⟩ := Kd.at_int (Kd.R_reads' HO_5.out).2.2 0 p124 q124
                cases e124
                have qi124 : (0 < x5_1.length) = True := eq_true (by omega)
                (try rw [show ((0 : Int)).toNat = 0 from rfl] at hx124_0)
                (try rw [Addr.add_zero'] at hx124_0)
                replace p124 := eq_true p124
                replace q124 := eq_true q124
                have hcv43 := own_string (P := Tryd.prog) Tryd.underlying37 Tryd.underlying5 Tryd.underlying9 (Kd.own_of_R HO_5.out)
                go_wp2
                go_ret
                exact ⟨by first | rfl | (simp [errW_none, errW_some] <;> rfl) | (simp [*, errW_none, errW_some] <;> rfl), by repeat (first | (with_reducible first | exact HB.out | apply below_alloc | apply pw_below_drewN | apply below_drew1) | exact HB.out)⟩
              · rw [if_neg c41] at H
                have c41b0 : ((rd x5_1 0) == 47) = false := beq_eq_false_iff_ne.mpr c41
                have c41b1 : ((rd x5_1 0) != 47) = true := bne_iff_ne.mpr c41
                obtain ⟨y125, hy125⟩ : ∃ y_ : List Int, y_ = (([47] : List Int)) := ⟨_, rfl⟩
                replace H : (if y125.length + x5_1.length < 140737488355328 then (some (strOfNums (y125 ++ x5_1))) else (none)) = some r := by first | (rw [hy125]; with_reducible exact H) | (have H2_ := (Option.bind_some _ _).symm.trans H; rw [hy125]; with_reducible exact H2_) | (have H2_ := (Option.bind_some _ _).symm.trans H; with_reducible exact H2_) | with_reducible exact H | (rw [hy125]; exact H) | exact H
                have Ny125 := Aside0.mk hy125
                clear hy125
                by_cases c44 : y125.length + x5_1.length < 140737488355328
                · rw [if_pos c44] at H
                  have LMc44 := Aside0.mk c44
                  clear c44
                  obtain ⟨y128, hy128⟩ : ∃ y_ : List Int, y_ = (y125 ++ x5_1) := ⟨_, rfl⟩
                  replace H : (some (strOfNums y128)) = some r := by first | (rw [hy128]; with_reducible exact H) | (have H2_ := (Option.bind_some _ _).symm.trans H; rw [hy128]; with_reducible exact H2_) | (have H2_ := (Option.bind_some _ _).symm.trans H; with_reducible exact H2_) | with_reducible exact H | (rw [hy128]; exact H) | exact H
                  have Ny128 := Aside0.mk hy128
                  clear hy128
                  obtain rfl := Option.some.inj H
                  obtain ⟨Ao45, co45, eo45⟩ := Kd.R_slice HO_5.out
                  subst eo45
                  have p124 : 0 ≤ (0 : Int) := (by omega)
                  have q124 : 0 < (x5_1.length : Int) := of_decide_eq_true (by first | (with_reducible assumption) | assumption)
                  obtain ⟨ad124, e124, hx124_0⟩ := Kd.at_int (Kd.R_reads' HO_5.out).2.2 0 p124 q124
                  cases e124
                  have qi124 : (0 < x5_1.length) = True := eq_true (by omega)
                  (try rw [show ((0 : Int)).toNat = 0 from rfl] at hx124_0)
                  (try rw [Addr.add_zero'] at hx124_0)
                  replace p124 := eq_true p124
                  replace q124 := eq_true q124
                  have hlim := LMc44.out
                  rw [Ny125.out] at hlim
                  simp only [List.length_cons, List.length_nil] at hlim
                  have kc := fun (w : World) (C : Array Value) (n c : Nat) => Lib.run_convert_bytes_const (P := Tryd.prog) w 37 5 C n c Tryd.underlying37 Tryd.underlying5
                  have HBo := HB.out
                  have hrd0 := Kd.reads_of_C (enc := Value.int .u8) (d := (0 : Int)) (h1 := fun _ => rfl) (Kd.R_reads' HO_5.out).2.2
                  obtain ⟨i0, hi0, hi1, hi2, hi3⟩ := info_parts info5
                  go_wp2_with (at_builtin; refine App.wpList_append_one _ rfl (.tmp 71) (.tmp 72) 37 rfl 5 i0 Tryd.underlying37 hi0 hi1 hi2 hi3 _ 47 rfl ?hcellLMc44 _ x5_1.length _ x5_1 rfl ?hrdLMc44 (by simp only [maxLen]; omega) (by omega) ?_; (case hcellLMc44 => exact (World.cell?_alloc_mark _ _ _ _ 0).trans rfl); (case hrdLMc44 => exact hrd0.allocS _); intro A9 c9 w9 hr9 hg9; have hcv9 := string_of_reads (P := Tryd.prog) Tryd.underlying37 Tryd.underlying5 Tryd.underlying9 (c := c9) hr9)
                  go_ret
                  exact ⟨by rw [Ny128.out, Ny125.out]; rfl, ((HBo.alloc HBo.size _).grown hg9 (below_alloc HBo _).size (fun _ hk => by cases hk))⟩
                · rw [if_neg c44] at H
                  exact absurd H (by simp)
            · rw [if_neg c40] at H
              exact absurd H (by simp)
        · replace c32 := Bool.eq_false_iff.mpr c32
          subst c32
          have H1 : (some (strOfNums x5_1)) = some r := by rw [if_neg (show ¬ (false = true) by decide)] at H; exact H
          clear H
          have H := H1
          clear H1
          obtain rfl := Option.some.inj H
          have hcv50 := own_string (P := Tryd.prog) Tryd.underlying37 Tryd.underlying5 Tryd.underlying9 (Kd.own_of_R HO_5.out)
          go_wp2
          go_ret
          exact ⟨by first | rfl | (simp [errW_none, errW_some] <;> rfl) | (simp [*, errW_none, errW_some] <;> rfl), by repeat (first | (with_reducible first | exact HB.out | apply below_alloc | apply pw_below_drewN | apply below_drew1) | exact HB.out)⟩

end Go.Proofs.YtgnfapnnbcafbaaDoor.GNU
