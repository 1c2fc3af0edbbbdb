/- laws.mountsTo: the mounts handed over, one by one. Condition: as many as fit in memory. -/
import Derived.Test.YtdmccakncgdbhaaDoorMWords
import Derived.Test.YtdmccakncgdbhaaDoorGMAx0
namespace Go.Proofs.YtdmccakncgdbhaaDoor.GMA
open Go.RowKit Go.Proofs.YtdmccakncgdbhaaDoorW.PrintWords Go.Proofs.YtdmccakncgdbhaaDoorW.PrintLast Go.Proofs.YtdmccakncgdbhaaDoorW.PrintMore
set_option linter.unusedVariables false
set_option linter.unusedSimpArgs false
theorem infoM58 : (Tryd.prog.info? 58).map (fun i => (i.zero, i.size, i.bytes)) = some (some (.agg #[(.int .i64 0), (.int .i64 0), (.int .i64 0), (.int .i64 0), (.string ⟨#[]⟩), (.string ⟨#[]⟩), (.string ⟨#[]⟩), (.string ⟨#[]⟩), (.string ⟨#[]⟩), (.string ⟨#[]⟩), (.string ⟨#[]⟩)]), 11, 144) := by kernel_rfl
theorem size36 : (Tryd.prog.info? 36).map (·.size) = some 11 := by kernel_rfl
def laws_mountsTo.l0 : Nat → List (S58) → List (S36) → Int → Int → Option ((List (S58)))
  | 0, _, _, _, _ => none
  | k + 1, x3, x6, x7, x8 => if x8 < x7 then (if 0 ≤ x8 then (if x8 < (x6.length : Int) then (if x3.length < 977343669134 then (laws_mountsTo.l0 k (x3 ++ [(⟨(rd_T36 x6 x8).f0, (rd_T36 x6 x8).f1, (rd_T36 x6 x8).f2, (rd_T36 x6 x8).f3, (rd_T36 x6 x8).f4, (rd_T36 x6 x8).f5, (rd_T36 x6 x8).f6, (rd_T36 x6 x8).f7, (rd_T36 x6 x8).f8, (rd_T36 x6 x8).f9, (rd_T36 x6 x8).f10⟩ : S58)]) x6 x7 (wrap64 (x8 + 1))) else (none)) else (none)) else (none)) else (some x3)
def laws_mountsTo.f (k : Nat) (l0 : List (S36)) : Option ((List (S58))) := laws_mountsTo.l0 k ([] : List (S58)) l0 (l0.length : Int) 0
theorem laws_mountsTo.mono_l : ∀ k, (∀ y0 y1 y2 y3, LeO (laws_mountsTo.l0 k y0 y1 y2 y3) (laws_mountsTo.l0 (k + 1) y0 y1 y2 y3))
  | 0 => fun _ _ _ _ r h => by simp [laws_mountsTo.l0] at h
  | k + 1 => by
    have ih0 := laws_mountsTo.mono_l k
    · intro y0 y1 y2 y3
      unfold laws_mountsTo.l0
      repeat' first
      | (with_reducible exact ih0 _ _ _ _)
      | (with_reducible exact LeO.refl _)
      | (with_reducible exact LeO.none _)
      | (with_reducible refine LeO.ite ?_ ?_)
      | (with_reducible refine LeO.bind ?_ (fun _ => ?_))
      | exact ih0 _ _ _ _
      | exact LeO.none _
      | refine LeO.ite ?_ ?_
      | refine LeO.bind ?_ (fun _ => ?_)
theorem laws_mountsTo.mono : ∀ a0 k, LeO (laws_mountsTo.f k a0) (laws_mountsTo.f (k + 1) a0) := by
  intro a0 k
  have ih0 := laws_mountsTo.mono_l k
  unfold laws_mountsTo.f
  repeat' first
      | (with_reducible exact ih0 _ _ _ _)
      | (with_reducible exact LeO.refl _)
      | (with_reducible exact LeO.none _)
      | (with_reducible refine LeO.ite ?_ ?_)
      | (with_reducible refine LeO.bind ?_ (fun _ => ?_))
      | exact ih0 _ _ _ _
      | exact LeO.none _
      | refine LeO.ite ?_ ?_
      | refine LeO.bind ?_ (fun _ => ?_)
set_option maxHeartbeats 8000000 in
set_option maxRecDepth 100000 in
theorem laws_mountsTo.calls (k : Nat) (A0 : Option Addr) (c0 : Nat) (l0 : List (S36)) (r : List (S58)) (w : World) (hr0 : Kd.C k36 w A0 l0.length l0) (hc0 : l0.length ≤ c0) (h : laws_mountsTo.f k l0 = some r) :
    Calls Tryd.prog 17 #[.slice A0 l0.length c0] w fun e w' => ∃ v0_ : Value, e = .returned (v0_) ∧ Kd.R k58 58 w' w.heap.size (fun _ => True) v0_ r ∧ Below w.heap.size w w' := by
  have hu36 := Tryd.underlying36
  have HR0 := Aside0.mk hr0
  have HC0 := Aside0.mk hc0
  clear hr0 hc0
  have HB := Aside0.mk (Below.refl w.heap.size w)
  have H : (laws_mountsTo.l0 k ([] : List (S58)) l0 (l0.length : Int) 0) = some r := h
  clear h
  have H' := Aside0.mk H
  clear H
  go_enter Tryd.func17, Tryd.ntmps17
  go_wp2
  go_loopg [3, 8] k (fun kq v3 v8 w' => ∃ (x3_1 : List (S58)) (x8_1 : Int), v8 = .int .i64 x8_1 ∧ Aside0 (laws_mountsTo.l0 kq x3_1 l0 (l0.length : Int) x8_1 = some r) ∧ Aside0 (kq ≤ k) ∧ Aside0 (Kd.R k58 58 w' w.heap.size (fun _ => True) v3 x3_1) ∧ Aside0 (Below w.heap.size w w'))
  case atStart => exact ⟨(([] : List (S58))), (0), (by first | rfl | (simp; done) | (simp [*]; done)), H', ⟨Nat.le_refl _⟩, ⟨by first | exact Kd.R_nil _ _ _ _ _ | exact Kd.N_nil _ _ _ _ _ | exact Kd.V_nil _ _ _ _ _ | exact Kd.Q_nil _ _ _ _ _ | exact Kd.S_nil _ _ _ _ _⟩, ⟨by repeat (first | (with_reducible first | exact HB.out | apply below_alloc | apply pw_below_drewN | apply below_drew1) | exact HB.out)⟩⟩
  case round =>
    clear H'
    try clear c1
    obtain ⟨x3_1, x8_1, rfl, HA, HK1, HO_3, HB⟩ := hrel
    cases gk with
    | zero => exact absurd HA.out (by simp [laws_mountsTo.l0])
    | succ k1 =>
      have H := HA.out
      clear HA
      simp only [laws_mountsTo.l0] at H
      by_cases c2 : x8_1 < (l0.length : Int)
      · rw [if_pos c2] at H
        have c2b0 : decide (x8_1 < (l0.length : Int)) = true := decide_eq_true c2
        clear c2
        by_cases c3 : 0 ≤ x8_1
        · rw [if_pos c3] at H
          have c3b0 : decide (0 ≤ x8_1) = true := decide_eq_true c3
          clear c3
          by_cases c4 : x8_1 < (l0.length : Int)
          · rw [if_pos c4] at H
            have c4b0 : decide (x8_1 < (l0.length : Int)) = true := decide_eq_true c4
            clear c4
            by_cases c5 : x3_1.length < 977343669134
            · rw [if_pos c5] at H
              have LMc5 := Aside0.mk c5
              clear c5
              obtain ⟨y160, hy160⟩ : ∃ y_ : List (S58), y_ = (x3_1 ++ [(⟨(rd_T36 l0 x8_1).f0, (rd_T36 l0 x8_1).f1, (rd_T36 l0 x8_1).f2, (rd_T36 l0 x8_1).f3, (rd_T36 l0 x8_1).f4, (rd_T36 l0 x8_1).f5, (rd_T36 l0 x8_1).f6, (rd_T36 l0 x8_1).f7, (rd_T36 l0 x8_1).f8, (rd_T36 l0 x8_1).f9, (rd_T36 l0 x8_1).f10⟩ : S58)]) := ⟨_, rfl⟩
              replace H : (laws_mountsTo.l0 k1 y160 l0 (l0.length : Int) (wrap64 (x8_1 + 1))) = some r := by first | (rw [hy160]; with_reducible exact H) | (have H2_ := (Option.bind_some _ _).symm.trans H; rw [hy160]; with_reducible exact H2_) | (have H2_ := (Option.bind_some _ _).symm.trans H; with_reducible exact H2_) | with_reducible exact H | (rw [hy160]; exact H) | exact H
              have Ny160 := Aside0.mk hy160
              clear hy160
              have H' := Aside0.mk H
              clear H
              have p158 : 0 ≤ (x8_1 : Int) := of_decide_eq_true (by first | (with_reducible assumption) | assumption)
              have q158 : x8_1 < (l0.length : Int) := of_decide_eq_true (by first | (with_reducible assumption) | assumption)
              obtain ⟨ad158, e158, hx158_0, hx158_1, hx158_2, hx158_3, hx158_4, hx158_5, hx158_6, hx158_7, hx158_8, hx158_9, hx158_10⟩ := at_T36 HR0.out x8_1 p158 q158
              cases e158
              replace hx158_0 := (HB.out.cell (World.block_lt_of_cell? w _ hx158_0)).trans hx158_0
              replace hx158_1 := (HB.out.cell (World.block_lt_of_cell? w _ hx158_1)).trans hx158_1
              replace hx158_2 := (HB.out.cell (World.block_lt_of_cell? w _ hx158_2)).trans hx158_2
              replace hx158_3 := (HB.out.cell (World.block_lt_of_cell? w _ hx158_3)).trans hx158_3
              replace hx158_4 := (HB.out.cell (World.block_lt_of_cell? w _ hx158_4)).trans hx158_4
              replace hx158_5 := (HB.out.cell (World.block_lt_of_cell? w _ hx158_5)).trans hx158_5
              replace hx158_6 := (HB.out.cell (World.block_lt_of_cell? w _ hx158_6)).trans hx158_6
              replace hx158_7 := (HB.out.cell (World.block_lt_of_cell? w _ hx158_7)).trans hx158_7
              replace hx158_8 := (HB.out.cell (World.block_lt_of_cell? w _ hx158_8)).trans hx158_8
              replace hx158_9 := (HB.out.cell (World.block_lt_of_cell? w _ hx158_9)).trans hx158_9
              replace hx158_10 := (HB.out.cell (World.block_lt_of_cell? w _ hx158_10)).trans hx158_10
              replace p158 := eq_true p158
              replace q158 := eq_true q158
              go_wp2_with (first | ((with_reducible refine gate_dst (N := 5) rfl ?_); refine box_event ?hg (N := 5) ?hd (cs := #[.int .i64 0, .int .i64 0, .int .i64 0, .int .i64 0, .string (⟨#[]⟩ : ByteArray), .string (⟨#[]⟩ : ByteArray), .string (⟨#[]⟩ : ByteArray), .string (⟨#[]⟩ : ByteArray), .string (⟨#[]⟩ : ByteArray), .string (⟨#[]⟩ : ByteArray), .string (⟨#[]⟩ : ByteArray)]) (t := 36) ?hr ?_; (case hd => rfl); (case hg => rfl); (case hr => first | (go_simp; done) | (go_simp; rfl)); intro gb159 hg w6 hbox hb; have n0_ := Aside0.mk (Kd.R_below (by (with_reducible repeat (first | apply Kd.R_alloc | apply Kd.R_drewN | apply Kd.R_drew)); exact HO_3.out) hb); have n1_ := Aside0.mk (below_step (by repeat (first | (with_reducible first | exact HB.out | apply below_alloc | apply pw_below_drewN | apply below_drew1) | exact HB.out)) hb); have n2_ := Aside0.mk (hbox); have n3_ := Aside0.mk ((by rw [hg]; exact (below_size (by repeat (first | (with_reducible first | exact HB.out | apply below_alloc | apply pw_below_drewN | apply below_drew1) | exact HB.out))) : w.heap.size ≤ gb159)); have n4_ := Aside0.mk ((by rw [hg]; exact (below_size (by repeat (first | (with_reducible first | exact HB.out | apply below_alloc | apply pw_below_drewN | apply below_drew1) | exact HB.out))) : w.heap.size ≤ gb159)); clear HO_3; clear HB; have HO_3 := n0_; have HB := n1_; have BK159 := n2_; have GW159 := n3_; have GE159 := n4_; clear n0_ n1_ n2_ n3_ n4_; clear hb hbox hg) | ((with_reducible refine gate_ (.store 36 (.tmp 5) (.tmp 11)) rfl ?_); refine MW.store_row_event rfl rfl 36 _ _ rfl gb159 #[.int .i64 ((rd_T36 l0 x8_1).f0), .int .i64 ((rd_T36 l0 x8_1).f1), .int .i64 ((rd_T36 l0 x8_1).f2), .int .i64 ((rd_T36 l0 x8_1).f3), .string ((rd_T36 l0 x8_1).f4), .string ((rd_T36 l0 x8_1).f5), .string ((rd_T36 l0 x8_1).f6), .string ((rd_T36 l0 x8_1).f7), .string ((rd_T36 l0 x8_1).f8), .string ((rd_T36 l0 x8_1).f9), .string ((rd_T36 l0 x8_1).f10)] rfl rfl 36 _ BK159.out size36 rfl (by simp [Value.oneCell']) ?_; intro w7 hbk hgr; have n0_ := Aside0.mk hbk; have n1_ := Aside0.mk (pw_below_grown HB.out (some gb159) (below_size HB.out) hgr (fun k e => by cases e; exact GE159.out)); have n2_ := Aside0.mk (Kd.R_grown (Kd.R_types HO_3.out BK159.out (by decide)) hgr (fun k hk e => hk.2 (by cases e; rfl))); clear HO_3 BK159 HB; have BK159 := n0_; have HB := n1_; have HO_3 := n2_; clear n0_ n1_ n2_; clear hbk hgr) | ((with_reducible refine gate_ (.load 36 (.tmp 5)) rfl ?_); refine wpList_load_row rfl 36 _ rfl gb159 rfl 36 #[.int .i64 ((rd_T36 l0 x8_1).f0), .int .i64 ((rd_T36 l0 x8_1).f1), .int .i64 ((rd_T36 l0 x8_1).f2), .int .i64 ((rd_T36 l0 x8_1).f3), .string ((rd_T36 l0 x8_1).f4), .string ((rd_T36 l0 x8_1).f5), .string ((rd_T36 l0 x8_1).f6), .string ((rd_T36 l0 x8_1).f7), .string ((rd_T36 l0 x8_1).f8), .string ((rd_T36 l0 x8_1).f9), .string ((rd_T36 l0 x8_1).f10)] (0, 0) _ BK159.out hu36 rfl size36 ?_) | ((with_reducible refine gate_builtin (b := .append) (xs := #[.tmp 12, .tmp 14]) rfl ?_); at_builtin; refine Kd.R_append k58 (w0 := w) w.heap.size rfl (.tmp 12) (.tmp 14) 44 58 (.agg #[(.int .i64 0), (.int .i64 0), (.int .i64 0), (.int .i64 0), (.string ⟨#[]⟩), (.string ⟨#[]⟩), (.string ⟨#[]⟩), (.string ⟨#[]⟩), (.string ⟨#[]⟩), (.string ⟨#[]⟩), (.string ⟨#[]⟩)]) 144 rfl Tryd.underlying44 infoM58 rfl (by decide) (by omega) u3 x3_1 (⟨(rd_T36 l0 x8_1).f0, (rd_T36 l0 x8_1).f1, (rd_T36 l0 x8_1).f2, (rd_T36 l0 x8_1).f3, (rd_T36 l0 x8_1).f4, (rd_T36 l0 x8_1).f5, (rd_T36 l0 x8_1).f6, (rd_T36 l0 x8_1).f7, (rd_T36 l0 x8_1).f8, (rd_T36 l0 x8_1).f9, (rd_T36 l0 x8_1).f10⟩ : S58) [.int .i64 ((rd_T36 l0 x8_1).f0), .int .i64 ((rd_T36 l0 x8_1).f1), .int .i64 ((rd_T36 l0 x8_1).f2), .int .i64 ((rd_T36 l0 x8_1).f3), .string ((rd_T36 l0 x8_1).f4), .string ((rd_T36 l0 x8_1).f5), .string ((rd_T36 l0 x8_1).f6), .string ((rd_T36 l0 x8_1).f7), .string ((rd_T36 l0 x8_1).f8), .string ((rd_T36 l0 x8_1).f9), .string ((rd_T36 l0 x8_1).f10)] (fun _ => True) (fun _ => False) rfl (by first | (go_simp; done) | (go_simp; rfl)) ?aP (fun _ hk => hk.elim) ?aF ?aO ?aB ?aS ?aL ?_; (case aP => exact k58_mkM _ _ _ (⟨(rd_T36 l0 x8_1).f0, (rd_T36 l0 x8_1).f1, (rd_T36 l0 x8_1).f2, (rd_T36 l0 x8_1).f3, (rd_T36 l0 x8_1).f4, (rd_T36 l0 x8_1).f5, (rd_T36 l0 x8_1).f6, (rd_T36 l0 x8_1).f7, (rd_T36 l0 x8_1).f8, (rd_T36 l0 x8_1).f9, (rd_T36 l0 x8_1).f10⟩ : S58)); (case aB => exact (by repeat (first | (with_reducible first | exact HB.out | apply below_alloc | apply pw_below_drewN | apply below_drew1) | exact HB.out))); (case aF => exact (fun _ _ => trivial)); (case aO => exact (by (with_reducible repeat (first | apply Kd.R_alloc | apply Kd.R_drewN | apply Kd.R_drew)); exact Kd.R_mono HO_3.out (fun _ _ => trivial))); (case aS => exact (below_size (by repeat (first | (with_reducible first | exact HB.out | apply below_alloc | apply pw_below_drewN | apply below_drew1) | exact HB.out)))); (case aL => have := LMc5.out; omega); intro v161 w8 ho hb hg hat; rw [← Ny160.out] at ho; have n1_ := Aside0.mk (hb); have n2_ := Aside0.mk (ho); clear BK159; clear HB; clear HO_3; have HB := n1_; have HO162 := n2_; clear n1_ n2_; clear ho hb hg hat))
              go_roundg k1
              case measure => have := HK1.out; omega
              case rel => exact ⟨(y160), (wrap64 (x8_1 + 1)), (by first | rfl | (simp; done) | (simp [*]; done)), H', ⟨by have := HK1.out; omega⟩, ⟨by (with_reducible repeat (first | apply Kd.R_alloc | apply Kd.R_drewN | apply Kd.R_drew)); exact HO162.out⟩, ⟨by repeat (first | (with_reducible first | exact HB.out | apply below_alloc | apply pw_below_drewN | apply below_drew1) | exact HB.out)⟩⟩
            · rw [if_neg c5] at H
              exact absurd H (by simp)
          · rw [if_neg c4] at H
            exact absurd H (by simp)
        · rw [if_neg c3] at H
          exact absurd H (by simp)
      · rw [if_neg c2] at H
        have c2b0 : decide (x8_1 < (l0.length : Int)) = false := decide_eq_false c2
        clear c2
        obtain rfl := Option.some.inj H
        go_wp2
        go_ret
        exact ⟨_, by first | rfl | (simp [errW_none, errW_some] <;> rfl) | (simp [*, errW_none, errW_some] <;> rfl), by (with_reducible repeat (first | apply Kd.R_alloc | apply Kd.R_drewN | apply Kd.R_drew)); exact HO_3.out, by repeat (first | (with_reducible first | exact HB.out | apply below_alloc | apply pw_below_drewN | apply below_drew1) | exact HB.out)⟩

end Go.Proofs.YtdmccakncgdbhaaDoor.GMA
