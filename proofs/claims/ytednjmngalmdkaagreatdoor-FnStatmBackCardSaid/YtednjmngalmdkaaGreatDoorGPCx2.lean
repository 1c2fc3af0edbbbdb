-- printed by gprint.py (a session's own turn of the kit's print): PC
import Derived.Test.YtednjmngalmdkaaGreatDoorGPCx0
import Derived.Test.YtednjmngalmdkaaGreatDoorGPCx1
import Derived.Test.YtednjmngalmdkaaGreatDoorGivenPC
namespace Go.Proofs.YtednjmngalmdkaaGreatDoor.GPC
open Go.RowKit Go.Proofs.YtednjmngalmdkaaGreatDoorW.PrintWords Go.Proofs.YtednjmngalmdkaaGreatDoorW.PrintLast Go.Proofs.YtednjmngalmdkaaGreatDoorW.PrintMore
attribute [local go_sem] max2_int min2_int max_two min_two max_three min_three max_four min_four   -- for this text's walks alone
set_option linter.unusedVariables false
set_option linter.unusedSimpArgs false

attribute [local go_sem] run_store_float
/-! ### spec_Join: function 148 -/
def spec_Join.l0 : Nat → ByteArray → ByteArray → List ByteArray → Int → Int → Option (ByteArray)
  | 0, _, _, _, _, _ => none
  | k + 1, x1, x5, x8, x9, x10 => if x10 < x9 then (if 0 ≤ x10 then (if x10 < (x8.length : Int) then (if x10 > 0 then (if x5.size + x1.size ≤ 9223372036854775807 then (if (x5 ++ x1).size + (rdOf ByteArray.empty x8 x10).size ≤ 9223372036854775807 then (spec_Join.l0 k x1 ((x5 ++ x1) ++ (rdOf ByteArray.empty x8 x10)) x8 x9 (wrap64 (x10 + 1))) else (none)) else (none)) else (if x5.size + (rdOf ByteArray.empty x8 x10).size ≤ 9223372036854775807 then (spec_Join.l0 k x1 (x5 ++ (rdOf ByteArray.empty x8 x10)) x8 x9 (wrap64 (x10 + 1))) else (none))) else (none)) else (none)) else (some x5)
def spec_Join.f (k : Nat) (l0 : List ByteArray) (a1 : ByteArray) : Option (ByteArray) := spec_Join.l0 k a1 (⟨#[]⟩ : ByteArray) l0 (l0.length : Int) 0
theorem spec_Join.mono_l : ∀ k, (∀ y0 y1 y2 y3 y4, LeO (spec_Join.l0 k y0 y1 y2 y3 y4) (spec_Join.l0 (k + 1) y0 y1 y2 y3 y4))
  | 0 => fun _ _ _ _ _ r h => by simp [spec_Join.l0] at h
  | k + 1 => by
    have ih0 := spec_Join.mono_l k
    · intro y0 y1 y2 y3 y4
      unfold spec_Join.l0
      repeat' first
      | (with_reducible exact ih0 _ _ _ _ _)
      | (with_reducible exact LeO.refl _)
      | (with_reducible exact LeO.none _)
      | (with_reducible refine LeO.ite ?_ ?_)
      | (with_reducible refine LeO.bind ?_ (fun _ => ?_))
      | exact ih0 _ _ _ _ _
      | exact LeO.none _
      | refine LeO.ite ?_ ?_
      | refine LeO.bind ?_ (fun _ => ?_)
theorem spec_Join.mono : ∀ a0 a1 k, LeO (spec_Join.f k a0 a1) (spec_Join.f (k + 1) a0 a1) := by
  intro a0 a1 k
  have ih0 := spec_Join.mono_l k
  unfold spec_Join.f
  repeat' first
      | (with_reducible exact ih0 _ _ _ _ _)
      | (with_reducible exact LeO.refl _)
      | (with_reducible exact LeO.none _)
      | (with_reducible refine LeO.ite ?_ ?_)
      | (with_reducible refine LeO.bind ?_ (fun _ => ?_))
      | exact ih0 _ _ _ _ _
      | exact LeO.none _
      | refine LeO.ite ?_ ?_
      | refine LeO.bind ?_ (fun _ => ?_)
set_option maxHeartbeats 8000000 in
set_option maxRecDepth 100000 in
theorem spec_Join.calls (k : Nat) (A0 : Option Addr) (c0 : Nat) (l0 : List ByteArray) (a1 : ByteArray) (r : ByteArray) (w : World) (hr0 : Kd.C Kd.string w A0 l0.length l0) (hc0 : l0.length ≤ c0) (h : spec_Join.f k l0 a1 = some r) :
    Calls Tryz.prog 148 #[.slice A0 l0.length c0, .string a1] w fun e w' => e = .returned (.string r) ∧ Drawn0 w w' := by
  have HR0 := Aside0.mk hr0
  have HC0 := Aside0.mk hc0
  clear hr0 hc0
  have H : (spec_Join.l0 k a1 (⟨#[]⟩ : ByteArray) l0 (l0.length : Int) 0) = some r := h
  clear h
  have H' := Aside0.mk H
  clear H
  go_enter Tryz.func148, Tryz.ntmps148
  go_wp2
  go_loopg [5, 10] k (fun kq v5 v10 w' => ∃ (x5_1 : ByteArray) (x10_1 : Int), v5 = .string x5_1 ∧ v10 = .int .i64 x10_1 ∧ Aside0 (spec_Join.l0 kq a1 x5_1 l0 (l0.length : Int) x10_1 = some r) ∧ Aside0 (kq ≤ k) ∧ Drawn0 w w')
  case atStart => exact ⟨((⟨#[]⟩ : ByteArray)), (0), (by first | rfl | (simp; done) | (simp [*]; done)), (by first | rfl | (simp; done) | (simp [*]; done)), H', ⟨Nat.le_refl _⟩, by repeat (first | exact Drawn0.refl _ | apply Drawn0.step)⟩
  case round =>
    clear H'
    try clear c1
    try clear p2
    obtain ⟨x5_1, x10_1, rfl, rfl, HA, HK1, ⟨m1, rfl⟩⟩ := hrel
    cases gk with
    | zero => exact absurd HA.out (by simp [spec_Join.l0])
    | succ k1 =>
      have H := HA.out
      clear HA
      simp only [spec_Join.l0] at H
      by_cases c3 : x10_1 < (l0.length : Int)
      · rw [if_pos c3] at H
        have c3b0 : decide (x10_1 < (l0.length : Int)) = true := decide_eq_true c3
        clear c3
        replace H := guard_inv H
        obtain ⟨c4, H⟩ := H
        have c4b0 : decide (0 ≤ x10_1) = true := decide_eq_true c4
        clear c4
        replace H := guard_inv H
        obtain ⟨c5, H⟩ := H
        have c5b0 : decide (x10_1 < (l0.length : Int)) = true := decide_eq_true c5
        clear c5
        by_cases c6 : x10_1 > 0
        · rw [if_pos c6] at H
          have c6b0 : decide (0 < x10_1) = true := decide_eq_true c6
          clear c6
          replace H := guard_inv H
          obtain ⟨c7, H⟩ := H
          have c7b0 := eq_true c7
          have c7b1 := decide_eq_true c7
          try have c7b2 := eq_false (Nat.not_lt.2 c7)
          replace H := guard_inv H
          obtain ⟨c8, H⟩ := H
          have c8b0 := eq_true c8
          have c8b1 := decide_eq_true c8
          try have c8b2 := eq_false (Nat.not_lt.2 c8)
          try have c8b5 : (9223372036854775807 < x5_1.size + a1.size + (rdOf ByteArray.empty l0 x10_1).size) = False := by have e_ := c8b2; (repeat rw [ByteArray.size_append] at e_); exact e_
          have H' := Aside0.mk H
          clear H
          have p116 : 0 ≤ (x10_1 : Int) := of_decide_eq_true (by first | (with_reducible assumption) | assumption)
          have q116 : x10_1 < (l0.length : Int) := of_decide_eq_true (by first | (with_reducible assumption) | assumption)
          obtain ⟨ad116, e116, hx116_0⟩ := Kd.at_string HR0.out x10_1 p116 q116
          cases e116
          replace p116 := eq_true p116
          replace q116 := eq_true q116
          go_wp2
          go_roundg k1
          case measure => have := HK1.out; omega
          case rel => exact ⟨((x5_1 ++ a1) ++ (rdOf ByteArray.empty l0 x10_1)), (wrap64 (x10_1 + 1)), (by first | rfl | (simp; done) | (simp [*]; done)), (by first | rfl | (simp; done) | (simp [*]; done)), H', ⟨by have := HK1.out; omega⟩, by repeat (first | exact Drawn0.refl _ | apply Drawn0.step)⟩
        · rw [if_neg c6] at H
          have c6b0 : decide (0 < x10_1) = false := decide_eq_false c6
          clear c6
          replace H := guard_inv H
          obtain ⟨c9, H⟩ := H
          have c9b0 := eq_true c9
          have c9b1 := decide_eq_true c9
          try have c9b2 := eq_false (Nat.not_lt.2 c9)
          have H' := Aside0.mk H
          clear H
          have p116 : 0 ≤ (x10_1 : Int) := of_decide_eq_true (by first | (with_reducible assumption) | assumption)
          have q116 : x10_1 < (l0.length : Int) := of_decide_eq_true (by first | (with_reducible assumption) | assumption)
          obtain ⟨ad116, e116, hx116_0⟩ := Kd.at_string HR0.out x10_1 p116 q116
          cases e116
          replace p116 := eq_true p116
          replace q116 := eq_true q116
          go_wp2
          go_roundg k1
          case measure => have := HK1.out; omega
          case rel => exact ⟨(x5_1 ++ (rdOf ByteArray.empty l0 x10_1)), (wrap64 (x10_1 + 1)), (by first | rfl | (simp; done) | (simp [*]; done)), (by first | rfl | (simp; done) | (simp [*]; done)), H', ⟨by have := HK1.out; omega⟩, by repeat (first | exact Drawn0.refl _ | apply Drawn0.step)⟩
      · rw [if_neg c3] at H
        have c3b0 : decide (x10_1 < (l0.length : Int)) = false := decide_eq_false c3
        clear c3
        obtain rfl := Option.some.inj H
        go_wp2
        go_ret
        exact ⟨by first | rfl | (simp; done) | (simp [*]; done), by repeat (first | exact Drawn0.refl _ | apply Drawn0.step)⟩

/-! ### spec_numbers: function 73 -/
def spec_numbers.l0 : Nat → ByteArray → List ByteArray → List Int → Int → Int → Option (ByteArray)
  | 0, _, _, _, _, _ => none
  | k + 1, x1, x5, x8, x9, x10 => if x10 < x9 then (if 0 ≤ x10 then (if x10 < (x8.length : Int) then ((spec_Text.f k (rd x8 x10)).bind fun t118 => (if x5.length < 8796093022208 then (spec_numbers.l0 k x1 (x5 ++ [t118]) x8 x9 (wrap64 (x10 + 1))) else (none))) else (none)) else (none)) else ((spec_Join.f k x5 x1).bind fun t122 => (some t122))
def spec_numbers.f (k : Nat) (l0 : List Int) (a1 : ByteArray) : Option (ByteArray) := spec_numbers.l0 k a1 ([] : List ByteArray) l0 (l0.length : Int) 0
theorem spec_numbers.mono_l : ∀ k, (∀ y0 y1 y2 y3 y4, LeO (spec_numbers.l0 k y0 y1 y2 y3 y4) (spec_numbers.l0 (k + 1) y0 y1 y2 y3 y4))
  | 0 => fun _ _ _ _ _ r h => by simp [spec_numbers.l0] at h
  | k + 1 => by
    have ih0 := spec_numbers.mono_l k
    · intro y0 y1 y2 y3 y4
      unfold spec_numbers.l0
      repeat' first
      | (with_reducible exact ih0 _ _ _ _ _)
      | (with_reducible exact spec_Join.mono _ _ _)
      | (with_reducible exact spec_Text.mono _ _)
      | (with_reducible exact LeO.refl _)
      | (with_reducible exact LeO.none _)
      | (with_reducible refine LeO.ite ?_ ?_)
      | (with_reducible refine LeO.bind ?_ (fun _ => ?_))
      | exact ih0 _ _ _ _ _
      | exact spec_Join.mono _ _ _
      | exact spec_Text.mono _ _
      | exact LeO.none _
      | refine LeO.ite ?_ ?_
      | refine LeO.bind ?_ (fun _ => ?_)
theorem spec_numbers.mono : ∀ a0 a1 k, LeO (spec_numbers.f k a0 a1) (spec_numbers.f (k + 1) a0 a1) := by
  intro a0 a1 k
  have ih0 := spec_numbers.mono_l k
  unfold spec_numbers.f
  repeat' first
      | (with_reducible exact ih0 _ _ _ _ _)
      | (with_reducible exact spec_Join.mono _ _ _)
      | (with_reducible exact spec_Text.mono _ _)
      | (with_reducible exact LeO.refl _)
      | (with_reducible exact LeO.none _)
      | (with_reducible refine LeO.ite ?_ ?_)
      | (with_reducible refine LeO.bind ?_ (fun _ => ?_))
      | exact ih0 _ _ _ _ _
      | exact spec_Join.mono _ _ _
      | exact spec_Text.mono _ _
      | exact LeO.none _
      | refine LeO.ite ?_ ?_
      | refine LeO.bind ?_ (fun _ => ?_)
set_option maxHeartbeats 8000000 in
set_option maxRecDepth 100000 in
theorem spec_numbers.calls (k : Nat) (A0 : Option Addr) (c0 : Nat) (l0 : List Int) (a1 : ByteArray) (r : ByteArray) (w : World) (hr0 : Kd.C (Kd.int .u64) w A0 l0.length l0) (hc0 : l0.length ≤ c0) (h : spec_numbers.f k l0 a1 = some r) :
    Calls Tryz.prog 73 #[.slice A0 l0.length c0, .string a1] w fun e w' => e = .returned (.string r) ∧ Below w.heap.size w w' := by
  have HR0 := Aside0.mk hr0
  have HC0 := Aside0.mk hc0
  clear hr0 hc0
  have HB := Aside0.mk (Below.refl w.heap.size w)
  have H : (spec_numbers.l0 k a1 ([] : List ByteArray) l0 (l0.length : Int) 0) = some r := h
  clear h
  have H' := Aside0.mk H
  clear H
  go_enter Tryz.func73, Tryz.ntmps73
  go_wp2
  go_loopg [5, 10] k (fun kq v5 v10 w' => ∃ (x5_1 : List ByteArray) (x10_1 : Int), v10 = .int .i64 x10_1 ∧ Aside0 (spec_numbers.l0 kq a1 x5_1 l0 (l0.length : Int) x10_1 = some r) ∧ Aside0 (kq ≤ k) ∧ Aside0 (Kd.R Kd.string 9 w' w.heap.size (fun _ => True) v5 x5_1) ∧ Aside0 (Below w.heap.size w w'))
  case atStart => exact ⟨(([] : List ByteArray)), (0), (by first | rfl | (simp; done) | (simp [*]; done)), H', ⟨Nat.le_refl _⟩, ⟨by first | exact Kd.R_nil _ _ _ _ _ | exact Kd.N_nil _ _ _ _ _ | exact Kd.V_nil _ _ _ _ _ | exact Kd.Q_nil _ _ _ _ _ | exact Kd.S_nil _ _ _ _ _⟩, ⟨by repeat (first | (with_reducible first | exact HB.out | apply below_alloc | apply pw_below_drewN | apply below_drew1) | exact HB.out)⟩⟩
  case round =>
    clear H'
    try clear p2
    obtain ⟨x5_1, x10_1, rfl, HA, HK1, HO_5, HB⟩ := hrel
    cases gk with
    | zero => exact absurd HA.out (by simp [spec_numbers.l0])
    | succ k1 =>
      have H := HA.out
      clear HA
      simp only [spec_numbers.l0] at H
      by_cases c3 : x10_1 < (l0.length : Int)
      · rw [if_pos c3] at H
        have c3b0 : decide (x10_1 < (l0.length : Int)) = true := decide_eq_true c3
        clear c3
        replace H := guard_inv H
        obtain ⟨c4, H⟩ := H
        have c4b0 : decide (0 ≤ x10_1) = true := decide_eq_true c4
        clear c4
        replace H := guard_inv H
        obtain ⟨c5, H⟩ := H
        have c5b0 : decide (x10_1 < (l0.length : Int)) = true := decide_eq_true c5
        clear c5
        replace H := Option.bind_eq_some_iff.mp H
        obtain ⟨t118, A60, H⟩ := H
        replace H : (if x5_1.length < 8796093022208 then (spec_numbers.l0 k1 a1 (x5_1 ++ [t118]) l0 (l0.length : Int) (wrap64 (x10_1 + 1))) else (none)) = some r := H
        have A6 := Aside0.mk A60
        clear A60
        replace H := guard_inv H
        obtain ⟨c7, H⟩ := H
        have LMc7 := Aside0.mk c7
        clear c7
        obtain ⟨y119, hy119⟩ : ∃ y_ : List ByteArray, y_ = (x5_1 ++ [t118]) := ⟨_, rfl⟩
        replace H : (spec_numbers.l0 k1 a1 y119 l0 (l0.length : Int) (wrap64 (x10_1 + 1))) = some r := by first | (rw [hy119]; with_reducible exact H) | (have H2_ := (Option.bind_some _ _).symm.trans H; rw [hy119]; with_reducible exact H2_) | (have H2_ := (Option.bind_some _ _).symm.trans H; with_reducible exact H2_) | with_reducible exact H | (rw [hy119]; exact H) | exact H
        have Ny119 := Aside0.mk hy119
        clear hy119
        have H' := Aside0.mk H
        clear H
        have p117 : 0 ≤ (x10_1 : Int) := of_decide_eq_true (by first | (with_reducible assumption) | assumption)
        have q117 : x10_1 < (l0.length : Int) := of_decide_eq_true (by first | (with_reducible assumption) | assumption)
        obtain ⟨ad117, e117, hx117_0⟩ := Kd.at_int HR0.out x10_1 p117 q117
        cases e117
        replace hx117_0 := (HB.out.cell (World.block_lt_of_cell? w _ hx117_0)).trans hx117_0
        replace p117 := eq_true p117
        replace q117 := eq_true q117
        go_wp2_with (first | ((with_reducible refine gate_callee (f := 52) rfl ?_); refine goesL_ (some 16) rfl rfl Tryz.func52 (by kernel_rfl) rfl #[.int .u64 (rd l0 x10_1)] rfl (by (try simp only [List.map_toArray, List.map_cons, List.map_nil]); first | done | rfl | (simp only [List.length_drop, List.length_take]; rfl)) ?_; (with_reducible refine (spec_Text.calls k1 (rd l0 x10_1) t118 _ A6.out).mono ?_); rintro e w8 ⟨rfl, hb⟩; refine ⟨_, rfl, ?_⟩; have n0_ := Aside0.mk (Kd.R_below (by (with_reducible repeat (first | apply Kd.R_alloc | apply Kd.R_drewN | apply Kd.R_drew)); exact HO_5.out) hb); have n1_ := Aside0.mk (below_step (by repeat (first | (with_reducible first | exact HB.out | apply below_alloc | apply pw_below_drewN | apply below_drew1) | exact HB.out)) hb); clear HO_5; clear HB; have HO_5 := n0_; have HB := n1_; clear n0_ n1_; (try clear hb); (try clear hb2); (try clear hk); (try clear hi)) | ((with_reducible refine gate_builtin (b := .append) (xs := #[.tmp 14, .tmp 17]) rfl ?_); at_builtin; refine Kd.R_append Kd.string (w0 := w) w.heap.size rfl (.tmp 14) (.tmp 17) 29 9 (.string ⟨#[]⟩) 16 rfl Tryz.underlying29 info9 rfl (by decide) (by omega) u5 x5_1 t118 [.string t118] (fun _ => True) (fun _ => False) rfl rfl ?aP (fun _ hk => hk.elim) ?aF ?aO ?aB ?aS ?aL ?_; (case aP => exact rfl); (case aB => exact (by repeat (first | (with_reducible first | exact HB.out | apply below_alloc | apply pw_below_drewN | apply below_drew1) | exact HB.out))); (case aF => exact (fun _ _ => trivial)); (case aO => exact (by (with_reducible repeat (first | apply Kd.R_alloc | apply Kd.R_drewN | apply Kd.R_drew)); exact HO_5.out)); (case aS => exact (below_size (by repeat (first | (with_reducible first | exact HB.out | apply below_alloc | apply pw_below_drewN | apply below_drew1) | exact HB.out)))); (case aL => have := LMc7.out; omega); intro v120 w9 ho hb hg hat; rw [← Ny119.out] at ho; have n0_ := Aside0.mk (hb); have n1_ := Aside0.mk (ho); clear HB; clear HO_5; have HB := n0_; have HO121 := n1_; clear n0_ n1_; clear ho hb hg hat))
        go_roundg k1
        case measure => have := HK1.out; omega
        case rel => exact ⟨(y119), (wrap64 (x10_1 + 1)), (by first | rfl | (simp; done) | (simp [*]; done)), H', ⟨by have := HK1.out; omega⟩, ⟨by (with_reducible repeat (first | apply Kd.R_alloc | apply Kd.R_drewN | apply Kd.R_drew)); exact HO121.out⟩, ⟨by repeat (first | (with_reducible first | exact HB.out | apply below_alloc | apply pw_below_drewN | apply below_drew1) | exact HB.out)⟩⟩
      · rw [if_neg c3] at H
        have c3b0 : decide (x10_1 < (l0.length : Int)) = false := decide_eq_false c3
        clear c3
        replace H := Option.bind_eq_some_iff.mp H
        obtain ⟨t122, A100, H⟩ := H
        replace H : (some t122) = some r := H
        have A10 := Aside0.mk A100
        clear A100
        obtain rfl := Option.some.inj H
        obtain ⟨Ao11, co11, eo11⟩ := Kd.R_slice HO_5.out
        subst eo11
        go_wp2_with (first | ((with_reducible refine gate_callee (f := 148) rfl ?_); refine goesL_ (some 22) rfl rfl Tryz.func148 (by kernel_rfl) rfl #[.slice Ao11 x5_1.length co11, .string a1] rfl (by (try simp only [List.map_toArray, List.map_cons, List.map_nil]); first | done | rfl | (simp only [List.length_drop, List.length_take]; rfl)) ?_; (with_reducible refine (spec_Join.calls k1 _ _ x5_1 a1 t122 _ ?side1 ?side2 A10.out).mono ?_); (case side1 => repeat (first | exact (Kd.R_reads' HO_5.out).2.2 | (with_reducible refine Kd.C_alloc ?_ _) | (with_reducible refine Kd.C_drewN ?_ _) | (with_reducible refine Kd.C_drew ?_))); (case side2 => exact (Kd.R_reads' HO_5.out).2.1); rintro e w' ⟨rfl, ⟨nd, rfl⟩⟩; refine ⟨_, rfl, ?_⟩))
        go_ret
        exact ⟨by first | rfl | (simp [errW_none, errW_some] <;> rfl) | (simp [*, errW_none, errW_some] <;> rfl), by repeat (first | (with_reducible first | exact HB.out | apply below_alloc | apply pw_below_drewN | apply below_drew1) | exact HB.out)⟩

/-! ### spec_StatmPrint: function 21 -/
def spec_StatmPrint.f (k : Nat) (l0 : List (S31)) : Option (ByteArray × Int) := if (l0.length : Int) = 1 then (if 0 < (l0.length : Int) then (if ((rd_T31 l0 0).f0).toList = ([] : List UInt8) then ((spec_sized.f ((rd_T31 l0 0).f0) ((rd_T31 l0 0).f1) ((rd_T31 l0 0).f2) 7 0).bind fun t125 => (if t125 = true then ((spec_numbers.f k ((rd_T31 l0 0).f1) (⟨#[32]⟩ : ByteArray)).bind fun t127 => (if t127.size + 1 ≤ 9223372036854775807 then (some (t127 ++ (⟨#[10]⟩ : ByteArray), 1)) else (none))) else (some ((⟨#[]⟩ : ByteArray), 2)))) else (some ((⟨#[]⟩ : ByteArray), 2))) else (none)) else (some ((⟨#[]⟩ : ByteArray), 2))
theorem spec_StatmPrint.mono : ∀ a0 k, LeO (spec_StatmPrint.f k a0) (spec_StatmPrint.f (k + 1) a0) := by
  intro a0 k
  unfold spec_StatmPrint.f
  repeat' first
      | (with_reducible exact spec_numbers.mono _ _ _)
      | (with_reducible exact LeO.refl _)
      | (with_reducible exact LeO.none _)
      | (with_reducible refine LeO.ite ?_ ?_)
      | (with_reducible refine LeO.bind ?_ (fun _ => ?_))
      | exact spec_numbers.mono _ _ _
      | exact LeO.none _
      | refine LeO.ite ?_ ?_
      | refine LeO.bind ?_ (fun _ => ?_)
set_option maxHeartbeats 8000000 in
set_option maxRecDepth 100000 in
theorem spec_StatmPrint.calls (k : Nat) (A0 : Option Addr) (c0 : Nat) (l0 : List (S31)) (r1 : ByteArray) (r2 : Int) (w : World) (hr0 : Kd.C k31 w A0 l0.length l0) (hc0 : l0.length ≤ c0) (h : spec_StatmPrint.f k l0 = some (r1, r2)) :
    Calls Tryz.prog 21 #[.slice A0 l0.length c0] w fun e w' => e = .returned (.tuple #[.string r1, .int .i64 r2]) ∧ Below w.heap.size w w' := by
  have hu31 := Tryz.underlying31
  have HR0 := Aside0.mk hr0
  have HC0 := Aside0.mk hc0
  clear hr0 hc0
  have HB := Aside0.mk (Below.refl w.heap.size w)
  have H : (if (l0.length : Int) = 1 then (if 0 < (l0.length : Int) then (if ((rd_T31 l0 0).f0).toList = ([] : List UInt8) then ((spec_sized.f ((rd_T31 l0 0).f0) ((rd_T31 l0 0).f1) ((rd_T31 l0 0).f2) 7 0).bind fun t125 => (if t125 = true then ((spec_numbers.f k ((rd_T31 l0 0).f1) (⟨#[32]⟩ : ByteArray)).bind fun t127 => (if t127.size + 1 ≤ 9223372036854775807 then (some (t127 ++ (⟨#[10]⟩ : ByteArray), 1)) else (none))) else (some ((⟨#[]⟩ : ByteArray), 2)))) else (some ((⟨#[]⟩ : ByteArray), 2))) else (none)) else (some ((⟨#[]⟩ : ByteArray), 2))) = some (r1, r2) := h
  clear h
  by_cases c2 : (l0.length : Int) = 1
  · rw [if_pos c2] at H
    have c2b0 : ((l0.length : Int) == 1) = true := beq_iff_eq.mpr c2
    have c2b1 : ((l0.length : Int) != 1) = false := bne_eq_false_iff_eq.mpr c2
    clear c2
    replace H := guard_inv H
    obtain ⟨c3, H⟩ := H
    have c3b0 : decide (0 < (l0.length : Int)) = true := decide_eq_true c3
    have c3b1 : decide (0 < l0.length) = true := decide_eq_true (by omega)
    clear c3
    by_cases c4 : ((rd_T31 l0 0).f0).toList = ([] : List UInt8)
    · rw [if_pos c4] at H
      have c4b0 : (((rd_T31 l0 0).f0).toList == ([] : List UInt8)) = true := beq_iff_eq.mpr c4
      have c4b1 : (((rd_T31 l0 0).f0).toList != ([] : List UInt8)) = false := bne_eq_false_iff_eq.mpr c4
      clear c4
      replace H := Option.bind_eq_some_iff.mp H
      obtain ⟨t125, A50, H⟩ := H
      try dsimp -simprocs only at H
      have A5 := Aside0.mk A50
      clear A50
      by_cases c6 : t125 = true
      · subst c6
        have H1 : ((spec_numbers.f k ((rd_T31 l0 0).f1) (⟨#[32]⟩ : ByteArray)).bind fun t127 => (if t127.size + 1 ≤ 9223372036854775807 then (some (t127 ++ (⟨#[10]⟩ : ByteArray), 1)) else (none))) = some (r1, r2) := by rw [if_pos rfl] at H; exact H
        clear H
        have H := H1
        clear H1
        replace H := Option.bind_eq_some_iff.mp H
        obtain ⟨t127, A70, H⟩ := H
        replace H : (if t127.size + 1 ≤ 9223372036854775807 then (some (t127 ++ (⟨#[10]⟩ : ByteArray), 1)) else (none)) = some (r1, r2) := H
        have A7 := Aside0.mk A70
        clear A70
        replace H := guard_inv H
        obtain ⟨c8, H⟩ := H
        have c8b0 := eq_true c8
        have c8b1 := decide_eq_true c8
        try have c8b2 := eq_false (Nat.not_lt.2 c8)
        simp only [Option.some.injEq, Prod.mk.injEq] at H
        obtain ⟨rfl, rfl⟩ := H
        have p123 : 0 ≤ (0 : Int) := (by omega)
        have q123 : 0 < (l0.length : Int) := of_decide_eq_true (by first | (with_reducible assumption) | assumption)
        obtain ⟨ad123, A123_1, c123_1, A123_2, c123_2, e123, hx123_0, hx123_1, hx123_2, hl123_1, hi123_1, hl123_2, hi123_2⟩ := at_T31 HR0.out 0 p123 q123
        cases e123
        have qi123 : (0 < l0.length) = True := eq_true (by omega)
        (try rw [show ((0 : Int)).toNat = 0 from rfl] at hx123_0)
        (try rw [show 0 * 3 = 0 from rfl] at hx123_0)
        (try rw [Addr.add_zero'] at hx123_0)
        (try rw [show ((0 : Int)).toNat = 0 from rfl] at hx123_1)
        (try rw [show 0 * 3 = 0 from rfl] at hx123_1)
        (try rw [Addr.add_zero'] at hx123_1)
        (try rw [show ((0 : Int)).toNat = 0 from rfl] at hx123_2)
        (try rw [show 0 * 3 = 0 from rfl] at hx123_2)
        (try rw [Addr.add_zero'] at hx123_2)
        have HR123_1 := Aside0.mk hi123_1
        have HC123_1 := Aside0.mk hl123_1
        clear hi123_1 hl123_1
        have HR123_2 := Aside0.mk hi123_2
        have HC123_2 := Aside0.mk hl123_2
        clear hi123_2 hl123_2
        replace p123 := eq_true p123
        replace q123 := eq_true q123
        have p124 : 0 ≤ (0 : Int) := (by omega)
        have q124 : 0 < (l0.length : Int) := of_decide_eq_true (by first | (with_reducible assumption) | assumption)
        obtain ⟨ad124, A124_1, c124_1, A124_2, c124_2, e124, hx124_0, hx124_1, hx124_2, hl124_1, hi124_1, hl124_2, hi124_2⟩ := at_T31 HR0.out 0 p124 q124
        obtain rfl : ad123 = ad124 := (by injection e124)
        have qi124 : (0 < l0.length) = True := eq_true (by omega)
        (try rw [show ((0 : Int)).toNat = 0 from rfl] at hx124_0)
        (try rw [show 0 * 3 = 0 from rfl] at hx124_0)
        (try rw [Addr.add_zero'] at hx124_0)
        (try rw [show ((0 : Int)).toNat = 0 from rfl] at hx124_1)
        (try rw [show 0 * 3 = 0 from rfl] at hx124_1)
        (try rw [Addr.add_zero'] at hx124_1)
        (try rw [show ((0 : Int)).toNat = 0 from rfl] at hx124_2)
        (try rw [show 0 * 3 = 0 from rfl] at hx124_2)
        (try rw [Addr.add_zero'] at hx124_2)
        have HR124_1 := Aside0.mk hi124_1
        have HC124_1 := Aside0.mk hl124_1
        clear hi124_1 hl124_1
        have HR124_2 := Aside0.mk hi124_2
        have HC124_2 := Aside0.mk hl124_2
        clear hi124_2 hl124_2
        replace p124 := eq_true p124
        replace q124 := eq_true q124
        have ea_ := Option.some.inj (hx123_1.symm.trans hx124_1)
        injection ea_ with ea_ en_ ec_
        subst ea_
        subst ec_
        clear en_
        have ea_ := Option.some.inj (hx123_2.symm.trans hx124_2)
        injection ea_ with ea_ en_ ec_
        subst ea_
        subst ec_
        clear en_
        go_enter Tryz.func21, Tryz.ntmps21
        go_wp2_with (first | (go_at_call 49; (with_reducible refine (spec_sized.calls ((rd_T31 l0 0).f0) _ _ ((rd_T31 l0 0).f1) _ _ ((rd_T31 l0 0).f2) 7 0 true _ ?side1 ?side2 ?side3 ?side4 A5.out).mono ?_); (case side1 => repeat (first | exact HR124_1.out | (with_reducible refine Kd.C_alloc ?_ _) | (with_reducible refine Kd.C_drewN ?_ _) | (with_reducible refine Kd.C_drew ?_))); (case side2 => exact HC124_1.out); (case side3 => repeat (first | exact HR124_2.out | (with_reducible refine Kd.C_alloc ?_ _) | (with_reducible refine Kd.C_drewN ?_ _) | (with_reducible refine Kd.C_drew ?_))); (case side4 => exact HC124_2.out); rintro e w9 ⟨rfl, hb⟩; have n0_ := Aside0.mk (below_step (by repeat (first | (with_reducible first | exact HB.out | apply below_alloc | apply pw_below_drewN | apply below_drew1) | exact HB.out)) hb); clear HB; have HB := n0_; clear n0_; (try clear hb); (try clear hb2); (try clear hk); (try clear hi); have p126 : 0 ≤ (0 : Int) := (by omega); have q126 : 0 < (l0.length : Int) := of_decide_eq_true (by first | (with_reducible assumption) | assumption); obtain ⟨ad126, A126_1, c126_1, A126_2, c126_2, e126, hx126_0, hx126_1, hx126_2, hl126_1, hi126_1, hl126_2, hi126_2⟩ := at_T31 HR0.out 0 p126 q126; obtain rfl : ad123 = ad126 := (by injection e126); have qi126 : (0 < l0.length) = True := eq_true (by omega); (try rw [show ((0 : Int)).toNat = 0 from rfl] at hx126_0); (try rw [show 0 * 3 = 0 from rfl] at hx126_0); (try rw [Addr.add_zero'] at hx126_0); (try rw [show ((0 : Int)).toNat = 0 from rfl] at hx126_1); (try rw [show 0 * 3 = 0 from rfl] at hx126_1); (try rw [Addr.add_zero'] at hx126_1); (try rw [show ((0 : Int)).toNat = 0 from rfl] at hx126_2); (try rw [show 0 * 3 = 0 from rfl] at hx126_2); (try rw [Addr.add_zero'] at hx126_2); replace hx126_0 := (HB.out.cell (World.block_lt_of_cell? w _ hx126_0)).trans hx126_0; replace hx126_1 := (HB.out.cell (World.block_lt_of_cell? w _ hx126_1)).trans hx126_1; replace hx126_2 := (HB.out.cell (World.block_lt_of_cell? w _ hx126_2)).trans hx126_2; have HR126_1 := Aside0.mk hi126_1; have HC126_1 := Aside0.mk hl126_1; clear hi126_1 hl126_1; have HR126_2 := Aside0.mk hi126_2; have HC126_2 := Aside0.mk hl126_2; clear hi126_2 hl126_2; replace p126 := eq_true p126; replace q126 := eq_true q126) | ((with_reducible refine gate_callee (f := 73) rfl ?_); refine goesL_ (some 25) rfl rfl Tryz.func73 (by kernel_rfl) rfl #[.slice A126_1 ((rd_T31 l0 0).f1).length c126_1, .string (⟨#[32]⟩ : ByteArray)] rfl (by (try simp only [List.map_toArray, List.map_cons, List.map_nil]); first | done | rfl | (simp only [List.length_drop, List.length_take]; rfl)) ?_; (with_reducible refine (spec_numbers.calls k _ _ ((rd_T31 l0 0).f1) (⟨#[32]⟩ : ByteArray) t127 _ ?side1 ?side2 A7.out).mono ?_); (case side1 => repeat (first | exact (Kd.C_below HR126_1.out HB.out) | (with_reducible refine Kd.C_alloc ?_ _) | (with_reducible refine Kd.C_drewN ?_ _) | (with_reducible refine Kd.C_drew ?_))); (case side2 => exact HC126_1.out); rintro e w10 ⟨rfl, hb⟩; refine ⟨_, rfl, ?_⟩; have n0_ := Aside0.mk (below_step (by repeat (first | (with_reducible first | exact HB.out | apply below_alloc | apply pw_below_drewN | apply below_drew1) | exact HB.out)) hb); clear HB; have HB := n0_; clear n0_; (try clear hb); (try clear hb2); (try clear hk); (try clear hi)))
        go_ret2
        exact ⟨by first | rfl | (simp [errW_none, errW_some] <;> rfl) | (simp [*, errW_none, errW_some] <;> rfl), by repeat (first | (with_reducible first | exact HB.out | apply below_alloc | apply pw_below_drewN | apply below_drew1) | exact HB.out)⟩
      · replace c6 := Bool.eq_false_iff.mpr c6
        subst c6
        have H1 : (some ((⟨#[]⟩ : ByteArray), 2)) = some (r1, r2) := by rw [if_neg (show ¬ (false = true) by decide)] at H; exact H
        clear H
        have H := H1
        clear H1
        simp only [Option.some.injEq, Prod.mk.injEq] at H
        obtain ⟨rfl, rfl⟩ := H
        have p123 : 0 ≤ (0 : Int) := (by omega)
        have q123 : 0 < (l0.length : Int) := of_decide_eq_true (by first | (with_reducible assumption) | assumption)
        obtain ⟨ad123, A123_1, c123_1, A123_2, c123_2, e123, hx123_0, hx123_1, hx123_2, hl123_1, hi123_1, hl123_2, hi123_2⟩ := at_T31 HR0.out 0 p123 q123
        cases e123
        have qi123 : (0 < l0.length) = True := eq_true (by omega)
        (try rw [show ((0 : Int)).toNat = 0 from rfl] at hx123_0)
        (try rw [show 0 * 3 = 0 from rfl] at hx123_0)
        (try rw [Addr.add_zero'] at hx123_0)
        (try rw [show ((0 : Int)).toNat = 0 from rfl] at hx123_1)
        (try rw [show 0 * 3 = 0 from rfl] at hx123_1)
        (try rw [Addr.add_zero'] at hx123_1)
        (try rw [show ((0 : Int)).toNat = 0 from rfl] at hx123_2)
        (try rw [show 0 * 3 = 0 from rfl] at hx123_2)
        (try rw [Addr.add_zero'] at hx123_2)
        have HR123_1 := Aside0.mk hi123_1
        have HC123_1 := Aside0.mk hl123_1
        clear hi123_1 hl123_1
        have HR123_2 := Aside0.mk hi123_2
        have HC123_2 := Aside0.mk hl123_2
        clear hi123_2 hl123_2
        replace p123 := eq_true p123
        replace q123 := eq_true q123
        have p124 : 0 ≤ (0 : Int) := (by omega)
        have q124 : 0 < (l0.length : Int) := of_decide_eq_true (by first | (with_reducible assumption) | assumption)
        obtain ⟨ad124, A124_1, c124_1, A124_2, c124_2, e124, hx124_0, hx124_1, hx124_2, hl124_1, hi124_1, hl124_2, hi124_2⟩ := at_T31 HR0.out 0 p124 q124
        obtain rfl : ad123 = ad124 := (by injection e124)
        have qi124 : (0 < l0.length) = True := eq_true (by omega)
        (try rw [show ((0 : Int)).toNat = 0 from rfl] at hx124_0)
        (try rw [show 0 * 3 = 0 from rfl] at hx124_0)
        (try rw [Addr.add_zero'] at hx124_0)
        (try rw [show ((0 : Int)).toNat = 0 from rfl] at hx124_1)
        (try rw [show 0 * 3 = 0 from rfl] at hx124_1)
        (try rw [Addr.add_zero'] at hx124_1)
        (try rw [show ((0 : Int)).toNat = 0 from rfl] at hx124_2)
        (try rw [show 0 * 3 = 0 from rfl] at hx124_2)
        (try rw [Addr.add_zero'] at hx124_2)
        have HR124_1 := Aside0.mk hi124_1
        have HC124_1 := Aside0.mk hl124_1
        clear hi124_1 hl124_1
        have HR124_2 := Aside0.mk hi124_2
        have HC124_2 := Aside0.mk hl124_2
        clear hi124_2 hl124_2
        replace p124 := eq_true p124
        replace q124 := eq_true q124
        have ea_ := Option.some.inj (hx123_1.symm.trans hx124_1)
        injection ea_ with ea_ en_ ec_
        subst ea_
        subst ec_
        clear en_
        have ea_ := Option.some.inj (hx123_2.symm.trans hx124_2)
        injection ea_ with ea_ en_ ec_
        subst ea_
        subst ec_
        clear en_
        go_enter Tryz.func21, Tryz.ntmps21
        go_wp2_with (first | (go_at_call 49; (with_reducible refine (spec_sized.calls ((rd_T31 l0 0).f0) _ _ ((rd_T31 l0 0).f1) _ _ ((rd_T31 l0 0).f2) 7 0 false _ ?side1 ?side2 ?side3 ?side4 A5.out).mono ?_); (case side1 => repeat (first | exact HR124_1.out | (with_reducible refine Kd.C_alloc ?_ _) | (with_reducible refine Kd.C_drewN ?_ _) | (with_reducible refine Kd.C_drew ?_))); (case side2 => exact HC124_1.out); (case side3 => repeat (first | exact HR124_2.out | (with_reducible refine Kd.C_alloc ?_ _) | (with_reducible refine Kd.C_drewN ?_ _) | (with_reducible refine Kd.C_drew ?_))); (case side4 => exact HC124_2.out); rintro e w11 ⟨rfl, hb⟩; have n0_ := Aside0.mk (below_step (by repeat (first | (with_reducible first | exact HB.out | apply below_alloc | apply pw_below_drewN | apply below_drew1) | exact HB.out)) hb); clear HB; have HB := n0_; clear n0_; (try clear hb); (try clear hb2); (try clear hk); (try clear hi)))
        go_ret2
        exact ⟨by first | rfl | (simp [errW_none, errW_some] <;> rfl) | (simp [*, errW_none, errW_some] <;> rfl), by repeat (first | (with_reducible first | exact HB.out | apply below_alloc | apply pw_below_drewN | apply below_drew1) | exact HB.out)⟩
    · rw [if_neg c4] at H
      have c4b0 : (((rd_T31 l0 0).f0).toList == ([] : List UInt8)) = false := beq_eq_false_iff_ne.mpr c4
      have c4b1 : (((rd_T31 l0 0).f0).toList != ([] : List UInt8)) = true := bne_iff_ne.mpr c4
      simp only [Option.some.injEq, Prod.mk.injEq] at H
      obtain ⟨rfl, rfl⟩ := H
      have p123 : 0 ≤ (0 : Int) := (by omega)
      have q123 : 0 < (l0.length : Int) := of_decide_eq_true (by first | (with_reducible assumption) | assumption)
      obtain ⟨ad123, A123_1, c123_1, A123_2, c123_2, e123, hx123_0, hx123_1, hx123_2, hl123_1, hi123_1, hl123_2, hi123_2⟩ := at_T31 HR0.out 0 p123 q123
      cases e123
      have qi123 : (0 < l0.length) = True := eq_true (by omega)
      (try rw [show ((0 : Int)).toNat = 0 from rfl] at hx123_0)
      (try rw [show 0 * 3 = 0 from rfl] at hx123_0)
      (try rw [Addr.add_zero'] at hx123_0)
      (try rw [show ((0 : Int)).toNat = 0 from rfl] at hx123_1)
      (try rw [show 0 * 3 = 0 from rfl] at hx123_1)
      (try rw [Addr.add_zero'] at hx123_1)
      (try rw [show ((0 : Int)).toNat = 0 from rfl] at hx123_2)
      (try rw [show 0 * 3 = 0 from rfl] at hx123_2)
      (try rw [Addr.add_zero'] at hx123_2)
      have HR123_1 := Aside0.mk hi123_1
      have HC123_1 := Aside0.mk hl123_1
      clear hi123_1 hl123_1
      have HR123_2 := Aside0.mk hi123_2
      have HC123_2 := Aside0.mk hl123_2
      clear hi123_2 hl123_2
      replace p123 := eq_true p123
      replace q123 := eq_true q123
      go_enter Tryz.func21, Tryz.ntmps21
      go_wp2
      go_ret2
      exact ⟨by first | rfl | (simp [errW_none, errW_some] <;> rfl) | (simp [*, errW_none, errW_some] <;> rfl), by repeat (first | (with_reducible first | exact HB.out | apply below_alloc | apply pw_below_drewN | apply below_drew1) | exact HB.out)⟩
  · rw [if_neg c2] at H
    have c2b0 : ((l0.length : Int) == 1) = false := beq_eq_false_iff_ne.mpr c2
    have c2b1 : ((l0.length : Int) != 1) = true := bne_iff_ne.mpr c2
    simp only [Option.some.injEq, Prod.mk.injEq] at H
    obtain ⟨rfl, rfl⟩ := H
    go_enter Tryz.func21, Tryz.ntmps21
    go_wp2
    go_ret2
    exact ⟨by first | rfl | (simp [errW_none, errW_some] <;> rfl) | (simp [*, errW_none, errW_some] <;> rfl), by repeat (first | (with_reducible first | exact HB.out | apply below_alloc | apply pw_below_drewN | apply below_drew1) | exact HB.out)⟩

/-! ### spec_recordNode: function 53 -/
def spec_recordNode.f (a0 : ByteArray) (l1 : List (S39)) : Option (ByteArray × Int × Bool × Int × Int × Nat × ByteArray × (List (S39))) := some (a0, 8, false, 0, 0, 0, (⟨#[]⟩ : ByteArray), l1)
set_option maxHeartbeats 8000000 in
set_option maxRecDepth 100000 in
theorem spec_recordNode.calls (a0 : ByteArray) (P1_ : Nat → Prop) (A1 : Option Addr) (c1 : Nat) (l1 : List (S39)) (r1 : ByteArray) (r2 : Int) (r3 : Bool) (r4 : Int) (r5 : Int) (r6 : Nat) (r7 : ByteArray) (r8 : List (S39)) (w : World) (hs1 : Kd.V k39 39 w w.heap.size (fun k_ => P1_ k_) (.slice A1 l1.length c1) l1) (h : spec_recordNode.f a0 l1 = some (r1, r2, r3, r4, r5, r6, r7, r8)) :
    Calls Tryz.prog 53 #[.string a0, .slice A1 l1.length c1] w fun e w' => ∃ v7_ : Value, e = .returned (.agg #[.string r1, .int .i64 r2, .bool r3, .int .i64 r4, .int .u64 r5, .float .f64 r6, .string r7, v7_]) ∧ Kd.V k39 39 w' w.heap.size (fun k_ => (P1_ k_ ∨ w.heap.size ≤ k_)) v7_ r8 ∧ Below w.heap.size w w' := by
  have hu39 := Tryz.underlying39
  have HO1 := Aside0.mk (show Kd.V k39 39 w w.heap.size (fun k_ => (P1_ k_ ∨ w.heap.size ≤ k_)) (.slice A1 l1.length c1) l1 from Kd.V_mono hs1 (fun k_ hk => .inl hk))
  have HB := Aside0.mk (Below.refl w.heap.size w)
  have H : (some (a0, 8, false, 0, 0, 0, (⟨#[]⟩ : ByteArray), l1)) = some (r1, r2, r3, r4, r5, r6, r7, r8) := h
  clear h
  simp only [Option.some.injEq, Prod.mk.injEq] at H
  obtain ⟨rfl, rfl, rfl, rfl, rfl, rfl, rfl, rfl⟩ := H
  go_enter Tryz.func53, Tryz.ntmps53
  go_wp2_with (first | ((with_reducible refine gate_dst (N := 4) rfl ?_); refine box_event ?hg (N := 4) ?hd (cs := #[.string (⟨#[]⟩ : ByteArray), .int .i64 0, .bool false, .int .i64 0, .int .u64 0, .float .f64 0, .string (⟨#[]⟩ : ByteArray), .slice none 0 0]) (t := 39) ?hr ?_; (case hd => rfl); (case hg => rfl); (case hr => first | (go_simp; done) | (go_simp; rfl)); intro gb128 hg w3 hbox hb; have n0_ := Aside0.mk (Kd.V_below (Kd.V_elderB (by (with_reducible repeat (first | apply Kd.V_alloc | apply Kd.V_drewN | apply Kd.V_drew)); exact HO1.out) gb128 (Nat.le_of_eq hg.symm)) hb); have n1_ := Aside0.mk (below_step (by repeat (first | (with_reducible first | exact HB.out | apply below_alloc | apply pw_below_drewN | apply below_drew1) | exact HB.out)) hb); have n2_ := Aside0.mk (hbox); have n3_ := Aside0.mk ((by rw [hg]; exact (below_size (by repeat (first | (with_reducible first | exact HB.out | apply below_alloc | apply pw_below_drewN | apply below_drew1) | exact HB.out))) : w.heap.size ≤ gb128)); have n4_ := Aside0.mk ((by rw [hg]; exact (below_size (by repeat (first | (with_reducible first | exact HB.out | apply below_alloc | apply pw_below_drewN | apply below_drew1) | exact HB.out))) : w.heap.size ≤ gb128)); clear HO1; clear HB; have HO1 := n0_; have HB := n1_; have BK128 := n2_; have GW128 := n3_; have GE128 := n4_; clear n0_ n1_ n2_ n3_ n4_; clear hb hbox hg; have hcz4_0 : w3.cell? ⟨gb128, 0, none⟩ = some (.string (⟨#[]⟩ : ByteArray)) := (blk_cell BK128.out 0).trans rfl; have hcz4_1 : w3.cell? ⟨gb128, 1, none⟩ = some (.int .i64 0) := (blk_cell BK128.out 1).trans rfl; have hcz4_2 : w3.cell? ⟨gb128, 2, none⟩ = some (.bool false) := (blk_cell BK128.out 2).trans rfl; have hcz4_3 : w3.cell? ⟨gb128, 3, none⟩ = some (.int .i64 0) := (blk_cell BK128.out 3).trans rfl; have hcz4_4 : w3.cell? ⟨gb128, 4, none⟩ = some (.int .u64 0) := (blk_cell BK128.out 4).trans rfl; have hcz4_5 : w3.cell? ⟨gb128, 5, none⟩ = some (.float .f64 0) := (blk_cell BK128.out 5).trans rfl; have hcz4_6 : w3.cell? ⟨gb128, 6, none⟩ = some (.string (⟨#[]⟩ : ByteArray)) := (blk_cell BK128.out 6).trans rfl; have hcz4_7 : w3.cell? ⟨gb128, 7, none⟩ = some (.slice none 0 0) := (blk_cell BK128.out 7).trans rfl; have hfz4_0 := blk_frozen BK128.out 0; have hfz4_1 := blk_frozen BK128.out 1; have hfz4_2 := blk_frozen BK128.out 2; have hfz4_3 := blk_frozen BK128.out 3; have hfz4_4 := blk_frozen BK128.out 4; have hfz4_5 := blk_frozen BK128.out 5; have hfz4_6 := blk_frozen BK128.out 6; have hfz4_7 := blk_frozen BK128.out 7))
  refine bodyPost_ret (results_cell_row rfl _ _ gb128 39 #[.string a0, .int .i64 8, .bool false, .int .i64 0, .int .u64 0, .float .f64 0, .string (⟨#[]⟩ : ByteArray), .slice A1 l1.length c1] (0, 0) _ rfl (by (with_reducible repeat (first | refine blk_drewN ?_ _ | refine blk_drew ?_ | refine blk_alloc ?_ _)); refine blk_put (cs := #[.string a0, .int .i64 8, .bool false, .int .i64 0, .int .u64 0, .float .f64 0, .string (⟨#[]⟩ : ByteArray), .slice none 0 0]) ?_ 7 _ rfl; (with_reducible repeat (first | refine blk_drewN ?_ _ | refine blk_drew ?_ | refine blk_alloc ?_ _)); refine blk_put (cs := #[.string a0, .int .i64 8, .bool false, .int .i64 0, .int .u64 0, .float .f64 0, .string (⟨#[]⟩ : ByteArray), .slice none 0 0]) ?_ 6 _ rfl; (with_reducible repeat (first | refine blk_drewN ?_ _ | refine blk_drew ?_ | refine blk_alloc ?_ _)); refine blk_put (cs := #[.string a0, .int .i64 8, .bool false, .int .i64 0, .int .u64 0, .float .f64 0, .string (⟨#[]⟩ : ByteArray), .slice none 0 0]) ?_ 5 _ rfl; (with_reducible repeat (first | refine blk_drewN ?_ _ | refine blk_drew ?_ | refine blk_alloc ?_ _)); refine blk_put (cs := #[.string a0, .int .i64 8, .bool false, .int .i64 0, .int .u64 0, .float .f64 0, .string (⟨#[]⟩ : ByteArray), .slice none 0 0]) ?_ 4 _ rfl; (with_reducible repeat (first | refine blk_drewN ?_ _ | refine blk_drew ?_ | refine blk_alloc ?_ _)); refine blk_put (cs := #[.string a0, .int .i64 8, .bool false, .int .i64 0, .int .u64 0, .float .f64 0, .string (⟨#[]⟩ : ByteArray), .slice none 0 0]) ?_ 3 _ rfl; (with_reducible repeat (first | refine blk_drewN ?_ _ | refine blk_drew ?_ | refine blk_alloc ?_ _)); refine blk_put (cs := #[.string a0, .int .i64 8, .bool false, .int .i64 0, .int .u64 0, .float .f64 0, .string (⟨#[]⟩ : ByteArray), .slice none 0 0]) ?_ 2 _ rfl; (with_reducible repeat (first | refine blk_drewN ?_ _ | refine blk_drew ?_ | refine blk_alloc ?_ _)); refine blk_put (cs := #[.string a0, .int .i64 0, .bool false, .int .i64 0, .int .u64 0, .float .f64 0, .string (⟨#[]⟩ : ByteArray), .slice none 0 0]) ?_ 1 _ rfl; (with_reducible repeat (first | refine blk_drewN ?_ _ | refine blk_drew ?_ | refine blk_alloc ?_ _)); refine blk_put (cs := #[.string (⟨#[]⟩ : ByteArray), .int .i64 0, .bool false, .int .i64 0, .int .u64 0, .float .f64 0, .string (⟨#[]⟩ : ByteArray), .slice none 0 0]) ?_ 0 _ rfl; (with_reducible repeat (first | refine blk_drewN ?_ _ | refine blk_drew ?_ | refine blk_alloc ?_ _)); exact BK128.out) Tryz.underlying39 rfl (by kernel_rfl)) rfl ?_
  exact ⟨_, by first | rfl | (simp [errW_none, errW_some] <;> rfl) | (simp [*, errW_none, errW_some] <;> rfl), by (with_reducible repeat (first | apply Kd.V_alloc | apply Kd.V_drewN | apply Kd.V_drew)); exact Kd.V_mono (Kd.V_far (p := ⟨gb128, 7, none⟩) (Kd.V_far (p := ⟨gb128, 6, none⟩) (Kd.V_far (p := ⟨gb128, 5, none⟩) (Kd.V_far (p := ⟨gb128, 4, none⟩) (Kd.V_far (p := ⟨gb128, 3, none⟩) (Kd.V_far (p := ⟨gb128, 2, none⟩) (Kd.V_far (p := ⟨gb128, 1, none⟩) (Kd.V_far (p := ⟨gb128, 0, none⟩) (Kd.V_mono HO1.out (fun k_ hk => (⟨hk, hk.2⟩ : _ ∧ k_ ≠ gb128))) (fun _ hk => hk.2) (.string a0)) (fun _ hk => hk.2) (.int .i64 8)) (fun _ hk => hk.2) (.bool false)) (fun _ hk => hk.2) (.int .i64 0)) (fun _ hk => hk.2) (.int .u64 0)) (fun _ hk => hk.2) (.float .f64 0)) (fun _ hk => hk.2) (.string (⟨#[]⟩ : ByteArray))) (fun _ hk => hk.2) (.slice A1 l1.length c1)) (fun _ hk => hk.1.1), by repeat (first | (with_reducible first | exact HB.out | apply below_alloc | apply pw_below_drewN | apply below_drew1 | refine below_set ?_ GE128.out) | exact HB.out)⟩

/-! ### spec_intNode: function 74 -/
def spec_intNode.f (a0 : ByteArray) (a1 : Int) : Option (ByteArray × Int × Bool × Int × Int × Nat × ByteArray × (List (S39))) := some (a0, 2, false, a1, 0, 0, (⟨#[]⟩ : ByteArray), ([] : List (S39)))
set_option maxHeartbeats 8000000 in
set_option maxRecDepth 100000 in
theorem spec_intNode.calls (a0 : ByteArray) (a1 : Int) (r1 : ByteArray) (r2 : Int) (r3 : Bool) (r4 : Int) (r5 : Int) (r6 : Nat) (r7 : ByteArray) (r8 : List (S39)) (w : World) (h : spec_intNode.f a0 a1 = some (r1, r2, r3, r4, r5, r6, r7, r8)) :
    Calls Tryz.prog 74 #[.string a0, .int .i64 a1] w fun e w' => ∃ v7_ : Value, e = .returned (.agg #[.string r1, .int .i64 r2, .bool r3, .int .i64 r4, .int .u64 r5, .float .f64 r6, .string r7, v7_]) ∧ Kd.R k39 39 w' w.heap.size (fun _ => True) v7_ r8 ∧ Below w.heap.size w w' := by
  have hu39 := Tryz.underlying39
  have HB := Aside0.mk (Below.refl w.heap.size w)
  have H : (some (a0, 2, false, a1, 0, 0, (⟨#[]⟩ : ByteArray), ([] : List (S39)))) = some (r1, r2, r3, r4, r5, r6, r7, r8) := h
  clear h
  simp only [Option.some.injEq, Prod.mk.injEq] at H
  obtain ⟨rfl, rfl, rfl, rfl, rfl, rfl, rfl, rfl⟩ := H
  go_enter Tryz.func74, Tryz.ntmps74
  go_wp2_with (first | ((with_reducible refine gate_dst (N := 4) rfl ?_); refine box_event ?hg (N := 4) ?hd (cs := #[.string (⟨#[]⟩ : ByteArray), .int .i64 0, .bool false, .int .i64 0, .int .u64 0, .float .f64 0, .string (⟨#[]⟩ : ByteArray), .slice none 0 0]) (t := 39) ?hr ?_; (case hd => rfl); (case hg => rfl); (case hr => first | (go_simp; done) | (go_simp; rfl)); intro gb129 hg w3 hbox hb; have n0_ := Aside0.mk (below_step (by repeat (first | (with_reducible first | exact HB.out | apply below_alloc | apply pw_below_drewN | apply below_drew1) | exact HB.out)) hb); have n1_ := Aside0.mk (hbox); have n2_ := Aside0.mk ((by rw [hg]; exact (below_size (by repeat (first | (with_reducible first | exact HB.out | apply below_alloc | apply pw_below_drewN | apply below_drew1) | exact HB.out))) : w.heap.size ≤ gb129)); have n3_ := Aside0.mk ((by rw [hg]; exact (below_size (by repeat (first | (with_reducible first | exact HB.out | apply below_alloc | apply pw_below_drewN | apply below_drew1) | exact HB.out))) : w.heap.size ≤ gb129)); clear HB; have HB := n0_; have BK129 := n1_; have GW129 := n2_; have GE129 := n3_; clear n0_ n1_ n2_ n3_; clear hb hbox hg; have hcz4_0 : w3.cell? ⟨gb129, 0, none⟩ = some (.string (⟨#[]⟩ : ByteArray)) := (blk_cell BK129.out 0).trans rfl; have hcz4_1 : w3.cell? ⟨gb129, 1, none⟩ = some (.int .i64 0) := (blk_cell BK129.out 1).trans rfl; have hcz4_2 : w3.cell? ⟨gb129, 2, none⟩ = some (.bool false) := (blk_cell BK129.out 2).trans rfl; have hcz4_3 : w3.cell? ⟨gb129, 3, none⟩ = some (.int .i64 0) := (blk_cell BK129.out 3).trans rfl; have hcz4_4 : w3.cell? ⟨gb129, 4, none⟩ = some (.int .u64 0) := (blk_cell BK129.out 4).trans rfl; have hcz4_5 : w3.cell? ⟨gb129, 5, none⟩ = some (.float .f64 0) := (blk_cell BK129.out 5).trans rfl; have hcz4_6 : w3.cell? ⟨gb129, 6, none⟩ = some (.string (⟨#[]⟩ : ByteArray)) := (blk_cell BK129.out 6).trans rfl; have hcz4_7 : w3.cell? ⟨gb129, 7, none⟩ = some (.slice none 0 0) := (blk_cell BK129.out 7).trans rfl; have hfz4_0 := blk_frozen BK129.out 0; have hfz4_1 := blk_frozen BK129.out 1; have hfz4_2 := blk_frozen BK129.out 2; have hfz4_3 := blk_frozen BK129.out 3; have hfz4_4 := blk_frozen BK129.out 4; have hfz4_5 := blk_frozen BK129.out 5; have hfz4_6 := blk_frozen BK129.out 6; have hfz4_7 := blk_frozen BK129.out 7))
  refine bodyPost_ret (results_cell_row rfl _ _ gb129 39 #[.string a0, .int .i64 2, .bool false, .int .i64 a1, .int .u64 0, .float .f64 0, .string (⟨#[]⟩ : ByteArray), .slice none 0 0] (0, 0) _ rfl (by (with_reducible repeat (first | refine blk_drewN ?_ _ | refine blk_drew ?_ | refine blk_alloc ?_ _)); refine blk_put (cs := #[.string a0, .int .i64 2, .bool false, .int .i64 a1, .int .u64 0, .float .f64 0, .string (⟨#[]⟩ : ByteArray), .slice none 0 0]) ?_ 7 _ rfl; (with_reducible repeat (first | refine blk_drewN ?_ _ | refine blk_drew ?_ | refine blk_alloc ?_ _)); refine blk_put (cs := #[.string a0, .int .i64 2, .bool false, .int .i64 a1, .int .u64 0, .float .f64 0, .string (⟨#[]⟩ : ByteArray), .slice none 0 0]) ?_ 6 _ rfl; (with_reducible repeat (first | refine blk_drewN ?_ _ | refine blk_drew ?_ | refine blk_alloc ?_ _)); refine blk_put (cs := #[.string a0, .int .i64 2, .bool false, .int .i64 a1, .int .u64 0, .float .f64 0, .string (⟨#[]⟩ : ByteArray), .slice none 0 0]) ?_ 5 _ rfl; (with_reducible repeat (first | refine blk_drewN ?_ _ | refine blk_drew ?_ | refine blk_alloc ?_ _)); refine blk_put (cs := #[.string a0, .int .i64 2, .bool false, .int .i64 a1, .int .u64 0, .float .f64 0, .string (⟨#[]⟩ : ByteArray), .slice none 0 0]) ?_ 4 _ rfl; (with_reducible repeat (first | refine blk_drewN ?_ _ | refine blk_drew ?_ | refine blk_alloc ?_ _)); refine blk_put (cs := #[.string a0, .int .i64 2, .bool false, .int .i64 0, .int .u64 0, .float .f64 0, .string (⟨#[]⟩ : ByteArray), .slice none 0 0]) ?_ 3 _ rfl; (with_reducible repeat (first | refine blk_drewN ?_ _ | refine blk_drew ?_ | refine blk_alloc ?_ _)); refine blk_put (cs := #[.string a0, .int .i64 2, .bool false, .int .i64 0, .int .u64 0, .float .f64 0, .string (⟨#[]⟩ : ByteArray), .slice none 0 0]) ?_ 2 _ rfl; (with_reducible repeat (first | refine blk_drewN ?_ _ | refine blk_drew ?_ | refine blk_alloc ?_ _)); refine blk_put (cs := #[.string a0, .int .i64 0, .bool false, .int .i64 0, .int .u64 0, .float .f64 0, .string (⟨#[]⟩ : ByteArray), .slice none 0 0]) ?_ 1 _ rfl; (with_reducible repeat (first | refine blk_drewN ?_ _ | refine blk_drew ?_ | refine blk_alloc ?_ _)); refine blk_put (cs := #[.string (⟨#[]⟩ : ByteArray), .int .i64 0, .bool false, .int .i64 0, .int .u64 0, .float .f64 0, .string (⟨#[]⟩ : ByteArray), .slice none 0 0]) ?_ 0 _ rfl; (with_reducible repeat (first | refine blk_drewN ?_ _ | refine blk_drew ?_ | refine blk_alloc ?_ _)); exact BK129.out) Tryz.underlying39 rfl (by kernel_rfl)) rfl ?_
  exact ⟨_, by first | rfl | (simp [errW_none, errW_some] <;> rfl) | (simp [*, errW_none, errW_some] <;> rfl), by first | exact Kd.R_nil _ _ _ _ _ | exact Kd.N_nil _ _ _ _ _ | exact Kd.V_nil _ _ _ _ _ | exact Kd.Q_nil _ _ _ _ _ | exact Kd.S_nil _ _ _ _ _, by repeat (first | (with_reducible first | exact HB.out | apply below_alloc | apply pw_below_drewN | apply below_drew1 | refine below_set ?_ GE129.out) | exact HB.out)⟩

/-! ### spec_uintNode: function 75 -/
def spec_uintNode.f (a0 : ByteArray) (a1 : Int) : Option (ByteArray × Int × Bool × Int × Int × Nat × ByteArray × (List (S39))) := some (a0, 3, false, 0, a1, 0, (⟨#[]⟩ : ByteArray), ([] : List (S39)))
set_option maxHeartbeats 8000000 in
set_option maxRecDepth 100000 in
theorem spec_uintNode.calls (a0 : ByteArray) (a1 : Int) (r1 : ByteArray) (r2 : Int) (r3 : Bool) (r4 : Int) (r5 : Int) (r6 : Nat) (r7 : ByteArray) (r8 : List (S39)) (w : World) (h : spec_uintNode.f a0 a1 = some (r1, r2, r3, r4, r5, r6, r7, r8)) :
    Calls Tryz.prog 75 #[.string a0, .int .u64 a1] w fun e w' => ∃ v7_ : Value, e = .returned (.agg #[.string r1, .int .i64 r2, .bool r3, .int .i64 r4, .int .u64 r5, .float .f64 r6, .string r7, v7_]) ∧ Kd.R k39 39 w' w.heap.size (fun _ => True) v7_ r8 ∧ Below w.heap.size w w' := by
  have hu39 := Tryz.underlying39
  have HB := Aside0.mk (Below.refl w.heap.size w)
  have H : (some (a0, 3, false, 0, a1, 0, (⟨#[]⟩ : ByteArray), ([] : List (S39)))) = some (r1, r2, r3, r4, r5, r6, r7, r8) := h
  clear h
  simp only [Option.some.injEq, Prod.mk.injEq] at H
  obtain ⟨rfl, rfl, rfl, rfl, rfl, rfl, rfl, rfl⟩ := H
  go_enter Tryz.func75, Tryz.ntmps75
  go_wp2_with (first | ((with_reducible refine gate_dst (N := 4) rfl ?_); refine box_event ?hg (N := 4) ?hd (cs := #[.string (⟨#[]⟩ : ByteArray), .int .i64 0, .bool false, .int .i64 0, .int .u64 0, .float .f64 0, .string (⟨#[]⟩ : ByteArray), .slice none 0 0]) (t := 39) ?hr ?_; (case hd => rfl); (case hg => rfl); (case hr => first | (go_simp; done) | (go_simp; rfl)); intro gb130 hg w3 hbox hb; have n0_ := Aside0.mk (below_step (by repeat (first | (with_reducible first | exact HB.out | apply below_alloc | apply pw_below_drewN | apply below_drew1) | exact HB.out)) hb); have n1_ := Aside0.mk (hbox); have n2_ := Aside0.mk ((by rw [hg]; exact (below_size (by repeat (first | (with_reducible first | exact HB.out | apply below_alloc | apply pw_below_drewN | apply below_drew1) | exact HB.out))) : w.heap.size ≤ gb130)); have n3_ := Aside0.mk ((by rw [hg]; exact (below_size (by repeat (first | (with_reducible first | exact HB.out | apply below_alloc | apply pw_below_drewN | apply below_drew1) | exact HB.out))) : w.heap.size ≤ gb130)); clear HB; have HB := n0_; have BK130 := n1_; have GW130 := n2_; have GE130 := n3_; clear n0_ n1_ n2_ n3_; clear hb hbox hg; have hcz4_0 : w3.cell? ⟨gb130, 0, none⟩ = some (.string (⟨#[]⟩ : ByteArray)) := (blk_cell BK130.out 0).trans rfl; have hcz4_1 : w3.cell? ⟨gb130, 1, none⟩ = some (.int .i64 0) := (blk_cell BK130.out 1).trans rfl; have hcz4_2 : w3.cell? ⟨gb130, 2, none⟩ = some (.bool false) := (blk_cell BK130.out 2).trans rfl; have hcz4_3 : w3.cell? ⟨gb130, 3, none⟩ = some (.int .i64 0) := (blk_cell BK130.out 3).trans rfl; have hcz4_4 : w3.cell? ⟨gb130, 4, none⟩ = some (.int .u64 0) := (blk_cell BK130.out 4).trans rfl; have hcz4_5 : w3.cell? ⟨gb130, 5, none⟩ = some (.float .f64 0) := (blk_cell BK130.out 5).trans rfl; have hcz4_6 : w3.cell? ⟨gb130, 6, none⟩ = some (.string (⟨#[]⟩ : ByteArray)) := (blk_cell BK130.out 6).trans rfl; have hcz4_7 : w3.cell? ⟨gb130, 7, none⟩ = some (.slice none 0 0) := (blk_cell BK130.out 7).trans rfl; have hfz4_0 := blk_frozen BK130.out 0; have hfz4_1 := blk_frozen BK130.out 1; have hfz4_2 := blk_frozen BK130.out 2; have hfz4_3 := blk_frozen BK130.out 3; have hfz4_4 := blk_frozen BK130.out 4; have hfz4_5 := blk_frozen BK130.out 5; have hfz4_6 := blk_frozen BK130.out 6; have hfz4_7 := blk_frozen BK130.out 7))
  refine bodyPost_ret (results_cell_row rfl _ _ gb130 39 #[.string a0, .int .i64 3, .bool false, .int .i64 0, .int .u64 a1, .float .f64 0, .string (⟨#[]⟩ : ByteArray), .slice none 0 0] (0, 0) _ rfl (by (with_reducible repeat (first | refine blk_drewN ?_ _ | refine blk_drew ?_ | refine blk_alloc ?_ _)); refine blk_put (cs := #[.string a0, .int .i64 3, .bool false, .int .i64 0, .int .u64 a1, .float .f64 0, .string (⟨#[]⟩ : ByteArray), .slice none 0 0]) ?_ 7 _ rfl; (with_reducible repeat (first | refine blk_drewN ?_ _ | refine blk_drew ?_ | refine blk_alloc ?_ _)); refine blk_put (cs := #[.string a0, .int .i64 3, .bool false, .int .i64 0, .int .u64 a1, .float .f64 0, .string (⟨#[]⟩ : ByteArray), .slice none 0 0]) ?_ 6 _ rfl; (with_reducible repeat (first | refine blk_drewN ?_ _ | refine blk_drew ?_ | refine blk_alloc ?_ _)); refine blk_put (cs := #[.string a0, .int .i64 3, .bool false, .int .i64 0, .int .u64 a1, .float .f64 0, .string (⟨#[]⟩ : ByteArray), .slice none 0 0]) ?_ 5 _ rfl; (with_reducible repeat (first | refine blk_drewN ?_ _ | refine blk_drew ?_ | refine blk_alloc ?_ _)); refine blk_put (cs := #[.string a0, .int .i64 3, .bool false, .int .i64 0, .int .u64 0, .float .f64 0, .string (⟨#[]⟩ : ByteArray), .slice none 0 0]) ?_ 4 _ rfl; (with_reducible repeat (first | refine blk_drewN ?_ _ | refine blk_drew ?_ | refine blk_alloc ?_ _)); refine blk_put (cs := #[.string a0, .int .i64 3, .bool false, .int .i64 0, .int .u64 0, .float .f64 0, .string (⟨#[]⟩ : ByteArray), .slice none 0 0]) ?_ 3 _ rfl; (with_reducible repeat (first | refine blk_drewN ?_ _ | refine blk_drew ?_ | refine blk_alloc ?_ _)); refine blk_put (cs := #[.string a0, .int .i64 3, .bool false, .int .i64 0, .int .u64 0, .float .f64 0, .string (⟨#[]⟩ : ByteArray), .slice none 0 0]) ?_ 2 _ rfl; (with_reducible repeat (first | refine blk_drewN ?_ _ | refine blk_drew ?_ | refine blk_alloc ?_ _)); refine blk_put (cs := #[.string a0, .int .i64 0, .bool false, .int .i64 0, .int .u64 0, .float .f64 0, .string (⟨#[]⟩ : ByteArray), .slice none 0 0]) ?_ 1 _ rfl; (with_reducible repeat (first | refine blk_drewN ?_ _ | refine blk_drew ?_ | refine blk_alloc ?_ _)); refine blk_put (cs := #[.string (⟨#[]⟩ : ByteArray), .int .i64 0, .bool false, .int .i64 0, .int .u64 0, .float .f64 0, .string (⟨#[]⟩ : ByteArray), .slice none 0 0]) ?_ 0 _ rfl; (with_reducible repeat (first | refine blk_drewN ?_ _ | refine blk_drew ?_ | refine blk_alloc ?_ _)); exact BK130.out) Tryz.underlying39 rfl (by kernel_rfl)) rfl ?_
  exact ⟨_, by first | rfl | (simp [errW_none, errW_some] <;> rfl) | (simp [*, errW_none, errW_some] <;> rfl), by first | exact Kd.R_nil _ _ _ _ _ | exact Kd.N_nil _ _ _ _ _ | exact Kd.V_nil _ _ _ _ _ | exact Kd.Q_nil _ _ _ _ _ | exact Kd.S_nil _ _ _ _ _, by repeat (first | (with_reducible first | exact HB.out | apply below_alloc | apply pw_below_drewN | apply below_drew1 | refine below_set ?_ GE130.out) | exact HB.out)⟩

/-! ### spec_StatmTree: function 22 -/
def spec_StatmTree.l0 : Nat → List (S31) → List (S39) → List ByteArray → Int → Int → Option (ByteArray × Int × Bool × Int × Int × Nat × ByteArray × (List (S39)) × Int)
  | 0, _, _, _, _, _ => none
  | k + 1, x0, x6, x19, x20, x21 => if x21 < x20 then (if 0 ≤ x21 then (if x21 < (x19.length : Int) then (if 0 < (x0.length : Int) then (if x21 < (((rd_T31 x0 0).f1).length : Int) then ((spec_uintNode.f (rdOf ByteArray.empty x19 x21) (rd ((rd_T31 x0 0).f1) x21)).bind fun bt153 => (if x6.length < 1466015503701 then (spec_StatmTree.l0 k x0 (x6 ++ [(⟨bt153.1, bt153.2.1, bt153.2.2.1, bt153.2.2.2.1, bt153.2.2.2.2.1, bt153.2.2.2.2.2.1, bt153.2.2.2.2.2.2.1, bt153.2.2.2.2.2.2.2⟩ : S39)]) x19 x20 (wrap64 (x21 + 1))) else (none))) else (none)) else (none)) else (none)) else (none)) else ((spec_recordNode.f (⟨#[]⟩ : ByteArray) x6).bind fun bt166 => (some (bt166.1, bt166.2.1, bt166.2.2.1, bt166.2.2.2.1, bt166.2.2.2.2.1, bt166.2.2.2.2.2.1, bt166.2.2.2.2.2.2.1, bt166.2.2.2.2.2.2.2, 1)))
def spec_StatmTree.f (k : Nat) (l0 : List (S31)) : Option (ByteArray × Int × Bool × Int × Int × Nat × ByteArray × (List (S39)) × Int) := (spec_StatmPrint.f k l0).bind fun bt132 => (if bt132.2 = 1 then ((spec_intNode.f (⟨#[80, 73, 68]⟩ : ByteArray) 0).bind fun bt134 => ((some (([(⟨#[83, 105, 122, 101]⟩ : ByteArray), (⟨#[82, 101, 115, 105, 100, 101, 110, 116]⟩ : ByteArray), (⟨#[83, 104, 97, 114, 101, 100]⟩ : ByteArray), (⟨#[84, 101, 120, 116]⟩ : ByteArray), (⟨#[76, 105, 98]⟩ : ByteArray), (⟨#[68, 97, 116, 97]⟩ : ByteArray), (⟨#[68, 116]⟩ : ByteArray)] : List ByteArray) : List ByteArray)).bind fun y147 => (spec_StatmTree.l0 k l0 (([(⟨bt134.1, bt134.2.1, bt134.2.2.1, bt134.2.2.2.1, bt134.2.2.2.2.1, bt134.2.2.2.2.2.1, bt134.2.2.2.2.2.2.1, bt134.2.2.2.2.2.2.2⟩ : S39)] : List (S39))) y147 (y147.length : Int) 0))) else (some ((⟨#[]⟩ : ByteArray), 0, false, 0, 0, 0, (⟨#[]⟩ : ByteArray), ([] : List (S39)), 2)))
theorem spec_StatmTree.mono_l : ∀ k, (∀ y0 y1 y2 y3 y4, LeO (spec_StatmTree.l0 k y0 y1 y2 y3 y4) (spec_StatmTree.l0 (k + 1) y0 y1 y2 y3 y4))
  | 0 => fun _ _ _ _ _ r h => by simp [spec_StatmTree.l0] at h
  | k + 1 => by
    have ih0 := spec_StatmTree.mono_l k
    · intro y0 y1 y2 y3 y4
      unfold spec_StatmTree.l0
      repeat' first
      | (with_reducible exact ih0 _ _ _ _ _)
      | (with_reducible exact spec_StatmPrint.mono _ _)
      | (with_reducible exact LeO.refl _)
      | (with_reducible exact LeO.none _)
      | (with_reducible refine LeO.ite ?_ ?_)
      | (with_reducible refine LeO.bind ?_ (fun _ => ?_))
      | exact ih0 _ _ _ _ _
      | exact spec_StatmPrint.mono _ _
      | exact LeO.none _
      | refine LeO.ite ?_ ?_
      | refine LeO.bind ?_ (fun _ => ?_)
theorem spec_StatmTree.mono : ∀ a0 k, LeO (spec_StatmTree.f k a0) (spec_StatmTree.f (k + 1) a0) := by
  intro a0 k
  have ih0 := spec_StatmTree.mono_l k
  unfold spec_StatmTree.f
  repeat' first
      | (with_reducible exact ih0 _ _ _ _ _)
      | (with_reducible exact spec_StatmPrint.mono _ _)
      | (with_reducible exact LeO.refl _)
      | (with_reducible exact LeO.none _)
      | (with_reducible refine LeO.ite ?_ ?_)
      | (with_reducible refine LeO.bind ?_ (fun _ => ?_))
      | exact ih0 _ _ _ _ _
      | exact spec_StatmPrint.mono _ _
      | exact LeO.none _
      | refine LeO.ite ?_ ?_
      | refine LeO.bind ?_ (fun _ => ?_)
set_option maxHeartbeats 8000000 in
set_option maxRecDepth 100000 in
theorem spec_StatmTree.calls (k : Nat) (A0 : Option Addr) (c0 : Nat) (l0 : List (S31)) (r1 : ByteArray) (r2 : Int) (r3 : Bool) (r4 : Int) (r5 : Int) (r6 : Nat) (r7 : ByteArray) (r8 : List (S39)) (r9 : Int) (w : World) (hr0 : Kd.C k31 w A0 l0.length l0) (hc0 : l0.length ≤ c0) (h : spec_StatmTree.f k l0 = some (r1, r2, r3, r4, r5, r6, r7, r8, r9)) :
    Calls Tryz.prog 22 #[.slice A0 l0.length c0] w fun e w' => ∃ v7_ : Value, e = .returned (.tuple #[.agg #[.string r1, .int .i64 r2, .bool r3, .int .i64 r4, .int .u64 r5, .float .f64 r6, .string r7, v7_], .int .i64 r9]) ∧ Kd.V k39 39 w' w.heap.size (fun k_ => (w.heap.size ≤ k_)) v7_ r8 ∧ Below w.heap.size w w' := by
  have hu39 := Tryz.underlying39
  have HR0 := Aside0.mk hr0
  have HC0 := Aside0.mk hc0
  clear hr0 hc0
  have HB := Aside0.mk (Below.refl w.heap.size w)
  have H : ((spec_StatmPrint.f k l0).bind fun bt132 => (if bt132.2 = 1 then ((spec_intNode.f (⟨#[80, 73, 68]⟩ : ByteArray) 0).bind fun bt134 => ((some (([(⟨#[83, 105, 122, 101]⟩ : ByteArray), (⟨#[82, 101, 115, 105, 100, 101, 110, 116]⟩ : ByteArray), (⟨#[83, 104, 97, 114, 101, 100]⟩ : ByteArray), (⟨#[84, 101, 120, 116]⟩ : ByteArray), (⟨#[76, 105, 98]⟩ : ByteArray), (⟨#[68, 97, 116, 97]⟩ : ByteArray), (⟨#[68, 116]⟩ : ByteArray)] : List ByteArray) : List ByteArray)).bind fun y147 => (spec_StatmTree.l0 k l0 (([(⟨bt134.1, bt134.2.1, bt134.2.2.1, bt134.2.2.2.1, bt134.2.2.2.2.1, bt134.2.2.2.2.2.1, bt134.2.2.2.2.2.2.1, bt134.2.2.2.2.2.2.2⟩ : S39)] : List (S39))) y147 (y147.length : Int) 0))) else (some ((⟨#[]⟩ : ByteArray), 0, false, 0, 0, 0, (⟨#[]⟩ : ByteArray), ([] : List (S39)), 2)))) = some (r1, r2, r3, r4, r5, r6, r7, r8, r9) := h
  clear h
  replace H := Option.bind_eq_some_iff.mp H
  obtain ⟨⟨t132, t133⟩, A20, H⟩ := H
  replace H : (if t133 = 1 then ((spec_intNode.f (⟨#[80, 73, 68]⟩ : ByteArray) 0).bind fun bt134 => ((some (([(⟨#[83, 105, 122, 101]⟩ : ByteArray), (⟨#[82, 101, 115, 105, 100, 101, 110, 116]⟩ : ByteArray), (⟨#[83, 104, 97, 114, 101, 100]⟩ : ByteArray), (⟨#[84, 101, 120, 116]⟩ : ByteArray), (⟨#[76, 105, 98]⟩ : ByteArray), (⟨#[68, 97, 116, 97]⟩ : ByteArray), (⟨#[68, 116]⟩ : ByteArray)] : List ByteArray) : List ByteArray)).bind fun y147 => (spec_StatmTree.l0 k l0 (([(⟨bt134.1, bt134.2.1, bt134.2.2.1, bt134.2.2.2.1, bt134.2.2.2.2.1, bt134.2.2.2.2.2.1, bt134.2.2.2.2.2.2.1, bt134.2.2.2.2.2.2.2⟩ : S39)] : List (S39))) y147 (y147.length : Int) 0))) else (some ((⟨#[]⟩ : ByteArray), 0, false, 0, 0, 0, (⟨#[]⟩ : ByteArray), ([] : List (S39)), 2))) = some (r1, r2, r3, r4, r5, r6, r7, r8, r9) := H
  have A2 := Aside0.mk A20
  clear A20
  by_cases c3 : t133 = 1
  · rw [if_pos c3] at H
    have c3b0 : (t133 == 1) = true := beq_iff_eq.mpr c3
    have c3b1 : (t133 != 1) = false := bne_eq_false_iff_eq.mpr c3
    clear c3
    replace H := Option.bind_eq_some_iff.mp H
    obtain ⟨⟨t134, t135, t136, t137, t138, t139, t140, t141⟩, A40, H⟩ := H
    replace H : ((some (([(⟨#[83, 105, 122, 101]⟩ : ByteArray), (⟨#[82, 101, 115, 105, 100, 101, 110, 116]⟩ : ByteArray), (⟨#[83, 104, 97, 114, 101, 100]⟩ : ByteArray), (⟨#[84, 101, 120, 116]⟩ : ByteArray), (⟨#[76, 105, 98]⟩ : ByteArray), (⟨#[68, 97, 116, 97]⟩ : ByteArray), (⟨#[68, 116]⟩ : ByteArray)] : List ByteArray) : List ByteArray)).bind fun y147 => (spec_StatmTree.l0 k l0 (([(⟨t134, t135, t136, t137, t138, t139, t140, t141⟩ : S39)] : List (S39))) y147 (y147.length : Int) 0)) = some (r1, r2, r3, r4, r5, r6, r7, r8, r9) := H
    have A4 := Aside0.mk A40
    clear A40
    obtain ⟨y144, hy144⟩ : ∃ y_ : List (S39), y_ = (([(⟨t134, t135, t136, t137, t138, t139, t140, t141⟩ : S39)] : List (S39))) := ⟨_, rfl⟩
    replace H : ((some (([(⟨#[83, 105, 122, 101]⟩ : ByteArray), (⟨#[82, 101, 115, 105, 100, 101, 110, 116]⟩ : ByteArray), (⟨#[83, 104, 97, 114, 101, 100]⟩ : ByteArray), (⟨#[84, 101, 120, 116]⟩ : ByteArray), (⟨#[76, 105, 98]⟩ : ByteArray), (⟨#[68, 97, 116, 97]⟩ : ByteArray), (⟨#[68, 116]⟩ : ByteArray)] : List ByteArray) : List ByteArray)).bind fun y147 => (spec_StatmTree.l0 k l0 y144 y147 (y147.length : Int) 0)) = some (r1, r2, r3, r4, r5, r6, r7, r8, r9) := by first | (rw [hy144]; with_reducible exact H) | (have H2_ := (Option.bind_some _ _).symm.trans H; rw [hy144]; with_reducible exact H2_) | (have H2_ := (Option.bind_some _ _).symm.trans H; with_reducible exact H2_) | with_reducible exact H | (rw [hy144]; exact H) | exact H
    have Ny144 := Aside0.mk hy144
    clear hy144
    obtain ⟨y147, hy147⟩ : ∃ y_ : List ByteArray, y_ = (([(⟨#[83, 105, 122, 101]⟩ : ByteArray), (⟨#[82, 101, 115, 105, 100, 101, 110, 116]⟩ : ByteArray), (⟨#[83, 104, 97, 114, 101, 100]⟩ : ByteArray), (⟨#[84, 101, 120, 116]⟩ : ByteArray), (⟨#[76, 105, 98]⟩ : ByteArray), (⟨#[68, 97, 116, 97]⟩ : ByteArray), (⟨#[68, 116]⟩ : ByteArray)] : List ByteArray)) := ⟨_, rfl⟩
    replace H : (spec_StatmTree.l0 k l0 y144 y147 (y147.length : Int) 0) = some (r1, r2, r3, r4, r5, r6, r7, r8, r9) := by first | (rw [hy147]; with_reducible exact H) | (have H2_ := (Option.bind_some _ _).symm.trans H; rw [hy147]; with_reducible exact H2_) | (have H2_ := (Option.bind_some _ _).symm.trans H; with_reducible exact H2_) | with_reducible exact H | (rw [hy147]; exact H) | exact H
    have Ny147 := Aside0.mk hy147
    clear hy147
    have H' := Aside0.mk H
    clear H
    go_enter Tryz.func22, Tryz.ntmps22
    go_wp2_with (first | ((with_reducible refine gate_dst (N := 2) rfl ?_); refine box_event ?hg (N := 2) ?hd (cs := #[.string (⟨#[]⟩ : ByteArray), .int .i64 0, .bool false, .int .i64 0, .int .u64 0, .float .f64 0, .string (⟨#[]⟩ : ByteArray), .slice none 0 0]) (t := 39) ?hr ?_; (case hd => rfl); (case hg => rfl); (case hr => first | (go_simp; done) | (go_simp; rfl)); intro gb131 hg w5 hbox hb; have n0_ := Aside0.mk (below_step (by repeat (first | (with_reducible first | exact HB.out | apply below_alloc | apply pw_below_drewN | apply below_drew1) | exact HB.out)) hb); have n1_ := Aside0.mk (hbox); have n2_ := Aside0.mk ((by rw [hg]; exact (below_size (by repeat (first | (with_reducible first | exact HB.out | apply below_alloc | apply pw_below_drewN | apply below_drew1) | exact HB.out))) : w.heap.size ≤ gb131)); have n3_ := Aside0.mk ((by rw [hg]; exact (below_size (by repeat (first | (with_reducible first | exact HB.out | apply below_alloc | apply pw_below_drewN | apply below_drew1) | exact HB.out))) : w.heap.size ≤ gb131)); clear HB; have HB := n0_; have BK131 := n1_; have GW131 := n2_; have GE131 := n3_; clear n0_ n1_ n2_ n3_; clear hb hbox hg) | ((with_reducible refine gate_callee (f := 21) rfl ?_); refine goesL_ (some 11) rfl rfl Tryz.func21 (by kernel_rfl) rfl #[.slice A0 l0.length c0] rfl (by (try simp only [List.map_toArray, List.map_cons, List.map_nil]); first | done | rfl | (simp only [List.length_drop, List.length_take]; rfl)) ?_; (with_reducible refine (spec_StatmPrint.calls k _ _ l0 t132 t133 _ ?side1 ?side2 A2.out).mono ?_); (case side1 => repeat (first | exact (Kd.C_below HR0.out HB.out) | (with_reducible refine Kd.C_alloc ?_ _) | (with_reducible refine Kd.C_drewN ?_ _) | (with_reducible refine Kd.C_drew ?_))); (case side2 => exact HC0.out); rintro e w6 ⟨rfl, hb⟩; refine ⟨_, rfl, ?_⟩; have n0_ := Aside0.mk (blk_below (g := gb131) (o := .cells #[.string (⟨#[]⟩ : ByteArray), .int .i64 0, .bool false, .int .i64 0, .int .u64 0, .float .f64 0, .string (⟨#[]⟩ : ByteArray), .slice none 0 0] 39 (0, 0)) (by (with_reducible repeat (first | refine blk_drewN ?_ _ | refine blk_drew ?_ | refine blk_alloc ?_ _)); exact BK131.out) hb); have n1_ := Aside0.mk (below_step (by repeat (first | (with_reducible first | exact HB.out | apply below_alloc | apply pw_below_drewN | apply below_drew1 | refine below_set ?_ GE131.out) | exact HB.out)) hb); clear BK131; clear HB; have BK131 := n0_; have HB := n1_; clear n0_ n1_; (try clear hb); (try clear hb2); (try clear hk); (try clear hi)) | ((with_reducible refine gate_callee (f := 74) rfl ?_); refine goesL_ (some 17) rfl rfl Tryz.func74 (by kernel_rfl) rfl #[.string (⟨#[80, 73, 68]⟩ : ByteArray), .int .i64 0] rfl (by (try simp only [List.map_toArray, List.map_cons, List.map_nil]); first | done | rfl | (simp only [List.length_drop, List.length_take]; rfl)) ?_; (with_reducible refine (spec_intNode.calls (⟨#[80, 73, 68]⟩ : ByteArray) 0 t134 t135 t136 t137 t138 t139 t140 t141 _ A4.out).mono ?_); rintro e w7 ⟨v142, rfl, ho0, hb⟩; refine ⟨_, rfl, ?_⟩; have n0_ := Aside0.mk (Kd.N_lower (Kd.N_mono (ok' := fun k_ => (w.heap.size ≤ k_) ∧ k_ ≠ gb131) (Kd.R_N (Kd.R_bound ho0)) (fun k_ hk_ => ⟨(Nat.le_trans (below_size (by repeat (first | (with_reducible first | exact HB.out | apply below_alloc | apply pw_below_drewN | apply below_drew1 | refine below_set ?_ GE131.out) | exact HB.out))) hk_.2.1), (Kd.freshB (g := gb131) (o := .cells #[.string (⟨#[]⟩ : ByteArray), .int .i64 0, .bool false, .int .i64 0, .int .u64 0, .float .f64 0, .string (⟨#[]⟩ : ByteArray), .slice none 0 0] 39 (0, 0)) (by (with_reducible repeat (first | refine blk_drewN ?_ _ | refine blk_drew ?_ | refine blk_alloc ?_ _)); exact BK131.out) k_ hk_.2.1)⟩)) (below_size (by repeat (first | (with_reducible first | exact HB.out | apply below_alloc | apply pw_below_drewN | apply below_drew1 | refine below_set ?_ GE131.out) | exact HB.out)))); have n1_ := Aside0.mk (blk_below (g := gb131) (o := .cells #[.string (⟨#[]⟩ : ByteArray), .int .i64 0, .bool false, .int .i64 0, .int .u64 0, .float .f64 0, .string (⟨#[]⟩ : ByteArray), .slice none 0 0] 39 (0, 0)) (by (with_reducible repeat (first | refine blk_drewN ?_ _ | refine blk_drew ?_ | refine blk_alloc ?_ _)); exact BK131.out) hb); have n2_ := Aside0.mk (below_step (by repeat (first | (with_reducible first | exact HB.out | apply below_alloc | apply pw_below_drewN | apply below_drew1 | refine below_set ?_ GE131.out) | exact HB.out)) hb); clear BK131; clear HB; have HO143 := n0_; have BK131 := n1_; have HB := n2_; clear n0_ n1_ n2_; (try clear hb); (try clear hb2); (try clear hk); (try clear hi); (try clear ho0); obtain ⟨Ao8, co8, eo8⟩ := Kd.N_slice HO143.out; subst eo8) | ((with_reducible refine gate_dst (N := 18) rfl ?_); refine Kd.N_lit k39 _ 39 ?hg (N' := 18) ?hd (xs := ([(⟨t134, t135, t136, t137, t138, t139, t140, t141⟩ : S39)] : List (S39))) (inner := [.string t134, .int .i64 t135, .bool t136, .int .i64 t137, .int .u64 t138, .float .f64 t139, .string t140, .slice Ao8 t141.length co8]) (ok := (fun k_ => (w.heap.size ≤ k_) ∧ k_ ≠ gb131)) (okp := (fun k_ => (w.heap.size ≤ k_) ∧ k_ ≠ gb131)) ?hr ?hp (fun _ hk => hk) ((show ∀ k_, w7.heap.size ≤ k_ → (fun k_ => (w.heap.size ≤ k_) ∧ k_ ≠ gb131) k_ from fun k_ hk => ⟨(Nat.le_trans (below_size (by repeat (first | (with_reducible first | exact HB.out | apply below_alloc | apply pw_below_drewN | apply below_drew1 | refine below_set ?_ GE131.out) | exact HB.out))) hk), Kd.freshB (g := gb131) (o := .cells #[.string (⟨#[]⟩ : ByteArray), .int .i64 0, .bool false, .int .i64 0, .int .u64 0, .float .f64 0, .string (⟨#[]⟩ : ByteArray), .slice none 0 0] 39 (0, 0)) (by (with_reducible repeat (first | refine blk_drewN ?_ _ | refine blk_drew ?_ | refine blk_alloc ?_ _)); exact BK131.out) k_ hk⟩) _ (Nat.le_refl _)) (Below.refl _ _) (Nat.le_refl _) (by simp) ?_; (case hd => rfl); (case hg => rfl); (case hr => first | (go_simp; done) | (go_simp; rfl)); (case hp => exact (Reps.c8 (show Kd.FK k39 _ _ (⟨t134, t135, t136, t137, t138, t139, t140, t141⟩ : S39) [.string t134, .int .i64 t135, .bool t136, .int .i64 t137, .int .u64 t138, .float .f64 t139, .string t140, .slice Ao8 t141.length co8] from (k39_mkF _ _ (⟨t134, t135, t136, t137, t138, t139, t140, t141⟩ : S39) (Kd.N_reads' (Kd.N_mono (ok' := (fun k_ => (w.heap.size ≤ k_) ∧ k_ ≠ gb131)) (HO143.out) (fun k_ hk => ⟨hk.1, hk.2⟩))).2.1 (Kd.N_F (Kd.N_mono (ok' := (fun k_ => (w.heap.size ≤ k_) ∧ k_ ≠ gb131)) (HO143.out) (fun k_ hk => ⟨hk.1, hk.2⟩))))) (Reps.none _ _))); intro v145 w9 ho10 hb hg_ hnew_; clear hg_ hnew_; (first | rw [← Ny144.out] at ho10 | (simp only [Int.reduceToNat] at ho10; rw [← Ny144.out] at ho10)); have n0_ := Aside0.mk (Kd.N_lower ho10 (below_size (by repeat (first | (with_reducible first | exact HB.out | apply below_alloc | apply pw_below_drewN | apply below_drew1 | refine below_set ?_ GE131.out) | exact HB.out)))); have n1_ := Aside0.mk (blk_below (g := gb131) (o := .cells #[.string (⟨#[]⟩ : ByteArray), .int .i64 0, .bool false, .int .i64 0, .int .u64 0, .float .f64 0, .string (⟨#[]⟩ : ByteArray), .slice none 0 0] 39 (0, 0)) (by (with_reducible repeat (first | refine blk_drewN ?_ _ | refine blk_drew ?_ | refine blk_alloc ?_ _)); exact BK131.out) hb); have n2_ := Aside0.mk (below_step (by repeat (first | (with_reducible first | exact HB.out | apply below_alloc | apply pw_below_drewN | apply below_drew1 | refine below_set ?_ GE131.out) | exact HB.out)) hb); clear BK131; clear HB; clear HO143; have HO146 := n0_; have BK131 := n1_; have HB := n2_; clear n0_ n1_ n2_; clear hb ho10) | ((with_reducible refine gate_dst (N := 19) rfl ?_); refine Kd.R_lit Kd.string _ 9 ?hg (N := 19) ?hd (xs := ([(⟨#[83, 105, 122, 101]⟩ : ByteArray), (⟨#[82, 101, 115, 105, 100, 101, 110, 116]⟩ : ByteArray), (⟨#[83, 104, 97, 114, 101, 100]⟩ : ByteArray), (⟨#[84, 101, 120, 116]⟩ : ByteArray), (⟨#[76, 105, 98]⟩ : ByteArray), (⟨#[68, 97, 116, 97]⟩ : ByteArray), (⟨#[68, 116]⟩ : ByteArray)] : List ByteArray)) (inner := [.string (⟨#[83, 105, 122, 101]⟩ : ByteArray), .string (⟨#[82, 101, 115, 105, 100, 101, 110, 116]⟩ : ByteArray), .string (⟨#[83, 104, 97, 114, 101, 100]⟩ : ByteArray), .string (⟨#[84, 101, 120, 116]⟩ : ByteArray), .string (⟨#[76, 105, 98]⟩ : ByteArray), .string (⟨#[68, 97, 116, 97]⟩ : ByteArray), .string (⟨#[68, 116]⟩ : ByteArray)]) (ok := fun _ => True) (okp := fun _ => True) ?hr ?hp (fun _ hk => hk) trivial (Below.refl _ _) (Nat.le_refl _) (by simp) ?_; (case hd => rfl); (case hg => rfl); (case hr => first | (go_simp; done) | (go_simp; rfl)); (case hp => exact (Reps.one (show Kd.M Kd.string _ _ _ (⟨#[83, 105, 122, 101]⟩ : ByteArray) [.string (⟨#[83, 105, 122, 101]⟩ : ByteArray)] from rfl) (Reps.one (show Kd.M Kd.string _ _ _ (⟨#[82, 101, 115, 105, 100, 101, 110, 116]⟩ : ByteArray) [.string (⟨#[82, 101, 115, 105, 100, 101, 110, 116]⟩ : ByteArray)] from rfl) (Reps.one (show Kd.M Kd.string _ _ _ (⟨#[83, 104, 97, 114, 101, 100]⟩ : ByteArray) [.string (⟨#[83, 104, 97, 114, 101, 100]⟩ : ByteArray)] from rfl) (Reps.one (show Kd.M Kd.string _ _ _ (⟨#[84, 101, 120, 116]⟩ : ByteArray) [.string (⟨#[84, 101, 120, 116]⟩ : ByteArray)] from rfl) (Reps.one (show Kd.M Kd.string _ _ _ (⟨#[76, 105, 98]⟩ : ByteArray) [.string (⟨#[76, 105, 98]⟩ : ByteArray)] from rfl) (Reps.one (show Kd.M Kd.string _ _ _ (⟨#[68, 97, 116, 97]⟩ : ByteArray) [.string (⟨#[68, 97, 116, 97]⟩ : ByteArray)] from rfl) (Reps.one (show Kd.M Kd.string _ _ _ (⟨#[68, 116]⟩ : ByteArray) [.string (⟨#[68, 116]⟩ : ByteArray)] from rfl) (Reps.none _ _))))))))); intro v148 w11 ho12 hb hg_ hnew_; clear hg_ hnew_; (first | rw [← Ny147.out] at ho12 | (simp only [Int.reduceToNat] at ho12; rw [← Ny147.out] at ho12)); have n0_ := Aside0.mk (Kd.N_elder' (by (with_reducible repeat (first | apply Kd.N_alloc | apply Kd.N_drewN | apply Kd.N_drew)); exact HO146.out) (by first | exact Kd.R_base ho12 | exact Kd.R_base ho12) hb); have n1_ := Aside0.mk (Kd.R_lower (Kd.R_newM (M := fun k_ => (w.heap.size ≤ k_)) ho12 (below_size (by repeat (first | (with_reducible first | exact HB.out | apply below_alloc | apply pw_below_drewN | apply below_drew1 | refine below_set ?_ GE131.out) | exact HB.out))) (fun k_ h_ => h_)) (below_size (by repeat (first | (with_reducible first | exact HB.out | apply below_alloc | apply pw_below_drewN | apply below_drew1 | refine below_set ?_ GE131.out) | exact HB.out)))); have n2_ := Aside0.mk (blk_below (g := gb131) (o := .cells #[.string (⟨#[]⟩ : ByteArray), .int .i64 0, .bool false, .int .i64 0, .int .u64 0, .float .f64 0, .string (⟨#[]⟩ : ByteArray), .slice none 0 0] 39 (0, 0)) (by (with_reducible repeat (first | refine blk_drewN ?_ _ | refine blk_drew ?_ | refine blk_alloc ?_ _)); exact BK131.out) hb); have n3_ := Aside0.mk (below_step (by repeat (first | (with_reducible first | exact HB.out | apply below_alloc | apply pw_below_drewN | apply below_drew1 | refine below_set ?_ GE131.out) | exact HB.out)) hb); clear HO146; clear BK131; clear HB; have HO146 := n0_; have HO149 := n1_; have BK131 := n2_; have HB := n3_; clear n0_ n1_ n2_ n3_; clear hb ho12; obtain ⟨Ao13, co13, eo13⟩ := Kd.R_slice HO149.out; subst eo13))
    go_loopg [6, 21] k (fun kq v6 v21 w' => ∃ (x6_1 : List (S39)) (x21_1 : Int), v21 = .int .i64 x21_1 ∧ Aside0 (spec_StatmTree.l0 kq l0 x6_1 y147 (y147.length : Int) x21_1 = some (r1, r2, r3, r4, r5, r6, r7, r8, r9)) ∧ Aside0 (kq ≤ k) ∧ Aside0 (Kd.N k39 39 w' w.heap.size (fun k_ => (w.heap.size ≤ k_) ∧ some k_ ≠ ((.slice Ao13 y147.length co13) : Value).ownBlock ∧ k_ ≠ gb131) v6 x6_1) ∧ Aside0 (Kd.R Kd.string 9 w' w.heap.size (fun k_ => (w.heap.size ≤ k_)) (.slice Ao13 y147.length co13) y147) ∧ Aside0 (w'.heap[gb131]? = some (.cells #[.string (⟨#[]⟩ : ByteArray), .int .i64 0, .bool false, .int .i64 0, .int .u64 0, .float .f64 0, .string (⟨#[]⟩ : ByteArray), (.slice none 0 0)] 39 (0, 0))) ∧ Aside0 (Below w.heap.size w w'))
    case atStart => exact ⟨(y144), (0), (by first | rfl | (simp; done) | (simp [*]; done)), H', ⟨Nat.le_refl _⟩, ⟨by (with_reducible repeat (first | apply Kd.N_alloc | apply Kd.N_drewN | apply Kd.N_drew)); exact Kd.N_mono HO146.out (fun _ hk => ⟨hk.1.1, ⟨hk.2, hk.1.2⟩⟩)⟩, ⟨by (with_reducible repeat (first | apply Kd.R_alloc | apply Kd.R_drewN | apply Kd.R_drew)); exact Kd.R_mono HO149.out (fun _ hk => hk.1)⟩, ⟨by (with_reducible repeat (first | refine blk_drewN ?_ _ | refine blk_drew ?_ | refine blk_alloc ?_ _)); exact BK131.out⟩, ⟨by repeat (first | (with_reducible first | exact HB.out | apply below_alloc | apply pw_below_drewN | apply below_drew1 | refine below_set ?_ GE131.out) | exact HB.out)⟩⟩
    case round =>
      clear H'
      try clear c2
      try clear p2
      try clear c3
      try clear c3b0
      try clear c3b1
      try clear c7
      try clear c8
      obtain ⟨x6_1, x21_1, rfl, HA, HK1, HO_6, HO_19, BK131, HB⟩ := hrel
      cases gk with
      | zero => exact absurd HA.out (by simp [spec_StatmTree.l0])
      | succ k1 =>
        have H := HA.out
        clear HA
        simp only [spec_StatmTree.l0] at H
        by_cases c14 : x21_1 < (y147.length : Int)
        · rw [if_pos c14] at H
          have c14b0 : decide (x21_1 < (y147.length : Int)) = true := decide_eq_true c14
          clear c14
          replace H := guard_inv H
          obtain ⟨c15, H⟩ := H
          have c15b0 : decide (0 ≤ x21_1) = true := decide_eq_true c15
          clear c15
          replace H := guard_inv H
          obtain ⟨c16, H⟩ := H
          have c16b0 : decide (x21_1 < (y147.length : Int)) = true := decide_eq_true c16
          clear c16
          replace H := guard_inv H
          obtain ⟨c17, H⟩ := H
          have c17b0 : decide (0 < (l0.length : Int)) = true := decide_eq_true c17
          have c17b1 : decide (0 < l0.length) = true := decide_eq_true (by omega)
          clear c17
          replace H := guard_inv H
          obtain ⟨c18, H⟩ := H
          have c18b0 : decide (x21_1 < (((rd_T31 l0 0).f1).length : Int)) = true := decide_eq_true c18
          clear c18
          replace H := Option.bind_eq_some_iff.mp H
          obtain ⟨⟨t153, t154, t155, t156, t157, t158, t159, t160⟩, A190, H⟩ := H
          replace H : (if x6_1.length < 1466015503701 then (spec_StatmTree.l0 k1 l0 (x6_1 ++ [(⟨t153, t154, t155, t156, t157, t158, t159, t160⟩ : S39)]) y147 (y147.length : Int) (wrap64 (x21_1 + 1))) else (none)) = some (r1, r2, r3, r4, r5, r6, r7, r8, r9) := H
          have A19 := Aside0.mk A190
          clear A190
          replace H := guard_inv H
          obtain ⟨c20, H⟩ := H
          have LMc20 := Aside0.mk c20
          clear c20
          obtain ⟨y163, hy163⟩ : ∃ y_ : List (S39), y_ = (x6_1 ++ [(⟨t153, t154, t155, t156, t157, t158, t159, t160⟩ : S39)]) := ⟨_, rfl⟩
          replace H : (spec_StatmTree.l0 k1 l0 y163 y147 (y147.length : Int) (wrap64 (x21_1 + 1))) = some (r1, r2, r3, r4, r5, r6, r7, r8, r9) := by first | (rw [hy163]; with_reducible exact H) | (have H2_ := (Option.bind_some _ _).symm.trans H; rw [hy163]; with_reducible exact H2_) | (have H2_ := (Option.bind_some _ _).symm.trans H; with_reducible exact H2_) | with_reducible exact H | (rw [hy163]; exact H) | exact H
          have Ny163 := Aside0.mk hy163
          clear hy163
          have H' := Aside0.mk H
          clear H
          have p150 : 0 ≤ (x21_1 : Int) := of_decide_eq_true (by first | (with_reducible assumption) | assumption)
          have q150 : x21_1 < (y147.length : Int) := of_decide_eq_true (by first | (with_reducible assumption) | assumption)
          obtain ⟨ad150, e150, hx150_0⟩ := Kd.at_string (Kd.R_reads' HO_19.out).2.2 x21_1 p150 q150
          cases e150
          replace p150 := eq_true p150
          replace q150 := eq_true q150
          have p151 : 0 ≤ (0 : Int) := (by omega)
          have q151 : 0 < (l0.length : Int) := of_decide_eq_true (by first | (with_reducible assumption) | assumption)
          obtain ⟨ad151, A151_1, c151_1, A151_2, c151_2, e151, hx151_0, hx151_1, hx151_2, hl151_1, hi151_1, hl151_2, hi151_2⟩ := at_T31 HR0.out 0 p151 q151
          cases e151
          have qi151 : (0 < l0.length) = True := eq_true (by omega)
          (try rw [show ((0 : Int)).toNat = 0 from rfl] at hx151_0)
          (try rw [show 0 * 3 = 0 from rfl] at hx151_0)
          (try rw [Addr.add_zero'] at hx151_0)
          (try rw [show ((0 : Int)).toNat = 0 from rfl] at hx151_1)
          (try rw [show 0 * 3 = 0 from rfl] at hx151_1)
          (try rw [Addr.add_zero'] at hx151_1)
          (try rw [show ((0 : Int)).toNat = 0 from rfl] at hx151_2)
          (try rw [show 0 * 3 = 0 from rfl] at hx151_2)
          (try rw [Addr.add_zero'] at hx151_2)
          replace hx151_0 := (HB.out.cell (World.block_lt_of_cell? w _ hx151_0)).trans hx151_0
          replace hx151_1 := (HB.out.cell (World.block_lt_of_cell? w _ hx151_1)).trans hx151_1
          replace hx151_2 := (HB.out.cell (World.block_lt_of_cell? w _ hx151_2)).trans hx151_2
          have HR151_1 := Aside0.mk hi151_1
          have HC151_1 := Aside0.mk hl151_1
          clear hi151_1 hl151_1
          have HR151_2 := Aside0.mk hi151_2
          have HC151_2 := Aside0.mk hl151_2
          clear hi151_2 hl151_2
          replace p151 := eq_true p151
          replace q151 := eq_true q151
          have p152 : 0 ≤ (x21_1 : Int) := of_decide_eq_true (by first | (with_reducible assumption) | assumption)
          have q152 : x21_1 < (((rd_T31 l0 0).f1).length : Int) := of_decide_eq_true (by first | (with_reducible assumption) | assumption)
          obtain ⟨ad152, e152, hx152_0⟩ := Kd.at_int HR151_1.out x21_1 p152 q152
          cases e152
          replace hx152_0 := (HB.out.cell (World.block_lt_of_cell? w _ hx152_0)).trans hx152_0
          replace p152 := eq_true p152
          replace q152 := eq_true q152
          go_wp2_with (first | ((with_reducible refine gate_callee (f := 75) rfl ?_); refine goesL_ (some 35) rfl rfl Tryz.func75 (by kernel_rfl) rfl #[.string (rdOf ByteArray.empty y147 x21_1), .int .u64 (rd ((rd_T31 l0 0).f1) x21_1)] rfl (by (try simp only [List.map_toArray, List.map_cons, List.map_nil]); first | done | rfl | (simp only [List.length_drop, List.length_take]; rfl)) ?_; (with_reducible refine (spec_uintNode.calls (rdOf ByteArray.empty y147 x21_1) (rd ((rd_T31 l0 0).f1) x21_1) t153 t154 t155 t156 t157 t158 t159 t160 _ A19.out).mono ?_); rintro e w21 ⟨v161, rfl, ho0, hb⟩; refine ⟨_, rfl, ?_⟩; have n0_ := Aside0.mk (Kd.N_elder' (by (with_reducible repeat (first | apply Kd.N_alloc | apply Kd.N_drewN | apply Kd.N_drew)); exact HO_6.out) (by first | exact Kd.N_base ho0 | exact Kd.R_base ho0) hb); have n1_ := Aside0.mk (Kd.R_below (by (with_reducible repeat (first | apply Kd.R_alloc | apply Kd.R_drewN | apply Kd.R_drew)); exact HO_19.out) hb); have n2_ := Aside0.mk (Kd.N_lower (Kd.N_mono (ok' := fun k_ => (w.heap.size ≤ k_) ∧ some k_ ≠ (u6 : Value).ownBlock ∧ some k_ ≠ (.slice (some ad150) y147.length co13 : Value).ownBlock ∧ k_ ≠ gb131) (Kd.R_N (Kd.R_bound ho0)) (fun k_ hk_ => ⟨(Nat.le_trans (below_size (by repeat (first | (with_reducible first | exact HB.out | apply below_alloc | apply pw_below_drewN | apply below_drew1 | refine below_set ?_ GE131.out) | exact HB.out))) hk_.2.1), (Kd.fresh' (Kd.N_lt (by (with_reducible repeat (first | apply Kd.N_alloc | apply Kd.N_drewN | apply Kd.N_drew)); exact HO_6.out)) k_ hk_.2.1), (Kd.fresh' (Kd.R_lt (by (with_reducible repeat (first | apply Kd.R_alloc | apply Kd.R_drewN | apply Kd.R_drew)); exact HO_19.out)) k_ hk_.2.1), (Kd.freshB (g := gb131) (o := .cells #[.string (⟨#[]⟩ : ByteArray), .int .i64 0, .bool false, .int .i64 0, .int .u64 0, .float .f64 0, .string (⟨#[]⟩ : ByteArray), .slice none 0 0] 39 (0, 0)) (by (with_reducible repeat (first | refine blk_drewN ?_ _ | refine blk_drew ?_ | refine blk_alloc ?_ _)); exact BK131.out) k_ hk_.2.1)⟩)) (below_size (by repeat (first | (with_reducible first | exact HB.out | apply below_alloc | apply pw_below_drewN | apply below_drew1 | refine below_set ?_ GE131.out) | exact HB.out)))); have n3_ := Aside0.mk (blk_below (g := gb131) (o := .cells #[.string (⟨#[]⟩ : ByteArray), .int .i64 0, .bool false, .int .i64 0, .int .u64 0, .float .f64 0, .string (⟨#[]⟩ : ByteArray), .slice none 0 0] 39 (0, 0)) (by (with_reducible repeat (first | refine blk_drewN ?_ _ | refine blk_drew ?_ | refine blk_alloc ?_ _)); exact BK131.out) hb); have n4_ := Aside0.mk (below_step (by repeat (first | (with_reducible first | exact HB.out | apply below_alloc | apply pw_below_drewN | apply below_drew1 | refine below_set ?_ GE131.out) | exact HB.out)) hb); clear HO_6; clear HO_19; clear BK131; clear HB; have HO_6 := n0_; have HO_19 := n1_; have HO162 := n2_; have BK131 := n3_; have HB := n4_; clear n0_ n1_ n2_ n3_ n4_; (try clear hb); (try clear hb2); (try clear hk); (try clear hi); (try clear ho0); obtain ⟨Ao23, co23, eo23⟩ := Kd.N_slice HO162.out; subst eo23) | ((with_reducible refine gate_builtin (b := .append) (xs := #[.tmp 26, .tmp 36]) rfl ?_); at_builtin; refine Kd.N_append k39 (w0 := w) w.heap.size rfl (.tmp 26) (.tmp 36) 37 39 (.agg #[(.string ⟨#[]⟩), (.int .i64 0), (.bool false), (.int .i64 0), (.int .u64 0), (.float .f64 0), (.string ⟨#[]⟩), (.slice none 0 0)]) 96 rfl Tryz.underlying37 info39 rfl (by decide) (by omega) u6 x6_1 (⟨t153, t154, t155, t156, t157, t158, t159, t160⟩ : S39) [.string t153, .int .i64 t154, .bool t155, .int .i64 t156, .int .u64 t157, .float .f64 t158, .string t159, .slice Ao23 t160.length co23] (fun k_ => (w.heap.size ≤ k_) ∧ some k_ ≠ (.slice (some ad150) y147.length co13 : Value).ownBlock ∧ k_ ≠ gb131) (fun k_ => ((fun k_ => (w.heap.size ≤ k_) ∧ some k_ ≠ (.slice (some ad150) y147.length co13 : Value).ownBlock ∧ k_ ≠ gb131)) k_ ∧ some k_ ≠ (u6 : Value).ownBlock) rfl rfl ?aP (fun _ hk => hk) ?aF ?aO ?aB ?aS ?aL ?_; (case aP => exact (k39_mkF _ _ (⟨t153, t154, t155, t156, t157, t158, t159, t160⟩ : S39) (Kd.N_reads' (Kd.N_mono (ok' := (fun k_ => ((fun k_ => (w.heap.size ≤ k_) ∧ some k_ ≠ (.slice (some ad150) y147.length co13 : Value).ownBlock ∧ k_ ≠ gb131)) k_ ∧ some k_ ≠ (u6 : Value).ownBlock)) (HO162.out) (fun k_ hk => ⟨⟨hk.1, ⟨hk.2.2.1, hk.2.2.2⟩⟩, hk.2.1⟩))).2.1 (Kd.N_F (Kd.N_mono (ok' := (fun k_ => ((fun k_ => (w.heap.size ≤ k_) ∧ some k_ ≠ (.slice (some ad150) y147.length co13 : Value).ownBlock ∧ k_ ≠ gb131)) k_ ∧ some k_ ≠ (u6 : Value).ownBlock)) (HO162.out) (fun k_ hk => ⟨⟨hk.1, ⟨hk.2.2.1, hk.2.2.2⟩⟩, hk.2.1⟩))))); (case aB => exact (by repeat (first | (with_reducible first | exact HB.out | apply below_alloc | apply pw_below_drewN | apply below_drew1 | refine below_set ?_ GE131.out) | exact HB.out))); (case aF => exact (fun k_ hk => ⟨(Nat.le_trans (below_size (by repeat (first | (with_reducible first | exact HB.out | apply below_alloc | apply pw_below_drewN | apply below_drew1 | refine below_set ?_ GE131.out) | exact HB.out))) hk), Kd.fresh' (Kd.R_lt (by (with_reducible repeat (first | apply Kd.R_alloc | apply Kd.R_drewN | apply Kd.R_drew)); exact HO_19.out)) k_ hk, Kd.freshB (g := gb131) (o := .cells #[.string (⟨#[]⟩ : ByteArray), .int .i64 0, .bool false, .int .i64 0, .int .u64 0, .float .f64 0, .string (⟨#[]⟩ : ByteArray), .slice none 0 0] 39 (0, 0)) (by (with_reducible repeat (first | refine blk_drewN ?_ _ | refine blk_drew ?_ | refine blk_alloc ?_ _)); exact BK131.out) k_ hk⟩)); (case aO => exact (by (with_reducible repeat (first | apply Kd.N_alloc | apply Kd.N_drewN | apply Kd.N_drew)); exact Kd.N_mono HO_6.out (fun _ hk => ⟨hk.1.1, ⟨hk.1.2.1, hk.1.2.2⟩⟩))); (case aS => exact (below_size (by repeat (first | (with_reducible first | exact HB.out | apply below_alloc | apply pw_below_drewN | apply below_drew1 | refine below_set ?_ GE131.out) | exact HB.out)))); (case aL => have := LMc20.out; omega); intro v164 w22 ho hb hg hat; rw [← Ny163.out] at ho; have n0_ := Aside0.mk (Kd.R_over' (by (with_reducible repeat (first | apply Kd.R_alloc | apply Kd.R_drewN | apply Kd.R_drew)); exact HO_19.out) (Kd.N_typed (by (with_reducible repeat (first | apply Kd.N_alloc | apply Kd.N_drewN | apply Kd.N_drew)); exact HO_6.out)) (by decide) hg); have n1_ := Aside0.mk (blk_grown (g := gb131) (o := .cells #[.string (⟨#[]⟩ : ByteArray), .int .i64 0, .bool false, .int .i64 0, .int .u64 0, .float .f64 0, .string (⟨#[]⟩ : ByteArray), .slice none 0 0] 39 (0, 0)) (by (with_reducible repeat (first | refine blk_drewN ?_ _ | refine blk_drew ?_ | refine blk_alloc ?_ _)); exact BK131.out) hg (Kd.N_away HO_6.out (fun _ hk => hk.1.2.2))); have n2_ := Aside0.mk (hb); have n3_ := Aside0.mk (ho); clear HO_19; clear BK131; clear HB; clear HO_6; clear HO162; have HO_19 := n0_; have BK131 := n1_; have HB := n2_; have HO165 := n3_; clear n0_ n1_ n2_ n3_; clear ho hb hg hat))
          go_roundg k1
          case measure => have := HK1.out; omega
          case rel => exact ⟨(y163), (wrap64 (x21_1 + 1)), (by first | rfl | (simp; done) | (simp [*]; done)), H', ⟨by have := HK1.out; omega⟩, ⟨by (with_reducible repeat (first | apply Kd.N_alloc | apply Kd.N_drewN | apply Kd.N_drew)); exact HO165.out⟩, ⟨by (with_reducible repeat (first | apply Kd.R_alloc | apply Kd.R_drewN | apply Kd.R_drew)); exact HO_19.out⟩, ⟨by (with_reducible repeat (first | refine blk_drewN ?_ _ | refine blk_drew ?_ | refine blk_alloc ?_ _)); exact BK131.out⟩, ⟨by repeat (first | (with_reducible first | exact HB.out | apply below_alloc | apply pw_below_drewN | apply below_drew1 | refine below_set ?_ GE131.out) | exact HB.out)⟩⟩
        · rw [if_neg c14] at H
          have c14b0 : decide (x21_1 < (y147.length : Int)) = false := decide_eq_false c14
          clear c14
          replace H := Option.bind_eq_some_iff.mp H
          obtain ⟨⟨t166, t167, t168, t169, t170, t171, t172, t173⟩, A240, H⟩ := H
          replace H : (some (t166, t167, t168, t169, t170, t171, t172, t173, 1)) = some (r1, r2, r3, r4, r5, r6, r7, r8, r9) := H
          have A24 := Aside0.mk A240
          clear A240
          simp only [Option.some.injEq, Prod.mk.injEq] at H
          obtain ⟨rfl, rfl, rfl, rfl, rfl, rfl, rfl, rfl, rfl⟩ := H
          obtain ⟨Ao25, co25, eo25⟩ := Kd.N_slice HO_6.out
          subst eo25
          go_wp2_with (first | ((with_reducible refine gate_callee (f := 53) rfl ?_); refine goesL_ (some 40) rfl rfl Tryz.func53 (by kernel_rfl) rfl #[.string (⟨#[]⟩ : ByteArray), .slice Ao25 x6_1.length co25] rfl (by (try simp only [List.map_toArray, List.map_cons, List.map_nil]); first | done | rfl | (simp only [List.length_drop, List.length_take]; rfl)) ?_; (with_reducible refine (spec_recordNode.calls (⟨#[]⟩ : ByteArray) (fun k_ => ((w.heap.size ≤ k_) ∧ (some k_ ≠ (.slice Ao13 y147.length co13 : Value).ownBlock ∧ k_ ≠ gb131))) _ _ x6_1 t166 t167 t168 t169 t170 t171 t172 t173 _ ?side1 A24.out).mono ?_); (case side1 => exact Kd.N_V (HO_6.out)); rintro e w26 ⟨v174, rfl, ho0, hb⟩; refine ⟨_, rfl, ?_⟩; have n0_ := Aside0.mk (Kd.N_below (by (with_reducible repeat (first | apply Kd.N_alloc | apply Kd.N_drewN | apply Kd.N_drew)); exact HO_6.out) hb); have n1_ := Aside0.mk (Kd.R_below (by (with_reducible repeat (first | apply Kd.R_alloc | apply Kd.R_drewN | apply Kd.R_drew)); exact HO_19.out) hb); have n2_ := Aside0.mk (Kd.V_lower (Kd.V_mono (ok' := fun k_ => (w.heap.size ≤ k_) ∧ some k_ ≠ (.slice Ao13 y147.length co13 : Value).ownBlock ∧ k_ ≠ gb131) ho0 (fun k_ hk_ => ⟨Or.elim hk_ (fun hs_ => hs_.1) (fun hn_ => (Nat.le_trans (below_size (by repeat (first | (with_reducible first | exact HB.out | apply below_alloc | apply pw_below_drewN | apply below_drew1 | refine below_set ?_ GE131.out) | exact HB.out))) hn_)), Or.elim hk_ (fun hs_ => hs_.2.1) (fun hn_ => (Kd.fresh' (Kd.R_lt (by (with_reducible repeat (first | apply Kd.R_alloc | apply Kd.R_drewN | apply Kd.R_drew)); exact HO_19.out)) k_ hn_)), Or.elim hk_ (fun hs_ => hs_.2.2) (fun hn_ => (Kd.freshB (g := gb131) (o := .cells #[.string (⟨#[]⟩ : ByteArray), .int .i64 0, .bool false, .int .i64 0, .int .u64 0, .float .f64 0, .string (⟨#[]⟩ : ByteArray), .slice none 0 0] 39 (0, 0)) (by (with_reducible repeat (first | refine blk_drewN ?_ _ | refine blk_drew ?_ | refine blk_alloc ?_ _)); exact BK131.out) k_ hn_))⟩)) (below_size (by repeat (first | (with_reducible first | exact HB.out | apply below_alloc | apply pw_below_drewN | apply below_drew1 | refine below_set ?_ GE131.out) | exact HB.out)))); have n3_ := Aside0.mk (blk_below (g := gb131) (o := .cells #[.string (⟨#[]⟩ : ByteArray), .int .i64 0, .bool false, .int .i64 0, .int .u64 0, .float .f64 0, .string (⟨#[]⟩ : ByteArray), .slice none 0 0] 39 (0, 0)) (by (with_reducible repeat (first | refine blk_drewN ?_ _ | refine blk_drew ?_ | refine blk_alloc ?_ _)); exact BK131.out) hb); have n4_ := Aside0.mk (below_step (by repeat (first | (with_reducible first | exact HB.out | apply below_alloc | apply pw_below_drewN | apply below_drew1 | refine below_set ?_ GE131.out) | exact HB.out)) hb); clear HO_6; clear HO_19; clear BK131; clear HB; have HO_6 := n0_; have HO_19 := n1_; have HO175 := n2_; have BK131 := n3_; have HB := n4_; clear n0_ n1_ n2_ n3_ n4_; (try clear hb); (try clear hb2); (try clear hk); (try clear hi); (try clear ho0); have hcz27_0 : w26.cell? ⟨gb131, 0, none⟩ = some (.string (⟨#[]⟩ : ByteArray)) := (blk_cell BK131.out 0).trans rfl; have hcz27_1 : w26.cell? ⟨gb131, 1, none⟩ = some (.int .i64 0) := (blk_cell BK131.out 1).trans rfl; have hcz27_2 : w26.cell? ⟨gb131, 2, none⟩ = some (.bool false) := (blk_cell BK131.out 2).trans rfl; have hcz27_3 : w26.cell? ⟨gb131, 3, none⟩ = some (.int .i64 0) := (blk_cell BK131.out 3).trans rfl; have hcz27_4 : w26.cell? ⟨gb131, 4, none⟩ = some (.int .u64 0) := (blk_cell BK131.out 4).trans rfl; have hcz27_5 : w26.cell? ⟨gb131, 5, none⟩ = some (.float .f64 0) := (blk_cell BK131.out 5).trans rfl; have hcz27_6 : w26.cell? ⟨gb131, 6, none⟩ = some (.string (⟨#[]⟩ : ByteArray)) := (blk_cell BK131.out 6).trans rfl; have hcz27_7 : w26.cell? ⟨gb131, 7, none⟩ = some (.slice none 0 0) := (blk_cell BK131.out 7).trans rfl; have hfz27_0 := blk_frozen BK131.out 0; have hfz27_1 := blk_frozen BK131.out 1; have hfz27_2 := blk_frozen BK131.out 2; have hfz27_3 := blk_frozen BK131.out 3; have hfz27_4 := blk_frozen BK131.out 4; have hfz27_5 := blk_frozen BK131.out 5; have hfz27_6 := blk_frozen BK131.out 6; have hfz27_7 := blk_frozen BK131.out 7; obtain ⟨Ao28, co28, eo28⟩ := Kd.V_slice HO175.out; subst eo28))
          refine bodyPost_ret (results_ct rfl _ _ gb131 39 #[.string t166, .int .i64 t167, .bool t168, .int .i64 t169, .int .u64 t170, .float .f64 t171, .string t172, .slice Ao28 t173.length co28] (0, 0) _ rfl (by (with_reducible repeat (first | refine blk_drewN ?_ _ | refine blk_drew ?_ | refine blk_alloc ?_ _)); refine blk_put (cs := #[.string t166, .int .i64 t167, .bool t168, .int .i64 t169, .int .u64 t170, .float .f64 t171, .string t172, .slice none 0 0]) ?_ 7 _ rfl; (with_reducible repeat (first | refine blk_drewN ?_ _ | refine blk_drew ?_ | refine blk_alloc ?_ _)); refine blk_put (cs := #[.string t166, .int .i64 t167, .bool t168, .int .i64 t169, .int .u64 t170, .float .f64 t171, .string (⟨#[]⟩ : ByteArray), .slice none 0 0]) ?_ 6 _ rfl; (with_reducible repeat (first | refine blk_drewN ?_ _ | refine blk_drew ?_ | refine blk_alloc ?_ _)); refine blk_put (cs := #[.string t166, .int .i64 t167, .bool t168, .int .i64 t169, .int .u64 t170, .float .f64 0, .string (⟨#[]⟩ : ByteArray), .slice none 0 0]) ?_ 5 _ rfl; (with_reducible repeat (first | refine blk_drewN ?_ _ | refine blk_drew ?_ | refine blk_alloc ?_ _)); refine blk_put (cs := #[.string t166, .int .i64 t167, .bool t168, .int .i64 t169, .int .u64 0, .float .f64 0, .string (⟨#[]⟩ : ByteArray), .slice none 0 0]) ?_ 4 _ rfl; (with_reducible repeat (first | refine blk_drewN ?_ _ | refine blk_drew ?_ | refine blk_alloc ?_ _)); refine blk_put (cs := #[.string t166, .int .i64 t167, .bool t168, .int .i64 0, .int .u64 0, .float .f64 0, .string (⟨#[]⟩ : ByteArray), .slice none 0 0]) ?_ 3 _ rfl; (with_reducible repeat (first | refine blk_drewN ?_ _ | refine blk_drew ?_ | refine blk_alloc ?_ _)); refine blk_put (cs := #[.string t166, .int .i64 t167, .bool false, .int .i64 0, .int .u64 0, .float .f64 0, .string (⟨#[]⟩ : ByteArray), .slice none 0 0]) ?_ 2 _ rfl; (with_reducible repeat (first | refine blk_drewN ?_ _ | refine blk_drew ?_ | refine blk_alloc ?_ _)); refine blk_put (cs := #[.string t166, .int .i64 0, .bool false, .int .i64 0, .int .u64 0, .float .f64 0, .string (⟨#[]⟩ : ByteArray), .slice none 0 0]) ?_ 1 _ rfl; (with_reducible repeat (first | refine blk_drewN ?_ _ | refine blk_drew ?_ | refine blk_alloc ?_ _)); refine blk_put (cs := #[.string (⟨#[]⟩ : ByteArray), .int .i64 0, .bool false, .int .i64 0, .int .u64 0, .float .f64 0, .string (⟨#[]⟩ : ByteArray), .slice none 0 0]) ?_ 0 _ rfl; (with_reducible repeat (first | refine blk_drewN ?_ _ | refine blk_drew ?_ | refine blk_alloc ?_ _)); exact BK131.out) Tryz.underlying39 rfl (by kernel_rfl)) rfl ?_
          exact ⟨_, by first | rfl | (simp [errW_none, errW_some] <;> rfl) | (simp [*, errW_none, errW_some] <;> rfl), by (with_reducible repeat (first | apply Kd.V_alloc | apply Kd.V_drewN | apply Kd.V_drew)); exact Kd.V_mono (Kd.V_far (p := ⟨gb131, 7, none⟩) (Kd.V_far (p := ⟨gb131, 6, none⟩) (Kd.V_far (p := ⟨gb131, 5, none⟩) (Kd.V_far (p := ⟨gb131, 4, none⟩) (Kd.V_far (p := ⟨gb131, 3, none⟩) (Kd.V_far (p := ⟨gb131, 2, none⟩) (Kd.V_far (p := ⟨gb131, 1, none⟩) (Kd.V_far (p := ⟨gb131, 0, none⟩) (Kd.V_mono HO175.out (fun k_ hk => (⟨hk, hk.2.2⟩ : _ ∧ k_ ≠ gb131))) (fun _ hk => hk.2) (.string t166)) (fun _ hk => hk.2) (.int .i64 t167)) (fun _ hk => hk.2) (.bool t168)) (fun _ hk => hk.2) (.int .i64 t169)) (fun _ hk => hk.2) (.int .u64 t170)) (fun _ hk => hk.2) (.float .f64 t171)) (fun _ hk => hk.2) (.string t172)) (fun _ hk => hk.2) (.slice Ao28 t173.length co28)) (fun _ hk => hk.1.1), by repeat (first | (with_reducible first | exact HB.out | apply below_alloc | apply pw_below_drewN | apply below_drew1 | refine below_set ?_ GE131.out) | exact HB.out)⟩
  · rw [if_neg c3] at H
    have c3b0 : (t133 == 1) = false := beq_eq_false_iff_ne.mpr c3
    have c3b1 : (t133 != 1) = true := bne_iff_ne.mpr c3
    simp only [Option.some.injEq, Prod.mk.injEq] at H
    obtain ⟨rfl, rfl, rfl, rfl, rfl, rfl, rfl, rfl, rfl⟩ := H
    go_enter Tryz.func22, Tryz.ntmps22
    go_wp2_with (first | ((with_reducible refine gate_dst (N := 2) rfl ?_); refine box_event ?hg (N := 2) ?hd (cs := #[.string (⟨#[]⟩ : ByteArray), .int .i64 0, .bool false, .int .i64 0, .int .u64 0, .float .f64 0, .string (⟨#[]⟩ : ByteArray), .slice none 0 0]) (t := 39) ?hr ?_; (case hd => rfl); (case hg => rfl); (case hr => first | (go_simp; done) | (go_simp; rfl)); intro gb131 hg w29 hbox hb; have n0_ := Aside0.mk (below_step (by repeat (first | (with_reducible first | exact HB.out | apply below_alloc | apply pw_below_drewN | apply below_drew1) | exact HB.out)) hb); have n1_ := Aside0.mk (hbox); have n2_ := Aside0.mk ((by rw [hg]; exact (below_size (by repeat (first | (with_reducible first | exact HB.out | apply below_alloc | apply pw_below_drewN | apply below_drew1) | exact HB.out))) : w.heap.size ≤ gb131)); have n3_ := Aside0.mk ((by rw [hg]; exact (below_size (by repeat (first | (with_reducible first | exact HB.out | apply below_alloc | apply pw_below_drewN | apply below_drew1) | exact HB.out))) : w.heap.size ≤ gb131)); clear HB; have HB := n0_; have BK131 := n1_; have GW131 := n2_; have GE131 := n3_; clear n0_ n1_ n2_ n3_; clear hb hbox hg) | ((with_reducible refine gate_callee (f := 21) rfl ?_); refine goesL_ (some 11) rfl rfl Tryz.func21 (by kernel_rfl) rfl #[.slice A0 l0.length c0] rfl (by (try simp only [List.map_toArray, List.map_cons, List.map_nil]); first | done | rfl | (simp only [List.length_drop, List.length_take]; rfl)) ?_; (with_reducible refine (spec_StatmPrint.calls k _ _ l0 t132 t133 _ ?side1 ?side2 A2.out).mono ?_); (case side1 => repeat (first | exact (Kd.C_below HR0.out HB.out) | (with_reducible refine Kd.C_alloc ?_ _) | (with_reducible refine Kd.C_drewN ?_ _) | (with_reducible refine Kd.C_drew ?_))); (case side2 => exact HC0.out); rintro e w30 ⟨rfl, hb⟩; refine ⟨_, rfl, ?_⟩; have n0_ := Aside0.mk (blk_below (g := gb131) (o := .cells #[.string (⟨#[]⟩ : ByteArray), .int .i64 0, .bool false, .int .i64 0, .int .u64 0, .float .f64 0, .string (⟨#[]⟩ : ByteArray), .slice none 0 0] 39 (0, 0)) (by (with_reducible repeat (first | refine blk_drewN ?_ _ | refine blk_drew ?_ | refine blk_alloc ?_ _)); exact BK131.out) hb); have n1_ := Aside0.mk (below_step (by repeat (first | (with_reducible first | exact HB.out | apply below_alloc | apply pw_below_drewN | apply below_drew1 | refine below_set ?_ GE131.out) | exact HB.out)) hb); clear BK131; clear HB; have BK131 := n0_; have HB := n1_; clear n0_ n1_; (try clear hb); (try clear hb2); (try clear hk); (try clear hi); have hcz31_0 : w30.cell? ⟨gb131, 0, none⟩ = some (.string (⟨#[]⟩ : ByteArray)) := (blk_cell BK131.out 0).trans rfl; have hcz31_1 : w30.cell? ⟨gb131, 1, none⟩ = some (.int .i64 0) := (blk_cell BK131.out 1).trans rfl; have hcz31_2 : w30.cell? ⟨gb131, 2, none⟩ = some (.bool false) := (blk_cell BK131.out 2).trans rfl; have hcz31_3 : w30.cell? ⟨gb131, 3, none⟩ = some (.int .i64 0) := (blk_cell BK131.out 3).trans rfl; have hcz31_4 : w30.cell? ⟨gb131, 4, none⟩ = some (.int .u64 0) := (blk_cell BK131.out 4).trans rfl; have hcz31_5 : w30.cell? ⟨gb131, 5, none⟩ = some (.float .f64 0) := (blk_cell BK131.out 5).trans rfl; have hcz31_6 : w30.cell? ⟨gb131, 6, none⟩ = some (.string (⟨#[]⟩ : ByteArray)) := (blk_cell BK131.out 6).trans rfl; have hcz31_7 : w30.cell? ⟨gb131, 7, none⟩ = some (.slice none 0 0) := (blk_cell BK131.out 7).trans rfl; have hfz31_0 := blk_frozen BK131.out 0; have hfz31_1 := blk_frozen BK131.out 1; have hfz31_2 := blk_frozen BK131.out 2; have hfz31_3 := blk_frozen BK131.out 3; have hfz31_4 := blk_frozen BK131.out 4; have hfz31_5 := blk_frozen BK131.out 5; have hfz31_6 := blk_frozen BK131.out 6; have hfz31_7 := blk_frozen BK131.out 7))
    refine bodyPost_ret (results_ct rfl _ _ gb131 39 #[.string (⟨#[]⟩ : ByteArray), .int .i64 0, .bool false, .int .i64 0, .int .u64 0, .float .f64 0, .string (⟨#[]⟩ : ByteArray), .slice none 0 0] (0, 0) _ rfl (by (with_reducible repeat (first | refine blk_drewN ?_ _ | refine blk_drew ?_ | refine blk_alloc ?_ _)); refine blk_put (cs := #[.string (⟨#[]⟩ : ByteArray), .int .i64 0, .bool false, .int .i64 0, .int .u64 0, .float .f64 0, .string (⟨#[]⟩ : ByteArray), .slice none 0 0]) ?_ 7 _ rfl; (with_reducible repeat (first | refine blk_drewN ?_ _ | refine blk_drew ?_ | refine blk_alloc ?_ _)); refine blk_put (cs := #[.string (⟨#[]⟩ : ByteArray), .int .i64 0, .bool false, .int .i64 0, .int .u64 0, .float .f64 0, .string (⟨#[]⟩ : ByteArray), .slice none 0 0]) ?_ 6 _ rfl; (with_reducible repeat (first | refine blk_drewN ?_ _ | refine blk_drew ?_ | refine blk_alloc ?_ _)); refine blk_put (cs := #[.string (⟨#[]⟩ : ByteArray), .int .i64 0, .bool false, .int .i64 0, .int .u64 0, .float .f64 0, .string (⟨#[]⟩ : ByteArray), .slice none 0 0]) ?_ 5 _ rfl; (with_reducible repeat (first | refine blk_drewN ?_ _ | refine blk_drew ?_ | refine blk_alloc ?_ _)); refine blk_put (cs := #[.string (⟨#[]⟩ : ByteArray), .int .i64 0, .bool false, .int .i64 0, .int .u64 0, .float .f64 0, .string (⟨#[]⟩ : ByteArray), .slice none 0 0]) ?_ 4 _ rfl; (with_reducible repeat (first | refine blk_drewN ?_ _ | refine blk_drew ?_ | refine blk_alloc ?_ _)); refine blk_put (cs := #[.string (⟨#[]⟩ : ByteArray), .int .i64 0, .bool false, .int .i64 0, .int .u64 0, .float .f64 0, .string (⟨#[]⟩ : ByteArray), .slice none 0 0]) ?_ 3 _ rfl; (with_reducible repeat (first | refine blk_drewN ?_ _ | refine blk_drew ?_ | refine blk_alloc ?_ _)); refine blk_put (cs := #[.string (⟨#[]⟩ : ByteArray), .int .i64 0, .bool false, .int .i64 0, .int .u64 0, .float .f64 0, .string (⟨#[]⟩ : ByteArray), .slice none 0 0]) ?_ 2 _ rfl; (with_reducible repeat (first | refine blk_drewN ?_ _ | refine blk_drew ?_ | refine blk_alloc ?_ _)); refine blk_put (cs := #[.string (⟨#[]⟩ : ByteArray), .int .i64 0, .bool false, .int .i64 0, .int .u64 0, .float .f64 0, .string (⟨#[]⟩ : ByteArray), .slice none 0 0]) ?_ 1 _ rfl; (with_reducible repeat (first | refine blk_drewN ?_ _ | refine blk_drew ?_ | refine blk_alloc ?_ _)); refine blk_put (cs := #[.string (⟨#[]⟩ : ByteArray), .int .i64 0, .bool false, .int .i64 0, .int .u64 0, .float .f64 0, .string (⟨#[]⟩ : ByteArray), .slice none 0 0]) ?_ 0 _ rfl; (with_reducible repeat (first | refine blk_drewN ?_ _ | refine blk_drew ?_ | refine blk_alloc ?_ _)); exact BK131.out) Tryz.underlying39 rfl (by kernel_rfl)) rfl ?_
    exact ⟨_, by first | rfl | (simp [errW_none, errW_some] <;> rfl) | (simp [*, errW_none, errW_some] <;> rfl), Kd.N_V (base := 0) (by first | exact Kd.R_nil _ _ _ _ _ | exact Kd.N_nil _ _ _ _ _ | exact Kd.V_nil _ _ _ _ _ | exact Kd.Q_nil _ _ _ _ _ | exact Kd.S_nil _ _ _ _ _), by repeat (first | (with_reducible first | exact HB.out | apply below_alloc | apply pw_below_drewN | apply below_drew1 | refine below_set ?_ GE131.out) | exact HB.out)⟩

/-! ### spec_small: function 50 -/
def spec_small.l0 : Nat → Int → List Int → Int → Int → Option (Bool)
  | 0, _, _, _, _ => none
  | k + 1, x0, x7, x8, x9 => if x9 < x8 then (if 0 ≤ x9 then (if x9 < (x7.length : Int) then (if (rd x7 x9) ≥ x0 then (some false) else (spec_small.l0 k x0 x7 x8 (wrap64 (x9 + 1)))) else (none)) else (none)) else (some true)
def spec_small.f (k : Nat) (a0 : Int) (l1 : List Int) : Option (Bool) := spec_small.l0 k a0 l1 (l1.length : Int) 0
theorem spec_small.mono_l : ∀ k, (∀ y0 y1 y2 y3, LeO (spec_small.l0 k y0 y1 y2 y3) (spec_small.l0 (k + 1) y0 y1 y2 y3))
  | 0 => fun _ _ _ _ r h => by simp [spec_small.l0] at h
  | k + 1 => by
    have ih0 := spec_small.mono_l k
    · intro y0 y1 y2 y3
      unfold spec_small.l0
      repeat' first
      | (with_reducible exact ih0 _ _ _ _)
      | (with_reducible exact LeO.refl _)
      | (with_reducible exact LeO.none _)
      | (with_reducible refine LeO.ite ?_ ?_)
      | (with_reducible refine LeO.bind ?_ (fun _ => ?_))
      | exact ih0 _ _ _ _
      | exact LeO.none _
      | refine LeO.ite ?_ ?_
      | refine LeO.bind ?_ (fun _ => ?_)
theorem spec_small.mono : ∀ a0 a1 k, LeO (spec_small.f k a0 a1) (spec_small.f (k + 1) a0 a1) := by
  intro a0 a1 k
  have ih0 := spec_small.mono_l k
  unfold spec_small.f
  repeat' first
      | (with_reducible exact ih0 _ _ _ _)
      | (with_reducible exact LeO.refl _)
      | (with_reducible exact LeO.none _)
      | (with_reducible refine LeO.ite ?_ ?_)
      | (with_reducible refine LeO.bind ?_ (fun _ => ?_))
      | exact ih0 _ _ _ _
      | exact LeO.none _
      | refine LeO.ite ?_ ?_
      | refine LeO.bind ?_ (fun _ => ?_)
set_option maxHeartbeats 8000000 in
set_option maxRecDepth 100000 in
theorem spec_small.calls (k : Nat) (a0 : Int) (A1 : Option Addr) (c1 : Nat) (l1 : List Int) (r : Bool) (w : World) (hr1 : Kd.C (Kd.int .u64) w A1 l1.length l1) (hc1 : l1.length ≤ c1) (h : spec_small.f k a0 l1 = some r) :
    Calls Tryz.prog 50 #[.int .u64 a0, .slice A1 l1.length c1] w fun e w' => e = .returned (.bool r) ∧ Drawn0 w w' := by
  have HR1 := Aside0.mk hr1
  have HC1 := Aside0.mk hc1
  clear hr1 hc1
  have H : (spec_small.l0 k a0 l1 (l1.length : Int) 0) = some r := h
  clear h
  have H' := Aside0.mk H
  clear H
  go_enter Tryz.func50, Tryz.ntmps50
  go_wp2
  go_loopg [9] k (fun kq v9 w' => ∃ (x9_1 : Int), v9 = .int .i64 x9_1 ∧ Aside0 (spec_small.l0 kq a0 l1 (l1.length : Int) x9_1 = some r) ∧ Aside0 (kq ≤ k) ∧ Drawn0 w w')
  case atStart => exact ⟨(0), (by first | rfl | (simp; done) | (simp [*]; done)), H', ⟨Nat.le_refl _⟩, by repeat (first | exact Drawn0.refl _ | apply Drawn0.step)⟩
  case round =>
    clear H'
    try clear c1
    try clear p2
    obtain ⟨x9_1, rfl, HA, HK1, ⟨m1, rfl⟩⟩ := hrel
    cases gk with
    | zero => exact absurd HA.out (by simp [spec_small.l0])
    | succ k1 =>
      have H := HA.out
      clear HA
      simp only [spec_small.l0] at H
      by_cases c3 : x9_1 < (l1.length : Int)
      · rw [if_pos c3] at H
        have c3b0 : decide (x9_1 < (l1.length : Int)) = true := decide_eq_true c3
        clear c3
        replace H := guard_inv H
        obtain ⟨c4, H⟩ := H
        have c4b0 : decide (0 ≤ x9_1) = true := decide_eq_true c4
        clear c4
        replace H := guard_inv H
        obtain ⟨c5, H⟩ := H
        have c5b0 : decide (x9_1 < (l1.length : Int)) = true := decide_eq_true c5
        clear c5
        by_cases c6 : (rd l1 x9_1) ≥ a0
        · rw [if_pos c6] at H
          have c6b0 : decide (a0 ≤ (rd l1 x9_1)) = true := decide_eq_true c6
          clear c6
          obtain rfl := Option.some.inj H
          have p176 : 0 ≤ (x9_1 : Int) := of_decide_eq_true (by first | (with_reducible assumption) | assumption)
          have q176 : x9_1 < (l1.length : Int) := of_decide_eq_true (by first | (with_reducible assumption) | assumption)
          obtain ⟨ad176, e176, hx176_0⟩ := Kd.at_int HR1.out x9_1 p176 q176
          cases e176
          replace p176 := eq_true p176
          replace q176 := eq_true q176
          go_wp2
          go_ret
          exact ⟨by first | rfl | (simp; done) | (simp [*]; done), by repeat (first | exact Drawn0.refl _ | apply Drawn0.step)⟩
        · rw [if_neg c6] at H
          have c6b0 : decide (a0 ≤ (rd l1 x9_1)) = false := decide_eq_false c6
          clear c6
          have H' := Aside0.mk H
          clear H
          have p176 : 0 ≤ (x9_1 : Int) := of_decide_eq_true (by first | (with_reducible assumption) | assumption)
          have q176 : x9_1 < (l1.length : Int) := of_decide_eq_true (by first | (with_reducible assumption) | assumption)
          obtain ⟨ad176, e176, hx176_0⟩ := Kd.at_int HR1.out x9_1 p176 q176
          cases e176
          replace p176 := eq_true p176
          replace q176 := eq_true q176
          go_wp2
          go_roundg k1
          case measure => have := HK1.out; omega
          case rel => exact ⟨(wrap64 (x9_1 + 1)), (by first | rfl | (simp; done) | (simp [*]; done)), H', ⟨by have := HK1.out; omega⟩, by repeat (first | exact Drawn0.refl _ | apply Drawn0.step)⟩
      · rw [if_neg c3] at H
        have c3b0 : decide (x9_1 < (l1.length : Int)) = false := decide_eq_false c3
        clear c3
        obtain rfl := Option.some.inj H
        go_wp2
        go_ret
        exact ⟨by first | rfl | (simp; done) | (simp [*]; done), by repeat (first | exact Drawn0.refl _ | apply Drawn0.step)⟩

end Go.Proofs.YtednjmngalmdkaaGreatDoor.GPC
