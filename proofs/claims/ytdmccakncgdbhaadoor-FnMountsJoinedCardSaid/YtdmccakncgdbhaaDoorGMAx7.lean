-- printed by gprint.py (a session's own turn of the kit's print): MA
import Derived.Test.YtdmccakncgdbhaaDoorGMAx0
import Derived.Test.YtdmccakncgdbhaaDoorGMAx5
import Derived.Test.YtdmccakncgdbhaaDoorGMAx6
import Derived.Test.YtdmccakncgdbhaaDoorGivenMA
import Derived.Test.YtdmccakncgdbhaaDoorGivenMT
namespace Go.Proofs.YtdmccakncgdbhaaDoor.GMA
open Go.RowKit Go.Proofs.YtdmccakncgdbhaaDoorW.PrintWords Go.Proofs.YtdmccakncgdbhaaDoorW.PrintLast Go.Proofs.YtdmccakncgdbhaaDoorW.PrintMore
attribute [local go_sem] max2_int min2_int max_two min_two max_three min_three max_four min_four   -- for this text's walks alone
set_option linter.unusedVariables false
set_option linter.unusedSimpArgs false

/-! ### spec_MountsPrint: function 16 -/
def spec_MountsPrint.l0 : Nat → ByteArray → List (S58) → Int → Int → Option (ByteArray × Int)
  | 0, _, _, _, _ => none
  | k + 1, x4, x7, x8, x9 => if x9 < x8 then (if 0 ≤ x9 then (if x9 < (x7.length : Int) then ((spec_mountValid.f k ((rd_T58 x7 x9).f0) ((rd_T58 x7 x9).f1) ((rd_T58 x7 x9).f2) ((rd_T58 x7 x9).f3) ((rd_T58 x7 x9).f4) ((rd_T58 x7 x9).f5) ((rd_T58 x7 x9).f6) ((rd_T58 x7 x9).f7) ((rd_T58 x7 x9).f8) ((rd_T58 x7 x9).f9) ((rd_T58 x7 x9).f10)).bind fun t180 => (if t180 = true then ((spec_natural.f k ((rd_T58 x7 x9).f0)).bind fun t181 => (if t181.size + 1 ≤ 9223372036854775807 then ((spec_natural.f k ((rd_T58 x7 x9).f1)).bind fun t182 => (if (t181 ++ (⟨#[32]⟩ : ByteArray)).size + t182.size ≤ 9223372036854775807 then (if ((t181 ++ (⟨#[32]⟩ : ByteArray)) ++ t182).size + 1 ≤ 9223372036854775807 then ((spec_natural.f k ((rd_T58 x7 x9).f2)).bind fun t183 => (if (((t181 ++ (⟨#[32]⟩ : ByteArray)) ++ t182) ++ (⟨#[32]⟩ : ByteArray)).size + t183.size ≤ 9223372036854775807 then (if ((((t181 ++ (⟨#[32]⟩ : ByteArray)) ++ t182) ++ (⟨#[32]⟩ : ByteArray)) ++ t183).size + 1 ≤ 9223372036854775807 then ((spec_natural.f k ((rd_T58 x7 x9).f3)).bind fun t184 => (if (((((t181 ++ (⟨#[32]⟩ : ByteArray)) ++ t182) ++ (⟨#[32]⟩ : ByteArray)) ++ t183) ++ (⟨#[58]⟩ : ByteArray)).size + t184.size ≤ 9223372036854775807 then (if ((((((t181 ++ (⟨#[32]⟩ : ByteArray)) ++ t182) ++ (⟨#[32]⟩ : ByteArray)) ++ t183) ++ (⟨#[58]⟩ : ByteArray)) ++ t184).size + 1 ≤ 9223372036854775807 then ((spec_octal.f k ((rd_T58 x7 x9).f4)).bind fun t185 => (if (((((((t181 ++ (⟨#[32]⟩ : ByteArray)) ++ t182) ++ (⟨#[32]⟩ : ByteArray)) ++ t183) ++ (⟨#[58]⟩ : ByteArray)) ++ t184) ++ (⟨#[32]⟩ : ByteArray)).size + t185.size ≤ 9223372036854775807 then (if ((((((((t181 ++ (⟨#[32]⟩ : ByteArray)) ++ t182) ++ (⟨#[32]⟩ : ByteArray)) ++ t183) ++ (⟨#[58]⟩ : ByteArray)) ++ t184) ++ (⟨#[32]⟩ : ByteArray)) ++ t185).size + 1 ≤ 9223372036854775807 then ((spec_octal.f k ((rd_T58 x7 x9).f5)).bind fun t186 => (if (((((((((t181 ++ (⟨#[32]⟩ : ByteArray)) ++ t182) ++ (⟨#[32]⟩ : ByteArray)) ++ t183) ++ (⟨#[58]⟩ : ByteArray)) ++ t184) ++ (⟨#[32]⟩ : ByteArray)) ++ t185) ++ (⟨#[32]⟩ : ByteArray)).size + t186.size ≤ 9223372036854775807 then (if ((((((((((t181 ++ (⟨#[32]⟩ : ByteArray)) ++ t182) ++ (⟨#[32]⟩ : ByteArray)) ++ t183) ++ (⟨#[58]⟩ : ByteArray)) ++ t184) ++ (⟨#[32]⟩ : ByteArray)) ++ t185) ++ (⟨#[32]⟩ : ByteArray)) ++ t186).size + 1 ≤ 9223372036854775807 then (if (((((((((((t181 ++ (⟨#[32]⟩ : ByteArray)) ++ t182) ++ (⟨#[32]⟩ : ByteArray)) ++ t183) ++ (⟨#[58]⟩ : ByteArray)) ++ t184) ++ (⟨#[32]⟩ : ByteArray)) ++ t185) ++ (⟨#[32]⟩ : ByteArray)) ++ t186) ++ (⟨#[32]⟩ : ByteArray)).size + ((rd_T58 x7 x9).f6).size ≤ 9223372036854775807 then (if x4.size + ((((((((((((t181 ++ (⟨#[32]⟩ : ByteArray)) ++ t182) ++ (⟨#[32]⟩ : ByteArray)) ++ t183) ++ (⟨#[58]⟩ : ByteArray)) ++ t184) ++ (⟨#[32]⟩ : ByteArray)) ++ t185) ++ (⟨#[32]⟩ : ByteArray)) ++ t186) ++ (⟨#[32]⟩ : ByteArray)) ++ ((rd_T58 x7 x9).f6)).size ≤ 9223372036854775807 then (if ((rd_T58 x7 x9).f7).toList = ([] : List UInt8) then (if 3 + ((rd_T58 x7 x9).f8).size ≤ 9223372036854775807 then (if ((⟨#[32, 45, 32]⟩ : ByteArray) ++ ((rd_T58 x7 x9).f8)).size + 1 ≤ 9223372036854775807 then ((spec_octal.f k ((rd_T58 x7 x9).f9)).bind fun t187 => (if (((⟨#[32, 45, 32]⟩ : ByteArray) ++ ((rd_T58 x7 x9).f8)) ++ (⟨#[32]⟩ : ByteArray)).size + t187.size ≤ 9223372036854775807 then (if ((((⟨#[32, 45, 32]⟩ : ByteArray) ++ ((rd_T58 x7 x9).f8)) ++ (⟨#[32]⟩ : ByteArray)) ++ t187).size + 1 ≤ 9223372036854775807 then (if (((((⟨#[32, 45, 32]⟩ : ByteArray) ++ ((rd_T58 x7 x9).f8)) ++ (⟨#[32]⟩ : ByteArray)) ++ t187) ++ (⟨#[32]⟩ : ByteArray)).size + ((rd_T58 x7 x9).f10).size ≤ 9223372036854775807 then (if ((((((⟨#[32, 45, 32]⟩ : ByteArray) ++ ((rd_T58 x7 x9).f8)) ++ (⟨#[32]⟩ : ByteArray)) ++ t187) ++ (⟨#[32]⟩ : ByteArray)) ++ ((rd_T58 x7 x9).f10)).size + 1 ≤ 9223372036854775807 then (if (x4 ++ ((((((((((((t181 ++ (⟨#[32]⟩ : ByteArray)) ++ t182) ++ (⟨#[32]⟩ : ByteArray)) ++ t183) ++ (⟨#[58]⟩ : ByteArray)) ++ t184) ++ (⟨#[32]⟩ : ByteArray)) ++ t185) ++ (⟨#[32]⟩ : ByteArray)) ++ t186) ++ (⟨#[32]⟩ : ByteArray)) ++ ((rd_T58 x7 x9).f6))).size + (((((((⟨#[32, 45, 32]⟩ : ByteArray) ++ ((rd_T58 x7 x9).f8)) ++ (⟨#[32]⟩ : ByteArray)) ++ t187) ++ (⟨#[32]⟩ : ByteArray)) ++ ((rd_T58 x7 x9).f10)) ++ (⟨#[10]⟩ : ByteArray)).size ≤ 9223372036854775807 then (spec_MountsPrint.l0 k ((x4 ++ ((((((((((((t181 ++ (⟨#[32]⟩ : ByteArray)) ++ t182) ++ (⟨#[32]⟩ : ByteArray)) ++ t183) ++ (⟨#[58]⟩ : ByteArray)) ++ t184) ++ (⟨#[32]⟩ : ByteArray)) ++ t185) ++ (⟨#[32]⟩ : ByteArray)) ++ t186) ++ (⟨#[32]⟩ : ByteArray)) ++ ((rd_T58 x7 x9).f6))) ++ (((((((⟨#[32, 45, 32]⟩ : ByteArray) ++ ((rd_T58 x7 x9).f8)) ++ (⟨#[32]⟩ : ByteArray)) ++ t187) ++ (⟨#[32]⟩ : ByteArray)) ++ ((rd_T58 x7 x9).f10)) ++ (⟨#[10]⟩ : ByteArray))) x7 x8 (wrap64 (x9 + 1))) else (none)) else (none)) else (none)) else (none)) else (none))) else (none)) else (none)) else (if 1 + ((rd_T58 x7 x9).f7).size ≤ 9223372036854775807 then (if (x4 ++ ((((((((((((t181 ++ (⟨#[32]⟩ : ByteArray)) ++ t182) ++ (⟨#[32]⟩ : ByteArray)) ++ t183) ++ (⟨#[58]⟩ : ByteArray)) ++ t184) ++ (⟨#[32]⟩ : ByteArray)) ++ t185) ++ (⟨#[32]⟩ : ByteArray)) ++ t186) ++ (⟨#[32]⟩ : ByteArray)) ++ ((rd_T58 x7 x9).f6))).size + ((⟨#[32]⟩ : ByteArray) ++ ((rd_T58 x7 x9).f7)).size ≤ 9223372036854775807 then (if 3 + ((rd_T58 x7 x9).f8).size ≤ 9223372036854775807 then (if ((⟨#[32, 45, 32]⟩ : ByteArray) ++ ((rd_T58 x7 x9).f8)).size + 1 ≤ 9223372036854775807 then ((spec_octal.f k ((rd_T58 x7 x9).f9)).bind fun t188 => (if (((⟨#[32, 45, 32]⟩ : ByteArray) ++ ((rd_T58 x7 x9).f8)) ++ (⟨#[32]⟩ : ByteArray)).size + t188.size ≤ 9223372036854775807 then (if ((((⟨#[32, 45, 32]⟩ : ByteArray) ++ ((rd_T58 x7 x9).f8)) ++ (⟨#[32]⟩ : ByteArray)) ++ t188).size + 1 ≤ 9223372036854775807 then (if (((((⟨#[32, 45, 32]⟩ : ByteArray) ++ ((rd_T58 x7 x9).f8)) ++ (⟨#[32]⟩ : ByteArray)) ++ t188) ++ (⟨#[32]⟩ : ByteArray)).size + ((rd_T58 x7 x9).f10).size ≤ 9223372036854775807 then (if ((((((⟨#[32, 45, 32]⟩ : ByteArray) ++ ((rd_T58 x7 x9).f8)) ++ (⟨#[32]⟩ : ByteArray)) ++ t188) ++ (⟨#[32]⟩ : ByteArray)) ++ ((rd_T58 x7 x9).f10)).size + 1 ≤ 9223372036854775807 then (if ((x4 ++ ((((((((((((t181 ++ (⟨#[32]⟩ : ByteArray)) ++ t182) ++ (⟨#[32]⟩ : ByteArray)) ++ t183) ++ (⟨#[58]⟩ : ByteArray)) ++ t184) ++ (⟨#[32]⟩ : ByteArray)) ++ t185) ++ (⟨#[32]⟩ : ByteArray)) ++ t186) ++ (⟨#[32]⟩ : ByteArray)) ++ ((rd_T58 x7 x9).f6))) ++ ((⟨#[32]⟩ : ByteArray) ++ ((rd_T58 x7 x9).f7))).size + (((((((⟨#[32, 45, 32]⟩ : ByteArray) ++ ((rd_T58 x7 x9).f8)) ++ (⟨#[32]⟩ : ByteArray)) ++ t188) ++ (⟨#[32]⟩ : ByteArray)) ++ ((rd_T58 x7 x9).f10)) ++ (⟨#[10]⟩ : ByteArray)).size ≤ 9223372036854775807 then (spec_MountsPrint.l0 k (((x4 ++ ((((((((((((t181 ++ (⟨#[32]⟩ : ByteArray)) ++ t182) ++ (⟨#[32]⟩ : ByteArray)) ++ t183) ++ (⟨#[58]⟩ : ByteArray)) ++ t184) ++ (⟨#[32]⟩ : ByteArray)) ++ t185) ++ (⟨#[32]⟩ : ByteArray)) ++ t186) ++ (⟨#[32]⟩ : ByteArray)) ++ ((rd_T58 x7 x9).f6))) ++ ((⟨#[32]⟩ : ByteArray) ++ ((rd_T58 x7 x9).f7))) ++ (((((((⟨#[32, 45, 32]⟩ : ByteArray) ++ ((rd_T58 x7 x9).f8)) ++ (⟨#[32]⟩ : ByteArray)) ++ t188) ++ (⟨#[32]⟩ : ByteArray)) ++ ((rd_T58 x7 x9).f10)) ++ (⟨#[10]⟩ : ByteArray))) x7 x8 (wrap64 (x9 + 1))) else (none)) else (none)) else (none)) else (none)) else (none))) else (none)) else (none)) else (none)) else (none))) else (none)) else (none)) else (none)) else (none))) else (none)) else (none))) else (none)) else (none))) else (none)) else (none))) else (none)) else (none))) else (none))) else (some ((⟨#[]⟩ : ByteArray), 2)))) else (none)) else (none)) else (some (x4, 1))
def spec_MountsPrint.f (k : Nat) (l0 : List (S58)) : Option (ByteArray × Int) := spec_MountsPrint.l0 k (⟨#[]⟩ : ByteArray) l0 (l0.length : Int) 0
theorem spec_MountsPrint.mono_l : ∀ k, (∀ y0 y1 y2 y3, LeO (spec_MountsPrint.l0 k y0 y1 y2 y3) (spec_MountsPrint.l0 (k + 1) y0 y1 y2 y3))
  | 0 => fun _ _ _ _ r h => by simp [spec_MountsPrint.l0] at h
  | k + 1 => by
    have ih0 := spec_MountsPrint.mono_l k
    · intro y0 y1 y2 y3
      unfold spec_MountsPrint.l0
      repeat' first
      | (with_reducible exact ih0 _ _ _ _)
      | (with_reducible exact spec_mountValid.mono _ _ _ _ _ _ _ _ _ _ _ _)
      | (with_reducible exact spec_natural.mono _ _)
      | (with_reducible exact spec_octal.mono _ _)
      | (with_reducible exact LeO.refl _)
      | (with_reducible exact LeO.none _)
      | (with_reducible refine LeO.ite ?_ ?_)
      | (with_reducible refine LeO.bind ?_ (fun _ => ?_))
      | exact ih0 _ _ _ _
      | exact spec_mountValid.mono _ _ _ _ _ _ _ _ _ _ _ _
      | exact spec_natural.mono _ _
      | exact spec_octal.mono _ _
      | exact LeO.none _
      | refine LeO.ite ?_ ?_
      | refine LeO.bind ?_ (fun _ => ?_)
theorem spec_MountsPrint.mono : ∀ a0 k, LeO (spec_MountsPrint.f k a0) (spec_MountsPrint.f (k + 1) a0) := by
  intro a0 k
  have ih0 := spec_MountsPrint.mono_l k
  unfold spec_MountsPrint.f
  repeat' first
      | (with_reducible exact ih0 _ _ _ _)
      | (with_reducible exact spec_mountValid.mono _ _ _ _ _ _ _ _ _ _ _ _)
      | (with_reducible exact spec_natural.mono _ _)
      | (with_reducible exact spec_octal.mono _ _)
      | (with_reducible exact LeO.refl _)
      | (with_reducible exact LeO.none _)
      | (with_reducible refine LeO.ite ?_ ?_)
      | (with_reducible refine LeO.bind ?_ (fun _ => ?_))
      | exact ih0 _ _ _ _
      | exact spec_mountValid.mono _ _ _ _ _ _ _ _ _ _ _ _
      | exact spec_natural.mono _ _
      | exact spec_octal.mono _ _
      | exact LeO.none _
      | refine LeO.ite ?_ ?_
      | refine LeO.bind ?_ (fun _ => ?_)
def spec_MountsPrint.T7 : Bool × List (List Nat × List Nat) := (true, [([], []), ([], []), ([1], [1]), ([2], [2]), ([3], [3]), ([], []), ([5], [5]), ([6, 3], [6]), ([4, 7], [4, 7]), ([8], [8]), ([], []), ([10], [10]), ([11, 7], [11]), ([9, 12], [9, 12]), ([13], [13]), ([], []), ([15], [15]), ([16, 12], [16]), ([14, 17], [14, 17]), ([18], [18]), ([], []), ([20], [20]), ([21, 17], [21]), ([19, 22], [19, 22]), ([23], [23]), ([], []), ([25], [25]), ([26, 22], [26]), ([24, 27], [24, 27]), ([28], [28]), ([], []), ([30], [30]), ([29, 31], [29, 31]), ([0, 32], [0, 32]), ([33, 27, 0, 1, 2, 3, 4, 5, 6, 7, 8, 9, 10, 11, 12, 13, 14, 15, 16, 17, 18, 19, 20, 21, 22, 23, 24, 25, 26, 27, 28, 29, 30, 31, 32, 33], [0, 33])])
def spec_MountsPrint.B7 : List Nat := [0, 0, 2, 6, 14, 0, 32, 110, 254, 510, 0, 1024, 3310, 8190, 16382, 0, 32768, 105710, 262142, 524286, 0, 1048576, 3382510, 8388606, 16777214, 0, 33554432, 108240110, 268435454, 536870910, 0, 1073741824, 4294967294, 8589934591, 17179869183]
theorem spec_MountsPrint.tab7 : rtab .any (opsOf Tryd.f16 7) = spec_MountsPrint.T7 := by kernel_rfl
theorem spec_MountsPrint.bits7 : waitsOk spec_MountsPrint.T7.2 spec_MountsPrint.B7 = true := by kernel_rfl
def spec_MountsPrint.T10 : Bool × List (List Nat × List Nat) := (true, [([], []), ([], []), ([1], [1]), ([2], [2]), ([3], [3]), ([], []), ([5], [5]), ([6], [6]), ([4, 7], [4, 7]), ([8], [8]), ([], []), ([10], [10]), ([9, 11], [9, 11]), ([12], [12]), ([0, 13], [0, 13]), ([14, 7, 0, 1, 2, 3, 4, 5, 6, 7, 8, 9, 10, 11, 12, 13, 14], [0, 14])])
def spec_MountsPrint.B10 : List Nat := [0, 0, 2, 6, 14, 0, 32, 96, 254, 510, 0, 1024, 4094, 8190, 16383, 32767]
theorem spec_MountsPrint.tab10 : rtab .any (opsOf Tryd.f16 10) = spec_MountsPrint.T10 := by kernel_rfl
theorem spec_MountsPrint.bits10 : waitsOk spec_MountsPrint.T10.2 spec_MountsPrint.B10 = true := by kernel_rfl
set_option maxHeartbeats 8000000 in
set_option maxRecDepth 100000 in
theorem spec_MountsPrint.calls (k : Nat) (A0 : Option Addr) (c0 : Nat) (l0 : List (S58)) (r1 : ByteArray) (r2 : Int) (w : World) (hr0 : Kd.C k58 w A0 l0.length l0) (hc0 : l0.length ≤ c0) (h : spec_MountsPrint.f k l0 = some (r1, r2)) :
    Calls Tryd.prog 16 #[.slice A0 l0.length c0] w fun e w' => e = .returned (.tuple #[.string r1, .int .i64 r2]) ∧ Below w.heap.size w w' := by
  have hu58 := Tryd.underlying58
  have HR0 := Aside0.mk hr0
  have HC0 := Aside0.mk hc0
  clear hr0 hc0
  have HB := Aside0.mk (Below.refl w.heap.size w)
  have H : (spec_MountsPrint.l0 k (⟨#[]⟩ : ByteArray) l0 (l0.length : Int) 0) = some (r1, r2) := h
  clear h
  have H' := Aside0.mk H
  clear H
  go_enter Tryd.func16, Tryd.ntmps16
  go_wp2
  go_loopg [4, 9] k (fun kq v4 v9 w' => ∃ (x4_1 : ByteArray) (x9_1 : Int), v4 = .string x4_1 ∧ v9 = .int .i64 x9_1 ∧ Aside0 (spec_MountsPrint.l0 kq x4_1 l0 (l0.length : Int) x9_1 = some (r1, r2)) ∧ Aside0 (kq ≤ k) ∧ Aside0 (Below w.heap.size w w'))
  case atStart => exact ⟨((⟨#[]⟩ : ByteArray)), (0), (by first | rfl | (simp; done) | (simp [*]; done)), (by first | rfl | (simp; done) | (simp [*]; done)), H', ⟨Nat.le_refl _⟩, ⟨by repeat (first | (with_reducible first | exact HB.out | apply below_alloc | apply pw_below_drewN | apply below_drew1) | exact HB.out)⟩⟩
  case round =>
    clear H'
    try clear c1
    obtain ⟨x4_1, x9_1, rfl, rfl, HA, HK1, HB⟩ := hrel
    cases gk with
    | zero => exact absurd HA.out (by simp [spec_MountsPrint.l0])
    | succ k1 =>
      have H := HA.out
      clear HA
      simp only [spec_MountsPrint.l0] at H
      by_cases c2 : x9_1 < (l0.length : Int)
      · rw [if_pos c2] at H
        have c2b0 : decide (x9_1 < (l0.length : Int)) = true := decide_eq_true c2
        clear c2
        replace H := guard_inv H
        obtain ⟨c3, H⟩ := H
        have c3b0 : decide (0 ≤ x9_1) = true := decide_eq_true c3
        clear c3
        replace H := guard_inv H
        obtain ⟨c4, H⟩ := H
        have c4b0 : decide (x9_1 < (l0.length : Int)) = true := decide_eq_true c4
        clear c4
        replace H := Option.bind_eq_some_iff.mp H
        obtain ⟨t180, A50, H⟩ := H
        try dsimp -simprocs only at H
        have A5 := Aside0.mk A50
        clear A50
        by_cases c6 : t180 = true
        · subst c6
          have H1 : ((spec_natural.f k1 ((rd_T58 l0 x9_1).f0)).bind fun t181 => (if t181.size + 1 ≤ 9223372036854775807 then ((spec_natural.f k1 ((rd_T58 l0 x9_1).f1)).bind fun t182 => (if (t181 ++ (⟨#[32]⟩ : ByteArray)).size + t182.size ≤ 9223372036854775807 then (if ((t181 ++ (⟨#[32]⟩ : ByteArray)) ++ t182).size + 1 ≤ 9223372036854775807 then ((spec_natural.f k1 ((rd_T58 l0 x9_1).f2)).bind fun t183 => (if (((t181 ++ (⟨#[32]⟩ : ByteArray)) ++ t182) ++ (⟨#[32]⟩ : ByteArray)).size + t183.size ≤ 9223372036854775807 then (if ((((t181 ++ (⟨#[32]⟩ : ByteArray)) ++ t182) ++ (⟨#[32]⟩ : ByteArray)) ++ t183).size + 1 ≤ 9223372036854775807 then ((spec_natural.f k1 ((rd_T58 l0 x9_1).f3)).bind fun t184 => (if (((((t181 ++ (⟨#[32]⟩ : ByteArray)) ++ t182) ++ (⟨#[32]⟩ : ByteArray)) ++ t183) ++ (⟨#[58]⟩ : ByteArray)).size + t184.size ≤ 9223372036854775807 then (if ((((((t181 ++ (⟨#[32]⟩ : ByteArray)) ++ t182) ++ (⟨#[32]⟩ : ByteArray)) ++ t183) ++ (⟨#[58]⟩ : ByteArray)) ++ t184).size + 1 ≤ 9223372036854775807 then ((spec_octal.f k1 ((rd_T58 l0 x9_1).f4)).bind fun t185 => (if (((((((t181 ++ (⟨#[32]⟩ : ByteArray)) ++ t182) ++ (⟨#[32]⟩ : ByteArray)) ++ t183) ++ (⟨#[58]⟩ : ByteArray)) ++ t184) ++ (⟨#[32]⟩ : ByteArray)).size + t185.size ≤ 9223372036854775807 then (if ((((((((t181 ++ (⟨#[32]⟩ : ByteArray)) ++ t182) ++ (⟨#[32]⟩ : ByteArray)) ++ t183) ++ (⟨#[58]⟩ : ByteArray)) ++ t184) ++ (⟨#[32]⟩ : ByteArray)) ++ t185).size + 1 ≤ 9223372036854775807 then ((spec_octal.f k1 ((rd_T58 l0 x9_1).f5)).bind fun t186 => (if (((((((((t181 ++ (⟨#[32]⟩ : ByteArray)) ++ t182) ++ (⟨#[32]⟩ : ByteArray)) ++ t183) ++ (⟨#[58]⟩ : ByteArray)) ++ t184) ++ (⟨#[32]⟩ : ByteArray)) ++ t185) ++ (⟨#[32]⟩ : ByteArray)).size + t186.size ≤ 9223372036854775807 then (if ((((((((((t181 ++ (⟨#[32]⟩ : ByteArray)) ++ t182) ++ (⟨#[32]⟩ : ByteArray)) ++ t183) ++ (⟨#[58]⟩ : ByteArray)) ++ t184) ++ (⟨#[32]⟩ : ByteArray)) ++ t185) ++ (⟨#[32]⟩ : ByteArray)) ++ t186).size + 1 ≤ 9223372036854775807 then (if (((((((((((t181 ++ (⟨#[32]⟩ : ByteArray)) ++ t182) ++ (⟨#[32]⟩ : ByteArray)) ++ t183) ++ (⟨#[58]⟩ : ByteArray)) ++ t184) ++ (⟨#[32]⟩ : ByteArray)) ++ t185) ++ (⟨#[32]⟩ : ByteArray)) ++ t186) ++ (⟨#[32]⟩ : ByteArray)).size + ((rd_T58 l0 x9_1).f6).size ≤ 9223372036854775807 then (if x4_1.size + ((((((((((((t181 ++ (⟨#[32]⟩ : ByteArray)) ++ t182) ++ (⟨#[32]⟩ : ByteArray)) ++ t183) ++ (⟨#[58]⟩ : ByteArray)) ++ t184) ++ (⟨#[32]⟩ : ByteArray)) ++ t185) ++ (⟨#[32]⟩ : ByteArray)) ++ t186) ++ (⟨#[32]⟩ : ByteArray)) ++ ((rd_T58 l0 x9_1).f6)).size ≤ 9223372036854775807 then (if ((rd_T58 l0 x9_1).f7).toList = ([] : List UInt8) then (if 3 + ((rd_T58 l0 x9_1).f8).size ≤ 9223372036854775807 then (if ((⟨#[32, 45, 32]⟩ : ByteArray) ++ ((rd_T58 l0 x9_1).f8)).size + 1 ≤ 9223372036854775807 then ((spec_octal.f k1 ((rd_T58 l0 x9_1).f9)).bind fun t187 => (if (((⟨#[32, 45, 32]⟩ : ByteArray) ++ ((rd_T58 l0 x9_1).f8)) ++ (⟨#[32]⟩ : ByteArray)).size + t187.size ≤ 9223372036854775807 then (if ((((⟨#[32, 45, 32]⟩ : ByteArray) ++ ((rd_T58 l0 x9_1).f8)) ++ (⟨#[32]⟩ : ByteArray)) ++ t187).size + 1 ≤ 9223372036854775807 then (if (((((⟨#[32, 45, 32]⟩ : ByteArray) ++ ((rd_T58 l0 x9_1).f8)) ++ (⟨#[32]⟩ : ByteArray)) ++ t187) ++ (⟨#[32]⟩ : ByteArray)).size + ((rd_T58 l0 x9_1).f10).size ≤ 9223372036854775807 then (if ((((((⟨#[32, 45, 32]⟩ : ByteArray) ++ ((rd_T58 l0 x9_1).f8)) ++ (⟨#[32]⟩ : ByteArray)) ++ t187) ++ (⟨#[32]⟩ : ByteArray)) ++ ((rd_T58 l0 x9_1).f10)).size + 1 ≤ 9223372036854775807 then (if (x4_1 ++ ((((((((((((t181 ++ (⟨#[32]⟩ : ByteArray)) ++ t182) ++ (⟨#[32]⟩ : ByteArray)) ++ t183) ++ (⟨#[58]⟩ : ByteArray)) ++ t184) ++ (⟨#[32]⟩ : ByteArray)) ++ t185) ++ (⟨#[32]⟩ : ByteArray)) ++ t186) ++ (⟨#[32]⟩ : ByteArray)) ++ ((rd_T58 l0 x9_1).f6))).size + (((((((⟨#[32, 45, 32]⟩ : ByteArray) ++ ((rd_T58 l0 x9_1).f8)) ++ (⟨#[32]⟩ : ByteArray)) ++ t187) ++ (⟨#[32]⟩ : ByteArray)) ++ ((rd_T58 l0 x9_1).f10)) ++ (⟨#[10]⟩ : ByteArray)).size ≤ 9223372036854775807 then (spec_MountsPrint.l0 k1 ((x4_1 ++ ((((((((((((t181 ++ (⟨#[32]⟩ : ByteArray)) ++ t182) ++ (⟨#[32]⟩ : ByteArray)) ++ t183) ++ (⟨#[58]⟩ : ByteArray)) ++ t184) ++ (⟨#[32]⟩ : ByteArray)) ++ t185) ++ (⟨#[32]⟩ : ByteArray)) ++ t186) ++ (⟨#[32]⟩ : ByteArray)) ++ ((rd_T58 l0 x9_1).f6))) ++ (((((((⟨#[32, 45, 32]⟩ : ByteArray) ++ ((rd_T58 l0 x9_1).f8)) ++ (⟨#[32]⟩ : ByteArray)) ++ t187) ++ (⟨#[32]⟩ : ByteArray)) ++ ((rd_T58 l0 x9_1).f10)) ++ (⟨#[10]⟩ : ByteArray))) l0 (l0.length : Int) (wrap64 (x9_1 + 1))) else (none)) else (none)) else (none)) else (none)) else (none))) else (none)) else (none)) else (if 1 + ((rd_T58 l0 x9_1).f7).size ≤ 9223372036854775807 then (if (x4_1 ++ ((((((((((((t181 ++ (⟨#[32]⟩ : ByteArray)) ++ t182) ++ (⟨#[32]⟩ : ByteArray)) ++ t183) ++ (⟨#[58]⟩ : ByteArray)) ++ t184) ++ (⟨#[32]⟩ : ByteArray)) ++ t185) ++ (⟨#[32]⟩ : ByteArray)) ++ t186) ++ (⟨#[32]⟩ : ByteArray)) ++ ((rd_T58 l0 x9_1).f6))).size + ((⟨#[32]⟩ : ByteArray) ++ ((rd_T58 l0 x9_1).f7)).size ≤ 9223372036854775807 then (if 3 + ((rd_T58 l0 x9_1).f8).size ≤ 9223372036854775807 then (if ((⟨#[32, 45, 32]⟩ : ByteArray) ++ ((rd_T58 l0 x9_1).f8)).size + 1 ≤ 9223372036854775807 then ((spec_octal.f k1 ((rd_T58 l0 x9_1).f9)).bind fun t188 => (if (((⟨#[32, 45, 32]⟩ : ByteArray) ++ ((rd_T58 l0 x9_1).f8)) ++ (⟨#[32]⟩ : ByteArray)).size + t188.size ≤ 9223372036854775807 then (if ((((⟨#[32, 45, 32]⟩ : ByteArray) ++ ((rd_T58 l0 x9_1).f8)) ++ (⟨#[32]⟩ : ByteArray)) ++ t188).size + 1 ≤ 9223372036854775807 then (if (((((⟨#[32, 45, 32]⟩ : ByteArray) ++ ((rd_T58 l0 x9_1).f8)) ++ (⟨#[32]⟩ : ByteArray)) ++ t188) ++ (⟨#[32]⟩ : ByteArray)).size + ((rd_T58 l0 x9_1).f10).size ≤ 9223372036854775807 then (if ((((((⟨#[32, 45, 32]⟩ : ByteArray) ++ ((rd_T58 l0 x9_1).f8)) ++ (⟨#[32]⟩ : ByteArray)) ++ t188) ++ (⟨#[32]⟩ : ByteArray)) ++ ((rd_T58 l0 x9_1).f10)).size + 1 ≤ 9223372036854775807 then (if ((x4_1 ++ ((((((((((((t181 ++ (⟨#[32]⟩ : ByteArray)) ++ t182) ++ (⟨#[32]⟩ : ByteArray)) ++ t183) ++ (⟨#[58]⟩ : ByteArray)) ++ t184) ++ (⟨#[32]⟩ : ByteArray)) ++ t185) ++ (⟨#[32]⟩ : ByteArray)) ++ t186) ++ (⟨#[32]⟩ : ByteArray)) ++ ((rd_T58 l0 x9_1).f6))) ++ ((⟨#[32]⟩ : ByteArray) ++ ((rd_T58 l0 x9_1).f7))).size + (((((((⟨#[32, 45, 32]⟩ : ByteArray) ++ ((rd_T58 l0 x9_1).f8)) ++ (⟨#[32]⟩ : ByteArray)) ++ t188) ++ (⟨#[32]⟩ : ByteArray)) ++ ((rd_T58 l0 x9_1).f10)) ++ (⟨#[10]⟩ : ByteArray)).size ≤ 9223372036854775807 then (spec_MountsPrint.l0 k1 (((x4_1 ++ ((((((((((((t181 ++ (⟨#[32]⟩ : ByteArray)) ++ t182) ++ (⟨#[32]⟩ : ByteArray)) ++ t183) ++ (⟨#[58]⟩ : ByteArray)) ++ t184) ++ (⟨#[32]⟩ : ByteArray)) ++ t185) ++ (⟨#[32]⟩ : ByteArray)) ++ t186) ++ (⟨#[32]⟩ : ByteArray)) ++ ((rd_T58 l0 x9_1).f6))) ++ ((⟨#[32]⟩ : ByteArray) ++ ((rd_T58 l0 x9_1).f7))) ++ (((((((⟨#[32, 45, 32]⟩ : ByteArray) ++ ((rd_T58 l0 x9_1).f8)) ++ (⟨#[32]⟩ : ByteArray)) ++ t188) ++ (⟨#[32]⟩ : ByteArray)) ++ ((rd_T58 l0 x9_1).f10)) ++ (⟨#[10]⟩ : ByteArray))) l0 (l0.length : Int) (wrap64 (x9_1 + 1))) else (none)) else (none)) else (none)) else (none)) else (none))) else (none)) else (none)) else (none)) else (none))) else (none)) else (none)) else (none)) else (none))) else (none)) else (none))) else (none)) else (none))) else (none)) else (none))) else (none)) else (none))) else (none))) = some (r1, r2) := by rw [if_pos rfl] at H; exact H
          clear H
          have H := H1
          clear H1
          replace H := Option.bind_eq_some_iff.mp H
          obtain ⟨t181, A70, H⟩ := H
          try dsimp -simprocs only at H
          have A7 := Aside0.mk A70
          clear A70
          replace H := guard_inv H
          obtain ⟨c8, H⟩ := H
          have c8b0 := eq_true c8
          have c8b1 := decide_eq_true c8
          try have c8b2 := eq_false (Nat.not_lt.2 c8)
          replace H := Option.bind_eq_some_iff.mp H
          obtain ⟨t182, A90, H⟩ := H
          try dsimp -simprocs only at H
          have A9 := Aside0.mk A90
          clear A90
          replace H := guard_inv H
          obtain ⟨c10, H⟩ := H
          have c10b0 := eq_true c10
          have c10b1 := decide_eq_true c10
          try have c10b2 := eq_false (Nat.not_lt.2 c10)
          try have c10b5 : (9223372036854775807 < t181.size + 1 + t182.size) = False := by have e_ := c10b2; (repeat rw [ByteArray.size_append] at e_); exact e_
          replace H := guard_inv H
          obtain ⟨c11, H⟩ := H
          have c11b0 := eq_true c11
          have c11b1 := decide_eq_true c11
          try have c11b2 := eq_false (Nat.not_lt.2 c11)
          try have c11b5 : (9223372036854775807 < t181.size + 1 + t182.size + 1) = False := by have e_ := c11b2; (repeat rw [ByteArray.size_append] at e_); exact e_
          replace H := Option.bind_eq_some_iff.mp H
          obtain ⟨t183, A120, H⟩ := H
          try dsimp -simprocs only at H
          have A12 := Aside0.mk A120
          clear A120
          replace H := guard_inv H
          obtain ⟨c13, H⟩ := H
          have c13b0 := eq_true c13
          have c13b1 := decide_eq_true c13
          try have c13b2 := eq_false (Nat.not_lt.2 c13)
          try have c13b5 : (9223372036854775807 < t181.size + 1 + t182.size + 1 + t183.size) = False := by have e_ := c13b2; (repeat rw [ByteArray.size_append] at e_); exact e_
          replace H := guard_inv H
          obtain ⟨c14, H⟩ := H
          have c14b0 := eq_true c14
          have c14b1 := decide_eq_true c14
          try have c14b2 := eq_false (Nat.not_lt.2 c14)
          try have c14b5 : (9223372036854775807 < t181.size + 1 + t182.size + 1 + t183.size + 1) = False := by have e_ := c14b2; (repeat rw [ByteArray.size_append] at e_); exact e_
          replace H := Option.bind_eq_some_iff.mp H
          obtain ⟨t184, A150, H⟩ := H
          try dsimp -simprocs only at H
          have A15 := Aside0.mk A150
          clear A150
          replace H := guard_inv H
          obtain ⟨c16, H⟩ := H
          have c16b0 := eq_true c16
          have c16b1 := decide_eq_true c16
          try have c16b2 := eq_false (Nat.not_lt.2 c16)
          try have c16b5 : (9223372036854775807 < t181.size + 1 + t182.size + 1 + t183.size + 1 + t184.size) = False := by have e_ := c16b2; (repeat rw [ByteArray.size_append] at e_); exact e_
          replace H := guard_inv H
          obtain ⟨c17, H⟩ := H
          have c17b0 := eq_true c17
          have c17b1 := decide_eq_true c17
          try have c17b2 := eq_false (Nat.not_lt.2 c17)
          try have c17b5 : (9223372036854775807 < t181.size + 1 + t182.size + 1 + t183.size + 1 + t184.size + 1) = False := by have e_ := c17b2; (repeat rw [ByteArray.size_append] at e_); exact e_
          replace H := Option.bind_eq_some_iff.mp H
          obtain ⟨t185, A180, H⟩ := H
          try dsimp -simprocs only at H
          have A18 := Aside0.mk A180
          clear A180
          replace H := guard_inv H
          obtain ⟨c19, H⟩ := H
          have c19b0 := eq_true c19
          have c19b1 := decide_eq_true c19
          try have c19b2 := eq_false (Nat.not_lt.2 c19)
          try have c19b5 : (9223372036854775807 < t181.size + 1 + t182.size + 1 + t183.size + 1 + t184.size + 1 + t185.size) = False := by have e_ := c19b2; (repeat rw [ByteArray.size_append] at e_); exact e_
          replace H := guard_inv H
          obtain ⟨c20, H⟩ := H
          have c20b0 := eq_true c20
          have c20b1 := decide_eq_true c20
          try have c20b2 := eq_false (Nat.not_lt.2 c20)
          try have c20b5 : (9223372036854775807 < t181.size + 1 + t182.size + 1 + t183.size + 1 + t184.size + 1 + t185.size + 1) = False := by have e_ := c20b2; (repeat rw [ByteArray.size_append] at e_); exact e_
          replace H := Option.bind_eq_some_iff.mp H
          obtain ⟨t186, A210, H⟩ := H
          try dsimp -simprocs only at H
          have A21 := Aside0.mk A210
          clear A210
          replace H := guard_inv H
          obtain ⟨c22, H⟩ := H
          have c22b0 := eq_true c22
          have c22b1 := decide_eq_true c22
          try have c22b2 := eq_false (Nat.not_lt.2 c22)
          try have c22b5 : (9223372036854775807 < t181.size + 1 + t182.size + 1 + t183.size + 1 + t184.size + 1 + t185.size + 1 + t186.size) = False := by have e_ := c22b2; (repeat rw [ByteArray.size_append] at e_); exact e_
          replace H := guard_inv H
          obtain ⟨c23, H⟩ := H
          have c23b0 := eq_true c23
          have c23b1 := decide_eq_true c23
          try have c23b2 := eq_false (Nat.not_lt.2 c23)
          try have c23b5 : (9223372036854775807 < t181.size + 1 + t182.size + 1 + t183.size + 1 + t184.size + 1 + t185.size + 1 + t186.size + 1) = False := by have e_ := c23b2; (repeat rw [ByteArray.size_append] at e_); exact e_
          replace H := guard_inv H
          obtain ⟨c24, H⟩ := H
          have c24b0 := eq_true c24
          have c24b1 := decide_eq_true c24
          try have c24b2 := eq_false (Nat.not_lt.2 c24)
          try have c24b5 : (9223372036854775807 < t181.size + 1 + t182.size + 1 + t183.size + 1 + t184.size + 1 + t185.size + 1 + t186.size + 1 + ((rd_T58 l0 x9_1).f6).size) = False := by have e_ := c24b2; (repeat rw [ByteArray.size_append] at e_); exact e_
          replace H := guard_inv H
          obtain ⟨c25, H⟩ := H
          have c25b0 := eq_true c25
          have c25b1 := decide_eq_true c25
          try have c25b2 := eq_false (Nat.not_lt.2 c25)
          try have c25b5 : (9223372036854775807 < x4_1.size + (t181.size + 1 + t182.size + 1 + t183.size + 1 + t184.size + 1 + t185.size + 1 + t186.size + 1 + ((rd_T58 l0 x9_1).f6).size)) = False := by have e_ := c25b2; (repeat rw [ByteArray.size_append] at e_); exact e_
          by_cases c26 : ((rd_T58 l0 x9_1).f7).toList = ([] : List UInt8)
          · rw [if_pos c26] at H
            have c26b0 : (((rd_T58 l0 x9_1).f7).toList == ([] : List UInt8)) = true := beq_iff_eq.mpr c26
            have c26b1 : (((rd_T58 l0 x9_1).f7).toList != ([] : List UInt8)) = false := bne_eq_false_iff_eq.mpr c26
            clear c26
            replace H := guard_inv H
            obtain ⟨c27, H⟩ := H
            have c27b0 := eq_true c27
            have c27b1 := decide_eq_true c27
            try have c27b2 := eq_false (Nat.not_lt.2 c27)
            replace H := guard_inv H
            obtain ⟨c28, H⟩ := H
            have c28b0 := eq_true c28
            have c28b1 := decide_eq_true c28
            try have c28b2 := eq_false (Nat.not_lt.2 c28)
            try have c28b5 : (9223372036854775807 < 3 + ((rd_T58 l0 x9_1).f8).size + 1) = False := by have e_ := c28b2; (repeat rw [ByteArray.size_append] at e_); exact e_
            replace H := Option.bind_eq_some_iff.mp H
            obtain ⟨t187, A290, H⟩ := H
            try dsimp -simprocs only at H
            have A29 := Aside0.mk A290
            clear A290
            replace H := guard_inv H
            obtain ⟨c30, H⟩ := H
            have c30b0 := eq_true c30
            have c30b1 := decide_eq_true c30
            try have c30b2 := eq_false (Nat.not_lt.2 c30)
            try have c30b5 : (9223372036854775807 < 3 + ((rd_T58 l0 x9_1).f8).size + 1 + t187.size) = False := by have e_ := c30b2; (repeat rw [ByteArray.size_append] at e_); exact e_
            replace H := guard_inv H
            obtain ⟨c31, H⟩ := H
            have c31b0 := eq_true c31
            have c31b1 := decide_eq_true c31
            try have c31b2 := eq_false (Nat.not_lt.2 c31)
            try have c31b5 : (9223372036854775807 < 3 + ((rd_T58 l0 x9_1).f8).size + 1 + t187.size + 1) = False := by have e_ := c31b2; (repeat rw [ByteArray.size_append] at e_); exact e_
            replace H := guard_inv H
            obtain ⟨c32, H⟩ := H
            have c32b0 := eq_true c32
            have c32b1 := decide_eq_true c32
            try have c32b2 := eq_false (Nat.not_lt.2 c32)
            try have c32b5 : (9223372036854775807 < 3 + ((rd_T58 l0 x9_1).f8).size + 1 + t187.size + 1 + ((rd_T58 l0 x9_1).f10).size) = False := by have e_ := c32b2; (repeat rw [ByteArray.size_append] at e_); exact e_
            replace H := guard_inv H
            obtain ⟨c33, H⟩ := H
            have c33b0 := eq_true c33
            have c33b1 := decide_eq_true c33
            try have c33b2 := eq_false (Nat.not_lt.2 c33)
            try have c33b5 : (9223372036854775807 < 3 + ((rd_T58 l0 x9_1).f8).size + 1 + t187.size + 1 + ((rd_T58 l0 x9_1).f10).size + 1) = False := by have e_ := c33b2; (repeat rw [ByteArray.size_append] at e_); exact e_
            replace H := guard_inv H
            obtain ⟨c34, H⟩ := H
            have c34b0 := eq_true c34
            have c34b1 := decide_eq_true c34
            try have c34b2 := eq_false (Nat.not_lt.2 c34)
            try have c34b5 : (9223372036854775807 < x4_1.size + (t181.size + 1 + t182.size + 1 + t183.size + 1 + t184.size + 1 + t185.size + 1 + t186.size + 1 + ((rd_T58 l0 x9_1).f6).size) + (3 + ((rd_T58 l0 x9_1).f8).size + 1 + t187.size + 1 + ((rd_T58 l0 x9_1).f10).size + 1)) = False := by have e_ := c34b2; (repeat rw [ByteArray.size_append] at e_); exact e_
            have H' := Aside0.mk H
            clear H
            have p178 : 0 ≤ (x9_1 : Int) := of_decide_eq_true (by first | (with_reducible assumption) | assumption)
            have q178 : x9_1 < (l0.length : Int) := of_decide_eq_true (by first | (with_reducible assumption) | assumption)
            obtain ⟨ad178, e178, hx178_0, hx178_1, hx178_2, hx178_3, hx178_4, hx178_5, hx178_6, hx178_7, hx178_8, hx178_9, hx178_10⟩ := at_T58 HR0.out x9_1 p178 q178
            cases e178
            replace hx178_0 := (HB.out.cell (World.block_lt_of_cell? w _ hx178_0)).trans hx178_0
            replace hx178_1 := (HB.out.cell (World.block_lt_of_cell? w _ hx178_1)).trans hx178_1
            replace hx178_2 := (HB.out.cell (World.block_lt_of_cell? w _ hx178_2)).trans hx178_2
            replace hx178_3 := (HB.out.cell (World.block_lt_of_cell? w _ hx178_3)).trans hx178_3
            replace hx178_4 := (HB.out.cell (World.block_lt_of_cell? w _ hx178_4)).trans hx178_4
            replace hx178_5 := (HB.out.cell (World.block_lt_of_cell? w _ hx178_5)).trans hx178_5
            replace hx178_6 := (HB.out.cell (World.block_lt_of_cell? w _ hx178_6)).trans hx178_6
            replace hx178_7 := (HB.out.cell (World.block_lt_of_cell? w _ hx178_7)).trans hx178_7
            replace hx178_8 := (HB.out.cell (World.block_lt_of_cell? w _ hx178_8)).trans hx178_8
            replace hx178_9 := (HB.out.cell (World.block_lt_of_cell? w _ hx178_9)).trans hx178_9
            replace hx178_10 := (HB.out.cell (World.block_lt_of_cell? w _ hx178_10)).trans hx178_10
            replace p178 := eq_true p178
            replace q178 := eq_true q178
            try go_wp2_with (first | ((with_reducible refine gate_dst (N := 6) rfl ?_); refine box_event ?hg (N := 6) ?hd (cs := #[.int .i64 0, .int .i64 0, .int .i64 0, .int .i64 0, .string (⟨#[]⟩ : ByteArray), .string (⟨#[]⟩ : ByteArray), .string (⟨#[]⟩ : ByteArray), .string (⟨#[]⟩ : ByteArray), .string (⟨#[]⟩ : ByteArray), .string (⟨#[]⟩ : ByteArray), .string (⟨#[]⟩ : ByteArray)]) (t := 58) ?hr ?_; (case hd => rfl); (case hg => rfl); (case hr => first | (go_simp; done) | (go_simp; rfl)); intro gb179 hg w35 hbox hb; have n0_ := Aside0.mk (below_step (by repeat (first | (with_reducible first | exact HB.out | apply below_alloc | apply pw_below_drewN | apply below_drew1) | exact HB.out)) hb); have n1_ := Aside0.mk (hbox); have n2_ := Aside0.mk ((by rw [hg]; exact (below_size (by repeat (first | (with_reducible first | exact HB.out | apply below_alloc | apply pw_below_drewN | apply below_drew1) | exact HB.out))) : w.heap.size ≤ gb179)); have n3_ := Aside0.mk ((by rw [hg]; exact (below_size (by repeat (first | (with_reducible first | exact HB.out | apply below_alloc | apply pw_below_drewN | apply below_drew1) | exact HB.out))) : w.heap.size ≤ gb179)); clear HB; have HB := n0_; have BK179 := n1_; have GW179 := n2_; have GE179 := n3_; clear n0_ n1_ n2_ n3_; clear hb hbox hg; have hcz36_0 : w35.cell? ⟨gb179, 0, none⟩ = some (.int .i64 0) := (blk_cell BK179.out 0).trans rfl; have hcz36_1 : w35.cell? ⟨gb179, 1, none⟩ = some (.int .i64 0) := (blk_cell BK179.out 1).trans rfl; have hcz36_2 : w35.cell? ⟨gb179, 2, none⟩ = some (.int .i64 0) := (blk_cell BK179.out 2).trans rfl; have hcz36_3 : w35.cell? ⟨gb179, 3, none⟩ = some (.int .i64 0) := (blk_cell BK179.out 3).trans rfl; have hcz36_4 : w35.cell? ⟨gb179, 4, none⟩ = some (.string (⟨#[]⟩ : ByteArray)) := (blk_cell BK179.out 4).trans rfl; have hcz36_5 : w35.cell? ⟨gb179, 5, none⟩ = some (.string (⟨#[]⟩ : ByteArray)) := (blk_cell BK179.out 5).trans rfl; have hcz36_6 : w35.cell? ⟨gb179, 6, none⟩ = some (.string (⟨#[]⟩ : ByteArray)) := (blk_cell BK179.out 6).trans rfl; have hcz36_7 : w35.cell? ⟨gb179, 7, none⟩ = some (.string (⟨#[]⟩ : ByteArray)) := (blk_cell BK179.out 7).trans rfl; have hcz36_8 : w35.cell? ⟨gb179, 8, none⟩ = some (.string (⟨#[]⟩ : ByteArray)) := (blk_cell BK179.out 8).trans rfl; have hcz36_9 : w35.cell? ⟨gb179, 9, none⟩ = some (.string (⟨#[]⟩ : ByteArray)) := (blk_cell BK179.out 9).trans rfl; have hcz36_10 : w35.cell? ⟨gb179, 10, none⟩ = some (.string (⟨#[]⟩ : ByteArray)) := (blk_cell BK179.out 10).trans rfl; have hfz36_0 := blk_frozen BK179.out 0; have hfz36_1 := blk_frozen BK179.out 1; have hfz36_2 := blk_frozen BK179.out 2; have hfz36_3 := blk_frozen BK179.out 3; have hfz36_4 := blk_frozen BK179.out 4; have hfz36_5 := blk_frozen BK179.out 5; have hfz36_6 := blk_frozen BK179.out 6; have hfz36_7 := blk_frozen BK179.out 7; have hfz36_8 := blk_frozen BK179.out 8; have hfz36_9 := blk_frozen BK179.out 9; have hfz36_10 := blk_frozen BK179.out 10) | ((with_reducible refine gate_callee (f := 26) rfl ?_); refine goesL_ (some 14) rfl rfl Tryd.func26 (by kernel_rfl) rfl #[.agg #[.int .i64 ((rd_T58 l0 x9_1).f0), .int .i64 ((rd_T58 l0 x9_1).f1), .int .i64 ((rd_T58 l0 x9_1).f2), .int .i64 ((rd_T58 l0 x9_1).f3), .string ((rd_T58 l0 x9_1).f4), .string ((rd_T58 l0 x9_1).f5), .string ((rd_T58 l0 x9_1).f6), .string ((rd_T58 l0 x9_1).f7), .string ((rd_T58 l0 x9_1).f8), .string ((rd_T58 l0 x9_1).f9), .string ((rd_T58 l0 x9_1).f10)]] rfl (by (try simp only [List.map_toArray, List.map_cons, List.map_nil]); first | done | rfl | (simp only [List.length_drop, List.length_take]; rfl)) ?_; (with_reducible refine (spec_mountValid.calls k1 ((rd_T58 l0 x9_1).f0) ((rd_T58 l0 x9_1).f1) ((rd_T58 l0 x9_1).f2) ((rd_T58 l0 x9_1).f3) ((rd_T58 l0 x9_1).f4) ((rd_T58 l0 x9_1).f5) ((rd_T58 l0 x9_1).f6) ((rd_T58 l0 x9_1).f7) ((rd_T58 l0 x9_1).f8) ((rd_T58 l0 x9_1).f9) ((rd_T58 l0 x9_1).f10) true _ A5.out).mono ?_); rintro e w37 ⟨rfl, hb⟩; refine ⟨_, rfl, ?_⟩; have n0_ := Aside0.mk (blk_below (g := gb179) (o := .cells #[.int .i64 ((rd_T58 l0 x9_1).f0), .int .i64 ((rd_T58 l0 x9_1).f1), .int .i64 ((rd_T58 l0 x9_1).f2), .int .i64 ((rd_T58 l0 x9_1).f3), .string ((rd_T58 l0 x9_1).f4), .string ((rd_T58 l0 x9_1).f5), .string ((rd_T58 l0 x9_1).f6), .string ((rd_T58 l0 x9_1).f7), .string ((rd_T58 l0 x9_1).f8), .string ((rd_T58 l0 x9_1).f9), .string ((rd_T58 l0 x9_1).f10)] 58 (0, 0)) (by (with_reducible repeat (first | refine blk_drewN ?_ _ | refine blk_drew ?_ | refine blk_alloc ?_ _)); refine blk_put (cs := #[.int .i64 ((rd_T58 l0 x9_1).f0), .int .i64 ((rd_T58 l0 x9_1).f1), .int .i64 ((rd_T58 l0 x9_1).f2), .int .i64 ((rd_T58 l0 x9_1).f3), .string ((rd_T58 l0 x9_1).f4), .string ((rd_T58 l0 x9_1).f5), .string ((rd_T58 l0 x9_1).f6), .string ((rd_T58 l0 x9_1).f7), .string ((rd_T58 l0 x9_1).f8), .string ((rd_T58 l0 x9_1).f9), .string (⟨#[]⟩ : ByteArray)]) ?_ 10 _ rfl; (with_reducible repeat (first | refine blk_drewN ?_ _ | refine blk_drew ?_ | refine blk_alloc ?_ _)); refine blk_put (cs := #[.int .i64 ((rd_T58 l0 x9_1).f0), .int .i64 ((rd_T58 l0 x9_1).f1), .int .i64 ((rd_T58 l0 x9_1).f2), .int .i64 ((rd_T58 l0 x9_1).f3), .string ((rd_T58 l0 x9_1).f4), .string ((rd_T58 l0 x9_1).f5), .string ((rd_T58 l0 x9_1).f6), .string ((rd_T58 l0 x9_1).f7), .string ((rd_T58 l0 x9_1).f8), .string (⟨#[]⟩ : ByteArray), .string (⟨#[]⟩ : ByteArray)]) ?_ 9 _ rfl; (with_reducible repeat (first | refine blk_drewN ?_ _ | refine blk_drew ?_ | refine blk_alloc ?_ _)); refine blk_put (cs := #[.int .i64 ((rd_T58 l0 x9_1).f0), .int .i64 ((rd_T58 l0 x9_1).f1), .int .i64 ((rd_T58 l0 x9_1).f2), .int .i64 ((rd_T58 l0 x9_1).f3), .string ((rd_T58 l0 x9_1).f4), .string ((rd_T58 l0 x9_1).f5), .string ((rd_T58 l0 x9_1).f6), .string ((rd_T58 l0 x9_1).f7), .string (⟨#[]⟩ : ByteArray), .string (⟨#[]⟩ : ByteArray), .string (⟨#[]⟩ : ByteArray)]) ?_ 8 _ rfl; (with_reducible repeat (first | refine blk_drewN ?_ _ | refine blk_drew ?_ | refine blk_alloc ?_ _)); refine blk_put (cs := #[.int .i64 ((rd_T58 l0 x9_1).f0), .int .i64 ((rd_T58 l0 x9_1).f1), .int .i64 ((rd_T58 l0 x9_1).f2), .int .i64 ((rd_T58 l0 x9_1).f3), .string ((rd_T58 l0 x9_1).f4), .string ((rd_T58 l0 x9_1).f5), .string ((rd_T58 l0 x9_1).f6), .string (⟨#[]⟩ : ByteArray), .string (⟨#[]⟩ : ByteArray), .string (⟨#[]⟩ : ByteArray), .string (⟨#[]⟩ : ByteArray)]) ?_ 7 _ rfl; (with_reducible repeat (first | refine blk_drewN ?_ _ | refine blk_drew ?_ | refine blk_alloc ?_ _)); refine blk_put (cs := #[.int .i64 ((rd_T58 l0 x9_1).f0), .int .i64 ((rd_T58 l0 x9_1).f1), .int .i64 ((rd_T58 l0 x9_1).f2), .int .i64 ((rd_T58 l0 x9_1).f3), .string ((rd_T58 l0 x9_1).f4), .string ((rd_T58 l0 x9_1).f5), .string (⟨#[]⟩ : ByteArray), .string (⟨#[]⟩ : ByteArray), .string (⟨#[]⟩ : ByteArray), .string (⟨#[]⟩ : ByteArray), .string (⟨#[]⟩ : ByteArray)]) ?_ 6 _ rfl; (with_reducible repeat (first | refine blk_drewN ?_ _ | refine blk_drew ?_ | refine blk_alloc ?_ _)); refine blk_put (cs := #[.int .i64 ((rd_T58 l0 x9_1).f0), .int .i64 ((rd_T58 l0 x9_1).f1), .int .i64 ((rd_T58 l0 x9_1).f2), .int .i64 ((rd_T58 l0 x9_1).f3), .string ((rd_T58 l0 x9_1).f4), .string (⟨#[]⟩ : ByteArray), .string (⟨#[]⟩ : ByteArray), .string (⟨#[]⟩ : ByteArray), .string (⟨#[]⟩ : ByteArray), .string (⟨#[]⟩ : ByteArray), .string (⟨#[]⟩ : ByteArray)]) ?_ 5 _ rfl; (with_reducible repeat (first | refine blk_drewN ?_ _ | refine blk_drew ?_ | refine blk_alloc ?_ _)); refine blk_put (cs := #[.int .i64 ((rd_T58 l0 x9_1).f0), .int .i64 ((rd_T58 l0 x9_1).f1), .int .i64 ((rd_T58 l0 x9_1).f2), .int .i64 ((rd_T58 l0 x9_1).f3), .string (⟨#[]⟩ : ByteArray), .string (⟨#[]⟩ : ByteArray), .string (⟨#[]⟩ : ByteArray), .string (⟨#[]⟩ : ByteArray), .string (⟨#[]⟩ : ByteArray), .string (⟨#[]⟩ : ByteArray), .string (⟨#[]⟩ : ByteArray)]) ?_ 4 _ rfl; (with_reducible repeat (first | refine blk_drewN ?_ _ | refine blk_drew ?_ | refine blk_alloc ?_ _)); refine blk_put (cs := #[.int .i64 ((rd_T58 l0 x9_1).f0), .int .i64 ((rd_T58 l0 x9_1).f1), .int .i64 ((rd_T58 l0 x9_1).f2), .int .i64 0, .string (⟨#[]⟩ : ByteArray), .string (⟨#[]⟩ : ByteArray), .string (⟨#[]⟩ : ByteArray), .string (⟨#[]⟩ : ByteArray), .string (⟨#[]⟩ : ByteArray), .string (⟨#[]⟩ : ByteArray), .string (⟨#[]⟩ : ByteArray)]) ?_ 3 _ rfl; (with_reducible repeat (first | refine blk_drewN ?_ _ | refine blk_drew ?_ | refine blk_alloc ?_ _)); refine blk_put (cs := #[.int .i64 ((rd_T58 l0 x9_1).f0), .int .i64 ((rd_T58 l0 x9_1).f1), .int .i64 0, .int .i64 0, .string (⟨#[]⟩ : ByteArray), .string (⟨#[]⟩ : ByteArray), .string (⟨#[]⟩ : ByteArray), .string (⟨#[]⟩ : ByteArray), .string (⟨#[]⟩ : ByteArray), .string (⟨#[]⟩ : ByteArray), .string (⟨#[]⟩ : ByteArray)]) ?_ 2 _ rfl; (with_reducible repeat (first | refine blk_drewN ?_ _ | refine blk_drew ?_ | refine blk_alloc ?_ _)); refine blk_put (cs := #[.int .i64 ((rd_T58 l0 x9_1).f0), .int .i64 0, .int .i64 0, .int .i64 0, .string (⟨#[]⟩ : ByteArray), .string (⟨#[]⟩ : ByteArray), .string (⟨#[]⟩ : ByteArray), .string (⟨#[]⟩ : ByteArray), .string (⟨#[]⟩ : ByteArray), .string (⟨#[]⟩ : ByteArray), .string (⟨#[]⟩ : ByteArray)]) ?_ 1 _ rfl; (with_reducible repeat (first | refine blk_drewN ?_ _ | refine blk_drew ?_ | refine blk_alloc ?_ _)); refine blk_put (cs := #[.int .i64 0, .int .i64 0, .int .i64 0, .int .i64 0, .string (⟨#[]⟩ : ByteArray), .string (⟨#[]⟩ : ByteArray), .string (⟨#[]⟩ : ByteArray), .string (⟨#[]⟩ : ByteArray), .string (⟨#[]⟩ : ByteArray), .string (⟨#[]⟩ : ByteArray), .string (⟨#[]⟩ : ByteArray)]) ?_ 0 _ rfl; (with_reducible repeat (first | refine blk_drewN ?_ _ | refine blk_drew ?_ | refine blk_alloc ?_ _)); exact BK179.out) hb); have n1_ := Aside0.mk (below_step (by repeat (first | (with_reducible first | exact HB.out | apply below_alloc | apply pw_below_drewN | apply below_drew1 | refine below_set ?_ GE179.out) | exact HB.out)) hb); clear BK179; clear HB; have BK179 := n0_; have HB := n1_; clear n0_ n1_; (try clear hb); (try clear hb2); (try clear hk); (try clear hi)))
            have n0_ := Aside0.mk (blk_drew BK179.out)
            have n1_ := Aside0.mk (below_drew1 HB.out)
            clear BK179
            clear HB
            have BK179 := n0_
            have HB := n1_
            clear n0_ n1_
            refine start_ (n := 35) (S := fun w' => w'.cell? ⟨gb179, 0, none⟩ = some (.int .i64 ((rd_T58 l0 x9_1).f0)) ∧ w'.cell? ⟨gb179, 1, none⟩ = some (.int .i64 ((rd_T58 l0 x9_1).f1)) ∧ w'.cell? ⟨gb179, 2, none⟩ = some (.int .i64 ((rd_T58 l0 x9_1).f2)) ∧ w'.cell? ⟨gb179, 3, none⟩ = some (.int .i64 ((rd_T58 l0 x9_1).f3)) ∧ w'.cell? ⟨gb179, 4, none⟩ = some (.string ((rd_T58 l0 x9_1).f4)) ∧ w'.cell? ⟨gb179, 5, none⟩ = some (.string ((rd_T58 l0 x9_1).f5)) ∧ w'.cell? ⟨gb179, 6, none⟩ = some (.string ((rd_T58 l0 x9_1).f6)) ∧ w'.cell? ⟨gb179, 7, none⟩ = some (.string ((rd_T58 l0 x9_1).f7)) ∧ w'.cell? ⟨gb179, 8, none⟩ = some (.string ((rd_T58 l0 x9_1).f8)) ∧ w'.cell? ⟨gb179, 9, none⟩ = some (.string ((rd_T58 l0 x9_1).f9)) ∧ w'.cell? ⟨gb179, 10, none⟩ = some (.string ((rd_T58 l0 x9_1).f10))) (ds := []) #[false, false, false, false, false, false, false, false, false, false, false, false, false, false, false, false, false, false, false, false, false, false, false, false, false, false, false, false, false, false, false, false, false, false, false] (by kernel_rfl) rfl rfl ⟨(blk_cell BK179.out 0).trans rfl, (blk_cell BK179.out 1).trans rfl, (blk_cell BK179.out 2).trans rfl, (blk_cell BK179.out 3).trans rfl, (blk_cell BK179.out 4).trans rfl, (blk_cell BK179.out 5).trans rfl, (blk_cell BK179.out 6).trans rfl, (blk_cell BK179.out 7).trans rfl, (blk_cell BK179.out 8).trans rfl, (blk_cell BK179.out 9).trans rfl, (blk_cell BK179.out 10).trans rfl⟩ (fun hHeld => ?_); refine with_tabW spec_MountsPrint.tab7 spec_MountsPrint.bits7 (fun HT_ HW_ => ?_)
            generalize w37.drew = w38 at BK179 HB hHeld ⊢
            refine pure_ (i := 0) (N := some 16) (v := ?_) (a' := ?_) #[true, false, false, false, false, false, false, false, false, false, false, false, false, false, false, false, false, false, false, false, false, false, false, false, false, false, false, false, false, false, false, false, false, false, false] rfl rfl (any_of HT_.out (by kernel_rfl)) (fun _ _ _ h => h) (Or.inl ⟨by rfl, ?_⟩) ?_ ?_
            rotate_left
            · intro w'
              go_simp
              with_reducible rfl
            rotate_left
            · simp only [Act.put, List.setIfInBounds_toArray, List.set_cons_zero, List.set_cons_succ, i64_w, i32_w]
              rfl
            refine pure_ (i := 1) (N := some 17) (v := ?_) (a' := ?_) #[true, true, false, false, false, false, false, false, false, false, false, false, false, false, false, false, false, false, false, false, false, false, false, false, false, false, false, false, false, false, false, false, false, false, false] rfl rfl (any_of HT_.out (by kernel_rfl)) (fun _ _ _ h => h) (Or.inl ⟨by rfl, ?_⟩) ?_ ?_
            rotate_left
            · intro w'
              go_simp
              with_reducible rfl
            rotate_left
            · simp only [Act.put, List.setIfInBounds_toArray, List.set_cons_zero, List.set_cons_succ, i64_w, i32_w]
              rfl
            refine pure_ (i := 5) (N := some 21) (v := ?_) (a' := ?_) #[true, true, false, false, false, true, false, false, false, false, false, false, false, false, false, false, false, false, false, false, false, false, false, false, false, false, false, false, false, false, false, false, false, false, false] rfl rfl (any_of HT_.out (by kernel_rfl)) (fun _ _ _ h => h) (Or.inl ⟨by rfl, ?_⟩) ?_ ?_
            rotate_left
            · intro w'
              go_simp
              with_reducible rfl
            rotate_left
            · simp only [Act.put, List.setIfInBounds_toArray, List.set_cons_zero, List.set_cons_succ, i64_w, i32_w]
              rfl
            refine pure_ (i := 10) (N := some 26) (v := ?_) (a' := ?_) #[true, true, false, false, false, true, false, false, false, false, true, false, false, false, false, false, false, false, false, false, false, false, false, false, false, false, false, false, false, false, false, false, false, false, false] rfl rfl (any_of HT_.out (by kernel_rfl)) (fun _ _ _ h => h) (Or.inl ⟨by rfl, ?_⟩) ?_ ?_
            rotate_left
            · intro w'
              go_simp
              with_reducible rfl
            rotate_left
            · simp only [Act.put, List.setIfInBounds_toArray, List.set_cons_zero, List.set_cons_succ, i64_w, i32_w]
              rfl
            refine pure_ (i := 15) (N := some 31) (v := ?_) (a' := ?_) #[true, true, false, false, false, true, false, false, false, false, true, false, false, false, false, true, false, false, false, false, false, false, false, false, false, false, false, false, false, false, false, false, false, false, false] rfl rfl (any_of HT_.out (by kernel_rfl)) (fun _ _ _ h => h) (Or.inl ⟨by rfl, ?_⟩) ?_ ?_
            rotate_left
            · intro w'
              go_simp
              with_reducible rfl
            rotate_left
            · simp only [Act.put, List.setIfInBounds_toArray, List.set_cons_zero, List.set_cons_succ, i64_w, i32_w]
              rfl
            refine pure_ (i := 20) (N := some 36) (v := ?_) (a' := ?_) #[true, true, false, false, false, true, false, false, false, false, true, false, false, false, false, true, false, false, false, false, true, false, false, false, false, false, false, false, false, false, false, false, false, false, false] rfl rfl (any_of HT_.out (by kernel_rfl)) (fun _ _ _ h => h) (Or.inl ⟨by rfl, ?_⟩) ?_ ?_
            rotate_left
            · intro w'
              go_simp
              with_reducible rfl
            rotate_left
            · simp only [Act.put, List.setIfInBounds_toArray, List.set_cons_zero, List.set_cons_succ, i64_w, i32_w]
              rfl
            refine pure_ (i := 25) (N := some 41) (v := ?_) (a' := ?_) #[true, true, false, false, false, true, false, false, false, false, true, false, false, false, false, true, false, false, false, false, true, false, false, false, false, true, false, false, false, false, false, false, false, false, false] rfl rfl (any_of HT_.out (by kernel_rfl)) (fun _ _ _ h => h) (Or.inl ⟨by rfl, ?_⟩) ?_ ?_
            rotate_left
            · intro w'
              go_simp
              with_reducible rfl
            rotate_left
            · simp only [Act.put, List.setIfInBounds_toArray, List.set_cons_zero, List.set_cons_succ, i64_w, i32_w]
              rfl
            refine pure_ (i := 30) (N := some 46) (v := ?_) (a' := ?_) #[true, true, false, false, false, true, false, false, false, false, true, false, false, false, false, true, false, false, false, false, true, false, false, false, false, true, false, false, false, false, true, false, false, false, false] rfl rfl (any_of HT_.out (by kernel_rfl)) (fun _ _ _ h => h) (Or.inl ⟨by rfl, ?_⟩) ?_ ?_
            rotate_left
            · intro w'
              go_simp
              with_reducible rfl
            rotate_left
            · simp only [Act.put, List.setIfInBounds_toArray, List.set_cons_zero, List.set_cons_succ, i64_w, i32_w]
              rfl
            refine take_ (i := 2) (N := some 18) (v := ?_) (a' := ?_) #[true, true, true, false, false, true, false, false, false, false, true, false, false, false, false, true, false, false, false, false, true, false, false, false, false, true, false, false, false, false, true, false, false, false, false] rfl rfl (take_ofW HT_.out HW_.out (by kernel_rfl)) (fun _ _ _ h => h) (Or.inl ⟨by rfl, ?_⟩) hHeld ?_ ?_
            rotate_left
            · rintro w' ⟨s0, s1, s2, s3, s4, s5, s6, s7, s8, s9, s10⟩
              go_simp
              with_reducible rfl
            rotate_left
            · simp only [Act.put, List.setIfInBounds_toArray, List.set_cons_zero, List.set_cons_succ, i64_w, i32_w]
              rfl
            refine take_ (i := 6) (N := some 22) (v := ?_) (a' := ?_) #[true, true, true, false, false, true, true, false, false, false, true, false, false, false, false, true, false, false, false, false, true, false, false, false, false, true, false, false, false, false, true, false, false, false, false] rfl rfl (take_ofW HT_.out HW_.out (by kernel_rfl)) (fun _ _ _ h => h) (Or.inl ⟨by rfl, ?_⟩) hHeld ?_ ?_
            rotate_left
            · rintro w' ⟨s0, s1, s2, s3, s4, s5, s6, s7, s8, s9, s10⟩
              go_simp
              with_reducible rfl
            rotate_left
            · simp only [Act.put, List.setIfInBounds_toArray, List.set_cons_zero, List.set_cons_succ, i64_w, i32_w]
              rfl
            refine take_ (i := 11) (N := some 27) (v := ?_) (a' := ?_) #[true, true, true, false, false, true, true, false, false, false, true, true, false, false, false, true, false, false, false, false, true, false, false, false, false, true, false, false, false, false, true, false, false, false, false] rfl rfl (take_ofW HT_.out HW_.out (by kernel_rfl)) (fun _ _ _ h => h) (Or.inl ⟨by rfl, ?_⟩) hHeld ?_ ?_
            rotate_left
            · rintro w' ⟨s0, s1, s2, s3, s4, s5, s6, s7, s8, s9, s10⟩
              go_simp
              with_reducible rfl
            rotate_left
            · simp only [Act.put, List.setIfInBounds_toArray, List.set_cons_zero, List.set_cons_succ, i64_w, i32_w]
              rfl
            refine take_ (i := 16) (N := some 32) (v := ?_) (a' := ?_) #[true, true, true, false, false, true, true, false, false, false, true, true, false, false, false, true, true, false, false, false, true, false, false, false, false, true, false, false, false, false, true, false, false, false, false] rfl rfl (take_ofW HT_.out HW_.out (by kernel_rfl)) (fun _ _ _ h => h) (Or.inl ⟨by rfl, ?_⟩) hHeld ?_ ?_
            rotate_left
            · rintro w' ⟨s0, s1, s2, s3, s4, s5, s6, s7, s8, s9, s10⟩
              go_simp
              with_reducible rfl
            rotate_left
            · simp only [Act.put, List.setIfInBounds_toArray, List.set_cons_zero, List.set_cons_succ, i64_w, i32_w]
              rfl
            refine take_ (i := 21) (N := some 37) (v := ?_) (a' := ?_) #[true, true, true, false, false, true, true, false, false, false, true, true, false, false, false, true, true, false, false, false, true, true, false, false, false, true, false, false, false, false, true, false, false, false, false] rfl rfl (take_ofW HT_.out HW_.out (by kernel_rfl)) (fun _ _ _ h => h) (Or.inl ⟨by rfl, ?_⟩) hHeld ?_ ?_
            rotate_left
            · rintro w' ⟨s0, s1, s2, s3, s4, s5, s6, s7, s8, s9, s10⟩
              go_simp
              with_reducible rfl
            rotate_left
            · simp only [Act.put, List.setIfInBounds_toArray, List.set_cons_zero, List.set_cons_succ, i64_w, i32_w]
              rfl
            refine take_ (i := 26) (N := some 42) (v := ?_) (a' := ?_) #[true, true, true, false, false, true, true, false, false, false, true, true, false, false, false, true, true, false, false, false, true, true, false, false, false, true, true, false, false, false, true, false, false, false, false] rfl rfl (take_ofW HT_.out HW_.out (by kernel_rfl)) (fun _ _ _ h => h) (Or.inl ⟨by rfl, ?_⟩) hHeld ?_ ?_
            rotate_left
            · rintro w' ⟨s0, s1, s2, s3, s4, s5, s6, s7, s8, s9, s10⟩
              go_simp
              with_reducible rfl
            rotate_left
            · simp only [Act.put, List.setIfInBounds_toArray, List.set_cons_zero, List.set_cons_succ, i64_w, i32_w]
              rfl
            refine take_ (i := 31) (N := some 47) (v := ?_) (a' := ?_) #[true, true, true, false, false, true, true, false, false, false, true, true, false, false, false, true, true, false, false, false, true, true, false, false, false, true, true, false, false, false, true, true, false, false, false] rfl rfl (take_ofW HT_.out HW_.out (by kernel_rfl)) (fun _ _ _ h => h) (Or.inl ⟨by rfl, ?_⟩) hHeld ?_ ?_
            rotate_left
            · rintro w' ⟨s0, s1, s2, s3, s4, s5, s6, s7, s8, s9, s10⟩
              go_simp
              with_reducible rfl
            rotate_left
            · simp only [Act.put, List.setIfInBounds_toArray, List.set_cons_zero, List.set_cons_succ, i64_w, i32_w]
              rfl
            refine one_ (i := 3) (N := some 19) #[true, true, true, true, false, true, true, false, false, false, true, true, false, false, false, true, true, false, false, false, true, true, false, false, false, true, true, false, false, false, true, true, false, false, false] rfl rfl (one_of HT_.out (by kernel_rfl)) (by decide) (fun K hK => ?_)
            refine goes_ Tryd.func27 (by kernel_rfl) rfl #[.int .i64 ((rd_T58 l0 x9_1).f0)] (by rfl) rfl rfl (by (try simp only [List.map_toArray, List.map_cons, List.map_nil]); first | done | rfl | (simp only [List.length_drop, List.length_take]; rfl)) ?_
            with_reducible refine (spec_natural.calls k1 ((rd_T58 l0 x9_1).f0) t181 _ A7.out).mono ?_
            rintro e w39 ⟨rfl, hb⟩
            refine ⟨_, rfl, ?_⟩
            have n0_ := Aside0.mk (blk_below (g := gb179) (o := .cells #[.int .i64 ((rd_T58 l0 x9_1).f0), .int .i64 ((rd_T58 l0 x9_1).f1), .int .i64 ((rd_T58 l0 x9_1).f2), .int .i64 ((rd_T58 l0 x9_1).f3), .string ((rd_T58 l0 x9_1).f4), .string ((rd_T58 l0 x9_1).f5), .string ((rd_T58 l0 x9_1).f6), .string ((rd_T58 l0 x9_1).f7), .string ((rd_T58 l0 x9_1).f8), .string ((rd_T58 l0 x9_1).f9), .string ((rd_T58 l0 x9_1).f10)] 58 (0, 0)) (by (with_reducible repeat (first | refine blk_drewN ?_ _ | refine blk_drew ?_ | refine blk_alloc ?_ _)); exact BK179.out) hb)
            have n1_ := Aside0.mk (below_step (by repeat (first | (with_reducible first | exact HB.out | apply below_alloc | apply pw_below_drewN | apply below_drew1 | refine below_set ?_ GE179.out) | exact HB.out)) hb)
            clear BK179
            clear HB
            have BK179 := n0_
            have HB := n1_
            clear n0_ n1_
            (try clear hb)
            (try clear hb2)
            (try clear hk)
            (try clear hi)
            refine hK.out _ _ ⟨(blk_cell BK179.out 0).trans rfl, (blk_cell BK179.out 1).trans rfl, (blk_cell BK179.out 2).trans rfl, (blk_cell BK179.out 3).trans rfl, (blk_cell BK179.out 4).trans rfl, (blk_cell BK179.out 5).trans rfl, (blk_cell BK179.out 6).trans rfl, (blk_cell BK179.out 7).trans rfl, (blk_cell BK179.out 8).trans rfl, (blk_cell BK179.out 9).trans rfl, (blk_cell BK179.out 10).trans rfl⟩ (fun hHeld => ?_)
            clear hK K
            refine norm_ (a' := ?_) ?_ ?_
            rotate_left
            · show Act.put _ (some 19) _ = _
              simp only [Act.put, List.setIfInBounds_toArray, List.set_cons_zero, List.set_cons_succ, i64_w, i32_w]
              rfl
            refine pure_ (i := 4) (N := some 20) (v := ?_) (a' := ?_) #[true, true, true, true, true, true, true, false, false, false, true, true, false, false, false, true, true, false, false, false, true, true, false, false, false, true, true, false, false, false, true, true, false, false, false] rfl rfl (any_of HT_.out (by kernel_rfl)) (fun _ _ _ h => h) (Or.inl ⟨by rfl, ?_⟩) ?_ ?_
            rotate_left
            · intro w'
              go_simp
              with_reducible rfl
            rotate_left
            · simp only [Act.put, List.setIfInBounds_toArray, List.set_cons_zero, List.set_cons_succ, i64_w, i32_w]
              rfl
            refine one_ (i := 7) (N := some 23) #[true, true, true, true, true, true, true, true, false, false, true, true, false, false, false, true, true, false, false, false, true, true, false, false, false, true, true, false, false, false, true, true, false, false, false] rfl rfl (one_of HT_.out (by kernel_rfl)) (by decide) (fun K hK => ?_)
            refine goes_ Tryd.func27 (by kernel_rfl) rfl #[.int .i64 ((rd_T58 l0 x9_1).f1)] (by rfl) rfl rfl (by (try simp only [List.map_toArray, List.map_cons, List.map_nil]); first | done | rfl | (simp only [List.length_drop, List.length_take]; rfl)) ?_
            with_reducible refine (spec_natural.calls k1 ((rd_T58 l0 x9_1).f1) t182 _ A9.out).mono ?_
            rintro e w40 ⟨rfl, hb⟩
            refine ⟨_, rfl, ?_⟩
            have n0_ := Aside0.mk (blk_below (g := gb179) (o := .cells #[.int .i64 ((rd_T58 l0 x9_1).f0), .int .i64 ((rd_T58 l0 x9_1).f1), .int .i64 ((rd_T58 l0 x9_1).f2), .int .i64 ((rd_T58 l0 x9_1).f3), .string ((rd_T58 l0 x9_1).f4), .string ((rd_T58 l0 x9_1).f5), .string ((rd_T58 l0 x9_1).f6), .string ((rd_T58 l0 x9_1).f7), .string ((rd_T58 l0 x9_1).f8), .string ((rd_T58 l0 x9_1).f9), .string ((rd_T58 l0 x9_1).f10)] 58 (0, 0)) (by (with_reducible repeat (first | refine blk_drewN ?_ _ | refine blk_drew ?_ | refine blk_alloc ?_ _)); exact BK179.out) hb)
            have n1_ := Aside0.mk (below_step (by repeat (first | (with_reducible first | exact HB.out | apply below_alloc | apply pw_below_drewN | apply below_drew1 | refine below_set ?_ GE179.out) | exact HB.out)) hb)
            clear BK179
            clear HB
            have BK179 := n0_
            have HB := n1_
            clear n0_ n1_
            (try clear hb)
            (try clear hb2)
            (try clear hk)
            (try clear hi)
            refine hK.out _ _ ⟨(blk_cell BK179.out 0).trans rfl, (blk_cell BK179.out 1).trans rfl, (blk_cell BK179.out 2).trans rfl, (blk_cell BK179.out 3).trans rfl, (blk_cell BK179.out 4).trans rfl, (blk_cell BK179.out 5).trans rfl, (blk_cell BK179.out 6).trans rfl, (blk_cell BK179.out 7).trans rfl, (blk_cell BK179.out 8).trans rfl, (blk_cell BK179.out 9).trans rfl, (blk_cell BK179.out 10).trans rfl⟩ (fun hHeld => ?_)
            clear hK K
            refine norm_ (a' := ?_) ?_ ?_
            rotate_left
            · show Act.put _ (some 23) _ = _
              simp only [Act.put, List.setIfInBounds_toArray, List.set_cons_zero, List.set_cons_succ, i64_w, i32_w]
              rfl
            refine pure_ (i := 8) (N := some 24) (v := ?_) (a' := ?_) #[true, true, true, true, true, true, true, true, true, false, true, true, false, false, false, true, true, false, false, false, true, true, false, false, false, true, true, false, false, false, true, true, false, false, false] rfl rfl (any_of HT_.out (by kernel_rfl)) (fun _ _ _ h => h) (Or.inl ⟨by rfl, ?_⟩) ?_ ?_
            rotate_left
            · intro w'
              go_simp
              with_reducible rfl
            rotate_left
            · simp only [Act.put, List.setIfInBounds_toArray, List.set_cons_zero, List.set_cons_succ, i64_w, i32_w]
              rfl
            refine pure_ (i := 9) (N := some 25) (v := ?_) (a' := ?_) #[true, true, true, true, true, true, true, true, true, true, true, true, false, false, false, true, true, false, false, false, true, true, false, false, false, true, true, false, false, false, true, true, false, false, false] rfl rfl (any_of HT_.out (by kernel_rfl)) (fun _ _ _ h => h) (Or.inl ⟨by rfl, ?_⟩) ?_ ?_
            rotate_left
            · intro w'
              go_simp
              with_reducible rfl
            rotate_left
            · simp only [Act.put, List.setIfInBounds_toArray, List.set_cons_zero, List.set_cons_succ, i64_w, i32_w]
              rfl
            refine one_ (i := 12) (N := some 28) #[true, true, true, true, true, true, true, true, true, true, true, true, true, false, false, true, true, false, false, false, true, true, false, false, false, true, true, false, false, false, true, true, false, false, false] rfl rfl (one_of HT_.out (by kernel_rfl)) (by decide) (fun K hK => ?_)
            refine goes_ Tryd.func27 (by kernel_rfl) rfl #[.int .i64 ((rd_T58 l0 x9_1).f2)] (by rfl) rfl rfl (by (try simp only [List.map_toArray, List.map_cons, List.map_nil]); first | done | rfl | (simp only [List.length_drop, List.length_take]; rfl)) ?_
            with_reducible refine (spec_natural.calls k1 ((rd_T58 l0 x9_1).f2) t183 _ A12.out).mono ?_
            rintro e w41 ⟨rfl, hb⟩
            refine ⟨_, rfl, ?_⟩
            have n0_ := Aside0.mk (blk_below (g := gb179) (o := .cells #[.int .i64 ((rd_T58 l0 x9_1).f0), .int .i64 ((rd_T58 l0 x9_1).f1), .int .i64 ((rd_T58 l0 x9_1).f2), .int .i64 ((rd_T58 l0 x9_1).f3), .string ((rd_T58 l0 x9_1).f4), .string ((rd_T58 l0 x9_1).f5), .string ((rd_T58 l0 x9_1).f6), .string ((rd_T58 l0 x9_1).f7), .string ((rd_T58 l0 x9_1).f8), .string ((rd_T58 l0 x9_1).f9), .string ((rd_T58 l0 x9_1).f10)] 58 (0, 0)) (by (with_reducible repeat (first | refine blk_drewN ?_ _ | refine blk_drew ?_ | refine blk_alloc ?_ _)); exact BK179.out) hb)
            have n1_ := Aside0.mk (below_step (by repeat (first | (with_reducible first | exact HB.out | apply below_alloc | apply pw_below_drewN | apply below_drew1 | refine below_set ?_ GE179.out) | exact HB.out)) hb)
            clear BK179
            clear HB
            have BK179 := n0_
            have HB := n1_
            clear n0_ n1_
            (try clear hb)
            (try clear hb2)
            (try clear hk)
            (try clear hi)
            refine hK.out _ _ ⟨(blk_cell BK179.out 0).trans rfl, (blk_cell BK179.out 1).trans rfl, (blk_cell BK179.out 2).trans rfl, (blk_cell BK179.out 3).trans rfl, (blk_cell BK179.out 4).trans rfl, (blk_cell BK179.out 5).trans rfl, (blk_cell BK179.out 6).trans rfl, (blk_cell BK179.out 7).trans rfl, (blk_cell BK179.out 8).trans rfl, (blk_cell BK179.out 9).trans rfl, (blk_cell BK179.out 10).trans rfl⟩ (fun hHeld => ?_)
            clear hK K
            refine norm_ (a' := ?_) ?_ ?_
            rotate_left
            · show Act.put _ (some 28) _ = _
              simp only [Act.put, List.setIfInBounds_toArray, List.set_cons_zero, List.set_cons_succ, i64_w, i32_w]
              rfl
            refine pure_ (i := 13) (N := some 29) (v := ?_) (a' := ?_) #[true, true, true, true, true, true, true, true, true, true, true, true, true, true, false, true, true, false, false, false, true, true, false, false, false, true, true, false, false, false, true, true, false, false, false] rfl rfl (any_of HT_.out (by kernel_rfl)) (fun _ _ _ h => h) (Or.inl ⟨by rfl, ?_⟩) ?_ ?_
            rotate_left
            · intro w'
              go_simp
              with_reducible rfl
            rotate_left
            · simp only [Act.put, List.setIfInBounds_toArray, List.set_cons_zero, List.set_cons_succ, i64_w, i32_w]
              rfl
            refine pure_ (i := 14) (N := some 30) (v := ?_) (a' := ?_) #[true, true, true, true, true, true, true, true, true, true, true, true, true, true, true, true, true, false, false, false, true, true, false, false, false, true, true, false, false, false, true, true, false, false, false] rfl rfl (any_of HT_.out (by kernel_rfl)) (fun _ _ _ h => h) (Or.inl ⟨by rfl, ?_⟩) ?_ ?_
            rotate_left
            · intro w'
              go_simp
              with_reducible rfl
            rotate_left
            · simp only [Act.put, List.setIfInBounds_toArray, List.set_cons_zero, List.set_cons_succ, i64_w, i32_w]
              rfl
            refine one_ (i := 17) (N := some 33) #[true, true, true, true, true, true, true, true, true, true, true, true, true, true, true, true, true, true, false, false, true, true, false, false, false, true, true, false, false, false, true, true, false, false, false] rfl rfl (one_of HT_.out (by kernel_rfl)) (by decide) (fun K hK => ?_)
            refine goes_ Tryd.func27 (by kernel_rfl) rfl #[.int .i64 ((rd_T58 l0 x9_1).f3)] (by rfl) rfl rfl (by (try simp only [List.map_toArray, List.map_cons, List.map_nil]); first | done | rfl | (simp only [List.length_drop, List.length_take]; rfl)) ?_
            with_reducible refine (spec_natural.calls k1 ((rd_T58 l0 x9_1).f3) t184 _ A15.out).mono ?_
            rintro e w42 ⟨rfl, hb⟩
            refine ⟨_, rfl, ?_⟩
            have n0_ := Aside0.mk (blk_below (g := gb179) (o := .cells #[.int .i64 ((rd_T58 l0 x9_1).f0), .int .i64 ((rd_T58 l0 x9_1).f1), .int .i64 ((rd_T58 l0 x9_1).f2), .int .i64 ((rd_T58 l0 x9_1).f3), .string ((rd_T58 l0 x9_1).f4), .string ((rd_T58 l0 x9_1).f5), .string ((rd_T58 l0 x9_1).f6), .string ((rd_T58 l0 x9_1).f7), .string ((rd_T58 l0 x9_1).f8), .string ((rd_T58 l0 x9_1).f9), .string ((rd_T58 l0 x9_1).f10)] 58 (0, 0)) (by (with_reducible repeat (first | refine blk_drewN ?_ _ | refine blk_drew ?_ | refine blk_alloc ?_ _)); exact BK179.out) hb)
            have n1_ := Aside0.mk (below_step (by repeat (first | (with_reducible first | exact HB.out | apply below_alloc | apply pw_below_drewN | apply below_drew1 | refine below_set ?_ GE179.out) | exact HB.out)) hb)
            clear BK179
            clear HB
            have BK179 := n0_
            have HB := n1_
            clear n0_ n1_
            (try clear hb)
            (try clear hb2)
            (try clear hk)
            (try clear hi)
            refine hK.out _ _ ⟨(blk_cell BK179.out 0).trans rfl, (blk_cell BK179.out 1).trans rfl, (blk_cell BK179.out 2).trans rfl, (blk_cell BK179.out 3).trans rfl, (blk_cell BK179.out 4).trans rfl, (blk_cell BK179.out 5).trans rfl, (blk_cell BK179.out 6).trans rfl, (blk_cell BK179.out 7).trans rfl, (blk_cell BK179.out 8).trans rfl, (blk_cell BK179.out 9).trans rfl, (blk_cell BK179.out 10).trans rfl⟩ (fun hHeld => ?_)
            clear hK K
            refine norm_ (a' := ?_) ?_ ?_
            rotate_left
            · show Act.put _ (some 33) _ = _
              simp only [Act.put, List.setIfInBounds_toArray, List.set_cons_zero, List.set_cons_succ, i64_w, i32_w]
              rfl
            refine pure_ (i := 18) (N := some 34) (v := ?_) (a' := ?_) #[true, true, true, true, true, true, true, true, true, true, true, true, true, true, true, true, true, true, true, false, true, true, false, false, false, true, true, false, false, false, true, true, false, false, false] rfl rfl (any_of HT_.out (by kernel_rfl)) (fun _ _ _ h => h) (Or.inl ⟨by rfl, ?_⟩) ?_ ?_
            rotate_left
            · intro w'
              go_simp
              with_reducible rfl
            rotate_left
            · simp only [Act.put, List.setIfInBounds_toArray, List.set_cons_zero, List.set_cons_succ, i64_w, i32_w]
              rfl
            refine pure_ (i := 19) (N := some 35) (v := ?_) (a' := ?_) #[true, true, true, true, true, true, true, true, true, true, true, true, true, true, true, true, true, true, true, true, true, true, false, false, false, true, true, false, false, false, true, true, false, false, false] rfl rfl (any_of HT_.out (by kernel_rfl)) (fun _ _ _ h => h) (Or.inl ⟨by rfl, ?_⟩) ?_ ?_
            rotate_left
            · intro w'
              go_simp
              with_reducible rfl
            rotate_left
            · simp only [Act.put, List.setIfInBounds_toArray, List.set_cons_zero, List.set_cons_succ, i64_w, i32_w]
              rfl
            refine one_ (i := 22) (N := some 38) #[true, true, true, true, true, true, true, true, true, true, true, true, true, true, true, true, true, true, true, true, true, true, true, false, false, true, true, false, false, false, true, true, false, false, false] rfl rfl (one_of HT_.out (by kernel_rfl)) (by decide) (fun K hK => ?_)
            refine goes_ Tryd.func28 (by kernel_rfl) rfl #[.string ((rd_T58 l0 x9_1).f4)] (by rfl) rfl rfl (by (try simp only [List.map_toArray, List.map_cons, List.map_nil]); first | done | rfl | (simp only [List.length_drop, List.length_take]; rfl)) ?_
            with_reducible refine (spec_octal.calls k1 ((rd_T58 l0 x9_1).f4) t185 _ A18.out).mono ?_
            rintro e w43 ⟨rfl, hb⟩
            refine ⟨_, rfl, ?_⟩
            have n0_ := Aside0.mk (blk_below (g := gb179) (o := .cells #[.int .i64 ((rd_T58 l0 x9_1).f0), .int .i64 ((rd_T58 l0 x9_1).f1), .int .i64 ((rd_T58 l0 x9_1).f2), .int .i64 ((rd_T58 l0 x9_1).f3), .string ((rd_T58 l0 x9_1).f4), .string ((rd_T58 l0 x9_1).f5), .string ((rd_T58 l0 x9_1).f6), .string ((rd_T58 l0 x9_1).f7), .string ((rd_T58 l0 x9_1).f8), .string ((rd_T58 l0 x9_1).f9), .string ((rd_T58 l0 x9_1).f10)] 58 (0, 0)) (by (with_reducible repeat (first | refine blk_drewN ?_ _ | refine blk_drew ?_ | refine blk_alloc ?_ _)); exact BK179.out) hb)
            have n1_ := Aside0.mk (below_step (by repeat (first | (with_reducible first | exact HB.out | apply below_alloc | apply pw_below_drewN | apply below_drew1 | refine below_set ?_ GE179.out) | exact HB.out)) hb)
            clear BK179
            clear HB
            have BK179 := n0_
            have HB := n1_
            clear n0_ n1_
            (try clear hb)
            (try clear hb2)
            (try clear hk)
            (try clear hi)
            refine hK.out _ _ ⟨(blk_cell BK179.out 0).trans rfl, (blk_cell BK179.out 1).trans rfl, (blk_cell BK179.out 2).trans rfl, (blk_cell BK179.out 3).trans rfl, (blk_cell BK179.out 4).trans rfl, (blk_cell BK179.out 5).trans rfl, (blk_cell BK179.out 6).trans rfl, (blk_cell BK179.out 7).trans rfl, (blk_cell BK179.out 8).trans rfl, (blk_cell BK179.out 9).trans rfl, (blk_cell BK179.out 10).trans rfl⟩ (fun hHeld => ?_)
            clear hK K
            refine norm_ (a' := ?_) ?_ ?_
            rotate_left
            · show Act.put _ (some 38) _ = _
              simp only [Act.put, List.setIfInBounds_toArray, List.set_cons_zero, List.set_cons_succ, i64_w, i32_w]
              rfl
            refine pure_ (i := 23) (N := some 39) (v := ?_) (a' := ?_) #[true, true, true, true, true, true, true, true, true, true, true, true, true, true, true, true, true, true, true, true, true, true, true, true, false, true, true, false, false, false, true, true, false, false, false] rfl rfl (any_of HT_.out (by kernel_rfl)) (fun _ _ _ h => h) (Or.inl ⟨by rfl, ?_⟩) ?_ ?_
            rotate_left
            · intro w'
              go_simp
              with_reducible rfl
            rotate_left
            · simp only [Act.put, List.setIfInBounds_toArray, List.set_cons_zero, List.set_cons_succ, i64_w, i32_w]
              rfl
            refine pure_ (i := 24) (N := some 40) (v := ?_) (a' := ?_) #[true, true, true, true, true, true, true, true, true, true, true, true, true, true, true, true, true, true, true, true, true, true, true, true, true, true, true, false, false, false, true, true, false, false, false] rfl rfl (any_of HT_.out (by kernel_rfl)) (fun _ _ _ h => h) (Or.inl ⟨by rfl, ?_⟩) ?_ ?_
            rotate_left
            · intro w'
              go_simp
              with_reducible rfl
            rotate_left
            · simp only [Act.put, List.setIfInBounds_toArray, List.set_cons_zero, List.set_cons_succ, i64_w, i32_w]
              rfl
            refine one_ (i := 27) (N := some 43) #[true, true, true, true, true, true, true, true, true, true, true, true, true, true, true, true, true, true, true, true, true, true, true, true, true, true, true, true, false, false, true, true, false, false, false] rfl rfl (one_of HT_.out (by kernel_rfl)) (by decide) (fun K hK => ?_)
            refine goes_ Tryd.func28 (by kernel_rfl) rfl #[.string ((rd_T58 l0 x9_1).f5)] (by rfl) rfl rfl (by (try simp only [List.map_toArray, List.map_cons, List.map_nil]); first | done | rfl | (simp only [List.length_drop, List.length_take]; rfl)) ?_
            with_reducible refine (spec_octal.calls k1 ((rd_T58 l0 x9_1).f5) t186 _ A21.out).mono ?_
            rintro e w44 ⟨rfl, hb⟩
            refine ⟨_, rfl, ?_⟩
            have n0_ := Aside0.mk (blk_below (g := gb179) (o := .cells #[.int .i64 ((rd_T58 l0 x9_1).f0), .int .i64 ((rd_T58 l0 x9_1).f1), .int .i64 ((rd_T58 l0 x9_1).f2), .int .i64 ((rd_T58 l0 x9_1).f3), .string ((rd_T58 l0 x9_1).f4), .string ((rd_T58 l0 x9_1).f5), .string ((rd_T58 l0 x9_1).f6), .string ((rd_T58 l0 x9_1).f7), .string ((rd_T58 l0 x9_1).f8), .string ((rd_T58 l0 x9_1).f9), .string ((rd_T58 l0 x9_1).f10)] 58 (0, 0)) (by (with_reducible repeat (first | refine blk_drewN ?_ _ | refine blk_drew ?_ | refine blk_alloc ?_ _)); exact BK179.out) hb)
            have n1_ := Aside0.mk (below_step (by repeat (first | (with_reducible first | exact HB.out | apply below_alloc | apply pw_below_drewN | apply below_drew1 | refine below_set ?_ GE179.out) | exact HB.out)) hb)
            clear BK179
            clear HB
            have BK179 := n0_
            have HB := n1_
            clear n0_ n1_
            (try clear hb)
            (try clear hb2)
            (try clear hk)
            (try clear hi)
            refine hK.out _ _ ⟨(blk_cell BK179.out 0).trans rfl, (blk_cell BK179.out 1).trans rfl, (blk_cell BK179.out 2).trans rfl, (blk_cell BK179.out 3).trans rfl, (blk_cell BK179.out 4).trans rfl, (blk_cell BK179.out 5).trans rfl, (blk_cell BK179.out 6).trans rfl, (blk_cell BK179.out 7).trans rfl, (blk_cell BK179.out 8).trans rfl, (blk_cell BK179.out 9).trans rfl, (blk_cell BK179.out 10).trans rfl⟩ (fun hHeld => ?_)
            clear hK K
            refine norm_ (a' := ?_) ?_ ?_
            rotate_left
            · show Act.put _ (some 43) _ = _
              simp only [Act.put, List.setIfInBounds_toArray, List.set_cons_zero, List.set_cons_succ, i64_w, i32_w]
              rfl
            refine pure_ (i := 28) (N := some 44) (v := ?_) (a' := ?_) #[true, true, true, true, true, true, true, true, true, true, true, true, true, true, true, true, true, true, true, true, true, true, true, true, true, true, true, true, true, false, true, true, false, false, false] rfl rfl (any_of HT_.out (by kernel_rfl)) (fun _ _ _ h => h) (Or.inl ⟨by rfl, ?_⟩) ?_ ?_
            rotate_left
            · intro w'
              go_simp
              with_reducible rfl
            rotate_left
            · simp only [Act.put, List.setIfInBounds_toArray, List.set_cons_zero, List.set_cons_succ, i64_w, i32_w]
              rfl
            refine pure_ (i := 29) (N := some 45) (v := ?_) (a' := ?_) #[true, true, true, true, true, true, true, true, true, true, true, true, true, true, true, true, true, true, true, true, true, true, true, true, true, true, true, true, true, true, true, true, false, false, false] rfl rfl (any_of HT_.out (by kernel_rfl)) (fun _ _ _ h => h) (Or.inl ⟨by rfl, ?_⟩) ?_ ?_
            rotate_left
            · intro w'
              go_simp
              with_reducible rfl
            rotate_left
            · simp only [Act.put, List.setIfInBounds_toArray, List.set_cons_zero, List.set_cons_succ, i64_w, i32_w]
              rfl
            refine pure_ (i := 32) (N := some 48) (v := ?_) (a' := ?_) #[true, true, true, true, true, true, true, true, true, true, true, true, true, true, true, true, true, true, true, true, true, true, true, true, true, true, true, true, true, true, true, true, true, false, false] rfl rfl (any_of HT_.out (by kernel_rfl)) (fun _ _ _ h => h) (Or.inl ⟨by rfl, ?_⟩) ?_ ?_
            rotate_left
            · intro w'
              go_simp
              with_reducible rfl
            rotate_left
            · simp only [Act.put, List.setIfInBounds_toArray, List.set_cons_zero, List.set_cons_succ, i64_w, i32_w]
              rfl
            refine pure_ (i := 33) (N := some 49) (v := ?_) (a' := ?_) #[true, true, true, true, true, true, true, true, true, true, true, true, true, true, true, true, true, true, true, true, true, true, true, true, true, true, true, true, true, true, true, true, true, true, false] rfl rfl (any_of HT_.out (by kernel_rfl)) (fun _ _ _ h => h) (Or.inl ⟨by rfl, ?_⟩) ?_ ?_
            rotate_left
            · intro w'
              go_simp
              with_reducible rfl
            rotate_left
            · simp only [Act.put, List.setIfInBounds_toArray, List.set_cons_zero, List.set_cons_succ, i64_w, i32_w]
              rfl
            refine pure_ (i := 34) (N := some 4) (v := ?_) (a' := ?_) #[true, true, true, true, true, true, true, true, true, true, true, true, true, true, true, true, true, true, true, true, true, true, true, true, true, true, true, true, true, true, true, true, true, true, true] rfl rfl (any_of HT_.out (by kernel_rfl)) (fun _ _ _ h => h) (Or.inl ⟨by rfl, ?_⟩) ?_ ?_
            rotate_left
            · intro w'
              go_simp
              with_reducible rfl
            rotate_left
            · simp only [Act.put, List.setIfInBounds_toArray, List.set_cons_zero, List.set_cons_succ, i64_w, i32_w]
              rfl
            refine done_ (done_of HT_.out (by kernel_rfl)) ?_
            have hcz45_0 : w44.cell? ⟨gb179, 0, none⟩ = some (.int .i64 ((rd_T58 l0 x9_1).f0)) := (blk_cell BK179.out 0).trans rfl
            have hcz45_1 : w44.cell? ⟨gb179, 1, none⟩ = some (.int .i64 ((rd_T58 l0 x9_1).f1)) := (blk_cell BK179.out 1).trans rfl
            have hcz45_2 : w44.cell? ⟨gb179, 2, none⟩ = some (.int .i64 ((rd_T58 l0 x9_1).f2)) := (blk_cell BK179.out 2).trans rfl
            have hcz45_3 : w44.cell? ⟨gb179, 3, none⟩ = some (.int .i64 ((rd_T58 l0 x9_1).f3)) := (blk_cell BK179.out 3).trans rfl
            have hcz45_4 : w44.cell? ⟨gb179, 4, none⟩ = some (.string ((rd_T58 l0 x9_1).f4)) := (blk_cell BK179.out 4).trans rfl
            have hcz45_5 : w44.cell? ⟨gb179, 5, none⟩ = some (.string ((rd_T58 l0 x9_1).f5)) := (blk_cell BK179.out 5).trans rfl
            have hcz45_6 : w44.cell? ⟨gb179, 6, none⟩ = some (.string ((rd_T58 l0 x9_1).f6)) := (blk_cell BK179.out 6).trans rfl
            have hcz45_7 : w44.cell? ⟨gb179, 7, none⟩ = some (.string ((rd_T58 l0 x9_1).f7)) := (blk_cell BK179.out 7).trans rfl
            have hcz45_8 : w44.cell? ⟨gb179, 8, none⟩ = some (.string ((rd_T58 l0 x9_1).f8)) := (blk_cell BK179.out 8).trans rfl
            have hcz45_9 : w44.cell? ⟨gb179, 9, none⟩ = some (.string ((rd_T58 l0 x9_1).f9)) := (blk_cell BK179.out 9).trans rfl
            have hcz45_10 : w44.cell? ⟨gb179, 10, none⟩ = some (.string ((rd_T58 l0 x9_1).f10)) := (blk_cell BK179.out 10).trans rfl
            have hfz45_0 := blk_frozen BK179.out 0
            have hfz45_1 := blk_frozen BK179.out 1
            have hfz45_2 := blk_frozen BK179.out 2
            have hfz45_3 := blk_frozen BK179.out 3
            have hfz45_4 := blk_frozen BK179.out 4
            have hfz45_5 := blk_frozen BK179.out 5
            have hfz45_6 := blk_frozen BK179.out 6
            have hfz45_7 := blk_frozen BK179.out 7
            have hfz45_8 := blk_frozen BK179.out 8
            have hfz45_9 := blk_frozen BK179.out 9
            have hfz45_10 := blk_frozen BK179.out 10
            try go_wp2
            have n0_ := Aside0.mk (blk_drew BK179.out)
            have n1_ := Aside0.mk (below_drew1 HB.out)
            clear BK179
            clear HB
            have BK179 := n0_
            have HB := n1_
            clear n0_ n1_
            refine start_ (n := 16) (S := fun w' => w'.cell? ⟨gb179, 0, none⟩ = some (.int .i64 ((rd_T58 l0 x9_1).f0)) ∧ w'.cell? ⟨gb179, 1, none⟩ = some (.int .i64 ((rd_T58 l0 x9_1).f1)) ∧ w'.cell? ⟨gb179, 2, none⟩ = some (.int .i64 ((rd_T58 l0 x9_1).f2)) ∧ w'.cell? ⟨gb179, 3, none⟩ = some (.int .i64 ((rd_T58 l0 x9_1).f3)) ∧ w'.cell? ⟨gb179, 4, none⟩ = some (.string ((rd_T58 l0 x9_1).f4)) ∧ w'.cell? ⟨gb179, 5, none⟩ = some (.string ((rd_T58 l0 x9_1).f5)) ∧ w'.cell? ⟨gb179, 6, none⟩ = some (.string ((rd_T58 l0 x9_1).f6)) ∧ w'.cell? ⟨gb179, 7, none⟩ = some (.string ((rd_T58 l0 x9_1).f7)) ∧ w'.cell? ⟨gb179, 8, none⟩ = some (.string ((rd_T58 l0 x9_1).f8)) ∧ w'.cell? ⟨gb179, 9, none⟩ = some (.string ((rd_T58 l0 x9_1).f9)) ∧ w'.cell? ⟨gb179, 10, none⟩ = some (.string ((rd_T58 l0 x9_1).f10))) (ds := []) #[false, false, false, false, false, false, false, false, false, false, false, false, false, false, false, false] (by kernel_rfl) rfl rfl ⟨(blk_cell BK179.out 0).trans rfl, (blk_cell BK179.out 1).trans rfl, (blk_cell BK179.out 2).trans rfl, (blk_cell BK179.out 3).trans rfl, (blk_cell BK179.out 4).trans rfl, (blk_cell BK179.out 5).trans rfl, (blk_cell BK179.out 6).trans rfl, (blk_cell BK179.out 7).trans rfl, (blk_cell BK179.out 8).trans rfl, (blk_cell BK179.out 9).trans rfl, (blk_cell BK179.out 10).trans rfl⟩ (fun hHeld => ?_); refine with_tabW spec_MountsPrint.tab10 spec_MountsPrint.bits10 (fun HT_ HW_ => ?_)
            generalize w44.drew = w46 at BK179 HB hHeld ⊢
            refine pure_ (i := 0) (N := some 58) (v := ?_) (a' := ?_) #[true, false, false, false, false, false, false, false, false, false, false, false, false, false, false, false] rfl rfl (any_of HT_.out (by kernel_rfl)) (fun _ _ _ h => h) (Or.inl ⟨by rfl, ?_⟩) ?_ ?_
            rotate_left
            · intro w'
              go_simp
              with_reducible rfl
            rotate_left
            · simp only [Act.put, List.setIfInBounds_toArray, List.set_cons_zero, List.set_cons_succ, i64_w, i32_w]
              rfl
            refine pure_ (i := 1) (N := some 59) (v := ?_) (a' := ?_) #[true, true, false, false, false, false, false, false, false, false, false, false, false, false, false, false] rfl rfl (any_of HT_.out (by kernel_rfl)) (fun _ _ _ h => h) (Or.inl ⟨by rfl, ?_⟩) ?_ ?_
            rotate_left
            · intro w'
              go_simp
              with_reducible rfl
            rotate_left
            · simp only [Act.put, List.setIfInBounds_toArray, List.set_cons_zero, List.set_cons_succ, i64_w, i32_w]
              rfl
            refine pure_ (i := 5) (N := some 63) (v := ?_) (a' := ?_) #[true, true, false, false, false, true, false, false, false, false, false, false, false, false, false, false] rfl rfl (any_of HT_.out (by kernel_rfl)) (fun _ _ _ h => h) (Or.inl ⟨by rfl, ?_⟩) ?_ ?_
            rotate_left
            · intro w'
              go_simp
              with_reducible rfl
            rotate_left
            · simp only [Act.put, List.setIfInBounds_toArray, List.set_cons_zero, List.set_cons_succ, i64_w, i32_w]
              rfl
            refine pure_ (i := 10) (N := some 68) (v := ?_) (a' := ?_) #[true, true, false, false, false, true, false, false, false, false, true, false, false, false, false, false] rfl rfl (any_of HT_.out (by kernel_rfl)) (fun _ _ _ h => h) (Or.inl ⟨by rfl, ?_⟩) ?_ ?_
            rotate_left
            · intro w'
              go_simp
              with_reducible rfl
            rotate_left
            · simp only [Act.put, List.setIfInBounds_toArray, List.set_cons_zero, List.set_cons_succ, i64_w, i32_w]
              rfl
            refine take_ (i := 2) (N := some 60) (v := ?_) (a' := ?_) #[true, true, true, false, false, true, false, false, false, false, true, false, false, false, false, false] rfl rfl (take_ofW HT_.out HW_.out (by kernel_rfl)) (fun _ _ _ h => h) (Or.inl ⟨by rfl, ?_⟩) hHeld ?_ ?_
            rotate_left
            · rintro w' ⟨s0, s1, s2, s3, s4, s5, s6, s7, s8, s9, s10⟩
              go_simp
              with_reducible rfl
            rotate_left
            · simp only [Act.put, List.setIfInBounds_toArray, List.set_cons_zero, List.set_cons_succ, i64_w, i32_w]
              rfl
            refine pure_ (i := 3) (N := some 61) (v := ?_) (a' := ?_) #[true, true, true, true, false, true, false, false, false, false, true, false, false, false, false, false] rfl rfl (any_of HT_.out (by kernel_rfl)) (fun _ _ _ h => h) (Or.inl ⟨by rfl, ?_⟩) ?_ ?_
            rotate_left
            · intro w'
              go_simp
              with_reducible rfl
            rotate_left
            · simp only [Act.put, List.setIfInBounds_toArray, List.set_cons_zero, List.set_cons_succ, i64_w, i32_w]
              rfl
            refine pure_ (i := 4) (N := some 62) (v := ?_) (a' := ?_) #[true, true, true, true, true, true, false, false, false, false, true, false, false, false, false, false] rfl rfl (any_of HT_.out (by kernel_rfl)) (fun _ _ _ h => h) (Or.inl ⟨by rfl, ?_⟩) ?_ ?_
            rotate_left
            · intro w'
              go_simp
              with_reducible rfl
            rotate_left
            · simp only [Act.put, List.setIfInBounds_toArray, List.set_cons_zero, List.set_cons_succ, i64_w, i32_w]
              rfl
            refine take_ (i := 6) (N := some 64) (v := ?_) (a' := ?_) #[true, true, true, true, true, true, true, false, false, false, true, false, false, false, false, false] rfl rfl (take_ofW HT_.out HW_.out (by kernel_rfl)) (fun _ _ _ h => h) (Or.inl ⟨by rfl, ?_⟩) hHeld ?_ ?_
            rotate_left
            · rintro w' ⟨s0, s1, s2, s3, s4, s5, s6, s7, s8, s9, s10⟩
              go_simp
              with_reducible rfl
            rotate_left
            · simp only [Act.put, List.setIfInBounds_toArray, List.set_cons_zero, List.set_cons_succ, i64_w, i32_w]
              rfl
            refine take_ (i := 11) (N := some 69) (v := ?_) (a' := ?_) #[true, true, true, true, true, true, true, false, false, false, true, true, false, false, false, false] rfl rfl (take_ofW HT_.out HW_.out (by kernel_rfl)) (fun _ _ _ h => h) (Or.inl ⟨by rfl, ?_⟩) hHeld ?_ ?_
            rotate_left
            · rintro w' ⟨s0, s1, s2, s3, s4, s5, s6, s7, s8, s9, s10⟩
              go_simp
              with_reducible rfl
            rotate_left
            · simp only [Act.put, List.setIfInBounds_toArray, List.set_cons_zero, List.set_cons_succ, i64_w, i32_w]
              rfl
            refine one_ (i := 7) (N := some 65) #[true, true, true, true, true, true, true, true, false, false, true, true, false, false, false, false] rfl rfl (one_of HT_.out (by kernel_rfl)) (by decide) (fun K hK => ?_)
            refine goes_ Tryd.func28 (by kernel_rfl) rfl #[.string ((rd_T58 l0 x9_1).f9)] (by rfl) rfl rfl (by (try simp only [List.map_toArray, List.map_cons, List.map_nil]); first | done | rfl | (simp only [List.length_drop, List.length_take]; rfl)) ?_
            with_reducible refine (spec_octal.calls k1 ((rd_T58 l0 x9_1).f9) t187 _ A29.out).mono ?_
            rintro e w47 ⟨rfl, hb⟩
            refine ⟨_, rfl, ?_⟩
            have n0_ := Aside0.mk (blk_below (g := gb179) (o := .cells #[.int .i64 ((rd_T58 l0 x9_1).f0), .int .i64 ((rd_T58 l0 x9_1).f1), .int .i64 ((rd_T58 l0 x9_1).f2), .int .i64 ((rd_T58 l0 x9_1).f3), .string ((rd_T58 l0 x9_1).f4), .string ((rd_T58 l0 x9_1).f5), .string ((rd_T58 l0 x9_1).f6), .string ((rd_T58 l0 x9_1).f7), .string ((rd_T58 l0 x9_1).f8), .string ((rd_T58 l0 x9_1).f9), .string ((rd_T58 l0 x9_1).f10)] 58 (0, 0)) (by (with_reducible repeat (first | refine blk_drewN ?_ _ | refine blk_drew ?_ | refine blk_alloc ?_ _)); exact BK179.out) hb)
            have n1_ := Aside0.mk (below_step (by repeat (first | (with_reducible first | exact HB.out | apply below_alloc | apply pw_below_drewN | apply below_drew1 | refine below_set ?_ GE179.out) | exact HB.out)) hb)
            clear BK179
            clear HB
            have BK179 := n0_
            have HB := n1_
            clear n0_ n1_
            (try clear hb)
            (try clear hb2)
            (try clear hk)
            (try clear hi)
            refine hK.out _ _ ⟨(blk_cell BK179.out 0).trans rfl, (blk_cell BK179.out 1).trans rfl, (blk_cell BK179.out 2).trans rfl, (blk_cell BK179.out 3).trans rfl, (blk_cell BK179.out 4).trans rfl, (blk_cell BK179.out 5).trans rfl, (blk_cell BK179.out 6).trans rfl, (blk_cell BK179.out 7).trans rfl, (blk_cell BK179.out 8).trans rfl, (blk_cell BK179.out 9).trans rfl, (blk_cell BK179.out 10).trans rfl⟩ (fun hHeld => ?_)
            clear hK K
            refine norm_ (a' := ?_) ?_ ?_
            rotate_left
            · show Act.put _ (some 65) _ = _
              simp only [Act.put, List.setIfInBounds_toArray, List.set_cons_zero, List.set_cons_succ, i64_w, i32_w]
              rfl
            refine pure_ (i := 8) (N := some 66) (v := ?_) (a' := ?_) #[true, true, true, true, true, true, true, true, true, false, true, true, false, false, false, false] rfl rfl (any_of HT_.out (by kernel_rfl)) (fun _ _ _ h => h) (Or.inl ⟨by rfl, ?_⟩) ?_ ?_
            rotate_left
            · intro w'
              go_simp
              with_reducible rfl
            rotate_left
            · simp only [Act.put, List.setIfInBounds_toArray, List.set_cons_zero, List.set_cons_succ, i64_w, i32_w]
              rfl
            refine pure_ (i := 9) (N := some 67) (v := ?_) (a' := ?_) #[true, true, true, true, true, true, true, true, true, true, true, true, false, false, false, false] rfl rfl (any_of HT_.out (by kernel_rfl)) (fun _ _ _ h => h) (Or.inl ⟨by rfl, ?_⟩) ?_ ?_
            rotate_left
            · intro w'
              go_simp
              with_reducible rfl
            rotate_left
            · simp only [Act.put, List.setIfInBounds_toArray, List.set_cons_zero, List.set_cons_succ, i64_w, i32_w]
              rfl
            refine pure_ (i := 12) (N := some 70) (v := ?_) (a' := ?_) #[true, true, true, true, true, true, true, true, true, true, true, true, true, false, false, false] rfl rfl (any_of HT_.out (by kernel_rfl)) (fun _ _ _ h => h) (Or.inl ⟨by rfl, ?_⟩) ?_ ?_
            rotate_left
            · intro w'
              go_simp
              with_reducible rfl
            rotate_left
            · simp only [Act.put, List.setIfInBounds_toArray, List.set_cons_zero, List.set_cons_succ, i64_w, i32_w]
              rfl
            refine pure_ (i := 13) (N := some 71) (v := ?_) (a' := ?_) #[true, true, true, true, true, true, true, true, true, true, true, true, true, true, false, false] rfl rfl (any_of HT_.out (by kernel_rfl)) (fun _ _ _ h => h) (Or.inl ⟨by rfl, ?_⟩) ?_ ?_
            rotate_left
            · intro w'
              go_simp
              with_reducible rfl
            rotate_left
            · simp only [Act.put, List.setIfInBounds_toArray, List.set_cons_zero, List.set_cons_succ, i64_w, i32_w]
              rfl
            refine pure_ (i := 14) (N := some 72) (v := ?_) (a' := ?_) #[true, true, true, true, true, true, true, true, true, true, true, true, true, true, true, false] rfl rfl (any_of HT_.out (by kernel_rfl)) (fun _ _ _ h => h) (Or.inl ⟨by rfl, ?_⟩) ?_ ?_
            rotate_left
            · intro w'
              go_simp
              with_reducible rfl
            rotate_left
            · simp only [Act.put, List.setIfInBounds_toArray, List.set_cons_zero, List.set_cons_succ, i64_w, i32_w]
              rfl
            refine pure_ (i := 15) (N := some 4) (v := ?_) (a' := ?_) #[true, true, true, true, true, true, true, true, true, true, true, true, true, true, true, true] rfl rfl (any_of HT_.out (by kernel_rfl)) (fun _ _ _ h => h) (Or.inl ⟨by rfl, ?_⟩) ?_ ?_
            rotate_left
            · intro w'
              go_simp
              with_reducible rfl
            rotate_left
            · simp only [Act.put, List.setIfInBounds_toArray, List.set_cons_zero, List.set_cons_succ, i64_w, i32_w]
              rfl
            refine done_ (done_of HT_.out (by kernel_rfl)) ?_
            try go_wp2
            go_roundg k1
            case measure => have := HK1.out; omega
            case rel => exact ⟨((x4_1 ++ ((((((((((((t181 ++ (⟨#[32]⟩ : ByteArray)) ++ t182) ++ (⟨#[32]⟩ : ByteArray)) ++ t183) ++ (⟨#[58]⟩ : ByteArray)) ++ t184) ++ (⟨#[32]⟩ : ByteArray)) ++ t185) ++ (⟨#[32]⟩ : ByteArray)) ++ t186) ++ (⟨#[32]⟩ : ByteArray)) ++ ((rd_T58 l0 x9_1).f6))) ++ (((((((⟨#[32, 45, 32]⟩ : ByteArray) ++ ((rd_T58 l0 x9_1).f8)) ++ (⟨#[32]⟩ : ByteArray)) ++ t187) ++ (⟨#[32]⟩ : ByteArray)) ++ ((rd_T58 l0 x9_1).f10)) ++ (⟨#[10]⟩ : ByteArray))), (wrap64 (x9_1 + 1)), (by first | rfl | (simp; done) | (simp [*]; done)), (by first | rfl | (simp; done) | (simp [*]; done)), H', ⟨by have := HK1.out; omega⟩, ⟨by repeat (first | (with_reducible first | exact HB.out | apply below_alloc | apply pw_below_drewN | apply below_drew1 | refine below_set ?_ GE179.out) | exact HB.out)⟩⟩
          · rw [if_neg c26] at H
            have c26b0 : (((rd_T58 l0 x9_1).f7).toList == ([] : List UInt8)) = false := beq_eq_false_iff_ne.mpr c26
            have c26b1 : (((rd_T58 l0 x9_1).f7).toList != ([] : List UInt8)) = true := bne_iff_ne.mpr c26
            replace H := guard_inv H
            obtain ⟨c48, H⟩ := H
            have c48b0 := eq_true c48
            have c48b1 := decide_eq_true c48
            try have c48b2 := eq_false (Nat.not_lt.2 c48)
            replace H := guard_inv H
            obtain ⟨c49, H⟩ := H
            have c49b0 := eq_true c49
            have c49b1 := decide_eq_true c49
            try have c49b2 := eq_false (Nat.not_lt.2 c49)
            try have c49b5 : (9223372036854775807 < x4_1.size + (t181.size + 1 + t182.size + 1 + t183.size + 1 + t184.size + 1 + t185.size + 1 + t186.size + 1 + ((rd_T58 l0 x9_1).f6).size) + (1 + ((rd_T58 l0 x9_1).f7).size)) = False := by have e_ := c49b2; (repeat rw [ByteArray.size_append] at e_); exact e_
            replace H := guard_inv H
            obtain ⟨c50, H⟩ := H
            have c50b0 := eq_true c50
            have c50b1 := decide_eq_true c50
            try have c50b2 := eq_false (Nat.not_lt.2 c50)
            replace H := guard_inv H
            obtain ⟨c51, H⟩ := H
            have c51b0 := eq_true c51
            have c51b1 := decide_eq_true c51
            try have c51b2 := eq_false (Nat.not_lt.2 c51)
            try have c51b5 : (9223372036854775807 < 3 + ((rd_T58 l0 x9_1).f8).size + 1) = False := by have e_ := c51b2; (repeat rw [ByteArray.size_append] at e_); exact e_
            replace H := Option.bind_eq_some_iff.mp H
            obtain ⟨t188, A520, H⟩ := H
            try dsimp -simprocs only at H
            have A52 := Aside0.mk A520
            clear A520
            replace H := guard_inv H
            obtain ⟨c53, H⟩ := H
            have c53b0 := eq_true c53
            have c53b1 := decide_eq_true c53
            try have c53b2 := eq_false (Nat.not_lt.2 c53)
            try have c53b5 : (9223372036854775807 < 3 + ((rd_T58 l0 x9_1).f8).size + 1 + t188.size) = False := by have e_ := c53b2; (repeat rw [ByteArray.size_append] at e_); exact e_
            replace H := guard_inv H
            obtain ⟨c54, H⟩ := H
            have c54b0 := eq_true c54
            have c54b1 := decide_eq_true c54
            try have c54b2 := eq_false (Nat.not_lt.2 c54)
            try have c54b5 : (9223372036854775807 < 3 + ((rd_T58 l0 x9_1).f8).size + 1 + t188.size + 1) = False := by have e_ := c54b2; (repeat rw [ByteArray.size_append] at e_); exact e_
            replace H := guard_inv H
            obtain ⟨c55, H⟩ := H
            have c55b0 := eq_true c55
            have c55b1 := decide_eq_true c55
            try have c55b2 := eq_false (Nat.not_lt.2 c55)
            try have c55b5 : (9223372036854775807 < 3 + ((rd_T58 l0 x9_1).f8).size + 1 + t188.size + 1 + ((rd_T58 l0 x9_1).f10).size) = False := by have e_ := c55b2; (repeat rw [ByteArray.size_append] at e_); exact e_
            replace H := guard_inv H
            obtain ⟨c56, H⟩ := H
            have c56b0 := eq_true c56
            have c56b1 := decide_eq_true c56
            try have c56b2 := eq_false (Nat.not_lt.2 c56)
            try have c56b5 : (9223372036854775807 < 3 + ((rd_T58 l0 x9_1).f8).size + 1 + t188.size + 1 + ((rd_T58 l0 x9_1).f10).size + 1) = False := by have e_ := c56b2; (repeat rw [ByteArray.size_append] at e_); exact e_
            replace H := guard_inv H
            obtain ⟨c57, H⟩ := H
            have c57b0 := eq_true c57
            have c57b1 := decide_eq_true c57
            try have c57b2 := eq_false (Nat.not_lt.2 c57)
            try have c57b5 : (9223372036854775807 < x4_1.size + (t181.size + 1 + t182.size + 1 + t183.size + 1 + t184.size + 1 + t185.size + 1 + t186.size + 1 + ((rd_T58 l0 x9_1).f6).size) + (1 + ((rd_T58 l0 x9_1).f7).size) + (3 + ((rd_T58 l0 x9_1).f8).size + 1 + t188.size + 1 + ((rd_T58 l0 x9_1).f10).size + 1)) = False := by have e_ := c57b2; (repeat rw [ByteArray.size_append] at e_); exact e_
            have H' := Aside0.mk H
            clear H
            have p178 : 0 ≤ (x9_1 : Int) := of_decide_eq_true (by first | (with_reducible assumption) | assumption)
            have q178 : x9_1 < (l0.length : Int) := of_decide_eq_true (by first | (with_reducible assumption) | assumption)
            obtain ⟨ad178, e178, hx178_0, hx178_1, hx178_2, hx178_3, hx178_4, hx178_5, hx178_6, hx178_7, hx178_8, hx178_9, hx178_10⟩ := at_T58 HR0.out x9_1 p178 q178
            cases e178
            replace hx178_0 := (HB.out.cell (World.block_lt_of_cell? w _ hx178_0)).trans hx178_0
            replace hx178_1 := (HB.out.cell (World.block_lt_of_cell? w _ hx178_1)).trans hx178_1
            replace hx178_2 := (HB.out.cell (World.block_lt_of_cell? w _ hx178_2)).trans hx178_2
            replace hx178_3 := (HB.out.cell (World.block_lt_of_cell? w _ hx178_3)).trans hx178_3
            replace hx178_4 := (HB.out.cell (World.block_lt_of_cell? w _ hx178_4)).trans hx178_4
            replace hx178_5 := (HB.out.cell (World.block_lt_of_cell? w _ hx178_5)).trans hx178_5
            replace hx178_6 := (HB.out.cell (World.block_lt_of_cell? w _ hx178_6)).trans hx178_6
            replace hx178_7 := (HB.out.cell (World.block_lt_of_cell? w _ hx178_7)).trans hx178_7
            replace hx178_8 := (HB.out.cell (World.block_lt_of_cell? w _ hx178_8)).trans hx178_8
            replace hx178_9 := (HB.out.cell (World.block_lt_of_cell? w _ hx178_9)).trans hx178_9
            replace hx178_10 := (HB.out.cell (World.block_lt_of_cell? w _ hx178_10)).trans hx178_10
            replace p178 := eq_true p178
            replace q178 := eq_true q178
            try go_wp2_with (first | ((with_reducible refine gate_dst (N := 6) rfl ?_); refine box_event ?hg (N := 6) ?hd (cs := #[.int .i64 0, .int .i64 0, .int .i64 0, .int .i64 0, .string (⟨#[]⟩ : ByteArray), .string (⟨#[]⟩ : ByteArray), .string (⟨#[]⟩ : ByteArray), .string (⟨#[]⟩ : ByteArray), .string (⟨#[]⟩ : ByteArray), .string (⟨#[]⟩ : ByteArray), .string (⟨#[]⟩ : ByteArray)]) (t := 58) ?hr ?_; (case hd => rfl); (case hg => rfl); (case hr => first | (go_simp; done) | (go_simp; rfl)); intro gb179 hg w58 hbox hb; have n0_ := Aside0.mk (below_step (by repeat (first | (with_reducible first | exact HB.out | apply below_alloc | apply pw_below_drewN | apply below_drew1) | exact HB.out)) hb); have n1_ := Aside0.mk (hbox); have n2_ := Aside0.mk ((by rw [hg]; exact (below_size (by repeat (first | (with_reducible first | exact HB.out | apply below_alloc | apply pw_below_drewN | apply below_drew1) | exact HB.out))) : w.heap.size ≤ gb179)); have n3_ := Aside0.mk ((by rw [hg]; exact (below_size (by repeat (first | (with_reducible first | exact HB.out | apply below_alloc | apply pw_below_drewN | apply below_drew1) | exact HB.out))) : w.heap.size ≤ gb179)); clear HB; have HB := n0_; have BK179 := n1_; have GW179 := n2_; have GE179 := n3_; clear n0_ n1_ n2_ n3_; clear hb hbox hg; have hcz59_0 : w58.cell? ⟨gb179, 0, none⟩ = some (.int .i64 0) := (blk_cell BK179.out 0).trans rfl; have hcz59_1 : w58.cell? ⟨gb179, 1, none⟩ = some (.int .i64 0) := (blk_cell BK179.out 1).trans rfl; have hcz59_2 : w58.cell? ⟨gb179, 2, none⟩ = some (.int .i64 0) := (blk_cell BK179.out 2).trans rfl; have hcz59_3 : w58.cell? ⟨gb179, 3, none⟩ = some (.int .i64 0) := (blk_cell BK179.out 3).trans rfl; have hcz59_4 : w58.cell? ⟨gb179, 4, none⟩ = some (.string (⟨#[]⟩ : ByteArray)) := (blk_cell BK179.out 4).trans rfl; have hcz59_5 : w58.cell? ⟨gb179, 5, none⟩ = some (.string (⟨#[]⟩ : ByteArray)) := (blk_cell BK179.out 5).trans rfl; have hcz59_6 : w58.cell? ⟨gb179, 6, none⟩ = some (.string (⟨#[]⟩ : ByteArray)) := (blk_cell BK179.out 6).trans rfl; have hcz59_7 : w58.cell? ⟨gb179, 7, none⟩ = some (.string (⟨#[]⟩ : ByteArray)) := (blk_cell BK179.out 7).trans rfl; have hcz59_8 : w58.cell? ⟨gb179, 8, none⟩ = some (.string (⟨#[]⟩ : ByteArray)) := (blk_cell BK179.out 8).trans rfl; have hcz59_9 : w58.cell? ⟨gb179, 9, none⟩ = some (.string (⟨#[]⟩ : ByteArray)) := (blk_cell BK179.out 9).trans rfl; have hcz59_10 : w58.cell? ⟨gb179, 10, none⟩ = some (.string (⟨#[]⟩ : ByteArray)) := (blk_cell BK179.out 10).trans rfl; have hfz59_0 := blk_frozen BK179.out 0; have hfz59_1 := blk_frozen BK179.out 1; have hfz59_2 := blk_frozen BK179.out 2; have hfz59_3 := blk_frozen BK179.out 3; have hfz59_4 := blk_frozen BK179.out 4; have hfz59_5 := blk_frozen BK179.out 5; have hfz59_6 := blk_frozen BK179.out 6; have hfz59_7 := blk_frozen BK179.out 7; have hfz59_8 := blk_frozen BK179.out 8; have hfz59_9 := blk_frozen BK179.out 9; have hfz59_10 := blk_frozen BK179.out 10) | ((with_reducible refine gate_callee (f := 26) rfl ?_); refine goesL_ (some 14) rfl rfl Tryd.func26 (by kernel_rfl) rfl #[.agg #[.int .i64 ((rd_T58 l0 x9_1).f0), .int .i64 ((rd_T58 l0 x9_1).f1), .int .i64 ((rd_T58 l0 x9_1).f2), .int .i64 ((rd_T58 l0 x9_1).f3), .string ((rd_T58 l0 x9_1).f4), .string ((rd_T58 l0 x9_1).f5), .string ((rd_T58 l0 x9_1).f6), .string ((rd_T58 l0 x9_1).f7), .string ((rd_T58 l0 x9_1).f8), .string ((rd_T58 l0 x9_1).f9), .string ((rd_T58 l0 x9_1).f10)]] rfl (by (try simp only [List.map_toArray, List.map_cons, List.map_nil]); first | done | rfl | (simp only [List.length_drop, List.length_take]; rfl)) ?_; (with_reducible refine (spec_mountValid.calls k1 ((rd_T58 l0 x9_1).f0) ((rd_T58 l0 x9_1).f1) ((rd_T58 l0 x9_1).f2) ((rd_T58 l0 x9_1).f3) ((rd_T58 l0 x9_1).f4) ((rd_T58 l0 x9_1).f5) ((rd_T58 l0 x9_1).f6) ((rd_T58 l0 x9_1).f7) ((rd_T58 l0 x9_1).f8) ((rd_T58 l0 x9_1).f9) ((rd_T58 l0 x9_1).f10) true _ A5.out).mono ?_); rintro e w60 ⟨rfl, hb⟩; refine ⟨_, rfl, ?_⟩; have n0_ := Aside0.mk (blk_below (g := gb179) (o := .cells #[.int .i64 ((rd_T58 l0 x9_1).f0), .int .i64 ((rd_T58 l0 x9_1).f1), .int .i64 ((rd_T58 l0 x9_1).f2), .int .i64 ((rd_T58 l0 x9_1).f3), .string ((rd_T58 l0 x9_1).f4), .string ((rd_T58 l0 x9_1).f5), .string ((rd_T58 l0 x9_1).f6), .string ((rd_T58 l0 x9_1).f7), .string ((rd_T58 l0 x9_1).f8), .string ((rd_T58 l0 x9_1).f9), .string ((rd_T58 l0 x9_1).f10)] 58 (0, 0)) (by (with_reducible repeat (first | refine blk_drewN ?_ _ | refine blk_drew ?_ | refine blk_alloc ?_ _)); refine blk_put (cs := #[.int .i64 ((rd_T58 l0 x9_1).f0), .int .i64 ((rd_T58 l0 x9_1).f1), .int .i64 ((rd_T58 l0 x9_1).f2), .int .i64 ((rd_T58 l0 x9_1).f3), .string ((rd_T58 l0 x9_1).f4), .string ((rd_T58 l0 x9_1).f5), .string ((rd_T58 l0 x9_1).f6), .string ((rd_T58 l0 x9_1).f7), .string ((rd_T58 l0 x9_1).f8), .string ((rd_T58 l0 x9_1).f9), .string (⟨#[]⟩ : ByteArray)]) ?_ 10 _ rfl; (with_reducible repeat (first | refine blk_drewN ?_ _ | refine blk_drew ?_ | refine blk_alloc ?_ _)); refine blk_put (cs := #[.int .i64 ((rd_T58 l0 x9_1).f0), .int .i64 ((rd_T58 l0 x9_1).f1), .int .i64 ((rd_T58 l0 x9_1).f2), .int .i64 ((rd_T58 l0 x9_1).f3), .string ((rd_T58 l0 x9_1).f4), .string ((rd_T58 l0 x9_1).f5), .string ((rd_T58 l0 x9_1).f6), .string ((rd_T58 l0 x9_1).f7), .string ((rd_T58 l0 x9_1).f8), .string (⟨#[]⟩ : ByteArray), .string (⟨#[]⟩ : ByteArray)]) ?_ 9 _ rfl; (with_reducible repeat (first | refine blk_drewN ?_ _ | refine blk_drew ?_ | refine blk_alloc ?_ _)); refine blk_put (cs := #[.int .i64 ((rd_T58 l0 x9_1).f0), .int .i64 ((rd_T58 l0 x9_1).f1), .int .i64 ((rd_T58 l0 x9_1).f2), .int .i64 ((rd_T58 l0 x9_1).f3), .string ((rd_T58 l0 x9_1).f4), .string ((rd_T58 l0 x9_1).f5), .string ((rd_T58 l0 x9_1).f6), .string ((rd_T58 l0 x9_1).f7), .string (⟨#[]⟩ : ByteArray), .string (⟨#[]⟩ : ByteArray), .string (⟨#[]⟩ : ByteArray)]) ?_ 8 _ rfl; (with_reducible repeat (first | refine blk_drewN ?_ _ | refine blk_drew ?_ | refine blk_alloc ?_ _)); refine blk_put (cs := #[.int .i64 ((rd_T58 l0 x9_1).f0), .int .i64 ((rd_T58 l0 x9_1).f1), .int .i64 ((rd_T58 l0 x9_1).f2), .int .i64 ((rd_T58 l0 x9_1).f3), .string ((rd_T58 l0 x9_1).f4), .string ((rd_T58 l0 x9_1).f5), .string ((rd_T58 l0 x9_1).f6), .string (⟨#[]⟩ : ByteArray), .string (⟨#[]⟩ : ByteArray), .string (⟨#[]⟩ : ByteArray), .string (⟨#[]⟩ : ByteArray)]) ?_ 7 _ rfl; (with_reducible repeat (first | refine blk_drewN ?_ _ | refine blk_drew ?_ | refine blk_alloc ?_ _)); refine blk_put (cs := #[.int .i64 ((rd_T58 l0 x9_1).f0), .int .i64 ((rd_T58 l0 x9_1).f1), .int .i64 ((rd_T58 l0 x9_1).f2), .int .i64 ((rd_T58 l0 x9_1).f3), .string ((rd_T58 l0 x9_1).f4), .string ((rd_T58 l0 x9_1).f5), .string (⟨#[]⟩ : ByteArray), .string (⟨#[]⟩ : ByteArray), .string (⟨#[]⟩ : ByteArray), .string (⟨#[]⟩ : ByteArray), .string (⟨#[]⟩ : ByteArray)]) ?_ 6 _ rfl; (with_reducible repeat (first | refine blk_drewN ?_ _ | refine blk_drew ?_ | refine blk_alloc ?_ _)); refine blk_put (cs := #[.int .i64 ((rd_T58 l0 x9_1).f0), .int .i64 ((rd_T58 l0 x9_1).f1), .int .i64 ((rd_T58 l0 x9_1).f2), .int .i64 ((rd_T58 l0 x9_1).f3), .string ((rd_T58 l0 x9_1).f4), .string (⟨#[]⟩ : ByteArray), .string (⟨#[]⟩ : ByteArray), .string (⟨#[]⟩ : ByteArray), .string (⟨#[]⟩ : ByteArray), .string (⟨#[]⟩ : ByteArray), .string (⟨#[]⟩ : ByteArray)]) ?_ 5 _ rfl; (with_reducible repeat (first | refine blk_drewN ?_ _ | refine blk_drew ?_ | refine blk_alloc ?_ _)); refine blk_put (cs := #[.int .i64 ((rd_T58 l0 x9_1).f0), .int .i64 ((rd_T58 l0 x9_1).f1), .int .i64 ((rd_T58 l0 x9_1).f2), .int .i64 ((rd_T58 l0 x9_1).f3), .string (⟨#[]⟩ : ByteArray), .string (⟨#[]⟩ : ByteArray), .string (⟨#[]⟩ : ByteArray), .string (⟨#[]⟩ : ByteArray), .string (⟨#[]⟩ : ByteArray), .string (⟨#[]⟩ : ByteArray), .string (⟨#[]⟩ : ByteArray)]) ?_ 4 _ rfl; (with_reducible repeat (first | refine blk_drewN ?_ _ | refine blk_drew ?_ | refine blk_alloc ?_ _)); refine blk_put (cs := #[.int .i64 ((rd_T58 l0 x9_1).f0), .int .i64 ((rd_T58 l0 x9_1).f1), .int .i64 ((rd_T58 l0 x9_1).f2), .int .i64 0, .string (⟨#[]⟩ : ByteArray), .string (⟨#[]⟩ : ByteArray), .string (⟨#[]⟩ : ByteArray), .string (⟨#[]⟩ : ByteArray), .string (⟨#[]⟩ : ByteArray), .string (⟨#[]⟩ : ByteArray), .string (⟨#[]⟩ : ByteArray)]) ?_ 3 _ rfl; (with_reducible repeat (first | refine blk_drewN ?_ _ | refine blk_drew ?_ | refine blk_alloc ?_ _)); refine blk_put (cs := #[.int .i64 ((rd_T58 l0 x9_1).f0), .int .i64 ((rd_T58 l0 x9_1).f1), .int .i64 0, .int .i64 0, .string (⟨#[]⟩ : ByteArray), .string (⟨#[]⟩ : ByteArray), .string (⟨#[]⟩ : ByteArray), .string (⟨#[]⟩ : ByteArray), .string (⟨#[]⟩ : ByteArray), .string (⟨#[]⟩ : ByteArray), .string (⟨#[]⟩ : ByteArray)]) ?_ 2 _ rfl; (with_reducible repeat (first | refine blk_drewN ?_ _ | refine blk_drew ?_ | refine blk_alloc ?_ _)); refine blk_put (cs := #[.int .i64 ((rd_T58 l0 x9_1).f0), .int .i64 0, .int .i64 0, .int .i64 0, .string (⟨#[]⟩ : ByteArray), .string (⟨#[]⟩ : ByteArray), .string (⟨#[]⟩ : ByteArray), .string (⟨#[]⟩ : ByteArray), .string (⟨#[]⟩ : ByteArray), .string (⟨#[]⟩ : ByteArray), .string (⟨#[]⟩ : ByteArray)]) ?_ 1 _ rfl; (with_reducible repeat (first | refine blk_drewN ?_ _ | refine blk_drew ?_ | refine blk_alloc ?_ _)); refine blk_put (cs := #[.int .i64 0, .int .i64 0, .int .i64 0, .int .i64 0, .string (⟨#[]⟩ : ByteArray), .string (⟨#[]⟩ : ByteArray), .string (⟨#[]⟩ : ByteArray), .string (⟨#[]⟩ : ByteArray), .string (⟨#[]⟩ : ByteArray), .string (⟨#[]⟩ : ByteArray), .string (⟨#[]⟩ : ByteArray)]) ?_ 0 _ rfl; (with_reducible repeat (first | refine blk_drewN ?_ _ | refine blk_drew ?_ | refine blk_alloc ?_ _)); exact BK179.out) hb); have n1_ := Aside0.mk (below_step (by repeat (first | (with_reducible first | exact HB.out | apply below_alloc | apply pw_below_drewN | apply below_drew1 | refine below_set ?_ GE179.out) | exact HB.out)) hb); clear BK179; clear HB; have BK179 := n0_; have HB := n1_; clear n0_ n1_; (try clear hb); (try clear hb2); (try clear hk); (try clear hi)))
            have n0_ := Aside0.mk (blk_drew BK179.out)
            have n1_ := Aside0.mk (below_drew1 HB.out)
            clear BK179
            clear HB
            have BK179 := n0_
            have HB := n1_
            clear n0_ n1_
            refine start_ (n := 35) (S := fun w' => w'.cell? ⟨gb179, 0, none⟩ = some (.int .i64 ((rd_T58 l0 x9_1).f0)) ∧ w'.cell? ⟨gb179, 1, none⟩ = some (.int .i64 ((rd_T58 l0 x9_1).f1)) ∧ w'.cell? ⟨gb179, 2, none⟩ = some (.int .i64 ((rd_T58 l0 x9_1).f2)) ∧ w'.cell? ⟨gb179, 3, none⟩ = some (.int .i64 ((rd_T58 l0 x9_1).f3)) ∧ w'.cell? ⟨gb179, 4, none⟩ = some (.string ((rd_T58 l0 x9_1).f4)) ∧ w'.cell? ⟨gb179, 5, none⟩ = some (.string ((rd_T58 l0 x9_1).f5)) ∧ w'.cell? ⟨gb179, 6, none⟩ = some (.string ((rd_T58 l0 x9_1).f6)) ∧ w'.cell? ⟨gb179, 7, none⟩ = some (.string ((rd_T58 l0 x9_1).f7)) ∧ w'.cell? ⟨gb179, 8, none⟩ = some (.string ((rd_T58 l0 x9_1).f8)) ∧ w'.cell? ⟨gb179, 9, none⟩ = some (.string ((rd_T58 l0 x9_1).f9)) ∧ w'.cell? ⟨gb179, 10, none⟩ = some (.string ((rd_T58 l0 x9_1).f10))) (ds := []) #[false, false, false, false, false, false, false, false, false, false, false, false, false, false, false, false, false, false, false, false, false, false, false, false, false, false, false, false, false, false, false, false, false, false, false] (by kernel_rfl) rfl rfl ⟨(blk_cell BK179.out 0).trans rfl, (blk_cell BK179.out 1).trans rfl, (blk_cell BK179.out 2).trans rfl, (blk_cell BK179.out 3).trans rfl, (blk_cell BK179.out 4).trans rfl, (blk_cell BK179.out 5).trans rfl, (blk_cell BK179.out 6).trans rfl, (blk_cell BK179.out 7).trans rfl, (blk_cell BK179.out 8).trans rfl, (blk_cell BK179.out 9).trans rfl, (blk_cell BK179.out 10).trans rfl⟩ (fun hHeld => ?_); refine with_tabW spec_MountsPrint.tab7 spec_MountsPrint.bits7 (fun HT_ HW_ => ?_)
            generalize w60.drew = w61 at BK179 HB hHeld ⊢
            refine pure_ (i := 0) (N := some 16) (v := ?_) (a' := ?_) #[true, false, false, false, false, false, false, false, false, false, false, false, false, false, false, false, false, false, false, false, false, false, false, false, false, false, false, false, false, false, false, false, false, false, false] rfl rfl (any_of HT_.out (by kernel_rfl)) (fun _ _ _ h => h) (Or.inl ⟨by rfl, ?_⟩) ?_ ?_
            rotate_left
            · intro w'
              go_simp
              with_reducible rfl
            rotate_left
            · simp only [Act.put, List.setIfInBounds_toArray, List.set_cons_zero, List.set_cons_succ, i64_w, i32_w]
              rfl
            refine pure_ (i := 1) (N := some 17) (v := ?_) (a' := ?_) #[true, true, false, false, false, false, false, false, false, false, false, false, false, false, false, false, false, false, false, false, false, false, false, false, false, false, false, false, false, false, false, false, false, false, false] rfl rfl (any_of HT_.out (by kernel_rfl)) (fun _ _ _ h => h) (Or.inl ⟨by rfl, ?_⟩) ?_ ?_
            rotate_left
            · intro w'
              go_simp
              with_reducible rfl
            rotate_left
            · simp only [Act.put, List.setIfInBounds_toArray, List.set_cons_zero, List.set_cons_succ, i64_w, i32_w]
              rfl
            refine pure_ (i := 5) (N := some 21) (v := ?_) (a' := ?_) #[true, true, false, false, false, true, false, false, false, false, false, false, false, false, false, false, false, false, false, false, false, false, false, false, false, false, false, false, false, false, false, false, false, false, false] rfl rfl (any_of HT_.out (by kernel_rfl)) (fun _ _ _ h => h) (Or.inl ⟨by rfl, ?_⟩) ?_ ?_
            rotate_left
            · intro w'
              go_simp
              with_reducible rfl
            rotate_left
            · simp only [Act.put, List.setIfInBounds_toArray, List.set_cons_zero, List.set_cons_succ, i64_w, i32_w]
              rfl
            refine pure_ (i := 10) (N := some 26) (v := ?_) (a' := ?_) #[true, true, false, false, false, true, false, false, false, false, true, false, false, false, false, false, false, false, false, false, false, false, false, false, false, false, false, false, false, false, false, false, false, false, false] rfl rfl (any_of HT_.out (by kernel_rfl)) (fun _ _ _ h => h) (Or.inl ⟨by rfl, ?_⟩) ?_ ?_
            rotate_left
            · intro w'
              go_simp
              with_reducible rfl
            rotate_left
            · simp only [Act.put, List.setIfInBounds_toArray, List.set_cons_zero, List.set_cons_succ, i64_w, i32_w]
              rfl
            refine pure_ (i := 15) (N := some 31) (v := ?_) (a' := ?_) #[true, true, false, false, false, true, false, false, false, false, true, false, false, false, false, true, false, false, false, false, false, false, false, false, false, false, false, false, false, false, false, false, false, false, false] rfl rfl (any_of HT_.out (by kernel_rfl)) (fun _ _ _ h => h) (Or.inl ⟨by rfl, ?_⟩) ?_ ?_
            rotate_left
            · intro w'
              go_simp
              with_reducible rfl
            rotate_left
            · simp only [Act.put, List.setIfInBounds_toArray, List.set_cons_zero, List.set_cons_succ, i64_w, i32_w]
              rfl
            refine pure_ (i := 20) (N := some 36) (v := ?_) (a' := ?_) #[true, true, false, false, false, true, false, false, false, false, true, false, false, false, false, true, false, false, false, false, true, false, false, false, false, false, false, false, false, false, false, false, false, false, false] rfl rfl (any_of HT_.out (by kernel_rfl)) (fun _ _ _ h => h) (Or.inl ⟨by rfl, ?_⟩) ?_ ?_
            rotate_left
            · intro w'
              go_simp
              with_reducible rfl
            rotate_left
            · simp only [Act.put, List.setIfInBounds_toArray, List.set_cons_zero, List.set_cons_succ, i64_w, i32_w]
              rfl
            refine pure_ (i := 25) (N := some 41) (v := ?_) (a' := ?_) #[true, true, false, false, false, true, false, false, false, false, true, false, false, false, false, true, false, false, false, false, true, false, false, false, false, true, false, false, false, false, false, false, false, false, false] rfl rfl (any_of HT_.out (by kernel_rfl)) (fun _ _ _ h => h) (Or.inl ⟨by rfl, ?_⟩) ?_ ?_
            rotate_left
            · intro w'
              go_simp
              with_reducible rfl
            rotate_left
            · simp only [Act.put, List.setIfInBounds_toArray, List.set_cons_zero, List.set_cons_succ, i64_w, i32_w]
              rfl
            refine pure_ (i := 30) (N := some 46) (v := ?_) (a' := ?_) #[true, true, false, false, false, true, false, false, false, false, true, false, false, false, false, true, false, false, false, false, true, false, false, false, false, true, false, false, false, false, true, false, false, false, false] rfl rfl (any_of HT_.out (by kernel_rfl)) (fun _ _ _ h => h) (Or.inl ⟨by rfl, ?_⟩) ?_ ?_
            rotate_left
            · intro w'
              go_simp
              with_reducible rfl
            rotate_left
            · simp only [Act.put, List.setIfInBounds_toArray, List.set_cons_zero, List.set_cons_succ, i64_w, i32_w]
              rfl
            refine take_ (i := 2) (N := some 18) (v := ?_) (a' := ?_) #[true, true, true, false, false, true, false, false, false, false, true, false, false, false, false, true, false, false, false, false, true, false, false, false, false, true, false, false, false, false, true, false, false, false, false] rfl rfl (take_ofW HT_.out HW_.out (by kernel_rfl)) (fun _ _ _ h => h) (Or.inl ⟨by rfl, ?_⟩) hHeld ?_ ?_
            rotate_left
            · rintro w' ⟨s0, s1, s2, s3, s4, s5, s6, s7, s8, s9, s10⟩
              go_simp
              with_reducible rfl
            rotate_left
            · simp only [Act.put, List.setIfInBounds_toArray, List.set_cons_zero, List.set_cons_succ, i64_w, i32_w]
              rfl
            refine take_ (i := 6) (N := some 22) (v := ?_) (a' := ?_) #[true, true, true, false, false, true, true, false, false, false, true, false, false, false, false, true, false, false, false, false, true, false, false, false, false, true, false, false, false, false, true, false, false, false, false] rfl rfl (take_ofW HT_.out HW_.out (by kernel_rfl)) (fun _ _ _ h => h) (Or.inl ⟨by rfl, ?_⟩) hHeld ?_ ?_
            rotate_left
            · rintro w' ⟨s0, s1, s2, s3, s4, s5, s6, s7, s8, s9, s10⟩
              go_simp
              with_reducible rfl
            rotate_left
            · simp only [Act.put, List.setIfInBounds_toArray, List.set_cons_zero, List.set_cons_succ, i64_w, i32_w]
              rfl
            refine take_ (i := 11) (N := some 27) (v := ?_) (a' := ?_) #[true, true, true, false, false, true, true, false, false, false, true, true, false, false, false, true, false, false, false, false, true, false, false, false, false, true, false, false, false, false, true, false, false, false, false] rfl rfl (take_ofW HT_.out HW_.out (by kernel_rfl)) (fun _ _ _ h => h) (Or.inl ⟨by rfl, ?_⟩) hHeld ?_ ?_
            rotate_left
            · rintro w' ⟨s0, s1, s2, s3, s4, s5, s6, s7, s8, s9, s10⟩
              go_simp
              with_reducible rfl
            rotate_left
            · simp only [Act.put, List.setIfInBounds_toArray, List.set_cons_zero, List.set_cons_succ, i64_w, i32_w]
              rfl
            refine take_ (i := 16) (N := some 32) (v := ?_) (a' := ?_) #[true, true, true, false, false, true, true, false, false, false, true, true, false, false, false, true, true, false, false, false, true, false, false, false, false, true, false, false, false, false, true, false, false, false, false] rfl rfl (take_ofW HT_.out HW_.out (by kernel_rfl)) (fun _ _ _ h => h) (Or.inl ⟨by rfl, ?_⟩) hHeld ?_ ?_
            rotate_left
            · rintro w' ⟨s0, s1, s2, s3, s4, s5, s6, s7, s8, s9, s10⟩
              go_simp
              with_reducible rfl
            rotate_left
            · simp only [Act.put, List.setIfInBounds_toArray, List.set_cons_zero, List.set_cons_succ, i64_w, i32_w]
              rfl
            refine take_ (i := 21) (N := some 37) (v := ?_) (a' := ?_) #[true, true, true, false, false, true, true, false, false, false, true, true, false, false, false, true, true, false, false, false, true, true, false, false, false, true, false, false, false, false, true, false, false, false, false] rfl rfl (take_ofW HT_.out HW_.out (by kernel_rfl)) (fun _ _ _ h => h) (Or.inl ⟨by rfl, ?_⟩) hHeld ?_ ?_
            rotate_left
            · rintro w' ⟨s0, s1, s2, s3, s4, s5, s6, s7, s8, s9, s10⟩
              go_simp
              with_reducible rfl
            rotate_left
            · simp only [Act.put, List.setIfInBounds_toArray, List.set_cons_zero, List.set_cons_succ, i64_w, i32_w]
              rfl
            refine take_ (i := 26) (N := some 42) (v := ?_) (a' := ?_) #[true, true, true, false, false, true, true, false, false, false, true, true, false, false, false, true, true, false, false, false, true, true, false, false, false, true, true, false, false, false, true, false, false, false, false] rfl rfl (take_ofW HT_.out HW_.out (by kernel_rfl)) (fun _ _ _ h => h) (Or.inl ⟨by rfl, ?_⟩) hHeld ?_ ?_
            rotate_left
            · rintro w' ⟨s0, s1, s2, s3, s4, s5, s6, s7, s8, s9, s10⟩
              go_simp
              with_reducible rfl
            rotate_left
            · simp only [Act.put, List.setIfInBounds_toArray, List.set_cons_zero, List.set_cons_succ, i64_w, i32_w]
              rfl
            refine take_ (i := 31) (N := some 47) (v := ?_) (a' := ?_) #[true, true, true, false, false, true, true, false, false, false, true, true, false, false, false, true, true, false, false, false, true, true, false, false, false, true, true, false, false, false, true, true, false, false, false] rfl rfl (take_ofW HT_.out HW_.out (by kernel_rfl)) (fun _ _ _ h => h) (Or.inl ⟨by rfl, ?_⟩) hHeld ?_ ?_
            rotate_left
            · rintro w' ⟨s0, s1, s2, s3, s4, s5, s6, s7, s8, s9, s10⟩
              go_simp
              with_reducible rfl
            rotate_left
            · simp only [Act.put, List.setIfInBounds_toArray, List.set_cons_zero, List.set_cons_succ, i64_w, i32_w]
              rfl
            refine one_ (i := 3) (N := some 19) #[true, true, true, true, false, true, true, false, false, false, true, true, false, false, false, true, true, false, false, false, true, true, false, false, false, true, true, false, false, false, true, true, false, false, false] rfl rfl (one_of HT_.out (by kernel_rfl)) (by decide) (fun K hK => ?_)
            refine goes_ Tryd.func27 (by kernel_rfl) rfl #[.int .i64 ((rd_T58 l0 x9_1).f0)] (by rfl) rfl rfl (by (try simp only [List.map_toArray, List.map_cons, List.map_nil]); first | done | rfl | (simp only [List.length_drop, List.length_take]; rfl)) ?_
            with_reducible refine (spec_natural.calls k1 ((rd_T58 l0 x9_1).f0) t181 _ A7.out).mono ?_
            rintro e w62 ⟨rfl, hb⟩
            refine ⟨_, rfl, ?_⟩
            have n0_ := Aside0.mk (blk_below (g := gb179) (o := .cells #[.int .i64 ((rd_T58 l0 x9_1).f0), .int .i64 ((rd_T58 l0 x9_1).f1), .int .i64 ((rd_T58 l0 x9_1).f2), .int .i64 ((rd_T58 l0 x9_1).f3), .string ((rd_T58 l0 x9_1).f4), .string ((rd_T58 l0 x9_1).f5), .string ((rd_T58 l0 x9_1).f6), .string ((rd_T58 l0 x9_1).f7), .string ((rd_T58 l0 x9_1).f8), .string ((rd_T58 l0 x9_1).f9), .string ((rd_T58 l0 x9_1).f10)] 58 (0, 0)) (by (with_reducible repeat (first | refine blk_drewN ?_ _ | refine blk_drew ?_ | refine blk_alloc ?_ _)); exact BK179.out) hb)
            have n1_ := Aside0.mk (below_step (by repeat (first | (with_reducible first | exact HB.out | apply below_alloc | apply pw_below_drewN | apply below_drew1 | refine below_set ?_ GE179.out) | exact HB.out)) hb)
            clear BK179
            clear HB
            have BK179 := n0_
            have HB := n1_
            clear n0_ n1_
            (try clear hb)
            (try clear hb2)
            (try clear hk)
            (try clear hi)
            refine hK.out _ _ ⟨(blk_cell BK179.out 0).trans rfl, (blk_cell BK179.out 1).trans rfl, (blk_cell BK179.out 2).trans rfl, (blk_cell BK179.out 3).trans rfl, (blk_cell BK179.out 4).trans rfl, (blk_cell BK179.out 5).trans rfl, (blk_cell BK179.out 6).trans rfl, (blk_cell BK179.out 7).trans rfl, (blk_cell BK179.out 8).trans rfl, (blk_cell BK179.out 9).trans rfl, (blk_cell BK179.out 10).trans rfl⟩ (fun hHeld => ?_)
            clear hK K
            refine norm_ (a' := ?_) ?_ ?_
            rotate_left
            · show Act.put _ (some 19) _ = _
              simp only [Act.put, List.setIfInBounds_toArray, List.set_cons_zero, List.set_cons_succ, i64_w, i32_w]
              rfl
            refine pure_ (i := 4) (N := some 20) (v := ?_) (a' := ?_) #[true, true, true, true, true, true, true, false, false, false, true, true, false, false, false, true, true, false, false, false, true, true, false, false, false, true, true, false, false, false, true, true, false, false, false] rfl rfl (any_of HT_.out (by kernel_rfl)) (fun _ _ _ h => h) (Or.inl ⟨by rfl, ?_⟩) ?_ ?_
            rotate_left
            · intro w'
              go_simp
              with_reducible rfl
            rotate_left
            · simp only [Act.put, List.setIfInBounds_toArray, List.set_cons_zero, List.set_cons_succ, i64_w, i32_w]
              rfl
            refine one_ (i := 7) (N := some 23) #[true, true, true, true, true, true, true, true, false, false, true, true, false, false, false, true, true, false, false, false, true, true, false, false, false, true, true, false, false, false, true, true, false, false, false] rfl rfl (one_of HT_.out (by kernel_rfl)) (by decide) (fun K hK => ?_)
            refine goes_ Tryd.func27 (by kernel_rfl) rfl #[.int .i64 ((rd_T58 l0 x9_1).f1)] (by rfl) rfl rfl (by (try simp only [List.map_toArray, List.map_cons, List.map_nil]); first | done | rfl | (simp only [List.length_drop, List.length_take]; rfl)) ?_
            with_reducible refine (spec_natural.calls k1 ((rd_T58 l0 x9_1).f1) t182 _ A9.out).mono ?_
            rintro e w63 ⟨rfl, hb⟩
            refine ⟨_, rfl, ?_⟩
            have n0_ := Aside0.mk (blk_below (g := gb179) (o := .cells #[.int .i64 ((rd_T58 l0 x9_1).f0), .int .i64 ((rd_T58 l0 x9_1).f1), .int .i64 ((rd_T58 l0 x9_1).f2), .int .i64 ((rd_T58 l0 x9_1).f3), .string ((rd_T58 l0 x9_1).f4), .string ((rd_T58 l0 x9_1).f5), .string ((rd_T58 l0 x9_1).f6), .string ((rd_T58 l0 x9_1).f7), .string ((rd_T58 l0 x9_1).f8), .string ((rd_T58 l0 x9_1).f9), .string ((rd_T58 l0 x9_1).f10)] 58 (0, 0)) (by (with_reducible repeat (first | refine blk_drewN ?_ _ | refine blk_drew ?_ | refine blk_alloc ?_ _)); exact BK179.out) hb)
            have n1_ := Aside0.mk (below_step (by repeat (first | (with_reducible first | exact HB.out | apply below_alloc | apply pw_below_drewN | apply below_drew1 | refine below_set ?_ GE179.out) | exact HB.out)) hb)
            clear BK179
            clear HB
            have BK179 := n0_
            have HB := n1_
            clear n0_ n1_
            (try clear hb)
            (try clear hb2)
            (try clear hk)
            (try clear hi)
            refine hK.out _ _ ⟨(blk_cell BK179.out 0).trans rfl, (blk_cell BK179.out 1).trans rfl, (blk_cell BK179.out 2).trans rfl, (blk_cell BK179.out 3).trans rfl, (blk_cell BK179.out 4).trans rfl, (blk_cell BK179.out 5).trans rfl, (blk_cell BK179.out 6).trans rfl, (blk_cell BK179.out 7).trans rfl, (blk_cell BK179.out 8).trans rfl, (blk_cell BK179.out 9).trans rfl, (blk_cell BK179.out 10).trans rfl⟩ (fun hHeld => ?_)
            clear hK K
            refine norm_ (a' := ?_) ?_ ?_
            rotate_left
            · show Act.put _ (some 23) _ = _
              simp only [Act.put, List.setIfInBounds_toArray, List.set_cons_zero, List.set_cons_succ, i64_w, i32_w]
              rfl
            refine pure_ (i := 8) (N := some 24) (v := ?_) (a' := ?_) #[true, true, true, true, true, true, true, true, true, false, true, true, false, false, false, true, true, false, false, false, true, true, false, false, false, true, true, false, false, false, true, true, false, false, false] rfl rfl (any_of HT_.out (by kernel_rfl)) (fun _ _ _ h => h) (Or.inl ⟨by rfl, ?_⟩) ?_ ?_
            rotate_left
            · intro w'
              go_simp
              with_reducible rfl
            rotate_left
            · simp only [Act.put, List.setIfInBounds_toArray, List.set_cons_zero, List.set_cons_succ, i64_w, i32_w]
              rfl
            refine pure_ (i := 9) (N := some 25) (v := ?_) (a' := ?_) #[true, true, true, true, true, true, true, true, true, true, true, true, false, false, false, true, true, false, false, false, true, true, false, false, false, true, true, false, false, false, true, true, false, false, false] rfl rfl (any_of HT_.out (by kernel_rfl)) (fun _ _ _ h => h) (Or.inl ⟨by rfl, ?_⟩) ?_ ?_
            rotate_left
            · intro w'
              go_simp
              with_reducible rfl
            rotate_left
            · simp only [Act.put, List.setIfInBounds_toArray, List.set_cons_zero, List.set_cons_succ, i64_w, i32_w]
              rfl
            refine one_ (i := 12) (N := some 28) #[true, true, true, true, true, true, true, true, true, true, true, true, true, false, false, true, true, false, false, false, true, true, false, false, false, true, true, false, false, false, true, true, false, false, false] rfl rfl (one_of HT_.out (by kernel_rfl)) (by decide) (fun K hK => ?_)
            refine goes_ Tryd.func27 (by kernel_rfl) rfl #[.int .i64 ((rd_T58 l0 x9_1).f2)] (by rfl) rfl rfl (by (try simp only [List.map_toArray, List.map_cons, List.map_nil]); first | done | rfl | (simp only [List.length_drop, List.length_take]; rfl)) ?_
            with_reducible refine (spec_natural.calls k1 ((rd_T58 l0 x9_1).f2) t183 _ A12.out).mono ?_
            rintro e w64 ⟨rfl, hb⟩
            refine ⟨_, rfl, ?_⟩
            have n0_ := Aside0.mk (blk_below (g := gb179) (o := .cells #[.int .i64 ((rd_T58 l0 x9_1).f0), .int .i64 ((rd_T58 l0 x9_1).f1), .int .i64 ((rd_T58 l0 x9_1).f2), .int .i64 ((rd_T58 l0 x9_1).f3), .string ((rd_T58 l0 x9_1).f4), .string ((rd_T58 l0 x9_1).f5), .string ((rd_T58 l0 x9_1).f6), .string ((rd_T58 l0 x9_1).f7), .string ((rd_T58 l0 x9_1).f8), .string ((rd_T58 l0 x9_1).f9), .string ((rd_T58 l0 x9_1).f10)] 58 (0, 0)) (by (with_reducible repeat (first | refine blk_drewN ?_ _ | refine blk_drew ?_ | refine blk_alloc ?_ _)); exact BK179.out) hb)
            have n1_ := Aside0.mk (below_step (by repeat (first | (with_reducible first | exact HB.out | apply below_alloc | apply pw_below_drewN | apply below_drew1 | refine below_set ?_ GE179.out) | exact HB.out)) hb)
            clear BK179
            clear HB
            have BK179 := n0_
            have HB := n1_
            clear n0_ n1_
            (try clear hb)
            (try clear hb2)
            (try clear hk)
            (try clear hi)
            refine hK.out _ _ ⟨(blk_cell BK179.out 0).trans rfl, (blk_cell BK179.out 1).trans rfl, (blk_cell BK179.out 2).trans rfl, (blk_cell BK179.out 3).trans rfl, (blk_cell BK179.out 4).trans rfl, (blk_cell BK179.out 5).trans rfl, (blk_cell BK179.out 6).trans rfl, (blk_cell BK179.out 7).trans rfl, (blk_cell BK179.out 8).trans rfl, (blk_cell BK179.out 9).trans rfl, (blk_cell BK179.out 10).trans rfl⟩ (fun hHeld => ?_)
            clear hK K
            refine norm_ (a' := ?_) ?_ ?_
            rotate_left
            · show Act.put _ (some 28) _ = _
              simp only [Act.put, List.setIfInBounds_toArray, List.set_cons_zero, List.set_cons_succ, i64_w, i32_w]
              rfl
            refine pure_ (i := 13) (N := some 29) (v := ?_) (a' := ?_) #[true, true, true, true, true, true, true, true, true, true, true, true, true, true, false, true, true, false, false, false, true, true, false, false, false, true, true, false, false, false, true, true, false, false, false] rfl rfl (any_of HT_.out (by kernel_rfl)) (fun _ _ _ h => h) (Or.inl ⟨by rfl, ?_⟩) ?_ ?_
            rotate_left
            · intro w'
              go_simp
              with_reducible rfl
            rotate_left
            · simp only [Act.put, List.setIfInBounds_toArray, List.set_cons_zero, List.set_cons_succ, i64_w, i32_w]
              rfl
            refine pure_ (i := 14) (N := some 30) (v := ?_) (a' := ?_) #[true, true, true, true, true, true, true, true, true, true, true, true, true, true, true, true, true, false, false, false, true, true, false, false, false, true, true, false, false, false, true, true, false, false, false] rfl rfl (any_of HT_.out (by kernel_rfl)) (fun _ _ _ h => h) (Or.inl ⟨by rfl, ?_⟩) ?_ ?_
            rotate_left
            · intro w'
              go_simp
              with_reducible rfl
            rotate_left
            · simp only [Act.put, List.setIfInBounds_toArray, List.set_cons_zero, List.set_cons_succ, i64_w, i32_w]
              rfl
            refine one_ (i := 17) (N := some 33) #[true, true, true, true, true, true, true, true, true, true, true, true, true, true, true, true, true, true, false, false, true, true, false, false, false, true, true, false, false, false, true, true, false, false, false] rfl rfl (one_of HT_.out (by kernel_rfl)) (by decide) (fun K hK => ?_)
            refine goes_ Tryd.func27 (by kernel_rfl) rfl #[.int .i64 ((rd_T58 l0 x9_1).f3)] (by rfl) rfl rfl (by (try simp only [List.map_toArray, List.map_cons, List.map_nil]); first | done | rfl | (simp only [List.length_drop, List.length_take]; rfl)) ?_
            with_reducible refine (spec_natural.calls k1 ((rd_T58 l0 x9_1).f3) t184 _ A15.out).mono ?_
            rintro e w65 ⟨rfl, hb⟩
            refine ⟨_, rfl, ?_⟩
            have n0_ := Aside0.mk (blk_below (g := gb179) (o := .cells #[.int .i64 ((rd_T58 l0 x9_1).f0), .int .i64 ((rd_T58 l0 x9_1).f1), .int .i64 ((rd_T58 l0 x9_1).f2), .int .i64 ((rd_T58 l0 x9_1).f3), .string ((rd_T58 l0 x9_1).f4), .string ((rd_T58 l0 x9_1).f5), .string ((rd_T58 l0 x9_1).f6), .string ((rd_T58 l0 x9_1).f7), .string ((rd_T58 l0 x9_1).f8), .string ((rd_T58 l0 x9_1).f9), .string ((rd_T58 l0 x9_1).f10)] 58 (0, 0)) (by (with_reducible repeat (first | refine blk_drewN ?_ _ | refine blk_drew ?_ | refine blk_alloc ?_ _)); exact BK179.out) hb)
            have n1_ := Aside0.mk (below_step (by repeat (first | (with_reducible first | exact HB.out | apply below_alloc | apply pw_below_drewN | apply below_drew1 | refine below_set ?_ GE179.out) | exact HB.out)) hb)
            clear BK179
            clear HB
            have BK179 := n0_
            have HB := n1_
            clear n0_ n1_
            (try clear hb)
            (try clear hb2)
            (try clear hk)
            (try clear hi)
            refine hK.out _ _ ⟨(blk_cell BK179.out 0).trans rfl, (blk_cell BK179.out 1).trans rfl, (blk_cell BK179.out 2).trans rfl, (blk_cell BK179.out 3).trans rfl, (blk_cell BK179.out 4).trans rfl, (blk_cell BK179.out 5).trans rfl, (blk_cell BK179.out 6).trans rfl, (blk_cell BK179.out 7).trans rfl, (blk_cell BK179.out 8).trans rfl, (blk_cell BK179.out 9).trans rfl, (blk_cell BK179.out 10).trans rfl⟩ (fun hHeld => ?_)
            clear hK K
            refine norm_ (a' := ?_) ?_ ?_
            rotate_left
            · show Act.put _ (some 33) _ = _
              simp only [Act.put, List.setIfInBounds_toArray, List.set_cons_zero, List.set_cons_succ, i64_w, i32_w]
              rfl
            refine pure_ (i := 18) (N := some 34) (v := ?_) (a' := ?_) #[true, true, true, true, true, true, true, true, true, true, true, true, true, true, true, true, true, true, true, false, true, true, false, false, false, true, true, false, false, false, true, true, false, false, false] rfl rfl (any_of HT_.out (by kernel_rfl)) (fun _ _ _ h => h) (Or.inl ⟨by rfl, ?_⟩) ?_ ?_
            rotate_left
            · intro w'
              go_simp
              with_reducible rfl
            rotate_left
            · simp only [Act.put, List.setIfInBounds_toArray, List.set_cons_zero, List.set_cons_succ, i64_w, i32_w]
              rfl
            refine pure_ (i := 19) (N := some 35) (v := ?_) (a' := ?_) #[true, true, true, true, true, true, true, true, true, true, true, true, true, true, true, true, true, true, true, true, true, true, false, false, false, true, true, false, false, false, true, true, false, false, false] rfl rfl (any_of HT_.out (by kernel_rfl)) (fun _ _ _ h => h) (Or.inl ⟨by rfl, ?_⟩) ?_ ?_
            rotate_left
            · intro w'
              go_simp
              with_reducible rfl
            rotate_left
            · simp only [Act.put, List.setIfInBounds_toArray, List.set_cons_zero, List.set_cons_succ, i64_w, i32_w]
              rfl
            refine one_ (i := 22) (N := some 38) #[true, true, true, true, true, true, true, true, true, true, true, true, true, true, true, true, true, true, true, true, true, true, true, false, false, true, true, false, false, false, true, true, false, false, false] rfl rfl (one_of HT_.out (by kernel_rfl)) (by decide) (fun K hK => ?_)
            refine goes_ Tryd.func28 (by kernel_rfl) rfl #[.string ((rd_T58 l0 x9_1).f4)] (by rfl) rfl rfl (by (try simp only [List.map_toArray, List.map_cons, List.map_nil]); first | done | rfl | (simp only [List.length_drop, List.length_take]; rfl)) ?_
            with_reducible refine (spec_octal.calls k1 ((rd_T58 l0 x9_1).f4) t185 _ A18.out).mono ?_
            rintro e w66 ⟨rfl, hb⟩
            refine ⟨_, rfl, ?_⟩
            have n0_ := Aside0.mk (blk_below (g := gb179) (o := .cells #[.int .i64 ((rd_T58 l0 x9_1).f0), .int .i64 ((rd_T58 l0 x9_1).f1), .int .i64 ((rd_T58 l0 x9_1).f2), .int .i64 ((rd_T58 l0 x9_1).f3), .string ((rd_T58 l0 x9_1).f4), .string ((rd_T58 l0 x9_1).f5), .string ((rd_T58 l0 x9_1).f6), .string ((rd_T58 l0 x9_1).f7), .string ((rd_T58 l0 x9_1).f8), .string ((rd_T58 l0 x9_1).f9), .string ((rd_T58 l0 x9_1).f10)] 58 (0, 0)) (by (with_reducible repeat (first | refine blk_drewN ?_ _ | refine blk_drew ?_ | refine blk_alloc ?_ _)); exact BK179.out) hb)
            have n1_ := Aside0.mk (below_step (by repeat (first | (with_reducible first | exact HB.out | apply below_alloc | apply pw_below_drewN | apply below_drew1 | refine below_set ?_ GE179.out) | exact HB.out)) hb)
            clear BK179
            clear HB
            have BK179 := n0_
            have HB := n1_
            clear n0_ n1_
            (try clear hb)
            (try clear hb2)
            (try clear hk)
            (try clear hi)
            refine hK.out _ _ ⟨(blk_cell BK179.out 0).trans rfl, (blk_cell BK179.out 1).trans rfl, (blk_cell BK179.out 2).trans rfl, (blk_cell BK179.out 3).trans rfl, (blk_cell BK179.out 4).trans rfl, (blk_cell BK179.out 5).trans rfl, (blk_cell BK179.out 6).trans rfl, (blk_cell BK179.out 7).trans rfl, (blk_cell BK179.out 8).trans rfl, (blk_cell BK179.out 9).trans rfl, (blk_cell BK179.out 10).trans rfl⟩ (fun hHeld => ?_)
            clear hK K
            refine norm_ (a' := ?_) ?_ ?_
            rotate_left
            · show Act.put _ (some 38) _ = _
              simp only [Act.put, List.setIfInBounds_toArray, List.set_cons_zero, List.set_cons_succ, i64_w, i32_w]
              rfl
            refine pure_ (i := 23) (N := some 39) (v := ?_) (a' := ?_) #[true, true, true, true, true, true, true, true, true, true, true, true, true, true, true, true, true, true, true, true, true, true, true, true, false, true, true, false, false, false, true, true, false, false, false] rfl rfl (any_of HT_.out (by kernel_rfl)) (fun _ _ _ h => h) (Or.inl ⟨by rfl, ?_⟩) ?_ ?_
            rotate_left
            · intro w'
              go_simp
              with_reducible rfl
            rotate_left
            · simp only [Act.put, List.setIfInBounds_toArray, List.set_cons_zero, List.set_cons_succ, i64_w, i32_w]
              rfl
            refine pure_ (i := 24) (N := some 40) (v := ?_) (a' := ?_) #[true, true, true, true, true, true, true, true, true, true, true, true, true, true, true, true, true, true, true, true, true, true, true, true, true, true, true, false, false, false, true, true, false, false, false] rfl rfl (any_of HT_.out (by kernel_rfl)) (fun _ _ _ h => h) (Or.inl ⟨by rfl, ?_⟩) ?_ ?_
            rotate_left
            · intro w'
              go_simp
              with_reducible rfl
            rotate_left
            · simp only [Act.put, List.setIfInBounds_toArray, List.set_cons_zero, List.set_cons_succ, i64_w, i32_w]
              rfl
            refine one_ (i := 27) (N := some 43) #[true, true, true, true, true, true, true, true, true, true, true, true, true, true, true, true, true, true, true, true, true, true, true, true, true, true, true, true, false, false, true, true, false, false, false] rfl rfl (one_of HT_.out (by kernel_rfl)) (by decide) (fun K hK => ?_)
            refine goes_ Tryd.func28 (by kernel_rfl) rfl #[.string ((rd_T58 l0 x9_1).f5)] (by rfl) rfl rfl (by (try simp only [List.map_toArray, List.map_cons, List.map_nil]); first | done | rfl | (simp only [List.length_drop, List.length_take]; rfl)) ?_
            with_reducible refine (spec_octal.calls k1 ((rd_T58 l0 x9_1).f5) t186 _ A21.out).mono ?_
            rintro e w67 ⟨rfl, hb⟩
            refine ⟨_, rfl, ?_⟩
            have n0_ := Aside0.mk (blk_below (g := gb179) (o := .cells #[.int .i64 ((rd_T58 l0 x9_1).f0), .int .i64 ((rd_T58 l0 x9_1).f1), .int .i64 ((rd_T58 l0 x9_1).f2), .int .i64 ((rd_T58 l0 x9_1).f3), .string ((rd_T58 l0 x9_1).f4), .string ((rd_T58 l0 x9_1).f5), .string ((rd_T58 l0 x9_1).f6), .string ((rd_T58 l0 x9_1).f7), .string ((rd_T58 l0 x9_1).f8), .string ((rd_T58 l0 x9_1).f9), .string ((rd_T58 l0 x9_1).f10)] 58 (0, 0)) (by (with_reducible repeat (first | refine blk_drewN ?_ _ | refine blk_drew ?_ | refine blk_alloc ?_ _)); exact BK179.out) hb)
            have n1_ := Aside0.mk (below_step (by repeat (first | (with_reducible first | exact HB.out | apply below_alloc | apply pw_below_drewN | apply below_drew1 | refine below_set ?_ GE179.out) | exact HB.out)) hb)
            clear BK179
            clear HB
            have BK179 := n0_
            have HB := n1_
            clear n0_ n1_
            (try clear hb)
            (try clear hb2)
            (try clear hk)
            (try clear hi)
            refine hK.out _ _ ⟨(blk_cell BK179.out 0).trans rfl, (blk_cell BK179.out 1).trans rfl, (blk_cell BK179.out 2).trans rfl, (blk_cell BK179.out 3).trans rfl, (blk_cell BK179.out 4).trans rfl, (blk_cell BK179.out 5).trans rfl, (blk_cell BK179.out 6).trans rfl, (blk_cell BK179.out 7).trans rfl, (blk_cell BK179.out 8).trans rfl, (blk_cell BK179.out 9).trans rfl, (blk_cell BK179.out 10).trans rfl⟩ (fun hHeld => ?_)
            clear hK K
            refine norm_ (a' := ?_) ?_ ?_
            rotate_left
            · show Act.put _ (some 43) _ = _
              simp only [Act.put, List.setIfInBounds_toArray, List.set_cons_zero, List.set_cons_succ, i64_w, i32_w]
              rfl
            refine pure_ (i := 28) (N := some 44) (v := ?_) (a' := ?_) #[true, true, true, true, true, true, true, true, true, true, true, true, true, true, true, true, true, true, true, true, true, true, true, true, true, true, true, true, true, false, true, true, false, false, false] rfl rfl (any_of HT_.out (by kernel_rfl)) (fun _ _ _ h => h) (Or.inl ⟨by rfl, ?_⟩) ?_ ?_
            rotate_left
            · intro w'
              go_simp
              with_reducible rfl
            rotate_left
            · simp only [Act.put, List.setIfInBounds_toArray, List.set_cons_zero, List.set_cons_succ, i64_w, i32_w]
              rfl
            refine pure_ (i := 29) (N := some 45) (v := ?_) (a' := ?_) #[true, true, true, true, true, true, true, true, true, true, true, true, true, true, true, true, true, true, true, true, true, true, true, true, true, true, true, true, true, true, true, true, false, false, false] rfl rfl (any_of HT_.out (by kernel_rfl)) (fun _ _ _ h => h) (Or.inl ⟨by rfl, ?_⟩) ?_ ?_
            rotate_left
            · intro w'
              go_simp
              with_reducible rfl
            rotate_left
            · simp only [Act.put, List.setIfInBounds_toArray, List.set_cons_zero, List.set_cons_succ, i64_w, i32_w]
              rfl
            refine pure_ (i := 32) (N := some 48) (v := ?_) (a' := ?_) #[true, true, true, true, true, true, true, true, true, true, true, true, true, true, true, true, true, true, true, true, true, true, true, true, true, true, true, true, true, true, true, true, true, false, false] rfl rfl (any_of HT_.out (by kernel_rfl)) (fun _ _ _ h => h) (Or.inl ⟨by rfl, ?_⟩) ?_ ?_
            rotate_left
            · intro w'
              go_simp
              with_reducible rfl
            rotate_left
            · simp only [Act.put, List.setIfInBounds_toArray, List.set_cons_zero, List.set_cons_succ, i64_w, i32_w]
              rfl
            refine pure_ (i := 33) (N := some 49) (v := ?_) (a' := ?_) #[true, true, true, true, true, true, true, true, true, true, true, true, true, true, true, true, true, true, true, true, true, true, true, true, true, true, true, true, true, true, true, true, true, true, false] rfl rfl (any_of HT_.out (by kernel_rfl)) (fun _ _ _ h => h) (Or.inl ⟨by rfl, ?_⟩) ?_ ?_
            rotate_left
            · intro w'
              go_simp
              with_reducible rfl
            rotate_left
            · simp only [Act.put, List.setIfInBounds_toArray, List.set_cons_zero, List.set_cons_succ, i64_w, i32_w]
              rfl
            refine pure_ (i := 34) (N := some 4) (v := ?_) (a' := ?_) #[true, true, true, true, true, true, true, true, true, true, true, true, true, true, true, true, true, true, true, true, true, true, true, true, true, true, true, true, true, true, true, true, true, true, true] rfl rfl (any_of HT_.out (by kernel_rfl)) (fun _ _ _ h => h) (Or.inl ⟨by rfl, ?_⟩) ?_ ?_
            rotate_left
            · intro w'
              go_simp
              with_reducible rfl
            rotate_left
            · simp only [Act.put, List.setIfInBounds_toArray, List.set_cons_zero, List.set_cons_succ, i64_w, i32_w]
              rfl
            refine done_ (done_of HT_.out (by kernel_rfl)) ?_
            have hcz68_0 : w67.cell? ⟨gb179, 0, none⟩ = some (.int .i64 ((rd_T58 l0 x9_1).f0)) := (blk_cell BK179.out 0).trans rfl
            have hcz68_1 : w67.cell? ⟨gb179, 1, none⟩ = some (.int .i64 ((rd_T58 l0 x9_1).f1)) := (blk_cell BK179.out 1).trans rfl
            have hcz68_2 : w67.cell? ⟨gb179, 2, none⟩ = some (.int .i64 ((rd_T58 l0 x9_1).f2)) := (blk_cell BK179.out 2).trans rfl
            have hcz68_3 : w67.cell? ⟨gb179, 3, none⟩ = some (.int .i64 ((rd_T58 l0 x9_1).f3)) := (blk_cell BK179.out 3).trans rfl
            have hcz68_4 : w67.cell? ⟨gb179, 4, none⟩ = some (.string ((rd_T58 l0 x9_1).f4)) := (blk_cell BK179.out 4).trans rfl
            have hcz68_5 : w67.cell? ⟨gb179, 5, none⟩ = some (.string ((rd_T58 l0 x9_1).f5)) := (blk_cell BK179.out 5).trans rfl
            have hcz68_6 : w67.cell? ⟨gb179, 6, none⟩ = some (.string ((rd_T58 l0 x9_1).f6)) := (blk_cell BK179.out 6).trans rfl
            have hcz68_7 : w67.cell? ⟨gb179, 7, none⟩ = some (.string ((rd_T58 l0 x9_1).f7)) := (blk_cell BK179.out 7).trans rfl
            have hcz68_8 : w67.cell? ⟨gb179, 8, none⟩ = some (.string ((rd_T58 l0 x9_1).f8)) := (blk_cell BK179.out 8).trans rfl
            have hcz68_9 : w67.cell? ⟨gb179, 9, none⟩ = some (.string ((rd_T58 l0 x9_1).f9)) := (blk_cell BK179.out 9).trans rfl
            have hcz68_10 : w67.cell? ⟨gb179, 10, none⟩ = some (.string ((rd_T58 l0 x9_1).f10)) := (blk_cell BK179.out 10).trans rfl
            have hfz68_0 := blk_frozen BK179.out 0
            have hfz68_1 := blk_frozen BK179.out 1
            have hfz68_2 := blk_frozen BK179.out 2
            have hfz68_3 := blk_frozen BK179.out 3
            have hfz68_4 := blk_frozen BK179.out 4
            have hfz68_5 := blk_frozen BK179.out 5
            have hfz68_6 := blk_frozen BK179.out 6
            have hfz68_7 := blk_frozen BK179.out 7
            have hfz68_8 := blk_frozen BK179.out 8
            have hfz68_9 := blk_frozen BK179.out 9
            have hfz68_10 := blk_frozen BK179.out 10
            try go_wp2
            have n0_ := Aside0.mk (blk_drew BK179.out)
            have n1_ := Aside0.mk (below_drew1 HB.out)
            clear BK179
            clear HB
            have BK179 := n0_
            have HB := n1_
            clear n0_ n1_
            refine start_ (n := 16) (S := fun w' => w'.cell? ⟨gb179, 0, none⟩ = some (.int .i64 ((rd_T58 l0 x9_1).f0)) ∧ w'.cell? ⟨gb179, 1, none⟩ = some (.int .i64 ((rd_T58 l0 x9_1).f1)) ∧ w'.cell? ⟨gb179, 2, none⟩ = some (.int .i64 ((rd_T58 l0 x9_1).f2)) ∧ w'.cell? ⟨gb179, 3, none⟩ = some (.int .i64 ((rd_T58 l0 x9_1).f3)) ∧ w'.cell? ⟨gb179, 4, none⟩ = some (.string ((rd_T58 l0 x9_1).f4)) ∧ w'.cell? ⟨gb179, 5, none⟩ = some (.string ((rd_T58 l0 x9_1).f5)) ∧ w'.cell? ⟨gb179, 6, none⟩ = some (.string ((rd_T58 l0 x9_1).f6)) ∧ w'.cell? ⟨gb179, 7, none⟩ = some (.string ((rd_T58 l0 x9_1).f7)) ∧ w'.cell? ⟨gb179, 8, none⟩ = some (.string ((rd_T58 l0 x9_1).f8)) ∧ w'.cell? ⟨gb179, 9, none⟩ = some (.string ((rd_T58 l0 x9_1).f9)) ∧ w'.cell? ⟨gb179, 10, none⟩ = some (.string ((rd_T58 l0 x9_1).f10))) (ds := []) #[false, false, false, false, false, false, false, false, false, false, false, false, false, false, false, false] (by kernel_rfl) rfl rfl ⟨(blk_cell BK179.out 0).trans rfl, (blk_cell BK179.out 1).trans rfl, (blk_cell BK179.out 2).trans rfl, (blk_cell BK179.out 3).trans rfl, (blk_cell BK179.out 4).trans rfl, (blk_cell BK179.out 5).trans rfl, (blk_cell BK179.out 6).trans rfl, (blk_cell BK179.out 7).trans rfl, (blk_cell BK179.out 8).trans rfl, (blk_cell BK179.out 9).trans rfl, (blk_cell BK179.out 10).trans rfl⟩ (fun hHeld => ?_); refine with_tabW spec_MountsPrint.tab10 spec_MountsPrint.bits10 (fun HT_ HW_ => ?_)
            generalize w67.drew = w69 at BK179 HB hHeld ⊢
            refine pure_ (i := 0) (N := some 58) (v := ?_) (a' := ?_) #[true, false, false, false, false, false, false, false, false, false, false, false, false, false, false, false] rfl rfl (any_of HT_.out (by kernel_rfl)) (fun _ _ _ h => h) (Or.inl ⟨by rfl, ?_⟩) ?_ ?_
            rotate_left
            · intro w'
              go_simp
              with_reducible rfl
            rotate_left
            · simp only [Act.put, List.setIfInBounds_toArray, List.set_cons_zero, List.set_cons_succ, i64_w, i32_w]
              rfl
            refine pure_ (i := 1) (N := some 59) (v := ?_) (a' := ?_) #[true, true, false, false, false, false, false, false, false, false, false, false, false, false, false, false] rfl rfl (any_of HT_.out (by kernel_rfl)) (fun _ _ _ h => h) (Or.inl ⟨by rfl, ?_⟩) ?_ ?_
            rotate_left
            · intro w'
              go_simp
              with_reducible rfl
            rotate_left
            · simp only [Act.put, List.setIfInBounds_toArray, List.set_cons_zero, List.set_cons_succ, i64_w, i32_w]
              rfl
            refine pure_ (i := 5) (N := some 63) (v := ?_) (a' := ?_) #[true, true, false, false, false, true, false, false, false, false, false, false, false, false, false, false] rfl rfl (any_of HT_.out (by kernel_rfl)) (fun _ _ _ h => h) (Or.inl ⟨by rfl, ?_⟩) ?_ ?_
            rotate_left
            · intro w'
              go_simp
              with_reducible rfl
            rotate_left
            · simp only [Act.put, List.setIfInBounds_toArray, List.set_cons_zero, List.set_cons_succ, i64_w, i32_w]
              rfl
            refine pure_ (i := 10) (N := some 68) (v := ?_) (a' := ?_) #[true, true, false, false, false, true, false, false, false, false, true, false, false, false, false, false] rfl rfl (any_of HT_.out (by kernel_rfl)) (fun _ _ _ h => h) (Or.inl ⟨by rfl, ?_⟩) ?_ ?_
            rotate_left
            · intro w'
              go_simp
              with_reducible rfl
            rotate_left
            · simp only [Act.put, List.setIfInBounds_toArray, List.set_cons_zero, List.set_cons_succ, i64_w, i32_w]
              rfl
            refine take_ (i := 2) (N := some 60) (v := ?_) (a' := ?_) #[true, true, true, false, false, true, false, false, false, false, true, false, false, false, false, false] rfl rfl (take_ofW HT_.out HW_.out (by kernel_rfl)) (fun _ _ _ h => h) (Or.inl ⟨by rfl, ?_⟩) hHeld ?_ ?_
            rotate_left
            · rintro w' ⟨s0, s1, s2, s3, s4, s5, s6, s7, s8, s9, s10⟩
              go_simp
              with_reducible rfl
            rotate_left
            · simp only [Act.put, List.setIfInBounds_toArray, List.set_cons_zero, List.set_cons_succ, i64_w, i32_w]
              rfl
            refine pure_ (i := 3) (N := some 61) (v := ?_) (a' := ?_) #[true, true, true, true, false, true, false, false, false, false, true, false, false, false, false, false] rfl rfl (any_of HT_.out (by kernel_rfl)) (fun _ _ _ h => h) (Or.inl ⟨by rfl, ?_⟩) ?_ ?_
            rotate_left
            · intro w'
              go_simp
              with_reducible rfl
            rotate_left
            · simp only [Act.put, List.setIfInBounds_toArray, List.set_cons_zero, List.set_cons_succ, i64_w, i32_w]
              rfl
            refine pure_ (i := 4) (N := some 62) (v := ?_) (a' := ?_) #[true, true, true, true, true, true, false, false, false, false, true, false, false, false, false, false] rfl rfl (any_of HT_.out (by kernel_rfl)) (fun _ _ _ h => h) (Or.inl ⟨by rfl, ?_⟩) ?_ ?_
            rotate_left
            · intro w'
              go_simp
              with_reducible rfl
            rotate_left
            · simp only [Act.put, List.setIfInBounds_toArray, List.set_cons_zero, List.set_cons_succ, i64_w, i32_w]
              rfl
            refine take_ (i := 6) (N := some 64) (v := ?_) (a' := ?_) #[true, true, true, true, true, true, true, false, false, false, true, false, false, false, false, false] rfl rfl (take_ofW HT_.out HW_.out (by kernel_rfl)) (fun _ _ _ h => h) (Or.inl ⟨by rfl, ?_⟩) hHeld ?_ ?_
            rotate_left
            · rintro w' ⟨s0, s1, s2, s3, s4, s5, s6, s7, s8, s9, s10⟩
              go_simp
              with_reducible rfl
            rotate_left
            · simp only [Act.put, List.setIfInBounds_toArray, List.set_cons_zero, List.set_cons_succ, i64_w, i32_w]
              rfl
            refine take_ (i := 11) (N := some 69) (v := ?_) (a' := ?_) #[true, true, true, true, true, true, true, false, false, false, true, true, false, false, false, false] rfl rfl (take_ofW HT_.out HW_.out (by kernel_rfl)) (fun _ _ _ h => h) (Or.inl ⟨by rfl, ?_⟩) hHeld ?_ ?_
            rotate_left
            · rintro w' ⟨s0, s1, s2, s3, s4, s5, s6, s7, s8, s9, s10⟩
              go_simp
              with_reducible rfl
            rotate_left
            · simp only [Act.put, List.setIfInBounds_toArray, List.set_cons_zero, List.set_cons_succ, i64_w, i32_w]
              rfl
            refine one_ (i := 7) (N := some 65) #[true, true, true, true, true, true, true, true, false, false, true, true, false, false, false, false] rfl rfl (one_of HT_.out (by kernel_rfl)) (by decide) (fun K hK => ?_)
            refine goes_ Tryd.func28 (by kernel_rfl) rfl #[.string ((rd_T58 l0 x9_1).f9)] (by rfl) rfl rfl (by (try simp only [List.map_toArray, List.map_cons, List.map_nil]); first | done | rfl | (simp only [List.length_drop, List.length_take]; rfl)) ?_
            with_reducible refine (spec_octal.calls k1 ((rd_T58 l0 x9_1).f9) t188 _ A52.out).mono ?_
            rintro e w70 ⟨rfl, hb⟩
            refine ⟨_, rfl, ?_⟩
            have n0_ := Aside0.mk (blk_below (g := gb179) (o := .cells #[.int .i64 ((rd_T58 l0 x9_1).f0), .int .i64 ((rd_T58 l0 x9_1).f1), .int .i64 ((rd_T58 l0 x9_1).f2), .int .i64 ((rd_T58 l0 x9_1).f3), .string ((rd_T58 l0 x9_1).f4), .string ((rd_T58 l0 x9_1).f5), .string ((rd_T58 l0 x9_1).f6), .string ((rd_T58 l0 x9_1).f7), .string ((rd_T58 l0 x9_1).f8), .string ((rd_T58 l0 x9_1).f9), .string ((rd_T58 l0 x9_1).f10)] 58 (0, 0)) (by (with_reducible repeat (first | refine blk_drewN ?_ _ | refine blk_drew ?_ | refine blk_alloc ?_ _)); exact BK179.out) hb)
            have n1_ := Aside0.mk (below_step (by repeat (first | (with_reducible first | exact HB.out | apply below_alloc | apply pw_below_drewN | apply below_drew1 | refine below_set ?_ GE179.out) | exact HB.out)) hb)
            clear BK179
            clear HB
            have BK179 := n0_
            have HB := n1_
            clear n0_ n1_
            (try clear hb)
            (try clear hb2)
            (try clear hk)
            (try clear hi)
            refine hK.out _ _ ⟨(blk_cell BK179.out 0).trans rfl, (blk_cell BK179.out 1).trans rfl, (blk_cell BK179.out 2).trans rfl, (blk_cell BK179.out 3).trans rfl, (blk_cell BK179.out 4).trans rfl, (blk_cell BK179.out 5).trans rfl, (blk_cell BK179.out 6).trans rfl, (blk_cell BK179.out 7).trans rfl, (blk_cell BK179.out 8).trans rfl, (blk_cell BK179.out 9).trans rfl, (blk_cell BK179.out 10).trans rfl⟩ (fun hHeld => ?_)
            clear hK K
            refine norm_ (a' := ?_) ?_ ?_
            rotate_left
            · show Act.put _ (some 65) _ = _
              simp only [Act.put, List.setIfInBounds_toArray, List.set_cons_zero, List.set_cons_succ, i64_w, i32_w]
              rfl
            refine pure_ (i := 8) (N := some 66) (v := ?_) (a' := ?_) #[true, true, true, true, true, true, true, true, true, false, true, true, false, false, false, false] rfl rfl (any_of HT_.out (by kernel_rfl)) (fun _ _ _ h => h) (Or.inl ⟨by rfl, ?_⟩) ?_ ?_
            rotate_left
            · intro w'
              go_simp
              with_reducible rfl
            rotate_left
            · simp only [Act.put, List.setIfInBounds_toArray, List.set_cons_zero, List.set_cons_succ, i64_w, i32_w]
              rfl
            refine pure_ (i := 9) (N := some 67) (v := ?_) (a' := ?_) #[true, true, true, true, true, true, true, true, true, true, true, true, false, false, false, false] rfl rfl (any_of HT_.out (by kernel_rfl)) (fun _ _ _ h => h) (Or.inl ⟨by rfl, ?_⟩) ?_ ?_
            rotate_left
            · intro w'
              go_simp
              with_reducible rfl
            rotate_left
            · simp only [Act.put, List.setIfInBounds_toArray, List.set_cons_zero, List.set_cons_succ, i64_w, i32_w]
              rfl
            refine pure_ (i := 12) (N := some 70) (v := ?_) (a' := ?_) #[true, true, true, true, true, true, true, true, true, true, true, true, true, false, false, false] rfl rfl (any_of HT_.out (by kernel_rfl)) (fun _ _ _ h => h) (Or.inl ⟨by rfl, ?_⟩) ?_ ?_
            rotate_left
            · intro w'
              go_simp
              with_reducible rfl
            rotate_left
            · simp only [Act.put, List.setIfInBounds_toArray, List.set_cons_zero, List.set_cons_succ, i64_w, i32_w]
              rfl
            refine pure_ (i := 13) (N := some 71) (v := ?_) (a' := ?_) #[true, true, true, true, true, true, true, true, true, true, true, true, true, true, false, false] rfl rfl (any_of HT_.out (by kernel_rfl)) (fun _ _ _ h => h) (Or.inl ⟨by rfl, ?_⟩) ?_ ?_
            rotate_left
            · intro w'
              go_simp
              with_reducible rfl
            rotate_left
            · simp only [Act.put, List.setIfInBounds_toArray, List.set_cons_zero, List.set_cons_succ, i64_w, i32_w]
              rfl
            refine pure_ (i := 14) (N := some 72) (v := ?_) (a' := ?_) #[true, true, true, true, true, true, true, true, true, true, true, true, true, true, true, false] rfl rfl (any_of HT_.out (by kernel_rfl)) (fun _ _ _ h => h) (Or.inl ⟨by rfl, ?_⟩) ?_ ?_
            rotate_left
            · intro w'
              go_simp
              with_reducible rfl
            rotate_left
            · simp only [Act.put, List.setIfInBounds_toArray, List.set_cons_zero, List.set_cons_succ, i64_w, i32_w]
              rfl
            refine pure_ (i := 15) (N := some 4) (v := ?_) (a' := ?_) #[true, true, true, true, true, true, true, true, true, true, true, true, true, true, true, true] rfl rfl (any_of HT_.out (by kernel_rfl)) (fun _ _ _ h => h) (Or.inl ⟨by rfl, ?_⟩) ?_ ?_
            rotate_left
            · intro w'
              go_simp
              with_reducible rfl
            rotate_left
            · simp only [Act.put, List.setIfInBounds_toArray, List.set_cons_zero, List.set_cons_succ, i64_w, i32_w]
              rfl
            refine done_ (done_of HT_.out (by kernel_rfl)) ?_
            try go_wp2
            go_roundg k1
            case measure => have := HK1.out; omega
            case rel => exact ⟨(((x4_1 ++ ((((((((((((t181 ++ (⟨#[32]⟩ : ByteArray)) ++ t182) ++ (⟨#[32]⟩ : ByteArray)) ++ t183) ++ (⟨#[58]⟩ : ByteArray)) ++ t184) ++ (⟨#[32]⟩ : ByteArray)) ++ t185) ++ (⟨#[32]⟩ : ByteArray)) ++ t186) ++ (⟨#[32]⟩ : ByteArray)) ++ ((rd_T58 l0 x9_1).f6))) ++ ((⟨#[32]⟩ : ByteArray) ++ ((rd_T58 l0 x9_1).f7))) ++ (((((((⟨#[32, 45, 32]⟩ : ByteArray) ++ ((rd_T58 l0 x9_1).f8)) ++ (⟨#[32]⟩ : ByteArray)) ++ t188) ++ (⟨#[32]⟩ : ByteArray)) ++ ((rd_T58 l0 x9_1).f10)) ++ (⟨#[10]⟩ : ByteArray))), (wrap64 (x9_1 + 1)), (by first | rfl | (simp; done) | (simp [*]; done)), (by first | rfl | (simp; done) | (simp [*]; done)), H', ⟨by have := HK1.out; omega⟩, ⟨by repeat (first | (with_reducible first | exact HB.out | apply below_alloc | apply pw_below_drewN | apply below_drew1 | refine below_set ?_ GE179.out) | exact HB.out)⟩⟩
        · replace c6 := Bool.eq_false_iff.mpr c6
          subst c6
          have H1 : (some ((⟨#[]⟩ : ByteArray), 2)) = some (r1, r2) := by rw [if_neg (show ¬ (false = true) by decide)] at H; exact H
          clear H
          have H := H1
          clear H1
          simp only [Option.some.injEq, Prod.mk.injEq] at H
          obtain ⟨rfl, rfl⟩ := H
          have p178 : 0 ≤ (x9_1 : Int) := of_decide_eq_true (by first | (with_reducible assumption) | assumption)
          have q178 : x9_1 < (l0.length : Int) := of_decide_eq_true (by first | (with_reducible assumption) | assumption)
          obtain ⟨ad178, e178, hx178_0, hx178_1, hx178_2, hx178_3, hx178_4, hx178_5, hx178_6, hx178_7, hx178_8, hx178_9, hx178_10⟩ := at_T58 HR0.out x9_1 p178 q178
          cases e178
          replace hx178_0 := (HB.out.cell (World.block_lt_of_cell? w _ hx178_0)).trans hx178_0
          replace hx178_1 := (HB.out.cell (World.block_lt_of_cell? w _ hx178_1)).trans hx178_1
          replace hx178_2 := (HB.out.cell (World.block_lt_of_cell? w _ hx178_2)).trans hx178_2
          replace hx178_3 := (HB.out.cell (World.block_lt_of_cell? w _ hx178_3)).trans hx178_3
          replace hx178_4 := (HB.out.cell (World.block_lt_of_cell? w _ hx178_4)).trans hx178_4
          replace hx178_5 := (HB.out.cell (World.block_lt_of_cell? w _ hx178_5)).trans hx178_5
          replace hx178_6 := (HB.out.cell (World.block_lt_of_cell? w _ hx178_6)).trans hx178_6
          replace hx178_7 := (HB.out.cell (World.block_lt_of_cell? w _ hx178_7)).trans hx178_7
          replace hx178_8 := (HB.out.cell (World.block_lt_of_cell? w _ hx178_8)).trans hx178_8
          replace hx178_9 := (HB.out.cell (World.block_lt_of_cell? w _ hx178_9)).trans hx178_9
          replace hx178_10 := (HB.out.cell (World.block_lt_of_cell? w _ hx178_10)).trans hx178_10
          replace p178 := eq_true p178
          replace q178 := eq_true q178
          go_wp2_with (first | ((with_reducible refine gate_dst (N := 6) rfl ?_); refine box_event ?hg (N := 6) ?hd (cs := #[.int .i64 0, .int .i64 0, .int .i64 0, .int .i64 0, .string (⟨#[]⟩ : ByteArray), .string (⟨#[]⟩ : ByteArray), .string (⟨#[]⟩ : ByteArray), .string (⟨#[]⟩ : ByteArray), .string (⟨#[]⟩ : ByteArray), .string (⟨#[]⟩ : ByteArray), .string (⟨#[]⟩ : ByteArray)]) (t := 58) ?hr ?_; (case hd => rfl); (case hg => rfl); (case hr => first | (go_simp; done) | (go_simp; rfl)); intro gb179 hg w71 hbox hb; have n0_ := Aside0.mk (below_step (by repeat (first | (with_reducible first | exact HB.out | apply below_alloc | apply pw_below_drewN | apply below_drew1) | exact HB.out)) hb); have n1_ := Aside0.mk (hbox); have n2_ := Aside0.mk ((by rw [hg]; exact (below_size (by repeat (first | (with_reducible first | exact HB.out | apply below_alloc | apply pw_below_drewN | apply below_drew1) | exact HB.out))) : w.heap.size ≤ gb179)); have n3_ := Aside0.mk ((by rw [hg]; exact (below_size (by repeat (first | (with_reducible first | exact HB.out | apply below_alloc | apply pw_below_drewN | apply below_drew1) | exact HB.out))) : w.heap.size ≤ gb179)); clear HB; have HB := n0_; have BK179 := n1_; have GW179 := n2_; have GE179 := n3_; clear n0_ n1_ n2_ n3_; clear hb hbox hg; have hcz72_0 : w71.cell? ⟨gb179, 0, none⟩ = some (.int .i64 0) := (blk_cell BK179.out 0).trans rfl; have hcz72_1 : w71.cell? ⟨gb179, 1, none⟩ = some (.int .i64 0) := (blk_cell BK179.out 1).trans rfl; have hcz72_2 : w71.cell? ⟨gb179, 2, none⟩ = some (.int .i64 0) := (blk_cell BK179.out 2).trans rfl; have hcz72_3 : w71.cell? ⟨gb179, 3, none⟩ = some (.int .i64 0) := (blk_cell BK179.out 3).trans rfl; have hcz72_4 : w71.cell? ⟨gb179, 4, none⟩ = some (.string (⟨#[]⟩ : ByteArray)) := (blk_cell BK179.out 4).trans rfl; have hcz72_5 : w71.cell? ⟨gb179, 5, none⟩ = some (.string (⟨#[]⟩ : ByteArray)) := (blk_cell BK179.out 5).trans rfl; have hcz72_6 : w71.cell? ⟨gb179, 6, none⟩ = some (.string (⟨#[]⟩ : ByteArray)) := (blk_cell BK179.out 6).trans rfl; have hcz72_7 : w71.cell? ⟨gb179, 7, none⟩ = some (.string (⟨#[]⟩ : ByteArray)) := (blk_cell BK179.out 7).trans rfl; have hcz72_8 : w71.cell? ⟨gb179, 8, none⟩ = some (.string (⟨#[]⟩ : ByteArray)) := (blk_cell BK179.out 8).trans rfl; have hcz72_9 : w71.cell? ⟨gb179, 9, none⟩ = some (.string (⟨#[]⟩ : ByteArray)) := (blk_cell BK179.out 9).trans rfl; have hcz72_10 : w71.cell? ⟨gb179, 10, none⟩ = some (.string (⟨#[]⟩ : ByteArray)) := (blk_cell BK179.out 10).trans rfl; have hfz72_0 := blk_frozen BK179.out 0; have hfz72_1 := blk_frozen BK179.out 1; have hfz72_2 := blk_frozen BK179.out 2; have hfz72_3 := blk_frozen BK179.out 3; have hfz72_4 := blk_frozen BK179.out 4; have hfz72_5 := blk_frozen BK179.out 5; have hfz72_6 := blk_frozen BK179.out 6; have hfz72_7 := blk_frozen BK179.out 7; have hfz72_8 := blk_frozen BK179.out 8; have hfz72_9 := blk_frozen BK179.out 9; have hfz72_10 := blk_frozen BK179.out 10) | ((with_reducible refine gate_callee (f := 26) rfl ?_); refine goesL_ (some 14) rfl rfl Tryd.func26 (by kernel_rfl) rfl #[.agg #[.int .i64 ((rd_T58 l0 x9_1).f0), .int .i64 ((rd_T58 l0 x9_1).f1), .int .i64 ((rd_T58 l0 x9_1).f2), .int .i64 ((rd_T58 l0 x9_1).f3), .string ((rd_T58 l0 x9_1).f4), .string ((rd_T58 l0 x9_1).f5), .string ((rd_T58 l0 x9_1).f6), .string ((rd_T58 l0 x9_1).f7), .string ((rd_T58 l0 x9_1).f8), .string ((rd_T58 l0 x9_1).f9), .string ((rd_T58 l0 x9_1).f10)]] rfl (by (try simp only [List.map_toArray, List.map_cons, List.map_nil]); first | done | rfl | (simp only [List.length_drop, List.length_take]; rfl)) ?_; (with_reducible refine (spec_mountValid.calls k1 ((rd_T58 l0 x9_1).f0) ((rd_T58 l0 x9_1).f1) ((rd_T58 l0 x9_1).f2) ((rd_T58 l0 x9_1).f3) ((rd_T58 l0 x9_1).f4) ((rd_T58 l0 x9_1).f5) ((rd_T58 l0 x9_1).f6) ((rd_T58 l0 x9_1).f7) ((rd_T58 l0 x9_1).f8) ((rd_T58 l0 x9_1).f9) ((rd_T58 l0 x9_1).f10) false _ A5.out).mono ?_); rintro e w73 ⟨rfl, hb⟩; refine ⟨_, rfl, ?_⟩; have n0_ := Aside0.mk (blk_below (g := gb179) (o := .cells #[.int .i64 ((rd_T58 l0 x9_1).f0), .int .i64 ((rd_T58 l0 x9_1).f1), .int .i64 ((rd_T58 l0 x9_1).f2), .int .i64 ((rd_T58 l0 x9_1).f3), .string ((rd_T58 l0 x9_1).f4), .string ((rd_T58 l0 x9_1).f5), .string ((rd_T58 l0 x9_1).f6), .string ((rd_T58 l0 x9_1).f7), .string ((rd_T58 l0 x9_1).f8), .string ((rd_T58 l0 x9_1).f9), .string ((rd_T58 l0 x9_1).f10)] 58 (0, 0)) (by (with_reducible repeat (first | refine blk_drewN ?_ _ | refine blk_drew ?_ | refine blk_alloc ?_ _)); refine blk_put (cs := #[.int .i64 ((rd_T58 l0 x9_1).f0), .int .i64 ((rd_T58 l0 x9_1).f1), .int .i64 ((rd_T58 l0 x9_1).f2), .int .i64 ((rd_T58 l0 x9_1).f3), .string ((rd_T58 l0 x9_1).f4), .string ((rd_T58 l0 x9_1).f5), .string ((rd_T58 l0 x9_1).f6), .string ((rd_T58 l0 x9_1).f7), .string ((rd_T58 l0 x9_1).f8), .string ((rd_T58 l0 x9_1).f9), .string (⟨#[]⟩ : ByteArray)]) ?_ 10 _ rfl; (with_reducible repeat (first | refine blk_drewN ?_ _ | refine blk_drew ?_ | refine blk_alloc ?_ _)); refine blk_put (cs := #[.int .i64 ((rd_T58 l0 x9_1).f0), .int .i64 ((rd_T58 l0 x9_1).f1), .int .i64 ((rd_T58 l0 x9_1).f2), .int .i64 ((rd_T58 l0 x9_1).f3), .string ((rd_T58 l0 x9_1).f4), .string ((rd_T58 l0 x9_1).f5), .string ((rd_T58 l0 x9_1).f6), .string ((rd_T58 l0 x9_1).f7), .string ((rd_T58 l0 x9_1).f8), .string (⟨#[]⟩ : ByteArray), .string (⟨#[]⟩ : ByteArray)]) ?_ 9 _ rfl; (with_reducible repeat (first | refine blk_drewN ?_ _ | refine blk_drew ?_ | refine blk_alloc ?_ _)); refine blk_put (cs := #[.int .i64 ((rd_T58 l0 x9_1).f0), .int .i64 ((rd_T58 l0 x9_1).f1), .int .i64 ((rd_T58 l0 x9_1).f2), .int .i64 ((rd_T58 l0 x9_1).f3), .string ((rd_T58 l0 x9_1).f4), .string ((rd_T58 l0 x9_1).f5), .string ((rd_T58 l0 x9_1).f6), .string ((rd_T58 l0 x9_1).f7), .string (⟨#[]⟩ : ByteArray), .string (⟨#[]⟩ : ByteArray), .string (⟨#[]⟩ : ByteArray)]) ?_ 8 _ rfl; (with_reducible repeat (first | refine blk_drewN ?_ _ | refine blk_drew ?_ | refine blk_alloc ?_ _)); refine blk_put (cs := #[.int .i64 ((rd_T58 l0 x9_1).f0), .int .i64 ((rd_T58 l0 x9_1).f1), .int .i64 ((rd_T58 l0 x9_1).f2), .int .i64 ((rd_T58 l0 x9_1).f3), .string ((rd_T58 l0 x9_1).f4), .string ((rd_T58 l0 x9_1).f5), .string ((rd_T58 l0 x9_1).f6), .string (⟨#[]⟩ : ByteArray), .string (⟨#[]⟩ : ByteArray), .string (⟨#[]⟩ : ByteArray), .string (⟨#[]⟩ : ByteArray)]) ?_ 7 _ rfl; (with_reducible repeat (first | refine blk_drewN ?_ _ | refine blk_drew ?_ | refine blk_alloc ?_ _)); refine blk_put (cs := #[.int .i64 ((rd_T58 l0 x9_1).f0), .int .i64 ((rd_T58 l0 x9_1).f1), .int .i64 ((rd_T58 l0 x9_1).f2), .int .i64 ((rd_T58 l0 x9_1).f3), .string ((rd_T58 l0 x9_1).f4), .string ((rd_T58 l0 x9_1).f5), .string (⟨#[]⟩ : ByteArray), .string (⟨#[]⟩ : ByteArray), .string (⟨#[]⟩ : ByteArray), .string (⟨#[]⟩ : ByteArray), .string (⟨#[]⟩ : ByteArray)]) ?_ 6 _ rfl; (with_reducible repeat (first | refine blk_drewN ?_ _ | refine blk_drew ?_ | refine blk_alloc ?_ _)); refine blk_put (cs := #[.int .i64 ((rd_T58 l0 x9_1).f0), .int .i64 ((rd_T58 l0 x9_1).f1), .int .i64 ((rd_T58 l0 x9_1).f2), .int .i64 ((rd_T58 l0 x9_1).f3), .string ((rd_T58 l0 x9_1).f4), .string (⟨#[]⟩ : ByteArray), .string (⟨#[]⟩ : ByteArray), .string (⟨#[]⟩ : ByteArray), .string (⟨#[]⟩ : ByteArray), .string (⟨#[]⟩ : ByteArray), .string (⟨#[]⟩ : ByteArray)]) ?_ 5 _ rfl; (with_reducible repeat (first | refine blk_drewN ?_ _ | refine blk_drew ?_ | refine blk_alloc ?_ _)); refine blk_put (cs := #[.int .i64 ((rd_T58 l0 x9_1).f0), .int .i64 ((rd_T58 l0 x9_1).f1), .int .i64 ((rd_T58 l0 x9_1).f2), .int .i64 ((rd_T58 l0 x9_1).f3), .string (⟨#[]⟩ : ByteArray), .string (⟨#[]⟩ : ByteArray), .string (⟨#[]⟩ : ByteArray), .string (⟨#[]⟩ : ByteArray), .string (⟨#[]⟩ : ByteArray), .string (⟨#[]⟩ : ByteArray), .string (⟨#[]⟩ : ByteArray)]) ?_ 4 _ rfl; (with_reducible repeat (first | refine blk_drewN ?_ _ | refine blk_drew ?_ | refine blk_alloc ?_ _)); refine blk_put (cs := #[.int .i64 ((rd_T58 l0 x9_1).f0), .int .i64 ((rd_T58 l0 x9_1).f1), .int .i64 ((rd_T58 l0 x9_1).f2), .int .i64 0, .string (⟨#[]⟩ : ByteArray), .string (⟨#[]⟩ : ByteArray), .string (⟨#[]⟩ : ByteArray), .string (⟨#[]⟩ : ByteArray), .string (⟨#[]⟩ : ByteArray), .string (⟨#[]⟩ : ByteArray), .string (⟨#[]⟩ : ByteArray)]) ?_ 3 _ rfl; (with_reducible repeat (first | refine blk_drewN ?_ _ | refine blk_drew ?_ | refine blk_alloc ?_ _)); refine blk_put (cs := #[.int .i64 ((rd_T58 l0 x9_1).f0), .int .i64 ((rd_T58 l0 x9_1).f1), .int .i64 0, .int .i64 0, .string (⟨#[]⟩ : ByteArray), .string (⟨#[]⟩ : ByteArray), .string (⟨#[]⟩ : ByteArray), .string (⟨#[]⟩ : ByteArray), .string (⟨#[]⟩ : ByteArray), .string (⟨#[]⟩ : ByteArray), .string (⟨#[]⟩ : ByteArray)]) ?_ 2 _ rfl; (with_reducible repeat (first | refine blk_drewN ?_ _ | refine blk_drew ?_ | refine blk_alloc ?_ _)); refine blk_put (cs := #[.int .i64 ((rd_T58 l0 x9_1).f0), .int .i64 0, .int .i64 0, .int .i64 0, .string (⟨#[]⟩ : ByteArray), .string (⟨#[]⟩ : ByteArray), .string (⟨#[]⟩ : ByteArray), .string (⟨#[]⟩ : ByteArray), .string (⟨#[]⟩ : ByteArray), .string (⟨#[]⟩ : ByteArray), .string (⟨#[]⟩ : ByteArray)]) ?_ 1 _ rfl; (with_reducible repeat (first | refine blk_drewN ?_ _ | refine blk_drew ?_ | refine blk_alloc ?_ _)); refine blk_put (cs := #[.int .i64 0, .int .i64 0, .int .i64 0, .int .i64 0, .string (⟨#[]⟩ : ByteArray), .string (⟨#[]⟩ : ByteArray), .string (⟨#[]⟩ : ByteArray), .string (⟨#[]⟩ : ByteArray), .string (⟨#[]⟩ : ByteArray), .string (⟨#[]⟩ : ByteArray), .string (⟨#[]⟩ : ByteArray)]) ?_ 0 _ rfl; (with_reducible repeat (first | refine blk_drewN ?_ _ | refine blk_drew ?_ | refine blk_alloc ?_ _)); exact BK179.out) hb); have n1_ := Aside0.mk (below_step (by repeat (first | (with_reducible first | exact HB.out | apply below_alloc | apply pw_below_drewN | apply below_drew1 | refine below_set ?_ GE179.out) | exact HB.out)) hb); clear BK179; clear HB; have BK179 := n0_; have HB := n1_; clear n0_ n1_; (try clear hb); (try clear hb2); (try clear hk); (try clear hi)))
          go_ret2
          exact ⟨by first | rfl | (simp [errW_none, errW_some] <;> rfl) | (simp [*, errW_none, errW_some] <;> rfl), by repeat (first | (with_reducible first | exact HB.out | apply below_alloc | apply pw_below_drewN | apply below_drew1 | refine below_set ?_ GE179.out) | exact HB.out)⟩
      · rw [if_neg c2] at H
        have c2b0 : decide (x9_1 < (l0.length : Int)) = false := decide_eq_false c2
        clear c2
        simp only [Option.some.injEq, Prod.mk.injEq] at H
        obtain ⟨rfl, rfl⟩ := H
        go_wp2
        go_ret2
        exact ⟨by first | rfl | (simp [errW_none, errW_some] <;> rfl) | (simp [*, errW_none, errW_some] <;> rfl), by repeat (first | (with_reducible first | exact HB.out | apply below_alloc | apply pw_below_drewN | apply below_drew1) | exact HB.out)⟩

end Go.Proofs.YtdmccakncgdbhaaDoor.GMA
