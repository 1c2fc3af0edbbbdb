/- Texts of this claim, put together: GPEx17, GPEx17, GivenSw, GivenSwP, GivenSwF. Conditions: as each one says. -/
import Derived.Test.YtednjmngalmdkaaGreatDoorKSw0
import Derived.Test.YtednjmngalmdkaaGreatDoorKSw1
import Derived.Test.YtednjmngalmdkaaGreatDoorKSw2
import Derived.Test.YtednjmngalmdkaaGreatDoorKSw3
import Derived.Test.YtednjmngalmdkaaGreatDoorProg
import Derived.Below
import Derived.Deep.Draws
import Derived.Deep.AppendLies
import Derived.Maps.AppendAt
import Derived.OwnWalk
import Derived.Laws.BytesArg
import Derived.Laws.MakeOwn
import Derived.Laws.OwnMore
import Derived.Deep.OwnRows
import Derived.Tactics
import Derived.Lib.ConvBytes
import Derived.Laws.Slices
import Derived.WalkKit
import Derived.KernelRfl
import Derived.RowKit3
import Derived.Deep.LoopGhost
import Derived.Deep.QuietTactic
import Derived.BigQuiet
import Derived.WideLaws
import Derived.Deep.DeepCutAuto
import Derived.Deep.CutBlock
import Derived.Deep.RegionHeld3
import Derived.Laws.Rows
import Derived.Lib.AppendStr
import Derived.ArgAppend
import Derived.Laws.IdiomCopy
import Derived.OrdersHeld
import Derived.Laws.BitsLemmas
import Derived.RowKit
import Derived.StillTailTactics
import Derived.Defers
import Derived.Recover
section
namespace Go.Proofs.YtednjmngalmdkaaGreatDoor.GPC
open Go.RowKit Go.Proofs.YtednjmngalmdkaaGreatDoorW.PrintWords Go.Proofs.YtednjmngalmdkaaGreatDoorW.PrintLast Go.Proofs.YtednjmngalmdkaaGreatDoorW.PrintMore
attribute [local go_sem] max2_int min2_int max_two min_two max_three min_three max_four min_four   -- for this text's walks alone
set_option linter.unusedVariables false
set_option linter.unusedSimpArgs false

attribute [local go_sem] run_store_float
/-! ### spec_SwapsTree: function 40 -/
def spec_SwapsTree.l0 : Nat → List (S39) → List (S31) → Int → Int → Option (ByteArray × Int × Bool × Int × Int × Nat × ByteArray × (List (S39)) × Int)
 | 0, _, _, _, _ => none
 | k + 1, x6, x17, x18, x19 => if x19 < x18 then (if 0 ≤ x19 then (if x19 < (x17.length : Int) then ((spec_textNode.f (⟨#[70, 105, 108, 101, 110, 97, 109, 101]⟩ : ByteArray) ((rd_T31 x17 x19).f0)).bind fun bt775 => (if 0 < (((rd_T31 x17 x19).f2).length : Int) then ((spec_textNode.f (⟨#[84, 121, 112, 101]⟩ : ByteArray) (rdOf ByteArray.empty ((rd_T31 x17 x19).f2) 0)).bind fun bt786 => (if 0 < (((rd_T31 x17 x19).f1).length : Int) then ((spec_intNode.f (⟨#[83, 105, 122, 101]⟩ : ByteArray) (wrap64 (rd ((rd_T31 x17 x19).f1) 0))).bind fun bt797 => (if 1 < (((rd_T31 x17 x19).f1).length : Int) then ((spec_intNode.f (⟨#[85, 115, 101, 100]⟩ : ByteArray) (wrap64 (rd ((rd_T31 x17 x19).f1) 1))).bind fun bt808 => (if 2 < (((rd_T31 x17 x19).f1).length : Int) then ((spec_intNode.f (⟨#[80, 114, 105, 111, 114, 105, 116, 121]⟩ : ByteArray) (wrap64 (rd ((rd_T31 x17 x19).f1) 2))).bind fun bt819 => ((spec_recordNode.f (⟨#[]⟩ : ByteArray) (([(⟨bt775.1, bt775.2.1, bt775.2.2.1, bt775.2.2.2.1, bt775.2.2.2.2.1, bt775.2.2.2.2.2.1, bt775.2.2.2.2.2.2.1, bt775.2.2.2.2.2.2.2⟩ : S39), (⟨bt786.1, bt786.2.1, bt786.2.2.1, bt786.2.2.2.1, bt786.2.2.2.2.1, bt786.2.2.2.2.2.1, bt786.2.2.2.2.2.2.1, bt786.2.2.2.2.2.2.2⟩ : S39), (⟨bt797.1, bt797.2.1, bt797.2.2.1, bt797.2.2.2.1, bt797.2.2.2.2.1, bt797.2.2.2.2.2.1, bt797.2.2.2.2.2.2.1, bt797.2.2.2.2.2.2.2⟩ : S39), (⟨bt808.1, bt808.2.1, bt808.2.2.1, bt808.2.2.2.1, bt808.2.2.2.2.1, bt808.2.2.2.2.2.1, bt808.2.2.2.2.2.2.1, bt808.2.2.2.2.2.2.2⟩ : S39), (⟨bt819.1, bt819.2.1, bt819.2.2.1, bt819.2.2.2.1, bt819.2.2.2.2.1, bt819.2.2.2.2.2.1, bt819.2.2.2.2.2.2.1, bt819.2.2.2.2.2.2.2⟩ : S39)] : List (S39)))).bind fun bt832 => (if x6.length < 1466015503701 then (spec_SwapsTree.l0 k (x6 ++ [(⟨bt832.1, bt832.2.1, bt832.2.2.1, bt832.2.2.2.1, bt832.2.2.2.2.1, bt832.2.2.2.2.2.1, bt832.2.2.2.2.2.2.1, bt832.2.2.2.2.2.2.2⟩ : S39)]) x17 x18 (wrap64 (x19 + 1))) else (none)))) else (none))) else (none))) else (none))) else (none))) else (none)) else (none)) else ((spec_listNode.f (⟨#[]⟩ : ByteArray) x6).bind fun bt763 => (some (bt763.1, bt763.2.1, bt763.2.2.1, bt763.2.2.2.1, bt763.2.2.2.2.1, bt763.2.2.2.2.2.1, bt763.2.2.2.2.2.2.1, bt763.2.2.2.2.2.2.2, 1)))
def spec_SwapsTree.f (k : Nat) (l0 : List (S31)) : Option (ByteArray × Int × Bool × Int × Int × Nat × ByteArray × (List (S39)) × Int) := (spec_SwapsPrint.f k l0).bind fun bt761 => (if bt761.2 = 1 then (spec_SwapsTree.l0 k ([] : List (S39)) l0 (l0.length : Int) 0) else (some ((⟨#[]⟩ : ByteArray), 0, false, 0, 0, 0, (⟨#[]⟩ : ByteArray), ([] : List (S39)), 2)))
theorem spec_SwapsTree.mono_l : ∀ k, (∀ y0 y1 y2 y3, LeO (spec_SwapsTree.l0 k y0 y1 y2 y3) (spec_SwapsTree.l0 (k + 1) y0 y1 y2 y3))
 | 0 => fun _ _ _ _ r h => by simp [spec_SwapsTree.l0] at h
 | k + 1 => by
  have ih0 := spec_SwapsTree.mono_l k
  ·intro y0 y1 y2 y3
   unfold spec_SwapsTree.l0
   repeat' first
   | (with_reducible exact ih0 _ _ _ _)
   | (with_reducible exact spec_SwapsPrint.mono _ _)
   | (with_reducible exact LeO.refl _)
   | (with_reducible exact LeO.none _)
   | (with_reducible refine LeO.ite ?_ ?_)
   | (with_reducible refine LeO.bind ?_ (fun _ => ?_))
   | exact ih0 _ _ _ _
   | exact spec_SwapsPrint.mono _ _
   | exact LeO.none _
   | refine LeO.ite ?_ ?_
   | refine LeO.bind ?_ (fun _ => ?_)
theorem spec_SwapsTree.mono : ∀ a0 k, LeO (spec_SwapsTree.f k a0) (spec_SwapsTree.f (k + 1) a0) := by
 intro a0 k
 have ih0 := spec_SwapsTree.mono_l k
 unfold spec_SwapsTree.f
 repeat' first
   | (with_reducible exact ih0 _ _ _ _)
   | (with_reducible exact spec_SwapsPrint.mono _ _)
   | (with_reducible exact LeO.refl _)
   | (with_reducible exact LeO.none _)
   | (with_reducible refine LeO.ite ?_ ?_)
   | (with_reducible refine LeO.bind ?_ (fun _ => ?_))
   | exact ih0 _ _ _ _
   | exact spec_SwapsPrint.mono _ _
   | exact LeO.none _
   | refine LeO.ite ?_ ?_
   | refine LeO.bind ?_ (fun _ => ?_)
def spec_SwapsTree.T8 : Bool × List (List Nat × List Nat) := (true, [([], []), ([], []), ([1], [1]), ([2], [2]), ([], []), ([4], [4]), ([5], [5]), ([6], [6]), ([7, 3], [7]), ([], []), ([9], [9]), ([10], [10]), ([11], [11]), ([12], [12]), ([13, 8], [13]), ([], []), ([15], [15]), ([16], [16]), ([17], [17]), ([18], [18]), ([19, 14], [19]), ([], []), ([21], [21]), ([22], [22]), ([23], [23]), ([24], [24]), ([25, 20], [25]), ([3, 8, 14, 20, 26], [3, 8, 14, 20, 26]), ([27, 26], [27]), ([28], [28]), ([0, 29, 28], [0, 29]), ([30, 30, 0, 1, 2, 3, 4, 5, 6, 7, 8, 9, 10, 11, 12, 13, 14, 15, 16, 17, 18, 19, 20, 21, 22, 23, 24, 25, 26, 27, 28, 29, 30], [0, 30])])
def spec_SwapsTree.B8 : List Nat := [0, 0, 2, 6, 0, 16, 48, 112, 254, 0, 512, 1536, 3584, 7680, 16382, 0, 32768, 98304, 229376, 491520, 1048574, 0, 2097152, 6291456, 14680064, 31457280, 67108862, 134217726, 268435454, 536870910, 1073741823, 2147483647]
theorem spec_SwapsTree.tab8 : rtab .any (opsOf Tryz.f40 8) = spec_SwapsTree.T8 := by kernel_rfl
theorem spec_SwapsTree.bits8 : waitsOk spec_SwapsTree.T8.2 spec_SwapsTree.B8 = true := by kernel_rfl
set_option maxHeartbeats 8000000 in
set_option maxRecDepth 100000 in
theorem spec_SwapsTree.calls (k : Nat) (A0 : Option Addr) (c0 : Nat) (l0 : List (S31)) (r1 : ByteArray) (r2 : Int) (r3 : Bool) (r4 : Int) (r5 : Int) (r6 : Nat) (r7 : ByteArray) (r8 : List (S39)) (r9 : Int) (w : World) (hr0 : Kd.C k31 w A0 l0.length l0) (hc0 : l0.length ≤ c0) (h : spec_SwapsTree.f k l0 = some (r1, r2, r3, r4, r5, r6, r7, r8, r9)) :
  Calls Tryz.prog 40 #[.slice A0 l0.length c0] w fun e w' => ∃ v7_ : Value, e = .returned (.tuple #[.agg #[.string r1, .int .i64 r2, .bool r3, .int .i64 r4, .int .u64 r5, .float .f64 r6, .string r7, v7_], .int .i64 r9]) ∧ Kd.V k39 39 w' w.heap.size (fun k_ => (w.heap.size ≤ k_)) v7_ r8 ∧ Below w.heap.size w w' := by
 have hu39 := Tryz.underlying39
 have hu31 := Tryz.underlying31
 have HR0 := Aside0.mk hr0
 have HC0 := Aside0.mk hc0
 clear hr0 hc0
 have HB := Aside0.mk (Below.refl w.heap.size w)
 have H : ((spec_SwapsPrint.f k l0).bind fun bt761 => (if bt761.2 = 1 then (spec_SwapsTree.l0 k ([] : List (S39)) l0 (l0.length : Int) 0) else (some ((⟨#[]⟩ : ByteArray), 0, false, 0, 0, 0, (⟨#[]⟩ : ByteArray), ([] : List (S39)), 2)))) = some (r1, r2, r3, r4, r5, r6, r7, r8, r9) := h
 clear h
 replace H := Option.bind_eq_some_iff.mp H
 obtain ⟨⟨t761, t762⟩, A20, H⟩ := H
 replace H : (if t762 = 1 then (spec_SwapsTree.l0 k ([] : List (S39)) l0 (l0.length : Int) 0) else (some ((⟨#[]⟩ : ByteArray), 0, false, 0, 0, 0, (⟨#[]⟩ : ByteArray), ([] : List (S39)), 2))) = some (r1, r2, r3, r4, r5, r6, r7, r8, r9) := H
 have A2 := Aside0.mk A20
 clear A20
 by_cases c3 : t762 = 1
 ·rw [if_pos c3] at H
  have c3b0 : (t762 == 1) = true := beq_iff_eq.mpr c3
  have c3b1 : (t762 != 1) = false := bne_eq_false_iff_eq.mpr c3
  clear c3
  have H' := Aside0.mk H
  clear H
  go_enter Tryz.func40, Tryz.ntmps40
  go_wp2_with (first | ((with_reducible refine gate_dst (N := 2) rfl ?_); refine box_event ?hg (N := 2) ?hd (cs := #[.string (⟨#[]⟩ : ByteArray), .int .i64 0, .bool false, .int .i64 0, .int .u64 0, .float .f64 0, .string (⟨#[]⟩ : ByteArray), .slice none 0 0]) (t := 39) ?hr ?_; (case hd => rfl); (case hg => rfl); (case hr => first | (go_simp; done) | (go_simp; rfl)); intro gb760 hg w4 hbox hb; have n0_ := Aside0.mk (below_step (by repeat (first | (with_reducible first | exact HB.out | apply below_alloc | apply pw_below_drewN | apply below_drew1) | exact HB.out)) hb); have n1_ := Aside0.mk (hbox); have n2_ := Aside0.mk ((by rw [hg]; exact (below_size (by repeat (first | (with_reducible first | exact HB.out | apply below_alloc | apply pw_below_drewN | apply below_drew1) | exact HB.out))) : w.heap.size ≤ gb760)); have n3_ := Aside0.mk ((by rw [hg]; exact (below_size (by repeat (first | (with_reducible first | exact HB.out | apply below_alloc | apply pw_below_drewN | apply below_drew1) | exact HB.out))) : w.heap.size ≤ gb760)); clear HB; have HB := n0_; have BK760 := n1_; have GW760 := n2_; have GE760 := n3_; clear n0_ n1_ n2_ n3_; clear hb hbox hg) | ((with_reducible refine gate_callee (f := 39) rfl ?_); refine goesL_ (some 11) rfl rfl Tryz.func39 (by kernel_rfl) rfl #[.slice A0 l0.length c0] rfl (by (try simp only [List.map_toArray, List.map_cons, List.map_nil]); first | done | rfl | (simp only [List.length_drop, List.length_take]; rfl)) ?_; (with_reducible refine (spec_SwapsPrint.calls k _ _ l0 t761 t762 _ ?side1 ?side2 A2.out).mono ?_); (case side1 => repeat (first | exact (Kd.C_below HR0.out HB.out) | (with_reducible refine Kd.C_alloc ?_ _) | (with_reducible refine Kd.C_drewN ?_ _) | (with_reducible refine Kd.C_drew ?_))); (case side2 => exact HC0.out); rintro e w5 ⟨rfl, hb⟩; refine ⟨_, rfl, ?_⟩; have n0_ := Aside0.mk (blk_below (g := gb760) (o := .cells #[.string (⟨#[]⟩ : ByteArray), .int .i64 0, .bool false, .int .i64 0, .int .u64 0, .float .f64 0, .string (⟨#[]⟩ : ByteArray), .slice none 0 0] 39 (0, 0)) (by (with_reducible repeat (first | refine blk_drewN ?_ _ | refine blk_drew ?_ | refine blk_alloc ?_ _)); exact BK760.out) hb); have n1_ := Aside0.mk (below_step (by repeat (first | (with_reducible first | exact HB.out | apply below_alloc | apply pw_below_drewN | apply below_drew1 | refine below_set ?_ GE760.out) | exact HB.out)) hb); clear BK760; clear HB; have BK760 := n0_; have HB := n1_; clear n0_ n1_; (try clear hb); (try clear hb2); (try clear hk); (try clear hi)))
  go_loopg [6, 19] k (fun kq v6 v19 w' => ∃ (x6_1 : List (S39)) (x19_1 : Int), v19 = .int .i64 x19_1 ∧ Aside0 (spec_SwapsTree.l0 kq x6_1 l0 (l0.length : Int) x19_1 = some (r1, r2, r3, r4, r5, r6, r7, r8, r9)) ∧ Aside0 (kq ≤ k) ∧ Aside0 (Kd.N k39 39 w' w.heap.size (fun k_ => (w.heap.size ≤ k_) ∧ k_ ≠ gb760) v6 x6_1) ∧ Aside0 (w'.heap[gb760]? = some (.cells #[.string (⟨#[]⟩ : ByteArray), .int .i64 0, .bool false, .int .i64 0, .int .u64 0, .float .f64 0, .string (⟨#[]⟩ : ByteArray), (.slice none 0 0)] 39 (0, 0))) ∧ Aside0 (Below w.heap.size w w'))
  case atStart => exact ⟨(([] : List (S39))), (0), (by first | rfl | (simp; done) | (simp [*]; done)), H', ⟨Nat.le_refl _⟩, ⟨by first | exact Kd.R_nil _ _ _ _ _ | exact Kd.N_nil _ _ _ _ _ | exact Kd.V_nil _ _ _ _ _ | exact Kd.Q_nil _ _ _ _ _ | exact Kd.S_nil _ _ _ _ _⟩, ⟨by (with_reducible repeat (first | refine blk_drewN ?_ _ | refine blk_drew ?_ | refine blk_alloc ?_ _)); exact BK760.out⟩, ⟨by repeat (first | (with_reducible first | exact HB.out | apply below_alloc | apply pw_below_drewN | apply below_drew1 | refine below_set ?_ GE760.out) | exact HB.out)⟩⟩
  case round =>
   clear H'
   try clear p2
   try clear c3
   try clear c3b0
   try clear c3b1
   try clear c4
   obtain ⟨x6_1, x19_1, rfl, HA, HK1, HO_6, BK760, HB⟩ := hrel
   cases gk with
   | zero => exact absurd HA.out (by simp [spec_SwapsTree.l0])
   | succ k1 =>
    have H := HA.out
    clear HA
    simp only [spec_SwapsTree.l0] at H
    by_cases c6 : x19_1 < (l0.length : Int)
    ·rw [if_pos c6] at H
     have c6b0 : decide (x19_1 < (l0.length : Int)) = true := decide_eq_true c6
     clear c6
     replace H := guard_inv H
     obtain ⟨c7, H⟩ := H
     have c7b0 : decide (0 ≤ x19_1) = true := decide_eq_true c7
     clear c7
     replace H := guard_inv H
     obtain ⟨c8, H⟩ := H
     have c8b0 : decide (x19_1 < (l0.length : Int)) = true := decide_eq_true c8
     clear c8
     replace H := Option.bind_eq_some_iff.mp H
     obtain ⟨⟨t775, t776, t777, t778, t779, t780, t781, t782⟩, A90, H⟩ := H
     replace H : (if 0 < (((rd_T31 l0 x19_1).f2).length : Int) then ((spec_textNode.f (⟨#[84, 121, 112, 101]⟩ : ByteArray) (rdOf ByteArray.empty ((rd_T31 l0 x19_1).f2) 0)).bind fun bt786 => (if 0 < (((rd_T31 l0 x19_1).f1).length : Int) then ((spec_intNode.f (⟨#[83, 105, 122, 101]⟩ : ByteArray) (wrap64 (rd ((rd_T31 l0 x19_1).f1) 0))).bind fun bt797 => (if 1 < (((rd_T31 l0 x19_1).f1).length : Int) then ((spec_intNode.f (⟨#[85, 115, 101, 100]⟩ : ByteArray) (wrap64 (rd ((rd_T31 l0 x19_1).f1) 1))).bind fun bt808 => (if 2 < (((rd_T31 l0 x19_1).f1).length : Int) then ((spec_intNode.f (⟨#[80, 114, 105, 111, 114, 105, 116, 121]⟩ : ByteArray) (wrap64 (rd ((rd_T31 l0 x19_1).f1) 2))).bind fun bt819 => ((spec_recordNode.f (⟨#[]⟩ : ByteArray) (([(⟨t775, t776, t777, t778, t779, t780, t781, t782⟩ : S39), (⟨bt786.1, bt786.2.1, bt786.2.2.1, bt786.2.2.2.1, bt786.2.2.2.2.1, bt786.2.2.2.2.2.1, bt786.2.2.2.2.2.2.1, bt786.2.2.2.2.2.2.2⟩ : S39), (⟨bt797.1, bt797.2.1, bt797.2.2.1, bt797.2.2.2.1, bt797.2.2.2.2.1, bt797.2.2.2.2.2.1, bt797.2.2.2.2.2.2.1, bt797.2.2.2.2.2.2.2⟩ : S39), (⟨bt808.1, bt808.2.1, bt808.2.2.1, bt808.2.2.2.1, bt808.2.2.2.2.1, bt808.2.2.2.2.2.1, bt808.2.2.2.2.2.2.1, bt808.2.2.2.2.2.2.2⟩ : S39), (⟨bt819.1, bt819.2.1, bt819.2.2.1, bt819.2.2.2.1, bt819.2.2.2.2.1, bt819.2.2.2.2.2.1, bt819.2.2.2.2.2.2.1, bt819.2.2.2.2.2.2.2⟩ : S39)] : List (S39)))).bind fun bt832 => (if x6_1.length < 1466015503701 then (spec_SwapsTree.l0 k1 (x6_1 ++ [(⟨bt832.1, bt832.2.1, bt832.2.2.1, bt832.2.2.2.1, bt832.2.2.2.2.1, bt832.2.2.2.2.2.1, bt832.2.2.2.2.2.2.1, bt832.2.2.2.2.2.2.2⟩ : S39)]) l0 (l0.length : Int) (wrap64 (x19_1 + 1))) else (none)))) else (none))) else (none))) else (none))) else (none)) = some (r1, r2, r3, r4, r5, r6, r7, r8, r9) := H
     have A9 := Aside0.mk A90
     clear A90
     replace H := guard_inv H
     obtain ⟨c10, H⟩ := H
     have c10b0 : decide (0 < (((rd_T31 l0 x19_1).f2).length : Int)) = true := decide_eq_true c10
     have c10b1 : decide (0 < ((rd_T31 l0 x19_1).f2).length) = true := decide_eq_true (by omega)
     clear c10
     replace H := Option.bind_eq_some_iff.mp H
     obtain ⟨⟨t786, t787, t788, t789, t790, t791, t792, t793⟩, A110, H⟩ := H
     replace H : (if 0 < (((rd_T31 l0 x19_1).f1).length : Int) then ((spec_intNode.f (⟨#[83, 105, 122, 101]⟩ : ByteArray) (wrap64 (rd ((rd_T31 l0 x19_1).f1) 0))).bind fun bt797 => (if 1 < (((rd_T31 l0 x19_1).f1).length : Int) then ((spec_intNode.f (⟨#[85, 115, 101, 100]⟩ : ByteArray) (wrap64 (rd ((rd_T31 l0 x19_1).f1) 1))).bind fun bt808 => (if 2 < (((rd_T31 l0 x19_1).f1).length : Int) then ((spec_intNode.f (⟨#[80, 114, 105, 111, 114, 105, 116, 121]⟩ : ByteArray) (wrap64 (rd ((rd_T31 l0 x19_1).f1) 2))).bind fun bt819 => ((spec_recordNode.f (⟨#[]⟩ : ByteArray) (([(⟨t775, t776, t777, t778, t779, t780, t781, t782⟩ : S39), (⟨t786, t787, t788, t789, t790, t791, t792, t793⟩ : S39), (⟨bt797.1, bt797.2.1, bt797.2.2.1, bt797.2.2.2.1, bt797.2.2.2.2.1, bt797.2.2.2.2.2.1, bt797.2.2.2.2.2.2.1, bt797.2.2.2.2.2.2.2⟩ : S39), (⟨bt808.1, bt808.2.1, bt808.2.2.1, bt808.2.2.2.1, bt808.2.2.2.2.1, bt808.2.2.2.2.2.1, bt808.2.2.2.2.2.2.1, bt808.2.2.2.2.2.2.2⟩ : S39), (⟨bt819.1, bt819.2.1, bt819.2.2.1, bt819.2.2.2.1, bt819.2.2.2.2.1, bt819.2.2.2.2.2.1, bt819.2.2.2.2.2.2.1, bt819.2.2.2.2.2.2.2⟩ : S39)] : List (S39)))).bind fun bt832 => (if x6_1.length < 1466015503701 then (spec_SwapsTree.l0 k1 (x6_1 ++ [(⟨bt832.1, bt832.2.1, bt832.2.2.1, bt832.2.2.2.1, bt832.2.2.2.2.1, bt832.2.2.2.2.2.1, bt832.2.2.2.2.2.2.1, bt832.2.2.2.2.2.2.2⟩ : S39)]) l0 (l0.length : Int) (wrap64 (x19_1 + 1))) else (none)))) else (none))) else (none))) else (none)) = some (r1, r2, r3, r4, r5, r6, r7, r8, r9) := H
     have A11 := Aside0.mk A110
     clear A110
     replace H := guard_inv H
     obtain ⟨c12, H⟩ := H
     have c12b0 : decide (0 < (((rd_T31 l0 x19_1).f1).length : Int)) = true := decide_eq_true c12
     have c12b1 : decide (0 < ((rd_T31 l0 x19_1).f1).length) = true := decide_eq_true (by omega)
     clear c12
     replace H := Option.bind_eq_some_iff.mp H
     obtain ⟨⟨t797, t798, t799, t800, t801, t802, t803, t804⟩, A130, H⟩ := H
     replace H : (if 1 < (((rd_T31 l0 x19_1).f1).length : Int) then ((spec_intNode.f (⟨#[85, 115, 101, 100]⟩ : ByteArray) (wrap64 (rd ((rd_T31 l0 x19_1).f1) 1))).bind fun bt808 => (if 2 < (((rd_T31 l0 x19_1).f1).length : Int) then ((spec_intNode.f (⟨#[80, 114, 105, 111, 114, 105, 116, 121]⟩ : ByteArray) (wrap64 (rd ((rd_T31 l0 x19_1).f1) 2))).bind fun bt819 => ((spec_recordNode.f (⟨#[]⟩ : ByteArray) (([(⟨t775, t776, t777, t778, t779, t780, t781, t782⟩ : S39), (⟨t786, t787, t788, t789, t790, t791, t792, t793⟩ : S39), (⟨t797, t798, t799, t800, t801, t802, t803, t804⟩ : S39), (⟨bt808.1, bt808.2.1, bt808.2.2.1, bt808.2.2.2.1, bt808.2.2.2.2.1, bt808.2.2.2.2.2.1, bt808.2.2.2.2.2.2.1, bt808.2.2.2.2.2.2.2⟩ : S39), (⟨bt819.1, bt819.2.1, bt819.2.2.1, bt819.2.2.2.1, bt819.2.2.2.2.1, bt819.2.2.2.2.2.1, bt819.2.2.2.2.2.2.1, bt819.2.2.2.2.2.2.2⟩ : S39)] : List (S39)))).bind fun bt832 => (if x6_1.length < 1466015503701 then (spec_SwapsTree.l0 k1 (x6_1 ++ [(⟨bt832.1, bt832.2.1, bt832.2.2.1, bt832.2.2.2.1, bt832.2.2.2.2.1, bt832.2.2.2.2.2.1, bt832.2.2.2.2.2.2.1, bt832.2.2.2.2.2.2.2⟩ : S39)]) l0 (l0.length : Int) (wrap64 (x19_1 + 1))) else (none)))) else (none))) else (none)) = some (r1, r2, r3, r4, r5, r6, r7, r8, r9) := H
     have A13 := Aside0.mk A130
     clear A130
     replace H := guard_inv H
     obtain ⟨c14, H⟩ := H
     have c14b0 : decide (1 < (((rd_T31 l0 x19_1).f1).length : Int)) = true := decide_eq_true c14
     have c14b1 : decide (1 < ((rd_T31 l0 x19_1).f1).length) = true := decide_eq_true (by omega)
     clear c14
     replace H := Option.bind_eq_some_iff.mp H
     obtain ⟨⟨t808, t809, t810, t811, t812, t813, t814, t815⟩, A150, H⟩ := H
     replace H : (if 2 < (((rd_T31 l0 x19_1).f1).length : Int) then ((spec_intNode.f (⟨#[80, 114, 105, 111, 114, 105, 116, 121]⟩ : ByteArray) (wrap64 (rd ((rd_T31 l0 x19_1).f1) 2))).bind fun bt819 => ((spec_recordNode.f (⟨#[]⟩ : ByteArray) (([(⟨t775, t776, t777, t778, t779, t780, t781, t782⟩ : S39), (⟨t786, t787, t788, t789, t790, t791, t792, t793⟩ : S39), (⟨t797, t798, t799, t800, t801, t802, t803, t804⟩ : S39), (⟨t808, t809, t810, t811, t812, t813, t814, t815⟩ : S39), (⟨bt819.1, bt819.2.1, bt819.2.2.1, bt819.2.2.2.1, bt819.2.2.2.2.1, bt819.2.2.2.2.2.1, bt819.2.2.2.2.2.2.1, bt819.2.2.2.2.2.2.2⟩ : S39)] : List (S39)))).bind fun bt832 => (if x6_1.length < 1466015503701 then (spec_SwapsTree.l0 k1 (x6_1 ++ [(⟨bt832.1, bt832.2.1, bt832.2.2.1, bt832.2.2.2.1, bt832.2.2.2.2.1, bt832.2.2.2.2.2.1, bt832.2.2.2.2.2.2.1, bt832.2.2.2.2.2.2.2⟩ : S39)]) l0 (l0.length : Int) (wrap64 (x19_1 + 1))) else (none)))) else (none)) = some (r1, r2, r3, r4, r5, r6, r7, r8, r9) := H
     have A15 := Aside0.mk A150
     clear A150
     replace H := guard_inv H
     obtain ⟨c16, H⟩ := H
     have c16b0 : decide (2 < (((rd_T31 l0 x19_1).f1).length : Int)) = true := decide_eq_true c16
     have c16b1 : decide (2 < ((rd_T31 l0 x19_1).f1).length) = true := decide_eq_true (by omega)
     clear c16
     replace H := Option.bind_eq_some_iff.mp H
     obtain ⟨⟨t819, t820, t821, t822, t823, t824, t825, t826⟩, A170, H⟩ := H
     replace H : ((spec_recordNode.f (⟨#[]⟩ : ByteArray) (([(⟨t775, t776, t777, t778, t779, t780, t781, t782⟩ : S39), (⟨t786, t787, t788, t789, t790, t791, t792, t793⟩ : S39), (⟨t797, t798, t799, t800, t801, t802, t803, t804⟩ : S39), (⟨t808, t809, t810, t811, t812, t813, t814, t815⟩ : S39), (⟨t819, t820, t821, t822, t823, t824, t825, t826⟩ : S39)] : List (S39)))).bind fun bt832 => (if x6_1.length < 1466015503701 then (spec_SwapsTree.l0 k1 (x6_1 ++ [(⟨bt832.1, bt832.2.1, bt832.2.2.1, bt832.2.2.2.1, bt832.2.2.2.2.1, bt832.2.2.2.2.2.1, bt832.2.2.2.2.2.2.1, bt832.2.2.2.2.2.2.2⟩ : S39)]) l0 (l0.length : Int) (wrap64 (x19_1 + 1))) else (none))) = some (r1, r2, r3, r4, r5, r6, r7, r8, r9) := H
     have A17 := Aside0.mk A170
     clear A170
     obtain ⟨y829, hy829⟩ : ∃ y_ : List (S39), y_ = (([(⟨t775, t776, t777, t778, t779, t780, t781, t782⟩ : S39), (⟨t786, t787, t788, t789, t790, t791, t792, t793⟩ : S39), (⟨t797, t798, t799, t800, t801, t802, t803, t804⟩ : S39), (⟨t808, t809, t810, t811, t812, t813, t814, t815⟩ : S39), (⟨t819, t820, t821, t822, t823, t824, t825, t826⟩ : S39)] : List (S39))) := ⟨_, rfl⟩
     replace H : ((spec_recordNode.f (⟨#[]⟩ : ByteArray) y829).bind fun bt832 => (if x6_1.length < 1466015503701 then (spec_SwapsTree.l0 k1 (x6_1 ++ [(⟨bt832.1, bt832.2.1, bt832.2.2.1, bt832.2.2.2.1, bt832.2.2.2.2.1, bt832.2.2.2.2.2.1, bt832.2.2.2.2.2.2.1, bt832.2.2.2.2.2.2.2⟩ : S39)]) l0 (l0.length : Int) (wrap64 (x19_1 + 1))) else (none))) = some (r1, r2, r3, r4, r5, r6, r7, r8, r9) := by first | (rw [hy829]; with_reducible exact H) | (have H2_ := (Option.bind_some _ _).symm.trans H; rw [hy829]; with_reducible exact H2_) | (have H2_ := (Option.bind_some _ _).symm.trans H; with_reducible exact H2_) | with_reducible exact H | (rw [hy829]; exact H) | exact H
     have Ny829 := Aside0.mk hy829
     clear hy829
     replace H := Option.bind_eq_some_iff.mp H
     obtain ⟨⟨t832, t833, t834, t835, t836, t837, t838, t839⟩, A180, H⟩ := H
     replace H : (if x6_1.length < 1466015503701 then (spec_SwapsTree.l0 k1 (x6_1 ++ [(⟨t832, t833, t834, t835, t836, t837, t838, t839⟩ : S39)]) l0 (l0.length : Int) (wrap64 (x19_1 + 1))) else (none)) = some (r1, r2, r3, r4, r5, r6, r7, r8, r9) := H
     have A18 := Aside0.mk A180
     clear A180
     replace H := guard_inv H
     obtain ⟨c19, H⟩ := H
     have LMc19 := Aside0.mk c19
     clear c19
     obtain ⟨y842, hy842⟩ : ∃ y_ : List (S39), y_ = (x6_1 ++ [(⟨t832, t833, t834, t835, t836, t837, t838, t839⟩ : S39)]) := ⟨_, rfl⟩
     replace H : (spec_SwapsTree.l0 k1 y842 l0 (l0.length : Int) (wrap64 (x19_1 + 1))) = some (r1, r2, r3, r4, r5, r6, r7, r8, r9) := by first | (rw [hy842]; with_reducible exact H) | (have H2_ := (Option.bind_some _ _).symm.trans H; rw [hy842]; with_reducible exact H2_) | (have H2_ := (Option.bind_some _ _).symm.trans H; with_reducible exact H2_) | with_reducible exact H | (rw [hy842]; exact H) | exact H
     have Ny842 := Aside0.mk hy842
     clear hy842
     have H' := Aside0.mk H
     clear H
     have p773 : 0 ≤ (x19_1 : Int) := of_decide_eq_true (by first | (with_reducible assumption) | assumption)
     have q773 : x19_1 < (l0.length : Int) := of_decide_eq_true (by first | (with_reducible assumption) | assumption)
     obtain ⟨ad773, A773_1, c773_1, A773_2, c773_2, e773, hx773_0, hx773_1, hx773_2, hl773_1, hi773_1, hl773_2, hi773_2⟩ := at_T31 HR0.out x19_1 p773 q773
     cases e773
     replace hx773_0 := (HB.out.cell (World.block_lt_of_cell? w _ hx773_0)).trans hx773_0
     replace hx773_1 := (HB.out.cell (World.block_lt_of_cell? w _ hx773_1)).trans hx773_1
     replace hx773_2 := (HB.out.cell (World.block_lt_of_cell? w _ hx773_2)).trans hx773_2
     have HR773_1 := Aside0.mk hi773_1
     have HC773_1 := Aside0.mk hl773_1
     clear hi773_1 hl773_1
     have HR773_2 := Aside0.mk hi773_2
     have HC773_2 := Aside0.mk hl773_2
     clear hi773_2 hl773_2
     replace p773 := eq_true p773
     replace q773 := eq_true q773
     try go_wp2_with (first | ((with_reducible refine gate_dst (N := 8) rfl ?_); refine box_event ?hg (N := 8) ?hd (cs := #[.string (⟨#[]⟩ : ByteArray), .slice none 0 0, .slice none 0 0]) (t := 31) ?hr ?_; (case hd => rfl); (case hg => rfl); (case hr => first | (go_simp; done) | (go_simp; rfl)); intro gb774 hg w20 hbox hb; have n0_ := Aside0.mk (Kd.N_below (Kd.N_elderB (by (with_reducible repeat (first | apply Kd.N_alloc | apply Kd.N_drewN | apply Kd.N_drew)); exact HO_6.out) gb774 (Nat.le_of_eq hg.symm)) hb); have n1_ := Aside0.mk (blk_below (g := gb760) (o := .cells #[.string (⟨#[]⟩ : ByteArray), .int .i64 0, .bool false, .int .i64 0, .int .u64 0, .float .f64 0, .string (⟨#[]⟩ : ByteArray), .slice none 0 0] 39 (0, 0)) (by (with_reducible repeat (first | refine blk_drewN ?_ _ | refine blk_drew ?_ | refine blk_alloc ?_ _)); exact BK760.out) hb); have n2_ := Aside0.mk (below_step (by repeat (first | (with_reducible first | exact HB.out | apply below_alloc | apply pw_below_drewN | apply below_drew1 | refine below_set ?_ GE760.out) | exact HB.out)) hb); have n3_ := Aside0.mk (hbox); have n4_ := Aside0.mk ((by rw [hg]; exact (below_size (by repeat (first | (with_reducible first | exact HB.out | apply below_alloc | apply pw_below_drewN | apply below_drew1 | refine below_set ?_ GE760.out) | exact HB.out))) : w.heap.size ≤ gb774)); have n5_ := Aside0.mk ((by rw [hg]; exact (below_size (by repeat (first | (with_reducible first | exact HB.out | apply below_alloc | apply pw_below_drewN | apply below_drew1 | refine below_set ?_ GE760.out) | exact HB.out))) : w.heap.size ≤ gb774)); have n6_ := Aside0.mk ((by rw [hg]; exact Nat.ne_of_lt (blk_lt (g := gb760) (o := .cells #[.string (⟨#[]⟩ : ByteArray), .int .i64 0, .bool false, .int .i64 0, .int .u64 0, .float .f64 0, .string (⟨#[]⟩ : ByteArray), .slice none 0 0] 39 (0, 0)) (by (with_reducible repeat (first | refine blk_drewN ?_ _ | refine blk_drew ?_ | refine blk_alloc ?_ _)); exact BK760.out)) : gb760 ≠ gb774)); have n7_ := Aside0.mk ((by rw [hg]; exact Nat.ne_of_gt (blk_lt (g := gb760) (o := .cells #[.string (⟨#[]⟩ : ByteArray), .int .i64 0, .bool false, .int .i64 0, .int .u64 0, .float .f64 0, .string (⟨#[]⟩ : ByteArray), .slice none 0 0] 39 (0, 0)) (by (with_reducible repeat (first | refine blk_drewN ?_ _ | refine blk_drew ?_ | refine blk_alloc ?_ _)); exact BK760.out)) : gb774 ≠ gb760)); clear HO_6; clear BK760; clear HB; have HO_6 := n0_; have BK760 := n1_; have HB := n2_; have BK774 := n3_; have GW774 := n4_; have GE774 := n5_; have NB760_774 := n6_; have NB774_760 := n7_; clear n0_ n1_ n2_ n3_ n4_ n5_ n6_ n7_; clear hb hbox hg; have hnb21 := NB774_760.out; have hnc21 := NB760_774.out; have hcz22_0 : w20.cell? ⟨gb774, 0, none⟩ = some (.string (⟨#[]⟩ : ByteArray)) := (blk_cell BK774.out 0).trans rfl; have hcz22_1 : w20.cell? ⟨gb774, 1, none⟩ = some (.slice none 0 0) := (blk_cell BK774.out 1).trans rfl; have hcz22_2 : w20.cell? ⟨gb774, 2, none⟩ = some (.slice none 0 0) := (blk_cell BK774.out 2).trans rfl; have hfz22_0 := blk_frozen BK774.out 0; have hfz22_1 := blk_frozen BK774.out 1; have hfz22_2 := blk_frozen BK774.out 2))
     have n0_ : Aside0 (Kd.N k39 39 (((w20.setCell ⟨gb774, 0, none⟩ (.string ((rd_T31 l0 x19_1).f0))).setCell ⟨gb774, 1, none⟩ (.slice A773_1 ((rd_T31 l0 x19_1).f1).length c773_1)).setCell ⟨gb774, 2, none⟩ (.slice A773_2 ((rd_T31 l0 x19_1).f2).length c773_2)) w.heap.size (fun k_ => (w.heap.size ≤ k_) ∧ k_ ≠ gb760 ∧ k_ ≠ gb774) u6 x6_1) := ⟨by (with_reducible repeat (first | apply Kd.N_alloc | apply Kd.N_drewN | apply Kd.N_drew)); exact Kd.N_mono (Kd.N_far (p := ⟨gb774, 2, none⟩) (Kd.N_far (p := ⟨gb774, 1, none⟩) (Kd.N_far (p := ⟨gb774, 0, none⟩) (Kd.N_mono HO_6.out (fun k_ hk => (⟨hk, hk.2⟩ : _ ∧ k_ ≠ gb774))) (fun _ hk => hk.2) (.string ((rd_T31 l0 x19_1).f0))) (fun _ hk => hk.2) (.slice A773_1 ((rd_T31 l0 x19_1).f1).length c773_1)) (fun _ hk => hk.2) (.slice A773_2 ((rd_T31 l0 x19_1).f2).length c773_2)) (fun _ hk => ⟨hk.1.1.1, ⟨hk.1.1.2, hk.1.2⟩⟩)⟩
     have n1_ : Aside0 ((((w20.setCell ⟨gb774, 0, none⟩ (.string ((rd_T31 l0 x19_1).f0))).setCell ⟨gb774, 1, none⟩ (.slice A773_1 ((rd_T31 l0 x19_1).f1).length c773_1)).setCell ⟨gb774, 2, none⟩ (.slice A773_2 ((rd_T31 l0 x19_1).f2).length c773_2)).heap[gb760]? = some (.cells #[.string (⟨#[]⟩ : ByteArray), .int .i64 0, .bool false, .int .i64 0, .int .u64 0, .float .f64 0, .string (⟨#[]⟩ : ByteArray), .slice none 0 0] 39 (0, 0))) := ⟨by (with_reducible repeat (first | refine blk_drewN ?_ _ | refine blk_drew ?_ | refine blk_alloc ?_ _)); refine blk_far ?_ NB760_774.out _; (with_reducible repeat (first | refine blk_drewN ?_ _ | refine blk_drew ?_ | refine blk_alloc ?_ _)); refine blk_far ?_ NB760_774.out _; (with_reducible repeat (first | refine blk_drewN ?_ _ | refine blk_drew ?_ | refine blk_alloc ?_ _)); refine blk_far ?_ NB760_774.out _; (with_reducible repeat (first | refine blk_drewN ?_ _ | refine blk_drew ?_ | refine blk_alloc ?_ _)); exact BK760.out⟩
     have n2_ : Aside0 ((((w20.setCell ⟨gb774, 0, none⟩ (.string ((rd_T31 l0 x19_1).f0))).setCell ⟨gb774, 1, none⟩ (.slice A773_1 ((rd_T31 l0 x19_1).f1).length c773_1)).setCell ⟨gb774, 2, none⟩ (.slice A773_2 ((rd_T31 l0 x19_1).f2).length c773_2)).heap[gb774]? = some (.cells #[.string ((rd_T31 l0 x19_1).f0), .slice A773_1 ((rd_T31 l0 x19_1).f1).length c773_1, .slice A773_2 ((rd_T31 l0 x19_1).f2).length c773_2] 31 (0, 0))) := ⟨by (with_reducible repeat (first | refine blk_drewN ?_ _ | refine blk_drew ?_ | refine blk_alloc ?_ _)); refine blk_put (cs := #[.string ((rd_T31 l0 x19_1).f0), .slice A773_1 ((rd_T31 l0 x19_1).f1).length c773_1, .slice none 0 0]) ?_ 2 _ rfl; (with_reducible repeat (first | refine blk_drewN ?_ _ | refine blk_drew ?_ | refine blk_alloc ?_ _)); refine blk_put (cs := #[.string ((rd_T31 l0 x19_1).f0), .slice none 0 0, .slice none 0 0]) ?_ 1 _ rfl; (with_reducible repeat (first | refine blk_drewN ?_ _ | refine blk_drew ?_ | refine blk_alloc ?_ _)); refine blk_put (cs := #[.string (⟨#[]⟩ : ByteArray), .slice none 0 0, .slice none 0 0]) ?_ 0 _ rfl; (with_reducible repeat (first | refine blk_drewN ?_ _ | refine blk_drew ?_ | refine blk_alloc ?_ _)); exact BK774.out⟩
     have n3_ : Aside0 (Below w.heap.size w (((w20.setCell ⟨gb774, 0, none⟩ (.string ((rd_T31 l0 x19_1).f0))).setCell ⟨gb774, 1, none⟩ (.slice A773_1 ((rd_T31 l0 x19_1).f1).length c773_1)).setCell ⟨gb774, 2, none⟩ (.slice A773_2 ((rd_T31 l0 x19_1).f2).length c773_2))) := ⟨by repeat (first | (with_reducible first | exact HB.out | apply below_alloc | apply pw_below_drewN | apply below_drew1 | refine below_set ?_ GE760.out | refine below_set ?_ GE774.out) | exact HB.out)⟩
     (try clear HO_6)
     (try clear BK760)
     (try clear BK774)
     (try clear HB)
     generalize (((w20.setCell ⟨gb774, 0, none⟩ (.string ((rd_T31 l0 x19_1).f0))).setCell ⟨gb774, 1, none⟩ (.slice A773_1 ((rd_T31 l0 x19_1).f1).length c773_1)).setCell ⟨gb774, 2, none⟩ (.slice A773_2 ((rd_T31 l0 x19_1).f2).length c773_2)) = w23 at n0_ n1_ n2_ n3_ ⊢
     have HO_6 := n0_
     have BK760 := n1_
     have BK774 := n2_
     have HB := n3_
     clear n0_ n1_ n2_ n3_
     have n0_ := Aside0.mk (Kd.N_drew HO_6.out)
     have n1_ := Aside0.mk (blk_drew BK760.out)
     have n2_ := Aside0.mk (blk_drew BK774.out)
     have n3_ := Aside0.mk (below_drew1 HB.out)
     clear HO_6
     clear BK760
     clear BK774
     clear HB
     have HO_6 := n0_
     have BK760 := n1_
     have BK774 := n2_
     have HB := n3_
     clear n0_ n1_ n2_ n3_
     have p785 : 0 ≤ (0 : Int) := (by omega)
     have q785 : 0 < (((rd_T31 l0 x19_1).f2).length : Int) := of_decide_eq_true (by first | (with_reducible assumption) | assumption)
     obtain ⟨ad785, e785, hx785_0⟩ := Kd.at_string HR773_2.out 0 p785 q785
     have hw785_0 := hx785_0
     (try rw [show ((0 : Int)).toNat = 0 from rfl] at hw785_0)
     (try rw [show 0 * 1 = 0 from rfl] at hw785_0)
     (try rw [Addr.add_zero'] at hw785_0)
     cases e785
     have qi785 : (0 < ((rd_T31 l0 x19_1).f2).length) = True := eq_true (by omega)
     (try rw [show ((0 : Int)).toNat = 0 from rfl] at hx785_0)
     (try rw [Addr.add_zero'] at hx785_0)
     replace hx785_0 := (HB.out.cell (World.block_lt_of_cell? w _ hx785_0)).trans hx785_0
     replace p785 := eq_true p785
     replace q785 := eq_true q785
     have p796 : 0 ≤ (0 : Int) := (by omega)
     have q796 : 0 < (((rd_T31 l0 x19_1).f1).length : Int) := of_decide_eq_true (by first | (with_reducible assumption) | assumption)
     obtain ⟨ad796, e796, hx796_0⟩ := Kd.at_int HR773_1.out 0 p796 q796
     have hw796_0 := hx796_0
     (try rw [show ((0 : Int)).toNat = 0 from rfl] at hw796_0)
     (try rw [show 0 * 1 = 0 from rfl] at hw796_0)
     (try rw [Addr.add_zero'] at hw796_0)
     cases e796
     have qi796 : (0 < ((rd_T31 l0 x19_1).f1).length) = True := eq_true (by omega)
     (try rw [show ((0 : Int)).toNat = 0 from rfl] at hx796_0)
     (try rw [Addr.add_zero'] at hx796_0)
     replace hx796_0 := (HB.out.cell (World.block_lt_of_cell? w _ hx796_0)).trans hx796_0
     replace p796 := eq_true p796
     replace q796 := eq_true q796
     have p807 : 0 ≤ (1 : Int) := (by omega)
     have q807 : 1 < (((rd_T31 l0 x19_1).f1).length : Int) := of_decide_eq_true (by first | (with_reducible assumption) | assumption)
     obtain ⟨ad807, e807, hx807_0⟩ := Kd.at_int HR773_1.out 1 p807 q807
     have hw807_0 := hx807_0
     (try rw [show ((1 : Int)).toNat = 1 from rfl] at hw807_0)
     (try rw [show 1 * 1 = 1 from rfl] at hw807_0)
     (try simp only [Nat.reduceMul, Nat.reduceEqDiff, Go.Addr.add, ↓reduceIte] at hw807_0)
     obtain rfl : ad796 = ad807 := (by injection e807)
     (try simp only [show (1 : Int).toNat = 1 from rfl, Nat.reduceMul, Nat.reduceEqDiff, Go.Addr.add, ↓reduceIte] at hx807_0)
     have qi807 : (1 < ((rd_T31 l0 x19_1).f1).length) = True := eq_true (by omega)
     (try rw [show ((1 : Int)).toNat = 1 from rfl] at hx807_0)
     replace hx807_0 := (HB.out.cell (World.block_lt_of_cell? w _ hx807_0)).trans hx807_0
     replace p807 := eq_true p807
     replace q807 := eq_true q807
     have p818 : 0 ≤ (2 : Int) := (by omega)
     have q818 : 2 < (((rd_T31 l0 x19_1).f1).length : Int) := of_decide_eq_true (by first | (with_reducible assumption) | assumption)
     obtain ⟨ad818, e818, hx818_0⟩ := Kd.at_int HR773_1.out 2 p818 q818
     have hw818_0 := hx818_0
     (try rw [show ((2 : Int)).toNat = 2 from rfl] at hw818_0)
     (try rw [show 2 * 1 = 2 from rfl] at hw818_0)
     (try simp only [Nat.reduceMul, Nat.reduceEqDiff, Go.Addr.add, ↓reduceIte] at hw818_0)
     obtain rfl : ad796 = ad818 := (by injection e818)
     (try simp only [show (2 : Int).toNat = 2 from rfl, Nat.reduceMul, Nat.reduceEqDiff, Go.Addr.add, ↓reduceIte] at hx818_0)
     have qi818 : (2 < ((rd_T31 l0 x19_1).f1).length) = True := eq_true (by omega)
     (try rw [show ((2 : Int)).toNat = 2 from rfl] at hx818_0)
     replace hx818_0 := (HB.out.cell (World.block_lt_of_cell? w _ hx818_0)).trans hx818_0
     replace p818 := eq_true p818
     replace q818 := eq_true q818
     refine start_ (n := 32) (S := fun w' => w'.cell? ⟨gb774, 0, none⟩ = some (.string ((rd_T31 l0 x19_1).f0)) ∧ w'.cell? ⟨gb774, 1, none⟩ = some (.slice (some ad796) ((rd_T31 l0 x19_1).f1).length c773_1) ∧ w'.cell? ⟨gb774, 2, none⟩ = some (.slice (some ad785) ((rd_T31 l0 x19_1).f2).length c773_2) ∧ w'.cell? ad785 = some (.string (rdOf ByteArray.empty ((rd_T31 l0 x19_1).f2) 0)) ∧ w'.cell? ad796 = some (.int .u64 (rd ((rd_T31 l0 x19_1).f1) 0)) ∧ w'.cell? ⟨ad796.block, ad796.off + 1, none⟩ = some (.int .u64 (rd ((rd_T31 l0 x19_1).f1) 1)) ∧ w'.cell? ⟨ad796.block, ad796.off + 2, none⟩ = some (.int .u64 (rd ((rd_T31 l0 x19_1).f1) 2))) (ds := []) (bb [0, 32]) (by kernel_rfl) rfl rfl ⟨(blk_cell BK774.out 0).trans rfl, (blk_cell BK774.out 1).trans rfl, (blk_cell BK774.out 2).trans rfl, ((HB.out.cell (World.block_lt_of_cell? w _ hw785_0)).trans hw785_0), ((HB.out.cell (World.block_lt_of_cell? w _ hw796_0)).trans hw796_0), ((HB.out.cell (World.block_lt_of_cell? w _ hw807_0)).trans hw807_0), ((HB.out.cell (World.block_lt_of_cell? w _ hw818_0)).trans hw818_0)⟩ (fun hHeld => ?_); refine with_tabW spec_SwapsTree.tab8 spec_SwapsTree.bits8 (fun HT_ HW_ => ?_)
     generalize w23.drew = w24 at HO_6 BK760 BK774 HB hx785_0 hx796_0 hx807_0 hx818_0 hHeld ⊢
     refine pure_ (i := 0) (N := some 23) (v := ?_) (a' := ?_) (bb [1, 31]) rfl rfl (any_of HT_.out (by kernel_rfl)) (fun _ _ _ h => h) (Or.inl ⟨by rfl, ?_⟩) ?_ ?_
     rotate_left
     ·intro w'
      go_simp
      with_reducible rfl
     rotate_left
     ·simp only [Act.put, List.setIfInBounds_toArray, List.set_cons_zero, List.set_cons_succ, i64_w, i32_w]
      rfl
     refine pure_ (i := 1) (N := some 24) (v := ?_) (a' := ?_) (bb [2, 30]) rfl rfl (any_of HT_.out (by kernel_rfl)) (fun _ _ _ h => h) (Or.inl ⟨by rfl, ?_⟩) ?_ ?_
     rotate_left
     ·intro w'
      go_simp
      with_reducible rfl
     rotate_left
     ·simp only [Act.put, List.setIfInBounds_toArray, List.set_cons_zero, List.set_cons_succ, i64_w, i32_w]
      rfl
     refine pure_ (i := 4) (N := some 27) (v := ?_) (a' := ?_) (bb [2, 2, 1, 27]) rfl rfl (any_of HT_.out (by kernel_rfl)) (fun _ _ _ h => h) (Or.inl ⟨by rfl, ?_⟩) ?_ ?_
     rotate_left
     ·intro w'
      go_simp
      with_reducible rfl
     rotate_left
     ·simp only [Act.put, List.setIfInBounds_toArray, List.set_cons_zero, List.set_cons_succ, i64_w, i32_w]
      rfl
     refine pure_ (i := 9) (N := some 32) (v := ?_) (a' := ?_) (bb [2, 2, 1, 4, 1, 22]) rfl rfl (any_of HT_.out (by kernel_rfl)) (fun _ _ _ h => h) (Or.inl ⟨by rfl, ?_⟩) ?_ ?_
     rotate_left
     ·intro w'
      go_simp
      with_reducible rfl
     rotate_left
     ·simp only [Act.put, List.setIfInBounds_toArray, List.set_cons_zero, List.set_cons_succ, i64_w, i32_w]
      rfl
     refine pure_ (i := 15) (N := some 38) (v := ?_) (a' := ?_) (bb [2, 2, 1, 4, 1, 5, 1, 16]) rfl rfl (any_of HT_.out (by kernel_rfl)) (fun _ _ _ h => h) (Or.inl ⟨by rfl, ?_⟩) ?_ ?_
     rotate_left
     ·intro w'
      go_simp
      with_reducible rfl
     rotate_left
     ·simp only [Act.put, List.setIfInBounds_toArray, List.set_cons_zero, List.set_cons_succ, i64_w, i32_w]
      rfl
     refine pure_ (i := 21) (N := some 44) (v := ?_) (a' := ?_) (bb [2, 2, 1, 4, 1, 5, 1, 5, 1, 10]) rfl rfl (any_of HT_.out (by kernel_rfl)) (fun _ _ _ h => h) (Or.inl ⟨by rfl, ?_⟩) ?_ ?_
     rotate_left
     ·intro w'
      go_simp
      with_reducible rfl
     rotate_left
     ·simp only [Act.put, List.setIfInBounds_toArray, List.set_cons_zero, List.set_cons_succ, i64_w, i32_w]
      rfl
     refine take_ (i := 2) (N := some 25) (v := ?_) (a' := ?_) (bb [3, 1, 1, 4, 1, 5, 1, 5, 1, 10]) rfl rfl (take_ofW HT_.out HW_.out (by kernel_rfl)) (fun _ _ _ h => h) (Or.inl ⟨by rfl, ?_⟩) hHeld ?_ ?_
     rotate_left
     ·rintro w' ⟨s0, s1, s2, s3, s4, s5, s6⟩
      go_simp
      with_reducible rfl
     rotate_left
     ·simp only [Act.put, List.setIfInBounds_toArray, List.set_cons_zero, List.set_cons_succ, i64_w, i32_w]
      rfl
     refine take_ (i := 5) (N := some 28) (v := ?_) (a' := ?_) (bb [3, 1, 2, 3, 1, 5, 1, 5, 1, 10]) rfl rfl (take_ofW HT_.out HW_.out (by kernel_rfl)) (fun _ _ _ h => h) (Or.inl ⟨by rfl, ?_⟩) hHeld ?_ ?_
     rotate_left
     ·rintro w' ⟨s0, s1, s2, s3, s4, s5, s6⟩
      go_simp
      with_reducible rfl
     rotate_left
     ·simp only [Act.put, List.setIfInBounds_toArray, List.set_cons_zero, List.set_cons_succ, i64_w, i32_w]
      rfl
     refine pure_ (i := 6) (N := some 29) (v := ?_) (a' := ?_) (bb [3, 1, 3, 2, 1, 5, 1, 5, 1, 10]) rfl rfl (any_of HT_.out (by kernel_rfl)) (fun _ _ _ h => h) (Or.inl ⟨by rfl, ?_⟩) ?_ ?_
     rotate_left
     ·intro w'
      go_simp
      with_reducible rfl
     rotate_left
     ·simp only [Act.put, List.setIfInBounds_toArray, List.set_cons_zero, List.set_cons_succ, i64_w, i32_w]
      rfl
     refine take_ (i := 7) (N := some 30) (v := ?_) (a' := ?_) (bb [3, 1, 4, 1, 1, 5, 1, 5, 1, 10]) rfl rfl (take_ofW HT_.out HW_.out (by kernel_rfl)) (fun _ _ _ h => h) (Or.inl ⟨by rfl, ?_⟩) hHeld ?_ ?_
     rotate_left
     ·rintro w' ⟨s0, s1, s2, s3, s4, s5, s6⟩
      go_simp
      with_reducible rfl
     rotate_left
     ·simp only [Act.put, List.setIfInBounds_toArray, List.set_cons_zero, List.set_cons_succ, i64_w, i32_w]
      rfl
     refine take_ (i := 10) (N := some 33) (v := ?_) (a' := ?_) (bb [3, 1, 4, 1, 2, 4, 1, 5, 1, 10]) rfl rfl (take_ofW HT_.out HW_.out (by kernel_rfl)) (fun _ _ _ h => h) (Or.inl ⟨by rfl, ?_⟩) hHeld ?_ ?_
     rotate_left
     ·rintro w' ⟨s0, s1, s2, s3, s4, s5, s6⟩
      go_simp
      with_reducible rfl
     rotate_left
     ·simp only [Act.put, List.setIfInBounds_toArray, List.set_cons_zero, List.set_cons_succ, i64_w, i32_w]
      rfl
     refine pure_ (i := 11) (N := some 34) (v := ?_) (a' := ?_) (bb [3, 1, 4, 1, 3, 3, 1, 5, 1, 10]) rfl rfl (any_of HT_.out (by kernel_rfl)) (fun _ _ _ h => h) (Or.inl ⟨by rfl, ?_⟩) ?_ ?_
     rotate_left
     ·intro w'
      go_simp
      with_reducible rfl
     rotate_left
     ·simp only [Act.put, List.setIfInBounds_toArray, List.set_cons_zero, List.set_cons_succ, i64_w, i32_w]
      rfl
     refine take_ (i := 12) (N := some 35) (v := ?_) (a' := ?_) (bb [3, 1, 4, 1, 4, 2, 1, 5, 1, 10]) rfl rfl (take_ofW HT_.out HW_.out (by kernel_rfl)) (fun _ _ _ h => h) (Or.inl ⟨by rfl, ?_⟩) hHeld ?_ ?_
     rotate_left
     ·rintro w' ⟨s0, s1, s2, s3, s4, s5, s6⟩
      go_simp
      with_reducible rfl
     rotate_left
     ·simp only [Act.put, List.setIfInBounds_toArray, List.set_cons_zero, List.set_cons_succ, i64_w, i32_w]
      rfl
     refine pure_ (i := 13) (N := some 36) (v := ?_) (a' := ?_) (bb [3, 1, 4, 1, 5, 1, 1, 5, 1, 10]) rfl rfl (any_of HT_.out (by kernel_rfl)) (fun _ _ _ h => h) (Or.inl ⟨by rfl, ?_⟩) ?_ ?_
     rotate_left
     ·intro w'
      go_simp
      with_reducible rfl
     rotate_left
     ·simp only [Act.put, List.setIfInBounds_toArray, List.set_cons_zero, List.set_cons_succ, i64_w, i32_w]
      rfl
     refine take_ (i := 16) (N := some 39) (v := ?_) (a' := ?_) (bb [3, 1, 4, 1, 5, 1, 2, 4, 1, 10]) rfl rfl (take_ofW HT_.out HW_.out (by kernel_rfl)) (fun _ _ _ h => h) (Or.inl ⟨by rfl, ?_⟩) hHeld ?_ ?_
     rotate_left
     ·rintro w' ⟨s0, s1, s2, s3, s4, s5, s6⟩
      go_simp
      with_reducible rfl
     rotate_left
     ·simp only [Act.put, List.setIfInBounds_toArray, List.set_cons_zero, List.set_cons_succ, i64_w, i32_w]
      rfl
     refine pure_ (i := 17) (N := some 40) (v := ?_) (a' := ?_) (bb [3, 1, 4, 1, 5, 1, 3, 3, 1, 10]) rfl rfl (any_of HT_.out (by kernel_rfl)) (fun _ _ _ h => h) (Or.inl ⟨by rfl, ?_⟩) ?_ ?_
     rotate_left
     ·intro w'
      go_simp
      with_reducible rfl
     rotate_left
     ·simp only [Act.put, List.setIfInBounds_toArray, List.set_cons_zero, List.set_cons_succ, i64_w, i32_w]
      rfl
     refine take_ (i := 18) (N := some 41) (v := ?_) (a' := ?_) (bb [3, 1, 4, 1, 5, 1, 4, 2, 1, 10]) rfl rfl (take_ofW HT_.out HW_.out (by kernel_rfl)) (fun _ _ _ h => h) (Or.inl ⟨by rfl, ?_⟩) hHeld ?_ ?_
     rotate_left
     ·rintro w' ⟨s0, s1, s2, s3, s4, s5, s6⟩
      go_simp
      with_reducible rfl
     rotate_left
     ·simp only [Act.put, List.setIfInBounds_toArray, List.set_cons_zero, List.set_cons_succ, i64_w, i32_w]
      rfl
     refine pure_ (i := 19) (N := some 42) (v := ?_) (a' := ?_) (bb [3, 1, 4, 1, 5, 1, 5, 1, 1, 10]) rfl rfl (any_of HT_.out (by kernel_rfl)) (fun _ _ _ h => h) (Or.inl ⟨by rfl, ?_⟩) ?_ ?_
     rotate_left
     ·intro w'
      go_simp
      with_reducible rfl
     rotate_left
     ·simp only [Act.put, List.setIfInBounds_toArray, List.set_cons_zero, List.set_cons_succ, i64_w, i32_w]
      rfl
     refine take_ (i := 22) (N := some 45) (v := ?_) (a' := ?_) (bb [3, 1, 4, 1, 5, 1, 5, 1, 2, 9]) rfl rfl (take_ofW HT_.out HW_.out (by kernel_rfl)) (fun _ _ _ h => h) (Or.inl ⟨by rfl, ?_⟩) hHeld ?_ ?_
     rotate_left
     ·rintro w' ⟨s0, s1, s2, s3, s4, s5, s6⟩
      go_simp
      with_reducible rfl
     rotate_left
     ·simp only [Act.put, List.setIfInBounds_toArray, List.set_cons_zero, List.set_cons_succ, i64_w, i32_w]
      rfl
     refine pure_ (i := 23) (N := some 46) (v := ?_) (a' := ?_) (bb [3, 1, 4, 1, 5, 1, 5, 1, 3, 8]) rfl rfl (any_of HT_.out (by kernel_rfl)) (fun _ _ _ h => h) (Or.inl ⟨by rfl, ?_⟩) ?_ ?_
     rotate_left
     ·intro w'
      go_simp
      with_reducible rfl
     rotate_left
     ·simp only [Act.put, List.setIfInBounds_toArray, List.set_cons_zero, List.set_cons_succ, i64_w, i32_w]
      rfl
     refine take_ (i := 24) (N := some 47) (v := ?_) (a' := ?_) (bb [3, 1, 4, 1, 5, 1, 5, 1, 4, 7]) rfl rfl (take_ofW HT_.out HW_.out (by kernel_rfl)) (fun _ _ _ h => h) (Or.inl ⟨by rfl, ?_⟩) hHeld ?_ ?_
     rotate_left
     ·rintro w' ⟨s0, s1, s2, s3, s4, s5, s6⟩
      go_simp
      with_reducible rfl
     rotate_left
     ·simp only [Act.put, List.setIfInBounds_toArray, List.set_cons_zero, List.set_cons_succ, i64_w, i32_w]
      rfl
     refine pure_ (i := 25) (N := some 48) (v := ?_) (a' := ?_) (bb [3, 1, 4, 1, 5, 1, 5, 1, 5, 6]) rfl rfl (any_of HT_.out (by kernel_rfl)) (fun _ _ _ h => h) (Or.inl ⟨by rfl, ?_⟩) ?_ ?_
     rotate_left
     ·intro w'
      go_simp
      with_reducible rfl
     rotate_left
     ·simp only [Act.put, List.setIfInBounds_toArray, List.set_cons_zero, List.set_cons_succ, i64_w, i32_w]
      rfl
     refine one_ (i := 3) (N := some 26) (bb [8, 1, 5, 1, 5, 1, 5, 6]) rfl rfl (one_of HT_.out (by kernel_rfl)) (by decide) (fun K hK => ?_)
     refine goes_ Tryz.func65 (by kernel_rfl) rfl #[.string (⟨#[70, 105, 108, 101, 110, 97, 109, 101]⟩ : ByteArray), .string ((rd_T31 l0 x19_1).f0)] (by rfl) rfl rfl (by (try simp only [List.map_toArray, List.map_cons, List.map_nil]); first | done | rfl | (simp only [List.length_drop, List.length_take]; rfl)) ?_
     with_reducible refine (spec_textNode.calls (⟨#[70, 105, 108, 101, 110, 97, 109, 101]⟩ : ByteArray) ((rd_T31 l0 x19_1).f0) t775 t776 t777 t778 t779 t780 t781 t782 _ A9.out).mono ?_
     rintro e w25 ⟨v783, rfl, ho0, hb⟩
     refine ⟨_, rfl, ?_⟩
     have n0_ := Aside0.mk (Kd.N_elder' (by (with_reducible repeat (first | apply Kd.N_alloc | apply Kd.N_drewN | apply Kd.N_drew)); exact HO_6.out) (by first | exact Kd.N_base ho0 | exact Kd.R_base ho0) hb)
     have n1_ := Aside0.mk (Kd.N_lower (Kd.N_mono (ok' := fun k_ => (w.heap.size ≤ k_) ∧ some k_ ≠ (u6 : Value).ownBlock ∧ k_ ≠ gb760 ∧ k_ ≠ gb774) (Kd.R_N (Kd.R_bound ho0)) (fun k_ hk_ => ⟨(Nat.le_trans (below_size (by repeat (first | (with_reducible first | exact HB.out | apply below_alloc | apply pw_below_drewN | apply below_drew1 | refine below_set ?_ GE760.out | refine below_set ?_ GE774.out) | exact HB.out))) hk_.2.1), (Kd.fresh' (Kd.N_lt (by (with_reducible repeat (first | apply Kd.N_alloc | apply Kd.N_drewN | apply Kd.N_drew)); exact HO_6.out)) k_ hk_.2.1), (Kd.freshB (g := gb760) (o := .cells #[.string (⟨#[]⟩ : ByteArray), .int .i64 0, .bool false, .int .i64 0, .int .u64 0, .float .f64 0, .string (⟨#[]⟩ : ByteArray), .slice none 0 0] 39 (0, 0)) (by (with_reducible repeat (first | refine blk_drewN ?_ _ | refine blk_drew ?_ | refine blk_alloc ?_ _)); exact BK760.out) k_ hk_.2.1), (Kd.freshB (g := gb774) (o := .cells #[.string ((rd_T31 l0 x19_1).f0), .slice (some ad796) ((rd_T31 l0 x19_1).f1).length c773_1, .slice (some ad785) ((rd_T31 l0 x19_1).f2).length c773_2] 31 (0, 0)) (by (with_reducible repeat (first | refine blk_drewN ?_ _ | refine blk_drew ?_ | refine blk_alloc ?_ _)); exact BK774.out) k_ hk_.2.1)⟩)) (below_size (by repeat (first | (with_reducible first | exact HB.out | apply below_alloc | apply pw_below_drewN | apply below_drew1 | refine below_set ?_ GE760.out | refine below_set ?_ GE774.out) | exact HB.out))))
     have n2_ := Aside0.mk (blk_below (g := gb760) (o := .cells #[.string (⟨#[]⟩ : ByteArray), .int .i64 0, .bool false, .int .i64 0, .int .u64 0, .float .f64 0, .string (⟨#[]⟩ : ByteArray), .slice none 0 0] 39 (0, 0)) (by (with_reducible repeat (first | refine blk_drewN ?_ _ | refine blk_drew ?_ | refine blk_alloc ?_ _)); exact BK760.out) hb)
     have n3_ := Aside0.mk (blk_below (g := gb774) (o := .cells #[.string ((rd_T31 l0 x19_1).f0), .slice (some ad796) ((rd_T31 l0 x19_1).f1).length c773_1, .slice (some ad785) ((rd_T31 l0 x19_1).f2).length c773_2] 31 (0, 0)) (by (with_reducible repeat (first | refine blk_drewN ?_ _ | refine blk_drew ?_ | refine blk_alloc ?_ _)); exact BK774.out) hb)
     have n4_ := Aside0.mk (below_step (by repeat (first | (with_reducible first | exact HB.out | apply below_alloc | apply pw_below_drewN | apply below_drew1 | refine below_set ?_ GE760.out | refine below_set ?_ GE774.out) | exact HB.out)) hb)
     clear HO_6
     clear BK760
     clear BK774
     clear HB
     have HO_6 := n0_
     have HO784 := n1_
     have BK760 := n2_
     have BK774 := n3_
     have HB := n4_
     clear n0_ n1_ n2_ n3_ n4_
     (try clear hb)
     (try clear hb2)
     (try clear hk)
     (try clear hi)
     (try clear ho0)
     refine hK.out _ _ ⟨(blk_cell BK774.out 0).trans rfl, (blk_cell BK774.out 1).trans rfl, (blk_cell BK774.out 2).trans rfl, ((HB.out.cell (World.block_lt_of_cell? w _ hw785_0)).trans hw785_0), ((HB.out.cell (World.block_lt_of_cell? w _ hw796_0)).trans hw796_0), ((HB.out.cell (World.block_lt_of_cell? w _ hw807_0)).trans hw807_0), ((HB.out.cell (World.block_lt_of_cell? w _ hw818_0)).trans hw818_0)⟩ (fun hHeld => ?_)
     clear hK K
     refine norm_ (a' := ?_) ?_ ?_
     rotate_left
     ·show Act.put _ (some 26) _ = _
      simp only [Act.put, List.setIfInBounds_toArray, List.set_cons_zero, List.set_cons_succ, i64_w, i32_w]
      rfl
     refine one_ (i := 8) (N := some 31) (bb [14, 1, 5, 1, 5, 6]) rfl rfl (one_of HT_.out (by kernel_rfl)) (by decide) (fun K hK => ?_)
     refine goes_ Tryz.func65 (by kernel_rfl) rfl #[.string (⟨#[84, 121, 112, 101]⟩ : ByteArray), .string (rdOf ByteArray.empty ((rd_T31 l0 x19_1).f2) 0)] (by rfl) rfl rfl (by (try simp only [List.map_toArray, List.map_cons, List.map_nil]); first | done | rfl | (simp only [List.length_drop, List.length_take]; rfl)) ?_
     with_reducible refine (spec_textNode.calls (⟨#[84, 121, 112, 101]⟩ : ByteArray) (rdOf ByteArray.empty ((rd_T31 l0 x19_1).f2) 0) t786 t787 t788 t789 t790 t791 t792 t793 _ A11.out).mono ?_
     rintro e w26 ⟨v794, rfl, ho0, hb⟩
     refine ⟨_, rfl, ?_⟩
     have n0_ := Aside0.mk (Kd.N_elder' (by (with_reducible repeat (first | apply Kd.N_alloc | apply Kd.N_drewN | apply Kd.N_drew)); exact HO_6.out) (by first | exact Kd.N_base ho0 | exact Kd.R_base ho0) hb)
     have n1_ := Aside0.mk (Kd.N_elder' (by (with_reducible repeat (first | apply Kd.N_alloc | apply Kd.N_drewN | apply Kd.N_drew)); exact HO784.out) (by first | exact Kd.N_base ho0 | exact Kd.R_base ho0) hb)
     have n2_ := Aside0.mk (Kd.N_lower (Kd.N_mono (ok' := fun k_ => (w.heap.size ≤ k_) ∧ some k_ ≠ (u6 : Value).ownBlock ∧ some k_ ≠ (v783 : Value).ownBlock ∧ k_ ≠ gb760 ∧ k_ ≠ gb774) (Kd.R_N (Kd.R_bound ho0)) (fun k_ hk_ => ⟨(Nat.le_trans (below_size (by repeat (first | (with_reducible first | exact HB.out | apply below_alloc | apply pw_below_drewN | apply below_drew1 | refine below_set ?_ GE760.out | refine below_set ?_ GE774.out) | exact HB.out))) hk_.2.1), (Kd.fresh' (Kd.N_lt (by (with_reducible repeat (first | apply Kd.N_alloc | apply Kd.N_drewN | apply Kd.N_drew)); exact HO_6.out)) k_ hk_.2.1), (Kd.fresh' (Kd.N_lt (by (with_reducible repeat (first | apply Kd.N_alloc | apply Kd.N_drewN | apply Kd.N_drew)); exact HO784.out)) k_ hk_.2.1), (Kd.freshB (g := gb760) (o := .cells #[.string (⟨#[]⟩ : ByteArray), .int .i64 0, .bool false, .int .i64 0, .int .u64 0, .float .f64 0, .string (⟨#[]⟩ : ByteArray), .slice none 0 0] 39 (0, 0)) (by (with_reducible repeat (first | refine blk_drewN ?_ _ | refine blk_drew ?_ | refine blk_alloc ?_ _)); exact BK760.out) k_ hk_.2.1), (Kd.freshB (g := gb774) (o := .cells #[.string ((rd_T31 l0 x19_1).f0), .slice (some ad796) ((rd_T31 l0 x19_1).f1).length c773_1, .slice (some ad785) ((rd_T31 l0 x19_1).f2).length c773_2] 31 (0, 0)) (by (with_reducible repeat (first | refine blk_drewN ?_ _ | refine blk_drew ?_ | refine blk_alloc ?_ _)); exact BK774.out) k_ hk_.2.1)⟩)) (below_size (by repeat (first | (with_reducible first | exact HB.out | apply below_alloc | apply pw_below_drewN | apply below_drew1 | refine below_set ?_ GE760.out | refine below_set ?_ GE774.out) | exact HB.out))))
     have n3_ := Aside0.mk (blk_below (g := gb760) (o := .cells #[.string (⟨#[]⟩ : ByteArray), .int .i64 0, .bool false, .int .i64 0, .int .u64 0, .float .f64 0, .string (⟨#[]⟩ : ByteArray), .slice none 0 0] 39 (0, 0)) (by (with_reducible repeat (first | refine blk_drewN ?_ _ | refine blk_drew ?_ | refine blk_alloc ?_ _)); exact BK760.out) hb)
     have n4_ := Aside0.mk (blk_below (g := gb774) (o := .cells #[.string ((rd_T31 l0 x19_1).f0), .slice (some ad796) ((rd_T31 l0 x19_1).f1).length c773_1, .slice (some ad785) ((rd_T31 l0 x19_1).f2).length c773_2] 31 (0, 0)) (by (with_reducible repeat (first | refine blk_drewN ?_ _ | refine blk_drew ?_ | refine blk_alloc ?_ _)); exact BK774.out) hb)
     have n5_ := Aside0.mk (below_step (by repeat (first | (with_reducible first | exact HB.out | apply below_alloc | apply pw_below_drewN | apply below_drew1 | refine below_set ?_ GE760.out | refine below_set ?_ GE774.out) | exact HB.out)) hb)
     clear HO_6
     clear HO784
     clear BK760
     clear BK774
     clear HB
     have HO_6 := n0_
     have HO784 := n1_
     have HO795 := n2_
     have BK760 := n3_
     have BK774 := n4_
     have HB := n5_
     clear n0_ n1_ n2_ n3_ n4_ n5_
     (try clear hb)
     (try clear hb2)
     (try clear hk)
     (try clear hi)
     (try clear ho0)
     refine hK.out _ _ ⟨(blk_cell BK774.out 0).trans rfl, (blk_cell BK774.out 1).trans rfl, (blk_cell BK774.out 2).trans rfl, ((HB.out.cell (World.block_lt_of_cell? w _ hw785_0)).trans hw785_0), ((HB.out.cell (World.block_lt_of_cell? w _ hw796_0)).trans hw796_0), ((HB.out.cell (World.block_lt_of_cell? w _ hw807_0)).trans hw807_0), ((HB.out.cell (World.block_lt_of_cell? w _ hw818_0)).trans hw818_0)⟩ (fun hHeld => ?_)
     clear hK K
     refine norm_ (a' := ?_) ?_ ?_
     rotate_left
     ·show Act.put _ (some 31) _ = _
      simp only [Act.put, List.setIfInBounds_toArray, List.set_cons_zero, List.set_cons_succ, i64_w, i32_w]
      rfl
     refine one_ (i := 14) (N := some 37) (bb [20, 1, 5, 6]) rfl rfl (one_of HT_.out (by kernel_rfl)) (by decide) (fun K hK => ?_)
     refine goes_ Tryz.func74 (by kernel_rfl) rfl #[.string (⟨#[83, 105, 122, 101]⟩ : ByteArray), .int .i64 (wrap64 (rd ((rd_T31 l0 x19_1).f1) 0))] (by rfl) rfl rfl (by (try simp only [List.map_toArray, List.map_cons, List.map_nil]); first | done | rfl | (simp only [List.length_drop, List.length_take]; rfl)) ?_
     with_reducible refine (spec_intNode.calls (⟨#[83, 105, 122, 101]⟩ : ByteArray) (wrap64 (rd ((rd_T31 l0 x19_1).f1) 0)) t797 t798 t799 t800 t801 t802 t803 t804 _ A13.out).mono ?_
     rintro e w27 ⟨v805, rfl, ho0, hb⟩
     refine ⟨_, rfl, ?_⟩
     have n0_ := Aside0.mk (Kd.N_elder' (by (with_reducible repeat (first | apply Kd.N_alloc | apply Kd.N_drewN | apply Kd.N_drew)); exact HO_6.out) (by first | exact Kd.N_base ho0 | exact Kd.R_base ho0) hb)
     have n1_ := Aside0.mk (Kd.N_elder' (by (with_reducible repeat (first | apply Kd.N_alloc | apply Kd.N_drewN | apply Kd.N_drew)); exact HO784.out) (by first | exact Kd.N_base ho0 | exact Kd.R_base ho0) hb)
     have n2_ := Aside0.mk (Kd.N_elder' (by (with_reducible repeat (first | apply Kd.N_alloc | apply Kd.N_drewN | apply Kd.N_drew)); exact HO795.out) (by first | exact Kd.N_base ho0 | exact Kd.R_base ho0) hb)
     have n3_ := Aside0.mk (Kd.N_lower (Kd.N_mono (ok' := fun k_ => (w.heap.size ≤ k_) ∧ some k_ ≠ (u6 : Value).ownBlock ∧ some k_ ≠ (v783 : Value).ownBlock ∧ some k_ ≠ (v794 : Value).ownBlock ∧ k_ ≠ gb760 ∧ k_ ≠ gb774) (Kd.R_N (Kd.R_bound ho0)) (fun k_ hk_ => ⟨(Nat.le_trans (below_size (by repeat (first | (with_reducible first | exact HB.out | apply below_alloc | apply pw_below_drewN | apply below_drew1 | refine below_set ?_ GE760.out | refine below_set ?_ GE774.out) | exact HB.out))) hk_.2.1), (Kd.fresh' (Kd.N_lt (by (with_reducible repeat (first | apply Kd.N_alloc | apply Kd.N_drewN | apply Kd.N_drew)); exact HO_6.out)) k_ hk_.2.1), (Kd.fresh' (Kd.N_lt (by (with_reducible repeat (first | apply Kd.N_alloc | apply Kd.N_drewN | apply Kd.N_drew)); exact HO784.out)) k_ hk_.2.1), (Kd.fresh' (Kd.N_lt (by (with_reducible repeat (first | apply Kd.N_alloc | apply Kd.N_drewN | apply Kd.N_drew)); exact HO795.out)) k_ hk_.2.1), (Kd.freshB (g := gb760) (o := .cells #[.string (⟨#[]⟩ : ByteArray), .int .i64 0, .bool false, .int .i64 0, .int .u64 0, .float .f64 0, .string (⟨#[]⟩ : ByteArray), .slice none 0 0] 39 (0, 0)) (by (with_reducible repeat (first | refine blk_drewN ?_ _ | refine blk_drew ?_ | refine blk_alloc ?_ _)); exact BK760.out) k_ hk_.2.1), (Kd.freshB (g := gb774) (o := .cells #[.string ((rd_T31 l0 x19_1).f0), .slice (some ad796) ((rd_T31 l0 x19_1).f1).length c773_1, .slice (some ad785) ((rd_T31 l0 x19_1).f2).length c773_2] 31 (0, 0)) (by (with_reducible repeat (first | refine blk_drewN ?_ _ | refine blk_drew ?_ | refine blk_alloc ?_ _)); exact BK774.out) k_ hk_.2.1)⟩)) (below_size (by repeat (first | (with_reducible first | exact HB.out | apply below_alloc | apply pw_below_drewN | apply below_drew1 | refine below_set ?_ GE760.out | refine below_set ?_ GE774.out) | exact HB.out))))
     have n4_ := Aside0.mk (blk_below (g := gb760) (o := .cells #[.string (⟨#[]⟩ : ByteArray), .int .i64 0, .bool false, .int .i64 0, .int .u64 0, .float .f64 0, .string (⟨#[]⟩ : ByteArray), .slice none 0 0] 39 (0, 0)) (by (with_reducible repeat (first | refine blk_drewN ?_ _ | refine blk_drew ?_ | refine blk_alloc ?_ _)); exact BK760.out) hb)
     have n5_ := Aside0.mk (blk_below (g := gb774) (o := .cells #[.string ((rd_T31 l0 x19_1).f0), .slice (some ad796) ((rd_T31 l0 x19_1).f1).length c773_1, .slice (some ad785) ((rd_T31 l0 x19_1).f2).length c773_2] 31 (0, 0)) (by (with_reducible repeat (first | refine blk_drewN ?_ _ | refine blk_drew ?_ | refine blk_alloc ?_ _)); exact BK774.out) hb)
     have n6_ := Aside0.mk (below_step (by repeat (first | (with_reducible first | exact HB.out | apply below_alloc | apply pw_below_drewN | apply below_drew1 | refine below_set ?_ GE760.out | refine below_set ?_ GE774.out) | exact HB.out)) hb)
     clear HO_6
     clear HO784
     clear HO795
     clear BK760
     clear BK774
     clear HB
     have HO_6 := n0_
     have HO784 := n1_
     have HO795 := n2_
     have HO806 := n3_
     have BK760 := n4_
     have BK774 := n5_
     have HB := n6_
     clear n0_ n1_ n2_ n3_ n4_ n5_ n6_
     (try clear hb)
     (try clear hb2)
     (try clear hk)
     (try clear hi)
     (try clear ho0)
     refine hK.out _ _ ⟨(blk_cell BK774.out 0).trans rfl, (blk_cell BK774.out 1).trans rfl, (blk_cell BK774.out 2).trans rfl, ((HB.out.cell (World.block_lt_of_cell? w _ hw785_0)).trans hw785_0), ((HB.out.cell (World.block_lt_of_cell? w _ hw796_0)).trans hw796_0), ((HB.out.cell (World.block_lt_of_cell? w _ hw807_0)).trans hw807_0), ((HB.out.cell (World.block_lt_of_cell? w _ hw818_0)).trans hw818_0)⟩ (fun hHeld => ?_)
     clear hK K
     refine norm_ (a' := ?_) ?_ ?_
     rotate_left
     ·show Act.put _ (some 37) _ = _
      simp only [Act.put, List.setIfInBounds_toArray, List.set_cons_zero, List.set_cons_succ, i64_w, i32_w]
      rfl
     refine one_ (i := 20) (N := some 43) (bb [26, 6]) rfl rfl (one_of HT_.out (by kernel_rfl)) (by decide) (fun K hK => ?_)
     refine goes_ Tryz.func74 (by kernel_rfl) rfl #[.string (⟨#[85, 115, 101, 100]⟩ : ByteArray), .int .i64 (wrap64 (rd ((rd_T31 l0 x19_1).f1) 1))] (by rfl) rfl rfl (by (try simp only [List.map_toArray, List.map_cons, List.map_nil]); first | done | rfl | (simp only [List.length_drop, List.length_take]; rfl)) ?_
     with_reducible refine (spec_intNode.calls (⟨#[85, 115, 101, 100]⟩ : ByteArray) (wrap64 (rd ((rd_T31 l0 x19_1).f1) 1)) t808 t809 t810 t811 t812 t813 t814 t815 _ A15.out).mono ?_
     rintro e w28 ⟨v816, rfl, ho0, hb⟩
     refine ⟨_, rfl, ?_⟩
     have n0_ := Aside0.mk (Kd.N_elder' (by (with_reducible repeat (first | apply Kd.N_alloc | apply Kd.N_drewN | apply Kd.N_drew)); exact HO_6.out) (by first | exact Kd.N_base ho0 | exact Kd.R_base ho0) hb)
     have n1_ := Aside0.mk (Kd.N_elder' (by (with_reducible repeat (first | apply Kd.N_alloc | apply Kd.N_drewN | apply Kd.N_drew)); exact HO784.out) (by first | exact Kd.N_base ho0 | exact Kd.R_base ho0) hb)
     have n2_ := Aside0.mk (Kd.N_elder' (by (with_reducible repeat (first | apply Kd.N_alloc | apply Kd.N_drewN | apply Kd.N_drew)); exact HO795.out) (by first | exact Kd.N_base ho0 | exact Kd.R_base ho0) hb)
     have n3_ := Aside0.mk (Kd.N_elder' (by (with_reducible repeat (first | apply Kd.N_alloc | apply Kd.N_drewN | apply Kd.N_drew)); exact HO806.out) (by first | exact Kd.N_base ho0 | exact Kd.R_base ho0) hb)
     have n4_ := Aside0.mk (Kd.N_lower (Kd.N_mono (ok' := fun k_ => (w.heap.size ≤ k_) ∧ some k_ ≠ (u6 : Value).ownBlock ∧ some k_ ≠ (v783 : Value).ownBlock ∧ some k_ ≠ (v794 : Value).ownBlock ∧ some k_ ≠ (v805 : Value).ownBlock ∧ k_ ≠ gb760 ∧ k_ ≠ gb774) (Kd.R_N (Kd.R_bound ho0)) (fun k_ hk_ => ⟨(Nat.le_trans (below_size (by repeat (first | (with_reducible first | exact HB.out | apply below_alloc | apply pw_below_drewN | apply below_drew1 | refine below_set ?_ GE760.out | refine below_set ?_ GE774.out) | exact HB.out))) hk_.2.1), (Kd.fresh' (Kd.N_lt (by (with_reducible repeat (first | apply Kd.N_alloc | apply Kd.N_drewN | apply Kd.N_drew)); exact HO_6.out)) k_ hk_.2.1), (Kd.fresh' (Kd.N_lt (by (with_reducible repeat (first | apply Kd.N_alloc | apply Kd.N_drewN | apply Kd.N_drew)); exact HO784.out)) k_ hk_.2.1), (Kd.fresh' (Kd.N_lt (by (with_reducible repeat (first | apply Kd.N_alloc | apply Kd.N_drewN | apply Kd.N_drew)); exact HO795.out)) k_ hk_.2.1), (Kd.fresh' (Kd.N_lt (by (with_reducible repeat (first | apply Kd.N_alloc | apply Kd.N_drewN | apply Kd.N_drew)); exact HO806.out)) k_ hk_.2.1), (Kd.freshB (g := gb760) (o := .cells #[.string (⟨#[]⟩ : ByteArray), .int .i64 0, .bool false, .int .i64 0, .int .u64 0, .float .f64 0, .string (⟨#[]⟩ : ByteArray), .slice none 0 0] 39 (0, 0)) (by (with_reducible repeat (first | refine blk_drewN ?_ _ | refine blk_drew ?_ | refine blk_alloc ?_ _)); exact BK760.out) k_ hk_.2.1), (Kd.freshB (g := gb774) (o := .cells #[.string ((rd_T31 l0 x19_1).f0), .slice (some ad796) ((rd_T31 l0 x19_1).f1).length c773_1, .slice (some ad785) ((rd_T31 l0 x19_1).f2).length c773_2] 31 (0, 0)) (by (with_reducible repeat (first | refine blk_drewN ?_ _ | refine blk_drew ?_ | refine blk_alloc ?_ _)); exact BK774.out) k_ hk_.2.1)⟩)) (below_size (by repeat (first | (with_reducible first | exact HB.out | apply below_alloc | apply pw_below_drewN | apply below_drew1 | refine below_set ?_ GE760.out | refine below_set ?_ GE774.out) | exact HB.out))))
     have n5_ := Aside0.mk (blk_below (g := gb760) (o := .cells #[.string (⟨#[]⟩ : ByteArray), .int .i64 0, .bool false, .int .i64 0, .int .u64 0, .float .f64 0, .string (⟨#[]⟩ : ByteArray), .slice none 0 0] 39 (0, 0)) (by (with_reducible repeat (first | refine blk_drewN ?_ _ | refine blk_drew ?_ | refine blk_alloc ?_ _)); exact BK760.out) hb)
     have n6_ := Aside0.mk (blk_below (g := gb774) (o := .cells #[.string ((rd_T31 l0 x19_1).f0), .slice (some ad796) ((rd_T31 l0 x19_1).f1).length c773_1, .slice (some ad785) ((rd_T31 l0 x19_1).f2).length c773_2] 31 (0, 0)) (by (with_reducible repeat (first | refine blk_drewN ?_ _ | refine blk_drew ?_ | refine blk_alloc ?_ _)); exact BK774.out) hb)
     have n7_ := Aside0.mk (below_step (by repeat (first | (with_reducible first | exact HB.out | apply below_alloc | apply pw_below_drewN | apply below_drew1 | refine below_set ?_ GE760.out | refine below_set ?_ GE774.out) | exact HB.out)) hb)
     clear HO_6
     clear HO784
     clear HO795
     clear HO806
     clear BK760
     clear BK774
     clear HB
     have HO_6 := n0_
     have HO784 := n1_
     have HO795 := n2_
     have HO806 := n3_
     have HO817 := n4_
     have BK760 := n5_
     have BK774 := n6_
     have HB := n7_
     clear n0_ n1_ n2_ n3_ n4_ n5_ n6_ n7_
     (try clear hb)
     (try clear hb2)
     (try clear hk)
     (try clear hi)
     (try clear ho0)
     refine hK.out _ _ ⟨(blk_cell BK774.out 0).trans rfl, (blk_cell BK774.out 1).trans rfl, (blk_cell BK774.out 2).trans rfl, ((HB.out.cell (World.block_lt_of_cell? w _ hw785_0)).trans hw785_0), ((HB.out.cell (World.block_lt_of_cell? w _ hw796_0)).trans hw796_0), ((HB.out.cell (World.block_lt_of_cell? w _ hw807_0)).trans hw807_0), ((HB.out.cell (World.block_lt_of_cell? w _ hw818_0)).trans hw818_0)⟩ (fun hHeld => ?_)
     clear hK K
     refine norm_ (a' := ?_) ?_ ?_
     rotate_left
     ·show Act.put _ (some 43) _ = _
      simp only [Act.put, List.setIfInBounds_toArray, List.set_cons_zero, List.set_cons_succ, i64_w, i32_w]
      rfl
     refine one_ (i := 26) (N := some 49) (bb [27, 5]) rfl rfl (one_of HT_.out (by kernel_rfl)) (by decide) (fun K hK => ?_)
     refine goes_ Tryz.func74 (by kernel_rfl) rfl #[.string (⟨#[80, 114, 105, 111, 114, 105, 116, 121]⟩ : ByteArray), .int .i64 (wrap64 (rd ((rd_T31 l0 x19_1).f1) 2))] (by rfl) rfl rfl (by (try simp only [List.map_toArray, List.map_cons, List.map_nil]); first | done | rfl | (simp only [List.length_drop, List.length_take]; rfl)) ?_
     with_reducible refine (spec_intNode.calls (⟨#[80, 114, 105, 111, 114, 105, 116, 121]⟩ : ByteArray) (wrap64 (rd ((rd_T31 l0 x19_1).f1) 2)) t819 t820 t821 t822 t823 t824 t825 t826 _ A17.out).mono ?_
     rintro e w29 ⟨v827, rfl, ho0, hb⟩
     refine ⟨_, rfl, ?_⟩
     have n0_ := Aside0.mk (Kd.N_elder' (by (with_reducible repeat (first | apply Kd.N_alloc | apply Kd.N_drewN | apply Kd.N_drew)); exact HO_6.out) (by first | exact Kd.N_base ho0 | exact Kd.R_base ho0) hb)
     have n1_ := Aside0.mk (Kd.N_elder' (by (with_reducible repeat (first | apply Kd.N_alloc | apply Kd.N_drewN | apply Kd.N_drew)); exact HO784.out) (by first | exact Kd.N_base ho0 | exact Kd.R_base ho0) hb)
     have n2_ := Aside0.mk (Kd.N_elder' (by (with_reducible repeat (first | apply Kd.N_alloc | apply Kd.N_drewN | apply Kd.N_drew)); exact HO795.out) (by first | exact Kd.N_base ho0 | exact Kd.R_base ho0) hb)
     have n3_ := Aside0.mk (Kd.N_elder' (by (with_reducible repeat (first | apply Kd.N_alloc | apply Kd.N_drewN | apply Kd.N_drew)); exact HO806.out) (by first | exact Kd.N_base ho0 | exact Kd.R_base ho0) hb)
     have n4_ := Aside0.mk (Kd.N_elder' (by (with_reducible repeat (first | apply Kd.N_alloc | apply Kd.N_drewN | apply Kd.N_drew)); exact HO817.out) (by first | exact Kd.N_base ho0 | exact Kd.R_base ho0) hb)
     have n5_ := Aside0.mk (Kd.N_lower (Kd.N_mono (ok' := fun k_ => (w.heap.size ≤ k_) ∧ some k_ ≠ (u6 : Value).ownBlock ∧ some k_ ≠ (v783 : Value).ownBlock ∧ some k_ ≠ (v794 : Value).ownBlock ∧ some k_ ≠ (v805 : Value).ownBlock ∧ some k_ ≠ (v816 : Value).ownBlock ∧ k_ ≠ gb760 ∧ k_ ≠ gb774) (Kd.R_N (Kd.R_bound ho0)) (fun k_ hk_ => ⟨(Nat.le_trans (below_size (by repeat (first | (with_reducible first | exact HB.out | apply below_alloc | apply pw_below_drewN | apply below_drew1 | refine below_set ?_ GE760.out | refine below_set ?_ GE774.out) | exact HB.out))) hk_.2.1), (Kd.fresh' (Kd.N_lt (by (with_reducible repeat (first | apply Kd.N_alloc | apply Kd.N_drewN | apply Kd.N_drew)); exact HO_6.out)) k_ hk_.2.1), (Kd.fresh' (Kd.N_lt (by (with_reducible repeat (first | apply Kd.N_alloc | apply Kd.N_drewN | apply Kd.N_drew)); exact HO784.out)) k_ hk_.2.1), (Kd.fresh' (Kd.N_lt (by (with_reducible repeat (first | apply Kd.N_alloc | apply Kd.N_drewN | apply Kd.N_drew)); exact HO795.out)) k_ hk_.2.1), (Kd.fresh' (Kd.N_lt (by (with_reducible repeat (first | apply Kd.N_alloc | apply Kd.N_drewN | apply Kd.N_drew)); exact HO806.out)) k_ hk_.2.1), (Kd.fresh' (Kd.N_lt (by (with_reducible repeat (first | apply Kd.N_alloc | apply Kd.N_drewN | apply Kd.N_drew)); exact HO817.out)) k_ hk_.2.1), (Kd.freshB (g := gb760) (o := .cells #[.string (⟨#[]⟩ : ByteArray), .int .i64 0, .bool false, .int .i64 0, .int .u64 0, .float .f64 0, .string (⟨#[]⟩ : ByteArray), .slice none 0 0] 39 (0, 0)) (by (with_reducible repeat (first | refine blk_drewN ?_ _ | refine blk_drew ?_ | refine blk_alloc ?_ _)); exact BK760.out) k_ hk_.2.1), (Kd.freshB (g := gb774) (o := .cells #[.string ((rd_T31 l0 x19_1).f0), .slice (some ad796) ((rd_T31 l0 x19_1).f1).length c773_1, .slice (some ad785) ((rd_T31 l0 x19_1).f2).length c773_2] 31 (0, 0)) (by (with_reducible repeat (first | refine blk_drewN ?_ _ | refine blk_drew ?_ | refine blk_alloc ?_ _)); exact BK774.out) k_ hk_.2.1)⟩)) (below_size (by repeat (first | (with_reducible first | exact HB.out | apply below_alloc | apply pw_below_drewN | apply below_drew1 | refine below_set ?_ GE760.out | refine below_set ?_ GE774.out) | exact HB.out))))
     have n6_ := Aside0.mk (blk_below (g := gb760) (o := .cells #[.string (⟨#[]⟩ : ByteArray), .int .i64 0, .bool false, .int .i64 0, .int .u64 0, .float .f64 0, .string (⟨#[]⟩ : ByteArray), .slice none 0 0] 39 (0, 0)) (by (with_reducible repeat (first | refine blk_drewN ?_ _ | refine blk_drew ?_ | refine blk_alloc ?_ _)); exact BK760.out) hb)
     have n7_ := Aside0.mk (blk_below (g := gb774) (o := .cells #[.string ((rd_T31 l0 x19_1).f0), .slice (some ad796) ((rd_T31 l0 x19_1).f1).length c773_1, .slice (some ad785) ((rd_T31 l0 x19_1).f2).length c773_2] 31 (0, 0)) (by (with_reducible repeat (first | refine blk_drewN ?_ _ | refine blk_drew ?_ | refine blk_alloc ?_ _)); exact BK774.out) hb)
     have n8_ := Aside0.mk (below_step (by repeat (first | (with_reducible first | exact HB.out | apply below_alloc | apply pw_below_drewN | apply below_drew1 | refine below_set ?_ GE760.out | refine below_set ?_ GE774.out) | exact HB.out)) hb)
     clear HO_6
     clear HO784
     clear HO795
     clear HO806
     clear HO817
     clear BK760
     clear BK774
     clear HB
     have HO_6 := n0_
     have HO784 := n1_
     have HO795 := n2_
     have HO806 := n3_
     have HO817 := n4_
     have HO828 := n5_
     have BK760 := n6_
     have BK774 := n7_
     have HB := n8_
     clear n0_ n1_ n2_ n3_ n4_ n5_ n6_ n7_ n8_
     (try clear hb)
     (try clear hb2)
     (try clear hk)
     (try clear hi)
     (try clear ho0)
     obtain ⟨Ao30, co30, eo30⟩ := Kd.N_slice HO784.out
     (first | subst eo30 | (injection eo30 with f1_ f2_ f3_; have f4_ := f1_.symm; have f5_ := f3_.symm; clear f1_ f2_ f3_; subst f4_; subst f5_))
     obtain ⟨Ao31, co31, eo31⟩ := Kd.N_slice HO795.out
     (first | subst eo31 | (injection eo31 with f1_ f2_ f3_; have f4_ := f1_.symm; have f5_ := f3_.symm; clear f1_ f2_ f3_; subst f4_; subst f5_))
     obtain ⟨Ao32, co32, eo32⟩ := Kd.N_slice HO806.out
     (first | subst eo32 | (injection eo32 with f1_ f2_ f3_; have f4_ := f1_.symm; have f5_ := f3_.symm; clear f1_ f2_ f3_; subst f4_; subst f5_))
     obtain ⟨Ao33, co33, eo33⟩ := Kd.N_slice HO817.out
     (first | subst eo33 | (injection eo33 with f1_ f2_ f3_; have f4_ := f1_.symm; have f5_ := f3_.symm; clear f1_ f2_ f3_; subst f4_; subst f5_))
     obtain ⟨Ao34, co34, eo34⟩ := Kd.N_slice HO828.out
     (first | subst eo34 | (injection eo34 with f1_ f2_ f3_; have f4_ := f1_.symm; have f5_ := f3_.symm; clear f1_ f2_ f3_; subst f4_; subst f5_))
     refine hK.out _ _ ⟨(blk_cell BK774.out 0).trans rfl, (blk_cell BK774.out 1).trans rfl, (blk_cell BK774.out 2).trans rfl, ((HB.out.cell (World.block_lt_of_cell? w _ hw785_0)).trans hw785_0), ((HB.out.cell (World.block_lt_of_cell? w _ hw796_0)).trans hw796_0), ((HB.out.cell (World.block_lt_of_cell? w _ hw807_0)).trans hw807_0), ((HB.out.cell (World.block_lt_of_cell? w _ hw818_0)).trans hw818_0)⟩ (fun hHeld => ?_)
     clear hK K
     refine norm_ (a' := ?_) ?_ ?_
     rotate_left
     ·show Act.put _ (some 49) _ = _
      simp only [Act.put, List.setIfInBounds_toArray, List.set_cons_zero, List.set_cons_succ, i64_w, i32_w]
      rfl
     refine one_ (i := 27) (N := some 50) (bb [28, 4]) rfl rfl (one_of HT_.out (by kernel_rfl)) (by decide) (fun K hK => ?_)
     refine Kd.N_lit_step k39 _ 39 ?hg (N' := 50) ?hd (xs := ([(⟨t775, t776, t777, t778, t779, t780, t781, t782⟩ : S39), (⟨t786, t787, t788, t789, t790, t791, t792, t793⟩ : S39), (⟨t797, t798, t799, t800, t801, t802, t803, t804⟩ : S39), (⟨t808, t809, t810, t811, t812, t813, t814, t815⟩ : S39), (⟨t819, t820, t821, t822, t823, t824, t825, t826⟩ : S39)] : List (S39))) (inner := [.string t775, .int .i64 t776, .bool t777, .int .i64 t778, .int .u64 t779, .float .f64 t780, .string t781, .slice Ao30 t782.length co30, .string t786, .int .i64 t787, .bool t788, .int .i64 t789, .int .u64 t790, .float .f64 t791, .string t792, .slice Ao31 t793.length co31, .string t797, .int .i64 t798, .bool t799, .int .i64 t800, .int .u64 t801, .float .f64 t802, .string t803, .slice Ao32 t804.length co32, .string t808, .int .i64 t809, .bool t810, .int .i64 t811, .int .u64 t812, .float .f64 t813, .string t814, .slice Ao33 t815.length co33, .string t819, .int .i64 t820, .bool t821, .int .i64 t822, .int .u64 t823, .float .f64 t824, .string t825, .slice Ao34 t826.length co34]) (ok := (fun k_ => (w.heap.size ≤ k_) ∧ some k_ ≠ (u6 : Value).ownBlock ∧ k_ ≠ gb760 ∧ k_ ≠ gb774)) (okp := (fun k_ => (w.heap.size ≤ k_) ∧ some k_ ≠ (u6 : Value).ownBlock ∧ k_ ≠ gb760 ∧ k_ ≠ gb774)) ?hr ?hp (fun _ hk => hk) ((show ∀ k_, w29.heap.size ≤ k_ → (fun k_ => (w.heap.size ≤ k_) ∧ some k_ ≠ (u6 : Value).ownBlock ∧ k_ ≠ gb760 ∧ k_ ≠ gb774) k_ from fun k_ hk => ⟨(Nat.le_trans (below_size (by repeat (first | (with_reducible first | exact HB.out | apply below_alloc | apply pw_below_drewN | apply below_drew1 | refine below_set ?_ GE760.out | refine below_set ?_ GE774.out) | exact HB.out))) hk), Kd.fresh' (Kd.N_lt (by (with_reducible repeat (first | apply Kd.N_alloc | apply Kd.N_drewN | apply Kd.N_drew)); exact HO_6.out)) k_ hk, Kd.freshB (g := gb760) (o := .cells #[.string (⟨#[]⟩ : ByteArray), .int .i64 0, .bool false, .int .i64 0, .int .u64 0, .float .f64 0, .string (⟨#[]⟩ : ByteArray), .slice none 0 0] 39 (0, 0)) (by (with_reducible repeat (first | refine blk_drewN ?_ _ | refine blk_drew ?_ | refine blk_alloc ?_ _)); exact BK760.out) k_ hk, Kd.freshB (g := gb774) (o := .cells #[.string ((rd_T31 l0 x19_1).f0), .slice (some ad796) ((rd_T31 l0 x19_1).f1).length c773_1, .slice (some ad785) ((rd_T31 l0 x19_1).f2).length c773_2] 31 (0, 0)) (by (with_reducible repeat (first | refine blk_drewN ?_ _ | refine blk_drew ?_ | refine blk_alloc ?_ _)); exact BK774.out) k_ hk⟩) _ (Nat.le_refl _)) (Below.refl _ _) (Nat.le_refl _) (by simp) ?_; (case hd => rfl); (case hg => rfl); (case hr => first | (go_simp; done) | (go_simp; rfl)); (case hp => exact (Reps.c8 (show Kd.FK k39 _ _ (⟨t775, t776, t777, t778, t779, t780, t781, t782⟩ : S39) [.string t775, .int .i64 t776, .bool t777, .int .i64 t778, .int .u64 t779, .float .f64 t780, .string t781, .slice Ao30 t782.length co30] from (k39_mkF _ _ (⟨t775, t776, t777, t778, t779, t780, t781, t782⟩ : S39) (Kd.N_reads' (Kd.N_mono (ok' := (fun k_ => (w.heap.size ≤ k_) ∧ some k_ ≠ (u6 : Value).ownBlock ∧ k_ ≠ gb760 ∧ k_ ≠ gb774)) (HO784.out) (fun k_ hk => ⟨hk.1.1.1.1.1, ⟨hk.1.1.1.1.2.1, ⟨hk.1.1.1.1.2.2.1, hk.1.1.1.1.2.2.2⟩⟩⟩))).2.1 (Kd.N_F (Kd.N_mono (ok' := (fun k_ => (w.heap.size ≤ k_) ∧ some k_ ≠ (u6 : Value).ownBlock ∧ k_ ≠ gb760 ∧ k_ ≠ gb774)) (HO784.out) (fun k_ hk => ⟨hk.1.1.1.1.1, ⟨hk.1.1.1.1.2.1, ⟨hk.1.1.1.1.2.2.1, hk.1.1.1.1.2.2.2⟩⟩⟩))))) (Reps.c8 (show Kd.FK k39 _ _ (⟨t786, t787, t788, t789, t790, t791, t792, t793⟩ : S39) [.string t786, .int .i64 t787, .bool t788, .int .i64 t789, .int .u64 t790, .float .f64 t791, .string t792, .slice Ao31 t793.length co31] from (k39_mkF _ _ (⟨t786, t787, t788, t789, t790, t791, t792, t793⟩ : S39) (Kd.N_reads' (Kd.N_mono (ok' := (fun k_ => (w.heap.size ≤ k_) ∧ some k_ ≠ (u6 : Value).ownBlock ∧ k_ ≠ gb760 ∧ k_ ≠ gb774)) (HO795.out) (fun k_ hk => ⟨hk.1.1.1.1, ⟨hk.1.1.1.2.1, ⟨hk.1.1.1.2.2.2.1, hk.1.1.1.2.2.2.2⟩⟩⟩))).2.1 (Kd.N_F (Kd.N_mono (ok' := (fun k_ => (w.heap.size ≤ k_) ∧ some k_ ≠ (u6 : Value).ownBlock ∧ k_ ≠ gb760 ∧ k_ ≠ gb774)) (HO795.out) (fun k_ hk => ⟨hk.1.1.1.1, ⟨hk.1.1.1.2.1, ⟨hk.1.1.1.2.2.2.1, hk.1.1.1.2.2.2.2⟩⟩⟩))))) (Reps.c8 (show Kd.FK k39 _ _ (⟨t797, t798, t799, t800, t801, t802, t803, t804⟩ : S39) [.string t797, .int .i64 t798, .bool t799, .int .i64 t800, .int .u64 t801, .float .f64 t802, .string t803, .slice Ao32 t804.length co32] from (k39_mkF _ _ (⟨t797, t798, t799, t800, t801, t802, t803, t804⟩ : S39) (Kd.N_reads' (Kd.N_mono (ok' := (fun k_ => (w.heap.size ≤ k_) ∧ some k_ ≠ (u6 : Value).ownBlock ∧ k_ ≠ gb760 ∧ k_ ≠ gb774)) (HO806.out) (fun k_ hk => ⟨hk.1.1.1, ⟨hk.1.1.2.1, ⟨hk.1.1.2.2.2.2.1, hk.1.1.2.2.2.2.2⟩⟩⟩))).2.1 (Kd.N_F (Kd.N_mono (ok' := (fun k_ => (w.heap.size ≤ k_) ∧ some k_ ≠ (u6 : Value).ownBlock ∧ k_ ≠ gb760 ∧ k_ ≠ gb774)) (HO806.out) (fun k_ hk => ⟨hk.1.1.1, ⟨hk.1.1.2.1, ⟨hk.1.1.2.2.2.2.1, hk.1.1.2.2.2.2.2⟩⟩⟩))))) (Reps.c8 (show Kd.FK k39 _ _ (⟨t808, t809, t810, t811, t812, t813, t814, t815⟩ : S39) [.string t808, .int .i64 t809, .bool t810, .int .i64 t811, .int .u64 t812, .float .f64 t813, .string t814, .slice Ao33 t815.length co33] from (k39_mkF _ _ (⟨t808, t809, t810, t811, t812, t813, t814, t815⟩ : S39) (Kd.N_reads' (Kd.N_mono (ok' := (fun k_ => (w.heap.size ≤ k_) ∧ some k_ ≠ (u6 : Value).ownBlock ∧ k_ ≠ gb760 ∧ k_ ≠ gb774)) (HO817.out) (fun k_ hk => ⟨hk.1.1, ⟨hk.1.2.1, ⟨hk.1.2.2.2.2.2.1, hk.1.2.2.2.2.2.2⟩⟩⟩))).2.1 (Kd.N_F (Kd.N_mono (ok' := (fun k_ => (w.heap.size ≤ k_) ∧ some k_ ≠ (u6 : Value).ownBlock ∧ k_ ≠ gb760 ∧ k_ ≠ gb774)) (HO817.out) (fun k_ hk => ⟨hk.1.1, ⟨hk.1.2.1, ⟨hk.1.2.2.2.2.2.1, hk.1.2.2.2.2.2.2⟩⟩⟩))))) (Reps.c8 (show Kd.FK k39 _ _ (⟨t819, t820, t821, t822, t823, t824, t825, t826⟩ : S39) [.string t819, .int .i64 t820, .bool t821, .int .i64 t822, .int .u64 t823, .float .f64 t824, .string t825, .slice Ao34 t826.length co34] from (k39_mkF _ _ (⟨t819, t820, t821, t822, t823, t824, t825, t826⟩ : S39) (Kd.N_reads' (Kd.N_mono (ok' := (fun k_ => (w.heap.size ≤ k_) ∧ some k_ ≠ (u6 : Value).ownBlock ∧ k_ ≠ gb760 ∧ k_ ≠ gb774)) (HO828.out) (fun k_ hk => ⟨hk.1, ⟨hk.2.1, ⟨hk.2.2.2.2.2.2.1, hk.2.2.2.2.2.2.2⟩⟩⟩))).2.1 (Kd.N_F (Kd.N_mono (ok' := (fun k_ => (w.heap.size ≤ k_) ∧ some k_ ≠ (u6 : Value).ownBlock ∧ k_ ≠ gb760 ∧ k_ ≠ gb774)) (HO828.out) (fun k_ hk => ⟨hk.1, ⟨hk.2.1, ⟨hk.2.2.2.2.2.2.1, hk.2.2.2.2.2.2.2⟩⟩⟩))))) (Reps.none _ _)))))))
     intro v830 w35 ho36 hb hg_ hnew_
     clear hg_ hnew_
     (first | rw [← Ny829.out] at ho36 | (simp only [Int.reduceToNat] at ho36; rw [← Ny829.out] at ho36))
     have n0_ := Aside0.mk (Kd.N_elder' (by (with_reducible repeat (first | apply Kd.N_alloc | apply Kd.N_drewN | apply Kd.N_drew)); exact HO_6.out) (by first | exact Kd.N_base ho36 | exact Kd.R_base ho36) hb)
     have n1_ := Aside0.mk (Kd.N_lower ho36 (below_size (by repeat (first | (with_reducible first | exact HB.out | apply below_alloc | apply pw_below_drewN | apply below_drew1 | refine below_set ?_ GE760.out | refine below_set ?_ GE774.out) | exact HB.out))))
     have n2_ := Aside0.mk (blk_below (g := gb760) (o := .cells #[.string (⟨#[]⟩ : ByteArray), .int .i64 0, .bool false, .int .i64 0, .int .u64 0, .float .f64 0, .string (⟨#[]⟩ : ByteArray), .slice none 0 0] 39 (0, 0)) (by (with_reducible repeat (first | refine blk_drewN ?_ _ | refine blk_drew ?_ | refine blk_alloc ?_ _)); exact BK760.out) hb)
     have n3_ := Aside0.mk (blk_below (g := gb774) (o := .cells #[.string ((rd_T31 l0 x19_1).f0), .slice (some ad796) ((rd_T31 l0 x19_1).f1).length c773_1, .slice (some ad785) ((rd_T31 l0 x19_1).f2).length c773_2] 31 (0, 0)) (by (with_reducible repeat (first | refine blk_drewN ?_ _ | refine blk_drew ?_ | refine blk_alloc ?_ _)); exact BK774.out) hb)
     have n4_ := Aside0.mk (below_step (by repeat (first | (with_reducible first | exact HB.out | apply below_alloc | apply pw_below_drewN | apply below_drew1 | refine below_set ?_ GE760.out | refine below_set ?_ GE774.out) | exact HB.out)) hb)
     clear HO_6
     clear BK760
     clear BK774
     clear HB
     clear HO784
     clear HO795
     clear HO806
     clear HO817
     clear HO828
     have HO_6 := n0_
     have HO831 := n1_
     have BK760 := n2_
     have BK774 := n3_
     have HB := n4_
     clear n0_ n1_ n2_ n3_ n4_
     clear hb ho36
     obtain ⟨Ao37, co37, eo37⟩ := Kd.N_slice HO831.out
     (first | subst eo37 | (injection eo37 with f1_ f2_ f3_; have f4_ := f1_.symm; have f5_ := f3_.symm; clear f1_ f2_ f3_; subst f4_; subst f5_))
     refine hK.out _ _ ⟨(blk_cell BK774.out 0).trans rfl, (blk_cell BK774.out 1).trans rfl, (blk_cell BK774.out 2).trans rfl, ((HB.out.cell (World.block_lt_of_cell? w _ hw785_0)).trans hw785_0), ((HB.out.cell (World.block_lt_of_cell? w _ hw796_0)).trans hw796_0), ((HB.out.cell (World.block_lt_of_cell? w _ hw807_0)).trans hw807_0), ((HB.out.cell (World.block_lt_of_cell? w _ hw818_0)).trans hw818_0)⟩ (fun hHeld => ?_)
     clear hK K
     refine norm_ (a' := ?_) ?_ ?_
     rotate_left
     ·show Act.put _ (some 50) _ = _
      simp only [Act.put, List.setIfInBounds_toArray, List.set_cons_zero, List.set_cons_succ, i64_w, i32_w]
      rfl
     refine one_ (i := 28) (N := some 51) (bb [29, 3]) rfl rfl (one_of HT_.out (by kernel_rfl)) (by decide) (fun K hK => ?_)
     refine goes_ Tryz.func53 (by kernel_rfl) rfl #[.string (⟨#[]⟩ : ByteArray), .slice Ao37 y829.length co37] (by rfl) rfl rfl (by (try simp only [List.map_toArray, List.map_cons, List.map_nil]); first | done | rfl | (simp only [List.length_drop, List.length_take]; rfl)) ?_
     with_reducible refine (spec_recordNode.calls (⟨#[]⟩ : ByteArray) (fun k_ => ((w.heap.size ≤ k_) ∧ (some k_ ≠ (u6 : Value).ownBlock ∧ (k_ ≠ gb760 ∧ k_ ≠ gb774)))) _ _ y829 t832 t833 t834 t835 t836 t837 t838 t839 _ ?side1 A18.out).mono ?_
     (case side1 => exact Kd.N_V (HO831.out))
     rintro e w38 ⟨v840, rfl, ho0, hb⟩
     refine ⟨_, rfl, ?_⟩
     have n0_ := Aside0.mk (Kd.N_below (by (with_reducible repeat (first | apply Kd.N_alloc | apply Kd.N_drewN | apply Kd.N_drew)); exact HO_6.out) hb)
     have n1_ := Aside0.mk (Kd.N_below (by (with_reducible repeat (first | apply Kd.N_alloc | apply Kd.N_drewN | apply Kd.N_drew)); exact HO831.out) hb)
     have n2_ := Aside0.mk (Kd.V_lower (Kd.V_mono (ok' := fun k_ => (w.heap.size ≤ k_) ∧ some k_ ≠ (u6 : Value).ownBlock ∧ k_ ≠ gb760 ∧ k_ ≠ gb774) ho0 (fun k_ hk_ => ⟨Or.elim hk_ (fun hs_ => hs_.1) (fun hn_ => (Nat.le_trans (below_size (by repeat (first | (with_reducible first | exact HB.out | apply below_alloc | apply pw_below_drewN | apply below_drew1 | refine below_set ?_ GE760.out | refine below_set ?_ GE774.out) | exact HB.out))) hn_)), Or.elim hk_ (fun hs_ => hs_.2.1) (fun hn_ => (Kd.fresh' (Kd.N_lt (by (with_reducible repeat (first | apply Kd.N_alloc | apply Kd.N_drewN | apply Kd.N_drew)); exact HO_6.out)) k_ hn_)), Or.elim hk_ (fun hs_ => hs_.2.2.1) (fun hn_ => (Kd.freshB (g := gb760) (o := .cells #[.string (⟨#[]⟩ : ByteArray), .int .i64 0, .bool false, .int .i64 0, .int .u64 0, .float .f64 0, .string (⟨#[]⟩ : ByteArray), .slice none 0 0] 39 (0, 0)) (by (with_reducible repeat (first | refine blk_drewN ?_ _ | refine blk_drew ?_ | refine blk_alloc ?_ _)); exact BK760.out) k_ hn_)), Or.elim hk_ (fun hs_ => hs_.2.2.2) (fun hn_ => (Kd.freshB (g := gb774) (o := .cells #[.string ((rd_T31 l0 x19_1).f0), .slice (some ad796) ((rd_T31 l0 x19_1).f1).length c773_1, .slice (some ad785) ((rd_T31 l0 x19_1).f2).length c773_2] 31 (0, 0)) (by (with_reducible repeat (first | refine blk_drewN ?_ _ | refine blk_drew ?_ | refine blk_alloc ?_ _)); exact BK774.out) k_ hn_))⟩)) (below_size (by repeat (first | (with_reducible first | exact HB.out | apply below_alloc | apply pw_below_drewN | apply below_drew1 | refine below_set ?_ GE760.out | refine below_set ?_ GE774.out) | exact HB.out))))
     have n3_ := Aside0.mk (blk_below (g := gb760) (o := .cells #[.string (⟨#[]⟩ : ByteArray), .int .i64 0, .bool false, .int .i64 0, .int .u64 0, .float .f64 0, .string (⟨#[]⟩ : ByteArray), .slice none 0 0] 39 (0, 0)) (by (with_reducible repeat (first | refine blk_drewN ?_ _ | refine blk_drew ?_ | refine blk_alloc ?_ _)); exact BK760.out) hb)
     have n4_ := Aside0.mk (blk_below (g := gb774) (o := .cells #[.string ((rd_T31 l0 x19_1).f0), .slice (some ad796) ((rd_T31 l0 x19_1).f1).length c773_1, .slice (some ad785) ((rd_T31 l0 x19_1).f2).length c773_2] 31 (0, 0)) (by (with_reducible repeat (first | refine blk_drewN ?_ _ | refine blk_drew ?_ | refine blk_alloc ?_ _)); exact BK774.out) hb)
     have n5_ := Aside0.mk (below_step (by repeat (first | (with_reducible first | exact HB.out | apply below_alloc | apply pw_below_drewN | apply below_drew1 | refine below_set ?_ GE760.out | refine below_set ?_ GE774.out) | exact HB.out)) hb)
     clear HO_6
     clear HO831
     clear BK760
     clear BK774
     clear HB
     have HO_6 := n0_
     have HO831 := n1_
     have HO841 := n2_
     have BK760 := n3_
     have BK774 := n4_
     have HB := n5_
     clear n0_ n1_ n2_ n3_ n4_ n5_
     (try clear hb)
     (try clear hb2)
     (try clear hk)
     (try clear hi)
     (try clear ho0)
     obtain ⟨Ao40, co40, eo40⟩ := Kd.V_slice HO841.out
     (first | subst eo40 | (injection eo40 with f1_ f2_ f3_; have f4_ := f1_.symm; have f5_ := f3_.symm; clear f1_ f2_ f3_; subst f4_; subst f5_))
     refine hK.out _ _ ⟨(blk_cell BK774.out 0).trans rfl, (blk_cell BK774.out 1).trans rfl, (blk_cell BK774.out 2).trans rfl, ((HB.out.cell (World.block_lt_of_cell? w _ hw785_0)).trans hw785_0), ((HB.out.cell (World.block_lt_of_cell? w _ hw796_0)).trans hw796_0), ((HB.out.cell (World.block_lt_of_cell? w _ hw807_0)).trans hw807_0), ((HB.out.cell (World.block_lt_of_cell? w _ hw818_0)).trans hw818_0)⟩ (fun hHeld => ?_)
     clear hK K
     refine norm_ (a' := ?_) ?_ ?_
     rotate_left
     ·show Act.put _ (some 51) _ = _
      simp only [Act.put, List.setIfInBounds_toArray, List.set_cons_zero, List.set_cons_succ, i64_w, i32_w]
      rfl
     refine one_ (i := 29) (N := some 52) (bb [30, 2]) rfl rfl (one_of HT_.out (by kernel_rfl)) (by decide) (fun K hK => ?_)
     refine value_ (w1 := ?_) (v := ?_) (by rfl) rfl ?_ ?_
     rotate_left 2
     ·go_simp
      constructor
      ·rfl
      ·rfl
     refine hK.out _ _ ⟨(blk_cell (blk_alloc BK774.out _) 0).trans rfl, (blk_cell (blk_alloc BK774.out _) 1).trans rfl, (blk_cell (blk_alloc BK774.out _) 2).trans rfl, (World.cell?_alloc_lt _ _ _ (World.block_lt_of_cell? _ _ (((HB.out.cell (World.block_lt_of_cell? w _ hw785_0)).trans hw785_0)))).trans (((HB.out.cell (World.block_lt_of_cell? w _ hw785_0)).trans hw785_0)), (World.cell?_alloc_lt _ _ _ (World.block_lt_of_cell? _ _ (((HB.out.cell (World.block_lt_of_cell? w _ hw796_0)).trans hw796_0)))).trans (((HB.out.cell (World.block_lt_of_cell? w _ hw796_0)).trans hw796_0)), (World.cell?_alloc_lt _ _ _ (World.block_lt_of_cell? _ _ (((HB.out.cell (World.block_lt_of_cell? w _ hw807_0)).trans hw807_0)))).trans (((HB.out.cell (World.block_lt_of_cell? w _ hw807_0)).trans hw807_0)), (World.cell?_alloc_lt _ _ _ (World.block_lt_of_cell? _ _ (((HB.out.cell (World.block_lt_of_cell? w _ hw818_0)).trans hw818_0)))).trans (((HB.out.cell (World.block_lt_of_cell? w _ hw818_0)).trans hw818_0))⟩ (fun hHeld => ?_)
     clear hK K
     refine norm_ (a' := ?_) ?_ ?_
     rotate_left
     ·show Act.put _ (some 52) _ = _
      simp only [Act.put, List.setIfInBounds_toArray, List.set_cons_zero, List.set_cons_succ, i64_w, i32_w]
      rfl
     refine one_ (i := 30) (N := some 53) (bb [31, 1]) rfl rfl (one_of HT_.out (by kernel_rfl)) (by decide) (fun K hK => ?_)
     refine Kd.N_append_step k39 (w0 := w) w.heap.size (by rfl) (.tmp 23) (.tmp 52) 37 39 (.agg #[(.string ⟨#[]⟩), (.int .i64 0), (.bool false), (.int .i64 0), (.int .u64 0), (.float .f64 0), (.string ⟨#[]⟩), (.slice none 0 0)]) 96 rfl Tryz.underlying37 info39 rfl (by decide) (by omega) u6 x6_1 (⟨t832, t833, t834, t835, t836, t837, t838, t839⟩ : S39) [.string t832, .int .i64 t833, .bool t834, .int .i64 t835, .int .u64 t836, .float .f64 t837, .string t838, .slice Ao40 t839.length co40] (fun k_ => (w.heap.size ≤ k_) ∧ k_ ≠ gb760 ∧ k_ ≠ gb774) (fun k_ => ((fun k_ => (w.heap.size ≤ k_) ∧ k_ ≠ gb760 ∧ k_ ≠ gb774)) k_ ∧ some k_ ≠ (u6 : Value).ownBlock) rfl rfl ?aP (fun _ hk => hk) ?aF ?aO ?aB ?aS ?aL ?_
     (case aP => exact (k39_mkF _ _ (⟨t832, t833, t834, t835, t836, t837, t838, t839⟩ : S39) (Kd.V_reads' (Kd.V_mono (ok' := (fun k_ => ((fun k_ => (w.heap.size ≤ k_) ∧ k_ ≠ gb760 ∧ k_ ≠ gb774)) k_ ∧ some k_ ≠ (u6 : Value).ownBlock)) (HO841.out) (fun k_ hk => ⟨⟨hk.1, ⟨hk.2.2.1, hk.2.2.2⟩⟩, hk.2.1⟩))).2.1 (Kd.V_F (Kd.V_mono (ok' := (fun k_ => ((fun k_ => (w.heap.size ≤ k_) ∧ k_ ≠ gb760 ∧ k_ ≠ gb774)) k_ ∧ some k_ ≠ (u6 : Value).ownBlock)) (HO841.out) (fun k_ hk => ⟨⟨hk.1, ⟨hk.2.2.1, hk.2.2.2⟩⟩, hk.2.1⟩)))))
     (case aB => exact (by repeat (first | (with_reducible first | exact HB.out | apply below_alloc | apply pw_below_drewN | apply below_drew1 | refine below_set ?_ GE760.out | refine below_set ?_ GE774.out) | exact HB.out)))
     (case aF => exact (fun k_ hk => ⟨(Nat.le_trans (below_size (by repeat (first | (with_reducible first | exact HB.out | apply below_alloc | apply pw_below_drewN | apply below_drew1 | refine below_set ?_ GE760.out | refine below_set ?_ GE774.out) | exact HB.out))) hk), Kd.freshB (g := gb760) (o := .cells #[.string (⟨#[]⟩ : ByteArray), .int .i64 0, .bool false, .int .i64 0, .int .u64 0, .float .f64 0, .string (⟨#[]⟩ : ByteArray), .slice none 0 0] 39 (0, 0)) (by (with_reducible repeat (first | refine blk_drewN ?_ _ | refine blk_drew ?_ | refine blk_alloc ?_ _)); exact BK760.out) k_ hk, Kd.freshB (g := gb774) (o := .cells #[.string ((rd_T31 l0 x19_1).f0), .slice (some ad796) ((rd_T31 l0 x19_1).f1).length c773_1, .slice (some ad785) ((rd_T31 l0 x19_1).f2).length c773_2] 31 (0, 0)) (by (with_reducible repeat (first | refine blk_drewN ?_ _ | refine blk_drew ?_ | refine blk_alloc ?_ _)); exact BK774.out) k_ hk⟩))
     (case aO => exact (by (with_reducible repeat (first | apply Kd.N_alloc | apply Kd.N_drewN | apply Kd.N_drew)); exact Kd.N_mono HO_6.out (fun _ hk => ⟨hk.1.1.1.1.1.1.1, ⟨hk.1.1.1.1.1.1.2.1, hk.1.1.1.1.1.1.2.2⟩⟩)))
     (case aS => exact (below_size (by repeat (first | (with_reducible first | exact HB.out | apply below_alloc | apply pw_below_drewN | apply below_drew1 | refine below_set ?_ GE760.out | refine below_set ?_ GE774.out) | exact HB.out))))
     (case aL => have := LMc19.out; omega)
     intro v843 w39 ho hb hg hat
     rw [← Ny842.out] at ho
     have n0_ := Aside0.mk (blk_grown (g := gb760) (o := .cells #[.string (⟨#[]⟩ : ByteArray), .int .i64 0, .bool false, .int .i64 0, .int .u64 0, .float .f64 0, .string (⟨#[]⟩ : ByteArray), .slice none 0 0] 39 (0, 0)) (by (with_reducible repeat (first | refine blk_drewN ?_ _ | refine blk_drew ?_ | refine blk_alloc ?_ _)); exact BK760.out) hg (Kd.N_away HO_6.out (fun _ hk => hk.1.1.1.1.1.1.2.1)))
     have n1_ := Aside0.mk (blk_grown (g := gb774) (o := .cells #[.string ((rd_T31 l0 x19_1).f0), .slice (some ad796) ((rd_T31 l0 x19_1).f1).length c773_1, .slice (some ad785) ((rd_T31 l0 x19_1).f2).length c773_2] 31 (0, 0)) (by (with_reducible repeat (first | refine blk_drewN ?_ _ | refine blk_drew ?_ | refine blk_alloc ?_ _)); exact BK774.out) hg (Kd.N_ne HO_6.out BK774.out (by decide)))
     have n2_ := Aside0.mk (Kd.N_afterv (ok := (fun k_ => (w.heap.size ≤ k_) ∧ k_ ≠ gb760 ∧ k_ ≠ gb774)) (by (with_reducible repeat (first | apply Kd.N_alloc | apply Kd.N_drewN | apply Kd.N_drew)); exact Kd.N_mono HO831.out (fun _ hk => ⟨⟨hk.1, ⟨hk.2.2.1, hk.2.2.2⟩⟩, hk.2.1⟩)) hg hat)
     have n3_ := Aside0.mk (Kd.V_afterv (ok := (fun k_ => (w.heap.size ≤ k_) ∧ k_ ≠ gb760 ∧ k_ ≠ gb774)) (by (with_reducible repeat (first | apply Kd.V_alloc | apply Kd.V_drewN | apply Kd.V_drew)); exact Kd.V_mono HO841.out (fun _ hk => ⟨⟨hk.1, ⟨hk.2.2.1, hk.2.2.2⟩⟩, hk.2.1⟩)) hg hat)
     have n4_ := Aside0.mk (hb)
     have n5_ := Aside0.mk (ho)
     clear BK760
     clear BK774
     clear HO831
     clear HO841
     clear HB
     clear HO_6
     have BK760 := n0_
     have BK774 := n1_
     have HO831 := n2_
     have HO841 := n3_
     have HB := n4_
     have HO844 := n5_
     clear n0_ n1_ n2_ n3_ n4_ n5_
     clear ho hb hg hat
     refine hK.out _ _ ⟨(blk_cell BK774.out 0).trans rfl, (blk_cell BK774.out 1).trans rfl, (blk_cell BK774.out 2).trans rfl, ((HB.out.cell (World.block_lt_of_cell? w _ hw785_0)).trans hw785_0), ((HB.out.cell (World.block_lt_of_cell? w _ hw796_0)).trans hw796_0), ((HB.out.cell (World.block_lt_of_cell? w _ hw807_0)).trans hw807_0), ((HB.out.cell (World.block_lt_of_cell? w _ hw818_0)).trans hw818_0)⟩ (fun hHeld => ?_)
     clear hK K
     refine norm_ (a' := ?_) ?_ ?_
     rotate_left
     ·show Act.put _ (some 53) _ = _
      simp only [Act.put, List.setIfInBounds_toArray, List.set_cons_zero, List.set_cons_succ, i64_w, i32_w]
      rfl
     refine pure_ (i := 31) (N := some 6) (v := ?_) (a' := ?_) (bb [32]) rfl rfl (any_of HT_.out (by kernel_rfl)) (fun _ _ _ h => h) (Or.inl ⟨by rfl, ?_⟩) ?_ ?_
     rotate_left
     ·intro w'
      go_simp
      with_reducible rfl
     rotate_left
     ·simp only [Act.put, List.setIfInBounds_toArray, List.set_cons_zero, List.set_cons_succ, i64_w, i32_w]
      rfl
     refine done_ (done_of HT_.out (by kernel_rfl)) ?_
     try go_wp2
     go_roundg k1
     case measure => have := HK1.out; omega
     case rel => exact ⟨(y842), (wrap64 (x19_1 + 1)), (by first | rfl | (simp; done) | (simp [*]; done)), H', ⟨by have := HK1.out; omega⟩, ⟨by (with_reducible repeat (first | apply Kd.N_alloc | apply Kd.N_drewN | apply Kd.N_drew)); exact Kd.N_mono HO844.out (fun _ hk => ⟨hk.1, hk.2.1⟩)⟩, ⟨by (with_reducible repeat (first | refine blk_drewN ?_ _ | refine blk_drew ?_ | refine blk_alloc ?_ _)); exact BK760.out⟩, ⟨by repeat (first | (with_reducible first | exact HB.out | apply below_alloc | apply pw_below_drewN | apply below_drew1 | refine below_set ?_ GE760.out | refine below_set ?_ GE774.out) | exact HB.out)⟩⟩
    ·rw [if_neg c6] at H
     have c6b0 : decide (x19_1 < (l0.length : Int)) = false := decide_eq_false c6
     clear c6
     replace H := Option.bind_eq_some_iff.mp H
     obtain ⟨⟨t763, t764, t765, t766, t767, t768, t769, t770⟩, A410, H⟩ := H
     replace H : (some (t763, t764, t765, t766, t767, t768, t769, t770, 1)) = some (r1, r2, r3, r4, r5, r6, r7, r8, r9) := H
     have A41 := Aside0.mk A410
     clear A410
     simp only [Option.some.injEq, Prod.mk.injEq] at H
     obtain ⟨rfl, rfl, rfl, rfl, rfl, rfl, rfl, rfl, rfl⟩ := H
     obtain ⟨Ao42, co42, eo42⟩ := Kd.N_slice HO_6.out
     subst eo42
     go_wp2_with (first | ((with_reducible refine gate_callee (f := 66) rfl ?_); refine goesL_ (some 56) rfl rfl Tryz.func66 (by kernel_rfl) rfl #[.string (⟨#[]⟩ : ByteArray), .slice Ao42 x6_1.length co42] rfl (by (try simp only [List.map_toArray, List.map_cons, List.map_nil]); first | done | rfl | (simp only [List.length_drop, List.length_take]; rfl)) ?_; (with_reducible refine (spec_listNode.calls (⟨#[]⟩ : ByteArray) (fun k_ => ((w.heap.size ≤ k_) ∧ k_ ≠ gb760)) _ _ x6_1 t763 t764 t765 t766 t767 t768 t769 t770 _ ?side1 A41.out).mono ?_); (case side1 => exact Kd.N_V (HO_6.out)); rintro e w43 ⟨v771, rfl, ho0, hb⟩; refine ⟨_, rfl, ?_⟩; have n0_ := Aside0.mk (Kd.N_below (by (with_reducible repeat (first | apply Kd.N_alloc | apply Kd.N_drewN | apply Kd.N_drew)); exact HO_6.out) hb); have n1_ := Aside0.mk (Kd.V_lower (Kd.V_mono (ok' := fun k_ => (w.heap.size ≤ k_) ∧ k_ ≠ gb760) ho0 (fun k_ hk_ => ⟨Or.elim hk_ (fun hs_ => hs_.1) (fun hn_ => (Nat.le_trans (below_size (by repeat (first | (with_reducible first | exact HB.out | apply below_alloc | apply pw_below_drewN | apply below_drew1 | refine below_set ?_ GE760.out) | exact HB.out))) hn_)), Or.elim hk_ (fun hs_ => hs_.2) (fun hn_ => (Kd.freshB (g := gb760) (o := .cells #[.string (⟨#[]⟩ : ByteArray), .int .i64 0, .bool false, .int .i64 0, .int .u64 0, .float .f64 0, .string (⟨#[]⟩ : ByteArray), .slice none 0 0] 39 (0, 0)) (by (with_reducible repeat (first | refine blk_drewN ?_ _ | refine blk_drew ?_ | refine blk_alloc ?_ _)); exact BK760.out) k_ hn_))⟩)) (below_size (by repeat (first | (with_reducible first | exact HB.out | apply below_alloc | apply pw_below_drewN | apply below_drew1 | refine below_set ?_ GE760.out) | exact HB.out)))); have n2_ := Aside0.mk (blk_below (g := gb760) (o := .cells #[.string (⟨#[]⟩ : ByteArray), .int .i64 0, .bool false, .int .i64 0, .int .u64 0, .float .f64 0, .string (⟨#[]⟩ : ByteArray), .slice none 0 0] 39 (0, 0)) (by (with_reducible repeat (first | refine blk_drewN ?_ _ | refine blk_drew ?_ | refine blk_alloc ?_ _)); exact BK760.out) hb); have n3_ := Aside0.mk (below_step (by repeat (first | (with_reducible first | exact HB.out | apply below_alloc | apply pw_below_drewN | apply below_drew1 | refine below_set ?_ GE760.out) | exact HB.out)) hb); clear HO_6; clear BK760; clear HB; have HO_6 := n0_; have HO772 := n1_; have BK760 := n2_; have HB := n3_; clear n0_ n1_ n2_ n3_; (try clear hb); (try clear hb2); (try clear hk); (try clear hi); (try clear ho0); have hcz44_0 : w43.cell? ⟨gb760, 0, none⟩ = some (.string (⟨#[]⟩ : ByteArray)) := (blk_cell BK760.out 0).trans rfl; have hcz44_1 : w43.cell? ⟨gb760, 1, none⟩ = some (.int .i64 0) := (blk_cell BK760.out 1).trans rfl; have hcz44_2 : w43.cell? ⟨gb760, 2, none⟩ = some (.bool false) := (blk_cell BK760.out 2).trans rfl; have hcz44_3 : w43.cell? ⟨gb760, 3, none⟩ = some (.int .i64 0) := (blk_cell BK760.out 3).trans rfl; have hcz44_4 : w43.cell? ⟨gb760, 4, none⟩ = some (.int .u64 0) := (blk_cell BK760.out 4).trans rfl; have hcz44_5 : w43.cell? ⟨gb760, 5, none⟩ = some (.float .f64 0) := (blk_cell BK760.out 5).trans rfl; have hcz44_6 : w43.cell? ⟨gb760, 6, none⟩ = some (.string (⟨#[]⟩ : ByteArray)) := (blk_cell BK760.out 6).trans rfl; have hcz44_7 : w43.cell? ⟨gb760, 7, none⟩ = some (.slice none 0 0) := (blk_cell BK760.out 7).trans rfl; have hfz44_0 := blk_frozen BK760.out 0; have hfz44_1 := blk_frozen BK760.out 1; have hfz44_2 := blk_frozen BK760.out 2; have hfz44_3 := blk_frozen BK760.out 3; have hfz44_4 := blk_frozen BK760.out 4; have hfz44_5 := blk_frozen BK760.out 5; have hfz44_6 := blk_frozen BK760.out 6; have hfz44_7 := blk_frozen BK760.out 7; obtain ⟨Ao45, co45, eo45⟩ := Kd.V_slice HO772.out; subst eo45))
     refine bodyPost_ret (results_ct rfl _ _ gb760 39 #[.string t763, .int .i64 t764, .bool t765, .int .i64 t766, .int .u64 t767, .float .f64 t768, .string t769, .slice Ao45 t770.length co45] (0, 0) _ rfl (by (with_reducible repeat (first | refine blk_drewN ?_ _ | refine blk_drew ?_ | refine blk_alloc ?_ _)); refine blk_put (cs := #[.string t763, .int .i64 t764, .bool t765, .int .i64 t766, .int .u64 t767, .float .f64 t768, .string t769, .slice none 0 0]) ?_ 7 _ rfl; (with_reducible repeat (first | refine blk_drewN ?_ _ | refine blk_drew ?_ | refine blk_alloc ?_ _)); refine blk_put (cs := #[.string t763, .int .i64 t764, .bool t765, .int .i64 t766, .int .u64 t767, .float .f64 t768, .string (⟨#[]⟩ : ByteArray), .slice none 0 0]) ?_ 6 _ rfl; (with_reducible repeat (first | refine blk_drewN ?_ _ | refine blk_drew ?_ | refine blk_alloc ?_ _)); refine blk_put (cs := #[.string t763, .int .i64 t764, .bool t765, .int .i64 t766, .int .u64 t767, .float .f64 0, .string (⟨#[]⟩ : ByteArray), .slice none 0 0]) ?_ 5 _ rfl; (with_reducible repeat (first | refine blk_drewN ?_ _ | refine blk_drew ?_ | refine blk_alloc ?_ _)); refine blk_put (cs := #[.string t763, .int .i64 t764, .bool t765, .int .i64 t766, .int .u64 0, .float .f64 0, .string (⟨#[]⟩ : ByteArray), .slice none 0 0]) ?_ 4 _ rfl; (with_reducible repeat (first | refine blk_drewN ?_ _ | refine blk_drew ?_ | refine blk_alloc ?_ _)); refine blk_put (cs := #[.string t763, .int .i64 t764, .bool t765, .int .i64 0, .int .u64 0, .float .f64 0, .string (⟨#[]⟩ : ByteArray), .slice none 0 0]) ?_ 3 _ rfl; (with_reducible repeat (first | refine blk_drewN ?_ _ | refine blk_drew ?_ | refine blk_alloc ?_ _)); refine blk_put (cs := #[.string t763, .int .i64 t764, .bool false, .int .i64 0, .int .u64 0, .float .f64 0, .string (⟨#[]⟩ : ByteArray), .slice none 0 0]) ?_ 2 _ rfl; (with_reducible repeat (first | refine blk_drewN ?_ _ | refine blk_drew ?_ | refine blk_alloc ?_ _)); refine blk_put (cs := #[.string t763, .int .i64 0, .bool false, .int .i64 0, .int .u64 0, .float .f64 0, .string (⟨#[]⟩ : ByteArray), .slice none 0 0]) ?_ 1 _ rfl; (with_reducible repeat (first | refine blk_drewN ?_ _ | refine blk_drew ?_ | refine blk_alloc ?_ _)); refine blk_put (cs := #[.string (⟨#[]⟩ : ByteArray), .int .i64 0, .bool false, .int .i64 0, .int .u64 0, .float .f64 0, .string (⟨#[]⟩ : ByteArray), .slice none 0 0]) ?_ 0 _ rfl; (with_reducible repeat (first | refine blk_drewN ?_ _ | refine blk_drew ?_ | refine blk_alloc ?_ _)); exact BK760.out) Tryz.underlying39 rfl (by kernel_rfl)) rfl ?_
     exact ⟨_, by first | rfl | (simp [errW_none, errW_some] <;> rfl) | (simp [*, errW_none, errW_some] <;> rfl), by (with_reducible repeat (first | apply Kd.V_alloc | apply Kd.V_drewN | apply Kd.V_drew)); exact Kd.V_mono (Kd.V_far (p := ⟨gb760, 7, none⟩) (Kd.V_far (p := ⟨gb760, 6, none⟩) (Kd.V_far (p := ⟨gb760, 5, none⟩) (Kd.V_far (p := ⟨gb760, 4, none⟩) (Kd.V_far (p := ⟨gb760, 3, none⟩) (Kd.V_far (p := ⟨gb760, 2, none⟩) (Kd.V_far (p := ⟨gb760, 1, none⟩) (Kd.V_far (p := ⟨gb760, 0, none⟩) (Kd.V_mono HO772.out (fun k_ hk => (⟨hk, hk.2⟩ : _ ∧ k_ ≠ gb760))) (fun _ hk => hk.2) (.string t763)) (fun _ hk => hk.2) (.int .i64 t764)) (fun _ hk => hk.2) (.bool t765)) (fun _ hk => hk.2) (.int .i64 t766)) (fun _ hk => hk.2) (.int .u64 t767)) (fun _ hk => hk.2) (.float .f64 t768)) (fun _ hk => hk.2) (.string t769)) (fun _ hk => hk.2) (.slice Ao45 t770.length co45)) (fun _ hk => hk.1.1), by repeat (first | (with_reducible first | exact HB.out | apply below_alloc | apply pw_below_drewN | apply below_drew1 | refine below_set ?_ GE760.out) | exact HB.out)⟩
 ·rw [if_neg c3] at H
  have c3b0 : (t762 == 1) = false := beq_eq_false_iff_ne.mpr c3
  have c3b1 : (t762 != 1) = true := bne_iff_ne.mpr c3
  simp only [Option.some.injEq, Prod.mk.injEq] at H
  obtain ⟨rfl, rfl, rfl, rfl, rfl, rfl, rfl, rfl, rfl⟩ := H
  go_enter Tryz.func40, Tryz.ntmps40
  go_wp2_with (first | ((with_reducible refine gate_dst (N := 2) rfl ?_); refine box_event ?hg (N := 2) ?hd (cs := #[.string (⟨#[]⟩ : ByteArray), .int .i64 0, .bool false, .int .i64 0, .int .u64 0, .float .f64 0, .string (⟨#[]⟩ : ByteArray), .slice none 0 0]) (t := 39) ?hr ?_; (case hd => rfl); (case hg => rfl); (case hr => first | (go_simp; done) | (go_simp; rfl)); intro gb760 hg w46 hbox hb; have n0_ := Aside0.mk (below_step (by repeat (first | (with_reducible first | exact HB.out | apply below_alloc | apply pw_below_drewN | apply below_drew1) | exact HB.out)) hb); have n1_ := Aside0.mk (hbox); have n2_ := Aside0.mk ((by rw [hg]; exact (below_size (by repeat (first | (with_reducible first | exact HB.out | apply below_alloc | apply pw_below_drewN | apply below_drew1) | exact HB.out))) : w.heap.size ≤ gb760)); have n3_ := Aside0.mk ((by rw [hg]; exact (below_size (by repeat (first | (with_reducible first | exact HB.out | apply below_alloc | apply pw_below_drewN | apply below_drew1) | exact HB.out))) : w.heap.size ≤ gb760)); clear HB; have HB := n0_; have BK760 := n1_; have GW760 := n2_; have GE760 := n3_; clear n0_ n1_ n2_ n3_; clear hb hbox hg) | ((with_reducible refine gate_callee (f := 39) rfl ?_); refine goesL_ (some 11) rfl rfl Tryz.func39 (by kernel_rfl) rfl #[.slice A0 l0.length c0] rfl (by (try simp only [List.map_toArray, List.map_cons, List.map_nil]); first | done | rfl | (simp only [List.length_drop, List.length_take]; rfl)) ?_; (with_reducible refine (spec_SwapsPrint.calls k _ _ l0 t761 t762 _ ?side1 ?side2 A2.out).mono ?_); (case side1 => repeat (first | exact (Kd.C_below HR0.out HB.out) | (with_reducible refine Kd.C_alloc ?_ _) | (with_reducible refine Kd.C_drewN ?_ _) | (with_reducible refine Kd.C_drew ?_))); (case side2 => exact HC0.out); rintro e w47 ⟨rfl, hb⟩; refine ⟨_, rfl, ?_⟩; have n0_ := Aside0.mk (blk_below (g := gb760) (o := .cells #[.string (⟨#[]⟩ : ByteArray), .int .i64 0, .bool false, .int .i64 0, .int .u64 0, .float .f64 0, .string (⟨#[]⟩ : ByteArray), .slice none 0 0] 39 (0, 0)) (by (with_reducible repeat (first | refine blk_drewN ?_ _ | refine blk_drew ?_ | refine blk_alloc ?_ _)); exact BK760.out) hb); have n1_ := Aside0.mk (below_step (by repeat (first | (with_reducible first | exact HB.out | apply below_alloc | apply pw_below_drewN | apply below_drew1 | refine below_set ?_ GE760.out) | exact HB.out)) hb); clear BK760; clear HB; have BK760 := n0_; have HB := n1_; clear n0_ n1_; (try clear hb); (try clear hb2); (try clear hk); (try clear hi); have hcz48_0 : w47.cell? ⟨gb760, 0, none⟩ = some (.string (⟨#[]⟩ : ByteArray)) := (blk_cell BK760.out 0).trans rfl; have hcz48_1 : w47.cell? ⟨gb760, 1, none⟩ = some (.int .i64 0) := (blk_cell BK760.out 1).trans rfl; have hcz48_2 : w47.cell? ⟨gb760, 2, none⟩ = some (.bool false) := (blk_cell BK760.out 2).trans rfl; have hcz48_3 : w47.cell? ⟨gb760, 3, none⟩ = some (.int .i64 0) := (blk_cell BK760.out 3).trans rfl; have hcz48_4 : w47.cell? ⟨gb760, 4, none⟩ = some (.int .u64 0) := (blk_cell BK760.out 4).trans rfl; have hcz48_5 : w47.cell? ⟨gb760, 5, none⟩ = some (.float .f64 0) := (blk_cell BK760.out 5).trans rfl; have hcz48_6 : w47.cell? ⟨gb760, 6, none⟩ = some (.string (⟨#[]⟩ : ByteArray)) := (blk_cell BK760.out 6).trans rfl; have hcz48_7 : w47.cell? ⟨gb760, 7, none⟩ = some (.slice none 0 0) := (blk_cell BK760.out 7).trans rfl; have hfz48_0 := blk_frozen BK760.out 0; have hfz48_1 := blk_frozen BK760.out 1; have hfz48_2 := blk_frozen BK760.out 2; have hfz48_3 := blk_frozen BK760.out 3; have hfz48_4 := blk_frozen BK760.out 4; have hfz48_5 := blk_frozen BK760.out 5; have hfz48_6 := blk_frozen BK760.out 6; have hfz48_7 := blk_frozen BK760.out 7))
  refine bodyPost_ret (results_ct rfl _ _ gb760 39 #[.string (⟨#[]⟩ : ByteArray), .int .i64 0, .bool false, .int .i64 0, .int .u64 0, .float .f64 0, .string (⟨#[]⟩ : ByteArray), .slice none 0 0] (0, 0) _ rfl (by (with_reducible repeat (first | refine blk_drewN ?_ _ | refine blk_drew ?_ | refine blk_alloc ?_ _)); refine blk_put (cs := #[.string (⟨#[]⟩ : ByteArray), .int .i64 0, .bool false, .int .i64 0, .int .u64 0, .float .f64 0, .string (⟨#[]⟩ : ByteArray), .slice none 0 0]) ?_ 7 _ rfl; (with_reducible repeat (first | refine blk_drewN ?_ _ | refine blk_drew ?_ | refine blk_alloc ?_ _)); refine blk_put (cs := #[.string (⟨#[]⟩ : ByteArray), .int .i64 0, .bool false, .int .i64 0, .int .u64 0, .float .f64 0, .string (⟨#[]⟩ : ByteArray), .slice none 0 0]) ?_ 6 _ rfl; (with_reducible repeat (first | refine blk_drewN ?_ _ | refine blk_drew ?_ | refine blk_alloc ?_ _)); refine blk_put (cs := #[.string (⟨#[]⟩ : ByteArray), .int .i64 0, .bool false, .int .i64 0, .int .u64 0, .float .f64 0, .string (⟨#[]⟩ : ByteArray), .slice none 0 0]) ?_ 5 _ rfl; (with_reducible repeat (first | refine blk_drewN ?_ _ | refine blk_drew ?_ | refine blk_alloc ?_ _)); refine blk_put (cs := #[.string (⟨#[]⟩ : ByteArray), .int .i64 0, .bool false, .int .i64 0, .int .u64 0, .float .f64 0, .string (⟨#[]⟩ : ByteArray), .slice none 0 0]) ?_ 4 _ rfl; (with_reducible repeat (first | refine blk_drewN ?_ _ | refine blk_drew ?_ | refine blk_alloc ?_ _)); refine blk_put (cs := #[.string (⟨#[]⟩ : ByteArray), .int .i64 0, .bool false, .int .i64 0, .int .u64 0, .float .f64 0, .string (⟨#[]⟩ : ByteArray), .slice none 0 0]) ?_ 3 _ rfl; (with_reducible repeat (first | refine blk_drewN ?_ _ | refine blk_drew ?_ | refine blk_alloc ?_ _)); refine blk_put (cs := #[.string (⟨#[]⟩ : ByteArray), .int .i64 0, .bool false, .int .i64 0, .int .u64 0, .float .f64 0, .string (⟨#[]⟩ : ByteArray), .slice none 0 0]) ?_ 2 _ rfl; (with_reducible repeat (first | refine blk_drewN ?_ _ | refine blk_drew ?_ | refine blk_alloc ?_ _)); refine blk_put (cs := #[.string (⟨#[]⟩ : ByteArray), .int .i64 0, .bool false, .int .i64 0, .int .u64 0, .float .f64 0, .string (⟨#[]⟩ : ByteArray), .slice none 0 0]) ?_ 1 _ rfl; (with_reducible repeat (first | refine blk_drewN ?_ _ | refine blk_drew ?_ | refine blk_alloc ?_ _)); refine blk_put (cs := #[.string (⟨#[]⟩ : ByteArray), .int .i64 0, .bool false, .int .i64 0, .int .u64 0, .float .f64 0, .string (⟨#[]⟩ : ByteArray), .slice none 0 0]) ?_ 0 _ rfl; (with_reducible repeat (first | refine blk_drewN ?_ _ | refine blk_drew ?_ | refine blk_alloc ?_ _)); exact BK760.out) Tryz.underlying39 rfl (by kernel_rfl)) rfl ?_
  exact ⟨_, by first | rfl | (simp [errW_none, errW_some] <;> rfl) | (simp [*, errW_none, errW_some] <;> rfl), Kd.N_V (base := 0) (by first | exact Kd.R_nil _ _ _ _ _ | exact Kd.N_nil _ _ _ _ _ | exact Kd.V_nil _ _ _ _ _ | exact Kd.Q_nil _ _ _ _ _ | exact Kd.S_nil _ _ _ _ _), by repeat (first | (with_reducible first | exact HB.out | apply below_alloc | apply pw_below_drewN | apply below_drew1 | refine below_set ?_ GE760.out) | exact HB.out)⟩
end Go.Proofs.YtednjmngalmdkaaGreatDoor.GPC
end
section
namespace Go.Proofs.YtednjmngalmdkaaGreatDoor.GPC
open Go.RowKit Go.Proofs.YtednjmngalmdkaaGreatDoorW.PrintWords Go.Proofs.YtednjmngalmdkaaGreatDoorW.PrintLast Go.Proofs.YtednjmngalmdkaaGreatDoorW.PrintMore
attribute [local go_sem] max2_int min2_int max_two min_two max_three min_three max_four min_four   -- for this text's walks alone
set_option linter.unusedVariables false
set_option linter.unusedSimpArgs false

attribute [local go_sem] run_store_float
/-! ### impl_procfsSwap: function 128 -/
def impl_procfsSwap.f (a0 : ByteArray) (a1_0 : ByteArray) (a1_1 : ByteArray) (a1_2 : Int) (a1_3 : Int) (a1_4 : Int) : Option (ByteArray × Int × Bool × Int × Int × Nat × ByteArray × (List (S43))) := if ([] : List (S43)).length < 1466015503701 then ((some (([] : List (S43)) ++ [(⟨(⟨#[70, 105, 108, 101, 110, 97, 109, 101]⟩ : ByteArray), 5, false, 0, 0, 0, a1_0, ([] : List (S43))⟩ : S43)] : List (S43))).bind fun y848 => (if y848.length < 1466015503701 then ((some (y848 ++ [(⟨(⟨#[84, 121, 112, 101]⟩ : ByteArray), 5, false, 0, 0, 0, a1_1, ([] : List (S43))⟩ : S43)] : List (S43))).bind fun y851 => (if y851.length < 1466015503701 then ((some (y851 ++ [(⟨(⟨#[83, 105, 122, 101]⟩ : ByteArray), 2, false, a1_2, 0, 0, (⟨#[]⟩ : ByteArray), ([] : List (S43))⟩ : S43)] : List (S43))).bind fun y854 => (if y854.length < 1466015503701 then ((some (y854 ++ [(⟨(⟨#[85, 115, 101, 100]⟩ : ByteArray), 2, false, a1_3, 0, 0, (⟨#[]⟩ : ByteArray), ([] : List (S43))⟩ : S43)] : List (S43))).bind fun y857 => (if y857.length < 1466015503701 then (some (a0, 8, false, 0, 0, 0, (⟨#[]⟩ : ByteArray), (y857 ++ [(⟨(⟨#[80, 114, 105, 111, 114, 105, 116, 121]⟩ : ByteArray), 2, false, a1_4, 0, 0, (⟨#[]⟩ : ByteArray), ([] : List (S43))⟩ : S43)]))) else (none))) else (none))) else (none))) else (none))) else (none)
set_option maxHeartbeats 8000000 in
set_option maxRecDepth 100000 in
theorem impl_procfsSwap.calls (a0 : ByteArray) (a1_0 : ByteArray) (a1_1 : ByteArray) (a1_2 : Int) (a1_3 : Int) (a1_4 : Int) (r1 : ByteArray) (r2 : Int) (r3 : Bool) (r4 : Int) (r5 : Int) (r6 : Nat) (r7 : ByteArray) (r8 : List (S43)) (w : World) (h : impl_procfsSwap.f a0 a1_0 a1_1 a1_2 a1_3 a1_4 = some (r1, r2, r3, r4, r5, r6, r7, r8)) :
  Calls Tryz.prog 128 #[.string a0, .agg #[.string a1_0, .string a1_1, .int .i64 a1_2, .int .i64 a1_3, .int .i64 a1_4]] w fun e w' => ∃ v7_ : Value, e = .returned (.agg #[.string r1, .int .i64 r2, .bool r3, .int .i64 r4, .int .u64 r5, .float .f64 r6, .string r7, v7_]) ∧ Kd.R k43 43 w' w.heap.size (fun _ => True) v7_ r8 ∧ Below w.heap.size w w' := by
 have hu153 := Tryz.underlying153
 have hu43 := Tryz.underlying43
 have HB := Aside0.mk (Below.refl w.heap.size w)
 have H : (if ([] : List (S43)).length < 1466015503701 then ((some (([] : List (S43)) ++ [(⟨(⟨#[70, 105, 108, 101, 110, 97, 109, 101]⟩ : ByteArray), 5, false, 0, 0, 0, a1_0, ([] : List (S43))⟩ : S43)] : List (S43))).bind fun y848 => (if y848.length < 1466015503701 then ((some (y848 ++ [(⟨(⟨#[84, 121, 112, 101]⟩ : ByteArray), 5, false, 0, 0, 0, a1_1, ([] : List (S43))⟩ : S43)] : List (S43))).bind fun y851 => (if y851.length < 1466015503701 then ((some (y851 ++ [(⟨(⟨#[83, 105, 122, 101]⟩ : ByteArray), 2, false, a1_2, 0, 0, (⟨#[]⟩ : ByteArray), ([] : List (S43))⟩ : S43)] : List (S43))).bind fun y854 => (if y854.length < 1466015503701 then ((some (y854 ++ [(⟨(⟨#[85, 115, 101, 100]⟩ : ByteArray), 2, false, a1_3, 0, 0, (⟨#[]⟩ : ByteArray), ([] : List (S43))⟩ : S43)] : List (S43))).bind fun y857 => (if y857.length < 1466015503701 then (some (a0, 8, false, 0, 0, 0, (⟨#[]⟩ : ByteArray), (y857 ++ [(⟨(⟨#[80, 114, 105, 111, 114, 105, 116, 121]⟩ : ByteArray), 2, false, a1_4, 0, 0, (⟨#[]⟩ : ByteArray), ([] : List (S43))⟩ : S43)]))) else (none))) else (none))) else (none))) else (none))) else (none)) = some (r1, r2, r3, r4, r5, r6, r7, r8) := h
 clear h
 replace H := guard_inv H
 obtain ⟨c3, H⟩ := H
 have LMc3 := Aside0.mk c3
 clear c3
 obtain ⟨y848, hy848⟩ : ∃ y_ : List (S43), y_ = (([] : List (S43)) ++ [(⟨(⟨#[70, 105, 108, 101, 110, 97, 109, 101]⟩ : ByteArray), 5, false, 0, 0, 0, a1_0, ([] : List (S43))⟩ : S43)]) := ⟨_, rfl⟩
 replace H : (if y848.length < 1466015503701 then ((some (y848 ++ [(⟨(⟨#[84, 121, 112, 101]⟩ : ByteArray), 5, false, 0, 0, 0, a1_1, ([] : List (S43))⟩ : S43)] : List (S43))).bind fun y851 => (if y851.length < 1466015503701 then ((some (y851 ++ [(⟨(⟨#[83, 105, 122, 101]⟩ : ByteArray), 2, false, a1_2, 0, 0, (⟨#[]⟩ : ByteArray), ([] : List (S43))⟩ : S43)] : List (S43))).bind fun y854 => (if y854.length < 1466015503701 then ((some (y854 ++ [(⟨(⟨#[85, 115, 101, 100]⟩ : ByteArray), 2, false, a1_3, 0, 0, (⟨#[]⟩ : ByteArray), ([] : List (S43))⟩ : S43)] : List (S43))).bind fun y857 => (if y857.length < 1466015503701 then (some (a0, 8, false, 0, 0, 0, (⟨#[]⟩ : ByteArray), (y857 ++ [(⟨(⟨#[80, 114, 105, 111, 114, 105, 116, 121]⟩ : ByteArray), 2, false, a1_4, 0, 0, (⟨#[]⟩ : ByteArray), ([] : List (S43))⟩ : S43)]))) else (none))) else (none))) else (none))) else (none)) = some (r1, r2, r3, r4, r5, r6, r7, r8) := by first | (rw [hy848]; with_reducible exact H) | (have H2_ := (Option.bind_some _ _).symm.trans H; rw [hy848]; with_reducible exact H2_) | (have H2_ := (Option.bind_some _ _).symm.trans H; with_reducible exact H2_) | with_reducible exact H | (rw [hy848]; exact H) | exact H
 have Ny848 := Aside0.mk hy848
 clear hy848
 replace H := guard_inv H
 obtain ⟨c4, H⟩ := H
 have LMc4 := Aside0.mk c4
 clear c4
 obtain ⟨y851, hy851⟩ : ∃ y_ : List (S43), y_ = (y848 ++ [(⟨(⟨#[84, 121, 112, 101]⟩ : ByteArray), 5, false, 0, 0, 0, a1_1, ([] : List (S43))⟩ : S43)]) := ⟨_, rfl⟩
 replace H : (if y851.length < 1466015503701 then ((some (y851 ++ [(⟨(⟨#[83, 105, 122, 101]⟩ : ByteArray), 2, false, a1_2, 0, 0, (⟨#[]⟩ : ByteArray), ([] : List (S43))⟩ : S43)] : List (S43))).bind fun y854 => (if y854.length < 1466015503701 then ((some (y854 ++ [(⟨(⟨#[85, 115, 101, 100]⟩ : ByteArray), 2, false, a1_3, 0, 0, (⟨#[]⟩ : ByteArray), ([] : List (S43))⟩ : S43)] : List (S43))).bind fun y857 => (if y857.length < 1466015503701 then (some (a0, 8, false, 0, 0, 0, (⟨#[]⟩ : ByteArray), (y857 ++ [(⟨(⟨#[80, 114, 105, 111, 114, 105, 116, 121]⟩ : ByteArray), 2, false, a1_4, 0, 0, (⟨#[]⟩ : ByteArray), ([] : List (S43))⟩ : S43)]))) else (none))) else (none))) else (none)) = some (r1, r2, r3, r4, r5, r6, r7, r8) := by first | (rw [hy851]; with_reducible exact H) | (have H2_ := (Option.bind_some _ _).symm.trans H; rw [hy851]; with_reducible exact H2_) | (have H2_ := (Option.bind_some _ _).symm.trans H; with_reducible exact H2_) | with_reducible exact H | (rw [hy851]; exact H) | exact H
 have Ny851 := Aside0.mk hy851
 clear hy851
 replace H := guard_inv H
 obtain ⟨c5, H⟩ := H
 have LMc5 := Aside0.mk c5
 clear c5
 obtain ⟨y854, hy854⟩ : ∃ y_ : List (S43), y_ = (y851 ++ [(⟨(⟨#[83, 105, 122, 101]⟩ : ByteArray), 2, false, a1_2, 0, 0, (⟨#[]⟩ : ByteArray), ([] : List (S43))⟩ : S43)]) := ⟨_, rfl⟩
 replace H : (if y854.length < 1466015503701 then ((some (y854 ++ [(⟨(⟨#[85, 115, 101, 100]⟩ : ByteArray), 2, false, a1_3, 0, 0, (⟨#[]⟩ : ByteArray), ([] : List (S43))⟩ : S43)] : List (S43))).bind fun y857 => (if y857.length < 1466015503701 then (some (a0, 8, false, 0, 0, 0, (⟨#[]⟩ : ByteArray), (y857 ++ [(⟨(⟨#[80, 114, 105, 111, 114, 105, 116, 121]⟩ : ByteArray), 2, false, a1_4, 0, 0, (⟨#[]⟩ : ByteArray), ([] : List (S43))⟩ : S43)]))) else (none))) else (none)) = some (r1, r2, r3, r4, r5, r6, r7, r8) := by first | (rw [hy854]; with_reducible exact H) | (have H2_ := (Option.bind_some _ _).symm.trans H; rw [hy854]; with_reducible exact H2_) | (have H2_ := (Option.bind_some _ _).symm.trans H; with_reducible exact H2_) | with_reducible exact H | (rw [hy854]; exact H) | exact H
 have Ny854 := Aside0.mk hy854
 clear hy854
 replace H := guard_inv H
 obtain ⟨c6, H⟩ := H
 have LMc6 := Aside0.mk c6
 clear c6
 obtain ⟨y857, hy857⟩ : ∃ y_ : List (S43), y_ = (y854 ++ [(⟨(⟨#[85, 115, 101, 100]⟩ : ByteArray), 2, false, a1_3, 0, 0, (⟨#[]⟩ : ByteArray), ([] : List (S43))⟩ : S43)]) := ⟨_, rfl⟩
 replace H : (if y857.length < 1466015503701 then (some (a0, 8, false, 0, 0, 0, (⟨#[]⟩ : ByteArray), (y857 ++ [(⟨(⟨#[80, 114, 105, 111, 114, 105, 116, 121]⟩ : ByteArray), 2, false, a1_4, 0, 0, (⟨#[]⟩ : ByteArray), ([] : List (S43))⟩ : S43)]))) else (none)) = some (r1, r2, r3, r4, r5, r6, r7, r8) := by first | (rw [hy857]; with_reducible exact H) | (have H2_ := (Option.bind_some _ _).symm.trans H; rw [hy857]; with_reducible exact H2_) | (have H2_ := (Option.bind_some _ _).symm.trans H; with_reducible exact H2_) | with_reducible exact H | (rw [hy857]; exact H) | exact H
 have Ny857 := Aside0.mk hy857
 clear hy857
 replace H := guard_inv H
 obtain ⟨c7, H⟩ := H
 have LMc7 := Aside0.mk c7
 clear c7
 obtain ⟨y860, hy860⟩ : ∃ y_ : List (S43), y_ = (y857 ++ [(⟨(⟨#[80, 114, 105, 111, 114, 105, 116, 121]⟩ : ByteArray), 2, false, a1_4, 0, 0, (⟨#[]⟩ : ByteArray), ([] : List (S43))⟩ : S43)]) := ⟨_, rfl⟩
 replace H : (some (a0, 8, false, 0, 0, 0, (⟨#[]⟩ : ByteArray), y860)) = some (r1, r2, r3, r4, r5, r6, r7, r8) := by first | (rw [hy860]; with_reducible exact H) | (have H2_ := (Option.bind_some _ _).symm.trans H; rw [hy860]; with_reducible exact H2_) | (have H2_ := (Option.bind_some _ _).symm.trans H; with_reducible exact H2_) | with_reducible exact H | (rw [hy860]; exact H) | exact H
 have Ny860 := Aside0.mk hy860
 clear hy860
 simp only [Option.some.injEq, Prod.mk.injEq] at H
 obtain ⟨rfl, rfl, rfl, rfl, rfl, rfl, rfl, rfl⟩ := H
 go_enter Tryz.func128, Tryz.ntmps128
 go_wp2_with (first | ((with_reducible refine gate_dst (N := 3) rfl ?_); refine box_event ?hg (N := 3) ?hd (cs := #[.string a1_0, .string a1_1, .int .i64 a1_2, .int .i64 a1_3, .int .i64 a1_4]) (t := 153) ?hr ?_; (case hd => rfl); (case hg => rfl); (case hr => first | (go_simp; done) | (go_simp; rfl)); intro gb845 hg w8 hbox hb; have n0_ := Aside0.mk (below_step (by repeat (first | (with_reducible first | exact HB.out | apply below_alloc | apply pw_below_drewN | apply below_drew1) | exact HB.out)) hb); have n1_ := Aside0.mk (hbox); have n2_ := Aside0.mk ((by rw [hg]; exact (below_size (by repeat (first | (with_reducible first | exact HB.out | apply below_alloc | apply pw_below_drewN | apply below_drew1) | exact HB.out))) : w.heap.size ≤ gb845)); have n3_ := Aside0.mk ((by rw [hg]; exact (below_size (by repeat (first | (with_reducible first | exact HB.out | apply below_alloc | apply pw_below_drewN | apply below_drew1) | exact HB.out))) : w.heap.size ≤ gb845)); clear HB; have HB := n0_; have BK845 := n1_; have GW845 := n2_; have GE845 := n3_; clear n0_ n1_ n2_ n3_; clear hb hbox hg) | ((with_reducible refine gate_dst (N := 4) rfl ?_); refine box_event ?hg (N := 4) ?hd (cs := #[.string (⟨#[]⟩ : ByteArray), .int .i64 0, .bool false, .int .i64 0, .int .u64 0, .float .f64 0, .string (⟨#[]⟩ : ByteArray), .slice none 0 0]) (t := 43) ?hr ?_; (case hd => rfl); (case hg => rfl); (case hr => first | (go_simp; done) | (go_simp; rfl)); intro gb846 hg w9 hbox hb; have n0_ := Aside0.mk (blk_below (g := gb845) (o := .cells #[.string a1_0, .string a1_1, .int .i64 a1_2, .int .i64 a1_3, .int .i64 a1_4] 153 (0, 0)) (by (with_reducible repeat (first | refine blk_drewN ?_ _ | refine blk_drew ?_ | refine blk_alloc ?_ _)); exact BK845.out) hb); have n1_ := Aside0.mk (below_step (by repeat (first | (with_reducible first | exact HB.out | apply below_alloc | apply pw_below_drewN | apply below_drew1 | refine below_set ?_ GE845.out) | exact HB.out)) hb); have n2_ := Aside0.mk (hbox); have n3_ := Aside0.mk ((by rw [hg]; exact (below_size (by repeat (first | (with_reducible first | exact HB.out | apply below_alloc | apply pw_below_drewN | apply below_drew1 | refine below_set ?_ GE845.out) | exact HB.out))) : w.heap.size ≤ gb846)); have n4_ := Aside0.mk ((by rw [hg]; exact (below_size (by repeat (first | (with_reducible first | exact HB.out | apply below_alloc | apply pw_below_drewN | apply below_drew1 | refine below_set ?_ GE845.out) | exact HB.out))) : w.heap.size ≤ gb846)); have n5_ := Aside0.mk ((by rw [hg]; exact Nat.ne_of_lt (blk_lt (g := gb845) (o := .cells #[.string a1_0, .string a1_1, .int .i64 a1_2, .int .i64 a1_3, .int .i64 a1_4] 153 (0, 0)) (by (with_reducible repeat (first | refine blk_drewN ?_ _ | refine blk_drew ?_ | refine blk_alloc ?_ _)); exact BK845.out)) : gb845 ≠ gb846)); have n6_ := Aside0.mk ((by rw [hg]; exact Nat.ne_of_gt (blk_lt (g := gb845) (o := .cells #[.string a1_0, .string a1_1, .int .i64 a1_2, .int .i64 a1_3, .int .i64 a1_4] 153 (0, 0)) (by (with_reducible repeat (first | refine blk_drewN ?_ _ | refine blk_drew ?_ | refine blk_alloc ?_ _)); exact BK845.out)) : gb846 ≠ gb845)); clear BK845; clear HB; have BK845 := n0_; have HB := n1_; have BK846 := n2_; have GW846 := n3_; have GE846 := n4_; have NB845_846 := n5_; have NB846_845 := n6_; clear n0_ n1_ n2_ n3_ n4_ n5_ n6_; clear hb hbox hg) | ((with_reducible refine gate_dst (N := 5) rfl ?_); refine box_event ?hg (N := 5) ?hd (cs := #[.string (⟨#[]⟩ : ByteArray), .int .i64 0, .bool false, .int .i64 0, .int .u64 0, .float .f64 0, .string (⟨#[]⟩ : ByteArray), .slice none 0 0]) (t := 43) ?hr ?_; (case hd => rfl); (case hg => rfl); (case hr => first | (go_simp; done) | (go_simp; rfl)); intro gb847 hg w10 hbox hb; have n0_ := Aside0.mk (blk_below (g := gb845) (o := .cells #[.string a1_0, .string a1_1, .int .i64 a1_2, .int .i64 a1_3, .int .i64 a1_4] 153 (0, 0)) (by (with_reducible repeat (first | refine blk_drewN ?_ _ | refine blk_drew ?_ | refine blk_alloc ?_ _)); exact BK845.out) hb); have n1_ := Aside0.mk (blk_below (g := gb846) (o := .cells #[.string (⟨#[]⟩ : ByteArray), .int .i64 0, .bool false, .int .i64 0, .int .u64 0, .float .f64 0, .string (⟨#[]⟩ : ByteArray), .slice none 0 0] 43 (0, 0)) (by (with_reducible repeat (first | refine blk_drewN ?_ _ | refine blk_drew ?_ | refine blk_alloc ?_ _)); exact BK846.out) hb); have n2_ := Aside0.mk (below_step (by repeat (first | (with_reducible first | exact HB.out | apply below_alloc | apply pw_below_drewN | apply below_drew1 | refine below_set ?_ GE845.out | refine below_set ?_ GE846.out) | exact HB.out)) hb); have n3_ := Aside0.mk (hbox); have n4_ := Aside0.mk ((by rw [hg]; exact (below_size (by repeat (first | (with_reducible first | exact HB.out | apply below_alloc | apply pw_below_drewN | apply below_drew1 | refine below_set ?_ GE845.out | refine below_set ?_ GE846.out) | exact HB.out))) : w.heap.size ≤ gb847)); have n5_ := Aside0.mk ((by rw [hg]; exact (below_size (by repeat (first | (with_reducible first | exact HB.out | apply below_alloc | apply pw_below_drewN | apply below_drew1 | refine below_set ?_ GE845.out | refine below_set ?_ GE846.out) | exact HB.out))) : w.heap.size ≤ gb847)); have n6_ := Aside0.mk ((by rw [hg]; exact Nat.ne_of_lt (blk_lt (g := gb845) (o := .cells #[.string a1_0, .string a1_1, .int .i64 a1_2, .int .i64 a1_3, .int .i64 a1_4] 153 (0, 0)) (by (with_reducible repeat (first | refine blk_drewN ?_ _ | refine blk_drew ?_ | refine blk_alloc ?_ _)); exact BK845.out)) : gb845 ≠ gb847)); have n7_ := Aside0.mk ((by rw [hg]; exact Nat.ne_of_gt (blk_lt (g := gb845) (o := .cells #[.string a1_0, .string a1_1, .int .i64 a1_2, .int .i64 a1_3, .int .i64 a1_4] 153 (0, 0)) (by (with_reducible repeat (first | refine blk_drewN ?_ _ | refine blk_drew ?_ | refine blk_alloc ?_ _)); exact BK845.out)) : gb847 ≠ gb845)); have n8_ := Aside0.mk ((by rw [hg]; exact Nat.ne_of_lt (blk_lt (g := gb846) (o := .cells #[.string (⟨#[]⟩ : ByteArray), .int .i64 0, .bool false, .int .i64 0, .int .u64 0, .float .f64 0, .string (⟨#[]⟩ : ByteArray), .slice none 0 0] 43 (0, 0)) (by (with_reducible repeat (first | refine blk_drewN ?_ _ | refine blk_drew ?_ | refine blk_alloc ?_ _)); exact BK846.out)) : gb846 ≠ gb847)); have n9_ := Aside0.mk ((by rw [hg]; exact Nat.ne_of_gt (blk_lt (g := gb846) (o := .cells #[.string (⟨#[]⟩ : ByteArray), .int .i64 0, .bool false, .int .i64 0, .int .u64 0, .float .f64 0, .string (⟨#[]⟩ : ByteArray), .slice none 0 0] 43 (0, 0)) (by (with_reducible repeat (first | refine blk_drewN ?_ _ | refine blk_drew ?_ | refine blk_alloc ?_ _)); exact BK846.out)) : gb847 ≠ gb846)); clear BK845; clear BK846; clear HB; have BK845 := n0_; have BK846 := n1_; have HB := n2_; have BK847 := n3_; have GW847 := n4_; have GE847 := n5_; have NB845_847 := n6_; have NB847_845 := n7_; have NB846_847 := n8_; have NB847_846 := n9_; clear n0_ n1_ n2_ n3_ n4_ n5_ n6_ n7_ n8_ n9_; clear hb hbox hg; have hnb11 := NB847_845.out; have hnc11 := NB845_847.out; have hnb12 := NB847_846.out; have hnc12 := NB846_847.out; have hcz13_0 : w10.cell? ⟨gb847, 0, none⟩ = some (.string (⟨#[]⟩ : ByteArray)) := (blk_cell BK847.out 0).trans rfl; have hcz13_1 : w10.cell? ⟨gb847, 1, none⟩ = some (.int .i64 0) := (blk_cell BK847.out 1).trans rfl; have hcz13_2 : w10.cell? ⟨gb847, 2, none⟩ = some (.bool false) := (blk_cell BK847.out 2).trans rfl; have hcz13_3 : w10.cell? ⟨gb847, 3, none⟩ = some (.int .i64 0) := (blk_cell BK847.out 3).trans rfl; have hcz13_4 : w10.cell? ⟨gb847, 4, none⟩ = some (.int .u64 0) := (blk_cell BK847.out 4).trans rfl; have hcz13_5 : w10.cell? ⟨gb847, 5, none⟩ = some (.float .f64 0) := (blk_cell BK847.out 5).trans rfl; have hcz13_6 : w10.cell? ⟨gb847, 6, none⟩ = some (.string (⟨#[]⟩ : ByteArray)) := (blk_cell BK847.out 6).trans rfl; have hcz13_7 : w10.cell? ⟨gb847, 7, none⟩ = some (.slice none 0 0) := (blk_cell BK847.out 7).trans rfl; have hfz13_0 := blk_frozen BK847.out 0; have hfz13_1 := blk_frozen BK847.out 1; have hfz13_2 := blk_frozen BK847.out 2; have hfz13_3 := blk_frozen BK847.out 3; have hfz13_4 := blk_frozen BK847.out 4; have hfz13_5 := blk_frozen BK847.out 5; have hfz13_6 := blk_frozen BK847.out 6; have hfz13_7 := blk_frozen BK847.out 7; have hnb14 := NB845_846.out; have hnc14 := NB846_845.out; have hcz15_0 : w10.cell? ⟨gb845, 0, none⟩ = some (.string a1_0) := (blk_cell BK845.out 0).trans rfl; have hcz15_1 : w10.cell? ⟨gb845, 1, none⟩ = some (.string a1_1) := (blk_cell BK845.out 1).trans rfl; have hcz15_2 : w10.cell? ⟨gb845, 2, none⟩ = some (.int .i64 a1_2) := (blk_cell BK845.out 2).trans rfl; have hcz15_3 : w10.cell? ⟨gb845, 3, none⟩ = some (.int .i64 a1_3) := (blk_cell BK845.out 3).trans rfl; have hcz15_4 : w10.cell? ⟨gb845, 4, none⟩ = some (.int .i64 a1_4) := (blk_cell BK845.out 4).trans rfl; have hfz15_0 := blk_frozen BK845.out 0; have hfz15_1 := blk_frozen BK845.out 1; have hfz15_2 := blk_frozen BK845.out 2; have hfz15_3 := blk_frozen BK845.out 3; have hfz15_4 := blk_frozen BK845.out 4) | ((with_reducible refine gate_builtin (b := .append) (xs := #[.tmp 9, .tmp 13]) rfl ?_); at_builtin; refine Kd.R_append k43 (w0 := w) w.heap.size rfl (.tmp 9) (.tmp 13) 41 43 (.agg #[(.string ⟨#[]⟩), (.int .i64 0), (.bool false), (.int .i64 0), (.int .u64 0), (.float .f64 0), (.string ⟨#[]⟩), (.slice none 0 0)]) 96 rfl Tryz.underlying41 info43 rfl (by decide) (by omega) (.slice none 0 0) ([] : List (S43)) (⟨(⟨#[70, 105, 108, 101, 110, 97, 109, 101]⟩ : ByteArray), 5, false, 0, 0, 0, a1_0, ([] : List (S43))⟩ : S43) [.string (⟨#[70, 105, 108, 101, 110, 97, 109, 101]⟩ : ByteArray), .int .i64 5, .bool false, .int .i64 0, .int .u64 0, .float .f64 0, .string a1_0, .slice none 0 0] (fun k_ => k_ ≠ gb846 ∧ k_ ≠ gb847) (fun k_ => ((fun k_ => k_ ≠ gb846 ∧ k_ ≠ gb847)) k_ ∧ some k_ ≠ (.slice none 0 0 : Value).ownBlock) rfl (by first | (go_simp; done) | (go_simp; rfl)) ?aP (fun _ hk => hk) ?aF ?aO ?aB ?aS ?aL ?_; (case aP => exact k43_mkM _ _ _ (⟨(⟨#[70, 105, 108, 101, 110, 97, 109, 101]⟩ : ByteArray), 5, false, 0, 0, 0, a1_0, ([] : List (S43))⟩ : S43) (Kd.R_nil _ _ _ _ _)); (case aB => exact (by repeat (first | (with_reducible first | exact HB.out | apply below_alloc | apply pw_below_drewN | apply below_drew1 | refine below_set ?_ GE845.out | refine below_set ?_ GE846.out | refine below_set ?_ GE847.out) | exact HB.out))); (case aF => exact (fun k_ hk => ⟨Kd.freshB (g := gb846) (o := .cells #[.string (⟨#[]⟩ : ByteArray), .int .i64 0, .bool false, .int .i64 0, .int .u64 0, .float .f64 0, .string (⟨#[]⟩ : ByteArray), .slice none 0 0] 43 (0, 0)) (by (with_reducible repeat (first | refine blk_drewN ?_ _ | refine blk_drew ?_ | refine blk_alloc ?_ _)); refine blk_far ?_ NB846_847.out _; (with_reducible repeat (first | refine blk_drewN ?_ _ | refine blk_drew ?_ | refine blk_alloc ?_ _)); refine blk_far ?_ NB846_847.out _; (with_reducible repeat (first | refine blk_drewN ?_ _ | refine blk_drew ?_ | refine blk_alloc ?_ _)); refine blk_far ?_ NB846_847.out _; (with_reducible repeat (first | refine blk_drewN ?_ _ | refine blk_drew ?_ | refine blk_alloc ?_ _)); refine blk_far ?_ NB846_847.out _; (with_reducible repeat (first | refine blk_drewN ?_ _ | refine blk_drew ?_ | refine blk_alloc ?_ _)); refine blk_far ?_ NB846_847.out _; (with_reducible repeat (first | refine blk_drewN ?_ _ | refine blk_drew ?_ | refine blk_alloc ?_ _)); refine blk_far ?_ NB846_847.out _; (with_reducible repeat (first | refine blk_drewN ?_ _ | refine blk_drew ?_ | refine blk_alloc ?_ _)); refine blk_far ?_ NB846_847.out _; (with_reducible repeat (first | refine blk_drewN ?_ _ | refine blk_drew ?_ | refine blk_alloc ?_ _)); refine blk_far ?_ NB846_847.out _; (with_reducible repeat (first | refine blk_drewN ?_ _ | refine blk_drew ?_ | refine blk_alloc ?_ _)); exact BK846.out) k_ hk, Kd.freshB (g := gb847) (o := .cells #[.string a0, .int .i64 8, .bool false, .int .i64 0, .int .u64 0, .float .f64 0, .string (⟨#[]⟩ : ByteArray), .slice none 0 0] 43 (0, 0)) (by (with_reducible repeat (first | refine blk_drewN ?_ _ | refine blk_drew ?_ | refine blk_alloc ?_ _)); refine blk_put (cs := #[.string a0, .int .i64 8, .bool false, .int .i64 0, .int .u64 0, .float .f64 0, .string (⟨#[]⟩ : ByteArray), .slice none 0 0]) ?_ 7 _ rfl; (with_reducible repeat (first | refine blk_drewN ?_ _ | refine blk_drew ?_ | refine blk_alloc ?_ _)); refine blk_put (cs := #[.string a0, .int .i64 8, .bool false, .int .i64 0, .int .u64 0, .float .f64 0, .string (⟨#[]⟩ : ByteArray), .slice none 0 0]) ?_ 6 _ rfl; (with_reducible repeat (first | refine blk_drewN ?_ _ | refine blk_drew ?_ | refine blk_alloc ?_ _)); refine blk_put (cs := #[.string a0, .int .i64 8, .bool false, .int .i64 0, .int .u64 0, .float .f64 0, .string (⟨#[]⟩ : ByteArray), .slice none 0 0]) ?_ 5 _ rfl; (with_reducible repeat (first | refine blk_drewN ?_ _ | refine blk_drew ?_ | refine blk_alloc ?_ _)); refine blk_put (cs := #[.string a0, .int .i64 8, .bool false, .int .i64 0, .int .u64 0, .float .f64 0, .string (⟨#[]⟩ : ByteArray), .slice none 0 0]) ?_ 4 _ rfl; (with_reducible repeat (first | refine blk_drewN ?_ _ | refine blk_drew ?_ | refine blk_alloc ?_ _)); refine blk_put (cs := #[.string a0, .int .i64 8, .bool false, .int .i64 0, .int .u64 0, .float .f64 0, .string (⟨#[]⟩ : ByteArray), .slice none 0 0]) ?_ 3 _ rfl; (with_reducible repeat (first | refine blk_drewN ?_ _ | refine blk_drew ?_ | refine blk_alloc ?_ _)); refine blk_put (cs := #[.string a0, .int .i64 8, .bool false, .int .i64 0, .int .u64 0, .float .f64 0, .string (⟨#[]⟩ : ByteArray), .slice none 0 0]) ?_ 2 _ rfl; (with_reducible repeat (first | refine blk_drewN ?_ _ | refine blk_drew ?_ | refine blk_alloc ?_ _)); refine blk_put (cs := #[.string a0, .int .i64 0, .bool false, .int .i64 0, .int .u64 0, .float .f64 0, .string (⟨#[]⟩ : ByteArray), .slice none 0 0]) ?_ 1 _ rfl; (with_reducible repeat (first | refine blk_drewN ?_ _ | refine blk_drew ?_ | refine blk_alloc ?_ _)); refine blk_put (cs := #[.string (⟨#[]⟩ : ByteArray), .int .i64 0, .bool false, .int .i64 0, .int .u64 0, .float .f64 0, .string (⟨#[]⟩ : ByteArray), .slice none 0 0]) ?_ 0 _ rfl; (with_reducible repeat (first | refine blk_drewN ?_ _ | refine blk_drew ?_ | refine blk_alloc ?_ _)); exact BK847.out) k_ hk⟩)); (case aO => exact ((Kd.R_nil _ _ _ _ (fun k_ => k_ ≠ gb846 ∧ k_ ≠ gb847)))); (case aS => exact (below_size (by repeat (first | (with_reducible first | exact HB.out | apply below_alloc | apply pw_below_drewN | apply below_drew1 | refine below_set ?_ GE845.out | refine below_set ?_ GE846.out | refine below_set ?_ GE847.out) | exact HB.out)))); (case aL => have := LMc3.out; omega); intro v849 w16 ho hb hg hat; rw [← Ny848.out] at ho; have n0_ := Aside0.mk (blk_grown (g := gb845) (o := .cells #[.string a1_0, .string a1_1, .int .i64 a1_2, .int .i64 a1_3, .int .i64 a1_4] 153 (0, 0)) (by (with_reducible repeat (first | refine blk_drewN ?_ _ | refine blk_drew ?_ | refine blk_alloc ?_ _)); refine blk_far ?_ NB845_847.out _; (with_reducible repeat (first | refine blk_drewN ?_ _ | refine blk_drew ?_ | refine blk_alloc ?_ _)); refine blk_far ?_ NB845_847.out _; (with_reducible repeat (first | refine blk_drewN ?_ _ | refine blk_drew ?_ | refine blk_alloc ?_ _)); refine blk_far ?_ NB845_847.out _; (with_reducible repeat (first | refine blk_drewN ?_ _ | refine blk_drew ?_ | refine blk_alloc ?_ _)); refine blk_far ?_ NB845_847.out _; (with_reducible repeat (first | refine blk_drewN ?_ _ | refine blk_drew ?_ | refine blk_alloc ?_ _)); refine blk_far ?_ NB845_847.out _; (with_reducible repeat (first | refine blk_drewN ?_ _ | refine blk_drew ?_ | refine blk_alloc ?_ _)); refine blk_far ?_ NB845_847.out _; (with_reducible repeat (first | refine blk_drewN ?_ _ | refine blk_drew ?_ | refine blk_alloc ?_ _)); refine blk_far ?_ NB845_847.out _; (with_reducible repeat (first | refine blk_drewN ?_ _ | refine blk_drew ?_ | refine blk_alloc ?_ _)); refine blk_far ?_ NB845_847.out _; (with_reducible repeat (first | refine blk_drewN ?_ _ | refine blk_drew ?_ | refine blk_alloc ?_ _)); exact BK845.out) hg (by simp [Value.ownBlock])); have n1_ := Aside0.mk (blk_grown (g := gb846) (o := .cells #[.string (⟨#[]⟩ : ByteArray), .int .i64 0, .bool false, .int .i64 0, .int .u64 0, .float .f64 0, .string (⟨#[]⟩ : ByteArray), .slice none 0 0] 43 (0, 0)) (by (with_reducible repeat (first | refine blk_drewN ?_ _ | refine blk_drew ?_ | refine blk_alloc ?_ _)); refine blk_far ?_ NB846_847.out _; (with_reducible repeat (first | refine blk_drewN ?_ _ | refine blk_drew ?_ | refine blk_alloc ?_ _)); refine blk_far ?_ NB846_847.out _; (with_reducible repeat (first | refine blk_drewN ?_ _ | refine blk_drew ?_ | refine blk_alloc ?_ _)); refine blk_far ?_ NB846_847.out _; (with_reducible repeat (first | refine blk_drewN ?_ _ | refine blk_drew ?_ | refine blk_alloc ?_ _)); refine blk_far ?_ NB846_847.out _; (with_reducible repeat (first | refine blk_drewN ?_ _ | refine blk_drew ?_ | refine blk_alloc ?_ _)); refine blk_far ?_ NB846_847.out _; (with_reducible repeat (first | refine blk_drewN ?_ _ | refine blk_drew ?_ | refine blk_alloc ?_ _)); refine blk_far ?_ NB846_847.out _; (with_reducible repeat (first | refine blk_drewN ?_ _ | refine blk_drew ?_ | refine blk_alloc ?_ _)); refine blk_far ?_ NB846_847.out _; (with_reducible repeat (first | refine blk_drewN ?_ _ | refine blk_drew ?_ | refine blk_alloc ?_ _)); refine blk_far ?_ NB846_847.out _; (with_reducible repeat (first | refine blk_drewN ?_ _ | refine blk_drew ?_ | refine blk_alloc ?_ _)); exact BK846.out) hg (by simp [Value.ownBlock])); have n2_ := Aside0.mk (blk_grown (g := gb847) (o := .cells #[.string a0, .int .i64 8, .bool false, .int .i64 0, .int .u64 0, .float .f64 0, .string (⟨#[]⟩ : ByteArray), .slice none 0 0] 43 (0, 0)) (by (with_reducible repeat (first | refine blk_drewN ?_ _ | refine blk_drew ?_ | refine blk_alloc ?_ _)); refine blk_put (cs := #[.string a0, .int .i64 8, .bool false, .int .i64 0, .int .u64 0, .float .f64 0, .string (⟨#[]⟩ : ByteArray), .slice none 0 0]) ?_ 7 _ rfl; (with_reducible repeat (first | refine blk_drewN ?_ _ | refine blk_drew ?_ | refine blk_alloc ?_ _)); refine blk_put (cs := #[.string a0, .int .i64 8, .bool false, .int .i64 0, .int .u64 0, .float .f64 0, .string (⟨#[]⟩ : ByteArray), .slice none 0 0]) ?_ 6 _ rfl; (with_reducible repeat (first | refine blk_drewN ?_ _ | refine blk_drew ?_ | refine blk_alloc ?_ _)); refine blk_put (cs := #[.string a0, .int .i64 8, .bool false, .int .i64 0, .int .u64 0, .float .f64 0, .string (⟨#[]⟩ : ByteArray), .slice none 0 0]) ?_ 5 _ rfl; (with_reducible repeat (first | refine blk_drewN ?_ _ | refine blk_drew ?_ | refine blk_alloc ?_ _)); refine blk_put (cs := #[.string a0, .int .i64 8, .bool false, .int .i64 0, .int .u64 0, .float .f64 0, .string (⟨#[]⟩ : ByteArray), .slice none 0 0]) ?_ 4 _ rfl; (with_reducible repeat (first | refine blk_drewN ?_ _ | refine blk_drew ?_ | refine blk_alloc ?_ _)); refine blk_put (cs := #[.string a0, .int .i64 8, .bool false, .int .i64 0, .int .u64 0, .float .f64 0, .string (⟨#[]⟩ : ByteArray), .slice none 0 0]) ?_ 3 _ rfl; (with_reducible repeat (first | refine blk_drewN ?_ _ | refine blk_drew ?_ | refine blk_alloc ?_ _)); refine blk_put (cs := #[.string a0, .int .i64 8, .bool false, .int .i64 0, .int .u64 0, .float .f64 0, .string (⟨#[]⟩ : ByteArray), .slice none 0 0]) ?_ 2 _ rfl; (with_reducible repeat (first | refine blk_drewN ?_ _ | refine blk_drew ?_ | refine blk_alloc ?_ _)); refine blk_put (cs := #[.string a0, .int .i64 0, .bool false, .int .i64 0, .int .u64 0, .float .f64 0, .string (⟨#[]⟩ : ByteArray), .slice none 0 0]) ?_ 1 _ rfl; (with_reducible repeat (first | refine blk_drewN ?_ _ | refine blk_drew ?_ | refine blk_alloc ?_ _)); refine blk_put (cs := #[.string (⟨#[]⟩ : ByteArray), .int .i64 0, .bool false, .int .i64 0, .int .u64 0, .float .f64 0, .string (⟨#[]⟩ : ByteArray), .slice none 0 0]) ?_ 0 _ rfl; (with_reducible repeat (first | refine blk_drewN ?_ _ | refine blk_drew ?_ | refine blk_alloc ?_ _)); exact BK847.out) hg (by simp [Value.ownBlock])); have n3_ := Aside0.mk (hb); have n4_ := Aside0.mk (ho); clear BK845; clear BK846; clear BK847; clear HB; have BK845 := n0_; have BK846 := n1_; have BK847 := n2_; have HB := n3_; have HO850 := n4_; clear n0_ n1_ n2_ n3_ n4_; clear ho hb hg hat; obtain ⟨Ao17, co17, eo17⟩ := Kd.R_slice HO850.out; subst eo17; have hcz18_0 : w16.cell? ⟨gb847, 0, none⟩ = some (.string a0) := (blk_cell BK847.out 0).trans rfl; have hcz18_1 : w16.cell? ⟨gb847, 1, none⟩ = some (.int .i64 8) := (blk_cell BK847.out 1).trans rfl; have hcz18_2 : w16.cell? ⟨gb847, 2, none⟩ = some (.bool false) := (blk_cell BK847.out 2).trans rfl; have hcz18_3 : w16.cell? ⟨gb847, 3, none⟩ = some (.int .i64 0) := (blk_cell BK847.out 3).trans rfl; have hcz18_4 : w16.cell? ⟨gb847, 4, none⟩ = some (.int .u64 0) := (blk_cell BK847.out 4).trans rfl; have hcz18_5 : w16.cell? ⟨gb847, 5, none⟩ = some (.float .f64 0) := (blk_cell BK847.out 5).trans rfl; have hcz18_6 : w16.cell? ⟨gb847, 6, none⟩ = some (.string (⟨#[]⟩ : ByteArray)) := (blk_cell BK847.out 6).trans rfl; have hcz18_7 : w16.cell? ⟨gb847, 7, none⟩ = some (.slice none 0 0) := (blk_cell BK847.out 7).trans rfl; have hfz18_0 := blk_frozen BK847.out 0; have hfz18_1 := blk_frozen BK847.out 1; have hfz18_2 := blk_frozen BK847.out 2; have hfz18_3 := blk_frozen BK847.out 3; have hfz18_4 := blk_frozen BK847.out 4; have hfz18_5 := blk_frozen BK847.out 5; have hfz18_6 := blk_frozen BK847.out 6; have hfz18_7 := blk_frozen BK847.out 7; have hcz19_0 : w16.cell? ⟨gb845, 0, none⟩ = some (.string a1_0) := (blk_cell BK845.out 0).trans rfl; have hcz19_1 : w16.cell? ⟨gb845, 1, none⟩ = some (.string a1_1) := (blk_cell BK845.out 1).trans rfl; have hcz19_2 : w16.cell? ⟨gb845, 2, none⟩ = some (.int .i64 a1_2) := (blk_cell BK845.out 2).trans rfl; have hcz19_3 : w16.cell? ⟨gb845, 3, none⟩ = some (.int .i64 a1_3) := (blk_cell BK845.out 3).trans rfl; have hcz19_4 : w16.cell? ⟨gb845, 4, none⟩ = some (.int .i64 a1_4) := (blk_cell BK845.out 4).trans rfl; have hfz19_0 := blk_frozen BK845.out 0; have hfz19_1 := blk_frozen BK845.out 1; have hfz19_2 := blk_frozen BK845.out 2; have hfz19_3 := blk_frozen BK845.out 3; have hfz19_4 := blk_frozen BK845.out 4) | ((with_reducible refine gate_builtin (b := .append) (xs := #[.tmp 17, .tmp 21]) rfl ?_); at_builtin; refine Kd.R_append k43 (w0 := w) w.heap.size rfl (.tmp 17) (.tmp 21) 41 43 (.agg #[(.string ⟨#[]⟩), (.int .i64 0), (.bool false), (.int .i64 0), (.int .u64 0), (.float .f64 0), (.string ⟨#[]⟩), (.slice none 0 0)]) 96 rfl Tryz.underlying41 info43 rfl (by decide) (by omega) (.slice Ao17 y848.length co17) y848 (⟨(⟨#[84, 121, 112, 101]⟩ : ByteArray), 5, false, 0, 0, 0, a1_1, ([] : List (S43))⟩ : S43) [.string (⟨#[84, 121, 112, 101]⟩ : ByteArray), .int .i64 5, .bool false, .int .i64 0, .int .u64 0, .float .f64 0, .string a1_1, .slice none 0 0] (fun k_ => k_ ≠ gb846 ∧ k_ ≠ gb847) (fun k_ => ((fun k_ => k_ ≠ gb846 ∧ k_ ≠ gb847)) k_ ∧ some k_ ≠ (.slice Ao17 y848.length co17 : Value).ownBlock) rfl (by first | (go_simp; done) | (go_simp; rfl)) ?aP (fun _ hk => hk) ?aF ?aO ?aB ?aS ?aL ?_; (case aP => exact k43_mkM _ _ _ (⟨(⟨#[84, 121, 112, 101]⟩ : ByteArray), 5, false, 0, 0, 0, a1_1, ([] : List (S43))⟩ : S43) (Kd.R_nil _ _ _ _ _)); (case aB => exact (by repeat (first | (with_reducible first | exact HB.out | apply below_alloc | apply pw_below_drewN | apply below_drew1 | refine below_set ?_ GE845.out | refine below_set ?_ GE846.out | refine below_set ?_ GE847.out) | exact HB.out))); (case aF => exact (fun k_ hk => ⟨Kd.freshB (g := gb846) (o := .cells #[.string (⟨#[]⟩ : ByteArray), .int .i64 0, .bool false, .int .i64 0, .int .u64 0, .float .f64 0, .string (⟨#[]⟩ : ByteArray), .slice none 0 0] 43 (0, 0)) (by (with_reducible repeat (first | refine blk_drewN ?_ _ | refine blk_drew ?_ | refine blk_alloc ?_ _)); refine blk_far ?_ NB846_847.out _; (with_reducible repeat (first | refine blk_drewN ?_ _ | refine blk_drew ?_ | refine blk_alloc ?_ _)); exact BK846.out) k_ hk, Kd.freshB (g := gb847) (o := .cells #[.string a0, .int .i64 8, .bool false, .int .i64 0, .int .u64 0, .float .f64 0, .string (⟨#[]⟩ : ByteArray), .slice Ao17 y848.length co17] 43 (0, 0)) (by (with_reducible repeat (first | refine blk_drewN ?_ _ | refine blk_drew ?_ | refine blk_alloc ?_ _)); refine blk_put (cs := #[.string a0, .int .i64 8, .bool false, .int .i64 0, .int .u64 0, .float .f64 0, .string (⟨#[]⟩ : ByteArray), .slice none 0 0]) ?_ 7 _ rfl; (with_reducible repeat (first | refine blk_drewN ?_ _ | refine blk_drew ?_ | refine blk_alloc ?_ _)); exact BK847.out) k_ hk⟩)); (case aO => exact (by (with_reducible repeat (first | apply Kd.R_alloc | apply Kd.R_drewN | apply Kd.R_drew)); exact Kd.R_mono (Kd.R_far (p := ⟨gb847, 7, none⟩) (Kd.R_mono HO850.out (fun k_ hk => (⟨hk, hk.2⟩ : _ ∧ k_ ≠ gb847))) (fun _ hk => hk.2) (.slice Ao17 y848.length co17)) (fun _ hk => ⟨hk.1.1, hk.1.2⟩))); (case aS => exact (below_size (by repeat (first | (with_reducible first | exact HB.out | apply below_alloc | apply pw_below_drewN | apply below_drew1 | refine below_set ?_ GE845.out | refine below_set ?_ GE846.out | refine below_set ?_ GE847.out) | exact HB.out)))); (case aL => have := LMc4.out; omega); intro v852 w20 ho hb hg hat; rw [← Ny851.out] at ho; have n0_ := Aside0.mk (blk_grown (g := gb845) (o := .cells #[.string a1_0, .string a1_1, .int .i64 a1_2, .int .i64 a1_3, .int .i64 a1_4] 153 (0, 0)) (by (with_reducible repeat (first | refine blk_drewN ?_ _ | refine blk_drew ?_ | refine blk_alloc ?_ _)); refine blk_far ?_ NB845_847.out _; (with_reducible repeat (first | refine blk_drewN ?_ _ | refine blk_drew ?_ | refine blk_alloc ?_ _)); exact BK845.out) hg (Kd.R_ne HO850.out BK845.out (by decide))); have n1_ := Aside0.mk (blk_grown (g := gb846) (o := .cells #[.string (⟨#[]⟩ : ByteArray), .int .i64 0, .bool false, .int .i64 0, .int .u64 0, .float .f64 0, .string (⟨#[]⟩ : ByteArray), .slice none 0 0] 43 (0, 0)) (by (with_reducible repeat (first | refine blk_drewN ?_ _ | refine blk_drew ?_ | refine blk_alloc ?_ _)); refine blk_far ?_ NB846_847.out _; (with_reducible repeat (first | refine blk_drewN ?_ _ | refine blk_drew ?_ | refine blk_alloc ?_ _)); exact BK846.out) hg (Kd.R_away HO850.out (fun _ hk => hk.1))); have n2_ := Aside0.mk (blk_grown (g := gb847) (o := .cells #[.string a0, .int .i64 8, .bool false, .int .i64 0, .int .u64 0, .float .f64 0, .string (⟨#[]⟩ : ByteArray), .slice Ao17 y848.length co17] 43 (0, 0)) (by (with_reducible repeat (first | refine blk_drewN ?_ _ | refine blk_drew ?_ | refine blk_alloc ?_ _)); refine blk_put (cs := #[.string a0, .int .i64 8, .bool false, .int .i64 0, .int .u64 0, .float .f64 0, .string (⟨#[]⟩ : ByteArray), .slice none 0 0]) ?_ 7 _ rfl; (with_reducible repeat (first | refine blk_drewN ?_ _ | refine blk_drew ?_ | refine blk_alloc ?_ _)); exact BK847.out) hg (Kd.R_away HO850.out (fun _ hk => hk.2))); have n3_ := Aside0.mk (hb); have n4_ := Aside0.mk (ho); clear BK845; clear BK846; clear BK847; clear HB; clear HO850; have BK845 := n0_; have BK846 := n1_; have BK847 := n2_; have HB := n3_; have HO853 := n4_; clear n0_ n1_ n2_ n3_ n4_; clear ho hb hg hat; obtain ⟨Ao21, co21, eo21⟩ := Kd.R_slice HO853.out; subst eo21; have hcz22_0 : w20.cell? ⟨gb847, 0, none⟩ = some (.string a0) := (blk_cell BK847.out 0).trans rfl; have hcz22_1 : w20.cell? ⟨gb847, 1, none⟩ = some (.int .i64 8) := (blk_cell BK847.out 1).trans rfl; have hcz22_2 : w20.cell? ⟨gb847, 2, none⟩ = some (.bool false) := (blk_cell BK847.out 2).trans rfl; have hcz22_3 : w20.cell? ⟨gb847, 3, none⟩ = some (.int .i64 0) := (blk_cell BK847.out 3).trans rfl; have hcz22_4 : w20.cell? ⟨gb847, 4, none⟩ = some (.int .u64 0) := (blk_cell BK847.out 4).trans rfl; have hcz22_5 : w20.cell? ⟨gb847, 5, none⟩ = some (.float .f64 0) := (blk_cell BK847.out 5).trans rfl; have hcz22_6 : w20.cell? ⟨gb847, 6, none⟩ = some (.string (⟨#[]⟩ : ByteArray)) := (blk_cell BK847.out 6).trans rfl; have hcz22_7 : w20.cell? ⟨gb847, 7, none⟩ = some (.slice Ao17 y848.length co17) := (blk_cell BK847.out 7).trans rfl; have hfz22_0 := blk_frozen BK847.out 0; have hfz22_1 := blk_frozen BK847.out 1; have hfz22_2 := blk_frozen BK847.out 2; have hfz22_3 := blk_frozen BK847.out 3; have hfz22_4 := blk_frozen BK847.out 4; have hfz22_5 := blk_frozen BK847.out 5; have hfz22_6 := blk_frozen BK847.out 6; have hfz22_7 := blk_frozen BK847.out 7; have hcz23_0 : w20.cell? ⟨gb845, 0, none⟩ = some (.string a1_0) := (blk_cell BK845.out 0).trans rfl; have hcz23_1 : w20.cell? ⟨gb845, 1, none⟩ = some (.string a1_1) := (blk_cell BK845.out 1).trans rfl; have hcz23_2 : w20.cell? ⟨gb845, 2, none⟩ = some (.int .i64 a1_2) := (blk_cell BK845.out 2).trans rfl; have hcz23_3 : w20.cell? ⟨gb845, 3, none⟩ = some (.int .i64 a1_3) := (blk_cell BK845.out 3).trans rfl; have hcz23_4 : w20.cell? ⟨gb845, 4, none⟩ = some (.int .i64 a1_4) := (blk_cell BK845.out 4).trans rfl; have hfz23_0 := blk_frozen BK845.out 0; have hfz23_1 := blk_frozen BK845.out 1; have hfz23_2 := blk_frozen BK845.out 2; have hfz23_3 := blk_frozen BK845.out 3; have hfz23_4 := blk_frozen BK845.out 4) | ((with_reducible refine gate_builtin (b := .append) (xs := #[.tmp 25, .tmp 29]) rfl ?_); at_builtin; refine Kd.R_append k43 (w0 := w) w.heap.size rfl (.tmp 25) (.tmp 29) 41 43 (.agg #[(.string ⟨#[]⟩), (.int .i64 0), (.bool false), (.int .i64 0), (.int .u64 0), (.float .f64 0), (.string ⟨#[]⟩), (.slice none 0 0)]) 96 rfl Tryz.underlying41 info43 rfl (by decide) (by omega) (.slice Ao21 y851.length co21) y851 (⟨(⟨#[83, 105, 122, 101]⟩ : ByteArray), 2, false, a1_2, 0, 0, (⟨#[]⟩ : ByteArray), ([] : List (S43))⟩ : S43) [.string (⟨#[83, 105, 122, 101]⟩ : ByteArray), .int .i64 2, .bool false, .int .i64 a1_2, .int .u64 0, .float .f64 0, .string (⟨#[]⟩ : ByteArray), .slice none 0 0] (fun k_ => k_ ≠ gb846 ∧ k_ ≠ gb847) (fun k_ => ((fun k_ => k_ ≠ gb846 ∧ k_ ≠ gb847)) k_ ∧ some k_ ≠ (.slice Ao21 y851.length co21 : Value).ownBlock) rfl (by first | (go_simp; done) | (go_simp; rfl)) ?aP (fun _ hk => hk) ?aF ?aO ?aB ?aS ?aL ?_; (case aP => exact k43_mkM _ _ _ (⟨(⟨#[83, 105, 122, 101]⟩ : ByteArray), 2, false, a1_2, 0, 0, (⟨#[]⟩ : ByteArray), ([] : List (S43))⟩ : S43) (Kd.R_nil _ _ _ _ _)); (case aB => exact (by repeat (first | (with_reducible first | exact HB.out | apply below_alloc | apply pw_below_drewN | apply below_drew1 | refine below_set ?_ GE845.out | refine below_set ?_ GE846.out | refine below_set ?_ GE847.out) | exact HB.out))); (case aF => exact (fun k_ hk => ⟨Kd.freshB (g := gb846) (o := .cells #[.string (⟨#[]⟩ : ByteArray), .int .i64 0, .bool false, .int .i64 0, .int .u64 0, .float .f64 0, .string (⟨#[]⟩ : ByteArray), .slice none 0 0] 43 (0, 0)) (by (with_reducible repeat (first | refine blk_drewN ?_ _ | refine blk_drew ?_ | refine blk_alloc ?_ _)); refine blk_far ?_ NB846_847.out _; (with_reducible repeat (first | refine blk_drewN ?_ _ | refine blk_drew ?_ | refine blk_alloc ?_ _)); exact BK846.out) k_ hk, Kd.freshB (g := gb847) (o := .cells #[.string a0, .int .i64 8, .bool false, .int .i64 0, .int .u64 0, .float .f64 0, .string (⟨#[]⟩ : ByteArray), .slice Ao21 y851.length co21] 43 (0, 0)) (by (with_reducible repeat (first | refine blk_drewN ?_ _ | refine blk_drew ?_ | refine blk_alloc ?_ _)); refine blk_put (cs := #[.string a0, .int .i64 8, .bool false, .int .i64 0, .int .u64 0, .float .f64 0, .string (⟨#[]⟩ : ByteArray), .slice Ao17 y848.length co17]) ?_ 7 _ rfl; (with_reducible repeat (first | refine blk_drewN ?_ _ | refine blk_drew ?_ | refine blk_alloc ?_ _)); exact BK847.out) k_ hk⟩)); (case aO => exact (by (with_reducible repeat (first | apply Kd.R_alloc | apply Kd.R_drewN | apply Kd.R_drew)); exact Kd.R_mono (Kd.R_far (p := ⟨gb847, 7, none⟩) (Kd.R_mono HO853.out (fun k_ hk => (⟨hk, hk.2⟩ : _ ∧ k_ ≠ gb847))) (fun _ hk => hk.2) (.slice Ao21 y851.length co21)) (fun _ hk => ⟨hk.1.1, hk.1.2⟩))); (case aS => exact (below_size (by repeat (first | (with_reducible first | exact HB.out | apply below_alloc | apply pw_below_drewN | apply below_drew1 | refine below_set ?_ GE845.out | refine below_set ?_ GE846.out | refine below_set ?_ GE847.out) | exact HB.out)))); (case aL => have := LMc5.out; omega); intro v855 w24 ho hb hg hat; rw [← Ny854.out] at ho; have n0_ := Aside0.mk (blk_grown (g := gb845) (o := .cells #[.string a1_0, .string a1_1, .int .i64 a1_2, .int .i64 a1_3, .int .i64 a1_4] 153 (0, 0)) (by (with_reducible repeat (first | refine blk_drewN ?_ _ | refine blk_drew ?_ | refine blk_alloc ?_ _)); refine blk_far ?_ NB845_847.out _; (with_reducible repeat (first | refine blk_drewN ?_ _ | refine blk_drew ?_ | refine blk_alloc ?_ _)); exact BK845.out) hg (Kd.R_ne HO853.out BK845.out (by decide))); have n1_ := Aside0.mk (blk_grown (g := gb846) (o := .cells #[.string (⟨#[]⟩ : ByteArray), .int .i64 0, .bool false, .int .i64 0, .int .u64 0, .float .f64 0, .string (⟨#[]⟩ : ByteArray), .slice none 0 0] 43 (0, 0)) (by (with_reducible repeat (first | refine blk_drewN ?_ _ | refine blk_drew ?_ | refine blk_alloc ?_ _)); refine blk_far ?_ NB846_847.out _; (with_reducible repeat (first | refine blk_drewN ?_ _ | refine blk_drew ?_ | refine blk_alloc ?_ _)); exact BK846.out) hg (Kd.R_away HO853.out (fun _ hk => hk.1))); have n2_ := Aside0.mk (blk_grown (g := gb847) (o := .cells #[.string a0, .int .i64 8, .bool false, .int .i64 0, .int .u64 0, .float .f64 0, .string (⟨#[]⟩ : ByteArray), .slice Ao21 y851.length co21] 43 (0, 0)) (by (with_reducible repeat (first | refine blk_drewN ?_ _ | refine blk_drew ?_ | refine blk_alloc ?_ _)); refine blk_put (cs := #[.string a0, .int .i64 8, .bool false, .int .i64 0, .int .u64 0, .float .f64 0, .string (⟨#[]⟩ : ByteArray), .slice Ao17 y848.length co17]) ?_ 7 _ rfl; (with_reducible repeat (first | refine blk_drewN ?_ _ | refine blk_drew ?_ | refine blk_alloc ?_ _)); exact BK847.out) hg (Kd.R_away HO853.out (fun _ hk => hk.2))); have n3_ := Aside0.mk (hb); have n4_ := Aside0.mk (ho); clear BK845; clear BK846; clear BK847; clear HB; clear HO853; have BK845 := n0_; have BK846 := n1_; have BK847 := n2_; have HB := n3_; have HO856 := n4_; clear n0_ n1_ n2_ n3_ n4_; clear ho hb hg hat; obtain ⟨Ao25, co25, eo25⟩ := Kd.R_slice HO856.out; subst eo25; have hcz26_0 : w24.cell? ⟨gb847, 0, none⟩ = some (.string a0) := (blk_cell BK847.out 0).trans rfl; have hcz26_1 : w24.cell? ⟨gb847, 1, none⟩ = some (.int .i64 8) := (blk_cell BK847.out 1).trans rfl; have hcz26_2 : w24.cell? ⟨gb847, 2, none⟩ = some (.bool false) := (blk_cell BK847.out 2).trans rfl; have hcz26_3 : w24.cell? ⟨gb847, 3, none⟩ = some (.int .i64 0) := (blk_cell BK847.out 3).trans rfl; have hcz26_4 : w24.cell? ⟨gb847, 4, none⟩ = some (.int .u64 0) := (blk_cell BK847.out 4).trans rfl; have hcz26_5 : w24.cell? ⟨gb847, 5, none⟩ = some (.float .f64 0) := (blk_cell BK847.out 5).trans rfl; have hcz26_6 : w24.cell? ⟨gb847, 6, none⟩ = some (.string (⟨#[]⟩ : ByteArray)) := (blk_cell BK847.out 6).trans rfl; have hcz26_7 : w24.cell? ⟨gb847, 7, none⟩ = some (.slice Ao21 y851.length co21) := (blk_cell BK847.out 7).trans rfl; have hfz26_0 := blk_frozen BK847.out 0; have hfz26_1 := blk_frozen BK847.out 1; have hfz26_2 := blk_frozen BK847.out 2; have hfz26_3 := blk_frozen BK847.out 3; have hfz26_4 := blk_frozen BK847.out 4; have hfz26_5 := blk_frozen BK847.out 5; have hfz26_6 := blk_frozen BK847.out 6; have hfz26_7 := blk_frozen BK847.out 7; have hcz27_0 : w24.cell? ⟨gb845, 0, none⟩ = some (.string a1_0) := (blk_cell BK845.out 0).trans rfl; have hcz27_1 : w24.cell? ⟨gb845, 1, none⟩ = some (.string a1_1) := (blk_cell BK845.out 1).trans rfl; have hcz27_2 : w24.cell? ⟨gb845, 2, none⟩ = some (.int .i64 a1_2) := (blk_cell BK845.out 2).trans rfl; have hcz27_3 : w24.cell? ⟨gb845, 3, none⟩ = some (.int .i64 a1_3) := (blk_cell BK845.out 3).trans rfl; have hcz27_4 : w24.cell? ⟨gb845, 4, none⟩ = some (.int .i64 a1_4) := (blk_cell BK845.out 4).trans rfl; have hfz27_0 := blk_frozen BK845.out 0; have hfz27_1 := blk_frozen BK845.out 1; have hfz27_2 := blk_frozen BK845.out 2; have hfz27_3 := blk_frozen BK845.out 3; have hfz27_4 := blk_frozen BK845.out 4) | ((with_reducible refine gate_builtin (b := .append) (xs := #[.tmp 33, .tmp 37]) rfl ?_); at_builtin; refine Kd.R_append k43 (w0 := w) w.heap.size rfl (.tmp 33) (.tmp 37) 41 43 (.agg #[(.string ⟨#[]⟩), (.int .i64 0), (.bool false), (.int .i64 0), (.int .u64 0), (.float .f64 0), (.string ⟨#[]⟩), (.slice none 0 0)]) 96 rfl Tryz.underlying41 info43 rfl (by decide) (by omega) (.slice Ao25 y854.length co25) y854 (⟨(⟨#[85, 115, 101, 100]⟩ : ByteArray), 2, false, a1_3, 0, 0, (⟨#[]⟩ : ByteArray), ([] : List (S43))⟩ : S43) [.string (⟨#[85, 115, 101, 100]⟩ : ByteArray), .int .i64 2, .bool false, .int .i64 a1_3, .int .u64 0, .float .f64 0, .string (⟨#[]⟩ : ByteArray), .slice none 0 0] (fun k_ => k_ ≠ gb846 ∧ k_ ≠ gb847) (fun k_ => ((fun k_ => k_ ≠ gb846 ∧ k_ ≠ gb847)) k_ ∧ some k_ ≠ (.slice Ao25 y854.length co25 : Value).ownBlock) rfl (by first | (go_simp; done) | (go_simp; rfl)) ?aP (fun _ hk => hk) ?aF ?aO ?aB ?aS ?aL ?_; (case aP => exact k43_mkM _ _ _ (⟨(⟨#[85, 115, 101, 100]⟩ : ByteArray), 2, false, a1_3, 0, 0, (⟨#[]⟩ : ByteArray), ([] : List (S43))⟩ : S43) (Kd.R_nil _ _ _ _ _)); (case aB => exact (by repeat (first | (with_reducible first | exact HB.out | apply below_alloc | apply pw_below_drewN | apply below_drew1 | refine below_set ?_ GE845.out | refine below_set ?_ GE846.out | refine below_set ?_ GE847.out) | exact HB.out))); (case aF => exact (fun k_ hk => ⟨Kd.freshB (g := gb846) (o := .cells #[.string (⟨#[]⟩ : ByteArray), .int .i64 0, .bool false, .int .i64 0, .int .u64 0, .float .f64 0, .string (⟨#[]⟩ : ByteArray), .slice none 0 0] 43 (0, 0)) (by (with_reducible repeat (first | refine blk_drewN ?_ _ | refine blk_drew ?_ | refine blk_alloc ?_ _)); refine blk_far ?_ NB846_847.out _; (with_reducible repeat (first | refine blk_drewN ?_ _ | refine blk_drew ?_ | refine blk_alloc ?_ _)); exact BK846.out) k_ hk, Kd.freshB (g := gb847) (o := .cells #[.string a0, .int .i64 8, .bool false, .int .i64 0, .int .u64 0, .float .f64 0, .string (⟨#[]⟩ : ByteArray), .slice Ao25 y854.length co25] 43 (0, 0)) (by (with_reducible repeat (first | refine blk_drewN ?_ _ | refine blk_drew ?_ | refine blk_alloc ?_ _)); refine blk_put (cs := #[.string a0, .int .i64 8, .bool false, .int .i64 0, .int .u64 0, .float .f64 0, .string (⟨#[]⟩ : ByteArray), .slice Ao21 y851.length co21]) ?_ 7 _ rfl; (with_reducible repeat (first | refine blk_drewN ?_ _ | refine blk_drew ?_ | refine blk_alloc ?_ _)); exact BK847.out) k_ hk⟩)); (case aO => exact (by (with_reducible repeat (first | apply Kd.R_alloc | apply Kd.R_drewN | apply Kd.R_drew)); exact Kd.R_mono (Kd.R_far (p := ⟨gb847, 7, none⟩) (Kd.R_mono HO856.out (fun k_ hk => (⟨hk, hk.2⟩ : _ ∧ k_ ≠ gb847))) (fun _ hk => hk.2) (.slice Ao25 y854.length co25)) (fun _ hk => ⟨hk.1.1, hk.1.2⟩))); (case aS => exact (below_size (by repeat (first | (with_reducible first | exact HB.out | apply below_alloc | apply pw_below_drewN | apply below_drew1 | refine below_set ?_ GE845.out | refine below_set ?_ GE846.out | refine below_set ?_ GE847.out) | exact HB.out)))); (case aL => have := LMc6.out; omega); intro v858 w28 ho hb hg hat; rw [← Ny857.out] at ho; have n0_ := Aside0.mk (blk_grown (g := gb845) (o := .cells #[.string a1_0, .string a1_1, .int .i64 a1_2, .int .i64 a1_3, .int .i64 a1_4] 153 (0, 0)) (by (with_reducible repeat (first | refine blk_drewN ?_ _ | refine blk_drew ?_ | refine blk_alloc ?_ _)); refine blk_far ?_ NB845_847.out _; (with_reducible repeat (first | refine blk_drewN ?_ _ | refine blk_drew ?_ | refine blk_alloc ?_ _)); exact BK845.out) hg (Kd.R_ne HO856.out BK845.out (by decide))); have n1_ := Aside0.mk (blk_grown (g := gb846) (o := .cells #[.string (⟨#[]⟩ : ByteArray), .int .i64 0, .bool false, .int .i64 0, .int .u64 0, .float .f64 0, .string (⟨#[]⟩ : ByteArray), .slice none 0 0] 43 (0, 0)) (by (with_reducible repeat (first | refine blk_drewN ?_ _ | refine blk_drew ?_ | refine blk_alloc ?_ _)); refine blk_far ?_ NB846_847.out _; (with_reducible repeat (first | refine blk_drewN ?_ _ | refine blk_drew ?_ | refine blk_alloc ?_ _)); exact BK846.out) hg (Kd.R_away HO856.out (fun _ hk => hk.1))); have n2_ := Aside0.mk (blk_grown (g := gb847) (o := .cells #[.string a0, .int .i64 8, .bool false, .int .i64 0, .int .u64 0, .float .f64 0, .string (⟨#[]⟩ : ByteArray), .slice Ao25 y854.length co25] 43 (0, 0)) (by (with_reducible repeat (first | refine blk_drewN ?_ _ | refine blk_drew ?_ | refine blk_alloc ?_ _)); refine blk_put (cs := #[.string a0, .int .i64 8, .bool false, .int .i64 0, .int .u64 0, .float .f64 0, .string (⟨#[]⟩ : ByteArray), .slice Ao21 y851.length co21]) ?_ 7 _ rfl; (with_reducible repeat (first | refine blk_drewN ?_ _ | refine blk_drew ?_ | refine blk_alloc ?_ _)); exact BK847.out) hg (Kd.R_away HO856.out (fun _ hk => hk.2))); have n3_ := Aside0.mk (hb); have n4_ := Aside0.mk (ho); clear BK845; clear BK846; clear BK847; clear HB; clear HO856; have BK845 := n0_; have BK846 := n1_; have BK847 := n2_; have HB := n3_; have HO859 := n4_; clear n0_ n1_ n2_ n3_ n4_; clear ho hb hg hat; obtain ⟨Ao29, co29, eo29⟩ := Kd.R_slice HO859.out; subst eo29; have hcz30_0 : w28.cell? ⟨gb847, 0, none⟩ = some (.string a0) := (blk_cell BK847.out 0).trans rfl; have hcz30_1 : w28.cell? ⟨gb847, 1, none⟩ = some (.int .i64 8) := (blk_cell BK847.out 1).trans rfl; have hcz30_2 : w28.cell? ⟨gb847, 2, none⟩ = some (.bool false) := (blk_cell BK847.out 2).trans rfl; have hcz30_3 : w28.cell? ⟨gb847, 3, none⟩ = some (.int .i64 0) := (blk_cell BK847.out 3).trans rfl; have hcz30_4 : w28.cell? ⟨gb847, 4, none⟩ = some (.int .u64 0) := (blk_cell BK847.out 4).trans rfl; have hcz30_5 : w28.cell? ⟨gb847, 5, none⟩ = some (.float .f64 0) := (blk_cell BK847.out 5).trans rfl; have hcz30_6 : w28.cell? ⟨gb847, 6, none⟩ = some (.string (⟨#[]⟩ : ByteArray)) := (blk_cell BK847.out 6).trans rfl; have hcz30_7 : w28.cell? ⟨gb847, 7, none⟩ = some (.slice Ao25 y854.length co25) := (blk_cell BK847.out 7).trans rfl; have hfz30_0 := blk_frozen BK847.out 0; have hfz30_1 := blk_frozen BK847.out 1; have hfz30_2 := blk_frozen BK847.out 2; have hfz30_3 := blk_frozen BK847.out 3; have hfz30_4 := blk_frozen BK847.out 4; have hfz30_5 := blk_frozen BK847.out 5; have hfz30_6 := blk_frozen BK847.out 6; have hfz30_7 := blk_frozen BK847.out 7; have hcz31_0 : w28.cell? ⟨gb845, 0, none⟩ = some (.string a1_0) := (blk_cell BK845.out 0).trans rfl; have hcz31_1 : w28.cell? ⟨gb845, 1, none⟩ = some (.string a1_1) := (blk_cell BK845.out 1).trans rfl; have hcz31_2 : w28.cell? ⟨gb845, 2, none⟩ = some (.int .i64 a1_2) := (blk_cell BK845.out 2).trans rfl; have hcz31_3 : w28.cell? ⟨gb845, 3, none⟩ = some (.int .i64 a1_3) := (blk_cell BK845.out 3).trans rfl; have hcz31_4 : w28.cell? ⟨gb845, 4, none⟩ = some (.int .i64 a1_4) := (blk_cell BK845.out 4).trans rfl; have hfz31_0 := blk_frozen BK845.out 0; have hfz31_1 := blk_frozen BK845.out 1; have hfz31_2 := blk_frozen BK845.out 2; have hfz31_3 := blk_frozen BK845.out 3; have hfz31_4 := blk_frozen BK845.out 4) | ((with_reducible refine gate_builtin (b := .append) (xs := #[.tmp 41, .tmp 45]) rfl ?_); at_builtin; refine Kd.R_append k43 (w0 := w) w.heap.size rfl (.tmp 41) (.tmp 45) 41 43 (.agg #[(.string ⟨#[]⟩), (.int .i64 0), (.bool false), (.int .i64 0), (.int .u64 0), (.float .f64 0), (.string ⟨#[]⟩), (.slice none 0 0)]) 96 rfl Tryz.underlying41 info43 rfl (by decide) (by omega) (.slice Ao29 y857.length co29) y857 (⟨(⟨#[80, 114, 105, 111, 114, 105, 116, 121]⟩ : ByteArray), 2, false, a1_4, 0, 0, (⟨#[]⟩ : ByteArray), ([] : List (S43))⟩ : S43) [.string (⟨#[80, 114, 105, 111, 114, 105, 116, 121]⟩ : ByteArray), .int .i64 2, .bool false, .int .i64 a1_4, .int .u64 0, .float .f64 0, .string (⟨#[]⟩ : ByteArray), .slice none 0 0] (fun k_ => k_ ≠ gb846 ∧ k_ ≠ gb847) (fun k_ => ((fun k_ => k_ ≠ gb846 ∧ k_ ≠ gb847)) k_ ∧ some k_ ≠ (.slice Ao29 y857.length co29 : Value).ownBlock) rfl (by first | (go_simp; done) | (go_simp; rfl)) ?aP (fun _ hk => hk) ?aF ?aO ?aB ?aS ?aL ?_; (case aP => exact k43_mkM _ _ _ (⟨(⟨#[80, 114, 105, 111, 114, 105, 116, 121]⟩ : ByteArray), 2, false, a1_4, 0, 0, (⟨#[]⟩ : ByteArray), ([] : List (S43))⟩ : S43) (Kd.R_nil _ _ _ _ _)); (case aB => exact (by repeat (first | (with_reducible first | exact HB.out | apply below_alloc | apply pw_below_drewN | apply below_drew1 | refine below_set ?_ GE845.out | refine below_set ?_ GE846.out | refine below_set ?_ GE847.out) | exact HB.out))); (case aF => exact (fun k_ hk => ⟨Kd.freshB (g := gb846) (o := .cells #[.string (⟨#[]⟩ : ByteArray), .int .i64 0, .bool false, .int .i64 0, .int .u64 0, .float .f64 0, .string (⟨#[]⟩ : ByteArray), .slice none 0 0] 43 (0, 0)) (by (with_reducible repeat (first | refine blk_drewN ?_ _ | refine blk_drew ?_ | refine blk_alloc ?_ _)); refine blk_far ?_ NB846_847.out _; (with_reducible repeat (first | refine blk_drewN ?_ _ | refine blk_drew ?_ | refine blk_alloc ?_ _)); exact BK846.out) k_ hk, Kd.freshB (g := gb847) (o := .cells #[.string a0, .int .i64 8, .bool false, .int .i64 0, .int .u64 0, .float .f64 0, .string (⟨#[]⟩ : ByteArray), .slice Ao29 y857.length co29] 43 (0, 0)) (by (with_reducible repeat (first | refine blk_drewN ?_ _ | refine blk_drew ?_ | refine blk_alloc ?_ _)); refine blk_put (cs := #[.string a0, .int .i64 8, .bool false, .int .i64 0, .int .u64 0, .float .f64 0, .string (⟨#[]⟩ : ByteArray), .slice Ao25 y854.length co25]) ?_ 7 _ rfl; (with_reducible repeat (first | refine blk_drewN ?_ _ | refine blk_drew ?_ | refine blk_alloc ?_ _)); exact BK847.out) k_ hk⟩)); (case aO => exact (by (with_reducible repeat (first | apply Kd.R_alloc | apply Kd.R_drewN | apply Kd.R_drew)); exact Kd.R_mono (Kd.R_far (p := ⟨gb847, 7, none⟩) (Kd.R_mono HO859.out (fun k_ hk => (⟨hk, hk.2⟩ : _ ∧ k_ ≠ gb847))) (fun _ hk => hk.2) (.slice Ao29 y857.length co29)) (fun _ hk => ⟨hk.1.1, hk.1.2⟩))); (case aS => exact (below_size (by repeat (first | (with_reducible first | exact HB.out | apply below_alloc | apply pw_below_drewN | apply below_drew1 | refine below_set ?_ GE845.out | refine below_set ?_ GE846.out | refine below_set ?_ GE847.out) | exact HB.out)))); (case aL => have := LMc7.out; omega); intro v861 w32 ho hb hg hat; rw [← Ny860.out] at ho; have n0_ := Aside0.mk (blk_grown (g := gb845) (o := .cells #[.string a1_0, .string a1_1, .int .i64 a1_2, .int .i64 a1_3, .int .i64 a1_4] 153 (0, 0)) (by (with_reducible repeat (first | refine blk_drewN ?_ _ | refine blk_drew ?_ | refine blk_alloc ?_ _)); refine blk_far ?_ NB845_847.out _; (with_reducible repeat (first | refine blk_drewN ?_ _ | refine blk_drew ?_ | refine blk_alloc ?_ _)); exact BK845.out) hg (Kd.R_ne HO859.out BK845.out (by decide))); have n1_ := Aside0.mk (blk_grown (g := gb846) (o := .cells #[.string (⟨#[]⟩ : ByteArray), .int .i64 0, .bool false, .int .i64 0, .int .u64 0, .float .f64 0, .string (⟨#[]⟩ : ByteArray), .slice none 0 0] 43 (0, 0)) (by (with_reducible repeat (first | refine blk_drewN ?_ _ | refine blk_drew ?_ | refine blk_alloc ?_ _)); refine blk_far ?_ NB846_847.out _; (with_reducible repeat (first | refine blk_drewN ?_ _ | refine blk_drew ?_ | refine blk_alloc ?_ _)); exact BK846.out) hg (Kd.R_away HO859.out (fun _ hk => hk.1))); have n2_ := Aside0.mk (blk_grown (g := gb847) (o := .cells #[.string a0, .int .i64 8, .bool false, .int .i64 0, .int .u64 0, .float .f64 0, .string (⟨#[]⟩ : ByteArray), .slice Ao29 y857.length co29] 43 (0, 0)) (by (with_reducible repeat (first | refine blk_drewN ?_ _ | refine blk_drew ?_ | refine blk_alloc ?_ _)); refine blk_put (cs := #[.string a0, .int .i64 8, .bool false, .int .i64 0, .int .u64 0, .float .f64 0, .string (⟨#[]⟩ : ByteArray), .slice Ao25 y854.length co25]) ?_ 7 _ rfl; (with_reducible repeat (first | refine blk_drewN ?_ _ | refine blk_drew ?_ | refine blk_alloc ?_ _)); exact BK847.out) hg (Kd.R_away HO859.out (fun _ hk => hk.2))); have n3_ := Aside0.mk (hb); have n4_ := Aside0.mk (ho); clear BK845; clear BK846; clear BK847; clear HB; clear HO859; have BK845 := n0_; have BK846 := n1_; have BK847 := n2_; have HB := n3_; have HO862 := n4_; clear n0_ n1_ n2_ n3_ n4_; clear ho hb hg hat; obtain ⟨Ao33, co33, eo33⟩ := Kd.R_slice HO862.out; subst eo33; have hcz34_0 : w32.cell? ⟨gb847, 0, none⟩ = some (.string a0) := (blk_cell BK847.out 0).trans rfl; have hcz34_1 : w32.cell? ⟨gb847, 1, none⟩ = some (.int .i64 8) := (blk_cell BK847.out 1).trans rfl; have hcz34_2 : w32.cell? ⟨gb847, 2, none⟩ = some (.bool false) := (blk_cell BK847.out 2).trans rfl; have hcz34_3 : w32.cell? ⟨gb847, 3, none⟩ = some (.int .i64 0) := (blk_cell BK847.out 3).trans rfl; have hcz34_4 : w32.cell? ⟨gb847, 4, none⟩ = some (.int .u64 0) := (blk_cell BK847.out 4).trans rfl; have hcz34_5 : w32.cell? ⟨gb847, 5, none⟩ = some (.float .f64 0) := (blk_cell BK847.out 5).trans rfl; have hcz34_6 : w32.cell? ⟨gb847, 6, none⟩ = some (.string (⟨#[]⟩ : ByteArray)) := (blk_cell BK847.out 6).trans rfl; have hcz34_7 : w32.cell? ⟨gb847, 7, none⟩ = some (.slice Ao29 y857.length co29) := (blk_cell BK847.out 7).trans rfl; have hfz34_0 := blk_frozen BK847.out 0; have hfz34_1 := blk_frozen BK847.out 1; have hfz34_2 := blk_frozen BK847.out 2; have hfz34_3 := blk_frozen BK847.out 3; have hfz34_4 := blk_frozen BK847.out 4; have hfz34_5 := blk_frozen BK847.out 5; have hfz34_6 := blk_frozen BK847.out 6; have hfz34_7 := blk_frozen BK847.out 7; have hcz35_0 : w32.cell? ⟨gb846, 0, none⟩ = some (.string (⟨#[]⟩ : ByteArray)) := (blk_cell BK846.out 0).trans rfl; have hcz35_1 : w32.cell? ⟨gb846, 1, none⟩ = some (.int .i64 0) := (blk_cell BK846.out 1).trans rfl; have hcz35_2 : w32.cell? ⟨gb846, 2, none⟩ = some (.bool false) := (blk_cell BK846.out 2).trans rfl; have hcz35_3 : w32.cell? ⟨gb846, 3, none⟩ = some (.int .i64 0) := (blk_cell BK846.out 3).trans rfl; have hcz35_4 : w32.cell? ⟨gb846, 4, none⟩ = some (.int .u64 0) := (blk_cell BK846.out 4).trans rfl; have hcz35_5 : w32.cell? ⟨gb846, 5, none⟩ = some (.float .f64 0) := (blk_cell BK846.out 5).trans rfl; have hcz35_6 : w32.cell? ⟨gb846, 6, none⟩ = some (.string (⟨#[]⟩ : ByteArray)) := (blk_cell BK846.out 6).trans rfl; have hcz35_7 : w32.cell? ⟨gb846, 7, none⟩ = some (.slice none 0 0) := (blk_cell BK846.out 7).trans rfl; have hfz35_0 := blk_frozen BK846.out 0; have hfz35_1 := blk_frozen BK846.out 1; have hfz35_2 := blk_frozen BK846.out 2; have hfz35_3 := blk_frozen BK846.out 3; have hfz35_4 := blk_frozen BK846.out 4; have hfz35_5 := blk_frozen BK846.out 5; have hfz35_6 := blk_frozen BK846.out 6; have hfz35_7 := blk_frozen BK846.out 7))
 refine bodyPost_ret (results_cell_row rfl _ _ gb846 43 #[.string a0, .int .i64 8, .bool false, .int .i64 0, .int .u64 0, .float .f64 0, .string (⟨#[]⟩ : ByteArray), .slice Ao33 y860.length co33] (0, 0) _ rfl (by (with_reducible repeat (first | refine blk_drewN ?_ _ | refine blk_drew ?_ | refine blk_alloc ?_ _)); refine blk_put (cs := #[.string a0, .int .i64 8, .bool false, .int .i64 0, .int .u64 0, .float .f64 0, .string (⟨#[]⟩ : ByteArray), .slice none 0 0]) ?_ 7 _ rfl; (with_reducible repeat (first | refine blk_drewN ?_ _ | refine blk_drew ?_ | refine blk_alloc ?_ _)); refine blk_put (cs := #[.string a0, .int .i64 8, .bool false, .int .i64 0, .int .u64 0, .float .f64 0, .string (⟨#[]⟩ : ByteArray), .slice none 0 0]) ?_ 6 _ rfl; (with_reducible repeat (first | refine blk_drewN ?_ _ | refine blk_drew ?_ | refine blk_alloc ?_ _)); refine blk_put (cs := #[.string a0, .int .i64 8, .bool false, .int .i64 0, .int .u64 0, .float .f64 0, .string (⟨#[]⟩ : ByteArray), .slice none 0 0]) ?_ 5 _ rfl; (with_reducible repeat (first | refine blk_drewN ?_ _ | refine blk_drew ?_ | refine blk_alloc ?_ _)); refine blk_put (cs := #[.string a0, .int .i64 8, .bool false, .int .i64 0, .int .u64 0, .float .f64 0, .string (⟨#[]⟩ : ByteArray), .slice none 0 0]) ?_ 4 _ rfl; (with_reducible repeat (first | refine blk_drewN ?_ _ | refine blk_drew ?_ | refine blk_alloc ?_ _)); refine blk_put (cs := #[.string a0, .int .i64 8, .bool false, .int .i64 0, .int .u64 0, .float .f64 0, .string (⟨#[]⟩ : ByteArray), .slice none 0 0]) ?_ 3 _ rfl; (with_reducible repeat (first | refine blk_drewN ?_ _ | refine blk_drew ?_ | refine blk_alloc ?_ _)); refine blk_put (cs := #[.string a0, .int .i64 8, .bool false, .int .i64 0, .int .u64 0, .float .f64 0, .string (⟨#[]⟩ : ByteArray), .slice none 0 0]) ?_ 2 _ rfl; (with_reducible repeat (first | refine blk_drewN ?_ _ | refine blk_drew ?_ | refine blk_alloc ?_ _)); refine blk_put (cs := #[.string a0, .int .i64 0, .bool false, .int .i64 0, .int .u64 0, .float .f64 0, .string (⟨#[]⟩ : ByteArray), .slice none 0 0]) ?_ 1 _ rfl; (with_reducible repeat (first | refine blk_drewN ?_ _ | refine blk_drew ?_ | refine blk_alloc ?_ _)); refine blk_put (cs := #[.string (⟨#[]⟩ : ByteArray), .int .i64 0, .bool false, .int .i64 0, .int .u64 0, .float .f64 0, .string (⟨#[]⟩ : ByteArray), .slice none 0 0]) ?_ 0 _ rfl; (with_reducible repeat (first | refine blk_drewN ?_ _ | refine blk_drew ?_ | refine blk_alloc ?_ _)); refine blk_far ?_ NB846_847.out _; (with_reducible repeat (first | refine blk_drewN ?_ _ | refine blk_drew ?_ | refine blk_alloc ?_ _)); exact BK846.out) Tryz.underlying43 rfl (by kernel_rfl)) rfl ?_
 exact ⟨_, by first | rfl | (simp [errW_none, errW_some] <;> rfl) | (simp [*, errW_none, errW_some] <;> rfl), by (with_reducible repeat (first | apply Kd.R_alloc | apply Kd.R_drewN | apply Kd.R_drew)); exact Kd.R_mono (Kd.R_far (p := ⟨gb846, 7, none⟩) (Kd.R_far (p := ⟨gb846, 6, none⟩) (Kd.R_far (p := ⟨gb846, 5, none⟩) (Kd.R_far (p := ⟨gb846, 4, none⟩) (Kd.R_far (p := ⟨gb846, 3, none⟩) (Kd.R_far (p := ⟨gb846, 2, none⟩) (Kd.R_far (p := ⟨gb846, 1, none⟩) (Kd.R_far (p := ⟨gb846, 0, none⟩) (Kd.R_far (p := ⟨gb847, 7, none⟩) (Kd.R_mono (Kd.R_mono HO862.out (fun k_ hk => (⟨hk, hk.2⟩ : _ ∧ k_ ≠ gb847))) (fun k_ hk => (⟨hk, hk.1.1⟩ : _ ∧ k_ ≠ gb846))) (fun _ hk => hk.1.2) (.slice Ao33 y860.length co33)) (fun _ hk => hk.2) (.string a0)) (fun _ hk => hk.2) (.int .i64 8)) (fun _ hk => hk.2) (.bool false)) (fun _ hk => hk.2) (.int .i64 0)) (fun _ hk => hk.2) (.int .u64 0)) (fun _ hk => hk.2) (.float .f64 0)) (fun _ hk => hk.2) (.string (⟨#[]⟩ : ByteArray))) (fun _ hk => hk.2) (.slice Ao33 y860.length co33)) (fun _ hk => trivial), by repeat (first | (with_reducible first | exact HB.out | apply below_alloc | apply pw_below_drewN | apply below_drew1 | refine below_set ?_ GE845.out | refine below_set ?_ GE846.out | refine below_set ?_ GE847.out) | exact HB.out)⟩
end Go.Proofs.YtednjmngalmdkaaGreatDoor.GPC
end
section
/- procfs.parseSwapString: what a line says; strconv.Atoi at every int. Conditions: swF; the tables as laid. -/
namespace Go.Proofs.YtednjmngalmdkaaGreatDoor.GPC
open Go Go.RowKit Go.Proofs.YtednjmngalmdkaaGreatDoorW.PrintWords Go.Proofs.YtednjmngalmdkaaGreatDoorW.PrintLast
set_option linter.unusedVariables false
set_option linter.unusedSimpArgs false
def atoiA (s : ByteArray) : Option Int := if s.size ≤ 1000000 then (match Lib.atoiAll s.data.toList with | .ok v => some v | _ => none) else none
theorem atoiA_call (s : ByteArray) (n : Int) (w : World) (h : atoiA s = some n) :
  Calls Tryz.prog 215 #[.string s] w fun e w' => e = .returned (.tuple #[.int .i64 n, .nilIface]) ∧ Below w.heap.size w w' := by
 unfold atoiA at h
 split at h
 ·rename_i hs
  split at h
  ·rename_i v hv
   obtain rfl := Option.some.inj h
   refine (Tryz.strconv_Atoi_ok s (by omega) v hv w).mono ?_
   rintro e w' ⟨rfl, h | ⟨t, rfl⟩⟩
   ·rw [h]; exact ⟨rfl, Below.refl _ _⟩
   ·exact ⟨rfl, Lib.bytesWorld_below w 5 t⟩
  ·cases h
 ·cases h
structure S153 where
 f0 : ByteArray
 f1 : ByteArray
 f2 : Int
 f3 : Int
 f4 : Int
def swF (t : ByteArray) : Option S153 := (strings_Fields.f t).bind fun fs => if 5 ≤ fs.length then
 (atoiA (rdOf ByteArray.empty fs 2)).bind fun a => (atoiA (rdOf ByteArray.empty fs 3)).bind fun b => (atoiA (rdOf ByteArray.empty fs 4)).bind fun c => some ⟨rdOf ByteArray.empty fs 0, rdOf ByteArray.empty fs 1, a, b, c⟩ else none
theorem swF_some {t : ByteArray} {m : S153} (h : swF t = some m) : ∃ fs, strings_Fields.f t = some fs ∧ 5 ≤ fs.length ∧ m.f0 = rdOf ByteArray.empty fs 0 ∧ m.f1 = rdOf ByteArray.empty fs 1 ∧ atoiA (rdOf ByteArray.empty fs 2) = some m.f2 ∧ atoiA (rdOf ByteArray.empty fs 3) = some m.f3 ∧ atoiA (rdOf ByteArray.empty fs 4) = some m.f4 := by
 unfold swF at h
 obtain ⟨fs, h1, h⟩ := Option.bind_eq_some_iff.1 h
 split at h
 ·rename_i h5
  obtain ⟨a, ha, h⟩ := Option.bind_eq_some_iff.1 h
  obtain ⟨b, hb, h⟩ := Option.bind_eq_some_iff.1 h
  obtain ⟨c, hc, h⟩ := Option.bind_eq_some_iff.1 h
  obtain rfl := Option.some.inj h
  exact ⟨fs, h1, h5, rfl, rfl, ha, hb, hc⟩
 ·cases h
def swCells (m : S153) : Array Value := #[.string m.f0, .string m.f1, .int .i64 m.f2, .int .i64 m.f3, .int .i64 m.f4]
def swObj (m : S153) : Obj := .cells (swCells m) 153 (0, 0)
set_option maxHeartbeats 8000000 in
set_option maxRecDepth 100000 in
theorem swStr (t : ByteArray) (m : S153) (w : World) (hT : TabW w) (h : swF t = some m) :
  Calls Tryz.prog 200 #[.string t] w fun e w' => ∃ g, e = .returned (.tuple #[.pointer (some ⟨g, 0, none⟩), .nilIface]) ∧ w.heap.size ≤ g ∧ w'.heap[g]? = some (swObj m) ∧ Below w.heap.size w w' := by
 obtain ⟨fs, hfs, h5, e0, e1, ha, hb, hc⟩ := swF_some h
 obtain ⟨m0, m1, a, b, c⟩ := m
 simp only at e0 e1 ha hb hc
 obtain ⟨s0, hs0⟩ : ∃ s, s = rdOf ByteArray.empty fs 0 := ⟨_, rfl⟩
 obtain ⟨s1, hs1⟩ : ∃ s, s = rdOf ByteArray.empty fs 1 := ⟨_, rfl⟩
 obtain ⟨s2, hs2⟩ : ∃ s, s = rdOf ByteArray.empty fs 2 := ⟨_, rfl⟩
 obtain ⟨s3, hs3⟩ : ∃ s, s = rdOf ByteArray.empty fs 3 := ⟨_, rfl⟩
 obtain ⟨s4, hs4⟩ : ∃ s, s = rdOf ByteArray.empty fs 4 := ⟨_, rfl⟩
 rw [← hs0] at e0
 rw [← hs1] at e1
 rw [← hs2] at ha
 rw [← hs3] at hb
 rw [← hs4] at hc
 have S0 := Aside0.mk hs0
 have S1 := Aside0.mk hs1
 have S2 := Aside0.mk hs2
 have S3 := Aside0.mk hs3
 have S4 := Aside0.mk hs4
 have HT := Aside0.mk hT
 have HPS := Aside0.mk hfs
 have H5 := Aside0.mk h5
 have E0 := Aside0.mk e0
 have E1 := Aside0.mk e1
 have HA := Aside0.mk ha
 have HB := Aside0.mk hb
 have HC := Aside0.mk hc
 have d5 : decide ((fs.length : Int) < 5) = false := decide_eq_false (by omega)
 have d5' : decide (fs.length < 5) = false := decide_eq_false (by omega)
 have z0 : ((0 : Int) < (fs.length : Int)) = True := eq_true (by omega)
 have k0 : (0 < fs.length) = True := eq_true (by omega)
 have z1 : ((1 : Int) < (fs.length : Int)) = True := eq_true (by omega)
 have k1 : (1 < fs.length) = True := eq_true (by omega)
 have z2 : ((2 : Int) < (fs.length : Int)) = True := eq_true (by omega)
 have k2 : (2 < fs.length) = True := eq_true (by omega)
 have z3 : ((3 : Int) < (fs.length : Int)) = True := eq_true (by omega)
 have k3 : (3 < fs.length) = True := eq_true (by omega)
 have z4 : ((4 : Int) < (fs.length : Int)) = True := eq_true (by omega)
 have k4 : (4 < fs.length) = True := eq_true (by omega)
 clear hT h hfs h5 e0 e1 ha hb hc hs0 hs1 hs2 hs3 hs4
 go_enter Tryz.func200, Tryz.ntmps200
 go_wp2_with (first
  | (go_at_call 190; refine (strings_Fields.calls t fs _ HT.out HPS.out).mono ?_; rintro e w0 ⟨v0, rfl, hf, hb1⟩; obtain ⟨gs, cap, rfl, hgs1, hgs2, cells, hcells⟩ := Kd.R_form hf (by have := H5.out; omega); have HFS0 := Aside0.mk hf; have HB0 := Aside0.mk hb1; have HGS := Aside0.mk hgs2; have c0 : w0.cell? ⟨gs, 0, none⟩ = some (.string s0) := by { rw [S0.out]; exact (Kd.R_cell ByteArray.empty hf 0 (by omega) (by have := H5.out; omega)).1 }; have c1 : w0.cell? ⟨gs, 1, none⟩ = some (.string s1) := by { rw [S1.out]; exact (Kd.R_cell ByteArray.empty hf 1 (by omega) (by have := H5.out; omega)).1 }; clear hf hb1 hcells hgs1 hgs2))
 go_still_tail 7, (by kernel_rfl)
 have HB1 := Aside0.mk (below_drew HB0.out)
 have HFS := Aside0.mk (Kd.R_drew HFS0.out)
 have hgs := HGS.out
 have hsz : w0.drew.heap.size = w0.heap.size := rfl
 rw [← hsz] at hgs
 clear HB0 HFS0 HGS hsz
 have c0' : w0.drew.cell? ⟨gs, 0, none⟩ = some (.string s0) := c0
 have c1' : w0.drew.cell? ⟨gs, 1, none⟩ = some (.string s1) := c1
 clear c0 c1
 change wpList _ _ _ _ _ w0.drew
 generalize w0.drew = w1 at HB1 HFS hgs c0' c1' ⊢
 have c2 : w1.cell? ⟨gs, 2, none⟩ = some (.string s2) := by { rw [S2.out]; exact (Kd.R_cell ByteArray.empty HFS.out 2 (by omega) (by have := H5.out; omega)).1 }
 have hne1 : (gs = w1.heap.size) = False := eq_false (by omega)
 have hne2 : (w1.heap.size = gs) = False := eq_false (by omega)
 have c2' : ∀ o, (w1.alloc o).cell? ⟨gs, 2, none⟩ = some (.string s2) := fun o => ((below_alloc (Below.refl w1.heap.size w1) o).cell (p := ⟨gs, 2, none⟩) hgs).trans c2
 clear hgs
 go_wp2_with (first
  | (go_at_call 215; (with_reducible refine (atoiA_call _ a _ HA.out).mono ?_); rintro e w2 ⟨rfl, hb2⟩; have HB2 := Aside0.mk (below_step (below_alloc HB1.out (.cells #[.string s0, .string s1, .int .i64 0, .int .i64 0, .int .i64 0] 153 (0, 0))) hb2); have HFS2 := Aside0.mk (Kd.R_below HFS.out (below_step (below_alloc (Below.refl w1.heap.size w1) (.cells #[.string s0, .string s1, .int .i64 0, .int .i64 0, .int .i64 0] 153 (0, 0))) hb2)); have HBK2 := Aside0.mk (blk_below (heap_alloc_new w1 (.cells #[.string s0, .string s1, .int .i64 0, .int .i64 0, .int .i64 0] 153 (0, 0))) hb2); clear hb2; have hfz := blk_frozen HBK2.out 2; have hcg : w2.cell? ⟨w1.heap.size, 2, none⟩ = some (.int .i64 0) := (blk_cell HBK2.out 2).trans rfl; have c3 : w2.cell? ⟨gs, 3, none⟩ = some (.string s3) := by { rw [S3.out]; exact (Kd.R_cell ByteArray.empty HFS2.out 3 (by omega) (by have := H5.out; omega)).1 })
  | (go_at_call 215; (with_reducible refine (atoiA_call _ b _ HB.out).mono ?_); rintro e w3 ⟨rfl, hb2⟩; have HBS2 := Aside0.mk (below_set HB2.out (g := w1.heap.size) (j := 2) (v := .int .i64 a) (by have := HB1.out.size; omega)); have HB3 := Aside0.mk (below_step HBS2.out hb2); have HFS3 := Aside0.mk (Kd.R_below (Kd.R_set HFS2.out HBK2.out (by decide) 2 (.int .i64 a)) hb2); have HBK3 := Aside0.mk (blk_below (blk_put HBK2.out (cs' := #[.string s0, .string s1, .int .i64 a, .int .i64 0, .int .i64 0]) 2 (.int .i64 a) rfl) hb2); clear hb2; have hfz3 := blk_frozen HBK3.out 3; have hcg3 : w3.cell? ⟨w1.heap.size, 3, none⟩ = some (.int .i64 0) := (blk_cell HBK3.out 3).trans rfl; have c4 : w3.cell? ⟨gs, 4, none⟩ = some (.string s4) := by { rw [S4.out]; exact (Kd.R_cell ByteArray.empty HFS3.out 4 (by omega) (by have := H5.out; omega)).1 })
  | (go_at_call 215; (with_reducible refine (atoiA_call _ c _ HC.out).mono ?_); rintro e w4 ⟨rfl, hb2⟩; have HBS3 := Aside0.mk (below_set HB3.out (g := w1.heap.size) (j := 3) (v := .int .i64 b) (by have := HB1.out.size; omega)); have HB4 := Aside0.mk (below_step HBS3.out hb2); have HFS4 := Aside0.mk (Kd.R_below (Kd.R_set HFS3.out HBK3.out (by decide) 3 (.int .i64 b)) hb2); have HBK4 := Aside0.mk (blk_below (blk_put HBK3.out (cs' := #[.string s0, .string s1, .int .i64 a, .int .i64 b, .int .i64 0]) 3 (.int .i64 b) rfl) hb2); clear hb2; have hfz4 := blk_frozen HBK4.out 4; have hcg4 : w4.cell? ⟨w1.heap.size, 4, none⟩ = some (.int .i64 0) := (blk_cell HBK4.out 4).trans rfl))
 go_ret2
 have hfin := blk_put HBK4.out (cs' := #[.string s0, .string s1, .int .i64 a, .int .i64 b, .int .i64 c]) 4 (.int .i64 c) rfl
 have hbf := below_set HB4.out (g := w1.heap.size) (j := 4) (v := .int .i64 c) (by have := HB1.out.size; omega)
 rw [E0.out, E1.out]
 exact ⟨_, rfl, HB1.out.size, hfin, hbf⟩
end Go.Proofs.YtednjmngalmdkaaGreatDoor.GPC
end
section
/- procfs.parseSwaps: the rows that a text says, line by line, behind its head. Conditions: rowsF; the tables as laid. -/
namespace Go.Proofs.YtednjmngalmdkaaGreatDoor.GPC
open Go Go.RowKit Go.Proofs.YtednjmngalmdkaaGreatDoorW.PrintWords Go.Proofs.YtednjmngalmdkaaGreatDoorW.PrintLast
set_option linter.unusedVariables false
set_option linter.unusedSimpArgs false
def kpSw : Kd S153 where
 sz := 1
 E := [153]
 K := fun w x cs => ∃ b, cs = [.pointer (some ⟨b, 0, none⟩)] ∧ w.heap[b]? = some (swObj x)
 M := fun w base ok x cs => ∃ b, cs = [.pointer (some ⟨b, 0, none⟩)] ∧ w.heap[b]? = some (swObj x) ∧ base ≤ b ∧ ok b
 K_len := by rintro w x cs ⟨b, rfl, _⟩; rfl
 K_one := by rintro w x cs ⟨b, rfl, _⟩ u hu; simp at hu; subst hu; rfl
 K_below := by rintro w w1 x cs hb ⟨b, rfl, h⟩; exact ⟨b, rfl, blk_below h hb⟩
 K_of_M := by rintro w base ok x cs ⟨b, rfl, h, _⟩; exact ⟨b, rfl, h⟩
 M_mono := by rintro w base ok ok' x cs ho ⟨b, rfl, h, h1, h2⟩; exact ⟨b, rfl, h, h1, ho _ h2⟩
 M_bound := by rintro w base ok x cs ⟨b, rfl, h, h1, h2⟩; exact ⟨b, rfl, h, h1, h2, h1, blk_lt h, 153, by simp, _, h⟩
 M_move := by rintro w w1 base ok x cs hm ⟨b, rfl, h, h1, h2⟩; exact ⟨b, rfl, (hm b h2).trans h, h1, h2⟩
 M_lower := by rintro w base base' ok x cs hb ⟨b, rfl, h, h1, h2⟩; exact ⟨b, rfl, h, Nat.le_trans hb h1, h2⟩
def swL (t : ByteArray) : Option (Option S153) := (swF t).map some
theorem infoPSw : (Tryz.prog.info? 150).map (fun i => (i.zero, i.size, i.bytes)) = some (some (.pointer none), 1, 8) := by kernel_rfl
set_option maxHeartbeats 8000000 in
set_option maxRecDepth 100000 in
theorem swParse (k : Nat) (A0 : Option Addr) (c0 : Nat) (l0 : List Int) (t0 : ByteArray) (ms : List S153) (w : World) (hr0 : Kd.C (Kd.int .u8) w A0 l0.length l0) (hc0 : l0.length ≤ c0) (hT : TabW w) (hh : headF (strOfNums l0) = some t0) (h : rowsF swL k t0 = some ms) :
  Calls Tryz.prog 187 #[.slice A0 l0.length c0] w fun e w' => ∃ v, e = .returned (.tuple #[v, .nilIface]) ∧ kpSw.R 150 w' w.heap.size (fun _ => True) v ms ∧ Below w.heap.size w w' := by
 obtain ⟨hne, hok, rfl⟩ : ¬ (strOfNums l0).size = 0 ∧ LineOk (strOfNums l0) ∧ GL.restOf (strOfNums l0) = t0 := by
  unfold headF at hh
  split at hh
  ·cases hh
  ·rename_i h0
   split at hh
   ·rename_i h1; exact ⟨h0, h1, Option.some.inj hh⟩
   ·cases hh
 have hcv0 := fun W (hb : Below w.heap.size w W) => Kd.C_string (P := Tryz.prog) (A := A0) (c := c0) Tryz.underlying173 Tryz.underlying5 Tryz.underlying56 (Kd.C_below hr0 hb)
 have HCV := Aside0.mk hcv0
 have HNE := Aside0.mk hne
 have HOK0 := Aside0.mk hok
 have HT := Aside0.mk hT
 have HSZ := Aside0.mk (rowsF_size h)
 have H := Aside0.mk h
 have HBI := Aside0.mk (Below.refl w.heap.size w)
 clear hr0 hT h hne hok hh hcv0
 generalize strOfNums l0 = text at HCV H HSZ HNE HOK0
 go_enter Tryz.func187, Tryz.ntmps187
 go_wp2_with (first
  | ((with_reducible refine gate_dst (N := 10) rfl ?_); refine Kd.R_lit kpSw (w0 := w) w.heap.size 150 ?hg (N := 10) ?hd (xs := ([] : List S153)) (inner := []) (ok := fun _ => True) (okp := fun _ => False) ?hr ?hp (fun _ hk => hk.elim) trivial HBI.out HBI.out.size (by simp) ?_; (case hd => rfl); (case hg => rfl); (case hr => first | (go_simp; done) | (go_simp; rfl)); (case hp => exact Reps.none _ _); intro v1 wl ho hb hg_ _; have HOL := Aside0.mk ho; have HBL := Aside0.mk hb; have hcv := HCV.out wl hb; clear ho hb hg_)
  | (go_at_call 154; refine (GL.lines_new text _).mono ?_; rintro e w1 ⟨g, rfl, hg1, hg2, hb1⟩; have HB0 := Aside0.mk (below_step HBL.out hb1); have HO0 := Aside0.mk (Kd.R_below HOL.out hb1); have HG0 := Aside0.mk hg2; have HG1 := Aside0.mk (show w.heap.size ≤ g from Nat.le_trans HBL.out.size hg1); clear hg1 hg2 hb1)
  | (go_at_call 155; refine (GL.lines_scan g text _ _ HG0.out (by have := HNE.out; omega) (by have := HOK0.out.1; omega) HOK0.out.2.1 HOK0.out.2.2).mono ?_; rintro e w2 ⟨rfl, hg3, hgr3⟩; have HB := Aside0.mk (pw_below_grown HB0.out (some g) HB0.out.size hgr3 (fun k e => by cases e; exact HG1.out)); have HO := Aside0.mk (Kd.R_mono (Kd.R_grown (Kd.R_types HO0.out HG0.out (by decide)) hgr3 (fun k hk e => hk.2 (by cases e; rfl))) (fun _ _ => trivial) : kpSw.R 150 w2 w.heap.size (fun _ => True) v1 []); have HG := Aside0.mk hg3; clear hg3 hgr3))
 go_loopg [4] k (fun kq v4 w' => ∃ (t line : ByteArray) (rest done : List S153), Aside0 (rowsF swL kq t = some rest) ∧ Aside0 (done ++ rest = ms) ∧ Aside0 (t.size = 0 ∨ done.length + t.size ≤ 1000000) ∧
  Aside0 (w'.heap[g]? = some (GL.linesCells t line)) ∧ Aside0 (kpSw.R 150 w' w.heap.size (fun _ => True) v4 done) ∧ Aside0 (Below w.heap.size w w'))
 case atStart => exact ⟨_, _, ms, [], H, ⟨rfl⟩, ⟨by simpa using HSZ.out⟩, HG, HO, HB⟩
 case round =>
  clear H HSZ HG HB HG0 HB0 HO HO0 HOL HBL HBI hcv HCV
  obtain ⟨t, line, rest, done, H, HD, HS, HG, HO, HB⟩ := hrel
  cases gk with
  | zero => exact absurd H.out (by simp [rowsF])
  | succ k1 =>
   by_cases ht : t.size = 0
   ·have h := H.out
    clear H
    unfold rowsF at h
    rw [if_pos ht] at h
    obtain rfl := Option.some.inj h
    obtain rfl := GL.size0 ht
    clear h ht
    go_wp2_with (first
     | (go_at_call 155; refine (GL.lines_scan_end g line _ HG.out).mono ?_; rintro e w3 ⟨rfl, hg3, hgr3⟩)
     | (go_at_call 193; refine (GL.lines_err g _ _ _ hg3).mono ?_; rintro e w4 ⟨rfl, rfl⟩))
    go_ret2
    refine ⟨_, rfl, ?_, ?_⟩
    ·have := HD.out
     rw [List.append_nil] at this
     rw [← this]
     exact Kd.R_mono (Kd.R_grown (Kd.R_types HO.out HG.out (by decide)) hgr3 (fun k hk e => hk.2 (by cases e; rfl))) (fun _ _ => trivial)
    ·exact pw_below_grown HB.out (some g) HB.out.size hgr3 (fun k e => by cases e; exact HG1.out)
   ·obtain ⟨hok, m0, ms', hm, hms, hre⟩ := rowsF_step H.out ht
    obtain ⟨m, hm2, e2⟩ := Option.map_eq_some_iff.1 hm
    cases e2
    have HT2 := Aside0.mk ht
    have HOK := Aside0.mk hok
    have HMS := Aside0.mk hms
    have HRE := Aside0.mk hre
    have HM := Aside0.mk hm2
    clear H ht hok hms hre hm hm2
    go_wp2_with (first
     | (go_at_call 155; refine (GL.lines_scan g t line _ HG.out (by have := HT2.out; omega) (by have := HOK.out.1; omega) HOK.out.2.1 HOK.out.2.2).mono ?_; rintro e w3 ⟨rfl, hg3, hgr3⟩; have HO3 := Aside0.mk (Kd.R_mono (Kd.R_grown (Kd.R_types HO.out HG.out (by decide)) hgr3 (fun k hk e => hk.2 (by cases e; rfl))) (fun _ _ => trivial) : kpSw.R 150 w3 w.heap.size (fun _ => True) _ done); have HB3 := Aside0.mk (pw_below_grown HB.out (some g) HB.out.size hgr3 (fun k e => by cases e; exact HG1.out)); have HG3 := Aside0.mk hg3; clear hg3 hgr3)
     | (go_at_call 157; refine (GL.lines_text g _ _ _ HG3.out).mono ?_; rintro e w3' ⟨rfl, rfl⟩)
     | (go_at_call 200; refine (swStr _ m _ (tabW_below HT.out HB3.out) HM.out).mono ?_; rintro e w6 ⟨p, rfl, hp1, hp2, hb6⟩; have HP1 := Aside0.mk (show w.heap.size ≤ p from Nat.le_trans HB3.out.size hp1); have HP2 := Aside0.mk hp2; have HO6 := Aside0.mk (Kd.R_below HO3.out hb6); have HNE6 := Aside0.mk (show some p ≠ u4.ownBlock from fun e => by have h1 := Kd.R_lt HO3.out p e.symm; omega); have HX6 := Aside0.mk (below_step HB3.out hb6); have HG6 := Aside0.mk (blk_below HG3.out hb6); clear hb6 hp1 hp2)
     | ((with_reducible refine gate_builtin (b := .append) (xs := #[.tmp 28, .tmp 30]) rfl ?_); at_builtin; refine Kd.R_append kpSw (w0 := w) w.heap.size rfl (.tmp 28) (.tmp 30) 147 150 (.pointer none) 8 rfl Tryz.underlying147 infoPSw rfl (by decide) (by omega) u4 done m [.pointer (some ⟨p, 0, none⟩)] (fun _ => True) (fun k => k = p) rfl (by first | (go_simp; done) | (go_simp; rfl)) ⟨p, rfl, HP2.out, HP1.out, rfl⟩ (fun k hk => ⟨trivial, by rw [hk]; exact HNE6.out⟩) (fun _ _ => trivial) HO6.out HX6.out HX6.out.size (by have := HS.out; have := HT2.out; omega) ?_; intro v11 w11 ho hb hg _; have HO11 := Aside0.mk ho; have HB11 := Aside0.mk hb; have HG11 := Aside0.mk (blk_grown HG6.out hg (Kd.R_ne HO6.out HG6.out (by decide))); clear ho hb hg))
    go_roundg k1
    case measure => omega
    case rel =>
     exact ⟨GL.restOf t, GL.lineOf t, ms', done ++ [m], HMS, ⟨by have := HD.out; rw [HRE.out] at this; rw [← this]; simp⟩, ⟨by have := restOf_size t (by have := HT2.out; omega); have := HS.out; have := HT2.out; simp; omega⟩, HG11, HO11, HB11⟩
end Go.Proofs.YtednjmngalmdkaaGreatDoor.GPC
end
section
/- (FS).Swaps: the text read and parsed. Conditions: swTextF; the tables as laid. -/
namespace Go.Proofs.YtednjmngalmdkaaGreatDoor.GPC
open Go Go.RowKit Go.Proofs.YtednjmngalmdkaaGreatDoorW.PrintWords Go.Proofs.YtednjmngalmdkaaGreatDoorW.PrintLast
set_option linter.unusedVariables false
set_option linter.unusedSimpArgs false
def swTextF (k : Nat) (text : ByteArray) : Option (List S153 × Option Int) := (texts_Read.f text).bind fun r => if r.2 = none then (headF (strOfNums r.1)).bind fun t0 => (rowsF swL k t0).map fun x => (x, none) else none
set_option maxHeartbeats 8000000 in
set_option maxRecDepth 100000 in
theorem fsSwaps (k : Nat) (text : ByteArray) (r : List S153) (w : World) (hT : TabW w) (h : swTextF k text = some (r, none)) :
  Calls Tryz.prog 123 #[.agg #[.string text]] w fun e w' => ∃ v, e = .returned (.tuple #[v, .nilIface]) ∧ kpSw.R 150 w' w.heap.size (fun _ => True) v r ∧ Below w.heap.size w w' := by
 unfold swTextF at h
 obtain ⟨⟨bs, er⟩, hrd, h⟩ := Option.bind_eq_some_iff.1 h
 split at h
 ·rename_i he
  simp only at he
  subst he
  obtain ⟨t0, hh, h⟩ := Option.bind_eq_some_iff.1 h
  obtain ⟨x, hx, e⟩ := Option.map_eq_some_iff.1 h
  cases e
  have HH := Aside0.mk hh
  have HT := Aside0.mk hT
  have HRD := Aside0.mk hrd
  have HL := Aside0.mk hx
  have HW0 := Aside0.mk (show Below w.heap.size w ((w.alloc (Obj.cells #[Value.string text] 58 (0,0))).alloc (Obj.cells #[Value.string ⟨#[115, 119, 97, 112, 115]⟩] 9 (0,0))) from below_alloc (below_alloc (Below.refl _ _) _) _)
  clear hT hrd h hx hh
  go_enter Tryz.func123, Tryz.ntmps123
  go_wp2_with (first
   | (go_at_call 139; go_in)
   | (go_at_call 140; refine (texts_Read.calls text bs none _ HRD.out).mono ?_; rintro e w1 ⟨v0, rfl, hv, hb⟩; simp only [errW_none]; obtain ⟨Ab, cb, rfl, hlb, hFb⟩ := hv; have HW1 := Aside0.mk (below_then HW0.out HW0.out.size hb); have HF := Aside0.mk (Kd.F_now hFb); have HLB := Aside0.mk hlb; clear hb hFb hlb)
   | (go_at_call 187; refine (swParse k Ab cb bs t0 r _ HF.out HLB.out (tabW_below HT.out HW1.out) HH.out HL.out).mono ?_; rintro e w2 ⟨v, rfl, hR, hb2⟩; have HR := Aside0.mk (Kd.R_lower hR HW1.out.size); have HB2 := Aside0.mk (below_then HW1.out HW1.out.size hb2); clear hR hb2))
  go_ret2
  exact ⟨v, rfl, HR.out, HB2.out⟩
 ·cases h
end Go.Proofs.YtednjmngalmdkaaGreatDoor.GPC
end
