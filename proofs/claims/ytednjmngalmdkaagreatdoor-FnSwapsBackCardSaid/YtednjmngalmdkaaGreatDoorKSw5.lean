/- Texts of this claim, put together: GivenSwN, GivenSwT, BackSwaps, LwSwaps, PlNode, PlBase, PlFit, PlFlt, PlNums, PlLines, PlGen, GivenUp, PlHex, PlAtoi, PlWords, PlBud6, PlSwaps. Conditions: as each one says. -/
import Derived.Test.YtednjmngalmdkaaGreatDoorKSw0
import Derived.Test.YtednjmngalmdkaaGreatDoorKSw1
import Derived.Test.YtednjmngalmdkaaGreatDoorKSw2
import Derived.Test.YtednjmngalmdkaaGreatDoorKSw3
import Derived.Test.YtednjmngalmdkaaGreatDoorKSw4
import Derived.Defers
import Derived.Recover
import Derived.Deep.RegionHeld3
import Derived.Test.YtednjmngalmdkaaGreatDoorProg
import Derived.Lib.Strings
import Derived.Lib.Walk
import Derived.Lib.ConvBytes
import Derived.Lib.Hide
import Derived.Laws.Strings3
import Derived.Laws.Closers25
import Derived.Laws.Closers25b
import Derived.Lib.AtoiAllMem
import Derived.Lib.AtoiErrMem
import Derived.WalkKit
import Derived.BigCall
import Derived.BigGuard
import Derived.Laws.FloatArith
import Derived.StillTailTactics
import Derived.Below
import Derived.Deep.Draws
import Derived.Deep.AppendLies
import Derived.Maps.AppendAt
import Derived.OwnWalk
import Derived.Laws.BytesArg
import Derived.Laws.MakeOwn
import Derived.Laws.OwnMore
import Derived.Deep.OwnRows
import Derived.Tactics
import Derived.Laws.Slices
import Derived.KernelRfl
import Derived.RowKit3
import Derived.Deep.LoopGhost
import Derived.Deep.QuietTactic
import Derived.BigQuiet
import Derived.WideLaws
import Derived.Deep.DeepCutAuto
import Derived.Deep.CutBlock
import Derived.Laws.Rows
import Derived.Lib.AppendStr
import Derived.ArgAppend
import Derived.Laws.IdiomCopy
import Derived.OrdersHeld
import Derived.Laws.BitsLemmas
import Derived.RowKit
import Derived.Lib.ItoaNum
import Derived.Lib.Atoi
section
/- impl.pointer[Swap], impl.list[*Swap], the functions of impl.Swaps: the node of swaps. Conditions: what the plain functions answer. -/
namespace Go.Proofs.YtednjmngalmdkaaGreatDoor.GPC
open Go.RowKit Go.Proofs.YtednjmngalmdkaaGreatDoorW.PrintWords Go.Proofs.YtednjmngalmdkaaGreatDoorW.PrintLast Go.Proofs.YtednjmngalmdkaaGreatDoorW.PrintMore
attribute [local go_sem] max2_int min2_int max_two min_two max_three min_three max_four min_four
set_option linter.unusedVariables false
set_option linter.unusedSimpArgs false
attribute [local go_sem] run_store_float
def swNode (m : S153) : Option S43 := (impl_procfsSwap.f ⟨#[]⟩ m.f0 m.f1 m.f2 m.f3 m.f4).map fun r => ⟨r.1, r.2.1, r.2.2.1, r.2.2.2.1, r.2.2.2.2.1, r.2.2.2.2.2.1, r.2.2.2.2.2.2.1, r.2.2.2.2.2.2.2⟩
theorem sw_node (m : S153) (n : S43) (w : World) (h : swNode m = some n) : Calls Tryz.prog 128 #[.string ⟨#[]⟩, .agg #[.string m.f0, .string m.f1, .int .i64 m.f2, .int .i64 m.f3, .int .i64 m.f4]] w fun e w' => ∃ v7, e = .returned (nodeVal n v7) ∧ KidsV n w w' v7 ∧ Below w.heap.size w w' := by
 unfold swNode at h
 obtain ⟨⟨r1, r2, r3, r4, r5, r6, r7, r8⟩, hr, rfl⟩ := Option.map_eq_some_iff.1 h
 refine (impl_procfsSwap.calls ⟨#[]⟩ m.f0 m.f1 m.f2 m.f3 m.f4 r1 r2 r3 r4 r5 r6 r7 r8 w hr).mono ?_
 rintro e w' ⟨v7, rfl, ho, hb⟩
 exact ⟨v7, rfl, ho, hb⟩
set_option maxHeartbeats 8000000 in
set_option maxRecDepth 100000 in
theorem ptrSw (g : Nat) (m : S153) (n : S43) (w : World) (hg : w.heap[g]? = some (swObj m)) (h : swNode m = some n) :
  Calls Tryz.prog 127 #[.string ⟨#[]⟩, .pointer (some ⟨g, 0, none⟩), .func (.func 128) #[] #[]] w fun e w' => ∃ v7, e = .returned (nodeVal n v7) ∧ KidsV n w w' v7 ∧ Below w.heap.size w w' := by
 have HN := Aside0.mk h
 have HG := Aside0.mk hg
 clear h hg
 go_enter Tryz.func127, Tryz.ntmps127
 go_wp2_with (first
   | ((with_reducible refine gate_dst (N := 6) rfl ?_); refine box_event ?hg (N := 6) ?hd (cs := nodeZero) (t := 43) ?hr ?_; (case hd => rfl); (case hg => rfl); (case hr => first | (go_simp; done) | (go_simp; rfl)); intro gb hgb w1 hbox hb1; have HBX := Aside0.mk hbox; have HB1 := Aside0.mk hb1; have HGB := Aside0.mk hgb; have hG1 := blk_below HG.out hb1; have h0 : w1.cell? ⟨g, 0, none⟩ = some (.string m.f0) := (blk_cell hG1 0).trans rfl; have h1 : w1.cell? ⟨g, 1, none⟩ = some (.string m.f1) := (blk_cell hG1 1).trans rfl; have h2 : w1.cell? ⟨g, 2, none⟩ = some (.int .i64 m.f2) := (blk_cell hG1 2).trans rfl; have h3 : w1.cell? ⟨g, 3, none⟩ = some (.int .i64 m.f3) := (blk_cell hG1 3).trans rfl; have h4 : w1.cell? ⟨g, 4, none⟩ = some (.int .i64 m.f4) := (blk_cell hG1 4).trans rfl; clear hgb hbox hb1 hG1)
   | (go_at_call 128; refine (sw_node m n _ HN.out).mono ?_; rintro e w2 ⟨v7, rfl, ho, hb⟩; have HK := Aside0.mk ho; have HBX2 := Aside0.mk (blk_below HBX.out hb); have HLT := Aside0.mk (show gb < w1.heap.size from blk_lt HBX.out); have HB2 := Aside0.mk (below_then HB1.out HB1.out.size hb); clear ho hb)
   | ((with_reducible refine gate_ (.store 43 (.tmp 6) (.tmp 16)) rfl ?_); refine box_store rfl rfl 43 (.tmp 6) (.tmp 16) rfl gb 43 nodeZero (nodeVal n v7) (nodeCells n v7) rfl rfl rfl node_size (node_one HK.out.slice) HBX2.out rfl ?_; intro W' hbk hgr))
 refine bodyPost_ret (results_cell_row rfl _ _ gb 43 _ (0, 0) _ rfl hbk Tryz.underlying43 rfl node_size) rfl ?_
 refine ⟨v7, rfl, (HK.out.grown hgr HLT.out).lower HB1.out.size, pw_below_grown HB2.out (some gb) HB2.out.size hgr (fun k e => by cases e; rw [HGB.out]; exact Nat.le_refl _)⟩
set_option maxHeartbeats 8000000 in
set_option maxRecDepth 100000 in
theorem swFn (g : Nat) (m : S153) (n : S43) (w : World) (hg : w.heap[g]? = some (swObj m)) (h : swNode m = some n) :
  Calls Tryz.prog 126 #[.pointer (some ⟨g, 0, none⟩)] w fun e w' => ∃ v7, e = .returned (nodeVal n v7) ∧ KidsV n w w' v7 ∧ Below w.heap.size w w' := by
 have HN := Aside0.mk h
 have HG := Aside0.mk hg
 clear h hg
 go_enter Tryz.func126, Tryz.ntmps126
 go_wp2_with (first
   | ((with_reducible refine gate_dst (N := 2) rfl ?_); refine box_event ?hg (N := 2) ?hd (cs := nodeZero) (t := 43) ?hr ?_; (case hd => rfl); (case hg => rfl); (case hr => first | (go_simp; done) | (go_simp; rfl)); intro gb hgb w1 hbox hb1; have HBX := Aside0.mk hbox; have HB1 := Aside0.mk hb1; have HGB := Aside0.mk hgb; have HG1 := Aside0.mk (blk_below HG.out hb1); clear hgb hbox hb1)
   | (go_at_call 127; refine (ptrSw g m n _ HG1.out HN.out).mono ?_; rintro e w2 ⟨v7, rfl, ho, hb⟩; have HK := Aside0.mk ho; have HBX2 := Aside0.mk (blk_below HBX.out hb); have HLT := Aside0.mk (show gb < w1.heap.size from blk_lt HBX.out); have HB2 := Aside0.mk (below_then HB1.out HB1.out.size hb); clear ho hb)
   | ((with_reducible refine gate_ (.store 43 (.tmp 2) (.tmp 4)) rfl ?_); refine box_store rfl rfl 43 (.tmp 2) (.tmp 4) rfl gb 43 nodeZero (nodeVal n v7) (nodeCells n v7) rfl rfl rfl node_size (node_one HK.out.slice) HBX2.out rfl ?_; intro W' hbk hgr))
 refine bodyPost_ret (results_cell_row rfl _ _ gb 43 _ (0, 0) _ rfl hbk Tryz.underlying43 rfl node_size) rfl ?_
 refine ⟨v7, rfl, (HK.out.grown hgr HLT.out).lower HB1.out.size, pw_below_grown HB2.out (some gb) HB2.out.size hgr (fun k e => by cases e; rw [HGB.out]; exact Nat.le_refl _)⟩
def impl_swFn.f (m : S153) : Option (ByteArray × Int × Bool × Int × Int × Nat × ByteArray × (List (S43))) := impl_procfsSwap.f ⟨#[]⟩ m.f0 m.f1 m.f2 m.f3 m.f4
theorem impl_swFn.calls (g : Nat) (m : S153) (r1 : ByteArray) (r2 : Int) (r3 : Bool) (r4 : Int) (r5 : Int) (r6 : Nat) (r7 : ByteArray) (r8 : List (S43)) (w : World) (hg : w.heap[g]? = some (swObj m)) (h : impl_swFn.f m = some (r1, r2, r3, r4, r5, r6, r7, r8)) :
  Calls Tryz.prog 126 #[.pointer (some ⟨g, 0, none⟩)] w fun e w' => ∃ v7_ : Value, e = .returned (.agg #[.string r1, .int .i64 r2, .bool r3, .int .i64 r4, .int .u64 r5, .float .f64 r6, .string r7, v7_]) ∧ Kd.R k43 43 w' w.heap.size (fun _ => True) v7_ r8 ∧ Below w.heap.size w w' := by
 have hn : swNode m = some ⟨r1, r2, r3, r4, r5, r6, r7, r8⟩ := by
  unfold swNode
  rw [show impl_procfsSwap.f ⟨#[]⟩ m.f0 m.f1 m.f2 m.f3 m.f4 = _ from h]
  rfl
 refine (swFn g m _ w hg hn).mono ?_
 rintro e w' ⟨v7, rfl, ho, hb⟩
 exact ⟨v7, rfl, ho, hb⟩
def zSw : S153 := ⟨⟨#[]⟩, ⟨#[]⟩, 0, 0, 0⟩
def rdSw (l : List S153) (i : Int) : S153 := l.getD i.toNat zSw
theorem at_pSw {w : World} {A : Option Addr} {n : Nat} {xs : List S153} (h : Kd.C kpSw w A n xs) (i : Int) (h0 : 0 ≤ i) (h1 : i < n) : ∃ ad b, A = some ad ∧ w.cell? (ad.add i.toNat) = some (.pointer (some ⟨b, 0, none⟩)) ∧ w.heap[b]? = some (swObj (rdSw xs i)) := by
 obtain ⟨ad, cs, e1, hcl, ⟨b, rfl, hb⟩, hcc⟩ := Kd.C_get h zSw i h0 h1
 refine ⟨ad, b, e1, ?_, hb⟩
 have := hcc 0 _ rfl
 rwa [show i.toNat * kpSw.sz + 0 = i.toNat from by show i.toNat * 1 + 0 = i.toNat; omega] at this
def impl_list_pSw.l0 : Nat → List S153 → Int → Int → ByteArray → Int → Bool → Int → Int → Nat → ByteArray → List (S43) → Option (ByteArray × Int × Bool × Int × Int × Nat × ByteArray × (List (S43)))
 | 0, _, _, _, _, _, _, _, _, _, _, _ => none
 | k + 1, x12, x13, x14, x260000, x260001, x260002, x260003, x260004, x260005, x260006, x260007 => if x14 < x13 then (if 0 ≤ x14 then (if x14 < (x12.length : Int) then ((impl_swFn.f (rdSw x12 x14)).bind fun bt261 => (if x260007.length < 1466015503701 then (impl_list_pSw.l0 k x12 x13 (wrap64 (x14 + 1)) x260000 x260001 x260002 x260003 x260004 x260005 x260006 (x260007 ++ [(⟨bt261.1, bt261.2.1, bt261.2.2.1, bt261.2.2.2.1, bt261.2.2.2.2.1, bt261.2.2.2.2.2.1, bt261.2.2.2.2.2.2.1, bt261.2.2.2.2.2.2.2⟩ : S43)])) else (none))) else (none)) else (none)) else (some (x260000, x260001, x260002, x260003, x260004, x260005, x260006, x260007))
def impl_list_pSw.f (k : Nat) (a0 : ByteArray) (l1 : List S153) : Option (ByteArray × Int × Bool × Int × Int × Nat × ByteArray × (List (S43))) := impl_list_pSw.l0 k l1 (l1.length : Int) 0 a0 6 false 0 0 0 (⟨#[]⟩ : ByteArray) ([] : List (S43))
theorem impl_list_pSw.mono_l : ∀ k, (∀ y0 y1 y2 y3 y4 y5 y6 y7 y8 y9 y10, LeO (impl_list_pSw.l0 k y0 y1 y2 y3 y4 y5 y6 y7 y8 y9 y10) (impl_list_pSw.l0 (k + 1) y0 y1 y2 y3 y4 y5 y6 y7 y8 y9 y10))
 | 0 => fun _ _ _ _ _ _ _ _ _ _ _ r h => by simp [impl_list_pSw.l0] at h
 | k + 1 => by
  have ih0 := impl_list_pSw.mono_l k
  ·intro y0 y1 y2 y3 y4 y5 y6 y7 y8 y9 y10
   unfold impl_list_pSw.l0
   repeat' first
   | (with_reducible exact ih0 _ _ _ _ _ _ _ _ _ _ _)
   | (with_reducible exact LeO.refl _)
   | (with_reducible exact LeO.none _)
   | (with_reducible refine LeO.ite ?_ ?_)
   | (with_reducible refine LeO.bind ?_ (fun _ => ?_))
   | exact ih0 _ _ _ _ _ _ _ _ _ _ _
   | exact LeO.none _
   | refine LeO.ite ?_ ?_
   | refine LeO.bind ?_ (fun _ => ?_)
theorem impl_list_pSw.mono : ∀ a0 a1 k, LeO (impl_list_pSw.f k a0 a1) (impl_list_pSw.f (k + 1) a0 a1) := by
 intro a0 a1 k
 have ih0 := impl_list_pSw.mono_l k
 unfold impl_list_pSw.f
 repeat' first
   | (with_reducible exact ih0 _ _ _ _ _ _ _ _ _ _ _)
   | (with_reducible exact LeO.refl _)
   | (with_reducible exact LeO.none _)
   | (with_reducible refine LeO.ite ?_ ?_)
   | (with_reducible refine LeO.bind ?_ (fun _ => ?_))
   | exact ih0 _ _ _ _ _ _ _ _ _ _ _
   | exact LeO.none _
   | refine LeO.ite ?_ ?_
   | refine LeO.bind ?_ (fun _ => ?_)
def impl_list_pSw.T5 : Bool × List (List Nat × List Nat) := (true, [([], []), ([0], [0]), ([], []), ([], []), ([2, 3], [2, 3]), ([4], [4]), ([1, 5, 4], [1, 5]), ([0, 1, 2, 3, 4, 5, 6], []), ([7, 6, 6, 0, 1, 2, 3, 4, 5, 6], [6, 7])])
def impl_list_pSw.B5 : List Nat := [0, 1, 0, 0, 12, 28, 63, 127, 255]
theorem impl_list_pSw.tab5 : rtab .any (opsOf Tryz.f125 5) = impl_list_pSw.T5 := by kernel_rfl
theorem impl_list_pSw.bits5 : waitsOk impl_list_pSw.T5.2 impl_list_pSw.B5 = true := by kernel_rfl
set_option maxHeartbeats 8000000 in
set_option maxRecDepth 100000 in
theorem impl_list_pSw.calls (k : Nat) (a0 : ByteArray) (A1 : Option Addr) (c1 : Nat) (l1 : List S153) (r1 : ByteArray) (r2 : Int) (r3 : Bool) (r4 : Int) (r5 : Int) (r6 : Nat) (r7 : ByteArray) (r8 : List (S43)) (w : World) (hr1 : Kd.C kpSw w A1 l1.length l1) (hc1 : l1.length ≤ c1) (h : impl_list_pSw.f k a0 l1 = some (r1, r2, r3, r4, r5, r6, r7, r8)) :
  Calls Tryz.prog 125 #[.string a0, .slice A1 l1.length c1, .func (.func 126) #[] #[]] w fun e w' => ∃ v7_ : Value, e = .returned (.agg #[.string r1, .int .i64 r2, .bool r3, .int .i64 r4, .int .u64 r5, .float .f64 r6, .string r7, v7_]) ∧ Kd.R k43 43 w' w.heap.size (fun _ => True) v7_ r8 ∧ Below w.heap.size w w' := by
 have hu43 := Tryz.underlying43
 have HR1 := Aside0.mk hr1
 have HC1 := Aside0.mk hc1
 clear hr1 hc1
 have HB := Aside0.mk (Below.refl w.heap.size w)
 have H : (impl_list_pSw.l0 k l1 (l1.length : Int) 0 a0 6 false 0 0 0 (⟨#[]⟩ : ByteArray) ([] : List (S43))) = some (r1, r2, r3, r4, r5, r6, r7, r8) := h
 clear h
 have H' := Aside0.mk H
 clear H
 go_enter Tryz.func125, Tryz.ntmps125
 go_wp2_with (first | ((with_reducible refine gate_dst (N := 6) rfl ?_); refine box_event ?hg (N := 6) ?hd (cs := #[.string (⟨#[]⟩ : ByteArray), .int .i64 0, .bool false, .int .i64 0, .int .u64 0, .float .f64 0, .string (⟨#[]⟩ : ByteArray), .slice none 0 0]) (t := 43) ?hr ?_; (case hd => rfl); (case hg => rfl); (case hr => first | (go_simp; done) | (go_simp; rfl)); intro gb258 hg w3 hbox hb; have n0_ := Aside0.mk (below_step (by repeat (first | (with_reducible first | exact HB.out | apply below_alloc | apply pw_below_drewN | apply below_drew1) | exact HB.out)) hb); have n1_ := Aside0.mk (hbox); have n2_ := Aside0.mk ((by rw [hg]; exact (below_size (by repeat (first | (with_reducible first | exact HB.out | apply below_alloc | apply pw_below_drewN | apply below_drew1) | exact HB.out))) : w.heap.size ≤ gb258)); have n3_ := Aside0.mk ((by rw [hg]; exact (below_size (by repeat (first | (with_reducible first | exact HB.out | apply below_alloc | apply pw_below_drewN | apply below_drew1) | exact HB.out))) : w.heap.size ≤ gb258)); clear HB; have HB := n0_; have BK258 := n1_; have GW258 := n2_; have GE258 := n3_; clear n0_ n1_ n2_ n3_; clear hb hbox hg) | ((with_reducible refine gate_dst (N := 7) rfl ?_); refine box_event ?hg (N := 7) ?hd (cs := #[.string (⟨#[]⟩ : ByteArray), .int .i64 0, .bool false, .int .i64 0, .int .u64 0, .float .f64 0, .string (⟨#[]⟩ : ByteArray), .slice none 0 0]) (t := 43) ?hr ?_; (case hd => rfl); (case hg => rfl); (case hr => first | (go_simp; done) | (go_simp; rfl)); intro gb259 hg w4 hbox hb; have n0_ := Aside0.mk (blk_below (g := gb258) (o := .cells #[.string (⟨#[]⟩ : ByteArray), .int .i64 0, .bool false, .int .i64 0, .int .u64 0, .float .f64 0, .string (⟨#[]⟩ : ByteArray), .slice none 0 0] 43 (0, 0)) (by (with_reducible repeat (first | refine blk_drewN ?_ _ | refine blk_drew ?_ | refine blk_alloc ?_ _)); exact BK258.out) hb); have n1_ := Aside0.mk (below_step (by repeat (first | (with_reducible first | exact HB.out | apply below_alloc | apply pw_below_drewN | apply below_drew1 | refine below_set ?_ GE258.out) | exact HB.out)) hb); have n2_ := Aside0.mk (hbox); have n3_ := Aside0.mk ((by rw [hg]; exact (below_size (by repeat (first | (with_reducible first | exact HB.out | apply below_alloc | apply pw_below_drewN | apply below_drew1 | refine below_set ?_ GE258.out) | exact HB.out))) : w.heap.size ≤ gb259)); have n4_ := Aside0.mk ((by rw [hg]; exact (below_size (by repeat (first | (with_reducible first | exact HB.out | apply below_alloc | apply pw_below_drewN | apply below_drew1 | refine below_set ?_ GE258.out) | exact HB.out))) : w.heap.size ≤ gb259)); have n5_ := Aside0.mk ((by rw [hg]; exact Nat.ne_of_lt (blk_lt (g := gb258) (o := .cells #[.string (⟨#[]⟩ : ByteArray), .int .i64 0, .bool false, .int .i64 0, .int .u64 0, .float .f64 0, .string (⟨#[]⟩ : ByteArray), .slice none 0 0] 43 (0, 0)) (by (with_reducible repeat (first | refine blk_drewN ?_ _ | refine blk_drew ?_ | refine blk_alloc ?_ _)); exact BK258.out)) : gb258 ≠ gb259)); have n6_ := Aside0.mk ((by rw [hg]; exact Nat.ne_of_gt (blk_lt (g := gb258) (o := .cells #[.string (⟨#[]⟩ : ByteArray), .int .i64 0, .bool false, .int .i64 0, .int .u64 0, .float .f64 0, .string (⟨#[]⟩ : ByteArray), .slice none 0 0] 43 (0, 0)) (by (with_reducible repeat (first | refine blk_drewN ?_ _ | refine blk_drew ?_ | refine blk_alloc ?_ _)); exact BK258.out)) : gb259 ≠ gb258)); clear BK258; clear HB; have BK258 := n0_; have HB := n1_; have BK259 := n2_; have GW259 := n3_; have GE259 := n4_; have NB258_259 := n5_; have NB259_258 := n6_; clear n0_ n1_ n2_ n3_ n4_ n5_ n6_; clear hb hbox hg; have hnb5 := NB259_258.out; have hnc5 := NB258_259.out; have hcz6_0 : w4.cell? ⟨gb259, 0, none⟩ = some (.string (⟨#[]⟩ : ByteArray)) := (blk_cell BK259.out 0).trans rfl; have hcz6_1 : w4.cell? ⟨gb259, 1, none⟩ = some (.int .i64 0) := (blk_cell BK259.out 1).trans rfl; have hcz6_2 : w4.cell? ⟨gb259, 2, none⟩ = some (.bool false) := (blk_cell BK259.out 2).trans rfl; have hcz6_3 : w4.cell? ⟨gb259, 3, none⟩ = some (.int .i64 0) := (blk_cell BK259.out 3).trans rfl; have hcz6_4 : w4.cell? ⟨gb259, 4, none⟩ = some (.int .u64 0) := (blk_cell BK259.out 4).trans rfl; have hcz6_5 : w4.cell? ⟨gb259, 5, none⟩ = some (.float .f64 0) := (blk_cell BK259.out 5).trans rfl; have hcz6_6 : w4.cell? ⟨gb259, 6, none⟩ = some (.string (⟨#[]⟩ : ByteArray)) := (blk_cell BK259.out 6).trans rfl; have hcz6_7 : w4.cell? ⟨gb259, 7, none⟩ = some (.slice none 0 0) := (blk_cell BK259.out 7).trans rfl; have hfz6_0 := blk_frozen BK259.out 0; have hfz6_1 := blk_frozen BK259.out 1; have hfz6_2 := blk_frozen BK259.out 2; have hfz6_3 := blk_frozen BK259.out 3; have hfz6_4 := blk_frozen BK259.out 4; have hfz6_5 := blk_frozen BK259.out 5; have hfz6_6 := blk_frozen BK259.out 6; have hfz6_7 := blk_frozen BK259.out 7))
 go_loopg [14] k (fun kq v14 w' => ∃ (x14_1 : Int) (x260007_1 : List (S43)) (u260007 : Value), v14 = .int .i64 x14_1 ∧ Aside0 (impl_list_pSw.l0 kq l1 (l1.length : Int) x14_1 a0 6 false 0 0 0 (⟨#[]⟩ : ByteArray) x260007_1 = some (r1, r2, r3, r4, r5, r6, r7, r8)) ∧ Aside0 (kq ≤ k) ∧ Aside0 (Kd.R k43 43 w' w.heap.size (fun k_ => k_ ≠ gb258 ∧ k_ ≠ gb259) u260007 x260007_1) ∧ Aside0 (w'.heap[gb258]? = some (.cells #[.string (⟨#[]⟩ : ByteArray), .int .i64 0, .bool false, .int .i64 0, .int .u64 0, .float .f64 0, .string (⟨#[]⟩ : ByteArray), (.slice none 0 0)] 43 (0, 0))) ∧ Aside0 (w'.heap[gb259]? = some (.cells #[.string a0, .int .i64 6, .bool false, .int .i64 0, .int .u64 0, .float .f64 0, .string (⟨#[]⟩ : ByteArray), u260007] 43 (0, 0))) ∧ Aside0 (Below w.heap.size w w'))
 case atStart => exact ⟨(0), (([] : List (S43))), (.slice none 0 0), (by first | rfl | (simp; done) | (simp [*]; done)), H', ⟨Nat.le_refl _⟩, ⟨by first | exact Kd.R_nil _ _ _ _ _ | exact Kd.N_nil _ _ _ _ _ | exact Kd.V_nil _ _ _ _ _ | exact Kd.Q_nil _ _ _ _ _ | exact Kd.S_nil _ _ _ _ _⟩, ⟨by (with_reducible repeat (first | refine blk_drewN ?_ _ | refine blk_drew ?_ | refine blk_alloc ?_ _)); refine blk_far ?_ NB258_259.out _; (with_reducible repeat (first | refine blk_drewN ?_ _ | refine blk_drew ?_ | refine blk_alloc ?_ _)); refine blk_far ?_ NB258_259.out _; (with_reducible repeat (first | refine blk_drewN ?_ _ | refine blk_drew ?_ | refine blk_alloc ?_ _)); refine blk_far ?_ NB258_259.out _; (with_reducible repeat (first | refine blk_drewN ?_ _ | refine blk_drew ?_ | refine blk_alloc ?_ _)); refine blk_far ?_ NB258_259.out _; (with_reducible repeat (first | refine blk_drewN ?_ _ | refine blk_drew ?_ | refine blk_alloc ?_ _)); refine blk_far ?_ NB258_259.out _; (with_reducible repeat (first | refine blk_drewN ?_ _ | refine blk_drew ?_ | refine blk_alloc ?_ _)); refine blk_far ?_ NB258_259.out _; (with_reducible repeat (first | refine blk_drewN ?_ _ | refine blk_drew ?_ | refine blk_alloc ?_ _)); refine blk_far ?_ NB258_259.out _; (with_reducible repeat (first | refine blk_drewN ?_ _ | refine blk_drew ?_ | refine blk_alloc ?_ _)); refine blk_far ?_ NB258_259.out _; (with_reducible repeat (first | refine blk_drewN ?_ _ | refine blk_drew ?_ | refine blk_alloc ?_ _)); exact BK258.out⟩, ⟨by (with_reducible repeat (first | refine blk_drewN ?_ _ | refine blk_drew ?_ | refine blk_alloc ?_ _)); refine blk_put (cs := #[.string a0, .int .i64 6, .bool false, .int .i64 0, .int .u64 0, .float .f64 0, .string (⟨#[]⟩ : ByteArray), .slice none 0 0]) ?_ 7 _ rfl; (with_reducible repeat (first | refine blk_drewN ?_ _ | refine blk_drew ?_ | refine blk_alloc ?_ _)); refine blk_put (cs := #[.string a0, .int .i64 6, .bool false, .int .i64 0, .int .u64 0, .float .f64 0, .string (⟨#[]⟩ : ByteArray), .slice none 0 0]) ?_ 6 _ rfl; (with_reducible repeat (first | refine blk_drewN ?_ _ | refine blk_drew ?_ | refine blk_alloc ?_ _)); refine blk_put (cs := #[.string a0, .int .i64 6, .bool false, .int .i64 0, .int .u64 0, .float .f64 0, .string (⟨#[]⟩ : ByteArray), .slice none 0 0]) ?_ 5 _ rfl; (with_reducible repeat (first | refine blk_drewN ?_ _ | refine blk_drew ?_ | refine blk_alloc ?_ _)); refine blk_put (cs := #[.string a0, .int .i64 6, .bool false, .int .i64 0, .int .u64 0, .float .f64 0, .string (⟨#[]⟩ : ByteArray), .slice none 0 0]) ?_ 4 _ rfl; (with_reducible repeat (first | refine blk_drewN ?_ _ | refine blk_drew ?_ | refine blk_alloc ?_ _)); refine blk_put (cs := #[.string a0, .int .i64 6, .bool false, .int .i64 0, .int .u64 0, .float .f64 0, .string (⟨#[]⟩ : ByteArray), .slice none 0 0]) ?_ 3 _ rfl; (with_reducible repeat (first | refine blk_drewN ?_ _ | refine blk_drew ?_ | refine blk_alloc ?_ _)); refine blk_put (cs := #[.string a0, .int .i64 6, .bool false, .int .i64 0, .int .u64 0, .float .f64 0, .string (⟨#[]⟩ : ByteArray), .slice none 0 0]) ?_ 2 _ rfl; (with_reducible repeat (first | refine blk_drewN ?_ _ | refine blk_drew ?_ | refine blk_alloc ?_ _)); refine blk_put (cs := #[.string a0, .int .i64 0, .bool false, .int .i64 0, .int .u64 0, .float .f64 0, .string (⟨#[]⟩ : ByteArray), .slice none 0 0]) ?_ 1 _ rfl; (with_reducible repeat (first | refine blk_drewN ?_ _ | refine blk_drew ?_ | refine blk_alloc ?_ _)); refine blk_put (cs := #[.string (⟨#[]⟩ : ByteArray), .int .i64 0, .bool false, .int .i64 0, .int .u64 0, .float .f64 0, .string (⟨#[]⟩ : ByteArray), .slice none 0 0]) ?_ 0 _ rfl; (with_reducible repeat (first | refine blk_drewN ?_ _ | refine blk_drew ?_ | refine blk_alloc ?_ _)); exact BK259.out⟩, ⟨by repeat (first | (with_reducible first | exact HB.out | apply below_alloc | apply pw_below_drewN | apply below_drew1 | refine below_set ?_ GE258.out | refine below_set ?_ GE259.out) | exact HB.out)⟩⟩
 case round =>
  clear H'
  try clear c1
  try clear p2
  try clear c5
  try clear hcz6_0
  try clear hcz6_1
  try clear hcz6_2
  try clear hcz6_3
  try clear hcz6_4
  try clear hcz6_5
  try clear hcz6_6
  try clear hcz6_7
  try clear hfz6_0
  try clear hfz6_1
  try clear hfz6_2
  try clear hfz6_3
  try clear hfz6_4
  try clear hfz6_5
  try clear hfz6_6
  try clear hfz6_7
  obtain ⟨x14_1, x260007_1, u260007, rfl, HA, HK1, HO_260007, BK258, BK259, HB⟩ := hrel
  cases gk with
  | zero => exact absurd HA.out (by simp [impl_list_pSw.l0])
  | succ k1 =>
   have H := HA.out
   clear HA
   simp only [impl_list_pSw.l0] at H
   by_cases c7 : x14_1 < (l1.length : Int)
   ·rw [if_pos c7] at H
    have c7b0 : decide (x14_1 < (l1.length : Int)) = true := decide_eq_true c7
    clear c7
    replace H := guard_inv H
    obtain ⟨c8, H⟩ := H
    have c8b0 : decide (0 ≤ x14_1) = true := decide_eq_true c8
    clear c8
    replace H := guard_inv H
    obtain ⟨c9, H⟩ := H
    have c9b0 : decide (x14_1 < (l1.length : Int)) = true := decide_eq_true c9
    clear c9
    replace H := Option.bind_eq_some_iff.mp H
    obtain ⟨⟨t261, t262, t263, t264, t265, t266, t267, t268⟩, A100, H⟩ := H
    replace H : (if x260007_1.length < 1466015503701 then (impl_list_pSw.l0 k1 l1 (l1.length : Int) (wrap64 (x14_1 + 1)) a0 6 false 0 0 0 (⟨#[]⟩ : ByteArray) (x260007_1 ++ [(⟨t261, t262, t263, t264, t265, t266, t267, t268⟩ : S43)])) else (none)) = some (r1, r2, r3, r4, r5, r6, r7, r8) := H
    have A10 := Aside0.mk A100
    clear A100
    replace H := guard_inv H
    obtain ⟨c11, H⟩ := H
    have LMc11 := Aside0.mk c11
    clear c11
    obtain ⟨y271, hy271⟩ : ∃ y_ : List (S43), y_ = (x260007_1 ++ [(⟨t261, t262, t263, t264, t265, t266, t267, t268⟩ : S43)]) := ⟨_, rfl⟩
    replace H : (impl_list_pSw.l0 k1 l1 (l1.length : Int) (wrap64 (x14_1 + 1)) a0 6 false 0 0 0 (⟨#[]⟩ : ByteArray) y271) = some (r1, r2, r3, r4, r5, r6, r7, r8) := by first | (rw [hy271]; with_reducible exact H) | (have H2_ := (Option.bind_some _ _).symm.trans H; rw [hy271]; with_reducible exact H2_) | (have H2_ := (Option.bind_some _ _).symm.trans H; with_reducible exact H2_) | with_reducible exact H | (rw [hy271]; exact H) | exact H
    have Ny271 := Aside0.mk hy271
    clear hy271
    have H' := Aside0.mk H
    clear H
    have p260 : 0 ≤ (x14_1 : Int) := of_decide_eq_true (by first | (with_reducible assumption) | assumption)
    have q260 : x14_1 < (l1.length : Int) := of_decide_eq_true (by first | (with_reducible assumption) | assumption)
    obtain ⟨ad260, bp, e260, hx260_0, hob⟩ := at_pSw HR1.out x14_1 p260 q260
    cases e260
    have HOB := Aside0.mk hob
    clear hob
    replace hx260_0 := (HB.out.cell (World.block_lt_of_cell? w _ hx260_0)).trans hx260_0
    replace p260 := eq_true p260
    replace q260 := eq_true q260
    try go_wp2
    have n0_ := Aside0.mk (Kd.R_drew HO_260007.out)
    have n1_ := Aside0.mk (blk_drew BK258.out)
    have n2_ := Aside0.mk (blk_drew BK259.out)
    have n3_ := Aside0.mk (below_drew1 HB.out)
    clear HO_260007
    clear BK258
    clear BK259
    clear HB
    have HO_260007 := n0_
    have BK258 := n1_
    have BK259 := n2_
    have HB := n3_
    clear n0_ n1_ n2_ n3_
    refine start_ (n := 9) (S := fun w' => w'.cell? ⟨gb259, 0, none⟩ = some (.string a0) ∧ w'.cell? ⟨gb259, 1, none⟩ = some (.int .i64 6) ∧ w'.cell? ⟨gb259, 2, none⟩ = some (.bool false) ∧ w'.cell? ⟨gb259, 3, none⟩ = some (.int .i64 0) ∧ w'.cell? ⟨gb259, 4, none⟩ = some (.int .u64 0) ∧ w'.cell? ⟨gb259, 5, none⟩ = some (.float .f64 0) ∧ w'.cell? ⟨gb259, 6, none⟩ = some (.string (⟨#[]⟩ : ByteArray)) ∧ w'.cell? ⟨gb259, 7, none⟩ = some (u260007)) (ds := [8]) (bb [0, 9]) (by kernel_rfl) rfl rfl ⟨(blk_cell BK259.out 0).trans rfl, (blk_cell BK259.out 1).trans rfl, (blk_cell BK259.out 2).trans rfl, (blk_cell BK259.out 3).trans rfl, (blk_cell BK259.out 4).trans rfl, (blk_cell BK259.out 5).trans rfl, (blk_cell BK259.out 6).trans rfl, (blk_cell BK259.out 7).trans rfl⟩ (fun hHeld => ?_); refine with_tabW impl_list_pSw.tab5 impl_list_pSw.bits5 (fun HT_ HW_ => ?_)
    generalize wr.drew = w12 at HO_260007 BK258 BK259 HB hHeld ⊢
    refine pure_ (i := 0) (N := some 18) (v := ?_) (a' := ?_) (bb [1, 8]) rfl rfl (any_of HT_.out (by kernel_rfl)) (fun _ _ _ h => h) (Or.inl ⟨by rfl, ?_⟩) ?_ ?_
    rotate_left
    ·intro w'
     go_simp
     with_reducible rfl
    rotate_left
    ·simp only [Act.put, List.setIfInBounds_toArray, List.set_cons_zero, List.set_cons_succ, i64_w, i32_w]
     rfl
    refine pure_ (i := 2) (N := some 20) (v := ?_) (a' := ?_) (bb [1, 1, 1, 6]) rfl rfl (any_of HT_.out (by kernel_rfl)) (fun _ _ _ h => h) (Or.inl ⟨by rfl, ?_⟩) ?_ ?_
    rotate_left
    ·intro w'
     go_simp
     with_reducible rfl
    rotate_left
    ·simp only [Act.put, List.setIfInBounds_toArray, List.set_cons_zero, List.set_cons_succ, i64_w, i32_w]
     rfl
    refine pure_ (i := 3) (N := some 21) (v := ?_) (a' := ?_) (bb [1, 1, 2, 5]) rfl rfl (any_of HT_.out (by kernel_rfl)) (fun _ _ _ h => h) (Or.inl ⟨by rfl, ?_⟩) ?_ ?_
    rotate_left
    ·intro w'
     go_simp
     with_reducible rfl
    rotate_left
    ·simp only [Act.put, List.setIfInBounds_toArray, List.set_cons_zero, List.set_cons_succ, i64_w, i32_w]
     rfl
    refine take_ (i := 1) (N := some 19) (v := ?_) (a' := ?_) (bb [4, 5]) rfl rfl (take_ofW HT_.out HW_.out (by kernel_rfl)) (fun _ _ _ h => h) (Or.inl ⟨by rfl, ?_⟩) hHeld ?_ ?_
    rotate_left
    ·rintro w' ⟨s0, s1, s2, s3, s4, s5, s6, s7⟩
     go_simp
     with_reducible rfl
    rotate_left
    ·simp only [Act.put, List.setIfInBounds_toArray, List.set_cons_zero, List.set_cons_succ, i64_w, i32_w]
     rfl
    refine one_ (i := 4) (N := some 22) (bb [5, 4]) rfl rfl (one_of HT_.out (by kernel_rfl)) (by decide) (fun K hK => ?_)
    refine goesV_ Tryz.func126 (by kernel_rfl) rfl #[.pointer (some ⟨bp, 0, none⟩)] (by rfl) rfl rfl (by rfl) (by (try simp only [List.map_toArray, List.map_cons, List.map_nil]); first | done | rfl | (simp only [List.length_drop, List.length_take]; rfl)) ?_
    with_reducible refine (impl_swFn.calls bp (rdSw l1 x14_1) t261 t262 t263 t264 t265 t266 t267 t268 _ (blk_below HOB.out HB.out) A10.out).mono ?_
    rintro e w13 ⟨v269, rfl, ho0, hb⟩
    refine ⟨_, rfl, ?_⟩
    have n0_ := Aside0.mk (Kd.R_elder' (by (with_reducible repeat (first | apply Kd.R_alloc | apply Kd.R_drewN | apply Kd.R_drew)); exact HO_260007.out) (by first | exact Kd.R_base ho0 | exact Kd.R_base ho0) hb)
    have n1_ := Aside0.mk (Kd.R_lower (Kd.R_newB (Kd.R_newB (Kd.R_new' ho0 (Kd.R_lt (by (with_reducible repeat (first | apply Kd.R_alloc | apply Kd.R_drewN | apply Kd.R_drew)); exact HO_260007.out))) (g := gb258) (o := .cells #[.string (⟨#[]⟩ : ByteArray), .int .i64 0, .bool false, .int .i64 0, .int .u64 0, .float .f64 0, .string (⟨#[]⟩ : ByteArray), .slice none 0 0] 43 (0, 0)) (by (with_reducible repeat (first | refine blk_drewN ?_ _ | refine blk_drew ?_ | refine blk_alloc ?_ _)); exact BK258.out)) (g := gb259) (o := .cells #[.string a0, .int .i64 6, .bool false, .int .i64 0, .int .u64 0, .float .f64 0, .string (⟨#[]⟩ : ByteArray), u260007] 43 (0, 0)) (by (with_reducible repeat (first | refine blk_drewN ?_ _ | refine blk_drew ?_ | refine blk_alloc ?_ _)); exact BK259.out)) (below_size (by repeat (first | (with_reducible first | exact HB.out | apply below_alloc | apply pw_below_drewN | apply below_drew1 | refine below_set ?_ GE258.out | refine below_set ?_ GE259.out) | exact HB.out))))
    have n2_ := Aside0.mk (blk_below (g := gb258) (o := .cells #[.string (⟨#[]⟩ : ByteArray), .int .i64 0, .bool false, .int .i64 0, .int .u64 0, .float .f64 0, .string (⟨#[]⟩ : ByteArray), .slice none 0 0] 43 (0, 0)) (by (with_reducible repeat (first | refine blk_drewN ?_ _ | refine blk_drew ?_ | refine blk_alloc ?_ _)); exact BK258.out) hb)
    have n3_ := Aside0.mk (blk_below (g := gb259) (o := .cells #[.string a0, .int .i64 6, .bool false, .int .i64 0, .int .u64 0, .float .f64 0, .string (⟨#[]⟩ : ByteArray), u260007] 43 (0, 0)) (by (with_reducible repeat (first | refine blk_drewN ?_ _ | refine blk_drew ?_ | refine blk_alloc ?_ _)); exact BK259.out) hb)
    have n4_ := Aside0.mk (below_step (by repeat (first | (with_reducible first | exact HB.out | apply below_alloc | apply pw_below_drewN | apply below_drew1 | refine below_set ?_ GE258.out | refine below_set ?_ GE259.out) | exact HB.out)) hb)
    clear HO_260007
    clear BK258
    clear BK259
    clear HB
    have HO_260007 := n0_
    have HO270 := n1_
    have BK258 := n2_
    have BK259 := n3_
    have HB := n4_
    clear n0_ n1_ n2_ n3_ n4_
    (try clear hb)
    (try clear hb2)
    (try clear hk)
    (try clear hi)
    (try clear ho0)
    obtain ⟨Ao15, co15, eo15⟩ := Kd.R_slice HO270.out
    (first | subst eo15 | (injection eo15 with f1_ f2_ f3_; have f4_ := f1_.symm; have f5_ := f3_.symm; clear f1_ f2_ f3_; subst f4_; subst f5_))
    refine hK.out _ _ ⟨(blk_cell BK259.out 0).trans rfl, (blk_cell BK259.out 1).trans rfl, (blk_cell BK259.out 2).trans rfl, (blk_cell BK259.out 3).trans rfl, (blk_cell BK259.out 4).trans rfl, (blk_cell BK259.out 5).trans rfl, (blk_cell BK259.out 6).trans rfl, (blk_cell BK259.out 7).trans rfl⟩ (fun hHeld => ?_)
    clear hK K
    refine norm_ (a' := ?_) ?_ ?_
    rotate_left
    ·show Act.put _ (some 22) _ = _
     simp only [Act.put, List.setIfInBounds_toArray, List.set_cons_zero, List.set_cons_succ, i64_w, i32_w]
     rfl
    refine one_ (i := 5) (N := some 23) (bb [6, 3]) rfl rfl (one_of HT_.out (by kernel_rfl)) (by decide) (fun K hK => ?_)
    refine value_ (w1 := ?_) (v := ?_) (by rfl) rfl ?_ ?_
    rotate_left 2
    ·go_simp
     constructor
     ·rfl
     ·rfl
    refine hK.out _ _ ⟨(blk_cell (blk_alloc BK259.out _) 0).trans rfl, (blk_cell (blk_alloc BK259.out _) 1).trans rfl, (blk_cell (blk_alloc BK259.out _) 2).trans rfl, (blk_cell (blk_alloc BK259.out _) 3).trans rfl, (blk_cell (blk_alloc BK259.out _) 4).trans rfl, (blk_cell (blk_alloc BK259.out _) 5).trans rfl, (blk_cell (blk_alloc BK259.out _) 6).trans rfl, (blk_cell (blk_alloc BK259.out _) 7).trans rfl⟩ (fun hHeld => ?_)
    clear hK K
    refine norm_ (a' := ?_) ?_ ?_
    rotate_left
    ·show Act.put _ (some 23) _ = _
     simp only [Act.put, List.setIfInBounds_toArray, List.set_cons_zero, List.set_cons_succ, i64_w, i32_w]
     rfl
    refine one_ (i := 6) (N := some 24) (bb [7, 2]) rfl rfl (one_of HT_.out (by kernel_rfl)) (by decide) (fun K hK => ?_)
    refine Kd.R_append_step k43 (w0 := w) w.heap.size (by rfl) (.tmp 19) (.tmp 23) 41 43 (.agg #[(.string ⟨#[]⟩), (.int .i64 0), (.bool false), (.int .i64 0), (.int .u64 0), (.float .f64 0), (.string ⟨#[]⟩), (.slice none 0 0)]) 96 rfl Tryz.underlying41 info43 rfl (by decide) (by omega) u260007 x260007_1 (⟨t261, t262, t263, t264, t265, t266, t267, t268⟩ : S43) [.string t261, .int .i64 t262, .bool t263, .int .i64 t264, .int .u64 t265, .float .f64 t266, .string t267, .slice Ao15 t268.length co15] (fun k_ => k_ ≠ gb258 ∧ k_ ≠ gb259) (fun k_ => ((fun k_ => k_ ≠ gb258 ∧ k_ ≠ gb259)) k_ ∧ some k_ ≠ (u260007 : Value).ownBlock) rfl rfl ?aP (fun _ hk => hk) ?aF ?aO ?aB ?aS ?aL ?_
    (case aP => exact k43_mkM _ _ _ (⟨t261, t262, t263, t264, t265, t266, t267, t268⟩ : S43) (Kd.R_mono (HO270.out) (fun k_ hk => ⟨⟨hk.1.2, hk.2⟩, hk.1.1.2⟩)))
    (case aB => exact (by repeat (first | (with_reducible first | exact HB.out | apply below_alloc | apply pw_below_drewN | apply below_drew1 | refine below_set ?_ GE258.out | refine below_set ?_ GE259.out) | exact HB.out)))
    (case aF => exact (fun k_ hk => ⟨Kd.freshB (g := gb258) (o := .cells #[.string (⟨#[]⟩ : ByteArray), .int .i64 0, .bool false, .int .i64 0, .int .u64 0, .float .f64 0, .string (⟨#[]⟩ : ByteArray), .slice none 0 0] 43 (0, 0)) (by (with_reducible repeat (first | refine blk_drewN ?_ _ | refine blk_drew ?_ | refine blk_alloc ?_ _)); exact BK258.out) k_ hk, Kd.freshB (g := gb259) (o := .cells #[.string a0, .int .i64 6, .bool false, .int .i64 0, .int .u64 0, .float .f64 0, .string (⟨#[]⟩ : ByteArray), u260007] 43 (0, 0)) (by (with_reducible repeat (first | refine blk_drewN ?_ _ | refine blk_drew ?_ | refine blk_alloc ?_ _)); exact BK259.out) k_ hk⟩))
    (case aO => exact (by (with_reducible repeat (first | apply Kd.R_alloc | apply Kd.R_drewN | apply Kd.R_drew)); exact Kd.R_mono HO_260007.out (fun _ hk => ⟨hk.1.1, hk.1.2⟩)))
    (case aS => exact (below_size (by repeat (first | (with_reducible first | exact HB.out | apply below_alloc | apply pw_below_drewN | apply below_drew1 | refine below_set ?_ GE258.out | refine below_set ?_ GE259.out) | exact HB.out))))
    (case aL => have := LMc11.out; omega)
    intro v272 w14 ho hb hg hat
    rw [← Ny271.out] at ho
    have n0_ := Aside0.mk (blk_grown (g := gb258) (o := .cells #[.string (⟨#[]⟩ : ByteArray), .int .i64 0, .bool false, .int .i64 0, .int .u64 0, .float .f64 0, .string (⟨#[]⟩ : ByteArray), .slice none 0 0] 43 (0, 0)) (by (with_reducible repeat (first | refine blk_drewN ?_ _ | refine blk_drew ?_ | refine blk_alloc ?_ _)); exact BK258.out) hg (Kd.R_away HO_260007.out (fun _ hk => hk.1.1)))
    have n1_ := Aside0.mk (blk_grown (g := gb259) (o := .cells #[.string a0, .int .i64 6, .bool false, .int .i64 0, .int .u64 0, .float .f64 0, .string (⟨#[]⟩ : ByteArray), u260007] 43 (0, 0)) (by (with_reducible repeat (first | refine blk_drewN ?_ _ | refine blk_drew ?_ | refine blk_alloc ?_ _)); exact BK259.out) hg (Kd.R_away HO_260007.out (fun _ hk => hk.1.2)))
    have n2_ := Aside0.mk (hb)
    have n3_ := Aside0.mk (ho)
    clear BK258
    clear BK259
    clear HB
    clear HO_260007
    clear HO270
    have BK258 := n0_
    have BK259 := n1_
    have HB := n2_
    have HO273 := n3_
    clear n0_ n1_ n2_ n3_
    clear ho hb hg hat
    obtain ⟨Ao16, co16, eo16⟩ := Kd.R_slice HO273.out
    (first | subst eo16 | (injection eo16 with f1_ f2_ f3_; have f4_ := f1_.symm; have f5_ := f3_.symm; clear f1_ f2_ f3_; subst f4_; subst f5_))
    refine hK.out _ _ ⟨(blk_cell BK259.out 0).trans rfl, (blk_cell BK259.out 1).trans rfl, (blk_cell BK259.out 2).trans rfl, (blk_cell BK259.out 3).trans rfl, (blk_cell BK259.out 4).trans rfl, (blk_cell BK259.out 5).trans rfl, (blk_cell BK259.out 6).trans rfl, (blk_cell BK259.out 7).trans rfl⟩ (fun hHeld => ?_)
    clear hK K
    refine norm_ (a' := ?_) ?_ ?_
    rotate_left
    ·show Act.put _ (some 24) _ = _
     simp only [Act.put, List.setIfInBounds_toArray, List.set_cons_zero, List.set_cons_succ, i64_w, i32_w]
     rfl
    refine pure_ (i := 7) (N := some 25) (v := ?_) (a' := ?_) (bb [8, 1]) rfl rfl (any_of HT_.out (by kernel_rfl)) (fun _ _ _ h => h) (Or.inl ⟨by rfl, ?_⟩) ?_ ?_
    rotate_left
    ·intro w'
     go_simp
     with_reducible rfl
    rotate_left
    ·simp only [Act.put, List.setIfInBounds_toArray, List.set_cons_zero, List.set_cons_succ, i64_w, i32_w]
     rfl
    refine last_ (i := 8) (N := none) (bb [9]) rfl rfl (one_of HT_.out (by kernel_rfl)) (by decide) (fun K hK => ?_)
    have hs17 : w14.cell? ⟨gb259, 7, none⟩ = some (u260007) := (blk_cell BK259.out 7).trans rfl
    have hfs17 := blk_frozen BK259.out 7
    have hns17_0 := NB258_259.out
    have hms17_0 := NB259_258.out
    refine skip_ (w1 := ?_) (by rfl) rfl ?_ ?_
    rotate_left
    ·go_simp
     rfl
    refine hK.out _ _ ?_
    clear hK K
    refine done_ (done_of HT_.out (by kernel_rfl)) ?_
    try go_wp2
    go_roundg k1
    case measure => have := HK1.out; omega
    case rel => exact ⟨(wrap64 (x14_1 + 1)), (y271), (.slice Ao16 y271.length co16), (by first | rfl | (simp; done) | (simp [*]; done)), H', ⟨by have := HK1.out; omega⟩, ⟨by (with_reducible repeat (first | apply Kd.R_alloc | apply Kd.R_drewN | apply Kd.R_drew)); exact Kd.R_mono (Kd.R_far (p := ⟨gb259, 7, none⟩) (Kd.R_mono HO273.out (fun k_ hk => (⟨hk, hk.2⟩ : _ ∧ k_ ≠ gb259))) (fun _ hk => hk.2) (.slice Ao16 y271.length co16)) (fun _ hk => ⟨hk.1.1, hk.1.2⟩)⟩, ⟨by (with_reducible repeat (first | refine blk_drewN ?_ _ | refine blk_drew ?_ | refine blk_alloc ?_ _)); refine blk_far ?_ NB258_259.out _; (with_reducible repeat (first | refine blk_drewN ?_ _ | refine blk_drew ?_ | refine blk_alloc ?_ _)); exact BK258.out⟩, ⟨by (with_reducible repeat (first | refine blk_drewN ?_ _ | refine blk_drew ?_ | refine blk_alloc ?_ _)); refine blk_put (cs := #[.string a0, .int .i64 6, .bool false, .int .i64 0, .int .u64 0, .float .f64 0, .string (⟨#[]⟩ : ByteArray), u260007]) ?_ 7 _ rfl; (with_reducible repeat (first | refine blk_drewN ?_ _ | refine blk_drew ?_ | refine blk_alloc ?_ _)); exact BK259.out⟩, ⟨by repeat (first | (with_reducible first | exact HB.out | apply below_alloc | apply pw_below_drewN | apply below_drew1 | refine below_set ?_ GE258.out | refine below_set ?_ GE259.out) | exact HB.out)⟩⟩
   ·rw [if_neg c7] at H
    have c7b0 : decide (x14_1 < (l1.length : Int)) = false := decide_eq_false c7
    clear c7
    simp only [Option.some.injEq, Prod.mk.injEq] at H
    obtain ⟨rfl, rfl, rfl, rfl, rfl, rfl, rfl, rfl⟩ := H
    have hnb18 := NB259_258.out
    have hnc18 := NB258_259.out
    have hcz19_0 : wr.cell? ⟨gb259, 0, none⟩ = some (.string a0) := (blk_cell BK259.out 0).trans rfl
    have hcz19_1 : wr.cell? ⟨gb259, 1, none⟩ = some (.int .i64 6) := (blk_cell BK259.out 1).trans rfl
    have hcz19_2 : wr.cell? ⟨gb259, 2, none⟩ = some (.bool false) := (blk_cell BK259.out 2).trans rfl
    have hcz19_3 : wr.cell? ⟨gb259, 3, none⟩ = some (.int .i64 0) := (blk_cell BK259.out 3).trans rfl
    have hcz19_4 : wr.cell? ⟨gb259, 4, none⟩ = some (.int .u64 0) := (blk_cell BK259.out 4).trans rfl
    have hcz19_5 : wr.cell? ⟨gb259, 5, none⟩ = some (.float .f64 0) := (blk_cell BK259.out 5).trans rfl
    have hcz19_6 : wr.cell? ⟨gb259, 6, none⟩ = some (.string (⟨#[]⟩ : ByteArray)) := (blk_cell BK259.out 6).trans rfl
    have hcz19_7 : wr.cell? ⟨gb259, 7, none⟩ = some (u260007) := (blk_cell BK259.out 7).trans rfl
    have hfz19_0 := blk_frozen BK259.out 0
    have hfz19_1 := blk_frozen BK259.out 1
    have hfz19_2 := blk_frozen BK259.out 2
    have hfz19_3 := blk_frozen BK259.out 3
    have hfz19_4 := blk_frozen BK259.out 4
    have hfz19_5 := blk_frozen BK259.out 5
    have hfz19_6 := blk_frozen BK259.out 6
    have hfz19_7 := blk_frozen BK259.out 7
    have hcz20_0 : wr.cell? ⟨gb258, 0, none⟩ = some (.string (⟨#[]⟩ : ByteArray)) := (blk_cell BK258.out 0).trans rfl
    have hcz20_1 : wr.cell? ⟨gb258, 1, none⟩ = some (.int .i64 0) := (blk_cell BK258.out 1).trans rfl
    have hcz20_2 : wr.cell? ⟨gb258, 2, none⟩ = some (.bool false) := (blk_cell BK258.out 2).trans rfl
    have hcz20_3 : wr.cell? ⟨gb258, 3, none⟩ = some (.int .i64 0) := (blk_cell BK258.out 3).trans rfl
    have hcz20_4 : wr.cell? ⟨gb258, 4, none⟩ = some (.int .u64 0) := (blk_cell BK258.out 4).trans rfl
    have hcz20_5 : wr.cell? ⟨gb258, 5, none⟩ = some (.float .f64 0) := (blk_cell BK258.out 5).trans rfl
    have hcz20_6 : wr.cell? ⟨gb258, 6, none⟩ = some (.string (⟨#[]⟩ : ByteArray)) := (blk_cell BK258.out 6).trans rfl
    have hcz20_7 : wr.cell? ⟨gb258, 7, none⟩ = some (.slice none 0 0) := (blk_cell BK258.out 7).trans rfl
    have hfz20_0 := blk_frozen BK258.out 0
    have hfz20_1 := blk_frozen BK258.out 1
    have hfz20_2 := blk_frozen BK258.out 2
    have hfz20_3 := blk_frozen BK258.out 3
    have hfz20_4 := blk_frozen BK258.out 4
    have hfz20_5 := blk_frozen BK258.out 5
    have hfz20_6 := blk_frozen BK258.out 6
    have hfz20_7 := blk_frozen BK258.out 7
    obtain ⟨Ao21, co21, eo21⟩ := Kd.R_slice HO_260007.out
    subst eo21
    go_wp2
    refine bodyPost_ret (results_cell_row rfl _ _ gb258 43 #[.string a0, .int .i64 6, .bool false, .int .i64 0, .int .u64 0, .float .f64 0, .string (⟨#[]⟩ : ByteArray), .slice Ao21 x260007_1.length co21] (0, 0) _ rfl (by (with_reducible repeat (first | refine blk_drewN ?_ _ | refine blk_drew ?_ | refine blk_alloc ?_ _)); refine blk_put (cs := #[.string a0, .int .i64 6, .bool false, .int .i64 0, .int .u64 0, .float .f64 0, .string (⟨#[]⟩ : ByteArray), .slice none 0 0]) ?_ 7 _ rfl; (with_reducible repeat (first | refine blk_drewN ?_ _ | refine blk_drew ?_ | refine blk_alloc ?_ _)); refine blk_put (cs := #[.string a0, .int .i64 6, .bool false, .int .i64 0, .int .u64 0, .float .f64 0, .string (⟨#[]⟩ : ByteArray), .slice none 0 0]) ?_ 6 _ rfl; (with_reducible repeat (first | refine blk_drewN ?_ _ | refine blk_drew ?_ | refine blk_alloc ?_ _)); refine blk_put (cs := #[.string a0, .int .i64 6, .bool false, .int .i64 0, .int .u64 0, .float .f64 0, .string (⟨#[]⟩ : ByteArray), .slice none 0 0]) ?_ 5 _ rfl; (with_reducible repeat (first | refine blk_drewN ?_ _ | refine blk_drew ?_ | refine blk_alloc ?_ _)); refine blk_put (cs := #[.string a0, .int .i64 6, .bool false, .int .i64 0, .int .u64 0, .float .f64 0, .string (⟨#[]⟩ : ByteArray), .slice none 0 0]) ?_ 4 _ rfl; (with_reducible repeat (first | refine blk_drewN ?_ _ | refine blk_drew ?_ | refine blk_alloc ?_ _)); refine blk_put (cs := #[.string a0, .int .i64 6, .bool false, .int .i64 0, .int .u64 0, .float .f64 0, .string (⟨#[]⟩ : ByteArray), .slice none 0 0]) ?_ 3 _ rfl; (with_reducible repeat (first | refine blk_drewN ?_ _ | refine blk_drew ?_ | refine blk_alloc ?_ _)); refine blk_put (cs := #[.string a0, .int .i64 6, .bool false, .int .i64 0, .int .u64 0, .float .f64 0, .string (⟨#[]⟩ : ByteArray), .slice none 0 0]) ?_ 2 _ rfl; (with_reducible repeat (first | refine blk_drewN ?_ _ | refine blk_drew ?_ | refine blk_alloc ?_ _)); refine blk_put (cs := #[.string a0, .int .i64 0, .bool false, .int .i64 0, .int .u64 0, .float .f64 0, .string (⟨#[]⟩ : ByteArray), .slice none 0 0]) ?_ 1 _ rfl; (with_reducible repeat (first | refine blk_drewN ?_ _ | refine blk_drew ?_ | refine blk_alloc ?_ _)); refine blk_put (cs := #[.string (⟨#[]⟩ : ByteArray), .int .i64 0, .bool false, .int .i64 0, .int .u64 0, .float .f64 0, .string (⟨#[]⟩ : ByteArray), .slice none 0 0]) ?_ 0 _ rfl; (with_reducible repeat (first | refine blk_drewN ?_ _ | refine blk_drew ?_ | refine blk_alloc ?_ _)); exact BK258.out) Tryz.underlying43 rfl (by kernel_rfl)) rfl ?_
    exact ⟨_, by first | rfl | (simp [errW_none, errW_some] <;> rfl) | (simp [*, errW_none, errW_some] <;> rfl), by (with_reducible repeat (first | apply Kd.R_alloc | apply Kd.R_drewN | apply Kd.R_drew)); exact Kd.R_mono (Kd.R_far (p := ⟨gb258, 7, none⟩) (Kd.R_far (p := ⟨gb258, 6, none⟩) (Kd.R_far (p := ⟨gb258, 5, none⟩) (Kd.R_far (p := ⟨gb258, 4, none⟩) (Kd.R_far (p := ⟨gb258, 3, none⟩) (Kd.R_far (p := ⟨gb258, 2, none⟩) (Kd.R_far (p := ⟨gb258, 1, none⟩) (Kd.R_far (p := ⟨gb258, 0, none⟩) (Kd.R_mono HO_260007.out (fun k_ hk => (⟨hk, hk.1⟩ : _ ∧ k_ ≠ gb258))) (fun _ hk => hk.2) (.string a0)) (fun _ hk => hk.2) (.int .i64 6)) (fun _ hk => hk.2) (.bool false)) (fun _ hk => hk.2) (.int .i64 0)) (fun _ hk => hk.2) (.int .u64 0)) (fun _ hk => hk.2) (.float .f64 0)) (fun _ hk => hk.2) (.string (⟨#[]⟩ : ByteArray))) (fun _ hk => hk.2) (.slice Ao21 x260007_1.length co21)) (fun _ hk => trivial), by repeat (first | (with_reducible first | exact HB.out | apply below_alloc | apply pw_below_drewN | apply below_drew1 | refine below_set ?_ GE258.out | refine below_set ?_ GE259.out) | exact HB.out)⟩
def nodeSwaps (k : Nat) (r : List S153) : Option S43 := (impl_list_pSw.f k ⟨#[]⟩ r).map fun r => ⟨r.1, r.2.1, r.2.2.1, r.2.2.2.1, r.2.2.2.2.1, r.2.2.2.2.2.1, r.2.2.2.2.2.2.1, r.2.2.2.2.2.2.2⟩
theorem listSw (k : Nat) (A : Option Addr) (c : Nat) (r : List S153) (n : S43) (w : World) (hC : Kd.C kpSw w A r.length r) (hc : r.length ≤ c) (h : nodeSwaps k r = some n) :
  Calls Tryz.prog 125 #[.string ⟨#[]⟩, .slice A r.length c, .func (.func 126) #[] #[]] w fun e w' => ∃ v7, e = .returned (nodeVal n v7) ∧ KidsV n w w' v7 ∧ Below w.heap.size w w' := by
 unfold nodeSwaps at h
 obtain ⟨⟨r1, r2, r3, r4, r5, r6, r7, r8⟩, hr, rfl⟩ := Option.map_eq_some_iff.1 h
 refine (impl_list_pSw.calls k ⟨#[]⟩ A c r r1 r2 r3 r4 r5 r6 r7 r8 w hC hc hr).mono ?_
 rintro e w' ⟨v7, rfl, ho, hb⟩
 exact ⟨v7, rfl, ho, hb⟩
set_option maxHeartbeats 8000000 in
set_option maxRecDepth 100000 in
theorem litSwaps (k : Nat) (A : Option Addr) (c : Nat) (r : List S153) (n : S43) (w : World) (hg : Kd.C kpSw w A r.length r) (hc : r.length ≤ c) (h : nodeSwaps k r = some n) :
  Calls Tryz.prog 124 #[.slice A r.length c] w fun e w' => ∃ v7, e = .returned (nodeVal n v7) ∧ KidsV n w w' v7 ∧ Below w.heap.size w w' := by
 have HN := Aside0.mk h
 have HC := Aside0.mk hc
 have HG := Aside0.mk hg
 clear h hg hc
 go_enter Tryz.func124, Tryz.ntmps124
 go_wp2_with (first
   | ((with_reducible refine gate_dst (N := 2) rfl ?_); refine box_event ?hg (N := 2) ?hd (cs := nodeZero) (t := 43) ?hr ?_; (case hd => rfl); (case hg => rfl); (case hr => first | (go_simp; done) | (go_simp; rfl)); intro gb hgb w1 hbox hb1; have HBX := Aside0.mk hbox; have HB1 := Aside0.mk hb1; have HGB := Aside0.mk hgb; have HG1 := Aside0.mk (Kd.C_below HG.out hb1); clear hgb hbox hb1)
   | (go_at_call 125; refine (listSw k A c r n _ HG1.out HC.out HN.out).mono ?_; rintro e w2 ⟨v7, rfl, ho, hb⟩; have HK := Aside0.mk ho; have HBX2 := Aside0.mk (blk_below HBX.out hb); have HLT := Aside0.mk (show gb < w1.heap.size from blk_lt HBX.out); have HB2 := Aside0.mk (below_then HB1.out HB1.out.size hb); clear ho hb)
   | ((with_reducible refine gate_ (.store 43 (.tmp 2) (.tmp 4)) rfl ?_); refine box_store rfl rfl 43 (.tmp 2) (.tmp 4) rfl gb 43 nodeZero (nodeVal n v7) (nodeCells n v7) rfl rfl rfl node_size (node_one HK.out.slice) HBX2.out rfl ?_; intro W' hbk hgr))
 refine bodyPost_ret (results_cell_row rfl _ _ gb 43 _ (0, 0) _ rfl hbk Tryz.underlying43 rfl node_size) rfl ?_
 refine ⟨v7, rfl, (HK.out.grown hgr HLT.out).lower HB1.out.size, pw_below_grown HB2.out (some gb) HB2.out.size hgr (fun k e => by cases e; rw [HGB.out]; exact Nat.le_refl _)⟩
end Go.Proofs.YtednjmngalmdkaaGreatDoor.GPC
end
section
/- impl.tree, impl.Swaps: the door of this law. Conditions: the printed functions' answers; the tables as laid. -/
namespace Go.Proofs.YtednjmngalmdkaaGreatDoor.GPC
open Go.RowKit Go.Proofs.YtednjmngalmdkaaGreatDoorW.PrintWords Go.Proofs.YtednjmngalmdkaaGreatDoorW.PrintLast
set_option linter.unusedVariables false
set_option linter.unusedSimpArgs false
attribute [local go_sem] run_store_float
theorem idleSwaps (p q : Addr) (w : World) :
  CallsD Tryz.prog 186 #[.pointer (some p), .pointer (some q)] .returning w fun e u' w' => e = .returned (.tuple #[]) ∧ u' = .returning ∧ w' = w := by
 refine callsD_of_wpS Tryz.func186 rfl fun c₀ cs hu => ?_
 apply wpS_seq
 apply wpS_region
 simp [wpOpsS, go_sem, recoverD, hu, Tryz.ntmps186, Exit.thenS]
 refine wpS_cond (t := false) (by simp [Act.eval, Array.replicate]) ?_
 simp only [Bool.false_eq_true, if_false]
 refine wpS_of_wp (wp_skip ?_)
 cases c₀
 simp_all [bodyPostS, results, Tryz.results186]
set_option maxHeartbeats 8000000 in
set_option maxRecDepth 100000 in
theorem treeSwaps (k : Nat) (text : ByteArray) (r : List S153) (n : S43) (w : World) (hT : TabW w) (h : swTextF k text = some (r, none)) (hn : nodeSwaps k r = some n) :
  Calls Tryz.prog 122 #[.func (.func 123) #[.agg #[.string text]] #[], .func (.func 124) #[] #[]] w fun e w' => ∃ v7, e = .returned (.tuple #[nodeVal n v7, .int .i64 0]) ∧ KidsV n w w' v7 ∧ Below w.heap.size w w' := by
 have hmf : ∀ (fn : Fn) (first cap : Array Value) (w : World), (Instr.makeFunc fn first cap).run Tryz.prog w = .ok (.func fn first cap) w := fun _ _ _ _ => rfl
 have HT := Aside0.mk hT
 have HL := Aside0.mk h
 have HN := Aside0.mk hn
 clear hT h hn
 go_enter_defers Tryz.func122, Tryz.ntmps122
 go_wp2_with (first
   | ((with_reducible refine gate_dst (N := 4) rfl ?_); refine box_event ?hg (N := 4) ?hd (cs := nodeZero) (t := 43) ?hr ?_; (case hd => rfl); (case hg => rfl); (case hr => first | (go_simp; done) | (go_simp; rfl)); intro gb hgb w1 hbox hb1; have HBX := Aside0.mk hbox; have HB1 := Aside0.mk hb1; have HGB := Aside0.mk hgb; clear hgb hbox hb1)
   | ((with_reducible refine gate_dst (N := 5) rfl ?_); refine box_event ?hg (N := 5) ?hd (cs := #[.int .i64 0]) (t := 3) ?hr ?_; (case hd => rfl); (case hg => rfl); (case hr => first | (go_simp; done) | (go_simp; rfl)); intro gc hgc w2 hboxc hb2; have HBC := Aside0.mk hboxc; have HBX2 := Aside0.mk (blk_below HBX.out hb2); have HB2 := Aside0.mk (below_then HB1.out HB1.out.size hb2); have HGC := Aside0.mk hgc; have HCG := Aside0.mk (show gb < gc by rw [hgc]; exact blk_lt HBX.out); have HWC := Aside0.mk (show w.heap.size ≤ gc by rw [hgc]; exact HB1.out.size); clear hgc hboxc hb2)
   | (go_at_call 123; refine (fsSwaps k text r _ (tabW_below HT.out HB2.out) HL.out).mono ?_; rintro e w3 ⟨vr, rfl, hg2, hb3⟩; obtain ⟨Ar, cr, rfl, hlr, hCr⟩ := Kd.R_reads hg2; have HG := Aside0.mk hCr; have HGL := Aside0.mk hlr; have HBX3 := Aside0.mk (blk_below HBX2.out hb3); have HBC3 := Aside0.mk (blk_below HBC.out hb3); have HB3 := Aside0.mk (below_then HB2.out HB2.out.size hb3); clear hg2 hb3 hlr hCr)
   | (go_at_call 124; refine (litSwaps k Ar cr r n _ HG.out HGL.out HN.out).mono ?_; rintro e w4 ⟨v7, rfl, ho, hb4⟩; have HK := Aside0.mk ho; have HBX4 := Aside0.mk (blk_below HBX3.out hb4); have HBC4 := Aside0.mk (blk_below HBC3.out hb4); have HB4 := Aside0.mk (below_then HB3.out HB3.out.size hb4); have HLC := Aside0.mk (show gc < w3.heap.size from blk_lt HBC3.out); clear ho hb4)
   | ((with_reducible refine gate_ (.store 43 (.tmp 4) (.tmp 19)) rfl ?_); refine box_store rfl rfl 43 (.tmp 4) (.tmp 19) rfl gb 43 nodeZero (nodeVal n v7) (nodeCells n v7) rfl rfl rfl node_size (node_one HK.out.slice) HBX4.out rfl ?_; intro W5 hbk hgr; have HBK5 := Aside0.mk hbk; have HK5 := Aside0.mk (HK.out.grown hgr (Nat.lt_trans HCG.out HLC.out)); have HBC5 := Aside0.mk (blk_grown HBC4.out hgr (by have := HCG.out; intro e; injection e with e; omega)); have HB5 := Aside0.mk (pw_below_grown HB4.out (some gb) HB4.out.size hgr (fun k e => by cases e; rw [HGB.out]; exact Nat.le_refl _)); have hfc := blk_frozen HBC5.out 0; have hcc : W5.cell? ⟨gc, 0, none⟩ = some (.int .i64 0) := (blk_cell HBC5.out 0).trans rfl; clear hbk hgr))
 have hbk6 := blk_far HBK5.out (p := ⟨gc, 0, none⟩) (by have := HCG.out; show gb ≠ gc; omega) (.int .i64 0)
 have hbc6 := blk_put HBC5.out 0 (.int .i64 0) rfl
 have HB6 := below_set HB5.out HWC.out (j := 0) (v := .int .i64 0)
 have HK6 := (HK5.out.grown (grown_set W5 gc 0 (.int .i64 0)) HLC.out).lower HB3.out.size
 generalize W5.setCell ⟨gc, 0, none⟩ (.int .i64 0) = W6 at hbk6 hbc6 HB6 HK6 ⊢
 have cc : W6.cell? ⟨gc, 0, none⟩ = some (.int .i64 0) := (blk_cell hbc6 0).trans rfl
 have cb0 : W6.cell? ⟨gb, 0, none⟩ = some (.string n.f0) := (blk_cell hbk6 0).trans rfl
 have cb1 : W6.cell? ⟨gb, 1, none⟩ = some (.int .i64 n.f1) := (blk_cell hbk6 1).trans rfl
 have cb2 : W6.cell? ⟨gb, 2, none⟩ = some (.bool n.f2) := (blk_cell hbk6 2).trans rfl
 have cb3 : W6.cell? ⟨gb, 3, none⟩ = some (.int .i64 n.f3) := (blk_cell hbk6 3).trans rfl
 have cb4 : W6.cell? ⟨gb, 4, none⟩ = some (.int .u64 n.f4) := (blk_cell hbk6 4).trans rfl
 have cb5 : W6.cell? ⟨gb, 5, none⟩ = some (.float .f64 n.f5) := (blk_cell hbk6 5).trans rfl
 have cb6 : W6.cell? ⟨gb, 6, none⟩ = some (.string n.f6) := (blk_cell hbk6 6).trans rfl
 have cb7 : W6.cell? ⟨gb, 7, none⟩ = some (v7) := (blk_cell hbk6 7).trans rfl
 refine leaves_cons (f := 186) (args := #[.pointer (some ⟨gb, 0, none⟩), .pointer (some ⟨gc, 0, none⟩)]) (by simp) (by simp [go_sem]) ?_
 refine (idleSwaps _ _ _).mono ?_
 rintro e u' w'' ⟨rfl, rfl, rfl⟩
 simp [Leaves, settle, results, Tryz.results122, go_sem, cb0, cb1, cb2, cb3, cb4, cb5, cb6, cb7, cc]
 exact ⟨v7, rfl, HK6, HB6⟩
set_option maxHeartbeats 8000000 in
set_option maxRecDepth 100000 in
theorem implSwaps (k : Nat) (text : ByteArray) (r : List S153) (n : S43) (w : World) (hT : TabW w) (h : swTextF k text = some (r, none)) (hn : nodeSwaps k r = some n) :
  Calls Tryz.prog 41 #[.string text] w fun e w' => ∃ v7, e = .returned (.tuple #[nodeVal n v7, .int .i64 0]) ∧ KidsV n w w' v7 ∧ Below w.heap.size w w' := by
 have hmf : ∀ (fn : Fn) (first cap : Array Value) (w : World), (Instr.makeFunc fn first cap).run Tryz.prog w = .ok (.func fn first cap) w := fun _ _ _ _ => rfl
 have HT := Aside0.mk hT
 have HL := Aside0.mk h
 have HN := Aside0.mk hn
 clear hT h hn
 go_enter Tryz.func41, Tryz.ntmps41
 go_wp2_with (first
   | ((with_reducible refine gate_dst (N := 2) rfl ?_); refine box_event ?hg (N := 2) ?hd (cs := nodeZero) (t := 43) ?hr ?_; (case hd => rfl); (case hg => rfl); (case hr => first | (go_simp; done) | (go_simp; rfl)); intro gb hgb w1 hbox hb1; have HBX := Aside0.mk hbox; have HB1 := Aside0.mk hb1; have HGB := Aside0.mk hgb; clear hgb hbox hb1)
   | (go_at_call 57; refine (procfs_TextFS.calls text text _ rfl).mono ?_; rintro e w2 ⟨rfl, hb2⟩; have HBX2 := Aside0.mk (blk_below HBX.out hb2); have HB2 := Aside0.mk (below_then HB1.out HB1.out.size hb2); clear hb2)
   | (go_at_call 122; refine (treeSwaps k text r n _ (tabW_below HT.out HB2.out) HL.out HN.out).mono ?_; rintro e w3 ⟨v7, rfl, ho, hb3⟩; have HK := Aside0.mk ho; have HBX3 := Aside0.mk (blk_below HBX2.out hb3); have HB3 := Aside0.mk (below_then HB2.out HB2.out.size hb3); have HLT := Aside0.mk (show gb < w2.heap.size from blk_lt HBX2.out); clear ho hb3)
   | ((with_reducible refine gate_ (.store 43 (.tmp 2) (.tmp 8)) rfl ?_); refine box_store rfl rfl 43 (.tmp 2) (.tmp 8) rfl gb 43 nodeZero (nodeVal n v7) (nodeCells n v7) rfl rfl rfl node_size (node_one HK.out.slice) HBX3.out rfl ?_; intro W' hbk hgr))
 refine bodyPost_ret (results_cell_tmp rfl _ _ gb 43 _ (0, 0) _ rfl hbk Tryz.underlying43 rfl node_size) rfl ?_
 refine ⟨v7, rfl, (HK.out.grown hgr HLT.out).lower HB2.out.size, pw_below_grown HB3.out (some gb) HB3.out.size hgr (fun k e => by cases e; rw [HGB.out]; exact Nat.le_refl _)⟩
def doorSwaps (s : ByteArray) (n : S43) : Prop := ∃ k r, swTextF k s = some (r, none) ∧ nodeSwaps k r = some n
theorem doorSwaps_calls (text : ByteArray) (n : S43) (w : World) (hT : TabW w) (h : doorSwaps text n) :
  Calls Tryz.prog 41 #[.string text] w fun e w' => ∃ v7, e = .returned (.tuple #[nodeVal n v7, .int .i64 0]) ∧ KidsV n w w' v7 ∧ Below w.heap.size w w' := by
 obtain ⟨k, r, h1, h2⟩ := h
 exact implSwaps k text r n w hT h1 h2
end Go.Proofs.YtednjmngalmdkaaGreatDoor.GPC
end
section
/- laws.back at Swaps: it answers true where BackOk holds. Conditions: BackOk; the tables as laid. -/
namespace Go.Proofs.YtednjmngalmdkaaGreatDoor.GPC
open Go.RowKit Go.Proofs.YtednjmngalmdkaaGreatDoorW.PrintWords Go.Proofs.YtednjmngalmdkaaGreatDoorW.PrintLast
set_option linter.unusedVariables false
set_option linter.unusedSimpArgs false
attribute [local go_sem] run_store_float
set_option maxHeartbeats 16000000 in
set_option maxRecDepth 100000 in
theorem backSwaps (A0 : Option Addr) (c0 : Nat) (l0 : List S31) (w : World) (hr0 : Kd.C k31 w A0 l0.length l0) (hc0 : l0.length ≤ c0) (hT : TabW w) (h : BackOk (fun k => spec_SwapsPrint.f k l0) (fun k => spec_SwapsTree.f k l0) (fun s n => doorSwaps s n) l0) :
  Calls Tryz.prog 14 #[.slice A0 l0.length c0, .func (.func 39) #[] #[], .func (.func 40) #[] #[], .func (.func 41) #[] #[]] w fun e w' => e = .returned (.bool true) ∧ Below w.heap.size w w' := by
 have HR := Aside0.mk hr0
 have HT := Aside0.mk hT
 have HC := Aside0.mk hc0
 clear hr0 hT hc0
 cases h with
 | long h1 =>
  have d1 : decide ((l0.length : Int) > 1000) = true := decide_eq_true (by omega)
  have d1' : decide (1000 < l0.length) = true := decide_eq_true (by omega)
  go_enter Tryz.func14, Tryz.ntmps14
  go_wp2
  go_ret
  exact ⟨rfl, Below.refl _ _⟩
 | noPrint h1 k text told hp hno =>
  have d1 : decide ((l0.length : Int) > 1000) = false := decide_eq_false (by omega)
  have d1' : decide (1000 < l0.length) = false := decide_eq_false (by omega)
  have HP := Aside0.mk hp
  clear hp h1
  go_enter Tryz.func14, Tryz.ntmps14
  have hd : (told != 1) = true ∨ (told != 1) = false ∧ decide ((text.size : Int) > 40000) = true := by
   rcases hno with hh | hh
   ·exact .inl (by simpa using hh)
   ·by_cases he : told = 1
    ·exact .inr ⟨by simp [he], decide_eq_true (by omega)⟩
    ·exact .inl (by simpa using he)
  rcases hd with q1 | ⟨q1, q2⟩
  all_goals (go_wp2_with (first
   | (go_at_call 39; refine (spec_SwapsPrint.calls k A0 c0 l0 text told _ HR.out HC.out HP.out).mono ?_; rintro e w1 ⟨rfl, hb⟩; have HB1 := Aside0.mk hb; clear hb)
   | (go_at_call 46; refine (lives_calls _ (tabW_below HT.out HB1.out)).mono ?_; rintro e w2 ⟨rfl, hb⟩; have HB2 := Aside0.mk (below_then HB1.out HB1.out.size hb); clear hb)))
  all_goals go_ret
  all_goals exact ⟨rfl, HB2.out⟩
 | noTree h1 k text hp hsz r tt ht hno =>
  have d1 : decide ((l0.length : Int) > 1000) = false := decide_eq_false (by omega)
  have d1' : decide (1000 < l0.length) = false := decide_eq_false (by omega)
  have q2 : decide ((text.size : Int) > 40000) = false := decide_eq_false (by omega)
  have q2' : decide (40000 < text.size) = false := decide_eq_false (by omega)
  have q3 : (tt != 1) = true := by simpa using hno
  have HP := Aside0.mk hp
  have HTR := Aside0.mk ht
  clear hp ht h1 hno hsz
  obtain ⟨r1, r2, r3, r4, r5, r6, r7, r8⟩ := r
  go_enter Tryz.func14, Tryz.ntmps14
  go_wp2_with (first
   | (go_at_call 39; refine (spec_SwapsPrint.calls k A0 c0 l0 text 1 _ HR.out HC.out HP.out).mono ?_; rintro e w1 ⟨rfl, hb⟩; have HB1 := Aside0.mk hb; clear hb)
   | (go_at_call 40; refine (spec_SwapsTree.calls k A0 c0 l0 r1 r2 r3 r4 r5 r6 r7 r8 tt _ (Kd.C_below HR.out HB1.out) HC.out HTR.out).mono ?_; rintro e w2 ⟨v7, rfl, hv, hb⟩; have HB2 := Aside0.mk (below_then HB1.out HB1.out.size hb); clear hb)
   | ((with_reducible refine gate_dst (N := 11) rfl ?_); refine box_event ?hg (N := 11) ?hd (cs := nodeZero) (t := 39) ?hr ?_; (case hd => rfl); (case hg => rfl); (case hr => first | (go_simp; done) | (go_simp; rfl)); intro gb hgb w3 hbox hb; have HBX := Aside0.mk hbox; have HB3 := Aside0.mk (below_then HB2.out HB2.out.size hb); have HGB := Aside0.mk (show w.heap.size ≤ gb by rw [hgb]; exact HB2.out.size); clear hgb hbox hb)
   | ((with_reducible refine gate_ (.store 39 (.tmp 11) (.tmp 35)) rfl ?_); refine box_store rfl rfl 39 (.tmp 11) (.tmp 35) rfl gb 39 nodeZero (snodeVal ⟨r1, r2, r3, r4, r5, r6, r7, r8⟩ v7) (snodeCells ⟨r1, r2, r3, r4, r5, r6, r7, r8⟩ v7) rfl rfl rfl snode_size (snode_one (Kd.V_sl hv)) HBX.out rfl ?_; intro w4 hbk hgr; have HB4 := Aside0.mk (pw_below_grown HB3.out (some gb) HB3.out.size hgr (fun k e => by cases e; exact HGB.out)); clear hbk hgr)
   | (go_at_call 46; refine (lives_calls _ (tabW_below HT.out HB4.out)).mono ?_; rintro e w5 ⟨rfl, hb⟩; have HB5 := Aside0.mk (below_then HB4.out HB4.out.size hb); clear hb))
  go_ret
  exact ⟨rfl, HB5.out⟩
 | same h1 k text hp hsz r ht n hd k2 m hm hs =>
  have d1 : decide ((l0.length : Int) > 1000) = false := decide_eq_false (by omega)
  have d1' : decide (1000 < l0.length) = false := decide_eq_false (by omega)
  have q2 : decide ((text.size : Int) > 40000) = false := decide_eq_false (by omega)
  have q2' : decide (40000 < text.size) = false := decide_eq_false (by omega)
  have HP := Aside0.mk hp
  have HTR := Aside0.mk ht
  have HD := Aside0.mk hd
  have HM := Aside0.mk hm
  have HS := Aside0.mk hs
  clear hp ht h1 hsz hd hm hs
  obtain ⟨r1, r2, r3, r4, r5, r6, r7, r8⟩ := r
  obtain ⟨m1, m2, m3, m4, m5, m6, m7, m8⟩ := m
  go_enter Tryz.func14, Tryz.ntmps14
  go_wp2_with (first
   | (go_at_call 39; refine (spec_SwapsPrint.calls k A0 c0 l0 text 1 _ HR.out HC.out HP.out).mono ?_; rintro e w1 ⟨rfl, hb⟩; have HB1 := Aside0.mk hb; clear hb)
   | (go_at_call 40; refine (spec_SwapsTree.calls k A0 c0 l0 r1 r2 r3 r4 r5 r6 r7 r8 1 _ (Kd.C_below HR.out HB1.out) HC.out HTR.out).mono ?_; rintro e w2 ⟨v7, rfl, hv, hb⟩; obtain ⟨At, ct, rfl, hlt, hFt⟩ := hv; have HCT := Aside0.mk (Kd.F_now hFt); have HLT := Aside0.mk hlt; have HB2 := Aside0.mk (below_then HB1.out HB1.out.size hb); clear hb hlt hFt)
   | ((with_reducible refine gate_dst (N := 11) rfl ?_); refine box_event ?hg (N := 11) ?hd (cs := nodeZero) (t := 39) ?hr ?_; (case hd => rfl); (case hg => rfl); (case hr => first | (go_simp; done) | (go_simp; rfl)); intro gb hgb w3 hbox hb; have HBX := Aside0.mk hbox; have HB3 := Aside0.mk hb; have HGB := Aside0.mk (show w2.heap.size ≤ gb by rw [hgb]; exact Nat.le_refl _); clear hgb hbox hb)
   | ((with_reducible refine gate_ (.store 39 (.tmp 11) (.tmp 35)) rfl ?_); refine box_store rfl rfl 39 (.tmp 11) (.tmp 35) rfl gb 39 nodeZero (snodeVal ⟨r1, r2, r3, r4, r5, r6, r7, r8⟩ (.slice At r8.length ct)) (snodeCells ⟨r1, r2, r3, r4, r5, r6, r7, r8⟩ (.slice At r8.length ct)) rfl rfl rfl snode_size (snode_one ⟨_, _, rfl⟩) HBX.out rfl ?_; intro w4 hbk hgr; have HW := Aside0.mk hbk; have HB4 := Aside0.mk (pw_below_grown HB3.out (some gb) HB3.out.size hgr (fun k e => by cases e; exact HGB.out)); clear hbk hgr)
   | (go_at_call 41; refine (doorSwaps_calls text n _ (tabW_below HT.out (below_then HB2.out HB2.out.size HB4.out)) HD.out).mono ?_; rintro e w5 ⟨v9, rfl, ho, hb⟩; obtain ⟨Ag, cg, rfl⟩ := ho.slice; obtain ⟨_, hlg, hCg⟩ := Kd.R_reads' ho; have HCG := Aside0.mk hCg; have HLG := Aside0.mk hlg; have HW5 := Aside0.mk (blk_below HW.out hb); have HB5 := Aside0.mk (below_then HB4.out HB4.out.size hb); clear ho hb hlg hCg)
   | ((with_reducible refine gate_dst (N := 12) rfl ?_); refine box_event ?hg (N := 12) ?hd (cs := nodeZero) (t := 43) ?hr ?_; (case hd => rfl); (case hg => rfl); (case hr => first | (go_simp; done) | (go_simp; rfl)); intro gc hgc w6 hbox hb; have HCX := Aside0.mk hbox; have HW6 := Aside0.mk (blk_below HW5.out hb); have HB6 := Aside0.mk hb; have HGC := Aside0.mk (show w5.heap.size ≤ gc by rw [hgc]; exact Nat.le_refl _); have HNE := Aside0.mk (show gb < gc by rw [hgc]; exact blk_lt HW5.out); clear hgc hbox hb)
   | ((with_reducible refine gate_ (.store 43 (.tmp 12) (.tmp 44)) rfl ?_); refine box_store rfl rfl 43 (.tmp 12) (.tmp 44) rfl gc 43 nodeZero (nodeVal n (.slice Ag n.f7.length cg)) (nodeCells n (.slice Ag n.f7.length cg)) rfl rfl rfl node_size (node_one ⟨_, _, rfl⟩) HCX.out rfl ?_; intro w7 hbk hgr; have HG7 := Aside0.mk hbk; have HW7 := Aside0.mk (blk_grown HW6.out hgr (by have := HNE.out; intro e; injection e with e; omega)); have HB7 := Aside0.mk (pw_below_grown HB6.out (some gc) HB6.out.size hgr (fun k e => by cases e; exact HGC.out)); clear hbk hgr))
  have HB27 := Aside0.mk (below_then HB5.out HB5.out.size HB7.out)
  have HB07 := Aside0.mk (below_then HB2.out HB2.out.size HB27.out)
  have KA : Aside0 (∀ W : World, Below w7.heap.size w7 W → (Below w7.heap.size w7 W ∧ W.cell? ⟨gc, 0, none⟩ = some (.string n.f0) ∧ W.cell? ⟨gc, 1, none⟩ = some (.int .i64 n.f1) ∧ W.cell? ⟨gc, 2, none⟩ = some (.bool n.f2) ∧ W.cell? ⟨gc, 3, none⟩ = some (.int .i64 n.f3) ∧ W.cell? ⟨gc, 4, none⟩ = some (.int .u64 n.f4) ∧ W.cell? ⟨gc, 5, none⟩ = some (.float .f64 n.f5) ∧ W.cell? ⟨gc, 6, none⟩ = some (.string n.f6) ∧ W.cell? ⟨gc, 7, none⟩ = some (.slice Ag n.f7.length cg) ∧ W.cell? ⟨gb, 0, none⟩ = some (.string r1) ∧ W.cell? ⟨gb, 1, none⟩ = some (.int .i64 r2) ∧ W.cell? ⟨gb, 2, none⟩ = some (.bool r3) ∧ W.cell? ⟨gb, 3, none⟩ = some (.int .i64 r4) ∧ W.cell? ⟨gb, 4, none⟩ = some (.int .u64 r5) ∧ W.cell? ⟨gb, 5, none⟩ = some (.float .f64 r6) ∧ W.cell? ⟨gb, 6, none⟩ = some (.string r7) ∧ W.cell? ⟨gb, 7, none⟩ = some (.slice At r8.length ct))) := ⟨fun W hb => by
   have h1 := blk_below HG7.out hb
   have h2 := blk_below HW7.out hb
   exact ⟨hb, (blk_cell h1 0).trans rfl, (blk_cell h1 1).trans rfl, (blk_cell h1 2).trans rfl, (blk_cell h1 3).trans rfl, (blk_cell h1 4).trans rfl, (blk_cell h1 5).trans rfl, (blk_cell h1 6).trans rfl, (blk_cell h1 7).trans rfl, (blk_cell h2 0).trans rfl, (blk_cell h2 1).trans rfl, (blk_cell h2 2).trans rfl, (blk_cell h2 3).trans rfl, (blk_cell h2 4).trans rfl, (blk_cell h2 5).trans rfl, (blk_cell h2 6).trans rfl, (blk_cell h2 7).trans rfl⟩⟩
  go_region_held3 (fun W => Below w7.heap.size w7 W ∧ W.cell? ⟨gc, 0, none⟩ = some (.string n.f0) ∧ W.cell? ⟨gc, 1, none⟩ = some (.int .i64 n.f1) ∧ W.cell? ⟨gc, 2, none⟩ = some (.bool n.f2) ∧ W.cell? ⟨gc, 3, none⟩ = some (.int .i64 n.f3) ∧ W.cell? ⟨gc, 4, none⟩ = some (.int .u64 n.f4) ∧ W.cell? ⟨gc, 5, none⟩ = some (.float .f64 n.f5) ∧ W.cell? ⟨gc, 6, none⟩ = some (.string n.f6) ∧ W.cell? ⟨gc, 7, none⟩ = some (.slice Ag n.f7.length cg) ∧ W.cell? ⟨gb, 0, none⟩ = some (.string r1) ∧ W.cell? ⟨gb, 1, none⟩ = some (.int .i64 r2) ∧ W.cell? ⟨gb, 2, none⟩ = some (.bool r3) ∧ W.cell? ⟨gb, 3, none⟩ = some (.int .i64 r4) ∧ W.cell? ⟨gb, 4, none⟩ = some (.int .u64 r5) ∧ W.cell? ⟨gb, 5, none⟩ = some (.float .f64 r6) ∧ W.cell? ⟨gb, 6, none⟩ = some (.string r7) ∧ W.cell? ⟨gb, 7, none⟩ = some (.slice At r8.length ct))
   (first
    | exact KA.out _ (below_drew (Below.refl _ _))
    | (go_split_ands; exact KA.out _ (keepS (by assumption) hb'))
    | (go_split_ands; exact KA.out _ (below_drew (by assumption))))
   (first
    | (go_at_call 48; (with_reducible refine (laws_toNode.calls k2 n.f0 n.f1 n.f2 n.f3 n.f4 n.f5 n.f6 Ag cg n.f7 m1 m2 m3 m4 m5 m6 m7 m8 _ (by go_split_ands; exact Kd.C_below HCG.out (keepS HB7.out (by assumption))) HLG.out HM.out).mono ?_); rintro e w' ⟨v9, rfl, hom, hb'⟩; obtain ⟨Am, cm, rfl⟩ := Kd.R_slice hom)
    | (go_at_call 47; (with_reducible refine (spec_SameNode.calls k2 m1 m2 m3 m4 m5 m6 m7 Am cm m8 r1 r2 r3 r4 r5 r6 r7 At ct r8 true _ (by first | exact (Kd.R_reads' hom).2.2 | exact Kd.C_below (Kd.R_reads' hom).2.2 (below_drew (Below.refl _ _))) (Kd.R_reads' hom).2.1 (by go_split_ands; exact Kd.C_below HCT.out (keepS HB27.out (by assumption))) HLT.out HS.out).mono ?_); rintro e w' ⟨rfl, hb'⟩)
    | (go_at_call 46; (with_reducible refine (lives_calls _ (by go_split_ands; exact tabW_below HT.out (keepS HB07.out (by assumption)))).mono ?_); rintro e w' ⟨rfl, hb'⟩))
  go_split_ands
  go_wp2
  go_ret
  exact ⟨rfl, keepS HB07.out (by assumption)⟩
end Go.Proofs.YtednjmngalmdkaaGreatDoor.GPC
end
section
/- laws.FnSwapsBack answers true where BackOk holds. Conditions: BackOk; the tables as laid. -/
namespace Go.Proofs.YtednjmngalmdkaaGreatDoor.GPC
open Go.RowKit Go.Proofs.YtednjmngalmdkaaGreatDoorW.PrintWords Go.Proofs.YtednjmngalmdkaaGreatDoorW.PrintLast
set_option linter.unusedVariables false
set_option maxHeartbeats 8000000 in
set_option maxRecDepth 100000 in
theorem lawSwaps (A0 : Option Addr) (c0 : Nat) (l0 : List S31) (w : World) (hr0 : Kd.C k31 w A0 l0.length l0) (hc0 : l0.length ≤ c0) (hT : TabW w) (k : Nat) (b : Bool) (hz : laws_zzFits5.f k l0 = some b)
  (h : b = true → BackOk (fun k => spec_SwapsPrint.f k l0) (fun k => spec_SwapsTree.f k l0) (fun s n => doorSwaps s n) l0) :
  Calls Tryz.prog 11 #[.slice A0 l0.length c0] w fun e w' => e = .returned (.bool true) ∧ Below w.heap.size w w' := by
 have HR := Aside0.mk hr0
 have HT := Aside0.mk hT
 have HC := Aside0.mk hc0
 have HZ := Aside0.mk hz
 have H := Aside0.mk h
 clear hr0 hT hc0 hz h
 cases b
 ·go_enter Tryz.func11, Tryz.ntmps11
  go_wp2_with (first
   | (go_at_call 13; refine (laws_zzFits5.calls k A0 c0 l0 false _ HR.out HC.out HZ.out).mono ?_; rintro e w1 ⟨rfl, hb⟩; have HB1 := Aside0.mk hb; clear hb))
  go_ret
  exact ⟨rfl, HB1.out⟩
 ·have H2 := Aside0.mk (H.out rfl)
  clear H
  go_enter Tryz.func11, Tryz.ntmps11
  go_wp2_with (first
   | (go_at_call 13; refine (laws_zzFits5.calls k A0 c0 l0 true _ HR.out HC.out HZ.out).mono ?_; rintro e w1 ⟨rfl, hb⟩; have HB1 := Aside0.mk hb; clear hb)
   | (go_at_call 14; refine (backSwaps A0 c0 l0 _ (Kd.C_below HR.out HB1.out) HC.out (tabW_below HT.out HB1.out) H2.out).mono ?_; rintro e w2 ⟨rfl, hb⟩; have HB2 := Aside0.mk (keepS HB1.out hb); clear hb))
  go_ret
  exact ⟨rfl, HB2.out⟩
end Go.Proofs.YtednjmngalmdkaaGreatDoor.GPC
end
section
/- Plain facts: a tree of the door, handed over, is the same tree; a tree is the same as itself. Conditions: a depth, lists of at most a million parts. -/
namespace Go.Proofs.YtednjmngalmdkaaGreatDoor.GPC
open Go Go.RowKit Go.Proofs.YtednjmngalmdkaaGreatDoorW.PrintWords Go.Proofs.YtednjmngalmdkaaGreatDoorW.PrintLast
set_option linter.unusedVariables false
def tup39 (n : S39) : N8 S39 := (n.f0, n.f1, n.f2, n.f3, n.f4, n.f5, n.f6, n.f7)
def convN : Nat → S43 → S39
 | 0, n => ⟨n.f0, n.f1, n.f2, n.f3, n.f4, n.f5, n.f6, []⟩
 | d + 1, n => ⟨n.f0, n.f1, n.f2, n.f3, n.f4, n.f5, n.f6, n.f7.map (convN d)⟩
def FitN : Nat → S43 → Prop
 | 0, n => n.f7 = []
 | d + 1, n => n.f7.length ≤ 1000000 ∧ ∀ x ∈ n.f7, FitN d x
def FitS : Nat → S39 → Prop
 | 0, n => n.f7 = []
 | d + 1, n => n.f7.length ≤ 1000000 ∧ ∀ x ∈ n.f7, FitS d x
theorem fit_conv : ∀ (d : Nat) (n : S43), FitN d n → FitS d (convN d n)
 | 0, n, h => rfl
 | d + 1, n, h => ⟨by simpa [convN] using h.1, fun x hx => by
   simp only [convN, List.mem_map] at hx
   obtain ⟨y, hy, rfl⟩ := hx
   exact fit_conv d y (h.2 y hy)⟩
theorem rd43 (l : List S43) (i : Nat) (h : i < l.length) : rd_T43 l (i : Int) = l[i] := by
 simp [rd_T43, List.getD_eq_getElem?_getD, List.getElem?_eq_getElem h]
theorem rd39 (l : List S39) (i : Nat) (h : i < l.length) : rd_T39 l (i : Int) = l[i] := by
 simp [rd_T39, List.getD_eq_getElem?_getD, List.getElem?_eq_getElem h]
theorem eta39 (x : S39) : (⟨(tup39 x).1, (tup39 x).2.1, (tup39 x).2.2.1, (tup39 x).2.2.2.1, (tup39 x).2.2.2.2.1, (tup39 x).2.2.2.2.2.1, (tup39 x).2.2.2.2.2.2.1, (tup39 x).2.2.2.2.2.2.2⟩ : S39) = x := by cases x; rfl
theorem toNode_loop (l : List S43) (hl : l.length ≤ 1000000) (g : S43 → S39) (hg : ∀ x ∈ l, Ev (fun k => laws_toNode.f k x.f0 x.f1 x.f2 x.f3 x.f4 x.f5 x.f6 x.f7) (tup39 (g x))) (a0 : ByteArray) (a1 : Int) (a2 : Bool) (a3 a4 : Int) (a5 : Nat) (a6 : ByteArray) :
  ∀ (d i : Nat) (acc : List S39), i + d = l.length → acc.length ≤ i → Ev (fun k => laws_toNode.l0 k l (l.length : Int) (i : Int) a0 a1 a2 a3 a4 a5 a6 acc) (a0, a1, a2, a3, a4, a5, a6, acc ++ (l.drop i).map g)
 | 0, i, acc, h, ha => by
  rw [List.drop_eq_nil_of_le (by omega), List.map_nil, List.append_nil]
  exact Ev.step (f := fun _ => some (a0, a1, a2, a3, a4, a5, a6, acc)) (fun k => by simp only [laws_toNode.l0]; rw [if_neg (by omega)]) (Ev.now _)
 | d + 1, i, acc, h, ha => by
  have hi : i < l.length := by omega
  have hw : wrap64 ((i : Int) + 1) = ((i + 1 : Nat) : Int) := by unfold wrap64; omega
  have hx := hg l[i] (List.getElem_mem hi)
  have ih := toNode_loop l hl g hg a0 a1 a2 a3 a4 a5 a6 d (i + 1) (acc ++ [g l[i]]) (by omega) (by simp; omega)
  rw [List.append_assoc, List.singleton_append, ← List.map_cons, ← List.drop_eq_getElem_cons hi] at ih
  refine Ev.step (fun k => by simp only [laws_toNode.l0]; rw [if_pos (by omega), if_pos (by omega), if_pos (by omega), rd43 l i hi, hw]) (Ev.bind (f := fun k (bt : N8 S39) => if acc.length < 1466015503701 then (laws_toNode.l0 k l (l.length : Int) ((i + 1 : Nat) : Int) a0 a1 a2 a3 a4 a5 a6 (acc ++ [(⟨bt.1, bt.2.1, bt.2.2.1, bt.2.2.2.1, bt.2.2.2.2.1, bt.2.2.2.2.2.1, bt.2.2.2.2.2.2.1, bt.2.2.2.2.2.2.2⟩ : S39)])) else none) hx ?_)
  exact Ev.congr (fun k => by rw [if_pos (by omega), eta39]) ih
theorem toNode_ev : ∀ (d : Nat) (n : S43), FitN d n → Ev (fun k => laws_toNode.f k n.f0 n.f1 n.f2 n.f3 n.f4 n.f5 n.f6 n.f7) (tup39 (convN d n))
 | 0, n, h => by
  have := toNode_loop n.f7 (by rw [show n.f7 = [] from h]; simp) (fun x => convN 0 x) (by rw [show n.f7 = [] from h]; simp) n.f0 n.f1 n.f2 n.f3 n.f4 n.f5 n.f6 n.f7.length 0 [] (by omega) (by simp)
  rw [List.drop_zero, List.nil_append] at this
  refine Ev.step (f := fun k => laws_toNode.l0 k n.f7 (n.f7.length : Int) 0 n.f0 n.f1 n.f2 n.f3 n.f4 n.f5 n.f6 []) (fun k => by simp only [laws_toNode.f]) ?_
  have e : tup39 (convN 0 n) = (n.f0, n.f1, n.f2, n.f3, n.f4, n.f5, n.f6, n.f7.map fun x => convN 0 x) := by
   rw [show n.f7 = [] from h]; rfl
  rw [e]
  exact this
 | d + 1, n, h => by
  have := toNode_loop n.f7 h.1 (convN d) (fun x hx => toNode_ev d x (h.2 x hx)) n.f0 n.f1 n.f2 n.f3 n.f4 n.f5 n.f6 n.f7.length 0 [] (by omega) (by simp)
  rw [List.drop_zero, List.nil_append] at this
  exact Ev.step (f := fun k => laws_toNode.l0 k n.f7 (n.f7.length : Int) 0 n.f0 n.f1 n.f2 n.f3 n.f4 n.f5 n.f6 []) (fun k => by simp only [laws_toNode.f]) this
theorem same_loop (n : S39) (hl : n.f7.length ≤ 1000000) (hg : ∀ x ∈ n.f7, Ev (fun k => spec_SameNode.f k x.f0 x.f1 x.f2 x.f3 x.f4 x.f5 x.f6 x.f7 x.f0 x.f1 x.f2 x.f3 x.f4 x.f5 x.f6 x.f7) true) :
  ∀ (d i : Nat), i + d = n.f7.length → Ev (fun k => spec_SameNode.l0 k (n.f7.length : Int) (i : Int) n.f0 n.f1 n.f2 n.f3 n.f4 n.f5 n.f6 n.f7 n.f0 n.f1 n.f2 n.f3 n.f4 n.f5 n.f6 n.f7) true
 | 0, i, h => Ev.step (f := fun _ => some true) (fun k => by simp only [spec_SameNode.l0]; rw [if_neg (by omega)]) (Ev.now _)
 | d + 1, i, h => by
  have hi : i < n.f7.length := by omega
  have hw : wrap64 ((i : Int) + 1) = ((i + 1 : Nat) : Int) := by unfold wrap64; omega
  have hx := hg n.f7[i] (List.getElem_mem hi)
  have ih := same_loop n hl hg d (i + 1) (by omega)
  refine Ev.step (fun k => by simp only [spec_SameNode.l0]; rw [if_pos (by omega), if_pos (by omega), if_pos (by omega), if_pos (by omega), rd39 n.f7 i hi, hw]) (Ev.bind (f := fun k t => if t = true then (spec_SameNode.l0 k (n.f7.length : Int) ((i + 1 : Nat) : Int) n.f0 n.f1 n.f2 n.f3 n.f4 n.f5 n.f6 n.f7 n.f0 n.f1 n.f2 n.f3 n.f4 n.f5 n.f6 n.f7) else none) hx ?_)
  exact Ev.congr (fun k => if_pos rfl) ih
theorem same_ev : ∀ (d : Nat) (n : S39), FitS d n → Ev (fun k => spec_SameNode.f k n.f0 n.f1 n.f2 n.f3 n.f4 n.f5 n.f6 n.f7 n.f0 n.f1 n.f2 n.f3 n.f4 n.f5 n.f6 n.f7) true := by
 have top : ∀ (n : S39), Ev (fun k => spec_SameNode.l0 k (n.f7.length : Int) 0 n.f0 n.f1 n.f2 n.f3 n.f4 n.f5 n.f6 n.f7 n.f0 n.f1 n.f2 n.f3 n.f4 n.f5 n.f6 n.f7) true → Ev (fun k => spec_SameNode.f k n.f0 n.f1 n.f2 n.f3 n.f4 n.f5 n.f6 n.f7 n.f0 n.f1 n.f2 n.f3 n.f4 n.f5 n.f6 n.f7) true := by
  intro n h
  refine Ev.step (f := fun k => spec_SameNode.j0 k ((n.f7.length : Int) != (n.f7.length : Int)) n.f0 n.f1 n.f2 n.f3 n.f4 n.f5 n.f6 n.f7 n.f0 n.f1 n.f2 n.f3 n.f4 n.f5 n.f6 n.f7) (fun k => ?_) (Ev.step (fun k => ?_) h)
  ·simp [spec_SameNode.f, math_Float64bits.f]
  ·simp only [spec_SameNode.j0]
   rw [if_neg (by simp)]
 intro d
 induction d with
 | zero =>
  intro n h
  have h7 : n.f7 = [] := h
  exact top n (same_loop n (by rw [h7]; simp) (by rw [h7]; simp) n.f7.length 0 (by omega))
 | succ d ih =>
  intro n h
  exact top n (same_loop n h.1 (fun x hx => ih x (h.2 x hx)) n.f7.length 0 (by omega))
theorem back_same {print : Nat → Option (ByteArray × Int)} {tree : Nat → Option (ByteArray × Int × Bool × Int × Int × Nat × ByteArray × List S39 × Int)} {door : ByteArray → S43 → Prop} {l : List S31} (h : l.length ≤ 1000) (text : ByteArray)
  (hp : Ev print (text, 1)) (hsz : text.size ≤ 40000) (d : Nat) (n : S43) (hf : FitN d n)
  (ht : Ev tree ((convN d n).f0, (convN d n).f1, (convN d n).f2, (convN d n).f3, (convN d n).f4, (convN d n).f5, (convN d n).f6, (convN d n).f7, 1)) (hd : door text n) : BackOk print tree door l := by
 obtain ⟨K1, h1⟩ := hp
 obtain ⟨K2, h2⟩ := ht
 obtain ⟨K3, h3⟩ := toNode_ev d n hf
 obtain ⟨K4, h4⟩ := same_ev d (convN d n) (fit_conv d n hf)
 exact BackOk.same h (K1 + K2) text (h1 _ (by omega)) hsz (tup39 (convN d n)) (h2 _ (by omega)) n hd (K3 + K4) (tup39 (convN d n)) (h3 _ (by omega)) (h4 _ (by omega))
end Go.Proofs.YtednjmngalmdkaaGreatDoor.GPC
end
section
/- Plain facts on the printed functions that all the rows share: sizes, bounds, digits. Conditions: lists of at most 2^47 cells. -/
namespace Go.Proofs.YtednjmngalmdkaaGreatDoor.GPC
open Go Go.RowKit Go.Proofs.YtednjmngalmdkaaGreatDoorW.PrintWords Go.Proofs.YtednjmngalmdkaaGreatDoorW.PrintLast Go.Proofs.YtednjmngalmdkaaGreatDoor.PF
set_option linter.unusedVariables false
theorem small_l (m : Int) (l : List Int) (hl : l.length ≤ maxLen) : ∀ (d : Nat) (i : Int), 0 ≤ i → i + d = l.length → Ev (fun k => spec_small.l0 k m l (l.length : Int) i) ((l.drop i.toNat).all fun x => decide (x < m))
 | 0, i, h0, h => by
  refine Ev.step (f := fun _ => some true) (fun k => by simp only [spec_small.l0]; rw [if_neg (by omega)]) ?_
  rw [List.drop_eq_nil_of_le (by omega)]
  exact Ev.now _
 | d + 1, i, h0, h => by
  have hm := hl
  unfold maxLen at hm
  have hw : wrap64 (i + 1) = i + 1 := by unfold wrap64; omega
  have hi : i.toNat < l.length := by omega
  have hrd : rd l i = l[i.toNat] := by simp [rd, List.getD_eq_getElem?_getD, List.getElem?_eq_getElem hi]
  rw [List.drop_eq_getElem_cons hi, List.all_cons, ← hrd]
  by_cases hc : rd l i ≥ m
  ·rw [decide_eq_false (by omega)]
   exact Ev.step (f := fun _ => some false) (fun k => by simp only [spec_small.l0]; rw [if_pos (by omega), if_pos h0, if_pos (by omega), if_pos hc]) (Ev.now _)
  ·rw [decide_eq_true (by omega), Bool.true_and]
   have ih := small_l m l hl d (i + 1) (by omega) (by omega)
   rw [show (i + 1).toNat = i.toNat + 1 by omega] at ih
   exact Ev.step (fun k => by simp only [spec_small.l0]; rw [if_pos (by omega), if_pos h0, if_pos (by omega), if_neg hc, hw]) ih
theorem small_ev (m : Int) (l : List Int) (hl : l.length ≤ maxLen) : Ev (fun k => spec_small.f k m l) (l.all fun x => decide (x < m)) := by
 have := small_l m l hl l.length 0 (by omega) (by omega)
 simp only [Int.toNat_zero, List.drop_zero] at this
 exact this
def strB (l : List UInt8) : ByteArray := ⟨l.toArray⟩
theorem hex_at : ∀ d : Fin 16, strOfNums [bt (⟨#[48, 49, 50, 51, 52, 53, 54, 55, 56, 57, 97, 98, 99, 100, 101, 102]⟩ : ByteArray) (d.val : Int)] = strB [dch d.val] := by decide
theorem hex_n (d : Nat) (h : d < 16) : strOfNums [bt (⟨#[48, 49, 50, 51, 52, 53, 54, 55, 56, 57, 97, 98, 99, 100, 101, 102]⟩ : ByteArray) (d : Int)] = strB [dch d] := hex_at ⟨d, h⟩
theorem u64_w {n : Int} (h0 : 0 ≤ n) (h1 : n < 18446744073709551616) : IntKind.u64.wrap n = n := by
 simp only [IntKind.wrap, IntKind.bits, IntKind.signed, Bool.false_and]
 exact Int.emod_eq_of_lt h0 h1
theorem strB_append (x y : List UInt8) : strB x ++ strB y = strB (x ++ y) := by
 apply ByteArray.ext
 simp [strB]
theorem strB_size (x : List UInt8) : (strB x).size = x.length := by simp [strB, ByteArray.size]
theorem digits_ev (b : Nat) (hb : 2 ≤ b) (hb2 : b ≤ 16) (n : Nat) (hn : n < 18446744073709551616) : Ev (fun k => spec_Digits.f k (n : Int) (b : Int)) (strB (digB b n)) ∧ (digB b n).length ≤ n + 1 := by
 induction n using Nat.strongRecOn with
 | _ n ih =>
  have hmod : n % b < 16 := Nat.lt_of_lt_of_le (Nat.mod_lt _ (by omega)) hb2
  have e1 : Int.tmod (n : Int) (b : Int) = ((n % b : Nat) : Int) := by rw [Int.tmod_eq_emod_of_nonneg (by omega)]; simp
  have e2 : Int.tdiv (n : Int) (b : Int) = ((n / b : Nat) : Int) := by rw [Int.tdiv_eq_ediv_of_nonneg (by omega)]; simp
  have hx := hex_n (n % b) hmod
  unfold digB
  by_cases h : n < b
  ·rw [dif_pos (.inl h)]
   rw [Nat.mod_eq_of_lt h] at hx e1
   refine ⟨Ev.step (f := fun _ => some (strB [dch n])) (fun k => ?_) (Ev.now _), by simp⟩
   simp only [spec_Digits.f]
   rw [if_neg (by omega), e1, if_pos (by omega), if_pos (by omega), if_pos (by omega), hx]
  ·rw [dif_neg (by omega)]
   have hlt : n / b < n := Nat.div_lt_self (by omega) (by omega)
   obtain ⟨ih1, ih2⟩ := ih (n / b) hlt (by omega)
   have hw : IntKind.u64.wrap (Int.tdiv (n : Int) (b : Int)) = ((n / b : Nat) : Int) := by
    rw [e2]
    generalize n / b = q at hlt ⊢
    exact u64_w (by omega) (by omega)
   have h64 : (digB b (n / b)).length ≤ 64 := by
    have := digB_length b (n / b) 63 hb (Nat.lt_of_lt_of_le (show n / b < 2 ^ 64 by omega) (Nat.pow_le_pow_left hb 64))
    exact this
   refine ⟨Ev.step (f := fun k => (spec_Digits.f k ((n / b : Nat) : Int) (b : Int)).bind fun t => if t.size + (strB [dch (n % b)]).size ≤ 9223372036854775807 then some (t ++ strB [dch (n % b)]) else none) (fun k => ?_) (Ev.bind (f := fun _ t => if t.size + (strB [dch (n % b)]).size ≤ 9223372036854775807 then some (t ++ strB [dch (n % b)]) else none) ih1 ?_), ?_⟩
   ·simp only [spec_Digits.f, Option.bind_some]
    rw [if_neg (by omega), e1, if_pos (by omega), if_pos (by omega), if_neg (by omega), hw, hx]
   ·rw [if_pos (by rw [strB_size, strB_size]; simp; omega), strB_append]
    exact Ev.now _
   ·simp; omega
theorem text_ev (n : Nat) (hn : n < 18446744073709551616) : Ev (fun k => spec_Text.f k (n : Int)) (strB (digB 10 n)) :=
 Ev.bind (f := fun _ t => some t) (digits_ev 10 (by omega) (by omega) n hn).1 (Ev.now _)
end Go.Proofs.YtednjmngalmdkaaGreatDoor.GPC
end
section
/- The sizes that zzFits5 lets through, told. No condition. -/
namespace Go.Proofs.YtednjmngalmdkaaGreatDoor.GPC
open Go Go.RowKit Go.Proofs.YtednjmngalmdkaaGreatDoorW.PrintWords Go.Proofs.YtednjmngalmdkaaGreatDoorW.PrintLast Go.Proofs.YtednjmngalmdkaaGreatDoor.PF
set_option linter.unusedVariables false
structure FitR (r : S31) : Prop where
 s : r.f0.size ≤ 2147483647
 n : r.f1.length ≤ 2147483647
 l : r.f2.length ≤ 2147483647
 w : ∀ x ∈ r.f2, x.size ≤ 2147483647
theorem rdOf_el (l : List ByteArray) (i : Int) (h0 : 0 ≤ i) (h : i.toNat < l.length) : rdOf ByteArray.empty l i = l[i.toNat] := by
 simp [rdOf, List.getD_eq_getElem?_getD, List.getElem?_eq_getElem h]
theorem rd31i (l : List S31) (i : Int) (h0 : 0 ≤ i) (h : i.toNat < l.length) : rd_T31 l i = l[i.toNat] := by
 simp [rd_T31, List.getD_eq_getElem?_getD, List.getElem?_eq_getElem h]
theorem zz4F (l : List ByteArray) (hl : l.length ≤ 2147483647) : ∀ (d : Nat) (i : Int), 0 ≤ i → i + d = l.length → ∃ b, Ev (fun k => laws_zzFits4.l0 k l (l.length : Int) i) b ∧ (b = true → ∀ x ∈ l.drop i.toNat, x.size ≤ 2147483647)
 | 0, i, h0, h => ⟨true, Ev.step (f := fun _ => some true) (fun k => by simp only [laws_zzFits4.l0]; rw [if_neg (by omega)]) (Ev.now _), fun _ x hx => by rw [List.drop_eq_nil_of_le (by omega)] at hx; cases hx⟩
 | d + 1, i, h0, h => by
  have hw : wrap64 (i + 1) = i + 1 := by unfold wrap64; omega
  have hi : i.toNat < l.length := by omega
  by_cases hc : ((rdOf ByteArray.empty l i).size : Int) > 2147483647
  ·exact ⟨false, Ev.step (f := fun _ => some false) (fun k => by simp only [laws_zzFits4.l0]; rw [if_pos (by omega), if_pos h0, if_pos (by omega), if_pos hc]) (Ev.now _), fun h => by cases h⟩
  ·obtain ⟨b, hb, hx⟩ := zz4F l hl d (i + 1) (by omega) (by omega)
   refine ⟨b, Ev.step (fun k => by simp only [laws_zzFits4.l0]; rw [if_pos (by omega), if_pos h0, if_pos (by omega), if_neg hc, hw]) hb, fun e x hm => ?_⟩
   rw [List.drop_eq_getElem_cons hi] at hm
   rcases List.mem_cons.1 hm with rfl | hm
   ·rw [rdOf_el l i h0 hi] at hc; omega
   ·exact hx e x (by rw [show (i + 1).toNat = i.toNat + 1 by omega]; exact hm)
theorem zz4fF (l : List ByteArray) : ∃ b, Ev (fun k => laws_zzFits4.f k l) b ∧ (b = true → l.length ≤ 2147483647 ∧ ∀ x ∈ l, x.size ≤ 2147483647) := by
 by_cases hl : (l.length : Int) > 2147483647
 ·exact ⟨false, Ev.congr (fun k => by simp only [laws_zzFits4.f]; rw [if_pos hl]) (Ev.now _), fun h => by cases h⟩
 ·obtain ⟨b, hb, hx⟩ := zz4F l (by omega) l.length 0 (by omega) (by omega)
  exact ⟨b, Ev.congr (fun k => by simp only [laws_zzFits4.f]; rw [if_neg hl]) hb, fun e => ⟨by omega, by simpa using hx e⟩⟩
theorem zz6fF (a : ByteArray) (n : List Int) (s : List ByteArray) : ∃ b, Ev (fun k => laws_zzFits6.f k a n s) b ∧ (b = true → FitR ⟨a, n, s⟩) := by
 by_cases h1 : (a.size : Int) > 2147483647
 ·exact ⟨false, Ev.congr (fun k => by simp only [laws_zzFits6.f]; rw [if_pos h1]) (Ev.now _), fun h => by cases h⟩
 ·by_cases h2 : (n.length : Int) > 2147483647
  ·exact ⟨false, Ev.congr (fun k => by simp only [laws_zzFits6.f]; rw [if_neg h1, if_pos h2]) (Ev.now _), fun h => by cases h⟩
  ·obtain ⟨b, hb, hx⟩ := zz4fF s
   refine ⟨if b = true then true else false, Ev.congr (f := fun k => (laws_zzFits4.f k s).bind fun t => if t = true then some true else some false) (fun k => by simp only [laws_zzFits6.f]; rw [if_neg h1, if_neg h2]) (Ev.bind (f := fun _ t => if t = true then some true else some false) hb ?_), ?_⟩
   ·cases b
    ·exact Ev.now _
    ·exact Ev.now _
   ·cases b
    ·intro h; cases h
    ·exact fun _ => ⟨(by show a.size ≤ 2147483647; omega), (by show n.length ≤ 2147483647; omega), (hx rfl).1, (hx rfl).2⟩
theorem zz5F (l : List S31) (hl : l.length ≤ 2147483647) : ∀ (d : Nat) (i : Int), 0 ≤ i → i + d = l.length → ∃ b, Ev (fun k => laws_zzFits5.l0 k l (l.length : Int) i) b ∧ (b = true → ∀ x ∈ l.drop i.toNat, FitR x)
 | 0, i, h0, h => ⟨true, Ev.step (f := fun _ => some true) (fun k => by simp only [laws_zzFits5.l0]; rw [if_neg (by omega)]) (Ev.now _), fun _ x hx => by rw [List.drop_eq_nil_of_le (by omega)] at hx; cases hx⟩
 | d + 1, i, h0, h => by
  have hw : wrap64 (i + 1) = i + 1 := by unfold wrap64; omega
  have hi : i.toNat < l.length := by omega
  obtain ⟨b6, h6, hx6⟩ := zz6fF ((rd_T31 l i).f0) ((rd_T31 l i).f1) ((rd_T31 l i).f2)
  have hstep : ∀ k, laws_zzFits5.l0 (k + 1) l (l.length : Int) i = (laws_zzFits6.f k ((rd_T31 l i).f0) ((rd_T31 l i).f1) ((rd_T31 l i).f2)).bind fun t => if t = true then laws_zzFits5.l0 k l (l.length : Int) (i + 1) else some false := fun k => by
   simp only [laws_zzFits5.l0]; rw [if_pos (by omega), if_pos h0, if_pos (by omega), hw]
  obtain ⟨b, hb, hx⟩ := zz5F l hl d (i + 1) (by omega) (by omega)
  cases b6
  ·exact ⟨false, Ev.step hstep (Ev.bind (f := fun k t => if t = true then laws_zzFits5.l0 k l (l.length : Int) (i + 1) else some false) h6 (Ev.now _)), fun h => by cases h⟩
  ·refine ⟨b, Ev.step hstep (Ev.bind (f := fun k t => if t = true then laws_zzFits5.l0 k l (l.length : Int) (i + 1) else some false) h6 hb), fun e x hm => ?_⟩
   rw [List.drop_eq_getElem_cons hi] at hm
   rcases List.mem_cons.1 hm with rfl | hm
   ·have := hx6 rfl
    rw [rd31i l i h0 hi] at this
    exact this
   ·exact hx e x (by rw [show (i + 1).toNat = i.toNat + 1 by omega]; exact hm)
theorem zz5fF (l : List S31) : ∃ k b, laws_zzFits5.f k l = some b ∧ (b = true → l.length ≤ 2147483647 ∧ ∀ x ∈ l, FitR x) := by
 by_cases hl : (l.length : Int) > 2147483647
 ·exact ⟨0, false, by simp only [laws_zzFits5.f]; rw [if_pos hl], fun h => by cases h⟩
 ·obtain ⟨b, hb, hx⟩ := zz5F l (by omega) l.length 0 (by omega) (by omega)
  obtain ⟨k, hk⟩ := hb.rounds
  exact ⟨k, b, by simp only [laws_zzFits5.f]; rw [if_neg hl]; exact hk, fun e => ⟨by omega, by simpa using hx e⟩⟩
theorem strB_of (s : ByteArray) : strB s.data.toList = s := by
 apply ByteArray.ext
 simp [strB]
end Go.Proofs.YtednjmngalmdkaaGreatDoor.GPC
end
section
/- Plain facts: a number of hundredths, written, is read as the same float. Condition: below 2^40. -/
namespace Go.Proofs.YtednjmngalmdkaaGreatDoor.GPC
open Go Go.RowKit Go.Proofs.YtednjmngalmdkaaGreatDoorW.PrintWords Go.Proofs.YtednjmngalmdkaaGreatDoorW.PrintLast Go.Proofs.YtednjmngalmdkaaGreatDoor.PF
set_option linter.unusedVariables false
theorem dig_len (n : Nat) (hn : n < 18446744073709551616) : (digB 10 n).length ≤ 20 := digB_length 10 n 19 (by omega) (by omega)
theorem dch10 : ∀ d : Fin 10, 48 ≤ (dch d.val).toNat ∧ (dch d.val).toNat ≤ 57 ∧ (dch d.val).toNat - 48 = d.val := by decide
theorem dch10n (d : Nat) (h : d < 10) : 48 ≤ (dch d).toNat ∧ (dch d).toNat ≤ 57 ∧ (dch d).toNat - 48 = d := dch10 ⟨d, h⟩
theorem dig10 (n : Nat) : ∀ c ∈ digB 10 n, 48 ≤ c.toNat ∧ c.toNat ≤ 57 := by
 induction n using Nat.strongRecOn with
 | _ n ih =>
  intro c hc
  unfold digB at hc
  by_cases h : n < 10
  ·rw [dif_pos (.inl h)] at hc
   simp only [List.mem_singleton] at hc
   subst hc
   exact ⟨(dch10n n h).1, (dch10n n h).2.1⟩
  ·rw [dif_neg (by omega)] at hc
   rcases List.mem_append.1 hc with hc | hc
   ·exact ih (n / 10) (by omega) c hc
   ·simp only [List.mem_singleton] at hc
    subst hc
    have := dch10n (n % 10) (Nat.mod_lt _ (by omega))
    exact ⟨this.1, this.2.1⟩
end Go.Proofs.YtednjmngalmdkaaGreatDoor.GPC
end
section
/- Plain facts: numbers written with a sign between, and read again as words. Conditions: at most 100,000 numbers of 64 bits. -/
namespace Go.Proofs.YtednjmngalmdkaaGreatDoor.GPC
open Go Go.RowKit Go.Proofs.YtednjmngalmdkaaGreatDoorW.PrintWords Go.Proofs.YtednjmngalmdkaaGreatDoorW.PrintLast Go.Proofs.YtednjmngalmdkaaGreatDoor.PF
set_option linter.unusedVariables false
theorem evG {α : Type} {c : Prop} [Decidable c] {A : Nat → Option α} {r : α} (h : c) (hA : Ev A r) : Ev (fun k => if c then A k else none) r := Ev.congr (fun k => if_pos h) hA
theorem evN {α : Type} {c : Prop} [Decidable c] {A B : Nat → Option α} {r : α} (h : ¬ c) (hA : Ev B r) : Ev (fun k => if c then A k else B k) r := Ev.congr (fun k => if_neg h) hA
theorem evP {α : Type} {c : Prop} [Decidable c] {A B : Nat → Option α} {r : α} (h : c) (hA : Ev A r) : Ev (fun k => if c then A k else B k) r := Ev.congr (fun k => if_pos h) hA
theorem evB {α β : Type} {g : Nat → Option α} {a : α} {F : Nat → α → Option β} {r : β} (h : Ev g a) (hF : Ev (fun k => F k a) r) : Ev (fun k => (g k).bind (F k)) r := Ev.bind (f := F) h hF
theorem rdB (l : List (List UInt8)) (i : Nat) (h : i < l.length) : rdOf ByteArray.empty (l.map strB) (i : Int) = strB l[i] := by
 simp [rdOf, List.getD_eq_getElem?_getD, h]
def intsOf (ns : List Nat) : List Int := ns.map Int.ofNat
theorem intsOf_len (ns : List Nat) : (intsOf ns).length = ns.length := by simp [intsOf]
theorem strNums2 (s : ByteArray) : strOfNums (s.data.toList.map fun b => (b.toNat : Int)) = s := by
 apply ByteArray.ext
 apply Array.toList_inj.1
 simp only [strOfNums]
 simp only [List.map_map]
 have e : ((fun n => UInt8.ofNat n.toNat) ∘ fun b : UInt8 => (b.toNat : Int)) = id := funext fun b => by simp [Function.comp]
 rw [e, List.map_id]
end Go.Proofs.YtednjmngalmdkaaGreatDoor.GPC
end
section
/- The lines of a written text, one by one: on lists of bytes alone. Conditions: as they say. -/
namespace Go.Proofs.YtednjmngalmdkaaGreatDoor.GPC
open Go Go.RowKit Go.Proofs.YtednjmngalmdkaaGreatDoorW.PrintWords Go.Proofs.YtednjmngalmdkaaGreatDoorW.PrintLast
set_option linter.unusedVariables false
theorem strB_dl (l : List UInt8) : (strB l).data.toList = l := by simp [strB]
theorem ext_strB (l : List UInt8) (i j : Nat) : (strB l).extract i j = strB ((l.drop i).take (j - i)) := by
 apply ByteArray.ext
 rw [ByteArray.data_extract]
 apply Array.toList_inj.1
 simp [strB, List.extract]
theorem lineEnd_lf (a b : List UInt8) (ha : ∀ c ∈ a, c ≠ 10) : GL.lineEnd (strB (a ++ 10 :: b)) = a.length := by
 unfold GL.lineEnd
 rw [strB_dl, List.findIdx_append]
 have h0 : List.findIdx (· == (10 : UInt8)) a = a.length := List.findIdx_eq_length.2 (fun x hx => by
  simp only [beq_eq_false_iff_ne]
  exact ha x hx)
 have h1 : List.findIdx (fun x => x == (10 : UInt8)) (10 :: b) = 0 := by simp [List.findIdx_cons]
 rw [h0, h1]
 simp
theorem lineOf_lf (a b : List UInt8) (ha : ∀ c ∈ a, c ≠ 10) : GL.lineOf (strB (a ++ 10 :: b)) = strB a := by
 unfold GL.lineOf
 rw [lineEnd_lf a b ha, ext_strB]
 simp
theorem restOf_lf (a b : List UInt8) (ha : ∀ c ∈ a, c ≠ 10) : GL.restOf (strB (a ++ 10 :: b)) = strB b := by
 unfold GL.restOf
 rw [lineEnd_lf a b ha, if_pos (by rw [strB_size]; simp), ext_strB, strB_size]
 have e : a ++ 10 :: b = (a ++ [10]) ++ b := by simp
 rw [e, List.drop_left' (l₁ := a ++ [10]) (by simp), List.take_of_length_le (by simp; omega)]
end Go.Proofs.YtednjmngalmdkaaGreatDoor.GPC
end
section
/- Loops over rows, in general: printed text, tree, lines read; the end of a plain law. Conditions: as they say. -/
namespace Go.Proofs.YtednjmngalmdkaaGreatDoor.GPC
open Go Go.RowKit Go.Proofs.YtednjmngalmdkaaGreatDoorW.PrintWords Go.Proofs.YtednjmngalmdkaaGreatDoorW.PrintLast Go.Proofs.YtednjmngalmdkaaGreatDoor.PF
set_option linter.unusedVariables false
theorem gints_of (r : S31) (hr : OP.RowOk r) : r.f1 = intsOf (r.f1.map Int.toNat) := by
 unfold intsOf
 rw [List.map_map]
 refine (List.map_id r.f1).symm.trans (List.map_congr_left fun a ha => ?_)
 have := (hr.2.1.2 a ha).1
 simp only [Function.comp, id]
 show a = ((a.toNat : Nat) : Int)
 omega
theorem grd31 (l : List S31) (i : Nat) (h : i < l.length) : rd_T31 l (i : Int) = l[i] := by
 simp [rd_T31, List.getD_eq_getElem?_getD, List.getElem?_eq_getElem h]
theorem gen_print {T : Type} (L : List UInt8 → Nat → Nat → Option (ByteArray × Int)) (n A B : Nat) (hM : A + B * n ≤ 100000000000000000) (line : T → List UInt8) (Good : Nat → T → Prop)
  (hend : ∀ acc, Ev (L acc n) (strB acc, 1))
  (hone : ∀ i, i < n → ∀ acc : List UInt8, acc.length ≤ 100000000000000000 → Ev (L acc i) (⟨#[]⟩, 2) ∨ ∃ t, Good i t ∧ (line t).length ≤ B ∧ ∀ r, Ev (L (acc ++ line t) (i + 1)) r → Ev (L acc i) r) :
  ∀ (d i : Nat) (acc : List UInt8), i + d = n → acc.length ≤ A + B * i →
   Ev (L acc i) (⟨#[]⟩, 2) ∨ ∃ ts : List T, ts.length = d ∧ (∀ (j : Nat) (h : j < ts.length), Good (i + j) ts[j]) ∧ Ev (L acc i) (strB (acc ++ ts.flatMap line), 1)
 | 0, i, acc, h, ha => by
  obtain rfl : i = n := by omega
  refine .inr ⟨[], rfl, fun j h => by simp at h, ?_⟩
  simpa using hend acc
 | d + 1, i, acc, h, ha => by
  have hB : B * i ≤ B * n := Nat.mul_le_mul_left B (by omega)
  rcases hone i (by omega) acc (by omega) with hb | ⟨t, hg, hl, ht⟩
  ·exact .inl hb
  ·have hB2 : B * (i + 1) = B * i + B := by rw [Nat.mul_add, Nat.mul_one]
   rcases gen_print L n A B hM line Good hend hone d (i + 1) (acc ++ line t) (by omega) (by simp only [List.length_append]; omega) with hb | ⟨ts, hts, hgs, he⟩
   ·exact .inl (ht _ hb)
   ·refine .inr ⟨t :: ts, by simp [hts], fun j h2 => ?_, ?_⟩
    ·match j with
     | 0 => exact hg
     | j + 1 =>
      have := hgs j (by simpa using h2)
      simp only [List.getElem_cons_succ]
      rw [show i + (j + 1) = i + 1 + j by omega]
      exact this
    ·have e : acc ++ line t ++ ts.flatMap line = acc ++ (t :: ts).flatMap line := by simp
     rw [e] at he
     exact ht _ he
theorem gen_list {S R : Type} (L : List S → Nat → Nat → Option R) (n : Nat) (node : Nat → S) (fin : List S → R)
  (hend : ∀ acc, acc.length ≤ n → Ev (L acc n) (fin acc)) (hone : ∀ i, i < n → ∀ acc : List S, acc.length ≤ i → ∀ r, Ev (L (acc ++ [node i]) (i + 1)) r → Ev (L acc i) r) :
  ∀ (d i : Nat) (acc : List S), i + d = n → acc.length ≤ i → Ev (L acc i) (fin (acc ++ (List.range' i d).map node))
 | 0, i, acc, h, ha => by
  obtain rfl : i = n := by omega
  simpa using hend acc ha
 | d + 1, i, acc, h, ha => by
  have ih := gen_list L n node fin hend hone d (i + 1) (acc ++ [node i]) (by omega) (by simp; omega)
  rw [List.append_assoc, List.singleton_append, ← List.map_cons] at ih
  have e : i :: List.range' (i + 1) d = List.range' i (d + 1) := by simp [List.range'_succ]
  rw [e] at ih
  exact hone i (by omega) acc ha _ ih
theorem range_map {T S : Type} (ts : List T) (f : T → S) (node : Nat → S) (h : ∀ (i : Nat) (hi : i < ts.length), node i = f ts[i]) : (List.range' 0 ts.length).map node = ts.map f := by
 apply List.ext_getElem
 ·simp
 ·intro i h1 h2
  simp only [List.length_map, List.length_range'] at h1
  simp [h i h1]
structure LnOk (l : List UInt8) : Prop where
 ne : l ≠ []
 ch : ∀ c ∈ l, c ≠ 10 ∧ c ≠ 13
 len : l.length < 65536
theorem line_ok (a b : List UInt8) (h : LnOk a) (hs : (a ++ 10 :: b).length ≤ 1000000) : ¬ (strB (a ++ 10 :: b)).size = 0 ∧ LineOk (strB (a ++ 10 :: b)) ∧ GL.lineOf (strB (a ++ 10 :: b)) = strB a ∧ GL.restOf (strB (a ++ 10 :: b)) = strB b := by
 have h10 : ∀ c ∈ a, c ≠ 10 := fun c hc => (h.ch c hc).1
 have hp : 0 < a.length := List.length_pos_iff.2 h.ne
 refine ⟨by rw [strB_size]; simp, ⟨by rw [strB_size]; omega, by rw [lineEnd_lf a b h10]; exact h.len, ?_⟩, lineOf_lf a b h10, restOf_lf a b h10⟩
 rw [lineOf_lf a b h10, strB_size, show ((a.length : Nat) : Int) - 1 = ((a.length - 1 : Nat) : Int) by omega, GL.bt_list _ _ (by rw [strB_size]; omega)]
 intro e
 have hm : a[a.length - 1]'(by omega) ∈ a := List.getElem_mem _
 apply (h.ch _ hm).2
 apply UInt8.toNat_inj.1
 have : ((strB a).data.toList[a.length - 1]'(by rw [strB_dl]; omega)) = a[a.length - 1]'(by omega) := by simp only [strB_dl]
 rw [← this]
 show _ = 13
 omega
theorem rows_end {α : Type} (L : ByteArray → Option (Option α)) (q : Nat) : rowsF L (q + 1) (strB []) = some [] := by
 unfold rowsF
 rw [if_pos (by rw [strB_size]; rfl)]
theorem rows_cons {α : Type} (L : ByteArray → Option (Option α)) (q : Nat) (a b : List UInt8) (h : LnOk a) (hs : (a ++ 10 :: b).length ≤ 1000000) (m : Option α) (ms : List α) (hm : L (strB a) = some m) (hr : rowsF L q (strB b) = some ms) :
  rowsF L (q + 1) (strB (a ++ 10 :: b)) = some (m.toList ++ ms) := by
 obtain ⟨h1, h2, h3, h4⟩ := line_ok a b h hs
 unfold rowsF
 rw [if_neg h1, if_pos h2, h3, h4, hm, hr]
 rfl
theorem rows_text {T α : Type} (L : ByteArray → Option (Option α)) (line : T → List UInt8) (val : T → α) : ∀ (ts : List T) (q : Nat), ts.length < q → (∀ t ∈ ts, LnOk (line t) ∧ L (strB (line t)) = some (some (val t))) → (ts.flatMap fun t => line t ++ [10]).length ≤ 1000000 →
  rowsF L q (strB (ts.flatMap fun t => line t ++ [10])) = some (ts.map val)
 | [], q + 1, _, _, _ => rows_end L q
 | t :: ts, q + 1, hq, h, hl => by
  have e : (t :: ts).flatMap (fun t => line t ++ [10]) = line t ++ 10 :: ts.flatMap (fun t => line t ++ [10]) := by simp
  rw [e] at hl ⊢
  have ih := rows_text L line val ts q (by simpa using hq) (fun u hu => h u (by simp [hu])) (by simp only [List.length_append, List.length_cons] at hl; omega)
  exact rows_cons L q (line t) _ (h t (by simp)).1 hl (some (val t)) _ (h t (by simp)).2 ih
theorem head_line (a b : List UInt8) (h : LnOk a) (hs : (a ++ 10 :: b).length ≤ 1000000) : headF (strB (a ++ 10 :: b)) = some (strB b) := by
 obtain ⟨h1, h2, h3, h4⟩ := line_ok a b h hs
 unfold headF
 rw [if_neg h1, if_pos h2, h4]
theorem rowsF_more {α : Type} {L : ByteArray → Option (Option α)} : ∀ {q k : Nat} {t : ByteArray} {r : List α}, q ≤ k → rowsF L q t = some r → rowsF L k t = some r
 | 0, _, _, _, _, h => by cases h
 | q + 1, 0, _, _, hk, _ => by omega
 | q + 1, k + 1, t, r, hk, h => by
  unfold rowsF at h ⊢
  split at h
  ·rename_i h0; rw [if_pos h0]; exact h
  ·rename_i h0
   rw [if_neg h0]
   split at h
   ·rename_i h1
    rw [if_pos h1]
    obtain ⟨m, hm, h⟩ := Option.bind_eq_some_iff.1 h
    obtain ⟨ms, hms, h⟩ := Option.bind_eq_some_iff.1 h
    rw [hm, Option.bind_some, rowsF_more (by omega) hms, Option.bind_some]
    exact h
   ·cases h
theorem flat_len {T : Type} (line : T → List UInt8) : ∀ (ts : List T) (t : T), t ∈ ts → (line t).length ≤ (ts.flatMap line).length
 | [], t, h => by cases h
 | u :: ts, t, h => by
  rw [List.flatMap_cons, List.length_append]
  rcases List.mem_cons.1 h with rfl | h
  ·omega
  ·have := flat_len line ts t h; omega
theorem read_text (l : List UInt8) (h : l.length ≤ 1048576) : texts_Read.f (strB l) = some (l.map (fun b => (b.toNat : Int)), none) := by
 unfold texts_Read.f
 rw [if_pos (by rw [strB_size]; omega), strB_dl]
theorem nums_text (l : List UInt8) : strOfNums (l.map (fun b => (b.toNat : Int))) = strB l := by
 have := strNums2 (strB l)
 rw [strB_dl] at this
 exact this
theorem gen_end {print : Nat → Option (ByteArray × Int)} {tree : Nat → Option (ByteArray × Int × Bool × Int × Int × Nat × ByteArray × List S39 × Int)} {door : ByteArray → S43 → Prop} {l : List S31} (h : l.length ≤ 1000) (text : List UInt8)
  (hp : Ev print (strB text, 1)) (d : Nat) (n : S43) (hf : text.length ≤ 40000 → FitN d n)
  (ht : text.length ≤ 40000 → Ev tree ((convN d n).f0, (convN d n).f1, (convN d n).f2, (convN d n).f3, (convN d n).f4, (convN d n).f5, (convN d n).f6, (convN d n).f7, 1)) (hd : text.length ≤ 40000 → door (strB text) n) : BackOk print tree door l := by
 by_cases hsz : 40000 < text.length
 ·obtain ⟨K, hk⟩ := hp
  exact .noPrint h K _ _ (hk K (Nat.le_refl _)) (.inr (by rw [strB_size]; exact hsz))
 ·exact back_same h _ hp (by rw [strB_size]; omega) d n (hf (by omega)) (ht (by omega)) (hd (by omega))
theorem gen_no {print : Nat → Option (ByteArray × Int)} {tree : Nat → Option (ByteArray × Int × Bool × Int × Int × Nat × ByteArray × List S39 × Int)} {door : ByteArray → S43 → Prop} {l : List S31} (h : l.length ≤ 1000) (hp : Ev print (⟨#[]⟩, 2)) : BackOk print tree door l := by
 obtain ⟨K, hk⟩ := hp
 exact .noPrint h K _ _ (hk K (Nat.le_refl _)) (.inl (by decide))
end Go.Proofs.YtednjmngalmdkaaGreatDoor.GPC
end
section
/- spec.upper: a number in hexadecimal digits, large letters. Conditions: what spec.Padded answers, of at most a million bytes. -/
namespace Go.Proofs.YtednjmngalmdkaaGreatDoor.GPC
open Go.RowKit Go.Proofs.YtednjmngalmdkaaGreatDoorW.PrintWords Go.Proofs.YtednjmngalmdkaaGreatDoorW.PrintLast
set_option linter.unusedVariables false
set_option linter.unusedSimpArgs false
def upI (c : Int) : Int := if c ≥ 97 then IntKind.u8.wrap (c - 32) else c
def upM (L : List Int) (x : Nat) : List Value := ((L.take x).map upI ++ L.drop x).map (Value.int .u8)
end Go.Proofs.YtednjmngalmdkaaGreatDoor.GPC
end
section
/- Hexadecimal numbers with noughts ahead, in small or great letters, and decimal ones: printed, read by strconv.ParseUint; spec.counted; texts with blanks behind. Conditions: as they say. -/
namespace Go.Proofs.YtednjmngalmdkaaGreatDoor.GPC
open Go Go.RowKit Go.Proofs.YtednjmngalmdkaaGreatDoorW.PrintWords Go.Proofs.YtednjmngalmdkaaGreatDoorW.PrintLast Go.Proofs.YtednjmngalmdkaaGreatDoor.PF
set_option linter.unusedVariables false
def leftL (m : Nat) (l : List UInt8) : List UInt8 := l ++ List.replicate (m - l.length) 32
end Go.Proofs.YtednjmngalmdkaaGreatDoor.GPC
end
section
/- Atoi on decimal digits. No condition. -/
namespace Go.Proofs.YtednjmngalmdkaaGreatDoor.GPC
open Go Go.RowKit Go.Proofs.YtednjmngalmdkaaGreatDoorW.PrintWords Go.Proofs.YtednjmngalmdkaaGreatDoorW.PrintLast Go.Proofs.YtednjmngalmdkaaGreatDoor.PF
set_option linter.unusedVariables false
theorem digit_is (d : Nat) (h : d < 10) : Lib.digitVal (UInt8.ofNat (48 + d)) = some d := by
 have hn : (UInt8.ofNat (48 + d)).toNat = 48 + d := by simp only [UInt8.toNat_ofNat']; omega
 unfold Lib.digitVal
 rw [if_pos (by omega), hn]
 congr 1
 omega
theorem decFrom_append : ∀ (a b : List UInt8) (acc : Nat), Lib.decFrom acc (a ++ b) = (Lib.decFrom acc a).bind fun x => Lib.decFrom x b
 | [], b, acc => rfl
 | x :: a, b, acc => by
  simp only [List.cons_append, Lib.decFrom]
  cases Lib.digitVal x with
  | none => rfl
  | some d => exact decFrom_append a b _
theorem decFrom_digits (n : Nat) : Lib.decFrom 0 (Lib.decDigits n) = some n := by
 induction n using Nat.strongRecOn with
 | _ n ih =>
  unfold Lib.decDigits
  by_cases h : n < 10
  ·rw [dif_pos h]
   simp only [Lib.decFrom, digit_is n h]
   simp
  ·rw [dif_neg h, decFrom_append, ih (n / 10) (by omega)]
   simp only [Option.bind_some, Lib.decFrom, digit_is (n % 10) (by omega)]
   congr 1
   omega
end Go.Proofs.YtednjmngalmdkaaGreatDoor.GPC
end
section
/- spec.Right, spec.Where, spec.Word, spec.words on lists of bytes. Conditions: lengths. -/
namespace Go.Proofs.YtednjmngalmdkaaGreatDoor.GPC
open Go Go.RowKit Go.Proofs.YtednjmngalmdkaaGreatDoorW.PrintWords Go.Proofs.YtednjmngalmdkaaGreatDoorW.PrintLast
set_option linter.unusedVariables false
theorem bt_strB (l : List UInt8) (i : Nat) (h : i < l.length) : bt (strB l) (i : Int) = ((l[i]).toNat : Int) := by
 rw [GL.bt_list _ _ (by rw [strB_size]; exact h)]
 simp only [strB_dl]
def wordB (l : List UInt8) : Bool := l.all (fun c => decide (32 < c.toNat ∧ c.toNat ≤ 126)) && decide (l ≠ [])
theorem word_l (l : List UInt8) (hl : l.length ≤ 4000000000) : ∀ (d i : Nat), i + d = l.length →
  Ev (fun k => spec_Word.l0 k (strB l) (l.length : Int) (i : Int)) ((l.drop i).all (fun c => decide (32 < c.toNat ∧ c.toNat ≤ 126)) && decide (l ≠ []))
 | 0, i, h => by
  rw [List.drop_eq_nil_of_le (by omega), List.all_nil, Bool.true_and]
  refine Ev.step (f := fun _ => some (decide (l ≠ []))) (fun k => by
   simp only [spec_Word.l0]
   rw [if_neg (by omega)]
   congr 1
   have : (strB l).toList = l := by rw [Go.ByteArray.toList_eq, strB_dl]
   rw [this]
   cases l <;> rfl) (Ev.now _)
 | d + 1, i, h => by
  have hi : i < l.length := by omega
  have hb := bt_strB l i hi
  rw [List.drop_eq_getElem_cons hi, List.all_cons]
  by_cases h1 : (l[i]).toNat ≤ 32
  ·rw [decide_eq_false (by omega), Bool.false_and, Bool.false_and]
   exact Ev.step (f := fun _ => some false) (fun k => by simp only [spec_Word.l0]; rw [if_pos (by omega), if_pos (by omega), if_pos (by rw [strB_size]; omega), if_pos (by rw [hb]; omega)]) (Ev.now _)
  ·by_cases h2 : 126 < (l[i]).toNat
   ·rw [decide_eq_false (by omega), Bool.false_and, Bool.false_and]
    exact Ev.step (f := fun _ => some false) (fun k => by simp only [spec_Word.l0]; rw [if_pos (by omega), if_pos (by omega), if_pos (by rw [strB_size]; omega), if_neg (by rw [hb]; omega), if_pos (by rw [hb]; omega)]) (Ev.now _)
   ·rw [decide_eq_true (by omega), Bool.true_and]
    have hw : wrap64 ((i : Int) + 1) = ((i + 1 : Nat) : Int) := by unfold wrap64; omega
    exact Ev.step (fun k => by simp only [spec_Word.l0]; rw [if_pos (by omega), if_pos (by omega), if_pos (by rw [strB_size]; omega), if_neg (by rw [hb]; omega), if_neg (by rw [hb]; omega), hw]) (word_l l hl d (i + 1) (by omega))
theorem word_ev (l : List UInt8) (hl : l.length ≤ 4000000000) : Ev (fun k => spec_Word.f k (strB l)) (wordB l) :=
 Ev.congr (fun k => by simp only [spec_Word.f, strB_size]; rfl) (word_l l hl l.length 0 (by omega))
end Go.Proofs.YtednjmngalmdkaaGreatDoor.GPC
end
section
/- spec.words on lists of bytes. Conditions: lengths. -/
namespace Go.Proofs.YtednjmngalmdkaaGreatDoor.GPC
open Go Go.RowKit Go.Proofs.YtednjmngalmdkaaGreatDoorW.PrintWords Go.Proofs.YtednjmngalmdkaaGreatDoorW.PrintLast Go.Proofs.YtednjmngalmdkaaGreatDoor.PF
set_option linter.unusedVariables false
theorem words_l (ws : List (List UInt8)) (hl : ws.length ≤ 4000000000) (hw : ∀ w ∈ ws, w.length ≤ 4000000000) : ∀ (d i : Nat), i + d = ws.length →
  Ev (fun k => spec_words.l0 k (ws.map strB) (ws.length : Int) (i : Int)) ((ws.drop i).all wordB)
 | 0, i, h => by
  rw [List.drop_eq_nil_of_le (by omega), List.all_nil]
  exact Ev.step (f := fun _ => some true) (fun k => by simp only [spec_words.l0]; rw [if_neg (by omega)]) (Ev.now _)
 | d + 1, i, h => by
  have hi : i < ws.length := by omega
  have hw1 : wrap64 ((i : Int) + 1) = ((i + 1 : Nat) : Int) := by unfold wrap64; omega
  have ih := words_l ws hl hw d (i + 1) (by omega)
  have hrd := rdB ws i hi
  rw [List.drop_eq_getElem_cons hi, List.all_cons]
  refine Ev.step (f := fun k => (spec_Word.f k (strB ws[i])).bind fun t => if t = true then spec_words.l0 k (ws.map strB) (ws.length : Int) ((i + 1 : Nat) : Int) else some false) (fun k => by
   simp only [spec_words.l0]
   rw [if_pos (by omega), if_pos (by omega), if_pos (by rw [List.length_map]; omega), hrd, hw1]) ?_
  refine evB (word_ev ws[i] (hw _ (List.getElem_mem _))) ?_
  cases hc : wordB ws[i]
  ·exact Ev.now _
  ·rw [Bool.true_and]
   exact ih
theorem words_ev (ws : List (List UInt8)) (hl : ws.length ≤ 4000000000) (hw : ∀ w ∈ ws, w.length ≤ 4000000000) : Ev (fun k => spec_words.f k (ws.map strB)) (ws.all wordB) := by
 have h := words_l ws hl hw ws.length 0 (by omega)
 rw [List.drop_zero] at h
 exact Ev.congr (fun k => by simp only [spec_words.f, List.length_map]; rfl) h
end Go.Proofs.YtednjmngalmdkaaGreatDoor.GPC
end
section
/- What /proc/swaps says, written, is read as its tree: on numbers and lists alone. Condition: rows as a call's arguments hold them (RowOk). -/
namespace Go.Proofs.YtednjmngalmdkaaGreatDoor.GPC
open Go Go.RowKit Go.Proofs.YtednjmngalmdkaaGreatDoorW.PrintWords Go.Proofs.YtednjmngalmdkaaGreatDoorW.PrintLast Go.Proofs.YtednjmngalmdkaaGreatDoor.PF
set_option linter.unusedVariables false
theorem sw_left_l (least : Nat) (hl : least ≤ 1000) : ∀ (d : Nat) (l : List UInt8), least - l.length = d → Ev (fun k => spec_Left.l0 k (strB l) (least : Int)) (strB (leftL least l))
 | 0, l, h => by
  have e : leftL least l = l := by simp [leftL, h]
  rw [e]
  by_cases hc : (l.length : Int) < (least : Int)
  ·omega
  ·exact Ev.step (f := fun _ => some (strB l)) (fun k => by simp only [spec_Left.l0]; rw [if_neg (by rw [strB_size]; exact hc)]) (Ev.now _)
 | d + 1, l, h => by
  have ih := sw_left_l least hl d (l ++ [32]) (by simp; omega)
  have e : leftL least (l ++ [32]) = leftL least l := by
   unfold leftL
   rw [List.length_append, List.length_singleton, List.append_assoc, List.singleton_append, ← List.replicate_succ]
   congr 2
   omega
  rw [e] at ih
  refine Ev.step (fun k => ?_) ih
  simp only [spec_Left.l0]
  rw [if_pos (by rw [strB_size]; omega), if_pos (by rw [strB_size]; omega)]
  rw [show (strB l ++ (⟨#[32]⟩ : ByteArray)) = strB (l ++ [32]) from strB_append l [32]]
theorem sw_left (least : Nat) (hl : least ≤ 1000) (l : List UInt8) : Ev (fun k => spec_Left.f k (strB l) (least : Int)) (strB (leftL least l)) := sw_left_l least hl _ l rfl
theorem leftL_len (m : Nat) (l : List UInt8) : (leftL m l).length ≤ m + l.length := by unfold leftL; simp; omega
def sgn (z : Int) : List UInt8 := if z < 0 then 45 :: digB 10 (-z).toNat else digB 10 z.toNat
def i64R (z : Int) : Prop := -9223372036854775808 ≤ z ∧ z ≤ 9223372036854775807
theorem i64_wrap (z : Int) : i64R (wrap64 z) := by unfold i64R wrap64; omega
theorem sgn_len (z : Int) (h : i64R z) : (sgn z).length ≤ 21 := by
 unfold i64R at h
 unfold sgn
 split
 ·have := dig_len (-z).toNat (by omega)
  simp only [List.length_cons]; omega
 ·have := dig_len z.toNat (by omega)
  omega
theorem sgn_ev (z : Int) (h : i64R z) : Ev (fun k => spec_SignedText.f k z) (strB (sgn z)) := by
 unfold i64R at h
 by_cases hz : z < 0
 ·have e : (IntKind.u64.wrap ((IntKind.u64.wrap (wrap64 (-(wrap64 (z + 1))))) + 1)) = (((-z).toNat : Nat) : Int) := by
   have e1 : wrap64 (z + 1) = z + 1 := by unfold wrap64; omega
   have e2 : wrap64 (-(z + 1)) = -(z + 1) := by unfold wrap64; omega
   rw [e1, e2, u64_w (n := -(z + 1)) (by omega) (by omega), u64_w (by omega) (by omega)]
   omega
  have ht := text_ev (-z).toNat (by omega)
  have hln := dig_len (-z).toNat (by omega)
  have es : sgn z = [45] ++ digB 10 (-z).toNat := by unfold sgn; rw [if_pos hz]; rfl
  obtain ⟨K, hK⟩ := ht
  refine ⟨K, fun k hk => ?_⟩
  show spec_SignedText.f k z = _
  unfold spec_SignedText.f
  rw [if_pos hz, e, show spec_Text.f k _ = _ from hK k hk, Option.bind_some, if_pos (by rw [strB_size]; omega), es, ← strB_append]
  rfl
 ·have e : IntKind.u64.wrap z = ((z.toNat : Nat) : Int) := by rw [u64_w (by omega) (by omega)]; omega
  have ht := text_ev z.toNat (by omega)
  obtain ⟨K, hK⟩ := ht
  refine ⟨K, fun k hk => ?_⟩
  show spec_SignedText.f k z = _
  unfold spec_SignedText.f
  rw [if_neg hz, e, show spec_Text.f k _ = _ from hK k hk, Option.bind_some]
  unfold sgn
  rw [if_neg hz]
theorem from_le : ∀ (l : List UInt8) (acc v : Nat), Lib.decFrom acc l = some v → acc ≤ v
 | [], acc, v, h => by simp only [Lib.decFrom] at h; obtain rfl := Option.some.inj h; exact Nat.le_refl _
 | c :: r, acc, v, h => by
  simp only [Lib.decFrom] at h
  split at h
  ·have := from_le r _ v h; omega
  ·cases h
theorem swPu10 : ∀ (l : List UInt8) (acc v : Nat), Lib.decFrom acc l = some v → v < 18446744073709551616 → Lib.parseUint10 acc l = .ok v
 | [], acc, v, h, hv => by simp only [Lib.decFrom] at h; obtain rfl := Option.some.inj h; rfl
 | c :: r, acc, v, h, hv => by
  simp only [Lib.decFrom] at h
  split at h
  ·rename_i d hd
   unfold Lib.digitVal at hd
   split at hd
   ·rename_i hc
    obtain rfl := Option.some.inj hd
    have hle := from_le r _ v h
    simp only [Lib.parseUint10]
    rw [if_pos hc, if_neg (by omega), if_neg (by omega)]
    exact swPu10 r _ v h hv
   ·cases hd
  ·cases h
theorem mag_dec (n : Nat) (h : n < 18446744073709551616) : Lib.parseMag (digB 10 n) = .ok n := by
 unfold Lib.parseMag
 rw [if_neg (digB_ne 10 n)]
 exact swPu10 _ 0 n (by rw [digB_ten]; exact decFrom_digits n) h
theorem atoiA_sgn (z : Int) (h : i64R z) : atoiA (strB (sgn z)) = some z := by
 have hl := sgn_len z h
 unfold i64R at h
 have e : Lib.atoiAll (sgn z) = .ok z := by
  unfold sgn
  by_cases hz : z < 0
  ·rw [if_pos hz, Lib.atoiAll_minus, mag_dec _ (by omega)]
   simp only [Lib.signed]
   rw [if_neg (by omega)]
   congr 1
   omega
  ·rw [if_neg hz]
   have hm := mag_dec z.toNat (by omega)
   have hne := digB_ne 10 z.toNat
   have hd := dig10 z.toNat
   generalize digB 10 z.toNat = l at hm hne hd
   obtain ⟨c, r, rfl⟩ := List.exists_cons_of_ne_nil hne
   have hc := hd c (by simp)
   rw [Lib.atoiAll_plain c r (by omega) (by omega), hm]
   simp only [Lib.signless]
   rw [if_neg (by omega)]
   congr 1
   omega
 unfold atoiA
 rw [if_pos (by rw [strB_size]; omega), strB_dl, e]
theorem atoiA_dec (n : Nat) (h : n < 4611686018427387904) : atoiA (strB (digB 10 n)) = some (n : Int) := by
 have := atoiA_sgn (n : Int) ⟨by omega, by omega⟩
 unfold sgn at this
 rw [if_neg (by omega)] at this
 exact this
structure SwT where
 a : List UInt8
 b : List UInt8
 x : Nat
 y : Nat
 z : Int
def swLn (t : SwT) : List UInt8 := leftL 39 t.a ++ [32] ++ leftL 15 t.b ++ [32] ++ digB 10 t.x ++ [9] ++ digB 10 t.y ++ [9] ++ sgn t.z
structure SwGood (r : S31) (t : SwT) : Prop where
 s : r.f0 = strB t.a
 n : ∃ n2 : Nat, r.f1 = [(t.x : Int), (t.y : Int), (n2 : Int)] ∧ wrap64 (n2 : Int) = t.z
 w : r.f2 = [strB t.b]
 wa : wordB t.a = true
 wb : wordB t.b = true
 la : t.a.length ≤ 2147483647
 lb : t.b.length ≤ 2147483647
 hx : t.x < 4611686018427387904
 hy : t.y < 4611686018427387904
 hz : i64R t.z
theorem sw_len (t : SwT) (r : S31) (g : SwGood r t) : (swLn t ++ [10]).length ≤ 5000000000 := by
 have h1 := leftL_len 39 t.a
 have h2 := leftL_len 15 t.b
 have h3 := dig_len t.x (by have := g.hx; omega)
 have h4 := dig_len t.y (by have := g.hy; omega)
 have h5 := sgn_len t.z g.hz
 have := g.la
 have := g.lb
 simp only [swLn, List.length_append, List.length_cons, List.length_nil]
 omega
theorem sw_j1 (l : List S31) (i : Nat) (hi : i < 1000) (acc : List UInt8) (hacc : acc.length ≤ 100000000000000000) (t : SwT) (R : S31) (g : SwGood R t) (n2 : Nat) (hn2 : R.f1 = [(t.x : Int), (t.y : Int), (n2 : Int)]) (hz2 : wrap64 (n2 : Int) = t.z) (k : Nat)
  (hA : spec_Left.f k (strB t.a) 39 = some (strB (leftL 39 t.a))) (hB : spec_Left.f k (strB t.b) 15 = some (strB (leftL 15 t.b))) (hX : spec_Text.f k (t.x : Int) = some (strB (digB 10 t.x))) (hY : spec_Text.f k (t.y : Int) = some (strB (digB 10 t.y))) (hZ : spec_SignedText.f k t.z = some (strB (sgn t.z))) :
  spec_SwapsPrint.j1 (k + 1) (strB acc) l (l.length : Int) (i : Int) false (strB t.a) [(t.x : Int), (t.y : Int), (n2 : Int)] [strB t.b] = spec_SwapsPrint.l0 k (strB (acc ++ (swLn t ++ [10]))) l (l.length : Int) ((i + 1 : Nat) : Int) := by
 have hw : wrap64 ((i : Int) + 1) = ((i + 1 : Nat) : Int) := by unfold wrap64; omega
 have h1 := leftL_len 39 t.a
 have h2 := leftL_len 15 t.b
 have h3 := dig_len t.x (by have := g.hx; omega)
 have h4 := dig_len t.y (by have := g.hy; omega)
 have h5 := sgn_len t.z g.hz
 have h6 := g.la
 have h7 := g.lb
 have hll := sw_len t R g
 have el : acc ++ (swLn t ++ [10]) = acc ++ (leftL 39 t.a ++ [32] ++ leftL 15 t.b ++ [32] ++ digB 10 t.x ++ [9] ++ digB 10 t.y ++ [9] ++ sgn t.z ++ [10]) := rfl
 rw [el]
 simp only [spec_SwapsPrint.j1]
 rw [if_neg (by decide), hA, Option.bind_some, hw]
 generalize leftL 39 t.a = la at *
 generalize leftL 15 t.b = lb at *
 rw [show (⟨#[9]⟩ : ByteArray) = strB [9] from rfl, show (⟨#[10]⟩ : ByteArray) = strB [10] from rfl, show (⟨#[32]⟩ : ByteArray) = strB [32] from rfl]
 rw [if_pos (by rw [strB_size]; omega), strB_append, if_pos (by simp)]
 obtain ⟨X0, e0⟩ : ∃ X, X = la ++ [32] := ⟨_, rfl⟩
 have L0 : X0.length ≤ 2147483690 := by rw [e0]; simp; omega
 rw [← e0]
 rw [show rdOf ByteArray.empty [strB t.b] 0 = strB t.b from rfl, hB, Option.bind_some, if_pos (by rw [strB_size, strB_size]; omega), strB_append]
 obtain ⟨X1, e1⟩ : ∃ X, X = X0 ++ lb := ⟨_, rfl⟩
 have L1 : X1.length ≤ 4294967400 := by rw [e1]; simp; omega
 rw [← e1]
 rw [if_pos (by rw [strB_size]; omega), strB_append, if_pos (by simp)]
 obtain ⟨X2, e2⟩ : ∃ X, X = X1 ++ [32] := ⟨_, rfl⟩
 have L2 : X2.length ≤ 4294967401 := by rw [e2]; simp; omega
 rw [← e2]
 rw [show rd [(t.x : Int), (t.y : Int), (n2 : Int)] 0 = (t.x : Int) from rfl, hX, Option.bind_some, if_pos (by rw [strB_size, strB_size]; omega), strB_append]
 obtain ⟨X3, e3⟩ : ∃ X, X = X2 ++ digB 10 t.x := ⟨_, rfl⟩
 have L3 : X3.length ≤ 4294967421 := by rw [e3]; simp; omega
 rw [← e3]
 rw [if_pos (by rw [strB_size]; omega), strB_append, if_pos (by simp)]
 obtain ⟨X4, e4⟩ : ∃ X, X = X3 ++ [9] := ⟨_, rfl⟩
 have L4 : X4.length ≤ 4294967422 := by rw [e4]; simp; omega
 rw [← e4]
 rw [show rd [(t.x : Int), (t.y : Int), (n2 : Int)] 1 = (t.y : Int) from rfl, hY, Option.bind_some, if_pos (by rw [strB_size, strB_size]; omega), strB_append]
 obtain ⟨X5, e5⟩ : ∃ X, X = X4 ++ digB 10 t.y := ⟨_, rfl⟩
 have L5 : X5.length ≤ 4294967442 := by rw [e5]; simp; omega
 rw [← e5]
 rw [if_pos (by rw [strB_size]; omega), strB_append, if_pos (by simp)]
 obtain ⟨X6, e6⟩ : ∃ X, X = X5 ++ [9] := ⟨_, rfl⟩
 have L6 : X6.length ≤ 4294967443 := by rw [e6]; simp; omega
 rw [← e6]
 rw [show rd [(t.x : Int), (t.y : Int), (n2 : Int)] 2 = (n2 : Int) from rfl, hz2, hZ, Option.bind_some, if_pos (by rw [strB_size, strB_size]; omega), strB_append]
 obtain ⟨X7, e7⟩ : ∃ X, X = X6 ++ sgn t.z := ⟨_, rfl⟩
 have L7 : X7.length ≤ 4294967464 := by rw [e7]; simp; omega
 rw [← e7]
 rw [if_pos (by rw [strB_size]; omega), strB_append, if_pos (by rw [strB_size, strB_size]; simp only [List.length_append, List.length_cons, List.length_nil]; omega), strB_append]
theorem sw_one (l : List S31) (hl : l.length ≤ 1000) (hf : ∀ r ∈ l, FitR r ∧ OP.RowOk r) (i : Nat) (hi : i < l.length) (acc : List UInt8) (hacc : acc.length ≤ 100000000000000000) :
  Ev (fun k => spec_SwapsPrint.l0 k (strB acc) l (l.length : Int) (i : Int)) (⟨#[]⟩, 2) ∨
  ∃ t : SwT, SwGood l[i] t ∧ (swLn t ++ [10]).length ≤ 5000000000 ∧ ∀ r, Ev (fun k => spec_SwapsPrint.l0 k (strB (acc ++ (swLn t ++ [10]))) l (l.length : Int) ((i + 1 : Nat) : Int)) r →
   Ev (fun k => spec_SwapsPrint.l0 k (strB acc) l (l.length : Int) (i : Int)) r := by
 have hR := hf l[i] (List.getElem_mem _)
 have hrd := grd31 l i hi
 generalize l[i] = R at hR hrd
 obtain ⟨f0, f1, f2⟩ := R
 obtain ⟨⟨hs1, hs2, hs3, hs4⟩, hro⟩ := hR
 have hints := gints_of _ hro
 simp only at hs1 hs2 hs3 hs4 hints
 obtain ⟨a, rfl⟩ : ∃ a, f0 = strB a := ⟨_, (strB_of f0).symm⟩
 obtain ⟨ns, rfl⟩ : ∃ ns, f1 = intsOf ns := ⟨_, hints⟩
 rw [strB_size] at hs1
 rw [intsOf_len] at hs2
 have bad : Ev (fun k => spec_SwapsPrint.j1 k (strB acc) l (l.length : Int) (i : Int) true (strB a) (intsOf ns) f2) (⟨#[]⟩, 2) := Ev.step (f := fun _ => some ((⟨#[]⟩ : ByteArray), (2 : Int))) (fun k => by simp only [spec_SwapsPrint.j1]; rw [if_pos trivial]) (Ev.now _)
 have hsz : ∃ b, spec_sized.f (strB a) (intsOf ns) f2 3 1 = some b ∧ (b = true → ns.length = 3 ∧ f2.length = 1) := by
  unfold spec_sized.f
  by_cases h : ((intsOf ns).length : Int) = 3
  ·rw [if_pos h]; exact ⟨_, rfl, fun e => by rw [intsOf_len] at h; have := eq_of_beq e; omega⟩
  ·rw [if_neg h]; exact ⟨_, rfl, fun e => by cases e⟩
 obtain ⟨bs, hbs, hb3⟩ := hsz
 have hst : ∀ k, spec_SwapsPrint.l0 (k + 1) (strB acc) l (l.length : Int) (i : Int) = (spec_Word.f k (strB a)).bind fun t742 => (if t742 = true then (if bs = true then ((spec_words.f k f2).bind fun t744 => (if t744 = true then (if 0 < ((intsOf ns).length : Int) then (if 1 < ((intsOf ns).length : Int) then ((spec_small.f k 4611686018427387904 ([rd (intsOf ns) 0, rd (intsOf ns) 1] : List Int)).bind fun t750 => (spec_SwapsPrint.j1 k (strB acc) l (l.length : Int) (i : Int) (!t750) (strB a) (intsOf ns) f2)) else none) else none) else (spec_SwapsPrint.j1 k (strB acc) l (l.length : Int) (i : Int) true (strB a) (intsOf ns) f2))) else (spec_SwapsPrint.j1 k (strB acc) l (l.length : Int) (i : Int) true (strB a) (intsOf ns) f2)) else (spec_SwapsPrint.j1 k (strB acc) l (l.length : Int) (i : Int) true (strB a) (intsOf ns) f2)) := fun k => by
  simp only [spec_SwapsPrint.l0]
  rw [if_pos (by omega), if_pos (by omega), if_pos (by omega), hrd]
  simp only
  rw [hbs]
  rfl
 have hwd := word_ev a (by omega)
 cases hwa : wordB a
 ·rw [hwa] at hwd
  exact .inl (Ev.step hst (evB hwd (evN (by decide) bad)))
 rw [hwa] at hwd
 cases bs with
 | false => exact .inl (Ev.step hst (evB hwd (evP rfl (evN (by decide) bad))))
 | true =>
 obtain ⟨h3, h21⟩ := hb3 rfl
 obtain ⟨w0, rfl⟩ : ∃ w, f2 = [w] := by
  match f2, h21 with
  | [w], _ => exact ⟨w, rfl⟩
 obtain ⟨b, rfl⟩ : ∃ b, w0 = strB b := ⟨_, (strB_of w0).symm⟩
 have hbl : b.length ≤ 2147483647 := by have := hs4 (strB b) (by simp); rwa [strB_size] at this
 obtain ⟨n0, n1, n2, rfl⟩ : ∃ n0 n1 n2, ns = [n0, n1, n2] := by
  match ns, h3 with
  | [n0, n1, n2], _ => exact ⟨n0, n1, n2, rfl⟩
 have hww : Ev (fun k => spec_words.f k [strB b]) (wordB b) := by
  have := words_ev [b] (by simp) (by simp; omega)
  simpa using this
 cases hwb : wordB b
 ·rw [hwb] at hww
  exact .inl (Ev.step hst (evB hwd (evP rfl (evP rfl (evB hww (evN (by decide) bad))))))
 rw [hwb] at hww
 have hlt0 : (0 : Int) < ((intsOf [n0, n1, n2]).length : Int) := by rw [intsOf_len]; simp only [List.length_cons, List.length_nil]; omega
 have hlt1 : (1 : Int) < ((intsOf [n0, n1, n2]).length : Int) := by rw [intsOf_len]; simp only [List.length_cons, List.length_nil]; omega
 have hsm : Ev (fun k => spec_small.f k 4611686018427387904 ([rd (intsOf [n0, n1, n2]) 0, rd (intsOf [n0, n1, n2]) 1] : List Int)) (([(n0 : Int), (n1 : Int)] : List Int).all fun x => decide (x < 4611686018427387904)) := small_ev 4611686018427387904 [(n0 : Int), (n1 : Int)] (by unfold maxLen; simp only [List.length_cons, List.length_nil]; omega)
 cases hsb : (([(n0 : Int), (n1 : Int)] : List Int).all fun x => decide (x < 4611686018427387904))
 ·rw [hsb] at hsm
  exact .inl (Ev.step hst (evB hwd (evP rfl (evP rfl (evB hww (evP rfl (evG hlt0 (evG hlt1 (evB hsm bad)))))))))
 rw [hsb] at hsm
 simp only [List.all_cons, List.all_nil, Bool.and_true, Bool.and_eq_true, decide_eq_true_eq] at hsb
 let t : SwT := ⟨a, b, n0, n1, wrap64 (n2 : Int)⟩
 have g : SwGood ⟨strB a, intsOf [n0, n1, n2], [strB b]⟩ t := ⟨rfl, ⟨n2, rfl, rfl⟩, rfl, hwa, hwb, by show a.length ≤ _; omega, hbl, by show n0 < _; omega, by show n1 < _; omega, i64_wrap _⟩
 refine .inr ⟨t, g, sw_len t _ g, fun r hr => ?_⟩
 have hj : Ev (fun k => spec_SwapsPrint.j1 k (strB acc) l (l.length : Int) (i : Int) (!true) (strB a) (intsOf [n0, n1, n2]) [strB b]) r := by
  obtain ⟨K0, h0⟩ := sw_left 39 (by omega) a
  obtain ⟨K1, h1⟩ := sw_left 15 (by omega) b
  obtain ⟨K2, h2⟩ := text_ev n0 (by omega)
  obtain ⟨K3, h3⟩ := text_ev n1 (by omega)
  obtain ⟨K4, h4⟩ := sgn_ev (wrap64 (n2 : Int)) (i64_wrap _)
  obtain ⟨Kr, hr⟩ := hr
  refine ⟨K0 + K1 + K2 + K3 + K4 + Kr + 1, fun k hk => ?_⟩
  obtain ⟨k, rfl⟩ : ∃ m, k = m + 1 := ⟨k - 1, by omega⟩
  show spec_SwapsPrint.j1 (k + 1) (strB acc) l (l.length : Int) (i : Int) false (strB t.a) [(t.x : Int), (t.y : Int), (n2 : Int)] [strB t.b] = some r
  rw [sw_j1 l i (by omega) acc hacc t _ g n2 rfl rfl k (h0 k (by omega)) (h1 k (by omega)) (h2 k (by omega)) (h3 k (by omega)) (h4 k (by omega))]
  exact hr k (by omega)
 exact Ev.step hst (evB hwd (evP rfl (evP rfl (evB hww (evP rfl (evG hlt0 (evG hlt1 (evB hsm hj))))))))
theorem spF2 : ∀ n : Fin 256, 32 < n.val → n.val ≤ 126 → Lib.isSp (UInt8.ofNat n.val) = false := by decide +kernel
theorem spW2 (c : UInt8) (h1 : 32 < c.toNat) (h2 : c.toNat ≤ 126) : Lib.isSp c = false := by
 have := spF2 ⟨c.toNat, c.toNat_lt⟩ h1 h2
 simpa using this
theorem wd_all (w : List UInt8) (h : wordB w = true) : w ≠ [] ∧ ∀ c ∈ w, 32 < c.toNat ∧ c.toNat ≤ 126 := by
 unfold wordB at h
 rw [Bool.and_eq_true, List.all_eq_true] at h
 exact ⟨of_decide_eq_true h.2, fun c hc => of_decide_eq_true (h.1 c hc)⟩
theorem sgn_mem (z : Int) : ∀ c ∈ sgn z, 32 < c.toNat ∧ c.toNat ≤ 126 := by
 intro c hc
 unfold sgn at hc
 split at hc
 ·rcases List.mem_cons.1 hc with rfl | hc
  ·decide
  ·have := dig10 _ c hc; omega
 ·have := dig10 _ c hc; omega
theorem sgn_ne (z : Int) : sgn z ≠ [] := by
 unfold sgn
 split
 ·simp
 ·exact digB_ne 10 _
theorem dg_mem (n : Nat) : ∀ c ∈ digB 10 n, 32 < c.toNat ∧ c.toNat ≤ 126 := fun c hc => by have := dig10 n c hc; omega
theorem sw_chars (t : SwT) (ha : wordB t.a = true) (hb : wordB t.b = true) : ∀ x ∈ swLn t, x.toNat < 128 ∧ x ≠ 10 ∧ x ≠ 13 := by
 intro x hx
 have fin : (32 ≤ x.toNat ∧ x.toNat ≤ 126) ∨ x = 9 → x.toNat < 128 ∧ x ≠ 10 ∧ x ≠ 13 := by
  intro h
  rcases h with h | rfl
  ·exact ⟨by omega, fun e => by rw [e] at h; revert h; decide, fun e => by rw [e] at h; revert h; decide⟩
  ·decide
 apply fin
 have hL : ∀ m w, wordB w = true → x ∈ leftL m w → 32 ≤ x.toNat ∧ x.toNat ≤ 126 := fun m w hw h => by
  unfold leftL at h
  rcases List.mem_append.1 h with h | h
  ·have := (wd_all w hw).2 x h; omega
  ·rw [(List.mem_replicate.1 h).2]; decide
 simp only [swLn, List.mem_append, List.mem_cons, List.not_mem_nil, or_false] at hx
 rcases hx with (((((((h | h) | h) | h) | h) | h) | h) | h) | h
 ·exact .inl (hL _ _ ha h)
 ·rw [h]; exact .inl (by decide)
 ·exact .inl (hL _ _ hb h)
 ·rw [h]; exact .inl (by decide)
 ·have := dg_mem _ x h; exact .inl (by omega)
 ·exact .inr h
 ·have := dg_mem _ x h; exact .inl (by omega)
 ·exact .inr h
 ·have := sgn_mem _ x h; exact .inl (by omega)
theorem one_blank (b : UInt8) (r : List UInt8) (h : Lib.isSp b = true) : Lib.fields (b :: r) = Lib.fields r := fields_blanks [b] r (fun c hc => by rw [List.mem_singleton.1 hc]; exact h)
theorem left_fields (m : Nat) (w r : List UInt8) (hw : wordB w = true) : Lib.fields (leftL m w ++ 32 :: r) = w :: Lib.fields r := by
 have hsp : ∀ c ∈ w, Lib.isSp c = false := fun c hc => spW2 c ((wd_all _ hw).2 c hc).1 ((wd_all _ hw).2 c hc).2
 have h32 : Lib.isSp 32 = true := by decide
 unfold leftL
 rw [List.append_assoc]
 cases h : m - w.length with
 | zero => rw [show List.replicate 0 (32 : UInt8) ++ 32 :: r = 32 :: r from rfl, fields_word w 32 r (wd_all _ hw).1 hsp h32, one_blank 32 r h32]
 | succ d =>
  rw [List.replicate_succ, List.cons_append, fields_word w 32 _ (wd_all _ hw).1 hsp h32, one_blank 32 _ h32, fields_blanks _ _ (fun c hc => by rw [(List.mem_replicate.1 hc).2]; exact h32), one_blank 32 _ h32]
theorem sw_fields (t : SwT) (ha : wordB t.a = true) (hb : wordB t.b = true) : Lib.fields (swLn t) = [t.a, t.b, digB 10 t.x, digB 10 t.y, sgn t.z] := by
 have h9 : Lib.isSp 9 = true := by decide
 have e : swLn t = leftL 39 t.a ++ 32 :: (leftL 15 t.b ++ 32 :: (digB 10 t.x ++ 9 :: (digB 10 t.y ++ 9 :: sgn t.z))) := by simp [swLn]
 rw [e, left_fields _ _ _ ha, left_fields _ _ _ hb, fields_word _ 9 _ (digB_ne 10 _) (fun c hc => spW2 c (dg_mem _ c hc).1 (dg_mem _ c hc).2) h9, one_blank 9 _ h9, fields_word _ 9 _ (digB_ne 10 _) (fun c hc => spW2 c (dg_mem _ c hc).1 (dg_mem _ c hc).2) h9, one_blank 9 _ h9,
  fields_last _ (sgn_ne _) (fun c hc => spW2 c (sgn_mem _ c hc).1 (sgn_mem _ c hc).2)]
def swS (t : SwT) : S153 := ⟨strB t.a, strB t.b, (t.x : Int), (t.y : Int), t.z⟩
theorem sw_line (r : S31) (t : SwT) (g : SwGood r t) (hl : (swLn t).length ≤ 40000) : LnOk (swLn t) ∧ swL (strB (swLn t)) = some (some (swS t)) := by
 have hch := sw_chars t g.wa g.wb
 refine ⟨⟨(fun e => by have := sw_fields t g.wa g.wb; rw [e] at this; cases this), (fun c hc => (hch c hc).2), by omega⟩, ?_⟩
 have hf : strings_Fields.f (strB (swLn t)) = some ([t.a, t.b, digB 10 t.x, digB 10 t.y, sgn t.z].map strB) := by
  unfold strings_Fields.f
  rw [if_pos ⟨by rw [strB_size]; omega, by rw [strB_dl, List.all_eq_true]; exact fun c hc => decide_eq_true (hch c hc).1⟩, strB_dl, sw_fields t g.wa g.wb]
  rfl
 have hF : swF (strB (swLn t)) = some (swS t) := by
  unfold swF
  rw [hf, Option.bind_some, if_pos (by simp)]
  show ((atoiA (strB (digB 10 t.x))).bind fun a => (atoiA (strB (digB 10 t.y))).bind fun b => (atoiA (strB (sgn t.z))).bind fun c => some (⟨strB t.a, strB t.b, a, b, c⟩ : S153)) = _
  rw [atoiA_dec _ g.hx, Option.bind_some, atoiA_dec _ g.hy, Option.bind_some, atoiA_sgn _ g.hz, Option.bind_some]
  rfl
 unfold swL
 rw [hF]
 rfl
def swN39 (m : S153) : S39 := ⟨⟨#[]⟩, 8, false, 0, 0, 0, ⟨#[]⟩, [⟨⟨#[70, 105, 108, 101, 110, 97, 109, 101]⟩, 5, false, 0, 0, 0, m.f0, []⟩, ⟨⟨#[84, 121, 112, 101]⟩, 5, false, 0, 0, 0, m.f1, []⟩, ⟨⟨#[83, 105, 122, 101]⟩, 2, false, m.f2, 0, 0, ⟨#[]⟩, []⟩, ⟨⟨#[85, 115, 101, 100]⟩, 2, false, m.f3, 0, 0, ⟨#[]⟩, []⟩, ⟨⟨#[80, 114, 105, 111, 114, 105, 116, 121]⟩, 2, false, m.f4, 0, 0, ⟨#[]⟩, []⟩]⟩
def swN43 (m : S153) : S43 := ⟨⟨#[]⟩, 8, false, 0, 0, 0, ⟨#[]⟩, [⟨⟨#[70, 105, 108, 101, 110, 97, 109, 101]⟩, 5, false, 0, 0, 0, m.f0, []⟩, ⟨⟨#[84, 121, 112, 101]⟩, 5, false, 0, 0, 0, m.f1, []⟩, ⟨⟨#[83, 105, 122, 101]⟩, 2, false, m.f2, 0, 0, ⟨#[]⟩, []⟩, ⟨⟨#[85, 115, 101, 100]⟩, 2, false, m.f3, 0, 0, ⟨#[]⟩, []⟩, ⟨⟨#[80, 114, 105, 111, 114, 105, 116, 121]⟩, 2, false, m.f4, 0, 0, ⟨#[]⟩, []⟩]⟩
def swAll (ts : List SwT) : S43 := ⟨⟨#[]⟩, 6, false, 0, 0, 0, ⟨#[]⟩, (ts.map swS).map swN43⟩
theorem sw_conv (ts : List SwT) : convN 2 (swAll ts) = ⟨⟨#[]⟩, 6, false, 0, 0, 0, ⟨#[]⟩, ts.map fun t => swN39 (swS t)⟩ := by
 simp only [swAll, convN, List.map_map]
 congr 1
theorem sw_fit (ts : List SwT) (hl : ts.length ≤ 1000000) : FitN 2 (swAll ts) := by
 refine ⟨by simpa [swAll] using hl, fun x hx => ?_⟩
 simp only [swAll, List.mem_map] at hx
 obtain ⟨m, _, rfl⟩ := hx
 refine ⟨by simp [swN43], fun y hy => ?_⟩
 simp only [swN43, List.mem_cons, List.not_mem_nil, or_false] at hy
 rcases hy with rfl | rfl | rfl | rfl | rfl <;> rfl
def swT0 : SwT := ⟨[], [], 0, 0, 0⟩
theorem sw_tree (l : List S31) (hl : l.length ≤ 1000) (ts : List SwT) (hlen : ts.length = l.length) (hg : ∀ (j : Nat) (h1 : j < l.length) (h2 : j < ts.length), SwGood l[j] ts[j]) :
  Ev (fun k => spec_SwapsTree.l0 k [] l (l.length : Int) 0) (⟨#[]⟩, 6, false, 0, 0, 0, ⟨#[]⟩, ts.map fun t => swN39 (swS t), 1) := by
 have h := gen_list (fun acc i k => spec_SwapsTree.l0 k acc l (l.length : Int) (i : Int)) l.length (fun i => swN39 (swS (ts.getD i swT0))) (fun acc => ((⟨#[]⟩ : ByteArray), (6 : Int), false, (0 : Int), (0 : Int), (0 : Nat), (⟨#[]⟩ : ByteArray), acc, (1 : Int))) ?_ ?_ l.length 0 [] (by omega) (by simp)
 ·rw [← hlen, range_map ts (fun t => swN39 (swS t)) _ (fun i hi => by simp [List.getD_eq_getElem?_getD, List.getElem?_eq_getElem hi]), List.nil_append, hlen] at h
  exact h
 ·intro acc ha
  refine Ev.step (f := fun _ => some ((⟨#[]⟩ : ByteArray), (6 : Int), false, (0 : Int), (0 : Int), (0 : Nat), (⟨#[]⟩ : ByteArray), acc, (1 : Int))) (fun k => ?_) (Ev.now _)
  simp only [spec_SwapsTree.l0]
  rw [if_neg (by omega)]
  rfl
 ·intro i hi acc ha r hr
  have hit : i < ts.length := by omega
  have g := hg i hi hit
  have hrd := grd31 l i hi
  have hw : wrap64 ((i : Int) + 1) = ((i + 1 : Nat) : Int) := by unfold wrap64; omega
  have egd : ts.getD i swT0 = ts[i] := by simp [List.getD_eq_getElem?_getD, List.getElem?_eq_getElem hit]
  rw [egd] at hr
  refine Ev.step (fun k => ?_) hr
  generalize ts[i] = t at g
  obtain ⟨n2, en, ez⟩ := g.n
  have hx := g.hx
  have hy := g.hy
  have w0 : wrap64 (t.x : Int) = (t.x : Int) := by unfold wrap64; omega
  have w1 : wrap64 (t.y : Int) = (t.y : Int) := by unfold wrap64; omega
  simp only [spec_SwapsTree.l0]
  rw [if_pos (by omega), if_pos (by omega), if_pos (by omega), hrd, g.s, g.w, en, hw]
  rw [show rd [(t.x : Int), (t.y : Int), (n2 : Int)] 0 = (t.x : Int) from rfl, show rd [(t.x : Int), (t.y : Int), (n2 : Int)] 1 = (t.y : Int) from rfl, show rd [(t.x : Int), (t.y : Int), (n2 : Int)] 2 = (n2 : Int) from rfl, w0, w1, ez]
  simp only [spec_textNode.f, spec_intNode.f, spec_recordNode.f, Option.bind_some]
  rw [if_pos (by simp), if_pos (by simp), if_pos (by simp), if_pos (by simp), if_pos (by omega)]
  rfl
theorem sw_nodes (ts : List SwT) (hl : ts.length ≤ 1000000) : Ev (fun k => nodeSwaps k (ts.map swS)) (swAll ts) := by
 have h := gen_list (fun acc i k => impl_list_pSw.l0 k (ts.map swS) (ts.length : Int) (i : Int) ⟨#[]⟩ 6 false 0 0 0 ⟨#[]⟩ acc) ts.length (fun i => swN43 (swS (ts.getD i swT0))) (fun acc => ((⟨#[]⟩ : ByteArray), (6 : Int), false, (0 : Int), (0 : Int), (0 : Nat), (⟨#[]⟩ : ByteArray), acc)) ?_ ?_ ts.length 0 [] (by omega) (by simp)
 ·rw [range_map ts (fun t => swN43 (swS t)) _ (fun i hi => by simp [List.getD_eq_getElem?_getD, List.getElem?_eq_getElem hi]), List.nil_append] at h
  obtain ⟨K, hK⟩ := h
  refine ⟨K, fun k hk => ?_⟩
  have h3 := hK k hk
  simp only at h3
  show Option.map _ (impl_list_pSw.l0 k (ts.map swS) ((ts.map swS).length : Int) 0 ⟨#[]⟩ 6 false 0 0 0 ⟨#[]⟩ []) = _
  rw [List.length_map]
  rw [show impl_list_pSw.l0 k (ts.map swS) (ts.length : Int) 0 ⟨#[]⟩ 6 false 0 0 0 ⟨#[]⟩ [] = _ from h3]
  simp only [Option.map_some, swAll, List.map_map]
  rfl
 ·intro acc ha
  refine Ev.step (f := fun _ => some ((⟨#[]⟩ : ByteArray), (6 : Int), false, (0 : Int), (0 : Int), (0 : Nat), (⟨#[]⟩ : ByteArray), acc)) (fun k => ?_) (Ev.now _)
  simp only [impl_list_pSw.l0]
  rw [if_neg (by omega)]
 ·intro i hi acc ha r hr
  have hw : wrap64 ((i : Int) + 1) = ((i + 1 : Nat) : Int) := by unfold wrap64; omega
  have egd : rdSw (ts.map swS) (i : Int) = swS ts[i] := by simp [rdSw, List.getD_eq_getElem?_getD, hi]
  have egd2 : ts.getD i swT0 = ts[i] := by simp [List.getD_eq_getElem?_getD, List.getElem?_eq_getElem hi]
  rw [egd2] at hr
  refine Ev.step (fun k => ?_) hr
  simp only [impl_list_pSw.l0]
  rw [if_pos (by omega), if_pos (by omega), if_pos (by simp; omega), egd, hw]
  have key : impl_swFn.f (swS ts[i]) = some (⟨#[]⟩, 8, false, 0, 0, 0, ⟨#[]⟩, (swN43 (swS ts[i])).f7) := by
   simp only [impl_swFn.f, impl_procfsSwap.f, Option.bind_some, List.nil_append, List.cons_append, List.length_cons, List.length_nil]
   repeat rw [if_pos (by decide)]
   rfl
  rw [key]
  simp only [Option.bind_some]
  rw [if_pos (by omega)]
  rfl
def swHead : List UInt8 := [70, 105, 108, 101, 110, 97, 109, 101, 9, 9, 9, 9, 84, 121, 112, 101, 9, 9, 83, 105, 122, 101, 9, 85, 115, 101, 100, 9, 80, 114, 105, 111, 114, 105, 116, 121]
theorem plainSwaps (l : List S31) (hl : l.length ≤ maxLen) (hr : ∀ r ∈ l, OP.RowOk r) : ∃ k b, laws_zzFits5.f k l = some b ∧ (b = true → BackOk (fun k => spec_SwapsPrint.f k l) (fun k => spec_SwapsTree.f k l) (fun s n => doorSwaps s n) l) := by
 obtain ⟨k, b, hz, hfit⟩ := zz5fF l
 refine ⟨k, b, hz, fun e => ?_⟩
 obtain ⟨_, hf⟩ := hfit e
 by_cases h1000 : 1000 < l.length
 ·exact .long h1000
 have hh : swHead.length = 36 := by decide +kernel
 rcases gen_print (fun acc i k => spec_SwapsPrint.l0 k (strB acc) l (l.length : Int) (i : Int)) l.length 1000 5000000000 (by omega) (fun t => swLn t ++ [10]) (fun i t => ∃ h : i < l.length, SwGood l[i] t)
  (fun acc => Ev.step (f := fun _ => some (strB acc, (1 : Int))) (fun k => by simp only [spec_SwapsPrint.l0]; rw [if_neg (by omega)]) (Ev.now _))
  (fun i hi acc hacc => by
   rcases sw_one l (by omega) (fun r h => ⟨hf r h, hr r h⟩) i hi acc hacc with h | ⟨t, g, hln, h⟩
   ·exact .inl h
   ·exact .inr ⟨t, ⟨hi, g⟩, hln, h⟩) l.length 0 (swHead ++ [10]) (by omega) (by simp [hh]) with hp0 | ⟨ts, hlen, hg, hp0⟩
 ·exact gen_no (by omega) hp0
 have hp : Ev (fun k => spec_SwapsPrint.f k l) (strB (swHead ++ [10] ++ ts.flatMap fun t => swLn t ++ [10]), 1) := hp0
 have hg' : ∀ (j : Nat) (h1 : j < l.length) (h2 : j < ts.length), SwGood l[j] ts[j] := fun j h1 h2 => by
  obtain ⟨h, hc⟩ := hg j h2
  simp only [Nat.zero_add] at hc
  exact hc
 have hgt : ∀ t ∈ ts, ∃ r, SwGood r t := fun t ht => by
  obtain ⟨j, hj, rfl⟩ := List.getElem_of_mem ht
  exact ⟨_, hg' j (by omega) hj⟩
 refine gen_end (by omega) _ hp 2 (swAll ts) (fun _ => sw_fit ts (by omega)) (fun _ => ?_) (fun hsz => ?_)
 ·rw [sw_conv]
  exact evB (F := fun k bt761 => if bt761.2 = 1 then _ else _) hp (evP rfl (sw_tree l (by omega) ts hlen hg'))
 ·have hn := sw_nodes ts (by omega)
  have e : swHead ++ [10] ++ (ts.flatMap fun t => swLn t ++ [10]) = swHead ++ 10 :: ts.flatMap fun t => swLn t ++ [10] := by simp
  rw [e] at hsz ⊢
  have hlt : (ts.flatMap fun t => swLn t ++ [10]).length ≤ 40000 := by simp only [List.length_append, List.length_cons] at hsz; omega
  have hrows : rowsF swL (ts.length + 1) (strB (ts.flatMap fun t => swLn t ++ [10])) = some (ts.map swS) := by
   refine rows_text swL swLn swS ts (ts.length + 1) (by omega) (fun t ht => ?_) (by omega)
   obtain ⟨r, g⟩ := hgt t ht
   have hfl := flat_len (fun t => swLn t ++ [10]) ts t ht
   simp only [List.length_append, List.length_cons, List.length_nil] at hfl
   exact sw_line r t g (by omega)
  have hhd : headF (strB (swHead ++ 10 :: ts.flatMap fun t => swLn t ++ [10])) = some (strB (ts.flatMap fun t => swLn t ++ [10])) := head_line swHead _ ⟨(by unfold swHead; exact List.cons_ne_nil _ _), (by decide +kernel), (by rw [hh]; omega)⟩ (by omega)
  have htxt : ∀ k, ts.length + 1 ≤ k → swTextF k (strB (swHead ++ 10 :: ts.flatMap fun t => swLn t ++ [10])) = some (ts.map swS, none) := fun k hk => by
   unfold swTextF
   rw [read_text _ (by omega)]
   simp only [Option.bind_some, if_true]
   rw [nums_text, hhd, Option.bind_some, rowsF_more hk hrows]
   rfl
  obtain ⟨K, hK⟩ := hn
  exact ⟨K + (ts.length + 1), ts.map swS, htxt _ (by omega), hK _ (by omega)⟩
end Go.Proofs.YtednjmngalmdkaaGreatDoor.GPC
end
