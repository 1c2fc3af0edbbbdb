/- Texts of this claim, put together: GPEx14, GivenRt, GivenRtP, GivenRtF, GivenRtT, GivenUp, GPEx13, BackRoute, LwRoute, PlNode, PNum, PlBase, PlFit, PlFlt, PlNums, PlLines, PlGen, PlHex, PlWords. Conditions: as each one says. -/
import Derived.Test.YtednjmngalmdkaaGreatDoorKRt0
import Derived.Test.YtednjmngalmdkaaGreatDoorKRt1
import Derived.Test.YtednjmngalmdkaaGreatDoorKRt2
import Derived.Test.YtednjmngalmdkaaGreatDoorKRt3
import Derived.Test.YtednjmngalmdkaaGreatDoorKRt4
import Derived.Deep.QuietTactic
import Derived.BigQuiet
import Derived.StillTailTactics
import Derived.Defers
import Derived.Recover
import Derived.Lib.ConvBytes
import Derived.Deep.RegionHeld3
import Derived.Laws.FloatArith
import Derived.Test.YtednjmngalmdkaaGreatDoorProg
import Derived.Below
import Derived.Deep.Draws
import Derived.Deep.AppendLies
import Derived.Maps.AppendAt
import Derived.OwnWalk
import Derived.Laws.BytesArg
import Derived.Laws.MakeOwn
import Derived.Laws.OwnMore
import Derived.Deep.OwnRows
import Derived.Tactics
import Derived.Laws.Slices
import Derived.WalkKit
import Derived.KernelRfl
import Derived.RowKit3
import Derived.Deep.LoopGhost
import Derived.WideLaws
import Derived.Deep.DeepCutAuto
import Derived.Deep.CutBlock
import Derived.Laws.Rows
import Derived.Lib.AppendStr
import Derived.ArgAppend
import Derived.Laws.IdiomCopy
import Derived.OrdersHeld
import Derived.Laws.BitsLemmas
import Derived.RowKit
section
namespace Go.Proofs.YtednjmngalmdkaaGreatDoor.GPC
open Go.RowKit Go.Proofs.YtednjmngalmdkaaGreatDoorW.PrintWords Go.Proofs.YtednjmngalmdkaaGreatDoorW.PrintLast Go.Proofs.YtednjmngalmdkaaGreatDoorW.PrintMore
attribute [local go_sem] max2_int min2_int max_two min_two max_three min_three max_four min_four   -- for this text's walks alone
set_option linter.unusedVariables false
set_option linter.unusedSimpArgs false

attribute [local go_sem] run_store_float
/-! ### impl_Route_1: function 110 -/
def impl_Route_1.f (k : Nat) (l0 : List (S130)) : Option (ByteArray × Int × Bool × Int × Int × Nat × ByteArray × (List (S43))) := (procfs_NetRouteLine.f k (⟨#[]⟩ : ByteArray) l0).bind fun bt726 => (some (bt726.1, bt726.2.1, bt726.2.2.1, bt726.2.2.2.1, bt726.2.2.2.2.1, bt726.2.2.2.2.2.1, bt726.2.2.2.2.2.2.1, bt726.2.2.2.2.2.2.2))
theorem impl_Route_1.mono : ∀ a0 k, LeO (impl_Route_1.f k a0) (impl_Route_1.f (k + 1) a0) := by
 intro a0 k
 unfold impl_Route_1.f
 repeat' first
   | (with_reducible exact procfs_NetRouteLine.mono _ _ _)
   | (with_reducible exact LeO.refl _)
   | (with_reducible exact LeO.none _)
   | (with_reducible refine LeO.ite ?_ ?_)
   | (with_reducible refine LeO.bind ?_ (fun _ => ?_))
   | exact procfs_NetRouteLine.mono _ _ _
   | exact LeO.none _
   | refine LeO.ite ?_ ?_
   | refine LeO.bind ?_ (fun _ => ?_)
set_option maxHeartbeats 8000000 in
set_option maxRecDepth 100000 in
theorem impl_Route_1.calls (k : Nat) (A0 : Option Addr) (c0 : Nat) (l0 : List (S130)) (r1 : ByteArray) (r2 : Int) (r3 : Bool) (r4 : Int) (r5 : Int) (r6 : Nat) (r7 : ByteArray) (r8 : List (S43)) (w : World) (hr0 : Kd.C k130 w A0 l0.length l0) (hc0 : l0.length ≤ c0) (h : impl_Route_1.f k l0 = some (r1, r2, r3, r4, r5, r6, r7, r8)) :
  Calls Tryz.prog 110 #[.slice A0 l0.length c0] w fun e w' => ∃ v7_ : Value, e = .returned (.agg #[.string r1, .int .i64 r2, .bool r3, .int .i64 r4, .int .u64 r5, .float .f64 r6, .string r7, v7_]) ∧ Kd.R k43 43 w' w.heap.size (fun _ => True) v7_ r8 ∧ Below w.heap.size w w' := by
 have hu43 := Tryz.underlying43
 have HR0 := Aside0.mk hr0
 have HC0 := Aside0.mk hc0
 clear hr0 hc0
 have HB := Aside0.mk (Below.refl w.heap.size w)
 have H : ((procfs_NetRouteLine.f k (⟨#[]⟩ : ByteArray) l0).bind fun bt726 => (some (bt726.1, bt726.2.1, bt726.2.2.1, bt726.2.2.2.1, bt726.2.2.2.2.1, bt726.2.2.2.2.2.1, bt726.2.2.2.2.2.2.1, bt726.2.2.2.2.2.2.2))) = some (r1, r2, r3, r4, r5, r6, r7, r8) := h
 clear h
 replace H := Option.bind_eq_some_iff.mp H
 obtain ⟨⟨t726, t727, t728, t729, t730, t731, t732, t733⟩, A20, H⟩ := H
 replace H : (some (t726, t727, t728, t729, t730, t731, t732, t733)) = some (r1, r2, r3, r4, r5, r6, r7, r8) := H
 have A2 := Aside0.mk A20
 clear A20
 simp only [Option.some.injEq, Prod.mk.injEq] at H
 obtain ⟨rfl, rfl, rfl, rfl, rfl, rfl, rfl, rfl⟩ := H
 go_enter Tryz.func110, Tryz.ntmps110
 go_wp2_with (first | ((with_reducible refine gate_dst (N := 2) rfl ?_); refine box_event ?hg (N := 2) ?hd (cs := #[.string (⟨#[]⟩ : ByteArray), .int .i64 0, .bool false, .int .i64 0, .int .u64 0, .float .f64 0, .string (⟨#[]⟩ : ByteArray), .slice none 0 0]) (t := 43) ?hr ?_; (case hd => rfl); (case hg => rfl); (case hr => first | (go_simp; done) | (go_simp; rfl)); intro gb725 hg w3 hbox hb; have n0_ := Aside0.mk (below_step (by repeat (first | (with_reducible first | exact HB.out | apply below_alloc | apply pw_below_drewN | apply below_drew1) | exact HB.out)) hb); have n1_ := Aside0.mk (hbox); have n2_ := Aside0.mk ((by rw [hg]; exact (below_size (by repeat (first | (with_reducible first | exact HB.out | apply below_alloc | apply pw_below_drewN | apply below_drew1) | exact HB.out))) : w.heap.size ≤ gb725)); have n3_ := Aside0.mk ((by rw [hg]; exact (below_size (by repeat (first | (with_reducible first | exact HB.out | apply below_alloc | apply pw_below_drewN | apply below_drew1) | exact HB.out))) : w.heap.size ≤ gb725)); clear HB; have HB := n0_; have BK725 := n1_; have GW725 := n2_; have GE725 := n3_; clear n0_ n1_ n2_ n3_; clear hb hbox hg) | ((with_reducible refine gate_callee (f := 111) rfl ?_); refine goesL_ (some 4) rfl rfl Tryz.func111 (by kernel_rfl) rfl #[.string (⟨#[]⟩ : ByteArray), .slice A0 l0.length c0, .func (.func 112) #[] #[]] rfl (by (try simp only [List.map_toArray, List.map_cons, List.map_nil]); first | done | rfl | (simp only [List.length_drop, List.length_take]; rfl)) ?_; (with_reducible refine (procfs_NetRouteLine.calls k (⟨#[]⟩ : ByteArray) _ _ l0 t726 t727 t728 t729 t730 t731 t732 t733 _ ?side1 ?side2 A2.out).mono ?_); (case side1 => repeat (first | exact (Kd.C_below HR0.out HB.out) | (with_reducible refine Kd.C_alloc ?_ _) | (with_reducible refine Kd.C_drewN ?_ _) | (with_reducible refine Kd.C_drew ?_))); (case side2 => exact HC0.out); rintro e w4 ⟨v734, rfl, ho0, hb⟩; refine ⟨_, rfl, ?_⟩; have n0_ := Aside0.mk (Kd.R_lower (Kd.R_newB ho0 (g := gb725) (o := .cells #[.string (⟨#[]⟩ : ByteArray), .int .i64 0, .bool false, .int .i64 0, .int .u64 0, .float .f64 0, .string (⟨#[]⟩ : ByteArray), .slice none 0 0] 43 (0, 0)) (by (with_reducible repeat (first | refine blk_drewN ?_ _ | refine blk_drew ?_ | refine blk_alloc ?_ _)); exact BK725.out)) (below_size (by repeat (first | (with_reducible first | exact HB.out | apply below_alloc | apply pw_below_drewN | apply below_drew1 | refine below_set ?_ GE725.out) | exact HB.out)))); have n1_ := Aside0.mk (blk_below (g := gb725) (o := .cells #[.string (⟨#[]⟩ : ByteArray), .int .i64 0, .bool false, .int .i64 0, .int .u64 0, .float .f64 0, .string (⟨#[]⟩ : ByteArray), .slice none 0 0] 43 (0, 0)) (by (with_reducible repeat (first | refine blk_drewN ?_ _ | refine blk_drew ?_ | refine blk_alloc ?_ _)); exact BK725.out) hb); have n2_ := Aside0.mk (below_step (by repeat (first | (with_reducible first | exact HB.out | apply below_alloc | apply pw_below_drewN | apply below_drew1 | refine below_set ?_ GE725.out) | exact HB.out)) hb); clear BK725; clear HB; have HO735 := n0_; have BK725 := n1_; have HB := n2_; clear n0_ n1_ n2_; (try clear hb); (try clear hb2); (try clear hk); (try clear hi); (try clear ho0); have hcz5_0 : w4.cell? ⟨gb725, 0, none⟩ = some (.string (⟨#[]⟩ : ByteArray)) := (blk_cell BK725.out 0).trans rfl; have hcz5_1 : w4.cell? ⟨gb725, 1, none⟩ = some (.int .i64 0) := (blk_cell BK725.out 1).trans rfl; have hcz5_2 : w4.cell? ⟨gb725, 2, none⟩ = some (.bool false) := (blk_cell BK725.out 2).trans rfl; have hcz5_3 : w4.cell? ⟨gb725, 3, none⟩ = some (.int .i64 0) := (blk_cell BK725.out 3).trans rfl; have hcz5_4 : w4.cell? ⟨gb725, 4, none⟩ = some (.int .u64 0) := (blk_cell BK725.out 4).trans rfl; have hcz5_5 : w4.cell? ⟨gb725, 5, none⟩ = some (.float .f64 0) := (blk_cell BK725.out 5).trans rfl; have hcz5_6 : w4.cell? ⟨gb725, 6, none⟩ = some (.string (⟨#[]⟩ : ByteArray)) := (blk_cell BK725.out 6).trans rfl; have hcz5_7 : w4.cell? ⟨gb725, 7, none⟩ = some (.slice none 0 0) := (blk_cell BK725.out 7).trans rfl; have hfz5_0 := blk_frozen BK725.out 0; have hfz5_1 := blk_frozen BK725.out 1; have hfz5_2 := blk_frozen BK725.out 2; have hfz5_3 := blk_frozen BK725.out 3; have hfz5_4 := blk_frozen BK725.out 4; have hfz5_5 := blk_frozen BK725.out 5; have hfz5_6 := blk_frozen BK725.out 6; have hfz5_7 := blk_frozen BK725.out 7; obtain ⟨Ao6, co6, eo6⟩ := Kd.R_slice HO735.out; subst eo6))
 refine bodyPost_ret (results_cell_row rfl _ _ gb725 43 #[.string t726, .int .i64 t727, .bool t728, .int .i64 t729, .int .u64 t730, .float .f64 t731, .string t732, .slice Ao6 t733.length co6] (0, 0) _ rfl (by (with_reducible repeat (first | refine blk_drewN ?_ _ | refine blk_drew ?_ | refine blk_alloc ?_ _)); refine blk_put (cs := #[.string t726, .int .i64 t727, .bool t728, .int .i64 t729, .int .u64 t730, .float .f64 t731, .string t732, .slice none 0 0]) ?_ 7 _ rfl; (with_reducible repeat (first | refine blk_drewN ?_ _ | refine blk_drew ?_ | refine blk_alloc ?_ _)); refine blk_put (cs := #[.string t726, .int .i64 t727, .bool t728, .int .i64 t729, .int .u64 t730, .float .f64 t731, .string (⟨#[]⟩ : ByteArray), .slice none 0 0]) ?_ 6 _ rfl; (with_reducible repeat (first | refine blk_drewN ?_ _ | refine blk_drew ?_ | refine blk_alloc ?_ _)); refine blk_put (cs := #[.string t726, .int .i64 t727, .bool t728, .int .i64 t729, .int .u64 t730, .float .f64 0, .string (⟨#[]⟩ : ByteArray), .slice none 0 0]) ?_ 5 _ rfl; (with_reducible repeat (first | refine blk_drewN ?_ _ | refine blk_drew ?_ | refine blk_alloc ?_ _)); refine blk_put (cs := #[.string t726, .int .i64 t727, .bool t728, .int .i64 t729, .int .u64 0, .float .f64 0, .string (⟨#[]⟩ : ByteArray), .slice none 0 0]) ?_ 4 _ rfl; (with_reducible repeat (first | refine blk_drewN ?_ _ | refine blk_drew ?_ | refine blk_alloc ?_ _)); refine blk_put (cs := #[.string t726, .int .i64 t727, .bool t728, .int .i64 0, .int .u64 0, .float .f64 0, .string (⟨#[]⟩ : ByteArray), .slice none 0 0]) ?_ 3 _ rfl; (with_reducible repeat (first | refine blk_drewN ?_ _ | refine blk_drew ?_ | refine blk_alloc ?_ _)); refine blk_put (cs := #[.string t726, .int .i64 t727, .bool false, .int .i64 0, .int .u64 0, .float .f64 0, .string (⟨#[]⟩ : ByteArray), .slice none 0 0]) ?_ 2 _ rfl; (with_reducible repeat (first | refine blk_drewN ?_ _ | refine blk_drew ?_ | refine blk_alloc ?_ _)); refine blk_put (cs := #[.string t726, .int .i64 0, .bool false, .int .i64 0, .int .u64 0, .float .f64 0, .string (⟨#[]⟩ : ByteArray), .slice none 0 0]) ?_ 1 _ rfl; (with_reducible repeat (first | refine blk_drewN ?_ _ | refine blk_drew ?_ | refine blk_alloc ?_ _)); refine blk_put (cs := #[.string (⟨#[]⟩ : ByteArray), .int .i64 0, .bool false, .int .i64 0, .int .u64 0, .float .f64 0, .string (⟨#[]⟩ : ByteArray), .slice none 0 0]) ?_ 0 _ rfl; (with_reducible repeat (first | refine blk_drewN ?_ _ | refine blk_drew ?_ | refine blk_alloc ?_ _)); exact BK725.out) Tryz.underlying43 rfl (by kernel_rfl)) rfl ?_
 exact ⟨_, by first | rfl | (simp [errW_none, errW_some] <;> rfl) | (simp [*, errW_none, errW_some] <;> rfl), by (with_reducible repeat (first | apply Kd.R_alloc | apply Kd.R_drewN | apply Kd.R_drew)); exact Kd.R_mono (Kd.R_far (p := ⟨gb725, 7, none⟩) (Kd.R_far (p := ⟨gb725, 6, none⟩) (Kd.R_far (p := ⟨gb725, 5, none⟩) (Kd.R_far (p := ⟨gb725, 4, none⟩) (Kd.R_far (p := ⟨gb725, 3, none⟩) (Kd.R_far (p := ⟨gb725, 2, none⟩) (Kd.R_far (p := ⟨gb725, 1, none⟩) (Kd.R_far (p := ⟨gb725, 0, none⟩) (Kd.R_mono HO735.out (fun k_ hk => (⟨hk, hk.2⟩ : _ ∧ k_ ≠ gb725))) (fun _ hk => hk.2) (.string t726)) (fun _ hk => hk.2) (.int .i64 t727)) (fun _ hk => hk.2) (.bool t728)) (fun _ hk => hk.2) (.int .i64 t729)) (fun _ hk => hk.2) (.int .u64 t730)) (fun _ hk => hk.2) (.float .f64 t731)) (fun _ hk => hk.2) (.string t732)) (fun _ hk => hk.2) (.slice Ao6 t733.length co6)) (fun _ hk => trivial), by repeat (first | (with_reducible first | exact HB.out | apply below_alloc | apply pw_below_drewN | apply below_drew1 | refine below_set ?_ GE725.out) | exact HB.out)⟩
end Go.Proofs.YtednjmngalmdkaaGreatDoor.GPC
end
section
/- procfs.parseNetRouteLine: what the words of a line say. Conditions: rtF. -/
namespace Go.Proofs.YtednjmngalmdkaaGreatDoor.GPC
open Go Go.RowKit Go.Proofs.YtednjmngalmdkaaGreatDoorW.PrintWords Go.Proofs.YtednjmngalmdkaaGreatDoorW.PrintLast
set_option linter.unusedVariables false
set_option linter.unusedSimpArgs false
def puF (s : ByteArray) (b bits : Int) : Option Int := (strconv_ParseUint.f s b bits).bind fun r => if r.2 = none then some r.1 else none
theorem pu_call (s : ByteArray) (b bits n : Int) (w : World) (h : puF s b bits = some n) :
  Calls Tryz.prog 158 #[.string s, .int .i64 b, .int .i64 bits] w fun e w' => e = .returned (.tuple #[.int .u64 n, .nilIface]) ∧ Below w.heap.size w w' := by
 unfold puF at h
 obtain ⟨⟨r, q⟩, h1, h⟩ := Option.bind_eq_some_iff.1 h
 split at h
 ·rename_i hq
  simp only at hq
  subst hq
  cases h
  exact strconv_ParseUint.calls s b bits r none w h1
 ·cases h
def rtF (fs : List ByteArray) : Option S130 := if fs.length = 11 ∧ ¬ (rdOf ByteArray.empty fs 0).toList = [42] then (puF (rdOf ByteArray.empty fs 1) 16 32).bind fun n1 => (puF (rdOf ByteArray.empty fs 2) 16 32).bind fun n2 => (puF (rdOf ByteArray.empty fs 3) 10 32).bind fun n3 => (puF (rdOf ByteArray.empty fs 4) 10 32).bind fun n4 => (puF (rdOf ByteArray.empty fs 5) 10 32).bind fun n5 => (puF (rdOf ByteArray.empty fs 6) 10 32).bind fun n6 => (puF (rdOf ByteArray.empty fs 7) 16 32).bind fun n7 => (puF (rdOf ByteArray.empty fs 8) 10 32).bind fun n8 => (puF (rdOf ByteArray.empty fs 9) 10 32).bind fun n9 => (puF (rdOf ByteArray.empty fs 10) 10 32).bind fun n10 => some ⟨rdOf ByteArray.empty fs 0, IntKind.u32.wrap n1, IntKind.u32.wrap n2, IntKind.u32.wrap n3, IntKind.u32.wrap n4, IntKind.u32.wrap n5, IntKind.u32.wrap n6, IntKind.u32.wrap n7, IntKind.u32.wrap n8, IntKind.u32.wrap n9, IntKind.u32.wrap n10⟩ else none
theorem rtF_some {fs : List ByteArray} {m : S130} (h : rtF fs = some m) : fs.length = 11 ∧ ¬ (rdOf ByteArray.empty fs 0).toList = [42] ∧ ∃ n1 n2 n3 n4 n5 n6 n7 n8 n9 n10, puF (rdOf ByteArray.empty fs 1) 16 32 = some n1 ∧ puF (rdOf ByteArray.empty fs 2) 16 32 = some n2 ∧ puF (rdOf ByteArray.empty fs 3) 10 32 = some n3 ∧ puF (rdOf ByteArray.empty fs 4) 10 32 = some n4 ∧ puF (rdOf ByteArray.empty fs 5) 10 32 = some n5 ∧ puF (rdOf ByteArray.empty fs 6) 10 32 = some n6 ∧ puF (rdOf ByteArray.empty fs 7) 16 32 = some n7 ∧ puF (rdOf ByteArray.empty fs 8) 10 32 = some n8 ∧ puF (rdOf ByteArray.empty fs 9) 10 32 = some n9 ∧ puF (rdOf ByteArray.empty fs 10) 10 32 = some n10 ∧ m = ⟨rdOf ByteArray.empty fs 0, IntKind.u32.wrap n1, IntKind.u32.wrap n2, IntKind.u32.wrap n3, IntKind.u32.wrap n4, IntKind.u32.wrap n5, IntKind.u32.wrap n6, IntKind.u32.wrap n7, IntKind.u32.wrap n8, IntKind.u32.wrap n9, IntKind.u32.wrap n10⟩ := by
 unfold rtF at h
 split at h
 ·rename_i hc
  obtain ⟨n1, h1, h⟩ := Option.bind_eq_some_iff.1 h
  obtain ⟨n2, h2, h⟩ := Option.bind_eq_some_iff.1 h
  obtain ⟨n3, h3, h⟩ := Option.bind_eq_some_iff.1 h
  obtain ⟨n4, h4, h⟩ := Option.bind_eq_some_iff.1 h
  obtain ⟨n5, h5, h⟩ := Option.bind_eq_some_iff.1 h
  obtain ⟨n6, h6, h⟩ := Option.bind_eq_some_iff.1 h
  obtain ⟨n7, h7, h⟩ := Option.bind_eq_some_iff.1 h
  obtain ⟨n8, h8, h⟩ := Option.bind_eq_some_iff.1 h
  obtain ⟨n9, h9, h⟩ := Option.bind_eq_some_iff.1 h
  obtain ⟨n10, h10, h⟩ := Option.bind_eq_some_iff.1 h
  obtain rfl := Option.some.inj h
  exact ⟨hc.1, hc.2, n1, n2, n3, n4, n5, n6, n7, n8, n9, n10, h1, h2, h3, h4, h5, h6, h7, h8, h9, h10, rfl⟩
 ·cases h
theorem rtF_len {fs : List ByteArray} {m : S130} (h : rtF fs = some m) : 0 < fs.length := by have := (rtF_some h).1; omega
def rtCells (m : S130) : Array Value := #[.string m.f0, .int .u32 m.f1, .int .u32 m.f2, .int .u32 m.f3, .int .u32 m.f4, .int .u32 m.f5, .int .u32 m.f6, .int .u32 m.f7, .int .u32 m.f8, .int .u32 m.f9, .int .u32 m.f10]
def rtObj (m : S130) : Obj := .cells (rtCells m) 130 (0, 0)
set_option maxHeartbeats 8000000 in
set_option maxRecDepth 100000 in
theorem rtLine (gs cap : Nat) (fs : List ByteArray) (m : S130) (w : World) (hgs : gs < w.heap.size) (hcs : ∀ i : Nat, i < fs.length → w.cell? ⟨gs, i, none⟩ = some (.string (rdOf ByteArray.empty fs (i : Int)))) (h : rtF fs = some m) :
  Calls Tryz.prog 214 #[.slice (some ⟨gs, 0, none⟩) fs.length cap] w fun e w' => ∃ g, e = .returned (.tuple #[.pointer (some ⟨g, 0, none⟩), .nilIface]) ∧ w.heap.size ≤ g ∧ w'.heap[g]? = some (rtObj m) ∧ Below w.heap.size w w' := by
 obtain ⟨h11, hst, n1, n2, n3, n4, n5, n6, n7, n8, n9, n10, a1, a2, a3, a4, a5, a6, a7, a8, a9, a10, rfl⟩ := rtF_some h
 have e0 := hcs 0 (by omega)
 have e1 := hcs 1 (by omega)
 have e2 := hcs 2 (by omega)
 have e3 := hcs 3 (by omega)
 have e4 := hcs 4 (by omega)
 have e5 := hcs 5 (by omega)
 have e6 := hcs 6 (by omega)
 have e7 := hcs 7 (by omega)
 have e8 := hcs 8 (by omega)
 have e9 := hcs 9 (by omega)
 have e10 := hcs 10 (by omega)
 obtain ⟨s0, hs0⟩ : ∃ s, s = rdOf ByteArray.empty fs 0 := ⟨_, rfl⟩
 rw [show ((0 : Nat) : Int) = 0 from rfl, ← hs0] at e0
 obtain ⟨s1, hs1⟩ : ∃ s, s = rdOf ByteArray.empty fs 1 := ⟨_, rfl⟩
 rw [show ((1 : Nat) : Int) = 1 from rfl, ← hs1] at e1
 rw [← hs1] at a1
 obtain ⟨s2, hs2⟩ : ∃ s, s = rdOf ByteArray.empty fs 2 := ⟨_, rfl⟩
 rw [show ((2 : Nat) : Int) = 2 from rfl, ← hs2] at e2
 rw [← hs2] at a2
 obtain ⟨s3, hs3⟩ : ∃ s, s = rdOf ByteArray.empty fs 3 := ⟨_, rfl⟩
 rw [show ((3 : Nat) : Int) = 3 from rfl, ← hs3] at e3
 rw [← hs3] at a3
 obtain ⟨s4, hs4⟩ : ∃ s, s = rdOf ByteArray.empty fs 4 := ⟨_, rfl⟩
 rw [show ((4 : Nat) : Int) = 4 from rfl, ← hs4] at e4
 rw [← hs4] at a4
 obtain ⟨s5, hs5⟩ : ∃ s, s = rdOf ByteArray.empty fs 5 := ⟨_, rfl⟩
 rw [show ((5 : Nat) : Int) = 5 from rfl, ← hs5] at e5
 rw [← hs5] at a5
 obtain ⟨s6, hs6⟩ : ∃ s, s = rdOf ByteArray.empty fs 6 := ⟨_, rfl⟩
 rw [show ((6 : Nat) : Int) = 6 from rfl, ← hs6] at e6
 rw [← hs6] at a6
 obtain ⟨s7, hs7⟩ : ∃ s, s = rdOf ByteArray.empty fs 7 := ⟨_, rfl⟩
 rw [show ((7 : Nat) : Int) = 7 from rfl, ← hs7] at e7
 rw [← hs7] at a7
 obtain ⟨s8, hs8⟩ : ∃ s, s = rdOf ByteArray.empty fs 8 := ⟨_, rfl⟩
 rw [show ((8 : Nat) : Int) = 8 from rfl, ← hs8] at e8
 rw [← hs8] at a8
 obtain ⟨s9, hs9⟩ : ∃ s, s = rdOf ByteArray.empty fs 9 := ⟨_, rfl⟩
 rw [show ((9 : Nat) : Int) = 9 from rfl, ← hs9] at e9
 rw [← hs9] at a9
 obtain ⟨s10, hs10⟩ : ∃ s, s = rdOf ByteArray.empty fs 10 := ⟨_, rfl⟩
 rw [show ((10 : Nat) : Int) = 10 from rfl, ← hs10] at e10
 rw [← hs10] at a10
 rw [← hs0] at hst
 rw [← hs0, h11]
 have A1 := Aside0.mk a1
 have A2 := Aside0.mk a2
 have A3 := Aside0.mk a3
 have A4 := Aside0.mk a4
 have A5 := Aside0.mk a5
 have A6 := Aside0.mk a6
 have A7 := Aside0.mk a7
 have A8 := Aside0.mk a8
 have A9 := Aside0.mk a9
 have A10 := Aside0.mk a10
 have E1 := Aside0.mk e1
 have E2 := Aside0.mk e2
 have E3 := Aside0.mk e3
 have E4 := Aside0.mk e4
 have E5 := Aside0.mk e5
 have E6 := Aside0.mk e6
 have E7 := Aside0.mk e7
 have E8 := Aside0.mk e8
 have E9 := Aside0.mk e9
 have E10 := Aside0.mk e10
 have HGS := Aside0.mk hgs
 have d0 : (s0.toList == ([42] : List UInt8)) = false := beq_eq_false_iff_ne.2 hst
 clear hgs hcs h h11 hst a1 a2 a3 a4 a5 a6 a7 a8 a9 a10 hs0 hs1 hs2 hs3 hs4 hs5 hs6 hs7 hs8 hs9 hs10 e2 e3 e4 e5 e6 e7 e8 e9 e10
 go_enter Tryz.func214, Tryz.ntmps214
 go_wp2_with (first
  | (go_at_call 158; (with_reducible refine (pu_call s1 16 32 n1 _ A1.out).mono ?_); rintro e w1 ⟨rfl, hb⟩; have HB1 := Aside0.mk hb; clear hb; have c2 : w1.cell? ⟨gs, 2, none⟩ = some (.string s2) := (HB1.out.cell (p := ⟨gs, 2, none⟩) HGS.out).trans E2.out)
  | (go_at_call 158; (with_reducible refine (pu_call s2 16 32 n2 _ A2.out).mono ?_); rintro e w2 ⟨rfl, hb⟩; have HB2 := Aside0.mk (below_step HB1.out hb); clear hb; have c3 : w2.cell? ⟨gs, 3, none⟩ = some (.string s3) := (HB2.out.cell (p := ⟨gs, 3, none⟩) HGS.out).trans E3.out)
  | (go_at_call 158; (with_reducible refine (pu_call s3 10 32 n3 _ A3.out).mono ?_); rintro e w3 ⟨rfl, hb⟩; have HB3 := Aside0.mk (below_step HB2.out hb); clear hb; have c4 : w3.cell? ⟨gs, 4, none⟩ = some (.string s4) := (HB3.out.cell (p := ⟨gs, 4, none⟩) HGS.out).trans E4.out)
  | (go_at_call 158; (with_reducible refine (pu_call s4 10 32 n4 _ A4.out).mono ?_); rintro e w4 ⟨rfl, hb⟩; have HB4 := Aside0.mk (below_step HB3.out hb); clear hb; have c5 : w4.cell? ⟨gs, 5, none⟩ = some (.string s5) := (HB4.out.cell (p := ⟨gs, 5, none⟩) HGS.out).trans E5.out)
  | (go_at_call 158; (with_reducible refine (pu_call s5 10 32 n5 _ A5.out).mono ?_); rintro e w5 ⟨rfl, hb⟩; have HB5 := Aside0.mk (below_step HB4.out hb); clear hb; have c6 : w5.cell? ⟨gs, 6, none⟩ = some (.string s6) := (HB5.out.cell (p := ⟨gs, 6, none⟩) HGS.out).trans E6.out)
  | (go_at_call 158; (with_reducible refine (pu_call s6 10 32 n6 _ A6.out).mono ?_); rintro e w6 ⟨rfl, hb⟩; have HB6 := Aside0.mk (below_step HB5.out hb); clear hb; have c7 : w6.cell? ⟨gs, 7, none⟩ = some (.string s7) := (HB6.out.cell (p := ⟨gs, 7, none⟩) HGS.out).trans E7.out)
  | (go_at_call 158; (with_reducible refine (pu_call s7 16 32 n7 _ A7.out).mono ?_); rintro e w7 ⟨rfl, hb⟩; have HB7 := Aside0.mk (below_step HB6.out hb); clear hb; have c8 : w7.cell? ⟨gs, 8, none⟩ = some (.string s8) := (HB7.out.cell (p := ⟨gs, 8, none⟩) HGS.out).trans E8.out)
  | (go_at_call 158; (with_reducible refine (pu_call s8 10 32 n8 _ A8.out).mono ?_); rintro e w8 ⟨rfl, hb⟩; have HB8 := Aside0.mk (below_step HB7.out hb); clear hb; have c9 : w8.cell? ⟨gs, 9, none⟩ = some (.string s9) := (HB8.out.cell (p := ⟨gs, 9, none⟩) HGS.out).trans E9.out)
  | (go_at_call 158; (with_reducible refine (pu_call s9 10 32 n9 _ A9.out).mono ?_); rintro e w9 ⟨rfl, hb⟩; have HB9 := Aside0.mk (below_step HB8.out hb); clear hb; have c10 : w9.cell? ⟨gs, 10, none⟩ = some (.string s10) := (HB9.out.cell (p := ⟨gs, 10, none⟩) HGS.out).trans E10.out)
  | (go_at_call 158; (with_reducible refine (pu_call s10 10 32 n10 _ A10.out).mono ?_); rintro e w10 ⟨rfl, hb⟩; have HB10 := Aside0.mk (below_step HB9.out hb); clear hb))
 go_ret2
 exact ⟨_, rfl, HB10.out.size, heap_alloc_new _ _, below_alloc HB10.out _⟩
end Go.Proofs.YtednjmngalmdkaaGreatDoor.GPC
end
section
/- pub-frontispiece/pub/procfs.parseNetRoute: the rows that a text says, line by line, behind its head. Conditions: rowsF; the tables as laid. -/
namespace Go.Proofs.YtednjmngalmdkaaGreatDoor.GPC
open Go Go.RowKit Go.Proofs.YtednjmngalmdkaaGreatDoorW.PrintWords Go.Proofs.YtednjmngalmdkaaGreatDoorW.PrintLast
set_option linter.unusedVariables false
set_option linter.unusedSimpArgs false
def rtL (t : ByteArray) : Option (Option S130) := (strings_Fields.f t).bind fun fs => (rtF fs).map some
theorem rtL_some {t : ByteArray} {m : Option S130} (h : rtL t = some m) : ∃ fs x, strings_Fields.f t = some fs ∧ rtF fs = some x ∧ m = some x := by
 unfold rtL at h
 obtain ⟨fs, h1, h⟩ := Option.bind_eq_some_iff.1 h
 obtain ⟨x, h2, rfl⟩ := Option.map_eq_some_iff.1 h
 exact ⟨fs, x, h1, h2, rfl⟩
theorem infoRt : (Tryz.prog.info? 130).map (fun i => (i.zero, i.size, i.bytes)) = some (some (.agg #[(.string ⟨#[]⟩), (.int .u32 0), (.int .u32 0), (.int .u32 0), (.int .u32 0), (.int .u32 0), (.int .u32 0), (.int .u32 0), (.int .u32 0), (.int .u32 0), (.int .u32 0)]), 11, 56) := by kernel_rfl
set_option maxHeartbeats 8000000 in
set_option maxRecDepth 100000 in
theorem rtParse (k : Nat) (text t0 : ByteArray) (ms : List S130) (w : World) (hT : TabW w) (hh : headF text = some t0) (h : rowsF rtL k t0 = some ms) :
  Calls Tryz.prog 199 #[.string text] w fun e w' => ∃ v, e = .returned (.tuple #[v, .nilIface]) ∧ Kd.R k130 130 w' w.heap.size (fun _ => True) v ms ∧ Below w.heap.size w w' := by
 obtain ⟨hne, hok, rfl⟩ : ¬ text.size = 0 ∧ LineOk text ∧ GL.restOf text = t0 := by
  unfold headF at hh
  split at hh
  ·cases hh
  ·rename_i h0
   split at hh
   ·rename_i h1; exact ⟨h0, h1, Option.some.inj hh⟩
   ·cases hh
 have HNE := Aside0.mk hne
 have HOK0 := Aside0.mk hok
 have HT := Aside0.mk hT
 have HSZ := Aside0.mk (rowsF_size h)
 have H := Aside0.mk h
 clear hT h hne hok hh
 go_enter Tryz.func199, Tryz.ntmps199
 go_wp2_with (first
  | (go_at_call 154; refine (GL.lines_new text _).mono ?_; rintro e w1 ⟨g, rfl, hg1, hg2, hb1⟩; have HB0 := Aside0.mk hb1; have HG0 := Aside0.mk hg2; have HG1 := Aside0.mk hg1; clear hg1 hg2 hb1)
  | (go_at_call 155; refine (GL.lines_scan g text _ _ HG0.out (by have := HNE.out; omega) (by have := HOK0.out.1; omega) HOK0.out.2.1 HOK0.out.2.2).mono ?_; rintro e w2 ⟨rfl, hg3, hgr3⟩; have HB := Aside0.mk (pw_below_grown HB0.out (some g) HB0.out.size hgr3 (fun k e => by cases e; exact HG1.out)); have HG := Aside0.mk hg3; clear hg3 hgr3))
 go_loopg [4] k (fun kq v4 w' => ∃ (t line : ByteArray) (rest done : List S130), Aside0 (rowsF rtL kq t = some rest) ∧ Aside0 (done ++ rest = ms) ∧ Aside0 (t.size = 0 ∨ done.length + t.size ≤ 1000000) ∧
  Aside0 (w'.heap[g]? = some (GL.linesCells t line)) ∧ Aside0 (Kd.R k130 130 w' w.heap.size (fun _ => True) v4 done) ∧ Aside0 (Below w.heap.size w w'))
 case atStart => exact ⟨_, _, ms, [], H, ⟨rfl⟩, ⟨by simpa using HSZ.out⟩, HG, ⟨Kd.R_nil _ _ _ _ _⟩, HB⟩
 case round =>
  clear H HSZ HG HB HG0 HB0
  obtain ⟨t, line, rest, done, H, HD, HS, HG, HO, HB⟩ := hrel
  cases gk with
  | zero => exact absurd H.out (by simp [rowsF])
  | succ k1 =>
   by_cases ht : t.size = 0
   ·have h := H.out
    clear H
    unfold rowsF at h
    rw [if_pos ht] at h
    obtain rfl := Option.some.inj h
    obtain rfl := GL.size0 ht
    clear h ht
    go_wp2_with (first
     | (go_at_call 155; refine (GL.lines_scan_end g line _ HG.out).mono ?_; rintro e w3 ⟨rfl, hg3, hgr3⟩))
    go_ret2
    refine ⟨_, rfl, ?_, ?_⟩
    ·have := HD.out
     rw [List.append_nil] at this
     rw [← this]
     exact Kd.R_mono (Kd.R_grown (Kd.R_types HO.out HG.out (by decide)) hgr3 (fun k hk e => hk.2 (by cases e; rfl))) (fun _ _ => trivial)
    ·exact pw_below_grown HB.out (some g) HB.out.size hgr3 (fun k e => by cases e; exact HG1.out)
   ·obtain ⟨hok, m0, ms', hm, hms, hre⟩ := rowsF_step H.out ht
    obtain ⟨fs, m, hfs, hmf, rfl⟩ := rtL_some hm
    have HT2 := Aside0.mk ht
    have HOK := Aside0.mk hok
    have HMS := Aside0.mk hms
    have HRE := Aside0.mk hre
    have HFF := Aside0.mk hfs
    have HM := Aside0.mk hmf
    have HFL := Aside0.mk (show 0 < fs.length from rtF_len hmf)
    clear H ht hok hm hms hre hfs hmf
    go_wp2_with (first
     | (go_at_call 155; refine (GL.lines_scan g t line _ HG.out (by have := HT2.out; omega) (by have := HOK.out.1; omega) HOK.out.2.1 HOK.out.2.2).mono ?_; rintro e w3 ⟨rfl, hg3, hgr3⟩; have HO3 := Aside0.mk (Kd.R_mono (Kd.R_grown (Kd.R_types HO.out HG.out (by decide)) hgr3 (fun k hk e => hk.2 (by cases e; rfl))) (fun _ _ => trivial) : Kd.R k130 130 w3 w.heap.size (fun _ => True) _ done); have HB3 := Aside0.mk (pw_below_grown HB.out (some g) HB.out.size hgr3 (fun k e => by cases e; exact HG1.out)); have HG3 := Aside0.mk hg3; clear hg3 hgr3)
     | (go_at_call 157; refine (GL.lines_text g _ _ _ HG3.out).mono ?_; rintro e w3' ⟨rfl, rfl⟩)
     | (go_at_call 190; refine (strings_Fields.calls _ fs _ (tabW_below HT.out HB3.out) HFF.out).mono ?_; rintro e w5 ⟨v0, rfl, hf, hb5⟩; obtain ⟨gs, cap, rfl, hgs1, hgs2, cells, hcells⟩ := Kd.R_form hf HFL.out; have HFS := Aside0.mk hf; have HB5 := Aside0.mk hb5; have HGS := Aside0.mk hgs2; clear hf hb5 hcells hgs1 hgs2)
     | (go_at_call 214; refine (rtLine gs cap fs m _ HGS.out (fun i hi => by have := (Kd.R_cell ByteArray.empty HFS.out (i : Int) (by omega) (by omega)).1; simpa only [Int.toNat_natCast] using this) HM.out).mono ?_; rintro e w6 ⟨p, rfl, hp1, hp2, hb6⟩; have q0 : w6.cell? ⟨p, 0, none⟩ = some (.string m.f0) := (blk_cell hp2 0).trans rfl; have q1 : w6.cell? ⟨p, 1, none⟩ = some (.int .u32 m.f1) := (blk_cell hp2 1).trans rfl; have q2 : w6.cell? ⟨p, 2, none⟩ = some (.int .u32 m.f2) := (blk_cell hp2 2).trans rfl; have q3 : w6.cell? ⟨p, 3, none⟩ = some (.int .u32 m.f3) := (blk_cell hp2 3).trans rfl; have q4 : w6.cell? ⟨p, 4, none⟩ = some (.int .u32 m.f4) := (blk_cell hp2 4).trans rfl; have q5 : w6.cell? ⟨p, 5, none⟩ = some (.int .u32 m.f5) := (blk_cell hp2 5).trans rfl; have q6 : w6.cell? ⟨p, 6, none⟩ = some (.int .u32 m.f6) := (blk_cell hp2 6).trans rfl; have q7 : w6.cell? ⟨p, 7, none⟩ = some (.int .u32 m.f7) := (blk_cell hp2 7).trans rfl; have q8 : w6.cell? ⟨p, 8, none⟩ = some (.int .u32 m.f8) := (blk_cell hp2 8).trans rfl; have q9 : w6.cell? ⟨p, 9, none⟩ = some (.int .u32 m.f9) := (blk_cell hp2 9).trans rfl; have q10 : w6.cell? ⟨p, 10, none⟩ = some (.int .u32 m.f10) := (blk_cell hp2 10).trans rfl; have HO6 := Aside0.mk (Kd.R_below (Kd.R_below HO3.out HB5.out) hb6); have HX6 := Aside0.mk (below_step (below_step HB3.out HB5.out) hb6); have HG6 := Aside0.mk (blk_below (blk_below HG3.out HB5.out) hb6); clear hb6 hp1 hp2)
     | ((with_reducible refine gate_builtin (b := .append) (xs := #[.tmp 26, .tmp 30]) rfl ?_); at_builtin; refine Kd.R_append k130 (w0 := w) w.heap.size rfl (.tmp 26) (.tmp 30) 126 130 (.agg #[(.string ⟨#[]⟩), (.int .u32 0), (.int .u32 0), (.int .u32 0), (.int .u32 0), (.int .u32 0), (.int .u32 0), (.int .u32 0), (.int .u32 0), (.int .u32 0), (.int .u32 0)]) 56 rfl Tryz.underlying126 infoRt rfl (by decide) (by omega) u4 done m [.string m.f0, .int .u32 m.f1, .int .u32 m.f2, .int .u32 m.f3, .int .u32 m.f4, .int .u32 m.f5, .int .u32 m.f6, .int .u32 m.f7, .int .u32 m.f8, .int .u32 m.f9, .int .u32 m.f10] (fun _ => True) (fun _ => False) rfl (by first | (go_simp; done) | (go_simp; rfl)) (k130_mkM _ _ _ m) (fun _ hk => hk.elim) (fun _ _ => trivial) HO6.out HX6.out HX6.out.size (by have := HS.out; have := HT2.out; omega) ?_; intro v11 w11 ho hb hg _; have HO11 := Aside0.mk ho; have HB11 := Aside0.mk hb; have HG11 := Aside0.mk (blk_grown HG6.out hg (Kd.R_ne HO6.out HG6.out (by decide))); clear ho hb hg))
    go_roundg k1
    case measure => omega
    case rel =>
     exact ⟨GL.restOf t, GL.lineOf t, ms', done ++ [m], HMS, ⟨by have := HD.out; rw [HRE.out] at this; rw [← this]; simp⟩, ⟨by have := restOf_size t (by have := HT2.out; omega); have := HS.out; have := HT2.out; simp; omega⟩, HG11, HO11, HB11⟩
end Go.Proofs.YtednjmngalmdkaaGreatDoor.GPC
end
section
/- (pub-frontispiece/pub/procfs.FS).NetRoute: the text read and parsed. Conditions: rtTextF; the tables as laid. -/
namespace Go.Proofs.YtednjmngalmdkaaGreatDoor.GPC
open Go Go.RowKit Go.Proofs.YtednjmngalmdkaaGreatDoorW.PrintWords Go.Proofs.YtednjmngalmdkaaGreatDoorW.PrintLast
set_option linter.unusedVariables false
set_option linter.unusedSimpArgs false
def rtTextF (k : Nat) (text : ByteArray) : Option (List S130 × Option Int) := (texts_Read.f text).bind fun q => if q.2 = none then (headF (strOfNums q.1)).bind fun t0 => (rowsF rtL k t0).map fun x => (x, none) else none
set_option maxHeartbeats 8000000 in
set_option maxRecDepth 100000 in
theorem rdRoute (k : Nat) (text : ByteArray) (r : List S130) (w : World) (hT : TabW w) (h : rtTextF k text = some (r, none)) :
  Calls Tryz.prog 172 #[.string text] w fun e w' => ∃ v, e = .returned (.tuple #[v, .nilIface]) ∧ Kd.R k130 130 w' w.heap.size (fun _ => True) v r ∧ Below w.heap.size w w' := by
 unfold rtTextF at h
 obtain ⟨⟨bs, er⟩, hrd, h⟩ := Option.bind_eq_some_iff.1 h
 split at h
 ·rename_i he
  simp only at he
  subst he
  obtain ⟨t0, hh, h⟩ := Option.bind_eq_some_iff.1 h
  obtain ⟨x, hx, e⟩ := Option.map_eq_some_iff.1 h
  cases e
  have HT := Aside0.mk hT
  have HRD := Aside0.mk hrd
  have HL := Aside0.mk hx
  have HH := Aside0.mk hh
  have HW0 := Aside0.mk (Below.refl w.heap.size w)
  clear hT hrd h hx hh
  go_enter Tryz.func172, Tryz.ntmps172
  go_wp2_with (first
   | (go_at_call 140; refine (texts_Read.calls text bs none _ HRD.out).mono ?_; rintro e w1 ⟨v0, rfl, hv, hb⟩; simp only [errW_none]; obtain ⟨Ab, cb, rfl, hlb, hFb⟩ := hv; have hcv := Kd.C_string (P := Tryz.prog) (A := Ab) (c := cb) Tryz.underlying173 Tryz.underlying5 Tryz.underlying56 (Kd.F_now hFb); have HW1 := Aside0.mk (below_then HW0.out HW0.out.size hb); clear hb hFb hlb)
   | (go_at_call 199; refine (rtParse k (strOfNums bs) t0 r _ (tabW_below HT.out HW1.out) HH.out HL.out).mono ?_; rintro e w2 ⟨v, rfl, hR, hb2⟩; have HR := Aside0.mk (Kd.R_lower hR HW1.out.size); have HB2 := Aside0.mk (below_then HW1.out HW1.out.size hb2); clear hR hb2))
  go_ret2
  exact ⟨v, rfl, HR.out, HB2.out⟩
 ·cases h
set_option maxHeartbeats 8000000 in
set_option maxRecDepth 100000 in
theorem fsRoute (k : Nat) (text : ByteArray) (r : List S130) (w : World) (hT : TabW w) (h : rtTextF k text = some (r, none)) :
  Calls Tryz.prog 109 #[.agg #[.string text]] w fun e w' => ∃ v, e = .returned (.tuple #[v, .nilIface]) ∧ Kd.R k130 130 w' w.heap.size (fun _ => True) v r ∧ Below w.heap.size w w' := by
 have HT := Aside0.mk hT
 have HL := Aside0.mk h
 have HW0 := Aside0.mk (show Below w.heap.size w ((w.alloc (Obj.cells #[Value.string text] 58 (0,0))).alloc (Obj.cells #[Value.string ⟨#[110, 101, 116]⟩, Value.string ⟨#[114, 111, 117, 116, 101]⟩] 9 (0,0))) from below_alloc (below_alloc (Below.refl _ _) _) _)
 clear hT h
 go_enter Tryz.func109, Tryz.ntmps109
 go_wp2_with (first
  | (go_at_call 139; go_in)
  | (go_at_call 172; refine (rdRoute k text r _ (tabW_below HT.out HW0.out) HL.out).mono ?_; rintro e w2 ⟨v, rfl, hR, hb2⟩; have HR := Aside0.mk (Kd.R_lower hR HW0.out.size); have HB2 := Aside0.mk (below_then HW0.out HW0.out.size hb2); clear hR hb2))
 go_ret2
 exact ⟨v, rfl, HR.out, HB2.out⟩
end Go.Proofs.YtednjmngalmdkaaGreatDoor.GPC
end
section
/- impl.tree, impl.Route: the door of this law. Conditions: the printed functions' answers; the tables as laid. -/
namespace Go.Proofs.YtednjmngalmdkaaGreatDoor.GPC
open Go.RowKit Go.Proofs.YtednjmngalmdkaaGreatDoorW.PrintWords Go.Proofs.YtednjmngalmdkaaGreatDoorW.PrintLast
set_option linter.unusedVariables false
set_option linter.unusedSimpArgs false
attribute [local go_sem] run_store_float
def nodeRoute (k : Nat) (r : List S130) : Option S43 := (impl_Route_1.f k r).map fun r => ⟨r.1, r.2.1, r.2.2.1, r.2.2.2.1, r.2.2.2.2.1, r.2.2.2.2.2.1, r.2.2.2.2.2.2.1, r.2.2.2.2.2.2.2⟩
theorem litRoute (k : Nat) (A : Option Addr) (c : Nat) (r : List S130) (n : S43) (w : World) (hC : Kd.C k130 w A r.length r) (hc : r.length ≤ c) (h : nodeRoute k r = some n) :
  Calls Tryz.prog 110 #[.slice A r.length c] w fun e w' => ∃ v7, e = .returned (nodeVal n v7) ∧ KidsV n w w' v7 ∧ Below w.heap.size w w' := by
 unfold nodeRoute at h
 obtain ⟨⟨r1, r2, r3, r4, r5, r6, r7, r8⟩, hr, rfl⟩ := Option.map_eq_some_iff.1 h
 refine (impl_Route_1.calls k A c r r1 r2 r3 r4 r5 r6 r7 r8 w hC hc hr).mono ?_
 rintro e w' ⟨v7, rfl, ho, hb⟩
 exact ⟨v7, rfl, ho, hb⟩
theorem idleRoute (p q : Addr) (w : World) :
  CallsD Tryz.prog 171 #[.pointer (some p), .pointer (some q)] .returning w fun e u' w' => e = .returned (.tuple #[]) ∧ u' = .returning ∧ w' = w := by
 refine callsD_of_wpS Tryz.func171 rfl fun c₀ cs hu => ?_
 apply wpS_seq
 apply wpS_region
 simp [wpOpsS, go_sem, recoverD, hu, Tryz.ntmps171, Exit.thenS]
 refine wpS_cond (t := false) (by simp [Act.eval, Array.replicate]) ?_
 simp only [Bool.false_eq_true, if_false]
 refine wpS_of_wp (wp_skip ?_)
 cases c₀
 simp_all [bodyPostS, results, Tryz.results171]
set_option maxHeartbeats 8000000 in
set_option maxRecDepth 100000 in
theorem treeRoute (k : Nat) (text : ByteArray) (r : List S130) (n : S43) (w : World) (hT : TabW w) (h : rtTextF k text = some (r, none)) (hn : nodeRoute k r = some n) :
  Calls Tryz.prog 108 #[.func (.func 109) #[.agg #[.string text]] #[], .func (.func 110) #[] #[]] w fun e w' => ∃ v7, e = .returned (.tuple #[nodeVal n v7, .int .i64 0]) ∧ KidsV n w w' v7 ∧ Below w.heap.size w w' := by
 have hmf : ∀ (fn : Fn) (first cap : Array Value) (w : World), (Instr.makeFunc fn first cap).run Tryz.prog w = .ok (.func fn first cap) w := fun _ _ _ _ => rfl
 have HT := Aside0.mk hT
 have HL := Aside0.mk h
 have HN := Aside0.mk hn
 clear hT h hn
 go_enter_defers Tryz.func108, Tryz.ntmps108
 go_wp2_with (first
   | ((with_reducible refine gate_dst (N := 4) rfl ?_); refine box_event ?hg (N := 4) ?hd (cs := nodeZero) (t := 43) ?hr ?_; (case hd => rfl); (case hg => rfl); (case hr => first | (go_simp; done) | (go_simp; rfl)); intro gb hgb w1 hbox hb1; have HBX := Aside0.mk hbox; have HB1 := Aside0.mk hb1; have HGB := Aside0.mk hgb; clear hgb hbox hb1)
   | ((with_reducible refine gate_dst (N := 5) rfl ?_); refine box_event ?hg (N := 5) ?hd (cs := #[.int .i64 0]) (t := 3) ?hr ?_; (case hd => rfl); (case hg => rfl); (case hr => first | (go_simp; done) | (go_simp; rfl)); intro gc hgc w2 hboxc hb2; have HBC := Aside0.mk hboxc; have HBX2 := Aside0.mk (blk_below HBX.out hb2); have HB2 := Aside0.mk (below_then HB1.out HB1.out.size hb2); have HGC := Aside0.mk hgc; have HCG := Aside0.mk (show gb < gc by rw [hgc]; exact blk_lt HBX.out); have HWC := Aside0.mk (show w.heap.size ≤ gc by rw [hgc]; exact HB1.out.size); clear hgc hboxc hb2)
   | (go_at_call 109; refine (fsRoute k text r _ (tabW_below HT.out HB2.out) HL.out).mono ?_; rintro e w3 ⟨vr, rfl, hg2, hb3⟩; obtain ⟨Ar, cr, rfl, hlr, hCr⟩ := Kd.R_reads hg2; have HG := Aside0.mk hCr; have HGL := Aside0.mk hlr; have HBX3 := Aside0.mk (blk_below HBX2.out hb3); have HBC3 := Aside0.mk (blk_below HBC.out hb3); have HB3 := Aside0.mk (below_then HB2.out HB2.out.size hb3); clear hg2 hb3 hlr hCr)
   | (go_at_call 110; refine (litRoute k Ar cr r n _ HG.out HGL.out HN.out).mono ?_; rintro e w4 ⟨v7, rfl, ho, hb4⟩; have HK := Aside0.mk ho; have HBX4 := Aside0.mk (blk_below HBX3.out hb4); have HBC4 := Aside0.mk (blk_below HBC3.out hb4); have HB4 := Aside0.mk (below_then HB3.out HB3.out.size hb4); have HLC := Aside0.mk (show gc < w3.heap.size from blk_lt HBC3.out); clear ho hb4)
   | ((with_reducible refine gate_ (.store 43 (.tmp 4) (.tmp 19)) rfl ?_); refine box_store rfl rfl 43 (.tmp 4) (.tmp 19) rfl gb 43 nodeZero (nodeVal n v7) (nodeCells n v7) rfl rfl rfl node_size (node_one HK.out.slice) HBX4.out rfl ?_; intro W5 hbk hgr; have HBK5 := Aside0.mk hbk; have HK5 := Aside0.mk (HK.out.grown hgr (Nat.lt_trans HCG.out HLC.out)); have HBC5 := Aside0.mk (blk_grown HBC4.out hgr (by have := HCG.out; intro e; injection e with e; omega)); have HB5 := Aside0.mk (pw_below_grown HB4.out (some gb) HB4.out.size hgr (fun k e => by cases e; rw [HGB.out]; exact Nat.le_refl _)); have hfc := blk_frozen HBC5.out 0; have hcc : W5.cell? ⟨gc, 0, none⟩ = some (.int .i64 0) := (blk_cell HBC5.out 0).trans rfl; clear hbk hgr))
 have hbk6 := blk_far HBK5.out (p := ⟨gc, 0, none⟩) (by have := HCG.out; show gb ≠ gc; omega) (.int .i64 0)
 have hbc6 := blk_put HBC5.out 0 (.int .i64 0) rfl
 have HB6 := below_set HB5.out HWC.out (j := 0) (v := .int .i64 0)
 have HK6 := (HK5.out.grown (grown_set W5 gc 0 (.int .i64 0)) HLC.out).lower HB3.out.size
 generalize W5.setCell ⟨gc, 0, none⟩ (.int .i64 0) = W6 at hbk6 hbc6 HB6 HK6 ⊢
 have cc : W6.cell? ⟨gc, 0, none⟩ = some (.int .i64 0) := (blk_cell hbc6 0).trans rfl
 have cb0 : W6.cell? ⟨gb, 0, none⟩ = some (.string n.f0) := (blk_cell hbk6 0).trans rfl
 have cb1 : W6.cell? ⟨gb, 1, none⟩ = some (.int .i64 n.f1) := (blk_cell hbk6 1).trans rfl
 have cb2 : W6.cell? ⟨gb, 2, none⟩ = some (.bool n.f2) := (blk_cell hbk6 2).trans rfl
 have cb3 : W6.cell? ⟨gb, 3, none⟩ = some (.int .i64 n.f3) := (blk_cell hbk6 3).trans rfl
 have cb4 : W6.cell? ⟨gb, 4, none⟩ = some (.int .u64 n.f4) := (blk_cell hbk6 4).trans rfl
 have cb5 : W6.cell? ⟨gb, 5, none⟩ = some (.float .f64 n.f5) := (blk_cell hbk6 5).trans rfl
 have cb6 : W6.cell? ⟨gb, 6, none⟩ = some (.string n.f6) := (blk_cell hbk6 6).trans rfl
 have cb7 : W6.cell? ⟨gb, 7, none⟩ = some (v7) := (blk_cell hbk6 7).trans rfl
 refine leaves_cons (f := 171) (args := #[.pointer (some ⟨gb, 0, none⟩), .pointer (some ⟨gc, 0, none⟩)]) (by simp) (by simp [go_sem]) ?_
 refine (idleRoute _ _ _).mono ?_
 rintro e u' w'' ⟨rfl, rfl, rfl⟩
 simp [Leaves, settle, results, Tryz.results108, go_sem, cb0, cb1, cb2, cb3, cb4, cb5, cb6, cb7, cc]
 exact ⟨v7, rfl, HK6, HB6⟩
set_option maxHeartbeats 8000000 in
set_option maxRecDepth 100000 in
theorem implRoute (k : Nat) (text : ByteArray) (r : List S130) (n : S43) (w : World) (hT : TabW w) (h : rtTextF k text = some (r, none)) (hn : nodeRoute k r = some n) :
  Calls Tryz.prog 35 #[.string text] w fun e w' => ∃ v7, e = .returned (.tuple #[nodeVal n v7, .int .i64 0]) ∧ KidsV n w w' v7 ∧ Below w.heap.size w w' := by
 have hmf : ∀ (fn : Fn) (first cap : Array Value) (w : World), (Instr.makeFunc fn first cap).run Tryz.prog w = .ok (.func fn first cap) w := fun _ _ _ _ => rfl
 have HT := Aside0.mk hT
 have HL := Aside0.mk h
 have HN := Aside0.mk hn
 clear hT h hn
 go_enter Tryz.func35, Tryz.ntmps35
 go_wp2_with (first
   | ((with_reducible refine gate_dst (N := 2) rfl ?_); refine box_event ?hg (N := 2) ?hd (cs := nodeZero) (t := 43) ?hr ?_; (case hd => rfl); (case hg => rfl); (case hr => first | (go_simp; done) | (go_simp; rfl)); intro gb hgb w1 hbox hb1; have HBX := Aside0.mk hbox; have HB1 := Aside0.mk hb1; have HGB := Aside0.mk hgb; clear hgb hbox hb1)
   | (go_at_call 57; refine (procfs_TextFS.calls text text _ rfl).mono ?_; rintro e w2 ⟨rfl, hb2⟩; have HBX2 := Aside0.mk (blk_below HBX.out hb2); have HB2 := Aside0.mk (below_then HB1.out HB1.out.size hb2); clear hb2)
   | (go_at_call 108; refine (treeRoute k text r n _ (tabW_below HT.out HB2.out) HL.out HN.out).mono ?_; rintro e w3 ⟨v7, rfl, ho, hb3⟩; have HK := Aside0.mk ho; have HBX3 := Aside0.mk (blk_below HBX2.out hb3); have HB3 := Aside0.mk (below_then HB2.out HB2.out.size hb3); have HLT := Aside0.mk (show gb < w2.heap.size from blk_lt HBX2.out); clear ho hb3)
   | ((with_reducible refine gate_ (.store 43 (.tmp 2) (.tmp 8)) rfl ?_); refine box_store rfl rfl 43 (.tmp 2) (.tmp 8) rfl gb 43 nodeZero (nodeVal n v7) (nodeCells n v7) rfl rfl rfl node_size (node_one HK.out.slice) HBX3.out rfl ?_; intro W' hbk hgr))
 refine bodyPost_ret (results_cell_tmp rfl _ _ gb 43 _ (0, 0) _ rfl hbk Tryz.underlying43 rfl node_size) rfl ?_
 refine ⟨v7, rfl, (HK.out.grown hgr HLT.out).lower HB2.out.size, pw_below_grown HB3.out (some gb) HB3.out.size hgr (fun k e => by cases e; rw [HGB.out]; exact Nat.le_refl _)⟩
def doorRoute (s : ByteArray) (n : S43) : Prop := ∃ k r, rtTextF k s = some (r, none) ∧ nodeRoute k r = some n
theorem doorRoute_calls (text : ByteArray) (n : S43) (w : World) (hT : TabW w) (h : doorRoute text n) :
  Calls Tryz.prog 35 #[.string text] w fun e w' => ∃ v7, e = .returned (.tuple #[nodeVal n v7, .int .i64 0]) ∧ KidsV n w w' v7 ∧ Below w.heap.size w w' := by
 obtain ⟨k, r, h1, h2⟩ := h
 exact implRoute k text r n w hT h1 h2
end Go.Proofs.YtednjmngalmdkaaGreatDoor.GPC
end
section
/- spec.upper: a number in hexadecimal digits, large letters. Conditions: what spec.Padded answers, of at most a million bytes. -/
namespace Go.Proofs.YtednjmngalmdkaaGreatDoor.GPC
open Go.RowKit Go.Proofs.YtednjmngalmdkaaGreatDoorW.PrintWords Go.Proofs.YtednjmngalmdkaaGreatDoorW.PrintLast
set_option linter.unusedVariables false
set_option linter.unusedSimpArgs false
def upI (c : Int) : Int := if c ≥ 97 then IntKind.u8.wrap (c - 32) else c
def upB (s : ByteArray) : ByteArray := strOfNums (s.data.toList.map fun b => upI (b.toNat : Int))
def spec_upper.f (k : Nat) (a0 : Int) (a1 : Int) : Option ByteArray := (spec_Padded.f k a0 16 a1).bind fun s => if s.size ≤ 1000000 then some (upB s) else none
theorem spec_upper.mono : ∀ a0 a1 k, LeO (spec_upper.f k a0 a1) (spec_upper.f (k + 1) a0 a1) := by
 intro a0 a1 k
 unfold spec_upper.f
 exact LeO.bind (spec_Padded.mono a0 16 a1 k) (fun _ => LeO.refl _)
theorem obj_put {w : World} {g : Nat} {t : TypeId} {A : Array Value} {fz : Nat × Nat} (h : w.heap[g]? = some (.cells A t fz)) (i : Nat) (u : Value) : (w.setCell ⟨g, i, none⟩ u).heap[g]? = some (.cells (A.setIfInBounds i u) t fz) := by
 simp [World.setCell, Array.getElem?_modify, h]
theorem obj_frozen {w : World} {g : Nat} {t : TypeId} {A : Array Value} (N : Nat) (h : w.heap[g]? = some (.cells A t (N, N + 1))) (i : Nat) (hi : i < N) : w.frozen? ⟨g, i, none⟩ = false := by
 simp [World.frozen?, h]
 omega
def upM (L : List Int) (x : Nat) : List Value := ((L.take x).map upI ++ L.drop x).map (Value.int .u8)
theorem upM_len (L : List Int) (x : Nat) : (upM L x).length = L.length := by
 simp only [upM, List.length_map, List.length_append, List.length_take, List.length_drop]
 omega
theorem upM_get (L : List Int) (Z : Array Value) (x : Nat) (hx : x < L.length) : ((upM L x).toArray ++ Z)[x]? = some (.int .u8 L[x]) := by
 rw [Array.getElem?_append_left (by simp [upM_len]; omega)]
 simp only [List.getElem?_toArray, upM, List.getElem?_map]
 rw [List.getElem?_append_right (by simp; omega)]
 simp only [List.length_map, List.length_take]
 rw [show x - min x L.length = 0 by omega, List.getElem?_drop, Nat.add_zero, List.getElem?_eq_getElem hx]
 rfl
theorem upM_step (L : List Int) (x : Nat) (hx : x < L.length) : upM L (x + 1) = (upM L x).set x (.int .u8 (upI L[x])) := by
 unfold upM
 rw [List.take_add_one, List.getElem?_eq_getElem hx, List.drop_eq_getElem_cons hx]
 simp only [Option.toList_some, List.map_append, List.map_cons, List.map_nil]
 rw [List.set_append_right _ _ (by simp; omega)]
 simp only [List.length_map, List.length_take]
 rw [show x - min x L.length = 0 by omega, List.set_cons_zero]
 simp
theorem upM_set (L : List Int) (Z : Array Value) (x : Nat) (hx : x < L.length) : ((upM L x).toArray ++ Z).setIfInBounds x (.int .u8 (upI L[x])) = (upM L (x + 1)).toArray ++ Z := by
 rw [upM_step L x hx]
 apply Array.toList_inj.1
 simp only [Array.toList_setIfInBounds, Array.toList_append]
 rw [List.set_append_left _ _ (by rw [upM_len]; exact hx)]
theorem upM_same (L : List Int) (x : Nat) (hx : x < L.length) (h : upI L[x] = L[x]) : upM L (x + 1) = upM L x := by
 rw [upM_step L x hx, h]
 apply List.ext_getElem?
 intro j
 rw [List.getElem?_set]
 split
 ·rename_i e
  subst e
  rw [if_pos (by rw [upM_len]; exact hx)]
  have := upM_get L #[] x hx
  simpa using this.symm
 ·rfl
theorem upM_all (L : List Int) : upM L L.length = (L.map upI).map (Value.int .u8) := by simp [upM]
set_option maxHeartbeats 8000000 in
set_option maxRecDepth 100000 in
theorem spec_upper.calls (k : Nat) (a0 : Int) (a1 : Int) (r : ByteArray) (w : World) (h : spec_upper.f k a0 a1 = some r) :
  Calls Tryz.prog 105 #[.int .u64 a0, .int .i64 a1] w fun e w' => e = .returned (.string r) ∧ Below w.heap.size w w' := by
 unfold spec_upper.f at h
 obtain ⟨s, hs, h⟩ := Option.bind_eq_some_iff.1 h
 split at h
 ·rename_i hsz
  obtain rfl := Option.some.inj h
  have HS := Aside0.mk hs
  have HSZ := Aside0.mk hsz
  have hconv := fun W => Lib.run_convert_string_bytes (P := Tryz.prog) W 9 173 5 s Tryz.underlying9 Tryz.underlying173 Tryz.underlying5
  have c0 : decide ((0 : Int) < (s.size : Int)) = decide (0 < s.size) := by simp
  clear hs h hsz c0
  obtain ⟨L, hL⟩ : ∃ L : List Int, L = s.data.toList.map (fun b => (b.toNat : Int)) := ⟨_, rfl⟩
  have hn : s.size = L.length := by rw [hL, List.length_map]; exact Array.length_toList.symm
  have HL := Aside0.mk hL
  have HN := Aside0.mk hn
  clear hL hn
  go_enter Tryz.func105, Tryz.ntmps105
  go_wp2_with (first
   | (go_at_call 88; refine (spec_Padded.calls k a0 16 a1 s _ HS.out).mono ?_; rintro e w1 ⟨rfl, hb1⟩; have HB1 := Aside0.mk hb1; clear hb1))
  have hobj := Lib.bytesWorld_at_new w1 5 s
  have hbel : Below w.heap.size w (Lib.bytesWorld w1 5 s) := below_step HB1.out (Lib.bytesWorld_below w1 5 s)
  obtain ⟨Z, hZ⟩ : ∃ Z : Array Value, Z = Array.replicate (grownCap w1 s.size 0 5 - s.size) (.int .u8 0) := ⟨_, rfl⟩
  have hcells : Lib.bytesCells w1 5 s = (upM L 0).toArray ++ Z := by
   unfold Lib.bytesCells
   rw [← hZ]
   congr 1
   apply Array.toList_inj.1
   simp [upM, HL.out]
  rw [hcells] at hobj
  obtain ⟨N, hNN⟩ : ∃ N, N = ((upM L 0).toArray ++ Z).size := ⟨_, rfl⟩
  have HNN := Aside0.mk (show L.length ≤ N by rw [hNN, Array.size_append, List.size_toArray, upM_len]; omega)
  rw [← hNN] at hobj
  have HO := Aside0.mk hobj
  have HB := Aside0.mk hbel
  have HGE := Aside0.mk HB1.out.size
  clear hobj hbel hZ hcells hNN hconv h
  generalize Lib.bytesWorld w1 5 s = W0 at HO HB ⊢
  generalize w1.heap.size = g at HO HGE ⊢
  go_loopg [13] L.length (fun kq v13 w' => ∃ x : Int, v13 = .int .i64 x ∧ Aside0 (0 ≤ x ∧ x + kq = L.length) ∧ Aside0 (w'.heap[g]? = some (.cells ((upM L x.toNat).toArray ++ Z) 5 (N, N + 1))) ∧ Aside0 (Below w.heap.size w w'))
  case atStart => exact ⟨0, rfl, ⟨by omega, by omega⟩, HO, HB⟩
  case round =>
   clear HO HB
   obtain ⟨x, rfl, HX, HO, HB⟩ := hrel
   by_cases hx : x < (L.length : Int)
   ·have d0 : decide (x < (s.size : Int)) = true := decide_eq_true (by rw [HN.out]; exact hx)
    have p1 := eq_true HX.out.1
    have p2 : (x < (s.size : Int)) = True := eq_true (by rw [HN.out]; exact hx)
    have hxn : x.toNat < L.length := by have := HX.out; omega
    have hxN : x.toNat < N := Nat.lt_of_lt_of_le hxn HNN.out
    have c0 : wr.cell? ⟨g, x.toNat, none⟩ = some (.int .u8 L[x.toNat]) := (cell_of_row wr g x.toNat _ _ _ HO.out).trans (upM_get L Z x.toNat hxn)
    have hfz := obj_frozen N HO.out x.toNat hxN
    have hw : IntKind.i64.wrap (x + 1) = x + 1 := by have := HX.out; have := HSZ.out; have := HN.out; rw [i64_w]; unfold wrap64; omega
    have hst := upM_set L Z x.toNat hxn
    have hsm := upM_same L x.toNat hxn
    have e1 : (x + 1).toNat = x.toNat + 1 := by have := HX.out; omega
    have HX2 := Aside0.mk hx
    have hlx : upI L[x.toNat] = if L[x.toNat] ≥ 97 then IntKind.u8.wrap (L[x.toNat] - 32) else L[x.toNat] := rfl
    generalize L[x.toNat] = y at c0 hst hsm hlx
    have HST := Aside0.mk hst
    have HSM := Aside0.mk hsm
    have HLX := Aside0.mk hlx
    clear hx hxn hxN hst hsm hlx
    by_cases hy : 97 ≤ y
    ·have d1 : decide (y ≥ 97) = true := decide_eq_true hy
     have d2 : decide (97 ≤ y) = true := decide_eq_true hy
     go_wp2
     go_roundg (gk - 1)
     case measure => have := HX.out; have := HX2.out; omega
     case rel =>
      refine ⟨x + 1, rfl, ⟨by have := HX.out; omega, by have := HX.out; have := HX2.out; omega⟩, ⟨?_⟩, ⟨below_set HB.out HGE.out⟩⟩
      have h1 := HLX.out
      rw [if_pos hy] at h1
      rw [e1, ← HST.out, h1]
      exact obj_put HO.out x.toNat _
    ·have d1 : decide (y ≥ 97) = false := decide_eq_false hy
     have d2 : decide (97 ≤ y) = false := decide_eq_false hy
     go_wp2
     go_roundg (gk - 1)
     case measure => have := HX.out; have := HX2.out; omega
     case rel =>
      refine ⟨x + 1, rfl, ⟨by have := HX.out; omega, by have := HX.out; have := HX2.out; omega⟩, ⟨?_⟩, HB⟩
      have h1 := HLX.out
      rw [if_neg (by omega)] at h1
      rw [e1, HSM.out h1]
      exact HO.out
   ·have d0 : decide (x < (s.size : Int)) = false := decide_eq_false (by rw [HN.out]; exact hx)
    have hxe : x.toNat = L.length := by have := HX.out; omega
    have hC : Kd.C (Kd.int .u8) wr (some ⟨g, 0, none⟩) s.size (L.map upI) := by
     refine ⟨by rw [List.length_map]; exact HN.out.symm, by have := HSZ.out; omega, fun _ => ⟨_, rfl, fun j p hj => ?_⟩⟩
     have hjl : j < L.length := by have := (List.getElem?_eq_some_iff.1 hj).1; rwa [List.length_map] at this
     refine ⟨[.int .u8 p], rfl, rfl, fun i u hu => ?_⟩
     cases i with
     | zero =>
      obtain rfl := Option.some.inj hu
      have ha : (⟨g, 0, none⟩ : Addr).add (j * (Kd.int IntKind.u8).sz + 0) = ⟨g, j, none⟩ := by simp [Addr.add, Kd.int, Kd.scalar]; exact Eq.symm
      rw [ha, cell_of_row wr g j _ _ _ HO.out, hxe, upM_all, Array.getElem?_append_left (by simp; exact hjl)]
      simp only [List.getElem?_toArray, List.getElem?_map]
      rw [List.getElem?_map] at hj
      rw [hj]
      rfl
     | succ i => simp at hu
    have hcv := Kd.C_string (P := Tryz.prog) (c := grownCap w1 s.size 0 5) Tryz.underlying173 Tryz.underlying5 Tryz.underlying9 hC
    clear hC hxe hx
    go_wp2
    go_ret
    refine ⟨?_, HB.out⟩
    rw [HL.out, List.map_map]
    rfl
 ·cases h
end Go.Proofs.YtednjmngalmdkaaGreatDoor.GPC
end
section
namespace Go.Proofs.YtednjmngalmdkaaGreatDoor.GPC
open Go.RowKit Go.Proofs.YtednjmngalmdkaaGreatDoorW.PrintWords Go.Proofs.YtednjmngalmdkaaGreatDoorW.PrintLast Go.Proofs.YtednjmngalmdkaaGreatDoorW.PrintMore
attribute [local go_sem] max2_int min2_int max_two min_two max_three min_three max_four min_four   -- for this text's walks alone
set_option linter.unusedVariables false
set_option linter.unusedSimpArgs false

attribute [local go_sem] run_store_float
/-! ### spec_RoutePrint: function 33 -/
def spec_RoutePrint.l0 : Nat → ByteArray → List (S31) → Int → Int → Option (ByteArray × Int)
 | 0, _, _, _, _ => none
 | k + 1, x4, x12, x13, x14 => if x14 < x13 then (if 0 ≤ x14 then (if x14 < (x12.length : Int) then (if ((rd_T31 x12 x14).f0).size + 1 ≤ 9223372036854775807 then (if 0 < (((rd_T31 x12 x14).f1).length : Int) then ((spec_upper.f k (rd ((rd_T31 x12 x14).f1) 0) 8).bind fun t574 => (if (((rd_T31 x12 x14).f0) ++ (⟨#[9]⟩ : ByteArray)).size + t574.size ≤ 9223372036854775807 then (if ((((rd_T31 x12 x14).f0) ++ (⟨#[9]⟩ : ByteArray)) ++ t574).size + 1 ≤ 9223372036854775807 then (if 1 < (((rd_T31 x12 x14).f1).length : Int) then ((spec_upper.f k (rd ((rd_T31 x12 x14).f1) 1) 8).bind fun t576 => (if (((((rd_T31 x12 x14).f0) ++ (⟨#[9]⟩ : ByteArray)) ++ t574) ++ (⟨#[9]⟩ : ByteArray)).size + t576.size ≤ 9223372036854775807 then (if ((((((rd_T31 x12 x14).f0) ++ (⟨#[9]⟩ : ByteArray)) ++ t574) ++ (⟨#[9]⟩ : ByteArray)) ++ t576).size + 1 ≤ 9223372036854775807 then (if 2 < (((rd_T31 x12 x14).f1).length : Int) then ((spec_upper.f k (rd ((rd_T31 x12 x14).f1) 2) 4).bind fun t578 => (if (((((((rd_T31 x12 x14).f0) ++ (⟨#[9]⟩ : ByteArray)) ++ t574) ++ (⟨#[9]⟩ : ByteArray)) ++ t576) ++ (⟨#[9]⟩ : ByteArray)).size + t578.size ≤ 9223372036854775807 then (if ((((((((rd_T31 x12 x14).f0) ++ (⟨#[9]⟩ : ByteArray)) ++ t574) ++ (⟨#[9]⟩ : ByteArray)) ++ t576) ++ (⟨#[9]⟩ : ByteArray)) ++ t578).size + 1 ≤ 9223372036854775807 then (if 3 < (((rd_T31 x12 x14).f1).length : Int) then ((spec_Text.f k (rd ((rd_T31 x12 x14).f1) 3)).bind fun t580 => (if (((((((((rd_T31 x12 x14).f0) ++ (⟨#[9]⟩ : ByteArray)) ++ t574) ++ (⟨#[9]⟩ : ByteArray)) ++ t576) ++ (⟨#[9]⟩ : ByteArray)) ++ t578) ++ (⟨#[9]⟩ : ByteArray)).size + t580.size ≤ 9223372036854775807 then (if ((((((((((rd_T31 x12 x14).f0) ++ (⟨#[9]⟩ : ByteArray)) ++ t574) ++ (⟨#[9]⟩ : ByteArray)) ++ t576) ++ (⟨#[9]⟩ : ByteArray)) ++ t578) ++ (⟨#[9]⟩ : ByteArray)) ++ t580).size + 1 ≤ 9223372036854775807 then (if 4 < (((rd_T31 x12 x14).f1).length : Int) then ((spec_Text.f k (rd ((rd_T31 x12 x14).f1) 4)).bind fun t582 => (if (((((((((((rd_T31 x12 x14).f0) ++ (⟨#[9]⟩ : ByteArray)) ++ t574) ++ (⟨#[9]⟩ : ByteArray)) ++ t576) ++ (⟨#[9]⟩ : ByteArray)) ++ t578) ++ (⟨#[9]⟩ : ByteArray)) ++ t580) ++ (⟨#[9]⟩ : ByteArray)).size + t582.size ≤ 9223372036854775807 then (if ((((((((((((rd_T31 x12 x14).f0) ++ (⟨#[9]⟩ : ByteArray)) ++ t574) ++ (⟨#[9]⟩ : ByteArray)) ++ t576) ++ (⟨#[9]⟩ : ByteArray)) ++ t578) ++ (⟨#[9]⟩ : ByteArray)) ++ t580) ++ (⟨#[9]⟩ : ByteArray)) ++ t582).size + 1 ≤ 9223372036854775807 then (if 5 < (((rd_T31 x12 x14).f1).length : Int) then ((spec_Text.f k (rd ((rd_T31 x12 x14).f1) 5)).bind fun t584 => (if (((((((((((((rd_T31 x12 x14).f0) ++ (⟨#[9]⟩ : ByteArray)) ++ t574) ++ (⟨#[9]⟩ : ByteArray)) ++ t576) ++ (⟨#[9]⟩ : ByteArray)) ++ t578) ++ (⟨#[9]⟩ : ByteArray)) ++ t580) ++ (⟨#[9]⟩ : ByteArray)) ++ t582) ++ (⟨#[9]⟩ : ByteArray)).size + t584.size ≤ 9223372036854775807 then (if ((((((((((((((rd_T31 x12 x14).f0) ++ (⟨#[9]⟩ : ByteArray)) ++ t574) ++ (⟨#[9]⟩ : ByteArray)) ++ t576) ++ (⟨#[9]⟩ : ByteArray)) ++ t578) ++ (⟨#[9]⟩ : ByteArray)) ++ t580) ++ (⟨#[9]⟩ : ByteArray)) ++ t582) ++ (⟨#[9]⟩ : ByteArray)) ++ t584).size + 1 ≤ 9223372036854775807 then (if 6 < (((rd_T31 x12 x14).f1).length : Int) then ((spec_upper.f k (rd ((rd_T31 x12 x14).f1) 6) 8).bind fun t586 => (if (((((((((((((((rd_T31 x12 x14).f0) ++ (⟨#[9]⟩ : ByteArray)) ++ t574) ++ (⟨#[9]⟩ : ByteArray)) ++ t576) ++ (⟨#[9]⟩ : ByteArray)) ++ t578) ++ (⟨#[9]⟩ : ByteArray)) ++ t580) ++ (⟨#[9]⟩ : ByteArray)) ++ t582) ++ (⟨#[9]⟩ : ByteArray)) ++ t584) ++ (⟨#[9]⟩ : ByteArray)).size + t586.size ≤ 9223372036854775807 then (if ((((((((((((((((rd_T31 x12 x14).f0) ++ (⟨#[9]⟩ : ByteArray)) ++ t574) ++ (⟨#[9]⟩ : ByteArray)) ++ t576) ++ (⟨#[9]⟩ : ByteArray)) ++ t578) ++ (⟨#[9]⟩ : ByteArray)) ++ t580) ++ (⟨#[9]⟩ : ByteArray)) ++ t582) ++ (⟨#[9]⟩ : ByteArray)) ++ t584) ++ (⟨#[9]⟩ : ByteArray)) ++ t586).size + 1 ≤ 9223372036854775807 then (if 7 < (((rd_T31 x12 x14).f1).length : Int) then ((spec_Text.f k (rd ((rd_T31 x12 x14).f1) 7)).bind fun t588 => (if (((((((((((((((((rd_T31 x12 x14).f0) ++ (⟨#[9]⟩ : ByteArray)) ++ t574) ++ (⟨#[9]⟩ : ByteArray)) ++ t576) ++ (⟨#[9]⟩ : ByteArray)) ++ t578) ++ (⟨#[9]⟩ : ByteArray)) ++ t580) ++ (⟨#[9]⟩ : ByteArray)) ++ t582) ++ (⟨#[9]⟩ : ByteArray)) ++ t584) ++ (⟨#[9]⟩ : ByteArray)) ++ t586) ++ (⟨#[9]⟩ : ByteArray)).size + t588.size ≤ 9223372036854775807 then (if ((((((((((((((((((rd_T31 x12 x14).f0) ++ (⟨#[9]⟩ : ByteArray)) ++ t574) ++ (⟨#[9]⟩ : ByteArray)) ++ t576) ++ (⟨#[9]⟩ : ByteArray)) ++ t578) ++ (⟨#[9]⟩ : ByteArray)) ++ t580) ++ (⟨#[9]⟩ : ByteArray)) ++ t582) ++ (⟨#[9]⟩ : ByteArray)) ++ t584) ++ (⟨#[9]⟩ : ByteArray)) ++ t586) ++ (⟨#[9]⟩ : ByteArray)) ++ t588).size + 1 ≤ 9223372036854775807 then (if 8 < (((rd_T31 x12 x14).f1).length : Int) then ((spec_Text.f k (rd ((rd_T31 x12 x14).f1) 8)).bind fun t590 => (if (((((((((((((((((((rd_T31 x12 x14).f0) ++ (⟨#[9]⟩ : ByteArray)) ++ t574) ++ (⟨#[9]⟩ : ByteArray)) ++ t576) ++ (⟨#[9]⟩ : ByteArray)) ++ t578) ++ (⟨#[9]⟩ : ByteArray)) ++ t580) ++ (⟨#[9]⟩ : ByteArray)) ++ t582) ++ (⟨#[9]⟩ : ByteArray)) ++ t584) ++ (⟨#[9]⟩ : ByteArray)) ++ t586) ++ (⟨#[9]⟩ : ByteArray)) ++ t588) ++ (⟨#[9]⟩ : ByteArray)).size + t590.size ≤ 9223372036854775807 then (if ((((((((((((((((((((rd_T31 x12 x14).f0) ++ (⟨#[9]⟩ : ByteArray)) ++ t574) ++ (⟨#[9]⟩ : ByteArray)) ++ t576) ++ (⟨#[9]⟩ : ByteArray)) ++ t578) ++ (⟨#[9]⟩ : ByteArray)) ++ t580) ++ (⟨#[9]⟩ : ByteArray)) ++ t582) ++ (⟨#[9]⟩ : ByteArray)) ++ t584) ++ (⟨#[9]⟩ : ByteArray)) ++ t586) ++ (⟨#[9]⟩ : ByteArray)) ++ t588) ++ (⟨#[9]⟩ : ByteArray)) ++ t590).size + 1 ≤ 9223372036854775807 then (if 9 < (((rd_T31 x12 x14).f1).length : Int) then ((spec_Text.f k (rd ((rd_T31 x12 x14).f1) 9)).bind fun t592 => (if (((((((((((((((((((((rd_T31 x12 x14).f0) ++ (⟨#[9]⟩ : ByteArray)) ++ t574) ++ (⟨#[9]⟩ : ByteArray)) ++ t576) ++ (⟨#[9]⟩ : ByteArray)) ++ t578) ++ (⟨#[9]⟩ : ByteArray)) ++ t580) ++ (⟨#[9]⟩ : ByteArray)) ++ t582) ++ (⟨#[9]⟩ : ByteArray)) ++ t584) ++ (⟨#[9]⟩ : ByteArray)) ++ t586) ++ (⟨#[9]⟩ : ByteArray)) ++ t588) ++ (⟨#[9]⟩ : ByteArray)) ++ t590) ++ (⟨#[9]⟩ : ByteArray)).size + t592.size ≤ 9223372036854775807 then ((spec_Left.f k ((((((((((((((((((((((rd_T31 x12 x14).f0) ++ (⟨#[9]⟩ : ByteArray)) ++ t574) ++ (⟨#[9]⟩ : ByteArray)) ++ t576) ++ (⟨#[9]⟩ : ByteArray)) ++ t578) ++ (⟨#[9]⟩ : ByteArray)) ++ t580) ++ (⟨#[9]⟩ : ByteArray)) ++ t582) ++ (⟨#[9]⟩ : ByteArray)) ++ t584) ++ (⟨#[9]⟩ : ByteArray)) ++ t586) ++ (⟨#[9]⟩ : ByteArray)) ++ t588) ++ (⟨#[9]⟩ : ByteArray)) ++ t590) ++ (⟨#[9]⟩ : ByteArray)) ++ t592) 127).bind fun t593 => (if t593.size + 1 ≤ 9223372036854775807 then (if x4.size + (t593 ++ (⟨#[10]⟩ : ByteArray)).size ≤ 9223372036854775807 then (spec_RoutePrint.l0 k (x4 ++ (t593 ++ (⟨#[10]⟩ : ByteArray))) x12 x13 (wrap64 (x14 + 1))) else (none)) else (none))) else (none))) else (none)) else (none)) else (none))) else (none)) else (none)) else (none))) else (none)) else (none)) else (none))) else (none)) else (none)) else (none))) else (none)) else (none)) else (none))) else (none)) else (none)) else (none))) else (none)) else (none)) else (none))) else (none)) else (none)) else (none))) else (none)) else (none)) else (none))) else (none)) else (none)) else (none)) else (none)) else (some (x4, 1))
def spec_RoutePrint.f (k : Nat) (l0 : List (S31)) : Option (ByteArray × Int) := (spec_routeFine.f k l0).bind fun t570 => (if t570 = true then (spec_RoutePrint.l0 k (⟨#[73, 102, 97, 99, 101, 9, 68, 101, 115, 116, 105, 110, 97, 116, 105, 111, 110, 9, 71, 97, 116, 101, 119, 97, 121, 32, 9, 70, 108, 97, 103, 115, 9, 82, 101, 102, 67, 110, 116, 9, 85, 115, 101, 9, 77, 101, 116, 114, 105, 99, 9, 77, 97, 115, 107, 9, 9, 77, 84, 85, 9, 87, 105, 110, 100, 111, 119, 9, 73, 82, 84, 84, 32, 32, 32, 32, 32, 32, 32, 32, 32, 32, 32, 32, 32, 32, 32, 32, 32, 32, 32, 32, 32, 32, 32, 32, 32, 32, 32, 32, 32, 32, 32, 32, 32, 32, 32, 32, 32, 32, 32, 32, 32, 32, 32, 32, 32, 32, 32, 32, 32, 32, 32, 32, 32, 32, 32, 10]⟩ : ByteArray) l0 (l0.length : Int) 0) else (some ((⟨#[]⟩ : ByteArray), 2)))
theorem spec_RoutePrint.mono_l : ∀ k, (∀ y0 y1 y2 y3, LeO (spec_RoutePrint.l0 k y0 y1 y2 y3) (spec_RoutePrint.l0 (k + 1) y0 y1 y2 y3))
 | 0 => fun _ _ _ _ r h => by simp [spec_RoutePrint.l0] at h
 | k + 1 => by
  have ih0 := spec_RoutePrint.mono_l k
  ·intro y0 y1 y2 y3
   unfold spec_RoutePrint.l0
   repeat' first
   | (with_reducible exact ih0 _ _ _ _)
   | (with_reducible exact spec_Left.mono _ _ _)
   | (with_reducible exact spec_Text.mono _ _)
   | (with_reducible exact spec_routeFine.mono _ _)
   | (with_reducible exact spec_upper.mono _ _ _)
   | (with_reducible exact LeO.refl _)
   | (with_reducible exact LeO.none _)
   | (with_reducible refine LeO.ite ?_ ?_)
   | (with_reducible refine LeO.bind ?_ (fun _ => ?_))
   | exact ih0 _ _ _ _
   | exact spec_Left.mono _ _ _
   | exact spec_Text.mono _ _
   | exact spec_routeFine.mono _ _
   | exact spec_upper.mono _ _ _
   | exact LeO.none _
   | refine LeO.ite ?_ ?_
   | refine LeO.bind ?_ (fun _ => ?_)
theorem spec_RoutePrint.mono : ∀ a0 k, LeO (spec_RoutePrint.f k a0) (spec_RoutePrint.f (k + 1) a0) := by
 intro a0 k
 have ih0 := spec_RoutePrint.mono_l k
 unfold spec_RoutePrint.f
 repeat' first
   | (with_reducible exact ih0 _ _ _ _)
   | (with_reducible exact spec_Left.mono _ _ _)
   | (with_reducible exact spec_Text.mono _ _)
   | (with_reducible exact spec_routeFine.mono _ _)
   | (with_reducible exact spec_upper.mono _ _ _)
   | (with_reducible exact LeO.refl _)
   | (with_reducible exact LeO.none _)
   | (with_reducible refine LeO.ite ?_ ?_)
   | (with_reducible refine LeO.bind ?_ (fun _ => ?_))
   | exact ih0 _ _ _ _
   | exact spec_Left.mono _ _ _
   | exact spec_Text.mono _ _
   | exact spec_routeFine.mono _ _
   | exact spec_upper.mono _ _ _
   | exact LeO.none _
   | refine LeO.ite ?_ ?_
   | refine LeO.bind ?_ (fun _ => ?_)
def spec_RoutePrint.T8 : Bool × List (List Nat × List Nat) := (true, [([], []), ([0], [0]), ([1], [1]), ([], []), ([3], [3]), ([4], [4]), ([5], [5]), ([2, 6], [2, 6]), ([7], [7]), ([], []), ([9], [9]), ([10], [10]), ([11, 6], [11]), ([8, 12], [8, 12]), ([13], [13]), ([], []), ([15], [15]), ([16], [16]), ([17, 12], [17]), ([14, 18], [14, 18]), ([19], [19]), ([], []), ([21], [21]), ([22], [22]), ([23, 18], [23]), ([20, 24], [20, 24]), ([25], [25]), ([], []), ([27], [27]), ([28], [28]), ([29, 24], [29]), ([26, 30], [26, 30]), ([31], [31]), ([], []), ([33], [33]), ([34], [34]), ([35, 30], [35]), ([32, 36], [32, 36]), ([37], [37]), ([], []), ([39], [39]), ([40], [40]), ([41, 36], [41]), ([38, 42], [38, 42]), ([43], [43]), ([], []), ([45], [45]), ([46], [46]), ([47, 42], [47]), ([44, 48], [44, 48]), ([49], [49]), ([], []), ([51], [51]), ([52], [52]), ([53, 48], [53]), ([50, 54], [50, 54]), ([55], [55]), ([], []), ([57], [57]), ([58], [58]), ([59, 54], [59]), ([56, 60], [56, 60]), ([61, 60, 0, 1, 2, 3, 4, 5, 6, 7, 8, 9, 10, 11, 12, 13, 14, 15, 16, 17, 18, 19, 20, 21, 22, 23, 24, 25, 26, 27, 28, 29, 30, 31, 32, 33, 34, 35, 36, 37, 38, 39, 40, 41, 42, 43, 44, 45, 46, 47, 48, 49, 50, 51, 52, 53, 54, 55, 56, 57, 58, 59, 60, 61], [61])])
def spec_RoutePrint.B8 : List Nat := [0, 1, 3, 0, 8, 24, 56, 127, 255, 0, 512, 1536, 3704, 8191, 16383, 0, 32768, 98304, 237176, 524287, 1048575, 0, 2097152, 6291456, 15179384, 33554431, 67108863, 0, 134217728, 402653184, 971480696, 2147483647, 4294967295, 0, 8589934592, 25769803776, 62174764664, 137438953471, 274877906943, 0, 549755813888, 1649267441664, 3979184938616, 8796093022207, 17592186044415, 0, 35184372088832, 105553116266496, 254667836071544, 562949953421311, 1125899906842623, 0, 2251799813685248, 6755399441055744, 16298741508578936, 36028797018963967, 72057594037927935, 0, 144115188075855872, 432345564227567616, 1043119456549052024, 2305843009213693951, 4611686018427387903]
theorem spec_RoutePrint.tab8 : rtab .any (opsOf Tryz.f33 8) = spec_RoutePrint.T8 := by kernel_rfl
theorem spec_RoutePrint.bits8 : waitsOk spec_RoutePrint.T8.2 spec_RoutePrint.B8 = true := by kernel_rfl
set_option maxHeartbeats 8000000 in
set_option maxRecDepth 100000 in
theorem spec_RoutePrint.calls (k : Nat) (A0 : Option Addr) (c0 : Nat) (l0 : List (S31)) (r1 : ByteArray) (r2 : Int) (w : World) (hr0 : Kd.C k31 w A0 l0.length l0) (hc0 : l0.length ≤ c0) (h : spec_RoutePrint.f k l0 = some (r1, r2)) :
  Calls Tryz.prog 33 #[.slice A0 l0.length c0] w fun e w' => e = .returned (.tuple #[.string r1, .int .i64 r2]) ∧ Below w.heap.size w w' := by
 have hu31 := Tryz.underlying31
 have HR0 := Aside0.mk hr0
 have HC0 := Aside0.mk hc0
 clear hr0 hc0
 have HB := Aside0.mk (Below.refl w.heap.size w)
 have H : ((spec_routeFine.f k l0).bind fun t570 => (if t570 = true then (spec_RoutePrint.l0 k (⟨#[73, 102, 97, 99, 101, 9, 68, 101, 115, 116, 105, 110, 97, 116, 105, 111, 110, 9, 71, 97, 116, 101, 119, 97, 121, 32, 9, 70, 108, 97, 103, 115, 9, 82, 101, 102, 67, 110, 116, 9, 85, 115, 101, 9, 77, 101, 116, 114, 105, 99, 9, 77, 97, 115, 107, 9, 9, 77, 84, 85, 9, 87, 105, 110, 100, 111, 119, 9, 73, 82, 84, 84, 32, 32, 32, 32, 32, 32, 32, 32, 32, 32, 32, 32, 32, 32, 32, 32, 32, 32, 32, 32, 32, 32, 32, 32, 32, 32, 32, 32, 32, 32, 32, 32, 32, 32, 32, 32, 32, 32, 32, 32, 32, 32, 32, 32, 32, 32, 32, 32, 32, 32, 32, 32, 32, 32, 32, 10]⟩ : ByteArray) l0 (l0.length : Int) 0) else (some ((⟨#[]⟩ : ByteArray), 2)))) = some (r1, r2) := h
 clear h
 replace H := Option.bind_eq_some_iff.mp H
 obtain ⟨t570, A20, H⟩ := H
 try dsimp -simprocs only at H
 have A2 := Aside0.mk A20
 clear A20
 by_cases c3 : t570 = true
 ·subst c3
  have H1 : (spec_RoutePrint.l0 k (⟨#[73, 102, 97, 99, 101, 9, 68, 101, 115, 116, 105, 110, 97, 116, 105, 111, 110, 9, 71, 97, 116, 101, 119, 97, 121, 32, 9, 70, 108, 97, 103, 115, 9, 82, 101, 102, 67, 110, 116, 9, 85, 115, 101, 9, 77, 101, 116, 114, 105, 99, 9, 77, 97, 115, 107, 9, 9, 77, 84, 85, 9, 87, 105, 110, 100, 111, 119, 9, 73, 82, 84, 84, 32, 32, 32, 32, 32, 32, 32, 32, 32, 32, 32, 32, 32, 32, 32, 32, 32, 32, 32, 32, 32, 32, 32, 32, 32, 32, 32, 32, 32, 32, 32, 32, 32, 32, 32, 32, 32, 32, 32, 32, 32, 32, 32, 32, 32, 32, 32, 32, 32, 32, 32, 32, 32, 32, 32, 10]⟩ : ByteArray) l0 (l0.length : Int) 0) = some (r1, r2) := by rw [if_pos rfl] at H; exact H
  clear H
  have H := H1
  clear H1
  have H' := Aside0.mk H
  clear H
  go_enter Tryz.func33, Tryz.ntmps33
  go_wp2_with (first | ((with_reducible refine gate_callee (f := 104) rfl ?_); refine goesL_ (some 10) rfl rfl Tryz.func104 (by kernel_rfl) rfl #[.slice A0 l0.length c0] rfl (by (try simp only [List.map_toArray, List.map_cons, List.map_nil]); first | done | rfl | (simp only [List.length_drop, List.length_take]; rfl)) ?_; (with_reducible refine (spec_routeFine.calls k _ _ l0 true _ ?side1 ?side2 A2.out).mono ?_); (case side1 => repeat (first | exact HR0.out | (with_reducible refine Kd.C_alloc ?_ _) | (with_reducible refine Kd.C_drewN ?_ _) | (with_reducible refine Kd.C_drew ?_))); (case side2 => exact HC0.out); rintro e w4 ⟨rfl, hb⟩; refine ⟨_, rfl, ?_⟩; have n0_ := Aside0.mk (below_step (by repeat (first | (with_reducible first | exact HB.out | apply below_alloc | apply pw_below_drewN | apply below_drew1) | exact HB.out)) hb); clear HB; have HB := n0_; clear n0_; (try clear hb); (try clear hb2); (try clear hk); (try clear hi)))
  go_loopg [4, 14] k (fun kq v4 v14 w' => ∃ (x4_1 : ByteArray) (x14_1 : Int), v4 = .string x4_1 ∧ v14 = .int .i64 x14_1 ∧ Aside0 (spec_RoutePrint.l0 kq x4_1 l0 (l0.length : Int) x14_1 = some (r1, r2)) ∧ Aside0 (kq ≤ k) ∧ Aside0 (Below w.heap.size w w'))
  case atStart => exact ⟨((⟨#[73, 102, 97, 99, 101, 9, 68, 101, 115, 116, 105, 110, 97, 116, 105, 111, 110, 9, 71, 97, 116, 101, 119, 97, 121, 32, 9, 70, 108, 97, 103, 115, 9, 82, 101, 102, 67, 110, 116, 9, 85, 115, 101, 9, 77, 101, 116, 114, 105, 99, 9, 77, 97, 115, 107, 9, 9, 77, 84, 85, 9, 87, 105, 110, 100, 111, 119, 9, 73, 82, 84, 84, 32, 32, 32, 32, 32, 32, 32, 32, 32, 32, 32, 32, 32, 32, 32, 32, 32, 32, 32, 32, 32, 32, 32, 32, 32, 32, 32, 32, 32, 32, 32, 32, 32, 32, 32, 32, 32, 32, 32, 32, 32, 32, 32, 32, 32, 32, 32, 32, 32, 32, 32, 32, 32, 32, 32, 10]⟩ : ByteArray)), (0), (by first | rfl | (simp; done) | (simp [*]; done)), (by first | rfl | (simp; done) | (simp [*]; done)), H', ⟨Nat.le_refl _⟩, ⟨by repeat (first | (with_reducible first | exact HB.out | apply below_alloc | apply pw_below_drewN | apply below_drew1) | exact HB.out)⟩⟩
  case round =>
   clear H'
   try clear c1
   try clear p2
   try clear c3
   obtain ⟨x4_1, x14_1, rfl, rfl, HA, HK1, HB⟩ := hrel
   cases gk with
   | zero => exact absurd HA.out (by simp [spec_RoutePrint.l0])
   | succ k1 =>
    have H := HA.out
    clear HA
    simp only [spec_RoutePrint.l0] at H
    by_cases c5 : x14_1 < (l0.length : Int)
    ·rw [if_pos c5] at H
     have c5b0 : decide (x14_1 < (l0.length : Int)) = true := decide_eq_true c5
     clear c5
     replace H := guard_inv H
     obtain ⟨c6, H⟩ := H
     have c6b0 : decide (0 ≤ x14_1) = true := decide_eq_true c6
     clear c6
     replace H := guard_inv H
     obtain ⟨c7, H⟩ := H
     have c7b0 : decide (x14_1 < (l0.length : Int)) = true := decide_eq_true c7
     clear c7
     replace H := guard_inv H
     obtain ⟨c8, H⟩ := H
     have c8b0 := eq_true c8
     have c8b1 := decide_eq_true c8
     try have c8b2 := eq_false (Nat.not_lt.2 c8)
     replace H := guard_inv H
     obtain ⟨c9, H⟩ := H
     have c9b0 : decide (0 < (((rd_T31 l0 x14_1).f1).length : Int)) = true := decide_eq_true c9
     have c9b1 : decide (0 < ((rd_T31 l0 x14_1).f1).length) = true := decide_eq_true (by omega)
     clear c9
     replace H := Option.bind_eq_some_iff.mp H
     obtain ⟨t574, A100, H⟩ := H
     try dsimp -simprocs only at H
     have A10 := Aside0.mk A100
     clear A100
     replace H := guard_inv H
     obtain ⟨c11, H⟩ := H
     have c11b0 := eq_true c11
     have c11b1 := decide_eq_true c11
     try have c11b2 := eq_false (Nat.not_lt.2 c11)
     try have c11b5 : (9223372036854775807 < ((rd_T31 l0 x14_1).f0).size + 1 + t574.size) = False := by have e_ := c11b2; (repeat rw [ByteArray.size_append] at e_); exact e_
     replace H := guard_inv H
     obtain ⟨c12, H⟩ := H
     have c12b0 := eq_true c12
     have c12b1 := decide_eq_true c12
     try have c12b2 := eq_false (Nat.not_lt.2 c12)
     try have c12b5 : (9223372036854775807 < ((rd_T31 l0 x14_1).f0).size + 1 + t574.size + 1) = False := by have e_ := c12b2; (repeat rw [ByteArray.size_append] at e_); exact e_
     replace H := guard_inv H
     obtain ⟨c13, H⟩ := H
     have c13b0 : decide (1 < (((rd_T31 l0 x14_1).f1).length : Int)) = true := decide_eq_true c13
     have c13b1 : decide (1 < ((rd_T31 l0 x14_1).f1).length) = true := decide_eq_true (by omega)
     clear c13
     replace H := Option.bind_eq_some_iff.mp H
     obtain ⟨t576, A140, H⟩ := H
     try dsimp -simprocs only at H
     have A14 := Aside0.mk A140
     clear A140
     replace H := guard_inv H
     obtain ⟨c15, H⟩ := H
     have c15b0 := eq_true c15
     have c15b1 := decide_eq_true c15
     try have c15b2 := eq_false (Nat.not_lt.2 c15)
     try have c15b5 : (9223372036854775807 < ((rd_T31 l0 x14_1).f0).size + 1 + t574.size + 1 + t576.size) = False := by have e_ := c15b2; (repeat rw [ByteArray.size_append] at e_); exact e_
     replace H := guard_inv H
     obtain ⟨c16, H⟩ := H
     have c16b0 := eq_true c16
     have c16b1 := decide_eq_true c16
     try have c16b2 := eq_false (Nat.not_lt.2 c16)
     try have c16b5 : (9223372036854775807 < ((rd_T31 l0 x14_1).f0).size + 1 + t574.size + 1 + t576.size + 1) = False := by have e_ := c16b2; (repeat rw [ByteArray.size_append] at e_); exact e_
     replace H := guard_inv H
     obtain ⟨c17, H⟩ := H
     have c17b0 : decide (2 < (((rd_T31 l0 x14_1).f1).length : Int)) = true := decide_eq_true c17
     have c17b1 : decide (2 < ((rd_T31 l0 x14_1).f1).length) = true := decide_eq_true (by omega)
     clear c17
     replace H := Option.bind_eq_some_iff.mp H
     obtain ⟨t578, A180, H⟩ := H
     try dsimp -simprocs only at H
     have A18 := Aside0.mk A180
     clear A180
     replace H := guard_inv H
     obtain ⟨c19, H⟩ := H
     have c19b0 := eq_true c19
     have c19b1 := decide_eq_true c19
     try have c19b2 := eq_false (Nat.not_lt.2 c19)
     try have c19b5 : (9223372036854775807 < ((rd_T31 l0 x14_1).f0).size + 1 + t574.size + 1 + t576.size + 1 + t578.size) = False := by have e_ := c19b2; (repeat rw [ByteArray.size_append] at e_); exact e_
     replace H := guard_inv H
     obtain ⟨c20, H⟩ := H
     have c20b0 := eq_true c20
     have c20b1 := decide_eq_true c20
     try have c20b2 := eq_false (Nat.not_lt.2 c20)
     try have c20b5 : (9223372036854775807 < ((rd_T31 l0 x14_1).f0).size + 1 + t574.size + 1 + t576.size + 1 + t578.size + 1) = False := by have e_ := c20b2; (repeat rw [ByteArray.size_append] at e_); exact e_
     replace H := guard_inv H
     obtain ⟨c21, H⟩ := H
     have c21b0 : decide (3 < (((rd_T31 l0 x14_1).f1).length : Int)) = true := decide_eq_true c21
     have c21b1 : decide (3 < ((rd_T31 l0 x14_1).f1).length) = true := decide_eq_true (by omega)
     clear c21
     replace H := Option.bind_eq_some_iff.mp H
     obtain ⟨t580, A220, H⟩ := H
     try dsimp -simprocs only at H
     have A22 := Aside0.mk A220
     clear A220
     replace H := guard_inv H
     obtain ⟨c23, H⟩ := H
     have c23b0 := eq_true c23
     have c23b1 := decide_eq_true c23
     try have c23b2 := eq_false (Nat.not_lt.2 c23)
     try have c23b5 : (9223372036854775807 < ((rd_T31 l0 x14_1).f0).size + 1 + t574.size + 1 + t576.size + 1 + t578.size + 1 + t580.size) = False := by have e_ := c23b2; (repeat rw [ByteArray.size_append] at e_); exact e_
     replace H := guard_inv H
     obtain ⟨c24, H⟩ := H
     have c24b0 := eq_true c24
     have c24b1 := decide_eq_true c24
     try have c24b2 := eq_false (Nat.not_lt.2 c24)
     try have c24b5 : (9223372036854775807 < ((rd_T31 l0 x14_1).f0).size + 1 + t574.size + 1 + t576.size + 1 + t578.size + 1 + t580.size + 1) = False := by have e_ := c24b2; (repeat rw [ByteArray.size_append] at e_); exact e_
     replace H := guard_inv H
     obtain ⟨c25, H⟩ := H
     have c25b0 : decide (4 < (((rd_T31 l0 x14_1).f1).length : Int)) = true := decide_eq_true c25
     have c25b1 : decide (4 < ((rd_T31 l0 x14_1).f1).length) = true := decide_eq_true (by omega)
     clear c25
     replace H := Option.bind_eq_some_iff.mp H
     obtain ⟨t582, A260, H⟩ := H
     try dsimp -simprocs only at H
     have A26 := Aside0.mk A260
     clear A260
     replace H := guard_inv H
     obtain ⟨c27, H⟩ := H
     have c27b0 := eq_true c27
     have c27b1 := decide_eq_true c27
     try have c27b2 := eq_false (Nat.not_lt.2 c27)
     try have c27b5 : (9223372036854775807 < ((rd_T31 l0 x14_1).f0).size + 1 + t574.size + 1 + t576.size + 1 + t578.size + 1 + t580.size + 1 + t582.size) = False := by have e_ := c27b2; (repeat rw [ByteArray.size_append] at e_); exact e_
     replace H := guard_inv H
     obtain ⟨c28, H⟩ := H
     have c28b0 := eq_true c28
     have c28b1 := decide_eq_true c28
     try have c28b2 := eq_false (Nat.not_lt.2 c28)
     try have c28b5 : (9223372036854775807 < ((rd_T31 l0 x14_1).f0).size + 1 + t574.size + 1 + t576.size + 1 + t578.size + 1 + t580.size + 1 + t582.size + 1) = False := by have e_ := c28b2; (repeat rw [ByteArray.size_append] at e_); exact e_
     replace H := guard_inv H
     obtain ⟨c29, H⟩ := H
     have c29b0 : decide (5 < (((rd_T31 l0 x14_1).f1).length : Int)) = true := decide_eq_true c29
     have c29b1 : decide (5 < ((rd_T31 l0 x14_1).f1).length) = true := decide_eq_true (by omega)
     clear c29
     replace H := Option.bind_eq_some_iff.mp H
     obtain ⟨t584, A300, H⟩ := H
     try dsimp -simprocs only at H
     have A30 := Aside0.mk A300
     clear A300
     replace H := guard_inv H
     obtain ⟨c31, H⟩ := H
     have c31b0 := eq_true c31
     have c31b1 := decide_eq_true c31
     try have c31b2 := eq_false (Nat.not_lt.2 c31)
     try have c31b5 : (9223372036854775807 < ((rd_T31 l0 x14_1).f0).size + 1 + t574.size + 1 + t576.size + 1 + t578.size + 1 + t580.size + 1 + t582.size + 1 + t584.size) = False := by have e_ := c31b2; (repeat rw [ByteArray.size_append] at e_); exact e_
     replace H := guard_inv H
     obtain ⟨c32, H⟩ := H
     have c32b0 := eq_true c32
     have c32b1 := decide_eq_true c32
     try have c32b2 := eq_false (Nat.not_lt.2 c32)
     try have c32b5 : (9223372036854775807 < ((rd_T31 l0 x14_1).f0).size + 1 + t574.size + 1 + t576.size + 1 + t578.size + 1 + t580.size + 1 + t582.size + 1 + t584.size + 1) = False := by have e_ := c32b2; (repeat rw [ByteArray.size_append] at e_); exact e_
     replace H := guard_inv H
     obtain ⟨c33, H⟩ := H
     have c33b0 : decide (6 < (((rd_T31 l0 x14_1).f1).length : Int)) = true := decide_eq_true c33
     have c33b1 : decide (6 < ((rd_T31 l0 x14_1).f1).length) = true := decide_eq_true (by omega)
     clear c33
     replace H := Option.bind_eq_some_iff.mp H
     obtain ⟨t586, A340, H⟩ := H
     try dsimp -simprocs only at H
     have A34 := Aside0.mk A340
     clear A340
     replace H := guard_inv H
     obtain ⟨c35, H⟩ := H
     have c35b0 := eq_true c35
     have c35b1 := decide_eq_true c35
     try have c35b2 := eq_false (Nat.not_lt.2 c35)
     try have c35b5 : (9223372036854775807 < ((rd_T31 l0 x14_1).f0).size + 1 + t574.size + 1 + t576.size + 1 + t578.size + 1 + t580.size + 1 + t582.size + 1 + t584.size + 1 + t586.size) = False := by have e_ := c35b2; (repeat rw [ByteArray.size_append] at e_); exact e_
     replace H := guard_inv H
     obtain ⟨c36, H⟩ := H
     have c36b0 := eq_true c36
     have c36b1 := decide_eq_true c36
     try have c36b2 := eq_false (Nat.not_lt.2 c36)
     try have c36b5 : (9223372036854775807 < ((rd_T31 l0 x14_1).f0).size + 1 + t574.size + 1 + t576.size + 1 + t578.size + 1 + t580.size + 1 + t582.size + 1 + t584.size + 1 + t586.size + 1) = False := by have e_ := c36b2; (repeat rw [ByteArray.size_append] at e_); exact e_
     replace H := guard_inv H
     obtain ⟨c37, H⟩ := H
     have c37b0 : decide (7 < (((rd_T31 l0 x14_1).f1).length : Int)) = true := decide_eq_true c37
     have c37b1 : decide (7 < ((rd_T31 l0 x14_1).f1).length) = true := decide_eq_true (by omega)
     clear c37
     replace H := Option.bind_eq_some_iff.mp H
     obtain ⟨t588, A380, H⟩ := H
     try dsimp -simprocs only at H
     have A38 := Aside0.mk A380
     clear A380
     replace H := guard_inv H
     obtain ⟨c39, H⟩ := H
     have c39b0 := eq_true c39
     have c39b1 := decide_eq_true c39
     try have c39b2 := eq_false (Nat.not_lt.2 c39)
     try have c39b5 : (9223372036854775807 < ((rd_T31 l0 x14_1).f0).size + 1 + t574.size + 1 + t576.size + 1 + t578.size + 1 + t580.size + 1 + t582.size + 1 + t584.size + 1 + t586.size + 1 + t588.size) = False := by have e_ := c39b2; (repeat rw [ByteArray.size_append] at e_); exact e_
     replace H := guard_inv H
     obtain ⟨c40, H⟩ := H
     have c40b0 := eq_true c40
     have c40b1 := decide_eq_true c40
     try have c40b2 := eq_false (Nat.not_lt.2 c40)
     try have c40b5 : (9223372036854775807 < ((rd_T31 l0 x14_1).f0).size + 1 + t574.size + 1 + t576.size + 1 + t578.size + 1 + t580.size + 1 + t582.size + 1 + t584.size + 1 + t586.size + 1 + t588.size + 1) = False := by have e_ := c40b2; (repeat rw [ByteArray.size_append] at e_); exact e_
     replace H := guard_inv H
     obtain ⟨c41, H⟩ := H
     have c41b0 : decide (8 < (((rd_T31 l0 x14_1).f1).length : Int)) = true := decide_eq_true c41
     have c41b1 : decide (8 < ((rd_T31 l0 x14_1).f1).length) = true := decide_eq_true (by omega)
     clear c41
     replace H := Option.bind_eq_some_iff.mp H
     obtain ⟨t590, A420, H⟩ := H
     try dsimp -simprocs only at H
     have A42 := Aside0.mk A420
     clear A420
     replace H := guard_inv H
     obtain ⟨c43, H⟩ := H
     have c43b0 := eq_true c43
     have c43b1 := decide_eq_true c43
     try have c43b2 := eq_false (Nat.not_lt.2 c43)
     try have c43b5 : (9223372036854775807 < ((rd_T31 l0 x14_1).f0).size + 1 + t574.size + 1 + t576.size + 1 + t578.size + 1 + t580.size + 1 + t582.size + 1 + t584.size + 1 + t586.size + 1 + t588.size + 1 + t590.size) = False := by have e_ := c43b2; (repeat rw [ByteArray.size_append] at e_); exact e_
     replace H := guard_inv H
     obtain ⟨c44, H⟩ := H
     have c44b0 := eq_true c44
     have c44b1 := decide_eq_true c44
     try have c44b2 := eq_false (Nat.not_lt.2 c44)
     try have c44b5 : (9223372036854775807 < ((rd_T31 l0 x14_1).f0).size + 1 + t574.size + 1 + t576.size + 1 + t578.size + 1 + t580.size + 1 + t582.size + 1 + t584.size + 1 + t586.size + 1 + t588.size + 1 + t590.size + 1) = False := by have e_ := c44b2; (repeat rw [ByteArray.size_append] at e_); exact e_
     replace H := guard_inv H
     obtain ⟨c45, H⟩ := H
     have c45b0 : decide (9 < (((rd_T31 l0 x14_1).f1).length : Int)) = true := decide_eq_true c45
     have c45b1 : decide (9 < ((rd_T31 l0 x14_1).f1).length) = true := decide_eq_true (by omega)
     clear c45
     replace H := Option.bind_eq_some_iff.mp H
     obtain ⟨t592, A460, H⟩ := H
     try dsimp -simprocs only at H
     have A46 := Aside0.mk A460
     clear A460
     replace H := guard_inv H
     obtain ⟨c47, H⟩ := H
     have c47b0 := eq_true c47
     have c47b1 := decide_eq_true c47
     try have c47b2 := eq_false (Nat.not_lt.2 c47)
     try have c47b5 : (9223372036854775807 < ((rd_T31 l0 x14_1).f0).size + 1 + t574.size + 1 + t576.size + 1 + t578.size + 1 + t580.size + 1 + t582.size + 1 + t584.size + 1 + t586.size + 1 + t588.size + 1 + t590.size + 1 + t592.size) = False := by have e_ := c47b2; (repeat rw [ByteArray.size_append] at e_); exact e_
     replace H := Option.bind_eq_some_iff.mp H
     obtain ⟨t593, A480, H⟩ := H
     try dsimp -simprocs only at H
     have A48 := Aside0.mk A480
     clear A480
     replace H := guard_inv H
     obtain ⟨c49, H⟩ := H
     have c49b0 := eq_true c49
     have c49b1 := decide_eq_true c49
     try have c49b2 := eq_false (Nat.not_lt.2 c49)
     replace H := guard_inv H
     obtain ⟨c50, H⟩ := H
     have c50b0 := eq_true c50
     have c50b1 := decide_eq_true c50
     try have c50b2 := eq_false (Nat.not_lt.2 c50)
     try have c50b5 : (9223372036854775807 < x4_1.size + (t593.size + 1)) = False := by have e_ := c50b2; (repeat rw [ByteArray.size_append] at e_); exact e_
     have H' := Aside0.mk H
     clear H
     have p571 : 0 ≤ (x14_1 : Int) := of_decide_eq_true (by first | (with_reducible assumption) | assumption)
     have q571 : x14_1 < (l0.length : Int) := of_decide_eq_true (by first | (with_reducible assumption) | assumption)
     obtain ⟨ad571, A571_1, c571_1, A571_2, c571_2, e571, hx571_0, hx571_1, hx571_2, hl571_1, hi571_1, hl571_2, hi571_2⟩ := at_T31 HR0.out x14_1 p571 q571
     cases e571
     replace hx571_0 := (HB.out.cell (World.block_lt_of_cell? w _ hx571_0)).trans hx571_0
     replace hx571_1 := (HB.out.cell (World.block_lt_of_cell? w _ hx571_1)).trans hx571_1
     replace hx571_2 := (HB.out.cell (World.block_lt_of_cell? w _ hx571_2)).trans hx571_2
     have HR571_1 := Aside0.mk hi571_1
     have HC571_1 := Aside0.mk hl571_1
     clear hi571_1 hl571_1
     have HR571_2 := Aside0.mk hi571_2
     have HC571_2 := Aside0.mk hl571_2
     clear hi571_2 hl571_2
     replace p571 := eq_true p571
     replace q571 := eq_true q571
     try go_wp2_with (first | ((with_reducible refine gate_dst (N := 6) rfl ?_); refine box_event ?hg (N := 6) ?hd (cs := #[.string (⟨#[]⟩ : ByteArray), .slice none 0 0, .slice none 0 0]) (t := 31) ?hr ?_; (case hd => rfl); (case hg => rfl); (case hr => first | (go_simp; done) | (go_simp; rfl)); intro gb572 hg w51 hbox hb; have n0_ := Aside0.mk (below_step (by repeat (first | (with_reducible first | exact HB.out | apply below_alloc | apply pw_below_drewN | apply below_drew1) | exact HB.out)) hb); have n1_ := Aside0.mk (hbox); have n2_ := Aside0.mk ((by rw [hg]; exact (below_size (by repeat (first | (with_reducible first | exact HB.out | apply below_alloc | apply pw_below_drewN | apply below_drew1) | exact HB.out))) : w.heap.size ≤ gb572)); have n3_ := Aside0.mk ((by rw [hg]; exact (below_size (by repeat (first | (with_reducible first | exact HB.out | apply below_alloc | apply pw_below_drewN | apply below_drew1) | exact HB.out))) : w.heap.size ≤ gb572)); clear HB; have HB := n0_; have BK572 := n1_; have GW572 := n2_; have GE572 := n3_; clear n0_ n1_ n2_ n3_; clear hb hbox hg; have hcz52_0 : w51.cell? ⟨gb572, 0, none⟩ = some (.string (⟨#[]⟩ : ByteArray)) := (blk_cell BK572.out 0).trans rfl; have hcz52_1 : w51.cell? ⟨gb572, 1, none⟩ = some (.slice none 0 0) := (blk_cell BK572.out 1).trans rfl; have hcz52_2 : w51.cell? ⟨gb572, 2, none⟩ = some (.slice none 0 0) := (blk_cell BK572.out 2).trans rfl; have hfz52_0 := blk_frozen BK572.out 0; have hfz52_1 := blk_frozen BK572.out 1; have hfz52_2 := blk_frozen BK572.out 2))
     have n0_ : Aside0 ((((w51.setCell ⟨gb572, 0, none⟩ (.string ((rd_T31 l0 x14_1).f0))).setCell ⟨gb572, 1, none⟩ (.slice A571_1 ((rd_T31 l0 x14_1).f1).length c571_1)).setCell ⟨gb572, 2, none⟩ (.slice A571_2 ((rd_T31 l0 x14_1).f2).length c571_2)).heap[gb572]? = some (.cells #[.string ((rd_T31 l0 x14_1).f0), .slice A571_1 ((rd_T31 l0 x14_1).f1).length c571_1, .slice A571_2 ((rd_T31 l0 x14_1).f2).length c571_2] 31 (0, 0))) := ⟨by (with_reducible repeat (first | refine blk_drewN ?_ _ | refine blk_drew ?_ | refine blk_alloc ?_ _)); refine blk_put (cs := #[.string ((rd_T31 l0 x14_1).f0), .slice A571_1 ((rd_T31 l0 x14_1).f1).length c571_1, .slice none 0 0]) ?_ 2 _ rfl; (with_reducible repeat (first | refine blk_drewN ?_ _ | refine blk_drew ?_ | refine blk_alloc ?_ _)); refine blk_put (cs := #[.string ((rd_T31 l0 x14_1).f0), .slice none 0 0, .slice none 0 0]) ?_ 1 _ rfl; (with_reducible repeat (first | refine blk_drewN ?_ _ | refine blk_drew ?_ | refine blk_alloc ?_ _)); refine blk_put (cs := #[.string (⟨#[]⟩ : ByteArray), .slice none 0 0, .slice none 0 0]) ?_ 0 _ rfl; (with_reducible repeat (first | refine blk_drewN ?_ _ | refine blk_drew ?_ | refine blk_alloc ?_ _)); exact BK572.out⟩
     have n1_ : Aside0 (Below w.heap.size w (((w51.setCell ⟨gb572, 0, none⟩ (.string ((rd_T31 l0 x14_1).f0))).setCell ⟨gb572, 1, none⟩ (.slice A571_1 ((rd_T31 l0 x14_1).f1).length c571_1)).setCell ⟨gb572, 2, none⟩ (.slice A571_2 ((rd_T31 l0 x14_1).f2).length c571_2))) := ⟨by repeat (first | (with_reducible first | exact HB.out | apply below_alloc | apply pw_below_drewN | apply below_drew1 | refine below_set ?_ GE572.out) | exact HB.out)⟩
     (try clear BK572)
     (try clear HB)
     generalize (((w51.setCell ⟨gb572, 0, none⟩ (.string ((rd_T31 l0 x14_1).f0))).setCell ⟨gb572, 1, none⟩ (.slice A571_1 ((rd_T31 l0 x14_1).f1).length c571_1)).setCell ⟨gb572, 2, none⟩ (.slice A571_2 ((rd_T31 l0 x14_1).f2).length c571_2)) = w53 at n0_ n1_ ⊢
     have BK572 := n0_
     have HB := n1_
     clear n0_ n1_
     have n0_ := Aside0.mk (blk_drew BK572.out)
     have n1_ := Aside0.mk (below_drew1 HB.out)
     clear BK572
     clear HB
     have BK572 := n0_
     have HB := n1_
     clear n0_ n1_
     have p573 : 0 ≤ (0 : Int) := (by omega)
     have q573 : 0 < (((rd_T31 l0 x14_1).f1).length : Int) := of_decide_eq_true (by first | (with_reducible assumption) | assumption)
     obtain ⟨ad573, e573, hx573_0⟩ := Kd.at_int HR571_1.out 0 p573 q573
     have hw573_0 := hx573_0
     (try rw [show ((0 : Int)).toNat = 0 from rfl] at hw573_0)
     (try rw [show 0 * 1 = 0 from rfl] at hw573_0)
     (try rw [Addr.add_zero'] at hw573_0)
     cases e573
     have qi573 : (0 < ((rd_T31 l0 x14_1).f1).length) = True := eq_true (by omega)
     (try rw [show ((0 : Int)).toNat = 0 from rfl] at hx573_0)
     (try rw [Addr.add_zero'] at hx573_0)
     replace hx573_0 := (HB.out.cell (World.block_lt_of_cell? w _ hx573_0)).trans hx573_0
     replace p573 := eq_true p573
     replace q573 := eq_true q573
     have p575 : 0 ≤ (1 : Int) := (by omega)
     have q575 : 1 < (((rd_T31 l0 x14_1).f1).length : Int) := of_decide_eq_true (by first | (with_reducible assumption) | assumption)
     obtain ⟨ad575, e575, hx575_0⟩ := Kd.at_int HR571_1.out 1 p575 q575
     have hw575_0 := hx575_0
     (try rw [show ((1 : Int)).toNat = 1 from rfl] at hw575_0)
     (try rw [show 1 * 1 = 1 from rfl] at hw575_0)
     (try simp only [Nat.reduceMul, Nat.reduceEqDiff, Go.Addr.add, ↓reduceIte] at hw575_0)
     obtain rfl : ad573 = ad575 := (by injection e575)
     (try simp only [show (1 : Int).toNat = 1 from rfl, Nat.reduceMul, Nat.reduceEqDiff, Go.Addr.add, ↓reduceIte] at hx575_0)
     have qi575 : (1 < ((rd_T31 l0 x14_1).f1).length) = True := eq_true (by omega)
     (try rw [show ((1 : Int)).toNat = 1 from rfl] at hx575_0)
     replace hx575_0 := (HB.out.cell (World.block_lt_of_cell? w _ hx575_0)).trans hx575_0
     replace p575 := eq_true p575
     replace q575 := eq_true q575
     have p577 : 0 ≤ (2 : Int) := (by omega)
     have q577 : 2 < (((rd_T31 l0 x14_1).f1).length : Int) := of_decide_eq_true (by first | (with_reducible assumption) | assumption)
     obtain ⟨ad577, e577, hx577_0⟩ := Kd.at_int HR571_1.out 2 p577 q577
     have hw577_0 := hx577_0
     (try rw [show ((2 : Int)).toNat = 2 from rfl] at hw577_0)
     (try rw [show 2 * 1 = 2 from rfl] at hw577_0)
     (try simp only [Nat.reduceMul, Nat.reduceEqDiff, Go.Addr.add, ↓reduceIte] at hw577_0)
     obtain rfl : ad573 = ad577 := (by injection e577)
     (try simp only [show (2 : Int).toNat = 2 from rfl, Nat.reduceMul, Nat.reduceEqDiff, Go.Addr.add, ↓reduceIte] at hx577_0)
     have qi577 : (2 < ((rd_T31 l0 x14_1).f1).length) = True := eq_true (by omega)
     (try rw [show ((2 : Int)).toNat = 2 from rfl] at hx577_0)
     replace hx577_0 := (HB.out.cell (World.block_lt_of_cell? w _ hx577_0)).trans hx577_0
     replace p577 := eq_true p577
     replace q577 := eq_true q577
     have p579 : 0 ≤ (3 : Int) := (by omega)
     have q579 : 3 < (((rd_T31 l0 x14_1).f1).length : Int) := of_decide_eq_true (by first | (with_reducible assumption) | assumption)
     obtain ⟨ad579, e579, hx579_0⟩ := Kd.at_int HR571_1.out 3 p579 q579
     have hw579_0 := hx579_0
     (try rw [show ((3 : Int)).toNat = 3 from rfl] at hw579_0)
     (try rw [show 3 * 1 = 3 from rfl] at hw579_0)
     (try simp only [Nat.reduceMul, Nat.reduceEqDiff, Go.Addr.add, ↓reduceIte] at hw579_0)
     obtain rfl : ad573 = ad579 := (by injection e579)
     (try simp only [show (3 : Int).toNat = 3 from rfl, Nat.reduceMul, Nat.reduceEqDiff, Go.Addr.add, ↓reduceIte] at hx579_0)
     have qi579 : (3 < ((rd_T31 l0 x14_1).f1).length) = True := eq_true (by omega)
     (try rw [show ((3 : Int)).toNat = 3 from rfl] at hx579_0)
     replace hx579_0 := (HB.out.cell (World.block_lt_of_cell? w _ hx579_0)).trans hx579_0
     replace p579 := eq_true p579
     replace q579 := eq_true q579
     have p581 : 0 ≤ (4 : Int) := (by omega)
     have q581 : 4 < (((rd_T31 l0 x14_1).f1).length : Int) := of_decide_eq_true (by first | (with_reducible assumption) | assumption)
     obtain ⟨ad581, e581, hx581_0⟩ := Kd.at_int HR571_1.out 4 p581 q581
     have hw581_0 := hx581_0
     (try rw [show ((4 : Int)).toNat = 4 from rfl] at hw581_0)
     (try rw [show 4 * 1 = 4 from rfl] at hw581_0)
     (try simp only [Nat.reduceMul, Nat.reduceEqDiff, Go.Addr.add, ↓reduceIte] at hw581_0)
     obtain rfl : ad573 = ad581 := (by injection e581)
     (try simp only [show (4 : Int).toNat = 4 from rfl, Nat.reduceMul, Nat.reduceEqDiff, Go.Addr.add, ↓reduceIte] at hx581_0)
     have qi581 : (4 < ((rd_T31 l0 x14_1).f1).length) = True := eq_true (by omega)
     (try rw [show ((4 : Int)).toNat = 4 from rfl] at hx581_0)
     replace hx581_0 := (HB.out.cell (World.block_lt_of_cell? w _ hx581_0)).trans hx581_0
     replace p581 := eq_true p581
     replace q581 := eq_true q581
     have p583 : 0 ≤ (5 : Int) := (by omega)
     have q583 : 5 < (((rd_T31 l0 x14_1).f1).length : Int) := of_decide_eq_true (by first | (with_reducible assumption) | assumption)
     obtain ⟨ad583, e583, hx583_0⟩ := Kd.at_int HR571_1.out 5 p583 q583
     have hw583_0 := hx583_0
     (try rw [show ((5 : Int)).toNat = 5 from rfl] at hw583_0)
     (try rw [show 5 * 1 = 5 from rfl] at hw583_0)
     (try simp only [Nat.reduceMul, Nat.reduceEqDiff, Go.Addr.add, ↓reduceIte] at hw583_0)
     obtain rfl : ad573 = ad583 := (by injection e583)
     (try simp only [show (5 : Int).toNat = 5 from rfl, Nat.reduceMul, Nat.reduceEqDiff, Go.Addr.add, ↓reduceIte] at hx583_0)
     have qi583 : (5 < ((rd_T31 l0 x14_1).f1).length) = True := eq_true (by omega)
     (try rw [show ((5 : Int)).toNat = 5 from rfl] at hx583_0)
     replace hx583_0 := (HB.out.cell (World.block_lt_of_cell? w _ hx583_0)).trans hx583_0
     replace p583 := eq_true p583
     replace q583 := eq_true q583
     have p585 : 0 ≤ (6 : Int) := (by omega)
     have q585 : 6 < (((rd_T31 l0 x14_1).f1).length : Int) := of_decide_eq_true (by first | (with_reducible assumption) | assumption)
     obtain ⟨ad585, e585, hx585_0⟩ := Kd.at_int HR571_1.out 6 p585 q585
     have hw585_0 := hx585_0
     (try rw [show ((6 : Int)).toNat = 6 from rfl] at hw585_0)
     (try rw [show 6 * 1 = 6 from rfl] at hw585_0)
     (try simp only [Nat.reduceMul, Nat.reduceEqDiff, Go.Addr.add, ↓reduceIte] at hw585_0)
     obtain rfl : ad573 = ad585 := (by injection e585)
     (try simp only [show (6 : Int).toNat = 6 from rfl, Nat.reduceMul, Nat.reduceEqDiff, Go.Addr.add, ↓reduceIte] at hx585_0)
     have qi585 : (6 < ((rd_T31 l0 x14_1).f1).length) = True := eq_true (by omega)
     (try rw [show ((6 : Int)).toNat = 6 from rfl] at hx585_0)
     replace hx585_0 := (HB.out.cell (World.block_lt_of_cell? w _ hx585_0)).trans hx585_0
     replace p585 := eq_true p585
     replace q585 := eq_true q585
     have p587 : 0 ≤ (7 : Int) := (by omega)
     have q587 : 7 < (((rd_T31 l0 x14_1).f1).length : Int) := of_decide_eq_true (by first | (with_reducible assumption) | assumption)
     obtain ⟨ad587, e587, hx587_0⟩ := Kd.at_int HR571_1.out 7 p587 q587
     have hw587_0 := hx587_0
     (try rw [show ((7 : Int)).toNat = 7 from rfl] at hw587_0)
     (try rw [show 7 * 1 = 7 from rfl] at hw587_0)
     (try simp only [Nat.reduceMul, Nat.reduceEqDiff, Go.Addr.add, ↓reduceIte] at hw587_0)
     obtain rfl : ad573 = ad587 := (by injection e587)
     (try simp only [show (7 : Int).toNat = 7 from rfl, Nat.reduceMul, Nat.reduceEqDiff, Go.Addr.add, ↓reduceIte] at hx587_0)
     have qi587 : (7 < ((rd_T31 l0 x14_1).f1).length) = True := eq_true (by omega)
     (try rw [show ((7 : Int)).toNat = 7 from rfl] at hx587_0)
     replace hx587_0 := (HB.out.cell (World.block_lt_of_cell? w _ hx587_0)).trans hx587_0
     replace p587 := eq_true p587
     replace q587 := eq_true q587
     have p589 : 0 ≤ (8 : Int) := (by omega)
     have q589 : 8 < (((rd_T31 l0 x14_1).f1).length : Int) := of_decide_eq_true (by first | (with_reducible assumption) | assumption)
     obtain ⟨ad589, e589, hx589_0⟩ := Kd.at_int HR571_1.out 8 p589 q589
     have hw589_0 := hx589_0
     (try rw [show ((8 : Int)).toNat = 8 from rfl] at hw589_0)
     (try rw [show 8 * 1 = 8 from rfl] at hw589_0)
     (try simp only [Nat.reduceMul, Nat.reduceEqDiff, Go.Addr.add, ↓reduceIte] at hw589_0)
     obtain rfl : ad573 = ad589 := (by injection e589)
     (try simp only [show (8 : Int).toNat = 8 from rfl, Nat.reduceMul, Nat.reduceEqDiff, Go.Addr.add, ↓reduceIte] at hx589_0)
     have qi589 : (8 < ((rd_T31 l0 x14_1).f1).length) = True := eq_true (by omega)
     (try rw [show ((8 : Int)).toNat = 8 from rfl] at hx589_0)
     replace hx589_0 := (HB.out.cell (World.block_lt_of_cell? w _ hx589_0)).trans hx589_0
     replace p589 := eq_true p589
     replace q589 := eq_true q589
     have p591 : 0 ≤ (9 : Int) := (by omega)
     have q591 : 9 < (((rd_T31 l0 x14_1).f1).length : Int) := of_decide_eq_true (by first | (with_reducible assumption) | assumption)
     obtain ⟨ad591, e591, hx591_0⟩ := Kd.at_int HR571_1.out 9 p591 q591
     have hw591_0 := hx591_0
     (try rw [show ((9 : Int)).toNat = 9 from rfl] at hw591_0)
     (try rw [show 9 * 1 = 9 from rfl] at hw591_0)
     (try simp only [Nat.reduceMul, Nat.reduceEqDiff, Go.Addr.add, ↓reduceIte] at hw591_0)
     obtain rfl : ad573 = ad591 := (by injection e591)
     (try simp only [show (9 : Int).toNat = 9 from rfl, Nat.reduceMul, Nat.reduceEqDiff, Go.Addr.add, ↓reduceIte] at hx591_0)
     have qi591 : (9 < ((rd_T31 l0 x14_1).f1).length) = True := eq_true (by omega)
     (try rw [show ((9 : Int)).toNat = 9 from rfl] at hx591_0)
     replace hx591_0 := (HB.out.cell (World.block_lt_of_cell? w _ hx591_0)).trans hx591_0
     replace p591 := eq_true p591
     replace q591 := eq_true q591
     refine start_ (n := 63) (S := fun w' => w'.cell? ⟨gb572, 0, none⟩ = some (.string ((rd_T31 l0 x14_1).f0)) ∧ w'.cell? ⟨gb572, 1, none⟩ = some (.slice (some ad573) ((rd_T31 l0 x14_1).f1).length c571_1) ∧ w'.cell? ⟨gb572, 2, none⟩ = some (.slice A571_2 ((rd_T31 l0 x14_1).f2).length c571_2) ∧ w'.cell? ad573 = some (.int .u64 (rd ((rd_T31 l0 x14_1).f1) 0)) ∧ w'.cell? ⟨ad573.block, ad573.off + 1, none⟩ = some (.int .u64 (rd ((rd_T31 l0 x14_1).f1) 1)) ∧ w'.cell? ⟨ad573.block, ad573.off + 2, none⟩ = some (.int .u64 (rd ((rd_T31 l0 x14_1).f1) 2)) ∧ w'.cell? ⟨ad573.block, ad573.off + 3, none⟩ = some (.int .u64 (rd ((rd_T31 l0 x14_1).f1) 3)) ∧ w'.cell? ⟨ad573.block, ad573.off + 4, none⟩ = some (.int .u64 (rd ((rd_T31 l0 x14_1).f1) 4)) ∧ w'.cell? ⟨ad573.block, ad573.off + 5, none⟩ = some (.int .u64 (rd ((rd_T31 l0 x14_1).f1) 5)) ∧ w'.cell? ⟨ad573.block, ad573.off + 6, none⟩ = some (.int .u64 (rd ((rd_T31 l0 x14_1).f1) 6)) ∧ w'.cell? ⟨ad573.block, ad573.off + 7, none⟩ = some (.int .u64 (rd ((rd_T31 l0 x14_1).f1) 7)) ∧ w'.cell? ⟨ad573.block, ad573.off + 8, none⟩ = some (.int .u64 (rd ((rd_T31 l0 x14_1).f1) 8)) ∧ w'.cell? ⟨ad573.block, ad573.off + 9, none⟩ = some (.int .u64 (rd ((rd_T31 l0 x14_1).f1) 9))) (ds := []) (bb [0, 63]) (by kernel_rfl) rfl rfl ⟨(blk_cell BK572.out 0).trans rfl, (blk_cell BK572.out 1).trans rfl, (blk_cell BK572.out 2).trans rfl, ((HB.out.cell (World.block_lt_of_cell? w _ hw573_0)).trans hw573_0), ((HB.out.cell (World.block_lt_of_cell? w _ hw575_0)).trans hw575_0), ((HB.out.cell (World.block_lt_of_cell? w _ hw577_0)).trans hw577_0), ((HB.out.cell (World.block_lt_of_cell? w _ hw579_0)).trans hw579_0), ((HB.out.cell (World.block_lt_of_cell? w _ hw581_0)).trans hw581_0), ((HB.out.cell (World.block_lt_of_cell? w _ hw583_0)).trans hw583_0), ((HB.out.cell (World.block_lt_of_cell? w _ hw585_0)).trans hw585_0), ((HB.out.cell (World.block_lt_of_cell? w _ hw587_0)).trans hw587_0), ((HB.out.cell (World.block_lt_of_cell? w _ hw589_0)).trans hw589_0), ((HB.out.cell (World.block_lt_of_cell? w _ hw591_0)).trans hw591_0)⟩ (fun hHeld => ?_); refine with_tabW spec_RoutePrint.tab8 spec_RoutePrint.bits8 (fun HT_ HW_ => ?_)
     generalize w53.drew = w54 at BK572 HB hx573_0 hx575_0 hx577_0 hx579_0 hx581_0 hx583_0 hx585_0 hx587_0 hx589_0 hx591_0 hHeld ⊢
     refine pure_ (i := 0) (N := some 20) (v := ?_) (a' := ?_) (bb [1, 62]) rfl rfl (any_of HT_.out (by kernel_rfl)) (fun _ _ _ h => h) (Or.inl ⟨by rfl, ?_⟩) ?_ ?_
     rotate_left
     ·intro w'
      go_simp
      with_reducible rfl
     rotate_left
     ·simp only [Act.put, List.setIfInBounds_toArray, List.set_cons_zero, List.set_cons_succ, i64_w, i32_w]
      rfl
     refine pure_ (i := 3) (N := some 23) (v := ?_) (a' := ?_) (bb [1, 2, 1, 59]) rfl rfl (any_of HT_.out (by kernel_rfl)) (fun _ _ _ h => h) (Or.inl ⟨by rfl, ?_⟩) ?_ ?_
     rotate_left
     ·intro w'
      go_simp
      with_reducible rfl
     rotate_left
     ·simp only [Act.put, List.setIfInBounds_toArray, List.set_cons_zero, List.set_cons_succ, i64_w, i32_w]
      rfl
     refine pure_ (i := 4) (N := some 24) (v := ?_) (a' := ?_) (bb [1, 2, 2, 58]) rfl rfl (any_of HT_.out (by kernel_rfl)) (fun _ _ _ h => h) (Or.inl ⟨by rfl, ?_⟩) ?_ ?_
     rotate_left
     ·intro w'
      go_simp
      with_reducible rfl
     rotate_left
     ·simp only [Act.put, List.setIfInBounds_toArray, List.set_cons_zero, List.set_cons_succ, i64_w, i32_w]
      rfl
     refine pure_ (i := 9) (N := some 29) (v := ?_) (a' := ?_) (bb [1, 2, 2, 4, 1, 53]) rfl rfl (any_of HT_.out (by kernel_rfl)) (fun _ _ _ h => h) (Or.inl ⟨by rfl, ?_⟩) ?_ ?_
     rotate_left
     ·intro w'
      go_simp
      with_reducible rfl
     rotate_left
     ·simp only [Act.put, List.setIfInBounds_toArray, List.set_cons_zero, List.set_cons_succ, i64_w, i32_w]
      rfl
     refine pure_ (i := 10) (N := some 30) (v := ?_) (a' := ?_) (bb [1, 2, 2, 4, 2, 52]) rfl rfl (any_of HT_.out (by kernel_rfl)) (fun _ _ _ h => h) (Or.inl ⟨by rfl, ?_⟩) ?_ ?_
     rotate_left
     ·intro w'
      go_simp
      with_reducible rfl
     rotate_left
     ·simp only [Act.put, List.setIfInBounds_toArray, List.set_cons_zero, List.set_cons_succ, i64_w, i32_w]
      rfl
     refine pure_ (i := 15) (N := some 35) (v := ?_) (a' := ?_) (bb [1, 2, 2, 4, 2, 4, 1, 47]) rfl rfl (any_of HT_.out (by kernel_rfl)) (fun _ _ _ h => h) (Or.inl ⟨by rfl, ?_⟩) ?_ ?_
     rotate_left
     ·intro w'
      go_simp
      with_reducible rfl
     rotate_left
     ·simp only [Act.put, List.setIfInBounds_toArray, List.set_cons_zero, List.set_cons_succ, i64_w, i32_w]
      rfl
     refine pure_ (i := 16) (N := some 36) (v := ?_) (a' := ?_) (bb [1, 2, 2, 4, 2, 4, 2, 46]) rfl rfl (any_of HT_.out (by kernel_rfl)) (fun _ _ _ h => h) (Or.inl ⟨by rfl, ?_⟩) ?_ ?_
     rotate_left
     ·intro w'
      go_simp
      with_reducible rfl
     rotate_left
     ·simp only [Act.put, List.setIfInBounds_toArray, List.set_cons_zero, List.set_cons_succ, i64_w, i32_w]
      rfl
     refine pure_ (i := 21) (N := some 41) (v := ?_) (a' := ?_) (bb [1, 2, 2, 4, 2, 4, 2, 4, 1, 41]) rfl rfl (any_of HT_.out (by kernel_rfl)) (fun _ _ _ h => h) (Or.inl ⟨by rfl, ?_⟩) ?_ ?_
     rotate_left
     ·intro w'
      go_simp
      with_reducible rfl
     rotate_left
     ·simp only [Act.put, List.setIfInBounds_toArray, List.set_cons_zero, List.set_cons_succ, i64_w, i32_w]
      rfl
     refine pure_ (i := 22) (N := some 42) (v := ?_) (a' := ?_) (bb [1, 2, 2, 4, 2, 4, 2, 4, 2, 40]) rfl rfl (any_of HT_.out (by kernel_rfl)) (fun _ _ _ h => h) (Or.inl ⟨by rfl, ?_⟩) ?_ ?_
     rotate_left
     ·intro w'
      go_simp
      with_reducible rfl
     rotate_left
     ·simp only [Act.put, List.setIfInBounds_toArray, List.set_cons_zero, List.set_cons_succ, i64_w, i32_w]
      rfl
     refine pure_ (i := 27) (N := some 47) (v := ?_) (a' := ?_) (bb [1, 2, 2, 4, 2, 4, 2, 4, 2, 4, 1, 35]) rfl rfl (any_of HT_.out (by kernel_rfl)) (fun _ _ _ h => h) (Or.inl ⟨by rfl, ?_⟩) ?_ ?_
     rotate_left
     ·intro w'
      go_simp
      with_reducible rfl
     rotate_left
     ·simp only [Act.put, List.setIfInBounds_toArray, List.set_cons_zero, List.set_cons_succ, i64_w, i32_w]
      rfl
     refine pure_ (i := 28) (N := some 48) (v := ?_) (a' := ?_) (bb [1, 2, 2, 4, 2, 4, 2, 4, 2, 4, 2, 34]) rfl rfl (any_of HT_.out (by kernel_rfl)) (fun _ _ _ h => h) (Or.inl ⟨by rfl, ?_⟩) ?_ ?_
     rotate_left
     ·intro w'
      go_simp
      with_reducible rfl
     rotate_left
     ·simp only [Act.put, List.setIfInBounds_toArray, List.set_cons_zero, List.set_cons_succ, i64_w, i32_w]
      rfl
     refine pure_ (i := 33) (N := some 53) (v := ?_) (a' := ?_) (bb [1, 2, 2, 4, 2, 4, 2, 4, 2, 4, 2, 4, 1, 29]) rfl rfl (any_of HT_.out (by kernel_rfl)) (fun _ _ _ h => h) (Or.inl ⟨by rfl, ?_⟩) ?_ ?_
     rotate_left
     ·intro w'
      go_simp
      with_reducible rfl
     rotate_left
     ·simp only [Act.put, List.setIfInBounds_toArray, List.set_cons_zero, List.set_cons_succ, i64_w, i32_w]
      rfl
     refine pure_ (i := 34) (N := some 54) (v := ?_) (a' := ?_) (bb [1, 2, 2, 4, 2, 4, 2, 4, 2, 4, 2, 4, 2, 28]) rfl rfl (any_of HT_.out (by kernel_rfl)) (fun _ _ _ h => h) (Or.inl ⟨by rfl, ?_⟩) ?_ ?_
     rotate_left
     ·intro w'
      go_simp
      with_reducible rfl
     rotate_left
     ·simp only [Act.put, List.setIfInBounds_toArray, List.set_cons_zero, List.set_cons_succ, i64_w, i32_w]
      rfl
     refine pure_ (i := 39) (N := some 59) (v := ?_) (a' := ?_) (bb [1, 2, 2, 4, 2, 4, 2, 4, 2, 4, 2, 4, 2, 4, 1, 23]) rfl rfl (any_of HT_.out (by kernel_rfl)) (fun _ _ _ h => h) (Or.inl ⟨by rfl, ?_⟩) ?_ ?_
     rotate_left
     ·intro w'
      go_simp
      with_reducible rfl
     rotate_left
     ·simp only [Act.put, List.setIfInBounds_toArray, List.set_cons_zero, List.set_cons_succ, i64_w, i32_w]
      rfl
     refine pure_ (i := 40) (N := some 60) (v := ?_) (a' := ?_) (bb [1, 2, 2, 4, 2, 4, 2, 4, 2, 4, 2, 4, 2, 4, 2, 22]) rfl rfl (any_of HT_.out (by kernel_rfl)) (fun _ _ _ h => h) (Or.inl ⟨by rfl, ?_⟩) ?_ ?_
     rotate_left
     ·intro w'
      go_simp
      with_reducible rfl
     rotate_left
     ·simp only [Act.put, List.setIfInBounds_toArray, List.set_cons_zero, List.set_cons_succ, i64_w, i32_w]
      rfl
     refine pure_ (i := 45) (N := some 65) (v := ?_) (a' := ?_) (bb [1, 2, 2, 4, 2, 4, 2, 4, 2, 4, 2, 4, 2, 4, 2, 4, 1, 17]) rfl rfl (any_of HT_.out (by kernel_rfl)) (fun _ _ _ h => h) (Or.inl ⟨by rfl, ?_⟩) ?_ ?_
     rotate_left
     ·intro w'
      go_simp
      with_reducible rfl
     rotate_left
     ·simp only [Act.put, List.setIfInBounds_toArray, List.set_cons_zero, List.set_cons_succ, i64_w, i32_w]
      rfl
     refine pure_ (i := 46) (N := some 66) (v := ?_) (a' := ?_) (bb [1, 2, 2, 4, 2, 4, 2, 4, 2, 4, 2, 4, 2, 4, 2, 4, 2, 16]) rfl rfl (any_of HT_.out (by kernel_rfl)) (fun _ _ _ h => h) (Or.inl ⟨by rfl, ?_⟩) ?_ ?_
     rotate_left
     ·intro w'
      go_simp
      with_reducible rfl
     rotate_left
     ·simp only [Act.put, List.setIfInBounds_toArray, List.set_cons_zero, List.set_cons_succ, i64_w, i32_w]
      rfl
     refine pure_ (i := 51) (N := some 71) (v := ?_) (a' := ?_) (bb [1, 2, 2, 4, 2, 4, 2, 4, 2, 4, 2, 4, 2, 4, 2, 4, 2, 4, 1, 11]) rfl rfl (any_of HT_.out (by kernel_rfl)) (fun _ _ _ h => h) (Or.inl ⟨by rfl, ?_⟩) ?_ ?_
     rotate_left
     ·intro w'
      go_simp
      with_reducible rfl
     rotate_left
     ·simp only [Act.put, List.setIfInBounds_toArray, List.set_cons_zero, List.set_cons_succ, i64_w, i32_w]
      rfl
     refine pure_ (i := 52) (N := some 72) (v := ?_) (a' := ?_) (bb [1, 2, 2, 4, 2, 4, 2, 4, 2, 4, 2, 4, 2, 4, 2, 4, 2, 4, 2, 10]) rfl rfl (any_of HT_.out (by kernel_rfl)) (fun _ _ _ h => h) (Or.inl ⟨by rfl, ?_⟩) ?_ ?_
     rotate_left
     ·intro w'
      go_simp
      with_reducible rfl
     rotate_left
     ·simp only [Act.put, List.setIfInBounds_toArray, List.set_cons_zero, List.set_cons_succ, i64_w, i32_w]
      rfl
     refine pure_ (i := 57) (N := some 77) (v := ?_) (a' := ?_) (bb [1, 2, 2, 4, 2, 4, 2, 4, 2, 4, 2, 4, 2, 4, 2, 4, 2, 4, 2, 4, 1, 5]) rfl rfl (any_of HT_.out (by kernel_rfl)) (fun _ _ _ h => h) (Or.inl ⟨by rfl, ?_⟩) ?_ ?_
     rotate_left
     ·intro w'
      go_simp
      with_reducible rfl
     rotate_left
     ·simp only [Act.put, List.setIfInBounds_toArray, List.set_cons_zero, List.set_cons_succ, i64_w, i32_w]
      rfl
     refine pure_ (i := 58) (N := some 78) (v := ?_) (a' := ?_) (bb [1, 2, 2, 4, 2, 4, 2, 4, 2, 4, 2, 4, 2, 4, 2, 4, 2, 4, 2, 4, 2, 4]) rfl rfl (any_of HT_.out (by kernel_rfl)) (fun _ _ _ h => h) (Or.inl ⟨by rfl, ?_⟩) ?_ ?_
     rotate_left
     ·intro w'
      go_simp
      with_reducible rfl
     rotate_left
     ·simp only [Act.put, List.setIfInBounds_toArray, List.set_cons_zero, List.set_cons_succ, i64_w, i32_w]
      rfl
     refine take_ (i := 1) (N := some 21) (v := ?_) (a' := ?_) (bb [2, 1, 2, 4, 2, 4, 2, 4, 2, 4, 2, 4, 2, 4, 2, 4, 2, 4, 2, 4, 2, 4]) rfl rfl (take_ofW HT_.out HW_.out (by kernel_rfl)) (fun _ _ _ h => h) (Or.inl ⟨by rfl, ?_⟩) hHeld ?_ ?_
     rotate_left
     ·rintro w' ⟨s0, s1, s2, s3, s4, s5, s6, s7, s8, s9, s10, s11, s12⟩
      go_simp
      with_reducible rfl
     rotate_left
     ·simp only [Act.put, List.setIfInBounds_toArray, List.set_cons_zero, List.set_cons_succ, i64_w, i32_w]
      rfl
     refine pure_ (i := 2) (N := some 22) (v := ?_) (a' := ?_) (bb [5, 4, 2, 4, 2, 4, 2, 4, 2, 4, 2, 4, 2, 4, 2, 4, 2, 4, 2, 4]) rfl rfl (any_of HT_.out (by kernel_rfl)) (fun _ _ _ h => h) (Or.inl ⟨by rfl, ?_⟩) ?_ ?_
     rotate_left
     ·intro w'
      go_simp
      with_reducible rfl
     rotate_left
     ·simp only [Act.put, List.setIfInBounds_toArray, List.set_cons_zero, List.set_cons_succ, i64_w, i32_w]
      rfl
     refine take_ (i := 5) (N := some 25) (v := ?_) (a' := ?_) (bb [6, 3, 2, 4, 2, 4, 2, 4, 2, 4, 2, 4, 2, 4, 2, 4, 2, 4, 2, 4]) rfl rfl (take_ofW HT_.out HW_.out (by kernel_rfl)) (fun _ _ _ h => h) (Or.inl ⟨by rfl, ?_⟩) hHeld ?_ ?_
     rotate_left
     ·rintro w' ⟨s0, s1, s2, s3, s4, s5, s6, s7, s8, s9, s10, s11, s12⟩
      go_simp
      with_reducible rfl
     rotate_left
     ·simp only [Act.put, List.setIfInBounds_toArray, List.set_cons_zero, List.set_cons_succ, i64_w, i32_w]
      rfl
     refine take_ (i := 11) (N := some 31) (v := ?_) (a' := ?_) (bb [6, 3, 3, 3, 2, 4, 2, 4, 2, 4, 2, 4, 2, 4, 2, 4, 2, 4, 2, 4]) rfl rfl (take_ofW HT_.out HW_.out (by kernel_rfl)) (fun _ _ _ h => h) (Or.inl ⟨by rfl, ?_⟩) hHeld ?_ ?_
     rotate_left
     ·rintro w' ⟨s0, s1, s2, s3, s4, s5, s6, s7, s8, s9, s10, s11, s12⟩
      go_simp
      with_reducible rfl
     rotate_left
     ·simp only [Act.put, List.setIfInBounds_toArray, List.set_cons_zero, List.set_cons_succ, i64_w, i32_w]
      rfl
     refine take_ (i := 17) (N := some 37) (v := ?_) (a' := ?_) (bb [6, 3, 3, 3, 3, 3, 2, 4, 2, 4, 2, 4, 2, 4, 2, 4, 2, 4, 2, 4]) rfl rfl (take_ofW HT_.out HW_.out (by kernel_rfl)) (fun _ _ _ h => h) (Or.inl ⟨by rfl, ?_⟩) hHeld ?_ ?_
     rotate_left
     ·rintro w' ⟨s0, s1, s2, s3, s4, s5, s6, s7, s8, s9, s10, s11, s12⟩
      go_simp
      with_reducible rfl
     rotate_left
     ·simp only [Act.put, List.setIfInBounds_toArray, List.set_cons_zero, List.set_cons_succ, i64_w, i32_w]
      rfl
     refine take_ (i := 23) (N := some 43) (v := ?_) (a' := ?_) (bb [6, 3, 3, 3, 3, 3, 3, 3, 2, 4, 2, 4, 2, 4, 2, 4, 2, 4, 2, 4]) rfl rfl (take_ofW HT_.out HW_.out (by kernel_rfl)) (fun _ _ _ h => h) (Or.inl ⟨by rfl, ?_⟩) hHeld ?_ ?_
     rotate_left
     ·rintro w' ⟨s0, s1, s2, s3, s4, s5, s6, s7, s8, s9, s10, s11, s12⟩
      go_simp
      with_reducible rfl
     rotate_left
     ·simp only [Act.put, List.setIfInBounds_toArray, List.set_cons_zero, List.set_cons_succ, i64_w, i32_w]
      rfl
     refine take_ (i := 29) (N := some 49) (v := ?_) (a' := ?_) (bb [6, 3, 3, 3, 3, 3, 3, 3, 3, 3, 2, 4, 2, 4, 2, 4, 2, 4, 2, 4]) rfl rfl (take_ofW HT_.out HW_.out (by kernel_rfl)) (fun _ _ _ h => h) (Or.inl ⟨by rfl, ?_⟩) hHeld ?_ ?_
     rotate_left
     ·rintro w' ⟨s0, s1, s2, s3, s4, s5, s6, s7, s8, s9, s10, s11, s12⟩
      go_simp
      with_reducible rfl
     rotate_left
     ·simp only [Act.put, List.setIfInBounds_toArray, List.set_cons_zero, List.set_cons_succ, i64_w, i32_w]
      rfl
     refine take_ (i := 35) (N := some 55) (v := ?_) (a' := ?_) (bb [6, 3, 3, 3, 3, 3, 3, 3, 3, 3, 3, 3, 2, 4, 2, 4, 2, 4, 2, 4]) rfl rfl (take_ofW HT_.out HW_.out (by kernel_rfl)) (fun _ _ _ h => h) (Or.inl ⟨by rfl, ?_⟩) hHeld ?_ ?_
     rotate_left
     ·rintro w' ⟨s0, s1, s2, s3, s4, s5, s6, s7, s8, s9, s10, s11, s12⟩
      go_simp
      with_reducible rfl
     rotate_left
     ·simp only [Act.put, List.setIfInBounds_toArray, List.set_cons_zero, List.set_cons_succ, i64_w, i32_w]
      rfl
     refine take_ (i := 41) (N := some 61) (v := ?_) (a' := ?_) (bb [6, 3, 3, 3, 3, 3, 3, 3, 3, 3, 3, 3, 3, 3, 2, 4, 2, 4, 2, 4]) rfl rfl (take_ofW HT_.out HW_.out (by kernel_rfl)) (fun _ _ _ h => h) (Or.inl ⟨by rfl, ?_⟩) hHeld ?_ ?_
     rotate_left
     ·rintro w' ⟨s0, s1, s2, s3, s4, s5, s6, s7, s8, s9, s10, s11, s12⟩
      go_simp
      with_reducible rfl
     rotate_left
     ·simp only [Act.put, List.setIfInBounds_toArray, List.set_cons_zero, List.set_cons_succ, i64_w, i32_w]
      rfl
     refine take_ (i := 47) (N := some 67) (v := ?_) (a' := ?_) (bb [6, 3, 3, 3, 3, 3, 3, 3, 3, 3, 3, 3, 3, 3, 3, 3, 2, 4, 2, 4]) rfl rfl (take_ofW HT_.out HW_.out (by kernel_rfl)) (fun _ _ _ h => h) (Or.inl ⟨by rfl, ?_⟩) hHeld ?_ ?_
     rotate_left
     ·rintro w' ⟨s0, s1, s2, s3, s4, s5, s6, s7, s8, s9, s10, s11, s12⟩
      go_simp
      with_reducible rfl
     rotate_left
     ·simp only [Act.put, List.setIfInBounds_toArray, List.set_cons_zero, List.set_cons_succ, i64_w, i32_w]
      rfl
     refine take_ (i := 53) (N := some 73) (v := ?_) (a' := ?_) (bb [6, 3, 3, 3, 3, 3, 3, 3, 3, 3, 3, 3, 3, 3, 3, 3, 3, 3, 2, 4]) rfl rfl (take_ofW HT_.out HW_.out (by kernel_rfl)) (fun _ _ _ h => h) (Or.inl ⟨by rfl, ?_⟩) hHeld ?_ ?_
     rotate_left
     ·rintro w' ⟨s0, s1, s2, s3, s4, s5, s6, s7, s8, s9, s10, s11, s12⟩
      go_simp
      with_reducible rfl
     rotate_left
     ·simp only [Act.put, List.setIfInBounds_toArray, List.set_cons_zero, List.set_cons_succ, i64_w, i32_w]
      rfl
     refine take_ (i := 59) (N := some 79) (v := ?_) (a' := ?_) (bb [6, 3, 3, 3, 3, 3, 3, 3, 3, 3, 3, 3, 3, 3, 3, 3, 3, 3, 3, 3]) rfl rfl (take_ofW HT_.out HW_.out (by kernel_rfl)) (fun _ _ _ h => h) (Or.inl ⟨by rfl, ?_⟩) hHeld ?_ ?_
     rotate_left
     ·rintro w' ⟨s0, s1, s2, s3, s4, s5, s6, s7, s8, s9, s10, s11, s12⟩
      go_simp
      with_reducible rfl
     rotate_left
     ·simp only [Act.put, List.setIfInBounds_toArray, List.set_cons_zero, List.set_cons_succ, i64_w, i32_w]
      rfl
     refine one_ (i := 6) (N := some 26) (bb [7, 2, 3, 3, 3, 3, 3, 3, 3, 3, 3, 3, 3, 3, 3, 3, 3, 3, 3, 3]) rfl rfl (one_of HT_.out (by kernel_rfl)) (by decide) (fun K hK => ?_)
     refine goes_ Tryz.func105 (by kernel_rfl) rfl #[.int .u64 (rd ((rd_T31 l0 x14_1).f1) 0), .int .i64 8] (by rfl) rfl rfl (by (try simp only [List.map_toArray, List.map_cons, List.map_nil]); first | done | rfl | (simp only [List.length_drop, List.length_take]; rfl)) ?_
     with_reducible refine (spec_upper.calls k1 (rd ((rd_T31 l0 x14_1).f1) 0) 8 t574 _ A10.out).mono ?_
     rintro e w55 ⟨rfl, hb⟩
     refine ⟨_, rfl, ?_⟩
     have n0_ := Aside0.mk (blk_below (g := gb572) (o := .cells #[.string ((rd_T31 l0 x14_1).f0), .slice (some ad573) ((rd_T31 l0 x14_1).f1).length c571_1, .slice A571_2 ((rd_T31 l0 x14_1).f2).length c571_2] 31 (0, 0)) (by (with_reducible repeat (first | refine blk_drewN ?_ _ | refine blk_drew ?_ | refine blk_alloc ?_ _)); exact BK572.out) hb)
     have n1_ := Aside0.mk (below_step (by repeat (first | (with_reducible first | exact HB.out | apply below_alloc | apply pw_below_drewN | apply below_drew1 | refine below_set ?_ GE572.out) | exact HB.out)) hb)
     clear BK572
     clear HB
     have BK572 := n0_
     have HB := n1_
     clear n0_ n1_
     (try clear hb)
     (try clear hb2)
     (try clear hk)
     (try clear hi)
     refine hK.out _ _ ⟨(blk_cell BK572.out 0).trans rfl, (blk_cell BK572.out 1).trans rfl, (blk_cell BK572.out 2).trans rfl, ((HB.out.cell (World.block_lt_of_cell? w _ hw573_0)).trans hw573_0), ((HB.out.cell (World.block_lt_of_cell? w _ hw575_0)).trans hw575_0), ((HB.out.cell (World.block_lt_of_cell? w _ hw577_0)).trans hw577_0), ((HB.out.cell (World.block_lt_of_cell? w _ hw579_0)).trans hw579_0), ((HB.out.cell (World.block_lt_of_cell? w _ hw581_0)).trans hw581_0), ((HB.out.cell (World.block_lt_of_cell? w _ hw583_0)).trans hw583_0), ((HB.out.cell (World.block_lt_of_cell? w _ hw585_0)).trans hw585_0), ((HB.out.cell (World.block_lt_of_cell? w _ hw587_0)).trans hw587_0), ((HB.out.cell (World.block_lt_of_cell? w _ hw589_0)).trans hw589_0), ((HB.out.cell (World.block_lt_of_cell? w _ hw591_0)).trans hw591_0)⟩ (fun hHeld => ?_)
     clear hK K
     refine norm_ (a' := ?_) ?_ ?_
     rotate_left
     ·show Act.put _ (some 26) _ = _
      simp only [Act.put, List.setIfInBounds_toArray, List.set_cons_zero, List.set_cons_succ, i64_w, i32_w]
      rfl
     refine pure_ (i := 7) (N := some 27) (v := ?_) (a' := ?_) (bb [8, 1, 3, 3, 3, 3, 3, 3, 3, 3, 3, 3, 3, 3, 3, 3, 3, 3, 3, 3]) rfl rfl (any_of HT_.out (by kernel_rfl)) (fun _ _ _ h => h) (Or.inl ⟨by rfl, ?_⟩) ?_ ?_
     rotate_left
     ·intro w'
      go_simp
      with_reducible rfl
     rotate_left
     ·simp only [Act.put, List.setIfInBounds_toArray, List.set_cons_zero, List.set_cons_succ, i64_w, i32_w]
      rfl
     refine pure_ (i := 8) (N := some 28) (v := ?_) (a' := ?_) (bb [12, 3, 3, 3, 3, 3, 3, 3, 3, 3, 3, 3, 3, 3, 3, 3, 3, 3]) rfl rfl (any_of HT_.out (by kernel_rfl)) (fun _ _ _ h => h) (Or.inl ⟨by rfl, ?_⟩) ?_ ?_
     rotate_left
     ·intro w'
      go_simp
      with_reducible rfl
     rotate_left
     ·simp only [Act.put, List.setIfInBounds_toArray, List.set_cons_zero, List.set_cons_succ, i64_w, i32_w]
      rfl
     refine one_ (i := 12) (N := some 32) (bb [13, 2, 3, 3, 3, 3, 3, 3, 3, 3, 3, 3, 3, 3, 3, 3, 3, 3]) rfl rfl (one_of HT_.out (by kernel_rfl)) (by decide) (fun K hK => ?_)
     refine goes_ Tryz.func105 (by kernel_rfl) rfl #[.int .u64 (rd ((rd_T31 l0 x14_1).f1) 1), .int .i64 8] (by rfl) rfl rfl (by (try simp only [List.map_toArray, List.map_cons, List.map_nil]); first | done | rfl | (simp only [List.length_drop, List.length_take]; rfl)) ?_
     with_reducible refine (spec_upper.calls k1 (rd ((rd_T31 l0 x14_1).f1) 1) 8 t576 _ A14.out).mono ?_
     rintro e w56 ⟨rfl, hb⟩
     refine ⟨_, rfl, ?_⟩
     have n0_ := Aside0.mk (blk_below (g := gb572) (o := .cells #[.string ((rd_T31 l0 x14_1).f0), .slice (some ad573) ((rd_T31 l0 x14_1).f1).length c571_1, .slice A571_2 ((rd_T31 l0 x14_1).f2).length c571_2] 31 (0, 0)) (by (with_reducible repeat (first | refine blk_drewN ?_ _ | refine blk_drew ?_ | refine blk_alloc ?_ _)); exact BK572.out) hb)
     have n1_ := Aside0.mk (below_step (by repeat (first | (with_reducible first | exact HB.out | apply below_alloc | apply pw_below_drewN | apply below_drew1 | refine below_set ?_ GE572.out) | exact HB.out)) hb)
     clear BK572
     clear HB
     have BK572 := n0_
     have HB := n1_
     clear n0_ n1_
     (try clear hb)
     (try clear hb2)
     (try clear hk)
     (try clear hi)
     refine hK.out _ _ ⟨(blk_cell BK572.out 0).trans rfl, (blk_cell BK572.out 1).trans rfl, (blk_cell BK572.out 2).trans rfl, ((HB.out.cell (World.block_lt_of_cell? w _ hw573_0)).trans hw573_0), ((HB.out.cell (World.block_lt_of_cell? w _ hw575_0)).trans hw575_0), ((HB.out.cell (World.block_lt_of_cell? w _ hw577_0)).trans hw577_0), ((HB.out.cell (World.block_lt_of_cell? w _ hw579_0)).trans hw579_0), ((HB.out.cell (World.block_lt_of_cell? w _ hw581_0)).trans hw581_0), ((HB.out.cell (World.block_lt_of_cell? w _ hw583_0)).trans hw583_0), ((HB.out.cell (World.block_lt_of_cell? w _ hw585_0)).trans hw585_0), ((HB.out.cell (World.block_lt_of_cell? w _ hw587_0)).trans hw587_0), ((HB.out.cell (World.block_lt_of_cell? w _ hw589_0)).trans hw589_0), ((HB.out.cell (World.block_lt_of_cell? w _ hw591_0)).trans hw591_0)⟩ (fun hHeld => ?_)
     clear hK K
     refine norm_ (a' := ?_) ?_ ?_
     rotate_left
     ·show Act.put _ (some 32) _ = _
      simp only [Act.put, List.setIfInBounds_toArray, List.set_cons_zero, List.set_cons_succ, i64_w, i32_w]
      rfl
     refine pure_ (i := 13) (N := some 33) (v := ?_) (a' := ?_) (bb [14, 1, 3, 3, 3, 3, 3, 3, 3, 3, 3, 3, 3, 3, 3, 3, 3, 3]) rfl rfl (any_of HT_.out (by kernel_rfl)) (fun _ _ _ h => h) (Or.inl ⟨by rfl, ?_⟩) ?_ ?_
     rotate_left
     ·intro w'
      go_simp
      with_reducible rfl
     rotate_left
     ·simp only [Act.put, List.setIfInBounds_toArray, List.set_cons_zero, List.set_cons_succ, i64_w, i32_w]
      rfl
     refine pure_ (i := 14) (N := some 34) (v := ?_) (a' := ?_) (bb [18, 3, 3, 3, 3, 3, 3, 3, 3, 3, 3, 3, 3, 3, 3, 3]) rfl rfl (any_of HT_.out (by kernel_rfl)) (fun _ _ _ h => h) (Or.inl ⟨by rfl, ?_⟩) ?_ ?_
     rotate_left
     ·intro w'
      go_simp
      with_reducible rfl
     rotate_left
     ·simp only [Act.put, List.setIfInBounds_toArray, List.set_cons_zero, List.set_cons_succ, i64_w, i32_w]
      rfl
     refine one_ (i := 18) (N := some 38) (bb [19, 2, 3, 3, 3, 3, 3, 3, 3, 3, 3, 3, 3, 3, 3, 3]) rfl rfl (one_of HT_.out (by kernel_rfl)) (by decide) (fun K hK => ?_)
     refine goes_ Tryz.func105 (by kernel_rfl) rfl #[.int .u64 (rd ((rd_T31 l0 x14_1).f1) 2), .int .i64 4] (by rfl) rfl rfl (by (try simp only [List.map_toArray, List.map_cons, List.map_nil]); first | done | rfl | (simp only [List.length_drop, List.length_take]; rfl)) ?_
     with_reducible refine (spec_upper.calls k1 (rd ((rd_T31 l0 x14_1).f1) 2) 4 t578 _ A18.out).mono ?_
     rintro e w57 ⟨rfl, hb⟩
     refine ⟨_, rfl, ?_⟩
     have n0_ := Aside0.mk (blk_below (g := gb572) (o := .cells #[.string ((rd_T31 l0 x14_1).f0), .slice (some ad573) ((rd_T31 l0 x14_1).f1).length c571_1, .slice A571_2 ((rd_T31 l0 x14_1).f2).length c571_2] 31 (0, 0)) (by (with_reducible repeat (first | refine blk_drewN ?_ _ | refine blk_drew ?_ | refine blk_alloc ?_ _)); exact BK572.out) hb)
     have n1_ := Aside0.mk (below_step (by repeat (first | (with_reducible first | exact HB.out | apply below_alloc | apply pw_below_drewN | apply below_drew1 | refine below_set ?_ GE572.out) | exact HB.out)) hb)
     clear BK572
     clear HB
     have BK572 := n0_
     have HB := n1_
     clear n0_ n1_
     (try clear hb)
     (try clear hb2)
     (try clear hk)
     (try clear hi)
     refine hK.out _ _ ⟨(blk_cell BK572.out 0).trans rfl, (blk_cell BK572.out 1).trans rfl, (blk_cell BK572.out 2).trans rfl, ((HB.out.cell (World.block_lt_of_cell? w _ hw573_0)).trans hw573_0), ((HB.out.cell (World.block_lt_of_cell? w _ hw575_0)).trans hw575_0), ((HB.out.cell (World.block_lt_of_cell? w _ hw577_0)).trans hw577_0), ((HB.out.cell (World.block_lt_of_cell? w _ hw579_0)).trans hw579_0), ((HB.out.cell (World.block_lt_of_cell? w _ hw581_0)).trans hw581_0), ((HB.out.cell (World.block_lt_of_cell? w _ hw583_0)).trans hw583_0), ((HB.out.cell (World.block_lt_of_cell? w _ hw585_0)).trans hw585_0), ((HB.out.cell (World.block_lt_of_cell? w _ hw587_0)).trans hw587_0), ((HB.out.cell (World.block_lt_of_cell? w _ hw589_0)).trans hw589_0), ((HB.out.cell (World.block_lt_of_cell? w _ hw591_0)).trans hw591_0)⟩ (fun hHeld => ?_)
     clear hK K
     refine norm_ (a' := ?_) ?_ ?_
     rotate_left
     ·show Act.put _ (some 38) _ = _
      simp only [Act.put, List.setIfInBounds_toArray, List.set_cons_zero, List.set_cons_succ, i64_w, i32_w]
      rfl
     refine pure_ (i := 19) (N := some 39) (v := ?_) (a' := ?_) (bb [20, 1, 3, 3, 3, 3, 3, 3, 3, 3, 3, 3, 3, 3, 3, 3]) rfl rfl (any_of HT_.out (by kernel_rfl)) (fun _ _ _ h => h) (Or.inl ⟨by rfl, ?_⟩) ?_ ?_
     rotate_left
     ·intro w'
      go_simp
      with_reducible rfl
     rotate_left
     ·simp only [Act.put, List.setIfInBounds_toArray, List.set_cons_zero, List.set_cons_succ, i64_w, i32_w]
      rfl
     refine pure_ (i := 20) (N := some 40) (v := ?_) (a' := ?_) (bb [24, 3, 3, 3, 3, 3, 3, 3, 3, 3, 3, 3, 3, 3]) rfl rfl (any_of HT_.out (by kernel_rfl)) (fun _ _ _ h => h) (Or.inl ⟨by rfl, ?_⟩) ?_ ?_
     rotate_left
     ·intro w'
      go_simp
      with_reducible rfl
     rotate_left
     ·simp only [Act.put, List.setIfInBounds_toArray, List.set_cons_zero, List.set_cons_succ, i64_w, i32_w]
      rfl
     refine one_ (i := 24) (N := some 44) (bb [25, 2, 3, 3, 3, 3, 3, 3, 3, 3, 3, 3, 3, 3]) rfl rfl (one_of HT_.out (by kernel_rfl)) (by decide) (fun K hK => ?_)
     refine goes_ Tryz.func52 (by kernel_rfl) rfl #[.int .u64 (rd ((rd_T31 l0 x14_1).f1) 3)] (by rfl) rfl rfl (by (try simp only [List.map_toArray, List.map_cons, List.map_nil]); first | done | rfl | (simp only [List.length_drop, List.length_take]; rfl)) ?_
     with_reducible refine (spec_Text.calls k1 (rd ((rd_T31 l0 x14_1).f1) 3) t580 _ A22.out).mono ?_
     rintro e w58 ⟨rfl, hb⟩
     refine ⟨_, rfl, ?_⟩
     have n0_ := Aside0.mk (blk_below (g := gb572) (o := .cells #[.string ((rd_T31 l0 x14_1).f0), .slice (some ad573) ((rd_T31 l0 x14_1).f1).length c571_1, .slice A571_2 ((rd_T31 l0 x14_1).f2).length c571_2] 31 (0, 0)) (by (with_reducible repeat (first | refine blk_drewN ?_ _ | refine blk_drew ?_ | refine blk_alloc ?_ _)); exact BK572.out) hb)
     have n1_ := Aside0.mk (below_step (by repeat (first | (with_reducible first | exact HB.out | apply below_alloc | apply pw_below_drewN | apply below_drew1 | refine below_set ?_ GE572.out) | exact HB.out)) hb)
     clear BK572
     clear HB
     have BK572 := n0_
     have HB := n1_
     clear n0_ n1_
     (try clear hb)
     (try clear hb2)
     (try clear hk)
     (try clear hi)
     refine hK.out _ _ ⟨(blk_cell BK572.out 0).trans rfl, (blk_cell BK572.out 1).trans rfl, (blk_cell BK572.out 2).trans rfl, ((HB.out.cell (World.block_lt_of_cell? w _ hw573_0)).trans hw573_0), ((HB.out.cell (World.block_lt_of_cell? w _ hw575_0)).trans hw575_0), ((HB.out.cell (World.block_lt_of_cell? w _ hw577_0)).trans hw577_0), ((HB.out.cell (World.block_lt_of_cell? w _ hw579_0)).trans hw579_0), ((HB.out.cell (World.block_lt_of_cell? w _ hw581_0)).trans hw581_0), ((HB.out.cell (World.block_lt_of_cell? w _ hw583_0)).trans hw583_0), ((HB.out.cell (World.block_lt_of_cell? w _ hw585_0)).trans hw585_0), ((HB.out.cell (World.block_lt_of_cell? w _ hw587_0)).trans hw587_0), ((HB.out.cell (World.block_lt_of_cell? w _ hw589_0)).trans hw589_0), ((HB.out.cell (World.block_lt_of_cell? w _ hw591_0)).trans hw591_0)⟩ (fun hHeld => ?_)
     clear hK K
     refine norm_ (a' := ?_) ?_ ?_
     rotate_left
     ·show Act.put _ (some 44) _ = _
      simp only [Act.put, List.setIfInBounds_toArray, List.set_cons_zero, List.set_cons_succ, i64_w, i32_w]
      rfl
     refine pure_ (i := 25) (N := some 45) (v := ?_) (a' := ?_) (bb [26, 1, 3, 3, 3, 3, 3, 3, 3, 3, 3, 3, 3, 3]) rfl rfl (any_of HT_.out (by kernel_rfl)) (fun _ _ _ h => h) (Or.inl ⟨by rfl, ?_⟩) ?_ ?_
     rotate_left
     ·intro w'
      go_simp
      with_reducible rfl
     rotate_left
     ·simp only [Act.put, List.setIfInBounds_toArray, List.set_cons_zero, List.set_cons_succ, i64_w, i32_w]
      rfl
     refine pure_ (i := 26) (N := some 46) (v := ?_) (a' := ?_) (bb [30, 3, 3, 3, 3, 3, 3, 3, 3, 3, 3, 3]) rfl rfl (any_of HT_.out (by kernel_rfl)) (fun _ _ _ h => h) (Or.inl ⟨by rfl, ?_⟩) ?_ ?_
     rotate_left
     ·intro w'
      go_simp
      with_reducible rfl
     rotate_left
     ·simp only [Act.put, List.setIfInBounds_toArray, List.set_cons_zero, List.set_cons_succ, i64_w, i32_w]
      rfl
     refine one_ (i := 30) (N := some 50) (bb [31, 2, 3, 3, 3, 3, 3, 3, 3, 3, 3, 3]) rfl rfl (one_of HT_.out (by kernel_rfl)) (by decide) (fun K hK => ?_)
     refine goes_ Tryz.func52 (by kernel_rfl) rfl #[.int .u64 (rd ((rd_T31 l0 x14_1).f1) 4)] (by rfl) rfl rfl (by (try simp only [List.map_toArray, List.map_cons, List.map_nil]); first | done | rfl | (simp only [List.length_drop, List.length_take]; rfl)) ?_
     with_reducible refine (spec_Text.calls k1 (rd ((rd_T31 l0 x14_1).f1) 4) t582 _ A26.out).mono ?_
     rintro e w59 ⟨rfl, hb⟩
     refine ⟨_, rfl, ?_⟩
     have n0_ := Aside0.mk (blk_below (g := gb572) (o := .cells #[.string ((rd_T31 l0 x14_1).f0), .slice (some ad573) ((rd_T31 l0 x14_1).f1).length c571_1, .slice A571_2 ((rd_T31 l0 x14_1).f2).length c571_2] 31 (0, 0)) (by (with_reducible repeat (first | refine blk_drewN ?_ _ | refine blk_drew ?_ | refine blk_alloc ?_ _)); exact BK572.out) hb)
     have n1_ := Aside0.mk (below_step (by repeat (first | (with_reducible first | exact HB.out | apply below_alloc | apply pw_below_drewN | apply below_drew1 | refine below_set ?_ GE572.out) | exact HB.out)) hb)
     clear BK572
     clear HB
     have BK572 := n0_
     have HB := n1_
     clear n0_ n1_
     (try clear hb)
     (try clear hb2)
     (try clear hk)
     (try clear hi)
     refine hK.out _ _ ⟨(blk_cell BK572.out 0).trans rfl, (blk_cell BK572.out 1).trans rfl, (blk_cell BK572.out 2).trans rfl, ((HB.out.cell (World.block_lt_of_cell? w _ hw573_0)).trans hw573_0), ((HB.out.cell (World.block_lt_of_cell? w _ hw575_0)).trans hw575_0), ((HB.out.cell (World.block_lt_of_cell? w _ hw577_0)).trans hw577_0), ((HB.out.cell (World.block_lt_of_cell? w _ hw579_0)).trans hw579_0), ((HB.out.cell (World.block_lt_of_cell? w _ hw581_0)).trans hw581_0), ((HB.out.cell (World.block_lt_of_cell? w _ hw583_0)).trans hw583_0), ((HB.out.cell (World.block_lt_of_cell? w _ hw585_0)).trans hw585_0), ((HB.out.cell (World.block_lt_of_cell? w _ hw587_0)).trans hw587_0), ((HB.out.cell (World.block_lt_of_cell? w _ hw589_0)).trans hw589_0), ((HB.out.cell (World.block_lt_of_cell? w _ hw591_0)).trans hw591_0)⟩ (fun hHeld => ?_)
     clear hK K
     refine norm_ (a' := ?_) ?_ ?_
     rotate_left
     ·show Act.put _ (some 50) _ = _
      simp only [Act.put, List.setIfInBounds_toArray, List.set_cons_zero, List.set_cons_succ, i64_w, i32_w]
      rfl
     refine pure_ (i := 31) (N := some 51) (v := ?_) (a' := ?_) (bb [32, 1, 3, 3, 3, 3, 3, 3, 3, 3, 3, 3]) rfl rfl (any_of HT_.out (by kernel_rfl)) (fun _ _ _ h => h) (Or.inl ⟨by rfl, ?_⟩) ?_ ?_
     rotate_left
     ·intro w'
      go_simp
      with_reducible rfl
     rotate_left
     ·simp only [Act.put, List.setIfInBounds_toArray, List.set_cons_zero, List.set_cons_succ, i64_w, i32_w]
      rfl
     refine pure_ (i := 32) (N := some 52) (v := ?_) (a' := ?_) (bb [36, 3, 3, 3, 3, 3, 3, 3, 3, 3]) rfl rfl (any_of HT_.out (by kernel_rfl)) (fun _ _ _ h => h) (Or.inl ⟨by rfl, ?_⟩) ?_ ?_
     rotate_left
     ·intro w'
      go_simp
      with_reducible rfl
     rotate_left
     ·simp only [Act.put, List.setIfInBounds_toArray, List.set_cons_zero, List.set_cons_succ, i64_w, i32_w]
      rfl
     refine one_ (i := 36) (N := some 56) (bb [37, 2, 3, 3, 3, 3, 3, 3, 3, 3]) rfl rfl (one_of HT_.out (by kernel_rfl)) (by decide) (fun K hK => ?_)
     refine goes_ Tryz.func52 (by kernel_rfl) rfl #[.int .u64 (rd ((rd_T31 l0 x14_1).f1) 5)] (by rfl) rfl rfl (by (try simp only [List.map_toArray, List.map_cons, List.map_nil]); first | done | rfl | (simp only [List.length_drop, List.length_take]; rfl)) ?_
     with_reducible refine (spec_Text.calls k1 (rd ((rd_T31 l0 x14_1).f1) 5) t584 _ A30.out).mono ?_
     rintro e w60 ⟨rfl, hb⟩
     refine ⟨_, rfl, ?_⟩
     have n0_ := Aside0.mk (blk_below (g := gb572) (o := .cells #[.string ((rd_T31 l0 x14_1).f0), .slice (some ad573) ((rd_T31 l0 x14_1).f1).length c571_1, .slice A571_2 ((rd_T31 l0 x14_1).f2).length c571_2] 31 (0, 0)) (by (with_reducible repeat (first | refine blk_drewN ?_ _ | refine blk_drew ?_ | refine blk_alloc ?_ _)); exact BK572.out) hb)
     have n1_ := Aside0.mk (below_step (by repeat (first | (with_reducible first | exact HB.out | apply below_alloc | apply pw_below_drewN | apply below_drew1 | refine below_set ?_ GE572.out) | exact HB.out)) hb)
     clear BK572
     clear HB
     have BK572 := n0_
     have HB := n1_
     clear n0_ n1_
     (try clear hb)
     (try clear hb2)
     (try clear hk)
     (try clear hi)
     refine hK.out _ _ ⟨(blk_cell BK572.out 0).trans rfl, (blk_cell BK572.out 1).trans rfl, (blk_cell BK572.out 2).trans rfl, ((HB.out.cell (World.block_lt_of_cell? w _ hw573_0)).trans hw573_0), ((HB.out.cell (World.block_lt_of_cell? w _ hw575_0)).trans hw575_0), ((HB.out.cell (World.block_lt_of_cell? w _ hw577_0)).trans hw577_0), ((HB.out.cell (World.block_lt_of_cell? w _ hw579_0)).trans hw579_0), ((HB.out.cell (World.block_lt_of_cell? w _ hw581_0)).trans hw581_0), ((HB.out.cell (World.block_lt_of_cell? w _ hw583_0)).trans hw583_0), ((HB.out.cell (World.block_lt_of_cell? w _ hw585_0)).trans hw585_0), ((HB.out.cell (World.block_lt_of_cell? w _ hw587_0)).trans hw587_0), ((HB.out.cell (World.block_lt_of_cell? w _ hw589_0)).trans hw589_0), ((HB.out.cell (World.block_lt_of_cell? w _ hw591_0)).trans hw591_0)⟩ (fun hHeld => ?_)
     clear hK K
     refine norm_ (a' := ?_) ?_ ?_
     rotate_left
     ·show Act.put _ (some 56) _ = _
      simp only [Act.put, List.setIfInBounds_toArray, List.set_cons_zero, List.set_cons_succ, i64_w, i32_w]
      rfl
     refine pure_ (i := 37) (N := some 57) (v := ?_) (a' := ?_) (bb [38, 1, 3, 3, 3, 3, 3, 3, 3, 3]) rfl rfl (any_of HT_.out (by kernel_rfl)) (fun _ _ _ h => h) (Or.inl ⟨by rfl, ?_⟩) ?_ ?_
     rotate_left
     ·intro w'
      go_simp
      with_reducible rfl
     rotate_left
     ·simp only [Act.put, List.setIfInBounds_toArray, List.set_cons_zero, List.set_cons_succ, i64_w, i32_w]
      rfl
     refine pure_ (i := 38) (N := some 58) (v := ?_) (a' := ?_) (bb [42, 3, 3, 3, 3, 3, 3, 3]) rfl rfl (any_of HT_.out (by kernel_rfl)) (fun _ _ _ h => h) (Or.inl ⟨by rfl, ?_⟩) ?_ ?_
     rotate_left
     ·intro w'
      go_simp
      with_reducible rfl
     rotate_left
     ·simp only [Act.put, List.setIfInBounds_toArray, List.set_cons_zero, List.set_cons_succ, i64_w, i32_w]
      rfl
     refine one_ (i := 42) (N := some 62) (bb [43, 2, 3, 3, 3, 3, 3, 3]) rfl rfl (one_of HT_.out (by kernel_rfl)) (by decide) (fun K hK => ?_)
     refine goes_ Tryz.func105 (by kernel_rfl) rfl #[.int .u64 (rd ((rd_T31 l0 x14_1).f1) 6), .int .i64 8] (by rfl) rfl rfl (by (try simp only [List.map_toArray, List.map_cons, List.map_nil]); first | done | rfl | (simp only [List.length_drop, List.length_take]; rfl)) ?_
     with_reducible refine (spec_upper.calls k1 (rd ((rd_T31 l0 x14_1).f1) 6) 8 t586 _ A34.out).mono ?_
     rintro e w61 ⟨rfl, hb⟩
     refine ⟨_, rfl, ?_⟩
     have n0_ := Aside0.mk (blk_below (g := gb572) (o := .cells #[.string ((rd_T31 l0 x14_1).f0), .slice (some ad573) ((rd_T31 l0 x14_1).f1).length c571_1, .slice A571_2 ((rd_T31 l0 x14_1).f2).length c571_2] 31 (0, 0)) (by (with_reducible repeat (first | refine blk_drewN ?_ _ | refine blk_drew ?_ | refine blk_alloc ?_ _)); exact BK572.out) hb)
     have n1_ := Aside0.mk (below_step (by repeat (first | (with_reducible first | exact HB.out | apply below_alloc | apply pw_below_drewN | apply below_drew1 | refine below_set ?_ GE572.out) | exact HB.out)) hb)
     clear BK572
     clear HB
     have BK572 := n0_
     have HB := n1_
     clear n0_ n1_
     (try clear hb)
     (try clear hb2)
     (try clear hk)
     (try clear hi)
     refine hK.out _ _ ⟨(blk_cell BK572.out 0).trans rfl, (blk_cell BK572.out 1).trans rfl, (blk_cell BK572.out 2).trans rfl, ((HB.out.cell (World.block_lt_of_cell? w _ hw573_0)).trans hw573_0), ((HB.out.cell (World.block_lt_of_cell? w _ hw575_0)).trans hw575_0), ((HB.out.cell (World.block_lt_of_cell? w _ hw577_0)).trans hw577_0), ((HB.out.cell (World.block_lt_of_cell? w _ hw579_0)).trans hw579_0), ((HB.out.cell (World.block_lt_of_cell? w _ hw581_0)).trans hw581_0), ((HB.out.cell (World.block_lt_of_cell? w _ hw583_0)).trans hw583_0), ((HB.out.cell (World.block_lt_of_cell? w _ hw585_0)).trans hw585_0), ((HB.out.cell (World.block_lt_of_cell? w _ hw587_0)).trans hw587_0), ((HB.out.cell (World.block_lt_of_cell? w _ hw589_0)).trans hw589_0), ((HB.out.cell (World.block_lt_of_cell? w _ hw591_0)).trans hw591_0)⟩ (fun hHeld => ?_)
     clear hK K
     refine norm_ (a' := ?_) ?_ ?_
     rotate_left
     ·show Act.put _ (some 62) _ = _
      simp only [Act.put, List.setIfInBounds_toArray, List.set_cons_zero, List.set_cons_succ, i64_w, i32_w]
      rfl
     refine pure_ (i := 43) (N := some 63) (v := ?_) (a' := ?_) (bb [44, 1, 3, 3, 3, 3, 3, 3]) rfl rfl (any_of HT_.out (by kernel_rfl)) (fun _ _ _ h => h) (Or.inl ⟨by rfl, ?_⟩) ?_ ?_
     rotate_left
     ·intro w'
      go_simp
      with_reducible rfl
     rotate_left
     ·simp only [Act.put, List.setIfInBounds_toArray, List.set_cons_zero, List.set_cons_succ, i64_w, i32_w]
      rfl
     refine pure_ (i := 44) (N := some 64) (v := ?_) (a' := ?_) (bb [48, 3, 3, 3, 3, 3]) rfl rfl (any_of HT_.out (by kernel_rfl)) (fun _ _ _ h => h) (Or.inl ⟨by rfl, ?_⟩) ?_ ?_
     rotate_left
     ·intro w'
      go_simp
      with_reducible rfl
     rotate_left
     ·simp only [Act.put, List.setIfInBounds_toArray, List.set_cons_zero, List.set_cons_succ, i64_w, i32_w]
      rfl
     refine one_ (i := 48) (N := some 68) (bb [49, 2, 3, 3, 3, 3]) rfl rfl (one_of HT_.out (by kernel_rfl)) (by decide) (fun K hK => ?_)
     refine goes_ Tryz.func52 (by kernel_rfl) rfl #[.int .u64 (rd ((rd_T31 l0 x14_1).f1) 7)] (by rfl) rfl rfl (by (try simp only [List.map_toArray, List.map_cons, List.map_nil]); first | done | rfl | (simp only [List.length_drop, List.length_take]; rfl)) ?_
     with_reducible refine (spec_Text.calls k1 (rd ((rd_T31 l0 x14_1).f1) 7) t588 _ A38.out).mono ?_
     rintro e w62 ⟨rfl, hb⟩
     refine ⟨_, rfl, ?_⟩
     have n0_ := Aside0.mk (blk_below (g := gb572) (o := .cells #[.string ((rd_T31 l0 x14_1).f0), .slice (some ad573) ((rd_T31 l0 x14_1).f1).length c571_1, .slice A571_2 ((rd_T31 l0 x14_1).f2).length c571_2] 31 (0, 0)) (by (with_reducible repeat (first | refine blk_drewN ?_ _ | refine blk_drew ?_ | refine blk_alloc ?_ _)); exact BK572.out) hb)
     have n1_ := Aside0.mk (below_step (by repeat (first | (with_reducible first | exact HB.out | apply below_alloc | apply pw_below_drewN | apply below_drew1 | refine below_set ?_ GE572.out) | exact HB.out)) hb)
     clear BK572
     clear HB
     have BK572 := n0_
     have HB := n1_
     clear n0_ n1_
     (try clear hb)
     (try clear hb2)
     (try clear hk)
     (try clear hi)
     refine hK.out _ _ ⟨(blk_cell BK572.out 0).trans rfl, (blk_cell BK572.out 1).trans rfl, (blk_cell BK572.out 2).trans rfl, ((HB.out.cell (World.block_lt_of_cell? w _ hw573_0)).trans hw573_0), ((HB.out.cell (World.block_lt_of_cell? w _ hw575_0)).trans hw575_0), ((HB.out.cell (World.block_lt_of_cell? w _ hw577_0)).trans hw577_0), ((HB.out.cell (World.block_lt_of_cell? w _ hw579_0)).trans hw579_0), ((HB.out.cell (World.block_lt_of_cell? w _ hw581_0)).trans hw581_0), ((HB.out.cell (World.block_lt_of_cell? w _ hw583_0)).trans hw583_0), ((HB.out.cell (World.block_lt_of_cell? w _ hw585_0)).trans hw585_0), ((HB.out.cell (World.block_lt_of_cell? w _ hw587_0)).trans hw587_0), ((HB.out.cell (World.block_lt_of_cell? w _ hw589_0)).trans hw589_0), ((HB.out.cell (World.block_lt_of_cell? w _ hw591_0)).trans hw591_0)⟩ (fun hHeld => ?_)
     clear hK K
     refine norm_ (a' := ?_) ?_ ?_
     rotate_left
     ·show Act.put _ (some 68) _ = _
      simp only [Act.put, List.setIfInBounds_toArray, List.set_cons_zero, List.set_cons_succ, i64_w, i32_w]
      rfl
     refine pure_ (i := 49) (N := some 69) (v := ?_) (a' := ?_) (bb [50, 1, 3, 3, 3, 3]) rfl rfl (any_of HT_.out (by kernel_rfl)) (fun _ _ _ h => h) (Or.inl ⟨by rfl, ?_⟩) ?_ ?_
     rotate_left
     ·intro w'
      go_simp
      with_reducible rfl
     rotate_left
     ·simp only [Act.put, List.setIfInBounds_toArray, List.set_cons_zero, List.set_cons_succ, i64_w, i32_w]
      rfl
     refine pure_ (i := 50) (N := some 70) (v := ?_) (a' := ?_) (bb [54, 3, 3, 3]) rfl rfl (any_of HT_.out (by kernel_rfl)) (fun _ _ _ h => h) (Or.inl ⟨by rfl, ?_⟩) ?_ ?_
     rotate_left
     ·intro w'
      go_simp
      with_reducible rfl
     rotate_left
     ·simp only [Act.put, List.setIfInBounds_toArray, List.set_cons_zero, List.set_cons_succ, i64_w, i32_w]
      rfl
     refine one_ (i := 54) (N := some 74) (bb [55, 2, 3, 3]) rfl rfl (one_of HT_.out (by kernel_rfl)) (by decide) (fun K hK => ?_)
     refine goes_ Tryz.func52 (by kernel_rfl) rfl #[.int .u64 (rd ((rd_T31 l0 x14_1).f1) 8)] (by rfl) rfl rfl (by (try simp only [List.map_toArray, List.map_cons, List.map_nil]); first | done | rfl | (simp only [List.length_drop, List.length_take]; rfl)) ?_
     with_reducible refine (spec_Text.calls k1 (rd ((rd_T31 l0 x14_1).f1) 8) t590 _ A42.out).mono ?_
     rintro e w63 ⟨rfl, hb⟩
     refine ⟨_, rfl, ?_⟩
     have n0_ := Aside0.mk (blk_below (g := gb572) (o := .cells #[.string ((rd_T31 l0 x14_1).f0), .slice (some ad573) ((rd_T31 l0 x14_1).f1).length c571_1, .slice A571_2 ((rd_T31 l0 x14_1).f2).length c571_2] 31 (0, 0)) (by (with_reducible repeat (first | refine blk_drewN ?_ _ | refine blk_drew ?_ | refine blk_alloc ?_ _)); exact BK572.out) hb)
     have n1_ := Aside0.mk (below_step (by repeat (first | (with_reducible first | exact HB.out | apply below_alloc | apply pw_below_drewN | apply below_drew1 | refine below_set ?_ GE572.out) | exact HB.out)) hb)
     clear BK572
     clear HB
     have BK572 := n0_
     have HB := n1_
     clear n0_ n1_
     (try clear hb)
     (try clear hb2)
     (try clear hk)
     (try clear hi)
     refine hK.out _ _ ⟨(blk_cell BK572.out 0).trans rfl, (blk_cell BK572.out 1).trans rfl, (blk_cell BK572.out 2).trans rfl, ((HB.out.cell (World.block_lt_of_cell? w _ hw573_0)).trans hw573_0), ((HB.out.cell (World.block_lt_of_cell? w _ hw575_0)).trans hw575_0), ((HB.out.cell (World.block_lt_of_cell? w _ hw577_0)).trans hw577_0), ((HB.out.cell (World.block_lt_of_cell? w _ hw579_0)).trans hw579_0), ((HB.out.cell (World.block_lt_of_cell? w _ hw581_0)).trans hw581_0), ((HB.out.cell (World.block_lt_of_cell? w _ hw583_0)).trans hw583_0), ((HB.out.cell (World.block_lt_of_cell? w _ hw585_0)).trans hw585_0), ((HB.out.cell (World.block_lt_of_cell? w _ hw587_0)).trans hw587_0), ((HB.out.cell (World.block_lt_of_cell? w _ hw589_0)).trans hw589_0), ((HB.out.cell (World.block_lt_of_cell? w _ hw591_0)).trans hw591_0)⟩ (fun hHeld => ?_)
     clear hK K
     refine norm_ (a' := ?_) ?_ ?_
     rotate_left
     ·show Act.put _ (some 74) _ = _
      simp only [Act.put, List.setIfInBounds_toArray, List.set_cons_zero, List.set_cons_succ, i64_w, i32_w]
      rfl
     refine pure_ (i := 55) (N := some 75) (v := ?_) (a' := ?_) (bb [56, 1, 3, 3]) rfl rfl (any_of HT_.out (by kernel_rfl)) (fun _ _ _ h => h) (Or.inl ⟨by rfl, ?_⟩) ?_ ?_
     rotate_left
     ·intro w'
      go_simp
      with_reducible rfl
     rotate_left
     ·simp only [Act.put, List.setIfInBounds_toArray, List.set_cons_zero, List.set_cons_succ, i64_w, i32_w]
      rfl
     refine pure_ (i := 56) (N := some 76) (v := ?_) (a' := ?_) (bb [60, 3]) rfl rfl (any_of HT_.out (by kernel_rfl)) (fun _ _ _ h => h) (Or.inl ⟨by rfl, ?_⟩) ?_ ?_
     rotate_left
     ·intro w'
      go_simp
      with_reducible rfl
     rotate_left
     ·simp only [Act.put, List.setIfInBounds_toArray, List.set_cons_zero, List.set_cons_succ, i64_w, i32_w]
      rfl
     refine one_ (i := 60) (N := some 80) (bb [61, 2]) rfl rfl (one_of HT_.out (by kernel_rfl)) (by decide) (fun K hK => ?_)
     refine goes_ Tryz.func52 (by kernel_rfl) rfl #[.int .u64 (rd ((rd_T31 l0 x14_1).f1) 9)] (by rfl) rfl rfl (by (try simp only [List.map_toArray, List.map_cons, List.map_nil]); first | done | rfl | (simp only [List.length_drop, List.length_take]; rfl)) ?_
     with_reducible refine (spec_Text.calls k1 (rd ((rd_T31 l0 x14_1).f1) 9) t592 _ A46.out).mono ?_
     rintro e w64 ⟨rfl, hb⟩
     refine ⟨_, rfl, ?_⟩
     have n0_ := Aside0.mk (blk_below (g := gb572) (o := .cells #[.string ((rd_T31 l0 x14_1).f0), .slice (some ad573) ((rd_T31 l0 x14_1).f1).length c571_1, .slice A571_2 ((rd_T31 l0 x14_1).f2).length c571_2] 31 (0, 0)) (by (with_reducible repeat (first | refine blk_drewN ?_ _ | refine blk_drew ?_ | refine blk_alloc ?_ _)); exact BK572.out) hb)
     have n1_ := Aside0.mk (below_step (by repeat (first | (with_reducible first | exact HB.out | apply below_alloc | apply pw_below_drewN | apply below_drew1 | refine below_set ?_ GE572.out) | exact HB.out)) hb)
     clear BK572
     clear HB
     have BK572 := n0_
     have HB := n1_
     clear n0_ n1_
     (try clear hb)
     (try clear hb2)
     (try clear hk)
     (try clear hi)
     refine hK.out _ _ ⟨(blk_cell BK572.out 0).trans rfl, (blk_cell BK572.out 1).trans rfl, (blk_cell BK572.out 2).trans rfl, ((HB.out.cell (World.block_lt_of_cell? w _ hw573_0)).trans hw573_0), ((HB.out.cell (World.block_lt_of_cell? w _ hw575_0)).trans hw575_0), ((HB.out.cell (World.block_lt_of_cell? w _ hw577_0)).trans hw577_0), ((HB.out.cell (World.block_lt_of_cell? w _ hw579_0)).trans hw579_0), ((HB.out.cell (World.block_lt_of_cell? w _ hw581_0)).trans hw581_0), ((HB.out.cell (World.block_lt_of_cell? w _ hw583_0)).trans hw583_0), ((HB.out.cell (World.block_lt_of_cell? w _ hw585_0)).trans hw585_0), ((HB.out.cell (World.block_lt_of_cell? w _ hw587_0)).trans hw587_0), ((HB.out.cell (World.block_lt_of_cell? w _ hw589_0)).trans hw589_0), ((HB.out.cell (World.block_lt_of_cell? w _ hw591_0)).trans hw591_0)⟩ (fun hHeld => ?_)
     clear hK K
     refine norm_ (a' := ?_) ?_ ?_
     rotate_left
     ·show Act.put _ (some 80) _ = _
      simp only [Act.put, List.setIfInBounds_toArray, List.set_cons_zero, List.set_cons_succ, i64_w, i32_w]
      rfl
     refine pure_ (i := 61) (N := some 81) (v := ?_) (a' := ?_) (bb [62, 1]) rfl rfl (any_of HT_.out (by kernel_rfl)) (fun _ _ _ h => h) (Or.inl ⟨by rfl, ?_⟩) ?_ ?_
     rotate_left
     ·intro w'
      go_simp
      with_reducible rfl
     rotate_left
     ·simp only [Act.put, List.setIfInBounds_toArray, List.set_cons_zero, List.set_cons_succ, i64_w, i32_w]
      rfl
     refine pure_ (i := 62) (N := some 8) (v := ?_) (a' := ?_) (bb [63]) rfl rfl (any_of HT_.out (by kernel_rfl)) (fun _ _ _ h => h) (Or.inl ⟨by rfl, ?_⟩) ?_ ?_
     rotate_left
     ·intro w'
      go_simp
      with_reducible rfl
     rotate_left
     ·simp only [Act.put, List.setIfInBounds_toArray, List.set_cons_zero, List.set_cons_succ, i64_w, i32_w]
      rfl
     refine done_ (done_of HT_.out (by kernel_rfl)) ?_
     try go_wp2_with (first | ((with_reducible refine gate_callee (f := 106) rfl ?_); refine goesL_ (some 84) rfl rfl Tryz.func106 (by kernel_rfl) rfl #[.string ((((((((((((((((((((((rd_T31 l0 x14_1).f0) ++ (⟨#[9]⟩ : ByteArray)) ++ t574) ++ (⟨#[9]⟩ : ByteArray)) ++ t576) ++ (⟨#[9]⟩ : ByteArray)) ++ t578) ++ (⟨#[9]⟩ : ByteArray)) ++ t580) ++ (⟨#[9]⟩ : ByteArray)) ++ t582) ++ (⟨#[9]⟩ : ByteArray)) ++ t584) ++ (⟨#[9]⟩ : ByteArray)) ++ t586) ++ (⟨#[9]⟩ : ByteArray)) ++ t588) ++ (⟨#[9]⟩ : ByteArray)) ++ t590) ++ (⟨#[9]⟩ : ByteArray)) ++ t592), .int .i64 127] rfl (by (try simp only [List.map_toArray, List.map_cons, List.map_nil]); first | done | rfl | (simp only [List.length_drop, List.length_take]; rfl)) ?_; (with_reducible refine (spec_Left.calls k1 ((((((((((((((((((((((rd_T31 l0 x14_1).f0) ++ (⟨#[9]⟩ : ByteArray)) ++ t574) ++ (⟨#[9]⟩ : ByteArray)) ++ t576) ++ (⟨#[9]⟩ : ByteArray)) ++ t578) ++ (⟨#[9]⟩ : ByteArray)) ++ t580) ++ (⟨#[9]⟩ : ByteArray)) ++ t582) ++ (⟨#[9]⟩ : ByteArray)) ++ t584) ++ (⟨#[9]⟩ : ByteArray)) ++ t586) ++ (⟨#[9]⟩ : ByteArray)) ++ t588) ++ (⟨#[9]⟩ : ByteArray)) ++ t590) ++ (⟨#[9]⟩ : ByteArray)) ++ t592) 127 t593 _ A48.out).mono ?_); rintro e w' ⟨rfl, ⟨nd, rfl⟩⟩; refine ⟨_, rfl, ?_⟩))
     go_roundg k1
     case measure => have := HK1.out; omega
     case rel => exact ⟨(x4_1 ++ (t593 ++ (⟨#[10]⟩ : ByteArray))), (wrap64 (x14_1 + 1)), (by first | rfl | (simp; done) | (simp [*]; done)), (by first | rfl | (simp; done) | (simp [*]; done)), H', ⟨by have := HK1.out; omega⟩, ⟨by repeat (first | (with_reducible first | exact HB.out | apply below_alloc | apply pw_below_drewN | apply below_drew1 | refine below_set ?_ GE572.out) | exact HB.out)⟩⟩
    ·rw [if_neg c5] at H
     have c5b0 : decide (x14_1 < (l0.length : Int)) = false := decide_eq_false c5
     clear c5
     simp only [Option.some.injEq, Prod.mk.injEq] at H
     obtain ⟨rfl, rfl⟩ := H
     go_wp2
     go_ret2
     exact ⟨by first | rfl | (simp [errW_none, errW_some] <;> rfl) | (simp [*, errW_none, errW_some] <;> rfl), by repeat (first | (with_reducible first | exact HB.out | apply below_alloc | apply pw_below_drewN | apply below_drew1) | exact HB.out)⟩
 ·replace c3 := Bool.eq_false_iff.mpr c3
  subst c3
  have H1 : (some ((⟨#[]⟩ : ByteArray), 2)) = some (r1, r2) := by rw [if_neg (show ¬ (false = true) by decide)] at H; exact H
  clear H
  have H := H1
  clear H1
  simp only [Option.some.injEq, Prod.mk.injEq] at H
  obtain ⟨rfl, rfl⟩ := H
  go_enter Tryz.func33, Tryz.ntmps33
  go_wp2_with (first | ((with_reducible refine gate_callee (f := 104) rfl ?_); refine goesL_ (some 10) rfl rfl Tryz.func104 (by kernel_rfl) rfl #[.slice A0 l0.length c0] rfl (by (try simp only [List.map_toArray, List.map_cons, List.map_nil]); first | done | rfl | (simp only [List.length_drop, List.length_take]; rfl)) ?_; (with_reducible refine (spec_routeFine.calls k _ _ l0 false _ ?side1 ?side2 A2.out).mono ?_); (case side1 => repeat (first | exact HR0.out | (with_reducible refine Kd.C_alloc ?_ _) | (with_reducible refine Kd.C_drewN ?_ _) | (with_reducible refine Kd.C_drew ?_))); (case side2 => exact HC0.out); rintro e w65 ⟨rfl, hb⟩; refine ⟨_, rfl, ?_⟩; have n0_ := Aside0.mk (below_step (by repeat (first | (with_reducible first | exact HB.out | apply below_alloc | apply pw_below_drewN | apply below_drew1) | exact HB.out)) hb); clear HB; have HB := n0_; clear n0_; (try clear hb); (try clear hb2); (try clear hk); (try clear hi)))
  go_ret2
  exact ⟨by first | rfl | (simp [errW_none, errW_some] <;> rfl) | (simp [*, errW_none, errW_some] <;> rfl), by repeat (first | (with_reducible first | exact HB.out | apply below_alloc | apply pw_below_drewN | apply below_drew1) | exact HB.out)⟩
end Go.Proofs.YtednjmngalmdkaaGreatDoor.GPC
end
section
/- laws.back at Route: it answers true where BackOk holds. Conditions: BackOk; the tables as laid. -/
namespace Go.Proofs.YtednjmngalmdkaaGreatDoor.GPC
open Go.RowKit Go.Proofs.YtednjmngalmdkaaGreatDoorW.PrintWords Go.Proofs.YtednjmngalmdkaaGreatDoorW.PrintLast
set_option linter.unusedVariables false
set_option linter.unusedSimpArgs false
attribute [local go_sem] run_store_float
set_option maxHeartbeats 16000000 in
set_option maxRecDepth 100000 in
theorem backRoute (A0 : Option Addr) (c0 : Nat) (l0 : List S31) (w : World) (hr0 : Kd.C k31 w A0 l0.length l0) (hc0 : l0.length ≤ c0) (hT : TabW w) (h : BackOk (fun k => spec_RoutePrint.f k l0) (fun k => spec_RouteTree.f k l0) (fun s n => doorRoute s n) l0) :
  Calls Tryz.prog 14 #[.slice A0 l0.length c0, .func (.func 33) #[] #[], .func (.func 34) #[] #[], .func (.func 35) #[] #[]] w fun e w' => e = .returned (.bool true) ∧ Below w.heap.size w w' := by
 have HR := Aside0.mk hr0
 have HT := Aside0.mk hT
 have HC := Aside0.mk hc0
 clear hr0 hT hc0
 cases h with
 | long h1 =>
  have d1 : decide ((l0.length : Int) > 1000) = true := decide_eq_true (by omega)
  have d1' : decide (1000 < l0.length) = true := decide_eq_true (by omega)
  go_enter Tryz.func14, Tryz.ntmps14
  go_wp2
  go_ret
  exact ⟨rfl, Below.refl _ _⟩
 | noPrint h1 k text told hp hno =>
  have d1 : decide ((l0.length : Int) > 1000) = false := decide_eq_false (by omega)
  have d1' : decide (1000 < l0.length) = false := decide_eq_false (by omega)
  have HP := Aside0.mk hp
  clear hp h1
  go_enter Tryz.func14, Tryz.ntmps14
  have hd : (told != 1) = true ∨ (told != 1) = false ∧ decide ((text.size : Int) > 40000) = true := by
   rcases hno with hh | hh
   ·exact .inl (by simpa using hh)
   ·by_cases he : told = 1
    ·exact .inr ⟨by simp [he], decide_eq_true (by omega)⟩
    ·exact .inl (by simpa using he)
  rcases hd with q1 | ⟨q1, q2⟩
  all_goals (go_wp2_with (first
   | (go_at_call 33; refine (spec_RoutePrint.calls k A0 c0 l0 text told _ HR.out HC.out HP.out).mono ?_; rintro e w1 ⟨rfl, hb⟩; have HB1 := Aside0.mk hb; clear hb)
   | (go_at_call 46; refine (lives_calls _ (tabW_below HT.out HB1.out)).mono ?_; rintro e w2 ⟨rfl, hb⟩; have HB2 := Aside0.mk (below_then HB1.out HB1.out.size hb); clear hb)))
  all_goals go_ret
  all_goals exact ⟨rfl, HB2.out⟩
 | noTree h1 k text hp hsz r tt ht hno =>
  have d1 : decide ((l0.length : Int) > 1000) = false := decide_eq_false (by omega)
  have d1' : decide (1000 < l0.length) = false := decide_eq_false (by omega)
  have q2 : decide ((text.size : Int) > 40000) = false := decide_eq_false (by omega)
  have q2' : decide (40000 < text.size) = false := decide_eq_false (by omega)
  have q3 : (tt != 1) = true := by simpa using hno
  have HP := Aside0.mk hp
  have HTR := Aside0.mk ht
  clear hp ht h1 hno hsz
  obtain ⟨r1, r2, r3, r4, r5, r6, r7, r8⟩ := r
  go_enter Tryz.func14, Tryz.ntmps14
  go_wp2_with (first
   | (go_at_call 33; refine (spec_RoutePrint.calls k A0 c0 l0 text 1 _ HR.out HC.out HP.out).mono ?_; rintro e w1 ⟨rfl, hb⟩; have HB1 := Aside0.mk hb; clear hb)
   | (go_at_call 34; refine (spec_RouteTree.calls k A0 c0 l0 r1 r2 r3 r4 r5 r6 r7 r8 tt _ (Kd.C_below HR.out HB1.out) HC.out HTR.out).mono ?_; rintro e w2 ⟨v7, rfl, hv, hb⟩; have HB2 := Aside0.mk (below_then HB1.out HB1.out.size hb); clear hb)
   | ((with_reducible refine gate_dst (N := 11) rfl ?_); refine box_event ?hg (N := 11) ?hd (cs := nodeZero) (t := 39) ?hr ?_; (case hd => rfl); (case hg => rfl); (case hr => first | (go_simp; done) | (go_simp; rfl)); intro gb hgb w3 hbox hb; have HBX := Aside0.mk hbox; have HB3 := Aside0.mk (below_then HB2.out HB2.out.size hb); have HGB := Aside0.mk (show w.heap.size ≤ gb by rw [hgb]; exact HB2.out.size); clear hgb hbox hb)
   | ((with_reducible refine gate_ (.store 39 (.tmp 11) (.tmp 35)) rfl ?_); refine box_store rfl rfl 39 (.tmp 11) (.tmp 35) rfl gb 39 nodeZero (snodeVal ⟨r1, r2, r3, r4, r5, r6, r7, r8⟩ v7) (snodeCells ⟨r1, r2, r3, r4, r5, r6, r7, r8⟩ v7) rfl rfl rfl snode_size (snode_one (Kd.V_sl hv)) HBX.out rfl ?_; intro w4 hbk hgr; have HB4 := Aside0.mk (pw_below_grown HB3.out (some gb) HB3.out.size hgr (fun k e => by cases e; exact HGB.out)); clear hbk hgr)
   | (go_at_call 46; refine (lives_calls _ (tabW_below HT.out HB4.out)).mono ?_; rintro e w5 ⟨rfl, hb⟩; have HB5 := Aside0.mk (below_then HB4.out HB4.out.size hb); clear hb))
  go_ret
  exact ⟨rfl, HB5.out⟩
 | same h1 k text hp hsz r ht n hd k2 m hm hs =>
  have d1 : decide ((l0.length : Int) > 1000) = false := decide_eq_false (by omega)
  have d1' : decide (1000 < l0.length) = false := decide_eq_false (by omega)
  have q2 : decide ((text.size : Int) > 40000) = false := decide_eq_false (by omega)
  have q2' : decide (40000 < text.size) = false := decide_eq_false (by omega)
  have HP := Aside0.mk hp
  have HTR := Aside0.mk ht
  have HD := Aside0.mk hd
  have HM := Aside0.mk hm
  have HS := Aside0.mk hs
  clear hp ht h1 hsz hd hm hs
  obtain ⟨r1, r2, r3, r4, r5, r6, r7, r8⟩ := r
  obtain ⟨m1, m2, m3, m4, m5, m6, m7, m8⟩ := m
  go_enter Tryz.func14, Tryz.ntmps14
  go_wp2_with (first
   | (go_at_call 33; refine (spec_RoutePrint.calls k A0 c0 l0 text 1 _ HR.out HC.out HP.out).mono ?_; rintro e w1 ⟨rfl, hb⟩; have HB1 := Aside0.mk hb; clear hb)
   | (go_at_call 34; refine (spec_RouteTree.calls k A0 c0 l0 r1 r2 r3 r4 r5 r6 r7 r8 1 _ (Kd.C_below HR.out HB1.out) HC.out HTR.out).mono ?_; rintro e w2 ⟨v7, rfl, hv, hb⟩; obtain ⟨At, ct, rfl, hlt, hFt⟩ := hv; have HCT := Aside0.mk (Kd.F_now hFt); have HLT := Aside0.mk hlt; have HB2 := Aside0.mk (below_then HB1.out HB1.out.size hb); clear hb hlt hFt)
   | ((with_reducible refine gate_dst (N := 11) rfl ?_); refine box_event ?hg (N := 11) ?hd (cs := nodeZero) (t := 39) ?hr ?_; (case hd => rfl); (case hg => rfl); (case hr => first | (go_simp; done) | (go_simp; rfl)); intro gb hgb w3 hbox hb; have HBX := Aside0.mk hbox; have HB3 := Aside0.mk hb; have HGB := Aside0.mk (show w2.heap.size ≤ gb by rw [hgb]; exact Nat.le_refl _); clear hgb hbox hb)
   | ((with_reducible refine gate_ (.store 39 (.tmp 11) (.tmp 35)) rfl ?_); refine box_store rfl rfl 39 (.tmp 11) (.tmp 35) rfl gb 39 nodeZero (snodeVal ⟨r1, r2, r3, r4, r5, r6, r7, r8⟩ (.slice At r8.length ct)) (snodeCells ⟨r1, r2, r3, r4, r5, r6, r7, r8⟩ (.slice At r8.length ct)) rfl rfl rfl snode_size (snode_one ⟨_, _, rfl⟩) HBX.out rfl ?_; intro w4 hbk hgr; have HW := Aside0.mk hbk; have HB4 := Aside0.mk (pw_below_grown HB3.out (some gb) HB3.out.size hgr (fun k e => by cases e; exact HGB.out)); clear hbk hgr)
   | (go_at_call 35; refine (doorRoute_calls text n _ (tabW_below HT.out (below_then HB2.out HB2.out.size HB4.out)) HD.out).mono ?_; rintro e w5 ⟨v9, rfl, ho, hb⟩; obtain ⟨Ag, cg, rfl⟩ := ho.slice; obtain ⟨_, hlg, hCg⟩ := Kd.R_reads' ho; have HCG := Aside0.mk hCg; have HLG := Aside0.mk hlg; have HW5 := Aside0.mk (blk_below HW.out hb); have HB5 := Aside0.mk (below_then HB4.out HB4.out.size hb); clear ho hb hlg hCg)
   | ((with_reducible refine gate_dst (N := 12) rfl ?_); refine box_event ?hg (N := 12) ?hd (cs := nodeZero) (t := 43) ?hr ?_; (case hd => rfl); (case hg => rfl); (case hr => first | (go_simp; done) | (go_simp; rfl)); intro gc hgc w6 hbox hb; have HCX := Aside0.mk hbox; have HW6 := Aside0.mk (blk_below HW5.out hb); have HB6 := Aside0.mk hb; have HGC := Aside0.mk (show w5.heap.size ≤ gc by rw [hgc]; exact Nat.le_refl _); have HNE := Aside0.mk (show gb < gc by rw [hgc]; exact blk_lt HW5.out); clear hgc hbox hb)
   | ((with_reducible refine gate_ (.store 43 (.tmp 12) (.tmp 44)) rfl ?_); refine box_store rfl rfl 43 (.tmp 12) (.tmp 44) rfl gc 43 nodeZero (nodeVal n (.slice Ag n.f7.length cg)) (nodeCells n (.slice Ag n.f7.length cg)) rfl rfl rfl node_size (node_one ⟨_, _, rfl⟩) HCX.out rfl ?_; intro w7 hbk hgr; have HG7 := Aside0.mk hbk; have HW7 := Aside0.mk (blk_grown HW6.out hgr (by have := HNE.out; intro e; injection e with e; omega)); have HB7 := Aside0.mk (pw_below_grown HB6.out (some gc) HB6.out.size hgr (fun k e => by cases e; exact HGC.out)); clear hbk hgr))
  have HB27 := Aside0.mk (below_then HB5.out HB5.out.size HB7.out)
  have HB07 := Aside0.mk (below_then HB2.out HB2.out.size HB27.out)
  have KA : Aside0 (∀ W : World, Below w7.heap.size w7 W → (Below w7.heap.size w7 W ∧ W.cell? ⟨gc, 0, none⟩ = some (.string n.f0) ∧ W.cell? ⟨gc, 1, none⟩ = some (.int .i64 n.f1) ∧ W.cell? ⟨gc, 2, none⟩ = some (.bool n.f2) ∧ W.cell? ⟨gc, 3, none⟩ = some (.int .i64 n.f3) ∧ W.cell? ⟨gc, 4, none⟩ = some (.int .u64 n.f4) ∧ W.cell? ⟨gc, 5, none⟩ = some (.float .f64 n.f5) ∧ W.cell? ⟨gc, 6, none⟩ = some (.string n.f6) ∧ W.cell? ⟨gc, 7, none⟩ = some (.slice Ag n.f7.length cg) ∧ W.cell? ⟨gb, 0, none⟩ = some (.string r1) ∧ W.cell? ⟨gb, 1, none⟩ = some (.int .i64 r2) ∧ W.cell? ⟨gb, 2, none⟩ = some (.bool r3) ∧ W.cell? ⟨gb, 3, none⟩ = some (.int .i64 r4) ∧ W.cell? ⟨gb, 4, none⟩ = some (.int .u64 r5) ∧ W.cell? ⟨gb, 5, none⟩ = some (.float .f64 r6) ∧ W.cell? ⟨gb, 6, none⟩ = some (.string r7) ∧ W.cell? ⟨gb, 7, none⟩ = some (.slice At r8.length ct))) := ⟨fun W hb => by
   have h1 := blk_below HG7.out hb
   have h2 := blk_below HW7.out hb
   exact ⟨hb, (blk_cell h1 0).trans rfl, (blk_cell h1 1).trans rfl, (blk_cell h1 2).trans rfl, (blk_cell h1 3).trans rfl, (blk_cell h1 4).trans rfl, (blk_cell h1 5).trans rfl, (blk_cell h1 6).trans rfl, (blk_cell h1 7).trans rfl, (blk_cell h2 0).trans rfl, (blk_cell h2 1).trans rfl, (blk_cell h2 2).trans rfl, (blk_cell h2 3).trans rfl, (blk_cell h2 4).trans rfl, (blk_cell h2 5).trans rfl, (blk_cell h2 6).trans rfl, (blk_cell h2 7).trans rfl⟩⟩
  go_region_held3 (fun W => Below w7.heap.size w7 W ∧ W.cell? ⟨gc, 0, none⟩ = some (.string n.f0) ∧ W.cell? ⟨gc, 1, none⟩ = some (.int .i64 n.f1) ∧ W.cell? ⟨gc, 2, none⟩ = some (.bool n.f2) ∧ W.cell? ⟨gc, 3, none⟩ = some (.int .i64 n.f3) ∧ W.cell? ⟨gc, 4, none⟩ = some (.int .u64 n.f4) ∧ W.cell? ⟨gc, 5, none⟩ = some (.float .f64 n.f5) ∧ W.cell? ⟨gc, 6, none⟩ = some (.string n.f6) ∧ W.cell? ⟨gc, 7, none⟩ = some (.slice Ag n.f7.length cg) ∧ W.cell? ⟨gb, 0, none⟩ = some (.string r1) ∧ W.cell? ⟨gb, 1, none⟩ = some (.int .i64 r2) ∧ W.cell? ⟨gb, 2, none⟩ = some (.bool r3) ∧ W.cell? ⟨gb, 3, none⟩ = some (.int .i64 r4) ∧ W.cell? ⟨gb, 4, none⟩ = some (.int .u64 r5) ∧ W.cell? ⟨gb, 5, none⟩ = some (.float .f64 r6) ∧ W.cell? ⟨gb, 6, none⟩ = some (.string r7) ∧ W.cell? ⟨gb, 7, none⟩ = some (.slice At r8.length ct))
   (first
    | exact KA.out _ (below_drew (Below.refl _ _))
    | (go_split_ands; exact KA.out _ (keepS (by assumption) hb'))
    | (go_split_ands; exact KA.out _ (below_drew (by assumption))))
   (first
    | (go_at_call 48; (with_reducible refine (laws_toNode.calls k2 n.f0 n.f1 n.f2 n.f3 n.f4 n.f5 n.f6 Ag cg n.f7 m1 m2 m3 m4 m5 m6 m7 m8 _ (by go_split_ands; exact Kd.C_below HCG.out (keepS HB7.out (by assumption))) HLG.out HM.out).mono ?_); rintro e w' ⟨v9, rfl, hom, hb'⟩; obtain ⟨Am, cm, rfl⟩ := Kd.R_slice hom)
    | (go_at_call 47; (with_reducible refine (spec_SameNode.calls k2 m1 m2 m3 m4 m5 m6 m7 Am cm m8 r1 r2 r3 r4 r5 r6 r7 At ct r8 true _ (by first | exact (Kd.R_reads' hom).2.2 | exact Kd.C_below (Kd.R_reads' hom).2.2 (below_drew (Below.refl _ _))) (Kd.R_reads' hom).2.1 (by go_split_ands; exact Kd.C_below HCT.out (keepS HB27.out (by assumption))) HLT.out HS.out).mono ?_); rintro e w' ⟨rfl, hb'⟩)
    | (go_at_call 46; (with_reducible refine (lives_calls _ (by go_split_ands; exact tabW_below HT.out (keepS HB07.out (by assumption)))).mono ?_); rintro e w' ⟨rfl, hb'⟩))
  go_split_ands
  go_wp2
  go_ret
  exact ⟨rfl, keepS HB07.out (by assumption)⟩
end Go.Proofs.YtednjmngalmdkaaGreatDoor.GPC
end
section
/- laws.FnRouteBack answers true where BackOk holds. Conditions: BackOk; the tables as laid. -/
namespace Go.Proofs.YtednjmngalmdkaaGreatDoor.GPC
open Go.RowKit Go.Proofs.YtednjmngalmdkaaGreatDoorW.PrintWords Go.Proofs.YtednjmngalmdkaaGreatDoorW.PrintLast
set_option linter.unusedVariables false
set_option maxHeartbeats 8000000 in
set_option maxRecDepth 100000 in
theorem lawRoute (A0 : Option Addr) (c0 : Nat) (l0 : List S31) (w : World) (hr0 : Kd.C k31 w A0 l0.length l0) (hc0 : l0.length ≤ c0) (hT : TabW w) (k : Nat) (b : Bool) (hz : laws_zzFits5.f k l0 = some b)
  (h : b = true → BackOk (fun k => spec_RoutePrint.f k l0) (fun k => spec_RouteTree.f k l0) (fun s n => doorRoute s n) l0) :
  Calls Tryz.prog 9 #[.slice A0 l0.length c0] w fun e w' => e = .returned (.bool true) ∧ Below w.heap.size w w' := by
 have HR := Aside0.mk hr0
 have HT := Aside0.mk hT
 have HC := Aside0.mk hc0
 have HZ := Aside0.mk hz
 have H := Aside0.mk h
 clear hr0 hT hc0 hz h
 cases b
 ·go_enter Tryz.func9, Tryz.ntmps9
  go_wp2_with (first
   | (go_at_call 13; refine (laws_zzFits5.calls k A0 c0 l0 false _ HR.out HC.out HZ.out).mono ?_; rintro e w1 ⟨rfl, hb⟩; have HB1 := Aside0.mk hb; clear hb))
  go_ret
  exact ⟨rfl, HB1.out⟩
 ·have H2 := Aside0.mk (H.out rfl)
  clear H
  go_enter Tryz.func9, Tryz.ntmps9
  go_wp2_with (first
   | (go_at_call 13; refine (laws_zzFits5.calls k A0 c0 l0 true _ HR.out HC.out HZ.out).mono ?_; rintro e w1 ⟨rfl, hb⟩; have HB1 := Aside0.mk hb; clear hb)
   | (go_at_call 14; refine (backRoute A0 c0 l0 _ (Kd.C_below HR.out HB1.out) HC.out (tabW_below HT.out HB1.out) H2.out).mono ?_; rintro e w2 ⟨rfl, hb⟩; have HB2 := Aside0.mk (keepS HB1.out hb); clear hb))
  go_ret
  exact ⟨rfl, HB2.out⟩
end Go.Proofs.YtednjmngalmdkaaGreatDoor.GPC
end
section
/- Plain facts: a tree of the door, handed over, is the same tree; a tree is the same as itself. Conditions: a depth, lists of at most a million parts. -/
namespace Go.Proofs.YtednjmngalmdkaaGreatDoor.GPC
open Go Go.RowKit Go.Proofs.YtednjmngalmdkaaGreatDoorW.PrintWords Go.Proofs.YtednjmngalmdkaaGreatDoorW.PrintLast
set_option linter.unusedVariables false
def tup39 (n : S39) : N8 S39 := (n.f0, n.f1, n.f2, n.f3, n.f4, n.f5, n.f6, n.f7)
def convN : Nat → S43 → S39
 | 0, n => ⟨n.f0, n.f1, n.f2, n.f3, n.f4, n.f5, n.f6, []⟩
 | d + 1, n => ⟨n.f0, n.f1, n.f2, n.f3, n.f4, n.f5, n.f6, n.f7.map (convN d)⟩
def FitN : Nat → S43 → Prop
 | 0, n => n.f7 = []
 | d + 1, n => n.f7.length ≤ 1000000 ∧ ∀ x ∈ n.f7, FitN d x
def FitS : Nat → S39 → Prop
 | 0, n => n.f7 = []
 | d + 1, n => n.f7.length ≤ 1000000 ∧ ∀ x ∈ n.f7, FitS d x
theorem fit_conv : ∀ (d : Nat) (n : S43), FitN d n → FitS d (convN d n)
 | 0, n, h => rfl
 | d + 1, n, h => ⟨by simpa [convN] using h.1, fun x hx => by
   simp only [convN, List.mem_map] at hx
   obtain ⟨y, hy, rfl⟩ := hx
   exact fit_conv d y (h.2 y hy)⟩
theorem rd43 (l : List S43) (i : Nat) (h : i < l.length) : rd_T43 l (i : Int) = l[i] := by
 simp [rd_T43, List.getD_eq_getElem?_getD, List.getElem?_eq_getElem h]
theorem rd39 (l : List S39) (i : Nat) (h : i < l.length) : rd_T39 l (i : Int) = l[i] := by
 simp [rd_T39, List.getD_eq_getElem?_getD, List.getElem?_eq_getElem h]
theorem eta39 (x : S39) : (⟨(tup39 x).1, (tup39 x).2.1, (tup39 x).2.2.1, (tup39 x).2.2.2.1, (tup39 x).2.2.2.2.1, (tup39 x).2.2.2.2.2.1, (tup39 x).2.2.2.2.2.2.1, (tup39 x).2.2.2.2.2.2.2⟩ : S39) = x := by cases x; rfl
theorem toNode_loop (l : List S43) (hl : l.length ≤ 1000000) (g : S43 → S39) (hg : ∀ x ∈ l, Ev (fun k => laws_toNode.f k x.f0 x.f1 x.f2 x.f3 x.f4 x.f5 x.f6 x.f7) (tup39 (g x))) (a0 : ByteArray) (a1 : Int) (a2 : Bool) (a3 a4 : Int) (a5 : Nat) (a6 : ByteArray) :
  ∀ (d i : Nat) (acc : List S39), i + d = l.length → acc.length ≤ i → Ev (fun k => laws_toNode.l0 k l (l.length : Int) (i : Int) a0 a1 a2 a3 a4 a5 a6 acc) (a0, a1, a2, a3, a4, a5, a6, acc ++ (l.drop i).map g)
 | 0, i, acc, h, ha => by
  rw [List.drop_eq_nil_of_le (by omega), List.map_nil, List.append_nil]
  exact Ev.step (f := fun _ => some (a0, a1, a2, a3, a4, a5, a6, acc)) (fun k => by simp only [laws_toNode.l0]; rw [if_neg (by omega)]) (Ev.now _)
 | d + 1, i, acc, h, ha => by
  have hi : i < l.length := by omega
  have hw : wrap64 ((i : Int) + 1) = ((i + 1 : Nat) : Int) := by unfold wrap64; omega
  have hx := hg l[i] (List.getElem_mem hi)
  have ih := toNode_loop l hl g hg a0 a1 a2 a3 a4 a5 a6 d (i + 1) (acc ++ [g l[i]]) (by omega) (by simp; omega)
  rw [List.append_assoc, List.singleton_append, ← List.map_cons, ← List.drop_eq_getElem_cons hi] at ih
  refine Ev.step (fun k => by simp only [laws_toNode.l0]; rw [if_pos (by omega), if_pos (by omega), if_pos (by omega), rd43 l i hi, hw]) (Ev.bind (f := fun k (bt : N8 S39) => if acc.length < 1466015503701 then (laws_toNode.l0 k l (l.length : Int) ((i + 1 : Nat) : Int) a0 a1 a2 a3 a4 a5 a6 (acc ++ [(⟨bt.1, bt.2.1, bt.2.2.1, bt.2.2.2.1, bt.2.2.2.2.1, bt.2.2.2.2.2.1, bt.2.2.2.2.2.2.1, bt.2.2.2.2.2.2.2⟩ : S39)])) else none) hx ?_)
  exact Ev.congr (fun k => by rw [if_pos (by omega), eta39]) ih
theorem toNode_ev : ∀ (d : Nat) (n : S43), FitN d n → Ev (fun k => laws_toNode.f k n.f0 n.f1 n.f2 n.f3 n.f4 n.f5 n.f6 n.f7) (tup39 (convN d n))
 | 0, n, h => by
  have := toNode_loop n.f7 (by rw [show n.f7 = [] from h]; simp) (fun x => convN 0 x) (by rw [show n.f7 = [] from h]; simp) n.f0 n.f1 n.f2 n.f3 n.f4 n.f5 n.f6 n.f7.length 0 [] (by omega) (by simp)
  rw [List.drop_zero, List.nil_append] at this
  refine Ev.step (f := fun k => laws_toNode.l0 k n.f7 (n.f7.length : Int) 0 n.f0 n.f1 n.f2 n.f3 n.f4 n.f5 n.f6 []) (fun k => by simp only [laws_toNode.f]) ?_
  have e : tup39 (convN 0 n) = (n.f0, n.f1, n.f2, n.f3, n.f4, n.f5, n.f6, n.f7.map fun x => convN 0 x) := by
   rw [show n.f7 = [] from h]; rfl
  rw [e]
  exact this
 | d + 1, n, h => by
  have := toNode_loop n.f7 h.1 (convN d) (fun x hx => toNode_ev d x (h.2 x hx)) n.f0 n.f1 n.f2 n.f3 n.f4 n.f5 n.f6 n.f7.length 0 [] (by omega) (by simp)
  rw [List.drop_zero, List.nil_append] at this
  exact Ev.step (f := fun k => laws_toNode.l0 k n.f7 (n.f7.length : Int) 0 n.f0 n.f1 n.f2 n.f3 n.f4 n.f5 n.f6 []) (fun k => by simp only [laws_toNode.f]) this
theorem same_loop (n : S39) (hl : n.f7.length ≤ 1000000) (hg : ∀ x ∈ n.f7, Ev (fun k => spec_SameNode.f k x.f0 x.f1 x.f2 x.f3 x.f4 x.f5 x.f6 x.f7 x.f0 x.f1 x.f2 x.f3 x.f4 x.f5 x.f6 x.f7) true) :
  ∀ (d i : Nat), i + d = n.f7.length → Ev (fun k => spec_SameNode.l0 k (n.f7.length : Int) (i : Int) n.f0 n.f1 n.f2 n.f3 n.f4 n.f5 n.f6 n.f7 n.f0 n.f1 n.f2 n.f3 n.f4 n.f5 n.f6 n.f7) true
 | 0, i, h => Ev.step (f := fun _ => some true) (fun k => by simp only [spec_SameNode.l0]; rw [if_neg (by omega)]) (Ev.now _)
 | d + 1, i, h => by
  have hi : i < n.f7.length := by omega
  have hw : wrap64 ((i : Int) + 1) = ((i + 1 : Nat) : Int) := by unfold wrap64; omega
  have hx := hg n.f7[i] (List.getElem_mem hi)
  have ih := same_loop n hl hg d (i + 1) (by omega)
  refine Ev.step (fun k => by simp only [spec_SameNode.l0]; rw [if_pos (by omega), if_pos (by omega), if_pos (by omega), if_pos (by omega), rd39 n.f7 i hi, hw]) (Ev.bind (f := fun k t => if t = true then (spec_SameNode.l0 k (n.f7.length : Int) ((i + 1 : Nat) : Int) n.f0 n.f1 n.f2 n.f3 n.f4 n.f5 n.f6 n.f7 n.f0 n.f1 n.f2 n.f3 n.f4 n.f5 n.f6 n.f7) else none) hx ?_)
  exact Ev.congr (fun k => if_pos rfl) ih
theorem same_ev : ∀ (d : Nat) (n : S39), FitS d n → Ev (fun k => spec_SameNode.f k n.f0 n.f1 n.f2 n.f3 n.f4 n.f5 n.f6 n.f7 n.f0 n.f1 n.f2 n.f3 n.f4 n.f5 n.f6 n.f7) true := by
 have top : ∀ (n : S39), Ev (fun k => spec_SameNode.l0 k (n.f7.length : Int) 0 n.f0 n.f1 n.f2 n.f3 n.f4 n.f5 n.f6 n.f7 n.f0 n.f1 n.f2 n.f3 n.f4 n.f5 n.f6 n.f7) true → Ev (fun k => spec_SameNode.f k n.f0 n.f1 n.f2 n.f3 n.f4 n.f5 n.f6 n.f7 n.f0 n.f1 n.f2 n.f3 n.f4 n.f5 n.f6 n.f7) true := by
  intro n h
  refine Ev.step (f := fun k => spec_SameNode.j0 k ((n.f7.length : Int) != (n.f7.length : Int)) n.f0 n.f1 n.f2 n.f3 n.f4 n.f5 n.f6 n.f7 n.f0 n.f1 n.f2 n.f3 n.f4 n.f5 n.f6 n.f7) (fun k => ?_) (Ev.step (fun k => ?_) h)
  ·simp [spec_SameNode.f, math_Float64bits.f]
  ·simp only [spec_SameNode.j0]
   rw [if_neg (by simp)]
 intro d
 induction d with
 | zero =>
  intro n h
  have h7 : n.f7 = [] := h
  exact top n (same_loop n (by rw [h7]; simp) (by rw [h7]; simp) n.f7.length 0 (by omega))
 | succ d ih =>
  intro n h
  exact top n (same_loop n h.1 (fun x hx => ih x (h.2 x hx)) n.f7.length 0 (by omega))
theorem back_same {print : Nat → Option (ByteArray × Int)} {tree : Nat → Option (ByteArray × Int × Bool × Int × Int × Nat × ByteArray × List S39 × Int)} {door : ByteArray → S43 → Prop} {l : List S31} (h : l.length ≤ 1000) (text : ByteArray)
  (hp : Ev print (text, 1)) (hsz : text.size ≤ 40000) (d : Nat) (n : S43) (hf : FitN d n)
  (ht : Ev tree ((convN d n).f0, (convN d n).f1, (convN d n).f2, (convN d n).f3, (convN d n).f4, (convN d n).f5, (convN d n).f6, (convN d n).f7, 1)) (hd : door text n) : BackOk print tree door l := by
 obtain ⟨K1, h1⟩ := hp
 obtain ⟨K2, h2⟩ := ht
 obtain ⟨K3, h3⟩ := toNode_ev d n hf
 obtain ⟨K4, h4⟩ := same_ev d (convN d n) (fit_conv d n hf)
 exact BackOk.same h (K1 + K2) text (h1 _ (by omega)) hsz (tup39 (convN d n)) (h2 _ (by omega)) n hd (K3 + K4) (tup39 (convN d n)) (h3 _ (by omega)) (h4 _ (by omega))
end Go.Proofs.YtednjmngalmdkaaGreatDoor.GPC
end
section
/- Plain facts: the digits of a number in a base tell this number, with noughts ahead and in great letters, too. Condition: the number is at most the bound. -/
namespace Go.Proofs.YtednjmngalmdkaaGreatDoor.PF
open Go Go.Proofs.YtednjmngalmdkaaGreatDoor.GPC
set_option linter.unusedVariables false
theorem puN_append (b mx : Nat) : ∀ (x y : List UInt8) (acc : Nat), puN b mx acc (x ++ y) = (puN b mx acc x).bind fun a => puN b mx a y
 | [], y, acc => rfl
 | c :: x, y, acc => by
  simp only [List.cons_append, puN]
  split
  ·exact puN_append b mx x y _
  ·rfl
theorem dch_val : ((List.range 16).all fun d => decide (digV (dch d).toNat = d)) = true := by decide +kernel
theorem digV_dch (d : Nat) (h : d < 16) : digV (dch d).toNat = d := by
 have := List.all_eq_true.1 dch_val d (List.mem_range.2 h)
 simpa using this
theorem puN_dig (b n mx : Nat) (hb : 2 ≤ b) (hb2 : b ≤ 16) (hn : n ≤ mx) : puN b mx 0 (digB b n) = some n := by
 induction n using Nat.strongRecOn with
 | _ n ih =>
  unfold digB
  by_cases h : n < b ∨ b < 2
  ·rw [dif_pos h]
   have hlt : n < b := by omega
   simp only [puN, digV_dch n (by omega)]
   rw [if_pos ⟨hlt, by omega⟩]
   simp
  ·rw [dif_neg h, puN_append, ih (n / b) (Nat.div_lt_self (by omega) (by omega)) (Nat.le_trans (Nat.div_le_self _ _) hn)]
   have hm : n % b < b := Nat.mod_lt _ (by omega)
   have he : n / b * b + n % b = n := by rw [Nat.mul_comm]; exact Nat.div_add_mod n b
   simp only [Option.bind_some, puN, digV_dch (n % b) (by omega), he]
   rw [if_pos ⟨hm, hn⟩]
theorem puN_noughts (b mx : Nat) (hb : 1 ≤ b) : ∀ (k : Nat) (l : List UInt8), puN b mx 0 (List.replicate k 48 ++ l) = puN b mx 0 l
 | 0, l => rfl
 | k + 1, l => by
  have ih := puN_noughts b mx hb k l
  have h48 : digV (48 : UInt8).toNat = 0 := by decide
  rw [List.replicate_succ, List.cons_append]
  simp only [puN, h48]
  rw [if_pos ⟨by omega, by omega⟩]
  simpa using ih
def upL (l : List UInt8) : List UInt8 := l.map fun c => if 97 ≤ c.toNat then c - 32 else c
theorem up_val : ((List.range 256).all fun n => !isDig (UInt8.ofNat n) || decide (digV (if 97 ≤ (UInt8.ofNat n).toNat then UInt8.ofNat n - 32 else UInt8.ofNat n).toNat = digV (UInt8.ofNat n).toNat)) = true := by decide +kernel
theorem puN_up (b mx : Nat) : ∀ (l : List UInt8) (acc : Nat), (∀ c ∈ l, isDig c = true) → puN b mx acc (upL l) = puN b mx acc l
 | [], acc, _ => rfl
 | c :: l, acc, h => by
  have hc := List.all_eq_true.1 up_val c.toNat (List.mem_range.2 c.toNat_lt)
  rw [UInt8.ofNat_toNat, h c (by simp)] at hc
  simp only [Bool.not_true, Bool.false_or, decide_eq_true_eq] at hc
  have ih := fun a => puN_up b mx l a (fun x hx => h x (by simp [hx]))
  show puN b mx acc ((if 97 ≤ c.toNat then c - 32 else c) :: upL l) = _
  simp only [puN, hc, ih]
end Go.Proofs.YtednjmngalmdkaaGreatDoor.PF
end
section
/- Plain facts on the printed functions that all the rows share: sizes, bounds, digits. Conditions: lists of at most 2^47 cells. -/
namespace Go.Proofs.YtednjmngalmdkaaGreatDoor.GPC
open Go Go.RowKit Go.Proofs.YtednjmngalmdkaaGreatDoorW.PrintWords Go.Proofs.YtednjmngalmdkaaGreatDoorW.PrintLast Go.Proofs.YtednjmngalmdkaaGreatDoor.PF
set_option linter.unusedVariables false
def strB (l : List UInt8) : ByteArray := ⟨l.toArray⟩
theorem hex_at : ∀ d : Fin 16, strOfNums [bt (⟨#[48, 49, 50, 51, 52, 53, 54, 55, 56, 57, 97, 98, 99, 100, 101, 102]⟩ : ByteArray) (d.val : Int)] = strB [dch d.val] := by decide
theorem hex_n (d : Nat) (h : d < 16) : strOfNums [bt (⟨#[48, 49, 50, 51, 52, 53, 54, 55, 56, 57, 97, 98, 99, 100, 101, 102]⟩ : ByteArray) (d : Int)] = strB [dch d] := hex_at ⟨d, h⟩
theorem u64_w {n : Int} (h0 : 0 ≤ n) (h1 : n < 18446744073709551616) : IntKind.u64.wrap n = n := by
 simp only [IntKind.wrap, IntKind.bits, IntKind.signed, Bool.false_and]
 exact Int.emod_eq_of_lt h0 h1
theorem strB_append (x y : List UInt8) : strB x ++ strB y = strB (x ++ y) := by
 apply ByteArray.ext
 simp [strB]
theorem strB_size (x : List UInt8) : (strB x).size = x.length := by simp [strB, ByteArray.size]
theorem digits_ev (b : Nat) (hb : 2 ≤ b) (hb2 : b ≤ 16) (n : Nat) (hn : n < 18446744073709551616) : Ev (fun k => spec_Digits.f k (n : Int) (b : Int)) (strB (digB b n)) ∧ (digB b n).length ≤ n + 1 := by
 induction n using Nat.strongRecOn with
 | _ n ih =>
  have hmod : n % b < 16 := Nat.lt_of_lt_of_le (Nat.mod_lt _ (by omega)) hb2
  have e1 : Int.tmod (n : Int) (b : Int) = ((n % b : Nat) : Int) := by rw [Int.tmod_eq_emod_of_nonneg (by omega)]; simp
  have e2 : Int.tdiv (n : Int) (b : Int) = ((n / b : Nat) : Int) := by rw [Int.tdiv_eq_ediv_of_nonneg (by omega)]; simp
  have hx := hex_n (n % b) hmod
  unfold digB
  by_cases h : n < b
  ·rw [dif_pos (.inl h)]
   rw [Nat.mod_eq_of_lt h] at hx e1
   refine ⟨Ev.step (f := fun _ => some (strB [dch n])) (fun k => ?_) (Ev.now _), by simp⟩
   simp only [spec_Digits.f]
   rw [if_neg (by omega), e1, if_pos (by omega), if_pos (by omega), if_pos (by omega), hx]
  ·rw [dif_neg (by omega)]
   have hlt : n / b < n := Nat.div_lt_self (by omega) (by omega)
   obtain ⟨ih1, ih2⟩ := ih (n / b) hlt (by omega)
   have hw : IntKind.u64.wrap (Int.tdiv (n : Int) (b : Int)) = ((n / b : Nat) : Int) := by
    rw [e2]
    generalize n / b = q at hlt ⊢
    exact u64_w (by omega) (by omega)
   have h64 : (digB b (n / b)).length ≤ 64 := by
    have := digB_length b (n / b) 63 hb (Nat.lt_of_lt_of_le (show n / b < 2 ^ 64 by omega) (Nat.pow_le_pow_left hb 64))
    exact this
   refine ⟨Ev.step (f := fun k => (spec_Digits.f k ((n / b : Nat) : Int) (b : Int)).bind fun t => if t.size + (strB [dch (n % b)]).size ≤ 9223372036854775807 then some (t ++ strB [dch (n % b)]) else none) (fun k => ?_) (Ev.bind (f := fun _ t => if t.size + (strB [dch (n % b)]).size ≤ 9223372036854775807 then some (t ++ strB [dch (n % b)]) else none) ih1 ?_), ?_⟩
   ·simp only [spec_Digits.f, Option.bind_some]
    rw [if_neg (by omega), e1, if_pos (by omega), if_pos (by omega), if_neg (by omega), hw, hx]
   ·rw [if_pos (by rw [strB_size, strB_size]; simp; omega), strB_append]
    exact Ev.now _
   ·simp; omega
theorem text_ev (n : Nat) (hn : n < 18446744073709551616) : Ev (fun k => spec_Text.f k (n : Int)) (strB (digB 10 n)) :=
 Ev.bind (f := fun _ t => some t) (digits_ev 10 (by omega) (by omega) n hn).1 (Ev.now _)
end Go.Proofs.YtednjmngalmdkaaGreatDoor.GPC
end
section
/- The sizes that zzFits5 lets through, told. No condition. -/
namespace Go.Proofs.YtednjmngalmdkaaGreatDoor.GPC
open Go Go.RowKit Go.Proofs.YtednjmngalmdkaaGreatDoorW.PrintWords Go.Proofs.YtednjmngalmdkaaGreatDoorW.PrintLast Go.Proofs.YtednjmngalmdkaaGreatDoor.PF
set_option linter.unusedVariables false
structure FitR (r : S31) : Prop where
 s : r.f0.size ≤ 2147483647
 n : r.f1.length ≤ 2147483647
 l : r.f2.length ≤ 2147483647
 w : ∀ x ∈ r.f2, x.size ≤ 2147483647
theorem rdOf_el (l : List ByteArray) (i : Int) (h0 : 0 ≤ i) (h : i.toNat < l.length) : rdOf ByteArray.empty l i = l[i.toNat] := by
 simp [rdOf, List.getD_eq_getElem?_getD, List.getElem?_eq_getElem h]
theorem rd31i (l : List S31) (i : Int) (h0 : 0 ≤ i) (h : i.toNat < l.length) : rd_T31 l i = l[i.toNat] := by
 simp [rd_T31, List.getD_eq_getElem?_getD, List.getElem?_eq_getElem h]
theorem zz4F (l : List ByteArray) (hl : l.length ≤ 2147483647) : ∀ (d : Nat) (i : Int), 0 ≤ i → i + d = l.length → ∃ b, Ev (fun k => laws_zzFits4.l0 k l (l.length : Int) i) b ∧ (b = true → ∀ x ∈ l.drop i.toNat, x.size ≤ 2147483647)
 | 0, i, h0, h => ⟨true, Ev.step (f := fun _ => some true) (fun k => by simp only [laws_zzFits4.l0]; rw [if_neg (by omega)]) (Ev.now _), fun _ x hx => by rw [List.drop_eq_nil_of_le (by omega)] at hx; cases hx⟩
 | d + 1, i, h0, h => by
  have hw : wrap64 (i + 1) = i + 1 := by unfold wrap64; omega
  have hi : i.toNat < l.length := by omega
  by_cases hc : ((rdOf ByteArray.empty l i).size : Int) > 2147483647
  ·exact ⟨false, Ev.step (f := fun _ => some false) (fun k => by simp only [laws_zzFits4.l0]; rw [if_pos (by omega), if_pos h0, if_pos (by omega), if_pos hc]) (Ev.now _), fun h => by cases h⟩
  ·obtain ⟨b, hb, hx⟩ := zz4F l hl d (i + 1) (by omega) (by omega)
   refine ⟨b, Ev.step (fun k => by simp only [laws_zzFits4.l0]; rw [if_pos (by omega), if_pos h0, if_pos (by omega), if_neg hc, hw]) hb, fun e x hm => ?_⟩
   rw [List.drop_eq_getElem_cons hi] at hm
   rcases List.mem_cons.1 hm with rfl | hm
   ·rw [rdOf_el l i h0 hi] at hc; omega
   ·exact hx e x (by rw [show (i + 1).toNat = i.toNat + 1 by omega]; exact hm)
theorem zz4fF (l : List ByteArray) : ∃ b, Ev (fun k => laws_zzFits4.f k l) b ∧ (b = true → l.length ≤ 2147483647 ∧ ∀ x ∈ l, x.size ≤ 2147483647) := by
 by_cases hl : (l.length : Int) > 2147483647
 ·exact ⟨false, Ev.congr (fun k => by simp only [laws_zzFits4.f]; rw [if_pos hl]) (Ev.now _), fun h => by cases h⟩
 ·obtain ⟨b, hb, hx⟩ := zz4F l (by omega) l.length 0 (by omega) (by omega)
  exact ⟨b, Ev.congr (fun k => by simp only [laws_zzFits4.f]; rw [if_neg hl]) hb, fun e => ⟨by omega, by simpa using hx e⟩⟩
theorem zz6fF (a : ByteArray) (n : List Int) (s : List ByteArray) : ∃ b, Ev (fun k => laws_zzFits6.f k a n s) b ∧ (b = true → FitR ⟨a, n, s⟩) := by
 by_cases h1 : (a.size : Int) > 2147483647
 ·exact ⟨false, Ev.congr (fun k => by simp only [laws_zzFits6.f]; rw [if_pos h1]) (Ev.now _), fun h => by cases h⟩
 ·by_cases h2 : (n.length : Int) > 2147483647
  ·exact ⟨false, Ev.congr (fun k => by simp only [laws_zzFits6.f]; rw [if_neg h1, if_pos h2]) (Ev.now _), fun h => by cases h⟩
  ·obtain ⟨b, hb, hx⟩ := zz4fF s
   refine ⟨if b = true then true else false, Ev.congr (f := fun k => (laws_zzFits4.f k s).bind fun t => if t = true then some true else some false) (fun k => by simp only [laws_zzFits6.f]; rw [if_neg h1, if_neg h2]) (Ev.bind (f := fun _ t => if t = true then some true else some false) hb ?_), ?_⟩
   ·cases b
    ·exact Ev.now _
    ·exact Ev.now _
   ·cases b
    ·intro h; cases h
    ·exact fun _ => ⟨(by show a.size ≤ 2147483647; omega), (by show n.length ≤ 2147483647; omega), (hx rfl).1, (hx rfl).2⟩
theorem zz5F (l : List S31) (hl : l.length ≤ 2147483647) : ∀ (d : Nat) (i : Int), 0 ≤ i → i + d = l.length → ∃ b, Ev (fun k => laws_zzFits5.l0 k l (l.length : Int) i) b ∧ (b = true → ∀ x ∈ l.drop i.toNat, FitR x)
 | 0, i, h0, h => ⟨true, Ev.step (f := fun _ => some true) (fun k => by simp only [laws_zzFits5.l0]; rw [if_neg (by omega)]) (Ev.now _), fun _ x hx => by rw [List.drop_eq_nil_of_le (by omega)] at hx; cases hx⟩
 | d + 1, i, h0, h => by
  have hw : wrap64 (i + 1) = i + 1 := by unfold wrap64; omega
  have hi : i.toNat < l.length := by omega
  obtain ⟨b6, h6, hx6⟩ := zz6fF ((rd_T31 l i).f0) ((rd_T31 l i).f1) ((rd_T31 l i).f2)
  have hstep : ∀ k, laws_zzFits5.l0 (k + 1) l (l.length : Int) i = (laws_zzFits6.f k ((rd_T31 l i).f0) ((rd_T31 l i).f1) ((rd_T31 l i).f2)).bind fun t => if t = true then laws_zzFits5.l0 k l (l.length : Int) (i + 1) else some false := fun k => by
   simp only [laws_zzFits5.l0]; rw [if_pos (by omega), if_pos h0, if_pos (by omega), hw]
  obtain ⟨b, hb, hx⟩ := zz5F l hl d (i + 1) (by omega) (by omega)
  cases b6
  ·exact ⟨false, Ev.step hstep (Ev.bind (f := fun k t => if t = true then laws_zzFits5.l0 k l (l.length : Int) (i + 1) else some false) h6 (Ev.now _)), fun h => by cases h⟩
  ·refine ⟨b, Ev.step hstep (Ev.bind (f := fun k t => if t = true then laws_zzFits5.l0 k l (l.length : Int) (i + 1) else some false) h6 hb), fun e x hm => ?_⟩
   rw [List.drop_eq_getElem_cons hi] at hm
   rcases List.mem_cons.1 hm with rfl | hm
   ·have := hx6 rfl
    rw [rd31i l i h0 hi] at this
    exact this
   ·exact hx e x (by rw [show (i + 1).toNat = i.toNat + 1 by omega]; exact hm)
theorem zz5fF (l : List S31) : ∃ k b, laws_zzFits5.f k l = some b ∧ (b = true → l.length ≤ 2147483647 ∧ ∀ x ∈ l, FitR x) := by
 by_cases hl : (l.length : Int) > 2147483647
 ·exact ⟨0, false, by simp only [laws_zzFits5.f]; rw [if_pos hl], fun h => by cases h⟩
 ·obtain ⟨b, hb, hx⟩ := zz5F l (by omega) l.length 0 (by omega) (by omega)
  obtain ⟨k, hk⟩ := hb.rounds
  exact ⟨k, b, by simp only [laws_zzFits5.f]; rw [if_neg hl]; exact hk, fun e => ⟨by omega, by simpa using hx e⟩⟩
theorem strB_of (s : ByteArray) : strB s.data.toList = s := by
 apply ByteArray.ext
 simp [strB]
end Go.Proofs.YtednjmngalmdkaaGreatDoor.GPC
end
section
/- Plain facts: a number of hundredths, written, is read as the same float. Condition: below 2^40. -/
namespace Go.Proofs.YtednjmngalmdkaaGreatDoor.GPC
open Go Go.RowKit Go.Proofs.YtednjmngalmdkaaGreatDoorW.PrintWords Go.Proofs.YtednjmngalmdkaaGreatDoorW.PrintLast Go.Proofs.YtednjmngalmdkaaGreatDoor.PF
set_option linter.unusedVariables false
def padL (least : Nat) (l : List UInt8) : List UInt8 := List.replicate (least - l.length) 48 ++ l
theorem padL_cons (least : Nat) (l : List UInt8) (h : l.length < least) : padL least (48 :: l) = padL least l := by
 unfold padL
 obtain ⟨d, hd⟩ : ∃ d, least - l.length = d + 1 := ⟨least - l.length - 1, by omega⟩
 rw [List.length_cons, hd, show least - (l.length + 1) = d by omega, List.replicate_succ', List.append_assoc, List.singleton_append]
theorem pad_ev (least : Nat) (hl : least ≤ 1000) : ∀ (d : Nat) (l : List UInt8), least - l.length = d → l.length ≤ 100000 → Ev (fun k => spec_Padded.l0 k (least : Int) (strB l)) (strB (padL least l))
 | 0, l, h, hl2 => by
  have e : padL least l = l := by simp [padL, h]
  rw [e]
  exact Ev.step (f := fun _ => some (strB l)) (fun k => by simp only [spec_Padded.l0]; rw [if_neg (by rw [strB_size]; omega)]) (Ev.now _)
 | d + 1, l, h, hl2 => by
  have ih := pad_ev least hl d (48 :: l) (by simp; omega) (by simp; omega)
  rw [padL_cons least l (by omega)] at ih
  refine Ev.step (fun k => ?_) ih
  simp only [spec_Padded.l0]
  rw [if_pos (by rw [strB_size]; omega), if_pos (by rw [strB_size]; omega)]
  rw [show ((⟨#[48]⟩ : ByteArray) ++ strB l) = strB (48 :: l) from strB_append [48] l]
theorem padded_ev (n b least : Nat) (hb : 2 ≤ b) (hb2 : b ≤ 16) (hn : n < 18446744073709551616) (hl : least ≤ 1000) : Ev (fun k => spec_Padded.f k (n : Int) (b : Int) (least : Int)) (strB (padL least (digB b n))) := by
 have h64 : (digB b n).length ≤ 64 := digB_length b n 63 hb (Nat.lt_of_lt_of_le (show n < 2 ^ 64 by omega) (Nat.pow_le_pow_left hb 64))
 exact Ev.bind (f := fun k t => spec_Padded.l0 k (least : Int) t) (digits_ev b hb hb2 n hn).1 (pad_ev least hl _ _ rfl (by omega))
theorem dig_len (n : Nat) (hn : n < 18446744073709551616) : (digB 10 n).length ≤ 20 := digB_length 10 n 19 (by omega) (by omega)
theorem dch10 : ∀ d : Fin 10, 48 ≤ (dch d.val).toNat ∧ (dch d.val).toNat ≤ 57 ∧ (dch d.val).toNat - 48 = d.val := by decide
theorem dch10n (d : Nat) (h : d < 10) : 48 ≤ (dch d).toNat ∧ (dch d).toNat ≤ 57 ∧ (dch d).toNat - 48 = d := dch10 ⟨d, h⟩
theorem dig10 (n : Nat) : ∀ c ∈ digB 10 n, 48 ≤ c.toNat ∧ c.toNat ≤ 57 := by
 induction n using Nat.strongRecOn with
 | _ n ih =>
  intro c hc
  unfold digB at hc
  by_cases h : n < 10
  ·rw [dif_pos (.inl h)] at hc
   simp only [List.mem_singleton] at hc
   subst hc
   exact ⟨(dch10n n h).1, (dch10n n h).2.1⟩
  ·rw [dif_neg (by omega)] at hc
   rcases List.mem_append.1 hc with hc | hc
   ·exact ih (n / 10) (by omega) c hc
   ·simp only [List.mem_singleton] at hc
    subst hc
    have := dch10n (n % 10) (Nat.mod_lt _ (by omega))
    exact ⟨this.1, this.2.1⟩
end Go.Proofs.YtednjmngalmdkaaGreatDoor.GPC
end
section
/- Plain facts: numbers written with a sign between, and read again as words. Conditions: at most 100,000 numbers of 64 bits. -/
namespace Go.Proofs.YtednjmngalmdkaaGreatDoor.GPC
open Go Go.RowKit Go.Proofs.YtednjmngalmdkaaGreatDoorW.PrintWords Go.Proofs.YtednjmngalmdkaaGreatDoorW.PrintLast Go.Proofs.YtednjmngalmdkaaGreatDoor.PF
set_option linter.unusedVariables false
theorem evG {α : Type} {c : Prop} [Decidable c] {A : Nat → Option α} {r : α} (h : c) (hA : Ev A r) : Ev (fun k => if c then A k else none) r := Ev.congr (fun k => if_pos h) hA
theorem evN {α : Type} {c : Prop} [Decidable c] {A B : Nat → Option α} {r : α} (h : ¬ c) (hA : Ev B r) : Ev (fun k => if c then A k else B k) r := Ev.congr (fun k => if_neg h) hA
theorem evP {α : Type} {c : Prop} [Decidable c] {A B : Nat → Option α} {r : α} (h : c) (hA : Ev A r) : Ev (fun k => if c then A k else B k) r := Ev.congr (fun k => if_pos h) hA
theorem evB {α β : Type} {g : Nat → Option α} {a : α} {F : Nat → α → Option β} {r : β} (h : Ev g a) (hF : Ev (fun k => F k a) r) : Ev (fun k => (g k).bind (F k)) r := Ev.bind (f := F) h hF
def intsOf (ns : List Nat) : List Int := ns.map Int.ofNat
theorem intsOf_len (ns : List Nat) : (intsOf ns).length = ns.length := by simp [intsOf]
theorem rd_ints (ns : List Nat) (i : Nat) (h : i < ns.length) : rd (intsOf ns) (i : Int) = (ns[i] : Int) := by
 simp [rd, intsOf, List.getD_eq_getElem?_getD, List.getElem?_eq_getElem h]
theorem words_mem (b : UInt8) : ∀ (ws : List (List UInt8)) (c : UInt8), c ∈ Words [b] ws → c = b ∨ ∃ w ∈ ws, c ∈ w
 | [], c, h => by simp [Words] at h
 | [w], c, h => .inr ⟨w, by simp, by simpa [Words] using h⟩
 | w :: v :: r, c, h => by
  simp only [Words, List.mem_append, List.mem_singleton] at h
  rcases h with h | h | h
  ·exact .inr ⟨w, by simp, h⟩
  ·exact .inl h
  ·rcases words_mem b (v :: r) c h with h | ⟨x, hx, hc⟩
   ·exact .inl h
   ·exact .inr ⟨x, by simp [hx], hc⟩
theorem strNums2 (s : ByteArray) : strOfNums (s.data.toList.map fun b => (b.toNat : Int)) = s := by
 apply ByteArray.ext
 apply Array.toList_inj.1
 simp only [strOfNums]
 simp only [List.map_map]
 have e : ((fun n => UInt8.ofNat n.toNat) ∘ fun b : UInt8 => (b.toNat : Int)) = id := funext fun b => by simp [Function.comp]
 rw [e, List.map_id]
end Go.Proofs.YtednjmngalmdkaaGreatDoor.GPC
end
section
/- The lines of a written text, one by one: on lists of bytes alone. Conditions: as they say. -/
namespace Go.Proofs.YtednjmngalmdkaaGreatDoor.GPC
open Go Go.RowKit Go.Proofs.YtednjmngalmdkaaGreatDoorW.PrintWords Go.Proofs.YtednjmngalmdkaaGreatDoorW.PrintLast
set_option linter.unusedVariables false
theorem strB_dl (l : List UInt8) : (strB l).data.toList = l := by simp [strB]
theorem ext_strB (l : List UInt8) (i j : Nat) : (strB l).extract i j = strB ((l.drop i).take (j - i)) := by
 apply ByteArray.ext
 rw [ByteArray.data_extract]
 apply Array.toList_inj.1
 simp [strB, List.extract]
theorem lineEnd_lf (a b : List UInt8) (ha : ∀ c ∈ a, c ≠ 10) : GL.lineEnd (strB (a ++ 10 :: b)) = a.length := by
 unfold GL.lineEnd
 rw [strB_dl, List.findIdx_append]
 have h0 : List.findIdx (· == (10 : UInt8)) a = a.length := List.findIdx_eq_length.2 (fun x hx => by
  simp only [beq_eq_false_iff_ne]
  exact ha x hx)
 have h1 : List.findIdx (fun x => x == (10 : UInt8)) (10 :: b) = 0 := by simp [List.findIdx_cons]
 rw [h0, h1]
 simp
theorem lineOf_lf (a b : List UInt8) (ha : ∀ c ∈ a, c ≠ 10) : GL.lineOf (strB (a ++ 10 :: b)) = strB a := by
 unfold GL.lineOf
 rw [lineEnd_lf a b ha, ext_strB]
 simp
theorem restOf_lf (a b : List UInt8) (ha : ∀ c ∈ a, c ≠ 10) : GL.restOf (strB (a ++ 10 :: b)) = strB b := by
 unfold GL.restOf
 rw [lineEnd_lf a b ha, if_pos (by rw [strB_size]; simp), ext_strB, strB_size]
 have e : a ++ 10 :: b = (a ++ [10]) ++ b := by simp
 rw [e, List.drop_left' (l₁ := a ++ [10]) (by simp), List.take_of_length_le (by simp; omega)]
end Go.Proofs.YtednjmngalmdkaaGreatDoor.GPC
end
section
/- Loops over rows, in general: printed text, tree, lines read; the end of a plain law. Conditions: as they say. -/
namespace Go.Proofs.YtednjmngalmdkaaGreatDoor.GPC
open Go Go.RowKit Go.Proofs.YtednjmngalmdkaaGreatDoorW.PrintWords Go.Proofs.YtednjmngalmdkaaGreatDoorW.PrintLast Go.Proofs.YtednjmngalmdkaaGreatDoor.PF
set_option linter.unusedVariables false
theorem gints_of (r : S31) (hr : OP.RowOk r) : r.f1 = intsOf (r.f1.map Int.toNat) := by
 unfold intsOf
 rw [List.map_map]
 refine (List.map_id r.f1).symm.trans (List.map_congr_left fun a ha => ?_)
 have := (hr.2.1.2 a ha).1
 simp only [Function.comp, id]
 show a = ((a.toNat : Nat) : Int)
 omega
theorem grd31 (l : List S31) (i : Nat) (h : i < l.length) : rd_T31 l (i : Int) = l[i] := by
 simp [rd_T31, List.getD_eq_getElem?_getD, List.getElem?_eq_getElem h]
theorem gen_print {T : Type} (L : List UInt8 → Nat → Nat → Option (ByteArray × Int)) (n A B : Nat) (hM : A + B * n ≤ 100000000000000000) (line : T → List UInt8) (Good : Nat → T → Prop)
  (hend : ∀ acc, Ev (L acc n) (strB acc, 1))
  (hone : ∀ i, i < n → ∀ acc : List UInt8, acc.length ≤ 100000000000000000 → Ev (L acc i) (⟨#[]⟩, 2) ∨ ∃ t, Good i t ∧ (line t).length ≤ B ∧ ∀ r, Ev (L (acc ++ line t) (i + 1)) r → Ev (L acc i) r) :
  ∀ (d i : Nat) (acc : List UInt8), i + d = n → acc.length ≤ A + B * i →
   Ev (L acc i) (⟨#[]⟩, 2) ∨ ∃ ts : List T, ts.length = d ∧ (∀ (j : Nat) (h : j < ts.length), Good (i + j) ts[j]) ∧ Ev (L acc i) (strB (acc ++ ts.flatMap line), 1)
 | 0, i, acc, h, ha => by
  obtain rfl : i = n := by omega
  refine .inr ⟨[], rfl, fun j h => by simp at h, ?_⟩
  simpa using hend acc
 | d + 1, i, acc, h, ha => by
  have hB : B * i ≤ B * n := Nat.mul_le_mul_left B (by omega)
  rcases hone i (by omega) acc (by omega) with hb | ⟨t, hg, hl, ht⟩
  ·exact .inl hb
  ·have hB2 : B * (i + 1) = B * i + B := by rw [Nat.mul_add, Nat.mul_one]
   rcases gen_print L n A B hM line Good hend hone d (i + 1) (acc ++ line t) (by omega) (by simp only [List.length_append]; omega) with hb | ⟨ts, hts, hgs, he⟩
   ·exact .inl (ht _ hb)
   ·refine .inr ⟨t :: ts, by simp [hts], fun j h2 => ?_, ?_⟩
    ·match j with
     | 0 => exact hg
     | j + 1 =>
      have := hgs j (by simpa using h2)
      simp only [List.getElem_cons_succ]
      rw [show i + (j + 1) = i + 1 + j by omega]
      exact this
    ·have e : acc ++ line t ++ ts.flatMap line = acc ++ (t :: ts).flatMap line := by simp
     rw [e] at he
     exact ht _ he
theorem gen_list {S R : Type} (L : List S → Nat → Nat → Option R) (n : Nat) (node : Nat → S) (fin : List S → R)
  (hend : ∀ acc, acc.length ≤ n → Ev (L acc n) (fin acc)) (hone : ∀ i, i < n → ∀ acc : List S, acc.length ≤ i → ∀ r, Ev (L (acc ++ [node i]) (i + 1)) r → Ev (L acc i) r) :
  ∀ (d i : Nat) (acc : List S), i + d = n → acc.length ≤ i → Ev (L acc i) (fin (acc ++ (List.range' i d).map node))
 | 0, i, acc, h, ha => by
  obtain rfl : i = n := by omega
  simpa using hend acc ha
 | d + 1, i, acc, h, ha => by
  have ih := gen_list L n node fin hend hone d (i + 1) (acc ++ [node i]) (by omega) (by simp; omega)
  rw [List.append_assoc, List.singleton_append, ← List.map_cons] at ih
  have e : i :: List.range' (i + 1) d = List.range' i (d + 1) := by simp [List.range'_succ]
  rw [e] at ih
  exact hone i (by omega) acc ha _ ih
theorem range_map {T S : Type} (ts : List T) (f : T → S) (node : Nat → S) (h : ∀ (i : Nat) (hi : i < ts.length), node i = f ts[i]) : (List.range' 0 ts.length).map node = ts.map f := by
 apply List.ext_getElem
 ·simp
 ·intro i h1 h2
  simp only [List.length_map, List.length_range'] at h1
  simp [h i h1]
structure LnOk (l : List UInt8) : Prop where
 ne : l ≠ []
 ch : ∀ c ∈ l, c ≠ 10 ∧ c ≠ 13
 len : l.length < 65536
theorem line_ok (a b : List UInt8) (h : LnOk a) (hs : (a ++ 10 :: b).length ≤ 1000000) : ¬ (strB (a ++ 10 :: b)).size = 0 ∧ LineOk (strB (a ++ 10 :: b)) ∧ GL.lineOf (strB (a ++ 10 :: b)) = strB a ∧ GL.restOf (strB (a ++ 10 :: b)) = strB b := by
 have h10 : ∀ c ∈ a, c ≠ 10 := fun c hc => (h.ch c hc).1
 have hp : 0 < a.length := List.length_pos_iff.2 h.ne
 refine ⟨by rw [strB_size]; simp, ⟨by rw [strB_size]; omega, by rw [lineEnd_lf a b h10]; exact h.len, ?_⟩, lineOf_lf a b h10, restOf_lf a b h10⟩
 rw [lineOf_lf a b h10, strB_size, show ((a.length : Nat) : Int) - 1 = ((a.length - 1 : Nat) : Int) by omega, GL.bt_list _ _ (by rw [strB_size]; omega)]
 intro e
 have hm : a[a.length - 1]'(by omega) ∈ a := List.getElem_mem _
 apply (h.ch _ hm).2
 apply UInt8.toNat_inj.1
 have : ((strB a).data.toList[a.length - 1]'(by rw [strB_dl]; omega)) = a[a.length - 1]'(by omega) := by simp only [strB_dl]
 rw [← this]
 show _ = 13
 omega
theorem rows_end {α : Type} (L : ByteArray → Option (Option α)) (q : Nat) : rowsF L (q + 1) (strB []) = some [] := by
 unfold rowsF
 rw [if_pos (by rw [strB_size]; rfl)]
theorem rows_cons {α : Type} (L : ByteArray → Option (Option α)) (q : Nat) (a b : List UInt8) (h : LnOk a) (hs : (a ++ 10 :: b).length ≤ 1000000) (m : Option α) (ms : List α) (hm : L (strB a) = some m) (hr : rowsF L q (strB b) = some ms) :
  rowsF L (q + 1) (strB (a ++ 10 :: b)) = some (m.toList ++ ms) := by
 obtain ⟨h1, h2, h3, h4⟩ := line_ok a b h hs
 unfold rowsF
 rw [if_neg h1, if_pos h2, h3, h4, hm, hr]
 rfl
theorem rows_text {T α : Type} (L : ByteArray → Option (Option α)) (line : T → List UInt8) (val : T → α) : ∀ (ts : List T) (q : Nat), ts.length < q → (∀ t ∈ ts, LnOk (line t) ∧ L (strB (line t)) = some (some (val t))) → (ts.flatMap fun t => line t ++ [10]).length ≤ 1000000 →
  rowsF L q (strB (ts.flatMap fun t => line t ++ [10])) = some (ts.map val)
 | [], q + 1, _, _, _ => rows_end L q
 | t :: ts, q + 1, hq, h, hl => by
  have e : (t :: ts).flatMap (fun t => line t ++ [10]) = line t ++ 10 :: ts.flatMap (fun t => line t ++ [10]) := by simp
  rw [e] at hl ⊢
  have ih := rows_text L line val ts q (by simpa using hq) (fun u hu => h u (by simp [hu])) (by simp only [List.length_append, List.length_cons] at hl; omega)
  exact rows_cons L q (line t) _ (h t (by simp)).1 hl (some (val t)) _ (h t (by simp)).2 ih
theorem head_line (a b : List UInt8) (h : LnOk a) (hs : (a ++ 10 :: b).length ≤ 1000000) : headF (strB (a ++ 10 :: b)) = some (strB b) := by
 obtain ⟨h1, h2, h3, h4⟩ := line_ok a b h hs
 unfold headF
 rw [if_neg h1, if_pos h2, h4]
theorem rowsF_more {α : Type} {L : ByteArray → Option (Option α)} : ∀ {q k : Nat} {t : ByteArray} {r : List α}, q ≤ k → rowsF L q t = some r → rowsF L k t = some r
 | 0, _, _, _, _, h => by cases h
 | q + 1, 0, _, _, hk, _ => by omega
 | q + 1, k + 1, t, r, hk, h => by
  unfold rowsF at h ⊢
  split at h
  ·rename_i h0; rw [if_pos h0]; exact h
  ·rename_i h0
   rw [if_neg h0]
   split at h
   ·rename_i h1
    rw [if_pos h1]
    obtain ⟨m, hm, h⟩ := Option.bind_eq_some_iff.1 h
    obtain ⟨ms, hms, h⟩ := Option.bind_eq_some_iff.1 h
    rw [hm, Option.bind_some, rowsF_more (by omega) hms, Option.bind_some]
    exact h
   ·cases h
theorem flat_len {T : Type} (line : T → List UInt8) : ∀ (ts : List T) (t : T), t ∈ ts → (line t).length ≤ (ts.flatMap line).length
 | [], t, h => by cases h
 | u :: ts, t, h => by
  rw [List.flatMap_cons, List.length_append]
  rcases List.mem_cons.1 h with rfl | h
  ·omega
  ·have := flat_len line ts t h; omega
theorem read_text (l : List UInt8) (h : l.length ≤ 1048576) : texts_Read.f (strB l) = some (l.map (fun b => (b.toNat : Int)), none) := by
 unfold texts_Read.f
 rw [if_pos (by rw [strB_size]; omega), strB_dl]
theorem nums_text (l : List UInt8) : strOfNums (l.map (fun b => (b.toNat : Int))) = strB l := by
 have := strNums2 (strB l)
 rw [strB_dl] at this
 exact this
theorem gen_end {print : Nat → Option (ByteArray × Int)} {tree : Nat → Option (ByteArray × Int × Bool × Int × Int × Nat × ByteArray × List S39 × Int)} {door : ByteArray → S43 → Prop} {l : List S31} (h : l.length ≤ 1000) (text : List UInt8)
  (hp : Ev print (strB text, 1)) (d : Nat) (n : S43) (hf : text.length ≤ 40000 → FitN d n)
  (ht : text.length ≤ 40000 → Ev tree ((convN d n).f0, (convN d n).f1, (convN d n).f2, (convN d n).f3, (convN d n).f4, (convN d n).f5, (convN d n).f6, (convN d n).f7, 1)) (hd : text.length ≤ 40000 → door (strB text) n) : BackOk print tree door l := by
 by_cases hsz : 40000 < text.length
 ·obtain ⟨K, hk⟩ := hp
  exact .noPrint h K _ _ (hk K (Nat.le_refl _)) (.inr (by rw [strB_size]; exact hsz))
 ·exact back_same h _ hp (by rw [strB_size]; omega) d n (hf (by omega)) (ht (by omega)) (hd (by omega))
theorem gen_no {print : Nat → Option (ByteArray × Int)} {tree : Nat → Option (ByteArray × Int × Bool × Int × Int × Nat × ByteArray × List S39 × Int)} {door : ByteArray → S43 → Prop} {l : List S31} (h : l.length ≤ 1000) (hp : Ev print (⟨#[]⟩, 2)) : BackOk print tree door l := by
 obtain ⟨K, hk⟩ := hp
 exact .noPrint h K _ _ (hk K (Nat.le_refl _)) (.inl (by decide))
end Go.Proofs.YtednjmngalmdkaaGreatDoor.GPC
end
section
/- Hexadecimal numbers with noughts ahead, in small or great letters, and decimal ones: printed, read by strconv.ParseUint; spec.counted; texts with blanks behind. Conditions: as they say. -/
namespace Go.Proofs.YtednjmngalmdkaaGreatDoor.GPC
open Go Go.RowKit Go.Proofs.YtednjmngalmdkaaGreatDoorW.PrintWords Go.Proofs.YtednjmngalmdkaaGreatDoorW.PrintLast Go.Proofs.YtednjmngalmdkaaGreatDoor.PF
set_option linter.unusedVariables false
theorem shl32 : (IntKind.u64.wrap ((IntKind.u64.wrap ((shl .u64 1 (wrap64 (32 - 1))) * 2)) - 1)) = 4294967295 := by decide +kernel
theorem counted_l (f0 : ByteArray) (l : List Int) (f2 : List ByteArray) (n w : Int) (hl : l.length ≤ 2147483647) : ∀ (d i : Nat), i + d = l.length →
  ∃ b, Ev (fun k => spec_counted.l0 k n 32 w l (l.length : Int) (i : Int) f0 l f2) b ∧ (b = true → (l.length : Int) = n ∧ (f2.length : Int) = w ∧ ∀ x ∈ l.drop i, x ≤ 4294967295)
 | 0, i, h => by
  by_cases h1 : (l.length : Int) = n
  ·refine ⟨_, Ev.step (f := fun _ => some ((f2.length : Int) == w)) (fun k => by simp only [spec_counted.l0]; rw [if_neg (by omega), if_pos h1]) (Ev.now _), fun e => ⟨h1, beq_iff_eq.1 e, fun x hx => ?_⟩⟩
   rw [List.drop_eq_nil_of_le (by omega)] at hx; cases hx
  ·exact ⟨false, Ev.step (f := fun _ => some false) (fun k => by simp only [spec_counted.l0]; rw [if_neg (by omega), if_neg h1]) (Ev.now _), fun e => by cases e⟩
 | d + 1, i, h => by
  have hi : i < l.length := by omega
  have hw : wrap64 ((i : Int) + 1) = ((i + 1 : Nat) : Int) := by unfold wrap64; omega
  have h31 : 0 ≤ wrap64 (32 - 1) := by unfold wrap64; omega
  have hrd : rd l (i : Int) = l[i] := by simp [rd, List.getD_eq_getElem?_getD, List.getElem?_eq_getElem hi]
  by_cases hc : rd l (i : Int) > 4294967295
  ·exact ⟨false, Ev.step (f := fun _ => some false) (fun k => by simp only [spec_counted.l0]; rw [if_pos (by omega), if_pos (by omega), if_pos (by omega), if_pos h31, shl32, if_pos hc]) (Ev.now _), fun e => by cases e⟩
  ·obtain ⟨b, hb, hx⟩ := counted_l f0 l f2 n w hl d (i + 1) (by omega)
   refine ⟨b, Ev.step (fun k => by simp only [spec_counted.l0]; rw [if_pos (by omega), if_pos (by omega), if_pos (by omega), if_pos h31, shl32, if_neg hc, hw]) hb, fun e => ⟨(hx e).1, (hx e).2.1, fun x hm => ?_⟩⟩
   rw [List.drop_eq_getElem_cons hi] at hm
   rcases List.mem_cons.1 hm with rfl | hm
   ·rw [hrd] at hc; omega
   ·exact (hx e).2.2 x hm
theorem counted_ev (f0 : ByteArray) (l : List Int) (f2 : List ByteArray) (n w : Int) (hl : l.length ≤ 2147483647) :
  ∃ b, Ev (fun k => spec_counted.f k f0 l f2 n 32 w) b ∧ (b = true → (l.length : Int) = n ∧ (f2.length : Int) = w ∧ ∀ x ∈ l, x ≤ 4294967295) := by
 obtain ⟨b, hb, hx⟩ := counted_l f0 l f2 n w hl l.length 0 (by omega)
 exact ⟨b, Ev.congr (fun k => rfl) hb, fun e => by simpa using hx e⟩
def hexP (m n : Nat) : List UInt8 := padL m (digB 16 n)
def hexU (m n : Nat) : List UInt8 := upL (hexP m n)
theorem hex_digits (n : Nat) (h : n < 4294967296) : (digB 16 n).length ≤ 8 := digB_length 16 n 7 (by omega) (by omega)
theorem hexP_len (m n : Nat) (h : n < 4294967296) (hm : m ≤ 8) : (hexP m n).length ≤ 8 := by
 have := hex_digits n h
 simp only [hexP, padL, List.length_append, List.length_replicate]
 omega
theorem hexP_dig (m n : Nat) : ∀ c ∈ hexP m n, isDig c = true := fun c hc => by
 rcases List.mem_append.1 hc with hc | hc
 ·rw [(List.mem_replicate.1 hc).2]; decide
 ·exact digB_dig 16 n (by omega) (by omega) c hc
theorem hexP_ne (m n : Nat) : hexP m n ≠ [] := by
 intro e
 have := digB_ne 16 n
 simp only [hexP, padL, List.append_eq_nil_iff] at e
 exact this e.2
theorem upL_len (l : List UInt8) : (upL l).length = l.length := by simp [upL]
theorem hexP_pu (m n mx : Nat) (h : n ≤ mx) : puN 16 mx 0 (hexP m n) = some n := by
 unfold hexP padL
 rw [puN_noughts 16 mx (by omega), puN_dig 16 n mx (by omega) (by omega) h]
theorem hexU_pu (m n mx : Nat) (h : n ≤ mx) : puN 16 mx 0 (hexU m n) = some n := by
 unfold hexU
 rw [puN_up 16 mx _ 0 (hexP_dig m n), hexP_pu m n mx h]
theorem pu_hex32 (l : List UInt8) (n : Nat) (hne : l ≠ []) (hl : l.length ≤ 1000) (h : puN 16 4294967295 0 l = some n) : puF (strB l) 16 32 = some (n : Int) := by
 have hp : 0 < l.length := List.length_pos_iff.2 hne
 unfold puF strconv_ParseUint.f istrconv_ParseUint.f
 rw [if_neg (by rw [strB_size]; omega), if_neg (by decide), if_neg (by decide), if_pos ⟨rfl, rfl⟩, if_neg (by rw [strB_size]; omega), strB_dl, h]
 rfl
theorem pu_dec32 (l : List UInt8) (n : Nat) (hne : l ≠ []) (hl : l.length ≤ 1000) (h : puN 10 4294967295 0 l = some n) : puF (strB l) 10 32 = some (n : Int) := by
 have hp : 0 < l.length := List.length_pos_iff.2 hne
 unfold puF strconv_ParseUint.f istrconv_ParseUint.f
 rw [if_neg (by rw [strB_size]; omega), if_neg (by decide), if_neg (by decide), if_neg (by decide), if_pos ⟨rfl, rfl⟩, if_neg (by rw [strB_size]; omega), strB_dl, h]
 rfl
theorem hexU_parse (m n : Nat) (h : n < 4294967296) (hm : m ≤ 8) : puF (strB (hexU m n)) 16 32 = some (n : Int) := by
 have := hexP_len m n h hm
 exact pu_hex32 _ n (fun e => hexP_ne m n (by unfold hexU upL at e; exact List.map_eq_nil_iff.1 e)) (by unfold hexU; rw [upL_len]; omega) (hexU_pu m n _ (by omega))
theorem dec_parse (n : Nat) (h : n < 4294967296) : puF (strB (digB 10 n)) 10 32 = some (n : Int) := by
 have := dig_len n (by omega)
 exact pu_dec32 _ n (digB_ne 10 n) (by omega) (puN_dig 10 n _ (by omega) (by omega) (by omega))
theorem upL_low (l : List UInt8) (h : ∀ c ∈ l, c.toNat < 97) : upL l = l := by
 unfold upL
 refine (List.map_congr_left fun c hc => ?_).trans (List.map_id l)
 rw [if_neg (by have := h c hc; omega)]
 rfl
theorem one_parse (m n : Nat) (h : n ≤ 9) (hm : m ≤ 8) : puF (strB (hexU m n)) 10 32 = some (n : Int) := by
 have e1 : digB 16 n = [dch n] := by unfold digB; rw [dif_pos (.inl (by omega))]
 have e2 : digB 10 n = [dch n] := by unfold digB; rw [dif_pos (.inl (by omega))]
 have e3 : hexP m n = List.replicate (m - (digB 10 n).length) 48 ++ digB 10 n := by unfold hexP padL; rw [e1, e2]
 have hlow : ∀ c ∈ hexP m n, c.toNat < 97 := fun c hc => by
  rw [e3] at hc
  rcases List.mem_append.1 hc with hc | hc
  ·rw [(List.mem_replicate.1 hc).2]; decide
  ·have := dig10 n c hc; omega
 have hl := hexP_len m n (by omega) hm
 unfold hexU
 rw [upL_low _ hlow]
 refine pu_dec32 _ n (hexP_ne m n) (by omega) ?_
 rw [e3, puN_noughts 10 _ (by omega), puN_dig 10 n _ (by omega) (by omega) (by omega)]
theorem up_nat : ∀ c : UInt8, upI (c.toNat : Int) = (((if 97 ≤ c.toNat then c - 32 else c : UInt8)).toNat : Int) := by
 intro c
 have key : ∀ n : Fin 256, upI (n.val : Int) = (((if 97 ≤ (UInt8.ofNat n.val).toNat then UInt8.ofNat n.val - 32 else UInt8.ofNat n.val : UInt8)).toNat : Int) := by decide +kernel
 have := key ⟨c.toNat, c.toNat_lt⟩
 simpa using this
theorem upB_l (l : List UInt8) : upB (strB l) = strB (upL l) := by
 unfold upB
 rw [strB_dl, ← nums_text (upL l)]
 congr 1
 unfold upL
 rw [List.map_map]
 exact List.map_congr_left fun c _ => up_nat c
theorem upper_ev (m n : Nat) (h : n < 4294967296) (hm : m ≤ 8) : Ev (fun k => spec_upper.f k (n : Int) (m : Int)) (strB (hexU m n)) := by
 have hp := padded_ev n 16 m (by omega) (by omega) (by omega) (by omega)
 have hl := hexP_len m n h hm
 refine evB hp (evG (by rw [strB_size]; unfold hexP at hl; omega) ?_)
 rw [upB_l]
 exact Ev.now _
def leftL (m : Nat) (l : List UInt8) : List UInt8 := l ++ List.replicate (m - l.length) 32
theorem fields_tailb (b : UInt8) (hb : Lib.isSp b = true) (bl : List UInt8) (hbl : ∀ c ∈ bl, Lib.isSp c = true) : ∀ (ws : List (List UInt8)), (∀ w ∈ ws, w ≠ [] ∧ ∀ c ∈ w, Lib.isSp c = false) → Lib.fields (Words [b] ws ++ bl) = ws
 | [], _ => by
  rw [Words, List.nil_append]
  have := fields_blanks bl [] hbl
  rw [List.append_nil] at this
  rw [this]
  rfl
 | [w], h => by
  rw [Words]
  cases bl with
  | nil => rw [List.append_nil]; exact fields_last w (h w (by simp)).1 (h w (by simp)).2
  | cons c r =>
   rw [fields_word w c r (h w (by simp)).1 (h w (by simp)).2 (hbl c (by simp))]
   have := fields_blanks (c :: r) [] hbl
   rw [List.append_nil] at this
   rw [this]
   rfl
 | w :: v :: r, h => by
  have ih := fields_tailb b hb bl hbl (v :: r) (fun x hx => h x (by simp [hx]))
  rw [Words, List.append_assoc, List.append_assoc, List.singleton_append, fields_word w b _ (h w (by simp)).1 (h w (by simp)).2 hb,
   show b :: (Words [b] (v :: r) ++ bl) = [b] ++ (Words [b] (v :: r) ++ bl) from rfl, fields_blanks [b] _ (by simp [hb]), ih]
end Go.Proofs.YtednjmngalmdkaaGreatDoor.GPC
end
section
/- spec.Right, spec.Where, spec.Word, spec.words on lists of bytes. Conditions: lengths. -/
namespace Go.Proofs.YtednjmngalmdkaaGreatDoor.GPC
open Go Go.RowKit Go.Proofs.YtednjmngalmdkaaGreatDoorW.PrintWords Go.Proofs.YtednjmngalmdkaaGreatDoorW.PrintLast
set_option linter.unusedVariables false
theorem bt_strB (l : List UInt8) (i : Nat) (h : i < l.length) : bt (strB l) (i : Int) = ((l[i]).toNat : Int) := by
 rw [GL.bt_list _ _ (by rw [strB_size]; exact h)]
 simp only [strB_dl]
end Go.Proofs.YtednjmngalmdkaaGreatDoor.GPC
end
