/- Texts of this claim, put together: GPDx4, GivenAtoi, GivenRows, GPEx0, GPEx2. Conditions: as each one says. -/
import Derived.Test.YtednjmngalmdkaaGreatDoorKCg0
import Derived.Test.YtednjmngalmdkaaGreatDoorKCg1
import Derived.Test.YtednjmngalmdkaaGreatDoorKCg2
import Derived.Laws.FloatArith
import Derived.Laws.Cover2
import Derived.Shelf.Strconv.Atoi
import Derived.Test.YtednjmngalmdkaaGreatDoorProg
import Derived.Below
import Derived.Deep.Draws
import Derived.Deep.AppendLies
import Derived.Maps.AppendAt
import Derived.OwnWalk
import Derived.Laws.BytesArg
import Derived.Laws.MakeOwn
import Derived.Laws.OwnMore
import Derived.Deep.OwnRows
import Derived.Tactics
import Derived.Lib.ConvBytes
import Derived.Laws.Slices
import Derived.WalkKit
import Derived.KernelRfl
import Derived.RowKit3
import Derived.Deep.LoopGhost
import Derived.Deep.QuietTactic
import Derived.BigQuiet
import Derived.WideLaws
import Derived.Deep.DeepCutAuto
import Derived.Deep.CutBlock
import Derived.Deep.RegionHeld3
import Derived.Laws.Rows
import Derived.Lib.AppendStr
import Derived.ArgAppend
import Derived.Laws.IdiomCopy
import Derived.OrdersHeld
import Derived.Laws.BitsLemmas
import Derived.RowKit
section
namespace Go.Proofs.YtednjmngalmdkaaGreatDoor.GPC
open Go.RowKit Go.Proofs.YtednjmngalmdkaaGreatDoorW.PrintWords Go.Proofs.YtednjmngalmdkaaGreatDoorW.PrintLast Go.Proofs.YtednjmngalmdkaaGreatDoorW.PrintMore
attribute [local go_sem] max2_int min2_int max_two min_two max_three min_three max_four min_four   -- for this text's walks alone
set_option linter.unusedVariables false
set_option linter.unusedSimpArgs false

attribute [local go_sem] run_store_float
/-! ### spec_textNode: function 65 -/
def spec_textNode.f (a0 : ByteArray) (a1 : ByteArray) : Option (ByteArray × Int × Bool × Int × Int × Nat × ByteArray × (List (S39))) := some (a0, 5, false, 0, 0, 0, a1, ([] : List (S39)))
set_option maxHeartbeats 8000000 in
set_option maxRecDepth 100000 in
theorem spec_textNode.calls (a0 : ByteArray) (a1 : ByteArray) (r1 : ByteArray) (r2 : Int) (r3 : Bool) (r4 : Int) (r5 : Int) (r6 : Nat) (r7 : ByteArray) (r8 : List (S39)) (w : World) (h : spec_textNode.f a0 a1 = some (r1, r2, r3, r4, r5, r6, r7, r8)) :
  Calls Tryz.prog 65 #[.string a0, .string a1] w fun e w' => ∃ v7_ : Value, e = .returned (.agg #[.string r1, .int .i64 r2, .bool r3, .int .i64 r4, .int .u64 r5, .float .f64 r6, .string r7, v7_]) ∧ Kd.R k39 39 w' w.heap.size (fun _ => True) v7_ r8 ∧ Below w.heap.size w w' := by
 have hu39 := Tryz.underlying39
 have HB := Aside0.mk (Below.refl w.heap.size w)
 have H : (some (a0, 5, false, 0, 0, 0, a1, ([] : List (S39)))) = some (r1, r2, r3, r4, r5, r6, r7, r8) := h
 clear h
 simp only [Option.some.injEq, Prod.mk.injEq] at H
 obtain ⟨rfl, rfl, rfl, rfl, rfl, rfl, rfl, rfl⟩ := H
 go_enter Tryz.func65, Tryz.ntmps65
 go_wp2_with (first | ((with_reducible refine gate_dst (N := 4) rfl ?_); refine box_event ?hg (N := 4) ?hd (cs := #[.string (⟨#[]⟩ : ByteArray), .int .i64 0, .bool false, .int .i64 0, .int .u64 0, .float .f64 0, .string (⟨#[]⟩ : ByteArray), .slice none 0 0]) (t := 39) ?hr ?_; (case hd => rfl); (case hg => rfl); (case hr => first | (go_simp; done) | (go_simp; rfl)); intro gb129 hg w3 hbox hb; have n0_ := Aside0.mk (below_step (by repeat (first | (with_reducible first | exact HB.out | apply below_alloc | apply pw_below_drewN | apply below_drew1) | exact HB.out)) hb); have n1_ := Aside0.mk (hbox); have n2_ := Aside0.mk ((by rw [hg]; exact (below_size (by repeat (first | (with_reducible first | exact HB.out | apply below_alloc | apply pw_below_drewN | apply below_drew1) | exact HB.out))) : w.heap.size ≤ gb129)); have n3_ := Aside0.mk ((by rw [hg]; exact (below_size (by repeat (first | (with_reducible first | exact HB.out | apply below_alloc | apply pw_below_drewN | apply below_drew1) | exact HB.out))) : w.heap.size ≤ gb129)); clear HB; have HB := n0_; have BK129 := n1_; have GW129 := n2_; have GE129 := n3_; clear n0_ n1_ n2_ n3_; clear hb hbox hg; have hcz4_0 : w3.cell? ⟨gb129, 0, none⟩ = some (.string (⟨#[]⟩ : ByteArray)) := (blk_cell BK129.out 0).trans rfl; have hcz4_1 : w3.cell? ⟨gb129, 1, none⟩ = some (.int .i64 0) := (blk_cell BK129.out 1).trans rfl; have hcz4_2 : w3.cell? ⟨gb129, 2, none⟩ = some (.bool false) := (blk_cell BK129.out 2).trans rfl; have hcz4_3 : w3.cell? ⟨gb129, 3, none⟩ = some (.int .i64 0) := (blk_cell BK129.out 3).trans rfl; have hcz4_4 : w3.cell? ⟨gb129, 4, none⟩ = some (.int .u64 0) := (blk_cell BK129.out 4).trans rfl; have hcz4_5 : w3.cell? ⟨gb129, 5, none⟩ = some (.float .f64 0) := (blk_cell BK129.out 5).trans rfl; have hcz4_6 : w3.cell? ⟨gb129, 6, none⟩ = some (.string (⟨#[]⟩ : ByteArray)) := (blk_cell BK129.out 6).trans rfl; have hcz4_7 : w3.cell? ⟨gb129, 7, none⟩ = some (.slice none 0 0) := (blk_cell BK129.out 7).trans rfl; have hfz4_0 := blk_frozen BK129.out 0; have hfz4_1 := blk_frozen BK129.out 1; have hfz4_2 := blk_frozen BK129.out 2; have hfz4_3 := blk_frozen BK129.out 3; have hfz4_4 := blk_frozen BK129.out 4; have hfz4_5 := blk_frozen BK129.out 5; have hfz4_6 := blk_frozen BK129.out 6; have hfz4_7 := blk_frozen BK129.out 7))
 refine bodyPost_ret (results_cell_row rfl _ _ gb129 39 #[.string a0, .int .i64 5, .bool false, .int .i64 0, .int .u64 0, .float .f64 0, .string a1, .slice none 0 0] (0, 0) _ rfl (by (with_reducible repeat (first | refine blk_drewN ?_ _ | refine blk_drew ?_ | refine blk_alloc ?_ _)); refine blk_put (cs := #[.string a0, .int .i64 5, .bool false, .int .i64 0, .int .u64 0, .float .f64 0, .string a1, .slice none 0 0]) ?_ 7 _ rfl; (with_reducible repeat (first | refine blk_drewN ?_ _ | refine blk_drew ?_ | refine blk_alloc ?_ _)); refine blk_put (cs := #[.string a0, .int .i64 5, .bool false, .int .i64 0, .int .u64 0, .float .f64 0, .string (⟨#[]⟩ : ByteArray), .slice none 0 0]) ?_ 6 _ rfl; (with_reducible repeat (first | refine blk_drewN ?_ _ | refine blk_drew ?_ | refine blk_alloc ?_ _)); refine blk_put (cs := #[.string a0, .int .i64 5, .bool false, .int .i64 0, .int .u64 0, .float .f64 0, .string (⟨#[]⟩ : ByteArray), .slice none 0 0]) ?_ 5 _ rfl; (with_reducible repeat (first | refine blk_drewN ?_ _ | refine blk_drew ?_ | refine blk_alloc ?_ _)); refine blk_put (cs := #[.string a0, .int .i64 5, .bool false, .int .i64 0, .int .u64 0, .float .f64 0, .string (⟨#[]⟩ : ByteArray), .slice none 0 0]) ?_ 4 _ rfl; (with_reducible repeat (first | refine blk_drewN ?_ _ | refine blk_drew ?_ | refine blk_alloc ?_ _)); refine blk_put (cs := #[.string a0, .int .i64 5, .bool false, .int .i64 0, .int .u64 0, .float .f64 0, .string (⟨#[]⟩ : ByteArray), .slice none 0 0]) ?_ 3 _ rfl; (with_reducible repeat (first | refine blk_drewN ?_ _ | refine blk_drew ?_ | refine blk_alloc ?_ _)); refine blk_put (cs := #[.string a0, .int .i64 5, .bool false, .int .i64 0, .int .u64 0, .float .f64 0, .string (⟨#[]⟩ : ByteArray), .slice none 0 0]) ?_ 2 _ rfl; (with_reducible repeat (first | refine blk_drewN ?_ _ | refine blk_drew ?_ | refine blk_alloc ?_ _)); refine blk_put (cs := #[.string a0, .int .i64 0, .bool false, .int .i64 0, .int .u64 0, .float .f64 0, .string (⟨#[]⟩ : ByteArray), .slice none 0 0]) ?_ 1 _ rfl; (with_reducible repeat (first | refine blk_drewN ?_ _ | refine blk_drew ?_ | refine blk_alloc ?_ _)); refine blk_put (cs := #[.string (⟨#[]⟩ : ByteArray), .int .i64 0, .bool false, .int .i64 0, .int .u64 0, .float .f64 0, .string (⟨#[]⟩ : ByteArray), .slice none 0 0]) ?_ 0 _ rfl; (with_reducible repeat (first | refine blk_drewN ?_ _ | refine blk_drew ?_ | refine blk_alloc ?_ _)); exact BK129.out) Tryz.underlying39 rfl (by kernel_rfl)) rfl ?_
 exact ⟨_, by first | rfl | (simp [errW_none, errW_some] <;> rfl) | (simp [*, errW_none, errW_some] <;> rfl), by first | exact Kd.R_nil _ _ _ _ _ | exact Kd.N_nil _ _ _ _ _ | exact Kd.V_nil _ _ _ _ _ | exact Kd.Q_nil _ _ _ _ _ | exact Kd.S_nil _ _ _ _ _, by repeat (first | (with_reducible first | exact HB.out | apply below_alloc | apply pw_below_drewN | apply below_drew1 | refine below_set ?_ GE129.out) | exact HB.out)⟩
/-! ### spec_listNode: function 66 -/
def spec_listNode.f (a0 : ByteArray) (l1 : List (S39)) : Option (ByteArray × Int × Bool × Int × Int × Nat × ByteArray × (List (S39))) := some (a0, 6, false, 0, 0, 0, (⟨#[]⟩ : ByteArray), l1)
set_option maxHeartbeats 8000000 in
set_option maxRecDepth 100000 in
theorem spec_listNode.calls (a0 : ByteArray) (P1_ : Nat → Prop) (A1 : Option Addr) (c1 : Nat) (l1 : List (S39)) (r1 : ByteArray) (r2 : Int) (r3 : Bool) (r4 : Int) (r5 : Int) (r6 : Nat) (r7 : ByteArray) (r8 : List (S39)) (w : World) (hs1 : Kd.V k39 39 w w.heap.size (fun k_ => P1_ k_) (.slice A1 l1.length c1) l1) (h : spec_listNode.f a0 l1 = some (r1, r2, r3, r4, r5, r6, r7, r8)) :
  Calls Tryz.prog 66 #[.string a0, .slice A1 l1.length c1] w fun e w' => ∃ v7_ : Value, e = .returned (.agg #[.string r1, .int .i64 r2, .bool r3, .int .i64 r4, .int .u64 r5, .float .f64 r6, .string r7, v7_]) ∧ Kd.V k39 39 w' w.heap.size (fun k_ => (P1_ k_ ∨ w.heap.size ≤ k_)) v7_ r8 ∧ Below w.heap.size w w' := by
 have hu39 := Tryz.underlying39
 have HO1 := Aside0.mk (show Kd.V k39 39 w w.heap.size (fun k_ => (P1_ k_ ∨ w.heap.size ≤ k_)) (.slice A1 l1.length c1) l1 from Kd.V_mono hs1 (fun k_ hk => .inl hk))
 have HB := Aside0.mk (Below.refl w.heap.size w)
 have H : (some (a0, 6, false, 0, 0, 0, (⟨#[]⟩ : ByteArray), l1)) = some (r1, r2, r3, r4, r5, r6, r7, r8) := h
 clear h
 simp only [Option.some.injEq, Prod.mk.injEq] at H
 obtain ⟨rfl, rfl, rfl, rfl, rfl, rfl, rfl, rfl⟩ := H
 go_enter Tryz.func66, Tryz.ntmps66
 go_wp2_with (first | ((with_reducible refine gate_dst (N := 4) rfl ?_); refine box_event ?hg (N := 4) ?hd (cs := #[.string (⟨#[]⟩ : ByteArray), .int .i64 0, .bool false, .int .i64 0, .int .u64 0, .float .f64 0, .string (⟨#[]⟩ : ByteArray), .slice none 0 0]) (t := 39) ?hr ?_; (case hd => rfl); (case hg => rfl); (case hr => first | (go_simp; done) | (go_simp; rfl)); intro gb130 hg w3 hbox hb; have n0_ := Aside0.mk (Kd.V_below (Kd.V_elderB (by (with_reducible repeat (first | apply Kd.V_alloc | apply Kd.V_drewN | apply Kd.V_drew)); exact HO1.out) gb130 (Nat.le_of_eq hg.symm)) hb); have n1_ := Aside0.mk (below_step (by repeat (first | (with_reducible first | exact HB.out | apply below_alloc | apply pw_below_drewN | apply below_drew1) | exact HB.out)) hb); have n2_ := Aside0.mk (hbox); have n3_ := Aside0.mk ((by rw [hg]; exact (below_size (by repeat (first | (with_reducible first | exact HB.out | apply below_alloc | apply pw_below_drewN | apply below_drew1) | exact HB.out))) : w.heap.size ≤ gb130)); have n4_ := Aside0.mk ((by rw [hg]; exact (below_size (by repeat (first | (with_reducible first | exact HB.out | apply below_alloc | apply pw_below_drewN | apply below_drew1) | exact HB.out))) : w.heap.size ≤ gb130)); clear HO1; clear HB; have HO1 := n0_; have HB := n1_; have BK130 := n2_; have GW130 := n3_; have GE130 := n4_; clear n0_ n1_ n2_ n3_ n4_; clear hb hbox hg; have hcz4_0 : w3.cell? ⟨gb130, 0, none⟩ = some (.string (⟨#[]⟩ : ByteArray)) := (blk_cell BK130.out 0).trans rfl; have hcz4_1 : w3.cell? ⟨gb130, 1, none⟩ = some (.int .i64 0) := (blk_cell BK130.out 1).trans rfl; have hcz4_2 : w3.cell? ⟨gb130, 2, none⟩ = some (.bool false) := (blk_cell BK130.out 2).trans rfl; have hcz4_3 : w3.cell? ⟨gb130, 3, none⟩ = some (.int .i64 0) := (blk_cell BK130.out 3).trans rfl; have hcz4_4 : w3.cell? ⟨gb130, 4, none⟩ = some (.int .u64 0) := (blk_cell BK130.out 4).trans rfl; have hcz4_5 : w3.cell? ⟨gb130, 5, none⟩ = some (.float .f64 0) := (blk_cell BK130.out 5).trans rfl; have hcz4_6 : w3.cell? ⟨gb130, 6, none⟩ = some (.string (⟨#[]⟩ : ByteArray)) := (blk_cell BK130.out 6).trans rfl; have hcz4_7 : w3.cell? ⟨gb130, 7, none⟩ = some (.slice none 0 0) := (blk_cell BK130.out 7).trans rfl; have hfz4_0 := blk_frozen BK130.out 0; have hfz4_1 := blk_frozen BK130.out 1; have hfz4_2 := blk_frozen BK130.out 2; have hfz4_3 := blk_frozen BK130.out 3; have hfz4_4 := blk_frozen BK130.out 4; have hfz4_5 := blk_frozen BK130.out 5; have hfz4_6 := blk_frozen BK130.out 6; have hfz4_7 := blk_frozen BK130.out 7))
 refine bodyPost_ret (results_cell_row rfl _ _ gb130 39 #[.string a0, .int .i64 6, .bool false, .int .i64 0, .int .u64 0, .float .f64 0, .string (⟨#[]⟩ : ByteArray), .slice A1 l1.length c1] (0, 0) _ rfl (by (with_reducible repeat (first | refine blk_drewN ?_ _ | refine blk_drew ?_ | refine blk_alloc ?_ _)); refine blk_put (cs := #[.string a0, .int .i64 6, .bool false, .int .i64 0, .int .u64 0, .float .f64 0, .string (⟨#[]⟩ : ByteArray), .slice none 0 0]) ?_ 7 _ rfl; (with_reducible repeat (first | refine blk_drewN ?_ _ | refine blk_drew ?_ | refine blk_alloc ?_ _)); refine blk_put (cs := #[.string a0, .int .i64 6, .bool false, .int .i64 0, .int .u64 0, .float .f64 0, .string (⟨#[]⟩ : ByteArray), .slice none 0 0]) ?_ 6 _ rfl; (with_reducible repeat (first | refine blk_drewN ?_ _ | refine blk_drew ?_ | refine blk_alloc ?_ _)); refine blk_put (cs := #[.string a0, .int .i64 6, .bool false, .int .i64 0, .int .u64 0, .float .f64 0, .string (⟨#[]⟩ : ByteArray), .slice none 0 0]) ?_ 5 _ rfl; (with_reducible repeat (first | refine blk_drewN ?_ _ | refine blk_drew ?_ | refine blk_alloc ?_ _)); refine blk_put (cs := #[.string a0, .int .i64 6, .bool false, .int .i64 0, .int .u64 0, .float .f64 0, .string (⟨#[]⟩ : ByteArray), .slice none 0 0]) ?_ 4 _ rfl; (with_reducible repeat (first | refine blk_drewN ?_ _ | refine blk_drew ?_ | refine blk_alloc ?_ _)); refine blk_put (cs := #[.string a0, .int .i64 6, .bool false, .int .i64 0, .int .u64 0, .float .f64 0, .string (⟨#[]⟩ : ByteArray), .slice none 0 0]) ?_ 3 _ rfl; (with_reducible repeat (first | refine blk_drewN ?_ _ | refine blk_drew ?_ | refine blk_alloc ?_ _)); refine blk_put (cs := #[.string a0, .int .i64 6, .bool false, .int .i64 0, .int .u64 0, .float .f64 0, .string (⟨#[]⟩ : ByteArray), .slice none 0 0]) ?_ 2 _ rfl; (with_reducible repeat (first | refine blk_drewN ?_ _ | refine blk_drew ?_ | refine blk_alloc ?_ _)); refine blk_put (cs := #[.string a0, .int .i64 0, .bool false, .int .i64 0, .int .u64 0, .float .f64 0, .string (⟨#[]⟩ : ByteArray), .slice none 0 0]) ?_ 1 _ rfl; (with_reducible repeat (first | refine blk_drewN ?_ _ | refine blk_drew ?_ | refine blk_alloc ?_ _)); refine blk_put (cs := #[.string (⟨#[]⟩ : ByteArray), .int .i64 0, .bool false, .int .i64 0, .int .u64 0, .float .f64 0, .string (⟨#[]⟩ : ByteArray), .slice none 0 0]) ?_ 0 _ rfl; (with_reducible repeat (first | refine blk_drewN ?_ _ | refine blk_drew ?_ | refine blk_alloc ?_ _)); exact BK130.out) Tryz.underlying39 rfl (by kernel_rfl)) rfl ?_
 exact ⟨_, by first | rfl | (simp [errW_none, errW_some] <;> rfl) | (simp [*, errW_none, errW_some] <;> rfl), by (with_reducible repeat (first | apply Kd.V_alloc | apply Kd.V_drewN | apply Kd.V_drew)); exact Kd.V_mono (Kd.V_far (p := ⟨gb130, 7, none⟩) (Kd.V_far (p := ⟨gb130, 6, none⟩) (Kd.V_far (p := ⟨gb130, 5, none⟩) (Kd.V_far (p := ⟨gb130, 4, none⟩) (Kd.V_far (p := ⟨gb130, 3, none⟩) (Kd.V_far (p := ⟨gb130, 2, none⟩) (Kd.V_far (p := ⟨gb130, 1, none⟩) (Kd.V_far (p := ⟨gb130, 0, none⟩) (Kd.V_mono HO1.out (fun k_ hk => (⟨hk, hk.2⟩ : _ ∧ k_ ≠ gb130))) (fun _ hk => hk.2) (.string a0)) (fun _ hk => hk.2) (.int .i64 6)) (fun _ hk => hk.2) (.bool false)) (fun _ hk => hk.2) (.int .i64 0)) (fun _ hk => hk.2) (.int .u64 0)) (fun _ hk => hk.2) (.float .f64 0)) (fun _ hk => hk.2) (.string (⟨#[]⟩ : ByteArray))) (fun _ hk => hk.2) (.slice A1 l1.length c1)) (fun _ hk => hk.1.1), by repeat (first | (with_reducible first | exact HB.out | apply below_alloc | apply pw_below_drewN | apply below_drew1 | refine below_set ?_ GE130.out) | exact HB.out)⟩
end Go.Proofs.YtednjmngalmdkaaGreatDoor.GPC
end
section
/- Contracts of Go's library at this program, laid by the shelf's own tool: plain declarations. Conditions: as each says. -/
namespace Go.Proofs
open Go.Shelf
def Tryz.lays172_ren : Go.Shelf.Ren := ⟨fun | 172 => 215 | 244 => 223 | 245 => 196 | 247 => 229 | 279 => 209 | 280 => 210 | 281 => 211 | 282 => 212 | 287 => 195 | 316 => 220 | 171 => 221 | 205 => 169 | 321 => 207 | 322 => 208 | 243 => 228 | 246 => 243 | 283 => 258 | 284 => 259 | 285 => 260 | 286 => 261 | 129 => 247 | 317 => 266 | 318 => 251 | 319 => 267 | 320 => 268 | 337 => 271 | 338 => 272 | n => n, fun | 9 => 9 | 3 => 3 | 75 => 170 | 76 => 256 | 4 => 4 | 5 => 5 | 167 => 245 | 37 => 173 | 0 => 0 | 85 => 289 | 2 => 2 | 168 => 247 | 53 => 35 | 175 => 197 | 46 => 227 | 210 => 267 | 127 => 288 | 145 => 234 | 143 => 232 | 21 => 21 | 171 => 335 | 173 => 337 | 212 => 346 | 51 => 118 | 20 => 20 | 213 => 347 | 232 => 356 | 233 => 357 | 80 => 193 | n => n, fun | 15 => 3 | 16 => 4 | 17 => 12 | 18 => 14 | 19 => 15 | n => n⟩
theorem Tryz.lays172 : Go.Proofs.Lays.n172 Tryz.prog Tryz.lays172_ren := {
 mixed := by kernel_rfl
 f129 := Tryz.func247.trans (congrArg some (by kernel_rfl))
 f171 := Tryz.func221.trans (congrArg some (by kernel_rfl))
 f172 := Tryz.func215.trans (congrArg some (by kernel_rfl))
 f205 := Tryz.func169.trans (congrArg some (by kernel_rfl))
 f243 := Tryz.func228.trans (congrArg some (by kernel_rfl))
 f244 := Tryz.func223.trans (congrArg some (by kernel_rfl))
 f245 := Tryz.func196.trans (congrArg some (by kernel_rfl))
 f246 := Tryz.func243.trans (congrArg some (by kernel_rfl))
 f247 := Tryz.func229.trans (congrArg some (by kernel_rfl))
 f279 := Tryz.func209.trans (congrArg some (by kernel_rfl))
 f280 := Tryz.func210.trans (congrArg some (by kernel_rfl))
 f281 := Tryz.func211.trans (congrArg some (by kernel_rfl))
 f282 := Tryz.func212.trans (congrArg some (by kernel_rfl))
 f283 := Tryz.func258.trans (congrArg some (by kernel_rfl))
 f284 := Tryz.func259.trans (congrArg some (by kernel_rfl))
 f285 := Tryz.func260.trans (congrArg some (by kernel_rfl))
 f286 := Tryz.func261.trans (congrArg some (by kernel_rfl))
 f287 := Tryz.func195.trans (congrArg some (by kernel_rfl))
 f316 := Tryz.func220.trans (congrArg some (by kernel_rfl))
 f317 := Tryz.func266.trans (congrArg some (by kernel_rfl))
 f318 := Tryz.func251.trans (congrArg some (by kernel_rfl))
 f319 := Tryz.func267.trans (congrArg some (by kernel_rfl))
 f320 := Tryz.func268.trans (congrArg some (by kernel_rfl))
 f321 := Tryz.func207.trans (congrArg some (by kernel_rfl))
 f322 := Tryz.func208.trans (congrArg some (by kernel_rfl))
 f337 := Tryz.func271.trans (congrArg some (by kernel_rfl))
 f338 := Tryz.func272.trans (congrArg some (by kernel_rfl))
 t0 := Tryz.underlying0
 a0 := Tryz.isAgg0
 z0 := Tryz.sizeOf0
 v0 := Tryz.zeroValue0
 t2 := Tryz.underlying2
 a2 := Tryz.isAgg2
 z2 := Tryz.sizeOf2
 v2 := Tryz.zeroValue2
 t3 := Tryz.underlying3
 a3 := Tryz.isAgg3
 z3 := Tryz.sizeOf3
 v3 := Tryz.zeroValue3
 t4 := Tryz.underlying4
 a4 := Tryz.isAgg4
 z4 := Tryz.sizeOf4
 v4 := Tryz.zeroValue4
 t5 := Tryz.underlying5
 a5 := Tryz.isAgg5
 z5 := Tryz.sizeOf5
 v5 := Tryz.zeroValue5
 t9 := Tryz.underlying9
 a9 := Tryz.isAgg9
 z9 := Tryz.sizeOf9
 v9 := Tryz.zeroValue9
 t20 := Tryz.underlying20
 a20 := Tryz.isAgg20
 z20 := Tryz.sizeOf20
 v20 := Tryz.zeroValue20
 t21 := Tryz.underlying21
 a21 := Tryz.isAgg21
 z21 := Tryz.sizeOf21
 v21 := Tryz.zeroValue21
 t37 := Tryz.underlying173
 a37 := Tryz.isAgg173
 z37 := Tryz.sizeOf173
 v37 := Tryz.zeroValue173
 t46 := Tryz.underlying227
 a46 := Tryz.isAgg227
 z46 := Tryz.sizeOf227
 v46 := Tryz.zeroValue227
 t51 := Tryz.underlying118
 a51 := Tryz.isAgg118
 z51 := Tryz.sizeOf118
 v51 := Tryz.zeroValue118
 t53 := Tryz.underlying35
 a53 := Tryz.isAgg35
 z53 := Tryz.sizeOf35
 v53 := Tryz.zeroValue35
 t75 := Tryz.underlying170
 a75 := Tryz.isAgg170
 z75 := Tryz.sizeOf170
 v75 := Tryz.zeroValue170
 t76 := Tryz.underlying256
 a76 := Tryz.isAgg256
 z76 := Tryz.sizeOf256
 v76 := Tryz.zeroValue256
 t85 := Tryz.underlying289
 a85 := Tryz.isAgg289
 z85 := Tryz.sizeOf289
 v85 := Tryz.zeroValue289
 t127 := Tryz.underlying288
 a127 := Tryz.isAgg288
 z127 := Tryz.sizeOf288
 v127 := Tryz.zeroValue288
 t143 := Tryz.underlying232
 a143 := Tryz.isAgg232
 z143 := Tryz.sizeOf232
 v143 := Tryz.zeroValue232
 t145 := Tryz.underlying234
 a145 := Tryz.isAgg234
 z145 := Tryz.sizeOf234
 v145 := Tryz.zeroValue234
 t167 := Tryz.underlying245
 a167 := Tryz.isAgg245
 z167 := Tryz.sizeOf245
 v167 := Tryz.zeroValue245
 t168 := Tryz.underlying247
 a168 := Tryz.isAgg247
 z168 := Tryz.sizeOf247
 v168 := Tryz.zeroValue247
 t171 := Tryz.underlying335
 a171 := Tryz.isAgg335
 z171 := Tryz.sizeOf335
 v171 := Tryz.zeroValue335
 t173 := Tryz.underlying337
 a173 := Tryz.isAgg337
 z173 := Tryz.sizeOf337
 v173 := Tryz.zeroValue337
 t175 := Tryz.underlying197
 a175 := Tryz.isAgg197
 z175 := Tryz.sizeOf197
 v175 := Tryz.zeroValue197
 t210 := Tryz.underlying267
 a210 := Tryz.isAgg267
 z210 := Tryz.sizeOf267
 v210 := Tryz.zeroValue267
 t212 := Tryz.underlying346
 a212 := Tryz.isAgg346
 z212 := Tryz.sizeOf346
 v212 := Tryz.zeroValue346
 t213 := Tryz.underlying347
 a213 := Tryz.isAgg347
 z213 := Tryz.sizeOf347
 t232 := Tryz.underlying356
 a232 := Tryz.isAgg356
 z232 := Tryz.sizeOf356
 v232 := Tryz.zeroValue356
 t233 := Tryz.underlying357
 a233 := Tryz.isAgg357
 z233 := Tryz.sizeOf357
 v233 := Tryz.zeroValue357
 g15 := by kernel_rfl
 g16 := by kernel_rfl
 g17 := by kernel_rfl
 g18 := by kernel_rfl
 g19 := by kernel_rfl }
open Go.RowKit in
theorem Tryz.strconv_Atoi (s : ByteArray) (n : Int) (hl : s.size ≤ 18) (h : Lib.atoi s.data.toList = some n) (w : World) :
  Calls Tryz.prog 215 #[.string s] w fun e w' => e = .returned (.tuple #[.int .i64 n, .nilIface]) ∧ ∃ t, w' = Lib.bytesWorld w 5 t := Any.strconv_Atoi Tryz.lays172 s n hl h w
end Go.Proofs
end
section
/- Texts of lines, read line by line; strconv.Atoi as a contract. Plain definitions and small laws. Conditions: as they say. -/
namespace Go.Proofs.YtednjmngalmdkaaGreatDoor.GPC
open Go Go.RowKit Go.Proofs.YtednjmngalmdkaaGreatDoorW.PrintWords Go.Proofs.YtednjmngalmdkaaGreatDoorW.PrintLast
set_option linter.unusedVariables false
def LineOk (t : ByteArray) : Prop := t.size ≤ 1000000 ∧ GL.lineEnd t < 65536 ∧ ¬ bt (GL.lineOf t) ((GL.lineOf t).size - 1) = 13
instance (t : ByteArray) : Decidable (LineOk t) := by unfold LineOk; exact inferInstance
def rowsF {α : Type} (L : ByteArray → Option (Option α)) : Nat → ByteArray → Option (List α)
 | 0, _ => none
 | q + 1, t => if t.size = 0 then some [] else
   if LineOk t then (L (GL.lineOf t)).bind fun m => (rowsF L q (GL.restOf t)).bind fun ms => some (m.toList ++ ms) else none
theorem restOf_size (t : ByteArray) (h : 0 < t.size) : (GL.restOf t).size < t.size := by
 unfold GL.restOf
 rw [ByteArray.size_extract]
 have := GL.lineEnd_le t
 split <;> omega
theorem rowsF_size {α : Type} {L : ByteArray → Option (Option α)} {q : Nat} {t : ByteArray} {r : List α} (h : rowsF L q t = some r) : t.size = 0 ∨ t.size ≤ 1000000 := by
 cases q with
 | zero => cases h
 | succ q =>
  unfold rowsF at h
  split at h
  ·exact .inl (by assumption)
  ·split at h
   ·rename_i hc; exact .inr hc.1
   ·cases h
theorem rowsF_step {α : Type} {L : ByteArray → Option (Option α)} {q : Nat} {t : ByteArray} {r : List α} (h : rowsF L (q + 1) t = some r) (ht : ¬ t.size = 0) :
  LineOk t ∧ ∃ m ms, L (GL.lineOf t) = some m ∧ rowsF L q (GL.restOf t) = some ms ∧ r = m.toList ++ ms := by
 unfold rowsF at h
 rw [if_neg ht] at h
 split at h
 ·rename_i hc
  obtain ⟨m, hm, h⟩ := Option.bind_eq_some_iff.1 h
  obtain ⟨ms, hms, h⟩ := Option.bind_eq_some_iff.1 h
  obtain rfl := Option.some.inj h
  exact ⟨hc, m, ms, hm, hms, rfl⟩
 ·cases h
def atoiF (s : ByteArray) : Option Int := if s.size ≤ 18 then Lib.atoi s.data.toList else none
theorem atoi_call (s : ByteArray) (n : Int) (w : World) (h : atoiF s = some n) :
  Calls Tryz.prog 215 #[.string s] w fun e w' => e = .returned (.tuple #[.int .i64 n, .nilIface]) ∧ Below w.heap.size w w' := by
 unfold atoiF at h
 split at h
 ·rename_i hs
  refine (Tryz.strconv_Atoi s n hs h w).mono ?_
  rintro e w' ⟨rfl, t, rfl⟩
  exact ⟨rfl, Lib.bytesWorld_below w 5 t⟩
 ·cases h
end Go.Proofs.YtednjmngalmdkaaGreatDoor.GPC
end
section
namespace Go.Proofs.YtednjmngalmdkaaGreatDoor.GPC
open Go.RowKit Go.Proofs.YtednjmngalmdkaaGreatDoorW.PrintWords Go.Proofs.YtednjmngalmdkaaGreatDoorW.PrintLast Go.Proofs.YtednjmngalmdkaaGreatDoorW.PrintMore
attribute [local go_sem] max2_int min2_int max_two min_two max_three min_three max_four min_four   -- for this text's walks alone
set_option linter.unusedVariables false
set_option linter.unusedSimpArgs false
structure S162 where
 f0 : ByteArray
 f1 : Int
 f2 : Int
 f3 : Int
def z162 : S162 := ⟨(⟨#[]⟩ : ByteArray), (0 : Int), (0 : Int), (0 : Int)⟩
def k162 : Kd S162 := Kd.iso (Kd.pair Kd.string (Kd.pair (Kd.int .i64) (Kd.pair (Kd.int .i64) (Kd.int .i64)))) (fun x : S162 => (x.f0, x.f1, x.f2, x.f3))
theorem k162_open {w : World} {x : S162} {cs : List Value} (h : k162.K w x cs) : cs = [.string x.f0, .int .i64 x.f1, .int .i64 x.f2, .int .i64 x.f3] := by
 obtain ⟨_, _, rfl, rfl, ⟨_, _, rfl, rfl, ⟨_, _, rfl, rfl, rfl⟩⟩⟩ := h
 exact rfl
theorem k162_mkM (w : World) (base : Nat) (ok : Nat → Prop) (x : S162)  : k162.M w base ok x [.string x.f0, .int .i64 x.f1, .int .i64 x.f2, .int .i64 x.f3] := ⟨[.string x.f0], [.int .i64 x.f1, .int .i64 x.f2, .int .i64 x.f3], rfl, rfl, ⟨[.int .i64 x.f1], [.int .i64 x.f2, .int .i64 x.f3], rfl, rfl, ⟨[.int .i64 x.f2], [.int .i64 x.f3], rfl, rfl, rfl⟩⟩⟩
def rd_T162 (xs : List S162) (i : Int) : S162 := xs.getD i.toNat z162
theorem at_T162 {w : World} {A : Option Addr} {n : Nat} {xs : List S162} (h : Kd.C k162 w A n xs) (i : Int) (h0 : 0 ≤ i) (h1 : i < n) : ∃ ad , A = some ad ∧ w.cell? (ad.add (i.toNat * 4)) = some (.string (rd_T162 xs i).f0) ∧ w.cell? ⟨(ad.add (i.toNat * 4)).block, (ad.add (i.toNat * 4)).off + 1, none⟩ = some (.int .i64 (rd_T162 xs i).f1) ∧ w.cell? ⟨(ad.add (i.toNat * 4)).block, (ad.add (i.toNat * 4)).off + 2, none⟩ = some (.int .i64 (rd_T162 xs i).f2) ∧ w.cell? ⟨(ad.add (i.toNat * 4)).block, (ad.add (i.toNat * 4)).off + 3, none⟩ = some (.int .i64 (rd_T162 xs i).f3) := by
 obtain ⟨ad, c, e, _, hK, hc0⟩ := Kd.C_get h z162 i h0 h1
 have hc : ∀ j u, c[j]? = some u → w.cell? (ad.add (i.toNat * 4 + j)) = some u := hc0
 obtain rfl := k162_open hK
 exact ⟨ad, e, hc 0 _ rfl, by rw [← add_field _ _ 1 (by omega)]; exact hc 1 _ rfl, by rw [← add_field _ _ 2 (by omega)]; exact hc 2 _ rfl, by rw [← add_field _ _ 3 (by omega)]; exact hc 3 _ rfl⟩
end Go.Proofs.YtednjmngalmdkaaGreatDoor.GPC
end
section
namespace Go.Proofs.YtednjmngalmdkaaGreatDoor.GPC
open Go.RowKit Go.Proofs.YtednjmngalmdkaaGreatDoorW.PrintWords Go.Proofs.YtednjmngalmdkaaGreatDoorW.PrintLast Go.Proofs.YtednjmngalmdkaaGreatDoorW.PrintMore
attribute [local go_sem] max2_int min2_int max_two min_two max_three min_three max_four min_four   -- for this text's walks alone
set_option linter.unusedVariables false
set_option linter.unusedSimpArgs false

attribute [local go_sem] run_store_float
/-! ### spec_CgroupSummaryPrint: function 42 -/
def spec_CgroupSummaryPrint.l0 : Nat → ByteArray → List (S31) → Int → Int → Option (ByteArray × Int)
 | 0, _, _, _, _ => none
 | k + 1, x4, x7, x8, x9 => if x9 < x8 then (if 0 ≤ x9 then (if x9 < (x7.length : Int) then ((spec_Word.f k ((rd_T31 x7 x9).f0)).bind fun t120 => (if t120 = true then (if 0 < (((rd_T31 x7 x9).f0).size : Int) then (if (bt ((rd_T31 x7 x9).f0) 0) = 35 then (some ((⟨#[]⟩ : ByteArray), 2)) else ((spec_sized.f ((rd_T31 x7 x9).f0) ((rd_T31 x7 x9).f1) ((rd_T31 x7 x9).f2) 3 0).bind fun t121 => (if t121 = true then ((spec_small.f k 2147483648 ((rd_T31 x7 x9).f1)).bind fun t122 => (if t122 = true then (if ((rd_T31 x7 x9).f0).size + 1 ≤ 9223372036854775807 then ((spec_numbers.f k ((rd_T31 x7 x9).f1) (⟨#[9]⟩ : ByteArray)).bind fun t123 => (if (((rd_T31 x7 x9).f0) ++ (⟨#[9]⟩ : ByteArray)).size + t123.size ≤ 9223372036854775807 then (if ((((rd_T31 x7 x9).f0) ++ (⟨#[9]⟩ : ByteArray)) ++ t123).size + 1 ≤ 9223372036854775807 then (if x4.size + (((((rd_T31 x7 x9).f0) ++ (⟨#[9]⟩ : ByteArray)) ++ t123) ++ (⟨#[10]⟩ : ByteArray)).size ≤ 9223372036854775807 then (spec_CgroupSummaryPrint.l0 k (x4 ++ (((((rd_T31 x7 x9).f0) ++ (⟨#[9]⟩ : ByteArray)) ++ t123) ++ (⟨#[10]⟩ : ByteArray))) x7 x8 (wrap64 (x9 + 1))) else (none)) else (none)) else (none))) else (none)) else (some ((⟨#[]⟩ : ByteArray), 2)))) else (some ((⟨#[]⟩ : ByteArray), 2))))) else (none)) else (some ((⟨#[]⟩ : ByteArray), 2)))) else (none)) else (none)) else (some (x4, 1))
def spec_CgroupSummaryPrint.f (k : Nat) (l0 : List (S31)) : Option (ByteArray × Int) := spec_CgroupSummaryPrint.l0 k (⟨#[35, 115, 117, 98, 115, 121, 115, 95, 110, 97, 109, 101, 9, 104, 105, 101, 114, 97, 114, 99, 104, 121, 9, 110, 117, 109, 95, 99, 103, 114, 111, 117, 112, 115, 9, 101, 110, 97, 98, 108, 101, 100, 10]⟩ : ByteArray) l0 (l0.length : Int) 0
theorem spec_CgroupSummaryPrint.mono_l : ∀ k, (∀ y0 y1 y2 y3, LeO (spec_CgroupSummaryPrint.l0 k y0 y1 y2 y3) (spec_CgroupSummaryPrint.l0 (k + 1) y0 y1 y2 y3))
 | 0 => fun _ _ _ _ r h => by simp [spec_CgroupSummaryPrint.l0] at h
 | k + 1 => by
  have ih0 := spec_CgroupSummaryPrint.mono_l k
  ·intro y0 y1 y2 y3
   unfold spec_CgroupSummaryPrint.l0
   repeat' first
   | (with_reducible exact ih0 _ _ _ _)
   | (with_reducible exact spec_Word.mono _ _)
   | (with_reducible exact spec_numbers.mono _ _ _)
   | (with_reducible exact spec_small.mono _ _ _)
   | (with_reducible exact LeO.refl _)
   | (with_reducible exact LeO.none _)
   | (with_reducible refine LeO.ite ?_ ?_)
   | (with_reducible refine LeO.bind ?_ (fun _ => ?_))
   | exact ih0 _ _ _ _
   | exact spec_Word.mono _ _
   | exact spec_numbers.mono _ _ _
   | exact spec_small.mono _ _ _
   | exact LeO.none _
   | refine LeO.ite ?_ ?_
   | refine LeO.bind ?_ (fun _ => ?_)
theorem spec_CgroupSummaryPrint.mono : ∀ a0 k, LeO (spec_CgroupSummaryPrint.f k a0) (spec_CgroupSummaryPrint.f (k + 1) a0) := by
 intro a0 k
 have ih0 := spec_CgroupSummaryPrint.mono_l k
 unfold spec_CgroupSummaryPrint.f
 repeat' first
   | (with_reducible exact ih0 _ _ _ _)
   | (with_reducible exact spec_Word.mono _ _)
   | (with_reducible exact spec_numbers.mono _ _ _)
   | (with_reducible exact spec_small.mono _ _ _)
   | (with_reducible exact LeO.refl _)
   | (with_reducible exact LeO.none _)
   | (with_reducible refine LeO.ite ?_ ?_)
   | (with_reducible refine LeO.bind ?_ (fun _ => ?_))
   | exact ih0 _ _ _ _
   | exact spec_Word.mono _ _
   | exact spec_numbers.mono _ _ _
   | exact spec_small.mono _ _ _
   | exact LeO.none _
   | refine LeO.ite ?_ ?_
   | refine LeO.bind ?_ (fun _ => ?_)
def spec_CgroupSummaryPrint.T7 : Bool × List (List Nat × List Nat) := (true, [([], []), ([], []), ([1], [1]), ([2], [2]), ([], []), ([4], [4]), ([5], [5]), ([3, 6], [3, 6]), ([7], [7]), ([0, 8], [0, 8]), ([9, 6, 0, 1, 2, 3, 4, 5, 6, 7, 8, 9], [0, 9])])
def spec_CgroupSummaryPrint.B7 : List Nat := [0, 0, 2, 6, 0, 16, 48, 126, 254, 511, 1023]
theorem spec_CgroupSummaryPrint.tab7 : rtab .any (opsOf Tryz.f42 7) = spec_CgroupSummaryPrint.T7 := by kernel_rfl
theorem spec_CgroupSummaryPrint.bits7 : waitsOk spec_CgroupSummaryPrint.T7.2 spec_CgroupSummaryPrint.B7 = true := by kernel_rfl
set_option maxHeartbeats 8000000 in
set_option maxRecDepth 100000 in
theorem spec_CgroupSummaryPrint.calls (k : Nat) (A0 : Option Addr) (c0 : Nat) (l0 : List (S31)) (r1 : ByteArray) (r2 : Int) (w : World) (hr0 : Kd.C k31 w A0 l0.length l0) (hc0 : l0.length ≤ c0) (h : spec_CgroupSummaryPrint.f k l0 = some (r1, r2)) :
  Calls Tryz.prog 42 #[.slice A0 l0.length c0] w fun e w' => e = .returned (.tuple #[.string r1, .int .i64 r2]) ∧ Below w.heap.size w w' := by
 have hu31 := Tryz.underlying31
 have HR0 := Aside0.mk hr0
 have HC0 := Aside0.mk hc0
 clear hr0 hc0
 have HB := Aside0.mk (Below.refl w.heap.size w)
 have H : (spec_CgroupSummaryPrint.l0 k (⟨#[35, 115, 117, 98, 115, 121, 115, 95, 110, 97, 109, 101, 9, 104, 105, 101, 114, 97, 114, 99, 104, 121, 9, 110, 117, 109, 95, 99, 103, 114, 111, 117, 112, 115, 9, 101, 110, 97, 98, 108, 101, 100, 10]⟩ : ByteArray) l0 (l0.length : Int) 0) = some (r1, r2) := h
 clear h
 have H' := Aside0.mk H
 clear H
 go_enter Tryz.func42, Tryz.ntmps42
 go_wp2
 go_loopg [4, 9] k (fun kq v4 v9 w' => ∃ (x4_1 : ByteArray) (x9_1 : Int), v4 = .string x4_1 ∧ v9 = .int .i64 x9_1 ∧ Aside0 (spec_CgroupSummaryPrint.l0 kq x4_1 l0 (l0.length : Int) x9_1 = some (r1, r2)) ∧ Aside0 (kq ≤ k) ∧ Aside0 (Below w.heap.size w w'))
 case atStart => exact ⟨((⟨#[35, 115, 117, 98, 115, 121, 115, 95, 110, 97, 109, 101, 9, 104, 105, 101, 114, 97, 114, 99, 104, 121, 9, 110, 117, 109, 95, 99, 103, 114, 111, 117, 112, 115, 9, 101, 110, 97, 98, 108, 101, 100, 10]⟩ : ByteArray)), (0), (by first | rfl | (simp; done) | (simp [*]; done)), (by first | rfl | (simp; done) | (simp [*]; done)), H', ⟨Nat.le_refl _⟩, ⟨by repeat (first | (with_reducible first | exact HB.out | apply below_alloc | apply pw_below_drewN | apply below_drew1) | exact HB.out)⟩⟩
 case round =>
  clear H'
  obtain ⟨x4_1, x9_1, rfl, rfl, HA, HK1, HB⟩ := hrel
  cases gk with
  | zero => exact absurd HA.out (by simp [spec_CgroupSummaryPrint.l0])
  | succ k1 =>
   have H := HA.out
   clear HA
   simp only [spec_CgroupSummaryPrint.l0] at H
   by_cases c2 : x9_1 < (l0.length : Int)
   ·rw [if_pos c2] at H
    have c2b0 : decide (x9_1 < (l0.length : Int)) = true := decide_eq_true c2
    clear c2
    replace H := guard_inv H
    obtain ⟨c3, H⟩ := H
    have c3b0 : decide (0 ≤ x9_1) = true := decide_eq_true c3
    clear c3
    replace H := guard_inv H
    obtain ⟨c4, H⟩ := H
    have c4b0 : decide (x9_1 < (l0.length : Int)) = true := decide_eq_true c4
    clear c4
    replace H := Option.bind_eq_some_iff.mp H
    obtain ⟨t120, A50, H⟩ := H
    try dsimp -simprocs only at H
    have A5 := Aside0.mk A50
    clear A50
    by_cases c6 : t120 = true
    ·subst c6
     have H1 : (if 0 < (((rd_T31 l0 x9_1).f0).size : Int) then (if (bt ((rd_T31 l0 x9_1).f0) 0) = 35 then (some ((⟨#[]⟩ : ByteArray), 2)) else ((spec_sized.f ((rd_T31 l0 x9_1).f0) ((rd_T31 l0 x9_1).f1) ((rd_T31 l0 x9_1).f2) 3 0).bind fun t121 => (if t121 = true then ((spec_small.f k1 2147483648 ((rd_T31 l0 x9_1).f1)).bind fun t122 => (if t122 = true then (if ((rd_T31 l0 x9_1).f0).size + 1 ≤ 9223372036854775807 then ((spec_numbers.f k1 ((rd_T31 l0 x9_1).f1) (⟨#[9]⟩ : ByteArray)).bind fun t123 => (if (((rd_T31 l0 x9_1).f0) ++ (⟨#[9]⟩ : ByteArray)).size + t123.size ≤ 9223372036854775807 then (if ((((rd_T31 l0 x9_1).f0) ++ (⟨#[9]⟩ : ByteArray)) ++ t123).size + 1 ≤ 9223372036854775807 then (if x4_1.size + (((((rd_T31 l0 x9_1).f0) ++ (⟨#[9]⟩ : ByteArray)) ++ t123) ++ (⟨#[10]⟩ : ByteArray)).size ≤ 9223372036854775807 then (spec_CgroupSummaryPrint.l0 k1 (x4_1 ++ (((((rd_T31 l0 x9_1).f0) ++ (⟨#[9]⟩ : ByteArray)) ++ t123) ++ (⟨#[10]⟩ : ByteArray))) l0 (l0.length : Int) (wrap64 (x9_1 + 1))) else (none)) else (none)) else (none))) else (none)) else (some ((⟨#[]⟩ : ByteArray), 2)))) else (some ((⟨#[]⟩ : ByteArray), 2))))) else (none)) = some (r1, r2) := by rw [if_pos rfl] at H; exact H
     clear H
     have H := H1
     clear H1
     replace H := guard_inv H
     obtain ⟨c7, H⟩ := H
     have c7b0 : decide (0 < (((rd_T31 l0 x9_1).f0).size : Int)) = true := decide_eq_true c7
     have c7b1 : decide (0 < ((rd_T31 l0 x9_1).f0).size) = true := decide_eq_true (by omega)
     clear c7
     by_cases c9 : (bt ((rd_T31 l0 x9_1).f0) 0) = 35
     ·rw [if_pos c9] at H
      have c9b0 : ((bt ((rd_T31 l0 x9_1).f0) 0) == 35) = true := beq_iff_eq.mpr c9
      have c9b1 : ((bt ((rd_T31 l0 x9_1).f0) 0) != 35) = false := bne_eq_false_iff_eq.mpr c9
      clear c9
      simp only [Option.some.injEq, Prod.mk.injEq] at H
      obtain ⟨rfl, rfl⟩ := H
      have p118 : 0 ≤ (x9_1 : Int) := of_decide_eq_true (by first | (with_reducible assumption) | assumption)
      have q118 : x9_1 < (l0.length : Int) := of_decide_eq_true (by first | (with_reducible assumption) | assumption)
      obtain ⟨ad118, A118_1, c118_1, A118_2, c118_2, e118, hx118_0, hx118_1, hx118_2, hl118_1, hi118_1, hl118_2, hi118_2⟩ := at_T31 HR0.out x9_1 p118 q118
      cases e118
      replace hx118_0 := (HB.out.cell (World.block_lt_of_cell? w _ hx118_0)).trans hx118_0
      replace hx118_1 := (HB.out.cell (World.block_lt_of_cell? w _ hx118_1)).trans hx118_1
      replace hx118_2 := (HB.out.cell (World.block_lt_of_cell? w _ hx118_2)).trans hx118_2
      have HR118_1 := Aside0.mk hi118_1
      have HC118_1 := Aside0.mk hl118_1
      clear hi118_1 hl118_1
      have HR118_2 := Aside0.mk hi118_2
      have HC118_2 := Aside0.mk hl118_2
      clear hi118_2 hl118_2
      replace p118 := eq_true p118
      replace q118 := eq_true q118
      go_wp2_with (first | ((with_reducible refine gate_dst (N := 6) rfl ?_); refine box_event ?hg (N := 6) ?hd (cs := #[.string (⟨#[]⟩ : ByteArray), .slice none 0 0, .slice none 0 0]) (t := 31) ?hr ?_; (case hd => rfl); (case hg => rfl); (case hr => first | (go_simp; done) | (go_simp; rfl)); intro gb119 hg w10 hbox hb; have n0_ := Aside0.mk (below_step (by repeat (first | (with_reducible first | exact HB.out | apply below_alloc | apply pw_below_drewN | apply below_drew1) | exact HB.out)) hb); have n1_ := Aside0.mk (hbox); have n2_ := Aside0.mk ((by rw [hg]; exact (below_size (by repeat (first | (with_reducible first | exact HB.out | apply below_alloc | apply pw_below_drewN | apply below_drew1) | exact HB.out))) : w.heap.size ≤ gb119)); have n3_ := Aside0.mk ((by rw [hg]; exact (below_size (by repeat (first | (with_reducible first | exact HB.out | apply below_alloc | apply pw_below_drewN | apply below_drew1) | exact HB.out))) : w.heap.size ≤ gb119)); clear HB; have HB := n0_; have BK119 := n1_; have GW119 := n2_; have GE119 := n3_; clear n0_ n1_ n2_ n3_; clear hb hbox hg; have hcz11_0 : w10.cell? ⟨gb119, 0, none⟩ = some (.string (⟨#[]⟩ : ByteArray)) := (blk_cell BK119.out 0).trans rfl; have hcz11_1 : w10.cell? ⟨gb119, 1, none⟩ = some (.slice none 0 0) := (blk_cell BK119.out 1).trans rfl; have hcz11_2 : w10.cell? ⟨gb119, 2, none⟩ = some (.slice none 0 0) := (blk_cell BK119.out 2).trans rfl; have hfz11_0 := blk_frozen BK119.out 0; have hfz11_1 := blk_frozen BK119.out 1; have hfz11_2 := blk_frozen BK119.out 2) | ((with_reducible refine gate_callee (f := 120) rfl ?_); refine goesL_ (some 15) rfl rfl Tryz.func120 (by kernel_rfl) rfl #[.string ((rd_T31 l0 x9_1).f0)] rfl (by (try simp only [List.map_toArray, List.map_cons, List.map_nil]); first | done | rfl | (simp only [List.length_drop, List.length_take]; rfl)) ?_; (with_reducible refine (spec_Word.calls k1 ((rd_T31 l0 x9_1).f0) true _ A5.out).mono ?_); rintro e w' ⟨rfl, ⟨nd, rfl⟩⟩; refine ⟨_, rfl, ?_⟩; have p8 : 0 ≤ (0 : Int) := (by omega); have q8 : 0 < ((rd_T31 l0 x9_1).f0).size := (by have : (0 : Int) < (((rd_T31 l0 x9_1).f0).size : Int) := of_decide_eq_true (by first | (with_reducible assumption) | assumption); omega); have hx8 : ∀ h : 0 < ((rd_T31 l0 x9_1).f0).size, ((((rd_T31 l0 x9_1).f0)[0]'h).toNat : Int) = bt ((rd_T31 l0 x9_1).f0) 0 := bt_at ((rd_T31 l0 x9_1).f0) 0; clear p8; have qi8 : (0 < (((rd_T31 l0 x9_1).f0).size : Int)) = True := eq_true (of_decide_eq_true (by first | (with_reducible assumption) | assumption)); replace q8 := eq_true q8))
      go_ret2
      exact ⟨by first | rfl | (simp [errW_none, errW_some] <;> rfl) | (simp [*, errW_none, errW_some] <;> rfl), by repeat (first | (with_reducible first | exact HB.out | apply below_alloc | apply pw_below_drewN | apply below_drew1 | refine below_set ?_ GE119.out) | exact HB.out)⟩
     ·rw [if_neg c9] at H
      have c9b0 : ((bt ((rd_T31 l0 x9_1).f0) 0) == 35) = false := beq_eq_false_iff_ne.mpr c9
      have c9b1 : ((bt ((rd_T31 l0 x9_1).f0) 0) != 35) = true := bne_iff_ne.mpr c9
      replace H := Option.bind_eq_some_iff.mp H
      obtain ⟨t121, A120, H⟩ := H
      try dsimp -simprocs only at H
      have A12 := Aside0.mk A120
      clear A120
      by_cases c13 : t121 = true
      ·subst c13
       have H1 : ((spec_small.f k1 2147483648 ((rd_T31 l0 x9_1).f1)).bind fun t122 => (if t122 = true then (if ((rd_T31 l0 x9_1).f0).size + 1 ≤ 9223372036854775807 then ((spec_numbers.f k1 ((rd_T31 l0 x9_1).f1) (⟨#[9]⟩ : ByteArray)).bind fun t123 => (if (((rd_T31 l0 x9_1).f0) ++ (⟨#[9]⟩ : ByteArray)).size + t123.size ≤ 9223372036854775807 then (if ((((rd_T31 l0 x9_1).f0) ++ (⟨#[9]⟩ : ByteArray)) ++ t123).size + 1 ≤ 9223372036854775807 then (if x4_1.size + (((((rd_T31 l0 x9_1).f0) ++ (⟨#[9]⟩ : ByteArray)) ++ t123) ++ (⟨#[10]⟩ : ByteArray)).size ≤ 9223372036854775807 then (spec_CgroupSummaryPrint.l0 k1 (x4_1 ++ (((((rd_T31 l0 x9_1).f0) ++ (⟨#[9]⟩ : ByteArray)) ++ t123) ++ (⟨#[10]⟩ : ByteArray))) l0 (l0.length : Int) (wrap64 (x9_1 + 1))) else (none)) else (none)) else (none))) else (none)) else (some ((⟨#[]⟩ : ByteArray), 2)))) = some (r1, r2) := by rw [if_pos rfl] at H; exact H
       clear H
       have H := H1
       clear H1
       replace H := Option.bind_eq_some_iff.mp H
       obtain ⟨t122, A140, H⟩ := H
       try dsimp -simprocs only at H
       have A14 := Aside0.mk A140
       clear A140
       by_cases c15 : t122 = true
       ·subst c15
        have H1 : (if ((rd_T31 l0 x9_1).f0).size + 1 ≤ 9223372036854775807 then ((spec_numbers.f k1 ((rd_T31 l0 x9_1).f1) (⟨#[9]⟩ : ByteArray)).bind fun t123 => (if (((rd_T31 l0 x9_1).f0) ++ (⟨#[9]⟩ : ByteArray)).size + t123.size ≤ 9223372036854775807 then (if ((((rd_T31 l0 x9_1).f0) ++ (⟨#[9]⟩ : ByteArray)) ++ t123).size + 1 ≤ 9223372036854775807 then (if x4_1.size + (((((rd_T31 l0 x9_1).f0) ++ (⟨#[9]⟩ : ByteArray)) ++ t123) ++ (⟨#[10]⟩ : ByteArray)).size ≤ 9223372036854775807 then (spec_CgroupSummaryPrint.l0 k1 (x4_1 ++ (((((rd_T31 l0 x9_1).f0) ++ (⟨#[9]⟩ : ByteArray)) ++ t123) ++ (⟨#[10]⟩ : ByteArray))) l0 (l0.length : Int) (wrap64 (x9_1 + 1))) else (none)) else (none)) else (none))) else (none)) = some (r1, r2) := by rw [if_pos rfl] at H; exact H
        clear H
        have H := H1
        clear H1
        replace H := guard_inv H
        obtain ⟨c16, H⟩ := H
        have c16b0 := eq_true c16
        have c16b1 := decide_eq_true c16
        try have c16b2 := eq_false (Nat.not_lt.2 c16)
        replace H := Option.bind_eq_some_iff.mp H
        obtain ⟨t123, A170, H⟩ := H
        try dsimp -simprocs only at H
        have A17 := Aside0.mk A170
        clear A170
        replace H := guard_inv H
        obtain ⟨c18, H⟩ := H
        have c18b0 := eq_true c18
        have c18b1 := decide_eq_true c18
        try have c18b2 := eq_false (Nat.not_lt.2 c18)
        try have c18b5 : (9223372036854775807 < ((rd_T31 l0 x9_1).f0).size + 1 + t123.size) = False := by have e_ := c18b2; (repeat rw [ByteArray.size_append] at e_); exact e_
        replace H := guard_inv H
        obtain ⟨c19, H⟩ := H
        have c19b0 := eq_true c19
        have c19b1 := decide_eq_true c19
        try have c19b2 := eq_false (Nat.not_lt.2 c19)
        try have c19b5 : (9223372036854775807 < ((rd_T31 l0 x9_1).f0).size + 1 + t123.size + 1) = False := by have e_ := c19b2; (repeat rw [ByteArray.size_append] at e_); exact e_
        replace H := guard_inv H
        obtain ⟨c20, H⟩ := H
        have c20b0 := eq_true c20
        have c20b1 := decide_eq_true c20
        try have c20b2 := eq_false (Nat.not_lt.2 c20)
        try have c20b5 : (9223372036854775807 < x4_1.size + (((rd_T31 l0 x9_1).f0).size + 1 + t123.size + 1)) = False := by have e_ := c20b2; (repeat rw [ByteArray.size_append] at e_); exact e_
        have H' := Aside0.mk H
        clear H
        have p118 : 0 ≤ (x9_1 : Int) := of_decide_eq_true (by first | (with_reducible assumption) | assumption)
        have q118 : x9_1 < (l0.length : Int) := of_decide_eq_true (by first | (with_reducible assumption) | assumption)
        obtain ⟨ad118, A118_1, c118_1, A118_2, c118_2, e118, hx118_0, hx118_1, hx118_2, hl118_1, hi118_1, hl118_2, hi118_2⟩ := at_T31 HR0.out x9_1 p118 q118
        cases e118
        replace hx118_0 := (HB.out.cell (World.block_lt_of_cell? w _ hx118_0)).trans hx118_0
        replace hx118_1 := (HB.out.cell (World.block_lt_of_cell? w _ hx118_1)).trans hx118_1
        replace hx118_2 := (HB.out.cell (World.block_lt_of_cell? w _ hx118_2)).trans hx118_2
        have HR118_1 := Aside0.mk hi118_1
        have HC118_1 := Aside0.mk hl118_1
        clear hi118_1 hl118_1
        have HR118_2 := Aside0.mk hi118_2
        have HC118_2 := Aside0.mk hl118_2
        clear hi118_2 hl118_2
        replace p118 := eq_true p118
        replace q118 := eq_true q118
        try go_wp2_with (first | ((with_reducible refine gate_dst (N := 6) rfl ?_); refine box_event ?hg (N := 6) ?hd (cs := #[.string (⟨#[]⟩ : ByteArray), .slice none 0 0, .slice none 0 0]) (t := 31) ?hr ?_; (case hd => rfl); (case hg => rfl); (case hr => first | (go_simp; done) | (go_simp; rfl)); intro gb119 hg w21 hbox hb; have n0_ := Aside0.mk (below_step (by repeat (first | (with_reducible first | exact HB.out | apply below_alloc | apply pw_below_drewN | apply below_drew1) | exact HB.out)) hb); have n1_ := Aside0.mk (hbox); have n2_ := Aside0.mk ((by rw [hg]; exact (below_size (by repeat (first | (with_reducible first | exact HB.out | apply below_alloc | apply pw_below_drewN | apply below_drew1) | exact HB.out))) : w.heap.size ≤ gb119)); have n3_ := Aside0.mk ((by rw [hg]; exact (below_size (by repeat (first | (with_reducible first | exact HB.out | apply below_alloc | apply pw_below_drewN | apply below_drew1) | exact HB.out))) : w.heap.size ≤ gb119)); clear HB; have HB := n0_; have BK119 := n1_; have GW119 := n2_; have GE119 := n3_; clear n0_ n1_ n2_ n3_; clear hb hbox hg; have hcz22_0 : w21.cell? ⟨gb119, 0, none⟩ = some (.string (⟨#[]⟩ : ByteArray)) := (blk_cell BK119.out 0).trans rfl; have hcz22_1 : w21.cell? ⟨gb119, 1, none⟩ = some (.slice none 0 0) := (blk_cell BK119.out 1).trans rfl; have hcz22_2 : w21.cell? ⟨gb119, 2, none⟩ = some (.slice none 0 0) := (blk_cell BK119.out 2).trans rfl; have hfz22_0 := blk_frozen BK119.out 0; have hfz22_1 := blk_frozen BK119.out 1; have hfz22_2 := blk_frozen BK119.out 2) | ((with_reducible refine gate_callee (f := 120) rfl ?_); refine goesL_ (some 15) rfl rfl Tryz.func120 (by kernel_rfl) rfl #[.string ((rd_T31 l0 x9_1).f0)] rfl (by (try simp only [List.map_toArray, List.map_cons, List.map_nil]); first | done | rfl | (simp only [List.length_drop, List.length_take]; rfl)) ?_; (with_reducible refine (spec_Word.calls k1 ((rd_T31 l0 x9_1).f0) true _ A5.out).mono ?_); rintro e w' ⟨rfl, ⟨nd, rfl⟩⟩; refine ⟨_, rfl, ?_⟩; have p8 : 0 ≤ (0 : Int) := (by omega); have q8 : 0 < ((rd_T31 l0 x9_1).f0).size := (by have : (0 : Int) < (((rd_T31 l0 x9_1).f0).size : Int) := of_decide_eq_true (by first | (with_reducible assumption) | assumption); omega); have hx8 : ∀ h : 0 < ((rd_T31 l0 x9_1).f0).size, ((((rd_T31 l0 x9_1).f0)[0]'h).toNat : Int) = bt ((rd_T31 l0 x9_1).f0) 0 := bt_at ((rd_T31 l0 x9_1).f0) 0; clear p8; have qi8 : (0 < (((rd_T31 l0 x9_1).f0).size : Int)) = True := eq_true (of_decide_eq_true (by first | (with_reducible assumption) | assumption)); replace q8 := eq_true q8) | (go_at_call 49; (with_reducible refine (spec_sized.calls ((rd_T31 l0 x9_1).f0) _ _ ((rd_T31 l0 x9_1).f1) _ _ ((rd_T31 l0 x9_1).f2) 3 0 true _ ?side1 ?side2 ?side3 ?side4 A12.out).mono ?_); (case side1 => exact Kd.C_below HR118_1.out (by repeat (first | (with_reducible first | exact HB.out | apply below_alloc | apply pw_below_drewN | apply below_drew1 | refine below_set ?_ GE119.out) | exact HB.out))); (case side2 => exact HC118_1.out); (case side3 => exact Kd.C_below HR118_2.out (by repeat (first | (with_reducible first | exact HB.out | apply below_alloc | apply pw_below_drewN | apply below_drew1 | refine below_set ?_ GE119.out) | exact HB.out))); (case side4 => exact HC118_2.out); rintro e w23 ⟨rfl, hb⟩; have n0_ := Aside0.mk (blk_below (g := gb119) (o := .cells #[.string ((rd_T31 l0 x9_1).f0), .slice A118_1 ((rd_T31 l0 x9_1).f1).length c118_1, .slice A118_2 ((rd_T31 l0 x9_1).f2).length c118_2] 31 (0, 0)) (by (with_reducible repeat (first | refine blk_drewN ?_ _ | refine blk_drew ?_ | refine blk_alloc ?_ _)); refine blk_put (cs := #[.string ((rd_T31 l0 x9_1).f0), .slice A118_1 ((rd_T31 l0 x9_1).f1).length c118_1, .slice none 0 0]) ?_ 2 _ rfl; (with_reducible repeat (first | refine blk_drewN ?_ _ | refine blk_drew ?_ | refine blk_alloc ?_ _)); refine blk_put (cs := #[.string ((rd_T31 l0 x9_1).f0), .slice none 0 0, .slice none 0 0]) ?_ 1 _ rfl; (with_reducible repeat (first | refine blk_drewN ?_ _ | refine blk_drew ?_ | refine blk_alloc ?_ _)); refine blk_put (cs := #[.string (⟨#[]⟩ : ByteArray), .slice none 0 0, .slice none 0 0]) ?_ 0 _ rfl; (with_reducible repeat (first | refine blk_drewN ?_ _ | refine blk_drew ?_ | refine blk_alloc ?_ _)); exact BK119.out) hb); have n1_ := Aside0.mk (below_step (by repeat (first | (with_reducible first | exact HB.out | apply below_alloc | apply pw_below_drewN | apply below_drew1 | refine below_set ?_ GE119.out) | exact HB.out)) hb); clear BK119; clear HB; have BK119 := n0_; have HB := n1_; clear n0_ n1_; (try clear hb); (try clear hb2); (try clear hk); (try clear hi); have hcz24_0 : w23.cell? ⟨gb119, 0, none⟩ = some (.string ((rd_T31 l0 x9_1).f0)) := (blk_cell BK119.out 0).trans rfl; have hcz24_1 : w23.cell? ⟨gb119, 1, none⟩ = some (.slice A118_1 ((rd_T31 l0 x9_1).f1).length c118_1) := (blk_cell BK119.out 1).trans rfl; have hcz24_2 : w23.cell? ⟨gb119, 2, none⟩ = some (.slice A118_2 ((rd_T31 l0 x9_1).f2).length c118_2) := (blk_cell BK119.out 2).trans rfl; have hfz24_0 := blk_frozen BK119.out 0; have hfz24_1 := blk_frozen BK119.out 1; have hfz24_2 := blk_frozen BK119.out 2) | (go_at_call 50; (with_reducible refine (spec_small.calls k1 2147483648 _ _ ((rd_T31 l0 x9_1).f1) true _ ?side1 ?side2 A14.out).mono ?_); (case side1 => repeat (first | exact (Kd.C_below HR118_1.out HB.out) | (with_reducible refine Kd.C_alloc ?_ _) | (with_reducible refine Kd.C_drewN ?_ _) | (with_reducible refine Kd.C_drew ?_))); (case side2 => exact HC118_1.out); rintro e w' ⟨rfl, ⟨nd, rfl⟩⟩))
        (try (rw [drewN_self w23]; generalize hq_ : World.drewN w23 _ = w23; have n0_ : Aside0 (w23.heap[gb119]? = some (.cells #[.string ((rd_T31 l0 x9_1).f0), .slice A118_1 ((rd_T31 l0 x9_1).f1).length c118_1, .slice A118_2 ((rd_T31 l0 x9_1).f2).length c118_2] 31 (0, 0))) := ⟨by rw [← hq_]; exact (by (with_reducible repeat (first | refine blk_drewN ?_ _ | refine blk_drew ?_ | refine blk_alloc ?_ _)); exact BK119.out)⟩; have n1_ : Aside0 (Below w.heap.size w w23) := ⟨by rw [← hq_]; exact (by repeat (first | (with_reducible first | exact HB.out | apply below_alloc | apply pw_below_drewN | apply below_drew1 | refine below_set ?_ GE119.out) | exact HB.out))⟩; clear BK119 HB hq_; have BK119 := n0_; have HB := n1_; clear n0_ n1_))
        have n0_ := Aside0.mk (blk_drew BK119.out)
        have n1_ := Aside0.mk (below_drew1 HB.out)
        clear BK119
        clear HB
        have BK119 := n0_
        have HB := n1_
        clear n0_ n1_
        refine start_ (n := 11) (S := fun w' => w'.cell? ⟨gb119, 0, none⟩ = some (.string ((rd_T31 l0 x9_1).f0)) ∧ w'.cell? ⟨gb119, 1, none⟩ = some (.slice A118_1 ((rd_T31 l0 x9_1).f1).length c118_1) ∧ w'.cell? ⟨gb119, 2, none⟩ = some (.slice A118_2 ((rd_T31 l0 x9_1).f2).length c118_2)) (ds := []) (bb [0, 11]) (by kernel_rfl) rfl rfl ⟨(blk_cell BK119.out 0).trans rfl, (blk_cell BK119.out 1).trans rfl, (blk_cell BK119.out 2).trans rfl⟩ (fun hHeld => ?_); refine with_tabW spec_CgroupSummaryPrint.tab7 spec_CgroupSummaryPrint.bits7 (fun HT_ HW_ => ?_)
        generalize w23.drew = w25 at BK119 HB hHeld ⊢
        refine pure_ (i := 0) (N := some 34) (v := ?_) (a' := ?_) (bb [1, 10]) rfl rfl (any_of HT_.out (by kernel_rfl)) (fun _ _ _ h => h) (Or.inl ⟨by rfl, ?_⟩) ?_ ?_
        rotate_left
        ·intro w'
         go_simp
         with_reducible rfl
        rotate_left
        ·simp only [Act.put, List.setIfInBounds_toArray, List.set_cons_zero, List.set_cons_succ, i64_w, i32_w]
         rfl
        refine pure_ (i := 1) (N := some 35) (v := ?_) (a' := ?_) (bb [2, 9]) rfl rfl (any_of HT_.out (by kernel_rfl)) (fun _ _ _ h => h) (Or.inl ⟨by rfl, ?_⟩) ?_ ?_
        rotate_left
        ·intro w'
         go_simp
         with_reducible rfl
        rotate_left
        ·simp only [Act.put, List.setIfInBounds_toArray, List.set_cons_zero, List.set_cons_succ, i64_w, i32_w]
         rfl
        refine pure_ (i := 4) (N := some 38) (v := ?_) (a' := ?_) (bb [2, 2, 1, 6]) rfl rfl (any_of HT_.out (by kernel_rfl)) (fun _ _ _ h => h) (Or.inl ⟨by rfl, ?_⟩) ?_ ?_
        rotate_left
        ·intro w'
         go_simp
         with_reducible rfl
        rotate_left
        ·simp only [Act.put, List.setIfInBounds_toArray, List.set_cons_zero, List.set_cons_succ, i64_w, i32_w]
         rfl
        refine take_ (i := 2) (N := some 36) (v := ?_) (a' := ?_) (bb [3, 1, 1, 6]) rfl rfl (take_ofW HT_.out HW_.out (by kernel_rfl)) (fun _ _ _ h => h) (Or.inl ⟨by rfl, ?_⟩) hHeld ?_ ?_
        rotate_left
        ·rintro w' ⟨s0, s1, s2⟩
         go_simp
         with_reducible rfl
        rotate_left
        ·simp only [Act.put, List.setIfInBounds_toArray, List.set_cons_zero, List.set_cons_succ, i64_w, i32_w]
         rfl
        refine pure_ (i := 3) (N := some 37) (v := ?_) (a' := ?_) (bb [5, 6]) rfl rfl (any_of HT_.out (by kernel_rfl)) (fun _ _ _ h => h) (Or.inl ⟨by rfl, ?_⟩) ?_ ?_
        rotate_left
        ·intro w'
         go_simp
         with_reducible rfl
        rotate_left
        ·simp only [Act.put, List.setIfInBounds_toArray, List.set_cons_zero, List.set_cons_succ, i64_w, i32_w]
         rfl
        refine take_ (i := 5) (N := some 39) (v := ?_) (a' := ?_) (bb [6, 5]) rfl rfl (take_ofW HT_.out HW_.out (by kernel_rfl)) (fun _ _ _ h => h) (Or.inl ⟨by rfl, ?_⟩) hHeld ?_ ?_
        rotate_left
        ·rintro w' ⟨s0, s1, s2⟩
         go_simp
         with_reducible rfl
        rotate_left
        ·simp only [Act.put, List.setIfInBounds_toArray, List.set_cons_zero, List.set_cons_succ, i64_w, i32_w]
         rfl
        refine one_ (i := 6) (N := some 40) (bb [7, 4]) rfl rfl (one_of HT_.out (by kernel_rfl)) (by decide) (fun K hK => ?_)
        refine goes_ Tryz.func73 (by kernel_rfl) rfl #[.slice A118_1 ((rd_T31 l0 x9_1).f1).length c118_1, .string (⟨#[9]⟩ : ByteArray)] (by rfl) rfl rfl (by (try simp only [List.map_toArray, List.map_cons, List.map_nil]); first | done | rfl | (simp only [List.length_drop, List.length_take]; rfl)) ?_
        with_reducible refine (spec_numbers.calls k1 _ _ ((rd_T31 l0 x9_1).f1) (⟨#[9]⟩ : ByteArray) t123 _ ?side1 ?side2 A17.out).mono ?_
        (case side1 => repeat (first | exact (Kd.C_below HR118_1.out HB.out) | (with_reducible refine Kd.C_alloc ?_ _) | (with_reducible refine Kd.C_drewN ?_ _) | (with_reducible refine Kd.C_drew ?_)))
        (case side2 => exact HC118_1.out)
        rintro e w26 ⟨rfl, hb⟩
        refine ⟨_, rfl, ?_⟩
        have n0_ := Aside0.mk (blk_below (g := gb119) (o := .cells #[.string ((rd_T31 l0 x9_1).f0), .slice A118_1 ((rd_T31 l0 x9_1).f1).length c118_1, .slice A118_2 ((rd_T31 l0 x9_1).f2).length c118_2] 31 (0, 0)) (by (with_reducible repeat (first | refine blk_drewN ?_ _ | refine blk_drew ?_ | refine blk_alloc ?_ _)); exact BK119.out) hb)
        have n1_ := Aside0.mk (below_step (by repeat (first | (with_reducible first | exact HB.out | apply below_alloc | apply pw_below_drewN | apply below_drew1 | refine below_set ?_ GE119.out) | exact HB.out)) hb)
        clear BK119
        clear HB
        have BK119 := n0_
        have HB := n1_
        clear n0_ n1_
        (try clear hb)
        (try clear hb2)
        (try clear hk)
        (try clear hi)
        refine hK.out _ _ ⟨(blk_cell BK119.out 0).trans rfl, (blk_cell BK119.out 1).trans rfl, (blk_cell BK119.out 2).trans rfl⟩ (fun hHeld => ?_)
        clear hK K
        refine norm_ (a' := ?_) ?_ ?_
        rotate_left
        ·show Act.put _ (some 40) _ = _
         simp only [Act.put, List.setIfInBounds_toArray, List.set_cons_zero, List.set_cons_succ, i64_w, i32_w]
         rfl
        refine pure_ (i := 7) (N := some 41) (v := ?_) (a' := ?_) (bb [8, 3]) rfl rfl (any_of HT_.out (by kernel_rfl)) (fun _ _ _ h => h) (Or.inl ⟨by rfl, ?_⟩) ?_ ?_
        rotate_left
        ·intro w'
         go_simp
         with_reducible rfl
        rotate_left
        ·simp only [Act.put, List.setIfInBounds_toArray, List.set_cons_zero, List.set_cons_succ, i64_w, i32_w]
         rfl
        refine pure_ (i := 8) (N := some 42) (v := ?_) (a' := ?_) (bb [9, 2]) rfl rfl (any_of HT_.out (by kernel_rfl)) (fun _ _ _ h => h) (Or.inl ⟨by rfl, ?_⟩) ?_ ?_
        rotate_left
        ·intro w'
         go_simp
         with_reducible rfl
        rotate_left
        ·simp only [Act.put, List.setIfInBounds_toArray, List.set_cons_zero, List.set_cons_succ, i64_w, i32_w]
         rfl
        refine pure_ (i := 9) (N := some 43) (v := ?_) (a' := ?_) (bb [10, 1]) rfl rfl (any_of HT_.out (by kernel_rfl)) (fun _ _ _ h => h) (Or.inl ⟨by rfl, ?_⟩) ?_ ?_
        rotate_left
        ·intro w'
         go_simp
         with_reducible rfl
        rotate_left
        ·simp only [Act.put, List.setIfInBounds_toArray, List.set_cons_zero, List.set_cons_succ, i64_w, i32_w]
         rfl
        refine pure_ (i := 10) (N := some 4) (v := ?_) (a' := ?_) (bb [11]) rfl rfl (any_of HT_.out (by kernel_rfl)) (fun _ _ _ h => h) (Or.inl ⟨by rfl, ?_⟩) ?_ ?_
        rotate_left
        ·intro w'
         go_simp
         with_reducible rfl
        rotate_left
        ·simp only [Act.put, List.setIfInBounds_toArray, List.set_cons_zero, List.set_cons_succ, i64_w, i32_w]
         rfl
        refine done_ (done_of HT_.out (by kernel_rfl)) ?_
        try go_wp2
        go_roundg k1
        case measure => have := HK1.out; omega
        case rel => exact ⟨(x4_1 ++ (((((rd_T31 l0 x9_1).f0) ++ (⟨#[9]⟩ : ByteArray)) ++ t123) ++ (⟨#[10]⟩ : ByteArray))), (wrap64 (x9_1 + 1)), (by first | rfl | (simp; done) | (simp [*]; done)), (by first | rfl | (simp; done) | (simp [*]; done)), H', ⟨by have := HK1.out; omega⟩, ⟨by repeat (first | (with_reducible first | exact HB.out | apply below_alloc | apply pw_below_drewN | apply below_drew1 | refine below_set ?_ GE119.out) | exact HB.out)⟩⟩
       ·replace c15 := Bool.eq_false_iff.mpr c15
        subst c15
        have H1 : (some ((⟨#[]⟩ : ByteArray), 2)) = some (r1, r2) := by rw [if_neg (show ¬ (false = true) by decide)] at H; exact H
        clear H
        have H := H1
        clear H1
        simp only [Option.some.injEq, Prod.mk.injEq] at H
        obtain ⟨rfl, rfl⟩ := H
        have p118 : 0 ≤ (x9_1 : Int) := of_decide_eq_true (by first | (with_reducible assumption) | assumption)
        have q118 : x9_1 < (l0.length : Int) := of_decide_eq_true (by first | (with_reducible assumption) | assumption)
        obtain ⟨ad118, A118_1, c118_1, A118_2, c118_2, e118, hx118_0, hx118_1, hx118_2, hl118_1, hi118_1, hl118_2, hi118_2⟩ := at_T31 HR0.out x9_1 p118 q118
        cases e118
        replace hx118_0 := (HB.out.cell (World.block_lt_of_cell? w _ hx118_0)).trans hx118_0
        replace hx118_1 := (HB.out.cell (World.block_lt_of_cell? w _ hx118_1)).trans hx118_1
        replace hx118_2 := (HB.out.cell (World.block_lt_of_cell? w _ hx118_2)).trans hx118_2
        have HR118_1 := Aside0.mk hi118_1
        have HC118_1 := Aside0.mk hl118_1
        clear hi118_1 hl118_1
        have HR118_2 := Aside0.mk hi118_2
        have HC118_2 := Aside0.mk hl118_2
        clear hi118_2 hl118_2
        replace p118 := eq_true p118
        replace q118 := eq_true q118
        go_wp2_with (first | ((with_reducible refine gate_dst (N := 6) rfl ?_); refine box_event ?hg (N := 6) ?hd (cs := #[.string (⟨#[]⟩ : ByteArray), .slice none 0 0, .slice none 0 0]) (t := 31) ?hr ?_; (case hd => rfl); (case hg => rfl); (case hr => first | (go_simp; done) | (go_simp; rfl)); intro gb119 hg w27 hbox hb; have n0_ := Aside0.mk (below_step (by repeat (first | (with_reducible first | exact HB.out | apply below_alloc | apply pw_below_drewN | apply below_drew1) | exact HB.out)) hb); have n1_ := Aside0.mk (hbox); have n2_ := Aside0.mk ((by rw [hg]; exact (below_size (by repeat (first | (with_reducible first | exact HB.out | apply below_alloc | apply pw_below_drewN | apply below_drew1) | exact HB.out))) : w.heap.size ≤ gb119)); have n3_ := Aside0.mk ((by rw [hg]; exact (below_size (by repeat (first | (with_reducible first | exact HB.out | apply below_alloc | apply pw_below_drewN | apply below_drew1) | exact HB.out))) : w.heap.size ≤ gb119)); clear HB; have HB := n0_; have BK119 := n1_; have GW119 := n2_; have GE119 := n3_; clear n0_ n1_ n2_ n3_; clear hb hbox hg; have hcz28_0 : w27.cell? ⟨gb119, 0, none⟩ = some (.string (⟨#[]⟩ : ByteArray)) := (blk_cell BK119.out 0).trans rfl; have hcz28_1 : w27.cell? ⟨gb119, 1, none⟩ = some (.slice none 0 0) := (blk_cell BK119.out 1).trans rfl; have hcz28_2 : w27.cell? ⟨gb119, 2, none⟩ = some (.slice none 0 0) := (blk_cell BK119.out 2).trans rfl; have hfz28_0 := blk_frozen BK119.out 0; have hfz28_1 := blk_frozen BK119.out 1; have hfz28_2 := blk_frozen BK119.out 2) | ((with_reducible refine gate_callee (f := 120) rfl ?_); refine goesL_ (some 15) rfl rfl Tryz.func120 (by kernel_rfl) rfl #[.string ((rd_T31 l0 x9_1).f0)] rfl (by (try simp only [List.map_toArray, List.map_cons, List.map_nil]); first | done | rfl | (simp only [List.length_drop, List.length_take]; rfl)) ?_; (with_reducible refine (spec_Word.calls k1 ((rd_T31 l0 x9_1).f0) true _ A5.out).mono ?_); rintro e w' ⟨rfl, ⟨nd, rfl⟩⟩; refine ⟨_, rfl, ?_⟩; have p8 : 0 ≤ (0 : Int) := (by omega); have q8 : 0 < ((rd_T31 l0 x9_1).f0).size := (by have : (0 : Int) < (((rd_T31 l0 x9_1).f0).size : Int) := of_decide_eq_true (by first | (with_reducible assumption) | assumption); omega); have hx8 : ∀ h : 0 < ((rd_T31 l0 x9_1).f0).size, ((((rd_T31 l0 x9_1).f0)[0]'h).toNat : Int) = bt ((rd_T31 l0 x9_1).f0) 0 := bt_at ((rd_T31 l0 x9_1).f0) 0; clear p8; have qi8 : (0 < (((rd_T31 l0 x9_1).f0).size : Int)) = True := eq_true (of_decide_eq_true (by first | (with_reducible assumption) | assumption)); replace q8 := eq_true q8) | (go_at_call 49; (with_reducible refine (spec_sized.calls ((rd_T31 l0 x9_1).f0) _ _ ((rd_T31 l0 x9_1).f1) _ _ ((rd_T31 l0 x9_1).f2) 3 0 true _ ?side1 ?side2 ?side3 ?side4 A12.out).mono ?_); (case side1 => exact Kd.C_below HR118_1.out (by repeat (first | (with_reducible first | exact HB.out | apply below_alloc | apply pw_below_drewN | apply below_drew1 | refine below_set ?_ GE119.out) | exact HB.out))); (case side2 => exact HC118_1.out); (case side3 => exact Kd.C_below HR118_2.out (by repeat (first | (with_reducible first | exact HB.out | apply below_alloc | apply pw_below_drewN | apply below_drew1 | refine below_set ?_ GE119.out) | exact HB.out))); (case side4 => exact HC118_2.out); rintro e w29 ⟨rfl, hb⟩; have n0_ := Aside0.mk (blk_below (g := gb119) (o := .cells #[.string ((rd_T31 l0 x9_1).f0), .slice A118_1 ((rd_T31 l0 x9_1).f1).length c118_1, .slice A118_2 ((rd_T31 l0 x9_1).f2).length c118_2] 31 (0, 0)) (by (with_reducible repeat (first | refine blk_drewN ?_ _ | refine blk_drew ?_ | refine blk_alloc ?_ _)); refine blk_put (cs := #[.string ((rd_T31 l0 x9_1).f0), .slice A118_1 ((rd_T31 l0 x9_1).f1).length c118_1, .slice none 0 0]) ?_ 2 _ rfl; (with_reducible repeat (first | refine blk_drewN ?_ _ | refine blk_drew ?_ | refine blk_alloc ?_ _)); refine blk_put (cs := #[.string ((rd_T31 l0 x9_1).f0), .slice none 0 0, .slice none 0 0]) ?_ 1 _ rfl; (with_reducible repeat (first | refine blk_drewN ?_ _ | refine blk_drew ?_ | refine blk_alloc ?_ _)); refine blk_put (cs := #[.string (⟨#[]⟩ : ByteArray), .slice none 0 0, .slice none 0 0]) ?_ 0 _ rfl; (with_reducible repeat (first | refine blk_drewN ?_ _ | refine blk_drew ?_ | refine blk_alloc ?_ _)); exact BK119.out) hb); have n1_ := Aside0.mk (below_step (by repeat (first | (with_reducible first | exact HB.out | apply below_alloc | apply pw_below_drewN | apply below_drew1 | refine below_set ?_ GE119.out) | exact HB.out)) hb); clear BK119; clear HB; have BK119 := n0_; have HB := n1_; clear n0_ n1_; (try clear hb); (try clear hb2); (try clear hk); (try clear hi); have hcz30_0 : w29.cell? ⟨gb119, 0, none⟩ = some (.string ((rd_T31 l0 x9_1).f0)) := (blk_cell BK119.out 0).trans rfl; have hcz30_1 : w29.cell? ⟨gb119, 1, none⟩ = some (.slice A118_1 ((rd_T31 l0 x9_1).f1).length c118_1) := (blk_cell BK119.out 1).trans rfl; have hcz30_2 : w29.cell? ⟨gb119, 2, none⟩ = some (.slice A118_2 ((rd_T31 l0 x9_1).f2).length c118_2) := (blk_cell BK119.out 2).trans rfl; have hfz30_0 := blk_frozen BK119.out 0; have hfz30_1 := blk_frozen BK119.out 1; have hfz30_2 := blk_frozen BK119.out 2) | (go_at_call 50; (with_reducible refine (spec_small.calls k1 2147483648 _ _ ((rd_T31 l0 x9_1).f1) false _ ?side1 ?side2 A14.out).mono ?_); (case side1 => repeat (first | exact (Kd.C_below HR118_1.out HB.out) | (with_reducible refine Kd.C_alloc ?_ _) | (with_reducible refine Kd.C_drewN ?_ _) | (with_reducible refine Kd.C_drew ?_))); (case side2 => exact HC118_1.out); rintro e w' ⟨rfl, ⟨nd, rfl⟩⟩))
        go_ret2
        exact ⟨by first | rfl | (simp [errW_none, errW_some] <;> rfl) | (simp [*, errW_none, errW_some] <;> rfl), by repeat (first | (with_reducible first | exact HB.out | apply below_alloc | apply pw_below_drewN | apply below_drew1 | refine below_set ?_ GE119.out) | exact HB.out)⟩
      ·replace c13 := Bool.eq_false_iff.mpr c13
       subst c13
       have H1 : (some ((⟨#[]⟩ : ByteArray), 2)) = some (r1, r2) := by rw [if_neg (show ¬ (false = true) by decide)] at H; exact H
       clear H
       have H := H1
       clear H1
       simp only [Option.some.injEq, Prod.mk.injEq] at H
       obtain ⟨rfl, rfl⟩ := H
       have p118 : 0 ≤ (x9_1 : Int) := of_decide_eq_true (by first | (with_reducible assumption) | assumption)
       have q118 : x9_1 < (l0.length : Int) := of_decide_eq_true (by first | (with_reducible assumption) | assumption)
       obtain ⟨ad118, A118_1, c118_1, A118_2, c118_2, e118, hx118_0, hx118_1, hx118_2, hl118_1, hi118_1, hl118_2, hi118_2⟩ := at_T31 HR0.out x9_1 p118 q118
       cases e118
       replace hx118_0 := (HB.out.cell (World.block_lt_of_cell? w _ hx118_0)).trans hx118_0
       replace hx118_1 := (HB.out.cell (World.block_lt_of_cell? w _ hx118_1)).trans hx118_1
       replace hx118_2 := (HB.out.cell (World.block_lt_of_cell? w _ hx118_2)).trans hx118_2
       have HR118_1 := Aside0.mk hi118_1
       have HC118_1 := Aside0.mk hl118_1
       clear hi118_1 hl118_1
       have HR118_2 := Aside0.mk hi118_2
       have HC118_2 := Aside0.mk hl118_2
       clear hi118_2 hl118_2
       replace p118 := eq_true p118
       replace q118 := eq_true q118
       go_wp2_with (first | ((with_reducible refine gate_dst (N := 6) rfl ?_); refine box_event ?hg (N := 6) ?hd (cs := #[.string (⟨#[]⟩ : ByteArray), .slice none 0 0, .slice none 0 0]) (t := 31) ?hr ?_; (case hd => rfl); (case hg => rfl); (case hr => first | (go_simp; done) | (go_simp; rfl)); intro gb119 hg w31 hbox hb; have n0_ := Aside0.mk (below_step (by repeat (first | (with_reducible first | exact HB.out | apply below_alloc | apply pw_below_drewN | apply below_drew1) | exact HB.out)) hb); have n1_ := Aside0.mk (hbox); have n2_ := Aside0.mk ((by rw [hg]; exact (below_size (by repeat (first | (with_reducible first | exact HB.out | apply below_alloc | apply pw_below_drewN | apply below_drew1) | exact HB.out))) : w.heap.size ≤ gb119)); have n3_ := Aside0.mk ((by rw [hg]; exact (below_size (by repeat (first | (with_reducible first | exact HB.out | apply below_alloc | apply pw_below_drewN | apply below_drew1) | exact HB.out))) : w.heap.size ≤ gb119)); clear HB; have HB := n0_; have BK119 := n1_; have GW119 := n2_; have GE119 := n3_; clear n0_ n1_ n2_ n3_; clear hb hbox hg; have hcz32_0 : w31.cell? ⟨gb119, 0, none⟩ = some (.string (⟨#[]⟩ : ByteArray)) := (blk_cell BK119.out 0).trans rfl; have hcz32_1 : w31.cell? ⟨gb119, 1, none⟩ = some (.slice none 0 0) := (blk_cell BK119.out 1).trans rfl; have hcz32_2 : w31.cell? ⟨gb119, 2, none⟩ = some (.slice none 0 0) := (blk_cell BK119.out 2).trans rfl; have hfz32_0 := blk_frozen BK119.out 0; have hfz32_1 := blk_frozen BK119.out 1; have hfz32_2 := blk_frozen BK119.out 2) | ((with_reducible refine gate_callee (f := 120) rfl ?_); refine goesL_ (some 15) rfl rfl Tryz.func120 (by kernel_rfl) rfl #[.string ((rd_T31 l0 x9_1).f0)] rfl (by (try simp only [List.map_toArray, List.map_cons, List.map_nil]); first | done | rfl | (simp only [List.length_drop, List.length_take]; rfl)) ?_; (with_reducible refine (spec_Word.calls k1 ((rd_T31 l0 x9_1).f0) true _ A5.out).mono ?_); rintro e w' ⟨rfl, ⟨nd, rfl⟩⟩; refine ⟨_, rfl, ?_⟩; have p8 : 0 ≤ (0 : Int) := (by omega); have q8 : 0 < ((rd_T31 l0 x9_1).f0).size := (by have : (0 : Int) < (((rd_T31 l0 x9_1).f0).size : Int) := of_decide_eq_true (by first | (with_reducible assumption) | assumption); omega); have hx8 : ∀ h : 0 < ((rd_T31 l0 x9_1).f0).size, ((((rd_T31 l0 x9_1).f0)[0]'h).toNat : Int) = bt ((rd_T31 l0 x9_1).f0) 0 := bt_at ((rd_T31 l0 x9_1).f0) 0; clear p8; have qi8 : (0 < (((rd_T31 l0 x9_1).f0).size : Int)) = True := eq_true (of_decide_eq_true (by first | (with_reducible assumption) | assumption)); replace q8 := eq_true q8) | (go_at_call 49; (with_reducible refine (spec_sized.calls ((rd_T31 l0 x9_1).f0) _ _ ((rd_T31 l0 x9_1).f1) _ _ ((rd_T31 l0 x9_1).f2) 3 0 false _ ?side1 ?side2 ?side3 ?side4 A12.out).mono ?_); (case side1 => exact Kd.C_below HR118_1.out (by repeat (first | (with_reducible first | exact HB.out | apply below_alloc | apply pw_below_drewN | apply below_drew1 | refine below_set ?_ GE119.out) | exact HB.out))); (case side2 => exact HC118_1.out); (case side3 => exact Kd.C_below HR118_2.out (by repeat (first | (with_reducible first | exact HB.out | apply below_alloc | apply pw_below_drewN | apply below_drew1 | refine below_set ?_ GE119.out) | exact HB.out))); (case side4 => exact HC118_2.out); rintro e w33 ⟨rfl, hb⟩; have n0_ := Aside0.mk (blk_below (g := gb119) (o := .cells #[.string ((rd_T31 l0 x9_1).f0), .slice A118_1 ((rd_T31 l0 x9_1).f1).length c118_1, .slice A118_2 ((rd_T31 l0 x9_1).f2).length c118_2] 31 (0, 0)) (by (with_reducible repeat (first | refine blk_drewN ?_ _ | refine blk_drew ?_ | refine blk_alloc ?_ _)); refine blk_put (cs := #[.string ((rd_T31 l0 x9_1).f0), .slice A118_1 ((rd_T31 l0 x9_1).f1).length c118_1, .slice none 0 0]) ?_ 2 _ rfl; (with_reducible repeat (first | refine blk_drewN ?_ _ | refine blk_drew ?_ | refine blk_alloc ?_ _)); refine blk_put (cs := #[.string ((rd_T31 l0 x9_1).f0), .slice none 0 0, .slice none 0 0]) ?_ 1 _ rfl; (with_reducible repeat (first | refine blk_drewN ?_ _ | refine blk_drew ?_ | refine blk_alloc ?_ _)); refine blk_put (cs := #[.string (⟨#[]⟩ : ByteArray), .slice none 0 0, .slice none 0 0]) ?_ 0 _ rfl; (with_reducible repeat (first | refine blk_drewN ?_ _ | refine blk_drew ?_ | refine blk_alloc ?_ _)); exact BK119.out) hb); have n1_ := Aside0.mk (below_step (by repeat (first | (with_reducible first | exact HB.out | apply below_alloc | apply pw_below_drewN | apply below_drew1 | refine below_set ?_ GE119.out) | exact HB.out)) hb); clear BK119; clear HB; have BK119 := n0_; have HB := n1_; clear n0_ n1_; (try clear hb); (try clear hb2); (try clear hk); (try clear hi)))
       go_ret2
       exact ⟨by first | rfl | (simp [errW_none, errW_some] <;> rfl) | (simp [*, errW_none, errW_some] <;> rfl), by repeat (first | (with_reducible first | exact HB.out | apply below_alloc | apply pw_below_drewN | apply below_drew1 | refine below_set ?_ GE119.out) | exact HB.out)⟩
    ·replace c6 := Bool.eq_false_iff.mpr c6
     subst c6
     have H1 : (some ((⟨#[]⟩ : ByteArray), 2)) = some (r1, r2) := by rw [if_neg (show ¬ (false = true) by decide)] at H; exact H
     clear H
     have H := H1
     clear H1
     simp only [Option.some.injEq, Prod.mk.injEq] at H
     obtain ⟨rfl, rfl⟩ := H
     have p118 : 0 ≤ (x9_1 : Int) := of_decide_eq_true (by first | (with_reducible assumption) | assumption)
     have q118 : x9_1 < (l0.length : Int) := of_decide_eq_true (by first | (with_reducible assumption) | assumption)
     obtain ⟨ad118, A118_1, c118_1, A118_2, c118_2, e118, hx118_0, hx118_1, hx118_2, hl118_1, hi118_1, hl118_2, hi118_2⟩ := at_T31 HR0.out x9_1 p118 q118
     cases e118
     replace hx118_0 := (HB.out.cell (World.block_lt_of_cell? w _ hx118_0)).trans hx118_0
     replace hx118_1 := (HB.out.cell (World.block_lt_of_cell? w _ hx118_1)).trans hx118_1
     replace hx118_2 := (HB.out.cell (World.block_lt_of_cell? w _ hx118_2)).trans hx118_2
     have HR118_1 := Aside0.mk hi118_1
     have HC118_1 := Aside0.mk hl118_1
     clear hi118_1 hl118_1
     have HR118_2 := Aside0.mk hi118_2
     have HC118_2 := Aside0.mk hl118_2
     clear hi118_2 hl118_2
     replace p118 := eq_true p118
     replace q118 := eq_true q118
     go_wp2_with (first | ((with_reducible refine gate_dst (N := 6) rfl ?_); refine box_event ?hg (N := 6) ?hd (cs := #[.string (⟨#[]⟩ : ByteArray), .slice none 0 0, .slice none 0 0]) (t := 31) ?hr ?_; (case hd => rfl); (case hg => rfl); (case hr => first | (go_simp; done) | (go_simp; rfl)); intro gb119 hg w34 hbox hb; have n0_ := Aside0.mk (below_step (by repeat (first | (with_reducible first | exact HB.out | apply below_alloc | apply pw_below_drewN | apply below_drew1) | exact HB.out)) hb); have n1_ := Aside0.mk (hbox); have n2_ := Aside0.mk ((by rw [hg]; exact (below_size (by repeat (first | (with_reducible first | exact HB.out | apply below_alloc | apply pw_below_drewN | apply below_drew1) | exact HB.out))) : w.heap.size ≤ gb119)); have n3_ := Aside0.mk ((by rw [hg]; exact (below_size (by repeat (first | (with_reducible first | exact HB.out | apply below_alloc | apply pw_below_drewN | apply below_drew1) | exact HB.out))) : w.heap.size ≤ gb119)); clear HB; have HB := n0_; have BK119 := n1_; have GW119 := n2_; have GE119 := n3_; clear n0_ n1_ n2_ n3_; clear hb hbox hg; have hcz35_0 : w34.cell? ⟨gb119, 0, none⟩ = some (.string (⟨#[]⟩ : ByteArray)) := (blk_cell BK119.out 0).trans rfl; have hcz35_1 : w34.cell? ⟨gb119, 1, none⟩ = some (.slice none 0 0) := (blk_cell BK119.out 1).trans rfl; have hcz35_2 : w34.cell? ⟨gb119, 2, none⟩ = some (.slice none 0 0) := (blk_cell BK119.out 2).trans rfl; have hfz35_0 := blk_frozen BK119.out 0; have hfz35_1 := blk_frozen BK119.out 1; have hfz35_2 := blk_frozen BK119.out 2) | ((with_reducible refine gate_callee (f := 120) rfl ?_); refine goesL_ (some 15) rfl rfl Tryz.func120 (by kernel_rfl) rfl #[.string ((rd_T31 l0 x9_1).f0)] rfl (by (try simp only [List.map_toArray, List.map_cons, List.map_nil]); first | done | rfl | (simp only [List.length_drop, List.length_take]; rfl)) ?_; (with_reducible refine (spec_Word.calls k1 ((rd_T31 l0 x9_1).f0) false _ A5.out).mono ?_); rintro e w' ⟨rfl, ⟨nd, rfl⟩⟩; refine ⟨_, rfl, ?_⟩))
     go_ret2
     exact ⟨by first | rfl | (simp [errW_none, errW_some] <;> rfl) | (simp [*, errW_none, errW_some] <;> rfl), by repeat (first | (with_reducible first | exact HB.out | apply below_alloc | apply pw_below_drewN | apply below_drew1 | refine below_set ?_ GE119.out) | exact HB.out)⟩
   ·rw [if_neg c2] at H
    have c2b0 : decide (x9_1 < (l0.length : Int)) = false := decide_eq_false c2
    clear c2
    simp only [Option.some.injEq, Prod.mk.injEq] at H
    obtain ⟨rfl, rfl⟩ := H
    go_wp2
    go_ret2
    exact ⟨by first | rfl | (simp [errW_none, errW_some] <;> rfl) | (simp [*, errW_none, errW_some] <;> rfl), by repeat (first | (with_reducible first | exact HB.out | apply below_alloc | apply pw_below_drewN | apply below_drew1) | exact HB.out)⟩
end Go.Proofs.YtednjmngalmdkaaGreatDoor.GPC
end
