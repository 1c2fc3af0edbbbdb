/- Texts of this claim, put together: GPEx4, GivenRt, GivenH32, GPEx5. Conditions: as each one says. -/
import Derived.Test.YtednjmngalmdkaaGreatDoorKSn0
import Derived.Test.YtednjmngalmdkaaGreatDoorKSn1
import Derived.Test.YtednjmngalmdkaaGreatDoorKSn2
import Derived.Test.YtednjmngalmdkaaGreatDoorProg
import Derived.Below
import Derived.Deep.Draws
import Derived.Deep.AppendLies
import Derived.Maps.AppendAt
import Derived.OwnWalk
import Derived.Laws.BytesArg
import Derived.Laws.MakeOwn
import Derived.Laws.OwnMore
import Derived.Deep.OwnRows
import Derived.Tactics
import Derived.Lib.ConvBytes
import Derived.Laws.Slices
import Derived.WalkKit
import Derived.KernelRfl
import Derived.RowKit3
import Derived.Deep.LoopGhost
import Derived.Deep.QuietTactic
import Derived.BigQuiet
import Derived.WideLaws
import Derived.Deep.DeepCutAuto
import Derived.Deep.CutBlock
import Derived.Deep.RegionHeld3
import Derived.Laws.Rows
import Derived.Lib.AppendStr
import Derived.ArgAppend
import Derived.Laws.IdiomCopy
import Derived.OrdersHeld
import Derived.Laws.BitsLemmas
import Derived.RowKit
import Derived.StillTailTactics
section
namespace Go.Proofs.YtednjmngalmdkaaGreatDoor.GPC
open Go.RowKit Go.Proofs.YtednjmngalmdkaaGreatDoorW.PrintWords Go.Proofs.YtednjmngalmdkaaGreatDoorW.PrintLast Go.Proofs.YtednjmngalmdkaaGreatDoorW.PrintMore
attribute [local go_sem] max2_int min2_int max_two min_two max_three min_three max_four min_four   -- for this text's walks alone
set_option linter.unusedVariables false
set_option linter.unusedSimpArgs false

attribute [local go_sem] run_store_float
/-! ### spec_counted: function 164 -/
def spec_counted.l0 : Nat → Int → Int → Int → List Int → Int → Int → ByteArray → List Int → List ByteArray → Option (Bool)
 | 0, _, _, _, _, _, _, _, _, _ => none
 | k + 1, x1, x2, x3, x12, x13, x14, x259000, x259001, x259002 => if x14 < x13 then (if 0 ≤ x14 then (if x14 < (x12.length : Int) then (if 0 ≤ (wrap64 (x2 - 1)) then (if (rd x12 x14) > (IntKind.u64.wrap ((IntKind.u64.wrap ((shl .u64 1 (wrap64 (x2 - 1))) * 2)) - 1)) then (some false) else (spec_counted.l0 k x1 x2 x3 x12 x13 (wrap64 (x14 + 1)) x259000 x259001 x259002)) else (none)) else (none)) else (none)) else (if (x259001.length : Int) = x1 then (some ((x259002.length : Int) == x3)) else (some false))
def spec_counted.f (k : Nat) (a0_0 : ByteArray) (l0_1 : List Int) (l0_2 : List ByteArray) (a1 : Int) (a2 : Int) (a3 : Int) : Option (Bool) := spec_counted.l0 k a1 a2 a3 l0_1 (l0_1.length : Int) 0 a0_0 l0_1 l0_2
theorem spec_counted.mono_l : ∀ k, (∀ y0 y1 y2 y3 y4 y5 y6 y7 y8, LeO (spec_counted.l0 k y0 y1 y2 y3 y4 y5 y6 y7 y8) (spec_counted.l0 (k + 1) y0 y1 y2 y3 y4 y5 y6 y7 y8))
 | 0 => fun _ _ _ _ _ _ _ _ _ r h => by simp [spec_counted.l0] at h
 | k + 1 => by
  have ih0 := spec_counted.mono_l k
  ·intro y0 y1 y2 y3 y4 y5 y6 y7 y8
   unfold spec_counted.l0
   repeat' first
   | (with_reducible exact ih0 _ _ _ _ _ _ _ _ _)
   | (with_reducible exact LeO.refl _)
   | (with_reducible exact LeO.none _)
   | (with_reducible refine LeO.ite ?_ ?_)
   | (with_reducible refine LeO.bind ?_ (fun _ => ?_))
   | exact ih0 _ _ _ _ _ _ _ _ _
   | exact LeO.none _
   | refine LeO.ite ?_ ?_
   | refine LeO.bind ?_ (fun _ => ?_)
theorem spec_counted.mono : ∀ a0 a1 a2 a3 a4 a5 k, LeO (spec_counted.f k a0 a1 a2 a3 a4 a5) (spec_counted.f (k + 1) a0 a1 a2 a3 a4 a5) := by
 intro a0 a1 a2 a3 a4 a5 k
 have ih0 := spec_counted.mono_l k
 unfold spec_counted.f
 repeat' first
   | (with_reducible exact ih0 _ _ _ _ _ _ _ _ _)
   | (with_reducible exact LeO.refl _)
   | (with_reducible exact LeO.none _)
   | (with_reducible refine LeO.ite ?_ ?_)
   | (with_reducible refine LeO.bind ?_ (fun _ => ?_))
   | exact ih0 _ _ _ _ _ _ _ _ _
   | exact LeO.none _
   | refine LeO.ite ?_ ?_
   | refine LeO.bind ?_ (fun _ => ?_)
set_option maxHeartbeats 8000000 in
set_option maxRecDepth 100000 in
theorem spec_counted.calls (k : Nat) (a0_0 : ByteArray) (A0_1 : Option Addr) (c0_1 : Nat) (l0_1 : List Int) (A0_2 : Option Addr) (c0_2 : Nat) (l0_2 : List ByteArray) (a1 : Int) (a2 : Int) (a3 : Int) (r : Bool) (w : World) (hr0_1 : Kd.C (Kd.int .u64) w A0_1 l0_1.length l0_1) (hc0_1 : l0_1.length ≤ c0_1) (hr0_2 : Kd.C Kd.string w A0_2 l0_2.length l0_2) (hc0_2 : l0_2.length ≤ c0_2) (h : spec_counted.f k a0_0 l0_1 l0_2 a1 a2 a3 = some r) :
  Calls Tryz.prog 164 #[.agg #[.string a0_0, .slice A0_1 l0_1.length c0_1, .slice A0_2 l0_2.length c0_2], .int .i64 a1, .int .i64 a2, .int .i64 a3] w fun e w' => e = .returned (.bool r) ∧ Below w.heap.size w w' := by
 have hu31 := Tryz.underlying31
 have HR0_1 := Aside0.mk hr0_1
 have HC0_1 := Aside0.mk hc0_1
 clear hr0_1 hc0_1
 have HR0_2 := Aside0.mk hr0_2
 have HC0_2 := Aside0.mk hc0_2
 clear hr0_2 hc0_2
 have HB := Aside0.mk (Below.refl w.heap.size w)
 have H : (spec_counted.l0 k a1 a2 a3 l0_1 (l0_1.length : Int) 0 a0_0 l0_1 l0_2) = some r := h
 clear h
 have H' := Aside0.mk H
 clear H
 go_enter Tryz.func164, Tryz.ntmps164
 go_wp2_with (first | ((with_reducible refine gate_dst (N := 4) rfl ?_); (try (refine gate_guard (by rfl) ?_; dsimp only)); refine box_event ?hg (N := 4) ?hd (cs := #[.string a0_0, .slice A0_1 l0_1.length c0_1, .slice A0_2 l0_2.length c0_2]) (t := 31) ?hr ?_; (case hd => rfl); (case hg => rfl); (case hr => first | (go_simp; done) | (go_simp; rfl)); intro gb258 hg w5 hbox hb; have n0_ := Aside0.mk (below_step (by repeat (first | (with_reducible first | exact HB.out | apply below_alloc | apply pw_below_drewN | apply below_drew1) | exact HB.out)) hb); have n1_ := Aside0.mk (hbox); have n2_ := Aside0.mk ((by rw [hg]; exact (below_size (by repeat (first | (with_reducible first | exact HB.out | apply below_alloc | apply pw_below_drewN | apply below_drew1) | exact HB.out))) : w.heap.size ≤ gb258)); have n3_ := Aside0.mk ((by rw [hg]; exact (below_size (by repeat (first | (with_reducible first | exact HB.out | apply below_alloc | apply pw_below_drewN | apply below_drew1) | exact HB.out))) : w.heap.size ≤ gb258)); clear HB; have HB := n0_; have BK258 := n1_; have GW258 := n2_; have GE258 := n3_; clear n0_ n1_ n2_ n3_; clear hb hbox hg; have hcz6_0 : w5.cell? ⟨gb258, 0, none⟩ = some (.string a0_0) := (blk_cell BK258.out 0).trans rfl; have hcz6_1 : w5.cell? ⟨gb258, 1, none⟩ = some (.slice A0_1 l0_1.length c0_1) := (blk_cell BK258.out 1).trans rfl; have hcz6_2 : w5.cell? ⟨gb258, 2, none⟩ = some (.slice A0_2 l0_2.length c0_2) := (blk_cell BK258.out 2).trans rfl; have hfz6_0 := blk_frozen BK258.out 0; have hfz6_1 := blk_frozen BK258.out 1; have hfz6_2 := blk_frozen BK258.out 2))
 go_loopg [14] k (fun kq v14 w' => ∃ (x14_1 : Int), v14 = .int .i64 x14_1 ∧ Aside0 (spec_counted.l0 kq a1 a2 a3 l0_1 (l0_1.length : Int) x14_1 a0_0 l0_1 l0_2 = some r) ∧ Aside0 (kq ≤ k) ∧ Aside0 (w'.heap[gb258]? = some (.cells #[.string a0_0, (.slice A0_1 l0_1.length c0_1), (.slice A0_2 l0_2.length c0_2)] 31 (0, 0))) ∧ Aside0 (Below w.heap.size w w'))
 case atStart => exact ⟨(0), (by first | rfl | (simp; done) | (simp [*]; done)), H', ⟨Nat.le_refl _⟩, ⟨by (with_reducible repeat (first | refine blk_drewN ?_ _ | refine blk_drew ?_ | refine blk_alloc ?_ _)); exact BK258.out⟩, ⟨by repeat (first | (with_reducible first | exact HB.out | apply below_alloc | apply pw_below_drewN | apply below_drew1 | refine below_set ?_ GE258.out) | exact HB.out)⟩⟩
 case round =>
  clear H'
  try clear c1
  try clear p2
  try clear hcz6_0
  try clear hcz6_1
  try clear hcz6_2
  try clear hfz6_0
  try clear hfz6_1
  try clear hfz6_2
  obtain ⟨x14_1, rfl, HA, HK1, BK258, HB⟩ := hrel
  cases gk with
  | zero => exact absurd HA.out (by simp [spec_counted.l0])
  | succ k1 =>
   have H := HA.out
   clear HA
   simp only [spec_counted.l0] at H
   by_cases c7 : x14_1 < (l0_1.length : Int)
   ·rw [if_pos c7] at H
    have c7b0 : decide (x14_1 < (l0_1.length : Int)) = true := decide_eq_true c7
    clear c7
    replace H := guard_inv H
    obtain ⟨c8, H⟩ := H
    have c8b0 : decide (0 ≤ x14_1) = true := decide_eq_true c8
    clear c8
    replace H := guard_inv H
    obtain ⟨c9, H⟩ := H
    have c9b0 : decide (x14_1 < (l0_1.length : Int)) = true := decide_eq_true c9
    clear c9
    obtain ⟨ji10, hji10⟩ : ∃ j_ : Int, (wrap64 (a2 - 1)) = j_ := ⟨_, rfl⟩
    replace H : (if 0 ≤ (ji10) then (if (rd l0_1 x14_1) > (IntKind.u64.wrap ((IntKind.u64.wrap ((shl .u64 1 (ji10)) * 2)) - 1)) then (some false) else (spec_counted.l0 k1 a1 a2 a3 l0_1 (l0_1.length : Int) (wrap64 (x14_1 + 1)) a0_0 l0_1 l0_2)) else (none)) = some r := by first | (rw [hji10] at H; exact H) | (simp only [hji10] at H ⊢; exact H)
    have hji10w : (IntKind.i64.wrap (a2 - 1)) = ji10 := (i64_w _).trans hji10
    replace H := guard_inv H
    obtain ⟨c11, H⟩ := H
    have c11b0 := eq_true c11
    have c11b1 := decide_eq_true c11
    clear c11
    obtain ⟨ji12, hji12⟩ : ∃ j_ : Int, (shl .u64 1 (ji10)) = j_ := ⟨_, rfl⟩
    replace H : (if (rd l0_1 x14_1) > (IntKind.u64.wrap ((IntKind.u64.wrap ((ji12) * 2)) - 1)) then (some false) else (spec_counted.l0 k1 a1 a2 a3 l0_1 (l0_1.length : Int) (wrap64 (x14_1 + 1)) a0_0 l0_1 l0_2)) = some r := by first | (rw [hji12] at H; exact H) | (simp only [hji12] at H ⊢; exact H)
    have hji12_ : (IntKind.u64.wrap (1 * 2 ^ min (ji10).toNat 64)) = ji12 := hji12
    have hji12z : (ji10) ≤ 64 → (IntKind.u64.wrap (1 * 2 ^ (ji10).toNat)) = ji12 := shl_small hji12
    have hji12u : (IntKind.u64.wrap (2 ^ min (ji10).toNat 64)) = ji12 := by have h_ := hji12_; rw [Int.one_mul] at h_; exact h_
    have hji12v : (ji10) ≤ 64 → (IntKind.u64.wrap (2 ^ (ji10).toNat)) = ji12 := fun hle_ => by have h_ := hji12z hle_; rw [Int.one_mul] at h_; exact h_
    by_cases c13 : (rd l0_1 x14_1) > (IntKind.u64.wrap ((IntKind.u64.wrap ((ji12) * 2)) - 1))
    ·rw [if_pos c13] at H
     have c13b0 : decide ((IntKind.u64.wrap ((IntKind.u64.wrap ((ji12) * 2)) - 1)) < (rd l0_1 x14_1)) = true := decide_eq_true c13
     clear c13
     obtain rfl := Option.some.inj H
     have p259 : 0 ≤ (x14_1 : Int) := of_decide_eq_true (by first | (with_reducible assumption) | assumption)
     have q259 : x14_1 < (l0_1.length : Int) := of_decide_eq_true (by first | (with_reducible assumption) | assumption)
     obtain ⟨ad259, e259, hx259_0⟩ := Kd.at_int HR0_1.out x14_1 p259 q259
     cases e259
     replace hx259_0 := (HB.out.cell (World.block_lt_of_cell? w _ hx259_0)).trans hx259_0
     replace p259 := eq_true p259
     replace q259 := eq_true q259
     go_wp2
     go_ret
     exact ⟨by first | rfl | (simp [errW_none, errW_some] <;> rfl) | (simp only [← hji10, ← hji12]; first | rfl | (simp [errW_none, errW_some] <;> rfl)) | (simp [*, errW_none, errW_some] <;> rfl), by repeat (first | (with_reducible first | exact HB.out | apply below_alloc | apply pw_below_drewN | apply below_drew1 | refine below_set ?_ GE258.out) | exact HB.out)⟩
    ·rw [if_neg c13] at H
     have c13b0 : decide ((IntKind.u64.wrap ((IntKind.u64.wrap ((ji12) * 2)) - 1)) < (rd l0_1 x14_1)) = false := decide_eq_false c13
     clear c13
     have H' := Aside0.mk H
     clear H
     have p259 : 0 ≤ (x14_1 : Int) := of_decide_eq_true (by first | (with_reducible assumption) | assumption)
     have q259 : x14_1 < (l0_1.length : Int) := of_decide_eq_true (by first | (with_reducible assumption) | assumption)
     obtain ⟨ad259, e259, hx259_0⟩ := Kd.at_int HR0_1.out x14_1 p259 q259
     cases e259
     replace hx259_0 := (HB.out.cell (World.block_lt_of_cell? w _ hx259_0)).trans hx259_0
     replace p259 := eq_true p259
     replace q259 := eq_true q259
     go_wp2
     go_roundg k1
     case measure => have := HK1.out; omega
     case rel => exact ⟨(wrap64 (x14_1 + 1)), (by first | rfl | (simp; done) | (simp [*]; done)), H', ⟨by have := HK1.out; omega⟩, ⟨by (with_reducible repeat (first | refine blk_drewN ?_ _ | refine blk_drew ?_ | refine blk_alloc ?_ _)); exact BK258.out⟩, ⟨by repeat (first | (with_reducible first | exact HB.out | apply below_alloc | apply pw_below_drewN | apply below_drew1 | refine below_set ?_ GE258.out) | exact HB.out)⟩⟩
   ·rw [if_neg c7] at H
    have c7b0 : decide (x14_1 < (l0_1.length : Int)) = false := decide_eq_false c7
    clear c7
    by_cases c14 : (l0_1.length : Int) = a1
    ·rw [if_pos c14] at H
     have c14b0 : ((l0_1.length : Int) == a1) = true := beq_iff_eq.mpr c14
     have c14b1 : ((l0_1.length : Int) != a1) = false := bne_eq_false_iff_eq.mpr c14
     clear c14
     obtain rfl := Option.some.inj H
     have hcz15_0 : wr.cell? ⟨gb258, 0, none⟩ = some (.string a0_0) := (blk_cell BK258.out 0).trans rfl
     have hcz15_1 : wr.cell? ⟨gb258, 1, none⟩ = some (.slice A0_1 l0_1.length c0_1) := (blk_cell BK258.out 1).trans rfl
     have hcz15_2 : wr.cell? ⟨gb258, 2, none⟩ = some (.slice A0_2 l0_2.length c0_2) := (blk_cell BK258.out 2).trans rfl
     have hfz15_0 := blk_frozen BK258.out 0
     have hfz15_1 := blk_frozen BK258.out 1
     have hfz15_2 := blk_frozen BK258.out 2
     go_wp2
     go_ret
     exact ⟨by first | rfl | (simp [errW_none, errW_some] <;> rfl) | (simp [*, errW_none, errW_some] <;> rfl), by repeat (first | (with_reducible first | exact HB.out | apply below_alloc | apply pw_below_drewN | apply below_drew1 | refine below_set ?_ GE258.out) | exact HB.out)⟩
    ·rw [if_neg c14] at H
     have c14b0 : ((l0_1.length : Int) == a1) = false := beq_eq_false_iff_ne.mpr c14
     have c14b1 : ((l0_1.length : Int) != a1) = true := bne_iff_ne.mpr c14
     obtain rfl := Option.some.inj H
     have hcz16_0 : wr.cell? ⟨gb258, 0, none⟩ = some (.string a0_0) := (blk_cell BK258.out 0).trans rfl
     have hcz16_1 : wr.cell? ⟨gb258, 1, none⟩ = some (.slice A0_1 l0_1.length c0_1) := (blk_cell BK258.out 1).trans rfl
     have hcz16_2 : wr.cell? ⟨gb258, 2, none⟩ = some (.slice A0_2 l0_2.length c0_2) := (blk_cell BK258.out 2).trans rfl
     have hfz16_0 := blk_frozen BK258.out 0
     have hfz16_1 := blk_frozen BK258.out 1
     have hfz16_2 := blk_frozen BK258.out 2
     go_wp2
     go_ret
     exact ⟨by first | rfl | (simp [errW_none, errW_some] <;> rfl) | (simp [*, errW_none, errW_some] <;> rfl), by repeat (first | (with_reducible first | exact HB.out | apply below_alloc | apply pw_below_drewN | apply below_drew1 | refine below_set ?_ GE258.out) | exact HB.out)⟩
end Go.Proofs.YtednjmngalmdkaaGreatDoor.GPC
end
section
/- procfs.parseNetRouteLine: what the words of a line say. Conditions: rtF. -/
namespace Go.Proofs.YtednjmngalmdkaaGreatDoor.GPC
open Go Go.RowKit Go.Proofs.YtednjmngalmdkaaGreatDoorW.PrintWords Go.Proofs.YtednjmngalmdkaaGreatDoorW.PrintLast
set_option linter.unusedVariables false
set_option linter.unusedSimpArgs false
def puF (s : ByteArray) (b bits : Int) : Option Int := (strconv_ParseUint.f s b bits).bind fun r => if r.2 = none then some r.1 else none
theorem pu_call (s : ByteArray) (b bits n : Int) (w : World) (h : puF s b bits = some n) :
  Calls Tryz.prog 158 #[.string s, .int .i64 b, .int .i64 bits] w fun e w' => e = .returned (.tuple #[.int .u64 n, .nilIface]) ∧ Below w.heap.size w w' := by
 unfold puF at h
 obtain ⟨⟨r, q⟩, h1, h⟩ := Option.bind_eq_some_iff.1 h
 split at h
 ·rename_i hq
  simp only at hq
  subst hq
  cases h
  exact strconv_ParseUint.calls s b bits r none w h1
 ·cases h
end Go.Proofs.YtednjmngalmdkaaGreatDoor.GPC
end
section
/- procfs.parseHexUint32s: the numbers of words in hexadecimal digits. Conditions: hx32; at most a thousand words. -/
namespace Go.Proofs.YtednjmngalmdkaaGreatDoor.GPC
open Go Go.RowKit Go.Proofs.YtednjmngalmdkaaGreatDoorW.PrintWords Go.Proofs.YtednjmngalmdkaaGreatDoorW.PrintLast
set_option linter.unusedVariables false
set_option linter.unusedSimpArgs false
def hx32 (f : Nat → ByteArray) : Nat → Nat → Option (List Int)
 | _, 0 => some []
 | o, n + 1 => (puF (f o) 16 32).bind fun x => (hx32 f (o + 1) n).map fun l => IntKind.u32.wrap x :: l
theorem hx32_get {f : Nat → ByteArray} : ∀ {n o : Nat} {ns : List Int}, hx32 f o n = some ns → ns.length = n ∧ ∀ (i : Nat) (h1 : i < n) (h2 : i < ns.length), ∃ x, puF (f (o + i)) 16 32 = some x ∧ ns[i] = IntKind.u32.wrap x
 | 0, o, ns, h => by
  obtain rfl := Option.some.inj h
  exact ⟨rfl, fun i h1 _ => absurd h1 (by omega)⟩
 | n + 1, o, ns, h => by
  unfold hx32 at h
  obtain ⟨x, h1, h⟩ := Option.bind_eq_some_iff.1 h
  obtain ⟨l, h2, rfl⟩ := Option.map_eq_some_iff.1 h
  obtain ⟨e, hg⟩ := hx32_get h2
  refine ⟨by simp [e], fun i a b => ?_⟩
  cases i with
  | zero => exact ⟨x, h1, rfl⟩
  | succ i =>
   obtain ⟨y, hy1, hy2⟩ := hg i (by omega) (by omega)
   exact ⟨y, by rw [← hy1]; congr 2; omega, hy2⟩
theorem infoH32 : (Tryz.prog.info? 118).map (fun i => (i.zero, i.size, i.bytes)) = some (some (.int .u32 0), 1, 4) := by kernel_rfl
theorem makeH32 (n : Nat) (hn : n ≤ 1000) (W : World) : (Instr.makeSlice 229 (.int .i64 0) (.int .i64 (n : Int))).run Tryz.prog W = .ok (.slice (some ⟨W.heap.size, 0, none⟩) 0 n) (W.alloc (.cells (madeCells #[.int .u32 0] n) 118)) := by
 obtain ⟨i, hi, hzz⟩ := Option.map_eq_some_iff.1 infoH32
 simp only [Prod.mk.injEq] at hzz
 obtain ⟨hz, hs, hb⟩ := hzz
 have := run_make (P := Tryz.prog) W 229 118 i (.int .u32 0) Tryz.underlying229 hi hz .i64 .i64 0 (n : Int) (Int.le_refl _) (by omega) (by rw [hb]; omega) (by omega)
 rw [hs] at this
 simp only [Int.toNat_zero, Int.toNat_natCast, Nat.mul_one] at this
 exact this
theorem makeH32_R (n : Nat) (hn : n ≤ 1000) (W : World) (base : Nat) (hb : base ≤ W.heap.size) : (Kd.int .u32).R 118 (W.alloc (.cells (madeCells #[.int .u32 0] n) 118)) base (fun _ => True) (.slice (some ⟨W.heap.size, 0, none⟩) 0 n) [] :=
 ⟨fun _ _ => trivial, [], by
  have := World.ownsRow_made W (madeCells #[.int .u32 0] n) n (e := 118) (size := 1) hb (by unfold maxLen; omega) (by simpa using size_madeCells #[.int .u32 0] n)
  exact this, Reps.none _ _⟩
set_option maxHeartbeats 8000000 in
set_option maxRecDepth 100000 in
theorem hex32Call (gs cap o n : Nat) (f : Nat → ByteArray) (ns : List Int) (w : World) (hgs : gs < w.heap.size) (hcs : ∀ i : Nat, i < n → w.cell? ⟨gs, o + i, none⟩ = some (.string (f (o + i)))) (hl : n ≤ 1000) (h : hx32 f o n = some ns) :
  Calls Tryz.prog 198 #[.slice (some ⟨gs, o, none⟩) n cap] w fun e w' => ∃ v, e = .returned (.tuple #[v, .nilIface]) ∧ (Kd.int .u32).R 118 w' w.heap.size (fun _ => True) v ns ∧ Below w.heap.size w w' := by
 obtain ⟨hlen, hget⟩ := hx32_get h
 have HGS := Aside0.mk hgs
 have HCS := Aside0.mk hcs
 have HL := Aside0.mk hl
 have HLEN := Aside0.mk hlen
 have HGET := Aside0.mk hget
 have hmk := makeH32 n hl
 have HR0 := Aside0.mk (makeH32_R n hl w w.heap.size (Nat.le_refl _))
 have HB0 := Aside0.mk (show Below w.heap.size w (w.alloc (.cells (madeCells #[.int .u32 0] n) 118)) from below_alloc (Below.refl _ _) _)
 clear hgs hcs hl hlen hget h
 go_enter Tryz.func198, Tryz.ntmps198
 go_wp2
 go_loopg [4, 14] n (fun kq v4 v14 w' => ∃ x : Int, v14 = .int .i64 x ∧ Aside0 (0 ≤ x ∧ x + kq = n) ∧ Aside0 ((Kd.int .u32).R 118 w' w.heap.size (fun _ => True) v4 (ns.take x.toNat)) ∧ Aside0 (Below w.heap.size w w'))
 case atStart => exact ⟨0, rfl, ⟨by omega, by omega⟩, HR0, HB0⟩
 case round =>
  clear HR0 HB0 hmk
  obtain ⟨x, rfl, HX, HO, HB⟩ := hrel
  by_cases hx : x < (n : Int)
  ·have hxn : x.toNat < n := by have := HX.out; omega
   have hxm : x.toNat < ns.length := by have := HLEN.out; omega
   obtain ⟨y, hpu, hy⟩ := HGET.out x.toNat hxn hxm
   obtain ⟨s, hs⟩ : ∃ s, s = f (o + x.toNat) := ⟨_, rfl⟩
   have cx : wr.cell? ⟨gs, o + x.toNat, none⟩ = some (.string s) := by
    rw [hs]
    exact (HB.out.cell (p := ⟨gs, o + x.toNat, none⟩) HGS.out).trans (HCS.out x.toNat hxn)
   have htk : ns.take (x + 1).toNat = ns.take x.toNat ++ [IntKind.u32.wrap y] := by
    have h1 := HX.out.1
    rw [show (x + 1).toNat = x.toNat + 1 by omega, List.take_add_one, List.getElem?_eq_getElem hxm, hy]
    rfl
   rw [← hs] at hpu
   obtain ⟨z, hz⟩ : ∃ z, z = IntKind.u32.wrap y := ⟨_, rfl⟩
   rw [← hz] at htk
   have HZ := Aside0.mk hz
   have HPU := Aside0.mk hpu
   have HTK := Aside0.mk htk
   have d0 : decide (x < (n : Int)) = true := decide_eq_true hx
   have p1 := eq_true HX.out.1
   have p2 := eq_true hx
   have hw : IntKind.i64.wrap (x + 1) = x + 1 := by have := HX.out; have := HL.out; rw [i64_w]; unfold wrap64; omega
   have HX2 := Aside0.mk hx
   have hz2 : IntKind.u32.wrap y = z := hz.symm
   clear hx hxn hxm hpu htk hs hz hy
   go_wp2_with (first
    | (go_at_call 158; (with_reducible refine (pu_call s 16 32 y _ HPU.out).mono ?_); rintro e w2 ⟨rfl, hb⟩; have HB2 := Aside0.mk (below_step HB.out hb); have HO2 := Aside0.mk (Kd.R_below HO.out hb); have HGE := Aside0.mk HB2.out.size; clear hb)
    | ((with_reducible refine gate_builtin (b := .append) (xs := #[.tmp 26, .tmp 29]) rfl ?_); at_builtin; refine Kd.R_append (Kd.int .u32) (w0 := w) w.heap.size rfl (.tmp 26) (.tmp 29) 229 118 (.int .u32 0) 4 rfl Tryz.underlying229 infoH32 rfl (by decide) (by omega) u4 (ns.take x.toNat) z [.int .u32 z] (fun _ => True) (fun _ => False) rfl (by first | (go_simp; done) | (go_simp; rfl)) rfl (fun _ hk => hk.elim) (fun _ _ => trivial) HO2.out HB2.out HB2.out.size (by have := HL.out; have := HLEN.out; simp only [List.length_take]; omega) ?_; intro v11 w11 ho hb hg _; have HO11 := Aside0.mk ho; have HB11 := Aside0.mk hb; clear ho hb hg))
   go_roundg (gk - 1)
   case measure => have := HX.out; have := HX2.out; omega
   case rel => exact ⟨x + 1, rfl, ⟨by have := HX.out; omega, by have := HX.out; have := HX2.out; omega⟩, ⟨by rw [HTK.out]; exact HO11.out⟩, HB11⟩
  ·have d0 : decide (x < (n : Int)) = false := decide_eq_false hx
   have hxe : ns.take x.toNat = ns := List.take_of_length_le (by have := HX.out; have := HLEN.out; omega)
   rw [hxe] at HO
   clear hx hxe
   go_wp2
   go_ret2
   exact ⟨_, rfl, HO.out, HB.out⟩
end Go.Proofs.YtednjmngalmdkaaGreatDoor.GPC
end
section
namespace Go.Proofs.YtednjmngalmdkaaGreatDoor.GPC
open Go.RowKit Go.Proofs.YtednjmngalmdkaaGreatDoorW.PrintWords Go.Proofs.YtednjmngalmdkaaGreatDoorW.PrintLast Go.Proofs.YtednjmngalmdkaaGreatDoorW.PrintMore
attribute [local go_sem] max2_int min2_int max_two min_two max_three min_three max_four min_four   -- for this text's walks alone
set_option linter.unusedVariables false
set_option linter.unusedSimpArgs false

attribute [local go_sem] run_store_float
/-! ### spec_softnetFine: function 96 -/
def spec_softnetFine.l0 : Nat → List (S31) → List (S31) → Int → Int → Option (Bool)
 | 0, _, _, _, _ => none
 | k + 1, x0, x5, x6, x7 => if x7 < x6 then (if 0 ≤ x7 then (if x7 < (x5.length : Int) then (if ((rd_T31 x5 x7).f0).toList = ([] : List UInt8) then (if (((rd_T31 x5 x7).f1).length : Int) = 13 then (if 0 < (x0.length : Int) then (if (((rd_T31 x5 x7).f1).length : Int) = (((rd_T31 x0 0).f1).length : Int) then ((spec_counted.f k ((rd_T31 x5 x7).f0) ((rd_T31 x5 x7).f1) ((rd_T31 x5 x7).f2) (((rd_T31 x5 x7).f1).length : Int) 32 0).bind fun t263 => (if t263 = true then (spec_softnetFine.l0 k x0 x5 x6 (wrap64 (x7 + 1))) else (some false))) else (some false)) else (none)) else (if (((rd_T31 x5 x7).f1).length : Int) = 15 then (if 0 < (x0.length : Int) then (if (((rd_T31 x5 x7).f1).length : Int) = (((rd_T31 x0 0).f1).length : Int) then ((spec_counted.f k ((rd_T31 x5 x7).f0) ((rd_T31 x5 x7).f1) ((rd_T31 x5 x7).f2) (((rd_T31 x5 x7).f1).length : Int) 32 0).bind fun t265 => (if t265 = true then (spec_softnetFine.l0 k x0 x5 x6 (wrap64 (x7 + 1))) else (some false))) else (some false)) else (none)) else (some false))) else (some false)) else (none)) else (none)) else (some true)
def spec_softnetFine.f (k : Nat) (l0 : List (S31)) : Option (Bool) := spec_softnetFine.l0 k l0 l0 (l0.length : Int) 0
theorem spec_softnetFine.mono_l : ∀ k, (∀ y0 y1 y2 y3, LeO (spec_softnetFine.l0 k y0 y1 y2 y3) (spec_softnetFine.l0 (k + 1) y0 y1 y2 y3))
 | 0 => fun _ _ _ _ r h => by simp [spec_softnetFine.l0] at h
 | k + 1 => by
  have ih0 := spec_softnetFine.mono_l k
  ·intro y0 y1 y2 y3
   unfold spec_softnetFine.l0
   repeat' first
   | (with_reducible exact ih0 _ _ _ _)
   | (with_reducible exact spec_counted.mono _ _ _ _ _ _ _)
   | (with_reducible exact LeO.refl _)
   | (with_reducible exact LeO.none _)
   | (with_reducible refine LeO.ite ?_ ?_)
   | (with_reducible refine LeO.bind ?_ (fun _ => ?_))
   | exact ih0 _ _ _ _
   | exact spec_counted.mono _ _ _ _ _ _ _
   | exact LeO.none _
   | refine LeO.ite ?_ ?_
   | refine LeO.bind ?_ (fun _ => ?_)
theorem spec_softnetFine.mono : ∀ a0 k, LeO (spec_softnetFine.f k a0) (spec_softnetFine.f (k + 1) a0) := by
 intro a0 k
 have ih0 := spec_softnetFine.mono_l k
 unfold spec_softnetFine.f
 repeat' first
   | (with_reducible exact ih0 _ _ _ _)
   | (with_reducible exact spec_counted.mono _ _ _ _ _ _ _)
   | (with_reducible exact LeO.refl _)
   | (with_reducible exact LeO.none _)
   | (with_reducible refine LeO.ite ?_ ?_)
   | (with_reducible refine LeO.bind ?_ (fun _ => ?_))
   | exact ih0 _ _ _ _
   | exact spec_counted.mono _ _ _ _ _ _ _
   | exact LeO.none _
   | refine LeO.ite ?_ ?_
   | refine LeO.bind ?_ (fun _ => ?_)
def spec_softnetFine.T4 : Bool × List (List Nat × List Nat) := (true, [([], []), ([0], [0]), ([1], [1]), ([2], [2]), ([3], [3]), ([4, 3], [3, 4]), ([5, 3], [3, 5]), ([6, 3], [3, 6]), ([7, 3, 3], [3, 7]), ([8], [8]), ([9, 8], [8, 9]), ([10, 8], [8, 10]), ([11, 8], [8, 11]), ([8, 12, 3], [3, 8, 12]), ([3, 13], [3, 13]), ([14, 8], [14]), ([15], [15]), ([16, 15], [15, 16]), ([17, 15], [15, 17]), ([15], [15]), ([19, 15], [15, 19]), ([20, 15], [15, 20]), ([21, 15], [15, 21]), ([22, 15], [15, 22]), ([18, 23, 15], [15, 18, 23]), ([15, 24], [15, 24]), ([25, 15], [25]), ([26], [26]), ([26], [26]), ([28, 26], [26, 28]), ([29, 26], [26, 29]), ([27, 30, 26, 26], [26, 27, 30]), ([31, 26], [26, 31]), ([26, 32], [26, 32])])
def spec_softnetFine.B4 : List Nat := [0, 1, 3, 7, 15, 31, 63, 127, 255, 511, 1023, 2047, 4095, 8191, 16383, 32767, 65535, 131071, 262143, 65535, 589823, 1638399, 3735551, 7929855, 16777215, 33554431, 67108863, 134217727, 134217727, 402653183, 939524095, 2147483647, 4294967295, 8589934591]
theorem spec_softnetFine.tab4 : rtab .any (opsOf Tryz.f96 4) = spec_softnetFine.T4 := by kernel_rfl
theorem spec_softnetFine.bits4 : waitsOk spec_softnetFine.T4.2 spec_softnetFine.B4 = true := by kernel_rfl
set_option maxHeartbeats 8000000 in
set_option maxRecDepth 100000 in
theorem spec_softnetFine.calls (k : Nat) (A0 : Option Addr) (c0 : Nat) (l0 : List (S31)) (r : Bool) (w : World) (hr0 : Kd.C k31 w A0 l0.length l0) (hc0 : l0.length ≤ c0) (h : spec_softnetFine.f k l0 = some r) :
  Calls Tryz.prog 96 #[.slice A0 l0.length c0] w fun e w' => e = .returned (.bool r) ∧ Below w.heap.size w w' := by
 have hu31 := Tryz.underlying31
 have HR0 := Aside0.mk hr0
 have HC0 := Aside0.mk hc0
 clear hr0 hc0
 have HB := Aside0.mk (Below.refl w.heap.size w)
 have H : (spec_softnetFine.l0 k l0 l0 (l0.length : Int) 0) = some r := h
 clear h
 have H' := Aside0.mk H
 clear H
 go_enter Tryz.func96, Tryz.ntmps96
 go_wp2
 go_loopg [7] k (fun kq v7 w' => ∃ (x7_1 : Int), v7 = .int .i64 x7_1 ∧ Aside0 (spec_softnetFine.l0 kq l0 l0 (l0.length : Int) x7_1 = some r) ∧ Aside0 (kq ≤ k) ∧ Aside0 (Below w.heap.size w w'))
 case atStart => exact ⟨(0), (by first | rfl | (simp; done) | (simp [*]; done)), H', ⟨Nat.le_refl _⟩, ⟨by repeat (first | (with_reducible first | exact HB.out | apply below_alloc | apply pw_below_drewN | apply below_drew1) | exact HB.out)⟩⟩
 case round =>
  clear H'
  obtain ⟨x7_1, rfl, HA, HK1, HB⟩ := hrel
  cases gk with
  | zero => exact absurd HA.out (by simp [spec_softnetFine.l0])
  | succ k1 =>
   have H := HA.out
   clear HA
   simp only [spec_softnetFine.l0] at H
   by_cases c2 : x7_1 < (l0.length : Int)
   ·rw [if_pos c2] at H
    have c2b0 : decide (x7_1 < (l0.length : Int)) = true := decide_eq_true c2
    clear c2
    replace H := guard_inv H
    obtain ⟨c3, H⟩ := H
    have c3b0 : decide (0 ≤ x7_1) = true := decide_eq_true c3
    clear c3
    replace H := guard_inv H
    obtain ⟨c4, H⟩ := H
    have c4b0 : decide (x7_1 < (l0.length : Int)) = true := decide_eq_true c4
    clear c4
    by_cases c5 : ((rd_T31 l0 x7_1).f0).toList = ([] : List UInt8)
    ·rw [if_pos c5] at H
     have c5b0 : (((rd_T31 l0 x7_1).f0).toList == ([] : List UInt8)) = true := beq_iff_eq.mpr c5
     have c5b1 : (((rd_T31 l0 x7_1).f0).toList != ([] : List UInt8)) = false := bne_eq_false_iff_eq.mpr c5
     clear c5
     by_cases c6 : (((rd_T31 l0 x7_1).f1).length : Int) = 13
     ·rw [if_pos c6] at H
      have c6b0 : ((((rd_T31 l0 x7_1).f1).length : Int) == 13) = true := beq_iff_eq.mpr c6
      have c6b1 : ((((rd_T31 l0 x7_1).f1).length : Int) != 13) = false := bne_eq_false_iff_eq.mpr c6
      clear c6
      replace H := guard_inv H
      obtain ⟨c7, H⟩ := H
      have c7b0 : decide (0 < (l0.length : Int)) = true := decide_eq_true c7
      have c7b1 : decide (0 < l0.length) = true := decide_eq_true (by omega)
      clear c7
      by_cases c8 : (((rd_T31 l0 x7_1).f1).length : Int) = (((rd_T31 l0 0).f1).length : Int)
      ·rw [if_pos c8] at H
       have c8b0 : ((((rd_T31 l0 x7_1).f1).length : Int) == (((rd_T31 l0 0).f1).length : Int)) = true := beq_iff_eq.mpr c8
       have c8b1 : ((((rd_T31 l0 x7_1).f1).length : Int) != (((rd_T31 l0 0).f1).length : Int)) = false := bne_eq_false_iff_eq.mpr c8
       have c8b2 : (((rd_T31 l0 x7_1).f1).length == ((rd_T31 l0 0).f1).length) = true := by first | simpa using c8 | (simp at c8 ⊢; omega)
       clear c8
       replace H := Option.bind_eq_some_iff.mp H
       obtain ⟨t263, A90, H⟩ := H
       replace H : (if t263 = true then (spec_softnetFine.l0 k1 l0 l0 (l0.length : Int) (wrap64 (x7_1 + 1))) else (some false)) = some r := H
       have A9 := Aside0.mk A90
       clear A90
       by_cases c10 : t263 = true
       ·subst c10
        have H1 : (spec_softnetFine.l0 k1 l0 l0 (l0.length : Int) (wrap64 (x7_1 + 1))) = some r := by rw [if_pos rfl] at H; exact H
        clear H
        have H := H1
        clear H1
        have H' := Aside0.mk H
        clear H
        have p260 : 0 ≤ (x7_1 : Int) := of_decide_eq_true (by first | (with_reducible assumption) | assumption)
        have q260 : x7_1 < (l0.length : Int) := of_decide_eq_true (by first | (with_reducible assumption) | assumption)
        obtain ⟨ad260, A260_1, c260_1, A260_2, c260_2, e260, hx260_0, hx260_1, hx260_2, hl260_1, hi260_1, hl260_2, hi260_2⟩ := at_T31 HR0.out x7_1 p260 q260
        cases e260
        replace hx260_0 := (HB.out.cell (World.block_lt_of_cell? w _ hx260_0)).trans hx260_0
        replace hx260_1 := (HB.out.cell (World.block_lt_of_cell? w _ hx260_1)).trans hx260_1
        replace hx260_2 := (HB.out.cell (World.block_lt_of_cell? w _ hx260_2)).trans hx260_2
        have HR260_1 := Aside0.mk hi260_1
        have HC260_1 := Aside0.mk hl260_1
        clear hi260_1 hl260_1
        have HR260_2 := Aside0.mk hi260_2
        have HC260_2 := Aside0.mk hl260_2
        clear hi260_2 hl260_2
        replace p260 := eq_true p260
        replace q260 := eq_true q260
        try go_wp2_with (first | ((with_reducible refine gate_dst (N := 4) rfl ?_); (try (refine gate_guard (by rfl) ?_; dsimp only)); refine box_event ?hg (N := 4) ?hd (cs := #[.string (⟨#[]⟩ : ByteArray), .slice none 0 0, .slice none 0 0]) (t := 31) ?hr ?_; (case hd => rfl); (case hg => rfl); (case hr => first | (go_simp; done) | (go_simp; rfl)); intro gb261 hg w11 hbox hb; have n0_ := Aside0.mk (below_step (by repeat (first | (with_reducible first | exact HB.out | apply below_alloc | apply pw_below_drewN | apply below_drew1) | exact HB.out)) hb); have n1_ := Aside0.mk (hbox); have n2_ := Aside0.mk ((by rw [hg]; exact (below_size (by repeat (first | (with_reducible first | exact HB.out | apply below_alloc | apply pw_below_drewN | apply below_drew1) | exact HB.out))) : w.heap.size ≤ gb261)); have n3_ := Aside0.mk ((by rw [hg]; exact (below_size (by repeat (first | (with_reducible first | exact HB.out | apply below_alloc | apply pw_below_drewN | apply below_drew1) | exact HB.out))) : w.heap.size ≤ gb261)); clear HB; have HB := n0_; have BK261 := n1_; have GW261 := n2_; have GE261 := n3_; clear n0_ n1_ n2_ n3_; clear hb hbox hg; have hcz12_0 : w11.cell? ⟨gb261, 0, none⟩ = some (.string (⟨#[]⟩ : ByteArray)) := (blk_cell BK261.out 0).trans rfl; have hcz12_1 : w11.cell? ⟨gb261, 1, none⟩ = some (.slice none 0 0) := (blk_cell BK261.out 1).trans rfl; have hcz12_2 : w11.cell? ⟨gb261, 2, none⟩ = some (.slice none 0 0) := (blk_cell BK261.out 2).trans rfl; have hfz12_0 := blk_frozen BK261.out 0; have hfz12_1 := blk_frozen BK261.out 1; have hfz12_2 := blk_frozen BK261.out 2))
        have n0_ : Aside0 ((((w11.setCell ⟨gb261, 0, none⟩ (.string ((rd_T31 l0 x7_1).f0))).setCell ⟨gb261, 1, none⟩ (.slice A260_1 ((rd_T31 l0 x7_1).f1).length c260_1)).setCell ⟨gb261, 2, none⟩ (.slice A260_2 ((rd_T31 l0 x7_1).f2).length c260_2)).heap[gb261]? = some (.cells #[.string ((rd_T31 l0 x7_1).f0), .slice A260_1 ((rd_T31 l0 x7_1).f1).length c260_1, .slice A260_2 ((rd_T31 l0 x7_1).f2).length c260_2] 31 (0, 0))) := ⟨by (with_reducible repeat (first | refine blk_drewN ?_ _ | refine blk_drew ?_ | refine blk_alloc ?_ _)); refine blk_put (cs := #[.string ((rd_T31 l0 x7_1).f0), .slice A260_1 ((rd_T31 l0 x7_1).f1).length c260_1, .slice none 0 0]) ?_ 2 _ rfl; (with_reducible repeat (first | refine blk_drewN ?_ _ | refine blk_drew ?_ | refine blk_alloc ?_ _)); refine blk_put (cs := #[.string ((rd_T31 l0 x7_1).f0), .slice none 0 0, .slice none 0 0]) ?_ 1 _ rfl; (with_reducible repeat (first | refine blk_drewN ?_ _ | refine blk_drew ?_ | refine blk_alloc ?_ _)); refine blk_put (cs := #[.string (⟨#[]⟩ : ByteArray), .slice none 0 0, .slice none 0 0]) ?_ 0 _ rfl; (with_reducible repeat (first | refine blk_drewN ?_ _ | refine blk_drew ?_ | refine blk_alloc ?_ _)); exact BK261.out⟩
        have n1_ : Aside0 (Below w.heap.size w (((w11.setCell ⟨gb261, 0, none⟩ (.string ((rd_T31 l0 x7_1).f0))).setCell ⟨gb261, 1, none⟩ (.slice A260_1 ((rd_T31 l0 x7_1).f1).length c260_1)).setCell ⟨gb261, 2, none⟩ (.slice A260_2 ((rd_T31 l0 x7_1).f2).length c260_2))) := ⟨by repeat (first | (with_reducible first | exact HB.out | apply below_alloc | apply pw_below_drewN | apply below_drew1 | refine below_set ?_ GE261.out) | exact HB.out)⟩
        (try clear BK261)
        (try clear HB)
        generalize (((w11.setCell ⟨gb261, 0, none⟩ (.string ((rd_T31 l0 x7_1).f0))).setCell ⟨gb261, 1, none⟩ (.slice A260_1 ((rd_T31 l0 x7_1).f1).length c260_1)).setCell ⟨gb261, 2, none⟩ (.slice A260_2 ((rd_T31 l0 x7_1).f2).length c260_2)) = w13 at n0_ n1_ ⊢
        have BK261 := n0_
        have HB := n1_
        clear n0_ n1_
        have n0_ := Aside0.mk (blk_drew BK261.out)
        have n1_ := Aside0.mk (below_drew1 HB.out)
        clear BK261
        clear HB
        have BK261 := n0_
        have HB := n1_
        clear n0_ n1_
        have p262 : 0 ≤ (0 : Int) := (by omega)
        have q262 : 0 < (l0.length : Int) := of_decide_eq_true (by first | (with_reducible assumption) | assumption)
        obtain ⟨ad262, A262_1, c262_1, A262_2, c262_2, e262, hx262_0, hx262_1, hx262_2, hl262_1, hi262_1, hl262_2, hi262_2⟩ := at_T31 HR0.out 0 p262 q262
        have hw262_2 := hx262_2
        (try rw [show ((0 : Int)).toNat = 0 from rfl] at hw262_2)
        (try rw [show 0 * 3 = 0 from rfl] at hw262_2)
        (try rw [Addr.add_zero'] at hw262_2)
        have hw262_1 := hx262_1
        (try rw [show ((0 : Int)).toNat = 0 from rfl] at hw262_1)
        (try rw [show 0 * 3 = 0 from rfl] at hw262_1)
        (try rw [Addr.add_zero'] at hw262_1)
        have hw262_0 := hx262_0
        (try rw [show ((0 : Int)).toNat = 0 from rfl] at hw262_0)
        (try rw [show 0 * 3 = 0 from rfl] at hw262_0)
        (try rw [Addr.add_zero'] at hw262_0)
        obtain rfl : ad260 = ad262 := (by injection e262)
        have qi262 : (0 < l0.length) = True := eq_true (by omega)
        (try rw [show ((0 : Int)).toNat = 0 from rfl] at hx262_0)
        (try rw [show 0 * 3 = 0 from rfl] at hx262_0)
        (try rw [Addr.add_zero'] at hx262_0)
        (try rw [show ((0 : Int)).toNat = 0 from rfl] at hx262_1)
        (try rw [show 0 * 3 = 0 from rfl] at hx262_1)
        (try rw [Addr.add_zero'] at hx262_1)
        (try rw [show ((0 : Int)).toNat = 0 from rfl] at hx262_2)
        (try rw [show 0 * 3 = 0 from rfl] at hx262_2)
        (try rw [Addr.add_zero'] at hx262_2)
        replace hx262_0 := (HB.out.cell (World.block_lt_of_cell? w _ hx262_0)).trans hx262_0
        replace hx262_1 := (HB.out.cell (World.block_lt_of_cell? w _ hx262_1)).trans hx262_1
        replace hx262_2 := (HB.out.cell (World.block_lt_of_cell? w _ hx262_2)).trans hx262_2
        have HR262_1 := Aside0.mk hi262_1
        have HC262_1 := Aside0.mk hl262_1
        clear hi262_1 hl262_1
        have HR262_2 := Aside0.mk hi262_2
        have HC262_2 := Aside0.mk hl262_2
        clear hi262_2 hl262_2
        replace p262 := eq_true p262
        replace q262 := eq_true q262
        refine start_ (n := 34) (S := fun w' => w'.cell? ⟨gb261, 0, none⟩ = some (.string ((rd_T31 l0 x7_1).f0)) ∧ w'.cell? ⟨gb261, 1, none⟩ = some (.slice A260_1 ((rd_T31 l0 x7_1).f1).length c260_1) ∧ w'.cell? ⟨gb261, 2, none⟩ = some (.slice A260_2 ((rd_T31 l0 x7_1).f2).length c260_2) ∧ w'.cell? ad260 = some (.string ((rd_T31 l0 0).f0)) ∧ w'.cell? ⟨ad260.block, ad260.off + 1, none⟩ = some (.slice A262_1 ((rd_T31 l0 0).f1).length c262_1) ∧ w'.cell? ⟨ad260.block, ad260.off + 2, none⟩ = some (.slice A262_2 ((rd_T31 l0 0).f2).length c262_2)) (ds := []) (bb [0, 34]) (by kernel_rfl) rfl rfl ⟨(blk_cell BK261.out 0).trans rfl, (blk_cell BK261.out 1).trans rfl, (blk_cell BK261.out 2).trans rfl, ((HB.out.cell (World.block_lt_of_cell? w _ hw262_0)).trans hw262_0), ((HB.out.cell (World.block_lt_of_cell? w _ hw262_1)).trans hw262_1), ((HB.out.cell (World.block_lt_of_cell? w _ hw262_2)).trans hw262_2)⟩ (fun hHeld => ?_); refine with_tabW spec_softnetFine.tab4 spec_softnetFine.bits4 (fun HT_ HW_ => ?_)
        generalize w13.drew = w14 at BK261 HB HR262_1 HR262_2 hx262_0 hx262_1 hx262_2 hHeld ⊢
        refine pure_ (i := 0) (N := some 11) (v := ?_) (a' := ?_) (bb [1, 33]) rfl rfl (any_of HT_.out (by kernel_rfl)) (fun _ _ _ h => h) (Or.inl ⟨by rfl, ?_⟩) ?_ ?_
        rotate_left
        ·intro w'
         go_simp
         with_reducible rfl
        rotate_left
        ·simp only [Act.put, List.setIfInBounds_toArray, List.set_cons_zero, List.set_cons_succ, i64_w, i32_w]
         rfl
        refine take_ (i := 1) (N := some 12) (v := ?_) (a' := ?_) (bb [2, 32]) rfl rfl (take_ofW HT_.out HW_.out (by kernel_rfl)) (fun _ _ _ h => h) (Or.inl ⟨by rfl, ?_⟩) hHeld ?_ ?_
        rotate_left
        ·rintro w' ⟨s0, s1, s2, s3, s4, s5⟩
         go_simp
         with_reducible rfl
        rotate_left
        ·simp only [Act.put, List.setIfInBounds_toArray, List.set_cons_zero, List.set_cons_succ, i64_w, i32_w]
         rfl
        refine pure_ (i := 2) (N := some 13) (v := ?_) (a' := ?_) (bb [3, 31]) rfl rfl (any_of HT_.out (by kernel_rfl)) (fun _ _ _ h => h) (Or.inl ⟨by rfl, ?_⟩) ?_ ?_
        rotate_left
        ·intro w'
         go_simp
         with_reducible rfl
        rotate_left
        ·simp only [Act.put, List.setIfInBounds_toArray, List.set_cons_zero, List.set_cons_succ, i64_w, i32_w]
         rfl
        refine pure_ (i := 3) (N := some 14) (v := ?_) (a' := ?_) (bb [4, 30]) rfl rfl (any_of HT_.out (by kernel_rfl)) (fun _ _ _ h => h) (Or.inl ⟨by rfl, ?_⟩) ?_ ?_
        rotate_left
        ·intro w'
         go_simp
         with_reducible rfl
        rotate_left
        ·simp only [Act.put, List.setIfInBounds_toArray, List.set_cons_zero, List.set_cons_succ, i64_w, i32_w]
         rfl
        refine pure_ (i := 4) (N := some 15) (v := ?_) (a' := ?_) (bb [5, 29]) rfl rfl (any_of HT_.out (by kernel_rfl)) (fun _ _ _ h => h) (Or.inl ⟨by rfl, ?_⟩) ?_ ?_
        rotate_left
        ·intro w'
         go_simp
         with_reducible rfl
        rotate_left
        ·simp only [Act.put, List.setIfInBounds_toArray, List.set_cons_zero, List.set_cons_succ, i64_w, i32_w]
         rfl
        refine take_ (i := 5) (N := some 16) (v := ?_) (a' := ?_) (bb [6, 28]) rfl rfl (take_ofW HT_.out HW_.out (by kernel_rfl)) (fun _ _ _ h => h) (Or.inl ⟨by rfl, ?_⟩) hHeld ?_ ?_
        rotate_left
        ·rintro w' ⟨s0, s1, s2, s3, s4, s5⟩
         go_simp
         with_reducible rfl
        rotate_left
        ·simp only [Act.put, List.setIfInBounds_toArray, List.set_cons_zero, List.set_cons_succ, i64_w, i32_w]
         rfl
        refine pure_ (i := 6) (N := some 17) (v := ?_) (a' := ?_) (bb [7, 27]) rfl rfl (any_of HT_.out (by kernel_rfl)) (fun _ _ _ h => h) (Or.inl ⟨by rfl, ?_⟩) ?_ ?_
        rotate_left
        ·intro w'
         go_simp
         with_reducible rfl
        rotate_left
        ·simp only [Act.put, List.setIfInBounds_toArray, List.set_cons_zero, List.set_cons_succ, i64_w, i32_w]
         rfl
        refine pure_ (i := 7) (N := some 18) (v := ?_) (a' := ?_) (bb [8, 26]) rfl rfl (any_of HT_.out (by kernel_rfl)) (fun _ _ _ h => h) (Or.inl ⟨by rfl, ?_⟩) ?_ ?_
        rotate_left
        ·intro w'
         go_simp
         with_reducible rfl
        rotate_left
        ·simp only [Act.put, List.setIfInBounds_toArray, List.set_cons_zero, List.set_cons_succ, i64_w, i32_w]
         rfl
        refine pure_ (i := 8) (N := some 19) (v := ?_) (a' := ?_) (bb [9, 25]) rfl rfl (any_of HT_.out (by kernel_rfl)) (fun _ _ _ h => h) (Or.inl ⟨by rfl, ?_⟩) ?_ ?_
        rotate_left
        ·intro w'
         go_simp
         with_reducible rfl
        rotate_left
        ·simp only [Act.put, List.setIfInBounds_toArray, List.set_cons_zero, List.set_cons_succ, i64_w, i32_w]
         rfl
        refine pure_ (i := 9) (N := some 20) (v := undef) (a' := ?_) (bb [10, 24]) rfl rfl (any_of HT_.out (by kernel_rfl)) (fun _ _ _ h => h) (Or.inr ⟨by rfl, rfl⟩) ?_ ?_
        rotate_left
        ·simp only [Act.put, List.setIfInBounds_toArray, List.set_cons_zero, List.set_cons_succ, i64_w, i32_w]
         rfl
        refine pure_ (i := 10) (N := some 21) (v := undef) (a' := ?_) (bb [11, 23]) rfl rfl (any_of HT_.out (by kernel_rfl)) (fun _ _ _ h => h) (Or.inr ⟨by rfl, rfl⟩) ?_ ?_
        rotate_left
        ·simp only [Act.put, List.setIfInBounds_toArray, List.set_cons_zero, List.set_cons_succ, i64_w, i32_w]
         rfl
        refine pure_ (i := 11) (N := some 22) (v := undef) (a' := ?_) (bb [12, 22]) rfl rfl (any_of HT_.out (by kernel_rfl)) (fun _ _ _ h => h) (Or.inr ⟨by rfl, rfl⟩) ?_ ?_
        rotate_left
        ·simp only [Act.put, List.setIfInBounds_toArray, List.set_cons_zero, List.set_cons_succ, i64_w, i32_w]
         rfl
        refine pure_ (i := 12) (N := some 23) (v := undef) (a' := ?_) (bb [13, 21]) rfl rfl (any_of HT_.out (by kernel_rfl)) (fun _ _ _ h => h) (Or.inr ⟨by rfl, rfl⟩) ?_ ?_
        rotate_left
        ·simp only [Act.put, List.setIfInBounds_toArray, List.set_cons_zero, List.set_cons_succ, i64_w, i32_w]
         rfl
        refine pure_ (i := 13) (N := some 24) (v := ?_) (a' := ?_) (bb [14, 20]) rfl rfl (any_of HT_.out (by kernel_rfl)) (fun _ _ _ h => h) (Or.inl ⟨by rfl, ?_⟩) ?_ ?_
        rotate_left
        ·intro w'
         go_simp
         with_reducible rfl
        rotate_left
        ·simp only [Act.put, List.setIfInBounds_toArray, List.set_cons_zero, List.set_cons_succ, i64_w, i32_w]
         rfl
        refine pure_ (i := 14) (N := some 25) (v := ?_) (a' := ?_) (bb [15, 19]) rfl rfl (any_of HT_.out (by kernel_rfl)) (fun _ _ _ h => h) (Or.inl ⟨by rfl, ?_⟩) ?_ ?_
        rotate_left
        ·intro w'
         go_simp
         with_reducible rfl
        rotate_left
        ·simp only [Act.put, List.setIfInBounds_toArray, List.set_cons_zero, List.set_cons_succ, i64_w, i32_w]
         rfl
        refine pure_ (i := 15) (N := some 26) (v := ?_) (a' := ?_) (bb [16, 18]) rfl rfl (any_of HT_.out (by kernel_rfl)) (fun _ _ _ h => h) (Or.inl ⟨by rfl, ?_⟩) ?_ ?_
        rotate_left
        ·intro w'
         go_simp
         with_reducible rfl
        rotate_left
        ·simp only [Act.put, List.setIfInBounds_toArray, List.set_cons_zero, List.set_cons_succ, i64_w, i32_w]
         rfl
        refine pure_ (i := 16) (N := some 27) (v := ?_) (a' := ?_) (bb [17, 17]) rfl rfl (any_of HT_.out (by kernel_rfl)) (fun _ _ _ h => h) (Or.inl ⟨by rfl, ?_⟩) ?_ ?_
        rotate_left
        ·intro w'
         go_simp
         with_reducible rfl
        rotate_left
        ·simp only [Act.put, List.setIfInBounds_toArray, List.set_cons_zero, List.set_cons_succ, i64_w, i32_w]
         rfl
        refine pure_ (i := 19) (N := some 30) (v := ?_) (a' := ?_) (bb [17, 2, 1, 14]) rfl rfl (any_of HT_.out (by kernel_rfl)) (fun _ _ _ h => h) (Or.inl ⟨by rfl, ?_⟩) ?_ ?_
        rotate_left
        ·intro w'
         go_simp
         with_reducible rfl
        rotate_left
        ·simp only [Act.put, List.setIfInBounds_toArray, List.set_cons_zero, List.set_cons_succ, i64_w, i32_w]
         rfl
        refine pure_ (i := 20) (N := some 31) (v := ?_) (a' := ?_) (bb [17, 2, 2, 13]) rfl rfl (any_of HT_.out (by kernel_rfl)) (fun _ _ _ h => h) (Or.inl ⟨by rfl, ?_⟩) ?_ ?_
        rotate_left
        ·intro w'
         go_simp
         with_reducible rfl
        rotate_left
        ·simp only [Act.put, List.setIfInBounds_toArray, List.set_cons_zero, List.set_cons_succ, i64_w, i32_w]
         rfl
        refine pure_ (i := 21) (N := some 32) (v := ?_) (a' := ?_) (bb [17, 2, 3, 12]) rfl rfl (any_of HT_.out (by kernel_rfl)) (fun _ _ _ h => h) (Or.inl ⟨by rfl, ?_⟩) ?_ ?_
        rotate_left
        ·intro w'
         go_simp
         with_reducible rfl
        rotate_left
        ·simp only [Act.put, List.setIfInBounds_toArray, List.set_cons_zero, List.set_cons_succ, i64_w, i32_w]
         rfl
        refine take_ (i := 17) (N := some 28) (v := ?_) (a' := ?_) (bb [18, 1, 3, 12]) rfl rfl (take_ofW HT_.out HW_.out (by kernel_rfl)) (fun _ _ _ h => h) (Or.inl ⟨by rfl, ?_⟩) hHeld ?_ ?_
        rotate_left
        ·rintro w' ⟨s0, s1, s2, s3, s4, s5⟩
         go_simp
         with_reducible rfl
        rotate_left
        ·simp only [Act.put, List.setIfInBounds_toArray, List.set_cons_zero, List.set_cons_succ, i64_w, i32_w]
         rfl
        refine pure_ (i := 18) (N := some 29) (v := ?_) (a' := ?_) (bb [22, 12]) rfl rfl (any_of HT_.out (by kernel_rfl)) (fun _ _ _ h => h) (Or.inl ⟨by rfl, ?_⟩) ?_ ?_
        rotate_left
        ·intro w'
         go_simp
         with_reducible rfl
        rotate_left
        ·simp only [Act.put, List.setIfInBounds_toArray, List.set_cons_zero, List.set_cons_succ, i64_w, i32_w]
         rfl
        refine take_ (i := 22) (N := some 33) (v := ?_) (a' := ?_) (bb [23, 11]) rfl rfl (take_ofW HT_.out HW_.out (by kernel_rfl)) (fun _ _ _ h => h) (Or.inl ⟨by rfl, ?_⟩) hHeld ?_ ?_
        rotate_left
        ·rintro w' ⟨s0, s1, s2, s3, s4, s5⟩
         go_simp
         with_reducible rfl
        rotate_left
        ·simp only [Act.put, List.setIfInBounds_toArray, List.set_cons_zero, List.set_cons_succ, i64_w, i32_w]
         rfl
        refine pure_ (i := 23) (N := some 34) (v := ?_) (a' := ?_) (bb [24, 10]) rfl rfl (any_of HT_.out (by kernel_rfl)) (fun _ _ _ h => h) (Or.inl ⟨by rfl, ?_⟩) ?_ ?_
        rotate_left
        ·intro w'
         go_simp
         with_reducible rfl
        rotate_left
        ·simp only [Act.put, List.setIfInBounds_toArray, List.set_cons_zero, List.set_cons_succ, i64_w, i32_w]
         rfl
        refine pure_ (i := 24) (N := some 35) (v := ?_) (a' := ?_) (bb [25, 9]) rfl rfl (any_of HT_.out (by kernel_rfl)) (fun _ _ _ h => h) (Or.inl ⟨by rfl, ?_⟩) ?_ ?_
        rotate_left
        ·intro w'
         go_simp
         with_reducible rfl
        rotate_left
        ·simp only [Act.put, List.setIfInBounds_toArray, List.set_cons_zero, List.set_cons_succ, i64_w, i32_w]
         rfl
        refine pure_ (i := 25) (N := some 36) (v := ?_) (a' := ?_) (bb [26, 8]) rfl rfl (any_of HT_.out (by kernel_rfl)) (fun _ _ _ h => h) (Or.inl ⟨by rfl, ?_⟩) ?_ ?_
        rotate_left
        ·intro w'
         go_simp
         with_reducible rfl
        rotate_left
        ·simp only [Act.put, List.setIfInBounds_toArray, List.set_cons_zero, List.set_cons_succ, i64_w, i32_w]
         rfl
        refine pure_ (i := 26) (N := some 37) (v := ?_) (a' := ?_) (bb [27, 7]) rfl rfl (any_of HT_.out (by kernel_rfl)) (fun _ _ _ h => h) (Or.inl ⟨by rfl, ?_⟩) ?_ ?_
        rotate_left
        ·intro w'
         go_simp
         with_reducible rfl
        rotate_left
        ·simp only [Act.put, List.setIfInBounds_toArray, List.set_cons_zero, List.set_cons_succ, i64_w, i32_w]
         rfl
        refine pure_ (i := 28) (N := some 39) (v := ?_) (a' := ?_) (bb [27, 1, 1, 5]) rfl rfl (any_of HT_.out (by kernel_rfl)) (fun _ _ _ h => h) (Or.inl ⟨by rfl, ?_⟩) ?_ ?_
        rotate_left
        ·intro w'
         go_simp
         with_reducible rfl
        rotate_left
        ·simp only [Act.put, List.setIfInBounds_toArray, List.set_cons_zero, List.set_cons_succ, i64_w, i32_w]
         rfl
        refine take_ (i := 27) (N := some 38) (v := ?_) (a' := ?_) (bb [29, 5]) rfl rfl (take_ofW HT_.out HW_.out (by kernel_rfl)) (fun _ _ _ h => h) (Or.inl ⟨by rfl, ?_⟩) hHeld ?_ ?_
        rotate_left
        ·rintro w' ⟨s0, s1, s2, s3, s4, s5⟩
         go_simp
         with_reducible rfl
        rotate_left
        ·simp only [Act.put, List.setIfInBounds_toArray, List.set_cons_zero, List.set_cons_succ, i64_w, i32_w]
         rfl
        refine take_ (i := 29) (N := some 40) (v := ?_) (a' := ?_) (bb [30, 4]) rfl rfl (take_ofW HT_.out HW_.out (by kernel_rfl)) (fun _ _ _ h => h) (Or.inl ⟨by rfl, ?_⟩) hHeld ?_ ?_
        rotate_left
        ·rintro w' ⟨s0, s1, s2, s3, s4, s5⟩
         go_simp
         with_reducible rfl
        rotate_left
        ·simp only [Act.put, List.setIfInBounds_toArray, List.set_cons_zero, List.set_cons_succ, i64_w, i32_w]
         rfl
        refine pure_ (i := 30) (N := some 41) (v := ?_) (a' := ?_) (bb [31, 3]) rfl rfl (any_of HT_.out (by kernel_rfl)) (fun _ _ _ h => h) (Or.inl ⟨by rfl, ?_⟩) ?_ ?_
        rotate_left
        ·intro w'
         go_simp
         with_reducible rfl
        rotate_left
        ·simp only [Act.put, List.setIfInBounds_toArray, List.set_cons_zero, List.set_cons_succ, i64_w, i32_w]
         rfl
        refine one_ (i := 31) (N := some 42) (bb [32, 2]) rfl rfl (one_of HT_.out (by kernel_rfl)) (by decide) (fun K hK => ?_)
        refine goes_ Tryz.func164 (by kernel_rfl) rfl #[.agg #[.string ((rd_T31 l0 x7_1).f0), .slice A260_1 ((rd_T31 l0 x7_1).f1).length c260_1, .slice A260_2 ((rd_T31 l0 x7_1).f2).length c260_2], .int .i64 (((rd_T31 l0 x7_1).f1).length : Int), .int .i64 32, .int .i64 0] (by rfl) rfl rfl (by (try simp only [List.map_toArray, List.map_cons, List.map_nil]); first | done | rfl | (simp only [List.length_drop, List.length_take]; rfl)) ?_
        with_reducible refine (spec_counted.calls k1 ((rd_T31 l0 x7_1).f0) _ _ ((rd_T31 l0 x7_1).f1) _ _ ((rd_T31 l0 x7_1).f2) (((rd_T31 l0 x7_1).f1).length : Int) 32 0 true _ ?side1 ?side2 ?side3 ?side4 A9.out).mono ?_
        (case side1 => repeat (first | exact (Kd.C_below HR260_1.out HB.out) | (with_reducible refine Kd.C_alloc ?_ _) | (with_reducible refine Kd.C_drewN ?_ _) | (with_reducible refine Kd.C_drew ?_)))
        (case side2 => exact HC260_1.out)
        (case side3 => repeat (first | exact (Kd.C_below HR260_2.out HB.out) | (with_reducible refine Kd.C_alloc ?_ _) | (with_reducible refine Kd.C_drewN ?_ _) | (with_reducible refine Kd.C_drew ?_)))
        (case side4 => exact HC260_2.out)
        rintro e w15 ⟨rfl, hb⟩
        refine ⟨_, rfl, ?_⟩
        have n0_ := Aside0.mk (blk_below (g := gb261) (o := .cells #[.string ((rd_T31 l0 x7_1).f0), .slice A260_1 ((rd_T31 l0 x7_1).f1).length c260_1, .slice A260_2 ((rd_T31 l0 x7_1).f2).length c260_2] 31 (0, 0)) (by (with_reducible repeat (first | refine blk_drewN ?_ _ | refine blk_drew ?_ | refine blk_alloc ?_ _)); exact BK261.out) hb)
        have n1_ := Aside0.mk (below_step (by repeat (first | (with_reducible first | exact HB.out | apply below_alloc | apply pw_below_drewN | apply below_drew1 | refine below_set ?_ GE261.out) | exact HB.out)) hb)
        clear BK261
        clear HB
        have BK261 := n0_
        have HB := n1_
        clear n0_ n1_
        (try clear hb)
        (try clear hb2)
        (try clear hk)
        (try clear hi)
        refine hK.out _ _ ⟨(blk_cell BK261.out 0).trans rfl, (blk_cell BK261.out 1).trans rfl, (blk_cell BK261.out 2).trans rfl, ((HB.out.cell (World.block_lt_of_cell? w _ hw262_0)).trans hw262_0), ((HB.out.cell (World.block_lt_of_cell? w _ hw262_1)).trans hw262_1), ((HB.out.cell (World.block_lt_of_cell? w _ hw262_2)).trans hw262_2)⟩ (fun hHeld => ?_)
        clear hK K
        refine norm_ (a' := ?_) ?_ ?_
        rotate_left
        ·show Act.put _ (some 42) _ = _
         simp only [Act.put, List.setIfInBounds_toArray, List.set_cons_zero, List.set_cons_succ, i64_w, i32_w]
         rfl
        refine pure_ (i := 32) (N := some 43) (v := ?_) (a' := ?_) (bb [33, 1]) rfl rfl (any_of HT_.out (by kernel_rfl)) (fun _ _ _ h => h) (Or.inl ⟨by rfl, ?_⟩) ?_ ?_
        rotate_left
        ·intro w'
         go_simp
         with_reducible rfl
        rotate_left
        ·simp only [Act.put, List.setIfInBounds_toArray, List.set_cons_zero, List.set_cons_succ, i64_w, i32_w]
         rfl
        refine pure_ (i := 33) (N := some 44) (v := ?_) (a' := ?_) (bb [34]) rfl rfl (any_of HT_.out (by kernel_rfl)) (fun _ _ _ h => h) (Or.inl ⟨by rfl, ?_⟩) ?_ ?_
        rotate_left
        ·intro w'
         go_simp
         with_reducible rfl
        rotate_left
        ·simp only [Act.put, List.setIfInBounds_toArray, List.set_cons_zero, List.set_cons_succ, i64_w, i32_w]
         rfl
        refine done_ (done_of HT_.out (by kernel_rfl)) ?_
        try go_wp2
        go_roundg k1
        case measure => have := HK1.out; omega
        case rel => exact ⟨(wrap64 (x7_1 + 1)), (by first | rfl | (simp; done) | (simp [*]; done)), H', ⟨by have := HK1.out; omega⟩, ⟨by repeat (first | (with_reducible first | exact HB.out | apply below_alloc | apply pw_below_drewN | apply below_drew1 | refine below_set ?_ GE261.out) | exact HB.out)⟩⟩
       ·replace c10 := Bool.eq_false_iff.mpr c10
        subst c10
        have H1 : (some false) = some r := by rw [if_neg (show ¬ (false = true) by decide)] at H; exact H
        clear H
        have H := H1
        clear H1
        obtain rfl := Option.some.inj H
        have p260 : 0 ≤ (x7_1 : Int) := of_decide_eq_true (by first | (with_reducible assumption) | assumption)
        have q260 : x7_1 < (l0.length : Int) := of_decide_eq_true (by first | (with_reducible assumption) | assumption)
        obtain ⟨ad260, A260_1, c260_1, A260_2, c260_2, e260, hx260_0, hx260_1, hx260_2, hl260_1, hi260_1, hl260_2, hi260_2⟩ := at_T31 HR0.out x7_1 p260 q260
        cases e260
        replace hx260_0 := (HB.out.cell (World.block_lt_of_cell? w _ hx260_0)).trans hx260_0
        replace hx260_1 := (HB.out.cell (World.block_lt_of_cell? w _ hx260_1)).trans hx260_1
        replace hx260_2 := (HB.out.cell (World.block_lt_of_cell? w _ hx260_2)).trans hx260_2
        have HR260_1 := Aside0.mk hi260_1
        have HC260_1 := Aside0.mk hl260_1
        clear hi260_1 hl260_1
        have HR260_2 := Aside0.mk hi260_2
        have HC260_2 := Aside0.mk hl260_2
        clear hi260_2 hl260_2
        replace p260 := eq_true p260
        replace q260 := eq_true q260
        try go_wp2_with (first | ((with_reducible refine gate_dst (N := 4) rfl ?_); (try (refine gate_guard (by rfl) ?_; dsimp only)); refine box_event ?hg (N := 4) ?hd (cs := #[.string (⟨#[]⟩ : ByteArray), .slice none 0 0, .slice none 0 0]) (t := 31) ?hr ?_; (case hd => rfl); (case hg => rfl); (case hr => first | (go_simp; done) | (go_simp; rfl)); intro gb261 hg w16 hbox hb; have n0_ := Aside0.mk (below_step (by repeat (first | (with_reducible first | exact HB.out | apply below_alloc | apply pw_below_drewN | apply below_drew1) | exact HB.out)) hb); have n1_ := Aside0.mk (hbox); have n2_ := Aside0.mk ((by rw [hg]; exact (below_size (by repeat (first | (with_reducible first | exact HB.out | apply below_alloc | apply pw_below_drewN | apply below_drew1) | exact HB.out))) : w.heap.size ≤ gb261)); have n3_ := Aside0.mk ((by rw [hg]; exact (below_size (by repeat (first | (with_reducible first | exact HB.out | apply below_alloc | apply pw_below_drewN | apply below_drew1) | exact HB.out))) : w.heap.size ≤ gb261)); clear HB; have HB := n0_; have BK261 := n1_; have GW261 := n2_; have GE261 := n3_; clear n0_ n1_ n2_ n3_; clear hb hbox hg; have hcz17_0 : w16.cell? ⟨gb261, 0, none⟩ = some (.string (⟨#[]⟩ : ByteArray)) := (blk_cell BK261.out 0).trans rfl; have hcz17_1 : w16.cell? ⟨gb261, 1, none⟩ = some (.slice none 0 0) := (blk_cell BK261.out 1).trans rfl; have hcz17_2 : w16.cell? ⟨gb261, 2, none⟩ = some (.slice none 0 0) := (blk_cell BK261.out 2).trans rfl; have hfz17_0 := blk_frozen BK261.out 0; have hfz17_1 := blk_frozen BK261.out 1; have hfz17_2 := blk_frozen BK261.out 2))
        have n0_ : Aside0 ((((w16.setCell ⟨gb261, 0, none⟩ (.string ((rd_T31 l0 x7_1).f0))).setCell ⟨gb261, 1, none⟩ (.slice A260_1 ((rd_T31 l0 x7_1).f1).length c260_1)).setCell ⟨gb261, 2, none⟩ (.slice A260_2 ((rd_T31 l0 x7_1).f2).length c260_2)).heap[gb261]? = some (.cells #[.string ((rd_T31 l0 x7_1).f0), .slice A260_1 ((rd_T31 l0 x7_1).f1).length c260_1, .slice A260_2 ((rd_T31 l0 x7_1).f2).length c260_2] 31 (0, 0))) := ⟨by (with_reducible repeat (first | refine blk_drewN ?_ _ | refine blk_drew ?_ | refine blk_alloc ?_ _)); refine blk_put (cs := #[.string ((rd_T31 l0 x7_1).f0), .slice A260_1 ((rd_T31 l0 x7_1).f1).length c260_1, .slice none 0 0]) ?_ 2 _ rfl; (with_reducible repeat (first | refine blk_drewN ?_ _ | refine blk_drew ?_ | refine blk_alloc ?_ _)); refine blk_put (cs := #[.string ((rd_T31 l0 x7_1).f0), .slice none 0 0, .slice none 0 0]) ?_ 1 _ rfl; (with_reducible repeat (first | refine blk_drewN ?_ _ | refine blk_drew ?_ | refine blk_alloc ?_ _)); refine blk_put (cs := #[.string (⟨#[]⟩ : ByteArray), .slice none 0 0, .slice none 0 0]) ?_ 0 _ rfl; (with_reducible repeat (first | refine blk_drewN ?_ _ | refine blk_drew ?_ | refine blk_alloc ?_ _)); exact BK261.out⟩
        have n1_ : Aside0 (Below w.heap.size w (((w16.setCell ⟨gb261, 0, none⟩ (.string ((rd_T31 l0 x7_1).f0))).setCell ⟨gb261, 1, none⟩ (.slice A260_1 ((rd_T31 l0 x7_1).f1).length c260_1)).setCell ⟨gb261, 2, none⟩ (.slice A260_2 ((rd_T31 l0 x7_1).f2).length c260_2))) := ⟨by repeat (first | (with_reducible first | exact HB.out | apply below_alloc | apply pw_below_drewN | apply below_drew1 | refine below_set ?_ GE261.out) | exact HB.out)⟩
        (try clear BK261)
        (try clear HB)
        generalize (((w16.setCell ⟨gb261, 0, none⟩ (.string ((rd_T31 l0 x7_1).f0))).setCell ⟨gb261, 1, none⟩ (.slice A260_1 ((rd_T31 l0 x7_1).f1).length c260_1)).setCell ⟨gb261, 2, none⟩ (.slice A260_2 ((rd_T31 l0 x7_1).f2).length c260_2)) = w18 at n0_ n1_ ⊢
        have BK261 := n0_
        have HB := n1_
        clear n0_ n1_
        have n0_ := Aside0.mk (blk_drew BK261.out)
        have n1_ := Aside0.mk (below_drew1 HB.out)
        clear BK261
        clear HB
        have BK261 := n0_
        have HB := n1_
        clear n0_ n1_
        have p262 : 0 ≤ (0 : Int) := (by omega)
        have q262 : 0 < (l0.length : Int) := of_decide_eq_true (by first | (with_reducible assumption) | assumption)
        obtain ⟨ad262, A262_1, c262_1, A262_2, c262_2, e262, hx262_0, hx262_1, hx262_2, hl262_1, hi262_1, hl262_2, hi262_2⟩ := at_T31 HR0.out 0 p262 q262
        have hw262_2 := hx262_2
        (try rw [show ((0 : Int)).toNat = 0 from rfl] at hw262_2)
        (try rw [show 0 * 3 = 0 from rfl] at hw262_2)
        (try rw [Addr.add_zero'] at hw262_2)
        have hw262_1 := hx262_1
        (try rw [show ((0 : Int)).toNat = 0 from rfl] at hw262_1)
        (try rw [show 0 * 3 = 0 from rfl] at hw262_1)
        (try rw [Addr.add_zero'] at hw262_1)
        have hw262_0 := hx262_0
        (try rw [show ((0 : Int)).toNat = 0 from rfl] at hw262_0)
        (try rw [show 0 * 3 = 0 from rfl] at hw262_0)
        (try rw [Addr.add_zero'] at hw262_0)
        obtain rfl : ad260 = ad262 := (by injection e262)
        have qi262 : (0 < l0.length) = True := eq_true (by omega)
        (try rw [show ((0 : Int)).toNat = 0 from rfl] at hx262_0)
        (try rw [show 0 * 3 = 0 from rfl] at hx262_0)
        (try rw [Addr.add_zero'] at hx262_0)
        (try rw [show ((0 : Int)).toNat = 0 from rfl] at hx262_1)
        (try rw [show 0 * 3 = 0 from rfl] at hx262_1)
        (try rw [Addr.add_zero'] at hx262_1)
        (try rw [show ((0 : Int)).toNat = 0 from rfl] at hx262_2)
        (try rw [show 0 * 3 = 0 from rfl] at hx262_2)
        (try rw [Addr.add_zero'] at hx262_2)
        replace hx262_0 := (HB.out.cell (World.block_lt_of_cell? w _ hx262_0)).trans hx262_0
        replace hx262_1 := (HB.out.cell (World.block_lt_of_cell? w _ hx262_1)).trans hx262_1
        replace hx262_2 := (HB.out.cell (World.block_lt_of_cell? w _ hx262_2)).trans hx262_2
        have HR262_1 := Aside0.mk hi262_1
        have HC262_1 := Aside0.mk hl262_1
        clear hi262_1 hl262_1
        have HR262_2 := Aside0.mk hi262_2
        have HC262_2 := Aside0.mk hl262_2
        clear hi262_2 hl262_2
        replace p262 := eq_true p262
        replace q262 := eq_true q262
        refine start_ (n := 34) (S := fun w' => w'.cell? ⟨gb261, 0, none⟩ = some (.string ((rd_T31 l0 x7_1).f0)) ∧ w'.cell? ⟨gb261, 1, none⟩ = some (.slice A260_1 ((rd_T31 l0 x7_1).f1).length c260_1) ∧ w'.cell? ⟨gb261, 2, none⟩ = some (.slice A260_2 ((rd_T31 l0 x7_1).f2).length c260_2) ∧ w'.cell? ad260 = some (.string ((rd_T31 l0 0).f0)) ∧ w'.cell? ⟨ad260.block, ad260.off + 1, none⟩ = some (.slice A262_1 ((rd_T31 l0 0).f1).length c262_1) ∧ w'.cell? ⟨ad260.block, ad260.off + 2, none⟩ = some (.slice A262_2 ((rd_T31 l0 0).f2).length c262_2)) (ds := []) (bb [0, 34]) (by kernel_rfl) rfl rfl ⟨(blk_cell BK261.out 0).trans rfl, (blk_cell BK261.out 1).trans rfl, (blk_cell BK261.out 2).trans rfl, ((HB.out.cell (World.block_lt_of_cell? w _ hw262_0)).trans hw262_0), ((HB.out.cell (World.block_lt_of_cell? w _ hw262_1)).trans hw262_1), ((HB.out.cell (World.block_lt_of_cell? w _ hw262_2)).trans hw262_2)⟩ (fun hHeld => ?_); refine with_tabW spec_softnetFine.tab4 spec_softnetFine.bits4 (fun HT_ HW_ => ?_)
        generalize w18.drew = w19 at BK261 HB HR262_1 HR262_2 hx262_0 hx262_1 hx262_2 hHeld ⊢
        refine pure_ (i := 0) (N := some 11) (v := ?_) (a' := ?_) (bb [1, 33]) rfl rfl (any_of HT_.out (by kernel_rfl)) (fun _ _ _ h => h) (Or.inl ⟨by rfl, ?_⟩) ?_ ?_
        rotate_left
        ·intro w'
         go_simp
         with_reducible rfl
        rotate_left
        ·simp only [Act.put, List.setIfInBounds_toArray, List.set_cons_zero, List.set_cons_succ, i64_w, i32_w]
         rfl
        refine take_ (i := 1) (N := some 12) (v := ?_) (a' := ?_) (bb [2, 32]) rfl rfl (take_ofW HT_.out HW_.out (by kernel_rfl)) (fun _ _ _ h => h) (Or.inl ⟨by rfl, ?_⟩) hHeld ?_ ?_
        rotate_left
        ·rintro w' ⟨s0, s1, s2, s3, s4, s5⟩
         go_simp
         with_reducible rfl
        rotate_left
        ·simp only [Act.put, List.setIfInBounds_toArray, List.set_cons_zero, List.set_cons_succ, i64_w, i32_w]
         rfl
        refine pure_ (i := 2) (N := some 13) (v := ?_) (a' := ?_) (bb [3, 31]) rfl rfl (any_of HT_.out (by kernel_rfl)) (fun _ _ _ h => h) (Or.inl ⟨by rfl, ?_⟩) ?_ ?_
        rotate_left
        ·intro w'
         go_simp
         with_reducible rfl
        rotate_left
        ·simp only [Act.put, List.setIfInBounds_toArray, List.set_cons_zero, List.set_cons_succ, i64_w, i32_w]
         rfl
        refine pure_ (i := 3) (N := some 14) (v := ?_) (a' := ?_) (bb [4, 30]) rfl rfl (any_of HT_.out (by kernel_rfl)) (fun _ _ _ h => h) (Or.inl ⟨by rfl, ?_⟩) ?_ ?_
        rotate_left
        ·intro w'
         go_simp
         with_reducible rfl
        rotate_left
        ·simp only [Act.put, List.setIfInBounds_toArray, List.set_cons_zero, List.set_cons_succ, i64_w, i32_w]
         rfl
        refine pure_ (i := 4) (N := some 15) (v := ?_) (a' := ?_) (bb [5, 29]) rfl rfl (any_of HT_.out (by kernel_rfl)) (fun _ _ _ h => h) (Or.inl ⟨by rfl, ?_⟩) ?_ ?_
        rotate_left
        ·intro w'
         go_simp
         with_reducible rfl
        rotate_left
        ·simp only [Act.put, List.setIfInBounds_toArray, List.set_cons_zero, List.set_cons_succ, i64_w, i32_w]
         rfl
        refine take_ (i := 5) (N := some 16) (v := ?_) (a' := ?_) (bb [6, 28]) rfl rfl (take_ofW HT_.out HW_.out (by kernel_rfl)) (fun _ _ _ h => h) (Or.inl ⟨by rfl, ?_⟩) hHeld ?_ ?_
        rotate_left
        ·rintro w' ⟨s0, s1, s2, s3, s4, s5⟩
         go_simp
         with_reducible rfl
        rotate_left
        ·simp only [Act.put, List.setIfInBounds_toArray, List.set_cons_zero, List.set_cons_succ, i64_w, i32_w]
         rfl
        refine pure_ (i := 6) (N := some 17) (v := ?_) (a' := ?_) (bb [7, 27]) rfl rfl (any_of HT_.out (by kernel_rfl)) (fun _ _ _ h => h) (Or.inl ⟨by rfl, ?_⟩) ?_ ?_
        rotate_left
        ·intro w'
         go_simp
         with_reducible rfl
        rotate_left
        ·simp only [Act.put, List.setIfInBounds_toArray, List.set_cons_zero, List.set_cons_succ, i64_w, i32_w]
         rfl
        refine pure_ (i := 7) (N := some 18) (v := ?_) (a' := ?_) (bb [8, 26]) rfl rfl (any_of HT_.out (by kernel_rfl)) (fun _ _ _ h => h) (Or.inl ⟨by rfl, ?_⟩) ?_ ?_
        rotate_left
        ·intro w'
         go_simp
         with_reducible rfl
        rotate_left
        ·simp only [Act.put, List.setIfInBounds_toArray, List.set_cons_zero, List.set_cons_succ, i64_w, i32_w]
         rfl
        refine pure_ (i := 8) (N := some 19) (v := ?_) (a' := ?_) (bb [9, 25]) rfl rfl (any_of HT_.out (by kernel_rfl)) (fun _ _ _ h => h) (Or.inl ⟨by rfl, ?_⟩) ?_ ?_
        rotate_left
        ·intro w'
         go_simp
         with_reducible rfl
        rotate_left
        ·simp only [Act.put, List.setIfInBounds_toArray, List.set_cons_zero, List.set_cons_succ, i64_w, i32_w]
         rfl
        refine pure_ (i := 9) (N := some 20) (v := undef) (a' := ?_) (bb [10, 24]) rfl rfl (any_of HT_.out (by kernel_rfl)) (fun _ _ _ h => h) (Or.inr ⟨by rfl, rfl⟩) ?_ ?_
        rotate_left
        ·simp only [Act.put, List.setIfInBounds_toArray, List.set_cons_zero, List.set_cons_succ, i64_w, i32_w]
         rfl
        refine pure_ (i := 10) (N := some 21) (v := undef) (a' := ?_) (bb [11, 23]) rfl rfl (any_of HT_.out (by kernel_rfl)) (fun _ _ _ h => h) (Or.inr ⟨by rfl, rfl⟩) ?_ ?_
        rotate_left
        ·simp only [Act.put, List.setIfInBounds_toArray, List.set_cons_zero, List.set_cons_succ, i64_w, i32_w]
         rfl
        refine pure_ (i := 11) (N := some 22) (v := undef) (a' := ?_) (bb [12, 22]) rfl rfl (any_of HT_.out (by kernel_rfl)) (fun _ _ _ h => h) (Or.inr ⟨by rfl, rfl⟩) ?_ ?_
        rotate_left
        ·simp only [Act.put, List.setIfInBounds_toArray, List.set_cons_zero, List.set_cons_succ, i64_w, i32_w]
         rfl
        refine pure_ (i := 12) (N := some 23) (v := undef) (a' := ?_) (bb [13, 21]) rfl rfl (any_of HT_.out (by kernel_rfl)) (fun _ _ _ h => h) (Or.inr ⟨by rfl, rfl⟩) ?_ ?_
        rotate_left
        ·simp only [Act.put, List.setIfInBounds_toArray, List.set_cons_zero, List.set_cons_succ, i64_w, i32_w]
         rfl
        refine pure_ (i := 13) (N := some 24) (v := ?_) (a' := ?_) (bb [14, 20]) rfl rfl (any_of HT_.out (by kernel_rfl)) (fun _ _ _ h => h) (Or.inl ⟨by rfl, ?_⟩) ?_ ?_
        rotate_left
        ·intro w'
         go_simp
         with_reducible rfl
        rotate_left
        ·simp only [Act.put, List.setIfInBounds_toArray, List.set_cons_zero, List.set_cons_succ, i64_w, i32_w]
         rfl
        refine pure_ (i := 14) (N := some 25) (v := ?_) (a' := ?_) (bb [15, 19]) rfl rfl (any_of HT_.out (by kernel_rfl)) (fun _ _ _ h => h) (Or.inl ⟨by rfl, ?_⟩) ?_ ?_
        rotate_left
        ·intro w'
         go_simp
         with_reducible rfl
        rotate_left
        ·simp only [Act.put, List.setIfInBounds_toArray, List.set_cons_zero, List.set_cons_succ, i64_w, i32_w]
         rfl
        refine pure_ (i := 15) (N := some 26) (v := ?_) (a' := ?_) (bb [16, 18]) rfl rfl (any_of HT_.out (by kernel_rfl)) (fun _ _ _ h => h) (Or.inl ⟨by rfl, ?_⟩) ?_ ?_
        rotate_left
        ·intro w'
         go_simp
         with_reducible rfl
        rotate_left
        ·simp only [Act.put, List.setIfInBounds_toArray, List.set_cons_zero, List.set_cons_succ, i64_w, i32_w]
         rfl
        refine pure_ (i := 16) (N := some 27) (v := ?_) (a' := ?_) (bb [17, 17]) rfl rfl (any_of HT_.out (by kernel_rfl)) (fun _ _ _ h => h) (Or.inl ⟨by rfl, ?_⟩) ?_ ?_
        rotate_left
        ·intro w'
         go_simp
         with_reducible rfl
        rotate_left
        ·simp only [Act.put, List.setIfInBounds_toArray, List.set_cons_zero, List.set_cons_succ, i64_w, i32_w]
         rfl
        refine pure_ (i := 19) (N := some 30) (v := ?_) (a' := ?_) (bb [17, 2, 1, 14]) rfl rfl (any_of HT_.out (by kernel_rfl)) (fun _ _ _ h => h) (Or.inl ⟨by rfl, ?_⟩) ?_ ?_
        rotate_left
        ·intro w'
         go_simp
         with_reducible rfl
        rotate_left
        ·simp only [Act.put, List.setIfInBounds_toArray, List.set_cons_zero, List.set_cons_succ, i64_w, i32_w]
         rfl
        refine pure_ (i := 20) (N := some 31) (v := ?_) (a' := ?_) (bb [17, 2, 2, 13]) rfl rfl (any_of HT_.out (by kernel_rfl)) (fun _ _ _ h => h) (Or.inl ⟨by rfl, ?_⟩) ?_ ?_
        rotate_left
        ·intro w'
         go_simp
         with_reducible rfl
        rotate_left
        ·simp only [Act.put, List.setIfInBounds_toArray, List.set_cons_zero, List.set_cons_succ, i64_w, i32_w]
         rfl
        refine pure_ (i := 21) (N := some 32) (v := ?_) (a' := ?_) (bb [17, 2, 3, 12]) rfl rfl (any_of HT_.out (by kernel_rfl)) (fun _ _ _ h => h) (Or.inl ⟨by rfl, ?_⟩) ?_ ?_
        rotate_left
        ·intro w'
         go_simp
         with_reducible rfl
        rotate_left
        ·simp only [Act.put, List.setIfInBounds_toArray, List.set_cons_zero, List.set_cons_succ, i64_w, i32_w]
         rfl
        refine take_ (i := 17) (N := some 28) (v := ?_) (a' := ?_) (bb [18, 1, 3, 12]) rfl rfl (take_ofW HT_.out HW_.out (by kernel_rfl)) (fun _ _ _ h => h) (Or.inl ⟨by rfl, ?_⟩) hHeld ?_ ?_
        rotate_left
        ·rintro w' ⟨s0, s1, s2, s3, s4, s5⟩
         go_simp
         with_reducible rfl
        rotate_left
        ·simp only [Act.put, List.setIfInBounds_toArray, List.set_cons_zero, List.set_cons_succ, i64_w, i32_w]
         rfl
        refine pure_ (i := 18) (N := some 29) (v := ?_) (a' := ?_) (bb [22, 12]) rfl rfl (any_of HT_.out (by kernel_rfl)) (fun _ _ _ h => h) (Or.inl ⟨by rfl, ?_⟩) ?_ ?_
        rotate_left
        ·intro w'
         go_simp
         with_reducible rfl
        rotate_left
        ·simp only [Act.put, List.setIfInBounds_toArray, List.set_cons_zero, List.set_cons_succ, i64_w, i32_w]
         rfl
        refine take_ (i := 22) (N := some 33) (v := ?_) (a' := ?_) (bb [23, 11]) rfl rfl (take_ofW HT_.out HW_.out (by kernel_rfl)) (fun _ _ _ h => h) (Or.inl ⟨by rfl, ?_⟩) hHeld ?_ ?_
        rotate_left
        ·rintro w' ⟨s0, s1, s2, s3, s4, s5⟩
         go_simp
         with_reducible rfl
        rotate_left
        ·simp only [Act.put, List.setIfInBounds_toArray, List.set_cons_zero, List.set_cons_succ, i64_w, i32_w]
         rfl
        refine pure_ (i := 23) (N := some 34) (v := ?_) (a' := ?_) (bb [24, 10]) rfl rfl (any_of HT_.out (by kernel_rfl)) (fun _ _ _ h => h) (Or.inl ⟨by rfl, ?_⟩) ?_ ?_
        rotate_left
        ·intro w'
         go_simp
         with_reducible rfl
        rotate_left
        ·simp only [Act.put, List.setIfInBounds_toArray, List.set_cons_zero, List.set_cons_succ, i64_w, i32_w]
         rfl
        refine pure_ (i := 24) (N := some 35) (v := ?_) (a' := ?_) (bb [25, 9]) rfl rfl (any_of HT_.out (by kernel_rfl)) (fun _ _ _ h => h) (Or.inl ⟨by rfl, ?_⟩) ?_ ?_
        rotate_left
        ·intro w'
         go_simp
         with_reducible rfl
        rotate_left
        ·simp only [Act.put, List.setIfInBounds_toArray, List.set_cons_zero, List.set_cons_succ, i64_w, i32_w]
         rfl
        refine pure_ (i := 25) (N := some 36) (v := ?_) (a' := ?_) (bb [26, 8]) rfl rfl (any_of HT_.out (by kernel_rfl)) (fun _ _ _ h => h) (Or.inl ⟨by rfl, ?_⟩) ?_ ?_
        rotate_left
        ·intro w'
         go_simp
         with_reducible rfl
        rotate_left
        ·simp only [Act.put, List.setIfInBounds_toArray, List.set_cons_zero, List.set_cons_succ, i64_w, i32_w]
         rfl
        refine pure_ (i := 26) (N := some 37) (v := ?_) (a' := ?_) (bb [27, 7]) rfl rfl (any_of HT_.out (by kernel_rfl)) (fun _ _ _ h => h) (Or.inl ⟨by rfl, ?_⟩) ?_ ?_
        rotate_left
        ·intro w'
         go_simp
         with_reducible rfl
        rotate_left
        ·simp only [Act.put, List.setIfInBounds_toArray, List.set_cons_zero, List.set_cons_succ, i64_w, i32_w]
         rfl
        refine pure_ (i := 28) (N := some 39) (v := ?_) (a' := ?_) (bb [27, 1, 1, 5]) rfl rfl (any_of HT_.out (by kernel_rfl)) (fun _ _ _ h => h) (Or.inl ⟨by rfl, ?_⟩) ?_ ?_
        rotate_left
        ·intro w'
         go_simp
         with_reducible rfl
        rotate_left
        ·simp only [Act.put, List.setIfInBounds_toArray, List.set_cons_zero, List.set_cons_succ, i64_w, i32_w]
         rfl
        refine take_ (i := 27) (N := some 38) (v := ?_) (a' := ?_) (bb [29, 5]) rfl rfl (take_ofW HT_.out HW_.out (by kernel_rfl)) (fun _ _ _ h => h) (Or.inl ⟨by rfl, ?_⟩) hHeld ?_ ?_
        rotate_left
        ·rintro w' ⟨s0, s1, s2, s3, s4, s5⟩
         go_simp
         with_reducible rfl
        rotate_left
        ·simp only [Act.put, List.setIfInBounds_toArray, List.set_cons_zero, List.set_cons_succ, i64_w, i32_w]
         rfl
        refine take_ (i := 29) (N := some 40) (v := ?_) (a' := ?_) (bb [30, 4]) rfl rfl (take_ofW HT_.out HW_.out (by kernel_rfl)) (fun _ _ _ h => h) (Or.inl ⟨by rfl, ?_⟩) hHeld ?_ ?_
        rotate_left
        ·rintro w' ⟨s0, s1, s2, s3, s4, s5⟩
         go_simp
         with_reducible rfl
        rotate_left
        ·simp only [Act.put, List.setIfInBounds_toArray, List.set_cons_zero, List.set_cons_succ, i64_w, i32_w]
         rfl
        refine pure_ (i := 30) (N := some 41) (v := ?_) (a' := ?_) (bb [31, 3]) rfl rfl (any_of HT_.out (by kernel_rfl)) (fun _ _ _ h => h) (Or.inl ⟨by rfl, ?_⟩) ?_ ?_
        rotate_left
        ·intro w'
         go_simp
         with_reducible rfl
        rotate_left
        ·simp only [Act.put, List.setIfInBounds_toArray, List.set_cons_zero, List.set_cons_succ, i64_w, i32_w]
         rfl
        refine one_ (i := 31) (N := some 42) (bb [32, 2]) rfl rfl (one_of HT_.out (by kernel_rfl)) (by decide) (fun K hK => ?_)
        refine goes_ Tryz.func164 (by kernel_rfl) rfl #[.agg #[.string ((rd_T31 l0 x7_1).f0), .slice A260_1 ((rd_T31 l0 x7_1).f1).length c260_1, .slice A260_2 ((rd_T31 l0 x7_1).f2).length c260_2], .int .i64 (((rd_T31 l0 x7_1).f1).length : Int), .int .i64 32, .int .i64 0] (by rfl) rfl rfl (by (try simp only [List.map_toArray, List.map_cons, List.map_nil]); first | done | rfl | (simp only [List.length_drop, List.length_take]; rfl)) ?_
        with_reducible refine (spec_counted.calls k1 ((rd_T31 l0 x7_1).f0) _ _ ((rd_T31 l0 x7_1).f1) _ _ ((rd_T31 l0 x7_1).f2) (((rd_T31 l0 x7_1).f1).length : Int) 32 0 false _ ?side1 ?side2 ?side3 ?side4 A9.out).mono ?_
        (case side1 => repeat (first | exact (Kd.C_below HR260_1.out HB.out) | (with_reducible refine Kd.C_alloc ?_ _) | (with_reducible refine Kd.C_drewN ?_ _) | (with_reducible refine Kd.C_drew ?_)))
        (case side2 => exact HC260_1.out)
        (case side3 => repeat (first | exact (Kd.C_below HR260_2.out HB.out) | (with_reducible refine Kd.C_alloc ?_ _) | (with_reducible refine Kd.C_drewN ?_ _) | (with_reducible refine Kd.C_drew ?_)))
        (case side4 => exact HC260_2.out)
        rintro e w20 ⟨rfl, hb⟩
        refine ⟨_, rfl, ?_⟩
        have n0_ := Aside0.mk (blk_below (g := gb261) (o := .cells #[.string ((rd_T31 l0 x7_1).f0), .slice A260_1 ((rd_T31 l0 x7_1).f1).length c260_1, .slice A260_2 ((rd_T31 l0 x7_1).f2).length c260_2] 31 (0, 0)) (by (with_reducible repeat (first | refine blk_drewN ?_ _ | refine blk_drew ?_ | refine blk_alloc ?_ _)); exact BK261.out) hb)
        have n1_ := Aside0.mk (below_step (by repeat (first | (with_reducible first | exact HB.out | apply below_alloc | apply pw_below_drewN | apply below_drew1 | refine below_set ?_ GE261.out) | exact HB.out)) hb)
        clear BK261
        clear HB
        have BK261 := n0_
        have HB := n1_
        clear n0_ n1_
        (try clear hb)
        (try clear hb2)
        (try clear hk)
        (try clear hi)
        refine hK.out _ _ ⟨(blk_cell BK261.out 0).trans rfl, (blk_cell BK261.out 1).trans rfl, (blk_cell BK261.out 2).trans rfl, ((HB.out.cell (World.block_lt_of_cell? w _ hw262_0)).trans hw262_0), ((HB.out.cell (World.block_lt_of_cell? w _ hw262_1)).trans hw262_1), ((HB.out.cell (World.block_lt_of_cell? w _ hw262_2)).trans hw262_2)⟩ (fun hHeld => ?_)
        clear hK K
        refine norm_ (a' := ?_) ?_ ?_
        rotate_left
        ·show Act.put _ (some 42) _ = _
         simp only [Act.put, List.setIfInBounds_toArray, List.set_cons_zero, List.set_cons_succ, i64_w, i32_w]
         rfl
        refine pure_ (i := 32) (N := some 43) (v := ?_) (a' := ?_) (bb [33, 1]) rfl rfl (any_of HT_.out (by kernel_rfl)) (fun _ _ _ h => h) (Or.inl ⟨by rfl, ?_⟩) ?_ ?_
        rotate_left
        ·intro w'
         go_simp
         with_reducible rfl
        rotate_left
        ·simp only [Act.put, List.setIfInBounds_toArray, List.set_cons_zero, List.set_cons_succ, i64_w, i32_w]
         rfl
        refine pure_ (i := 33) (N := some 44) (v := ?_) (a' := ?_) (bb [34]) rfl rfl (any_of HT_.out (by kernel_rfl)) (fun _ _ _ h => h) (Or.inl ⟨by rfl, ?_⟩) ?_ ?_
        rotate_left
        ·intro w'
         go_simp
         with_reducible rfl
        rotate_left
        ·simp only [Act.put, List.setIfInBounds_toArray, List.set_cons_zero, List.set_cons_succ, i64_w, i32_w]
         rfl
        refine done_ (done_of HT_.out (by kernel_rfl)) ?_
        try go_wp2
        go_ret
        exact ⟨by first | rfl | (simp [errW_none, errW_some] <;> rfl) | (simp [*, errW_none, errW_some] <;> rfl), by repeat (first | (with_reducible first | exact HB.out | apply below_alloc | apply pw_below_drewN | apply below_drew1 | refine below_set ?_ GE261.out) | exact HB.out)⟩
      ·rw [if_neg c8] at H
       have c8b0 : ((((rd_T31 l0 x7_1).f1).length : Int) == (((rd_T31 l0 0).f1).length : Int)) = false := beq_eq_false_iff_ne.mpr c8
       have c8b1 : ((((rd_T31 l0 x7_1).f1).length : Int) != (((rd_T31 l0 0).f1).length : Int)) = true := bne_iff_ne.mpr c8
       have c8b2 : (((rd_T31 l0 x7_1).f1).length == ((rd_T31 l0 0).f1).length) = false := by first | simpa using c8 | (simp at c8 ⊢; omega)
       obtain rfl := Option.some.inj H
       have p260 : 0 ≤ (x7_1 : Int) := of_decide_eq_true (by first | (with_reducible assumption) | assumption)
       have q260 : x7_1 < (l0.length : Int) := of_decide_eq_true (by first | (with_reducible assumption) | assumption)
       obtain ⟨ad260, A260_1, c260_1, A260_2, c260_2, e260, hx260_0, hx260_1, hx260_2, hl260_1, hi260_1, hl260_2, hi260_2⟩ := at_T31 HR0.out x7_1 p260 q260
       cases e260
       replace hx260_0 := (HB.out.cell (World.block_lt_of_cell? w _ hx260_0)).trans hx260_0
       replace hx260_1 := (HB.out.cell (World.block_lt_of_cell? w _ hx260_1)).trans hx260_1
       replace hx260_2 := (HB.out.cell (World.block_lt_of_cell? w _ hx260_2)).trans hx260_2
       have HR260_1 := Aside0.mk hi260_1
       have HC260_1 := Aside0.mk hl260_1
       clear hi260_1 hl260_1
       have HR260_2 := Aside0.mk hi260_2
       have HC260_2 := Aside0.mk hl260_2
       clear hi260_2 hl260_2
       replace p260 := eq_true p260
       replace q260 := eq_true q260
       try go_wp2_with (first | ((with_reducible refine gate_dst (N := 4) rfl ?_); (try (refine gate_guard (by rfl) ?_; dsimp only)); refine box_event ?hg (N := 4) ?hd (cs := #[.string (⟨#[]⟩ : ByteArray), .slice none 0 0, .slice none 0 0]) (t := 31) ?hr ?_; (case hd => rfl); (case hg => rfl); (case hr => first | (go_simp; done) | (go_simp; rfl)); intro gb261 hg w21 hbox hb; have n0_ := Aside0.mk (below_step (by repeat (first | (with_reducible first | exact HB.out | apply below_alloc | apply pw_below_drewN | apply below_drew1) | exact HB.out)) hb); have n1_ := Aside0.mk (hbox); have n2_ := Aside0.mk ((by rw [hg]; exact (below_size (by repeat (first | (with_reducible first | exact HB.out | apply below_alloc | apply pw_below_drewN | apply below_drew1) | exact HB.out))) : w.heap.size ≤ gb261)); have n3_ := Aside0.mk ((by rw [hg]; exact (below_size (by repeat (first | (with_reducible first | exact HB.out | apply below_alloc | apply pw_below_drewN | apply below_drew1) | exact HB.out))) : w.heap.size ≤ gb261)); clear HB; have HB := n0_; have BK261 := n1_; have GW261 := n2_; have GE261 := n3_; clear n0_ n1_ n2_ n3_; clear hb hbox hg; have hcz22_0 : w21.cell? ⟨gb261, 0, none⟩ = some (.string (⟨#[]⟩ : ByteArray)) := (blk_cell BK261.out 0).trans rfl; have hcz22_1 : w21.cell? ⟨gb261, 1, none⟩ = some (.slice none 0 0) := (blk_cell BK261.out 1).trans rfl; have hcz22_2 : w21.cell? ⟨gb261, 2, none⟩ = some (.slice none 0 0) := (blk_cell BK261.out 2).trans rfl; have hfz22_0 := blk_frozen BK261.out 0; have hfz22_1 := blk_frozen BK261.out 1; have hfz22_2 := blk_frozen BK261.out 2))
       have n0_ : Aside0 ((((w21.setCell ⟨gb261, 0, none⟩ (.string ((rd_T31 l0 x7_1).f0))).setCell ⟨gb261, 1, none⟩ (.slice A260_1 ((rd_T31 l0 x7_1).f1).length c260_1)).setCell ⟨gb261, 2, none⟩ (.slice A260_2 ((rd_T31 l0 x7_1).f2).length c260_2)).heap[gb261]? = some (.cells #[.string ((rd_T31 l0 x7_1).f0), .slice A260_1 ((rd_T31 l0 x7_1).f1).length c260_1, .slice A260_2 ((rd_T31 l0 x7_1).f2).length c260_2] 31 (0, 0))) := ⟨by (with_reducible repeat (first | refine blk_drewN ?_ _ | refine blk_drew ?_ | refine blk_alloc ?_ _)); refine blk_put (cs := #[.string ((rd_T31 l0 x7_1).f0), .slice A260_1 ((rd_T31 l0 x7_1).f1).length c260_1, .slice none 0 0]) ?_ 2 _ rfl; (with_reducible repeat (first | refine blk_drewN ?_ _ | refine blk_drew ?_ | refine blk_alloc ?_ _)); refine blk_put (cs := #[.string ((rd_T31 l0 x7_1).f0), .slice none 0 0, .slice none 0 0]) ?_ 1 _ rfl; (with_reducible repeat (first | refine blk_drewN ?_ _ | refine blk_drew ?_ | refine blk_alloc ?_ _)); refine blk_put (cs := #[.string (⟨#[]⟩ : ByteArray), .slice none 0 0, .slice none 0 0]) ?_ 0 _ rfl; (with_reducible repeat (first | refine blk_drewN ?_ _ | refine blk_drew ?_ | refine blk_alloc ?_ _)); exact BK261.out⟩
       have n1_ : Aside0 (Below w.heap.size w (((w21.setCell ⟨gb261, 0, none⟩ (.string ((rd_T31 l0 x7_1).f0))).setCell ⟨gb261, 1, none⟩ (.slice A260_1 ((rd_T31 l0 x7_1).f1).length c260_1)).setCell ⟨gb261, 2, none⟩ (.slice A260_2 ((rd_T31 l0 x7_1).f2).length c260_2))) := ⟨by repeat (first | (with_reducible first | exact HB.out | apply below_alloc | apply pw_below_drewN | apply below_drew1 | refine below_set ?_ GE261.out) | exact HB.out)⟩
       (try clear BK261)
       (try clear HB)
       generalize (((w21.setCell ⟨gb261, 0, none⟩ (.string ((rd_T31 l0 x7_1).f0))).setCell ⟨gb261, 1, none⟩ (.slice A260_1 ((rd_T31 l0 x7_1).f1).length c260_1)).setCell ⟨gb261, 2, none⟩ (.slice A260_2 ((rd_T31 l0 x7_1).f2).length c260_2)) = w23 at n0_ n1_ ⊢
       have BK261 := n0_
       have HB := n1_
       clear n0_ n1_
       have n0_ := Aside0.mk (blk_drew BK261.out)
       have n1_ := Aside0.mk (below_drew1 HB.out)
       clear BK261
       clear HB
       have BK261 := n0_
       have HB := n1_
       clear n0_ n1_
       have p262 : 0 ≤ (0 : Int) := (by omega)
       have q262 : 0 < (l0.length : Int) := of_decide_eq_true (by first | (with_reducible assumption) | assumption)
       obtain ⟨ad262, A262_1, c262_1, A262_2, c262_2, e262, hx262_0, hx262_1, hx262_2, hl262_1, hi262_1, hl262_2, hi262_2⟩ := at_T31 HR0.out 0 p262 q262
       have hw262_2 := hx262_2
       (try rw [show ((0 : Int)).toNat = 0 from rfl] at hw262_2)
       (try rw [show 0 * 3 = 0 from rfl] at hw262_2)
       (try rw [Addr.add_zero'] at hw262_2)
       have hw262_1 := hx262_1
       (try rw [show ((0 : Int)).toNat = 0 from rfl] at hw262_1)
       (try rw [show 0 * 3 = 0 from rfl] at hw262_1)
       (try rw [Addr.add_zero'] at hw262_1)
       have hw262_0 := hx262_0
       (try rw [show ((0 : Int)).toNat = 0 from rfl] at hw262_0)
       (try rw [show 0 * 3 = 0 from rfl] at hw262_0)
       (try rw [Addr.add_zero'] at hw262_0)
       obtain rfl : ad260 = ad262 := (by injection e262)
       have qi262 : (0 < l0.length) = True := eq_true (by omega)
       (try rw [show ((0 : Int)).toNat = 0 from rfl] at hx262_0)
       (try rw [show 0 * 3 = 0 from rfl] at hx262_0)
       (try rw [Addr.add_zero'] at hx262_0)
       (try rw [show ((0 : Int)).toNat = 0 from rfl] at hx262_1)
       (try rw [show 0 * 3 = 0 from rfl] at hx262_1)
       (try rw [Addr.add_zero'] at hx262_1)
       (try rw [show ((0 : Int)).toNat = 0 from rfl] at hx262_2)
       (try rw [show 0 * 3 = 0 from rfl] at hx262_2)
       (try rw [Addr.add_zero'] at hx262_2)
       replace hx262_0 := (HB.out.cell (World.block_lt_of_cell? w _ hx262_0)).trans hx262_0
       replace hx262_1 := (HB.out.cell (World.block_lt_of_cell? w _ hx262_1)).trans hx262_1
       replace hx262_2 := (HB.out.cell (World.block_lt_of_cell? w _ hx262_2)).trans hx262_2
       have HR262_1 := Aside0.mk hi262_1
       have HC262_1 := Aside0.mk hl262_1
       clear hi262_1 hl262_1
       have HR262_2 := Aside0.mk hi262_2
       have HC262_2 := Aside0.mk hl262_2
       clear hi262_2 hl262_2
       replace p262 := eq_true p262
       replace q262 := eq_true q262
       refine start_ (n := 34) (S := fun w' => w'.cell? ⟨gb261, 0, none⟩ = some (.string ((rd_T31 l0 x7_1).f0)) ∧ w'.cell? ⟨gb261, 1, none⟩ = some (.slice A260_1 ((rd_T31 l0 x7_1).f1).length c260_1) ∧ w'.cell? ⟨gb261, 2, none⟩ = some (.slice A260_2 ((rd_T31 l0 x7_1).f2).length c260_2) ∧ w'.cell? ad260 = some (.string ((rd_T31 l0 0).f0)) ∧ w'.cell? ⟨ad260.block, ad260.off + 1, none⟩ = some (.slice A262_1 ((rd_T31 l0 0).f1).length c262_1) ∧ w'.cell? ⟨ad260.block, ad260.off + 2, none⟩ = some (.slice A262_2 ((rd_T31 l0 0).f2).length c262_2)) (ds := []) (bb [0, 34]) (by kernel_rfl) rfl rfl ⟨(blk_cell BK261.out 0).trans rfl, (blk_cell BK261.out 1).trans rfl, (blk_cell BK261.out 2).trans rfl, ((HB.out.cell (World.block_lt_of_cell? w _ hw262_0)).trans hw262_0), ((HB.out.cell (World.block_lt_of_cell? w _ hw262_1)).trans hw262_1), ((HB.out.cell (World.block_lt_of_cell? w _ hw262_2)).trans hw262_2)⟩ (fun hHeld => ?_); refine with_tabW spec_softnetFine.tab4 spec_softnetFine.bits4 (fun HT_ HW_ => ?_)
       generalize w23.drew = w24 at BK261 HB HR262_1 HR262_2 hx262_0 hx262_1 hx262_2 hHeld ⊢
       refine pure_ (i := 0) (N := some 11) (v := ?_) (a' := ?_) (bb [1, 33]) rfl rfl (any_of HT_.out (by kernel_rfl)) (fun _ _ _ h => h) (Or.inl ⟨by rfl, ?_⟩) ?_ ?_
       rotate_left
       ·intro w'
        go_simp
        with_reducible rfl
       rotate_left
       ·simp only [Act.put, List.setIfInBounds_toArray, List.set_cons_zero, List.set_cons_succ, i64_w, i32_w]
        rfl
       refine take_ (i := 1) (N := some 12) (v := ?_) (a' := ?_) (bb [2, 32]) rfl rfl (take_ofW HT_.out HW_.out (by kernel_rfl)) (fun _ _ _ h => h) (Or.inl ⟨by rfl, ?_⟩) hHeld ?_ ?_
       rotate_left
       ·rintro w' ⟨s0, s1, s2, s3, s4, s5⟩
        go_simp
        with_reducible rfl
       rotate_left
       ·simp only [Act.put, List.setIfInBounds_toArray, List.set_cons_zero, List.set_cons_succ, i64_w, i32_w]
        rfl
       refine pure_ (i := 2) (N := some 13) (v := ?_) (a' := ?_) (bb [3, 31]) rfl rfl (any_of HT_.out (by kernel_rfl)) (fun _ _ _ h => h) (Or.inl ⟨by rfl, ?_⟩) ?_ ?_
       rotate_left
       ·intro w'
        go_simp
        with_reducible rfl
       rotate_left
       ·simp only [Act.put, List.setIfInBounds_toArray, List.set_cons_zero, List.set_cons_succ, i64_w, i32_w]
        rfl
       refine pure_ (i := 3) (N := some 14) (v := ?_) (a' := ?_) (bb [4, 30]) rfl rfl (any_of HT_.out (by kernel_rfl)) (fun _ _ _ h => h) (Or.inl ⟨by rfl, ?_⟩) ?_ ?_
       rotate_left
       ·intro w'
        go_simp
        with_reducible rfl
       rotate_left
       ·simp only [Act.put, List.setIfInBounds_toArray, List.set_cons_zero, List.set_cons_succ, i64_w, i32_w]
        rfl
       refine pure_ (i := 4) (N := some 15) (v := ?_) (a' := ?_) (bb [5, 29]) rfl rfl (any_of HT_.out (by kernel_rfl)) (fun _ _ _ h => h) (Or.inl ⟨by rfl, ?_⟩) ?_ ?_
       rotate_left
       ·intro w'
        go_simp
        with_reducible rfl
       rotate_left
       ·simp only [Act.put, List.setIfInBounds_toArray, List.set_cons_zero, List.set_cons_succ, i64_w, i32_w]
        rfl
       refine take_ (i := 5) (N := some 16) (v := ?_) (a' := ?_) (bb [6, 28]) rfl rfl (take_ofW HT_.out HW_.out (by kernel_rfl)) (fun _ _ _ h => h) (Or.inl ⟨by rfl, ?_⟩) hHeld ?_ ?_
       rotate_left
       ·rintro w' ⟨s0, s1, s2, s3, s4, s5⟩
        go_simp
        with_reducible rfl
       rotate_left
       ·simp only [Act.put, List.setIfInBounds_toArray, List.set_cons_zero, List.set_cons_succ, i64_w, i32_w]
        rfl
       refine pure_ (i := 6) (N := some 17) (v := ?_) (a' := ?_) (bb [7, 27]) rfl rfl (any_of HT_.out (by kernel_rfl)) (fun _ _ _ h => h) (Or.inl ⟨by rfl, ?_⟩) ?_ ?_
       rotate_left
       ·intro w'
        go_simp
        with_reducible rfl
       rotate_left
       ·simp only [Act.put, List.setIfInBounds_toArray, List.set_cons_zero, List.set_cons_succ, i64_w, i32_w]
        rfl
       refine pure_ (i := 7) (N := some 18) (v := ?_) (a' := ?_) (bb [8, 26]) rfl rfl (any_of HT_.out (by kernel_rfl)) (fun _ _ _ h => h) (Or.inl ⟨by rfl, ?_⟩) ?_ ?_
       rotate_left
       ·intro w'
        go_simp
        with_reducible rfl
       rotate_left
       ·simp only [Act.put, List.setIfInBounds_toArray, List.set_cons_zero, List.set_cons_succ, i64_w, i32_w]
        rfl
       refine pure_ (i := 8) (N := some 19) (v := ?_) (a' := ?_) (bb [9, 25]) rfl rfl (any_of HT_.out (by kernel_rfl)) (fun _ _ _ h => h) (Or.inl ⟨by rfl, ?_⟩) ?_ ?_
       rotate_left
       ·intro w'
        go_simp
        with_reducible rfl
       rotate_left
       ·simp only [Act.put, List.setIfInBounds_toArray, List.set_cons_zero, List.set_cons_succ, i64_w, i32_w]
        rfl
       refine pure_ (i := 9) (N := some 20) (v := undef) (a' := ?_) (bb [10, 24]) rfl rfl (any_of HT_.out (by kernel_rfl)) (fun _ _ _ h => h) (Or.inr ⟨by rfl, rfl⟩) ?_ ?_
       rotate_left
       ·simp only [Act.put, List.setIfInBounds_toArray, List.set_cons_zero, List.set_cons_succ, i64_w, i32_w]
        rfl
       refine pure_ (i := 10) (N := some 21) (v := undef) (a' := ?_) (bb [11, 23]) rfl rfl (any_of HT_.out (by kernel_rfl)) (fun _ _ _ h => h) (Or.inr ⟨by rfl, rfl⟩) ?_ ?_
       rotate_left
       ·simp only [Act.put, List.setIfInBounds_toArray, List.set_cons_zero, List.set_cons_succ, i64_w, i32_w]
        rfl
       refine pure_ (i := 11) (N := some 22) (v := undef) (a' := ?_) (bb [12, 22]) rfl rfl (any_of HT_.out (by kernel_rfl)) (fun _ _ _ h => h) (Or.inr ⟨by rfl, rfl⟩) ?_ ?_
       rotate_left
       ·simp only [Act.put, List.setIfInBounds_toArray, List.set_cons_zero, List.set_cons_succ, i64_w, i32_w]
        rfl
       refine pure_ (i := 12) (N := some 23) (v := undef) (a' := ?_) (bb [13, 21]) rfl rfl (any_of HT_.out (by kernel_rfl)) (fun _ _ _ h => h) (Or.inr ⟨by rfl, rfl⟩) ?_ ?_
       rotate_left
       ·simp only [Act.put, List.setIfInBounds_toArray, List.set_cons_zero, List.set_cons_succ, i64_w, i32_w]
        rfl
       refine pure_ (i := 13) (N := some 24) (v := ?_) (a' := ?_) (bb [14, 20]) rfl rfl (any_of HT_.out (by kernel_rfl)) (fun _ _ _ h => h) (Or.inl ⟨by rfl, ?_⟩) ?_ ?_
       rotate_left
       ·intro w'
        go_simp
        with_reducible rfl
       rotate_left
       ·simp only [Act.put, List.setIfInBounds_toArray, List.set_cons_zero, List.set_cons_succ, i64_w, i32_w]
        rfl
       refine pure_ (i := 14) (N := some 25) (v := ?_) (a' := ?_) (bb [15, 19]) rfl rfl (any_of HT_.out (by kernel_rfl)) (fun _ _ _ h => h) (Or.inl ⟨by rfl, ?_⟩) ?_ ?_
       rotate_left
       ·intro w'
        go_simp
        with_reducible rfl
       rotate_left
       ·simp only [Act.put, List.setIfInBounds_toArray, List.set_cons_zero, List.set_cons_succ, i64_w, i32_w]
        rfl
       refine pure_ (i := 15) (N := some 26) (v := ?_) (a' := ?_) (bb [16, 18]) rfl rfl (any_of HT_.out (by kernel_rfl)) (fun _ _ _ h => h) (Or.inl ⟨by rfl, ?_⟩) ?_ ?_
       rotate_left
       ·intro w'
        go_simp
        with_reducible rfl
       rotate_left
       ·simp only [Act.put, List.setIfInBounds_toArray, List.set_cons_zero, List.set_cons_succ, i64_w, i32_w]
        rfl
       refine pure_ (i := 16) (N := some 27) (v := ?_) (a' := ?_) (bb [17, 17]) rfl rfl (any_of HT_.out (by kernel_rfl)) (fun _ _ _ h => h) (Or.inl ⟨by rfl, ?_⟩) ?_ ?_
       rotate_left
       ·intro w'
        go_simp
        with_reducible rfl
       rotate_left
       ·simp only [Act.put, List.setIfInBounds_toArray, List.set_cons_zero, List.set_cons_succ, i64_w, i32_w]
        rfl
       refine pure_ (i := 19) (N := some 30) (v := ?_) (a' := ?_) (bb [17, 2, 1, 14]) rfl rfl (any_of HT_.out (by kernel_rfl)) (fun _ _ _ h => h) (Or.inl ⟨by rfl, ?_⟩) ?_ ?_
       rotate_left
       ·intro w'
        go_simp
        with_reducible rfl
       rotate_left
       ·simp only [Act.put, List.setIfInBounds_toArray, List.set_cons_zero, List.set_cons_succ, i64_w, i32_w]
        rfl
       refine pure_ (i := 20) (N := some 31) (v := ?_) (a' := ?_) (bb [17, 2, 2, 13]) rfl rfl (any_of HT_.out (by kernel_rfl)) (fun _ _ _ h => h) (Or.inl ⟨by rfl, ?_⟩) ?_ ?_
       rotate_left
       ·intro w'
        go_simp
        with_reducible rfl
       rotate_left
       ·simp only [Act.put, List.setIfInBounds_toArray, List.set_cons_zero, List.set_cons_succ, i64_w, i32_w]
        rfl
       refine pure_ (i := 21) (N := some 32) (v := ?_) (a' := ?_) (bb [17, 2, 3, 12]) rfl rfl (any_of HT_.out (by kernel_rfl)) (fun _ _ _ h => h) (Or.inl ⟨by rfl, ?_⟩) ?_ ?_
       rotate_left
       ·intro w'
        go_simp
        with_reducible rfl
       rotate_left
       ·simp only [Act.put, List.setIfInBounds_toArray, List.set_cons_zero, List.set_cons_succ, i64_w, i32_w]
        rfl
       refine take_ (i := 17) (N := some 28) (v := ?_) (a' := ?_) (bb [18, 1, 3, 12]) rfl rfl (take_ofW HT_.out HW_.out (by kernel_rfl)) (fun _ _ _ h => h) (Or.inl ⟨by rfl, ?_⟩) hHeld ?_ ?_
       rotate_left
       ·rintro w' ⟨s0, s1, s2, s3, s4, s5⟩
        go_simp
        with_reducible rfl
       rotate_left
       ·simp only [Act.put, List.setIfInBounds_toArray, List.set_cons_zero, List.set_cons_succ, i64_w, i32_w]
        rfl
       refine pure_ (i := 18) (N := some 29) (v := ?_) (a' := ?_) (bb [22, 12]) rfl rfl (any_of HT_.out (by kernel_rfl)) (fun _ _ _ h => h) (Or.inl ⟨by rfl, ?_⟩) ?_ ?_
       rotate_left
       ·intro w'
        go_simp
        with_reducible rfl
       rotate_left
       ·simp only [Act.put, List.setIfInBounds_toArray, List.set_cons_zero, List.set_cons_succ, i64_w, i32_w]
        rfl
       refine take_ (i := 22) (N := some 33) (v := ?_) (a' := ?_) (bb [23, 11]) rfl rfl (take_ofW HT_.out HW_.out (by kernel_rfl)) (fun _ _ _ h => h) (Or.inl ⟨by rfl, ?_⟩) hHeld ?_ ?_
       rotate_left
       ·rintro w' ⟨s0, s1, s2, s3, s4, s5⟩
        go_simp
        with_reducible rfl
       rotate_left
       ·simp only [Act.put, List.setIfInBounds_toArray, List.set_cons_zero, List.set_cons_succ, i64_w, i32_w]
        rfl
       refine pure_ (i := 23) (N := some 34) (v := ?_) (a' := ?_) (bb [24, 10]) rfl rfl (any_of HT_.out (by kernel_rfl)) (fun _ _ _ h => h) (Or.inl ⟨by rfl, ?_⟩) ?_ ?_
       rotate_left
       ·intro w'
        go_simp
        with_reducible rfl
       rotate_left
       ·simp only [Act.put, List.setIfInBounds_toArray, List.set_cons_zero, List.set_cons_succ, i64_w, i32_w]
        rfl
       refine pure_ (i := 24) (N := some 35) (v := ?_) (a' := ?_) (bb [25, 9]) rfl rfl (any_of HT_.out (by kernel_rfl)) (fun _ _ _ h => h) (Or.inl ⟨by rfl, ?_⟩) ?_ ?_
       rotate_left
       ·intro w'
        go_simp
        with_reducible rfl
       rotate_left
       ·simp only [Act.put, List.setIfInBounds_toArray, List.set_cons_zero, List.set_cons_succ, i64_w, i32_w]
        rfl
       refine pure_ (i := 25) (N := some 36) (v := ?_) (a' := ?_) (bb [26, 8]) rfl rfl (any_of HT_.out (by kernel_rfl)) (fun _ _ _ h => h) (Or.inl ⟨by rfl, ?_⟩) ?_ ?_
       rotate_left
       ·intro w'
        go_simp
        with_reducible rfl
       rotate_left
       ·simp only [Act.put, List.setIfInBounds_toArray, List.set_cons_zero, List.set_cons_succ, i64_w, i32_w]
        rfl
       refine pure_ (i := 26) (N := some 37) (v := ?_) (a' := ?_) (bb [27, 7]) rfl rfl (any_of HT_.out (by kernel_rfl)) (fun _ _ _ h => h) (Or.inl ⟨by rfl, ?_⟩) ?_ ?_
       rotate_left
       ·intro w'
        go_simp
        with_reducible rfl
       rotate_left
       ·simp only [Act.put, List.setIfInBounds_toArray, List.set_cons_zero, List.set_cons_succ, i64_w, i32_w]
        rfl
       refine pure_ (i := 27) (N := some 38) (v := undef) (a' := ?_) (bb [28, 6]) rfl rfl (any_of HT_.out (by kernel_rfl)) (fun _ _ _ h => h) (Or.inr ⟨by rfl, rfl⟩) ?_ ?_
       rotate_left
       ·simp only [Act.put, List.setIfInBounds_toArray, List.set_cons_zero, List.set_cons_succ, i64_w, i32_w]
        rfl
       refine pure_ (i := 28) (N := some 39) (v := undef) (a' := ?_) (bb [29, 5]) rfl rfl (any_of HT_.out (by kernel_rfl)) (fun _ _ _ h => h) (Or.inr ⟨by rfl, rfl⟩) ?_ ?_
       rotate_left
       ·simp only [Act.put, List.setIfInBounds_toArray, List.set_cons_zero, List.set_cons_succ, i64_w, i32_w]
        rfl
       refine pure_ (i := 29) (N := some 40) (v := undef) (a' := ?_) (bb [30, 4]) rfl rfl (any_of HT_.out (by kernel_rfl)) (fun _ _ _ h => h) (Or.inr ⟨by rfl, rfl⟩) ?_ ?_
       rotate_left
       ·simp only [Act.put, List.setIfInBounds_toArray, List.set_cons_zero, List.set_cons_succ, i64_w, i32_w]
        rfl
       refine pure_ (i := 30) (N := some 41) (v := undef) (a' := ?_) (bb [31, 3]) rfl rfl (any_of HT_.out (by kernel_rfl)) (fun _ _ _ h => h) (Or.inr ⟨by rfl, rfl⟩) ?_ ?_
       rotate_left
       ·simp only [Act.put, List.setIfInBounds_toArray, List.set_cons_zero, List.set_cons_succ, i64_w, i32_w]
        rfl
       refine pure_ (i := 31) (N := some 42) (v := undef) (a' := ?_) (bb [32, 2]) rfl rfl (any_of HT_.out (by kernel_rfl)) (fun _ _ _ h => h) (Or.inr ⟨by rfl, rfl⟩) ?_ ?_
       rotate_left
       ·simp only [Act.put, List.setIfInBounds_toArray, List.set_cons_zero, List.set_cons_succ, i64_w, i32_w]
        rfl
       refine pure_ (i := 32) (N := some 43) (v := undef) (a' := ?_) (bb [33, 1]) rfl rfl (any_of HT_.out (by kernel_rfl)) (fun _ _ _ h => h) (Or.inr ⟨by rfl, rfl⟩) ?_ ?_
       rotate_left
       ·simp only [Act.put, List.setIfInBounds_toArray, List.set_cons_zero, List.set_cons_succ, i64_w, i32_w]
        rfl
       refine pure_ (i := 33) (N := some 44) (v := ?_) (a' := ?_) (bb [34]) rfl rfl (any_of HT_.out (by kernel_rfl)) (fun _ _ _ h => h) (Or.inl ⟨by rfl, ?_⟩) ?_ ?_
       rotate_left
       ·intro w'
        go_simp
        with_reducible rfl
       rotate_left
       ·simp only [Act.put, List.setIfInBounds_toArray, List.set_cons_zero, List.set_cons_succ, i64_w, i32_w]
        rfl
       refine done_ (done_of HT_.out (by kernel_rfl)) ?_
       try go_wp2
       go_ret
       exact ⟨by first | rfl | (simp [errW_none, errW_some] <;> rfl) | (simp [*, errW_none, errW_some] <;> rfl), by repeat (first | (with_reducible first | exact HB.out | apply below_alloc | apply pw_below_drewN | apply below_drew1 | refine below_set ?_ GE261.out) | exact HB.out)⟩
     ·rw [if_neg c6] at H
      have c6b0 : ((((rd_T31 l0 x7_1).f1).length : Int) == 13) = false := beq_eq_false_iff_ne.mpr c6
      have c6b1 : ((((rd_T31 l0 x7_1).f1).length : Int) != 13) = true := bne_iff_ne.mpr c6
      by_cases c25 : (((rd_T31 l0 x7_1).f1).length : Int) = 15
      ·rw [if_pos c25] at H
       have c25b0 : ((((rd_T31 l0 x7_1).f1).length : Int) == 15) = true := beq_iff_eq.mpr c25
       have c25b1 : ((((rd_T31 l0 x7_1).f1).length : Int) != 15) = false := bne_eq_false_iff_eq.mpr c25
       clear c25
       replace H := guard_inv H
       obtain ⟨c26, H⟩ := H
       have c26b0 : decide (0 < (l0.length : Int)) = true := decide_eq_true c26
       have c26b1 : decide (0 < l0.length) = true := decide_eq_true (by omega)
       clear c26
       by_cases c27 : (((rd_T31 l0 x7_1).f1).length : Int) = (((rd_T31 l0 0).f1).length : Int)
       ·rw [if_pos c27] at H
        have c27b0 : ((((rd_T31 l0 x7_1).f1).length : Int) == (((rd_T31 l0 0).f1).length : Int)) = true := beq_iff_eq.mpr c27
        have c27b1 : ((((rd_T31 l0 x7_1).f1).length : Int) != (((rd_T31 l0 0).f1).length : Int)) = false := bne_eq_false_iff_eq.mpr c27
        have c27b2 : (((rd_T31 l0 x7_1).f1).length == ((rd_T31 l0 0).f1).length) = true := by first | simpa using c27 | (simp at c27 ⊢; omega)
        clear c27
        replace H := Option.bind_eq_some_iff.mp H
        obtain ⟨t265, A280, H⟩ := H
        replace H : (if t265 = true then (spec_softnetFine.l0 k1 l0 l0 (l0.length : Int) (wrap64 (x7_1 + 1))) else (some false)) = some r := H
        have A28 := Aside0.mk A280
        clear A280
        by_cases c29 : t265 = true
        ·subst c29
         have H1 : (spec_softnetFine.l0 k1 l0 l0 (l0.length : Int) (wrap64 (x7_1 + 1))) = some r := by rw [if_pos rfl] at H; exact H
         clear H
         have H := H1
         clear H1
         have H' := Aside0.mk H
         clear H
         have p260 : 0 ≤ (x7_1 : Int) := of_decide_eq_true (by first | (with_reducible assumption) | assumption)
         have q260 : x7_1 < (l0.length : Int) := of_decide_eq_true (by first | (with_reducible assumption) | assumption)
         obtain ⟨ad260, A260_1, c260_1, A260_2, c260_2, e260, hx260_0, hx260_1, hx260_2, hl260_1, hi260_1, hl260_2, hi260_2⟩ := at_T31 HR0.out x7_1 p260 q260
         cases e260
         replace hx260_0 := (HB.out.cell (World.block_lt_of_cell? w _ hx260_0)).trans hx260_0
         replace hx260_1 := (HB.out.cell (World.block_lt_of_cell? w _ hx260_1)).trans hx260_1
         replace hx260_2 := (HB.out.cell (World.block_lt_of_cell? w _ hx260_2)).trans hx260_2
         have HR260_1 := Aside0.mk hi260_1
         have HC260_1 := Aside0.mk hl260_1
         clear hi260_1 hl260_1
         have HR260_2 := Aside0.mk hi260_2
         have HC260_2 := Aside0.mk hl260_2
         clear hi260_2 hl260_2
         replace p260 := eq_true p260
         replace q260 := eq_true q260
         try go_wp2_with (first | ((with_reducible refine gate_dst (N := 4) rfl ?_); (try (refine gate_guard (by rfl) ?_; dsimp only)); refine box_event ?hg (N := 4) ?hd (cs := #[.string (⟨#[]⟩ : ByteArray), .slice none 0 0, .slice none 0 0]) (t := 31) ?hr ?_; (case hd => rfl); (case hg => rfl); (case hr => first | (go_simp; done) | (go_simp; rfl)); intro gb261 hg w30 hbox hb; have n0_ := Aside0.mk (below_step (by repeat (first | (with_reducible first | exact HB.out | apply below_alloc | apply pw_below_drewN | apply below_drew1) | exact HB.out)) hb); have n1_ := Aside0.mk (hbox); have n2_ := Aside0.mk ((by rw [hg]; exact (below_size (by repeat (first | (with_reducible first | exact HB.out | apply below_alloc | apply pw_below_drewN | apply below_drew1) | exact HB.out))) : w.heap.size ≤ gb261)); have n3_ := Aside0.mk ((by rw [hg]; exact (below_size (by repeat (first | (with_reducible first | exact HB.out | apply below_alloc | apply pw_below_drewN | apply below_drew1) | exact HB.out))) : w.heap.size ≤ gb261)); clear HB; have HB := n0_; have BK261 := n1_; have GW261 := n2_; have GE261 := n3_; clear n0_ n1_ n2_ n3_; clear hb hbox hg; have hcz31_0 : w30.cell? ⟨gb261, 0, none⟩ = some (.string (⟨#[]⟩ : ByteArray)) := (blk_cell BK261.out 0).trans rfl; have hcz31_1 : w30.cell? ⟨gb261, 1, none⟩ = some (.slice none 0 0) := (blk_cell BK261.out 1).trans rfl; have hcz31_2 : w30.cell? ⟨gb261, 2, none⟩ = some (.slice none 0 0) := (blk_cell BK261.out 2).trans rfl; have hfz31_0 := blk_frozen BK261.out 0; have hfz31_1 := blk_frozen BK261.out 1; have hfz31_2 := blk_frozen BK261.out 2))
         have n0_ : Aside0 ((((w30.setCell ⟨gb261, 0, none⟩ (.string ((rd_T31 l0 x7_1).f0))).setCell ⟨gb261, 1, none⟩ (.slice A260_1 ((rd_T31 l0 x7_1).f1).length c260_1)).setCell ⟨gb261, 2, none⟩ (.slice A260_2 ((rd_T31 l0 x7_1).f2).length c260_2)).heap[gb261]? = some (.cells #[.string ((rd_T31 l0 x7_1).f0), .slice A260_1 ((rd_T31 l0 x7_1).f1).length c260_1, .slice A260_2 ((rd_T31 l0 x7_1).f2).length c260_2] 31 (0, 0))) := ⟨by (with_reducible repeat (first | refine blk_drewN ?_ _ | refine blk_drew ?_ | refine blk_alloc ?_ _)); refine blk_put (cs := #[.string ((rd_T31 l0 x7_1).f0), .slice A260_1 ((rd_T31 l0 x7_1).f1).length c260_1, .slice none 0 0]) ?_ 2 _ rfl; (with_reducible repeat (first | refine blk_drewN ?_ _ | refine blk_drew ?_ | refine blk_alloc ?_ _)); refine blk_put (cs := #[.string ((rd_T31 l0 x7_1).f0), .slice none 0 0, .slice none 0 0]) ?_ 1 _ rfl; (with_reducible repeat (first | refine blk_drewN ?_ _ | refine blk_drew ?_ | refine blk_alloc ?_ _)); refine blk_put (cs := #[.string (⟨#[]⟩ : ByteArray), .slice none 0 0, .slice none 0 0]) ?_ 0 _ rfl; (with_reducible repeat (first | refine blk_drewN ?_ _ | refine blk_drew ?_ | refine blk_alloc ?_ _)); exact BK261.out⟩
         have n1_ : Aside0 (Below w.heap.size w (((w30.setCell ⟨gb261, 0, none⟩ (.string ((rd_T31 l0 x7_1).f0))).setCell ⟨gb261, 1, none⟩ (.slice A260_1 ((rd_T31 l0 x7_1).f1).length c260_1)).setCell ⟨gb261, 2, none⟩ (.slice A260_2 ((rd_T31 l0 x7_1).f2).length c260_2))) := ⟨by repeat (first | (with_reducible first | exact HB.out | apply below_alloc | apply pw_below_drewN | apply below_drew1 | refine below_set ?_ GE261.out) | exact HB.out)⟩
         (try clear BK261)
         (try clear HB)
         generalize (((w30.setCell ⟨gb261, 0, none⟩ (.string ((rd_T31 l0 x7_1).f0))).setCell ⟨gb261, 1, none⟩ (.slice A260_1 ((rd_T31 l0 x7_1).f1).length c260_1)).setCell ⟨gb261, 2, none⟩ (.slice A260_2 ((rd_T31 l0 x7_1).f2).length c260_2)) = w32 at n0_ n1_ ⊢
         have BK261 := n0_
         have HB := n1_
         clear n0_ n1_
         have n0_ := Aside0.mk (blk_drew BK261.out)
         have n1_ := Aside0.mk (below_drew1 HB.out)
         clear BK261
         clear HB
         have BK261 := n0_
         have HB := n1_
         clear n0_ n1_
         have p264 : 0 ≤ (0 : Int) := (by omega)
         have q264 : 0 < (l0.length : Int) := of_decide_eq_true (by first | (with_reducible assumption) | assumption)
         obtain ⟨ad264, A264_1, c264_1, A264_2, c264_2, e264, hx264_0, hx264_1, hx264_2, hl264_1, hi264_1, hl264_2, hi264_2⟩ := at_T31 HR0.out 0 p264 q264
         have hw264_2 := hx264_2
         (try rw [show ((0 : Int)).toNat = 0 from rfl] at hw264_2)
         (try rw [show 0 * 3 = 0 from rfl] at hw264_2)
         (try rw [Addr.add_zero'] at hw264_2)
         have hw264_1 := hx264_1
         (try rw [show ((0 : Int)).toNat = 0 from rfl] at hw264_1)
         (try rw [show 0 * 3 = 0 from rfl] at hw264_1)
         (try rw [Addr.add_zero'] at hw264_1)
         have hw264_0 := hx264_0
         (try rw [show ((0 : Int)).toNat = 0 from rfl] at hw264_0)
         (try rw [show 0 * 3 = 0 from rfl] at hw264_0)
         (try rw [Addr.add_zero'] at hw264_0)
         obtain rfl : ad260 = ad264 := (by injection e264)
         have qi264 : (0 < l0.length) = True := eq_true (by omega)
         (try rw [show ((0 : Int)).toNat = 0 from rfl] at hx264_0)
         (try rw [show 0 * 3 = 0 from rfl] at hx264_0)
         (try rw [Addr.add_zero'] at hx264_0)
         (try rw [show ((0 : Int)).toNat = 0 from rfl] at hx264_1)
         (try rw [show 0 * 3 = 0 from rfl] at hx264_1)
         (try rw [Addr.add_zero'] at hx264_1)
         (try rw [show ((0 : Int)).toNat = 0 from rfl] at hx264_2)
         (try rw [show 0 * 3 = 0 from rfl] at hx264_2)
         (try rw [Addr.add_zero'] at hx264_2)
         replace hx264_0 := (HB.out.cell (World.block_lt_of_cell? w _ hx264_0)).trans hx264_0
         replace hx264_1 := (HB.out.cell (World.block_lt_of_cell? w _ hx264_1)).trans hx264_1
         replace hx264_2 := (HB.out.cell (World.block_lt_of_cell? w _ hx264_2)).trans hx264_2
         have HR264_1 := Aside0.mk hi264_1
         have HC264_1 := Aside0.mk hl264_1
         clear hi264_1 hl264_1
         have HR264_2 := Aside0.mk hi264_2
         have HC264_2 := Aside0.mk hl264_2
         clear hi264_2 hl264_2
         replace p264 := eq_true p264
         replace q264 := eq_true q264
         refine start_ (n := 34) (S := fun w' => w'.cell? ⟨gb261, 0, none⟩ = some (.string ((rd_T31 l0 x7_1).f0)) ∧ w'.cell? ⟨gb261, 1, none⟩ = some (.slice A260_1 ((rd_T31 l0 x7_1).f1).length c260_1) ∧ w'.cell? ⟨gb261, 2, none⟩ = some (.slice A260_2 ((rd_T31 l0 x7_1).f2).length c260_2) ∧ w'.cell? ad260 = some (.string ((rd_T31 l0 0).f0)) ∧ w'.cell? ⟨ad260.block, ad260.off + 1, none⟩ = some (.slice A264_1 ((rd_T31 l0 0).f1).length c264_1) ∧ w'.cell? ⟨ad260.block, ad260.off + 2, none⟩ = some (.slice A264_2 ((rd_T31 l0 0).f2).length c264_2)) (ds := []) (bb [0, 34]) (by kernel_rfl) rfl rfl ⟨(blk_cell BK261.out 0).trans rfl, (blk_cell BK261.out 1).trans rfl, (blk_cell BK261.out 2).trans rfl, ((HB.out.cell (World.block_lt_of_cell? w _ hw264_0)).trans hw264_0), ((HB.out.cell (World.block_lt_of_cell? w _ hw264_1)).trans hw264_1), ((HB.out.cell (World.block_lt_of_cell? w _ hw264_2)).trans hw264_2)⟩ (fun hHeld => ?_); refine with_tabW spec_softnetFine.tab4 spec_softnetFine.bits4 (fun HT_ HW_ => ?_)
         generalize w32.drew = w33 at BK261 HB HR264_1 HR264_2 hx264_0 hx264_1 hx264_2 hHeld ⊢
         refine pure_ (i := 0) (N := some 11) (v := ?_) (a' := ?_) (bb [1, 33]) rfl rfl (any_of HT_.out (by kernel_rfl)) (fun _ _ _ h => h) (Or.inl ⟨by rfl, ?_⟩) ?_ ?_
         rotate_left
         ·intro w'
          go_simp
          with_reducible rfl
         rotate_left
         ·simp only [Act.put, List.setIfInBounds_toArray, List.set_cons_zero, List.set_cons_succ, i64_w, i32_w]
          rfl
         refine take_ (i := 1) (N := some 12) (v := ?_) (a' := ?_) (bb [2, 32]) rfl rfl (take_ofW HT_.out HW_.out (by kernel_rfl)) (fun _ _ _ h => h) (Or.inl ⟨by rfl, ?_⟩) hHeld ?_ ?_
         rotate_left
         ·rintro w' ⟨s0, s1, s2, s3, s4, s5⟩
          go_simp
          with_reducible rfl
         rotate_left
         ·simp only [Act.put, List.setIfInBounds_toArray, List.set_cons_zero, List.set_cons_succ, i64_w, i32_w]
          rfl
         refine pure_ (i := 2) (N := some 13) (v := ?_) (a' := ?_) (bb [3, 31]) rfl rfl (any_of HT_.out (by kernel_rfl)) (fun _ _ _ h => h) (Or.inl ⟨by rfl, ?_⟩) ?_ ?_
         rotate_left
         ·intro w'
          go_simp
          with_reducible rfl
         rotate_left
         ·simp only [Act.put, List.setIfInBounds_toArray, List.set_cons_zero, List.set_cons_succ, i64_w, i32_w]
          rfl
         refine pure_ (i := 3) (N := some 14) (v := ?_) (a' := ?_) (bb [4, 30]) rfl rfl (any_of HT_.out (by kernel_rfl)) (fun _ _ _ h => h) (Or.inl ⟨by rfl, ?_⟩) ?_ ?_
         rotate_left
         ·intro w'
          go_simp
          with_reducible rfl
         rotate_left
         ·simp only [Act.put, List.setIfInBounds_toArray, List.set_cons_zero, List.set_cons_succ, i64_w, i32_w]
          rfl
         refine pure_ (i := 4) (N := some 15) (v := ?_) (a' := ?_) (bb [5, 29]) rfl rfl (any_of HT_.out (by kernel_rfl)) (fun _ _ _ h => h) (Or.inl ⟨by rfl, ?_⟩) ?_ ?_
         rotate_left
         ·intro w'
          go_simp
          with_reducible rfl
         rotate_left
         ·simp only [Act.put, List.setIfInBounds_toArray, List.set_cons_zero, List.set_cons_succ, i64_w, i32_w]
          rfl
         refine take_ (i := 5) (N := some 16) (v := ?_) (a' := ?_) (bb [6, 28]) rfl rfl (take_ofW HT_.out HW_.out (by kernel_rfl)) (fun _ _ _ h => h) (Or.inl ⟨by rfl, ?_⟩) hHeld ?_ ?_
         rotate_left
         ·rintro w' ⟨s0, s1, s2, s3, s4, s5⟩
          go_simp
          with_reducible rfl
         rotate_left
         ·simp only [Act.put, List.setIfInBounds_toArray, List.set_cons_zero, List.set_cons_succ, i64_w, i32_w]
          rfl
         refine pure_ (i := 6) (N := some 17) (v := ?_) (a' := ?_) (bb [7, 27]) rfl rfl (any_of HT_.out (by kernel_rfl)) (fun _ _ _ h => h) (Or.inl ⟨by rfl, ?_⟩) ?_ ?_
         rotate_left
         ·intro w'
          go_simp
          with_reducible rfl
         rotate_left
         ·simp only [Act.put, List.setIfInBounds_toArray, List.set_cons_zero, List.set_cons_succ, i64_w, i32_w]
          rfl
         refine pure_ (i := 7) (N := some 18) (v := ?_) (a' := ?_) (bb [8, 26]) rfl rfl (any_of HT_.out (by kernel_rfl)) (fun _ _ _ h => h) (Or.inl ⟨by rfl, ?_⟩) ?_ ?_
         rotate_left
         ·intro w'
          go_simp
          with_reducible rfl
         rotate_left
         ·simp only [Act.put, List.setIfInBounds_toArray, List.set_cons_zero, List.set_cons_succ, i64_w, i32_w]
          rfl
         refine pure_ (i := 8) (N := some 19) (v := ?_) (a' := ?_) (bb [9, 25]) rfl rfl (any_of HT_.out (by kernel_rfl)) (fun _ _ _ h => h) (Or.inl ⟨by rfl, ?_⟩) ?_ ?_
         rotate_left
         ·intro w'
          go_simp
          with_reducible rfl
         rotate_left
         ·simp only [Act.put, List.setIfInBounds_toArray, List.set_cons_zero, List.set_cons_succ, i64_w, i32_w]
          rfl
         refine pure_ (i := 9) (N := some 20) (v := ?_) (a' := ?_) (bb [10, 24]) rfl rfl (any_of HT_.out (by kernel_rfl)) (fun _ _ _ h => h) (Or.inl ⟨by rfl, ?_⟩) ?_ ?_
         rotate_left
         ·intro w'
          go_simp
          with_reducible rfl
         rotate_left
         ·simp only [Act.put, List.setIfInBounds_toArray, List.set_cons_zero, List.set_cons_succ, i64_w, i32_w]
          rfl
         refine take_ (i := 10) (N := some 21) (v := ?_) (a' := ?_) (bb [11, 23]) rfl rfl (take_ofW HT_.out HW_.out (by kernel_rfl)) (fun _ _ _ h => h) (Or.inl ⟨by rfl, ?_⟩) hHeld ?_ ?_
         rotate_left
         ·rintro w' ⟨s0, s1, s2, s3, s4, s5⟩
          go_simp
          with_reducible rfl
         rotate_left
         ·simp only [Act.put, List.setIfInBounds_toArray, List.set_cons_zero, List.set_cons_succ, i64_w, i32_w]
          rfl
         refine pure_ (i := 11) (N := some 22) (v := ?_) (a' := ?_) (bb [12, 22]) rfl rfl (any_of HT_.out (by kernel_rfl)) (fun _ _ _ h => h) (Or.inl ⟨by rfl, ?_⟩) ?_ ?_
         rotate_left
         ·intro w'
          go_simp
          with_reducible rfl
         rotate_left
         ·simp only [Act.put, List.setIfInBounds_toArray, List.set_cons_zero, List.set_cons_succ, i64_w, i32_w]
          rfl
         refine pure_ (i := 12) (N := some 23) (v := ?_) (a' := ?_) (bb [13, 21]) rfl rfl (any_of HT_.out (by kernel_rfl)) (fun _ _ _ h => h) (Or.inl ⟨by rfl, ?_⟩) ?_ ?_
         rotate_left
         ·intro w'
          go_simp
          with_reducible rfl
         rotate_left
         ·simp only [Act.put, List.setIfInBounds_toArray, List.set_cons_zero, List.set_cons_succ, i64_w, i32_w]
          rfl
         refine pure_ (i := 13) (N := some 24) (v := ?_) (a' := ?_) (bb [14, 20]) rfl rfl (any_of HT_.out (by kernel_rfl)) (fun _ _ _ h => h) (Or.inl ⟨by rfl, ?_⟩) ?_ ?_
         rotate_left
         ·intro w'
          go_simp
          with_reducible rfl
         rotate_left
         ·simp only [Act.put, List.setIfInBounds_toArray, List.set_cons_zero, List.set_cons_succ, i64_w, i32_w]
          rfl
         refine pure_ (i := 14) (N := some 25) (v := ?_) (a' := ?_) (bb [15, 19]) rfl rfl (any_of HT_.out (by kernel_rfl)) (fun _ _ _ h => h) (Or.inl ⟨by rfl, ?_⟩) ?_ ?_
         rotate_left
         ·intro w'
          go_simp
          with_reducible rfl
         rotate_left
         ·simp only [Act.put, List.setIfInBounds_toArray, List.set_cons_zero, List.set_cons_succ, i64_w, i32_w]
          rfl
         refine pure_ (i := 15) (N := some 26) (v := ?_) (a' := ?_) (bb [16, 18]) rfl rfl (any_of HT_.out (by kernel_rfl)) (fun _ _ _ h => h) (Or.inl ⟨by rfl, ?_⟩) ?_ ?_
         rotate_left
         ·intro w'
          go_simp
          with_reducible rfl
         rotate_left
         ·simp only [Act.put, List.setIfInBounds_toArray, List.set_cons_zero, List.set_cons_succ, i64_w, i32_w]
          rfl
         refine pure_ (i := 16) (N := some 27) (v := ?_) (a' := ?_) (bb [17, 17]) rfl rfl (any_of HT_.out (by kernel_rfl)) (fun _ _ _ h => h) (Or.inl ⟨by rfl, ?_⟩) ?_ ?_
         rotate_left
         ·intro w'
          go_simp
          with_reducible rfl
         rotate_left
         ·simp only [Act.put, List.setIfInBounds_toArray, List.set_cons_zero, List.set_cons_succ, i64_w, i32_w]
          rfl
         refine pure_ (i := 19) (N := some 30) (v := ?_) (a' := ?_) (bb [17, 2, 1, 14]) rfl rfl (any_of HT_.out (by kernel_rfl)) (fun _ _ _ h => h) (Or.inl ⟨by rfl, ?_⟩) ?_ ?_
         rotate_left
         ·intro w'
          go_simp
          with_reducible rfl
         rotate_left
         ·simp only [Act.put, List.setIfInBounds_toArray, List.set_cons_zero, List.set_cons_succ, i64_w, i32_w]
          rfl
         refine pure_ (i := 20) (N := some 31) (v := ?_) (a' := ?_) (bb [17, 2, 2, 13]) rfl rfl (any_of HT_.out (by kernel_rfl)) (fun _ _ _ h => h) (Or.inl ⟨by rfl, ?_⟩) ?_ ?_
         rotate_left
         ·intro w'
          go_simp
          with_reducible rfl
         rotate_left
         ·simp only [Act.put, List.setIfInBounds_toArray, List.set_cons_zero, List.set_cons_succ, i64_w, i32_w]
          rfl
         refine pure_ (i := 21) (N := some 32) (v := ?_) (a' := ?_) (bb [17, 2, 3, 12]) rfl rfl (any_of HT_.out (by kernel_rfl)) (fun _ _ _ h => h) (Or.inl ⟨by rfl, ?_⟩) ?_ ?_
         rotate_left
         ·intro w'
          go_simp
          with_reducible rfl
         rotate_left
         ·simp only [Act.put, List.setIfInBounds_toArray, List.set_cons_zero, List.set_cons_succ, i64_w, i32_w]
          rfl
         refine take_ (i := 17) (N := some 28) (v := ?_) (a' := ?_) (bb [18, 1, 3, 12]) rfl rfl (take_ofW HT_.out HW_.out (by kernel_rfl)) (fun _ _ _ h => h) (Or.inl ⟨by rfl, ?_⟩) hHeld ?_ ?_
         rotate_left
         ·rintro w' ⟨s0, s1, s2, s3, s4, s5⟩
          go_simp
          with_reducible rfl
         rotate_left
         ·simp only [Act.put, List.setIfInBounds_toArray, List.set_cons_zero, List.set_cons_succ, i64_w, i32_w]
          rfl
         refine pure_ (i := 18) (N := some 29) (v := ?_) (a' := ?_) (bb [22, 12]) rfl rfl (any_of HT_.out (by kernel_rfl)) (fun _ _ _ h => h) (Or.inl ⟨by rfl, ?_⟩) ?_ ?_
         rotate_left
         ·intro w'
          go_simp
          with_reducible rfl
         rotate_left
         ·simp only [Act.put, List.setIfInBounds_toArray, List.set_cons_zero, List.set_cons_succ, i64_w, i32_w]
          rfl
         refine take_ (i := 22) (N := some 33) (v := ?_) (a' := ?_) (bb [23, 11]) rfl rfl (take_ofW HT_.out HW_.out (by kernel_rfl)) (fun _ _ _ h => h) (Or.inl ⟨by rfl, ?_⟩) hHeld ?_ ?_
         rotate_left
         ·rintro w' ⟨s0, s1, s2, s3, s4, s5⟩
          go_simp
          with_reducible rfl
         rotate_left
         ·simp only [Act.put, List.setIfInBounds_toArray, List.set_cons_zero, List.set_cons_succ, i64_w, i32_w]
          rfl
         refine pure_ (i := 23) (N := some 34) (v := ?_) (a' := ?_) (bb [24, 10]) rfl rfl (any_of HT_.out (by kernel_rfl)) (fun _ _ _ h => h) (Or.inl ⟨by rfl, ?_⟩) ?_ ?_
         rotate_left
         ·intro w'
          go_simp
          with_reducible rfl
         rotate_left
         ·simp only [Act.put, List.setIfInBounds_toArray, List.set_cons_zero, List.set_cons_succ, i64_w, i32_w]
          rfl
         refine pure_ (i := 24) (N := some 35) (v := ?_) (a' := ?_) (bb [25, 9]) rfl rfl (any_of HT_.out (by kernel_rfl)) (fun _ _ _ h => h) (Or.inl ⟨by rfl, ?_⟩) ?_ ?_
         rotate_left
         ·intro w'
          go_simp
          with_reducible rfl
         rotate_left
         ·simp only [Act.put, List.setIfInBounds_toArray, List.set_cons_zero, List.set_cons_succ, i64_w, i32_w]
          rfl
         refine pure_ (i := 25) (N := some 36) (v := ?_) (a' := ?_) (bb [26, 8]) rfl rfl (any_of HT_.out (by kernel_rfl)) (fun _ _ _ h => h) (Or.inl ⟨by rfl, ?_⟩) ?_ ?_
         rotate_left
         ·intro w'
          go_simp
          with_reducible rfl
         rotate_left
         ·simp only [Act.put, List.setIfInBounds_toArray, List.set_cons_zero, List.set_cons_succ, i64_w, i32_w]
          rfl
         refine pure_ (i := 26) (N := some 37) (v := ?_) (a' := ?_) (bb [27, 7]) rfl rfl (any_of HT_.out (by kernel_rfl)) (fun _ _ _ h => h) (Or.inl ⟨by rfl, ?_⟩) ?_ ?_
         rotate_left
         ·intro w'
          go_simp
          with_reducible rfl
         rotate_left
         ·simp only [Act.put, List.setIfInBounds_toArray, List.set_cons_zero, List.set_cons_succ, i64_w, i32_w]
          rfl
         refine pure_ (i := 28) (N := some 39) (v := ?_) (a' := ?_) (bb [27, 1, 1, 5]) rfl rfl (any_of HT_.out (by kernel_rfl)) (fun _ _ _ h => h) (Or.inl ⟨by rfl, ?_⟩) ?_ ?_
         rotate_left
         ·intro w'
          go_simp
          with_reducible rfl
         rotate_left
         ·simp only [Act.put, List.setIfInBounds_toArray, List.set_cons_zero, List.set_cons_succ, i64_w, i32_w]
          rfl
         refine take_ (i := 27) (N := some 38) (v := ?_) (a' := ?_) (bb [29, 5]) rfl rfl (take_ofW HT_.out HW_.out (by kernel_rfl)) (fun _ _ _ h => h) (Or.inl ⟨by rfl, ?_⟩) hHeld ?_ ?_
         rotate_left
         ·rintro w' ⟨s0, s1, s2, s3, s4, s5⟩
          go_simp
          with_reducible rfl
         rotate_left
         ·simp only [Act.put, List.setIfInBounds_toArray, List.set_cons_zero, List.set_cons_succ, i64_w, i32_w]
          rfl
         refine take_ (i := 29) (N := some 40) (v := ?_) (a' := ?_) (bb [30, 4]) rfl rfl (take_ofW HT_.out HW_.out (by kernel_rfl)) (fun _ _ _ h => h) (Or.inl ⟨by rfl, ?_⟩) hHeld ?_ ?_
         rotate_left
         ·rintro w' ⟨s0, s1, s2, s3, s4, s5⟩
          go_simp
          with_reducible rfl
         rotate_left
         ·simp only [Act.put, List.setIfInBounds_toArray, List.set_cons_zero, List.set_cons_succ, i64_w, i32_w]
          rfl
         refine pure_ (i := 30) (N := some 41) (v := ?_) (a' := ?_) (bb [31, 3]) rfl rfl (any_of HT_.out (by kernel_rfl)) (fun _ _ _ h => h) (Or.inl ⟨by rfl, ?_⟩) ?_ ?_
         rotate_left
         ·intro w'
          go_simp
          with_reducible rfl
         rotate_left
         ·simp only [Act.put, List.setIfInBounds_toArray, List.set_cons_zero, List.set_cons_succ, i64_w, i32_w]
          rfl
         refine one_ (i := 31) (N := some 42) (bb [32, 2]) rfl rfl (one_of HT_.out (by kernel_rfl)) (by decide) (fun K hK => ?_)
         refine goes_ Tryz.func164 (by kernel_rfl) rfl #[.agg #[.string ((rd_T31 l0 x7_1).f0), .slice A260_1 ((rd_T31 l0 x7_1).f1).length c260_1, .slice A260_2 ((rd_T31 l0 x7_1).f2).length c260_2], .int .i64 (((rd_T31 l0 x7_1).f1).length : Int), .int .i64 32, .int .i64 0] (by rfl) rfl rfl (by (try simp only [List.map_toArray, List.map_cons, List.map_nil]); first | done | rfl | (simp only [List.length_drop, List.length_take]; rfl)) ?_
         with_reducible refine (spec_counted.calls k1 ((rd_T31 l0 x7_1).f0) _ _ ((rd_T31 l0 x7_1).f1) _ _ ((rd_T31 l0 x7_1).f2) (((rd_T31 l0 x7_1).f1).length : Int) 32 0 true _ ?side1 ?side2 ?side3 ?side4 A28.out).mono ?_
         (case side1 => repeat (first | exact (Kd.C_below HR260_1.out HB.out) | (with_reducible refine Kd.C_alloc ?_ _) | (with_reducible refine Kd.C_drewN ?_ _) | (with_reducible refine Kd.C_drew ?_)))
         (case side2 => exact HC260_1.out)
         (case side3 => repeat (first | exact (Kd.C_below HR260_2.out HB.out) | (with_reducible refine Kd.C_alloc ?_ _) | (with_reducible refine Kd.C_drewN ?_ _) | (with_reducible refine Kd.C_drew ?_)))
         (case side4 => exact HC260_2.out)
         rintro e w34 ⟨rfl, hb⟩
         refine ⟨_, rfl, ?_⟩
         have n0_ := Aside0.mk (blk_below (g := gb261) (o := .cells #[.string ((rd_T31 l0 x7_1).f0), .slice A260_1 ((rd_T31 l0 x7_1).f1).length c260_1, .slice A260_2 ((rd_T31 l0 x7_1).f2).length c260_2] 31 (0, 0)) (by (with_reducible repeat (first | refine blk_drewN ?_ _ | refine blk_drew ?_ | refine blk_alloc ?_ _)); exact BK261.out) hb)
         have n1_ := Aside0.mk (below_step (by repeat (first | (with_reducible first | exact HB.out | apply below_alloc | apply pw_below_drewN | apply below_drew1 | refine below_set ?_ GE261.out) | exact HB.out)) hb)
         clear BK261
         clear HB
         have BK261 := n0_
         have HB := n1_
         clear n0_ n1_
         (try clear hb)
         (try clear hb2)
         (try clear hk)
         (try clear hi)
         refine hK.out _ _ ⟨(blk_cell BK261.out 0).trans rfl, (blk_cell BK261.out 1).trans rfl, (blk_cell BK261.out 2).trans rfl, ((HB.out.cell (World.block_lt_of_cell? w _ hw264_0)).trans hw264_0), ((HB.out.cell (World.block_lt_of_cell? w _ hw264_1)).trans hw264_1), ((HB.out.cell (World.block_lt_of_cell? w _ hw264_2)).trans hw264_2)⟩ (fun hHeld => ?_)
         clear hK K
         refine norm_ (a' := ?_) ?_ ?_
         rotate_left
         ·show Act.put _ (some 42) _ = _
          simp only [Act.put, List.setIfInBounds_toArray, List.set_cons_zero, List.set_cons_succ, i64_w, i32_w]
          rfl
         refine pure_ (i := 32) (N := some 43) (v := ?_) (a' := ?_) (bb [33, 1]) rfl rfl (any_of HT_.out (by kernel_rfl)) (fun _ _ _ h => h) (Or.inl ⟨by rfl, ?_⟩) ?_ ?_
         rotate_left
         ·intro w'
          go_simp
          with_reducible rfl
         rotate_left
         ·simp only [Act.put, List.setIfInBounds_toArray, List.set_cons_zero, List.set_cons_succ, i64_w, i32_w]
          rfl
         refine pure_ (i := 33) (N := some 44) (v := ?_) (a' := ?_) (bb [34]) rfl rfl (any_of HT_.out (by kernel_rfl)) (fun _ _ _ h => h) (Or.inl ⟨by rfl, ?_⟩) ?_ ?_
         rotate_left
         ·intro w'
          go_simp
          with_reducible rfl
         rotate_left
         ·simp only [Act.put, List.setIfInBounds_toArray, List.set_cons_zero, List.set_cons_succ, i64_w, i32_w]
          rfl
         refine done_ (done_of HT_.out (by kernel_rfl)) ?_
         try go_wp2
         go_roundg k1
         case measure => have := HK1.out; omega
         case rel => exact ⟨(wrap64 (x7_1 + 1)), (by first | rfl | (simp; done) | (simp [*]; done)), H', ⟨by have := HK1.out; omega⟩, ⟨by repeat (first | (with_reducible first | exact HB.out | apply below_alloc | apply pw_below_drewN | apply below_drew1 | refine below_set ?_ GE261.out) | exact HB.out)⟩⟩
        ·replace c29 := Bool.eq_false_iff.mpr c29
         subst c29
         have H1 : (some false) = some r := by rw [if_neg (show ¬ (false = true) by decide)] at H; exact H
         clear H
         have H := H1
         clear H1
         obtain rfl := Option.some.inj H
         have p260 : 0 ≤ (x7_1 : Int) := of_decide_eq_true (by first | (with_reducible assumption) | assumption)
         have q260 : x7_1 < (l0.length : Int) := of_decide_eq_true (by first | (with_reducible assumption) | assumption)
         obtain ⟨ad260, A260_1, c260_1, A260_2, c260_2, e260, hx260_0, hx260_1, hx260_2, hl260_1, hi260_1, hl260_2, hi260_2⟩ := at_T31 HR0.out x7_1 p260 q260
         cases e260
         replace hx260_0 := (HB.out.cell (World.block_lt_of_cell? w _ hx260_0)).trans hx260_0
         replace hx260_1 := (HB.out.cell (World.block_lt_of_cell? w _ hx260_1)).trans hx260_1
         replace hx260_2 := (HB.out.cell (World.block_lt_of_cell? w _ hx260_2)).trans hx260_2
         have HR260_1 := Aside0.mk hi260_1
         have HC260_1 := Aside0.mk hl260_1
         clear hi260_1 hl260_1
         have HR260_2 := Aside0.mk hi260_2
         have HC260_2 := Aside0.mk hl260_2
         clear hi260_2 hl260_2
         replace p260 := eq_true p260
         replace q260 := eq_true q260
         try go_wp2_with (first | ((with_reducible refine gate_dst (N := 4) rfl ?_); (try (refine gate_guard (by rfl) ?_; dsimp only)); refine box_event ?hg (N := 4) ?hd (cs := #[.string (⟨#[]⟩ : ByteArray), .slice none 0 0, .slice none 0 0]) (t := 31) ?hr ?_; (case hd => rfl); (case hg => rfl); (case hr => first | (go_simp; done) | (go_simp; rfl)); intro gb261 hg w35 hbox hb; have n0_ := Aside0.mk (below_step (by repeat (first | (with_reducible first | exact HB.out | apply below_alloc | apply pw_below_drewN | apply below_drew1) | exact HB.out)) hb); have n1_ := Aside0.mk (hbox); have n2_ := Aside0.mk ((by rw [hg]; exact (below_size (by repeat (first | (with_reducible first | exact HB.out | apply below_alloc | apply pw_below_drewN | apply below_drew1) | exact HB.out))) : w.heap.size ≤ gb261)); have n3_ := Aside0.mk ((by rw [hg]; exact (below_size (by repeat (first | (with_reducible first | exact HB.out | apply below_alloc | apply pw_below_drewN | apply below_drew1) | exact HB.out))) : w.heap.size ≤ gb261)); clear HB; have HB := n0_; have BK261 := n1_; have GW261 := n2_; have GE261 := n3_; clear n0_ n1_ n2_ n3_; clear hb hbox hg; have hcz36_0 : w35.cell? ⟨gb261, 0, none⟩ = some (.string (⟨#[]⟩ : ByteArray)) := (blk_cell BK261.out 0).trans rfl; have hcz36_1 : w35.cell? ⟨gb261, 1, none⟩ = some (.slice none 0 0) := (blk_cell BK261.out 1).trans rfl; have hcz36_2 : w35.cell? ⟨gb261, 2, none⟩ = some (.slice none 0 0) := (blk_cell BK261.out 2).trans rfl; have hfz36_0 := blk_frozen BK261.out 0; have hfz36_1 := blk_frozen BK261.out 1; have hfz36_2 := blk_frozen BK261.out 2))
         have n0_ : Aside0 ((((w35.setCell ⟨gb261, 0, none⟩ (.string ((rd_T31 l0 x7_1).f0))).setCell ⟨gb261, 1, none⟩ (.slice A260_1 ((rd_T31 l0 x7_1).f1).length c260_1)).setCell ⟨gb261, 2, none⟩ (.slice A260_2 ((rd_T31 l0 x7_1).f2).length c260_2)).heap[gb261]? = some (.cells #[.string ((rd_T31 l0 x7_1).f0), .slice A260_1 ((rd_T31 l0 x7_1).f1).length c260_1, .slice A260_2 ((rd_T31 l0 x7_1).f2).length c260_2] 31 (0, 0))) := ⟨by (with_reducible repeat (first | refine blk_drewN ?_ _ | refine blk_drew ?_ | refine blk_alloc ?_ _)); refine blk_put (cs := #[.string ((rd_T31 l0 x7_1).f0), .slice A260_1 ((rd_T31 l0 x7_1).f1).length c260_1, .slice none 0 0]) ?_ 2 _ rfl; (with_reducible repeat (first | refine blk_drewN ?_ _ | refine blk_drew ?_ | refine blk_alloc ?_ _)); refine blk_put (cs := #[.string ((rd_T31 l0 x7_1).f0), .slice none 0 0, .slice none 0 0]) ?_ 1 _ rfl; (with_reducible repeat (first | refine blk_drewN ?_ _ | refine blk_drew ?_ | refine blk_alloc ?_ _)); refine blk_put (cs := #[.string (⟨#[]⟩ : ByteArray), .slice none 0 0, .slice none 0 0]) ?_ 0 _ rfl; (with_reducible repeat (first | refine blk_drewN ?_ _ | refine blk_drew ?_ | refine blk_alloc ?_ _)); exact BK261.out⟩
         have n1_ : Aside0 (Below w.heap.size w (((w35.setCell ⟨gb261, 0, none⟩ (.string ((rd_T31 l0 x7_1).f0))).setCell ⟨gb261, 1, none⟩ (.slice A260_1 ((rd_T31 l0 x7_1).f1).length c260_1)).setCell ⟨gb261, 2, none⟩ (.slice A260_2 ((rd_T31 l0 x7_1).f2).length c260_2))) := ⟨by repeat (first | (with_reducible first | exact HB.out | apply below_alloc | apply pw_below_drewN | apply below_drew1 | refine below_set ?_ GE261.out) | exact HB.out)⟩
         (try clear BK261)
         (try clear HB)
         generalize (((w35.setCell ⟨gb261, 0, none⟩ (.string ((rd_T31 l0 x7_1).f0))).setCell ⟨gb261, 1, none⟩ (.slice A260_1 ((rd_T31 l0 x7_1).f1).length c260_1)).setCell ⟨gb261, 2, none⟩ (.slice A260_2 ((rd_T31 l0 x7_1).f2).length c260_2)) = w37 at n0_ n1_ ⊢
         have BK261 := n0_
         have HB := n1_
         clear n0_ n1_
         have n0_ := Aside0.mk (blk_drew BK261.out)
         have n1_ := Aside0.mk (below_drew1 HB.out)
         clear BK261
         clear HB
         have BK261 := n0_
         have HB := n1_
         clear n0_ n1_
         have p264 : 0 ≤ (0 : Int) := (by omega)
         have q264 : 0 < (l0.length : Int) := of_decide_eq_true (by first | (with_reducible assumption) | assumption)
         obtain ⟨ad264, A264_1, c264_1, A264_2, c264_2, e264, hx264_0, hx264_1, hx264_2, hl264_1, hi264_1, hl264_2, hi264_2⟩ := at_T31 HR0.out 0 p264 q264
         have hw264_2 := hx264_2
         (try rw [show ((0 : Int)).toNat = 0 from rfl] at hw264_2)
         (try rw [show 0 * 3 = 0 from rfl] at hw264_2)
         (try rw [Addr.add_zero'] at hw264_2)
         have hw264_1 := hx264_1
         (try rw [show ((0 : Int)).toNat = 0 from rfl] at hw264_1)
         (try rw [show 0 * 3 = 0 from rfl] at hw264_1)
         (try rw [Addr.add_zero'] at hw264_1)
         have hw264_0 := hx264_0
         (try rw [show ((0 : Int)).toNat = 0 from rfl] at hw264_0)
         (try rw [show 0 * 3 = 0 from rfl] at hw264_0)
         (try rw [Addr.add_zero'] at hw264_0)
         obtain rfl : ad260 = ad264 := (by injection e264)
         have qi264 : (0 < l0.length) = True := eq_true (by omega)
         (try rw [show ((0 : Int)).toNat = 0 from rfl] at hx264_0)
         (try rw [show 0 * 3 = 0 from rfl] at hx264_0)
         (try rw [Addr.add_zero'] at hx264_0)
         (try rw [show ((0 : Int)).toNat = 0 from rfl] at hx264_1)
         (try rw [show 0 * 3 = 0 from rfl] at hx264_1)
         (try rw [Addr.add_zero'] at hx264_1)
         (try rw [show ((0 : Int)).toNat = 0 from rfl] at hx264_2)
         (try rw [show 0 * 3 = 0 from rfl] at hx264_2)
         (try rw [Addr.add_zero'] at hx264_2)
         replace hx264_0 := (HB.out.cell (World.block_lt_of_cell? w _ hx264_0)).trans hx264_0
         replace hx264_1 := (HB.out.cell (World.block_lt_of_cell? w _ hx264_1)).trans hx264_1
         replace hx264_2 := (HB.out.cell (World.block_lt_of_cell? w _ hx264_2)).trans hx264_2
         have HR264_1 := Aside0.mk hi264_1
         have HC264_1 := Aside0.mk hl264_1
         clear hi264_1 hl264_1
         have HR264_2 := Aside0.mk hi264_2
         have HC264_2 := Aside0.mk hl264_2
         clear hi264_2 hl264_2
         replace p264 := eq_true p264
         replace q264 := eq_true q264
         refine start_ (n := 34) (S := fun w' => w'.cell? ⟨gb261, 0, none⟩ = some (.string ((rd_T31 l0 x7_1).f0)) ∧ w'.cell? ⟨gb261, 1, none⟩ = some (.slice A260_1 ((rd_T31 l0 x7_1).f1).length c260_1) ∧ w'.cell? ⟨gb261, 2, none⟩ = some (.slice A260_2 ((rd_T31 l0 x7_1).f2).length c260_2) ∧ w'.cell? ad260 = some (.string ((rd_T31 l0 0).f0)) ∧ w'.cell? ⟨ad260.block, ad260.off + 1, none⟩ = some (.slice A264_1 ((rd_T31 l0 0).f1).length c264_1) ∧ w'.cell? ⟨ad260.block, ad260.off + 2, none⟩ = some (.slice A264_2 ((rd_T31 l0 0).f2).length c264_2)) (ds := []) (bb [0, 34]) (by kernel_rfl) rfl rfl ⟨(blk_cell BK261.out 0).trans rfl, (blk_cell BK261.out 1).trans rfl, (blk_cell BK261.out 2).trans rfl, ((HB.out.cell (World.block_lt_of_cell? w _ hw264_0)).trans hw264_0), ((HB.out.cell (World.block_lt_of_cell? w _ hw264_1)).trans hw264_1), ((HB.out.cell (World.block_lt_of_cell? w _ hw264_2)).trans hw264_2)⟩ (fun hHeld => ?_); refine with_tabW spec_softnetFine.tab4 spec_softnetFine.bits4 (fun HT_ HW_ => ?_)
         generalize w37.drew = w38 at BK261 HB HR264_1 HR264_2 hx264_0 hx264_1 hx264_2 hHeld ⊢
         refine pure_ (i := 0) (N := some 11) (v := ?_) (a' := ?_) (bb [1, 33]) rfl rfl (any_of HT_.out (by kernel_rfl)) (fun _ _ _ h => h) (Or.inl ⟨by rfl, ?_⟩) ?_ ?_
         rotate_left
         ·intro w'
          go_simp
          with_reducible rfl
         rotate_left
         ·simp only [Act.put, List.setIfInBounds_toArray, List.set_cons_zero, List.set_cons_succ, i64_w, i32_w]
          rfl
         refine take_ (i := 1) (N := some 12) (v := ?_) (a' := ?_) (bb [2, 32]) rfl rfl (take_ofW HT_.out HW_.out (by kernel_rfl)) (fun _ _ _ h => h) (Or.inl ⟨by rfl, ?_⟩) hHeld ?_ ?_
         rotate_left
         ·rintro w' ⟨s0, s1, s2, s3, s4, s5⟩
          go_simp
          with_reducible rfl
         rotate_left
         ·simp only [Act.put, List.setIfInBounds_toArray, List.set_cons_zero, List.set_cons_succ, i64_w, i32_w]
          rfl
         refine pure_ (i := 2) (N := some 13) (v := ?_) (a' := ?_) (bb [3, 31]) rfl rfl (any_of HT_.out (by kernel_rfl)) (fun _ _ _ h => h) (Or.inl ⟨by rfl, ?_⟩) ?_ ?_
         rotate_left
         ·intro w'
          go_simp
          with_reducible rfl
         rotate_left
         ·simp only [Act.put, List.setIfInBounds_toArray, List.set_cons_zero, List.set_cons_succ, i64_w, i32_w]
          rfl
         refine pure_ (i := 3) (N := some 14) (v := ?_) (a' := ?_) (bb [4, 30]) rfl rfl (any_of HT_.out (by kernel_rfl)) (fun _ _ _ h => h) (Or.inl ⟨by rfl, ?_⟩) ?_ ?_
         rotate_left
         ·intro w'
          go_simp
          with_reducible rfl
         rotate_left
         ·simp only [Act.put, List.setIfInBounds_toArray, List.set_cons_zero, List.set_cons_succ, i64_w, i32_w]
          rfl
         refine pure_ (i := 4) (N := some 15) (v := ?_) (a' := ?_) (bb [5, 29]) rfl rfl (any_of HT_.out (by kernel_rfl)) (fun _ _ _ h => h) (Or.inl ⟨by rfl, ?_⟩) ?_ ?_
         rotate_left
         ·intro w'
          go_simp
          with_reducible rfl
         rotate_left
         ·simp only [Act.put, List.setIfInBounds_toArray, List.set_cons_zero, List.set_cons_succ, i64_w, i32_w]
          rfl
         refine take_ (i := 5) (N := some 16) (v := ?_) (a' := ?_) (bb [6, 28]) rfl rfl (take_ofW HT_.out HW_.out (by kernel_rfl)) (fun _ _ _ h => h) (Or.inl ⟨by rfl, ?_⟩) hHeld ?_ ?_
         rotate_left
         ·rintro w' ⟨s0, s1, s2, s3, s4, s5⟩
          go_simp
          with_reducible rfl
         rotate_left
         ·simp only [Act.put, List.setIfInBounds_toArray, List.set_cons_zero, List.set_cons_succ, i64_w, i32_w]
          rfl
         refine pure_ (i := 6) (N := some 17) (v := ?_) (a' := ?_) (bb [7, 27]) rfl rfl (any_of HT_.out (by kernel_rfl)) (fun _ _ _ h => h) (Or.inl ⟨by rfl, ?_⟩) ?_ ?_
         rotate_left
         ·intro w'
          go_simp
          with_reducible rfl
         rotate_left
         ·simp only [Act.put, List.setIfInBounds_toArray, List.set_cons_zero, List.set_cons_succ, i64_w, i32_w]
          rfl
         refine pure_ (i := 7) (N := some 18) (v := ?_) (a' := ?_) (bb [8, 26]) rfl rfl (any_of HT_.out (by kernel_rfl)) (fun _ _ _ h => h) (Or.inl ⟨by rfl, ?_⟩) ?_ ?_
         rotate_left
         ·intro w'
          go_simp
          with_reducible rfl
         rotate_left
         ·simp only [Act.put, List.setIfInBounds_toArray, List.set_cons_zero, List.set_cons_succ, i64_w, i32_w]
          rfl
         refine pure_ (i := 8) (N := some 19) (v := ?_) (a' := ?_) (bb [9, 25]) rfl rfl (any_of HT_.out (by kernel_rfl)) (fun _ _ _ h => h) (Or.inl ⟨by rfl, ?_⟩) ?_ ?_
         rotate_left
         ·intro w'
          go_simp
          with_reducible rfl
         rotate_left
         ·simp only [Act.put, List.setIfInBounds_toArray, List.set_cons_zero, List.set_cons_succ, i64_w, i32_w]
          rfl
         refine pure_ (i := 9) (N := some 20) (v := ?_) (a' := ?_) (bb [10, 24]) rfl rfl (any_of HT_.out (by kernel_rfl)) (fun _ _ _ h => h) (Or.inl ⟨by rfl, ?_⟩) ?_ ?_
         rotate_left
         ·intro w'
          go_simp
          with_reducible rfl
         rotate_left
         ·simp only [Act.put, List.setIfInBounds_toArray, List.set_cons_zero, List.set_cons_succ, i64_w, i32_w]
          rfl
         refine take_ (i := 10) (N := some 21) (v := ?_) (a' := ?_) (bb [11, 23]) rfl rfl (take_ofW HT_.out HW_.out (by kernel_rfl)) (fun _ _ _ h => h) (Or.inl ⟨by rfl, ?_⟩) hHeld ?_ ?_
         rotate_left
         ·rintro w' ⟨s0, s1, s2, s3, s4, s5⟩
          go_simp
          with_reducible rfl
         rotate_left
         ·simp only [Act.put, List.setIfInBounds_toArray, List.set_cons_zero, List.set_cons_succ, i64_w, i32_w]
          rfl
         refine pure_ (i := 11) (N := some 22) (v := ?_) (a' := ?_) (bb [12, 22]) rfl rfl (any_of HT_.out (by kernel_rfl)) (fun _ _ _ h => h) (Or.inl ⟨by rfl, ?_⟩) ?_ ?_
         rotate_left
         ·intro w'
          go_simp
          with_reducible rfl
         rotate_left
         ·simp only [Act.put, List.setIfInBounds_toArray, List.set_cons_zero, List.set_cons_succ, i64_w, i32_w]
          rfl
         refine pure_ (i := 12) (N := some 23) (v := ?_) (a' := ?_) (bb [13, 21]) rfl rfl (any_of HT_.out (by kernel_rfl)) (fun _ _ _ h => h) (Or.inl ⟨by rfl, ?_⟩) ?_ ?_
         rotate_left
         ·intro w'
          go_simp
          with_reducible rfl
         rotate_left
         ·simp only [Act.put, List.setIfInBounds_toArray, List.set_cons_zero, List.set_cons_succ, i64_w, i32_w]
          rfl
         refine pure_ (i := 13) (N := some 24) (v := ?_) (a' := ?_) (bb [14, 20]) rfl rfl (any_of HT_.out (by kernel_rfl)) (fun _ _ _ h => h) (Or.inl ⟨by rfl, ?_⟩) ?_ ?_
         rotate_left
         ·intro w'
          go_simp
          with_reducible rfl
         rotate_left
         ·simp only [Act.put, List.setIfInBounds_toArray, List.set_cons_zero, List.set_cons_succ, i64_w, i32_w]
          rfl
         refine pure_ (i := 14) (N := some 25) (v := ?_) (a' := ?_) (bb [15, 19]) rfl rfl (any_of HT_.out (by kernel_rfl)) (fun _ _ _ h => h) (Or.inl ⟨by rfl, ?_⟩) ?_ ?_
         rotate_left
         ·intro w'
          go_simp
          with_reducible rfl
         rotate_left
         ·simp only [Act.put, List.setIfInBounds_toArray, List.set_cons_zero, List.set_cons_succ, i64_w, i32_w]
          rfl
         refine pure_ (i := 15) (N := some 26) (v := ?_) (a' := ?_) (bb [16, 18]) rfl rfl (any_of HT_.out (by kernel_rfl)) (fun _ _ _ h => h) (Or.inl ⟨by rfl, ?_⟩) ?_ ?_
         rotate_left
         ·intro w'
          go_simp
          with_reducible rfl
         rotate_left
         ·simp only [Act.put, List.setIfInBounds_toArray, List.set_cons_zero, List.set_cons_succ, i64_w, i32_w]
          rfl
         refine pure_ (i := 16) (N := some 27) (v := ?_) (a' := ?_) (bb [17, 17]) rfl rfl (any_of HT_.out (by kernel_rfl)) (fun _ _ _ h => h) (Or.inl ⟨by rfl, ?_⟩) ?_ ?_
         rotate_left
         ·intro w'
          go_simp
          with_reducible rfl
         rotate_left
         ·simp only [Act.put, List.setIfInBounds_toArray, List.set_cons_zero, List.set_cons_succ, i64_w, i32_w]
          rfl
         refine pure_ (i := 19) (N := some 30) (v := ?_) (a' := ?_) (bb [17, 2, 1, 14]) rfl rfl (any_of HT_.out (by kernel_rfl)) (fun _ _ _ h => h) (Or.inl ⟨by rfl, ?_⟩) ?_ ?_
         rotate_left
         ·intro w'
          go_simp
          with_reducible rfl
         rotate_left
         ·simp only [Act.put, List.setIfInBounds_toArray, List.set_cons_zero, List.set_cons_succ, i64_w, i32_w]
          rfl
         refine pure_ (i := 20) (N := some 31) (v := ?_) (a' := ?_) (bb [17, 2, 2, 13]) rfl rfl (any_of HT_.out (by kernel_rfl)) (fun _ _ _ h => h) (Or.inl ⟨by rfl, ?_⟩) ?_ ?_
         rotate_left
         ·intro w'
          go_simp
          with_reducible rfl
         rotate_left
         ·simp only [Act.put, List.setIfInBounds_toArray, List.set_cons_zero, List.set_cons_succ, i64_w, i32_w]
          rfl
         refine pure_ (i := 21) (N := some 32) (v := ?_) (a' := ?_) (bb [17, 2, 3, 12]) rfl rfl (any_of HT_.out (by kernel_rfl)) (fun _ _ _ h => h) (Or.inl ⟨by rfl, ?_⟩) ?_ ?_
         rotate_left
         ·intro w'
          go_simp
          with_reducible rfl
         rotate_left
         ·simp only [Act.put, List.setIfInBounds_toArray, List.set_cons_zero, List.set_cons_succ, i64_w, i32_w]
          rfl
         refine take_ (i := 17) (N := some 28) (v := ?_) (a' := ?_) (bb [18, 1, 3, 12]) rfl rfl (take_ofW HT_.out HW_.out (by kernel_rfl)) (fun _ _ _ h => h) (Or.inl ⟨by rfl, ?_⟩) hHeld ?_ ?_
         rotate_left
         ·rintro w' ⟨s0, s1, s2, s3, s4, s5⟩
          go_simp
          with_reducible rfl
         rotate_left
         ·simp only [Act.put, List.setIfInBounds_toArray, List.set_cons_zero, List.set_cons_succ, i64_w, i32_w]
          rfl
         refine pure_ (i := 18) (N := some 29) (v := ?_) (a' := ?_) (bb [22, 12]) rfl rfl (any_of HT_.out (by kernel_rfl)) (fun _ _ _ h => h) (Or.inl ⟨by rfl, ?_⟩) ?_ ?_
         rotate_left
         ·intro w'
          go_simp
          with_reducible rfl
         rotate_left
         ·simp only [Act.put, List.setIfInBounds_toArray, List.set_cons_zero, List.set_cons_succ, i64_w, i32_w]
          rfl
         refine take_ (i := 22) (N := some 33) (v := ?_) (a' := ?_) (bb [23, 11]) rfl rfl (take_ofW HT_.out HW_.out (by kernel_rfl)) (fun _ _ _ h => h) (Or.inl ⟨by rfl, ?_⟩) hHeld ?_ ?_
         rotate_left
         ·rintro w' ⟨s0, s1, s2, s3, s4, s5⟩
          go_simp
          with_reducible rfl
         rotate_left
         ·simp only [Act.put, List.setIfInBounds_toArray, List.set_cons_zero, List.set_cons_succ, i64_w, i32_w]
          rfl
         refine pure_ (i := 23) (N := some 34) (v := ?_) (a' := ?_) (bb [24, 10]) rfl rfl (any_of HT_.out (by kernel_rfl)) (fun _ _ _ h => h) (Or.inl ⟨by rfl, ?_⟩) ?_ ?_
         rotate_left
         ·intro w'
          go_simp
          with_reducible rfl
         rotate_left
         ·simp only [Act.put, List.setIfInBounds_toArray, List.set_cons_zero, List.set_cons_succ, i64_w, i32_w]
          rfl
         refine pure_ (i := 24) (N := some 35) (v := ?_) (a' := ?_) (bb [25, 9]) rfl rfl (any_of HT_.out (by kernel_rfl)) (fun _ _ _ h => h) (Or.inl ⟨by rfl, ?_⟩) ?_ ?_
         rotate_left
         ·intro w'
          go_simp
          with_reducible rfl
         rotate_left
         ·simp only [Act.put, List.setIfInBounds_toArray, List.set_cons_zero, List.set_cons_succ, i64_w, i32_w]
          rfl
         refine pure_ (i := 25) (N := some 36) (v := ?_) (a' := ?_) (bb [26, 8]) rfl rfl (any_of HT_.out (by kernel_rfl)) (fun _ _ _ h => h) (Or.inl ⟨by rfl, ?_⟩) ?_ ?_
         rotate_left
         ·intro w'
          go_simp
          with_reducible rfl
         rotate_left
         ·simp only [Act.put, List.setIfInBounds_toArray, List.set_cons_zero, List.set_cons_succ, i64_w, i32_w]
          rfl
         refine pure_ (i := 26) (N := some 37) (v := ?_) (a' := ?_) (bb [27, 7]) rfl rfl (any_of HT_.out (by kernel_rfl)) (fun _ _ _ h => h) (Or.inl ⟨by rfl, ?_⟩) ?_ ?_
         rotate_left
         ·intro w'
          go_simp
          with_reducible rfl
         rotate_left
         ·simp only [Act.put, List.setIfInBounds_toArray, List.set_cons_zero, List.set_cons_succ, i64_w, i32_w]
          rfl
         refine pure_ (i := 28) (N := some 39) (v := ?_) (a' := ?_) (bb [27, 1, 1, 5]) rfl rfl (any_of HT_.out (by kernel_rfl)) (fun _ _ _ h => h) (Or.inl ⟨by rfl, ?_⟩) ?_ ?_
         rotate_left
         ·intro w'
          go_simp
          with_reducible rfl
         rotate_left
         ·simp only [Act.put, List.setIfInBounds_toArray, List.set_cons_zero, List.set_cons_succ, i64_w, i32_w]
          rfl
         refine take_ (i := 27) (N := some 38) (v := ?_) (a' := ?_) (bb [29, 5]) rfl rfl (take_ofW HT_.out HW_.out (by kernel_rfl)) (fun _ _ _ h => h) (Or.inl ⟨by rfl, ?_⟩) hHeld ?_ ?_
         rotate_left
         ·rintro w' ⟨s0, s1, s2, s3, s4, s5⟩
          go_simp
          with_reducible rfl
         rotate_left
         ·simp only [Act.put, List.setIfInBounds_toArray, List.set_cons_zero, List.set_cons_succ, i64_w, i32_w]
          rfl
         refine take_ (i := 29) (N := some 40) (v := ?_) (a' := ?_) (bb [30, 4]) rfl rfl (take_ofW HT_.out HW_.out (by kernel_rfl)) (fun _ _ _ h => h) (Or.inl ⟨by rfl, ?_⟩) hHeld ?_ ?_
         rotate_left
         ·rintro w' ⟨s0, s1, s2, s3, s4, s5⟩
          go_simp
          with_reducible rfl
         rotate_left
         ·simp only [Act.put, List.setIfInBounds_toArray, List.set_cons_zero, List.set_cons_succ, i64_w, i32_w]
          rfl
         refine pure_ (i := 30) (N := some 41) (v := ?_) (a' := ?_) (bb [31, 3]) rfl rfl (any_of HT_.out (by kernel_rfl)) (fun _ _ _ h => h) (Or.inl ⟨by rfl, ?_⟩) ?_ ?_
         rotate_left
         ·intro w'
          go_simp
          with_reducible rfl
         rotate_left
         ·simp only [Act.put, List.setIfInBounds_toArray, List.set_cons_zero, List.set_cons_succ, i64_w, i32_w]
          rfl
         refine one_ (i := 31) (N := some 42) (bb [32, 2]) rfl rfl (one_of HT_.out (by kernel_rfl)) (by decide) (fun K hK => ?_)
         refine goes_ Tryz.func164 (by kernel_rfl) rfl #[.agg #[.string ((rd_T31 l0 x7_1).f0), .slice A260_1 ((rd_T31 l0 x7_1).f1).length c260_1, .slice A260_2 ((rd_T31 l0 x7_1).f2).length c260_2], .int .i64 (((rd_T31 l0 x7_1).f1).length : Int), .int .i64 32, .int .i64 0] (by rfl) rfl rfl (by (try simp only [List.map_toArray, List.map_cons, List.map_nil]); first | done | rfl | (simp only [List.length_drop, List.length_take]; rfl)) ?_
         with_reducible refine (spec_counted.calls k1 ((rd_T31 l0 x7_1).f0) _ _ ((rd_T31 l0 x7_1).f1) _ _ ((rd_T31 l0 x7_1).f2) (((rd_T31 l0 x7_1).f1).length : Int) 32 0 false _ ?side1 ?side2 ?side3 ?side4 A28.out).mono ?_
         (case side1 => repeat (first | exact (Kd.C_below HR260_1.out HB.out) | (with_reducible refine Kd.C_alloc ?_ _) | (with_reducible refine Kd.C_drewN ?_ _) | (with_reducible refine Kd.C_drew ?_)))
         (case side2 => exact HC260_1.out)
         (case side3 => repeat (first | exact (Kd.C_below HR260_2.out HB.out) | (with_reducible refine Kd.C_alloc ?_ _) | (with_reducible refine Kd.C_drewN ?_ _) | (with_reducible refine Kd.C_drew ?_)))
         (case side4 => exact HC260_2.out)
         rintro e w39 ⟨rfl, hb⟩
         refine ⟨_, rfl, ?_⟩
         have n0_ := Aside0.mk (blk_below (g := gb261) (o := .cells #[.string ((rd_T31 l0 x7_1).f0), .slice A260_1 ((rd_T31 l0 x7_1).f1).length c260_1, .slice A260_2 ((rd_T31 l0 x7_1).f2).length c260_2] 31 (0, 0)) (by (with_reducible repeat (first | refine blk_drewN ?_ _ | refine blk_drew ?_ | refine blk_alloc ?_ _)); exact BK261.out) hb)
         have n1_ := Aside0.mk (below_step (by repeat (first | (with_reducible first | exact HB.out | apply below_alloc | apply pw_below_drewN | apply below_drew1 | refine below_set ?_ GE261.out) | exact HB.out)) hb)
         clear BK261
         clear HB
         have BK261 := n0_
         have HB := n1_
         clear n0_ n1_
         (try clear hb)
         (try clear hb2)
         (try clear hk)
         (try clear hi)
         refine hK.out _ _ ⟨(blk_cell BK261.out 0).trans rfl, (blk_cell BK261.out 1).trans rfl, (blk_cell BK261.out 2).trans rfl, ((HB.out.cell (World.block_lt_of_cell? w _ hw264_0)).trans hw264_0), ((HB.out.cell (World.block_lt_of_cell? w _ hw264_1)).trans hw264_1), ((HB.out.cell (World.block_lt_of_cell? w _ hw264_2)).trans hw264_2)⟩ (fun hHeld => ?_)
         clear hK K
         refine norm_ (a' := ?_) ?_ ?_
         rotate_left
         ·show Act.put _ (some 42) _ = _
          simp only [Act.put, List.setIfInBounds_toArray, List.set_cons_zero, List.set_cons_succ, i64_w, i32_w]
          rfl
         refine pure_ (i := 32) (N := some 43) (v := ?_) (a' := ?_) (bb [33, 1]) rfl rfl (any_of HT_.out (by kernel_rfl)) (fun _ _ _ h => h) (Or.inl ⟨by rfl, ?_⟩) ?_ ?_
         rotate_left
         ·intro w'
          go_simp
          with_reducible rfl
         rotate_left
         ·simp only [Act.put, List.setIfInBounds_toArray, List.set_cons_zero, List.set_cons_succ, i64_w, i32_w]
          rfl
         refine pure_ (i := 33) (N := some 44) (v := ?_) (a' := ?_) (bb [34]) rfl rfl (any_of HT_.out (by kernel_rfl)) (fun _ _ _ h => h) (Or.inl ⟨by rfl, ?_⟩) ?_ ?_
         rotate_left
         ·intro w'
          go_simp
          with_reducible rfl
         rotate_left
         ·simp only [Act.put, List.setIfInBounds_toArray, List.set_cons_zero, List.set_cons_succ, i64_w, i32_w]
          rfl
         refine done_ (done_of HT_.out (by kernel_rfl)) ?_
         try go_wp2
         go_ret
         exact ⟨by first | rfl | (simp [errW_none, errW_some] <;> rfl) | (simp [*, errW_none, errW_some] <;> rfl), by repeat (first | (with_reducible first | exact HB.out | apply below_alloc | apply pw_below_drewN | apply below_drew1 | refine below_set ?_ GE261.out) | exact HB.out)⟩
       ·rw [if_neg c27] at H
        have c27b0 : ((((rd_T31 l0 x7_1).f1).length : Int) == (((rd_T31 l0 0).f1).length : Int)) = false := beq_eq_false_iff_ne.mpr c27
        have c27b1 : ((((rd_T31 l0 x7_1).f1).length : Int) != (((rd_T31 l0 0).f1).length : Int)) = true := bne_iff_ne.mpr c27
        have c27b2 : (((rd_T31 l0 x7_1).f1).length == ((rd_T31 l0 0).f1).length) = false := by first | simpa using c27 | (simp at c27 ⊢; omega)
        obtain rfl := Option.some.inj H
        have p260 : 0 ≤ (x7_1 : Int) := of_decide_eq_true (by first | (with_reducible assumption) | assumption)
        have q260 : x7_1 < (l0.length : Int) := of_decide_eq_true (by first | (with_reducible assumption) | assumption)
        obtain ⟨ad260, A260_1, c260_1, A260_2, c260_2, e260, hx260_0, hx260_1, hx260_2, hl260_1, hi260_1, hl260_2, hi260_2⟩ := at_T31 HR0.out x7_1 p260 q260
        cases e260
        replace hx260_0 := (HB.out.cell (World.block_lt_of_cell? w _ hx260_0)).trans hx260_0
        replace hx260_1 := (HB.out.cell (World.block_lt_of_cell? w _ hx260_1)).trans hx260_1
        replace hx260_2 := (HB.out.cell (World.block_lt_of_cell? w _ hx260_2)).trans hx260_2
        have HR260_1 := Aside0.mk hi260_1
        have HC260_1 := Aside0.mk hl260_1
        clear hi260_1 hl260_1
        have HR260_2 := Aside0.mk hi260_2
        have HC260_2 := Aside0.mk hl260_2
        clear hi260_2 hl260_2
        replace p260 := eq_true p260
        replace q260 := eq_true q260
        try go_wp2_with (first | ((with_reducible refine gate_dst (N := 4) rfl ?_); (try (refine gate_guard (by rfl) ?_; dsimp only)); refine box_event ?hg (N := 4) ?hd (cs := #[.string (⟨#[]⟩ : ByteArray), .slice none 0 0, .slice none 0 0]) (t := 31) ?hr ?_; (case hd => rfl); (case hg => rfl); (case hr => first | (go_simp; done) | (go_simp; rfl)); intro gb261 hg w40 hbox hb; have n0_ := Aside0.mk (below_step (by repeat (first | (with_reducible first | exact HB.out | apply below_alloc | apply pw_below_drewN | apply below_drew1) | exact HB.out)) hb); have n1_ := Aside0.mk (hbox); have n2_ := Aside0.mk ((by rw [hg]; exact (below_size (by repeat (first | (with_reducible first | exact HB.out | apply below_alloc | apply pw_below_drewN | apply below_drew1) | exact HB.out))) : w.heap.size ≤ gb261)); have n3_ := Aside0.mk ((by rw [hg]; exact (below_size (by repeat (first | (with_reducible first | exact HB.out | apply below_alloc | apply pw_below_drewN | apply below_drew1) | exact HB.out))) : w.heap.size ≤ gb261)); clear HB; have HB := n0_; have BK261 := n1_; have GW261 := n2_; have GE261 := n3_; clear n0_ n1_ n2_ n3_; clear hb hbox hg; have hcz41_0 : w40.cell? ⟨gb261, 0, none⟩ = some (.string (⟨#[]⟩ : ByteArray)) := (blk_cell BK261.out 0).trans rfl; have hcz41_1 : w40.cell? ⟨gb261, 1, none⟩ = some (.slice none 0 0) := (blk_cell BK261.out 1).trans rfl; have hcz41_2 : w40.cell? ⟨gb261, 2, none⟩ = some (.slice none 0 0) := (blk_cell BK261.out 2).trans rfl; have hfz41_0 := blk_frozen BK261.out 0; have hfz41_1 := blk_frozen BK261.out 1; have hfz41_2 := blk_frozen BK261.out 2))
        have n0_ : Aside0 ((((w40.setCell ⟨gb261, 0, none⟩ (.string ((rd_T31 l0 x7_1).f0))).setCell ⟨gb261, 1, none⟩ (.slice A260_1 ((rd_T31 l0 x7_1).f1).length c260_1)).setCell ⟨gb261, 2, none⟩ (.slice A260_2 ((rd_T31 l0 x7_1).f2).length c260_2)).heap[gb261]? = some (.cells #[.string ((rd_T31 l0 x7_1).f0), .slice A260_1 ((rd_T31 l0 x7_1).f1).length c260_1, .slice A260_2 ((rd_T31 l0 x7_1).f2).length c260_2] 31 (0, 0))) := ⟨by (with_reducible repeat (first | refine blk_drewN ?_ _ | refine blk_drew ?_ | refine blk_alloc ?_ _)); refine blk_put (cs := #[.string ((rd_T31 l0 x7_1).f0), .slice A260_1 ((rd_T31 l0 x7_1).f1).length c260_1, .slice none 0 0]) ?_ 2 _ rfl; (with_reducible repeat (first | refine blk_drewN ?_ _ | refine blk_drew ?_ | refine blk_alloc ?_ _)); refine blk_put (cs := #[.string ((rd_T31 l0 x7_1).f0), .slice none 0 0, .slice none 0 0]) ?_ 1 _ rfl; (with_reducible repeat (first | refine blk_drewN ?_ _ | refine blk_drew ?_ | refine blk_alloc ?_ _)); refine blk_put (cs := #[.string (⟨#[]⟩ : ByteArray), .slice none 0 0, .slice none 0 0]) ?_ 0 _ rfl; (with_reducible repeat (first | refine blk_drewN ?_ _ | refine blk_drew ?_ | refine blk_alloc ?_ _)); exact BK261.out⟩
        have n1_ : Aside0 (Below w.heap.size w (((w40.setCell ⟨gb261, 0, none⟩ (.string ((rd_T31 l0 x7_1).f0))).setCell ⟨gb261, 1, none⟩ (.slice A260_1 ((rd_T31 l0 x7_1).f1).length c260_1)).setCell ⟨gb261, 2, none⟩ (.slice A260_2 ((rd_T31 l0 x7_1).f2).length c260_2))) := ⟨by repeat (first | (with_reducible first | exact HB.out | apply below_alloc | apply pw_below_drewN | apply below_drew1 | refine below_set ?_ GE261.out) | exact HB.out)⟩
        (try clear BK261)
        (try clear HB)
        generalize (((w40.setCell ⟨gb261, 0, none⟩ (.string ((rd_T31 l0 x7_1).f0))).setCell ⟨gb261, 1, none⟩ (.slice A260_1 ((rd_T31 l0 x7_1).f1).length c260_1)).setCell ⟨gb261, 2, none⟩ (.slice A260_2 ((rd_T31 l0 x7_1).f2).length c260_2)) = w42 at n0_ n1_ ⊢
        have BK261 := n0_
        have HB := n1_
        clear n0_ n1_
        have n0_ := Aside0.mk (blk_drew BK261.out)
        have n1_ := Aside0.mk (below_drew1 HB.out)
        clear BK261
        clear HB
        have BK261 := n0_
        have HB := n1_
        clear n0_ n1_
        have p264 : 0 ≤ (0 : Int) := (by omega)
        have q264 : 0 < (l0.length : Int) := of_decide_eq_true (by first | (with_reducible assumption) | assumption)
        obtain ⟨ad264, A264_1, c264_1, A264_2, c264_2, e264, hx264_0, hx264_1, hx264_2, hl264_1, hi264_1, hl264_2, hi264_2⟩ := at_T31 HR0.out 0 p264 q264
        have hw264_2 := hx264_2
        (try rw [show ((0 : Int)).toNat = 0 from rfl] at hw264_2)
        (try rw [show 0 * 3 = 0 from rfl] at hw264_2)
        (try rw [Addr.add_zero'] at hw264_2)
        have hw264_1 := hx264_1
        (try rw [show ((0 : Int)).toNat = 0 from rfl] at hw264_1)
        (try rw [show 0 * 3 = 0 from rfl] at hw264_1)
        (try rw [Addr.add_zero'] at hw264_1)
        have hw264_0 := hx264_0
        (try rw [show ((0 : Int)).toNat = 0 from rfl] at hw264_0)
        (try rw [show 0 * 3 = 0 from rfl] at hw264_0)
        (try rw [Addr.add_zero'] at hw264_0)
        obtain rfl : ad260 = ad264 := (by injection e264)
        have qi264 : (0 < l0.length) = True := eq_true (by omega)
        (try rw [show ((0 : Int)).toNat = 0 from rfl] at hx264_0)
        (try rw [show 0 * 3 = 0 from rfl] at hx264_0)
        (try rw [Addr.add_zero'] at hx264_0)
        (try rw [show ((0 : Int)).toNat = 0 from rfl] at hx264_1)
        (try rw [show 0 * 3 = 0 from rfl] at hx264_1)
        (try rw [Addr.add_zero'] at hx264_1)
        (try rw [show ((0 : Int)).toNat = 0 from rfl] at hx264_2)
        (try rw [show 0 * 3 = 0 from rfl] at hx264_2)
        (try rw [Addr.add_zero'] at hx264_2)
        replace hx264_0 := (HB.out.cell (World.block_lt_of_cell? w _ hx264_0)).trans hx264_0
        replace hx264_1 := (HB.out.cell (World.block_lt_of_cell? w _ hx264_1)).trans hx264_1
        replace hx264_2 := (HB.out.cell (World.block_lt_of_cell? w _ hx264_2)).trans hx264_2
        have HR264_1 := Aside0.mk hi264_1
        have HC264_1 := Aside0.mk hl264_1
        clear hi264_1 hl264_1
        have HR264_2 := Aside0.mk hi264_2
        have HC264_2 := Aside0.mk hl264_2
        clear hi264_2 hl264_2
        replace p264 := eq_true p264
        replace q264 := eq_true q264
        refine start_ (n := 34) (S := fun w' => w'.cell? ⟨gb261, 0, none⟩ = some (.string ((rd_T31 l0 x7_1).f0)) ∧ w'.cell? ⟨gb261, 1, none⟩ = some (.slice A260_1 ((rd_T31 l0 x7_1).f1).length c260_1) ∧ w'.cell? ⟨gb261, 2, none⟩ = some (.slice A260_2 ((rd_T31 l0 x7_1).f2).length c260_2) ∧ w'.cell? ad260 = some (.string ((rd_T31 l0 0).f0)) ∧ w'.cell? ⟨ad260.block, ad260.off + 1, none⟩ = some (.slice A264_1 ((rd_T31 l0 0).f1).length c264_1) ∧ w'.cell? ⟨ad260.block, ad260.off + 2, none⟩ = some (.slice A264_2 ((rd_T31 l0 0).f2).length c264_2)) (ds := []) (bb [0, 34]) (by kernel_rfl) rfl rfl ⟨(blk_cell BK261.out 0).trans rfl, (blk_cell BK261.out 1).trans rfl, (blk_cell BK261.out 2).trans rfl, ((HB.out.cell (World.block_lt_of_cell? w _ hw264_0)).trans hw264_0), ((HB.out.cell (World.block_lt_of_cell? w _ hw264_1)).trans hw264_1), ((HB.out.cell (World.block_lt_of_cell? w _ hw264_2)).trans hw264_2)⟩ (fun hHeld => ?_); refine with_tabW spec_softnetFine.tab4 spec_softnetFine.bits4 (fun HT_ HW_ => ?_)
        generalize w42.drew = w43 at BK261 HB HR264_1 HR264_2 hx264_0 hx264_1 hx264_2 hHeld ⊢
        refine pure_ (i := 0) (N := some 11) (v := ?_) (a' := ?_) (bb [1, 33]) rfl rfl (any_of HT_.out (by kernel_rfl)) (fun _ _ _ h => h) (Or.inl ⟨by rfl, ?_⟩) ?_ ?_
        rotate_left
        ·intro w'
         go_simp
         with_reducible rfl
        rotate_left
        ·simp only [Act.put, List.setIfInBounds_toArray, List.set_cons_zero, List.set_cons_succ, i64_w, i32_w]
         rfl
        refine take_ (i := 1) (N := some 12) (v := ?_) (a' := ?_) (bb [2, 32]) rfl rfl (take_ofW HT_.out HW_.out (by kernel_rfl)) (fun _ _ _ h => h) (Or.inl ⟨by rfl, ?_⟩) hHeld ?_ ?_
        rotate_left
        ·rintro w' ⟨s0, s1, s2, s3, s4, s5⟩
         go_simp
         with_reducible rfl
        rotate_left
        ·simp only [Act.put, List.setIfInBounds_toArray, List.set_cons_zero, List.set_cons_succ, i64_w, i32_w]
         rfl
        refine pure_ (i := 2) (N := some 13) (v := ?_) (a' := ?_) (bb [3, 31]) rfl rfl (any_of HT_.out (by kernel_rfl)) (fun _ _ _ h => h) (Or.inl ⟨by rfl, ?_⟩) ?_ ?_
        rotate_left
        ·intro w'
         go_simp
         with_reducible rfl
        rotate_left
        ·simp only [Act.put, List.setIfInBounds_toArray, List.set_cons_zero, List.set_cons_succ, i64_w, i32_w]
         rfl
        refine pure_ (i := 3) (N := some 14) (v := ?_) (a' := ?_) (bb [4, 30]) rfl rfl (any_of HT_.out (by kernel_rfl)) (fun _ _ _ h => h) (Or.inl ⟨by rfl, ?_⟩) ?_ ?_
        rotate_left
        ·intro w'
         go_simp
         with_reducible rfl
        rotate_left
        ·simp only [Act.put, List.setIfInBounds_toArray, List.set_cons_zero, List.set_cons_succ, i64_w, i32_w]
         rfl
        refine pure_ (i := 4) (N := some 15) (v := ?_) (a' := ?_) (bb [5, 29]) rfl rfl (any_of HT_.out (by kernel_rfl)) (fun _ _ _ h => h) (Or.inl ⟨by rfl, ?_⟩) ?_ ?_
        rotate_left
        ·intro w'
         go_simp
         with_reducible rfl
        rotate_left
        ·simp only [Act.put, List.setIfInBounds_toArray, List.set_cons_zero, List.set_cons_succ, i64_w, i32_w]
         rfl
        refine take_ (i := 5) (N := some 16) (v := ?_) (a' := ?_) (bb [6, 28]) rfl rfl (take_ofW HT_.out HW_.out (by kernel_rfl)) (fun _ _ _ h => h) (Or.inl ⟨by rfl, ?_⟩) hHeld ?_ ?_
        rotate_left
        ·rintro w' ⟨s0, s1, s2, s3, s4, s5⟩
         go_simp
         with_reducible rfl
        rotate_left
        ·simp only [Act.put, List.setIfInBounds_toArray, List.set_cons_zero, List.set_cons_succ, i64_w, i32_w]
         rfl
        refine pure_ (i := 6) (N := some 17) (v := ?_) (a' := ?_) (bb [7, 27]) rfl rfl (any_of HT_.out (by kernel_rfl)) (fun _ _ _ h => h) (Or.inl ⟨by rfl, ?_⟩) ?_ ?_
        rotate_left
        ·intro w'
         go_simp
         with_reducible rfl
        rotate_left
        ·simp only [Act.put, List.setIfInBounds_toArray, List.set_cons_zero, List.set_cons_succ, i64_w, i32_w]
         rfl
        refine pure_ (i := 7) (N := some 18) (v := ?_) (a' := ?_) (bb [8, 26]) rfl rfl (any_of HT_.out (by kernel_rfl)) (fun _ _ _ h => h) (Or.inl ⟨by rfl, ?_⟩) ?_ ?_
        rotate_left
        ·intro w'
         go_simp
         with_reducible rfl
        rotate_left
        ·simp only [Act.put, List.setIfInBounds_toArray, List.set_cons_zero, List.set_cons_succ, i64_w, i32_w]
         rfl
        refine pure_ (i := 8) (N := some 19) (v := ?_) (a' := ?_) (bb [9, 25]) rfl rfl (any_of HT_.out (by kernel_rfl)) (fun _ _ _ h => h) (Or.inl ⟨by rfl, ?_⟩) ?_ ?_
        rotate_left
        ·intro w'
         go_simp
         with_reducible rfl
        rotate_left
        ·simp only [Act.put, List.setIfInBounds_toArray, List.set_cons_zero, List.set_cons_succ, i64_w, i32_w]
         rfl
        refine pure_ (i := 9) (N := some 20) (v := ?_) (a' := ?_) (bb [10, 24]) rfl rfl (any_of HT_.out (by kernel_rfl)) (fun _ _ _ h => h) (Or.inl ⟨by rfl, ?_⟩) ?_ ?_
        rotate_left
        ·intro w'
         go_simp
         with_reducible rfl
        rotate_left
        ·simp only [Act.put, List.setIfInBounds_toArray, List.set_cons_zero, List.set_cons_succ, i64_w, i32_w]
         rfl
        refine take_ (i := 10) (N := some 21) (v := ?_) (a' := ?_) (bb [11, 23]) rfl rfl (take_ofW HT_.out HW_.out (by kernel_rfl)) (fun _ _ _ h => h) (Or.inl ⟨by rfl, ?_⟩) hHeld ?_ ?_
        rotate_left
        ·rintro w' ⟨s0, s1, s2, s3, s4, s5⟩
         go_simp
         with_reducible rfl
        rotate_left
        ·simp only [Act.put, List.setIfInBounds_toArray, List.set_cons_zero, List.set_cons_succ, i64_w, i32_w]
         rfl
        refine pure_ (i := 11) (N := some 22) (v := ?_) (a' := ?_) (bb [12, 22]) rfl rfl (any_of HT_.out (by kernel_rfl)) (fun _ _ _ h => h) (Or.inl ⟨by rfl, ?_⟩) ?_ ?_
        rotate_left
        ·intro w'
         go_simp
         with_reducible rfl
        rotate_left
        ·simp only [Act.put, List.setIfInBounds_toArray, List.set_cons_zero, List.set_cons_succ, i64_w, i32_w]
         rfl
        refine pure_ (i := 12) (N := some 23) (v := ?_) (a' := ?_) (bb [13, 21]) rfl rfl (any_of HT_.out (by kernel_rfl)) (fun _ _ _ h => h) (Or.inl ⟨by rfl, ?_⟩) ?_ ?_
        rotate_left
        ·intro w'
         go_simp
         with_reducible rfl
        rotate_left
        ·simp only [Act.put, List.setIfInBounds_toArray, List.set_cons_zero, List.set_cons_succ, i64_w, i32_w]
         rfl
        refine pure_ (i := 13) (N := some 24) (v := ?_) (a' := ?_) (bb [14, 20]) rfl rfl (any_of HT_.out (by kernel_rfl)) (fun _ _ _ h => h) (Or.inl ⟨by rfl, ?_⟩) ?_ ?_
        rotate_left
        ·intro w'
         go_simp
         with_reducible rfl
        rotate_left
        ·simp only [Act.put, List.setIfInBounds_toArray, List.set_cons_zero, List.set_cons_succ, i64_w, i32_w]
         rfl
        refine pure_ (i := 14) (N := some 25) (v := ?_) (a' := ?_) (bb [15, 19]) rfl rfl (any_of HT_.out (by kernel_rfl)) (fun _ _ _ h => h) (Or.inl ⟨by rfl, ?_⟩) ?_ ?_
        rotate_left
        ·intro w'
         go_simp
         with_reducible rfl
        rotate_left
        ·simp only [Act.put, List.setIfInBounds_toArray, List.set_cons_zero, List.set_cons_succ, i64_w, i32_w]
         rfl
        refine pure_ (i := 15) (N := some 26) (v := ?_) (a' := ?_) (bb [16, 18]) rfl rfl (any_of HT_.out (by kernel_rfl)) (fun _ _ _ h => h) (Or.inl ⟨by rfl, ?_⟩) ?_ ?_
        rotate_left
        ·intro w'
         go_simp
         with_reducible rfl
        rotate_left
        ·simp only [Act.put, List.setIfInBounds_toArray, List.set_cons_zero, List.set_cons_succ, i64_w, i32_w]
         rfl
        refine pure_ (i := 16) (N := some 27) (v := ?_) (a' := ?_) (bb [17, 17]) rfl rfl (any_of HT_.out (by kernel_rfl)) (fun _ _ _ h => h) (Or.inl ⟨by rfl, ?_⟩) ?_ ?_
        rotate_left
        ·intro w'
         go_simp
         with_reducible rfl
        rotate_left
        ·simp only [Act.put, List.setIfInBounds_toArray, List.set_cons_zero, List.set_cons_succ, i64_w, i32_w]
         rfl
        refine pure_ (i := 19) (N := some 30) (v := ?_) (a' := ?_) (bb [17, 2, 1, 14]) rfl rfl (any_of HT_.out (by kernel_rfl)) (fun _ _ _ h => h) (Or.inl ⟨by rfl, ?_⟩) ?_ ?_
        rotate_left
        ·intro w'
         go_simp
         with_reducible rfl
        rotate_left
        ·simp only [Act.put, List.setIfInBounds_toArray, List.set_cons_zero, List.set_cons_succ, i64_w, i32_w]
         rfl
        refine pure_ (i := 20) (N := some 31) (v := ?_) (a' := ?_) (bb [17, 2, 2, 13]) rfl rfl (any_of HT_.out (by kernel_rfl)) (fun _ _ _ h => h) (Or.inl ⟨by rfl, ?_⟩) ?_ ?_
        rotate_left
        ·intro w'
         go_simp
         with_reducible rfl
        rotate_left
        ·simp only [Act.put, List.setIfInBounds_toArray, List.set_cons_zero, List.set_cons_succ, i64_w, i32_w]
         rfl
        refine pure_ (i := 21) (N := some 32) (v := ?_) (a' := ?_) (bb [17, 2, 3, 12]) rfl rfl (any_of HT_.out (by kernel_rfl)) (fun _ _ _ h => h) (Or.inl ⟨by rfl, ?_⟩) ?_ ?_
        rotate_left
        ·intro w'
         go_simp
         with_reducible rfl
        rotate_left
        ·simp only [Act.put, List.setIfInBounds_toArray, List.set_cons_zero, List.set_cons_succ, i64_w, i32_w]
         rfl
        refine take_ (i := 17) (N := some 28) (v := ?_) (a' := ?_) (bb [18, 1, 3, 12]) rfl rfl (take_ofW HT_.out HW_.out (by kernel_rfl)) (fun _ _ _ h => h) (Or.inl ⟨by rfl, ?_⟩) hHeld ?_ ?_
        rotate_left
        ·rintro w' ⟨s0, s1, s2, s3, s4, s5⟩
         go_simp
         with_reducible rfl
        rotate_left
        ·simp only [Act.put, List.setIfInBounds_toArray, List.set_cons_zero, List.set_cons_succ, i64_w, i32_w]
         rfl
        refine pure_ (i := 18) (N := some 29) (v := ?_) (a' := ?_) (bb [22, 12]) rfl rfl (any_of HT_.out (by kernel_rfl)) (fun _ _ _ h => h) (Or.inl ⟨by rfl, ?_⟩) ?_ ?_
        rotate_left
        ·intro w'
         go_simp
         with_reducible rfl
        rotate_left
        ·simp only [Act.put, List.setIfInBounds_toArray, List.set_cons_zero, List.set_cons_succ, i64_w, i32_w]
         rfl
        refine take_ (i := 22) (N := some 33) (v := ?_) (a' := ?_) (bb [23, 11]) rfl rfl (take_ofW HT_.out HW_.out (by kernel_rfl)) (fun _ _ _ h => h) (Or.inl ⟨by rfl, ?_⟩) hHeld ?_ ?_
        rotate_left
        ·rintro w' ⟨s0, s1, s2, s3, s4, s5⟩
         go_simp
         with_reducible rfl
        rotate_left
        ·simp only [Act.put, List.setIfInBounds_toArray, List.set_cons_zero, List.set_cons_succ, i64_w, i32_w]
         rfl
        refine pure_ (i := 23) (N := some 34) (v := ?_) (a' := ?_) (bb [24, 10]) rfl rfl (any_of HT_.out (by kernel_rfl)) (fun _ _ _ h => h) (Or.inl ⟨by rfl, ?_⟩) ?_ ?_
        rotate_left
        ·intro w'
         go_simp
         with_reducible rfl
        rotate_left
        ·simp only [Act.put, List.setIfInBounds_toArray, List.set_cons_zero, List.set_cons_succ, i64_w, i32_w]
         rfl
        refine pure_ (i := 24) (N := some 35) (v := ?_) (a' := ?_) (bb [25, 9]) rfl rfl (any_of HT_.out (by kernel_rfl)) (fun _ _ _ h => h) (Or.inl ⟨by rfl, ?_⟩) ?_ ?_
        rotate_left
        ·intro w'
         go_simp
         with_reducible rfl
        rotate_left
        ·simp only [Act.put, List.setIfInBounds_toArray, List.set_cons_zero, List.set_cons_succ, i64_w, i32_w]
         rfl
        refine pure_ (i := 25) (N := some 36) (v := ?_) (a' := ?_) (bb [26, 8]) rfl rfl (any_of HT_.out (by kernel_rfl)) (fun _ _ _ h => h) (Or.inl ⟨by rfl, ?_⟩) ?_ ?_
        rotate_left
        ·intro w'
         go_simp
         with_reducible rfl
        rotate_left
        ·simp only [Act.put, List.setIfInBounds_toArray, List.set_cons_zero, List.set_cons_succ, i64_w, i32_w]
         rfl
        refine pure_ (i := 26) (N := some 37) (v := ?_) (a' := ?_) (bb [27, 7]) rfl rfl (any_of HT_.out (by kernel_rfl)) (fun _ _ _ h => h) (Or.inl ⟨by rfl, ?_⟩) ?_ ?_
        rotate_left
        ·intro w'
         go_simp
         with_reducible rfl
        rotate_left
        ·simp only [Act.put, List.setIfInBounds_toArray, List.set_cons_zero, List.set_cons_succ, i64_w, i32_w]
         rfl
        refine pure_ (i := 27) (N := some 38) (v := undef) (a' := ?_) (bb [28, 6]) rfl rfl (any_of HT_.out (by kernel_rfl)) (fun _ _ _ h => h) (Or.inr ⟨by rfl, rfl⟩) ?_ ?_
        rotate_left
        ·simp only [Act.put, List.setIfInBounds_toArray, List.set_cons_zero, List.set_cons_succ, i64_w, i32_w]
         rfl
        refine pure_ (i := 28) (N := some 39) (v := undef) (a' := ?_) (bb [29, 5]) rfl rfl (any_of HT_.out (by kernel_rfl)) (fun _ _ _ h => h) (Or.inr ⟨by rfl, rfl⟩) ?_ ?_
        rotate_left
        ·simp only [Act.put, List.setIfInBounds_toArray, List.set_cons_zero, List.set_cons_succ, i64_w, i32_w]
         rfl
        refine pure_ (i := 29) (N := some 40) (v := undef) (a' := ?_) (bb [30, 4]) rfl rfl (any_of HT_.out (by kernel_rfl)) (fun _ _ _ h => h) (Or.inr ⟨by rfl, rfl⟩) ?_ ?_
        rotate_left
        ·simp only [Act.put, List.setIfInBounds_toArray, List.set_cons_zero, List.set_cons_succ, i64_w, i32_w]
         rfl
        refine pure_ (i := 30) (N := some 41) (v := undef) (a' := ?_) (bb [31, 3]) rfl rfl (any_of HT_.out (by kernel_rfl)) (fun _ _ _ h => h) (Or.inr ⟨by rfl, rfl⟩) ?_ ?_
        rotate_left
        ·simp only [Act.put, List.setIfInBounds_toArray, List.set_cons_zero, List.set_cons_succ, i64_w, i32_w]
         rfl
        refine pure_ (i := 31) (N := some 42) (v := undef) (a' := ?_) (bb [32, 2]) rfl rfl (any_of HT_.out (by kernel_rfl)) (fun _ _ _ h => h) (Or.inr ⟨by rfl, rfl⟩) ?_ ?_
        rotate_left
        ·simp only [Act.put, List.setIfInBounds_toArray, List.set_cons_zero, List.set_cons_succ, i64_w, i32_w]
         rfl
        refine pure_ (i := 32) (N := some 43) (v := undef) (a' := ?_) (bb [33, 1]) rfl rfl (any_of HT_.out (by kernel_rfl)) (fun _ _ _ h => h) (Or.inr ⟨by rfl, rfl⟩) ?_ ?_
        rotate_left
        ·simp only [Act.put, List.setIfInBounds_toArray, List.set_cons_zero, List.set_cons_succ, i64_w, i32_w]
         rfl
        refine pure_ (i := 33) (N := some 44) (v := ?_) (a' := ?_) (bb [34]) rfl rfl (any_of HT_.out (by kernel_rfl)) (fun _ _ _ h => h) (Or.inl ⟨by rfl, ?_⟩) ?_ ?_
        rotate_left
        ·intro w'
         go_simp
         with_reducible rfl
        rotate_left
        ·simp only [Act.put, List.setIfInBounds_toArray, List.set_cons_zero, List.set_cons_succ, i64_w, i32_w]
         rfl
        refine done_ (done_of HT_.out (by kernel_rfl)) ?_
        try go_wp2
        go_ret
        exact ⟨by first | rfl | (simp [errW_none, errW_some] <;> rfl) | (simp [*, errW_none, errW_some] <;> rfl), by repeat (first | (with_reducible first | exact HB.out | apply below_alloc | apply pw_below_drewN | apply below_drew1 | refine below_set ?_ GE261.out) | exact HB.out)⟩
      ·rw [if_neg c25] at H
       have c25b0 : ((((rd_T31 l0 x7_1).f1).length : Int) == 15) = false := beq_eq_false_iff_ne.mpr c25
       have c25b1 : ((((rd_T31 l0 x7_1).f1).length : Int) != 15) = true := bne_iff_ne.mpr c25
       obtain rfl := Option.some.inj H
       have p260 : 0 ≤ (x7_1 : Int) := of_decide_eq_true (by first | (with_reducible assumption) | assumption)
       have q260 : x7_1 < (l0.length : Int) := of_decide_eq_true (by first | (with_reducible assumption) | assumption)
       obtain ⟨ad260, A260_1, c260_1, A260_2, c260_2, e260, hx260_0, hx260_1, hx260_2, hl260_1, hi260_1, hl260_2, hi260_2⟩ := at_T31 HR0.out x7_1 p260 q260
       cases e260
       replace hx260_0 := (HB.out.cell (World.block_lt_of_cell? w _ hx260_0)).trans hx260_0
       replace hx260_1 := (HB.out.cell (World.block_lt_of_cell? w _ hx260_1)).trans hx260_1
       replace hx260_2 := (HB.out.cell (World.block_lt_of_cell? w _ hx260_2)).trans hx260_2
       have HR260_1 := Aside0.mk hi260_1
       have HC260_1 := Aside0.mk hl260_1
       clear hi260_1 hl260_1
       have HR260_2 := Aside0.mk hi260_2
       have HC260_2 := Aside0.mk hl260_2
       clear hi260_2 hl260_2
       replace p260 := eq_true p260
       replace q260 := eq_true q260
       try go_wp2_with (first | ((with_reducible refine gate_dst (N := 4) rfl ?_); (try (refine gate_guard (by rfl) ?_; dsimp only)); refine box_event ?hg (N := 4) ?hd (cs := #[.string (⟨#[]⟩ : ByteArray), .slice none 0 0, .slice none 0 0]) (t := 31) ?hr ?_; (case hd => rfl); (case hg => rfl); (case hr => first | (go_simp; done) | (go_simp; rfl)); intro gb261 hg w44 hbox hb; have n0_ := Aside0.mk (below_step (by repeat (first | (with_reducible first | exact HB.out | apply below_alloc | apply pw_below_drewN | apply below_drew1) | exact HB.out)) hb); have n1_ := Aside0.mk (hbox); have n2_ := Aside0.mk ((by rw [hg]; exact (below_size (by repeat (first | (with_reducible first | exact HB.out | apply below_alloc | apply pw_below_drewN | apply below_drew1) | exact HB.out))) : w.heap.size ≤ gb261)); have n3_ := Aside0.mk ((by rw [hg]; exact (below_size (by repeat (first | (with_reducible first | exact HB.out | apply below_alloc | apply pw_below_drewN | apply below_drew1) | exact HB.out))) : w.heap.size ≤ gb261)); clear HB; have HB := n0_; have BK261 := n1_; have GW261 := n2_; have GE261 := n3_; clear n0_ n1_ n2_ n3_; clear hb hbox hg; have hcz45_0 : w44.cell? ⟨gb261, 0, none⟩ = some (.string (⟨#[]⟩ : ByteArray)) := (blk_cell BK261.out 0).trans rfl; have hcz45_1 : w44.cell? ⟨gb261, 1, none⟩ = some (.slice none 0 0) := (blk_cell BK261.out 1).trans rfl; have hcz45_2 : w44.cell? ⟨gb261, 2, none⟩ = some (.slice none 0 0) := (blk_cell BK261.out 2).trans rfl; have hfz45_0 := blk_frozen BK261.out 0; have hfz45_1 := blk_frozen BK261.out 1; have hfz45_2 := blk_frozen BK261.out 2))
       have n0_ : Aside0 ((((w44.setCell ⟨gb261, 0, none⟩ (.string ((rd_T31 l0 x7_1).f0))).setCell ⟨gb261, 1, none⟩ (.slice A260_1 ((rd_T31 l0 x7_1).f1).length c260_1)).setCell ⟨gb261, 2, none⟩ (.slice A260_2 ((rd_T31 l0 x7_1).f2).length c260_2)).heap[gb261]? = some (.cells #[.string ((rd_T31 l0 x7_1).f0), .slice A260_1 ((rd_T31 l0 x7_1).f1).length c260_1, .slice A260_2 ((rd_T31 l0 x7_1).f2).length c260_2] 31 (0, 0))) := ⟨by (with_reducible repeat (first | refine blk_drewN ?_ _ | refine blk_drew ?_ | refine blk_alloc ?_ _)); refine blk_put (cs := #[.string ((rd_T31 l0 x7_1).f0), .slice A260_1 ((rd_T31 l0 x7_1).f1).length c260_1, .slice none 0 0]) ?_ 2 _ rfl; (with_reducible repeat (first | refine blk_drewN ?_ _ | refine blk_drew ?_ | refine blk_alloc ?_ _)); refine blk_put (cs := #[.string ((rd_T31 l0 x7_1).f0), .slice none 0 0, .slice none 0 0]) ?_ 1 _ rfl; (with_reducible repeat (first | refine blk_drewN ?_ _ | refine blk_drew ?_ | refine blk_alloc ?_ _)); refine blk_put (cs := #[.string (⟨#[]⟩ : ByteArray), .slice none 0 0, .slice none 0 0]) ?_ 0 _ rfl; (with_reducible repeat (first | refine blk_drewN ?_ _ | refine blk_drew ?_ | refine blk_alloc ?_ _)); exact BK261.out⟩
       have n1_ : Aside0 (Below w.heap.size w (((w44.setCell ⟨gb261, 0, none⟩ (.string ((rd_T31 l0 x7_1).f0))).setCell ⟨gb261, 1, none⟩ (.slice A260_1 ((rd_T31 l0 x7_1).f1).length c260_1)).setCell ⟨gb261, 2, none⟩ (.slice A260_2 ((rd_T31 l0 x7_1).f2).length c260_2))) := ⟨by repeat (first | (with_reducible first | exact HB.out | apply below_alloc | apply pw_below_drewN | apply below_drew1 | refine below_set ?_ GE261.out) | exact HB.out)⟩
       (try clear BK261)
       (try clear HB)
       generalize (((w44.setCell ⟨gb261, 0, none⟩ (.string ((rd_T31 l0 x7_1).f0))).setCell ⟨gb261, 1, none⟩ (.slice A260_1 ((rd_T31 l0 x7_1).f1).length c260_1)).setCell ⟨gb261, 2, none⟩ (.slice A260_2 ((rd_T31 l0 x7_1).f2).length c260_2)) = w46 at n0_ n1_ ⊢
       have BK261 := n0_
       have HB := n1_
       clear n0_ n1_
       have n0_ := Aside0.mk (blk_drew BK261.out)
       have n1_ := Aside0.mk (below_drew1 HB.out)
       clear BK261
       clear HB
       have BK261 := n0_
       have HB := n1_
       clear n0_ n1_
       refine start_ (n := 34) (S := fun w' => w'.cell? ⟨gb261, 0, none⟩ = some (.string ((rd_T31 l0 x7_1).f0)) ∧ w'.cell? ⟨gb261, 1, none⟩ = some (.slice A260_1 ((rd_T31 l0 x7_1).f1).length c260_1) ∧ w'.cell? ⟨gb261, 2, none⟩ = some (.slice A260_2 ((rd_T31 l0 x7_1).f2).length c260_2)) (ds := []) (bb [0, 34]) (by kernel_rfl) rfl rfl ⟨(blk_cell BK261.out 0).trans rfl, (blk_cell BK261.out 1).trans rfl, (blk_cell BK261.out 2).trans rfl⟩ (fun hHeld => ?_); refine with_tabW spec_softnetFine.tab4 spec_softnetFine.bits4 (fun HT_ HW_ => ?_)
       generalize w46.drew = w47 at BK261 HB hHeld ⊢
       refine pure_ (i := 0) (N := some 11) (v := ?_) (a' := ?_) (bb [1, 33]) rfl rfl (any_of HT_.out (by kernel_rfl)) (fun _ _ _ h => h) (Or.inl ⟨by rfl, ?_⟩) ?_ ?_
       rotate_left
       ·intro w'
        go_simp
        with_reducible rfl
       rotate_left
       ·simp only [Act.put, List.setIfInBounds_toArray, List.set_cons_zero, List.set_cons_succ, i64_w, i32_w]
        rfl
       refine take_ (i := 1) (N := some 12) (v := ?_) (a' := ?_) (bb [2, 32]) rfl rfl (take_ofW HT_.out HW_.out (by kernel_rfl)) (fun _ _ _ h => h) (Or.inl ⟨by rfl, ?_⟩) hHeld ?_ ?_
       rotate_left
       ·rintro w' ⟨s0, s1, s2⟩
        go_simp
        with_reducible rfl
       rotate_left
       ·simp only [Act.put, List.setIfInBounds_toArray, List.set_cons_zero, List.set_cons_succ, i64_w, i32_w]
        rfl
       refine pure_ (i := 2) (N := some 13) (v := ?_) (a' := ?_) (bb [3, 31]) rfl rfl (any_of HT_.out (by kernel_rfl)) (fun _ _ _ h => h) (Or.inl ⟨by rfl, ?_⟩) ?_ ?_
       rotate_left
       ·intro w'
        go_simp
        with_reducible rfl
       rotate_left
       ·simp only [Act.put, List.setIfInBounds_toArray, List.set_cons_zero, List.set_cons_succ, i64_w, i32_w]
        rfl
       refine pure_ (i := 3) (N := some 14) (v := ?_) (a' := ?_) (bb [4, 30]) rfl rfl (any_of HT_.out (by kernel_rfl)) (fun _ _ _ h => h) (Or.inl ⟨by rfl, ?_⟩) ?_ ?_
       rotate_left
       ·intro w'
        go_simp
        with_reducible rfl
       rotate_left
       ·simp only [Act.put, List.setIfInBounds_toArray, List.set_cons_zero, List.set_cons_succ, i64_w, i32_w]
        rfl
       refine pure_ (i := 4) (N := some 15) (v := ?_) (a' := ?_) (bb [5, 29]) rfl rfl (any_of HT_.out (by kernel_rfl)) (fun _ _ _ h => h) (Or.inl ⟨by rfl, ?_⟩) ?_ ?_
       rotate_left
       ·intro w'
        go_simp
        with_reducible rfl
       rotate_left
       ·simp only [Act.put, List.setIfInBounds_toArray, List.set_cons_zero, List.set_cons_succ, i64_w, i32_w]
        rfl
       refine take_ (i := 5) (N := some 16) (v := ?_) (a' := ?_) (bb [6, 28]) rfl rfl (take_ofW HT_.out HW_.out (by kernel_rfl)) (fun _ _ _ h => h) (Or.inl ⟨by rfl, ?_⟩) hHeld ?_ ?_
       rotate_left
       ·rintro w' ⟨s0, s1, s2⟩
        go_simp
        with_reducible rfl
       rotate_left
       ·simp only [Act.put, List.setIfInBounds_toArray, List.set_cons_zero, List.set_cons_succ, i64_w, i32_w]
        rfl
       refine pure_ (i := 6) (N := some 17) (v := ?_) (a' := ?_) (bb [7, 27]) rfl rfl (any_of HT_.out (by kernel_rfl)) (fun _ _ _ h => h) (Or.inl ⟨by rfl, ?_⟩) ?_ ?_
       rotate_left
       ·intro w'
        go_simp
        with_reducible rfl
       rotate_left
       ·simp only [Act.put, List.setIfInBounds_toArray, List.set_cons_zero, List.set_cons_succ, i64_w, i32_w]
        rfl
       refine pure_ (i := 7) (N := some 18) (v := ?_) (a' := ?_) (bb [8, 26]) rfl rfl (any_of HT_.out (by kernel_rfl)) (fun _ _ _ h => h) (Or.inl ⟨by rfl, ?_⟩) ?_ ?_
       rotate_left
       ·intro w'
        go_simp
        with_reducible rfl
       rotate_left
       ·simp only [Act.put, List.setIfInBounds_toArray, List.set_cons_zero, List.set_cons_succ, i64_w, i32_w]
        rfl
       refine pure_ (i := 8) (N := some 19) (v := ?_) (a' := ?_) (bb [9, 25]) rfl rfl (any_of HT_.out (by kernel_rfl)) (fun _ _ _ h => h) (Or.inl ⟨by rfl, ?_⟩) ?_ ?_
       rotate_left
       ·intro w'
        go_simp
        with_reducible rfl
       rotate_left
       ·simp only [Act.put, List.setIfInBounds_toArray, List.set_cons_zero, List.set_cons_succ, i64_w, i32_w]
        rfl
       refine pure_ (i := 9) (N := some 20) (v := ?_) (a' := ?_) (bb [10, 24]) rfl rfl (any_of HT_.out (by kernel_rfl)) (fun _ _ _ h => h) (Or.inl ⟨by rfl, ?_⟩) ?_ ?_
       rotate_left
       ·intro w'
        go_simp
        with_reducible rfl
       rotate_left
       ·simp only [Act.put, List.setIfInBounds_toArray, List.set_cons_zero, List.set_cons_succ, i64_w, i32_w]
        rfl
       refine take_ (i := 10) (N := some 21) (v := ?_) (a' := ?_) (bb [11, 23]) rfl rfl (take_ofW HT_.out HW_.out (by kernel_rfl)) (fun _ _ _ h => h) (Or.inl ⟨by rfl, ?_⟩) hHeld ?_ ?_
       rotate_left
       ·rintro w' ⟨s0, s1, s2⟩
        go_simp
        with_reducible rfl
       rotate_left
       ·simp only [Act.put, List.setIfInBounds_toArray, List.set_cons_zero, List.set_cons_succ, i64_w, i32_w]
        rfl
       refine pure_ (i := 11) (N := some 22) (v := ?_) (a' := ?_) (bb [12, 22]) rfl rfl (any_of HT_.out (by kernel_rfl)) (fun _ _ _ h => h) (Or.inl ⟨by rfl, ?_⟩) ?_ ?_
       rotate_left
       ·intro w'
        go_simp
        with_reducible rfl
       rotate_left
       ·simp only [Act.put, List.setIfInBounds_toArray, List.set_cons_zero, List.set_cons_succ, i64_w, i32_w]
        rfl
       refine pure_ (i := 12) (N := some 23) (v := ?_) (a' := ?_) (bb [13, 21]) rfl rfl (any_of HT_.out (by kernel_rfl)) (fun _ _ _ h => h) (Or.inl ⟨by rfl, ?_⟩) ?_ ?_
       rotate_left
       ·intro w'
        go_simp
        with_reducible rfl
       rotate_left
       ·simp only [Act.put, List.setIfInBounds_toArray, List.set_cons_zero, List.set_cons_succ, i64_w, i32_w]
        rfl
       refine pure_ (i := 13) (N := some 24) (v := ?_) (a' := ?_) (bb [14, 20]) rfl rfl (any_of HT_.out (by kernel_rfl)) (fun _ _ _ h => h) (Or.inl ⟨by rfl, ?_⟩) ?_ ?_
       rotate_left
       ·intro w'
        go_simp
        with_reducible rfl
       rotate_left
       ·simp only [Act.put, List.setIfInBounds_toArray, List.set_cons_zero, List.set_cons_succ, i64_w, i32_w]
        rfl
       refine pure_ (i := 14) (N := some 25) (v := ?_) (a' := ?_) (bb [15, 19]) rfl rfl (any_of HT_.out (by kernel_rfl)) (fun _ _ _ h => h) (Or.inl ⟨by rfl, ?_⟩) ?_ ?_
       rotate_left
       ·intro w'
        go_simp
        with_reducible rfl
       rotate_left
       ·simp only [Act.put, List.setIfInBounds_toArray, List.set_cons_zero, List.set_cons_succ, i64_w, i32_w]
        rfl
       refine pure_ (i := 15) (N := some 26) (v := ?_) (a' := ?_) (bb [16, 18]) rfl rfl (any_of HT_.out (by kernel_rfl)) (fun _ _ _ h => h) (Or.inl ⟨by rfl, ?_⟩) ?_ ?_
       rotate_left
       ·intro w'
        go_simp
        with_reducible rfl
       rotate_left
       ·simp only [Act.put, List.setIfInBounds_toArray, List.set_cons_zero, List.set_cons_succ, i64_w, i32_w]
        rfl
       refine pure_ (i := 16) (N := some 27) (v := undef) (a' := ?_) (bb [17, 17]) rfl rfl (any_of HT_.out (by kernel_rfl)) (fun _ _ _ h => h) (Or.inr ⟨by rfl, rfl⟩) ?_ ?_
       rotate_left
       ·simp only [Act.put, List.setIfInBounds_toArray, List.set_cons_zero, List.set_cons_succ, i64_w, i32_w]
        rfl
       refine pure_ (i := 17) (N := some 28) (v := undef) (a' := ?_) (bb [18, 16]) rfl rfl (any_of HT_.out (by kernel_rfl)) (fun _ _ _ h => h) (Or.inr ⟨by rfl, rfl⟩) ?_ ?_
       rotate_left
       ·simp only [Act.put, List.setIfInBounds_toArray, List.set_cons_zero, List.set_cons_succ, i64_w, i32_w]
        rfl
       refine pure_ (i := 18) (N := some 29) (v := undef) (a' := ?_) (bb [19, 15]) rfl rfl (any_of HT_.out (by kernel_rfl)) (fun _ _ _ h => h) (Or.inr ⟨by rfl, rfl⟩) ?_ ?_
       rotate_left
       ·simp only [Act.put, List.setIfInBounds_toArray, List.set_cons_zero, List.set_cons_succ, i64_w, i32_w]
        rfl
       refine pure_ (i := 19) (N := some 30) (v := undef) (a' := ?_) (bb [20, 14]) rfl rfl (any_of HT_.out (by kernel_rfl)) (fun _ _ _ h => h) (Or.inr ⟨by rfl, rfl⟩) ?_ ?_
       rotate_left
       ·simp only [Act.put, List.setIfInBounds_toArray, List.set_cons_zero, List.set_cons_succ, i64_w, i32_w]
        rfl
       refine pure_ (i := 20) (N := some 31) (v := undef) (a' := ?_) (bb [21, 13]) rfl rfl (any_of HT_.out (by kernel_rfl)) (fun _ _ _ h => h) (Or.inr ⟨by rfl, rfl⟩) ?_ ?_
       rotate_left
       ·simp only [Act.put, List.setIfInBounds_toArray, List.set_cons_zero, List.set_cons_succ, i64_w, i32_w]
        rfl
       refine pure_ (i := 21) (N := some 32) (v := undef) (a' := ?_) (bb [22, 12]) rfl rfl (any_of HT_.out (by kernel_rfl)) (fun _ _ _ h => h) (Or.inr ⟨by rfl, rfl⟩) ?_ ?_
       rotate_left
       ·simp only [Act.put, List.setIfInBounds_toArray, List.set_cons_zero, List.set_cons_succ, i64_w, i32_w]
        rfl
       refine pure_ (i := 22) (N := some 33) (v := undef) (a' := ?_) (bb [23, 11]) rfl rfl (any_of HT_.out (by kernel_rfl)) (fun _ _ _ h => h) (Or.inr ⟨by rfl, rfl⟩) ?_ ?_
       rotate_left
       ·simp only [Act.put, List.setIfInBounds_toArray, List.set_cons_zero, List.set_cons_succ, i64_w, i32_w]
        rfl
       refine pure_ (i := 23) (N := some 34) (v := undef) (a' := ?_) (bb [24, 10]) rfl rfl (any_of HT_.out (by kernel_rfl)) (fun _ _ _ h => h) (Or.inr ⟨by rfl, rfl⟩) ?_ ?_
       rotate_left
       ·simp only [Act.put, List.setIfInBounds_toArray, List.set_cons_zero, List.set_cons_succ, i64_w, i32_w]
        rfl
       refine pure_ (i := 24) (N := some 35) (v := undef) (a' := ?_) (bb [25, 9]) rfl rfl (any_of HT_.out (by kernel_rfl)) (fun _ _ _ h => h) (Or.inr ⟨by rfl, rfl⟩) ?_ ?_
       rotate_left
       ·simp only [Act.put, List.setIfInBounds_toArray, List.set_cons_zero, List.set_cons_succ, i64_w, i32_w]
        rfl
       refine pure_ (i := 25) (N := some 36) (v := ?_) (a' := ?_) (bb [26, 8]) rfl rfl (any_of HT_.out (by kernel_rfl)) (fun _ _ _ h => h) (Or.inl ⟨by rfl, ?_⟩) ?_ ?_
       rotate_left
       ·intro w'
        go_simp
        with_reducible rfl
       rotate_left
       ·simp only [Act.put, List.setIfInBounds_toArray, List.set_cons_zero, List.set_cons_succ, i64_w, i32_w]
        rfl
       refine pure_ (i := 26) (N := some 37) (v := ?_) (a' := ?_) (bb [27, 7]) rfl rfl (any_of HT_.out (by kernel_rfl)) (fun _ _ _ h => h) (Or.inl ⟨by rfl, ?_⟩) ?_ ?_
       rotate_left
       ·intro w'
        go_simp
        with_reducible rfl
       rotate_left
       ·simp only [Act.put, List.setIfInBounds_toArray, List.set_cons_zero, List.set_cons_succ, i64_w, i32_w]
        rfl
       refine pure_ (i := 27) (N := some 38) (v := undef) (a' := ?_) (bb [28, 6]) rfl rfl (any_of HT_.out (by kernel_rfl)) (fun _ _ _ h => h) (Or.inr ⟨by rfl, rfl⟩) ?_ ?_
       rotate_left
       ·simp only [Act.put, List.setIfInBounds_toArray, List.set_cons_zero, List.set_cons_succ, i64_w, i32_w]
        rfl
       refine pure_ (i := 28) (N := some 39) (v := undef) (a' := ?_) (bb [29, 5]) rfl rfl (any_of HT_.out (by kernel_rfl)) (fun _ _ _ h => h) (Or.inr ⟨by rfl, rfl⟩) ?_ ?_
       rotate_left
       ·simp only [Act.put, List.setIfInBounds_toArray, List.set_cons_zero, List.set_cons_succ, i64_w, i32_w]
        rfl
       refine pure_ (i := 29) (N := some 40) (v := undef) (a' := ?_) (bb [30, 4]) rfl rfl (any_of HT_.out (by kernel_rfl)) (fun _ _ _ h => h) (Or.inr ⟨by rfl, rfl⟩) ?_ ?_
       rotate_left
       ·simp only [Act.put, List.setIfInBounds_toArray, List.set_cons_zero, List.set_cons_succ, i64_w, i32_w]
        rfl
       refine pure_ (i := 30) (N := some 41) (v := undef) (a' := ?_) (bb [31, 3]) rfl rfl (any_of HT_.out (by kernel_rfl)) (fun _ _ _ h => h) (Or.inr ⟨by rfl, rfl⟩) ?_ ?_
       rotate_left
       ·simp only [Act.put, List.setIfInBounds_toArray, List.set_cons_zero, List.set_cons_succ, i64_w, i32_w]
        rfl
       refine pure_ (i := 31) (N := some 42) (v := undef) (a' := ?_) (bb [32, 2]) rfl rfl (any_of HT_.out (by kernel_rfl)) (fun _ _ _ h => h) (Or.inr ⟨by rfl, rfl⟩) ?_ ?_
       rotate_left
       ·simp only [Act.put, List.setIfInBounds_toArray, List.set_cons_zero, List.set_cons_succ, i64_w, i32_w]
        rfl
       refine pure_ (i := 32) (N := some 43) (v := undef) (a' := ?_) (bb [33, 1]) rfl rfl (any_of HT_.out (by kernel_rfl)) (fun _ _ _ h => h) (Or.inr ⟨by rfl, rfl⟩) ?_ ?_
       rotate_left
       ·simp only [Act.put, List.setIfInBounds_toArray, List.set_cons_zero, List.set_cons_succ, i64_w, i32_w]
        rfl
       refine pure_ (i := 33) (N := some 44) (v := ?_) (a' := ?_) (bb [34]) rfl rfl (any_of HT_.out (by kernel_rfl)) (fun _ _ _ h => h) (Or.inl ⟨by rfl, ?_⟩) ?_ ?_
       rotate_left
       ·intro w'
        go_simp
        with_reducible rfl
       rotate_left
       ·simp only [Act.put, List.setIfInBounds_toArray, List.set_cons_zero, List.set_cons_succ, i64_w, i32_w]
        rfl
       refine done_ (done_of HT_.out (by kernel_rfl)) ?_
       try go_wp2
       go_ret
       exact ⟨by first | rfl | (simp [errW_none, errW_some] <;> rfl) | (simp [*, errW_none, errW_some] <;> rfl), by repeat (first | (with_reducible first | exact HB.out | apply below_alloc | apply pw_below_drewN | apply below_drew1 | refine below_set ?_ GE261.out) | exact HB.out)⟩
    ·rw [if_neg c5] at H
     have c5b0 : (((rd_T31 l0 x7_1).f0).toList == ([] : List UInt8)) = false := beq_eq_false_iff_ne.mpr c5
     have c5b1 : (((rd_T31 l0 x7_1).f0).toList != ([] : List UInt8)) = true := bne_iff_ne.mpr c5
     obtain rfl := Option.some.inj H
     have p260 : 0 ≤ (x7_1 : Int) := of_decide_eq_true (by first | (with_reducible assumption) | assumption)
     have q260 : x7_1 < (l0.length : Int) := of_decide_eq_true (by first | (with_reducible assumption) | assumption)
     obtain ⟨ad260, A260_1, c260_1, A260_2, c260_2, e260, hx260_0, hx260_1, hx260_2, hl260_1, hi260_1, hl260_2, hi260_2⟩ := at_T31 HR0.out x7_1 p260 q260
     cases e260
     replace hx260_0 := (HB.out.cell (World.block_lt_of_cell? w _ hx260_0)).trans hx260_0
     replace hx260_1 := (HB.out.cell (World.block_lt_of_cell? w _ hx260_1)).trans hx260_1
     replace hx260_2 := (HB.out.cell (World.block_lt_of_cell? w _ hx260_2)).trans hx260_2
     have HR260_1 := Aside0.mk hi260_1
     have HC260_1 := Aside0.mk hl260_1
     clear hi260_1 hl260_1
     have HR260_2 := Aside0.mk hi260_2
     have HC260_2 := Aside0.mk hl260_2
     clear hi260_2 hl260_2
     replace p260 := eq_true p260
     replace q260 := eq_true q260
     try go_wp2_with (first | ((with_reducible refine gate_dst (N := 4) rfl ?_); (try (refine gate_guard (by rfl) ?_; dsimp only)); refine box_event ?hg (N := 4) ?hd (cs := #[.string (⟨#[]⟩ : ByteArray), .slice none 0 0, .slice none 0 0]) (t := 31) ?hr ?_; (case hd => rfl); (case hg => rfl); (case hr => first | (go_simp; done) | (go_simp; rfl)); intro gb261 hg w48 hbox hb; have n0_ := Aside0.mk (below_step (by repeat (first | (with_reducible first | exact HB.out | apply below_alloc | apply pw_below_drewN | apply below_drew1) | exact HB.out)) hb); have n1_ := Aside0.mk (hbox); have n2_ := Aside0.mk ((by rw [hg]; exact (below_size (by repeat (first | (with_reducible first | exact HB.out | apply below_alloc | apply pw_below_drewN | apply below_drew1) | exact HB.out))) : w.heap.size ≤ gb261)); have n3_ := Aside0.mk ((by rw [hg]; exact (below_size (by repeat (first | (with_reducible first | exact HB.out | apply below_alloc | apply pw_below_drewN | apply below_drew1) | exact HB.out))) : w.heap.size ≤ gb261)); clear HB; have HB := n0_; have BK261 := n1_; have GW261 := n2_; have GE261 := n3_; clear n0_ n1_ n2_ n3_; clear hb hbox hg; have hcz49_0 : w48.cell? ⟨gb261, 0, none⟩ = some (.string (⟨#[]⟩ : ByteArray)) := (blk_cell BK261.out 0).trans rfl; have hcz49_1 : w48.cell? ⟨gb261, 1, none⟩ = some (.slice none 0 0) := (blk_cell BK261.out 1).trans rfl; have hcz49_2 : w48.cell? ⟨gb261, 2, none⟩ = some (.slice none 0 0) := (blk_cell BK261.out 2).trans rfl; have hfz49_0 := blk_frozen BK261.out 0; have hfz49_1 := blk_frozen BK261.out 1; have hfz49_2 := blk_frozen BK261.out 2))
     have n0_ : Aside0 ((((w48.setCell ⟨gb261, 0, none⟩ (.string ((rd_T31 l0 x7_1).f0))).setCell ⟨gb261, 1, none⟩ (.slice A260_1 ((rd_T31 l0 x7_1).f1).length c260_1)).setCell ⟨gb261, 2, none⟩ (.slice A260_2 ((rd_T31 l0 x7_1).f2).length c260_2)).heap[gb261]? = some (.cells #[.string ((rd_T31 l0 x7_1).f0), .slice A260_1 ((rd_T31 l0 x7_1).f1).length c260_1, .slice A260_2 ((rd_T31 l0 x7_1).f2).length c260_2] 31 (0, 0))) := ⟨by (with_reducible repeat (first | refine blk_drewN ?_ _ | refine blk_drew ?_ | refine blk_alloc ?_ _)); refine blk_put (cs := #[.string ((rd_T31 l0 x7_1).f0), .slice A260_1 ((rd_T31 l0 x7_1).f1).length c260_1, .slice none 0 0]) ?_ 2 _ rfl; (with_reducible repeat (first | refine blk_drewN ?_ _ | refine blk_drew ?_ | refine blk_alloc ?_ _)); refine blk_put (cs := #[.string ((rd_T31 l0 x7_1).f0), .slice none 0 0, .slice none 0 0]) ?_ 1 _ rfl; (with_reducible repeat (first | refine blk_drewN ?_ _ | refine blk_drew ?_ | refine blk_alloc ?_ _)); refine blk_put (cs := #[.string (⟨#[]⟩ : ByteArray), .slice none 0 0, .slice none 0 0]) ?_ 0 _ rfl; (with_reducible repeat (first | refine blk_drewN ?_ _ | refine blk_drew ?_ | refine blk_alloc ?_ _)); exact BK261.out⟩
     have n1_ : Aside0 (Below w.heap.size w (((w48.setCell ⟨gb261, 0, none⟩ (.string ((rd_T31 l0 x7_1).f0))).setCell ⟨gb261, 1, none⟩ (.slice A260_1 ((rd_T31 l0 x7_1).f1).length c260_1)).setCell ⟨gb261, 2, none⟩ (.slice A260_2 ((rd_T31 l0 x7_1).f2).length c260_2))) := ⟨by repeat (first | (with_reducible first | exact HB.out | apply below_alloc | apply pw_below_drewN | apply below_drew1 | refine below_set ?_ GE261.out) | exact HB.out)⟩
     (try clear BK261)
     (try clear HB)
     generalize (((w48.setCell ⟨gb261, 0, none⟩ (.string ((rd_T31 l0 x7_1).f0))).setCell ⟨gb261, 1, none⟩ (.slice A260_1 ((rd_T31 l0 x7_1).f1).length c260_1)).setCell ⟨gb261, 2, none⟩ (.slice A260_2 ((rd_T31 l0 x7_1).f2).length c260_2)) = w50 at n0_ n1_ ⊢
     have BK261 := n0_
     have HB := n1_
     clear n0_ n1_
     have n0_ := Aside0.mk (blk_drew BK261.out)
     have n1_ := Aside0.mk (below_drew1 HB.out)
     clear BK261
     clear HB
     have BK261 := n0_
     have HB := n1_
     clear n0_ n1_
     refine start_ (n := 34) (S := fun w' => w'.cell? ⟨gb261, 0, none⟩ = some (.string ((rd_T31 l0 x7_1).f0)) ∧ w'.cell? ⟨gb261, 1, none⟩ = some (.slice A260_1 ((rd_T31 l0 x7_1).f1).length c260_1) ∧ w'.cell? ⟨gb261, 2, none⟩ = some (.slice A260_2 ((rd_T31 l0 x7_1).f2).length c260_2)) (ds := []) (bb [0, 34]) (by kernel_rfl) rfl rfl ⟨(blk_cell BK261.out 0).trans rfl, (blk_cell BK261.out 1).trans rfl, (blk_cell BK261.out 2).trans rfl⟩ (fun hHeld => ?_); refine with_tabW spec_softnetFine.tab4 spec_softnetFine.bits4 (fun HT_ HW_ => ?_)
     generalize w50.drew = w51 at BK261 HB hHeld ⊢
     refine pure_ (i := 0) (N := some 11) (v := ?_) (a' := ?_) (bb [1, 33]) rfl rfl (any_of HT_.out (by kernel_rfl)) (fun _ _ _ h => h) (Or.inl ⟨by rfl, ?_⟩) ?_ ?_
     rotate_left
     ·intro w'
      go_simp
      with_reducible rfl
     rotate_left
     ·simp only [Act.put, List.setIfInBounds_toArray, List.set_cons_zero, List.set_cons_succ, i64_w, i32_w]
      rfl
     refine take_ (i := 1) (N := some 12) (v := ?_) (a' := ?_) (bb [2, 32]) rfl rfl (take_ofW HT_.out HW_.out (by kernel_rfl)) (fun _ _ _ h => h) (Or.inl ⟨by rfl, ?_⟩) hHeld ?_ ?_
     rotate_left
     ·rintro w' ⟨s0, s1, s2⟩
      go_simp
      with_reducible rfl
     rotate_left
     ·simp only [Act.put, List.setIfInBounds_toArray, List.set_cons_zero, List.set_cons_succ, i64_w, i32_w]
      rfl
     refine pure_ (i := 2) (N := some 13) (v := ?_) (a' := ?_) (bb [3, 31]) rfl rfl (any_of HT_.out (by kernel_rfl)) (fun _ _ _ h => h) (Or.inl ⟨by rfl, ?_⟩) ?_ ?_
     rotate_left
     ·intro w'
      go_simp
      with_reducible rfl
     rotate_left
     ·simp only [Act.put, List.setIfInBounds_toArray, List.set_cons_zero, List.set_cons_succ, i64_w, i32_w]
      rfl
     refine pure_ (i := 3) (N := some 14) (v := ?_) (a' := ?_) (bb [4, 30]) rfl rfl (any_of HT_.out (by kernel_rfl)) (fun _ _ _ h => h) (Or.inl ⟨by rfl, ?_⟩) ?_ ?_
     rotate_left
     ·intro w'
      go_simp
      with_reducible rfl
     rotate_left
     ·simp only [Act.put, List.setIfInBounds_toArray, List.set_cons_zero, List.set_cons_succ, i64_w, i32_w]
      rfl
     refine pure_ (i := 4) (N := some 15) (v := undef) (a' := ?_) (bb [5, 29]) rfl rfl (any_of HT_.out (by kernel_rfl)) (fun _ _ _ h => h) (Or.inr ⟨by rfl, rfl⟩) ?_ ?_
     rotate_left
     ·simp only [Act.put, List.setIfInBounds_toArray, List.set_cons_zero, List.set_cons_succ, i64_w, i32_w]
      rfl
     refine pure_ (i := 5) (N := some 16) (v := undef) (a' := ?_) (bb [6, 28]) rfl rfl (any_of HT_.out (by kernel_rfl)) (fun _ _ _ h => h) (Or.inr ⟨by rfl, rfl⟩) ?_ ?_
     rotate_left
     ·simp only [Act.put, List.setIfInBounds_toArray, List.set_cons_zero, List.set_cons_succ, i64_w, i32_w]
      rfl
     refine pure_ (i := 6) (N := some 17) (v := undef) (a' := ?_) (bb [7, 27]) rfl rfl (any_of HT_.out (by kernel_rfl)) (fun _ _ _ h => h) (Or.inr ⟨by rfl, rfl⟩) ?_ ?_
     rotate_left
     ·simp only [Act.put, List.setIfInBounds_toArray, List.set_cons_zero, List.set_cons_succ, i64_w, i32_w]
      rfl
     refine pure_ (i := 7) (N := some 18) (v := undef) (a' := ?_) (bb [8, 26]) rfl rfl (any_of HT_.out (by kernel_rfl)) (fun _ _ _ h => h) (Or.inr ⟨by rfl, rfl⟩) ?_ ?_
     rotate_left
     ·simp only [Act.put, List.setIfInBounds_toArray, List.set_cons_zero, List.set_cons_succ, i64_w, i32_w]
      rfl
     refine pure_ (i := 8) (N := some 19) (v := undef) (a' := ?_) (bb [9, 25]) rfl rfl (any_of HT_.out (by kernel_rfl)) (fun _ _ _ h => h) (Or.inr ⟨by rfl, rfl⟩) ?_ ?_
     rotate_left
     ·simp only [Act.put, List.setIfInBounds_toArray, List.set_cons_zero, List.set_cons_succ, i64_w, i32_w]
      rfl
     refine pure_ (i := 9) (N := some 20) (v := undef) (a' := ?_) (bb [10, 24]) rfl rfl (any_of HT_.out (by kernel_rfl)) (fun _ _ _ h => h) (Or.inr ⟨by rfl, rfl⟩) ?_ ?_
     rotate_left
     ·simp only [Act.put, List.setIfInBounds_toArray, List.set_cons_zero, List.set_cons_succ, i64_w, i32_w]
      rfl
     refine pure_ (i := 10) (N := some 21) (v := undef) (a' := ?_) (bb [11, 23]) rfl rfl (any_of HT_.out (by kernel_rfl)) (fun _ _ _ h => h) (Or.inr ⟨by rfl, rfl⟩) ?_ ?_
     rotate_left
     ·simp only [Act.put, List.setIfInBounds_toArray, List.set_cons_zero, List.set_cons_succ, i64_w, i32_w]
      rfl
     refine pure_ (i := 11) (N := some 22) (v := undef) (a' := ?_) (bb [12, 22]) rfl rfl (any_of HT_.out (by kernel_rfl)) (fun _ _ _ h => h) (Or.inr ⟨by rfl, rfl⟩) ?_ ?_
     rotate_left
     ·simp only [Act.put, List.setIfInBounds_toArray, List.set_cons_zero, List.set_cons_succ, i64_w, i32_w]
      rfl
     refine pure_ (i := 12) (N := some 23) (v := undef) (a' := ?_) (bb [13, 21]) rfl rfl (any_of HT_.out (by kernel_rfl)) (fun _ _ _ h => h) (Or.inr ⟨by rfl, rfl⟩) ?_ ?_
     rotate_left
     ·simp only [Act.put, List.setIfInBounds_toArray, List.set_cons_zero, List.set_cons_succ, i64_w, i32_w]
      rfl
     refine pure_ (i := 13) (N := some 24) (v := undef) (a' := ?_) (bb [14, 20]) rfl rfl (any_of HT_.out (by kernel_rfl)) (fun _ _ _ h => h) (Or.inr ⟨by rfl, rfl⟩) ?_ ?_
     rotate_left
     ·simp only [Act.put, List.setIfInBounds_toArray, List.set_cons_zero, List.set_cons_succ, i64_w, i32_w]
      rfl
     refine pure_ (i := 14) (N := some 25) (v := ?_) (a' := ?_) (bb [15, 19]) rfl rfl (any_of HT_.out (by kernel_rfl)) (fun _ _ _ h => h) (Or.inl ⟨by rfl, ?_⟩) ?_ ?_
     rotate_left
     ·intro w'
      go_simp
      with_reducible rfl
     rotate_left
     ·simp only [Act.put, List.setIfInBounds_toArray, List.set_cons_zero, List.set_cons_succ, i64_w, i32_w]
      rfl
     refine pure_ (i := 15) (N := some 26) (v := ?_) (a' := ?_) (bb [16, 18]) rfl rfl (any_of HT_.out (by kernel_rfl)) (fun _ _ _ h => h) (Or.inl ⟨by rfl, ?_⟩) ?_ ?_
     rotate_left
     ·intro w'
      go_simp
      with_reducible rfl
     rotate_left
     ·simp only [Act.put, List.setIfInBounds_toArray, List.set_cons_zero, List.set_cons_succ, i64_w, i32_w]
      rfl
     refine pure_ (i := 16) (N := some 27) (v := undef) (a' := ?_) (bb [17, 17]) rfl rfl (any_of HT_.out (by kernel_rfl)) (fun _ _ _ h => h) (Or.inr ⟨by rfl, rfl⟩) ?_ ?_
     rotate_left
     ·simp only [Act.put, List.setIfInBounds_toArray, List.set_cons_zero, List.set_cons_succ, i64_w, i32_w]
      rfl
     refine pure_ (i := 17) (N := some 28) (v := undef) (a' := ?_) (bb [18, 16]) rfl rfl (any_of HT_.out (by kernel_rfl)) (fun _ _ _ h => h) (Or.inr ⟨by rfl, rfl⟩) ?_ ?_
     rotate_left
     ·simp only [Act.put, List.setIfInBounds_toArray, List.set_cons_zero, List.set_cons_succ, i64_w, i32_w]
      rfl
     refine pure_ (i := 18) (N := some 29) (v := undef) (a' := ?_) (bb [19, 15]) rfl rfl (any_of HT_.out (by kernel_rfl)) (fun _ _ _ h => h) (Or.inr ⟨by rfl, rfl⟩) ?_ ?_
     rotate_left
     ·simp only [Act.put, List.setIfInBounds_toArray, List.set_cons_zero, List.set_cons_succ, i64_w, i32_w]
      rfl
     refine pure_ (i := 19) (N := some 30) (v := undef) (a' := ?_) (bb [20, 14]) rfl rfl (any_of HT_.out (by kernel_rfl)) (fun _ _ _ h => h) (Or.inr ⟨by rfl, rfl⟩) ?_ ?_
     rotate_left
     ·simp only [Act.put, List.setIfInBounds_toArray, List.set_cons_zero, List.set_cons_succ, i64_w, i32_w]
      rfl
     refine pure_ (i := 20) (N := some 31) (v := undef) (a' := ?_) (bb [21, 13]) rfl rfl (any_of HT_.out (by kernel_rfl)) (fun _ _ _ h => h) (Or.inr ⟨by rfl, rfl⟩) ?_ ?_
     rotate_left
     ·simp only [Act.put, List.setIfInBounds_toArray, List.set_cons_zero, List.set_cons_succ, i64_w, i32_w]
      rfl
     refine pure_ (i := 21) (N := some 32) (v := undef) (a' := ?_) (bb [22, 12]) rfl rfl (any_of HT_.out (by kernel_rfl)) (fun _ _ _ h => h) (Or.inr ⟨by rfl, rfl⟩) ?_ ?_
     rotate_left
     ·simp only [Act.put, List.setIfInBounds_toArray, List.set_cons_zero, List.set_cons_succ, i64_w, i32_w]
      rfl
     refine pure_ (i := 22) (N := some 33) (v := undef) (a' := ?_) (bb [23, 11]) rfl rfl (any_of HT_.out (by kernel_rfl)) (fun _ _ _ h => h) (Or.inr ⟨by rfl, rfl⟩) ?_ ?_
     rotate_left
     ·simp only [Act.put, List.setIfInBounds_toArray, List.set_cons_zero, List.set_cons_succ, i64_w, i32_w]
      rfl
     refine pure_ (i := 23) (N := some 34) (v := undef) (a' := ?_) (bb [24, 10]) rfl rfl (any_of HT_.out (by kernel_rfl)) (fun _ _ _ h => h) (Or.inr ⟨by rfl, rfl⟩) ?_ ?_
     rotate_left
     ·simp only [Act.put, List.setIfInBounds_toArray, List.set_cons_zero, List.set_cons_succ, i64_w, i32_w]
      rfl
     refine pure_ (i := 24) (N := some 35) (v := undef) (a' := ?_) (bb [25, 9]) rfl rfl (any_of HT_.out (by kernel_rfl)) (fun _ _ _ h => h) (Or.inr ⟨by rfl, rfl⟩) ?_ ?_
     rotate_left
     ·simp only [Act.put, List.setIfInBounds_toArray, List.set_cons_zero, List.set_cons_succ, i64_w, i32_w]
      rfl
     refine pure_ (i := 25) (N := some 36) (v := ?_) (a' := ?_) (bb [26, 8]) rfl rfl (any_of HT_.out (by kernel_rfl)) (fun _ _ _ h => h) (Or.inl ⟨by rfl, ?_⟩) ?_ ?_
     rotate_left
     ·intro w'
      go_simp
      with_reducible rfl
     rotate_left
     ·simp only [Act.put, List.setIfInBounds_toArray, List.set_cons_zero, List.set_cons_succ, i64_w, i32_w]
      rfl
     refine pure_ (i := 26) (N := some 37) (v := ?_) (a' := ?_) (bb [27, 7]) rfl rfl (any_of HT_.out (by kernel_rfl)) (fun _ _ _ h => h) (Or.inl ⟨by rfl, ?_⟩) ?_ ?_
     rotate_left
     ·intro w'
      go_simp
      with_reducible rfl
     rotate_left
     ·simp only [Act.put, List.setIfInBounds_toArray, List.set_cons_zero, List.set_cons_succ, i64_w, i32_w]
      rfl
     refine pure_ (i := 27) (N := some 38) (v := undef) (a' := ?_) (bb [28, 6]) rfl rfl (any_of HT_.out (by kernel_rfl)) (fun _ _ _ h => h) (Or.inr ⟨by rfl, rfl⟩) ?_ ?_
     rotate_left
     ·simp only [Act.put, List.setIfInBounds_toArray, List.set_cons_zero, List.set_cons_succ, i64_w, i32_w]
      rfl
     refine pure_ (i := 28) (N := some 39) (v := undef) (a' := ?_) (bb [29, 5]) rfl rfl (any_of HT_.out (by kernel_rfl)) (fun _ _ _ h => h) (Or.inr ⟨by rfl, rfl⟩) ?_ ?_
     rotate_left
     ·simp only [Act.put, List.setIfInBounds_toArray, List.set_cons_zero, List.set_cons_succ, i64_w, i32_w]
      rfl
     refine pure_ (i := 29) (N := some 40) (v := undef) (a' := ?_) (bb [30, 4]) rfl rfl (any_of HT_.out (by kernel_rfl)) (fun _ _ _ h => h) (Or.inr ⟨by rfl, rfl⟩) ?_ ?_
     rotate_left
     ·simp only [Act.put, List.setIfInBounds_toArray, List.set_cons_zero, List.set_cons_succ, i64_w, i32_w]
      rfl
     refine pure_ (i := 30) (N := some 41) (v := undef) (a' := ?_) (bb [31, 3]) rfl rfl (any_of HT_.out (by kernel_rfl)) (fun _ _ _ h => h) (Or.inr ⟨by rfl, rfl⟩) ?_ ?_
     rotate_left
     ·simp only [Act.put, List.setIfInBounds_toArray, List.set_cons_zero, List.set_cons_succ, i64_w, i32_w]
      rfl
     refine pure_ (i := 31) (N := some 42) (v := undef) (a' := ?_) (bb [32, 2]) rfl rfl (any_of HT_.out (by kernel_rfl)) (fun _ _ _ h => h) (Or.inr ⟨by rfl, rfl⟩) ?_ ?_
     rotate_left
     ·simp only [Act.put, List.setIfInBounds_toArray, List.set_cons_zero, List.set_cons_succ, i64_w, i32_w]
      rfl
     refine pure_ (i := 32) (N := some 43) (v := undef) (a' := ?_) (bb [33, 1]) rfl rfl (any_of HT_.out (by kernel_rfl)) (fun _ _ _ h => h) (Or.inr ⟨by rfl, rfl⟩) ?_ ?_
     rotate_left
     ·simp only [Act.put, List.setIfInBounds_toArray, List.set_cons_zero, List.set_cons_succ, i64_w, i32_w]
      rfl
     refine pure_ (i := 33) (N := some 44) (v := ?_) (a' := ?_) (bb [34]) rfl rfl (any_of HT_.out (by kernel_rfl)) (fun _ _ _ h => h) (Or.inl ⟨by rfl, ?_⟩) ?_ ?_
     rotate_left
     ·intro w'
      go_simp
      with_reducible rfl
     rotate_left
     ·simp only [Act.put, List.setIfInBounds_toArray, List.set_cons_zero, List.set_cons_succ, i64_w, i32_w]
      rfl
     refine done_ (done_of HT_.out (by kernel_rfl)) ?_
     try go_wp2
     go_ret
     exact ⟨by first | rfl | (simp [errW_none, errW_some] <;> rfl) | (simp [*, errW_none, errW_some] <;> rfl), by repeat (first | (with_reducible first | exact HB.out | apply below_alloc | apply pw_below_drewN | apply below_drew1 | refine below_set ?_ GE261.out) | exact HB.out)⟩
   ·rw [if_neg c2] at H
    have c2b0 : decide (x7_1 < (l0.length : Int)) = false := decide_eq_false c2
    clear c2
    obtain rfl := Option.some.inj H
    go_wp2
    go_ret
    exact ⟨by first | rfl | (simp [errW_none, errW_some] <;> rfl) | (simp [*, errW_none, errW_some] <;> rfl), by repeat (first | (with_reducible first | exact HB.out | apply below_alloc | apply pw_below_drewN | apply below_drew1) | exact HB.out)⟩
end Go.Proofs.YtednjmngalmdkaaGreatDoor.GPC
end
