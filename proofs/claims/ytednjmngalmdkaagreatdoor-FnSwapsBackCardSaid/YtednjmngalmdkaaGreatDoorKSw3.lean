/- Texts of this claim, put together: GivenAtoiA, GivenFnV, GPEx12, GPEx15, GPEx16. Conditions: as each one says. -/
import Derived.Test.YtednjmngalmdkaaGreatDoorKSw0
import Derived.Test.YtednjmngalmdkaaGreatDoorKSw1
import Derived.Test.YtednjmngalmdkaaGreatDoorKSw2
import Derived.Shelf.LaysC
import Derived.Shelf.Strconv.AtoiAll
import Derived.Test.YtednjmngalmdkaaGreatDoorProg
import Derived.Below
import Derived.Deep.Draws
import Derived.Deep.AppendLies
import Derived.Maps.AppendAt
import Derived.OwnWalk
import Derived.Laws.BytesArg
import Derived.Laws.MakeOwn
import Derived.Laws.OwnMore
import Derived.Deep.OwnRows
import Derived.Tactics
import Derived.Lib.ConvBytes
import Derived.Laws.Slices
import Derived.WalkKit
import Derived.KernelRfl
import Derived.RowKit3
import Derived.Deep.LoopGhost
import Derived.Deep.QuietTactic
import Derived.BigQuiet
import Derived.WideLaws
import Derived.Deep.DeepCutAuto
import Derived.Deep.CutBlock
import Derived.Deep.RegionHeld3
import Derived.Laws.Rows
import Derived.Lib.AppendStr
import Derived.ArgAppend
import Derived.Laws.IdiomCopy
import Derived.OrdersHeld
import Derived.Laws.BitsLemmas
import Derived.RowKit
section
/- Contracts of Go's library at this program, laid by the shelf's own tool: plain declarations. Conditions: as each says. -/
namespace Go.Proofs
open Go.Shelf
def Tryz.laysC172_ren : Go.Shelf.Ren := ⟨fun | 172 => 215 | 244 => 223 | 245 => 196 | 247 => 229 | 279 => 209 | 280 => 210 | 281 => 211 | 282 => 212 | 287 => 195 | 316 => 220 | 171 => 221 | 205 => 169 | 321 => 207 | 322 => 208 | 243 => 228 | 246 => 243 | 283 => 258 | 284 => 259 | 285 => 260 | 286 => 261 | 129 => 247 | 317 => 266 | 318 => 251 | 319 => 267 | 320 => 268 | 337 => 271 | 338 => 272 | n => n, fun | 9 => 9 | 3 => 3 | 75 => 170 | 76 => 256 | 4 => 4 | 5 => 5 | 167 => 245 | 37 => 173 | 0 => 0 | 85 => 289 | 2 => 2 | 168 => 247 | 53 => 35 | 175 => 197 | 46 => 227 | 210 => 267 | 127 => 288 | 145 => 234 | 143 => 232 | 21 => 21 | 171 => 335 | 173 => 337 | 212 => 346 | 51 => 118 | 20 => 20 | 213 => 347 | 232 => 356 | 233 => 357 | 80 => 193 | n => n, fun | 15 => 3 | 16 => 4 | 17 => 12 | 18 => 14 | 19 => 15 | n => n⟩
theorem Tryz.laysC172 : Go.Proofs.LaysC.n172 Tryz.prog Tryz.laysC172_ren := {
 mixed := by kernel_rfl
 f129 := Tryz.func247.trans (congrArg some (by kernel_rfl))
 f171 := Tryz.func221.trans (congrArg some (by kernel_rfl))
 f172 := Tryz.func215.trans (congrArg some (by kernel_rfl))
 f205 := Tryz.func169.trans (congrArg some (by kernel_rfl))
 f243 := Tryz.func228.trans (congrArg some (by kernel_rfl))
 f244 := Tryz.func223.trans (congrArg some (by kernel_rfl))
 f245 := Tryz.func196.trans (congrArg some (by kernel_rfl))
 f246 := Tryz.func243.trans (congrArg some (by kernel_rfl))
 f247 := Tryz.func229.trans (congrArg some (by kernel_rfl))
 f279 := Tryz.func209.trans (congrArg some (by kernel_rfl))
 f280 := Tryz.func210.trans (congrArg some (by kernel_rfl))
 f281 := Tryz.func211.trans (congrArg some (by kernel_rfl))
 f282 := Tryz.func212.trans (congrArg some (by kernel_rfl))
 f283 := Tryz.func258.trans (congrArg some (by kernel_rfl))
 f284 := Tryz.func259.trans (congrArg some (by kernel_rfl))
 f285 := Tryz.func260.trans (congrArg some (by kernel_rfl))
 f286 := Tryz.func261.trans (congrArg some (by kernel_rfl))
 f287 := Tryz.func195.trans (congrArg some (by kernel_rfl))
 f316 := Tryz.func220.trans (congrArg some (by kernel_rfl))
 f317 := Tryz.func266.trans (congrArg some (by kernel_rfl))
 f318 := Tryz.func251.trans (congrArg some (by kernel_rfl))
 f319 := Tryz.func267.trans (congrArg some (by kernel_rfl))
 f320 := Tryz.func268.trans (congrArg some (by kernel_rfl))
 f321 := Tryz.func207.trans (congrArg some (by kernel_rfl))
 f322 := Tryz.func208.trans (congrArg some (by kernel_rfl))
 f337 := Tryz.func271.trans (congrArg some (by kernel_rfl))
 f338 := Tryz.func272.trans (congrArg some (by kernel_rfl))
 t0 := Tryz.underlying0
 a0 := Tryz.isAgg0
 z0 := Tryz.sizeOf0
 v0 := Tryz.zeroValue0
 t2 := Tryz.underlying2
 a2 := Tryz.isAgg2
 z2 := Tryz.sizeOf2
 v2 := Tryz.zeroValue2
 t3 := Tryz.underlying3
 a3 := Tryz.isAgg3
 z3 := Tryz.sizeOf3
 v3 := Tryz.zeroValue3
 t4 := Tryz.underlying4
 a4 := Tryz.isAgg4
 z4 := Tryz.sizeOf4
 v4 := Tryz.zeroValue4
 t5 := Tryz.underlying5
 a5 := Tryz.isAgg5
 z5 := Tryz.sizeOf5
 v5 := Tryz.zeroValue5
 t9 := Tryz.underlying9
 a9 := Tryz.isAgg9
 z9 := Tryz.sizeOf9
 v9 := Tryz.zeroValue9
 t20 := Tryz.underlying20
 a20 := Tryz.isAgg20
 z20 := Tryz.sizeOf20
 v20 := Tryz.zeroValue20
 t21 := Tryz.underlying21
 a21 := Tryz.isAgg21
 z21 := Tryz.sizeOf21
 v21 := Tryz.zeroValue21
 t37 := Tryz.underlying173
 a37 := Tryz.isAgg173
 z37 := Tryz.sizeOf173
 v37 := Tryz.zeroValue173
 t46 := Tryz.underlying227
 a46 := Tryz.isAgg227
 z46 := Tryz.sizeOf227
 v46 := Tryz.zeroValue227
 t51 := Tryz.underlying118
 a51 := Tryz.isAgg118
 z51 := Tryz.sizeOf118
 v51 := Tryz.zeroValue118
 t53 := Tryz.underlying35
 a53 := Tryz.isAgg35
 z53 := Tryz.sizeOf35
 v53 := Tryz.zeroValue35
 t75 := Tryz.underlying170
 a75 := Tryz.isAgg170
 z75 := Tryz.sizeOf170
 v75 := Tryz.zeroValue170
 t76 := Tryz.underlying256
 a76 := Tryz.isAgg256
 z76 := Tryz.sizeOf256
 v76 := Tryz.zeroValue256
 t85 := Tryz.underlying289
 a85 := Tryz.isAgg289
 z85 := Tryz.sizeOf289
 v85 := Tryz.zeroValue289
 t127 := Tryz.underlying288
 a127 := Tryz.isAgg288
 z127 := Tryz.sizeOf288
 v127 := Tryz.zeroValue288
 t143 := Tryz.underlying232
 a143 := Tryz.isAgg232
 z143 := Tryz.sizeOf232
 v143 := Tryz.zeroValue232
 t145 := Tryz.underlying234
 a145 := Tryz.isAgg234
 z145 := Tryz.sizeOf234
 v145 := Tryz.zeroValue234
 t167 := Tryz.underlying245
 a167 := Tryz.isAgg245
 z167 := Tryz.sizeOf245
 v167 := Tryz.zeroValue245
 t168 := Tryz.underlying247
 a168 := Tryz.isAgg247
 z168 := Tryz.sizeOf247
 v168 := Tryz.zeroValue247
 t171 := Tryz.underlying335
 a171 := Tryz.isAgg335
 z171 := Tryz.sizeOf335
 v171 := Tryz.zeroValue335
 t173 := Tryz.underlying337
 a173 := Tryz.isAgg337
 z173 := Tryz.sizeOf337
 v173 := Tryz.zeroValue337
 t175 := Tryz.underlying197
 a175 := Tryz.isAgg197
 z175 := Tryz.sizeOf197
 v175 := Tryz.zeroValue197
 t210 := Tryz.underlying267
 a210 := Tryz.isAgg267
 z210 := Tryz.sizeOf267
 v210 := Tryz.zeroValue267
 t212 := Tryz.underlying346
 a212 := Tryz.isAgg346
 z212 := Tryz.sizeOf346
 v212 := Tryz.zeroValue346
 t213 := Tryz.underlying347
 a213 := Tryz.isAgg347
 z213 := Tryz.sizeOf347
 t232 := Tryz.underlying356
 a232 := Tryz.isAgg356
 z232 := Tryz.sizeOf356
 v232 := Tryz.zeroValue356
 t233 := Tryz.underlying357
 a233 := Tryz.isAgg357
 z233 := Tryz.sizeOf357
 v233 := Tryz.zeroValue357
 g15 := by kernel_rfl
 g16 := by kernel_rfl
 g17 := by kernel_rfl
 g18 := by kernel_rfl
 g19 := by kernel_rfl
 t80 := Tryz.underlying193
 a80 := Tryz.isAgg193
 z80 := Tryz.sizeOf193
 v80 := Tryz.zeroValue193
 i0 := by kernel_rfl
 i2 := by kernel_rfl
 i3 := by kernel_rfl
 i4 := by kernel_rfl
 i5 := by kernel_rfl
 i9 := by kernel_rfl
 i20 := by kernel_rfl
 i21 := by kernel_rfl
 i37 := by kernel_rfl
 i46 := by kernel_rfl
 i51 := by kernel_rfl
 i53 := by kernel_rfl
 i75 := by kernel_rfl
 i76 := by kernel_rfl
 i80 := by kernel_rfl
 i85 := by kernel_rfl
 i127 := by kernel_rfl
 i143 := by kernel_rfl
 i145 := by kernel_rfl
 i167 := by kernel_rfl
 i168 := by kernel_rfl
 i171 := by kernel_rfl
 i173 := by kernel_rfl
 i175 := by kernel_rfl
 i210 := by kernel_rfl
 i212 := by kernel_rfl
 i232 := by kernel_rfl
 i233 := by kernel_rfl
 m15 := by kernel_rfl
 m16 := by kernel_rfl
 m17 := by kernel_rfl
 m18 := by kernel_rfl
 m19 := by kernel_rfl
 c0 := by kernel_rfl
 c2 := by kernel_rfl
 c3 := by kernel_rfl
 c4 := by kernel_rfl
 c5 := by kernel_rfl
 c9 := by kernel_rfl
 c20 := by kernel_rfl
 c21 := by kernel_rfl
 c37 := by kernel_rfl
 c46 := by kernel_rfl
 c51 := by kernel_rfl
 c53 := by kernel_rfl
 c75 := by kernel_rfl
 c76 := by kernel_rfl
 c80 := by kernel_rfl
 c85 := by kernel_rfl
 c127 := by kernel_rfl
 c143 := by kernel_rfl
 c145 := by kernel_rfl
 c167 := by kernel_rfl
 c168 := by kernel_rfl
 c171 := by kernel_rfl
 c173 := by kernel_rfl
 c175 := by kernel_rfl
 c210 := by kernel_rfl
 c212 := by kernel_rfl
 c213 := by kernel_rfl
 c232 := by kernel_rfl
 c233 := by kernel_rfl }
open Go.RowKit in
theorem Tryz.strconv_Atoi_ok (s : ByteArray) (hmax : s.size ≤ 9223372036854775806) (v : Int) (h : Lib.atoiAll s.data.toList = .ok v) (w : World) :
  Calls Tryz.prog 215 #[.string s] w fun e w' => e = .returned (.tuple #[.int .i64 v, .nilIface]) ∧ (w' = w ∨ ∃ t, w' = Lib.bytesWorld w 5 t) := Any.strconv_Atoi_ok Tryz.laysC172 s hmax v h w
end Go.Proofs
end
section
/- A call of a function value in a region that draws; reads of floats. Plain laws of the walk. -/
namespace Go.Proofs.YtednjmngalmdkaaGreatDoor.GPC
open Go.RowKit Go.Proofs.YtednjmngalmdkaaGreatDoorW.PrintWords Go.Proofs.YtednjmngalmdkaaGreatDoorW.PrintLast
set_option linter.unusedVariables false
open Kd in
section
variable {P : Program} {ops : Array Oper} {Q : Exit → Act → World → Prop}
theorem goesV_ {oi : Oper} {N : Option Tmp} {a : Act} {w : World} {K : Act → World → Prop} {f : FuncId} {fn : Func} {asx : Array Operand} {ts : Array TypeId} {x : Operand} (hf : P.funcs[f]? = some fn) (hname : (fn.name == "runtime.NumGoroutine") = false) (hb : fn.body.isSome = true) (args : Array Value)
  (hw : Region.wanted oi (yielded ops a.tmps) = true) (hN : oi.dst = N) (hop : oi.op = .call { callee := .value x, args := asx, argTypes := ts }) (hx : a.eval x = .func (.func f) #[] #[]) (hargs : asx.map a.eval = args)
  (h : Calls P f args w fun e w' => ∃ v, e = .returned v ∧ K (a.put N v) w') : if Region.wanted oi (yielded ops a.tmps) = true then Oper.wp P oi a w K Q else K (a.put N undef) w := by
 refine call_ f args hw hN ?_ h
 have he := enters_ hf hname hb args w
 unfold execOp
 simp [hop, resolve, Deferred.ofValue, invoke, hx, hargs, he]
end
end Go.Proofs.YtednjmngalmdkaaGreatDoor.GPC
end
section
namespace Go.Proofs.YtednjmngalmdkaaGreatDoor.GPC
open Go.RowKit Go.Proofs.YtednjmngalmdkaaGreatDoorW.PrintWords Go.Proofs.YtednjmngalmdkaaGreatDoorW.PrintLast Go.Proofs.YtednjmngalmdkaaGreatDoorW.PrintMore
attribute [local go_sem] max2_int min2_int max_two min_two max_three min_three max_four min_four   -- for this text's walks alone
set_option linter.unusedVariables false
set_option linter.unusedSimpArgs false

attribute [local go_sem] run_store_float
/-! ### spec_Left: function 106 -/
def spec_Left.l0 : Nat → ByteArray → Int → Option (ByteArray)
 | 0, _, _ => none
 | k + 1, x0, x1 => if (x0.size : Int) < x1 then (if x0.size + 1 ≤ 9223372036854775807 then (spec_Left.l0 k (x0 ++ (⟨#[32]⟩ : ByteArray)) x1) else (none)) else (some x0)
def spec_Left.f (k : Nat) (a0 : ByteArray) (a1 : Int) : Option (ByteArray) := spec_Left.l0 k a0 a1
theorem spec_Left.mono_l : ∀ k, (∀ y0 y1, LeO (spec_Left.l0 k y0 y1) (spec_Left.l0 (k + 1) y0 y1))
 | 0 => fun _ _ r h => by simp [spec_Left.l0] at h
 | k + 1 => by
  have ih0 := spec_Left.mono_l k
  ·intro y0 y1
   unfold spec_Left.l0
   repeat' first
   | (with_reducible exact ih0 _ _)
   | (with_reducible exact LeO.refl _)
   | (with_reducible exact LeO.none _)
   | (with_reducible refine LeO.ite ?_ ?_)
   | (with_reducible refine LeO.bind ?_ (fun _ => ?_))
   | exact ih0 _ _
   | exact LeO.none _
   | refine LeO.ite ?_ ?_
   | refine LeO.bind ?_ (fun _ => ?_)
theorem spec_Left.mono : ∀ a0 a1 k, LeO (spec_Left.f k a0 a1) (spec_Left.f (k + 1) a0 a1) := by
 intro a0 a1 k
 have ih0 := spec_Left.mono_l k
 unfold spec_Left.f
 repeat' first
   | (with_reducible exact ih0 _ _)
   | (with_reducible exact LeO.refl _)
   | (with_reducible exact LeO.none _)
   | (with_reducible refine LeO.ite ?_ ?_)
   | (with_reducible refine LeO.bind ?_ (fun _ => ?_))
   | exact ih0 _ _
   | exact LeO.none _
   | refine LeO.ite ?_ ?_
   | refine LeO.bind ?_ (fun _ => ?_)
set_option maxHeartbeats 8000000 in
set_option maxRecDepth 100000 in
theorem spec_Left.calls (k : Nat) (a0 : ByteArray) (a1 : Int) (r : ByteArray) (w : World) (h : spec_Left.f k a0 a1 = some r) :
  Calls Tryz.prog 106 #[.string a0, .int .i64 a1] w fun e w' => e = .returned (.string r) ∧ Drawn0 w w' := by
 have H : (spec_Left.l0 k a0 a1) = some r := h
 clear h
 have H' := Aside0.mk H
 clear H
 go_enter Tryz.func106, Tryz.ntmps106
 go_wp2
 go_loopg [0] k (fun kq v0 w' => ∃ (x0_1 : ByteArray), v0 = .string x0_1 ∧ Aside0 (spec_Left.l0 kq x0_1 a1 = some r) ∧ Aside0 (kq ≤ k) ∧ Drawn0 w w')
 case atStart => exact ⟨(a0), (by first | rfl | (simp; done) | (simp [*]; done)), H', ⟨Nat.le_refl _⟩, by repeat (first | exact Drawn0.refl _ | apply Drawn0.step)⟩
 case round =>
  clear H'
  try clear c1
  try clear p2
  obtain ⟨x0_1, rfl, HA, HK1, ⟨m1, rfl⟩⟩ := hrel
  cases gk with
  | zero => exact absurd HA.out (by simp [spec_Left.l0])
  | succ k1 =>
   have H := HA.out
   clear HA
   simp only [spec_Left.l0] at H
   by_cases c3 : (x0_1.size : Int) < a1
   ·rw [if_pos c3] at H
    have c3b0 : decide ((x0_1.size : Int) < a1) = true := decide_eq_true c3
    clear c3
    replace H := guard_inv H
    obtain ⟨c4, H⟩ := H
    have c4b0 := eq_true c4
    have c4b1 := decide_eq_true c4
    try have c4b2 := eq_false (Nat.not_lt.2 c4)
    have H' := Aside0.mk H
    clear H
    go_wp2
    go_roundg k1
    case measure => have := HK1.out; omega
    case rel => exact ⟨(x0_1 ++ (⟨#[32]⟩ : ByteArray)), (by first | rfl | (simp; done) | (simp [*]; done)), H', ⟨by have := HK1.out; omega⟩, by repeat (first | exact Drawn0.refl _ | apply Drawn0.step)⟩
   ·rw [if_neg c3] at H
    have c3b0 : decide ((x0_1.size : Int) < a1) = false := decide_eq_false c3
    clear c3
    obtain rfl := Option.some.inj H
    go_wp2
    go_ret
    exact ⟨by first | rfl | (simp; done) | (simp [*]; done), by repeat (first | exact Drawn0.refl _ | apply Drawn0.step)⟩
end Go.Proofs.YtednjmngalmdkaaGreatDoor.GPC
end
section
namespace Go.Proofs.YtednjmngalmdkaaGreatDoor.GPC
open Go.RowKit Go.Proofs.YtednjmngalmdkaaGreatDoorW.PrintWords Go.Proofs.YtednjmngalmdkaaGreatDoorW.PrintLast Go.Proofs.YtednjmngalmdkaaGreatDoorW.PrintMore
attribute [local go_sem] max2_int min2_int max_two min_two max_three min_three max_four min_four   -- for this text's walks alone
set_option linter.unusedVariables false
set_option linter.unusedSimpArgs false

attribute [local go_sem] run_store_float
/-! ### spec_SignedText: function 121 -/
def spec_SignedText.f (k : Nat) (a0 : Int) : Option (ByteArray) := if a0 < 0 then ((spec_Text.f k (IntKind.u64.wrap ((IntKind.u64.wrap (wrap64 (-(wrap64 (a0 + 1))))) + 1))).bind fun t738 => (if 1 + t738.size ≤ 9223372036854775807 then (some ((⟨#[45]⟩ : ByteArray) ++ t738)) else (none))) else ((spec_Text.f k (IntKind.u64.wrap (a0))).bind fun t739 => (some t739))
theorem spec_SignedText.mono : ∀ a0 k, LeO (spec_SignedText.f k a0) (spec_SignedText.f (k + 1) a0) := by
 intro a0 k
 unfold spec_SignedText.f
 repeat' first
   | (with_reducible exact spec_Text.mono _ _)
   | (with_reducible exact LeO.refl _)
   | (with_reducible exact LeO.none _)
   | (with_reducible refine LeO.ite ?_ ?_)
   | (with_reducible refine LeO.bind ?_ (fun _ => ?_))
   | exact spec_Text.mono _ _
   | exact LeO.none _
   | refine LeO.ite ?_ ?_
   | refine LeO.bind ?_ (fun _ => ?_)
set_option maxHeartbeats 8000000 in
set_option maxRecDepth 100000 in
theorem spec_SignedText.calls (k : Nat) (a0 : Int) (r : ByteArray) (w : World) (h : spec_SignedText.f k a0 = some r) :
  Calls Tryz.prog 121 #[.int .i64 a0] w fun e w' => e = .returned (.string r) ∧ Below w.heap.size w w' := by
 have HB := Aside0.mk (Below.refl w.heap.size w)
 have H : (if a0 < 0 then ((spec_Text.f k (IntKind.u64.wrap ((IntKind.u64.wrap (wrap64 (-(wrap64 (a0 + 1))))) + 1))).bind fun t738 => (if 1 + t738.size ≤ 9223372036854775807 then (some ((⟨#[45]⟩ : ByteArray) ++ t738)) else (none))) else ((spec_Text.f k (IntKind.u64.wrap (a0))).bind fun t739 => (some t739))) = some r := h
 clear h
 by_cases c2 : a0 < 0
 ·rw [if_pos c2] at H
  have c2b0 : decide (a0 < 0) = true := decide_eq_true c2
  clear c2
  replace H := Option.bind_eq_some_iff.mp H
  obtain ⟨t738, A30, H⟩ := H
  replace H : (if 1 + t738.size ≤ 9223372036854775807 then (some ((⟨#[45]⟩ : ByteArray) ++ t738)) else (none)) = some r := H
  have A3 := Aside0.mk A30
  clear A30
  replace H := guard_inv H
  obtain ⟨c4, H⟩ := H
  have c4b0 := eq_true c4
  have c4b1 := decide_eq_true c4
  try have c4b2 := eq_false (Nat.not_lt.2 c4)
  obtain rfl := Option.some.inj H
  go_enter Tryz.func121, Tryz.ntmps121
  go_wp2_with (first | ((with_reducible refine gate_callee (f := 52) rfl ?_); refine goesL_ (some 10) rfl rfl Tryz.func52 (by kernel_rfl) rfl #[.int .u64 (IntKind.u64.wrap ((IntKind.u64.wrap (wrap64 (-(wrap64 (a0 + 1))))) + 1))] rfl (by (try simp only [List.map_toArray, List.map_cons, List.map_nil]); first | done | rfl | (simp only [List.length_drop, List.length_take]; rfl)) ?_; (with_reducible refine (spec_Text.calls k (IntKind.u64.wrap ((IntKind.u64.wrap (wrap64 (-(wrap64 (a0 + 1))))) + 1)) t738 _ A3.out).mono ?_); rintro e w5 ⟨rfl, hb⟩; refine ⟨_, rfl, ?_⟩; have n0_ := Aside0.mk (below_step (by repeat (first | (with_reducible first | exact HB.out | apply below_alloc | apply pw_below_drewN | apply below_drew1) | exact HB.out)) hb); clear HB; have HB := n0_; clear n0_; (try clear hb); (try clear hb2); (try clear hk); (try clear hi)))
  go_ret
  exact ⟨by first | rfl | (simp [errW_none, errW_some] <;> rfl) | (simp [*, errW_none, errW_some] <;> rfl), by repeat (first | (with_reducible first | exact HB.out | apply below_alloc | apply pw_below_drewN | apply below_drew1) | exact HB.out)⟩
 ·rw [if_neg c2] at H
  have c2b0 : decide (a0 < 0) = false := decide_eq_false c2
  clear c2
  replace H := Option.bind_eq_some_iff.mp H
  obtain ⟨t739, A60, H⟩ := H
  replace H : (some t739) = some r := H
  have A6 := Aside0.mk A60
  clear A60
  obtain rfl := Option.some.inj H
  go_enter Tryz.func121, Tryz.ntmps121
  go_wp2_with (first | ((with_reducible refine gate_callee (f := 52) rfl ?_); refine goesL_ (some 14) rfl rfl Tryz.func52 (by kernel_rfl) rfl #[.int .u64 (IntKind.u64.wrap (a0))] rfl (by (try simp only [List.map_toArray, List.map_cons, List.map_nil]); first | done | rfl | (simp only [List.length_drop, List.length_take]; rfl)) ?_; (with_reducible refine (spec_Text.calls k (IntKind.u64.wrap (a0)) t739 _ A6.out).mono ?_); rintro e w7 ⟨rfl, hb⟩; refine ⟨_, rfl, ?_⟩; have n0_ := Aside0.mk (below_step (by repeat (first | (with_reducible first | exact HB.out | apply below_alloc | apply pw_below_drewN | apply below_drew1) | exact HB.out)) hb); clear HB; have HB := n0_; clear n0_; (try clear hb); (try clear hb2); (try clear hk); (try clear hi)))
  go_ret
  exact ⟨by first | rfl | (simp [errW_none, errW_some] <;> rfl) | (simp [*, errW_none, errW_some] <;> rfl), by repeat (first | (with_reducible first | exact HB.out | apply below_alloc | apply pw_below_drewN | apply below_drew1) | exact HB.out)⟩
end Go.Proofs.YtednjmngalmdkaaGreatDoor.GPC
end
section
namespace Go.Proofs.YtednjmngalmdkaaGreatDoor.GPC
open Go.RowKit Go.Proofs.YtednjmngalmdkaaGreatDoorW.PrintWords Go.Proofs.YtednjmngalmdkaaGreatDoorW.PrintLast Go.Proofs.YtednjmngalmdkaaGreatDoorW.PrintMore
attribute [local go_sem] max2_int min2_int max_two min_two max_three min_three max_four min_four   -- for this text's walks alone
set_option linter.unusedVariables false
set_option linter.unusedSimpArgs false

attribute [local go_sem] run_store_float
/-! ### spec_SwapsPrint: function 39 -/
mutual
def spec_SwapsPrint.l0 : Nat → ByteArray → List (S31) → Int → Int → Option (ByteArray × Int)
 | 0, _, _, _, _ => none
 | k + 1, x4, x7, x8, x9 => if x9 < x8 then (if 0 ≤ x9 then (if x9 < (x7.length : Int) then ((spec_Word.f k ((rd_T31 x7 x9).f0)).bind fun t742 => (if t742 = true then ((spec_sized.f ((rd_T31 x7 x9).f0) ((rd_T31 x7 x9).f1) ((rd_T31 x7 x9).f2) 3 1).bind fun t743 => (if t743 = true then ((spec_words.f k ((rd_T31 x7 x9).f2)).bind fun t744 => (if t744 = true then (if 0 < (((rd_T31 x7 x9).f1).length : Int) then (if 1 < (((rd_T31 x7 x9).f1).length : Int) then ((spec_small.f k 4611686018427387904 (([rd ((rd_T31 x7 x9).f1) 0, rd ((rd_T31 x7 x9).f1) 1] : List Int))).bind fun t750 => (spec_SwapsPrint.j1 k x4 x7 x8 x9 (!t750) ((rd_T31 x7 x9).f0) ((rd_T31 x7 x9).f1) ((rd_T31 x7 x9).f2))) else (none)) else (none)) else (spec_SwapsPrint.j1 k x4 x7 x8 x9 true ((rd_T31 x7 x9).f0) ((rd_T31 x7 x9).f1) ((rd_T31 x7 x9).f2)))) else (spec_SwapsPrint.j1 k x4 x7 x8 x9 true ((rd_T31 x7 x9).f0) ((rd_T31 x7 x9).f1) ((rd_T31 x7 x9).f2)))) else (spec_SwapsPrint.j1 k x4 x7 x8 x9 true ((rd_T31 x7 x9).f0) ((rd_T31 x7 x9).f1) ((rd_T31 x7 x9).f2)))) else (none)) else (none)) else (some (x4, 1))
def spec_SwapsPrint.j1 : Nat → ByteArray → List (S31) → Int → Int → Bool → ByteArray → List Int → List ByteArray → Option (ByteArray × Int)
 | 0, _, _, _, _, _, _, _, _ => none
 | k + 1, x4, x7, x8, x9, x40, x742000, x742001, x742002 => if x40 = true then (some ((⟨#[]⟩ : ByteArray), 2)) else ((spec_Left.f k x742000 39).bind fun t751 => (if t751.size + 1 ≤ 9223372036854775807 then (if 0 < (x742002.length : Int) then ((spec_Left.f k (rdOf ByteArray.empty x742002 0) 15).bind fun t753 => (if (t751 ++ (⟨#[32]⟩ : ByteArray)).size + t753.size ≤ 9223372036854775807 then (if ((t751 ++ (⟨#[32]⟩ : ByteArray)) ++ t753).size + 1 ≤ 9223372036854775807 then (if 0 < (x742001.length : Int) then ((spec_Text.f k (rd x742001 0)).bind fun t755 => (if (((t751 ++ (⟨#[32]⟩ : ByteArray)) ++ t753) ++ (⟨#[32]⟩ : ByteArray)).size + t755.size ≤ 9223372036854775807 then (if ((((t751 ++ (⟨#[32]⟩ : ByteArray)) ++ t753) ++ (⟨#[32]⟩ : ByteArray)) ++ t755).size + 1 ≤ 9223372036854775807 then (if 1 < (x742001.length : Int) then ((spec_Text.f k (rd x742001 1)).bind fun t757 => (if (((((t751 ++ (⟨#[32]⟩ : ByteArray)) ++ t753) ++ (⟨#[32]⟩ : ByteArray)) ++ t755) ++ (⟨#[9]⟩ : ByteArray)).size + t757.size ≤ 9223372036854775807 then (if ((((((t751 ++ (⟨#[32]⟩ : ByteArray)) ++ t753) ++ (⟨#[32]⟩ : ByteArray)) ++ t755) ++ (⟨#[9]⟩ : ByteArray)) ++ t757).size + 1 ≤ 9223372036854775807 then (if 2 < (x742001.length : Int) then ((spec_SignedText.f k (wrap64 (rd x742001 2))).bind fun t759 => (if (((((((t751 ++ (⟨#[32]⟩ : ByteArray)) ++ t753) ++ (⟨#[32]⟩ : ByteArray)) ++ t755) ++ (⟨#[9]⟩ : ByteArray)) ++ t757) ++ (⟨#[9]⟩ : ByteArray)).size + t759.size ≤ 9223372036854775807 then (if ((((((((t751 ++ (⟨#[32]⟩ : ByteArray)) ++ t753) ++ (⟨#[32]⟩ : ByteArray)) ++ t755) ++ (⟨#[9]⟩ : ByteArray)) ++ t757) ++ (⟨#[9]⟩ : ByteArray)) ++ t759).size + 1 ≤ 9223372036854775807 then (if x4.size + (((((((((t751 ++ (⟨#[32]⟩ : ByteArray)) ++ t753) ++ (⟨#[32]⟩ : ByteArray)) ++ t755) ++ (⟨#[9]⟩ : ByteArray)) ++ t757) ++ (⟨#[9]⟩ : ByteArray)) ++ t759) ++ (⟨#[10]⟩ : ByteArray)).size ≤ 9223372036854775807 then (spec_SwapsPrint.l0 k (x4 ++ (((((((((t751 ++ (⟨#[32]⟩ : ByteArray)) ++ t753) ++ (⟨#[32]⟩ : ByteArray)) ++ t755) ++ (⟨#[9]⟩ : ByteArray)) ++ t757) ++ (⟨#[9]⟩ : ByteArray)) ++ t759) ++ (⟨#[10]⟩ : ByteArray))) x7 x8 (wrap64 (x9 + 1))) else (none)) else (none)) else (none))) else (none)) else (none)) else (none))) else (none)) else (none)) else (none))) else (none)) else (none)) else (none))) else (none)) else (none)))
end
def spec_SwapsPrint.f (k : Nat) (l0 : List (S31)) : Option (ByteArray × Int) := spec_SwapsPrint.l0 k (⟨#[70, 105, 108, 101, 110, 97, 109, 101, 9, 9, 9, 9, 84, 121, 112, 101, 9, 9, 83, 105, 122, 101, 9, 85, 115, 101, 100, 9, 80, 114, 105, 111, 114, 105, 116, 121, 10]⟩ : ByteArray) l0 (l0.length : Int) 0
theorem spec_SwapsPrint.mono_l : ∀ k, (∀ y0 y1 y2 y3, LeO (spec_SwapsPrint.l0 k y0 y1 y2 y3) (spec_SwapsPrint.l0 (k + 1) y0 y1 y2 y3)) ∧ (∀ y0 y1 y2 y3 y4 y5 y6 y7, LeO (spec_SwapsPrint.j1 k y0 y1 y2 y3 y4 y5 y6 y7) (spec_SwapsPrint.j1 (k + 1) y0 y1 y2 y3 y4 y5 y6 y7))
 | 0 => ⟨fun _ _ _ _ r h => by simp [spec_SwapsPrint.l0] at h, fun _ _ _ _ _ _ _ _ r h => by simp [spec_SwapsPrint.j1] at h⟩
 | k + 1 => by
  obtain ⟨ih0, ih1⟩ := spec_SwapsPrint.mono_l k
  refine ⟨?_, ?_⟩
  ·intro y0 y1 y2 y3
   unfold spec_SwapsPrint.l0
   repeat' first
   | (with_reducible exact ih0 _ _ _ _)
   | (with_reducible exact ih1 _ _ _ _ _ _ _ _)
   | (with_reducible exact spec_Left.mono _ _ _)
   | (with_reducible exact spec_SignedText.mono _ _)
   | (with_reducible exact spec_Text.mono _ _)
   | (with_reducible exact spec_Word.mono _ _)
   | (with_reducible exact spec_small.mono _ _ _)
   | (with_reducible exact spec_words.mono _ _)
   | (with_reducible exact LeO.refl _)
   | (with_reducible exact LeO.none _)
   | (with_reducible refine LeO.ite ?_ ?_)
   | (with_reducible refine LeO.bind ?_ (fun _ => ?_))
   | exact ih0 _ _ _ _
   | exact ih1 _ _ _ _ _ _ _ _
   | exact spec_Left.mono _ _ _
   | exact spec_SignedText.mono _ _
   | exact spec_Text.mono _ _
   | exact spec_Word.mono _ _
   | exact spec_small.mono _ _ _
   | exact spec_words.mono _ _
   | exact LeO.none _
   | refine LeO.ite ?_ ?_
   | refine LeO.bind ?_ (fun _ => ?_)
  ·intro y0 y1 y2 y3 y4 y5 y6 y7
   unfold spec_SwapsPrint.j1
   repeat' first
   | (with_reducible exact ih0 _ _ _ _)
   | (with_reducible exact ih1 _ _ _ _ _ _ _ _)
   | (with_reducible exact spec_Left.mono _ _ _)
   | (with_reducible exact spec_SignedText.mono _ _)
   | (with_reducible exact spec_Text.mono _ _)
   | (with_reducible exact spec_Word.mono _ _)
   | (with_reducible exact spec_small.mono _ _ _)
   | (with_reducible exact spec_words.mono _ _)
   | (with_reducible exact LeO.refl _)
   | (with_reducible exact LeO.none _)
   | (with_reducible refine LeO.ite ?_ ?_)
   | (with_reducible refine LeO.bind ?_ (fun _ => ?_))
   | exact ih0 _ _ _ _
   | exact ih1 _ _ _ _ _ _ _ _
   | exact spec_Left.mono _ _ _
   | exact spec_SignedText.mono _ _
   | exact spec_Text.mono _ _
   | exact spec_Word.mono _ _
   | exact spec_small.mono _ _ _
   | exact spec_words.mono _ _
   | exact LeO.none _
   | refine LeO.ite ?_ ?_
   | refine LeO.bind ?_ (fun _ => ?_)
theorem spec_SwapsPrint.mono : ∀ a0 k, LeO (spec_SwapsPrint.f k a0) (spec_SwapsPrint.f (k + 1) a0) := by
 intro a0 k
 obtain ⟨ih0, ih1⟩ := spec_SwapsPrint.mono_l k
 unfold spec_SwapsPrint.f
 repeat' first
   | (with_reducible exact ih0 _ _ _ _)
   | (with_reducible exact ih1 _ _ _ _ _ _ _ _)
   | (with_reducible exact spec_Left.mono _ _ _)
   | (with_reducible exact spec_SignedText.mono _ _)
   | (with_reducible exact spec_Text.mono _ _)
   | (with_reducible exact spec_Word.mono _ _)
   | (with_reducible exact spec_small.mono _ _ _)
   | (with_reducible exact spec_words.mono _ _)
   | (with_reducible exact LeO.refl _)
   | (with_reducible exact LeO.none _)
   | (with_reducible refine LeO.ite ?_ ?_)
   | (with_reducible refine LeO.bind ?_ (fun _ => ?_))
   | exact ih0 _ _ _ _
   | exact ih1 _ _ _ _ _ _ _ _
   | exact spec_Left.mono _ _ _
   | exact spec_SignedText.mono _ _
   | exact spec_Text.mono _ _
   | exact spec_Word.mono _ _
   | exact spec_small.mono _ _ _
   | exact spec_words.mono _ _
   | exact LeO.none _
   | refine LeO.ite ?_ ?_
   | refine LeO.bind ?_ (fun _ => ?_)
def spec_SwapsPrint.T5 : Bool × List (List Nat × List Nat) := (true, [([], []), ([0], [0]), ([1], [1]), ([2], [2]), ([3, 2], [3]), ([4], [4]), ([5, 4, 4], [4, 5]), ([6, 4], [4, 6]), ([4, 7], [4, 7]), ([8, 6], [8]), ([9], [9]), ([10, 9], [9, 10]), ([11, 9, 9], [9, 11]), ([12, 9], [9, 12]), ([9, 13], [9, 13]), ([14, 12], [14]), ([15], [15]), ([16, 15], [15, 16]), ([17, 15], [15, 17]), ([18, 15], [15, 18]), ([15], [15]), ([20, 15], [15, 20]), ([21, 15], [15, 21]), ([22, 15], [15, 22]), ([19, 23, 15], [15, 19, 23]), ([24, 15, 15], [15, 24]), ([25, 15], [15, 25]), ([15, 26], [15, 26])])
def spec_SwapsPrint.B5 : List Nat := [0, 1, 3, 7, 15, 31, 63, 127, 255, 511, 1023, 2047, 4095, 8191, 16383, 32767, 65535, 131071, 262143, 524287, 65535, 1114111, 3211263, 7405567, 16777215, 33554431, 67108863, 134217727]
theorem spec_SwapsPrint.tab5 : rtab .any (opsOf Tryz.f39 5) = spec_SwapsPrint.T5 := by kernel_rfl
theorem spec_SwapsPrint.bits5 : waitsOk spec_SwapsPrint.T5.2 spec_SwapsPrint.B5 = true := by kernel_rfl
def spec_SwapsPrint.T7 : Bool × List (List Nat × List Nat) := (true, [([], []), ([], []), ([1], [1]), ([2], [2]), ([3], [3]), ([], []), ([5], [5]), ([6], [6]), ([7], [7]), ([8, 3], [8]), ([4, 9], [4, 9]), ([10], [10]), ([], []), ([12], [12]), ([13], [13]), ([14], [14]), ([15, 9], [15]), ([11, 16], [11, 16]), ([17], [17]), ([], []), ([19], [19]), ([20], [20]), ([21], [21]), ([22, 16], [22]), ([18, 23], [18, 23]), ([24], [24]), ([], []), ([26], [26]), ([27], [27]), ([28], [28]), ([29], [29]), ([30, 23], [30]), ([25, 31], [25, 31]), ([32], [32]), ([0, 33], [0, 33]), ([34, 31, 0, 1, 2, 3, 4, 5, 6, 7, 8, 9, 10, 11, 12, 13, 14, 15, 16, 17, 18, 19, 20, 21, 22, 23, 24, 25, 26, 27, 28, 29, 30, 31, 32, 33, 34], [0, 34])])
def spec_SwapsPrint.B7 : List Nat := [0, 0, 2, 6, 14, 0, 32, 96, 224, 494, 1022, 2046, 0, 4096, 12288, 28672, 62446, 131070, 262142, 0, 524288, 1572864, 3670016, 7992302, 16777214, 33554430, 0, 67108864, 201326592, 469762048, 1006632960, 2096755694, 4294967294, 8589934590, 17179869183, 34359738367]
theorem spec_SwapsPrint.tab7 : rtab .any (opsOf Tryz.f39 7) = spec_SwapsPrint.T7 := by kernel_rfl
theorem spec_SwapsPrint.bits7 : waitsOk spec_SwapsPrint.T7.2 spec_SwapsPrint.B7 = true := by kernel_rfl
set_option maxHeartbeats 8000000 in
set_option maxRecDepth 100000 in
theorem spec_SwapsPrint.calls (k : Nat) (A0 : Option Addr) (c0 : Nat) (l0 : List (S31)) (r1 : ByteArray) (r2 : Int) (w : World) (hr0 : Kd.C k31 w A0 l0.length l0) (hc0 : l0.length ≤ c0) (h : spec_SwapsPrint.f k l0 = some (r1, r2)) :
  Calls Tryz.prog 39 #[.slice A0 l0.length c0] w fun e w' => e = .returned (.tuple #[.string r1, .int .i64 r2]) ∧ Below w.heap.size w w' := by
 have hu31 := Tryz.underlying31
 have HR0 := Aside0.mk hr0
 have HC0 := Aside0.mk hc0
 clear hr0 hc0
 have HB := Aside0.mk (Below.refl w.heap.size w)
 have H : (spec_SwapsPrint.l0 k (⟨#[70, 105, 108, 101, 110, 97, 109, 101, 9, 9, 9, 9, 84, 121, 112, 101, 9, 9, 83, 105, 122, 101, 9, 85, 115, 101, 100, 9, 80, 114, 105, 111, 114, 105, 116, 121, 10]⟩ : ByteArray) l0 (l0.length : Int) 0) = some (r1, r2) := h
 clear h
 have H' := Aside0.mk H
 clear H
 go_enter Tryz.func39, Tryz.ntmps39
 go_wp2
 go_loopg [4, 9] k (fun kq v4 v9 w' => ∃ (x4_1 : ByteArray) (x9_1 : Int), v4 = .string x4_1 ∧ v9 = .int .i64 x9_1 ∧ Aside0 (spec_SwapsPrint.l0 kq x4_1 l0 (l0.length : Int) x9_1 = some (r1, r2)) ∧ Aside0 (kq ≤ k) ∧ Aside0 (Below w.heap.size w w'))
 case atStart => exact ⟨((⟨#[70, 105, 108, 101, 110, 97, 109, 101, 9, 9, 9, 9, 84, 121, 112, 101, 9, 9, 83, 105, 122, 101, 9, 85, 115, 101, 100, 9, 80, 114, 105, 111, 114, 105, 116, 121, 10]⟩ : ByteArray)), (0), (by first | rfl | (simp; done) | (simp [*]; done)), (by first | rfl | (simp; done) | (simp [*]; done)), H', ⟨Nat.le_refl _⟩, ⟨by repeat (first | (with_reducible first | exact HB.out | apply below_alloc | apply pw_below_drewN | apply below_drew1) | exact HB.out)⟩⟩
 case round =>
  clear H'
  obtain ⟨x4_1, x9_1, rfl, rfl, HA, HK1, HB⟩ := hrel
  cases gk with
  | zero => exact absurd HA.out (by simp [spec_SwapsPrint.l0])
  | succ k1 =>
   have H := HA.out
   clear HA
   simp only [spec_SwapsPrint.l0] at H
   by_cases c2 : x9_1 < (l0.length : Int)
   ·rw [if_pos c2] at H
    have c2b0 : decide (x9_1 < (l0.length : Int)) = true := decide_eq_true c2
    clear c2
    replace H := guard_inv H
    obtain ⟨c3, H⟩ := H
    have c3b0 : decide (0 ≤ x9_1) = true := decide_eq_true c3
    clear c3
    replace H := guard_inv H
    obtain ⟨c4, H⟩ := H
    have c4b0 : decide (x9_1 < (l0.length : Int)) = true := decide_eq_true c4
    clear c4
    have HC5 := Aside0.mk H
    clear H
    have p740 : 0 ≤ (x9_1 : Int) := of_decide_eq_true (by first | (with_reducible assumption) | assumption)
    have q740 : x9_1 < (l0.length : Int) := of_decide_eq_true (by first | (with_reducible assumption) | assumption)
    obtain ⟨ad740, A740_1, c740_1, A740_2, c740_2, e740, hx740_0, hx740_1, hx740_2, hl740_1, hi740_1, hl740_2, hi740_2⟩ := at_T31 HR0.out x9_1 p740 q740
    cases e740
    replace hx740_0 := (HB.out.cell (World.block_lt_of_cell? w _ hx740_0)).trans hx740_0
    replace hx740_1 := (HB.out.cell (World.block_lt_of_cell? w _ hx740_1)).trans hx740_1
    replace hx740_2 := (HB.out.cell (World.block_lt_of_cell? w _ hx740_2)).trans hx740_2
    have HR740_1 := Aside0.mk hi740_1
    have HC740_1 := Aside0.mk hl740_1
    clear hi740_1 hl740_1
    have HR740_2 := Aside0.mk hi740_2
    have HC740_2 := Aside0.mk hl740_2
    clear hi740_2 hl740_2
    replace p740 := eq_true p740
    replace q740 := eq_true q740
    go_upto_region 5 with (first | ((with_reducible refine gate_dst (N := 6) rfl ?_); (try (refine gate_guard (by rfl) ?_; dsimp only)); refine box_event ?hg (N := 6) ?hd (cs := #[.string (⟨#[]⟩ : ByteArray), .slice none 0 0, .slice none 0 0]) (t := 31) ?hr ?_; (case hd => rfl); (case hg => rfl); (case hr => first | (go_simp; done) | (go_simp; rfl)); intro gb741 hg w6 hbox hb; have n0_ := Aside0.mk (below_step (by repeat (first | (with_reducible first | exact HB.out | apply below_alloc | apply pw_below_drewN | apply below_drew1) | exact HB.out)) hb); have n1_ := Aside0.mk (hbox); have n2_ := Aside0.mk ((by rw [hg]; exact (below_size (by repeat (first | (with_reducible first | exact HB.out | apply below_alloc | apply pw_below_drewN | apply below_drew1) | exact HB.out))) : w.heap.size ≤ gb741)); have n3_ := Aside0.mk ((by rw [hg]; exact (below_size (by repeat (first | (with_reducible first | exact HB.out | apply below_alloc | apply pw_below_drewN | apply below_drew1) | exact HB.out))) : w.heap.size ≤ gb741)); clear HB; have HB := n0_; have BK741 := n1_; have GW741 := n2_; have GE741 := n3_; clear n0_ n1_ n2_ n3_; clear hb hbox hg; have hcz7_0 : w6.cell? ⟨gb741, 0, none⟩ = some (.string (⟨#[]⟩ : ByteArray)) := (blk_cell BK741.out 0).trans rfl; have hcz7_1 : w6.cell? ⟨gb741, 1, none⟩ = some (.slice none 0 0) := (blk_cell BK741.out 1).trans rfl; have hcz7_2 : w6.cell? ⟨gb741, 2, none⟩ = some (.slice none 0 0) := (blk_cell BK741.out 2).trans rfl; have hfz7_0 := blk_frozen BK741.out 0; have hfz7_1 := blk_frozen BK741.out 1; have hfz7_2 := blk_frozen BK741.out 2))
    (try simp only [Act.put, List.setIfInBounds_toArray, List.set_cons_zero, List.set_cons_succ])
    go_cut [40] (fun v40 wc => ∃ (kq : Nat) (x40_4 : Bool), v40 = .bool x40_4 ∧ Aside0 (spec_SwapsPrint.j1 kq x4_1 l0 (l0.length : Int) x9_1 x40_4 ((rd_T31 l0 x9_1).f0) ((rd_T31 l0 x9_1).f1) ((rd_T31 l0 x9_1).f2) = some (r1, r2)) ∧ Aside0 (kq ≤ k1) ∧ Aside0 (wc.heap[gb741]? = some (.cells #[.string ((rd_T31 l0 x9_1).f0), (.slice A740_1 ((rd_T31 l0 x9_1).f1).length c740_1), (.slice A740_2 ((rd_T31 l0 x9_1).f2).length c740_2)] 31 (0, 0))) ∧ Aside0 (Below w.heap.size w wc))
    case first =>
     have H := HC5.out
     clear HC5
     replace H := Option.bind_eq_some_iff.mp H
     obtain ⟨t742, A80, H⟩ := H
     try dsimp -simprocs only at H
     have A8 := Aside0.mk A80
     clear A80
     by_cases c9 : t742 = true
     ·subst c9
      have H1 : ((spec_sized.f ((rd_T31 l0 x9_1).f0) ((rd_T31 l0 x9_1).f1) ((rd_T31 l0 x9_1).f2) 3 1).bind fun t743 => (if t743 = true then ((spec_words.f k1 ((rd_T31 l0 x9_1).f2)).bind fun t744 => (if t744 = true then (if 0 < (((rd_T31 l0 x9_1).f1).length : Int) then (if 1 < (((rd_T31 l0 x9_1).f1).length : Int) then ((spec_small.f k1 4611686018427387904 (([rd ((rd_T31 l0 x9_1).f1) 0, rd ((rd_T31 l0 x9_1).f1) 1] : List Int))).bind fun t750 => (spec_SwapsPrint.j1 k1 x4_1 l0 (l0.length : Int) x9_1 (!t750) ((rd_T31 l0 x9_1).f0) ((rd_T31 l0 x9_1).f1) ((rd_T31 l0 x9_1).f2))) else (none)) else (none)) else (spec_SwapsPrint.j1 k1 x4_1 l0 (l0.length : Int) x9_1 true ((rd_T31 l0 x9_1).f0) ((rd_T31 l0 x9_1).f1) ((rd_T31 l0 x9_1).f2)))) else (spec_SwapsPrint.j1 k1 x4_1 l0 (l0.length : Int) x9_1 true ((rd_T31 l0 x9_1).f0) ((rd_T31 l0 x9_1).f1) ((rd_T31 l0 x9_1).f2)))) = some (r1, r2) := by rw [if_pos rfl] at H; exact H
      clear H
      have H := H1
      clear H1
      replace H := Option.bind_eq_some_iff.mp H
      obtain ⟨t743, A100, H⟩ := H
      try dsimp -simprocs only at H
      have A10 := Aside0.mk A100
      clear A100
      by_cases c11 : t743 = true
      ·subst c11
       have H1 : ((spec_words.f k1 ((rd_T31 l0 x9_1).f2)).bind fun t744 => (if t744 = true then (if 0 < (((rd_T31 l0 x9_1).f1).length : Int) then (if 1 < (((rd_T31 l0 x9_1).f1).length : Int) then ((spec_small.f k1 4611686018427387904 (([rd ((rd_T31 l0 x9_1).f1) 0, rd ((rd_T31 l0 x9_1).f1) 1] : List Int))).bind fun t750 => (spec_SwapsPrint.j1 k1 x4_1 l0 (l0.length : Int) x9_1 (!t750) ((rd_T31 l0 x9_1).f0) ((rd_T31 l0 x9_1).f1) ((rd_T31 l0 x9_1).f2))) else (none)) else (none)) else (spec_SwapsPrint.j1 k1 x4_1 l0 (l0.length : Int) x9_1 true ((rd_T31 l0 x9_1).f0) ((rd_T31 l0 x9_1).f1) ((rd_T31 l0 x9_1).f2)))) = some (r1, r2) := by rw [if_pos rfl] at H; exact H
       clear H
       have H := H1
       clear H1
       replace H := Option.bind_eq_some_iff.mp H
       obtain ⟨t744, A120, H⟩ := H
       try dsimp -simprocs only at H
       have A12 := Aside0.mk A120
       clear A120
       by_cases c13 : t744 = true
       ·subst c13
        have H1 : (if 0 < (((rd_T31 l0 x9_1).f1).length : Int) then (if 1 < (((rd_T31 l0 x9_1).f1).length : Int) then ((spec_small.f k1 4611686018427387904 (([rd ((rd_T31 l0 x9_1).f1) 0, rd ((rd_T31 l0 x9_1).f1) 1] : List Int))).bind fun t750 => (spec_SwapsPrint.j1 k1 x4_1 l0 (l0.length : Int) x9_1 (!t750) ((rd_T31 l0 x9_1).f0) ((rd_T31 l0 x9_1).f1) ((rd_T31 l0 x9_1).f2))) else (none)) else (none)) = some (r1, r2) := by rw [if_pos rfl] at H; exact H
        clear H
        have H := H1
        clear H1
        replace H := guard_inv H
        obtain ⟨c14, H⟩ := H
        have c14b0 : decide (0 < (((rd_T31 l0 x9_1).f1).length : Int)) = true := decide_eq_true c14
        have c14b1 : decide (0 < ((rd_T31 l0 x9_1).f1).length) = true := decide_eq_true (by omega)
        clear c14
        (first | rw [c14b0] | (simp only [i64_w, i32_w]; rw [c14b0]) | skip)
        replace H := guard_inv H
        obtain ⟨c15, H⟩ := H
        have c15b0 : decide (1 < (((rd_T31 l0 x9_1).f1).length : Int)) = true := decide_eq_true c15
        have c15b1 : decide (1 < ((rd_T31 l0 x9_1).f1).length) = true := decide_eq_true (by omega)
        clear c15
        obtain ⟨y747, hy747⟩ : ∃ y_ : List Int, y_ = (([rd ((rd_T31 l0 x9_1).f1) 0, rd ((rd_T31 l0 x9_1).f1) 1] : List Int)) := ⟨_, rfl⟩
        replace H : ((spec_small.f k1 4611686018427387904 y747).bind fun t750 => (spec_SwapsPrint.j1 k1 x4_1 l0 (l0.length : Int) x9_1 (!t750) ((rd_T31 l0 x9_1).f0) ((rd_T31 l0 x9_1).f1) ((rd_T31 l0 x9_1).f2))) = some (r1, r2) := by first | (rw [hy747]; with_reducible exact H) | (have H2_ := (Option.bind_some _ _).symm.trans H; rw [hy747]; with_reducible exact H2_) | (have H2_ := (Option.bind_some _ _).symm.trans H; with_reducible exact H2_) | with_reducible exact H | (rw [hy747]; exact H) | exact H
        have Ny747 := Aside0.mk hy747
        clear hy747
        replace H := Option.bind_eq_some_iff.mp H
        obtain ⟨t750, A160, H⟩ := H
        replace H : (spec_SwapsPrint.j1 k1 x4_1 l0 (l0.length : Int) x9_1 (!t750) ((rd_T31 l0 x9_1).f0) ((rd_T31 l0 x9_1).f1) ((rd_T31 l0 x9_1).f2)) = some (r1, r2) := H
        have A16 := Aside0.mk A160
        clear A160
        have H' := Aside0.mk H
        clear H
        try go_wp2
        have n0_ : Aside0 ((((w6.setCell ⟨gb741, 0, none⟩ (.string ((rd_T31 l0 x9_1).f0))).setCell ⟨gb741, 1, none⟩ (.slice A740_1 ((rd_T31 l0 x9_1).f1).length c740_1)).setCell ⟨gb741, 2, none⟩ (.slice A740_2 ((rd_T31 l0 x9_1).f2).length c740_2)).heap[gb741]? = some (.cells #[.string ((rd_T31 l0 x9_1).f0), .slice A740_1 ((rd_T31 l0 x9_1).f1).length c740_1, .slice A740_2 ((rd_T31 l0 x9_1).f2).length c740_2] 31 (0, 0))) := ⟨by (with_reducible repeat (first | refine blk_drewN ?_ _ | refine blk_drew ?_ | refine blk_alloc ?_ _)); refine blk_put (cs := #[.string ((rd_T31 l0 x9_1).f0), .slice A740_1 ((rd_T31 l0 x9_1).f1).length c740_1, .slice none 0 0]) ?_ 2 _ rfl; (with_reducible repeat (first | refine blk_drewN ?_ _ | refine blk_drew ?_ | refine blk_alloc ?_ _)); refine blk_put (cs := #[.string ((rd_T31 l0 x9_1).f0), .slice none 0 0, .slice none 0 0]) ?_ 1 _ rfl; (with_reducible repeat (first | refine blk_drewN ?_ _ | refine blk_drew ?_ | refine blk_alloc ?_ _)); refine blk_put (cs := #[.string (⟨#[]⟩ : ByteArray), .slice none 0 0, .slice none 0 0]) ?_ 0 _ rfl; (with_reducible repeat (first | refine blk_drewN ?_ _ | refine blk_drew ?_ | refine blk_alloc ?_ _)); exact BK741.out⟩
        have n1_ : Aside0 (Below w.heap.size w (((w6.setCell ⟨gb741, 0, none⟩ (.string ((rd_T31 l0 x9_1).f0))).setCell ⟨gb741, 1, none⟩ (.slice A740_1 ((rd_T31 l0 x9_1).f1).length c740_1)).setCell ⟨gb741, 2, none⟩ (.slice A740_2 ((rd_T31 l0 x9_1).f2).length c740_2))) := ⟨by repeat (first | (with_reducible first | exact HB.out | apply below_alloc | apply pw_below_drewN | apply below_drew1 | refine below_set ?_ GE741.out) | exact HB.out)⟩
        (try clear BK741)
        (try clear HB)
        generalize (((w6.setCell ⟨gb741, 0, none⟩ (.string ((rd_T31 l0 x9_1).f0))).setCell ⟨gb741, 1, none⟩ (.slice A740_1 ((rd_T31 l0 x9_1).f1).length c740_1)).setCell ⟨gb741, 2, none⟩ (.slice A740_2 ((rd_T31 l0 x9_1).f2).length c740_2)) = w17 at n0_ n1_ ⊢
        have BK741 := n0_
        have HB := n1_
        clear n0_ n1_
        have n0_ := Aside0.mk (blk_drew BK741.out)
        have n1_ := Aside0.mk (below_drew1 HB.out)
        clear BK741
        clear HB
        have BK741 := n0_
        have HB := n1_
        clear n0_ n1_
        have p745 : 0 ≤ (0 : Int) := (by omega)
        have q745 : 0 < (((rd_T31 l0 x9_1).f1).length : Int) := of_decide_eq_true (by first | (with_reducible assumption) | assumption)
        obtain ⟨ad745, e745, hx745_0⟩ := Kd.at_int HR740_1.out 0 p745 q745
        have hw745_0 := hx745_0
        (try rw [show ((0 : Int)).toNat = 0 from rfl] at hw745_0)
        (try rw [show 0 * 1 = 0 from rfl] at hw745_0)
        (try rw [Addr.add_zero'] at hw745_0)
        cases e745
        have qi745 : (0 < ((rd_T31 l0 x9_1).f1).length) = True := eq_true (by omega)
        (try rw [show ((0 : Int)).toNat = 0 from rfl] at hx745_0)
        (try rw [Addr.add_zero'] at hx745_0)
        replace hx745_0 := (HB.out.cell (World.block_lt_of_cell? w _ hx745_0)).trans hx745_0
        replace p745 := eq_true p745
        replace q745 := eq_true q745
        have p746 : 0 ≤ (1 : Int) := (by omega)
        have q746 : 1 < (((rd_T31 l0 x9_1).f1).length : Int) := of_decide_eq_true (by first | (with_reducible assumption) | assumption)
        obtain ⟨ad746, e746, hx746_0⟩ := Kd.at_int HR740_1.out 1 p746 q746
        have hw746_0 := hx746_0
        (try rw [show ((1 : Int)).toNat = 1 from rfl] at hw746_0)
        (try rw [show 1 * 1 = 1 from rfl] at hw746_0)
        (try simp only [Nat.reduceMul, Nat.reduceEqDiff, Go.Addr.add, ↓reduceIte] at hw746_0)
        obtain rfl : ad745 = ad746 := (by injection e746)
        (try simp only [show (1 : Int).toNat = 1 from rfl, Nat.reduceMul, Nat.reduceEqDiff, Go.Addr.add, ↓reduceIte] at hx746_0)
        have qi746 : (1 < ((rd_T31 l0 x9_1).f1).length) = True := eq_true (by omega)
        (try rw [show ((1 : Int)).toNat = 1 from rfl] at hx746_0)
        replace hx746_0 := (HB.out.cell (World.block_lt_of_cell? w _ hx746_0)).trans hx746_0
        replace p746 := eq_true p746
        replace q746 := eq_true q746
        refine start_ (n := 28) (S := fun w' => w'.cell? ⟨gb741, 0, none⟩ = some (.string ((rd_T31 l0 x9_1).f0)) ∧ w'.cell? ⟨gb741, 1, none⟩ = some (.slice (some ad745) ((rd_T31 l0 x9_1).f1).length c740_1) ∧ w'.cell? ⟨gb741, 2, none⟩ = some (.slice A740_2 ((rd_T31 l0 x9_1).f2).length c740_2) ∧ w'.cell? ad745 = some (.int .u64 (rd ((rd_T31 l0 x9_1).f1) 0)) ∧ w'.cell? ⟨ad745.block, ad745.off + 1, none⟩ = some (.int .u64 (rd ((rd_T31 l0 x9_1).f1) 1))) (ds := []) (bb [0, 28]) (by kernel_rfl) rfl rfl ⟨(blk_cell BK741.out 0).trans rfl, (blk_cell BK741.out 1).trans rfl, (blk_cell BK741.out 2).trans rfl, ((HB.out.cell (World.block_lt_of_cell? w _ hw745_0)).trans hw745_0), ((HB.out.cell (World.block_lt_of_cell? w _ hw746_0)).trans hw746_0)⟩ (fun hHeld => ?_); refine with_tabW spec_SwapsPrint.tab5 spec_SwapsPrint.bits5 (fun HT_ HW_ => ?_)
        generalize w17.drew = w18 at BK741 HB hx745_0 hx746_0 hHeld ⊢
        refine pure_ (i := 0) (N := some 13) (v := ?_) (a' := ?_) (bb [1, 27]) rfl rfl (any_of HT_.out (by kernel_rfl)) (fun _ _ _ h => h) (Or.inl ⟨by rfl, ?_⟩) ?_ ?_
        rotate_left
        ·intro w'
         go_simp
         with_reducible rfl
        rotate_left
        ·simp only [Act.put, List.setIfInBounds_toArray, List.set_cons_zero, List.set_cons_succ, i64_w, i32_w]
         rfl
        refine take_ (i := 1) (N := some 14) (v := ?_) (a' := ?_) (bb [2, 26]) rfl rfl (take_ofW HT_.out HW_.out (by kernel_rfl)) (fun _ _ _ h => h) (Or.inl ⟨by rfl, ?_⟩) hHeld ?_ ?_
        rotate_left
        ·rintro w' ⟨s0, s1, s2, s3, s4⟩
         go_simp
         with_reducible rfl
        rotate_left
        ·simp only [Act.put, List.setIfInBounds_toArray, List.set_cons_zero, List.set_cons_succ, i64_w, i32_w]
         rfl
        refine one_ (i := 2) (N := some 15) (bb [3, 25]) rfl rfl (one_of HT_.out (by kernel_rfl)) (by decide) (fun K hK => ?_)
        refine goes_ Tryz.func120 (by kernel_rfl) rfl #[.string ((rd_T31 l0 x9_1).f0)] (by rfl) rfl rfl (by (try simp only [List.map_toArray, List.map_cons, List.map_nil]); first | done | rfl | (simp only [List.length_drop, List.length_take]; rfl)) ?_
        with_reducible refine (spec_Word.calls k1 ((rd_T31 l0 x9_1).f0) true _ A8.out).mono ?_
        rintro e w' ⟨rfl, ⟨nd, rfl⟩⟩
        refine ⟨_, rfl, ?_⟩
        refine hK.out _ _ ⟨(blk_cell BK741.out 0).trans rfl, (blk_cell BK741.out 1).trans rfl, (blk_cell BK741.out 2).trans rfl, ((HB.out.cell (World.block_lt_of_cell? w _ hw745_0)).trans hw745_0), ((HB.out.cell (World.block_lt_of_cell? w _ hw746_0)).trans hw746_0)⟩ (fun hHeld => ?_)
        clear hK K
        refine norm_ (a' := ?_) ?_ ?_
        rotate_left
        ·show Act.put _ (some 15) _ = _
         simp only [Act.put, List.setIfInBounds_toArray, List.set_cons_zero, List.set_cons_succ, i64_w, i32_w]
         rfl
        refine pure_ (i := 3) (N := some 16) (v := ?_) (a' := ?_) (bb [4, 24]) rfl rfl (any_of HT_.out (by kernel_rfl)) (fun _ _ _ h => h) (Or.inl ⟨by rfl, ?_⟩) ?_ ?_
        rotate_left
        ·intro w'
         go_simp
         with_reducible rfl
        rotate_left
        ·simp only [Act.put, List.setIfInBounds_toArray, List.set_cons_zero, List.set_cons_succ, i64_w, i32_w]
         rfl
        refine pure_ (i := 4) (N := some 17) (v := ?_) (a' := ?_) (bb [5, 23]) rfl rfl (any_of HT_.out (by kernel_rfl)) (fun _ _ _ h => h) (Or.inl ⟨by rfl, ?_⟩) ?_ ?_
        rotate_left
        ·intro w'
         go_simp
         with_reducible rfl
        rotate_left
        ·simp only [Act.put, List.setIfInBounds_toArray, List.set_cons_zero, List.set_cons_succ, i64_w, i32_w]
         rfl
        refine take_ (i := 5) (N := some 18) (v := ?_) (a' := ?_) (bb [6, 22]) rfl rfl (take_ofW HT_.out HW_.out (by kernel_rfl)) (fun _ _ _ h => h) (Or.inl ⟨by rfl, ?_⟩) hHeld ?_ ?_
        rotate_left
        ·rintro w' ⟨s0, s1, s2, s3, s4⟩
         go_simp
         with_reducible rfl
        rotate_left
        ·simp only [Act.put, List.setIfInBounds_toArray, List.set_cons_zero, List.set_cons_succ, i64_w, i32_w]
         rfl
        refine one_ (i := 6) (N := some 19) (bb [7, 21]) rfl rfl (one_of HT_.out (by kernel_rfl)) (by decide) (fun K hK => ?_)
        refine goes_ Tryz.func49 (by kernel_rfl) rfl #[.agg #[.string ((rd_T31 l0 x9_1).f0), .slice (some ad745) ((rd_T31 l0 x9_1).f1).length c740_1, .slice A740_2 ((rd_T31 l0 x9_1).f2).length c740_2], .int .i64 3, .int .i64 1] (by rfl) rfl rfl (by (try simp only [List.map_toArray, List.map_cons, List.map_nil]); first | done | rfl | (simp only [List.length_drop, List.length_take]; rfl)) ?_
        with_reducible refine (spec_sized.calls ((rd_T31 l0 x9_1).f0) _ _ ((rd_T31 l0 x9_1).f1) _ _ ((rd_T31 l0 x9_1).f2) 3 1 true _ ?side1 ?side2 ?side3 ?side4 A10.out).mono ?_
        (case side1 => repeat (first | exact (Kd.C_below HR740_1.out (by repeat (first | (with_reducible first | exact HB.out | apply below_alloc | apply pw_below_drewN | apply below_drew1 | refine below_set ?_ GE741.out) | exact HB.out))) | (with_reducible refine Kd.C_alloc ?_ _) | (with_reducible refine Kd.C_drewN ?_ _) | (with_reducible refine Kd.C_drew ?_)))
        (case side2 => exact HC740_1.out)
        (case side3 => repeat (first | exact (Kd.C_below HR740_2.out (by repeat (first | (with_reducible first | exact HB.out | apply below_alloc | apply pw_below_drewN | apply below_drew1 | refine below_set ?_ GE741.out) | exact HB.out))) | (with_reducible refine Kd.C_alloc ?_ _) | (with_reducible refine Kd.C_drewN ?_ _) | (with_reducible refine Kd.C_drew ?_)))
        (case side4 => exact HC740_2.out)
        rintro e w19 ⟨rfl, hb⟩
        refine ⟨_, rfl, ?_⟩
        have n0_ := Aside0.mk (blk_below (g := gb741) (o := .cells #[.string ((rd_T31 l0 x9_1).f0), .slice (some ad745) ((rd_T31 l0 x9_1).f1).length c740_1, .slice A740_2 ((rd_T31 l0 x9_1).f2).length c740_2] 31 (0, 0)) (by (with_reducible repeat (first | refine blk_drewN ?_ _ | refine blk_drew ?_ | refine blk_alloc ?_ _)); exact BK741.out) hb)
        have n1_ := Aside0.mk (below_step (by repeat (first | (with_reducible first | exact HB.out | apply below_alloc | apply pw_below_drewN | apply below_drew1 | refine below_set ?_ GE741.out) | exact HB.out)) hb)
        clear BK741
        clear HB
        have BK741 := n0_
        have HB := n1_
        clear n0_ n1_
        (try clear hb)
        (try clear hb2)
        (try clear hk)
        (try clear hi)
        refine hK.out _ _ ⟨(blk_cell BK741.out 0).trans rfl, (blk_cell BK741.out 1).trans rfl, (blk_cell BK741.out 2).trans rfl, ((HB.out.cell (World.block_lt_of_cell? w _ hw745_0)).trans hw745_0), ((HB.out.cell (World.block_lt_of_cell? w _ hw746_0)).trans hw746_0)⟩ (fun hHeld => ?_)
        clear hK K
        refine norm_ (a' := ?_) ?_ ?_
        rotate_left
        ·show Act.put _ (some 19) _ = _
         simp only [Act.put, List.setIfInBounds_toArray, List.set_cons_zero, List.set_cons_succ, i64_w, i32_w]
         rfl
        refine pure_ (i := 7) (N := some 20) (v := ?_) (a' := ?_) (bb [8, 20]) rfl rfl (any_of HT_.out (by kernel_rfl)) (fun _ _ _ h => h) (Or.inl ⟨by rfl, ?_⟩) ?_ ?_
        rotate_left
        ·intro w'
         go_simp
         with_reducible rfl
        rotate_left
        ·simp only [Act.put, List.setIfInBounds_toArray, List.set_cons_zero, List.set_cons_succ, i64_w, i32_w]
         rfl
        refine pure_ (i := 8) (N := some 21) (v := ?_) (a' := ?_) (bb [9, 19]) rfl rfl (any_of HT_.out (by kernel_rfl)) (fun _ _ _ h => h) (Or.inl ⟨by rfl, ?_⟩) ?_ ?_
        rotate_left
        ·intro w'
         go_simp
         with_reducible rfl
        rotate_left
        ·simp only [Act.put, List.setIfInBounds_toArray, List.set_cons_zero, List.set_cons_succ, i64_w, i32_w]
         rfl
        refine pure_ (i := 9) (N := some 22) (v := ?_) (a' := ?_) (bb [10, 18]) rfl rfl (any_of HT_.out (by kernel_rfl)) (fun _ _ _ h => h) (Or.inl ⟨by rfl, ?_⟩) ?_ ?_
        rotate_left
        ·intro w'
         go_simp
         with_reducible rfl
        rotate_left
        ·simp only [Act.put, List.setIfInBounds_toArray, List.set_cons_zero, List.set_cons_succ, i64_w, i32_w]
         rfl
        refine pure_ (i := 10) (N := some 23) (v := ?_) (a' := ?_) (bb [11, 17]) rfl rfl (any_of HT_.out (by kernel_rfl)) (fun _ _ _ h => h) (Or.inl ⟨by rfl, ?_⟩) ?_ ?_
        rotate_left
        ·intro w'
         go_simp
         with_reducible rfl
        rotate_left
        ·simp only [Act.put, List.setIfInBounds_toArray, List.set_cons_zero, List.set_cons_succ, i64_w, i32_w]
         rfl
        refine take_ (i := 11) (N := some 24) (v := ?_) (a' := ?_) (bb [12, 16]) rfl rfl (take_ofW HT_.out HW_.out (by kernel_rfl)) (fun _ _ _ h => h) (Or.inl ⟨by rfl, ?_⟩) hHeld ?_ ?_
        rotate_left
        ·rintro w' ⟨s0, s1, s2, s3, s4⟩
         go_simp
         with_reducible rfl
        rotate_left
        ·simp only [Act.put, List.setIfInBounds_toArray, List.set_cons_zero, List.set_cons_succ, i64_w, i32_w]
         rfl
        refine one_ (i := 12) (N := some 25) (bb [13, 15]) rfl rfl (one_of HT_.out (by kernel_rfl)) (by decide) (fun K hK => ?_)
        refine goes_ Tryz.func62 (by kernel_rfl) rfl #[.slice A740_2 ((rd_T31 l0 x9_1).f2).length c740_2] (by rfl) rfl rfl (by (try simp only [List.map_toArray, List.map_cons, List.map_nil]); first | done | rfl | (simp only [List.length_drop, List.length_take]; rfl)) ?_
        with_reducible refine (spec_words.calls k1 _ _ ((rd_T31 l0 x9_1).f2) true _ ?side1 ?side2 A12.out).mono ?_
        (case side1 => repeat (first | exact (Kd.C_below HR740_2.out HB.out) | (with_reducible refine Kd.C_alloc ?_ _) | (with_reducible refine Kd.C_drewN ?_ _) | (with_reducible refine Kd.C_drew ?_)))
        (case side2 => exact HC740_2.out)
        rintro e w' ⟨rfl, ⟨nd, rfl⟩⟩
        refine ⟨_, rfl, ?_⟩
        refine hK.out _ _ ⟨(blk_cell BK741.out 0).trans rfl, (blk_cell BK741.out 1).trans rfl, (blk_cell BK741.out 2).trans rfl, ((HB.out.cell (World.block_lt_of_cell? w _ hw745_0)).trans hw745_0), ((HB.out.cell (World.block_lt_of_cell? w _ hw746_0)).trans hw746_0)⟩ (fun hHeld => ?_)
        clear hK K
        refine norm_ (a' := ?_) ?_ ?_
        rotate_left
        ·show Act.put _ (some 25) _ = _
         simp only [Act.put, List.setIfInBounds_toArray, List.set_cons_zero, List.set_cons_succ, i64_w, i32_w]
         rfl
        refine pure_ (i := 13) (N := some 26) (v := ?_) (a' := ?_) (bb [14, 14]) rfl rfl (any_of HT_.out (by kernel_rfl)) (fun _ _ _ h => h) (Or.inl ⟨by rfl, ?_⟩) ?_ ?_
        rotate_left
        ·intro w'
         go_simp
         with_reducible rfl
        rotate_left
        ·simp only [Act.put, List.setIfInBounds_toArray, List.set_cons_zero, List.set_cons_succ, i64_w, i32_w]
         rfl
        refine pure_ (i := 14) (N := some 27) (v := ?_) (a' := ?_) (bb [15, 13]) rfl rfl (any_of HT_.out (by kernel_rfl)) (fun _ _ _ h => h) (Or.inl ⟨by rfl, ?_⟩) ?_ ?_
        rotate_left
        ·intro w'
         go_simp
         with_reducible rfl
        rotate_left
        ·simp only [Act.put, List.setIfInBounds_toArray, List.set_cons_zero, List.set_cons_succ, i64_w, i32_w]
         rfl
        refine pure_ (i := 15) (N := some 28) (v := ?_) (a' := ?_) (bb [16, 12]) rfl rfl (any_of HT_.out (by kernel_rfl)) (fun _ _ _ h => h) (Or.inl ⟨by rfl, ?_⟩) ?_ ?_
        rotate_left
        ·intro w'
         go_simp
         with_reducible rfl
        rotate_left
        ·simp only [Act.put, List.setIfInBounds_toArray, List.set_cons_zero, List.set_cons_succ, i64_w, i32_w]
         rfl
        refine pure_ (i := 16) (N := some 29) (v := ?_) (a' := ?_) (bb [17, 11]) rfl rfl (any_of HT_.out (by kernel_rfl)) (fun _ _ _ h => h) (Or.inl ⟨by rfl, ?_⟩) ?_ ?_
        rotate_left
        ·intro w'
         go_simp
         with_reducible rfl
        rotate_left
        ·simp only [Act.put, List.setIfInBounds_toArray, List.set_cons_zero, List.set_cons_succ, i64_w, i32_w]
         rfl
        refine pure_ (i := 20) (N := some 33) (v := ?_) (a' := ?_) (bb [17, 3, 1, 7]) rfl rfl (any_of HT_.out (by kernel_rfl)) (fun _ _ _ h => h) (Or.inl ⟨by rfl, ?_⟩) ?_ ?_
        rotate_left
        ·intro w'
         go_simp
         with_reducible rfl
        rotate_left
        ·simp only [Act.put, List.setIfInBounds_toArray, List.set_cons_zero, List.set_cons_succ, i64_w, i32_w]
         rfl
        refine take_ (i := 17) (N := some 30) (v := ?_) (a' := ?_) (bb [18, 2, 1, 7]) rfl rfl (take_ofW HT_.out HW_.out (by kernel_rfl)) (fun _ _ _ h => h) (Or.inl ⟨by rfl, ?_⟩) hHeld ?_ ?_
        rotate_left
        ·rintro w' ⟨s0, s1, s2, s3, s4⟩
         go_simp
         with_reducible rfl
        rotate_left
        ·simp only [Act.put, List.setIfInBounds_toArray, List.set_cons_zero, List.set_cons_succ, i64_w, i32_w]
         rfl
        refine pure_ (i := 18) (N := some 31) (v := ?_) (a' := ?_) (bb [19, 1, 1, 7]) rfl rfl (any_of HT_.out (by kernel_rfl)) (fun _ _ _ h => h) (Or.inl ⟨by rfl, ?_⟩) ?_ ?_
        rotate_left
        ·intro w'
         go_simp
         with_reducible rfl
        rotate_left
        ·simp only [Act.put, List.setIfInBounds_toArray, List.set_cons_zero, List.set_cons_succ, i64_w, i32_w]
         rfl
        refine take_ (i := 19) (N := some 32) (v := ?_) (a' := ?_) (bb [21, 7]) rfl rfl (take_ofW HT_.out HW_.out (by kernel_rfl)) (fun _ _ _ h => h) (Or.inl ⟨by rfl, ?_⟩) hHeld ?_ ?_
        rotate_left
        ·rintro w' ⟨s0, s1, s2, s3, s4⟩
         go_simp
         with_reducible rfl
        rotate_left
        ·simp only [Act.put, List.setIfInBounds_toArray, List.set_cons_zero, List.set_cons_succ, i64_w, i32_w]
         rfl
        refine take_ (i := 21) (N := some 34) (v := ?_) (a' := ?_) (bb [22, 6]) rfl rfl (take_ofW HT_.out HW_.out (by kernel_rfl)) (fun _ _ _ h => h) (Or.inl ⟨by rfl, ?_⟩) hHeld ?_ ?_
        rotate_left
        ·rintro w' ⟨s0, s1, s2, s3, s4⟩
         go_simp
         with_reducible rfl
        rotate_left
        ·simp only [Act.put, List.setIfInBounds_toArray, List.set_cons_zero, List.set_cons_succ, i64_w, i32_w]
         rfl
        refine pure_ (i := 22) (N := some 35) (v := ?_) (a' := ?_) (bb [23, 5]) rfl rfl (any_of HT_.out (by kernel_rfl)) (fun _ _ _ h => h) (Or.inl ⟨by rfl, ?_⟩) ?_ ?_
        rotate_left
        ·intro w'
         go_simp
         with_reducible rfl
        rotate_left
        ·simp only [Act.put, List.setIfInBounds_toArray, List.set_cons_zero, List.set_cons_succ, i64_w, i32_w]
         rfl
        refine take_ (i := 23) (N := some 36) (v := ?_) (a' := ?_) (bb [24, 4]) rfl rfl (take_ofW HT_.out HW_.out (by kernel_rfl)) (fun _ _ _ h => h) (Or.inl ⟨by rfl, ?_⟩) hHeld ?_ ?_
        rotate_left
        ·rintro w' ⟨s0, s1, s2, s3, s4⟩
         go_simp
         with_reducible rfl
        rotate_left
        ·simp only [Act.put, List.setIfInBounds_toArray, List.set_cons_zero, List.set_cons_succ, i64_w, i32_w]
         rfl
        refine one_ (i := 24) (N := some 37) (bb [25, 3]) rfl rfl (one_of HT_.out (by kernel_rfl)) (by decide) (fun K hK => ?_)
        refine Kd.R_lit_step (Kd.int .u64) _ 35 ?hg (N := 37) ?hd (xs := ([rd ((rd_T31 l0 x9_1).f1) 0, rd ((rd_T31 l0 x9_1).f1) 1] : List Int)) (inner := [.int .u64 (rd ((rd_T31 l0 x9_1).f1) 0), .int .u64 (rd ((rd_T31 l0 x9_1).f1) 1)]) (ok := fun _ => True) (okp := fun _ => True) ?hr ?hp (fun _ hk => hk) trivial (Below.refl _ _) (Nat.le_refl _) (by simp) ?_; (case hd => rfl); (case hg => rfl); (case hr => first | (go_simp; done) | (go_simp; rfl)); (case hp => exact (Reps.one (show Kd.M (Kd.int .u64) _ _ _ (rd ((rd_T31 l0 x9_1).f1) 0) [.int .u64 (rd ((rd_T31 l0 x9_1).f1) 0)] from rfl) (Reps.one (show Kd.M (Kd.int .u64) _ _ _ (rd ((rd_T31 l0 x9_1).f1) 1) [.int .u64 (rd ((rd_T31 l0 x9_1).f1) 1)] from rfl) (Reps.none _ _))))
        intro v748 w20 ho21 hb hg_ hnew_
        clear hg_ hnew_
        (first | rw [← Ny747.out] at ho21 | (simp only [Int.reduceToNat] at ho21; rw [← Ny747.out] at ho21))
        have n0_ := Aside0.mk (Kd.R_lower ho21 (below_size (by repeat (first | (with_reducible first | exact HB.out | apply below_alloc | apply pw_below_drewN | apply below_drew1 | refine below_set ?_ GE741.out) | exact HB.out))))
        have n1_ := Aside0.mk (blk_below (g := gb741) (o := .cells #[.string ((rd_T31 l0 x9_1).f0), .slice (some ad745) ((rd_T31 l0 x9_1).f1).length c740_1, .slice A740_2 ((rd_T31 l0 x9_1).f2).length c740_2] 31 (0, 0)) (by (with_reducible repeat (first | refine blk_drewN ?_ _ | refine blk_drew ?_ | refine blk_alloc ?_ _)); exact BK741.out) hb)
        have n2_ := Aside0.mk (below_step (by repeat (first | (with_reducible first | exact HB.out | apply below_alloc | apply pw_below_drewN | apply below_drew1 | refine below_set ?_ GE741.out) | exact HB.out)) hb)
        clear BK741
        clear HB
        have HO749 := n0_
        have BK741 := n1_
        have HB := n2_
        clear n0_ n1_ n2_
        clear hb ho21
        obtain ⟨Ao22, co22, eo22⟩ := Kd.R_slice HO749.out
        (first | subst eo22 | (injection eo22 with f1_ f2_ f3_; have f4_ := f1_.symm; have f5_ := f3_.symm; clear f1_ f2_ f3_; subst f4_; subst f5_))
        refine hK.out _ _ ⟨(blk_cell BK741.out 0).trans rfl, (blk_cell BK741.out 1).trans rfl, (blk_cell BK741.out 2).trans rfl, ((HB.out.cell (World.block_lt_of_cell? w _ hw745_0)).trans hw745_0), ((HB.out.cell (World.block_lt_of_cell? w _ hw746_0)).trans hw746_0)⟩ (fun hHeld => ?_)
        clear hK K
        refine norm_ (a' := ?_) ?_ ?_
        rotate_left
        ·show Act.put _ (some 37) _ = _
         simp only [Act.put, List.setIfInBounds_toArray, List.set_cons_zero, List.set_cons_succ, i64_w, i32_w]
         rfl
        refine one_ (i := 25) (N := some 38) (bb [26, 2]) rfl rfl (one_of HT_.out (by kernel_rfl)) (by decide) (fun K hK => ?_)
        refine goes_ Tryz.func50 (by kernel_rfl) rfl #[.int .u64 4611686018427387904, .slice Ao22 y747.length co22] (by rfl) rfl rfl (by (try simp only [List.map_toArray, List.map_cons, List.map_nil]); first | done | rfl | (simp only [List.length_drop, List.length_take]; rfl)) ?_
        with_reducible refine (spec_small.calls k1 4611686018427387904 _ _ y747 t750 _ ?side1 ?side2 A16.out).mono ?_
        (case side1 => repeat (first | exact (Kd.R_reads' HO749.out).2.2 | (with_reducible refine Kd.C_alloc ?_ _) | (with_reducible refine Kd.C_drewN ?_ _) | (with_reducible refine Kd.C_drew ?_)))
        (case side2 => exact (Kd.R_reads' HO749.out).2.1)
        rintro e w' ⟨rfl, ⟨nd, rfl⟩⟩
        refine ⟨_, rfl, ?_⟩
        refine hK.out _ _ ⟨(blk_cell BK741.out 0).trans rfl, (blk_cell BK741.out 1).trans rfl, (blk_cell BK741.out 2).trans rfl, ((HB.out.cell (World.block_lt_of_cell? w _ hw745_0)).trans hw745_0), ((HB.out.cell (World.block_lt_of_cell? w _ hw746_0)).trans hw746_0)⟩ (fun hHeld => ?_)
        clear hK K
        refine norm_ (a' := ?_) ?_ ?_
        rotate_left
        ·show Act.put _ (some 38) _ = _
         simp only [Act.put, List.setIfInBounds_toArray, List.set_cons_zero, List.set_cons_succ, i64_w, i32_w]
         rfl
        refine pure_ (i := 26) (N := some 39) (v := ?_) (a' := ?_) (bb [27, 1]) rfl rfl (any_of HT_.out (by kernel_rfl)) (fun _ _ _ h => h) (Or.inl ⟨by rfl, ?_⟩) ?_ ?_
        rotate_left
        ·intro w'
         go_simp
         with_reducible rfl
        rotate_left
        ·simp only [Act.put, List.setIfInBounds_toArray, List.set_cons_zero, List.set_cons_succ, i64_w, i32_w]
         rfl
        refine pure_ (i := 27) (N := some 40) (v := ?_) (a' := ?_) (bb [28]) rfl rfl (any_of HT_.out (by kernel_rfl)) (fun _ _ _ h => h) (Or.inl ⟨by rfl, ?_⟩) ?_ ?_
        rotate_left
        ·intro w'
         go_simp
         with_reducible rfl
        rotate_left
        ·simp only [Act.put, List.setIfInBounds_toArray, List.set_cons_zero, List.set_cons_succ, i64_w, i32_w]
         rfl
        refine done_ (done_of HT_.out (by kernel_rfl)) ?_
        try go_wp2
        go_meet
        case rel => exact ⟨_, (!t750), (by first | rfl | (simp; done) | (simp [*]; done)), H', ⟨by have := HK1.out; first | omega | exact Nat.le_refl _⟩, ⟨by (with_reducible repeat (first | refine blk_drewN ?_ _ | refine blk_drew ?_ | refine blk_alloc ?_ _)); exact BK741.out⟩, ⟨by repeat (first | (with_reducible first | exact HB.out | apply below_alloc | apply pw_below_drewN | apply below_drew1 | refine below_set ?_ GE741.out) | exact HB.out)⟩⟩
       ·replace c13 := Bool.eq_false_iff.mpr c13
        subst c13
        have H1 : (spec_SwapsPrint.j1 k1 x4_1 l0 (l0.length : Int) x9_1 true ((rd_T31 l0 x9_1).f0) ((rd_T31 l0 x9_1).f1) ((rd_T31 l0 x9_1).f2)) = some (r1, r2) := by rw [if_neg (show ¬ (false = true) by decide)] at H; exact H
        clear H
        have H := H1
        clear H1
        have H' := Aside0.mk H
        clear H
        try go_wp2
        have n0_ : Aside0 ((((w6.setCell ⟨gb741, 0, none⟩ (.string ((rd_T31 l0 x9_1).f0))).setCell ⟨gb741, 1, none⟩ (.slice A740_1 ((rd_T31 l0 x9_1).f1).length c740_1)).setCell ⟨gb741, 2, none⟩ (.slice A740_2 ((rd_T31 l0 x9_1).f2).length c740_2)).heap[gb741]? = some (.cells #[.string ((rd_T31 l0 x9_1).f0), .slice A740_1 ((rd_T31 l0 x9_1).f1).length c740_1, .slice A740_2 ((rd_T31 l0 x9_1).f2).length c740_2] 31 (0, 0))) := ⟨by (with_reducible repeat (first | refine blk_drewN ?_ _ | refine blk_drew ?_ | refine blk_alloc ?_ _)); refine blk_put (cs := #[.string ((rd_T31 l0 x9_1).f0), .slice A740_1 ((rd_T31 l0 x9_1).f1).length c740_1, .slice none 0 0]) ?_ 2 _ rfl; (with_reducible repeat (first | refine blk_drewN ?_ _ | refine blk_drew ?_ | refine blk_alloc ?_ _)); refine blk_put (cs := #[.string ((rd_T31 l0 x9_1).f0), .slice none 0 0, .slice none 0 0]) ?_ 1 _ rfl; (with_reducible repeat (first | refine blk_drewN ?_ _ | refine blk_drew ?_ | refine blk_alloc ?_ _)); refine blk_put (cs := #[.string (⟨#[]⟩ : ByteArray), .slice none 0 0, .slice none 0 0]) ?_ 0 _ rfl; (with_reducible repeat (first | refine blk_drewN ?_ _ | refine blk_drew ?_ | refine blk_alloc ?_ _)); exact BK741.out⟩
        have n1_ : Aside0 (Below w.heap.size w (((w6.setCell ⟨gb741, 0, none⟩ (.string ((rd_T31 l0 x9_1).f0))).setCell ⟨gb741, 1, none⟩ (.slice A740_1 ((rd_T31 l0 x9_1).f1).length c740_1)).setCell ⟨gb741, 2, none⟩ (.slice A740_2 ((rd_T31 l0 x9_1).f2).length c740_2))) := ⟨by repeat (first | (with_reducible first | exact HB.out | apply below_alloc | apply pw_below_drewN | apply below_drew1 | refine below_set ?_ GE741.out) | exact HB.out)⟩
        (try clear BK741)
        (try clear HB)
        generalize (((w6.setCell ⟨gb741, 0, none⟩ (.string ((rd_T31 l0 x9_1).f0))).setCell ⟨gb741, 1, none⟩ (.slice A740_1 ((rd_T31 l0 x9_1).f1).length c740_1)).setCell ⟨gb741, 2, none⟩ (.slice A740_2 ((rd_T31 l0 x9_1).f2).length c740_2)) = w23 at n0_ n1_ ⊢
        have BK741 := n0_
        have HB := n1_
        clear n0_ n1_
        have n0_ := Aside0.mk (blk_drew BK741.out)
        have n1_ := Aside0.mk (below_drew1 HB.out)
        clear BK741
        clear HB
        have BK741 := n0_
        have HB := n1_
        clear n0_ n1_
        refine start_ (n := 28) (S := fun w' => w'.cell? ⟨gb741, 0, none⟩ = some (.string ((rd_T31 l0 x9_1).f0)) ∧ w'.cell? ⟨gb741, 1, none⟩ = some (.slice A740_1 ((rd_T31 l0 x9_1).f1).length c740_1) ∧ w'.cell? ⟨gb741, 2, none⟩ = some (.slice A740_2 ((rd_T31 l0 x9_1).f2).length c740_2)) (ds := []) (bb [0, 28]) (by kernel_rfl) rfl rfl ⟨(blk_cell BK741.out 0).trans rfl, (blk_cell BK741.out 1).trans rfl, (blk_cell BK741.out 2).trans rfl⟩ (fun hHeld => ?_); refine with_tabW spec_SwapsPrint.tab5 spec_SwapsPrint.bits5 (fun HT_ HW_ => ?_)
        generalize w23.drew = w24 at BK741 HB hHeld ⊢
        refine pure_ (i := 0) (N := some 13) (v := ?_) (a' := ?_) (bb [1, 27]) rfl rfl (any_of HT_.out (by kernel_rfl)) (fun _ _ _ h => h) (Or.inl ⟨by rfl, ?_⟩) ?_ ?_
        rotate_left
        ·intro w'
         go_simp
         with_reducible rfl
        rotate_left
        ·simp only [Act.put, List.setIfInBounds_toArray, List.set_cons_zero, List.set_cons_succ, i64_w, i32_w]
         rfl
        refine take_ (i := 1) (N := some 14) (v := ?_) (a' := ?_) (bb [2, 26]) rfl rfl (take_ofW HT_.out HW_.out (by kernel_rfl)) (fun _ _ _ h => h) (Or.inl ⟨by rfl, ?_⟩) hHeld ?_ ?_
        rotate_left
        ·rintro w' ⟨s0, s1, s2⟩
         go_simp
         with_reducible rfl
        rotate_left
        ·simp only [Act.put, List.setIfInBounds_toArray, List.set_cons_zero, List.set_cons_succ, i64_w, i32_w]
         rfl
        refine one_ (i := 2) (N := some 15) (bb [3, 25]) rfl rfl (one_of HT_.out (by kernel_rfl)) (by decide) (fun K hK => ?_)
        refine goes_ Tryz.func120 (by kernel_rfl) rfl #[.string ((rd_T31 l0 x9_1).f0)] (by rfl) rfl rfl (by (try simp only [List.map_toArray, List.map_cons, List.map_nil]); first | done | rfl | (simp only [List.length_drop, List.length_take]; rfl)) ?_
        with_reducible refine (spec_Word.calls k1 ((rd_T31 l0 x9_1).f0) true _ A8.out).mono ?_
        rintro e w' ⟨rfl, ⟨nd, rfl⟩⟩
        refine ⟨_, rfl, ?_⟩
        refine hK.out _ _ ⟨(blk_cell BK741.out 0).trans rfl, (blk_cell BK741.out 1).trans rfl, (blk_cell BK741.out 2).trans rfl⟩ (fun hHeld => ?_)
        clear hK K
        refine norm_ (a' := ?_) ?_ ?_
        rotate_left
        ·show Act.put _ (some 15) _ = _
         simp only [Act.put, List.setIfInBounds_toArray, List.set_cons_zero, List.set_cons_succ, i64_w, i32_w]
         rfl
        refine pure_ (i := 3) (N := some 16) (v := ?_) (a' := ?_) (bb [4, 24]) rfl rfl (any_of HT_.out (by kernel_rfl)) (fun _ _ _ h => h) (Or.inl ⟨by rfl, ?_⟩) ?_ ?_
        rotate_left
        ·intro w'
         go_simp
         with_reducible rfl
        rotate_left
        ·simp only [Act.put, List.setIfInBounds_toArray, List.set_cons_zero, List.set_cons_succ, i64_w, i32_w]
         rfl
        refine pure_ (i := 4) (N := some 17) (v := ?_) (a' := ?_) (bb [5, 23]) rfl rfl (any_of HT_.out (by kernel_rfl)) (fun _ _ _ h => h) (Or.inl ⟨by rfl, ?_⟩) ?_ ?_
        rotate_left
        ·intro w'
         go_simp
         with_reducible rfl
        rotate_left
        ·simp only [Act.put, List.setIfInBounds_toArray, List.set_cons_zero, List.set_cons_succ, i64_w, i32_w]
         rfl
        refine take_ (i := 5) (N := some 18) (v := ?_) (a' := ?_) (bb [6, 22]) rfl rfl (take_ofW HT_.out HW_.out (by kernel_rfl)) (fun _ _ _ h => h) (Or.inl ⟨by rfl, ?_⟩) hHeld ?_ ?_
        rotate_left
        ·rintro w' ⟨s0, s1, s2⟩
         go_simp
         with_reducible rfl
        rotate_left
        ·simp only [Act.put, List.setIfInBounds_toArray, List.set_cons_zero, List.set_cons_succ, i64_w, i32_w]
         rfl
        refine one_ (i := 6) (N := some 19) (bb [7, 21]) rfl rfl (one_of HT_.out (by kernel_rfl)) (by decide) (fun K hK => ?_)
        refine goes_ Tryz.func49 (by kernel_rfl) rfl #[.agg #[.string ((rd_T31 l0 x9_1).f0), .slice A740_1 ((rd_T31 l0 x9_1).f1).length c740_1, .slice A740_2 ((rd_T31 l0 x9_1).f2).length c740_2], .int .i64 3, .int .i64 1] (by rfl) rfl rfl (by (try simp only [List.map_toArray, List.map_cons, List.map_nil]); first | done | rfl | (simp only [List.length_drop, List.length_take]; rfl)) ?_
        with_reducible refine (spec_sized.calls ((rd_T31 l0 x9_1).f0) _ _ ((rd_T31 l0 x9_1).f1) _ _ ((rd_T31 l0 x9_1).f2) 3 1 true _ ?side1 ?side2 ?side3 ?side4 A10.out).mono ?_
        (case side1 => repeat (first | exact (Kd.C_below HR740_1.out (by repeat (first | (with_reducible first | exact HB.out | apply below_alloc | apply pw_below_drewN | apply below_drew1 | refine below_set ?_ GE741.out) | exact HB.out))) | (with_reducible refine Kd.C_alloc ?_ _) | (with_reducible refine Kd.C_drewN ?_ _) | (with_reducible refine Kd.C_drew ?_)))
        (case side2 => exact HC740_1.out)
        (case side3 => repeat (first | exact (Kd.C_below HR740_2.out (by repeat (first | (with_reducible first | exact HB.out | apply below_alloc | apply pw_below_drewN | apply below_drew1 | refine below_set ?_ GE741.out) | exact HB.out))) | (with_reducible refine Kd.C_alloc ?_ _) | (with_reducible refine Kd.C_drewN ?_ _) | (with_reducible refine Kd.C_drew ?_)))
        (case side4 => exact HC740_2.out)
        rintro e w25 ⟨rfl, hb⟩
        refine ⟨_, rfl, ?_⟩
        have n0_ := Aside0.mk (blk_below (g := gb741) (o := .cells #[.string ((rd_T31 l0 x9_1).f0), .slice A740_1 ((rd_T31 l0 x9_1).f1).length c740_1, .slice A740_2 ((rd_T31 l0 x9_1).f2).length c740_2] 31 (0, 0)) (by (with_reducible repeat (first | refine blk_drewN ?_ _ | refine blk_drew ?_ | refine blk_alloc ?_ _)); exact BK741.out) hb)
        have n1_ := Aside0.mk (below_step (by repeat (first | (with_reducible first | exact HB.out | apply below_alloc | apply pw_below_drewN | apply below_drew1 | refine below_set ?_ GE741.out) | exact HB.out)) hb)
        clear BK741
        clear HB
        have BK741 := n0_
        have HB := n1_
        clear n0_ n1_
        (try clear hb)
        (try clear hb2)
        (try clear hk)
        (try clear hi)
        refine hK.out _ _ ⟨(blk_cell BK741.out 0).trans rfl, (blk_cell BK741.out 1).trans rfl, (blk_cell BK741.out 2).trans rfl⟩ (fun hHeld => ?_)
        clear hK K
        refine norm_ (a' := ?_) ?_ ?_
        rotate_left
        ·show Act.put _ (some 19) _ = _
         simp only [Act.put, List.setIfInBounds_toArray, List.set_cons_zero, List.set_cons_succ, i64_w, i32_w]
         rfl
        refine pure_ (i := 7) (N := some 20) (v := ?_) (a' := ?_) (bb [8, 20]) rfl rfl (any_of HT_.out (by kernel_rfl)) (fun _ _ _ h => h) (Or.inl ⟨by rfl, ?_⟩) ?_ ?_
        rotate_left
        ·intro w'
         go_simp
         with_reducible rfl
        rotate_left
        ·simp only [Act.put, List.setIfInBounds_toArray, List.set_cons_zero, List.set_cons_succ, i64_w, i32_w]
         rfl
        refine pure_ (i := 8) (N := some 21) (v := ?_) (a' := ?_) (bb [9, 19]) rfl rfl (any_of HT_.out (by kernel_rfl)) (fun _ _ _ h => h) (Or.inl ⟨by rfl, ?_⟩) ?_ ?_
        rotate_left
        ·intro w'
         go_simp
         with_reducible rfl
        rotate_left
        ·simp only [Act.put, List.setIfInBounds_toArray, List.set_cons_zero, List.set_cons_succ, i64_w, i32_w]
         rfl
        refine pure_ (i := 9) (N := some 22) (v := ?_) (a' := ?_) (bb [10, 18]) rfl rfl (any_of HT_.out (by kernel_rfl)) (fun _ _ _ h => h) (Or.inl ⟨by rfl, ?_⟩) ?_ ?_
        rotate_left
        ·intro w'
         go_simp
         with_reducible rfl
        rotate_left
        ·simp only [Act.put, List.setIfInBounds_toArray, List.set_cons_zero, List.set_cons_succ, i64_w, i32_w]
         rfl
        refine pure_ (i := 10) (N := some 23) (v := ?_) (a' := ?_) (bb [11, 17]) rfl rfl (any_of HT_.out (by kernel_rfl)) (fun _ _ _ h => h) (Or.inl ⟨by rfl, ?_⟩) ?_ ?_
        rotate_left
        ·intro w'
         go_simp
         with_reducible rfl
        rotate_left
        ·simp only [Act.put, List.setIfInBounds_toArray, List.set_cons_zero, List.set_cons_succ, i64_w, i32_w]
         rfl
        refine take_ (i := 11) (N := some 24) (v := ?_) (a' := ?_) (bb [12, 16]) rfl rfl (take_ofW HT_.out HW_.out (by kernel_rfl)) (fun _ _ _ h => h) (Or.inl ⟨by rfl, ?_⟩) hHeld ?_ ?_
        rotate_left
        ·rintro w' ⟨s0, s1, s2⟩
         go_simp
         with_reducible rfl
        rotate_left
        ·simp only [Act.put, List.setIfInBounds_toArray, List.set_cons_zero, List.set_cons_succ, i64_w, i32_w]
         rfl
        refine one_ (i := 12) (N := some 25) (bb [13, 15]) rfl rfl (one_of HT_.out (by kernel_rfl)) (by decide) (fun K hK => ?_)
        refine goes_ Tryz.func62 (by kernel_rfl) rfl #[.slice A740_2 ((rd_T31 l0 x9_1).f2).length c740_2] (by rfl) rfl rfl (by (try simp only [List.map_toArray, List.map_cons, List.map_nil]); first | done | rfl | (simp only [List.length_drop, List.length_take]; rfl)) ?_
        with_reducible refine (spec_words.calls k1 _ _ ((rd_T31 l0 x9_1).f2) false _ ?side1 ?side2 A12.out).mono ?_
        (case side1 => repeat (first | exact (Kd.C_below HR740_2.out HB.out) | (with_reducible refine Kd.C_alloc ?_ _) | (with_reducible refine Kd.C_drewN ?_ _) | (with_reducible refine Kd.C_drew ?_)))
        (case side2 => exact HC740_2.out)
        rintro e w' ⟨rfl, ⟨nd, rfl⟩⟩
        refine ⟨_, rfl, ?_⟩
        refine hK.out _ _ ⟨(blk_cell BK741.out 0).trans rfl, (blk_cell BK741.out 1).trans rfl, (blk_cell BK741.out 2).trans rfl⟩ (fun hHeld => ?_)
        clear hK K
        refine norm_ (a' := ?_) ?_ ?_
        rotate_left
        ·show Act.put _ (some 25) _ = _
         simp only [Act.put, List.setIfInBounds_toArray, List.set_cons_zero, List.set_cons_succ, i64_w, i32_w]
         rfl
        refine pure_ (i := 13) (N := some 26) (v := ?_) (a' := ?_) (bb [14, 14]) rfl rfl (any_of HT_.out (by kernel_rfl)) (fun _ _ _ h => h) (Or.inl ⟨by rfl, ?_⟩) ?_ ?_
        rotate_left
        ·intro w'
         go_simp
         with_reducible rfl
        rotate_left
        ·simp only [Act.put, List.setIfInBounds_toArray, List.set_cons_zero, List.set_cons_succ, i64_w, i32_w]
         rfl
        refine pure_ (i := 14) (N := some 27) (v := ?_) (a' := ?_) (bb [15, 13]) rfl rfl (any_of HT_.out (by kernel_rfl)) (fun _ _ _ h => h) (Or.inl ⟨by rfl, ?_⟩) ?_ ?_
        rotate_left
        ·intro w'
         go_simp
         with_reducible rfl
        rotate_left
        ·simp only [Act.put, List.setIfInBounds_toArray, List.set_cons_zero, List.set_cons_succ, i64_w, i32_w]
         rfl
        refine pure_ (i := 15) (N := some 28) (v := ?_) (a' := ?_) (bb [16, 12]) rfl rfl (any_of HT_.out (by kernel_rfl)) (fun _ _ _ h => h) (Or.inl ⟨by rfl, ?_⟩) ?_ ?_
        rotate_left
        ·intro w'
         go_simp
         with_reducible rfl
        rotate_left
        ·simp only [Act.put, List.setIfInBounds_toArray, List.set_cons_zero, List.set_cons_succ, i64_w, i32_w]
         rfl
        refine pure_ (i := 16) (N := some 29) (v := undef) (a' := ?_) (bb [17, 11]) rfl rfl (any_of HT_.out (by kernel_rfl)) (fun _ _ _ h => h) (Or.inr ⟨by rfl, rfl⟩) ?_ ?_
        rotate_left
        ·simp only [Act.put, List.setIfInBounds_toArray, List.set_cons_zero, List.set_cons_succ, i64_w, i32_w]
         rfl
        refine pure_ (i := 17) (N := some 30) (v := undef) (a' := ?_) (bb [18, 10]) rfl rfl (any_of HT_.out (by kernel_rfl)) (fun _ _ _ h => h) (Or.inr ⟨by rfl, rfl⟩) ?_ ?_
        rotate_left
        ·simp only [Act.put, List.setIfInBounds_toArray, List.set_cons_zero, List.set_cons_succ, i64_w, i32_w]
         rfl
        refine pure_ (i := 18) (N := some 31) (v := undef) (a' := ?_) (bb [19, 9]) rfl rfl (any_of HT_.out (by kernel_rfl)) (fun _ _ _ h => h) (Or.inr ⟨by rfl, rfl⟩) ?_ ?_
        rotate_left
        ·simp only [Act.put, List.setIfInBounds_toArray, List.set_cons_zero, List.set_cons_succ, i64_w, i32_w]
         rfl
        refine pure_ (i := 19) (N := some 32) (v := undef) (a' := ?_) (bb [20, 8]) rfl rfl (any_of HT_.out (by kernel_rfl)) (fun _ _ _ h => h) (Or.inr ⟨by rfl, rfl⟩) ?_ ?_
        rotate_left
        ·simp only [Act.put, List.setIfInBounds_toArray, List.set_cons_zero, List.set_cons_succ, i64_w, i32_w]
         rfl
        refine pure_ (i := 20) (N := some 33) (v := undef) (a' := ?_) (bb [21, 7]) rfl rfl (any_of HT_.out (by kernel_rfl)) (fun _ _ _ h => h) (Or.inr ⟨by rfl, rfl⟩) ?_ ?_
        rotate_left
        ·simp only [Act.put, List.setIfInBounds_toArray, List.set_cons_zero, List.set_cons_succ, i64_w, i32_w]
         rfl
        refine pure_ (i := 21) (N := some 34) (v := undef) (a' := ?_) (bb [22, 6]) rfl rfl (any_of HT_.out (by kernel_rfl)) (fun _ _ _ h => h) (Or.inr ⟨by rfl, rfl⟩) ?_ ?_
        rotate_left
        ·simp only [Act.put, List.setIfInBounds_toArray, List.set_cons_zero, List.set_cons_succ, i64_w, i32_w]
         rfl
        refine pure_ (i := 22) (N := some 35) (v := undef) (a' := ?_) (bb [23, 5]) rfl rfl (any_of HT_.out (by kernel_rfl)) (fun _ _ _ h => h) (Or.inr ⟨by rfl, rfl⟩) ?_ ?_
        rotate_left
        ·simp only [Act.put, List.setIfInBounds_toArray, List.set_cons_zero, List.set_cons_succ, i64_w, i32_w]
         rfl
        refine pure_ (i := 23) (N := some 36) (v := undef) (a' := ?_) (bb [24, 4]) rfl rfl (any_of HT_.out (by kernel_rfl)) (fun _ _ _ h => h) (Or.inr ⟨by rfl, rfl⟩) ?_ ?_
        rotate_left
        ·simp only [Act.put, List.setIfInBounds_toArray, List.set_cons_zero, List.set_cons_succ, i64_w, i32_w]
         rfl
        refine pure_ (i := 24) (N := some 37) (v := undef) (a' := ?_) (bb [25, 3]) rfl rfl (any_of HT_.out (by kernel_rfl)) (fun _ _ _ h => h) (Or.inr ⟨by rfl, rfl⟩) ?_ ?_
        rotate_left
        ·simp only [Act.put, List.setIfInBounds_toArray, List.set_cons_zero, List.set_cons_succ, i64_w, i32_w]
         rfl
        refine pure_ (i := 25) (N := some 38) (v := undef) (a' := ?_) (bb [26, 2]) rfl rfl (any_of HT_.out (by kernel_rfl)) (fun _ _ _ h => h) (Or.inr ⟨by rfl, rfl⟩) ?_ ?_
        rotate_left
        ·simp only [Act.put, List.setIfInBounds_toArray, List.set_cons_zero, List.set_cons_succ, i64_w, i32_w]
         rfl
        refine pure_ (i := 26) (N := some 39) (v := undef) (a' := ?_) (bb [27, 1]) rfl rfl (any_of HT_.out (by kernel_rfl)) (fun _ _ _ h => h) (Or.inr ⟨by rfl, rfl⟩) ?_ ?_
        rotate_left
        ·simp only [Act.put, List.setIfInBounds_toArray, List.set_cons_zero, List.set_cons_succ, i64_w, i32_w]
         rfl
        refine pure_ (i := 27) (N := some 40) (v := ?_) (a' := ?_) (bb [28]) rfl rfl (any_of HT_.out (by kernel_rfl)) (fun _ _ _ h => h) (Or.inl ⟨by rfl, ?_⟩) ?_ ?_
        rotate_left
        ·intro w'
         go_simp
         with_reducible rfl
        rotate_left
        ·simp only [Act.put, List.setIfInBounds_toArray, List.set_cons_zero, List.set_cons_succ, i64_w, i32_w]
         rfl
        refine done_ (done_of HT_.out (by kernel_rfl)) ?_
        try go_wp2
        go_meet
        case rel => exact ⟨_, (true), (by first | rfl | (simp; done) | (simp [*]; done)), H', ⟨by have := HK1.out; first | omega | exact Nat.le_refl _⟩, ⟨by (with_reducible repeat (first | refine blk_drewN ?_ _ | refine blk_drew ?_ | refine blk_alloc ?_ _)); exact BK741.out⟩, ⟨by repeat (first | (with_reducible first | exact HB.out | apply below_alloc | apply pw_below_drewN | apply below_drew1 | refine below_set ?_ GE741.out) | exact HB.out)⟩⟩
      ·replace c11 := Bool.eq_false_iff.mpr c11
       subst c11
       have H1 : (spec_SwapsPrint.j1 k1 x4_1 l0 (l0.length : Int) x9_1 true ((rd_T31 l0 x9_1).f0) ((rd_T31 l0 x9_1).f1) ((rd_T31 l0 x9_1).f2)) = some (r1, r2) := by rw [if_neg (show ¬ (false = true) by decide)] at H; exact H
       clear H
       have H := H1
       clear H1
       have H' := Aside0.mk H
       clear H
       try go_wp2
       have n0_ : Aside0 ((((w6.setCell ⟨gb741, 0, none⟩ (.string ((rd_T31 l0 x9_1).f0))).setCell ⟨gb741, 1, none⟩ (.slice A740_1 ((rd_T31 l0 x9_1).f1).length c740_1)).setCell ⟨gb741, 2, none⟩ (.slice A740_2 ((rd_T31 l0 x9_1).f2).length c740_2)).heap[gb741]? = some (.cells #[.string ((rd_T31 l0 x9_1).f0), .slice A740_1 ((rd_T31 l0 x9_1).f1).length c740_1, .slice A740_2 ((rd_T31 l0 x9_1).f2).length c740_2] 31 (0, 0))) := ⟨by (with_reducible repeat (first | refine blk_drewN ?_ _ | refine blk_drew ?_ | refine blk_alloc ?_ _)); refine blk_put (cs := #[.string ((rd_T31 l0 x9_1).f0), .slice A740_1 ((rd_T31 l0 x9_1).f1).length c740_1, .slice none 0 0]) ?_ 2 _ rfl; (with_reducible repeat (first | refine blk_drewN ?_ _ | refine blk_drew ?_ | refine blk_alloc ?_ _)); refine blk_put (cs := #[.string ((rd_T31 l0 x9_1).f0), .slice none 0 0, .slice none 0 0]) ?_ 1 _ rfl; (with_reducible repeat (first | refine blk_drewN ?_ _ | refine blk_drew ?_ | refine blk_alloc ?_ _)); refine blk_put (cs := #[.string (⟨#[]⟩ : ByteArray), .slice none 0 0, .slice none 0 0]) ?_ 0 _ rfl; (with_reducible repeat (first | refine blk_drewN ?_ _ | refine blk_drew ?_ | refine blk_alloc ?_ _)); exact BK741.out⟩
       have n1_ : Aside0 (Below w.heap.size w (((w6.setCell ⟨gb741, 0, none⟩ (.string ((rd_T31 l0 x9_1).f0))).setCell ⟨gb741, 1, none⟩ (.slice A740_1 ((rd_T31 l0 x9_1).f1).length c740_1)).setCell ⟨gb741, 2, none⟩ (.slice A740_2 ((rd_T31 l0 x9_1).f2).length c740_2))) := ⟨by repeat (first | (with_reducible first | exact HB.out | apply below_alloc | apply pw_below_drewN | apply below_drew1 | refine below_set ?_ GE741.out) | exact HB.out)⟩
       (try clear BK741)
       (try clear HB)
       generalize (((w6.setCell ⟨gb741, 0, none⟩ (.string ((rd_T31 l0 x9_1).f0))).setCell ⟨gb741, 1, none⟩ (.slice A740_1 ((rd_T31 l0 x9_1).f1).length c740_1)).setCell ⟨gb741, 2, none⟩ (.slice A740_2 ((rd_T31 l0 x9_1).f2).length c740_2)) = w26 at n0_ n1_ ⊢
       have BK741 := n0_
       have HB := n1_
       clear n0_ n1_
       have n0_ := Aside0.mk (blk_drew BK741.out)
       have n1_ := Aside0.mk (below_drew1 HB.out)
       clear BK741
       clear HB
       have BK741 := n0_
       have HB := n1_
       clear n0_ n1_
       refine start_ (n := 28) (S := fun w' => w'.cell? ⟨gb741, 0, none⟩ = some (.string ((rd_T31 l0 x9_1).f0)) ∧ w'.cell? ⟨gb741, 1, none⟩ = some (.slice A740_1 ((rd_T31 l0 x9_1).f1).length c740_1) ∧ w'.cell? ⟨gb741, 2, none⟩ = some (.slice A740_2 ((rd_T31 l0 x9_1).f2).length c740_2)) (ds := []) (bb [0, 28]) (by kernel_rfl) rfl rfl ⟨(blk_cell BK741.out 0).trans rfl, (blk_cell BK741.out 1).trans rfl, (blk_cell BK741.out 2).trans rfl⟩ (fun hHeld => ?_); refine with_tabW spec_SwapsPrint.tab5 spec_SwapsPrint.bits5 (fun HT_ HW_ => ?_)
       generalize w26.drew = w27 at BK741 HB hHeld ⊢
       refine pure_ (i := 0) (N := some 13) (v := ?_) (a' := ?_) (bb [1, 27]) rfl rfl (any_of HT_.out (by kernel_rfl)) (fun _ _ _ h => h) (Or.inl ⟨by rfl, ?_⟩) ?_ ?_
       rotate_left
       ·intro w'
        go_simp
        with_reducible rfl
       rotate_left
       ·simp only [Act.put, List.setIfInBounds_toArray, List.set_cons_zero, List.set_cons_succ, i64_w, i32_w]
        rfl
       refine take_ (i := 1) (N := some 14) (v := ?_) (a' := ?_) (bb [2, 26]) rfl rfl (take_ofW HT_.out HW_.out (by kernel_rfl)) (fun _ _ _ h => h) (Or.inl ⟨by rfl, ?_⟩) hHeld ?_ ?_
       rotate_left
       ·rintro w' ⟨s0, s1, s2⟩
        go_simp
        with_reducible rfl
       rotate_left
       ·simp only [Act.put, List.setIfInBounds_toArray, List.set_cons_zero, List.set_cons_succ, i64_w, i32_w]
        rfl
       refine one_ (i := 2) (N := some 15) (bb [3, 25]) rfl rfl (one_of HT_.out (by kernel_rfl)) (by decide) (fun K hK => ?_)
       refine goes_ Tryz.func120 (by kernel_rfl) rfl #[.string ((rd_T31 l0 x9_1).f0)] (by rfl) rfl rfl (by (try simp only [List.map_toArray, List.map_cons, List.map_nil]); first | done | rfl | (simp only [List.length_drop, List.length_take]; rfl)) ?_
       with_reducible refine (spec_Word.calls k1 ((rd_T31 l0 x9_1).f0) true _ A8.out).mono ?_
       rintro e w' ⟨rfl, ⟨nd, rfl⟩⟩
       refine ⟨_, rfl, ?_⟩
       refine hK.out _ _ ⟨(blk_cell BK741.out 0).trans rfl, (blk_cell BK741.out 1).trans rfl, (blk_cell BK741.out 2).trans rfl⟩ (fun hHeld => ?_)
       clear hK K
       refine norm_ (a' := ?_) ?_ ?_
       rotate_left
       ·show Act.put _ (some 15) _ = _
        simp only [Act.put, List.setIfInBounds_toArray, List.set_cons_zero, List.set_cons_succ, i64_w, i32_w]
        rfl
       refine pure_ (i := 3) (N := some 16) (v := ?_) (a' := ?_) (bb [4, 24]) rfl rfl (any_of HT_.out (by kernel_rfl)) (fun _ _ _ h => h) (Or.inl ⟨by rfl, ?_⟩) ?_ ?_
       rotate_left
       ·intro w'
        go_simp
        with_reducible rfl
       rotate_left
       ·simp only [Act.put, List.setIfInBounds_toArray, List.set_cons_zero, List.set_cons_succ, i64_w, i32_w]
        rfl
       refine pure_ (i := 4) (N := some 17) (v := ?_) (a' := ?_) (bb [5, 23]) rfl rfl (any_of HT_.out (by kernel_rfl)) (fun _ _ _ h => h) (Or.inl ⟨by rfl, ?_⟩) ?_ ?_
       rotate_left
       ·intro w'
        go_simp
        with_reducible rfl
       rotate_left
       ·simp only [Act.put, List.setIfInBounds_toArray, List.set_cons_zero, List.set_cons_succ, i64_w, i32_w]
        rfl
       refine take_ (i := 5) (N := some 18) (v := ?_) (a' := ?_) (bb [6, 22]) rfl rfl (take_ofW HT_.out HW_.out (by kernel_rfl)) (fun _ _ _ h => h) (Or.inl ⟨by rfl, ?_⟩) hHeld ?_ ?_
       rotate_left
       ·rintro w' ⟨s0, s1, s2⟩
        go_simp
        with_reducible rfl
       rotate_left
       ·simp only [Act.put, List.setIfInBounds_toArray, List.set_cons_zero, List.set_cons_succ, i64_w, i32_w]
        rfl
       refine one_ (i := 6) (N := some 19) (bb [7, 21]) rfl rfl (one_of HT_.out (by kernel_rfl)) (by decide) (fun K hK => ?_)
       refine goes_ Tryz.func49 (by kernel_rfl) rfl #[.agg #[.string ((rd_T31 l0 x9_1).f0), .slice A740_1 ((rd_T31 l0 x9_1).f1).length c740_1, .slice A740_2 ((rd_T31 l0 x9_1).f2).length c740_2], .int .i64 3, .int .i64 1] (by rfl) rfl rfl (by (try simp only [List.map_toArray, List.map_cons, List.map_nil]); first | done | rfl | (simp only [List.length_drop, List.length_take]; rfl)) ?_
       with_reducible refine (spec_sized.calls ((rd_T31 l0 x9_1).f0) _ _ ((rd_T31 l0 x9_1).f1) _ _ ((rd_T31 l0 x9_1).f2) 3 1 false _ ?side1 ?side2 ?side3 ?side4 A10.out).mono ?_
       (case side1 => repeat (first | exact (Kd.C_below HR740_1.out (by repeat (first | (with_reducible first | exact HB.out | apply below_alloc | apply pw_below_drewN | apply below_drew1 | refine below_set ?_ GE741.out) | exact HB.out))) | (with_reducible refine Kd.C_alloc ?_ _) | (with_reducible refine Kd.C_drewN ?_ _) | (with_reducible refine Kd.C_drew ?_)))
       (case side2 => exact HC740_1.out)
       (case side3 => repeat (first | exact (Kd.C_below HR740_2.out (by repeat (first | (with_reducible first | exact HB.out | apply below_alloc | apply pw_below_drewN | apply below_drew1 | refine below_set ?_ GE741.out) | exact HB.out))) | (with_reducible refine Kd.C_alloc ?_ _) | (with_reducible refine Kd.C_drewN ?_ _) | (with_reducible refine Kd.C_drew ?_)))
       (case side4 => exact HC740_2.out)
       rintro e w28 ⟨rfl, hb⟩
       refine ⟨_, rfl, ?_⟩
       have n0_ := Aside0.mk (blk_below (g := gb741) (o := .cells #[.string ((rd_T31 l0 x9_1).f0), .slice A740_1 ((rd_T31 l0 x9_1).f1).length c740_1, .slice A740_2 ((rd_T31 l0 x9_1).f2).length c740_2] 31 (0, 0)) (by (with_reducible repeat (first | refine blk_drewN ?_ _ | refine blk_drew ?_ | refine blk_alloc ?_ _)); exact BK741.out) hb)
       have n1_ := Aside0.mk (below_step (by repeat (first | (with_reducible first | exact HB.out | apply below_alloc | apply pw_below_drewN | apply below_drew1 | refine below_set ?_ GE741.out) | exact HB.out)) hb)
       clear BK741
       clear HB
       have BK741 := n0_
       have HB := n1_
       clear n0_ n1_
       (try clear hb)
       (try clear hb2)
       (try clear hk)
       (try clear hi)
       refine hK.out _ _ ⟨(blk_cell BK741.out 0).trans rfl, (blk_cell BK741.out 1).trans rfl, (blk_cell BK741.out 2).trans rfl⟩ (fun hHeld => ?_)
       clear hK K
       refine norm_ (a' := ?_) ?_ ?_
       rotate_left
       ·show Act.put _ (some 19) _ = _
        simp only [Act.put, List.setIfInBounds_toArray, List.set_cons_zero, List.set_cons_succ, i64_w, i32_w]
        rfl
       refine pure_ (i := 7) (N := some 20) (v := ?_) (a' := ?_) (bb [8, 20]) rfl rfl (any_of HT_.out (by kernel_rfl)) (fun _ _ _ h => h) (Or.inl ⟨by rfl, ?_⟩) ?_ ?_
       rotate_left
       ·intro w'
        go_simp
        with_reducible rfl
       rotate_left
       ·simp only [Act.put, List.setIfInBounds_toArray, List.set_cons_zero, List.set_cons_succ, i64_w, i32_w]
        rfl
       refine pure_ (i := 8) (N := some 21) (v := ?_) (a' := ?_) (bb [9, 19]) rfl rfl (any_of HT_.out (by kernel_rfl)) (fun _ _ _ h => h) (Or.inl ⟨by rfl, ?_⟩) ?_ ?_
       rotate_left
       ·intro w'
        go_simp
        with_reducible rfl
       rotate_left
       ·simp only [Act.put, List.setIfInBounds_toArray, List.set_cons_zero, List.set_cons_succ, i64_w, i32_w]
        rfl
       refine pure_ (i := 9) (N := some 22) (v := ?_) (a' := ?_) (bb [10, 18]) rfl rfl (any_of HT_.out (by kernel_rfl)) (fun _ _ _ h => h) (Or.inl ⟨by rfl, ?_⟩) ?_ ?_
       rotate_left
       ·intro w'
        go_simp
        with_reducible rfl
       rotate_left
       ·simp only [Act.put, List.setIfInBounds_toArray, List.set_cons_zero, List.set_cons_succ, i64_w, i32_w]
        rfl
       refine pure_ (i := 10) (N := some 23) (v := undef) (a' := ?_) (bb [11, 17]) rfl rfl (any_of HT_.out (by kernel_rfl)) (fun _ _ _ h => h) (Or.inr ⟨by rfl, rfl⟩) ?_ ?_
       rotate_left
       ·simp only [Act.put, List.setIfInBounds_toArray, List.set_cons_zero, List.set_cons_succ, i64_w, i32_w]
        rfl
       refine pure_ (i := 11) (N := some 24) (v := undef) (a' := ?_) (bb [12, 16]) rfl rfl (any_of HT_.out (by kernel_rfl)) (fun _ _ _ h => h) (Or.inr ⟨by rfl, rfl⟩) ?_ ?_
       rotate_left
       ·simp only [Act.put, List.setIfInBounds_toArray, List.set_cons_zero, List.set_cons_succ, i64_w, i32_w]
        rfl
       refine pure_ (i := 12) (N := some 25) (v := undef) (a' := ?_) (bb [13, 15]) rfl rfl (any_of HT_.out (by kernel_rfl)) (fun _ _ _ h => h) (Or.inr ⟨by rfl, rfl⟩) ?_ ?_
       rotate_left
       ·simp only [Act.put, List.setIfInBounds_toArray, List.set_cons_zero, List.set_cons_succ, i64_w, i32_w]
        rfl
       refine pure_ (i := 13) (N := some 26) (v := undef) (a' := ?_) (bb [14, 14]) rfl rfl (any_of HT_.out (by kernel_rfl)) (fun _ _ _ h => h) (Or.inr ⟨by rfl, rfl⟩) ?_ ?_
       rotate_left
       ·simp only [Act.put, List.setIfInBounds_toArray, List.set_cons_zero, List.set_cons_succ, i64_w, i32_w]
        rfl
       refine pure_ (i := 14) (N := some 27) (v := ?_) (a' := ?_) (bb [15, 13]) rfl rfl (any_of HT_.out (by kernel_rfl)) (fun _ _ _ h => h) (Or.inl ⟨by rfl, ?_⟩) ?_ ?_
       rotate_left
       ·intro w'
        go_simp
        with_reducible rfl
       rotate_left
       ·simp only [Act.put, List.setIfInBounds_toArray, List.set_cons_zero, List.set_cons_succ, i64_w, i32_w]
        rfl
       refine pure_ (i := 15) (N := some 28) (v := ?_) (a' := ?_) (bb [16, 12]) rfl rfl (any_of HT_.out (by kernel_rfl)) (fun _ _ _ h => h) (Or.inl ⟨by rfl, ?_⟩) ?_ ?_
       rotate_left
       ·intro w'
        go_simp
        with_reducible rfl
       rotate_left
       ·simp only [Act.put, List.setIfInBounds_toArray, List.set_cons_zero, List.set_cons_succ, i64_w, i32_w]
        rfl
       refine pure_ (i := 16) (N := some 29) (v := undef) (a' := ?_) (bb [17, 11]) rfl rfl (any_of HT_.out (by kernel_rfl)) (fun _ _ _ h => h) (Or.inr ⟨by rfl, rfl⟩) ?_ ?_
       rotate_left
       ·simp only [Act.put, List.setIfInBounds_toArray, List.set_cons_zero, List.set_cons_succ, i64_w, i32_w]
        rfl
       refine pure_ (i := 17) (N := some 30) (v := undef) (a' := ?_) (bb [18, 10]) rfl rfl (any_of HT_.out (by kernel_rfl)) (fun _ _ _ h => h) (Or.inr ⟨by rfl, rfl⟩) ?_ ?_
       rotate_left
       ·simp only [Act.put, List.setIfInBounds_toArray, List.set_cons_zero, List.set_cons_succ, i64_w, i32_w]
        rfl
       refine pure_ (i := 18) (N := some 31) (v := undef) (a' := ?_) (bb [19, 9]) rfl rfl (any_of HT_.out (by kernel_rfl)) (fun _ _ _ h => h) (Or.inr ⟨by rfl, rfl⟩) ?_ ?_
       rotate_left
       ·simp only [Act.put, List.setIfInBounds_toArray, List.set_cons_zero, List.set_cons_succ, i64_w, i32_w]
        rfl
       refine pure_ (i := 19) (N := some 32) (v := undef) (a' := ?_) (bb [20, 8]) rfl rfl (any_of HT_.out (by kernel_rfl)) (fun _ _ _ h => h) (Or.inr ⟨by rfl, rfl⟩) ?_ ?_
       rotate_left
       ·simp only [Act.put, List.setIfInBounds_toArray, List.set_cons_zero, List.set_cons_succ, i64_w, i32_w]
        rfl
       refine pure_ (i := 20) (N := some 33) (v := undef) (a' := ?_) (bb [21, 7]) rfl rfl (any_of HT_.out (by kernel_rfl)) (fun _ _ _ h => h) (Or.inr ⟨by rfl, rfl⟩) ?_ ?_
       rotate_left
       ·simp only [Act.put, List.setIfInBounds_toArray, List.set_cons_zero, List.set_cons_succ, i64_w, i32_w]
        rfl
       refine pure_ (i := 21) (N := some 34) (v := undef) (a' := ?_) (bb [22, 6]) rfl rfl (any_of HT_.out (by kernel_rfl)) (fun _ _ _ h => h) (Or.inr ⟨by rfl, rfl⟩) ?_ ?_
       rotate_left
       ·simp only [Act.put, List.setIfInBounds_toArray, List.set_cons_zero, List.set_cons_succ, i64_w, i32_w]
        rfl
       refine pure_ (i := 22) (N := some 35) (v := undef) (a' := ?_) (bb [23, 5]) rfl rfl (any_of HT_.out (by kernel_rfl)) (fun _ _ _ h => h) (Or.inr ⟨by rfl, rfl⟩) ?_ ?_
       rotate_left
       ·simp only [Act.put, List.setIfInBounds_toArray, List.set_cons_zero, List.set_cons_succ, i64_w, i32_w]
        rfl
       refine pure_ (i := 23) (N := some 36) (v := undef) (a' := ?_) (bb [24, 4]) rfl rfl (any_of HT_.out (by kernel_rfl)) (fun _ _ _ h => h) (Or.inr ⟨by rfl, rfl⟩) ?_ ?_
       rotate_left
       ·simp only [Act.put, List.setIfInBounds_toArray, List.set_cons_zero, List.set_cons_succ, i64_w, i32_w]
        rfl
       refine pure_ (i := 24) (N := some 37) (v := undef) (a' := ?_) (bb [25, 3]) rfl rfl (any_of HT_.out (by kernel_rfl)) (fun _ _ _ h => h) (Or.inr ⟨by rfl, rfl⟩) ?_ ?_
       rotate_left
       ·simp only [Act.put, List.setIfInBounds_toArray, List.set_cons_zero, List.set_cons_succ, i64_w, i32_w]
        rfl
       refine pure_ (i := 25) (N := some 38) (v := undef) (a' := ?_) (bb [26, 2]) rfl rfl (any_of HT_.out (by kernel_rfl)) (fun _ _ _ h => h) (Or.inr ⟨by rfl, rfl⟩) ?_ ?_
       rotate_left
       ·simp only [Act.put, List.setIfInBounds_toArray, List.set_cons_zero, List.set_cons_succ, i64_w, i32_w]
        rfl
       refine pure_ (i := 26) (N := some 39) (v := undef) (a' := ?_) (bb [27, 1]) rfl rfl (any_of HT_.out (by kernel_rfl)) (fun _ _ _ h => h) (Or.inr ⟨by rfl, rfl⟩) ?_ ?_
       rotate_left
       ·simp only [Act.put, List.setIfInBounds_toArray, List.set_cons_zero, List.set_cons_succ, i64_w, i32_w]
        rfl
       refine pure_ (i := 27) (N := some 40) (v := ?_) (a' := ?_) (bb [28]) rfl rfl (any_of HT_.out (by kernel_rfl)) (fun _ _ _ h => h) (Or.inl ⟨by rfl, ?_⟩) ?_ ?_
       rotate_left
       ·intro w'
        go_simp
        with_reducible rfl
       rotate_left
       ·simp only [Act.put, List.setIfInBounds_toArray, List.set_cons_zero, List.set_cons_succ, i64_w, i32_w]
        rfl
       refine done_ (done_of HT_.out (by kernel_rfl)) ?_
       try go_wp2
       go_meet
       case rel => exact ⟨_, (true), (by first | rfl | (simp; done) | (simp [*]; done)), H', ⟨by have := HK1.out; first | omega | exact Nat.le_refl _⟩, ⟨by (with_reducible repeat (first | refine blk_drewN ?_ _ | refine blk_drew ?_ | refine blk_alloc ?_ _)); exact BK741.out⟩, ⟨by repeat (first | (with_reducible first | exact HB.out | apply below_alloc | apply pw_below_drewN | apply below_drew1 | refine below_set ?_ GE741.out) | exact HB.out)⟩⟩
     ·replace c9 := Bool.eq_false_iff.mpr c9
      subst c9
      have H1 : (spec_SwapsPrint.j1 k1 x4_1 l0 (l0.length : Int) x9_1 true ((rd_T31 l0 x9_1).f0) ((rd_T31 l0 x9_1).f1) ((rd_T31 l0 x9_1).f2)) = some (r1, r2) := by rw [if_neg (show ¬ (false = true) by decide)] at H; exact H
      clear H
      have H := H1
      clear H1
      have H' := Aside0.mk H
      clear H
      try go_wp2
      have n0_ : Aside0 ((((w6.setCell ⟨gb741, 0, none⟩ (.string ((rd_T31 l0 x9_1).f0))).setCell ⟨gb741, 1, none⟩ (.slice A740_1 ((rd_T31 l0 x9_1).f1).length c740_1)).setCell ⟨gb741, 2, none⟩ (.slice A740_2 ((rd_T31 l0 x9_1).f2).length c740_2)).heap[gb741]? = some (.cells #[.string ((rd_T31 l0 x9_1).f0), .slice A740_1 ((rd_T31 l0 x9_1).f1).length c740_1, .slice A740_2 ((rd_T31 l0 x9_1).f2).length c740_2] 31 (0, 0))) := ⟨by (with_reducible repeat (first | refine blk_drewN ?_ _ | refine blk_drew ?_ | refine blk_alloc ?_ _)); refine blk_put (cs := #[.string ((rd_T31 l0 x9_1).f0), .slice A740_1 ((rd_T31 l0 x9_1).f1).length c740_1, .slice none 0 0]) ?_ 2 _ rfl; (with_reducible repeat (first | refine blk_drewN ?_ _ | refine blk_drew ?_ | refine blk_alloc ?_ _)); refine blk_put (cs := #[.string ((rd_T31 l0 x9_1).f0), .slice none 0 0, .slice none 0 0]) ?_ 1 _ rfl; (with_reducible repeat (first | refine blk_drewN ?_ _ | refine blk_drew ?_ | refine blk_alloc ?_ _)); refine blk_put (cs := #[.string (⟨#[]⟩ : ByteArray), .slice none 0 0, .slice none 0 0]) ?_ 0 _ rfl; (with_reducible repeat (first | refine blk_drewN ?_ _ | refine blk_drew ?_ | refine blk_alloc ?_ _)); exact BK741.out⟩
      have n1_ : Aside0 (Below w.heap.size w (((w6.setCell ⟨gb741, 0, none⟩ (.string ((rd_T31 l0 x9_1).f0))).setCell ⟨gb741, 1, none⟩ (.slice A740_1 ((rd_T31 l0 x9_1).f1).length c740_1)).setCell ⟨gb741, 2, none⟩ (.slice A740_2 ((rd_T31 l0 x9_1).f2).length c740_2))) := ⟨by repeat (first | (with_reducible first | exact HB.out | apply below_alloc | apply pw_below_drewN | apply below_drew1 | refine below_set ?_ GE741.out) | exact HB.out)⟩
      (try clear BK741)
      (try clear HB)
      generalize (((w6.setCell ⟨gb741, 0, none⟩ (.string ((rd_T31 l0 x9_1).f0))).setCell ⟨gb741, 1, none⟩ (.slice A740_1 ((rd_T31 l0 x9_1).f1).length c740_1)).setCell ⟨gb741, 2, none⟩ (.slice A740_2 ((rd_T31 l0 x9_1).f2).length c740_2)) = w29 at n0_ n1_ ⊢
      have BK741 := n0_
      have HB := n1_
      clear n0_ n1_
      have n0_ := Aside0.mk (blk_drew BK741.out)
      have n1_ := Aside0.mk (below_drew1 HB.out)
      clear BK741
      clear HB
      have BK741 := n0_
      have HB := n1_
      clear n0_ n1_
      refine start_ (n := 28) (S := fun w' => w'.cell? ⟨gb741, 0, none⟩ = some (.string ((rd_T31 l0 x9_1).f0)) ∧ w'.cell? ⟨gb741, 1, none⟩ = some (.slice A740_1 ((rd_T31 l0 x9_1).f1).length c740_1) ∧ w'.cell? ⟨gb741, 2, none⟩ = some (.slice A740_2 ((rd_T31 l0 x9_1).f2).length c740_2)) (ds := []) (bb [0, 28]) (by kernel_rfl) rfl rfl ⟨(blk_cell BK741.out 0).trans rfl, (blk_cell BK741.out 1).trans rfl, (blk_cell BK741.out 2).trans rfl⟩ (fun hHeld => ?_); refine with_tabW spec_SwapsPrint.tab5 spec_SwapsPrint.bits5 (fun HT_ HW_ => ?_)
      generalize w29.drew = w30 at BK741 HB hHeld ⊢
      refine pure_ (i := 0) (N := some 13) (v := ?_) (a' := ?_) (bb [1, 27]) rfl rfl (any_of HT_.out (by kernel_rfl)) (fun _ _ _ h => h) (Or.inl ⟨by rfl, ?_⟩) ?_ ?_
      rotate_left
      ·intro w'
       go_simp
       with_reducible rfl
      rotate_left
      ·simp only [Act.put, List.setIfInBounds_toArray, List.set_cons_zero, List.set_cons_succ, i64_w, i32_w]
       rfl
      refine take_ (i := 1) (N := some 14) (v := ?_) (a' := ?_) (bb [2, 26]) rfl rfl (take_ofW HT_.out HW_.out (by kernel_rfl)) (fun _ _ _ h => h) (Or.inl ⟨by rfl, ?_⟩) hHeld ?_ ?_
      rotate_left
      ·rintro w' ⟨s0, s1, s2⟩
       go_simp
       with_reducible rfl
      rotate_left
      ·simp only [Act.put, List.setIfInBounds_toArray, List.set_cons_zero, List.set_cons_succ, i64_w, i32_w]
       rfl
      refine one_ (i := 2) (N := some 15) (bb [3, 25]) rfl rfl (one_of HT_.out (by kernel_rfl)) (by decide) (fun K hK => ?_)
      refine goes_ Tryz.func120 (by kernel_rfl) rfl #[.string ((rd_T31 l0 x9_1).f0)] (by rfl) rfl rfl (by (try simp only [List.map_toArray, List.map_cons, List.map_nil]); first | done | rfl | (simp only [List.length_drop, List.length_take]; rfl)) ?_
      with_reducible refine (spec_Word.calls k1 ((rd_T31 l0 x9_1).f0) false _ A8.out).mono ?_
      rintro e w' ⟨rfl, ⟨nd, rfl⟩⟩
      refine ⟨_, rfl, ?_⟩
      refine hK.out _ _ ⟨(blk_cell BK741.out 0).trans rfl, (blk_cell BK741.out 1).trans rfl, (blk_cell BK741.out 2).trans rfl⟩ (fun hHeld => ?_)
      clear hK K
      refine norm_ (a' := ?_) ?_ ?_
      rotate_left
      ·show Act.put _ (some 15) _ = _
       simp only [Act.put, List.setIfInBounds_toArray, List.set_cons_zero, List.set_cons_succ, i64_w, i32_w]
       rfl
      refine pure_ (i := 3) (N := some 16) (v := ?_) (a' := ?_) (bb [4, 24]) rfl rfl (any_of HT_.out (by kernel_rfl)) (fun _ _ _ h => h) (Or.inl ⟨by rfl, ?_⟩) ?_ ?_
      rotate_left
      ·intro w'
       go_simp
       with_reducible rfl
      rotate_left
      ·simp only [Act.put, List.setIfInBounds_toArray, List.set_cons_zero, List.set_cons_succ, i64_w, i32_w]
       rfl
      refine pure_ (i := 4) (N := some 17) (v := ?_) (a' := ?_) (bb [5, 23]) rfl rfl (any_of HT_.out (by kernel_rfl)) (fun _ _ _ h => h) (Or.inl ⟨by rfl, ?_⟩) ?_ ?_
      rotate_left
      ·intro w'
       go_simp
       with_reducible rfl
      rotate_left
      ·simp only [Act.put, List.setIfInBounds_toArray, List.set_cons_zero, List.set_cons_succ, i64_w, i32_w]
       rfl
      refine pure_ (i := 5) (N := some 18) (v := undef) (a' := ?_) (bb [6, 22]) rfl rfl (any_of HT_.out (by kernel_rfl)) (fun _ _ _ h => h) (Or.inr ⟨by rfl, rfl⟩) ?_ ?_
      rotate_left
      ·simp only [Act.put, List.setIfInBounds_toArray, List.set_cons_zero, List.set_cons_succ, i64_w, i32_w]
       rfl
      refine pure_ (i := 6) (N := some 19) (v := undef) (a' := ?_) (bb [7, 21]) rfl rfl (any_of HT_.out (by kernel_rfl)) (fun _ _ _ h => h) (Or.inr ⟨by rfl, rfl⟩) ?_ ?_
      rotate_left
      ·simp only [Act.put, List.setIfInBounds_toArray, List.set_cons_zero, List.set_cons_succ, i64_w, i32_w]
       rfl
      refine pure_ (i := 7) (N := some 20) (v := undef) (a' := ?_) (bb [8, 20]) rfl rfl (any_of HT_.out (by kernel_rfl)) (fun _ _ _ h => h) (Or.inr ⟨by rfl, rfl⟩) ?_ ?_
      rotate_left
      ·simp only [Act.put, List.setIfInBounds_toArray, List.set_cons_zero, List.set_cons_succ, i64_w, i32_w]
       rfl
      refine pure_ (i := 8) (N := some 21) (v := ?_) (a' := ?_) (bb [9, 19]) rfl rfl (any_of HT_.out (by kernel_rfl)) (fun _ _ _ h => h) (Or.inl ⟨by rfl, ?_⟩) ?_ ?_
      rotate_left
      ·intro w'
       go_simp
       with_reducible rfl
      rotate_left
      ·simp only [Act.put, List.setIfInBounds_toArray, List.set_cons_zero, List.set_cons_succ, i64_w, i32_w]
       rfl
      refine pure_ (i := 9) (N := some 22) (v := ?_) (a' := ?_) (bb [10, 18]) rfl rfl (any_of HT_.out (by kernel_rfl)) (fun _ _ _ h => h) (Or.inl ⟨by rfl, ?_⟩) ?_ ?_
      rotate_left
      ·intro w'
       go_simp
       with_reducible rfl
      rotate_left
      ·simp only [Act.put, List.setIfInBounds_toArray, List.set_cons_zero, List.set_cons_succ, i64_w, i32_w]
       rfl
      refine pure_ (i := 10) (N := some 23) (v := undef) (a' := ?_) (bb [11, 17]) rfl rfl (any_of HT_.out (by kernel_rfl)) (fun _ _ _ h => h) (Or.inr ⟨by rfl, rfl⟩) ?_ ?_
      rotate_left
      ·simp only [Act.put, List.setIfInBounds_toArray, List.set_cons_zero, List.set_cons_succ, i64_w, i32_w]
       rfl
      refine pure_ (i := 11) (N := some 24) (v := undef) (a' := ?_) (bb [12, 16]) rfl rfl (any_of HT_.out (by kernel_rfl)) (fun _ _ _ h => h) (Or.inr ⟨by rfl, rfl⟩) ?_ ?_
      rotate_left
      ·simp only [Act.put, List.setIfInBounds_toArray, List.set_cons_zero, List.set_cons_succ, i64_w, i32_w]
       rfl
      refine pure_ (i := 12) (N := some 25) (v := undef) (a' := ?_) (bb [13, 15]) rfl rfl (any_of HT_.out (by kernel_rfl)) (fun _ _ _ h => h) (Or.inr ⟨by rfl, rfl⟩) ?_ ?_
      rotate_left
      ·simp only [Act.put, List.setIfInBounds_toArray, List.set_cons_zero, List.set_cons_succ, i64_w, i32_w]
       rfl
      refine pure_ (i := 13) (N := some 26) (v := undef) (a' := ?_) (bb [14, 14]) rfl rfl (any_of HT_.out (by kernel_rfl)) (fun _ _ _ h => h) (Or.inr ⟨by rfl, rfl⟩) ?_ ?_
      rotate_left
      ·simp only [Act.put, List.setIfInBounds_toArray, List.set_cons_zero, List.set_cons_succ, i64_w, i32_w]
       rfl
      refine pure_ (i := 14) (N := some 27) (v := ?_) (a' := ?_) (bb [15, 13]) rfl rfl (any_of HT_.out (by kernel_rfl)) (fun _ _ _ h => h) (Or.inl ⟨by rfl, ?_⟩) ?_ ?_
      rotate_left
      ·intro w'
       go_simp
       with_reducible rfl
      rotate_left
      ·simp only [Act.put, List.setIfInBounds_toArray, List.set_cons_zero, List.set_cons_succ, i64_w, i32_w]
       rfl
      refine pure_ (i := 15) (N := some 28) (v := ?_) (a' := ?_) (bb [16, 12]) rfl rfl (any_of HT_.out (by kernel_rfl)) (fun _ _ _ h => h) (Or.inl ⟨by rfl, ?_⟩) ?_ ?_
      rotate_left
      ·intro w'
       go_simp
       with_reducible rfl
      rotate_left
      ·simp only [Act.put, List.setIfInBounds_toArray, List.set_cons_zero, List.set_cons_succ, i64_w, i32_w]
       rfl
      refine pure_ (i := 16) (N := some 29) (v := undef) (a' := ?_) (bb [17, 11]) rfl rfl (any_of HT_.out (by kernel_rfl)) (fun _ _ _ h => h) (Or.inr ⟨by rfl, rfl⟩) ?_ ?_
      rotate_left
      ·simp only [Act.put, List.setIfInBounds_toArray, List.set_cons_zero, List.set_cons_succ, i64_w, i32_w]
       rfl
      refine pure_ (i := 17) (N := some 30) (v := undef) (a' := ?_) (bb [18, 10]) rfl rfl (any_of HT_.out (by kernel_rfl)) (fun _ _ _ h => h) (Or.inr ⟨by rfl, rfl⟩) ?_ ?_
      rotate_left
      ·simp only [Act.put, List.setIfInBounds_toArray, List.set_cons_zero, List.set_cons_succ, i64_w, i32_w]
       rfl
      refine pure_ (i := 18) (N := some 31) (v := undef) (a' := ?_) (bb [19, 9]) rfl rfl (any_of HT_.out (by kernel_rfl)) (fun _ _ _ h => h) (Or.inr ⟨by rfl, rfl⟩) ?_ ?_
      rotate_left
      ·simp only [Act.put, List.setIfInBounds_toArray, List.set_cons_zero, List.set_cons_succ, i64_w, i32_w]
       rfl
      refine pure_ (i := 19) (N := some 32) (v := undef) (a' := ?_) (bb [20, 8]) rfl rfl (any_of HT_.out (by kernel_rfl)) (fun _ _ _ h => h) (Or.inr ⟨by rfl, rfl⟩) ?_ ?_
      rotate_left
      ·simp only [Act.put, List.setIfInBounds_toArray, List.set_cons_zero, List.set_cons_succ, i64_w, i32_w]
       rfl
      refine pure_ (i := 20) (N := some 33) (v := undef) (a' := ?_) (bb [21, 7]) rfl rfl (any_of HT_.out (by kernel_rfl)) (fun _ _ _ h => h) (Or.inr ⟨by rfl, rfl⟩) ?_ ?_
      rotate_left
      ·simp only [Act.put, List.setIfInBounds_toArray, List.set_cons_zero, List.set_cons_succ, i64_w, i32_w]
       rfl
      refine pure_ (i := 21) (N := some 34) (v := undef) (a' := ?_) (bb [22, 6]) rfl rfl (any_of HT_.out (by kernel_rfl)) (fun _ _ _ h => h) (Or.inr ⟨by rfl, rfl⟩) ?_ ?_
      rotate_left
      ·simp only [Act.put, List.setIfInBounds_toArray, List.set_cons_zero, List.set_cons_succ, i64_w, i32_w]
       rfl
      refine pure_ (i := 22) (N := some 35) (v := undef) (a' := ?_) (bb [23, 5]) rfl rfl (any_of HT_.out (by kernel_rfl)) (fun _ _ _ h => h) (Or.inr ⟨by rfl, rfl⟩) ?_ ?_
      rotate_left
      ·simp only [Act.put, List.setIfInBounds_toArray, List.set_cons_zero, List.set_cons_succ, i64_w, i32_w]
       rfl
      refine pure_ (i := 23) (N := some 36) (v := undef) (a' := ?_) (bb [24, 4]) rfl rfl (any_of HT_.out (by kernel_rfl)) (fun _ _ _ h => h) (Or.inr ⟨by rfl, rfl⟩) ?_ ?_
      rotate_left
      ·simp only [Act.put, List.setIfInBounds_toArray, List.set_cons_zero, List.set_cons_succ, i64_w, i32_w]
       rfl
      refine pure_ (i := 24) (N := some 37) (v := undef) (a' := ?_) (bb [25, 3]) rfl rfl (any_of HT_.out (by kernel_rfl)) (fun _ _ _ h => h) (Or.inr ⟨by rfl, rfl⟩) ?_ ?_
      rotate_left
      ·simp only [Act.put, List.setIfInBounds_toArray, List.set_cons_zero, List.set_cons_succ, i64_w, i32_w]
       rfl
      refine pure_ (i := 25) (N := some 38) (v := undef) (a' := ?_) (bb [26, 2]) rfl rfl (any_of HT_.out (by kernel_rfl)) (fun _ _ _ h => h) (Or.inr ⟨by rfl, rfl⟩) ?_ ?_
      rotate_left
      ·simp only [Act.put, List.setIfInBounds_toArray, List.set_cons_zero, List.set_cons_succ, i64_w, i32_w]
       rfl
      refine pure_ (i := 26) (N := some 39) (v := undef) (a' := ?_) (bb [27, 1]) rfl rfl (any_of HT_.out (by kernel_rfl)) (fun _ _ _ h => h) (Or.inr ⟨by rfl, rfl⟩) ?_ ?_
      rotate_left
      ·simp only [Act.put, List.setIfInBounds_toArray, List.set_cons_zero, List.set_cons_succ, i64_w, i32_w]
       rfl
      refine pure_ (i := 27) (N := some 40) (v := ?_) (a' := ?_) (bb [28]) rfl rfl (any_of HT_.out (by kernel_rfl)) (fun _ _ _ h => h) (Or.inl ⟨by rfl, ?_⟩) ?_ ?_
      rotate_left
      ·intro w'
       go_simp
       with_reducible rfl
      rotate_left
      ·simp only [Act.put, List.setIfInBounds_toArray, List.set_cons_zero, List.set_cons_succ, i64_w, i32_w]
       rfl
      refine done_ (done_of HT_.out (by kernel_rfl)) ?_
      try go_wp2
      go_meet
      case rel => exact ⟨_, (true), (by first | rfl | (simp; done) | (simp [*]; done)), H', ⟨by have := HK1.out; first | omega | exact Nat.le_refl _⟩, ⟨by (with_reducible repeat (first | refine blk_drewN ?_ _ | refine blk_drew ?_ | refine blk_alloc ?_ _)); exact BK741.out⟩, ⟨by repeat (first | (with_reducible first | exact HB.out | apply below_alloc | apply pw_below_drewN | apply below_drew1 | refine below_set ?_ GE741.out) | exact HB.out)⟩⟩
    case rest =>
     clear HC5
     try clear c1
     try clear p2
     try clear c4
     try clear c6
     try clear c7
     try clear c9
     try clear c11
     try clear c12
     obtain ⟨kq, x40_4, rfl, HA, HJ4, BK741, HB⟩ := hcut
     cases kq with
     | zero => exact absurd HA.out (by simp [spec_SwapsPrint.j1])
     | succ kj4 =>
      have H := HA.out
      clear HA
      simp only [spec_SwapsPrint.j1] at H
      by_cases c31 : x40_4 = true
      ·subst c31
       have H1 : (some ((⟨#[]⟩ : ByteArray), 2)) = some (r1, r2) := by rw [if_pos rfl] at H; exact H
       clear H
       have H := H1
       clear H1
       simp only [Option.some.injEq, Prod.mk.injEq] at H
       obtain ⟨rfl, rfl⟩ := H
       go_wp2
       go_ret2
       exact ⟨by first | rfl | (simp [errW_none, errW_some] <;> rfl) | (simp [*, errW_none, errW_some] <;> rfl), by repeat (first | (with_reducible first | exact HB.out | apply below_alloc | apply pw_below_drewN | apply below_drew1 | refine below_set ?_ GE741.out) | exact HB.out)⟩
      ·replace c31 := Bool.eq_false_iff.mpr c31
       subst c31
       have H1 : ((spec_Left.f kj4 ((rd_T31 l0 x9_1).f0) 39).bind fun t751 => (if t751.size + 1 ≤ 9223372036854775807 then (if 0 < (((rd_T31 l0 x9_1).f2).length : Int) then ((spec_Left.f kj4 (rdOf ByteArray.empty ((rd_T31 l0 x9_1).f2) 0) 15).bind fun t753 => (if (t751 ++ (⟨#[32]⟩ : ByteArray)).size + t753.size ≤ 9223372036854775807 then (if ((t751 ++ (⟨#[32]⟩ : ByteArray)) ++ t753).size + 1 ≤ 9223372036854775807 then (if 0 < (((rd_T31 l0 x9_1).f1).length : Int) then ((spec_Text.f kj4 (rd ((rd_T31 l0 x9_1).f1) 0)).bind fun t755 => (if (((t751 ++ (⟨#[32]⟩ : ByteArray)) ++ t753) ++ (⟨#[32]⟩ : ByteArray)).size + t755.size ≤ 9223372036854775807 then (if ((((t751 ++ (⟨#[32]⟩ : ByteArray)) ++ t753) ++ (⟨#[32]⟩ : ByteArray)) ++ t755).size + 1 ≤ 9223372036854775807 then (if 1 < (((rd_T31 l0 x9_1).f1).length : Int) then ((spec_Text.f kj4 (rd ((rd_T31 l0 x9_1).f1) 1)).bind fun t757 => (if (((((t751 ++ (⟨#[32]⟩ : ByteArray)) ++ t753) ++ (⟨#[32]⟩ : ByteArray)) ++ t755) ++ (⟨#[9]⟩ : ByteArray)).size + t757.size ≤ 9223372036854775807 then (if ((((((t751 ++ (⟨#[32]⟩ : ByteArray)) ++ t753) ++ (⟨#[32]⟩ : ByteArray)) ++ t755) ++ (⟨#[9]⟩ : ByteArray)) ++ t757).size + 1 ≤ 9223372036854775807 then (if 2 < (((rd_T31 l0 x9_1).f1).length : Int) then ((spec_SignedText.f kj4 (wrap64 (rd ((rd_T31 l0 x9_1).f1) 2))).bind fun t759 => (if (((((((t751 ++ (⟨#[32]⟩ : ByteArray)) ++ t753) ++ (⟨#[32]⟩ : ByteArray)) ++ t755) ++ (⟨#[9]⟩ : ByteArray)) ++ t757) ++ (⟨#[9]⟩ : ByteArray)).size + t759.size ≤ 9223372036854775807 then (if ((((((((t751 ++ (⟨#[32]⟩ : ByteArray)) ++ t753) ++ (⟨#[32]⟩ : ByteArray)) ++ t755) ++ (⟨#[9]⟩ : ByteArray)) ++ t757) ++ (⟨#[9]⟩ : ByteArray)) ++ t759).size + 1 ≤ 9223372036854775807 then (if x4_1.size + (((((((((t751 ++ (⟨#[32]⟩ : ByteArray)) ++ t753) ++ (⟨#[32]⟩ : ByteArray)) ++ t755) ++ (⟨#[9]⟩ : ByteArray)) ++ t757) ++ (⟨#[9]⟩ : ByteArray)) ++ t759) ++ (⟨#[10]⟩ : ByteArray)).size ≤ 9223372036854775807 then (spec_SwapsPrint.l0 kj4 (x4_1 ++ (((((((((t751 ++ (⟨#[32]⟩ : ByteArray)) ++ t753) ++ (⟨#[32]⟩ : ByteArray)) ++ t755) ++ (⟨#[9]⟩ : ByteArray)) ++ t757) ++ (⟨#[9]⟩ : ByteArray)) ++ t759) ++ (⟨#[10]⟩ : ByteArray))) l0 (l0.length : Int) (wrap64 (x9_1 + 1))) else (none)) else (none)) else (none))) else (none)) else (none)) else (none))) else (none)) else (none)) else (none))) else (none)) else (none)) else (none))) else (none)) else (none))) = some (r1, r2) := by rw [if_neg (show ¬ (false = true) by decide)] at H; exact H
       clear H
       have H := H1
       clear H1
       replace H := Option.bind_eq_some_iff.mp H
       obtain ⟨t751, A320, H⟩ := H
       try dsimp -simprocs only at H
       have A32 := Aside0.mk A320
       clear A320
       replace H := guard_inv H
       obtain ⟨c33, H⟩ := H
       have c33b0 := eq_true c33
       have c33b1 := decide_eq_true c33
       try have c33b2 := eq_false (Nat.not_lt.2 c33)
       replace H := guard_inv H
       obtain ⟨c34, H⟩ := H
       have c34b0 : decide (0 < (((rd_T31 l0 x9_1).f2).length : Int)) = true := decide_eq_true c34
       have c34b1 : decide (0 < ((rd_T31 l0 x9_1).f2).length) = true := decide_eq_true (by omega)
       clear c34
       replace H := Option.bind_eq_some_iff.mp H
       obtain ⟨t753, A350, H⟩ := H
       try dsimp -simprocs only at H
       have A35 := Aside0.mk A350
       clear A350
       replace H := guard_inv H
       obtain ⟨c36, H⟩ := H
       have c36b0 := eq_true c36
       have c36b1 := decide_eq_true c36
       try have c36b2 := eq_false (Nat.not_lt.2 c36)
       try have c36b5 : (9223372036854775807 < t751.size + 1 + t753.size) = False := by have e_ := c36b2; (repeat rw [ByteArray.size_append] at e_); exact e_
       replace H := guard_inv H
       obtain ⟨c37, H⟩ := H
       have c37b0 := eq_true c37
       have c37b1 := decide_eq_true c37
       try have c37b2 := eq_false (Nat.not_lt.2 c37)
       try have c37b5 : (9223372036854775807 < t751.size + 1 + t753.size + 1) = False := by have e_ := c37b2; (repeat rw [ByteArray.size_append] at e_); exact e_
       replace H := guard_inv H
       obtain ⟨c38, H⟩ := H
       have c38b0 : decide (0 < (((rd_T31 l0 x9_1).f1).length : Int)) = true := decide_eq_true c38
       have c38b1 : decide (0 < ((rd_T31 l0 x9_1).f1).length) = true := decide_eq_true (by omega)
       clear c38
       replace H := Option.bind_eq_some_iff.mp H
       obtain ⟨t755, A390, H⟩ := H
       try dsimp -simprocs only at H
       have A39 := Aside0.mk A390
       clear A390
       replace H := guard_inv H
       obtain ⟨c40, H⟩ := H
       have c40b0 := eq_true c40
       have c40b1 := decide_eq_true c40
       try have c40b2 := eq_false (Nat.not_lt.2 c40)
       try have c40b5 : (9223372036854775807 < t751.size + 1 + t753.size + 1 + t755.size) = False := by have e_ := c40b2; (repeat rw [ByteArray.size_append] at e_); exact e_
       replace H := guard_inv H
       obtain ⟨c41, H⟩ := H
       have c41b0 := eq_true c41
       have c41b1 := decide_eq_true c41
       try have c41b2 := eq_false (Nat.not_lt.2 c41)
       try have c41b5 : (9223372036854775807 < t751.size + 1 + t753.size + 1 + t755.size + 1) = False := by have e_ := c41b2; (repeat rw [ByteArray.size_append] at e_); exact e_
       replace H := guard_inv H
       obtain ⟨c42, H⟩ := H
       have c42b0 : decide (1 < (((rd_T31 l0 x9_1).f1).length : Int)) = true := decide_eq_true c42
       have c42b1 : decide (1 < ((rd_T31 l0 x9_1).f1).length) = true := decide_eq_true (by omega)
       clear c42
       replace H := Option.bind_eq_some_iff.mp H
       obtain ⟨t757, A430, H⟩ := H
       try dsimp -simprocs only at H
       have A43 := Aside0.mk A430
       clear A430
       replace H := guard_inv H
       obtain ⟨c44, H⟩ := H
       have c44b0 := eq_true c44
       have c44b1 := decide_eq_true c44
       try have c44b2 := eq_false (Nat.not_lt.2 c44)
       try have c44b5 : (9223372036854775807 < t751.size + 1 + t753.size + 1 + t755.size + 1 + t757.size) = False := by have e_ := c44b2; (repeat rw [ByteArray.size_append] at e_); exact e_
       replace H := guard_inv H
       obtain ⟨c45, H⟩ := H
       have c45b0 := eq_true c45
       have c45b1 := decide_eq_true c45
       try have c45b2 := eq_false (Nat.not_lt.2 c45)
       try have c45b5 : (9223372036854775807 < t751.size + 1 + t753.size + 1 + t755.size + 1 + t757.size + 1) = False := by have e_ := c45b2; (repeat rw [ByteArray.size_append] at e_); exact e_
       replace H := guard_inv H
       obtain ⟨c46, H⟩ := H
       have c46b0 : decide (2 < (((rd_T31 l0 x9_1).f1).length : Int)) = true := decide_eq_true c46
       have c46b1 : decide (2 < ((rd_T31 l0 x9_1).f1).length) = true := decide_eq_true (by omega)
       clear c46
       replace H := Option.bind_eq_some_iff.mp H
       obtain ⟨t759, A470, H⟩ := H
       try dsimp -simprocs only at H
       have A47 := Aside0.mk A470
       clear A470
       replace H := guard_inv H
       obtain ⟨c48, H⟩ := H
       have c48b0 := eq_true c48
       have c48b1 := decide_eq_true c48
       try have c48b2 := eq_false (Nat.not_lt.2 c48)
       try have c48b5 : (9223372036854775807 < t751.size + 1 + t753.size + 1 + t755.size + 1 + t757.size + 1 + t759.size) = False := by have e_ := c48b2; (repeat rw [ByteArray.size_append] at e_); exact e_
       replace H := guard_inv H
       obtain ⟨c49, H⟩ := H
       have c49b0 := eq_true c49
       have c49b1 := decide_eq_true c49
       try have c49b2 := eq_false (Nat.not_lt.2 c49)
       try have c49b5 : (9223372036854775807 < t751.size + 1 + t753.size + 1 + t755.size + 1 + t757.size + 1 + t759.size + 1) = False := by have e_ := c49b2; (repeat rw [ByteArray.size_append] at e_); exact e_
       replace H := guard_inv H
       obtain ⟨c50, H⟩ := H
       have c50b0 := eq_true c50
       have c50b1 := decide_eq_true c50
       try have c50b2 := eq_false (Nat.not_lt.2 c50)
       try have c50b5 : (9223372036854775807 < x4_1.size + (t751.size + 1 + t753.size + 1 + t755.size + 1 + t757.size + 1 + t759.size + 1)) = False := by have e_ := c50b2; (repeat rw [ByteArray.size_append] at e_); exact e_
       have H' := Aside0.mk H
       clear H
       try go_wp2
       have n0_ := Aside0.mk (blk_drew BK741.out)
       have n1_ := Aside0.mk (below_drew1 HB.out)
       clear BK741
       clear HB
       have BK741 := n0_
       have HB := n1_
       clear n0_ n1_
       have p752 : 0 ≤ (0 : Int) := (by omega)
       have q752 : 0 < (((rd_T31 l0 x9_1).f2).length : Int) := of_decide_eq_true (by first | (with_reducible assumption) | assumption)
       obtain ⟨ad752, e752, hx752_0⟩ := Kd.at_string HR740_2.out 0 p752 q752
       have hw752_0 := hx752_0
       (try rw [show ((0 : Int)).toNat = 0 from rfl] at hw752_0)
       (try rw [show 0 * 1 = 0 from rfl] at hw752_0)
       (try rw [Addr.add_zero'] at hw752_0)
       cases e752
       have qi752 : (0 < ((rd_T31 l0 x9_1).f2).length) = True := eq_true (by omega)
       (try rw [show ((0 : Int)).toNat = 0 from rfl] at hx752_0)
       (try rw [Addr.add_zero'] at hx752_0)
       replace hx752_0 := (HB.out.cell (World.block_lt_of_cell? w _ hx752_0)).trans hx752_0
       replace p752 := eq_true p752
       replace q752 := eq_true q752
       have p754 : 0 ≤ (0 : Int) := (by omega)
       have q754 : 0 < (((rd_T31 l0 x9_1).f1).length : Int) := of_decide_eq_true (by first | (with_reducible assumption) | assumption)
       obtain ⟨ad754, e754, hx754_0⟩ := Kd.at_int HR740_1.out 0 p754 q754
       have hw754_0 := hx754_0
       (try rw [show ((0 : Int)).toNat = 0 from rfl] at hw754_0)
       (try rw [show 0 * 1 = 0 from rfl] at hw754_0)
       (try rw [Addr.add_zero'] at hw754_0)
       cases e754
       have qi754 : (0 < ((rd_T31 l0 x9_1).f1).length) = True := eq_true (by omega)
       (try rw [show ((0 : Int)).toNat = 0 from rfl] at hx754_0)
       (try rw [Addr.add_zero'] at hx754_0)
       replace hx754_0 := (HB.out.cell (World.block_lt_of_cell? w _ hx754_0)).trans hx754_0
       replace p754 := eq_true p754
       replace q754 := eq_true q754
       have p756 : 0 ≤ (1 : Int) := (by omega)
       have q756 : 1 < (((rd_T31 l0 x9_1).f1).length : Int) := of_decide_eq_true (by first | (with_reducible assumption) | assumption)
       obtain ⟨ad756, e756, hx756_0⟩ := Kd.at_int HR740_1.out 1 p756 q756
       have hw756_0 := hx756_0
       (try rw [show ((1 : Int)).toNat = 1 from rfl] at hw756_0)
       (try rw [show 1 * 1 = 1 from rfl] at hw756_0)
       (try simp only [Nat.reduceMul, Nat.reduceEqDiff, Go.Addr.add, ↓reduceIte] at hw756_0)
       obtain rfl : ad754 = ad756 := (by injection e756)
       (try simp only [show (1 : Int).toNat = 1 from rfl, Nat.reduceMul, Nat.reduceEqDiff, Go.Addr.add, ↓reduceIte] at hx756_0)
       have qi756 : (1 < ((rd_T31 l0 x9_1).f1).length) = True := eq_true (by omega)
       (try rw [show ((1 : Int)).toNat = 1 from rfl] at hx756_0)
       replace hx756_0 := (HB.out.cell (World.block_lt_of_cell? w _ hx756_0)).trans hx756_0
       replace p756 := eq_true p756
       replace q756 := eq_true q756
       have p758 : 0 ≤ (2 : Int) := (by omega)
       have q758 : 2 < (((rd_T31 l0 x9_1).f1).length : Int) := of_decide_eq_true (by first | (with_reducible assumption) | assumption)
       obtain ⟨ad758, e758, hx758_0⟩ := Kd.at_int HR740_1.out 2 p758 q758
       have hw758_0 := hx758_0
       (try rw [show ((2 : Int)).toNat = 2 from rfl] at hw758_0)
       (try rw [show 2 * 1 = 2 from rfl] at hw758_0)
       (try simp only [Nat.reduceMul, Nat.reduceEqDiff, Go.Addr.add, ↓reduceIte] at hw758_0)
       obtain rfl : ad754 = ad758 := (by injection e758)
       (try simp only [show (2 : Int).toNat = 2 from rfl, Nat.reduceMul, Nat.reduceEqDiff, Go.Addr.add, ↓reduceIte] at hx758_0)
       have qi758 : (2 < ((rd_T31 l0 x9_1).f1).length) = True := eq_true (by omega)
       (try rw [show ((2 : Int)).toNat = 2 from rfl] at hx758_0)
       replace hx758_0 := (HB.out.cell (World.block_lt_of_cell? w _ hx758_0)).trans hx758_0
       replace p758 := eq_true p758
       replace q758 := eq_true q758
       refine start_ (n := 36) (S := fun w' => w'.cell? ⟨gb741, 0, none⟩ = some (.string ((rd_T31 l0 x9_1).f0)) ∧ w'.cell? ⟨gb741, 1, none⟩ = some (.slice (some ad754) ((rd_T31 l0 x9_1).f1).length c740_1) ∧ w'.cell? ⟨gb741, 2, none⟩ = some (.slice (some ad752) ((rd_T31 l0 x9_1).f2).length c740_2) ∧ w'.cell? ad752 = some (.string (rdOf ByteArray.empty ((rd_T31 l0 x9_1).f2) 0)) ∧ w'.cell? ad754 = some (.int .u64 (rd ((rd_T31 l0 x9_1).f1) 0)) ∧ w'.cell? ⟨ad754.block, ad754.off + 1, none⟩ = some (.int .u64 (rd ((rd_T31 l0 x9_1).f1) 1)) ∧ w'.cell? ⟨ad754.block, ad754.off + 2, none⟩ = some (.int .u64 (rd ((rd_T31 l0 x9_1).f1) 2))) (ds := []) (bb [0, 36]) (by kernel_rfl) rfl rfl ⟨(blk_cell BK741.out 0).trans rfl, (blk_cell BK741.out 1).trans rfl, (blk_cell BK741.out 2).trans rfl, ((HB.out.cell (World.block_lt_of_cell? w _ hw752_0)).trans hw752_0), ((HB.out.cell (World.block_lt_of_cell? w _ hw754_0)).trans hw754_0), ((HB.out.cell (World.block_lt_of_cell? w _ hw756_0)).trans hw756_0), ((HB.out.cell (World.block_lt_of_cell? w _ hw758_0)).trans hw758_0)⟩ (fun hHeld => ?_); refine with_tabW spec_SwapsPrint.tab7 spec_SwapsPrint.bits7 (fun HT_ HW_ => ?_)
       generalize wc.drew = w51 at BK741 HB hx752_0 hx754_0 hx756_0 hx758_0 hHeld ⊢
       refine pure_ (i := 0) (N := some 41) (v := ?_) (a' := ?_) (bb [1, 35]) rfl rfl (any_of HT_.out (by kernel_rfl)) (fun _ _ _ h => h) (Or.inl ⟨by rfl, ?_⟩) ?_ ?_
       rotate_left
       ·intro w'
        go_simp
        with_reducible rfl
       rotate_left
       ·simp only [Act.put, List.setIfInBounds_toArray, List.set_cons_zero, List.set_cons_succ, i64_w, i32_w]
        rfl
       refine pure_ (i := 1) (N := some 42) (v := ?_) (a' := ?_) (bb [2, 34]) rfl rfl (any_of HT_.out (by kernel_rfl)) (fun _ _ _ h => h) (Or.inl ⟨by rfl, ?_⟩) ?_ ?_
       rotate_left
       ·intro w'
        go_simp
        with_reducible rfl
       rotate_left
       ·simp only [Act.put, List.setIfInBounds_toArray, List.set_cons_zero, List.set_cons_succ, i64_w, i32_w]
        rfl
       refine pure_ (i := 5) (N := some 46) (v := ?_) (a' := ?_) (bb [2, 3, 1, 30]) rfl rfl (any_of HT_.out (by kernel_rfl)) (fun _ _ _ h => h) (Or.inl ⟨by rfl, ?_⟩) ?_ ?_
       rotate_left
       ·intro w'
        go_simp
        with_reducible rfl
       rotate_left
       ·simp only [Act.put, List.setIfInBounds_toArray, List.set_cons_zero, List.set_cons_succ, i64_w, i32_w]
        rfl
       refine pure_ (i := 12) (N := some 53) (v := ?_) (a' := ?_) (bb [2, 3, 1, 6, 1, 23]) rfl rfl (any_of HT_.out (by kernel_rfl)) (fun _ _ _ h => h) (Or.inl ⟨by rfl, ?_⟩) ?_ ?_
       rotate_left
       ·intro w'
        go_simp
        with_reducible rfl
       rotate_left
       ·simp only [Act.put, List.setIfInBounds_toArray, List.set_cons_zero, List.set_cons_succ, i64_w, i32_w]
        rfl
       refine pure_ (i := 19) (N := some 60) (v := ?_) (a' := ?_) (bb [2, 3, 1, 6, 1, 6, 1, 16]) rfl rfl (any_of HT_.out (by kernel_rfl)) (fun _ _ _ h => h) (Or.inl ⟨by rfl, ?_⟩) ?_ ?_
       rotate_left
       ·intro w'
        go_simp
        with_reducible rfl
       rotate_left
       ·simp only [Act.put, List.setIfInBounds_toArray, List.set_cons_zero, List.set_cons_succ, i64_w, i32_w]
        rfl
       refine pure_ (i := 26) (N := some 67) (v := ?_) (a' := ?_) (bb [2, 3, 1, 6, 1, 6, 1, 6, 1, 9]) rfl rfl (any_of HT_.out (by kernel_rfl)) (fun _ _ _ h => h) (Or.inl ⟨by rfl, ?_⟩) ?_ ?_
       rotate_left
       ·intro w'
        go_simp
        with_reducible rfl
       rotate_left
       ·simp only [Act.put, List.setIfInBounds_toArray, List.set_cons_zero, List.set_cons_succ, i64_w, i32_w]
        rfl
       refine take_ (i := 2) (N := some 43) (v := ?_) (a' := ?_) (bb [3, 2, 1, 6, 1, 6, 1, 6, 1, 9]) rfl rfl (take_ofW HT_.out HW_.out (by kernel_rfl)) (fun _ _ _ h => h) (Or.inl ⟨by rfl, ?_⟩) hHeld ?_ ?_
       rotate_left
       ·rintro w' ⟨s0, s1, s2, s3, s4, s5, s6⟩
        go_simp
        with_reducible rfl
       rotate_left
       ·simp only [Act.put, List.setIfInBounds_toArray, List.set_cons_zero, List.set_cons_succ, i64_w, i32_w]
        rfl
       refine take_ (i := 6) (N := some 47) (v := ?_) (a' := ?_) (bb [3, 2, 2, 5, 1, 6, 1, 6, 1, 9]) rfl rfl (take_ofW HT_.out HW_.out (by kernel_rfl)) (fun _ _ _ h => h) (Or.inl ⟨by rfl, ?_⟩) hHeld ?_ ?_
       rotate_left
       ·rintro w' ⟨s0, s1, s2, s3, s4, s5, s6⟩
        go_simp
        with_reducible rfl
       rotate_left
       ·simp only [Act.put, List.setIfInBounds_toArray, List.set_cons_zero, List.set_cons_succ, i64_w, i32_w]
        rfl
       refine pure_ (i := 7) (N := some 48) (v := ?_) (a' := ?_) (bb [3, 2, 3, 4, 1, 6, 1, 6, 1, 9]) rfl rfl (any_of HT_.out (by kernel_rfl)) (fun _ _ _ h => h) (Or.inl ⟨by rfl, ?_⟩) ?_ ?_
       rotate_left
       ·intro w'
        go_simp
        with_reducible rfl
       rotate_left
       ·simp only [Act.put, List.setIfInBounds_toArray, List.set_cons_zero, List.set_cons_succ, i64_w, i32_w]
        rfl
       refine take_ (i := 8) (N := some 49) (v := ?_) (a' := ?_) (bb [3, 2, 4, 3, 1, 6, 1, 6, 1, 9]) rfl rfl (take_ofW HT_.out HW_.out (by kernel_rfl)) (fun _ _ _ h => h) (Or.inl ⟨by rfl, ?_⟩) hHeld ?_ ?_
       rotate_left
       ·rintro w' ⟨s0, s1, s2, s3, s4, s5, s6⟩
        go_simp
        with_reducible rfl
       rotate_left
       ·simp only [Act.put, List.setIfInBounds_toArray, List.set_cons_zero, List.set_cons_succ, i64_w, i32_w]
        rfl
       refine take_ (i := 13) (N := some 54) (v := ?_) (a' := ?_) (bb [3, 2, 4, 3, 2, 5, 1, 6, 1, 9]) rfl rfl (take_ofW HT_.out HW_.out (by kernel_rfl)) (fun _ _ _ h => h) (Or.inl ⟨by rfl, ?_⟩) hHeld ?_ ?_
       rotate_left
       ·rintro w' ⟨s0, s1, s2, s3, s4, s5, s6⟩
        go_simp
        with_reducible rfl
       rotate_left
       ·simp only [Act.put, List.setIfInBounds_toArray, List.set_cons_zero, List.set_cons_succ, i64_w, i32_w]
        rfl
       refine pure_ (i := 14) (N := some 55) (v := ?_) (a' := ?_) (bb [3, 2, 4, 3, 3, 4, 1, 6, 1, 9]) rfl rfl (any_of HT_.out (by kernel_rfl)) (fun _ _ _ h => h) (Or.inl ⟨by rfl, ?_⟩) ?_ ?_
       rotate_left
       ·intro w'
        go_simp
        with_reducible rfl
       rotate_left
       ·simp only [Act.put, List.setIfInBounds_toArray, List.set_cons_zero, List.set_cons_succ, i64_w, i32_w]
        rfl
       refine take_ (i := 15) (N := some 56) (v := ?_) (a' := ?_) (bb [3, 2, 4, 3, 4, 3, 1, 6, 1, 9]) rfl rfl (take_ofW HT_.out HW_.out (by kernel_rfl)) (fun _ _ _ h => h) (Or.inl ⟨by rfl, ?_⟩) hHeld ?_ ?_
       rotate_left
       ·rintro w' ⟨s0, s1, s2, s3, s4, s5, s6⟩
        go_simp
        with_reducible rfl
       rotate_left
       ·simp only [Act.put, List.setIfInBounds_toArray, List.set_cons_zero, List.set_cons_succ, i64_w, i32_w]
        rfl
       refine take_ (i := 20) (N := some 61) (v := ?_) (a' := ?_) (bb [3, 2, 4, 3, 4, 3, 2, 5, 1, 9]) rfl rfl (take_ofW HT_.out HW_.out (by kernel_rfl)) (fun _ _ _ h => h) (Or.inl ⟨by rfl, ?_⟩) hHeld ?_ ?_
       rotate_left
       ·rintro w' ⟨s0, s1, s2, s3, s4, s5, s6⟩
        go_simp
        with_reducible rfl
       rotate_left
       ·simp only [Act.put, List.setIfInBounds_toArray, List.set_cons_zero, List.set_cons_succ, i64_w, i32_w]
        rfl
       refine pure_ (i := 21) (N := some 62) (v := ?_) (a' := ?_) (bb [3, 2, 4, 3, 4, 3, 3, 4, 1, 9]) rfl rfl (any_of HT_.out (by kernel_rfl)) (fun _ _ _ h => h) (Or.inl ⟨by rfl, ?_⟩) ?_ ?_
       rotate_left
       ·intro w'
        go_simp
        with_reducible rfl
       rotate_left
       ·simp only [Act.put, List.setIfInBounds_toArray, List.set_cons_zero, List.set_cons_succ, i64_w, i32_w]
        rfl
       refine take_ (i := 22) (N := some 63) (v := ?_) (a' := ?_) (bb [3, 2, 4, 3, 4, 3, 4, 3, 1, 9]) rfl rfl (take_ofW HT_.out HW_.out (by kernel_rfl)) (fun _ _ _ h => h) (Or.inl ⟨by rfl, ?_⟩) hHeld ?_ ?_
       rotate_left
       ·rintro w' ⟨s0, s1, s2, s3, s4, s5, s6⟩
        go_simp
        with_reducible rfl
       rotate_left
       ·simp only [Act.put, List.setIfInBounds_toArray, List.set_cons_zero, List.set_cons_succ, i64_w, i32_w]
        rfl
       refine take_ (i := 27) (N := some 68) (v := ?_) (a' := ?_) (bb [3, 2, 4, 3, 4, 3, 4, 3, 2, 8]) rfl rfl (take_ofW HT_.out HW_.out (by kernel_rfl)) (fun _ _ _ h => h) (Or.inl ⟨by rfl, ?_⟩) hHeld ?_ ?_
       rotate_left
       ·rintro w' ⟨s0, s1, s2, s3, s4, s5, s6⟩
        go_simp
        with_reducible rfl
       rotate_left
       ·simp only [Act.put, List.setIfInBounds_toArray, List.set_cons_zero, List.set_cons_succ, i64_w, i32_w]
        rfl
       refine pure_ (i := 28) (N := some 69) (v := ?_) (a' := ?_) (bb [3, 2, 4, 3, 4, 3, 4, 3, 3, 7]) rfl rfl (any_of HT_.out (by kernel_rfl)) (fun _ _ _ h => h) (Or.inl ⟨by rfl, ?_⟩) ?_ ?_
       rotate_left
       ·intro w'
        go_simp
        with_reducible rfl
       rotate_left
       ·simp only [Act.put, List.setIfInBounds_toArray, List.set_cons_zero, List.set_cons_succ, i64_w, i32_w]
        rfl
       refine take_ (i := 29) (N := some 70) (v := ?_) (a' := ?_) (bb [3, 2, 4, 3, 4, 3, 4, 3, 4, 6]) rfl rfl (take_ofW HT_.out HW_.out (by kernel_rfl)) (fun _ _ _ h => h) (Or.inl ⟨by rfl, ?_⟩) hHeld ?_ ?_
       rotate_left
       ·rintro w' ⟨s0, s1, s2, s3, s4, s5, s6⟩
        go_simp
        with_reducible rfl
       rotate_left
       ·simp only [Act.put, List.setIfInBounds_toArray, List.set_cons_zero, List.set_cons_succ, i64_w, i32_w]
        rfl
       refine pure_ (i := 30) (N := some 71) (v := ?_) (a' := ?_) (bb [3, 2, 4, 3, 4, 3, 4, 3, 5, 5]) rfl rfl (any_of HT_.out (by kernel_rfl)) (fun _ _ _ h => h) (Or.inl ⟨by rfl, ?_⟩) ?_ ?_
       rotate_left
       ·intro w'
        go_simp
        with_reducible rfl
       rotate_left
       ·simp only [Act.put, List.setIfInBounds_toArray, List.set_cons_zero, List.set_cons_succ, i64_w, i32_w]
        rfl
       refine one_ (i := 3) (N := some 44) (bb [4, 1, 4, 3, 4, 3, 4, 3, 5, 5]) rfl rfl (one_of HT_.out (by kernel_rfl)) (by decide) (fun K hK => ?_)
       refine goes_ Tryz.func106 (by kernel_rfl) rfl #[.string ((rd_T31 l0 x9_1).f0), .int .i64 39] (by rfl) rfl rfl (by (try simp only [List.map_toArray, List.map_cons, List.map_nil]); first | done | rfl | (simp only [List.length_drop, List.length_take]; rfl)) ?_
       with_reducible refine (spec_Left.calls kj4 ((rd_T31 l0 x9_1).f0) 39 t751 _ A32.out).mono ?_
       rintro e w' ⟨rfl, ⟨nd, rfl⟩⟩
       refine ⟨_, rfl, ?_⟩
       refine hK.out _ _ ⟨(blk_cell BK741.out 0).trans rfl, (blk_cell BK741.out 1).trans rfl, (blk_cell BK741.out 2).trans rfl, ((HB.out.cell (World.block_lt_of_cell? w _ hw752_0)).trans hw752_0), ((HB.out.cell (World.block_lt_of_cell? w _ hw754_0)).trans hw754_0), ((HB.out.cell (World.block_lt_of_cell? w _ hw756_0)).trans hw756_0), ((HB.out.cell (World.block_lt_of_cell? w _ hw758_0)).trans hw758_0)⟩ (fun hHeld => ?_)
       clear hK K
       refine norm_ (a' := ?_) ?_ ?_
       rotate_left
       ·show Act.put _ (some 44) _ = _
        simp only [Act.put, List.setIfInBounds_toArray, List.set_cons_zero, List.set_cons_succ, i64_w, i32_w]
        rfl
       refine pure_ (i := 4) (N := some 45) (v := ?_) (a' := ?_) (bb [9, 3, 4, 3, 4, 3, 5, 5]) rfl rfl (any_of HT_.out (by kernel_rfl)) (fun _ _ _ h => h) (Or.inl ⟨by rfl, ?_⟩) ?_ ?_
       rotate_left
       ·intro w'
        go_simp
        with_reducible rfl
       rotate_left
       ·simp only [Act.put, List.setIfInBounds_toArray, List.set_cons_zero, List.set_cons_succ, i64_w, i32_w]
        rfl
       refine one_ (i := 9) (N := some 50) (bb [10, 2, 4, 3, 4, 3, 5, 5]) rfl rfl (one_of HT_.out (by kernel_rfl)) (by decide) (fun K hK => ?_)
       refine goes_ Tryz.func106 (by kernel_rfl) rfl #[.string (rdOf ByteArray.empty ((rd_T31 l0 x9_1).f2) 0), .int .i64 15] (by rfl) rfl rfl (by (try simp only [List.map_toArray, List.map_cons, List.map_nil]); first | done | rfl | (simp only [List.length_drop, List.length_take]; rfl)) ?_
       with_reducible refine (spec_Left.calls kj4 (rdOf ByteArray.empty ((rd_T31 l0 x9_1).f2) 0) 15 t753 _ A35.out).mono ?_
       rintro e w' ⟨rfl, ⟨nd, rfl⟩⟩
       refine ⟨_, rfl, ?_⟩
       refine hK.out _ _ ⟨(blk_cell BK741.out 0).trans rfl, (blk_cell BK741.out 1).trans rfl, (blk_cell BK741.out 2).trans rfl, ((HB.out.cell (World.block_lt_of_cell? w _ hw752_0)).trans hw752_0), ((HB.out.cell (World.block_lt_of_cell? w _ hw754_0)).trans hw754_0), ((HB.out.cell (World.block_lt_of_cell? w _ hw756_0)).trans hw756_0), ((HB.out.cell (World.block_lt_of_cell? w _ hw758_0)).trans hw758_0)⟩ (fun hHeld => ?_)
       clear hK K
       refine norm_ (a' := ?_) ?_ ?_
       rotate_left
       ·show Act.put _ (some 50) _ = _
        simp only [Act.put, List.setIfInBounds_toArray, List.set_cons_zero, List.set_cons_succ, i64_w, i32_w]
        rfl
       refine pure_ (i := 10) (N := some 51) (v := ?_) (a' := ?_) (bb [11, 1, 4, 3, 4, 3, 5, 5]) rfl rfl (any_of HT_.out (by kernel_rfl)) (fun _ _ _ h => h) (Or.inl ⟨by rfl, ?_⟩) ?_ ?_
       rotate_left
       ·intro w'
        go_simp
        with_reducible rfl
       rotate_left
       ·simp only [Act.put, List.setIfInBounds_toArray, List.set_cons_zero, List.set_cons_succ, i64_w, i32_w]
        rfl
       refine pure_ (i := 11) (N := some 52) (v := ?_) (a' := ?_) (bb [16, 3, 4, 3, 5, 5]) rfl rfl (any_of HT_.out (by kernel_rfl)) (fun _ _ _ h => h) (Or.inl ⟨by rfl, ?_⟩) ?_ ?_
       rotate_left
       ·intro w'
        go_simp
        with_reducible rfl
       rotate_left
       ·simp only [Act.put, List.setIfInBounds_toArray, List.set_cons_zero, List.set_cons_succ, i64_w, i32_w]
        rfl
       refine one_ (i := 16) (N := some 57) (bb [17, 2, 4, 3, 5, 5]) rfl rfl (one_of HT_.out (by kernel_rfl)) (by decide) (fun K hK => ?_)
       refine goes_ Tryz.func52 (by kernel_rfl) rfl #[.int .u64 (rd ((rd_T31 l0 x9_1).f1) 0)] (by rfl) rfl rfl (by (try simp only [List.map_toArray, List.map_cons, List.map_nil]); first | done | rfl | (simp only [List.length_drop, List.length_take]; rfl)) ?_
       with_reducible refine (spec_Text.calls kj4 (rd ((rd_T31 l0 x9_1).f1) 0) t755 _ A39.out).mono ?_
       rintro e w52 ⟨rfl, hb⟩
       refine ⟨_, rfl, ?_⟩
       have n0_ := Aside0.mk (blk_below (g := gb741) (o := .cells #[.string ((rd_T31 l0 x9_1).f0), .slice (some ad754) ((rd_T31 l0 x9_1).f1).length c740_1, .slice (some ad752) ((rd_T31 l0 x9_1).f2).length c740_2] 31 (0, 0)) (by (with_reducible repeat (first | refine blk_drewN ?_ _ | refine blk_drew ?_ | refine blk_alloc ?_ _)); exact BK741.out) hb)
       have n1_ := Aside0.mk (below_step (by repeat (first | (with_reducible first | exact HB.out | apply below_alloc | apply pw_below_drewN | apply below_drew1 | refine below_set ?_ GE741.out) | exact HB.out)) hb)
       clear BK741
       clear HB
       have BK741 := n0_
       have HB := n1_
       clear n0_ n1_
       (try clear hb)
       (try clear hb2)
       (try clear hk)
       (try clear hi)
       refine hK.out _ _ ⟨(blk_cell BK741.out 0).trans rfl, (blk_cell BK741.out 1).trans rfl, (blk_cell BK741.out 2).trans rfl, ((HB.out.cell (World.block_lt_of_cell? w _ hw752_0)).trans hw752_0), ((HB.out.cell (World.block_lt_of_cell? w _ hw754_0)).trans hw754_0), ((HB.out.cell (World.block_lt_of_cell? w _ hw756_0)).trans hw756_0), ((HB.out.cell (World.block_lt_of_cell? w _ hw758_0)).trans hw758_0)⟩ (fun hHeld => ?_)
       clear hK K
       refine norm_ (a' := ?_) ?_ ?_
       rotate_left
       ·show Act.put _ (some 57) _ = _
        simp only [Act.put, List.setIfInBounds_toArray, List.set_cons_zero, List.set_cons_succ, i64_w, i32_w]
        rfl
       refine pure_ (i := 17) (N := some 58) (v := ?_) (a' := ?_) (bb [18, 1, 4, 3, 5, 5]) rfl rfl (any_of HT_.out (by kernel_rfl)) (fun _ _ _ h => h) (Or.inl ⟨by rfl, ?_⟩) ?_ ?_
       rotate_left
       ·intro w'
        go_simp
        with_reducible rfl
       rotate_left
       ·simp only [Act.put, List.setIfInBounds_toArray, List.set_cons_zero, List.set_cons_succ, i64_w, i32_w]
        rfl
       refine pure_ (i := 18) (N := some 59) (v := ?_) (a' := ?_) (bb [23, 3, 5, 5]) rfl rfl (any_of HT_.out (by kernel_rfl)) (fun _ _ _ h => h) (Or.inl ⟨by rfl, ?_⟩) ?_ ?_
       rotate_left
       ·intro w'
        go_simp
        with_reducible rfl
       rotate_left
       ·simp only [Act.put, List.setIfInBounds_toArray, List.set_cons_zero, List.set_cons_succ, i64_w, i32_w]
        rfl
       refine one_ (i := 23) (N := some 64) (bb [24, 2, 5, 5]) rfl rfl (one_of HT_.out (by kernel_rfl)) (by decide) (fun K hK => ?_)
       refine goes_ Tryz.func52 (by kernel_rfl) rfl #[.int .u64 (rd ((rd_T31 l0 x9_1).f1) 1)] (by rfl) rfl rfl (by (try simp only [List.map_toArray, List.map_cons, List.map_nil]); first | done | rfl | (simp only [List.length_drop, List.length_take]; rfl)) ?_
       with_reducible refine (spec_Text.calls kj4 (rd ((rd_T31 l0 x9_1).f1) 1) t757 _ A43.out).mono ?_
       rintro e w53 ⟨rfl, hb⟩
       refine ⟨_, rfl, ?_⟩
       have n0_ := Aside0.mk (blk_below (g := gb741) (o := .cells #[.string ((rd_T31 l0 x9_1).f0), .slice (some ad754) ((rd_T31 l0 x9_1).f1).length c740_1, .slice (some ad752) ((rd_T31 l0 x9_1).f2).length c740_2] 31 (0, 0)) (by (with_reducible repeat (first | refine blk_drewN ?_ _ | refine blk_drew ?_ | refine blk_alloc ?_ _)); exact BK741.out) hb)
       have n1_ := Aside0.mk (below_step (by repeat (first | (with_reducible first | exact HB.out | apply below_alloc | apply pw_below_drewN | apply below_drew1 | refine below_set ?_ GE741.out) | exact HB.out)) hb)
       clear BK741
       clear HB
       have BK741 := n0_
       have HB := n1_
       clear n0_ n1_
       (try clear hb)
       (try clear hb2)
       (try clear hk)
       (try clear hi)
       refine hK.out _ _ ⟨(blk_cell BK741.out 0).trans rfl, (blk_cell BK741.out 1).trans rfl, (blk_cell BK741.out 2).trans rfl, ((HB.out.cell (World.block_lt_of_cell? w _ hw752_0)).trans hw752_0), ((HB.out.cell (World.block_lt_of_cell? w _ hw754_0)).trans hw754_0), ((HB.out.cell (World.block_lt_of_cell? w _ hw756_0)).trans hw756_0), ((HB.out.cell (World.block_lt_of_cell? w _ hw758_0)).trans hw758_0)⟩ (fun hHeld => ?_)
       clear hK K
       refine norm_ (a' := ?_) ?_ ?_
       rotate_left
       ·show Act.put _ (some 64) _ = _
        simp only [Act.put, List.setIfInBounds_toArray, List.set_cons_zero, List.set_cons_succ, i64_w, i32_w]
        rfl
       refine pure_ (i := 24) (N := some 65) (v := ?_) (a' := ?_) (bb [25, 1, 5, 5]) rfl rfl (any_of HT_.out (by kernel_rfl)) (fun _ _ _ h => h) (Or.inl ⟨by rfl, ?_⟩) ?_ ?_
       rotate_left
       ·intro w'
        go_simp
        with_reducible rfl
       rotate_left
       ·simp only [Act.put, List.setIfInBounds_toArray, List.set_cons_zero, List.set_cons_succ, i64_w, i32_w]
        rfl
       refine pure_ (i := 25) (N := some 66) (v := ?_) (a' := ?_) (bb [31, 5]) rfl rfl (any_of HT_.out (by kernel_rfl)) (fun _ _ _ h => h) (Or.inl ⟨by rfl, ?_⟩) ?_ ?_
       rotate_left
       ·intro w'
        go_simp
        with_reducible rfl
       rotate_left
       ·simp only [Act.put, List.setIfInBounds_toArray, List.set_cons_zero, List.set_cons_succ, i64_w, i32_w]
        rfl
       refine one_ (i := 31) (N := some 72) (bb [32, 4]) rfl rfl (one_of HT_.out (by kernel_rfl)) (by decide) (fun K hK => ?_)
       refine goes_ Tryz.func121 (by kernel_rfl) rfl #[.int .i64 (wrap64 (rd ((rd_T31 l0 x9_1).f1) 2))] (by rfl) rfl rfl (by (try simp only [List.map_toArray, List.map_cons, List.map_nil]); first | done | rfl | (simp only [List.length_drop, List.length_take]; rfl)) ?_
       with_reducible refine (spec_SignedText.calls kj4 (wrap64 (rd ((rd_T31 l0 x9_1).f1) 2)) t759 _ A47.out).mono ?_
       rintro e w54 ⟨rfl, hb⟩
       refine ⟨_, rfl, ?_⟩
       have n0_ := Aside0.mk (blk_below (g := gb741) (o := .cells #[.string ((rd_T31 l0 x9_1).f0), .slice (some ad754) ((rd_T31 l0 x9_1).f1).length c740_1, .slice (some ad752) ((rd_T31 l0 x9_1).f2).length c740_2] 31 (0, 0)) (by (with_reducible repeat (first | refine blk_drewN ?_ _ | refine blk_drew ?_ | refine blk_alloc ?_ _)); exact BK741.out) hb)
       have n1_ := Aside0.mk (below_step (by repeat (first | (with_reducible first | exact HB.out | apply below_alloc | apply pw_below_drewN | apply below_drew1 | refine below_set ?_ GE741.out) | exact HB.out)) hb)
       clear BK741
       clear HB
       have BK741 := n0_
       have HB := n1_
       clear n0_ n1_
       (try clear hb)
       (try clear hb2)
       (try clear hk)
       (try clear hi)
       refine hK.out _ _ ⟨(blk_cell BK741.out 0).trans rfl, (blk_cell BK741.out 1).trans rfl, (blk_cell BK741.out 2).trans rfl, ((HB.out.cell (World.block_lt_of_cell? w _ hw752_0)).trans hw752_0), ((HB.out.cell (World.block_lt_of_cell? w _ hw754_0)).trans hw754_0), ((HB.out.cell (World.block_lt_of_cell? w _ hw756_0)).trans hw756_0), ((HB.out.cell (World.block_lt_of_cell? w _ hw758_0)).trans hw758_0)⟩ (fun hHeld => ?_)
       clear hK K
       refine norm_ (a' := ?_) ?_ ?_
       rotate_left
       ·show Act.put _ (some 72) _ = _
        simp only [Act.put, List.setIfInBounds_toArray, List.set_cons_zero, List.set_cons_succ, i64_w, i32_w]
        rfl
       refine pure_ (i := 32) (N := some 73) (v := ?_) (a' := ?_) (bb [33, 3]) rfl rfl (any_of HT_.out (by kernel_rfl)) (fun _ _ _ h => h) (Or.inl ⟨by rfl, ?_⟩) ?_ ?_
       rotate_left
       ·intro w'
        go_simp
        with_reducible rfl
       rotate_left
       ·simp only [Act.put, List.setIfInBounds_toArray, List.set_cons_zero, List.set_cons_succ, i64_w, i32_w]
        rfl
       refine pure_ (i := 33) (N := some 74) (v := ?_) (a' := ?_) (bb [34, 2]) rfl rfl (any_of HT_.out (by kernel_rfl)) (fun _ _ _ h => h) (Or.inl ⟨by rfl, ?_⟩) ?_ ?_
       rotate_left
       ·intro w'
        go_simp
        with_reducible rfl
       rotate_left
       ·simp only [Act.put, List.setIfInBounds_toArray, List.set_cons_zero, List.set_cons_succ, i64_w, i32_w]
        rfl
       refine pure_ (i := 34) (N := some 75) (v := ?_) (a' := ?_) (bb [35, 1]) rfl rfl (any_of HT_.out (by kernel_rfl)) (fun _ _ _ h => h) (Or.inl ⟨by rfl, ?_⟩) ?_ ?_
       rotate_left
       ·intro w'
        go_simp
        with_reducible rfl
       rotate_left
       ·simp only [Act.put, List.setIfInBounds_toArray, List.set_cons_zero, List.set_cons_succ, i64_w, i32_w]
        rfl
       refine pure_ (i := 35) (N := some 4) (v := ?_) (a' := ?_) (bb [36]) rfl rfl (any_of HT_.out (by kernel_rfl)) (fun _ _ _ h => h) (Or.inl ⟨by rfl, ?_⟩) ?_ ?_
       rotate_left
       ·intro w'
        go_simp
        with_reducible rfl
       rotate_left
       ·simp only [Act.put, List.setIfInBounds_toArray, List.set_cons_zero, List.set_cons_succ, i64_w, i32_w]
        rfl
       refine done_ (done_of HT_.out (by kernel_rfl)) ?_
       try go_wp2
       go_roundg kj4
       case measure => have := HK1.out; have := HJ4.out; omega
       case rel => exact ⟨(x4_1 ++ (((((((((t751 ++ (⟨#[32]⟩ : ByteArray)) ++ t753) ++ (⟨#[32]⟩ : ByteArray)) ++ t755) ++ (⟨#[9]⟩ : ByteArray)) ++ t757) ++ (⟨#[9]⟩ : ByteArray)) ++ t759) ++ (⟨#[10]⟩ : ByteArray))), (wrap64 (x9_1 + 1)), (by first | rfl | (simp; done) | (simp [*]; done)), (by first | rfl | (simp; done) | (simp [*]; done)), H', ⟨by have := HK1.out; have := HJ4.out; omega⟩, ⟨by repeat (first | (with_reducible first | exact HB.out | apply below_alloc | apply pw_below_drewN | apply below_drew1 | refine below_set ?_ GE741.out) | exact HB.out)⟩⟩
   ·rw [if_neg c2] at H
    have c2b0 : decide (x9_1 < (l0.length : Int)) = false := decide_eq_false c2
    clear c2
    simp only [Option.some.injEq, Prod.mk.injEq] at H
    obtain ⟨rfl, rfl⟩ := H
    go_wp2
    go_ret2
    exact ⟨by first | rfl | (simp [errW_none, errW_some] <;> rfl) | (simp [*, errW_none, errW_some] <;> rfl), by repeat (first | (with_reducible first | exact HB.out | apply below_alloc | apply pw_below_drewN | apply below_drew1) | exact HB.out)⟩
end Go.Proofs.YtednjmngalmdkaaGreatDoor.GPC
end
