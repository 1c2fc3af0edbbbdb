/- Texts of this claim, put together: Opens, GULx0, LOpenU, UShelf0, UModel, UShelf, ULaid, UBuf, URune, UFull, URead, UBytes, USize, UEol, ULex, UMake, UStepA, USpace, UStepB, UStepC, UStepD, UStepE, UName, UStepF. Conditions: as each one says. -/
import Derived.Test.YtgnfapnnbcafbaaDoorKKUs0
import Derived.Deep.Slices
import Derived.ChangeArms
import Derived.DataReads
import Derived.Test.YtgnfapnnbcafbaaDoorProg
import Derived.Below
import Derived.Deep.Draws
import Derived.Deep.AppendLies
import Derived.Maps.AppendAt
import Derived.OwnWalk
import Derived.Laws.BytesArg
import Derived.Laws.MakeOwn
import Derived.Laws.OwnMore
import Derived.Deep.OwnRows
import Derived.Tactics
import Derived.Lib.ConvBytes
import Derived.Laws.Slices
import Derived.WalkKit
import Derived.KernelRfl
import Derived.RowKit3
import Derived.Deep.LoopGhost
import Derived.Deep.QuietTactic
import Derived.BigQuiet
import Derived.WideLaws
import Derived.Deep.DeepCutAuto
import Derived.Deep.CutBlock
import Derived.Deep.RegionHeld3
import Derived.Laws.Rows
import Derived.Lib.AppendStr
import Derived.ArgAppend
import Derived.Laws.IdiomCopy
import Derived.OrdersHeld
import Derived.Laws.BitsLemmas
import Derived.RowKit
import Derived.Shelf.Small.Strs
import Derived.Shelf.Strings.Prefix
import Derived.Shelf.Unicode.DecodeAny
import Derived.Shelf.Strings.TrimSpaceAny
import Derived.Shelf.Bytes.Small
import Derived.Shelf.Bytes.TrimSpace
import Derived.Lib.TrimAscii
import Derived.Test.YtgnfapnnbcafbaaDoorRows
import Derived.Lib.LaidU8
import Derived.Lib.LaidU8T
import Derived.MakeChecks
import Derived.StillTailTactics
import Derived.Lib.TrimUEq
import Derived.Shelf.Unicode.DecodeSlow
import Derived.RegionTactic
import Derived.BigRegion
import Derived.Laws.Runes
section
/- What a call's arguments lay in memory, read as the print's kinds: whole numbers, bools, strings, structs, slices of them, to any depth. No condition. -/
namespace Go.Proofs.YtgnfapnnbcafbaaDoor.OP
open Go.ChangeShapes Go.WideShapes Go.Deep Go.Proofs.YtgnfapnnbcafbaaDoorW.PrintWords
set_option linter.unusedVariables false
def Opens {α : Type} (P : Program) (d : Kd α) (t : TypeId) (Q : α → Prop) : Prop :=
 P.cellsOf t = d.sz ∧ ∀ {H : Type} {enc : TypeId × Value → H} {W : World} {base : Nat} {spare : Nat → Bool} {fuel : Nat} {cs : List Value} {x : DataW H × List MemPlace},
  DataW.trod enc P W base spare true fuel t cs = some x → ∃ v : α, d.K W v cs ∧ Q v
structure Fields {α : Type} (P : Program) (d : Kd α) (fs : List Field) (off : Nat) (Q : α → Prop) : Prop where
 out : ∀ {H : Type} {enc : TypeId × Value → H} {W : World} {base : Nat} {spare : Nat → Bool} {fuel : Nat} {cs : List Value},
  cs.length = off + d.sz → (∀ f ∈ fs, ∃ x, DataW.trod enc P W base spare true fuel f.type ((cs.drop f.offset).take (P.cellsOf f.type)) = some x) → ∃ v : α, d.K W v (cs.drop off) ∧ Q v
theorem Opens.any {α : Type} {P : Program} {d : Kd α} {t : TypeId} {Q : α → Prop} (h : Opens P d t Q) : Opens P d t (fun _ => True) :=
 ⟨h.1, fun hx => by
  obtain ⟨v, hv, _⟩ := h.2 hx
  exact ⟨v, hv, trivial⟩⟩
theorem opens_string {P : Program} {t : TypeId} (ht : P.underlying t = some .string) (hc : P.cellsOf t = 1) : Opens P Kd.string t (fun s => s.size ≤ maxLen) :=
 ⟨hc, fun h => by
  obtain ⟨s, rfl, _, hw⟩ := DataW.trod_string ht h
  exact ⟨s, rfl, hw⟩⟩
theorem list_of {α : Type} {p : Nat → α → Prop} : ∀ (n : Nat), (∀ i, i < n → ∃ x, p i x) → ∃ xs : List α, xs.length = n ∧ ∀ i x, xs[i]? = some x → p i x
 | 0, _ => ⟨[], rfl, fun i x h => by simp at h⟩
 | n + 1, h => by
  obtain ⟨xs, hl, hp⟩ := list_of n (fun i hi => h i (by omega))
  obtain ⟨y, hy⟩ := h n (by omega)
  refine ⟨xs ++ [y], by simp [hl], fun i x hx => ?_⟩
  rcases Nat.lt_or_ge i xs.length with hlt | hge
  ·rw [List.getElem?_append_left hlt] at hx
   exact hp i x hx
  ·rw [List.getElem?_append_right hge] at hx
   have h0 : i - xs.length = 0 := by
    have := (List.getElem?_eq_some_iff.1 hx).1
    simp only [List.length_singleton] at this
    omega
   rw [h0] at hx
   obtain rfl : y = x := by simpa using hx
   obtain rfl : i = n := by omega
   exact hy
theorem slice_at {α : Type} {P : Program} {d : Kd α} {t e : TypeId} {Q : α → Prop} (ho : Opens P d e Q) (ht : P.underlying t = some (.slice e)) {H : Type} {enc : TypeId × Value → H} {W : World} {base : Nat} {spare : Nat → Bool} {fuel : Nat} {cs : List Value} {x : DataW H × List MemPlace}
  (h : DataW.trod enc P W base spare true fuel t cs = some x) : ∃ (A : Option Addr) (c : Nat) (xs : List α), cs = [.slice A xs.length c] ∧ xs.length ≤ c ∧ c ≤ maxLen ∧ d.C W A xs.length xs ∧ ∀ v ∈ xs, Q v := by
 rcases open_slice ht h with ⟨rfl, _⟩ | ⟨a, len, cap, m, n, D, Pl, rfl, _, hl, hm, hmm, _, hi⟩
 ·exact ⟨none, 0, [], rfl, Nat.le_refl _, Nat.zero_le _, ⟨rfl, by simp, fun h => absurd h (Nat.lt_irrefl 0)⟩, fun v hv => by simp at hv⟩
 ·have hlm : len ≤ m := by rw [hmm]; split <;> omega
  obtain ⟨xs, hxl, hp⟩ := list_of (α := α) (p := fun i v => ∃ c : List Value, c.length = d.sz ∧ d.K W v c ∧ (∀ j u, c[j]? = some u → W.cell? (a.add (i * d.sz + j)) = some u) ∧ Q v) len (fun i hi' => by
   obtain ⟨cs', hc, ht'⟩ := hi i (by omega)
   obtain ⟨v, hk, hq⟩ := ho.2 ht'
   obtain ⟨_, hcl, hat⟩ := World.cells?_some hc
   rw [ho.1] at hcl hat
   refine ⟨v, cs', hcl, hk, fun j u hj => ?_, hq⟩
   have hjl : j < d.sz := by rw [← hcl]; exact (List.getElem?_eq_some_iff.1 hj).1
   rw [← Go.Deep.add_add, hat j hjl, hj])
  subst hxl
  refine ⟨some a, cap, xs, rfl, hl, hm, ⟨rfl, ?_, fun _ => ⟨a, rfl, fun j p hj => ?_⟩⟩, fun v hv => ?_⟩
  ·unfold maxLen at hm; omega
  ·obtain ⟨c, h1, h2, h3, _⟩ := hp j p hj
   exact ⟨c, h1, h2, h3⟩
  ·obtain ⟨i, hi', hv'⟩ := List.getElem_of_mem hv
   obtain ⟨_, _, _, _, hq⟩ := hp i v (by rw [List.getElem?_eq_getElem hi', hv'])
   exact hq
theorem fields_one {α : Type} {P : Program} {d : Kd α} {f : Field} {off : Nat} {Q : α → Prop} (hf : f.offset = off) (ho : Opens P d f.type Q) : Fields P d [f] off Q := by
 constructor
 intro H enc W base spare fuel cs hl h
 obtain ⟨x, hx⟩ := h f (by simp)
 rw [hf, ho.1, List.take_of_length_le (by rw [List.length_drop]; omega)] at hx
 exact ho.2 hx
theorem fields_cons {α β : Type} {P : Program} {a : Kd α} {b : Kd β} {f : Field} {fs : List Field} {off : Nat} {Q : α → Prop} {R : β → Prop} (hf : f.offset = off) (ho : Opens P a f.type Q) (hs : Fields P b fs (off + a.sz) R) :
  Fields P (Kd.pair a b) (f :: fs) off (fun v => Q v.1 ∧ R v.2) := by
 constructor
 intro H enc W base spare fuel cs hl h
 have hl' : cs.length = off + (a.sz + b.sz) := hl
 obtain ⟨x, hx⟩ := h f (by simp)
 rw [hf, ho.1] at hx
 obtain ⟨u, hu, hq⟩ := ho.2 hx
 obtain ⟨v, hv, hr⟩ := hs.out (by omega) (fun g hg => h g (List.mem_cons_of_mem _ hg))
 refine ⟨(u, v), ⟨(cs.drop off).take a.sz, cs.drop (off + a.sz), ?_, hu, hv⟩, hq, hr⟩
 rw [← List.drop_drop, List.take_append_drop]
theorem opens_struct {α β : Type} {P : Program} {d : Kd α} {t : TypeId} {fs : Array Field} {Q : α → Prop} (proj : β → α) (inj : α → β) (hi : ∀ v, proj (inj v) = v) (ht : P.underlying t = some (.struct fs)) (hc : P.cellsOf t = d.sz) (ho : Fields P d fs.toList 0 Q) :
  Opens P (Kd.iso d proj) t (fun v => Q (proj v)) :=
 ⟨hc, fun {H enc W base spare fuel cs x} h => by
  obtain ⟨xs, n, rfl, _, hl, hxl, hf⟩ := DataW.trod_struct ht h
  have hz : cs.length = 0 + d.sz := by rw [hl, hc]; omega
  obtain ⟨v, hv, hq⟩ := ho.out (enc := enc) (W := W) (base := base) (spare := spare) (fuel := n) (cs := cs) hz (fun f hfm => by
   obtain ⟨i, hi', he⟩ := List.getElem_of_mem hfm
   have hi2 : i < fs.size := by simpa using hi'
   have hfi : fs[i]? = some f := by rw [Array.getElem?_eq_getElem hi2, ← he]; simp
   refine ⟨xs[i]'(by omega), ?_⟩
   rw [hf i f hfi, List.getElem?_eq_getElem])
  refine ⟨inj v, ?_, ?_⟩
  ·show d.K W (proj (inj v)) cs
   rw [hi v]
   exact hv
  ·show Q (proj (inj v))
   rw [hi v]
   exact hq⟩
end Go.Proofs.YtgnfapnnbcafbaaDoor.OP
end
section
namespace Go.Proofs.YtgnfapnnbcafbaaDoor.GUL
open Go.RowKit Go.Proofs.YtgnfapnnbcafbaaDoorW.PrintWords Go.Proofs.YtgnfapnnbcafbaaDoorW.PrintLast Go.Proofs.YtgnfapnnbcafbaaDoorW.PrintMore
attribute [local go_sem] max2_int min2_int max_two min_two max_three min_three max_four min_four   -- for this text's walks alone
set_option linter.unusedVariables false
set_option linter.unusedSimpArgs false
def errW : Option Int → Value
 | none => .nilIface
 | some c => .iface 0 (.int .i64 c)
theorem errW_none : errW none = .nilIface := rfl
theorem errW_some (c : Int) : errW (some c) = .iface 0 (.int .i64 c) := rfl
theorem info30 : (Tryd.prog.info? 30).map (fun i => (i.zero, i.size, i.bytes)) = some (some (.agg #[(.string ⟨#[]⟩), (.string ⟨#[]⟩), (.string ⟨#[]⟩)]), 3, 48) := by kernel_rfl
structure S30 where
 f0 : ByteArray
 f1 : ByteArray
 f2 : ByteArray
def z30 : S30 := ⟨(⟨#[]⟩ : ByteArray), (⟨#[]⟩ : ByteArray), (⟨#[]⟩ : ByteArray)⟩
def k30 : Kd S30 := Kd.iso (Kd.pair Kd.string (Kd.pair Kd.string Kd.string)) (fun x : S30 => (x.f0, x.f1, x.f2))
theorem k30_open {w : World} {x : S30} {cs : List Value} (h : k30.K w x cs) : cs = [.string x.f0, .string x.f1, .string x.f2] := by
 obtain ⟨_, _, rfl, rfl, ⟨_, _, rfl, rfl, rfl⟩⟩ := h
 exact rfl
theorem k30_mkM (w : World) (base : Nat) (ok : Nat → Prop) (x : S30)  : k30.M w base ok x [.string x.f0, .string x.f1, .string x.f2] := ⟨[.string x.f0], [.string x.f1, .string x.f2], rfl, rfl, ⟨[.string x.f1], [.string x.f2], rfl, rfl, rfl⟩⟩
def rd_T30 (xs : List S30) (i : Int) : S30 := xs.getD i.toNat z30
theorem at_T30 {w : World} {A : Option Addr} {n : Nat} {xs : List S30} (h : Kd.C k30 w A n xs) (i : Int) (h0 : 0 ≤ i) (h1 : i < n) : ∃ ad , A = some ad ∧ w.cell? (ad.add (i.toNat * 3)) = some (.string (rd_T30 xs i).f0) ∧ w.cell? ⟨(ad.add (i.toNat * 3)).block, (ad.add (i.toNat * 3)).off + 1, none⟩ = some (.string (rd_T30 xs i).f1) ∧ w.cell? ⟨(ad.add (i.toNat * 3)).block, (ad.add (i.toNat * 3)).off + 2, none⟩ = some (.string (rd_T30 xs i).f2) := by
 obtain ⟨ad, c, e, _, hK, hc0⟩ := Kd.C_get h z30 i h0 h1
 have hc : ∀ j u, c[j]? = some u → w.cell? (ad.add (i.toNat * 3 + j)) = some u := hc0
 obtain rfl := k30_open hK
 exact ⟨ad, e, hc 0 _ rfl, by rw [← add_field _ _ 1 (by omega)]; exact hc 1 _ rfl, by rw [← add_field _ _ 2 (by omega)]; exact hc 2 _ rfl⟩
end Go.Proofs.YtgnfapnnbcafbaaDoor.GUL
end
section
/- A list of options among a call's arguments, opened. No condition. -/
namespace Go.Proofs.YtgnfapnnbcafbaaDoor.OP
open Go.RowKit Go.ChangeShapes Go.WideShapes Go.Deep Go.Proofs.YtgnfapnnbcafbaaDoorW.PrintWords Go.Proofs.YtgnfapnnbcafbaaDoor.GUL
set_option linter.unusedVariables false
theorem openS : Opens Tryd.prog Kd.string 9 (fun s => s.size ≤ maxLen) := opens_string Tryd.underlying9 (by kernel_rfl)
set_option maxRecDepth 100000 in
theorem open30 : Opens Tryd.prog k30 30 (fun x => x.f0.size ≤ maxLen ∧ x.f1.size ≤ maxLen ∧ x.f2.size ≤ maxLen) :=
 opens_struct (fun x : S30 => (x.f0, x.f1, x.f2)) (fun v => ⟨v.1, v.2.1, v.2.2⟩) (fun _ => rfl) Tryd.underlying30 (by kernel_rfl)
  (fields_cons rfl openS (fields_cons rfl openS (fields_one rfl openS)))
end Go.Proofs.YtgnfapnnbcafbaaDoor.OP
end
section
/- Contracts of Go's library at this program, laid by the shelf's own tool: plain declarations. Conditions: as each says. -/
namespace Go.Proofs
open Go.Shelf
def Tryd.lays100_ren : Go.Shelf.Ren := ⟨fun | 100 => 127 | 207 => 134 | n => n, fun | 9 => 9 | 4 => 4 | 3 => 3 | n => n, fun | n => n⟩
theorem Tryd.lays100 : Go.Proofs.Lays.n100 Tryd.prog Tryd.lays100_ren := {
 mixed := by kernel_rfl
 f100 := Tryd.func127.trans (congrArg some (by kernel_rfl))
 f207 := Tryd.func134.trans (congrArg some (by kernel_rfl))
 t3 := Tryd.underlying3
 a3 := Tryd.isAgg3
 z3 := Tryd.sizeOf3
 v3 := Tryd.zeroValue3
 t4 := Tryd.underlying4
 a4 := Tryd.isAgg4
 z4 := Tryd.sizeOf4
 v4 := Tryd.zeroValue4
 t9 := Tryd.underlying9
 a9 := Tryd.isAgg9
 z9 := Tryd.sizeOf9
 v9 := Tryd.zeroValue9 }
open Go.RowKit Go.Lib in
theorem Tryd.strings_HasSuffix (s p : ByteArray) (w : World) (hs : s.size ≤ 9223372036854775807) :
  Calls Tryd.prog 127 #[.string s, .string p] w fun e w' => e = .returned (.bool (Lib.hasSuffix s.data.toList p.data.toList)) ∧ w' = w := Any.strings_HasSuffix Tryd.lays100 s p w hs
def Tryd.lays197_ren : Go.Shelf.Ren := ⟨fun | 197 => 84 | 260 => 92 | n => n, fun | 9 => 9 | 21 => 21 | 3 => 3 | 4 => 4 | 5 => 5 | 105 => 120 | 119 => 130 | 0 => 0 | 46 => 52 | 139 => 133 | 138 => 132 | n => n, fun | 3 => 3 | 4 => 4 | n => n⟩
theorem Tryd.lays197 : Go.Proofs.Lays.n197 Tryd.prog Tryd.lays197_ren := {
 mixed := by kernel_rfl
 f197 := Tryd.func84.trans (congrArg some (by kernel_rfl))
 f260 := Tryd.func92.trans (congrArg some (by kernel_rfl))
 t0 := Tryd.underlying0
 a0 := Tryd.isAgg0
 z0 := Tryd.sizeOf0
 v0 := Tryd.zeroValue0
 t3 := Tryd.underlying3
 a3 := Tryd.isAgg3
 z3 := Tryd.sizeOf3
 v3 := Tryd.zeroValue3
 t4 := Tryd.underlying4
 a4 := Tryd.isAgg4
 z4 := Tryd.sizeOf4
 v4 := Tryd.zeroValue4
 t5 := Tryd.underlying5
 a5 := Tryd.isAgg5
 z5 := Tryd.sizeOf5
 v5 := Tryd.zeroValue5
 t9 := Tryd.underlying9
 a9 := Tryd.isAgg9
 z9 := Tryd.sizeOf9
 v9 := Tryd.zeroValue9
 t21 := Tryd.underlying21
 a21 := Tryd.isAgg21
 z21 := Tryd.sizeOf21
 v21 := Tryd.zeroValue21
 t46 := Tryd.underlying52
 a46 := Tryd.isAgg52
 z46 := Tryd.sizeOf52
 v46 := Tryd.zeroValue52
 t105 := Tryd.underlying120
 a105 := Tryd.isAgg120
 z105 := Tryd.sizeOf120
 v105 := Tryd.zeroValue120
 t119 := Tryd.underlying130
 a119 := Tryd.isAgg130
 z119 := Tryd.sizeOf130
 t138 := Tryd.underlying132
 a138 := Tryd.isAgg132
 z138 := Tryd.sizeOf132
 v138 := Tryd.zeroValue132
 t139 := Tryd.underlying133
 a139 := Tryd.isAgg133
 z139 := Tryd.sizeOf133
 v139 := Tryd.zeroValue133
 g3 := by kernel_rfl
 g4 := by kernel_rfl }
open Go.RowKit Go.Lib in
theorem Tryd.utf8_DecodeRuneInString (s : ByteArray) (w : World) (hT : Lib.Utf8Tabs 3 4 w) :
  Calls Tryd.prog 84 #[.string s] w fun e w' => e = .returned (.tuple #[.int .i32 (Lib.decodeGo s).1, .int .i64 (Lib.decodeGo s).2]) ∧ Below w.heap.size w w' := Any.utf8_DecodeRuneInString Tryd.lays197 s w hT
def Tryd.lays163_ren : Go.Shelf.Ren := ⟨fun | 163 => 112 | 237 => 124 | 199 => 99 | 238 => 125 | 272 => 132 | 261 => 110 | 273 => 133 | 197 => 84 | 315 => 136 | 311 => 122 | 312 => 123 | 271 => 137 | 260 => 92 | 120 => 135 | n => n, fun | 9 => 9 | 37 => 37 | 3 => 3 | 0 => 0 | 5 => 5 | 4 => 4 | 40 => 112 | 119 => 130 | 21 => 21 | 51 => 142 | 141 => 144 | 105 => 120 | 196 => 157 | 193 => 154 | 198 => 160 | 49 => 158 | 194 => 155 | 201 => 163 | 226 => 167 | 46 => 52 | 227 => 168 | 139 => 133 | 138 => 132 | n => n, fun | 0 => 8 | 6 => 6 | 3 => 3 | 4 => 4 | n => n⟩
theorem Tryd.lays163 : Go.Proofs.Lays.n163 Tryd.prog Tryd.lays163_ren := {
 mixed := by kernel_rfl
 f120 := Tryd.func135.trans (congrArg some (by kernel_rfl))
 f163 := Tryd.func112.trans (congrArg some (by kernel_rfl))
 f197 := Tryd.func84.trans (congrArg some (by kernel_rfl))
 f199 := Tryd.func99.trans (congrArg some (by kernel_rfl))
 f237 := Tryd.func124.trans (congrArg some (by kernel_rfl))
 f238 := Tryd.func125.trans (congrArg some (by kernel_rfl))
 f260 := Tryd.func92.trans (congrArg some (by kernel_rfl))
 f261 := Tryd.func110.trans (congrArg some (by kernel_rfl))
 f271 := Tryd.func137.trans (congrArg some (by kernel_rfl))
 f272 := Tryd.func132.trans (congrArg some (by kernel_rfl))
 f273 := Tryd.func133.trans (congrArg some (by kernel_rfl))
 f311 := Tryd.func122.trans (congrArg some (by kernel_rfl))
 f312 := Tryd.func123.trans (congrArg some (by kernel_rfl))
 f315 := Tryd.func136.trans (congrArg some (by kernel_rfl))
 t0 := Tryd.underlying0
 a0 := Tryd.isAgg0
 z0 := Tryd.sizeOf0
 v0 := Tryd.zeroValue0
 t3 := Tryd.underlying3
 a3 := Tryd.isAgg3
 z3 := Tryd.sizeOf3
 v3 := Tryd.zeroValue3
 t4 := Tryd.underlying4
 a4 := Tryd.isAgg4
 z4 := Tryd.sizeOf4
 v4 := Tryd.zeroValue4
 t5 := Tryd.underlying5
 a5 := Tryd.isAgg5
 z5 := Tryd.sizeOf5
 v5 := Tryd.zeroValue5
 t9 := Tryd.underlying9
 a9 := Tryd.isAgg9
 z9 := Tryd.sizeOf9
 v9 := Tryd.zeroValue9
 t21 := Tryd.underlying21
 a21 := Tryd.isAgg21
 z21 := Tryd.sizeOf21
 v21 := Tryd.zeroValue21
 t37 := Tryd.underlying37
 a37 := Tryd.isAgg37
 z37 := Tryd.sizeOf37
 v37 := Tryd.zeroValue37
 t40 := Tryd.underlying112
 a40 := Tryd.isAgg112
 z40 := Tryd.sizeOf112
 v40 := Tryd.zeroValue112
 t46 := Tryd.underlying52
 a46 := Tryd.isAgg52
 z46 := Tryd.sizeOf52
 v46 := Tryd.zeroValue52
 t49 := Tryd.underlying158
 a49 := Tryd.isAgg158
 z49 := Tryd.sizeOf158
 v49 := Tryd.zeroValue158
 t51 := Tryd.underlying142
 a51 := Tryd.isAgg142
 z51 := Tryd.sizeOf142
 v51 := Tryd.zeroValue142
 t105 := Tryd.underlying120
 a105 := Tryd.isAgg120
 z105 := Tryd.sizeOf120
 v105 := Tryd.zeroValue120
 t119 := Tryd.underlying130
 a119 := Tryd.isAgg130
 z119 := Tryd.sizeOf130
 t138 := Tryd.underlying132
 a138 := Tryd.isAgg132
 z138 := Tryd.sizeOf132
 v138 := Tryd.zeroValue132
 t139 := Tryd.underlying133
 a139 := Tryd.isAgg133
 z139 := Tryd.sizeOf133
 v139 := Tryd.zeroValue133
 t141 := Tryd.underlying144
 a141 := Tryd.isAgg144
 z141 := Tryd.sizeOf144
 v141 := Tryd.zeroValue144
 t193 := Tryd.underlying154
 a193 := Tryd.isAgg154
 z193 := Tryd.sizeOf154
 v193 := Tryd.zeroValue154
 t194 := Tryd.underlying155
 a194 := Tryd.isAgg155
 z194 := Tryd.sizeOf155
 v194 := Tryd.zeroValue155
 t196 := Tryd.underlying157
 a196 := Tryd.isAgg157
 z196 := Tryd.sizeOf157
 v196 := Tryd.zeroValue157
 t198 := Tryd.underlying160
 a198 := Tryd.isAgg160
 z198 := Tryd.sizeOf160
 v198 := Tryd.zeroValue160
 t201 := Tryd.underlying163
 a201 := Tryd.isAgg163
 z201 := Tryd.sizeOf163
 v201 := Tryd.zeroValue163
 t226 := Tryd.underlying167
 a226 := Tryd.isAgg167
 z226 := Tryd.sizeOf167
 v226 := Tryd.zeroValue167
 t227 := Tryd.underlying168
 a227 := Tryd.isAgg168
 z227 := Tryd.sizeOf168
 v227 := Tryd.zeroValue168
 g0 := by kernel_rfl
 g3 := by kernel_rfl
 g4 := by kernel_rfl
 g6 := by kernel_rfl }
theorem Tryd.Space_Extra_163 : Space.Extra Tryd.prog Tryd.lays163_ren := {
 gNamed := by kernel_rfl }
open Go.RowKit in
theorem Tryd.strings_TrimSpace_any (s : ByteArray) (w : World) (hs : s.size ≤ 9223372036854775807) (htab : Lib.TabIs Tryd.prog w "strings.asciiSpace" .u8 Lib.asciiSpaceTab) (hU8 : Lib.Utf8Tabs 3 4 w) (hWS : Lib.WhiteTab 6 w) :
  Calls Tryd.prog 112 #[.string s] w fun e w' => e = .returned (.string ⟨(Lib.trimSpaceD s.data.toList).toArray⟩) ∧ Below w.heap.size w w' := Any.strings_TrimSpace_any Tryd.lays163 Tryd.Space_Extra_163 s w hs htab hU8 hWS
def Tryd.laysnb117_ren : Go.Shelf.Ren := ⟨fun | 117 => 90 | 115 => 96 | n => n, fun | 37 => 37 | 4 => 4 | 3 => 3 | 9 => 9 | 5 => 5 | n => n, fun | n => n⟩
theorem Tryd.laysnb117 : Go.Proofs.Lays.nb117 Tryd.prog Tryd.laysnb117_ren := {
 mixed := by kernel_rfl
 f115 := Tryd.func96.trans (congrArg some (by kernel_rfl))
 f117 := Tryd.func90.trans (congrArg some (by kernel_rfl))
 t3 := Tryd.underlying3
 a3 := Tryd.isAgg3
 z3 := Tryd.sizeOf3
 v3 := Tryd.zeroValue3
 t4 := Tryd.underlying4
 a4 := Tryd.isAgg4
 z4 := Tryd.sizeOf4
 v4 := Tryd.zeroValue4
 t9 := Tryd.underlying9
 a9 := Tryd.isAgg9
 z9 := Tryd.sizeOf9
 v9 := Tryd.zeroValue9
 t37 := Tryd.underlying37
 a37 := Tryd.isAgg37
 z37 := Tryd.sizeOf37
 v37 := Tryd.zeroValue37
 t5 := Tryd.underlying5
 a5 := Tryd.isAgg5
 z5 := Tryd.sizeOf5
 v5 := Tryd.zeroValue5 }
theorem Tryd.bytes_HasSuffix (b1 o1 n c b2 o2 m d : Nat) (xs ys : List Int) (w : World) (hx : xs.length = n) (hy : ys.length = m) (hnc : n ≤ c) (hbig : n ≤ 9223372036854775807) (hc1 : ∀ i, i < n → w.cell? ⟨b1, o1 + i, none⟩ = some (.int .u8 (xs.getD i 0))) (hc2 : ∀ i, i < m → w.cell? ⟨b2, o2 + i, none⟩ = some (.int .u8 (ys.getD i 0))) :
  Calls Tryd.prog 90 #[.slice (some ⟨b1, o1, none⟩) n c, .slice (some ⟨b2, o2, none⟩) m d] w fun e w' => e = .returned (.bool (Lib.hasSuffix (Lib.bytesOf xs) (Lib.bytesOf ys))) ∧ w' = w := Any.bytes_HasSuffix Tryd.laysnb117 b1 o1 n c b2 o2 m d xs ys w hx hy hnc hbig hc1 hc2
def Tryd.laysnb140_ren : Go.Shelf.Ren := ⟨fun | 140 => 89 | 117 => 90 | 115 => 96 | n => n, fun | 37 => 37 | 4 => 4 | 3 => 3 | 9 => 9 | 5 => 5 | n => n, fun | n => n⟩
theorem Tryd.laysnb140 : Go.Proofs.Lays.nb140 Tryd.prog Tryd.laysnb140_ren := {
 mixed := by kernel_rfl
 f115 := Tryd.func96.trans (congrArg some (by kernel_rfl))
 f117 := Tryd.func90.trans (congrArg some (by kernel_rfl))
 f140 := Tryd.func89.trans (congrArg some (by kernel_rfl))
 t3 := Tryd.underlying3
 a3 := Tryd.isAgg3
 z3 := Tryd.sizeOf3
 v3 := Tryd.zeroValue3
 t4 := Tryd.underlying4
 a4 := Tryd.isAgg4
 z4 := Tryd.sizeOf4
 v4 := Tryd.zeroValue4
 t9 := Tryd.underlying9
 a9 := Tryd.isAgg9
 z9 := Tryd.sizeOf9
 v9 := Tryd.zeroValue9
 t37 := Tryd.underlying37
 a37 := Tryd.isAgg37
 z37 := Tryd.sizeOf37
 v37 := Tryd.zeroValue37
 t5 := Tryd.underlying5
 a5 := Tryd.isAgg5
 z5 := Tryd.sizeOf5
 v5 := Tryd.zeroValue5 }
theorem Tryd.bytes_TrimSuffix (b1 o1 n c b2 o2 m d : Nat) (xs ys : List Int) (w : World) (hx : xs.length = n) (hy : ys.length = m) (hnc : n ≤ c) (hbig : n ≤ 9223372036854775807) (hc1 : ∀ i, i < n → w.cell? ⟨b1, o1 + i, none⟩ = some (.int .u8 (xs.getD i 0))) (hc2 : ∀ i, i < m → w.cell? ⟨b2, o2 + i, none⟩ = some (.int .u8 (ys.getD i 0))) :
  Calls Tryd.prog 89 #[.slice (some ⟨b1, o1, none⟩) n c, .slice (some ⟨b2, o2, none⟩) m d] w fun e w' => e = .returned (Lib.bytesTrimSuffix b1 o1 n c xs ys) ∧ w' = w := Any.bytes_TrimSuffix Tryd.laysnb140 b1 o1 n c b2 o2 m d xs ys w hx hy hnc hbig hc1 hc2
def Tryd.laysbs188_ren : Go.Shelf.Ren := ⟨fun | 188 => 94 | 256 => 98 | 199 => 99 | 293 => 109 | 292 => 108 | 261 => 110 | 327 => 121 | 325 => 119 | 326 => 120 | 311 => 122 | 312 => 123 | 341 => 130 | 342 => 131 | 120 => 135 | n => n, fun | 37 => 37 | 3 => 3 | 0 => 0 | 5 => 5 | 4 => 4 | 40 => 112 | 119 => 130 | 21 => 21 | 51 => 142 | 141 => 144 | 105 => 120 | 196 => 157 | 193 => 154 | 198 => 160 | 49 => 158 | 194 => 155 | 201 => 163 | 226 => 167 | 46 => 52 | 227 => 168 | 139 => 133 | 138 => 132 | n => n, fun | 2 => 5 | 6 => 6 | 3 => 3 | 4 => 4 | n => n⟩
theorem Tryd.laysbs188 : Go.Proofs.Lays.nbs188 Tryd.prog Tryd.laysbs188_ren := {
 mixed := by kernel_rfl
 f120 := Tryd.func135.trans (congrArg some (by kernel_rfl))
 f188 := Tryd.func94.trans (congrArg some (by kernel_rfl))
 f199 := Tryd.func99.trans (congrArg some (by kernel_rfl))
 f256 := Tryd.func98.trans (congrArg some (by kernel_rfl))
 f261 := Tryd.func110.trans (congrArg some (by kernel_rfl))
 f292 := Tryd.func108.trans (congrArg some (by kernel_rfl))
 f293 := Tryd.func109.trans (congrArg some (by kernel_rfl))
 f311 := Tryd.func122.trans (congrArg some (by kernel_rfl))
 f312 := Tryd.func123.trans (congrArg some (by kernel_rfl))
 f325 := Tryd.func119.trans (congrArg some (by kernel_rfl))
 f326 := Tryd.func120.trans (congrArg some (by kernel_rfl))
 f327 := Tryd.func121.trans (congrArg some (by kernel_rfl))
 f341 := Tryd.func130.trans (congrArg some (by kernel_rfl))
 f342 := Tryd.func131.trans (congrArg some (by kernel_rfl))
 t0 := Tryd.underlying0
 a0 := Tryd.isAgg0
 z0 := Tryd.sizeOf0
 v0 := Tryd.zeroValue0
 t3 := Tryd.underlying3
 a3 := Tryd.isAgg3
 z3 := Tryd.sizeOf3
 v3 := Tryd.zeroValue3
 t4 := Tryd.underlying4
 a4 := Tryd.isAgg4
 z4 := Tryd.sizeOf4
 v4 := Tryd.zeroValue4
 t5 := Tryd.underlying5
 a5 := Tryd.isAgg5
 z5 := Tryd.sizeOf5
 v5 := Tryd.zeroValue5
 t21 := Tryd.underlying21
 a21 := Tryd.isAgg21
 z21 := Tryd.sizeOf21
 v21 := Tryd.zeroValue21
 t37 := Tryd.underlying37
 a37 := Tryd.isAgg37
 z37 := Tryd.sizeOf37
 v37 := Tryd.zeroValue37
 t40 := Tryd.underlying112
 a40 := Tryd.isAgg112
 z40 := Tryd.sizeOf112
 v40 := Tryd.zeroValue112
 t46 := Tryd.underlying52
 a46 := Tryd.isAgg52
 z46 := Tryd.sizeOf52
 v46 := Tryd.zeroValue52
 t49 := Tryd.underlying158
 a49 := Tryd.isAgg158
 z49 := Tryd.sizeOf158
 v49 := Tryd.zeroValue158
 t51 := Tryd.underlying142
 a51 := Tryd.isAgg142
 z51 := Tryd.sizeOf142
 v51 := Tryd.zeroValue142
 t105 := Tryd.underlying120
 a105 := Tryd.isAgg120
 z105 := Tryd.sizeOf120
 v105 := Tryd.zeroValue120
 t119 := Tryd.underlying130
 a119 := Tryd.isAgg130
 z119 := Tryd.sizeOf130
 t138 := Tryd.underlying132
 a138 := Tryd.isAgg132
 z138 := Tryd.sizeOf132
 v138 := Tryd.zeroValue132
 t139 := Tryd.underlying133
 a139 := Tryd.isAgg133
 z139 := Tryd.sizeOf133
 v139 := Tryd.zeroValue133
 t141 := Tryd.underlying144
 a141 := Tryd.isAgg144
 z141 := Tryd.sizeOf144
 v141 := Tryd.zeroValue144
 t193 := Tryd.underlying154
 a193 := Tryd.isAgg154
 z193 := Tryd.sizeOf154
 v193 := Tryd.zeroValue154
 t194 := Tryd.underlying155
 a194 := Tryd.isAgg155
 z194 := Tryd.sizeOf155
 v194 := Tryd.zeroValue155
 t196 := Tryd.underlying157
 a196 := Tryd.isAgg157
 z196 := Tryd.sizeOf157
 v196 := Tryd.zeroValue157
 t198 := Tryd.underlying160
 a198 := Tryd.isAgg160
 z198 := Tryd.sizeOf160
 v198 := Tryd.zeroValue160
 t201 := Tryd.underlying163
 a201 := Tryd.isAgg163
 z201 := Tryd.sizeOf163
 v201 := Tryd.zeroValue163
 t226 := Tryd.underlying167
 a226 := Tryd.isAgg167
 z226 := Tryd.sizeOf167
 v226 := Tryd.zeroValue167
 t227 := Tryd.underlying168
 a227 := Tryd.isAgg168
 z227 := Tryd.sizeOf168
 v227 := Tryd.zeroValue168
 g2 := by kernel_rfl
 g3 := by kernel_rfl
 g4 := by kernel_rfl
 g6 := by kernel_rfl
 gNamed := by kernel_rfl }
open Go.RowKit in
theorem Tryd.bytes_TrimSpace (b o n c : Nat) (xs : List Int) (w : World) (hx : xs.length = n) (hnc : n ≤ c) (hbig : n ≤ 9223372036854775807) (hc : ∀ i, i < n → w.cell? ⟨b, o + i, none⟩ = some (.int .u8 (xs.getD i 0))) (hascii : ∀ i, i < n → 0 ≤ xs.getD i 0 ∧ xs.getD i 0 < 128) (htab : Lib.TabIs Tryd.prog w "bytes.asciiSpace" .u8 Lib.asciiSpaceTab) :
  Calls Tryd.prog 94 #[.slice (some ⟨b, o, none⟩) n c] w fun e w' => e = .returned (Lib.bytesTrimSpace b o c (Lib.bytesOf xs)) ∧ w' = w := Any.bytes_TrimSpace Tryd.laysbs188 b o n c xs w hx hnc hbig hc hascii htab
end Go.Proofs
end
section
/- A unit file read and written, plainly: the lexer's steps on bytes, what a written file is read as. Conditions: as they say. -/
namespace Go.Proofs.YtgnfapnnbcafbaaDoor.UN
open Go
set_option linter.unusedVariables false
abbrev Bs := List UInt8
inductive LD where
 | opt (s n v : Bs)
 | sec (s : Bs)
inductive K where
 | ns
 | sn
 | ss (a : Bs)
 | ig (n : K)
 | no (a : Bs)
 | on (a : Bs)
 | ov (a n p : Bs)
inductive Out where
 | done (err : Bool)
 | go (q : K) (s : Bs) (x : List LD)
def cut (p : UInt8 → Bool) : Bs → Option (Bs × UInt8 × Bs)
 | [] => none
 | b :: r => if p b then some ([], b, r) else (cut p r).map fun x => (b :: x.1, x.2)
theorem cut_app (p : UInt8 → Bool) : ∀ (a : Bs) (c : UInt8) (r : Bs), (∀ b ∈ a, p b = false) → p c = true → cut p (a ++ c :: r) = some (a, c, r)
 | [], c, r, _, hc => by rw [List.nil_append, cut, if_pos hc]
 | b :: a, c, r, h, hc => by
  rw [List.cons_append, cut, if_neg (by simp [h b (by simp)]), cut_app p a c r (fun x hx => h x (by simp [hx])) hc]
  rfl
theorem cut_some (p : UInt8 → Bool) : ∀ (s a : Bs) (c : UInt8) (r : Bs), cut p s = some (a, c, r) → s = a ++ c :: r ∧ p c = true ∧ ∀ b ∈ a, p b = false
 | [], a, c, r, h => by cases h
 | b :: s, a, c, r, h => by
  rw [cut] at h
  split at h
  ·cases h; exact ⟨rfl, by assumption, fun x hx => by cases hx⟩
  ·rename_i hb
   obtain ⟨⟨a', c', r'⟩, h1, h2⟩ := Option.map_eq_some_iff.1 h
   cases h2
   obtain ⟨e, e1, e2⟩ := cut_some p s a' c r h1
   refine ⟨by rw [e]; rfl, e1, fun x hx => ?_⟩
   rcases List.mem_cons.1 hx with rfl | hx
   ·simpa using hb
   ·exact e2 x hx
theorem cut_none (p : UInt8 → Bool) : ∀ (s : Bs), cut p s = none → ∀ b ∈ s, p b = false
 | [], _, x, hx => by cases hx
 | b :: s, h, x, hx => by
  rw [cut] at h
  split at h
  ·cases h
  ·rename_i hb
   rcases List.mem_cons.1 hx with rfl | hx
   ·simpa using hb
   ·exact cut_none p s (by simpa using h) x hx
def ascii (l : Bs) : Bool := l.all fun b => decide (b.toNat < 128)
def dropCR (s : Bs) : Bs := if s.getLast? = some 13 then s.dropLast else s
def eol (s : Bs) : Bs × Bool × Bs := match cut (· == 10) s with
 | some (a, _, r) => (a, false, r)
 | none => (dropCR s, true, [])
def nl (b : UInt8) : Bool := b == 10 || b == 13
def dl (b : UInt8) : Bool := b == 61 || nl b
def long (s : Bs) : Prop := 2048 ≤ s.length ∧ ∀ b ∈ s.take 2048, nl b = false
instance (s : Bs) : Decidable (long s) := by unfold long; exact inferInstance
def spR (c : Nat) : Bool := decide ((9 ≤ c ∧ c ≤ 13) ∨ c = 32 ∨ c = 133 ∨ c = 160 ∨ c = 5760 ∨ c = 8232 ∨ c = 8233 ∨ c = 8239 ∨ c = 8287 ∨ c = 12288 ∨ (8192 ≤ c ∧ c ≤ 8202))
def Rune (s : Bs) (c n : Nat) : Prop := 1 ≤ n ∧ n ≤ s.length ∧ ∀ b r, s = b :: r → (b.toNat < 128 → c = b.toNat ∧ n = 1) ∧ (128 ≤ b.toNat → 128 ≤ c)
def valF (p : Bs) : Bs := if p.getLast? = some 10 then Lib.trimSpaceD p ++ [10] else Lib.trimSpaceD p
def nsOut (c : Nat) (r : Bs) : Out := if c = 91 then .go .sn r [] else if c = 35 ∨ c = 59 then .go (.ig .ns) r [] else .go .ns r []
def noOut (a : Bs) (c : Nat) (r s : Bs) : Out := if spR c = true then .go (.no a) r [] else if c = 91 then .go .sn r [] else if c = 35 ∨ c = 59 then .go (.ig (.no a)) r [] else .go (.on a) s []
def snOut (s : Bs) : Out := match cut (· == 93) s with
 | some (a, _, r) => .go (.ss a) r []
 | none => .done true
def ssOut (a s : Bs) (bl : Bool) : Out := if bl = true then .go (.no a) (eol s).2.2 [.sec a] else .done true
def onOut (a b : Bs) (c : UInt8) (r : Bs) : Out := if c = 61 then .go (.ov a (Lib.trimSpaceD b) []) r [] else .done true
def ovOut (a n p s : Bs) (bl : Bool) : Out :=
 if bl = true then .go (.no a) (eol s).2.2 [.opt a n (valF p)]
 else if (eol s).1.getLast? = some 92 then .go (.ov a n (if (eol s).2.1 = true then p ++ (eol s).1 else p ++ (eol s).1 ++ [10])) (eol s).2.2 []
 else .go (.no a) (eol s).2.2 [.opt a n (valF (p ++ (eol s).1))]
def Blank (ln : Bs) (bl : Bool) : Prop := (ascii ln = true → bl = ln.all Lib.isSp) ∧ (ln = [] → bl = true)
def Loose (a s : Bs) (o : Out) : Prop := o = .done true ∨ ∃ n r, r <:+ s ∧ r.length < s.length ∧ n.length ≤ 4 * s.length ∧ o = .go (.ov a n []) r []
def Step : K → Bs → Out → Prop
 | .ns, s, o => (s = [] ∧ o = .done false) ∨ ∃ c n, Rune s c n ∧ o = nsOut c (s.drop n)
 | .sn, s, o => o = snOut s
 | .ss a, s, o => ∃ bl, Blank (eol s).1 bl ∧ o = ssOut a s bl
 | .ig q, s, o => ∃ r, r <:+ s ∧ o = .go q r []
 | .no a, s, o => (s = [] ∧ o = .done false) ∨ ∃ c n, Rune s c n ∧ o = noOut a c (s.drop n) s
 | .on a, s, o => match cut dl s with
  | some (b, c, r) => if ascii b = true then o = onOut a b c r else Loose a s o
  | none => Loose a s o
 | .ov a n p, s, o => ∃ bl, Blank (eol s).1 bl ∧ o = ovOut a n p s bl
def need (C : Bs → Prop) : K → Bs → Prop
 | .ss _, s => C (eol s).1
 | .ov _ _ _, s => C (eol s).1
 | _, _ => True
def Wp (C : Bs → Prop) : Nat → K → Bs → List LD → (Bool → List LD → Prop) → Prop
 | 0, _, _, _, _ => False
 | k + 1, q, s, d, Post => (long s → Post true d) ∧ need C q s ∧ ∀ o, Step q s o → match o with
  | .done e => Post e d
  | .go q' s' x => Wp C k q' s' (d ++ x) Post
def stepF : K → Bs → Option Out
 | .ns, s => match s with
  | [] => some (.done false)
  | b :: r => if b.toNat < 128 then some (nsOut b.toNat r) else none
 | .sn, s => some (snOut s)
 | .ss a, s => if ascii (eol s).1 = true then some (ssOut a s ((eol s).1.all Lib.isSp)) else none
 | .ig _, _ => none
 | .no a, s => match s with
  | [] => some (.done false)
  | b :: r => if b.toNat < 128 then some (noOut a b.toNat r s) else none
 | .on a, s => match cut dl s with
  | some (b, c, r) => if ascii b = true then some (onOut a b c r) else none
  | none => none
 | .ov a n p, s => if ascii (eol s).1 = true then some (ovOut a n p s ((eol s).1.all Lib.isSp)) else none
theorem stepF_ok {q : K} {s : Bs} {o : Out} (h : stepF q s = some o) : need (fun l => ascii l = true) q s ∧ ∀ o', Step q s o' → o' = o := by
 cases q with
 | ns =>
  refine ⟨trivial, fun o' ho => ?_⟩
  cases s with
  | nil =>
   rcases ho with ⟨_, rfl⟩ | ⟨c, n, ⟨h1, h2, _⟩, _⟩
   ·exact Option.some.inj h
   ·simp at h2; omega
  | cons b r =>
   simp only [stepF] at h
   split at h
   ·rename_i hb
    rcases ho with ⟨h0, _⟩ | ⟨c, n, ⟨h1, h2, h3⟩, rfl⟩
    ·cases h0
    ·obtain ⟨rfl, rfl⟩ := (h3 b r rfl).1 hb
     exact Option.some.inj h
   ·cases h
 | sn => exact ⟨trivial, fun o' ho => by rw [show o' = snOut s from ho]; exact Option.some.inj h⟩
 | ss a =>
  simp only [stepF] at h
  split at h
  ·rename_i hb
   exact ⟨hb, fun o' ⟨bl, h1, h2⟩ => by rw [h2, h1.1 hb]; exact Option.some.inj h⟩
  ·cases h
 | ig n => cases h
 | no a =>
  refine ⟨trivial, fun o' ho => ?_⟩
  cases s with
  | nil =>
   rcases ho with ⟨_, rfl⟩ | ⟨c, n, ⟨h1, h2, _⟩, _⟩
   ·exact Option.some.inj h
   ·simp at h2; omega
  | cons b r =>
   simp only [stepF] at h
   split at h
   ·rename_i hb
    rcases ho with ⟨h0, _⟩ | ⟨c, n, ⟨h1, h2, h3⟩, rfl⟩
    ·cases h0
    ·obtain ⟨rfl, rfl⟩ := (h3 b r rfl).1 hb
     exact Option.some.inj h
   ·cases h
 | on a =>
  refine ⟨trivial, fun o' ho => ?_⟩
  simp only [stepF] at h
  simp only [Step] at ho
  cases hc : cut dl s with
  | none => rw [hc] at h; cases h
  | some x =>
   obtain ⟨b, c, r⟩ := x
   rw [hc] at h ho
   simp only at h ho
   split at h
   ·rename_i hb
    rw [if_pos hb] at ho
    rw [ho]; exact Option.some.inj h
   ·cases h
 | ov a n p =>
  simp only [stepF] at h
  split at h
  ·rename_i hb
   exact ⟨hb, fun o' ⟨bl, h1, h2⟩ => by rw [h2, h1.1 hb]; exact Option.some.inj h⟩
  ·cases h
def runF : Nat → K → Bs → List LD → Option (Bool × List LD)
 | 0, _, _, _ => none
 | k + 1, q, s, d => if long s then none else (stepF q s).bind fun o => match o with
  | .done e => some (e, d)
  | .go q' s' x => runF k q' s' (d ++ x)
theorem run_wp : ∀ {k : Nat} {q : K} {s : Bs} {d : List LD} {r : Bool × List LD}, runF k q s d = some r → Wp (fun l => ascii l = true) k q s d fun e d' => (e, d') = r
 | 0, q, s, d, r, h => by cases h
 | k + 1, q, s, d, r, h => by
  rw [runF] at h
  split at h
  ·cases h
  ·rename_i hl
   obtain ⟨o, ho, h⟩ := Option.bind_eq_some_iff.1 h
   obtain ⟨h1, h2⟩ := stepF_ok ho
   refine ⟨fun h => absurd h hl, h1, fun o' ho' => ?_⟩
   obtain rfl := h2 o' ho'
   cases o' with
   | done e => exact Option.some.inj h
   | go q' s' x => exact run_wp h
theorem Wp_mono {C C' : Bs → Prop} (hC : ∀ l, C l → C' l) {P P' : Bool → List LD → Prop} (hP : ∀ e d, P e d → P' e d) : ∀ {k : Nat} {q : K} {s : Bs} {d : List LD}, Wp C k q s d P → Wp C' k q s d P'
 | 0, _, _, _, h => h.elim
 | k + 1, q, s, d, h => by
  refine ⟨fun hl => hP _ _ (h.1 hl), ?_, fun o ho => ?_⟩
  ·have := h.2.1
   cases q with
   | ss a => exact hC _ this
   | ov a n p => exact hC _ this
   | _ => trivial
  ·have := h.2.2 o ho
   cases o with
   | done e => exact hP _ _ this
   | go q' s' x => exact Wp_mono hC hP this
structure O where
 s : Bs
 n : Bs
 v : Bs
def optsOf : List LD → List O
 | [] => []
 | .opt s n v :: r => ⟨s, n, v⟩ :: optsOf r
 | .sec _ :: r => optsOf r
def okD : Bool → List LD → Bool
 | _, [] => true
 | b, .opt _ _ _ :: r => b && okD b r
 | _, .sec _ :: r => okD true r
theorem optsOf_app : ∀ (a b : List LD), optsOf (a ++ b) = optsOf a ++ optsOf b
 | [], b => rfl
 | .opt s n v :: a, b => by rw [List.cons_append, optsOf, optsOf, optsOf_app a b]; rfl
 | .sec s :: a, b => by rw [List.cons_append, optsOf, optsOf, optsOf_app a b]
def Run (q : K) (s : Bs) (d : List LD) (r : Bool × List LD) : Prop := ∃ k, runF k q s d = some r
theorem Run.step {q q' : K} {s s' : Bs} {d x : List LD} {r : Bool × List LD} (hl : ¬ long s) (hs : stepF q s = some (.go q' s' x)) (h : Run q' s' (d ++ x) r) : Run q s d r := by
 obtain ⟨k, h⟩ := h
 exact ⟨k + 1, by rw [runF, if_neg hl, hs]; exact h⟩
def seen (l : Bs) : Prop := ∀ b ∈ l, 32 ≤ b.toNat ∧ b.toNat ≤ 126
theorem seen_ascii {l : Bs} (h : seen l) : ascii l = true := List.all_eq_true.2 fun b hb => decide_eq_true (by have := h b hb; omega)
def snug (l : Bs) : Prop := l.head? ≠ some 32 ∧ l.getLast? ≠ some 32
structure GoodO (o : O) : Prop where
 hn : seen o.n
 hv : seen o.v
 sn : snug o.n
 sv : snug o.v
 ln : o.n.length ≤ 400
 lv : o.v.length ≤ 400
 eq : ∀ b ∈ o.n, b ≠ 61
 lt : ∃ c r, o.n = c :: r ∧ ((97 ≤ c.toNat ∧ c.toNat ≤ 122) ∨ (65 ≤ c.toNat ∧ c.toNat ≤ 90))
 bs : o.v.getLast? ≠ some 92
structure GoodS (a : Bs) : Prop where
 h : seen a
 l : a.length ≤ 400
 br : ∀ b ∈ a, b ≠ 91 ∧ b ≠ 93
def optText (o : O) : Bs := o.n ++ 61 :: (o.v ++ [10])
abbrev G := Bs × List O
structure GoodG (g : G) : Prop where
 s : GoodS g.1
 o : ∀ o ∈ g.2, GoodO o
def secText (g : G) : Bs := 91 :: (g.1 ++ 93 :: 10 :: g.2.flatMap optText)
def tailText : List G → Bs
 | [] => []
 | g :: r => 10 :: (secText g ++ tailText r)
def groupsText : List G → Bs
 | [] => []
 | g :: r => secText g ++ tailText r
def addS (S : List Bs) (a : Bs) : List Bs := if a ∈ S then S else S ++ [a]
def secs (l : List O) : List Bs := l.foldl (fun S o => addS S o.s) []
def groups (l : List O) : List G := (secs l).map fun a => (a, l.filter fun o => o.s == a)
theorem mem_addS {S : List Bs} {a b : Bs} : b ∈ addS S a ↔ b ∈ S ∨ b = a := by
 unfold addS
 split
 ·rename_i h
  constructor
  ·exact fun hb => .inl hb
  ·rintro (hb | rfl)
   ·exact hb
   ·exact h
 ·simp
theorem mem_secs_from : ∀ (l : List O) (S : List Bs) (a : Bs), a ∈ l.foldl (fun S o => addS S o.s) S ↔ a ∈ S ∨ ∃ o ∈ l, o.s = a
 | [], S, a => by simp
 | o :: l, S, a => by
  rw [List.foldl_cons, mem_secs_from l (addS S o.s) a, mem_addS]
  constructor
  ·rintro ((h | rfl) | ⟨x, hx, h⟩)
   ·exact .inl h
   ·exact .inr ⟨o, by simp, rfl⟩
   ·exact .inr ⟨x, by simp [hx], h⟩
  ·rintro (h | ⟨x, hx, h⟩)
   ·exact .inl (.inl h)
   ·rcases List.mem_cons.1 hx with rfl | hx
    ·exact .inl (.inr h.symm)
    ·exact .inr ⟨x, hx, h⟩
theorem mem_secs (l : List O) (a : Bs) : a ∈ secs l ↔ ∃ o ∈ l, o.s = a := by unfold secs; rw [mem_secs_from]; simp
theorem nodup_addS {S : List Bs} (h : S.Nodup) (a : Bs) : (addS S a).Nodup := by
 unfold addS
 split
 ·exact h
 ·rename_i ha
  rw [List.nodup_append]
  refine ⟨h, by simp, fun x hx y hy => ?_⟩
  rw [List.mem_singleton] at hy
  rintro rfl
  exact ha (hy ▸ hx)
theorem nodup_secs (l : List O) : (secs l).Nodup := by
 have key : ∀ (l : List O) (S : List Bs), S.Nodup → (l.foldl (fun S o => addS S o.s) S).Nodup := by
  intro l
  induction l with
  | nil => intro S h; exact h
  | cons o l ih => intro S h; exact ih _ (nodup_addS h o.s)
 exact key l [] List.nodup_nil
theorem groups_good (l : List O) (hs : ∀ o ∈ l, GoodS o.s) (ho : ∀ o ∈ l, GoodO o) : ∀ g ∈ groups l, GoodG g := by
 intro g hg
 unfold groups at hg
 obtain ⟨a, ha, rfl⟩ := List.mem_map.1 hg
 obtain ⟨o, h1, rfl⟩ := (mem_secs l a).1 ha
 exact ⟨hs o h1, fun x hx => ho x (List.mem_filter.1 hx).1⟩
def groupedL (l : List O) : List O := (groups l).flatMap (·.2)
def wt : K → Nat
 | .ns => 0
 | .sn => 0
 | .ss _ => 2
 | .ig q => wt q + 1
 | .no _ => 1
 | .on _ => 0
 | .ov _ _ _ => 2
def mu (q : K) (s : Bs) : Nat := 4 * s.length + wt q
theorem eol_len (s : Bs) : (eol s).1.length + (eol s).2.2.length ≤ s.length := by
 unfold eol
 cases hc : cut (· == 10) s with
 | none =>
  simp only [List.length_nil, Nat.add_zero]
  unfold dropCR
  split
  ·rw [List.length_dropLast]; omega
  ·exact Nat.le_refl _
 | some x =>
  obtain ⟨a, c, r⟩ := x
  obtain ⟨e, _, _⟩ := cut_some _ s a c r hc
  simp only
  rw [e]
  simp only [List.length_append, List.length_cons]
  omega
end Go.Proofs.YtgnfapnnbcafbaaDoor.UN
end
section
/- The library's tables as laid; its functions at this program. Conditions: as each says. -/
namespace Go.Proofs.YtgnfapnnbcafbaaDoor.UN
open Go Go.RowKit Go.Proofs.YtgnfapnnbcafbaaDoorW.PrintWords
set_option linter.unusedVariables false
theorem var_below {w w1 : World} {n : String} {cs : Array Value} (h : w.var? Tryd.prog n = some cs) (hb : Below w.heap.size w w1) : w1.var? Tryd.prog n = some cs := by
 unfold World.var? at h ⊢
 obtain ⟨g, hg, h⟩ := Option.bind_eq_some_iff.1 h
 rw [hg]
 simp only [Option.bind_some]
 cases hc : w.heap[g]? with
 | none => rw [hc] at h; cases h
 | some o =>
  have hlt : g < w.heap.size := (Array.getElem?_eq_some_iff.1 hc).1
  rw [hb.block g hlt, hc]
  rw [hc] at h
  exact h
structure UTab (w : World) : Prop where
 s : Lib.TabIs Tryd.prog w "strings.asciiSpace" .u8 Lib.asciiSpaceTab
 b : Lib.TabIs Tryd.prog w "bytes.asciiSpace" .u8 Lib.asciiSpaceTab
 u : Lib.Utf8Tabs 3 4 w
 w : Lib.WhiteTab 6 w
theorem utab_below {w w1 : World} (h : UTab w) (hb : Below w.heap.size w w1) : UTab w1 := ⟨var_below h.s hb, var_below h.b hb, Utf8Tabs_below h.u hb, WhiteTab_below h.w hb⟩
theorem decode_call (s : ByteArray) (w : World) (hT : UTab w) :
  Calls Tryd.prog 84 #[.string s] w fun e w' => e = .returned (.tuple #[.int .i32 (Lib.decodeGo s).1, .int .i64 (Lib.decodeGo s).2]) ∧ Below w.heap.size w w' := Tryd.utf8_DecodeRuneInString s w hT.u
theorem trim_call (s : ByteArray) (w : World) (hs : s.size ≤ 100000000) (hT : UTab w) :
  Calls Tryd.prog 112 #[.string s] w fun e w' => e = .returned (.string ⟨(Lib.trimSpaceD s.data.toList).toArray⟩) ∧ Below w.heap.size w w' := Tryd.strings_TrimSpace_any s w (by omega) hT.s hT.u hT.w
def BAt (w : World) (b o : Nat) (l : Bs) : Prop := ∀ i, i < l.length → w.cell? ⟨b, o + i, none⟩ = some (.int .u8 ((l.getD i 0).toNat : Int))
theorem bat_below {w w1 : World} {b o : Nat} {l : Bs} (h : BAt w b o l) (hb : Below w.heap.size w w1) : BAt w1 b o l := fun i hi => pw_cell_below hb (h i hi)
def numsOf (l : Bs) : List Int := l.map fun b => (b.toNat : Int)
theorem numsOf_at (l : Bs) (i : Nat) : (numsOf l).getD i 0 = ((l.getD i 0).toNat : Int) := by
 simp only [numsOf, List.getD_eq_getElem?_getD, List.getElem?_map]
 cases l[i]? <;> rfl
theorem bytesOf_nums (l : Bs) : Lib.bytesOf (numsOf l) = l := by
 simp only [Lib.bytesOf, numsOf, List.map_map]
 refine (List.map_congr_left fun b _ => ?_).trans (List.map_id l)
 simp
theorem suffix_one (l : Bs) (c : UInt8) : Lib.hasSuffix l [c] = decide (l.getLast? = some c) := by
 unfold Lib.hasSuffix
 rw [Bool.eq_iff_iff, decide_eq_true_iff, List.isSuffixOf_iff_suffix]
 constructor
 ·rintro ⟨t, rfl⟩; simp
 ·intro h
  obtain ⟨hne, e⟩ := List.getLast?_eq_some_iff.1 h
  exact ⟨_, e.symm⟩
theorem hassuf_call (b n c b2 d : Nat) (l : Bs) (x : UInt8) (w : World) (hl : l.length = n) (hn : n ≤ c) (hs : n ≤ 100000000) (h1 : BAt w b 0 l) (h2 : BAt w b2 0 [x]) :
  Calls Tryd.prog 90 #[.slice (some ⟨b, 0, none⟩) n c, .slice (some ⟨b2, 0, none⟩) 1 d] w fun e w' => e = .returned (.bool (decide (l.getLast? = some x))) ∧ w' = w := by
 have := Tryd.bytes_HasSuffix b 0 n c b2 0 1 d (numsOf l) (numsOf [x]) w (by simp [numsOf, hl]) rfl hn (by omega) (fun i hi => by rw [numsOf_at]; exact h1 i (by omega)) (fun i hi => by rw [numsOf_at]; exact h2 i hi)
 rw [bytesOf_nums, bytesOf_nums, suffix_one] at this
 exact this
theorem cutsuf_call (b n c b2 d : Nat) (l : Bs) (x : UInt8) (w : World) (hl : l.length = n) (hn : n ≤ c) (hs : n ≤ 100000000) (h1 : BAt w b 0 l) (h2 : BAt w b2 0 [x]) :
  Calls Tryd.prog 89 #[.slice (some ⟨b, 0, none⟩) n c, .slice (some ⟨b2, 0, none⟩) 1 d] w fun e w' => e = .returned (.slice (some ⟨b, 0, none⟩) (if l.getLast? = some x then l.dropLast else l).length c) ∧ w' = w := by
 have := Tryd.bytes_TrimSuffix b 0 n c b2 0 1 d (numsOf l) (numsOf [x]) w (by simp [numsOf, hl]) rfl hn (by omega) (fun i hi => by rw [numsOf_at]; exact h1 i (by omega)) (fun i hi => by rw [numsOf_at]; exact h2 i hi)
 refine this.mono ?_
 rintro e w' ⟨rfl, rfl⟩
 refine ⟨?_, rfl⟩
 unfold Lib.bytesTrimSuffix
 rw [bytesOf_nums, bytesOf_nums, suffix_one]
 by_cases h : l.getLast? = some x
 ·rw [if_pos (by simpa using h), if_pos h, List.length_dropLast, hl]
  rfl
 ·rw [if_neg (by simpa using h), if_neg h, hl]
def TrimC (l : Bs) : Prop := ∀ (b n c : Nat) (w : World), UTab w → l.length = n → n ≤ c → n ≤ 100000000 → BAt w b 0 l →
 Calls Tryd.prog 94 #[.slice (some ⟨b, 0, none⟩) n c] w fun e w' => ∃ A m cp, e = .returned (.slice A m cp) ∧ Below w.heap.size w w' ∧ (ascii l = true → (m = 0 ↔ l.all Lib.isSp = true)) ∧ (l = [] → m = 0)
theorem dw_nil (p : UInt8 → Bool) : ∀ l : Bs, l.dropWhile p = [] ↔ ∀ b ∈ l, p b = true
 | [] => by simp
 | b :: l => by
  rw [List.dropWhile_cons]
  cases hb : p b with
  | true => rw [if_pos rfl, dw_nil p l]; simp [hb]
  | false => rw [if_neg (by simp)]; simp [hb]
theorem trim_zero (l : Bs) (h : ¬ l.dropWhile Lib.isSp = []) : (Lib.trimSpace l).length ≠ 0 ∧ l.all Lib.isSp = false := by
 have hd : ∃ x r, l.dropWhile Lib.isSp = x :: r ∧ Lib.isSp x = false := by
  have key : ∀ l : Bs, l.dropWhile Lib.isSp = [] ∨ ∃ x r, l.dropWhile Lib.isSp = x :: r ∧ Lib.isSp x = false := by
   intro l
   induction l with
   | nil => exact .inl rfl
   | cons b l ih =>
    cases hb : Lib.isSp b with
    | true => rw [List.dropWhile_cons, if_pos hb]; exact ih
    | false => rw [List.dropWhile_cons, if_neg (by simp [hb])]; exact .inr ⟨b, l, rfl, hb⟩
  rcases key l with h1 | h1
  ·exact absurd h1 h
  ·exact h1
 obtain ⟨x, r, e, hx⟩ := hd
 constructor
 ·unfold Lib.trimSpace
  rw [e, List.length_reverse]
  intro h0
  have h1 := List.eq_nil_of_length_eq_zero h0
  have h2 := (dw_nil _ _).1 h1 x (by simp)
  rw [hx] at h2
  cases h2
 ·rw [Bool.eq_false_iff]
  intro ha
  have h3 : l.dropWhile Lib.isSp = [] := (dw_nil _ _).2 fun b hb => List.all_eq_true.1 ha b hb
  exact h h3
theorem trimC_ascii (l : Bs) (ha : ascii l = true) : TrimC l := by
 intro b n c w hT hl hn hs hb
 have hal : ∀ x ∈ l, x.toNat < 128 := fun x hx => by
  have := List.all_eq_true.1 ha x hx
  simpa using this
 have := Tryd.bytes_TrimSpace b 0 n c (numsOf l) w (by simp [numsOf, hl]) hn (by omega) (fun i hi => by rw [numsOf_at]; exact hb i (by omega)) (fun i hi => by
  rw [numsOf_at]
  refine ⟨by omega, ?_⟩
  have h1 : l.getD i 0 ∈ l := by
   rw [List.getD_eq_getElem?_getD, List.getElem?_eq_getElem (by omega)]
   exact List.getElem_mem _
  have := hal _ h1
  omega) hT.b
 rw [bytesOf_nums] at this
 refine this.mono ?_
 rintro e w' ⟨rfl, rfl⟩
 unfold Lib.bytesTrimSpace
 by_cases h : l.dropWhile Lib.isSp = []
 ·rw [if_pos h]
  refine ⟨none, 0, 0, rfl, Below.refl _ _, fun _ => ⟨fun _ => ?_, fun _ => rfl⟩, fun _ => rfl⟩
  exact List.all_eq_true.2 fun b hb => (dw_nil _ _).1 h b hb
 ·rw [if_neg h]
  obtain ⟨h1, h2⟩ := trim_zero l h
  refine ⟨_, _, _, rfl, Below.refl _ _, fun _ => ⟨fun h3 => absurd h3 h1, fun h3 => by rw [h2] at h3; cases h3⟩, fun h3 => absurd (by rw [h3]; rfl) h⟩
end Go.Proofs.YtgnfapnnbcafbaaDoor.UN
end
section
/- The library's tables as laid (UTab), out of what the cards say of the listed variables. No condition. -/
namespace Go.Proofs.YtgnfapnnbcafbaaDoor.UN
open Go Go.Lib Go.ChangeShapes Go.WideShapes Go.Proofs.YtgnfapnnbcafbaaDoor
set_option linter.unusedVariables false
theorem u8types : U8Types Tryd.prog Tryd.lays197_ren := ⟨by kernel_rfl, by kernel_rfl, by kernel_rfl, by kernel_rfl⟩
theorem u8extra : U8Extra Tryd.prog Tryd.lays197_ren := ⟨by kernel_rfl, by kernel_rfl, by kernel_rfl, by kernel_rfl, by kernel_rfl, by kernel_rfl, by kernel_rfl⟩
theorem first_data : (Rows.laid_unicode_utf8_first : DataW Unit) = firstData := by kernel_rfl
theorem accept_data : (Rows.laid_unicode_utf8_acceptRanges : DataW Unit) = acceptData := by kernel_rfl
theorem white_data : (Rows.laid_unicode_White_Space : DataW Unit) = whiteData := by kernel_rfl
theorem space_data : (Rows.laid_strings_asciiSpace : DataW Unit) = tabData .u8 asciiSpaceTab := by kernel_rfl
theorem bspace_data : (Rows.laid_bytes_asciiSpace : DataW Unit) = tabData .u8 asciiSpaceTab := by kernel_rfl
theorem reads_cells {n : String} {d : DataW Unit} {w : World} {g : Nat} {t : TypeId} (hg : Tryd.prog.globalNamed n = some g) (hy : (Tryd.prog.globals[g]?).map (·.type) = some t) (h : VarReads Tryd.prog w n d) :
  ∃ cs fuel p, w.var? Tryd.prog n = some cs ∧ DataW.trod (fun _ => ()) Tryd.prog w 0 (fun _ => true) false fuel t cs.toList = some (d, p) := by
 obtain ⟨g', t', cs, fuel, p, hg', hty, hvar, hd⟩ := h
 obtain rfl := Option.some.inj (hg.symm.trans hg')
 obtain rfl := Option.some.inj (hy.symm.trans hty)
 exact ⟨cs, fuel, p, hvar, hd⟩
theorem tab_space {w : World} (h : VarReads Tryd.prog w "strings.asciiSpace" Rows.laid_strings_asciiSpace) : Lib.TabIs Tryd.prog w "strings.asciiSpace" .u8 Lib.asciiSpaceTab := by
 rw [space_data] at h
 obtain ⟨cs, fuel, p, hvar, hd⟩ := reads_cells (t := 130) (show Tryd.prog.globalNamed "strings.asciiSpace" = some 8 by kernel_rfl) (by kernel_rfl) h
 unfold Lib.TabIs
 rw [hvar, ← cells_of_tab (P := Tryd.prog) Tryd.underlying130 Tryd.underlying5 (by kernel_rfl) (by kernel_rfl) hd]
theorem tab_bspace {w : World} (h : VarReads Tryd.prog w "bytes.asciiSpace" Rows.laid_bytes_asciiSpace) : Lib.TabIs Tryd.prog w "bytes.asciiSpace" .u8 Lib.asciiSpaceTab := by
 rw [bspace_data] at h
 obtain ⟨cs, fuel, p, hvar, hd⟩ := reads_cells (t := 130) (show Tryd.prog.globalNamed "bytes.asciiSpace" = some 5 by kernel_rfl) (by kernel_rfl) h
 unfold Lib.TabIs
 rw [hvar, ← cells_of_tab (P := Tryd.prog) Tryd.underlying130 Tryd.underlying5 (by kernel_rfl) (by kernel_rfl) hd]
theorem lays199 : Lays.n199 Tryd.prog Tryd.lays163_ren := { Tryd.lays163 with }
theorem white_extra : WhiteExtra Tryd.prog Tryd.lays163_ren := ⟨by kernel_rfl, by kernel_rfl, by kernel_rfl, by kernel_rfl, by kernel_rfl, by kernel_rfl, by kernel_rfl, by kernel_rfl⟩
theorem utab_of {w : World} {laid : List (String × DataW Unit)} (h : laidMet Tryd.prog laid w) (h1 : ("unicode/utf8.acceptRanges", Rows.laid_unicode_utf8_acceptRanges) ∈ laid) (h2 : ("unicode.White_Space", Rows.laid_unicode_White_Space) ∈ laid) (h3 : ("bytes.asciiSpace", Rows.laid_bytes_asciiSpace) ∈ laid)
  (h4 : ("strings.asciiSpace", Rows.laid_strings_asciiSpace) ∈ laid) (h5 : ("unicode/utf8.first", Rows.laid_unicode_utf8_first) ∈ laid) : UTab w where
 s := tab_space (Lib.laidMet.reads h h4)
 b := tab_bspace (Lib.laidMet.reads h h3)
 u := utf8Tabs_of_readsT u8types u8extra (first_data ▸ Lib.laidMet.reads h h5) (accept_data ▸ Lib.laidMet.reads h h1)
 w := whiteTab_of_reads lays199 white_extra (white_data ▸ Lib.laidMet.reads h h2)
end Go.Proofs.YtgnfapnnbcafbaaDoor.UN
end
section
/- The buffer of a unit file's lexer: fill, Buffered, Peek, ReadRune, UnreadRune, ReadBytes, in the block that holds it. Conditions: a text of at most a million bytes. -/
namespace Go.Proofs.YtgnfapnnbcafbaaDoor.UN
open Go Go.RowKit Go.Proofs.YtgnfapnnbcafbaaDoorW.PrintWords Go.Proofs.YtgnfapnnbcafbaaDoorW
attribute [local go_sem] PrintMore.min2_int PrintMore.min_two
set_option linter.unusedVariables false
set_option linter.unusedSimpArgs false
def bufObj (text : ByteArray) (r w l : Int) (d : Bool) : Obj := .cells #[.string text, .int .i64 r, .int .i64 w, .int .i64 l, .bool d] 90 (0, 0)
theorem grown_set (w : World) (g i : Nat) (u : Value) : w.grownBy (w.setCell ⟨g, i, none⟩ u) (some g) :=
 ⟨rfl, rfl, rfl, by simp [World.setCell], fun k hi hne => Below.heap_setCell w ⟨g, i, none⟩ _ k (fun e => hne (by rw [e]))⟩
theorem grown_refl (w : World) (row : Option Nat) : w.grownBy w row := ⟨rfl, rfl, rfl, Nat.le_refl _, fun _ _ _ => rfl⟩
set_option maxHeartbeats 4000000 in
set_option maxRecDepth 100000 in
theorem fill_full (g : Nat) (text : ByteArray) (r l : Int) (d : Bool) (W : World) (hb : W.heap[g]? = some (bufObj text r text.size l d)) :
  Calls Tryd.prog 78 #[.pointer (some ⟨g, 0, none⟩)] W fun e w' => e = .returned (.tuple #[]) ∧ w'.heap[g]? = some (bufObj text r text.size l true) ∧ W.grownBy w' (some g) := by
 have h0 : W.cell? ⟨g, 0, none⟩ = some (.string text) := (blk_cell hb 0).trans rfl
 have h2 : W.cell? ⟨g, 2, none⟩ = some (.int .i64 text.size) := (blk_cell hb 2).trans rfl
 have h4 : W.cell? ⟨g, 4, none⟩ = some (.bool d) := (blk_cell hb 4).trans rfl
 have hf := blk_frozen hb 4
 have d0 : ((text.size : Int) == (text.size : Int)) = true := beq_self_eq_true _
 go_enter Tryd.func78, Tryd.ntmps78
 go_wp2
 go_quiet (fail)
 go_wp2
 (try simp only [Exit.inBlock, Exit.then])
 refine bodyPost_ret (results_none rfl _ _ _) rfl ?_
 exact ⟨rfl, blk_put hb 4 _ rfl, (grown_of_below (pw_below_drewN (Below.refl _ _) nq) (some g)).trans (grown_set _ g 4 _)⟩
set_option maxHeartbeats 4000000 in
set_option maxRecDepth 100000 in
theorem fill_more (g : Nat) (text : ByteArray) (r w l : Int) (d : Bool) (W : World) (hb : W.heap[g]? = some (bufObj text r w l d)) (h0 : 0 ≤ r) (h1 : r ≤ text.size) (h2 : w ≠ text.size) (h3 : text.size ≤ 1000000) :
  Calls Tryd.prog 78 #[.pointer (some ⟨g, 0, none⟩)] W fun e w' => e = .returned (.tuple #[]) ∧ w'.heap[g]? = some (bufObj text r (min (text.size : Int) (r + 4096)) l d) ∧ W.grownBy w' (some g) := by
 have c0 : W.cell? ⟨g, 0, none⟩ = some (.string text) := (blk_cell hb 0).trans rfl
 have c1 : W.cell? ⟨g, 1, none⟩ = some (.int .i64 r) := (blk_cell hb 1).trans rfl
 have c2 : W.cell? ⟨g, 2, none⟩ = some (.int .i64 w) := (blk_cell hb 2).trans rfl
 have hf := blk_frozen hb 2
 have e1 : (w == (text.size : Int)) = false := beq_eq_false_iff_ne.mpr h2
 have e2 : IntKind.i64.wrap (r + 4096) = r + 4096 := by rw [PrintLast.i64_w]; unfold wrap64; omega
 clear h2
 go_enter Tryd.func78, Tryd.ntmps78
 go_wp2
 go_quiet (fail)
 go_wp2
 generalize hW1 : W.drewN nq = W1
 have hb1 : W1.heap[g]? = some (bufObj text r w l d) := by rw [← hW1]; exact hb
 have HG := Aside0.mk (show W.grownBy W1 (some g) by rw [← hW1]; exact grown_of_below (pw_below_drewN (Below.refl _ _) nq) (some g))
 have k0 : W1.cell? ⟨g, 0, none⟩ = some (.string text) := (blk_cell hb1 0).trans rfl
 have k1 : W1.cell? ⟨g, 1, none⟩ = some (.int .i64 r) := (blk_cell hb1 1).trans rfl
 have k2 : W1.cell? ⟨g, 2, none⟩ = some (.int .i64 w) := (blk_cell hb1 2).trans rfl
 have kf := blk_frozen hb1 2
 clear hW1 c0 c1 c2 hf
 go_still_tail 14, (by kernel_rfl)
 go_wp2
 all_goals
  go_end0
  refine ⟨rfl, ?_, HG.out.trans ⟨rfl, rfl, rfl, (grown_set W1 g 2 _).size, (grown_set W1 g 2 _).block⟩⟩
 ·rw [show min (text.size : Int) (r + 4096) = r + 4096 by omega]
  exact blk_put hb1 2 _ rfl
 ·rw [show min (text.size : Int) (r + 4096) = text.size by omega]
  exact blk_put hb1 2 _ rfl
def BufAt (W : World) (g : Nat) (text : ByteArray) (r : Nat) (l : Int) : Prop := ∃ (w : Nat) (d : Bool), W.heap[g]? = some (bufObj text r w l d) ∧ r ≤ w ∧ w ≤ text.size ∧ (d = true → w = text.size)
theorem bufAt_grown {W w' : World} {g : Nat} {text : ByteArray} {r : Nat} {l : Int} {row : Option Nat} (h : BufAt W g text r l) (hg : W.grownBy w' row) (hne : some g ≠ row) : BufAt w' g text r l := by
 obtain ⟨w, d, h1, h2⟩ := h
 exact ⟨w, d, blk_grown h1 hg hne, h2⟩
theorem buffered_call (g : Nat) (text : ByteArray) (r w l : Int) (d : Bool) (W : World) (hb : W.heap[g]? = some (bufObj text r w l d)) (h0 : 0 ≤ r) (h1 : r ≤ w) (h2 : w ≤ 1000000) :
  Calls Tryd.prog 63 #[.pointer (some ⟨g, 0, none⟩)] W fun e w' => e = .returned (.int .i64 (w - r)) ∧ Drawn0 W w' := by
 have c1 : W.cell? ⟨g, 1, none⟩ = some (.int .i64 r) := (blk_cell hb 1).trans rfl
 have c2 : W.cell? ⟨g, 2, none⟩ = some (.int .i64 w) := (blk_cell hb 2).trans rfl
 have e2 : IntKind.i64.wrap (w - r) = w - r := by rw [PrintLast.i64_w]; unfold wrap64; omega
 go_enter Tryd.func63, Tryd.ntmps63
 go_wp2
 go_quiet (fail)
 go_wp2
 go_ret
 exact ⟨rfl, ⟨_, rfl⟩⟩
set_option maxHeartbeats 4000000 in
theorem unread_call (g : Nat) (text : ByteArray) (r l : Nat) (W : World) (hb : BufAt W g text r l) (hl : l ≤ r) :
  Calls Tryd.prog 102 #[.pointer (some ⟨g, 0, none⟩)] W fun e w' => e = .returned .nilIface ∧ BufAt w' g text l l ∧ W.grownBy w' (some g) := by
 obtain ⟨w, d, hb, h1, h2, h3⟩ := hb
 have c1 : W.cell? ⟨g, 1, none⟩ = some (.int .i64 r) := (blk_cell hb 1).trans rfl
 have c3 : W.cell? ⟨g, 3, none⟩ = some (.int .i64 l) := (blk_cell hb 3).trans rfl
 have hf := blk_frozen hb 1
 go_enter Tryd.func102, Tryd.ntmps102
 go_wp2
 go_ret
 exact ⟨rfl, ⟨w, d, blk_put hb 1 _ rfl, by omega, h2, h3⟩, grown_set W g 1 _⟩
end Go.Proofs.YtgnfapnnbcafbaaDoor.UN
end
section
/- The first rune of a text. No condition. -/
namespace Go.Proofs.YtgnfapnnbcafbaaDoor.UN
open Go
theorem decodeN_facts (n b0 b1 b2 b3 : Nat) (hn : 1 ≤ n) : 1 ≤ (Lib.decodeN n b0 b1 b2 b3).2 ∧ (Lib.decodeN n b0 b1 b2 b3).2 ≤ n ∧ (b0 < 128 → Lib.decodeN n b0 b1 b2 b3 = (b0, 1)) ∧ (128 ≤ b0 → 128 ≤ (Lib.decodeN n b0 b1 b2 b3).1) := by
 refine ⟨Lib.decodeN_ge1 _ _ _ _ _, ?_, Lib.decodeN_ascii _ _ _ _ _, ?_⟩
 ·unfold Lib.decodeN
  repeat' split
  all_goals (simp only; omega)
 ·intro h
  unfold Lib.decodeN
  repeat' split
  all_goals (simp only; omega)
theorem rune_of (text : ByteArray) (r w : Nat) (h1 : r < w) (h2 : w ≤ text.size) :
  Rune (text.data.toList.drop r) (Lib.decodeGo (text.extract r w)).1 (Lib.decodeGo (text.extract r w)).2 ∧ r + (Lib.decodeGo (text.extract r w)).2 ≤ w := by
 have hsz : (text.extract r w).size = w - r := by rw [ByteArray.size_extract]; omega
 have hl : text.data.toList.length = text.size := Array.length_toList
 have hl2 : (text.extract r w).data.toList.length = w - r := by rw [Array.length_toList]; exact hsz
 have hne : ¬ (text.extract r w).size = 0 := by omega
 have e0 : (text.extract r w).data.toList.getD 0 0 = text.data.toList.getD r 0 := by
  have : (text.extract r w).data.toList = (text.data.toList.drop r).take (w - r) := by
   simp [ByteArray.data_extract, Array.toList_extract]
  rw [this]
  simp only [List.getD_eq_getElem?_getD]
  rw [List.getElem?_take_of_lt (by omega), List.getElem?_drop, Nat.add_zero]
 unfold Lib.decodeGo
 rw [if_neg hne, Lib.decode_N, Nat.sub_zero, hl2]
 generalize (text.extract r w).data.toList.getD (0 + 1) 0 = c1
 generalize (text.extract r w).data.toList.getD (0 + 2) 0 = c2
 generalize (text.extract r w).data.toList.getD (0 + 3) 0 = c3
 rw [e0]
 obtain ⟨f1, f2, f3, f4⟩ := decodeN_facts (w - r) (text.data.toList.getD r 0).toNat c1.toNat c2.toNat c3.toNat (by omega)
 refine ⟨⟨f1, by rw [List.length_drop]; omega, fun b t e => ?_⟩, by omega⟩
 have hb : text.data.toList.getD r 0 = b := by
  have := congrArg (fun l => l.head?) e
  simp only [List.head?_drop, List.head?_cons] at this
  rw [List.getD_eq_getElem?_getD, this]
  rfl
 rw [hb] at f3 f4 ⊢
 exact ⟨fun h => by rw [f3 h]; exact ⟨rfl, rfl⟩, f4⟩
end Go.Proofs.YtgnfapnnbcafbaaDoor.UN
end
section
/- utf8.FullRuneInString at every string. Condition: the library's tables as laid. -/
namespace Go.Proofs.YtgnfapnnbcafbaaDoor.UN
open Go Go.RowKit Go.Proofs.YtgnfapnnbcafbaaDoorW.PrintWords Go.Proofs.YtgnfapnnbcafbaaDoorW
set_option linter.unusedVariables false
set_option linter.unusedSimpArgs false
set_option maxHeartbeats 8000000 in
set_option maxRecDepth 100000 in
theorem full_quick (s : ByteArray) (W : World) (hT : UTab W) (ha : ascii s.data.toList = true) :
  Calls Tryd.prog 83 #[.string s] W fun e w' => e = .returned (.bool (decide (s.size ≠ 0))) ∧ w' = W := by
 by_cases h0 : s.size = 0
 ·have d0 : ((s.size : Int) == 0) = true := by rw [h0]; rfl
  have d1 : (s.size == 0) = true := by rw [h0]; rfl
  have hF := Aside0.mk (show decide (s.size ≠ 0) = false from decide_eq_false (by omega))
  go_enter Tryd.func83, Tryd.ntmps83
  go_wp2
  go_ret
  exact ⟨by rw [hF.out]; rfl, rfl⟩
 ·have d0 : ((s.size : Int) == 0) = false := beq_eq_false_iff_ne.mpr (by omega)
  have d1 : (s.size == 0) = false := beq_eq_false_iff_ne.mpr h0
  have z0 : (0 : Int) < (s.size : Int) := by omega
  have z0' : 0 < s.size := by omega
  obtain ⟨b, hb⟩ : ∃ b, s[0]'z0' = b := ⟨_, rfl⟩
  have hlt : b.toNat < 128 := by
   have h1 : b ∈ s.data.toList := by rw [← hb]; exact Array.getElem_mem_toList _
   have := List.all_eq_true.1 ha b h1
   simpa using this
  have hf : Lib.firstT b.toNat = 240 := by unfold Lib.firstT; rw [if_pos hlt]
  have t1 := hT.u.1 b.toNat b.toNat_lt
  have hb256 : (b.toNat : Int) < 256 := by have := b.toNat_lt; omega
  rw [hf] at t1
  have hF := Aside0.mk (show decide (s.size ≠ 0) = true from decide_eq_true h0)
  clear hf hT ha hlt
  go_enter Tryd.func83, Tryd.ntmps83
  go_wp2
  go_ret
  exact ⟨by rw [hF.out]; rfl, rfl⟩
end Go.Proofs.YtgnfapnnbcafbaaDoor.UN
end
section
/- The buffer of a unit file's lexer: ReadRune. Conditions: a text of at most a million bytes; the library's tables as laid. -/
namespace Go.Proofs.YtgnfapnnbcafbaaDoor.UN
open Go Go.RowKit Go.Proofs.YtgnfapnnbcafbaaDoorW.PrintWords Go.Proofs.YtgnfapnnbcafbaaDoorW
set_option linter.unusedVariables false
set_option linter.unusedSimpArgs false
theorem below_far {W0 W : World} {g j : Nat} {u : Value} (hg : W0.heap.size ≤ g) (h : Below W0.heap.size W0 W) : Below W0.heap.size W0 (W.setCell ⟨g, j, none⟩ u) := h.setCell hg _
theorem ascii_cut {text : ByteArray} (h : ascii text.data.toList = true) (r w : Nat) : ascii (text.extract r w).data.toList = true := by
 refine List.all_eq_true.2 fun b hb => List.all_eq_true.1 h b ?_
 have : (text.extract r w).data.toList = (text.data.toList.drop r).take (w - r) := by simp [ByteArray.data_extract, Array.toList_extract]
 rw [this] at hb
 exact List.mem_of_mem_drop (List.mem_of_mem_take hb)
theorem keepS {W0 w1 w2 : World} (h : Below W0.heap.size W0 w1) (hb : Below w1.heap.size w1 w2) : Below W0.heap.size W0 w2 := below_then h h.size hb
def RunePost (W0 W : World) (g : Nat) (text : ByteArray) (r : Nat) (e : Ending) (w' : World) : Prop :=
  Below W0.heap.size W0 w' ∧ W.grownBy w' (some g) ∧
  ((r = text.size ∧ e = .returned (.tuple #[.int .i32 0, .int .i64 0, .iface 115 (.agg #[])]) ∧ BufAt w' g text r r) ∨
   (r < text.size ∧ ∃ c n : Nat, Rune (text.data.toList.drop r) c n ∧ e = .returned (.tuple #[.int .i32 c, .int .i64 n, .nilIface]) ∧ BufAt w' g text (r + n) r))
set_option maxHeartbeats 8000000 in
set_option maxRecDepth 100000 in
theorem read_rune0 (W0 : World) (g : Nat) (text : ByteArray) (r : Nat) (l : Int) (W : World) (HAS : Aside0 (ascii text.data.toList = true)) (hT : UTab W0) (hB : Below W0.heap.size W0 W) (hg : W0.heap.size ≤ g) (hb : BufAt W g text r l) (hsz : text.size ≤ 1000000) :
  Calls Tryd.prog 73 #[.pointer (some ⟨g, 0, none⟩)] W (RunePost W0 W g text r) := by
 obtain ⟨w, d, hb, h1, h2, h3⟩ := hb
 have HT := Aside0.mk hT
 have HB := Aside0.mk hB
 have HG := Aside0.mk hg
 have HS := Aside0.mk hsz
 have HBK := Aside0.mk hb
 have H1 := Aside0.mk h1
 have H2 := Aside0.mk h2
 have H3 := Aside0.mk h3
 have HR := Aside0.mk (grown_refl W (some g))
 clear hT hB hg hsz hb h1 h2 h3
 go_enter Tryd.func73, Tryd.ntmps73
 go_wp2
 go_loopg [7] (2 * text.size + 3) (fun kq v7 w' => ∃ (w : Nat) (d : Bool), Aside0 (w'.heap[g]? = some (bufObj text r w l d)) ∧ Aside0 (r ≤ w) ∧ Aside0 (w ≤ text.size) ∧ Aside0 (d = true → w = text.size) ∧ Aside0 (Below W0.heap.size W0 w') ∧ Aside0 (W.grownBy w' (some g)) ∧ Aside0 (2 * (text.size - w) + (if d = true then 0 else 1) < kq))
 case atStart => exact ⟨w, d, HBK, H1, H2, H3, HB, HR, ⟨by split <;> omega⟩⟩
 case round =>
  clear HBK H1 H2 H3 HB HR
  obtain ⟨w, d, HBK, H1, H2, H3, HB, HR, HK⟩ := hrel
  have c0 : wr.cell? ⟨g, 0, none⟩ = some (.string text) := (blk_cell HBK.out 0).trans rfl
  have c1 : wr.cell? ⟨g, 1, none⟩ = some (.int .i64 r) := (blk_cell HBK.out 1).trans rfl
  have c2 : wr.cell? ⟨g, 2, none⟩ = some (.int .i64 w) := (blk_cell HBK.out 2).trans rfl
  have c4 : wr.cell? ⟨g, 4, none⟩ = some (.bool d) := (blk_cell HBK.out 4).trans rfl
  have e4 : IntKind.i64.wrap ((r : Int) + 4) = (r : Int) + 4 := by have := HS.out; have := H1.out; have := H2.out; rw [PrintLast.i64_w]; unfold wrap64; omega
  have e5 : IntKind.i64.wrap ((w : Int) - (r : Int)) = (w : Int) - (r : Int) := by have := HS.out; have := H1.out; have := H2.out; rw [PrintLast.i64_w]; unfold wrap64; omega
  by_cases hA : r + 4 ≤ w
  ·have d0 : decide ((w : Int) < (r : Int) + 4) = false := decide_eq_false (by omega)
   have HE := Aside0.mk (show r < w by omega)
   clear hA
   go_upto_region 1 with (fail)
   go_quiet (fail)
   generalize hY : wr.drewN nq = Y
   have HY := Aside0.mk (show Y.heap[g]? = some (bufObj text r w l d) by rw [← hY]; exact HBK.out)
   have HBY := Aside0.mk (show Below W0.heap.size W0 Y by rw [← hY]; exact pw_below_drewN HB.out nq)
   have HRY := Aside0.mk (show W.grownBy Y (some g) by rw [← hY]; exact HR.out.trans (grown_of_below (pw_below_drewN (Below.refl _ _) nq) (some g)))
   clear hY c0 c1 c2 c4
   have y0 : Y.cell? ⟨g, 0, none⟩ = some (.string text) := (blk_cell HY.out 0).trans rfl
   have y1 : Y.cell? ⟨g, 1, none⟩ = some (.int .i64 r) := (blk_cell HY.out 1).trans rfl
   have y2 : Y.cell? ⟨g, 2, none⟩ = some (.int .i64 w) := (blk_cell HY.out 2).trans rfl
   have y3 : Y.cell? ⟨g, 3, none⟩ = some (.int .i64 l) := (blk_cell HY.out 3).trans rfl
   have y4 : Y.cell? ⟨g, 4, none⟩ = some (.bool d) := (blk_cell HY.out 4).trans rfl
   have yf1 := blk_frozen HY.out 1
   have yf3 := blk_frozen HY.out 3
   have yf4 := blk_frozen HY.out 4
   have HY3 := Aside0.mk (show (Y.setCell ⟨g, 3, none⟩ (.int .i64 r)).heap[g]? = some (bufObj text r w r d) from blk_put HY.out 3 _ rfl)
   have q0 : ((r : Int) == (w : Int)) = false := beq_eq_false_iff_ne.mpr (by have := HE.out; omega)
   have p0 : ((0 : Int) ≤ (r : Int)) = True := eq_true (by omega)
   have p1 : ((r : Int) ≤ (w : Int)) = True := eq_true (by have := H1.out; omega)
   have p2 : ((w : Int) ≤ (text.size : Int)) = True := eq_true (by have := H2.out; omega)
   go_wp2
   go_quiet (fail)
   generalize hZ : (Y.setCell ⟨g, 3, none⟩ (.int .i64 r)).drewN nq = Z
   have HZ := Aside0.mk (show Z.heap[g]? = some (bufObj text r w r d) by rw [← hZ]; exact blk_drewN HY3.out nq)
   have HBZ := Aside0.mk (show Below W0.heap.size W0 Z by rw [← hZ]; exact pw_below_drewN (below_far HG.out HBY.out) _)
   have HRZ := Aside0.mk (show W.grownBy Z (some g) by rw [← hZ]; exact (HRY.out.trans (grown_set Y g 3 _)).trans (grown_of_below (pw_below_drewN (Below.refl _ _) nq) (some g)))
   clear hZ y0 y1 y2 y3 y4 yf1 yf3 yf4
   have z0 : Z.cell? ⟨g, 0, none⟩ = some (.string text) := (blk_cell HZ.out 0).trans rfl
   have z1 : Z.cell? ⟨g, 1, none⟩ = some (.int .i64 r) := (blk_cell HZ.out 1).trans rfl
   have z2 : Z.cell? ⟨g, 2, none⟩ = some (.int .i64 w) := (blk_cell HZ.out 2).trans rfl
   obtain ⟨hrune, hle⟩ := rune_of text r w (by have := HE.out; omega) H2.out
   obtain ⟨c, hc⟩ : ∃ c, (Lib.decodeGo (text.extract r w)).1 = c := ⟨_, rfl⟩
   obtain ⟨n, hn⟩ : ∃ n, (Lib.decodeGo (text.extract r w)).2 = n := ⟨_, rfl⟩
   rw [hc, hn] at hrune
   rw [hn] at hle
   have HRU := Aside0.mk hrune
   have HLE := Aside0.mk hle
   clear hrune hle
   have dec : ∀ X, Below Z.heap.size Z X → Calls Tryd.prog 84 #[.string (text.extract r w)] X fun e w' => e = .returned (.tuple #[.int .i32 c, .int .i64 n]) ∧ Below X.heap.size X w' := fun X hX => by have := decode_call (text.extract r w) X (utab_below HT.out (below_then HBZ.out HBZ.out.size hX)); rw [hc, hn] at this; exact this
   have DEC := Aside0.mk dec
   clear dec hc hn
   go_wp2
   have KA : Aside0 (∀ X, Below Z.heap.size Z X → (Below Z.heap.size Z X ∧ X.cell? ⟨g, 0, none⟩ = some (.string text) ∧ X.cell? ⟨g, 1, none⟩ = some (.int .i64 r) ∧ X.cell? ⟨g, 2, none⟩ = some (.int .i64 w))) := ⟨fun X hX => ⟨hX, pw_cell_below hX z0, pw_cell_below hX z1, pw_cell_below hX z2⟩⟩
   go_region_held3 (fun X => Below Z.heap.size Z X ∧ X.cell? ⟨g, 0, none⟩ = some (.string text) ∧ X.cell? ⟨g, 1, none⟩ = some (.int .i64 r) ∧ X.cell? ⟨g, 2, none⟩ = some (.int .i64 w))
    (first | exact KA.out _ (below_drew (Below.refl _ _)) | (go_split_ands; exact KA.out _ (keepS (by assumption) hb')))
    (first | (go_at_call 84; (refine (DEC.out _ (by go_split_ands; assumption)).mono ?_); rintro e w' ⟨rfl, hb'⟩))
   have hV := (‹Below Z.heap.size Z w' ∧ _›).1
   have HV := Aside0.mk (blk_below HZ.out hV)
   have HBV := Aside0.mk (keepS HBZ.out hV)
   have HRV := Aside0.mk (HRZ.out.trans (grown_of_below hV (some g)))
   clear hV hb' ‹Below Z.heap.size Z w' ∧ _› z0 z1 z2 KA DEC
   have v1 : w'.cell? ⟨g, 1, none⟩ = some (.int .i64 r) := (blk_cell HV.out 1).trans rfl
   have vf1 := blk_frozen HV.out 1
   have e6 : IntKind.i64.wrap ((r : Int) + (n : Int)) = (r : Int) + (n : Int) := by have := HS.out; have := HLE.out; have := H2.out; rw [PrintLast.i64_w]; unfold wrap64; omega
   go_wp2
   go_ret3
   refine ⟨below_far HG.out HBV.out, HRV.out.trans (grown_set _ g 1 _), .inr ⟨by have := HE.out; have := H2.out; omega, c, n, HRU.out, rfl, ⟨w, d, ?_, HLE.out, H2.out, H3.out⟩⟩⟩
   exact (blk_put HV.out 1 _ rfl).trans (by rw [Int.natCast_add]; rfl)
  ·have d0 : decide ((w : Int) < (r : Int) + 4) = true := decide_eq_true (by omega)
   have d5 : decide ((w : Int) - (r : Int) < 4096) = true := decide_eq_true (by omega)
   have HA := Aside0.mk (show w < r + 4 by omega)
   clear hA
   have p0 : ((0 : Int) ≤ (r : Int)) = True := eq_true (by omega)
   have p1 : ((r : Int) ≤ (w : Int)) = True := eq_true (by have := H1.out; omega)
   have p2 : ((w : Int) ≤ (text.size : Int)) = True := eq_true (by have := H2.out; omega)
   go_upto_region 1 with (fail)
   have hasc : ∀ n, UTab (wr.drewN n) := fun n => utab_below HT.out (pw_below_drewN HB.out n)
   have hax : ascii (text.extract r w).data.toList = true := ascii_cut HAS.out r w
   have FQ0 := fun n => full_quick (text.extract r w) (wr.drewN n) (hasc n) hax
   by_cases hrw : r = w
   ·have HRW := Aside0.mk hrw
    have FQ : Aside0 (∀ n, Calls Tryd.prog 83 #[.string (text.extract r w)] (wr.drewN n) fun e w' => e = .returned (.bool false) ∧ w' = wr.drewN n) := ⟨fun n => by have := FQ0 n; rw [decide_eq_false (by rw [ByteArray.size_extract]; omega)] at this; exact this⟩
    clear FQ0 hasc hax hrw
    cases d
    ·go_quiet ((go_at_call 83; exact Calls.quiet_of_same (FQ.out _)))
     generalize hY : wr.drewN nq = Y
     have HY := Aside0.mk (show Y.heap[g]? = some (bufObj text r w l false) by rw [← hY]; exact HBK.out)
     have HBY := Aside0.mk (show Below W0.heap.size W0 Y by rw [← hY]; exact pw_below_drewN HB.out nq)
     have HRY := Aside0.mk (show W.grownBy Y (some g) by rw [← hY]; exact HR.out.trans (grown_of_below (pw_below_drewN (Below.refl _ _) nq) (some g)))
     clear hY c0 c1 c2 c4
     by_cases hw : w = text.size
     ·have HW := Aside0.mk hw
      subst hw
      go_wp2_with (first | (go_at_call 78; refine (fill_full g text r l false _ HY.out).mono ?_; rintro e w2 ⟨rfl, hf2, hg2⟩; have HF2 := Aside0.mk hf2; have HG2 := Aside0.mk hg2; clear hf2 hg2))
      go_roundg (gk - 1)
      case measure => have := HK.out; simp at this; omega
      case rel => exact ⟨text.size, true, HF2, H1, H2, ⟨fun _ => rfl⟩, ⟨pw_below_grown HBY.out (some g) HBY.out.size HG2.out (fun k e => by cases e; exact HG.out)⟩, ⟨HRY.out.trans HG2.out⟩, ⟨by have := HK.out; simp at this ⊢; omega⟩⟩
     ·have HW := Aside0.mk hw
      have hwi : (w : Int) ≠ (text.size : Int) := by omega
      have FM := Aside0.mk (fill_more g text r w l false Y HY.out (by omega) (by have := H1.out; have := H2.out; omega) hwi HS.out)
      clear hw hwi
      go_wp2_with (first | (go_at_call 78; refine FM.out.mono ?_; rintro e w2 ⟨rfl, hf2, hg2⟩; have HF2 := Aside0.mk hf2; have HG2 := Aside0.mk hg2; clear hf2 hg2))
      go_roundg (gk - 1)
      case measure => have := HK.out; omega
      case rel =>
       have h2 := H2.out
       have h3 := HW.out
       refine ⟨min text.size (r + 4096), false, ⟨?_⟩, ⟨by have := H1.out; omega⟩, ⟨by omega⟩, ⟨fun e => by cases e⟩, ⟨pw_below_grown HBY.out (some g) HBY.out.size HG2.out (fun k e => by cases e; exact HG.out)⟩, ⟨HRY.out.trans HG2.out⟩, ⟨by have := HK.out; have := HA.out; simp at this ⊢; omega⟩⟩
       rw [HF2.out, show min (text.size : Int) ((r : Int) + 4096) = ((min text.size (r + 4096) : Nat) : Int) by omega]
    ·go_quiet ((go_at_call 83; exact Calls.quiet_of_same (FQ.out _)))
     generalize hY : wr.drewN nq = Y
     have HY := Aside0.mk (show Y.heap[g]? = some (bufObj text r w l true) by rw [← hY]; exact HBK.out)
     have HBY := Aside0.mk (show Below W0.heap.size W0 Y by rw [← hY]; exact pw_below_drewN HB.out nq)
     have HRY := Aside0.mk (show W.grownBy Y (some g) by rw [← hY]; exact HR.out.trans (grown_of_below (pw_below_drewN (Below.refl _ _) nq) (some g)))
     clear hY c0 c1 c2 c4
     have HWE := Aside0.mk (H3.out rfl)
     have HE := Aside0.mk (show r = w from HRW.out)
     have y0 : Y.cell? ⟨g, 0, none⟩ = some (.string text) := (blk_cell HY.out 0).trans rfl
     have y1 : Y.cell? ⟨g, 1, none⟩ = some (.int .i64 r) := (blk_cell HY.out 1).trans rfl
     have y2 : Y.cell? ⟨g, 2, none⟩ = some (.int .i64 w) := (blk_cell HY.out 2).trans rfl
     have y3 : Y.cell? ⟨g, 3, none⟩ = some (.int .i64 l) := (blk_cell HY.out 3).trans rfl
     have y4 : Y.cell? ⟨g, 4, none⟩ = some (.bool true) := (blk_cell HY.out 4).trans rfl
     have yf1 := blk_frozen HY.out 1
     have yf3 := blk_frozen HY.out 3
     have yf4 := blk_frozen HY.out 4
     have HY3 := Aside0.mk (show (Y.setCell ⟨g, 3, none⟩ (.int .i64 r)).heap[g]? = some (bufObj text r w r true) from blk_put HY.out 3 _ rfl)
     have q0 : ((r : Int) == (w : Int)) = true := beq_iff_eq.mpr (by have := HE.out; omega)
     go_wp2
     go_quiet (fail)
     go_wp2
     go_ret3
     refine ⟨?_, ?_, .inl ⟨by have := HE.out; have := HWE.out; omega, rfl, ⟨w, false, ?_, by have := H1.out; omega, H2.out, fun e => by cases e⟩⟩⟩
     ·exact below_far HG.out (pw_below_drewN (below_far HG.out HBY.out) _)
     ·exact (HRY.out.trans ((grown_set Y g 3 _).trans (grown_of_below (pw_below_drewN (Below.refl _ _) nq) (some g)))).trans (grown_set _ g 4 _)
     ·exact blk_put (blk_drewN HY3.out nq) 4 _ rfl
   ·have HE := Aside0.mk (show r < w by have := H1.out; omega)
    have FQ : Aside0 (∀ n, Calls Tryd.prog 83 #[.string (text.extract r w)] (wr.drewN n) fun e w' => e = .returned (.bool true) ∧ w' = wr.drewN n) := ⟨fun n => by have := FQ0 n; rw [decide_eq_true (by rw [ByteArray.size_extract]; have := H2.out; have := HE.out; omega)] at this; exact this⟩
    clear FQ0 hasc hax hrw
    go_quiet ((go_at_call 83; exact Calls.quiet_of_same (FQ.out _)))
    generalize hY : wr.drewN nq = Y
    have HY := Aside0.mk (show Y.heap[g]? = some (bufObj text r w l d) by rw [← hY]; exact HBK.out)
    have HBY := Aside0.mk (show Below W0.heap.size W0 Y by rw [← hY]; exact pw_below_drewN HB.out nq)
    have HRY := Aside0.mk (show W.grownBy Y (some g) by rw [← hY]; exact HR.out.trans (grown_of_below (pw_below_drewN (Below.refl _ _) nq) (some g)))
    clear hY c0 c1 c2 c4
    have y0 : Y.cell? ⟨g, 0, none⟩ = some (.string text) := (blk_cell HY.out 0).trans rfl
    have y1 : Y.cell? ⟨g, 1, none⟩ = some (.int .i64 r) := (blk_cell HY.out 1).trans rfl
    have y2 : Y.cell? ⟨g, 2, none⟩ = some (.int .i64 w) := (blk_cell HY.out 2).trans rfl
    have y3 : Y.cell? ⟨g, 3, none⟩ = some (.int .i64 l) := (blk_cell HY.out 3).trans rfl
    have y4 : Y.cell? ⟨g, 4, none⟩ = some (.bool d) := (blk_cell HY.out 4).trans rfl
    have yf1 := blk_frozen HY.out 1
    have yf3 := blk_frozen HY.out 3
    have yf4 := blk_frozen HY.out 4
    have HY3 := Aside0.mk (show (Y.setCell ⟨g, 3, none⟩ (.int .i64 r)).heap[g]? = some (bufObj text r w r d) from blk_put HY.out 3 _ rfl)
    have q0 : ((r : Int) == (w : Int)) = false := beq_eq_false_iff_ne.mpr (by have := HE.out; omega)
    have p0 : ((0 : Int) ≤ (r : Int)) = True := eq_true (by omega)
    have p1 : ((r : Int) ≤ (w : Int)) = True := eq_true (by have := H1.out; omega)
    have p2 : ((w : Int) ≤ (text.size : Int)) = True := eq_true (by have := H2.out; omega)
    go_wp2
    go_quiet (fail)
    generalize hZ : (Y.setCell ⟨g, 3, none⟩ (.int .i64 r)).drewN nq = Z
    have HZ := Aside0.mk (show Z.heap[g]? = some (bufObj text r w r d) by rw [← hZ]; exact blk_drewN HY3.out nq)
    have HBZ := Aside0.mk (show Below W0.heap.size W0 Z by rw [← hZ]; exact pw_below_drewN (below_far HG.out HBY.out) _)
    have HRZ := Aside0.mk (show W.grownBy Z (some g) by rw [← hZ]; exact (HRY.out.trans (grown_set Y g 3 _)).trans (grown_of_below (pw_below_drewN (Below.refl _ _) nq) (some g)))
    clear hZ y0 y1 y2 y3 y4 yf1 yf3 yf4
    have z0 : Z.cell? ⟨g, 0, none⟩ = some (.string text) := (blk_cell HZ.out 0).trans rfl
    have z1 : Z.cell? ⟨g, 1, none⟩ = some (.int .i64 r) := (blk_cell HZ.out 1).trans rfl
    have z2 : Z.cell? ⟨g, 2, none⟩ = some (.int .i64 w) := (blk_cell HZ.out 2).trans rfl
    obtain ⟨hrune, hle⟩ := rune_of text r w (by have := HE.out; omega) H2.out
    obtain ⟨c, hc⟩ : ∃ c, (Lib.decodeGo (text.extract r w)).1 = c := ⟨_, rfl⟩
    obtain ⟨n, hn⟩ : ∃ n, (Lib.decodeGo (text.extract r w)).2 = n := ⟨_, rfl⟩
    rw [hc, hn] at hrune
    rw [hn] at hle
    have HRU := Aside0.mk hrune
    have HLE := Aside0.mk hle
    clear hrune hle
    have dec : ∀ X, Below Z.heap.size Z X → Calls Tryd.prog 84 #[.string (text.extract r w)] X fun e w' => e = .returned (.tuple #[.int .i32 c, .int .i64 n]) ∧ Below X.heap.size X w' := fun X hX => by have := decode_call (text.extract r w) X (utab_below HT.out (below_then HBZ.out HBZ.out.size hX)); rw [hc, hn] at this; exact this
    have DEC := Aside0.mk dec
    clear dec hc hn
    go_wp2
    have KA : Aside0 (∀ X, Below Z.heap.size Z X → (Below Z.heap.size Z X ∧ X.cell? ⟨g, 0, none⟩ = some (.string text) ∧ X.cell? ⟨g, 1, none⟩ = some (.int .i64 r) ∧ X.cell? ⟨g, 2, none⟩ = some (.int .i64 w))) := ⟨fun X hX => ⟨hX, pw_cell_below hX z0, pw_cell_below hX z1, pw_cell_below hX z2⟩⟩
    go_region_held3 (fun X => Below Z.heap.size Z X ∧ X.cell? ⟨g, 0, none⟩ = some (.string text) ∧ X.cell? ⟨g, 1, none⟩ = some (.int .i64 r) ∧ X.cell? ⟨g, 2, none⟩ = some (.int .i64 w))
     (first | exact KA.out _ (below_drew (Below.refl _ _)) | (go_split_ands; exact KA.out _ (keepS (by assumption) hb')))
     (first | (go_at_call 84; (refine (DEC.out _ (by go_split_ands; assumption)).mono ?_); rintro e w' ⟨rfl, hb'⟩))
    have hV := (‹Below Z.heap.size Z w' ∧ _›).1
    have HV := Aside0.mk (blk_below HZ.out hV)
    have HBV := Aside0.mk (keepS HBZ.out hV)
    have HRV := Aside0.mk (HRZ.out.trans (grown_of_below hV (some g)))
    clear hV hb' ‹Below Z.heap.size Z w' ∧ _› z0 z1 z2 KA DEC
    have v1 : w'.cell? ⟨g, 1, none⟩ = some (.int .i64 r) := (blk_cell HV.out 1).trans rfl
    have vf1 := blk_frozen HV.out 1
    have e6 : IntKind.i64.wrap ((r : Int) + (n : Int)) = (r : Int) + (n : Int) := by have := HS.out; have := HLE.out; have := H2.out; rw [PrintLast.i64_w]; unfold wrap64; omega
    go_wp2
    go_ret3
    refine ⟨below_far HG.out HBV.out, HRV.out.trans (grown_set _ g 1 _), .inr ⟨by have := HE.out; have := H2.out; omega, c, n, HRU.out, rfl, ⟨w, d, ?_, HLE.out, H2.out, H3.out⟩⟩⟩
    exact (blk_put HV.out 1 _ rfl).trans (by rw [Int.natCast_add]; rfl)
def RuneC (text : ByteArray) : Prop := ∀ (W0 : World) (g r : Nat) (l : Int) (W : World), UTab W0 → Below W0.heap.size W0 W → W0.heap.size ≤ g → BufAt W g text r l → text.size ≤ 1000000 →
 Calls Tryd.prog 73 #[.pointer (some ⟨g, 0, none⟩)] W (RunePost W0 W g text r)
theorem runeC_ascii (text : ByteArray) (ha : ascii text.data.toList = true) : RuneC text := fun W0 g r l W hT hB hg hb hsz => read_rune0 W0 g text r l W ⟨ha⟩ hT hB hg hb hsz
end Go.Proofs.YtgnfapnnbcafbaaDoor.UN
end
section
/- The buffer of a unit file's lexer: ReadBytes. Conditions: a text of at most a million bytes. -/
namespace Go.Proofs.YtgnfapnnbcafbaaDoor.UN
open Go Go.RowKit Go.Proofs.YtgnfapnnbcafbaaDoorW.PrintWords Go.Proofs.YtgnfapnnbcafbaaDoorW
set_option linter.unusedVariables false
set_option linter.unusedSimpArgs false
def eofV : Value := .iface 115 (.agg #[])
def BytesPost (W : World) (g : Nat) (text : ByteArray) (r : Nat) (l : Int) (x : UInt8) (e : Ending) (w' : World) : Prop :=
 ∃ (bk cap : Nat) (line : Bs) (er : Value), e = .returned (.tuple #[.slice (some ⟨bk, 0, none⟩) line.length cap, er]) ∧ W.heap.size ≤ bk ∧ line.length ≤ cap ∧ BAt w' bk 0 line ∧ BufAt w' g text (r + line.length) l ∧ W.grownBy w' (some g) ∧
  r + line.length ≤ text.size ∧
  ((∃ a tl, cut (· == x) (text.data.toList.drop r) = some (a, x, tl) ∧ line = a ++ [x] ∧ er = .nilIface) ∨ (cut (· == x) (text.data.toList.drop r) = none ∧ line = text.data.toList.drop r ∧ er = eofV))
theorem cut_at (p : UInt8 → Bool) : ∀ (s : Bs) (m : Nat) (c : UInt8), s[m]? = some c → p c = true → (∀ (j : Nat) b, j < m → s[j]? = some b → p b = false) → cut p s = some (s.take m, c, s.drop (m + 1))
 | [], m, c, h, _, _ => by simp at h
 | b :: s, 0, c, h, hc, _ => by
  simp at h
  subst h
  rw [cut, if_pos hc]
  rfl
 | b :: s, m + 1, c, h, hc, hn => by
  have hb := hn 0 b (by omega) rfl
  rw [cut, if_neg (by simp [hb]), cut_at p s m c (by simpa using h) hc (fun j y hj hy => hn (j + 1) y (by omega) (by simpa using hy))]
  rfl
theorem cut_no (p : UInt8 → Bool) : ∀ (s : Bs), (∀ b ∈ s, p b = false) → cut p s = none
 | [], _ => rfl
 | b :: s, h => by rw [cut, if_neg (by simp [h b (by simp)]), cut_no p s (fun x hx => h x (by simp [hx]))]; rfl
theorem text_at (text : ByteArray) (i : Nat) (h : i < text.size) : ∃ b, text.data.toList[i]? = some b ∧ bt text (i : Int) = (b.toNat : Int) := by
 have hl : text.data.toList.length = text.size := Array.length_toList
 refine ⟨text.data.toList[i]'(by omega), List.getElem?_eq_getElem _, ?_⟩
 unfold bt
 rw [dif_pos (by simpa using h)]
 rfl
theorem ext_list (text : ByteArray) (r w : Nat) : (text.extract r w).data.toList = (text.data.toList.drop r).take (w - r) := by simp [ByteArray.data_extract, Array.toList_extract]
theorem conv_bat (W : World) (s : ByteArray) : BAt (Lib.bytesWorld W 5 s) W.heap.size 0 s.data.toList := fun i hi => by
 have hl : s.data.toList.length = s.size := Array.length_toList
 rw [Nat.zero_add]
 exact Lib.bytesWorld_cell W 5 s i (by omega)
theorem piece_found (text : ByteArray) (r i : Nat) (x : UInt8) (h1 : r ≤ i) (h2 : i < text.size) (hx : bt text (i : Int) = (x.toNat : Int)) (hn : ∀ j : Nat, r ≤ j → j < i → bt text (j : Int) ≠ (x.toNat : Int)) :
  ∃ a tl, cut (· == x) (text.data.toList.drop r) = some (a, x, tl) ∧ (text.extract r (i + 1)).data.toList = a ++ [x] := by
 have hl : text.data.toList.length = text.size := Array.length_toList
 obtain ⟨b, hb, hbt⟩ := text_at text i h2
 have hbx : b = x := UInt8.toNat_inj.1 (by have := hbt.symm.trans hx; omega)
 subst hbx
 have hd : (text.data.toList.drop r)[i - r]? = some b := by rw [List.getElem?_drop, show r + (i - r) = i by omega]; exact hb
 refine ⟨_, _, cut_at _ _ (i - r) b hd (by simp) (fun j y hj hy => ?_), ?_⟩
 ·rw [List.getElem?_drop] at hy
  have hj2 : r + j < text.size := by omega
  obtain ⟨z, hz, hzt⟩ := text_at text (r + j) hj2
  rw [hy] at hz
  obtain rfl := Option.some.inj hz
  have := hn (r + j) (by omega) (by omega)
  rw [hzt] at this
  exact beq_eq_false_iff_ne.2 fun e => this (by rw [e])
 ·rw [ext_list, show i + 1 - r = (i - r) + 1 by omega, List.take_add_one, hd]
  rfl
theorem piece_end (text : ByteArray) (r : Nat) (x : UInt8) (hn : ∀ j : Nat, r ≤ j → j < text.size → bt text (j : Int) ≠ (x.toNat : Int)) :
  cut (· == x) (text.data.toList.drop r) = none ∧ (text.extract r text.size).data.toList = text.data.toList.drop r := by
 have hl : text.data.toList.length = text.size := Array.length_toList
 constructor
 ·refine cut_no _ _ fun b hb => ?_
  obtain ⟨k, hk, rfl⟩ := List.getElem_of_mem hb
  rw [List.length_drop] at hk
  obtain ⟨z, hz, hzt⟩ := text_at text (r + k) (by omega)
  have := hn (r + k) (by omega) (by omega)
  rw [hzt] at this
  rw [List.getElem_drop]
  rw [List.getElem?_eq_getElem (by omega)] at hz
  have hz2 := Option.some.inj hz
  exact beq_eq_false_iff_ne.2 fun e => this (by rw [← hz2, e])
 ·rw [ext_list]
  exact List.take_of_length_le (by rw [List.length_drop]; omega)
def FillPost (W : World) (g : Nat) (text : ByteArray) (r w : Nat) (l : Int) (w2 : World) : Prop :=
 W.grownBy w2 (some g) ∧ ∃ (w3 : Nat) (d3 : Bool), w2.heap[g]? = some (bufObj text r w3 l d3) ∧ r ≤ w3 ∧ w3 ≤ text.size ∧ (d3 = true → w3 = text.size) ∧ ((d3 = true ∧ w = text.size) ∨ (d3 = false ∧ w < w3))
theorem meas {n w w3 gk gq : Nat} {d3 : Bool} (h1 : 2 * (n - w) + (if false = true then 0 else 1) < gk) (h2 : gq = gk - 1) (h3 : (d3 = true ∧ w = n) ∨ (d3 = false ∧ w < w3)) (h4 : w ≤ n) (h5 : w3 ≤ n) (h6 : d3 = true → w3 = n) : 2 * (n - w3) + (if d3 = true then 0 else 1) < gq := by
 rw [if_neg (by decide)] at h1
 rcases h3 with ⟨rfl, h⟩ | ⟨rfl, h⟩
 ·have := h6 rfl; rw [if_pos rfl]; omega
 ·rw [if_neg (by decide)]; omega
set_option maxHeartbeats 8000000 in
set_option maxRecDepth 100000 in
theorem read_bytes (g : Nat) (text : ByteArray) (r : Nat) (l : Int) (x : UInt8) (W : World) (hb : BufAt W g text r l) (hsz : text.size ≤ 1000000) :
  Calls Tryd.prog 85 #[.pointer (some ⟨g, 0, none⟩), .int .u8 (x.toNat : Int)] W (BytesPost W g text r l x) := by
 obtain ⟨w, d, hb, h1, h2, h3⟩ := hb
 have hconv := fun (W : World) (s : ByteArray) => Lib.run_convert_string_bytes (P := Tryd.prog) W 9 37 5 s Tryd.underlying9 Tryd.underlying37 Tryd.underlying5
 have HCV := Aside0.mk hconv
 have HS := Aside0.mk hsz
 have HBK := Aside0.mk hb
 have H1 := Aside0.mk h1
 have H2 := Aside0.mk h2
 have H3 := Aside0.mk h3
 have HR := Aside0.mk (grown_refl W (some g))
 have c1 : W.cell? ⟨g, 1, none⟩ = some (.int .i64 r) := (blk_cell hb 1).trans rfl
 clear hsz hb h1 h2 h3 hconv
 go_enter Tryd.func85, Tryd.ntmps85
 go_wp2
 go_loopg [7] (2 * text.size + 3) (fun kq v7 w' => ∃ (r1 w : Nat) (d : Bool), Aside0 (w'.heap[g]? = some (bufObj text r1 w l d)) ∧ Aside0 (r ≤ r1) ∧ Aside0 (r1 ≤ w) ∧ Aside0 (w ≤ text.size) ∧ Aside0 (d = true → w = text.size) ∧ Aside0 (W.grownBy w' (some g)) ∧ Aside0 (2 * (text.size - w) + (if d = true then 0 else 1) < kq) ∧ Aside0 (∀ j : Nat, r ≤ j → j < r1 → bt text (j : Int) ≠ (x.toNat : Int)))
 case atStart => exact ⟨r, w, d, HBK, ⟨Nat.le_refl _⟩, H1, H2, H3, HR, ⟨by split <;> omega⟩, ⟨fun j h1 h2 => by omega⟩⟩
 case round =>
  clear HBK H1 H2 H3 HR c1
  obtain ⟨r1, w, d, HBK, HRR, H1, H2, H3, HR, HK, HN⟩ := hrel
  obtain ⟨gq, HGQ⟩ : ∃ q, Aside0 (q = gk - 1) := ⟨_, ⟨rfl⟩⟩
  have c0 : wr.cell? ⟨g, 0, none⟩ = some (.string text) := (blk_cell HBK.out 0).trans rfl
  have c1 : wr.cell? ⟨g, 1, none⟩ = some (.int .i64 r1) := (blk_cell HBK.out 1).trans rfl
  have c2 : wr.cell? ⟨g, 2, none⟩ = some (.int .i64 w) := (blk_cell HBK.out 2).trans rfl
  have c4 : wr.cell? ⟨g, 4, none⟩ = some (.bool d) := (blk_cell HBK.out 4).trans rfl
  have f1 := blk_frozen HBK.out 1
  have f4 := blk_frozen HBK.out 4
  go_wp2
  go_loopg [7] (w - r1) (fun kq v7 w' => ∃ i : Nat, v7 = .int .i64 i ∧ Aside0 (r1 ≤ i) ∧ Aside0 (i + kq = w) ∧ Aside0 (∀ j : Nat, r ≤ j → j < i → bt text (j : Int) ≠ (x.toNat : Int)) ∧ w' = wr)
  case atStart => exact ⟨r1, rfl, ⟨Nat.le_refl _⟩, ⟨by have := H1.out; omega⟩, HN, rfl⟩
  case round =>
   obtain ⟨i, rfl, HI1, HI2, HIN, rfl⟩ := hrel
   by_cases hi : i < w
   ·have hit : i < text.size := by have := H2.out; omega
    have d0 : decide ((i : Int) < (w : Int)) = true := decide_eq_true (by omega)
    have d0' : decide (i < w) = true := decide_eq_true hi
    have p0 : ((0 : Int) ≤ (i : Int)) = True := eq_true (by omega)
    have p1 : ((i : Int) < (text.size : Int)) = True := eq_true (by omega)
    have p1' : (i < text.size) = True := eq_true hit
    obtain ⟨b, hb⟩ : ∃ b, text[i]'hit = b := ⟨_, rfl⟩
    have hbt : bt text (i : Int) = (b.toNat : Int) := by rw [← hb, ← bt_at text (i : Int) hit]; rfl
    have e1 : IntKind.i64.wrap ((i : Int) + 1) = (i : Int) + 1 := by have := HS.out; rw [PrintLast.i64_w]; unfold wrap64; omega
    have HIT := Aside0.mk hit
    have HIW := Aside0.mk hi
    by_cases hx : b.toNat = x.toNat
    ·have t0 : ((b.toNat : Int) == (x.toNat : Int)) = true := beq_iff_eq.mpr (by rw [hx])
     have HX := Aside0.mk (show bt text (i : Int) = (x.toNat : Int) by rw [hbt, hx])
     have q0 : ((0 : Int) ≤ (r : Int)) = True := eq_true (by omega)
     have q1 : ((r : Int) ≤ (i : Int) + 1) = True := eq_true (by have := HI1.out; have := HRR.out; omega)
     have q2 : ((i : Int) + 1 ≤ (text.size : Int)) = True := eq_true (by omega)
     clear hx hi hbt
     go_upto_region 7 with (fail)
     generalize hV : wr.setCell ⟨g, 1, none⟩ (.int .i64 ((i : Int) + 1)) = V
     have HV := Aside0.mk (show V.heap[g]? = some (bufObj text ((i + 1 : Nat) : Int) w l d) by rw [← hV]; exact (blk_put HBK.out 1 _ rfl).trans (by rw [Int.natCast_add]; rfl))
     have HRV := Aside0.mk (show W.grownBy V (some g) by rw [← hV]; exact HR.out.trans (grown_set wr g 1 _))
     clear hV c0 c1 c2 c4 f1 f4
     have v0 : V.cell? ⟨g, 0, none⟩ = some (.string text) := (blk_cell HV.out 0).trans rfl
     have v1 : V.cell? ⟨g, 1, none⟩ = some (.int .i64 ((i : Int) + 1)) := (blk_cell HV.out 1).trans (by rw [Int.natCast_add]; rfl)
     have hcv := HCV.out
     have hti : ((i : Int) + 1).toNat = i + 1 := by omega
     go_still_tail 10, (by kernel_rfl)
     go_wp2
     have h1 := HI1.out
     have h2 := HRR.out
     have h5 := HIT.out
     obtain ⟨a, tl, hcut, hline⟩ := piece_found text r i x (by omega) HIT.out HX.out HIN.out
     have hlen : (text.extract r (i + 1)).data.toList.length = min (i + 1) text.size - r := by rw [Array.length_toList]; exact ByteArray.size_extract
     have hbw := bytes_below (below_drew (Below.refl V.heap.size V)) (Nat.le_refl _) 5 (text.extract r (i + 1))
     go_ret2
     refine ⟨V.heap.size, grownCap V.drew (min (i + 1) text.size - r) 0 5, (text.extract r (i + 1)).data.toList, .nilIface, by rw [hlen]; rfl, HRV.out.size, by rw [hlen]; exact grownCap_ge _ _ _ _, conv_bat V.drew _, ⟨w, d, ?_, ?_, H2.out, H3.out⟩, HRV.out.trans (grown_of_below hbw (some g)), ?_, .inl ⟨a, tl, hcut, hline, rfl⟩⟩
     ·rw [hlen, show r + (min (i + 1) text.size - r) = i + 1 by omega]
      exact blk_below HV.out hbw
     ·rw [hlen]; have := HIW.out; have := HIT.out; omega
     ·rw [hlen]; omega
    ·have t0 : ((b.toNat : Int) == (x.toNat : Int)) = false := beq_eq_false_iff_ne.mpr (by omega)
     have HX := Aside0.mk (show bt text (i : Int) ≠ (x.toNat : Int) by rw [hbt]; omega)
     clear hx hi hbt
     go_wp2
     go_roundg (gk - 1)
     case measure => have := HI2.out; have := HIW.out; omega
     case rel =>
      refine ⟨i + 1, by rw [Int.natCast_add]; rfl, ⟨by have := HI1.out; omega⟩, ⟨by have := HI2.out; have := HIW.out; omega⟩, ⟨fun j h1 h2 => ?_⟩, rfl⟩
      rcases Nat.lt_or_ge j i with h | h
      ·exact HIN.out j h1 h
      ·obtain rfl : j = i := by omega
       exact HX.out
   ·have hie : i = w := by have := HI2.out; omega
    have HIE := Aside0.mk hie
    have d0 : decide ((i : Int) < (w : Int)) = false := decide_eq_false (by omega)
    have d0' : decide (i < w) = false := decide_eq_false hi
    have hnw : ∀ j : Nat, r ≤ j → j < w → bt text (j : Int) ≠ (x.toNat : Int) := by rw [← hie]; exact HIN.out
    have HNW := Aside0.mk hnw
    clear hnw hie hi
    cases d
    ·have e5 : IntKind.i64.wrap ((w : Int) - (r1 : Int)) = (w : Int) - (r1 : Int) := by have := HS.out; have := H1.out; have := H2.out; rw [PrintLast.i64_w]; unfold wrap64; omega
     obtain ⟨r2, hr2⟩ : ∃ r2, r2 = if 4096 ≤ w - r1 then w else r1 := ⟨_, rfl⟩
     have HR2 := Aside0.mk hr2
     clear hr2
     by_cases h4 : 4096 ≤ w - r1
     ·have g4 : decide ((4096 : Int) ≤ (w : Int) - (r1 : Int)) = true := decide_eq_true (by omega)
      have H4 := Aside0.mk h4
      clear h4
      go_upto_region 11 with (fail)
      go_quiet (fail)
      generalize hY : wr.drewN nq = Y
      have HY := Aside0.mk (show Y.heap[g]? = some (bufObj text r1 w l false) by rw [← hY]; exact HBK.out)
      have HRY := Aside0.mk (show W.grownBy Y (some g) by rw [← hY]; exact HR.out.trans (grown_of_below (pw_below_drewN (Below.refl _ _) nq) (some g)))
      clear hY c0 c1 c2 c4 f1 f4
      have y2 : Y.cell? ⟨g, 2, none⟩ = some (.int .i64 w) := (blk_cell HY.out 2).trans rfl
      have y1 : Y.cell? ⟨g, 1, none⟩ = some (.int .i64 r1) := (blk_cell HY.out 1).trans rfl
      have yf := blk_frozen HY.out 1
      have HZ := Aside0.mk (show (Y.setCell ⟨g, 1, none⟩ (.int .i64 w)).heap[g]? = some (bufObj text w w l false) from blk_put HY.out 1 _ rfl)
      have HRZ := Aside0.mk (HRY.out.trans (grown_set Y g 1 (.int .i64 w)))
      have FF := fun (hw : w = text.size) => (fill_full g text (w : Int) l false (Y.setCell ⟨g, 1, none⟩ (.int .i64 w)) (HZ.out.trans (by rw [← hw])))
      have FM := fun (hw : w ≠ text.size) => (fill_more g text w w l false _ HZ.out (by omega) (by have := H1.out; have := H2.out; omega) (by omega) HS.out)
      have FILL : Aside0 (Calls Tryd.prog 78 #[.pointer (some ⟨g, 0, none⟩)] (Y.setCell ⟨g, 1, none⟩ (.int .i64 w)) fun e w2 => e = .returned (.tuple #[]) ∧ FillPost (Y.setCell ⟨g, 1, none⟩ (.int .i64 w)) g text w w l w2) := ⟨by
       have hh := H2.out
       have hh1 := H1.out
       by_cases hw : w = text.size
       ·refine (FF hw).mono ?_
        rintro e w2 ⟨rfl, h1, h2⟩
        exact ⟨rfl, h2, text.size, true, h1, by omega, Nat.le_refl _, fun _ => rfl, .inl ⟨rfl, hw⟩⟩
       ·refine (FM hw).mono ?_
        rintro e w2 ⟨rfl, h1, h2⟩
        have hh := H2.out
        have hh1 := H1.out
        refine ⟨rfl, h2, min text.size (w + 4096), false, ?_, by omega, by omega, (fun e => by cases e), .inr ⟨rfl, by have := H4.out; omega⟩⟩
        rw [h1, show min (text.size : Int) ((w : Int) + 4096) = ((min text.size (w + 4096) : Nat) : Int) by omega]⟩
      clear FF FM
      go_wp2_with (first | (go_at_call 78; refine FILL.out.mono ?_; rintro e w2 ⟨rfl, hf2⟩; have HF2 := Aside0.mk hf2; clear hf2))
      have hf2 := HF2.out
      clear HF2
      obtain ⟨hg2, w3, d3, hb3, hr3, hw3, hd3, hk3⟩ := hf2
      have HG2 := Aside0.mk hg2
      have HB3 := Aside0.mk hb3
      have HK3 := Aside0.mk hk3
      have HR3 := Aside0.mk hr3
      have HW3 := Aside0.mk hw3
      have HD3 := Aside0.mk hd3
      clear hg2 hb3 hk3 hr3 hw3 hd3
      go_roundg gq
      case measure => have := HK.out; have := HGQ.out; omega
      case rel => exact ⟨w, w3, d3, HB3, ⟨Nat.le_trans HRR.out H1.out⟩, HR3, HW3, HD3, ⟨HRZ.out.trans HG2.out⟩, ⟨meas HK.out HGQ.out HK3.out H2.out HW3.out HD3.out⟩, HNW⟩
     ·have g4 : decide ((4096 : Int) ≤ (w : Int) - (r1 : Int)) = false := decide_eq_false (by have := H1.out; omega)
      have H4 := Aside0.mk h4
      clear h4
      go_upto_region 11 with (fail)
      go_quiet (fail)
      generalize hY : wr.drewN nq = Y
      have HY := Aside0.mk (show Y.heap[g]? = some (bufObj text r1 w l false) by rw [← hY]; exact HBK.out)
      have HRY := Aside0.mk (show W.grownBy Y (some g) by rw [← hY]; exact HR.out.trans (grown_of_below (pw_below_drewN (Below.refl _ _) nq) (some g)))
      clear hY c0 c1 c2 c4 f1 f4
      have y2 : Y.cell? ⟨g, 2, none⟩ = some (.int .i64 w) := (blk_cell HY.out 2).trans rfl
      have y1 : Y.cell? ⟨g, 1, none⟩ = some (.int .i64 r1) := (blk_cell HY.out 1).trans rfl
      have yf := blk_frozen HY.out 1
      have HZ := Aside0.mk HY.out
      have HRZ := Aside0.mk HRY.out
      have FF := fun (hw : w = text.size) => (fill_full g text (r1 : Int) l false Y (HZ.out.trans (by rw [← hw])))
      have FM := fun (hw : w ≠ text.size) => (fill_more g text r1 w l false _ HZ.out (by omega) (by have := H1.out; have := H2.out; omega) (by omega) HS.out)
      have FILL : Aside0 (Calls Tryd.prog 78 #[.pointer (some ⟨g, 0, none⟩)] Y fun e w2 => e = .returned (.tuple #[]) ∧ FillPost Y g text r1 w l w2) := ⟨by
       have hh := H2.out
       have hh1 := H1.out
       by_cases hw : w = text.size
       ·refine (FF hw).mono ?_
        rintro e w2 ⟨rfl, h1, h2⟩
        exact ⟨rfl, h2, text.size, true, h1, by omega, Nat.le_refl _, fun _ => rfl, .inl ⟨rfl, hw⟩⟩
       ·refine (FM hw).mono ?_
        rintro e w2 ⟨rfl, h1, h2⟩
        have hh := H2.out
        have hh1 := H1.out
        refine ⟨rfl, h2, min text.size (r1 + 4096), false, ?_, by omega, by omega, (fun e => by cases e), .inr ⟨rfl, by have := H4.out; omega⟩⟩
        rw [h1, show min (text.size : Int) ((r1 : Int) + 4096) = ((min text.size (r1 + 4096) : Nat) : Int) by omega]⟩
      clear FF FM
      go_wp2_with (first | (go_at_call 78; refine FILL.out.mono ?_; rintro e w2 ⟨rfl, hf2⟩; have HF2 := Aside0.mk hf2; clear hf2))
      have hf2 := HF2.out
      clear HF2
      obtain ⟨hg2, w3, d3, hb3, hr3, hw3, hd3, hk3⟩ := hf2
      have HG2 := Aside0.mk hg2
      have HB3 := Aside0.mk hb3
      have HK3 := Aside0.mk hk3
      have HR3 := Aside0.mk hr3
      have HW3 := Aside0.mk hw3
      have HD3 := Aside0.mk hd3
      clear hg2 hb3 hk3 hr3 hw3 hd3
      go_roundg gq
      case measure => have := HK.out; have := HGQ.out; omega
      case rel => exact ⟨r1, w3, d3, HB3, ⟨HRR.out⟩, HR3, HW3, HD3, ⟨HRZ.out.trans HG2.out⟩, ⟨meas HK.out HGQ.out HK3.out H2.out HW3.out HD3.out⟩, HN⟩
    ·have hwe := H3.out rfl
     have HWE := Aside0.mk hwe
     clear hwe
     go_upto_region 10 with (fail)
     generalize hV : (wr.setCell ⟨g, 1, none⟩ (.int .i64 w)).setCell ⟨g, 4, none⟩ (.bool false) = V
     have HV := Aside0.mk (show V.heap[g]? = some (bufObj text w w l false) by rw [← hV]; exact blk_put (blk_put HBK.out 1 _ rfl) 4 _ rfl)
     have HRV := Aside0.mk (show W.grownBy V (some g) by rw [← hV]; exact (HR.out.trans (grown_set wr g 1 _)).trans (grown_set _ g 4 _))
     clear hV c0 c1 c2 c4 f1 f4
     have v0 : V.cell? ⟨g, 0, none⟩ = some (.string text) := (blk_cell HV.out 0).trans rfl
     have v1 : V.cell? ⟨g, 1, none⟩ = some (.int .i64 w) := (blk_cell HV.out 1).trans rfl
     have hcv := HCV.out
     have q0 : ((0 : Int) ≤ (r : Int)) = True := eq_true (by omega)
     have q1 : ((r : Int) ≤ (w : Int)) = True := eq_true (by have := H1.out; have := HRR.out; omega)
     have q1' : (r ≤ w) = True := eq_true (by have := H1.out; have := HRR.out; omega)
     have q2 : ((w : Int) ≤ (text.size : Int)) = True := eq_true (by have := H2.out; omega)
     have q2' : (w ≤ text.size) = True := eq_true H2.out
     go_region
     go_wp2
     have h1 := H1.out
     have h2 := HRR.out
     have h3 := HWE.out
     obtain ⟨hcut, hline⟩ := piece_end text r x (by rw [← HWE.out]; exact HNW.out)
     have hlen : (text.extract r w).data.toList.length = w - r := by rw [Array.length_toList]; exact (ByteArray.size_extract).trans (by rw [Nat.min_eq_left H2.out])
     have hbw := bytes_below (below_drew (Below.refl V.heap.size V)) (Nat.le_refl _) 5 (text.extract r w)
     go_ret2
     refine ⟨V.heap.size, grownCap V.drew (w - r) 0 5, (text.extract r w).data.toList, eofV, by rw [hlen]; rfl, HRV.out.size, by rw [hlen]; exact grownCap_ge _ _ _ _, conv_bat V.drew _, ⟨w, false, ?_, ?_, H2.out, fun e => by cases e⟩, HRV.out.trans (grown_of_below hbw (some g)), ?_, .inr ⟨hcut, ?_, rfl⟩⟩
     ·rw [hlen, show r + (w - r) = w by omega]
      exact blk_below HV.out hbw
     ·rw [hlen]; omega
     ·rw [hlen]; omega
     ·rw [← hline, HWE.out]
end Go.Proofs.YtgnfapnnbcafbaaDoor.UN
end
section
/- How long the strings are that the lexer finds: whatever the text. Plain lists alone. -/
namespace Go.Proofs.YtgnfapnnbcafbaaDoor.UN
open Go
set_option linter.unusedVariables false
theorem trimL_len : ∀ (f : Nat) (l : Bs), (Lib.trimLeftD f l).length ≤ l.length
 | 0, l => Nat.le_refl _
 | f + 1, l => by
  rw [Lib.trimLeftD]
  split
  ·exact Nat.zero_le _
  ·split
   ·exact Nat.le_trans (trimL_len f _) (by rw [List.length_drop]; omega)
   ·exact Nat.le_refl _
theorem trimR_len : ∀ (f : Nat) (l : Bs), (Lib.trimRightD f l).length ≤ l.length
 | 0, l => Nat.le_refl _
 | f + 1, l => by
  rw [Lib.trimRightD]
  split
  ·exact Nat.zero_le _
  ·split
   ·exact Nat.le_trans (trimR_len f _) (by rw [List.length_take]; omega)
   ·exact Nat.le_refl _
theorem trim_len (l : Bs) : (Lib.trimSpaceD l).length ≤ l.length := Nat.le_trans (trimR_len _ _) (trimL_len _ _)
theorem valF_len (p : Bs) : (valF p).length ≤ p.length + 1 := by
 unfold valF
 have := trim_len p
 split
 ·rw [List.length_append, List.length_singleton]; omega
 ·omega
def SzK (T : Nat) : K → Bs → Prop
 | .ns, s => s.length ≤ T
 | .sn, s => s.length ≤ T
 | .ss a, s => s.length ≤ T ∧ a.length ≤ T
 | .ig q, s => SzK T q s
 | .no a, s => s.length ≤ T ∧ a.length ≤ T
 | .on a, s => s.length ≤ T ∧ a.length ≤ T
 | .ov a n p, s => s.length ≤ T ∧ a.length ≤ T ∧ n.length ≤ 4 * T ∧ p.length + 2 * s.length ≤ 2 * T
theorem SzK_le {T : Nat} : ∀ {q : K} {s r : Bs}, SzK T q s → r.length ≤ s.length → SzK T q r
 | .ns, s, r, h, hl => Nat.le_trans hl h
 | .sn, s, r, h, hl => Nat.le_trans hl h
 | .ss a, s, r, h, hl => ⟨Nat.le_trans hl h.1, h.2⟩
 | .ig q, s, r, h, hl => SzK_le (q := q) h hl
 | .no a, s, r, h, hl => ⟨Nat.le_trans hl h.1, h.2⟩
 | .on a, s, r, h, hl => ⟨Nat.le_trans hl h.1, h.2⟩
 | .ov a n p, s, r, h, hl => ⟨Nat.le_trans hl h.1, h.2.1, h.2.2.1, by have := h.2.2.2; omega⟩
def SzL (T : Nat) : LD → Prop
 | .opt s n v => s.length ≤ T ∧ n.length ≤ 4 * T ∧ v.length ≤ 2 * T + 1
 | .sec a => a.length ≤ T
def SzD (T : Nat) (d : List LD) : Prop := ∀ x ∈ d, SzL T x
theorem SzD_nil (T : Nat) : SzD T [] := fun x hx => by cases hx
theorem SzD_one {T : Nat} {x : LD} (h : SzL T x) : SzD T [x] := fun y hy => by rw [List.mem_singleton.1 hy]; exact h
theorem step_sz {T : Nat} {q q' : K} {s s' : Bs} {x : List LD} (hz : SzK T q s) (h : Step q s (.go q' s' x)) : SzK T q' s' ∧ SzD T x := by
 cases q with
 | ns =>
  rcases h with ⟨_, h⟩ | ⟨c, n, ⟨h1, h2, _⟩, h⟩
  ·cases h
  ·have hl : (s.drop n).length ≤ s.length := by rw [List.length_drop]; omega
   have hz' : s.length ≤ T := hz
   unfold nsOut at h
   split at h
   ·cases h; exact ⟨Nat.le_trans hl hz, SzD_nil T⟩
   ·split at h
    ·cases h; exact ⟨Nat.le_trans hl hz, SzD_nil T⟩
    ·cases h; exact ⟨Nat.le_trans hl hz, SzD_nil T⟩
 | sn =>
  have h : .go q' s' x = snOut s := h
  have hz' : s.length ≤ T := hz
  unfold snOut at h
  cases hc : cut (· == 93) s with
  | none => rw [hc] at h; cases h
  | some y =>
   obtain ⟨a, c, r⟩ := y
   rw [hc] at h
   cases h
   obtain ⟨e, _, _⟩ := cut_some _ s a c _ hc
   have : s.length = a.length + (s'.length + 1) := by rw [e]; simp
   exact ⟨⟨by omega, by omega⟩, SzD_nil T⟩
 | ss a =>
  obtain ⟨bl, _, h⟩ := h
  unfold ssOut at h
  have := eol_len s
  have h1 := hz.1
  split at h
  ·cases h; exact ⟨⟨by omega, hz.2⟩, SzD_one hz.2⟩
  ·cases h
 | ig q =>
  obtain ⟨r, hr, h⟩ := h
  cases h
  exact ⟨SzK_le hz hr.length_le, SzD_nil T⟩
 | no a =>
  rcases h with ⟨_, h⟩ | ⟨c, n, ⟨h1, h2, _⟩, h⟩
  ·cases h
  ·have hl : (s.drop n).length ≤ s.length := by rw [List.length_drop]; omega
   have h1 := hz.1
   unfold noOut at h
   split at h
   ·cases h; exact ⟨⟨by omega, hz.2⟩, SzD_nil T⟩
   ·split at h
    ·cases h; exact ⟨Nat.le_trans hl h1, SzD_nil T⟩
    ·split at h
     ·cases h; exact ⟨⟨by omega, hz.2⟩, SzD_nil T⟩
     ·cases h; exact ⟨⟨h1, hz.2⟩, SzD_nil T⟩
 | on a =>
  have h1 := hz.1
  have loose : ∀ {o}, Loose a s o → o = .go q' s' x → SzK T q' s' ∧ SzD T x := by
   intro o ho e
   rcases ho with ho | ⟨n, r, _, hr, hn, ho⟩
   ·rw [ho] at e; cases e
   ·rw [ho] at e; cases e
    exact ⟨⟨by omega, hz.2, by omega, by simp only [List.length_nil]; omega⟩, SzD_nil T⟩
  simp only [Step] at h
  cases hc : cut dl s with
  | none => rw [hc] at h; exact loose h rfl
  | some y =>
   obtain ⟨b, c, r⟩ := y
   rw [hc] at h
   simp only at h
   split at h
   ·obtain ⟨e, _, _⟩ := cut_some _ s b c _ hc
    have : s.length = b.length + (r.length + 1) := by rw [e]; simp
    have ht := trim_len b
    unfold onOut at h
    split at h
    ·cases h; exact ⟨⟨by omega, hz.2, by omega, by simp only [List.length_nil]; omega⟩, SzD_nil T⟩
    ·cases h
   ·exact loose h rfl
 | ov a n p =>
  obtain ⟨bl, _, h⟩ := h
  obtain ⟨h1, h2, h3, h4⟩ := hz
  unfold ovOut at h
  have := eol_len s
  have hv1 := valF_len p
  have hv2 := valF_len (p ++ (eol s).1)
  rw [List.length_append] at hv2
  split at h
  ·cases h
   exact ⟨⟨by omega, h2⟩, SzD_one ⟨h2, h3, by omega⟩⟩
  ·split at h
   ·rename_i hl
    have hne : 0 < (eol s).1.length := by
     cases he : (eol s).1 with
     | nil => rw [he] at hl; cases hl
     | cons b l => simp
    cases h
    refine ⟨⟨by omega, h2, h3, ?_⟩, SzD_nil T⟩
    split <;> simp only [List.length_append, List.length_cons, List.length_nil] <;> omega
   ·cases h
    exact ⟨⟨by omega, h2⟩, SzD_one ⟨h2, h3, by omega⟩⟩
end Go.Proofs.YtgnfapnnbcafbaaDoor.UN
end
section
/- The lexer's toEOL: a line of the text. Conditions: a text of at most a million bytes. -/
namespace Go.Proofs.YtgnfapnnbcafbaaDoor.UN
open Go Go.RowKit Go.Proofs.YtgnfapnnbcafbaaDoorW.PrintWords Go.Proofs.YtgnfapnnbcafbaaDoorW
set_option linter.unusedVariables false
set_option linter.unusedSimpArgs false
theorem ta_nil (W : World) : (Instr.typeAssert .nilIface 45 115 true).run Tryd.prog W = .ok (.tuple #[.agg #[], .bool false]) W := by kernel_rfl
theorem ta_eof (W : World) : (Instr.typeAssert eofV 45 115 true).run Tryd.prog W = .ok (.tuple #[.agg #[], .bool true]) W := by kernel_rfl
set_option maxHeartbeats 4000000 in
set_option maxRecDepth 100000 in
theorem eof_nil (W : World) : Calls Tryd.prog 74 #[.nilIface] W fun e w' => e = .returned (.bool false) ∧ Below W.heap.size W w' := by
 have ht := ta_nil
 go_enter Tryd.func74, Tryd.ntmps74
 go_wp2
 go_ret
 exact ⟨rfl, below_alloc (Below.refl _ _) _⟩
set_option maxHeartbeats 4000000 in
set_option maxRecDepth 100000 in
theorem eof_eof (W : World) : Calls Tryd.prog 74 #[eofV] W fun e w' => e = .returned (.bool true) ∧ Below W.heap.size W w' := by
 have ht := ta_eof
 go_enter Tryd.func74, Tryd.ntmps74
 go_wp2
 go_ret
 exact ⟨rfl, below_alloc (Below.refl _ _) _⟩
def lexObj (g : Nat) (vd er : Value) (sec : ByteArray) : Obj := .cells #[.pointer (some ⟨g, 0, none⟩), vd, er, .string sec] 75 (0, 0)
def EolPost (W : World) (g : Nat) (text : ByteArray) (r : Nat) (l : Int) (e : Ending) (w' : World) : Prop :=
 ∃ (bk cap r' : Nat), e = .returned (.tuple #[.slice (some ⟨bk, 0, none⟩) (eol (text.data.toList.drop r)).1.length cap, .bool (eol (text.data.toList.drop r)).2.1, .nilIface]) ∧ (eol (text.data.toList.drop r)).1.length ≤ cap ∧ BAt w' bk 0 (eol (text.data.toList.drop r)).1 ∧
  BufAt w' g text r' l ∧ text.data.toList.drop r' = (eol (text.data.toList.drop r)).2.2 ∧ r ≤ r' ∧ r' ≤ text.size ∧ W.grownBy w' (some g) ∧ W.heap.size ≤ bk
theorem bat_pre {w : World} {b : Nat} {l m : Bs} (h : BAt w b 0 (l ++ m)) : BAt w b 0 l := fun i hi => by
 have := h i (by rw [List.length_append]; omega)
 rw [List.getD_eq_getElem?_getD, List.getElem?_append_left hi] at this
 rw [List.getD_eq_getElem?_getD]
 exact this
theorem bat_one (w : World) (c : UInt8) : BAt (w.alloc (.cells #[.int .u8 (c.toNat : Int)] 5 (0, 0))) w.heap.size 0 [c] := fun i hi => by
 obtain rfl : i = 0 := by simpa using hi
 exact (blk_cell (blk_new w _) 0).trans rfl
theorem bat13 (w : World) : BAt (w.alloc (.cells #[.int .u8 13] 5 (0, 0))) w.heap.size 0 [13] := bat_one w 13
theorem bat10 (w : World) (b : Nat) (h : b = w.heap.size) : BAt (w.alloc (.cells #[.int .u8 10] 5 (0, 0))) b 0 [10] := by
 rw [h]
 exact bat_one w 10
theorem bat_alloc {w : World} {b : Nat} {l : Bs} (h : BAt w b 0 l) (o : Obj) : BAt (w.alloc o) b 0 l := bat_below h (below_alloc (Below.refl _ _) o)
theorem cut13 (b n c b2 : Nat) (l : Bs) (w : World) (hl : l.length = n) (hn : n ≤ c) (hs : n ≤ 100000000) (h1 : BAt w b 0 l) (h2 : BAt w b2 0 [13]) (m : Nat) (hm : (if l.getLast? = some 13 then l.dropLast else l).length = m) :
  Calls Tryd.prog 89 #[.slice (some ⟨b, 0, none⟩) n c, .slice (some ⟨b2, 0, none⟩) 1 1] w fun e w' => e = .returned (.slice (some ⟨b, 0, none⟩) m c) ∧ w' = w := by
 have := cutsuf_call b n c b2 1 l 13 w hl hn hs h1 h2
 rw [hm] at this
 exact this
theorem cut10 (b n c b2 : Nat) (l : Bs) (w : World) (hl : l.length = n) (hn : n ≤ c) (hs : n ≤ 100000000) (h1 : BAt w b 0 l) (h2 : BAt w b2 0 [10]) (m : Nat) (hm : (if l.getLast? = some 10 then l.dropLast else l).length = m) :
  Calls Tryd.prog 89 #[.slice (some ⟨b, 0, none⟩) n c, .slice (some ⟨b2, 0, none⟩) 1 1] w fun e w' => e = .returned (.slice (some ⟨b, 0, none⟩) m c) ∧ w' = w := by
 have := cutsuf_call b n c b2 1 l 10 w hl hn hs h1 h2
 rw [hm] at this
 exact this
set_option maxHeartbeats 4000000 in
set_option maxRecDepth 100000 in
theorem to_eol1 (lx g : Nat) (vd er : Value) (sec : ByteArray) (text : ByteArray) (r : Nat) (l : Int) (W : World) (hlx : W.heap[lx]? = some (lexObj g vd er sec)) (hb : BufAt W g text r l) (hsz : text.size ≤ 1000000) (a tl : Bs) (hc : cut (· == 10) (text.data.toList.drop r) = some (a, 10, tl)) :
  Calls Tryd.prog 88 #[.pointer (some ⟨lx, 0, none⟩)] W (EolPost W g text r l) := by
 have l0 : W.cell? ⟨lx, 0, none⟩ = some (.pointer (some ⟨g, 0, none⟩)) := (blk_cell hlx 0).trans rfl
 have RB : Aside0 (Calls Tryd.prog 85 #[.pointer (some ⟨g, 0, none⟩), .int .u8 10] W (fun e w' => ∃ bk cap, e = .returned (.tuple #[.slice (some ⟨bk, 0, none⟩) (a.length + 1) cap, .nilIface]) ∧ W.heap.size ≤ bk ∧ a.length + 1 ≤ cap ∧ BAt w' bk 0 (a ++ [10]) ∧ BufAt w' g text (r + (a.length + 1)) l ∧ W.grownBy w' (some g) ∧ r + (a.length + 1) ≤ text.size)) := ⟨by
  refine (read_bytes g text r l 10 W hb hsz).mono ?_
  rintro e w2 ⟨bk, cap, line, er, rfl, hbk, hcap, hbat, hbuf, hg, hle, hor⟩
  rcases hor with ⟨a', tl', hc', hline, rfl⟩ | ⟨hc', hline, rfl⟩
  ·rw [hc] at hc'
   obtain ⟨rfl, -, rfl⟩ : a = a' ∧ True ∧ tl = tl' := by simpa using hc'
   subst hline
   rw [List.length_append, List.length_singleton] at hcap hbuf hle ⊢
   exact ⟨bk, cap, rfl, hbk, hcap, hbat, hbuf, hg, hle⟩
  ·rw [hc] at hc'; cases hc'⟩
 have HC := Aside0.mk hc
 have HLN : Aside0 (a.length + 1 ≤ 1000000) := ⟨by
  have h := (cut_some _ _ _ _ _ hc).1
  have h2 := congrArg List.length h
  have hl : text.data.toList.length = text.size := Array.length_toList
  simp only [List.length_drop, List.length_append, List.length_cons] at h2
  omega⟩
 have tk0 : True := trivial
 have HGB := Aside0.mk (show g < W.heap.size by obtain ⟨_, _, h, _⟩ := hb; exact blk_lt h)
 clear hc hb hlx hsz
 go_enter Tryd.func88, Tryd.ntmps88
 go_wp2_with (first
  | (go_at_call 85; refine RB.out.mono ?_; rintro e w2 ⟨bk, cap, rfl, hbk, hcap, hbat, hbuf, hg, hle⟩; have HBK := Aside0.mk hbk; have HCAP := Aside0.mk hcap; have HBAT := Aside0.mk hbat; have HBUF := Aside0.mk hbuf; have HG := Aside0.mk hg; have HLE := Aside0.mk hle; clear hbk hcap hbat hbuf hg hle)
  | (go_at_call 89; clear tk0; refine (cut13 bk (a.length + 1) cap _ (a ++ [10]) _ (by simp) HCAP.out (by have := HLN.out; omega) (bat_alloc HBAT.out _) (bat13 _) (a.length + 1) (by simp)).mono ?_; rintro e w3 ⟨rfl, rfl⟩)
  | (go_at_call 89; refine (cut10 bk (a.length + 1) cap _ (a ++ [10]) _ (by simp) HCAP.out (by have := HLN.out; omega) (bat_alloc (bat_alloc HBAT.out _) _) (bat10 _ _ (by simp)) a.length (by simp)).mono ?_; rintro e w4 ⟨rfl, rfl⟩)
  | (go_at_call 74; refine (eof_nil _).mono ?_; rintro e w5 ⟨rfl, hb5⟩; have HB5 := Aside0.mk hb5; clear hb5))
 go_ret3
 have hcut := HC.out
 have hs := (cut_some _ _ _ _ _ hcut).1
 have e1 : eol (text.data.toList.drop r) = (a, false, tl) := by unfold eol; rw [hcut]
 unfold EolPost
 rw [e1]
 have hbel : Below w2.heap.size w2 w5 := below_then (below_alloc (below_alloc (Below.refl _ _) _) _) (below_alloc (below_alloc (Below.refl _ _) _) _).size HB5.out
 have hgb := HGB.out
 have hg2 := HG.out.size
 refine ⟨bk, cap, r + (a.length + 1), rfl, by have := HCAP.out; simp only; omega, bat_below (bat_pre HBAT.out) hbel, bufAt_grown HBUF.out (grown_of_below hbel none) (by simp), ?_, by omega, HLE.out, HG.out.trans (grown_of_below hbel (some g)), HBK.out⟩
 rw [← List.drop_drop, hs]
 simp
theorem dropCR_len (s : Bs) : (dropCR s).length ≤ s.length := by
 unfold dropCR
 split
 ·rw [List.length_dropLast]; omega
 ·exact Nat.le_refl _
theorem dropCR_pre (s : Bs) : ∃ t, s = dropCR s ++ t := by
 unfold dropCR
 split
 ·rename_i h
  obtain ⟨hne, e⟩ := List.getLast?_eq_some_iff.1 h
  exact ⟨[13], by rw [e]; simp⟩
 ·exact ⟨[], by simp⟩
theorem last_ne {s : Bs} {c : UInt8} (h : ∀ b ∈ s, b ≠ c) : s.getLast? ≠ some c := fun e => by
 obtain ⟨hne, e2⟩ := List.getLast?_eq_some_iff.1 e
 exact h c (by rw [e2]; simp) rfl
set_option maxHeartbeats 4000000 in
set_option maxRecDepth 100000 in
theorem to_eol2 (lx g : Nat) (vd er : Value) (sec : ByteArray) (text : ByteArray) (r : Nat) (l : Int) (W : World) (hlx : W.heap[lx]? = some (lexObj g vd er sec)) (hb : BufAt W g text r l) (hsz : text.size ≤ 1000000) (hc : cut (· == 10) (text.data.toList.drop r) = none) :
  Calls Tryd.prog 88 #[.pointer (some ⟨lx, 0, none⟩)] W (EolPost W g text r l) := by
 have l0 : W.cell? ⟨lx, 0, none⟩ = some (.pointer (some ⟨g, 0, none⟩)) := (blk_cell hlx 0).trans rfl
 obtain ⟨s, hs⟩ : ∃ s, text.data.toList.drop r = s := ⟨_, rfl⟩
 have RB : Aside0 (Calls Tryd.prog 85 #[.pointer (some ⟨g, 0, none⟩), .int .u8 10] W (fun e w' => ∃ bk cap, e = .returned (.tuple #[.slice (some ⟨bk, 0, none⟩) s.length cap, .iface 115 (.agg #[])]) ∧ W.heap.size ≤ bk ∧ s.length ≤ cap ∧ BAt w' bk 0 s ∧ BufAt w' g text (r + s.length) l ∧ W.grownBy w' (some g) ∧ r + s.length ≤ text.size)) := ⟨by
  refine (read_bytes g text r l 10 W hb hsz).mono ?_
  rintro e w2 ⟨bk, cap, line, er, rfl, hbk, hcap, hbat, hbuf, hg, hle, hor⟩
  rcases hor with ⟨a', tl', hc', hline, rfl⟩ | ⟨hc', hline, rfl⟩
  ·rw [hc] at hc'; cases hc'
  ·rw [hs] at hline
   subst hline
   exact ⟨bk, cap, rfl, hbk, hcap, hbat, hbuf, hg, hle⟩⟩
 have HNL := Aside0.mk (show ∀ b ∈ s, b ≠ 10 from fun b hb => by rw [hs] at hc; have := cut_none _ _ hc b hb; simpa using this)
 have hl : text.data.toList.length = text.size := Array.length_toList
 have HLN : Aside0 (s.length ≤ 1000000) := ⟨by rw [← hs, List.length_drop]; omega⟩
 have HC := Aside0.mk hc
 have HSE := Aside0.mk hs
 have HTL := Aside0.mk hl
 obtain ⟨m, hm⟩ : ∃ m, (dropCR s).length = m := ⟨_, rfl⟩
 have HM := Aside0.mk hm
 have tk0 : True := trivial
 have tk1 : True := trivial
 have HMS := Aside0.mk (show m ≤ s.length by rw [← hm]; exact dropCR_len s)
 have HM2 : Aside0 ((if (dropCR s).getLast? = some 10 then (dropCR s).dropLast else dropCR s).length = m) := ⟨by
  rw [if_neg (last_ne fun b hb => ?_)]
  ·exact hm
  ·obtain ⟨t, ht⟩ := dropCR_pre s
   exact HNL.out b (by rw [ht]; exact List.mem_append_left _ hb)⟩
 have hpre := dropCR_pre s
 have HPRE := Aside0.mk hpre
 clear hpre

 have HGB := Aside0.mk (show g < W.heap.size by obtain ⟨_, _, h, _⟩ := hb; exact blk_lt h)
 clear hc hb hlx hsz hs hl hm
 go_enter Tryd.func88, Tryd.ntmps88
 go_wp2_with (first
  | (go_at_call 85; refine RB.out.mono ?_; rintro e w2 ⟨bk, cap, rfl, hbk, hcap, hbat, hbuf, hg, hle⟩; have HBK := Aside0.mk hbk; have HCAP := Aside0.mk hcap; have HBAT := Aside0.mk hbat; have HBUF := Aside0.mk hbuf; have HG := Aside0.mk hg; have HLE := Aside0.mk hle; clear hbk hcap hbat hbuf hg hle)
  | (go_at_call 74; clear tk0; refine (eof_eof _).mono ?_; rintro e w3 ⟨rfl, hb3⟩; have HBAT3 := Aside0.mk (bat_below HBAT.out hb3); have HBATD : Aside0 (BAt w3 bk 0 (dropCR s)) := ⟨by obtain ⟨t, ht⟩ := HPRE.out; have h9 := HBAT3.out; rw [ht] at h9; exact bat_pre h9⟩; have HB3 := Aside0.mk hb3; clear hb3)
  | (go_at_call 89; clear tk1; refine (cut13 bk s.length cap _ s _ rfl HCAP.out (by have := HLN.out; omega) (bat_alloc HBAT3.out _) (bat13 _) m HM.out).mono ?_; rintro e w4 ⟨rfl, rfl⟩)
  | (go_at_call 89; refine (cut10 bk m cap _ (dropCR s) _ HM.out (by have := HCAP.out; have := HMS.out; omega) (by have := HLN.out; have := HMS.out; omega) (bat_alloc (bat_alloc HBATD.out _) _) (bat10 _ _ (by simp)) m HM2.out).mono ?_; rintro e w5 ⟨rfl, rfl⟩)
  | (go_at_call 74; refine (eof_eof _).mono ?_; rintro e w6 ⟨rfl, hb6⟩; have HB6 := Aside0.mk hb6; clear hb6))
 go_ret3
 have e1 : eol (text.data.toList.drop r) = (dropCR s, true, []) := by unfold eol; rw [HC.out, HSE.out]
 unfold EolPost
 rw [e1]
 have hb3 := HB3.out
 have hbel : Below w2.heap.size w2 w6 := below_then (below_alloc (below_alloc HB3.out _) _) (below_alloc (below_alloc HB3.out _) _).size HB6.out
 have hgb := HGB.out
 have hg2 := HG.out.size
 have hm := HM.out
 have hms := HMS.out
 simp only
 rw [hm]
 refine ⟨bk, cap, r + s.length, rfl, by have := HCAP.out; omega, ?_, bufAt_grown HBUF.out (grown_of_below hbel none) (by simp), ?_, by omega, HLE.out, HG.out.trans (grown_of_below hbel (some g)), HBK.out⟩
 ·obtain ⟨t, ht⟩ := dropCR_pre s
  refine bat_below (bat_pre (m := t) ?_) hbel
  rw [← ht]
  exact HBAT.out
 ·rw [← HSE.out, List.drop_of_length_le]
  rw [List.length_drop]
  omega
theorem to_eol (lx g : Nat) (vd er : Value) (sec : ByteArray) (text : ByteArray) (r : Nat) (l : Int) (W : World) (hlx : W.heap[lx]? = some (lexObj g vd er sec)) (hb : BufAt W g text r l) (hsz : text.size ≤ 1000000) :
  Calls Tryd.prog 88 #[.pointer (some ⟨lx, 0, none⟩)] W (EolPost W g text r l) := by
 cases hc : cut (· == 10) (text.data.toList.drop r) with
 | none => exact to_eol2 lx g vd er sec text r l W hlx hb hsz hc
 | some x =>
  obtain ⟨a, c, tl⟩ := x
  obtain rfl : c = 10 := by have := (cut_some _ _ _ _ _ hc).2.1; simpa using this
  exact to_eol1 lx g vd er sec text r l W hlx hb hsz a tl hc
end Go.Proofs.YtgnfapnnbcafbaaDoor.UN
end
section
/- The lexer in memory: what stands in its block, its closures; the makers of closures. Conditions: as they say. -/
namespace Go.Proofs.YtgnfapnnbcafbaaDoor.UN
open Go Go.RowKit Go.Proofs.YtgnfapnnbcafbaaDoorW.PrintWords Go.Proofs.YtgnfapnnbcafbaaDoorW
set_option linter.unusedVariables false
set_option linter.unusedSimpArgs false
abbrev kA : Kd Nat := Kd.scalar (fun b : Nat => Value.pointer (some ⟨b, 0, none⟩)) (fun _ => rfl)
abbrev sB (l : Bs) : ByteArray := ⟨l.toArray⟩
structure Ent where
 ld : LD
 b : Nat
 x : Nat
 y : Nat
def EntAt (W : World) (e : Ent) : Prop := match e.ld with
 | .opt s n v => W.heap[e.b]? = some (.cells #[.int .i64 1, .pointer (some ⟨e.x, 0, none⟩), .pointer none] 80 (0, 0)) ∧ W.heap[e.x]? = some (.cells #[.string (sB s), .string (sB n), .string (sB v)] 49 (0, 0))
 | .sec a => W.heap[e.b]? = some (.cells #[.int .i64 0, .pointer none, .pointer (some ⟨e.x, 0, none⟩)] 80 (0, 0)) ∧ W.heap[e.x]? = some (.cells #[.string (sB a), .slice (some ⟨e.y, 0, none⟩) 0 0] 84 (0, 0)) ∧ W.heap[e.y]? = some (.cells #[] 85 (0, 0))
def Stay (W w' : World) : Prop := W.heap.size ≤ w'.heap.size ∧ ∀ (k : Nat) (cs : Array Value) (t : TypeId), W.heap[k]? = some (.cells cs t (0, 0)) → t ∈ [80, 49, 84, 85, 76] → w'.heap[k]? = some (.cells cs t (0, 0))
theorem EntAt_stay {W w' : World} {e : Ent} (h : EntAt W e) (hs : Stay W w') : EntAt w' e := by
 obtain ⟨ld, b, x, y⟩ := e
 cases ld with
 | opt s n v => exact ⟨hs.2 _ _ _ h.1 (by simp), hs.2 _ _ _ h.2 (by simp)⟩
 | sec a => exact ⟨hs.2 _ _ _ h.1 (by simp), hs.2 _ _ _ h.2.1 (by simp), hs.2 _ _ _ h.2.2 (by simp)⟩
theorem stay_below {W w' : World} (h : Below W.heap.size W w') : Stay W w' := ⟨h.size, fun k cs t hk _ => blk_below hk h⟩
theorem stay_grown {W w' : World} {g : Nat} {cs : Array Value} {t : TypeId} (h : W.grownBy w' (some g)) (hg : W.heap[g]? = some (.cells cs t (0, 0))) (ht : t ∉ [80, 49, 84, 85, 76]) : Stay W w' :=
 ⟨h.size, fun k cs2 t2 hk hm => blk_grown hk h (by
  intro e
  cases e
  rw [hk] at hg
  injection hg with hg
  injection hg with _ hg
  exact ht (hg ▸ hm))⟩
structure LexIs (W0 W : World) (lx g : Nat) (text : ByteArray) (r : Nat) (D : List Ent) : Prop where
 bel : Below W0.heap.size W0 W
 lxb : W0.heap.size ≤ lx
 gb : W0.heap.size ≤ g
 ob : ∃ vd, W.heap[lx]? = some (lexObj g vd .nilIface ⟨#[]⟩) ∧ kA.R 76 W W0.heap.size (fun _ => True) vd (D.map (·.b))
 dat : ∀ e ∈ D, EntAt W e ∧ W0.heap.size ≤ e.b ∧ W0.heap.size ≤ e.x ∧ W0.heap.size ≤ e.y ∧ e.y < W.heap.size
 nod : (D.map (·.y)).Nodup
 buf : ∃ l, BufAt W g text r l
theorem kA_stay {W w' : World} {base : Nat} {vd : Value} {xs : List Nat} (h : kA.R 76 W base (fun _ => True) vd xs) (hs : Stay W w') : kA.R 76 w' base (fun _ => True) vd xs := by
 refine Kd.R_mono (Kd.R_move (Kd.R_tight rfl h) (fun k hk => ?_)) (fun _ _ => trivial)
 obtain ⟨cells, hc⟩ := Kd.R_typed h k hk.symm
 rw [hs.2 k _ _ hc (by simp), hc]
theorem LexIs.step {W0 W w' : World} {lx g r r' : Nat} {text : ByteArray} {D : List Ent} (h : LexIs W0 W lx g text r D) (hb : Below W0.heap.size W0 w') (hs : Stay W w') (hl : ∀ o, W.heap[lx]? = some o → w'.heap[lx]? = some o) (hbf : ∃ l, BufAt w' g text r' l) : LexIs W0 w' lx g text r' D := by
 obtain ⟨vd, h1, h2⟩ := h.ob
 exact ⟨hb, h.lxb, h.gb, ⟨vd, hl _ h1, kA_stay h2 hs⟩, fun e he => by
  obtain ⟨e1, e2, e3, e4, e5⟩ := h.dat e he
  exact ⟨EntAt_stay e1 hs, e2, e3, e4, Nat.lt_of_lt_of_le e5 hs.1⟩, h.nod, hbf⟩
theorem LexIs.below {W0 W w' : World} {lx g r : Nat} {text : ByteArray} {D : List Ent} (h : LexIs W0 W lx g text r D) (hb : Below W.heap.size W w') : LexIs W0 w' lx g text r D :=
 h.step (below_then h.bel h.bel.size hb) (stay_below hb) (fun o ho => blk_below ho hb) (by
  obtain ⟨l, hl⟩ := h.buf
  exact ⟨l, bufAt_grown hl (grown_of_below hb none) (by simp)⟩)
theorem LexIs.grown {W0 W w' : World} {lx g r r' : Nat} {text : ByteArray} {D : List Ent} (h : LexIs W0 W lx g text r D) (hg : W.grownBy w' (some g)) (hbf : ∃ l, BufAt w' g text r' l) : LexIs W0 w' lx g text r' D := by
 obtain ⟨l, w, d, hw, _⟩ := h.buf
 refine h.step (pw_below_grown h.bel (some g) h.bel.size hg (fun k e => by cases e; exact h.gb)) (stay_grown hg hw (by decide)) (fun o ho => blk_grown ho hg ?_) hbf
 obtain ⟨vd, h1, _⟩ := h.ob
 intro e
 cases e
 rw [h1] at hw
 simp [lexObj, bufObj] at hw
theorem LexIs.put {W0 W : World} {lx g r c : Nat} {text : ByteArray} {D : List Ent} {cs : Array Value} (h : LexIs W0 W lx g text r D) (hc : W.heap[c]? = some (.cells cs 9 (0, 0))) (hb : W0.heap.size ≤ c) (u : Value) : LexIs W0 (W.setCell ⟨c, 0, none⟩ u) lx g text r D := by
 obtain ⟨l, w, d, hw, hw2⟩ := h.buf
 have hgs := grown_set W c 0 u
 refine h.step (below_set h.bel hb) (stay_grown hgs hc (by decide)) (fun o ho => blk_grown ho hgs ?_) ⟨l, w, d, blk_grown hw hgs ?_, hw2⟩
 ·obtain ⟨vd, h1, _⟩ := h.ob
  intro e
  cases e
  rw [h1] at hc
  simp [lexObj] at hc
 ·intro e
  cases e
  rw [hw] at hc
  simp [bufObj] at hc
def capL (lx : Nat) : Obj := .cells #[.pointer (some ⟨lx, 0, none⟩)] 70 (0, 0)
def capS (a : Bs) : Obj := .cells #[.string (sB a)] 9 (0, 0)
def Rep (base lx : Nat) : K → World → Value → Prop
 | .ns, _, v => v = .func (.func 62) #[.pointer (some ⟨lx, 0, none⟩)] #[]
 | .sn, _, v => v = .func (.func 75) #[.pointer (some ⟨lx, 0, none⟩)] #[]
 | .ss a, W, v => ∃ c1 c2, v = .func (.func 93) #[] #[.pointer (some ⟨c1, 0, none⟩), .pointer (some ⟨c2, 0, none⟩)] ∧ W.heap[c1]? = some (capL lx) ∧ W.heap[c2]? = some (capS a)
 | .ig q, W, v => ∃ c1 c2 u, v = .func (.func 87) #[] #[.pointer (some ⟨c1, 0, none⟩), .pointer (some ⟨c2, 0, none⟩)] ∧ W.heap[c1]? = some (capL lx) ∧ W.heap[c2]? = some (.cells #[u] 97 (0, 0)) ∧ Rep base lx q W u
 | .no a, W, v => ∃ c1 c2, v = .func (.func 100) #[] #[.pointer (some ⟨c1, 0, none⟩), .pointer (some ⟨c2, 0, none⟩)] ∧ W.heap[c1]? = some (capL lx) ∧ W.heap[c2]? = some (capS a)
 | .on a, W, v => ∃ c1 c2, v = .func (.func 111) #[] #[.pointer (some ⟨c1, 0, none⟩), .pointer (some ⟨c2, 0, none⟩)] ∧ W.heap[c1]? = some (capL lx) ∧ W.heap[c2]? = some (capS a)
 | .ov a n p, W, v => ∃ c1 c2 c3 c4, v = .func (.func 126) #[] #[.pointer (some ⟨c1, 0, none⟩), .pointer (some ⟨c2, 0, none⟩), .pointer (some ⟨c3, 0, none⟩), .pointer (some ⟨c4, 0, none⟩)] ∧ W.heap[c1]? = some (capL lx) ∧ W.heap[c2]? = some (capS p) ∧ W.heap[c3]? = some (capS a) ∧ W.heap[c4]? = some (capS n) ∧ base ≤ c2 ∧ c3 ≠ c2 ∧ c4 ≠ c2
theorem Rep_move {base lx : Nat} {W w' : World} (hm : ∀ (k : Nat) (cs : Array Value) (t : TypeId), W.heap[k]? = some (.cells cs t (0, 0)) → t ∈ [70, 9, 97] → w'.heap[k]? = some (.cells cs t (0, 0))) : ∀ {q : K} {v : Value}, Rep base lx q W v → Rep base lx q w' v
 | .ns, v, h => h
 | .sn, v, h => h
 | .ss a, v, ⟨c1, c2, e, h1, h2⟩ => ⟨c1, c2, e, hm _ _ _ h1 (by simp), hm _ _ _ h2 (by simp)⟩
 | .ig q, v, ⟨c1, c2, u, e, h1, h2, h3⟩ => ⟨c1, c2, u, e, hm _ _ _ h1 (by simp), hm _ _ _ h2 (by simp), Rep_move hm h3⟩
 | .no a, v, ⟨c1, c2, e, h1, h2⟩ => ⟨c1, c2, e, hm _ _ _ h1 (by simp), hm _ _ _ h2 (by simp)⟩
 | .on a, v, ⟨c1, c2, e, h1, h2⟩ => ⟨c1, c2, e, hm _ _ _ h1 (by simp), hm _ _ _ h2 (by simp)⟩
 | .ov a n p, v, ⟨c1, c2, c3, c4, e, h1, h2, h3, h4, h5⟩ => ⟨c1, c2, c3, c4, e, hm _ _ _ h1 (by simp), hm _ _ _ h2 (by simp), hm _ _ _ h3 (by simp), hm _ _ _ h4 (by simp), h5⟩
theorem Rep_below {base lx : Nat} {W w' : World} {q : K} {v : Value} (h : Rep base lx q W v) (hb : Below W.heap.size W w') : Rep base lx q w' v := Rep_move (fun k cs t hk _ => blk_below hk hb) h
theorem Rep_grown {base lx g : Nat} {W w' : World} {q : K} {v : Value} {cs : Array Value} {t : TypeId} (h : Rep base lx q W v) (hg : W.grownBy w' (some g)) (hgb : W.heap[g]? = some (.cells cs t (0, 0))) (ht : t ∉ [70, 9, 97]) : Rep base lx q w' v :=
 Rep_move (fun k cs2 t2 hk hm => blk_grown hk hg (by
  intro e
  cases e
  rw [hk] at hgb
  injection hgb with hgb
  injection hgb with _ hgb
  exact ht (hgb ▸ hm))) h
def ErrIs (er : Bool) (ev : Value) : Prop := if er = true then ∃ t u, ev = .iface t u else ev = .nilIface
def StepPost (W0 : World) (lx g : Nat) (text : ByteArray) (D : List Ent) (q : K) (s : Bs) (e : Ending) (w' : World) : Prop := ∃ o, Step q s o ∧ match o with
 | .done er => ∃ ev r', e = .returned (.tuple #[.nilFunc, ev]) ∧ ErrIs er ev ∧ LexIs W0 w' lx g text r' D
 | .go q' s' x => ∃ v X r', e = .returned (.tuple #[v, .nilIface]) ∧ Rep W0.heap.size lx q' w' v ∧ X.map (·.ld) = x ∧ LexIs W0 w' lx g text r' (D ++ X) ∧ text.data.toList.drop r' = s' ∧ r' ≤ text.size
theorem StepPost.done {W0 : World} {lx g : Nat} {text : ByteArray} {D : List Ent} {q : K} {s : Bs} {w' : World} {er : Bool} {ev : Value} {r' : Nat} (h : Step q s (.done er)) (he : ErrIs er ev) (hL : LexIs W0 w' lx g text r' D) : StepPost W0 lx g text D q s (.returned (.tuple #[.nilFunc, ev])) w' := ⟨_, h, ev, r', rfl, he, hL⟩
theorem StepPost.go {W0 : World} {lx g : Nat} {text : ByteArray} {D : List Ent} {q q' : K} {s s' : Bs} {w' : World} {v : Value} {r' : Nat} (h : Step q s (.go q' s' [])) (hR : Rep W0.heap.size lx q' w' v) (hL : LexIs W0 w' lx g text r' D) (hs : text.data.toList.drop r' = s') (hr : r' ≤ text.size) : StepPost W0 lx g text D q s (.returned (.tuple #[v, .nilIface])) w' :=
 ⟨_, h, v, [], r', rfl, hR, rfl, by rw [List.append_nil]; exact hL, hs, hr⟩
theorem make_fn (fn : Fn) (first cap : Array Value) (w : World) : (Instr.makeFunc fn first cap).run Tryd.prog w = .ok (.func fn first cap) w := rfl
def MadePost (base lx : Nat) (q : K) (W : World) (e : Ending) (w' : World) : Prop := ∃ v, e = .returned v ∧ Rep base lx q w' v ∧ Below W.heap.size W w'
end Go.Proofs.YtgnfapnnbcafbaaDoor.UN
end
section
/- The makers of the lexer's closures. No condition. -/
namespace Go.Proofs.YtgnfapnnbcafbaaDoor.UN
open Go Go.RowKit Go.Proofs.YtgnfapnnbcafbaaDoorW.PrintWords Go.Proofs.YtgnfapnnbcafbaaDoorW
set_option linter.unusedVariables false
set_option linter.unusedSimpArgs false
theorem sz_alloc (w : World) (o : Obj) : (w.alloc o).heap.size = w.heap.size + 1 := by
 show (w.heap.push o).size = _
 exact Array.size_push ..
theorem new2 (w : World) (o1 o2 : Obj) : ((w.alloc o1).alloc o2).heap[w.heap.size + 1]? = some o2 := by
 have := blk_new (w.alloc o1) o2
 rwa [sz_alloc] at this
theorem new3 (w : World) (o1 o2 o3 : Obj) : (((w.alloc o1).alloc o2).alloc o3).heap[w.heap.size + 2]? = some o3 := by
 have := new2 (w.alloc o1) o2 o3
 rwa [sz_alloc] at this
theorem new4 (w : World) (o1 o2 o3 o4 : Obj) : ((((w.alloc o1).alloc o2).alloc o3).alloc o4).heap[w.heap.size + 3]? = some o4 := by
 have := new3 (w.alloc o1) o2 o3 o4
 rwa [sz_alloc] at this
theorem made_ss (base lx : Nat) (a : Bs) (W : World) : Calls Tryd.prog 86 #[.pointer (some ⟨lx, 0, none⟩), .string (sB a)] W (MadePost base lx (.ss a) W) := by
 have hmf := make_fn
 go_enter Tryd.func86, Tryd.ntmps86
 go_wp2
 go_ret
 exact ⟨_, rfl, ⟨W.heap.size, W.heap.size + 1, rfl, blk_alloc (blk_new W _) _, new2 W _ _⟩, below_alloc (below_alloc (Below.refl _ _) _) _⟩
theorem made_no (base lx : Nat) (a : Bs) (W : World) : Calls Tryd.prog 95 #[.pointer (some ⟨lx, 0, none⟩), .string (sB a)] W (MadePost base lx (.no a) W) := by
 have hmf := make_fn
 go_enter Tryd.func95, Tryd.ntmps95
 go_wp2
 go_ret
 exact ⟨_, rfl, ⟨W.heap.size, W.heap.size + 1, rfl, blk_alloc (blk_new W _) _, new2 W _ _⟩, below_alloc (below_alloc (Below.refl _ _) _) _⟩
theorem made_on (base lx : Nat) (a : Bs) (W : World) : Calls Tryd.prog 103 #[.pointer (some ⟨lx, 0, none⟩), .string (sB a)] W (MadePost base lx (.on a) W) := by
 have hmf := make_fn
 go_enter Tryd.func103, Tryd.ntmps103
 go_wp2
 go_ret
 exact ⟨_, rfl, ⟨W.heap.size, W.heap.size + 1, rfl, blk_alloc (blk_new W _) _, new2 W _ _⟩, below_alloc (below_alloc (Below.refl _ _) _) _⟩
theorem Rep_func {base lx : Nat} {W : World} : ∀ {q : K} {v : Value}, Rep base lx q W v → ∃ (f : Nat) (a c : Array Value), v = .func (.func f) a c
 | .ns, v, h => ⟨_, _, _, h⟩
 | .sn, v, h => ⟨_, _, _, h⟩
 | .ss a, v, ⟨c1, c2, e, _⟩ => ⟨_, _, _, e⟩
 | .ig q, v, ⟨c1, c2, u, e, _⟩ => ⟨_, _, _, e⟩
 | .no a, v, ⟨c1, c2, e, _⟩ => ⟨_, _, _, e⟩
 | .on a, v, ⟨c1, c2, e, _⟩ => ⟨_, _, _, e⟩
 | .ov a n p, v, ⟨c1, c2, c3, c4, e, _⟩ => ⟨_, _, _, e⟩
theorem made_ig (base lx : Nat) (q : K) (u : Value) (W : World) (hu : Rep base lx q W u) : Calls Tryd.prog 77 #[.pointer (some ⟨lx, 0, none⟩), u] W (MadePost base lx (.ig q) W) := by
 obtain ⟨f, ua, uc, hf⟩ := Rep_func hu
 subst hf
 have hmf := make_fn
 go_enter Tryd.func77, Tryd.ntmps77
 go_wp2
 go_ret
 have hb := below_alloc (below_alloc (Below.refl W.heap.size W) (capL lx)) (.cells #[.func (.func f) ua uc] 97 (0, 0))
 exact ⟨_, rfl, ⟨W.heap.size, W.heap.size + 1, _, rfl, blk_alloc (blk_new W _) _, new2 W _ _, Rep_below hu hb⟩, hb⟩
theorem made_ov (base lx : Nat) (a n p : Bs) (W : World) (hB : base ≤ W.heap.size) : Calls Tryd.prog 113 #[.pointer (some ⟨lx, 0, none⟩), .string (sB a), .string (sB n), .string (sB p)] W (MadePost base lx (.ov a n p) W) := by
 have hmf := make_fn
 go_enter Tryd.func113, Tryd.ntmps113
 go_wp2
 go_ret
 exact ⟨_, rfl, ⟨W.heap.size, W.heap.size + 3, W.heap.size + 1, W.heap.size + 2, rfl, blk_alloc (blk_alloc (blk_alloc (blk_new W _) _) _) _, new4 W _ _ _ _, blk_alloc (blk_alloc (new2 W _ _) _) _, blk_alloc (new3 W _ _ _) _, by omega, by omega, by omega⟩, below_alloc (below_alloc (below_alloc (below_alloc (Below.refl _ _) _) _) _) _⟩
end Go.Proofs.YtgnfapnnbcafbaaDoor.UN
end
section
/- The lexer's steps: the next section. Conditions: a text of at most a million bytes; the library's tables as laid. -/
namespace Go.Proofs.YtgnfapnnbcafbaaDoor.UN
open Go Go.RowKit Go.Proofs.YtgnfapnnbcafbaaDoorW.PrintWords Go.Proofs.YtgnfapnnbcafbaaDoorW
set_option linter.unusedVariables false
set_option linter.unusedSimpArgs false
theorem eqT {c : Nat} {k : Nat} (h : c = k) : ((c : Int) == (k : Int)) = true := beq_iff_eq.mpr (by rw [h])
theorem eqF {c : Nat} {k : Nat} (h : c ≠ k) : ((c : Int) == (k : Int)) = false := beq_eq_false_iff_ne.mpr (by omega)
theorem cls (c : Nat) : (((c : Int) == 91) = true ∧ c = 91) ∨ (((c : Int) == 91) = false ∧ ((c : Int) == 35) = true ∧ c ≠ 91 ∧ (c = 35 ∨ c = 59)) ∨ (((c : Int) == 91) = false ∧ ((c : Int) == 35) = false ∧ ((c : Int) == 59) = true ∧ c ≠ 91 ∧ (c = 35 ∨ c = 59)) ∨ (((c : Int) == 91) = false ∧ ((c : Int) == 35) = false ∧ ((c : Int) == 59) = false ∧ c ≠ 91 ∧ ¬ (c = 35 ∨ c = 59)) := by
 by_cases h1 : c = 91
 ·exact .inl ⟨eqT h1, h1⟩
 ·by_cases h2 : c = 35
  ·exact .inr (.inl ⟨eqF h1, eqT h2, h1, .inl h2⟩)
  ·by_cases h3 : c = 59
   ·exact .inr (.inr (.inl ⟨eqF h1, eqF h2, eqT h3, h1, .inr h3⟩))
   ·exact .inr (.inr (.inr ⟨eqF h1, eqF h2, eqF h3, h1, by omega⟩))
theorem rune_le {text : ByteArray} {r c n : Nat} (h : Rune (text.data.toList.drop r) c n) (hr : r ≤ text.size) : r + n ≤ text.size := by
 have hl : text.data.toList.length = text.size := Array.length_toList
 have := h.2.1
 rw [List.length_drop] at this
 omega
theorem drop_end {text : ByteArray} {r : Nat} (h : r = text.size) : text.data.toList.drop r = [] := by
 have hl : text.data.toList.length = text.size := Array.length_toList
 exact List.drop_of_length_le (by omega)
theorem rune_cls {W0 W w' : World} {g r : Nat} {text : ByteArray} {e : Ending} (h : RunePost W0 W g text r e w') : W.grownBy w' (some g) ∧
    ((r = text.size ∧ e = .returned (.tuple #[.int .i32 0, .int .i64 0, .iface 115 (.agg #[])]) ∧ BufAt w' g text r r) ∨
     ∃ c n : Nat, r < text.size ∧ Rune (text.data.toList.drop r) c n ∧ e = .returned (.tuple #[.int .i32 c, .int .i64 n, .nilIface]) ∧ BufAt w' g text (r + n) r ∧
      ((((c : Int) == 91) = true ∧ c = 91) ∨ (((c : Int) == 91) = false ∧ ((c : Int) == 35) = true ∧ c ≠ 91 ∧ (c = 35 ∨ c = 59)) ∨ (((c : Int) == 91) = false ∧ ((c : Int) == 35) = false ∧ ((c : Int) == 59) = true ∧ c ≠ 91 ∧ (c = 35 ∨ c = 59)) ∨ (((c : Int) == 91) = false ∧ ((c : Int) == 35) = false ∧ ((c : Int) == 59) = false ∧ c ≠ 91 ∧ ¬ (c = 35 ∨ c = 59)))) := by
  obtain ⟨_, h2, h3⟩ := h
  refine ⟨h2, h3.imp id ?_⟩
  rintro ⟨h4, c, n, h5, h6, h7⟩
  exact ⟨c, n, h4, h5, h6, h7, cls c⟩
set_option maxHeartbeats 4000000 in
set_option maxRecDepth 100000 in
theorem step_ns (W0 W : World) (lx g r : Nat) (text : ByteArray) (D : List Ent) (hT : UTab W0) (hRC : RuneC text) (hL : LexIs W0 W lx g text r D) (hsz : text.size ≤ 1000000) (hr : r ≤ text.size) :
  Calls Tryd.prog 62 #[.pointer (some ⟨lx, 0, none⟩)] W (StepPost W0 lx g text D .ns (text.data.toList.drop r)) := by
 obtain ⟨vd, hlx, -⟩ := hL.ob
 obtain ⟨l, hbuf⟩ := hL.buf
 have l0 : W.cell? ⟨lx, 0, none⟩ = some (.pointer (some ⟨g, 0, none⟩)) := (blk_cell hlx 0).trans rfl
 have RC := Aside0.mk (hRC W0 g r l W hT hL.bel hL.gb hbuf hsz)
 have HL := Aside0.mk hL
 have HR := Aside0.mk hr
 have hmf := make_fn
 clear hL hbuf hlx hT hRC hsz hr
 go_enter Tryd.func62, Tryd.ntmps62
 go_wp2_with (first
  | (go_at_call 73; refine RC.out.mono ?_; rintro e w2 hpost; obtain ⟨hg2, hor⟩ := rune_cls hpost; have HG2 := Aside0.mk hg2; clear hpost hg2; rcases hor with ⟨hre, rfl, hbuf⟩ | ⟨c, n, hlt, hrune, rfl, hbuf, (⟨h1, h2⟩ | ⟨h1, h2, h3, h4⟩ | ⟨h1, h2, h3, h4, h5⟩ | ⟨h1, h2, h3, h4, h5⟩)⟩)
  | (go_at_call 74; refine (eof_eof _).mono ?_; rintro e w3 ⟨rfl, hb3⟩)
  | (go_at_call 77; refine (made_ig W0.heap.size lx .ns _ _ rfl).mono ?_; rintro e w3 ⟨v, rfl, hR3, hb3⟩)
  | go_in)
 all_goals go_ret2
 ·exact StepPost.done (.inl ⟨drop_end hre, rfl⟩) rfl ((HL.out.grown HG2.out ⟨_, hbuf⟩).below hb3)
 ·exact StepPost.go (q' := .sn) (.inr ⟨c, n, hrune, by unfold nsOut; rw [if_pos h2, List.drop_drop]⟩) rfl (HL.out.grown HG2.out ⟨_, hbuf⟩) rfl (rune_le hrune HR.out)
 ·exact StepPost.go (q' := .ig .ns) (.inr ⟨c, n, hrune, by unfold nsOut; rw [if_neg h3, if_pos h4, List.drop_drop]⟩) hR3 ((HL.out.grown HG2.out ⟨_, hbuf⟩).below hb3) rfl (rune_le hrune HR.out)
 ·exact StepPost.go (q' := .ig .ns) (.inr ⟨c, n, hrune, by unfold nsOut; rw [if_neg h4, if_pos h5, List.drop_drop]⟩) hR3 ((HL.out.grown HG2.out ⟨_, hbuf⟩).below hb3) rfl (rune_le hrune HR.out)
 ·exact StepPost.go (q' := .ns) (.inr ⟨c, n, hrune, by unfold nsOut; rw [if_neg h4, if_neg h5, List.drop_drop]⟩) rfl (HL.out.grown HG2.out ⟨_, hbuf⟩) rfl (rune_le hrune HR.out)
end Go.Proofs.YtgnfapnnbcafbaaDoor.UN
end
section
/- White space as the package has it. No condition. -/
namespace Go.Proofs.YtgnfapnnbcafbaaDoor.UN
open Go Go.RowKit Go.Proofs.YtgnfapnnbcafbaaDoorW.PrintWords Go.Proofs.YtgnfapnnbcafbaaDoorW
set_option linter.unusedVariables false
set_option linter.unusedSimpArgs false
set_option maxHeartbeats 4000000 in
set_option maxRecDepth 100000 in
theorem space_call (c : Nat) (W : World) : Calls Tryd.prog 101 #[.int .i32 c] W fun e w' => e = .returned (.bool (spR c)) ∧ w' = W := by
  go_enter Tryd.func101, Tryd.ntmps101
  go_wp2
  all_goals go_ret
  all_goals refine ⟨?_, rfl⟩
  all_goals refine congrArg (fun b => Ending.returned (Value.bool b)) ?_
  all_goals simp only [beq_iff_eq, Bool.not_eq_true, beq_eq_false_iff_ne, ne_eq, decide_eq_true_eq, decide_eq_false_iff_not] at *
  all_goals first
    | exact (decide_eq_true (by omega)).symm
    | exact (decide_eq_false (by omega)).symm
    | (by_cases h9 : (c : Int) ≤ 8202
       · rw [decide_eq_true h9]
         exact (decide_eq_true (by omega)).symm
       · rw [decide_eq_false h9]
         exact (decide_eq_false (by omega)).symm)
end Go.Proofs.YtgnfapnnbcafbaaDoor.UN
end
section
/- The lexer's steps: a section, an option or a remark ahead. Conditions: a text of at most a million bytes; the library's tables as laid. -/
namespace Go.Proofs.YtgnfapnnbcafbaaDoor.UN
open Go Go.RowKit Go.Proofs.YtgnfapnnbcafbaaDoorW.PrintWords Go.Proofs.YtgnfapnnbcafbaaDoorW
set_option linter.unusedVariables false
set_option linter.unusedSimpArgs false
theorem rune_sp {W0 W w' : World} {g r : Nat} {text : ByteArray} {e : Ending} (h : RunePost W0 W g text r e w') : W.grownBy w' (some g) ∧
    ((r = text.size ∧ e = .returned (.tuple #[.int .i32 0, .int .i64 0, .iface 115 (.agg #[])]) ∧ BufAt w' g text r r) ∨
     ∃ (c n : Nat) (sp : Bool), r < text.size ∧ Rune (text.data.toList.drop r) c n ∧ e = .returned (.tuple #[.int .i32 c, .int .i64 n, .nilIface]) ∧ BufAt w' g text (r + n) r ∧ spR c = sp ∧
      (sp = true ∨ (sp = false ∧ ((((c : Int) == 91) = true ∧ c = 91) ∨ (((c : Int) == 91) = false ∧ ((c : Int) == 35) = true ∧ c ≠ 91 ∧ (c = 35 ∨ c = 59)) ∨ (((c : Int) == 91) = false ∧ ((c : Int) == 35) = false ∧ ((c : Int) == 59) = true ∧ c ≠ 91 ∧ (c = 35 ∨ c = 59)) ∨ (((c : Int) == 91) = false ∧ ((c : Int) == 35) = false ∧ ((c : Int) == 59) = false ∧ c ≠ 91 ∧ ¬ (c = 35 ∨ c = 59)))))) := by
  obtain ⟨_, h2, h3⟩ := h
  refine ⟨h2, h3.imp id ?_⟩
  rintro ⟨h4, c, n, h5, h6, h7⟩
  refine ⟨c, n, spR c, h4, h5, h6, h7, rfl, ?_⟩
  cases spR c
  · exact .inr ⟨rfl, cls c⟩
  · exact .inl rfl
set_option maxHeartbeats 4000000 in
set_option maxRecDepth 100000 in
theorem step_no (W0 W : World) (lx g r : Nat) (a : Bs) (c1 c2 : Nat) (text : ByteArray) (D : List Ent) (hT : UTab W0) (hRC : RuneC text) (hL : LexIs W0 W lx g text r D) (hsz : text.size ≤ 1000000) (hr : r ≤ text.size) (h1 : W.heap[c1]? = some (capL lx)) (h2 : W.heap[c2]? = some (capS a)) :
  Calls Tryd.prog 100 #[.pointer (some ⟨c1, 0, none⟩), .pointer (some ⟨c2, 0, none⟩)] W (StepPost W0 lx g text D (.no a) (text.data.toList.drop r)) := by
 obtain ⟨vd, hlx, -⟩ := hL.ob
 obtain ⟨l, hbuf⟩ := hL.buf
 have HBF := Aside0.mk hbuf
 have l0 : W.cell? ⟨lx, 0, none⟩ = some (.pointer (some ⟨g, 0, none⟩)) := (blk_cell hlx 0).trans rfl
 have l1 : W.cell? ⟨c1, 0, none⟩ = some (.pointer (some ⟨lx, 0, none⟩)) := (blk_cell h1 0).trans rfl
 have HC1 := Aside0.mk h1
 have HC2 := Aside0.mk h2
 have RC := Aside0.mk (hRC W0 g r l W hT hL.bel hL.gb hbuf hsz)
 have HL := Aside0.mk hL
 have HR := Aside0.mk hr
 have HLX := Aside0.mk hlx
 have N1 := Aside0.mk (show ∀ (W' : World), W.grownBy W' (some g) → W'.heap[c1]? = some (capL lx) ∧ W'.heap[c2]? = some (capS a) ∧ W'.heap[lx]? = some (lexObj g vd .nilIface ⟨#[]⟩) from fun W' hg => by
  obtain ⟨w, d, hb, _⟩ := hbuf
  exact ⟨blk_grown h1 hg (by intro e; cases e; rw [h1] at hb; simp [capL, bufObj] at hb), blk_grown h2 hg (by intro e; cases e; rw [h2] at hb; simp [capS, bufObj] at hb), blk_grown hlx hg (by intro e; cases e; rw [hlx] at hb; simp [lexObj, bufObj] at hb)⟩)
 have hmf := make_fn
 have tk0 : True := trivial
 clear hL hbuf hlx hT hRC hsz hr h1 h2
 go_enter Tryd.func100, Tryd.ntmps100
 go_wp2_with (first
  | (go_at_call 73; refine RC.out.mono ?_; rintro e w2 hpost; obtain ⟨hg2, hor⟩ := rune_sp hpost; have HG2 := Aside0.mk hg2; obtain ⟨k1, k2, k3⟩ := N1.out w2 hg2; have y0 : w2.cell? ⟨lx, 0, none⟩ = some (.pointer (some ⟨g, 0, none⟩)) := (blk_cell k3 0).trans rfl; have y1 : w2.cell? ⟨c1, 0, none⟩ = some (.pointer (some ⟨lx, 0, none⟩)) := (blk_cell k1 0).trans rfl; have y2 : w2.cell? ⟨c2, 0, none⟩ = some (.string (sB a)) := (blk_cell k2 0).trans rfl; have K1 := Aside0.mk k1; have K2 := Aside0.mk k2; clear hpost hg2 k1 k2 k3; rcases hor with ⟨hre, rfl, hbuf⟩ | ⟨c, n, sp, hlt, hrune, rfl, hbuf, hsp, (hs1 | ⟨hs1, (⟨h1, h2⟩ | ⟨h1, h2, h3, h4⟩ | ⟨h1, h2, h3, h4, h5⟩ | ⟨h1, h2, h3, h4, h5⟩)⟩)⟩)
  | (go_at_call 74; refine (eof_eof _).mono ?_; rintro e w3 ⟨rfl, hb3⟩)
  | (go_at_call 101; refine (space_call _ _).mono ?_; rintro e w3 ⟨rfl, e3⟩; have e3' := e3.symm; subst e3'; rw [hsp, hs1])
  | (go_at_call 102; refine (unread_call g text (r + n) r _ hbuf (by omega)).mono ?_; rintro e w3 ⟨rfl, hbuf3, hg3⟩; obtain ⟨k1, k2, k3⟩ := N1.out w3 (HG2.out.trans hg3); have z1 : w3.cell? ⟨c1, 0, none⟩ = some (.pointer (some ⟨lx, 0, none⟩)) := (blk_cell k1 0).trans rfl; have z2 : w3.cell? ⟨c2, 0, none⟩ = some (.string (sB a)) := (blk_cell k2 0).trans rfl; clear k1 k2 k3)
  | (go_at_call 95; refine (made_no W0.heap.size lx a _).mono ?_; rintro e w3 ⟨v, rfl, hR3, hb3⟩)
  | (go_at_call 77; refine (made_ig W0.heap.size lx (.no a) _ _ hR3).mono ?_; rintro e w4 ⟨v4, rfl, hR4, hb4⟩)
  | (go_at_call 103; refine (made_on W0.heap.size lx a _).mono ?_; rintro e w4 ⟨v4, rfl, hR4, hb4⟩)
  | go_in)
 ·go_ret2
  exact StepPost.done (.inl ⟨drop_end hre, rfl⟩) rfl ((HL.out.grown HG2.out ⟨_, hbuf⟩).below hb3)
 ·go_ret2
  exact StepPost.go (q' := .no a) (.inr ⟨c, n, hrune, by unfold noOut; rw [hsp, if_pos hs1, List.drop_drop]⟩) hR3 ((HL.out.grown HG2.out ⟨_, hbuf⟩).below hb3) rfl (rune_le hrune HR.out)
 ·go_ret2
  exact StepPost.go (q' := .sn) (.inr ⟨c, n, hrune, by unfold noOut; rw [hsp, if_neg (by rw [hs1]; decide), if_pos h2, List.drop_drop]⟩) rfl (HL.out.grown HG2.out ⟨_, hbuf⟩) rfl (rune_le hrune HR.out)
 ·have KA : Aside0 (∀ X, Below w2.heap.size w2 X → (Below w2.heap.size w2 X ∧ X.cell? ⟨c1, 0, none⟩ = some (.pointer (some ⟨lx, 0, none⟩)) ∧ X.cell? ⟨c2, 0, none⟩ = some (.string (sB a)))) := ⟨fun X hX => ⟨hX, pw_cell_below hX y1, pw_cell_below hX y2⟩⟩
  go_region_held3 (fun X => Below w2.heap.size w2 X ∧ X.cell? ⟨c1, 0, none⟩ = some (.pointer (some ⟨lx, 0, none⟩)) ∧ X.cell? ⟨c2, 0, none⟩ = some (.string (sB a)))
   (first | exact KA.out _ (below_drew (Below.refl _ _)) | (go_split_ands; exact KA.out _ (keepS (by assumption) hb')))
   (first
    | (go_at_call 95; refine (made_no W0.heap.size lx a _).mono ?_; rintro e w' ⟨v, rfl, hR3, hb'⟩)
    | (go_at_call 77; refine (made_ig W0.heap.size lx (.no a) _ _ hR3).mono ?_; rintro e w' ⟨v4, rfl, hR4, hb'⟩))
  go_wp2
  go_ret2
  exact StepPost.go (q' := .ig (.no a)) (.inr ⟨c, n, hrune, by unfold noOut; rw [hsp, if_neg (by rw [hs1]; decide), if_neg h3, if_pos h4, List.drop_drop]⟩) hR4 ((HL.out.grown HG2.out ⟨_, hbuf⟩).below (‹Below w2.heap.size w2 w' ∧ _›).1) rfl (rune_le hrune HR.out)
 ·have KA : Aside0 (∀ X, Below w2.heap.size w2 X → (Below w2.heap.size w2 X ∧ X.cell? ⟨c1, 0, none⟩ = some (.pointer (some ⟨lx, 0, none⟩)) ∧ X.cell? ⟨c2, 0, none⟩ = some (.string (sB a)))) := ⟨fun X hX => ⟨hX, pw_cell_below hX y1, pw_cell_below hX y2⟩⟩
  go_region_held3 (fun X => Below w2.heap.size w2 X ∧ X.cell? ⟨c1, 0, none⟩ = some (.pointer (some ⟨lx, 0, none⟩)) ∧ X.cell? ⟨c2, 0, none⟩ = some (.string (sB a)))
   (first | exact KA.out _ (below_drew (Below.refl _ _)) | (go_split_ands; exact KA.out _ (keepS (by assumption) hb')))
   (first
    | (go_at_call 95; refine (made_no W0.heap.size lx a _).mono ?_; rintro e w' ⟨v, rfl, hR3, hb'⟩)
    | (go_at_call 77; refine (made_ig W0.heap.size lx (.no a) _ _ hR3).mono ?_; rintro e w' ⟨v4, rfl, hR4, hb'⟩))
  go_wp2
  go_ret2
  exact StepPost.go (q' := .ig (.no a)) (.inr ⟨c, n, hrune, by unfold noOut; rw [hsp, if_neg (by rw [hs1]; decide), if_neg h4, if_pos h5, List.drop_drop]⟩) hR4 ((HL.out.grown HG2.out ⟨_, hbuf⟩).below (‹Below w2.heap.size w2 w' ∧ _›).1) rfl (rune_le hrune HR.out)
 ·go_ret2
  exact StepPost.go (q' := .on a) (.inr ⟨c, n, hrune, by unfold noOut; rw [hsp, if_neg (by rw [hs1]; decide), if_neg h4, if_neg h5]⟩) hR4 ((HL.out.grown (HG2.out.trans hg3) ⟨_, hbuf3⟩).below hb4) rfl HR.out
end Go.Proofs.YtgnfapnnbcafbaaDoor.UN
end
section
/- The lexer's steps: a section's name. Conditions: a text of at most a million bytes. -/
namespace Go.Proofs.YtgnfapnnbcafbaaDoor.UN
open Go Go.RowKit Go.Proofs.YtgnfapnnbcafbaaDoorW.PrintWords Go.Proofs.YtgnfapnnbcafbaaDoorW
set_option linter.unusedVariables false
set_option linter.unusedSimpArgs false
theorem str_nums (l : Bs) : strOfNums (numsOf l) = sB l := by
 unfold strOfNums numsOf sB
 congr 2
 rw [List.map_map]
 refine (List.map_congr_left fun b _ => ?_).trans (List.map_id l)
 simp
theorem conv_line (W : World) (b n c : Nat) (l : Bs) (hl : l.length = n) (h : BAt W b 0 l) : (convert 37 9 (.slice (some ⟨b, 0, none⟩) n c)).run Tryd.prog W = .ok (.string (sB l)) W := by
 have := run_convert_bytes_arg (P := Tryd.prog) W 37 5 Tryd.underlying37 Tryd.underlying5 b 0 n c (numsOf l) (by simp [numsOf, hl]) (fun i hi => by rw [numsOf_at]; exact h i (by omega)) 9 Tryd.underlying9
 rw [str_nums] at this
 exact this
theorem err_new (s : ByteArray) (W : World) : Calls Tryd.prog 58 #[.string s] W fun e w' => (∃ t u, e = .returned (.iface t u)) ∧ Below W.heap.size W w' := by
 go_enter Tryd.func58, Tryd.ntmps58
 go_wp2
 go_ret
 exact ⟨⟨_, _, rfl⟩, below_alloc (Below.refl _ _) _⟩
set_option maxHeartbeats 4000000 in
set_option maxRecDepth 100000 in
theorem step_sn (W0 W : World) (lx g r : Nat) (text : ByteArray) (D : List Ent) (hL : LexIs W0 W lx g text r D) (hsz : text.size ≤ 1000000) (hr : r ≤ text.size) :
  Calls Tryd.prog 75 #[.pointer (some ⟨lx, 0, none⟩)] W (StepPost W0 lx g text D .sn (text.data.toList.drop r)) := by
 obtain ⟨vd, hlx, -⟩ := hL.ob
 obtain ⟨l, hbuf⟩ := hL.buf
 have l0 : W.cell? ⟨lx, 0, none⟩ = some (.pointer (some ⟨g, 0, none⟩)) := (blk_cell hlx 0).trans rfl
 have RB : Aside0 (Calls Tryd.prog 85 #[.pointer (some ⟨g, 0, none⟩), .int .u8 93] W (fun e w' => W.grownBy w' (some g) ∧ ((∃ (a tl : Bs) (bk cap : Nat), cut (· == 93) (text.data.toList.drop r) = some (a, 93, tl) ∧ e = .returned (.tuple #[.slice (some ⟨bk, 0, none⟩) (a.length + 1) cap, .nilIface]) ∧ a.length + 1 ≤ cap ∧ a.length + 1 ≤ 1000000 ∧ BAt w' bk 0 (a ++ [93]) ∧ BufAt w' g text (r + (a.length + 1)) l ∧ r + (a.length + 1) ≤ text.size ∧ (convert 37 9 (.slice (some ⟨bk, 0, none⟩) a.length cap)).run Tryd.prog w' = .ok (.string (sB a)) w') ∨
   (∃ (bk cap r' n : Nat), cut (· == 93) (text.data.toList.drop r) = none ∧ e = .returned (.tuple #[.slice (some ⟨bk, 0, none⟩) n cap, .iface 115 (.agg #[])]) ∧ BufAt w' g text r' l)))) := ⟨by
  refine (read_bytes g text r l 93 W hbuf hsz).mono ?_
  rintro e w2 ⟨bk, cap, line, er, rfl, hbk, hcap, hbat, hbuf, hg, hle, hor⟩
  refine ⟨hg, ?_⟩
  rcases hor with ⟨a', tl', hc', hline, rfl⟩ | ⟨hc', hline, rfl⟩
  ·subst hline
   rw [List.length_append, List.length_singleton] at hcap hbuf hle ⊢
   exact .inl ⟨a', tl', bk, cap, hc', rfl, hcap, by omega, hbat, hbuf, hle, conv_line _ _ _ _ _ rfl (bat_pre hbat)⟩
  ·exact .inr ⟨bk, cap, _, _, hc', rfl, hbuf⟩⟩
 have HL := Aside0.mk hL
 have hmf := make_fn
 clear hL hbuf hlx hsz hr
 go_enter Tryd.func75, Tryd.ntmps75
 go_wp2_with (first
  | (go_at_call 85; refine RB.out.mono ?_; rintro e w2 ⟨hg2, hor⟩; have HG2 := Aside0.mk hg2; clear hg2; rcases hor with ⟨a, tl, bk, cap, hc, rfl, hcap, hmax, hbat, hbuf, hle, hcv⟩ | ⟨bk, cap, r', n, hc, rfl, hbuf⟩)
  | (go_at_call 86; refine (made_ss W0.heap.size lx a _).mono ?_; rintro e w3 ⟨v, rfl, hR3, hb3⟩)
  | (go_at_call 58; refine (err_new _ _).mono ?_; rintro e w3 ⟨⟨et, eu, rfl⟩, hb3⟩)
  | go_in)
 ·go_ret2
  refine StepPost.go (q' := .ss a) (s' := tl) (r' := r + (a.length + 1)) ?_ hR3 ((HL.out.grown HG2.out ⟨_, hbuf⟩).below hb3) ?_ hle
  ·show Out.go (.ss a) tl [] = snOut _
   unfold snOut
   rw [hc]
  ·rw [← List.drop_drop, (cut_some _ _ _ _ _ hc).1]
   simp
 ·go_ret2
  exact StepPost.done (er := true) (by show Out.done true = snOut _; unfold snOut; rw [hc]) ⟨et, eu, rfl⟩ ((HL.out.grown HG2.out ⟨_, hbuf⟩).below hb3)
end Go.Proofs.YtgnfapnnbcafbaaDoor.UN
end
section
/- The lexer's steps: behind a section's name. Conditions: a text of at most a million bytes; bytes.TrimSpace's contract at the line. -/
namespace Go.Proofs.YtgnfapnnbcafbaaDoor.UN
open Go Go.RowKit Go.Proofs.YtgnfapnnbcafbaaDoorW.PrintWords Go.Proofs.YtgnfapnnbcafbaaDoorW Go.Proofs.YtgnfapnnbcafbaaDoorW.PrintLast
set_option linter.unusedVariables false
set_option linter.unusedSimpArgs false
theorem infoLd : (Tryd.prog.info? 76).map (fun i => (i.zero, i.size, i.bytes)) = some (some (.pointer none), 1, 8) := by kernel_rfl
section
variable {ops : Array Oper} {o : Oper} {a : Act} {Q : Exit → Act → World → Prop} {Kc : Act → World → Prop}
theorem ld_append {w0 W : World} (base : Nat) (hw : Region.wanted o (yielded ops a.tmps) = true) (s x : Operand) (ho : o.op = .call { callee := .builtin .append, args := #[s, x], argTypes := #[73, 73] })
  (v : Value) (xs : List Nat) (p : Nat) (hs : a.eval s = v) (hx : a.eval x = .slice (some ⟨W.heap.size, 0, none⟩) 1 1) (HO : kA.R 76 W base (fun _ => True) v xs) (HB : Below base w0 W) (hbase : base ≤ W.heap.size) (hl : xs.length ≤ 10000000)
  (h : ∀ v1 w1, kA.R 76 w1 base (fun _ => True) v1 (xs ++ [p]) → Below base w0 w1 → W.grownBy w1 v.ownBlock → Kc (a.put o.dst v1) w1) :
  if Region.wanted o (yielded ops a.tmps) = true then Oper.wp Tryd.prog o a ((W.alloc (.cells #[.pointer (some ⟨p, 0, none⟩)] 76)).drew) Kc Q else Kc (a.put o.dst undef) ((W.alloc (.cells #[.pointer (some ⟨p, 0, none⟩)] 76)).drew) :=
 Kd.R_append_step kA (w0 := w0) (W := W.drew) base hw s x 73 76 (.pointer none) 8 ho Tryd.underlying73 infoLd rfl (by decide) (by omega) v xs p [.pointer (some ⟨p, 0, none⟩)] (fun _ => True) (fun _ => False) hs hx rfl (fun _ hk => hk.elim) (fun _ _ => trivial) (Kd.R_drew HO) (below_drew HB) hbase (by omega) (fun v1 w1 h1 h2 h3 _ => h v1 w1 h1 h2 ((grown_of_below (below_drew (Below.refl W.heap.size W)) v.ownBlock).trans h3))
end
structure CapIs (W : World) (lx g : Nat) (c1 c2 : Nat) (a : Bs) (vd : Value) : Prop where
 h1 : W.heap[c1]? = some (capL lx)
 h2 : W.heap[c2]? = some (capS a)
 hl : W.heap[lx]? = some (lexObj g vd .nilIface ⟨#[]⟩)
theorem CapIs.below {W w' : World} {lx g c1 c2 : Nat} {a : Bs} {vd : Value} (h : CapIs W lx g c1 c2 a vd) (hb : Below W.heap.size W w') : CapIs w' lx g c1 c2 a vd := ⟨blk_below h.h1 hb, blk_below h.h2 hb, blk_below h.hl hb⟩
theorem CapIs.grown {W w' : World} {lx g c1 c2 : Nat} {a : Bs} {vd : Value} (h : CapIs W lx g c1 c2 a vd) (hg : W.grownBy w' (some g)) {text : ByteArray} {r w l : Int} {d : Bool} (hb : W.heap[g]? = some (bufObj text r w l d)) : CapIs w' lx g c1 c2 a vd :=
 ⟨blk_grown h.h1 hg (by intro e; cases e; rw [h.h1] at hb; simp [capL, bufObj] at hb), blk_grown h.h2 hg (by intro e; cases e; rw [h.h2] at hb; simp [capS, bufObj] at hb), blk_grown h.hl hg (by intro e; cases e; rw [h.hl] at hb; simp [lexObj, bufObj] at hb)⟩
theorem CapIs.cells {W : World} {lx g c1 c2 : Nat} {a : Bs} {vd : Value} (h : CapIs W lx g c1 c2 a vd) : W.cell? ⟨c1, 0, none⟩ = some (.pointer (some ⟨lx, 0, none⟩)) ∧ W.cell? ⟨c2, 0, none⟩ = some (.string (sB a)) ∧ W.cell? ⟨lx, 1, none⟩ = some vd :=
 ⟨(blk_cell h.h1 0).trans rfl, (blk_cell h.h2 0).trans rfl, (blk_cell h.hl 1).trans rfl⟩
theorem CapIs.push {w3 W w11 : World} {lx g c1 c2 base : Nat} {a : Bs} {vd : Value} {xs : List Nat} (h : CapIs w3 lx g c1 c2 a vd) (hR : kA.R 76 w3 base (fun _ => True) vd xs) (hb : Below w3.heap.size w3 W) (hg : W.grownBy w11 vd.ownBlock) : CapIs w11 lx g c1 c2 a vd := by
 have hR' := Kd.R_below hR hb
 have h' := h.below hb
 exact ⟨blk_grown h'.h1 hg (Kd.R_ne hR' h'.h1 (by decide)), blk_grown h'.h2 hg (Kd.R_ne hR' h'.h2 (by decide)), blk_grown h'.hl hg (Kd.R_ne hR' h'.hl (by decide))⟩
theorem EntAt_move {W w' : World} {e : Ent} (h : EntAt W e) (hm : ∀ (k : Nat) (cs : Array Value) (t : TypeId), W.heap[k]? = some (.cells cs t (0, 0)) → t ∈ [80, 49, 84, 85] → w'.heap[k]? = some (.cells cs t (0, 0))) : EntAt w' e := by
 obtain ⟨ld, b, x, y⟩ := e
 cases ld with
 | opt s n v => exact ⟨hm _ _ _ h.1 (by simp), hm _ _ _ h.2 (by simp)⟩
 | sec a => exact ⟨hm _ _ _ h.1 (by simp), hm _ _ _ h.2.1 (by simp), hm _ _ _ h.2.2 (by simp)⟩
theorem LexIs.push {W0 w3 W w11 : World} {lx g r : Nat} {text : ByteArray} {D : List Ent} {vd v1 : Value} {e : Ent} (hL : LexIs W0 w3 lx g text r D) (hl : w3.heap[lx]? = some (lexObj g vd .nilIface ⟨#[]⟩)) (hR : kA.R 76 w3 W0.heap.size (fun _ => True) vd (D.map (·.b))) (hb : Below w3.heap.size w3 W) (hg : W.grownBy w11 vd.ownBlock)
  (ho : kA.R 76 w11 W0.heap.size (fun _ => True) v1 (D.map (·.b) ++ [e.b])) (hB : Below W0.heap.size W0 w11) (hE : EntAt W e) (h1 : W0.heap.size ≤ e.b) (h2 : W0.heap.size ≤ e.x) (h3 : w3.heap.size ≤ e.y) (h4 : e.y < W.heap.size) :
  LexIs W0 (w11.setCell ⟨lx, 1, none⟩ v1) lx g text r (D ++ [e]) := by
 have hR' := Kd.R_below hR hb
 have hl' := blk_below hl hb
 have hl11 := blk_grown hl' hg (Kd.R_ne hR' hl' (by decide))
 have hlf := blk_put hl11 1 v1 (cs' := #[.pointer (some ⟨g, 0, none⟩), v1, .nilIface, .string ⟨#[]⟩]) rfl
 have hsz : w3.heap.size ≤ w11.heap.size := Nat.le_trans hb.size hg.size
 have hszf : (w11.setCell ⟨lx, 1, none⟩ v1).heap.size = w11.heap.size := by simp [World.setCell]
 have hW0 : W0.heap.size ≤ w3.heap.size := hL.bel.size
 have mv : ∀ (k : Nat) (cs : Array Value) (t : TypeId), W.heap[k]? = some (.cells cs t (0, 0)) → t ≠ 76 → t ≠ 75 → (w11.setCell ⟨lx, 1, none⟩ v1).heap[k]? = some (.cells cs t (0, 0)) := fun k cs t hk ht ht2 => by
  have h5 := blk_grown hk hg (Kd.R_ne hR' hk (Ne.symm ht))
  exact blk_far h5 (p := ⟨lx, 1, none⟩) (by
   intro e
   have e : k = lx := e
   rw [e, hl11] at h5
   unfold lexObj at h5
   injection h5 with h5
   injection h5 with _ h5
   exact ht2 h5.symm) v1
 have mvE : ∀ (k : Nat) (cs : Array Value) (t : TypeId), W.heap[k]? = some (.cells cs t (0, 0)) → t ∈ [80, 49, 84, 85] → (w11.setCell ⟨lx, 1, none⟩ v1).heap[k]? = some (.cells cs t (0, 0)) := fun k cs t hk ht => mv k cs t hk (by rintro rfl; revert ht; decide) (by rintro rfl; revert ht; decide)
 refine ⟨below_set hB hL.lxb, hL.lxb, hL.gb, ⟨v1, hlf, ?_⟩, fun f hf => ?_, ?_, ?_⟩
 ·rw [List.map_append]
  exact Kd.R_set ho hl11 (by decide) 1 v1
 ·rcases List.mem_append.1 hf with hf | hf
  ·obtain ⟨e1, e2, e3, e4, e5⟩ := hL.dat f hf
   exact ⟨EntAt_move (EntAt_stay e1 (stay_below hb)) mvE, e2, e3, e4, by omega⟩
  ·rw [List.mem_singleton.1 hf]
   have := hg.size
   exact ⟨EntAt_move hE mvE, h1, h2, by omega, by omega⟩
 ·rw [List.map_append, List.nodup_append]
  refine ⟨hL.nod, by simp, fun x hx y hy => ?_⟩
  obtain ⟨f, hf, rfl⟩ := List.mem_map.1 hx
  simp only [List.map_cons, List.map_nil, List.mem_singleton] at hy
  have := (hL.dat f hf).2.2.2.2
  omega
 ·obtain ⟨l, w, d, hw, hw2⟩ := hL.buf
  exact ⟨l, w, d, mv _ _ _ (blk_below hw hb) (by decide) (by decide), hw2⟩
set_option maxHeartbeats 4000000 in
set_option maxRecDepth 100000 in
theorem step_ss (W0 W : World) (lx g r : Nat) (a : Bs) (c1 c2 : Nat) (text : ByteArray) (D : List Ent) (hT : UTab W0) (hTC : TrimC (eol (text.data.toList.drop r)).1) (hL : LexIs W0 W lx g text r D) (hsz : text.size ≤ 1000000) (hr : r ≤ text.size) (hD : D.length ≤ 10000000) (h1 : W.heap[c1]? = some (capL lx)) (h2 : W.heap[c2]? = some (capS a)) :
  Calls Tryd.prog 93 #[.pointer (some ⟨c1, 0, none⟩), .pointer (some ⟨c2, 0, none⟩)] W (StepPost W0 lx g text D (.ss a) (text.data.toList.drop r)) := by
 obtain ⟨vd, hlx, hrow⟩ := hL.ob
 obtain ⟨l, hbuf⟩ := hL.buf
 have l1 : W.cell? ⟨c1, 0, none⟩ = some (.pointer (some ⟨lx, 0, none⟩)) := (blk_cell h1 0).trans rfl
 have EOL := Aside0.mk (to_eol lx g vd .nilIface ⟨#[]⟩ text r l W hlx hbuf hsz)
 have HCP := Aside0.mk (CapIs.mk h1 h2 hlx)
 have HBF := Aside0.mk hbuf
 have HL := Aside0.mk hL
 have HR := Aside0.mk hr
 have HT := Aside0.mk hT
 have HTC := Aside0.mk hTC
 have HSZ := Aside0.mk hsz
 have HD := Aside0.mk hD
 have HROW := Aside0.mk hrow
 have hmf := make_fn
 clear hL hbuf hlx hT hTC hsz hr h1 h2 hD hrow
 go_enter Tryd.func93, Tryd.ntmps93
 go_wp2_with (first
  | (go_at_call 88; refine EOL.out.mono ?_; rintro e w2 ⟨bk, cap, r', rfl, hcap, hbat, hbuf, hdr, hrr, hrs, hg2, hbk⟩; have HG2 := Aside0.mk hg2; have HCAP := Aside0.mk hcap; have HBAT := Aside0.mk hbat; have HBF2 := Aside0.mk hbuf; have HDR := Aside0.mk hdr; have HRS := Aside0.mk hrs; have HCP2 : Aside0 (CapIs w2 lx g c1 c2 a vd) := ⟨by obtain ⟨w, d, hb, _⟩ := HBF.out; exact HCP.out.grown hg2 hb⟩; clear hg2 hcap hbat hbuf hdr hrs)
  | (go_at_call 94; refine (HTC.out bk _ cap _ (utab_below HT.out (HL.out.grown HG2.out ⟨_, HBF2.out⟩).bel) rfl HCAP.out ?hsz HBAT.out).mono ?_; (case hsz => have hE := eol_len (text.data.toList.drop r); have hl : text.data.toList.length = text.size := Array.length_toList; have := HSZ.out; rw [List.length_drop] at hE; omega); rintro e w3 ⟨A, m, cp, rfl, hb3, hm1, hm2⟩; have HB3 := Aside0.mk hb3; have HBL : Aside0 (Blank (eol (text.data.toList.drop r)).1 (decide (m = 0))) := ⟨⟨fun h => by have := hm1 h; rw [Bool.eq_iff_iff, decide_eq_true_iff]; exact this, fun h => decide_eq_true (hm2 h)⟩⟩; have HCP3 := Aside0.mk (HCP2.out.below hb3); obtain ⟨k1, k2, k3⟩ := (HCP2.out.below hb3).cells; clear hb3 hm1 hm2; rcases Nat.eq_zero_or_pos m with hm | hm)
  | (go_at_call 58; refine (err_new _ _).mono ?_; rintro e w4 ⟨⟨et, eu, rfl⟩, hb4⟩)
  | (fail))
 ·have HL3 := Aside0.mk ((HL.out.grown HG2.out ⟨_, HBF2.out⟩).below HB3.out)
  have HROW3 : Aside0 (kA.R 76 w3 W0.heap.size (fun _ => True) vd (D.map (·.b))) := ⟨by
   obtain ⟨vd', hl', hR'⟩ := HL3.out.ob
   have e := HCP3.out.hl
   rw [hl'] at e
   have : vd' = vd := by simpa [lexObj] using e
   rw [← this]
   exact hR'⟩
  have FC1 : ∀ X, Below w3.heap.size w3 X → X.cell? ⟨c1, 0, none⟩ = some (.pointer (some ⟨lx, 0, none⟩)) := fun X hX => (HCP3.out.below hX).cells.1
  have FC2 : ∀ X, Below w3.heap.size w3 X → X.cell? ⟨c2, 0, none⟩ = some (.string (sB a)) := fun X hX => (HCP3.out.below hX).cells.2.1
  have FC3 : ∀ X, Below w3.heap.size w3 X → X.cell? ⟨lx, 1, none⟩ = some vd := fun X hX => (HCP3.out.below hX).cells.2.2
  clear k1 k2 k3
  refine start_ (n := 16) (S := fun w' => w'.cell? ⟨c1, 0, none⟩ = some (.pointer (some ⟨lx, 0, none⟩)) ∧ w'.cell? ⟨c2, 0, none⟩ = some (.string (sB a)) ∧ w'.cell? ⟨lx, 1, none⟩ = some vd) (ds := [15]) (bb [0, 16]) (by kernel_rfl) rfl rfl ⟨(FC1 _ (by repeat (first | exact Below.refl _ _ | apply below_alloc | apply below_drew))), (FC2 _ (by repeat (first | exact Below.refl _ _ | apply below_alloc | apply below_drew))), (FC3 _ (by repeat (first | exact Below.refl _ _ | apply below_alloc | apply below_drew)))⟩ (fun hHeld => ?_)
  refine take_ (i := 0) (N := some 22) (v := ?_) (a' := ?_) (bb [1, 15]) rfl rfl (by kernel_rfl) (fun _ _ _ h => h) (Or.inl ⟨by rfl, ?_⟩) hHeld ?_ ?_
  rotate_left
  ·rintro w' ⟨s0, s1, s2⟩
   go_simp
   with_reducible rfl
  rotate_left
  ·simp only [Act.put, List.setIfInBounds_toArray, List.set_cons_zero, List.set_cons_succ, i64_w, i32_w]
   rfl
  refine take_ (i := 1) (N := some 23) (v := ?_) (a' := ?_) (bb [2, 14]) rfl rfl (by kernel_rfl) (fun _ _ _ h => h) (Or.inl ⟨by rfl, ?_⟩) hHeld ?_ ?_
  rotate_left
  ·rintro w' ⟨s0, s1, s2⟩
   go_simp
   with_reducible rfl
  rotate_left
  ·simp only [Act.put, List.setIfInBounds_toArray, List.set_cons_zero, List.set_cons_succ, i64_w, i32_w]
   rfl
  refine pure_ (i := 2) (N := some 24) (v := ?_) (a' := ?_) (bb [3, 13]) rfl rfl (by kernel_rfl) (fun _ _ _ h => h) (Or.inl ⟨by rfl, ?_⟩) ?_ ?_
  rotate_left
  ·intro w'
   go_simp
   with_reducible rfl
  rotate_left
  ·simp only [Act.put, List.setIfInBounds_toArray, List.set_cons_zero, List.set_cons_succ, i64_w, i32_w]
   rfl
  refine pure_ (i := 3) (N := some 25) (v := ?_) (a' := ?_) (bb [4, 12]) rfl rfl (by kernel_rfl) (fun _ _ _ h => h) (Or.inl ⟨by rfl, ?_⟩) ?_ ?_
  rotate_left
  ·intro w'
   go_simp
   with_reducible rfl
  rotate_left
  ·simp only [Act.put, List.setIfInBounds_toArray, List.set_cons_zero, List.set_cons_succ, i64_w, i32_w]
   rfl
  refine take_ (i := 4) (N := some 26) (v := ?_) (a' := ?_) (bb [5, 11]) rfl rfl (by kernel_rfl) (fun _ _ _ h => h) (Or.inl ⟨by rfl, ?_⟩) hHeld ?_ ?_
  rotate_left
  ·rintro w' ⟨s0, s1, s2⟩
   go_simp
   with_reducible rfl
  rotate_left
  ·simp only [Act.put, List.setIfInBounds_toArray, List.set_cons_zero, List.set_cons_succ, i64_w, i32_w]
   rfl
  refine take_ (i := 5) (N := some 27) (v := ?_) (a' := ?_) (bb [6, 10]) rfl rfl (by kernel_rfl) (fun _ _ _ h => h) (Or.inl ⟨by rfl, ?_⟩) hHeld ?_ ?_
  rotate_left
  ·rintro w' ⟨s0, s1, s2⟩
   go_simp
   with_reducible rfl
  rotate_left
  ·simp only [Act.put, List.setIfInBounds_toArray, List.set_cons_zero, List.set_cons_succ, i64_w, i32_w]
   rfl
  refine one_ (i := 6) (N := some 28) (bb [7, 9]) rfl rfl (by kernel_rfl) (by decide) (fun K hK => ?_)
  refine value_ (w1 := ?_) (v := ?_) (by rfl) rfl ?_ ?_
  rotate_left 2
  ·go_simp
   constructor
   ·rfl
   ·rfl
  refine hK.out _ _ ⟨(FC1 _ (by repeat (first | exact Below.refl _ _ | apply below_alloc | apply below_drew))), (FC2 _ (by repeat (first | exact Below.refl _ _ | apply below_alloc | apply below_drew))), (FC3 _ (by repeat (first | exact Below.refl _ _ | apply below_alloc | apply below_drew)))⟩ (fun hHeld => ?_)
  clear hK K
  refine norm_ (a' := ?_) ?_ ?_
  rotate_left
  ·show Act.put _ (some 28) _ = _
   simp only [Act.put, List.setIfInBounds_toArray, List.set_cons_zero, List.set_cons_succ, i64_w, i32_w]
   rfl
  refine pure_ (i := 7) (N := some 29) (v := ?_) (a' := ?_) (bb [8, 8]) rfl rfl (by kernel_rfl) (fun _ _ _ h => h) (Or.inl ⟨by rfl, ?_⟩) ?_ ?_
  rotate_left
  ·intro w'
   go_simp
   with_reducible rfl
  rotate_left
  ·simp only [Act.put, List.setIfInBounds_toArray, List.set_cons_zero, List.set_cons_succ, i64_w, i32_w]
   rfl
  refine one_ (i := 8) (N := some 30) (bb [9, 7]) rfl rfl (by kernel_rfl) (by decide) (fun K hK => ?_)
  refine value_ (w1 := ?_) (v := ?_) (by rfl) rfl ?_ ?_
  rotate_left 2
  ·go_simp
   constructor
   ·rfl
   ·rfl
  refine hK.out _ _ ⟨(FC1 _ (by repeat (first | exact Below.refl _ _ | apply below_alloc | apply below_drew))), (FC2 _ (by repeat (first | exact Below.refl _ _ | apply below_alloc | apply below_drew))), (FC3 _ (by repeat (first | exact Below.refl _ _ | apply below_alloc | apply below_drew)))⟩ (fun hHeld => ?_)
  clear hK K
  refine norm_ (a' := ?_) ?_ ?_
  rotate_left
  ·show Act.put _ (some 30) _ = _
   simp only [Act.put, List.setIfInBounds_toArray, List.set_cons_zero, List.set_cons_succ, i64_w, i32_w]
   rfl
  refine pure_ (i := 9) (N := some 31) (v := ?_) (a' := ?_) (bb [10, 6]) rfl rfl (by kernel_rfl) (fun _ _ _ h => h) (Or.inl ⟨by rfl, ?_⟩) ?_ ?_
  rotate_left
  ·intro w'
   go_simp
   with_reducible rfl
  rotate_left
  ·simp only [Act.put, List.setIfInBounds_toArray, List.set_cons_zero, List.set_cons_succ, i64_w, i32_w]
   rfl
  refine one_ (i := 10) (N := some 32) (bb [11, 5]) rfl rfl (by kernel_rfl) (by decide) (fun K hK => ?_)
  refine value_ (w1 := ?_) (v := ?_) (by rfl) rfl ?_ ?_
  rotate_left 2
  ·go_simp
   constructor
   ·rfl
   ·rfl
  refine hK.out _ _ ⟨(FC1 _ (by repeat (first | exact Below.refl _ _ | apply below_alloc | apply below_drew))), (FC2 _ (by repeat (first | exact Below.refl _ _ | apply below_alloc | apply below_drew))), (FC3 _ (by repeat (first | exact Below.refl _ _ | apply below_alloc | apply below_drew)))⟩ (fun hHeld => ?_)
  clear hK K
  refine norm_ (a' := ?_) ?_ ?_
  rotate_left
  ·show Act.put _ (some 32) _ = _
   simp only [Act.put, List.setIfInBounds_toArray, List.set_cons_zero, List.set_cons_succ, i64_w, i32_w]
   rfl
  refine one_ (i := 11) (N := some 33) (bb [12, 4]) rfl rfl (by kernel_rfl) (by decide) (fun K hK => ?_)
  refine value_ (w1 := ?_) (v := ?_) (by rfl) rfl ?_ ?_
  rotate_left 2
  ·go_simp
   constructor
   ·rfl
   ·rfl
  refine hK.out _ _ ⟨(FC1 _ (by repeat (first | exact Below.refl _ _ | apply below_alloc | apply below_drew))), (FC2 _ (by repeat (first | exact Below.refl _ _ | apply below_alloc | apply below_drew))), (FC3 _ (by repeat (first | exact Below.refl _ _ | apply below_alloc | apply below_drew)))⟩ (fun hHeld => ?_)
  clear hK K
  refine norm_ (a' := ?_) ?_ ?_
  rotate_left
  ·show Act.put _ (some 33) _ = _
   simp only [Act.put, List.setIfInBounds_toArray, List.set_cons_zero, List.set_cons_succ, i64_w, i32_w]
   rfl
  refine one_ (i := 12) (N := some 34) (bb [13, 3]) rfl rfl (by kernel_rfl) (by decide) (fun K hK => ?_)
  refine ld_append (w0 := W0) W0.heap.size (by rfl) (.tmp 26) (.tmp 33) rfl vd (D.map (·.b)) _ rfl (by first | (go_simp; done) | (go_simp; rfl)) (Kd.R_below HROW3.out (by repeat (first | exact Below.refl _ _ | apply below_alloc | apply below_drew))) (below_then HL3.out.bel HL3.out.bel.size (by repeat (first | exact Below.refl _ _ | apply below_alloc | apply below_drew))) (by have := HL3.out.bel.size; simp only [sz_alloc]; exact Nat.le_trans this (by first | exact Nat.le_add_right _ _ | omega)) (by have := HD.out; simp only [List.length_map]; omega) ?_
  intro v11 w11 ho hb11 hg; obtain ⟨A11, c11, rfl⟩ := Kd.R_slice ho; have HO11 := Aside0.mk ho; have HB11 := Aside0.mk hb11; have HG11 := Aside0.mk hg; have HC11 := Aside0.mk (CapIs.push HCP3.out HROW3.out (by repeat (first | exact Below.refl _ _ | apply below_alloc | apply below_drew)) hg); have HS11 := HC11.out.cells; have hfz := blk_frozen HC11.out.hl 1; clear ho hb11 hg
  refine hK.out _ _ ⟨HS11.1, HS11.2.1, HS11.2.2⟩ (fun hHeld => ?_)
  clear hK K
  refine norm_ (a' := ?_) ?_ ?_
  rotate_left
  ·show Act.put _ (some 34) _ = _
   simp only [Act.put, List.setIfInBounds_toArray, List.set_cons_zero, List.set_cons_succ, i64_w, i32_w]
   rfl
  refine pure_ (i := 13) (N := some 35) (v := ?_) (a' := ?_) (bb [14, 2]) rfl rfl (by kernel_rfl) (fun _ _ _ h => h) (Or.inl ⟨by rfl, ?_⟩) ?_ ?_
  rotate_left
  ·intro w'
   go_simp
   with_reducible rfl
  rotate_left
  ·simp only [Act.put, List.setIfInBounds_toArray, List.set_cons_zero, List.set_cons_succ, i64_w, i32_w]
   rfl
  refine pure_ (i := 14) (N := some 36) (v := ?_) (a' := ?_) (bb [15, 1]) rfl rfl (by kernel_rfl) (fun _ _ _ h => h) (Or.inl ⟨by rfl, ?_⟩) ?_ ?_
  rotate_left
  ·intro w'
   go_simp
   with_reducible rfl
  rotate_left
  ·simp only [Act.put, List.setIfInBounds_toArray, List.set_cons_zero, List.set_cons_succ, i64_w, i32_w]
   rfl
  refine last_ (i := 15) (N := none) (bb [16]) rfl rfl (by kernel_rfl) (by decide) (fun K hK => ?_)
  refine skip_ (w1 := ?_) (by rfl) rfl ?_ ?_
  rotate_left
  ·go_simp
   rfl
  refine hK.out _ _ ?_
  clear hK K
  refine done_ (by kernel_rfl) ?_
  have e11 : (D.map (·.b) ++ [w3.heap.size + 1 + 1]).length = D.length + 1 := by simp
  have HLF : Aside0 (LexIs W0 (w11.setCell ⟨lx, 1, none⟩ (.slice A11 (D.length + 1) c11)) lx g text r' (D ++ [⟨.sec a, w3.heap.size + 1 + 1, w3.heap.size + 1, w3.heap.size⟩])) := ⟨by
   have ho := HO11.out
   rw [e11] at ho
   have h0 := HL3.out.bel.size
   exact LexIs.push HL3.out HCP3.out.hl HROW3.out (by repeat (first | exact Below.refl _ _ | apply below_alloc | apply below_drew)) HG11.out ho HB11.out ⟨new3 w3 _ _ _, blk_alloc (new2 w3 _ _) _, blk_alloc (blk_alloc (blk_new w3 _) _) _⟩ (by simp only; omega) (by simp only; omega) (Nat.le_refl _) (by simp only [sz_alloc]; omega)⟩
  have f1 : (w11.setCell ⟨lx, 1, none⟩ (.slice A11 (D.length + 1) c11)).cell? ⟨c1, 0, none⟩ = some (.pointer (some ⟨lx, 0, none⟩)) := (blk_cell (blk_far HC11.out.h1 (p := ⟨lx, 1, none⟩) (blk_ne HC11.out.h1 HC11.out.hl (by decide)) _) 0).trans rfl
  have f2 : (w11.setCell ⟨lx, 1, none⟩ (.slice A11 (D.length + 1) c11)).cell? ⟨c2, 0, none⟩ = some (.string (sB a)) := (blk_cell (blk_far HC11.out.h2 (p := ⟨lx, 1, none⟩) (blk_ne HC11.out.h2 HC11.out.hl (by decide)) _) 0).trans rfl
  generalize w11.setCell ⟨lx, 1, none⟩ (.slice A11 (D.length + 1) c11) = W' at f1 f2 HLF ⊢
  go_wp2_with (first
   | (go_at_call 95; refine (made_no W0.heap.size lx a _).mono ?_; rintro e w5 ⟨v, rfl, hR5, hb5⟩))
  go_ret2
  refine ⟨.go (.no a) (eol (text.data.toList.drop r)).2.2 [.sec a], ⟨_, HBL.out, by rw [hm]; rfl⟩, v, _, r', rfl, hR5, rfl, HLF.out.below hb5, HDR.out, HRS.out⟩
 ·go_ret2
  refine StepPost.done (er := true) ⟨_, HBL.out, by rw [decide_eq_false (by omega)]; rfl⟩ ⟨et, eu, rfl⟩ (((HL.out.grown HG2.out ⟨_, HBF2.out⟩).below HB3.out).below hb4)
end Go.Proofs.YtgnfapnnbcafbaaDoor.UN
end
section
/- The lexer's steps: a remark's lines. Conditions: a text of at most a million bytes. -/
namespace Go.Proofs.YtgnfapnnbcafbaaDoor.UN
open Go Go.RowKit Go.Proofs.YtgnfapnnbcafbaaDoorW.PrintWords Go.Proofs.YtgnfapnnbcafbaaDoorW
set_option linter.unusedVariables false
set_option linter.unusedSimpArgs false
def cutc (x : UInt8) (l : Bs) : Bs := if l.getLast? = some x then l.dropLast else l
theorem cutc_len (x : UInt8) (l : Bs) : (cutc x l).length ≤ l.length := by
 unfold cutc
 split
 ·rw [List.length_dropLast]; omega
 ·exact Nat.le_refl _
theorem cutc_pre (x : UInt8) (l : Bs) : ∃ t, l = cutc x l ++ t := by
 unfold cutc
 split
 ·rename_i h
  obtain ⟨hne, e⟩ := List.getLast?_eq_some_iff.1 h
  exact ⟨[x], by rw [e]; simp⟩
 ·exact ⟨[], by simp⟩
theorem bat_cut {w : World} {b : Nat} {l : Bs} {x : UInt8} (h : BAt w b 0 l) : BAt w b 0 (cutc x l) := by
 obtain ⟨t, ht⟩ := cutc_pre x l
 rw [ht] at h
 exact bat_pre h
theorem bat32 (w : World) (b : Nat) (h : b = w.heap.size) : BAt (w.alloc (.cells #[.int .u8 32] 5 (0, 0))) b 0 [32] := by
 rw [h]
 exact bat_one w 32
theorem bat92 (w : World) (b : Nat) (h : b = w.heap.size) : BAt (w.alloc (.cells #[.int .u8 92] 5 (0, 0))) b 0 [92] := by
 rw [h]
 exact bat_one w 92
theorem cut32 (b n c b2 : Nat) (l : Bs) (w : World) (hl : l.length = n) (hn : n ≤ c) (hs : n ≤ 100000000) (h1 : BAt w b 0 l) (h2 : BAt w b2 0 [32]) :
  Calls Tryd.prog 89 #[.slice (some ⟨b, 0, none⟩) n c, .slice (some ⟨b2, 0, none⟩) 1 1] w fun e w' => e = .returned (.slice (some ⟨b, 0, none⟩) (cutc 32 l).length c) ∧ w' = w := cutsuf_call b n c b2 1 l 32 w hl hn hs h1 h2
theorem suf92 (b n c b2 : Nat) (l : Bs) (w : World) (hl : l.length = n) (hn : n ≤ c) (hs : n ≤ 100000000) (h1 : BAt w b 0 l) (h2 : BAt w b2 0 [92]) :
  Calls Tryd.prog 90 #[.slice (some ⟨b, 0, none⟩) n c, .slice (some ⟨b2, 0, none⟩) 1 1] w fun e w' => e = .returned (.bool (decide (l.getLast? = some 92))) ∧ w' = w := hassuf_call b n c b2 1 l 92 w hl hn hs h1 h2
theorem eol_line_le (s : Bs) : (eol s).1.length ≤ s.length := by have := eol_len s; omega
theorem drop_suf {l : Bs} {r r' : Nat} (h : r ≤ r') : l.drop r' <:+ l.drop r := by
 obtain ⟨k, rfl⟩ := Nat.exists_eq_add_of_le h
 rw [← List.drop_drop]
 exact List.drop_suffix _ _
set_option maxHeartbeats 4000000 in
set_option maxRecDepth 100000 in
theorem step_ig (W0 W : World) (lx g r : Nat) (q : K) (c1 c2 : Nat) (u : Value) (text : ByteArray) (D : List Ent) (hL : LexIs W0 W lx g text r D) (hsz : text.size ≤ 1000000) (hr : r ≤ text.size) (h1 : W.heap[c1]? = some (capL lx)) (h2 : W.heap[c2]? = some (.cells #[u] 97 (0, 0))) (hu : Rep W0.heap.size lx q W u) :
  Calls Tryd.prog 87 #[.pointer (some ⟨c1, 0, none⟩), .pointer (some ⟨c2, 0, none⟩)] W (StepPost W0 lx g text D (.ig q) (text.data.toList.drop r)) := by
 obtain ⟨uf, ua, uc, rfl⟩ := Rep_func hu
 have HL := Aside0.mk hL
 have HSZ := Aside0.mk hsz
 have H1 := Aside0.mk h1
 have H2 := Aside0.mk h2
 have HU := Aside0.mk hu
 have HR := Aside0.mk hr
 have hmf := make_fn
 clear hL hsz h1 h2 hu hr
 go_enter Tryd.func87, Tryd.ntmps87
 go_wp2
 go_loopg [4] (text.size + 2) (fun kq v4 w' => ∃ (r1 : Nat), Aside0 (LexIs W0 w' lx g text r1 D) ∧ Aside0 (w'.heap[c1]? = some (capL lx)) ∧ Aside0 (w'.heap[c2]? = some (.cells #[.func (.func uf) ua uc] 97 (0, 0))) ∧ Aside0 (Rep W0.heap.size lx q w' (.func (.func uf) ua uc)) ∧ Aside0 (r1 ≤ text.size) ∧ Aside0 (r ≤ r1) ∧ Aside0 (text.size - r1 + 1 < kq))
 case atStart => exact ⟨r, HL, H1, H2, HU, HR, ⟨Nat.le_refl _⟩, ⟨by omega⟩⟩
 case round =>
  clear HL H1 H2 HU HR
  obtain ⟨r1, HL, H1, H2, HU, HR, HRR, HM⟩ := hrel
  have w1 : wr.cell? ⟨c1, 0, none⟩ = some (.pointer (some ⟨lx, 0, none⟩)) := (blk_cell H1.out 0).trans rfl
  obtain ⟨vd, hlx, -⟩ := HL.out.ob
  obtain ⟨l, hbuf⟩ := HL.out.buf
  have EOL := Aside0.mk (to_eol lx g vd .nilIface ⟨#[]⟩ text r1 l wr hlx hbuf HSZ.out)
  obtain ⟨wb, db, hbk, -⟩ := hbuf
  have HBK := Aside0.mk hbk
  obtain ⟨ln, hln⟩ : ∃ ln, (eol (text.data.toList.drop r1)).1 = ln := ⟨_, rfl⟩
  have HLE : Aside0 (ln.length + (eol (text.data.toList.drop r1)).2.2.length ≤ text.size - r1) := ⟨by
   have hE := eol_len (text.data.toList.drop r1)
   have hl : text.data.toList.length = text.size := Array.length_toList
   rw [hln] at hE
   rw [List.length_drop] at hE
   omega⟩
  have HLN := Aside0.mk hln
  have HSZ' := HSZ
  clear hlx hbk hln
  go_wp2_with (first
   | (go_at_call 88; refine EOL.out.mono ?_; rintro e w2 ⟨bk, cap, r', rfl, hcap, hbat, hbuf, hdr, hrr, hrs, hg2, hbk⟩; rw [HLN.out] at hcap hbat ⊢; have HG2 := Aside0.mk hg2; have HCAP := Aside0.mk hcap; have HBAT := Aside0.mk hbat; have HBF2 := Aside0.mk hbuf; have HDR := Aside0.mk hdr; have HRS := Aside0.mk hrs; have HRR2 := Aside0.mk hrr; have K2 := Aside0.mk (blk_grown H2.out hg2 (by intro e; cases e; have h8 := HBK.out; rw [H2.out] at h8; simp [bufObj] at h8)); have y2 : w2.cell? ⟨c2, 0, none⟩ = some (.func (.func uf) ua uc) := (blk_cell K2.out 0).trans rfl; have y6 : ∀ o o', ((w2.alloc o).alloc o').cell? ⟨c2, 0, none⟩ = some (.func (.func uf) ua uc) := fun o o' => (blk_cell (blk_alloc (blk_alloc K2.out o) o') 0).trans rfl; clear hg2 hcap hbat hbuf hdr hrs hrr)
   | (go_at_call 89; refine (cut32 bk ln.length cap _ ln _ rfl HCAP.out (by have := HLE.out; have := HSZ.out; omega) (bat_alloc HBAT.out _) (bat32 _ _ (by simp))).mono ?_; rintro e w3 ⟨rfl, e3⟩; have e3' := e3.symm; subst e3')
   | (go_at_call 90; refine (suf92 bk (cutc 32 ln).length cap _ (cutc 32 ln) _ rfl (by have := cutc_len 32 ln; have := HCAP.out; omega) (by have := cutc_len 32 ln; have := HLE.out; have := HSZ.out; omega) (bat_alloc (bat_alloc (bat_cut HBAT.out) _) _) (bat92 _ _ (by simp))).mono ?_; rintro e w4 ⟨rfl, e4⟩; have e4' := e4.symm; subst e4'; by_cases hsx : (cutc 32 ln).getLast? = some 92 <;> (first | rw [decide_eq_true hsx] | rw [decide_eq_false hsx]))
   | fail)
  ·have hbel : Below w2.heap.size w2 ((w2.alloc (.cells #[.int .u8 32] 5 (0, 0))).alloc (.cells #[.int .u8 92] 5 (0, 0))) := below_alloc (below_alloc (Below.refl _ _) _) _
   have H1' := blk_grown H1.out HG2.out (by intro e; cases e; have h8 := HBK.out; rw [H1.out] at h8; simp [capL, bufObj] at h8)
   go_roundg (gk - 1)
   case measure => have := HM.out; omega
   case rel =>
    refine ⟨r', ⟨(HL.out.grown HG2.out ⟨_, HBF2.out⟩).below hbel⟩, ⟨blk_below H1' hbel⟩, ⟨blk_below K2.out hbel⟩, ⟨Rep_below (Rep_grown HU.out HG2.out HBK.out (by decide)) hbel⟩, HRS, ⟨by have := HRR.out; have := HRR2.out; omega⟩, ⟨?_⟩⟩
    have hne : 0 < ln.length := by
     have h7 := cutc_len 32 ln
     cases hq : cutc 32 ln with
     | nil => rw [hq] at hsx; cases hsx
     | cons b t => rw [hq] at h7; simp only [List.length_cons] at h7; omega
    have h6 := HLE.out
    have h5 := congrArg List.length HDR.out
    have hl : text.data.toList.length = text.size := Array.length_toList
    rw [List.length_drop] at h5
    have := HM.out
    have := HRS.out
    omega
  ·go_ret2
   have hbel : Below w2.heap.size w2 ((w2.alloc (.cells #[.int .u8 32] 5 (0, 0))).alloc (.cells #[.int .u8 92] 5 (0, 0))) := below_alloc (below_alloc (Below.refl _ _) _) _
   refine StepPost.go (q' := q) (s' := text.data.toList.drop r') ⟨_, ?_, rfl⟩ (Rep_below (Rep_grown HU.out HG2.out HBK.out (by decide)) hbel) ((HL.out.grown HG2.out ⟨_, HBF2.out⟩).below hbel) rfl HRS.out
   have h9 : r ≤ r' := by have := HRR.out; have := HRR2.out; omega
   exact drop_suf h9
end Go.Proofs.YtgnfapnnbcafbaaDoor.UN
end
section
/- An option's name as it is read, rune by rune: plain lists alone. -/
namespace Go.Proofs.YtgnfapnnbcafbaaDoor.UN
open Go
set_option linter.unusedVariables false
theorem enc_le (i : Int) : (Utf8.encode i).size ≤ 4 := by
 unfold Utf8.encode
 simp only
 repeat' split
 all_goals simp [ByteArray.size]
theorem enc_ascii (b : UInt8) (h : b.toNat < 128) : Utf8.encode (b.toNat : Int) = ⟨#[b]⟩ := by
 unfold Utf8.encode
 have hv : Utf8.valid (b.toNat : Int) = true := by
  simp [Utf8.valid]
  omega
 simp only [hv, if_true, Int.toNat_natCast]
 rw [if_pos h]
 simp
def NameSt (s0 s : Bs) (P : ByteArray) : Prop := s <:+ s0 ∧ P.size ≤ 4 * (s0.length - s.length) ∧ ((∃ u, s0 = u ++ s ∧ ascii u = true ∧ (∀ b ∈ u, dl b = false) ∧ P = ⟨u.toArray⟩) ∨ (∃ u x t, s0 = u ++ x :: t ∧ (∀ b ∈ u, dl b = false) ∧ 128 ≤ x.toNat))
theorem name_start (s : Bs) : NameSt s s ⟨#[]⟩ := ⟨List.suffix_refl _, by show 0 ≤ _; omega, .inl ⟨[], rfl, rfl, (fun b hb => by cases hb), rfl⟩⟩
theorem dl_big {x : UInt8} (h : 128 ≤ x.toNat) : dl x = false := by
 unfold dl nl
 simp only [Bool.or_eq_false_iff, beq_eq_false_iff_ne]
 refine ⟨?_, ?_, ?_⟩ <;> (intro e; rw [e] at h; revert h; decide)
theorem cut_pre (p : UInt8 → Bool) : ∀ (u t : Bs), (∀ b ∈ u, p b = false) → cut p (u ++ t) = (cut p t).map fun y => (u ++ y.1, y.2)
 | [], t, _ => by cases h : cut p t <;> simp [h]
 | b :: u, t, h => by
  rw [List.cons_append, cut, if_neg (by simp [h b (by simp)]), cut_pre p u t (fun x hx => h x (by simp [hx]))]
  cases cut p t <;> rfl
theorem on_loose {a u t : Bs} {x : UInt8} {o : Out} (hu : ∀ b ∈ u, dl b = false) (hx : 128 ≤ x.toNat) (h : Loose a (u ++ x :: t) o) : Step (.on a) (u ++ x :: t) o := by
 simp only [Step]
 have e : u ++ x :: t = (u ++ [x]) ++ t := by simp
 have hc := cut_pre dl (u ++ [x]) t (fun b hb => by
  rcases List.mem_append.1 hb with hb | hb
  ·exact hu b hb
  ·rw [List.mem_singleton.1 hb]; exact dl_big hx)
 rw [← e] at hc
 rw [hc]
 cases h2 : cut dl t with
 | none => exact h
 | some y =>
  simp only [Option.map_some]
  rw [if_neg]
  ·exact h
  ·intro ha
   have := List.all_eq_true.1 ha x (by simp)
   have := of_decide_eq_true this
   omega
theorem name_step {s0 s : Bs} {P : ByteArray} {c n : Nat} (h : NameSt s0 s P) (hr : Rune s c n) (h1 : c ≠ 10) (h2 : c ≠ 13) (h3 : c ≠ 61) : NameSt s0 (s.drop n) (P ++ Utf8.encode (c : Int)) := by
 obtain ⟨hs, hl, hd⟩ := h
 obtain ⟨r1, r2, r3⟩ := hr
 have hsl := hs.length_le
 have he := enc_le (c : Int)
 refine ⟨(List.drop_suffix _ _).trans hs, by rw [ByteArray.size_append, List.length_drop]; omega, ?_⟩
 cases s with
 | nil => simp at r2; omega
 | cons b r =>
  obtain ⟨r4, r5⟩ := r3 b r rfl
  rcases hd with ⟨u, hu, ha, hd, hP⟩ | ⟨u, x, t, hu, hd, hx⟩
  ·rcases Nat.lt_or_ge b.toNat 128 with hb | hb
   ·obtain ⟨rfl, rfl⟩ := r4 hb
    refine .inl ⟨u ++ [b], by rw [hu]; simp, ?_, ?_, ?_⟩
    ·unfold ascii at ha ⊢
     rw [List.all_append, ha]
     simpa using hb
    ·intro y hy
     rcases List.mem_append.1 hy with hy | hy
     ·exact hd y hy
     ·rw [List.mem_singleton.1 hy]
      unfold dl nl
      simp only [Bool.or_eq_false_iff, beq_eq_false_iff_ne]
      refine ⟨?_, ?_, ?_⟩ <;> (intro e; rw [e] at h1 h2 h3; revert h1 h2 h3; decide)
    ·rw [hP, enc_ascii b hb]
     apply ByteArray.ext
     simp [ByteArray.data_append]
   ·exact .inr ⟨u, b, r, hu, hd, hb⟩
  ·exact .inr ⟨u, x, t, hu, hd, hx⟩
theorem name_done {a s0 s : Bs} {P : ByteArray} (h : NameSt s0 s P) (hr : s = [] ∨ ∃ c n, Rune s c n ∧ (c = 10 ∨ c = 13)) : Step (.on a) s0 (.done true) := by
 obtain ⟨hs, hl, hd⟩ := h
 rcases hd with ⟨u, hu, ha, hd, hP⟩ | ⟨u, x, t, hu, hd, hx⟩
 ·simp only [Step]
  rcases hr with rfl | ⟨c, n, ⟨r1, r2, r3⟩, hc⟩
  ·rw [hu, cut_pre dl u [] hd]
   exact .inl rfl
  ·cases s with
   | nil => simp at r2; omega
   | cons b r =>
    obtain ⟨r4, r5⟩ := r3 b r rfl
    have hb : b.toNat < 128 := by
     rcases Nat.lt_or_ge b.toNat 128 with hb | hb
     ·exact hb
     ·have := r5 hb; omega
    obtain ⟨rfl, rfl⟩ := r4 hb
    have hb2 : b = 10 ∨ b = 13 := by
     rcases hc with hc | hc
     ·exact .inl (UInt8.toNat_inj.1 hc)
     ·exact .inr (UInt8.toNat_inj.1 hc)
    have hdl : dl b = true := by rcases hb2 with rfl | rfl <;> decide
    rw [hu, cut_app dl u b r hd hdl]
    simp only
    rw [if_pos ha]
    unfold onOut
    rw [if_neg (by rcases hb2 with rfl | rfl <;> decide)]
 ·rw [hu]
  exact on_loose hd hx (.inl rfl)
theorem name_go {a s0 s : Bs} {P : ByteArray} {n : Nat} (h : NameSt s0 s P) (hr : Rune s 61 n) : Step (.on a) s0 (.go (.ov a (Lib.trimSpaceD P.data.toList) []) (s.drop n) []) := by
 obtain ⟨hs, hl, hd⟩ := h
 rcases hd with ⟨u, hu, ha, hd, hP⟩ | ⟨u, x, t, hu, hd, hx⟩
 ·simp only [Step]
  obtain ⟨r1, r2, r3⟩ := hr
  cases s with
  | nil => simp at r2; omega
  | cons b r =>
   obtain ⟨r4, r5⟩ := r3 b r rfl
   have hb : b.toNat < 128 := by
    rcases Nat.lt_or_ge b.toNat 128 with hb | hb
    ·exact hb
    ·have := r5 hb; omega
   obtain ⟨hb1, rfl⟩ := r4 hb
   obtain rfl : b = 61 := UInt8.toNat_inj.1 hb1.symm
   rw [hu, cut_app dl u 61 r hd (by decide)]
   simp only
   rw [if_pos ha]
   unfold onOut
   rw [if_pos rfl, hP]
   rfl
 ·have hsl := hs.length_le
  have h2 := hr.2.1
  have h1 := hr.1
  have ht := trim_len P.data.toList
  have hP : P.data.toList.length = P.size := Array.length_toList
  rw [hu] at hs hl hsl ⊢
  refine on_loose hd hx (.inr ⟨Lib.trimSpaceD P.data.toList, s.drop n, (List.drop_suffix _ _).trans hs, by rw [List.length_drop]; omega, by omega, rfl⟩)
end Go.Proofs.YtgnfapnnbcafbaaDoor.UN
end
section
/- The lexer's steps: an option's name. Conditions: a text of at most a million bytes; the library's tables as laid. -/
namespace Go.Proofs.YtgnfapnnbcafbaaDoor.UN
open Go Go.RowKit Go.Proofs.YtgnfapnnbcafbaaDoorW.PrintWords Go.Proofs.YtgnfapnnbcafbaaDoorW
set_option linter.unusedVariables false
set_option linter.unusedSimpArgs false
theorem cls3 (c : Nat) : (((c : Int) == 10) = true ∧ (c = 10 ∨ c = 13)) ∨ (((c : Int) == 10) = false ∧ ((c : Int) == 13) = true ∧ (c = 10 ∨ c = 13)) ∨ (((c : Int) == 10) = false ∧ ((c : Int) == 13) = false ∧ ((c : Int) == 61) = true ∧ c = 61) ∨ (((c : Int) == 10) = false ∧ ((c : Int) == 13) = false ∧ ((c : Int) == 61) = false ∧ c ≠ 10 ∧ c ≠ 13 ∧ c ≠ 61) := by
 by_cases h1 : c = 10
 ·exact .inl ⟨eqT h1, .inl h1⟩
 ·by_cases h2 : c = 13
  ·exact .inr (.inl ⟨eqF h1, eqT h2, .inr h2⟩)
  ·by_cases h3 : c = 61
   ·exact .inr (.inr (.inl ⟨eqF h1, eqF h2, eqT h3, h3⟩))
   ·exact .inr (.inr (.inr ⟨eqF h1, eqF h2, eqF h3, h1, h2, h3⟩))
theorem rune_nm {W0 W w' : World} {g r : Nat} {text : ByteArray} {e : Ending} (h : RunePost W0 W g text r e w') : W.grownBy w' (some g) ∧
    ((r = text.size ∧ e = .returned (.tuple #[.int .i32 0, .int .i64 0, .iface 115 (.agg #[])]) ∧ BufAt w' g text r r) ∨
     ∃ c n : Nat, r < text.size ∧ Rune (text.data.toList.drop r) c n ∧ e = .returned (.tuple #[.int .i32 c, .int .i64 n, .nilIface]) ∧ BufAt w' g text (r + n) r ∧
      ((((c : Int) == 10) = true ∧ (c = 10 ∨ c = 13)) ∨ (((c : Int) == 10) = false ∧ ((c : Int) == 13) = true ∧ (c = 10 ∨ c = 13)) ∨ (((c : Int) == 10) = false ∧ ((c : Int) == 13) = false ∧ ((c : Int) == 61) = true ∧ c = 61) ∨ (((c : Int) == 10) = false ∧ ((c : Int) == 13) = false ∧ ((c : Int) == 61) = false ∧ c ≠ 10 ∧ c ≠ 13 ∧ c ≠ 61))) := by
  obtain ⟨_, h2, h3⟩ := h
  refine ⟨h2, h3.imp id ?_⟩
  rintro ⟨h4, c, n, h5, h6, h7⟩
  exact ⟨c, n, h4, h5, h6, h7, cls3 c⟩
set_option maxHeartbeats 4000000 in
set_option maxRecDepth 100000 in
theorem step_on (W0 W : World) (lx g r : Nat) (a : Bs) (c1 c2 : Nat) (text : ByteArray) (D : List Ent) (hT : UTab W0) (hRC : RuneC text) (hL : LexIs W0 W lx g text r D) (hsz : text.size ≤ 1000000) (hr : r ≤ text.size) (h1 : W.heap[c1]? = some (capL lx)) (h2 : W.heap[c2]? = some (capS a)) :
  Calls Tryd.prog 111 #[.pointer (some ⟨c1, 0, none⟩), .pointer (some ⟨c2, 0, none⟩)] W (StepPost W0 lx g text D (.on a) (text.data.toList.drop r)) := by
 have HT := Aside0.mk hT
 have HRC := Aside0.mk hRC
 have HL := Aside0.mk hL
 have HSZ := Aside0.mk hsz
 have H1 := Aside0.mk h1
 have H2 := Aside0.mk h2
 have HR := Aside0.mk hr
 have hmf := make_fn
 clear hL hsz h1 h2 hr hT hRC
 go_enter Tryd.func111, Tryd.ntmps111
 go_wp2
 go_loopg [4] (text.size + 2) (fun kq v4 w' => ∃ (r1 : Nat) (P : ByteArray), v4 = .string P ∧ Aside0 (LexIs W0 w' lx g text r1 D) ∧ Aside0 (w'.heap[c1]? = some (capL lx)) ∧ Aside0 (w'.heap[c2]? = some (capS a)) ∧ Aside0 (r1 ≤ text.size) ∧ Aside0 (NameSt (text.data.toList.drop r) (text.data.toList.drop r1) P) ∧ Aside0 (text.size - r1 < kq))
 case atStart => exact ⟨r, ⟨#[]⟩, rfl, HL, H1, H2, HR, ⟨name_start _⟩, ⟨by omega⟩⟩
 case round =>
  clear HL H1 H2 HR
  obtain ⟨r1, P, rfl, HL, H1, H2, HR, HN, HM⟩ := hrel
  have w1 : wr.cell? ⟨c1, 0, none⟩ = some (.pointer (some ⟨lx, 0, none⟩)) := (blk_cell H1.out 0).trans rfl
  obtain ⟨vd, hlx, -⟩ := HL.out.ob
  obtain ⟨l, hbuf⟩ := HL.out.buf
  have l0 : wr.cell? ⟨lx, 0, none⟩ = some (.pointer (some ⟨g, 0, none⟩)) := (blk_cell hlx 0).trans rfl
  have RC := Aside0.mk (HRC.out W0 g r1 l wr HT.out HL.out.bel HL.out.gb hbuf HSZ.out)
  obtain ⟨wb, db, hbk, -⟩ := hbuf
  have HBK := Aside0.mk hbk
  have hps : P.size ≤ 4000000 := by
   have h := HN.out.2.1
   have hl : text.data.toList.length = text.size := Array.length_toList
   have := HSZ.out
   rw [List.length_drop] at h
   omega
  have HPS := Aside0.mk hps
  clear hlx hbk hps
  go_upto_region 8 with (first
   | (go_at_call 73; refine RC.out.mono ?_; rintro e w2 hpost; obtain ⟨hg2, hor⟩ := rune_nm hpost; have HG2 := Aside0.mk hg2; have K1 := Aside0.mk (blk_grown H1.out hg2 (by intro e; cases e; have h8 := HBK.out; rw [H1.out] at h8; simp [capL, bufObj] at h8)); have K2 := Aside0.mk (blk_grown H2.out hg2 (by intro e; cases e; have h8 := HBK.out; rw [H2.out] at h8; simp [capS, bufObj] at h8)); have y1 : w2.cell? ⟨c1, 0, none⟩ = some (.pointer (some ⟨lx, 0, none⟩)) := (blk_cell K1.out 0).trans rfl; have y2 : w2.cell? ⟨c2, 0, none⟩ = some (.string (sB a)) := (blk_cell K2.out 0).trans rfl; clear hpost hg2; rcases hor with ⟨hre, rfl, hbuf⟩ | ⟨c, n, hlt, hrune, rfl, hbuf, (⟨h1, h2⟩ | ⟨h1, h2, h3⟩ | ⟨h1, h2, h3, h4⟩ | ⟨h1, h2, h3, h4, h5, h6⟩)⟩)
   | (go_at_call 58; refine (err_new _ _).mono ?_; rintro e w3 ⟨⟨et, eu, rfl⟩, hb3⟩)
   | (go_at_call 112; refine (trim_call P _ (by have := HPS.out; omega) (utab_below HT.out (HL.out.grown HG2.out ⟨_, hbuf⟩).bel)).mono ?_; rintro e w3 ⟨rfl, hb3⟩; have K13 := Aside0.mk (blk_below K1.out hb3); have K23 := Aside0.mk (blk_below K2.out hb3); have z1 : w3.cell? ⟨c1, 0, none⟩ = some (.pointer (some ⟨lx, 0, none⟩)) := (blk_cell K13.out 0).trans rfl; have z2 : w3.cell? ⟨c2, 0, none⟩ = some (.string (sB a)) := (blk_cell K23.out 0).trans rfl)
   | (go_at_call 113; refine (made_ov W0.heap.size lx a (Lib.trimSpaceD P.data.toList) [] _ (Nat.le_trans (HL.out.grown HG2.out ⟨_, hbuf⟩).bel.size hb3.size)).mono ?_; rintro e w4 ⟨v, rfl, hR4, hb4⟩)
   | fail)
  ·go_ret2
   exact StepPost.done (er := true) (name_done HN.out (.inl (drop_end hre))) ⟨_, _, rfl⟩ (HL.out.grown HG2.out ⟨_, hbuf⟩)
  ·go_ret2
   exact StepPost.done (er := true) (name_done HN.out (.inr ⟨c, n, hrune, h2⟩)) ⟨et, eu, rfl⟩ ((HL.out.grown HG2.out ⟨_, hbuf⟩).below hb3)
  ·go_ret2
   exact StepPost.done (er := true) (name_done HN.out (.inr ⟨c, n, hrune, h3⟩)) ⟨et, eu, rfl⟩ ((HL.out.grown HG2.out ⟨_, hbuf⟩).below hb3)
  ·go_ret2
   have hrn := rune_le hrune HR.out
   subst h4
   exact StepPost.go (q' := .ov a (Lib.trimSpaceD P.data.toList) []) (name_go HN.out hrune) hR4 (((HL.out.grown HG2.out ⟨_, hbuf⟩).below hb3).below hb4) (by rw [List.drop_drop]) hrn
  ·obtain ⟨E, hE⟩ : ∃ E, Utf8.encode (c : Int) = E := ⟨_, rfl⟩
   have hcv : ∀ W, (convert 21 9 (.int .i32 (c : Int))).run Tryd.prog W = .ok (.string E) W := fun W => by rw [← hE]; exact run_convert_int_string W _ _ _ _ (by kernel_rfl) Tryd.underlying9
   have hes : E.size ≤ 4 := by rw [← hE]; exact enc_le _
   have hsum : (9223372036854775807 < P.size + E.size) = False := eq_false (by have := HPS.out; omega)
   have HN2 := Aside0.mk (name_step HN.out hrune h4 h5 h6)
   rw [hE] at HN2
   have hrn := rune_le hrune HR.out
   have hr1 := hrune.1
   clear hE
   go_wp2
   go_roundg (gk - 1)
   case measure => have := HM.out; omega
   case rel => exact ⟨r1 + n, P ++ E, rfl, ⟨HL.out.grown HG2.out ⟨_, hbuf⟩⟩, K1, K2, ⟨hrn⟩, ⟨by have := HN2.out; rw [List.drop_drop] at this; exact this⟩, ⟨by have := HM.out; omega⟩⟩
end Go.Proofs.YtgnfapnnbcafbaaDoor.UN
end
