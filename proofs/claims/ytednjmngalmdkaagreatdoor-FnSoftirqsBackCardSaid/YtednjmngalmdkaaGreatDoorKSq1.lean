/- Texts of this claim, put together: Opens, GPCx0, GivenPU, GivenShelfP, GivenPC, GPCx1, LOpen, LaidT, PFld, PRF, GivenPF1, GivenPF, GPCx7, GivenLd, GivenBox. Conditions: as each one says. -/
import Derived.Test.YtednjmngalmdkaaGreatDoorKSq0
import Derived.Deep.Slices
import Derived.ChangeArms
import Derived.DataReads
import Derived.Test.YtednjmngalmdkaaGreatDoorProg
import Derived.Below
import Derived.Deep.Draws
import Derived.Deep.AppendLies
import Derived.Maps.AppendAt
import Derived.OwnWalk
import Derived.Laws.BytesArg
import Derived.Laws.MakeOwn
import Derived.Laws.OwnMore
import Derived.Deep.OwnRows
import Derived.Tactics
import Derived.Lib.ConvBytes
import Derived.Laws.Slices
import Derived.WalkKit
import Derived.KernelRfl
import Derived.RowKit3
import Derived.Deep.LoopGhost
import Derived.Deep.QuietTactic
import Derived.BigQuiet
import Derived.WideLaws
import Derived.Deep.DeepCutAuto
import Derived.Deep.CutBlock
import Derived.Deep.RegionHeld3
import Derived.Laws.Rows
import Derived.Lib.AppendStr
import Derived.ArgAppend
import Derived.Laws.IdiomCopy
import Derived.OrdersHeld
import Derived.Laws.BitsLemmas
import Derived.RowKit
import Derived.Lib.Strings
import Derived.Lib.Walk
import Derived.Lib.Hide
import Derived.Laws.Strings3
import Derived.Laws.Closers25
import Derived.Laws.Closers25b
import Derived.Lib.AtoiAllMem
import Derived.Lib.AtoiErrMem
import Derived.BigCall
import Derived.BigGuard
import Derived.Shelf.Strings.SplitShaped
import Derived.Shelf.LaysM
import Derived.Laws.Externs
import Derived.Test.YtednjmngalmdkaaGreatDoorRows
import Derived.Lib.LaidU8
import Derived.MakeChecks
import Derived.Lib.Fields
import Derived.Lib.ItoaNum
import Derived.WalkMore
import Derived.Laws.FloatArith
import Derived.Laws.ShiftsVarLaws
import Derived.StillTailTactics
import Derived.Defers
import Derived.Recover
section
/- What a call's arguments lay in memory, read as the print's kinds: whole numbers, bools, strings, structs, slices of them, to any depth. No condition. -/
namespace Go.Proofs.YtednjmngalmdkaaGreatDoor.OP
open Go.ChangeShapes Go.WideShapes Go.Deep Go.Proofs.YtednjmngalmdkaaGreatDoorW.PrintWords
set_option linter.unusedVariables false
def Opens {α : Type} (P : Program) (d : Kd α) (t : TypeId) (Q : α → Prop) : Prop :=
 P.cellsOf t = d.sz ∧ ∀ {H : Type} {enc : TypeId × Value → H} {W : World} {base : Nat} {spare : Nat → Bool} {fuel : Nat} {cs : List Value} {x : DataW H × List MemPlace},
  DataW.trod enc P W base spare true fuel t cs = some x → ∃ v : α, d.K W v cs ∧ Q v
structure Fields {α : Type} (P : Program) (d : Kd α) (fs : List Field) (off : Nat) (Q : α → Prop) : Prop where
 out : ∀ {H : Type} {enc : TypeId × Value → H} {W : World} {base : Nat} {spare : Nat → Bool} {fuel : Nat} {cs : List Value},
  cs.length = off + d.sz → (∀ f ∈ fs, ∃ x, DataW.trod enc P W base spare true fuel f.type ((cs.drop f.offset).take (P.cellsOf f.type)) = some x) → ∃ v : α, d.K W v (cs.drop off) ∧ Q v
theorem Opens.any {α : Type} {P : Program} {d : Kd α} {t : TypeId} {Q : α → Prop} (h : Opens P d t Q) : Opens P d t (fun _ => True) :=
 ⟨h.1, fun hx => by
  obtain ⟨v, hv, _⟩ := h.2 hx
  exact ⟨v, hv, trivial⟩⟩
theorem opens_int {P : Program} {t : TypeId} {k : IntKind} (ht : P.underlying t = some (.int k)) (hc : P.cellsOf t = 1) : Opens P (Kd.int k) t (fun n => (Lit.int k n).wf = true) :=
 ⟨hc, fun h => by
  obtain ⟨n, rfl, _, hw⟩ := DataW.trod_int ht h
  exact ⟨n, rfl, hw⟩⟩
theorem opens_string {P : Program} {t : TypeId} (ht : P.underlying t = some .string) (hc : P.cellsOf t = 1) : Opens P Kd.string t (fun s => s.size ≤ maxLen) :=
 ⟨hc, fun h => by
  obtain ⟨s, rfl, _, hw⟩ := DataW.trod_string ht h
  exact ⟨s, rfl, hw⟩⟩
theorem list_of {α : Type} {p : Nat → α → Prop} : ∀ (n : Nat), (∀ i, i < n → ∃ x, p i x) → ∃ xs : List α, xs.length = n ∧ ∀ i x, xs[i]? = some x → p i x
 | 0, _ => ⟨[], rfl, fun i x h => by simp at h⟩
 | n + 1, h => by
  obtain ⟨xs, hl, hp⟩ := list_of n (fun i hi => h i (by omega))
  obtain ⟨y, hy⟩ := h n (by omega)
  refine ⟨xs ++ [y], by simp [hl], fun i x hx => ?_⟩
  rcases Nat.lt_or_ge i xs.length with hlt | hge
  ·rw [List.getElem?_append_left hlt] at hx
   exact hp i x hx
  ·rw [List.getElem?_append_right hge] at hx
   have h0 : i - xs.length = 0 := by
    have := (List.getElem?_eq_some_iff.1 hx).1
    simp only [List.length_singleton] at this
    omega
   rw [h0] at hx
   obtain rfl : y = x := by simpa using hx
   obtain rfl : i = n := by omega
   exact hy
theorem slice_at {α : Type} {P : Program} {d : Kd α} {t e : TypeId} {Q : α → Prop} (ho : Opens P d e Q) (ht : P.underlying t = some (.slice e)) {H : Type} {enc : TypeId × Value → H} {W : World} {base : Nat} {spare : Nat → Bool} {fuel : Nat} {cs : List Value} {x : DataW H × List MemPlace}
  (h : DataW.trod enc P W base spare true fuel t cs = some x) : ∃ (A : Option Addr) (c : Nat) (xs : List α), cs = [.slice A xs.length c] ∧ xs.length ≤ c ∧ c ≤ maxLen ∧ d.C W A xs.length xs ∧ ∀ v ∈ xs, Q v := by
 rcases open_slice ht h with ⟨rfl, _⟩ | ⟨a, len, cap, m, n, D, Pl, rfl, _, hl, hm, hmm, _, hi⟩
 ·exact ⟨none, 0, [], rfl, Nat.le_refl _, Nat.zero_le _, ⟨rfl, by simp, fun h => absurd h (Nat.lt_irrefl 0)⟩, fun v hv => by simp at hv⟩
 ·have hlm : len ≤ m := by rw [hmm]; split <;> omega
  obtain ⟨xs, hxl, hp⟩ := list_of (α := α) (p := fun i v => ∃ c : List Value, c.length = d.sz ∧ d.K W v c ∧ (∀ j u, c[j]? = some u → W.cell? (a.add (i * d.sz + j)) = some u) ∧ Q v) len (fun i hi' => by
   obtain ⟨cs', hc, ht'⟩ := hi i (by omega)
   obtain ⟨v, hk, hq⟩ := ho.2 ht'
   obtain ⟨_, hcl, hat⟩ := World.cells?_some hc
   rw [ho.1] at hcl hat
   refine ⟨v, cs', hcl, hk, fun j u hj => ?_, hq⟩
   have hjl : j < d.sz := by rw [← hcl]; exact (List.getElem?_eq_some_iff.1 hj).1
   rw [← Go.Deep.add_add, hat j hjl, hj])
  subst hxl
  refine ⟨some a, cap, xs, rfl, hl, hm, ⟨rfl, ?_, fun _ => ⟨a, rfl, fun j p hj => ?_⟩⟩, fun v hv => ?_⟩
  ·unfold maxLen at hm; omega
  ·obtain ⟨c, h1, h2, h3, _⟩ := hp j p hj
   exact ⟨c, h1, h2, h3⟩
  ·obtain ⟨i, hi', hv'⟩ := List.getElem_of_mem hv
   obtain ⟨_, _, _, _, hq⟩ := hp i v (by rw [List.getElem?_eq_getElem hi', hv'])
   exact hq
theorem fields_one {α : Type} {P : Program} {d : Kd α} {f : Field} {off : Nat} {Q : α → Prop} (hf : f.offset = off) (ho : Opens P d f.type Q) : Fields P d [f] off Q := by
 constructor
 intro H enc W base spare fuel cs hl h
 obtain ⟨x, hx⟩ := h f (by simp)
 rw [hf, ho.1, List.take_of_length_le (by rw [List.length_drop]; omega)] at hx
 exact ho.2 hx
theorem fields_cons {α β : Type} {P : Program} {a : Kd α} {b : Kd β} {f : Field} {fs : List Field} {off : Nat} {Q : α → Prop} {R : β → Prop} (hf : f.offset = off) (ho : Opens P a f.type Q) (hs : Fields P b fs (off + a.sz) R) :
  Fields P (Kd.pair a b) (f :: fs) off (fun v => Q v.1 ∧ R v.2) := by
 constructor
 intro H enc W base spare fuel cs hl h
 have hl' : cs.length = off + (a.sz + b.sz) := hl
 obtain ⟨x, hx⟩ := h f (by simp)
 rw [hf, ho.1] at hx
 obtain ⟨u, hu, hq⟩ := ho.2 hx
 obtain ⟨v, hv, hr⟩ := hs.out (by omega) (fun g hg => h g (List.mem_cons_of_mem _ hg))
 refine ⟨(u, v), ⟨(cs.drop off).take a.sz, cs.drop (off + a.sz), ?_, hu, hv⟩, hq, hr⟩
 rw [← List.drop_drop, List.take_append_drop]
theorem opens_struct {α β : Type} {P : Program} {d : Kd α} {t : TypeId} {fs : Array Field} {Q : α → Prop} (proj : β → α) (inj : α → β) (hi : ∀ v, proj (inj v) = v) (ht : P.underlying t = some (.struct fs)) (hc : P.cellsOf t = d.sz) (ho : Fields P d fs.toList 0 Q) :
  Opens P (Kd.iso d proj) t (fun v => Q (proj v)) :=
 ⟨hc, fun {H enc W base spare fuel cs x} h => by
  obtain ⟨xs, n, rfl, _, hl, hxl, hf⟩ := DataW.trod_struct ht h
  have hz : cs.length = 0 + d.sz := by rw [hl, hc]; omega
  obtain ⟨v, hv, hq⟩ := ho.out (enc := enc) (W := W) (base := base) (spare := spare) (fuel := n) (cs := cs) hz (fun f hfm => by
   obtain ⟨i, hi', he⟩ := List.getElem_of_mem hfm
   have hi2 : i < fs.size := by simpa using hi'
   have hfi : fs[i]? = some f := by rw [Array.getElem?_eq_getElem hi2, ← he]; simp
   refine ⟨xs[i]'(by omega), ?_⟩
   rw [hf i f hfi, List.getElem?_eq_getElem])
  refine ⟨inj v, ?_, ?_⟩
  ·show d.K W (proj (inj v)) cs
   rw [hi v]
   exact hv
  ·show Q (proj (inj v))
   rw [hi v]
   exact hq⟩
end Go.Proofs.YtednjmngalmdkaaGreatDoor.OP
end
section
namespace Go.Proofs.YtednjmngalmdkaaGreatDoor.GPC
open Go.RowKit Go.Proofs.YtednjmngalmdkaaGreatDoorW.PrintWords Go.Proofs.YtednjmngalmdkaaGreatDoorW.PrintLast Go.Proofs.YtednjmngalmdkaaGreatDoorW.PrintMore
attribute [local go_sem] max2_int min2_int max_two min_two max_three min_three max_four min_four   -- for this text's walks alone
set_option linter.unusedVariables false
set_option linter.unusedSimpArgs false
def errW : Option Int → Value
 | none => .nilIface
 | some c => .iface 0 (.int .i64 c)
theorem errW_none : errW none = .nilIface := rfl
theorem errW_some (c : Int) : errW (some c) = .iface 0 (.int .i64 c) := rfl
def kF64 : Kd Nat := Kd.scalar (Value.float .f64) (fun _ => rfl)
theorem run_store_float {P : Program} {a : Addr} {m : Mode} {w : World} (k : FloatKind) (b : Nat) : (store a (.float k b) m).run P w = stored P w a (.float k b) m := run_store P w a _ m rfl
theorem info39 : (Tryz.prog.info? 39).map (fun i => (i.zero, i.size, i.bytes)) = some (some (.agg #[(.string ⟨#[]⟩), (.int .i64 0), (.bool false), (.int .i64 0), (.int .u64 0), (.float .f64 0), (.string ⟨#[]⟩), (.slice none 0 0)]), 8, 96) := by kernel_rfl
theorem info43 : (Tryz.prog.info? 43).map (fun i => (i.zero, i.size, i.bytes)) = some (some (.agg #[(.string ⟨#[]⟩), (.int .i64 0), (.bool false), (.int .i64 0), (.int .u64 0), (.float .f64 0), (.string ⟨#[]⟩), (.slice none 0 0)]), 8, 96) := by kernel_rfl
structure S31 where
 f0 : ByteArray
 f1 : (List Int)
 f2 : (List ByteArray)
def z31 : S31 := ⟨(⟨#[]⟩ : ByteArray), ([] : List Int), ([] : List ByteArray)⟩
def k31 : Kd S31 := Kd.iso (Kd.pair Kd.string (Kd.pair (Kd.slice 35 (Kd.int .u64)) (Kd.slice 9 Kd.string))) (fun x : S31 => (x.f0, x.f1, x.f2))
theorem k31_open {w : World} {x : S31} {cs : List Value} (h : k31.K w x cs) : ∃ A1 c1 A2 c2, cs = [.string x.f0, .slice A1 x.f1.length c1, .slice A2 x.f2.length c2] ∧ x.f1.length ≤ c1 ∧ (Kd.int .u64).C w A1 x.f1.length x.f1 ∧ x.f2.length ≤ c2 ∧ Kd.string.C w A2 x.f2.length x.f2 := by
 obtain ⟨_, _, rfl, rfl, ⟨_, _, rfl, ⟨A1, c1, rfl, l1, g1⟩, ⟨A2, c2, rfl, l2, g2⟩⟩⟩ := h
 exact ⟨A1, c1, A2, c2, rfl, l1, g1, l2, g2⟩
def rd_T31 (xs : List S31) (i : Int) : S31 := xs.getD i.toNat z31
theorem at_T31 {w : World} {A : Option Addr} {n : Nat} {xs : List S31} (h : Kd.C k31 w A n xs) (i : Int) (h0 : 0 ≤ i) (h1 : i < n) : ∃ ad A1 c1 A2 c2, A = some ad ∧ w.cell? (ad.add (i.toNat * 3)) = some (.string (rd_T31 xs i).f0) ∧ w.cell? ⟨(ad.add (i.toNat * 3)).block, (ad.add (i.toNat * 3)).off + 1, none⟩ = some (.slice A1 (rd_T31 xs i).f1.length c1) ∧ w.cell? ⟨(ad.add (i.toNat * 3)).block, (ad.add (i.toNat * 3)).off + 2, none⟩ = some (.slice A2 (rd_T31 xs i).f2.length c2) ∧ (rd_T31 xs i).f1.length ≤ c1 ∧ (Kd.int .u64).C w A1 (rd_T31 xs i).f1.length (rd_T31 xs i).f1 ∧ (rd_T31 xs i).f2.length ≤ c2 ∧ Kd.string.C w A2 (rd_T31 xs i).f2.length (rd_T31 xs i).f2 := by
 obtain ⟨ad, c, e, _, hK, hc0⟩ := Kd.C_get h z31 i h0 h1
 have hc : ∀ j u, c[j]? = some u → w.cell? (ad.add (i.toNat * 3 + j)) = some u := hc0
 obtain ⟨A1, c1, A2, c2, rfl, l1, g1, l2, g2⟩ := k31_open hK
 exact ⟨ad, A1, c1, A2, c2, e, hc 0 _ rfl, by rw [← add_field _ _ 1 (by omega)]; exact hc 1 _ rfl, by rw [← add_field _ _ 2 (by omega)]; exact hc 2 _ rfl, l1, g1, l2, g2⟩
structure S39 where
 f0 : ByteArray
 f1 : Int
 f2 : Bool
 f3 : Int
 f4 : Int
 f5 : Nat
 f6 : ByteArray
 f7 : (List S39)
def z39 : S39 := ⟨(⟨#[]⟩ : ByteArray), (0 : Int), false, (0 : Int), (0 : Int), (0 : Nat), (⟨#[]⟩ : ByteArray), ([] : List S39)⟩
def F39 (d : Kd S39) : Kd S39 := Kd.iso (Kd.pair Kd.string (Kd.pair (Kd.int .i64) (Kd.pair Kd.bool (Kd.pair (Kd.int .i64) (Kd.pair (Kd.int .u64) (Kd.pair kF64 (Kd.pair Kd.string (Kd.slice 39 d)))))))) (fun x : S39 => (x.f0, x.f1, x.f2, x.f3, x.f4, x.f5, x.f6, x.f7))
theorem mono39 : Kd.Mono F39 := Kd.mono_iso _ (Kd.mono_pair (Kd.mono_const _) (Kd.mono_pair (Kd.mono_const _) (Kd.mono_pair (Kd.mono_const _) (Kd.mono_pair (Kd.mono_const _) (Kd.mono_pair (Kd.mono_const _) (Kd.mono_pair (Kd.mono_const _) (Kd.mono_pair (Kd.mono_const _) (Kd.mono_slice 39 Kd.mono_id))))))))
theorem sub39 : Kd.Sub F39 [39] := Kd.sub_iso _ (Kd.sub_pair (Kd.sub_const _ (by decide)) (Kd.sub_pair (Kd.sub_const _ (by decide)) (Kd.sub_pair (Kd.sub_const _ (by decide)) (Kd.sub_pair (Kd.sub_const _ (by decide)) (Kd.sub_pair (Kd.sub_const _ (by decide)) (Kd.sub_pair (Kd.sub_const _ (by decide)) (Kd.sub_pair (Kd.sub_const _ (by decide)) (Kd.sub_slice 39 (by decide) Kd.sub_id))))))))
theorem sz39 : ∀ n, (Kd.upto F39 8 [39] n).sz = 8 := Kd.upto_sz (fun _ => rfl)
def k39 : Kd S39 := Kd.fix F39 8 [39] sz39 (Kd.upto_E sub39)
theorem k39_open {w : World} {x : S39} {cs : List Value} (h : k39.K w x cs) : ∃ A7 c7, cs = [.string x.f0, .int .i64 x.f1, .bool x.f2, .int .i64 x.f3, .int .u64 x.f4, .float .f64 x.f5, .string x.f6, .slice A7 x.f7.length c7] ∧ x.f7.length ≤ c7 ∧ k39.C w A7 x.f7.length x.f7 := by
 obtain ⟨n, h⟩ := h
 cases n with
 | zero => exact h.elim
 | succ n =>
  obtain ⟨_, _, rfl, rfl, ⟨_, _, rfl, rfl, ⟨_, _, rfl, rfl, ⟨_, _, rfl, rfl, ⟨_, _, rfl, rfl, ⟨_, _, rfl, rfl, ⟨_, _, rfl, rfl, ⟨A7, c7, rfl, l7, g7⟩⟩⟩⟩⟩⟩⟩⟩ := h
  exact ⟨A7, c7, rfl, l7, Kd.fix_C g7⟩
theorem k39_mk (w : World) (x : S39) {A7 : Option Addr} {c7 : Nat} (l7 : x.f7.length ≤ c7) (g7 : k39.C w A7 x.f7.length x.f7) : k39.K w x [.string x.f0, .int .i64 x.f1, .bool x.f2, .int .i64 x.f3, .int .u64 x.f4, .float .f64 x.f5, .string x.f6, .slice A7 x.f7.length c7] := by
 obtain ⟨n7, q7⟩ := Kd.fix_C_back mono39 g7
 have r7 := Kd.upto_C_le mono39 sz39 (show n7 ≤ n7 by omega) q7
 exact ⟨n7 + 1, ⟨[.string x.f0], [.int .i64 x.f1, .bool x.f2, .int .i64 x.f3, .int .u64 x.f4, .float .f64 x.f5, .string x.f6, .slice A7 x.f7.length c7], rfl, rfl, ⟨[.int .i64 x.f1], [.bool x.f2, .int .i64 x.f3, .int .u64 x.f4, .float .f64 x.f5, .string x.f6, .slice A7 x.f7.length c7], rfl, rfl, ⟨[.bool x.f2], [.int .i64 x.f3, .int .u64 x.f4, .float .f64 x.f5, .string x.f6, .slice A7 x.f7.length c7], rfl, rfl, ⟨[.int .i64 x.f3], [.int .u64 x.f4, .float .f64 x.f5, .string x.f6, .slice A7 x.f7.length c7], rfl, rfl, ⟨[.int .u64 x.f4], [.float .f64 x.f5, .string x.f6, .slice A7 x.f7.length c7], rfl, rfl, ⟨[.float .f64 x.f5], [.string x.f6, .slice A7 x.f7.length c7], rfl, rfl, ⟨[.string x.f6], [.slice A7 x.f7.length c7], rfl, rfl, ⟨A7, c7, rfl, l7, r7⟩⟩⟩⟩⟩⟩⟩⟩⟩
theorem k39_mkM (w : World) (base : Nat) (ok : Nat → Prop) (x : S39) {v7 : Value} (g7 : k39.R 39 w base ok v7 x.f7) : k39.M w base ok x [.string x.f0, .int .i64 x.f1, .bool x.f2, .int .i64 x.f3, .int .u64 x.f4, .float .f64 x.f5, .string x.f6, v7] := by
 obtain ⟨n7, q7⟩ := Kd.fix_R_back mono39 g7
 have r7 := Kd.upto_R_le mono39 sz39 (show n7 ≤ n7 by omega) q7
 exact ⟨n7 + 1, ⟨[.string x.f0], [.int .i64 x.f1, .bool x.f2, .int .i64 x.f3, .int .u64 x.f4, .float .f64 x.f5, .string x.f6, v7], rfl, rfl, ⟨[.int .i64 x.f1], [.bool x.f2, .int .i64 x.f3, .int .u64 x.f4, .float .f64 x.f5, .string x.f6, v7], rfl, rfl, ⟨[.bool x.f2], [.int .i64 x.f3, .int .u64 x.f4, .float .f64 x.f5, .string x.f6, v7], rfl, rfl, ⟨[.int .i64 x.f3], [.int .u64 x.f4, .float .f64 x.f5, .string x.f6, v7], rfl, rfl, ⟨[.int .u64 x.f4], [.float .f64 x.f5, .string x.f6, v7], rfl, rfl, ⟨[.float .f64 x.f5], [.string x.f6, v7], rfl, rfl, ⟨[.string x.f6], [v7], rfl, rfl, ⟨v7, rfl, r7⟩⟩⟩⟩⟩⟩⟩⟩⟩
theorem k39_mkF (W : World) (ok : Nat → Prop) (x : S39) {A7 : Option Addr} {c7 : Nat} (l7 : x.f7.length ≤ c7) (g7 : Kd.F k39 W ok A7 x.f7.length x.f7) : Kd.FK k39 W ok x [.string x.f0, .int .i64 x.f1, .bool x.f2, .int .i64 x.f3, .int .u64 x.f4, .float .f64 x.f5, .string x.f6, .slice A7 x.f7.length c7] := fun W2 hW => k39_mk W2 x l7 (g7 W2 hW)
def rd_T39 (xs : List S39) (i : Int) : S39 := xs.getD i.toNat z39
theorem at_T39 {w : World} {A : Option Addr} {n : Nat} {xs : List S39} (h : Kd.C k39 w A n xs) (i : Int) (h0 : 0 ≤ i) (h1 : i < n) : ∃ ad A7 c7, A = some ad ∧ w.cell? (ad.add (i.toNat * 8)) = some (.string (rd_T39 xs i).f0) ∧ w.cell? ⟨(ad.add (i.toNat * 8)).block, (ad.add (i.toNat * 8)).off + 1, none⟩ = some (.int .i64 (rd_T39 xs i).f1) ∧ w.cell? ⟨(ad.add (i.toNat * 8)).block, (ad.add (i.toNat * 8)).off + 2, none⟩ = some (.bool (rd_T39 xs i).f2) ∧ w.cell? ⟨(ad.add (i.toNat * 8)).block, (ad.add (i.toNat * 8)).off + 3, none⟩ = some (.int .i64 (rd_T39 xs i).f3) ∧ w.cell? ⟨(ad.add (i.toNat * 8)).block, (ad.add (i.toNat * 8)).off + 4, none⟩ = some (.int .u64 (rd_T39 xs i).f4) ∧ w.cell? ⟨(ad.add (i.toNat * 8)).block, (ad.add (i.toNat * 8)).off + 5, none⟩ = some (.float .f64 (rd_T39 xs i).f5) ∧ w.cell? ⟨(ad.add (i.toNat * 8)).block, (ad.add (i.toNat * 8)).off + 6, none⟩ = some (.string (rd_T39 xs i).f6) ∧ w.cell? ⟨(ad.add (i.toNat * 8)).block, (ad.add (i.toNat * 8)).off + 7, none⟩ = some (.slice A7 (rd_T39 xs i).f7.length c7) ∧ (rd_T39 xs i).f7.length ≤ c7 ∧ k39.C w A7 (rd_T39 xs i).f7.length (rd_T39 xs i).f7 := by
 obtain ⟨ad, c, e, _, hK, hc0⟩ := Kd.C_get h z39 i h0 h1
 have hc : ∀ j u, c[j]? = some u → w.cell? (ad.add (i.toNat * 8 + j)) = some u := hc0
 obtain ⟨A7, c7, rfl, l7, g7⟩ := k39_open hK
 exact ⟨ad, A7, c7, e, hc 0 _ rfl, by rw [← add_field _ _ 1 (by omega)]; exact hc 1 _ rfl, by rw [← add_field _ _ 2 (by omega)]; exact hc 2 _ rfl, by rw [← add_field _ _ 3 (by omega)]; exact hc 3 _ rfl, by rw [← add_field _ _ 4 (by omega)]; exact hc 4 _ rfl, by rw [← add_field _ _ 5 (by omega)]; exact hc 5 _ rfl, by rw [← add_field _ _ 6 (by omega)]; exact hc 6 _ rfl, by rw [← add_field _ _ 7 (by omega)]; exact hc 7 _ rfl, l7, g7⟩
structure S43 where
 f0 : ByteArray
 f1 : Int
 f2 : Bool
 f3 : Int
 f4 : Int
 f5 : Nat
 f6 : ByteArray
 f7 : (List S43)
def z43 : S43 := ⟨(⟨#[]⟩ : ByteArray), (0 : Int), false, (0 : Int), (0 : Int), (0 : Nat), (⟨#[]⟩ : ByteArray), ([] : List S43)⟩
def F43 (d : Kd S43) : Kd S43 := Kd.iso (Kd.pair Kd.string (Kd.pair (Kd.int .i64) (Kd.pair Kd.bool (Kd.pair (Kd.int .i64) (Kd.pair (Kd.int .u64) (Kd.pair kF64 (Kd.pair Kd.string (Kd.slice 43 d)))))))) (fun x : S43 => (x.f0, x.f1, x.f2, x.f3, x.f4, x.f5, x.f6, x.f7))
theorem mono43 : Kd.Mono F43 := Kd.mono_iso _ (Kd.mono_pair (Kd.mono_const _) (Kd.mono_pair (Kd.mono_const _) (Kd.mono_pair (Kd.mono_const _) (Kd.mono_pair (Kd.mono_const _) (Kd.mono_pair (Kd.mono_const _) (Kd.mono_pair (Kd.mono_const _) (Kd.mono_pair (Kd.mono_const _) (Kd.mono_slice 43 Kd.mono_id))))))))
theorem sub43 : Kd.Sub F43 [43] := Kd.sub_iso _ (Kd.sub_pair (Kd.sub_const _ (by decide)) (Kd.sub_pair (Kd.sub_const _ (by decide)) (Kd.sub_pair (Kd.sub_const _ (by decide)) (Kd.sub_pair (Kd.sub_const _ (by decide)) (Kd.sub_pair (Kd.sub_const _ (by decide)) (Kd.sub_pair (Kd.sub_const _ (by decide)) (Kd.sub_pair (Kd.sub_const _ (by decide)) (Kd.sub_slice 43 (by decide) Kd.sub_id))))))))
theorem sz43 : ∀ n, (Kd.upto F43 8 [43] n).sz = 8 := Kd.upto_sz (fun _ => rfl)
def k43 : Kd S43 := Kd.fix F43 8 [43] sz43 (Kd.upto_E sub43)
theorem k43_open {w : World} {x : S43} {cs : List Value} (h : k43.K w x cs) : ∃ A7 c7, cs = [.string x.f0, .int .i64 x.f1, .bool x.f2, .int .i64 x.f3, .int .u64 x.f4, .float .f64 x.f5, .string x.f6, .slice A7 x.f7.length c7] ∧ x.f7.length ≤ c7 ∧ k43.C w A7 x.f7.length x.f7 := by
 obtain ⟨n, h⟩ := h
 cases n with
 | zero => exact h.elim
 | succ n =>
  obtain ⟨_, _, rfl, rfl, ⟨_, _, rfl, rfl, ⟨_, _, rfl, rfl, ⟨_, _, rfl, rfl, ⟨_, _, rfl, rfl, ⟨_, _, rfl, rfl, ⟨_, _, rfl, rfl, ⟨A7, c7, rfl, l7, g7⟩⟩⟩⟩⟩⟩⟩⟩ := h
  exact ⟨A7, c7, rfl, l7, Kd.fix_C g7⟩
theorem k43_mkM (w : World) (base : Nat) (ok : Nat → Prop) (x : S43) {v7 : Value} (g7 : k43.R 43 w base ok v7 x.f7) : k43.M w base ok x [.string x.f0, .int .i64 x.f1, .bool x.f2, .int .i64 x.f3, .int .u64 x.f4, .float .f64 x.f5, .string x.f6, v7] := by
 obtain ⟨n7, q7⟩ := Kd.fix_R_back mono43 g7
 have r7 := Kd.upto_R_le mono43 sz43 (show n7 ≤ n7 by omega) q7
 exact ⟨n7 + 1, ⟨[.string x.f0], [.int .i64 x.f1, .bool x.f2, .int .i64 x.f3, .int .u64 x.f4, .float .f64 x.f5, .string x.f6, v7], rfl, rfl, ⟨[.int .i64 x.f1], [.bool x.f2, .int .i64 x.f3, .int .u64 x.f4, .float .f64 x.f5, .string x.f6, v7], rfl, rfl, ⟨[.bool x.f2], [.int .i64 x.f3, .int .u64 x.f4, .float .f64 x.f5, .string x.f6, v7], rfl, rfl, ⟨[.int .i64 x.f3], [.int .u64 x.f4, .float .f64 x.f5, .string x.f6, v7], rfl, rfl, ⟨[.int .u64 x.f4], [.float .f64 x.f5, .string x.f6, v7], rfl, rfl, ⟨[.float .f64 x.f5], [.string x.f6, v7], rfl, rfl, ⟨[.string x.f6], [v7], rfl, rfl, ⟨v7, rfl, r7⟩⟩⟩⟩⟩⟩⟩⟩⟩
def rd_T43 (xs : List S43) (i : Int) : S43 := xs.getD i.toNat z43
theorem at_T43 {w : World} {A : Option Addr} {n : Nat} {xs : List S43} (h : Kd.C k43 w A n xs) (i : Int) (h0 : 0 ≤ i) (h1 : i < n) : ∃ ad A7 c7, A = some ad ∧ w.cell? (ad.add (i.toNat * 8)) = some (.string (rd_T43 xs i).f0) ∧ w.cell? ⟨(ad.add (i.toNat * 8)).block, (ad.add (i.toNat * 8)).off + 1, none⟩ = some (.int .i64 (rd_T43 xs i).f1) ∧ w.cell? ⟨(ad.add (i.toNat * 8)).block, (ad.add (i.toNat * 8)).off + 2, none⟩ = some (.bool (rd_T43 xs i).f2) ∧ w.cell? ⟨(ad.add (i.toNat * 8)).block, (ad.add (i.toNat * 8)).off + 3, none⟩ = some (.int .i64 (rd_T43 xs i).f3) ∧ w.cell? ⟨(ad.add (i.toNat * 8)).block, (ad.add (i.toNat * 8)).off + 4, none⟩ = some (.int .u64 (rd_T43 xs i).f4) ∧ w.cell? ⟨(ad.add (i.toNat * 8)).block, (ad.add (i.toNat * 8)).off + 5, none⟩ = some (.float .f64 (rd_T43 xs i).f5) ∧ w.cell? ⟨(ad.add (i.toNat * 8)).block, (ad.add (i.toNat * 8)).off + 6, none⟩ = some (.string (rd_T43 xs i).f6) ∧ w.cell? ⟨(ad.add (i.toNat * 8)).block, (ad.add (i.toNat * 8)).off + 7, none⟩ = some (.slice A7 (rd_T43 xs i).f7.length c7) ∧ (rd_T43 xs i).f7.length ≤ c7 ∧ k43.C w A7 (rd_T43 xs i).f7.length (rd_T43 xs i).f7 := by
 obtain ⟨ad, c, e, _, hK, hc0⟩ := Kd.C_get h z43 i h0 h1
 have hc : ∀ j u, c[j]? = some u → w.cell? (ad.add (i.toNat * 8 + j)) = some u := hc0
 obtain ⟨A7, c7, rfl, l7, g7⟩ := k43_open hK
 exact ⟨ad, A7, c7, e, hc 0 _ rfl, by rw [← add_field _ _ 1 (by omega)]; exact hc 1 _ rfl, by rw [← add_field _ _ 2 (by omega)]; exact hc 2 _ rfl, by rw [← add_field _ _ 3 (by omega)]; exact hc 3 _ rfl, by rw [← add_field _ _ 4 (by omega)]; exact hc 4 _ rfl, by rw [← add_field _ _ 5 (by omega)]; exact hc 5 _ rfl, by rw [← add_field _ _ 6 (by omega)]; exact hc 6 _ rfl, by rw [← add_field _ _ 7 (by omega)]; exact hc 7 _ rfl, l7, g7⟩
theorem guard_inv {α : Type} {c : Prop} [Decidable c] {a : Option α} {r : α} (h : (if c then a else none) = some r) : c ∧ a = some r := by
 by_cases hc : c
 ·rw [if_pos hc] at h; exact ⟨hc, h⟩
 ·rw [if_neg hc] at h; cases h
end Go.Proofs.YtednjmngalmdkaaGreatDoor.GPC
end
section
/- internal/strconv.ParseUint answers the number of a text of digits of the base, where it fits in the bits: 10 at 64 bits, 16 at 64 bits, 16 at 32 bits, 10 at 32 bits. Condition: the text is such (else nothing is said). -/
namespace Go.Proofs.YtednjmngalmdkaaGreatDoor.GPC
open Go.RowKit Go.Proofs.YtednjmngalmdkaaGreatDoorW.PrintWords
def digV (c : Nat) : Nat := if 48 ≤ c ∧ c ≤ 57 then c - 48 else if 97 ≤ c ∧ c ≤ 102 then c - 87 else if 65 ≤ c ∧ c ≤ 70 then c - 55 else 99
def puN (base mx : Nat) : Nat → List UInt8 → Option Nat
 | acc, [] => some acc
 | acc, c :: l => if digV c.toNat < base ∧ acc * base + digV c.toNat ≤ mx then puN base mx (acc * base + digV c.toNat) l else none
theorem digV_digit (c : Nat) (h0 : 48 ≤ c) (h1 : c ≤ 57) : digV c = c - 48 := by unfold digV; rw [if_pos ⟨h0, h1⟩]
theorem low_small : ((List.range 256).all fun n => decide (97 ≤ n ∧ n ≤ 102 → bits BinOp.or IntKind.u8 (n : Int) 32 = n) && decide (65 ≤ n ∧ n ≤ 70 → bits BinOp.or IntKind.u8 (n : Int) 32 = (n : Int) + 32)) = true := by decide +kernel
theorem low_is (n : Nat) (h : n < 256) (hd : ¬ (48 ≤ n ∧ n ≤ 57)) (hv : digV n < 16) : ∃ v : Int, bits BinOp.or IntKind.u8 (n : Int) 32 = v ∧ 97 ≤ v ∧ v ≤ 102 ∧ (digV n : Int) = v - 87 := by
 have := List.all_eq_true.1 low_small n (List.mem_range.2 h)
 simp only [Bool.and_eq_true, decide_eq_true_eq] at this
 unfold digV at hv ⊢
 rw [if_neg hd] at hv ⊢
 by_cases h1 : 97 ≤ n ∧ n ≤ 102
 ·rw [if_pos h1]; exact ⟨n, this.1 h1, by omega, by omega, by omega⟩
 ·rw [if_neg h1] at hv ⊢
  by_cases h2 : 65 ≤ n ∧ n ≤ 70
  ·rw [if_pos h2]; exact ⟨n + 32, this.2 h2, by omega, by omega, by omega⟩
  ·rw [if_neg h2] at hv; omega
set_option maxHeartbeats 400000 in
theorem lower_any (c : Int) (w : World) : Calls Tryz.prog 207 #[.int .u8 c] w fun e w' => e = .returned (.int .u8 (bits BinOp.or IntKind.u8 c 32)) ∧ w' = w := by
 go_enter Tryz.func207, Tryz.ntmps207
 go_wp2
 go_ret
 exact ⟨rfl, rfl⟩
set_option maxHeartbeats 32000000 in
set_option maxRecDepth 100000 in
theorem pu_10_64 (t : ByteArray) (hne : t.size ≠ 0) (hmax : t.size ≤ 9223372036854775806) (n : Nat) (hn : puN 10 18446744073709551615 0 t.data.toList = some n) (w : World) :
  Calls Tryz.prog 195 #[.string t, .int .i64 10, .int .i64 64] w fun e w' => e = .returned (.tuple #[.int .u64 (n : Int), .nilIface]) ∧ w' = Lib.bytesWorld w 5 t := by
 have hemp : t.toList.isEmpty = false := by
  rw [← decide_eq_emptyBytes]
  exact decide_eq_false (fun h => hne (by rw [h]; rfl))
 have hcv := Lib.run_convert_string_bytes (P := Tryz.prog) w 9 173 5 t (u := .string) Tryz.underlying9 Tryz.underlying173 Tryz.underlying5
 have hB : ∀ j, j < t.size → (Lib.bytesWorld w 5 t).cell? ⟨w.heap.size, j, none⟩ = some (.int .u8 (t.data.toList.getD j 0).toNat) := fun j hj => Lib.bytesWorld_cell w 5 t j hj
 obtain ⟨W1, hW1⟩ : ∃ W1, W1 = Lib.bytesWorld w 5 t := ⟨_, rfl⟩
 rw [← hW1] at hcv hB ⊢
 clear hW1
 obtain ⟨bs, hL⟩ : ∃ bs, bs = t.data.toList := ⟨_, rfl⟩
 have hLn : bs.length = t.size := by rw [hL, Lib.size_eq]
 rw [← hL] at hB hn
 clear hL
 have HN0 := Lib.hid hn
 clear hn
 have hmv : IntKind.u64.wrap (IntKind.u64.wrap 18446744073709551616 - 1) = 18446744073709551615 := by
  rw [IntKind.wrap_u64, IntKind.wrap_u64]
  decide
 go_enter Tryz.func195, Tryz.ntmps195
 go_wp2
 go_loop [12, 13, 101] (fun vu vn vi => ∃ (k acc : Nat) (a : Int), vu = .bool false ∧ vn = .int .u64 a ∧ vi = .int .i64 k ∧ k ≤ t.size ∧ Hid (a = (acc : Int) ∧ puN 10 18446744073709551615 acc (bs.drop k) = some n))
  (fun _ _ vi => t.size - (intOf vi).toNat)
 case atStart => exact ⟨0, 0, 0, rfl, rfl, rfl, by omega, rfl, HN0.out⟩
 case round =>
  clear HN0
  obtain ⟨k, acc, a, rfl, rfl, rfl, hk, hh⟩ := hrel
  obtain ⟨ha, hdec⟩ := hh.out
  clear hh
  have a0 : 0 ≤ a := by omega
  by_cases hkn : k < t.size
  ·have hc := hB k hkn
   have hdrop : bs.drop k = bs[k]'(by omega) :: bs.drop (k + 1) := List.drop_eq_getElem_cons (by omega)
   have hget : bs.getD k 0 = bs[k]'(by omega) := by simp [List.getD, List.getElem?_eq_getElem (show k < bs.length by omega)]
   rw [hdrop] at hdec
   rw [hget] at hc
   generalize bs[k]'(by omega) = c at hc hdec
   have hc256 : c.toNat < 256 := c.toNat_lt
   clear hB hdrop hget
   have hdl : digV c.toNat < 10 ∧ acc * 10 + digV c.toNat ≤ 18446744073709551615 := by
    simp only [puN] at hdec
    split at hdec
    ·assumption
    ·cases hdec
   simp only [puN, if_pos hdl] at hdec
   obtain ⟨hfit, hmx⟩ := hdl
   have hdl := True.intro
   by_cases hdig : 48 ≤ c.toNat ∧ c.toNat ≤ 57
   ·obtain ⟨hd0, hd1⟩ := hdig
    rw [digV_digit c.toNat hd0 hd1] at hfit hmx hdec
    have HN : Hid (a * 10 + ((c.toNat : Int) - 48) = ((acc * 10 + (c.toNat - 48) : Nat) : Int) ∧ puN 10 18446744073709551615 (acc * 10 + (c.toNat - 48)) (bs.drop (k + 1)) = some n) := Lib.hid ⟨by omega, hdec⟩
    have icut : a < 1844674407370955162 := by omega
    have iov : a * 10 + ((c.toNat : Int) - 48) ≤ 18446744073709551615 := by omega
    clear hdec hfit hmx hdl ha
    go_wp2
    refine ⟨⟨k + 1, acc * 10 + (c.toNat - 48), a * 10 + ((c.toNat : Int) - 48), rfl, (by first | rfl | (congr 1; omega)), (by first | rfl | (congr 1; omega)), by omega, HN⟩, by simp [intOf]; omega⟩
   ·exfalso
    have : digV c.toNat < 10 → 48 ≤ c.toNat ∧ c.toNat ≤ 57 := by unfold digV; split <;> (try split) <;> (try split) <;> omega
    exact hdig (this hfit)
  ·have hkk : k = t.size := by omega
   subst hkk
   rw [List.drop_eq_nil_of_le (by omega)] at hdec
   have e1 : acc = n := by simpa [puN] using hdec
   subst e1
   subst ha
   clear hdec a0
   go_wp2
   go_ret2
   exact ⟨rfl, rfl⟩
set_option maxHeartbeats 32000000 in
set_option maxRecDepth 100000 in
theorem pu_16_64 (t : ByteArray) (hne : t.size ≠ 0) (hmax : t.size ≤ 9223372036854775806) (n : Nat) (hn : puN 16 18446744073709551615 0 t.data.toList = some n) (w : World) :
  Calls Tryz.prog 195 #[.string t, .int .i64 16, .int .i64 64] w fun e w' => e = .returned (.tuple #[.int .u64 (n : Int), .nilIface]) ∧ w' = Lib.bytesWorld w 5 t := by
 have hemp : t.toList.isEmpty = false := by
  rw [← decide_eq_emptyBytes]
  exact decide_eq_false (fun h => hne (by rw [h]; rfl))
 have hcv := Lib.run_convert_string_bytes (P := Tryz.prog) w 9 173 5 t (u := .string) Tryz.underlying9 Tryz.underlying173 Tryz.underlying5
 have hB : ∀ j, j < t.size → (Lib.bytesWorld w 5 t).cell? ⟨w.heap.size, j, none⟩ = some (.int .u8 (t.data.toList.getD j 0).toNat) := fun j hj => Lib.bytesWorld_cell w 5 t j hj
 obtain ⟨W1, hW1⟩ : ∃ W1, W1 = Lib.bytesWorld w 5 t := ⟨_, rfl⟩
 rw [← hW1] at hcv hB ⊢
 clear hW1
 obtain ⟨bs, hL⟩ : ∃ bs, bs = t.data.toList := ⟨_, rfl⟩
 have hLn : bs.length = t.size := by rw [hL, Lib.size_eq]
 rw [← hL] at hB hn
 clear hL
 have HN0 := Lib.hid hn
 clear hn
 have hmv : IntKind.u64.wrap (IntKind.u64.wrap 18446744073709551616 - 1) = 18446744073709551615 := by
  rw [IntKind.wrap_u64, IntKind.wrap_u64]
  decide
 go_enter Tryz.func195, Tryz.ntmps195
 go_wp2
 go_loop [12, 13, 101] (fun vu vn vi => ∃ (k acc : Nat) (a : Int), vu = .bool false ∧ vn = .int .u64 a ∧ vi = .int .i64 k ∧ k ≤ t.size ∧ Hid (a = (acc : Int) ∧ puN 16 18446744073709551615 acc (bs.drop k) = some n))
  (fun _ _ vi => t.size - (intOf vi).toNat)
 case atStart => exact ⟨0, 0, 0, rfl, rfl, rfl, by omega, rfl, HN0.out⟩
 case round =>
  clear HN0
  obtain ⟨k, acc, a, rfl, rfl, rfl, hk, hh⟩ := hrel
  obtain ⟨ha, hdec⟩ := hh.out
  clear hh
  have a0 : 0 ≤ a := by omega
  by_cases hkn : k < t.size
  ·have hc := hB k hkn
   have hdrop : bs.drop k = bs[k]'(by omega) :: bs.drop (k + 1) := List.drop_eq_getElem_cons (by omega)
   have hget : bs.getD k 0 = bs[k]'(by omega) := by simp [List.getD, List.getElem?_eq_getElem (show k < bs.length by omega)]
   rw [hdrop] at hdec
   rw [hget] at hc
   generalize bs[k]'(by omega) = c at hc hdec
   have hc256 : c.toNat < 256 := c.toNat_lt
   clear hB hdrop hget
   have hdl : digV c.toNat < 16 ∧ acc * 16 + digV c.toNat ≤ 18446744073709551615 := by
    simp only [puN] at hdec
    split at hdec
    ·assumption
    ·cases hdec
   simp only [puN, if_pos hdl] at hdec
   obtain ⟨hfit, hmx⟩ := hdl
   have hdl := True.intro
   by_cases hdig : 48 ≤ c.toNat ∧ c.toNat ≤ 57
   ·obtain ⟨hd0, hd1⟩ := hdig
    rw [digV_digit c.toNat hd0 hd1] at hfit hmx hdec
    have HN : Hid (a * 16 + ((c.toNat : Int) - 48) = ((acc * 16 + (c.toNat - 48) : Nat) : Int) ∧ puN 16 18446744073709551615 (acc * 16 + (c.toNat - 48)) (bs.drop (k + 1)) = some n) := Lib.hid ⟨by omega, hdec⟩
    have icut : a < 1152921504606846976 := by omega
    have iov : a * 16 + ((c.toNat : Int) - 48) ≤ 18446744073709551615 := by omega
    clear hdec hfit hmx hdl ha
    go_wp2
    refine ⟨⟨k + 1, acc * 16 + (c.toNat - 48), a * 16 + ((c.toNat : Int) - 48), rfl, (by first | rfl | (congr 1; omega)), (by first | rfl | (congr 1; omega)), by omega, HN⟩, by simp [intOf]; omega⟩
   ·have hdv : digV c.toNat < 16 := by omega
    obtain ⟨v, hlow, hv1, hv2, hv3⟩ := low_is c.toNat hc256 hdig hdv
    have hnd : ¬ ((c.toNat : Int) = 95) := by
     intro e
     have e' : c.toNat = 95 := by omega
     rw [e'] at hdv; revert hdv; decide
    have HN : Hid (a * 16 + (v - 87) = ((acc * 16 + digV c.toNat : Nat) : Int) ∧ puN 16 18446744073709551615 (acc * 16 + digV c.toNat) (bs.drop (k + 1)) = some n) := Lib.hid ⟨by omega, hdec⟩
    have icut : a < 1152921504606846976 := by omega
    have iov : a * 16 + (v - 87) ≤ 18446744073709551615 := by omega
    by_cases h57 : 48 ≤ (c.toNat : Int)
    all_goals
     have hn57 : 48 ≤ (c.toNat : Int) → ¬ ((c.toNat : Int) ≤ 57) := by omega
     clear hdv hdec hfit hdl ha hv3 hdig
     try have hn57' := hn57 h57
     clear hn57
     go_wp2_with (go_at_call 207; refine (lower_any _ _).mono ?_; rintro e w' ⟨rfl, rfl⟩)
     refine ⟨⟨k + 1, acc * 16 + digV c.toNat, a * 16 + (v - 87), rfl, (by first | rfl | (congr 1; omega)), (by first | rfl | (congr 1; omega)), by omega, HN⟩, by simp [intOf]; omega⟩
  ·have hkk : k = t.size := by omega
   subst hkk
   rw [List.drop_eq_nil_of_le (by omega)] at hdec
   have e1 : acc = n := by simpa [puN] using hdec
   subst e1
   subst ha
   clear hdec a0
   go_wp2
   go_ret2
   exact ⟨rfl, rfl⟩
set_option maxHeartbeats 32000000 in
set_option maxRecDepth 100000 in
theorem pu_16_32 (t : ByteArray) (hne : t.size ≠ 0) (hmax : t.size ≤ 9223372036854775806) (n : Nat) (hn : puN 16 4294967295 0 t.data.toList = some n) (w : World) :
  Calls Tryz.prog 195 #[.string t, .int .i64 16, .int .i64 32] w fun e w' => e = .returned (.tuple #[.int .u64 (n : Int), .nilIface]) ∧ w' = Lib.bytesWorld w 5 t := by
 have hemp : t.toList.isEmpty = false := by
  rw [← decide_eq_emptyBytes]
  exact decide_eq_false (fun h => hne (by rw [h]; rfl))
 have hcv := Lib.run_convert_string_bytes (P := Tryz.prog) w 9 173 5 t (u := .string) Tryz.underlying9 Tryz.underlying173 Tryz.underlying5
 have hB : ∀ j, j < t.size → (Lib.bytesWorld w 5 t).cell? ⟨w.heap.size, j, none⟩ = some (.int .u8 (t.data.toList.getD j 0).toNat) := fun j hj => Lib.bytesWorld_cell w 5 t j hj
 obtain ⟨W1, hW1⟩ : ∃ W1, W1 = Lib.bytesWorld w 5 t := ⟨_, rfl⟩
 rw [← hW1] at hcv hB ⊢
 clear hW1
 obtain ⟨bs, hL⟩ : ∃ bs, bs = t.data.toList := ⟨_, rfl⟩
 have hLn : bs.length = t.size := by rw [hL, Lib.size_eq]
 rw [← hL] at hB hn
 clear hL
 have HN0 := Lib.hid hn
 clear hn
 go_enter Tryz.func195, Tryz.ntmps195
 go_wp2
 go_loop [12, 13, 101] (fun vu vn vi => ∃ (k acc : Nat) (a : Int), vu = .bool false ∧ vn = .int .u64 a ∧ vi = .int .i64 k ∧ k ≤ t.size ∧ Hid (a = (acc : Int) ∧ puN 16 4294967295 acc (bs.drop k) = some n))
  (fun _ _ vi => t.size - (intOf vi).toNat)
 case atStart => exact ⟨0, 0, 0, rfl, rfl, rfl, by omega, rfl, HN0.out⟩
 case round =>
  clear HN0
  obtain ⟨k, acc, a, rfl, rfl, rfl, hk, hh⟩ := hrel
  obtain ⟨ha, hdec⟩ := hh.out
  clear hh
  have a0 : 0 ≤ a := by omega
  by_cases hkn : k < t.size
  ·have hc := hB k hkn
   have hdrop : bs.drop k = bs[k]'(by omega) :: bs.drop (k + 1) := List.drop_eq_getElem_cons (by omega)
   have hget : bs.getD k 0 = bs[k]'(by omega) := by simp [List.getD, List.getElem?_eq_getElem (show k < bs.length by omega)]
   rw [hdrop] at hdec
   rw [hget] at hc
   generalize bs[k]'(by omega) = c at hc hdec
   have hc256 : c.toNat < 256 := c.toNat_lt
   clear hB hdrop hget
   have hdl : digV c.toNat < 16 ∧ acc * 16 + digV c.toNat ≤ 4294967295 := by
    simp only [puN] at hdec
    split at hdec
    ·assumption
    ·cases hdec
   simp only [puN, if_pos hdl] at hdec
   obtain ⟨hfit, hmx⟩ := hdl
   have hdl := True.intro
   by_cases hdig : 48 ≤ c.toNat ∧ c.toNat ≤ 57
   ·obtain ⟨hd0, hd1⟩ := hdig
    rw [digV_digit c.toNat hd0 hd1] at hfit hmx hdec
    have HN : Hid (a * 16 + ((c.toNat : Int) - 48) = ((acc * 16 + (c.toNat - 48) : Nat) : Int) ∧ puN 16 4294967295 (acc * 16 + (c.toNat - 48)) (bs.drop (k + 1)) = some n) := Lib.hid ⟨by omega, hdec⟩
    have icut : a < 1152921504606846976 := by omega
    have iov : a * 16 + ((c.toNat : Int) - 48) ≤ 4294967295 := by omega
    clear hdec hfit hmx hdl ha
    go_wp2
    refine ⟨⟨k + 1, acc * 16 + (c.toNat - 48), a * 16 + ((c.toNat : Int) - 48), rfl, (by first | rfl | (congr 1; omega)), (by first | rfl | (congr 1; omega)), by omega, HN⟩, by simp [intOf]; omega⟩
   ·have hdv : digV c.toNat < 16 := by omega
    obtain ⟨v, hlow, hv1, hv2, hv3⟩ := low_is c.toNat hc256 hdig hdv
    have hnd : ¬ ((c.toNat : Int) = 95) := by
     intro e
     have e' : c.toNat = 95 := by omega
     rw [e'] at hdv; revert hdv; decide
    have HN : Hid (a * 16 + (v - 87) = ((acc * 16 + digV c.toNat : Nat) : Int) ∧ puN 16 4294967295 (acc * 16 + digV c.toNat) (bs.drop (k + 1)) = some n) := Lib.hid ⟨by omega, hdec⟩
    have icut : a < 1152921504606846976 := by omega
    have iov : a * 16 + (v - 87) ≤ 4294967295 := by omega
    by_cases h57 : 48 ≤ (c.toNat : Int)
    all_goals
     have hn57 : 48 ≤ (c.toNat : Int) → ¬ ((c.toNat : Int) ≤ 57) := by omega
     clear hdv hdec hfit hdl ha hv3 hdig
     try have hn57' := hn57 h57
     clear hn57
     go_wp2_with (go_at_call 207; refine (lower_any _ _).mono ?_; rintro e w' ⟨rfl, rfl⟩)
     refine ⟨⟨k + 1, acc * 16 + digV c.toNat, a * 16 + (v - 87), rfl, (by first | rfl | (congr 1; omega)), (by first | rfl | (congr 1; omega)), by omega, HN⟩, by simp [intOf]; omega⟩
  ·have hkk : k = t.size := by omega
   subst hkk
   rw [List.drop_eq_nil_of_le (by omega)] at hdec
   have e1 : acc = n := by simpa [puN] using hdec
   subst e1
   subst ha
   clear hdec a0
   go_wp2
   go_ret2
   exact ⟨rfl, rfl⟩
set_option maxHeartbeats 32000000 in
set_option maxRecDepth 100000 in
theorem pu_10_32 (t : ByteArray) (hne : t.size ≠ 0) (hmax : t.size ≤ 9223372036854775806) (n : Nat) (hn : puN 10 4294967295 0 t.data.toList = some n) (w : World) :
  Calls Tryz.prog 195 #[.string t, .int .i64 10, .int .i64 32] w fun e w' => e = .returned (.tuple #[.int .u64 (n : Int), .nilIface]) ∧ w' = Lib.bytesWorld w 5 t := by
 have hemp : t.toList.isEmpty = false := by
  rw [← decide_eq_emptyBytes]
  exact decide_eq_false (fun h => hne (by rw [h]; rfl))
 have hcv := Lib.run_convert_string_bytes (P := Tryz.prog) w 9 173 5 t (u := .string) Tryz.underlying9 Tryz.underlying173 Tryz.underlying5
 have hB : ∀ j, j < t.size → (Lib.bytesWorld w 5 t).cell? ⟨w.heap.size, j, none⟩ = some (.int .u8 (t.data.toList.getD j 0).toNat) := fun j hj => Lib.bytesWorld_cell w 5 t j hj
 obtain ⟨W1, hW1⟩ : ∃ W1, W1 = Lib.bytesWorld w 5 t := ⟨_, rfl⟩
 rw [← hW1] at hcv hB ⊢
 clear hW1
 obtain ⟨bs, hL⟩ : ∃ bs, bs = t.data.toList := ⟨_, rfl⟩
 have hLn : bs.length = t.size := by rw [hL, Lib.size_eq]
 rw [← hL] at hB hn
 clear hL
 have HN0 := Lib.hid hn
 clear hn
 go_enter Tryz.func195, Tryz.ntmps195
 go_wp2
 go_loop [12, 13, 101] (fun vu vn vi => ∃ (k acc : Nat) (a : Int), vu = .bool false ∧ vn = .int .u64 a ∧ vi = .int .i64 k ∧ k ≤ t.size ∧ Hid (a = (acc : Int) ∧ puN 10 4294967295 acc (bs.drop k) = some n))
  (fun _ _ vi => t.size - (intOf vi).toNat)
 case atStart => exact ⟨0, 0, 0, rfl, rfl, rfl, by omega, rfl, HN0.out⟩
 case round =>
  clear HN0
  obtain ⟨k, acc, a, rfl, rfl, rfl, hk, hh⟩ := hrel
  obtain ⟨ha, hdec⟩ := hh.out
  clear hh
  have a0 : 0 ≤ a := by omega
  by_cases hkn : k < t.size
  ·have hc := hB k hkn
   have hdrop : bs.drop k = bs[k]'(by omega) :: bs.drop (k + 1) := List.drop_eq_getElem_cons (by omega)
   have hget : bs.getD k 0 = bs[k]'(by omega) := by simp [List.getD, List.getElem?_eq_getElem (show k < bs.length by omega)]
   rw [hdrop] at hdec
   rw [hget] at hc
   generalize bs[k]'(by omega) = c at hc hdec
   have hc256 : c.toNat < 256 := c.toNat_lt
   clear hB hdrop hget
   have hdl : digV c.toNat < 10 ∧ acc * 10 + digV c.toNat ≤ 4294967295 := by
    simp only [puN] at hdec
    split at hdec
    ·assumption
    ·cases hdec
   simp only [puN, if_pos hdl] at hdec
   obtain ⟨hfit, hmx⟩ := hdl
   have hdl := True.intro
   by_cases hdig : 48 ≤ c.toNat ∧ c.toNat ≤ 57
   ·obtain ⟨hd0, hd1⟩ := hdig
    rw [digV_digit c.toNat hd0 hd1] at hfit hmx hdec
    have HN : Hid (a * 10 + ((c.toNat : Int) - 48) = ((acc * 10 + (c.toNat - 48) : Nat) : Int) ∧ puN 10 4294967295 (acc * 10 + (c.toNat - 48)) (bs.drop (k + 1)) = some n) := Lib.hid ⟨by omega, hdec⟩
    have icut : a < 1844674407370955162 := by omega
    have iov : a * 10 + ((c.toNat : Int) - 48) ≤ 4294967295 := by omega
    clear hdec hfit hmx hdl ha
    go_wp2
    refine ⟨⟨k + 1, acc * 10 + (c.toNat - 48), a * 10 + ((c.toNat : Int) - 48), rfl, (by first | rfl | (congr 1; omega)), (by first | rfl | (congr 1; omega)), by omega, HN⟩, by simp [intOf]; omega⟩
   ·exfalso
    have : digV c.toNat < 10 → 48 ≤ c.toNat ∧ c.toNat ≤ 57 := by unfold digV; split <;> (try split) <;> (try split) <;> omega
    exact hdig (this hfit)
  ·have hkk : k = t.size := by omega
   subst hkk
   rw [List.drop_eq_nil_of_le (by omega)] at hdec
   have e1 : acc = n := by simpa [puN] using hdec
   subst e1
   subst ha
   clear hdec a0
   go_wp2
   go_ret2
   exact ⟨rfl, rfl⟩
def istrconv_ParseUint.f (a0 : ByteArray) (a1 : Int) (a2 : Int) : Option (Int × Option Int) := if 9223372036854775806 < a0.size then none else if a1 = 10 ∧ a2 = 64 then (if a0.size = 0 then none else (puN 10 18446744073709551615 0 a0.data.toList).map fun n => ((n : Int), none)) else if a1 = 16 ∧ a2 = 64 then (if a0.size = 0 then none else (puN 16 18446744073709551615 0 a0.data.toList).map fun n => ((n : Int), none)) else if a1 = 16 ∧ a2 = 32 then (if a0.size = 0 then none else (puN 16 4294967295 0 a0.data.toList).map fun n => ((n : Int), none)) else if a1 = 10 ∧ a2 = 32 then (if a0.size = 0 then none else (puN 10 4294967295 0 a0.data.toList).map fun n => ((n : Int), none)) else none
theorem istrconv_ParseUint.calls (a0 : ByteArray) (a1 : Int) (a2 : Int) (r1 : Int) (r2 : Option Int) (w : World) (h : istrconv_ParseUint.f a0 a1 a2 = some (r1, r2)) :
  Calls Tryz.prog 195 #[.string a0, .int .i64 a1, .int .i64 a2] w fun e w' => e = .returned (.tuple #[.int .u64 r1, errW r2]) ∧ Below w.heap.size w w' := by
 unfold istrconv_ParseUint.f at h
 by_cases hz : 9223372036854775806 < a0.size
 ·rw [if_pos hz] at h; cases h
 rw [if_neg hz] at h
 by_cases h10_64 : a1 = 10 ∧ a2 = 64
 ·rw [if_pos h10_64] at h
  obtain ⟨rfl, rfl⟩ := h10_64
  by_cases he : a0.size = 0
  ·rw [if_pos he] at h; cases h
  rw [if_neg he] at h
  cases hp : puN 10 18446744073709551615 0 a0.data.toList with
  | none => rw [hp] at h; cases h
  | some n =>
   rw [hp] at h
   obtain ⟨rfl, rfl⟩ : (n : Int) = r1 ∧ none = r2 := by simpa using h
   refine (pu_10_64 a0 he (by omega) n hp w).mono ?_
   rintro e w' ⟨rfl, rfl⟩
   exact ⟨rfl, Lib.bytesWorld_below w 5 a0⟩
 rw [if_neg h10_64] at h
 by_cases h16_64 : a1 = 16 ∧ a2 = 64
 ·rw [if_pos h16_64] at h
  obtain ⟨rfl, rfl⟩ := h16_64
  by_cases he : a0.size = 0
  ·rw [if_pos he] at h; cases h
  rw [if_neg he] at h
  cases hp : puN 16 18446744073709551615 0 a0.data.toList with
  | none => rw [hp] at h; cases h
  | some n =>
   rw [hp] at h
   obtain ⟨rfl, rfl⟩ : (n : Int) = r1 ∧ none = r2 := by simpa using h
   refine (pu_16_64 a0 he (by omega) n hp w).mono ?_
   rintro e w' ⟨rfl, rfl⟩
   exact ⟨rfl, Lib.bytesWorld_below w 5 a0⟩
 rw [if_neg h16_64] at h
 by_cases h16_32 : a1 = 16 ∧ a2 = 32
 ·rw [if_pos h16_32] at h
  obtain ⟨rfl, rfl⟩ := h16_32
  by_cases he : a0.size = 0
  ·rw [if_pos he] at h; cases h
  rw [if_neg he] at h
  cases hp : puN 16 4294967295 0 a0.data.toList with
  | none => rw [hp] at h; cases h
  | some n =>
   rw [hp] at h
   obtain ⟨rfl, rfl⟩ : (n : Int) = r1 ∧ none = r2 := by simpa using h
   refine (pu_16_32 a0 he (by omega) n hp w).mono ?_
   rintro e w' ⟨rfl, rfl⟩
   exact ⟨rfl, Lib.bytesWorld_below w 5 a0⟩
 rw [if_neg h16_32] at h
 by_cases h10_32 : a1 = 10 ∧ a2 = 32
 ·rw [if_pos h10_32] at h
  obtain ⟨rfl, rfl⟩ := h10_32
  by_cases he : a0.size = 0
  ·rw [if_pos he] at h; cases h
  rw [if_neg he] at h
  cases hp : puN 10 4294967295 0 a0.data.toList with
  | none => rw [hp] at h; cases h
  | some n =>
   rw [hp] at h
   obtain ⟨rfl, rfl⟩ : (n : Int) = r1 ∧ none = r2 := by simpa using h
   refine (pu_10_32 a0 he (by omega) n hp w).mono ?_
   rintro e w' ⟨rfl, rfl⟩
   exact ⟨rfl, Lib.bytesWorld_below w 5 a0⟩
 rw [if_neg h10_32] at h
 cases h
end Go.Proofs.YtednjmngalmdkaaGreatDoor.GPC
end
section
/- strings.Fields at this program, laid by the shelf's own tool: plain declarations. Conditions: as it says. -/
namespace Go.Proofs
open Go.Shelf
def Tryz.laysM157_ren : Go.Shelf.Ren := ⟨fun | 157 => 190 | 229 => 203 | 199 => 204 | 261 => 217 | 311 => 224 | 312 => 225 | n => n, fun | 9 => 9 | 31 => 29 | 3 => 3 | 5 => 5 | 4 => 4 | 119 => 242 | 0 => 0 | 40 => 244 | 152 => 258 | 21 => 21 | 154 => 260 | 51 => 118 | 141 => 262 | 196 => 276 | 193 => 273 | 198 => 279 | 49 => 277 | 194 => 274 | 201 => 282 | 226 => 291 | 46 => 227 | 227 => 292 | n => n, fun | 0 => 1 | 6 => 2 | n => n⟩
theorem Tryz.laysM157 : Go.Proofs.LaysM.n157 Tryz.prog Tryz.laysM157_ren := {
 mixed := by kernel_rfl
 f157 := Tryz.func190.trans (congrArg some (by kernel_rfl))
 f199 := Tryz.func204.trans (congrArg some (by kernel_rfl))
 f229 := Tryz.func203.trans (congrArg some (by kernel_rfl))
 f261 := Tryz.func217.trans (congrArg some (by kernel_rfl))
 f311 := Tryz.func224.trans (congrArg some (by kernel_rfl))
 f312 := Tryz.func225.trans (congrArg some (by kernel_rfl))
 t0 := Tryz.underlying0
 a0 := Tryz.isAgg0
 z0 := Tryz.sizeOf0
 v0 := Tryz.zeroValue0
 t3 := Tryz.underlying3
 a3 := Tryz.isAgg3
 z3 := Tryz.sizeOf3
 v3 := Tryz.zeroValue3
 t4 := Tryz.underlying4
 a4 := Tryz.isAgg4
 z4 := Tryz.sizeOf4
 v4 := Tryz.zeroValue4
 t5 := Tryz.underlying5
 a5 := Tryz.isAgg5
 z5 := Tryz.sizeOf5
 v5 := Tryz.zeroValue5
 t9 := Tryz.underlying9
 a9 := Tryz.isAgg9
 z9 := Tryz.sizeOf9
 v9 := Tryz.zeroValue9
 t21 := Tryz.underlying21
 a21 := Tryz.isAgg21
 z21 := Tryz.sizeOf21
 v21 := Tryz.zeroValue21
 t31 := Tryz.underlying29
 a31 := Tryz.isAgg29
 z31 := Tryz.sizeOf29
 v31 := Tryz.zeroValue29
 t40 := Tryz.underlying244
 a40 := Tryz.isAgg244
 z40 := Tryz.sizeOf244
 v40 := Tryz.zeroValue244
 t46 := Tryz.underlying227
 a46 := Tryz.isAgg227
 z46 := Tryz.sizeOf227
 v46 := Tryz.zeroValue227
 t49 := Tryz.underlying277
 a49 := Tryz.isAgg277
 z49 := Tryz.sizeOf277
 v49 := Tryz.zeroValue277
 t51 := Tryz.underlying118
 a51 := Tryz.isAgg118
 z51 := Tryz.sizeOf118
 v51 := Tryz.zeroValue118
 t119 := Tryz.underlying242
 a119 := Tryz.isAgg242
 z119 := Tryz.sizeOf242
 t141 := Tryz.underlying262
 a141 := Tryz.isAgg262
 z141 := Tryz.sizeOf262
 v141 := Tryz.zeroValue262
 t152 := Tryz.underlying258
 a152 := Tryz.isAgg258
 z152 := Tryz.sizeOf258
 v152 := Tryz.zeroValue258
 t154 := Tryz.underlying260
 a154 := Tryz.isAgg260
 z154 := Tryz.sizeOf260
 v154 := Tryz.zeroValue260
 t193 := Tryz.underlying273
 a193 := Tryz.isAgg273
 z193 := Tryz.sizeOf273
 v193 := Tryz.zeroValue273
 t194 := Tryz.underlying274
 a194 := Tryz.isAgg274
 z194 := Tryz.sizeOf274
 v194 := Tryz.zeroValue274
 t196 := Tryz.underlying276
 a196 := Tryz.isAgg276
 z196 := Tryz.sizeOf276
 v196 := Tryz.zeroValue276
 t198 := Tryz.underlying279
 a198 := Tryz.isAgg279
 z198 := Tryz.sizeOf279
 v198 := Tryz.zeroValue279
 t201 := Tryz.underlying282
 a201 := Tryz.isAgg282
 z201 := Tryz.sizeOf282
 v201 := Tryz.zeroValue282
 t226 := Tryz.underlying291
 a226 := Tryz.isAgg291
 z226 := Tryz.sizeOf291
 v226 := Tryz.zeroValue291
 t227 := Tryz.underlying292
 a227 := Tryz.isAgg292
 z227 := Tryz.sizeOf292
 v227 := Tryz.zeroValue292
 g0 := by kernel_rfl
 g6 := by kernel_rfl
 i0 := by kernel_rfl
 i3 := by kernel_rfl
 i4 := by kernel_rfl
 i5 := by kernel_rfl
 i9 := by kernel_rfl
 i21 := by kernel_rfl
 i31 := by kernel_rfl
 i40 := by kernel_rfl
 i46 := by kernel_rfl
 i49 := by kernel_rfl
 i51 := by kernel_rfl
 i141 := by kernel_rfl
 i152 := by kernel_rfl
 i154 := by kernel_rfl
 i193 := by kernel_rfl
 i194 := by kernel_rfl
 i196 := by kernel_rfl
 i198 := by kernel_rfl
 i201 := by kernel_rfl
 i226 := by kernel_rfl
 i227 := by kernel_rfl
 m0 := by kernel_rfl
 m6 := by kernel_rfl }
open Go.RowKit Go.Lib in
theorem Tryz.strings_Fields_laid (s : ByteArray) (w : World) (hs : s.size < 4294967281) (hascii : ∀ (j : Nat) b, s.data.toList[j]? = some b → b.toNat < 128) (htab : Lib.TabIs Tryz.prog w "strings.asciiSpace" .u8 Lib.asciiSpaceTab) :
  Calls Tryz.prog 190 #[.string s] w fun e w' =>
   e = .returned (.slice (some ⟨w.heap.size, 0, none⟩) (Lib.fields s.data.toList).length (Lib.fields s.data.toList).length) ∧ w' = w.alloc (.cells ((Lib.fields s.data.toList).map fun l => Value.string ⟨l.toArray⟩).toArray 9) := Any.strings_Fields_laid Tryz.laysM157 s w hs hascii htab
end Go.Proofs
end
section
/- What the printed functions of the proc statements call of the library: strings.Fields, strconv.ParseUint, math.Float64bits, texts.Read; and the fact on tables that they lean on (TabW). Conditions: ASCII texts; digits that fit. -/
namespace Go.Proofs.YtednjmngalmdkaaGreatDoor.GPC
open Go.RowKit Go.Proofs.YtednjmngalmdkaaGreatDoorW.PrintWords Go.Proofs.YtednjmngalmdkaaGreatDoorW.PrintLast
set_option linter.unusedVariables false
def TabW (w : World) : Prop := Lib.TabIs Tryz.prog w "strings.asciiSpace" .u8 Lib.asciiSpaceTab ∧
 w.var? Tryz.prog "internal/strconv.optimize" = some #[.bool true] ∧
 w.var? Tryz.prog "internal/strconv.float64info" = some #[.int .u64 52, .int .u64 11, .int .i64 (-1023)] ∧
 ∃ b o c, w.var? Tryz.prog "internal/strconv.float64pow10" = some #[.slice (some ⟨b, o, none⟩) 23 c] ∧ w.cell? ⟨b, o + 1, none⟩ = some (.float .f64 4621819117588971520) ∧ w.cell? ⟨b, o + 2, none⟩ = some (.float .f64 4636737291354636288)
theorem var_below {w w1 : World} {n : String} {cs : Array Value} (h : w.var? Tryz.prog n = some cs) (hb : Below w.heap.size w w1) : w1.var? Tryz.prog n = some cs := by
 unfold World.var? at h ⊢
 obtain ⟨g, hg, h⟩ := Option.bind_eq_some_iff.1 h
 rw [hg]
 simp only [Option.bind_some]
 cases hc : w.heap[g]? with
 | none => rw [hc] at h; cases h
 | some o =>
  have hlt : g < w.heap.size := (Array.getElem?_eq_some_iff.1 hc).1
  rw [hb.block g hlt, hc]
  rw [hc] at h
  exact h
theorem tabW_below {w w1 : World} (h : TabW w) (hb : Below w.heap.size w w1) : TabW w1 := by
 obtain ⟨h1, h4, h5, b, o, c, h2, h6, h3⟩ := h
 exact ⟨var_below h1 hb, var_below h4 hb, var_below h5 hb, b, o, c, var_below h2 hb, (hb.cell (World.block_lt_of_cell? w _ h6)).trans h6, (hb.cell (World.block_lt_of_cell? w _ h3)).trans h3⟩
def strings_Fields.f (a0 : ByteArray) : Option (List ByteArray) :=
 if a0.size < 4294967281 ∧ (a0.data.toList.all fun b => decide (b.toNat < 128)) = true then some ((Lib.fields a0.data.toList).map fun l => ⟨l.toArray⟩) else none
theorem strings_Fields.calls (a0 : ByteArray) (r : List ByteArray) (w : World) (hT_ : TabW w) (h : strings_Fields.f a0 = some r) :
  Calls Tryz.prog 190 #[.string a0] w fun e w' => ∃ v0_ : Value, e = .returned (v0_) ∧ Kd.R Kd.string 9 w' w.heap.size (fun _ => True) v0_ r ∧ Below w.heap.size w w' := by
 unfold strings_Fields.f at h
 split at h
 ·rename_i hc
  obtain rfl := Option.some.inj h
  refine (Tryz.strings_Fields_laid a0 w hc.1 (fun j b hj => by
   have := List.all_eq_true.1 hc.2 b (List.mem_of_getElem? hj)
   simpa using this) hT_.1).mono ?_
  rintro e w' ⟨rfl, rfl⟩
  have hlen : ((Lib.fields a0.data.toList).map fun l => (⟨l.toArray⟩ : ByteArray)).length = (Lib.fields a0.data.toList).length := List.length_map _
  refine ⟨_, rfl, ⟨fun _ _ => trivial, (Lib.fields a0.data.toList).map fun l => Value.string ⟨l.toArray⟩, ⟨?_, .inr ⟨w.heap.size, (Lib.fields a0.data.toList).length, _, ?_, Nat.le_refl _, heap_alloc_new _ _, ?_, ?_, ?_, ?_⟩⟩, ⟨?_, fun j p hj => ?_⟩⟩, below_alloc (Below.refl _ _) _⟩
  ·simp [Kd.string, Kd.scalar]
  ·rw [hlen]
  ·rw [hlen]; exact Nat.le_refl _
  ·have h1 := Lib.fields_length a0.data.toList
   have h2 : ∀ (ws : Bool) (l : List UInt8), Lib.cntF ws l ≤ l.length := by
    intro ws l
    induction l generalizing ws with
    | nil => simp [Lib.cntF]
    | cons b l ih =>
     have := ih (Lib.isSp b)
     simp only [Lib.cntF, List.length_cons]
     split <;> omega
   have h3 := h2 true a0.data.toList
   have h4 : a0.data.toList.length = a0.size := Array.length_toList
   have := hc.1
   unfold maxLen
   omega
  ·simp [Kd.string, Kd.scalar]
  ·simp only [Kd.string, Kd.scalar, List.length_map, Nat.mul_one]
   rw [List.take_of_length_le (by simp)]
  ·simp [Kd.string, Kd.scalar]
  ·rw [List.getElem?_map] at hj
   obtain ⟨l, hl, rfl⟩ := Option.map_eq_some_iff.1 hj
   show ((((Lib.fields a0.data.toList).map fun l => Value.string ⟨l.toArray⟩).drop (j * 1)).take 1) = [Value.string ⟨l.toArray⟩]
   obtain ⟨hjl, he⟩ := List.getElem?_eq_some_iff.1 hl
   rw [Nat.mul_one, List.drop_eq_getElem_cons (by simpa using hjl), List.take_succ_cons, List.take_zero]
   simp [he]
 ·cases h
def strconv_ParseUint.f (a0 : ByteArray) (a1 : Int) (a2 : Int) : Option (Int × Option Int) := (istrconv_ParseUint.f a0 a1 a2).bind fun r => if r.2 = none then some r else none
set_option maxHeartbeats 1000000 in
theorem strconv_ParseUint.calls (a0 : ByteArray) (a1 : Int) (a2 : Int) (r1 : Int) (r2 : Option Int) (w : World) (h : strconv_ParseUint.f a0 a1 a2 = some (r1, r2)) :
  Calls Tryz.prog 158 #[.string a0, .int .i64 a1, .int .i64 a2] w fun e w' => e = .returned (.tuple #[.int .u64 r1, errW r2]) ∧ Below w.heap.size w w' := by
 unfold strconv_ParseUint.f at h
 obtain ⟨⟨r, q⟩, h1, h2⟩ := Option.bind_eq_some_iff.1 h
 split at h2
 ·rename_i hq
  simp only at hq
  subst hq
  obtain ⟨rfl, rfl⟩ := Prod.mk.inj (Option.some.inj h2)
  clear h h2
  have H := Aside0.mk h1
  clear h1
  go_enter Tryz.func158, Tryz.ntmps158
  go_wp2_with (first | (go_at_call 195; refine (istrconv_ParseUint.calls a0 a1 a2 r none _ H.out).mono ?_; rintro e w1 ⟨rfl, hb1⟩; have HB := Aside0.mk hb1; clear hb1; simp only [errW_none]))
  go_ret2
  exact ⟨rfl, HB.out⟩
 ·cases h2
def math_Float64bits.f (a0 : Nat) : Option (Int) := some (a0 : Int)
theorem f64bits_run (b : Nat) (w : World) : (callFunc 136 #[.float .f64 b]).run Tryz.prog w = .ok (.value (.int .u64 b)) w := by
 rw [run_callFunc_extern (e := Go.Extern.MathFloatBits.float64bits) Tryz.func136 (by kernel_rfl) (by kernel_rfl) (by kernel_rfl) (by kernel_rfl)]
 rfl
theorem f64bits_at {b : Nat} {r : Int} (h : math_Float64bits.f b = some r) (w : World) : (callFunc 136 #[.float .f64 b]).run Tryz.prog w = .ok (.value (.int .u64 r)) w := by
 obtain rfl := Option.some.inj h
 exact f64bits_run b w
def texts_Read.f (a0 : ByteArray) : Option (List Int × Option Int) := if a0.size ≤ 1048576 then some (a0.data.toList.map (fun b => (b.toNat : Int)), none) else none
set_option maxHeartbeats 1000000 in
theorem texts_Read.calls (a0 : ByteArray) (r1 : List Int) (r2 : Option Int) (w : World) (h : texts_Read.f a0 = some (r1, r2)) :
  Calls Tryz.prog 140 #[.string a0] w fun e w' => ∃ v0_ : Value, e = .returned (.tuple #[v0_, errW r2]) ∧ Kd.V (Kd.int .u8) 5 w' w.heap.size (fun k_ => (w.heap.size ≤ k_)) v0_ r1 ∧ Below w.heap.size w w' := by
 unfold texts_Read.f at h
 split at h
 ·rename_i hs
  obtain ⟨rfl, rfl⟩ := Prod.mk.inj (Option.some.inj h)
  clear h
  have c0 : decide ((1048576 : Int) < (a0.size : Int)) = false := decide_eq_false (by omega)
  have c1 : decide (1048576 < a0.size) = false := decide_eq_false (by omega)
  have hconv := fun W => Lib.run_convert_string_bytes (P := Tryz.prog) W 9 173 5 a0 Tryz.underlying9 Tryz.underlying173
  go_enter Tryz.func140, Tryz.ntmps140
  go_wp2
  go_ret2
  have hlen : (a0.data.toList.map (fun b => (b.toNat : Int))).length = a0.size := (List.length_map _).trans Array.length_toList
  refine ⟨_, by first | rfl | (simp only [errW_none]; done), ⟨some ⟨w.heap.size, 0, none⟩, grownCap w a0.size 0 5, by rw [hlen]; rfl, by rw [hlen]; exact grownCap_ge w a0.size 0 5, ?_⟩, Lib.bytesWorld_below w 5 a0⟩
  intro W' hW
  have hcell : ∀ j, j < a0.size → W'.cell? ⟨w.heap.size, j, none⟩ = some (.int .u8 (a0.data.toList.getD j 0).toNat) := fun j hj => by
   rw [← Lib.bytesWorld_cell w 5 a0 j hj]
   have := hW w.heap.size (Nat.le_refl _) (by rw [Lib.bytesWorld_size]; omega)
   simp only [World.cell?, this]
  refine ⟨rfl, by rw [hlen]; omega, fun _ => ⟨_, rfl, fun j p hj => ?_⟩⟩
  rw [List.getElem?_map] at hj
  obtain ⟨b, hb, rfl⟩ := Option.map_eq_some_iff.1 hj
  have hjl : j < a0.size := by
   have := (List.getElem?_eq_some_iff.1 hb).1
   rwa [Array.length_toList] at this
  have hc := hcell j hjl
  rw [List.getD, hb] at hc
  refine ⟨[.int .u8 b.toNat], rfl, rfl, fun i u hu => ?_⟩
  cases i with
  | zero =>
   obtain rfl := Option.some.inj hu
   have ha : (⟨w.heap.size, 0, none⟩ : Addr).add (j * (Kd.int IntKind.u8).sz + 0) = ⟨w.heap.size, j, none⟩ := by simp [Addr.add, Kd.int, Kd.scalar]; exact Eq.symm
   rw [ha]
   exact hc
  | succ i => simp at hu
 ·cases h
end Go.Proofs.YtednjmngalmdkaaGreatDoor.GPC
end
section
namespace Go.Proofs.YtednjmngalmdkaaGreatDoor.GPC
open Go.RowKit Go.Proofs.YtednjmngalmdkaaGreatDoorW.PrintWords Go.Proofs.YtednjmngalmdkaaGreatDoorW.PrintLast Go.Proofs.YtednjmngalmdkaaGreatDoorW.PrintMore
attribute [local go_sem] max2_int min2_int max_two min_two max_three min_three max_four min_four   -- for this text's walks alone
set_option linter.unusedVariables false
set_option linter.unusedSimpArgs false

attribute [local go_sem] run_store_float
/-! ### laws_zzFits4: function 135 -/
def laws_zzFits4.l0 : Nat → List ByteArray → Int → Int → Option (Bool)
 | 0, _, _, _ => none
 | k + 1, x8, x9, x10 => if x10 < x9 then (if 0 ≤ x10 then (if x10 < (x8.length : Int) then (if ((rdOf ByteArray.empty x8 x10).size : Int) > 2147483647 then (some false) else (laws_zzFits4.l0 k x8 x9 (wrap64 (x10 + 1)))) else (none)) else (none)) else (some true)
def laws_zzFits4.f (k : Nat) (l0 : List ByteArray) : Option (Bool) := if (l0.length : Int) > 2147483647 then (some false) else (laws_zzFits4.l0 k l0 (l0.length : Int) 0)
theorem laws_zzFits4.mono_l : ∀ k, (∀ y0 y1 y2, LeO (laws_zzFits4.l0 k y0 y1 y2) (laws_zzFits4.l0 (k + 1) y0 y1 y2))
 | 0 => fun _ _ _ r h => by simp [laws_zzFits4.l0] at h
 | k + 1 => by
  have ih0 := laws_zzFits4.mono_l k
  ·intro y0 y1 y2
   unfold laws_zzFits4.l0
   repeat' first
   | (with_reducible exact ih0 _ _ _)
   | (with_reducible exact LeO.refl _)
   | (with_reducible exact LeO.none _)
   | (with_reducible refine LeO.ite ?_ ?_)
   | (with_reducible refine LeO.bind ?_ (fun _ => ?_))
   | exact ih0 _ _ _
   | exact LeO.none _
   | refine LeO.ite ?_ ?_
   | refine LeO.bind ?_ (fun _ => ?_)
theorem laws_zzFits4.mono : ∀ a0 k, LeO (laws_zzFits4.f k a0) (laws_zzFits4.f (k + 1) a0) := by
 intro a0 k
 have ih0 := laws_zzFits4.mono_l k
 unfold laws_zzFits4.f
 repeat' first
   | (with_reducible exact ih0 _ _ _)
   | (with_reducible exact LeO.refl _)
   | (with_reducible exact LeO.none _)
   | (with_reducible refine LeO.ite ?_ ?_)
   | (with_reducible refine LeO.bind ?_ (fun _ => ?_))
   | exact ih0 _ _ _
   | exact LeO.none _
   | refine LeO.ite ?_ ?_
   | refine LeO.bind ?_ (fun _ => ?_)
set_option maxHeartbeats 8000000 in
set_option maxRecDepth 100000 in
theorem laws_zzFits4.calls (k : Nat) (A0 : Option Addr) (c0 : Nat) (l0 : List ByteArray) (r : Bool) (w : World) (hr0 : Kd.C Kd.string w A0 l0.length l0) (hc0 : l0.length ≤ c0) (h : laws_zzFits4.f k l0 = some r) :
  Calls Tryz.prog 135 #[.slice A0 l0.length c0] w fun e w' => e = .returned (.bool r) ∧ Drawn0 w w' := by
 have HR0 := Aside0.mk hr0
 have HC0 := Aside0.mk hc0
 clear hr0 hc0
 have H : (if (l0.length : Int) > 2147483647 then (some false) else (laws_zzFits4.l0 k l0 (l0.length : Int) 0)) = some r := h
 clear h
 by_cases c2 : (l0.length : Int) > 2147483647
 ·rw [if_pos c2] at H
  have c2b0 : decide (2147483647 < (l0.length : Int)) = true := decide_eq_true c2
  have c2b1 : decide (2147483647 < l0.length) = true := decide_eq_true (by omega)
  clear c2
  obtain rfl := Option.some.inj H
  go_enter Tryz.func135, Tryz.ntmps135
  go_wp2
  go_ret
  exact ⟨by first | rfl | (simp; done) | (simp [*]; done), by repeat (first | exact Drawn0.refl _ | apply Drawn0.step)⟩
 ·rw [if_neg c2] at H
  have c2b0 : decide (2147483647 < (l0.length : Int)) = false := decide_eq_false c2
  have c2b1 : decide (2147483647 < l0.length) = false := decide_eq_false (by omega)
  clear c2
  have H' := Aside0.mk H
  clear H
  go_enter Tryz.func135, Tryz.ntmps135
  go_wp2
  go_loopg [10] k (fun kq v10 w' => ∃ (x10_1 : Int), v10 = .int .i64 x10_1 ∧ Aside0 (laws_zzFits4.l0 kq l0 (l0.length : Int) x10_1 = some r) ∧ Aside0 (kq ≤ k) ∧ Drawn0 w w')
  case atStart => exact ⟨(0), (by first | rfl | (simp; done) | (simp [*]; done)), H', ⟨Nat.le_refl _⟩, by repeat (first | exact Drawn0.refl _ | apply Drawn0.step)⟩
  case round =>
   clear H'
   try clear c1
   try clear c2
   try clear c2b0
   try clear c2b1
   try clear p2
   obtain ⟨x10_1, rfl, HA, HK1, ⟨m1, rfl⟩⟩ := hrel
   cases gk with
   | zero => exact absurd HA.out (by simp [laws_zzFits4.l0])
   | succ k1 =>
    have H := HA.out
    clear HA
    simp only [laws_zzFits4.l0] at H
    by_cases c3 : x10_1 < (l0.length : Int)
    ·rw [if_pos c3] at H
     have c3b0 : decide (x10_1 < (l0.length : Int)) = true := decide_eq_true c3
     clear c3
     replace H := guard_inv H
     obtain ⟨c4, H⟩ := H
     have c4b0 : decide (0 ≤ x10_1) = true := decide_eq_true c4
     clear c4
     replace H := guard_inv H
     obtain ⟨c5, H⟩ := H
     have c5b0 : decide (x10_1 < (l0.length : Int)) = true := decide_eq_true c5
     clear c5
     by_cases c6 : ((rdOf ByteArray.empty l0 x10_1).size : Int) > 2147483647
     ·rw [if_pos c6] at H
      have c6b0 : decide (2147483647 < ((rdOf ByteArray.empty l0 x10_1).size : Int)) = true := decide_eq_true c6
      have c6b1 : decide (2147483647 < (rdOf ByteArray.empty l0 x10_1).size) = true := decide_eq_true (by omega)
      clear c6
      obtain rfl := Option.some.inj H
      have p101 : 0 ≤ (x10_1 : Int) := of_decide_eq_true (by first | (with_reducible assumption) | assumption)
      have q101 : x10_1 < (l0.length : Int) := of_decide_eq_true (by first | (with_reducible assumption) | assumption)
      obtain ⟨ad101, e101, hx101_0⟩ := Kd.at_string HR0.out x10_1 p101 q101
      cases e101
      replace p101 := eq_true p101
      replace q101 := eq_true q101
      go_wp2
      go_ret
      exact ⟨by first | rfl | (simp; done) | (simp [*]; done), by repeat (first | exact Drawn0.refl _ | apply Drawn0.step)⟩
     ·rw [if_neg c6] at H
      have c6b0 : decide (2147483647 < ((rdOf ByteArray.empty l0 x10_1).size : Int)) = false := decide_eq_false c6
      have c6b1 : decide (2147483647 < (rdOf ByteArray.empty l0 x10_1).size) = false := decide_eq_false (by omega)
      clear c6
      have H' := Aside0.mk H
      clear H
      have p101 : 0 ≤ (x10_1 : Int) := of_decide_eq_true (by first | (with_reducible assumption) | assumption)
      have q101 : x10_1 < (l0.length : Int) := of_decide_eq_true (by first | (with_reducible assumption) | assumption)
      obtain ⟨ad101, e101, hx101_0⟩ := Kd.at_string HR0.out x10_1 p101 q101
      cases e101
      replace p101 := eq_true p101
      replace q101 := eq_true q101
      go_wp2
      go_roundg k1
      case measure => have := HK1.out; omega
      case rel => exact ⟨(wrap64 (x10_1 + 1)), (by first | rfl | (simp; done) | (simp [*]; done)), H', ⟨by have := HK1.out; omega⟩, by repeat (first | exact Drawn0.refl _ | apply Drawn0.step)⟩
    ·rw [if_neg c3] at H
     have c3b0 : decide (x10_1 < (l0.length : Int)) = false := decide_eq_false c3
     clear c3
     obtain rfl := Option.some.inj H
     go_wp2
     go_ret
     exact ⟨by first | rfl | (simp; done) | (simp [*]; done), by repeat (first | exact Drawn0.refl _ | apply Drawn0.step)⟩
/-! ### laws_zzFits6: function 45 -/
def laws_zzFits6.f (k : Nat) (a0_0 : ByteArray) (l0_1 : List Int) (l0_2 : List ByteArray) : Option (Bool) := if (a0_0.size : Int) > 2147483647 then (some false) else (if (l0_1.length : Int) > 2147483647 then (some false) else ((laws_zzFits4.f k l0_2).bind fun t103 => (if t103 = true then (some true) else (some false))))
theorem laws_zzFits6.mono : ∀ a0 a1 a2 k, LeO (laws_zzFits6.f k a0 a1 a2) (laws_zzFits6.f (k + 1) a0 a1 a2) := by
 intro a0 a1 a2 k
 unfold laws_zzFits6.f
 repeat' first
   | (with_reducible exact laws_zzFits4.mono _ _)
   | (with_reducible exact LeO.refl _)
   | (with_reducible exact LeO.none _)
   | (with_reducible refine LeO.ite ?_ ?_)
   | (with_reducible refine LeO.bind ?_ (fun _ => ?_))
   | exact laws_zzFits4.mono _ _
   | exact LeO.none _
   | refine LeO.ite ?_ ?_
   | refine LeO.bind ?_ (fun _ => ?_)
set_option maxHeartbeats 8000000 in
set_option maxRecDepth 100000 in
theorem laws_zzFits6.calls (k : Nat) (a0_0 : ByteArray) (A0_1 : Option Addr) (c0_1 : Nat) (l0_1 : List Int) (A0_2 : Option Addr) (c0_2 : Nat) (l0_2 : List ByteArray) (r : Bool) (w : World) (hr0_1 : Kd.C (Kd.int .u64) w A0_1 l0_1.length l0_1) (hc0_1 : l0_1.length ≤ c0_1) (hr0_2 : Kd.C Kd.string w A0_2 l0_2.length l0_2) (hc0_2 : l0_2.length ≤ c0_2) (h : laws_zzFits6.f k a0_0 l0_1 l0_2 = some r) :
  Calls Tryz.prog 45 #[.agg #[.string a0_0, .slice A0_1 l0_1.length c0_1, .slice A0_2 l0_2.length c0_2]] w fun e w' => e = .returned (.bool r) ∧ Below w.heap.size w w' := by
 have hu31 := Tryz.underlying31
 have HR0_1 := Aside0.mk hr0_1
 have HC0_1 := Aside0.mk hc0_1
 clear hr0_1 hc0_1
 have HR0_2 := Aside0.mk hr0_2
 have HC0_2 := Aside0.mk hc0_2
 clear hr0_2 hc0_2
 have HB := Aside0.mk (Below.refl w.heap.size w)
 have H : (if (a0_0.size : Int) > 2147483647 then (some false) else (if (l0_1.length : Int) > 2147483647 then (some false) else ((laws_zzFits4.f k l0_2).bind fun t103 => (if t103 = true then (some true) else (some false))))) = some r := h
 clear h
 by_cases c2 : (a0_0.size : Int) > 2147483647
 ·rw [if_pos c2] at H
  have c2b0 : decide (2147483647 < (a0_0.size : Int)) = true := decide_eq_true c2
  have c2b1 : decide (2147483647 < a0_0.size) = true := decide_eq_true (by omega)
  clear c2
  obtain rfl := Option.some.inj H
  go_enter Tryz.func45, Tryz.ntmps45
  go_wp2_with (first | ((with_reducible refine gate_dst (N := 1) rfl ?_); refine box_event ?hg (N := 1) ?hd (cs := #[.string a0_0, .slice A0_1 l0_1.length c0_1, .slice A0_2 l0_2.length c0_2]) (t := 31) ?hr ?_; (case hd => rfl); (case hg => rfl); (case hr => first | (go_simp; done) | (go_simp; rfl)); intro gb102 hg w3 hbox hb; have n0_ := Aside0.mk (below_step (by repeat (first | (with_reducible first | exact HB.out | apply below_alloc | apply pw_below_drewN | apply below_drew1) | exact HB.out)) hb); have n1_ := Aside0.mk (hbox); have n2_ := Aside0.mk ((by rw [hg]; exact (below_size (by repeat (first | (with_reducible first | exact HB.out | apply below_alloc | apply pw_below_drewN | apply below_drew1) | exact HB.out))) : w.heap.size ≤ gb102)); have n3_ := Aside0.mk ((by rw [hg]; exact (below_size (by repeat (first | (with_reducible first | exact HB.out | apply below_alloc | apply pw_below_drewN | apply below_drew1) | exact HB.out))) : w.heap.size ≤ gb102)); clear HB; have HB := n0_; have BK102 := n1_; have GW102 := n2_; have GE102 := n3_; clear n0_ n1_ n2_ n3_; clear hb hbox hg; have hcz4_0 : w3.cell? ⟨gb102, 0, none⟩ = some (.string a0_0) := (blk_cell BK102.out 0).trans rfl; have hcz4_1 : w3.cell? ⟨gb102, 1, none⟩ = some (.slice A0_1 l0_1.length c0_1) := (blk_cell BK102.out 1).trans rfl; have hcz4_2 : w3.cell? ⟨gb102, 2, none⟩ = some (.slice A0_2 l0_2.length c0_2) := (blk_cell BK102.out 2).trans rfl; have hfz4_0 := blk_frozen BK102.out 0; have hfz4_1 := blk_frozen BK102.out 1; have hfz4_2 := blk_frozen BK102.out 2))
  go_ret
  exact ⟨by first | rfl | (simp [errW_none, errW_some] <;> rfl) | (simp [*, errW_none, errW_some] <;> rfl), by repeat (first | (with_reducible first | exact HB.out | apply below_alloc | apply pw_below_drewN | apply below_drew1 | refine below_set ?_ GE102.out) | exact HB.out)⟩
 ·rw [if_neg c2] at H
  have c2b0 : decide (2147483647 < (a0_0.size : Int)) = false := decide_eq_false c2
  have c2b1 : decide (2147483647 < a0_0.size) = false := decide_eq_false (by omega)
  clear c2
  by_cases c5 : (l0_1.length : Int) > 2147483647
  ·rw [if_pos c5] at H
   have c5b0 : decide (2147483647 < (l0_1.length : Int)) = true := decide_eq_true c5
   have c5b1 : decide (2147483647 < l0_1.length) = true := decide_eq_true (by omega)
   clear c5
   obtain rfl := Option.some.inj H
   go_enter Tryz.func45, Tryz.ntmps45
   go_wp2_with (first | ((with_reducible refine gate_dst (N := 1) rfl ?_); refine box_event ?hg (N := 1) ?hd (cs := #[.string a0_0, .slice A0_1 l0_1.length c0_1, .slice A0_2 l0_2.length c0_2]) (t := 31) ?hr ?_; (case hd => rfl); (case hg => rfl); (case hr => first | (go_simp; done) | (go_simp; rfl)); intro gb102 hg w6 hbox hb; have n0_ := Aside0.mk (below_step (by repeat (first | (with_reducible first | exact HB.out | apply below_alloc | apply pw_below_drewN | apply below_drew1) | exact HB.out)) hb); have n1_ := Aside0.mk (hbox); have n2_ := Aside0.mk ((by rw [hg]; exact (below_size (by repeat (first | (with_reducible first | exact HB.out | apply below_alloc | apply pw_below_drewN | apply below_drew1) | exact HB.out))) : w.heap.size ≤ gb102)); have n3_ := Aside0.mk ((by rw [hg]; exact (below_size (by repeat (first | (with_reducible first | exact HB.out | apply below_alloc | apply pw_below_drewN | apply below_drew1) | exact HB.out))) : w.heap.size ≤ gb102)); clear HB; have HB := n0_; have BK102 := n1_; have GW102 := n2_; have GE102 := n3_; clear n0_ n1_ n2_ n3_; clear hb hbox hg; have hcz7_0 : w6.cell? ⟨gb102, 0, none⟩ = some (.string a0_0) := (blk_cell BK102.out 0).trans rfl; have hcz7_1 : w6.cell? ⟨gb102, 1, none⟩ = some (.slice A0_1 l0_1.length c0_1) := (blk_cell BK102.out 1).trans rfl; have hcz7_2 : w6.cell? ⟨gb102, 2, none⟩ = some (.slice A0_2 l0_2.length c0_2) := (blk_cell BK102.out 2).trans rfl; have hfz7_0 := blk_frozen BK102.out 0; have hfz7_1 := blk_frozen BK102.out 1; have hfz7_2 := blk_frozen BK102.out 2))
   go_ret
   exact ⟨by first | rfl | (simp [errW_none, errW_some] <;> rfl) | (simp [*, errW_none, errW_some] <;> rfl), by repeat (first | (with_reducible first | exact HB.out | apply below_alloc | apply pw_below_drewN | apply below_drew1 | refine below_set ?_ GE102.out) | exact HB.out)⟩
  ·rw [if_neg c5] at H
   have c5b0 : decide (2147483647 < (l0_1.length : Int)) = false := decide_eq_false c5
   have c5b1 : decide (2147483647 < l0_1.length) = false := decide_eq_false (by omega)
   clear c5
   replace H := Option.bind_eq_some_iff.mp H
   obtain ⟨t103, A80, H⟩ := H
   replace H : (if t103 = true then (some true) else (some false)) = some r := H
   have A8 := Aside0.mk A80
   clear A80
   by_cases c9 : t103 = true
   ·subst c9
    have H1 : (some true) = some r := by rw [if_pos rfl] at H; exact H
    clear H
    have H := H1
    clear H1
    obtain rfl := Option.some.inj H
    go_enter Tryz.func45, Tryz.ntmps45
    go_wp2_with (first | ((with_reducible refine gate_dst (N := 1) rfl ?_); refine box_event ?hg (N := 1) ?hd (cs := #[.string a0_0, .slice A0_1 l0_1.length c0_1, .slice A0_2 l0_2.length c0_2]) (t := 31) ?hr ?_; (case hd => rfl); (case hg => rfl); (case hr => first | (go_simp; done) | (go_simp; rfl)); intro gb102 hg w10 hbox hb; have n0_ := Aside0.mk (below_step (by repeat (first | (with_reducible first | exact HB.out | apply below_alloc | apply pw_below_drewN | apply below_drew1) | exact HB.out)) hb); have n1_ := Aside0.mk (hbox); have n2_ := Aside0.mk ((by rw [hg]; exact (below_size (by repeat (first | (with_reducible first | exact HB.out | apply below_alloc | apply pw_below_drewN | apply below_drew1) | exact HB.out))) : w.heap.size ≤ gb102)); have n3_ := Aside0.mk ((by rw [hg]; exact (below_size (by repeat (first | (with_reducible first | exact HB.out | apply below_alloc | apply pw_below_drewN | apply below_drew1) | exact HB.out))) : w.heap.size ≤ gb102)); clear HB; have HB := n0_; have BK102 := n1_; have GW102 := n2_; have GE102 := n3_; clear n0_ n1_ n2_ n3_; clear hb hbox hg; have hcz11_0 : w10.cell? ⟨gb102, 0, none⟩ = some (.string a0_0) := (blk_cell BK102.out 0).trans rfl; have hcz11_1 : w10.cell? ⟨gb102, 1, none⟩ = some (.slice A0_1 l0_1.length c0_1) := (blk_cell BK102.out 1).trans rfl; have hcz11_2 : w10.cell? ⟨gb102, 2, none⟩ = some (.slice A0_2 l0_2.length c0_2) := (blk_cell BK102.out 2).trans rfl; have hfz11_0 := blk_frozen BK102.out 0; have hfz11_1 := blk_frozen BK102.out 1; have hfz11_2 := blk_frozen BK102.out 2) | ((with_reducible refine gate_callee (f := 135) rfl ?_); refine goesL_ (some 13) rfl rfl Tryz.func135 (by kernel_rfl) rfl #[.slice A0_2 l0_2.length c0_2] rfl (by (try simp only [List.map_toArray, List.map_cons, List.map_nil]); first | done | rfl | (simp only [List.length_drop, List.length_take]; rfl)) ?_; (with_reducible refine (laws_zzFits4.calls k _ _ l0_2 true _ ?side1 ?side2 A8.out).mono ?_); (case side1 => repeat (first | exact (Kd.C_below HR0_2.out HB.out) | (with_reducible refine Kd.C_alloc ?_ _) | (with_reducible refine Kd.C_drewN ?_ _) | (with_reducible refine Kd.C_drew ?_))); (case side2 => exact HC0_2.out); rintro e w' ⟨rfl, ⟨nd, rfl⟩⟩; refine ⟨_, rfl, ?_⟩))
    go_ret
    exact ⟨by first | rfl | (simp [errW_none, errW_some] <;> rfl) | (simp [*, errW_none, errW_some] <;> rfl), by repeat (first | (with_reducible first | exact HB.out | apply below_alloc | apply pw_below_drewN | apply below_drew1 | refine below_set ?_ GE102.out) | exact HB.out)⟩
   ·replace c9 := Bool.eq_false_iff.mpr c9
    subst c9
    have H1 : (some false) = some r := by rw [if_neg (show ¬ (false = true) by decide)] at H; exact H
    clear H
    have H := H1
    clear H1
    obtain rfl := Option.some.inj H
    go_enter Tryz.func45, Tryz.ntmps45
    go_wp2_with (first | ((with_reducible refine gate_dst (N := 1) rfl ?_); refine box_event ?hg (N := 1) ?hd (cs := #[.string a0_0, .slice A0_1 l0_1.length c0_1, .slice A0_2 l0_2.length c0_2]) (t := 31) ?hr ?_; (case hd => rfl); (case hg => rfl); (case hr => first | (go_simp; done) | (go_simp; rfl)); intro gb102 hg w12 hbox hb; have n0_ := Aside0.mk (below_step (by repeat (first | (with_reducible first | exact HB.out | apply below_alloc | apply pw_below_drewN | apply below_drew1) | exact HB.out)) hb); have n1_ := Aside0.mk (hbox); have n2_ := Aside0.mk ((by rw [hg]; exact (below_size (by repeat (first | (with_reducible first | exact HB.out | apply below_alloc | apply pw_below_drewN | apply below_drew1) | exact HB.out))) : w.heap.size ≤ gb102)); have n3_ := Aside0.mk ((by rw [hg]; exact (below_size (by repeat (first | (with_reducible first | exact HB.out | apply below_alloc | apply pw_below_drewN | apply below_drew1) | exact HB.out))) : w.heap.size ≤ gb102)); clear HB; have HB := n0_; have BK102 := n1_; have GW102 := n2_; have GE102 := n3_; clear n0_ n1_ n2_ n3_; clear hb hbox hg; have hcz13_0 : w12.cell? ⟨gb102, 0, none⟩ = some (.string a0_0) := (blk_cell BK102.out 0).trans rfl; have hcz13_1 : w12.cell? ⟨gb102, 1, none⟩ = some (.slice A0_1 l0_1.length c0_1) := (blk_cell BK102.out 1).trans rfl; have hcz13_2 : w12.cell? ⟨gb102, 2, none⟩ = some (.slice A0_2 l0_2.length c0_2) := (blk_cell BK102.out 2).trans rfl; have hfz13_0 := blk_frozen BK102.out 0; have hfz13_1 := blk_frozen BK102.out 1; have hfz13_2 := blk_frozen BK102.out 2) | ((with_reducible refine gate_callee (f := 135) rfl ?_); refine goesL_ (some 13) rfl rfl Tryz.func135 (by kernel_rfl) rfl #[.slice A0_2 l0_2.length c0_2] rfl (by (try simp only [List.map_toArray, List.map_cons, List.map_nil]); first | done | rfl | (simp only [List.length_drop, List.length_take]; rfl)) ?_; (with_reducible refine (laws_zzFits4.calls k _ _ l0_2 false _ ?side1 ?side2 A8.out).mono ?_); (case side1 => repeat (first | exact (Kd.C_below HR0_2.out HB.out) | (with_reducible refine Kd.C_alloc ?_ _) | (with_reducible refine Kd.C_drewN ?_ _) | (with_reducible refine Kd.C_drew ?_))); (case side2 => exact HC0_2.out); rintro e w' ⟨rfl, ⟨nd, rfl⟩⟩; refine ⟨_, rfl, ?_⟩))
    go_ret
    exact ⟨by first | rfl | (simp [errW_none, errW_some] <;> rfl) | (simp [*, errW_none, errW_some] <;> rfl), by repeat (first | (with_reducible first | exact HB.out | apply below_alloc | apply pw_below_drewN | apply below_drew1 | refine below_set ?_ GE102.out) | exact HB.out)⟩
/-! ### laws_zzFits5: function 13 -/
def laws_zzFits5.l0 : Nat → List (S31) → Int → Int → Option (Bool)
 | 0, _, _, _ => none
 | k + 1, x8, x9, x10 => if x10 < x9 then (if 0 ≤ x10 then (if x10 < (x8.length : Int) then ((laws_zzFits6.f k ((rd_T31 x8 x10).f0) ((rd_T31 x8 x10).f1) ((rd_T31 x8 x10).f2)).bind fun t106 => (if t106 = true then (laws_zzFits5.l0 k x8 x9 (wrap64 (x10 + 1))) else (some false))) else (none)) else (none)) else (some true)
def laws_zzFits5.f (k : Nat) (l0 : List (S31)) : Option (Bool) := if (l0.length : Int) > 2147483647 then (some false) else (laws_zzFits5.l0 k l0 (l0.length : Int) 0)
theorem laws_zzFits5.mono_l : ∀ k, (∀ y0 y1 y2, LeO (laws_zzFits5.l0 k y0 y1 y2) (laws_zzFits5.l0 (k + 1) y0 y1 y2))
 | 0 => fun _ _ _ r h => by simp [laws_zzFits5.l0] at h
 | k + 1 => by
  have ih0 := laws_zzFits5.mono_l k
  ·intro y0 y1 y2
   unfold laws_zzFits5.l0
   repeat' first
   | (with_reducible exact ih0 _ _ _)
   | (with_reducible exact laws_zzFits6.mono _ _ _ _)
   | (with_reducible exact LeO.refl _)
   | (with_reducible exact LeO.none _)
   | (with_reducible refine LeO.ite ?_ ?_)
   | (with_reducible refine LeO.bind ?_ (fun _ => ?_))
   | exact ih0 _ _ _
   | exact laws_zzFits6.mono _ _ _ _
   | exact LeO.none _
   | refine LeO.ite ?_ ?_
   | refine LeO.bind ?_ (fun _ => ?_)
theorem laws_zzFits5.mono : ∀ a0 k, LeO (laws_zzFits5.f k a0) (laws_zzFits5.f (k + 1) a0) := by
 intro a0 k
 have ih0 := laws_zzFits5.mono_l k
 unfold laws_zzFits5.f
 repeat' first
   | (with_reducible exact ih0 _ _ _)
   | (with_reducible exact laws_zzFits6.mono _ _ _ _)
   | (with_reducible exact LeO.refl _)
   | (with_reducible exact LeO.none _)
   | (with_reducible refine LeO.ite ?_ ?_)
   | (with_reducible refine LeO.bind ?_ (fun _ => ?_))
   | exact ih0 _ _ _
   | exact laws_zzFits6.mono _ _ _ _
   | exact LeO.none _
   | refine LeO.ite ?_ ?_
   | refine LeO.bind ?_ (fun _ => ?_)
set_option maxHeartbeats 8000000 in
set_option maxRecDepth 100000 in
theorem laws_zzFits5.calls (k : Nat) (A0 : Option Addr) (c0 : Nat) (l0 : List (S31)) (r : Bool) (w : World) (hr0 : Kd.C k31 w A0 l0.length l0) (hc0 : l0.length ≤ c0) (h : laws_zzFits5.f k l0 = some r) :
  Calls Tryz.prog 13 #[.slice A0 l0.length c0] w fun e w' => e = .returned (.bool r) ∧ Below w.heap.size w w' := by
 have hu31 := Tryz.underlying31
 have HR0 := Aside0.mk hr0
 have HC0 := Aside0.mk hc0
 clear hr0 hc0
 have HB := Aside0.mk (Below.refl w.heap.size w)
 have H : (if (l0.length : Int) > 2147483647 then (some false) else (laws_zzFits5.l0 k l0 (l0.length : Int) 0)) = some r := h
 clear h
 by_cases c2 : (l0.length : Int) > 2147483647
 ·rw [if_pos c2] at H
  have c2b0 : decide (2147483647 < (l0.length : Int)) = true := decide_eq_true c2
  have c2b1 : decide (2147483647 < l0.length) = true := decide_eq_true (by omega)
  clear c2
  obtain rfl := Option.some.inj H
  go_enter Tryz.func13, Tryz.ntmps13
  go_wp2
  go_ret
  exact ⟨by first | rfl | (simp [errW_none, errW_some] <;> rfl) | (simp [*, errW_none, errW_some] <;> rfl), by repeat (first | (with_reducible first | exact HB.out | apply below_alloc | apply pw_below_drewN | apply below_drew1) | exact HB.out)⟩
 ·rw [if_neg c2] at H
  have c2b0 : decide (2147483647 < (l0.length : Int)) = false := decide_eq_false c2
  have c2b1 : decide (2147483647 < l0.length) = false := decide_eq_false (by omega)
  clear c2
  have H' := Aside0.mk H
  clear H
  go_enter Tryz.func13, Tryz.ntmps13
  go_wp2
  go_loopg [10] k (fun kq v10 w' => ∃ (x10_1 : Int), v10 = .int .i64 x10_1 ∧ Aside0 (laws_zzFits5.l0 kq l0 (l0.length : Int) x10_1 = some r) ∧ Aside0 (kq ≤ k) ∧ Aside0 (Below w.heap.size w w'))
  case atStart => exact ⟨(0), (by first | rfl | (simp; done) | (simp [*]; done)), H', ⟨Nat.le_refl _⟩, ⟨by repeat (first | (with_reducible first | exact HB.out | apply below_alloc | apply pw_below_drewN | apply below_drew1) | exact HB.out)⟩⟩
  case round =>
   clear H'
   try clear c1
   try clear c2
   try clear c2b0
   try clear c2b1
   try clear p2
   obtain ⟨x10_1, rfl, HA, HK1, HB⟩ := hrel
   cases gk with
   | zero => exact absurd HA.out (by simp [laws_zzFits5.l0])
   | succ k1 =>
    have H := HA.out
    clear HA
    simp only [laws_zzFits5.l0] at H
    by_cases c3 : x10_1 < (l0.length : Int)
    ·rw [if_pos c3] at H
     have c3b0 : decide (x10_1 < (l0.length : Int)) = true := decide_eq_true c3
     clear c3
     replace H := guard_inv H
     obtain ⟨c4, H⟩ := H
     have c4b0 : decide (0 ≤ x10_1) = true := decide_eq_true c4
     clear c4
     replace H := guard_inv H
     obtain ⟨c5, H⟩ := H
     have c5b0 : decide (x10_1 < (l0.length : Int)) = true := decide_eq_true c5
     clear c5
     replace H := Option.bind_eq_some_iff.mp H
     obtain ⟨t106, A60, H⟩ := H
     replace H : (if t106 = true then (laws_zzFits5.l0 k1 l0 (l0.length : Int) (wrap64 (x10_1 + 1))) else (some false)) = some r := H
     have A6 := Aside0.mk A60
     clear A60
     by_cases c7 : t106 = true
     ·subst c7
      have H1 : (laws_zzFits5.l0 k1 l0 (l0.length : Int) (wrap64 (x10_1 + 1))) = some r := by rw [if_pos rfl] at H; exact H
      clear H
      have H := H1
      clear H1
      have H' := Aside0.mk H
      clear H
      have p104 : 0 ≤ (x10_1 : Int) := of_decide_eq_true (by first | (with_reducible assumption) | assumption)
      have q104 : x10_1 < (l0.length : Int) := of_decide_eq_true (by first | (with_reducible assumption) | assumption)
      obtain ⟨ad104, A104_1, c104_1, A104_2, c104_2, e104, hx104_0, hx104_1, hx104_2, hl104_1, hi104_1, hl104_2, hi104_2⟩ := at_T31 HR0.out x10_1 p104 q104
      cases e104
      replace hx104_0 := (HB.out.cell (World.block_lt_of_cell? w _ hx104_0)).trans hx104_0
      replace hx104_1 := (HB.out.cell (World.block_lt_of_cell? w _ hx104_1)).trans hx104_1
      replace hx104_2 := (HB.out.cell (World.block_lt_of_cell? w _ hx104_2)).trans hx104_2
      have HR104_1 := Aside0.mk hi104_1
      have HC104_1 := Aside0.mk hl104_1
      clear hi104_1 hl104_1
      have HR104_2 := Aside0.mk hi104_2
      have HC104_2 := Aside0.mk hl104_2
      clear hi104_2 hl104_2
      replace p104 := eq_true p104
      replace q104 := eq_true q104
      go_wp2_with (first | ((with_reducible refine gate_dst (N := 4) rfl ?_); refine box_event ?hg (N := 4) ?hd (cs := #[.string (⟨#[]⟩ : ByteArray), .slice none 0 0, .slice none 0 0]) (t := 31) ?hr ?_; (case hd => rfl); (case hg => rfl); (case hr => first | (go_simp; done) | (go_simp; rfl)); intro gb105 hg w8 hbox hb; have n0_ := Aside0.mk (below_step (by repeat (first | (with_reducible first | exact HB.out | apply below_alloc | apply pw_below_drewN | apply below_drew1) | exact HB.out)) hb); have n1_ := Aside0.mk (hbox); have n2_ := Aside0.mk ((by rw [hg]; exact (below_size (by repeat (first | (with_reducible first | exact HB.out | apply below_alloc | apply pw_below_drewN | apply below_drew1) | exact HB.out))) : w.heap.size ≤ gb105)); have n3_ := Aside0.mk ((by rw [hg]; exact (below_size (by repeat (first | (with_reducible first | exact HB.out | apply below_alloc | apply pw_below_drewN | apply below_drew1) | exact HB.out))) : w.heap.size ≤ gb105)); clear HB; have HB := n0_; have BK105 := n1_; have GW105 := n2_; have GE105 := n3_; clear n0_ n1_ n2_ n3_; clear hb hbox hg; have hcz9_0 : w8.cell? ⟨gb105, 0, none⟩ = some (.string (⟨#[]⟩ : ByteArray)) := (blk_cell BK105.out 0).trans rfl; have hcz9_1 : w8.cell? ⟨gb105, 1, none⟩ = some (.slice none 0 0) := (blk_cell BK105.out 1).trans rfl; have hcz9_2 : w8.cell? ⟨gb105, 2, none⟩ = some (.slice none 0 0) := (blk_cell BK105.out 2).trans rfl; have hfz9_0 := blk_frozen BK105.out 0; have hfz9_1 := blk_frozen BK105.out 1; have hfz9_2 := blk_frozen BK105.out 2) | ((with_reducible refine gate_callee (f := 45) rfl ?_); refine goesL_ (some 15) rfl rfl Tryz.func45 (by kernel_rfl) rfl #[.agg #[.string ((rd_T31 l0 x10_1).f0), .slice A104_1 ((rd_T31 l0 x10_1).f1).length c104_1, .slice A104_2 ((rd_T31 l0 x10_1).f2).length c104_2]] rfl (by (try simp only [List.map_toArray, List.map_cons, List.map_nil]); first | done | rfl | (simp only [List.length_drop, List.length_take]; rfl)) ?_; (with_reducible refine (laws_zzFits6.calls k1 ((rd_T31 l0 x10_1).f0) _ _ ((rd_T31 l0 x10_1).f1) _ _ ((rd_T31 l0 x10_1).f2) true _ ?side1 ?side2 ?side3 ?side4 A6.out).mono ?_); (case side1 => exact Kd.C_below HR104_1.out (by repeat (first | (with_reducible first | exact HB.out | apply below_alloc | apply pw_below_drewN | apply below_drew1 | refine below_set ?_ GE105.out) | exact HB.out))); (case side2 => exact HC104_1.out); (case side3 => exact Kd.C_below HR104_2.out (by repeat (first | (with_reducible first | exact HB.out | apply below_alloc | apply pw_below_drewN | apply below_drew1 | refine below_set ?_ GE105.out) | exact HB.out))); (case side4 => exact HC104_2.out); rintro e w10 ⟨rfl, hb⟩; refine ⟨_, rfl, ?_⟩; have n0_ := Aside0.mk (blk_below (g := gb105) (o := .cells #[.string ((rd_T31 l0 x10_1).f0), .slice A104_1 ((rd_T31 l0 x10_1).f1).length c104_1, .slice A104_2 ((rd_T31 l0 x10_1).f2).length c104_2] 31 (0, 0)) (by (with_reducible repeat (first | refine blk_drewN ?_ _ | refine blk_drew ?_ | refine blk_alloc ?_ _)); refine blk_put (cs := #[.string ((rd_T31 l0 x10_1).f0), .slice A104_1 ((rd_T31 l0 x10_1).f1).length c104_1, .slice none 0 0]) ?_ 2 _ rfl; (with_reducible repeat (first | refine blk_drewN ?_ _ | refine blk_drew ?_ | refine blk_alloc ?_ _)); refine blk_put (cs := #[.string ((rd_T31 l0 x10_1).f0), .slice none 0 0, .slice none 0 0]) ?_ 1 _ rfl; (with_reducible repeat (first | refine blk_drewN ?_ _ | refine blk_drew ?_ | refine blk_alloc ?_ _)); refine blk_put (cs := #[.string (⟨#[]⟩ : ByteArray), .slice none 0 0, .slice none 0 0]) ?_ 0 _ rfl; (with_reducible repeat (first | refine blk_drewN ?_ _ | refine blk_drew ?_ | refine blk_alloc ?_ _)); exact BK105.out) hb); have n1_ := Aside0.mk (below_step (by repeat (first | (with_reducible first | exact HB.out | apply below_alloc | apply pw_below_drewN | apply below_drew1 | refine below_set ?_ GE105.out) | exact HB.out)) hb); clear BK105; clear HB; have BK105 := n0_; have HB := n1_; clear n0_ n1_; (try clear hb); (try clear hb2); (try clear hk); (try clear hi)))
      go_roundg k1
      case measure => have := HK1.out; omega
      case rel => exact ⟨(wrap64 (x10_1 + 1)), (by first | rfl | (simp; done) | (simp [*]; done)), H', ⟨by have := HK1.out; omega⟩, ⟨by repeat (first | (with_reducible first | exact HB.out | apply below_alloc | apply pw_below_drewN | apply below_drew1 | refine below_set ?_ GE105.out) | exact HB.out)⟩⟩
     ·replace c7 := Bool.eq_false_iff.mpr c7
      subst c7
      have H1 : (some false) = some r := by rw [if_neg (show ¬ (false = true) by decide)] at H; exact H
      clear H
      have H := H1
      clear H1
      obtain rfl := Option.some.inj H
      have p104 : 0 ≤ (x10_1 : Int) := of_decide_eq_true (by first | (with_reducible assumption) | assumption)
      have q104 : x10_1 < (l0.length : Int) := of_decide_eq_true (by first | (with_reducible assumption) | assumption)
      obtain ⟨ad104, A104_1, c104_1, A104_2, c104_2, e104, hx104_0, hx104_1, hx104_2, hl104_1, hi104_1, hl104_2, hi104_2⟩ := at_T31 HR0.out x10_1 p104 q104
      cases e104
      replace hx104_0 := (HB.out.cell (World.block_lt_of_cell? w _ hx104_0)).trans hx104_0
      replace hx104_1 := (HB.out.cell (World.block_lt_of_cell? w _ hx104_1)).trans hx104_1
      replace hx104_2 := (HB.out.cell (World.block_lt_of_cell? w _ hx104_2)).trans hx104_2
      have HR104_1 := Aside0.mk hi104_1
      have HC104_1 := Aside0.mk hl104_1
      clear hi104_1 hl104_1
      have HR104_2 := Aside0.mk hi104_2
      have HC104_2 := Aside0.mk hl104_2
      clear hi104_2 hl104_2
      replace p104 := eq_true p104
      replace q104 := eq_true q104
      go_wp2_with (first | ((with_reducible refine gate_dst (N := 4) rfl ?_); refine box_event ?hg (N := 4) ?hd (cs := #[.string (⟨#[]⟩ : ByteArray), .slice none 0 0, .slice none 0 0]) (t := 31) ?hr ?_; (case hd => rfl); (case hg => rfl); (case hr => first | (go_simp; done) | (go_simp; rfl)); intro gb105 hg w11 hbox hb; have n0_ := Aside0.mk (below_step (by repeat (first | (with_reducible first | exact HB.out | apply below_alloc | apply pw_below_drewN | apply below_drew1) | exact HB.out)) hb); have n1_ := Aside0.mk (hbox); have n2_ := Aside0.mk ((by rw [hg]; exact (below_size (by repeat (first | (with_reducible first | exact HB.out | apply below_alloc | apply pw_below_drewN | apply below_drew1) | exact HB.out))) : w.heap.size ≤ gb105)); have n3_ := Aside0.mk ((by rw [hg]; exact (below_size (by repeat (first | (with_reducible first | exact HB.out | apply below_alloc | apply pw_below_drewN | apply below_drew1) | exact HB.out))) : w.heap.size ≤ gb105)); clear HB; have HB := n0_; have BK105 := n1_; have GW105 := n2_; have GE105 := n3_; clear n0_ n1_ n2_ n3_; clear hb hbox hg; have hcz12_0 : w11.cell? ⟨gb105, 0, none⟩ = some (.string (⟨#[]⟩ : ByteArray)) := (blk_cell BK105.out 0).trans rfl; have hcz12_1 : w11.cell? ⟨gb105, 1, none⟩ = some (.slice none 0 0) := (blk_cell BK105.out 1).trans rfl; have hcz12_2 : w11.cell? ⟨gb105, 2, none⟩ = some (.slice none 0 0) := (blk_cell BK105.out 2).trans rfl; have hfz12_0 := blk_frozen BK105.out 0; have hfz12_1 := blk_frozen BK105.out 1; have hfz12_2 := blk_frozen BK105.out 2) | ((with_reducible refine gate_callee (f := 45) rfl ?_); refine goesL_ (some 15) rfl rfl Tryz.func45 (by kernel_rfl) rfl #[.agg #[.string ((rd_T31 l0 x10_1).f0), .slice A104_1 ((rd_T31 l0 x10_1).f1).length c104_1, .slice A104_2 ((rd_T31 l0 x10_1).f2).length c104_2]] rfl (by (try simp only [List.map_toArray, List.map_cons, List.map_nil]); first | done | rfl | (simp only [List.length_drop, List.length_take]; rfl)) ?_; (with_reducible refine (laws_zzFits6.calls k1 ((rd_T31 l0 x10_1).f0) _ _ ((rd_T31 l0 x10_1).f1) _ _ ((rd_T31 l0 x10_1).f2) false _ ?side1 ?side2 ?side3 ?side4 A6.out).mono ?_); (case side1 => exact Kd.C_below HR104_1.out (by repeat (first | (with_reducible first | exact HB.out | apply below_alloc | apply pw_below_drewN | apply below_drew1 | refine below_set ?_ GE105.out) | exact HB.out))); (case side2 => exact HC104_1.out); (case side3 => exact Kd.C_below HR104_2.out (by repeat (first | (with_reducible first | exact HB.out | apply below_alloc | apply pw_below_drewN | apply below_drew1 | refine below_set ?_ GE105.out) | exact HB.out))); (case side4 => exact HC104_2.out); rintro e w13 ⟨rfl, hb⟩; refine ⟨_, rfl, ?_⟩; have n0_ := Aside0.mk (blk_below (g := gb105) (o := .cells #[.string ((rd_T31 l0 x10_1).f0), .slice A104_1 ((rd_T31 l0 x10_1).f1).length c104_1, .slice A104_2 ((rd_T31 l0 x10_1).f2).length c104_2] 31 (0, 0)) (by (with_reducible repeat (first | refine blk_drewN ?_ _ | refine blk_drew ?_ | refine blk_alloc ?_ _)); refine blk_put (cs := #[.string ((rd_T31 l0 x10_1).f0), .slice A104_1 ((rd_T31 l0 x10_1).f1).length c104_1, .slice none 0 0]) ?_ 2 _ rfl; (with_reducible repeat (first | refine blk_drewN ?_ _ | refine blk_drew ?_ | refine blk_alloc ?_ _)); refine blk_put (cs := #[.string ((rd_T31 l0 x10_1).f0), .slice none 0 0, .slice none 0 0]) ?_ 1 _ rfl; (with_reducible repeat (first | refine blk_drewN ?_ _ | refine blk_drew ?_ | refine blk_alloc ?_ _)); refine blk_put (cs := #[.string (⟨#[]⟩ : ByteArray), .slice none 0 0, .slice none 0 0]) ?_ 0 _ rfl; (with_reducible repeat (first | refine blk_drewN ?_ _ | refine blk_drew ?_ | refine blk_alloc ?_ _)); exact BK105.out) hb); have n1_ := Aside0.mk (below_step (by repeat (first | (with_reducible first | exact HB.out | apply below_alloc | apply pw_below_drewN | apply below_drew1 | refine below_set ?_ GE105.out) | exact HB.out)) hb); clear BK105; clear HB; have BK105 := n0_; have HB := n1_; clear n0_ n1_; (try clear hb); (try clear hb2); (try clear hk); (try clear hi)))
      go_ret
      exact ⟨by first | rfl | (simp [errW_none, errW_some] <;> rfl) | (simp [*, errW_none, errW_some] <;> rfl), by repeat (first | (with_reducible first | exact HB.out | apply below_alloc | apply pw_below_drewN | apply below_drew1 | refine below_set ?_ GE105.out) | exact HB.out)⟩
    ·rw [if_neg c3] at H
     have c3b0 : decide (x10_1 < (l0.length : Int)) = false := decide_eq_false c3
     clear c3
     obtain rfl := Option.some.inj H
     go_wp2
     go_ret
     exact ⟨by first | rfl | (simp [errW_none, errW_some] <;> rfl) | (simp [*, errW_none, errW_some] <;> rfl), by repeat (first | (with_reducible first | exact HB.out | apply below_alloc | apply pw_below_drewN | apply below_drew1) | exact HB.out)⟩
/-! ### spec_Digits: function 137 -/
def spec_Digits.f : Nat → Int → Int → Option (ByteArray)
 | 0, _, _ => none
 | k + 1, a0, a1 => if a1 = 0 then (none) else (if 0 ≤ (Int.tmod a0 a1) then (if (Int.tmod a0 a1) < 16 then (if a0 < a1 then (some (strOfNums (([bt (⟨#[48, 49, 50, 51, 52, 53, 54, 55, 56, 57, 97, 98, 99, 100, 101, 102]⟩ : ByteArray) (Int.tmod a0 a1)] : List Int)))) else ((spec_Digits.f k (IntKind.u64.wrap (Int.tdiv a0 a1)) a1).bind fun t111 => ((some (([bt (⟨#[48, 49, 50, 51, 52, 53, 54, 55, 56, 57, 97, 98, 99, 100, 101, 102]⟩ : ByteArray) (Int.tmod a0 a1)] : List Int) : List Int)).bind fun y112 => (if t111.size + (strOfNums y112).size ≤ 9223372036854775807 then (some (t111 ++ (strOfNums y112))) else (none))))) else (none)) else (none))
theorem spec_Digits.mono_l : ∀ k, (∀ y0 y1, LeO (spec_Digits.f k y0 y1) (spec_Digits.f (k + 1) y0 y1))
 | 0 => fun _ _ r h => by simp [spec_Digits.f] at h
 | k + 1 => by
  have ih0 := spec_Digits.mono_l k
  ·intro y0 y1
   unfold spec_Digits.f
   repeat' first
   | (with_reducible exact ih0 _ _)
   | (with_reducible exact LeO.refl _)
   | (with_reducible exact LeO.none _)
   | (with_reducible refine LeO.ite ?_ ?_)
   | (with_reducible refine LeO.bind ?_ (fun _ => ?_))
   | exact ih0 _ _
   | exact LeO.none _
   | refine LeO.ite ?_ ?_
   | refine LeO.bind ?_ (fun _ => ?_)
theorem spec_Digits.mono : ∀ a0 a1 k, LeO (spec_Digits.f k a0 a1) (spec_Digits.f (k + 1) a0 a1) := by
 intro a0 a1 k
 have ih0 := spec_Digits.mono_l k
 exact ih0 a0 a1
def spec_Digits.T4 : Bool × List (List Nat × List Nat) := (true, [([], []), ([], []), ([0, 1], [0, 1]), ([], []), ([2, 3], [2, 3]), ([], []), ([5], [5]), ([6], [6]), ([4, 7], [4, 7]), ([8, 4, 0, 1, 2, 3, 4, 5, 6, 7, 8], [8])])
def spec_Digits.B4 : List Nat := [0, 0, 3, 0, 15, 0, 32, 96, 255, 511]
theorem spec_Digits.tab4 : rtab .any (opsOf Tryz.f137 4) = spec_Digits.T4 := by kernel_rfl
theorem spec_Digits.bits4 : waitsOk spec_Digits.T4.2 spec_Digits.B4 = true := by kernel_rfl
set_option maxHeartbeats 8000000 in
set_option maxRecDepth 100000 in
theorem spec_Digits.calls (k : Nat) : ∀ (a0 : Int) (a1 : Int) (r : ByteArray) (w : World) (h : spec_Digits.f k a0 a1 = some r),
  Calls Tryz.prog 137 #[.int .u64 a0, .int .u64 a1] w fun e w' => e = .returned (.string r) ∧ Below w.heap.size w w' := by
 induction k using Nat.strongRecOn with
 | _ k ih =>
 intro a0 a1 r w h
 cases k with
 | zero => exact absurd h (by simp [spec_Digits.f])
 | succ k =>
 simp only [spec_Digits.f] at h
 have HB := Aside0.mk (Below.refl w.heap.size w)
 have H : (if a1 = 0 then (none) else (if 0 ≤ (Int.tmod a0 a1) then (if (Int.tmod a0 a1) < 16 then (if a0 < a1 then (some (strOfNums (([bt (⟨#[48, 49, 50, 51, 52, 53, 54, 55, 56, 57, 97, 98, 99, 100, 101, 102]⟩ : ByteArray) (Int.tmod a0 a1)] : List Int)))) else ((spec_Digits.f k (IntKind.u64.wrap (Int.tdiv a0 a1)) a1).bind fun t111 => ((some (([bt (⟨#[48, 49, 50, 51, 52, 53, 54, 55, 56, 57, 97, 98, 99, 100, 101, 102]⟩ : ByteArray) (Int.tmod a0 a1)] : List Int) : List Int)).bind fun y112 => (if t111.size + (strOfNums y112).size ≤ 9223372036854775807 then (some (t111 ++ (strOfNums y112))) else (none))))) else (none)) else (none))) = some r := h
 clear h
 by_cases c3 : a1 = 0
 ·rw [if_pos c3] at H
  exact absurd H (by simp)
 ·rw [if_neg c3] at H
  have c3b0 : (a1 == 0) = false := beq_eq_false_iff_ne.mpr c3
  have c3b1 : (a1 != 0) = true := bne_iff_ne.mpr c3
  obtain ⟨ji4, hji4⟩ : ∃ j_ : Int, (Int.tmod a0 a1) = j_ := ⟨_, rfl⟩
  replace H : (if 0 ≤ (ji4) then (if (ji4) < 16 then (if a0 < a1 then (some (strOfNums (([bt (⟨#[48, 49, 50, 51, 52, 53, 54, 55, 56, 57, 97, 98, 99, 100, 101, 102]⟩ : ByteArray) (ji4)] : List Int)))) else ((spec_Digits.f k (IntKind.u64.wrap (Int.tdiv a0 a1)) a1).bind fun t111 => ((some (([bt (⟨#[48, 49, 50, 51, 52, 53, 54, 55, 56, 57, 97, 98, 99, 100, 101, 102]⟩ : ByteArray) (ji4)] : List Int) : List Int)).bind fun y112 => (if t111.size + (strOfNums y112).size ≤ 9223372036854775807 then (some (t111 ++ (strOfNums y112))) else (none))))) else (none)) else (none)) = some r := by first | (rw [hji4] at H; exact H) | (simp only [hji4] at H ⊢; exact H)
  replace H := guard_inv H
  obtain ⟨c5, H⟩ := H
  have c5b0 : decide (0 ≤ (ji4)) = true := decide_eq_true c5
  clear c5
  replace H := guard_inv H
  obtain ⟨c6, H⟩ := H
  have c6b0 : decide ((ji4) < 16) = true := decide_eq_true c6
  clear c6
  by_cases c8 : a0 < a1
  ·rw [if_pos c8] at H
   have c8b0 : decide (a0 < a1) = true := decide_eq_true c8
   clear c8
   obtain ⟨y108, hy108⟩ : ∃ y_ : List Int, y_ = (([bt (⟨#[48, 49, 50, 51, 52, 53, 54, 55, 56, 57, 97, 98, 99, 100, 101, 102]⟩ : ByteArray) (ji4)] : List Int)) := ⟨_, rfl⟩
   replace H : (some (strOfNums y108)) = some r := by first | (rw [hy108]; with_reducible exact H) | (have H2_ := (Option.bind_some _ _).symm.trans H; rw [hy108]; with_reducible exact H2_) | (have H2_ := (Option.bind_some _ _).symm.trans H; with_reducible exact H2_) | with_reducible exact H | (rw [hy108]; exact H) | exact H
   have Ny108 := Aside0.mk hy108
   clear hy108
   obtain rfl := Option.some.inj H
   have p7 : 0 ≤ ((ji4) : Int) := of_decide_eq_true (by first | (with_reducible assumption) | assumption)
   have q7 : (ji4) < (16 : Int) := of_decide_eq_true (by first | (with_reducible assumption) | assumption)
   have hx7 := bt_at (⟨#[48, 49, 50, 51, 52, 53, 54, 55, 56, 57, 97, 98, 99, 100, 101, 102]⟩ : ByteArray) (ji4)
   replace p7 := eq_true p7
   replace q7 := eq_true q7
   go_enter Tryz.func137, Tryz.ntmps137
   go_wp2_with (first | ((with_reducible refine gate_dst (N := 14) rfl ?_); refine Kd.R_lit (Kd.int .u8) _ 5 ?hg (N := 14) ?hd (xs := ([bt (⟨#[48, 49, 50, 51, 52, 53, 54, 55, 56, 57, 97, 98, 99, 100, 101, 102]⟩ : ByteArray) (ji4)] : List Int)) (inner := [.int .u8 (bt (⟨#[48, 49, 50, 51, 52, 53, 54, 55, 56, 57, 97, 98, 99, 100, 101, 102]⟩ : ByteArray) (ji4))]) (ok := fun _ => True) (okp := fun _ => True) ?hr ?hp (fun _ hk => hk) trivial (Below.refl _ _) (Nat.le_refl _) (by simp) ?_; (case hd => rfl); (case hg => rfl); (case hr => first | (go_simp; done) | (go_simp; rfl)); (case hp => exact (Reps.one (show Kd.M (Kd.int .u8) _ _ _ (bt (⟨#[48, 49, 50, 51, 52, 53, 54, 55, 56, 57, 97, 98, 99, 100, 101, 102]⟩ : ByteArray) (ji4)) [.int .u8 (bt (⟨#[48, 49, 50, 51, 52, 53, 54, 55, 56, 57, 97, 98, 99, 100, 101, 102]⟩ : ByteArray) (ji4))] from rfl) (Reps.none _ _))); intro v109 w9 ho10 hb hg_ hnew_; clear hg_ hnew_; (first | rw [← Ny108.out] at ho10 | (simp only [Int.reduceToNat] at ho10; rw [← Ny108.out] at ho10)); have n0_ := Aside0.mk (Kd.R_lower ho10 (below_size (by repeat (first | (with_reducible first | exact HB.out | apply below_alloc | apply pw_below_drewN | apply below_drew1) | exact HB.out)))); have n1_ := Aside0.mk (below_step (by repeat (first | (with_reducible first | exact HB.out | apply below_alloc | apply pw_below_drewN | apply below_drew1) | exact HB.out)) hb); clear HB; have HO110 := n0_; have HB := n1_; clear n0_ n1_; clear hb ho10; have hcv11 := own_string (P := Tryz.prog) Tryz.underlying173 Tryz.underlying5 Tryz.underlying9 (Kd.own_of_R HO110.out)))
   go_ret
   exact ⟨by first | rfl | (simp [errW_none, errW_some] <;> rfl) | (simp only [← hji4]; first | rfl | (simp [errW_none, errW_some] <;> rfl)) | (simp [*, errW_none, errW_some] <;> rfl), by repeat (first | (with_reducible first | exact HB.out | apply below_alloc | apply pw_below_drewN | apply below_drew1) | exact HB.out)⟩
  ·rw [if_neg c8] at H
   have c8b0 : decide (a0 < a1) = false := decide_eq_false c8
   clear c8
   replace H := Option.bind_eq_some_iff.mp H
   obtain ⟨t111, A120, H⟩ := H
   try dsimp -simprocs only at H
   have A12 := Aside0.mk A120
   clear A120
   obtain ⟨y112, hy112⟩ : ∃ y_ : List Int, y_ = (([bt (⟨#[48, 49, 50, 51, 52, 53, 54, 55, 56, 57, 97, 98, 99, 100, 101, 102]⟩ : ByteArray) (ji4)] : List Int)) := ⟨_, rfl⟩
   replace H : (if t111.size + (strOfNums y112).size ≤ 9223372036854775807 then (some (t111 ++ (strOfNums y112))) else (none)) = some r := by first | (rw [hy112]; with_reducible exact H) | (have H2_ := (Option.bind_some _ _).symm.trans H; rw [hy112]; with_reducible exact H2_) | (have H2_ := (Option.bind_some _ _).symm.trans H; with_reducible exact H2_) | with_reducible exact H | (rw [hy112]; exact H) | exact H
   have Ny112 := Aside0.mk hy112
   clear hy112
   replace H := guard_inv H
   obtain ⟨c13, H⟩ := H
   have c13b0 := eq_true c13
   have c13b1 := decide_eq_true c13
   try have c13b2 := eq_false (Nat.not_lt.2 c13)
   obtain rfl := Option.some.inj H
   have p7 : 0 ≤ ((ji4) : Int) := of_decide_eq_true (by first | (with_reducible assumption) | assumption)
   have q7 : (ji4) < (16 : Int) := of_decide_eq_true (by first | (with_reducible assumption) | assumption)
   have hx7 := bt_at (⟨#[48, 49, 50, 51, 52, 53, 54, 55, 56, 57, 97, 98, 99, 100, 101, 102]⟩ : ByteArray) (ji4)
   replace p7 := eq_true p7
   replace q7 := eq_true q7
   go_enter Tryz.func137, Tryz.ntmps137
   try go_wp2
   have n0_ := Aside0.mk (below_drew1 HB.out)
   clear HB
   have HB := n0_
   clear n0_
   refine start_ (n := 10) (S := fun w' => True) (ds := []) (bb [0, 10]) (by kernel_rfl) rfl rfl trivial (fun hHeld => ?_); refine with_tabW spec_Digits.tab4 spec_Digits.bits4 (fun HT_ HW_ => ?_)
   generalize w.drew = w14 at HB hHeld ⊢
   refine pure_ (i := 0) (N := some 16) (v := ?_) (a' := ?_) (bb [1, 9]) rfl rfl (any_of HT_.out (by kernel_rfl)) (fun _ _ _ h => h) (Or.inl ⟨by rfl, ?_⟩) ?_ ?_
   rotate_left
   ·intro w'
    go_simp
    with_reducible rfl
   rotate_left
   ·simp only [Act.put, List.setIfInBounds_toArray, List.set_cons_zero, List.set_cons_succ, i64_w, i32_w]
    rfl
   refine pure_ (i := 1) (N := some 17) (v := ?_) (a' := ?_) (bb [2, 8]) rfl rfl (any_of HT_.out (by kernel_rfl)) (fun _ _ _ h => h) (Or.inl ⟨by rfl, ?_⟩) ?_ ?_
   rotate_left
   ·intro w'
    go_simp
    with_reducible rfl
   rotate_left
   ·simp only [Act.put, List.setIfInBounds_toArray, List.set_cons_zero, List.set_cons_succ, i64_w, i32_w]
    rfl
   refine pure_ (i := 2) (N := some 18) (v := ?_) (a' := ?_) (bb [3, 7]) rfl rfl (any_of HT_.out (by kernel_rfl)) (fun _ _ _ h => h) (Or.inl ⟨by rfl, ?_⟩) ?_ ?_
   rotate_left
   ·intro w'
    go_simp
    with_reducible rfl
   rotate_left
   ·simp only [Act.put, List.setIfInBounds_toArray, List.set_cons_zero, List.set_cons_succ, i64_w, i32_w]
    rfl
   refine pure_ (i := 3) (N := some 19) (v := ?_) (a' := ?_) (bb [4, 6]) rfl rfl (any_of HT_.out (by kernel_rfl)) (fun _ _ _ h => h) (Or.inl ⟨by rfl, ?_⟩) ?_ ?_
   rotate_left
   ·intro w'
    go_simp
    with_reducible rfl
   rotate_left
   ·simp only [Act.put, List.setIfInBounds_toArray, List.set_cons_zero, List.set_cons_succ, i64_w, i32_w]
    rfl
   refine pure_ (i := 5) (N := some 21) (v := ?_) (a' := ?_) (bb [4, 1, 1, 4]) rfl rfl (any_of HT_.out (by kernel_rfl)) (fun _ _ _ h => h) (Or.inl ⟨by rfl, ?_⟩) ?_ ?_
   rotate_left
   ·intro w'
    go_simp
    with_reducible rfl
   rotate_left
   ·simp only [Act.put, List.setIfInBounds_toArray, List.set_cons_zero, List.set_cons_succ, i64_w, i32_w]
    rfl
   refine join_ (σ := Value) 2 (bb [8, 2]) (fun s_ => [(20, .string t111), (22, s_), (23, .string (strOfNums y112))]) (fun s_ w' => (Kd.R (Kd.int .u8) 5 w' w.heap.size (fun _ => True) s_ y112) ∧ (Below w.heap.size w w')) ?_ ?_
   rotate_left
   ·intro hCont
    refine two_ (i := 4) (j := 6) (Ni := some 20) (Nj := some 22) (bb [6, 4]) (bb [4, 1, 2, 3]) rfl rfl rfl rfl (two_of HT_.out (by kernel_rfl)) (by decide) (by decide) (fun K hK => ?_) (fun K hK => ?_)
    ·skip
     refine goes_ Tryz.func137 (by kernel_rfl) rfl #[.int .u64 (IntKind.u64.wrap (Int.tdiv a0 a1)), .int .u64 a1] (by rfl) rfl rfl (by (try simp only [List.map_toArray, List.map_cons, List.map_nil]); first | done | rfl | (simp only [List.length_drop, List.length_take]; rfl)) ?_
     with_reducible refine (ih k (by omega) (IntKind.u64.wrap (Int.tdiv a0 a1)) a1 t111 _ A12.out).mono ?_
     rintro e w15 ⟨rfl, hb⟩
     refine ⟨_, rfl, ?_⟩
     have n0_ := Aside0.mk (below_step (by repeat (first | (with_reducible first | exact HB.out | apply below_alloc | apply pw_below_drewN | apply below_drew1) | exact HB.out)) hb)
     clear HB
     have HB := n0_
     clear n0_
     (try clear hb)
     (try clear hb2)
     (try clear hk)
     (try clear hi)
     refine hK.out _ _ trivial (fun hHeld => ?_)
     clear hK K
     refine norm_ (a' := ?_) ?_ ?_
     rotate_left
     ·show Act.put _ (some 20) _ = _
      simp only [Act.put, List.setIfInBounds_toArray, List.set_cons_zero, List.set_cons_succ, i64_w, i32_w]
      rfl
     refine one_ (i := 6) (N := some 22) (bb [7, 3]) rfl rfl (one_of HT_.out (by kernel_rfl)) (by decide) (fun K hK => ?_)
     refine Kd.R_lit_step (Kd.int .u8) _ 5 ?hg (N := 22) ?hd (xs := ([bt (⟨#[48, 49, 50, 51, 52, 53, 54, 55, 56, 57, 97, 98, 99, 100, 101, 102]⟩ : ByteArray) (ji4)] : List Int)) (inner := [.int .u8 (bt (⟨#[48, 49, 50, 51, 52, 53, 54, 55, 56, 57, 97, 98, 99, 100, 101, 102]⟩ : ByteArray) (ji4))]) (ok := fun _ => True) (okp := fun _ => True) ?hr ?hp (fun _ hk => hk) trivial (Below.refl _ _) (Nat.le_refl _) (by simp) ?_; (case hd => rfl); (case hg => rfl); (case hr => first | (go_simp; done) | (go_simp; rfl)); (case hp => exact (Reps.one (show Kd.M (Kd.int .u8) _ _ _ (bt (⟨#[48, 49, 50, 51, 52, 53, 54, 55, 56, 57, 97, 98, 99, 100, 101, 102]⟩ : ByteArray) (ji4)) [.int .u8 (bt (⟨#[48, 49, 50, 51, 52, 53, 54, 55, 56, 57, 97, 98, 99, 100, 101, 102]⟩ : ByteArray) (ji4))] from rfl) (Reps.none _ _)))
     intro v113 w16 ho17 hb hg_ hnew_
     clear hg_ hnew_
     (first | rw [← Ny112.out] at ho17 | (simp only [Int.reduceToNat] at ho17; rw [← Ny112.out] at ho17))
     have n0_ := Aside0.mk (Kd.R_lower ho17 (below_size (by repeat (first | (with_reducible first | exact HB.out | apply below_alloc | apply pw_below_drewN | apply below_drew1) | exact HB.out))))
     have n1_ := Aside0.mk (below_step (by repeat (first | (with_reducible first | exact HB.out | apply below_alloc | apply pw_below_drewN | apply below_drew1) | exact HB.out)) hb)
     clear HB
     have HO114 := n0_
     have HB := n1_
     clear n0_ n1_
     clear hb ho17
     refine hK.out _ _ trivial (fun hHeld => ?_)
     clear hK K
     refine norm_ (a' := ?_) ?_ ?_
     rotate_left
     ·show Act.put _ (some 22) _ = _
      simp only [Act.put, List.setIfInBounds_toArray, List.set_cons_zero, List.set_cons_succ, i64_w, i32_w]
      rfl
     refine one_ (i := 7) (N := some 23) (bb [8, 2]) rfl rfl (one_of HT_.out (by kernel_rfl)) (by decide) (fun K hK => ?_)
     have hcv18 := own_string (P := Tryz.prog) Tryz.underlying173 Tryz.underlying5 Tryz.underlying9 (Kd.own_of_R HO114.out)
     refine value_ (w1 := ?_) (v := ?_) (by rfl) rfl ?_ ?_
     rotate_left 2
     ·go_simp
      constructor
      ·rfl
      ·rfl
     clear hcv18
     refine hK.out _ _ trivial (fun hHeld => ?_)
     clear hK K
     refine norm_ (a' := ?_) ?_ ?_
     rotate_left
     ·show Act.put _ (some 23) _ = _
      simp only [Act.put, List.setIfInBounds_toArray, List.set_cons_zero, List.set_cons_succ, i64_w, i32_w]
      rfl
     exact norm_ (by simp only [putAll, Act.put, List.setIfInBounds_toArray, List.set_cons_zero, List.set_cons_succ]) (hCont (v113) _ ⟨(by (with_reducible repeat (first | apply Kd.R_alloc | apply Kd.R_drewN | apply Kd.R_drew)); exact HO114.out), (by repeat (first | (with_reducible first | exact HB.out | apply below_alloc | apply pw_below_drewN | apply below_drew1) | exact HB.out))⟩)
    ·skip
     refine Kd.R_lit_step (Kd.int .u8) _ 5 ?hg (N := 22) ?hd (xs := ([bt (⟨#[48, 49, 50, 51, 52, 53, 54, 55, 56, 57, 97, 98, 99, 100, 101, 102]⟩ : ByteArray) (ji4)] : List Int)) (inner := [.int .u8 (bt (⟨#[48, 49, 50, 51, 52, 53, 54, 55, 56, 57, 97, 98, 99, 100, 101, 102]⟩ : ByteArray) (ji4))]) (ok := fun _ => True) (okp := fun _ => True) ?hr ?hp (fun _ hk => hk) trivial (Below.refl _ _) (Nat.le_refl _) (by simp) ?_; (case hd => rfl); (case hg => rfl); (case hr => first | (go_simp; done) | (go_simp; rfl)); (case hp => exact (Reps.one (show Kd.M (Kd.int .u8) _ _ _ (bt (⟨#[48, 49, 50, 51, 52, 53, 54, 55, 56, 57, 97, 98, 99, 100, 101, 102]⟩ : ByteArray) (ji4)) [.int .u8 (bt (⟨#[48, 49, 50, 51, 52, 53, 54, 55, 56, 57, 97, 98, 99, 100, 101, 102]⟩ : ByteArray) (ji4))] from rfl) (Reps.none _ _)))
     intro v113 w15 ho16 hb hg_ hnew_
     clear hg_ hnew_
     (first | rw [← Ny112.out] at ho16 | (simp only [Int.reduceToNat] at ho16; rw [← Ny112.out] at ho16))
     have n0_ := Aside0.mk (Kd.R_lower ho16 (below_size (by repeat (first | (with_reducible first | exact HB.out | apply below_alloc | apply pw_below_drewN | apply below_drew1) | exact HB.out))))
     have n1_ := Aside0.mk (below_step (by repeat (first | (with_reducible first | exact HB.out | apply below_alloc | apply pw_below_drewN | apply below_drew1) | exact HB.out)) hb)
     clear HB
     have HO114 := n0_
     have HB := n1_
     clear n0_ n1_
     clear hb ho16
     refine hK.out _ _ trivial (fun hHeld => ?_)
     clear hK K
     refine norm_ (a' := ?_) ?_ ?_
     rotate_left
     ·show Act.put _ (some 22) _ = _
      simp only [Act.put, List.setIfInBounds_toArray, List.set_cons_zero, List.set_cons_succ, i64_w, i32_w]
      rfl
     refine two_ (i := 4) (j := 7) (Ni := some 20) (Nj := some 23) (bb [7, 3]) (bb [4, 1, 3, 2]) rfl rfl rfl rfl (two_of HT_.out (by kernel_rfl)) (by decide) (by decide) (fun K hK => ?_) (fun K hK => ?_)
     ·skip
      refine goes_ Tryz.func137 (by kernel_rfl) rfl #[.int .u64 (IntKind.u64.wrap (Int.tdiv a0 a1)), .int .u64 a1] (by rfl) rfl rfl (by (try simp only [List.map_toArray, List.map_cons, List.map_nil]); first | done | rfl | (simp only [List.length_drop, List.length_take]; rfl)) ?_
      with_reducible refine (ih k (by omega) (IntKind.u64.wrap (Int.tdiv a0 a1)) a1 t111 _ A12.out).mono ?_
      rintro e w17 ⟨rfl, hb⟩
      refine ⟨_, rfl, ?_⟩
      have n0_ := Aside0.mk (Kd.R_below (by (with_reducible repeat (first | apply Kd.R_alloc | apply Kd.R_drewN | apply Kd.R_drew)); exact HO114.out) hb)
      have n1_ := Aside0.mk (below_step (by repeat (first | (with_reducible first | exact HB.out | apply below_alloc | apply pw_below_drewN | apply below_drew1) | exact HB.out)) hb)
      clear HO114
      clear HB
      have HO114 := n0_
      have HB := n1_
      clear n0_ n1_
      (try clear hb)
      (try clear hb2)
      (try clear hk)
      (try clear hi)
      refine hK.out _ _ trivial (fun hHeld => ?_)
      clear hK K
      refine norm_ (a' := ?_) ?_ ?_
      rotate_left
      ·show Act.put _ (some 20) _ = _
       simp only [Act.put, List.setIfInBounds_toArray, List.set_cons_zero, List.set_cons_succ, i64_w, i32_w]
       rfl
      refine one_ (i := 7) (N := some 23) (bb [8, 2]) rfl rfl (one_of HT_.out (by kernel_rfl)) (by decide) (fun K hK => ?_)
      have hcv18 := own_string (P := Tryz.prog) Tryz.underlying173 Tryz.underlying5 Tryz.underlying9 (Kd.own_of_R HO114.out)
      refine value_ (w1 := ?_) (v := ?_) (by rfl) rfl ?_ ?_
      rotate_left 2
      ·go_simp
       constructor
       ·rfl
       ·rfl
      clear hcv18
      refine hK.out _ _ trivial (fun hHeld => ?_)
      clear hK K
      refine norm_ (a' := ?_) ?_ ?_
      rotate_left
      ·show Act.put _ (some 23) _ = _
       simp only [Act.put, List.setIfInBounds_toArray, List.set_cons_zero, List.set_cons_succ, i64_w, i32_w]
       rfl
      exact norm_ (by simp only [putAll, Act.put, List.setIfInBounds_toArray, List.set_cons_zero, List.set_cons_succ]) (hCont (v113) _ ⟨(by (with_reducible repeat (first | apply Kd.R_alloc | apply Kd.R_drewN | apply Kd.R_drew)); exact HO114.out), (by repeat (first | (with_reducible first | exact HB.out | apply below_alloc | apply pw_below_drewN | apply below_drew1) | exact HB.out))⟩)
     ·skip
      have hcv17 := own_string (P := Tryz.prog) Tryz.underlying173 Tryz.underlying5 Tryz.underlying9 (Kd.own_of_R HO114.out)
      refine value_ (w1 := ?_) (v := ?_) (by rfl) rfl ?_ ?_
      rotate_left 2
      ·go_simp
       constructor
       ·rfl
       ·rfl
      clear hcv17
      refine hK.out _ _ trivial (fun hHeld => ?_)
      clear hK K
      refine norm_ (a' := ?_) ?_ ?_
      rotate_left
      ·show Act.put _ (some 23) _ = _
       simp only [Act.put, List.setIfInBounds_toArray, List.set_cons_zero, List.set_cons_succ, i64_w, i32_w]
       rfl
      refine one_ (i := 4) (N := some 20) (bb [8, 2]) rfl rfl (one_of HT_.out (by kernel_rfl)) (by decide) (fun K hK => ?_)
      refine goes_ Tryz.func137 (by kernel_rfl) rfl #[.int .u64 (IntKind.u64.wrap (Int.tdiv a0 a1)), .int .u64 a1] (by rfl) rfl rfl (by (try simp only [List.map_toArray, List.map_cons, List.map_nil]); first | done | rfl | (simp only [List.length_drop, List.length_take]; rfl)) ?_
      with_reducible refine (ih k (by omega) (IntKind.u64.wrap (Int.tdiv a0 a1)) a1 t111 _ A12.out).mono ?_
      rintro e w18 ⟨rfl, hb⟩
      refine ⟨_, rfl, ?_⟩
      have n0_ := Aside0.mk (Kd.R_below (by (with_reducible repeat (first | apply Kd.R_alloc | apply Kd.R_drewN | apply Kd.R_drew)); exact HO114.out) hb)
      have n1_ := Aside0.mk (below_step (by repeat (first | (with_reducible first | exact HB.out | apply below_alloc | apply pw_below_drewN | apply below_drew1) | exact HB.out)) hb)
      clear HO114
      clear HB
      have HO114 := n0_
      have HB := n1_
      clear n0_ n1_
      (try clear hb)
      (try clear hb2)
      (try clear hk)
      (try clear hi)
      refine hK.out _ _ trivial (fun hHeld => ?_)
      clear hK K
      refine norm_ (a' := ?_) ?_ ?_
      rotate_left
      ·show Act.put _ (some 20) _ = _
       simp only [Act.put, List.setIfInBounds_toArray, List.set_cons_zero, List.set_cons_succ, i64_w, i32_w]
       rfl
      exact norm_ (by simp only [putAll, Act.put, List.setIfInBounds_toArray, List.set_cons_zero, List.set_cons_succ]) (hCont (v113) _ ⟨(by (with_reducible repeat (first | apply Kd.R_alloc | apply Kd.R_drewN | apply Kd.R_drew)); exact HO114.out), (by repeat (first | (with_reducible first | exact HB.out | apply below_alloc | apply pw_below_drewN | apply below_drew1) | exact HB.out))⟩)
   rintro v113 w19 ⟨h0_, h1_⟩
   have n0_ : Aside0 (Kd.R (Kd.int .u8) 5 w19 w.heap.size (fun _ => True) v113 y112) := ⟨h0_⟩
   have n1_ : Aside0 (Below w.heap.size w w19) := ⟨h1_⟩
   clear HB
   clear h0_ h1_
   have HO114 := n0_
   have HB := n1_
   clear n0_ n1_
   have hHeld := trivial
   refine norm_ (a' := ?_) ?_ ?_
   rotate_left
   ·simp only [putAll, Act.put, List.setIfInBounds_toArray, List.set_cons_zero, List.set_cons_succ]
    rfl
   refine pure_ (i := 8) (N := some 24) (v := ?_) (a' := ?_) (bb [9, 1]) rfl rfl (any_of HT_.out (by kernel_rfl)) (fun _ _ _ h => h) (Or.inl ⟨by rfl, ?_⟩) ?_ ?_
   rotate_left
   ·intro w'
    go_simp
    with_reducible rfl
   rotate_left
   ·simp only [Act.put, List.setIfInBounds_toArray, List.set_cons_zero, List.set_cons_succ, i64_w, i32_w]
    rfl
   refine pure_ (i := 9) (N := some 4) (v := ?_) (a' := ?_) (bb [10]) rfl rfl (any_of HT_.out (by kernel_rfl)) (fun _ _ _ h => h) (Or.inl ⟨by rfl, ?_⟩) ?_ ?_
   rotate_left
   ·intro w'
    go_simp
    with_reducible rfl
   rotate_left
   ·simp only [Act.put, List.setIfInBounds_toArray, List.set_cons_zero, List.set_cons_succ, i64_w, i32_w]
    rfl
   refine done_ (done_of HT_.out (by kernel_rfl)) ?_
   try go_wp2
   go_ret
   exact ⟨by first | rfl | (simp [errW_none, errW_some] <;> rfl) | (simp only [← hji4]; first | rfl | (simp [errW_none, errW_some] <;> rfl)) | (simp [*, errW_none, errW_some] <;> rfl), by repeat (first | (with_reducible first | exact HB.out | apply below_alloc | apply pw_below_drewN | apply below_drew1) | exact HB.out)⟩
/-! ### spec_Text: function 52 -/
def spec_Text.f (k : Nat) (a0 : Int) : Option (ByteArray) := (spec_Digits.f k a0 10).bind fun t115 => (some t115)
theorem spec_Text.mono : ∀ a0 k, LeO (spec_Text.f k a0) (spec_Text.f (k + 1) a0) := by
 intro a0 k
 unfold spec_Text.f
 repeat' first
   | (with_reducible exact spec_Digits.mono _ _ _)
   | (with_reducible exact LeO.refl _)
   | (with_reducible exact LeO.none _)
   | (with_reducible refine LeO.ite ?_ ?_)
   | (with_reducible refine LeO.bind ?_ (fun _ => ?_))
   | exact spec_Digits.mono _ _ _
   | exact LeO.none _
   | refine LeO.ite ?_ ?_
   | refine LeO.bind ?_ (fun _ => ?_)
set_option maxHeartbeats 8000000 in
set_option maxRecDepth 100000 in
theorem spec_Text.calls (k : Nat) (a0 : Int) (r : ByteArray) (w : World) (h : spec_Text.f k a0 = some r) :
  Calls Tryz.prog 52 #[.int .u64 a0] w fun e w' => e = .returned (.string r) ∧ Below w.heap.size w w' := by
 have HB := Aside0.mk (Below.refl w.heap.size w)
 have H : ((spec_Digits.f k a0 10).bind fun t115 => (some t115)) = some r := h
 clear h
 replace H := Option.bind_eq_some_iff.mp H
 obtain ⟨t115, A20, H⟩ := H
 replace H : (some t115) = some r := H
 have A2 := Aside0.mk A20
 clear A20
 obtain rfl := Option.some.inj H
 go_enter Tryz.func52, Tryz.ntmps52
 go_wp2_with (first | ((with_reducible refine gate_callee (f := 137) rfl ?_); refine goesL_ (some 4) rfl rfl Tryz.func137 (by kernel_rfl) rfl #[.int .u64 a0, .int .u64 10] rfl (by (try simp only [List.map_toArray, List.map_cons, List.map_nil]); first | done | rfl | (simp only [List.length_drop, List.length_take]; rfl)) ?_; (with_reducible refine (spec_Digits.calls k a0 10 t115 _ A2.out).mono ?_); rintro e w3 ⟨rfl, hb⟩; refine ⟨_, rfl, ?_⟩; have n0_ := Aside0.mk (below_step (by repeat (first | (with_reducible first | exact HB.out | apply below_alloc | apply pw_below_drewN | apply below_drew1) | exact HB.out)) hb); clear HB; have HB := n0_; clear n0_; (try clear hb); (try clear hb2); (try clear hk); (try clear hi)))
 go_ret
 exact ⟨by first | rfl | (simp [errW_none, errW_some] <;> rfl) | (simp [*, errW_none, errW_some] <;> rfl), by repeat (first | (with_reducible first | exact HB.out | apply below_alloc | apply pw_below_drewN | apply below_drew1) | exact HB.out)⟩
end Go.Proofs.YtednjmngalmdkaaGreatDoor.GPC
end
section
/- A list of rows among a call's arguments, opened; what is known of it (RowOk). No condition. -/
namespace Go.Proofs.YtednjmngalmdkaaGreatDoor.OP
open Go.RowKit Go.ChangeShapes Go.WideShapes Go.Deep Go.Proofs.YtednjmngalmdkaaGreatDoorW.PrintWords Go.Proofs.YtednjmngalmdkaaGreatDoor.GPC
set_option linter.unusedVariables false
theorem opens_slice' {α : Type} {P : Program} {d : Kd α} {t e : TypeId} {Q : α → Prop} (ho : Opens P d e Q) (ht : P.underlying t = some (.slice e)) (hc : P.cellsOf t = 1) : Opens P (Kd.slice e d) t (fun xs => xs.length ≤ maxLen ∧ ∀ v ∈ xs, Q v) :=
 ⟨hc, fun h => by
  obtain ⟨A, c, xs, rfl, hl, hm, hC, hq⟩ := slice_at ho ht h
  exact ⟨xs, ⟨A, c, rfl, hl, hC⟩, Nat.le_trans hl hm, hq⟩⟩
def RowOk (r : S31) : Prop := r.f0.size ≤ maxLen ∧ (r.f1.length ≤ maxLen ∧ ∀ n ∈ r.f1, 0 ≤ n ∧ n ≤ 18446744073709551615) ∧ (r.f2.length ≤ maxLen ∧ ∀ s ∈ r.f2, s.size ≤ maxLen)
theorem Opens.imp {α : Type} {P : Program} {d : Kd α} {t : TypeId} {Q R : α → Prop} (h : Opens P d t Q) (hi : ∀ v, Q v → R v) : Opens P d t R :=
 ⟨h.1, fun hx => by
  obtain ⟨v, hv, hq⟩ := h.2 hx
  exact ⟨v, hv, hi v hq⟩⟩
theorem openU : Opens Tryz.prog (Kd.int .u64) 35 (fun n => 0 ≤ n ∧ n ≤ 18446744073709551615) := (opens_int Tryz.underlying35 (by kernel_rfl)).imp fun n h => by
 simpa [Lit.wf, IntKind.min, IntKind.max, IntKind.signed, IntKind.bits] using h
theorem openS : Opens Tryz.prog Kd.string 9 (fun s => s.size ≤ maxLen) := opens_string Tryz.underlying9 (by kernel_rfl)
set_option maxRecDepth 100000 in
theorem open31 : Opens Tryz.prog k31 31 RowOk :=
 opens_struct (fun x : S31 => (x.f0, x.f1, x.f2)) (fun v => ⟨v.1, v.2.1, v.2.2⟩) (fun _ => rfl) Tryz.underlying31 (by kernel_rfl)
  (fields_cons rfl openS (fields_cons rfl (opens_slice' openU Tryz.underlying28 (by kernel_rfl)) (fields_one rfl (opens_slice' openS Tryz.underlying29 (by kernel_rfl)))))
end Go.Proofs.YtednjmngalmdkaaGreatDoor.OP
end
section
/- The tables as laid (TabW), out of what the card says of the listed variables. No condition. -/
namespace Go.Proofs.YtednjmngalmdkaaGreatDoor.GPC
open Go Go.Lib Go.ChangeShapes Go.WideShapes Go.Proofs.YtednjmngalmdkaaGreatDoor 
set_option linter.unusedVariables false
theorem trod_flt {H : Type} {enc : TypeId × Value → H} {P : Program} {w : World} {base : Nat} {spare : Nat → Bool} {held : Bool} {fuel : Nat} {t : TypeId} {cs : List Value} {x : DataW H × List MemPlace} {k : FloatKind} (ht : P.underlying t = some (.float k)) (h : DataW.trod enc P w base spare held fuel t cs = some x) : ∃ n, cs = [.float k n] ∧ x = (.lit (.float k n), []) := by
 cases fuel with
 | zero => simp [DataW.trod] at h
 | succ n =>
  unfold DataW.trod at h
  rw [ht] at h
  split at h <;> simp_all
theorem mem_laid {laid : List (String × DataW Unit)} {n : String} {d : DataW Unit} {w : World} (h : laidMet Tryz.prog laid w) (hm : (n, d) ∈ laid) : VarReads Tryz.prog w n d := Lib.laidMet.reads h hm
theorem space_data : (Rows.laid_strings_asciiSpace : DataW Unit) = tabData .u8 asciiSpaceTab := by kernel_rfl
theorem reads_cells {n : String} {d : DataW Unit} {w : World} {g : Nat} {t : TypeId} (hg : Tryz.prog.globalNamed n = some g) (hy : (Tryz.prog.globals[g]?).map (·.type) = some t) (h : VarReads Tryz.prog w n d) :
  ∃ cs fuel p, w.var? Tryz.prog n = some cs ∧ DataW.trod (fun _ => ()) Tryz.prog w 0 (fun _ => true) false fuel t cs.toList = some (d, p) := by
 obtain ⟨g', t', cs, fuel, p, hg', hty, hvar, hd⟩ := h
 obtain rfl := Option.some.inj (hg.symm.trans hg')
 obtain rfl := Option.some.inj (hy.symm.trans hty)
 exact ⟨cs, fuel, p, hvar, hd⟩
theorem tab_space {w : World} (h : VarReads Tryz.prog w "strings.asciiSpace" Rows.laid_strings_asciiSpace) : Lib.TabIs Tryz.prog w "strings.asciiSpace" .u8 Lib.asciiSpaceTab := by
 rw [space_data] at h
 obtain ⟨cs, fuel, p, hvar, hd⟩ := reads_cells (t := 242) (show Tryz.prog.globalNamed "strings.asciiSpace" = some 1 by kernel_rfl) (by kernel_rfl) h
 unfold Lib.TabIs
 rw [hvar, ← cells_of_tab (P := Tryz.prog) Tryz.underlying242 Tryz.underlying5 (by kernel_rfl) (by kernel_rfl) hd]
theorem tab_optimize {w : World} (h : VarReads Tryz.prog w "internal/strconv.optimize" Rows.laid_internal_strconv_optimize) : w.var? Tryz.prog "internal/strconv.optimize" = some #[.bool true] := by
 obtain ⟨cs, fuel, p, hvar, hd⟩ := reads_cells (t := 4) (show Tryz.prog.globalNamed "internal/strconv.optimize" = some 6 by kernel_rfl) (by kernel_rfl) h
 obtain ⟨b, hc, he⟩ := DataW.trod_bool Tryz.underlying4 hd
 have hb : b = true := by
  have := congrArg Prod.fst he
  simpa [Rows.laid_internal_strconv_optimize, eq_comm] using this
 subst hb
 rw [hvar]
 congr 1
 exact Array.toList_inj.1 hc
set_option maxRecDepth 100000 in
theorem tab_finfo {w : World} (h : VarReads Tryz.prog w "internal/strconv.float64info" Rows.laid_internal_strconv_float64info) : w.var? Tryz.prog "internal/strconv.float64info" = some #[.int .u64 52, .int .u64 11, .int .i64 (-1023)] := by
 obtain ⟨cs, fuel, p, hvar, hd⟩ := reads_cells (t := 300) (show Tryz.prog.globalNamed "internal/strconv.float64info" = some 7 by kernel_rfl) (by kernel_rfl) h
 obtain ⟨xs, n, rfl, hx, hl, hxl, hf⟩ := DataW.trod_struct Tryz.underlying300 hd
 have hc3 : Tryz.prog.cellsOf 300 = 3 := by kernel_rfl
 have cU : Tryz.prog.cellsOf 227 = 1 := by kernel_rfl
 have cI : Tryz.prog.cellsOf 3 = 1 := by kernel_rfl
 rw [hc3] at hl
 have e1 : xs.map (·.1) = [.lit (.int .u64 52), .lit (.int .u64 11), .lit (.int .i64 (-1023))] := by
  have := congrArg Prod.fst hx
  simpa [Rows.laid_internal_strconv_float64info, eq_comm] using this
 have g0 := hf 0 { name := "mantbits", type := 227, offset := 0, embedded := false, tag := "", pkgPath := "internal/strconv", byteOffset := 0 } rfl
 have g1 := hf 1 { name := "expbits", type := 227, offset := 1, embedded := false, tag := "", pkgPath := "internal/strconv", byteOffset := 8 } rfl
 have g2 := hf 2 { name := "bias", type := 3, offset := 2, embedded := false, tag := "", pkgPath := "internal/strconv", byteOffset := 16 } rfl
 dsimp only at g0 g1 g2
 rw [cU] at g0 g1
 rw [cI] at g2
 match hxs : xs, e1 with
 | [a, b, c], e1 =>
  simp only [List.map_cons, List.map_nil, List.cons.injEq, and_true] at e1
  obtain ⟨ea, eb, ec⟩ := e1
  simp only [List.getElem?_cons_zero, List.getElem?_cons_succ] at g0 g1 g2
  obtain ⟨z0, h0, he0, _⟩ := DataW.trod_int Tryz.underlying227 g0
  obtain ⟨z1, h1, he1, _⟩ := DataW.trod_int Tryz.underlying227 g1
  obtain ⟨z2, h2, he2, _⟩ := DataW.trod_int Tryz.underlying3 g2
  rw [he0] at ea
  rw [he1] at eb
  rw [he2] at ec
  simp only [DataW.lit.injEq, Lit.int.injEq, true_and] at ea eb ec
  subst ea; subst eb; subst ec
  rw [hvar]
  congr 1
  apply Array.toList_inj.1
  match hcs : cs.toList, hl with
  | [u, v, y], _ =>
   rw [hcs] at h0 h1 h2
   simp at h0 h1 h2
   rw [h0, h1, h2]
set_option maxRecDepth 100000 in
theorem tab_pow10 {w : World} (h : VarReads Tryz.prog w "internal/strconv.float64pow10" Rows.laid_internal_strconv_float64pow10) :
  ∃ b o c, w.var? Tryz.prog "internal/strconv.float64pow10" = some #[.slice (some ⟨b, o, none⟩) 23 c] ∧ w.cell? ⟨b, o + 1, none⟩ = some (.float .f64 4621819117588971520) ∧ w.cell? ⟨b, o + 2, none⟩ = some (.float .f64 4636737291354636288) := by
 obtain ⟨cs, fuel, p, hvar, hd⟩ := reads_cells (t := 73) (show Tryz.prog.globalNamed "internal/strconv.float64pow10" = some 10 by kernel_rfl) (by kernel_rfl) h
 rcases Go.Deep.open_slice1 Tryz.underlying73 (by kernel_rfl) hd with ⟨_, hx⟩ | ⟨a, len, cap, m, n, V, D, Pl, hcs, _, hlc, _, hm, hx, hi⟩
 ·cases hx
 ·have e0 := congrArg Prod.fst hx
  simp only [Rows.laid_internal_strconv_float64pow10, DataW.slice.injEq] at e0
  obtain ⟨eE, eR⟩ := e0
  have hlen : len = 23 := by
   have := congrArg List.length eE
   simpa [eq_comm] using this
  subst hlen
  have hm23 : 23 ≤ m := by rw [hm]; split <;> omega
  have d1 : D 1 = .lit (.float .f64 4621819117588971520) := by
   have := congrArg (·[1]?) eE
   simpa [eq_comm] using this
  have d2 : D 2 = .lit (.float .f64 4636737291354636288) := by
   have := congrArg (·[2]?) eE
   simpa [eq_comm] using this
  obtain ⟨c1, t1⟩ := hi 1 (by omega)
  obtain ⟨c2, t2⟩ := hi 2 (by omega)
  obtain ⟨n1, v1, x1⟩ := trod_flt Tryz.underlying36 t1
  obtain ⟨n2, v2, x2⟩ := trod_flt Tryz.underlying36 t2
  simp only [Prod.mk.injEq] at x1 x2
  have q1 := x1.1.symm.trans d1
  have q2 := x2.1.symm.trans d2
  simp only [DataW.lit.injEq, Lit.float.injEq, true_and] at q1 q2
  subst q1; subst q2
  simp only [List.cons.injEq, and_true] at v1 v2
  rw [v1] at c1
  rw [v2] at c2
  obtain ⟨R, o, sR⟩ := a
  obtain rfl : sR = none := by
   obtain ⟨c00, _⟩ := hi 0 (by omega)
   rw [show (Addr.add ⟨R, o, sR⟩ 0) = ⟨R, o, sR⟩ by simp [Addr.add]] at c00
   exact Go.Proofs.cell_spot c00
  ·refine ⟨R, o, cap, ?_, by simpa [Addr.add] using c1, by simpa [Addr.add] using c2⟩
   rw [hvar]
   congr 1
   exact Array.toList_inj.1 hcs
theorem tabW_of {laid : List (String × DataW Unit)} {w : World} (h : laidMet Tryz.prog laid w) (h1 : ("strings.asciiSpace", Rows.laid_strings_asciiSpace) ∈ laid) (h2 : ("internal/strconv.optimize", Rows.laid_internal_strconv_optimize) ∈ laid)
  (h3 : ("internal/strconv.float64info", Rows.laid_internal_strconv_float64info) ∈ laid) (h4 : ("internal/strconv.float64pow10", Rows.laid_internal_strconv_float64pow10) ∈ laid) : TabW w :=
 ⟨tab_space (mem_laid h h1), tab_optimize (mem_laid h h2), tab_finfo (mem_laid h h3), tab_pow10 (mem_laid h h4)⟩
end Go.Proofs.YtednjmngalmdkaaGreatDoor.GPC
end
section
/- Plain facts: the words of a line between blanks; digits of a base and the number that they tell. No condition. -/
namespace Go.Proofs.YtednjmngalmdkaaGreatDoor.PF
open Go
set_option linter.unusedVariables false
theorem fieldsGo_word : ∀ (w cur r : List UInt8), (∀ b ∈ w, Lib.isSp b = false) → Lib.fieldsGo cur (w ++ r) = Lib.fieldsGo (cur ++ w) r
 | [], cur, r, _ => by simp
 | b :: w, cur, r, h => by
  rw [List.cons_append, Lib.fieldsGo_more _ _ _ (h b (by simp)), fieldsGo_word w _ _ (fun c hc => h c (by simp [hc]))]
  simp
theorem fields_blanks : ∀ (bl r : List UInt8), (∀ b ∈ bl, Lib.isSp b = true) → Lib.fields (bl ++ r) = Lib.fields r
 | [], r, _ => rfl
 | b :: bl, r, h => by
  have ih := fields_blanks bl r (fun c hc => h c (by simp [hc]))
  unfold Lib.fields at ih ⊢
  rw [List.cons_append, Lib.fieldsGo_sp _ _ (h b (by simp)), ih]
theorem fields_word (w : List UInt8) (b : UInt8) (r : List UInt8) (h0 : w ≠ []) (hw : ∀ c ∈ w, Lib.isSp c = false) (hb : Lib.isSp b = true) : Lib.fields (w ++ b :: r) = w :: Lib.fields (b :: r) := by
 unfold Lib.fields
 rw [fieldsGo_word w [] _ hw, List.nil_append, Lib.fieldsGo_end _ _ _ hb h0, Lib.fieldsGo_sp _ _ hb]
theorem fields_last (w : List UInt8) (h0 : w ≠ []) (hw : ∀ c ∈ w, Lib.isSp c = false) : Lib.fields w = [w] := by
 have := fieldsGo_word w [] [] hw
 unfold Lib.fields
 rw [List.append_nil] at this
 rw [this, List.nil_append]
 cases w with
 | nil => exact absurd rfl h0
 | cons a l => rfl
def dch (d : Nat) : UInt8 := UInt8.ofNat (if d < 10 then 48 + d else 87 + d)
def digB (b n : Nat) : List UInt8 := if h : n < b ∨ b < 2 then [dch n] else digB b (n / b) ++ [dch (n % b)]
termination_by n
decreasing_by exact Nat.div_lt_self (by omega) (by omega)
theorem digB_ne (b n : Nat) : digB b n ≠ [] := by
 unfold digB
 split <;> simp
theorem digB_length (b n k : Nat) (hb : 2 ≤ b) (h : n < b ^ (k + 1)) : (digB b n).length ≤ k + 1 := by
 induction k generalizing n with
 | zero =>
  unfold digB
  rw [dif_pos (.inl (by simpa using h))]
  simp
 | succ k ih =>
  unfold digB
  split
  ·simp
  ·rw [List.length_append]
   have := ih (n / b) (by rw [Nat.pow_succ] at h; exact Nat.div_lt_of_lt_mul (by rw [Nat.mul_comm]; exact h))
   simp only [List.length_singleton]
   omega
def isDig (c : UInt8) : Bool := (decide (48 ≤ c.toNat) && decide (c.toNat ≤ 57)) || (decide (97 ≤ c.toNat) && decide (c.toNat ≤ 102))
theorem isDig_sp {c : UInt8} (h : isDig c = true) : Lib.isSp c = false := by
 have : ((List.range 256).all fun n => !isDig (UInt8.ofNat n) || !Lib.isSp (UInt8.ofNat n)) = true := by decide +kernel
 have := List.all_eq_true.1 this c.toNat (List.mem_range.2 c.toNat_lt)
 rw [UInt8.ofNat_toNat, h] at this
 simpa using this
end Go.Proofs.YtednjmngalmdkaaGreatDoor.PF
end
section
/- Plain facts: what readFloat gathers of a text of digits with at most one point. No condition. -/
namespace Go.Proofs.YtednjmngalmdkaaGreatDoor.PF
open Go Go.Proofs.YtednjmngalmdkaaGreatDoorW.PrintWords
set_option linter.unusedVariables false
structure RF where
 m : Int
 nd : Int
 dp : Int
 dot : Bool
def RF.step (st : RF) (c : Int) : RF :=
 if c = 46 then ⟨st.m, st.nd, st.nd, true⟩
 else if c = 48 ∧ st.nd = 0 then ⟨st.m, st.nd, st.dp - 1, st.dot⟩
 else ⟨st.m * 10 + (c - 48), st.nd + 1, st.dp, st.dot⟩
def rfL : List UInt8 → RF → RF
 | [], st => st
 | c :: l, st => rfL l (st.step (c.toNat : Int))
def rf0 : RF := ⟨0, 0, 0, false⟩
theorem rfL_append : ∀ (x y : List UInt8) (st : RF), rfL (x ++ y) st = rfL y (rfL x st)
 | [], _, _ => rfl
 | c :: x, y, st => rfL_append x y _
def rfAt (s : ByteArray) (i : Nat) : RF := rfL (s.data.toList.take i) rf0
theorem rfAt_zero (s : ByteArray) : rfAt s 0 = rf0 := rfl
theorem rfAt_succ (s : ByteArray) (i : Nat) (h : i < s.size) : rfAt s (i + 1) = (rfAt s i).step (bt s i) := by
 have hl : i < s.data.toList.length := by rw [Array.length_toList]; exact h
 unfold rfAt
 rw [List.take_add_one, List.getElem?_eq_getElem hl, rfL_append]
 have hb : bt s i = ((s.data.toList[i]'hl).toNat : Int) := by
  unfold bt
  rw [dif_pos (show (i : Int).toNat < s.size by simpa using h)]
  rfl
 rw [hb]
 rfl
def rfGood : List UInt8 → Bool → Bool
 | [], _ => true
 | c :: l, dot => if 48 ≤ c.toNat ∧ c.toNat ≤ 57 then rfGood l dot else if c.toNat = 46 ∧ dot = false then rfGood l true else false
def rfOk (s : ByteArray) : Bool := decide (0 < s.size ∧ s.size ≤ 18) && decide (48 ≤ bt s 0 ∧ bt s 0 ≤ 57) && rfGood s.data.toList false
theorem good_at : ∀ (l : List UInt8) (st : RF) (i : Nat) (hi : i < l.length), rfGood l st.dot = true →
  (48 ≤ ((l[i]'hi).toNat : Int) ∧ ((l[i]'hi).toNat : Int) ≤ 57) ∨ (((l[i]'hi).toNat : Int) = 46 ∧ (rfL (l.take i) st).dot = false)
 | [], _, i, hi, _ => absurd hi (Nat.not_lt_zero _)
 | c :: l, st, i, hi, h => by
  unfold rfGood at h
  cases i with
  | zero =>
   simp only [List.getElem_cons_zero, List.take_zero, rfL]
   split at h
   ·rename_i hc
    exact .inl ⟨by omega, by omega⟩
   ·split at h
    ·rename_i hc
     exact .inr ⟨by omega, hc.2⟩
    ·cases h
  | succ i =>
   simp only [List.getElem_cons_succ, List.take_succ_cons, rfL]
   have hi' : i < l.length := by simpa using hi
   split at h
   ·rename_i hc
    refine good_at l _ i hi' ?_
    have : (st.step (c.toNat : Int)).dot = st.dot := by
     unfold RF.step
     rw [if_neg (by omega)]
     split <;> rfl
    rw [this]
    exact h
   ·split at h
    ·rename_i hc
     refine good_at l _ i hi' ?_
     have : (st.step (c.toNat : Int)).dot = true := by
      unfold RF.step
      rw [if_pos (by omega)]
     rw [this]
     exact h
    ·cases h
theorem ok_at (s : ByteArray) (h : rfOk s = true) (i : Nat) (hi : i < s.size) : (48 ≤ bt s i ∧ bt s i ≤ 57) ∨ (bt s i = 46 ∧ (rfAt s i).dot = false) := by
 unfold rfOk at h
 simp only [Bool.and_eq_true, decide_eq_true_eq] at h
 have hl : i < s.data.toList.length := by rw [Array.length_toList]; exact hi
 have hb : bt s i = ((s.data.toList[i]'hl).toNat : Int) := by
  unfold bt
  rw [dif_pos (show (i : Int).toNat < s.size by simpa using hi)]
  rfl
 rw [hb]
 exact good_at s.data.toList rf0 i hl h.2
theorem rf_bounds (s : ByteArray) (h : rfOk s = true) : ∀ (i : Nat), i ≤ s.size → 0 ≤ (rfAt s i).m ∧ (rfAt s i).m < (10 : Int) ^ i ∧ 0 ≤ (rfAt s i).nd ∧ (rfAt s i).nd ≤ i ∧ - (i : Int) ≤ (rfAt s i).dp ∧ (rfAt s i).dp ≤ i
 | 0, _ => by simp [rfAt_zero, rf0]
 | i + 1, hi => by
  obtain ⟨h1, h2, h3, h4, h5, h6⟩ := rf_bounds s h i (by omega)
  have hc := ok_at s h i (by omega)
  rw [rfAt_succ s i (by omega)]
  generalize rfAt s i = st at *
  have hp : (10 : Int) ^ (i + 1) = 10 ^ i * 10 := Int.pow_succ 10 i
  have hp0 : (0 : Int) < 10 ^ i := by omega
  rw [hp]
  unfold RF.step
  split
  ·refine ⟨by simpa using h1, ?_, ?_, ?_, ?_, ?_⟩ <;> simp only [] <;> omega
  ·split
   ·refine ⟨by simpa using h1, ?_, ?_, ?_, ?_, ?_⟩ <;> simp only [] <;> omega
   ·rename_i hn _
    have hd : 48 ≤ bt s i ∧ bt s i ≤ 57 := by
     rcases hc with hc | hc
     ·exact hc
     ·exact absurd hc.1 hn
    refine ⟨?_, ?_, ?_, ?_, ?_, ?_⟩ <;> simp only [] <;> omega
def RF.exp (st : RF) : Int := if st.m = 0 then 0 else (if st.dot then st.dp else st.nd) - st.nd
end Go.Proofs.YtednjmngalmdkaaGreatDoor.PF
end
section
/- internal/strconv.special and readFloat at a text of at most 18 digits with at most one point. Condition: rfOk. -/
namespace Go.Proofs.YtednjmngalmdkaaGreatDoor.GPC
open Go.RowKit Go.Proofs.YtednjmngalmdkaaGreatDoorW.PrintWords Go.Proofs.YtednjmngalmdkaaGreatDoorW.PrintLast Go.Proofs.YtednjmngalmdkaaGreatDoor.PF
set_option linter.unusedVariables false
theorem ok_first {s : ByteArray} (h : rfOk s = true) : 0 < s.size ∧ s.size ≤ 18 ∧ 48 ≤ bt s 0 ∧ bt s 0 ≤ 57 := by
 unfold rfOk at h
 simp only [Bool.and_eq_true, decide_eq_true_eq] at h
 exact ⟨h.1.1.1, h.1.1.2, h.1.2.1, h.1.2.2⟩
theorem strOf_ne {s : ByteArray} (h : 0 < s.size) : s ≠ ByteArray.empty := by rintro rfl; exact absurd h (by decide)
set_option maxHeartbeats 4000000 in
set_option maxRecDepth 100000 in
theorem rf_special (s : ByteArray) (w : World) (h : rfOk s = true) : Calls Tryz.prog 230 #[.string s] w fun e w' => e = .returned (.tuple #[.float .f64 0, .int .i64 0, .bool false]) ∧ w' = w := by
 obtain ⟨h0, h18, hb0, hb1⟩ := ok_first h
 have hx := bt_at s 0
 simp only [Int.toNat_zero] at hx
 have hx0 := hx h0
 have e43 : (bt s 0 == 43) = false := beq_eq_false_iff_ne.mpr (by omega)
 have e45 : (bt s 0 == 45) = false := beq_eq_false_iff_ne.mpr (by omega)
 have e73 : (bt s 0 == 73) = false := beq_eq_false_iff_ne.mpr (by omega)
 have e105 : (bt s 0 == 105) = false := beq_eq_false_iff_ne.mpr (by omega)
 have e78 : (bt s 0 == 78) = false := beq_eq_false_iff_ne.mpr (by omega)
 have e110 : (bt s 0 == 110) = false := beq_eq_false_iff_ne.mpr (by omega)
 have d0 : ((s.size : Int) == 0) = false := beq_eq_false_iff_ne.mpr (by omega)
 have d2 : decide (s = ByteArray.empty) = false := decide_eq_false (strOf_ne h0)
 have hb0' := Aside0.mk hb0
 have hb1' := Aside0.mk hb1
 clear hb0 hb1
 go_enter Tryz.func230, Tryz.ntmps230
 go_wp2
 go_ret3
 exact ⟨rfl, rfl⟩
theorem u64_wrap {n : Int} (h0 : 0 ≤ n) (h1 : n < 18446744073709551616) : IntKind.u64.wrap n = n := by
 simp only [IntKind.wrap, IntKind.bits, IntKind.signed, Bool.false_and]
 exact Int.emod_eq_of_lt h0 h1
theorem u8_wrap {n : Int} (h0 : 0 ≤ n) (h1 : n < 256) : IntKind.u8.wrap n = n := by
 simp only [IntKind.wrap, IntKind.bits, IntKind.signed, Bool.false_and]
 exact Int.emod_eq_of_lt h0 h1
theorem ten_le (i : Nat) (h : i ≤ 17) : (10 : Int) ^ i ≤ 100000000000000000 := by
 have := Nat.pow_le_pow_right (n := 10) (by omega) h
 have e : ((10 ^ i : Nat) : Int) = (10 : Int) ^ i := by simp
 omega
theorem lower_no : ∀ c : Nat, c < 58 → 46 ≤ c → (bits BinOp.or IntKind.u8 (c : Int) 32 == 120) = false := by decide
theorem results_tmp7 {fn : Func} {t0 t1 t2 t3 t4 t5 t6 : Tmp} (h : fn.results = #[.tmp t0, .tmp t1, .tmp t2, .tmp t3, .tmp t4, .tmp t5, .tmp t6]) (tmps : Array Value) (P : Program) (w : World) :
  (results fn tmps).run P w = .ok (.tuple #[tmps.getD t0 undef, tmps.getD t1 undef, tmps.getD t2 undef, tmps.getD t3 undef, tmps.getD t4 undef, tmps.getD t5 undef, tmps.getD t6 undef]) w := by
 simp [results, h]
set_option maxHeartbeats 16000000 in
set_option maxRecDepth 100000 in
theorem rf_read (s : ByteArray) (w : World) (h : rfOk s = true) : Calls Tryz.prog 231 #[.string s] w fun e w' =>
  e = .returned (.tuple #[.int .u64 (rfAt s s.size).m, .int .i64 (rfAt s s.size).exp, .bool false, .bool false, .bool false, .int .i64 s.size, .bool true]) ∧ w' = w := by
 obtain ⟨h0, h18, hb0, hb1⟩ := ok_first h
 have hx := bt_at s 0
 simp only [Int.toNat_zero] at hx
 have hx0 := hx h0
 have e43 : (bt s 0 == 43) = false := beq_eq_false_iff_ne.mpr (by omega)
 have e45 : (bt s 0 == 45) = false := beq_eq_false_iff_ne.mpr (by omega)
 have d0 : decide ((0:Int) ≥ (s.size : Int)) = false := decide_eq_false (by omega)
 have HB0 := Aside0.mk hb0
 have HB1 := Aside0.mk hb1
 have H18 := Aside0.mk h18
 have HOK := Aside0.mk h
 clear hb0 hb1
 have HX : 2 < s.size → (bits BinOp.or IntKind.u8 (bt s 1) 32 == 120) = false := by
  intro h2
  have hc := ok_at s h 1 (by omega)
  have hr := bt_range s 1
  have := lower_no (bt s 1).toNat (by simp only [Int.natCast_one] at hc; omega) (by simp only [Int.natCast_one] at hc; omega)
  rwa [Int.toNat_of_nonneg hr.1] at this
 go_enter Tryz.func231, Tryz.ntmps231
 go_wp2
 go_step3
 have d2 : decide (s = ByteArray.empty) = false := decide_eq_false (strOf_ne h0)
 have hx1 : ∀ h : 1 < s.size, ((s[1]'h).toNat : Int) = bt s 1 := by simpa using bt_at s 1
 by_cases c0 : (2:Int) < (s.size : Int)
 ·have d1 : decide ((2:Int) < (s.size : Int)) = true := decide_eq_true c0
  have e3 := HX (by omega)
  have q1 : ((1:Int) < (s.size : Int)) = True := eq_true (by omega)
  have H0 := Aside0.mk h0
  clear HX h
  cases c1 : (bt s 0 == 48) <;> (go_wp2; go_step3; go_wp2)
  all_goals clear hx hx0 e43 e45 d0 d2 hx1 c0 d1 e3 q1 c1 h18 h0
  ·go_loopg [2, 5, 7, 9, 13, 14, 15, 16, 17] s.size (fun kq v2 v5 v7 v9 v13 v14 v15 v16 v17 w' => ∃ (m nd dp x : Int) (dot dig : Bool), v2 = .int .u64 m ∧ v5 = .bool false ∧ v7 = .int .i64 x ∧ v9 = .bool false ∧ v13 = .bool dot ∧ v14 = .bool dig ∧ v15 = .int .i64 nd ∧ v16 = .int .i64 nd ∧ v17 = .int .i64 dp ∧
    Aside0 (0 ≤ x ∧ x + kq = s.size) ∧ Aside0 (rfAt s x.toNat = ⟨m, nd, dp, dot⟩) ∧ Aside0 (0 < x → dig = true) ∧ w' = w)
   case atStart => exact ⟨0, 0, 0, 0, false, false, rfl, rfl, rfl, rfl, rfl, rfl, rfl, rfl, rfl, ⟨by omega, by omega⟩, ⟨rfl⟩, ⟨fun h => absurd h (by omega)⟩, rfl⟩
   case round =>
    obtain ⟨m, nd, dp, x, dot, dig, rfl, rfl, rfl, rfl, rfl, rfl, rfl, rfl, rfl, HXK, HST, HDG, rfl⟩ := hrel
    have HBD : Aside0 (0 ≤ m ∧ m < (10 : Int) ^ x.toNat ∧ 0 ≤ nd ∧ nd ≤ (x.toNat : Int) ∧ - (x.toNat : Int) ≤ dp ∧ dp ≤ (x.toNat : Int)) := ⟨by have h := rf_bounds s HOK.out x.toNat (by have := HXK.out; omega); rw [HST.out] at h; exact h⟩
    by_cases hx : x < (s.size : Int)
    ·have c0 : decide (x < (s.size : Int)) = true := decide_eq_true hx
     have p5 : (0 ≤ x) = True := eq_true HXK.out.1
     have q5 : (x < (s.size : Int)) = True := eq_true hx
     have hx5 := bt_at s x
     have HC := Aside0.mk (ok_at s HOK.out x.toNat (by have := HXK.out; omega))
     rw [HST.out, Int.toNat_of_nonneg HXK.out.1] at HC
     have HSU := Aside0.mk (rfAt_succ s x.toNat (by have := HXK.out; omega))
     rw [HST.out, Int.toNat_of_nonneg HXK.out.1] at HSU
     have HX2 := Aside0.mk hx
     clear hx
     have hw : IntKind.i64.wrap (x + 1) = x + 1 := by have := HX2.out; have := HXK.out.1; have := H18.out; rw [i64_w]; unfold wrap64; omega
     have b95 : (bt s x == 95) = false := beq_eq_false_iff_ne.mpr (by have := HC.out; omega)
     by_cases h46 : bt s x = 46
     ·have b46 : (bt s x == 46) = true := beq_iff_eq.mpr h46
      have hdot : dot = false := by
       rcases HC.out with hc | hc
       ·omega
       ·exact hc.2
      subst hdot
      have H46 := Aside0.mk h46
      clear h46
      go_wp2
      go_roundg (gk - 1)
      case measure => have := HXK.out; have := HX2.out; omega
      case rel =>
       refine ⟨m, nd, nd, x + 1, true, dig, rfl, rfl, rfl, rfl, rfl, rfl, rfl, rfl, rfl, ⟨by have := HXK.out; omega, by have := HXK.out; have := HX2.out; omega⟩, ⟨?_⟩, ⟨fun _ => HDG.out ?_⟩, rfl⟩
       ·rw [show (x + 1).toNat = x.toNat + 1 by have := HXK.out; omega, HSU.out]
        simp [RF.step, H46.out]
       ·have h1 := HXK.out.1
        rcases Int.lt_or_eq_of_le h1 with h2 | h2
        ·exact h2
        ·have := HB0.out
         rw [h2] at this
         have := H46.out
         omega
     ·have b46 : (bt s x == 46) = false := beq_eq_false_iff_ne.mpr h46
      have hd : 48 ≤ bt s x ∧ bt s x ≤ 57 := by
       rcases HC.out with hc | hc
       ·exact hc
       ·exact absurd hc.1 h46
      have d48 : decide (48 ≤ bt s x) = true := decide_eq_true hd.1
      have d57 : decide (bt s x ≤ 57) = true := decide_eq_true hd.2
      have d19 : decide (nd < 19) = true := decide_eq_true (by have := HBD.out; have := H18.out; have := HX2.out; omega)
      have wdp : IntKind.i64.wrap (dp - 1) = dp - 1 := by have := HBD.out; have := H18.out; have := HX2.out; rw [i64_w]; unfold wrap64; omega
      have wnd : IntKind.i64.wrap (nd + 1) = nd + 1 := by have := HBD.out; have := H18.out; have := HX2.out; rw [i64_w]; unfold wrap64; omega
      have hp := ten_le x.toNat (by have h1 := HX2.out; have h2 := H18.out; omega)
      have hm := HBD.out
      have wm1 : IntKind.u64.wrap (m * 10) = m * 10 := u64_wrap (by omega) (by omega)
      have w8 : IntKind.u8.wrap (bt s x - 48) = bt s x - 48 := u8_wrap (by omega) (by omega)
      have w64c : IntKind.u64.wrap (bt s x - 48) = bt s x - 48 := u64_wrap (by omega) (by omega)
      have wm2 : IntKind.u64.wrap (m * 10 + (bt s x - 48)) = m * 10 + (bt s x - 48) := u64_wrap (by omega) (by omega)
      have HD := Aside0.mk hd
      have H46 := Aside0.mk h46
      clear hd h46 hp hm
      cases h48 : (bt s x == 48)
      ·go_wp2
       go_roundg (gk - 1)
       case measure => have := HXK.out; have := HX2.out; omega
       case rel =>
        refine ⟨m * 10 + (bt s x - 48), nd + 1, dp, x + 1, dot, true, rfl, rfl, rfl, rfl, rfl, rfl, rfl, rfl, rfl, ⟨by have := HXK.out; omega, by have := HXK.out; have := HX2.out; omega⟩, ⟨?_⟩, ⟨fun _ => rfl⟩, rfl⟩
        rw [show (x + 1).toNat = x.toNat + 1 by have := HXK.out; omega, HSU.out]
        have : ¬ bt s x = 48 := by simpa using h48
        simp [RF.step, H46.out, this]
      ·cases hn : (nd == 0)
       ·go_wp2
        go_roundg (gk - 1)
        case measure => have := HXK.out; have := HX2.out; omega
        case rel =>
         refine ⟨m * 10 + (bt s x - 48), nd + 1, dp, x + 1, dot, true, rfl, rfl, rfl, rfl, rfl, rfl, rfl, rfl, rfl, ⟨by have := HXK.out; omega, by have := HXK.out; have := HX2.out; omega⟩, ⟨?_⟩, ⟨fun _ => rfl⟩, rfl⟩
         rw [show (x + 1).toNat = x.toNat + 1 by have := HXK.out; omega, HSU.out]
         have : ¬ nd = 0 := by simpa using hn
         simp [RF.step, H46.out, this]
       ·go_wp2
        go_roundg (gk - 1)
        case measure => have := HXK.out; have := HX2.out; omega
        case rel =>
         refine ⟨m, nd, dp - 1, x + 1, dot, true, rfl, rfl, rfl, rfl, rfl, rfl, rfl, rfl, rfl, ⟨by have := HXK.out; omega, by have := HXK.out; have := HX2.out; omega⟩, ⟨?_⟩, ⟨fun _ => rfl⟩, rfl⟩
         rw [show (x + 1).toNat = x.toNat + 1 by have := HXK.out; omega, HSU.out]
         have h1 : bt s x = 48 := by simpa using h48
         have h2 : nd = 0 := by simpa using hn
         simp [RF.step, h1, h2]
    ·have c0 : decide (x < (s.size : Int)) = false := decide_eq_false hx
     have hxe : x = (s.size : Int) := by have := HXK.out; omega
     have hdig : dig = true := HDG.out (by have := H0.out; omega)
     subst hdig
     have HXE := Aside0.mk hxe
     have HFIN : Aside0 (rfAt s s.size = ⟨m, nd, dp, dot⟩) := ⟨by have := HST.out; rw [hxe] at this; simpa using this⟩
     have wex : IntKind.i64.wrap (dp - nd) = dp - nd := by have h1 := HBD.out; have := H18.out; rw [i64_w]; unfold wrap64; omega
     have wnn : IntKind.i64.wrap (nd - nd) = nd - nd := by rw [i64_w]; unfold wrap64; omega
     clear hx hxe
     cases dot <;> cases hm : (m == 0)
     all_goals (go_wp2)
     all_goals (try simp only [Exit.inBlock, Exit.then, Exit.noGoto_ret])
     all_goals (refine bodyPost_ret (results_tmp7 rfl _ _ _) rfl ?_)
     all_goals (first | (have hm' : m = 0 := by simpa using hm) | (have hm' : ¬ m = 0 := by simpa using hm))
     all_goals simp [RF.exp, hm', HXE.out, HFIN.out]
  ·go_loopg [2, 5, 7, 9, 13, 14, 15, 16, 17] s.size (fun kq v2 v5 v7 v9 v13 v14 v15 v16 v17 w' => ∃ (m nd dp x : Int) (dot dig : Bool), v2 = .int .u64 m ∧ v5 = .bool false ∧ v7 = .int .i64 x ∧ v9 = .bool false ∧ v13 = .bool dot ∧ v14 = .bool dig ∧ v15 = .int .i64 nd ∧ v16 = .int .i64 nd ∧ v17 = .int .i64 dp ∧
    Aside0 (0 ≤ x ∧ x + kq = s.size) ∧ Aside0 (rfAt s x.toNat = ⟨m, nd, dp, dot⟩) ∧ Aside0 (0 < x → dig = true) ∧ w' = w)
   case atStart => exact ⟨0, 0, 0, 0, false, false, rfl, rfl, rfl, rfl, rfl, rfl, rfl, rfl, rfl, ⟨by omega, by omega⟩, ⟨rfl⟩, ⟨fun h => absurd h (by omega)⟩, rfl⟩
   case round =>
    obtain ⟨m, nd, dp, x, dot, dig, rfl, rfl, rfl, rfl, rfl, rfl, rfl, rfl, rfl, HXK, HST, HDG, rfl⟩ := hrel
    have HBD : Aside0 (0 ≤ m ∧ m < (10 : Int) ^ x.toNat ∧ 0 ≤ nd ∧ nd ≤ (x.toNat : Int) ∧ - (x.toNat : Int) ≤ dp ∧ dp ≤ (x.toNat : Int)) := ⟨by have h := rf_bounds s HOK.out x.toNat (by have := HXK.out; omega); rw [HST.out] at h; exact h⟩
    by_cases hx : x < (s.size : Int)
    ·have c0 : decide (x < (s.size : Int)) = true := decide_eq_true hx
     have p5 : (0 ≤ x) = True := eq_true HXK.out.1
     have q5 : (x < (s.size : Int)) = True := eq_true hx
     have hx5 := bt_at s x
     have HC := Aside0.mk (ok_at s HOK.out x.toNat (by have := HXK.out; omega))
     rw [HST.out, Int.toNat_of_nonneg HXK.out.1] at HC
     have HSU := Aside0.mk (rfAt_succ s x.toNat (by have := HXK.out; omega))
     rw [HST.out, Int.toNat_of_nonneg HXK.out.1] at HSU
     have HX2 := Aside0.mk hx
     clear hx
     have hw : IntKind.i64.wrap (x + 1) = x + 1 := by have := HX2.out; have := HXK.out.1; have := H18.out; rw [i64_w]; unfold wrap64; omega
     have b95 : (bt s x == 95) = false := beq_eq_false_iff_ne.mpr (by have := HC.out; omega)
     by_cases h46 : bt s x = 46
     ·have b46 : (bt s x == 46) = true := beq_iff_eq.mpr h46
      have hdot : dot = false := by
       rcases HC.out with hc | hc
       ·omega
       ·exact hc.2
      subst hdot
      have H46 := Aside0.mk h46
      clear h46
      go_wp2
      go_roundg (gk - 1)
      case measure => have := HXK.out; have := HX2.out; omega
      case rel =>
       refine ⟨m, nd, nd, x + 1, true, dig, rfl, rfl, rfl, rfl, rfl, rfl, rfl, rfl, rfl, ⟨by have := HXK.out; omega, by have := HXK.out; have := HX2.out; omega⟩, ⟨?_⟩, ⟨fun _ => HDG.out ?_⟩, rfl⟩
       ·rw [show (x + 1).toNat = x.toNat + 1 by have := HXK.out; omega, HSU.out]
        simp [RF.step, H46.out]
       ·have h1 := HXK.out.1
        rcases Int.lt_or_eq_of_le h1 with h2 | h2
        ·exact h2
        ·have := HB0.out
         rw [h2] at this
         have := H46.out
         omega
     ·have b46 : (bt s x == 46) = false := beq_eq_false_iff_ne.mpr h46
      have hd : 48 ≤ bt s x ∧ bt s x ≤ 57 := by
       rcases HC.out with hc | hc
       ·exact hc
       ·exact absurd hc.1 h46
      have d48 : decide (48 ≤ bt s x) = true := decide_eq_true hd.1
      have d57 : decide (bt s x ≤ 57) = true := decide_eq_true hd.2
      have d19 : decide (nd < 19) = true := decide_eq_true (by have := HBD.out; have := H18.out; have := HX2.out; omega)
      have wdp : IntKind.i64.wrap (dp - 1) = dp - 1 := by have := HBD.out; have := H18.out; have := HX2.out; rw [i64_w]; unfold wrap64; omega
      have wnd : IntKind.i64.wrap (nd + 1) = nd + 1 := by have := HBD.out; have := H18.out; have := HX2.out; rw [i64_w]; unfold wrap64; omega
      have hp := ten_le x.toNat (by have h1 := HX2.out; have h2 := H18.out; omega)
      have hm := HBD.out
      have wm1 : IntKind.u64.wrap (m * 10) = m * 10 := u64_wrap (by omega) (by omega)
      have w8 : IntKind.u8.wrap (bt s x - 48) = bt s x - 48 := u8_wrap (by omega) (by omega)
      have w64c : IntKind.u64.wrap (bt s x - 48) = bt s x - 48 := u64_wrap (by omega) (by omega)
      have wm2 : IntKind.u64.wrap (m * 10 + (bt s x - 48)) = m * 10 + (bt s x - 48) := u64_wrap (by omega) (by omega)
      have HD := Aside0.mk hd
      have H46 := Aside0.mk h46
      clear hd h46 hp hm
      cases h48 : (bt s x == 48)
      ·go_wp2
       go_roundg (gk - 1)
       case measure => have := HXK.out; have := HX2.out; omega
       case rel =>
        refine ⟨m * 10 + (bt s x - 48), nd + 1, dp, x + 1, dot, true, rfl, rfl, rfl, rfl, rfl, rfl, rfl, rfl, rfl, ⟨by have := HXK.out; omega, by have := HXK.out; have := HX2.out; omega⟩, ⟨?_⟩, ⟨fun _ => rfl⟩, rfl⟩
        rw [show (x + 1).toNat = x.toNat + 1 by have := HXK.out; omega, HSU.out]
        have : ¬ bt s x = 48 := by simpa using h48
        simp [RF.step, H46.out, this]
      ·cases hn : (nd == 0)
       ·go_wp2
        go_roundg (gk - 1)
        case measure => have := HXK.out; have := HX2.out; omega
        case rel =>
         refine ⟨m * 10 + (bt s x - 48), nd + 1, dp, x + 1, dot, true, rfl, rfl, rfl, rfl, rfl, rfl, rfl, rfl, rfl, ⟨by have := HXK.out; omega, by have := HXK.out; have := HX2.out; omega⟩, ⟨?_⟩, ⟨fun _ => rfl⟩, rfl⟩
         rw [show (x + 1).toNat = x.toNat + 1 by have := HXK.out; omega, HSU.out]
         have : ¬ nd = 0 := by simpa using hn
         simp [RF.step, H46.out, this]
       ·go_wp2
        go_roundg (gk - 1)
        case measure => have := HXK.out; have := HX2.out; omega
        case rel =>
         refine ⟨m, nd, dp - 1, x + 1, dot, true, rfl, rfl, rfl, rfl, rfl, rfl, rfl, rfl, rfl, ⟨by have := HXK.out; omega, by have := HXK.out; have := HX2.out; omega⟩, ⟨?_⟩, ⟨fun _ => rfl⟩, rfl⟩
         rw [show (x + 1).toNat = x.toNat + 1 by have := HXK.out; omega, HSU.out]
         have h1 : bt s x = 48 := by simpa using h48
         have h2 : nd = 0 := by simpa using hn
         simp [RF.step, h1, h2]
    ·have c0 : decide (x < (s.size : Int)) = false := decide_eq_false hx
     have hxe : x = (s.size : Int) := by have := HXK.out; omega
     have hdig : dig = true := HDG.out (by have := H0.out; omega)
     subst hdig
     have HXE := Aside0.mk hxe
     have HFIN : Aside0 (rfAt s s.size = ⟨m, nd, dp, dot⟩) := ⟨by have := HST.out; rw [hxe] at this; simpa using this⟩
     have wex : IntKind.i64.wrap (dp - nd) = dp - nd := by have h1 := HBD.out; have := H18.out; rw [i64_w]; unfold wrap64; omega
     have wnn : IntKind.i64.wrap (nd - nd) = nd - nd := by rw [i64_w]; unfold wrap64; omega
     clear hx hxe
     cases dot <;> cases hm : (m == 0)
     all_goals (go_wp2)
     all_goals (try simp only [Exit.inBlock, Exit.then, Exit.noGoto_ret])
     all_goals (refine bodyPost_ret (results_tmp7 rfl _ _ _) rfl ?_)
     all_goals (first | (have hm' : m = 0 := by simpa using hm) | (have hm' : ¬ m = 0 := by simpa using hm))
     all_goals simp [RF.exp, hm', HXE.out, HFIN.out]
 ·have d1 : decide ((2:Int) < (s.size : Int)) = false := decide_eq_false c0
  have H0 := Aside0.mk h0
  clear HX h
  (go_wp2; go_step3; go_wp2)
  clear hx hx0 e43 e45 d0 d2 hx1 c0 d1 h18 h0
  ·go_loopg [2, 5, 7, 9, 13, 14, 15, 16, 17] s.size (fun kq v2 v5 v7 v9 v13 v14 v15 v16 v17 w' => ∃ (m nd dp x : Int) (dot dig : Bool), v2 = .int .u64 m ∧ v5 = .bool false ∧ v7 = .int .i64 x ∧ v9 = .bool false ∧ v13 = .bool dot ∧ v14 = .bool dig ∧ v15 = .int .i64 nd ∧ v16 = .int .i64 nd ∧ v17 = .int .i64 dp ∧
    Aside0 (0 ≤ x ∧ x + kq = s.size) ∧ Aside0 (rfAt s x.toNat = ⟨m, nd, dp, dot⟩) ∧ Aside0 (0 < x → dig = true) ∧ w' = w)
   case atStart => exact ⟨0, 0, 0, 0, false, false, rfl, rfl, rfl, rfl, rfl, rfl, rfl, rfl, rfl, ⟨by omega, by omega⟩, ⟨rfl⟩, ⟨fun h => absurd h (by omega)⟩, rfl⟩
   case round =>
    obtain ⟨m, nd, dp, x, dot, dig, rfl, rfl, rfl, rfl, rfl, rfl, rfl, rfl, rfl, HXK, HST, HDG, rfl⟩ := hrel
    have HBD : Aside0 (0 ≤ m ∧ m < (10 : Int) ^ x.toNat ∧ 0 ≤ nd ∧ nd ≤ (x.toNat : Int) ∧ - (x.toNat : Int) ≤ dp ∧ dp ≤ (x.toNat : Int)) := ⟨by have h := rf_bounds s HOK.out x.toNat (by have := HXK.out; omega); rw [HST.out] at h; exact h⟩
    by_cases hx : x < (s.size : Int)
    ·have c0 : decide (x < (s.size : Int)) = true := decide_eq_true hx
     have p5 : (0 ≤ x) = True := eq_true HXK.out.1
     have q5 : (x < (s.size : Int)) = True := eq_true hx
     have hx5 := bt_at s x
     have HC := Aside0.mk (ok_at s HOK.out x.toNat (by have := HXK.out; omega))
     rw [HST.out, Int.toNat_of_nonneg HXK.out.1] at HC
     have HSU := Aside0.mk (rfAt_succ s x.toNat (by have := HXK.out; omega))
     rw [HST.out, Int.toNat_of_nonneg HXK.out.1] at HSU
     have HX2 := Aside0.mk hx
     clear hx
     have hw : IntKind.i64.wrap (x + 1) = x + 1 := by have := HX2.out; have := HXK.out.1; have := H18.out; rw [i64_w]; unfold wrap64; omega
     have b95 : (bt s x == 95) = false := beq_eq_false_iff_ne.mpr (by have := HC.out; omega)
     by_cases h46 : bt s x = 46
     ·have b46 : (bt s x == 46) = true := beq_iff_eq.mpr h46
      have hdot : dot = false := by
       rcases HC.out with hc | hc
       ·omega
       ·exact hc.2
      subst hdot
      have H46 := Aside0.mk h46
      clear h46
      go_wp2
      go_roundg (gk - 1)
      case measure => have := HXK.out; have := HX2.out; omega
      case rel =>
       refine ⟨m, nd, nd, x + 1, true, dig, rfl, rfl, rfl, rfl, rfl, rfl, rfl, rfl, rfl, ⟨by have := HXK.out; omega, by have := HXK.out; have := HX2.out; omega⟩, ⟨?_⟩, ⟨fun _ => HDG.out ?_⟩, rfl⟩
       ·rw [show (x + 1).toNat = x.toNat + 1 by have := HXK.out; omega, HSU.out]
        simp [RF.step, H46.out]
       ·have h1 := HXK.out.1
        rcases Int.lt_or_eq_of_le h1 with h2 | h2
        ·exact h2
        ·have := HB0.out
         rw [h2] at this
         have := H46.out
         omega
     ·have b46 : (bt s x == 46) = false := beq_eq_false_iff_ne.mpr h46
      have hd : 48 ≤ bt s x ∧ bt s x ≤ 57 := by
       rcases HC.out with hc | hc
       ·exact hc
       ·exact absurd hc.1 h46
      have d48 : decide (48 ≤ bt s x) = true := decide_eq_true hd.1
      have d57 : decide (bt s x ≤ 57) = true := decide_eq_true hd.2
      have d19 : decide (nd < 19) = true := decide_eq_true (by have := HBD.out; have := H18.out; have := HX2.out; omega)
      have wdp : IntKind.i64.wrap (dp - 1) = dp - 1 := by have := HBD.out; have := H18.out; have := HX2.out; rw [i64_w]; unfold wrap64; omega
      have wnd : IntKind.i64.wrap (nd + 1) = nd + 1 := by have := HBD.out; have := H18.out; have := HX2.out; rw [i64_w]; unfold wrap64; omega
      have hp := ten_le x.toNat (by have h1 := HX2.out; have h2 := H18.out; omega)
      have hm := HBD.out
      have wm1 : IntKind.u64.wrap (m * 10) = m * 10 := u64_wrap (by omega) (by omega)
      have w8 : IntKind.u8.wrap (bt s x - 48) = bt s x - 48 := u8_wrap (by omega) (by omega)
      have w64c : IntKind.u64.wrap (bt s x - 48) = bt s x - 48 := u64_wrap (by omega) (by omega)
      have wm2 : IntKind.u64.wrap (m * 10 + (bt s x - 48)) = m * 10 + (bt s x - 48) := u64_wrap (by omega) (by omega)
      have HD := Aside0.mk hd
      have H46 := Aside0.mk h46
      clear hd h46 hp hm
      cases h48 : (bt s x == 48)
      ·go_wp2
       go_roundg (gk - 1)
       case measure => have := HXK.out; have := HX2.out; omega
       case rel =>
        refine ⟨m * 10 + (bt s x - 48), nd + 1, dp, x + 1, dot, true, rfl, rfl, rfl, rfl, rfl, rfl, rfl, rfl, rfl, ⟨by have := HXK.out; omega, by have := HXK.out; have := HX2.out; omega⟩, ⟨?_⟩, ⟨fun _ => rfl⟩, rfl⟩
        rw [show (x + 1).toNat = x.toNat + 1 by have := HXK.out; omega, HSU.out]
        have : ¬ bt s x = 48 := by simpa using h48
        simp [RF.step, H46.out, this]
      ·cases hn : (nd == 0)
       ·go_wp2
        go_roundg (gk - 1)
        case measure => have := HXK.out; have := HX2.out; omega
        case rel =>
         refine ⟨m * 10 + (bt s x - 48), nd + 1, dp, x + 1, dot, true, rfl, rfl, rfl, rfl, rfl, rfl, rfl, rfl, rfl, ⟨by have := HXK.out; omega, by have := HXK.out; have := HX2.out; omega⟩, ⟨?_⟩, ⟨fun _ => rfl⟩, rfl⟩
         rw [show (x + 1).toNat = x.toNat + 1 by have := HXK.out; omega, HSU.out]
         have : ¬ nd = 0 := by simpa using hn
         simp [RF.step, H46.out, this]
       ·go_wp2
        go_roundg (gk - 1)
        case measure => have := HXK.out; have := HX2.out; omega
        case rel =>
         refine ⟨m, nd, dp - 1, x + 1, dot, true, rfl, rfl, rfl, rfl, rfl, rfl, rfl, rfl, rfl, ⟨by have := HXK.out; omega, by have := HXK.out; have := HX2.out; omega⟩, ⟨?_⟩, ⟨fun _ => rfl⟩, rfl⟩
         rw [show (x + 1).toNat = x.toNat + 1 by have := HXK.out; omega, HSU.out]
         have h1 : bt s x = 48 := by simpa using h48
         have h2 : nd = 0 := by simpa using hn
         simp [RF.step, h1, h2]
    ·have c0 : decide (x < (s.size : Int)) = false := decide_eq_false hx
     have hxe : x = (s.size : Int) := by have := HXK.out; omega
     have hdig : dig = true := HDG.out (by have := H0.out; omega)
     subst hdig
     have HXE := Aside0.mk hxe
     have HFIN : Aside0 (rfAt s s.size = ⟨m, nd, dp, dot⟩) := ⟨by have := HST.out; rw [hxe] at this; simpa using this⟩
     have wex : IntKind.i64.wrap (dp - nd) = dp - nd := by have h1 := HBD.out; have := H18.out; rw [i64_w]; unfold wrap64; omega
     have wnn : IntKind.i64.wrap (nd - nd) = nd - nd := by rw [i64_w]; unfold wrap64; omega
     clear hx hxe
     cases dot <;> cases hm : (m == 0)
     all_goals (go_wp2)
     all_goals (try simp only [Exit.inBlock, Exit.then, Exit.noGoto_ret])
     all_goals (refine bodyPost_ret (results_tmp7 rfl _ _ _) rfl ?_)
     all_goals (first | (have hm' : m = 0 := by simpa using hm) | (have hm' : ¬ m = 0 := by simpa using hm))
     all_goals simp [RF.exp, hm', HXE.out, HFIN.out]
end Go.Proofs.YtednjmngalmdkaaGreatDoor.GPC
end
section
/- strconv.ParseFloat of a text of at most 18 digits with at most one point, two digits behind it at most: the exact road. Conditions: fltOk; the tables as laid (TabW). -/
namespace Go.Proofs.YtednjmngalmdkaaGreatDoor.GPC
open Go.RowKit Go.Proofs.YtednjmngalmdkaaGreatDoorW.PrintWords Go.Proofs.YtednjmngalmdkaaGreatDoorW.PrintLast Go.Proofs.YtednjmngalmdkaaGreatDoor.PF
set_option linter.unusedVariables false
def fltOf (m e : Int) : Option Nat :=
 if e = 0 then some (floatOfInt .f64 m)
 else if e = -1 then floatBits .quo .f64 (floatOfInt .f64 m) 4621819117588971520
 else if e = -2 then floatBits .quo .f64 (floatOfInt .f64 m) 4636737291354636288
 else none
theorem tab_info {w : World} (h : TabW w) : w.cell? ⟨7, 0, none⟩ = some (.int .u64 52) := by
 have := World.var?_cell (show Tryz.prog.globalNamed "internal/strconv.float64info" = some 7 by kernel_rfl) h.2.2.1 0
 simpa using this
theorem tab_opt {w : World} (h : TabW w) : w.cell? ⟨6, 0, none⟩ = some (.bool true) := by
 have := World.var?_cell (show Tryz.prog.globalNamed "internal/strconv.optimize" = some 6 by kernel_rfl) h.2.1 0
 simpa using this
theorem tab_pow {w : World} (h : TabW w) : ∃ b o c, w.cell? ⟨10, 0, none⟩ = some (.slice (some ⟨b, o, none⟩) 23 c) ∧ w.cell? ⟨b, o + 1, none⟩ = some (.float .f64 4621819117588971520) ∧ w.cell? ⟨b, o + 2, none⟩ = some (.float .f64 4636737291354636288) := by
 obtain ⟨b, o, c, h1, h2, h3⟩ := h.2.2.2
 have := World.var?_cell (show Tryz.prog.globalNamed "internal/strconv.float64pow10" = some 10 by kernel_rfl) h1 0
 exact ⟨b, o, c, by simpa using this, h2, h3⟩
set_option maxHeartbeats 8000000 in
set_option maxRecDepth 100000 in
theorem f_exact (m e : Int) (r : Nat) (w : World) (hT : TabW w) (h0 : 0 ≤ m) (h1 : m < 4503599627370496) (h : fltOf m e = some r) :
  Calls Tryz.prog 241 #[.int .u64 m, .int .i64 e, .bool false] w fun x w' => x = .returned (.tuple #[.float .f64 r, .bool true]) ∧ w' = w := by
 have hi := tab_info hT
 obtain ⟨b, o, c, hp0, hp1, hp2⟩ := tab_pow hT
 have hs : ∀ c : Nat, c = 52 → m / 2 ^ c = 0 := by rintro c rfl; exact Int.ediv_eq_zero_of_lt h0 (by omega)
 have hs1 : m / 2 ^ 52 = 0 := Int.ediv_eq_zero_of_lt h0 (by omega)
 have hs2 : m / 4503599627370496 = 0 := Int.ediv_eq_zero_of_lt h0 (by omega)
 clear hT hs
 unfold fltOf at h
 split at h
 ·rename_i he
  subst he
  obtain rfl := Option.some.inj h
  clear h
  go_enter Tryz.func241, Tryz.ntmps241
  go_wp2
  go_ret2
  exact ⟨rfl, rfl⟩
 ·split at h
  ·rename_i _ he
   subst he
   have hq := fun W => run_float_arith (P := Tryz.prog) W .quo 36 .f64 _ _ r h
   clear h
   go_enter Tryz.func241, Tryz.ntmps241
   go_wp2
   go_ret2
   exact ⟨rfl, rfl⟩
  ·split at h
   ·rename_i _ _ he
    subst he
    have hq := fun W => run_float_arith (P := Tryz.prog) W .quo 36 .f64 _ _ r h
    clear h
    go_enter Tryz.func241, Tryz.ntmps241
    go_wp2
    go_ret2
    exact ⟨rfl, rfl⟩
   ·cases h
def fltF (s : ByteArray) : Option Nat :=
 if rfOk s = true ∧ (rfAt s s.size).m < 4503599627370496 then (if (rfAt s s.size).m = 0 then some 0 else fltOf (rfAt s s.size).m (rfAt s s.size).exp) else none
theorem fltF_some {s : ByteArray} {r : Nat} (h : fltF s = some r) : rfOk s = true ∧ 0 ≤ (rfAt s s.size).m ∧ (rfAt s s.size).m < 4503599627370496 ∧ ((rfAt s s.size).m = 0 ∧ r = 0 ∨ ¬ (rfAt s s.size).m = 0 ∧ fltOf (rfAt s s.size).m (rfAt s s.size).exp = some r) := by
 unfold fltF at h
 split at h
 ·rename_i hc
  refine ⟨hc.1, (rf_bounds s hc.1 s.size (Nat.le_refl _)).1, hc.2, ?_⟩
  split at h
  ·rename_i hz
   exact .inl ⟨hz, (Option.some.inj h).symm⟩
  ·rename_i hz
   exact .inr ⟨hz, h⟩
 ·cases h
theorem fltOf_exp {m e : Int} {r : Nat} (h : fltOf m e = some r) : e = 0 ∨ e = -1 ∨ e = -2 := by
 unfold fltOf at h
 split at h
 ·omega
 ·split at h
  ·omega
  ·split at h
   ·omega
   ·cases h
theorem frombits_run (b : Nat) (w : World) : (callFunc 240 #[.int .u64 b]).run Tryz.prog w = .ok (.value (.float .f64 b)) w := by
 rw [run_callFunc_extern (e := Go.Extern.MathFloatBits.float64frombits) Tryz.func240 (by kernel_rfl) (by kernel_rfl) (by kernel_rfl) (by kernel_rfl)]
 rfl
theorem frombits_run0 (w : World) : (callFunc 240 #[.int .u64 0]).run Tryz.prog w = .ok (.value (.float .f64 0)) w := frombits_run 0 w
set_option maxHeartbeats 8000000 in
set_option maxRecDepth 100000 in
theorem f_atof64 (s : ByteArray) (r : Nat) (w : World) (hT : TabW w) (h : fltF s = some r) :
  Calls Tryz.prog 227 #[.string s] w fun x w' => x = .returned (.tuple #[.float .f64 r, .int .i64 s.size, .nilIface]) ∧ w' = w := by
 obtain ⟨hok, h0, h1, hc⟩ := fltF_some h
 have ho := tab_opt hT
 have HT := Aside0.mk hT
 have HOK := Aside0.mk hok
 have hfb := frombits_run0
 have hb0 : bits BinOp.or IntKind.u64 0 0 = 0 := by decide
 clear h hT hok
 generalize hM : (rfAt s s.size).m = m at *
 generalize hE : (rfAt s s.size).exp = ex at *
 have HM := Aside0.mk hM
 have HE := Aside0.mk hE
 clear hM hE
 rcases hc with ⟨hz, rfl⟩ | ⟨hz, hf⟩
 ·subst hz
  go_enter Tryz.func227, Tryz.ntmps227
  go_wp2_with (first
   | (go_at_call 230; refine (rf_special s _ HOK.out).mono ?_; rintro e w1 ⟨rfl, rfl⟩)
   | (go_at_call 231; refine (rf_read s _ HOK.out).mono ?_; rintro e w1 ⟨rfl, rfl⟩; rw [HM.out, HE.out])
   | (go_at_call 239; go_in))
  go_ret3
  exact ⟨rfl, rfl⟩
 ·have hmz : (m == 0) = false := beq_eq_false_iff_ne.mpr hz
  have he := fltOf_exp hf
  have e1 : decide (ex > 310) = false := decide_eq_false (by omega)
  have e2 : decide (ex < -345) = false := decide_eq_false (by omega)
  have HF := Aside0.mk hf
  have H0 := Aside0.mk h0
  have H1 := Aside0.mk h1
  clear hf hz h0 h1 he
  go_enter Tryz.func227, Tryz.ntmps227
  go_wp2_with (first
   | (go_at_call 230; refine (rf_special s _ HOK.out).mono ?_; rintro e w1 ⟨rfl, rfl⟩)
   | (go_at_call 231; refine (rf_read s _ HOK.out).mono ?_; rintro e w1 ⟨rfl, rfl⟩; rw [HM.out, HE.out])
   | (go_at_call 241; refine (f_exact m ex r _ HT.out H0.out H1.out HF.out).mono ?_; rintro e w1 ⟨rfl, rfl⟩)
   | go_in)
  go_ret3
  exact ⟨rfl, rfl⟩
def strconv_ParseFloat.f (a0 : ByteArray) (a1 : Int) : Option (Nat × Option Int) := if a1 = 64 then (fltF a0).map fun r => (r, none) else none
set_option maxHeartbeats 4000000 in
set_option maxRecDepth 100000 in
theorem strconv_ParseFloat.calls (a0 : ByteArray) (a1 : Int) (r1 : Nat) (r2 : Option Int) (w : World) (hT_ : TabW w) (h : strconv_ParseFloat.f a0 a1 = some (r1, r2)) :
  Calls Tryz.prog 191 #[.string a0, .int .i64 a1] w fun e w' => e = .returned (.tuple #[.float .f64 r1, errW r2]) ∧ Below w.heap.size w w' := by
 unfold strconv_ParseFloat.f at h
 split at h
 ·rename_i h64
  subst h64
  obtain ⟨r, hr, he⟩ := Option.map_eq_some_iff.1 h
  obtain ⟨rfl, rfl⟩ := Prod.mk.inj he
  have HT := Aside0.mk hT_
  have HR := Aside0.mk hr
  clear h he hr hT_
  go_enter Tryz.func191, Tryz.ntmps191
  go_wp2_with (first
   | (go_at_call 227; refine (f_atof64 a0 r _ HT.out HR.out).mono ?_; rintro e w1 ⟨rfl, rfl⟩)
   | go_in)
  go_ret3
  simp only []
  go_wp2
  go_ret2
  exact ⟨rfl, Below.refl _ _⟩
 ·cases h
end Go.Proofs.YtednjmngalmdkaaGreatDoor.GPC
end
section
namespace Go.Proofs.YtednjmngalmdkaaGreatDoor.GPC
open Go.RowKit Go.Proofs.YtednjmngalmdkaaGreatDoorW.PrintWords Go.Proofs.YtednjmngalmdkaaGreatDoorW.PrintLast Go.Proofs.YtednjmngalmdkaaGreatDoorW.PrintMore
attribute [local go_sem] max2_int min2_int max_two min_two max_three min_three max_four min_four   -- for this text's walks alone
set_option linter.unusedVariables false
set_option linter.unusedSimpArgs false

attribute [local go_sem] run_store_float
/-! ### impl_procfsLoadAvg: function 61 -/
def impl_procfsLoadAvg.f (a0 : ByteArray) (a1_0 : Nat) (a1_1 : Nat) (a1_2 : Nat) : Option (ByteArray × Int × Bool × Int × Int × Nat × ByteArray × (List (S43))) := if ([] : List (S43)).length < 1466015503701 then ((some (([] : List (S43)) ++ [(⟨(⟨#[76, 111, 97, 100, 49]⟩ : ByteArray), 4, false, 0, 0, a1_0, (⟨#[]⟩ : ByteArray), ([] : List (S43))⟩ : S43)] : List (S43))).bind fun y316 => (if y316.length < 1466015503701 then ((some (y316 ++ [(⟨(⟨#[76, 111, 97, 100, 53]⟩ : ByteArray), 4, false, 0, 0, a1_1, (⟨#[]⟩ : ByteArray), ([] : List (S43))⟩ : S43)] : List (S43))).bind fun y319 => (if y319.length < 1466015503701 then (some (a0, 8, false, 0, 0, 0, (⟨#[]⟩ : ByteArray), (y319 ++ [(⟨(⟨#[76, 111, 97, 100, 49, 53]⟩ : ByteArray), 4, false, 0, 0, a1_2, (⟨#[]⟩ : ByteArray), ([] : List (S43))⟩ : S43)]))) else (none))) else (none))) else (none)
set_option maxHeartbeats 8000000 in
set_option maxRecDepth 100000 in
theorem impl_procfsLoadAvg.calls (a0 : ByteArray) (a1_0 : Nat) (a1_1 : Nat) (a1_2 : Nat) (r1 : ByteArray) (r2 : Int) (r3 : Bool) (r4 : Int) (r5 : Int) (r6 : Nat) (r7 : ByteArray) (r8 : List (S43)) (w : World) (h : impl_procfsLoadAvg.f a0 a1_0 a1_1 a1_2 = some (r1, r2, r3, r4, r5, r6, r7, r8)) :
  Calls Tryz.prog 61 #[.string a0, .agg #[.float .f64 a1_0, .float .f64 a1_1, .float .f64 a1_2]] w fun e w' => ∃ v7_ : Value, e = .returned (.agg #[.string r1, .int .i64 r2, .bool r3, .int .i64 r4, .int .u64 r5, .float .f64 r6, .string r7, v7_]) ∧ Kd.R k43 43 w' w.heap.size (fun _ => True) v7_ r8 ∧ Below w.heap.size w w' := by
 have hu62 := Tryz.underlying62
 have hu43 := Tryz.underlying43
 have HB := Aside0.mk (Below.refl w.heap.size w)
 have H : (if ([] : List (S43)).length < 1466015503701 then ((some (([] : List (S43)) ++ [(⟨(⟨#[76, 111, 97, 100, 49]⟩ : ByteArray), 4, false, 0, 0, a1_0, (⟨#[]⟩ : ByteArray), ([] : List (S43))⟩ : S43)] : List (S43))).bind fun y316 => (if y316.length < 1466015503701 then ((some (y316 ++ [(⟨(⟨#[76, 111, 97, 100, 53]⟩ : ByteArray), 4, false, 0, 0, a1_1, (⟨#[]⟩ : ByteArray), ([] : List (S43))⟩ : S43)] : List (S43))).bind fun y319 => (if y319.length < 1466015503701 then (some (a0, 8, false, 0, 0, 0, (⟨#[]⟩ : ByteArray), (y319 ++ [(⟨(⟨#[76, 111, 97, 100, 49, 53]⟩ : ByteArray), 4, false, 0, 0, a1_2, (⟨#[]⟩ : ByteArray), ([] : List (S43))⟩ : S43)]))) else (none))) else (none))) else (none)) = some (r1, r2, r3, r4, r5, r6, r7, r8) := h
 clear h
 replace H := guard_inv H
 obtain ⟨c3, H⟩ := H
 have LMc3 := Aside0.mk c3
 clear c3
 obtain ⟨y316, hy316⟩ : ∃ y_ : List (S43), y_ = (([] : List (S43)) ++ [(⟨(⟨#[76, 111, 97, 100, 49]⟩ : ByteArray), 4, false, 0, 0, a1_0, (⟨#[]⟩ : ByteArray), ([] : List (S43))⟩ : S43)]) := ⟨_, rfl⟩
 replace H : (if y316.length < 1466015503701 then ((some (y316 ++ [(⟨(⟨#[76, 111, 97, 100, 53]⟩ : ByteArray), 4, false, 0, 0, a1_1, (⟨#[]⟩ : ByteArray), ([] : List (S43))⟩ : S43)] : List (S43))).bind fun y319 => (if y319.length < 1466015503701 then (some (a0, 8, false, 0, 0, 0, (⟨#[]⟩ : ByteArray), (y319 ++ [(⟨(⟨#[76, 111, 97, 100, 49, 53]⟩ : ByteArray), 4, false, 0, 0, a1_2, (⟨#[]⟩ : ByteArray), ([] : List (S43))⟩ : S43)]))) else (none))) else (none)) = some (r1, r2, r3, r4, r5, r6, r7, r8) := by first | (rw [hy316]; with_reducible exact H) | (have H2_ := (Option.bind_some _ _).symm.trans H; rw [hy316]; with_reducible exact H2_) | (have H2_ := (Option.bind_some _ _).symm.trans H; with_reducible exact H2_) | with_reducible exact H | (rw [hy316]; exact H) | exact H
 have Ny316 := Aside0.mk hy316
 clear hy316
 replace H := guard_inv H
 obtain ⟨c4, H⟩ := H
 have LMc4 := Aside0.mk c4
 clear c4
 obtain ⟨y319, hy319⟩ : ∃ y_ : List (S43), y_ = (y316 ++ [(⟨(⟨#[76, 111, 97, 100, 53]⟩ : ByteArray), 4, false, 0, 0, a1_1, (⟨#[]⟩ : ByteArray), ([] : List (S43))⟩ : S43)]) := ⟨_, rfl⟩
 replace H : (if y319.length < 1466015503701 then (some (a0, 8, false, 0, 0, 0, (⟨#[]⟩ : ByteArray), (y319 ++ [(⟨(⟨#[76, 111, 97, 100, 49, 53]⟩ : ByteArray), 4, false, 0, 0, a1_2, (⟨#[]⟩ : ByteArray), ([] : List (S43))⟩ : S43)]))) else (none)) = some (r1, r2, r3, r4, r5, r6, r7, r8) := by first | (rw [hy319]; with_reducible exact H) | (have H2_ := (Option.bind_some _ _).symm.trans H; rw [hy319]; with_reducible exact H2_) | (have H2_ := (Option.bind_some _ _).symm.trans H; with_reducible exact H2_) | with_reducible exact H | (rw [hy319]; exact H) | exact H
 have Ny319 := Aside0.mk hy319
 clear hy319
 replace H := guard_inv H
 obtain ⟨c5, H⟩ := H
 have LMc5 := Aside0.mk c5
 clear c5
 obtain ⟨y322, hy322⟩ : ∃ y_ : List (S43), y_ = (y319 ++ [(⟨(⟨#[76, 111, 97, 100, 49, 53]⟩ : ByteArray), 4, false, 0, 0, a1_2, (⟨#[]⟩ : ByteArray), ([] : List (S43))⟩ : S43)]) := ⟨_, rfl⟩
 replace H : (some (a0, 8, false, 0, 0, 0, (⟨#[]⟩ : ByteArray), y322)) = some (r1, r2, r3, r4, r5, r6, r7, r8) := by first | (rw [hy322]; with_reducible exact H) | (have H2_ := (Option.bind_some _ _).symm.trans H; rw [hy322]; with_reducible exact H2_) | (have H2_ := (Option.bind_some _ _).symm.trans H; with_reducible exact H2_) | with_reducible exact H | (rw [hy322]; exact H) | exact H
 have Ny322 := Aside0.mk hy322
 clear hy322
 simp only [Option.some.injEq, Prod.mk.injEq] at H
 obtain ⟨rfl, rfl, rfl, rfl, rfl, rfl, rfl, rfl⟩ := H
 go_enter Tryz.func61, Tryz.ntmps61
 go_wp2_with (first | ((with_reducible refine gate_dst (N := 3) rfl ?_); refine box_event ?hg (N := 3) ?hd (cs := #[.float .f64 a1_0, .float .f64 a1_1, .float .f64 a1_2]) (t := 62) ?hr ?_; (case hd => rfl); (case hg => rfl); (case hr => first | (go_simp; done) | (go_simp; rfl)); intro gb313 hg w6 hbox hb; have n0_ := Aside0.mk (below_step (by repeat (first | (with_reducible first | exact HB.out | apply below_alloc | apply pw_below_drewN | apply below_drew1) | exact HB.out)) hb); have n1_ := Aside0.mk (hbox); have n2_ := Aside0.mk ((by rw [hg]; exact (below_size (by repeat (first | (with_reducible first | exact HB.out | apply below_alloc | apply pw_below_drewN | apply below_drew1) | exact HB.out))) : w.heap.size ≤ gb313)); have n3_ := Aside0.mk ((by rw [hg]; exact (below_size (by repeat (first | (with_reducible first | exact HB.out | apply below_alloc | apply pw_below_drewN | apply below_drew1) | exact HB.out))) : w.heap.size ≤ gb313)); clear HB; have HB := n0_; have BK313 := n1_; have GW313 := n2_; have GE313 := n3_; clear n0_ n1_ n2_ n3_; clear hb hbox hg) | ((with_reducible refine gate_dst (N := 4) rfl ?_); refine box_event ?hg (N := 4) ?hd (cs := #[.string (⟨#[]⟩ : ByteArray), .int .i64 0, .bool false, .int .i64 0, .int .u64 0, .float .f64 0, .string (⟨#[]⟩ : ByteArray), .slice none 0 0]) (t := 43) ?hr ?_; (case hd => rfl); (case hg => rfl); (case hr => first | (go_simp; done) | (go_simp; rfl)); intro gb314 hg w7 hbox hb; have n0_ := Aside0.mk (blk_below (g := gb313) (o := .cells #[.float .f64 a1_0, .float .f64 a1_1, .float .f64 a1_2] 62 (0, 0)) (by (with_reducible repeat (first | refine blk_drewN ?_ _ | refine blk_drew ?_ | refine blk_alloc ?_ _)); exact BK313.out) hb); have n1_ := Aside0.mk (below_step (by repeat (first | (with_reducible first | exact HB.out | apply below_alloc | apply pw_below_drewN | apply below_drew1 | refine below_set ?_ GE313.out) | exact HB.out)) hb); have n2_ := Aside0.mk (hbox); have n3_ := Aside0.mk ((by rw [hg]; exact (below_size (by repeat (first | (with_reducible first | exact HB.out | apply below_alloc | apply pw_below_drewN | apply below_drew1 | refine below_set ?_ GE313.out) | exact HB.out))) : w.heap.size ≤ gb314)); have n4_ := Aside0.mk ((by rw [hg]; exact (below_size (by repeat (first | (with_reducible first | exact HB.out | apply below_alloc | apply pw_below_drewN | apply below_drew1 | refine below_set ?_ GE313.out) | exact HB.out))) : w.heap.size ≤ gb314)); have n5_ := Aside0.mk ((by rw [hg]; exact Nat.ne_of_lt (blk_lt (g := gb313) (o := .cells #[.float .f64 a1_0, .float .f64 a1_1, .float .f64 a1_2] 62 (0, 0)) (by (with_reducible repeat (first | refine blk_drewN ?_ _ | refine blk_drew ?_ | refine blk_alloc ?_ _)); exact BK313.out)) : gb313 ≠ gb314)); have n6_ := Aside0.mk ((by rw [hg]; exact Nat.ne_of_gt (blk_lt (g := gb313) (o := .cells #[.float .f64 a1_0, .float .f64 a1_1, .float .f64 a1_2] 62 (0, 0)) (by (with_reducible repeat (first | refine blk_drewN ?_ _ | refine blk_drew ?_ | refine blk_alloc ?_ _)); exact BK313.out)) : gb314 ≠ gb313)); clear BK313; clear HB; have BK313 := n0_; have HB := n1_; have BK314 := n2_; have GW314 := n3_; have GE314 := n4_; have NB313_314 := n5_; have NB314_313 := n6_; clear n0_ n1_ n2_ n3_ n4_ n5_ n6_; clear hb hbox hg) | ((with_reducible refine gate_dst (N := 5) rfl ?_); refine box_event ?hg (N := 5) ?hd (cs := #[.string (⟨#[]⟩ : ByteArray), .int .i64 0, .bool false, .int .i64 0, .int .u64 0, .float .f64 0, .string (⟨#[]⟩ : ByteArray), .slice none 0 0]) (t := 43) ?hr ?_; (case hd => rfl); (case hg => rfl); (case hr => first | (go_simp; done) | (go_simp; rfl)); intro gb315 hg w8 hbox hb; have n0_ := Aside0.mk (blk_below (g := gb313) (o := .cells #[.float .f64 a1_0, .float .f64 a1_1, .float .f64 a1_2] 62 (0, 0)) (by (with_reducible repeat (first | refine blk_drewN ?_ _ | refine blk_drew ?_ | refine blk_alloc ?_ _)); exact BK313.out) hb); have n1_ := Aside0.mk (blk_below (g := gb314) (o := .cells #[.string (⟨#[]⟩ : ByteArray), .int .i64 0, .bool false, .int .i64 0, .int .u64 0, .float .f64 0, .string (⟨#[]⟩ : ByteArray), .slice none 0 0] 43 (0, 0)) (by (with_reducible repeat (first | refine blk_drewN ?_ _ | refine blk_drew ?_ | refine blk_alloc ?_ _)); exact BK314.out) hb); have n2_ := Aside0.mk (below_step (by repeat (first | (with_reducible first | exact HB.out | apply below_alloc | apply pw_below_drewN | apply below_drew1 | refine below_set ?_ GE313.out | refine below_set ?_ GE314.out) | exact HB.out)) hb); have n3_ := Aside0.mk (hbox); have n4_ := Aside0.mk ((by rw [hg]; exact (below_size (by repeat (first | (with_reducible first | exact HB.out | apply below_alloc | apply pw_below_drewN | apply below_drew1 | refine below_set ?_ GE313.out | refine below_set ?_ GE314.out) | exact HB.out))) : w.heap.size ≤ gb315)); have n5_ := Aside0.mk ((by rw [hg]; exact (below_size (by repeat (first | (with_reducible first | exact HB.out | apply below_alloc | apply pw_below_drewN | apply below_drew1 | refine below_set ?_ GE313.out | refine below_set ?_ GE314.out) | exact HB.out))) : w.heap.size ≤ gb315)); have n6_ := Aside0.mk ((by rw [hg]; exact Nat.ne_of_lt (blk_lt (g := gb313) (o := .cells #[.float .f64 a1_0, .float .f64 a1_1, .float .f64 a1_2] 62 (0, 0)) (by (with_reducible repeat (first | refine blk_drewN ?_ _ | refine blk_drew ?_ | refine blk_alloc ?_ _)); exact BK313.out)) : gb313 ≠ gb315)); have n7_ := Aside0.mk ((by rw [hg]; exact Nat.ne_of_gt (blk_lt (g := gb313) (o := .cells #[.float .f64 a1_0, .float .f64 a1_1, .float .f64 a1_2] 62 (0, 0)) (by (with_reducible repeat (first | refine blk_drewN ?_ _ | refine blk_drew ?_ | refine blk_alloc ?_ _)); exact BK313.out)) : gb315 ≠ gb313)); have n8_ := Aside0.mk ((by rw [hg]; exact Nat.ne_of_lt (blk_lt (g := gb314) (o := .cells #[.string (⟨#[]⟩ : ByteArray), .int .i64 0, .bool false, .int .i64 0, .int .u64 0, .float .f64 0, .string (⟨#[]⟩ : ByteArray), .slice none 0 0] 43 (0, 0)) (by (with_reducible repeat (first | refine blk_drewN ?_ _ | refine blk_drew ?_ | refine blk_alloc ?_ _)); exact BK314.out)) : gb314 ≠ gb315)); have n9_ := Aside0.mk ((by rw [hg]; exact Nat.ne_of_gt (blk_lt (g := gb314) (o := .cells #[.string (⟨#[]⟩ : ByteArray), .int .i64 0, .bool false, .int .i64 0, .int .u64 0, .float .f64 0, .string (⟨#[]⟩ : ByteArray), .slice none 0 0] 43 (0, 0)) (by (with_reducible repeat (first | refine blk_drewN ?_ _ | refine blk_drew ?_ | refine blk_alloc ?_ _)); exact BK314.out)) : gb315 ≠ gb314)); clear BK313; clear BK314; clear HB; have BK313 := n0_; have BK314 := n1_; have HB := n2_; have BK315 := n3_; have GW315 := n4_; have GE315 := n5_; have NB313_315 := n6_; have NB315_313 := n7_; have NB314_315 := n8_; have NB315_314 := n9_; clear n0_ n1_ n2_ n3_ n4_ n5_ n6_ n7_ n8_ n9_; clear hb hbox hg; have hnb9 := NB315_313.out; have hnc9 := NB313_315.out; have hnb10 := NB315_314.out; have hnc10 := NB314_315.out; have hcz11_0 : w8.cell? ⟨gb315, 0, none⟩ = some (.string (⟨#[]⟩ : ByteArray)) := (blk_cell BK315.out 0).trans rfl; have hcz11_1 : w8.cell? ⟨gb315, 1, none⟩ = some (.int .i64 0) := (blk_cell BK315.out 1).trans rfl; have hcz11_2 : w8.cell? ⟨gb315, 2, none⟩ = some (.bool false) := (blk_cell BK315.out 2).trans rfl; have hcz11_3 : w8.cell? ⟨gb315, 3, none⟩ = some (.int .i64 0) := (blk_cell BK315.out 3).trans rfl; have hcz11_4 : w8.cell? ⟨gb315, 4, none⟩ = some (.int .u64 0) := (blk_cell BK315.out 4).trans rfl; have hcz11_5 : w8.cell? ⟨gb315, 5, none⟩ = some (.float .f64 0) := (blk_cell BK315.out 5).trans rfl; have hcz11_6 : w8.cell? ⟨gb315, 6, none⟩ = some (.string (⟨#[]⟩ : ByteArray)) := (blk_cell BK315.out 6).trans rfl; have hcz11_7 : w8.cell? ⟨gb315, 7, none⟩ = some (.slice none 0 0) := (blk_cell BK315.out 7).trans rfl; have hfz11_0 := blk_frozen BK315.out 0; have hfz11_1 := blk_frozen BK315.out 1; have hfz11_2 := blk_frozen BK315.out 2; have hfz11_3 := blk_frozen BK315.out 3; have hfz11_4 := blk_frozen BK315.out 4; have hfz11_5 := blk_frozen BK315.out 5; have hfz11_6 := blk_frozen BK315.out 6; have hfz11_7 := blk_frozen BK315.out 7; have hnb12 := NB313_314.out; have hnc12 := NB314_313.out; have hcz13_0 : w8.cell? ⟨gb313, 0, none⟩ = some (.float .f64 a1_0) := (blk_cell BK313.out 0).trans rfl; have hcz13_1 : w8.cell? ⟨gb313, 1, none⟩ = some (.float .f64 a1_1) := (blk_cell BK313.out 1).trans rfl; have hcz13_2 : w8.cell? ⟨gb313, 2, none⟩ = some (.float .f64 a1_2) := (blk_cell BK313.out 2).trans rfl; have hfz13_0 := blk_frozen BK313.out 0; have hfz13_1 := blk_frozen BK313.out 1; have hfz13_2 := blk_frozen BK313.out 2) | ((with_reducible refine gate_builtin (b := .append) (xs := #[.tmp 9, .tmp 13]) rfl ?_); at_builtin; refine Kd.R_append k43 (w0 := w) w.heap.size rfl (.tmp 9) (.tmp 13) 41 43 (.agg #[(.string ⟨#[]⟩), (.int .i64 0), (.bool false), (.int .i64 0), (.int .u64 0), (.float .f64 0), (.string ⟨#[]⟩), (.slice none 0 0)]) 96 rfl Tryz.underlying41 info43 rfl (by decide) (by omega) (.slice none 0 0) ([] : List (S43)) (⟨(⟨#[76, 111, 97, 100, 49]⟩ : ByteArray), 4, false, 0, 0, a1_0, (⟨#[]⟩ : ByteArray), ([] : List (S43))⟩ : S43) [.string (⟨#[76, 111, 97, 100, 49]⟩ : ByteArray), .int .i64 4, .bool false, .int .i64 0, .int .u64 0, .float .f64 a1_0, .string (⟨#[]⟩ : ByteArray), .slice none 0 0] (fun k_ => k_ ≠ gb314 ∧ k_ ≠ gb315) (fun k_ => ((fun k_ => k_ ≠ gb314 ∧ k_ ≠ gb315)) k_ ∧ some k_ ≠ (.slice none 0 0 : Value).ownBlock) rfl (by first | (go_simp; done) | (go_simp; rfl)) ?aP (fun _ hk => hk) ?aF ?aO ?aB ?aS ?aL ?_; (case aP => exact k43_mkM _ _ _ (⟨(⟨#[76, 111, 97, 100, 49]⟩ : ByteArray), 4, false, 0, 0, a1_0, (⟨#[]⟩ : ByteArray), ([] : List (S43))⟩ : S43) (Kd.R_nil _ _ _ _ _)); (case aB => exact (by repeat (first | (with_reducible first | exact HB.out | apply below_alloc | apply pw_below_drewN | apply below_drew1 | refine below_set ?_ GE313.out | refine below_set ?_ GE314.out | refine below_set ?_ GE315.out) | exact HB.out))); (case aF => exact (fun k_ hk => ⟨Kd.freshB (g := gb314) (o := .cells #[.string (⟨#[]⟩ : ByteArray), .int .i64 0, .bool false, .int .i64 0, .int .u64 0, .float .f64 0, .string (⟨#[]⟩ : ByteArray), .slice none 0 0] 43 (0, 0)) (by (with_reducible repeat (first | refine blk_drewN ?_ _ | refine blk_drew ?_ | refine blk_alloc ?_ _)); refine blk_far ?_ NB314_315.out _; (with_reducible repeat (first | refine blk_drewN ?_ _ | refine blk_drew ?_ | refine blk_alloc ?_ _)); refine blk_far ?_ NB314_315.out _; (with_reducible repeat (first | refine blk_drewN ?_ _ | refine blk_drew ?_ | refine blk_alloc ?_ _)); refine blk_far ?_ NB314_315.out _; (with_reducible repeat (first | refine blk_drewN ?_ _ | refine blk_drew ?_ | refine blk_alloc ?_ _)); refine blk_far ?_ NB314_315.out _; (with_reducible repeat (first | refine blk_drewN ?_ _ | refine blk_drew ?_ | refine blk_alloc ?_ _)); refine blk_far ?_ NB314_315.out _; (with_reducible repeat (first | refine blk_drewN ?_ _ | refine blk_drew ?_ | refine blk_alloc ?_ _)); refine blk_far ?_ NB314_315.out _; (with_reducible repeat (first | refine blk_drewN ?_ _ | refine blk_drew ?_ | refine blk_alloc ?_ _)); refine blk_far ?_ NB314_315.out _; (with_reducible repeat (first | refine blk_drewN ?_ _ | refine blk_drew ?_ | refine blk_alloc ?_ _)); refine blk_far ?_ NB314_315.out _; (with_reducible repeat (first | refine blk_drewN ?_ _ | refine blk_drew ?_ | refine blk_alloc ?_ _)); exact BK314.out) k_ hk, Kd.freshB (g := gb315) (o := .cells #[.string a0, .int .i64 8, .bool false, .int .i64 0, .int .u64 0, .float .f64 0, .string (⟨#[]⟩ : ByteArray), .slice none 0 0] 43 (0, 0)) (by (with_reducible repeat (first | refine blk_drewN ?_ _ | refine blk_drew ?_ | refine blk_alloc ?_ _)); refine blk_put (cs := #[.string a0, .int .i64 8, .bool false, .int .i64 0, .int .u64 0, .float .f64 0, .string (⟨#[]⟩ : ByteArray), .slice none 0 0]) ?_ 7 _ rfl; (with_reducible repeat (first | refine blk_drewN ?_ _ | refine blk_drew ?_ | refine blk_alloc ?_ _)); refine blk_put (cs := #[.string a0, .int .i64 8, .bool false, .int .i64 0, .int .u64 0, .float .f64 0, .string (⟨#[]⟩ : ByteArray), .slice none 0 0]) ?_ 6 _ rfl; (with_reducible repeat (first | refine blk_drewN ?_ _ | refine blk_drew ?_ | refine blk_alloc ?_ _)); refine blk_put (cs := #[.string a0, .int .i64 8, .bool false, .int .i64 0, .int .u64 0, .float .f64 0, .string (⟨#[]⟩ : ByteArray), .slice none 0 0]) ?_ 5 _ rfl; (with_reducible repeat (first | refine blk_drewN ?_ _ | refine blk_drew ?_ | refine blk_alloc ?_ _)); refine blk_put (cs := #[.string a0, .int .i64 8, .bool false, .int .i64 0, .int .u64 0, .float .f64 0, .string (⟨#[]⟩ : ByteArray), .slice none 0 0]) ?_ 4 _ rfl; (with_reducible repeat (first | refine blk_drewN ?_ _ | refine blk_drew ?_ | refine blk_alloc ?_ _)); refine blk_put (cs := #[.string a0, .int .i64 8, .bool false, .int .i64 0, .int .u64 0, .float .f64 0, .string (⟨#[]⟩ : ByteArray), .slice none 0 0]) ?_ 3 _ rfl; (with_reducible repeat (first | refine blk_drewN ?_ _ | refine blk_drew ?_ | refine blk_alloc ?_ _)); refine blk_put (cs := #[.string a0, .int .i64 8, .bool false, .int .i64 0, .int .u64 0, .float .f64 0, .string (⟨#[]⟩ : ByteArray), .slice none 0 0]) ?_ 2 _ rfl; (with_reducible repeat (first | refine blk_drewN ?_ _ | refine blk_drew ?_ | refine blk_alloc ?_ _)); refine blk_put (cs := #[.string a0, .int .i64 0, .bool false, .int .i64 0, .int .u64 0, .float .f64 0, .string (⟨#[]⟩ : ByteArray), .slice none 0 0]) ?_ 1 _ rfl; (with_reducible repeat (first | refine blk_drewN ?_ _ | refine blk_drew ?_ | refine blk_alloc ?_ _)); refine blk_put (cs := #[.string (⟨#[]⟩ : ByteArray), .int .i64 0, .bool false, .int .i64 0, .int .u64 0, .float .f64 0, .string (⟨#[]⟩ : ByteArray), .slice none 0 0]) ?_ 0 _ rfl; (with_reducible repeat (first | refine blk_drewN ?_ _ | refine blk_drew ?_ | refine blk_alloc ?_ _)); exact BK315.out) k_ hk⟩)); (case aO => exact ((Kd.R_nil _ _ _ _ (fun k_ => k_ ≠ gb314 ∧ k_ ≠ gb315)))); (case aS => exact (below_size (by repeat (first | (with_reducible first | exact HB.out | apply below_alloc | apply pw_below_drewN | apply below_drew1 | refine below_set ?_ GE313.out | refine below_set ?_ GE314.out | refine below_set ?_ GE315.out) | exact HB.out)))); (case aL => have := LMc3.out; omega); intro v317 w14 ho hb hg hat; rw [← Ny316.out] at ho; have n0_ := Aside0.mk (blk_grown (g := gb313) (o := .cells #[.float .f64 a1_0, .float .f64 a1_1, .float .f64 a1_2] 62 (0, 0)) (by (with_reducible repeat (first | refine blk_drewN ?_ _ | refine blk_drew ?_ | refine blk_alloc ?_ _)); refine blk_far ?_ NB313_315.out _; (with_reducible repeat (first | refine blk_drewN ?_ _ | refine blk_drew ?_ | refine blk_alloc ?_ _)); refine blk_far ?_ NB313_315.out _; (with_reducible repeat (first | refine blk_drewN ?_ _ | refine blk_drew ?_ | refine blk_alloc ?_ _)); refine blk_far ?_ NB313_315.out _; (with_reducible repeat (first | refine blk_drewN ?_ _ | refine blk_drew ?_ | refine blk_alloc ?_ _)); refine blk_far ?_ NB313_315.out _; (with_reducible repeat (first | refine blk_drewN ?_ _ | refine blk_drew ?_ | refine blk_alloc ?_ _)); refine blk_far ?_ NB313_315.out _; (with_reducible repeat (first | refine blk_drewN ?_ _ | refine blk_drew ?_ | refine blk_alloc ?_ _)); refine blk_far ?_ NB313_315.out _; (with_reducible repeat (first | refine blk_drewN ?_ _ | refine blk_drew ?_ | refine blk_alloc ?_ _)); refine blk_far ?_ NB313_315.out _; (with_reducible repeat (first | refine blk_drewN ?_ _ | refine blk_drew ?_ | refine blk_alloc ?_ _)); refine blk_far ?_ NB313_315.out _; (with_reducible repeat (first | refine blk_drewN ?_ _ | refine blk_drew ?_ | refine blk_alloc ?_ _)); exact BK313.out) hg (by simp [Value.ownBlock])); have n1_ := Aside0.mk (blk_grown (g := gb314) (o := .cells #[.string (⟨#[]⟩ : ByteArray), .int .i64 0, .bool false, .int .i64 0, .int .u64 0, .float .f64 0, .string (⟨#[]⟩ : ByteArray), .slice none 0 0] 43 (0, 0)) (by (with_reducible repeat (first | refine blk_drewN ?_ _ | refine blk_drew ?_ | refine blk_alloc ?_ _)); refine blk_far ?_ NB314_315.out _; (with_reducible repeat (first | refine blk_drewN ?_ _ | refine blk_drew ?_ | refine blk_alloc ?_ _)); refine blk_far ?_ NB314_315.out _; (with_reducible repeat (first | refine blk_drewN ?_ _ | refine blk_drew ?_ | refine blk_alloc ?_ _)); refine blk_far ?_ NB314_315.out _; (with_reducible repeat (first | refine blk_drewN ?_ _ | refine blk_drew ?_ | refine blk_alloc ?_ _)); refine blk_far ?_ NB314_315.out _; (with_reducible repeat (first | refine blk_drewN ?_ _ | refine blk_drew ?_ | refine blk_alloc ?_ _)); refine blk_far ?_ NB314_315.out _; (with_reducible repeat (first | refine blk_drewN ?_ _ | refine blk_drew ?_ | refine blk_alloc ?_ _)); refine blk_far ?_ NB314_315.out _; (with_reducible repeat (first | refine blk_drewN ?_ _ | refine blk_drew ?_ | refine blk_alloc ?_ _)); refine blk_far ?_ NB314_315.out _; (with_reducible repeat (first | refine blk_drewN ?_ _ | refine blk_drew ?_ | refine blk_alloc ?_ _)); refine blk_far ?_ NB314_315.out _; (with_reducible repeat (first | refine blk_drewN ?_ _ | refine blk_drew ?_ | refine blk_alloc ?_ _)); exact BK314.out) hg (by simp [Value.ownBlock])); have n2_ := Aside0.mk (blk_grown (g := gb315) (o := .cells #[.string a0, .int .i64 8, .bool false, .int .i64 0, .int .u64 0, .float .f64 0, .string (⟨#[]⟩ : ByteArray), .slice none 0 0] 43 (0, 0)) (by (with_reducible repeat (first | refine blk_drewN ?_ _ | refine blk_drew ?_ | refine blk_alloc ?_ _)); refine blk_put (cs := #[.string a0, .int .i64 8, .bool false, .int .i64 0, .int .u64 0, .float .f64 0, .string (⟨#[]⟩ : ByteArray), .slice none 0 0]) ?_ 7 _ rfl; (with_reducible repeat (first | refine blk_drewN ?_ _ | refine blk_drew ?_ | refine blk_alloc ?_ _)); refine blk_put (cs := #[.string a0, .int .i64 8, .bool false, .int .i64 0, .int .u64 0, .float .f64 0, .string (⟨#[]⟩ : ByteArray), .slice none 0 0]) ?_ 6 _ rfl; (with_reducible repeat (first | refine blk_drewN ?_ _ | refine blk_drew ?_ | refine blk_alloc ?_ _)); refine blk_put (cs := #[.string a0, .int .i64 8, .bool false, .int .i64 0, .int .u64 0, .float .f64 0, .string (⟨#[]⟩ : ByteArray), .slice none 0 0]) ?_ 5 _ rfl; (with_reducible repeat (first | refine blk_drewN ?_ _ | refine blk_drew ?_ | refine blk_alloc ?_ _)); refine blk_put (cs := #[.string a0, .int .i64 8, .bool false, .int .i64 0, .int .u64 0, .float .f64 0, .string (⟨#[]⟩ : ByteArray), .slice none 0 0]) ?_ 4 _ rfl; (with_reducible repeat (first | refine blk_drewN ?_ _ | refine blk_drew ?_ | refine blk_alloc ?_ _)); refine blk_put (cs := #[.string a0, .int .i64 8, .bool false, .int .i64 0, .int .u64 0, .float .f64 0, .string (⟨#[]⟩ : ByteArray), .slice none 0 0]) ?_ 3 _ rfl; (with_reducible repeat (first | refine blk_drewN ?_ _ | refine blk_drew ?_ | refine blk_alloc ?_ _)); refine blk_put (cs := #[.string a0, .int .i64 8, .bool false, .int .i64 0, .int .u64 0, .float .f64 0, .string (⟨#[]⟩ : ByteArray), .slice none 0 0]) ?_ 2 _ rfl; (with_reducible repeat (first | refine blk_drewN ?_ _ | refine blk_drew ?_ | refine blk_alloc ?_ _)); refine blk_put (cs := #[.string a0, .int .i64 0, .bool false, .int .i64 0, .int .u64 0, .float .f64 0, .string (⟨#[]⟩ : ByteArray), .slice none 0 0]) ?_ 1 _ rfl; (with_reducible repeat (first | refine blk_drewN ?_ _ | refine blk_drew ?_ | refine blk_alloc ?_ _)); refine blk_put (cs := #[.string (⟨#[]⟩ : ByteArray), .int .i64 0, .bool false, .int .i64 0, .int .u64 0, .float .f64 0, .string (⟨#[]⟩ : ByteArray), .slice none 0 0]) ?_ 0 _ rfl; (with_reducible repeat (first | refine blk_drewN ?_ _ | refine blk_drew ?_ | refine blk_alloc ?_ _)); exact BK315.out) hg (by simp [Value.ownBlock])); have n3_ := Aside0.mk (hb); have n4_ := Aside0.mk (ho); clear BK313; clear BK314; clear BK315; clear HB; have BK313 := n0_; have BK314 := n1_; have BK315 := n2_; have HB := n3_; have HO318 := n4_; clear n0_ n1_ n2_ n3_ n4_; clear ho hb hg hat; obtain ⟨Ao15, co15, eo15⟩ := Kd.R_slice HO318.out; subst eo15; have hcz16_0 : w14.cell? ⟨gb315, 0, none⟩ = some (.string a0) := (blk_cell BK315.out 0).trans rfl; have hcz16_1 : w14.cell? ⟨gb315, 1, none⟩ = some (.int .i64 8) := (blk_cell BK315.out 1).trans rfl; have hcz16_2 : w14.cell? ⟨gb315, 2, none⟩ = some (.bool false) := (blk_cell BK315.out 2).trans rfl; have hcz16_3 : w14.cell? ⟨gb315, 3, none⟩ = some (.int .i64 0) := (blk_cell BK315.out 3).trans rfl; have hcz16_4 : w14.cell? ⟨gb315, 4, none⟩ = some (.int .u64 0) := (blk_cell BK315.out 4).trans rfl; have hcz16_5 : w14.cell? ⟨gb315, 5, none⟩ = some (.float .f64 0) := (blk_cell BK315.out 5).trans rfl; have hcz16_6 : w14.cell? ⟨gb315, 6, none⟩ = some (.string (⟨#[]⟩ : ByteArray)) := (blk_cell BK315.out 6).trans rfl; have hcz16_7 : w14.cell? ⟨gb315, 7, none⟩ = some (.slice none 0 0) := (blk_cell BK315.out 7).trans rfl; have hfz16_0 := blk_frozen BK315.out 0; have hfz16_1 := blk_frozen BK315.out 1; have hfz16_2 := blk_frozen BK315.out 2; have hfz16_3 := blk_frozen BK315.out 3; have hfz16_4 := blk_frozen BK315.out 4; have hfz16_5 := blk_frozen BK315.out 5; have hfz16_6 := blk_frozen BK315.out 6; have hfz16_7 := blk_frozen BK315.out 7; have hcz17_0 : w14.cell? ⟨gb313, 0, none⟩ = some (.float .f64 a1_0) := (blk_cell BK313.out 0).trans rfl; have hcz17_1 : w14.cell? ⟨gb313, 1, none⟩ = some (.float .f64 a1_1) := (blk_cell BK313.out 1).trans rfl; have hcz17_2 : w14.cell? ⟨gb313, 2, none⟩ = some (.float .f64 a1_2) := (blk_cell BK313.out 2).trans rfl; have hfz17_0 := blk_frozen BK313.out 0; have hfz17_1 := blk_frozen BK313.out 1; have hfz17_2 := blk_frozen BK313.out 2) | ((with_reducible refine gate_builtin (b := .append) (xs := #[.tmp 17, .tmp 21]) rfl ?_); at_builtin; refine Kd.R_append k43 (w0 := w) w.heap.size rfl (.tmp 17) (.tmp 21) 41 43 (.agg #[(.string ⟨#[]⟩), (.int .i64 0), (.bool false), (.int .i64 0), (.int .u64 0), (.float .f64 0), (.string ⟨#[]⟩), (.slice none 0 0)]) 96 rfl Tryz.underlying41 info43 rfl (by decide) (by omega) (.slice Ao15 y316.length co15) y316 (⟨(⟨#[76, 111, 97, 100, 53]⟩ : ByteArray), 4, false, 0, 0, a1_1, (⟨#[]⟩ : ByteArray), ([] : List (S43))⟩ : S43) [.string (⟨#[76, 111, 97, 100, 53]⟩ : ByteArray), .int .i64 4, .bool false, .int .i64 0, .int .u64 0, .float .f64 a1_1, .string (⟨#[]⟩ : ByteArray), .slice none 0 0] (fun k_ => k_ ≠ gb314 ∧ k_ ≠ gb315) (fun k_ => ((fun k_ => k_ ≠ gb314 ∧ k_ ≠ gb315)) k_ ∧ some k_ ≠ (.slice Ao15 y316.length co15 : Value).ownBlock) rfl (by first | (go_simp; done) | (go_simp; rfl)) ?aP (fun _ hk => hk) ?aF ?aO ?aB ?aS ?aL ?_; (case aP => exact k43_mkM _ _ _ (⟨(⟨#[76, 111, 97, 100, 53]⟩ : ByteArray), 4, false, 0, 0, a1_1, (⟨#[]⟩ : ByteArray), ([] : List (S43))⟩ : S43) (Kd.R_nil _ _ _ _ _)); (case aB => exact (by repeat (first | (with_reducible first | exact HB.out | apply below_alloc | apply pw_below_drewN | apply below_drew1 | refine below_set ?_ GE313.out | refine below_set ?_ GE314.out | refine below_set ?_ GE315.out) | exact HB.out))); (case aF => exact (fun k_ hk => ⟨Kd.freshB (g := gb314) (o := .cells #[.string (⟨#[]⟩ : ByteArray), .int .i64 0, .bool false, .int .i64 0, .int .u64 0, .float .f64 0, .string (⟨#[]⟩ : ByteArray), .slice none 0 0] 43 (0, 0)) (by (with_reducible repeat (first | refine blk_drewN ?_ _ | refine blk_drew ?_ | refine blk_alloc ?_ _)); refine blk_far ?_ NB314_315.out _; (with_reducible repeat (first | refine blk_drewN ?_ _ | refine blk_drew ?_ | refine blk_alloc ?_ _)); exact BK314.out) k_ hk, Kd.freshB (g := gb315) (o := .cells #[.string a0, .int .i64 8, .bool false, .int .i64 0, .int .u64 0, .float .f64 0, .string (⟨#[]⟩ : ByteArray), .slice Ao15 y316.length co15] 43 (0, 0)) (by (with_reducible repeat (first | refine blk_drewN ?_ _ | refine blk_drew ?_ | refine blk_alloc ?_ _)); refine blk_put (cs := #[.string a0, .int .i64 8, .bool false, .int .i64 0, .int .u64 0, .float .f64 0, .string (⟨#[]⟩ : ByteArray), .slice none 0 0]) ?_ 7 _ rfl; (with_reducible repeat (first | refine blk_drewN ?_ _ | refine blk_drew ?_ | refine blk_alloc ?_ _)); exact BK315.out) k_ hk⟩)); (case aO => exact (by (with_reducible repeat (first | apply Kd.R_alloc | apply Kd.R_drewN | apply Kd.R_drew)); exact Kd.R_mono (Kd.R_far (p := ⟨gb315, 7, none⟩) (Kd.R_mono HO318.out (fun k_ hk => (⟨hk, hk.2⟩ : _ ∧ k_ ≠ gb315))) (fun _ hk => hk.2) (.slice Ao15 y316.length co15)) (fun _ hk => ⟨hk.1.1, hk.1.2⟩))); (case aS => exact (below_size (by repeat (first | (with_reducible first | exact HB.out | apply below_alloc | apply pw_below_drewN | apply below_drew1 | refine below_set ?_ GE313.out | refine below_set ?_ GE314.out | refine below_set ?_ GE315.out) | exact HB.out)))); (case aL => have := LMc4.out; omega); intro v320 w18 ho hb hg hat; rw [← Ny319.out] at ho; have n0_ := Aside0.mk (blk_grown (g := gb313) (o := .cells #[.float .f64 a1_0, .float .f64 a1_1, .float .f64 a1_2] 62 (0, 0)) (by (with_reducible repeat (first | refine blk_drewN ?_ _ | refine blk_drew ?_ | refine blk_alloc ?_ _)); refine blk_far ?_ NB313_315.out _; (with_reducible repeat (first | refine blk_drewN ?_ _ | refine blk_drew ?_ | refine blk_alloc ?_ _)); exact BK313.out) hg (Kd.R_ne HO318.out BK313.out (by decide))); have n1_ := Aside0.mk (blk_grown (g := gb314) (o := .cells #[.string (⟨#[]⟩ : ByteArray), .int .i64 0, .bool false, .int .i64 0, .int .u64 0, .float .f64 0, .string (⟨#[]⟩ : ByteArray), .slice none 0 0] 43 (0, 0)) (by (with_reducible repeat (first | refine blk_drewN ?_ _ | refine blk_drew ?_ | refine blk_alloc ?_ _)); refine blk_far ?_ NB314_315.out _; (with_reducible repeat (first | refine blk_drewN ?_ _ | refine blk_drew ?_ | refine blk_alloc ?_ _)); exact BK314.out) hg (Kd.R_away HO318.out (fun _ hk => hk.1))); have n2_ := Aside0.mk (blk_grown (g := gb315) (o := .cells #[.string a0, .int .i64 8, .bool false, .int .i64 0, .int .u64 0, .float .f64 0, .string (⟨#[]⟩ : ByteArray), .slice Ao15 y316.length co15] 43 (0, 0)) (by (with_reducible repeat (first | refine blk_drewN ?_ _ | refine blk_drew ?_ | refine blk_alloc ?_ _)); refine blk_put (cs := #[.string a0, .int .i64 8, .bool false, .int .i64 0, .int .u64 0, .float .f64 0, .string (⟨#[]⟩ : ByteArray), .slice none 0 0]) ?_ 7 _ rfl; (with_reducible repeat (first | refine blk_drewN ?_ _ | refine blk_drew ?_ | refine blk_alloc ?_ _)); exact BK315.out) hg (Kd.R_away HO318.out (fun _ hk => hk.2))); have n3_ := Aside0.mk (hb); have n4_ := Aside0.mk (ho); clear BK313; clear BK314; clear BK315; clear HB; clear HO318; have BK313 := n0_; have BK314 := n1_; have BK315 := n2_; have HB := n3_; have HO321 := n4_; clear n0_ n1_ n2_ n3_ n4_; clear ho hb hg hat; obtain ⟨Ao19, co19, eo19⟩ := Kd.R_slice HO321.out; subst eo19; have hcz20_0 : w18.cell? ⟨gb315, 0, none⟩ = some (.string a0) := (blk_cell BK315.out 0).trans rfl; have hcz20_1 : w18.cell? ⟨gb315, 1, none⟩ = some (.int .i64 8) := (blk_cell BK315.out 1).trans rfl; have hcz20_2 : w18.cell? ⟨gb315, 2, none⟩ = some (.bool false) := (blk_cell BK315.out 2).trans rfl; have hcz20_3 : w18.cell? ⟨gb315, 3, none⟩ = some (.int .i64 0) := (blk_cell BK315.out 3).trans rfl; have hcz20_4 : w18.cell? ⟨gb315, 4, none⟩ = some (.int .u64 0) := (blk_cell BK315.out 4).trans rfl; have hcz20_5 : w18.cell? ⟨gb315, 5, none⟩ = some (.float .f64 0) := (blk_cell BK315.out 5).trans rfl; have hcz20_6 : w18.cell? ⟨gb315, 6, none⟩ = some (.string (⟨#[]⟩ : ByteArray)) := (blk_cell BK315.out 6).trans rfl; have hcz20_7 : w18.cell? ⟨gb315, 7, none⟩ = some (.slice Ao15 y316.length co15) := (blk_cell BK315.out 7).trans rfl; have hfz20_0 := blk_frozen BK315.out 0; have hfz20_1 := blk_frozen BK315.out 1; have hfz20_2 := blk_frozen BK315.out 2; have hfz20_3 := blk_frozen BK315.out 3; have hfz20_4 := blk_frozen BK315.out 4; have hfz20_5 := blk_frozen BK315.out 5; have hfz20_6 := blk_frozen BK315.out 6; have hfz20_7 := blk_frozen BK315.out 7; have hcz21_0 : w18.cell? ⟨gb313, 0, none⟩ = some (.float .f64 a1_0) := (blk_cell BK313.out 0).trans rfl; have hcz21_1 : w18.cell? ⟨gb313, 1, none⟩ = some (.float .f64 a1_1) := (blk_cell BK313.out 1).trans rfl; have hcz21_2 : w18.cell? ⟨gb313, 2, none⟩ = some (.float .f64 a1_2) := (blk_cell BK313.out 2).trans rfl; have hfz21_0 := blk_frozen BK313.out 0; have hfz21_1 := blk_frozen BK313.out 1; have hfz21_2 := blk_frozen BK313.out 2) | ((with_reducible refine gate_builtin (b := .append) (xs := #[.tmp 25, .tmp 29]) rfl ?_); at_builtin; refine Kd.R_append k43 (w0 := w) w.heap.size rfl (.tmp 25) (.tmp 29) 41 43 (.agg #[(.string ⟨#[]⟩), (.int .i64 0), (.bool false), (.int .i64 0), (.int .u64 0), (.float .f64 0), (.string ⟨#[]⟩), (.slice none 0 0)]) 96 rfl Tryz.underlying41 info43 rfl (by decide) (by omega) (.slice Ao19 y319.length co19) y319 (⟨(⟨#[76, 111, 97, 100, 49, 53]⟩ : ByteArray), 4, false, 0, 0, a1_2, (⟨#[]⟩ : ByteArray), ([] : List (S43))⟩ : S43) [.string (⟨#[76, 111, 97, 100, 49, 53]⟩ : ByteArray), .int .i64 4, .bool false, .int .i64 0, .int .u64 0, .float .f64 a1_2, .string (⟨#[]⟩ : ByteArray), .slice none 0 0] (fun k_ => k_ ≠ gb314 ∧ k_ ≠ gb315) (fun k_ => ((fun k_ => k_ ≠ gb314 ∧ k_ ≠ gb315)) k_ ∧ some k_ ≠ (.slice Ao19 y319.length co19 : Value).ownBlock) rfl (by first | (go_simp; done) | (go_simp; rfl)) ?aP (fun _ hk => hk) ?aF ?aO ?aB ?aS ?aL ?_; (case aP => exact k43_mkM _ _ _ (⟨(⟨#[76, 111, 97, 100, 49, 53]⟩ : ByteArray), 4, false, 0, 0, a1_2, (⟨#[]⟩ : ByteArray), ([] : List (S43))⟩ : S43) (Kd.R_nil _ _ _ _ _)); (case aB => exact (by repeat (first | (with_reducible first | exact HB.out | apply below_alloc | apply pw_below_drewN | apply below_drew1 | refine below_set ?_ GE313.out | refine below_set ?_ GE314.out | refine below_set ?_ GE315.out) | exact HB.out))); (case aF => exact (fun k_ hk => ⟨Kd.freshB (g := gb314) (o := .cells #[.string (⟨#[]⟩ : ByteArray), .int .i64 0, .bool false, .int .i64 0, .int .u64 0, .float .f64 0, .string (⟨#[]⟩ : ByteArray), .slice none 0 0] 43 (0, 0)) (by (with_reducible repeat (first | refine blk_drewN ?_ _ | refine blk_drew ?_ | refine blk_alloc ?_ _)); refine blk_far ?_ NB314_315.out _; (with_reducible repeat (first | refine blk_drewN ?_ _ | refine blk_drew ?_ | refine blk_alloc ?_ _)); exact BK314.out) k_ hk, Kd.freshB (g := gb315) (o := .cells #[.string a0, .int .i64 8, .bool false, .int .i64 0, .int .u64 0, .float .f64 0, .string (⟨#[]⟩ : ByteArray), .slice Ao19 y319.length co19] 43 (0, 0)) (by (with_reducible repeat (first | refine blk_drewN ?_ _ | refine blk_drew ?_ | refine blk_alloc ?_ _)); refine blk_put (cs := #[.string a0, .int .i64 8, .bool false, .int .i64 0, .int .u64 0, .float .f64 0, .string (⟨#[]⟩ : ByteArray), .slice Ao15 y316.length co15]) ?_ 7 _ rfl; (with_reducible repeat (first | refine blk_drewN ?_ _ | refine blk_drew ?_ | refine blk_alloc ?_ _)); exact BK315.out) k_ hk⟩)); (case aO => exact (by (with_reducible repeat (first | apply Kd.R_alloc | apply Kd.R_drewN | apply Kd.R_drew)); exact Kd.R_mono (Kd.R_far (p := ⟨gb315, 7, none⟩) (Kd.R_mono HO321.out (fun k_ hk => (⟨hk, hk.2⟩ : _ ∧ k_ ≠ gb315))) (fun _ hk => hk.2) (.slice Ao19 y319.length co19)) (fun _ hk => ⟨hk.1.1, hk.1.2⟩))); (case aS => exact (below_size (by repeat (first | (with_reducible first | exact HB.out | apply below_alloc | apply pw_below_drewN | apply below_drew1 | refine below_set ?_ GE313.out | refine below_set ?_ GE314.out | refine below_set ?_ GE315.out) | exact HB.out)))); (case aL => have := LMc5.out; omega); intro v323 w22 ho hb hg hat; rw [← Ny322.out] at ho; have n0_ := Aside0.mk (blk_grown (g := gb313) (o := .cells #[.float .f64 a1_0, .float .f64 a1_1, .float .f64 a1_2] 62 (0, 0)) (by (with_reducible repeat (first | refine blk_drewN ?_ _ | refine blk_drew ?_ | refine blk_alloc ?_ _)); refine blk_far ?_ NB313_315.out _; (with_reducible repeat (first | refine blk_drewN ?_ _ | refine blk_drew ?_ | refine blk_alloc ?_ _)); exact BK313.out) hg (Kd.R_ne HO321.out BK313.out (by decide))); have n1_ := Aside0.mk (blk_grown (g := gb314) (o := .cells #[.string (⟨#[]⟩ : ByteArray), .int .i64 0, .bool false, .int .i64 0, .int .u64 0, .float .f64 0, .string (⟨#[]⟩ : ByteArray), .slice none 0 0] 43 (0, 0)) (by (with_reducible repeat (first | refine blk_drewN ?_ _ | refine blk_drew ?_ | refine blk_alloc ?_ _)); refine blk_far ?_ NB314_315.out _; (with_reducible repeat (first | refine blk_drewN ?_ _ | refine blk_drew ?_ | refine blk_alloc ?_ _)); exact BK314.out) hg (Kd.R_away HO321.out (fun _ hk => hk.1))); have n2_ := Aside0.mk (blk_grown (g := gb315) (o := .cells #[.string a0, .int .i64 8, .bool false, .int .i64 0, .int .u64 0, .float .f64 0, .string (⟨#[]⟩ : ByteArray), .slice Ao19 y319.length co19] 43 (0, 0)) (by (with_reducible repeat (first | refine blk_drewN ?_ _ | refine blk_drew ?_ | refine blk_alloc ?_ _)); refine blk_put (cs := #[.string a0, .int .i64 8, .bool false, .int .i64 0, .int .u64 0, .float .f64 0, .string (⟨#[]⟩ : ByteArray), .slice Ao15 y316.length co15]) ?_ 7 _ rfl; (with_reducible repeat (first | refine blk_drewN ?_ _ | refine blk_drew ?_ | refine blk_alloc ?_ _)); exact BK315.out) hg (Kd.R_away HO321.out (fun _ hk => hk.2))); have n3_ := Aside0.mk (hb); have n4_ := Aside0.mk (ho); clear BK313; clear BK314; clear BK315; clear HB; clear HO321; have BK313 := n0_; have BK314 := n1_; have BK315 := n2_; have HB := n3_; have HO324 := n4_; clear n0_ n1_ n2_ n3_ n4_; clear ho hb hg hat; obtain ⟨Ao23, co23, eo23⟩ := Kd.R_slice HO324.out; subst eo23; have hcz24_0 : w22.cell? ⟨gb315, 0, none⟩ = some (.string a0) := (blk_cell BK315.out 0).trans rfl; have hcz24_1 : w22.cell? ⟨gb315, 1, none⟩ = some (.int .i64 8) := (blk_cell BK315.out 1).trans rfl; have hcz24_2 : w22.cell? ⟨gb315, 2, none⟩ = some (.bool false) := (blk_cell BK315.out 2).trans rfl; have hcz24_3 : w22.cell? ⟨gb315, 3, none⟩ = some (.int .i64 0) := (blk_cell BK315.out 3).trans rfl; have hcz24_4 : w22.cell? ⟨gb315, 4, none⟩ = some (.int .u64 0) := (blk_cell BK315.out 4).trans rfl; have hcz24_5 : w22.cell? ⟨gb315, 5, none⟩ = some (.float .f64 0) := (blk_cell BK315.out 5).trans rfl; have hcz24_6 : w22.cell? ⟨gb315, 6, none⟩ = some (.string (⟨#[]⟩ : ByteArray)) := (blk_cell BK315.out 6).trans rfl; have hcz24_7 : w22.cell? ⟨gb315, 7, none⟩ = some (.slice Ao19 y319.length co19) := (blk_cell BK315.out 7).trans rfl; have hfz24_0 := blk_frozen BK315.out 0; have hfz24_1 := blk_frozen BK315.out 1; have hfz24_2 := blk_frozen BK315.out 2; have hfz24_3 := blk_frozen BK315.out 3; have hfz24_4 := blk_frozen BK315.out 4; have hfz24_5 := blk_frozen BK315.out 5; have hfz24_6 := blk_frozen BK315.out 6; have hfz24_7 := blk_frozen BK315.out 7; have hcz25_0 : w22.cell? ⟨gb314, 0, none⟩ = some (.string (⟨#[]⟩ : ByteArray)) := (blk_cell BK314.out 0).trans rfl; have hcz25_1 : w22.cell? ⟨gb314, 1, none⟩ = some (.int .i64 0) := (blk_cell BK314.out 1).trans rfl; have hcz25_2 : w22.cell? ⟨gb314, 2, none⟩ = some (.bool false) := (blk_cell BK314.out 2).trans rfl; have hcz25_3 : w22.cell? ⟨gb314, 3, none⟩ = some (.int .i64 0) := (blk_cell BK314.out 3).trans rfl; have hcz25_4 : w22.cell? ⟨gb314, 4, none⟩ = some (.int .u64 0) := (blk_cell BK314.out 4).trans rfl; have hcz25_5 : w22.cell? ⟨gb314, 5, none⟩ = some (.float .f64 0) := (blk_cell BK314.out 5).trans rfl; have hcz25_6 : w22.cell? ⟨gb314, 6, none⟩ = some (.string (⟨#[]⟩ : ByteArray)) := (blk_cell BK314.out 6).trans rfl; have hcz25_7 : w22.cell? ⟨gb314, 7, none⟩ = some (.slice none 0 0) := (blk_cell BK314.out 7).trans rfl; have hfz25_0 := blk_frozen BK314.out 0; have hfz25_1 := blk_frozen BK314.out 1; have hfz25_2 := blk_frozen BK314.out 2; have hfz25_3 := blk_frozen BK314.out 3; have hfz25_4 := blk_frozen BK314.out 4; have hfz25_5 := blk_frozen BK314.out 5; have hfz25_6 := blk_frozen BK314.out 6; have hfz25_7 := blk_frozen BK314.out 7))
 refine bodyPost_ret (results_cell_row rfl _ _ gb314 43 #[.string a0, .int .i64 8, .bool false, .int .i64 0, .int .u64 0, .float .f64 0, .string (⟨#[]⟩ : ByteArray), .slice Ao23 y322.length co23] (0, 0) _ rfl (by (with_reducible repeat (first | refine blk_drewN ?_ _ | refine blk_drew ?_ | refine blk_alloc ?_ _)); refine blk_put (cs := #[.string a0, .int .i64 8, .bool false, .int .i64 0, .int .u64 0, .float .f64 0, .string (⟨#[]⟩ : ByteArray), .slice none 0 0]) ?_ 7 _ rfl; (with_reducible repeat (first | refine blk_drewN ?_ _ | refine blk_drew ?_ | refine blk_alloc ?_ _)); refine blk_put (cs := #[.string a0, .int .i64 8, .bool false, .int .i64 0, .int .u64 0, .float .f64 0, .string (⟨#[]⟩ : ByteArray), .slice none 0 0]) ?_ 6 _ rfl; (with_reducible repeat (first | refine blk_drewN ?_ _ | refine blk_drew ?_ | refine blk_alloc ?_ _)); refine blk_put (cs := #[.string a0, .int .i64 8, .bool false, .int .i64 0, .int .u64 0, .float .f64 0, .string (⟨#[]⟩ : ByteArray), .slice none 0 0]) ?_ 5 _ rfl; (with_reducible repeat (first | refine blk_drewN ?_ _ | refine blk_drew ?_ | refine blk_alloc ?_ _)); refine blk_put (cs := #[.string a0, .int .i64 8, .bool false, .int .i64 0, .int .u64 0, .float .f64 0, .string (⟨#[]⟩ : ByteArray), .slice none 0 0]) ?_ 4 _ rfl; (with_reducible repeat (first | refine blk_drewN ?_ _ | refine blk_drew ?_ | refine blk_alloc ?_ _)); refine blk_put (cs := #[.string a0, .int .i64 8, .bool false, .int .i64 0, .int .u64 0, .float .f64 0, .string (⟨#[]⟩ : ByteArray), .slice none 0 0]) ?_ 3 _ rfl; (with_reducible repeat (first | refine blk_drewN ?_ _ | refine blk_drew ?_ | refine blk_alloc ?_ _)); refine blk_put (cs := #[.string a0, .int .i64 8, .bool false, .int .i64 0, .int .u64 0, .float .f64 0, .string (⟨#[]⟩ : ByteArray), .slice none 0 0]) ?_ 2 _ rfl; (with_reducible repeat (first | refine blk_drewN ?_ _ | refine blk_drew ?_ | refine blk_alloc ?_ _)); refine blk_put (cs := #[.string a0, .int .i64 0, .bool false, .int .i64 0, .int .u64 0, .float .f64 0, .string (⟨#[]⟩ : ByteArray), .slice none 0 0]) ?_ 1 _ rfl; (with_reducible repeat (first | refine blk_drewN ?_ _ | refine blk_drew ?_ | refine blk_alloc ?_ _)); refine blk_put (cs := #[.string (⟨#[]⟩ : ByteArray), .int .i64 0, .bool false, .int .i64 0, .int .u64 0, .float .f64 0, .string (⟨#[]⟩ : ByteArray), .slice none 0 0]) ?_ 0 _ rfl; (with_reducible repeat (first | refine blk_drewN ?_ _ | refine blk_drew ?_ | refine blk_alloc ?_ _)); refine blk_far ?_ NB314_315.out _; (with_reducible repeat (first | refine blk_drewN ?_ _ | refine blk_drew ?_ | refine blk_alloc ?_ _)); exact BK314.out) Tryz.underlying43 rfl (by kernel_rfl)) rfl ?_
 exact ⟨_, by first | rfl | (simp [errW_none, errW_some] <;> rfl) | (simp [*, errW_none, errW_some] <;> rfl), by (with_reducible repeat (first | apply Kd.R_alloc | apply Kd.R_drewN | apply Kd.R_drew)); exact Kd.R_mono (Kd.R_far (p := ⟨gb314, 7, none⟩) (Kd.R_far (p := ⟨gb314, 6, none⟩) (Kd.R_far (p := ⟨gb314, 5, none⟩) (Kd.R_far (p := ⟨gb314, 4, none⟩) (Kd.R_far (p := ⟨gb314, 3, none⟩) (Kd.R_far (p := ⟨gb314, 2, none⟩) (Kd.R_far (p := ⟨gb314, 1, none⟩) (Kd.R_far (p := ⟨gb314, 0, none⟩) (Kd.R_far (p := ⟨gb315, 7, none⟩) (Kd.R_mono (Kd.R_mono HO324.out (fun k_ hk => (⟨hk, hk.2⟩ : _ ∧ k_ ≠ gb315))) (fun k_ hk => (⟨hk, hk.1.1⟩ : _ ∧ k_ ≠ gb314))) (fun _ hk => hk.1.2) (.slice Ao23 y322.length co23)) (fun _ hk => hk.2) (.string a0)) (fun _ hk => hk.2) (.int .i64 8)) (fun _ hk => hk.2) (.bool false)) (fun _ hk => hk.2) (.int .i64 0)) (fun _ hk => hk.2) (.int .u64 0)) (fun _ hk => hk.2) (.float .f64 0)) (fun _ hk => hk.2) (.string (⟨#[]⟩ : ByteArray))) (fun _ hk => hk.2) (.slice Ao23 y322.length co23)) (fun _ hk => trivial), by repeat (first | (with_reducible first | exact HB.out | apply below_alloc | apply pw_below_drewN | apply below_drew1 | refine below_set ?_ GE313.out | refine below_set ?_ GE314.out | refine below_set ?_ GE315.out) | exact HB.out)⟩
/-! ### procfs_TextFS: function 57 -/
def procfs_TextFS.f (a0 : ByteArray) : Option (ByteArray) := some a0
set_option maxHeartbeats 8000000 in
set_option maxRecDepth 100000 in
theorem procfs_TextFS.calls (a0 : ByteArray) (r : ByteArray) (w : World) (h : procfs_TextFS.f a0 = some r) :
  Calls Tryz.prog 57 #[.string a0] w fun e w' => e = .returned (.agg #[.string r]) ∧ Below w.heap.size w w' := by
 have hu58 := Tryz.underlying58
 have HB := Aside0.mk (Below.refl w.heap.size w)
 have H : (some a0) = some r := h
 clear h
 obtain rfl := Option.some.inj H
 go_enter Tryz.func57, Tryz.ntmps57
 go_wp2_with (first | ((with_reducible refine gate_dst (N := 2) rfl ?_); refine box_event ?hg (N := 2) ?hd (cs := #[.string (⟨#[]⟩ : ByteArray)]) (t := 58) ?hr ?_; (case hd => rfl); (case hg => rfl); (case hr => first | (go_simp; done) | (go_simp; rfl)); intro gb325 hg w2 hbox hb; have n0_ := Aside0.mk (below_step (by repeat (first | (with_reducible first | exact HB.out | apply below_alloc | apply pw_below_drewN | apply below_drew1) | exact HB.out)) hb); have n1_ := Aside0.mk (hbox); have n2_ := Aside0.mk ((by rw [hg]; exact (below_size (by repeat (first | (with_reducible first | exact HB.out | apply below_alloc | apply pw_below_drewN | apply below_drew1) | exact HB.out))) : w.heap.size ≤ gb325)); have n3_ := Aside0.mk ((by rw [hg]; exact (below_size (by repeat (first | (with_reducible first | exact HB.out | apply below_alloc | apply pw_below_drewN | apply below_drew1) | exact HB.out))) : w.heap.size ≤ gb325)); clear HB; have HB := n0_; have BK325 := n1_; have GW325 := n2_; have GE325 := n3_; clear n0_ n1_ n2_ n3_; clear hb hbox hg; have hcz3_0 : w2.cell? ⟨gb325, 0, none⟩ = some (.string (⟨#[]⟩ : ByteArray)) := (blk_cell BK325.out 0).trans rfl; have hfz3_0 := blk_frozen BK325.out 0))
 refine bodyPost_ret (results_cell_row rfl _ _ gb325 58 #[.string a0] (0, 0) _ rfl (by (with_reducible repeat (first | refine blk_drewN ?_ _ | refine blk_drew ?_ | refine blk_alloc ?_ _)); refine blk_put (cs := #[.string (⟨#[]⟩ : ByteArray)]) ?_ 0 _ rfl; (with_reducible repeat (first | refine blk_drewN ?_ _ | refine blk_drew ?_ | refine blk_alloc ?_ _)); exact BK325.out) Tryz.underlying58 rfl (by kernel_rfl)) rfl ?_
 exact ⟨by first | rfl | (simp [errW_none, errW_some] <;> rfl) | (simp [*, errW_none, errW_some] <;> rfl), by repeat (first | (with_reducible first | exact HB.out | apply below_alloc | apply pw_below_drewN | apply below_drew1 | refine below_set ?_ GE325.out) | exact HB.out)⟩
end Go.Proofs.YtednjmngalmdkaaGreatDoor.GPC
end
section
/- procfs.parseLoad, FS.LoadAvg: the three loads of a text. Conditions: an ASCII text whose first three words are such numbers (fltF); the tables as laid. -/
namespace Go.Proofs.YtednjmngalmdkaaGreatDoor.GPC
open Go.RowKit Go.Proofs.YtednjmngalmdkaaGreatDoorW.PrintWords Go.Proofs.YtednjmngalmdkaaGreatDoorW.PrintLast Go.Proofs.YtednjmngalmdkaaGreatDoor.PF
set_option linter.unusedVariables false
set_option linter.unusedSimpArgs false
def loadF (l0 : List Int) : Option (Nat × Nat × Nat) := (strings_Fields.f (strOfNums l0)).bind fun ps =>
 if 3 ≤ ps.length then (fltF (rdOf ByteArray.empty ps 0)).bind fun a => (fltF (rdOf ByteArray.empty ps 1)).bind fun b => (fltF (rdOf ByteArray.empty ps 2)).bind fun c => some (a, b, c) else none
theorem loadF_some {l0 : List Int} {a b c : Nat} (h : loadF l0 = some (a, b, c)) : ∃ ps, strings_Fields.f (strOfNums l0) = some ps ∧ 3 ≤ ps.length ∧ fltF (rdOf ByteArray.empty ps 0) = some a ∧ fltF (rdOf ByteArray.empty ps 1) = some b ∧ fltF (rdOf ByteArray.empty ps 2) = some c := by
 unfold loadF at h
 obtain ⟨ps, h1, h⟩ := Option.bind_eq_some_iff.1 h
 split at h
 ·rename_i h3
  obtain ⟨a', ha, h⟩ := Option.bind_eq_some_iff.1 h
  obtain ⟨b', hb, h⟩ := Option.bind_eq_some_iff.1 h
  obtain ⟨c', hc, h⟩ := Option.bind_eq_some_iff.1 h
  simp only [Option.some.injEq, Prod.mk.injEq] at h
  obtain ⟨rfl, rfl, rfl⟩ := h
  exact ⟨ps, h1, h3, ha, hb, hc⟩
 ·cases h
theorem pf1 (s : ByteArray) (r : Nat) (w : World) (hT : TabW w) (h : fltF s = some r) : Calls Tryz.prog 191 #[.string s, .int .i64 64] w fun e w' => e = .returned (.tuple #[.float .f64 r, .nilIface]) ∧ Below w.heap.size w w' :=
 (strconv_ParseFloat.calls s 64 r none w hT (by unfold strconv_ParseFloat.f; rw [if_pos rfl, h]; rfl)).mono fun e w' he => he
def ldCells (a b c : Nat) : Obj := .cells #[.float .f64 a, .float .f64 b, .float .f64 c] 36 (0, 0)
def ldObj (a b c : Nat) : Obj := .cells #[.float .f64 a, .float .f64 b, .float .f64 c] 62 (0, 0)
attribute [local go_sem] run_store_float
def ldAt (a b c : Nat) (x : Int) : Obj := ldCells (if 0 < x then a else 0) (if 1 < x then b else 0) (if 2 < x then c else 0)
theorem ldAt_0 (a b c : Nat) : ldAt a b c 0 = ldCells 0 0 0 := rfl
theorem ldAt_1 (a b c : Nat) : ldAt a b c 1 = ldCells a 0 0 := rfl
theorem ldAt_2 (a b c : Nat) : ldAt a b c 2 = ldCells a b 0 := rfl
theorem ldAt_3 (a b c : Nat) : ldAt a b c 3 = ldCells a b c := rfl
theorem infoF64 : (Tryz.prog.info? 36).map (fun i => (i.zero, i.size, i.bytes)) = some (some (.float .f64 0), 1, 8) := by kernel_rfl
theorem make3 (W : World) : (Instr.makeSlice 73 (.int .i64 3) (.int .i64 3)).run Tryz.prog W = .ok (.slice (some ⟨W.heap.size, 0, none⟩) 3 3) (W.alloc (ldCells 0 0 0)) :=
 by
  have e : Obj.cells (madeCells #[Value.float .f64 0] 3) 36 = ldCells 0 0 0 := by kernel_rfl
  rw [← e]
  exact run_make_row' 73 36 (.float .f64 0) 8 Tryz.underlying73 infoF64 rfl .i64 .i64 3 (by omega) (by omega) W
set_option maxHeartbeats 16000000 in
set_option maxRecDepth 100000 in
theorem parseLoad (A0 : Option Addr) (c0 : Nat) (l0 : List Int) (a b c : Nat) (w : World) (hr0 : Kd.C (Kd.int .u8) w A0 l0.length l0) (hc0 : l0.length ≤ c0) (hT : TabW w) (h : loadF l0 = some (a, b, c)) :
  Calls Tryz.prog 141 #[.slice A0 l0.length c0] w fun e w' => ∃ g, e = .returned (.tuple #[.pointer (some ⟨g, 0, none⟩), .nilIface]) ∧ w.heap.size ≤ g ∧ w'.heap[g]? = some (ldObj a b c) ∧ Below w.heap.size w w' := by
 obtain ⟨ps, hps, h3, ha, hb, hc⟩ := loadF_some h
 have HR0 := Aside0.mk hr0
 have HT := Aside0.mk hT
 have HPS := Aside0.mk hps
 have H3 := Aside0.mk h3
 have HA := Aside0.mk ha
 have HB := Aside0.mk hb
 have HC := Aside0.mk hc
 have d3 : decide ((ps.length : Int) < 3) = false := decide_eq_false (by omega)
 have d3' : decide (ps.length < 3) = false := decide_eq_false (by omega)
 have hcv3 := fun o => Kd.C_string (P := Tryz.prog) (A := A0) (c := c0) Tryz.underlying173 Tryz.underlying5 Tryz.underlying9 (Kd.C_below hr0 (below_alloc (Below.refl w.heap.size w) o))
 have hmk := make3
 have h0G : (w.alloc (ldCells 0 0 0)).heap[w.heap.size]? = some (ldCells 0 0 0) := heap_alloc_new _ _
 have HB0 := Aside0.mk (show Below w.heap.size w (w.alloc (ldCells 0 0 0)) from below_alloc (Below.refl _ _) _)
 have HG0 := Aside0.mk h0G
 clear hr0 hT h hps ha hb hc h0G
 go_enter Tryz.func141, Tryz.ntmps141
 go_wp2_with (first
  | (go_at_call 190; refine (strings_Fields.calls (strOfNums l0) ps _ (tabW_below HT.out HB0.out) HPS.out).mono ?_; rintro e w1 ⟨v0, rfl, hfs, hb4⟩; obtain ⟨gs, cap, rfl, hgs1, hgs2, cells, hcells⟩ := Kd.R_form hfs (by have := H3.out; omega); have hcap := (Kd.R_reads' hfs).2.1; have hcap3 : (3 : Int) ≤ (cap : Int) := by { have := H3.out; omega }; have HFS := Aside0.mk (Kd.R_lower hfs HB0.out.size); have HG1 := Aside0.mk (blk_below HG0.out hb4); have HB1 := Aside0.mk (below_then HB0.out HB0.out.size hb4); clear hfs hb4 hcells))
 go_loopg [6, 20] 3 (fun kq v6 v20 w' => ∃ (x : Int), v6 = .nilIface ∧ v20 = .int .i64 x ∧ Aside0 (0 ≤ x ∧ x + kq = 3) ∧ Aside0 (w'.heap[w.heap.size]? = some (ldAt a b c x)) ∧ Aside0 (Kd.R Kd.string 9 w' w.heap.size (fun _ => True) (.slice (some ⟨gs, 0, none⟩) ps.length cap) ps) ∧ Aside0 (Below w.heap.size w w'))
 case atStart => exact ⟨0, rfl, rfl, ⟨by omega, by omega⟩, HG1, HFS, HB1⟩
 case round =>
  clear HG1 HFS HB1 hcv3 hmk HG0 HB0
  obtain ⟨x, rfl, rfl, HX, HG, HS, HBw⟩ := hrel
  rcases (show x = 0 ∨ x = 1 ∨ x = 2 ∨ x = 3 by have := HX.out; omega) with hx | hx | hx | hx
  ·-- round 0
   subst hx
   have hcs : wr.cell? ⟨gs, 0, none⟩ = some (.string (rdOf ByteArray.empty ps 0)) := (Kd.R_cell ByteArray.empty HS.out 0 (by omega) (by have := H3.out; omega)).1
   have hG1 := HG.out
   simp only [ldAt_0] at hG1
   have HGx := Aside0.mk hG1
   clear hG1
   have hgsw := Kd.R_lt HS.out gs rfl
   go_wp2_with (first
    | (go_at_call 191; refine (pf1 _ a _ (tabW_below HT.out HBw.out) HA.out).mono ?_; rintro e w2 ⟨rfl, hb2⟩; have HG2 := Aside0.mk (blk_below HGx.out hb2); have HS2 := Aside0.mk (Kd.R_below HS.out hb2); have HB2 := Aside0.mk (below_then HBw.out HBw.out.size hb2); have hfz := blk_frozen HG2.out 0; have hcg : w2.cell? ⟨w.heap.size, 0, none⟩ = some (.float .f64 0) := (blk_cell HG2.out 0).trans rfl; clear hb2))
   go_roundg 2
   case measure => have := HX.out; omega
   case rel =>
    refine ⟨1, rfl, rfl, ⟨by omega, by omega⟩, ⟨?_⟩, ⟨Kd.R_set HS2.out HG2.out (by decide) 0 _⟩, ⟨below_set HB2.out (Nat.le_refl _)⟩⟩
    rw [ldAt_1]
    exact blk_put HG2.out 0 _ rfl
  ·-- round 1
   subst hx
   have hcs : wr.cell? ⟨gs, 1, none⟩ = some (.string (rdOf ByteArray.empty ps 1)) := (Kd.R_cell ByteArray.empty HS.out 1 (by omega) (by have := H3.out; omega)).1
   have hG1 := HG.out
   simp only [ldAt_1] at hG1
   have HGx := Aside0.mk hG1
   clear hG1
   have hgsw := Kd.R_lt HS.out gs rfl
   go_wp2_with (first
    | (go_at_call 191; refine (pf1 _ b _ (tabW_below HT.out HBw.out) HB.out).mono ?_; rintro e w2 ⟨rfl, hb2⟩; have HG2 := Aside0.mk (blk_below HGx.out hb2); have HS2 := Aside0.mk (Kd.R_below HS.out hb2); have HB2 := Aside0.mk (below_then HBw.out HBw.out.size hb2); have hfz := blk_frozen HG2.out 1; have hcg : w2.cell? ⟨w.heap.size, 1, none⟩ = some (.float .f64 0) := (blk_cell HG2.out 1).trans rfl; clear hb2))
   go_roundg 1
   case measure => have := HX.out; omega
   case rel =>
    refine ⟨2, rfl, rfl, ⟨by omega, by omega⟩, ⟨?_⟩, ⟨Kd.R_set HS2.out HG2.out (by decide) 1 _⟩, ⟨below_set HB2.out (Nat.le_refl _)⟩⟩
    rw [ldAt_2]
    exact blk_put HG2.out 1 _ rfl
  ·-- round 2
   subst hx
   have hcs : wr.cell? ⟨gs, 2, none⟩ = some (.string (rdOf ByteArray.empty ps 2)) := (Kd.R_cell ByteArray.empty HS.out 2 (by omega) (by have := H3.out; omega)).1
   have hG1 := HG.out
   simp only [ldAt_2] at hG1
   have HGx := Aside0.mk hG1
   clear hG1
   have hgsw := Kd.R_lt HS.out gs rfl
   go_wp2_with (first
    | (go_at_call 191; refine (pf1 _ c _ (tabW_below HT.out HBw.out) HC.out).mono ?_; rintro e w2 ⟨rfl, hb2⟩; have HG2 := Aside0.mk (blk_below HGx.out hb2); have HS2 := Aside0.mk (Kd.R_below HS.out hb2); have HB2 := Aside0.mk (below_then HBw.out HBw.out.size hb2); have hfz := blk_frozen HG2.out 2; have hcg : w2.cell? ⟨w.heap.size, 2, none⟩ = some (.float .f64 0) := (blk_cell HG2.out 2).trans rfl; clear hb2))
   go_roundg 0
   case measure => have := HX.out; omega
   case rel =>
    refine ⟨3, rfl, rfl, ⟨by omega, by omega⟩, ⟨?_⟩, ⟨Kd.R_set HS2.out HG2.out (by decide) 2 _⟩, ⟨below_set HB2.out (Nat.le_refl _)⟩⟩
    rw [ldAt_3]
    exact blk_put HG2.out 2 _ rfl
  ·subst hx
   have hG1 := HG.out
   simp only [ldAt_3] at hG1
   have hc0 : wr.cell? ⟨w.heap.size, 0, none⟩ = some (.float .f64 a) := (blk_cell hG1 0).trans rfl
   have hc1 : wr.cell? ⟨w.heap.size, 1, none⟩ = some (.float .f64 b) := (blk_cell hG1 1).trans rfl
   have hc2 : wr.cell? ⟨w.heap.size, 2, none⟩ = some (.float .f64 c) := (blk_cell hG1 2).trans rfl
   go_wp2
   go_still_tail 10, (by kernel_rfl)
   have HBd := Aside0.mk (below_drew HBw.out)
   clear hc0 hc1 hc2 hG1 HG HS HBw
   change wpList _ _ _ _ _ wr.drew
   generalize wr.drew = W2 at HBd ⊢
   go_wp2
   go_ret2
   exact ⟨_, rfl, HBd.out.size, heap_alloc_new _ _, HBd.out.alloc HBd.out.size _⟩
end Go.Proofs.YtednjmngalmdkaaGreatDoor.GPC
end
section
/- A store of a whole struct into the block that holds it; nodes in memory. Plain laws of the walk. -/
namespace Go.Proofs.YtednjmngalmdkaaGreatDoor.GPC
open Go.RowKit Go.Proofs.YtednjmngalmdkaaGreatDoorW.PrintWords Go.Proofs.YtednjmngalmdkaaGreatDoorW.PrintLast
set_option linter.unusedVariables false
section
variable {P : Program} {ops : Array Oper} {rest : List Oper} {o : Oper} {a : Act} {Q : Exit → Act → World → Prop} {W : World}
theorem box_store (hgd : o.guard = none) (hN : o.dst = none) (t : TypeId) (p x : Operand) (ho : o.op = .store t p x) (g : Nat) (e : TypeId) (cur : Array Value) (u : Value) (seg : List Value)
  (haddr : a.eval p = .pointer (some ⟨g, 0, none⟩)) (hx : a.eval x = u) (hu : u.cells.toList = seg) (ht : (P.info? t).map (·.size) = some seg.length) (h1 : ∀ q ∈ seg, q.oneCell' = true)
  (hh : W.heap[g]? = some (.cells cur e (0, 0))) (hfit : cur.size = seg.length)
  (h : ∀ W', W'.heap[g]? = some (.cells seg.toArray e (0, 0)) → W.grownBy W' (some g) → wpList P ops Q rest a W') : wpList P ops Q (o :: rest) a W := by
 obtain ⟨cur', h3, h4, h5⟩ := setCells_row seg 0 W cur hh (by omega)
 have hc' : cur' = seg.toArray := by
  apply Array.toList_inj.1
  rw [h5, List.take_zero, List.nil_append, List.drop_eq_nil_of_le (by rw [Array.length_toList]; omega), List.append_nil]
 rw [hc'] at h3
 obtain ⟨s1, s2, s3, s4⟩ := setCells_same g seg 0 W
 refine wpList_plain hgd fun K hK => ?_
 have hrun := run_store_run (P := P) (o := 0) t u seg hh hu ht (by omega) h1
 unfold Oper.wp execOp
 simp only [ho, haddr, hx, Sem.run_bind, Sem.run_pure, Result.andThen_ok, hrun]
 show K (a.put o.dst undef) _
 rw [hN]
 exact hK a _ (h _ h3 ⟨s1, s2, s3, Nat.le_of_eq s4.symm, fun k hk hne => setCells_far seg 0 k (fun e' => hne (by rw [e']))⟩)
end
def nodeVal (n : S43) (v7 : Value) : Value := .agg #[.string n.f0, .int .i64 n.f1, .bool n.f2, .int .i64 n.f3, .int .u64 n.f4, .float .f64 n.f5, .string n.f6, v7]
def nodeCells (n : S43) (v7 : Value) : List Value := [.string n.f0, .int .i64 n.f1, .bool n.f2, .int .i64 n.f3, .int .u64 n.f4, .float .f64 n.f5, .string n.f6, v7]
def nodeZero : Array Value := #[.string ⟨#[]⟩, .int .i64 0, .bool false, .int .i64 0, .int .u64 0, .float .f64 0, .string ⟨#[]⟩, .slice none 0 0]
def KidsV (n : S43) (w0 w1 : World) (v7 : Value) : Prop := Kd.R k43 43 w1 w0.heap.size (fun _ => True) v7 n.f7
theorem KidsV.slice {n : S43} {w0 w1 : World} {v7 : Value} (h : KidsV n w0 w1 v7) : ∃ A c, v7 = .slice A n.f7.length c := Kd.R_slice h
theorem KidsV.below {n : S43} {w0 w1 w2 : World} {v7 : Value} (h : KidsV n w0 w1 v7) (hb : Below w1.heap.size w1 w2) : KidsV n w0 w2 v7 := Kd.R_below h hb
theorem KidsV.lower {n : S43} {w0 wa w1 : World} {v7 : Value} (h : KidsV n w0 w1 v7) (hb : wa.heap.size ≤ w0.heap.size) : KidsV n wa w1 v7 := Kd.R_lower h hb
theorem KidsV.grown {n : S43} {w0 w1 w2 : World} {v7 : Value} {g : Nat} (h : KidsV n w0 w1 v7) (hg : w1.grownBy w2 (some g)) (hlt : g < w0.heap.size) : KidsV n w0 w2 v7 :=
 Kd.R_mono (Kd.R_grown (Kd.R_bound h) hg (fun k hk e => by have := hk.2.1; injection e with e; omega)) (fun _ _ => trivial)
theorem node_one {n : S43} {v7 : Value} (h : ∃ A c, v7 = .slice A n.f7.length c) : ∀ q ∈ nodeCells n v7, q.oneCell' = true := by
 obtain ⟨A, c, rfl⟩ := h
 intro q hq
 simp only [nodeCells, List.mem_cons, List.not_mem_nil, or_false] at hq
 rcases hq with rfl | rfl | rfl | rfl | rfl | rfl | rfl | rfl <;> rfl
theorem node_size : (Tryz.prog.info? 43).map (·.size) = some 8 := by kernel_rfl
end Go.Proofs.YtednjmngalmdkaaGreatDoor.GPC
end
