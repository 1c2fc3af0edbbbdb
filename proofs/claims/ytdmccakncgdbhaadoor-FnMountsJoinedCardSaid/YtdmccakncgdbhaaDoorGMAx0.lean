-- printed by gprint.py (a session's own turn of the kit's print): MA
import Derived.Test.YtdmccakncgdbhaaDoorProg
import Derived.Below
import Derived.Deep.Draws
import Derived.Deep.AppendLies
import Derived.Maps.AppendAt
import Derived.OwnWalk
import Derived.Laws.BytesArg
import Derived.Laws.MakeOwn
import Derived.Laws.OwnMore
import Derived.Deep.OwnRows
import Derived.Tactics
import Derived.Lib.ConvBytes
import Derived.Laws.Slices
import Derived.WalkKit
import Derived.KernelRfl
import Derived.RowKit3
import Derived.Deep.LoopGhost
import Derived.Deep.QuietTactic
import Derived.BigQuiet
import Derived.WideLaws
import Derived.Deep.DeepCutAuto
import Derived.Deep.CutBlock
import Derived.Deep.RegionHeld3
import Derived.Laws.Rows
import Derived.Lib.AppendStr
import Derived.ArgAppend
import Derived.Laws.IdiomCopy
import Derived.OrdersHeld
import Derived.Laws.BitsLemmas
import Derived.RowKit
import Derived.Test.YtdmccakncgdbhaaDoorWCut
namespace Go.Proofs.YtdmccakncgdbhaaDoor.GMA
open Go.RowKit Go.Proofs.YtdmccakncgdbhaaDoorW.PrintWords Go.Proofs.YtdmccakncgdbhaaDoorW.PrintLast Go.Proofs.YtdmccakncgdbhaaDoorW.PrintMore
attribute [local go_sem] max2_int min2_int max_two min_two max_three min_three max_four min_four   -- for this text's walks alone
set_option linter.unusedVariables false
set_option linter.unusedSimpArgs false



def errW : Option Int → Value
  | none => .nilIface
  | some c => .iface 0 (.int .i64 c)
theorem errW_none : errW none = .nilIface := rfl
theorem errW_some (c : Int) : errW (some c) = .iface 0 (.int .i64 c) := rfl

theorem info3 : (Tryd.prog.info? 3).map (fun i => (i.zero, i.size, i.bytes)) = some (some (.int .i64 0), 1, 8) := by kernel_rfl
theorem info5 : (Tryd.prog.info? 5).map (fun i => (i.zero, i.size, i.bytes)) = some (some (.int .u8 0), 1, 1) := by kernel_rfl
theorem info9 : (Tryd.prog.info? 9).map (fun i => (i.zero, i.size, i.bytes)) = some (some (.string ⟨#[]⟩), 1, 16) := by kernel_rfl
theorem info36 : (Tryd.prog.info? 36).map (fun i => (i.zero, i.size, i.bytes)) = some (some (.agg #[(.int .i64 0), (.int .i64 0), (.int .i64 0), (.int .i64 0), (.string ⟨#[]⟩), (.string ⟨#[]⟩), (.string ⟨#[]⟩), (.string ⟨#[]⟩), (.string ⟨#[]⟩), (.string ⟨#[]⟩), (.string ⟨#[]⟩)]), 11, 144) := by kernel_rfl
-- the values' own types
/-! #### struct type 36 -/
structure S36 where
  f0 : Int
  f1 : Int
  f2 : Int
  f3 : Int
  f4 : ByteArray
  f5 : ByteArray
  f6 : ByteArray
  f7 : ByteArray
  f8 : ByteArray
  f9 : ByteArray
  f10 : ByteArray
def z36 : S36 := ⟨(0 : Int), (0 : Int), (0 : Int), (0 : Int), (⟨#[]⟩ : ByteArray), (⟨#[]⟩ : ByteArray), (⟨#[]⟩ : ByteArray), (⟨#[]⟩ : ByteArray), (⟨#[]⟩ : ByteArray), (⟨#[]⟩ : ByteArray), (⟨#[]⟩ : ByteArray)⟩
def k36 : Kd S36 := Kd.iso (Kd.pair (Kd.int .i64) (Kd.pair (Kd.int .i64) (Kd.pair (Kd.int .i64) (Kd.pair (Kd.int .i64) (Kd.pair Kd.string (Kd.pair Kd.string (Kd.pair Kd.string (Kd.pair Kd.string (Kd.pair Kd.string (Kd.pair Kd.string Kd.string)))))))))) (fun x : S36 => (x.f0, x.f1, x.f2, x.f3, x.f4, x.f5, x.f6, x.f7, x.f8, x.f9, x.f10))
theorem k36_open {w : World} {x : S36} {cs : List Value} (h : k36.K w x cs) : cs = [.int .i64 x.f0, .int .i64 x.f1, .int .i64 x.f2, .int .i64 x.f3, .string x.f4, .string x.f5, .string x.f6, .string x.f7, .string x.f8, .string x.f9, .string x.f10] := by
  obtain ⟨_, _, rfl, rfl, ⟨_, _, rfl, rfl, ⟨_, _, rfl, rfl, ⟨_, _, rfl, rfl, ⟨_, _, rfl, rfl, ⟨_, _, rfl, rfl, ⟨_, _, rfl, rfl, ⟨_, _, rfl, rfl, ⟨_, _, rfl, rfl, ⟨_, _, rfl, rfl, rfl⟩⟩⟩⟩⟩⟩⟩⟩⟩⟩ := h
  exact rfl
theorem k36_openM {w : World} {base : Nat} {ok : Nat → Prop} {x : S36} {cs : List Value} (h : k36.M w base ok x cs) : cs = [.int .i64 x.f0, .int .i64 x.f1, .int .i64 x.f2, .int .i64 x.f3, .string x.f4, .string x.f5, .string x.f6, .string x.f7, .string x.f8, .string x.f9, .string x.f10] := by
  obtain ⟨_, _, rfl, rfl, ⟨_, _, rfl, rfl, ⟨_, _, rfl, rfl, ⟨_, _, rfl, rfl, ⟨_, _, rfl, rfl, ⟨_, _, rfl, rfl, ⟨_, _, rfl, rfl, ⟨_, _, rfl, rfl, ⟨_, _, rfl, rfl, ⟨_, _, rfl, rfl, rfl⟩⟩⟩⟩⟩⟩⟩⟩⟩⟩ := h
  exact rfl
theorem k36_mk (w : World) (x : S36)  : k36.K w x [.int .i64 x.f0, .int .i64 x.f1, .int .i64 x.f2, .int .i64 x.f3, .string x.f4, .string x.f5, .string x.f6, .string x.f7, .string x.f8, .string x.f9, .string x.f10] := ⟨[.int .i64 x.f0], [.int .i64 x.f1, .int .i64 x.f2, .int .i64 x.f3, .string x.f4, .string x.f5, .string x.f6, .string x.f7, .string x.f8, .string x.f9, .string x.f10], rfl, rfl, ⟨[.int .i64 x.f1], [.int .i64 x.f2, .int .i64 x.f3, .string x.f4, .string x.f5, .string x.f6, .string x.f7, .string x.f8, .string x.f9, .string x.f10], rfl, rfl, ⟨[.int .i64 x.f2], [.int .i64 x.f3, .string x.f4, .string x.f5, .string x.f6, .string x.f7, .string x.f8, .string x.f9, .string x.f10], rfl, rfl, ⟨[.int .i64 x.f3], [.string x.f4, .string x.f5, .string x.f6, .string x.f7, .string x.f8, .string x.f9, .string x.f10], rfl, rfl, ⟨[.string x.f4], [.string x.f5, .string x.f6, .string x.f7, .string x.f8, .string x.f9, .string x.f10], rfl, rfl, ⟨[.string x.f5], [.string x.f6, .string x.f7, .string x.f8, .string x.f9, .string x.f10], rfl, rfl, ⟨[.string x.f6], [.string x.f7, .string x.f8, .string x.f9, .string x.f10], rfl, rfl, ⟨[.string x.f7], [.string x.f8, .string x.f9, .string x.f10], rfl, rfl, ⟨[.string x.f8], [.string x.f9, .string x.f10], rfl, rfl, ⟨[.string x.f9], [.string x.f10], rfl, rfl, rfl⟩⟩⟩⟩⟩⟩⟩⟩⟩⟩
theorem k36_mkM (w : World) (base : Nat) (ok : Nat → Prop) (x : S36)  : k36.M w base ok x [.int .i64 x.f0, .int .i64 x.f1, .int .i64 x.f2, .int .i64 x.f3, .string x.f4, .string x.f5, .string x.f6, .string x.f7, .string x.f8, .string x.f9, .string x.f10] := ⟨[.int .i64 x.f0], [.int .i64 x.f1, .int .i64 x.f2, .int .i64 x.f3, .string x.f4, .string x.f5, .string x.f6, .string x.f7, .string x.f8, .string x.f9, .string x.f10], rfl, rfl, ⟨[.int .i64 x.f1], [.int .i64 x.f2, .int .i64 x.f3, .string x.f4, .string x.f5, .string x.f6, .string x.f7, .string x.f8, .string x.f9, .string x.f10], rfl, rfl, ⟨[.int .i64 x.f2], [.int .i64 x.f3, .string x.f4, .string x.f5, .string x.f6, .string x.f7, .string x.f8, .string x.f9, .string x.f10], rfl, rfl, ⟨[.int .i64 x.f3], [.string x.f4, .string x.f5, .string x.f6, .string x.f7, .string x.f8, .string x.f9, .string x.f10], rfl, rfl, ⟨[.string x.f4], [.string x.f5, .string x.f6, .string x.f7, .string x.f8, .string x.f9, .string x.f10], rfl, rfl, ⟨[.string x.f5], [.string x.f6, .string x.f7, .string x.f8, .string x.f9, .string x.f10], rfl, rfl, ⟨[.string x.f6], [.string x.f7, .string x.f8, .string x.f9, .string x.f10], rfl, rfl, ⟨[.string x.f7], [.string x.f8, .string x.f9, .string x.f10], rfl, rfl, ⟨[.string x.f8], [.string x.f9, .string x.f10], rfl, rfl, ⟨[.string x.f9], [.string x.f10], rfl, rfl, rfl⟩⟩⟩⟩⟩⟩⟩⟩⟩⟩
def rd_T36 (xs : List S36) (i : Int) : S36 := xs.getD i.toNat z36
theorem at_T36 {w : World} {A : Option Addr} {n : Nat} {xs : List S36} (h : Kd.C k36 w A n xs) (i : Int) (h0 : 0 ≤ i) (h1 : i < n) : ∃ ad , A = some ad ∧ w.cell? (ad.add (i.toNat * 11)) = some (.int .i64 (rd_T36 xs i).f0) ∧ w.cell? ⟨(ad.add (i.toNat * 11)).block, (ad.add (i.toNat * 11)).off + 1, none⟩ = some (.int .i64 (rd_T36 xs i).f1) ∧ w.cell? ⟨(ad.add (i.toNat * 11)).block, (ad.add (i.toNat * 11)).off + 2, none⟩ = some (.int .i64 (rd_T36 xs i).f2) ∧ w.cell? ⟨(ad.add (i.toNat * 11)).block, (ad.add (i.toNat * 11)).off + 3, none⟩ = some (.int .i64 (rd_T36 xs i).f3) ∧ w.cell? ⟨(ad.add (i.toNat * 11)).block, (ad.add (i.toNat * 11)).off + 4, none⟩ = some (.string (rd_T36 xs i).f4) ∧ w.cell? ⟨(ad.add (i.toNat * 11)).block, (ad.add (i.toNat * 11)).off + 5, none⟩ = some (.string (rd_T36 xs i).f5) ∧ w.cell? ⟨(ad.add (i.toNat * 11)).block, (ad.add (i.toNat * 11)).off + 6, none⟩ = some (.string (rd_T36 xs i).f6) ∧ w.cell? ⟨(ad.add (i.toNat * 11)).block, (ad.add (i.toNat * 11)).off + 7, none⟩ = some (.string (rd_T36 xs i).f7) ∧ w.cell? ⟨(ad.add (i.toNat * 11)).block, (ad.add (i.toNat * 11)).off + 8, none⟩ = some (.string (rd_T36 xs i).f8) ∧ w.cell? ⟨(ad.add (i.toNat * 11)).block, (ad.add (i.toNat * 11)).off + 9, none⟩ = some (.string (rd_T36 xs i).f9) ∧ w.cell? ⟨(ad.add (i.toNat * 11)).block, (ad.add (i.toNat * 11)).off + 10, none⟩ = some (.string (rd_T36 xs i).f10) := by
  obtain ⟨ad, c, e, _, hK, hc0⟩ := Kd.C_get h z36 i h0 h1
  have hc : ∀ j u, c[j]? = some u → w.cell? (ad.add (i.toNat * 11 + j)) = some u := hc0
  obtain rfl := k36_open hK
  exact ⟨ad, e, hc 0 _ rfl, by rw [← add_field _ _ 1 (by omega)]; exact hc 1 _ rfl, by rw [← add_field _ _ 2 (by omega)]; exact hc 2 _ rfl, by rw [← add_field _ _ 3 (by omega)]; exact hc 3 _ rfl, by rw [← add_field _ _ 4 (by omega)]; exact hc 4 _ rfl, by rw [← add_field _ _ 5 (by omega)]; exact hc 5 _ rfl, by rw [← add_field _ _ 6 (by omega)]; exact hc 6 _ rfl, by rw [← add_field _ _ 7 (by omega)]; exact hc 7 _ rfl, by rw [← add_field _ _ 8 (by omega)]; exact hc 8 _ rfl, by rw [← add_field _ _ 9 (by omega)]; exact hc 9 _ rfl, by rw [← add_field _ _ 10 (by omega)]; exact hc 10 _ rfl⟩

/-! #### struct type 58 -/
structure S58 where
  f0 : Int
  f1 : Int
  f2 : Int
  f3 : Int
  f4 : ByteArray
  f5 : ByteArray
  f6 : ByteArray
  f7 : ByteArray
  f8 : ByteArray
  f9 : ByteArray
  f10 : ByteArray
def z58 : S58 := ⟨(0 : Int), (0 : Int), (0 : Int), (0 : Int), (⟨#[]⟩ : ByteArray), (⟨#[]⟩ : ByteArray), (⟨#[]⟩ : ByteArray), (⟨#[]⟩ : ByteArray), (⟨#[]⟩ : ByteArray), (⟨#[]⟩ : ByteArray), (⟨#[]⟩ : ByteArray)⟩
def k58 : Kd S58 := Kd.iso (Kd.pair (Kd.int .i64) (Kd.pair (Kd.int .i64) (Kd.pair (Kd.int .i64) (Kd.pair (Kd.int .i64) (Kd.pair Kd.string (Kd.pair Kd.string (Kd.pair Kd.string (Kd.pair Kd.string (Kd.pair Kd.string (Kd.pair Kd.string Kd.string)))))))))) (fun x : S58 => (x.f0, x.f1, x.f2, x.f3, x.f4, x.f5, x.f6, x.f7, x.f8, x.f9, x.f10))
theorem k58_open {w : World} {x : S58} {cs : List Value} (h : k58.K w x cs) : cs = [.int .i64 x.f0, .int .i64 x.f1, .int .i64 x.f2, .int .i64 x.f3, .string x.f4, .string x.f5, .string x.f6, .string x.f7, .string x.f8, .string x.f9, .string x.f10] := by
  obtain ⟨_, _, rfl, rfl, ⟨_, _, rfl, rfl, ⟨_, _, rfl, rfl, ⟨_, _, rfl, rfl, ⟨_, _, rfl, rfl, ⟨_, _, rfl, rfl, ⟨_, _, rfl, rfl, ⟨_, _, rfl, rfl, ⟨_, _, rfl, rfl, ⟨_, _, rfl, rfl, rfl⟩⟩⟩⟩⟩⟩⟩⟩⟩⟩ := h
  exact rfl
theorem k58_openM {w : World} {base : Nat} {ok : Nat → Prop} {x : S58} {cs : List Value} (h : k58.M w base ok x cs) : cs = [.int .i64 x.f0, .int .i64 x.f1, .int .i64 x.f2, .int .i64 x.f3, .string x.f4, .string x.f5, .string x.f6, .string x.f7, .string x.f8, .string x.f9, .string x.f10] := by
  obtain ⟨_, _, rfl, rfl, ⟨_, _, rfl, rfl, ⟨_, _, rfl, rfl, ⟨_, _, rfl, rfl, ⟨_, _, rfl, rfl, ⟨_, _, rfl, rfl, ⟨_, _, rfl, rfl, ⟨_, _, rfl, rfl, ⟨_, _, rfl, rfl, ⟨_, _, rfl, rfl, rfl⟩⟩⟩⟩⟩⟩⟩⟩⟩⟩ := h
  exact rfl
theorem k58_mk (w : World) (x : S58)  : k58.K w x [.int .i64 x.f0, .int .i64 x.f1, .int .i64 x.f2, .int .i64 x.f3, .string x.f4, .string x.f5, .string x.f6, .string x.f7, .string x.f8, .string x.f9, .string x.f10] := ⟨[.int .i64 x.f0], [.int .i64 x.f1, .int .i64 x.f2, .int .i64 x.f3, .string x.f4, .string x.f5, .string x.f6, .string x.f7, .string x.f8, .string x.f9, .string x.f10], rfl, rfl, ⟨[.int .i64 x.f1], [.int .i64 x.f2, .int .i64 x.f3, .string x.f4, .string x.f5, .string x.f6, .string x.f7, .string x.f8, .string x.f9, .string x.f10], rfl, rfl, ⟨[.int .i64 x.f2], [.int .i64 x.f3, .string x.f4, .string x.f5, .string x.f6, .string x.f7, .string x.f8, .string x.f9, .string x.f10], rfl, rfl, ⟨[.int .i64 x.f3], [.string x.f4, .string x.f5, .string x.f6, .string x.f7, .string x.f8, .string x.f9, .string x.f10], rfl, rfl, ⟨[.string x.f4], [.string x.f5, .string x.f6, .string x.f7, .string x.f8, .string x.f9, .string x.f10], rfl, rfl, ⟨[.string x.f5], [.string x.f6, .string x.f7, .string x.f8, .string x.f9, .string x.f10], rfl, rfl, ⟨[.string x.f6], [.string x.f7, .string x.f8, .string x.f9, .string x.f10], rfl, rfl, ⟨[.string x.f7], [.string x.f8, .string x.f9, .string x.f10], rfl, rfl, ⟨[.string x.f8], [.string x.f9, .string x.f10], rfl, rfl, ⟨[.string x.f9], [.string x.f10], rfl, rfl, rfl⟩⟩⟩⟩⟩⟩⟩⟩⟩⟩
theorem k58_mkM (w : World) (base : Nat) (ok : Nat → Prop) (x : S58)  : k58.M w base ok x [.int .i64 x.f0, .int .i64 x.f1, .int .i64 x.f2, .int .i64 x.f3, .string x.f4, .string x.f5, .string x.f6, .string x.f7, .string x.f8, .string x.f9, .string x.f10] := ⟨[.int .i64 x.f0], [.int .i64 x.f1, .int .i64 x.f2, .int .i64 x.f3, .string x.f4, .string x.f5, .string x.f6, .string x.f7, .string x.f8, .string x.f9, .string x.f10], rfl, rfl, ⟨[.int .i64 x.f1], [.int .i64 x.f2, .int .i64 x.f3, .string x.f4, .string x.f5, .string x.f6, .string x.f7, .string x.f8, .string x.f9, .string x.f10], rfl, rfl, ⟨[.int .i64 x.f2], [.int .i64 x.f3, .string x.f4, .string x.f5, .string x.f6, .string x.f7, .string x.f8, .string x.f9, .string x.f10], rfl, rfl, ⟨[.int .i64 x.f3], [.string x.f4, .string x.f5, .string x.f6, .string x.f7, .string x.f8, .string x.f9, .string x.f10], rfl, rfl, ⟨[.string x.f4], [.string x.f5, .string x.f6, .string x.f7, .string x.f8, .string x.f9, .string x.f10], rfl, rfl, ⟨[.string x.f5], [.string x.f6, .string x.f7, .string x.f8, .string x.f9, .string x.f10], rfl, rfl, ⟨[.string x.f6], [.string x.f7, .string x.f8, .string x.f9, .string x.f10], rfl, rfl, ⟨[.string x.f7], [.string x.f8, .string x.f9, .string x.f10], rfl, rfl, ⟨[.string x.f8], [.string x.f9, .string x.f10], rfl, rfl, ⟨[.string x.f9], [.string x.f10], rfl, rfl, rfl⟩⟩⟩⟩⟩⟩⟩⟩⟩⟩
def rd_T58 (xs : List S58) (i : Int) : S58 := xs.getD i.toNat z58
theorem at_T58 {w : World} {A : Option Addr} {n : Nat} {xs : List S58} (h : Kd.C k58 w A n xs) (i : Int) (h0 : 0 ≤ i) (h1 : i < n) : ∃ ad , A = some ad ∧ w.cell? (ad.add (i.toNat * 11)) = some (.int .i64 (rd_T58 xs i).f0) ∧ w.cell? ⟨(ad.add (i.toNat * 11)).block, (ad.add (i.toNat * 11)).off + 1, none⟩ = some (.int .i64 (rd_T58 xs i).f1) ∧ w.cell? ⟨(ad.add (i.toNat * 11)).block, (ad.add (i.toNat * 11)).off + 2, none⟩ = some (.int .i64 (rd_T58 xs i).f2) ∧ w.cell? ⟨(ad.add (i.toNat * 11)).block, (ad.add (i.toNat * 11)).off + 3, none⟩ = some (.int .i64 (rd_T58 xs i).f3) ∧ w.cell? ⟨(ad.add (i.toNat * 11)).block, (ad.add (i.toNat * 11)).off + 4, none⟩ = some (.string (rd_T58 xs i).f4) ∧ w.cell? ⟨(ad.add (i.toNat * 11)).block, (ad.add (i.toNat * 11)).off + 5, none⟩ = some (.string (rd_T58 xs i).f5) ∧ w.cell? ⟨(ad.add (i.toNat * 11)).block, (ad.add (i.toNat * 11)).off + 6, none⟩ = some (.string (rd_T58 xs i).f6) ∧ w.cell? ⟨(ad.add (i.toNat * 11)).block, (ad.add (i.toNat * 11)).off + 7, none⟩ = some (.string (rd_T58 xs i).f7) ∧ w.cell? ⟨(ad.add (i.toNat * 11)).block, (ad.add (i.toNat * 11)).off + 8, none⟩ = some (.string (rd_T58 xs i).f8) ∧ w.cell? ⟨(ad.add (i.toNat * 11)).block, (ad.add (i.toNat * 11)).off + 9, none⟩ = some (.string (rd_T58 xs i).f9) ∧ w.cell? ⟨(ad.add (i.toNat * 11)).block, (ad.add (i.toNat * 11)).off + 10, none⟩ = some (.string (rd_T58 xs i).f10) := by
  obtain ⟨ad, c, e, _, hK, hc0⟩ := Kd.C_get h z58 i h0 h1
  have hc : ∀ j u, c[j]? = some u → w.cell? (ad.add (i.toNat * 11 + j)) = some u := hc0
  obtain rfl := k58_open hK
  exact ⟨ad, e, hc 0 _ rfl, by rw [← add_field _ _ 1 (by omega)]; exact hc 1 _ rfl, by rw [← add_field _ _ 2 (by omega)]; exact hc 2 _ rfl, by rw [← add_field _ _ 3 (by omega)]; exact hc 3 _ rfl, by rw [← add_field _ _ 4 (by omega)]; exact hc 4 _ rfl, by rw [← add_field _ _ 5 (by omega)]; exact hc 5 _ rfl, by rw [← add_field _ _ 6 (by omega)]; exact hc 6 _ rfl, by rw [← add_field _ _ 7 (by omega)]; exact hc 7 _ rfl, by rw [← add_field _ _ 8 (by omega)]; exact hc 8 _ rfl, by rw [← add_field _ _ 9 (by omega)]; exact hc 9 _ rfl, by rw [← add_field _ _ 10 (by omega)]; exact hc 10 _ rfl⟩

/-- A guard that was passed. -/
theorem guard_inv {α : Type} {c : Prop} [Decidable c] {a : Option α} {r : α} (h : (if c then a else none) = some r) : c ∧ a = some r := by
  by_cases hc : c
  · rw [if_pos hc] at h; exact ⟨hc, h⟩
  · rw [if_neg hc] at h; cases h

end Go.Proofs.YtdmccakncgdbhaaDoor.GMA
