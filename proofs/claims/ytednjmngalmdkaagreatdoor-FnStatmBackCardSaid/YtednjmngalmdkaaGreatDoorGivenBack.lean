/- What laws.back asks of a print, a tree and a door (BackOk); nodes of the reference in memory. Plain definitions and small laws. -/
import Derived.Test.YtednjmngalmdkaaGreatDoorGivenLives
import Derived.Test.YtednjmngalmdkaaGreatDoorGPCx5
import Derived.Test.YtednjmngalmdkaaGreatDoorGPCx6
namespace Go.Proofs.YtednjmngalmdkaaGreatDoor.GPC
open Go.RowKit Go.Proofs.YtednjmngalmdkaaGreatDoorW.PrintWords Go.Proofs.YtednjmngalmdkaaGreatDoorW.PrintLast
set_option linter.unusedVariables false
def snodeVal (n : S39) (v7 : Value) : Value := .agg #[.string n.f0, .int .i64 n.f1, .bool n.f2, .int .i64 n.f3, .int .u64 n.f4, .float .f64 n.f5, .string n.f6, v7]
def snodeCells (n : S39) (v7 : Value) : List Value := [.string n.f0, .int .i64 n.f1, .bool n.f2, .int .i64 n.f3, .int .u64 n.f4, .float .f64 n.f5, .string n.f6, v7]
theorem snode_one {n : S39} {v7 : Value} (h : ∃ A c, v7 = .slice A n.f7.length c) : ∀ q ∈ snodeCells n v7, q.oneCell' = true := by
  obtain ⟨A, c, rfl⟩ := h
  intro q hq
  simp only [snodeCells, List.mem_cons, List.not_mem_nil, or_false] at hq
  rcases hq with rfl | rfl | rfl | rfl | rfl | rfl | rfl | rfl <;> rfl
theorem snode_size : (Tryz.prog.info? 39).map (·.size) = some 8 := by kernel_rfl
theorem Kd.V_sl {α : Type} {d : Kd α} {e base : Nat} {w : World} {ok : Nat → Prop} {v : Value} {xs : List α} (h : Kd.V d e w base ok v xs) : ∃ A c, v = .slice A xs.length c := by
  obtain ⟨A, c, hv, _⟩ := h
  exact ⟨A, c, hv⟩
theorem keepS {W0 w1 w2 : World} (h : Below W0.heap.size W0 w1) (hb : Below w1.heap.size w1 w2) : Below W0.heap.size W0 w2 := below_then h h.size hb
abbrev N8 (α : Type) := ByteArray × Int × Bool × Int × Int × Nat × ByteArray × List α
/-- The ways on which back answers true. -/
inductive BackOk (print : Nat → Option (ByteArray × Int)) (tree : Nat → Option (ByteArray × Int × Bool × Int × Int × Nat × ByteArray × List S39 × Int)) (door : ByteArray → S43 → Prop) (l : List S31) : Prop
  | long (h : 1000 < l.length)
  | noPrint (h : l.length ≤ 1000) (k : Nat) (text : ByteArray) (told : Int) (hp : print k = some (text, told)) (hno : told ≠ 1 ∨ 40000 < text.size)
  | noTree (h : l.length ≤ 1000) (k : Nat) (text : ByteArray) (hp : print k = some (text, 1)) (hsz : text.size ≤ 40000) (r : N8 S39) (tt : Int) (ht : tree k = some (r.1, r.2.1, r.2.2.1, r.2.2.2.1, r.2.2.2.2.1, r.2.2.2.2.2.1, r.2.2.2.2.2.2.1, r.2.2.2.2.2.2.2, tt)) (hno : tt ≠ 1)
  | same (h : l.length ≤ 1000) (k : Nat) (text : ByteArray) (hp : print k = some (text, 1)) (hsz : text.size ≤ 40000) (r : N8 S39)
      (ht : tree k = some (r.1, r.2.1, r.2.2.1, r.2.2.2.1, r.2.2.2.2.1, r.2.2.2.2.2.1, r.2.2.2.2.2.2.1, r.2.2.2.2.2.2.2, 1)) (n : S43) (hd : door text n)
      (k2 : Nat) (m : N8 S39) (hm : laws_toNode.f k2 n.f0 n.f1 n.f2 n.f3 n.f4 n.f5 n.f6 n.f7 = some m)
      (hs : spec_SameNode.f k2 m.1 m.2.1 m.2.2.1 m.2.2.2.1 m.2.2.2.2.1 m.2.2.2.2.2.1 m.2.2.2.2.2.2.1 m.2.2.2.2.2.2.2 r.1 r.2.1 r.2.2.1 r.2.2.2.1 r.2.2.2.2.1 r.2.2.2.2.2.1 r.2.2.2.2.2.2.1 r.2.2.2.2.2.2.2 = some true)
/-- The door of /proc/loadavg. -/
def doorLoadavg (s : ByteArray) (n : S43) : Prop := ∃ a b c, loadavgF s = some (a, b, c) ∧ loadNode a b c = some n
theorem doorLoadavg_calls (text : ByteArray) (n : S43) (w : World) (hT : TabW w) (h : doorLoadavg text n) :
    Calls Tryz.prog 17 #[.string text] w fun e w' => ∃ v7, e = .returned (.tuple #[nodeVal n v7, .int .i64 0]) ∧ KidsV n w w' v7 ∧ Below w.heap.size w w' := by
  obtain ⟨a, b, c, h1, h2⟩ := h
  exact implLoad text a b c n w hT h1 h2
end Go.Proofs.YtednjmngalmdkaaGreatDoor.GPC
