/- A store of a whole struct into the block that holds it; nodes in memory. Plain laws of the walk. -/
import Derived.Test.YtednjmngalmdkaaGreatDoorGPCx7
import Derived.Test.YtednjmngalmdkaaGreatDoorWCut
import Derived.Defers
import Derived.Recover
namespace Go.Proofs.YtednjmngalmdkaaGreatDoor.GPC
open Go.RowKit Go.Proofs.YtednjmngalmdkaaGreatDoorW.PrintWords Go.Proofs.YtednjmngalmdkaaGreatDoorW.PrintLast
set_option linter.unusedVariables false
section
variable {P : Program} {ops : Array Oper} {rest : List Oper} {o : Oper} {a : Act} {Q : Exit → Act → World → Prop} {W : World}
theorem box_store (hgd : o.guard = none) (hN : o.dst = none) (t : TypeId) (p x : Operand) (ho : o.op = .store t p x) (g : Nat) (e : TypeId) (cur : Array Value) (u : Value) (seg : List Value)
    (haddr : a.eval p = .pointer (some ⟨g, 0, none⟩)) (hx : a.eval x = u) (hu : u.cells.toList = seg) (ht : (P.info? t).map (·.size) = some seg.length) (h1 : ∀ q ∈ seg, q.oneCell' = true)
    (hh : W.heap[g]? = some (.cells cur e (0, 0))) (hfit : cur.size = seg.length)
    (h : ∀ W', W'.heap[g]? = some (.cells seg.toArray e (0, 0)) → W.grownBy W' (some g) → wpList P ops Q rest a W') : wpList P ops Q (o :: rest) a W := by
  obtain ⟨cur', h3, h4, h5⟩ := setCells_row seg 0 W cur hh (by omega)
  have hc' : cur' = seg.toArray := by
    apply Array.toList_inj.1
    rw [h5, List.take_zero, List.nil_append, List.drop_eq_nil_of_le (by rw [Array.length_toList]; omega), List.append_nil]
  rw [hc'] at h3
  obtain ⟨s1, s2, s3, s4⟩ := setCells_same g seg 0 W
  refine wpList_plain hgd fun K hK => ?_
  have hrun := run_store_run (P := P) (o := 0) t u seg hh hu ht (by omega) h1
  unfold Oper.wp execOp
  simp only [ho, haddr, hx, Sem.run_bind, Sem.run_pure, Result.andThen_ok, hrun]
  show K (a.put o.dst undef) _
  rw [hN]
  exact hK a _ (h _ h3 ⟨s1, s2, s3, Nat.le_of_eq s4.symm, fun k hk hne => setCells_far seg 0 k (fun e' => hne (by rw [e']))⟩)
end
/-- A node in memory, its kids in blocks of their own. -/
def nodeVal (n : S43) (v7 : Value) : Value := .agg #[.string n.f0, .int .i64 n.f1, .bool n.f2, .int .i64 n.f3, .int .u64 n.f4, .float .f64 n.f5, .string n.f6, v7]
def nodeCells (n : S43) (v7 : Value) : List Value := [.string n.f0, .int .i64 n.f1, .bool n.f2, .int .i64 n.f3, .int .u64 n.f4, .float .f64 n.f5, .string n.f6, v7]
def nodeZero : Array Value := #[.string ⟨#[]⟩, .int .i64 0, .bool false, .int .i64 0, .int .u64 0, .float .f64 0, .string ⟨#[]⟩, .slice none 0 0]
def KidsV (n : S43) (w0 w1 : World) (v7 : Value) : Prop := Kd.R k43 43 w1 w0.heap.size (fun _ => True) v7 n.f7
theorem KidsV.slice {n : S43} {w0 w1 : World} {v7 : Value} (h : KidsV n w0 w1 v7) : ∃ A c, v7 = .slice A n.f7.length c := Kd.R_slice h
theorem KidsV.below {n : S43} {w0 w1 w2 : World} {v7 : Value} (h : KidsV n w0 w1 v7) (hb : Below w1.heap.size w1 w2) : KidsV n w0 w2 v7 := Kd.R_below h hb
theorem KidsV.lower {n : S43} {w0 wa w1 : World} {v7 : Value} (h : KidsV n w0 w1 v7) (hb : wa.heap.size ≤ w0.heap.size) : KidsV n wa w1 v7 := Kd.R_lower h hb
theorem KidsV.grown {n : S43} {w0 w1 w2 : World} {v7 : Value} {g : Nat} (h : KidsV n w0 w1 v7) (hg : w1.grownBy w2 (some g)) (hlt : g < w0.heap.size) : KidsV n w0 w2 v7 :=
  Kd.R_mono (Kd.R_grown (Kd.R_bound h) hg (fun k hk e => by have := hk.2.1; injection e with e; omega)) (fun _ _ => trivial)
theorem node_one {n : S43} {v7 : Value} (h : ∃ A c, v7 = .slice A n.f7.length c) : ∀ q ∈ nodeCells n v7, q.oneCell' = true := by
  obtain ⟨A, c, rfl⟩ := h
  intro q hq
  simp only [nodeCells, List.mem_cons, List.not_mem_nil, or_false] at hq
  rcases hq with rfl | rfl | rfl | rfl | rfl | rfl | rfl | rfl <;> rfl
theorem node_size : (Tryz.prog.info? 43).map (·.size) = some 8 := by kernel_rfl
end Go.Proofs.YtednjmngalmdkaaGreatDoor.GPC
