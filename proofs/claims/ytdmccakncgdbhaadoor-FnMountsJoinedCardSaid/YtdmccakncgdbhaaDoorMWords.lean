/- Words of my own: a whole struct stored into, and read from, a block of its own, as one step of a walk. -/
import Derived.Test.YtdmccakncgdbhaaDoorWCut
import Derived.Laws.Rows
namespace Go.Proofs.YtdmccakncgdbhaaDoor.MW
open Go.RowKit Go.Proofs.YtdmccakncgdbhaaDoorW.PrintWords
variable {P : Program} {ops : Array Oper} {rest : List Oper} {o : Oper} {a : Act} {Q : Exit → Act → World → Prop}
theorem grownBy_setRow (W : World) (g : Nat) (cs : Array Value) : W.grownBy (W.setRow g cs) (some g) := by
  refine ⟨rfl, rfl, rfl, by simp, fun i hi hne => ?_⟩
  simp only [World.setRow, Array.getElem?_modify]
  rw [if_neg (fun h => hne (by rw [h]))]
/-- a whole struct is stored into its block -/
theorem store_row_event {W : World} (hgd : o.guard = none) (hd : o.dst = none) (ty : TypeId) (x y : Operand) (ho : o.op = .store ty x y)
    (g : Nat) (cells : Array Value) (hx : a.eval x = .pointer (some ⟨g, 0, none⟩)) (hy : a.eval y = .agg cells)
    (t : TypeId) (old : Array Value) (hg : W.heap[g]? = some (.cells old t (0, 0))) (hi : (P.info? ty).map (·.size) = some cells.size)
    (hold : old.size = cells.size) (h1 : cells.all (·.oneCell') = true)
    (h : ∀ w1, w1.heap[g]? = some (.cells cells t (0, 0)) → W.grownBy w1 (some g) → wpList P ops Q rest a w1) : wpList P ops Q (o :: rest) a W :=
  wpList_plain hgd fun _ hK => wp_store_row ty x y ho g cells hx hy t old hg hi hold h1 (hK _ _ (by rw [hd]; exact h _ (setRow_heap W g old cells t (0, 0) hg) (grownBy_setRow W g cells)))
end Go.Proofs.YtdmccakncgdbhaaDoor.MW
