/- append onto the one byte of a constant text ([]byte of a constant): what is appended may be nil, empty or not. Conditions: lengths. -/
import Derived.Test.YtgnfapnnbcafbaaDoorWWords
import Derived.ArgAppend
import Derived.Lib.SlBytesConst
namespace Go.Proofs.YtgnfapnnbcafbaaDoor.App
open Go.RowKit Go.Proofs.YtgnfapnnbcafbaaDoorW.PrintWords

theorem run_append_one {P : Program} (w : World) (t ty e : TypeId) (i : TypeInfo) (h1 : P.underlying t = some (.slice e)) (h2 : P.info? e = some i) (h3 : i.zero = some (.int .u8 0)) (h4 : i.size = 1) (h5 : i.bytes = 1)
    (g : Nat) (c : Int) (hcell : w.cell? ⟨g, 0, none⟩ = some (.int .u8 c)) (A : Option Addr) (m cp : Nat) (xs : List Int) (hr : ReadsInt w .u8 A m xs) (b1 : 1 + m ≤ maxLen) (b2 : (1 + m) * 1 ≤ 140737488355328) :
    ∃ A' c' w', (Builtin.append_ #[t, t] ty #[.slice (some ⟨g, 0, none⟩) 1 1, .slice A m cp]).run P w = .ok (.slice A' (1 + m) c') w' ∧ ReadsInt w' .u8 A' (1 + m) (c :: xs) ∧ w.grownBy w' none := by
  have hone : ReadsInt w .u8 (some ⟨g, 0, none⟩) 1 [c] := ⟨rfl, by simp, fun _ => ⟨_, rfl, fun j hj => by
    obtain rfl : j = 0 := by omega
    rw [Addr.add_zero']
    exact hcell⟩⟩
  rcases Nat.eq_zero_or_pos m with h0 | h0
  · subst h0
    obtain rfl : xs = [] := List.eq_nil_of_length_eq_zero hr.1
    rcases A with _ | ad
    · exact ⟨some ⟨g, 0, none⟩, 1, w, by simp [Builtin.append_, run_underlying h1, sizeOf, typeInfo, h2, Builtin.lenOf, Builtin.firstCells, storeCells], hone, World.grownBy.refl w _⟩
    · have := run_append_room_cells (P := P) w t ty e i h1 h2 g 0 1 1 ad 0 cp [] (by simp) (by simp) (by simp) (by omega) (by simp) (by simp)
      exact ⟨some ⟨g, 0, none⟩, 1, w, this, hone, World.grownBy.refl w _⟩
  · obtain ⟨ad, rfl, hc⟩ := hr.2.2 h0
    obtain ⟨v', w', hrun, r1, r2⟩ := run_append_arg_grows (P := P) w t ty e i (.int .u8 0) 1 1 h1 h2 h3 h4 h5 rfl (by omega) ⟨g, 0, none⟩ 1 1 [.int .u8 c] rfl (fun j u hj => by
        rcases j with _ | j
        · obtain rfl : (Value.int .u8 c) = u := by simpa using hj
          rw [Addr.add_zero']
          exact hcell
        · simp at hj) ad m cp (nums .u8 xs) (by simp [nums, hr.1]) (fun j u hj => by
        have hjl : j < xs.length := by
          rcases Nat.lt_or_ge j xs.length with h | h
          · exact h
          · simp [nums, List.getElem?_eq_none h] at hj
        rw [hc j (by have := hr.1; omega)]
        simp only [nums, List.getElem?_map, List.getElem?_eq_getElem hjl, Option.map_some, Option.some.injEq] at hj
        subst hj
        simp [List.getD_eq_getElem?_getD, List.getElem?_eq_getElem hjl]) (by omega) b1 b2
    obtain ⟨A', c', rfl, hr'⟩ := own_reads (k := .u8) (xs := c :: xs) (by simpa [nums] using r1)
    exact ⟨A', c', w', hrun, hr', r2⟩

theorem wpList_append_one {P : Program} (w : World) {ops : Array Oper} {rest : List Oper} {o : Oper} {a : Act} {Q : Exit → Act → World → Prop}
    (hg : o.guard = none) (s x : Operand) (t : TypeId) (hop : o.op = Op.call { callee := Callee.builtin Builtin.append, args := #[s, x], argTypes := #[t, t] })
    (e : TypeId) (i : TypeInfo) (h1 : P.underlying t = some (.slice e)) (h2 : P.info? e = some i) (h3 : i.zero = some (.int .u8 0)) (h4 : i.size = 1) (h5 : i.bytes = 1)
    (g : Nat) (c : Int) (hs : a.eval s = .slice (some ⟨g, 0, none⟩) 1 1) (hcell : w.cell? ⟨g, 0, none⟩ = some (.int .u8 c))
    (A : Option Addr) (m cp : Nat) (xs : List Int) (hx : a.eval x = .slice A m cp) (hr : ReadsInt w .u8 A m xs) (b1 : 1 + m ≤ maxLen) (b2 : (1 + m) * 1 ≤ 140737488355328)
    (hK : ∀ A' c' w', ReadsInt w' .u8 A' (1 + m) (c :: xs) → w.grownBy w' none → wpList P ops Q rest (a.put o.dst (.slice A' (1 + m) c')) w') : wpList P ops Q (o :: rest) a w := by
  refine wpList_plain hg fun K hK' => ?_
  obtain ⟨A', c', w', hrun, r1, r2⟩ := run_append_one (P := P) w t o.type e i h1 h2 h3 h4 h5 g c hcell A m cp xs hr b1 b2
  unfold Oper.wp
  simp [execOp, hop, resolve, invoke, builtin, hs, hx, hrun, Result.andThen]
  exact hK' _ _ (hK A' c' w' r1 r2)
end Go.Proofs.YtgnfapnnbcafbaaDoor.App
