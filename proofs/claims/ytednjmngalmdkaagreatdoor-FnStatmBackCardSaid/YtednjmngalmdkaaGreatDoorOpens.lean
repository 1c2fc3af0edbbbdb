/- What a call's arguments lay in memory, read as the print's kinds: whole numbers, bools, strings, structs, slices of them, to any depth. No condition. -/
import Derived.Test.YtednjmngalmdkaaGreatDoorWCut
import Derived.Deep.Slices
import Derived.ChangeArms
import Derived.DataReads
namespace Go.Proofs.YtednjmngalmdkaaGreatDoor.OP
open Go.ChangeShapes Go.WideShapes Go.Deep Go.Proofs.YtednjmngalmdkaaGreatDoorW.PrintWords
set_option linter.unusedVariables false
/-- A value of type t that the arguments' reading passes is one of kind d; Q: what is known of it. -/
def Opens {α : Type} (P : Program) (d : Kd α) (t : TypeId) (Q : α → Prop) : Prop :=
  P.cellsOf t = d.sz ∧ ∀ {H : Type} {enc : TypeId × Value → H} {W : World} {base : Nat} {spare : Nat → Bool} {fuel : Nat} {cs : List Value} {x : DataW H × List MemPlace},
    DataW.trod enc P W base spare true fuel t cs = some x → ∃ v : α, d.K W v cs ∧ Q v
/-- The fields from a cell on. -/
structure Fields {α : Type} (P : Program) (d : Kd α) (fs : List Field) (off : Nat) (Q : α → Prop) : Prop where
  out : ∀ {H : Type} {enc : TypeId × Value → H} {W : World} {base : Nat} {spare : Nat → Bool} {fuel : Nat} {cs : List Value},
    cs.length = off + d.sz → (∀ f ∈ fs, ∃ x, DataW.trod enc P W base spare true fuel f.type ((cs.drop f.offset).take (P.cellsOf f.type)) = some x) → ∃ v : α, d.K W v (cs.drop off) ∧ Q v
theorem Opens.any {α : Type} {P : Program} {d : Kd α} {t : TypeId} {Q : α → Prop} (h : Opens P d t Q) : Opens P d t (fun _ => True) :=
  ⟨h.1, fun hx => by
    obtain ⟨v, hv, _⟩ := h.2 hx
    exact ⟨v, hv, trivial⟩⟩
theorem opens_int {P : Program} {t : TypeId} {k : IntKind} (ht : P.underlying t = some (.int k)) (hc : P.cellsOf t = 1) : Opens P (Kd.int k) t (fun n => (Lit.int k n).wf = true) :=
  ⟨hc, fun h => by
    obtain ⟨n, rfl, _, hw⟩ := DataW.trod_int ht h
    exact ⟨n, rfl, hw⟩⟩
theorem opens_bool {P : Program} {t : TypeId} (ht : P.underlying t = some .bool) (hc : P.cellsOf t = 1) : Opens P Kd.bool t (fun _ => True) :=
  ⟨hc, fun h => by
    obtain ⟨n, rfl, _⟩ := DataW.trod_bool ht h
    exact ⟨n, rfl, trivial⟩⟩
theorem opens_string {P : Program} {t : TypeId} (ht : P.underlying t = some .string) (hc : P.cellsOf t = 1) : Opens P Kd.string t (fun s => s.size ≤ maxLen) :=
  ⟨hc, fun h => by
    obtain ⟨s, rfl, _, hw⟩ := DataW.trod_string ht h
    exact ⟨s, rfl, hw⟩⟩
theorem list_of {α : Type} {p : Nat → α → Prop} : ∀ (n : Nat), (∀ i, i < n → ∃ x, p i x) → ∃ xs : List α, xs.length = n ∧ ∀ i x, xs[i]? = some x → p i x
  | 0, _ => ⟨[], rfl, fun i x h => by simp at h⟩
  | n + 1, h => by
    obtain ⟨xs, hl, hp⟩ := list_of n (fun i hi => h i (by omega))
    obtain ⟨y, hy⟩ := h n (by omega)
    refine ⟨xs ++ [y], by simp [hl], fun i x hx => ?_⟩
    rcases Nat.lt_or_ge i xs.length with hlt | hge
    · rw [List.getElem?_append_left hlt] at hx
      exact hp i x hx
    · rw [List.getElem?_append_right hge] at hx
      have h0 : i - xs.length = 0 := by
        have := (List.getElem?_eq_some_iff.1 hx).1
        simp only [List.length_singleton] at this
        omega
      rw [h0] at hx
      obtain rfl : y = x := by simpa using hx
      obtain rfl : i = n := by omega
      exact hy
/-- A slice, with where it lies. -/
theorem slice_at {α : Type} {P : Program} {d : Kd α} {t e : TypeId} {Q : α → Prop} (ho : Opens P d e Q) (ht : P.underlying t = some (.slice e)) {H : Type} {enc : TypeId × Value → H} {W : World} {base : Nat} {spare : Nat → Bool} {fuel : Nat} {cs : List Value} {x : DataW H × List MemPlace}
    (h : DataW.trod enc P W base spare true fuel t cs = some x) : ∃ (A : Option Addr) (c : Nat) (xs : List α), cs = [.slice A xs.length c] ∧ xs.length ≤ c ∧ c ≤ maxLen ∧ d.C W A xs.length xs ∧ ∀ v ∈ xs, Q v := by
  rcases open_slice ht h with ⟨rfl, _⟩ | ⟨a, len, cap, m, n, D, Pl, rfl, _, hl, hm, hmm, _, hi⟩
  · exact ⟨none, 0, [], rfl, Nat.le_refl _, Nat.zero_le _, ⟨rfl, by simp, fun h => absurd h (Nat.lt_irrefl 0)⟩, fun v hv => by simp at hv⟩
  · have hlm : len ≤ m := by rw [hmm]; split <;> omega
    obtain ⟨xs, hxl, hp⟩ := list_of (α := α) (p := fun i v => ∃ c : List Value, c.length = d.sz ∧ d.K W v c ∧ (∀ j u, c[j]? = some u → W.cell? (a.add (i * d.sz + j)) = some u) ∧ Q v) len (fun i hi' => by
      obtain ⟨cs', hc, ht'⟩ := hi i (by omega)
      obtain ⟨v, hk, hq⟩ := ho.2 ht'
      obtain ⟨_, hcl, hat⟩ := World.cells?_some hc
      rw [ho.1] at hcl hat
      refine ⟨v, cs', hcl, hk, fun j u hj => ?_, hq⟩
      have hjl : j < d.sz := by rw [← hcl]; exact (List.getElem?_eq_some_iff.1 hj).1
      rw [← Go.Deep.add_add, hat j hjl, hj])
    subst hxl
    refine ⟨some a, cap, xs, rfl, hl, hm, ⟨rfl, ?_, fun _ => ⟨a, rfl, fun j p hj => ?_⟩⟩, fun v hv => ?_⟩
    · unfold maxLen at hm; omega
    · obtain ⟨c, h1, h2, h3, _⟩ := hp j p hj
      exact ⟨c, h1, h2, h3⟩
    · obtain ⟨i, hi', hv'⟩ := List.getElem_of_mem hv
      obtain ⟨_, _, _, _, hq⟩ := hp i v (by rw [List.getElem?_eq_getElem hi', hv'])
      exact hq
theorem opens_slice {α : Type} {P : Program} {d : Kd α} {t e : TypeId} {Q : α → Prop} (ho : Opens P d e Q) (ht : P.underlying t = some (.slice e)) (hc : P.cellsOf t = 1) : Opens P (Kd.slice e d) t (fun xs => ∀ v ∈ xs, Q v) :=
  ⟨hc, fun h => by
    obtain ⟨A, c, xs, rfl, hl, _, hC, hq⟩ := slice_at ho ht h
    exact ⟨xs, ⟨A, c, rfl, hl, hC⟩, hq⟩⟩
theorem fields_one {α : Type} {P : Program} {d : Kd α} {f : Field} {off : Nat} {Q : α → Prop} (hf : f.offset = off) (ho : Opens P d f.type Q) : Fields P d [f] off Q := by
  constructor
  intro H enc W base spare fuel cs hl h
  obtain ⟨x, hx⟩ := h f (by simp)
  rw [hf, ho.1, List.take_of_length_le (by rw [List.length_drop]; omega)] at hx
  exact ho.2 hx
theorem fields_cons {α β : Type} {P : Program} {a : Kd α} {b : Kd β} {f : Field} {fs : List Field} {off : Nat} {Q : α → Prop} {R : β → Prop} (hf : f.offset = off) (ho : Opens P a f.type Q) (hs : Fields P b fs (off + a.sz) R) :
    Fields P (Kd.pair a b) (f :: fs) off (fun v => Q v.1 ∧ R v.2) := by
  constructor
  intro H enc W base spare fuel cs hl h
  have hl' : cs.length = off + (a.sz + b.sz) := hl
  obtain ⟨x, hx⟩ := h f (by simp)
  rw [hf, ho.1] at hx
  obtain ⟨u, hu, hq⟩ := ho.2 hx
  obtain ⟨v, hv, hr⟩ := hs.out (by omega) (fun g hg => h g (List.mem_cons_of_mem _ hg))
  refine ⟨(u, v), ⟨(cs.drop off).take a.sz, cs.drop (off + a.sz), ?_, hu, hv⟩, hq, hr⟩
  rw [← List.drop_drop, List.take_append_drop]
theorem opens_struct {α β : Type} {P : Program} {d : Kd α} {t : TypeId} {fs : Array Field} {Q : α → Prop} (proj : β → α) (inj : α → β) (hi : ∀ v, proj (inj v) = v) (ht : P.underlying t = some (.struct fs)) (hc : P.cellsOf t = d.sz) (ho : Fields P d fs.toList 0 Q) :
    Opens P (Kd.iso d proj) t (fun v => Q (proj v)) :=
  ⟨hc, fun {H enc W base spare fuel cs x} h => by
    obtain ⟨xs, n, rfl, _, hl, hxl, hf⟩ := DataW.trod_struct ht h
    have hz : cs.length = 0 + d.sz := by rw [hl, hc]; omega
    obtain ⟨v, hv, hq⟩ := ho.out (enc := enc) (W := W) (base := base) (spare := spare) (fuel := n) (cs := cs) hz (fun f hfm => by
      obtain ⟨i, hi', he⟩ := List.getElem_of_mem hfm
      have hi2 : i < fs.size := by simpa using hi'
      have hfi : fs[i]? = some f := by rw [Array.getElem?_eq_getElem hi2, ← he]; simp
      refine ⟨xs[i]'(by omega), ?_⟩
      rw [hf i f hfi, List.getElem?_eq_getElem])
    refine ⟨inj v, ?_, ?_⟩
    · show d.K W (proj (inj v)) cs
      rw [hi v]
      exact hv
    · show Q (proj (inj v))
      rw [hi v]
      exact hq⟩
end Go.Proofs.YtednjmngalmdkaaGreatDoor.OP
