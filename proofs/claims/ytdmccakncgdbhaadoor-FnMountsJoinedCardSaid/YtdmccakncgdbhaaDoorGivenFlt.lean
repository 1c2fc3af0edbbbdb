/- The filters of mounts: by types of file systems, by a prefix: what makes them, and what they answer of a mount. Conditions: the mount and the list lie in memory as said. -/
import Derived.Test.YtdmccakncgdbhaaDoorGivenLines
import Derived.Test.YtdmccakncgdbhaaDoorGivenShelf
import Derived.Test.YtdmccakncgdbhaaDoorGMAx0
namespace Go.Proofs.YtdmccakncgdbhaaDoor.GMA
open Go.RowKit Go.Proofs.YtdmccakncgdbhaaDoorW.PrintWords Go.Proofs.YtdmccakncgdbhaaDoorW
set_option linter.unusedVariables false
set_option linter.unusedSimpArgs false
/-- A mount in the block of its own. -/
def infoCells (m : S36) : Array Value := #[.int .i64 m.f0, .int .i64 m.f1, .int .i64 m.f2, .int .i64 m.f3, .string m.f4, .string m.f5, .string m.f6, .string m.f7, .string m.f8, .string m.f9, .string m.f10]
def infoObj (m : S36) : Obj := .cells (infoCells m) 57 (0, 0)
def keepsType (xs : List ByteArray) (m : S36) : Bool := xs.any (fun s => m.f8.toList == s.toList)
def keepsPre (path : ByteArray) (m : S36) : Bool := path.toList == [47] || Lib.hasPrefix (m.f5.data.toList ++ [47]) (path.data.toList ++ [47])
set_option maxHeartbeats 4000000 in
theorem fs_new (A : Option Addr) (n c : Nat) (w : World) :
    Calls Tryd.prog 19 #[.slice A n c] w fun e w' => ∃ g, e = .returned (.func (.func 29) #[] #[.pointer (some ⟨g, 0, none⟩)]) ∧ w.heap.size ≤ g ∧ w'.heap[g]? = some (.cells #[.slice A n c] 28 (0, 0)) ∧ Below w.heap.size w w' := by
  go_enter Tryd.func19, Tryd.ntmps19
  go_wp2
  go_ret
  exact ⟨_, rfl, Nat.le_refl _, heap_alloc_new _ _, below_alloc (Below.refl _ _) _⟩
set_option maxHeartbeats 4000000 in
theorem pf_new (p : ByteArray) (w : World) :
    Calls Tryd.prog 21 #[.string p] w fun e w' => ∃ g, e = .returned (.func (.func 32) #[] #[.pointer (some ⟨g, 0, none⟩)]) ∧ w.heap.size ≤ g ∧ w'.heap[g]? = some (.cells #[.string p] 9 (0, 0)) ∧ Below w.heap.size w w' := by
  go_enter Tryd.func21, Tryd.ntmps21
  go_wp2
  go_ret
  exact ⟨_, rfl, Nat.le_refl _, heap_alloc_new _ _, below_alloc (Below.refl _ _) _⟩
set_option maxHeartbeats 8000000 in
set_option maxRecDepth 100000 in
theorem fs_call (b g : Nat) (m : S36) (A : Option Addr) (c : Nat) (xs : List ByteArray) (w : World) (hb : w.heap[b]? = some (infoObj m)) (hg : w.heap[g]? = some (.cells #[.slice A xs.length c] 28 (0, 0)))
    (hC : Kd.C Kd.string w A xs.length xs) :
    Calls Tryd.prog 29 #[.pointer (some ⟨b, 0, none⟩), .pointer (some ⟨g, 0, none⟩)] w fun e w' => e = .returned (.tuple #[.bool (!keepsType xs m), .bool false]) ∧ w' = w := by
  have h8 : w.cell? ⟨b, 8, none⟩ = some (.string m.f8) := (blk_cell hb 8).trans rfl
  have h0 : w.cell? ⟨g, 0, none⟩ = some (.slice A xs.length c) := (blk_cell hg 0).trans rfl
  have HC := Aside0.mk hC
  have HM := Aside0.mk (Kd.C_max hC)
  clear hC
  go_enter Tryd.func29, Tryd.ntmps29
  go_wp2
  go_loopg [6, 9] xs.length (fun kq v6 v9 w' => ∃ (x : Int), v9 = .int .i64 x ∧ Aside0 (0 ≤ x ∧ x + kq = xs.length ∧ (xs.take x.toNat).any (fun s => m.f8.toList == s.toList) = false) ∧ w' = w)
  case atStart => exact ⟨0, rfl, ⟨by omega, by omega, by simp⟩, rfl⟩
  case round =>
    obtain ⟨x, rfl, HX, rfl⟩ := hrel
    by_cases hx : x < (xs.length : Int)
    · have c0 : decide (x < (xs.length : Int)) = true := decide_eq_true hx
      obtain ⟨ad, e1, hcx⟩ := Kd.at_string HC.out x HX.out.1 hx
      cases e1
      have p1 := eq_true HX.out.1
      have p2 := eq_true hx
      have HX2 := Aside0.mk hx
      clear hx
      have hw : IntKind.i64.wrap (x + 1) = x + 1 := by have := HX2.out; have := HX.out.1; have := HM.out; rw [PrintLast.i64_w]; unfold wrap64; omega
      cases heq : (m.f8.toList == (rdOf ByteArray.empty xs x).toList)
      · go_wp2
        go_roundg (gk - 1)
        case measure => have := HX.out; have := HX2.out; omega
        case rel =>
          refine ⟨x + 1, rfl, ⟨by have := HX.out.1; omega, by have := HX.out; have := HX2.out; omega, ?_⟩, rfl⟩
          have hx1 := HX.out.1
          have hx2 := HX2.out
          rw [show (x + 1).toNat = x.toNat + 1 by omega, List.take_add_one, List.any_append, HX.out.2.2]
          simp only [Bool.false_or]
          have hlt : x.toNat < xs.length := by omega
          simpa [rdOf, List.getD_eq_getElem?_getD, List.getElem?_eq_getElem hlt] using heq
      · go_wp2
        go_ret2
        refine ⟨?_, rfl⟩
        have hx1 := HX.out.1
        have hx2 := HX2.out
        have hlt : x.toNat < xs.length := by omega
        have : keepsType xs m = true := by
          unfold keepsType
          rw [List.any_eq_true]
          refine ⟨xs[x.toNat], List.getElem_mem hlt, ?_⟩
          simpa [rdOf, List.getD_eq_getElem?_getD, List.getElem?_eq_getElem hlt] using heq
        rw [this]
        rfl
    · have c0 : decide (x < (xs.length : Int)) = false := decide_eq_false hx
      have hxe : x.toNat = xs.length := by have := HX.out; omega
      have hk : keepsType xs m = false := by
        have := HX.out.2.2
        rw [hxe, List.take_length] at this
        exact this
      clear hx hxe
      go_wp2
      go_ret2
      exact ⟨by rw [hk]; rfl, rfl⟩
set_option maxHeartbeats 8000000 in
set_option maxRecDepth 100000 in
theorem pf_call (b g : Nat) (m : S36) (p : ByteArray) (w : World) (hb : w.heap[b]? = some (infoObj m)) (hg : w.heap[g]? = some (.cells #[.string p] 9 (0, 0)))
    (h1 : m.f5.size ≤ 1000000) (h2 : p.size ≤ 1000000) :
    Calls Tryd.prog 32 #[.pointer (some ⟨b, 0, none⟩), .pointer (some ⟨g, 0, none⟩)] w fun e w' => e = .returned (.tuple #[.bool (!keepsPre p m), .bool false]) ∧ Drawn0 w w' := by
  have h5 : w.cell? ⟨b, 5, none⟩ = some (.string m.f5) := (blk_cell hb 5).trans rfl
  have h0 : w.cell? ⟨g, 0, none⟩ = some (.string p) := (blk_cell hg 0).trans rfl
  have s1 : (9223372036854775807 < m.f5.size + 1) = False := eq_false (by omega)
  have s2 : (9223372036854775807 < p.size + 1) = False := eq_false (by omega)
  have hk : keepsPre p m = (p.toList == [47] || Lib.hasPrefix (m.f5.data.toList ++ [47]) (p.data.toList ++ [47])) := rfl
  cases hp : (p.toList == ([47] : List UInt8))
  · have hp2 : (p.toList != ([47] : List UInt8)) = true := by simp only [bne, hp]; rfl
    rw [hp, Bool.false_or] at hk
    go_enter Tryd.func32, Tryd.ntmps32
    go_wp2
    go_quiet ((go_at_call 31; refine (Tryd.strings_HasPrefix _ _ _).mono ?_; rintro e w' ⟨rfl, rfl⟩; exact ⟨rfl, _, rfl⟩))
    go_wp2
    go_ret2
    exact ⟨by rw [hk]; rfl, ⟨⟨_, rfl⟩⟩⟩
  · have hp2 : (p.toList != ([47] : List UInt8)) = false := by simp only [bne, hp]; rfl
    rw [hp, Bool.true_or] at hk
    go_enter Tryd.func32, Tryd.ntmps32
    go_wp2
    go_quiet (fail)
    go_wp2
    go_ret2
    exact ⟨by rw [hk]; rfl, ⟨⟨_, rfl⟩⟩⟩
end Go.Proofs.YtdmccakncgdbhaaDoor.GMA
