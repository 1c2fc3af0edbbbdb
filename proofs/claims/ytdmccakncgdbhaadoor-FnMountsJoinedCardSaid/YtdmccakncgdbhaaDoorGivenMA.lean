/- Contracts of Go's library as the printed functions want them: strings.IndexByte, strconv.Atoi where it answers a number of at most 18 signs. Conditions: as said. -/
import Derived.Lib.AtoiErrMem
import Derived.Test.YtdmccakncgdbhaaDoorGivenShelf
import Derived.Test.YtdmccakncgdbhaaDoorGMAx0
namespace Go.Proofs.YtdmccakncgdbhaaDoor.GMA
open Go.RowKit Go.Proofs.YtdmccakncgdbhaaDoorW.PrintWords
def strings_IndexByte.f (a0 : ByteArray) (a1 : Int) : Option (Int) := some (Lib.indexByte a0.data.toList a1.toNat.toUInt8)
theorem strings_IndexByte.calls (a0 : ByteArray) (a1 : Int) (r : Int) (w : World) (h : strings_IndexByte.f a0 a1 = some r) :
    Calls Tryd.prog 50 #[.string a0, .int .u8 a1] w fun e w' => e = .returned (.int .i64 r) ∧ Drawn0 w w' := by
  obtain rfl := Option.some.inj h
  refine (Tryd.strings_IndexByte a0 a1 w).mono ?_
  rintro e w' ⟨rfl, rfl⟩
  exact ⟨rfl, Drawn0.refl _⟩
def strconv_Atoi.f (a0 : ByteArray) : Option (Int × Option Int) :=
  if a0.size ≤ 18 then (Lib.atoi a0.data.toList).map (fun n => (n, none)) else none
theorem strconv_Atoi.calls (a0 : ByteArray) (r1 : Int) (r2 : Option Int) (w : World) (h : strconv_Atoi.f a0 = some (r1, r2)) :
    Calls Tryd.prog 49 #[.string a0] w fun e w' => e = .returned (.tuple #[.int .i64 r1, errW r2]) ∧ Below w.heap.size w w' := by
  unfold strconv_Atoi.f at h
  by_cases hs : a0.size ≤ 18
  · rw [if_pos hs] at h
    cases hn : Lib.atoi a0.data.toList with
    | none => rw [hn] at h; cases h
    | some n =>
      rw [hn] at h
      obtain ⟨rfl, rfl⟩ : n = r1 ∧ none = r2 := by simpa using h
      refine (Tryd.strconv_Atoi a0 n hs hn w).mono ?_
      rintro e w' ⟨rfl, t, rfl⟩
      exact ⟨rfl, Lib.bytesWorld_below w 5 t⟩
  · rw [if_neg hs] at h; cases h
end Go.Proofs.YtdmccakncgdbhaaDoor.GMA
