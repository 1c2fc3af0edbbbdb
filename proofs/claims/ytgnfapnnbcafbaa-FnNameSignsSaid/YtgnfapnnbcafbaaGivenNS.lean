/- strings.IndexByte gives the place of the first byte: the contract of the library's shelf at this seat, and the same as a printed function wants it. No condition. -/
import Derived.Shelf.Small.Strs
import Derived.Shelf.Strings.Search1
import Derived.Test.YtgnfapnnbcafbaaProg
import Derived.Test.YtgnfapnnbcafbaaWWords
namespace Go.Proofs
open Go.Shelf
def Try.lays137_ren : Go.Shelf.Ren := ⟨fun | 137 => 10 | 217 => 12 | 266 => 13 | n => n, fun | 9 => 9 | 5 => 5 | 3 => 3 | n => n, fun | n => n⟩
theorem Try.lays137 : Go.Proofs.Lays.n137 Try.prog Try.lays137_ren := {
  mixed := by kernel_rfl
  f137 := Try.func10.trans (congrArg some (by kernel_rfl))
  f217 := Try.func12.trans (congrArg some (by kernel_rfl))
  f266 := Try.func13.trans (congrArg some (by kernel_rfl))
  t3 := Try.underlying3
  a3 := Try.isAgg3
  z3 := Try.sizeOf3
  v3 := Try.zeroValue3
  t5 := Try.underlying5
  a5 := Try.isAgg5
  z5 := Try.sizeOf5
  v5 := Try.zeroValue5
  t9 := Try.underlying9
  a9 := Try.isAgg9
  z9 := Try.sizeOf9
  v9 := Try.zeroValue9 }
open Go.RowKit in
/-- strings.IndexByte: "IndexByte returns the index of the first instance of c in s, or -1 if c is not present in s.": IT RETURNS 'Lib.indexByte s c'; the world is as it was. (LAID: no walk: one application.) -/
theorem Try.strings_IndexByte (s : ByteArray) (c : Int) (w : World) :
    Calls Try.prog 10 #[.string s, .int .u8 c] w fun e w' => e = .returned (.int .i64 (Lib.indexByte s.data.toList c.toNat.toUInt8)) ∧ w' = w := Any.strings_IndexByte Try.lays137 s c w
end Go.Proofs
namespace Go.Proofs.Ytgnfapnnbcafbaa.GFnNameSigns
open Go.RowKit Go.Proofs.YtgnfapnnbcafbaaW.PrintWords
def strings_IndexByte.f (a0 : ByteArray) (a1 : Int) : Option (Int) := some (Lib.indexByte a0.data.toList a1.toNat.toUInt8)
theorem strings_IndexByte.calls (a0 : ByteArray) (a1 : Int) (r : Int) (w : World) (h : strings_IndexByte.f a0 a1 = some r) :
    Calls Try.prog 10 #[.string a0, .int .u8 a1] w fun e w' => e = .returned (.int .i64 r) ∧ Drawn0 w w' := by
  obtain rfl := Option.some.inj h
  refine (Try.strings_IndexByte a0 a1 w).mono ?_
  rintro e w' ⟨rfl, rfl⟩
  exact ⟨rfl, Drawn0.refl _⟩
end Go.Proofs.Ytgnfapnnbcafbaa.GFnNameSigns
