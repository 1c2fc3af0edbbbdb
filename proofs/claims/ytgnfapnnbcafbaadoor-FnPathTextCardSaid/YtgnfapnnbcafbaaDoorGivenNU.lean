/- strings.IndexByte, and strconv.ParseInt at base 16 and 8 bits where it answers a number: as the printed functions want them. Conditions: as said. -/
import Derived.Shelf.Small.Strs
import Derived.Shelf.Strings.Search1
import Derived.Test.YtgnfapnnbcafbaaDoorGivenPU
namespace Go.Proofs
open Go.Shelf
def Tryd.lays137_ren : Go.Shelf.Ren := ⟨fun | 137 => 54 | 217 => 61 | 266 => 72 | n => n, fun | 9 => 9 | 5 => 5 | 3 => 3 | n => n, fun | n => n⟩
theorem Tryd.lays137 : Go.Proofs.Lays.n137 Tryd.prog Tryd.lays137_ren := {
  mixed := by kernel_rfl
  f137 := Tryd.func54.trans (congrArg some (by kernel_rfl))
  f217 := Tryd.func61.trans (congrArg some (by kernel_rfl))
  f266 := Tryd.func72.trans (congrArg some (by kernel_rfl))
  t3 := Tryd.underlying3
  a3 := Tryd.isAgg3
  z3 := Tryd.sizeOf3
  v3 := Tryd.zeroValue3
  t5 := Tryd.underlying5
  a5 := Tryd.isAgg5
  z5 := Tryd.sizeOf5
  v5 := Tryd.zeroValue5
  t9 := Tryd.underlying9
  a9 := Tryd.isAgg9
  z9 := Tryd.sizeOf9
  v9 := Tryd.zeroValue9 }
open Go.RowKit in
theorem Tryd.strings_IndexByte (s : ByteArray) (c : Int) (w : World) :
    Calls Tryd.prog 54 #[.string s, .int .u8 c] w fun e w' => e = .returned (.int .i64 (Lib.indexByte s.data.toList c.toNat.toUInt8)) ∧ w' = w := Any.strings_IndexByte Tryd.lays137 s c w
end Go.Proofs
namespace Go.Proofs.YtgnfapnnbcafbaaDoor.GNU
open Go.RowKit Go.Proofs.YtgnfapnnbcafbaaDoorW.PrintWords
def strings_IndexByte.f (a0 : ByteArray) (a1 : Int) : Option (Int) := some (Lib.indexByte a0.data.toList a1.toNat.toUInt8)
theorem strings_IndexByte.calls (a0 : ByteArray) (a1 : Int) (r : Int) (w : World) (h : strings_IndexByte.f a0 a1 = some r) :
    Calls Tryd.prog 54 #[.string a0, .int .u8 a1] w fun e w' => e = .returned (.int .i64 r) ∧ Drawn0 w w' := by
  obtain rfl := Option.some.inj h
  refine (Tryd.strings_IndexByte a0 a1 w).mono ?_
  rintro e w' ⟨rfl, rfl⟩
  exact ⟨rfl, Drawn0.refl _⟩

set_option maxHeartbeats 4000000 in
set_option maxRecDepth 100000 in
theorem pint_16_8 (t : ByteArray) (hne : t.size ≠ 0) (hmax : t.size ≤ 9223372036854775806) (n : Nat) (hn : puN 16 255 0 t.data.toList = some n) (h128 : n < 128)
    (h43 : ¬ ((t[0]'(by omega)).toNat : Int) = 43) (h45 : ¬ ((t[0]'(by omega)).toNat : Int) = 45) (w : World) :
    Calls Tryd.prog 59 #[.string t, .int .i64 16, .int .i64 8] w fun e w' => e = .returned (.tuple #[.int .i64 (n : Int), .nilIface]) ∧ w' = Lib.bytesWorld w 5 t := by
  have hemp : t.toList.isEmpty = false := by
    rw [← decide_eq_emptyBytes]
    exact decide_eq_false (fun h => hne (by rw [h]; rfl))
  have h0 : 0 < t.size := by omega
  have HN := Lib.hid hn
  clear hn
  go_enter Tryd.func59, Tryd.ntmps59
  go_wp2_with (go_at_call 67; refine (pu_16_8 t hne hmax n HN.out w).mono ?_; rintro e w' ⟨rfl, rfl⟩)
  go_ret2
  exact ⟨rfl, rfl⟩
set_option maxHeartbeats 4000000 in
set_option maxRecDepth 100000 in
theorem pint_pub_16_8 (t : ByteArray) (hne : t.size ≠ 0) (hmax : t.size ≤ 9223372036854775806) (n : Nat) (hn : puN 16 255 0 t.data.toList = some n) (h128 : n < 128)
    (h43 : ¬ ((t[0]'(by omega)).toNat : Int) = 43) (h45 : ¬ ((t[0]'(by omega)).toNat : Int) = 45) (w : World) :
    Calls Tryd.prog 53 #[.string t, .int .i64 16, .int .i64 8] w fun e w' => e = .returned (.tuple #[.int .i64 (n : Int), .nilIface]) ∧ w' = Lib.bytesWorld w 5 t := by
  have HN := Lib.hid hn
  clear hn
  go_enter Tryd.func53, Tryd.ntmps53
  go_wp2_with (go_at_call 59; refine (pint_16_8 t hne hmax n HN.out h128 h43 h45 w).mono ?_; rintro e w' ⟨rfl, rfl⟩)
  go_ret2
  exact ⟨rfl, rfl⟩

def strconv_ParseInt.f (a0 : ByteArray) (a1 : Int) (a2 : Int) : Option (Int × Option Int) :=
  if a1 = 16 ∧ a2 = 8 ∧ a0.size ≠ 0 ∧ a0.size ≤ 9223372036854775806 then
    match puN 16 255 0 a0.data.toList with
    | some n => if n < 128 ∧ bt a0 0 ≠ 43 ∧ bt a0 0 ≠ 45 then some ((n : Int), none) else none
    | none => none
  else none
theorem strconv_ParseInt.calls (a0 : ByteArray) (a1 : Int) (a2 : Int) (r1 : Int) (r2 : Option Int) (w : World) (h : strconv_ParseInt.f a0 a1 a2 = some (r1, r2)) :
    Calls Tryd.prog 53 #[.string a0, .int .i64 a1, .int .i64 a2] w fun e w' => e = .returned (.tuple #[.int .i64 r1, errW r2]) ∧ Below w.heap.size w w' := by
  unfold strconv_ParseInt.f at h
  by_cases hc : a1 = 16 ∧ a2 = 8 ∧ a0.size ≠ 0 ∧ a0.size ≤ 9223372036854775806
  · rw [if_pos hc] at h
    obtain ⟨rfl, rfl, hne, hmax⟩ := hc
    cases hp : puN 16 255 0 a0.data.toList with
    | none => rw [hp] at h; cases h
    | some n =>
      rw [hp] at h
      simp only at h
      by_cases h2 : n < 128 ∧ bt a0 0 ≠ 43 ∧ bt a0 0 ≠ 45
      · rw [if_pos h2] at h
        obtain ⟨rfl, rfl⟩ : (n : Int) = r1 ∧ none = r2 := by simpa using h
        obtain ⟨h128, h43, h45⟩ := h2
        have e0 : ((a0[0]'(by omega)).toNat : Int) = bt a0 0 := bt_at a0 0 (by simp; omega)
        refine (pint_pub_16_8 a0 hne hmax n hp h128 (by rw [e0]; exact h43) (by rw [e0]; exact h45) w).mono ?_
        rintro e w' ⟨rfl, rfl⟩
        exact ⟨rfl, Lib.bytesWorld_below w 5 a0⟩
      · rw [if_neg h2] at h; cases h
  · rw [if_neg hc] at h; cases h
end Go.Proofs.YtgnfapnnbcafbaaDoor.GNU
