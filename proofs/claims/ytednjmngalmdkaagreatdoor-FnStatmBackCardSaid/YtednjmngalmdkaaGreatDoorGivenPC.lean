/- What the printed functions of the proc statements call of the library: strings.Fields, strconv.ParseUint, math.Float64bits, texts.Read; and the fact on tables that they lean on (TabW). Conditions: ASCII texts; digits that fit. -/
import Derived.Test.YtednjmngalmdkaaGreatDoorGPCx0
import Derived.Test.YtednjmngalmdkaaGreatDoorGivenPU
import Derived.Test.YtednjmngalmdkaaGreatDoorGivenShelfP
import Derived.Laws.Externs
import Derived.Lib.ConvBytes
namespace Go.Proofs.YtednjmngalmdkaaGreatDoor.GPC
open Go.RowKit Go.Proofs.YtednjmngalmdkaaGreatDoorW.PrintWords Go.Proofs.YtednjmngalmdkaaGreatDoorW.PrintLast
set_option linter.unusedVariables false
/-- The library's tables and variables, as the program's start lays them. -/
def TabW (w : World) : Prop := Lib.TabIs Tryz.prog w "strings.asciiSpace" .u8 Lib.asciiSpaceTab ∧
  w.var? Tryz.prog "internal/strconv.optimize" = some #[.bool true] ∧
  w.var? Tryz.prog "internal/strconv.float64info" = some #[.int .u64 52, .int .u64 11, .int .i64 (-1023)] ∧
  ∃ b o c, w.var? Tryz.prog "internal/strconv.float64pow10" = some #[.slice (some ⟨b, o, none⟩) 23 c] ∧ w.cell? ⟨b, o + 1, none⟩ = some (.float .f64 4621819117588971520) ∧ w.cell? ⟨b, o + 2, none⟩ = some (.float .f64 4636737291354636288)
theorem var_below {w w1 : World} {n : String} {cs : Array Value} (h : w.var? Tryz.prog n = some cs) (hb : Below w.heap.size w w1) : w1.var? Tryz.prog n = some cs := by
  unfold World.var? at h ⊢
  obtain ⟨g, hg, h⟩ := Option.bind_eq_some_iff.1 h
  rw [hg]
  simp only [Option.bind_some]
  cases hc : w.heap[g]? with
  | none => rw [hc] at h; cases h
  | some o =>
    have hlt : g < w.heap.size := (Array.getElem?_eq_some_iff.1 hc).1
    rw [hb.block g hlt, hc]
    rw [hc] at h
    exact h
theorem tabW_below {w w1 : World} (h : TabW w) (hb : Below w.heap.size w w1) : TabW w1 := by
  obtain ⟨h1, h4, h5, b, o, c, h2, h6, h3⟩ := h
  exact ⟨var_below h1 hb, var_below h4 hb, var_below h5 hb, b, o, c, var_below h2 hb, (hb.cell (World.block_lt_of_cell? w _ h6)).trans h6, (hb.cell (World.block_lt_of_cell? w _ h3)).trans h3⟩
def strings_Fields.f (a0 : ByteArray) : Option (List ByteArray) :=
  if a0.size < 4294967281 ∧ (a0.data.toList.all fun b => decide (b.toNat < 128)) = true then some ((Lib.fields a0.data.toList).map fun l => ⟨l.toArray⟩) else none
theorem strings_Fields.calls (a0 : ByteArray) (r : List ByteArray) (w : World) (hT_ : TabW w) (h : strings_Fields.f a0 = some r) :
    Calls Tryz.prog 190 #[.string a0] w fun e w' => ∃ v0_ : Value, e = .returned (v0_) ∧ Kd.R Kd.string 9 w' w.heap.size (fun _ => True) v0_ r ∧ Below w.heap.size w w' := by
  unfold strings_Fields.f at h
  split at h
  · rename_i hc
    obtain rfl := Option.some.inj h
    refine (Tryz.strings_Fields_laid a0 w hc.1 (fun j b hj => by
      have := List.all_eq_true.1 hc.2 b (List.mem_of_getElem? hj)
      simpa using this) hT_.1).mono ?_
    rintro e w' ⟨rfl, rfl⟩
    have hlen : ((Lib.fields a0.data.toList).map fun l => (⟨l.toArray⟩ : ByteArray)).length = (Lib.fields a0.data.toList).length := List.length_map _
    refine ⟨_, rfl, ⟨fun _ _ => trivial, (Lib.fields a0.data.toList).map fun l => Value.string ⟨l.toArray⟩, ⟨?_, .inr ⟨w.heap.size, (Lib.fields a0.data.toList).length, _, ?_, Nat.le_refl _, heap_alloc_new _ _, ?_, ?_, ?_, ?_⟩⟩, ⟨?_, fun j p hj => ?_⟩⟩, below_alloc (Below.refl _ _) _⟩
    · simp [Kd.string, Kd.scalar]
    · rw [hlen]
    · rw [hlen]; exact Nat.le_refl _
    · have h1 := Lib.fields_length a0.data.toList
      have h2 : ∀ (ws : Bool) (l : List UInt8), Lib.cntF ws l ≤ l.length := by
        intro ws l
        induction l generalizing ws with
        | nil => simp [Lib.cntF]
        | cons b l ih =>
          have := ih (Lib.isSp b)
          simp only [Lib.cntF, List.length_cons]
          split <;> omega
      have h3 := h2 true a0.data.toList
      have h4 : a0.data.toList.length = a0.size := Array.length_toList
      have := hc.1
      unfold maxLen
      omega
    · simp [Kd.string, Kd.scalar]
    · simp only [Kd.string, Kd.scalar, List.length_map, Nat.mul_one]
      rw [List.take_of_length_le (by simp)]
    · simp [Kd.string, Kd.scalar]
    · rw [List.getElem?_map] at hj
      obtain ⟨l, hl, rfl⟩ := Option.map_eq_some_iff.1 hj
      show ((((Lib.fields a0.data.toList).map fun l => Value.string ⟨l.toArray⟩).drop (j * 1)).take 1) = [Value.string ⟨l.toArray⟩]
      obtain ⟨hjl, he⟩ := List.getElem?_eq_some_iff.1 hl
      rw [Nat.mul_one, List.drop_eq_getElem_cons (by simpa using hjl), List.take_succ_cons, List.take_zero]
      simp [he]
  · cases h
def strconv_ParseUint.f (a0 : ByteArray) (a1 : Int) (a2 : Int) : Option (Int × Option Int) := (istrconv_ParseUint.f a0 a1 a2).bind fun r => if r.2 = none then some r else none
set_option maxHeartbeats 1000000 in
theorem strconv_ParseUint.calls (a0 : ByteArray) (a1 : Int) (a2 : Int) (r1 : Int) (r2 : Option Int) (w : World) (h : strconv_ParseUint.f a0 a1 a2 = some (r1, r2)) :
    Calls Tryz.prog 158 #[.string a0, .int .i64 a1, .int .i64 a2] w fun e w' => e = .returned (.tuple #[.int .u64 r1, errW r2]) ∧ Below w.heap.size w w' := by
  unfold strconv_ParseUint.f at h
  obtain ⟨⟨r, q⟩, h1, h2⟩ := Option.bind_eq_some_iff.1 h
  split at h2
  · rename_i hq
    simp only at hq
    subst hq
    obtain ⟨rfl, rfl⟩ := Prod.mk.inj (Option.some.inj h2)
    clear h h2
    have H := Aside0.mk h1
    clear h1
    go_enter Tryz.func158, Tryz.ntmps158
    go_wp2_with (first | (go_at_call 195; refine (istrconv_ParseUint.calls a0 a1 a2 r none _ H.out).mono ?_; rintro e w1 ⟨rfl, hb1⟩; have HB := Aside0.mk hb1; clear hb1; simp only [errW_none]))
    go_ret2
    exact ⟨rfl, HB.out⟩
  · cases h2
/-- math.Float64bits: the model stands in for it: a float's bits. -/
def math_Float64bits.f (a0 : Nat) : Option (Int) := some (a0 : Int)
theorem f64bits_run (b : Nat) (w : World) : (callFunc 136 #[.float .f64 b]).run Tryz.prog w = .ok (.value (.int .u64 b)) w := by
  rw [run_callFunc_extern (e := Go.Extern.MathFloatBits.float64bits) Tryz.func136 (by kernel_rfl) (by kernel_rfl) (by kernel_rfl) (by kernel_rfl)]
  rfl
theorem f64bits_at {b : Nat} {r : Int} (h : math_Float64bits.f b = some r) (w : World) : (callFunc 136 #[.float .f64 b]).run Tryz.prog w = .ok (.value (.int .u64 r)) w := by
  obtain rfl := Option.some.inj h
  exact f64bits_run b w
/-- texts.Read: the text's bytes, at most 1048576 of them. -/
def texts_Read.f (a0 : ByteArray) : Option (List Int × Option Int) := if a0.size ≤ 1048576 then some (a0.data.toList.map (fun b => (b.toNat : Int)), none) else none
set_option maxHeartbeats 1000000 in
theorem texts_Read.calls (a0 : ByteArray) (r1 : List Int) (r2 : Option Int) (w : World) (h : texts_Read.f a0 = some (r1, r2)) :
    Calls Tryz.prog 140 #[.string a0] w fun e w' => ∃ v0_ : Value, e = .returned (.tuple #[v0_, errW r2]) ∧ Kd.V (Kd.int .u8) 5 w' w.heap.size (fun k_ => (w.heap.size ≤ k_)) v0_ r1 ∧ Below w.heap.size w w' := by
  unfold texts_Read.f at h
  split at h
  · rename_i hs
    obtain ⟨rfl, rfl⟩ := Prod.mk.inj (Option.some.inj h)
    clear h
    have c0 : decide ((1048576 : Int) < (a0.size : Int)) = false := decide_eq_false (by omega)
    have c1 : decide (1048576 < a0.size) = false := decide_eq_false (by omega)
    have hconv := fun W => Lib.run_convert_string_bytes (P := Tryz.prog) W 9 173 5 a0 Tryz.underlying9 Tryz.underlying173
    go_enter Tryz.func140, Tryz.ntmps140
    go_wp2
    go_ret2
    have hlen : (a0.data.toList.map (fun b => (b.toNat : Int))).length = a0.size := (List.length_map _).trans Array.length_toList
    refine ⟨_, by first | rfl | (simp only [errW_none]; done), ⟨some ⟨w.heap.size, 0, none⟩, grownCap w a0.size 0 5, by rw [hlen]; rfl, by rw [hlen]; exact grownCap_ge w a0.size 0 5, ?_⟩, Lib.bytesWorld_below w 5 a0⟩
    intro W' hW
    have hcell : ∀ j, j < a0.size → W'.cell? ⟨w.heap.size, j, none⟩ = some (.int .u8 (a0.data.toList.getD j 0).toNat) := fun j hj => by
      rw [← Lib.bytesWorld_cell w 5 a0 j hj]
      have := hW w.heap.size (Nat.le_refl _) (by rw [Lib.bytesWorld_size]; omega)
      simp only [World.cell?, this]
    refine ⟨rfl, by rw [hlen]; omega, fun _ => ⟨_, rfl, fun j p hj => ?_⟩⟩
    rw [List.getElem?_map] at hj
    obtain ⟨b, hb, rfl⟩ := Option.map_eq_some_iff.1 hj
    have hjl : j < a0.size := by
      have := (List.getElem?_eq_some_iff.1 hb).1
      rwa [Array.length_toList] at this
    have hc := hcell j hjl
    rw [List.getD, hb] at hc
    refine ⟨[.int .u8 b.toNat], rfl, rfl, fun i u hu => ?_⟩
    cases i with
    | zero =>
      obtain rfl := Option.some.inj hu
      have ha : (⟨w.heap.size, 0, none⟩ : Addr).add (j * (Kd.int IntKind.u8).sz + 0) = ⟨w.heap.size, j, none⟩ := by simp [Addr.add, Kd.int, Kd.scalar]; exact Eq.symm
      rw [ha]
      exact hc
    | succ i => simp at hu
  · cases h
end Go.Proofs.YtednjmngalmdkaaGreatDoor.GPC
