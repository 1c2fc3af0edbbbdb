/- strconv.ParseFloat of a text of at most 18 digits with at most one point, two digits behind it at most: the exact road. Conditions: fltOk; the tables as laid (TabW). -/
import Derived.Test.YtednjmngalmdkaaGreatDoorGivenPF1
import Derived.Laws.FloatArith
import Derived.Laws.Externs
import Derived.OwnWalk
import Derived.Laws.ShiftsVarLaws
namespace Go.Proofs.YtednjmngalmdkaaGreatDoor.GPC
open Go.RowKit Go.Proofs.YtednjmngalmdkaaGreatDoorW.PrintWords Go.Proofs.YtednjmngalmdkaaGreatDoorW.PrintLast Go.Proofs.YtednjmngalmdkaaGreatDoor.PF
set_option linter.unusedVariables false
/-- The float of a mantissa and an exponent 0, -1 or -2. -/
def fltOf (m e : Int) : Option Nat :=
  if e = 0 then some (floatOfInt .f64 m)
  else if e = -1 then floatBits .quo .f64 (floatOfInt .f64 m) 4621819117588971520
  else if e = -2 then floatBits .quo .f64 (floatOfInt .f64 m) 4636737291354636288
  else none
theorem tab_info {w : World} (h : TabW w) : w.cell? ⟨7, 0, none⟩ = some (.int .u64 52) := by
  have := World.var?_cell (show Tryz.prog.globalNamed "internal/strconv.float64info" = some 7 by kernel_rfl) h.2.2.1 0
  simpa using this
theorem tab_opt {w : World} (h : TabW w) : w.cell? ⟨6, 0, none⟩ = some (.bool true) := by
  have := World.var?_cell (show Tryz.prog.globalNamed "internal/strconv.optimize" = some 6 by kernel_rfl) h.2.1 0
  simpa using this
theorem tab_pow {w : World} (h : TabW w) : ∃ b o c, w.cell? ⟨10, 0, none⟩ = some (.slice (some ⟨b, o, none⟩) 23 c) ∧ w.cell? ⟨b, o + 1, none⟩ = some (.float .f64 4621819117588971520) ∧ w.cell? ⟨b, o + 2, none⟩ = some (.float .f64 4636737291354636288) := by
  obtain ⟨b, o, c, h1, h2, h3⟩ := h.2.2.2
  have := World.var?_cell (show Tryz.prog.globalNamed "internal/strconv.float64pow10" = some 10 by kernel_rfl) h1 0
  exact ⟨b, o, c, by simpa using this, h2, h3⟩
set_option maxHeartbeats 8000000 in
set_option maxRecDepth 100000 in
theorem f_exact (m e : Int) (r : Nat) (w : World) (hT : TabW w) (h0 : 0 ≤ m) (h1 : m < 4503599627370496) (h : fltOf m e = some r) :
    Calls Tryz.prog 241 #[.int .u64 m, .int .i64 e, .bool false] w fun x w' => x = .returned (.tuple #[.float .f64 r, .bool true]) ∧ w' = w := by
  have hi := tab_info hT
  obtain ⟨b, o, c, hp0, hp1, hp2⟩ := tab_pow hT
  have hs : ∀ c : Nat, c = 52 → m / 2 ^ c = 0 := by rintro c rfl; exact Int.ediv_eq_zero_of_lt h0 (by omega)
  have hs1 : m / 2 ^ 52 = 0 := Int.ediv_eq_zero_of_lt h0 (by omega)
  have hs2 : m / 4503599627370496 = 0 := Int.ediv_eq_zero_of_lt h0 (by omega)
  clear hT hs
  unfold fltOf at h
  split at h
  · rename_i he
    subst he
    obtain rfl := Option.some.inj h
    clear h
    go_enter Tryz.func241, Tryz.ntmps241
    go_wp2
    go_ret2
    exact ⟨rfl, rfl⟩
  · split at h
    · rename_i _ he
      subst he
      have hq := fun W => run_float_arith (P := Tryz.prog) W .quo 36 .f64 _ _ r h
      clear h
      go_enter Tryz.func241, Tryz.ntmps241
      go_wp2
      go_ret2
      exact ⟨rfl, rfl⟩
    · split at h
      · rename_i _ _ he
        subst he
        have hq := fun W => run_float_arith (P := Tryz.prog) W .quo 36 .f64 _ _ r h
        clear h
        go_enter Tryz.func241, Tryz.ntmps241
        go_wp2
        go_ret2
        exact ⟨rfl, rfl⟩
      · cases h
/-- The float that such a text says. -/
def fltF (s : ByteArray) : Option Nat :=
  if rfOk s = true ∧ (rfAt s s.size).m < 4503599627370496 then (if (rfAt s s.size).m = 0 then some 0 else fltOf (rfAt s s.size).m (rfAt s s.size).exp) else none
theorem fltF_some {s : ByteArray} {r : Nat} (h : fltF s = some r) : rfOk s = true ∧ 0 ≤ (rfAt s s.size).m ∧ (rfAt s s.size).m < 4503599627370496 ∧ ((rfAt s s.size).m = 0 ∧ r = 0 ∨ ¬ (rfAt s s.size).m = 0 ∧ fltOf (rfAt s s.size).m (rfAt s s.size).exp = some r) := by
  unfold fltF at h
  split at h
  · rename_i hc
    refine ⟨hc.1, (rf_bounds s hc.1 s.size (Nat.le_refl _)).1, hc.2, ?_⟩
    split at h
    · rename_i hz
      exact .inl ⟨hz, (Option.some.inj h).symm⟩
    · rename_i hz
      exact .inr ⟨hz, h⟩
  · cases h
theorem fltOf_exp {m e : Int} {r : Nat} (h : fltOf m e = some r) : e = 0 ∨ e = -1 ∨ e = -2 := by
  unfold fltOf at h
  split at h
  · omega
  · split at h
    · omega
    · split at h
      · omega
      · cases h
theorem frombits_run (b : Nat) (w : World) : (callFunc 240 #[.int .u64 b]).run Tryz.prog w = .ok (.value (.float .f64 b)) w := by
  rw [run_callFunc_extern (e := Go.Extern.MathFloatBits.float64frombits) Tryz.func240 (by kernel_rfl) (by kernel_rfl) (by kernel_rfl) (by kernel_rfl)]
  rfl
theorem frombits_run0 (w : World) : (callFunc 240 #[.int .u64 0]).run Tryz.prog w = .ok (.value (.float .f64 0)) w := frombits_run 0 w
set_option maxHeartbeats 8000000 in
set_option maxRecDepth 100000 in
theorem f_atof64 (s : ByteArray) (r : Nat) (w : World) (hT : TabW w) (h : fltF s = some r) :
    Calls Tryz.prog 227 #[.string s] w fun x w' => x = .returned (.tuple #[.float .f64 r, .int .i64 s.size, .nilIface]) ∧ w' = w := by
  obtain ⟨hok, h0, h1, hc⟩ := fltF_some h
  have ho := tab_opt hT
  have HT := Aside0.mk hT
  have HOK := Aside0.mk hok
  have hfb := frombits_run0
  have hb0 : bits BinOp.or IntKind.u64 0 0 = 0 := by decide
  clear h hT hok
  generalize hM : (rfAt s s.size).m = m at *
  generalize hE : (rfAt s s.size).exp = ex at *
  have HM := Aside0.mk hM
  have HE := Aside0.mk hE
  clear hM hE
  rcases hc with ⟨hz, rfl⟩ | ⟨hz, hf⟩
  · subst hz
    go_enter Tryz.func227, Tryz.ntmps227
    go_wp2_with (first
      | (go_at_call 230; refine (rf_special s _ HOK.out).mono ?_; rintro e w1 ⟨rfl, rfl⟩)
      | (go_at_call 231; refine (rf_read s _ HOK.out).mono ?_; rintro e w1 ⟨rfl, rfl⟩; rw [HM.out, HE.out])
      | (go_at_call 239; go_in))
    go_ret3
    exact ⟨rfl, rfl⟩
  · have hmz : (m == 0) = false := beq_eq_false_iff_ne.mpr hz
    have he := fltOf_exp hf
    have e1 : decide (ex > 310) = false := decide_eq_false (by omega)
    have e2 : decide (ex < -345) = false := decide_eq_false (by omega)
    have HF := Aside0.mk hf
    have H0 := Aside0.mk h0
    have H1 := Aside0.mk h1
    clear hf hz h0 h1 he
    go_enter Tryz.func227, Tryz.ntmps227
    go_wp2_with (first
      | (go_at_call 230; refine (rf_special s _ HOK.out).mono ?_; rintro e w1 ⟨rfl, rfl⟩)
      | (go_at_call 231; refine (rf_read s _ HOK.out).mono ?_; rintro e w1 ⟨rfl, rfl⟩; rw [HM.out, HE.out])
      | (go_at_call 241; refine (f_exact m ex r _ HT.out H0.out H1.out HF.out).mono ?_; rintro e w1 ⟨rfl, rfl⟩)
      | go_in)
    go_ret3
    exact ⟨rfl, rfl⟩
def strconv_ParseFloat.f (a0 : ByteArray) (a1 : Int) : Option (Nat × Option Int) := if a1 = 64 then (fltF a0).map fun r => (r, none) else none
set_option maxHeartbeats 4000000 in
set_option maxRecDepth 100000 in
theorem strconv_ParseFloat.calls (a0 : ByteArray) (a1 : Int) (r1 : Nat) (r2 : Option Int) (w : World) (hT_ : TabW w) (h : strconv_ParseFloat.f a0 a1 = some (r1, r2)) :
    Calls Tryz.prog 191 #[.string a0, .int .i64 a1] w fun e w' => e = .returned (.tuple #[.float .f64 r1, errW r2]) ∧ Below w.heap.size w w' := by
  unfold strconv_ParseFloat.f at h
  split at h
  · rename_i h64
    subst h64
    obtain ⟨r, hr, he⟩ := Option.map_eq_some_iff.1 h
    obtain ⟨rfl, rfl⟩ := Prod.mk.inj he
    have HT := Aside0.mk hT_
    have HR := Aside0.mk hr
    clear h he hr hT_
    go_enter Tryz.func191, Tryz.ntmps191
    go_wp2_with (first
      | (go_at_call 227; refine (f_atof64 a0 r _ HT.out HR.out).mono ?_; rintro e w1 ⟨rfl, rfl⟩)
      | go_in)
    go_ret3
    simp only []
    go_wp2
    go_ret2
    exact ⟨rfl, Below.refl _ _⟩
  · cases h
end Go.Proofs.YtednjmngalmdkaaGreatDoor.GPC
