/- The tables as laid (TabW), out of what the card says of the listed variables. No condition. -/
import Derived.Test.YtednjmngalmdkaaGreatDoorGivenPC
import Derived.Test.YtednjmngalmdkaaGreatDoorRows
import Derived.Lib.LaidU8
import Derived.MakeChecks
import Derived.Deep.Slices
namespace Go.Proofs.YtednjmngalmdkaaGreatDoor.GPC
open Go Go.Lib Go.ChangeShapes Go.WideShapes Go.Proofs.YtednjmngalmdkaaGreatDoor 
set_option linter.unusedVariables false
theorem trod_flt {H : Type} {enc : TypeId × Value → H} {P : Program} {w : World} {base : Nat} {spare : Nat → Bool} {held : Bool} {fuel : Nat} {t : TypeId} {cs : List Value} {x : DataW H × List MemPlace} {k : FloatKind} (ht : P.underlying t = some (.float k)) (h : DataW.trod enc P w base spare held fuel t cs = some x) : ∃ n, cs = [.float k n] ∧ x = (.lit (.float k n), []) := by
  cases fuel with
  | zero => simp [DataW.trod] at h
  | succ n =>
    unfold DataW.trod at h
    rw [ht] at h
    split at h <;> simp_all
theorem mem_laid {laid : List (String × DataW Unit)} {n : String} {d : DataW Unit} {w : World} (h : laidMet Tryz.prog laid w) (hm : (n, d) ∈ laid) : VarReads Tryz.prog w n d := Lib.laidMet.reads h hm
theorem space_data : (Rows.laid_strings_asciiSpace : DataW Unit) = tabData .u8 asciiSpaceTab := by kernel_rfl
theorem reads_cells {n : String} {d : DataW Unit} {w : World} {g : Nat} {t : TypeId} (hg : Tryz.prog.globalNamed n = some g) (hy : (Tryz.prog.globals[g]?).map (·.type) = some t) (h : VarReads Tryz.prog w n d) :
    ∃ cs fuel p, w.var? Tryz.prog n = some cs ∧ DataW.trod (fun _ => ()) Tryz.prog w 0 (fun _ => true) false fuel t cs.toList = some (d, p) := by
  obtain ⟨g', t', cs, fuel, p, hg', hty, hvar, hd⟩ := h
  obtain rfl := Option.some.inj (hg.symm.trans hg')
  obtain rfl := Option.some.inj (hy.symm.trans hty)
  exact ⟨cs, fuel, p, hvar, hd⟩
theorem tab_space {w : World} (h : VarReads Tryz.prog w "strings.asciiSpace" Rows.laid_strings_asciiSpace) : Lib.TabIs Tryz.prog w "strings.asciiSpace" .u8 Lib.asciiSpaceTab := by
  rw [space_data] at h
  obtain ⟨cs, fuel, p, hvar, hd⟩ := reads_cells (t := 242) (show Tryz.prog.globalNamed "strings.asciiSpace" = some 1 by kernel_rfl) (by kernel_rfl) h
  unfold Lib.TabIs
  rw [hvar, ← cells_of_tab (P := Tryz.prog) Tryz.underlying242 Tryz.underlying5 (by kernel_rfl) (by kernel_rfl) hd]
theorem tab_optimize {w : World} (h : VarReads Tryz.prog w "internal/strconv.optimize" Rows.laid_internal_strconv_optimize) : w.var? Tryz.prog "internal/strconv.optimize" = some #[.bool true] := by
  obtain ⟨cs, fuel, p, hvar, hd⟩ := reads_cells (t := 4) (show Tryz.prog.globalNamed "internal/strconv.optimize" = some 6 by kernel_rfl) (by kernel_rfl) h
  obtain ⟨b, hc, he⟩ := DataW.trod_bool Tryz.underlying4 hd
  have hb : b = true := by
    have := congrArg Prod.fst he
    simpa [Rows.laid_internal_strconv_optimize, eq_comm] using this
  subst hb
  rw [hvar]
  congr 1
  exact Array.toList_inj.1 hc
set_option maxRecDepth 100000 in
theorem tab_finfo {w : World} (h : VarReads Tryz.prog w "internal/strconv.float64info" Rows.laid_internal_strconv_float64info) : w.var? Tryz.prog "internal/strconv.float64info" = some #[.int .u64 52, .int .u64 11, .int .i64 (-1023)] := by
  obtain ⟨cs, fuel, p, hvar, hd⟩ := reads_cells (t := 300) (show Tryz.prog.globalNamed "internal/strconv.float64info" = some 7 by kernel_rfl) (by kernel_rfl) h
  obtain ⟨xs, n, rfl, hx, hl, hxl, hf⟩ := DataW.trod_struct Tryz.underlying300 hd
  have hc3 : Tryz.prog.cellsOf 300 = 3 := by kernel_rfl
  have cU : Tryz.prog.cellsOf 227 = 1 := by kernel_rfl
  have cI : Tryz.prog.cellsOf 3 = 1 := by kernel_rfl
  rw [hc3] at hl
  have e1 : xs.map (·.1) = [.lit (.int .u64 52), .lit (.int .u64 11), .lit (.int .i64 (-1023))] := by
    have := congrArg Prod.fst hx
    simpa [Rows.laid_internal_strconv_float64info, eq_comm] using this
  have g0 := hf 0 { name := "mantbits", type := 227, offset := 0, embedded := false, tag := "", pkgPath := "internal/strconv", byteOffset := 0 } rfl
  have g1 := hf 1 { name := "expbits", type := 227, offset := 1, embedded := false, tag := "", pkgPath := "internal/strconv", byteOffset := 8 } rfl
  have g2 := hf 2 { name := "bias", type := 3, offset := 2, embedded := false, tag := "", pkgPath := "internal/strconv", byteOffset := 16 } rfl
  dsimp only at g0 g1 g2
  rw [cU] at g0 g1
  rw [cI] at g2
  match hxs : xs, e1 with
  | [a, b, c], e1 =>
    simp only [List.map_cons, List.map_nil, List.cons.injEq, and_true] at e1
    obtain ⟨ea, eb, ec⟩ := e1
    simp only [List.getElem?_cons_zero, List.getElem?_cons_succ] at g0 g1 g2
    obtain ⟨z0, h0, he0, _⟩ := DataW.trod_int Tryz.underlying227 g0
    obtain ⟨z1, h1, he1, _⟩ := DataW.trod_int Tryz.underlying227 g1
    obtain ⟨z2, h2, he2, _⟩ := DataW.trod_int Tryz.underlying3 g2
    rw [he0] at ea
    rw [he1] at eb
    rw [he2] at ec
    simp only [DataW.lit.injEq, Lit.int.injEq, true_and] at ea eb ec
    subst ea; subst eb; subst ec
    rw [hvar]
    congr 1
    apply Array.toList_inj.1
    match hcs : cs.toList, hl with
    | [u, v, y], _ =>
      rw [hcs] at h0 h1 h2
      simp at h0 h1 h2
      rw [h0, h1, h2]
set_option maxRecDepth 100000 in
theorem tab_pow10 {w : World} (h : VarReads Tryz.prog w "internal/strconv.float64pow10" Rows.laid_internal_strconv_float64pow10) :
    ∃ b o c, w.var? Tryz.prog "internal/strconv.float64pow10" = some #[.slice (some ⟨b, o, none⟩) 23 c] ∧ w.cell? ⟨b, o + 1, none⟩ = some (.float .f64 4621819117588971520) ∧ w.cell? ⟨b, o + 2, none⟩ = some (.float .f64 4636737291354636288) := by
  obtain ⟨cs, fuel, p, hvar, hd⟩ := reads_cells (t := 73) (show Tryz.prog.globalNamed "internal/strconv.float64pow10" = some 10 by kernel_rfl) (by kernel_rfl) h
  rcases Go.Deep.open_slice1 Tryz.underlying73 (by kernel_rfl) hd with ⟨_, hx⟩ | ⟨a, len, cap, m, n, V, D, Pl, hcs, _, hlc, _, hm, hx, hi⟩
  · cases hx
  · have e0 := congrArg Prod.fst hx
    simp only [Rows.laid_internal_strconv_float64pow10, DataW.slice.injEq] at e0
    obtain ⟨eE, eR⟩ := e0
    have hlen : len = 23 := by
      have := congrArg List.length eE
      simpa [eq_comm] using this
    subst hlen
    have hm23 : 23 ≤ m := by rw [hm]; split <;> omega
    have d1 : D 1 = .lit (.float .f64 4621819117588971520) := by
      have := congrArg (·[1]?) eE
      simpa [eq_comm] using this
    have d2 : D 2 = .lit (.float .f64 4636737291354636288) := by
      have := congrArg (·[2]?) eE
      simpa [eq_comm] using this
    obtain ⟨c1, t1⟩ := hi 1 (by omega)
    obtain ⟨c2, t2⟩ := hi 2 (by omega)
    obtain ⟨n1, v1, x1⟩ := trod_flt Tryz.underlying36 t1
    obtain ⟨n2, v2, x2⟩ := trod_flt Tryz.underlying36 t2
    simp only [Prod.mk.injEq] at x1 x2
    have q1 := x1.1.symm.trans d1
    have q2 := x2.1.symm.trans d2
    simp only [DataW.lit.injEq, Lit.float.injEq, true_and] at q1 q2
    subst q1; subst q2
    simp only [List.cons.injEq, and_true] at v1 v2
    rw [v1] at c1
    rw [v2] at c2
    obtain ⟨R, o, sR⟩ := a
    obtain rfl : sR = none := by
      obtain ⟨c00, _⟩ := hi 0 (by omega)
      rw [show (Addr.add ⟨R, o, sR⟩ 0) = ⟨R, o, sR⟩ by simp [Addr.add]] at c00
      exact Go.Proofs.cell_spot c00
    · refine ⟨R, o, cap, ?_, by simpa [Addr.add] using c1, by simpa [Addr.add] using c2⟩
      rw [hvar]
      congr 1
      exact Array.toList_inj.1 hcs
theorem tabW_of {laid : List (String × DataW Unit)} {w : World} (h : laidMet Tryz.prog laid w) (h1 : ("strings.asciiSpace", Rows.laid_strings_asciiSpace) ∈ laid) (h2 : ("internal/strconv.optimize", Rows.laid_internal_strconv_optimize) ∈ laid)
    (h3 : ("internal/strconv.float64info", Rows.laid_internal_strconv_float64info) ∈ laid) (h4 : ("internal/strconv.float64pow10", Rows.laid_internal_strconv_float64pow10) ∈ laid) : TabW w :=
  ⟨tab_space (mem_laid h h1), tab_optimize (mem_laid h h2), tab_finfo (mem_laid h h3), tab_pow10 (mem_laid h h4)⟩
end Go.Proofs.YtednjmngalmdkaaGreatDoor.GPC
