/- procfs.parseLoad, FS.LoadAvg: the three loads of a text. Conditions: an ASCII text whose first three words are such numbers (fltF); the tables as laid. -/
import Derived.Test.YtednjmngalmdkaaGreatDoorGivenPF
import Derived.Test.YtednjmngalmdkaaGreatDoorGPCx7
import Derived.StillTailTactics
import Derived.Deep.QuietTactic
import Derived.BigQuiet
import Derived.Defers
import Derived.Recover
namespace Go.Proofs.YtednjmngalmdkaaGreatDoor.GPC
open Go.RowKit Go.Proofs.YtednjmngalmdkaaGreatDoorW.PrintWords Go.Proofs.YtednjmngalmdkaaGreatDoorW.PrintLast Go.Proofs.YtednjmngalmdkaaGreatDoor.PF
set_option linter.unusedVariables false
set_option linter.unusedSimpArgs false
def loadF (l0 : List Int) : Option (Nat × Nat × Nat) := (strings_Fields.f (strOfNums l0)).bind fun ps =>
  if 3 ≤ ps.length then (fltF (rdOf ByteArray.empty ps 0)).bind fun a => (fltF (rdOf ByteArray.empty ps 1)).bind fun b => (fltF (rdOf ByteArray.empty ps 2)).bind fun c => some (a, b, c) else none
theorem loadF_some {l0 : List Int} {a b c : Nat} (h : loadF l0 = some (a, b, c)) : ∃ ps, strings_Fields.f (strOfNums l0) = some ps ∧ 3 ≤ ps.length ∧ fltF (rdOf ByteArray.empty ps 0) = some a ∧ fltF (rdOf ByteArray.empty ps 1) = some b ∧ fltF (rdOf ByteArray.empty ps 2) = some c := by
  unfold loadF at h
  obtain ⟨ps, h1, h⟩ := Option.bind_eq_some_iff.1 h
  split at h
  · rename_i h3
    obtain ⟨a', ha, h⟩ := Option.bind_eq_some_iff.1 h
    obtain ⟨b', hb, h⟩ := Option.bind_eq_some_iff.1 h
    obtain ⟨c', hc, h⟩ := Option.bind_eq_some_iff.1 h
    simp only [Option.some.injEq, Prod.mk.injEq] at h
    obtain ⟨rfl, rfl, rfl⟩ := h
    exact ⟨ps, h1, h3, ha, hb, hc⟩
  · cases h
theorem pf1 (s : ByteArray) (r : Nat) (w : World) (hT : TabW w) (h : fltF s = some r) : Calls Tryz.prog 191 #[.string s, .int .i64 64] w fun e w' => e = .returned (.tuple #[.float .f64 r, .nilIface]) ∧ Below w.heap.size w w' :=
  (strconv_ParseFloat.calls s 64 r none w hT (by unfold strconv_ParseFloat.f; rw [if_pos rfl, h]; rfl)).mono fun e w' he => he
def ldCells (a b c : Nat) : Obj := .cells #[.float .f64 a, .float .f64 b, .float .f64 c] 36 (0, 0)
def ldObj (a b c : Nat) : Obj := .cells #[.float .f64 a, .float .f64 b, .float .f64 c] 62 (0, 0)
attribute [local go_sem] run_store_float
/-- the loads behind x rounds -/
def ldAt (a b c : Nat) (x : Int) : Obj := ldCells (if 0 < x then a else 0) (if 1 < x then b else 0) (if 2 < x then c else 0)
theorem ldAt_0 (a b c : Nat) : ldAt a b c 0 = ldCells 0 0 0 := rfl
theorem ldAt_1 (a b c : Nat) : ldAt a b c 1 = ldCells a 0 0 := rfl
theorem ldAt_2 (a b c : Nat) : ldAt a b c 2 = ldCells a b 0 := rfl
theorem ldAt_3 (a b c : Nat) : ldAt a b c 3 = ldCells a b c := rfl
theorem infoF64 : (Tryz.prog.info? 36).map (fun i => (i.zero, i.size, i.bytes)) = some (some (.float .f64 0), 1, 8) := by kernel_rfl
theorem make3 (W : World) : (Instr.makeSlice 73 (.int .i64 3) (.int .i64 3)).run Tryz.prog W = .ok (.slice (some ⟨W.heap.size, 0, none⟩) 3 3) (W.alloc (ldCells 0 0 0)) :=
  by
    have e : Obj.cells (madeCells #[Value.float .f64 0] 3) 36 = ldCells 0 0 0 := by kernel_rfl
    rw [← e]
    exact run_make_row' 73 36 (.float .f64 0) 8 Tryz.underlying73 infoF64 rfl .i64 .i64 3 (by omega) (by omega) W
set_option maxHeartbeats 16000000 in
set_option maxRecDepth 100000 in
theorem parseLoad (A0 : Option Addr) (c0 : Nat) (l0 : List Int) (a b c : Nat) (w : World) (hr0 : Kd.C (Kd.int .u8) w A0 l0.length l0) (hc0 : l0.length ≤ c0) (hT : TabW w) (h : loadF l0 = some (a, b, c)) :
    Calls Tryz.prog 141 #[.slice A0 l0.length c0] w fun e w' => ∃ g, e = .returned (.tuple #[.pointer (some ⟨g, 0, none⟩), .nilIface]) ∧ w.heap.size ≤ g ∧ w'.heap[g]? = some (ldObj a b c) ∧ Below w.heap.size w w' := by
  obtain ⟨ps, hps, h3, ha, hb, hc⟩ := loadF_some h
  have HR0 := Aside0.mk hr0
  have HT := Aside0.mk hT
  have HPS := Aside0.mk hps
  have H3 := Aside0.mk h3
  have HA := Aside0.mk ha
  have HB := Aside0.mk hb
  have HC := Aside0.mk hc
  have d3 : decide ((ps.length : Int) < 3) = false := decide_eq_false (by omega)
  have d3' : decide (ps.length < 3) = false := decide_eq_false (by omega)
  have hcv3 := fun o => Kd.C_string (P := Tryz.prog) (A := A0) (c := c0) Tryz.underlying173 Tryz.underlying5 Tryz.underlying9 (Kd.C_below hr0 (below_alloc (Below.refl w.heap.size w) o))
  have hmk := make3
  have h0G : (w.alloc (ldCells 0 0 0)).heap[w.heap.size]? = some (ldCells 0 0 0) := heap_alloc_new _ _
  have HB0 := Aside0.mk (show Below w.heap.size w (w.alloc (ldCells 0 0 0)) from below_alloc (Below.refl _ _) _)
  have HG0 := Aside0.mk h0G
  clear hr0 hT h hps ha hb hc h0G
  go_enter Tryz.func141, Tryz.ntmps141
  go_wp2_with (first
    | (go_at_call 190; refine (strings_Fields.calls (strOfNums l0) ps _ (tabW_below HT.out HB0.out) HPS.out).mono ?_; rintro e w1 ⟨v0, rfl, hfs, hb4⟩; obtain ⟨gs, cap, rfl, hgs1, hgs2, cells, hcells⟩ := Kd.R_form hfs (by have := H3.out; omega); have hcap := (Kd.R_reads' hfs).2.1; have hcap3 : (3 : Int) ≤ (cap : Int) := by { have := H3.out; omega }; have HFS := Aside0.mk (Kd.R_lower hfs HB0.out.size); have HG1 := Aside0.mk (blk_below HG0.out hb4); have HB1 := Aside0.mk (below_then HB0.out HB0.out.size hb4); clear hfs hb4 hcells))
  go_loopg [6, 20] 3 (fun kq v6 v20 w' => ∃ (x : Int), v6 = .nilIface ∧ v20 = .int .i64 x ∧ Aside0 (0 ≤ x ∧ x + kq = 3) ∧ Aside0 (w'.heap[w.heap.size]? = some (ldAt a b c x)) ∧ Aside0 (Kd.R Kd.string 9 w' w.heap.size (fun _ => True) (.slice (some ⟨gs, 0, none⟩) ps.length cap) ps) ∧ Aside0 (Below w.heap.size w w'))
  case atStart => exact ⟨0, rfl, rfl, ⟨by omega, by omega⟩, HG1, HFS, HB1⟩
  case round =>
    clear HG1 HFS HB1 hcv3 hmk HG0 HB0
    obtain ⟨x, rfl, rfl, HX, HG, HS, HBw⟩ := hrel
    rcases (show x = 0 ∨ x = 1 ∨ x = 2 ∨ x = 3 by have := HX.out; omega) with hx | hx | hx | hx
    · -- round 0
      subst hx
      have hcs : wr.cell? ⟨gs, 0, none⟩ = some (.string (rdOf ByteArray.empty ps 0)) := (Kd.R_cell ByteArray.empty HS.out 0 (by omega) (by have := H3.out; omega)).1
      have hG1 := HG.out
      simp only [ldAt_0] at hG1
      have HGx := Aside0.mk hG1
      clear hG1
      have hgsw := Kd.R_lt HS.out gs rfl
      go_wp2_with (first
        | (go_at_call 191; refine (pf1 _ a _ (tabW_below HT.out HBw.out) HA.out).mono ?_; rintro e w2 ⟨rfl, hb2⟩; have HG2 := Aside0.mk (blk_below HGx.out hb2); have HS2 := Aside0.mk (Kd.R_below HS.out hb2); have HB2 := Aside0.mk (below_then HBw.out HBw.out.size hb2); have hfz := blk_frozen HG2.out 0; have hcg : w2.cell? ⟨w.heap.size, 0, none⟩ = some (.float .f64 0) := (blk_cell HG2.out 0).trans rfl; clear hb2))
      go_roundg 2
      case measure => have := HX.out; omega
      case rel =>
        refine ⟨1, rfl, rfl, ⟨by omega, by omega⟩, ⟨?_⟩, ⟨Kd.R_set HS2.out HG2.out (by decide) 0 _⟩, ⟨below_set HB2.out (Nat.le_refl _)⟩⟩
        rw [ldAt_1]
        exact blk_put HG2.out 0 _ rfl
    · -- round 1
      subst hx
      have hcs : wr.cell? ⟨gs, 1, none⟩ = some (.string (rdOf ByteArray.empty ps 1)) := (Kd.R_cell ByteArray.empty HS.out 1 (by omega) (by have := H3.out; omega)).1
      have hG1 := HG.out
      simp only [ldAt_1] at hG1
      have HGx := Aside0.mk hG1
      clear hG1
      have hgsw := Kd.R_lt HS.out gs rfl
      go_wp2_with (first
        | (go_at_call 191; refine (pf1 _ b _ (tabW_below HT.out HBw.out) HB.out).mono ?_; rintro e w2 ⟨rfl, hb2⟩; have HG2 := Aside0.mk (blk_below HGx.out hb2); have HS2 := Aside0.mk (Kd.R_below HS.out hb2); have HB2 := Aside0.mk (below_then HBw.out HBw.out.size hb2); have hfz := blk_frozen HG2.out 1; have hcg : w2.cell? ⟨w.heap.size, 1, none⟩ = some (.float .f64 0) := (blk_cell HG2.out 1).trans rfl; clear hb2))
      go_roundg 1
      case measure => have := HX.out; omega
      case rel =>
        refine ⟨2, rfl, rfl, ⟨by omega, by omega⟩, ⟨?_⟩, ⟨Kd.R_set HS2.out HG2.out (by decide) 1 _⟩, ⟨below_set HB2.out (Nat.le_refl _)⟩⟩
        rw [ldAt_2]
        exact blk_put HG2.out 1 _ rfl
    · -- round 2
      subst hx
      have hcs : wr.cell? ⟨gs, 2, none⟩ = some (.string (rdOf ByteArray.empty ps 2)) := (Kd.R_cell ByteArray.empty HS.out 2 (by omega) (by have := H3.out; omega)).1
      have hG1 := HG.out
      simp only [ldAt_2] at hG1
      have HGx := Aside0.mk hG1
      clear hG1
      have hgsw := Kd.R_lt HS.out gs rfl
      go_wp2_with (first
        | (go_at_call 191; refine (pf1 _ c _ (tabW_below HT.out HBw.out) HC.out).mono ?_; rintro e w2 ⟨rfl, hb2⟩; have HG2 := Aside0.mk (blk_below HGx.out hb2); have HS2 := Aside0.mk (Kd.R_below HS.out hb2); have HB2 := Aside0.mk (below_then HBw.out HBw.out.size hb2); have hfz := blk_frozen HG2.out 2; have hcg : w2.cell? ⟨w.heap.size, 2, none⟩ = some (.float .f64 0) := (blk_cell HG2.out 2).trans rfl; clear hb2))
      go_roundg 0
      case measure => have := HX.out; omega
      case rel =>
        refine ⟨3, rfl, rfl, ⟨by omega, by omega⟩, ⟨?_⟩, ⟨Kd.R_set HS2.out HG2.out (by decide) 2 _⟩, ⟨below_set HB2.out (Nat.le_refl _)⟩⟩
        rw [ldAt_3]
        exact blk_put HG2.out 2 _ rfl
    · subst hx
      have hG1 := HG.out
      simp only [ldAt_3] at hG1
      have hc0 : wr.cell? ⟨w.heap.size, 0, none⟩ = some (.float .f64 a) := (blk_cell hG1 0).trans rfl
      have hc1 : wr.cell? ⟨w.heap.size, 1, none⟩ = some (.float .f64 b) := (blk_cell hG1 1).trans rfl
      have hc2 : wr.cell? ⟨w.heap.size, 2, none⟩ = some (.float .f64 c) := (blk_cell hG1 2).trans rfl
      go_wp2
      go_still_tail 10, (by kernel_rfl)
      have HBd := Aside0.mk (below_drew HBw.out)
      clear hc0 hc1 hc2 hG1 HG HS HBw
      change wpList _ _ _ _ _ wr.drew
      generalize wr.drew = W2 at HBd ⊢
      go_wp2
      go_ret2
      exact ⟨_, rfl, HBd.out.size, heap_alloc_new _ _, HBd.out.alloc HBd.out.size _⟩
end Go.Proofs.YtednjmngalmdkaaGreatDoor.GPC
