/- The lines of a text (package texts): NewLines, Scan, Text, Err, in the block that holds them. Conditions: a line of fewer than 65,536 bytes, without a carriage return at its end. -/
import Derived.Test.YtdmccakncgdbhaaDoorMWords
import Derived.Deep.RegionHeld3
import Derived.Test.YtdmccakncgdbhaaDoorProg
namespace Go.Proofs.YtdmccakncgdbhaaDoor.GL
open Go.RowKit Go.Proofs.YtdmccakncgdbhaaDoorW.PrintWords Go.Proofs.YtdmccakncgdbhaaDoorW
set_option linter.unusedVariables false
set_option linter.unusedSimpArgs false
/-- Where the first line ends. -/
def lineEnd (t : ByteArray) : Nat := t.data.toList.findIdx (· == 10)
theorem szl (t : ByteArray) : t.data.toList.length = t.size := Array.length_toList
theorem lineEnd_le (t : ByteArray) : lineEnd t ≤ t.size := by
  have := List.findIdx_le_length (p := (· == (10 : UInt8))) (xs := t.data.toList)
  rwa [szl] at this
theorem bt_list (t : ByteArray) (i : Nat) (h : i < t.size) : bt t (i : Int) = ((t.data.toList[i]'(by rw [szl]; exact h)).toNat : Int) := by
  have h' : (i : Int).toNat < t.size := by omega
  unfold bt
  rw [dif_pos h']
  rfl
theorem lineEnd_before (t : ByteArray) (i : Nat) (h : i < lineEnd t) : bt t (i : Int) ≠ 10 := by
  have hle := lineEnd_le t
  rw [bt_list t i (by omega)]
  have hn := List.not_of_lt_findIdx (p := (· == (10 : UInt8))) (xs := t.data.toList) h
  intro e
  have e2 : (t.data.toList[i]'(by rw [szl]; omega)).toNat = 10 := by exact_mod_cast e
  have e3 : t.data.toList[i]'(by rw [szl]; omega) = 10 := UInt8.toNat_inj.1 e2
  rw [e3] at hn
  exact absurd hn (by decide)
theorem lineEnd_at (t : ByteArray) (h : lineEnd t < t.size) : bt t (lineEnd t : Int) = 10 := by
  rw [bt_list t _ h]
  have h' : List.findIdx (· == (10 : UInt8)) t.data.toList < t.data.toList.length := by rw [szl]; exact h
  have hn := List.findIdx_getElem (p := (· == (10 : UInt8))) (xs := t.data.toList) (w := h')
  have e : t.data.toList[lineEnd t]'(by rw [szl]; exact h) = 10 := eq_of_beq hn
  rw [e]
  rfl
/-- What stands in the block of Lines. -/
def linesCells (text line : ByteArray) : Obj := .cells #[.string text, .string line, .int .i64 65536, .nilIface] 79 (0, 0)
set_option maxHeartbeats 4000000 in
theorem lines_new (text : ByteArray) (w : World) :
    Calls Tryd.prog 34 #[.string text] w fun e w' => ∃ g, e = .returned (.pointer (some ⟨g, 0, none⟩)) ∧ w.heap.size ≤ g ∧ w'.heap[g]? = some (linesCells text ⟨#[]⟩) ∧ Below w.heap.size w w' := by
  go_enter Tryd.func34, Tryd.ntmps34
  go_wp2
  go_ret
  exact ⟨_, rfl, Nat.le_refl _, heap_alloc_new _ _, below_alloc (Below.refl _ _) _⟩
set_option maxHeartbeats 4000000 in
theorem lines_text (g : Nat) (text line : ByteArray) (w : World) (hb : w.heap[g]? = some (linesCells text line)) :
    Calls Tryd.prog 36 #[.pointer (some ⟨g, 0, none⟩)] w fun e w' => e = .returned (.string line) ∧ w' = w := by
  have h0 : w.cell? ⟨g, 1, none⟩ = some (.string line) := (blk_cell hb 1).trans rfl
  go_enter Tryd.func36, Tryd.ntmps36
  go_wp2
  go_ret
  exact ⟨rfl, rfl⟩
set_option maxHeartbeats 4000000 in
theorem lines_err (g : Nat) (text line : ByteArray) (w : World) (hb : w.heap[g]? = some (linesCells text line)) :
    Calls Tryd.prog 43 #[.pointer (some ⟨g, 0, none⟩)] w fun e w' => e = .returned .nilIface ∧ w' = w := by
  have h0 : w.cell? ⟨g, 3, none⟩ = some .nilIface := (blk_cell hb 3).trans rfl
  go_enter Tryd.func43, Tryd.ntmps43
  go_wp2
  go_ret
  exact ⟨rfl, rfl⟩
/-- At the end there is no line. -/
theorem size0 {t : ByteArray} (h : t.size = 0) : t = ⟨#[]⟩ := by
  cases t with
  | mk d => exact congrArg ByteArray.mk (Array.eq_empty_of_size_eq_zero h)
set_option maxHeartbeats 4000000 in
theorem lines_scan_end (g : Nat) (line : ByteArray) (w : World) (hb : w.heap[g]? = some (linesCells ⟨#[]⟩ line)) :
    Calls Tryd.prog 35 #[.pointer (some ⟨g, 0, none⟩)] w fun e w' => e = .returned (.bool false) ∧ w'.heap[g]? = some (linesCells ⟨#[]⟩ ⟨#[]⟩) ∧ w.grownBy w' (some g) := by
  have h0 : w.cell? ⟨g, 0, none⟩ = some (.string ⟨#[]⟩) := (blk_cell hb 0).trans rfl
  have h1 : w.cell? ⟨g, 1, none⟩ = some (.string line) := (blk_cell hb 1).trans rfl
  have h3 : w.cell? ⟨g, 3, none⟩ = some .nilIface := (blk_cell hb 3).trans rfl
  have hf := blk_frozen hb 1
  go_enter Tryd.func35, Tryd.ntmps35
  go_wp2
  go_ret
  refine ⟨rfl, blk_put hb 1 _ rfl, ?_⟩
  exact ⟨rfl, rfl, rfl, by simp [World.setCell], fun i hi hne => Below.heap_setCell w ⟨g, 1, none⟩ _ i (fun e => hne (by rw [e]))⟩
def lineOf (t : ByteArray) : ByteArray := t.extract 0 (lineEnd t)
def restOf (t : ByteArray) : ByteArray := t.extract (if lineEnd t < t.size then lineEnd t + 1 else lineEnd t) t.size
theorem grown_set (w : World) (g i : Nat) (u : Value) : w.grownBy (w.setCell ⟨g, i, none⟩ u) (some g) :=
  ⟨rfl, rfl, rfl, by simp [World.setCell], fun k hi hne => Below.heap_setCell w ⟨g, i, none⟩ _ k (fun e => hne (by rw [e]))⟩
theorem grown_drewN {w W : World} {row : Option Nat} (h : w.grownBy W row) (n : Nat) : w.grownBy (W.drewN n) row := ⟨h.os, h.tape, h.output, h.size, h.block⟩
theorem lines_post {g : Nat} {text line : ByteArray} {w : World} (hb : w.heap[g]? = some (linesCells text line)) (L R : ByteArray) (hL : L = lineOf text) (hR : restOf text = R) :
    (((w.setCell ⟨g, 1, none⟩ (.string ⟨#[]⟩)).setCell ⟨g, 1, none⟩ (.string L)).setCell ⟨g, 0, none⟩ (.string R)).heap[g]? = some (linesCells (restOf text) (lineOf text)) ∧
      w.grownBy (((w.setCell ⟨g, 1, none⟩ (.string ⟨#[]⟩)).setCell ⟨g, 1, none⟩ (.string L)).setCell ⟨g, 0, none⟩ (.string R)) (some g) := by
  subst hL hR
  refine ⟨blk_put (blk_put (blk_put hb 1 _ rfl) 1 _ rfl) 0 _ rfl, ?_⟩
  exact ((grown_set w g 1 _).trans (grown_set _ g 1 _)).trans (grown_set _ g 0 _)
set_option maxHeartbeats 8000000 in
set_option maxRecDepth 100000 in
theorem lines_scan (g : Nat) (text line : ByteArray) (w : World) (hb : w.heap[g]? = some (linesCells text line)) (hne : 0 < text.size) (hsz : text.size ≤ 140737488355328)
    (h64 : lineEnd text < 65536) (hcr : ¬ bt (lineOf text) ((lineOf text).size - 1) = 13) :
    Calls Tryd.prog 35 #[.pointer (some ⟨g, 0, none⟩)] w fun e w' => e = .returned (.bool true) ∧ w'.heap[g]? = some (linesCells (restOf text) (lineOf text)) ∧ w.grownBy w' (some g) := by
  have h0 : w.cell? ⟨g, 0, none⟩ = some (.string text) := (blk_cell hb 0).trans rfl
  have h1 : w.cell? ⟨g, 1, none⟩ = some (.string line) := (blk_cell hb 1).trans rfl
  have h2 : w.cell? ⟨g, 2, none⟩ = some (.int .i64 65536) := (blk_cell hb 2).trans rfl
  have h3 : w.cell? ⟨g, 3, none⟩ = some .nilIface := (blk_cell hb 3).trans rfl
  have hf0 := blk_frozen hb 0
  have hf1 := blk_frozen hb 1
  have e1 : (text.toList == ([] : List UInt8)) = false := by
    rw [beq_eq_false_iff_ne]
    intro e
    have : text.size = 0 := by rw [← szl, ← Go.ByteArray.toList_eq, e]; rfl
    omega
  have HL := Aside0.mk (lineEnd_le text)
  have H64 := Aside0.mk h64
  have HCR := Aside0.mk hcr
  have HSZ := Aside0.mk hsz
  have HNE := Aside0.mk hne
  clear h64 hcr hsz hne
  go_enter Tryd.func35, Tryd.ntmps35
  go_wp2
  go_loopg [3] text.size (fun kq v3 w' => ∃ (x : Int), v3 = .int .i64 x ∧ Aside0 (0 ≤ x ∧ x ≤ lineEnd text ∧ x + kq = text.size) ∧ w' = w.setCell ⟨g, 1, none⟩ (.string ⟨#[]⟩))
  case atStart => exact ⟨0, rfl, ⟨by omega, by omega, by omega⟩, rfl⟩
  case round =>
    obtain ⟨x, rfl, HX, rfl⟩ := hrel
    have p5 := HX.out.1
    by_cases hx : x < lineEnd text
    · have q5 : x < (text.size : Int) := by have := HL.out; omega
      have c0 : decide (x < (text.size : Int)) = true := decide_eq_true q5
      have hx5 := bt_at text x
      have hbt : bt text x ≠ 10 := by
        have := lineEnd_before text x.toNat (by omega)
        rwa [show ((x.toNat : Nat) : Int) = x by omega] at this
      have c6b0 : ((bt text x) == 10) = false := beq_eq_false_iff_ne.mpr hbt
      have c6b1 : ((bt text x) != 10) = true := bne_iff_ne.mpr hbt
      have hw : IntKind.i64.wrap (x + 1) = x + 1 := by have := HSZ.out; rw [PrintLast.i64_w]; unfold wrap64; omega
      have HX2 := Aside0.mk hx
      clear hbt hx
      replace p5 := eq_true p5
      replace q5 := eq_true q5
      go_wp2
      go_roundg (gk - 1)
      case measure => have := HX.out; have := HX2.out; have := HL.out; omega
      case rel => exact ⟨x + 1, rfl, ⟨by have := HX.out; omega, by have := HX2.out; omega, by have := HX.out; have := HX2.out; have := HL.out; omega⟩, rfl⟩
    · have hxe : x = lineEnd text := by have := HX.out; omega
      have HXE := Aside0.mk hxe
      have hle : x ≤ (text.size : Int) := by have := HL.out; omega
      have c65 : decide (65536 ≤ x) = false := decide_eq_false (by have := H64.out; omega)
      have c65' : decide (x < 65536) = true := decide_eq_true (by have := H64.out; omega)
      have hlr : (if lineEnd text < text.size then lineEnd text + 1 else lineEnd text) = (if x < (text.size : Int) then x + 1 else x).toNat := by
        subst hxe
        split <;> split <;> omega
      have hll : lineOf text = text.extract 0 x.toNat := by rw [hxe]; rfl
      have HLR := Aside0.mk hlr
      have HLL := Aside0.mk hll
      have hcr' := HCR.out
      rw [hll] at hcr'
      generalize hLL : text.extract 0 x.toNat = L at *
      clear hlr hll hx
      by_cases hlt : x < (text.size : Int)
      · have c0 : decide (x < (text.size : Int)) = true := decide_eq_true hlt
        have hx5 := bt_at text x
        have hbt : bt text x = 10 := by
          have := lineEnd_at text (by omega)
          rwa [← hxe] at this
        have c6b0 : ((bt text x) == 10) = true := beq_iff_eq.mpr hbt
        have c6b1 : ((bt text x) != 10) = false := bne_eq_false_iff_eq.mpr hbt
        have hw : IntKind.i64.wrap (x + 1) = x + 1 := by have := HSZ.out; rw [PrintLast.i64_w]; unfold wrap64; omega
        clear hbt hxe
        have p5' := p5
        replace p5 := eq_true p5
        have q5 := eq_true hlt
        have hle' := eq_true hle
        have hLs : L.size ≤ text.size := by rw [← hLL, ByteArray.size_extract]; omega
        obtain ⟨y, hy⟩ : ∃ y, y = (L.size : Int) - 1 := ⟨_, rfl⟩
        rw [← hy] at hcr'
        have hwl : IntKind.i64.wrap ((L.size : Int) - 1) = y := by have := HSZ.out; rw [PrintLast.i64_w, hy]; unfold wrap64; omega
        have hxl := bt_at L y
        have cl0 : (bt L y == 13) = false := beq_eq_false_iff_ne.mpr hcr'
        have HY := Aside0.mk hy
        clear hy
        go_wp2
        obtain ⟨hbW, hgW⟩ := lines_post hb L (text.extract (x + 1).toNat text.size) HLL.out.symm (by unfold restOf; rw [HLR.out, if_pos hlt])
        generalize ((w.setCell ⟨g, 1, none⟩ (.string ⟨#[]⟩)).setCell ⟨g, 1, none⟩ (.string L)).setCell ⟨g, 0, none⟩ (.string (text.extract (x + 1).toNat text.size)) = W at hbW hgW ⊢
        have h1W : W.cell? ⟨g, 1, none⟩ = some (.string L) := (blk_cell hbW 1).trans (by rw [← HLL.out]; rfl)
        by_cases hL0 : 0 < (L.size : Int)
        · have d0 : decide (0 < (L.size : Int)) = true := decide_eq_true hL0
          have d0n : decide (0 < L.size) = true := decide_eq_true (by omega)
          have d1 : (0 ≤ y) = True := eq_true (by have := HY.out; omega)
          have d2 : (y < (L.size : Int)) = True := eq_true (by have := HY.out; omega)
          go_quiet (fail)
          go_wp2
          go_ret
          exact ⟨rfl, blk_drewN hbW nq, grown_drewN hgW nq⟩
        · have d0 : decide (0 < (L.size : Int)) = false := decide_eq_false hL0
          have d0n : decide (0 < L.size) = false := decide_eq_false (by omega)
          go_quiet (fail)
          go_wp2
          go_ret
          exact ⟨rfl, blk_drewN hbW nq, grown_drewN hgW nq⟩
      · have c0 : decide (x < (text.size : Int)) = false := decide_eq_false hlt
        have hlt' := Aside0.mk hlt
        clear hxe hlt
        have p5' := p5
        replace p5 := eq_true p5
        have hle' := eq_true hle
        have hLs : L.size ≤ text.size := by rw [← hLL, ByteArray.size_extract]; omega
        obtain ⟨y, hy⟩ : ∃ y, y = (L.size : Int) - 1 := ⟨_, rfl⟩
        rw [← hy] at hcr'
        have hwl : IntKind.i64.wrap ((L.size : Int) - 1) = y := by have := HSZ.out; rw [PrintLast.i64_w, hy]; unfold wrap64; omega
        have hxl := bt_at L y
        have cl0 : (bt L y == 13) = false := beq_eq_false_iff_ne.mpr hcr'
        have HY := Aside0.mk hy
        clear hy
        go_wp2
        obtain ⟨hbW, hgW⟩ := lines_post hb L (text.extract x.toNat text.size) HLL.out.symm (by unfold restOf; rw [HLR.out, if_neg (by have := hlt'.out; omega)])
        generalize ((w.setCell ⟨g, 1, none⟩ (.string ⟨#[]⟩)).setCell ⟨g, 1, none⟩ (.string L)).setCell ⟨g, 0, none⟩ (.string (text.extract x.toNat text.size)) = W at hbW hgW ⊢
        have h1W : W.cell? ⟨g, 1, none⟩ = some (.string L) := (blk_cell hbW 1).trans (by rw [← HLL.out]; rfl)
        by_cases hL0 : 0 < (L.size : Int)
        · have d0 : decide (0 < (L.size : Int)) = true := decide_eq_true hL0
          have d0n : decide (0 < L.size) = true := decide_eq_true (by omega)
          have d1 : (0 ≤ y) = True := eq_true (by have := HY.out; omega)
          have d2 : (y < (L.size : Int)) = True := eq_true (by have := HY.out; omega)
          go_quiet (fail)
          go_wp2
          go_ret
          exact ⟨rfl, blk_drewN hbW nq, grown_drewN hgW nq⟩
        · have d0 : decide (0 < (L.size : Int)) = false := decide_eq_false hL0
          have d0n : decide (0 < L.size) = false := decide_eq_false (by omega)
          go_quiet (fail)
          go_wp2
          go_ret
          exact ⟨rfl, blk_drewN hbW nq, grown_drewN hgW nq⟩
end Go.Proofs.YtdmccakncgdbhaaDoor.GL
