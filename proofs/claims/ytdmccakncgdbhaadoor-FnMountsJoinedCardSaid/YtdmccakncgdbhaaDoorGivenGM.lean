/- GetMountsFromReader: the mounts of a text, those that a filter keeps. Conditions: a text that textF reads; one of the filters of FK. -/
import Derived.Test.YtdmccakncgdbhaaDoorGivenPtr
import Derived.Deep.RegionHeld3
import Derived.Test.YtdmccakncgdbhaaDoorWCut
namespace Go.Proofs.YtdmccakncgdbhaaDoor.GMA
open Go.RowKit Go.Proofs.YtdmccakncgdbhaaDoorW.PrintWords Go.Proofs.YtdmccakncgdbhaaDoorW Go.Proofs.YtdmccakncgdbhaaDoor.GL
set_option linter.unusedVariables false
set_option linter.unusedSimpArgs false
theorem keepS {W0 w1 w2 : World} (h : Below W0.heap.size W0 w1) (hb : Below w1.heap.size w1 w2) : Below W0.heap.size W0 w2 := below_then h h.size hb
theorem infoM56 : (Tryd.prog.info? 56).map (fun i => (i.zero, i.size, i.bytes)) = some (some (.pointer none), 1, 8) := by kernel_rfl
theorem equalIn_nilFunc (d : Nat) (W : World) : (Op.equalIn (d + 1) 47 Value.nilFunc Value.nilFunc).run Tryd.prog W = .ok true W := by
  simp [Op.equalIn, run_underlying Tryd.underlying47]
theorem equalIn_func (d : Nat) (W : World) (fn : Fn) (a b : Array Value) : (Op.equalIn (d + 1) 47 (.func fn a b) Value.nilFunc).run Tryd.prog W = .ok false W := by
  simp [Op.equalIn, run_underlying Tryd.underlying47]
theorem neq_nilFunc (W : World) : Sem.run Tryd.prog (binOp BinOp.neq 47 Value.nilFunc Value.nilFunc) W = .ok (.bool false) W := by
  have h : (Op.equal 47 Value.nilFunc Value.nilFunc).run Tryd.prog W = .ok true W := equalIn_nilFunc 9999 W
  simp only [binOp]
  simp [h]
theorem neq_func (W : World) (fn : Fn) (a b : Array Value) : Sem.run Tryd.prog (binOp BinOp.neq 47 (.func fn a b) Value.nilFunc) W = .ok (.bool true) W := by
  have h : (Op.equal 47 (.func fn a b) Value.nilFunc).run Tryd.prog W = .ok false W := equalIn_func 9999 W fn a b
  simp only [binOp]
  simp [h]
theorem slice_mid (gs n c m : Nat) (y : Int) (h6 : 6 ≤ y) (hy : y ≤ n) (hc : n ≤ c) (h10 : 10 ≤ n) (hm : m = y.toNat - 6) (W : World) :
    (Instr.slice 28 (.slice (some ⟨gs, 0, none⟩) n c) (some (.int .i64 6)) (some (.int .i64 y)) none).run Tryd.prog W = .ok (.slice (some ⟨gs, 6, none⟩) m (c - 6)) W := by
  have hel : Tryd.prog.elem 28 = 9 := by simp [Program.elem, Tryd.underlying28]
  have hu : Tryd.prog.underlying 28 = some (.slice (Tryd.prog.elem 28)) := by rw [hel]; exact Tryd.underlying28
  obtain ⟨i0, hi0, hz0, hz1, hz2⟩ := info_parts info9
  subst hm
  rw [run_slice_lh W 28 (some ⟨gs, 0, none⟩) n c hu .i64 .i64 6 y (by omega) (by omega) (by omega), hel]
  have hne : c ≠ 6 := by omega
  simp [sizeOf, typeInfo, hi0, hz1, sliced, Result.andThen, hne, add_plain]
set_option maxHeartbeats 16000000 in
set_option maxRecDepth 100000 in
theorem getMounts (k : Nat) (text : ByteArray) (ms : List S36) (F : FK) (w : World) (hF : F.ok w) (h : textF k k text = some ms) :
    Calls Tryd.prog 23 #[.string text, F.val] w fun e w' => ∃ v, e = .returned (.tuple #[v, .nilIface]) ∧ kptr.R 56 w' w.heap.size (fun _ => True) v (ms.filter F.keeps) ∧ Below w.heap.size w w' := by
  have HF := Aside0.mk hF
  have H := Aside0.mk h
  have HSZ0 : Aside0 (text.size = 0 ∨ text.size ≤ 1000000) := ⟨by
    cases k with
    | zero => cases h
    | succ k =>
      unfold textF at h
      split at h
      · exact .inl (by assumption)
      · split at h
        · rename_i hc; exact .inr hc.1
        · cases h⟩
  have HB := Aside0.mk (Below.refl w.heap.size w)
  clear hF h
  go_enter Tryd.func23, Tryd.ntmps23
  go_wp2_with
        (first
          | (go_at_call 34; refine (lines_new text _).mono ?_; rintro e w1 ⟨g, rfl, hg1, hg2, hb1⟩; have HB := Aside0.mk hb1; have HG := Aside0.mk hg2; have HG1 := Aside0.mk hg1; clear hg1 hg2 hb1)
          | ((with_reducible refine gate_dst (N := 21) rfl ?_); refine Kd.R_lit kptr (w0 := w) w.heap.size 56 ?hg (N := 21) ?hd (xs := ([] : List S36)) (inner := []) (ok := fun _ => True) (okp := fun _ => False) ?hr ?hp (fun _ hk => hk.elim) trivial HB.out HB.out.size (by simp) ?_; (case hd => rfl); (case hg => rfl); (case hr => first | (go_simp; done) | (go_simp; rfl)); (case hp => exact Reps.none _ _); intro v1 w2 ho hb hg_ _; have HO := Aside0.mk ho; have HG2 := Aside0.mk (blk_grown HG.out hg_ (by simp)); have HB2 := Aside0.mk hb; clear ho hb hg_))
  go_loopg [7] k (fun kq v7 w' => ∃ (t line : ByteArray) (rest done : List S36), Aside0 (textF k kq t = some rest) ∧ Aside0 (done ++ rest.filter F.keeps = ms.filter F.keeps) ∧ Aside0 (t.size = 0 ∨ done.length + t.size ≤ 1000000) ∧
    Aside0 (w'.heap[g]? = some (linesCells t line)) ∧ Aside0 (kptr.R 56 w' w.heap.size (fun _ => True) v7 done) ∧ Aside0 (Below w.heap.size w w'))
  case atStart => exact ⟨text, _, ms, [], H, ⟨rfl⟩, ⟨by simpa using HSZ0.out⟩, HG2, HO, HB2⟩
  case round =>
    clear H HSZ0 HG HB HO HG2 HB2
    obtain ⟨t, line, rest, done, H, HD, HS, HG, HO, HB⟩ := hrel
    cases gk with
    | zero => exact absurd H.out (by simp [textF])
    | succ k1 =>
      have h := H.out
      clear H
      unfold textF at h
      by_cases ht : t.size = 0
      · rw [if_pos ht] at h
        obtain rfl := Option.some.inj h
        obtain rfl := size0 ht
        clear h ht
        go_wp2_with
        (first
                | (go_at_call 35; refine (lines_scan_end g line _ HG.out).mono ?_; rintro e w3 ⟨rfl, hg3, hgr3⟩)
                | (go_at_call 43; refine (lines_err g _ _ _ hg3).mono ?_; rintro e w4 ⟨rfl, rfl⟩))
        go_ret2
        refine ⟨_, rfl, ?_, ?_⟩
        · have := HD.out
          simp only [List.filter_nil, List.append_nil] at this
          rw [← this]
          exact Kd.R_mono (Kd.R_grown (Kd.R_types HO.out HG.out (by decide)) hgr3 (fun k hk e => hk.2 (by cases e; rfl))) (fun _ _ => trivial)
        · exact pw_below_grown HB.out (some g) HB.out.size hgr3 (fun k e => by cases e; exact HG1.out)
      · rw [if_neg ht] at h
        by_cases hc : t.size ≤ 1000000 ∧ lineEnd t < 65536 ∧ ¬ bt (lineOf t) ((lineOf t).size - 1) = 13
        · rw [if_pos hc] at h
          obtain ⟨m, hm, h⟩ := Option.bind_eq_some_iff.1 h
          obtain ⟨ms', hms, h⟩ := Option.bind_eq_some_iff.1 h
          obtain rfl := Option.some.inj h
          clear h
          obtain ⟨fs, mj, mn, hsp, h10, hM, hdash, hjl, hcut, a0, a1, a2, a3, a4, a5, a8, a9, e6, e7, e10, h5s⟩ := lineF_some hm
          clear hm
          have HT := Aside0.mk ht
          have HC := Aside0.mk hc
          have HMS := Aside0.mk hms
          have HSP := Aside0.mk hsp
          have H10 := Aside0.mk h10
          have HM := Aside0.mk hM
          have HJL := Aside0.mk hjl
          have HCUT := Aside0.mk hcut
          have H5S := Aside0.mk h5s
          obtain ⟨y, hy⟩ : ∃ y, y = (fs.length : Int) - 4 := ⟨_, rfl⟩
          obtain ⟨y1, hy1⟩ : ∃ y, y = (fs.length : Int) - 3 := ⟨_, rfl⟩
          obtain ⟨y2, hy2⟩ : ∃ y, y = (fs.length : Int) - 2 := ⟨_, rfl⟩
          obtain ⟨y3, hy3⟩ : ∃ y, y = (fs.length : Int) - 1 := ⟨_, rfl⟩
          rw [← hy] at hdash
          rw [← hy1] at a8
          rw [← hy2] at a9
          rw [← hy3] at e10
          have A0 := Aside0.mk a0
          have A1 := Aside0.mk a1
          have A2 := Aside0.mk a2
          have A3 := Aside0.mk a3
          have A4 := Aside0.mk a4
          have A5 := Aside0.mk a5
          have A8 := Aside0.mk a8
          have A9 := Aside0.mk a9
          have E6 := Aside0.mk e6
          have E7 := Aside0.mk e7
          have E10 := Aside0.mk e10
          have d10 : decide ((fs.length : Int) < 10) = false := decide_eq_false (by omega)
          have d10' : decide (fs.length < 10) = false := decide_eq_false (by omega)
          have w0 : IntKind.i64.wrap ((fs.length : Int) - 4) = y := by rw [PrintLast.i64_w, hy]; unfold wrap64; omega
          have w1 : IntKind.i64.wrap (y + 1) = y1 := by rw [PrintLast.i64_w, hy, hy1]; unfold wrap64; omega
          have w2 : IntKind.i64.wrap (y + 2) = y2 := by rw [PrintLast.i64_w, hy, hy2]; unfold wrap64; omega
          have w3 : IntKind.i64.wrap (y + 3) = y3 := by rw [PrintLast.i64_w, hy, hy3]; unfold wrap64; omega
          have p0 : (0 ≤ y) = True := eq_true (by omega)
          have p1 : (0 ≤ y1) = True := eq_true (by omega)
          have p2 : (0 ≤ y2) = True := eq_true (by omega)
          have p3 : (0 ≤ y3) = True := eq_true (by omega)
          have q0 : (y < (fs.length : Int)) = True := eq_true (by omega)
          have q1 : (y1 < (fs.length : Int)) = True := eq_true (by omega)
          have q2 : (y2 < (fs.length : Int)) = True := eq_true (by omega)
          have q3 : (y3 < (fs.length : Int)) = True := eq_true (by omega)
          have k0 : (0 < fs.length) = True := eq_true (by omega)
          have k1' : (1 < fs.length) = True := eq_true (by omega)
          have k2 : (2 < fs.length) = True := eq_true (by omega)
          have k3 : (3 < fs.length) = True := eq_true (by omega)
          have k4 : (4 < fs.length) = True := eq_true (by omega)
          have k5 : (5 < fs.length) = True := eq_true (by omega)
          have z0 : ((0 : Int) < (fs.length : Int)) = True := eq_true (by omega)
          have z1 : ((1 : Int) < (fs.length : Int)) = True := eq_true (by omega)
          have z2 : ((2 : Int) < (fs.length : Int)) = True := eq_true (by omega)
          have z3 : ((3 : Int) < (fs.length : Int)) = True := eq_true (by omega)
          have z4 : ((4 : Int) < (fs.length : Int)) = True := eq_true (by omega)
          have z5 : ((5 : Int) < (fs.length : Int)) = True := eq_true (by omega)
          have HY := Aside0.mk hy
          have HY1 := Aside0.mk hy1
          have HY2 := Aside0.mk hy2
          have HY3 := Aside0.mk hy3
          have dd : ((rdOf ByteArray.empty fs y).toList == ([45] : List UInt8)) = true := beq_iff_eq.mpr hdash
          have dd' : ((rdOf ByteArray.empty fs y).toList != ([45] : List UInt8)) = false := bne_eq_false_iff_eq.mpr hdash
          clear ht hc hms hsp h10 hM hdash hjl hcut a0 a1 a2 a3 a4 a5 a8 a9 e6 e7 e10 h5s hy hy1 hy2 hy3
          go_wp2_with
              (first
                | (go_at_call 35; refine (lines_scan g t line _ HG.out (by have := HT.out; omega) (by have := HC.out.1; omega) HC.out.2.1 HC.out.2.2).mono ?_; rintro e w3 ⟨rfl, hg3, hgr3⟩; have HO3 := Aside0.mk (Kd.R_mono (Kd.R_grown (Kd.R_types HO.out HG.out (by decide)) hgr3 (fun k hk e => hk.2 (by cases e; rfl))) (fun _ _ => trivial) : kptr.R 56 w3 w.heap.size (fun _ => True) _ done); have HB3 := Aside0.mk (pw_below_grown HB.out (some g) HB.out.size hgr3 (fun k e => by cases e; exact HG1.out)); have HG3 := Aside0.mk hg3; clear hg3 hgr3)
                | (go_at_call 36; refine (lines_text g _ _ _ HG3.out).mono ?_; rintro e w3' ⟨rfl, rfl⟩)
                | (go_at_call 37; refine (mountinfo_zzSplit.calls k _ _ fs _ HSP.out).mono ?_; rintro e w4 ⟨v0, rfl, hfs, hb4⟩; obtain ⟨gs, cap, rfl, hgs1, hgs2, cells, hcells⟩ := Kd.R_form hfs (by have := H10.out; omega); have HO4 := Aside0.mk (Kd.R_below HO3.out hb4); have HB4 := Aside0.mk (keepS HB3.out hb4); have HG4 := Aside0.mk (blk_below HG3.out hb4); have HFS := Aside0.mk hfs; have HGS := Aside0.mk hgs2; clear hgs1 hgs2 hcells hb4 hfs))
          have cy : w4.cell? ⟨gs, y.toNat, none⟩ = some (.string (rdOf ByteArray.empty fs y)) := (Kd.R_cell ByteArray.empty HFS.out y (of_eq_true p0) (of_eq_true q0)).1
          have c2 : w4.cell? ⟨gs, 2, none⟩ = some (.string (rdOf ByteArray.empty fs 2)) := (Kd.R_cell ByteArray.empty HFS.out 2 (by omega) (of_eq_true z2)).1
          go_loopg [11] 0 (fun kq v11 w' => v11 = .int .i64 y ∧ w' = w4)
          case atStart => exact ⟨rfl, rfl⟩
          case round =>
            obtain ⟨rfl, rfl⟩ := hrel
            go_wp2_with
              (first
                | (go_at_call 39; refine (mountinfo_zzCut.calls k _ _ mj mn true _ HCUT.out).mono ?_; rintro e w5 ⟨rfl, hd5⟩; have HB5 := Aside0.mk hd5.below; clear hd5))
            obtain ⟨_, hlc, hCC⟩ := Kd.R_reads' HFS.out
            have HLC := Aside0.mk hlc
            clear hlc
            have hgs5 : gs < w5.heap.size := Nat.lt_of_lt_of_le HGS.out HB5.out.size
            have cells5 : ∀ (i : Int), 0 ≤ i → i < (fs.length : Int) → w5.cell? ⟨gs, i.toNat, none⟩ = some (.string (rdOf ByteArray.empty fs i)) := fun i h0 h1 =>
              (HB5.out.cell (p := ⟨gs, i.toNat, none⟩) HGS.out).trans (Kd.R_cell ByteArray.empty HFS.out i h0 h1).1
            have f0 : w5.cell? ⟨gs, 0, none⟩ = some (.string (rdOf ByteArray.empty fs 0)) := cells5 0 (by omega) (of_eq_true z0)
            have f1 : w5.cell? ⟨gs, 1, none⟩ = some (.string (rdOf ByteArray.empty fs 1)) := cells5 1 (by omega) (of_eq_true z1)
            have f3 : w5.cell? ⟨gs, 3, none⟩ = some (.string (rdOf ByteArray.empty fs 3)) := cells5 3 (by omega) (of_eq_true z3)
            have f4 : w5.cell? ⟨gs, 4, none⟩ = some (.string (rdOf ByteArray.empty fs 4)) := cells5 4 (by omega) (of_eq_true z4)
            have f5 : w5.cell? ⟨gs, 5, none⟩ = some (.string (rdOf ByteArray.empty fs 5)) := cells5 5 (by omega) (of_eq_true z5)
            have f6 : w5.cell? ⟨gs, y1.toNat, none⟩ = some (.string (rdOf ByteArray.empty fs y1)) := cells5 y1 (of_eq_true p1) (of_eq_true q1)
            have f7 : w5.cell? ⟨gs, y2.toNat, none⟩ = some (.string (rdOf ByteArray.empty fs y2)) := cells5 y2 (of_eq_true p2) (of_eq_true q2)
            have f8 : w5.cell? ⟨gs, y3.toNat, none⟩ = some (.string (rdOf ByteArray.empty fs y3)) := cells5 y3 (of_eq_true p3) (of_eq_true q3)
            have CELLS := Aside0.mk cells5
            clear cells5 hCC
            have KA : Aside0 (∀ W, Below w5.heap.size w5 W → (Below w5.heap.size w5 W ∧ W.cell? ⟨gs, 0, none⟩ = some (.string (rdOf ByteArray.empty fs 0)) ∧ W.cell? ⟨gs, 1, none⟩ = some (.string (rdOf ByteArray.empty fs 1)) ∧
                W.cell? ⟨gs, 3, none⟩ = some (.string (rdOf ByteArray.empty fs 3)) ∧ W.cell? ⟨gs, 4, none⟩ = some (.string (rdOf ByteArray.empty fs 4)) ∧ W.cell? ⟨gs, 5, none⟩ = some (.string (rdOf ByteArray.empty fs 5)) ∧
                W.cell? ⟨gs, y1.toNat, none⟩ = some (.string (rdOf ByteArray.empty fs y1)) ∧ W.cell? ⟨gs, y2.toNat, none⟩ = some (.string (rdOf ByteArray.empty fs y2)) ∧ W.cell? ⟨gs, y3.toNat, none⟩ = some (.string (rdOf ByteArray.empty fs y3)))) :=
              ⟨fun W hb => ⟨hb, (hb.cell (p := ⟨gs, 0, none⟩) hgs5).trans f0, (hb.cell (p := ⟨gs, 1, none⟩) hgs5).trans f1, (hb.cell (p := ⟨gs, 3, none⟩) hgs5).trans f3, (hb.cell (p := ⟨gs, 4, none⟩) hgs5).trans f4, (hb.cell (p := ⟨gs, 5, none⟩) hgs5).trans f5,
                (hb.cell (p := ⟨gs, y1.toNat, none⟩) hgs5).trans f6, (hb.cell (p := ⟨gs, y2.toNat, none⟩) hgs5).trans f7, (hb.cell (p := ⟨gs, y3.toNat, none⟩) hgs5).trans f8⟩⟩
            have HGS5 := Aside0.mk hgs5
            clear hgs5
            obtain ⟨js, hjs⟩ : ∃ js, js = (fs.take (fs.length - 4)).drop 6 := ⟨_, rfl⟩
            have hjl : js.length = y.toNat - 6 := by rw [hjs, List.length_drop, List.length_take]; have := HY.out; omega
            have hsl : ∀ W : World, (Instr.slice 28 (.slice (some ⟨gs, 0, none⟩) fs.length cap) (some (.int .i64 6)) (some (.int .i64 y)) none).run Tryd.prog W = .ok (.slice (some ⟨gs, 6, none⟩) js.length (cap - 6)) W :=
              slice_mid gs fs.length cap js.length y (by have := HY.out; have := H10.out; omega) (by have := HY.out; omega) HLC.out H10.out hjl
            have HJS := Aside0.mk hjs
            have HJ2 := Aside0.mk hjl
            clear hjs hjl
            have HJC : Aside0 (∀ W, Below w5.heap.size w5 W → ∀ (j : Nat) x, js[j]? = some x → W.cell? ⟨gs, 6 + j, none⟩ = some (.string x)) := ⟨fun W hb j x hj => by
              have hjl := (List.getElem?_eq_some_iff.1 hj).1
              have h2 := HJ2.out
              have hy := HY.out
              have hc := CELLS.out ((6 + j : Nat) : Int) (by omega) (by omega)
              rw [Int.toNat_natCast] at hc
              rw [hb.cell (p := ⟨gs, 6 + j, none⟩) HGS5.out, hc]
              rw [HJS.out, List.getElem?_drop, List.getElem?_take] at hj
              split at hj
              · simp only [rdOf, List.getD_eq_getElem?_getD]
                rw [show ((6 + j : Nat) : Int).toNat = 6 + j from Int.toNat_natCast _, hj]
                rfl
              · cases hj⟩
            go_region_held3 (fun W => Below w5.heap.size w5 W ∧ W.cell? ⟨gs, 0, none⟩ = some (.string (rdOf ByteArray.empty fs 0)) ∧ W.cell? ⟨gs, 1, none⟩ = some (.string (rdOf ByteArray.empty fs 1)) ∧
                W.cell? ⟨gs, 3, none⟩ = some (.string (rdOf ByteArray.empty fs 3)) ∧ W.cell? ⟨gs, 4, none⟩ = some (.string (rdOf ByteArray.empty fs 4)) ∧ W.cell? ⟨gs, 5, none⟩ = some (.string (rdOf ByteArray.empty fs 5)) ∧
                W.cell? ⟨gs, y1.toNat, none⟩ = some (.string (rdOf ByteArray.empty fs y1)) ∧ W.cell? ⟨gs, y2.toNat, none⟩ = some (.string (rdOf ByteArray.empty fs y2)) ∧ W.cell? ⟨gs, y3.toNat, none⟩ = some (.string (rdOf ByteArray.empty fs y3)))
              (first
                | exact KA.out _ (below_drew (Below.refl _ _))
                | (go_split_ands; exact KA.out _ (keepS (by assumption) hb'))
                | (go_split_ands; exact KA.out _ (below_alloc (by assumption) _)))
              (first
                | (go_at_call 40; (with_reducible refine (mountinfo_toInt.calls _ _ _ A0.out).mono ?_); rintro e w' ⟨rfl, hb'⟩)
                | (go_at_call 40; (with_reducible refine (mountinfo_toInt.calls _ _ _ A1.out).mono ?_); rintro e w' ⟨rfl, hb'⟩)
                | (go_at_call 40; (with_reducible refine (mountinfo_toInt.calls _ _ _ A2.out).mono ?_); rintro e w' ⟨rfl, hb'⟩)
                | (go_at_call 40; (with_reducible refine (mountinfo_toInt.calls _ _ _ A3.out).mono ?_); rintro e w' ⟨rfl, hb'⟩)
                | (go_at_call 41; (with_reducible refine (mountinfo_unescape.calls k _ _ _ A4.out).mono ?_); rintro e w' ⟨rfl, hb'⟩)
                | (go_at_call 41; (with_reducible refine (mountinfo_unescape.calls k _ _ _ A5.out).mono ?_); rintro e w' ⟨rfl, hb'⟩)
                | (go_at_call 41; (with_reducible refine (mountinfo_unescape.calls k _ _ _ A8.out).mono ?_); rintro e w' ⟨rfl, hb'⟩)
                | (go_at_call 41; (with_reducible refine (mountinfo_unescape.calls k _ _ _ A9.out).mono ?_); rintro e w' ⟨rfl, hb'⟩)
                | (go_at_call 42; refine (Tryd.strings_Join gs 6 (cap - 6) js ⟨#[32]⟩ _ (by go_split_ands; exact HJC.out _ (by assumption)) (by go_split_ands; exact Nat.lt_of_lt_of_le HGS5.out (Below.size (by assumption))) (by have := HJ2.out; have := HY.out; have := HM.out; omega) (by have := HJ2.out; have := HY.out; have := HLC.out; omega) (by rw [HJS.out]; exact HJL.out)).mono ?_; rintro e w' ⟨rfl, hb'⟩))
            have X7 : (⟨(Lib.join (List.map (fun x => x.data.toList) js) [32]).toArray⟩ : ByteArray) = m.f7 := by rw [E7.out, joinF, HJS.out]
            have hb8 : Below w5.heap.size w5 w' := by repeat (first | exact below_drew (Below.refl _ _) | refine keepS ?_ (by assumption))
            rw [X7, ← E6.out, ← E10.out]
            have hb9 : Below w5.heap.size w5 (w'.alloc (Obj.cells #[.int .i64 m.f0, .int .i64 m.f1, .int .i64 m.f2, .int .i64 m.f3, .string m.f4, .string m.f5, .string m.f6, .string m.f7, .string m.f8, .string m.f9, .string m.f10] 57 (0, 0))) := below_alloc hb8 _
            have hbk := heap_alloc_new w' (Obj.cells #[.int .i64 m.f0, .int .i64 m.f1, .int .i64 m.f2, .int .i64 m.f3, .string m.f4, .string m.f5, .string m.f6, .string m.f7, .string m.f8, .string m.f9, .string m.f10] 57 (0, 0))
            have hge := hb8.size
            clear X7
            generalize w'.alloc (Obj.cells #[.int .i64 m.f0, .int .i64 m.f1, .int .i64 m.f2, .int .i64 m.f3, .string m.f4, .string m.f5, .string m.f6, .string m.f7, .string m.f8, .string m.f9, .string m.f10] 57 (0, 0)) = W9 at hb9 hbk ⊢
            generalize w'.heap.size = b9 at hbk hge ⊢
            have HBK := Aside0.mk (show W9.heap[b9]? = some (infoObj m) from hbk)
            have HO9 := Aside0.mk (Kd.R_below HO4.out (keepS HB5.out hb9))
            have HX9 := Aside0.mk (keepS HB4.out (keepS HB5.out hb9))
            have HG9 := Aside0.mk (blk_below HG4.out (keepS HB5.out hb9))
            have HB9 := Aside0.mk (show w.heap.size ≤ b9 from Nat.le_trans (keepS HB4.out HB5.out).size hge)
            have HNE := Aside0.mk (show some b9 ≠ u7.ownBlock from fun e => by have h1 := Kd.R_lt HO4.out b9 e.symm; have h2 := HB5.out.size; omega)
            clear hb9 hb8 hbk hge
            have HOK := Aside0.mk (FK.ok_below HF.out HX9.out)
            clear HF
            cases F with
            | none =>
              dsimp only [FK.val]
              have hnf := neq_nilFunc
              go_wp2_with
                    (first
                      | ((with_reducible refine gate_builtin (b := .append) (xs := #[.tmp 111, .tmp 113]) rfl ?_); at_builtin; refine Kd.R_append kptr (w0 := w) w.heap.size rfl (.tmp 111) (.tmp 113) 50 56 (.pointer none) 8 rfl Tryd.underlying50 infoM56 rfl (by decide) (by omega) u7 done m [.pointer (some ⟨b9, 0, none⟩)] (fun _ => True) (fun k => k = b9) rfl (by first | (go_simp; done) | (go_simp; rfl)) ⟨b9, rfl, HBK.out, HB9.out, rfl⟩ (fun k hk => ⟨trivial, by rw [hk]; exact HNE.out⟩) (fun _ _ => trivial) HO9.out HX9.out HX9.out.size (by have := HS.out; have := HT.out; omega) ?_; intro v11 w11 ho hb hg _; have HO11 := Aside0.mk ho; have HB11 := Aside0.mk hb; have HG11 := Aside0.mk (blk_grown HG9.out hg (Kd.R_ne HO9.out HG9.out (by decide))); clear ho hb hg))
              go_roundg k1
              case measure => omega
              case rel =>
                exact ⟨restOf t, lineOf t, ms', done ++ [m], HMS, ⟨by have := HD.out; rw [List.filter_cons_of_pos (show FK.keeps FK.none m = true from rfl)] at this; rw [← this]; simp⟩, ⟨by have := restOf_size t (by have := HT.out; omega); have := HS.out; have := HT.out; simp; omega⟩, HG11, HO11, HB11⟩
            | types gF AF cF xs =>
              dsimp only [FK.val]
              have hnf := neq_func
              cases hk : keepsType xs m
              · go_wp2_with
                    (first
                      | (go_at_call 29; refine (fs_call b9 gF m AF cF xs _ HBK.out HOK.out.1 HOK.out.2).mono ?_; rintro e w10 ⟨rfl, rfl⟩))
                go_roundg k1
                case measure => omega
                case rel =>
                  exact ⟨restOf t, lineOf t, ms', done, HMS, ⟨by have := HD.out; rw [List.filter_cons_of_neg (show ¬ FK.keeps (FK.types gF AF cF xs) m = true from fun e => by rw [show FK.keeps (FK.types gF AF cF xs) m = keepsType xs m from rfl, hk] at e; cases e)] at this; exact this⟩, ⟨by have := restOf_size t (by have := HT.out; omega); have := HS.out; have := HT.out; omega⟩, HG9, HO9, HX9⟩
              · go_wp2_with
                    (first
                      | (go_at_call 29; refine (fs_call b9 gF m AF cF xs _ HBK.out HOK.out.1 HOK.out.2).mono ?_; rintro e w10 ⟨rfl, rfl⟩)
                      | ((with_reducible refine gate_builtin (b := .append) (xs := #[.tmp 111, .tmp 113]) rfl ?_); at_builtin; refine Kd.R_append kptr (w0 := w) w.heap.size rfl (.tmp 111) (.tmp 113) 50 56 (.pointer none) 8 rfl Tryd.underlying50 infoM56 rfl (by decide) (by omega) u7 done m [.pointer (some ⟨b9, 0, none⟩)] (fun _ => True) (fun k => k = b9) rfl (by first | (go_simp; done) | (go_simp; rfl)) ⟨b9, rfl, HBK.out, HB9.out, rfl⟩ (fun k hk => ⟨trivial, by rw [hk]; exact HNE.out⟩) (fun _ _ => trivial) HO9.out HX9.out HX9.out.size (by have := HS.out; have := HT.out; omega) ?_; intro v11 w11 ho hb hg _; have HO11 := Aside0.mk ho; have HB11 := Aside0.mk hb; have HG11 := Aside0.mk (blk_grown HG9.out hg (Kd.R_ne HO9.out HG9.out (by decide))); clear ho hb hg))
                go_roundg k1
                case measure => omega
                case rel =>
                  exact ⟨restOf t, lineOf t, ms', done ++ [m], HMS, ⟨by have := HD.out; rw [List.filter_cons_of_pos (show FK.keeps (FK.types gF AF cF xs) m = true from hk)] at this; rw [← this]; simp⟩, ⟨by have := restOf_size t (by have := HT.out; omega); have := HS.out; have := HT.out; simp; omega⟩, HG11, HO11, HB11⟩
            | pre gF pF =>
              dsimp only [FK.val]
              have hnf := neq_func
              cases hk : keepsPre pF m
              · go_wp2_with
                    (first
                      | (go_at_call 32; refine (pf_call b9 gF m pF _ HBK.out HOK.out.1 H5S.out HOK.out.2).mono ?_; rintro e w10 ⟨rfl, hd10⟩; have HO10 := Aside0.mk (Kd.R_below HO9.out hd10.below); have HX10 := Aside0.mk (keepS HX9.out hd10.below); have HG10 := Aside0.mk (blk_below HG9.out hd10.below); have HBK10 := Aside0.mk (blk_below HBK.out hd10.below); clear hd10))
                go_roundg k1
                case measure => omega
                case rel =>
                  exact ⟨restOf t, lineOf t, ms', done, HMS, ⟨by have := HD.out; rw [List.filter_cons_of_neg (show ¬ FK.keeps (FK.pre gF pF) m = true from fun e => by rw [show FK.keeps (FK.pre gF pF) m = keepsPre pF m from rfl, hk] at e; cases e)] at this; exact this⟩, ⟨by have := restOf_size t (by have := HT.out; omega); have := HS.out; have := HT.out; omega⟩, HG10, HO10, HX10⟩
              · go_wp2_with
                    (first
                      | (go_at_call 32; refine (pf_call b9 gF m pF _ HBK.out HOK.out.1 H5S.out HOK.out.2).mono ?_; rintro e w10 ⟨rfl, hd10⟩; have HO10 := Aside0.mk (Kd.R_below HO9.out hd10.below); have HX10 := Aside0.mk (keepS HX9.out hd10.below); have HG10 := Aside0.mk (blk_below HG9.out hd10.below); have HBK10 := Aside0.mk (blk_below HBK.out hd10.below); clear hd10)
                      | ((with_reducible refine gate_builtin (b := .append) (xs := #[.tmp 111, .tmp 113]) rfl ?_); at_builtin; refine Kd.R_append kptr (w0 := w) w.heap.size rfl (.tmp 111) (.tmp 113) 50 56 (.pointer none) 8 rfl Tryd.underlying50 infoM56 rfl (by decide) (by omega) u7 done m [.pointer (some ⟨b9, 0, none⟩)] (fun _ => True) (fun k => k = b9) rfl (by first | (go_simp; done) | (go_simp; rfl)) ⟨b9, rfl, HBK10.out, HB9.out, rfl⟩ (fun k hk => ⟨trivial, by rw [hk]; exact HNE.out⟩) (fun _ _ => trivial) HO10.out HX10.out HX10.out.size (by have := HS.out; have := HT.out; omega) ?_; intro v11 w11 ho hb hg _; have HO11 := Aside0.mk ho; have HB11 := Aside0.mk hb; have HG11 := Aside0.mk (blk_grown HG10.out hg (Kd.R_ne HO10.out HG10.out (by decide))); clear ho hb hg))
                go_roundg k1
                case measure => omega
                case rel =>
                  exact ⟨restOf t, lineOf t, ms', done ++ [m], HMS, ⟨by have := HD.out; rw [List.filter_cons_of_pos (show FK.keeps (FK.pre gF pF) m = true from hk)] at this; rw [← this]; simp⟩, ⟨by have := restOf_size t (by have := HT.out; omega); have := HS.out; have := HT.out; simp; omega⟩, HG11, HO11, HB11⟩
        · rw [if_neg hc] at h
          exact absurd h (by simp)
end Go.Proofs.YtdmccakncgdbhaaDoor.GMA
