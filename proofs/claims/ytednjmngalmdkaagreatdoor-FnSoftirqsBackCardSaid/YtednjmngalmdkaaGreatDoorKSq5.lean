/- Texts of this claim, put together: GivenSq, GivenSqF, GivenSqT, GPEx12, GPRx0, GPRx1. Conditions: as each one says. -/
import Derived.Test.YtednjmngalmdkaaGreatDoorKSq0
import Derived.Test.YtednjmngalmdkaaGreatDoorKSq1
import Derived.Test.YtednjmngalmdkaaGreatDoorKSq2
import Derived.Test.YtednjmngalmdkaaGreatDoorKSq4
import Derived.Laws.MakeOwn
import Derived.Laws.Slices
import Derived.StillTailTactics
import Derived.Deep.RegionHeld3
import Derived.Defers
import Derived.Recover
import Derived.Test.YtednjmngalmdkaaGreatDoorProg
import Derived.Below
import Derived.Deep.Draws
import Derived.Deep.AppendLies
import Derived.Maps.AppendAt
import Derived.OwnWalk
import Derived.Laws.BytesArg
import Derived.Laws.OwnMore
import Derived.Deep.OwnRows
import Derived.Tactics
import Derived.Lib.ConvBytes
import Derived.WalkKit
import Derived.KernelRfl
import Derived.RowKit3
import Derived.Deep.LoopGhost
import Derived.Deep.QuietTactic
import Derived.BigQuiet
import Derived.WideLaws
import Derived.Deep.DeepCutAuto
import Derived.Deep.CutBlock
import Derived.Laws.Rows
import Derived.Lib.AppendStr
import Derived.ArgAppend
import Derived.Laws.IdiomCopy
import Derived.OrdersHeld
import Derived.Laws.BitsLemmas
import Derived.RowKit
section
/- procfs.parseSoftirqs: the ten rows of numbers that a text says, in their order, behind its head. Conditions: sqL; the tables as laid. -/
namespace Go.Proofs.YtednjmngalmdkaaGreatDoor.GPC
open Go Go.RowKit Go.Proofs.YtednjmngalmdkaaGreatDoorW.PrintWords Go.Proofs.YtednjmngalmdkaaGreatDoorW.PrintLast
set_option linter.unusedVariables false
set_option linter.unusedSimpArgs false
set_option maxHeartbeats 32000000 in
set_option maxRecDepth 100000 in
theorem sqParse (k : Nat) (text t0 : ByteArray) (ms : List (ByteArray × List Int)) (w : World) (hT : TabW w) (hh : headF text = some t0) (h : rowsF sqL k t0 = some ms) (hn : ms.map Prod.fst = sqNames) :
  Calls Tryz.prog 174 #[.string text] w fun e w' => ∃ gs : List (Nat × List Int), e = .returned (.tuple #[.agg ⟨gs.map sqVal⟩, .nilIface]) ∧ gs.map Prod.snd = ms.map Prod.snd ∧ sqAll w' w.heap.size gs ∧ Below w.heap.size w w' := by
 obtain ⟨hne, hok, rfl⟩ : ¬ text.size = 0 ∧ LineOk text ∧ GL.restOf text = t0 := by
  unfold headF at hh
  split at hh
  ·cases hh
  ·rename_i h0
   split at hh
   ·rename_i h1; exact ⟨h0, h1, Option.some.inj hh⟩
   ·cases hh
 have HT := Aside0.mk hT
 have HNE := Aside0.mk hne
 have HOK0 := Aside0.mk hok
 have H := Aside0.mk h
 have HN := Aside0.mk hn
 clear hT h hn hne hok hh
 go_enter Tryz.func174, Tryz.ntmps174
 go_wp2_with (first
  | ((with_reducible refine gate_dst (N := 2) rfl ?_); refine box_event ?hg (N := 2) ?hd (cs := sqZero) (t := 140) ?hr ?_; (case hd => rfl); (case hg => rfl); (case hr => first | (go_simp; done) | (go_simp; rfl)); intro g2 hg2 w1 hbox hb1; have H2 := Aside0.mk hbox; have HB1 := Aside0.mk hb1; have HG2 := Aside0.mk (show w.heap.size ≤ g2 by rw [hg2]; exact Nat.le_refl _); clear hg2 hbox hb1)
  | ((with_reducible refine gate_dst (N := 4) rfl ?_); refine box_event ?hg (N := 4) ?hd (cs := sqZero) (t := 140) ?hr ?_; (case hd => rfl); (case hg => rfl); (case hr => first | (go_simp; done) | (go_simp; rfl)); intro g4 hg4 w2 hbox hb2; have H4 := Aside0.mk hbox; have H22 := Aside0.mk (blk_below H2.out hb2); have HB2 := Aside0.mk (below_then HB1.out HB1.out.size hb2); have HG4 := Aside0.mk (show w.heap.size ≤ g4 by rw [hg4]; exact HB1.out.size); have HG24 := Aside0.mk (show g2 ≠ g4 by have := blk_lt H2.out; omega); clear hg4 hbox hb2)
  | ((with_reducible refine gate_ (.store 140 (.tmp 4) (.tmp 39)) rfl ?_); refine box_store rfl rfl 140 (.tmp 4) (.tmp 39) rfl g4 140 sqZero (.agg sqZero) (List.replicate 10 (.slice none 0 0)) rfl rfl rfl sq_size sq_one H4.out rfl ?_; intro w3 hbk hgr; have H43 := Aside0.mk hbk; have H23 := Aside0.mk (blk_grown H22.out hgr (fun e => HG24.out (by cases e; rfl))); have HB3 := Aside0.mk (pw_below_grown HB2.out (some g4) HB2.out.size hgr (fun k e => by cases e; exact HG4.out)); clear hbk hgr)
  | (go_at_call 154; refine (GL.lines_new text _).mono ?_; rintro e w4 ⟨g, rfl, hg1, hg2, hb4⟩; have HL4 := Aside0.mk hg2; have HGL := Aside0.mk (show w.heap.size ≤ g from Nat.le_trans HB3.out.size hg1); have H44 := Aside0.mk (blk_below H43.out hb4); have H24 := Aside0.mk (blk_below H23.out hb4); have HGN4 := Aside0.mk (show g4 ≠ g by have := blk_lt H43.out; omega); have HGN2 := Aside0.mk (show g2 ≠ g by have := blk_lt H23.out; omega); have HB4 := Aside0.mk (below_step HB3.out hb4); clear hg1 hg2 hb4)
  | (go_at_call 155; refine (GL.lines_scan g text _ _ HL4.out (by have := HNE.out; omega) (by have := HOK0.out.1; omega) HOK0.out.2.1 HOK0.out.2.2).mono ?_; rintro e w5 ⟨rfl, hg3, hgr3⟩; have HL := Aside0.mk hg3; have H4B := Aside0.mk (blk_grown H44.out hgr3 (fun e => HGN4.out (by cases e; rfl))); have H2B := Aside0.mk (blk_grown H24.out hgr3 (fun e => HGN2.out (by cases e; rfl))); have HB := Aside0.mk (pw_below_grown HB4.out (some g) HB4.out.size hgr3 (fun k e => by cases e; exact HGL.out)); clear hg3 hgr3))
 go_loopg [6] k (fun kq v6 w' => ∃ (t line : ByteArray) (rest : List (ByteArray × List Int)) (gs : List (Nat × List Int)) (vx : Value), v6 = vx ∧ Aside0 (rowsF sqL kq t = some rest) ∧ Aside0 (gs.length + rest.length = 10 ∧ rest.map Prod.fst = sqNames.drop gs.length ∧ gs.map Prod.snd ++ rest.map Prod.snd = ms.map Prod.snd) ∧
  Aside0 (w'.heap[g]? = some (GL.linesCells t line)) ∧ Aside0 (w'.heap[g4]? = some (sqObj gs)) ∧ Aside0 (w'.heap[g2]? = some (.cells sqZero 140 (0, 0))) ∧ Aside0 (sqAll w' w.heap.size gs) ∧ Aside0 (Below w.heap.size w w'))
 case atStart => exact ⟨_, _, ms, [], _, rfl, H, ⟨by have := congrArg List.length HN.out; rw [List.length_map] at this; rw [this]; rfl, by rw [HN.out]; rfl, rfl⟩, HL, H4B, H2B, ⟨fun p hp => by cases hp⟩, HB⟩
 case round =>
  clear H HL H4B H2B HB HL4 H44 H24 HB4 H43 H23 HB3 H4 H22 HB2 H2 HB1
  obtain ⟨t, line, rest, gs, vx, rfl, H, HD, HL, H4, H2, HA, HB⟩ := hrel
  cases gk with
  | zero => exact absurd H.out (by simp [rowsF])
  | succ k1 =>
   by_cases ht : t.size = 0
   ·have h := H.out
    clear H
    unfold rowsF at h
    rw [if_pos ht] at h
    obtain rfl := Option.some.inj h
    obtain rfl := GL.size0 ht
    clear h ht
    have hlen : gs.length = 10 := by have := HD.out.1; simpa using this
    obtain ⟨p0, p1, p2, p3, p4, p5, p6, p7, p8, p9, rfl⟩ : ∃ p0 p1 p2 p3 p4 p5 p6 p7 p8 p9, gs = [p0, p1, p2, p3, p4, p5, p6, p7, p8, p9] := by
     match gs, hlen with
     | [p0, p1, p2, p3, p4, p5, p6, p7, p8, p9], _ => exact ⟨p0, p1, p2, p3, p4, p5, p6, p7, p8, p9, rfl⟩
    clear hlen
    go_wp2_with (first
     | (go_at_call 155; refine (GL.lines_scan_end g line _ HL.out).mono ?_; rintro e w3 ⟨rfl, hg3, hgr3⟩; have HL3 := Aside0.mk hg3; have H43 := Aside0.mk (blk_grown H4.out hgr3 (fun e => HGN4.out (by cases e; rfl))); have H23 := Aside0.mk (blk_grown H2.out hgr3 (fun e => HGN2.out (by cases e; rfl))); have HA3 := Aside0.mk (sqAll_grown HA.out hgr3 (sqAll_ne HA.out HL.out (by decide))); have HB3 := Aside0.mk (pw_below_grown HB.out (some g) HB.out.size hgr3 (fun k e => by cases e; exact HGL.out)); clear hg3 hgr3)
     | (go_at_call 193; refine (GL.lines_err g _ _ _ HL3.out).mono ?_; rintro e w4 ⟨rfl, rfl⟩))
    have HLz := Aside0.mk (blk_drew HL3.out)
    have H4z := Aside0.mk (blk_drew H43.out)
    have H2z := Aside0.mk (blk_drew H23.out)
    have HAz := Aside0.mk (show sqAll w4.drew w.heap.size [p0, p1, p2, p3, p4, p5, p6, p7, p8, p9] from fun p hp => ⟨(HA3.out p hp).1, blk_drew (HA3.out p hp).2⟩)
    have HBz := Aside0.mk (below_drew1 HB3.out)
    refine start_ (n := 5) (S := fun w' => w'.cell? ⟨g4, 0, none⟩ = some (.slice (some ⟨p0.1, 0, none⟩) p0.2.length p0.2.length) ∧ w'.cell? ⟨g4, 1, none⟩ = some (.slice (some ⟨p1.1, 0, none⟩) p1.2.length p1.2.length) ∧ w'.cell? ⟨g4, 2, none⟩ = some (.slice (some ⟨p2.1, 0, none⟩) p2.2.length p2.2.length) ∧ w'.cell? ⟨g4, 3, none⟩ = some (.slice (some ⟨p3.1, 0, none⟩) p3.2.length p3.2.length) ∧ w'.cell? ⟨g4, 4, none⟩ = some (.slice (some ⟨p4.1, 0, none⟩) p4.2.length p4.2.length) ∧ w'.cell? ⟨g4, 5, none⟩ = some (.slice (some ⟨p5.1, 0, none⟩) p5.2.length p5.2.length) ∧ w'.cell? ⟨g4, 6, none⟩ = some (.slice (some ⟨p6.1, 0, none⟩) p6.2.length p6.2.length) ∧ w'.cell? ⟨g4, 7, none⟩ = some (.slice (some ⟨p7.1, 0, none⟩) p7.2.length p7.2.length) ∧ w'.cell? ⟨g4, 8, none⟩ = some (.slice (some ⟨p8.1, 0, none⟩) p8.2.length p8.2.length) ∧ w'.cell? ⟨g4, 9, none⟩ = some (.slice (some ⟨p9.1, 0, none⟩) p9.2.length p9.2.length)) (ds := []) #[false, false, false, false, false] (by kernel_rfl) rfl rfl ⟨(blk_cell H4z.out 0).trans rfl, (blk_cell H4z.out 1).trans rfl, (blk_cell H4z.out 2).trans rfl, (blk_cell H4z.out 3).trans rfl, (blk_cell H4z.out 4).trans rfl, (blk_cell H4z.out 5).trans rfl, (blk_cell H4z.out 6).trans rfl, (blk_cell H4z.out 7).trans rfl, (blk_cell H4z.out 8).trans rfl, (blk_cell H4z.out 9).trans rfl⟩ (fun hHeld => ?_); refine with_tabW sqTabE sqBitsE (fun HT_ HW_ => ?_)
    clear HL3 H43 H23 HA3 HB3
    generalize w4.drew = wZ at HLz H4z H2z HAz HBz hHeld ⊢
    refine pure_ (i := 1) (N := some 355) (v := ?_) (a' := ?_) #[false, true, false, false, false] rfl rfl (any_of HT_.out (by kernel_rfl)) (fun _ _ _ h => h) (Or.inl ⟨by rfl, ?_⟩) ?_ ?_
    rotate_left
    ·intro w'
     go_simp
     with_reducible rfl
    rotate_left
    ·simp only [Act.put, List.setIfInBounds_toArray, List.set_cons_zero, List.set_cons_succ, i64_w, i32_w]
     rfl
    refine take_ (i := 0) (N := some 354) (v := ?_) (a' := ?_) #[true, true, false, false, false] rfl rfl (take_ofW HT_.out HW_.out (by kernel_rfl)) (fun _ _ _ h => h) (Or.inl ⟨by rfl, ?_⟩) hHeld ?_ ?_
    rotate_left
    ·rintro w' ⟨s0, s1, s2, s3, s4, s5, s6, s7, s8, s9⟩
     go_simp
     with_reducible rfl
    rotate_left
    ·simp only [Act.put, List.setIfInBounds_toArray, List.set_cons_zero, List.set_cons_succ, i64_w, i32_w]
     rfl
    refine one_ (i := 2) (N := some 356) #[true, true, true, false, false] rfl rfl (one_of HT_.out (by kernel_rfl)) (by decide) (fun K hK => ?_)
    refine goes_ Tryz.func193 (by kernel_rfl) rfl #[.pointer (some ⟨g, 0, none⟩)] (by rfl) rfl rfl (by (try simp only [List.map_toArray, List.map_cons, List.map_nil]); first | done | rfl | (simp only [List.length_drop, List.length_take]; rfl)) ?_
    refine (GL.lines_err g _ _ _ HLz.out).mono ?_
    rintro e w13 ⟨rfl, rfl⟩
    refine ⟨_, rfl, ?_⟩
    refine hK.out _ _ ⟨(blk_cell H4z.out 0).trans rfl, (blk_cell H4z.out 1).trans rfl, (blk_cell H4z.out 2).trans rfl, (blk_cell H4z.out 3).trans rfl, (blk_cell H4z.out 4).trans rfl, (blk_cell H4z.out 5).trans rfl, (blk_cell H4z.out 6).trans rfl, (blk_cell H4z.out 7).trans rfl, (blk_cell H4z.out 8).trans rfl, (blk_cell H4z.out 9).trans rfl⟩ (fun hHeld => ?_)
    clear hK K
    refine norm_ (a' := ?_) ?_ ?_
    rotate_left
    ·show Act.put _ (some 356) _ = _
     simp only [Act.put, List.setIfInBounds_toArray, List.set_cons_zero, List.set_cons_succ, i64_w, i32_w]
     rfl
    refine one_ (i := 3) (N := none) #[true, true, true, true, false] rfl rfl (one_of HT_.out (by kernel_rfl)) (by decide) (fun K hK => ?_)
    have t0 : w13.cell? ⟨g2, 0, none⟩ = some (.slice none 0 0) := (blk_cell H2z.out 0).trans rfl
    have f0 := blk_frozen H2z.out 0
    have t1 : w13.cell? ⟨g2, 1, none⟩ = some (.slice none 0 0) := (blk_cell H2z.out 1).trans rfl
    have f1 := blk_frozen H2z.out 1
    have t2 : w13.cell? ⟨g2, 2, none⟩ = some (.slice none 0 0) := (blk_cell H2z.out 2).trans rfl
    have f2 := blk_frozen H2z.out 2
    have t3 : w13.cell? ⟨g2, 3, none⟩ = some (.slice none 0 0) := (blk_cell H2z.out 3).trans rfl
    have f3 := blk_frozen H2z.out 3
    have t4 : w13.cell? ⟨g2, 4, none⟩ = some (.slice none 0 0) := (blk_cell H2z.out 4).trans rfl
    have f4 := blk_frozen H2z.out 4
    have t5 : w13.cell? ⟨g2, 5, none⟩ = some (.slice none 0 0) := (blk_cell H2z.out 5).trans rfl
    have f5 := blk_frozen H2z.out 5
    have t6 : w13.cell? ⟨g2, 6, none⟩ = some (.slice none 0 0) := (blk_cell H2z.out 6).trans rfl
    have f6 := blk_frozen H2z.out 6
    have t7 : w13.cell? ⟨g2, 7, none⟩ = some (.slice none 0 0) := (blk_cell H2z.out 7).trans rfl
    have f7 := blk_frozen H2z.out 7
    have t8 : w13.cell? ⟨g2, 8, none⟩ = some (.slice none 0 0) := (blk_cell H2z.out 8).trans rfl
    have f8 := blk_frozen H2z.out 8
    have t9 : w13.cell? ⟨g2, 9, none⟩ = some (.slice none 0 0) := (blk_cell H2z.out 9).trans rfl
    have f9 := blk_frozen H2z.out 9
    refine skip_ (w1 := ?_) (by rfl) rfl ?_ ?_
    rotate_left
    ·go_simp
     rfl
    have hgr : w13.grownBy ((((((((((w13.setCell ⟨g2, 0, none⟩ (.slice (some ⟨p0.1, 0, none⟩) p0.2.length p0.2.length)).setCell ⟨g2, 1, none⟩ (.slice (some ⟨p1.1, 0, none⟩) p1.2.length p1.2.length)).setCell ⟨g2, 2, none⟩ (.slice (some ⟨p2.1, 0, none⟩) p2.2.length p2.2.length)).setCell ⟨g2, 3, none⟩ (.slice (some ⟨p3.1, 0, none⟩) p3.2.length p3.2.length)).setCell ⟨g2, 4, none⟩ (.slice (some ⟨p4.1, 0, none⟩) p4.2.length p4.2.length)).setCell ⟨g2, 5, none⟩ (.slice (some ⟨p5.1, 0, none⟩) p5.2.length p5.2.length)).setCell ⟨g2, 6, none⟩ (.slice (some ⟨p6.1, 0, none⟩) p6.2.length p6.2.length)).setCell ⟨g2, 7, none⟩ (.slice (some ⟨p7.1, 0, none⟩) p7.2.length p7.2.length)).setCell ⟨g2, 8, none⟩ (.slice (some ⟨p8.1, 0, none⟩) p8.2.length p8.2.length)).setCell ⟨g2, 9, none⟩ (.slice (some ⟨p9.1, 0, none⟩) p9.2.length p9.2.length)) (some g2) := (World.grownBy.trans (World.grownBy.trans (World.grownBy.trans (World.grownBy.trans (World.grownBy.trans (World.grownBy.trans (World.grownBy.trans (World.grownBy.trans (World.grownBy.trans (grown_set w13 g2 0 (.slice (some ⟨p0.1, 0, none⟩) p0.2.length p0.2.length)) (grown_set (w13.setCell ⟨g2, 0, none⟩ (.slice (some ⟨p0.1, 0, none⟩) p0.2.length p0.2.length)) g2 1 (.slice (some ⟨p1.1, 0, none⟩) p1.2.length p1.2.length))) (grown_set ((w13.setCell ⟨g2, 0, none⟩ (.slice (some ⟨p0.1, 0, none⟩) p0.2.length p0.2.length)).setCell ⟨g2, 1, none⟩ (.slice (some ⟨p1.1, 0, none⟩) p1.2.length p1.2.length)) g2 2 (.slice (some ⟨p2.1, 0, none⟩) p2.2.length p2.2.length))) (grown_set (((w13.setCell ⟨g2, 0, none⟩ (.slice (some ⟨p0.1, 0, none⟩) p0.2.length p0.2.length)).setCell ⟨g2, 1, none⟩ (.slice (some ⟨p1.1, 0, none⟩) p1.2.length p1.2.length)).setCell ⟨g2, 2, none⟩ (.slice (some ⟨p2.1, 0, none⟩) p2.2.length p2.2.length)) g2 3 (.slice (some ⟨p3.1, 0, none⟩) p3.2.length p3.2.length))) (grown_set ((((w13.setCell ⟨g2, 0, none⟩ (.slice (some ⟨p0.1, 0, none⟩) p0.2.length p0.2.length)).setCell ⟨g2, 1, none⟩ (.slice (some ⟨p1.1, 0, none⟩) p1.2.length p1.2.length)).setCell ⟨g2, 2, none⟩ (.slice (some ⟨p2.1, 0, none⟩) p2.2.length p2.2.length)).setCell ⟨g2, 3, none⟩ (.slice (some ⟨p3.1, 0, none⟩) p3.2.length p3.2.length)) g2 4 (.slice (some ⟨p4.1, 0, none⟩) p4.2.length p4.2.length))) (grown_set (((((w13.setCell ⟨g2, 0, none⟩ (.slice (some ⟨p0.1, 0, none⟩) p0.2.length p0.2.length)).setCell ⟨g2, 1, none⟩ (.slice (some ⟨p1.1, 0, none⟩) p1.2.length p1.2.length)).setCell ⟨g2, 2, none⟩ (.slice (some ⟨p2.1, 0, none⟩) p2.2.length p2.2.length)).setCell ⟨g2, 3, none⟩ (.slice (some ⟨p3.1, 0, none⟩) p3.2.length p3.2.length)).setCell ⟨g2, 4, none⟩ (.slice (some ⟨p4.1, 0, none⟩) p4.2.length p4.2.length)) g2 5 (.slice (some ⟨p5.1, 0, none⟩) p5.2.length p5.2.length))) (grown_set ((((((w13.setCell ⟨g2, 0, none⟩ (.slice (some ⟨p0.1, 0, none⟩) p0.2.length p0.2.length)).setCell ⟨g2, 1, none⟩ (.slice (some ⟨p1.1, 0, none⟩) p1.2.length p1.2.length)).setCell ⟨g2, 2, none⟩ (.slice (some ⟨p2.1, 0, none⟩) p2.2.length p2.2.length)).setCell ⟨g2, 3, none⟩ (.slice (some ⟨p3.1, 0, none⟩) p3.2.length p3.2.length)).setCell ⟨g2, 4, none⟩ (.slice (some ⟨p4.1, 0, none⟩) p4.2.length p4.2.length)).setCell ⟨g2, 5, none⟩ (.slice (some ⟨p5.1, 0, none⟩) p5.2.length p5.2.length)) g2 6 (.slice (some ⟨p6.1, 0, none⟩) p6.2.length p6.2.length))) (grown_set (((((((w13.setCell ⟨g2, 0, none⟩ (.slice (some ⟨p0.1, 0, none⟩) p0.2.length p0.2.length)).setCell ⟨g2, 1, none⟩ (.slice (some ⟨p1.1, 0, none⟩) p1.2.length p1.2.length)).setCell ⟨g2, 2, none⟩ (.slice (some ⟨p2.1, 0, none⟩) p2.2.length p2.2.length)).setCell ⟨g2, 3, none⟩ (.slice (some ⟨p3.1, 0, none⟩) p3.2.length p3.2.length)).setCell ⟨g2, 4, none⟩ (.slice (some ⟨p4.1, 0, none⟩) p4.2.length p4.2.length)).setCell ⟨g2, 5, none⟩ (.slice (some ⟨p5.1, 0, none⟩) p5.2.length p5.2.length)).setCell ⟨g2, 6, none⟩ (.slice (some ⟨p6.1, 0, none⟩) p6.2.length p6.2.length)) g2 7 (.slice (some ⟨p7.1, 0, none⟩) p7.2.length p7.2.length))) (grown_set ((((((((w13.setCell ⟨g2, 0, none⟩ (.slice (some ⟨p0.1, 0, none⟩) p0.2.length p0.2.length)).setCell ⟨g2, 1, none⟩ (.slice (some ⟨p1.1, 0, none⟩) p1.2.length p1.2.length)).setCell ⟨g2, 2, none⟩ (.slice (some ⟨p2.1, 0, none⟩) p2.2.length p2.2.length)).setCell ⟨g2, 3, none⟩ (.slice (some ⟨p3.1, 0, none⟩) p3.2.length p3.2.length)).setCell ⟨g2, 4, none⟩ (.slice (some ⟨p4.1, 0, none⟩) p4.2.length p4.2.length)).setCell ⟨g2, 5, none⟩ (.slice (some ⟨p5.1, 0, none⟩) p5.2.length p5.2.length)).setCell ⟨g2, 6, none⟩ (.slice (some ⟨p6.1, 0, none⟩) p6.2.length p6.2.length)).setCell ⟨g2, 7, none⟩ (.slice (some ⟨p7.1, 0, none⟩) p7.2.length p7.2.length)) g2 8 (.slice (some ⟨p8.1, 0, none⟩) p8.2.length p8.2.length))) (grown_set (((((((((w13.setCell ⟨g2, 0, none⟩ (.slice (some ⟨p0.1, 0, none⟩) p0.2.length p0.2.length)).setCell ⟨g2, 1, none⟩ (.slice (some ⟨p1.1, 0, none⟩) p1.2.length p1.2.length)).setCell ⟨g2, 2, none⟩ (.slice (some ⟨p2.1, 0, none⟩) p2.2.length p2.2.length)).setCell ⟨g2, 3, none⟩ (.slice (some ⟨p3.1, 0, none⟩) p3.2.length p3.2.length)).setCell ⟨g2, 4, none⟩ (.slice (some ⟨p4.1, 0, none⟩) p4.2.length p4.2.length)).setCell ⟨g2, 5, none⟩ (.slice (some ⟨p5.1, 0, none⟩) p5.2.length p5.2.length)).setCell ⟨g2, 6, none⟩ (.slice (some ⟨p6.1, 0, none⟩) p6.2.length p6.2.length)).setCell ⟨g2, 7, none⟩ (.slice (some ⟨p7.1, 0, none⟩) p7.2.length p7.2.length)).setCell ⟨g2, 8, none⟩ (.slice (some ⟨p8.1, 0, none⟩) p8.2.length p8.2.length)) g2 9 (.slice (some ⟨p9.1, 0, none⟩) p9.2.length p9.2.length)))
    have hbk : ((((((((((w13.setCell ⟨g2, 0, none⟩ (.slice (some ⟨p0.1, 0, none⟩) p0.2.length p0.2.length)).setCell ⟨g2, 1, none⟩ (.slice (some ⟨p1.1, 0, none⟩) p1.2.length p1.2.length)).setCell ⟨g2, 2, none⟩ (.slice (some ⟨p2.1, 0, none⟩) p2.2.length p2.2.length)).setCell ⟨g2, 3, none⟩ (.slice (some ⟨p3.1, 0, none⟩) p3.2.length p3.2.length)).setCell ⟨g2, 4, none⟩ (.slice (some ⟨p4.1, 0, none⟩) p4.2.length p4.2.length)).setCell ⟨g2, 5, none⟩ (.slice (some ⟨p5.1, 0, none⟩) p5.2.length p5.2.length)).setCell ⟨g2, 6, none⟩ (.slice (some ⟨p6.1, 0, none⟩) p6.2.length p6.2.length)).setCell ⟨g2, 7, none⟩ (.slice (some ⟨p7.1, 0, none⟩) p7.2.length p7.2.length)).setCell ⟨g2, 8, none⟩ (.slice (some ⟨p8.1, 0, none⟩) p8.2.length p8.2.length)).setCell ⟨g2, 9, none⟩ (.slice (some ⟨p9.1, 0, none⟩) p9.2.length p9.2.length)).heap[g2]? = some (.cells #[.slice (some ⟨p0.1, 0, none⟩) p0.2.length p0.2.length, .slice (some ⟨p1.1, 0, none⟩) p1.2.length p1.2.length, .slice (some ⟨p2.1, 0, none⟩) p2.2.length p2.2.length, .slice (some ⟨p3.1, 0, none⟩) p3.2.length p3.2.length, .slice (some ⟨p4.1, 0, none⟩) p4.2.length p4.2.length, .slice (some ⟨p5.1, 0, none⟩) p5.2.length p5.2.length, .slice (some ⟨p6.1, 0, none⟩) p6.2.length p6.2.length, .slice (some ⟨p7.1, 0, none⟩) p7.2.length p7.2.length, .slice (some ⟨p8.1, 0, none⟩) p8.2.length p8.2.length, .slice (some ⟨p9.1, 0, none⟩) p9.2.length p9.2.length] 140 (0, 0)) := (blk_put (cs := #[.slice (some ⟨p0.1, 0, none⟩) p0.2.length p0.2.length, .slice (some ⟨p1.1, 0, none⟩) p1.2.length p1.2.length, .slice (some ⟨p2.1, 0, none⟩) p2.2.length p2.2.length, .slice (some ⟨p3.1, 0, none⟩) p3.2.length p3.2.length, .slice (some ⟨p4.1, 0, none⟩) p4.2.length p4.2.length, .slice (some ⟨p5.1, 0, none⟩) p5.2.length p5.2.length, .slice (some ⟨p6.1, 0, none⟩) p6.2.length p6.2.length, .slice (some ⟨p7.1, 0, none⟩) p7.2.length p7.2.length, .slice (some ⟨p8.1, 0, none⟩) p8.2.length p8.2.length, .slice none 0 0]) (cs' := #[.slice (some ⟨p0.1, 0, none⟩) p0.2.length p0.2.length, .slice (some ⟨p1.1, 0, none⟩) p1.2.length p1.2.length, .slice (some ⟨p2.1, 0, none⟩) p2.2.length p2.2.length, .slice (some ⟨p3.1, 0, none⟩) p3.2.length p3.2.length, .slice (some ⟨p4.1, 0, none⟩) p4.2.length p4.2.length, .slice (some ⟨p5.1, 0, none⟩) p5.2.length p5.2.length, .slice (some ⟨p6.1, 0, none⟩) p6.2.length p6.2.length, .slice (some ⟨p7.1, 0, none⟩) p7.2.length p7.2.length, .slice (some ⟨p8.1, 0, none⟩) p8.2.length p8.2.length, .slice (some ⟨p9.1, 0, none⟩) p9.2.length p9.2.length]) (blk_put (cs := #[.slice (some ⟨p0.1, 0, none⟩) p0.2.length p0.2.length, .slice (some ⟨p1.1, 0, none⟩) p1.2.length p1.2.length, .slice (some ⟨p2.1, 0, none⟩) p2.2.length p2.2.length, .slice (some ⟨p3.1, 0, none⟩) p3.2.length p3.2.length, .slice (some ⟨p4.1, 0, none⟩) p4.2.length p4.2.length, .slice (some ⟨p5.1, 0, none⟩) p5.2.length p5.2.length, .slice (some ⟨p6.1, 0, none⟩) p6.2.length p6.2.length, .slice (some ⟨p7.1, 0, none⟩) p7.2.length p7.2.length, .slice none 0 0, .slice none 0 0]) (cs' := #[.slice (some ⟨p0.1, 0, none⟩) p0.2.length p0.2.length, .slice (some ⟨p1.1, 0, none⟩) p1.2.length p1.2.length, .slice (some ⟨p2.1, 0, none⟩) p2.2.length p2.2.length, .slice (some ⟨p3.1, 0, none⟩) p3.2.length p3.2.length, .slice (some ⟨p4.1, 0, none⟩) p4.2.length p4.2.length, .slice (some ⟨p5.1, 0, none⟩) p5.2.length p5.2.length, .slice (some ⟨p6.1, 0, none⟩) p6.2.length p6.2.length, .slice (some ⟨p7.1, 0, none⟩) p7.2.length p7.2.length, .slice (some ⟨p8.1, 0, none⟩) p8.2.length p8.2.length, .slice none 0 0]) (blk_put (cs := #[.slice (some ⟨p0.1, 0, none⟩) p0.2.length p0.2.length, .slice (some ⟨p1.1, 0, none⟩) p1.2.length p1.2.length, .slice (some ⟨p2.1, 0, none⟩) p2.2.length p2.2.length, .slice (some ⟨p3.1, 0, none⟩) p3.2.length p3.2.length, .slice (some ⟨p4.1, 0, none⟩) p4.2.length p4.2.length, .slice (some ⟨p5.1, 0, none⟩) p5.2.length p5.2.length, .slice (some ⟨p6.1, 0, none⟩) p6.2.length p6.2.length, .slice none 0 0, .slice none 0 0, .slice none 0 0]) (cs' := #[.slice (some ⟨p0.1, 0, none⟩) p0.2.length p0.2.length, .slice (some ⟨p1.1, 0, none⟩) p1.2.length p1.2.length, .slice (some ⟨p2.1, 0, none⟩) p2.2.length p2.2.length, .slice (some ⟨p3.1, 0, none⟩) p3.2.length p3.2.length, .slice (some ⟨p4.1, 0, none⟩) p4.2.length p4.2.length, .slice (some ⟨p5.1, 0, none⟩) p5.2.length p5.2.length, .slice (some ⟨p6.1, 0, none⟩) p6.2.length p6.2.length, .slice (some ⟨p7.1, 0, none⟩) p7.2.length p7.2.length, .slice none 0 0, .slice none 0 0]) (blk_put (cs := #[.slice (some ⟨p0.1, 0, none⟩) p0.2.length p0.2.length, .slice (some ⟨p1.1, 0, none⟩) p1.2.length p1.2.length, .slice (some ⟨p2.1, 0, none⟩) p2.2.length p2.2.length, .slice (some ⟨p3.1, 0, none⟩) p3.2.length p3.2.length, .slice (some ⟨p4.1, 0, none⟩) p4.2.length p4.2.length, .slice (some ⟨p5.1, 0, none⟩) p5.2.length p5.2.length, .slice none 0 0, .slice none 0 0, .slice none 0 0, .slice none 0 0]) (cs' := #[.slice (some ⟨p0.1, 0, none⟩) p0.2.length p0.2.length, .slice (some ⟨p1.1, 0, none⟩) p1.2.length p1.2.length, .slice (some ⟨p2.1, 0, none⟩) p2.2.length p2.2.length, .slice (some ⟨p3.1, 0, none⟩) p3.2.length p3.2.length, .slice (some ⟨p4.1, 0, none⟩) p4.2.length p4.2.length, .slice (some ⟨p5.1, 0, none⟩) p5.2.length p5.2.length, .slice (some ⟨p6.1, 0, none⟩) p6.2.length p6.2.length, .slice none 0 0, .slice none 0 0, .slice none 0 0]) (blk_put (cs := #[.slice (some ⟨p0.1, 0, none⟩) p0.2.length p0.2.length, .slice (some ⟨p1.1, 0, none⟩) p1.2.length p1.2.length, .slice (some ⟨p2.1, 0, none⟩) p2.2.length p2.2.length, .slice (some ⟨p3.1, 0, none⟩) p3.2.length p3.2.length, .slice (some ⟨p4.1, 0, none⟩) p4.2.length p4.2.length, .slice none 0 0, .slice none 0 0, .slice none 0 0, .slice none 0 0, .slice none 0 0]) (cs' := #[.slice (some ⟨p0.1, 0, none⟩) p0.2.length p0.2.length, .slice (some ⟨p1.1, 0, none⟩) p1.2.length p1.2.length, .slice (some ⟨p2.1, 0, none⟩) p2.2.length p2.2.length, .slice (some ⟨p3.1, 0, none⟩) p3.2.length p3.2.length, .slice (some ⟨p4.1, 0, none⟩) p4.2.length p4.2.length, .slice (some ⟨p5.1, 0, none⟩) p5.2.length p5.2.length, .slice none 0 0, .slice none 0 0, .slice none 0 0, .slice none 0 0]) (blk_put (cs := #[.slice (some ⟨p0.1, 0, none⟩) p0.2.length p0.2.length, .slice (some ⟨p1.1, 0, none⟩) p1.2.length p1.2.length, .slice (some ⟨p2.1, 0, none⟩) p2.2.length p2.2.length, .slice (some ⟨p3.1, 0, none⟩) p3.2.length p3.2.length, .slice none 0 0, .slice none 0 0, .slice none 0 0, .slice none 0 0, .slice none 0 0, .slice none 0 0]) (cs' := #[.slice (some ⟨p0.1, 0, none⟩) p0.2.length p0.2.length, .slice (some ⟨p1.1, 0, none⟩) p1.2.length p1.2.length, .slice (some ⟨p2.1, 0, none⟩) p2.2.length p2.2.length, .slice (some ⟨p3.1, 0, none⟩) p3.2.length p3.2.length, .slice (some ⟨p4.1, 0, none⟩) p4.2.length p4.2.length, .slice none 0 0, .slice none 0 0, .slice none 0 0, .slice none 0 0, .slice none 0 0]) (blk_put (cs := #[.slice (some ⟨p0.1, 0, none⟩) p0.2.length p0.2.length, .slice (some ⟨p1.1, 0, none⟩) p1.2.length p1.2.length, .slice (some ⟨p2.1, 0, none⟩) p2.2.length p2.2.length, .slice none 0 0, .slice none 0 0, .slice none 0 0, .slice none 0 0, .slice none 0 0, .slice none 0 0, .slice none 0 0]) (cs' := #[.slice (some ⟨p0.1, 0, none⟩) p0.2.length p0.2.length, .slice (some ⟨p1.1, 0, none⟩) p1.2.length p1.2.length, .slice (some ⟨p2.1, 0, none⟩) p2.2.length p2.2.length, .slice (some ⟨p3.1, 0, none⟩) p3.2.length p3.2.length, .slice none 0 0, .slice none 0 0, .slice none 0 0, .slice none 0 0, .slice none 0 0, .slice none 0 0]) (blk_put (cs := #[.slice (some ⟨p0.1, 0, none⟩) p0.2.length p0.2.length, .slice (some ⟨p1.1, 0, none⟩) p1.2.length p1.2.length, .slice none 0 0, .slice none 0 0, .slice none 0 0, .slice none 0 0, .slice none 0 0, .slice none 0 0, .slice none 0 0, .slice none 0 0]) (cs' := #[.slice (some ⟨p0.1, 0, none⟩) p0.2.length p0.2.length, .slice (some ⟨p1.1, 0, none⟩) p1.2.length p1.2.length, .slice (some ⟨p2.1, 0, none⟩) p2.2.length p2.2.length, .slice none 0 0, .slice none 0 0, .slice none 0 0, .slice none 0 0, .slice none 0 0, .slice none 0 0, .slice none 0 0]) (blk_put (cs := #[.slice (some ⟨p0.1, 0, none⟩) p0.2.length p0.2.length, .slice none 0 0, .slice none 0 0, .slice none 0 0, .slice none 0 0, .slice none 0 0, .slice none 0 0, .slice none 0 0, .slice none 0 0, .slice none 0 0]) (cs' := #[.slice (some ⟨p0.1, 0, none⟩) p0.2.length p0.2.length, .slice (some ⟨p1.1, 0, none⟩) p1.2.length p1.2.length, .slice none 0 0, .slice none 0 0, .slice none 0 0, .slice none 0 0, .slice none 0 0, .slice none 0 0, .slice none 0 0, .slice none 0 0]) (blk_put (cs := #[.slice none 0 0, .slice none 0 0, .slice none 0 0, .slice none 0 0, .slice none 0 0, .slice none 0 0, .slice none 0 0, .slice none 0 0, .slice none 0 0, .slice none 0 0]) (cs' := #[.slice (some ⟨p0.1, 0, none⟩) p0.2.length p0.2.length, .slice none 0 0, .slice none 0 0, .slice none 0 0, .slice none 0 0, .slice none 0 0, .slice none 0 0, .slice none 0 0, .slice none 0 0, .slice none 0 0]) H2z.out 0 (.slice (some ⟨p0.1, 0, none⟩) p0.2.length p0.2.length) rfl) 1 (.slice (some ⟨p1.1, 0, none⟩) p1.2.length p1.2.length) rfl) 2 (.slice (some ⟨p2.1, 0, none⟩) p2.2.length p2.2.length) rfl) 3 (.slice (some ⟨p3.1, 0, none⟩) p3.2.length p3.2.length) rfl) 4 (.slice (some ⟨p4.1, 0, none⟩) p4.2.length p4.2.length) rfl) 5 (.slice (some ⟨p5.1, 0, none⟩) p5.2.length p5.2.length) rfl) 6 (.slice (some ⟨p6.1, 0, none⟩) p6.2.length p6.2.length) rfl) 7 (.slice (some ⟨p7.1, 0, none⟩) p7.2.length p7.2.length) rfl) 8 (.slice (some ⟨p8.1, 0, none⟩) p8.2.length p8.2.length) rfl) 9 (.slice (some ⟨p9.1, 0, none⟩) p9.2.length p9.2.length) rfl)
    have h4e := blk_grown H4z.out hgr (fun e => HG24.out (by cases e; rfl))
    have hAe := sqAll_grown HAz.out hgr (sqAll_ne HAz.out H2z.out (by decide))
    have hBe := pw_below_grown HBz.out (some g2) HBz.out.size hgr (fun k e => by cases e; exact HG2.out)
    clear t0 f0 t1 f1 t2 f2 t3 f3 t4 f4 t5 f5 t6 f6 t7 f7 t8 f8 t9 f9
    generalize ((((((((((w13.setCell ⟨g2, 0, none⟩ (.slice (some ⟨p0.1, 0, none⟩) p0.2.length p0.2.length)).setCell ⟨g2, 1, none⟩ (.slice (some ⟨p1.1, 0, none⟩) p1.2.length p1.2.length)).setCell ⟨g2, 2, none⟩ (.slice (some ⟨p2.1, 0, none⟩) p2.2.length p2.2.length)).setCell ⟨g2, 3, none⟩ (.slice (some ⟨p3.1, 0, none⟩) p3.2.length p3.2.length)).setCell ⟨g2, 4, none⟩ (.slice (some ⟨p4.1, 0, none⟩) p4.2.length p4.2.length)).setCell ⟨g2, 5, none⟩ (.slice (some ⟨p5.1, 0, none⟩) p5.2.length p5.2.length)).setCell ⟨g2, 6, none⟩ (.slice (some ⟨p6.1, 0, none⟩) p6.2.length p6.2.length)).setCell ⟨g2, 7, none⟩ (.slice (some ⟨p7.1, 0, none⟩) p7.2.length p7.2.length)).setCell ⟨g2, 8, none⟩ (.slice (some ⟨p8.1, 0, none⟩) p8.2.length p8.2.length)).setCell ⟨g2, 9, none⟩ (.slice (some ⟨p9.1, 0, none⟩) p9.2.length p9.2.length)) = wE at hgr hbk h4e hAe hBe ⊢
    refine hK.out _ _ ⟨(blk_cell h4e 0).trans rfl, (blk_cell h4e 1).trans rfl, (blk_cell h4e 2).trans rfl, (blk_cell h4e 3).trans rfl, (blk_cell h4e 4).trans rfl, (blk_cell h4e 5).trans rfl, (blk_cell h4e 6).trans rfl, (blk_cell h4e 7).trans rfl, (blk_cell h4e 8).trans rfl, (blk_cell h4e 9).trans rfl⟩ (fun hHeld => ?_)
    clear hK K
    refine pure_ (i := 4) (N := some 3) (v := ?_) (a' := ?_) #[true, true, true, true, true] rfl rfl (any_of HT_.out (by kernel_rfl)) (fun _ _ _ h => h) (Or.inl ⟨by rfl, ?_⟩) ?_ ?_
    rotate_left
    ·intro w'
     go_simp
     with_reducible rfl
    rotate_left
    ·simp only [Act.put, List.setIfInBounds_toArray, List.set_cons_zero, List.set_cons_succ, i64_w, i32_w]
     rfl
    refine done_ (done_of HT_.out (by kernel_rfl)) ?_
    have HBK := Aside0.mk hbk
    have HAE := Aside0.mk hAe
    have HBE := Aside0.mk hBe
    clear hgr hbk h4e hAe hBe
    try go_wp2
    refine bodyPost_ret (results_cell_tmp rfl _ _ g2 140 _ (0, 0) _ rfl HBK.out Tryz.underlying140 rfl sq_size) rfl ?_
    exact ⟨[p0, p1, p2, p3, p4, p5, p6, p7, p8, p9], rfl, by have := HD.out.2.2; simpa using this, HAE.out, HBE.out⟩
   ·obtain ⟨hok, m0, ms', hm, hms, hre⟩ := rowsF_step H.out ht
    obtain ⟨fs, nm, l, hfs, rfl, hl1, hl2, hlen, h0, hpu⟩ := sqL_some hm
    have hj : gs.length < 10 := by have := HD.out.1; rw [hre] at this; simp at this; omega
    have hnm : nm = sqNames[gs.length]'hj := by
     have := HD.out.2.1
     rw [hre] at this
     rw [List.drop_eq_getElem_cons hj] at this
     simp at this
     exact this.1
    have HT2 := Aside0.mk ht
    have HOK := Aside0.mk hok
    have HMS := Aside0.mk hms
    have HRE := Aside0.mk hre
    have HFS := Aside0.mk hfs
    have HPU := Aside0.mk hpu
    have HL1 := Aside0.mk hl1
    have HL2 := Aside0.mk hl2
    have HLEN := Aside0.mk hlen
    clear H ht hok hms hre hm hfs hpu hl1 hl2 hlen
    have hcase : gs.length = 0 ∨ gs.length = 1 ∨ gs.length = 2 ∨ gs.length = 3 ∨ gs.length = 4 ∨ gs.length = 5 ∨ gs.length = 6 ∨ gs.length = 7 ∨ gs.length = 8 ∨ gs.length = 9 := by omega
    rcases hcase with hj' | hj' | hj' | hj' | hj' | hj' | hj' | hj' | hj' | hj'
    ·as_aux_lemma =>
     have hnm2 : nm = ⟨#[72, 73, 58]⟩ := by rw [hnm]; simp only [hj']; rfl
     subst hnm2
     have H0 := Aside0.mk h0
     have HJ := Aside0.mk hj'
     have d2 : decide ((fs.length : Int) < 2) = false := decide_eq_false (by have := HLEN.out; have := HL1.out; omega)
     have d2' : decide (fs.length < 2) = false := decide_eq_false (by have := HLEN.out; have := HL1.out; omega)
     have z0 : ((0 : Int) < (fs.length : Int)) = True := eq_true (by have := HLEN.out; omega)
     have z0' : (0 < fs.length) = True := eq_true (by have := HLEN.out; omega)
     clear hnm hj hj' h0
     go_wp2_with (first
      | (go_at_call 155; refine (GL.lines_scan g t line _ HL.out (by have := HT2.out; omega) (by have := HOK.out.1; omega) HOK.out.2.1 HOK.out.2.2).mono ?_; rintro e w3 ⟨rfl, hg3, hgr3⟩; have HL3 := Aside0.mk hg3; have H43 := Aside0.mk (blk_grown H4.out hgr3 (fun e => HGN4.out (by cases e; rfl))); have H23 := Aside0.mk (blk_grown H2.out hgr3 (fun e => HGN2.out (by cases e; rfl))); have HA3 := Aside0.mk (sqAll_grown HA.out hgr3 (sqAll_ne HA.out HL.out (by decide))); have HB3 := Aside0.mk (pw_below_grown HB.out (some g) HB.out.size hgr3 (fun k e => by cases e; exact HGL.out)); clear hg3 hgr3)
      | (go_at_call 157; refine (GL.lines_text g _ _ _ HL3.out).mono ?_; rintro e w3' ⟨rfl, rfl⟩)
      | (go_at_call 190; go_loud (refine (strings_Fields.calls (GL.lineOf t) fs _ (tabW_below HT.out HB3.out) HFS.out).mono ?_; rintro e w5 ⟨v0, rfl, hf, hb5⟩; obtain ⟨gf, cap, rfl, hgf1, hgf2, cells, hcells⟩ := Kd.R_form hf (by have := HLEN.out; omega); have HF := Aside0.mk hf; have HCAP := Aside0.mk (Kd.R_reads' hf).2.1; clear hcells hgf1 hgf2; have HL5 := Aside0.mk (blk_below HL3.out hb5); have H45 := Aside0.mk (blk_below H43.out hb5); have H25 := Aside0.mk (blk_below H23.out hb5); have HA5 := Aside0.mk (sqAll_below HA3.out hb5); have HB5 := Aside0.mk (below_step HB3.out hb5); have hc0 : w5.cell? ⟨gf, 0, none⟩ = some (.string ⟨#[72, 73, 58]⟩) := by { rw [← H0.out]; exact (Kd.R_cell ByteArray.empty HF.out 0 (by omega) (by have := HLEN.out; omega)).1 }; have hcut := cutSq gf fs.length cap l.length HLEN.out.symm HL1.out HCAP.out; have hmk := makeSq l.length HL2.out; have hk4 : ∀ o, (w5.alloc o).cell? ⟨g4, 0, none⟩ = some (.slice none 0 0) := fun o => (blk_cell (blk_alloc H45.out o) 0).trans (sq_at gs 0 HJ.out (by decide)); have hz4 : ∀ o, (w5.alloc o).frozen? ⟨g4, 0, none⟩ = false := fun o => blk_frozen (blk_alloc H45.out o) 0; clear hf hb5)))
     have M0 := Aside0.mk (show ((w5.alloc (.cells (madeCells #[.int .u64 0] l.length) 35)).setCell ⟨g4, 0, none⟩ (.slice (some ⟨w5.heap.size, 0, none⟩) l.length l.length)).heap[w5.heap.size]? = some (sqPart l 0) by rw [← sq_made]; exact blk_far (heap_alloc_new w5 _) (p := ⟨g4, 0, none⟩) (by have := blk_lt H45.out; show w5.heap.size ≠ g4; omega) _)
     have L0 := Aside0.mk (blk_far (blk_alloc HL5.out (.cells (madeCells #[.int .u64 0] l.length) 35)) (p := ⟨g4, 0, none⟩) (Ne.symm HGN4.out) (.slice (some ⟨w5.heap.size, 0, none⟩) l.length l.length))
     have S0 := Aside0.mk (blk_put (cs := sqArr gs) (cs' := sqArr (gs ++ [(w5.heap.size, l)])) (blk_alloc H45.out (.cells (madeCells #[.int .u64 0] l.length) 35)) 0 (.slice (some ⟨w5.heap.size, 0, none⟩) l.length l.length) (sq_set gs (w5.heap.size, l) 0 HJ.out (by decide)))
     have Z0 := Aside0.mk (blk_far (blk_alloc H25.out (.cells (madeCells #[.int .u64 0] l.length) 35)) (p := ⟨g4, 0, none⟩) HG24.out (.slice (some ⟨w5.heap.size, 0, none⟩) l.length l.length))
     have hA6 := sqAll_below HA5.out (below_alloc (Below.refl w5.heap.size w5) (.cells (madeCells #[.int .u64 0] l.length) 35))
     have A0 := Aside0.mk (sqAll_grown hA6 (grown_set _ g4 0 (.slice (some ⟨w5.heap.size, 0, none⟩) l.length l.length)) (sqAll_ne hA6 (blk_alloc H45.out (.cells (madeCells #[.int .u64 0] l.length) 35)) (by decide)))
     clear hA6
     have B0 := Aside0.mk (below_set (below_alloc HB5.out (.cells (madeCells #[.int .u64 0] l.length) 35)) HG4.out (j := 0) (v := .slice (some ⟨w5.heap.size, 0, none⟩) l.length l.length))
     have F0 : Aside0 (∀ i : Nat, i < l.length → ((w5.alloc (.cells (madeCells #[.int .u64 0] l.length) 35)).setCell ⟨g4, 0, none⟩ (.slice (some ⟨w5.heap.size, 0, none⟩) l.length l.length)).cell? ⟨gf, 1 + i, none⟩ = some (.string (rdOf ByteArray.empty fs ((i + 1 : Nat) : Int)))) := ⟨fun i hi => by
      have h1 := (Kd.R_cell ByteArray.empty (Kd.R_set (Kd.R_below HF.out (below_alloc (Below.refl w5.heap.size w5) (.cells (madeCells #[.int .u64 0] l.length) 35))) (blk_alloc H45.out _) (by decide) 0 (.slice (some ⟨w5.heap.size, 0, none⟩) l.length l.length)) ((i + 1 : Nat) : Int) (by omega) (by have := HLEN.out; omega)).1
      rw [show 1 + i = i + 1 from Nat.add_comm 1 i]
      exact h1⟩
     have G0 := Aside0.mk HB5.out.size
     have N0 := Aside0.mk (show g ≠ w5.heap.size ∧ g4 ≠ w5.heap.size ∧ g2 ≠ w5.heap.size ∧ gf ≠ w5.heap.size ∧ ∀ p ∈ gs, p.1 ≠ w5.heap.size from ⟨Nat.ne_of_lt (blk_lt HL5.out), Nat.ne_of_lt (blk_lt H45.out), Nat.ne_of_lt (blk_lt H25.out), Nat.ne_of_lt (Kd.R_lt HF.out gf rfl), fun p hp => Nat.ne_of_lt (blk_lt (HA5.out p hp).2)⟩)
     clear HL3 H43 H23 HA3 HB3 HL5 H45 H25 HA5 HB5 hc0 hcut hmk hk4 hz4 HF HCAP d2 d2' z0 z0'
     generalize hgm : w5.heap.size = gm at G0 N0 M0 L0 S0 Z0 A0 B0 F0 ⊢
     have HGM : Aside0 (w.heap.size ≤ gm) := G0
     clear G0
     generalize hW0 : (w5.alloc (.cells (madeCells #[.int .u64 0] l.length) 35)).setCell ⟨g4, 0, none⟩ (.slice (some ⟨gm, 0, none⟩) l.length l.length) = W0 at M0 L0 S0 Z0 A0 B0 F0 ⊢
     clear hW0 hgm
     go_loopg [68] l.length (fun kq vi w' => ∃ x : Int, vi = .int .i64 x ∧ Aside0 (0 ≤ x ∧ x + kq = l.length) ∧ Aside0 (w'.heap[gm]? = some (sqPart l x.toNat)) ∧ Aside0 (w'.heap[g]? = some (GL.linesCells (GL.restOf t) (GL.lineOf t))) ∧ Aside0 (w'.heap[g4]? = some (.cells (sqArr (gs ++ [(gm, l)])) 140 (0, 0))) ∧ Aside0 (w'.heap[g2]? = some (.cells sqZero 140 (0, 0))) ∧ Aside0 (sqAll w' w.heap.size gs) ∧ Aside0 (Below w.heap.size w w') ∧
      Aside0 (∀ i : Nat, i < l.length → w'.cell? ⟨gf, 1 + i, none⟩ = some (.string (rdOf ByteArray.empty fs ((i + 1 : Nat) : Int)))))
     case atStart => exact ⟨0, rfl, ⟨by omega, by omega⟩, M0, L0, S0, Z0, A0, B0, F0⟩
     case round =>
      clear M0 L0 S0 Z0 A0 B0 F0
      obtain ⟨x, rfl, HX, HM, HL5, H45, H25, HA5, HB5, HF⟩ := hrel
      by_cases hx : x < (l.length : Int)
      ·have d0 : decide (x < (l.length : Int)) = true := decide_eq_true hx
       have hxl : x.toNat < l.length := by have := HX.out; omega
       have hcx := HF.out x.toNat hxl
       have hpx := HPU.out x.toNat hxl
       generalize rdOf ByteArray.empty fs ((x.toNat + 1 : Nat) : Int) = s at hcx hpx
       have HPX := Aside0.mk hpx
       have q0 : (0 ≤ x) = True := eq_true HX.out.1
       have q1 : (x < (l.length : Int)) = True := eq_true hx
       clear hpx hx
       go_wp2
       have HMd := Aside0.mk (blk_drew HM.out)
       have HLd := Aside0.mk (blk_drew HL5.out)
       have H4d := Aside0.mk (blk_drew H45.out)
       have H2d := Aside0.mk (blk_drew H25.out)
       have HAd := Aside0.mk (show sqAll wr.drew w.heap.size gs from fun p hp => ⟨(HA5.out p hp).1, blk_drew (HA5.out p hp).2⟩)
       have HBd := Aside0.mk (below_drew1 HB5.out)
       have HFd : Aside0 (∀ i : Nat, i < l.length → wr.drew.cell? ⟨gf, 1 + i, none⟩ = some (.string (rdOf ByteArray.empty fs ((i + 1 : Nat) : Int)))) := ⟨fun i hi => HF.out i hi⟩
       clear HM HL5 H45 H25 HA5 HB5 HF hcx
       refine start_ (n := 11) (S := fun w' => w'.cell? ⟨g4, 0, none⟩ = some (.slice (some ⟨gm, 0, none⟩) l.length l.length)) (ds := []) (bb [0, 11]) (by kernel_rfl) rfl rfl ((blk_cell H4d.out 0).trans (sq_at2 gs (gm, l) 0 HJ.out)) (fun hHeld => ?_); refine with_tabW sqTab0 sqBits (fun HT_ HW_ => ?_)
       generalize wr.drew = w12 at HMd HLd H4d H2d HAd HBd HFd hHeld ⊢
       refine pure_ (i := 0) (N := some 74) (v := ?_) (a' := ?_) (bb [1, 10]) rfl rfl (any_of HT_.out (by kernel_rfl)) (fun _ _ _ h => h) (Or.inl ⟨by rfl, ?_⟩) ?_ ?_
       rotate_left
       ·intro w'
        go_simp
        with_reducible rfl
       rotate_left
       ·simp only [Act.put, List.setIfInBounds_toArray, List.set_cons_zero, List.set_cons_succ, i64_w, i32_w]
        rfl
       refine pure_ (i := 2) (N := some 76) (v := ?_) (a' := ?_) (bb [1, 1, 1, 8]) rfl rfl (any_of HT_.out (by kernel_rfl)) (fun _ _ _ h => h) (Or.inl ⟨by rfl, ?_⟩) ?_ ?_
       rotate_left
       ·intro w'
        go_simp
        with_reducible rfl
       rotate_left
       ·simp only [Act.put, List.setIfInBounds_toArray, List.set_cons_zero, List.set_cons_succ, i64_w, i32_w]
        rfl
       refine pure_ (i := 3) (N := some 77) (v := ?_) (a' := ?_) (bb [1, 1, 2, 7]) rfl rfl (any_of HT_.out (by kernel_rfl)) (fun _ _ _ h => h) (Or.inl ⟨by rfl, ?_⟩) ?_ ?_
       rotate_left
       ·intro w'
        go_simp
        with_reducible rfl
       rotate_left
       ·simp only [Act.put, List.setIfInBounds_toArray, List.set_cons_zero, List.set_cons_succ, i64_w, i32_w]
        rfl
       refine take_ (i := 1) (N := some 75) (v := ?_) (a' := ?_) (bb [4, 7]) rfl rfl (take_ofW HT_.out HW_.out (by kernel_rfl)) (fun _ _ _ h => h) (Or.inl ⟨by rfl, ?_⟩) hHeld ?_ ?_
       rotate_left
       ·rintro w' s0
        go_simp
        with_reducible rfl
       rotate_left
       ·simp only [Act.put, List.setIfInBounds_toArray, List.set_cons_zero, List.set_cons_succ, i64_w, i32_w]
        rfl
       refine one_ (i := 4) (N := some 78) (bb [5, 6]) rfl rfl (one_of HT_.out (by kernel_rfl)) (by decide) (fun K hK => ?_)
       refine goes_ Tryz.func158 (by kernel_rfl) rfl #[.string s, .int .i64 10, .int .i64 64] (by rfl) rfl rfl (by (try simp only [List.map_toArray, List.map_cons, List.map_nil]); first | done | rfl | (simp only [List.length_drop, List.length_take]; rfl)) ?_
       refine (puSq_call s _ _ HPX.out).mono ?_
       rintro e w13 ⟨rfl, hb⟩
       refine ⟨_, rfl, ?_⟩
       have HFe : Aside0 (∀ i : Nat, i < l.length → w13.cell? ⟨gf, 1 + i, none⟩ = some (.string (rdOf ByteArray.empty fs ((i + 1 : Nat) : Int)))) := ⟨fun i hi => pw_cell_below hb (HFd.out i hi)⟩
       have HMe := Aside0.mk (blk_below HMd.out hb)
       have HLe := Aside0.mk (blk_below HLd.out hb)
       have H4e := Aside0.mk (blk_below H4d.out hb)
       have H2e := Aside0.mk (blk_below H2d.out hb)
       have HAe := Aside0.mk (sqAll_below HAd.out hb)
       have HBe := Aside0.mk (below_step HBd.out hb)
       clear hb HMd HLd H4d H2d HAd HBd HFd
       refine hK.out _ _ ((blk_cell H4e.out 0).trans (sq_at2 gs (gm, l) 0 HJ.out)) (fun hHeld => ?_)
       clear hK K
       refine norm_ (a' := ?_) ?_ ?_
       rotate_left
       ·show Act.put _ (some 78) _ = _
        simp only [Act.put, List.setIfInBounds_toArray, List.set_cons_zero, List.set_cons_succ, i64_w, i32_w]
        rfl
       refine pure_ (i := 5) (N := some 73) (v := ?_) (a' := ?_) (bb [6, 5]) rfl rfl (any_of HT_.out (by kernel_rfl)) (fun _ _ _ h => h) (Or.inl ⟨by rfl, ?_⟩) ?_ ?_
       rotate_left
       ·intro w'
        go_simp
        with_reducible rfl
       rotate_left
       ·simp only [Act.put, List.setIfInBounds_toArray, List.set_cons_zero, List.set_cons_succ, i64_w, i32_w]
        rfl
       refine pure_ (i := 6) (N := some 79) (v := ?_) (a' := ?_) (bb [7, 4]) rfl rfl (any_of HT_.out (by kernel_rfl)) (fun _ _ _ h => h) (Or.inl ⟨by rfl, ?_⟩) ?_ ?_
       rotate_left
       ·intro w'
        go_simp
        with_reducible rfl
       rotate_left
       ·simp only [Act.put, List.setIfInBounds_toArray, List.set_cons_zero, List.set_cons_succ, i64_w, i32_w]
        rfl
       refine pure_ (i := 7) (N := some 80) (v := ?_) (a' := ?_) (bb [8, 3]) rfl rfl (any_of HT_.out (by kernel_rfl)) (fun _ _ _ h => h) (Or.inl ⟨by rfl, ?_⟩) ?_ ?_
       rotate_left
       ·intro w'
        go_simp
        with_reducible rfl
       rotate_left
       ·simp only [Act.put, List.setIfInBounds_toArray, List.set_cons_zero, List.set_cons_succ, i64_w, i32_w]
        rfl
       refine pure_ (i := 8) (N := some 81) (v := ?_) (a' := ?_) (bb [9, 2]) rfl rfl (any_of HT_.out (by kernel_rfl)) (fun _ _ _ h => h) (Or.inl ⟨by rfl, ?_⟩) ?_ ?_
       rotate_left
       ·intro w'
        go_simp
        with_reducible rfl
       rotate_left
       ·simp only [Act.put, List.setIfInBounds_toArray, List.set_cons_zero, List.set_cons_succ, i64_w, i32_w]
        rfl
       refine one_ (i := 9) (N := none) (bb [10, 1]) rfl rfl (one_of HT_.out (by kernel_rfl)) (by decide) (fun K hK => ?_)
       have hsx : w13.cell? ⟨gm, x.toNat, none⟩ = some (.int .u64 0) := (blk_cell HMe.out x.toNat).trans (part_at l x.toNat hxl)
       have hfx := blk_frozen HMe.out x.toNat
       refine skip_ (w1 := ?_) (by rfl) rfl ?_ ?_
       rotate_left
       ·go_simp
        rfl
       refine hK.out _ _ ((blk_cell (blk_far H4e.out (p := ⟨gm, x.toNat, none⟩) N0.out.2.1 (.int .u64 l[x.toNat])) 0).trans (sq_at2 gs (gm, l) 0 HJ.out)) (fun hHeld => ?_)
       clear hK K hsx hfx
       refine pure_ (i := 10) (N := some 7) (v := ?_) (a' := ?_) (bb [11]) rfl rfl (any_of HT_.out (by kernel_rfl)) (fun _ _ _ h => h) (Or.inl ⟨by rfl, ?_⟩) ?_ ?_
       rotate_left
       ·intro w'
        go_simp
        with_reducible rfl
       rotate_left
       ·simp only [Act.put, List.setIfInBounds_toArray, List.set_cons_zero, List.set_cons_succ, i64_w, i32_w]
        rfl
       refine done_ (done_of HT_.out (by kernel_rfl)) ?_
       have hw : IntKind.i64.wrap (x + 1) = x + 1 := by have := HX.out; have := HL2.out; rw [i64_w]; unfold wrap64; omega
       go_wp2
       go_roundg (gk - 1)
       case measure => have := HX.out; omega
       case rel =>
        exact ⟨x + 1, rfl, ⟨by have := HX.out; omega, by have := HX.out; omega⟩, ⟨by rw [show (x + 1).toNat = x.toNat + 1 by have := HX.out; omega]; exact blk_put HMe.out x.toNat _ (part_set l x.toNat hxl)⟩, ⟨blk_far HLe.out (p := ⟨gm, x.toNat, none⟩) N0.out.1 _⟩, ⟨blk_far H4e.out (p := ⟨gm, x.toNat, none⟩) N0.out.2.1 _⟩, ⟨blk_far H2e.out (p := ⟨gm, x.toNat, none⟩) N0.out.2.2.1 _⟩, ⟨sqAll_grown HAe.out (grown_set _ gm _ _) N0.out.2.2.2.2⟩, ⟨below_set HBe.out HGM.out⟩, ⟨fun i hi => (cell_far (a := ⟨gf, 1 + i, none⟩) (p := ⟨gm, x.toNat, none⟩) N0.out.2.2.2.1 _).trans (HFe.out i hi)⟩⟩
      ·have d0 : decide (x < (l.length : Int)) = false := decide_eq_false hx
       go_wp2
       go_roundg k1
       case measure => omega
       case rel =>
        have hxe : x.toNat = l.length := by have := HX.out; omega
        rw [hxe, sq_done] at HM
        exact ⟨GL.restOf t, GL.lineOf t, ms', gs ++ [(gm, l)], _, rfl, HMS, ⟨by have := HD.out.1; rw [HRE.out] at this; simp at this ⊢; omega, by have := HD.out.2.1; rw [HRE.out] at this; have h2 := congrArg List.tail this; simp only [Option.toList_some, List.singleton_append, List.map_cons, List.tail_cons] at h2; rw [h2, List.length_append, List.length_singleton, List.tail_drop], by have := HD.out.2.2; rw [HRE.out] at this; rw [← this]; simp⟩, HL5, H45, H25, ⟨fun p hp => by
         rcases List.mem_append.1 hp with hp | hp
         ·exact HA5.out p hp
         ·rw [List.mem_singleton.1 hp]; exact ⟨HGM.out, HM.out⟩⟩, HB5⟩
    ·as_aux_lemma =>
     have hnm2 : nm = ⟨#[84, 73, 77, 69, 82, 58]⟩ := by rw [hnm]; simp only [hj']; rfl
     subst hnm2
     have H0 := Aside0.mk h0
     have HJ := Aside0.mk hj'
     have d2 : decide ((fs.length : Int) < 2) = false := decide_eq_false (by have := HLEN.out; have := HL1.out; omega)
     have d2' : decide (fs.length < 2) = false := decide_eq_false (by have := HLEN.out; have := HL1.out; omega)
     have z0 : ((0 : Int) < (fs.length : Int)) = True := eq_true (by have := HLEN.out; omega)
     have z0' : (0 < fs.length) = True := eq_true (by have := HLEN.out; omega)
     clear hnm hj hj' h0
     go_wp2_with (first
      | (go_at_call 155; refine (GL.lines_scan g t line _ HL.out (by have := HT2.out; omega) (by have := HOK.out.1; omega) HOK.out.2.1 HOK.out.2.2).mono ?_; rintro e w3 ⟨rfl, hg3, hgr3⟩; have HL3 := Aside0.mk hg3; have H43 := Aside0.mk (blk_grown H4.out hgr3 (fun e => HGN4.out (by cases e; rfl))); have H23 := Aside0.mk (blk_grown H2.out hgr3 (fun e => HGN2.out (by cases e; rfl))); have HA3 := Aside0.mk (sqAll_grown HA.out hgr3 (sqAll_ne HA.out HL.out (by decide))); have HB3 := Aside0.mk (pw_below_grown HB.out (some g) HB.out.size hgr3 (fun k e => by cases e; exact HGL.out)); clear hg3 hgr3)
      | (go_at_call 157; refine (GL.lines_text g _ _ _ HL3.out).mono ?_; rintro e w3' ⟨rfl, rfl⟩)
      | (go_at_call 190; go_loud (refine (strings_Fields.calls (GL.lineOf t) fs _ (tabW_below HT.out HB3.out) HFS.out).mono ?_; rintro e w5 ⟨v0, rfl, hf, hb5⟩; obtain ⟨gf, cap, rfl, hgf1, hgf2, cells, hcells⟩ := Kd.R_form hf (by have := HLEN.out; omega); have HF := Aside0.mk hf; have HCAP := Aside0.mk (Kd.R_reads' hf).2.1; clear hcells hgf1 hgf2; have HL5 := Aside0.mk (blk_below HL3.out hb5); have H45 := Aside0.mk (blk_below H43.out hb5); have H25 := Aside0.mk (blk_below H23.out hb5); have HA5 := Aside0.mk (sqAll_below HA3.out hb5); have HB5 := Aside0.mk (below_step HB3.out hb5); have hc0 : w5.cell? ⟨gf, 0, none⟩ = some (.string ⟨#[84, 73, 77, 69, 82, 58]⟩) := by { rw [← H0.out]; exact (Kd.R_cell ByteArray.empty HF.out 0 (by omega) (by have := HLEN.out; omega)).1 }; have hcut := cutSq gf fs.length cap l.length HLEN.out.symm HL1.out HCAP.out; have hmk := makeSq l.length HL2.out; have hk4 : ∀ o, (w5.alloc o).cell? ⟨g4, 1, none⟩ = some (.slice none 0 0) := fun o => (blk_cell (blk_alloc H45.out o) 1).trans (sq_at gs 1 HJ.out (by decide)); have hz4 : ∀ o, (w5.alloc o).frozen? ⟨g4, 1, none⟩ = false := fun o => blk_frozen (blk_alloc H45.out o) 1; clear hf hb5)))
     have M0 := Aside0.mk (show ((w5.alloc (.cells (madeCells #[.int .u64 0] l.length) 35)).setCell ⟨g4, 1, none⟩ (.slice (some ⟨w5.heap.size, 0, none⟩) l.length l.length)).heap[w5.heap.size]? = some (sqPart l 0) by rw [← sq_made]; exact blk_far (heap_alloc_new w5 _) (p := ⟨g4, 1, none⟩) (by have := blk_lt H45.out; show w5.heap.size ≠ g4; omega) _)
     have L0 := Aside0.mk (blk_far (blk_alloc HL5.out (.cells (madeCells #[.int .u64 0] l.length) 35)) (p := ⟨g4, 1, none⟩) (Ne.symm HGN4.out) (.slice (some ⟨w5.heap.size, 0, none⟩) l.length l.length))
     have S0 := Aside0.mk (blk_put (cs := sqArr gs) (cs' := sqArr (gs ++ [(w5.heap.size, l)])) (blk_alloc H45.out (.cells (madeCells #[.int .u64 0] l.length) 35)) 1 (.slice (some ⟨w5.heap.size, 0, none⟩) l.length l.length) (sq_set gs (w5.heap.size, l) 1 HJ.out (by decide)))
     have Z0 := Aside0.mk (blk_far (blk_alloc H25.out (.cells (madeCells #[.int .u64 0] l.length) 35)) (p := ⟨g4, 1, none⟩) HG24.out (.slice (some ⟨w5.heap.size, 0, none⟩) l.length l.length))
     have hA6 := sqAll_below HA5.out (below_alloc (Below.refl w5.heap.size w5) (.cells (madeCells #[.int .u64 0] l.length) 35))
     have A0 := Aside0.mk (sqAll_grown hA6 (grown_set _ g4 1 (.slice (some ⟨w5.heap.size, 0, none⟩) l.length l.length)) (sqAll_ne hA6 (blk_alloc H45.out (.cells (madeCells #[.int .u64 0] l.length) 35)) (by decide)))
     clear hA6
     have B0 := Aside0.mk (below_set (below_alloc HB5.out (.cells (madeCells #[.int .u64 0] l.length) 35)) HG4.out (j := 1) (v := .slice (some ⟨w5.heap.size, 0, none⟩) l.length l.length))
     have F0 : Aside0 (∀ i : Nat, i < l.length → ((w5.alloc (.cells (madeCells #[.int .u64 0] l.length) 35)).setCell ⟨g4, 1, none⟩ (.slice (some ⟨w5.heap.size, 0, none⟩) l.length l.length)).cell? ⟨gf, 1 + i, none⟩ = some (.string (rdOf ByteArray.empty fs ((i + 1 : Nat) : Int)))) := ⟨fun i hi => by
      have h1 := (Kd.R_cell ByteArray.empty (Kd.R_set (Kd.R_below HF.out (below_alloc (Below.refl w5.heap.size w5) (.cells (madeCells #[.int .u64 0] l.length) 35))) (blk_alloc H45.out _) (by decide) 1 (.slice (some ⟨w5.heap.size, 0, none⟩) l.length l.length)) ((i + 1 : Nat) : Int) (by omega) (by have := HLEN.out; omega)).1
      rw [show 1 + i = i + 1 from Nat.add_comm 1 i]
      exact h1⟩
     have G0 := Aside0.mk HB5.out.size
     have N0 := Aside0.mk (show g ≠ w5.heap.size ∧ g4 ≠ w5.heap.size ∧ g2 ≠ w5.heap.size ∧ gf ≠ w5.heap.size ∧ ∀ p ∈ gs, p.1 ≠ w5.heap.size from ⟨Nat.ne_of_lt (blk_lt HL5.out), Nat.ne_of_lt (blk_lt H45.out), Nat.ne_of_lt (blk_lt H25.out), Nat.ne_of_lt (Kd.R_lt HF.out gf rfl), fun p hp => Nat.ne_of_lt (blk_lt (HA5.out p hp).2)⟩)
     clear HL3 H43 H23 HA3 HB3 HL5 H45 H25 HA5 HB5 hc0 hcut hmk hk4 hz4 HF HCAP d2 d2' z0 z0'
     generalize hgm : w5.heap.size = gm at G0 N0 M0 L0 S0 Z0 A0 B0 F0 ⊢
     have HGM : Aside0 (w.heap.size ≤ gm) := G0
     clear G0
     generalize hW0 : (w5.alloc (.cells (madeCells #[.int .u64 0] l.length) 35)).setCell ⟨g4, 1, none⟩ (.slice (some ⟨gm, 0, none⟩) l.length l.length) = W0 at M0 L0 S0 Z0 A0 B0 F0 ⊢
     clear hW0 hgm
     go_loopg [97] l.length (fun kq vi w' => ∃ x : Int, vi = .int .i64 x ∧ Aside0 (0 ≤ x ∧ x + kq = l.length) ∧ Aside0 (w'.heap[gm]? = some (sqPart l x.toNat)) ∧ Aside0 (w'.heap[g]? = some (GL.linesCells (GL.restOf t) (GL.lineOf t))) ∧ Aside0 (w'.heap[g4]? = some (.cells (sqArr (gs ++ [(gm, l)])) 140 (0, 0))) ∧ Aside0 (w'.heap[g2]? = some (.cells sqZero 140 (0, 0))) ∧ Aside0 (sqAll w' w.heap.size gs) ∧ Aside0 (Below w.heap.size w w') ∧
      Aside0 (∀ i : Nat, i < l.length → w'.cell? ⟨gf, 1 + i, none⟩ = some (.string (rdOf ByteArray.empty fs ((i + 1 : Nat) : Int)))))
     case atStart => exact ⟨0, rfl, ⟨by omega, by omega⟩, M0, L0, S0, Z0, A0, B0, F0⟩
     case round =>
      clear M0 L0 S0 Z0 A0 B0 F0
      obtain ⟨x, rfl, HX, HM, HL5, H45, H25, HA5, HB5, HF⟩ := hrel
      by_cases hx : x < (l.length : Int)
      ·have d0 : decide (x < (l.length : Int)) = true := decide_eq_true hx
       have hxl : x.toNat < l.length := by have := HX.out; omega
       have hcx := HF.out x.toNat hxl
       have hpx := HPU.out x.toNat hxl
       generalize rdOf ByteArray.empty fs ((x.toNat + 1 : Nat) : Int) = s at hcx hpx
       have HPX := Aside0.mk hpx
       have q0 : (0 ≤ x) = True := eq_true HX.out.1
       have q1 : (x < (l.length : Int)) = True := eq_true hx
       clear hpx hx
       go_wp2
       have HMd := Aside0.mk (blk_drew HM.out)
       have HLd := Aside0.mk (blk_drew HL5.out)
       have H4d := Aside0.mk (blk_drew H45.out)
       have H2d := Aside0.mk (blk_drew H25.out)
       have HAd := Aside0.mk (show sqAll wr.drew w.heap.size gs from fun p hp => ⟨(HA5.out p hp).1, blk_drew (HA5.out p hp).2⟩)
       have HBd := Aside0.mk (below_drew1 HB5.out)
       have HFd : Aside0 (∀ i : Nat, i < l.length → wr.drew.cell? ⟨gf, 1 + i, none⟩ = some (.string (rdOf ByteArray.empty fs ((i + 1 : Nat) : Int)))) := ⟨fun i hi => HF.out i hi⟩
       clear HM HL5 H45 H25 HA5 HB5 HF hcx
       refine start_ (n := 11) (S := fun w' => w'.cell? ⟨g4, 1, none⟩ = some (.slice (some ⟨gm, 0, none⟩) l.length l.length)) (ds := []) (bb [0, 11]) (by kernel_rfl) rfl rfl ((blk_cell H4d.out 1).trans (sq_at2 gs (gm, l) 1 HJ.out)) (fun hHeld => ?_); refine with_tabW sqTab1 sqBits (fun HT_ HW_ => ?_)
       generalize wr.drew = w12 at HMd HLd H4d H2d HAd HBd HFd hHeld ⊢
       refine pure_ (i := 0) (N := some 103) (v := ?_) (a' := ?_) (bb [1, 10]) rfl rfl (any_of HT_.out (by kernel_rfl)) (fun _ _ _ h => h) (Or.inl ⟨by rfl, ?_⟩) ?_ ?_
       rotate_left
       ·intro w'
        go_simp
        with_reducible rfl
       rotate_left
       ·simp only [Act.put, List.setIfInBounds_toArray, List.set_cons_zero, List.set_cons_succ, i64_w, i32_w]
        rfl
       refine pure_ (i := 2) (N := some 105) (v := ?_) (a' := ?_) (bb [1, 1, 1, 8]) rfl rfl (any_of HT_.out (by kernel_rfl)) (fun _ _ _ h => h) (Or.inl ⟨by rfl, ?_⟩) ?_ ?_
       rotate_left
       ·intro w'
        go_simp
        with_reducible rfl
       rotate_left
       ·simp only [Act.put, List.setIfInBounds_toArray, List.set_cons_zero, List.set_cons_succ, i64_w, i32_w]
        rfl
       refine pure_ (i := 3) (N := some 106) (v := ?_) (a' := ?_) (bb [1, 1, 2, 7]) rfl rfl (any_of HT_.out (by kernel_rfl)) (fun _ _ _ h => h) (Or.inl ⟨by rfl, ?_⟩) ?_ ?_
       rotate_left
       ·intro w'
        go_simp
        with_reducible rfl
       rotate_left
       ·simp only [Act.put, List.setIfInBounds_toArray, List.set_cons_zero, List.set_cons_succ, i64_w, i32_w]
        rfl
       refine take_ (i := 1) (N := some 104) (v := ?_) (a' := ?_) (bb [4, 7]) rfl rfl (take_ofW HT_.out HW_.out (by kernel_rfl)) (fun _ _ _ h => h) (Or.inl ⟨by rfl, ?_⟩) hHeld ?_ ?_
       rotate_left
       ·rintro w' s0
        go_simp
        with_reducible rfl
       rotate_left
       ·simp only [Act.put, List.setIfInBounds_toArray, List.set_cons_zero, List.set_cons_succ, i64_w, i32_w]
        rfl
       refine one_ (i := 4) (N := some 107) (bb [5, 6]) rfl rfl (one_of HT_.out (by kernel_rfl)) (by decide) (fun K hK => ?_)
       refine goes_ Tryz.func158 (by kernel_rfl) rfl #[.string s, .int .i64 10, .int .i64 64] (by rfl) rfl rfl (by (try simp only [List.map_toArray, List.map_cons, List.map_nil]); first | done | rfl | (simp only [List.length_drop, List.length_take]; rfl)) ?_
       refine (puSq_call s _ _ HPX.out).mono ?_
       rintro e w13 ⟨rfl, hb⟩
       refine ⟨_, rfl, ?_⟩
       have HFe : Aside0 (∀ i : Nat, i < l.length → w13.cell? ⟨gf, 1 + i, none⟩ = some (.string (rdOf ByteArray.empty fs ((i + 1 : Nat) : Int)))) := ⟨fun i hi => pw_cell_below hb (HFd.out i hi)⟩
       have HMe := Aside0.mk (blk_below HMd.out hb)
       have HLe := Aside0.mk (blk_below HLd.out hb)
       have H4e := Aside0.mk (blk_below H4d.out hb)
       have H2e := Aside0.mk (blk_below H2d.out hb)
       have HAe := Aside0.mk (sqAll_below HAd.out hb)
       have HBe := Aside0.mk (below_step HBd.out hb)
       clear hb HMd HLd H4d H2d HAd HBd HFd
       refine hK.out _ _ ((blk_cell H4e.out 1).trans (sq_at2 gs (gm, l) 1 HJ.out)) (fun hHeld => ?_)
       clear hK K
       refine norm_ (a' := ?_) ?_ ?_
       rotate_left
       ·show Act.put _ (some 107) _ = _
        simp only [Act.put, List.setIfInBounds_toArray, List.set_cons_zero, List.set_cons_succ, i64_w, i32_w]
        rfl
       refine pure_ (i := 5) (N := some 102) (v := ?_) (a' := ?_) (bb [6, 5]) rfl rfl (any_of HT_.out (by kernel_rfl)) (fun _ _ _ h => h) (Or.inl ⟨by rfl, ?_⟩) ?_ ?_
       rotate_left
       ·intro w'
        go_simp
        with_reducible rfl
       rotate_left
       ·simp only [Act.put, List.setIfInBounds_toArray, List.set_cons_zero, List.set_cons_succ, i64_w, i32_w]
        rfl
       refine pure_ (i := 6) (N := some 108) (v := ?_) (a' := ?_) (bb [7, 4]) rfl rfl (any_of HT_.out (by kernel_rfl)) (fun _ _ _ h => h) (Or.inl ⟨by rfl, ?_⟩) ?_ ?_
       rotate_left
       ·intro w'
        go_simp
        with_reducible rfl
       rotate_left
       ·simp only [Act.put, List.setIfInBounds_toArray, List.set_cons_zero, List.set_cons_succ, i64_w, i32_w]
        rfl
       refine pure_ (i := 7) (N := some 109) (v := ?_) (a' := ?_) (bb [8, 3]) rfl rfl (any_of HT_.out (by kernel_rfl)) (fun _ _ _ h => h) (Or.inl ⟨by rfl, ?_⟩) ?_ ?_
       rotate_left
       ·intro w'
        go_simp
        with_reducible rfl
       rotate_left
       ·simp only [Act.put, List.setIfInBounds_toArray, List.set_cons_zero, List.set_cons_succ, i64_w, i32_w]
        rfl
       refine pure_ (i := 8) (N := some 110) (v := ?_) (a' := ?_) (bb [9, 2]) rfl rfl (any_of HT_.out (by kernel_rfl)) (fun _ _ _ h => h) (Or.inl ⟨by rfl, ?_⟩) ?_ ?_
       rotate_left
       ·intro w'
        go_simp
        with_reducible rfl
       rotate_left
       ·simp only [Act.put, List.setIfInBounds_toArray, List.set_cons_zero, List.set_cons_succ, i64_w, i32_w]
        rfl
       refine one_ (i := 9) (N := none) (bb [10, 1]) rfl rfl (one_of HT_.out (by kernel_rfl)) (by decide) (fun K hK => ?_)
       have hsx : w13.cell? ⟨gm, x.toNat, none⟩ = some (.int .u64 0) := (blk_cell HMe.out x.toNat).trans (part_at l x.toNat hxl)
       have hfx := blk_frozen HMe.out x.toNat
       refine skip_ (w1 := ?_) (by rfl) rfl ?_ ?_
       rotate_left
       ·go_simp
        rfl
       refine hK.out _ _ ((blk_cell (blk_far H4e.out (p := ⟨gm, x.toNat, none⟩) N0.out.2.1 (.int .u64 l[x.toNat])) 1).trans (sq_at2 gs (gm, l) 1 HJ.out)) (fun hHeld => ?_)
       clear hK K hsx hfx
       refine pure_ (i := 10) (N := some 7) (v := ?_) (a' := ?_) (bb [11]) rfl rfl (any_of HT_.out (by kernel_rfl)) (fun _ _ _ h => h) (Or.inl ⟨by rfl, ?_⟩) ?_ ?_
       rotate_left
       ·intro w'
        go_simp
        with_reducible rfl
       rotate_left
       ·simp only [Act.put, List.setIfInBounds_toArray, List.set_cons_zero, List.set_cons_succ, i64_w, i32_w]
        rfl
       refine done_ (done_of HT_.out (by kernel_rfl)) ?_
       have hw : IntKind.i64.wrap (x + 1) = x + 1 := by have := HX.out; have := HL2.out; rw [i64_w]; unfold wrap64; omega
       go_wp2
       go_roundg (gk - 1)
       case measure => have := HX.out; omega
       case rel =>
        exact ⟨x + 1, rfl, ⟨by have := HX.out; omega, by have := HX.out; omega⟩, ⟨by rw [show (x + 1).toNat = x.toNat + 1 by have := HX.out; omega]; exact blk_put HMe.out x.toNat _ (part_set l x.toNat hxl)⟩, ⟨blk_far HLe.out (p := ⟨gm, x.toNat, none⟩) N0.out.1 _⟩, ⟨blk_far H4e.out (p := ⟨gm, x.toNat, none⟩) N0.out.2.1 _⟩, ⟨blk_far H2e.out (p := ⟨gm, x.toNat, none⟩) N0.out.2.2.1 _⟩, ⟨sqAll_grown HAe.out (grown_set _ gm _ _) N0.out.2.2.2.2⟩, ⟨below_set HBe.out HGM.out⟩, ⟨fun i hi => (cell_far (a := ⟨gf, 1 + i, none⟩) (p := ⟨gm, x.toNat, none⟩) N0.out.2.2.2.1 _).trans (HFe.out i hi)⟩⟩
      ·have d0 : decide (x < (l.length : Int)) = false := decide_eq_false hx
       go_wp2
       go_roundg k1
       case measure => omega
       case rel =>
        have hxe : x.toNat = l.length := by have := HX.out; omega
        rw [hxe, sq_done] at HM
        exact ⟨GL.restOf t, GL.lineOf t, ms', gs ++ [(gm, l)], _, rfl, HMS, ⟨by have := HD.out.1; rw [HRE.out] at this; simp at this ⊢; omega, by have := HD.out.2.1; rw [HRE.out] at this; have h2 := congrArg List.tail this; simp only [Option.toList_some, List.singleton_append, List.map_cons, List.tail_cons] at h2; rw [h2, List.length_append, List.length_singleton, List.tail_drop], by have := HD.out.2.2; rw [HRE.out] at this; rw [← this]; simp⟩, HL5, H45, H25, ⟨fun p hp => by
         rcases List.mem_append.1 hp with hp | hp
         ·exact HA5.out p hp
         ·rw [List.mem_singleton.1 hp]; exact ⟨HGM.out, HM.out⟩⟩, HB5⟩
    ·as_aux_lemma =>
     have hnm2 : nm = ⟨#[78, 69, 84, 95, 84, 88, 58]⟩ := by rw [hnm]; simp only [hj']; rfl
     subst hnm2
     have H0 := Aside0.mk h0
     have HJ := Aside0.mk hj'
     have d2 : decide ((fs.length : Int) < 2) = false := decide_eq_false (by have := HLEN.out; have := HL1.out; omega)
     have d2' : decide (fs.length < 2) = false := decide_eq_false (by have := HLEN.out; have := HL1.out; omega)
     have z0 : ((0 : Int) < (fs.length : Int)) = True := eq_true (by have := HLEN.out; omega)
     have z0' : (0 < fs.length) = True := eq_true (by have := HLEN.out; omega)
     clear hnm hj hj' h0
     go_wp2_with (first
      | (go_at_call 155; refine (GL.lines_scan g t line _ HL.out (by have := HT2.out; omega) (by have := HOK.out.1; omega) HOK.out.2.1 HOK.out.2.2).mono ?_; rintro e w3 ⟨rfl, hg3, hgr3⟩; have HL3 := Aside0.mk hg3; have H43 := Aside0.mk (blk_grown H4.out hgr3 (fun e => HGN4.out (by cases e; rfl))); have H23 := Aside0.mk (blk_grown H2.out hgr3 (fun e => HGN2.out (by cases e; rfl))); have HA3 := Aside0.mk (sqAll_grown HA.out hgr3 (sqAll_ne HA.out HL.out (by decide))); have HB3 := Aside0.mk (pw_below_grown HB.out (some g) HB.out.size hgr3 (fun k e => by cases e; exact HGL.out)); clear hg3 hgr3)
      | (go_at_call 157; refine (GL.lines_text g _ _ _ HL3.out).mono ?_; rintro e w3' ⟨rfl, rfl⟩)
      | (go_at_call 190; go_loud (refine (strings_Fields.calls (GL.lineOf t) fs _ (tabW_below HT.out HB3.out) HFS.out).mono ?_; rintro e w5 ⟨v0, rfl, hf, hb5⟩; obtain ⟨gf, cap, rfl, hgf1, hgf2, cells, hcells⟩ := Kd.R_form hf (by have := HLEN.out; omega); have HF := Aside0.mk hf; have HCAP := Aside0.mk (Kd.R_reads' hf).2.1; clear hcells hgf1 hgf2; have HL5 := Aside0.mk (blk_below HL3.out hb5); have H45 := Aside0.mk (blk_below H43.out hb5); have H25 := Aside0.mk (blk_below H23.out hb5); have HA5 := Aside0.mk (sqAll_below HA3.out hb5); have HB5 := Aside0.mk (below_step HB3.out hb5); have hc0 : w5.cell? ⟨gf, 0, none⟩ = some (.string ⟨#[78, 69, 84, 95, 84, 88, 58]⟩) := by { rw [← H0.out]; exact (Kd.R_cell ByteArray.empty HF.out 0 (by omega) (by have := HLEN.out; omega)).1 }; have hcut := cutSq gf fs.length cap l.length HLEN.out.symm HL1.out HCAP.out; have hmk := makeSq l.length HL2.out; have hk4 : ∀ o, (w5.alloc o).cell? ⟨g4, 2, none⟩ = some (.slice none 0 0) := fun o => (blk_cell (blk_alloc H45.out o) 2).trans (sq_at gs 2 HJ.out (by decide)); have hz4 : ∀ o, (w5.alloc o).frozen? ⟨g4, 2, none⟩ = false := fun o => blk_frozen (blk_alloc H45.out o) 2; clear hf hb5)))
     have M0 := Aside0.mk (show ((w5.alloc (.cells (madeCells #[.int .u64 0] l.length) 35)).setCell ⟨g4, 2, none⟩ (.slice (some ⟨w5.heap.size, 0, none⟩) l.length l.length)).heap[w5.heap.size]? = some (sqPart l 0) by rw [← sq_made]; exact blk_far (heap_alloc_new w5 _) (p := ⟨g4, 2, none⟩) (by have := blk_lt H45.out; show w5.heap.size ≠ g4; omega) _)
     have L0 := Aside0.mk (blk_far (blk_alloc HL5.out (.cells (madeCells #[.int .u64 0] l.length) 35)) (p := ⟨g4, 2, none⟩) (Ne.symm HGN4.out) (.slice (some ⟨w5.heap.size, 0, none⟩) l.length l.length))
     have S0 := Aside0.mk (blk_put (cs := sqArr gs) (cs' := sqArr (gs ++ [(w5.heap.size, l)])) (blk_alloc H45.out (.cells (madeCells #[.int .u64 0] l.length) 35)) 2 (.slice (some ⟨w5.heap.size, 0, none⟩) l.length l.length) (sq_set gs (w5.heap.size, l) 2 HJ.out (by decide)))
     have Z0 := Aside0.mk (blk_far (blk_alloc H25.out (.cells (madeCells #[.int .u64 0] l.length) 35)) (p := ⟨g4, 2, none⟩) HG24.out (.slice (some ⟨w5.heap.size, 0, none⟩) l.length l.length))
     have hA6 := sqAll_below HA5.out (below_alloc (Below.refl w5.heap.size w5) (.cells (madeCells #[.int .u64 0] l.length) 35))
     have A0 := Aside0.mk (sqAll_grown hA6 (grown_set _ g4 2 (.slice (some ⟨w5.heap.size, 0, none⟩) l.length l.length)) (sqAll_ne hA6 (blk_alloc H45.out (.cells (madeCells #[.int .u64 0] l.length) 35)) (by decide)))
     clear hA6
     have B0 := Aside0.mk (below_set (below_alloc HB5.out (.cells (madeCells #[.int .u64 0] l.length) 35)) HG4.out (j := 2) (v := .slice (some ⟨w5.heap.size, 0, none⟩) l.length l.length))
     have F0 : Aside0 (∀ i : Nat, i < l.length → ((w5.alloc (.cells (madeCells #[.int .u64 0] l.length) 35)).setCell ⟨g4, 2, none⟩ (.slice (some ⟨w5.heap.size, 0, none⟩) l.length l.length)).cell? ⟨gf, 1 + i, none⟩ = some (.string (rdOf ByteArray.empty fs ((i + 1 : Nat) : Int)))) := ⟨fun i hi => by
      have h1 := (Kd.R_cell ByteArray.empty (Kd.R_set (Kd.R_below HF.out (below_alloc (Below.refl w5.heap.size w5) (.cells (madeCells #[.int .u64 0] l.length) 35))) (blk_alloc H45.out _) (by decide) 2 (.slice (some ⟨w5.heap.size, 0, none⟩) l.length l.length)) ((i + 1 : Nat) : Int) (by omega) (by have := HLEN.out; omega)).1
      rw [show 1 + i = i + 1 from Nat.add_comm 1 i]
      exact h1⟩
     have G0 := Aside0.mk HB5.out.size
     have N0 := Aside0.mk (show g ≠ w5.heap.size ∧ g4 ≠ w5.heap.size ∧ g2 ≠ w5.heap.size ∧ gf ≠ w5.heap.size ∧ ∀ p ∈ gs, p.1 ≠ w5.heap.size from ⟨Nat.ne_of_lt (blk_lt HL5.out), Nat.ne_of_lt (blk_lt H45.out), Nat.ne_of_lt (blk_lt H25.out), Nat.ne_of_lt (Kd.R_lt HF.out gf rfl), fun p hp => Nat.ne_of_lt (blk_lt (HA5.out p hp).2)⟩)
     clear HL3 H43 H23 HA3 HB3 HL5 H45 H25 HA5 HB5 hc0 hcut hmk hk4 hz4 HF HCAP d2 d2' z0 z0'
     generalize hgm : w5.heap.size = gm at G0 N0 M0 L0 S0 Z0 A0 B0 F0 ⊢
     have HGM : Aside0 (w.heap.size ≤ gm) := G0
     clear G0
     generalize hW0 : (w5.alloc (.cells (madeCells #[.int .u64 0] l.length) 35)).setCell ⟨g4, 2, none⟩ (.slice (some ⟨gm, 0, none⟩) l.length l.length) = W0 at M0 L0 S0 Z0 A0 B0 F0 ⊢
     clear hW0 hgm
     go_loopg [126] l.length (fun kq vi w' => ∃ x : Int, vi = .int .i64 x ∧ Aside0 (0 ≤ x ∧ x + kq = l.length) ∧ Aside0 (w'.heap[gm]? = some (sqPart l x.toNat)) ∧ Aside0 (w'.heap[g]? = some (GL.linesCells (GL.restOf t) (GL.lineOf t))) ∧ Aside0 (w'.heap[g4]? = some (.cells (sqArr (gs ++ [(gm, l)])) 140 (0, 0))) ∧ Aside0 (w'.heap[g2]? = some (.cells sqZero 140 (0, 0))) ∧ Aside0 (sqAll w' w.heap.size gs) ∧ Aside0 (Below w.heap.size w w') ∧
      Aside0 (∀ i : Nat, i < l.length → w'.cell? ⟨gf, 1 + i, none⟩ = some (.string (rdOf ByteArray.empty fs ((i + 1 : Nat) : Int)))))
     case atStart => exact ⟨0, rfl, ⟨by omega, by omega⟩, M0, L0, S0, Z0, A0, B0, F0⟩
     case round =>
      clear M0 L0 S0 Z0 A0 B0 F0
      obtain ⟨x, rfl, HX, HM, HL5, H45, H25, HA5, HB5, HF⟩ := hrel
      by_cases hx : x < (l.length : Int)
      ·have d0 : decide (x < (l.length : Int)) = true := decide_eq_true hx
       have hxl : x.toNat < l.length := by have := HX.out; omega
       have hcx := HF.out x.toNat hxl
       have hpx := HPU.out x.toNat hxl
       generalize rdOf ByteArray.empty fs ((x.toNat + 1 : Nat) : Int) = s at hcx hpx
       have HPX := Aside0.mk hpx
       have q0 : (0 ≤ x) = True := eq_true HX.out.1
       have q1 : (x < (l.length : Int)) = True := eq_true hx
       clear hpx hx
       go_wp2
       have HMd := Aside0.mk (blk_drew HM.out)
       have HLd := Aside0.mk (blk_drew HL5.out)
       have H4d := Aside0.mk (blk_drew H45.out)
       have H2d := Aside0.mk (blk_drew H25.out)
       have HAd := Aside0.mk (show sqAll wr.drew w.heap.size gs from fun p hp => ⟨(HA5.out p hp).1, blk_drew (HA5.out p hp).2⟩)
       have HBd := Aside0.mk (below_drew1 HB5.out)
       have HFd : Aside0 (∀ i : Nat, i < l.length → wr.drew.cell? ⟨gf, 1 + i, none⟩ = some (.string (rdOf ByteArray.empty fs ((i + 1 : Nat) : Int)))) := ⟨fun i hi => HF.out i hi⟩
       clear HM HL5 H45 H25 HA5 HB5 HF hcx
       refine start_ (n := 11) (S := fun w' => w'.cell? ⟨g4, 2, none⟩ = some (.slice (some ⟨gm, 0, none⟩) l.length l.length)) (ds := []) (bb [0, 11]) (by kernel_rfl) rfl rfl ((blk_cell H4d.out 2).trans (sq_at2 gs (gm, l) 2 HJ.out)) (fun hHeld => ?_); refine with_tabW sqTab2 sqBits (fun HT_ HW_ => ?_)
       generalize wr.drew = w12 at HMd HLd H4d H2d HAd HBd HFd hHeld ⊢
       refine pure_ (i := 0) (N := some 132) (v := ?_) (a' := ?_) (bb [1, 10]) rfl rfl (any_of HT_.out (by kernel_rfl)) (fun _ _ _ h => h) (Or.inl ⟨by rfl, ?_⟩) ?_ ?_
       rotate_left
       ·intro w'
        go_simp
        with_reducible rfl
       rotate_left
       ·simp only [Act.put, List.setIfInBounds_toArray, List.set_cons_zero, List.set_cons_succ, i64_w, i32_w]
        rfl
       refine pure_ (i := 2) (N := some 134) (v := ?_) (a' := ?_) (bb [1, 1, 1, 8]) rfl rfl (any_of HT_.out (by kernel_rfl)) (fun _ _ _ h => h) (Or.inl ⟨by rfl, ?_⟩) ?_ ?_
       rotate_left
       ·intro w'
        go_simp
        with_reducible rfl
       rotate_left
       ·simp only [Act.put, List.setIfInBounds_toArray, List.set_cons_zero, List.set_cons_succ, i64_w, i32_w]
        rfl
       refine pure_ (i := 3) (N := some 135) (v := ?_) (a' := ?_) (bb [1, 1, 2, 7]) rfl rfl (any_of HT_.out (by kernel_rfl)) (fun _ _ _ h => h) (Or.inl ⟨by rfl, ?_⟩) ?_ ?_
       rotate_left
       ·intro w'
        go_simp
        with_reducible rfl
       rotate_left
       ·simp only [Act.put, List.setIfInBounds_toArray, List.set_cons_zero, List.set_cons_succ, i64_w, i32_w]
        rfl
       refine take_ (i := 1) (N := some 133) (v := ?_) (a' := ?_) (bb [4, 7]) rfl rfl (take_ofW HT_.out HW_.out (by kernel_rfl)) (fun _ _ _ h => h) (Or.inl ⟨by rfl, ?_⟩) hHeld ?_ ?_
       rotate_left
       ·rintro w' s0
        go_simp
        with_reducible rfl
       rotate_left
       ·simp only [Act.put, List.setIfInBounds_toArray, List.set_cons_zero, List.set_cons_succ, i64_w, i32_w]
        rfl
       refine one_ (i := 4) (N := some 136) (bb [5, 6]) rfl rfl (one_of HT_.out (by kernel_rfl)) (by decide) (fun K hK => ?_)
       refine goes_ Tryz.func158 (by kernel_rfl) rfl #[.string s, .int .i64 10, .int .i64 64] (by rfl) rfl rfl (by (try simp only [List.map_toArray, List.map_cons, List.map_nil]); first | done | rfl | (simp only [List.length_drop, List.length_take]; rfl)) ?_
       refine (puSq_call s _ _ HPX.out).mono ?_
       rintro e w13 ⟨rfl, hb⟩
       refine ⟨_, rfl, ?_⟩
       have HFe : Aside0 (∀ i : Nat, i < l.length → w13.cell? ⟨gf, 1 + i, none⟩ = some (.string (rdOf ByteArray.empty fs ((i + 1 : Nat) : Int)))) := ⟨fun i hi => pw_cell_below hb (HFd.out i hi)⟩
       have HMe := Aside0.mk (blk_below HMd.out hb)
       have HLe := Aside0.mk (blk_below HLd.out hb)
       have H4e := Aside0.mk (blk_below H4d.out hb)
       have H2e := Aside0.mk (blk_below H2d.out hb)
       have HAe := Aside0.mk (sqAll_below HAd.out hb)
       have HBe := Aside0.mk (below_step HBd.out hb)
       clear hb HMd HLd H4d H2d HAd HBd HFd
       refine hK.out _ _ ((blk_cell H4e.out 2).trans (sq_at2 gs (gm, l) 2 HJ.out)) (fun hHeld => ?_)
       clear hK K
       refine norm_ (a' := ?_) ?_ ?_
       rotate_left
       ·show Act.put _ (some 136) _ = _
        simp only [Act.put, List.setIfInBounds_toArray, List.set_cons_zero, List.set_cons_succ, i64_w, i32_w]
        rfl
       refine pure_ (i := 5) (N := some 131) (v := ?_) (a' := ?_) (bb [6, 5]) rfl rfl (any_of HT_.out (by kernel_rfl)) (fun _ _ _ h => h) (Or.inl ⟨by rfl, ?_⟩) ?_ ?_
       rotate_left
       ·intro w'
        go_simp
        with_reducible rfl
       rotate_left
       ·simp only [Act.put, List.setIfInBounds_toArray, List.set_cons_zero, List.set_cons_succ, i64_w, i32_w]
        rfl
       refine pure_ (i := 6) (N := some 137) (v := ?_) (a' := ?_) (bb [7, 4]) rfl rfl (any_of HT_.out (by kernel_rfl)) (fun _ _ _ h => h) (Or.inl ⟨by rfl, ?_⟩) ?_ ?_
       rotate_left
       ·intro w'
        go_simp
        with_reducible rfl
       rotate_left
       ·simp only [Act.put, List.setIfInBounds_toArray, List.set_cons_zero, List.set_cons_succ, i64_w, i32_w]
        rfl
       refine pure_ (i := 7) (N := some 138) (v := ?_) (a' := ?_) (bb [8, 3]) rfl rfl (any_of HT_.out (by kernel_rfl)) (fun _ _ _ h => h) (Or.inl ⟨by rfl, ?_⟩) ?_ ?_
       rotate_left
       ·intro w'
        go_simp
        with_reducible rfl
       rotate_left
       ·simp only [Act.put, List.setIfInBounds_toArray, List.set_cons_zero, List.set_cons_succ, i64_w, i32_w]
        rfl
       refine pure_ (i := 8) (N := some 139) (v := ?_) (a' := ?_) (bb [9, 2]) rfl rfl (any_of HT_.out (by kernel_rfl)) (fun _ _ _ h => h) (Or.inl ⟨by rfl, ?_⟩) ?_ ?_
       rotate_left
       ·intro w'
        go_simp
        with_reducible rfl
       rotate_left
       ·simp only [Act.put, List.setIfInBounds_toArray, List.set_cons_zero, List.set_cons_succ, i64_w, i32_w]
        rfl
       refine one_ (i := 9) (N := none) (bb [10, 1]) rfl rfl (one_of HT_.out (by kernel_rfl)) (by decide) (fun K hK => ?_)
       have hsx : w13.cell? ⟨gm, x.toNat, none⟩ = some (.int .u64 0) := (blk_cell HMe.out x.toNat).trans (part_at l x.toNat hxl)
       have hfx := blk_frozen HMe.out x.toNat
       refine skip_ (w1 := ?_) (by rfl) rfl ?_ ?_
       rotate_left
       ·go_simp
        rfl
       refine hK.out _ _ ((blk_cell (blk_far H4e.out (p := ⟨gm, x.toNat, none⟩) N0.out.2.1 (.int .u64 l[x.toNat])) 2).trans (sq_at2 gs (gm, l) 2 HJ.out)) (fun hHeld => ?_)
       clear hK K hsx hfx
       refine pure_ (i := 10) (N := some 7) (v := ?_) (a' := ?_) (bb [11]) rfl rfl (any_of HT_.out (by kernel_rfl)) (fun _ _ _ h => h) (Or.inl ⟨by rfl, ?_⟩) ?_ ?_
       rotate_left
       ·intro w'
        go_simp
        with_reducible rfl
       rotate_left
       ·simp only [Act.put, List.setIfInBounds_toArray, List.set_cons_zero, List.set_cons_succ, i64_w, i32_w]
        rfl
       refine done_ (done_of HT_.out (by kernel_rfl)) ?_
       have hw : IntKind.i64.wrap (x + 1) = x + 1 := by have := HX.out; have := HL2.out; rw [i64_w]; unfold wrap64; omega
       go_wp2
       go_roundg (gk - 1)
       case measure => have := HX.out; omega
       case rel =>
        exact ⟨x + 1, rfl, ⟨by have := HX.out; omega, by have := HX.out; omega⟩, ⟨by rw [show (x + 1).toNat = x.toNat + 1 by have := HX.out; omega]; exact blk_put HMe.out x.toNat _ (part_set l x.toNat hxl)⟩, ⟨blk_far HLe.out (p := ⟨gm, x.toNat, none⟩) N0.out.1 _⟩, ⟨blk_far H4e.out (p := ⟨gm, x.toNat, none⟩) N0.out.2.1 _⟩, ⟨blk_far H2e.out (p := ⟨gm, x.toNat, none⟩) N0.out.2.2.1 _⟩, ⟨sqAll_grown HAe.out (grown_set _ gm _ _) N0.out.2.2.2.2⟩, ⟨below_set HBe.out HGM.out⟩, ⟨fun i hi => (cell_far (a := ⟨gf, 1 + i, none⟩) (p := ⟨gm, x.toNat, none⟩) N0.out.2.2.2.1 _).trans (HFe.out i hi)⟩⟩
      ·have d0 : decide (x < (l.length : Int)) = false := decide_eq_false hx
       go_wp2
       go_roundg k1
       case measure => omega
       case rel =>
        have hxe : x.toNat = l.length := by have := HX.out; omega
        rw [hxe, sq_done] at HM
        exact ⟨GL.restOf t, GL.lineOf t, ms', gs ++ [(gm, l)], _, rfl, HMS, ⟨by have := HD.out.1; rw [HRE.out] at this; simp at this ⊢; omega, by have := HD.out.2.1; rw [HRE.out] at this; have h2 := congrArg List.tail this; simp only [Option.toList_some, List.singleton_append, List.map_cons, List.tail_cons] at h2; rw [h2, List.length_append, List.length_singleton, List.tail_drop], by have := HD.out.2.2; rw [HRE.out] at this; rw [← this]; simp⟩, HL5, H45, H25, ⟨fun p hp => by
         rcases List.mem_append.1 hp with hp | hp
         ·exact HA5.out p hp
         ·rw [List.mem_singleton.1 hp]; exact ⟨HGM.out, HM.out⟩⟩, HB5⟩
    ·as_aux_lemma =>
     have hnm2 : nm = ⟨#[78, 69, 84, 95, 82, 88, 58]⟩ := by rw [hnm]; simp only [hj']; rfl
     subst hnm2
     have H0 := Aside0.mk h0
     have HJ := Aside0.mk hj'
     have d2 : decide ((fs.length : Int) < 2) = false := decide_eq_false (by have := HLEN.out; have := HL1.out; omega)
     have d2' : decide (fs.length < 2) = false := decide_eq_false (by have := HLEN.out; have := HL1.out; omega)
     have z0 : ((0 : Int) < (fs.length : Int)) = True := eq_true (by have := HLEN.out; omega)
     have z0' : (0 < fs.length) = True := eq_true (by have := HLEN.out; omega)
     clear hnm hj hj' h0
     go_wp2_with (first
      | (go_at_call 155; refine (GL.lines_scan g t line _ HL.out (by have := HT2.out; omega) (by have := HOK.out.1; omega) HOK.out.2.1 HOK.out.2.2).mono ?_; rintro e w3 ⟨rfl, hg3, hgr3⟩; have HL3 := Aside0.mk hg3; have H43 := Aside0.mk (blk_grown H4.out hgr3 (fun e => HGN4.out (by cases e; rfl))); have H23 := Aside0.mk (blk_grown H2.out hgr3 (fun e => HGN2.out (by cases e; rfl))); have HA3 := Aside0.mk (sqAll_grown HA.out hgr3 (sqAll_ne HA.out HL.out (by decide))); have HB3 := Aside0.mk (pw_below_grown HB.out (some g) HB.out.size hgr3 (fun k e => by cases e; exact HGL.out)); clear hg3 hgr3)
      | (go_at_call 157; refine (GL.lines_text g _ _ _ HL3.out).mono ?_; rintro e w3' ⟨rfl, rfl⟩)
      | (go_at_call 190; go_loud (refine (strings_Fields.calls (GL.lineOf t) fs _ (tabW_below HT.out HB3.out) HFS.out).mono ?_; rintro e w5 ⟨v0, rfl, hf, hb5⟩; obtain ⟨gf, cap, rfl, hgf1, hgf2, cells, hcells⟩ := Kd.R_form hf (by have := HLEN.out; omega); have HF := Aside0.mk hf; have HCAP := Aside0.mk (Kd.R_reads' hf).2.1; clear hcells hgf1 hgf2; have HL5 := Aside0.mk (blk_below HL3.out hb5); have H45 := Aside0.mk (blk_below H43.out hb5); have H25 := Aside0.mk (blk_below H23.out hb5); have HA5 := Aside0.mk (sqAll_below HA3.out hb5); have HB5 := Aside0.mk (below_step HB3.out hb5); have hc0 : w5.cell? ⟨gf, 0, none⟩ = some (.string ⟨#[78, 69, 84, 95, 82, 88, 58]⟩) := by { rw [← H0.out]; exact (Kd.R_cell ByteArray.empty HF.out 0 (by omega) (by have := HLEN.out; omega)).1 }; have hcut := cutSq gf fs.length cap l.length HLEN.out.symm HL1.out HCAP.out; have hmk := makeSq l.length HL2.out; have hk4 : ∀ o, (w5.alloc o).cell? ⟨g4, 3, none⟩ = some (.slice none 0 0) := fun o => (blk_cell (blk_alloc H45.out o) 3).trans (sq_at gs 3 HJ.out (by decide)); have hz4 : ∀ o, (w5.alloc o).frozen? ⟨g4, 3, none⟩ = false := fun o => blk_frozen (blk_alloc H45.out o) 3; clear hf hb5)))
     have M0 := Aside0.mk (show ((w5.alloc (.cells (madeCells #[.int .u64 0] l.length) 35)).setCell ⟨g4, 3, none⟩ (.slice (some ⟨w5.heap.size, 0, none⟩) l.length l.length)).heap[w5.heap.size]? = some (sqPart l 0) by rw [← sq_made]; exact blk_far (heap_alloc_new w5 _) (p := ⟨g4, 3, none⟩) (by have := blk_lt H45.out; show w5.heap.size ≠ g4; omega) _)
     have L0 := Aside0.mk (blk_far (blk_alloc HL5.out (.cells (madeCells #[.int .u64 0] l.length) 35)) (p := ⟨g4, 3, none⟩) (Ne.symm HGN4.out) (.slice (some ⟨w5.heap.size, 0, none⟩) l.length l.length))
     have S0 := Aside0.mk (blk_put (cs := sqArr gs) (cs' := sqArr (gs ++ [(w5.heap.size, l)])) (blk_alloc H45.out (.cells (madeCells #[.int .u64 0] l.length) 35)) 3 (.slice (some ⟨w5.heap.size, 0, none⟩) l.length l.length) (sq_set gs (w5.heap.size, l) 3 HJ.out (by decide)))
     have Z0 := Aside0.mk (blk_far (blk_alloc H25.out (.cells (madeCells #[.int .u64 0] l.length) 35)) (p := ⟨g4, 3, none⟩) HG24.out (.slice (some ⟨w5.heap.size, 0, none⟩) l.length l.length))
     have hA6 := sqAll_below HA5.out (below_alloc (Below.refl w5.heap.size w5) (.cells (madeCells #[.int .u64 0] l.length) 35))
     have A0 := Aside0.mk (sqAll_grown hA6 (grown_set _ g4 3 (.slice (some ⟨w5.heap.size, 0, none⟩) l.length l.length)) (sqAll_ne hA6 (blk_alloc H45.out (.cells (madeCells #[.int .u64 0] l.length) 35)) (by decide)))
     clear hA6
     have B0 := Aside0.mk (below_set (below_alloc HB5.out (.cells (madeCells #[.int .u64 0] l.length) 35)) HG4.out (j := 3) (v := .slice (some ⟨w5.heap.size, 0, none⟩) l.length l.length))
     have F0 : Aside0 (∀ i : Nat, i < l.length → ((w5.alloc (.cells (madeCells #[.int .u64 0] l.length) 35)).setCell ⟨g4, 3, none⟩ (.slice (some ⟨w5.heap.size, 0, none⟩) l.length l.length)).cell? ⟨gf, 1 + i, none⟩ = some (.string (rdOf ByteArray.empty fs ((i + 1 : Nat) : Int)))) := ⟨fun i hi => by
      have h1 := (Kd.R_cell ByteArray.empty (Kd.R_set (Kd.R_below HF.out (below_alloc (Below.refl w5.heap.size w5) (.cells (madeCells #[.int .u64 0] l.length) 35))) (blk_alloc H45.out _) (by decide) 3 (.slice (some ⟨w5.heap.size, 0, none⟩) l.length l.length)) ((i + 1 : Nat) : Int) (by omega) (by have := HLEN.out; omega)).1
      rw [show 1 + i = i + 1 from Nat.add_comm 1 i]
      exact h1⟩
     have G0 := Aside0.mk HB5.out.size
     have N0 := Aside0.mk (show g ≠ w5.heap.size ∧ g4 ≠ w5.heap.size ∧ g2 ≠ w5.heap.size ∧ gf ≠ w5.heap.size ∧ ∀ p ∈ gs, p.1 ≠ w5.heap.size from ⟨Nat.ne_of_lt (blk_lt HL5.out), Nat.ne_of_lt (blk_lt H45.out), Nat.ne_of_lt (blk_lt H25.out), Nat.ne_of_lt (Kd.R_lt HF.out gf rfl), fun p hp => Nat.ne_of_lt (blk_lt (HA5.out p hp).2)⟩)
     clear HL3 H43 H23 HA3 HB3 HL5 H45 H25 HA5 HB5 hc0 hcut hmk hk4 hz4 HF HCAP d2 d2' z0 z0'
     generalize hgm : w5.heap.size = gm at G0 N0 M0 L0 S0 Z0 A0 B0 F0 ⊢
     have HGM : Aside0 (w.heap.size ≤ gm) := G0
     clear G0
     generalize hW0 : (w5.alloc (.cells (madeCells #[.int .u64 0] l.length) 35)).setCell ⟨g4, 3, none⟩ (.slice (some ⟨gm, 0, none⟩) l.length l.length) = W0 at M0 L0 S0 Z0 A0 B0 F0 ⊢
     clear hW0 hgm
     go_loopg [155] l.length (fun kq vi w' => ∃ x : Int, vi = .int .i64 x ∧ Aside0 (0 ≤ x ∧ x + kq = l.length) ∧ Aside0 (w'.heap[gm]? = some (sqPart l x.toNat)) ∧ Aside0 (w'.heap[g]? = some (GL.linesCells (GL.restOf t) (GL.lineOf t))) ∧ Aside0 (w'.heap[g4]? = some (.cells (sqArr (gs ++ [(gm, l)])) 140 (0, 0))) ∧ Aside0 (w'.heap[g2]? = some (.cells sqZero 140 (0, 0))) ∧ Aside0 (sqAll w' w.heap.size gs) ∧ Aside0 (Below w.heap.size w w') ∧
      Aside0 (∀ i : Nat, i < l.length → w'.cell? ⟨gf, 1 + i, none⟩ = some (.string (rdOf ByteArray.empty fs ((i + 1 : Nat) : Int)))))
     case atStart => exact ⟨0, rfl, ⟨by omega, by omega⟩, M0, L0, S0, Z0, A0, B0, F0⟩
     case round =>
      clear M0 L0 S0 Z0 A0 B0 F0
      obtain ⟨x, rfl, HX, HM, HL5, H45, H25, HA5, HB5, HF⟩ := hrel
      by_cases hx : x < (l.length : Int)
      ·have d0 : decide (x < (l.length : Int)) = true := decide_eq_true hx
       have hxl : x.toNat < l.length := by have := HX.out; omega
       have hcx := HF.out x.toNat hxl
       have hpx := HPU.out x.toNat hxl
       generalize rdOf ByteArray.empty fs ((x.toNat + 1 : Nat) : Int) = s at hcx hpx
       have HPX := Aside0.mk hpx
       have q0 : (0 ≤ x) = True := eq_true HX.out.1
       have q1 : (x < (l.length : Int)) = True := eq_true hx
       clear hpx hx
       go_wp2
       have HMd := Aside0.mk (blk_drew HM.out)
       have HLd := Aside0.mk (blk_drew HL5.out)
       have H4d := Aside0.mk (blk_drew H45.out)
       have H2d := Aside0.mk (blk_drew H25.out)
       have HAd := Aside0.mk (show sqAll wr.drew w.heap.size gs from fun p hp => ⟨(HA5.out p hp).1, blk_drew (HA5.out p hp).2⟩)
       have HBd := Aside0.mk (below_drew1 HB5.out)
       have HFd : Aside0 (∀ i : Nat, i < l.length → wr.drew.cell? ⟨gf, 1 + i, none⟩ = some (.string (rdOf ByteArray.empty fs ((i + 1 : Nat) : Int)))) := ⟨fun i hi => HF.out i hi⟩
       clear HM HL5 H45 H25 HA5 HB5 HF hcx
       refine start_ (n := 11) (S := fun w' => w'.cell? ⟨g4, 3, none⟩ = some (.slice (some ⟨gm, 0, none⟩) l.length l.length)) (ds := []) (bb [0, 11]) (by kernel_rfl) rfl rfl ((blk_cell H4d.out 3).trans (sq_at2 gs (gm, l) 3 HJ.out)) (fun hHeld => ?_); refine with_tabW sqTab3 sqBits (fun HT_ HW_ => ?_)
       generalize wr.drew = w12 at HMd HLd H4d H2d HAd HBd HFd hHeld ⊢
       refine pure_ (i := 0) (N := some 161) (v := ?_) (a' := ?_) (bb [1, 10]) rfl rfl (any_of HT_.out (by kernel_rfl)) (fun _ _ _ h => h) (Or.inl ⟨by rfl, ?_⟩) ?_ ?_
       rotate_left
       ·intro w'
        go_simp
        with_reducible rfl
       rotate_left
       ·simp only [Act.put, List.setIfInBounds_toArray, List.set_cons_zero, List.set_cons_succ, i64_w, i32_w]
        rfl
       refine pure_ (i := 2) (N := some 163) (v := ?_) (a' := ?_) (bb [1, 1, 1, 8]) rfl rfl (any_of HT_.out (by kernel_rfl)) (fun _ _ _ h => h) (Or.inl ⟨by rfl, ?_⟩) ?_ ?_
       rotate_left
       ·intro w'
        go_simp
        with_reducible rfl
       rotate_left
       ·simp only [Act.put, List.setIfInBounds_toArray, List.set_cons_zero, List.set_cons_succ, i64_w, i32_w]
        rfl
       refine pure_ (i := 3) (N := some 164) (v := ?_) (a' := ?_) (bb [1, 1, 2, 7]) rfl rfl (any_of HT_.out (by kernel_rfl)) (fun _ _ _ h => h) (Or.inl ⟨by rfl, ?_⟩) ?_ ?_
       rotate_left
       ·intro w'
        go_simp
        with_reducible rfl
       rotate_left
       ·simp only [Act.put, List.setIfInBounds_toArray, List.set_cons_zero, List.set_cons_succ, i64_w, i32_w]
        rfl
       refine take_ (i := 1) (N := some 162) (v := ?_) (a' := ?_) (bb [4, 7]) rfl rfl (take_ofW HT_.out HW_.out (by kernel_rfl)) (fun _ _ _ h => h) (Or.inl ⟨by rfl, ?_⟩) hHeld ?_ ?_
       rotate_left
       ·rintro w' s0
        go_simp
        with_reducible rfl
       rotate_left
       ·simp only [Act.put, List.setIfInBounds_toArray, List.set_cons_zero, List.set_cons_succ, i64_w, i32_w]
        rfl
       refine one_ (i := 4) (N := some 165) (bb [5, 6]) rfl rfl (one_of HT_.out (by kernel_rfl)) (by decide) (fun K hK => ?_)
       refine goes_ Tryz.func158 (by kernel_rfl) rfl #[.string s, .int .i64 10, .int .i64 64] (by rfl) rfl rfl (by (try simp only [List.map_toArray, List.map_cons, List.map_nil]); first | done | rfl | (simp only [List.length_drop, List.length_take]; rfl)) ?_
       refine (puSq_call s _ _ HPX.out).mono ?_
       rintro e w13 ⟨rfl, hb⟩
       refine ⟨_, rfl, ?_⟩
       have HFe : Aside0 (∀ i : Nat, i < l.length → w13.cell? ⟨gf, 1 + i, none⟩ = some (.string (rdOf ByteArray.empty fs ((i + 1 : Nat) : Int)))) := ⟨fun i hi => pw_cell_below hb (HFd.out i hi)⟩
       have HMe := Aside0.mk (blk_below HMd.out hb)
       have HLe := Aside0.mk (blk_below HLd.out hb)
       have H4e := Aside0.mk (blk_below H4d.out hb)
       have H2e := Aside0.mk (blk_below H2d.out hb)
       have HAe := Aside0.mk (sqAll_below HAd.out hb)
       have HBe := Aside0.mk (below_step HBd.out hb)
       clear hb HMd HLd H4d H2d HAd HBd HFd
       refine hK.out _ _ ((blk_cell H4e.out 3).trans (sq_at2 gs (gm, l) 3 HJ.out)) (fun hHeld => ?_)
       clear hK K
       refine norm_ (a' := ?_) ?_ ?_
       rotate_left
       ·show Act.put _ (some 165) _ = _
        simp only [Act.put, List.setIfInBounds_toArray, List.set_cons_zero, List.set_cons_succ, i64_w, i32_w]
        rfl
       refine pure_ (i := 5) (N := some 160) (v := ?_) (a' := ?_) (bb [6, 5]) rfl rfl (any_of HT_.out (by kernel_rfl)) (fun _ _ _ h => h) (Or.inl ⟨by rfl, ?_⟩) ?_ ?_
       rotate_left
       ·intro w'
        go_simp
        with_reducible rfl
       rotate_left
       ·simp only [Act.put, List.setIfInBounds_toArray, List.set_cons_zero, List.set_cons_succ, i64_w, i32_w]
        rfl
       refine pure_ (i := 6) (N := some 166) (v := ?_) (a' := ?_) (bb [7, 4]) rfl rfl (any_of HT_.out (by kernel_rfl)) (fun _ _ _ h => h) (Or.inl ⟨by rfl, ?_⟩) ?_ ?_
       rotate_left
       ·intro w'
        go_simp
        with_reducible rfl
       rotate_left
       ·simp only [Act.put, List.setIfInBounds_toArray, List.set_cons_zero, List.set_cons_succ, i64_w, i32_w]
        rfl
       refine pure_ (i := 7) (N := some 167) (v := ?_) (a' := ?_) (bb [8, 3]) rfl rfl (any_of HT_.out (by kernel_rfl)) (fun _ _ _ h => h) (Or.inl ⟨by rfl, ?_⟩) ?_ ?_
       rotate_left
       ·intro w'
        go_simp
        with_reducible rfl
       rotate_left
       ·simp only [Act.put, List.setIfInBounds_toArray, List.set_cons_zero, List.set_cons_succ, i64_w, i32_w]
        rfl
       refine pure_ (i := 8) (N := some 168) (v := ?_) (a' := ?_) (bb [9, 2]) rfl rfl (any_of HT_.out (by kernel_rfl)) (fun _ _ _ h => h) (Or.inl ⟨by rfl, ?_⟩) ?_ ?_
       rotate_left
       ·intro w'
        go_simp
        with_reducible rfl
       rotate_left
       ·simp only [Act.put, List.setIfInBounds_toArray, List.set_cons_zero, List.set_cons_succ, i64_w, i32_w]
        rfl
       refine one_ (i := 9) (N := none) (bb [10, 1]) rfl rfl (one_of HT_.out (by kernel_rfl)) (by decide) (fun K hK => ?_)
       have hsx : w13.cell? ⟨gm, x.toNat, none⟩ = some (.int .u64 0) := (blk_cell HMe.out x.toNat).trans (part_at l x.toNat hxl)
       have hfx := blk_frozen HMe.out x.toNat
       refine skip_ (w1 := ?_) (by rfl) rfl ?_ ?_
       rotate_left
       ·go_simp
        rfl
       refine hK.out _ _ ((blk_cell (blk_far H4e.out (p := ⟨gm, x.toNat, none⟩) N0.out.2.1 (.int .u64 l[x.toNat])) 3).trans (sq_at2 gs (gm, l) 3 HJ.out)) (fun hHeld => ?_)
       clear hK K hsx hfx
       refine pure_ (i := 10) (N := some 7) (v := ?_) (a' := ?_) (bb [11]) rfl rfl (any_of HT_.out (by kernel_rfl)) (fun _ _ _ h => h) (Or.inl ⟨by rfl, ?_⟩) ?_ ?_
       rotate_left
       ·intro w'
        go_simp
        with_reducible rfl
       rotate_left
       ·simp only [Act.put, List.setIfInBounds_toArray, List.set_cons_zero, List.set_cons_succ, i64_w, i32_w]
        rfl
       refine done_ (done_of HT_.out (by kernel_rfl)) ?_
       have hw : IntKind.i64.wrap (x + 1) = x + 1 := by have := HX.out; have := HL2.out; rw [i64_w]; unfold wrap64; omega
       go_wp2
       go_roundg (gk - 1)
       case measure => have := HX.out; omega
       case rel =>
        exact ⟨x + 1, rfl, ⟨by have := HX.out; omega, by have := HX.out; omega⟩, ⟨by rw [show (x + 1).toNat = x.toNat + 1 by have := HX.out; omega]; exact blk_put HMe.out x.toNat _ (part_set l x.toNat hxl)⟩, ⟨blk_far HLe.out (p := ⟨gm, x.toNat, none⟩) N0.out.1 _⟩, ⟨blk_far H4e.out (p := ⟨gm, x.toNat, none⟩) N0.out.2.1 _⟩, ⟨blk_far H2e.out (p := ⟨gm, x.toNat, none⟩) N0.out.2.2.1 _⟩, ⟨sqAll_grown HAe.out (grown_set _ gm _ _) N0.out.2.2.2.2⟩, ⟨below_set HBe.out HGM.out⟩, ⟨fun i hi => (cell_far (a := ⟨gf, 1 + i, none⟩) (p := ⟨gm, x.toNat, none⟩) N0.out.2.2.2.1 _).trans (HFe.out i hi)⟩⟩
      ·have d0 : decide (x < (l.length : Int)) = false := decide_eq_false hx
       go_wp2
       go_roundg k1
       case measure => omega
       case rel =>
        have hxe : x.toNat = l.length := by have := HX.out; omega
        rw [hxe, sq_done] at HM
        exact ⟨GL.restOf t, GL.lineOf t, ms', gs ++ [(gm, l)], _, rfl, HMS, ⟨by have := HD.out.1; rw [HRE.out] at this; simp at this ⊢; omega, by have := HD.out.2.1; rw [HRE.out] at this; have h2 := congrArg List.tail this; simp only [Option.toList_some, List.singleton_append, List.map_cons, List.tail_cons] at h2; rw [h2, List.length_append, List.length_singleton, List.tail_drop], by have := HD.out.2.2; rw [HRE.out] at this; rw [← this]; simp⟩, HL5, H45, H25, ⟨fun p hp => by
         rcases List.mem_append.1 hp with hp | hp
         ·exact HA5.out p hp
         ·rw [List.mem_singleton.1 hp]; exact ⟨HGM.out, HM.out⟩⟩, HB5⟩
    ·as_aux_lemma =>
     have hnm2 : nm = ⟨#[66, 76, 79, 67, 75, 58]⟩ := by rw [hnm]; simp only [hj']; rfl
     subst hnm2
     have H0 := Aside0.mk h0
     have HJ := Aside0.mk hj'
     have d2 : decide ((fs.length : Int) < 2) = false := decide_eq_false (by have := HLEN.out; have := HL1.out; omega)
     have d2' : decide (fs.length < 2) = false := decide_eq_false (by have := HLEN.out; have := HL1.out; omega)
     have z0 : ((0 : Int) < (fs.length : Int)) = True := eq_true (by have := HLEN.out; omega)
     have z0' : (0 < fs.length) = True := eq_true (by have := HLEN.out; omega)
     clear hnm hj hj' h0
     go_wp2_with (first
      | (go_at_call 155; refine (GL.lines_scan g t line _ HL.out (by have := HT2.out; omega) (by have := HOK.out.1; omega) HOK.out.2.1 HOK.out.2.2).mono ?_; rintro e w3 ⟨rfl, hg3, hgr3⟩; have HL3 := Aside0.mk hg3; have H43 := Aside0.mk (blk_grown H4.out hgr3 (fun e => HGN4.out (by cases e; rfl))); have H23 := Aside0.mk (blk_grown H2.out hgr3 (fun e => HGN2.out (by cases e; rfl))); have HA3 := Aside0.mk (sqAll_grown HA.out hgr3 (sqAll_ne HA.out HL.out (by decide))); have HB3 := Aside0.mk (pw_below_grown HB.out (some g) HB.out.size hgr3 (fun k e => by cases e; exact HGL.out)); clear hg3 hgr3)
      | (go_at_call 157; refine (GL.lines_text g _ _ _ HL3.out).mono ?_; rintro e w3' ⟨rfl, rfl⟩)
      | (go_at_call 190; go_loud (refine (strings_Fields.calls (GL.lineOf t) fs _ (tabW_below HT.out HB3.out) HFS.out).mono ?_; rintro e w5 ⟨v0, rfl, hf, hb5⟩; obtain ⟨gf, cap, rfl, hgf1, hgf2, cells, hcells⟩ := Kd.R_form hf (by have := HLEN.out; omega); have HF := Aside0.mk hf; have HCAP := Aside0.mk (Kd.R_reads' hf).2.1; clear hcells hgf1 hgf2; have HL5 := Aside0.mk (blk_below HL3.out hb5); have H45 := Aside0.mk (blk_below H43.out hb5); have H25 := Aside0.mk (blk_below H23.out hb5); have HA5 := Aside0.mk (sqAll_below HA3.out hb5); have HB5 := Aside0.mk (below_step HB3.out hb5); have hc0 : w5.cell? ⟨gf, 0, none⟩ = some (.string ⟨#[66, 76, 79, 67, 75, 58]⟩) := by { rw [← H0.out]; exact (Kd.R_cell ByteArray.empty HF.out 0 (by omega) (by have := HLEN.out; omega)).1 }; have hcut := cutSq gf fs.length cap l.length HLEN.out.symm HL1.out HCAP.out; have hmk := makeSq l.length HL2.out; have hk4 : ∀ o, (w5.alloc o).cell? ⟨g4, 4, none⟩ = some (.slice none 0 0) := fun o => (blk_cell (blk_alloc H45.out o) 4).trans (sq_at gs 4 HJ.out (by decide)); have hz4 : ∀ o, (w5.alloc o).frozen? ⟨g4, 4, none⟩ = false := fun o => blk_frozen (blk_alloc H45.out o) 4; clear hf hb5)))
     have M0 := Aside0.mk (show ((w5.alloc (.cells (madeCells #[.int .u64 0] l.length) 35)).setCell ⟨g4, 4, none⟩ (.slice (some ⟨w5.heap.size, 0, none⟩) l.length l.length)).heap[w5.heap.size]? = some (sqPart l 0) by rw [← sq_made]; exact blk_far (heap_alloc_new w5 _) (p := ⟨g4, 4, none⟩) (by have := blk_lt H45.out; show w5.heap.size ≠ g4; omega) _)
     have L0 := Aside0.mk (blk_far (blk_alloc HL5.out (.cells (madeCells #[.int .u64 0] l.length) 35)) (p := ⟨g4, 4, none⟩) (Ne.symm HGN4.out) (.slice (some ⟨w5.heap.size, 0, none⟩) l.length l.length))
     have S0 := Aside0.mk (blk_put (cs := sqArr gs) (cs' := sqArr (gs ++ [(w5.heap.size, l)])) (blk_alloc H45.out (.cells (madeCells #[.int .u64 0] l.length) 35)) 4 (.slice (some ⟨w5.heap.size, 0, none⟩) l.length l.length) (sq_set gs (w5.heap.size, l) 4 HJ.out (by decide)))
     have Z0 := Aside0.mk (blk_far (blk_alloc H25.out (.cells (madeCells #[.int .u64 0] l.length) 35)) (p := ⟨g4, 4, none⟩) HG24.out (.slice (some ⟨w5.heap.size, 0, none⟩) l.length l.length))
     have hA6 := sqAll_below HA5.out (below_alloc (Below.refl w5.heap.size w5) (.cells (madeCells #[.int .u64 0] l.length) 35))
     have A0 := Aside0.mk (sqAll_grown hA6 (grown_set _ g4 4 (.slice (some ⟨w5.heap.size, 0, none⟩) l.length l.length)) (sqAll_ne hA6 (blk_alloc H45.out (.cells (madeCells #[.int .u64 0] l.length) 35)) (by decide)))
     clear hA6
     have B0 := Aside0.mk (below_set (below_alloc HB5.out (.cells (madeCells #[.int .u64 0] l.length) 35)) HG4.out (j := 4) (v := .slice (some ⟨w5.heap.size, 0, none⟩) l.length l.length))
     have F0 : Aside0 (∀ i : Nat, i < l.length → ((w5.alloc (.cells (madeCells #[.int .u64 0] l.length) 35)).setCell ⟨g4, 4, none⟩ (.slice (some ⟨w5.heap.size, 0, none⟩) l.length l.length)).cell? ⟨gf, 1 + i, none⟩ = some (.string (rdOf ByteArray.empty fs ((i + 1 : Nat) : Int)))) := ⟨fun i hi => by
      have h1 := (Kd.R_cell ByteArray.empty (Kd.R_set (Kd.R_below HF.out (below_alloc (Below.refl w5.heap.size w5) (.cells (madeCells #[.int .u64 0] l.length) 35))) (blk_alloc H45.out _) (by decide) 4 (.slice (some ⟨w5.heap.size, 0, none⟩) l.length l.length)) ((i + 1 : Nat) : Int) (by omega) (by have := HLEN.out; omega)).1
      rw [show 1 + i = i + 1 from Nat.add_comm 1 i]
      exact h1⟩
     have G0 := Aside0.mk HB5.out.size
     have N0 := Aside0.mk (show g ≠ w5.heap.size ∧ g4 ≠ w5.heap.size ∧ g2 ≠ w5.heap.size ∧ gf ≠ w5.heap.size ∧ ∀ p ∈ gs, p.1 ≠ w5.heap.size from ⟨Nat.ne_of_lt (blk_lt HL5.out), Nat.ne_of_lt (blk_lt H45.out), Nat.ne_of_lt (blk_lt H25.out), Nat.ne_of_lt (Kd.R_lt HF.out gf rfl), fun p hp => Nat.ne_of_lt (blk_lt (HA5.out p hp).2)⟩)
     clear HL3 H43 H23 HA3 HB3 HL5 H45 H25 HA5 HB5 hc0 hcut hmk hk4 hz4 HF HCAP d2 d2' z0 z0'
     generalize hgm : w5.heap.size = gm at G0 N0 M0 L0 S0 Z0 A0 B0 F0 ⊢
     have HGM : Aside0 (w.heap.size ≤ gm) := G0
     clear G0
     generalize hW0 : (w5.alloc (.cells (madeCells #[.int .u64 0] l.length) 35)).setCell ⟨g4, 4, none⟩ (.slice (some ⟨gm, 0, none⟩) l.length l.length) = W0 at M0 L0 S0 Z0 A0 B0 F0 ⊢
     clear hW0 hgm
     go_loopg [184] l.length (fun kq vi w' => ∃ x : Int, vi = .int .i64 x ∧ Aside0 (0 ≤ x ∧ x + kq = l.length) ∧ Aside0 (w'.heap[gm]? = some (sqPart l x.toNat)) ∧ Aside0 (w'.heap[g]? = some (GL.linesCells (GL.restOf t) (GL.lineOf t))) ∧ Aside0 (w'.heap[g4]? = some (.cells (sqArr (gs ++ [(gm, l)])) 140 (0, 0))) ∧ Aside0 (w'.heap[g2]? = some (.cells sqZero 140 (0, 0))) ∧ Aside0 (sqAll w' w.heap.size gs) ∧ Aside0 (Below w.heap.size w w') ∧
      Aside0 (∀ i : Nat, i < l.length → w'.cell? ⟨gf, 1 + i, none⟩ = some (.string (rdOf ByteArray.empty fs ((i + 1 : Nat) : Int)))))
     case atStart => exact ⟨0, rfl, ⟨by omega, by omega⟩, M0, L0, S0, Z0, A0, B0, F0⟩
     case round =>
      clear M0 L0 S0 Z0 A0 B0 F0
      obtain ⟨x, rfl, HX, HM, HL5, H45, H25, HA5, HB5, HF⟩ := hrel
      by_cases hx : x < (l.length : Int)
      ·have d0 : decide (x < (l.length : Int)) = true := decide_eq_true hx
       have hxl : x.toNat < l.length := by have := HX.out; omega
       have hcx := HF.out x.toNat hxl
       have hpx := HPU.out x.toNat hxl
       generalize rdOf ByteArray.empty fs ((x.toNat + 1 : Nat) : Int) = s at hcx hpx
       have HPX := Aside0.mk hpx
       have q0 : (0 ≤ x) = True := eq_true HX.out.1
       have q1 : (x < (l.length : Int)) = True := eq_true hx
       clear hpx hx
       go_wp2
       have HMd := Aside0.mk (blk_drew HM.out)
       have HLd := Aside0.mk (blk_drew HL5.out)
       have H4d := Aside0.mk (blk_drew H45.out)
       have H2d := Aside0.mk (blk_drew H25.out)
       have HAd := Aside0.mk (show sqAll wr.drew w.heap.size gs from fun p hp => ⟨(HA5.out p hp).1, blk_drew (HA5.out p hp).2⟩)
       have HBd := Aside0.mk (below_drew1 HB5.out)
       have HFd : Aside0 (∀ i : Nat, i < l.length → wr.drew.cell? ⟨gf, 1 + i, none⟩ = some (.string (rdOf ByteArray.empty fs ((i + 1 : Nat) : Int)))) := ⟨fun i hi => HF.out i hi⟩
       clear HM HL5 H45 H25 HA5 HB5 HF hcx
       refine start_ (n := 11) (S := fun w' => w'.cell? ⟨g4, 4, none⟩ = some (.slice (some ⟨gm, 0, none⟩) l.length l.length)) (ds := []) (bb [0, 11]) (by kernel_rfl) rfl rfl ((blk_cell H4d.out 4).trans (sq_at2 gs (gm, l) 4 HJ.out)) (fun hHeld => ?_); refine with_tabW sqTab4 sqBits (fun HT_ HW_ => ?_)
       generalize wr.drew = w12 at HMd HLd H4d H2d HAd HBd HFd hHeld ⊢
       refine pure_ (i := 0) (N := some 190) (v := ?_) (a' := ?_) (bb [1, 10]) rfl rfl (any_of HT_.out (by kernel_rfl)) (fun _ _ _ h => h) (Or.inl ⟨by rfl, ?_⟩) ?_ ?_
       rotate_left
       ·intro w'
        go_simp
        with_reducible rfl
       rotate_left
       ·simp only [Act.put, List.setIfInBounds_toArray, List.set_cons_zero, List.set_cons_succ, i64_w, i32_w]
        rfl
       refine pure_ (i := 2) (N := some 192) (v := ?_) (a' := ?_) (bb [1, 1, 1, 8]) rfl rfl (any_of HT_.out (by kernel_rfl)) (fun _ _ _ h => h) (Or.inl ⟨by rfl, ?_⟩) ?_ ?_
       rotate_left
       ·intro w'
        go_simp
        with_reducible rfl
       rotate_left
       ·simp only [Act.put, List.setIfInBounds_toArray, List.set_cons_zero, List.set_cons_succ, i64_w, i32_w]
        rfl
       refine pure_ (i := 3) (N := some 193) (v := ?_) (a' := ?_) (bb [1, 1, 2, 7]) rfl rfl (any_of HT_.out (by kernel_rfl)) (fun _ _ _ h => h) (Or.inl ⟨by rfl, ?_⟩) ?_ ?_
       rotate_left
       ·intro w'
        go_simp
        with_reducible rfl
       rotate_left
       ·simp only [Act.put, List.setIfInBounds_toArray, List.set_cons_zero, List.set_cons_succ, i64_w, i32_w]
        rfl
       refine take_ (i := 1) (N := some 191) (v := ?_) (a' := ?_) (bb [4, 7]) rfl rfl (take_ofW HT_.out HW_.out (by kernel_rfl)) (fun _ _ _ h => h) (Or.inl ⟨by rfl, ?_⟩) hHeld ?_ ?_
       rotate_left
       ·rintro w' s0
        go_simp
        with_reducible rfl
       rotate_left
       ·simp only [Act.put, List.setIfInBounds_toArray, List.set_cons_zero, List.set_cons_succ, i64_w, i32_w]
        rfl
       refine one_ (i := 4) (N := some 194) (bb [5, 6]) rfl rfl (one_of HT_.out (by kernel_rfl)) (by decide) (fun K hK => ?_)
       refine goes_ Tryz.func158 (by kernel_rfl) rfl #[.string s, .int .i64 10, .int .i64 64] (by rfl) rfl rfl (by (try simp only [List.map_toArray, List.map_cons, List.map_nil]); first | done | rfl | (simp only [List.length_drop, List.length_take]; rfl)) ?_
       refine (puSq_call s _ _ HPX.out).mono ?_
       rintro e w13 ⟨rfl, hb⟩
       refine ⟨_, rfl, ?_⟩
       have HFe : Aside0 (∀ i : Nat, i < l.length → w13.cell? ⟨gf, 1 + i, none⟩ = some (.string (rdOf ByteArray.empty fs ((i + 1 : Nat) : Int)))) := ⟨fun i hi => pw_cell_below hb (HFd.out i hi)⟩
       have HMe := Aside0.mk (blk_below HMd.out hb)
       have HLe := Aside0.mk (blk_below HLd.out hb)
       have H4e := Aside0.mk (blk_below H4d.out hb)
       have H2e := Aside0.mk (blk_below H2d.out hb)
       have HAe := Aside0.mk (sqAll_below HAd.out hb)
       have HBe := Aside0.mk (below_step HBd.out hb)
       clear hb HMd HLd H4d H2d HAd HBd HFd
       refine hK.out _ _ ((blk_cell H4e.out 4).trans (sq_at2 gs (gm, l) 4 HJ.out)) (fun hHeld => ?_)
       clear hK K
       refine norm_ (a' := ?_) ?_ ?_
       rotate_left
       ·show Act.put _ (some 194) _ = _
        simp only [Act.put, List.setIfInBounds_toArray, List.set_cons_zero, List.set_cons_succ, i64_w, i32_w]
        rfl
       refine pure_ (i := 5) (N := some 189) (v := ?_) (a' := ?_) (bb [6, 5]) rfl rfl (any_of HT_.out (by kernel_rfl)) (fun _ _ _ h => h) (Or.inl ⟨by rfl, ?_⟩) ?_ ?_
       rotate_left
       ·intro w'
        go_simp
        with_reducible rfl
       rotate_left
       ·simp only [Act.put, List.setIfInBounds_toArray, List.set_cons_zero, List.set_cons_succ, i64_w, i32_w]
        rfl
       refine pure_ (i := 6) (N := some 195) (v := ?_) (a' := ?_) (bb [7, 4]) rfl rfl (any_of HT_.out (by kernel_rfl)) (fun _ _ _ h => h) (Or.inl ⟨by rfl, ?_⟩) ?_ ?_
       rotate_left
       ·intro w'
        go_simp
        with_reducible rfl
       rotate_left
       ·simp only [Act.put, List.setIfInBounds_toArray, List.set_cons_zero, List.set_cons_succ, i64_w, i32_w]
        rfl
       refine pure_ (i := 7) (N := some 196) (v := ?_) (a' := ?_) (bb [8, 3]) rfl rfl (any_of HT_.out (by kernel_rfl)) (fun _ _ _ h => h) (Or.inl ⟨by rfl, ?_⟩) ?_ ?_
       rotate_left
       ·intro w'
        go_simp
        with_reducible rfl
       rotate_left
       ·simp only [Act.put, List.setIfInBounds_toArray, List.set_cons_zero, List.set_cons_succ, i64_w, i32_w]
        rfl
       refine pure_ (i := 8) (N := some 197) (v := ?_) (a' := ?_) (bb [9, 2]) rfl rfl (any_of HT_.out (by kernel_rfl)) (fun _ _ _ h => h) (Or.inl ⟨by rfl, ?_⟩) ?_ ?_
       rotate_left
       ·intro w'
        go_simp
        with_reducible rfl
       rotate_left
       ·simp only [Act.put, List.setIfInBounds_toArray, List.set_cons_zero, List.set_cons_succ, i64_w, i32_w]
        rfl
       refine one_ (i := 9) (N := none) (bb [10, 1]) rfl rfl (one_of HT_.out (by kernel_rfl)) (by decide) (fun K hK => ?_)
       have hsx : w13.cell? ⟨gm, x.toNat, none⟩ = some (.int .u64 0) := (blk_cell HMe.out x.toNat).trans (part_at l x.toNat hxl)
       have hfx := blk_frozen HMe.out x.toNat
       refine skip_ (w1 := ?_) (by rfl) rfl ?_ ?_
       rotate_left
       ·go_simp
        rfl
       refine hK.out _ _ ((blk_cell (blk_far H4e.out (p := ⟨gm, x.toNat, none⟩) N0.out.2.1 (.int .u64 l[x.toNat])) 4).trans (sq_at2 gs (gm, l) 4 HJ.out)) (fun hHeld => ?_)
       clear hK K hsx hfx
       refine pure_ (i := 10) (N := some 7) (v := ?_) (a' := ?_) (bb [11]) rfl rfl (any_of HT_.out (by kernel_rfl)) (fun _ _ _ h => h) (Or.inl ⟨by rfl, ?_⟩) ?_ ?_
       rotate_left
       ·intro w'
        go_simp
        with_reducible rfl
       rotate_left
       ·simp only [Act.put, List.setIfInBounds_toArray, List.set_cons_zero, List.set_cons_succ, i64_w, i32_w]
        rfl
       refine done_ (done_of HT_.out (by kernel_rfl)) ?_
       have hw : IntKind.i64.wrap (x + 1) = x + 1 := by have := HX.out; have := HL2.out; rw [i64_w]; unfold wrap64; omega
       go_wp2
       go_roundg (gk - 1)
       case measure => have := HX.out; omega
       case rel =>
        exact ⟨x + 1, rfl, ⟨by have := HX.out; omega, by have := HX.out; omega⟩, ⟨by rw [show (x + 1).toNat = x.toNat + 1 by have := HX.out; omega]; exact blk_put HMe.out x.toNat _ (part_set l x.toNat hxl)⟩, ⟨blk_far HLe.out (p := ⟨gm, x.toNat, none⟩) N0.out.1 _⟩, ⟨blk_far H4e.out (p := ⟨gm, x.toNat, none⟩) N0.out.2.1 _⟩, ⟨blk_far H2e.out (p := ⟨gm, x.toNat, none⟩) N0.out.2.2.1 _⟩, ⟨sqAll_grown HAe.out (grown_set _ gm _ _) N0.out.2.2.2.2⟩, ⟨below_set HBe.out HGM.out⟩, ⟨fun i hi => (cell_far (a := ⟨gf, 1 + i, none⟩) (p := ⟨gm, x.toNat, none⟩) N0.out.2.2.2.1 _).trans (HFe.out i hi)⟩⟩
      ·have d0 : decide (x < (l.length : Int)) = false := decide_eq_false hx
       go_wp2
       go_roundg k1
       case measure => omega
       case rel =>
        have hxe : x.toNat = l.length := by have := HX.out; omega
        rw [hxe, sq_done] at HM
        exact ⟨GL.restOf t, GL.lineOf t, ms', gs ++ [(gm, l)], _, rfl, HMS, ⟨by have := HD.out.1; rw [HRE.out] at this; simp at this ⊢; omega, by have := HD.out.2.1; rw [HRE.out] at this; have h2 := congrArg List.tail this; simp only [Option.toList_some, List.singleton_append, List.map_cons, List.tail_cons] at h2; rw [h2, List.length_append, List.length_singleton, List.tail_drop], by have := HD.out.2.2; rw [HRE.out] at this; rw [← this]; simp⟩, HL5, H45, H25, ⟨fun p hp => by
         rcases List.mem_append.1 hp with hp | hp
         ·exact HA5.out p hp
         ·rw [List.mem_singleton.1 hp]; exact ⟨HGM.out, HM.out⟩⟩, HB5⟩
    ·as_aux_lemma =>
     have hnm2 : nm = ⟨#[73, 82, 81, 95, 80, 79, 76, 76, 58]⟩ := by rw [hnm]; simp only [hj']; rfl
     subst hnm2
     have H0 := Aside0.mk h0
     have HJ := Aside0.mk hj'
     have d2 : decide ((fs.length : Int) < 2) = false := decide_eq_false (by have := HLEN.out; have := HL1.out; omega)
     have d2' : decide (fs.length < 2) = false := decide_eq_false (by have := HLEN.out; have := HL1.out; omega)
     have z0 : ((0 : Int) < (fs.length : Int)) = True := eq_true (by have := HLEN.out; omega)
     have z0' : (0 < fs.length) = True := eq_true (by have := HLEN.out; omega)
     clear hnm hj hj' h0
     go_wp2_with (first
      | (go_at_call 155; refine (GL.lines_scan g t line _ HL.out (by have := HT2.out; omega) (by have := HOK.out.1; omega) HOK.out.2.1 HOK.out.2.2).mono ?_; rintro e w3 ⟨rfl, hg3, hgr3⟩; have HL3 := Aside0.mk hg3; have H43 := Aside0.mk (blk_grown H4.out hgr3 (fun e => HGN4.out (by cases e; rfl))); have H23 := Aside0.mk (blk_grown H2.out hgr3 (fun e => HGN2.out (by cases e; rfl))); have HA3 := Aside0.mk (sqAll_grown HA.out hgr3 (sqAll_ne HA.out HL.out (by decide))); have HB3 := Aside0.mk (pw_below_grown HB.out (some g) HB.out.size hgr3 (fun k e => by cases e; exact HGL.out)); clear hg3 hgr3)
      | (go_at_call 157; refine (GL.lines_text g _ _ _ HL3.out).mono ?_; rintro e w3' ⟨rfl, rfl⟩)
      | (go_at_call 190; go_loud (refine (strings_Fields.calls (GL.lineOf t) fs _ (tabW_below HT.out HB3.out) HFS.out).mono ?_; rintro e w5 ⟨v0, rfl, hf, hb5⟩; obtain ⟨gf, cap, rfl, hgf1, hgf2, cells, hcells⟩ := Kd.R_form hf (by have := HLEN.out; omega); have HF := Aside0.mk hf; have HCAP := Aside0.mk (Kd.R_reads' hf).2.1; clear hcells hgf1 hgf2; have HL5 := Aside0.mk (blk_below HL3.out hb5); have H45 := Aside0.mk (blk_below H43.out hb5); have H25 := Aside0.mk (blk_below H23.out hb5); have HA5 := Aside0.mk (sqAll_below HA3.out hb5); have HB5 := Aside0.mk (below_step HB3.out hb5); have hc0 : w5.cell? ⟨gf, 0, none⟩ = some (.string ⟨#[73, 82, 81, 95, 80, 79, 76, 76, 58]⟩) := by { rw [← H0.out]; exact (Kd.R_cell ByteArray.empty HF.out 0 (by omega) (by have := HLEN.out; omega)).1 }; have hcut := cutSq gf fs.length cap l.length HLEN.out.symm HL1.out HCAP.out; have hmk := makeSq l.length HL2.out; have hk4 : ∀ o, (w5.alloc o).cell? ⟨g4, 5, none⟩ = some (.slice none 0 0) := fun o => (blk_cell (blk_alloc H45.out o) 5).trans (sq_at gs 5 HJ.out (by decide)); have hz4 : ∀ o, (w5.alloc o).frozen? ⟨g4, 5, none⟩ = false := fun o => blk_frozen (blk_alloc H45.out o) 5; clear hf hb5)))
     have M0 := Aside0.mk (show ((w5.alloc (.cells (madeCells #[.int .u64 0] l.length) 35)).setCell ⟨g4, 5, none⟩ (.slice (some ⟨w5.heap.size, 0, none⟩) l.length l.length)).heap[w5.heap.size]? = some (sqPart l 0) by rw [← sq_made]; exact blk_far (heap_alloc_new w5 _) (p := ⟨g4, 5, none⟩) (by have := blk_lt H45.out; show w5.heap.size ≠ g4; omega) _)
     have L0 := Aside0.mk (blk_far (blk_alloc HL5.out (.cells (madeCells #[.int .u64 0] l.length) 35)) (p := ⟨g4, 5, none⟩) (Ne.symm HGN4.out) (.slice (some ⟨w5.heap.size, 0, none⟩) l.length l.length))
     have S0 := Aside0.mk (blk_put (cs := sqArr gs) (cs' := sqArr (gs ++ [(w5.heap.size, l)])) (blk_alloc H45.out (.cells (madeCells #[.int .u64 0] l.length) 35)) 5 (.slice (some ⟨w5.heap.size, 0, none⟩) l.length l.length) (sq_set gs (w5.heap.size, l) 5 HJ.out (by decide)))
     have Z0 := Aside0.mk (blk_far (blk_alloc H25.out (.cells (madeCells #[.int .u64 0] l.length) 35)) (p := ⟨g4, 5, none⟩) HG24.out (.slice (some ⟨w5.heap.size, 0, none⟩) l.length l.length))
     have hA6 := sqAll_below HA5.out (below_alloc (Below.refl w5.heap.size w5) (.cells (madeCells #[.int .u64 0] l.length) 35))
     have A0 := Aside0.mk (sqAll_grown hA6 (grown_set _ g4 5 (.slice (some ⟨w5.heap.size, 0, none⟩) l.length l.length)) (sqAll_ne hA6 (blk_alloc H45.out (.cells (madeCells #[.int .u64 0] l.length) 35)) (by decide)))
     clear hA6
     have B0 := Aside0.mk (below_set (below_alloc HB5.out (.cells (madeCells #[.int .u64 0] l.length) 35)) HG4.out (j := 5) (v := .slice (some ⟨w5.heap.size, 0, none⟩) l.length l.length))
     have F0 : Aside0 (∀ i : Nat, i < l.length → ((w5.alloc (.cells (madeCells #[.int .u64 0] l.length) 35)).setCell ⟨g4, 5, none⟩ (.slice (some ⟨w5.heap.size, 0, none⟩) l.length l.length)).cell? ⟨gf, 1 + i, none⟩ = some (.string (rdOf ByteArray.empty fs ((i + 1 : Nat) : Int)))) := ⟨fun i hi => by
      have h1 := (Kd.R_cell ByteArray.empty (Kd.R_set (Kd.R_below HF.out (below_alloc (Below.refl w5.heap.size w5) (.cells (madeCells #[.int .u64 0] l.length) 35))) (blk_alloc H45.out _) (by decide) 5 (.slice (some ⟨w5.heap.size, 0, none⟩) l.length l.length)) ((i + 1 : Nat) : Int) (by omega) (by have := HLEN.out; omega)).1
      rw [show 1 + i = i + 1 from Nat.add_comm 1 i]
      exact h1⟩
     have G0 := Aside0.mk HB5.out.size
     have N0 := Aside0.mk (show g ≠ w5.heap.size ∧ g4 ≠ w5.heap.size ∧ g2 ≠ w5.heap.size ∧ gf ≠ w5.heap.size ∧ ∀ p ∈ gs, p.1 ≠ w5.heap.size from ⟨Nat.ne_of_lt (blk_lt HL5.out), Nat.ne_of_lt (blk_lt H45.out), Nat.ne_of_lt (blk_lt H25.out), Nat.ne_of_lt (Kd.R_lt HF.out gf rfl), fun p hp => Nat.ne_of_lt (blk_lt (HA5.out p hp).2)⟩)
     clear HL3 H43 H23 HA3 HB3 HL5 H45 H25 HA5 HB5 hc0 hcut hmk hk4 hz4 HF HCAP d2 d2' z0 z0'
     generalize hgm : w5.heap.size = gm at G0 N0 M0 L0 S0 Z0 A0 B0 F0 ⊢
     have HGM : Aside0 (w.heap.size ≤ gm) := G0
     clear G0
     generalize hW0 : (w5.alloc (.cells (madeCells #[.int .u64 0] l.length) 35)).setCell ⟨g4, 5, none⟩ (.slice (some ⟨gm, 0, none⟩) l.length l.length) = W0 at M0 L0 S0 Z0 A0 B0 F0 ⊢
     clear hW0 hgm
     go_loopg [213] l.length (fun kq vi w' => ∃ x : Int, vi = .int .i64 x ∧ Aside0 (0 ≤ x ∧ x + kq = l.length) ∧ Aside0 (w'.heap[gm]? = some (sqPart l x.toNat)) ∧ Aside0 (w'.heap[g]? = some (GL.linesCells (GL.restOf t) (GL.lineOf t))) ∧ Aside0 (w'.heap[g4]? = some (.cells (sqArr (gs ++ [(gm, l)])) 140 (0, 0))) ∧ Aside0 (w'.heap[g2]? = some (.cells sqZero 140 (0, 0))) ∧ Aside0 (sqAll w' w.heap.size gs) ∧ Aside0 (Below w.heap.size w w') ∧
      Aside0 (∀ i : Nat, i < l.length → w'.cell? ⟨gf, 1 + i, none⟩ = some (.string (rdOf ByteArray.empty fs ((i + 1 : Nat) : Int)))))
     case atStart => exact ⟨0, rfl, ⟨by omega, by omega⟩, M0, L0, S0, Z0, A0, B0, F0⟩
     case round =>
      clear M0 L0 S0 Z0 A0 B0 F0
      obtain ⟨x, rfl, HX, HM, HL5, H45, H25, HA5, HB5, HF⟩ := hrel
      by_cases hx : x < (l.length : Int)
      ·have d0 : decide (x < (l.length : Int)) = true := decide_eq_true hx
       have hxl : x.toNat < l.length := by have := HX.out; omega
       have hcx := HF.out x.toNat hxl
       have hpx := HPU.out x.toNat hxl
       generalize rdOf ByteArray.empty fs ((x.toNat + 1 : Nat) : Int) = s at hcx hpx
       have HPX := Aside0.mk hpx
       have q0 : (0 ≤ x) = True := eq_true HX.out.1
       have q1 : (x < (l.length : Int)) = True := eq_true hx
       clear hpx hx
       go_wp2
       have HMd := Aside0.mk (blk_drew HM.out)
       have HLd := Aside0.mk (blk_drew HL5.out)
       have H4d := Aside0.mk (blk_drew H45.out)
       have H2d := Aside0.mk (blk_drew H25.out)
       have HAd := Aside0.mk (show sqAll wr.drew w.heap.size gs from fun p hp => ⟨(HA5.out p hp).1, blk_drew (HA5.out p hp).2⟩)
       have HBd := Aside0.mk (below_drew1 HB5.out)
       have HFd : Aside0 (∀ i : Nat, i < l.length → wr.drew.cell? ⟨gf, 1 + i, none⟩ = some (.string (rdOf ByteArray.empty fs ((i + 1 : Nat) : Int)))) := ⟨fun i hi => HF.out i hi⟩
       clear HM HL5 H45 H25 HA5 HB5 HF hcx
       refine start_ (n := 11) (S := fun w' => w'.cell? ⟨g4, 5, none⟩ = some (.slice (some ⟨gm, 0, none⟩) l.length l.length)) (ds := []) (bb [0, 11]) (by kernel_rfl) rfl rfl ((blk_cell H4d.out 5).trans (sq_at2 gs (gm, l) 5 HJ.out)) (fun hHeld => ?_); refine with_tabW sqTab5 sqBits (fun HT_ HW_ => ?_)
       generalize wr.drew = w12 at HMd HLd H4d H2d HAd HBd HFd hHeld ⊢
       refine pure_ (i := 0) (N := some 219) (v := ?_) (a' := ?_) (bb [1, 10]) rfl rfl (any_of HT_.out (by kernel_rfl)) (fun _ _ _ h => h) (Or.inl ⟨by rfl, ?_⟩) ?_ ?_
       rotate_left
       ·intro w'
        go_simp
        with_reducible rfl
       rotate_left
       ·simp only [Act.put, List.setIfInBounds_toArray, List.set_cons_zero, List.set_cons_succ, i64_w, i32_w]
        rfl
       refine pure_ (i := 2) (N := some 221) (v := ?_) (a' := ?_) (bb [1, 1, 1, 8]) rfl rfl (any_of HT_.out (by kernel_rfl)) (fun _ _ _ h => h) (Or.inl ⟨by rfl, ?_⟩) ?_ ?_
       rotate_left
       ·intro w'
        go_simp
        with_reducible rfl
       rotate_left
       ·simp only [Act.put, List.setIfInBounds_toArray, List.set_cons_zero, List.set_cons_succ, i64_w, i32_w]
        rfl
       refine pure_ (i := 3) (N := some 222) (v := ?_) (a' := ?_) (bb [1, 1, 2, 7]) rfl rfl (any_of HT_.out (by kernel_rfl)) (fun _ _ _ h => h) (Or.inl ⟨by rfl, ?_⟩) ?_ ?_
       rotate_left
       ·intro w'
        go_simp
        with_reducible rfl
       rotate_left
       ·simp only [Act.put, List.setIfInBounds_toArray, List.set_cons_zero, List.set_cons_succ, i64_w, i32_w]
        rfl
       refine take_ (i := 1) (N := some 220) (v := ?_) (a' := ?_) (bb [4, 7]) rfl rfl (take_ofW HT_.out HW_.out (by kernel_rfl)) (fun _ _ _ h => h) (Or.inl ⟨by rfl, ?_⟩) hHeld ?_ ?_
       rotate_left
       ·rintro w' s0
        go_simp
        with_reducible rfl
       rotate_left
       ·simp only [Act.put, List.setIfInBounds_toArray, List.set_cons_zero, List.set_cons_succ, i64_w, i32_w]
        rfl
       refine one_ (i := 4) (N := some 223) (bb [5, 6]) rfl rfl (one_of HT_.out (by kernel_rfl)) (by decide) (fun K hK => ?_)
       refine goes_ Tryz.func158 (by kernel_rfl) rfl #[.string s, .int .i64 10, .int .i64 64] (by rfl) rfl rfl (by (try simp only [List.map_toArray, List.map_cons, List.map_nil]); first | done | rfl | (simp only [List.length_drop, List.length_take]; rfl)) ?_
       refine (puSq_call s _ _ HPX.out).mono ?_
       rintro e w13 ⟨rfl, hb⟩
       refine ⟨_, rfl, ?_⟩
       have HFe : Aside0 (∀ i : Nat, i < l.length → w13.cell? ⟨gf, 1 + i, none⟩ = some (.string (rdOf ByteArray.empty fs ((i + 1 : Nat) : Int)))) := ⟨fun i hi => pw_cell_below hb (HFd.out i hi)⟩
       have HMe := Aside0.mk (blk_below HMd.out hb)
       have HLe := Aside0.mk (blk_below HLd.out hb)
       have H4e := Aside0.mk (blk_below H4d.out hb)
       have H2e := Aside0.mk (blk_below H2d.out hb)
       have HAe := Aside0.mk (sqAll_below HAd.out hb)
       have HBe := Aside0.mk (below_step HBd.out hb)
       clear hb HMd HLd H4d H2d HAd HBd HFd
       refine hK.out _ _ ((blk_cell H4e.out 5).trans (sq_at2 gs (gm, l) 5 HJ.out)) (fun hHeld => ?_)
       clear hK K
       refine norm_ (a' := ?_) ?_ ?_
       rotate_left
       ·show Act.put _ (some 223) _ = _
        simp only [Act.put, List.setIfInBounds_toArray, List.set_cons_zero, List.set_cons_succ, i64_w, i32_w]
        rfl
       refine pure_ (i := 5) (N := some 218) (v := ?_) (a' := ?_) (bb [6, 5]) rfl rfl (any_of HT_.out (by kernel_rfl)) (fun _ _ _ h => h) (Or.inl ⟨by rfl, ?_⟩) ?_ ?_
       rotate_left
       ·intro w'
        go_simp
        with_reducible rfl
       rotate_left
       ·simp only [Act.put, List.setIfInBounds_toArray, List.set_cons_zero, List.set_cons_succ, i64_w, i32_w]
        rfl
       refine pure_ (i := 6) (N := some 224) (v := ?_) (a' := ?_) (bb [7, 4]) rfl rfl (any_of HT_.out (by kernel_rfl)) (fun _ _ _ h => h) (Or.inl ⟨by rfl, ?_⟩) ?_ ?_
       rotate_left
       ·intro w'
        go_simp
        with_reducible rfl
       rotate_left
       ·simp only [Act.put, List.setIfInBounds_toArray, List.set_cons_zero, List.set_cons_succ, i64_w, i32_w]
        rfl
       refine pure_ (i := 7) (N := some 225) (v := ?_) (a' := ?_) (bb [8, 3]) rfl rfl (any_of HT_.out (by kernel_rfl)) (fun _ _ _ h => h) (Or.inl ⟨by rfl, ?_⟩) ?_ ?_
       rotate_left
       ·intro w'
        go_simp
        with_reducible rfl
       rotate_left
       ·simp only [Act.put, List.setIfInBounds_toArray, List.set_cons_zero, List.set_cons_succ, i64_w, i32_w]
        rfl
       refine pure_ (i := 8) (N := some 226) (v := ?_) (a' := ?_) (bb [9, 2]) rfl rfl (any_of HT_.out (by kernel_rfl)) (fun _ _ _ h => h) (Or.inl ⟨by rfl, ?_⟩) ?_ ?_
       rotate_left
       ·intro w'
        go_simp
        with_reducible rfl
       rotate_left
       ·simp only [Act.put, List.setIfInBounds_toArray, List.set_cons_zero, List.set_cons_succ, i64_w, i32_w]
        rfl
       refine one_ (i := 9) (N := none) (bb [10, 1]) rfl rfl (one_of HT_.out (by kernel_rfl)) (by decide) (fun K hK => ?_)
       have hsx : w13.cell? ⟨gm, x.toNat, none⟩ = some (.int .u64 0) := (blk_cell HMe.out x.toNat).trans (part_at l x.toNat hxl)
       have hfx := blk_frozen HMe.out x.toNat
       refine skip_ (w1 := ?_) (by rfl) rfl ?_ ?_
       rotate_left
       ·go_simp
        rfl
       refine hK.out _ _ ((blk_cell (blk_far H4e.out (p := ⟨gm, x.toNat, none⟩) N0.out.2.1 (.int .u64 l[x.toNat])) 5).trans (sq_at2 gs (gm, l) 5 HJ.out)) (fun hHeld => ?_)
       clear hK K hsx hfx
       refine pure_ (i := 10) (N := some 7) (v := ?_) (a' := ?_) (bb [11]) rfl rfl (any_of HT_.out (by kernel_rfl)) (fun _ _ _ h => h) (Or.inl ⟨by rfl, ?_⟩) ?_ ?_
       rotate_left
       ·intro w'
        go_simp
        with_reducible rfl
       rotate_left
       ·simp only [Act.put, List.setIfInBounds_toArray, List.set_cons_zero, List.set_cons_succ, i64_w, i32_w]
        rfl
       refine done_ (done_of HT_.out (by kernel_rfl)) ?_
       have hw : IntKind.i64.wrap (x + 1) = x + 1 := by have := HX.out; have := HL2.out; rw [i64_w]; unfold wrap64; omega
       go_wp2
       go_roundg (gk - 1)
       case measure => have := HX.out; omega
       case rel =>
        exact ⟨x + 1, rfl, ⟨by have := HX.out; omega, by have := HX.out; omega⟩, ⟨by rw [show (x + 1).toNat = x.toNat + 1 by have := HX.out; omega]; exact blk_put HMe.out x.toNat _ (part_set l x.toNat hxl)⟩, ⟨blk_far HLe.out (p := ⟨gm, x.toNat, none⟩) N0.out.1 _⟩, ⟨blk_far H4e.out (p := ⟨gm, x.toNat, none⟩) N0.out.2.1 _⟩, ⟨blk_far H2e.out (p := ⟨gm, x.toNat, none⟩) N0.out.2.2.1 _⟩, ⟨sqAll_grown HAe.out (grown_set _ gm _ _) N0.out.2.2.2.2⟩, ⟨below_set HBe.out HGM.out⟩, ⟨fun i hi => (cell_far (a := ⟨gf, 1 + i, none⟩) (p := ⟨gm, x.toNat, none⟩) N0.out.2.2.2.1 _).trans (HFe.out i hi)⟩⟩
      ·have d0 : decide (x < (l.length : Int)) = false := decide_eq_false hx
       go_wp2
       go_roundg k1
       case measure => omega
       case rel =>
        have hxe : x.toNat = l.length := by have := HX.out; omega
        rw [hxe, sq_done] at HM
        exact ⟨GL.restOf t, GL.lineOf t, ms', gs ++ [(gm, l)], _, rfl, HMS, ⟨by have := HD.out.1; rw [HRE.out] at this; simp at this ⊢; omega, by have := HD.out.2.1; rw [HRE.out] at this; have h2 := congrArg List.tail this; simp only [Option.toList_some, List.singleton_append, List.map_cons, List.tail_cons] at h2; rw [h2, List.length_append, List.length_singleton, List.tail_drop], by have := HD.out.2.2; rw [HRE.out] at this; rw [← this]; simp⟩, HL5, H45, H25, ⟨fun p hp => by
         rcases List.mem_append.1 hp with hp | hp
         ·exact HA5.out p hp
         ·rw [List.mem_singleton.1 hp]; exact ⟨HGM.out, HM.out⟩⟩, HB5⟩
    ·as_aux_lemma =>
     have hnm2 : nm = ⟨#[84, 65, 83, 75, 76, 69, 84, 58]⟩ := by rw [hnm]; simp only [hj']; rfl
     subst hnm2
     have H0 := Aside0.mk h0
     have HJ := Aside0.mk hj'
     have d2 : decide ((fs.length : Int) < 2) = false := decide_eq_false (by have := HLEN.out; have := HL1.out; omega)
     have d2' : decide (fs.length < 2) = false := decide_eq_false (by have := HLEN.out; have := HL1.out; omega)
     have z0 : ((0 : Int) < (fs.length : Int)) = True := eq_true (by have := HLEN.out; omega)
     have z0' : (0 < fs.length) = True := eq_true (by have := HLEN.out; omega)
     clear hnm hj hj' h0
     go_wp2_with (first
      | (go_at_call 155; refine (GL.lines_scan g t line _ HL.out (by have := HT2.out; omega) (by have := HOK.out.1; omega) HOK.out.2.1 HOK.out.2.2).mono ?_; rintro e w3 ⟨rfl, hg3, hgr3⟩; have HL3 := Aside0.mk hg3; have H43 := Aside0.mk (blk_grown H4.out hgr3 (fun e => HGN4.out (by cases e; rfl))); have H23 := Aside0.mk (blk_grown H2.out hgr3 (fun e => HGN2.out (by cases e; rfl))); have HA3 := Aside0.mk (sqAll_grown HA.out hgr3 (sqAll_ne HA.out HL.out (by decide))); have HB3 := Aside0.mk (pw_below_grown HB.out (some g) HB.out.size hgr3 (fun k e => by cases e; exact HGL.out)); clear hg3 hgr3)
      | (go_at_call 157; refine (GL.lines_text g _ _ _ HL3.out).mono ?_; rintro e w3' ⟨rfl, rfl⟩)
      | (go_at_call 190; go_loud (refine (strings_Fields.calls (GL.lineOf t) fs _ (tabW_below HT.out HB3.out) HFS.out).mono ?_; rintro e w5 ⟨v0, rfl, hf, hb5⟩; obtain ⟨gf, cap, rfl, hgf1, hgf2, cells, hcells⟩ := Kd.R_form hf (by have := HLEN.out; omega); have HF := Aside0.mk hf; have HCAP := Aside0.mk (Kd.R_reads' hf).2.1; clear hcells hgf1 hgf2; have HL5 := Aside0.mk (blk_below HL3.out hb5); have H45 := Aside0.mk (blk_below H43.out hb5); have H25 := Aside0.mk (blk_below H23.out hb5); have HA5 := Aside0.mk (sqAll_below HA3.out hb5); have HB5 := Aside0.mk (below_step HB3.out hb5); have hc0 : w5.cell? ⟨gf, 0, none⟩ = some (.string ⟨#[84, 65, 83, 75, 76, 69, 84, 58]⟩) := by { rw [← H0.out]; exact (Kd.R_cell ByteArray.empty HF.out 0 (by omega) (by have := HLEN.out; omega)).1 }; have hcut := cutSq gf fs.length cap l.length HLEN.out.symm HL1.out HCAP.out; have hmk := makeSq l.length HL2.out; have hk4 : ∀ o, (w5.alloc o).cell? ⟨g4, 6, none⟩ = some (.slice none 0 0) := fun o => (blk_cell (blk_alloc H45.out o) 6).trans (sq_at gs 6 HJ.out (by decide)); have hz4 : ∀ o, (w5.alloc o).frozen? ⟨g4, 6, none⟩ = false := fun o => blk_frozen (blk_alloc H45.out o) 6; clear hf hb5)))
     have M0 := Aside0.mk (show ((w5.alloc (.cells (madeCells #[.int .u64 0] l.length) 35)).setCell ⟨g4, 6, none⟩ (.slice (some ⟨w5.heap.size, 0, none⟩) l.length l.length)).heap[w5.heap.size]? = some (sqPart l 0) by rw [← sq_made]; exact blk_far (heap_alloc_new w5 _) (p := ⟨g4, 6, none⟩) (by have := blk_lt H45.out; show w5.heap.size ≠ g4; omega) _)
     have L0 := Aside0.mk (blk_far (blk_alloc HL5.out (.cells (madeCells #[.int .u64 0] l.length) 35)) (p := ⟨g4, 6, none⟩) (Ne.symm HGN4.out) (.slice (some ⟨w5.heap.size, 0, none⟩) l.length l.length))
     have S0 := Aside0.mk (blk_put (cs := sqArr gs) (cs' := sqArr (gs ++ [(w5.heap.size, l)])) (blk_alloc H45.out (.cells (madeCells #[.int .u64 0] l.length) 35)) 6 (.slice (some ⟨w5.heap.size, 0, none⟩) l.length l.length) (sq_set gs (w5.heap.size, l) 6 HJ.out (by decide)))
     have Z0 := Aside0.mk (blk_far (blk_alloc H25.out (.cells (madeCells #[.int .u64 0] l.length) 35)) (p := ⟨g4, 6, none⟩) HG24.out (.slice (some ⟨w5.heap.size, 0, none⟩) l.length l.length))
     have hA6 := sqAll_below HA5.out (below_alloc (Below.refl w5.heap.size w5) (.cells (madeCells #[.int .u64 0] l.length) 35))
     have A0 := Aside0.mk (sqAll_grown hA6 (grown_set _ g4 6 (.slice (some ⟨w5.heap.size, 0, none⟩) l.length l.length)) (sqAll_ne hA6 (blk_alloc H45.out (.cells (madeCells #[.int .u64 0] l.length) 35)) (by decide)))
     clear hA6
     have B0 := Aside0.mk (below_set (below_alloc HB5.out (.cells (madeCells #[.int .u64 0] l.length) 35)) HG4.out (j := 6) (v := .slice (some ⟨w5.heap.size, 0, none⟩) l.length l.length))
     have F0 : Aside0 (∀ i : Nat, i < l.length → ((w5.alloc (.cells (madeCells #[.int .u64 0] l.length) 35)).setCell ⟨g4, 6, none⟩ (.slice (some ⟨w5.heap.size, 0, none⟩) l.length l.length)).cell? ⟨gf, 1 + i, none⟩ = some (.string (rdOf ByteArray.empty fs ((i + 1 : Nat) : Int)))) := ⟨fun i hi => by
      have h1 := (Kd.R_cell ByteArray.empty (Kd.R_set (Kd.R_below HF.out (below_alloc (Below.refl w5.heap.size w5) (.cells (madeCells #[.int .u64 0] l.length) 35))) (blk_alloc H45.out _) (by decide) 6 (.slice (some ⟨w5.heap.size, 0, none⟩) l.length l.length)) ((i + 1 : Nat) : Int) (by omega) (by have := HLEN.out; omega)).1
      rw [show 1 + i = i + 1 from Nat.add_comm 1 i]
      exact h1⟩
     have G0 := Aside0.mk HB5.out.size
     have N0 := Aside0.mk (show g ≠ w5.heap.size ∧ g4 ≠ w5.heap.size ∧ g2 ≠ w5.heap.size ∧ gf ≠ w5.heap.size ∧ ∀ p ∈ gs, p.1 ≠ w5.heap.size from ⟨Nat.ne_of_lt (blk_lt HL5.out), Nat.ne_of_lt (blk_lt H45.out), Nat.ne_of_lt (blk_lt H25.out), Nat.ne_of_lt (Kd.R_lt HF.out gf rfl), fun p hp => Nat.ne_of_lt (blk_lt (HA5.out p hp).2)⟩)
     clear HL3 H43 H23 HA3 HB3 HL5 H45 H25 HA5 HB5 hc0 hcut hmk hk4 hz4 HF HCAP d2 d2' z0 z0'
     generalize hgm : w5.heap.size = gm at G0 N0 M0 L0 S0 Z0 A0 B0 F0 ⊢
     have HGM : Aside0 (w.heap.size ≤ gm) := G0
     clear G0
     generalize hW0 : (w5.alloc (.cells (madeCells #[.int .u64 0] l.length) 35)).setCell ⟨g4, 6, none⟩ (.slice (some ⟨gm, 0, none⟩) l.length l.length) = W0 at M0 L0 S0 Z0 A0 B0 F0 ⊢
     clear hW0 hgm
     go_loopg [242] l.length (fun kq vi w' => ∃ x : Int, vi = .int .i64 x ∧ Aside0 (0 ≤ x ∧ x + kq = l.length) ∧ Aside0 (w'.heap[gm]? = some (sqPart l x.toNat)) ∧ Aside0 (w'.heap[g]? = some (GL.linesCells (GL.restOf t) (GL.lineOf t))) ∧ Aside0 (w'.heap[g4]? = some (.cells (sqArr (gs ++ [(gm, l)])) 140 (0, 0))) ∧ Aside0 (w'.heap[g2]? = some (.cells sqZero 140 (0, 0))) ∧ Aside0 (sqAll w' w.heap.size gs) ∧ Aside0 (Below w.heap.size w w') ∧
      Aside0 (∀ i : Nat, i < l.length → w'.cell? ⟨gf, 1 + i, none⟩ = some (.string (rdOf ByteArray.empty fs ((i + 1 : Nat) : Int)))))
     case atStart => exact ⟨0, rfl, ⟨by omega, by omega⟩, M0, L0, S0, Z0, A0, B0, F0⟩
     case round =>
      clear M0 L0 S0 Z0 A0 B0 F0
      obtain ⟨x, rfl, HX, HM, HL5, H45, H25, HA5, HB5, HF⟩ := hrel
      by_cases hx : x < (l.length : Int)
      ·have d0 : decide (x < (l.length : Int)) = true := decide_eq_true hx
       have hxl : x.toNat < l.length := by have := HX.out; omega
       have hcx := HF.out x.toNat hxl
       have hpx := HPU.out x.toNat hxl
       generalize rdOf ByteArray.empty fs ((x.toNat + 1 : Nat) : Int) = s at hcx hpx
       have HPX := Aside0.mk hpx
       have q0 : (0 ≤ x) = True := eq_true HX.out.1
       have q1 : (x < (l.length : Int)) = True := eq_true hx
       clear hpx hx
       go_wp2
       have HMd := Aside0.mk (blk_drew HM.out)
       have HLd := Aside0.mk (blk_drew HL5.out)
       have H4d := Aside0.mk (blk_drew H45.out)
       have H2d := Aside0.mk (blk_drew H25.out)
       have HAd := Aside0.mk (show sqAll wr.drew w.heap.size gs from fun p hp => ⟨(HA5.out p hp).1, blk_drew (HA5.out p hp).2⟩)
       have HBd := Aside0.mk (below_drew1 HB5.out)
       have HFd : Aside0 (∀ i : Nat, i < l.length → wr.drew.cell? ⟨gf, 1 + i, none⟩ = some (.string (rdOf ByteArray.empty fs ((i + 1 : Nat) : Int)))) := ⟨fun i hi => HF.out i hi⟩
       clear HM HL5 H45 H25 HA5 HB5 HF hcx
       refine start_ (n := 11) (S := fun w' => w'.cell? ⟨g4, 6, none⟩ = some (.slice (some ⟨gm, 0, none⟩) l.length l.length)) (ds := []) (bb [0, 11]) (by kernel_rfl) rfl rfl ((blk_cell H4d.out 6).trans (sq_at2 gs (gm, l) 6 HJ.out)) (fun hHeld => ?_); refine with_tabW sqTab6 sqBits (fun HT_ HW_ => ?_)
       generalize wr.drew = w12 at HMd HLd H4d H2d HAd HBd HFd hHeld ⊢
       refine pure_ (i := 0) (N := some 248) (v := ?_) (a' := ?_) (bb [1, 10]) rfl rfl (any_of HT_.out (by kernel_rfl)) (fun _ _ _ h => h) (Or.inl ⟨by rfl, ?_⟩) ?_ ?_
       rotate_left
       ·intro w'
        go_simp
        with_reducible rfl
       rotate_left
       ·simp only [Act.put, List.setIfInBounds_toArray, List.set_cons_zero, List.set_cons_succ, i64_w, i32_w]
        rfl
       refine pure_ (i := 2) (N := some 250) (v := ?_) (a' := ?_) (bb [1, 1, 1, 8]) rfl rfl (any_of HT_.out (by kernel_rfl)) (fun _ _ _ h => h) (Or.inl ⟨by rfl, ?_⟩) ?_ ?_
       rotate_left
       ·intro w'
        go_simp
        with_reducible rfl
       rotate_left
       ·simp only [Act.put, List.setIfInBounds_toArray, List.set_cons_zero, List.set_cons_succ, i64_w, i32_w]
        rfl
       refine pure_ (i := 3) (N := some 251) (v := ?_) (a' := ?_) (bb [1, 1, 2, 7]) rfl rfl (any_of HT_.out (by kernel_rfl)) (fun _ _ _ h => h) (Or.inl ⟨by rfl, ?_⟩) ?_ ?_
       rotate_left
       ·intro w'
        go_simp
        with_reducible rfl
       rotate_left
       ·simp only [Act.put, List.setIfInBounds_toArray, List.set_cons_zero, List.set_cons_succ, i64_w, i32_w]
        rfl
       refine take_ (i := 1) (N := some 249) (v := ?_) (a' := ?_) (bb [4, 7]) rfl rfl (take_ofW HT_.out HW_.out (by kernel_rfl)) (fun _ _ _ h => h) (Or.inl ⟨by rfl, ?_⟩) hHeld ?_ ?_
       rotate_left
       ·rintro w' s0
        go_simp
        with_reducible rfl
       rotate_left
       ·simp only [Act.put, List.setIfInBounds_toArray, List.set_cons_zero, List.set_cons_succ, i64_w, i32_w]
        rfl
       refine one_ (i := 4) (N := some 252) (bb [5, 6]) rfl rfl (one_of HT_.out (by kernel_rfl)) (by decide) (fun K hK => ?_)
       refine goes_ Tryz.func158 (by kernel_rfl) rfl #[.string s, .int .i64 10, .int .i64 64] (by rfl) rfl rfl (by (try simp only [List.map_toArray, List.map_cons, List.map_nil]); first | done | rfl | (simp only [List.length_drop, List.length_take]; rfl)) ?_
       refine (puSq_call s _ _ HPX.out).mono ?_
       rintro e w13 ⟨rfl, hb⟩
       refine ⟨_, rfl, ?_⟩
       have HFe : Aside0 (∀ i : Nat, i < l.length → w13.cell? ⟨gf, 1 + i, none⟩ = some (.string (rdOf ByteArray.empty fs ((i + 1 : Nat) : Int)))) := ⟨fun i hi => pw_cell_below hb (HFd.out i hi)⟩
       have HMe := Aside0.mk (blk_below HMd.out hb)
       have HLe := Aside0.mk (blk_below HLd.out hb)
       have H4e := Aside0.mk (blk_below H4d.out hb)
       have H2e := Aside0.mk (blk_below H2d.out hb)
       have HAe := Aside0.mk (sqAll_below HAd.out hb)
       have HBe := Aside0.mk (below_step HBd.out hb)
       clear hb HMd HLd H4d H2d HAd HBd HFd
       refine hK.out _ _ ((blk_cell H4e.out 6).trans (sq_at2 gs (gm, l) 6 HJ.out)) (fun hHeld => ?_)
       clear hK K
       refine norm_ (a' := ?_) ?_ ?_
       rotate_left
       ·show Act.put _ (some 252) _ = _
        simp only [Act.put, List.setIfInBounds_toArray, List.set_cons_zero, List.set_cons_succ, i64_w, i32_w]
        rfl
       refine pure_ (i := 5) (N := some 247) (v := ?_) (a' := ?_) (bb [6, 5]) rfl rfl (any_of HT_.out (by kernel_rfl)) (fun _ _ _ h => h) (Or.inl ⟨by rfl, ?_⟩) ?_ ?_
       rotate_left
       ·intro w'
        go_simp
        with_reducible rfl
       rotate_left
       ·simp only [Act.put, List.setIfInBounds_toArray, List.set_cons_zero, List.set_cons_succ, i64_w, i32_w]
        rfl
       refine pure_ (i := 6) (N := some 253) (v := ?_) (a' := ?_) (bb [7, 4]) rfl rfl (any_of HT_.out (by kernel_rfl)) (fun _ _ _ h => h) (Or.inl ⟨by rfl, ?_⟩) ?_ ?_
       rotate_left
       ·intro w'
        go_simp
        with_reducible rfl
       rotate_left
       ·simp only [Act.put, List.setIfInBounds_toArray, List.set_cons_zero, List.set_cons_succ, i64_w, i32_w]
        rfl
       refine pure_ (i := 7) (N := some 254) (v := ?_) (a' := ?_) (bb [8, 3]) rfl rfl (any_of HT_.out (by kernel_rfl)) (fun _ _ _ h => h) (Or.inl ⟨by rfl, ?_⟩) ?_ ?_
       rotate_left
       ·intro w'
        go_simp
        with_reducible rfl
       rotate_left
       ·simp only [Act.put, List.setIfInBounds_toArray, List.set_cons_zero, List.set_cons_succ, i64_w, i32_w]
        rfl
       refine pure_ (i := 8) (N := some 255) (v := ?_) (a' := ?_) (bb [9, 2]) rfl rfl (any_of HT_.out (by kernel_rfl)) (fun _ _ _ h => h) (Or.inl ⟨by rfl, ?_⟩) ?_ ?_
       rotate_left
       ·intro w'
        go_simp
        with_reducible rfl
       rotate_left
       ·simp only [Act.put, List.setIfInBounds_toArray, List.set_cons_zero, List.set_cons_succ, i64_w, i32_w]
        rfl
       refine one_ (i := 9) (N := none) (bb [10, 1]) rfl rfl (one_of HT_.out (by kernel_rfl)) (by decide) (fun K hK => ?_)
       have hsx : w13.cell? ⟨gm, x.toNat, none⟩ = some (.int .u64 0) := (blk_cell HMe.out x.toNat).trans (part_at l x.toNat hxl)
       have hfx := blk_frozen HMe.out x.toNat
       refine skip_ (w1 := ?_) (by rfl) rfl ?_ ?_
       rotate_left
       ·go_simp
        rfl
       refine hK.out _ _ ((blk_cell (blk_far H4e.out (p := ⟨gm, x.toNat, none⟩) N0.out.2.1 (.int .u64 l[x.toNat])) 6).trans (sq_at2 gs (gm, l) 6 HJ.out)) (fun hHeld => ?_)
       clear hK K hsx hfx
       refine pure_ (i := 10) (N := some 7) (v := ?_) (a' := ?_) (bb [11]) rfl rfl (any_of HT_.out (by kernel_rfl)) (fun _ _ _ h => h) (Or.inl ⟨by rfl, ?_⟩) ?_ ?_
       rotate_left
       ·intro w'
        go_simp
        with_reducible rfl
       rotate_left
       ·simp only [Act.put, List.setIfInBounds_toArray, List.set_cons_zero, List.set_cons_succ, i64_w, i32_w]
        rfl
       refine done_ (done_of HT_.out (by kernel_rfl)) ?_
       have hw : IntKind.i64.wrap (x + 1) = x + 1 := by have := HX.out; have := HL2.out; rw [i64_w]; unfold wrap64; omega
       go_wp2
       go_roundg (gk - 1)
       case measure => have := HX.out; omega
       case rel =>
        exact ⟨x + 1, rfl, ⟨by have := HX.out; omega, by have := HX.out; omega⟩, ⟨by rw [show (x + 1).toNat = x.toNat + 1 by have := HX.out; omega]; exact blk_put HMe.out x.toNat _ (part_set l x.toNat hxl)⟩, ⟨blk_far HLe.out (p := ⟨gm, x.toNat, none⟩) N0.out.1 _⟩, ⟨blk_far H4e.out (p := ⟨gm, x.toNat, none⟩) N0.out.2.1 _⟩, ⟨blk_far H2e.out (p := ⟨gm, x.toNat, none⟩) N0.out.2.2.1 _⟩, ⟨sqAll_grown HAe.out (grown_set _ gm _ _) N0.out.2.2.2.2⟩, ⟨below_set HBe.out HGM.out⟩, ⟨fun i hi => (cell_far (a := ⟨gf, 1 + i, none⟩) (p := ⟨gm, x.toNat, none⟩) N0.out.2.2.2.1 _).trans (HFe.out i hi)⟩⟩
      ·have d0 : decide (x < (l.length : Int)) = false := decide_eq_false hx
       go_wp2
       go_roundg k1
       case measure => omega
       case rel =>
        have hxe : x.toNat = l.length := by have := HX.out; omega
        rw [hxe, sq_done] at HM
        exact ⟨GL.restOf t, GL.lineOf t, ms', gs ++ [(gm, l)], _, rfl, HMS, ⟨by have := HD.out.1; rw [HRE.out] at this; simp at this ⊢; omega, by have := HD.out.2.1; rw [HRE.out] at this; have h2 := congrArg List.tail this; simp only [Option.toList_some, List.singleton_append, List.map_cons, List.tail_cons] at h2; rw [h2, List.length_append, List.length_singleton, List.tail_drop], by have := HD.out.2.2; rw [HRE.out] at this; rw [← this]; simp⟩, HL5, H45, H25, ⟨fun p hp => by
         rcases List.mem_append.1 hp with hp | hp
         ·exact HA5.out p hp
         ·rw [List.mem_singleton.1 hp]; exact ⟨HGM.out, HM.out⟩⟩, HB5⟩
    ·as_aux_lemma =>
     have hnm2 : nm = ⟨#[83, 67, 72, 69, 68, 58]⟩ := by rw [hnm]; simp only [hj']; rfl
     subst hnm2
     have H0 := Aside0.mk h0
     have HJ := Aside0.mk hj'
     have d2 : decide ((fs.length : Int) < 2) = false := decide_eq_false (by have := HLEN.out; have := HL1.out; omega)
     have d2' : decide (fs.length < 2) = false := decide_eq_false (by have := HLEN.out; have := HL1.out; omega)
     have z0 : ((0 : Int) < (fs.length : Int)) = True := eq_true (by have := HLEN.out; omega)
     have z0' : (0 < fs.length) = True := eq_true (by have := HLEN.out; omega)
     clear hnm hj hj' h0
     go_wp2_with (first
      | (go_at_call 155; refine (GL.lines_scan g t line _ HL.out (by have := HT2.out; omega) (by have := HOK.out.1; omega) HOK.out.2.1 HOK.out.2.2).mono ?_; rintro e w3 ⟨rfl, hg3, hgr3⟩; have HL3 := Aside0.mk hg3; have H43 := Aside0.mk (blk_grown H4.out hgr3 (fun e => HGN4.out (by cases e; rfl))); have H23 := Aside0.mk (blk_grown H2.out hgr3 (fun e => HGN2.out (by cases e; rfl))); have HA3 := Aside0.mk (sqAll_grown HA.out hgr3 (sqAll_ne HA.out HL.out (by decide))); have HB3 := Aside0.mk (pw_below_grown HB.out (some g) HB.out.size hgr3 (fun k e => by cases e; exact HGL.out)); clear hg3 hgr3)
      | (go_at_call 157; refine (GL.lines_text g _ _ _ HL3.out).mono ?_; rintro e w3' ⟨rfl, rfl⟩)
      | (go_at_call 190; go_loud (refine (strings_Fields.calls (GL.lineOf t) fs _ (tabW_below HT.out HB3.out) HFS.out).mono ?_; rintro e w5 ⟨v0, rfl, hf, hb5⟩; obtain ⟨gf, cap, rfl, hgf1, hgf2, cells, hcells⟩ := Kd.R_form hf (by have := HLEN.out; omega); have HF := Aside0.mk hf; have HCAP := Aside0.mk (Kd.R_reads' hf).2.1; clear hcells hgf1 hgf2; have HL5 := Aside0.mk (blk_below HL3.out hb5); have H45 := Aside0.mk (blk_below H43.out hb5); have H25 := Aside0.mk (blk_below H23.out hb5); have HA5 := Aside0.mk (sqAll_below HA3.out hb5); have HB5 := Aside0.mk (below_step HB3.out hb5); have hc0 : w5.cell? ⟨gf, 0, none⟩ = some (.string ⟨#[83, 67, 72, 69, 68, 58]⟩) := by { rw [← H0.out]; exact (Kd.R_cell ByteArray.empty HF.out 0 (by omega) (by have := HLEN.out; omega)).1 }; have hcut := cutSq gf fs.length cap l.length HLEN.out.symm HL1.out HCAP.out; have hmk := makeSq l.length HL2.out; have hk4 : ∀ o, (w5.alloc o).cell? ⟨g4, 7, none⟩ = some (.slice none 0 0) := fun o => (blk_cell (blk_alloc H45.out o) 7).trans (sq_at gs 7 HJ.out (by decide)); have hz4 : ∀ o, (w5.alloc o).frozen? ⟨g4, 7, none⟩ = false := fun o => blk_frozen (blk_alloc H45.out o) 7; clear hf hb5)))
     have M0 := Aside0.mk (show ((w5.alloc (.cells (madeCells #[.int .u64 0] l.length) 35)).setCell ⟨g4, 7, none⟩ (.slice (some ⟨w5.heap.size, 0, none⟩) l.length l.length)).heap[w5.heap.size]? = some (sqPart l 0) by rw [← sq_made]; exact blk_far (heap_alloc_new w5 _) (p := ⟨g4, 7, none⟩) (by have := blk_lt H45.out; show w5.heap.size ≠ g4; omega) _)
     have L0 := Aside0.mk (blk_far (blk_alloc HL5.out (.cells (madeCells #[.int .u64 0] l.length) 35)) (p := ⟨g4, 7, none⟩) (Ne.symm HGN4.out) (.slice (some ⟨w5.heap.size, 0, none⟩) l.length l.length))
     have S0 := Aside0.mk (blk_put (cs := sqArr gs) (cs' := sqArr (gs ++ [(w5.heap.size, l)])) (blk_alloc H45.out (.cells (madeCells #[.int .u64 0] l.length) 35)) 7 (.slice (some ⟨w5.heap.size, 0, none⟩) l.length l.length) (sq_set gs (w5.heap.size, l) 7 HJ.out (by decide)))
     have Z0 := Aside0.mk (blk_far (blk_alloc H25.out (.cells (madeCells #[.int .u64 0] l.length) 35)) (p := ⟨g4, 7, none⟩) HG24.out (.slice (some ⟨w5.heap.size, 0, none⟩) l.length l.length))
     have hA6 := sqAll_below HA5.out (below_alloc (Below.refl w5.heap.size w5) (.cells (madeCells #[.int .u64 0] l.length) 35))
     have A0 := Aside0.mk (sqAll_grown hA6 (grown_set _ g4 7 (.slice (some ⟨w5.heap.size, 0, none⟩) l.length l.length)) (sqAll_ne hA6 (blk_alloc H45.out (.cells (madeCells #[.int .u64 0] l.length) 35)) (by decide)))
     clear hA6
     have B0 := Aside0.mk (below_set (below_alloc HB5.out (.cells (madeCells #[.int .u64 0] l.length) 35)) HG4.out (j := 7) (v := .slice (some ⟨w5.heap.size, 0, none⟩) l.length l.length))
     have F0 : Aside0 (∀ i : Nat, i < l.length → ((w5.alloc (.cells (madeCells #[.int .u64 0] l.length) 35)).setCell ⟨g4, 7, none⟩ (.slice (some ⟨w5.heap.size, 0, none⟩) l.length l.length)).cell? ⟨gf, 1 + i, none⟩ = some (.string (rdOf ByteArray.empty fs ((i + 1 : Nat) : Int)))) := ⟨fun i hi => by
      have h1 := (Kd.R_cell ByteArray.empty (Kd.R_set (Kd.R_below HF.out (below_alloc (Below.refl w5.heap.size w5) (.cells (madeCells #[.int .u64 0] l.length) 35))) (blk_alloc H45.out _) (by decide) 7 (.slice (some ⟨w5.heap.size, 0, none⟩) l.length l.length)) ((i + 1 : Nat) : Int) (by omega) (by have := HLEN.out; omega)).1
      rw [show 1 + i = i + 1 from Nat.add_comm 1 i]
      exact h1⟩
     have G0 := Aside0.mk HB5.out.size
     have N0 := Aside0.mk (show g ≠ w5.heap.size ∧ g4 ≠ w5.heap.size ∧ g2 ≠ w5.heap.size ∧ gf ≠ w5.heap.size ∧ ∀ p ∈ gs, p.1 ≠ w5.heap.size from ⟨Nat.ne_of_lt (blk_lt HL5.out), Nat.ne_of_lt (blk_lt H45.out), Nat.ne_of_lt (blk_lt H25.out), Nat.ne_of_lt (Kd.R_lt HF.out gf rfl), fun p hp => Nat.ne_of_lt (blk_lt (HA5.out p hp).2)⟩)
     clear HL3 H43 H23 HA3 HB3 HL5 H45 H25 HA5 HB5 hc0 hcut hmk hk4 hz4 HF HCAP d2 d2' z0 z0'
     generalize hgm : w5.heap.size = gm at G0 N0 M0 L0 S0 Z0 A0 B0 F0 ⊢
     have HGM : Aside0 (w.heap.size ≤ gm) := G0
     clear G0
     generalize hW0 : (w5.alloc (.cells (madeCells #[.int .u64 0] l.length) 35)).setCell ⟨g4, 7, none⟩ (.slice (some ⟨gm, 0, none⟩) l.length l.length) = W0 at M0 L0 S0 Z0 A0 B0 F0 ⊢
     clear hW0 hgm
     go_loopg [271] l.length (fun kq vi w' => ∃ x : Int, vi = .int .i64 x ∧ Aside0 (0 ≤ x ∧ x + kq = l.length) ∧ Aside0 (w'.heap[gm]? = some (sqPart l x.toNat)) ∧ Aside0 (w'.heap[g]? = some (GL.linesCells (GL.restOf t) (GL.lineOf t))) ∧ Aside0 (w'.heap[g4]? = some (.cells (sqArr (gs ++ [(gm, l)])) 140 (0, 0))) ∧ Aside0 (w'.heap[g2]? = some (.cells sqZero 140 (0, 0))) ∧ Aside0 (sqAll w' w.heap.size gs) ∧ Aside0 (Below w.heap.size w w') ∧
      Aside0 (∀ i : Nat, i < l.length → w'.cell? ⟨gf, 1 + i, none⟩ = some (.string (rdOf ByteArray.empty fs ((i + 1 : Nat) : Int)))))
     case atStart => exact ⟨0, rfl, ⟨by omega, by omega⟩, M0, L0, S0, Z0, A0, B0, F0⟩
     case round =>
      clear M0 L0 S0 Z0 A0 B0 F0
      obtain ⟨x, rfl, HX, HM, HL5, H45, H25, HA5, HB5, HF⟩ := hrel
      by_cases hx : x < (l.length : Int)
      ·have d0 : decide (x < (l.length : Int)) = true := decide_eq_true hx
       have hxl : x.toNat < l.length := by have := HX.out; omega
       have hcx := HF.out x.toNat hxl
       have hpx := HPU.out x.toNat hxl
       generalize rdOf ByteArray.empty fs ((x.toNat + 1 : Nat) : Int) = s at hcx hpx
       have HPX := Aside0.mk hpx
       have q0 : (0 ≤ x) = True := eq_true HX.out.1
       have q1 : (x < (l.length : Int)) = True := eq_true hx
       clear hpx hx
       go_wp2
       have HMd := Aside0.mk (blk_drew HM.out)
       have HLd := Aside0.mk (blk_drew HL5.out)
       have H4d := Aside0.mk (blk_drew H45.out)
       have H2d := Aside0.mk (blk_drew H25.out)
       have HAd := Aside0.mk (show sqAll wr.drew w.heap.size gs from fun p hp => ⟨(HA5.out p hp).1, blk_drew (HA5.out p hp).2⟩)
       have HBd := Aside0.mk (below_drew1 HB5.out)
       have HFd : Aside0 (∀ i : Nat, i < l.length → wr.drew.cell? ⟨gf, 1 + i, none⟩ = some (.string (rdOf ByteArray.empty fs ((i + 1 : Nat) : Int)))) := ⟨fun i hi => HF.out i hi⟩
       clear HM HL5 H45 H25 HA5 HB5 HF hcx
       refine start_ (n := 11) (S := fun w' => w'.cell? ⟨g4, 7, none⟩ = some (.slice (some ⟨gm, 0, none⟩) l.length l.length)) (ds := []) (bb [0, 11]) (by kernel_rfl) rfl rfl ((blk_cell H4d.out 7).trans (sq_at2 gs (gm, l) 7 HJ.out)) (fun hHeld => ?_); refine with_tabW sqTab7 sqBits (fun HT_ HW_ => ?_)
       generalize wr.drew = w12 at HMd HLd H4d H2d HAd HBd HFd hHeld ⊢
       refine pure_ (i := 0) (N := some 277) (v := ?_) (a' := ?_) (bb [1, 10]) rfl rfl (any_of HT_.out (by kernel_rfl)) (fun _ _ _ h => h) (Or.inl ⟨by rfl, ?_⟩) ?_ ?_
       rotate_left
       ·intro w'
        go_simp
        with_reducible rfl
       rotate_left
       ·simp only [Act.put, List.setIfInBounds_toArray, List.set_cons_zero, List.set_cons_succ, i64_w, i32_w]
        rfl
       refine pure_ (i := 2) (N := some 279) (v := ?_) (a' := ?_) (bb [1, 1, 1, 8]) rfl rfl (any_of HT_.out (by kernel_rfl)) (fun _ _ _ h => h) (Or.inl ⟨by rfl, ?_⟩) ?_ ?_
       rotate_left
       ·intro w'
        go_simp
        with_reducible rfl
       rotate_left
       ·simp only [Act.put, List.setIfInBounds_toArray, List.set_cons_zero, List.set_cons_succ, i64_w, i32_w]
        rfl
       refine pure_ (i := 3) (N := some 280) (v := ?_) (a' := ?_) (bb [1, 1, 2, 7]) rfl rfl (any_of HT_.out (by kernel_rfl)) (fun _ _ _ h => h) (Or.inl ⟨by rfl, ?_⟩) ?_ ?_
       rotate_left
       ·intro w'
        go_simp
        with_reducible rfl
       rotate_left
       ·simp only [Act.put, List.setIfInBounds_toArray, List.set_cons_zero, List.set_cons_succ, i64_w, i32_w]
        rfl
       refine take_ (i := 1) (N := some 278) (v := ?_) (a' := ?_) (bb [4, 7]) rfl rfl (take_ofW HT_.out HW_.out (by kernel_rfl)) (fun _ _ _ h => h) (Or.inl ⟨by rfl, ?_⟩) hHeld ?_ ?_
       rotate_left
       ·rintro w' s0
        go_simp
        with_reducible rfl
       rotate_left
       ·simp only [Act.put, List.setIfInBounds_toArray, List.set_cons_zero, List.set_cons_succ, i64_w, i32_w]
        rfl
       refine one_ (i := 4) (N := some 281) (bb [5, 6]) rfl rfl (one_of HT_.out (by kernel_rfl)) (by decide) (fun K hK => ?_)
       refine goes_ Tryz.func158 (by kernel_rfl) rfl #[.string s, .int .i64 10, .int .i64 64] (by rfl) rfl rfl (by (try simp only [List.map_toArray, List.map_cons, List.map_nil]); first | done | rfl | (simp only [List.length_drop, List.length_take]; rfl)) ?_
       refine (puSq_call s _ _ HPX.out).mono ?_
       rintro e w13 ⟨rfl, hb⟩
       refine ⟨_, rfl, ?_⟩
       have HFe : Aside0 (∀ i : Nat, i < l.length → w13.cell? ⟨gf, 1 + i, none⟩ = some (.string (rdOf ByteArray.empty fs ((i + 1 : Nat) : Int)))) := ⟨fun i hi => pw_cell_below hb (HFd.out i hi)⟩
       have HMe := Aside0.mk (blk_below HMd.out hb)
       have HLe := Aside0.mk (blk_below HLd.out hb)
       have H4e := Aside0.mk (blk_below H4d.out hb)
       have H2e := Aside0.mk (blk_below H2d.out hb)
       have HAe := Aside0.mk (sqAll_below HAd.out hb)
       have HBe := Aside0.mk (below_step HBd.out hb)
       clear hb HMd HLd H4d H2d HAd HBd HFd
       refine hK.out _ _ ((blk_cell H4e.out 7).trans (sq_at2 gs (gm, l) 7 HJ.out)) (fun hHeld => ?_)
       clear hK K
       refine norm_ (a' := ?_) ?_ ?_
       rotate_left
       ·show Act.put _ (some 281) _ = _
        simp only [Act.put, List.setIfInBounds_toArray, List.set_cons_zero, List.set_cons_succ, i64_w, i32_w]
        rfl
       refine pure_ (i := 5) (N := some 276) (v := ?_) (a' := ?_) (bb [6, 5]) rfl rfl (any_of HT_.out (by kernel_rfl)) (fun _ _ _ h => h) (Or.inl ⟨by rfl, ?_⟩) ?_ ?_
       rotate_left
       ·intro w'
        go_simp
        with_reducible rfl
       rotate_left
       ·simp only [Act.put, List.setIfInBounds_toArray, List.set_cons_zero, List.set_cons_succ, i64_w, i32_w]
        rfl
       refine pure_ (i := 6) (N := some 282) (v := ?_) (a' := ?_) (bb [7, 4]) rfl rfl (any_of HT_.out (by kernel_rfl)) (fun _ _ _ h => h) (Or.inl ⟨by rfl, ?_⟩) ?_ ?_
       rotate_left
       ·intro w'
        go_simp
        with_reducible rfl
       rotate_left
       ·simp only [Act.put, List.setIfInBounds_toArray, List.set_cons_zero, List.set_cons_succ, i64_w, i32_w]
        rfl
       refine pure_ (i := 7) (N := some 283) (v := ?_) (a' := ?_) (bb [8, 3]) rfl rfl (any_of HT_.out (by kernel_rfl)) (fun _ _ _ h => h) (Or.inl ⟨by rfl, ?_⟩) ?_ ?_
       rotate_left
       ·intro w'
        go_simp
        with_reducible rfl
       rotate_left
       ·simp only [Act.put, List.setIfInBounds_toArray, List.set_cons_zero, List.set_cons_succ, i64_w, i32_w]
        rfl
       refine pure_ (i := 8) (N := some 284) (v := ?_) (a' := ?_) (bb [9, 2]) rfl rfl (any_of HT_.out (by kernel_rfl)) (fun _ _ _ h => h) (Or.inl ⟨by rfl, ?_⟩) ?_ ?_
       rotate_left
       ·intro w'
        go_simp
        with_reducible rfl
       rotate_left
       ·simp only [Act.put, List.setIfInBounds_toArray, List.set_cons_zero, List.set_cons_succ, i64_w, i32_w]
        rfl
       refine one_ (i := 9) (N := none) (bb [10, 1]) rfl rfl (one_of HT_.out (by kernel_rfl)) (by decide) (fun K hK => ?_)
       have hsx : w13.cell? ⟨gm, x.toNat, none⟩ = some (.int .u64 0) := (blk_cell HMe.out x.toNat).trans (part_at l x.toNat hxl)
       have hfx := blk_frozen HMe.out x.toNat
       refine skip_ (w1 := ?_) (by rfl) rfl ?_ ?_
       rotate_left
       ·go_simp
        rfl
       refine hK.out _ _ ((blk_cell (blk_far H4e.out (p := ⟨gm, x.toNat, none⟩) N0.out.2.1 (.int .u64 l[x.toNat])) 7).trans (sq_at2 gs (gm, l) 7 HJ.out)) (fun hHeld => ?_)
       clear hK K hsx hfx
       refine pure_ (i := 10) (N := some 7) (v := ?_) (a' := ?_) (bb [11]) rfl rfl (any_of HT_.out (by kernel_rfl)) (fun _ _ _ h => h) (Or.inl ⟨by rfl, ?_⟩) ?_ ?_
       rotate_left
       ·intro w'
        go_simp
        with_reducible rfl
       rotate_left
       ·simp only [Act.put, List.setIfInBounds_toArray, List.set_cons_zero, List.set_cons_succ, i64_w, i32_w]
        rfl
       refine done_ (done_of HT_.out (by kernel_rfl)) ?_
       have hw : IntKind.i64.wrap (x + 1) = x + 1 := by have := HX.out; have := HL2.out; rw [i64_w]; unfold wrap64; omega
       go_wp2
       go_roundg (gk - 1)
       case measure => have := HX.out; omega
       case rel =>
        exact ⟨x + 1, rfl, ⟨by have := HX.out; omega, by have := HX.out; omega⟩, ⟨by rw [show (x + 1).toNat = x.toNat + 1 by have := HX.out; omega]; exact blk_put HMe.out x.toNat _ (part_set l x.toNat hxl)⟩, ⟨blk_far HLe.out (p := ⟨gm, x.toNat, none⟩) N0.out.1 _⟩, ⟨blk_far H4e.out (p := ⟨gm, x.toNat, none⟩) N0.out.2.1 _⟩, ⟨blk_far H2e.out (p := ⟨gm, x.toNat, none⟩) N0.out.2.2.1 _⟩, ⟨sqAll_grown HAe.out (grown_set _ gm _ _) N0.out.2.2.2.2⟩, ⟨below_set HBe.out HGM.out⟩, ⟨fun i hi => (cell_far (a := ⟨gf, 1 + i, none⟩) (p := ⟨gm, x.toNat, none⟩) N0.out.2.2.2.1 _).trans (HFe.out i hi)⟩⟩
      ·have d0 : decide (x < (l.length : Int)) = false := decide_eq_false hx
       go_wp2
       go_roundg k1
       case measure => omega
       case rel =>
        have hxe : x.toNat = l.length := by have := HX.out; omega
        rw [hxe, sq_done] at HM
        exact ⟨GL.restOf t, GL.lineOf t, ms', gs ++ [(gm, l)], _, rfl, HMS, ⟨by have := HD.out.1; rw [HRE.out] at this; simp at this ⊢; omega, by have := HD.out.2.1; rw [HRE.out] at this; have h2 := congrArg List.tail this; simp only [Option.toList_some, List.singleton_append, List.map_cons, List.tail_cons] at h2; rw [h2, List.length_append, List.length_singleton, List.tail_drop], by have := HD.out.2.2; rw [HRE.out] at this; rw [← this]; simp⟩, HL5, H45, H25, ⟨fun p hp => by
         rcases List.mem_append.1 hp with hp | hp
         ·exact HA5.out p hp
         ·rw [List.mem_singleton.1 hp]; exact ⟨HGM.out, HM.out⟩⟩, HB5⟩
    ·as_aux_lemma =>
     have hnm2 : nm = ⟨#[72, 82, 84, 73, 77, 69, 82, 58]⟩ := by rw [hnm]; simp only [hj']; rfl
     subst hnm2
     have H0 := Aside0.mk h0
     have HJ := Aside0.mk hj'
     have d2 : decide ((fs.length : Int) < 2) = false := decide_eq_false (by have := HLEN.out; have := HL1.out; omega)
     have d2' : decide (fs.length < 2) = false := decide_eq_false (by have := HLEN.out; have := HL1.out; omega)
     have z0 : ((0 : Int) < (fs.length : Int)) = True := eq_true (by have := HLEN.out; omega)
     have z0' : (0 < fs.length) = True := eq_true (by have := HLEN.out; omega)
     clear hnm hj hj' h0
     go_wp2_with (first
      | (go_at_call 155; refine (GL.lines_scan g t line _ HL.out (by have := HT2.out; omega) (by have := HOK.out.1; omega) HOK.out.2.1 HOK.out.2.2).mono ?_; rintro e w3 ⟨rfl, hg3, hgr3⟩; have HL3 := Aside0.mk hg3; have H43 := Aside0.mk (blk_grown H4.out hgr3 (fun e => HGN4.out (by cases e; rfl))); have H23 := Aside0.mk (blk_grown H2.out hgr3 (fun e => HGN2.out (by cases e; rfl))); have HA3 := Aside0.mk (sqAll_grown HA.out hgr3 (sqAll_ne HA.out HL.out (by decide))); have HB3 := Aside0.mk (pw_below_grown HB.out (some g) HB.out.size hgr3 (fun k e => by cases e; exact HGL.out)); clear hg3 hgr3)
      | (go_at_call 157; refine (GL.lines_text g _ _ _ HL3.out).mono ?_; rintro e w3' ⟨rfl, rfl⟩)
      | (go_at_call 190; go_loud (refine (strings_Fields.calls (GL.lineOf t) fs _ (tabW_below HT.out HB3.out) HFS.out).mono ?_; rintro e w5 ⟨v0, rfl, hf, hb5⟩; obtain ⟨gf, cap, rfl, hgf1, hgf2, cells, hcells⟩ := Kd.R_form hf (by have := HLEN.out; omega); have HF := Aside0.mk hf; have HCAP := Aside0.mk (Kd.R_reads' hf).2.1; clear hcells hgf1 hgf2; have HL5 := Aside0.mk (blk_below HL3.out hb5); have H45 := Aside0.mk (blk_below H43.out hb5); have H25 := Aside0.mk (blk_below H23.out hb5); have HA5 := Aside0.mk (sqAll_below HA3.out hb5); have HB5 := Aside0.mk (below_step HB3.out hb5); have hc0 : w5.cell? ⟨gf, 0, none⟩ = some (.string ⟨#[72, 82, 84, 73, 77, 69, 82, 58]⟩) := by { rw [← H0.out]; exact (Kd.R_cell ByteArray.empty HF.out 0 (by omega) (by have := HLEN.out; omega)).1 }; have hcut := cutSq gf fs.length cap l.length HLEN.out.symm HL1.out HCAP.out; have hmk := makeSq l.length HL2.out; have hk4 : ∀ o, (w5.alloc o).cell? ⟨g4, 8, none⟩ = some (.slice none 0 0) := fun o => (blk_cell (blk_alloc H45.out o) 8).trans (sq_at gs 8 HJ.out (by decide)); have hz4 : ∀ o, (w5.alloc o).frozen? ⟨g4, 8, none⟩ = false := fun o => blk_frozen (blk_alloc H45.out o) 8; clear hf hb5)))
     have M0 := Aside0.mk (show ((w5.alloc (.cells (madeCells #[.int .u64 0] l.length) 35)).setCell ⟨g4, 8, none⟩ (.slice (some ⟨w5.heap.size, 0, none⟩) l.length l.length)).heap[w5.heap.size]? = some (sqPart l 0) by rw [← sq_made]; exact blk_far (heap_alloc_new w5 _) (p := ⟨g4, 8, none⟩) (by have := blk_lt H45.out; show w5.heap.size ≠ g4; omega) _)
     have L0 := Aside0.mk (blk_far (blk_alloc HL5.out (.cells (madeCells #[.int .u64 0] l.length) 35)) (p := ⟨g4, 8, none⟩) (Ne.symm HGN4.out) (.slice (some ⟨w5.heap.size, 0, none⟩) l.length l.length))
     have S0 := Aside0.mk (blk_put (cs := sqArr gs) (cs' := sqArr (gs ++ [(w5.heap.size, l)])) (blk_alloc H45.out (.cells (madeCells #[.int .u64 0] l.length) 35)) 8 (.slice (some ⟨w5.heap.size, 0, none⟩) l.length l.length) (sq_set gs (w5.heap.size, l) 8 HJ.out (by decide)))
     have Z0 := Aside0.mk (blk_far (blk_alloc H25.out (.cells (madeCells #[.int .u64 0] l.length) 35)) (p := ⟨g4, 8, none⟩) HG24.out (.slice (some ⟨w5.heap.size, 0, none⟩) l.length l.length))
     have hA6 := sqAll_below HA5.out (below_alloc (Below.refl w5.heap.size w5) (.cells (madeCells #[.int .u64 0] l.length) 35))
     have A0 := Aside0.mk (sqAll_grown hA6 (grown_set _ g4 8 (.slice (some ⟨w5.heap.size, 0, none⟩) l.length l.length)) (sqAll_ne hA6 (blk_alloc H45.out (.cells (madeCells #[.int .u64 0] l.length) 35)) (by decide)))
     clear hA6
     have B0 := Aside0.mk (below_set (below_alloc HB5.out (.cells (madeCells #[.int .u64 0] l.length) 35)) HG4.out (j := 8) (v := .slice (some ⟨w5.heap.size, 0, none⟩) l.length l.length))
     have F0 : Aside0 (∀ i : Nat, i < l.length → ((w5.alloc (.cells (madeCells #[.int .u64 0] l.length) 35)).setCell ⟨g4, 8, none⟩ (.slice (some ⟨w5.heap.size, 0, none⟩) l.length l.length)).cell? ⟨gf, 1 + i, none⟩ = some (.string (rdOf ByteArray.empty fs ((i + 1 : Nat) : Int)))) := ⟨fun i hi => by
      have h1 := (Kd.R_cell ByteArray.empty (Kd.R_set (Kd.R_below HF.out (below_alloc (Below.refl w5.heap.size w5) (.cells (madeCells #[.int .u64 0] l.length) 35))) (blk_alloc H45.out _) (by decide) 8 (.slice (some ⟨w5.heap.size, 0, none⟩) l.length l.length)) ((i + 1 : Nat) : Int) (by omega) (by have := HLEN.out; omega)).1
      rw [show 1 + i = i + 1 from Nat.add_comm 1 i]
      exact h1⟩
     have G0 := Aside0.mk HB5.out.size
     have N0 := Aside0.mk (show g ≠ w5.heap.size ∧ g4 ≠ w5.heap.size ∧ g2 ≠ w5.heap.size ∧ gf ≠ w5.heap.size ∧ ∀ p ∈ gs, p.1 ≠ w5.heap.size from ⟨Nat.ne_of_lt (blk_lt HL5.out), Nat.ne_of_lt (blk_lt H45.out), Nat.ne_of_lt (blk_lt H25.out), Nat.ne_of_lt (Kd.R_lt HF.out gf rfl), fun p hp => Nat.ne_of_lt (blk_lt (HA5.out p hp).2)⟩)
     clear HL3 H43 H23 HA3 HB3 HL5 H45 H25 HA5 HB5 hc0 hcut hmk hk4 hz4 HF HCAP d2 d2' z0 z0'
     generalize hgm : w5.heap.size = gm at G0 N0 M0 L0 S0 Z0 A0 B0 F0 ⊢
     have HGM : Aside0 (w.heap.size ≤ gm) := G0
     clear G0
     generalize hW0 : (w5.alloc (.cells (madeCells #[.int .u64 0] l.length) 35)).setCell ⟨g4, 8, none⟩ (.slice (some ⟨gm, 0, none⟩) l.length l.length) = W0 at M0 L0 S0 Z0 A0 B0 F0 ⊢
     clear hW0 hgm
     go_loopg [300] l.length (fun kq vi w' => ∃ x : Int, vi = .int .i64 x ∧ Aside0 (0 ≤ x ∧ x + kq = l.length) ∧ Aside0 (w'.heap[gm]? = some (sqPart l x.toNat)) ∧ Aside0 (w'.heap[g]? = some (GL.linesCells (GL.restOf t) (GL.lineOf t))) ∧ Aside0 (w'.heap[g4]? = some (.cells (sqArr (gs ++ [(gm, l)])) 140 (0, 0))) ∧ Aside0 (w'.heap[g2]? = some (.cells sqZero 140 (0, 0))) ∧ Aside0 (sqAll w' w.heap.size gs) ∧ Aside0 (Below w.heap.size w w') ∧
      Aside0 (∀ i : Nat, i < l.length → w'.cell? ⟨gf, 1 + i, none⟩ = some (.string (rdOf ByteArray.empty fs ((i + 1 : Nat) : Int)))))
     case atStart => exact ⟨0, rfl, ⟨by omega, by omega⟩, M0, L0, S0, Z0, A0, B0, F0⟩
     case round =>
      clear M0 L0 S0 Z0 A0 B0 F0
      obtain ⟨x, rfl, HX, HM, HL5, H45, H25, HA5, HB5, HF⟩ := hrel
      by_cases hx : x < (l.length : Int)
      ·have d0 : decide (x < (l.length : Int)) = true := decide_eq_true hx
       have hxl : x.toNat < l.length := by have := HX.out; omega
       have hcx := HF.out x.toNat hxl
       have hpx := HPU.out x.toNat hxl
       generalize rdOf ByteArray.empty fs ((x.toNat + 1 : Nat) : Int) = s at hcx hpx
       have HPX := Aside0.mk hpx
       have q0 : (0 ≤ x) = True := eq_true HX.out.1
       have q1 : (x < (l.length : Int)) = True := eq_true hx
       clear hpx hx
       go_wp2
       have HMd := Aside0.mk (blk_drew HM.out)
       have HLd := Aside0.mk (blk_drew HL5.out)
       have H4d := Aside0.mk (blk_drew H45.out)
       have H2d := Aside0.mk (blk_drew H25.out)
       have HAd := Aside0.mk (show sqAll wr.drew w.heap.size gs from fun p hp => ⟨(HA5.out p hp).1, blk_drew (HA5.out p hp).2⟩)
       have HBd := Aside0.mk (below_drew1 HB5.out)
       have HFd : Aside0 (∀ i : Nat, i < l.length → wr.drew.cell? ⟨gf, 1 + i, none⟩ = some (.string (rdOf ByteArray.empty fs ((i + 1 : Nat) : Int)))) := ⟨fun i hi => HF.out i hi⟩
       clear HM HL5 H45 H25 HA5 HB5 HF hcx
       refine start_ (n := 11) (S := fun w' => w'.cell? ⟨g4, 8, none⟩ = some (.slice (some ⟨gm, 0, none⟩) l.length l.length)) (ds := []) (bb [0, 11]) (by kernel_rfl) rfl rfl ((blk_cell H4d.out 8).trans (sq_at2 gs (gm, l) 8 HJ.out)) (fun hHeld => ?_); refine with_tabW sqTab8 sqBits (fun HT_ HW_ => ?_)
       generalize wr.drew = w12 at HMd HLd H4d H2d HAd HBd HFd hHeld ⊢
       refine pure_ (i := 0) (N := some 306) (v := ?_) (a' := ?_) (bb [1, 10]) rfl rfl (any_of HT_.out (by kernel_rfl)) (fun _ _ _ h => h) (Or.inl ⟨by rfl, ?_⟩) ?_ ?_
       rotate_left
       ·intro w'
        go_simp
        with_reducible rfl
       rotate_left
       ·simp only [Act.put, List.setIfInBounds_toArray, List.set_cons_zero, List.set_cons_succ, i64_w, i32_w]
        rfl
       refine pure_ (i := 2) (N := some 308) (v := ?_) (a' := ?_) (bb [1, 1, 1, 8]) rfl rfl (any_of HT_.out (by kernel_rfl)) (fun _ _ _ h => h) (Or.inl ⟨by rfl, ?_⟩) ?_ ?_
       rotate_left
       ·intro w'
        go_simp
        with_reducible rfl
       rotate_left
       ·simp only [Act.put, List.setIfInBounds_toArray, List.set_cons_zero, List.set_cons_succ, i64_w, i32_w]
        rfl
       refine pure_ (i := 3) (N := some 309) (v := ?_) (a' := ?_) (bb [1, 1, 2, 7]) rfl rfl (any_of HT_.out (by kernel_rfl)) (fun _ _ _ h => h) (Or.inl ⟨by rfl, ?_⟩) ?_ ?_
       rotate_left
       ·intro w'
        go_simp
        with_reducible rfl
       rotate_left
       ·simp only [Act.put, List.setIfInBounds_toArray, List.set_cons_zero, List.set_cons_succ, i64_w, i32_w]
        rfl
       refine take_ (i := 1) (N := some 307) (v := ?_) (a' := ?_) (bb [4, 7]) rfl rfl (take_ofW HT_.out HW_.out (by kernel_rfl)) (fun _ _ _ h => h) (Or.inl ⟨by rfl, ?_⟩) hHeld ?_ ?_
       rotate_left
       ·rintro w' s0
        go_simp
        with_reducible rfl
       rotate_left
       ·simp only [Act.put, List.setIfInBounds_toArray, List.set_cons_zero, List.set_cons_succ, i64_w, i32_w]
        rfl
       refine one_ (i := 4) (N := some 310) (bb [5, 6]) rfl rfl (one_of HT_.out (by kernel_rfl)) (by decide) (fun K hK => ?_)
       refine goes_ Tryz.func158 (by kernel_rfl) rfl #[.string s, .int .i64 10, .int .i64 64] (by rfl) rfl rfl (by (try simp only [List.map_toArray, List.map_cons, List.map_nil]); first | done | rfl | (simp only [List.length_drop, List.length_take]; rfl)) ?_
       refine (puSq_call s _ _ HPX.out).mono ?_
       rintro e w13 ⟨rfl, hb⟩
       refine ⟨_, rfl, ?_⟩
       have HFe : Aside0 (∀ i : Nat, i < l.length → w13.cell? ⟨gf, 1 + i, none⟩ = some (.string (rdOf ByteArray.empty fs ((i + 1 : Nat) : Int)))) := ⟨fun i hi => pw_cell_below hb (HFd.out i hi)⟩
       have HMe := Aside0.mk (blk_below HMd.out hb)
       have HLe := Aside0.mk (blk_below HLd.out hb)
       have H4e := Aside0.mk (blk_below H4d.out hb)
       have H2e := Aside0.mk (blk_below H2d.out hb)
       have HAe := Aside0.mk (sqAll_below HAd.out hb)
       have HBe := Aside0.mk (below_step HBd.out hb)
       clear hb HMd HLd H4d H2d HAd HBd HFd
       refine hK.out _ _ ((blk_cell H4e.out 8).trans (sq_at2 gs (gm, l) 8 HJ.out)) (fun hHeld => ?_)
       clear hK K
       refine norm_ (a' := ?_) ?_ ?_
       rotate_left
       ·show Act.put _ (some 310) _ = _
        simp only [Act.put, List.setIfInBounds_toArray, List.set_cons_zero, List.set_cons_succ, i64_w, i32_w]
        rfl
       refine pure_ (i := 5) (N := some 305) (v := ?_) (a' := ?_) (bb [6, 5]) rfl rfl (any_of HT_.out (by kernel_rfl)) (fun _ _ _ h => h) (Or.inl ⟨by rfl, ?_⟩) ?_ ?_
       rotate_left
       ·intro w'
        go_simp
        with_reducible rfl
       rotate_left
       ·simp only [Act.put, List.setIfInBounds_toArray, List.set_cons_zero, List.set_cons_succ, i64_w, i32_w]
        rfl
       refine pure_ (i := 6) (N := some 311) (v := ?_) (a' := ?_) (bb [7, 4]) rfl rfl (any_of HT_.out (by kernel_rfl)) (fun _ _ _ h => h) (Or.inl ⟨by rfl, ?_⟩) ?_ ?_
       rotate_left
       ·intro w'
        go_simp
        with_reducible rfl
       rotate_left
       ·simp only [Act.put, List.setIfInBounds_toArray, List.set_cons_zero, List.set_cons_succ, i64_w, i32_w]
        rfl
       refine pure_ (i := 7) (N := some 312) (v := ?_) (a' := ?_) (bb [8, 3]) rfl rfl (any_of HT_.out (by kernel_rfl)) (fun _ _ _ h => h) (Or.inl ⟨by rfl, ?_⟩) ?_ ?_
       rotate_left
       ·intro w'
        go_simp
        with_reducible rfl
       rotate_left
       ·simp only [Act.put, List.setIfInBounds_toArray, List.set_cons_zero, List.set_cons_succ, i64_w, i32_w]
        rfl
       refine pure_ (i := 8) (N := some 313) (v := ?_) (a' := ?_) (bb [9, 2]) rfl rfl (any_of HT_.out (by kernel_rfl)) (fun _ _ _ h => h) (Or.inl ⟨by rfl, ?_⟩) ?_ ?_
       rotate_left
       ·intro w'
        go_simp
        with_reducible rfl
       rotate_left
       ·simp only [Act.put, List.setIfInBounds_toArray, List.set_cons_zero, List.set_cons_succ, i64_w, i32_w]
        rfl
       refine one_ (i := 9) (N := none) (bb [10, 1]) rfl rfl (one_of HT_.out (by kernel_rfl)) (by decide) (fun K hK => ?_)
       have hsx : w13.cell? ⟨gm, x.toNat, none⟩ = some (.int .u64 0) := (blk_cell HMe.out x.toNat).trans (part_at l x.toNat hxl)
       have hfx := blk_frozen HMe.out x.toNat
       refine skip_ (w1 := ?_) (by rfl) rfl ?_ ?_
       rotate_left
       ·go_simp
        rfl
       refine hK.out _ _ ((blk_cell (blk_far H4e.out (p := ⟨gm, x.toNat, none⟩) N0.out.2.1 (.int .u64 l[x.toNat])) 8).trans (sq_at2 gs (gm, l) 8 HJ.out)) (fun hHeld => ?_)
       clear hK K hsx hfx
       refine pure_ (i := 10) (N := some 7) (v := ?_) (a' := ?_) (bb [11]) rfl rfl (any_of HT_.out (by kernel_rfl)) (fun _ _ _ h => h) (Or.inl ⟨by rfl, ?_⟩) ?_ ?_
       rotate_left
       ·intro w'
        go_simp
        with_reducible rfl
       rotate_left
       ·simp only [Act.put, List.setIfInBounds_toArray, List.set_cons_zero, List.set_cons_succ, i64_w, i32_w]
        rfl
       refine done_ (done_of HT_.out (by kernel_rfl)) ?_
       have hw : IntKind.i64.wrap (x + 1) = x + 1 := by have := HX.out; have := HL2.out; rw [i64_w]; unfold wrap64; omega
       go_wp2
       go_roundg (gk - 1)
       case measure => have := HX.out; omega
       case rel =>
        exact ⟨x + 1, rfl, ⟨by have := HX.out; omega, by have := HX.out; omega⟩, ⟨by rw [show (x + 1).toNat = x.toNat + 1 by have := HX.out; omega]; exact blk_put HMe.out x.toNat _ (part_set l x.toNat hxl)⟩, ⟨blk_far HLe.out (p := ⟨gm, x.toNat, none⟩) N0.out.1 _⟩, ⟨blk_far H4e.out (p := ⟨gm, x.toNat, none⟩) N0.out.2.1 _⟩, ⟨blk_far H2e.out (p := ⟨gm, x.toNat, none⟩) N0.out.2.2.1 _⟩, ⟨sqAll_grown HAe.out (grown_set _ gm _ _) N0.out.2.2.2.2⟩, ⟨below_set HBe.out HGM.out⟩, ⟨fun i hi => (cell_far (a := ⟨gf, 1 + i, none⟩) (p := ⟨gm, x.toNat, none⟩) N0.out.2.2.2.1 _).trans (HFe.out i hi)⟩⟩
      ·have d0 : decide (x < (l.length : Int)) = false := decide_eq_false hx
       go_wp2
       go_roundg k1
       case measure => omega
       case rel =>
        have hxe : x.toNat = l.length := by have := HX.out; omega
        rw [hxe, sq_done] at HM
        exact ⟨GL.restOf t, GL.lineOf t, ms', gs ++ [(gm, l)], _, rfl, HMS, ⟨by have := HD.out.1; rw [HRE.out] at this; simp at this ⊢; omega, by have := HD.out.2.1; rw [HRE.out] at this; have h2 := congrArg List.tail this; simp only [Option.toList_some, List.singleton_append, List.map_cons, List.tail_cons] at h2; rw [h2, List.length_append, List.length_singleton, List.tail_drop], by have := HD.out.2.2; rw [HRE.out] at this; rw [← this]; simp⟩, HL5, H45, H25, ⟨fun p hp => by
         rcases List.mem_append.1 hp with hp | hp
         ·exact HA5.out p hp
         ·rw [List.mem_singleton.1 hp]; exact ⟨HGM.out, HM.out⟩⟩, HB5⟩
    ·as_aux_lemma =>
     have hnm2 : nm = ⟨#[82, 67, 85, 58]⟩ := by rw [hnm]; simp only [hj']; rfl
     subst hnm2
     have H0 := Aside0.mk h0
     have HJ := Aside0.mk hj'
     have d2 : decide ((fs.length : Int) < 2) = false := decide_eq_false (by have := HLEN.out; have := HL1.out; omega)
     have d2' : decide (fs.length < 2) = false := decide_eq_false (by have := HLEN.out; have := HL1.out; omega)
     have z0 : ((0 : Int) < (fs.length : Int)) = True := eq_true (by have := HLEN.out; omega)
     have z0' : (0 < fs.length) = True := eq_true (by have := HLEN.out; omega)
     clear hnm hj hj' h0
     go_wp2_with (first
      | (go_at_call 155; refine (GL.lines_scan g t line _ HL.out (by have := HT2.out; omega) (by have := HOK.out.1; omega) HOK.out.2.1 HOK.out.2.2).mono ?_; rintro e w3 ⟨rfl, hg3, hgr3⟩; have HL3 := Aside0.mk hg3; have H43 := Aside0.mk (blk_grown H4.out hgr3 (fun e => HGN4.out (by cases e; rfl))); have H23 := Aside0.mk (blk_grown H2.out hgr3 (fun e => HGN2.out (by cases e; rfl))); have HA3 := Aside0.mk (sqAll_grown HA.out hgr3 (sqAll_ne HA.out HL.out (by decide))); have HB3 := Aside0.mk (pw_below_grown HB.out (some g) HB.out.size hgr3 (fun k e => by cases e; exact HGL.out)); clear hg3 hgr3)
      | (go_at_call 157; refine (GL.lines_text g _ _ _ HL3.out).mono ?_; rintro e w3' ⟨rfl, rfl⟩)
      | (go_at_call 190; go_loud (refine (strings_Fields.calls (GL.lineOf t) fs _ (tabW_below HT.out HB3.out) HFS.out).mono ?_; rintro e w5 ⟨v0, rfl, hf, hb5⟩; obtain ⟨gf, cap, rfl, hgf1, hgf2, cells, hcells⟩ := Kd.R_form hf (by have := HLEN.out; omega); have HF := Aside0.mk hf; have HCAP := Aside0.mk (Kd.R_reads' hf).2.1; clear hcells hgf1 hgf2; have HL5 := Aside0.mk (blk_below HL3.out hb5); have H45 := Aside0.mk (blk_below H43.out hb5); have H25 := Aside0.mk (blk_below H23.out hb5); have HA5 := Aside0.mk (sqAll_below HA3.out hb5); have HB5 := Aside0.mk (below_step HB3.out hb5); have hc0 : w5.cell? ⟨gf, 0, none⟩ = some (.string ⟨#[82, 67, 85, 58]⟩) := by { rw [← H0.out]; exact (Kd.R_cell ByteArray.empty HF.out 0 (by omega) (by have := HLEN.out; omega)).1 }; have hcut := cutSq gf fs.length cap l.length HLEN.out.symm HL1.out HCAP.out; have hmk := makeSq l.length HL2.out; have hk4 : ∀ o, (w5.alloc o).cell? ⟨g4, 9, none⟩ = some (.slice none 0 0) := fun o => (blk_cell (blk_alloc H45.out o) 9).trans (sq_at gs 9 HJ.out (by decide)); have hz4 : ∀ o, (w5.alloc o).frozen? ⟨g4, 9, none⟩ = false := fun o => blk_frozen (blk_alloc H45.out o) 9; clear hf hb5)))
     have M0 := Aside0.mk (show ((w5.alloc (.cells (madeCells #[.int .u64 0] l.length) 35)).setCell ⟨g4, 9, none⟩ (.slice (some ⟨w5.heap.size, 0, none⟩) l.length l.length)).heap[w5.heap.size]? = some (sqPart l 0) by rw [← sq_made]; exact blk_far (heap_alloc_new w5 _) (p := ⟨g4, 9, none⟩) (by have := blk_lt H45.out; show w5.heap.size ≠ g4; omega) _)
     have L0 := Aside0.mk (blk_far (blk_alloc HL5.out (.cells (madeCells #[.int .u64 0] l.length) 35)) (p := ⟨g4, 9, none⟩) (Ne.symm HGN4.out) (.slice (some ⟨w5.heap.size, 0, none⟩) l.length l.length))
     have S0 := Aside0.mk (blk_put (cs := sqArr gs) (cs' := sqArr (gs ++ [(w5.heap.size, l)])) (blk_alloc H45.out (.cells (madeCells #[.int .u64 0] l.length) 35)) 9 (.slice (some ⟨w5.heap.size, 0, none⟩) l.length l.length) (sq_set gs (w5.heap.size, l) 9 HJ.out (by decide)))
     have Z0 := Aside0.mk (blk_far (blk_alloc H25.out (.cells (madeCells #[.int .u64 0] l.length) 35)) (p := ⟨g4, 9, none⟩) HG24.out (.slice (some ⟨w5.heap.size, 0, none⟩) l.length l.length))
     have hA6 := sqAll_below HA5.out (below_alloc (Below.refl w5.heap.size w5) (.cells (madeCells #[.int .u64 0] l.length) 35))
     have A0 := Aside0.mk (sqAll_grown hA6 (grown_set _ g4 9 (.slice (some ⟨w5.heap.size, 0, none⟩) l.length l.length)) (sqAll_ne hA6 (blk_alloc H45.out (.cells (madeCells #[.int .u64 0] l.length) 35)) (by decide)))
     clear hA6
     have B0 := Aside0.mk (below_set (below_alloc HB5.out (.cells (madeCells #[.int .u64 0] l.length) 35)) HG4.out (j := 9) (v := .slice (some ⟨w5.heap.size, 0, none⟩) l.length l.length))
     have F0 : Aside0 (∀ i : Nat, i < l.length → ((w5.alloc (.cells (madeCells #[.int .u64 0] l.length) 35)).setCell ⟨g4, 9, none⟩ (.slice (some ⟨w5.heap.size, 0, none⟩) l.length l.length)).cell? ⟨gf, 1 + i, none⟩ = some (.string (rdOf ByteArray.empty fs ((i + 1 : Nat) : Int)))) := ⟨fun i hi => by
      have h1 := (Kd.R_cell ByteArray.empty (Kd.R_set (Kd.R_below HF.out (below_alloc (Below.refl w5.heap.size w5) (.cells (madeCells #[.int .u64 0] l.length) 35))) (blk_alloc H45.out _) (by decide) 9 (.slice (some ⟨w5.heap.size, 0, none⟩) l.length l.length)) ((i + 1 : Nat) : Int) (by omega) (by have := HLEN.out; omega)).1
      rw [show 1 + i = i + 1 from Nat.add_comm 1 i]
      exact h1⟩
     have G0 := Aside0.mk HB5.out.size
     have N0 := Aside0.mk (show g ≠ w5.heap.size ∧ g4 ≠ w5.heap.size ∧ g2 ≠ w5.heap.size ∧ gf ≠ w5.heap.size ∧ ∀ p ∈ gs, p.1 ≠ w5.heap.size from ⟨Nat.ne_of_lt (blk_lt HL5.out), Nat.ne_of_lt (blk_lt H45.out), Nat.ne_of_lt (blk_lt H25.out), Nat.ne_of_lt (Kd.R_lt HF.out gf rfl), fun p hp => Nat.ne_of_lt (blk_lt (HA5.out p hp).2)⟩)
     clear HL3 H43 H23 HA3 HB3 HL5 H45 H25 HA5 HB5 hc0 hcut hmk hk4 hz4 HF HCAP d2 d2' z0 z0'
     generalize hgm : w5.heap.size = gm at G0 N0 M0 L0 S0 Z0 A0 B0 F0 ⊢
     have HGM : Aside0 (w.heap.size ≤ gm) := G0
     clear G0
     generalize hW0 : (w5.alloc (.cells (madeCells #[.int .u64 0] l.length) 35)).setCell ⟨g4, 9, none⟩ (.slice (some ⟨gm, 0, none⟩) l.length l.length) = W0 at M0 L0 S0 Z0 A0 B0 F0 ⊢
     clear hW0 hgm
     go_loopg [329] l.length (fun kq vi w' => ∃ x : Int, vi = .int .i64 x ∧ Aside0 (0 ≤ x ∧ x + kq = l.length) ∧ Aside0 (w'.heap[gm]? = some (sqPart l x.toNat)) ∧ Aside0 (w'.heap[g]? = some (GL.linesCells (GL.restOf t) (GL.lineOf t))) ∧ Aside0 (w'.heap[g4]? = some (.cells (sqArr (gs ++ [(gm, l)])) 140 (0, 0))) ∧ Aside0 (w'.heap[g2]? = some (.cells sqZero 140 (0, 0))) ∧ Aside0 (sqAll w' w.heap.size gs) ∧ Aside0 (Below w.heap.size w w') ∧
      Aside0 (∀ i : Nat, i < l.length → w'.cell? ⟨gf, 1 + i, none⟩ = some (.string (rdOf ByteArray.empty fs ((i + 1 : Nat) : Int)))))
     case atStart => exact ⟨0, rfl, ⟨by omega, by omega⟩, M0, L0, S0, Z0, A0, B0, F0⟩
     case round =>
      clear M0 L0 S0 Z0 A0 B0 F0
      obtain ⟨x, rfl, HX, HM, HL5, H45, H25, HA5, HB5, HF⟩ := hrel
      by_cases hx : x < (l.length : Int)
      ·have d0 : decide (x < (l.length : Int)) = true := decide_eq_true hx
       have hxl : x.toNat < l.length := by have := HX.out; omega
       have hcx := HF.out x.toNat hxl
       have hpx := HPU.out x.toNat hxl
       generalize rdOf ByteArray.empty fs ((x.toNat + 1 : Nat) : Int) = s at hcx hpx
       have HPX := Aside0.mk hpx
       have q0 : (0 ≤ x) = True := eq_true HX.out.1
       have q1 : (x < (l.length : Int)) = True := eq_true hx
       clear hpx hx
       go_wp2
       have HMd := Aside0.mk (blk_drew HM.out)
       have HLd := Aside0.mk (blk_drew HL5.out)
       have H4d := Aside0.mk (blk_drew H45.out)
       have H2d := Aside0.mk (blk_drew H25.out)
       have HAd := Aside0.mk (show sqAll wr.drew w.heap.size gs from fun p hp => ⟨(HA5.out p hp).1, blk_drew (HA5.out p hp).2⟩)
       have HBd := Aside0.mk (below_drew1 HB5.out)
       have HFd : Aside0 (∀ i : Nat, i < l.length → wr.drew.cell? ⟨gf, 1 + i, none⟩ = some (.string (rdOf ByteArray.empty fs ((i + 1 : Nat) : Int)))) := ⟨fun i hi => HF.out i hi⟩
       clear HM HL5 H45 H25 HA5 HB5 HF hcx
       refine start_ (n := 11) (S := fun w' => w'.cell? ⟨g4, 9, none⟩ = some (.slice (some ⟨gm, 0, none⟩) l.length l.length)) (ds := []) (bb [0, 11]) (by kernel_rfl) rfl rfl ((blk_cell H4d.out 9).trans (sq_at2 gs (gm, l) 9 HJ.out)) (fun hHeld => ?_); refine with_tabW sqTab9 sqBits (fun HT_ HW_ => ?_)
       generalize wr.drew = w12 at HMd HLd H4d H2d HAd HBd HFd hHeld ⊢
       refine pure_ (i := 0) (N := some 335) (v := ?_) (a' := ?_) (bb [1, 10]) rfl rfl (any_of HT_.out (by kernel_rfl)) (fun _ _ _ h => h) (Or.inl ⟨by rfl, ?_⟩) ?_ ?_
       rotate_left
       ·intro w'
        go_simp
        with_reducible rfl
       rotate_left
       ·simp only [Act.put, List.setIfInBounds_toArray, List.set_cons_zero, List.set_cons_succ, i64_w, i32_w]
        rfl
       refine pure_ (i := 2) (N := some 337) (v := ?_) (a' := ?_) (bb [1, 1, 1, 8]) rfl rfl (any_of HT_.out (by kernel_rfl)) (fun _ _ _ h => h) (Or.inl ⟨by rfl, ?_⟩) ?_ ?_
       rotate_left
       ·intro w'
        go_simp
        with_reducible rfl
       rotate_left
       ·simp only [Act.put, List.setIfInBounds_toArray, List.set_cons_zero, List.set_cons_succ, i64_w, i32_w]
        rfl
       refine pure_ (i := 3) (N := some 338) (v := ?_) (a' := ?_) (bb [1, 1, 2, 7]) rfl rfl (any_of HT_.out (by kernel_rfl)) (fun _ _ _ h => h) (Or.inl ⟨by rfl, ?_⟩) ?_ ?_
       rotate_left
       ·intro w'
        go_simp
        with_reducible rfl
       rotate_left
       ·simp only [Act.put, List.setIfInBounds_toArray, List.set_cons_zero, List.set_cons_succ, i64_w, i32_w]
        rfl
       refine take_ (i := 1) (N := some 336) (v := ?_) (a' := ?_) (bb [4, 7]) rfl rfl (take_ofW HT_.out HW_.out (by kernel_rfl)) (fun _ _ _ h => h) (Or.inl ⟨by rfl, ?_⟩) hHeld ?_ ?_
       rotate_left
       ·rintro w' s0
        go_simp
        with_reducible rfl
       rotate_left
       ·simp only [Act.put, List.setIfInBounds_toArray, List.set_cons_zero, List.set_cons_succ, i64_w, i32_w]
        rfl
       refine one_ (i := 4) (N := some 339) (bb [5, 6]) rfl rfl (one_of HT_.out (by kernel_rfl)) (by decide) (fun K hK => ?_)
       refine goes_ Tryz.func158 (by kernel_rfl) rfl #[.string s, .int .i64 10, .int .i64 64] (by rfl) rfl rfl (by (try simp only [List.map_toArray, List.map_cons, List.map_nil]); first | done | rfl | (simp only [List.length_drop, List.length_take]; rfl)) ?_
       refine (puSq_call s _ _ HPX.out).mono ?_
       rintro e w13 ⟨rfl, hb⟩
       refine ⟨_, rfl, ?_⟩
       have HFe : Aside0 (∀ i : Nat, i < l.length → w13.cell? ⟨gf, 1 + i, none⟩ = some (.string (rdOf ByteArray.empty fs ((i + 1 : Nat) : Int)))) := ⟨fun i hi => pw_cell_below hb (HFd.out i hi)⟩
       have HMe := Aside0.mk (blk_below HMd.out hb)
       have HLe := Aside0.mk (blk_below HLd.out hb)
       have H4e := Aside0.mk (blk_below H4d.out hb)
       have H2e := Aside0.mk (blk_below H2d.out hb)
       have HAe := Aside0.mk (sqAll_below HAd.out hb)
       have HBe := Aside0.mk (below_step HBd.out hb)
       clear hb HMd HLd H4d H2d HAd HBd HFd
       refine hK.out _ _ ((blk_cell H4e.out 9).trans (sq_at2 gs (gm, l) 9 HJ.out)) (fun hHeld => ?_)
       clear hK K
       refine norm_ (a' := ?_) ?_ ?_
       rotate_left
       ·show Act.put _ (some 339) _ = _
        simp only [Act.put, List.setIfInBounds_toArray, List.set_cons_zero, List.set_cons_succ, i64_w, i32_w]
        rfl
       refine pure_ (i := 5) (N := some 334) (v := ?_) (a' := ?_) (bb [6, 5]) rfl rfl (any_of HT_.out (by kernel_rfl)) (fun _ _ _ h => h) (Or.inl ⟨by rfl, ?_⟩) ?_ ?_
       rotate_left
       ·intro w'
        go_simp
        with_reducible rfl
       rotate_left
       ·simp only [Act.put, List.setIfInBounds_toArray, List.set_cons_zero, List.set_cons_succ, i64_w, i32_w]
        rfl
       refine pure_ (i := 6) (N := some 340) (v := ?_) (a' := ?_) (bb [7, 4]) rfl rfl (any_of HT_.out (by kernel_rfl)) (fun _ _ _ h => h) (Or.inl ⟨by rfl, ?_⟩) ?_ ?_
       rotate_left
       ·intro w'
        go_simp
        with_reducible rfl
       rotate_left
       ·simp only [Act.put, List.setIfInBounds_toArray, List.set_cons_zero, List.set_cons_succ, i64_w, i32_w]
        rfl
       refine pure_ (i := 7) (N := some 341) (v := ?_) (a' := ?_) (bb [8, 3]) rfl rfl (any_of HT_.out (by kernel_rfl)) (fun _ _ _ h => h) (Or.inl ⟨by rfl, ?_⟩) ?_ ?_
       rotate_left
       ·intro w'
        go_simp
        with_reducible rfl
       rotate_left
       ·simp only [Act.put, List.setIfInBounds_toArray, List.set_cons_zero, List.set_cons_succ, i64_w, i32_w]
        rfl
       refine pure_ (i := 8) (N := some 342) (v := ?_) (a' := ?_) (bb [9, 2]) rfl rfl (any_of HT_.out (by kernel_rfl)) (fun _ _ _ h => h) (Or.inl ⟨by rfl, ?_⟩) ?_ ?_
       rotate_left
       ·intro w'
        go_simp
        with_reducible rfl
       rotate_left
       ·simp only [Act.put, List.setIfInBounds_toArray, List.set_cons_zero, List.set_cons_succ, i64_w, i32_w]
        rfl
       refine one_ (i := 9) (N := none) (bb [10, 1]) rfl rfl (one_of HT_.out (by kernel_rfl)) (by decide) (fun K hK => ?_)
       have hsx : w13.cell? ⟨gm, x.toNat, none⟩ = some (.int .u64 0) := (blk_cell HMe.out x.toNat).trans (part_at l x.toNat hxl)
       have hfx := blk_frozen HMe.out x.toNat
       refine skip_ (w1 := ?_) (by rfl) rfl ?_ ?_
       rotate_left
       ·go_simp
        rfl
       refine hK.out _ _ ((blk_cell (blk_far H4e.out (p := ⟨gm, x.toNat, none⟩) N0.out.2.1 (.int .u64 l[x.toNat])) 9).trans (sq_at2 gs (gm, l) 9 HJ.out)) (fun hHeld => ?_)
       clear hK K hsx hfx
       refine pure_ (i := 10) (N := some 7) (v := ?_) (a' := ?_) (bb [11]) rfl rfl (any_of HT_.out (by kernel_rfl)) (fun _ _ _ h => h) (Or.inl ⟨by rfl, ?_⟩) ?_ ?_
       rotate_left
       ·intro w'
        go_simp
        with_reducible rfl
       rotate_left
       ·simp only [Act.put, List.setIfInBounds_toArray, List.set_cons_zero, List.set_cons_succ, i64_w, i32_w]
        rfl
       refine done_ (done_of HT_.out (by kernel_rfl)) ?_
       have hw : IntKind.i64.wrap (x + 1) = x + 1 := by have := HX.out; have := HL2.out; rw [i64_w]; unfold wrap64; omega
       go_wp2
       go_roundg (gk - 1)
       case measure => have := HX.out; omega
       case rel =>
        exact ⟨x + 1, rfl, ⟨by have := HX.out; omega, by have := HX.out; omega⟩, ⟨by rw [show (x + 1).toNat = x.toNat + 1 by have := HX.out; omega]; exact blk_put HMe.out x.toNat _ (part_set l x.toNat hxl)⟩, ⟨blk_far HLe.out (p := ⟨gm, x.toNat, none⟩) N0.out.1 _⟩, ⟨blk_far H4e.out (p := ⟨gm, x.toNat, none⟩) N0.out.2.1 _⟩, ⟨blk_far H2e.out (p := ⟨gm, x.toNat, none⟩) N0.out.2.2.1 _⟩, ⟨sqAll_grown HAe.out (grown_set _ gm _ _) N0.out.2.2.2.2⟩, ⟨below_set HBe.out HGM.out⟩, ⟨fun i hi => (cell_far (a := ⟨gf, 1 + i, none⟩) (p := ⟨gm, x.toNat, none⟩) N0.out.2.2.2.1 _).trans (HFe.out i hi)⟩⟩
      ·have d0 : decide (x < (l.length : Int)) = false := decide_eq_false hx
       go_wp2
       go_roundg k1
       case measure => omega
       case rel =>
        have hxe : x.toNat = l.length := by have := HX.out; omega
        rw [hxe, sq_done] at HM
        exact ⟨GL.restOf t, GL.lineOf t, ms', gs ++ [(gm, l)], _, rfl, HMS, ⟨by have := HD.out.1; rw [HRE.out] at this; simp at this ⊢; omega, by have := HD.out.2.1; rw [HRE.out] at this; have h2 := congrArg List.tail this; simp only [Option.toList_some, List.singleton_append, List.map_cons, List.tail_cons] at h2; rw [h2, List.length_append, List.length_singleton, List.tail_drop], by have := HD.out.2.2; rw [HRE.out] at this; rw [← this]; simp⟩, HL5, H45, H25, ⟨fun p hp => by
         rcases List.mem_append.1 hp with hp | hp
         ·exact HA5.out p hp
         ·rw [List.mem_singleton.1 hp]; exact ⟨HGM.out, HM.out⟩⟩, HB5⟩
end Go.Proofs.YtednjmngalmdkaaGreatDoor.GPC
end
section
/- (FS).Softirqs: the text read and parsed. Conditions: sqTextF; the tables as laid. -/
namespace Go.Proofs.YtednjmngalmdkaaGreatDoor.GPC
open Go Go.RowKit Go.Proofs.YtednjmngalmdkaaGreatDoorW.PrintWords Go.Proofs.YtednjmngalmdkaaGreatDoorW.PrintLast
set_option linter.unusedVariables false
set_option linter.unusedSimpArgs false
def sqTextF (k : Nat) (text : ByteArray) : Option (List (ByteArray × List Int)) := (texts_Read.f text).bind fun q => if q.2 = none then (headF (strOfNums q.1)).bind fun t0 => (rowsF sqL k t0).bind fun ms => if ms.map Prod.fst = sqNames ∧ (ms.all fun m => decide (m.2.length ≤ 100001)) = true then some ms else none else none
theorem sqText_len {k : Nat} {text : ByteArray} {ms : List (ByteArray × List Int)} (h : sqTextF k text = some ms) : ∀ m ∈ ms, m.2.length ≤ 100001 := by
 unfold sqTextF at h
 obtain ⟨q, _, h⟩ := Option.bind_eq_some_iff.1 h
 split at h
 ·obtain ⟨t0, _, h⟩ := Option.bind_eq_some_iff.1 h
  obtain ⟨x, _, h⟩ := Option.bind_eq_some_iff.1 h
  split at h
  ·rename_i hc
   obtain rfl := Option.some.inj h
   intro m hm
   exact of_decide_eq_true (List.all_eq_true.1 hc.2 m hm)
  ·cases h
 ·cases h
theorem sq_one2 (gs : List (Nat × List Int)) : ∀ q ∈ gs.map sqVal, q.oneCell' = true := by
 intro q hq
 obtain ⟨p, _, rfl⟩ := List.mem_map.1 hq
 rfl
set_option maxHeartbeats 8000000 in
set_option maxRecDepth 100000 in
theorem fsSoftirqs (k : Nat) (text : ByteArray) (ms : List (ByteArray × List Int)) (w : World) (hT : TabW w) (h : sqTextF k text = some ms) :
  Calls Tryz.prog 117 #[.agg #[.string text]] w fun e w' => ∃ gs : List (Nat × List Int), e = .returned (.tuple #[.agg ⟨gs.map sqVal⟩, .nilIface]) ∧ gs.length = 10 ∧ gs.map Prod.snd = ms.map Prod.snd ∧ sqAll w' w.heap.size gs ∧ Below w.heap.size w w' := by
 unfold sqTextF at h
 obtain ⟨⟨bs, er⟩, hrd, h⟩ := Option.bind_eq_some_iff.1 h
 split at h
 ·rename_i he
  simp only at he
  subst he
  obtain ⟨t0, hh, h⟩ := Option.bind_eq_some_iff.1 h
  obtain ⟨x, hx, e⟩ := Option.bind_eq_some_iff.1 h
  split at e
  ·rename_i hnames
   obtain rfl := Option.some.inj e
   have HT := Aside0.mk hT
   have HRD := Aside0.mk hrd
   have HL := Aside0.mk hx
   have HH := Aside0.mk hh
   have HNM := Aside0.mk hnames.1
   clear hT hrd h hx hh hnames e
   go_enter Tryz.func117, Tryz.ntmps117
   go_wp2_with (first
    | ((with_reducible refine gate_dst (N := 1) rfl ?_); refine box_event ?hg (N := 1) ?hd (cs := #[.string text]) (t := 58) ?hr ?_; (case hd => rfl); (case hg => rfl); (case hr => first | (go_simp; done) | (go_simp; rfl)); intro ga hga wa hbox hba; have HXA := Aside0.mk hbox; have HBA := Aside0.mk hba; clear hga hbox hba)
    | ((with_reducible refine gate_dst (N := 2) rfl ?_); refine box_event ?hg (N := 2) ?hd (cs := sqZero) (t := 140) ?hr ?_; (case hd => rfl); (case hg => rfl); (case hr => first | (go_simp; done) | (go_simp; rfl)); intro gb hgb wb hbox hbb; have HXB := Aside0.mk hbox; have HBB := Aside0.mk (below_then HBA.out HBA.out.size hbb); have HGB := Aside0.mk (show w.heap.size ≤ gb by rw [hgb]; exact HBA.out.size); have q0 : wb.cell? ⟨ga, 0, none⟩ = some (.string text) := (blk_cell (blk_below HXA.out hbb) 0).trans rfl; have HW0 := Aside0.mk (show Below wb.heap.size wb (wb.alloc (Obj.cells #[Value.string ⟨#[115, 111, 102, 116, 105, 114, 113, 115]⟩] 9 (0,0))) from below_alloc (Below.refl _ _) _); clear hgb hbox hbb)
    | (go_at_call 139; go_in)
    | (go_at_call 140; refine (texts_Read.calls text bs none _ HRD.out).mono ?_; rintro e w1 ⟨v0, rfl, hv, hb⟩; simp only [errW_none]; obtain ⟨Ab, cb, rfl, hlb, hFb⟩ := hv; have hcv := Kd.C_string (P := Tryz.prog) (A := Ab) (c := cb) Tryz.underlying173 Tryz.underlying5 Tryz.underlying56 (Kd.F_now hFb); have HW1 := Aside0.mk (below_then HW0.out HW0.out.size hb); clear hb hFb hlb)
    | (go_at_call 174; refine (sqParse k (strOfNums bs) t0 x _ (tabW_below HT.out (below_step HBB.out HW1.out)) HH.out HL.out HNM.out).mono ?_; rintro e w2 ⟨gs, rfl, hms, hA, hb2⟩; have hgl : (gs.map sqVal).length = 10 := by { have h1 := congrArg List.length hms; have h2 := congrArg List.length HNM.out; simp only [List.length_map] at h1 h2 ⊢; rw [h1, h2]; rfl }; have HMS := Aside0.mk hms; have HA := Aside0.mk hA; have HB1 := Aside0.mk (below_step HBB.out HW1.out); have HB2 := Aside0.mk (below_step (below_step HBB.out HW1.out) hb2); have HX2 := Aside0.mk (blk_below HXB.out (below_then HW1.out HW1.out.size hb2)); have HLB := Aside0.mk (show gb < w1.heap.size from blk_lt (blk_below HXB.out HW1.out)); have HGL := Aside0.mk hgl; clear hms hA hb2 hgl)
    | ((with_reducible refine gate_ (.store 140 (.tmp 2) (.tmp 25)) rfl ?_); refine box_store rfl rfl 140 (.tmp 2) (.tmp 25) rfl gb 140 sqZero (.agg ⟨gs.map sqVal⟩) (gs.map sqVal) rfl rfl rfl (by rw [HGL.out]; exact sq_size) (sq_one2 gs) HX2.out (by rw [HGL.out]; rfl) ?_; intro W' hbk hgr))
   refine bodyPost_ret (results_cell_tmp rfl _ _ gb 140 _ (0, 0) _ rfl hbk Tryz.underlying140 rfl (by rw [show (⟨gs.map sqVal⟩ : Array Value).size = (gs.map sqVal).length from rfl, HGL.out]; exact sq_size)) rfl ?_
   exact ⟨gs, rfl, by simpa using HGL.out, HMS.out, sqAll_grown (fun p hp => ⟨Nat.le_trans HB1.out.size (HA.out p hp).1, (HA.out p hp).2⟩) hgr (fun p hp e => by have := (HA.out p hp).1; have := HLB.out; omega), pw_below_grown HB2.out (some gb) HB2.out.size hgr (fun k e => by cases e; exact HGB.out)⟩
  ·cases e
 ·cases h
end Go.Proofs.YtednjmngalmdkaaGreatDoor.GPC
end
section
/- impl.tree at Softirqs, impl.Softirqs: the door of /proc/softirqs. Conditions: sqTextF, nodeSqL; the tables as laid. -/
namespace Go.Proofs.YtednjmngalmdkaaGreatDoor.GPC
open Go Go.RowKit Go.Proofs.YtednjmngalmdkaaGreatDoorW.PrintWords Go.Proofs.YtednjmngalmdkaaGreatDoorW.PrintLast
set_option linter.unusedVariables false
set_option linter.unusedSimpArgs false
attribute [local go_sem] run_store_float
def nodeSq (k : Nat) (l0 l1 l2 l3 l4 l5 l6 l7 l8 l9 : List Int) : Option S43 := (impl_procfsSoftirqs.f k ⟨#[]⟩ l0 l1 l2 l3 l4 l5 l6 l7 l8 l9).map fun r => ⟨r.1, r.2.1, r.2.2.1, r.2.2.2.1, r.2.2.2.2.1, r.2.2.2.2.2.1, r.2.2.2.2.2.2.1, r.2.2.2.2.2.2.2⟩
def nodeSqL (k : Nat) (ls : List (List Int)) : Option S43 := match ls with
 | [l0, l1, l2, l3, l4, l5, l6, l7, l8, l9] => nodeSq k l0 l1 l2 l3 l4 l5 l6 l7 l8 l9
 | _ => none
def SqIn (w : World) (gs : List (Nat × List Int)) : Prop := ∀ p ∈ gs, p.2.length ≤ 100001 ∧ w.heap[p.1]? = some (sqRow p.2)
theorem SqIn_below {w w' : World} {gs : List (Nat × List Int)} (h : SqIn w gs) (hb : Below w.heap.size w w') : SqIn w' gs := fun p hp => ⟨(h p hp).1, blk_below (h p hp).2 hb⟩
theorem SqIn_grown {w w' : World} {g : Nat} {gs : List (Nat × List Int)} (h : SqIn w gs) (hg : w.grownBy w' (some g)) (hn : ∀ p ∈ gs, p.1 ≠ g) : SqIn w' gs := fun p hp => ⟨(h p hp).1, blk_grown (h p hp).2 hg (fun e => hn p hp (by cases e; rfl))⟩
theorem sqIn_of (k : Nat) (text : ByteArray) (ms : List (ByteArray × List Int)) (gs : List (Nat × List Int)) (w : World) (base : Nat) (h : sqTextF k text = some ms) (hms : gs.map Prod.snd = ms.map Prod.snd) (hA : sqAll w base gs) : SqIn w gs := fun p hp => by
 refine ⟨?_, (hA p hp).2⟩
 have h1 : p.2 ∈ ms.map Prod.snd := by rw [← hms]; exact List.mem_map.2 ⟨p, hp, rfl⟩
 obtain ⟨m, hm, e⟩ := List.mem_map.1 h1
 rw [← e]
 exact sqText_len h m hm
theorem sq_C {w : World} {g : Nat} {l : List Int} (hl : l.length ≤ 100001) (h : w.heap[g]? = some (sqRow l)) : Kd.C (Kd.int .u64) w (some ⟨g, 0, none⟩) l.length l := by
 refine ⟨rfl, by omega, fun hp => ⟨_, rfl, fun j p hj => ⟨[.int .u64 p], rfl, rfl, fun i u hu => ?_⟩⟩⟩
 cases i with
 | zero =>
  obtain rfl := Option.some.inj hu
  have h1 := blk_cell (show w.heap[g]? = some (.cells ⟨l.map (Value.int .u64)⟩ 35 (0, 0)) from h) j
  have h2 : (⟨l.map (Value.int .u64)⟩ : Array Value)[j]? = some (.int .u64 p) := by simp [hj]
  rw [h2] at h1
  have e : (⟨g, 0, none⟩ : Addr).add (j * (Kd.int .u64).sz + 0) = ⟨g, j, none⟩ := by
   show (⟨g, 0, none⟩ : Addr).add (j * 1 + 0) = _
   rw [Nat.mul_one, Nat.add_zero]
   unfold Addr.add
   by_cases h0 : j = 0 <;> simp [h0]
  rw [e]
  exact h1
 | succ i => cases hu
theorem node_sq (k : Nat) (p0 p1 p2 p3 p4 p5 p6 p7 p8 p9 : Nat × List Int) (n : S43) (w : World) (hA : SqIn w [p0, p1, p2, p3, p4, p5, p6, p7, p8, p9]) (h : nodeSq k p0.2 p1.2 p2.2 p3.2 p4.2 p5.2 p6.2 p7.2 p8.2 p9.2 = some n) : Calls Tryz.prog 119 #[.string ⟨#[]⟩, (.agg #[sqVal p0, sqVal p1, sqVal p2, sqVal p3, sqVal p4, sqVal p5, sqVal p6, sqVal p7, sqVal p8, sqVal p9])] w fun e w' => ∃ v7, e = .returned (nodeVal n v7) ∧ KidsV n w w' v7 ∧ Below w.heap.size w w' := by
 unfold nodeSq at h
 obtain ⟨⟨r1, r2, r3, r4, r5, r6, r7, r8⟩, hr, rfl⟩ := Option.map_eq_some_iff.1 h
 have hc : ∀ p ∈ [p0, p1, p2, p3, p4, p5, p6, p7, p8, p9], Kd.C (Kd.int .u64) w (some ⟨p.1, 0, none⟩) p.2.length p.2 := fun p hp => sq_C (hA p hp).1 (hA p hp).2
 refine (impl_procfsSoftirqs.calls k ⟨#[]⟩ (some ⟨p0.1, 0, none⟩) p0.2.length p0.2 (some ⟨p1.1, 0, none⟩) p1.2.length p1.2 (some ⟨p2.1, 0, none⟩) p2.2.length p2.2 (some ⟨p3.1, 0, none⟩) p3.2.length p3.2 (some ⟨p4.1, 0, none⟩) p4.2.length p4.2 (some ⟨p5.1, 0, none⟩) p5.2.length p5.2 (some ⟨p6.1, 0, none⟩) p6.2.length p6.2 (some ⟨p7.1, 0, none⟩) p7.2.length p7.2 (some ⟨p8.1, 0, none⟩) p8.2.length p8.2 (some ⟨p9.1, 0, none⟩) p9.2.length p9.2 r1 r2 r3 r4 r5 r6 r7 r8 w (hc p0 (by simp)) (Nat.le_refl _) (hc p1 (by simp)) (Nat.le_refl _) (hc p2 (by simp)) (Nat.le_refl _) (hc p3 (by simp)) (Nat.le_refl _) (hc p4 (by simp)) (Nat.le_refl _) (hc p5 (by simp)) (Nat.le_refl _) (hc p6 (by simp)) (Nat.le_refl _) (hc p7 (by simp)) (Nat.le_refl _) (hc p8 (by simp)) (Nat.le_refl _) (hc p9 (by simp)) (Nat.le_refl _) hr).mono ?_
 rintro e w' ⟨v7, rfl, ho, hb⟩
 exact ⟨v7, rfl, ho, hb⟩
set_option maxHeartbeats 8000000 in
set_option maxRecDepth 100000 in
theorem litSq (k : Nat) (p0 p1 p2 p3 p4 p5 p6 p7 p8 p9 : Nat × List Int) (n : S43) (w : World) (hA : SqIn w [p0, p1, p2, p3, p4, p5, p6, p7, p8, p9]) (h : nodeSq k p0.2 p1.2 p2.2 p3.2 p4.2 p5.2 p6.2 p7.2 p8.2 p9.2 = some n) :
  Calls Tryz.prog 118 #[(.agg #[sqVal p0, sqVal p1, sqVal p2, sqVal p3, sqVal p4, sqVal p5, sqVal p6, sqVal p7, sqVal p8, sqVal p9])] w fun e w' => ∃ v7, e = .returned (nodeVal n v7) ∧ KidsV n w w' v7 ∧ Below w.heap.size w w' := by
 have HN := Aside0.mk h
 have HA := Aside0.mk hA
 clear h hA
 go_enter Tryz.func118, Tryz.ntmps118
 go_wp2_with (first
   | ((with_reducible refine gate_dst (N := 1) rfl ?_); refine box_event ?hg (N := 1) ?hd (cs := #[sqVal p0, sqVal p1, sqVal p2, sqVal p3, sqVal p4, sqVal p5, sqVal p6, sqVal p7, sqVal p8, sqVal p9]) (t := 140) ?hr ?_; (case hd => rfl); (case hg => rfl); (case hr => first | (go_simp; done) | (go_simp; rfl)); intro gv hgv w0 hbox hb0; have HV := Aside0.mk hbox; have HB0 := Aside0.mk hb0; clear hgv hbox hb0)
   | ((with_reducible refine gate_dst (N := 2) rfl ?_); refine box_event ?hg (N := 2) ?hd (cs := nodeZero) (t := 43) ?hr ?_; (case hd => rfl); (case hg => rfl); (case hr => first | (go_simp; done) | (go_simp; rfl)); intro gb hgb w1 hbox hb1; have HBX := Aside0.mk hbox; have HB1 := Aside0.mk (below_then HB0.out HB0.out.size hb1); have hB1w := Aside0.mk hb1; have HGB := Aside0.mk (show w.heap.size ≤ gb by rw [hgb]; exact HB0.out.size); have HV1 := Aside0.mk (blk_below HV.out hb1); have v0 : w1.cell? ⟨gv, 0, none⟩ = some (sqVal p0) := (blk_cell HV1.out 0).trans rfl; have v1 : w1.cell? ⟨gv, 1, none⟩ = some (sqVal p1) := (blk_cell HV1.out 1).trans rfl; have v2 : w1.cell? ⟨gv, 2, none⟩ = some (sqVal p2) := (blk_cell HV1.out 2).trans rfl; have v3 : w1.cell? ⟨gv, 3, none⟩ = some (sqVal p3) := (blk_cell HV1.out 3).trans rfl; have v4 : w1.cell? ⟨gv, 4, none⟩ = some (sqVal p4) := (blk_cell HV1.out 4).trans rfl; have v5 : w1.cell? ⟨gv, 5, none⟩ = some (sqVal p5) := (blk_cell HV1.out 5).trans rfl; have v6 : w1.cell? ⟨gv, 6, none⟩ = some (sqVal p6) := (blk_cell HV1.out 6).trans rfl; have v7 : w1.cell? ⟨gv, 7, none⟩ = some (sqVal p7) := (blk_cell HV1.out 7).trans rfl; have v8 : w1.cell? ⟨gv, 8, none⟩ = some (sqVal p8) := (blk_cell HV1.out 8).trans rfl; have v9 : w1.cell? ⟨gv, 9, none⟩ = some (sqVal p9) := (blk_cell HV1.out 9).trans rfl; clear hgb hbox hb1)
   | (go_at_call 119; refine (node_sq k p0 p1 p2 p3 p4 p5 p6 p7 p8 p9 n _ (SqIn_below (SqIn_below HA.out HB0.out) hB1w.out) HN.out).mono ?_; rintro e w2 ⟨v7, rfl, ho, hb⟩; have HK := Aside0.mk ho; have HBX2 := Aside0.mk (blk_below HBX.out hb); have HLT := Aside0.mk (show gb < w1.heap.size from blk_lt HBX.out); have HB2 := Aside0.mk (below_then HB1.out HB1.out.size hb); clear ho hb)
   | ((with_reducible refine gate_ (.store 43 (.tmp 2) (.tmp 4)) rfl ?_); refine box_store rfl rfl 43 (.tmp 2) (.tmp 4) rfl gb 43 nodeZero (nodeVal n v7) (nodeCells n v7) rfl rfl rfl node_size (node_one HK.out.slice) HBX2.out rfl ?_; intro W' hbk hgr))
 refine bodyPost_ret (results_cell_row rfl _ _ gb 43 _ (0, 0) _ rfl hbk Tryz.underlying43 rfl node_size) rfl ?_
 refine ⟨v7, rfl, (HK.out.grown hgr HLT.out).lower HB1.out.size, pw_below_grown HB2.out (some gb) HB2.out.size hgr (fun k e => by cases e; exact HGB.out)⟩
theorem idleSq (p q : Addr) (w : World) :
  CallsD Tryz.prog 173 #[.pointer (some p), .pointer (some q)] .returning w fun e u' w' => e = .returned (.tuple #[]) ∧ u' = .returning ∧ w' = w := by
 refine callsD_of_wpS Tryz.func173 rfl fun c₀ cs hu => ?_
 apply wpS_seq
 apply wpS_region
 simp [wpOpsS, go_sem, recoverD, hu, Tryz.ntmps173, Exit.thenS]
 refine wpS_cond (t := false) (by simp [Act.eval, Array.replicate]) ?_
 simp only [Bool.false_eq_true, if_false]
 refine wpS_of_wp (wp_skip ?_)
 cases c₀
 simp_all [bodyPostS, results, Tryz.results173]
set_option maxHeartbeats 8000000 in
set_option maxRecDepth 100000 in
theorem treeSq (k : Nat) (text : ByteArray) (ms : List (ByteArray × List Int)) (n : S43) (w : World) (hT : TabW w) (h : sqTextF k text = some ms) (hn : nodeSqL k (ms.map Prod.snd) = some n) :
  Calls Tryz.prog 116 #[.func (.func 117) #[.agg #[.string text]] #[], .func (.func 118) #[] #[]] w fun e w' => ∃ v7, e = .returned (.tuple #[nodeVal n v7, .int .i64 0]) ∧ KidsV n w w' v7 ∧ Below w.heap.size w w' := by
 have hmf : ∀ (fn : Fn) (first cap : Array Value) (w : World), (Instr.makeFunc fn first cap).run Tryz.prog w = .ok (.func fn first cap) w := fun _ _ _ _ => rfl
 have HT := Aside0.mk hT
 have HL := Aside0.mk h
 have HN := Aside0.mk hn
 clear hT h hn
 go_enter_defers Tryz.func116, Tryz.ntmps116
 go_wp2_with (first
   | ((with_reducible refine gate_dst (N := 4) rfl ?_); refine box_event ?hg (N := 4) ?hd (cs := nodeZero) (t := 43) ?hr ?_; (case hd => rfl); (case hg => rfl); (case hr => first | (go_simp; done) | (go_simp; rfl)); intro gb hgb w1 hbox hb1; have HBX := Aside0.mk hbox; have HB1 := Aside0.mk hb1; have HGB := Aside0.mk hgb; clear hgb hbox hb1)
   | ((with_reducible refine gate_dst (N := 5) rfl ?_); refine box_event ?hg (N := 5) ?hd (cs := #[.int .i64 0]) (t := 3) ?hr ?_; (case hd => rfl); (case hg => rfl); (case hr => first | (go_simp; done) | (go_simp; rfl)); intro gc hgc w2 hboxc hb2; have HBC := Aside0.mk hboxc; have HBX2 := Aside0.mk (blk_below HBX.out hb2); have HB2 := Aside0.mk (below_then HB1.out HB1.out.size hb2); have HGC := Aside0.mk hgc; have HCG := Aside0.mk (show gb < gc by rw [hgc]; exact blk_lt HBX.out); have HWC := Aside0.mk (show w.heap.size ≤ gc by rw [hgc]; exact HB1.out.size); clear hgc hboxc hb2)
   | (go_at_call 117; refine (fsSoftirqs k text ms _ (tabW_below HT.out HB2.out) HL.out).mono ?_; rintro e w3 ⟨gs, rfl, hgl, hms, hA, hb3⟩; obtain ⟨p0, p1, p2, p3, p4, p5, p6, p7, p8, p9, rfl⟩ : ∃ p0 p1 p2 p3 p4 p5 p6 p7 p8 p9, gs = [p0, p1, p2, p3, p4, p5, p6, p7, p8, p9] := (by match gs, hgl with | [p0, p1, p2, p3, p4, p5, p6, p7, p8, p9], _ => exact ⟨p0, p1, p2, p3, p4, p5, p6, p7, p8, p9, rfl⟩); have hn2 := HN.out; rw [← hms] at hn2; have HN2 := Aside0.mk (show nodeSq k p0.2 p1.2 p2.2 p3.2 p4.2 p5.2 p6.2 p7.2 p8.2 p9.2 = some n from hn2); have HA3 := Aside0.mk (sqIn_of k text ms _ _ _ HL.out hms hA); clear hn2 hgl hms hA; have HBX3 := Aside0.mk (blk_below HBX2.out hb3); have HBC3 := Aside0.mk (blk_below HBC.out hb3); have HB3 := Aside0.mk (below_then HB2.out HB2.out.size hb3); clear hb3)
   | ((with_reducible refine gate_dst (N := 6) rfl ?_); refine box_event ?hg (N := 6) ?hd (cs := sqZero) (t := 140) ?hr ?_; (case hd => rfl); (case hg => rfl); (case hr => first | (go_simp; done) | (go_simp; rfl)); intro gv hgv w3a hbox hb; have HV := Aside0.mk hbox; have HBX3a := Aside0.mk (blk_below HBX3.out hb); have HBC3a := Aside0.mk (blk_below HBC3.out hb); have HB3a := Aside0.mk (below_then HB3.out HB3.out.size hb); have HA3a := Aside0.mk (SqIn_below HA3.out hb); have HNG := Aside0.mk (show ∀ p ∈ [p0, p1, p2, p3, p4, p5, p6, p7, p8, p9], p.1 ≠ gv from fun p hp e => by have := blk_lt (HA3.out p hp).2; rw [hgv] at e; omega); have HGV := Aside0.mk (show gb ≠ gv ∧ gc ≠ gv ∧ w.heap.size ≤ gv by rw [hgv]; have h1 := blk_lt HBX3.out; have h2 := blk_lt HBC3.out; have h3 := HB3.out.size; exact ⟨by omega, by omega, h3⟩); clear hgv hbox hb)
   | ((with_reducible refine gate_ (.store 140 (.tmp 6) (.tmp 12)) rfl ?_); refine box_store rfl rfl 140 (.tmp 6) (.tmp 12) rfl gv 140 sqZero (.agg #[sqVal p0, sqVal p1, sqVal p2, sqVal p3, sqVal p4, sqVal p5, sqVal p6, sqVal p7, sqVal p8, sqVal p9]) [sqVal p0, sqVal p1, sqVal p2, sqVal p3, sqVal p4, sqVal p5, sqVal p6, sqVal p7, sqVal p8, sqVal p9] rfl rfl rfl sq_size (sq_one2 [p0, p1, p2, p3, p4, p5, p6, p7, p8, p9]) HV.out rfl ?_; intro w3b hbv hgr; have HBX3b := Aside0.mk (blk_grown HBX3a.out hgr (by have := HGV.out.1; intro e; injection e with e; exact this e)); have HBC3b := Aside0.mk (blk_grown HBC3a.out hgr (by have := HGV.out.2.1; intro e; injection e with e; exact this e)); have HB3b := Aside0.mk (pw_below_grown HB3a.out (some gv) HB3a.out.size hgr (fun k e => by cases e; exact HGV.out.2.2)); have v0 : w3b.cell? ⟨gv, 0, none⟩ = some (sqVal p0) := (blk_cell hbv 0).trans rfl; have v1 : w3b.cell? ⟨gv, 1, none⟩ = some (sqVal p1) := (blk_cell hbv 1).trans rfl; have v2 : w3b.cell? ⟨gv, 2, none⟩ = some (sqVal p2) := (blk_cell hbv 2).trans rfl; have v3 : w3b.cell? ⟨gv, 3, none⟩ = some (sqVal p3) := (blk_cell hbv 3).trans rfl; have v4 : w3b.cell? ⟨gv, 4, none⟩ = some (sqVal p4) := (blk_cell hbv 4).trans rfl; have v5 : w3b.cell? ⟨gv, 5, none⟩ = some (sqVal p5) := (blk_cell hbv 5).trans rfl; have v6 : w3b.cell? ⟨gv, 6, none⟩ = some (sqVal p6) := (blk_cell hbv 6).trans rfl; have v7 : w3b.cell? ⟨gv, 7, none⟩ = some (sqVal p7) := (blk_cell hbv 7).trans rfl; have v8 : w3b.cell? ⟨gv, 8, none⟩ = some (sqVal p8) := (blk_cell hbv 8).trans rfl; have v9 : w3b.cell? ⟨gv, 9, none⟩ = some (sqVal p9) := (blk_cell hbv 9).trans rfl; have HA3b := Aside0.mk (SqIn_grown HA3a.out hgr HNG.out); clear hbv hgr)
   | (go_at_call 118; refine (litSq k p0 p1 p2 p3 p4 p5 p6 p7 p8 p9 n _ HA3b.out HN2.out).mono ?_; rintro e w4 ⟨v7, rfl, ho, hb4⟩; have HK := Aside0.mk ho; have HBX4 := Aside0.mk (blk_below HBX3b.out hb4); have HBC4 := Aside0.mk (blk_below HBC3b.out hb4); have HB4 := Aside0.mk (below_then HB3b.out HB3b.out.size hb4); have HLC := Aside0.mk (show gc < w3b.heap.size from blk_lt HBC3b.out); clear ho hb4)
   | ((with_reducible refine gate_ (.store 43 (.tmp 4) (.tmp 19)) rfl ?_); refine box_store rfl rfl 43 (.tmp 4) (.tmp 19) rfl gb 43 nodeZero (nodeVal n v7) (nodeCells n v7) rfl rfl rfl node_size (node_one HK.out.slice) HBX4.out rfl ?_; intro W5 hbk hgr; have HBK5 := Aside0.mk hbk; have HK5 := Aside0.mk (HK.out.grown hgr (Nat.lt_trans HCG.out HLC.out)); have HBC5 := Aside0.mk (blk_grown HBC4.out hgr (by have := HCG.out; intro e; injection e with e; omega)); have HB5 := Aside0.mk (pw_below_grown HB4.out (some gb) HB4.out.size hgr (fun k e => by cases e; rw [HGB.out]; exact Nat.le_refl _)); have hfc := blk_frozen HBC5.out 0; have hcc : W5.cell? ⟨gc, 0, none⟩ = some (.int .i64 0) := (blk_cell HBC5.out 0).trans rfl; clear hbk hgr))
 have hbk6 := blk_far HBK5.out (p := ⟨gc, 0, none⟩) (by have := HCG.out; show gb ≠ gc; omega) (.int .i64 0)
 have hbc6 := blk_put HBC5.out 0 (.int .i64 0) rfl
 have HB6 := below_set HB5.out HWC.out (j := 0) (v := .int .i64 0)
 have HK6 := (HK5.out.grown (grown_set W5 gc 0 (.int .i64 0)) HLC.out).lower HB3b.out.size
 generalize W5.setCell ⟨gc, 0, none⟩ (.int .i64 0) = W6 at hbk6 hbc6 HB6 HK6 ⊢
 have cc : W6.cell? ⟨gc, 0, none⟩ = some (.int .i64 0) := (blk_cell hbc6 0).trans rfl
 have cb0 : W6.cell? ⟨gb, 0, none⟩ = some (.string n.f0) := (blk_cell hbk6 0).trans rfl
 have cb1 : W6.cell? ⟨gb, 1, none⟩ = some (.int .i64 n.f1) := (blk_cell hbk6 1).trans rfl
 have cb2 : W6.cell? ⟨gb, 2, none⟩ = some (.bool n.f2) := (blk_cell hbk6 2).trans rfl
 have cb3 : W6.cell? ⟨gb, 3, none⟩ = some (.int .i64 n.f3) := (blk_cell hbk6 3).trans rfl
 have cb4 : W6.cell? ⟨gb, 4, none⟩ = some (.int .u64 n.f4) := (blk_cell hbk6 4).trans rfl
 have cb5 : W6.cell? ⟨gb, 5, none⟩ = some (.float .f64 n.f5) := (blk_cell hbk6 5).trans rfl
 have cb6 : W6.cell? ⟨gb, 6, none⟩ = some (.string n.f6) := (blk_cell hbk6 6).trans rfl
 have cb7 : W6.cell? ⟨gb, 7, none⟩ = some (v7) := (blk_cell hbk6 7).trans rfl
 refine leaves_cons (f := 173) (args := #[.pointer (some ⟨gb, 0, none⟩), .pointer (some ⟨gc, 0, none⟩)]) (by simp) (by simp [go_sem]) ?_
 refine (idleSq _ _ _).mono ?_
 rintro e u' w'' ⟨rfl, rfl, rfl⟩
 simp [Leaves, settle, results, Tryz.results116, go_sem, cb0, cb1, cb2, cb3, cb4, cb5, cb6, cb7, cc]
 exact ⟨v7, rfl, HK6, HB6⟩
set_option maxHeartbeats 8000000 in
set_option maxRecDepth 100000 in
theorem implSoftirqs (k : Nat) (text : ByteArray) (ms : List (ByteArray × List Int)) (n : S43) (w : World) (hT : TabW w) (h : sqTextF k text = some ms) (hn : nodeSqL k (ms.map Prod.snd) = some n) :
  Calls Tryz.prog 38 #[.string text] w fun e w' => ∃ v7, e = .returned (.tuple #[nodeVal n v7, .int .i64 0]) ∧ KidsV n w w' v7 ∧ Below w.heap.size w w' := by
 have hmf : ∀ (fn : Fn) (first cap : Array Value) (w : World), (Instr.makeFunc fn first cap).run Tryz.prog w = .ok (.func fn first cap) w := fun _ _ _ _ => rfl
 have HT := Aside0.mk hT
 have HL := Aside0.mk h
 have HN := Aside0.mk hn
 clear hT h hn
 go_enter Tryz.func38, Tryz.ntmps38
 go_wp2_with (first
   | ((with_reducible refine gate_dst (N := 2) rfl ?_); refine box_event ?hg (N := 2) ?hd (cs := nodeZero) (t := 43) ?hr ?_; (case hd => rfl); (case hg => rfl); (case hr => first | (go_simp; done) | (go_simp; rfl)); intro gb hgb w1 hbox hb1; have HBX := Aside0.mk hbox; have HB1 := Aside0.mk hb1; have HGB := Aside0.mk hgb; clear hgb hbox hb1)
   | (go_at_call 57; refine (procfs_TextFS.calls text text _ rfl).mono ?_; rintro e w2 ⟨rfl, hb2⟩; have HBX2 := Aside0.mk (blk_below HBX.out hb2); have HB2 := Aside0.mk (below_then HB1.out HB1.out.size hb2); clear hb2)
   | (go_at_call 116; refine (treeSq k text ms n _ (tabW_below HT.out HB2.out) HL.out HN.out).mono ?_; rintro e w3 ⟨v7, rfl, ho, hb3⟩; have HK := Aside0.mk ho; have HBX3 := Aside0.mk (blk_below HBX2.out hb3); have HB3 := Aside0.mk (below_then HB2.out HB2.out.size hb3); have HLT := Aside0.mk (show gb < w2.heap.size from blk_lt HBX2.out); clear ho hb3)
   | ((with_reducible refine gate_ (.store 43 (.tmp 2) (.tmp 8)) rfl ?_); refine box_store rfl rfl 43 (.tmp 2) (.tmp 8) rfl gb 43 nodeZero (nodeVal n v7) (nodeCells n v7) rfl rfl rfl node_size (node_one HK.out.slice) HBX3.out rfl ?_; intro W' hbk hgr))
 refine bodyPost_ret (results_cell_tmp rfl _ _ gb 43 _ (0, 0) _ rfl hbk Tryz.underlying43 rfl node_size) rfl ?_
 refine ⟨v7, rfl, (HK.out.grown hgr HLT.out).lower HB2.out.size, pw_below_grown HB3.out (some gb) HB3.out.size hgr (fun k e => by cases e; rw [HGB.out]; exact Nat.le_refl _)⟩
def doorSoftirqs (s : ByteArray) (n : S43) : Prop := ∃ k ms, sqTextF k s = some ms ∧ nodeSqL k (ms.map Prod.snd) = some n
theorem doorSoftirqs_calls (text : ByteArray) (n : S43) (w : World) (hT : TabW w) (h : doorSoftirqs text n) :
  Calls Tryz.prog 38 #[.string text] w fun e w' => ∃ v7, e = .returned (.tuple #[nodeVal n v7, .int .i64 0]) ∧ KidsV n w w' v7 ∧ Below w.heap.size w w' := by
 obtain ⟨k, ms, h1, h2⟩ := h
 exact implSoftirqs k text ms n w hT h1 h2
end Go.Proofs.YtednjmngalmdkaaGreatDoor.GPC
end
section
namespace Go.Proofs.YtednjmngalmdkaaGreatDoor.GPC
open Go.RowKit Go.Proofs.YtednjmngalmdkaaGreatDoorW.PrintWords Go.Proofs.YtednjmngalmdkaaGreatDoorW.PrintLast Go.Proofs.YtednjmngalmdkaaGreatDoorW.PrintMore
attribute [local go_sem] max2_int min2_int max_two min_two max_three min_three max_four min_four   -- for this text's walks alone
set_option linter.unusedVariables false
set_option linter.unusedSimpArgs false

attribute [local go_sem] run_store_float
/-! ### spec_Left: function 106 -/
def spec_Left.l0 : Nat → ByteArray → Int → Option (ByteArray)
 | 0, _, _ => none
 | k + 1, x0, x1 => if (x0.size : Int) < x1 then (if x0.size + 1 ≤ 9223372036854775807 then (spec_Left.l0 k (x0 ++ (⟨#[32]⟩ : ByteArray)) x1) else (none)) else (some x0)
def spec_Left.f (k : Nat) (a0 : ByteArray) (a1 : Int) : Option (ByteArray) := spec_Left.l0 k a0 a1
theorem spec_Left.mono_l : ∀ k, (∀ y0 y1, LeO (spec_Left.l0 k y0 y1) (spec_Left.l0 (k + 1) y0 y1))
 | 0 => fun _ _ r h => by simp [spec_Left.l0] at h
 | k + 1 => by
  have ih0 := spec_Left.mono_l k
  ·intro y0 y1
   unfold spec_Left.l0
   repeat' first
   | (with_reducible exact ih0 _ _)
   | (with_reducible exact LeO.refl _)
   | (with_reducible exact LeO.none _)
   | (with_reducible refine LeO.ite ?_ ?_)
   | (with_reducible refine LeO.bind ?_ (fun _ => ?_))
   | exact ih0 _ _
   | exact LeO.none _
   | refine LeO.ite ?_ ?_
   | refine LeO.bind ?_ (fun _ => ?_)
theorem spec_Left.mono : ∀ a0 a1 k, LeO (spec_Left.f k a0 a1) (spec_Left.f (k + 1) a0 a1) := by
 intro a0 a1 k
 have ih0 := spec_Left.mono_l k
 unfold spec_Left.f
 repeat' first
   | (with_reducible exact ih0 _ _)
   | (with_reducible exact LeO.refl _)
   | (with_reducible exact LeO.none _)
   | (with_reducible refine LeO.ite ?_ ?_)
   | (with_reducible refine LeO.bind ?_ (fun _ => ?_))
   | exact ih0 _ _
   | exact LeO.none _
   | refine LeO.ite ?_ ?_
   | refine LeO.bind ?_ (fun _ => ?_)
set_option maxHeartbeats 8000000 in
set_option maxRecDepth 100000 in
theorem spec_Left.calls (k : Nat) (a0 : ByteArray) (a1 : Int) (r : ByteArray) (w : World) (h : spec_Left.f k a0 a1 = some r) :
  Calls Tryz.prog 106 #[.string a0, .int .i64 a1] w fun e w' => e = .returned (.string r) ∧ Drawn0 w w' := by
 have H : (spec_Left.l0 k a0 a1) = some r := h
 clear h
 have H' := Aside0.mk H
 clear H
 go_enter Tryz.func106, Tryz.ntmps106
 go_wp2
 go_loopg [0] k (fun kq v0 w' => ∃ (x0_1 : ByteArray), v0 = .string x0_1 ∧ Aside0 (spec_Left.l0 kq x0_1 a1 = some r) ∧ Aside0 (kq ≤ k) ∧ Drawn0 w w')
 case atStart => exact ⟨(a0), (by first | rfl | (simp; done) | (simp [*]; done)), H', ⟨Nat.le_refl _⟩, by repeat (first | exact Drawn0.refl _ | apply Drawn0.step)⟩
 case round =>
  clear H'
  try clear c1
  try clear p2
  obtain ⟨x0_1, rfl, HA, HK1, ⟨m1, rfl⟩⟩ := hrel
  cases gk with
  | zero => exact absurd HA.out (by simp [spec_Left.l0])
  | succ k1 =>
   have H := HA.out
   clear HA
   simp only [spec_Left.l0] at H
   by_cases c3 : (x0_1.size : Int) < a1
   ·rw [if_pos c3] at H
    have c3b0 : decide ((x0_1.size : Int) < a1) = true := decide_eq_true c3
    clear c3
    replace H := guard_inv H
    obtain ⟨c4, H⟩ := H
    have c4b0 := eq_true c4
    have c4b1 := decide_eq_true c4
    try have c4b2 := eq_false (Nat.not_lt.2 c4)
    have H' := Aside0.mk H
    clear H
    go_wp2
    go_roundg k1
    case measure => have := HK1.out; omega
    case rel => exact ⟨(x0_1 ++ (⟨#[32]⟩ : ByteArray)), (by first | rfl | (simp; done) | (simp [*]; done)), H', ⟨by have := HK1.out; omega⟩, by repeat (first | exact Drawn0.refl _ | apply Drawn0.step)⟩
   ·rw [if_neg c3] at H
    have c3b0 : decide ((x0_1.size : Int) < a1) = false := decide_eq_false c3
    clear c3
    obtain rfl := Option.some.inj H
    go_wp2
    go_ret
    exact ⟨by first | rfl | (simp; done) | (simp [*]; done), by repeat (first | exact Drawn0.refl _ | apply Drawn0.step)⟩
end Go.Proofs.YtednjmngalmdkaaGreatDoor.GPC
end
section
namespace Go.Proofs.YtednjmngalmdkaaGreatDoor.GPC
open Go.RowKit Go.Proofs.YtednjmngalmdkaaGreatDoorW.PrintWords Go.Proofs.YtednjmngalmdkaaGreatDoorW.PrintLast Go.Proofs.YtednjmngalmdkaaGreatDoorW.PrintMore
attribute [local go_sem] max2_int min2_int max_two min_two max_three min_three max_four min_four   -- for this text's walks alone
set_option linter.unusedVariables false
set_option linter.unusedSimpArgs false
structure S136 where
 f0 : ByteArray
 f1 : ByteArray
def z136 : S136 := ⟨(⟨#[]⟩ : ByteArray), (⟨#[]⟩ : ByteArray)⟩
def k136 : Kd S136 := Kd.iso (Kd.pair Kd.string Kd.string) (fun x : S136 => (x.f0, x.f1))
theorem k136_open {w : World} {x : S136} {cs : List Value} (h : k136.K w x cs) : cs = [.string x.f0, .string x.f1] := by
 obtain ⟨_, _, rfl, rfl, rfl⟩ := h
 exact rfl
theorem k136_mkM (w : World) (base : Nat) (ok : Nat → Prop) (x : S136)  : k136.M w base ok x [.string x.f0, .string x.f1] := ⟨[.string x.f0], [.string x.f1], rfl, rfl, rfl⟩
def rd_T136 (xs : List S136) (i : Int) : S136 := xs.getD i.toNat z136
theorem at_T136 {w : World} {A : Option Addr} {n : Nat} {xs : List S136} (h : Kd.C k136 w A n xs) (i : Int) (h0 : 0 ≤ i) (h1 : i < n) : ∃ ad , A = some ad ∧ w.cell? (ad.add (i.toNat * 2)) = some (.string (rd_T136 xs i).f0) ∧ w.cell? ⟨(ad.add (i.toNat * 2)).block, (ad.add (i.toNat * 2)).off + 1, none⟩ = some (.string (rd_T136 xs i).f1) := by
 obtain ⟨ad, c, e, _, hK, hc0⟩ := Kd.C_get h z136 i h0 h1
 have hc : ∀ j u, c[j]? = some u → w.cell? (ad.add (i.toNat * 2 + j)) = some u := hc0
 obtain rfl := k136_open hK
 exact ⟨ad, e, hc 0 _ rfl, by rw [← add_field _ _ 1 (by omega)]; exact hc 1 _ rfl⟩
end Go.Proofs.YtednjmngalmdkaaGreatDoor.GPC
end
section
namespace Go.Proofs.YtednjmngalmdkaaGreatDoor.GPC
open Go.RowKit Go.Proofs.YtednjmngalmdkaaGreatDoorW.PrintWords Go.Proofs.YtednjmngalmdkaaGreatDoorW.PrintLast Go.Proofs.YtednjmngalmdkaaGreatDoorW.PrintMore
attribute [local go_sem] max2_int min2_int max_two min_two max_three min_three max_four min_four   -- for this text's walks alone
set_option linter.unusedVariables false
set_option linter.unusedSimpArgs false

attribute [local go_sem] run_store_float
/-! ### spec_softNames: function 114 -/
def spec_softNames.f  : Option ((List (S136))) := some (([(⟨(⟨#[72, 105]⟩ : ByteArray), (⟨#[72, 73]⟩ : ByteArray)⟩ : S136), (⟨(⟨#[84, 105, 109, 101, 114]⟩ : ByteArray), (⟨#[84, 73, 77, 69, 82]⟩ : ByteArray)⟩ : S136), (⟨(⟨#[78, 101, 116, 84, 120]⟩ : ByteArray), (⟨#[78, 69, 84, 95, 84, 88]⟩ : ByteArray)⟩ : S136), (⟨(⟨#[78, 101, 116, 82, 120]⟩ : ByteArray), (⟨#[78, 69, 84, 95, 82, 88]⟩ : ByteArray)⟩ : S136), (⟨(⟨#[66, 108, 111, 99, 107]⟩ : ByteArray), (⟨#[66, 76, 79, 67, 75]⟩ : ByteArray)⟩ : S136), (⟨(⟨#[73, 82, 81, 80, 111, 108, 108]⟩ : ByteArray), (⟨#[73, 82, 81, 95, 80, 79, 76, 76]⟩ : ByteArray)⟩ : S136), (⟨(⟨#[84, 97, 115, 107, 108, 101, 116]⟩ : ByteArray), (⟨#[84, 65, 83, 75, 76, 69, 84]⟩ : ByteArray)⟩ : S136), (⟨(⟨#[83, 99, 104, 101, 100]⟩ : ByteArray), (⟨#[83, 67, 72, 69, 68]⟩ : ByteArray)⟩ : S136), (⟨(⟨#[72, 82, 84, 105, 109, 101, 114]⟩ : ByteArray), (⟨#[72, 82, 84, 73, 77, 69, 82]⟩ : ByteArray)⟩ : S136), (⟨(⟨#[82, 67, 85]⟩ : ByteArray), (⟨#[82, 67, 85]⟩ : ByteArray)⟩ : S136)] : List (S136)))
set_option maxHeartbeats 8000000 in
set_option maxRecDepth 100000 in
theorem spec_softNames.calls  (r : List (S136)) (w : World) (h : spec_softNames.f  = some r) :
  Calls Tryz.prog 114 #[] w fun e w' => ∃ v0_ : Value, e = .returned (v0_) ∧ Kd.R k136 136 w' w.heap.size (fun _ => True) v0_ r ∧ Below w.heap.size w w' := by
 have hu136 := Tryz.underlying136
 have HB := Aside0.mk (Below.refl w.heap.size w)
 have H : (some (([(⟨(⟨#[72, 105]⟩ : ByteArray), (⟨#[72, 73]⟩ : ByteArray)⟩ : S136), (⟨(⟨#[84, 105, 109, 101, 114]⟩ : ByteArray), (⟨#[84, 73, 77, 69, 82]⟩ : ByteArray)⟩ : S136), (⟨(⟨#[78, 101, 116, 84, 120]⟩ : ByteArray), (⟨#[78, 69, 84, 95, 84, 88]⟩ : ByteArray)⟩ : S136), (⟨(⟨#[78, 101, 116, 82, 120]⟩ : ByteArray), (⟨#[78, 69, 84, 95, 82, 88]⟩ : ByteArray)⟩ : S136), (⟨(⟨#[66, 108, 111, 99, 107]⟩ : ByteArray), (⟨#[66, 76, 79, 67, 75]⟩ : ByteArray)⟩ : S136), (⟨(⟨#[73, 82, 81, 80, 111, 108, 108]⟩ : ByteArray), (⟨#[73, 82, 81, 95, 80, 79, 76, 76]⟩ : ByteArray)⟩ : S136), (⟨(⟨#[84, 97, 115, 107, 108, 101, 116]⟩ : ByteArray), (⟨#[84, 65, 83, 75, 76, 69, 84]⟩ : ByteArray)⟩ : S136), (⟨(⟨#[83, 99, 104, 101, 100]⟩ : ByteArray), (⟨#[83, 67, 72, 69, 68]⟩ : ByteArray)⟩ : S136), (⟨(⟨#[72, 82, 84, 105, 109, 101, 114]⟩ : ByteArray), (⟨#[72, 82, 84, 73, 77, 69, 82]⟩ : ByteArray)⟩ : S136), (⟨(⟨#[82, 67, 85]⟩ : ByteArray), (⟨#[82, 67, 85]⟩ : ByteArray)⟩ : S136)] : List (S136)))) = some r := h
 clear h
 obtain ⟨y109, hy109⟩ : ∃ y_ : List (S136), y_ = (([(⟨(⟨#[72, 105]⟩ : ByteArray), (⟨#[72, 73]⟩ : ByteArray)⟩ : S136), (⟨(⟨#[84, 105, 109, 101, 114]⟩ : ByteArray), (⟨#[84, 73, 77, 69, 82]⟩ : ByteArray)⟩ : S136), (⟨(⟨#[78, 101, 116, 84, 120]⟩ : ByteArray), (⟨#[78, 69, 84, 95, 84, 88]⟩ : ByteArray)⟩ : S136), (⟨(⟨#[78, 101, 116, 82, 120]⟩ : ByteArray), (⟨#[78, 69, 84, 95, 82, 88]⟩ : ByteArray)⟩ : S136), (⟨(⟨#[66, 108, 111, 99, 107]⟩ : ByteArray), (⟨#[66, 76, 79, 67, 75]⟩ : ByteArray)⟩ : S136), (⟨(⟨#[73, 82, 81, 80, 111, 108, 108]⟩ : ByteArray), (⟨#[73, 82, 81, 95, 80, 79, 76, 76]⟩ : ByteArray)⟩ : S136), (⟨(⟨#[84, 97, 115, 107, 108, 101, 116]⟩ : ByteArray), (⟨#[84, 65, 83, 75, 76, 69, 84]⟩ : ByteArray)⟩ : S136), (⟨(⟨#[83, 99, 104, 101, 100]⟩ : ByteArray), (⟨#[83, 67, 72, 69, 68]⟩ : ByteArray)⟩ : S136), (⟨(⟨#[72, 82, 84, 105, 109, 101, 114]⟩ : ByteArray), (⟨#[72, 82, 84, 73, 77, 69, 82]⟩ : ByteArray)⟩ : S136), (⟨(⟨#[82, 67, 85]⟩ : ByteArray), (⟨#[82, 67, 85]⟩ : ByteArray)⟩ : S136)] : List (S136))) := ⟨_, rfl⟩
 replace H : (some y109) = some r := by first | (rw [hy109]; with_reducible exact H) | (have H2_ := (Option.bind_some _ _).symm.trans H; rw [hy109]; with_reducible exact H2_) | (have H2_ := (Option.bind_some _ _).symm.trans H; with_reducible exact H2_) | with_reducible exact H | (rw [hy109]; exact H) | exact H
 have Ny109 := Aside0.mk hy109
 clear hy109
 obtain rfl := Option.some.inj H
 go_enter Tryz.func114, Tryz.ntmps114
 go_wp2_with (first | ((with_reducible refine gate_dst (N := 11) rfl ?_); refine Kd.R_lit k136 _ 136 ?hg (N := 11) ?hd (xs := ([(⟨(⟨#[72, 105]⟩ : ByteArray), (⟨#[72, 73]⟩ : ByteArray)⟩ : S136), (⟨(⟨#[84, 105, 109, 101, 114]⟩ : ByteArray), (⟨#[84, 73, 77, 69, 82]⟩ : ByteArray)⟩ : S136), (⟨(⟨#[78, 101, 116, 84, 120]⟩ : ByteArray), (⟨#[78, 69, 84, 95, 84, 88]⟩ : ByteArray)⟩ : S136), (⟨(⟨#[78, 101, 116, 82, 120]⟩ : ByteArray), (⟨#[78, 69, 84, 95, 82, 88]⟩ : ByteArray)⟩ : S136), (⟨(⟨#[66, 108, 111, 99, 107]⟩ : ByteArray), (⟨#[66, 76, 79, 67, 75]⟩ : ByteArray)⟩ : S136), (⟨(⟨#[73, 82, 81, 80, 111, 108, 108]⟩ : ByteArray), (⟨#[73, 82, 81, 95, 80, 79, 76, 76]⟩ : ByteArray)⟩ : S136), (⟨(⟨#[84, 97, 115, 107, 108, 101, 116]⟩ : ByteArray), (⟨#[84, 65, 83, 75, 76, 69, 84]⟩ : ByteArray)⟩ : S136), (⟨(⟨#[83, 99, 104, 101, 100]⟩ : ByteArray), (⟨#[83, 67, 72, 69, 68]⟩ : ByteArray)⟩ : S136), (⟨(⟨#[72, 82, 84, 105, 109, 101, 114]⟩ : ByteArray), (⟨#[72, 82, 84, 73, 77, 69, 82]⟩ : ByteArray)⟩ : S136), (⟨(⟨#[82, 67, 85]⟩ : ByteArray), (⟨#[82, 67, 85]⟩ : ByteArray)⟩ : S136)] : List (S136))) (inner := [.string (⟨#[72, 105]⟩ : ByteArray), .string (⟨#[72, 73]⟩ : ByteArray), .string (⟨#[84, 105, 109, 101, 114]⟩ : ByteArray), .string (⟨#[84, 73, 77, 69, 82]⟩ : ByteArray), .string (⟨#[78, 101, 116, 84, 120]⟩ : ByteArray), .string (⟨#[78, 69, 84, 95, 84, 88]⟩ : ByteArray), .string (⟨#[78, 101, 116, 82, 120]⟩ : ByteArray), .string (⟨#[78, 69, 84, 95, 82, 88]⟩ : ByteArray), .string (⟨#[66, 108, 111, 99, 107]⟩ : ByteArray), .string (⟨#[66, 76, 79, 67, 75]⟩ : ByteArray), .string (⟨#[73, 82, 81, 80, 111, 108, 108]⟩ : ByteArray), .string (⟨#[73, 82, 81, 95, 80, 79, 76, 76]⟩ : ByteArray), .string (⟨#[84, 97, 115, 107, 108, 101, 116]⟩ : ByteArray), .string (⟨#[84, 65, 83, 75, 76, 69, 84]⟩ : ByteArray), .string (⟨#[83, 99, 104, 101, 100]⟩ : ByteArray), .string (⟨#[83, 67, 72, 69, 68]⟩ : ByteArray), .string (⟨#[72, 82, 84, 105, 109, 101, 114]⟩ : ByteArray), .string (⟨#[72, 82, 84, 73, 77, 69, 82]⟩ : ByteArray), .string (⟨#[82, 67, 85]⟩ : ByteArray), .string (⟨#[82, 67, 85]⟩ : ByteArray)]) (ok := fun _ => True) (okp := fun _ => True) ?hr ?hp (fun _ hk => hk) trivial (Below.refl _ _) (Nat.le_refl _) (by simp) ?_; (case hd => rfl); (case hg => rfl); (case hr => first | (go_simp; done) | (go_simp; rfl)); (case hp => exact (Reps.c2 (show Kd.M k136 _ _ _ (⟨(⟨#[72, 105]⟩ : ByteArray), (⟨#[72, 73]⟩ : ByteArray)⟩ : S136) [.string (⟨#[72, 105]⟩ : ByteArray), .string (⟨#[72, 73]⟩ : ByteArray)] from (k136_mkM _ _ _ (⟨(⟨#[72, 105]⟩ : ByteArray), (⟨#[72, 73]⟩ : ByteArray)⟩ : S136) )) (Reps.c2 (show Kd.M k136 _ _ _ (⟨(⟨#[84, 105, 109, 101, 114]⟩ : ByteArray), (⟨#[84, 73, 77, 69, 82]⟩ : ByteArray)⟩ : S136) [.string (⟨#[84, 105, 109, 101, 114]⟩ : ByteArray), .string (⟨#[84, 73, 77, 69, 82]⟩ : ByteArray)] from (k136_mkM _ _ _ (⟨(⟨#[84, 105, 109, 101, 114]⟩ : ByteArray), (⟨#[84, 73, 77, 69, 82]⟩ : ByteArray)⟩ : S136) )) (Reps.c2 (show Kd.M k136 _ _ _ (⟨(⟨#[78, 101, 116, 84, 120]⟩ : ByteArray), (⟨#[78, 69, 84, 95, 84, 88]⟩ : ByteArray)⟩ : S136) [.string (⟨#[78, 101, 116, 84, 120]⟩ : ByteArray), .string (⟨#[78, 69, 84, 95, 84, 88]⟩ : ByteArray)] from (k136_mkM _ _ _ (⟨(⟨#[78, 101, 116, 84, 120]⟩ : ByteArray), (⟨#[78, 69, 84, 95, 84, 88]⟩ : ByteArray)⟩ : S136) )) (Reps.c2 (show Kd.M k136 _ _ _ (⟨(⟨#[78, 101, 116, 82, 120]⟩ : ByteArray), (⟨#[78, 69, 84, 95, 82, 88]⟩ : ByteArray)⟩ : S136) [.string (⟨#[78, 101, 116, 82, 120]⟩ : ByteArray), .string (⟨#[78, 69, 84, 95, 82, 88]⟩ : ByteArray)] from (k136_mkM _ _ _ (⟨(⟨#[78, 101, 116, 82, 120]⟩ : ByteArray), (⟨#[78, 69, 84, 95, 82, 88]⟩ : ByteArray)⟩ : S136) )) (Reps.c2 (show Kd.M k136 _ _ _ (⟨(⟨#[66, 108, 111, 99, 107]⟩ : ByteArray), (⟨#[66, 76, 79, 67, 75]⟩ : ByteArray)⟩ : S136) [.string (⟨#[66, 108, 111, 99, 107]⟩ : ByteArray), .string (⟨#[66, 76, 79, 67, 75]⟩ : ByteArray)] from (k136_mkM _ _ _ (⟨(⟨#[66, 108, 111, 99, 107]⟩ : ByteArray), (⟨#[66, 76, 79, 67, 75]⟩ : ByteArray)⟩ : S136) )) (Reps.c2 (show Kd.M k136 _ _ _ (⟨(⟨#[73, 82, 81, 80, 111, 108, 108]⟩ : ByteArray), (⟨#[73, 82, 81, 95, 80, 79, 76, 76]⟩ : ByteArray)⟩ : S136) [.string (⟨#[73, 82, 81, 80, 111, 108, 108]⟩ : ByteArray), .string (⟨#[73, 82, 81, 95, 80, 79, 76, 76]⟩ : ByteArray)] from (k136_mkM _ _ _ (⟨(⟨#[73, 82, 81, 80, 111, 108, 108]⟩ : ByteArray), (⟨#[73, 82, 81, 95, 80, 79, 76, 76]⟩ : ByteArray)⟩ : S136) )) (Reps.c2 (show Kd.M k136 _ _ _ (⟨(⟨#[84, 97, 115, 107, 108, 101, 116]⟩ : ByteArray), (⟨#[84, 65, 83, 75, 76, 69, 84]⟩ : ByteArray)⟩ : S136) [.string (⟨#[84, 97, 115, 107, 108, 101, 116]⟩ : ByteArray), .string (⟨#[84, 65, 83, 75, 76, 69, 84]⟩ : ByteArray)] from (k136_mkM _ _ _ (⟨(⟨#[84, 97, 115, 107, 108, 101, 116]⟩ : ByteArray), (⟨#[84, 65, 83, 75, 76, 69, 84]⟩ : ByteArray)⟩ : S136) )) (Reps.c2 (show Kd.M k136 _ _ _ (⟨(⟨#[83, 99, 104, 101, 100]⟩ : ByteArray), (⟨#[83, 67, 72, 69, 68]⟩ : ByteArray)⟩ : S136) [.string (⟨#[83, 99, 104, 101, 100]⟩ : ByteArray), .string (⟨#[83, 67, 72, 69, 68]⟩ : ByteArray)] from (k136_mkM _ _ _ (⟨(⟨#[83, 99, 104, 101, 100]⟩ : ByteArray), (⟨#[83, 67, 72, 69, 68]⟩ : ByteArray)⟩ : S136) )) (Reps.c2 (show Kd.M k136 _ _ _ (⟨(⟨#[72, 82, 84, 105, 109, 101, 114]⟩ : ByteArray), (⟨#[72, 82, 84, 73, 77, 69, 82]⟩ : ByteArray)⟩ : S136) [.string (⟨#[72, 82, 84, 105, 109, 101, 114]⟩ : ByteArray), .string (⟨#[72, 82, 84, 73, 77, 69, 82]⟩ : ByteArray)] from (k136_mkM _ _ _ (⟨(⟨#[72, 82, 84, 105, 109, 101, 114]⟩ : ByteArray), (⟨#[72, 82, 84, 73, 77, 69, 82]⟩ : ByteArray)⟩ : S136) )) (Reps.c2 (show Kd.M k136 _ _ _ (⟨(⟨#[82, 67, 85]⟩ : ByteArray), (⟨#[82, 67, 85]⟩ : ByteArray)⟩ : S136) [.string (⟨#[82, 67, 85]⟩ : ByteArray), .string (⟨#[82, 67, 85]⟩ : ByteArray)] from (k136_mkM _ _ _ (⟨(⟨#[82, 67, 85]⟩ : ByteArray), (⟨#[82, 67, 85]⟩ : ByteArray)⟩ : S136) )) (Reps.none _ _)))))))))))); intro v110 w1 ho2 hb hg_ hnew_; clear hg_ hnew_; (first | rw [← Ny109.out] at ho2 | (simp only [Int.reduceToNat] at ho2; rw [← Ny109.out] at ho2)); have n0_ := Aside0.mk (Kd.R_lower ho2 (below_size (by repeat (first | (with_reducible first | exact HB.out | apply below_alloc | apply pw_below_drewN | apply below_drew1) | exact HB.out)))); have n1_ := Aside0.mk (below_step (by repeat (first | (with_reducible first | exact HB.out | apply below_alloc | apply pw_below_drewN | apply below_drew1) | exact HB.out)) hb); clear HB; have HO111 := n0_; have HB := n1_; clear n0_ n1_; clear hb ho2))
 go_ret
 exact ⟨_, by first | rfl | (simp [errW_none, errW_some] <;> rfl) | (simp [*, errW_none, errW_some] <;> rfl), by (with_reducible repeat (first | apply Kd.R_alloc | apply Kd.R_drewN | apply Kd.R_drew)); exact HO111.out, by repeat (first | (with_reducible first | exact HB.out | apply below_alloc | apply pw_below_drewN | apply below_drew1) | exact HB.out)⟩
end Go.Proofs.YtednjmngalmdkaaGreatDoor.GPC
end
