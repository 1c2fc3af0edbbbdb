/- (procfs.Proc).Statm, impl.tree at it, impl.Statm: the door of /proc/PID/statm. Conditions: statmF, statmNode; the tables as laid. -/
import Derived.Test.YtednjmngalmdkaaGreatDoorGivenBack
import Derived.StillTailTactics
import Derived.Deep.RegionHeld3
import Derived.Deep.QuietTactic
import Derived.BigQuiet
namespace Go.Proofs.YtednjmngalmdkaaGreatDoor.GPC
open Go.RowKit Go.Proofs.YtednjmngalmdkaaGreatDoorW.PrintWords Go.Proofs.YtednjmngalmdkaaGreatDoorW.PrintLast
set_option linter.unusedVariables false
set_option linter.unusedSimpArgs false
attribute [local go_sem] run_store_float
/-- The seven numbers of a text. -/
def statmF (k : Nat) (text : ByteArray) : Option (List Int) := (texts_Read.f text).bind fun r => if r.2 = none then (procfs_parseStatm.f k r.1).bind fun q => if q.2 = none ∧ q.1.length = 7 then some q.1 else none else none
theorem statmF_some {k : Nat} {text : ByteArray} {xs : List Int} (h : statmF k text = some xs) : ∃ bs, texts_Read.f text = some (bs, none) ∧ procfs_parseStatm.f k bs = some (xs, none) ∧ xs.length = 7 := by
  unfold statmF at h
  obtain ⟨⟨bs, er⟩, h1, h⟩ := Option.bind_eq_some_iff.1 h
  split at h
  · rename_i he
    simp only at he
    subst he
    obtain ⟨⟨ys, eq⟩, h2, h⟩ := Option.bind_eq_some_iff.1 h
    split at h
    · rename_i hc
      obtain rfl := Option.some.inj h
      simp only at hc
      obtain ⟨rfl, h7⟩ := hc
      exact ⟨bs, h1, h2, h7⟩
    · cases h
  · cases h
def smVal (xs : List Int) : Value := .agg #[.int .i64 0, .int .u64 (rd xs 0), .int .u64 (rd xs 1), .int .u64 (rd xs 2), .int .u64 (rd xs 3), .int .u64 (rd xs 4), .int .u64 (rd xs 5), .int .u64 (rd xs 6)]
def smCells (xs : List Int) : List Value := [.int .i64 0, .int .u64 (rd xs 0), .int .u64 (rd xs 1), .int .u64 (rd xs 2), .int .u64 (rd xs 3), .int .u64 (rd xs 4), .int .u64 (rd xs 5), .int .u64 (rd xs 6)]
def smZero : Array Value := #[.int .i64 0, .int .u64 0, .int .u64 0, .int .u64 0, .int .u64 0, .int .u64 0, .int .u64 0, .int .u64 0]
theorem sm_one (xs : List Int) : ∀ q ∈ smCells xs, q.oneCell' = true := by
  intro q hq
  simp only [smCells, List.mem_cons, List.not_mem_nil, or_false] at hq
  rcases hq with rfl | rfl | rfl | rfl | rfl | rfl | rfl | rfl <;> rfl
theorem sm_size : (Tryz.prog.info? 84).map (·.size) = some 8 := by kernel_rfl
set_option maxHeartbeats 16000000 in
set_option maxRecDepth 100000 in
theorem procStatm (k : Nat) (text : ByteArray) (xs : List Int) (w : World) (hT : TabW w) (h : statmF k text = some xs) :
    Calls Tryz.prog 78 #[.agg #[.int .i64 0, .string text]] w fun e w' => e = .returned (.tuple #[smVal xs, .nilIface]) ∧ Below w.heap.size w w' := by
  obtain ⟨bs, hrd, hps, h7⟩ := statmF_some h
  have HT := Aside0.mk hT
  have HRD := Aside0.mk hrd
  have HPS := Aside0.mk hps
  have H7 := Aside0.mk h7
  clear hT hrd hps h h7
  go_enter Tryz.func78, Tryz.ntmps78
  go_wp2_with (first
      | ((with_reducible refine gate_dst (N := 1) rfl ?_); refine box_event ?hg (N := 1) ?hd (cs := #[.int .i64 0, .string text]) (t := 87) ?hr ?_; (case hd => rfl); (case hg => rfl); (case hr => first | (go_simp; done) | (go_simp; rfl)); intro ga hga w1 hbox hb1; have HP1 := Aside0.mk hbox; have HB1 := Aside0.mk hb1; clear hga hbox hb1)
      | ((with_reducible refine gate_dst (N := 2) rfl ?_); refine box_event ?hg (N := 2) ?hd (cs := smZero) (t := 84) ?hr ?_; (case hd => rfl); (case hg => rfl); (case hr => first | (go_simp; done) | (go_simp; rfl)); intro gb hgb w2 hbox hb2; have HP2 := Aside0.mk (blk_below HP1.out hb2); have HX2 := Aside0.mk hbox; have HB2 := Aside0.mk (keepS HB1.out hb2); have HGB := Aside0.mk (show w.heap.size ≤ gb by rw [hgb]; exact HB1.out.size); have q0 : w2.cell? ⟨ga, 0, none⟩ = some (.int .i64 0) := (blk_cell HP2.out 0).trans rfl; have q1 : w2.cell? ⟨ga, 1, none⟩ = some (.string text) := (blk_cell HP2.out 1).trans rfl; have HW0 := Aside0.mk (show Below w2.heap.size w2 ((w2.alloc (Obj.cells #[Value.string ⟨#[115, 116, 97, 116, 109]⟩] 9 (0,0))).alloc (Obj.cells #[.int .i64 0, .string text] 87 (0,0))) from below_alloc (below_alloc (Below.refl _ _) _) _); clear hgb hbox hb2)
      | (go_at_call 150; go_in)
      | (go_at_call 140; refine (texts_Read.calls text bs none _ HRD.out).mono ?_; rintro e w3 ⟨v0, rfl, hv, hb⟩; simp only [errW_none]; obtain ⟨Ab, cb, rfl, hlb, hFb⟩ := hv; have HB23 := Aside0.mk (keepS HW0.out hb); have HF := Aside0.mk (Kd.F_now hFb); have HLB := Aside0.mk hlb; clear hb hFb hlb)
      | (go_at_call 151; refine (procfs_parseStatm.calls k Ab cb bs xs none _ HF.out HLB.out (tabW_below HT.out (keepS HB2.out HB23.out)) HPS.out).mono ?_; rintro e w4 ⟨v1, rfl, ho, hb⟩; simp only [errW_none]; obtain ⟨gs, cap, rfl, hgs1, hgs2, kcs, hkb⟩ := Kd.R_form ho (by have := H7.out; omega); have HO := Aside0.mk ho; have HB24 := Aside0.mk (keepS HB23.out hb); have HP4 := Aside0.mk (blk_below HP2.out (keepS HB23.out hb)); have HX4 := Aside0.mk (blk_below HX2.out (keepS HB23.out hb)); clear ho hb hkb hgs1 hgs2))
  have p0 : w4.cell? ⟨ga, 0, none⟩ = some (.int .i64 0) := (blk_cell HP4.out 0).trans rfl
  have s0 : w4.cell? ⟨gs, 0, none⟩ = some (.int .u64 (rd xs 0)) := (Kd.R_cell 0 HO.out 0 (by omega) (by have := H7.out; omega)).1
  have s1 : w4.cell? ⟨gs, 1, none⟩ = some (.int .u64 (rd xs 1)) := (Kd.R_cell 0 HO.out 1 (by omega) (by have := H7.out; omega)).1
  have s2 : w4.cell? ⟨gs, 2, none⟩ = some (.int .u64 (rd xs 2)) := (Kd.R_cell 0 HO.out 2 (by omega) (by have := H7.out; omega)).1
  have s3 : w4.cell? ⟨gs, 3, none⟩ = some (.int .u64 (rd xs 3)) := (Kd.R_cell 0 HO.out 3 (by omega) (by have := H7.out; omega)).1
  have s4 : w4.cell? ⟨gs, 4, none⟩ = some (.int .u64 (rd xs 4)) := (Kd.R_cell 0 HO.out 4 (by omega) (by have := H7.out; omega)).1
  have s5 : w4.cell? ⟨gs, 5, none⟩ = some (.int .u64 (rd xs 5)) := (Kd.R_cell 0 HO.out 5 (by omega) (by have := H7.out; omega)).1
  have s6 : w4.cell? ⟨gs, 6, none⟩ = some (.int .u64 (rd xs 6)) := (Kd.R_cell 0 HO.out 6 (by omega) (by have := H7.out; omega)).1
  have hgs := Aside0.mk (Kd.R_lt HO.out gs rfl)
  have hga := Aside0.mk (blk_lt HP4.out)
  have KA : Aside0 (∀ W : World, Below w4.heap.size w4 W → (Below w4.heap.size w4 W ∧ W.cell? ⟨ga, 0, none⟩ = some (.int .i64 0) ∧ W.cell? ⟨gs, 0, none⟩ = some (.int .u64 (rd xs 0)) ∧ W.cell? ⟨gs, 1, none⟩ = some (.int .u64 (rd xs 1)) ∧ W.cell? ⟨gs, 2, none⟩ = some (.int .u64 (rd xs 2)) ∧ W.cell? ⟨gs, 3, none⟩ = some (.int .u64 (rd xs 3)) ∧ W.cell? ⟨gs, 4, none⟩ = some (.int .u64 (rd xs 4)) ∧ W.cell? ⟨gs, 5, none⟩ = some (.int .u64 (rd xs 5)) ∧ W.cell? ⟨gs, 6, none⟩ = some (.int .u64 (rd xs 6)))) := ⟨fun W hb => ⟨hb, (hb.cell (p := ⟨ga, 0, none⟩) hga.out).trans p0, (hb.cell (p := ⟨gs, 0, none⟩) hgs.out).trans s0, (hb.cell (p := ⟨gs, 1, none⟩) hgs.out).trans s1, (hb.cell (p := ⟨gs, 2, none⟩) hgs.out).trans s2, (hb.cell (p := ⟨gs, 3, none⟩) hgs.out).trans s3, (hb.cell (p := ⟨gs, 4, none⟩) hgs.out).trans s4, (hb.cell (p := ⟨gs, 5, none⟩) hgs.out).trans s5, (hb.cell (p := ⟨gs, 6, none⟩) hgs.out).trans s6⟩⟩
  clear p0 s0 s1 s2 s3 s4 s5 s6
  rw [H7.out]
  go_region_held3 (fun W => Below w4.heap.size w4 W ∧ W.cell? ⟨ga, 0, none⟩ = some (.int .i64 0) ∧ W.cell? ⟨gs, 0, none⟩ = some (.int .u64 (rd xs 0)) ∧ W.cell? ⟨gs, 1, none⟩ = some (.int .u64 (rd xs 1)) ∧ W.cell? ⟨gs, 2, none⟩ = some (.int .u64 (rd xs 2)) ∧ W.cell? ⟨gs, 3, none⟩ = some (.int .u64 (rd xs 3)) ∧ W.cell? ⟨gs, 4, none⟩ = some (.int .u64 (rd xs 4)) ∧ W.cell? ⟨gs, 5, none⟩ = some (.int .u64 (rd xs 5)) ∧ W.cell? ⟨gs, 6, none⟩ = some (.int .u64 (rd xs 6)))
    (first
      | exact KA.out _ (below_drew (Below.refl _ _))
      | exact KA.out _ (below_drew (below_alloc (Below.refl _ _) _))
      | exact KA.out _ (below_alloc (below_drew (Below.refl _ _)) _)
      | (go_split_ands; exact KA.out _ (below_alloc (by assumption) _))
      | (go_split_ands; exact KA.out _ (below_drew (by assumption))))
    (first | fail)
  have hW9 : Below w4.heap.size w4 (w4.alloc (Obj.cells #[.int .i64 0, .int .u64 (rd xs 0), .int .u64 (rd xs 1), .int .u64 (rd xs 2), .int .u64 (rd xs 3), .int .u64 (rd xs 4), .int .u64 (rd xs 5), .int .u64 (rd xs 6)] 84 (0, 0))).drew := below_drew (below_alloc (Below.refl _ _) _)
  have hN9 : (w4.alloc (Obj.cells #[.int .i64 0, .int .u64 (rd xs 0), .int .u64 (rd xs 1), .int .u64 (rd xs 2), .int .u64 (rd xs 3), .int .u64 (rd xs 4), .int .u64 (rd xs 5), .int .u64 (rd xs 6)] 84 (0, 0))).drew.heap[w4.heap.size]? = some (Obj.cells #[.int .i64 0, .int .u64 (rd xs 0), .int .u64 (rd xs 1), .int .u64 (rd xs 2), .int .u64 (rd xs 3), .int .u64 (rd xs 4), .int .u64 (rd xs 5), .int .u64 (rd xs 6)] 84 (0, 0)) := blk_drew (heap_alloc_new w4 _)
  generalize (w4.alloc (Obj.cells #[.int .i64 0, .int .u64 (rd xs 0), .int .u64 (rd xs 1), .int .u64 (rd xs 2), .int .u64 (rd xs 3), .int .u64 (rd xs 4), .int .u64 (rd xs 5), .int .u64 (rd xs 6)] 84 (0, 0))).drew = W9 at hW9 hN9 ⊢
  have HX9 := Aside0.mk (blk_below HX4.out hW9)
  have HB9 := Aside0.mk (keepS HB24.out hW9)
  clear hW9
  generalize w4.heap.size = g9 at hN9 ⊢
  have t0 : W9.cell? ⟨g9, 0, none⟩ = some (.int .i64 0) := (blk_cell hN9 0).trans rfl
  have t1 : W9.cell? ⟨g9, 1, none⟩ = some (.int .u64 (rd xs 0)) := (blk_cell hN9 1).trans rfl
  have t2 : W9.cell? ⟨g9, 2, none⟩ = some (.int .u64 (rd xs 1)) := (blk_cell hN9 2).trans rfl
  have t3 : W9.cell? ⟨g9, 3, none⟩ = some (.int .u64 (rd xs 2)) := (blk_cell hN9 3).trans rfl
  have t4 : W9.cell? ⟨g9, 4, none⟩ = some (.int .u64 (rd xs 3)) := (blk_cell hN9 4).trans rfl
  have t5 : W9.cell? ⟨g9, 5, none⟩ = some (.int .u64 (rd xs 4)) := (blk_cell hN9 5).trans rfl
  have t6 : W9.cell? ⟨g9, 6, none⟩ = some (.int .u64 (rd xs 5)) := (blk_cell hN9 6).trans rfl
  have t7 : W9.cell? ⟨g9, 7, none⟩ = some (.int .u64 (rd xs 6)) := (blk_cell hN9 7).trans rfl
  clear hN9
  go_wp2_with (first
    | ((with_reducible refine gate_ (.store 84 (.tmp 2) (.tmp 52)) rfl ?_); refine box_store rfl rfl 84 (.tmp 2) (.tmp 52) rfl gb 84 smZero (smVal xs) (smCells xs) rfl rfl rfl sm_size (sm_one xs) HX9.out rfl ?_; intro W' hbk hgr))
  refine bodyPost_ret (results_cell_tmp rfl _ _ gb 84 _ (0, 0) _ rfl hbk Tryz.underlying84 rfl sm_size) rfl ?_
  exact ⟨rfl, pw_below_grown (keepS HB2.out HB9.out) (some gb) (keepS HB2.out HB9.out).size hgr (fun k e => by cases e; exact HGB.out)⟩
end Go.Proofs.YtednjmngalmdkaaGreatDoor.GPC
