/- impl.tree at ProcStatm, impl.Statm: the door of /proc/PID/statm. Conditions: statmF, statmNode; the tables as laid. -/
import Derived.Test.YtednjmngalmdkaaGreatDoorGivenSm
import Derived.Defers
import Derived.Recover
namespace Go.Proofs.YtednjmngalmdkaaGreatDoor.GPC
open Go.RowKit Go.Proofs.YtednjmngalmdkaaGreatDoorW.PrintWords Go.Proofs.YtednjmngalmdkaaGreatDoorW.PrintLast
set_option linter.unusedVariables false
set_option linter.unusedSimpArgs false
attribute [local go_sem] run_store_float
def statmNode (xs : List Int) : Option S43 := (impl_procfsProcStatm.f ⟨#[]⟩ 0 (rd xs 0) (rd xs 1) (rd xs 2) (rd xs 3) (rd xs 4) (rd xs 5) (rd xs 6)).map fun r => ⟨r.1, r.2.1, r.2.2.1, r.2.2.2.1, r.2.2.2.2.1, r.2.2.2.2.2.1, r.2.2.2.2.2.2.1, r.2.2.2.2.2.2.2⟩
theorem statm_node (xs : List Int) (n : S43) (w : World) (h : statmNode xs = some n) : Calls Tryz.prog 80 #[.string ⟨#[]⟩, smVal xs] w fun e w' => ∃ v7, e = .returned (nodeVal n v7) ∧ KidsV n w w' v7 ∧ Below w.heap.size w w' := by
  unfold statmNode at h
  obtain ⟨⟨r1, r2, r3, r4, r5, r6, r7, r8⟩, hr, rfl⟩ := Option.map_eq_some_iff.1 h
  refine (impl_procfsProcStatm.calls ⟨#[]⟩ 0 (rd xs 0) (rd xs 1) (rd xs 2) (rd xs 3) (rd xs 4) (rd xs 5) (rd xs 6) r1 r2 r3 r4 r5 r6 r7 r8 w hr).mono ?_
  rintro e w' ⟨v7, rfl, ho, hb⟩
  exact ⟨v7, rfl, ho, hb⟩
set_option maxHeartbeats 8000000 in
set_option maxRecDepth 100000 in
theorem statmLit (xs : List Int) (n : S43) (w : World) (h : statmNode xs = some n) :
    Calls Tryz.prog 79 #[smVal xs] w fun e w' => ∃ v7, e = .returned (nodeVal n v7) ∧ KidsV n w w' v7 ∧ Below w.heap.size w w' := by
  have HN := Aside0.mk h
  clear h
  go_enter Tryz.func79, Tryz.ntmps79
  go_wp2_with (first
      | ((with_reducible refine gate_dst (N := 1) rfl ?_); refine box_event ?hg (N := 1) ?hd (cs := (smCells xs).toArray) (t := 84) ?hr ?_; (case hd => rfl); (case hg => rfl); (case hr => first | (simp only [smVal]; go_simp; done) | (simp only [smVal]; go_simp; rfl)); intro gv hgv w0 hbox hb0; have HV := Aside0.mk hbox; have HB0 := Aside0.mk hb0; clear hgv hbox hb0)
      | ((with_reducible refine gate_dst (N := 2) rfl ?_); refine box_event ?hg (N := 2) ?hd (cs := nodeZero) (t := 43) ?hr ?_; (case hd => rfl); (case hg => rfl); (case hr => first | (go_simp; done) | (go_simp; rfl)); intro gb hgb w1 hbox hb1; have HBX := Aside0.mk hbox; have HB1 := Aside0.mk (keepS HB0.out hb1); have HGB := Aside0.mk (show w.heap.size ≤ gb by rw [hgb]; exact HB0.out.size); have HV1 := Aside0.mk (blk_below HV.out hb1); have v0 : w1.cell? ⟨gv, 0, none⟩ = some (.int .i64 0) := (blk_cell HV1.out 0).trans rfl; have v1 : w1.cell? ⟨gv, 1, none⟩ = some (.int .u64 (rd xs 0)) := (blk_cell HV1.out 1).trans rfl; have v2 : w1.cell? ⟨gv, 2, none⟩ = some (.int .u64 (rd xs 1)) := (blk_cell HV1.out 2).trans rfl; have v3 : w1.cell? ⟨gv, 3, none⟩ = some (.int .u64 (rd xs 2)) := (blk_cell HV1.out 3).trans rfl; have v4 : w1.cell? ⟨gv, 4, none⟩ = some (.int .u64 (rd xs 3)) := (blk_cell HV1.out 4).trans rfl; have v5 : w1.cell? ⟨gv, 5, none⟩ = some (.int .u64 (rd xs 4)) := (blk_cell HV1.out 5).trans rfl; have v6 : w1.cell? ⟨gv, 6, none⟩ = some (.int .u64 (rd xs 5)) := (blk_cell HV1.out 6).trans rfl; have v7 : w1.cell? ⟨gv, 7, none⟩ = some (.int .u64 (rd xs 6)) := (blk_cell HV1.out 7).trans rfl; clear hgb hbox hb1)
      | (go_at_call 80; refine (statm_node xs n _ HN.out).mono ?_; rintro e w2 ⟨v7, rfl, ho, hb⟩; have HK := Aside0.mk ho; have HBX2 := Aside0.mk (blk_below HBX.out hb); have HLT := Aside0.mk (show gb < w1.heap.size from blk_lt HBX.out); have HB2 := Aside0.mk (below_then HB1.out HB1.out.size hb); clear ho hb)
      | ((with_reducible refine gate_ (.store 43 (.tmp 2) (.tmp 4)) rfl ?_); refine box_store rfl rfl 43 (.tmp 2) (.tmp 4) rfl gb 43 nodeZero (nodeVal n v7) (nodeCells n v7) rfl rfl rfl node_size (node_one HK.out.slice) HBX2.out rfl ?_; intro W' hbk hgr))
  refine bodyPost_ret (results_cell_row rfl _ _ gb 43 _ (0, 0) _ rfl hbk Tryz.underlying43 rfl node_size) rfl ?_
  refine ⟨v7, rfl, (HK.out.grown hgr HLT.out).lower HB1.out.size, pw_below_grown HB2.out (some gb) HB2.out.size hgr (fun k e => by cases e; exact HGB.out)⟩
theorem idleStatm (p q : Addr) (w : World) :
    CallsD Tryz.prog 149 #[.pointer (some p), .pointer (some q)] .returning w fun e u' w' => e = .returned (.tuple #[]) ∧ u' = .returning ∧ w' = w := by
  refine callsD_of_wpS Tryz.func149 rfl fun c₀ cs hu => ?_
  apply wpS_seq
  apply wpS_region
  simp [wpOpsS, go_sem, recoverD, hu, Tryz.ntmps149, Exit.thenS]
  refine wpS_cond (t := false) (by simp [Act.eval, Array.replicate]) ?_
  simp only [Bool.false_eq_true, if_false]
  refine wpS_of_wp (wp_skip ?_)
  cases c₀
  simp_all [bodyPostS, results, Tryz.results149]
set_option maxHeartbeats 8000000 in
set_option maxRecDepth 100000 in
theorem treeStatm (k : Nat) (text : ByteArray) (xs : List Int) (n : S43) (w : World) (hT : TabW w) (h : statmF k text = some xs) (hn : statmNode xs = some n) :
    Calls Tryz.prog 76 #[.func (.func 78) #[.agg #[.int .i64 0, .string text]] #[], .func (.func 79) #[] #[]] w fun e w' => ∃ v7, e = .returned (.tuple #[nodeVal n v7, .int .i64 0]) ∧ KidsV n w w' v7 ∧ Below w.heap.size w w' := by
  have hmf : ∀ (fn : Fn) (first cap : Array Value) (w : World), (Instr.makeFunc fn first cap).run Tryz.prog w = .ok (.func fn first cap) w := fun _ _ _ _ => rfl
  have HT := Aside0.mk hT
  have HL := Aside0.mk h
  have HN := Aside0.mk hn
  clear hT h hn
  go_enter_defers Tryz.func76, Tryz.ntmps76
  go_wp2_with (first
      | ((with_reducible refine gate_dst (N := 4) rfl ?_); refine box_event ?hg (N := 4) ?hd (cs := nodeZero) (t := 43) ?hr ?_; (case hd => rfl); (case hg => rfl); (case hr => first | (go_simp; done) | (go_simp; rfl)); intro gb hgb w1 hbox hb1; have HBX := Aside0.mk hbox; have HB1 := Aside0.mk hb1; have HGB := Aside0.mk hgb; clear hgb hbox hb1)
      | ((with_reducible refine gate_dst (N := 5) rfl ?_); refine box_event ?hg (N := 5) ?hd (cs := #[.int .i64 0]) (t := 3) ?hr ?_; (case hd => rfl); (case hg => rfl); (case hr => first | (go_simp; done) | (go_simp; rfl)); intro gc hgc w2 hboxc hb2; have HBC := Aside0.mk hboxc; have HBX2 := Aside0.mk (blk_below HBX.out hb2); have HB2 := Aside0.mk (below_then HB1.out HB1.out.size hb2); have HGC := Aside0.mk hgc; have HCG := Aside0.mk (show gb < gc by rw [hgc]; exact blk_lt HBX.out); have HWC := Aside0.mk (show w.heap.size ≤ gc by rw [hgc]; exact HB1.out.size); clear hgc hboxc hb2)
      | (go_at_call 78; refine (procStatm k text xs _ (tabW_below HT.out HB2.out) HL.out).mono ?_; rintro e w3 ⟨rfl, hb3⟩; have HBX3 := Aside0.mk (blk_below HBX2.out hb3); have HBC3 := Aside0.mk (blk_below HBC.out hb3); have HB3 := Aside0.mk (below_then HB2.out HB2.out.size hb3); clear hb3)
      | ((with_reducible refine gate_dst (N := 6) rfl ?_); refine box_event ?hg (N := 6) ?hd (cs := smZero) (t := 84) ?hr ?_; (case hd => rfl); (case hg => rfl); (case hr => first | (go_simp; done) | (go_simp; rfl)); intro gv hgv w3a hbox hb; have HV := Aside0.mk hbox; have HBX3a := Aside0.mk (blk_below HBX3.out hb); have HBC3a := Aside0.mk (blk_below HBC3.out hb); have HB3a := Aside0.mk (below_then HB3.out HB3.out.size hb); have HGV := Aside0.mk (show gb ≠ gv ∧ gc ≠ gv ∧ w.heap.size ≤ gv by rw [hgv]; have h1 := blk_lt HBX3.out; have h2 := blk_lt HBC3.out; have h3 := HB3.out.size; exact ⟨by omega, by omega, h3⟩); clear hgv hbox hb)
      | ((with_reducible refine gate_ (.store 84 (.tmp 6) (.tmp 12)) rfl ?_); refine box_store rfl rfl 84 (.tmp 6) (.tmp 12) rfl gv 84 smZero (smVal xs) (smCells xs) rfl rfl rfl sm_size (sm_one xs) HV.out rfl ?_; intro w3b hbv hgr; have HBX3b := Aside0.mk (blk_grown HBX3a.out hgr (by have := HGV.out.1; intro e; injection e with e; exact this e)); have HBC3b := Aside0.mk (blk_grown HBC3a.out hgr (by have := HGV.out.2.1; intro e; injection e with e; exact this e)); have HB3b := Aside0.mk (pw_below_grown HB3a.out (some gv) HB3a.out.size hgr (fun k e => by cases e; exact HGV.out.2.2)); have v0 : w3b.cell? ⟨gv, 0, none⟩ = some (.int .i64 0) := (blk_cell hbv 0).trans rfl; have v1 : w3b.cell? ⟨gv, 1, none⟩ = some (.int .u64 (rd xs 0)) := (blk_cell hbv 1).trans rfl; have v2 : w3b.cell? ⟨gv, 2, none⟩ = some (.int .u64 (rd xs 1)) := (blk_cell hbv 2).trans rfl; have v3 : w3b.cell? ⟨gv, 3, none⟩ = some (.int .u64 (rd xs 2)) := (blk_cell hbv 3).trans rfl; have v4 : w3b.cell? ⟨gv, 4, none⟩ = some (.int .u64 (rd xs 3)) := (blk_cell hbv 4).trans rfl; have v5 : w3b.cell? ⟨gv, 5, none⟩ = some (.int .u64 (rd xs 4)) := (blk_cell hbv 5).trans rfl; have v6 : w3b.cell? ⟨gv, 6, none⟩ = some (.int .u64 (rd xs 5)) := (blk_cell hbv 6).trans rfl; have v7 : w3b.cell? ⟨gv, 7, none⟩ = some (.int .u64 (rd xs 6)) := (blk_cell hbv 7).trans rfl; clear hbv hgr)
      | (go_at_call 79; refine (statmLit xs n _ HN.out).mono ?_; rintro e w4 ⟨v7, rfl, ho, hb4⟩; have HK := Aside0.mk ho; have HBX4 := Aside0.mk (blk_below HBX3b.out hb4); have HBC4 := Aside0.mk (blk_below HBC3b.out hb4); have HB4 := Aside0.mk (below_then HB3b.out HB3b.out.size hb4); have HLC := Aside0.mk (show gc < w3b.heap.size from blk_lt HBC3b.out); clear ho hb4)
      | ((with_reducible refine gate_ (.store 43 (.tmp 4) (.tmp 19)) rfl ?_); refine box_store rfl rfl 43 (.tmp 4) (.tmp 19) rfl gb 43 nodeZero (nodeVal n v7) (nodeCells n v7) rfl rfl rfl node_size (node_one HK.out.slice) HBX4.out rfl ?_; intro W5 hbk hgr; have HBK5 := Aside0.mk hbk; have HK5 := Aside0.mk (HK.out.grown hgr (Nat.lt_trans HCG.out HLC.out)); have HBC5 := Aside0.mk (blk_grown HBC4.out hgr (by have := HCG.out; intro e; injection e with e; omega)); have HB5 := Aside0.mk (pw_below_grown HB4.out (some gb) HB4.out.size hgr (fun k e => by cases e; rw [HGB.out]; exact Nat.le_refl _)); have hfc := blk_frozen HBC5.out 0; have hcc : W5.cell? ⟨gc, 0, none⟩ = some (.int .i64 0) := (blk_cell HBC5.out 0).trans rfl; clear hbk hgr))
  have hbk6 := blk_far HBK5.out (p := ⟨gc, 0, none⟩) (by have := HCG.out; show gb ≠ gc; omega) (.int .i64 0)
  have hbc6 := blk_put HBC5.out 0 (.int .i64 0) rfl
  have HB6 := below_set HB5.out HWC.out (j := 0) (v := .int .i64 0)
  have HK6 := (HK5.out.grown (grown_set W5 gc 0 (.int .i64 0)) HLC.out).lower HB3b.out.size
  generalize W5.setCell ⟨gc, 0, none⟩ (.int .i64 0) = W6 at hbk6 hbc6 HB6 HK6 ⊢
  have cc : W6.cell? ⟨gc, 0, none⟩ = some (.int .i64 0) := (blk_cell hbc6 0).trans rfl
  have cb0 : W6.cell? ⟨gb, 0, none⟩ = some (.string n.f0) := (blk_cell hbk6 0).trans rfl
  have cb1 : W6.cell? ⟨gb, 1, none⟩ = some (.int .i64 n.f1) := (blk_cell hbk6 1).trans rfl
  have cb2 : W6.cell? ⟨gb, 2, none⟩ = some (.bool n.f2) := (blk_cell hbk6 2).trans rfl
  have cb3 : W6.cell? ⟨gb, 3, none⟩ = some (.int .i64 n.f3) := (blk_cell hbk6 3).trans rfl
  have cb4 : W6.cell? ⟨gb, 4, none⟩ = some (.int .u64 n.f4) := (blk_cell hbk6 4).trans rfl
  have cb5 : W6.cell? ⟨gb, 5, none⟩ = some (.float .f64 n.f5) := (blk_cell hbk6 5).trans rfl
  have cb6 : W6.cell? ⟨gb, 6, none⟩ = some (.string n.f6) := (blk_cell hbk6 6).trans rfl
  have cb7 : W6.cell? ⟨gb, 7, none⟩ = some (v7) := (blk_cell hbk6 7).trans rfl
  refine leaves_cons (f := 149) (args := #[.pointer (some ⟨gb, 0, none⟩), .pointer (some ⟨gc, 0, none⟩)]) (by simp) (by simp [go_sem]) ?_
  refine (idleStatm _ _ _).mono ?_
  rintro e u' w'' ⟨rfl, rfl, rfl⟩
  simp [Leaves, settle, results, Tryz.results76, go_sem, cb0, cb1, cb2, cb3, cb4, cb5, cb6, cb7, cc]
  exact ⟨v7, rfl, HK6, HB6⟩
set_option maxHeartbeats 8000000 in
set_option maxRecDepth 100000 in
theorem implStatm (k : Nat) (text : ByteArray) (xs : List Int) (n : S43) (w : World) (hT : TabW w) (h : statmF k text = some xs) (hn : statmNode xs = some n) :
    Calls Tryz.prog 23 #[.string text] w fun e w' => ∃ v7, e = .returned (.tuple #[nodeVal n v7, .int .i64 0]) ∧ KidsV n w w' v7 ∧ Below w.heap.size w w' := by
  have hmf : ∀ (fn : Fn) (first cap : Array Value) (w : World), (Instr.makeFunc fn first cap).run Tryz.prog w = .ok (.func fn first cap) w := fun _ _ _ _ => rfl
  have HT := Aside0.mk hT
  have HL := Aside0.mk h
  have HN := Aside0.mk hn
  clear hT h hn
  go_enter Tryz.func23, Tryz.ntmps23
  go_wp2_with (first
      | ((with_reducible refine gate_dst (N := 2) rfl ?_); refine box_event ?hg (N := 2) ?hd (cs := nodeZero) (t := 43) ?hr ?_; (case hd => rfl); (case hg => rfl); (case hr => first | (go_simp; done) | (go_simp; rfl)); intro gb hgb w1 hbox hb1; have HBX := Aside0.mk hbox; have HB1 := Aside0.mk hb1; have HGB := Aside0.mk hgb; clear hgb hbox hb1)
      | (go_at_call 77; refine (procfs_TextProc.calls text 0 text _ rfl).mono ?_; rintro e w2 ⟨rfl, hb2⟩; have HBX2 := Aside0.mk (blk_below HBX.out hb2); have HB2 := Aside0.mk (below_then HB1.out HB1.out.size hb2); clear hb2)
      | (go_at_call 76; refine (treeStatm k text xs n _ (tabW_below HT.out HB2.out) HL.out HN.out).mono ?_; rintro e w3 ⟨v7, rfl, ho, hb3⟩; have HK := Aside0.mk ho; have HBX3 := Aside0.mk (blk_below HBX2.out hb3); have HB3 := Aside0.mk (below_then HB2.out HB2.out.size hb3); have HLT := Aside0.mk (show gb < w2.heap.size from blk_lt HBX2.out); clear ho hb3)
      | ((with_reducible refine gate_ (.store 43 (.tmp 2) (.tmp 8)) rfl ?_); refine box_store rfl rfl 43 (.tmp 2) (.tmp 8) rfl gb 43 nodeZero (nodeVal n v7) (nodeCells n v7) rfl rfl rfl node_size (node_one HK.out.slice) HBX3.out rfl ?_; intro W' hbk hgr))
  refine bodyPost_ret (results_cell_tmp rfl _ _ gb 43 _ (0, 0) _ rfl hbk Tryz.underlying43 rfl node_size) rfl ?_
  refine ⟨v7, rfl, (HK.out.grown hgr HLT.out).lower HB2.out.size, pw_below_grown HB3.out (some gb) HB3.out.size hgr (fun k e => by cases e; rw [HGB.out]; exact Nat.le_refl _)⟩
/-- The door of /proc/PID/statm. -/
def doorStatm (s : ByteArray) (n : S43) : Prop := ∃ k xs, statmF k s = some xs ∧ statmNode xs = some n
theorem doorStatm_calls (text : ByteArray) (n : S43) (w : World) (hT : TabW w) (h : doorStatm text n) :
    Calls Tryz.prog 23 #[.string text] w fun e w' => ∃ v7, e = .returned (.tuple #[nodeVal n v7, .int .i64 0]) ∧ KidsV n w w' v7 ∧ Below w.heap.size w w' := by
  obtain ⟨k, xs, h1, h2⟩ := h
  exact implStatm k text xs n w hT h1 h2
end Go.Proofs.YtednjmngalmdkaaGreatDoor.GPC
