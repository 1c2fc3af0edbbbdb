/- FS.LoadAvg, impl.pointer, impl.tree at the loads: the door of /proc/loadavg, but for its last frame. Conditions: loadavgF, loadNode; the tables as laid. -/
import Derived.Test.YtednjmngalmdkaaGreatDoorGivenLd
import Derived.Test.YtednjmngalmdkaaGreatDoorGivenBox
namespace Go.Proofs.YtednjmngalmdkaaGreatDoor.GPC
open Go.RowKit Go.Proofs.YtednjmngalmdkaaGreatDoorW.PrintWords Go.Proofs.YtednjmngalmdkaaGreatDoorW.PrintLast Go.Proofs.YtednjmngalmdkaaGreatDoor.PF
set_option linter.unusedVariables false
set_option linter.unusedSimpArgs false
def loadavgF (text : ByteArray) : Option (Nat × Nat × Nat) := (texts_Read.f text).bind fun r => if r.2 = none then loadF r.1 else none
set_option maxHeartbeats 8000000 in
set_option maxRecDepth 100000 in
theorem fsLoadAvg (text : ByteArray) (a b c : Nat) (w : World) (hT : TabW w) (h : loadavgF text = some (a, b, c)) :
    Calls Tryz.prog 58 #[.agg #[.string text]] w fun e w' => ∃ g, e = .returned (.tuple #[.pointer (some ⟨g, 0, none⟩), .nilIface]) ∧ w.heap.size ≤ g ∧ w'.heap[g]? = some (ldObj a b c) ∧ Below w.heap.size w w' := by
  unfold loadavgF at h
  obtain ⟨⟨bs, er⟩, hrd, h⟩ := Option.bind_eq_some_iff.1 h
  split at h
  · rename_i he
    simp only at he
    subst he
    have HT := Aside0.mk hT
    have HRD := Aside0.mk hrd
    have HL := Aside0.mk h
    have HW0 := Aside0.mk (show Below w.heap.size w ((w.alloc (Obj.cells #[Value.string text] 58 (0,0))).alloc (Obj.cells #[Value.string ⟨#[108, 111, 97, 100, 97, 118, 103]⟩] 9 (0,0))) from below_alloc (below_alloc (Below.refl _ _) _) _)
    clear hT hrd h
    go_enter Tryz.func58, Tryz.ntmps58
    go_wp2_with (first
      | (go_at_call 139; go_in)
      | (go_at_call 140; refine (texts_Read.calls text bs none _ HRD.out).mono ?_; rintro e w1 ⟨v0, rfl, hv, hb⟩; simp only [errW_none]; obtain ⟨Ab, cb, rfl, hlb, hFb⟩ := hv; have HW1 := Aside0.mk (below_then HW0.out HW0.out.size hb); have HF := Aside0.mk (Kd.F_now hFb); have HLB := Aside0.mk hlb; clear hb hFb hlb)
      | (go_at_call 141; refine (parseLoad Ab cb bs a b c _ HF.out HLB.out (tabW_below HT.out HW1.out) HL.out).mono ?_; rintro e w2 ⟨g, rfl, hg1, hg2, hb2⟩))
    go_ret2
    exact ⟨g, rfl, Nat.le_trans HW1.out.size hg1, hg2, below_then HW1.out HW1.out.size hb2⟩
  · cases h
theorem grown_set (w : World) (g i : Nat) (u : Value) : w.grownBy (w.setCell ⟨g, i, none⟩ u) (some g) :=
  ⟨rfl, rfl, rfl, by simp [World.setCell], fun k hi hne => Below.heap_setCell w ⟨g, i, none⟩ _ k (fun e => hne (by rw [e]))⟩
attribute [local go_sem] run_store_float
/-- The node of the loads. -/
def loadNode (a b c : Nat) : Option S43 := (impl_procfsLoadAvg.f ⟨#[]⟩ a b c).map fun r => ⟨r.1, r.2.1, r.2.2.1, r.2.2.2.1, r.2.2.2.2.1, r.2.2.2.2.2.1, r.2.2.2.2.2.2.1, r.2.2.2.2.2.2.2⟩
theorem load_node (a b c : Nat) (n : S43) (w : World) (h : loadNode a b c = some n) : Calls Tryz.prog 61 #[.string ⟨#[]⟩, .agg #[.float .f64 a, .float .f64 b, .float .f64 c]] w fun e w' => ∃ v7, e = .returned (nodeVal n v7) ∧ KidsV n w w' v7 ∧ Below w.heap.size w w' := by
  unfold loadNode at h
  obtain ⟨⟨r1, r2, r3, r4, r5, r6, r7, r8⟩, hr, rfl⟩ := Option.map_eq_some_iff.1 h
  refine (impl_procfsLoadAvg.calls ⟨#[]⟩ a b c r1 r2 r3 r4 r5 r6 r7 r8 w hr).mono ?_
  rintro e w' ⟨v7, rfl, ho, hb⟩
  exact ⟨v7, rfl, ho, hb⟩
set_option maxHeartbeats 8000000 in
set_option maxRecDepth 100000 in
theorem ptrLoad (g a b c : Nat) (n : S43) (w : World) (hg : w.heap[g]? = some (ldObj a b c)) (h : loadNode a b c = some n) :
    Calls Tryz.prog 60 #[.string ⟨#[]⟩, .pointer (some ⟨g, 0, none⟩), .func (.func 61) #[] #[]] w fun e w' => ∃ v7, e = .returned (nodeVal n v7) ∧ KidsV n w w' v7 ∧ Below w.heap.size w w' := by
  have HN := Aside0.mk h
  have HG := Aside0.mk hg
  clear h hg
  go_enter Tryz.func60, Tryz.ntmps60
  go_wp2_with (first
      | ((with_reducible refine gate_dst (N := 6) rfl ?_); refine box_event ?hg (N := 6) ?hd (cs := nodeZero) (t := 43) ?hr ?_; (case hd => rfl); (case hg => rfl); (case hr => first | (go_simp; done) | (go_simp; rfl)); intro gb hgb w1 hbox hb1; have HBX := Aside0.mk hbox; have HB1 := Aside0.mk hb1; have HGB := Aside0.mk hgb; have hG1 := blk_below HG.out hb1; have h0 : w1.cell? ⟨g, 0, none⟩ = some (.float .f64 a) := (blk_cell hG1 0).trans rfl; have h1 : w1.cell? ⟨g, 1, none⟩ = some (.float .f64 b) := (blk_cell hG1 1).trans rfl; have h2 : w1.cell? ⟨g, 2, none⟩ = some (.float .f64 c) := (blk_cell hG1 2).trans rfl; clear hgb hbox hb1 hG1)
      | (go_at_call 61; refine (load_node a b c n _ HN.out).mono ?_; rintro e w2 ⟨v7, rfl, ho, hb⟩; have HK := Aside0.mk ho; have HBX2 := Aside0.mk (blk_below HBX.out hb); have HLT := Aside0.mk (show gb < w1.heap.size from blk_lt HBX.out); have HB2 := Aside0.mk (below_then HB1.out HB1.out.size hb); clear ho hb)
      | ((with_reducible refine gate_ (.store 43 (.tmp 6) (.tmp 16)) rfl ?_); refine box_store rfl rfl 43 (.tmp 6) (.tmp 16) rfl gb 43 nodeZero (nodeVal n v7) (nodeCells n v7) rfl rfl rfl node_size (node_one HK.out.slice) HBX2.out rfl ?_; intro W' hbk hgr))
  refine bodyPost_ret (results_cell_row rfl _ _ gb 43 _ (0, 0) _ rfl hbk Tryz.underlying43 rfl node_size) rfl ?_
  refine ⟨v7, rfl, (HK.out.grown hgr HLT.out).lower HB1.out.size, pw_below_grown HB2.out (some gb) HB2.out.size hgr (fun k e => by cases e; rw [HGB.out]; exact Nat.le_refl _)⟩
set_option maxHeartbeats 8000000 in
set_option maxRecDepth 100000 in
theorem loadLit (g a b c : Nat) (n : S43) (w : World) (hg : w.heap[g]? = some (ldObj a b c)) (h : loadNode a b c = some n) :
    Calls Tryz.prog 59 #[.pointer (some ⟨g, 0, none⟩)] w fun e w' => ∃ v7, e = .returned (nodeVal n v7) ∧ KidsV n w w' v7 ∧ Below w.heap.size w w' := by
  have HN := Aside0.mk h
  have HG := Aside0.mk hg
  clear h hg
  go_enter Tryz.func59, Tryz.ntmps59
  go_wp2_with (first
      | ((with_reducible refine gate_dst (N := 2) rfl ?_); refine box_event ?hg (N := 2) ?hd (cs := nodeZero) (t := 43) ?hr ?_; (case hd => rfl); (case hg => rfl); (case hr => first | (go_simp; done) | (go_simp; rfl)); intro gb hgb w1 hbox hb1; have HBX := Aside0.mk hbox; have HB1 := Aside0.mk hb1; have HGB := Aside0.mk hgb; have HG1 := Aside0.mk (blk_below HG.out hb1); clear hgb hbox hb1)
      | (go_at_call 60; refine (ptrLoad g a b c n _ HG1.out HN.out).mono ?_; rintro e w2 ⟨v7, rfl, ho, hb⟩; have HK := Aside0.mk ho; have HBX2 := Aside0.mk (blk_below HBX.out hb); have HLT := Aside0.mk (show gb < w1.heap.size from blk_lt HBX.out); have HB2 := Aside0.mk (below_then HB1.out HB1.out.size hb); clear ho hb)
      | ((with_reducible refine gate_ (.store 43 (.tmp 2) (.tmp 4)) rfl ?_); refine box_store rfl rfl 43 (.tmp 2) (.tmp 4) rfl gb 43 nodeZero (nodeVal n v7) (nodeCells n v7) rfl rfl rfl node_size (node_one HK.out.slice) HBX2.out rfl ?_; intro W' hbk hgr))
  refine bodyPost_ret (results_cell_row rfl _ _ gb 43 _ (0, 0) _ rfl hbk Tryz.underlying43 rfl node_size) rfl ?_
  refine ⟨v7, rfl, (HK.out.grown hgr HLT.out).lower HB1.out.size, pw_below_grown HB2.out (some gb) HB2.out.size hgr (fun k e => by cases e; rw [HGB.out]; exact Nat.le_refl _)⟩
theorem idleLoad (p q : Addr) (w : World) :
    CallsD Tryz.prog 138 #[.pointer (some p), .pointer (some q)] .returning w fun e u' w' => e = .returned (.tuple #[]) ∧ u' = .returning ∧ w' = w := by
  refine callsD_of_wpS Tryz.func138 rfl fun c₀ cs hu => ?_
  apply wpS_seq
  apply wpS_region
  simp [wpOpsS, go_sem, recoverD, hu, Tryz.ntmps138, Exit.thenS]
  refine wpS_cond (t := false) (by simp [Act.eval, Array.replicate]) ?_
  simp only [Bool.false_eq_true, if_false]
  refine wpS_of_wp (wp_skip ?_)
  cases c₀
  simp_all [bodyPostS, results, Tryz.results138]
set_option maxHeartbeats 8000000 in
set_option maxRecDepth 100000 in
theorem treeLoad (text : ByteArray) (a b c : Nat) (n : S43) (w : World) (hT : TabW w) (h : loadavgF text = some (a, b, c)) (hn : loadNode a b c = some n) :
    Calls Tryz.prog 56 #[.func (.func 58) #[.agg #[.string text]] #[], .func (.func 59) #[] #[]] w fun e w' => ∃ v7, e = .returned (.tuple #[nodeVal n v7, .int .i64 0]) ∧ KidsV n w w' v7 ∧ Below w.heap.size w w' := by
  have hmf : ∀ (fn : Fn) (first cap : Array Value) (w : World), (Instr.makeFunc fn first cap).run Tryz.prog w = .ok (.func fn first cap) w := fun _ _ _ _ => rfl
  have HT := Aside0.mk hT
  have HL := Aside0.mk h
  have HN := Aside0.mk hn
  clear hT h hn
  go_enter_defers Tryz.func56, Tryz.ntmps56
  go_wp2_with (first
      | ((with_reducible refine gate_dst (N := 4) rfl ?_); refine box_event ?hg (N := 4) ?hd (cs := nodeZero) (t := 43) ?hr ?_; (case hd => rfl); (case hg => rfl); (case hr => first | (go_simp; done) | (go_simp; rfl)); intro gb hgb w1 hbox hb1; have HBX := Aside0.mk hbox; have HB1 := Aside0.mk hb1; have HGB := Aside0.mk hgb; clear hgb hbox hb1)
      | ((with_reducible refine gate_dst (N := 5) rfl ?_); refine box_event ?hg (N := 5) ?hd (cs := #[.int .i64 0]) (t := 3) ?hr ?_; (case hd => rfl); (case hg => rfl); (case hr => first | (go_simp; done) | (go_simp; rfl)); intro gc hgc w2 hboxc hb2; have HBC := Aside0.mk hboxc; have HBX2 := Aside0.mk (blk_below HBX.out hb2); have HB2 := Aside0.mk (below_then HB1.out HB1.out.size hb2); have HGC := Aside0.mk hgc; have HCG := Aside0.mk (show gb < gc by rw [hgc]; exact blk_lt HBX.out); have HWC := Aside0.mk (show w.heap.size ≤ gc by rw [hgc]; exact HB1.out.size); clear hgc hboxc hb2)
      | (go_at_call 58; refine (fsLoadAvg text a b c _ (tabW_below HT.out HB2.out) HL.out).mono ?_; rintro e w3 ⟨g, rfl, hg1, hg2, hb3⟩; have HG := Aside0.mk hg2; have HBX3 := Aside0.mk (blk_below HBX2.out hb3); have HBC3 := Aside0.mk (blk_below HBC.out hb3); have HB3 := Aside0.mk (below_then HB2.out HB2.out.size hb3); clear hg1 hg2 hb3)
      | (go_at_call 59; refine (loadLit g a b c n _ HG.out HN.out).mono ?_; rintro e w4 ⟨v7, rfl, ho, hb4⟩; have HK := Aside0.mk ho; have HBX4 := Aside0.mk (blk_below HBX3.out hb4); have HBC4 := Aside0.mk (blk_below HBC3.out hb4); have HB4 := Aside0.mk (below_then HB3.out HB3.out.size hb4); have HLC := Aside0.mk (show gc < w3.heap.size from blk_lt HBC3.out); clear ho hb4)
      | ((with_reducible refine gate_ (.store 43 (.tmp 4) (.tmp 19)) rfl ?_); refine box_store rfl rfl 43 (.tmp 4) (.tmp 19) rfl gb 43 nodeZero (nodeVal n v7) (nodeCells n v7) rfl rfl rfl node_size (node_one HK.out.slice) HBX4.out rfl ?_; intro W5 hbk hgr; have HBK5 := Aside0.mk hbk; have HK5 := Aside0.mk (HK.out.grown hgr (Nat.lt_trans HCG.out HLC.out)); have HBC5 := Aside0.mk (blk_grown HBC4.out hgr (by have := HCG.out; intro e; injection e with e; omega)); have HB5 := Aside0.mk (pw_below_grown HB4.out (some gb) HB4.out.size hgr (fun k e => by cases e; rw [HGB.out]; exact Nat.le_refl _)); have hfc := blk_frozen HBC5.out 0; have hcc : W5.cell? ⟨gc, 0, none⟩ = some (.int .i64 0) := (blk_cell HBC5.out 0).trans rfl; clear hbk hgr))
  have hbk6 := blk_far HBK5.out (p := ⟨gc, 0, none⟩) (by have := HCG.out; show gb ≠ gc; omega) (.int .i64 0)
  have hbc6 := blk_put HBC5.out 0 (.int .i64 0) rfl
  have HB6 := below_set HB5.out HWC.out (j := 0) (v := .int .i64 0)
  have HK6 := (HK5.out.grown (grown_set W5 gc 0 (.int .i64 0)) HLC.out).lower HB3.out.size
  generalize W5.setCell ⟨gc, 0, none⟩ (.int .i64 0) = W6 at hbk6 hbc6 HB6 HK6 ⊢
  have cc : W6.cell? ⟨gc, 0, none⟩ = some (.int .i64 0) := (blk_cell hbc6 0).trans rfl
  have cb0 : W6.cell? ⟨gb, 0, none⟩ = some (.string n.f0) := (blk_cell hbk6 0).trans rfl
  have cb1 : W6.cell? ⟨gb, 1, none⟩ = some (.int .i64 n.f1) := (blk_cell hbk6 1).trans rfl
  have cb2 : W6.cell? ⟨gb, 2, none⟩ = some (.bool n.f2) := (blk_cell hbk6 2).trans rfl
  have cb3 : W6.cell? ⟨gb, 3, none⟩ = some (.int .i64 n.f3) := (blk_cell hbk6 3).trans rfl
  have cb4 : W6.cell? ⟨gb, 4, none⟩ = some (.int .u64 n.f4) := (blk_cell hbk6 4).trans rfl
  have cb5 : W6.cell? ⟨gb, 5, none⟩ = some (.float .f64 n.f5) := (blk_cell hbk6 5).trans rfl
  have cb6 : W6.cell? ⟨gb, 6, none⟩ = some (.string n.f6) := (blk_cell hbk6 6).trans rfl
  have cb7 : W6.cell? ⟨gb, 7, none⟩ = some (v7) := (blk_cell hbk6 7).trans rfl
  refine leaves_cons (f := 138) (args := #[.pointer (some ⟨gb, 0, none⟩), .pointer (some ⟨gc, 0, none⟩)]) (by simp) (by simp [go_sem]) ?_
  refine (idleLoad _ _ _).mono ?_
  rintro e u' w'' ⟨rfl, rfl, rfl⟩
  simp [Leaves, settle, results, Tryz.results56, go_sem, cb0, cb1, cb2, cb3, cb4, cb5, cb6, cb7, cc]
  exact ⟨v7, rfl, HK6, HB6⟩
end Go.Proofs.YtednjmngalmdkaaGreatDoor.GPC
