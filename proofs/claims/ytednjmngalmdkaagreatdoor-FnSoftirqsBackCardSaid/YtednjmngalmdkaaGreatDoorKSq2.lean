/- Texts of this claim, put together: GivenLd2, GivenLives, GPCx2, GPCx5, GPCx6, GivenBack, GivenFnV. Conditions: as each one says. -/
import Derived.Test.YtednjmngalmdkaaGreatDoorKSq0
import Derived.Test.YtednjmngalmdkaaGreatDoorKSq1
import Derived.Laws.FloatArith
section
/- FS.LoadAvg, impl.pointer, impl.tree at the loads: the door of /proc/loadavg, but for its last frame. Conditions: loadavgF, loadNode; the tables as laid. -/
namespace Go.Proofs.YtednjmngalmdkaaGreatDoor.GPC
open Go.RowKit Go.Proofs.YtednjmngalmdkaaGreatDoorW.PrintWords Go.Proofs.YtednjmngalmdkaaGreatDoorW.PrintLast Go.Proofs.YtednjmngalmdkaaGreatDoor.PF
set_option linter.unusedVariables false
set_option linter.unusedSimpArgs false
def loadavgF (text : ByteArray) : Option (Nat × Nat × Nat) := (texts_Read.f text).bind fun r => if r.2 = none then loadF r.1 else none
set_option maxHeartbeats 8000000 in
set_option maxRecDepth 100000 in
theorem fsLoadAvg (text : ByteArray) (a b c : Nat) (w : World) (hT : TabW w) (h : loadavgF text = some (a, b, c)) :
  Calls Tryz.prog 58 #[.agg #[.string text]] w fun e w' => ∃ g, e = .returned (.tuple #[.pointer (some ⟨g, 0, none⟩), .nilIface]) ∧ w.heap.size ≤ g ∧ w'.heap[g]? = some (ldObj a b c) ∧ Below w.heap.size w w' := by
 unfold loadavgF at h
 obtain ⟨⟨bs, er⟩, hrd, h⟩ := Option.bind_eq_some_iff.1 h
 split at h
 ·rename_i he
  simp only at he
  subst he
  have HT := Aside0.mk hT
  have HRD := Aside0.mk hrd
  have HL := Aside0.mk h
  have HW0 := Aside0.mk (show Below w.heap.size w ((w.alloc (Obj.cells #[Value.string text] 58 (0,0))).alloc (Obj.cells #[Value.string ⟨#[108, 111, 97, 100, 97, 118, 103]⟩] 9 (0,0))) from below_alloc (below_alloc (Below.refl _ _) _) _)
  clear hT hrd h
  go_enter Tryz.func58, Tryz.ntmps58
  go_wp2_with (first
   | (go_at_call 139; go_in)
   | (go_at_call 140; refine (texts_Read.calls text bs none _ HRD.out).mono ?_; rintro e w1 ⟨v0, rfl, hv, hb⟩; simp only [errW_none]; obtain ⟨Ab, cb, rfl, hlb, hFb⟩ := hv; have HW1 := Aside0.mk (below_then HW0.out HW0.out.size hb); have HF := Aside0.mk (Kd.F_now hFb); have HLB := Aside0.mk hlb; clear hb hFb hlb)
   | (go_at_call 141; refine (parseLoad Ab cb bs a b c _ HF.out HLB.out (tabW_below HT.out HW1.out) HL.out).mono ?_; rintro e w2 ⟨g, rfl, hg1, hg2, hb2⟩))
  go_ret2
  exact ⟨g, rfl, Nat.le_trans HW1.out.size hg1, hg2, below_then HW1.out HW1.out.size hb2⟩
 ·cases h
theorem grown_set (w : World) (g i : Nat) (u : Value) : w.grownBy (w.setCell ⟨g, i, none⟩ u) (some g) :=
 ⟨rfl, rfl, rfl, by simp [World.setCell], fun k hi hne => Below.heap_setCell w ⟨g, i, none⟩ _ k (fun e => hne (by rw [e]))⟩
attribute [local go_sem] run_store_float
def loadNode (a b c : Nat) : Option S43 := (impl_procfsLoadAvg.f ⟨#[]⟩ a b c).map fun r => ⟨r.1, r.2.1, r.2.2.1, r.2.2.2.1, r.2.2.2.2.1, r.2.2.2.2.2.1, r.2.2.2.2.2.2.1, r.2.2.2.2.2.2.2⟩
theorem load_node (a b c : Nat) (n : S43) (w : World) (h : loadNode a b c = some n) : Calls Tryz.prog 61 #[.string ⟨#[]⟩, .agg #[.float .f64 a, .float .f64 b, .float .f64 c]] w fun e w' => ∃ v7, e = .returned (nodeVal n v7) ∧ KidsV n w w' v7 ∧ Below w.heap.size w w' := by
 unfold loadNode at h
 obtain ⟨⟨r1, r2, r3, r4, r5, r6, r7, r8⟩, hr, rfl⟩ := Option.map_eq_some_iff.1 h
 refine (impl_procfsLoadAvg.calls ⟨#[]⟩ a b c r1 r2 r3 r4 r5 r6 r7 r8 w hr).mono ?_
 rintro e w' ⟨v7, rfl, ho, hb⟩
 exact ⟨v7, rfl, ho, hb⟩
set_option maxHeartbeats 8000000 in
set_option maxRecDepth 100000 in
theorem ptrLoad (g a b c : Nat) (n : S43) (w : World) (hg : w.heap[g]? = some (ldObj a b c)) (h : loadNode a b c = some n) :
  Calls Tryz.prog 60 #[.string ⟨#[]⟩, .pointer (some ⟨g, 0, none⟩), .func (.func 61) #[] #[]] w fun e w' => ∃ v7, e = .returned (nodeVal n v7) ∧ KidsV n w w' v7 ∧ Below w.heap.size w w' := by
 have HN := Aside0.mk h
 have HG := Aside0.mk hg
 clear h hg
 go_enter Tryz.func60, Tryz.ntmps60
 go_wp2_with (first
   | ((with_reducible refine gate_dst (N := 6) rfl ?_); refine box_event ?hg (N := 6) ?hd (cs := nodeZero) (t := 43) ?hr ?_; (case hd => rfl); (case hg => rfl); (case hr => first | (go_simp; done) | (go_simp; rfl)); intro gb hgb w1 hbox hb1; have HBX := Aside0.mk hbox; have HB1 := Aside0.mk hb1; have HGB := Aside0.mk hgb; have hG1 := blk_below HG.out hb1; have h0 : w1.cell? ⟨g, 0, none⟩ = some (.float .f64 a) := (blk_cell hG1 0).trans rfl; have h1 : w1.cell? ⟨g, 1, none⟩ = some (.float .f64 b) := (blk_cell hG1 1).trans rfl; have h2 : w1.cell? ⟨g, 2, none⟩ = some (.float .f64 c) := (blk_cell hG1 2).trans rfl; clear hgb hbox hb1 hG1)
   | (go_at_call 61; refine (load_node a b c n _ HN.out).mono ?_; rintro e w2 ⟨v7, rfl, ho, hb⟩; have HK := Aside0.mk ho; have HBX2 := Aside0.mk (blk_below HBX.out hb); have HLT := Aside0.mk (show gb < w1.heap.size from blk_lt HBX.out); have HB2 := Aside0.mk (below_then HB1.out HB1.out.size hb); clear ho hb)
   | ((with_reducible refine gate_ (.store 43 (.tmp 6) (.tmp 16)) rfl ?_); refine box_store rfl rfl 43 (.tmp 6) (.tmp 16) rfl gb 43 nodeZero (nodeVal n v7) (nodeCells n v7) rfl rfl rfl node_size (node_one HK.out.slice) HBX2.out rfl ?_; intro W' hbk hgr))
 refine bodyPost_ret (results_cell_row rfl _ _ gb 43 _ (0, 0) _ rfl hbk Tryz.underlying43 rfl node_size) rfl ?_
 refine ⟨v7, rfl, (HK.out.grown hgr HLT.out).lower HB1.out.size, pw_below_grown HB2.out (some gb) HB2.out.size hgr (fun k e => by cases e; rw [HGB.out]; exact Nat.le_refl _)⟩
set_option maxHeartbeats 8000000 in
set_option maxRecDepth 100000 in
theorem loadLit (g a b c : Nat) (n : S43) (w : World) (hg : w.heap[g]? = some (ldObj a b c)) (h : loadNode a b c = some n) :
  Calls Tryz.prog 59 #[.pointer (some ⟨g, 0, none⟩)] w fun e w' => ∃ v7, e = .returned (nodeVal n v7) ∧ KidsV n w w' v7 ∧ Below w.heap.size w w' := by
 have HN := Aside0.mk h
 have HG := Aside0.mk hg
 clear h hg
 go_enter Tryz.func59, Tryz.ntmps59
 go_wp2_with (first
   | ((with_reducible refine gate_dst (N := 2) rfl ?_); refine box_event ?hg (N := 2) ?hd (cs := nodeZero) (t := 43) ?hr ?_; (case hd => rfl); (case hg => rfl); (case hr => first | (go_simp; done) | (go_simp; rfl)); intro gb hgb w1 hbox hb1; have HBX := Aside0.mk hbox; have HB1 := Aside0.mk hb1; have HGB := Aside0.mk hgb; have HG1 := Aside0.mk (blk_below HG.out hb1); clear hgb hbox hb1)
   | (go_at_call 60; refine (ptrLoad g a b c n _ HG1.out HN.out).mono ?_; rintro e w2 ⟨v7, rfl, ho, hb⟩; have HK := Aside0.mk ho; have HBX2 := Aside0.mk (blk_below HBX.out hb); have HLT := Aside0.mk (show gb < w1.heap.size from blk_lt HBX.out); have HB2 := Aside0.mk (below_then HB1.out HB1.out.size hb); clear ho hb)
   | ((with_reducible refine gate_ (.store 43 (.tmp 2) (.tmp 4)) rfl ?_); refine box_store rfl rfl 43 (.tmp 2) (.tmp 4) rfl gb 43 nodeZero (nodeVal n v7) (nodeCells n v7) rfl rfl rfl node_size (node_one HK.out.slice) HBX2.out rfl ?_; intro W' hbk hgr))
 refine bodyPost_ret (results_cell_row rfl _ _ gb 43 _ (0, 0) _ rfl hbk Tryz.underlying43 rfl node_size) rfl ?_
 refine ⟨v7, rfl, (HK.out.grown hgr HLT.out).lower HB1.out.size, pw_below_grown HB2.out (some gb) HB2.out.size hgr (fun k e => by cases e; rw [HGB.out]; exact Nat.le_refl _)⟩
theorem idleLoad (p q : Addr) (w : World) :
  CallsD Tryz.prog 138 #[.pointer (some p), .pointer (some q)] .returning w fun e u' w' => e = .returned (.tuple #[]) ∧ u' = .returning ∧ w' = w := by
 refine callsD_of_wpS Tryz.func138 rfl fun c₀ cs hu => ?_
 apply wpS_seq
 apply wpS_region
 simp [wpOpsS, go_sem, recoverD, hu, Tryz.ntmps138, Exit.thenS]
 refine wpS_cond (t := false) (by simp [Act.eval, Array.replicate]) ?_
 simp only [Bool.false_eq_true, if_false]
 refine wpS_of_wp (wp_skip ?_)
 cases c₀
 simp_all [bodyPostS, results, Tryz.results138]
set_option maxHeartbeats 8000000 in
set_option maxRecDepth 100000 in
theorem treeLoad (text : ByteArray) (a b c : Nat) (n : S43) (w : World) (hT : TabW w) (h : loadavgF text = some (a, b, c)) (hn : loadNode a b c = some n) :
  Calls Tryz.prog 56 #[.func (.func 58) #[.agg #[.string text]] #[], .func (.func 59) #[] #[]] w fun e w' => ∃ v7, e = .returned (.tuple #[nodeVal n v7, .int .i64 0]) ∧ KidsV n w w' v7 ∧ Below w.heap.size w w' := by
 have hmf : ∀ (fn : Fn) (first cap : Array Value) (w : World), (Instr.makeFunc fn first cap).run Tryz.prog w = .ok (.func fn first cap) w := fun _ _ _ _ => rfl
 have HT := Aside0.mk hT
 have HL := Aside0.mk h
 have HN := Aside0.mk hn
 clear hT h hn
 go_enter_defers Tryz.func56, Tryz.ntmps56
 go_wp2_with (first
   | ((with_reducible refine gate_dst (N := 4) rfl ?_); refine box_event ?hg (N := 4) ?hd (cs := nodeZero) (t := 43) ?hr ?_; (case hd => rfl); (case hg => rfl); (case hr => first | (go_simp; done) | (go_simp; rfl)); intro gb hgb w1 hbox hb1; have HBX := Aside0.mk hbox; have HB1 := Aside0.mk hb1; have HGB := Aside0.mk hgb; clear hgb hbox hb1)
   | ((with_reducible refine gate_dst (N := 5) rfl ?_); refine box_event ?hg (N := 5) ?hd (cs := #[.int .i64 0]) (t := 3) ?hr ?_; (case hd => rfl); (case hg => rfl); (case hr => first | (go_simp; done) | (go_simp; rfl)); intro gc hgc w2 hboxc hb2; have HBC := Aside0.mk hboxc; have HBX2 := Aside0.mk (blk_below HBX.out hb2); have HB2 := Aside0.mk (below_then HB1.out HB1.out.size hb2); have HGC := Aside0.mk hgc; have HCG := Aside0.mk (show gb < gc by rw [hgc]; exact blk_lt HBX.out); have HWC := Aside0.mk (show w.heap.size ≤ gc by rw [hgc]; exact HB1.out.size); clear hgc hboxc hb2)
   | (go_at_call 58; refine (fsLoadAvg text a b c _ (tabW_below HT.out HB2.out) HL.out).mono ?_; rintro e w3 ⟨g, rfl, hg1, hg2, hb3⟩; have HG := Aside0.mk hg2; have HBX3 := Aside0.mk (blk_below HBX2.out hb3); have HBC3 := Aside0.mk (blk_below HBC.out hb3); have HB3 := Aside0.mk (below_then HB2.out HB2.out.size hb3); clear hg1 hg2 hb3)
   | (go_at_call 59; refine (loadLit g a b c n _ HG.out HN.out).mono ?_; rintro e w4 ⟨v7, rfl, ho, hb4⟩; have HK := Aside0.mk ho; have HBX4 := Aside0.mk (blk_below HBX3.out hb4); have HBC4 := Aside0.mk (blk_below HBC3.out hb4); have HB4 := Aside0.mk (below_then HB3.out HB3.out.size hb4); have HLC := Aside0.mk (show gc < w3.heap.size from blk_lt HBC3.out); clear ho hb4)
   | ((with_reducible refine gate_ (.store 43 (.tmp 4) (.tmp 19)) rfl ?_); refine box_store rfl rfl 43 (.tmp 4) (.tmp 19) rfl gb 43 nodeZero (nodeVal n v7) (nodeCells n v7) rfl rfl rfl node_size (node_one HK.out.slice) HBX4.out rfl ?_; intro W5 hbk hgr; have HBK5 := Aside0.mk hbk; have HK5 := Aside0.mk (HK.out.grown hgr (Nat.lt_trans HCG.out HLC.out)); have HBC5 := Aside0.mk (blk_grown HBC4.out hgr (by have := HCG.out; intro e; injection e with e; omega)); have HB5 := Aside0.mk (pw_below_grown HB4.out (some gb) HB4.out.size hgr (fun k e => by cases e; rw [HGB.out]; exact Nat.le_refl _)); have hfc := blk_frozen HBC5.out 0; have hcc : W5.cell? ⟨gc, 0, none⟩ = some (.int .i64 0) := (blk_cell HBC5.out 0).trans rfl; clear hbk hgr))
 have hbk6 := blk_far HBK5.out (p := ⟨gc, 0, none⟩) (by have := HCG.out; show gb ≠ gc; omega) (.int .i64 0)
 have hbc6 := blk_put HBC5.out 0 (.int .i64 0) rfl
 have HB6 := below_set HB5.out HWC.out (j := 0) (v := .int .i64 0)
 have HK6 := (HK5.out.grown (grown_set W5 gc 0 (.int .i64 0)) HLC.out).lower HB3.out.size
 generalize W5.setCell ⟨gc, 0, none⟩ (.int .i64 0) = W6 at hbk6 hbc6 HB6 HK6 ⊢
 have cc : W6.cell? ⟨gc, 0, none⟩ = some (.int .i64 0) := (blk_cell hbc6 0).trans rfl
 have cb0 : W6.cell? ⟨gb, 0, none⟩ = some (.string n.f0) := (blk_cell hbk6 0).trans rfl
 have cb1 : W6.cell? ⟨gb, 1, none⟩ = some (.int .i64 n.f1) := (blk_cell hbk6 1).trans rfl
 have cb2 : W6.cell? ⟨gb, 2, none⟩ = some (.bool n.f2) := (blk_cell hbk6 2).trans rfl
 have cb3 : W6.cell? ⟨gb, 3, none⟩ = some (.int .i64 n.f3) := (blk_cell hbk6 3).trans rfl
 have cb4 : W6.cell? ⟨gb, 4, none⟩ = some (.int .u64 n.f4) := (blk_cell hbk6 4).trans rfl
 have cb5 : W6.cell? ⟨gb, 5, none⟩ = some (.float .f64 n.f5) := (blk_cell hbk6 5).trans rfl
 have cb6 : W6.cell? ⟨gb, 6, none⟩ = some (.string n.f6) := (blk_cell hbk6 6).trans rfl
 have cb7 : W6.cell? ⟨gb, 7, none⟩ = some (v7) := (blk_cell hbk6 7).trans rfl
 refine leaves_cons (f := 138) (args := #[.pointer (some ⟨gb, 0, none⟩), .pointer (some ⟨gc, 0, none⟩)]) (by simp) (by simp [go_sem]) ?_
 refine (idleLoad _ _ _).mono ?_
 rintro e u' w'' ⟨rfl, rfl, rfl⟩
 simp [Leaves, settle, results, Tryz.results56, go_sem, cb0, cb1, cb2, cb3, cb4, cb5, cb6, cb7, cc]
 exact ⟨v7, rfl, HK6, HB6⟩
end Go.Proofs.YtednjmngalmdkaaGreatDoor.GPC
end
section
/- impl.Loadavg, and laws.lives: the sanity check holds. Condition: the tables as laid. -/
namespace Go.Proofs.YtednjmngalmdkaaGreatDoor.GPC
open Go.RowKit Go.Proofs.YtednjmngalmdkaaGreatDoorW.PrintWords Go.Proofs.YtednjmngalmdkaaGreatDoorW.PrintLast Go.Proofs.YtednjmngalmdkaaGreatDoor.PF
set_option linter.unusedVariables false
set_option linter.unusedSimpArgs false
theorem results_cell_tmp {P : Program} {fn : Func} {p q : Tmp} {ty : TypeId} (h : fn.results = #[.cell p ty, .tmp q]) (tmps : Array Value) (w : World) (g : Nat) (t : TypeId) (cs : Array Value) (fr : Nat × Nat) (d : TypeDesc)
  (hp : tmps.getD p undef = .pointer (some ⟨g, 0, none⟩)) (hg : w.heap[g]? = some (.cells cs t fr))
  (hu : P.underlying ty = some d) (hd : (match d with | .struct _ | .array _ _ => true | _ => false) = true) (hi : (P.info? ty).map (·.size) = some cs.size) :
  (results fn tmps).run P w = .ok (.tuple #[.agg cs, tmps.getD q undef]) w := by
 have hp' : tmps[p]?.getD undef = .pointer (some ⟨g, 0, none⟩) := by simpa using hp
 simp [results, h, hp', asAddr, run_loadVar_row w g t ty cs fr d hg hu hd hi]
set_option maxHeartbeats 8000000 in
set_option maxRecDepth 100000 in
theorem implLoad (text : ByteArray) (a b c : Nat) (n : S43) (w : World) (hT : TabW w) (h : loadavgF text = some (a, b, c)) (hn : loadNode a b c = some n) :
  Calls Tryz.prog 17 #[.string text] w fun e w' => ∃ v7, e = .returned (.tuple #[nodeVal n v7, .int .i64 0]) ∧ KidsV n w w' v7 ∧ Below w.heap.size w w' := by
 have hmf : ∀ (fn : Fn) (first cap : Array Value) (w : World), (Instr.makeFunc fn first cap).run Tryz.prog w = .ok (.func fn first cap) w := fun _ _ _ _ => rfl
 have HT := Aside0.mk hT
 have HL := Aside0.mk h
 have HN := Aside0.mk hn
 clear hT h hn
 go_enter Tryz.func17, Tryz.ntmps17
 go_wp2_with (first
   | ((with_reducible refine gate_dst (N := 2) rfl ?_); refine box_event ?hg (N := 2) ?hd (cs := nodeZero) (t := 43) ?hr ?_; (case hd => rfl); (case hg => rfl); (case hr => first | (go_simp; done) | (go_simp; rfl)); intro gb hgb w1 hbox hb1; have HBX := Aside0.mk hbox; have HB1 := Aside0.mk hb1; have HGB := Aside0.mk hgb; clear hgb hbox hb1)
   | (go_at_call 57; refine (procfs_TextFS.calls text text _ rfl).mono ?_; rintro e w2 ⟨rfl, hb2⟩; have HBX2 := Aside0.mk (blk_below HBX.out hb2); have HB2 := Aside0.mk (below_then HB1.out HB1.out.size hb2); clear hb2)
   | (go_at_call 56; refine (treeLoad text a b c n _ (tabW_below HT.out HB2.out) HL.out HN.out).mono ?_; rintro e w3 ⟨v7, rfl, ho, hb3⟩; have HK := Aside0.mk ho; have HBX3 := Aside0.mk (blk_below HBX2.out hb3); have HB3 := Aside0.mk (below_then HB2.out HB2.out.size hb3); have HLT := Aside0.mk (show gb < w2.heap.size from blk_lt HBX2.out); clear ho hb3)
   | ((with_reducible refine gate_ (.store 43 (.tmp 2) (.tmp 8)) rfl ?_); refine box_store rfl rfl 43 (.tmp 2) (.tmp 8) rfl gb 43 nodeZero (nodeVal n v7) (nodeCells n v7) rfl rfl rfl node_size (node_one HK.out.slice) HBX3.out rfl ?_; intro W' hbk hgr))
 refine bodyPost_ret (results_cell_tmp rfl _ _ gb 43 _ (0, 0) _ rfl hbk Tryz.underlying43 rfl node_size) rfl ?_
 refine ⟨v7, rfl, (HK.out.grown hgr HLT.out).lower HB2.out.size, pw_below_grown HB3.out (some gb) HB3.out.size hgr (fun k e => by cases e; rw [HGB.out]; exact Nat.le_refl _)⟩
def livesText : ByteArray := ⟨#[48, 46, 53, 32, 48, 46, 50, 53, 32, 48, 46, 55, 53, 32, 49, 47, 52, 57, 55, 32, 49, 49, 57, 52, 55, 10]⟩
theorem lives_loads : loadavgF livesText = some (4602678819172646912, 4598175219545276416, 4604930618986332160) := by kernel_rfl
def livesNode : S43 := ⟨⟨#[]⟩, 8, false, 0, 0, 0, ⟨#[]⟩, [⟨⟨#[76, 111, 97, 100, 49]⟩, 4, false, 0, 0, 4602678819172646912, ⟨#[]⟩, []⟩, ⟨⟨#[76, 111, 97, 100, 53]⟩, 4, false, 0, 0, 4598175219545276416, ⟨#[]⟩, []⟩, ⟨⟨#[76, 111, 97, 100, 49, 53]⟩, 4, false, 0, 0, 4604930618986332160, ⟨#[]⟩, []⟩]⟩
theorem lives_node : loadNode 4602678819172646912 4598175219545276416 4604930618986332160 = some livesNode := by rfl
theorem feq1 : FloatKind.f64.format.order 4602678819172646912 4602678819172646912 = some Ordering.eq := by kernel_rfl
theorem feq2 : FloatKind.f64.format.order 4598175219545276416 4598175219545276416 = some Ordering.eq := by kernel_rfl
theorem feq3 : FloatKind.f64.format.order 4604930618986332160 4604930618986332160 = some Ordering.eq := by kernel_rfl
theorem lives_cells {w0 w1 : World} {gk cap : Nat} (h : KidsV livesNode w0 w1 (.slice (some ⟨gk, 0, none⟩) livesNode.f7.length cap)) :
  w1.cell? ⟨gk, 5, none⟩ = some (.float .f64 4602678819172646912) ∧ w1.cell? ⟨gk, 13, none⟩ = some (.float .f64 4598175219545276416) ∧ w1.cell? ⟨gk, 21, none⟩ = some (.float .f64 4604930618986332160) := by
 have hC := (Kd.R_reads' h).2.2
 obtain ⟨a0, _, _, e0, _, _, _, _, _, h0, _⟩ := at_T43 hC 0 (by decide) (by decide)
 obtain ⟨a1, _, _, e1, _, _, _, _, _, h1, _⟩ := at_T43 hC 1 (by decide) (by decide)
 obtain ⟨a2, _, _, e2, _, _, _, _, _, h2, _⟩ := at_T43 hC 2 (by decide) (by decide)
 injection e0 with e0; injection e1 with e1; injection e2 with e2
 subst e0; subst e1; subst e2
 exact ⟨h0, h1, h2⟩
set_option maxHeartbeats 8000000 in
set_option maxRecDepth 100000 in
theorem lives_calls (w : World) (hT : TabW w) : Calls Tryz.prog 46 #[] w fun e w' => e = .returned (.bool true) ∧ Below w.heap.size w w' := by
 have HT := Aside0.mk hT
 have hf1 := feq1
 have hf2 := feq2
 have hf3 := feq3
 clear hT
 go_enter Tryz.func46, Tryz.ntmps46
 go_wp2_with (first
   | (go_at_call 17; refine (implLoad livesText _ _ _ livesNode _ HT.out lives_loads lives_node).mono ?_; rintro e w1 ⟨v7, rfl, ho, hb1⟩; obtain ⟨gk, cap, rfl, hgk1, hgk2, kcs, hkb⟩ := Kd.R_form ho (by decide); obtain ⟨k0, k1, k2⟩ := lives_cells ho; have HB1 := Aside0.mk hb1; have HKB := Aside0.mk hkb; have HK0 := Aside0.mk k0; have HK1 := Aside0.mk k1; have HK2 := Aside0.mk k2; have HGK := Aside0.mk hgk2; have hcap := Aside0.mk (Kd.R_reads' ho).2.1; clear ho hb1 hkb k0 k1 k2 hgk1 hgk2)
   | ((with_reducible refine gate_dst (N := 1) rfl ?_); refine box_event ?hg (N := 1) ?hd (cs := nodeZero) (t := 43) ?hr ?_; (case hd => rfl); (case hg => rfl); (case hr => first | (go_simp; done) | (go_simp; rfl)); intro gb hgb w2 hbox hb2; have HBX := Aside0.mk hbox; have HB2 := Aside0.mk (below_then HB1.out HB1.out.size hb2); have HGB := Aside0.mk hgb; have HKB2 := Aside0.mk (blk_below HKB.out hb2); clear hgb hbox hb2)
   | ((with_reducible refine gate_ (.store 43 (.tmp 1) (.tmp 5)) rfl ?_); refine box_store rfl rfl 43 (.tmp 1) (.tmp 5) rfl gb 43 nodeZero (nodeVal livesNode (.slice (some ⟨gk, 0, none⟩) 3 cap)) (nodeCells livesNode (.slice (some ⟨gk, 0, none⟩) 3 cap)) rfl rfl rfl node_size (node_one ⟨_, _, rfl⟩) HBX.out rfl ?_; intro W' hbk hgr; have hkb3 := blk_grown HKB2.out hgr (by have := HGK.out; have := HGB.out; intro e; injection e with e; omega); have b7 : W'.cell? ⟨gb, 7, none⟩ = some (.slice (some ⟨gk, 0, none⟩) 3 cap) := (blk_cell hbk 7).trans rfl; have q0 := (blk_cell hkb3 5).trans ((blk_cell HKB.out 5).symm.trans HK0.out); have q1 := (blk_cell hkb3 13).trans ((blk_cell HKB.out 13).symm.trans HK1.out); have q2 := (blk_cell hkb3 21).trans ((blk_cell HKB.out 21).symm.trans HK2.out); have HBW := Aside0.mk (pw_below_grown HB2.out (some gb) HB2.out.size hgr (fun k e => by cases e; rw [HGB.out]; exact HB1.out.size)); clear hbk hgr hkb3))
 go_ret
 exact ⟨by simp [hf3], HBW.out⟩
end Go.Proofs.YtednjmngalmdkaaGreatDoor.GPC
end
section
namespace Go.Proofs.YtednjmngalmdkaaGreatDoor.GPC
open Go.RowKit Go.Proofs.YtednjmngalmdkaaGreatDoorW.PrintWords Go.Proofs.YtednjmngalmdkaaGreatDoorW.PrintLast Go.Proofs.YtednjmngalmdkaaGreatDoorW.PrintMore
attribute [local go_sem] max2_int min2_int max_two min_two max_three min_three max_four min_four   -- for this text's walks alone
set_option linter.unusedVariables false
set_option linter.unusedSimpArgs false

attribute [local go_sem] run_store_float
/-! ### spec_recordNode: function 53 -/
def spec_recordNode.f (a0 : ByteArray) (l1 : List (S39)) : Option (ByteArray × Int × Bool × Int × Int × Nat × ByteArray × (List (S39))) := some (a0, 8, false, 0, 0, 0, (⟨#[]⟩ : ByteArray), l1)
set_option maxHeartbeats 8000000 in
set_option maxRecDepth 100000 in
theorem spec_recordNode.calls (a0 : ByteArray) (P1_ : Nat → Prop) (A1 : Option Addr) (c1 : Nat) (l1 : List (S39)) (r1 : ByteArray) (r2 : Int) (r3 : Bool) (r4 : Int) (r5 : Int) (r6 : Nat) (r7 : ByteArray) (r8 : List (S39)) (w : World) (hs1 : Kd.V k39 39 w w.heap.size (fun k_ => P1_ k_) (.slice A1 l1.length c1) l1) (h : spec_recordNode.f a0 l1 = some (r1, r2, r3, r4, r5, r6, r7, r8)) :
  Calls Tryz.prog 53 #[.string a0, .slice A1 l1.length c1] w fun e w' => ∃ v7_ : Value, e = .returned (.agg #[.string r1, .int .i64 r2, .bool r3, .int .i64 r4, .int .u64 r5, .float .f64 r6, .string r7, v7_]) ∧ Kd.V k39 39 w' w.heap.size (fun k_ => (P1_ k_ ∨ w.heap.size ≤ k_)) v7_ r8 ∧ Below w.heap.size w w' := by
 have hu39 := Tryz.underlying39
 have HO1 := Aside0.mk (show Kd.V k39 39 w w.heap.size (fun k_ => (P1_ k_ ∨ w.heap.size ≤ k_)) (.slice A1 l1.length c1) l1 from Kd.V_mono hs1 (fun k_ hk => .inl hk))
 have HB := Aside0.mk (Below.refl w.heap.size w)
 have H : (some (a0, 8, false, 0, 0, 0, (⟨#[]⟩ : ByteArray), l1)) = some (r1, r2, r3, r4, r5, r6, r7, r8) := h
 clear h
 simp only [Option.some.injEq, Prod.mk.injEq] at H
 obtain ⟨rfl, rfl, rfl, rfl, rfl, rfl, rfl, rfl⟩ := H
 go_enter Tryz.func53, Tryz.ntmps53
 go_wp2_with (first | ((with_reducible refine gate_dst (N := 4) rfl ?_); refine box_event ?hg (N := 4) ?hd (cs := #[.string (⟨#[]⟩ : ByteArray), .int .i64 0, .bool false, .int .i64 0, .int .u64 0, .float .f64 0, .string (⟨#[]⟩ : ByteArray), .slice none 0 0]) (t := 39) ?hr ?_; (case hd => rfl); (case hg => rfl); (case hr => first | (go_simp; done) | (go_simp; rfl)); intro gb128 hg w3 hbox hb; have n0_ := Aside0.mk (Kd.V_below (Kd.V_elderB (by (with_reducible repeat (first | apply Kd.V_alloc | apply Kd.V_drewN | apply Kd.V_drew)); exact HO1.out) gb128 (Nat.le_of_eq hg.symm)) hb); have n1_ := Aside0.mk (below_step (by repeat (first | (with_reducible first | exact HB.out | apply below_alloc | apply pw_below_drewN | apply below_drew1) | exact HB.out)) hb); have n2_ := Aside0.mk (hbox); have n3_ := Aside0.mk ((by rw [hg]; exact (below_size (by repeat (first | (with_reducible first | exact HB.out | apply below_alloc | apply pw_below_drewN | apply below_drew1) | exact HB.out))) : w.heap.size ≤ gb128)); have n4_ := Aside0.mk ((by rw [hg]; exact (below_size (by repeat (first | (with_reducible first | exact HB.out | apply below_alloc | apply pw_below_drewN | apply below_drew1) | exact HB.out))) : w.heap.size ≤ gb128)); clear HO1; clear HB; have HO1 := n0_; have HB := n1_; have BK128 := n2_; have GW128 := n3_; have GE128 := n4_; clear n0_ n1_ n2_ n3_ n4_; clear hb hbox hg; have hcz4_0 : w3.cell? ⟨gb128, 0, none⟩ = some (.string (⟨#[]⟩ : ByteArray)) := (blk_cell BK128.out 0).trans rfl; have hcz4_1 : w3.cell? ⟨gb128, 1, none⟩ = some (.int .i64 0) := (blk_cell BK128.out 1).trans rfl; have hcz4_2 : w3.cell? ⟨gb128, 2, none⟩ = some (.bool false) := (blk_cell BK128.out 2).trans rfl; have hcz4_3 : w3.cell? ⟨gb128, 3, none⟩ = some (.int .i64 0) := (blk_cell BK128.out 3).trans rfl; have hcz4_4 : w3.cell? ⟨gb128, 4, none⟩ = some (.int .u64 0) := (blk_cell BK128.out 4).trans rfl; have hcz4_5 : w3.cell? ⟨gb128, 5, none⟩ = some (.float .f64 0) := (blk_cell BK128.out 5).trans rfl; have hcz4_6 : w3.cell? ⟨gb128, 6, none⟩ = some (.string (⟨#[]⟩ : ByteArray)) := (blk_cell BK128.out 6).trans rfl; have hcz4_7 : w3.cell? ⟨gb128, 7, none⟩ = some (.slice none 0 0) := (blk_cell BK128.out 7).trans rfl; have hfz4_0 := blk_frozen BK128.out 0; have hfz4_1 := blk_frozen BK128.out 1; have hfz4_2 := blk_frozen BK128.out 2; have hfz4_3 := blk_frozen BK128.out 3; have hfz4_4 := blk_frozen BK128.out 4; have hfz4_5 := blk_frozen BK128.out 5; have hfz4_6 := blk_frozen BK128.out 6; have hfz4_7 := blk_frozen BK128.out 7))
 refine bodyPost_ret (results_cell_row rfl _ _ gb128 39 #[.string a0, .int .i64 8, .bool false, .int .i64 0, .int .u64 0, .float .f64 0, .string (⟨#[]⟩ : ByteArray), .slice A1 l1.length c1] (0, 0) _ rfl (by (with_reducible repeat (first | refine blk_drewN ?_ _ | refine blk_drew ?_ | refine blk_alloc ?_ _)); refine blk_put (cs := #[.string a0, .int .i64 8, .bool false, .int .i64 0, .int .u64 0, .float .f64 0, .string (⟨#[]⟩ : ByteArray), .slice none 0 0]) ?_ 7 _ rfl; (with_reducible repeat (first | refine blk_drewN ?_ _ | refine blk_drew ?_ | refine blk_alloc ?_ _)); refine blk_put (cs := #[.string a0, .int .i64 8, .bool false, .int .i64 0, .int .u64 0, .float .f64 0, .string (⟨#[]⟩ : ByteArray), .slice none 0 0]) ?_ 6 _ rfl; (with_reducible repeat (first | refine blk_drewN ?_ _ | refine blk_drew ?_ | refine blk_alloc ?_ _)); refine blk_put (cs := #[.string a0, .int .i64 8, .bool false, .int .i64 0, .int .u64 0, .float .f64 0, .string (⟨#[]⟩ : ByteArray), .slice none 0 0]) ?_ 5 _ rfl; (with_reducible repeat (first | refine blk_drewN ?_ _ | refine blk_drew ?_ | refine blk_alloc ?_ _)); refine blk_put (cs := #[.string a0, .int .i64 8, .bool false, .int .i64 0, .int .u64 0, .float .f64 0, .string (⟨#[]⟩ : ByteArray), .slice none 0 0]) ?_ 4 _ rfl; (with_reducible repeat (first | refine blk_drewN ?_ _ | refine blk_drew ?_ | refine blk_alloc ?_ _)); refine blk_put (cs := #[.string a0, .int .i64 8, .bool false, .int .i64 0, .int .u64 0, .float .f64 0, .string (⟨#[]⟩ : ByteArray), .slice none 0 0]) ?_ 3 _ rfl; (with_reducible repeat (first | refine blk_drewN ?_ _ | refine blk_drew ?_ | refine blk_alloc ?_ _)); refine blk_put (cs := #[.string a0, .int .i64 8, .bool false, .int .i64 0, .int .u64 0, .float .f64 0, .string (⟨#[]⟩ : ByteArray), .slice none 0 0]) ?_ 2 _ rfl; (with_reducible repeat (first | refine blk_drewN ?_ _ | refine blk_drew ?_ | refine blk_alloc ?_ _)); refine blk_put (cs := #[.string a0, .int .i64 0, .bool false, .int .i64 0, .int .u64 0, .float .f64 0, .string (⟨#[]⟩ : ByteArray), .slice none 0 0]) ?_ 1 _ rfl; (with_reducible repeat (first | refine blk_drewN ?_ _ | refine blk_drew ?_ | refine blk_alloc ?_ _)); refine blk_put (cs := #[.string (⟨#[]⟩ : ByteArray), .int .i64 0, .bool false, .int .i64 0, .int .u64 0, .float .f64 0, .string (⟨#[]⟩ : ByteArray), .slice none 0 0]) ?_ 0 _ rfl; (with_reducible repeat (first | refine blk_drewN ?_ _ | refine blk_drew ?_ | refine blk_alloc ?_ _)); exact BK128.out) Tryz.underlying39 rfl (by kernel_rfl)) rfl ?_
 exact ⟨_, by first | rfl | (simp [errW_none, errW_some] <;> rfl) | (simp [*, errW_none, errW_some] <;> rfl), by (with_reducible repeat (first | apply Kd.V_alloc | apply Kd.V_drewN | apply Kd.V_drew)); exact Kd.V_mono (Kd.V_far (p := ⟨gb128, 7, none⟩) (Kd.V_far (p := ⟨gb128, 6, none⟩) (Kd.V_far (p := ⟨gb128, 5, none⟩) (Kd.V_far (p := ⟨gb128, 4, none⟩) (Kd.V_far (p := ⟨gb128, 3, none⟩) (Kd.V_far (p := ⟨gb128, 2, none⟩) (Kd.V_far (p := ⟨gb128, 1, none⟩) (Kd.V_far (p := ⟨gb128, 0, none⟩) (Kd.V_mono HO1.out (fun k_ hk => (⟨hk, hk.2⟩ : _ ∧ k_ ≠ gb128))) (fun _ hk => hk.2) (.string a0)) (fun _ hk => hk.2) (.int .i64 8)) (fun _ hk => hk.2) (.bool false)) (fun _ hk => hk.2) (.int .i64 0)) (fun _ hk => hk.2) (.int .u64 0)) (fun _ hk => hk.2) (.float .f64 0)) (fun _ hk => hk.2) (.string (⟨#[]⟩ : ByteArray))) (fun _ hk => hk.2) (.slice A1 l1.length c1)) (fun _ hk => hk.1.1), by repeat (first | (with_reducible first | exact HB.out | apply below_alloc | apply pw_below_drewN | apply below_drew1 | refine below_set ?_ GE128.out) | exact HB.out)⟩
/-! ### spec_uintNode: function 75 -/
def spec_uintNode.f (a0 : ByteArray) (a1 : Int) : Option (ByteArray × Int × Bool × Int × Int × Nat × ByteArray × (List (S39))) := some (a0, 3, false, 0, a1, 0, (⟨#[]⟩ : ByteArray), ([] : List (S39)))
set_option maxHeartbeats 8000000 in
set_option maxRecDepth 100000 in
theorem spec_uintNode.calls (a0 : ByteArray) (a1 : Int) (r1 : ByteArray) (r2 : Int) (r3 : Bool) (r4 : Int) (r5 : Int) (r6 : Nat) (r7 : ByteArray) (r8 : List (S39)) (w : World) (h : spec_uintNode.f a0 a1 = some (r1, r2, r3, r4, r5, r6, r7, r8)) :
  Calls Tryz.prog 75 #[.string a0, .int .u64 a1] w fun e w' => ∃ v7_ : Value, e = .returned (.agg #[.string r1, .int .i64 r2, .bool r3, .int .i64 r4, .int .u64 r5, .float .f64 r6, .string r7, v7_]) ∧ Kd.R k39 39 w' w.heap.size (fun _ => True) v7_ r8 ∧ Below w.heap.size w w' := by
 have hu39 := Tryz.underlying39
 have HB := Aside0.mk (Below.refl w.heap.size w)
 have H : (some (a0, 3, false, 0, a1, 0, (⟨#[]⟩ : ByteArray), ([] : List (S39)))) = some (r1, r2, r3, r4, r5, r6, r7, r8) := h
 clear h
 simp only [Option.some.injEq, Prod.mk.injEq] at H
 obtain ⟨rfl, rfl, rfl, rfl, rfl, rfl, rfl, rfl⟩ := H
 go_enter Tryz.func75, Tryz.ntmps75
 go_wp2_with (first | ((with_reducible refine gate_dst (N := 4) rfl ?_); refine box_event ?hg (N := 4) ?hd (cs := #[.string (⟨#[]⟩ : ByteArray), .int .i64 0, .bool false, .int .i64 0, .int .u64 0, .float .f64 0, .string (⟨#[]⟩ : ByteArray), .slice none 0 0]) (t := 39) ?hr ?_; (case hd => rfl); (case hg => rfl); (case hr => first | (go_simp; done) | (go_simp; rfl)); intro gb130 hg w3 hbox hb; have n0_ := Aside0.mk (below_step (by repeat (first | (with_reducible first | exact HB.out | apply below_alloc | apply pw_below_drewN | apply below_drew1) | exact HB.out)) hb); have n1_ := Aside0.mk (hbox); have n2_ := Aside0.mk ((by rw [hg]; exact (below_size (by repeat (first | (with_reducible first | exact HB.out | apply below_alloc | apply pw_below_drewN | apply below_drew1) | exact HB.out))) : w.heap.size ≤ gb130)); have n3_ := Aside0.mk ((by rw [hg]; exact (below_size (by repeat (first | (with_reducible first | exact HB.out | apply below_alloc | apply pw_below_drewN | apply below_drew1) | exact HB.out))) : w.heap.size ≤ gb130)); clear HB; have HB := n0_; have BK130 := n1_; have GW130 := n2_; have GE130 := n3_; clear n0_ n1_ n2_ n3_; clear hb hbox hg; have hcz4_0 : w3.cell? ⟨gb130, 0, none⟩ = some (.string (⟨#[]⟩ : ByteArray)) := (blk_cell BK130.out 0).trans rfl; have hcz4_1 : w3.cell? ⟨gb130, 1, none⟩ = some (.int .i64 0) := (blk_cell BK130.out 1).trans rfl; have hcz4_2 : w3.cell? ⟨gb130, 2, none⟩ = some (.bool false) := (blk_cell BK130.out 2).trans rfl; have hcz4_3 : w3.cell? ⟨gb130, 3, none⟩ = some (.int .i64 0) := (blk_cell BK130.out 3).trans rfl; have hcz4_4 : w3.cell? ⟨gb130, 4, none⟩ = some (.int .u64 0) := (blk_cell BK130.out 4).trans rfl; have hcz4_5 : w3.cell? ⟨gb130, 5, none⟩ = some (.float .f64 0) := (blk_cell BK130.out 5).trans rfl; have hcz4_6 : w3.cell? ⟨gb130, 6, none⟩ = some (.string (⟨#[]⟩ : ByteArray)) := (blk_cell BK130.out 6).trans rfl; have hcz4_7 : w3.cell? ⟨gb130, 7, none⟩ = some (.slice none 0 0) := (blk_cell BK130.out 7).trans rfl; have hfz4_0 := blk_frozen BK130.out 0; have hfz4_1 := blk_frozen BK130.out 1; have hfz4_2 := blk_frozen BK130.out 2; have hfz4_3 := blk_frozen BK130.out 3; have hfz4_4 := blk_frozen BK130.out 4; have hfz4_5 := blk_frozen BK130.out 5; have hfz4_6 := blk_frozen BK130.out 6; have hfz4_7 := blk_frozen BK130.out 7))
 refine bodyPost_ret (results_cell_row rfl _ _ gb130 39 #[.string a0, .int .i64 3, .bool false, .int .i64 0, .int .u64 a1, .float .f64 0, .string (⟨#[]⟩ : ByteArray), .slice none 0 0] (0, 0) _ rfl (by (with_reducible repeat (first | refine blk_drewN ?_ _ | refine blk_drew ?_ | refine blk_alloc ?_ _)); refine blk_put (cs := #[.string a0, .int .i64 3, .bool false, .int .i64 0, .int .u64 a1, .float .f64 0, .string (⟨#[]⟩ : ByteArray), .slice none 0 0]) ?_ 7 _ rfl; (with_reducible repeat (first | refine blk_drewN ?_ _ | refine blk_drew ?_ | refine blk_alloc ?_ _)); refine blk_put (cs := #[.string a0, .int .i64 3, .bool false, .int .i64 0, .int .u64 a1, .float .f64 0, .string (⟨#[]⟩ : ByteArray), .slice none 0 0]) ?_ 6 _ rfl; (with_reducible repeat (first | refine blk_drewN ?_ _ | refine blk_drew ?_ | refine blk_alloc ?_ _)); refine blk_put (cs := #[.string a0, .int .i64 3, .bool false, .int .i64 0, .int .u64 a1, .float .f64 0, .string (⟨#[]⟩ : ByteArray), .slice none 0 0]) ?_ 5 _ rfl; (with_reducible repeat (first | refine blk_drewN ?_ _ | refine blk_drew ?_ | refine blk_alloc ?_ _)); refine blk_put (cs := #[.string a0, .int .i64 3, .bool false, .int .i64 0, .int .u64 0, .float .f64 0, .string (⟨#[]⟩ : ByteArray), .slice none 0 0]) ?_ 4 _ rfl; (with_reducible repeat (first | refine blk_drewN ?_ _ | refine blk_drew ?_ | refine blk_alloc ?_ _)); refine blk_put (cs := #[.string a0, .int .i64 3, .bool false, .int .i64 0, .int .u64 0, .float .f64 0, .string (⟨#[]⟩ : ByteArray), .slice none 0 0]) ?_ 3 _ rfl; (with_reducible repeat (first | refine blk_drewN ?_ _ | refine blk_drew ?_ | refine blk_alloc ?_ _)); refine blk_put (cs := #[.string a0, .int .i64 3, .bool false, .int .i64 0, .int .u64 0, .float .f64 0, .string (⟨#[]⟩ : ByteArray), .slice none 0 0]) ?_ 2 _ rfl; (with_reducible repeat (first | refine blk_drewN ?_ _ | refine blk_drew ?_ | refine blk_alloc ?_ _)); refine blk_put (cs := #[.string a0, .int .i64 0, .bool false, .int .i64 0, .int .u64 0, .float .f64 0, .string (⟨#[]⟩ : ByteArray), .slice none 0 0]) ?_ 1 _ rfl; (with_reducible repeat (first | refine blk_drewN ?_ _ | refine blk_drew ?_ | refine blk_alloc ?_ _)); refine blk_put (cs := #[.string (⟨#[]⟩ : ByteArray), .int .i64 0, .bool false, .int .i64 0, .int .u64 0, .float .f64 0, .string (⟨#[]⟩ : ByteArray), .slice none 0 0]) ?_ 0 _ rfl; (with_reducible repeat (first | refine blk_drewN ?_ _ | refine blk_drew ?_ | refine blk_alloc ?_ _)); exact BK130.out) Tryz.underlying39 rfl (by kernel_rfl)) rfl ?_
 exact ⟨_, by first | rfl | (simp [errW_none, errW_some] <;> rfl) | (simp [*, errW_none, errW_some] <;> rfl), by first | exact Kd.R_nil _ _ _ _ _ | exact Kd.N_nil _ _ _ _ _ | exact Kd.V_nil _ _ _ _ _ | exact Kd.Q_nil _ _ _ _ _ | exact Kd.S_nil _ _ _ _ _, by repeat (first | (with_reducible first | exact HB.out | apply below_alloc | apply pw_below_drewN | apply below_drew1 | refine below_set ?_ GE130.out) | exact HB.out)⟩
end Go.Proofs.YtednjmngalmdkaaGreatDoor.GPC
end
section
namespace Go.Proofs.YtednjmngalmdkaaGreatDoor.GPC
open Go.RowKit Go.Proofs.YtednjmngalmdkaaGreatDoorW.PrintWords Go.Proofs.YtednjmngalmdkaaGreatDoorW.PrintLast Go.Proofs.YtednjmngalmdkaaGreatDoorW.PrintMore
attribute [local go_sem] max2_int min2_int max_two min_two max_three min_three max_four min_four   -- for this text's walks alone
set_option linter.unusedVariables false
set_option linter.unusedSimpArgs false

attribute [local go_sem] run_store_float
/-! ### laws_toNode: function 48 -/
mutual
def laws_toNode.l0 : Nat → List (S43) → Int → Int → ByteArray → Int → Bool → Int → Int → Nat → ByteArray → List (S39) → Option (ByteArray × Int × Bool × Int × Int × Nat × ByteArray × (List (S39)))
 | 0, _, _, _, _, _, _, _, _, _, _, _ => none
 | k + 1, x22, x23, x24, x254000, x254001, x254002, x254003, x254004, x254005, x254006, x254007 => if x24 < x23 then (if 0 ≤ x24 then (if x24 < (x22.length : Int) then ((laws_toNode.f k ((rd_T43 x22 x24).f0) ((rd_T43 x22 x24).f1) ((rd_T43 x22 x24).f2) ((rd_T43 x22 x24).f3) ((rd_T43 x22 x24).f4) ((rd_T43 x22 x24).f5) ((rd_T43 x22 x24).f6) ((rd_T43 x22 x24).f7)).bind fun bt256 => (if x254007.length < 1466015503701 then (laws_toNode.l0 k x22 x23 (wrap64 (x24 + 1)) x254000 x254001 x254002 x254003 x254004 x254005 x254006 (x254007 ++ [(⟨bt256.1, bt256.2.1, bt256.2.2.1, bt256.2.2.2.1, bt256.2.2.2.2.1, bt256.2.2.2.2.2.1, bt256.2.2.2.2.2.2.1, bt256.2.2.2.2.2.2.2⟩ : S39)])) else (none))) else (none)) else (none)) else (some (x254000, x254001, x254002, x254003, x254004, x254005, x254006, x254007))
def laws_toNode.f : Nat → ByteArray → Int → Bool → Int → Int → Nat → ByteArray → List (S43) → Option (ByteArray × Int × Bool × Int × Int × Nat × ByteArray × (List (S39)))
 | 0, _, _, _, _, _, _, _, _ => none
 | k + 1, a0_0, a0_1, a0_2, a0_3, a0_4, a0_5, a0_6, l0_7 => laws_toNode.l0 k l0_7 (l0_7.length : Int) 0 a0_0 a0_1 a0_2 a0_3 a0_4 a0_5 a0_6 ([] : List (S39))
end
theorem laws_toNode.mono_l : ∀ k, (∀ y0 y1 y2 y3 y4 y5 y6 y7, LeO (laws_toNode.f k y0 y1 y2 y3 y4 y5 y6 y7) (laws_toNode.f (k + 1) y0 y1 y2 y3 y4 y5 y6 y7)) ∧ (∀ y0 y1 y2 y3 y4 y5 y6 y7 y8 y9 y10, LeO (laws_toNode.l0 k y0 y1 y2 y3 y4 y5 y6 y7 y8 y9 y10) (laws_toNode.l0 (k + 1) y0 y1 y2 y3 y4 y5 y6 y7 y8 y9 y10))
 | 0 => ⟨fun _ _ _ _ _ _ _ _ r h => by simp [laws_toNode.f] at h, fun _ _ _ _ _ _ _ _ _ _ _ r h => by simp [laws_toNode.l0] at h⟩
 | k + 1 => by
  obtain ⟨ih0, ih1⟩ := laws_toNode.mono_l k
  refine ⟨?_, ?_⟩
  ·intro y0 y1 y2 y3 y4 y5 y6 y7
   unfold laws_toNode.f
   repeat' first
   | (with_reducible exact ih0 _ _ _ _ _ _ _ _)
   | (with_reducible exact ih1 _ _ _ _ _ _ _ _ _ _ _)
   | (with_reducible exact LeO.refl _)
   | (with_reducible exact LeO.none _)
   | (with_reducible refine LeO.ite ?_ ?_)
   | (with_reducible refine LeO.bind ?_ (fun _ => ?_))
   | exact ih0 _ _ _ _ _ _ _ _
   | exact ih1 _ _ _ _ _ _ _ _ _ _ _
   | exact LeO.none _
   | refine LeO.ite ?_ ?_
   | refine LeO.bind ?_ (fun _ => ?_)
  ·intro y0 y1 y2 y3 y4 y5 y6 y7 y8 y9 y10
   unfold laws_toNode.l0
   repeat' first
   | (with_reducible exact ih0 _ _ _ _ _ _ _ _)
   | (with_reducible exact ih1 _ _ _ _ _ _ _ _ _ _ _)
   | (with_reducible exact LeO.refl _)
   | (with_reducible exact LeO.none _)
   | (with_reducible refine LeO.ite ?_ ?_)
   | (with_reducible refine LeO.bind ?_ (fun _ => ?_))
   | exact ih0 _ _ _ _ _ _ _ _
   | exact ih1 _ _ _ _ _ _ _ _ _ _ _
   | exact LeO.none _
   | refine LeO.ite ?_ ?_
   | refine LeO.bind ?_ (fun _ => ?_)
theorem laws_toNode.mono : ∀ a0 a1 a2 a3 a4 a5 a6 a7 k, LeO (laws_toNode.f k a0 a1 a2 a3 a4 a5 a6 a7) (laws_toNode.f (k + 1) a0 a1 a2 a3 a4 a5 a6 a7) := by
 intro a0 a1 a2 a3 a4 a5 a6 a7 k
 obtain ⟨ih0, ih1⟩ := laws_toNode.mono_l k
 exact ih0 a0 a1 a2 a3 a4 a5 a6 a7
def laws_toNode.T5 : Bool × List (List Nat × List Nat) := (true, [([], []), ([0], [0]), ([], []), ([2], [2]), ([3], [3]), ([1, 4, 3], [1, 4]), ([0, 1, 2, 3, 4, 5], []), ([6, 5, 5, 0, 1, 2, 3, 4, 5], [5, 6])])
def laws_toNode.B5 : List Nat := [0, 1, 0, 4, 12, 31, 63, 127]
theorem laws_toNode.tab5 : rtab .any (opsOf Tryz.f48 5) = laws_toNode.T5 := by kernel_rfl
theorem laws_toNode.bits5 : waitsOk laws_toNode.T5.2 laws_toNode.B5 = true := by kernel_rfl
set_option maxHeartbeats 8000000 in
set_option maxRecDepth 100000 in
theorem laws_toNode.calls (k : Nat) : ∀ (a0_0 : ByteArray) (a0_1 : Int) (a0_2 : Bool) (a0_3 : Int) (a0_4 : Int) (a0_5 : Nat) (a0_6 : ByteArray) (A0_7 : Option Addr) (c0_7 : Nat) (l0_7 : List (S43)) (r1 : ByteArray) (r2 : Int) (r3 : Bool) (r4 : Int) (r5 : Int) (r6 : Nat) (r7 : ByteArray) (r8 : List (S39)) (w : World) (hr0_7 : Kd.C k43 w A0_7 l0_7.length l0_7) (hc0_7 : l0_7.length ≤ c0_7) (h : laws_toNode.f k a0_0 a0_1 a0_2 a0_3 a0_4 a0_5 a0_6 l0_7 = some (r1, r2, r3, r4, r5, r6, r7, r8)),
  Calls Tryz.prog 48 #[.agg #[.string a0_0, .int .i64 a0_1, .bool a0_2, .int .i64 a0_3, .int .u64 a0_4, .float .f64 a0_5, .string a0_6, .slice A0_7 l0_7.length c0_7]] w fun e w' => ∃ v7_ : Value, e = .returned (.agg #[.string r1, .int .i64 r2, .bool r3, .int .i64 r4, .int .u64 r5, .float .f64 r6, .string r7, v7_]) ∧ Kd.R k39 39 w' w.heap.size (fun _ => True) v7_ r8 ∧ Below w.heap.size w w' := by
 induction k using Nat.strongRecOn with
 | _ k ih =>
 intro a0_0 a0_1 a0_2 a0_3 a0_4 a0_5 a0_6 A0_7 c0_7 l0_7 r1 r2 r3 r4 r5 r6 r7 r8 w hr0_7 hc0_7 h
 cases k with
 | zero => exact absurd h (by simp [laws_toNode.f])
 | succ k =>
 simp only [laws_toNode.f] at h
 have hu43 := Tryz.underlying43
 have hu39 := Tryz.underlying39
 have HR0_7 := Aside0.mk hr0_7
 have HC0_7 := Aside0.mk hc0_7
 clear hr0_7 hc0_7
 have HB := Aside0.mk (Below.refl w.heap.size w)
 have H : (laws_toNode.l0 k l0_7 (l0_7.length : Int) 0 a0_0 a0_1 a0_2 a0_3 a0_4 a0_5 a0_6 ([] : List (S39))) = some (r1, r2, r3, r4, r5, r6, r7, r8) := h
 clear h
 have H' := Aside0.mk H
 clear H
 go_enter Tryz.func48, Tryz.ntmps48
 go_wp2_with (first | ((with_reducible refine gate_dst (N := 1) rfl ?_); refine box_event ?hg (N := 1) ?hd (cs := #[.string a0_0, .int .i64 a0_1, .bool a0_2, .int .i64 a0_3, .int .u64 a0_4, .float .f64 a0_5, .string a0_6, .slice A0_7 l0_7.length c0_7]) (t := 43) ?hr ?_; (case hd => rfl); (case hg => rfl); (case hr => first | (go_simp; done) | (go_simp; rfl)); intro gb251 hg w2 hbox hb; have n0_ := Aside0.mk (below_step (by repeat (first | (with_reducible first | exact HB.out | apply below_alloc | apply pw_below_drewN | apply below_drew1) | exact HB.out)) hb); have n1_ := Aside0.mk (hbox); have n2_ := Aside0.mk ((by rw [hg]; exact (below_size (by repeat (first | (with_reducible first | exact HB.out | apply below_alloc | apply pw_below_drewN | apply below_drew1) | exact HB.out))) : w.heap.size ≤ gb251)); have n3_ := Aside0.mk ((by rw [hg]; exact (below_size (by repeat (first | (with_reducible first | exact HB.out | apply below_alloc | apply pw_below_drewN | apply below_drew1) | exact HB.out))) : w.heap.size ≤ gb251)); clear HB; have HB := n0_; have BK251 := n1_; have GW251 := n2_; have GE251 := n3_; clear n0_ n1_ n2_ n3_; clear hb hbox hg) | ((with_reducible refine gate_dst (N := 2) rfl ?_); refine box_event ?hg (N := 2) ?hd (cs := #[.string (⟨#[]⟩ : ByteArray), .int .i64 0, .bool false, .int .i64 0, .int .u64 0, .float .f64 0, .string (⟨#[]⟩ : ByteArray), .slice none 0 0]) (t := 39) ?hr ?_; (case hd => rfl); (case hg => rfl); (case hr => first | (go_simp; done) | (go_simp; rfl)); intro gb252 hg w3 hbox hb; have n0_ := Aside0.mk (blk_below (g := gb251) (o := .cells #[.string a0_0, .int .i64 a0_1, .bool a0_2, .int .i64 a0_3, .int .u64 a0_4, .float .f64 a0_5, .string a0_6, .slice A0_7 l0_7.length c0_7] 43 (0, 0)) (by (with_reducible repeat (first | refine blk_drewN ?_ _ | refine blk_drew ?_ | refine blk_alloc ?_ _)); exact BK251.out) hb); have n1_ := Aside0.mk (below_step (by repeat (first | (with_reducible first | exact HB.out | apply below_alloc | apply pw_below_drewN | apply below_drew1 | refine below_set ?_ GE251.out) | exact HB.out)) hb); have n2_ := Aside0.mk (hbox); have n3_ := Aside0.mk ((by rw [hg]; exact (below_size (by repeat (first | (with_reducible first | exact HB.out | apply below_alloc | apply pw_below_drewN | apply below_drew1 | refine below_set ?_ GE251.out) | exact HB.out))) : w.heap.size ≤ gb252)); have n4_ := Aside0.mk ((by rw [hg]; exact (below_size (by repeat (first | (with_reducible first | exact HB.out | apply below_alloc | apply pw_below_drewN | apply below_drew1 | refine below_set ?_ GE251.out) | exact HB.out))) : w.heap.size ≤ gb252)); have n5_ := Aside0.mk ((by rw [hg]; exact Nat.ne_of_lt (blk_lt (g := gb251) (o := .cells #[.string a0_0, .int .i64 a0_1, .bool a0_2, .int .i64 a0_3, .int .u64 a0_4, .float .f64 a0_5, .string a0_6, .slice A0_7 l0_7.length c0_7] 43 (0, 0)) (by (with_reducible repeat (first | refine blk_drewN ?_ _ | refine blk_drew ?_ | refine blk_alloc ?_ _)); exact BK251.out)) : gb251 ≠ gb252)); have n6_ := Aside0.mk ((by rw [hg]; exact Nat.ne_of_gt (blk_lt (g := gb251) (o := .cells #[.string a0_0, .int .i64 a0_1, .bool a0_2, .int .i64 a0_3, .int .u64 a0_4, .float .f64 a0_5, .string a0_6, .slice A0_7 l0_7.length c0_7] 43 (0, 0)) (by (with_reducible repeat (first | refine blk_drewN ?_ _ | refine blk_drew ?_ | refine blk_alloc ?_ _)); exact BK251.out)) : gb252 ≠ gb251)); clear BK251; clear HB; have BK251 := n0_; have HB := n1_; have BK252 := n2_; have GW252 := n3_; have GE252 := n4_; have NB251_252 := n5_; have NB252_251 := n6_; clear n0_ n1_ n2_ n3_ n4_ n5_ n6_; clear hb hbox hg; have hnb4 := NB251_252.out; have hnc4 := NB252_251.out; have hcz5_0 : w3.cell? ⟨gb251, 0, none⟩ = some (.string a0_0) := (blk_cell BK251.out 0).trans rfl; have hcz5_1 : w3.cell? ⟨gb251, 1, none⟩ = some (.int .i64 a0_1) := (blk_cell BK251.out 1).trans rfl; have hcz5_2 : w3.cell? ⟨gb251, 2, none⟩ = some (.bool a0_2) := (blk_cell BK251.out 2).trans rfl; have hcz5_3 : w3.cell? ⟨gb251, 3, none⟩ = some (.int .i64 a0_3) := (blk_cell BK251.out 3).trans rfl; have hcz5_4 : w3.cell? ⟨gb251, 4, none⟩ = some (.int .u64 a0_4) := (blk_cell BK251.out 4).trans rfl; have hcz5_5 : w3.cell? ⟨gb251, 5, none⟩ = some (.float .f64 a0_5) := (blk_cell BK251.out 5).trans rfl; have hcz5_6 : w3.cell? ⟨gb251, 6, none⟩ = some (.string a0_6) := (blk_cell BK251.out 6).trans rfl; have hcz5_7 : w3.cell? ⟨gb251, 7, none⟩ = some (.slice A0_7 l0_7.length c0_7) := (blk_cell BK251.out 7).trans rfl; have hfz5_0 := blk_frozen BK251.out 0; have hfz5_1 := blk_frozen BK251.out 1; have hfz5_2 := blk_frozen BK251.out 2; have hfz5_3 := blk_frozen BK251.out 3; have hfz5_4 := blk_frozen BK251.out 4; have hfz5_5 := blk_frozen BK251.out 5; have hfz5_6 := blk_frozen BK251.out 6; have hfz5_7 := blk_frozen BK251.out 7) | ((with_reducible refine gate_dst (N := 3) rfl ?_); refine box_event ?hg (N := 3) ?hd (cs := #[.string (⟨#[]⟩ : ByteArray), .int .i64 0, .bool false, .int .i64 0, .int .u64 0, .float .f64 0, .string (⟨#[]⟩ : ByteArray), .slice none 0 0]) (t := 39) ?hr ?_; (case hd => rfl); (case hg => rfl); (case hr => first | (go_simp; done) | (go_simp; rfl)); intro gb253 hg w6 hbox hb; have n0_ := Aside0.mk (blk_below (g := gb251) (o := .cells #[.string a0_0, .int .i64 a0_1, .bool a0_2, .int .i64 a0_3, .int .u64 a0_4, .float .f64 a0_5, .string a0_6, .slice A0_7 l0_7.length c0_7] 43 (0, 0)) (by (with_reducible repeat (first | refine blk_drewN ?_ _ | refine blk_drew ?_ | refine blk_alloc ?_ _)); exact BK251.out) hb); have n1_ := Aside0.mk (blk_below (g := gb252) (o := .cells #[.string (⟨#[]⟩ : ByteArray), .int .i64 0, .bool false, .int .i64 0, .int .u64 0, .float .f64 0, .string (⟨#[]⟩ : ByteArray), .slice none 0 0] 39 (0, 0)) (by (with_reducible repeat (first | refine blk_drewN ?_ _ | refine blk_drew ?_ | refine blk_alloc ?_ _)); exact BK252.out) hb); have n2_ := Aside0.mk (below_step (by repeat (first | (with_reducible first | exact HB.out | apply below_alloc | apply pw_below_drewN | apply below_drew1 | refine below_set ?_ GE251.out | refine below_set ?_ GE252.out) | exact HB.out)) hb); have n3_ := Aside0.mk (hbox); have n4_ := Aside0.mk ((by rw [hg]; exact (below_size (by repeat (first | (with_reducible first | exact HB.out | apply below_alloc | apply pw_below_drewN | apply below_drew1 | refine below_set ?_ GE251.out | refine below_set ?_ GE252.out) | exact HB.out))) : w.heap.size ≤ gb253)); have n5_ := Aside0.mk ((by rw [hg]; exact (below_size (by repeat (first | (with_reducible first | exact HB.out | apply below_alloc | apply pw_below_drewN | apply below_drew1 | refine below_set ?_ GE251.out | refine below_set ?_ GE252.out) | exact HB.out))) : w.heap.size ≤ gb253)); have n6_ := Aside0.mk ((by rw [hg]; exact Nat.ne_of_lt (blk_lt (g := gb251) (o := .cells #[.string a0_0, .int .i64 a0_1, .bool a0_2, .int .i64 a0_3, .int .u64 a0_4, .float .f64 a0_5, .string a0_6, .slice A0_7 l0_7.length c0_7] 43 (0, 0)) (by (with_reducible repeat (first | refine blk_drewN ?_ _ | refine blk_drew ?_ | refine blk_alloc ?_ _)); exact BK251.out)) : gb251 ≠ gb253)); have n7_ := Aside0.mk ((by rw [hg]; exact Nat.ne_of_gt (blk_lt (g := gb251) (o := .cells #[.string a0_0, .int .i64 a0_1, .bool a0_2, .int .i64 a0_3, .int .u64 a0_4, .float .f64 a0_5, .string a0_6, .slice A0_7 l0_7.length c0_7] 43 (0, 0)) (by (with_reducible repeat (first | refine blk_drewN ?_ _ | refine blk_drew ?_ | refine blk_alloc ?_ _)); exact BK251.out)) : gb253 ≠ gb251)); have n8_ := Aside0.mk ((by rw [hg]; exact Nat.ne_of_lt (blk_lt (g := gb252) (o := .cells #[.string (⟨#[]⟩ : ByteArray), .int .i64 0, .bool false, .int .i64 0, .int .u64 0, .float .f64 0, .string (⟨#[]⟩ : ByteArray), .slice none 0 0] 39 (0, 0)) (by (with_reducible repeat (first | refine blk_drewN ?_ _ | refine blk_drew ?_ | refine blk_alloc ?_ _)); exact BK252.out)) : gb252 ≠ gb253)); have n9_ := Aside0.mk ((by rw [hg]; exact Nat.ne_of_gt (blk_lt (g := gb252) (o := .cells #[.string (⟨#[]⟩ : ByteArray), .int .i64 0, .bool false, .int .i64 0, .int .u64 0, .float .f64 0, .string (⟨#[]⟩ : ByteArray), .slice none 0 0] 39 (0, 0)) (by (with_reducible repeat (first | refine blk_drewN ?_ _ | refine blk_drew ?_ | refine blk_alloc ?_ _)); exact BK252.out)) : gb253 ≠ gb252)); clear BK251; clear BK252; clear HB; have BK251 := n0_; have BK252 := n1_; have HB := n2_; have BK253 := n3_; have GW253 := n4_; have GE253 := n5_; have NB251_253 := n6_; have NB253_251 := n7_; have NB252_253 := n8_; have NB253_252 := n9_; clear n0_ n1_ n2_ n3_ n4_ n5_ n6_ n7_ n8_ n9_; clear hb hbox hg; have hnb7 := NB253_251.out; have hnc7 := NB251_253.out; have hnb8 := NB253_252.out; have hnc8 := NB252_253.out; have hcz9_0 : w6.cell? ⟨gb253, 0, none⟩ = some (.string (⟨#[]⟩ : ByteArray)) := (blk_cell BK253.out 0).trans rfl; have hcz9_1 : w6.cell? ⟨gb253, 1, none⟩ = some (.int .i64 0) := (blk_cell BK253.out 1).trans rfl; have hcz9_2 : w6.cell? ⟨gb253, 2, none⟩ = some (.bool false) := (blk_cell BK253.out 2).trans rfl; have hcz9_3 : w6.cell? ⟨gb253, 3, none⟩ = some (.int .i64 0) := (blk_cell BK253.out 3).trans rfl; have hcz9_4 : w6.cell? ⟨gb253, 4, none⟩ = some (.int .u64 0) := (blk_cell BK253.out 4).trans rfl; have hcz9_5 : w6.cell? ⟨gb253, 5, none⟩ = some (.float .f64 0) := (blk_cell BK253.out 5).trans rfl; have hcz9_6 : w6.cell? ⟨gb253, 6, none⟩ = some (.string (⟨#[]⟩ : ByteArray)) := (blk_cell BK253.out 6).trans rfl; have hcz9_7 : w6.cell? ⟨gb253, 7, none⟩ = some (.slice none 0 0) := (blk_cell BK253.out 7).trans rfl; have hfz9_0 := blk_frozen BK253.out 0; have hfz9_1 := blk_frozen BK253.out 1; have hfz9_2 := blk_frozen BK253.out 2; have hfz9_3 := blk_frozen BK253.out 3; have hfz9_4 := blk_frozen BK253.out 4; have hfz9_5 := blk_frozen BK253.out 5; have hfz9_6 := blk_frozen BK253.out 6; have hfz9_7 := blk_frozen BK253.out 7; have hcz10_0 : w6.cell? ⟨gb251, 0, none⟩ = some (.string a0_0) := (blk_cell BK251.out 0).trans rfl; have hcz10_1 : w6.cell? ⟨gb251, 1, none⟩ = some (.int .i64 a0_1) := (blk_cell BK251.out 1).trans rfl; have hcz10_2 : w6.cell? ⟨gb251, 2, none⟩ = some (.bool a0_2) := (blk_cell BK251.out 2).trans rfl; have hcz10_3 : w6.cell? ⟨gb251, 3, none⟩ = some (.int .i64 a0_3) := (blk_cell BK251.out 3).trans rfl; have hcz10_4 : w6.cell? ⟨gb251, 4, none⟩ = some (.int .u64 a0_4) := (blk_cell BK251.out 4).trans rfl; have hcz10_5 : w6.cell? ⟨gb251, 5, none⟩ = some (.float .f64 a0_5) := (blk_cell BK251.out 5).trans rfl; have hcz10_6 : w6.cell? ⟨gb251, 6, none⟩ = some (.string a0_6) := (blk_cell BK251.out 6).trans rfl; have hcz10_7 : w6.cell? ⟨gb251, 7, none⟩ = some (.slice A0_7 l0_7.length c0_7) := (blk_cell BK251.out 7).trans rfl; have hfz10_0 := blk_frozen BK251.out 0; have hfz10_1 := blk_frozen BK251.out 1; have hfz10_2 := blk_frozen BK251.out 2; have hfz10_3 := blk_frozen BK251.out 3; have hfz10_4 := blk_frozen BK251.out 4; have hfz10_5 := blk_frozen BK251.out 5; have hfz10_6 := blk_frozen BK251.out 6; have hfz10_7 := blk_frozen BK251.out 7))
 go_loopg [24] k (fun kq v24 w' => ∃ (x24_1 : Int) (x254007_1 : List (S39)) (u254007 : Value), v24 = .int .i64 x24_1 ∧ Aside0 (laws_toNode.l0 kq l0_7 (l0_7.length : Int) x24_1 a0_0 a0_1 a0_2 a0_3 a0_4 a0_5 a0_6 x254007_1 = some (r1, r2, r3, r4, r5, r6, r7, r8)) ∧ Aside0 (kq ≤ k) ∧ Aside0 (Kd.R k39 39 w' w.heap.size (fun k_ => k_ ≠ gb252 ∧ k_ ≠ gb253) u254007 x254007_1) ∧ Aside0 (w'.heap[gb251]? = some (.cells #[.string a0_0, .int .i64 a0_1, .bool a0_2, .int .i64 a0_3, .int .u64 a0_4, .float .f64 a0_5, .string a0_6, (.slice A0_7 l0_7.length c0_7)] 43 (0, 0))) ∧ Aside0 (w'.heap[gb252]? = some (.cells #[.string (⟨#[]⟩ : ByteArray), .int .i64 0, .bool false, .int .i64 0, .int .u64 0, .float .f64 0, .string (⟨#[]⟩ : ByteArray), (.slice none 0 0)] 39 (0, 0))) ∧ Aside0 (w'.heap[gb253]? = some (.cells #[.string a0_0, .int .i64 a0_1, .bool a0_2, .int .i64 a0_3, .int .u64 a0_4, .float .f64 a0_5, .string a0_6, u254007] 39 (0, 0))) ∧ Aside0 (Below w.heap.size w w'))
 case atStart => exact ⟨(0), (([] : List (S39))), (.slice none 0 0), (by first | rfl | (simp; done) | (simp [*]; done)), H', ⟨Nat.le_refl _⟩, ⟨by first | exact Kd.R_nil _ _ _ _ _ | exact Kd.N_nil _ _ _ _ _ | exact Kd.V_nil _ _ _ _ _ | exact Kd.Q_nil _ _ _ _ _ | exact Kd.S_nil _ _ _ _ _⟩, ⟨by (with_reducible repeat (first | refine blk_drewN ?_ _ | refine blk_drew ?_ | refine blk_alloc ?_ _)); refine blk_far ?_ NB251_253.out _; (with_reducible repeat (first | refine blk_drewN ?_ _ | refine blk_drew ?_ | refine blk_alloc ?_ _)); refine blk_far ?_ NB251_253.out _; (with_reducible repeat (first | refine blk_drewN ?_ _ | refine blk_drew ?_ | refine blk_alloc ?_ _)); refine blk_far ?_ NB251_253.out _; (with_reducible repeat (first | refine blk_drewN ?_ _ | refine blk_drew ?_ | refine blk_alloc ?_ _)); refine blk_far ?_ NB251_253.out _; (with_reducible repeat (first | refine blk_drewN ?_ _ | refine blk_drew ?_ | refine blk_alloc ?_ _)); refine blk_far ?_ NB251_253.out _; (with_reducible repeat (first | refine blk_drewN ?_ _ | refine blk_drew ?_ | refine blk_alloc ?_ _)); refine blk_far ?_ NB251_253.out _; (with_reducible repeat (first | refine blk_drewN ?_ _ | refine blk_drew ?_ | refine blk_alloc ?_ _)); refine blk_far ?_ NB251_253.out _; (with_reducible repeat (first | refine blk_drewN ?_ _ | refine blk_drew ?_ | refine blk_alloc ?_ _)); refine blk_far ?_ NB251_253.out _; (with_reducible repeat (first | refine blk_drewN ?_ _ | refine blk_drew ?_ | refine blk_alloc ?_ _)); exact BK251.out⟩, ⟨by (with_reducible repeat (first | refine blk_drewN ?_ _ | refine blk_drew ?_ | refine blk_alloc ?_ _)); refine blk_far ?_ NB252_253.out _; (with_reducible repeat (first | refine blk_drewN ?_ _ | refine blk_drew ?_ | refine blk_alloc ?_ _)); refine blk_far ?_ NB252_253.out _; (with_reducible repeat (first | refine blk_drewN ?_ _ | refine blk_drew ?_ | refine blk_alloc ?_ _)); refine blk_far ?_ NB252_253.out _; (with_reducible repeat (first | refine blk_drewN ?_ _ | refine blk_drew ?_ | refine blk_alloc ?_ _)); refine blk_far ?_ NB252_253.out _; (with_reducible repeat (first | refine blk_drewN ?_ _ | refine blk_drew ?_ | refine blk_alloc ?_ _)); refine blk_far ?_ NB252_253.out _; (with_reducible repeat (first | refine blk_drewN ?_ _ | refine blk_drew ?_ | refine blk_alloc ?_ _)); refine blk_far ?_ NB252_253.out _; (with_reducible repeat (first | refine blk_drewN ?_ _ | refine blk_drew ?_ | refine blk_alloc ?_ _)); refine blk_far ?_ NB252_253.out _; (with_reducible repeat (first | refine blk_drewN ?_ _ | refine blk_drew ?_ | refine blk_alloc ?_ _)); refine blk_far ?_ NB252_253.out _; (with_reducible repeat (first | refine blk_drewN ?_ _ | refine blk_drew ?_ | refine blk_alloc ?_ _)); exact BK252.out⟩, ⟨by (with_reducible repeat (first | refine blk_drewN ?_ _ | refine blk_drew ?_ | refine blk_alloc ?_ _)); refine blk_put (cs := #[.string a0_0, .int .i64 a0_1, .bool a0_2, .int .i64 a0_3, .int .u64 a0_4, .float .f64 a0_5, .string a0_6, .slice none 0 0]) ?_ 7 _ rfl; (with_reducible repeat (first | refine blk_drewN ?_ _ | refine blk_drew ?_ | refine blk_alloc ?_ _)); refine blk_put (cs := #[.string a0_0, .int .i64 a0_1, .bool a0_2, .int .i64 a0_3, .int .u64 a0_4, .float .f64 a0_5, .string (⟨#[]⟩ : ByteArray), .slice none 0 0]) ?_ 6 _ rfl; (with_reducible repeat (first | refine blk_drewN ?_ _ | refine blk_drew ?_ | refine blk_alloc ?_ _)); refine blk_put (cs := #[.string a0_0, .int .i64 a0_1, .bool a0_2, .int .i64 a0_3, .int .u64 a0_4, .float .f64 0, .string (⟨#[]⟩ : ByteArray), .slice none 0 0]) ?_ 5 _ rfl; (with_reducible repeat (first | refine blk_drewN ?_ _ | refine blk_drew ?_ | refine blk_alloc ?_ _)); refine blk_put (cs := #[.string a0_0, .int .i64 a0_1, .bool a0_2, .int .i64 a0_3, .int .u64 0, .float .f64 0, .string (⟨#[]⟩ : ByteArray), .slice none 0 0]) ?_ 4 _ rfl; (with_reducible repeat (first | refine blk_drewN ?_ _ | refine blk_drew ?_ | refine blk_alloc ?_ _)); refine blk_put (cs := #[.string a0_0, .int .i64 a0_1, .bool a0_2, .int .i64 0, .int .u64 0, .float .f64 0, .string (⟨#[]⟩ : ByteArray), .slice none 0 0]) ?_ 3 _ rfl; (with_reducible repeat (first | refine blk_drewN ?_ _ | refine blk_drew ?_ | refine blk_alloc ?_ _)); refine blk_put (cs := #[.string a0_0, .int .i64 a0_1, .bool false, .int .i64 0, .int .u64 0, .float .f64 0, .string (⟨#[]⟩ : ByteArray), .slice none 0 0]) ?_ 2 _ rfl; (with_reducible repeat (first | refine blk_drewN ?_ _ | refine blk_drew ?_ | refine blk_alloc ?_ _)); refine blk_put (cs := #[.string a0_0, .int .i64 0, .bool false, .int .i64 0, .int .u64 0, .float .f64 0, .string (⟨#[]⟩ : ByteArray), .slice none 0 0]) ?_ 1 _ rfl; (with_reducible repeat (first | refine blk_drewN ?_ _ | refine blk_drew ?_ | refine blk_alloc ?_ _)); refine blk_put (cs := #[.string (⟨#[]⟩ : ByteArray), .int .i64 0, .bool false, .int .i64 0, .int .u64 0, .float .f64 0, .string (⟨#[]⟩ : ByteArray), .slice none 0 0]) ?_ 0 _ rfl; (with_reducible repeat (first | refine blk_drewN ?_ _ | refine blk_drew ?_ | refine blk_alloc ?_ _)); exact BK253.out⟩, ⟨by repeat (first | (with_reducible first | exact HB.out | apply below_alloc | apply pw_below_drewN | apply below_drew1 | refine below_set ?_ GE251.out | refine below_set ?_ GE252.out | refine below_set ?_ GE253.out) | exact HB.out)⟩⟩
 case round =>
  clear H'
  try clear p2
  try clear c4
  try clear c7
  try clear c8
  try clear hcz10_0
  try clear hcz10_1
  try clear hcz10_2
  try clear hcz10_3
  try clear hcz10_4
  try clear hcz10_5
  try clear hcz10_6
  try clear hcz10_7
  try clear hcz5_0
  try clear hcz5_1
  try clear hcz5_2
  try clear hcz5_3
  try clear hcz5_4
  try clear hcz5_5
  try clear hcz5_6
  try clear hcz5_7
  try clear hcz9_0
  try clear hcz9_1
  try clear hcz9_2
  try clear hcz9_3
  try clear hcz9_4
  try clear hcz9_5
  try clear hcz9_6
  try clear hcz9_7
  try clear hfz10_0
  try clear hfz10_1
  try clear hfz10_2
  try clear hfz10_3
  try clear hfz10_4
  try clear hfz10_5
  try clear hfz10_6
  try clear hfz10_7
  try clear hfz5_0
  try clear hfz5_1
  try clear hfz5_2
  try clear hfz5_3
  try clear hfz5_4
  try clear hfz5_5
  try clear hfz5_6
  try clear hfz5_7
  try clear hfz9_0
  try clear hfz9_1
  try clear hfz9_2
  try clear hfz9_3
  try clear hfz9_4
  try clear hfz9_5
  try clear hfz9_6
  try clear hfz9_7
  obtain ⟨x24_1, x254007_1, u254007, rfl, HA, HK1, HO_254007, BK251, BK252, BK253, HB⟩ := hrel
  cases gk with
  | zero => exact absurd HA.out (by simp [laws_toNode.l0])
  | succ k1 =>
   have H := HA.out
   clear HA
   simp only [laws_toNode.l0] at H
   by_cases c11 : x24_1 < (l0_7.length : Int)
   ·rw [if_pos c11] at H
    have c11b0 : decide (x24_1 < (l0_7.length : Int)) = true := decide_eq_true c11
    clear c11
    replace H := guard_inv H
    obtain ⟨c12, H⟩ := H
    have c12b0 : decide (0 ≤ x24_1) = true := decide_eq_true c12
    clear c12
    replace H := guard_inv H
    obtain ⟨c13, H⟩ := H
    have c13b0 : decide (x24_1 < (l0_7.length : Int)) = true := decide_eq_true c13
    clear c13
    replace H := Option.bind_eq_some_iff.mp H
    obtain ⟨⟨t256, t257, t258, t259, t260, t261, t262, t263⟩, A140, H⟩ := H
    replace H : (if x254007_1.length < 1466015503701 then (laws_toNode.l0 k1 l0_7 (l0_7.length : Int) (wrap64 (x24_1 + 1)) a0_0 a0_1 a0_2 a0_3 a0_4 a0_5 a0_6 (x254007_1 ++ [(⟨t256, t257, t258, t259, t260, t261, t262, t263⟩ : S39)])) else (none)) = some (r1, r2, r3, r4, r5, r6, r7, r8) := H
    have A14 := Aside0.mk A140
    clear A140
    replace H := guard_inv H
    obtain ⟨c15, H⟩ := H
    have LMc15 := Aside0.mk c15
    clear c15
    obtain ⟨y266, hy266⟩ : ∃ y_ : List (S39), y_ = (x254007_1 ++ [(⟨t256, t257, t258, t259, t260, t261, t262, t263⟩ : S39)]) := ⟨_, rfl⟩
    replace H : (laws_toNode.l0 k1 l0_7 (l0_7.length : Int) (wrap64 (x24_1 + 1)) a0_0 a0_1 a0_2 a0_3 a0_4 a0_5 a0_6 y266) = some (r1, r2, r3, r4, r5, r6, r7, r8) := by first | (rw [hy266]; with_reducible exact H) | (have H2_ := (Option.bind_some _ _).symm.trans H; rw [hy266]; with_reducible exact H2_) | (have H2_ := (Option.bind_some _ _).symm.trans H; with_reducible exact H2_) | with_reducible exact H | (rw [hy266]; exact H) | exact H
    have Ny266 := Aside0.mk hy266
    clear hy266
    have H' := Aside0.mk H
    clear H
    have p254 : 0 ≤ (x24_1 : Int) := of_decide_eq_true (by first | (with_reducible assumption) | assumption)
    have q254 : x24_1 < (l0_7.length : Int) := of_decide_eq_true (by first | (with_reducible assumption) | assumption)
    obtain ⟨ad254, A254_7, c254_7, e254, hx254_0, hx254_1, hx254_2, hx254_3, hx254_4, hx254_5, hx254_6, hx254_7, hl254_7, hi254_7⟩ := at_T43 HR0_7.out x24_1 p254 q254
    cases e254
    replace hx254_0 := (HB.out.cell (World.block_lt_of_cell? w _ hx254_0)).trans hx254_0
    replace hx254_1 := (HB.out.cell (World.block_lt_of_cell? w _ hx254_1)).trans hx254_1
    replace hx254_2 := (HB.out.cell (World.block_lt_of_cell? w _ hx254_2)).trans hx254_2
    replace hx254_3 := (HB.out.cell (World.block_lt_of_cell? w _ hx254_3)).trans hx254_3
    replace hx254_4 := (HB.out.cell (World.block_lt_of_cell? w _ hx254_4)).trans hx254_4
    replace hx254_5 := (HB.out.cell (World.block_lt_of_cell? w _ hx254_5)).trans hx254_5
    replace hx254_6 := (HB.out.cell (World.block_lt_of_cell? w _ hx254_6)).trans hx254_6
    replace hx254_7 := (HB.out.cell (World.block_lt_of_cell? w _ hx254_7)).trans hx254_7
    have HR254_7 := Aside0.mk hi254_7
    have HC254_7 := Aside0.mk hl254_7
    clear hi254_7 hl254_7
    replace p254 := eq_true p254
    replace q254 := eq_true q254
    try go_wp2_with (first | ((with_reducible refine gate_dst (N := 5) rfl ?_); refine box_event ?hg (N := 5) ?hd (cs := #[.string (⟨#[]⟩ : ByteArray), .int .i64 0, .bool false, .int .i64 0, .int .u64 0, .float .f64 0, .string (⟨#[]⟩ : ByteArray), .slice none 0 0]) (t := 43) ?hr ?_; (case hd => rfl); (case hg => rfl); (case hr => first | (go_simp; done) | (go_simp; rfl)); intro gb255 hg w16 hbox hb; have n0_ := Aside0.mk (Kd.R_below (by (with_reducible repeat (first | apply Kd.R_alloc | apply Kd.R_drewN | apply Kd.R_drew)); exact HO_254007.out) hb); have n1_ := Aside0.mk (blk_below (g := gb251) (o := .cells #[.string a0_0, .int .i64 a0_1, .bool a0_2, .int .i64 a0_3, .int .u64 a0_4, .float .f64 a0_5, .string a0_6, .slice (some ad254) l0_7.length c0_7] 43 (0, 0)) (by (with_reducible repeat (first | refine blk_drewN ?_ _ | refine blk_drew ?_ | refine blk_alloc ?_ _)); exact BK251.out) hb); have n2_ := Aside0.mk (blk_below (g := gb252) (o := .cells #[.string (⟨#[]⟩ : ByteArray), .int .i64 0, .bool false, .int .i64 0, .int .u64 0, .float .f64 0, .string (⟨#[]⟩ : ByteArray), .slice none 0 0] 39 (0, 0)) (by (with_reducible repeat (first | refine blk_drewN ?_ _ | refine blk_drew ?_ | refine blk_alloc ?_ _)); exact BK252.out) hb); have n3_ := Aside0.mk (blk_below (g := gb253) (o := .cells #[.string a0_0, .int .i64 a0_1, .bool a0_2, .int .i64 a0_3, .int .u64 a0_4, .float .f64 a0_5, .string a0_6, u254007] 39 (0, 0)) (by (with_reducible repeat (first | refine blk_drewN ?_ _ | refine blk_drew ?_ | refine blk_alloc ?_ _)); exact BK253.out) hb); have n4_ := Aside0.mk (below_step (by repeat (first | (with_reducible first | exact HB.out | apply below_alloc | apply pw_below_drewN | apply below_drew1 | refine below_set ?_ GE251.out | refine below_set ?_ GE252.out | refine below_set ?_ GE253.out) | exact HB.out)) hb); have n5_ := Aside0.mk (hbox); have n6_ := Aside0.mk ((by rw [hg]; exact (below_size (by repeat (first | (with_reducible first | exact HB.out | apply below_alloc | apply pw_below_drewN | apply below_drew1 | refine below_set ?_ GE251.out | refine below_set ?_ GE252.out | refine below_set ?_ GE253.out) | exact HB.out))) : w.heap.size ≤ gb255)); have n7_ := Aside0.mk ((by rw [hg]; exact (below_size (by repeat (first | (with_reducible first | exact HB.out | apply below_alloc | apply pw_below_drewN | apply below_drew1 | refine below_set ?_ GE251.out | refine below_set ?_ GE252.out | refine below_set ?_ GE253.out) | exact HB.out))) : w.heap.size ≤ gb255)); have n8_ := Aside0.mk ((by rw [hg]; exact Nat.ne_of_lt (blk_lt (g := gb251) (o := .cells #[.string a0_0, .int .i64 a0_1, .bool a0_2, .int .i64 a0_3, .int .u64 a0_4, .float .f64 a0_5, .string a0_6, .slice (some ad254) l0_7.length c0_7] 43 (0, 0)) (by (with_reducible repeat (first | refine blk_drewN ?_ _ | refine blk_drew ?_ | refine blk_alloc ?_ _)); exact BK251.out)) : gb251 ≠ gb255)); have n9_ := Aside0.mk ((by rw [hg]; exact Nat.ne_of_gt (blk_lt (g := gb251) (o := .cells #[.string a0_0, .int .i64 a0_1, .bool a0_2, .int .i64 a0_3, .int .u64 a0_4, .float .f64 a0_5, .string a0_6, .slice (some ad254) l0_7.length c0_7] 43 (0, 0)) (by (with_reducible repeat (first | refine blk_drewN ?_ _ | refine blk_drew ?_ | refine blk_alloc ?_ _)); exact BK251.out)) : gb255 ≠ gb251)); have n10_ := Aside0.mk ((by rw [hg]; exact Nat.ne_of_lt (blk_lt (g := gb252) (o := .cells #[.string (⟨#[]⟩ : ByteArray), .int .i64 0, .bool false, .int .i64 0, .int .u64 0, .float .f64 0, .string (⟨#[]⟩ : ByteArray), .slice none 0 0] 39 (0, 0)) (by (with_reducible repeat (first | refine blk_drewN ?_ _ | refine blk_drew ?_ | refine blk_alloc ?_ _)); exact BK252.out)) : gb252 ≠ gb255)); have n11_ := Aside0.mk ((by rw [hg]; exact Nat.ne_of_gt (blk_lt (g := gb252) (o := .cells #[.string (⟨#[]⟩ : ByteArray), .int .i64 0, .bool false, .int .i64 0, .int .u64 0, .float .f64 0, .string (⟨#[]⟩ : ByteArray), .slice none 0 0] 39 (0, 0)) (by (with_reducible repeat (first | refine blk_drewN ?_ _ | refine blk_drew ?_ | refine blk_alloc ?_ _)); exact BK252.out)) : gb255 ≠ gb252)); have n12_ := Aside0.mk ((by rw [hg]; exact Nat.ne_of_lt (blk_lt (g := gb253) (o := .cells #[.string a0_0, .int .i64 a0_1, .bool a0_2, .int .i64 a0_3, .int .u64 a0_4, .float .f64 a0_5, .string a0_6, u254007] 39 (0, 0)) (by (with_reducible repeat (first | refine blk_drewN ?_ _ | refine blk_drew ?_ | refine blk_alloc ?_ _)); exact BK253.out)) : gb253 ≠ gb255)); have n13_ := Aside0.mk ((by rw [hg]; exact Nat.ne_of_gt (blk_lt (g := gb253) (o := .cells #[.string a0_0, .int .i64 a0_1, .bool a0_2, .int .i64 a0_3, .int .u64 a0_4, .float .f64 a0_5, .string a0_6, u254007] 39 (0, 0)) (by (with_reducible repeat (first | refine blk_drewN ?_ _ | refine blk_drew ?_ | refine blk_alloc ?_ _)); exact BK253.out)) : gb255 ≠ gb253)); clear HO_254007; clear BK251; clear BK252; clear BK253; clear HB; have HO_254007 := n0_; have BK251 := n1_; have BK252 := n2_; have BK253 := n3_; have HB := n4_; have BK255 := n5_; have GW255 := n6_; have GE255 := n7_; have NB251_255 := n8_; have NB255_251 := n9_; have NB252_255 := n10_; have NB255_252 := n11_; have NB253_255 := n12_; have NB255_253 := n13_; clear n0_ n1_ n2_ n3_ n4_ n5_ n6_ n7_ n8_ n9_ n10_ n11_ n12_ n13_; clear hb hbox hg; have hnb17 := NB255_251.out; have hnc17 := NB251_255.out; have hnb18 := NB255_252.out; have hnc18 := NB252_255.out; have hnb19 := NB255_253.out; have hnc19 := NB253_255.out; have hcz20_0 : w16.cell? ⟨gb255, 0, none⟩ = some (.string (⟨#[]⟩ : ByteArray)) := (blk_cell BK255.out 0).trans rfl; have hcz20_1 : w16.cell? ⟨gb255, 1, none⟩ = some (.int .i64 0) := (blk_cell BK255.out 1).trans rfl; have hcz20_2 : w16.cell? ⟨gb255, 2, none⟩ = some (.bool false) := (blk_cell BK255.out 2).trans rfl; have hcz20_3 : w16.cell? ⟨gb255, 3, none⟩ = some (.int .i64 0) := (blk_cell BK255.out 3).trans rfl; have hcz20_4 : w16.cell? ⟨gb255, 4, none⟩ = some (.int .u64 0) := (blk_cell BK255.out 4).trans rfl; have hcz20_5 : w16.cell? ⟨gb255, 5, none⟩ = some (.float .f64 0) := (blk_cell BK255.out 5).trans rfl; have hcz20_6 : w16.cell? ⟨gb255, 6, none⟩ = some (.string (⟨#[]⟩ : ByteArray)) := (blk_cell BK255.out 6).trans rfl; have hcz20_7 : w16.cell? ⟨gb255, 7, none⟩ = some (.slice none 0 0) := (blk_cell BK255.out 7).trans rfl; have hfz20_0 := blk_frozen BK255.out 0; have hfz20_1 := blk_frozen BK255.out 1; have hfz20_2 := blk_frozen BK255.out 2; have hfz20_3 := blk_frozen BK255.out 3; have hfz20_4 := blk_frozen BK255.out 4; have hfz20_5 := blk_frozen BK255.out 5; have hfz20_6 := blk_frozen BK255.out 6; have hfz20_7 := blk_frozen BK255.out 7))
    have n0_ : Aside0 (Kd.R k39 39 ((((((((w16.setCell ⟨gb255, 0, none⟩ (.string ((rd_T43 l0_7 x24_1).f0))).setCell ⟨gb255, 1, none⟩ (.int .i64 ((rd_T43 l0_7 x24_1).f1))).setCell ⟨gb255, 2, none⟩ (.bool ((rd_T43 l0_7 x24_1).f2))).setCell ⟨gb255, 3, none⟩ (.int .i64 ((rd_T43 l0_7 x24_1).f3))).setCell ⟨gb255, 4, none⟩ (.int .u64 ((rd_T43 l0_7 x24_1).f4))).setCell ⟨gb255, 5, none⟩ (.float .f64 ((rd_T43 l0_7 x24_1).f5))).setCell ⟨gb255, 6, none⟩ (.string ((rd_T43 l0_7 x24_1).f6))).setCell ⟨gb255, 7, none⟩ (.slice A254_7 ((rd_T43 l0_7 x24_1).f7).length c254_7)) w.heap.size (fun k_ => k_ ≠ gb252 ∧ k_ ≠ gb253) u254007 x254007_1) := ⟨by (with_reducible repeat (first | apply Kd.R_alloc | apply Kd.R_drewN | apply Kd.R_drew)); exact Kd.R_mono (Kd.R_far (p := ⟨gb255, 7, none⟩) (Kd.R_far (p := ⟨gb255, 6, none⟩) (Kd.R_far (p := ⟨gb255, 5, none⟩) (Kd.R_far (p := ⟨gb255, 4, none⟩) (Kd.R_far (p := ⟨gb255, 3, none⟩) (Kd.R_far (p := ⟨gb255, 2, none⟩) (Kd.R_far (p := ⟨gb255, 1, none⟩) (Kd.R_far (p := ⟨gb255, 0, none⟩) (Kd.R_types HO_254007.out BK255.out (by decide)) (fun _ hk => hk.2) (.string ((rd_T43 l0_7 x24_1).f0))) (fun _ hk => hk.2) (.int .i64 ((rd_T43 l0_7 x24_1).f1))) (fun _ hk => hk.2) (.bool ((rd_T43 l0_7 x24_1).f2))) (fun _ hk => hk.2) (.int .i64 ((rd_T43 l0_7 x24_1).f3))) (fun _ hk => hk.2) (.int .u64 ((rd_T43 l0_7 x24_1).f4))) (fun _ hk => hk.2) (.float .f64 ((rd_T43 l0_7 x24_1).f5))) (fun _ hk => hk.2) (.string ((rd_T43 l0_7 x24_1).f6))) (fun _ hk => hk.2) (.slice A254_7 ((rd_T43 l0_7 x24_1).f7).length c254_7)) (fun _ hk => ⟨hk.1.1, hk.1.2⟩)⟩
    have n1_ : Aside0 (((((((((w16.setCell ⟨gb255, 0, none⟩ (.string ((rd_T43 l0_7 x24_1).f0))).setCell ⟨gb255, 1, none⟩ (.int .i64 ((rd_T43 l0_7 x24_1).f1))).setCell ⟨gb255, 2, none⟩ (.bool ((rd_T43 l0_7 x24_1).f2))).setCell ⟨gb255, 3, none⟩ (.int .i64 ((rd_T43 l0_7 x24_1).f3))).setCell ⟨gb255, 4, none⟩ (.int .u64 ((rd_T43 l0_7 x24_1).f4))).setCell ⟨gb255, 5, none⟩ (.float .f64 ((rd_T43 l0_7 x24_1).f5))).setCell ⟨gb255, 6, none⟩ (.string ((rd_T43 l0_7 x24_1).f6))).setCell ⟨gb255, 7, none⟩ (.slice A254_7 ((rd_T43 l0_7 x24_1).f7).length c254_7)).heap[gb251]? = some (.cells #[.string a0_0, .int .i64 a0_1, .bool a0_2, .int .i64 a0_3, .int .u64 a0_4, .float .f64 a0_5, .string a0_6, .slice (some ad254) l0_7.length c0_7] 43 (0, 0))) := ⟨by (with_reducible repeat (first | refine blk_drewN ?_ _ | refine blk_drew ?_ | refine blk_alloc ?_ _)); refine blk_far ?_ NB251_255.out _; (with_reducible repeat (first | refine blk_drewN ?_ _ | refine blk_drew ?_ | refine blk_alloc ?_ _)); refine blk_far ?_ NB251_255.out _; (with_reducible repeat (first | refine blk_drewN ?_ _ | refine blk_drew ?_ | refine blk_alloc ?_ _)); refine blk_far ?_ NB251_255.out _; (with_reducible repeat (first | refine blk_drewN ?_ _ | refine blk_drew ?_ | refine blk_alloc ?_ _)); refine blk_far ?_ NB251_255.out _; (with_reducible repeat (first | refine blk_drewN ?_ _ | refine blk_drew ?_ | refine blk_alloc ?_ _)); refine blk_far ?_ NB251_255.out _; (with_reducible repeat (first | refine blk_drewN ?_ _ | refine blk_drew ?_ | refine blk_alloc ?_ _)); refine blk_far ?_ NB251_255.out _; (with_reducible repeat (first | refine blk_drewN ?_ _ | refine blk_drew ?_ | refine blk_alloc ?_ _)); refine blk_far ?_ NB251_255.out _; (with_reducible repeat (first | refine blk_drewN ?_ _ | refine blk_drew ?_ | refine blk_alloc ?_ _)); refine blk_far ?_ NB251_255.out _; (with_reducible repeat (first | refine blk_drewN ?_ _ | refine blk_drew ?_ | refine blk_alloc ?_ _)); exact BK251.out⟩
    have n2_ : Aside0 (((((((((w16.setCell ⟨gb255, 0, none⟩ (.string ((rd_T43 l0_7 x24_1).f0))).setCell ⟨gb255, 1, none⟩ (.int .i64 ((rd_T43 l0_7 x24_1).f1))).setCell ⟨gb255, 2, none⟩ (.bool ((rd_T43 l0_7 x24_1).f2))).setCell ⟨gb255, 3, none⟩ (.int .i64 ((rd_T43 l0_7 x24_1).f3))).setCell ⟨gb255, 4, none⟩ (.int .u64 ((rd_T43 l0_7 x24_1).f4))).setCell ⟨gb255, 5, none⟩ (.float .f64 ((rd_T43 l0_7 x24_1).f5))).setCell ⟨gb255, 6, none⟩ (.string ((rd_T43 l0_7 x24_1).f6))).setCell ⟨gb255, 7, none⟩ (.slice A254_7 ((rd_T43 l0_7 x24_1).f7).length c254_7)).heap[gb252]? = some (.cells #[.string (⟨#[]⟩ : ByteArray), .int .i64 0, .bool false, .int .i64 0, .int .u64 0, .float .f64 0, .string (⟨#[]⟩ : ByteArray), .slice none 0 0] 39 (0, 0))) := ⟨by (with_reducible repeat (first | refine blk_drewN ?_ _ | refine blk_drew ?_ | refine blk_alloc ?_ _)); refine blk_far ?_ NB252_255.out _; (with_reducible repeat (first | refine blk_drewN ?_ _ | refine blk_drew ?_ | refine blk_alloc ?_ _)); refine blk_far ?_ NB252_255.out _; (with_reducible repeat (first | refine blk_drewN ?_ _ | refine blk_drew ?_ | refine blk_alloc ?_ _)); refine blk_far ?_ NB252_255.out _; (with_reducible repeat (first | refine blk_drewN ?_ _ | refine blk_drew ?_ | refine blk_alloc ?_ _)); refine blk_far ?_ NB252_255.out _; (with_reducible repeat (first | refine blk_drewN ?_ _ | refine blk_drew ?_ | refine blk_alloc ?_ _)); refine blk_far ?_ NB252_255.out _; (with_reducible repeat (first | refine blk_drewN ?_ _ | refine blk_drew ?_ | refine blk_alloc ?_ _)); refine blk_far ?_ NB252_255.out _; (with_reducible repeat (first | refine blk_drewN ?_ _ | refine blk_drew ?_ | refine blk_alloc ?_ _)); refine blk_far ?_ NB252_255.out _; (with_reducible repeat (first | refine blk_drewN ?_ _ | refine blk_drew ?_ | refine blk_alloc ?_ _)); refine blk_far ?_ NB252_255.out _; (with_reducible repeat (first | refine blk_drewN ?_ _ | refine blk_drew ?_ | refine blk_alloc ?_ _)); exact BK252.out⟩
    have n3_ : Aside0 (((((((((w16.setCell ⟨gb255, 0, none⟩ (.string ((rd_T43 l0_7 x24_1).f0))).setCell ⟨gb255, 1, none⟩ (.int .i64 ((rd_T43 l0_7 x24_1).f1))).setCell ⟨gb255, 2, none⟩ (.bool ((rd_T43 l0_7 x24_1).f2))).setCell ⟨gb255, 3, none⟩ (.int .i64 ((rd_T43 l0_7 x24_1).f3))).setCell ⟨gb255, 4, none⟩ (.int .u64 ((rd_T43 l0_7 x24_1).f4))).setCell ⟨gb255, 5, none⟩ (.float .f64 ((rd_T43 l0_7 x24_1).f5))).setCell ⟨gb255, 6, none⟩ (.string ((rd_T43 l0_7 x24_1).f6))).setCell ⟨gb255, 7, none⟩ (.slice A254_7 ((rd_T43 l0_7 x24_1).f7).length c254_7)).heap[gb253]? = some (.cells #[.string a0_0, .int .i64 a0_1, .bool a0_2, .int .i64 a0_3, .int .u64 a0_4, .float .f64 a0_5, .string a0_6, u254007] 39 (0, 0))) := ⟨by (with_reducible repeat (first | refine blk_drewN ?_ _ | refine blk_drew ?_ | refine blk_alloc ?_ _)); refine blk_far ?_ NB253_255.out _; (with_reducible repeat (first | refine blk_drewN ?_ _ | refine blk_drew ?_ | refine blk_alloc ?_ _)); refine blk_far ?_ NB253_255.out _; (with_reducible repeat (first | refine blk_drewN ?_ _ | refine blk_drew ?_ | refine blk_alloc ?_ _)); refine blk_far ?_ NB253_255.out _; (with_reducible repeat (first | refine blk_drewN ?_ _ | refine blk_drew ?_ | refine blk_alloc ?_ _)); refine blk_far ?_ NB253_255.out _; (with_reducible repeat (first | refine blk_drewN ?_ _ | refine blk_drew ?_ | refine blk_alloc ?_ _)); refine blk_far ?_ NB253_255.out _; (with_reducible repeat (first | refine blk_drewN ?_ _ | refine blk_drew ?_ | refine blk_alloc ?_ _)); refine blk_far ?_ NB253_255.out _; (with_reducible repeat (first | refine blk_drewN ?_ _ | refine blk_drew ?_ | refine blk_alloc ?_ _)); refine blk_far ?_ NB253_255.out _; (with_reducible repeat (first | refine blk_drewN ?_ _ | refine blk_drew ?_ | refine blk_alloc ?_ _)); refine blk_far ?_ NB253_255.out _; (with_reducible repeat (first | refine blk_drewN ?_ _ | refine blk_drew ?_ | refine blk_alloc ?_ _)); exact BK253.out⟩
    have n4_ : Aside0 (((((((((w16.setCell ⟨gb255, 0, none⟩ (.string ((rd_T43 l0_7 x24_1).f0))).setCell ⟨gb255, 1, none⟩ (.int .i64 ((rd_T43 l0_7 x24_1).f1))).setCell ⟨gb255, 2, none⟩ (.bool ((rd_T43 l0_7 x24_1).f2))).setCell ⟨gb255, 3, none⟩ (.int .i64 ((rd_T43 l0_7 x24_1).f3))).setCell ⟨gb255, 4, none⟩ (.int .u64 ((rd_T43 l0_7 x24_1).f4))).setCell ⟨gb255, 5, none⟩ (.float .f64 ((rd_T43 l0_7 x24_1).f5))).setCell ⟨gb255, 6, none⟩ (.string ((rd_T43 l0_7 x24_1).f6))).setCell ⟨gb255, 7, none⟩ (.slice A254_7 ((rd_T43 l0_7 x24_1).f7).length c254_7)).heap[gb255]? = some (.cells #[.string ((rd_T43 l0_7 x24_1).f0), .int .i64 ((rd_T43 l0_7 x24_1).f1), .bool ((rd_T43 l0_7 x24_1).f2), .int .i64 ((rd_T43 l0_7 x24_1).f3), .int .u64 ((rd_T43 l0_7 x24_1).f4), .float .f64 ((rd_T43 l0_7 x24_1).f5), .string ((rd_T43 l0_7 x24_1).f6), .slice A254_7 ((rd_T43 l0_7 x24_1).f7).length c254_7] 43 (0, 0))) := ⟨by (with_reducible repeat (first | refine blk_drewN ?_ _ | refine blk_drew ?_ | refine blk_alloc ?_ _)); refine blk_put (cs := #[.string ((rd_T43 l0_7 x24_1).f0), .int .i64 ((rd_T43 l0_7 x24_1).f1), .bool ((rd_T43 l0_7 x24_1).f2), .int .i64 ((rd_T43 l0_7 x24_1).f3), .int .u64 ((rd_T43 l0_7 x24_1).f4), .float .f64 ((rd_T43 l0_7 x24_1).f5), .string ((rd_T43 l0_7 x24_1).f6), .slice none 0 0]) ?_ 7 _ rfl; (with_reducible repeat (first | refine blk_drewN ?_ _ | refine blk_drew ?_ | refine blk_alloc ?_ _)); refine blk_put (cs := #[.string ((rd_T43 l0_7 x24_1).f0), .int .i64 ((rd_T43 l0_7 x24_1).f1), .bool ((rd_T43 l0_7 x24_1).f2), .int .i64 ((rd_T43 l0_7 x24_1).f3), .int .u64 ((rd_T43 l0_7 x24_1).f4), .float .f64 ((rd_T43 l0_7 x24_1).f5), .string (⟨#[]⟩ : ByteArray), .slice none 0 0]) ?_ 6 _ rfl; (with_reducible repeat (first | refine blk_drewN ?_ _ | refine blk_drew ?_ | refine blk_alloc ?_ _)); refine blk_put (cs := #[.string ((rd_T43 l0_7 x24_1).f0), .int .i64 ((rd_T43 l0_7 x24_1).f1), .bool ((rd_T43 l0_7 x24_1).f2), .int .i64 ((rd_T43 l0_7 x24_1).f3), .int .u64 ((rd_T43 l0_7 x24_1).f4), .float .f64 0, .string (⟨#[]⟩ : ByteArray), .slice none 0 0]) ?_ 5 _ rfl; (with_reducible repeat (first | refine blk_drewN ?_ _ | refine blk_drew ?_ | refine blk_alloc ?_ _)); refine blk_put (cs := #[.string ((rd_T43 l0_7 x24_1).f0), .int .i64 ((rd_T43 l0_7 x24_1).f1), .bool ((rd_T43 l0_7 x24_1).f2), .int .i64 ((rd_T43 l0_7 x24_1).f3), .int .u64 0, .float .f64 0, .string (⟨#[]⟩ : ByteArray), .slice none 0 0]) ?_ 4 _ rfl; (with_reducible repeat (first | refine blk_drewN ?_ _ | refine blk_drew ?_ | refine blk_alloc ?_ _)); refine blk_put (cs := #[.string ((rd_T43 l0_7 x24_1).f0), .int .i64 ((rd_T43 l0_7 x24_1).f1), .bool ((rd_T43 l0_7 x24_1).f2), .int .i64 0, .int .u64 0, .float .f64 0, .string (⟨#[]⟩ : ByteArray), .slice none 0 0]) ?_ 3 _ rfl; (with_reducible repeat (first | refine blk_drewN ?_ _ | refine blk_drew ?_ | refine blk_alloc ?_ _)); refine blk_put (cs := #[.string ((rd_T43 l0_7 x24_1).f0), .int .i64 ((rd_T43 l0_7 x24_1).f1), .bool false, .int .i64 0, .int .u64 0, .float .f64 0, .string (⟨#[]⟩ : ByteArray), .slice none 0 0]) ?_ 2 _ rfl; (with_reducible repeat (first | refine blk_drewN ?_ _ | refine blk_drew ?_ | refine blk_alloc ?_ _)); refine blk_put (cs := #[.string ((rd_T43 l0_7 x24_1).f0), .int .i64 0, .bool false, .int .i64 0, .int .u64 0, .float .f64 0, .string (⟨#[]⟩ : ByteArray), .slice none 0 0]) ?_ 1 _ rfl; (with_reducible repeat (first | refine blk_drewN ?_ _ | refine blk_drew ?_ | refine blk_alloc ?_ _)); refine blk_put (cs := #[.string (⟨#[]⟩ : ByteArray), .int .i64 0, .bool false, .int .i64 0, .int .u64 0, .float .f64 0, .string (⟨#[]⟩ : ByteArray), .slice none 0 0]) ?_ 0 _ rfl; (with_reducible repeat (first | refine blk_drewN ?_ _ | refine blk_drew ?_ | refine blk_alloc ?_ _)); exact BK255.out⟩
    have n5_ : Aside0 (Below w.heap.size w ((((((((w16.setCell ⟨gb255, 0, none⟩ (.string ((rd_T43 l0_7 x24_1).f0))).setCell ⟨gb255, 1, none⟩ (.int .i64 ((rd_T43 l0_7 x24_1).f1))).setCell ⟨gb255, 2, none⟩ (.bool ((rd_T43 l0_7 x24_1).f2))).setCell ⟨gb255, 3, none⟩ (.int .i64 ((rd_T43 l0_7 x24_1).f3))).setCell ⟨gb255, 4, none⟩ (.int .u64 ((rd_T43 l0_7 x24_1).f4))).setCell ⟨gb255, 5, none⟩ (.float .f64 ((rd_T43 l0_7 x24_1).f5))).setCell ⟨gb255, 6, none⟩ (.string ((rd_T43 l0_7 x24_1).f6))).setCell ⟨gb255, 7, none⟩ (.slice A254_7 ((rd_T43 l0_7 x24_1).f7).length c254_7))) := ⟨by repeat (first | (with_reducible first | exact HB.out | apply below_alloc | apply pw_below_drewN | apply below_drew1 | refine below_set ?_ GE251.out | refine below_set ?_ GE252.out | refine below_set ?_ GE253.out | refine below_set ?_ GE255.out) | exact HB.out)⟩
    (try clear HO_254007)
    (try clear BK251)
    (try clear BK252)
    (try clear BK253)
    (try clear BK255)
    (try clear HB)
    generalize ((((((((w16.setCell ⟨gb255, 0, none⟩ (.string ((rd_T43 l0_7 x24_1).f0))).setCell ⟨gb255, 1, none⟩ (.int .i64 ((rd_T43 l0_7 x24_1).f1))).setCell ⟨gb255, 2, none⟩ (.bool ((rd_T43 l0_7 x24_1).f2))).setCell ⟨gb255, 3, none⟩ (.int .i64 ((rd_T43 l0_7 x24_1).f3))).setCell ⟨gb255, 4, none⟩ (.int .u64 ((rd_T43 l0_7 x24_1).f4))).setCell ⟨gb255, 5, none⟩ (.float .f64 ((rd_T43 l0_7 x24_1).f5))).setCell ⟨gb255, 6, none⟩ (.string ((rd_T43 l0_7 x24_1).f6))).setCell ⟨gb255, 7, none⟩ (.slice A254_7 ((rd_T43 l0_7 x24_1).f7).length c254_7)) = w21 at n0_ n1_ n2_ n3_ n4_ n5_ ⊢
    have HO_254007 := n0_
    have BK251 := n1_
    have BK252 := n2_
    have BK253 := n3_
    have BK255 := n4_
    have HB := n5_
    clear n0_ n1_ n2_ n3_ n4_ n5_
    have n0_ := Aside0.mk (Kd.R_drew HO_254007.out)
    have n1_ := Aside0.mk (blk_drew BK251.out)
    have n2_ := Aside0.mk (blk_drew BK252.out)
    have n3_ := Aside0.mk (blk_drew BK253.out)
    have n4_ := Aside0.mk (blk_drew BK255.out)
    have n5_ := Aside0.mk (below_drew1 HB.out)
    clear HO_254007
    clear BK251
    clear BK252
    clear BK253
    clear BK255
    clear HB
    have HO_254007 := n0_
    have BK251 := n1_
    have BK252 := n2_
    have BK253 := n3_
    have BK255 := n4_
    have HB := n5_
    clear n0_ n1_ n2_ n3_ n4_ n5_
    refine start_ (n := 8) (S := fun w' => w'.cell? ⟨gb253, 0, none⟩ = some (.string a0_0) ∧ w'.cell? ⟨gb253, 1, none⟩ = some (.int .i64 a0_1) ∧ w'.cell? ⟨gb253, 2, none⟩ = some (.bool a0_2) ∧ w'.cell? ⟨gb253, 3, none⟩ = some (.int .i64 a0_3) ∧ w'.cell? ⟨gb253, 4, none⟩ = some (.int .u64 a0_4) ∧ w'.cell? ⟨gb253, 5, none⟩ = some (.float .f64 a0_5) ∧ w'.cell? ⟨gb253, 6, none⟩ = some (.string a0_6) ∧ w'.cell? ⟨gb253, 7, none⟩ = some (u254007) ∧ w'.cell? ⟨gb255, 0, none⟩ = some (.string ((rd_T43 l0_7 x24_1).f0)) ∧ w'.cell? ⟨gb255, 1, none⟩ = some (.int .i64 ((rd_T43 l0_7 x24_1).f1)) ∧ w'.cell? ⟨gb255, 2, none⟩ = some (.bool ((rd_T43 l0_7 x24_1).f2)) ∧ w'.cell? ⟨gb255, 3, none⟩ = some (.int .i64 ((rd_T43 l0_7 x24_1).f3)) ∧ w'.cell? ⟨gb255, 4, none⟩ = some (.int .u64 ((rd_T43 l0_7 x24_1).f4)) ∧ w'.cell? ⟨gb255, 5, none⟩ = some (.float .f64 ((rd_T43 l0_7 x24_1).f5)) ∧ w'.cell? ⟨gb255, 6, none⟩ = some (.string ((rd_T43 l0_7 x24_1).f6)) ∧ w'.cell? ⟨gb255, 7, none⟩ = some (.slice A254_7 ((rd_T43 l0_7 x24_1).f7).length c254_7)) (ds := [7]) (bb [0, 8]) (by kernel_rfl) rfl rfl ⟨(blk_cell BK253.out 0).trans rfl, (blk_cell BK253.out 1).trans rfl, (blk_cell BK253.out 2).trans rfl, (blk_cell BK253.out 3).trans rfl, (blk_cell BK253.out 4).trans rfl, (blk_cell BK253.out 5).trans rfl, (blk_cell BK253.out 6).trans rfl, (blk_cell BK253.out 7).trans rfl, (blk_cell BK255.out 0).trans rfl, (blk_cell BK255.out 1).trans rfl, (blk_cell BK255.out 2).trans rfl, (blk_cell BK255.out 3).trans rfl, (blk_cell BK255.out 4).trans rfl, (blk_cell BK255.out 5).trans rfl, (blk_cell BK255.out 6).trans rfl, (blk_cell BK255.out 7).trans rfl⟩ (fun hHeld => ?_); refine with_tabW laws_toNode.tab5 laws_toNode.bits5 (fun HT_ HW_ => ?_)
    generalize w21.drew = w22 at HO_254007 BK251 BK252 BK253 BK255 HB hHeld ⊢
    refine pure_ (i := 0) (N := some 28) (v := ?_) (a' := ?_) (bb [1, 7]) rfl rfl (any_of HT_.out (by kernel_rfl)) (fun _ _ _ h => h) (Or.inl ⟨by rfl, ?_⟩) ?_ ?_
    rotate_left
    ·intro w'
     go_simp
     with_reducible rfl
    rotate_left
    ·simp only [Act.put, List.setIfInBounds_toArray, List.set_cons_zero, List.set_cons_succ, i64_w, i32_w]
     rfl
    refine take_ (i := 1) (N := some 29) (v := ?_) (a' := ?_) (bb [2, 6]) rfl rfl (take_ofW HT_.out HW_.out (by kernel_rfl)) (fun _ _ _ h => h) (Or.inl ⟨by rfl, ?_⟩) hHeld ?_ ?_
    rotate_left
    ·rintro w' ⟨s0, s1, s2, s3, s4, s5, s6, s7, s8, s9, s10, s11, s12, s13, s14, s15⟩
     go_simp
     with_reducible rfl
    rotate_left
    ·simp only [Act.put, List.setIfInBounds_toArray, List.set_cons_zero, List.set_cons_succ, i64_w, i32_w]
     rfl
    refine take_ (i := 2) (N := some 30) (v := ?_) (a' := ?_) (bb [3, 5]) rfl rfl (take_ofW HT_.out HW_.out (by kernel_rfl)) (fun _ _ _ h => h) (Or.inl ⟨by rfl, ?_⟩) hHeld ?_ ?_
    rotate_left
    ·rintro w' ⟨s0, s1, s2, s3, s4, s5, s6, s7, s8, s9, s10, s11, s12, s13, s14, s15⟩
     go_simp
     with_reducible rfl
    rotate_left
    ·simp only [Act.put, List.setIfInBounds_toArray, List.set_cons_zero, List.set_cons_succ, i64_w, i32_w]
     rfl
    refine one_ (i := 3) (N := some 31) (bb [4, 4]) rfl rfl (one_of HT_.out (by kernel_rfl)) (by decide) (fun K hK => ?_)
    refine goes_ Tryz.func48 (by kernel_rfl) rfl #[.agg #[.string ((rd_T43 l0_7 x24_1).f0), .int .i64 ((rd_T43 l0_7 x24_1).f1), .bool ((rd_T43 l0_7 x24_1).f2), .int .i64 ((rd_T43 l0_7 x24_1).f3), .int .u64 ((rd_T43 l0_7 x24_1).f4), .float .f64 ((rd_T43 l0_7 x24_1).f5), .string ((rd_T43 l0_7 x24_1).f6), .slice A254_7 ((rd_T43 l0_7 x24_1).f7).length c254_7]] (by rfl) rfl rfl (by (try simp only [List.map_toArray, List.map_cons, List.map_nil]); first | done | rfl | (simp only [List.length_drop, List.length_take]; rfl)) ?_
    with_reducible refine (ih k1 (by have := HK1.out; omega) ((rd_T43 l0_7 x24_1).f0) ((rd_T43 l0_7 x24_1).f1) ((rd_T43 l0_7 x24_1).f2) ((rd_T43 l0_7 x24_1).f3) ((rd_T43 l0_7 x24_1).f4) ((rd_T43 l0_7 x24_1).f5) ((rd_T43 l0_7 x24_1).f6) _ _ ((rd_T43 l0_7 x24_1).f7) t256 t257 t258 t259 t260 t261 t262 t263 _ ?side1 ?side2 A14.out).mono ?_
    (case side1 => repeat (first | exact (Kd.C_below HR254_7.out HB.out) | (with_reducible refine Kd.C_alloc ?_ _) | (with_reducible refine Kd.C_drewN ?_ _) | (with_reducible refine Kd.C_drew ?_)))
    (case side2 => exact HC254_7.out)
    rintro e w23 ⟨v264, rfl, ho0, hb⟩
    refine ⟨_, rfl, ?_⟩
    have n0_ := Aside0.mk (Kd.R_elder' (by (with_reducible repeat (first | apply Kd.R_alloc | apply Kd.R_drewN | apply Kd.R_drew)); exact HO_254007.out) (by first | exact Kd.R_base ho0 | exact Kd.R_base ho0) hb)
    have n1_ := Aside0.mk (Kd.R_lower (Kd.R_newB (Kd.R_newB (Kd.R_new' ho0 (Kd.R_lt (by (with_reducible repeat (first | apply Kd.R_alloc | apply Kd.R_drewN | apply Kd.R_drew)); exact HO_254007.out))) (g := gb252) (o := .cells #[.string (⟨#[]⟩ : ByteArray), .int .i64 0, .bool false, .int .i64 0, .int .u64 0, .float .f64 0, .string (⟨#[]⟩ : ByteArray), .slice none 0 0] 39 (0, 0)) (by (with_reducible repeat (first | refine blk_drewN ?_ _ | refine blk_drew ?_ | refine blk_alloc ?_ _)); exact BK252.out)) (g := gb253) (o := .cells #[.string a0_0, .int .i64 a0_1, .bool a0_2, .int .i64 a0_3, .int .u64 a0_4, .float .f64 a0_5, .string a0_6, u254007] 39 (0, 0)) (by (with_reducible repeat (first | refine blk_drewN ?_ _ | refine blk_drew ?_ | refine blk_alloc ?_ _)); exact BK253.out)) (below_size (by repeat (first | (with_reducible first | exact HB.out | apply below_alloc | apply pw_below_drewN | apply below_drew1 | refine below_set ?_ GE251.out | refine below_set ?_ GE252.out | refine below_set ?_ GE253.out | refine below_set ?_ GE255.out) | exact HB.out))))
    have n2_ := Aside0.mk (blk_below (g := gb251) (o := .cells #[.string a0_0, .int .i64 a0_1, .bool a0_2, .int .i64 a0_3, .int .u64 a0_4, .float .f64 a0_5, .string a0_6, .slice (some ad254) l0_7.length c0_7] 43 (0, 0)) (by (with_reducible repeat (first | refine blk_drewN ?_ _ | refine blk_drew ?_ | refine blk_alloc ?_ _)); exact BK251.out) hb)
    have n3_ := Aside0.mk (blk_below (g := gb252) (o := .cells #[.string (⟨#[]⟩ : ByteArray), .int .i64 0, .bool false, .int .i64 0, .int .u64 0, .float .f64 0, .string (⟨#[]⟩ : ByteArray), .slice none 0 0] 39 (0, 0)) (by (with_reducible repeat (first | refine blk_drewN ?_ _ | refine blk_drew ?_ | refine blk_alloc ?_ _)); exact BK252.out) hb)
    have n4_ := Aside0.mk (blk_below (g := gb253) (o := .cells #[.string a0_0, .int .i64 a0_1, .bool a0_2, .int .i64 a0_3, .int .u64 a0_4, .float .f64 a0_5, .string a0_6, u254007] 39 (0, 0)) (by (with_reducible repeat (first | refine blk_drewN ?_ _ | refine blk_drew ?_ | refine blk_alloc ?_ _)); exact BK253.out) hb)
    have n5_ := Aside0.mk (blk_below (g := gb255) (o := .cells #[.string ((rd_T43 l0_7 x24_1).f0), .int .i64 ((rd_T43 l0_7 x24_1).f1), .bool ((rd_T43 l0_7 x24_1).f2), .int .i64 ((rd_T43 l0_7 x24_1).f3), .int .u64 ((rd_T43 l0_7 x24_1).f4), .float .f64 ((rd_T43 l0_7 x24_1).f5), .string ((rd_T43 l0_7 x24_1).f6), .slice A254_7 ((rd_T43 l0_7 x24_1).f7).length c254_7] 43 (0, 0)) (by (with_reducible repeat (first | refine blk_drewN ?_ _ | refine blk_drew ?_ | refine blk_alloc ?_ _)); exact BK255.out) hb)
    have n6_ := Aside0.mk (below_step (by repeat (first | (with_reducible first | exact HB.out | apply below_alloc | apply pw_below_drewN | apply below_drew1 | refine below_set ?_ GE251.out | refine below_set ?_ GE252.out | refine below_set ?_ GE253.out | refine below_set ?_ GE255.out) | exact HB.out)) hb)
    clear HO_254007
    clear BK251
    clear BK252
    clear BK253
    clear BK255
    clear HB
    have HO_254007 := n0_
    have HO265 := n1_
    have BK251 := n2_
    have BK252 := n3_
    have BK253 := n4_
    have BK255 := n5_
    have HB := n6_
    clear n0_ n1_ n2_ n3_ n4_ n5_ n6_
    (try clear hb)
    (try clear hb2)
    (try clear hk)
    (try clear hi)
    (try clear ho0)
    obtain ⟨Ao25, co25, eo25⟩ := Kd.R_slice HO265.out
    (first | subst eo25 | (injection eo25 with f1_ f2_ f3_; have f4_ := f1_.symm; have f5_ := f3_.symm; clear f1_ f2_ f3_; subst f4_; subst f5_))
    refine hK.out _ _ ⟨(blk_cell BK253.out 0).trans rfl, (blk_cell BK253.out 1).trans rfl, (blk_cell BK253.out 2).trans rfl, (blk_cell BK253.out 3).trans rfl, (blk_cell BK253.out 4).trans rfl, (blk_cell BK253.out 5).trans rfl, (blk_cell BK253.out 6).trans rfl, (blk_cell BK253.out 7).trans rfl, (blk_cell BK255.out 0).trans rfl, (blk_cell BK255.out 1).trans rfl, (blk_cell BK255.out 2).trans rfl, (blk_cell BK255.out 3).trans rfl, (blk_cell BK255.out 4).trans rfl, (blk_cell BK255.out 5).trans rfl, (blk_cell BK255.out 6).trans rfl, (blk_cell BK255.out 7).trans rfl⟩ (fun hHeld => ?_)
    clear hK K
    refine norm_ (a' := ?_) ?_ ?_
    rotate_left
    ·show Act.put _ (some 31) _ = _
     simp only [Act.put, List.setIfInBounds_toArray, List.set_cons_zero, List.set_cons_succ, i64_w, i32_w]
     rfl
    refine one_ (i := 4) (N := some 32) (bb [5, 3]) rfl rfl (one_of HT_.out (by kernel_rfl)) (by decide) (fun K hK => ?_)
    refine value_ (w1 := ?_) (v := ?_) (by rfl) rfl ?_ ?_
    rotate_left 2
    ·go_simp
     constructor
     ·rfl
     ·rfl
    refine hK.out _ _ ⟨(blk_cell (blk_alloc BK253.out _) 0).trans rfl, (blk_cell (blk_alloc BK253.out _) 1).trans rfl, (blk_cell (blk_alloc BK253.out _) 2).trans rfl, (blk_cell (blk_alloc BK253.out _) 3).trans rfl, (blk_cell (blk_alloc BK253.out _) 4).trans rfl, (blk_cell (blk_alloc BK253.out _) 5).trans rfl, (blk_cell (blk_alloc BK253.out _) 6).trans rfl, (blk_cell (blk_alloc BK253.out _) 7).trans rfl, (blk_cell (blk_alloc BK255.out _) 0).trans rfl, (blk_cell (blk_alloc BK255.out _) 1).trans rfl, (blk_cell (blk_alloc BK255.out _) 2).trans rfl, (blk_cell (blk_alloc BK255.out _) 3).trans rfl, (blk_cell (blk_alloc BK255.out _) 4).trans rfl, (blk_cell (blk_alloc BK255.out _) 5).trans rfl, (blk_cell (blk_alloc BK255.out _) 6).trans rfl, (blk_cell (blk_alloc BK255.out _) 7).trans rfl⟩ (fun hHeld => ?_)
    clear hK K
    refine norm_ (a' := ?_) ?_ ?_
    rotate_left
    ·show Act.put _ (some 32) _ = _
     simp only [Act.put, List.setIfInBounds_toArray, List.set_cons_zero, List.set_cons_succ, i64_w, i32_w]
     rfl
    refine one_ (i := 5) (N := some 33) (bb [6, 2]) rfl rfl (one_of HT_.out (by kernel_rfl)) (by decide) (fun K hK => ?_)
    refine Kd.R_append_step k39 (w0 := w) w.heap.size (by rfl) (.tmp 29) (.tmp 32) 37 39 (.agg #[(.string ⟨#[]⟩), (.int .i64 0), (.bool false), (.int .i64 0), (.int .u64 0), (.float .f64 0), (.string ⟨#[]⟩), (.slice none 0 0)]) 96 rfl Tryz.underlying37 info39 rfl (by decide) (by omega) u254007 x254007_1 (⟨t256, t257, t258, t259, t260, t261, t262, t263⟩ : S39) [.string t256, .int .i64 t257, .bool t258, .int .i64 t259, .int .u64 t260, .float .f64 t261, .string t262, .slice Ao25 t263.length co25] (fun k_ => k_ ≠ gb252 ∧ k_ ≠ gb253) (fun k_ => ((fun k_ => k_ ≠ gb252 ∧ k_ ≠ gb253)) k_ ∧ some k_ ≠ (u254007 : Value).ownBlock) rfl rfl ?aP (fun _ hk => hk) ?aF ?aO ?aB ?aS ?aL ?_
    (case aP => exact k39_mkM _ _ _ (⟨t256, t257, t258, t259, t260, t261, t262, t263⟩ : S39) (Kd.R_mono (HO265.out) (fun k_ hk => ⟨⟨hk.1.2, hk.2⟩, hk.1.1.2⟩)))
    (case aB => exact (by repeat (first | (with_reducible first | exact HB.out | apply below_alloc | apply pw_below_drewN | apply below_drew1 | refine below_set ?_ GE251.out | refine below_set ?_ GE252.out | refine below_set ?_ GE253.out | refine below_set ?_ GE255.out) | exact HB.out)))
    (case aF => exact (fun k_ hk => ⟨Kd.freshB (g := gb252) (o := .cells #[.string (⟨#[]⟩ : ByteArray), .int .i64 0, .bool false, .int .i64 0, .int .u64 0, .float .f64 0, .string (⟨#[]⟩ : ByteArray), .slice none 0 0] 39 (0, 0)) (by (with_reducible repeat (first | refine blk_drewN ?_ _ | refine blk_drew ?_ | refine blk_alloc ?_ _)); exact BK252.out) k_ hk, Kd.freshB (g := gb253) (o := .cells #[.string a0_0, .int .i64 a0_1, .bool a0_2, .int .i64 a0_3, .int .u64 a0_4, .float .f64 a0_5, .string a0_6, u254007] 39 (0, 0)) (by (with_reducible repeat (first | refine blk_drewN ?_ _ | refine blk_drew ?_ | refine blk_alloc ?_ _)); exact BK253.out) k_ hk⟩))
    (case aO => exact (by (with_reducible repeat (first | apply Kd.R_alloc | apply Kd.R_drewN | apply Kd.R_drew)); exact Kd.R_mono HO_254007.out (fun _ hk => ⟨hk.1.1, hk.1.2⟩)))
    (case aS => exact (below_size (by repeat (first | (with_reducible first | exact HB.out | apply below_alloc | apply pw_below_drewN | apply below_drew1 | refine below_set ?_ GE251.out | refine below_set ?_ GE252.out | refine below_set ?_ GE253.out | refine below_set ?_ GE255.out) | exact HB.out))))
    (case aL => have := LMc15.out; omega)
    intro v267 w24 ho hb hg hat
    rw [← Ny266.out] at ho
    have n0_ := Aside0.mk (blk_grown (g := gb251) (o := .cells #[.string a0_0, .int .i64 a0_1, .bool a0_2, .int .i64 a0_3, .int .u64 a0_4, .float .f64 a0_5, .string a0_6, .slice (some ad254) l0_7.length c0_7] 43 (0, 0)) (by (with_reducible repeat (first | refine blk_drewN ?_ _ | refine blk_drew ?_ | refine blk_alloc ?_ _)); exact BK251.out) hg (Kd.R_ne HO_254007.out BK251.out (by decide)))
    have n1_ := Aside0.mk (blk_grown (g := gb252) (o := .cells #[.string (⟨#[]⟩ : ByteArray), .int .i64 0, .bool false, .int .i64 0, .int .u64 0, .float .f64 0, .string (⟨#[]⟩ : ByteArray), .slice none 0 0] 39 (0, 0)) (by (with_reducible repeat (first | refine blk_drewN ?_ _ | refine blk_drew ?_ | refine blk_alloc ?_ _)); exact BK252.out) hg (Kd.R_away HO_254007.out (fun _ hk => hk.1.1)))
    have n2_ := Aside0.mk (blk_grown (g := gb253) (o := .cells #[.string a0_0, .int .i64 a0_1, .bool a0_2, .int .i64 a0_3, .int .u64 a0_4, .float .f64 a0_5, .string a0_6, u254007] 39 (0, 0)) (by (with_reducible repeat (first | refine blk_drewN ?_ _ | refine blk_drew ?_ | refine blk_alloc ?_ _)); exact BK253.out) hg (Kd.R_away HO_254007.out (fun _ hk => hk.1.2)))
    have n3_ := Aside0.mk (blk_grown (g := gb255) (o := .cells #[.string ((rd_T43 l0_7 x24_1).f0), .int .i64 ((rd_T43 l0_7 x24_1).f1), .bool ((rd_T43 l0_7 x24_1).f2), .int .i64 ((rd_T43 l0_7 x24_1).f3), .int .u64 ((rd_T43 l0_7 x24_1).f4), .float .f64 ((rd_T43 l0_7 x24_1).f5), .string ((rd_T43 l0_7 x24_1).f6), .slice A254_7 ((rd_T43 l0_7 x24_1).f7).length c254_7] 43 (0, 0)) (by (with_reducible repeat (first | refine blk_drewN ?_ _ | refine blk_drew ?_ | refine blk_alloc ?_ _)); exact BK255.out) hg (Kd.R_ne HO_254007.out BK255.out (by decide)))
    have n4_ := Aside0.mk (hb)
    have n5_ := Aside0.mk (ho)
    clear BK251
    clear BK252
    clear BK253
    clear BK255
    clear HB
    clear HO_254007
    clear HO265
    have BK251 := n0_
    have BK252 := n1_
    have BK253 := n2_
    have BK255 := n3_
    have HB := n4_
    have HO268 := n5_
    clear n0_ n1_ n2_ n3_ n4_ n5_
    clear ho hb hg hat
    obtain ⟨Ao26, co26, eo26⟩ := Kd.R_slice HO268.out
    (first | subst eo26 | (injection eo26 with f1_ f2_ f3_; have f4_ := f1_.symm; have f5_ := f3_.symm; clear f1_ f2_ f3_; subst f4_; subst f5_))
    refine hK.out _ _ ⟨(blk_cell BK253.out 0).trans rfl, (blk_cell BK253.out 1).trans rfl, (blk_cell BK253.out 2).trans rfl, (blk_cell BK253.out 3).trans rfl, (blk_cell BK253.out 4).trans rfl, (blk_cell BK253.out 5).trans rfl, (blk_cell BK253.out 6).trans rfl, (blk_cell BK253.out 7).trans rfl, (blk_cell BK255.out 0).trans rfl, (blk_cell BK255.out 1).trans rfl, (blk_cell BK255.out 2).trans rfl, (blk_cell BK255.out 3).trans rfl, (blk_cell BK255.out 4).trans rfl, (blk_cell BK255.out 5).trans rfl, (blk_cell BK255.out 6).trans rfl, (blk_cell BK255.out 7).trans rfl⟩ (fun hHeld => ?_)
    clear hK K
    refine norm_ (a' := ?_) ?_ ?_
    rotate_left
    ·show Act.put _ (some 33) _ = _
     simp only [Act.put, List.setIfInBounds_toArray, List.set_cons_zero, List.set_cons_succ, i64_w, i32_w]
     rfl
    refine pure_ (i := 6) (N := some 34) (v := ?_) (a' := ?_) (bb [7, 1]) rfl rfl (any_of HT_.out (by kernel_rfl)) (fun _ _ _ h => h) (Or.inl ⟨by rfl, ?_⟩) ?_ ?_
    rotate_left
    ·intro w'
     go_simp
     with_reducible rfl
    rotate_left
    ·simp only [Act.put, List.setIfInBounds_toArray, List.set_cons_zero, List.set_cons_succ, i64_w, i32_w]
     rfl
    refine last_ (i := 7) (N := none) (bb [8]) rfl rfl (one_of HT_.out (by kernel_rfl)) (by decide) (fun K hK => ?_)
    have hs27 : w24.cell? ⟨gb253, 7, none⟩ = some (u254007) := (blk_cell BK253.out 7).trans rfl
    have hfs27 := blk_frozen BK253.out 7
    have hns27_0 := NB251_253.out
    have hns27_1 := NB252_253.out
    have hns27_3 := NB255_253.out
    have hms27_0 := NB253_251.out
    have hms27_1 := NB253_252.out
    have hms27_3 := NB253_255.out
    refine skip_ (w1 := ?_) (by rfl) rfl ?_ ?_
    rotate_left
    ·go_simp
     rfl
    refine hK.out _ _ ?_
    clear hK K
    refine done_ (done_of HT_.out (by kernel_rfl)) ?_
    try go_wp2
    go_roundg k1
    case measure => have := HK1.out; omega
    case rel => exact ⟨(wrap64 (x24_1 + 1)), (y266), (.slice Ao26 y266.length co26), (by first | rfl | (simp; done) | (simp [*]; done)), H', ⟨by have := HK1.out; omega⟩, ⟨by (with_reducible repeat (first | apply Kd.R_alloc | apply Kd.R_drewN | apply Kd.R_drew)); exact Kd.R_mono (Kd.R_far (p := ⟨gb253, 7, none⟩) (Kd.R_mono HO268.out (fun k_ hk => (⟨hk, hk.2⟩ : _ ∧ k_ ≠ gb253))) (fun _ hk => hk.2) (.slice Ao26 y266.length co26)) (fun _ hk => ⟨hk.1.1, hk.1.2⟩)⟩, ⟨by (with_reducible repeat (first | refine blk_drewN ?_ _ | refine blk_drew ?_ | refine blk_alloc ?_ _)); refine blk_far ?_ NB251_253.out _; (with_reducible repeat (first | refine blk_drewN ?_ _ | refine blk_drew ?_ | refine blk_alloc ?_ _)); exact BK251.out⟩, ⟨by (with_reducible repeat (first | refine blk_drewN ?_ _ | refine blk_drew ?_ | refine blk_alloc ?_ _)); refine blk_far ?_ NB252_253.out _; (with_reducible repeat (first | refine blk_drewN ?_ _ | refine blk_drew ?_ | refine blk_alloc ?_ _)); exact BK252.out⟩, ⟨by (with_reducible repeat (first | refine blk_drewN ?_ _ | refine blk_drew ?_ | refine blk_alloc ?_ _)); refine blk_put (cs := #[.string a0_0, .int .i64 a0_1, .bool a0_2, .int .i64 a0_3, .int .u64 a0_4, .float .f64 a0_5, .string a0_6, u254007]) ?_ 7 _ rfl; (with_reducible repeat (first | refine blk_drewN ?_ _ | refine blk_drew ?_ | refine blk_alloc ?_ _)); exact BK253.out⟩, ⟨by repeat (first | (with_reducible first | exact HB.out | apply below_alloc | apply pw_below_drewN | apply below_drew1 | refine below_set ?_ GE251.out | refine below_set ?_ GE252.out | refine below_set ?_ GE253.out | refine below_set ?_ GE255.out) | exact HB.out)⟩⟩
   ·rw [if_neg c11] at H
    have c11b0 : decide (x24_1 < (l0_7.length : Int)) = false := decide_eq_false c11
    clear c11
    simp only [Option.some.injEq, Prod.mk.injEq] at H
    obtain ⟨rfl, rfl, rfl, rfl, rfl, rfl, rfl, rfl⟩ := H
    have hnb28 := NB253_251.out
    have hnc28 := NB251_253.out
    have hnb29 := NB253_252.out
    have hnc29 := NB252_253.out
    have hcz30_0 : wr.cell? ⟨gb253, 0, none⟩ = some (.string a0_0) := (blk_cell BK253.out 0).trans rfl
    have hcz30_1 : wr.cell? ⟨gb253, 1, none⟩ = some (.int .i64 a0_1) := (blk_cell BK253.out 1).trans rfl
    have hcz30_2 : wr.cell? ⟨gb253, 2, none⟩ = some (.bool a0_2) := (blk_cell BK253.out 2).trans rfl
    have hcz30_3 : wr.cell? ⟨gb253, 3, none⟩ = some (.int .i64 a0_3) := (blk_cell BK253.out 3).trans rfl
    have hcz30_4 : wr.cell? ⟨gb253, 4, none⟩ = some (.int .u64 a0_4) := (blk_cell BK253.out 4).trans rfl
    have hcz30_5 : wr.cell? ⟨gb253, 5, none⟩ = some (.float .f64 a0_5) := (blk_cell BK253.out 5).trans rfl
    have hcz30_6 : wr.cell? ⟨gb253, 6, none⟩ = some (.string a0_6) := (blk_cell BK253.out 6).trans rfl
    have hcz30_7 : wr.cell? ⟨gb253, 7, none⟩ = some (u254007) := (blk_cell BK253.out 7).trans rfl
    have hfz30_0 := blk_frozen BK253.out 0
    have hfz30_1 := blk_frozen BK253.out 1
    have hfz30_2 := blk_frozen BK253.out 2
    have hfz30_3 := blk_frozen BK253.out 3
    have hfz30_4 := blk_frozen BK253.out 4
    have hfz30_5 := blk_frozen BK253.out 5
    have hfz30_6 := blk_frozen BK253.out 6
    have hfz30_7 := blk_frozen BK253.out 7
    have hnb31 := NB252_251.out
    have hnc31 := NB251_252.out
    have hcz32_0 : wr.cell? ⟨gb252, 0, none⟩ = some (.string (⟨#[]⟩ : ByteArray)) := (blk_cell BK252.out 0).trans rfl
    have hcz32_1 : wr.cell? ⟨gb252, 1, none⟩ = some (.int .i64 0) := (blk_cell BK252.out 1).trans rfl
    have hcz32_2 : wr.cell? ⟨gb252, 2, none⟩ = some (.bool false) := (blk_cell BK252.out 2).trans rfl
    have hcz32_3 : wr.cell? ⟨gb252, 3, none⟩ = some (.int .i64 0) := (blk_cell BK252.out 3).trans rfl
    have hcz32_4 : wr.cell? ⟨gb252, 4, none⟩ = some (.int .u64 0) := (blk_cell BK252.out 4).trans rfl
    have hcz32_5 : wr.cell? ⟨gb252, 5, none⟩ = some (.float .f64 0) := (blk_cell BK252.out 5).trans rfl
    have hcz32_6 : wr.cell? ⟨gb252, 6, none⟩ = some (.string (⟨#[]⟩ : ByteArray)) := (blk_cell BK252.out 6).trans rfl
    have hcz32_7 : wr.cell? ⟨gb252, 7, none⟩ = some (.slice none 0 0) := (blk_cell BK252.out 7).trans rfl
    have hfz32_0 := blk_frozen BK252.out 0
    have hfz32_1 := blk_frozen BK252.out 1
    have hfz32_2 := blk_frozen BK252.out 2
    have hfz32_3 := blk_frozen BK252.out 3
    have hfz32_4 := blk_frozen BK252.out 4
    have hfz32_5 := blk_frozen BK252.out 5
    have hfz32_6 := blk_frozen BK252.out 6
    have hfz32_7 := blk_frozen BK252.out 7
    obtain ⟨Ao33, co33, eo33⟩ := Kd.R_slice HO_254007.out
    subst eo33
    go_wp2
    refine bodyPost_ret (results_cell_row rfl _ _ gb252 39 #[.string a0_0, .int .i64 a0_1, .bool a0_2, .int .i64 a0_3, .int .u64 a0_4, .float .f64 a0_5, .string a0_6, .slice Ao33 x254007_1.length co33] (0, 0) _ rfl (by (with_reducible repeat (first | refine blk_drewN ?_ _ | refine blk_drew ?_ | refine blk_alloc ?_ _)); refine blk_put (cs := #[.string a0_0, .int .i64 a0_1, .bool a0_2, .int .i64 a0_3, .int .u64 a0_4, .float .f64 a0_5, .string a0_6, .slice none 0 0]) ?_ 7 _ rfl; (with_reducible repeat (first | refine blk_drewN ?_ _ | refine blk_drew ?_ | refine blk_alloc ?_ _)); refine blk_put (cs := #[.string a0_0, .int .i64 a0_1, .bool a0_2, .int .i64 a0_3, .int .u64 a0_4, .float .f64 a0_5, .string (⟨#[]⟩ : ByteArray), .slice none 0 0]) ?_ 6 _ rfl; (with_reducible repeat (first | refine blk_drewN ?_ _ | refine blk_drew ?_ | refine blk_alloc ?_ _)); refine blk_put (cs := #[.string a0_0, .int .i64 a0_1, .bool a0_2, .int .i64 a0_3, .int .u64 a0_4, .float .f64 0, .string (⟨#[]⟩ : ByteArray), .slice none 0 0]) ?_ 5 _ rfl; (with_reducible repeat (first | refine blk_drewN ?_ _ | refine blk_drew ?_ | refine blk_alloc ?_ _)); refine blk_put (cs := #[.string a0_0, .int .i64 a0_1, .bool a0_2, .int .i64 a0_3, .int .u64 0, .float .f64 0, .string (⟨#[]⟩ : ByteArray), .slice none 0 0]) ?_ 4 _ rfl; (with_reducible repeat (first | refine blk_drewN ?_ _ | refine blk_drew ?_ | refine blk_alloc ?_ _)); refine blk_put (cs := #[.string a0_0, .int .i64 a0_1, .bool a0_2, .int .i64 0, .int .u64 0, .float .f64 0, .string (⟨#[]⟩ : ByteArray), .slice none 0 0]) ?_ 3 _ rfl; (with_reducible repeat (first | refine blk_drewN ?_ _ | refine blk_drew ?_ | refine blk_alloc ?_ _)); refine blk_put (cs := #[.string a0_0, .int .i64 a0_1, .bool false, .int .i64 0, .int .u64 0, .float .f64 0, .string (⟨#[]⟩ : ByteArray), .slice none 0 0]) ?_ 2 _ rfl; (with_reducible repeat (first | refine blk_drewN ?_ _ | refine blk_drew ?_ | refine blk_alloc ?_ _)); refine blk_put (cs := #[.string a0_0, .int .i64 0, .bool false, .int .i64 0, .int .u64 0, .float .f64 0, .string (⟨#[]⟩ : ByteArray), .slice none 0 0]) ?_ 1 _ rfl; (with_reducible repeat (first | refine blk_drewN ?_ _ | refine blk_drew ?_ | refine blk_alloc ?_ _)); refine blk_put (cs := #[.string (⟨#[]⟩ : ByteArray), .int .i64 0, .bool false, .int .i64 0, .int .u64 0, .float .f64 0, .string (⟨#[]⟩ : ByteArray), .slice none 0 0]) ?_ 0 _ rfl; (with_reducible repeat (first | refine blk_drewN ?_ _ | refine blk_drew ?_ | refine blk_alloc ?_ _)); exact BK252.out) Tryz.underlying39 rfl (by kernel_rfl)) rfl ?_
    exact ⟨_, by first | rfl | (simp [errW_none, errW_some] <;> rfl) | (simp [*, errW_none, errW_some] <;> rfl), by (with_reducible repeat (first | apply Kd.R_alloc | apply Kd.R_drewN | apply Kd.R_drew)); exact Kd.R_mono (Kd.R_far (p := ⟨gb252, 7, none⟩) (Kd.R_far (p := ⟨gb252, 6, none⟩) (Kd.R_far (p := ⟨gb252, 5, none⟩) (Kd.R_far (p := ⟨gb252, 4, none⟩) (Kd.R_far (p := ⟨gb252, 3, none⟩) (Kd.R_far (p := ⟨gb252, 2, none⟩) (Kd.R_far (p := ⟨gb252, 1, none⟩) (Kd.R_far (p := ⟨gb252, 0, none⟩) (Kd.R_mono HO_254007.out (fun k_ hk => (⟨hk, hk.1⟩ : _ ∧ k_ ≠ gb252))) (fun _ hk => hk.2) (.string a0_0)) (fun _ hk => hk.2) (.int .i64 a0_1)) (fun _ hk => hk.2) (.bool a0_2)) (fun _ hk => hk.2) (.int .i64 a0_3)) (fun _ hk => hk.2) (.int .u64 a0_4)) (fun _ hk => hk.2) (.float .f64 a0_5)) (fun _ hk => hk.2) (.string a0_6)) (fun _ hk => hk.2) (.slice Ao33 x254007_1.length co33)) (fun _ hk => trivial), by repeat (first | (with_reducible first | exact HB.out | apply below_alloc | apply pw_below_drewN | apply below_drew1 | refine below_set ?_ GE251.out | refine below_set ?_ GE252.out | refine below_set ?_ GE253.out) | exact HB.out)⟩
end Go.Proofs.YtednjmngalmdkaaGreatDoor.GPC
end
section
namespace Go.Proofs.YtednjmngalmdkaaGreatDoor.GPC
open Go.RowKit Go.Proofs.YtednjmngalmdkaaGreatDoorW.PrintWords Go.Proofs.YtednjmngalmdkaaGreatDoorW.PrintLast Go.Proofs.YtednjmngalmdkaaGreatDoorW.PrintMore
attribute [local go_sem] max2_int min2_int max_two min_two max_three min_three max_four min_four   -- for this text's walks alone
set_option linter.unusedVariables false
set_option linter.unusedSimpArgs false

attribute [local go_sem] run_store_float
/-! ### spec_SameNode: function 47 -/
mutual
def spec_SameNode.j0 : Nat → Bool → ByteArray → Int → Bool → Int → Int → Nat → ByteArray → List (S39) → ByteArray → Int → Bool → Int → Int → Nat → ByteArray → List (S39) → Option (Bool)
 | 0, _, _, _, _, _, _, _, _, _, _, _, _, _, _, _, _, _ => none
 | k + 1, x63, x270000, x270001, x270002, x270003, x270004, x270005, x270006, x270007, x271000, x271001, x271002, x271003, x271004, x271005, x271006, x271007 => if x63 = true then (none) else (spec_SameNode.l0 k (x270007.length : Int) 0 x270000 x270001 x270002 x270003 x270004 x270005 x270006 x270007 x271000 x271001 x271002 x271003 x271004 x271005 x271006 x271007)
def spec_SameNode.l0 : Nat → Int → Int → ByteArray → Int → Bool → Int → Int → Nat → ByteArray → List (S39) → ByteArray → Int → Bool → Int → Int → Nat → ByteArray → List (S39) → Option (Bool)
 | 0, _, _, _, _, _, _, _, _, _, _, _, _, _, _, _, _, _, _ => none
 | k + 1, x66, x67, x270000, x270001, x270002, x270003, x270004, x270005, x270006, x270007, x271000, x271001, x271002, x271003, x271004, x271005, x271006, x271007 => if x67 < x66 then (if 0 ≤ x67 then (if x67 < (x270007.length : Int) then (if x67 < (x271007.length : Int) then ((spec_SameNode.f k ((rd_T39 x270007 x67).f0) ((rd_T39 x270007 x67).f1) ((rd_T39 x270007 x67).f2) ((rd_T39 x270007 x67).f3) ((rd_T39 x270007 x67).f4) ((rd_T39 x270007 x67).f5) ((rd_T39 x270007 x67).f6) ((rd_T39 x270007 x67).f7) ((rd_T39 x271007 x67).f0) ((rd_T39 x271007 x67).f1) ((rd_T39 x271007 x67).f2) ((rd_T39 x271007 x67).f3) ((rd_T39 x271007 x67).f4) ((rd_T39 x271007 x67).f5) ((rd_T39 x271007 x67).f6) ((rd_T39 x271007 x67).f7)).bind fun t275 => (if t275 = true then (spec_SameNode.l0 k x66 (wrap64 (x67 + 1)) x270000 x270001 x270002 x270003 x270004 x270005 x270006 x270007 x271000 x271001 x271002 x271003 x271004 x271005 x271006 x271007) else (none))) else (none)) else (none)) else (none)) else (some true)
def spec_SameNode.f : Nat → ByteArray → Int → Bool → Int → Int → Nat → ByteArray → List (S39) → ByteArray → Int → Bool → Int → Int → Nat → ByteArray → List (S39) → Option (Bool)
 | 0, _, _, _, _, _, _, _, _, _, _, _, _, _, _, _, _ => none
 | k + 1, a0_0, a0_1, a0_2, a0_3, a0_4, a0_5, a0_6, l0_7, a1_0, a1_1, a1_2, a1_3, a1_4, a1_5, a1_6, l1_7 => if a0_0.toList = a1_0.toList then (if a0_1 = a1_1 then (if (a0_2 != a1_2) = true then (none) else (if a0_3 = a1_3 then (if a0_4 = a1_4 then ((math_Float64bits.f a0_5).bind fun t271 => ((math_Float64bits.f a1_5).bind fun t272 => (if t271 = t272 then (if a0_6.toList = a1_6.toList then (spec_SameNode.j0 k ((l0_7.length : Int) != (l1_7.length : Int)) a0_0 a0_1 a0_2 a0_3 a0_4 a0_5 a0_6 l0_7 a1_0 a1_1 a1_2 a1_3 a1_4 a1_5 a1_6 l1_7) else (none)) else (none)))) else (none)) else (none))) else (none)) else (none)
end
theorem spec_SameNode.mono_l : ∀ k, (∀ y0 y1 y2 y3 y4 y5 y6 y7 y8 y9 y10 y11 y12 y13 y14 y15, LeO (spec_SameNode.f k y0 y1 y2 y3 y4 y5 y6 y7 y8 y9 y10 y11 y12 y13 y14 y15) (spec_SameNode.f (k + 1) y0 y1 y2 y3 y4 y5 y6 y7 y8 y9 y10 y11 y12 y13 y14 y15)) ∧ (∀ y0 y1 y2 y3 y4 y5 y6 y7 y8 y9 y10 y11 y12 y13 y14 y15 y16, LeO (spec_SameNode.j0 k y0 y1 y2 y3 y4 y5 y6 y7 y8 y9 y10 y11 y12 y13 y14 y15 y16) (spec_SameNode.j0 (k + 1) y0 y1 y2 y3 y4 y5 y6 y7 y8 y9 y10 y11 y12 y13 y14 y15 y16)) ∧ (∀ y0 y1 y2 y3 y4 y5 y6 y7 y8 y9 y10 y11 y12 y13 y14 y15 y16 y17, LeO (spec_SameNode.l0 k y0 y1 y2 y3 y4 y5 y6 y7 y8 y9 y10 y11 y12 y13 y14 y15 y16 y17) (spec_SameNode.l0 (k + 1) y0 y1 y2 y3 y4 y5 y6 y7 y8 y9 y10 y11 y12 y13 y14 y15 y16 y17))
 | 0 => ⟨fun _ _ _ _ _ _ _ _ _ _ _ _ _ _ _ _ r h => by simp [spec_SameNode.f] at h, fun _ _ _ _ _ _ _ _ _ _ _ _ _ _ _ _ _ r h => by simp [spec_SameNode.j0] at h, fun _ _ _ _ _ _ _ _ _ _ _ _ _ _ _ _ _ _ r h => by simp [spec_SameNode.l0] at h⟩
 | k + 1 => by
  obtain ⟨ih0, ih1, ih2⟩ := spec_SameNode.mono_l k
  refine ⟨?_, ?_, ?_⟩
  ·intro y0 y1 y2 y3 y4 y5 y6 y7 y8 y9 y10 y11 y12 y13 y14 y15
   unfold spec_SameNode.f
   repeat' first
   | (with_reducible exact ih0 _ _ _ _ _ _ _ _ _ _ _ _ _ _ _ _)
   | (with_reducible exact ih1 _ _ _ _ _ _ _ _ _ _ _ _ _ _ _ _ _)
   | (with_reducible exact ih2 _ _ _ _ _ _ _ _ _ _ _ _ _ _ _ _ _ _)
   | (with_reducible exact LeO.refl _)
   | (with_reducible exact LeO.none _)
   | (with_reducible refine LeO.ite ?_ ?_)
   | (with_reducible refine LeO.bind ?_ (fun _ => ?_))
   | exact ih0 _ _ _ _ _ _ _ _ _ _ _ _ _ _ _ _
   | exact ih1 _ _ _ _ _ _ _ _ _ _ _ _ _ _ _ _ _
   | exact ih2 _ _ _ _ _ _ _ _ _ _ _ _ _ _ _ _ _ _
   | exact LeO.none _
   | refine LeO.ite ?_ ?_
   | refine LeO.bind ?_ (fun _ => ?_)
  ·intro y0 y1 y2 y3 y4 y5 y6 y7 y8 y9 y10 y11 y12 y13 y14 y15 y16
   unfold spec_SameNode.j0
   repeat' first
   | (with_reducible exact ih0 _ _ _ _ _ _ _ _ _ _ _ _ _ _ _ _)
   | (with_reducible exact ih1 _ _ _ _ _ _ _ _ _ _ _ _ _ _ _ _ _)
   | (with_reducible exact ih2 _ _ _ _ _ _ _ _ _ _ _ _ _ _ _ _ _ _)
   | (with_reducible exact LeO.refl _)
   | (with_reducible exact LeO.none _)
   | (with_reducible refine LeO.ite ?_ ?_)
   | (with_reducible refine LeO.bind ?_ (fun _ => ?_))
   | exact ih0 _ _ _ _ _ _ _ _ _ _ _ _ _ _ _ _
   | exact ih1 _ _ _ _ _ _ _ _ _ _ _ _ _ _ _ _ _
   | exact ih2 _ _ _ _ _ _ _ _ _ _ _ _ _ _ _ _ _ _
   | exact LeO.none _
   | refine LeO.ite ?_ ?_
   | refine LeO.bind ?_ (fun _ => ?_)
  ·intro y0 y1 y2 y3 y4 y5 y6 y7 y8 y9 y10 y11 y12 y13 y14 y15 y16 y17
   unfold spec_SameNode.l0
   repeat' first
   | (with_reducible exact ih0 _ _ _ _ _ _ _ _ _ _ _ _ _ _ _ _)
   | (with_reducible exact ih1 _ _ _ _ _ _ _ _ _ _ _ _ _ _ _ _ _)
   | (with_reducible exact ih2 _ _ _ _ _ _ _ _ _ _ _ _ _ _ _ _ _ _)
   | (with_reducible exact LeO.refl _)
   | (with_reducible exact LeO.none _)
   | (with_reducible refine LeO.ite ?_ ?_)
   | (with_reducible refine LeO.bind ?_ (fun _ => ?_))
   | exact ih0 _ _ _ _ _ _ _ _ _ _ _ _ _ _ _ _
   | exact ih1 _ _ _ _ _ _ _ _ _ _ _ _ _ _ _ _ _
   | exact ih2 _ _ _ _ _ _ _ _ _ _ _ _ _ _ _ _ _ _
   | exact LeO.none _
   | refine LeO.ite ?_ ?_
   | refine LeO.bind ?_ (fun _ => ?_)
theorem spec_SameNode.mono : ∀ a0 a1 a2 a3 a4 a5 a6 a7 a8 a9 a10 a11 a12 a13 a14 a15 k, LeO (spec_SameNode.f k a0 a1 a2 a3 a4 a5 a6 a7 a8 a9 a10 a11 a12 a13 a14 a15) (spec_SameNode.f (k + 1) a0 a1 a2 a3 a4 a5 a6 a7 a8 a9 a10 a11 a12 a13 a14 a15) := by
 intro a0 a1 a2 a3 a4 a5 a6 a7 a8 a9 a10 a11 a12 a13 a14 a15 k
 obtain ⟨ih0, ih1, ih2⟩ := spec_SameNode.mono_l k
 exact ih0 a0 a1 a2 a3 a4 a5 a6 a7 a8 a9 a10 a11 a12 a13 a14 a15
def spec_SameNode.T1 : Bool × List (List Nat × List Nat) := (true, [([], []), ([0], [0]), ([], []), ([2], [2]), ([1, 3], [1, 3]), ([4], [4]), ([5], [5]), ([6, 5], [5, 6]), ([5], [5]), ([8, 5], [5, 8]), ([7, 9, 5], [5, 7, 9]), ([5, 10], [5, 10]), ([11, 5], [11]), ([12], [12]), ([13, 12], [12, 13]), ([12], [12]), ([15, 12], [12, 15]), ([14, 16, 12], [12, 14, 16]), ([12, 17], [12, 17]), ([18, 12], [18]), ([19], [19]), ([20, 19], [19, 20]), ([19], [19]), ([22, 19], [19, 22]), ([21, 23, 19], [19, 21, 23]), ([19, 24], [19, 24]), ([25, 19], [25]), ([26], [26]), ([27, 26], [26, 27]), ([26], [26]), ([29, 26], [26, 29]), ([28, 30, 26], [26, 28, 30]), ([26, 31], [26, 31]), ([32, 26], [32]), ([33], [33]), ([34, 33], [33, 34]), ([35, 33, 33], [33, 35]), ([33], [33]), ([37, 33], [33, 37]), ([38, 36, 33], [33, 38]), ([36, 39, 33], [33, 36, 39]), ([33, 40], [33, 40]), ([41, 39], [41]), ([42], [42]), ([43, 42], [42, 43]), ([42], [42]), ([45, 42], [42, 45]), ([44, 46, 42], [42, 44, 46]), ([42, 47], [42, 47]), ([48, 42], [48]), ([49], [49]), ([50, 49], [49, 50]), ([51, 49], [49, 51]), ([49], [49]), ([53, 49], [49, 53]), ([54, 49], [49, 54]), ([52, 55, 49], [49, 52, 55]), ([49, 56], [49, 56])])
def spec_SameNode.B1 : List Nat := [0, 1, 0, 4, 15, 31, 63, 127, 63, 319, 1023, 2047, 4095, 8191, 16383, 8191, 40959, 131071, 262143, 524287, 1048575, 2097151, 1048575, 5242879, 16777215, 33554431, 67108863, 134217727, 268435455, 134217727, 671088639, 2147483647, 4294967295, 8589934591, 17179869183, 34359738367, 68719476735, 17179869183, 154618822655, 549755813887, 1099511627775, 2199023255551, 4398046511103, 8796093022207, 17592186044415, 8796093022207, 43980465111039, 140737488355327, 281474976710655, 562949953421311, 1125899906842623, 2251799813685247, 4503599627370495, 1125899906842623, 10133099161583615, 28147497671065599, 72057594037927935, 144115188075855871]
theorem spec_SameNode.tab1 : rtab .any (opsOf Tryz.f47 1) = spec_SameNode.T1 := by kernel_rfl
theorem spec_SameNode.bits1 : waitsOk spec_SameNode.T1.2 spec_SameNode.B1 = true := by kernel_rfl
def spec_SameNode.T6 : Bool × List (List Nat × List Nat) := (true, [([], []), ([0], [0]), ([], []), ([1, 2], [1, 2]), ([3], [3]), ([], []), ([5], [5]), ([], []), ([6, 7], [6, 7]), ([8], [8]), ([4, 9], [4, 9]), ([10], [10])])
def spec_SameNode.B6 : List Nat := [0, 1, 0, 7, 15, 0, 32, 0, 224, 480, 1023, 2047]
theorem spec_SameNode.tab6 : rtab .any (opsOf Tryz.f47 6) = spec_SameNode.T6 := by kernel_rfl
theorem spec_SameNode.bits6 : waitsOk spec_SameNode.T6.2 spec_SameNode.B6 = true := by kernel_rfl
set_option maxHeartbeats 8000000 in
set_option maxRecDepth 100000 in
theorem spec_SameNode.calls (k : Nat) : ∀ (a0_0 : ByteArray) (a0_1 : Int) (a0_2 : Bool) (a0_3 : Int) (a0_4 : Int) (a0_5 : Nat) (a0_6 : ByteArray) (A0_7 : Option Addr) (c0_7 : Nat) (l0_7 : List (S39)) (a1_0 : ByteArray) (a1_1 : Int) (a1_2 : Bool) (a1_3 : Int) (a1_4 : Int) (a1_5 : Nat) (a1_6 : ByteArray) (A1_7 : Option Addr) (c1_7 : Nat) (l1_7 : List (S39)) (r : Bool) (w : World) (hr0_7 : Kd.C k39 w A0_7 l0_7.length l0_7) (hc0_7 : l0_7.length ≤ c0_7) (hr1_7 : Kd.C k39 w A1_7 l1_7.length l1_7) (hc1_7 : l1_7.length ≤ c1_7) (h : spec_SameNode.f k a0_0 a0_1 a0_2 a0_3 a0_4 a0_5 a0_6 l0_7 a1_0 a1_1 a1_2 a1_3 a1_4 a1_5 a1_6 l1_7 = some r),
  Calls Tryz.prog 47 #[.agg #[.string a0_0, .int .i64 a0_1, .bool a0_2, .int .i64 a0_3, .int .u64 a0_4, .float .f64 a0_5, .string a0_6, .slice A0_7 l0_7.length c0_7], .agg #[.string a1_0, .int .i64 a1_1, .bool a1_2, .int .i64 a1_3, .int .u64 a1_4, .float .f64 a1_5, .string a1_6, .slice A1_7 l1_7.length c1_7]] w fun e w' => e = .returned (.bool r) ∧ Below w.heap.size w w' := by
 induction k using Nat.strongRecOn with
 | _ k ih =>
 intro a0_0 a0_1 a0_2 a0_3 a0_4 a0_5 a0_6 A0_7 c0_7 l0_7 a1_0 a1_1 a1_2 a1_3 a1_4 a1_5 a1_6 A1_7 c1_7 l1_7 r w hr0_7 hc0_7 hr1_7 hc1_7 h
 cases k with
 | zero => exact absurd h (by simp [spec_SameNode.f])
 | succ k =>
 simp only [spec_SameNode.f] at h
 have hu39 := Tryz.underlying39
 have HR0_7 := Aside0.mk hr0_7
 have HC0_7 := Aside0.mk hc0_7
 clear hr0_7 hc0_7
 have HR1_7 := Aside0.mk hr1_7
 have HC1_7 := Aside0.mk hc1_7
 clear hr1_7 hc1_7
 have HB := Aside0.mk (Below.refl w.heap.size w)
 have H : (if a0_0.toList = a1_0.toList then (if a0_1 = a1_1 then (if (a0_2 != a1_2) = true then (none) else (if a0_3 = a1_3 then (if a0_4 = a1_4 then ((math_Float64bits.f a0_5).bind fun t271 => ((math_Float64bits.f a1_5).bind fun t272 => (if t271 = t272 then (if a0_6.toList = a1_6.toList then (spec_SameNode.j0 k ((l0_7.length : Int) != (l1_7.length : Int)) a0_0 a0_1 a0_2 a0_3 a0_4 a0_5 a0_6 l0_7 a1_0 a1_1 a1_2 a1_3 a1_4 a1_5 a1_6 l1_7) else (none)) else (none)))) else (none)) else (none))) else (none)) else (none)) = some r := h
 clear h
 have HC3 := Aside0.mk H
 clear H
 go_enter Tryz.func47, Tryz.ntmps47
 go_upto_region 1 with (first | ((with_reducible refine gate_dst (N := 2) rfl ?_); (try (refine gate_guard (by rfl) ?_; dsimp only)); refine box_event ?hg (N := 2) ?hd (cs := #[.string a0_0, .int .i64 a0_1, .bool a0_2, .int .i64 a0_3, .int .u64 a0_4, .float .f64 a0_5, .string a0_6, .slice A0_7 l0_7.length c0_7]) (t := 39) ?hr ?_; (case hd => rfl); (case hg => rfl); (case hr => first | (go_simp; done) | (go_simp; rfl)); intro gb269 hg w4 hbox hb; have n0_ := Aside0.mk (below_step (by repeat (first | (with_reducible first | exact HB.out | apply below_alloc | apply pw_below_drewN | apply below_drew1) | exact HB.out)) hb); have n1_ := Aside0.mk (hbox); have n2_ := Aside0.mk ((by rw [hg]; exact (below_size (by repeat (first | (with_reducible first | exact HB.out | apply below_alloc | apply pw_below_drewN | apply below_drew1) | exact HB.out))) : w.heap.size ≤ gb269)); have n3_ := Aside0.mk ((by rw [hg]; exact (below_size (by repeat (first | (with_reducible first | exact HB.out | apply below_alloc | apply pw_below_drewN | apply below_drew1) | exact HB.out))) : w.heap.size ≤ gb269)); clear HB; have HB := n0_; have BK269 := n1_; have GW269 := n2_; have GE269 := n3_; clear n0_ n1_ n2_ n3_; clear hb hbox hg) | ((with_reducible refine gate_dst (N := 3) rfl ?_); (try (refine gate_guard (by rfl) ?_; dsimp only)); refine box_event ?hg (N := 3) ?hd (cs := #[.string a1_0, .int .i64 a1_1, .bool a1_2, .int .i64 a1_3, .int .u64 a1_4, .float .f64 a1_5, .string a1_6, .slice A1_7 l1_7.length c1_7]) (t := 39) ?hr ?_; (case hd => rfl); (case hg => rfl); (case hr => first | (go_simp; done) | (go_simp; rfl)); intro gb270 hg w5 hbox hb; have n0_ := Aside0.mk (blk_below (g := gb269) (o := .cells #[.string a0_0, .int .i64 a0_1, .bool a0_2, .int .i64 a0_3, .int .u64 a0_4, .float .f64 a0_5, .string a0_6, .slice A0_7 l0_7.length c0_7] 39 (0, 0)) (by (with_reducible repeat (first | refine blk_drewN ?_ _ | refine blk_drew ?_ | refine blk_alloc ?_ _)); exact BK269.out) hb); have n1_ := Aside0.mk (below_step (by repeat (first | (with_reducible first | exact HB.out | apply below_alloc | apply pw_below_drewN | apply below_drew1 | refine below_set ?_ GE269.out) | exact HB.out)) hb); have n2_ := Aside0.mk (hbox); have n3_ := Aside0.mk ((by rw [hg]; exact (below_size (by repeat (first | (with_reducible first | exact HB.out | apply below_alloc | apply pw_below_drewN | apply below_drew1 | refine below_set ?_ GE269.out) | exact HB.out))) : w.heap.size ≤ gb270)); have n4_ := Aside0.mk ((by rw [hg]; exact (below_size (by repeat (first | (with_reducible first | exact HB.out | apply below_alloc | apply pw_below_drewN | apply below_drew1 | refine below_set ?_ GE269.out) | exact HB.out))) : w.heap.size ≤ gb270)); have n5_ := Aside0.mk ((by rw [hg]; exact Nat.ne_of_lt (blk_lt (g := gb269) (o := .cells #[.string a0_0, .int .i64 a0_1, .bool a0_2, .int .i64 a0_3, .int .u64 a0_4, .float .f64 a0_5, .string a0_6, .slice A0_7 l0_7.length c0_7] 39 (0, 0)) (by (with_reducible repeat (first | refine blk_drewN ?_ _ | refine blk_drew ?_ | refine blk_alloc ?_ _)); exact BK269.out)) : gb269 ≠ gb270)); have n6_ := Aside0.mk ((by rw [hg]; exact Nat.ne_of_gt (blk_lt (g := gb269) (o := .cells #[.string a0_0, .int .i64 a0_1, .bool a0_2, .int .i64 a0_3, .int .u64 a0_4, .float .f64 a0_5, .string a0_6, .slice A0_7 l0_7.length c0_7] 39 (0, 0)) (by (with_reducible repeat (first | refine blk_drewN ?_ _ | refine blk_drew ?_ | refine blk_alloc ?_ _)); exact BK269.out)) : gb270 ≠ gb269)); clear BK269; clear HB; have BK269 := n0_; have HB := n1_; have BK270 := n2_; have GW270 := n3_; have GE270 := n4_; have NB269_270 := n5_; have NB270_269 := n6_; clear n0_ n1_ n2_ n3_ n4_ n5_ n6_; clear hb hbox hg))
 (try simp only [Act.put, List.setIfInBounds_toArray, List.set_cons_zero, List.set_cons_succ])
 go_cut [63] (fun v63 wc => ∃ (kq : Nat) (x63_2 : Bool), v63 = .bool x63_2 ∧ Aside0 (spec_SameNode.j0 kq x63_2 a0_0 a0_1 a0_2 a0_3 a0_4 a0_5 a0_6 l0_7 a1_0 a1_1 a1_2 a1_3 a1_4 a1_5 a1_6 l1_7 = some r) ∧ Aside0 (kq ≤ k) ∧ Aside0 (wc.heap[gb269]? = some (.cells #[.string a0_0, .int .i64 a0_1, .bool a0_2, .int .i64 a0_3, .int .u64 a0_4, .float .f64 a0_5, .string a0_6, (.slice A0_7 l0_7.length c0_7)] 39 (0, 0))) ∧ Aside0 (wc.heap[gb270]? = some (.cells #[.string a1_0, .int .i64 a1_1, .bool a1_2, .int .i64 a1_3, .int .u64 a1_4, .float .f64 a1_5, .string a1_6, (.slice A1_7 l1_7.length c1_7)] 39 (0, 0))) ∧ Aside0 (Below w.heap.size w wc))
 case first =>
  have H := HC3.out
  clear HC3
  by_cases c6 : a0_0.toList = a1_0.toList
  ·rw [if_pos c6] at H
   have c6b0 : (a0_0.toList == a1_0.toList) = true := beq_iff_eq.mpr c6
   have c6b1 : (a0_0.toList != a1_0.toList) = false := bne_eq_false_iff_eq.mpr c6
   clear c6
   (first | rw [c6b0] | (simp only [i64_w, i32_w]; rw [c6b0]) | skip)
   by_cases c7 : a0_1 = a1_1
   ·rw [if_pos c7] at H
    have c7b0 : (a0_1 == a1_1) = true := beq_iff_eq.mpr c7
    have c7b1 : (a0_1 != a1_1) = false := bne_eq_false_iff_eq.mpr c7
    clear c7
    by_cases c8 : (a0_2 != a1_2) = true
    ·rw [if_pos c8] at H
     have c8b0 : (a0_2 != a1_2) = true := c8
     (try (have c8b1 : decide (a0_2 = a1_2) = false := by simpa using c8))
     (try (have c8b2 : (a0_2 == a1_2) = false := by simpa using c8))
     (try (have c8b3 : ¬ (a0_2 = a1_2) := by simpa using c8))
     clear c8
     exact absurd H (by simp)
    ·rw [if_neg c8] at H
     have c8b0 : (a0_2 != a1_2) = false := by simpa using c8
     (try (have c8b1 : decide (a0_2 = a1_2) = true := by simpa using c8))
     (try (have c8b2 : (a0_2 == a1_2) = true := by simpa using c8))
     clear c8
     by_cases c9 : a0_3 = a1_3
     ·rw [if_pos c9] at H
      have c9b0 : (a0_3 == a1_3) = true := beq_iff_eq.mpr c9
      have c9b1 : (a0_3 != a1_3) = false := bne_eq_false_iff_eq.mpr c9
      clear c9
      by_cases c10 : a0_4 = a1_4
      ·rw [if_pos c10] at H
       have c10b0 : (a0_4 == a1_4) = true := beq_iff_eq.mpr c10
       have c10b1 : (a0_4 != a1_4) = false := bne_eq_false_iff_eq.mpr c10
       clear c10
       replace H := Option.bind_eq_some_iff.mp H
       obtain ⟨t271, A110, H⟩ := H
       try dsimp -simprocs only at H
       have A11 := Aside0.mk A110
       clear A110
       replace H := Option.bind_eq_some_iff.mp H
       obtain ⟨t272, A120, H⟩ := H
       try dsimp -simprocs only at H
       have A12 := Aside0.mk A120
       clear A120
       by_cases c13 : t271 = t272
       ·rw [if_pos c13] at H
        have c13b0 : (t271 == t272) = true := beq_iff_eq.mpr c13
        have c13b1 : (t271 != t272) = false := bne_eq_false_iff_eq.mpr c13
        clear c13
        by_cases c14 : a0_6.toList = a1_6.toList
        ·rw [if_pos c14] at H
         have c14b0 : (a0_6.toList == a1_6.toList) = true := beq_iff_eq.mpr c14
         have c14b1 : (a0_6.toList != a1_6.toList) = false := bne_eq_false_iff_eq.mpr c14
         clear c14
         have H' := Aside0.mk H
         clear H
         try go_wp2
         have n0_ := Aside0.mk (blk_drew BK269.out)
         have n1_ := Aside0.mk (blk_drew BK270.out)
         have n2_ := Aside0.mk (below_drew1 HB.out)
         clear BK269
         clear BK270
         clear HB
         have BK269 := n0_
         have BK270 := n1_
         have HB := n2_
         clear n0_ n1_ n2_
         refine start_ (n := 58) (S := fun w' => w'.cell? ⟨gb269, 0, none⟩ = some (.string a0_0) ∧ w'.cell? ⟨gb269, 1, none⟩ = some (.int .i64 a0_1) ∧ w'.cell? ⟨gb269, 2, none⟩ = some (.bool a0_2) ∧ w'.cell? ⟨gb269, 3, none⟩ = some (.int .i64 a0_3) ∧ w'.cell? ⟨gb269, 4, none⟩ = some (.int .u64 a0_4) ∧ w'.cell? ⟨gb269, 5, none⟩ = some (.float .f64 a0_5) ∧ w'.cell? ⟨gb269, 6, none⟩ = some (.string a0_6) ∧ w'.cell? ⟨gb269, 7, none⟩ = some (.slice A0_7 l0_7.length c0_7) ∧ w'.cell? ⟨gb270, 0, none⟩ = some (.string a1_0) ∧ w'.cell? ⟨gb270, 1, none⟩ = some (.int .i64 a1_1) ∧ w'.cell? ⟨gb270, 2, none⟩ = some (.bool a1_2) ∧ w'.cell? ⟨gb270, 3, none⟩ = some (.int .i64 a1_3) ∧ w'.cell? ⟨gb270, 4, none⟩ = some (.int .u64 a1_4) ∧ w'.cell? ⟨gb270, 5, none⟩ = some (.float .f64 a1_5) ∧ w'.cell? ⟨gb270, 6, none⟩ = some (.string a1_6) ∧ w'.cell? ⟨gb270, 7, none⟩ = some (.slice A1_7 l1_7.length c1_7)) (ds := []) (bb [0, 58]) (by kernel_rfl) rfl rfl ⟨(blk_cell BK269.out 0).trans rfl, (blk_cell BK269.out 1).trans rfl, (blk_cell BK269.out 2).trans rfl, (blk_cell BK269.out 3).trans rfl, (blk_cell BK269.out 4).trans rfl, (blk_cell BK269.out 5).trans rfl, (blk_cell BK269.out 6).trans rfl, (blk_cell BK269.out 7).trans rfl, (blk_cell BK270.out 0).trans rfl, (blk_cell BK270.out 1).trans rfl, (blk_cell BK270.out 2).trans rfl, (blk_cell BK270.out 3).trans rfl, (blk_cell BK270.out 4).trans rfl, (blk_cell BK270.out 5).trans rfl, (blk_cell BK270.out 6).trans rfl, (blk_cell BK270.out 7).trans rfl⟩ (fun hHeld => ?_); refine with_tabW spec_SameNode.tab1 spec_SameNode.bits1 (fun HT_ HW_ => ?_)
         generalize w5.drew = w15 at BK269 BK270 HB hHeld ⊢
         refine pure_ (i := 0) (N := some 6) (v := ?_) (a' := ?_) (bb [1, 57]) rfl rfl (any_of HT_.out (by kernel_rfl)) (fun _ _ _ h => h) (Or.inl ⟨by rfl, ?_⟩) ?_ ?_
         rotate_left
         ·intro w'
          go_simp
          with_reducible rfl
         rotate_left
         ·simp only [Act.put, List.setIfInBounds_toArray, List.set_cons_zero, List.set_cons_succ, i64_w, i32_w]
          rfl
         refine pure_ (i := 2) (N := some 8) (v := ?_) (a' := ?_) (bb [1, 1, 1, 55]) rfl rfl (any_of HT_.out (by kernel_rfl)) (fun _ _ _ h => h) (Or.inl ⟨by rfl, ?_⟩) ?_ ?_
         rotate_left
         ·intro w'
          go_simp
          with_reducible rfl
         rotate_left
         ·simp only [Act.put, List.setIfInBounds_toArray, List.set_cons_zero, List.set_cons_succ, i64_w, i32_w]
          rfl
         refine take_ (i := 1) (N := some 7) (v := ?_) (a' := ?_) (bb [3, 55]) rfl rfl (take_ofW HT_.out HW_.out (by kernel_rfl)) (fun _ _ _ h => h) (Or.inl ⟨by rfl, ?_⟩) hHeld ?_ ?_
         rotate_left
         ·rintro w' ⟨s0, s1, s2, s3, s4, s5, s6, s7, s8, s9, s10, s11, s12, s13, s14, s15⟩
          go_simp
          with_reducible rfl
         rotate_left
         ·simp only [Act.put, List.setIfInBounds_toArray, List.set_cons_zero, List.set_cons_succ, i64_w, i32_w]
          rfl
         refine take_ (i := 3) (N := some 9) (v := ?_) (a' := ?_) (bb [4, 54]) rfl rfl (take_ofW HT_.out HW_.out (by kernel_rfl)) (fun _ _ _ h => h) (Or.inl ⟨by rfl, ?_⟩) hHeld ?_ ?_
         rotate_left
         ·rintro w' ⟨s0, s1, s2, s3, s4, s5, s6, s7, s8, s9, s10, s11, s12, s13, s14, s15⟩
          go_simp
          with_reducible rfl
         rotate_left
         ·simp only [Act.put, List.setIfInBounds_toArray, List.set_cons_zero, List.set_cons_succ, i64_w, i32_w]
          rfl
         refine pure_ (i := 4) (N := some 10) (v := ?_) (a' := ?_) (bb [5, 53]) rfl rfl (any_of HT_.out (by kernel_rfl)) (fun _ _ _ h => h) (Or.inl ⟨by rfl, ?_⟩) ?_ ?_
         rotate_left
         ·intro w'
          go_simp
          with_reducible rfl
         rotate_left
         ·simp only [Act.put, List.setIfInBounds_toArray, List.set_cons_zero, List.set_cons_succ, i64_w, i32_w]
          rfl
         refine pure_ (i := 5) (N := some 11) (v := ?_) (a' := ?_) (bb [6, 52]) rfl rfl (any_of HT_.out (by kernel_rfl)) (fun _ _ _ h => h) (Or.inl ⟨by rfl, ?_⟩) ?_ ?_
         rotate_left
         ·intro w'
          go_simp
          with_reducible rfl
         rotate_left
         ·simp only [Act.put, List.setIfInBounds_toArray, List.set_cons_zero, List.set_cons_succ, i64_w, i32_w]
          rfl
         refine pure_ (i := 6) (N := some 12) (v := ?_) (a' := ?_) (bb [7, 51]) rfl rfl (any_of HT_.out (by kernel_rfl)) (fun _ _ _ h => h) (Or.inl ⟨by rfl, ?_⟩) ?_ ?_
         rotate_left
         ·intro w'
          go_simp
          with_reducible rfl
         rotate_left
         ·simp only [Act.put, List.setIfInBounds_toArray, List.set_cons_zero, List.set_cons_succ, i64_w, i32_w]
          rfl
         refine pure_ (i := 8) (N := some 14) (v := ?_) (a' := ?_) (bb [7, 1, 1, 49]) rfl rfl (any_of HT_.out (by kernel_rfl)) (fun _ _ _ h => h) (Or.inl ⟨by rfl, ?_⟩) ?_ ?_
         rotate_left
         ·intro w'
          go_simp
          with_reducible rfl
         rotate_left
         ·simp only [Act.put, List.setIfInBounds_toArray, List.set_cons_zero, List.set_cons_succ, i64_w, i32_w]
          rfl
         refine take_ (i := 7) (N := some 13) (v := ?_) (a' := ?_) (bb [9, 49]) rfl rfl (take_ofW HT_.out HW_.out (by kernel_rfl)) (fun _ _ _ h => h) (Or.inl ⟨by rfl, ?_⟩) hHeld ?_ ?_
         rotate_left
         ·rintro w' ⟨s0, s1, s2, s3, s4, s5, s6, s7, s8, s9, s10, s11, s12, s13, s14, s15⟩
          go_simp
          with_reducible rfl
         rotate_left
         ·simp only [Act.put, List.setIfInBounds_toArray, List.set_cons_zero, List.set_cons_succ, i64_w, i32_w]
          rfl
         refine take_ (i := 9) (N := some 15) (v := ?_) (a' := ?_) (bb [10, 48]) rfl rfl (take_ofW HT_.out HW_.out (by kernel_rfl)) (fun _ _ _ h => h) (Or.inl ⟨by rfl, ?_⟩) hHeld ?_ ?_
         rotate_left
         ·rintro w' ⟨s0, s1, s2, s3, s4, s5, s6, s7, s8, s9, s10, s11, s12, s13, s14, s15⟩
          go_simp
          with_reducible rfl
         rotate_left
         ·simp only [Act.put, List.setIfInBounds_toArray, List.set_cons_zero, List.set_cons_succ, i64_w, i32_w]
          rfl
         refine pure_ (i := 10) (N := some 16) (v := ?_) (a' := ?_) (bb [11, 47]) rfl rfl (any_of HT_.out (by kernel_rfl)) (fun _ _ _ h => h) (Or.inl ⟨by rfl, ?_⟩) ?_ ?_
         rotate_left
         ·intro w'
          go_simp
          with_reducible rfl
         rotate_left
         ·simp only [Act.put, List.setIfInBounds_toArray, List.set_cons_zero, List.set_cons_succ, i64_w, i32_w]
          rfl
         refine pure_ (i := 11) (N := some 17) (v := ?_) (a' := ?_) (bb [12, 46]) rfl rfl (any_of HT_.out (by kernel_rfl)) (fun _ _ _ h => h) (Or.inl ⟨by rfl, ?_⟩) ?_ ?_
         rotate_left
         ·intro w'
          go_simp
          with_reducible rfl
         rotate_left
         ·simp only [Act.put, List.setIfInBounds_toArray, List.set_cons_zero, List.set_cons_succ, i64_w, i32_w]
          rfl
         refine pure_ (i := 12) (N := some 18) (v := ?_) (a' := ?_) (bb [13, 45]) rfl rfl (any_of HT_.out (by kernel_rfl)) (fun _ _ _ h => h) (Or.inl ⟨by rfl, ?_⟩) ?_ ?_
         rotate_left
         ·intro w'
          go_simp
          with_reducible rfl
         rotate_left
         ·simp only [Act.put, List.setIfInBounds_toArray, List.set_cons_zero, List.set_cons_succ, i64_w, i32_w]
          rfl
         refine pure_ (i := 13) (N := some 19) (v := ?_) (a' := ?_) (bb [14, 44]) rfl rfl (any_of HT_.out (by kernel_rfl)) (fun _ _ _ h => h) (Or.inl ⟨by rfl, ?_⟩) ?_ ?_
         rotate_left
         ·intro w'
          go_simp
          with_reducible rfl
         rotate_left
         ·simp only [Act.put, List.setIfInBounds_toArray, List.set_cons_zero, List.set_cons_succ, i64_w, i32_w]
          rfl
         refine pure_ (i := 15) (N := some 21) (v := ?_) (a' := ?_) (bb [14, 1, 1, 42]) rfl rfl (any_of HT_.out (by kernel_rfl)) (fun _ _ _ h => h) (Or.inl ⟨by rfl, ?_⟩) ?_ ?_
         rotate_left
         ·intro w'
          go_simp
          with_reducible rfl
         rotate_left
         ·simp only [Act.put, List.setIfInBounds_toArray, List.set_cons_zero, List.set_cons_succ, i64_w, i32_w]
          rfl
         refine take_ (i := 14) (N := some 20) (v := ?_) (a' := ?_) (bb [16, 42]) rfl rfl (take_ofW HT_.out HW_.out (by kernel_rfl)) (fun _ _ _ h => h) (Or.inl ⟨by rfl, ?_⟩) hHeld ?_ ?_
         rotate_left
         ·rintro w' ⟨s0, s1, s2, s3, s4, s5, s6, s7, s8, s9, s10, s11, s12, s13, s14, s15⟩
          go_simp
          with_reducible rfl
         rotate_left
         ·simp only [Act.put, List.setIfInBounds_toArray, List.set_cons_zero, List.set_cons_succ, i64_w, i32_w]
          rfl
         refine take_ (i := 16) (N := some 22) (v := ?_) (a' := ?_) (bb [17, 41]) rfl rfl (take_ofW HT_.out HW_.out (by kernel_rfl)) (fun _ _ _ h => h) (Or.inl ⟨by rfl, ?_⟩) hHeld ?_ ?_
         rotate_left
         ·rintro w' ⟨s0, s1, s2, s3, s4, s5, s6, s7, s8, s9, s10, s11, s12, s13, s14, s15⟩
          go_simp
          with_reducible rfl
         rotate_left
         ·simp only [Act.put, List.setIfInBounds_toArray, List.set_cons_zero, List.set_cons_succ, i64_w, i32_w]
          rfl
         refine pure_ (i := 17) (N := some 23) (v := ?_) (a' := ?_) (bb [18, 40]) rfl rfl (any_of HT_.out (by kernel_rfl)) (fun _ _ _ h => h) (Or.inl ⟨by rfl, ?_⟩) ?_ ?_
         rotate_left
         ·intro w'
          go_simp
          with_reducible rfl
         rotate_left
         ·simp only [Act.put, List.setIfInBounds_toArray, List.set_cons_zero, List.set_cons_succ, i64_w, i32_w]
          rfl
         refine pure_ (i := 18) (N := some 24) (v := ?_) (a' := ?_) (bb [19, 39]) rfl rfl (any_of HT_.out (by kernel_rfl)) (fun _ _ _ h => h) (Or.inl ⟨by rfl, ?_⟩) ?_ ?_
         rotate_left
         ·intro w'
          go_simp
          with_reducible rfl
         rotate_left
         ·simp only [Act.put, List.setIfInBounds_toArray, List.set_cons_zero, List.set_cons_succ, i64_w, i32_w]
          rfl
         refine pure_ (i := 19) (N := some 25) (v := ?_) (a' := ?_) (bb [20, 38]) rfl rfl (any_of HT_.out (by kernel_rfl)) (fun _ _ _ h => h) (Or.inl ⟨by rfl, ?_⟩) ?_ ?_
         rotate_left
         ·intro w'
          go_simp
          with_reducible rfl
         rotate_left
         ·simp only [Act.put, List.setIfInBounds_toArray, List.set_cons_zero, List.set_cons_succ, i64_w, i32_w]
          rfl
         refine pure_ (i := 20) (N := some 26) (v := ?_) (a' := ?_) (bb [21, 37]) rfl rfl (any_of HT_.out (by kernel_rfl)) (fun _ _ _ h => h) (Or.inl ⟨by rfl, ?_⟩) ?_ ?_
         rotate_left
         ·intro w'
          go_simp
          with_reducible rfl
         rotate_left
         ·simp only [Act.put, List.setIfInBounds_toArray, List.set_cons_zero, List.set_cons_succ, i64_w, i32_w]
          rfl
         refine pure_ (i := 22) (N := some 28) (v := ?_) (a' := ?_) (bb [21, 1, 1, 35]) rfl rfl (any_of HT_.out (by kernel_rfl)) (fun _ _ _ h => h) (Or.inl ⟨by rfl, ?_⟩) ?_ ?_
         rotate_left
         ·intro w'
          go_simp
          with_reducible rfl
         rotate_left
         ·simp only [Act.put, List.setIfInBounds_toArray, List.set_cons_zero, List.set_cons_succ, i64_w, i32_w]
          rfl
         refine take_ (i := 21) (N := some 27) (v := ?_) (a' := ?_) (bb [23, 35]) rfl rfl (take_ofW HT_.out HW_.out (by kernel_rfl)) (fun _ _ _ h => h) (Or.inl ⟨by rfl, ?_⟩) hHeld ?_ ?_
         rotate_left
         ·rintro w' ⟨s0, s1, s2, s3, s4, s5, s6, s7, s8, s9, s10, s11, s12, s13, s14, s15⟩
          go_simp
          with_reducible rfl
         rotate_left
         ·simp only [Act.put, List.setIfInBounds_toArray, List.set_cons_zero, List.set_cons_succ, i64_w, i32_w]
          rfl
         refine take_ (i := 23) (N := some 29) (v := ?_) (a' := ?_) (bb [24, 34]) rfl rfl (take_ofW HT_.out HW_.out (by kernel_rfl)) (fun _ _ _ h => h) (Or.inl ⟨by rfl, ?_⟩) hHeld ?_ ?_
         rotate_left
         ·rintro w' ⟨s0, s1, s2, s3, s4, s5, s6, s7, s8, s9, s10, s11, s12, s13, s14, s15⟩
          go_simp
          with_reducible rfl
         rotate_left
         ·simp only [Act.put, List.setIfInBounds_toArray, List.set_cons_zero, List.set_cons_succ, i64_w, i32_w]
          rfl
         refine pure_ (i := 24) (N := some 30) (v := ?_) (a' := ?_) (bb [25, 33]) rfl rfl (any_of HT_.out (by kernel_rfl)) (fun _ _ _ h => h) (Or.inl ⟨by rfl, ?_⟩) ?_ ?_
         rotate_left
         ·intro w'
          go_simp
          with_reducible rfl
         rotate_left
         ·simp only [Act.put, List.setIfInBounds_toArray, List.set_cons_zero, List.set_cons_succ, i64_w, i32_w]
          rfl
         refine pure_ (i := 25) (N := some 31) (v := ?_) (a' := ?_) (bb [26, 32]) rfl rfl (any_of HT_.out (by kernel_rfl)) (fun _ _ _ h => h) (Or.inl ⟨by rfl, ?_⟩) ?_ ?_
         rotate_left
         ·intro w'
          go_simp
          with_reducible rfl
         rotate_left
         ·simp only [Act.put, List.setIfInBounds_toArray, List.set_cons_zero, List.set_cons_succ, i64_w, i32_w]
          rfl
         refine pure_ (i := 26) (N := some 32) (v := ?_) (a' := ?_) (bb [27, 31]) rfl rfl (any_of HT_.out (by kernel_rfl)) (fun _ _ _ h => h) (Or.inl ⟨by rfl, ?_⟩) ?_ ?_
         rotate_left
         ·intro w'
          go_simp
          with_reducible rfl
         rotate_left
         ·simp only [Act.put, List.setIfInBounds_toArray, List.set_cons_zero, List.set_cons_succ, i64_w, i32_w]
          rfl
         refine pure_ (i := 27) (N := some 33) (v := ?_) (a' := ?_) (bb [28, 30]) rfl rfl (any_of HT_.out (by kernel_rfl)) (fun _ _ _ h => h) (Or.inl ⟨by rfl, ?_⟩) ?_ ?_
         rotate_left
         ·intro w'
          go_simp
          with_reducible rfl
         rotate_left
         ·simp only [Act.put, List.setIfInBounds_toArray, List.set_cons_zero, List.set_cons_succ, i64_w, i32_w]
          rfl
         refine pure_ (i := 29) (N := some 35) (v := ?_) (a' := ?_) (bb [28, 1, 1, 28]) rfl rfl (any_of HT_.out (by kernel_rfl)) (fun _ _ _ h => h) (Or.inl ⟨by rfl, ?_⟩) ?_ ?_
         rotate_left
         ·intro w'
          go_simp
          with_reducible rfl
         rotate_left
         ·simp only [Act.put, List.setIfInBounds_toArray, List.set_cons_zero, List.set_cons_succ, i64_w, i32_w]
          rfl
         refine take_ (i := 28) (N := some 34) (v := ?_) (a' := ?_) (bb [30, 28]) rfl rfl (take_ofW HT_.out HW_.out (by kernel_rfl)) (fun _ _ _ h => h) (Or.inl ⟨by rfl, ?_⟩) hHeld ?_ ?_
         rotate_left
         ·rintro w' ⟨s0, s1, s2, s3, s4, s5, s6, s7, s8, s9, s10, s11, s12, s13, s14, s15⟩
          go_simp
          with_reducible rfl
         rotate_left
         ·simp only [Act.put, List.setIfInBounds_toArray, List.set_cons_zero, List.set_cons_succ, i64_w, i32_w]
          rfl
         refine take_ (i := 30) (N := some 36) (v := ?_) (a' := ?_) (bb [31, 27]) rfl rfl (take_ofW HT_.out HW_.out (by kernel_rfl)) (fun _ _ _ h => h) (Or.inl ⟨by rfl, ?_⟩) hHeld ?_ ?_
         rotate_left
         ·rintro w' ⟨s0, s1, s2, s3, s4, s5, s6, s7, s8, s9, s10, s11, s12, s13, s14, s15⟩
          go_simp
          with_reducible rfl
         rotate_left
         ·simp only [Act.put, List.setIfInBounds_toArray, List.set_cons_zero, List.set_cons_succ, i64_w, i32_w]
          rfl
         refine pure_ (i := 31) (N := some 37) (v := ?_) (a' := ?_) (bb [32, 26]) rfl rfl (any_of HT_.out (by kernel_rfl)) (fun _ _ _ h => h) (Or.inl ⟨by rfl, ?_⟩) ?_ ?_
         rotate_left
         ·intro w'
          go_simp
          with_reducible rfl
         rotate_left
         ·simp only [Act.put, List.setIfInBounds_toArray, List.set_cons_zero, List.set_cons_succ, i64_w, i32_w]
          rfl
         refine pure_ (i := 32) (N := some 38) (v := ?_) (a' := ?_) (bb [33, 25]) rfl rfl (any_of HT_.out (by kernel_rfl)) (fun _ _ _ h => h) (Or.inl ⟨by rfl, ?_⟩) ?_ ?_
         rotate_left
         ·intro w'
          go_simp
          with_reducible rfl
         rotate_left
         ·simp only [Act.put, List.setIfInBounds_toArray, List.set_cons_zero, List.set_cons_succ, i64_w, i32_w]
          rfl
         refine pure_ (i := 33) (N := some 39) (v := ?_) (a' := ?_) (bb [34, 24]) rfl rfl (any_of HT_.out (by kernel_rfl)) (fun _ _ _ h => h) (Or.inl ⟨by rfl, ?_⟩) ?_ ?_
         rotate_left
         ·intro w'
          go_simp
          with_reducible rfl
         rotate_left
         ·simp only [Act.put, List.setIfInBounds_toArray, List.set_cons_zero, List.set_cons_succ, i64_w, i32_w]
          rfl
         refine pure_ (i := 34) (N := some 40) (v := ?_) (a' := ?_) (bb [35, 23]) rfl rfl (any_of HT_.out (by kernel_rfl)) (fun _ _ _ h => h) (Or.inl ⟨by rfl, ?_⟩) ?_ ?_
         rotate_left
         ·intro w'
          go_simp
          with_reducible rfl
         rotate_left
         ·simp only [Act.put, List.setIfInBounds_toArray, List.set_cons_zero, List.set_cons_succ, i64_w, i32_w]
          rfl
         refine pure_ (i := 37) (N := some 43) (v := ?_) (a' := ?_) (bb [35, 2, 1, 20]) rfl rfl (any_of HT_.out (by kernel_rfl)) (fun _ _ _ h => h) (Or.inl ⟨by rfl, ?_⟩) ?_ ?_
         rotate_left
         ·intro w'
          go_simp
          with_reducible rfl
         rotate_left
         ·simp only [Act.put, List.setIfInBounds_toArray, List.set_cons_zero, List.set_cons_succ, i64_w, i32_w]
          rfl
         refine take_ (i := 35) (N := some 41) (v := ?_) (a' := ?_) (bb [36, 1, 1, 20]) rfl rfl (take_ofW HT_.out HW_.out (by kernel_rfl)) (fun _ _ _ h => h) (Or.inl ⟨by rfl, ?_⟩) hHeld ?_ ?_
         rotate_left
         ·rintro w' ⟨s0, s1, s2, s3, s4, s5, s6, s7, s8, s9, s10, s11, s12, s13, s14, s15⟩
          go_simp
          with_reducible rfl
         rotate_left
         ·simp only [Act.put, List.setIfInBounds_toArray, List.set_cons_zero, List.set_cons_succ, i64_w, i32_w]
          rfl
         refine take_ (i := 38) (N := some 44) (v := ?_) (a' := ?_) (bb [36, 1, 2, 19]) rfl rfl (take_ofW HT_.out HW_.out (by kernel_rfl)) (fun _ _ _ h => h) (Or.inl ⟨by rfl, ?_⟩) hHeld ?_ ?_
         rotate_left
         ·rintro w' ⟨s0, s1, s2, s3, s4, s5, s6, s7, s8, s9, s10, s11, s12, s13, s14, s15⟩
          go_simp
          with_reducible rfl
         rotate_left
         ·simp only [Act.put, List.setIfInBounds_toArray, List.set_cons_zero, List.set_cons_succ, i64_w, i32_w]
          rfl
         refine one_ (i := 36) (N := some 42) (bb [39, 19]) rfl rfl (one_of HT_.out (by kernel_rfl)) (by decide) (fun K hK => ?_)
         refine value_ (w1 := ?_) (v := .int .u64 t271) (by rfl) rfl ?_ ?_
         rotate_left
         ·simp only [execOp]
          go_simp
          exact f64bits_at A11.out _
         refine hK.out _ _ ⟨(blk_cell BK269.out 0).trans rfl, (blk_cell BK269.out 1).trans rfl, (blk_cell BK269.out 2).trans rfl, (blk_cell BK269.out 3).trans rfl, (blk_cell BK269.out 4).trans rfl, (blk_cell BK269.out 5).trans rfl, (blk_cell BK269.out 6).trans rfl, (blk_cell BK269.out 7).trans rfl, (blk_cell BK270.out 0).trans rfl, (blk_cell BK270.out 1).trans rfl, (blk_cell BK270.out 2).trans rfl, (blk_cell BK270.out 3).trans rfl, (blk_cell BK270.out 4).trans rfl, (blk_cell BK270.out 5).trans rfl, (blk_cell BK270.out 6).trans rfl, (blk_cell BK270.out 7).trans rfl⟩ (fun hHeld => ?_)
         clear hK K
         refine norm_ (a' := ?_) ?_ ?_
         rotate_left
         ·show Act.put _ (some 42) _ = _
          simp only [Act.put, List.setIfInBounds_toArray, List.set_cons_zero, List.set_cons_succ, i64_w, i32_w]
          rfl
         refine one_ (i := 39) (N := some 45) (bb [40, 18]) rfl rfl (one_of HT_.out (by kernel_rfl)) (by decide) (fun K hK => ?_)
         refine value_ (w1 := ?_) (v := .int .u64 t272) (by rfl) rfl ?_ ?_
         rotate_left
         ·simp only [execOp]
          go_simp
          exact f64bits_at A12.out _
         refine hK.out _ _ ⟨(blk_cell BK269.out 0).trans rfl, (blk_cell BK269.out 1).trans rfl, (blk_cell BK269.out 2).trans rfl, (blk_cell BK269.out 3).trans rfl, (blk_cell BK269.out 4).trans rfl, (blk_cell BK269.out 5).trans rfl, (blk_cell BK269.out 6).trans rfl, (blk_cell BK269.out 7).trans rfl, (blk_cell BK270.out 0).trans rfl, (blk_cell BK270.out 1).trans rfl, (blk_cell BK270.out 2).trans rfl, (blk_cell BK270.out 3).trans rfl, (blk_cell BK270.out 4).trans rfl, (blk_cell BK270.out 5).trans rfl, (blk_cell BK270.out 6).trans rfl, (blk_cell BK270.out 7).trans rfl⟩ (fun hHeld => ?_)
         clear hK K
         refine norm_ (a' := ?_) ?_ ?_
         rotate_left
         ·show Act.put _ (some 45) _ = _
          simp only [Act.put, List.setIfInBounds_toArray, List.set_cons_zero, List.set_cons_succ, i64_w, i32_w]
          rfl
         refine pure_ (i := 40) (N := some 46) (v := ?_) (a' := ?_) (bb [41, 17]) rfl rfl (any_of HT_.out (by kernel_rfl)) (fun _ _ _ h => h) (Or.inl ⟨by rfl, ?_⟩) ?_ ?_
         rotate_left
         ·intro w'
          go_simp
          with_reducible rfl
         rotate_left
         ·simp only [Act.put, List.setIfInBounds_toArray, List.set_cons_zero, List.set_cons_succ, i64_w, i32_w]
          rfl
         refine pure_ (i := 41) (N := some 47) (v := ?_) (a' := ?_) (bb [42, 16]) rfl rfl (any_of HT_.out (by kernel_rfl)) (fun _ _ _ h => h) (Or.inl ⟨by rfl, ?_⟩) ?_ ?_
         rotate_left
         ·intro w'
          go_simp
          with_reducible rfl
         rotate_left
         ·simp only [Act.put, List.setIfInBounds_toArray, List.set_cons_zero, List.set_cons_succ, i64_w, i32_w]
          rfl
         refine pure_ (i := 42) (N := some 48) (v := ?_) (a' := ?_) (bb [43, 15]) rfl rfl (any_of HT_.out (by kernel_rfl)) (fun _ _ _ h => h) (Or.inl ⟨by rfl, ?_⟩) ?_ ?_
         rotate_left
         ·intro w'
          go_simp
          with_reducible rfl
         rotate_left
         ·simp only [Act.put, List.setIfInBounds_toArray, List.set_cons_zero, List.set_cons_succ, i64_w, i32_w]
          rfl
         refine pure_ (i := 43) (N := some 49) (v := ?_) (a' := ?_) (bb [44, 14]) rfl rfl (any_of HT_.out (by kernel_rfl)) (fun _ _ _ h => h) (Or.inl ⟨by rfl, ?_⟩) ?_ ?_
         rotate_left
         ·intro w'
          go_simp
          with_reducible rfl
         rotate_left
         ·simp only [Act.put, List.setIfInBounds_toArray, List.set_cons_zero, List.set_cons_succ, i64_w, i32_w]
          rfl
         refine pure_ (i := 45) (N := some 51) (v := ?_) (a' := ?_) (bb [44, 1, 1, 12]) rfl rfl (any_of HT_.out (by kernel_rfl)) (fun _ _ _ h => h) (Or.inl ⟨by rfl, ?_⟩) ?_ ?_
         rotate_left
         ·intro w'
          go_simp
          with_reducible rfl
         rotate_left
         ·simp only [Act.put, List.setIfInBounds_toArray, List.set_cons_zero, List.set_cons_succ, i64_w, i32_w]
          rfl
         refine take_ (i := 44) (N := some 50) (v := ?_) (a' := ?_) (bb [46, 12]) rfl rfl (take_ofW HT_.out HW_.out (by kernel_rfl)) (fun _ _ _ h => h) (Or.inl ⟨by rfl, ?_⟩) hHeld ?_ ?_
         rotate_left
         ·rintro w' ⟨s0, s1, s2, s3, s4, s5, s6, s7, s8, s9, s10, s11, s12, s13, s14, s15⟩
          go_simp
          with_reducible rfl
         rotate_left
         ·simp only [Act.put, List.setIfInBounds_toArray, List.set_cons_zero, List.set_cons_succ, i64_w, i32_w]
          rfl
         refine take_ (i := 46) (N := some 52) (v := ?_) (a' := ?_) (bb [47, 11]) rfl rfl (take_ofW HT_.out HW_.out (by kernel_rfl)) (fun _ _ _ h => h) (Or.inl ⟨by rfl, ?_⟩) hHeld ?_ ?_
         rotate_left
         ·rintro w' ⟨s0, s1, s2, s3, s4, s5, s6, s7, s8, s9, s10, s11, s12, s13, s14, s15⟩
          go_simp
          with_reducible rfl
         rotate_left
         ·simp only [Act.put, List.setIfInBounds_toArray, List.set_cons_zero, List.set_cons_succ, i64_w, i32_w]
          rfl
         refine pure_ (i := 47) (N := some 53) (v := ?_) (a' := ?_) (bb [48, 10]) rfl rfl (any_of HT_.out (by kernel_rfl)) (fun _ _ _ h => h) (Or.inl ⟨by rfl, ?_⟩) ?_ ?_
         rotate_left
         ·intro w'
          go_simp
          with_reducible rfl
         rotate_left
         ·simp only [Act.put, List.setIfInBounds_toArray, List.set_cons_zero, List.set_cons_succ, i64_w, i32_w]
          rfl
         refine pure_ (i := 48) (N := some 54) (v := ?_) (a' := ?_) (bb [49, 9]) rfl rfl (any_of HT_.out (by kernel_rfl)) (fun _ _ _ h => h) (Or.inl ⟨by rfl, ?_⟩) ?_ ?_
         rotate_left
         ·intro w'
          go_simp
          with_reducible rfl
         rotate_left
         ·simp only [Act.put, List.setIfInBounds_toArray, List.set_cons_zero, List.set_cons_succ, i64_w, i32_w]
          rfl
         refine pure_ (i := 49) (N := some 55) (v := ?_) (a' := ?_) (bb [50, 8]) rfl rfl (any_of HT_.out (by kernel_rfl)) (fun _ _ _ h => h) (Or.inl ⟨by rfl, ?_⟩) ?_ ?_
         rotate_left
         ·intro w'
          go_simp
          with_reducible rfl
         rotate_left
         ·simp only [Act.put, List.setIfInBounds_toArray, List.set_cons_zero, List.set_cons_succ, i64_w, i32_w]
          rfl
         refine pure_ (i := 50) (N := some 56) (v := ?_) (a' := ?_) (bb [51, 7]) rfl rfl (any_of HT_.out (by kernel_rfl)) (fun _ _ _ h => h) (Or.inl ⟨by rfl, ?_⟩) ?_ ?_
         rotate_left
         ·intro w'
          go_simp
          with_reducible rfl
         rotate_left
         ·simp only [Act.put, List.setIfInBounds_toArray, List.set_cons_zero, List.set_cons_succ, i64_w, i32_w]
          rfl
         refine pure_ (i := 53) (N := some 59) (v := ?_) (a' := ?_) (bb [51, 2, 1, 4]) rfl rfl (any_of HT_.out (by kernel_rfl)) (fun _ _ _ h => h) (Or.inl ⟨by rfl, ?_⟩) ?_ ?_
         rotate_left
         ·intro w'
          go_simp
          with_reducible rfl
         rotate_left
         ·simp only [Act.put, List.setIfInBounds_toArray, List.set_cons_zero, List.set_cons_succ, i64_w, i32_w]
          rfl
         refine take_ (i := 51) (N := some 57) (v := ?_) (a' := ?_) (bb [52, 1, 1, 4]) rfl rfl (take_ofW HT_.out HW_.out (by kernel_rfl)) (fun _ _ _ h => h) (Or.inl ⟨by rfl, ?_⟩) hHeld ?_ ?_
         rotate_left
         ·rintro w' ⟨s0, s1, s2, s3, s4, s5, s6, s7, s8, s9, s10, s11, s12, s13, s14, s15⟩
          go_simp
          with_reducible rfl
         rotate_left
         ·simp only [Act.put, List.setIfInBounds_toArray, List.set_cons_zero, List.set_cons_succ, i64_w, i32_w]
          rfl
         refine pure_ (i := 52) (N := some 58) (v := ?_) (a' := ?_) (bb [54, 4]) rfl rfl (any_of HT_.out (by kernel_rfl)) (fun _ _ _ h => h) (Or.inl ⟨by rfl, ?_⟩) ?_ ?_
         rotate_left
         ·intro w'
          go_simp
          with_reducible rfl
         rotate_left
         ·simp only [Act.put, List.setIfInBounds_toArray, List.set_cons_zero, List.set_cons_succ, i64_w, i32_w]
          rfl
         refine take_ (i := 54) (N := some 60) (v := ?_) (a' := ?_) (bb [55, 3]) rfl rfl (take_ofW HT_.out HW_.out (by kernel_rfl)) (fun _ _ _ h => h) (Or.inl ⟨by rfl, ?_⟩) hHeld ?_ ?_
         rotate_left
         ·rintro w' ⟨s0, s1, s2, s3, s4, s5, s6, s7, s8, s9, s10, s11, s12, s13, s14, s15⟩
          go_simp
          with_reducible rfl
         rotate_left
         ·simp only [Act.put, List.setIfInBounds_toArray, List.set_cons_zero, List.set_cons_succ, i64_w, i32_w]
          rfl
         refine pure_ (i := 55) (N := some 61) (v := ?_) (a' := ?_) (bb [56, 2]) rfl rfl (any_of HT_.out (by kernel_rfl)) (fun _ _ _ h => h) (Or.inl ⟨by rfl, ?_⟩) ?_ ?_
         rotate_left
         ·intro w'
          go_simp
          with_reducible rfl
         rotate_left
         ·simp only [Act.put, List.setIfInBounds_toArray, List.set_cons_zero, List.set_cons_succ, i64_w, i32_w]
          rfl
         refine pure_ (i := 56) (N := some 62) (v := ?_) (a' := ?_) (bb [57, 1]) rfl rfl (any_of HT_.out (by kernel_rfl)) (fun _ _ _ h => h) (Or.inl ⟨by rfl, ?_⟩) ?_ ?_
         rotate_left
         ·intro w'
          go_simp
          with_reducible rfl
         rotate_left
         ·simp only [Act.put, List.setIfInBounds_toArray, List.set_cons_zero, List.set_cons_succ, i64_w, i32_w]
          rfl
         refine pure_ (i := 57) (N := some 63) (v := ?_) (a' := ?_) (bb [58]) rfl rfl (any_of HT_.out (by kernel_rfl)) (fun _ _ _ h => h) (Or.inl ⟨by rfl, ?_⟩) ?_ ?_
         rotate_left
         ·intro w'
          go_simp
          with_reducible rfl
         rotate_left
         ·simp only [Act.put, List.setIfInBounds_toArray, List.set_cons_zero, List.set_cons_succ, i64_w, i32_w]
          rfl
         refine done_ (done_of HT_.out (by kernel_rfl)) ?_
         try go_wp2
         go_meet
         case rel => exact ⟨_, (((l0_7.length : Int) != (l1_7.length : Int))), (by first | rfl | (simp; done) | (simp [*]; done)), H', ⟨by first | omega | exact Nat.le_refl _⟩, ⟨by (with_reducible repeat (first | refine blk_drewN ?_ _ | refine blk_drew ?_ | refine blk_alloc ?_ _)); exact BK269.out⟩, ⟨by (with_reducible repeat (first | refine blk_drewN ?_ _ | refine blk_drew ?_ | refine blk_alloc ?_ _)); exact BK270.out⟩, ⟨by repeat (first | (with_reducible first | exact HB.out | apply below_alloc | apply pw_below_drewN | apply below_drew1 | refine below_set ?_ GE269.out | refine below_set ?_ GE270.out) | exact HB.out)⟩⟩
        ·rw [if_neg c14] at H
         have c14b0 : (a0_6.toList == a1_6.toList) = false := beq_eq_false_iff_ne.mpr c14
         have c14b1 : (a0_6.toList != a1_6.toList) = true := bne_iff_ne.mpr c14
         exact absurd H (by simp)
       ·rw [if_neg c13] at H
        have c13b0 : (t271 == t272) = false := beq_eq_false_iff_ne.mpr c13
        have c13b1 : (t271 != t272) = true := bne_iff_ne.mpr c13
        exact absurd H (by simp)
      ·rw [if_neg c10] at H
       have c10b0 : (a0_4 == a1_4) = false := beq_eq_false_iff_ne.mpr c10
       have c10b1 : (a0_4 != a1_4) = true := bne_iff_ne.mpr c10
       exact absurd H (by simp)
     ·rw [if_neg c9] at H
      have c9b0 : (a0_3 == a1_3) = false := beq_eq_false_iff_ne.mpr c9
      have c9b1 : (a0_3 != a1_3) = true := bne_iff_ne.mpr c9
      exact absurd H (by simp)
   ·rw [if_neg c7] at H
    have c7b0 : (a0_1 == a1_1) = false := beq_eq_false_iff_ne.mpr c7
    have c7b1 : (a0_1 != a1_1) = true := bne_iff_ne.mpr c7
    exact absurd H (by simp)
  ·rw [if_neg c6] at H
   have c6b0 : (a0_0.toList == a1_0.toList) = false := beq_eq_false_iff_ne.mpr c6
   have c6b1 : (a0_0.toList != a1_0.toList) = true := bne_iff_ne.mpr c6
   (first | rw [c6b0] | (simp only [i64_w, i32_w]; rw [c6b0]) | skip)
   exact absurd H (by simp)
 case rest =>
  clear HC3
  try clear c1
  try clear p2
  try clear c4
  try clear c6
  try clear c6b0
  try clear c6b1
  try clear c7
  try clear c7b0
  try clear c7b1
  try clear c8
  try clear c8b0
  try clear c8b1
  try clear c8b2
  try clear c9
  try clear c9b0
  try clear c9b1
  try clear c10
  try clear c10b0
  try clear c10b1
  try clear c13
  try clear c13b0
  try clear c13b1
  try clear c14
  try clear c14b0
  try clear c14b1
  obtain ⟨kq, x63_2, rfl, HA, HJ2, BK269, BK270, HB⟩ := hcut
  cases kq with
  | zero => exact absurd HA.out (by simp [spec_SameNode.j0])
  | succ kj2 =>
   have H := HA.out
   clear HA
   simp only [spec_SameNode.j0] at H
   by_cases c16 : x63_2 = true
   ·subst c16
    have H1 : (none) = some r := by rw [if_pos rfl] at H; exact H
    clear H
    have H := H1
    clear H1
    exact absurd H (by simp)
   ·replace c16 := Bool.eq_false_iff.mpr c16
    subst c16
    have H1 : (spec_SameNode.l0 kj2 (l0_7.length : Int) 0 a0_0 a0_1 a0_2 a0_3 a0_4 a0_5 a0_6 l0_7 a1_0 a1_1 a1_2 a1_3 a1_4 a1_5 a1_6 l1_7) = some r := by rw [if_neg (show ¬ (false = true) by decide)] at H; exact H
    clear H
    have H := H1
    clear H1
    have H' := Aside0.mk H
    clear H
    have hnb17 := NB269_270.out
    have hnc17 := NB270_269.out
    have hcz18_0 : wc.cell? ⟨gb269, 0, none⟩ = some (.string a0_0) := (blk_cell BK269.out 0).trans rfl
    have hcz18_1 : wc.cell? ⟨gb269, 1, none⟩ = some (.int .i64 a0_1) := (blk_cell BK269.out 1).trans rfl
    have hcz18_2 : wc.cell? ⟨gb269, 2, none⟩ = some (.bool a0_2) := (blk_cell BK269.out 2).trans rfl
    have hcz18_3 : wc.cell? ⟨gb269, 3, none⟩ = some (.int .i64 a0_3) := (blk_cell BK269.out 3).trans rfl
    have hcz18_4 : wc.cell? ⟨gb269, 4, none⟩ = some (.int .u64 a0_4) := (blk_cell BK269.out 4).trans rfl
    have hcz18_5 : wc.cell? ⟨gb269, 5, none⟩ = some (.float .f64 a0_5) := (blk_cell BK269.out 5).trans rfl
    have hcz18_6 : wc.cell? ⟨gb269, 6, none⟩ = some (.string a0_6) := (blk_cell BK269.out 6).trans rfl
    have hcz18_7 : wc.cell? ⟨gb269, 7, none⟩ = some (.slice A0_7 l0_7.length c0_7) := (blk_cell BK269.out 7).trans rfl
    have hfz18_0 := blk_frozen BK269.out 0
    have hfz18_1 := blk_frozen BK269.out 1
    have hfz18_2 := blk_frozen BK269.out 2
    have hfz18_3 := blk_frozen BK269.out 3
    have hfz18_4 := blk_frozen BK269.out 4
    have hfz18_5 := blk_frozen BK269.out 5
    have hfz18_6 := blk_frozen BK269.out 6
    have hfz18_7 := blk_frozen BK269.out 7
    go_wp2
    go_loopg [67] kj2 (fun kq v67 w' => ∃ (x67_2 : Int), v67 = .int .i64 x67_2 ∧ Aside0 (spec_SameNode.l0 kq (l0_7.length : Int) x67_2 a0_0 a0_1 a0_2 a0_3 a0_4 a0_5 a0_6 l0_7 a1_0 a1_1 a1_2 a1_3 a1_4 a1_5 a1_6 l1_7 = some r) ∧ Aside0 (kq ≤ kj2) ∧ Aside0 (w'.heap[gb269]? = some (.cells #[.string a0_0, .int .i64 a0_1, .bool a0_2, .int .i64 a0_3, .int .u64 a0_4, .float .f64 a0_5, .string a0_6, (.slice A0_7 l0_7.length c0_7)] 39 (0, 0))) ∧ Aside0 (w'.heap[gb270]? = some (.cells #[.string a1_0, .int .i64 a1_1, .bool a1_2, .int .i64 a1_3, .int .u64 a1_4, .float .f64 a1_5, .string a1_6, (.slice A1_7 l1_7.length c1_7)] 39 (0, 0))) ∧ Aside0 (Below w.heap.size w w'))
    case atStart => exact ⟨(0), (by first | rfl | (simp; done) | (simp [*]; done)), H', ⟨Nat.le_refl _⟩, ⟨by (with_reducible repeat (first | refine blk_drewN ?_ _ | refine blk_drew ?_ | refine blk_alloc ?_ _)); exact BK269.out⟩, ⟨by (with_reducible repeat (first | refine blk_drewN ?_ _ | refine blk_drew ?_ | refine blk_alloc ?_ _)); exact BK270.out⟩, ⟨by repeat (first | (with_reducible first | exact HB.out | apply below_alloc | apply pw_below_drewN | apply below_drew1 | refine below_set ?_ GE269.out | refine below_set ?_ GE270.out) | exact HB.out)⟩⟩
    case round =>
     clear H'
     try clear c1
     try clear p2
     try clear c4
     try clear c6
     try clear c6b0
     try clear c6b1
     try clear c7
     try clear c7b0
     try clear c7b1
     try clear c8
     try clear c8b0
     try clear c8b1
     try clear c8b2
     try clear c9
     try clear c9b0
     try clear c9b1
     try clear c10
     try clear c10b0
     try clear c10b1
     try clear c13
     try clear c13b0
     try clear c13b1
     try clear c14
     try clear c14b0
     try clear c14b1
     try clear c16
     try clear c17
     try clear hcz18_0
     try clear hcz18_1
     try clear hcz18_2
     try clear hcz18_3
     try clear hcz18_4
     try clear hcz18_5
     try clear hcz18_6
     try clear hcz18_7
     try clear hfz18_0
     try clear hfz18_1
     try clear hfz18_2
     try clear hfz18_3
     try clear hfz18_4
     try clear hfz18_5
     try clear hfz18_6
     try clear hfz18_7
     try clear p2
     obtain ⟨x67_2, rfl, HA, HK2, BK269, BK270, HB⟩ := hrel
     cases gk with
     | zero => exact absurd HA.out (by simp [spec_SameNode.l0])
     | succ k2 =>
      have H := HA.out
      clear HA
      simp only [spec_SameNode.l0] at H
      by_cases c19 : x67_2 < (l0_7.length : Int)
      ·rw [if_pos c19] at H
       have c19b0 : decide (x67_2 < (l0_7.length : Int)) = true := decide_eq_true c19
       clear c19
       replace H := guard_inv H
       obtain ⟨c20, H⟩ := H
       have c20b0 : decide (0 ≤ x67_2) = true := decide_eq_true c20
       clear c20
       replace H := guard_inv H
       obtain ⟨c21, H⟩ := H
       have c21b0 : decide (x67_2 < (l0_7.length : Int)) = true := decide_eq_true c21
       clear c21
       replace H := guard_inv H
       obtain ⟨c22, H⟩ := H
       have c22b0 : decide (x67_2 < (l1_7.length : Int)) = true := decide_eq_true c22
       clear c22
       replace H := Option.bind_eq_some_iff.mp H
       obtain ⟨t275, A230, H⟩ := H
       try dsimp -simprocs only at H
       have A23 := Aside0.mk A230
       clear A230
       by_cases c24 : t275 = true
       ·subst c24
        have H1 : (spec_SameNode.l0 k2 (l0_7.length : Int) (wrap64 (x67_2 + 1)) a0_0 a0_1 a0_2 a0_3 a0_4 a0_5 a0_6 l0_7 a1_0 a1_1 a1_2 a1_3 a1_4 a1_5 a1_6 l1_7) = some r := by rw [if_pos rfl] at H; exact H
        clear H
        have H := H1
        clear H1
        have H' := Aside0.mk H
        clear H
        try go_wp2
        have n0_ := Aside0.mk (blk_drew BK269.out)
        have n1_ := Aside0.mk (blk_drew BK270.out)
        have n2_ := Aside0.mk (below_drew1 HB.out)
        clear BK269
        clear BK270
        clear HB
        have BK269 := n0_
        have BK270 := n1_
        have HB := n2_
        clear n0_ n1_ n2_
        have p273 : 0 ≤ (x67_2 : Int) := of_decide_eq_true (by first | (with_reducible assumption) | assumption)
        have q273 : x67_2 < (l0_7.length : Int) := of_decide_eq_true (by first | (with_reducible assumption) | assumption)
        obtain ⟨ad273, A273_7, c273_7, e273, hx273_0, hx273_1, hx273_2, hx273_3, hx273_4, hx273_5, hx273_6, hx273_7, hl273_7, hi273_7⟩ := at_T39 HR0_7.out x67_2 p273 q273
        have hw273_7 := hx273_7
        have hw273_6 := hx273_6
        have hw273_5 := hx273_5
        have hw273_4 := hx273_4
        have hw273_3 := hx273_3
        have hw273_2 := hx273_2
        have hw273_1 := hx273_1
        have hw273_0 := hx273_0
        cases e273
        replace hx273_0 := (HB.out.cell (World.block_lt_of_cell? w _ hx273_0)).trans hx273_0
        replace hx273_1 := (HB.out.cell (World.block_lt_of_cell? w _ hx273_1)).trans hx273_1
        replace hx273_2 := (HB.out.cell (World.block_lt_of_cell? w _ hx273_2)).trans hx273_2
        replace hx273_3 := (HB.out.cell (World.block_lt_of_cell? w _ hx273_3)).trans hx273_3
        replace hx273_4 := (HB.out.cell (World.block_lt_of_cell? w _ hx273_4)).trans hx273_4
        replace hx273_5 := (HB.out.cell (World.block_lt_of_cell? w _ hx273_5)).trans hx273_5
        replace hx273_6 := (HB.out.cell (World.block_lt_of_cell? w _ hx273_6)).trans hx273_6
        replace hx273_7 := (HB.out.cell (World.block_lt_of_cell? w _ hx273_7)).trans hx273_7
        have HR273_7 := Aside0.mk hi273_7
        have HC273_7 := Aside0.mk hl273_7
        clear hi273_7 hl273_7
        replace p273 := eq_true p273
        replace q273 := eq_true q273
        have p274 : 0 ≤ (x67_2 : Int) := of_decide_eq_true (by first | (with_reducible assumption) | assumption)
        have q274 : x67_2 < (l1_7.length : Int) := of_decide_eq_true (by first | (with_reducible assumption) | assumption)
        obtain ⟨ad274, A274_7, c274_7, e274, hx274_0, hx274_1, hx274_2, hx274_3, hx274_4, hx274_5, hx274_6, hx274_7, hl274_7, hi274_7⟩ := at_T39 HR1_7.out x67_2 p274 q274
        have hw274_7 := hx274_7
        have hw274_6 := hx274_6
        have hw274_5 := hx274_5
        have hw274_4 := hx274_4
        have hw274_3 := hx274_3
        have hw274_2 := hx274_2
        have hw274_1 := hx274_1
        have hw274_0 := hx274_0
        cases e274
        replace hx274_0 := (HB.out.cell (World.block_lt_of_cell? w _ hx274_0)).trans hx274_0
        replace hx274_1 := (HB.out.cell (World.block_lt_of_cell? w _ hx274_1)).trans hx274_1
        replace hx274_2 := (HB.out.cell (World.block_lt_of_cell? w _ hx274_2)).trans hx274_2
        replace hx274_3 := (HB.out.cell (World.block_lt_of_cell? w _ hx274_3)).trans hx274_3
        replace hx274_4 := (HB.out.cell (World.block_lt_of_cell? w _ hx274_4)).trans hx274_4
        replace hx274_5 := (HB.out.cell (World.block_lt_of_cell? w _ hx274_5)).trans hx274_5
        replace hx274_6 := (HB.out.cell (World.block_lt_of_cell? w _ hx274_6)).trans hx274_6
        replace hx274_7 := (HB.out.cell (World.block_lt_of_cell? w _ hx274_7)).trans hx274_7
        have HR274_7 := Aside0.mk hi274_7
        have HC274_7 := Aside0.mk hl274_7
        clear hi274_7 hl274_7
        replace p274 := eq_true p274
        replace q274 := eq_true q274
        refine start_ (n := 12) (S := fun w' => w'.cell? ⟨gb269, 0, none⟩ = some (.string a0_0) ∧ w'.cell? ⟨gb269, 1, none⟩ = some (.int .i64 a0_1) ∧ w'.cell? ⟨gb269, 2, none⟩ = some (.bool a0_2) ∧ w'.cell? ⟨gb269, 3, none⟩ = some (.int .i64 a0_3) ∧ w'.cell? ⟨gb269, 4, none⟩ = some (.int .u64 a0_4) ∧ w'.cell? ⟨gb269, 5, none⟩ = some (.float .f64 a0_5) ∧ w'.cell? ⟨gb269, 6, none⟩ = some (.string a0_6) ∧ w'.cell? ⟨gb269, 7, none⟩ = some (.slice (some ad273) l0_7.length c0_7) ∧ w'.cell? ⟨gb270, 0, none⟩ = some (.string a1_0) ∧ w'.cell? ⟨gb270, 1, none⟩ = some (.int .i64 a1_1) ∧ w'.cell? ⟨gb270, 2, none⟩ = some (.bool a1_2) ∧ w'.cell? ⟨gb270, 3, none⟩ = some (.int .i64 a1_3) ∧ w'.cell? ⟨gb270, 4, none⟩ = some (.int .u64 a1_4) ∧ w'.cell? ⟨gb270, 5, none⟩ = some (.float .f64 a1_5) ∧ w'.cell? ⟨gb270, 6, none⟩ = some (.string a1_6) ∧ w'.cell? ⟨gb270, 7, none⟩ = some (.slice (some ad274) l1_7.length c1_7) ∧ w'.cell? (ad273.add ((x67_2).toNat * 8)) = some (.string ((rd_T39 l0_7 x67_2).f0)) ∧ w'.cell? ⟨(ad273.add ((x67_2).toNat * 8)).block, (ad273.add ((x67_2).toNat * 8)).off + 1, none⟩ = some (.int .i64 ((rd_T39 l0_7 x67_2).f1)) ∧ w'.cell? ⟨(ad273.add ((x67_2).toNat * 8)).block, (ad273.add ((x67_2).toNat * 8)).off + 2, none⟩ = some (.bool ((rd_T39 l0_7 x67_2).f2)) ∧ w'.cell? ⟨(ad273.add ((x67_2).toNat * 8)).block, (ad273.add ((x67_2).toNat * 8)).off + 3, none⟩ = some (.int .i64 ((rd_T39 l0_7 x67_2).f3)) ∧ w'.cell? ⟨(ad273.add ((x67_2).toNat * 8)).block, (ad273.add ((x67_2).toNat * 8)).off + 4, none⟩ = some (.int .u64 ((rd_T39 l0_7 x67_2).f4)) ∧ w'.cell? ⟨(ad273.add ((x67_2).toNat * 8)).block, (ad273.add ((x67_2).toNat * 8)).off + 5, none⟩ = some (.float .f64 ((rd_T39 l0_7 x67_2).f5)) ∧ w'.cell? ⟨(ad273.add ((x67_2).toNat * 8)).block, (ad273.add ((x67_2).toNat * 8)).off + 6, none⟩ = some (.string ((rd_T39 l0_7 x67_2).f6)) ∧ w'.cell? ⟨(ad273.add ((x67_2).toNat * 8)).block, (ad273.add ((x67_2).toNat * 8)).off + 7, none⟩ = some (.slice A273_7 ((rd_T39 l0_7 x67_2).f7).length c273_7) ∧ w'.cell? (ad274.add ((x67_2).toNat * 8)) = some (.string ((rd_T39 l1_7 x67_2).f0)) ∧ w'.cell? ⟨(ad274.add ((x67_2).toNat * 8)).block, (ad274.add ((x67_2).toNat * 8)).off + 1, none⟩ = some (.int .i64 ((rd_T39 l1_7 x67_2).f1)) ∧ w'.cell? ⟨(ad274.add ((x67_2).toNat * 8)).block, (ad274.add ((x67_2).toNat * 8)).off + 2, none⟩ = some (.bool ((rd_T39 l1_7 x67_2).f2)) ∧ w'.cell? ⟨(ad274.add ((x67_2).toNat * 8)).block, (ad274.add ((x67_2).toNat * 8)).off + 3, none⟩ = some (.int .i64 ((rd_T39 l1_7 x67_2).f3)) ∧ w'.cell? ⟨(ad274.add ((x67_2).toNat * 8)).block, (ad274.add ((x67_2).toNat * 8)).off + 4, none⟩ = some (.int .u64 ((rd_T39 l1_7 x67_2).f4)) ∧ w'.cell? ⟨(ad274.add ((x67_2).toNat * 8)).block, (ad274.add ((x67_2).toNat * 8)).off + 5, none⟩ = some (.float .f64 ((rd_T39 l1_7 x67_2).f5)) ∧ w'.cell? ⟨(ad274.add ((x67_2).toNat * 8)).block, (ad274.add ((x67_2).toNat * 8)).off + 6, none⟩ = some (.string ((rd_T39 l1_7 x67_2).f6)) ∧ w'.cell? ⟨(ad274.add ((x67_2).toNat * 8)).block, (ad274.add ((x67_2).toNat * 8)).off + 7, none⟩ = some (.slice A274_7 ((rd_T39 l1_7 x67_2).f7).length c274_7)) (ds := []) (bb [0, 12]) (by kernel_rfl) rfl rfl ⟨(blk_cell BK269.out 0).trans rfl, (blk_cell BK269.out 1).trans rfl, (blk_cell BK269.out 2).trans rfl, (blk_cell BK269.out 3).trans rfl, (blk_cell BK269.out 4).trans rfl, (blk_cell BK269.out 5).trans rfl, (blk_cell BK269.out 6).trans rfl, (blk_cell BK269.out 7).trans rfl, (blk_cell BK270.out 0).trans rfl, (blk_cell BK270.out 1).trans rfl, (blk_cell BK270.out 2).trans rfl, (blk_cell BK270.out 3).trans rfl, (blk_cell BK270.out 4).trans rfl, (blk_cell BK270.out 5).trans rfl, (blk_cell BK270.out 6).trans rfl, (blk_cell BK270.out 7).trans rfl, ((HB.out.cell (World.block_lt_of_cell? w _ hw273_0)).trans hw273_0), ((HB.out.cell (World.block_lt_of_cell? w _ hw273_1)).trans hw273_1), ((HB.out.cell (World.block_lt_of_cell? w _ hw273_2)).trans hw273_2), ((HB.out.cell (World.block_lt_of_cell? w _ hw273_3)).trans hw273_3), ((HB.out.cell (World.block_lt_of_cell? w _ hw273_4)).trans hw273_4), ((HB.out.cell (World.block_lt_of_cell? w _ hw273_5)).trans hw273_5), ((HB.out.cell (World.block_lt_of_cell? w _ hw273_6)).trans hw273_6), ((HB.out.cell (World.block_lt_of_cell? w _ hw273_7)).trans hw273_7), ((HB.out.cell (World.block_lt_of_cell? w _ hw274_0)).trans hw274_0), ((HB.out.cell (World.block_lt_of_cell? w _ hw274_1)).trans hw274_1), ((HB.out.cell (World.block_lt_of_cell? w _ hw274_2)).trans hw274_2), ((HB.out.cell (World.block_lt_of_cell? w _ hw274_3)).trans hw274_3), ((HB.out.cell (World.block_lt_of_cell? w _ hw274_4)).trans hw274_4), ((HB.out.cell (World.block_lt_of_cell? w _ hw274_5)).trans hw274_5), ((HB.out.cell (World.block_lt_of_cell? w _ hw274_6)).trans hw274_6), ((HB.out.cell (World.block_lt_of_cell? w _ hw274_7)).trans hw274_7)⟩ (fun hHeld => ?_); refine with_tabW spec_SameNode.tab6 spec_SameNode.bits6 (fun HT_ HW_ => ?_)
        generalize wr.drew = w25 at BK269 BK270 HB HR273_7 HR274_7 hx273_0 hx273_1 hx273_2 hx273_3 hx273_4 hx273_5 hx273_6 hx273_7 hx274_0 hx274_1 hx274_2 hx274_3 hx274_4 hx274_5 hx274_6 hx274_7 hHeld ⊢
        refine pure_ (i := 0) (N := some 70) (v := ?_) (a' := ?_) (bb [1, 11]) rfl rfl (any_of HT_.out (by kernel_rfl)) (fun _ _ _ h => h) (Or.inl ⟨by rfl, ?_⟩) ?_ ?_
        rotate_left
        ·intro w'
         go_simp
         with_reducible rfl
        rotate_left
        ·simp only [Act.put, List.setIfInBounds_toArray, List.set_cons_zero, List.set_cons_succ, i64_w, i32_w]
         rfl
        refine pure_ (i := 2) (N := some 72) (v := ?_) (a' := ?_) (bb [1, 1, 1, 9]) rfl rfl (any_of HT_.out (by kernel_rfl)) (fun _ _ _ h => h) (Or.inl ⟨by rfl, ?_⟩) ?_ ?_
        rotate_left
        ·intro w'
         go_simp
         with_reducible rfl
        rotate_left
        ·simp only [Act.put, List.setIfInBounds_toArray, List.set_cons_zero, List.set_cons_succ, i64_w, i32_w]
         rfl
        refine pure_ (i := 5) (N := some 75) (v := ?_) (a' := ?_) (bb [1, 1, 1, 2, 1, 6]) rfl rfl (any_of HT_.out (by kernel_rfl)) (fun _ _ _ h => h) (Or.inl ⟨by rfl, ?_⟩) ?_ ?_
        rotate_left
        ·intro w'
         go_simp
         with_reducible rfl
        rotate_left
        ·simp only [Act.put, List.setIfInBounds_toArray, List.set_cons_zero, List.set_cons_succ, i64_w, i32_w]
         rfl
        refine pure_ (i := 7) (N := some 77) (v := ?_) (a' := ?_) (bb [1, 1, 1, 2, 1, 1, 1, 4]) rfl rfl (any_of HT_.out (by kernel_rfl)) (fun _ _ _ h => h) (Or.inl ⟨by rfl, ?_⟩) ?_ ?_
        rotate_left
        ·intro w'
         go_simp
         with_reducible rfl
        rotate_left
        ·simp only [Act.put, List.setIfInBounds_toArray, List.set_cons_zero, List.set_cons_succ, i64_w, i32_w]
         rfl
        refine take_ (i := 1) (N := some 71) (v := ?_) (a' := ?_) (bb [3, 2, 1, 1, 1, 4]) rfl rfl (take_ofW HT_.out HW_.out (by kernel_rfl)) (fun _ _ _ h => h) (Or.inl ⟨by rfl, ?_⟩) hHeld ?_ ?_
        rotate_left
        ·rintro w' ⟨s0, s1, s2, s3, s4, s5, s6, s7, s8, s9, s10, s11, s12, s13, s14, s15, s16, s17, s18, s19, s20, s21, s22, s23, s24, s25, s26, s27, s28, s29, s30, s31⟩
         go_simp
         with_reducible rfl
        rotate_left
        ·simp only [Act.put, List.setIfInBounds_toArray, List.set_cons_zero, List.set_cons_succ, i64_w, i32_w]
         rfl
        refine pure_ (i := 3) (N := some 73) (v := ?_) (a' := ?_) (bb [4, 1, 1, 1, 1, 4]) rfl rfl (any_of HT_.out (by kernel_rfl)) (fun _ _ _ h => h) (Or.inl ⟨by rfl, ?_⟩) ?_ ?_
        rotate_left
        ·intro w'
         go_simp
         with_reducible rfl
        rotate_left
        ·simp only [Act.put, List.setIfInBounds_toArray, List.set_cons_zero, List.set_cons_succ, i64_w, i32_w]
         rfl
        refine take_ (i := 4) (N := some 74) (v := ?_) (a' := ?_) (bb [6, 1, 1, 4]) rfl rfl (take_ofW HT_.out HW_.out (by kernel_rfl)) (fun _ _ _ h => h) (Or.inl ⟨by rfl, ?_⟩) hHeld ?_ ?_
        rotate_left
        ·rintro w' ⟨s0, s1, s2, s3, s4, s5, s6, s7, s8, s9, s10, s11, s12, s13, s14, s15, s16, s17, s18, s19, s20, s21, s22, s23, s24, s25, s26, s27, s28, s29, s30, s31⟩
         go_simp
         with_reducible rfl
        rotate_left
        ·simp only [Act.put, List.setIfInBounds_toArray, List.set_cons_zero, List.set_cons_succ, i64_w, i32_w]
         rfl
        refine take_ (i := 6) (N := some 76) (v := ?_) (a' := ?_) (bb [8, 4]) rfl rfl (take_ofW HT_.out HW_.out (by kernel_rfl)) (fun _ _ _ h => h) (Or.inl ⟨by rfl, ?_⟩) hHeld ?_ ?_
        rotate_left
        ·rintro w' ⟨s0, s1, s2, s3, s4, s5, s6, s7, s8, s9, s10, s11, s12, s13, s14, s15, s16, s17, s18, s19, s20, s21, s22, s23, s24, s25, s26, s27, s28, s29, s30, s31⟩
         go_simp
         with_reducible rfl
        rotate_left
        ·simp only [Act.put, List.setIfInBounds_toArray, List.set_cons_zero, List.set_cons_succ, i64_w, i32_w]
         rfl
        refine pure_ (i := 8) (N := some 78) (v := ?_) (a' := ?_) (bb [9, 3]) rfl rfl (any_of HT_.out (by kernel_rfl)) (fun _ _ _ h => h) (Or.inl ⟨by rfl, ?_⟩) ?_ ?_
        rotate_left
        ·intro w'
         go_simp
         with_reducible rfl
        rotate_left
        ·simp only [Act.put, List.setIfInBounds_toArray, List.set_cons_zero, List.set_cons_succ, i64_w, i32_w]
         rfl
        refine take_ (i := 9) (N := some 79) (v := ?_) (a' := ?_) (bb [10, 2]) rfl rfl (take_ofW HT_.out HW_.out (by kernel_rfl)) (fun _ _ _ h => h) (Or.inl ⟨by rfl, ?_⟩) hHeld ?_ ?_
        rotate_left
        ·rintro w' ⟨s0, s1, s2, s3, s4, s5, s6, s7, s8, s9, s10, s11, s12, s13, s14, s15, s16, s17, s18, s19, s20, s21, s22, s23, s24, s25, s26, s27, s28, s29, s30, s31⟩
         go_simp
         with_reducible rfl
        rotate_left
        ·simp only [Act.put, List.setIfInBounds_toArray, List.set_cons_zero, List.set_cons_succ, i64_w, i32_w]
         rfl
        refine one_ (i := 10) (N := some 80) (bb [11, 1]) rfl rfl (one_of HT_.out (by kernel_rfl)) (by decide) (fun K hK => ?_)
        refine goes_ Tryz.func47 (by kernel_rfl) rfl #[.agg #[.string ((rd_T39 l0_7 x67_2).f0), .int .i64 ((rd_T39 l0_7 x67_2).f1), .bool ((rd_T39 l0_7 x67_2).f2), .int .i64 ((rd_T39 l0_7 x67_2).f3), .int .u64 ((rd_T39 l0_7 x67_2).f4), .float .f64 ((rd_T39 l0_7 x67_2).f5), .string ((rd_T39 l0_7 x67_2).f6), .slice A273_7 ((rd_T39 l0_7 x67_2).f7).length c273_7], .agg #[.string ((rd_T39 l1_7 x67_2).f0), .int .i64 ((rd_T39 l1_7 x67_2).f1), .bool ((rd_T39 l1_7 x67_2).f2), .int .i64 ((rd_T39 l1_7 x67_2).f3), .int .u64 ((rd_T39 l1_7 x67_2).f4), .float .f64 ((rd_T39 l1_7 x67_2).f5), .string ((rd_T39 l1_7 x67_2).f6), .slice A274_7 ((rd_T39 l1_7 x67_2).f7).length c274_7]] (by rfl) rfl rfl (by (try simp only [List.map_toArray, List.map_cons, List.map_nil]); first | done | rfl | (simp only [List.length_drop, List.length_take]; rfl)) ?_
        with_reducible refine (ih k2 (by have := HJ2.out; have := HK2.out; omega) ((rd_T39 l0_7 x67_2).f0) ((rd_T39 l0_7 x67_2).f1) ((rd_T39 l0_7 x67_2).f2) ((rd_T39 l0_7 x67_2).f3) ((rd_T39 l0_7 x67_2).f4) ((rd_T39 l0_7 x67_2).f5) ((rd_T39 l0_7 x67_2).f6) _ _ ((rd_T39 l0_7 x67_2).f7) ((rd_T39 l1_7 x67_2).f0) ((rd_T39 l1_7 x67_2).f1) ((rd_T39 l1_7 x67_2).f2) ((rd_T39 l1_7 x67_2).f3) ((rd_T39 l1_7 x67_2).f4) ((rd_T39 l1_7 x67_2).f5) ((rd_T39 l1_7 x67_2).f6) _ _ ((rd_T39 l1_7 x67_2).f7) true _ ?side1 ?side2 ?side3 ?side4 A23.out).mono ?_
        (case side1 => repeat (first | exact (Kd.C_below HR273_7.out HB.out) | (with_reducible refine Kd.C_alloc ?_ _) | (with_reducible refine Kd.C_drewN ?_ _) | (with_reducible refine Kd.C_drew ?_)))
        (case side2 => exact HC273_7.out)
        (case side3 => repeat (first | exact (Kd.C_below HR274_7.out HB.out) | (with_reducible refine Kd.C_alloc ?_ _) | (with_reducible refine Kd.C_drewN ?_ _) | (with_reducible refine Kd.C_drew ?_)))
        (case side4 => exact HC274_7.out)
        rintro e w26 ⟨rfl, hb⟩
        refine ⟨_, rfl, ?_⟩
        have n0_ := Aside0.mk (blk_below (g := gb269) (o := .cells #[.string a0_0, .int .i64 a0_1, .bool a0_2, .int .i64 a0_3, .int .u64 a0_4, .float .f64 a0_5, .string a0_6, .slice (some ad273) l0_7.length c0_7] 39 (0, 0)) (by (with_reducible repeat (first | refine blk_drewN ?_ _ | refine blk_drew ?_ | refine blk_alloc ?_ _)); exact BK269.out) hb)
        have n1_ := Aside0.mk (blk_below (g := gb270) (o := .cells #[.string a1_0, .int .i64 a1_1, .bool a1_2, .int .i64 a1_3, .int .u64 a1_4, .float .f64 a1_5, .string a1_6, .slice (some ad274) l1_7.length c1_7] 39 (0, 0)) (by (with_reducible repeat (first | refine blk_drewN ?_ _ | refine blk_drew ?_ | refine blk_alloc ?_ _)); exact BK270.out) hb)
        have n2_ := Aside0.mk (below_step (by repeat (first | (with_reducible first | exact HB.out | apply below_alloc | apply pw_below_drewN | apply below_drew1 | refine below_set ?_ GE269.out | refine below_set ?_ GE270.out) | exact HB.out)) hb)
        clear BK269
        clear BK270
        clear HB
        have BK269 := n0_
        have BK270 := n1_
        have HB := n2_
        clear n0_ n1_ n2_
        (try clear hb)
        (try clear hb2)
        (try clear hk)
        (try clear hi)
        refine hK.out _ _ ⟨(blk_cell BK269.out 0).trans rfl, (blk_cell BK269.out 1).trans rfl, (blk_cell BK269.out 2).trans rfl, (blk_cell BK269.out 3).trans rfl, (blk_cell BK269.out 4).trans rfl, (blk_cell BK269.out 5).trans rfl, (blk_cell BK269.out 6).trans rfl, (blk_cell BK269.out 7).trans rfl, (blk_cell BK270.out 0).trans rfl, (blk_cell BK270.out 1).trans rfl, (blk_cell BK270.out 2).trans rfl, (blk_cell BK270.out 3).trans rfl, (blk_cell BK270.out 4).trans rfl, (blk_cell BK270.out 5).trans rfl, (blk_cell BK270.out 6).trans rfl, (blk_cell BK270.out 7).trans rfl, ((HB.out.cell (World.block_lt_of_cell? w _ hw273_0)).trans hw273_0), ((HB.out.cell (World.block_lt_of_cell? w _ hw273_1)).trans hw273_1), ((HB.out.cell (World.block_lt_of_cell? w _ hw273_2)).trans hw273_2), ((HB.out.cell (World.block_lt_of_cell? w _ hw273_3)).trans hw273_3), ((HB.out.cell (World.block_lt_of_cell? w _ hw273_4)).trans hw273_4), ((HB.out.cell (World.block_lt_of_cell? w _ hw273_5)).trans hw273_5), ((HB.out.cell (World.block_lt_of_cell? w _ hw273_6)).trans hw273_6), ((HB.out.cell (World.block_lt_of_cell? w _ hw273_7)).trans hw273_7), ((HB.out.cell (World.block_lt_of_cell? w _ hw274_0)).trans hw274_0), ((HB.out.cell (World.block_lt_of_cell? w _ hw274_1)).trans hw274_1), ((HB.out.cell (World.block_lt_of_cell? w _ hw274_2)).trans hw274_2), ((HB.out.cell (World.block_lt_of_cell? w _ hw274_3)).trans hw274_3), ((HB.out.cell (World.block_lt_of_cell? w _ hw274_4)).trans hw274_4), ((HB.out.cell (World.block_lt_of_cell? w _ hw274_5)).trans hw274_5), ((HB.out.cell (World.block_lt_of_cell? w _ hw274_6)).trans hw274_6), ((HB.out.cell (World.block_lt_of_cell? w _ hw274_7)).trans hw274_7)⟩ (fun hHeld => ?_)
        clear hK K
        refine norm_ (a' := ?_) ?_ ?_
        rotate_left
        ·show Act.put _ (some 80) _ = _
         simp only [Act.put, List.setIfInBounds_toArray, List.set_cons_zero, List.set_cons_succ, i64_w, i32_w]
         rfl
        refine pure_ (i := 11) (N := some 81) (v := ?_) (a' := ?_) (bb [12]) rfl rfl (any_of HT_.out (by kernel_rfl)) (fun _ _ _ h => h) (Or.inl ⟨by rfl, ?_⟩) ?_ ?_
        rotate_left
        ·intro w'
         go_simp
         with_reducible rfl
        rotate_left
        ·simp only [Act.put, List.setIfInBounds_toArray, List.set_cons_zero, List.set_cons_succ, i64_w, i32_w]
         rfl
        refine done_ (done_of HT_.out (by kernel_rfl)) ?_
        try go_wp2
        go_roundg k2
        case measure => have := HJ2.out; have := HK2.out; omega
        case rel => exact ⟨(wrap64 (x67_2 + 1)), (by first | rfl | (simp; done) | (simp [*]; done)), H', ⟨by have := HJ2.out; have := HK2.out; omega⟩, ⟨by (with_reducible repeat (first | refine blk_drewN ?_ _ | refine blk_drew ?_ | refine blk_alloc ?_ _)); exact BK269.out⟩, ⟨by (with_reducible repeat (first | refine blk_drewN ?_ _ | refine blk_drew ?_ | refine blk_alloc ?_ _)); exact BK270.out⟩, ⟨by repeat (first | (with_reducible first | exact HB.out | apply below_alloc | apply pw_below_drewN | apply below_drew1 | refine below_set ?_ GE269.out | refine below_set ?_ GE270.out) | exact HB.out)⟩⟩
       ·replace c24 := Bool.eq_false_iff.mpr c24
        subst c24
        have H1 : (none) = some r := by rw [if_neg (show ¬ (false = true) by decide)] at H; exact H
        clear H
        have H := H1
        clear H1
        exact absurd H (by simp)
      ·rw [if_neg c19] at H
       have c19b0 : decide (x67_2 < (l0_7.length : Int)) = false := decide_eq_false c19
       clear c19
       obtain rfl := Option.some.inj H
       go_wp2
       go_ret
       exact ⟨by first | rfl | (simp [errW_none, errW_some] <;> rfl) | (simp [*, errW_none, errW_some] <;> rfl), by repeat (first | (with_reducible first | exact HB.out | apply below_alloc | apply pw_below_drewN | apply below_drew1 | refine below_set ?_ GE269.out | refine below_set ?_ GE270.out) | exact HB.out)⟩
end Go.Proofs.YtednjmngalmdkaaGreatDoor.GPC
end
section
/- What laws.back asks of a print, a tree and a door (BackOk); nodes of the reference in memory. Plain definitions and small laws. -/
namespace Go.Proofs.YtednjmngalmdkaaGreatDoor.GPC
open Go.RowKit Go.Proofs.YtednjmngalmdkaaGreatDoorW.PrintWords Go.Proofs.YtednjmngalmdkaaGreatDoorW.PrintLast
set_option linter.unusedVariables false
def snodeVal (n : S39) (v7 : Value) : Value := .agg #[.string n.f0, .int .i64 n.f1, .bool n.f2, .int .i64 n.f3, .int .u64 n.f4, .float .f64 n.f5, .string n.f6, v7]
def snodeCells (n : S39) (v7 : Value) : List Value := [.string n.f0, .int .i64 n.f1, .bool n.f2, .int .i64 n.f3, .int .u64 n.f4, .float .f64 n.f5, .string n.f6, v7]
theorem snode_one {n : S39} {v7 : Value} (h : ∃ A c, v7 = .slice A n.f7.length c) : ∀ q ∈ snodeCells n v7, q.oneCell' = true := by
 obtain ⟨A, c, rfl⟩ := h
 intro q hq
 simp only [snodeCells, List.mem_cons, List.not_mem_nil, or_false] at hq
 rcases hq with rfl | rfl | rfl | rfl | rfl | rfl | rfl | rfl <;> rfl
theorem snode_size : (Tryz.prog.info? 39).map (·.size) = some 8 := by kernel_rfl
theorem Kd.V_sl {α : Type} {d : Kd α} {e base : Nat} {w : World} {ok : Nat → Prop} {v : Value} {xs : List α} (h : Kd.V d e w base ok v xs) : ∃ A c, v = .slice A xs.length c := by
 obtain ⟨A, c, hv, _⟩ := h
 exact ⟨A, c, hv⟩
theorem keepS {W0 w1 w2 : World} (h : Below W0.heap.size W0 w1) (hb : Below w1.heap.size w1 w2) : Below W0.heap.size W0 w2 := below_then h h.size hb
abbrev N8 (α : Type) := ByteArray × Int × Bool × Int × Int × Nat × ByteArray × List α
inductive BackOk (print : Nat → Option (ByteArray × Int)) (tree : Nat → Option (ByteArray × Int × Bool × Int × Int × Nat × ByteArray × List S39 × Int)) (door : ByteArray → S43 → Prop) (l : List S31) : Prop
 | long (h : 1000 < l.length)
 | noPrint (h : l.length ≤ 1000) (k : Nat) (text : ByteArray) (told : Int) (hp : print k = some (text, told)) (hno : told ≠ 1 ∨ 40000 < text.size)
 | noTree (h : l.length ≤ 1000) (k : Nat) (text : ByteArray) (hp : print k = some (text, 1)) (hsz : text.size ≤ 40000) (r : N8 S39) (tt : Int) (ht : tree k = some (r.1, r.2.1, r.2.2.1, r.2.2.2.1, r.2.2.2.2.1, r.2.2.2.2.2.1, r.2.2.2.2.2.2.1, r.2.2.2.2.2.2.2, tt)) (hno : tt ≠ 1)
 | same (h : l.length ≤ 1000) (k : Nat) (text : ByteArray) (hp : print k = some (text, 1)) (hsz : text.size ≤ 40000) (r : N8 S39)
   (ht : tree k = some (r.1, r.2.1, r.2.2.1, r.2.2.2.1, r.2.2.2.2.1, r.2.2.2.2.2.1, r.2.2.2.2.2.2.1, r.2.2.2.2.2.2.2, 1)) (n : S43) (hd : door text n)
   (k2 : Nat) (m : N8 S39) (hm : laws_toNode.f k2 n.f0 n.f1 n.f2 n.f3 n.f4 n.f5 n.f6 n.f7 = some m)
   (hs : spec_SameNode.f k2 m.1 m.2.1 m.2.2.1 m.2.2.2.1 m.2.2.2.2.1 m.2.2.2.2.2.1 m.2.2.2.2.2.2.1 m.2.2.2.2.2.2.2 r.1 r.2.1 r.2.2.1 r.2.2.2.1 r.2.2.2.2.1 r.2.2.2.2.2.1 r.2.2.2.2.2.2.1 r.2.2.2.2.2.2.2 = some true)
end Go.Proofs.YtednjmngalmdkaaGreatDoor.GPC
end
section
/- A call of a function value in a region that draws; reads of floats. Plain laws of the walk. -/
namespace Go.Proofs.YtednjmngalmdkaaGreatDoor.GPC
open Go.RowKit Go.Proofs.YtednjmngalmdkaaGreatDoorW.PrintWords Go.Proofs.YtednjmngalmdkaaGreatDoorW.PrintLast
set_option linter.unusedVariables false
open Kd in
section
variable {P : Program} {ops : Array Oper} {Q : Exit → Act → World → Prop}
theorem goesV_ {oi : Oper} {N : Option Tmp} {a : Act} {w : World} {K : Act → World → Prop} {f : FuncId} {fn : Func} {asx : Array Operand} {ts : Array TypeId} {x : Operand} (hf : P.funcs[f]? = some fn) (hname : (fn.name == "runtime.NumGoroutine") = false) (hb : fn.body.isSome = true) (args : Array Value)
  (hw : Region.wanted oi (yielded ops a.tmps) = true) (hN : oi.dst = N) (hop : oi.op = .call { callee := .value x, args := asx, argTypes := ts }) (hx : a.eval x = .func (.func f) #[] #[]) (hargs : asx.map a.eval = args)
  (h : Calls P f args w fun e w' => ∃ v, e = .returned v ∧ K (a.put N v) w') : if Region.wanted oi (yielded ops a.tmps) = true then Oper.wp P oi a w K Q else K (a.put N undef) w := by
 refine call_ f args hw hN ?_ h
 have he := enters_ hf hname hb args w
 unfold execOp
 simp [hop, resolve, Deferred.ofValue, invoke, hx, hargs, he]
end
end Go.Proofs.YtednjmngalmdkaaGreatDoor.GPC
end
