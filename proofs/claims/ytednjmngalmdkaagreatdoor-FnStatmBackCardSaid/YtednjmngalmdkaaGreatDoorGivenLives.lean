/- impl.Loadavg, and laws.lives: the sanity check holds. Condition: the tables as laid. -/
import Derived.Test.YtednjmngalmdkaaGreatDoorGivenLd2
namespace Go.Proofs.YtednjmngalmdkaaGreatDoor.GPC
open Go.RowKit Go.Proofs.YtednjmngalmdkaaGreatDoorW.PrintWords Go.Proofs.YtednjmngalmdkaaGreatDoorW.PrintLast Go.Proofs.YtednjmngalmdkaaGreatDoor.PF
set_option linter.unusedVariables false
set_option linter.unusedSimpArgs false
theorem results_cell_tmp {P : Program} {fn : Func} {p q : Tmp} {ty : TypeId} (h : fn.results = #[.cell p ty, .tmp q]) (tmps : Array Value) (w : World) (g : Nat) (t : TypeId) (cs : Array Value) (fr : Nat × Nat) (d : TypeDesc)
    (hp : tmps.getD p undef = .pointer (some ⟨g, 0, none⟩)) (hg : w.heap[g]? = some (.cells cs t fr))
    (hu : P.underlying ty = some d) (hd : (match d with | .struct _ | .array _ _ => true | _ => false) = true) (hi : (P.info? ty).map (·.size) = some cs.size) :
    (results fn tmps).run P w = .ok (.tuple #[.agg cs, tmps.getD q undef]) w := by
  have hp' : tmps[p]?.getD undef = .pointer (some ⟨g, 0, none⟩) := by simpa using hp
  simp [results, h, hp', asAddr, run_loadVar_row w g t ty cs fr d hg hu hd hi]
set_option maxHeartbeats 8000000 in
set_option maxRecDepth 100000 in
theorem implLoad (text : ByteArray) (a b c : Nat) (n : S43) (w : World) (hT : TabW w) (h : loadavgF text = some (a, b, c)) (hn : loadNode a b c = some n) :
    Calls Tryz.prog 17 #[.string text] w fun e w' => ∃ v7, e = .returned (.tuple #[nodeVal n v7, .int .i64 0]) ∧ KidsV n w w' v7 ∧ Below w.heap.size w w' := by
  have hmf : ∀ (fn : Fn) (first cap : Array Value) (w : World), (Instr.makeFunc fn first cap).run Tryz.prog w = .ok (.func fn first cap) w := fun _ _ _ _ => rfl
  have HT := Aside0.mk hT
  have HL := Aside0.mk h
  have HN := Aside0.mk hn
  clear hT h hn
  go_enter Tryz.func17, Tryz.ntmps17
  go_wp2_with (first
      | ((with_reducible refine gate_dst (N := 2) rfl ?_); refine box_event ?hg (N := 2) ?hd (cs := nodeZero) (t := 43) ?hr ?_; (case hd => rfl); (case hg => rfl); (case hr => first | (go_simp; done) | (go_simp; rfl)); intro gb hgb w1 hbox hb1; have HBX := Aside0.mk hbox; have HB1 := Aside0.mk hb1; have HGB := Aside0.mk hgb; clear hgb hbox hb1)
      | (go_at_call 57; refine (procfs_TextFS.calls text text _ rfl).mono ?_; rintro e w2 ⟨rfl, hb2⟩; have HBX2 := Aside0.mk (blk_below HBX.out hb2); have HB2 := Aside0.mk (below_then HB1.out HB1.out.size hb2); clear hb2)
      | (go_at_call 56; refine (treeLoad text a b c n _ (tabW_below HT.out HB2.out) HL.out HN.out).mono ?_; rintro e w3 ⟨v7, rfl, ho, hb3⟩; have HK := Aside0.mk ho; have HBX3 := Aside0.mk (blk_below HBX2.out hb3); have HB3 := Aside0.mk (below_then HB2.out HB2.out.size hb3); have HLT := Aside0.mk (show gb < w2.heap.size from blk_lt HBX2.out); clear ho hb3)
      | ((with_reducible refine gate_ (.store 43 (.tmp 2) (.tmp 8)) rfl ?_); refine box_store rfl rfl 43 (.tmp 2) (.tmp 8) rfl gb 43 nodeZero (nodeVal n v7) (nodeCells n v7) rfl rfl rfl node_size (node_one HK.out.slice) HBX3.out rfl ?_; intro W' hbk hgr))
  refine bodyPost_ret (results_cell_tmp rfl _ _ gb 43 _ (0, 0) _ rfl hbk Tryz.underlying43 rfl node_size) rfl ?_
  refine ⟨v7, rfl, (HK.out.grown hgr HLT.out).lower HB2.out.size, pw_below_grown HB3.out (some gb) HB3.out.size hgr (fun k e => by cases e; rw [HGB.out]; exact Nat.le_refl _)⟩
def livesText : ByteArray := ⟨#[48, 46, 53, 32, 48, 46, 50, 53, 32, 48, 46, 55, 53, 32, 49, 47, 52, 57, 55, 32, 49, 49, 57, 52, 55, 10]⟩
theorem lives_loads : loadavgF livesText = some (4602678819172646912, 4598175219545276416, 4604930618986332160) := by kernel_rfl
def livesNode : S43 := ⟨⟨#[]⟩, 8, false, 0, 0, 0, ⟨#[]⟩, [⟨⟨#[76, 111, 97, 100, 49]⟩, 4, false, 0, 0, 4602678819172646912, ⟨#[]⟩, []⟩, ⟨⟨#[76, 111, 97, 100, 53]⟩, 4, false, 0, 0, 4598175219545276416, ⟨#[]⟩, []⟩, ⟨⟨#[76, 111, 97, 100, 49, 53]⟩, 4, false, 0, 0, 4604930618986332160, ⟨#[]⟩, []⟩]⟩
theorem lives_node : loadNode 4602678819172646912 4598175219545276416 4604930618986332160 = some livesNode := by rfl
theorem feq1 : FloatKind.f64.format.order 4602678819172646912 4602678819172646912 = some Ordering.eq := by kernel_rfl
theorem feq2 : FloatKind.f64.format.order 4598175219545276416 4598175219545276416 = some Ordering.eq := by kernel_rfl
theorem feq3 : FloatKind.f64.format.order 4604930618986332160 4604930618986332160 = some Ordering.eq := by kernel_rfl
theorem lives_cells {w0 w1 : World} {gk cap : Nat} (h : KidsV livesNode w0 w1 (.slice (some ⟨gk, 0, none⟩) livesNode.f7.length cap)) :
    w1.cell? ⟨gk, 5, none⟩ = some (.float .f64 4602678819172646912) ∧ w1.cell? ⟨gk, 13, none⟩ = some (.float .f64 4598175219545276416) ∧ w1.cell? ⟨gk, 21, none⟩ = some (.float .f64 4604930618986332160) := by
  have hC := (Kd.R_reads' h).2.2
  obtain ⟨a0, _, _, e0, _, _, _, _, _, h0, _⟩ := at_T43 hC 0 (by decide) (by decide)
  obtain ⟨a1, _, _, e1, _, _, _, _, _, h1, _⟩ := at_T43 hC 1 (by decide) (by decide)
  obtain ⟨a2, _, _, e2, _, _, _, _, _, h2, _⟩ := at_T43 hC 2 (by decide) (by decide)
  injection e0 with e0; injection e1 with e1; injection e2 with e2
  subst e0; subst e1; subst e2
  exact ⟨h0, h1, h2⟩
set_option maxHeartbeats 8000000 in
set_option maxRecDepth 100000 in
theorem lives_calls (w : World) (hT : TabW w) : Calls Tryz.prog 46 #[] w fun e w' => e = .returned (.bool true) ∧ Below w.heap.size w w' := by
  have HT := Aside0.mk hT
  have hf1 := feq1
  have hf2 := feq2
  have hf3 := feq3
  clear hT
  go_enter Tryz.func46, Tryz.ntmps46
  go_wp2_with (first
      | (go_at_call 17; refine (implLoad livesText _ _ _ livesNode _ HT.out lives_loads lives_node).mono ?_; rintro e w1 ⟨v7, rfl, ho, hb1⟩; obtain ⟨gk, cap, rfl, hgk1, hgk2, kcs, hkb⟩ := Kd.R_form ho (by decide); obtain ⟨k0, k1, k2⟩ := lives_cells ho; have HB1 := Aside0.mk hb1; have HKB := Aside0.mk hkb; have HK0 := Aside0.mk k0; have HK1 := Aside0.mk k1; have HK2 := Aside0.mk k2; have HGK := Aside0.mk hgk2; have hcap := Aside0.mk (Kd.R_reads' ho).2.1; clear ho hb1 hkb k0 k1 k2 hgk1 hgk2)
      | ((with_reducible refine gate_dst (N := 1) rfl ?_); refine box_event ?hg (N := 1) ?hd (cs := nodeZero) (t := 43) ?hr ?_; (case hd => rfl); (case hg => rfl); (case hr => first | (go_simp; done) | (go_simp; rfl)); intro gb hgb w2 hbox hb2; have HBX := Aside0.mk hbox; have HB2 := Aside0.mk (below_then HB1.out HB1.out.size hb2); have HGB := Aside0.mk hgb; have HKB2 := Aside0.mk (blk_below HKB.out hb2); clear hgb hbox hb2)
      | ((with_reducible refine gate_ (.store 43 (.tmp 1) (.tmp 5)) rfl ?_); refine box_store rfl rfl 43 (.tmp 1) (.tmp 5) rfl gb 43 nodeZero (nodeVal livesNode (.slice (some ⟨gk, 0, none⟩) 3 cap)) (nodeCells livesNode (.slice (some ⟨gk, 0, none⟩) 3 cap)) rfl rfl rfl node_size (node_one ⟨_, _, rfl⟩) HBX.out rfl ?_; intro W' hbk hgr; have hkb3 := blk_grown HKB2.out hgr (by have := HGK.out; have := HGB.out; intro e; injection e with e; omega); have b7 : W'.cell? ⟨gb, 7, none⟩ = some (.slice (some ⟨gk, 0, none⟩) 3 cap) := (blk_cell hbk 7).trans rfl; have q0 := (blk_cell hkb3 5).trans ((blk_cell HKB.out 5).symm.trans HK0.out); have q1 := (blk_cell hkb3 13).trans ((blk_cell HKB.out 13).symm.trans HK1.out); have q2 := (blk_cell hkb3 21).trans ((blk_cell HKB.out 21).symm.trans HK2.out); have HBW := Aside0.mk (pw_below_grown HB2.out (some gb) HB2.out.size hgr (fun k e => by cases e; rw [HGB.out]; exact HB1.out.size)); clear hbk hgr hkb3))
  go_ret
  exact ⟨by simp [hf3], HBW.out⟩
end Go.Proofs.YtednjmngalmdkaaGreatDoor.GPC
