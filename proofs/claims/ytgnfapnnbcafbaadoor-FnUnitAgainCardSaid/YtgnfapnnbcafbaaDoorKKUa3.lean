/- Texts of this claim, put together: USer, UWr, GivenUL, GULx1, GULx2, GULx3, UPl1, UPl2, GULx4. Conditions: as each one says. -/
import Derived.Test.YtgnfapnnbcafbaaDoorKKUa0
import Derived.Test.YtgnfapnnbcafbaaDoorKKUa1
import Derived.Test.YtgnfapnnbcafbaaDoorKKUa2
section
/- Serialize, its first half: the options gathered by their sections. Conditions: at most a million options, their texts of at most a million bytes. -/
namespace Go.Proofs.YtgnfapnnbcafbaaDoor.UN
open Go Go.RowKit Go.Proofs.YtgnfapnnbcafbaaDoorW.PrintWords Go.Proofs.YtgnfapnnbcafbaaDoorW Go.Proofs.YtgnfapnnbcafbaaDoorW.PrintLast Go.Proofs.YtgnfapnnbcafbaaDoor.GUL
open Go.ChangeMaps (setBlock)
set_option linter.unusedVariables false
set_option linter.unusedSimpArgs false
def GrOf (G : List Gr) (l : List O) : Prop := G.map (·.sec) = secs l ∧ ∀ g ∈ G, g.P.map (·.2) = l.filter fun o => o.s == g.sec
theorem GrOf.groups {G : List Gr} {l : List O} (h : GrOf G l) : groups l = G.map fun g => (g.sec, g.P.map (·.2)) := by
 unfold UN.groups
 rw [← h.1, List.map_map]
 refine List.map_congr_left fun g hg => ?_
 simp only [Function.comp]
 rw [h.2 g hg]
theorem GrOf.new {G : List Gr} {l : List O} (h : GrOf G l) (p : Nat × O) (v : Value) (ha : p.2.s ∉ G.map (·.sec)) : GrOf (G ++ [⟨p.2.s, v, [p]⟩]) (l ++ [p.2]) := by
 refine ⟨?_, fun g hg => ?_⟩
 ·rw [secs_snoc, List.map_append, h.1]
  unfold addS
  rw [if_neg (by rw [← h.1]; exact ha)]
  rfl
 ·rw [List.filter_append]
  rcases List.mem_append.1 hg with hg | hg
  ·have hne : (p.2.s == g.sec) = false := beq_eq_false_iff_ne.mpr fun e => ha (e ▸ List.mem_map.2 ⟨g, hg, rfl⟩)
   rw [h.2 g hg]
   simp [hne]
  ·obtain rfl := List.mem_singleton.1 hg
   have h0 : l.filter (fun o => o.s == p.2.s) = [] := by
    rw [List.filter_eq_nil_iff]
    intro o ho he
    exact ha (by rw [h.1, mem_secs]; exact ⟨o, ho, beq_iff_eq.1 he⟩)
   simp [h0]
theorem GrOf.more {G1 G2 : List Gr} {g : Gr} {l : List O} (h : GrOf (G1 ++ g :: G2) l) (p : Nat × O) (v : Value) (hs : g.sec = p.2.s) (hn : ((G1 ++ g :: G2).map (·.sec)).Nodup) : GrOf (G1 ++ ⟨g.sec, v, g.P ++ [p]⟩ :: G2) (l ++ [p.2]) := by
 rw [List.map_append, List.map_cons, List.nodup_append, List.nodup_cons] at hn
 obtain ⟨_, ⟨n2, _⟩, n3⟩ := hn
 have far : ∀ x ∈ G1 ++ g :: G2, x.sec ≠ g.sec → x.P.map (·.2) = (l ++ [p.2]).filter fun o => o.s == x.sec := fun x hx hne => by
  have : (p.2.s == x.sec) = false := beq_eq_false_iff_ne.mpr fun e => hne (by rw [hs, e])
  rw [List.filter_append, h.2 x hx]
  simp [this]
 refine ⟨?_, fun x hx => ?_⟩
 ·have e6 : (G1 ++ (⟨g.sec, v, g.P ++ [p]⟩ : Gr) :: G2).map (·.sec) = (G1 ++ g :: G2).map (·.sec) := by simp
  rw [e6, h.1, secs_snoc]
  unfold addS
  rw [if_pos (by rw [← h.1, ← hs]; simp)]
 ·rcases List.mem_append.1 hx with hx | hx
  ·exact far x (by simp [hx]) (n3 _ (List.mem_map.2 ⟨x, hx, rfl⟩) _ (by simp))
  ·rcases List.mem_cons.1 hx with rfl | hx
   ·show (g.P ++ [p]).map (·.2) = _
    rw [List.map_append, h.2 g (by simp), List.filter_append]
    simp [hs]
   ·exact far x (by simp [hx]) fun e => n2 (e ▸ List.mem_map.2 ⟨x, hx, rfl⟩)
theorem make_map (W : World) : ∃ mb W4, (Instr.makeMap 60 none).run Tryd.prog W = .ok (.map (some mb)) W4 ∧ mb = W.heap.size ∧ W4.heap[mb]? = some (.map #[] 0) ∧ Below W.heap.size W W4 :=
 ⟨W.heap.size, W.alloc (.map #[] 0), rfl, rfl, blk_new W _, below_alloc (Below.refl _ _) _⟩
theorem SSt.start {w w2 W4 : World} {bb mb : Nat} (e2 : bb = w.heap.size) (hk2 : w2.heap[bb]? = some (.cells #[.string ⟨#[]⟩] 9 (0, 0))) (hb2 : Below w.heap.size w w2) (e4 : mb = (w2.setCell ⟨bb, 0, none⟩ (.string ⟨#[]⟩)).heap.size) (hm4 : W4.heap[mb]? = some (.map #[] 0))
  (hb4 : Below (w2.setCell ⟨bb, 0, none⟩ (.string ⟨#[]⟩)).heap.size (w2.setCell ⟨bb, 0, none⟩ (.string ⟨#[]⟩)) W4) : SSt w (W4.alloc (.cells #[] 9)) bb mb (.slice (some ⟨W4.heap.size, 0, none⟩) 0 0) [] := by
 have hbs := below_set hb2 (Nat.le_of_eq e2.symm) (j := 0) (v := .string ⟨#[]⟩)
 have hbb := blk_below (blk_put hk2 0 (.string ⟨#[]⟩) rfl) hb4
 have hw4 := keepS hbs hb4
 refine ⟨below_alloc hw4 _, Nat.le_of_eq e2.symm, blk_alloc hbb _, by rw [e4]; exact hbs.size, ⟨_, blk_alloc hm4 _, #[], 0, rfl, rfl⟩, kS_empty (blk_new W4 _) hw4.size, ?_, (fun g h => by cases h), List.Pairwise.nil, List.nodup_nil⟩
 have := blk_lt hbb
 intro e
 injection e with e
 have e' : W4.heap.size = bb := e
 omega
theorem gr_split {G : List Gr} {a : Bs} (h : a ∈ G.map (·.sec)) (hn : (G.map (·.sec)).Nodup) : ∃ G1 g G2, G = G1 ++ g :: G2 ∧ g.sec = a ∧ a ∉ (G1.map fun g => (g.sec, g.v)).map (·.1) ∧ a ∉ (G2.map fun g => (g.sec, g.v)).map (·.1) := by
 obtain ⟨g, hg, rfl⟩ := List.mem_map.1 h
 obtain ⟨G1, G2, rfl⟩ := List.append_of_mem hg
 rw [List.map_append, List.map_cons, List.nodup_append, List.nodup_cons] at hn
 obtain ⟨_, ⟨n2, _⟩, n3⟩ := hn
 refine ⟨G1, g, G2, rfl, rfl, fun hm => ?_, fun hm => ?_⟩
 ·rw [List.map_map] at hm
  exact n3 _ hm _ (by simp) rfl
 ·rw [List.map_map] at hm
  exact n2 hm
theorem gr_len {G : List Gr} {l : List O} {x : Nat} (h : GrOf G l) (hl : l.length ≤ x) : G.length ≤ x ∧ ∀ g ∈ G, g.P.length ≤ x := by
 constructor
 ·have key : ∀ (l : List O), (secs l).length ≤ l.length := by
   intro l
   have k2 : ∀ (l : List O) (S : List Bs), (l.foldl (fun S o => addS S o.s) S).length ≤ S.length + l.length := by
    intro l
    induction l with
    | nil => intro S; exact Nat.le_refl _
    | cons o l ih =>
     intro S
     rw [List.foldl_cons]
     have h1 := ih (addS S o.s)
     have h2 : (addS S o.s).length ≤ S.length + 1 := by
      unfold addS
      split
      ·omega
      ·simp
     simp only [List.length_cons]
     omega
   have h9 := k2 l []
   rw [List.length_nil, Nat.zero_add] at h9
   exact h9
  have h1 := congrArg List.length h.1
  rw [List.length_map] at h1
  have := key l
  omega
 ·intro g hg
  have h1 := congrArg List.length (h.2 g hg)
  rw [List.length_map] at h1
  have := List.length_filter_le (fun o => o.s == g.sec) l
  omega
theorem mem_more {G1 G2 : List Gr} {g : Gr} {a : Bs} {v : Value} {P : List (Nat × O)} {p : Nat × O} (h : ∀ x ∈ G1 ++ g :: G2, ∀ q ∈ x.P, q ∈ P) (hp : p ∈ P) : ∀ x ∈ G1 ++ ⟨a, v, g.P ++ [p]⟩ :: G2, ∀ q ∈ x.P, q ∈ P := by
 intro x hx q hq
 rcases List.mem_append.1 hx with hx | hx
 ·exact h x (by simp [hx]) q hq
 ·rcases List.mem_cons.1 hx with rfl | hx
  ·rcases List.mem_append.1 hq with hq | hq
   ·exact h g (by simp) q hq
   ·rw [List.mem_singleton.1 hq]; exact hp
  ·exact h x (by simp [hx]) q hq
theorem mem_new {G : List Gr} {a : Bs} {v : Value} {P : List (Nat × O)} {p : Nat × O} (h : ∀ x ∈ G, ∀ q ∈ x.P, q ∈ P) (hp : p ∈ P) : ∀ x ∈ G ++ [⟨a, v, [p]⟩], ∀ q ∈ x.P, q ∈ P := by
 intro x hx q hq
 rcases List.mem_append.1 hx with hx | hx
 ·exact h x hx q hq
 ·obtain rfl := List.mem_singleton.1 hx
  rw [List.mem_singleton.1 hq]; exact hp
theorem nl_call (bb : Nat) (t : Bs) (w : World) (hb : w.heap[bb]? = some (.cells #[.string (sB t)] 9 (0, 0))) (hs : t.length ≤ 1000000) : Calls Tryd.prog 51 #[.pointer (some ⟨bb, 0, none⟩)] w (PutPost w bb (sB (t ++ [10]))) := by
 rw [← sB_add]
 exact put_newline bb (sB t) w hb (by rw [sB_size]; omega)
theorem hd_call (bb : Nat) (t a : Bs) (w : World) (hb : w.heap[bb]? = some (.cells #[.string (sB t)] 9 (0, 0))) (hs : t.length ≤ 1000000) (ha : a.length ≤ 1000000) : Calls Tryd.prog 50 #[.pointer (some ⟨bb, 0, none⟩), .string (sB a)] w (PutPost w bb (sB (((t ++ [91]) ++ a) ++ [93]))) := by
 rw [← sB_add, ← sB_add, ← sB_add]
 exact put_header bb (sB t) (sB a) w hb (by rw [sB_size]; omega) (by rw [sB_size]; omega)
theorem op_call (bb p : Nat) (t : Bs) (x : O) (w : World) (hb : w.heap[bb]? = some (.cells #[.string (sB t)] 9 (0, 0))) (hp : w.heap[p]? = some (optObj x)) (hs : t.length ≤ 1000000) (hn : x.n.length ≤ 1000000) (hv : x.v.length ≤ 1000000) : Calls Tryd.prog 52 #[.pointer (some ⟨bb, 0, none⟩), .pointer (some ⟨p, 0, none⟩)] w (PutPost w bb (sB (((t ++ x.n) ++ [61]) ++ x.v))) := by
 rw [← sB_add, ← sB_add, ← sB_add]
 exact put_option bb p (sB t) x w hb hp (by rw [sB_size]; omega) (by omega) (by omega)
theorem Put.start {w : World} {b : Nat} {t : ByteArray} (h : w.heap[b]? = some (.cells #[.string t] 9 (0, 0))) : Put w w b t := ⟨h, fun _ _ _ h => h, fun _ _ h => h⟩
def hdText (t : Bs) (a : Bs) : Bs := (((t ++ [91]) ++ a) ++ [93]) ++ [10]
theorem sec_whole (t a : Bs) (os : List O) : hdText t a ++ os.flatMap optText = t ++ secText (a, os) := by
 simp [hdText, secText]
theorem acc_le (gs : List G) : ∀ (d j : Nat), j + d = gs.length → (accText gs j).length ≤ (groupsText gs).length
 | 0, j, h => by
  obtain rfl : j = gs.length := by omega
  rw [acc_end]
  exact Nat.le_refl _
 | d + 1, j, h => by
  have h1 := acc_le gs d (j + 1) (by omega)
  rw [← acc_step gs j (by omega)] at h1
  simp only [List.length_append] at h1
  omega
theorem gr_acc {G : List Gr} {l : List O} (h : GrOf G l) (j : Nat) (hj : j < G.length) : accText (groups l) j ++ secText (G[j].sec, G[j].P.map (·.2)) ++ (if j + 1 < G.length then [10] else []) = accText (groups l) (j + 1) := by
 have e := h.groups
 have hj2 : j < (groups l).length := by rw [e, List.length_map]; exact hj
 have e2 : (groups l)[j] = (G[j].sec, G[j].P.map (·.2)) := by
  have : (groups l)[j]? = some (G[j].sec, G[j].P.map (·.2)) := by rw [e, List.getElem?_map, List.getElem?_eq_getElem hj]; rfl
  rw [List.getElem?_eq_getElem hj2] at this
  exact Option.some.inj this
 have h1 := acc_step (groups l) j hj2
 rw [e2] at h1
 rw [← h1, e, List.length_map]
theorem gr_le {G : List Gr} {l : List O} (h : GrOf G l) (j : Nat) (hj : j ≤ G.length) : (accText (groups l) j).length ≤ (groupsText (groups l)).length :=
 acc_le _ (G.length - j) j (by rw [h.groups, List.length_map]; omega)
theorem gr_at {G : List Gr} (hn : (G.map (·.sec)).Nodup) (j : Nat) (hj : j < G.length) : ∃ G1 G2, G = G1 ++ G[j] :: G2 ∧ G[j].sec ∉ (G1.map fun g => (g.sec, g.v)).map (·.1) ∧ G[j].sec ∉ (G2.map fun g => (g.sec, g.v)).map (·.1) := by
 have e : G = G.take j ++ G[j] :: G.drop (j + 1) := by
  conv => lhs; rw [← List.take_append_drop j G]
  rw [List.drop_eq_getElem_cons hj]
 rw [e, List.map_append, List.map_cons, List.nodup_append, List.nodup_cons] at hn
 obtain ⟨_, ⟨n2, _⟩, n3⟩ := hn
 refine ⟨_, _, e, fun hm => ?_, fun hm => ?_⟩
 ·rw [List.map_map] at hm
  exact n3 _ hm _ (by simp) rfl
 ·rw [List.map_map] at hm
  exact n2 hm
theorem put_row {α : Type} {d : Kd α} (hE : d.E = []) {t : TypeId} {W w2 : World} {base bb : Nat} {v : Value} {xs : List α} {s : ByteArray} (h : d.R t W base (fun _ => True) v xs) (hp : Put W w2 bb s) (hne : v.ownBlock ≠ some bb) : d.R t w2 base (fun _ => True) v xs := by
 refine row_mv hE h fun k hk => ?_
 obtain ⟨cells, hc⟩ := Kd.R_typed h k hk
 exact (hp.far k _ (fun e => hne (by rw [hk, e])) hc).trans hc.symm
theorem row_str {W : World} {base c : Nat} {A : Option Addr} {G : List Gr} (h : Kd.string.R 9 W base (fun _ => True) (.slice A G.length c) (G.map fun g => sB g.sec)) (j : Nat) (hj : j < G.length) : ∃ gr, A = some ⟨gr, 0, none⟩ ∧ W.cell? ⟨gr, j, none⟩ = some (.string (sB G[j].sec)) := by
 obtain ⟨gr, cap, hform, -⟩ := Kd.R_form h (by rw [List.length_map]; omega)
 obtain rfl : A = some ⟨gr, 0, none⟩ := by injection hform
 have hc := (Kd.R_celln (⟨#[]⟩ : ByteArray) h (j : Int) (by omega) (by omega)).1
 have he : rdOf (⟨#[]⟩ : ByteArray) (G.map fun g => sB g.sec) (j : Int) = sB G[j].sec := by
  unfold rdOf
  rw [Int.toNat_natCast, List.getD_eq_getElem?_getD, List.getElem?_map, List.getElem?_eq_getElem hj]
  rfl
 rw [he, Int.toNat_natCast] at hc
 exact ⟨gr, rfl, hc⟩
theorem kA_read {W : World} {t : TypeId} {base c : Nat} {A : Option Addr} {P : List (Nat × O)} (h : kA.R t W base (fun _ => True) (.slice A P.length c) (P.map (·.1))) (x : Nat) (hx : x < P.length) : ∃ g, A = some ⟨g, 0, none⟩ ∧ W.cell? ⟨g, x, none⟩ = some (.pointer (some ⟨P[x].1, 0, none⟩)) := by
 obtain ⟨gr, cap, hform, -⟩ := Kd.R_form h (by rw [List.length_map]; omega)
 obtain rfl : A = some ⟨gr, 0, none⟩ := by injection hform
 have hc := (Kd.R_celln (0 : Nat) h (x : Int) (by omega) (by omega)).1
 have he : rdOf (0 : Nat) (P.map (·.1)) (x : Int) = P[x].1 := by
  unfold rdOf
  rw [Int.toNat_natCast, List.getD_eq_getElem?_getD, List.getElem?_map, List.getElem?_eq_getElem hx]
  rfl
 rw [he, Int.toNat_natCast] at hc
 exact ⟨gr, rfl, hc⟩
theorem keys_ok {G1 G2 : List Gr} {g : Gr} {v : Value} (h : ∀ x ∈ G1 ++ g :: G2, x.sec.length ≤ 1000000) : ∀ p ∈ (G1.map fun g => (g.sec, g.v)) ++ (g.sec, v) :: (G2.map fun g => (g.sec, g.v)), p.1.length ≤ maxLen := by
 intro p hp
 rcases List.mem_append.1 hp with hp | hp
 ·obtain ⟨x, hx, rfl⟩ := List.mem_map.1 hp
  exact Nat.le_trans (h x (by simp [hx])) (by decide)
 ·rcases List.mem_cons.1 hp with rfl | hp
  ·exact Nat.le_trans (h g (by simp)) (by decide)
  ·obtain ⟨x, hx, rfl⟩ := List.mem_map.1 hp
   exact Nat.le_trans (h x (by simp [hx])) (by decide)
theorem take_le (os : List O) (i : Nat) : ((os.take i).flatMap optText).length ≤ (os.flatMap optText).length := by
 conv => rhs; rw [← List.take_append_drop i os, List.flatMap_append, List.length_append]
 omega
theorem infoStr : (Tryd.prog.info? 9).map (fun i => (i.zero, i.size, i.bytes)) = some (some (.string ⟨#[]⟩), 1, 16) := by kernel_rfl
set_option maxHeartbeats 16000000 in
set_option maxRecDepth 100000 in
theorem ser_call (w1 : World) (A : Option Addr) (c : Nat) (P : List (Nat × O)) (w : World) (h1 : OptRow w1 w (.slice A P.length c) P) (hl : P.length ≤ 1000000) (hb : ∀ o ∈ P.map (·.2), o.s.length ≤ 1000000 ∧ o.n.length ≤ 1000000 ∧ o.v.length ≤ 1000000)
  (ht : (groupsText (groups (P.map (·.2)))).length ≤ 1000000) :
  Calls Tryd.prog 39 #[.slice A P.length c] w fun e w' => e = .returned (.string (sB (groupsText (groups (P.map (·.2)))))) ∧ Below w.heap.size w w' := by
 have H1 := Aside0.mk h1
 have HL := Aside0.mk hl
 have HBD := Aside0.mk hb
 have HT := Aside0.mk ht
 clear h1 hl hb ht
 go_enter Tryd.func39, Tryd.ntmps39
 by_cases hp : P.length = 0
 ·have d0 : (((P.length : Int)) == 0) = true := by rw [hp]; rfl
  obtain rfl := List.length_eq_zero_iff.1 hp
  go_wp2
  go_ret
  exact ⟨rfl, below_alloc (Below.refl _ _) _⟩
 ·have d0 : (((P.length : Int)) == 0) = false := beq_eq_false_iff_ne.mpr (by omega)
  have HP0 := Aside0.mk hp
  clear hp
  go_wp2_with (first
   | ((with_reducible refine gate_dst (N := 3) rfl ?_); refine box_event ?hg (N := 3) ?hd (cs := #[.string (⟨#[]⟩ : ByteArray)]) (t := 9) ?hr ?_; (case hd => rfl); (case hg => rfl); (case hr => first | (go_simp; done) | (go_simp; rfl)); intro bb hbb w2 hk2 hb2; have E2 := Aside0.mk hbb; have HK2 := Aside0.mk hk2; have HB2 := Aside0.mk hb2; have c2 : w2.cell? ⟨bb, 0, none⟩ = some (.string (⟨#[]⟩ : ByteArray)) := (blk_cell hk2 0).trans rfl; have f2 := blk_frozen hk2 0; obtain ⟨W, hW⟩ : ∃ W, w2.setCell ⟨bb, 0, none⟩ (.string (⟨#[]⟩ : ByteArray)) = W := ⟨_, rfl⟩; have HW := Aside0.mk hW; obtain ⟨mb, W4, hmk, hmb, hm4, hb4⟩ := make_map (w2.setCell ⟨bb, 0, none⟩ (.string (⟨#[]⟩ : ByteArray))); have E4 := Aside0.mk hmb; have HM4 := Aside0.mk hm4; have HB4 := Aside0.mk hb4; clear hbb hk2 hb2 hmb hm4 hb4 hW)
   | fail)
  have HS0 := Aside0.mk (SSt.start E2.out HK2.out HB2.out E4.out HM4.out HB4.out)
  clear hmk c2 f2 HW E2 HK2 HB2 E4 HM4 HB4
  go_loopg [5, 24] (P.length + 1) (fun kq v5 v24 w' => ∃ (x : Nat) (G : List Gr), v24 = .int .i64 (x : Int) ∧ Aside0 (x ≤ P.length) ∧ Aside0 (P.length - x < kq) ∧ Aside0 (SSt w w' bb mb v5 G) ∧ Aside0 (GrOf G ((P.map (·.2)).take x)) ∧ Aside0 (∀ g ∈ G, ∀ p ∈ g.P, p ∈ P))
  case atStart => exact ⟨0, [], rfl, ⟨Nat.zero_le _⟩, ⟨by omega⟩, HS0, ⟨by simp [GrOf, secs]⟩, ⟨fun g h => by cases h⟩⟩
  case round =>
   clear HS0
   obtain ⟨x, G, rfl, HX, HKX, HS, HG, HMB⟩ := hrel
   by_cases hx : x < P.length
   ·have d1 : decide ((x : Int) < (P.length : Int)) = true := decide_eq_true (by omega)
    have d2 : decide (x < P.length) = true := decide_eq_true hx
    have p0 : ((0 : Int) ≤ (x : Int)) = True := eq_true (by omega)
    have p1 : ((x : Int) < (P.length : Int)) = True := eq_true (by omega)
    have e2 : IntKind.i64.wrap ((x : Int) + 1) = (x : Int) + 1 := by have := HL.out; rw [PrintLast.i64_w]; unfold wrap64; omega
    obtain ⟨g1, e1, r1, o1⟩ := (H1.out.below HS.out.bel).read x hx
    subst e1
    have k1 : (P.map (·.2))[x]? = some P[x].2 := by rw [List.getElem?_map, List.getElem?_eq_getElem hx]; rfl
    have htk : (P.map (·.2)).take (x + 1) = (P.map (·.2)).take x ++ [P[x].2] := by rw [List.take_add_one, k1]; rfl
    have hlens := HBD.out P[x].2 (List.mem_of_getElem? k1)
    have HPX : Aside0 ((P[x].1, P[x].2) ∈ P) := ⟨List.getElem_mem hx⟩
    generalize P[x].1 = b at r1 o1 HPX
    generalize P[x].2 = o at o1 k1 htk hlens HPX
    have c0 : wr.cell? ⟨b, 0, none⟩ = some (.string (sB o.s)) := (blk_cell o1 0).trans rfl
    have HTK := Aside0.mk htk
    have HX2 := Aside0.mk hx
    have HOL : Aside0 (o.s.length ≤ maxLen) := ⟨Nat.le_trans hlens.1 (by decide)⟩
    have HGL : Aside0 (G.length ≤ x ∧ ∀ g ∈ G, g.P.length ≤ x) := ⟨gr_len HG.out (by rw [List.length_take]; omega)⟩
    have HKS : Aside0 (∀ p ∈ G.map (fun g => (g.sec, g.v)), p.1.length ≤ maxLen) := ⟨fun p hp => by
     obtain ⟨g, hg, rfl⟩ := List.mem_map.1 hp
     have h9 : g.sec ∈ secs ((P.map (·.2)).take x) := by rw [← HG.out.1]; exact List.mem_map.2 ⟨g, hg, rfl⟩
     obtain ⟨y, hy, e9⟩ := (mem_secs _ _).1 h9
     rw [← e9]
     exact Nat.le_trans (HBD.out y (List.mem_of_mem_take hy)).1 (by decide)⟩
    obtain ⟨mo, hm, hmo⟩ := HS.out.map
    have HM := Aside0.mk hm
    have HMO := Aside0.mk hmo
    clear o1 k1 htk hlens hx hm hmo
    by_cases ha : o.s ∈ G.map (·.sec)
    ·obtain ⟨G1, g, G2, rfl, hgs, hn1, hn2⟩ := gr_split ha HS.out.nod
     rw [List.map_append, List.map_cons, hgs] at HMO HKS
     have hlk := map_look_some HM.out HMO.out HKS.out HOL.out hn1 hn2 true
     have hlk2 := map_look_some HM.out HMO.out HKS.out HOL.out hn1 hn2 false
     simp only [if_true, if_false, Bool.false_eq_true] at hlk hlk2
     have HGS := Aside0.mk hgs
     have HN1 := Aside0.mk hn1
     have HN2 := Aside0.mk hn2
     clear ha hgs hn1 hn2
     go_wp2_with (first
      | ((with_reducible refine gate_builtin (b := .append) (xs := #[.tmp 48, .tmp 50]) rfl ?_); at_builtin; refine Kd.R_append kA (w0 := w) w.heap.size rfl (.tmp 48) (.tmp 50) 42 48 (.pointer none) 8 rfl Tryd.underlying42 infoOpt rfl (by decide) (by omega) _ _ b [.pointer (some ⟨b, 0, none⟩)] (fun _ => True) (fun _ => False) rfl (by first | (go_simp; done) | (go_simp; rfl)) rfl (fun _ hk => hk.elim) (fun _ _ => trivial) (HS.out.rows g (by simp)) HS.out.bel HS.out.bel.size (by have := HGL.out.2 g (by simp); have := HL.out; have := HX2.out; rw [List.length_map]; omega) ?_; intro v9 w9 ho9 hb9 hg9 hat9; obtain ⟨o', hu, hmo'⟩ := map_upd_some (blk_grown HM.out hg9 (map_ne (HS.out.rows g (by simp)) HM.out HMO.out)) HMO.out HKS.out HOL.out HN1.out HN2.out v9; have HS9 := Aside0.mk (HS.out.more (b, o) hg9 ho9 hat9 hb9 (by rw [HGS.out]; exact hmo')); clear hmo'; clear ho9 hb9 hg9 hat9)
      | fail)
     go_roundg (gk - 1)
     case measure => have := HX.out; have := HX2.out; have := HKX.out; omega
     case rel => exact ⟨x + 1, _, by simp, ⟨by have := HX2.out; omega⟩, ⟨by have := HX2.out; have := HKX.out; omega⟩, HS9, ⟨by rw [HTK.out]; exact HG.out.more (b, o) v9 HGS.out HS.out.nod⟩, ⟨mem_more HMB.out HPX.out⟩⟩
    ·have HAN : Aside0 (o.s ∉ (G.map (fun g => (g.sec, g.v))).map (·.1)) := ⟨by rw [List.map_map]; exact ha⟩
     have hlk := map_look_none HM.out HMO.out HKS.out o.s HOL.out HAN.out true
     simp only [if_true, if_false, Bool.false_eq_true] at hlk
     have HA := Aside0.mk ha
     clear ha
     go_wp2_with (first
      | ((with_reducible refine gate_builtin (b := .append) (xs := #[.tmp 40, .tmp 42]) rfl ?_); at_builtin; refine Kd.R_append Kd.string (w0 := w) w.heap.size rfl (.tmp 40) (.tmp 42) 58 9 (.string ⟨#[]⟩) 16 rfl Tryd.underlying58 infoStr rfl (by decide) (by omega) _ _ (sB o.s) [.string (sB o.s)] (fun _ => True) (fun _ => False) rfl (by first | (go_simp; done) | (go_simp; rfl)) rfl (fun _ hk => hk.elim) (fun _ _ => trivial) HS.out.secR HS.out.bel HS.out.bel.size (by have := HGL.out; have := HL.out; have := HX2.out; rw [List.length_map]; omega) ?_; intro v6 w6 ho6 hb6 hg6 hat6; have HO6 := Aside0.mk ho6; have HB6 := Aside0.mk hb6; have HG6 := Aside0.mk hg6; have HA6 := Aside0.mk hat6; have hm6 := blk_grown HM.out hg6 (map_ne HS.out.secR HM.out HMO.out); have hlk2 := map_look_none hm6 HMO.out HKS.out o.s HOL.out HAN.out false; have HM6 := Aside0.mk hm6; clear ho6 hb6 hg6 hat6 hm6)
      | ((with_reducible refine gate_builtin (b := .append) (xs := #[.tmp 48, .tmp 50]) rfl ?_); at_builtin; refine Kd.R_append kA (w0 := w) w.heap.size rfl (.tmp 48) (.tmp 50) 42 48 (.pointer none) 8 rfl Tryd.underlying42 infoOpt rfl (by decide) (by omega) (.slice none 0 0) ([] : List Nat) b [.pointer (some ⟨b, 0, none⟩)] (fun _ => True) (fun _ => False) rfl (by first | (go_simp; done) | (go_simp; rfl)) rfl (fun _ hk => hk.elim) (fun _ _ => trivial) (Kd.R_nil _ _ _ _ _) HB6.out HB6.out.size (by simp) ?_; intro v9 w9 ho9 hb9 hg9 hat9; obtain ⟨o', hu, hmo'⟩ := map_upd_none (blk_grown HM6.out hg9 (by simp [Value.ownBlock])) HMO.out HKS.out o.s HOL.out HAN.out v9; have HS9 := Aside0.mk (HS.out.new o.s HA.out (b, o) HG6.out HO6.out HA6.out hg9 ho9 hat9 HB6.out HG6.out.size hb9 hmo'); clear hmo'; clear ho9 hb9 hg9 hat9)
      | fail)
     go_roundg (gk - 1)
     case measure => have := HX.out; have := HX2.out; have := HKX.out; omega
     case rel => exact ⟨x + 1, _, by simp, ⟨by have := HX2.out; omega⟩, ⟨by have := HX2.out; have := HKX.out; omega⟩, HS9, ⟨by rw [HTK.out]; exact HG.out.new (b, o) v9 HA.out⟩, ⟨mem_new HMB.out HPX.out⟩⟩
   ·have d1 : decide ((x : Int) < (P.length : Int)) = false := decide_eq_false (by omega)
    have d2 : decide (x < P.length) = false := decide_eq_false hx
    have hxe : x = P.length := by have := HX.out; omega
    have HG2 : Aside0 (GrOf G (P.map (·.2))) := ⟨by have h9 := HG.out; rw [hxe, ← List.length_map (f := fun x : Nat × O => x.2), List.take_length] at h9; exact h9⟩
    have HGL : Aside0 (G.length ≤ P.length ∧ ∀ g ∈ G, g.P.length ≤ P.length) := ⟨gr_len HG2.out (by rw [List.length_map]; exact Nat.le_refl _)⟩
    have HKS : Aside0 (∀ g ∈ G, g.sec.length ≤ 1000000) := ⟨fun g hg => by
     have h9 : g.sec ∈ secs (P.map (·.2)) := by rw [← HG2.out.1]; exact List.mem_map.2 ⟨g, hg, rfl⟩
     obtain ⟨y, hy, e9⟩ := (mem_secs _ _).1 h9
     rw [← e9]
     exact (HBD.out y hy).1⟩
    clear hx hxe HG HX HKX
    obtain ⟨A5, c5, e5⟩ := Kd.R_slice HS.out.secR
    rw [List.length_map] at e5
    subst e5
    have HP0 := Aside0.mk (Put.start HS.out.buf)
    go_wp2
    generalize hWL : wr = WL at *
    clear hWL
    go_loopg [55] (G.length + 1) (fun kq v55 w' => ∃ (j : Nat), v55 = .int .i64 (j : Int) ∧ Aside0 (j ≤ G.length) ∧ Aside0 (G.length - j < kq) ∧ Aside0 (Put WL w' bb (sB (accText (groups (P.map (·.2))) j))))
    case atStart => exact ⟨0, rfl, ⟨Nat.zero_le _⟩, ⟨by omega⟩, ⟨by rw [acc_zero]; exact HP0.out⟩⟩
    case round =>
     clear HP0
     obtain ⟨j, rfl, HJ, HKJ, HPT⟩ := hrel
     obtain ⟨gk1, rfl⟩ : ∃ q, gk = q + 1 := ⟨gk - 1, by have := HKJ.out; omega⟩
     by_cases hj : j < G.length
     ·have d3 : decide ((j : Int) < (G.length : Int)) = true := decide_eq_true (by omega)
      have d4 : decide (j < G.length) = true := decide_eq_true hj
      have p0 : ((0 : Int) ≤ (j : Int)) = True := eq_true (by omega)
      have p1 : ((j : Int) < (G.length : Int)) = True := eq_true (by omega)
      have e3 : IntKind.i64.wrap ((j : Int) + 1) = (j : Int) + 1 := by have := HGL.out.1; have := HL.out; rw [PrintLast.i64_w]; unfold wrap64; omega
      have e4 : IntKind.i64.wrap ((G.length : Int) - 1) = (G.length : Int) - 1 := by have := HGL.out.1; have := HL.out; rw [PrintLast.i64_w]; unfold wrap64; omega
      obtain ⟨gr, e5, r5⟩ := row_str (put_row rfl HS.out.secR HPT.out HS.out.secB) j hj
      subst e5
      obtain ⟨G1, G2, eG, n1, n2⟩ := gr_at HS.out.nod j hj
      obtain ⟨mo, hm, hmo⟩ := HS.out.map
      have hmb : mb ≠ bb := by
       rintro rfl
       obtain ⟨es, cc, rfl, _⟩ := hmo
       have := HS.out.buf.symm.trans hm
       cases this
      have hacc := gr_acc HG2.out j hj
      have hle0 := Nat.le_trans (gr_le HG2.out j (Nat.le_of_lt hj)) HT.out
      have hle1 := Nat.le_trans (gr_le HG2.out (j + 1) hj) HT.out
      have hgm : G[j] ∈ G := List.getElem_mem hj
      generalize G[j] = g at r5 eG n1 n2 hacc hgm
      have hrow := HS.out.rows g hgm
      obtain ⟨Ag, cg, eg⟩ := Kd.R_slice hrow
      rw [List.length_map] at eg
      rw [eG, List.map_append, List.map_cons, eg] at hmo
      rw [eg] at hrow
      have HKM := Aside0.mk (keys_ok (v := .slice Ag g.P.length cg) (show ∀ x ∈ G1 ++ g :: G2, x.sec.length ≤ 1000000 by rw [← eG]; exact HKS.out))
      have HOL : Aside0 (g.sec.length ≤ 1000000) := ⟨HKS.out g hgm⟩
      have HOL2 : Aside0 (g.sec.length ≤ maxLen) := ⟨Nat.le_trans HOL.out (by decide)⟩
      have HROW := Aside0.mk hrow
      have HRB := Aside0.mk (show (Value.slice Ag g.P.length cg).ownBlock ≠ some bb from fun e => Kd.R_ne hrow HS.out.buf (by decide) e.symm)
      have HM := Aside0.mk hm
      have HMO := Aside0.mk hmo
      have HMB2 := Aside0.mk hmb
      have HACC := Aside0.mk hacc
      have HLE0 := Aside0.mk hle0
      have HLE1 := Aside0.mk hle1
      have HN1 := Aside0.mk n1
      have HN2 := Aside0.mk n2
      have HGM := Aside0.mk hgm
      have HJ2 := Aside0.mk hj
      have HPN : Aside0 (g.P.length ≤ 1000000) := ⟨Nat.le_trans (HGL.out.2 g hgm) HL.out⟩
      generalize accText (groups (P.map (·.2))) j = T at HPT HACC HLE0
      clear eG n1 n2 hm hmo hmb hacc hle0 hle1 hgm hrow eg hj
      go_wp2_with (first
       | (go_at_call 50; refine (hd_call bb T g.sec _ HPT.out.txt HLE0.out HOL.out).mono ?_; rintro e w5 ⟨rfl, hp⟩; have H5 := Aside0.mk (HPT.out.trans hp); clear hp)
       | ((with_reducible refine gate_callee (f := 51) rfl ?_); refine goesL_ (some 62) rfl rfl Tryd.func51 (by kernel_rfl) rfl #[.pointer (some ⟨bb, 0, none⟩)] rfl (by (try simp only [List.map_toArray, List.map_cons, List.map_nil]); first | done | rfl) ?_; refine (nl_call bb (((T ++ [91]) ++ g.sec) ++ [93]) _ H5.out.txt (by have h9 := HLE1.out; rw [← HACC.out, ← sec_whole] at h9; simp only [hdText, List.length_append, List.length_cons, List.length_nil] at h9 ⊢; omega)).mono ?_; rintro e w6 ⟨rfl, hp⟩; refine ⟨_, rfl, ?_⟩; have H6 : Aside0 (Put WL w6 bb (sB (hdText T g.sec))) := ⟨H5.out.trans hp⟩; have hlk := map_look_some (H6.out.far mb _ HMB2.out HM.out) HMO.out HKM.out HOL2.out HN1.out HN2.out false; simp only [if_false, Bool.false_eq_true] at hlk; clear hp)
       | fail)
      clear hlk r5
      go_loopg [68] (g.P.length + 1) (fun kq v68 w' => ∃ (i : Nat), v68 = .int .i64 (i : Int) ∧ Aside0 (i ≤ g.P.length) ∧ Aside0 (g.P.length - i < kq) ∧ Aside0 (Put WL w' bb (sB (hdText T g.sec ++ ((g.P.map (·.2)).take i).flatMap optText))))
      case atStart => exact ⟨0, rfl, ⟨Nat.zero_le _⟩, ⟨by omega⟩, ⟨by rw [List.take_zero, List.flatMap_nil, List.append_nil]; exact H6.out⟩⟩
      case round =>
       clear H5 H6 HPT
       obtain ⟨i, rfl, HI, HKI, HPI⟩ := hrel
       by_cases hi : i < g.P.length
       ·have d5 : decide ((i : Int) < (g.P.length : Int)) = true := decide_eq_true (by omega)
        have d6 : decide (i < g.P.length) = true := decide_eq_true hi
        have q0 : ((0 : Int) ≤ (i : Int)) = True := eq_true (by omega)
        have q1 : ((i : Int) < (g.P.length : Int)) = True := eq_true (by omega)
        have e5 : IntKind.i64.wrap ((i : Int) + 1) = (i : Int) + 1 := by have := HPN.out; rw [PrintLast.i64_w]; unfold wrap64; omega
        obtain ⟨gq, eq, rq⟩ := kA_read (put_row rfl HROW.out HPI.out HRB.out) i hi
        subst eq
        have hmp := HMB.out g HGM.out g.P[i] (List.getElem_mem hi)
        have hob0 := blk_below (H1.out.obs _ hmp).2 HS.out.bel
        have hob := HPI.out.far _ _ (blk_ne hob0 HS.out.buf (by decide)) hob0
        have hlen := HBD.out g.P[i].2 (List.mem_map.2 ⟨_, hmp, rfl⟩)
        have k1 : (g.P.map (·.2))[i]? = some g.P[i].2 := by rw [List.getElem?_map, List.getElem?_eq_getElem hi]; rfl
        have htk : (g.P.map (·.2)).take (i + 1) = (g.P.map (·.2)).take i ++ [g.P[i].2] := by rw [List.take_add_one, k1]; rfl
        have hle : (hdText T g.sec).length + (((g.P.map (·.2)).take (i + 1)).flatMap optText).length ≤ 1000000 := by
         have h8 := take_le (g.P.map (·.2)) (i + 1)
         have h9 := HLE1.out
         rw [← HACC.out, ← sec_whole] at h9
         simp only [List.length_append] at h9
         omega
        generalize g.P[i].1 = b at rq hob
        generalize g.P[i].2 = o at hob hlen htk
        rw [htk, List.flatMap_append, List.length_append] at hle
        have HTK := Aside0.mk htk
        have HOB := Aside0.mk hob
        have HLEN := Aside0.mk hlen
        have HLE : Aside0 ((hdText T g.sec).length + (((g.P.map (·.2)).take i).flatMap optText).length + (o.n.length + 1 + o.v.length + 1) ≤ 1000000) := ⟨by simp [optText] at hle ⊢; omega⟩
        have HI2 := Aside0.mk hi
        clear hi hmp hob0 hob hlen k1 htk hle
        obtain ⟨Y, hY⟩ : ∃ Y, ((g.P.map (·.2)).take i).flatMap optText = Y := ⟨_, rfl⟩
        rw [hY] at HPI HLE
        have HY := Aside0.mk hY
        clear hY
        go_wp2_with (first
         | (go_at_call 52; refine (op_call bb b (hdText T g.sec ++ Y) o _ HPI.out.txt HOB.out (by have := HLE.out; rw [List.length_append]; omega) HLEN.out.2.1 HLEN.out.2.2).mono ?_; rintro e w7 ⟨rfl, hp⟩; have H7 := Aside0.mk (HPI.out.trans hp); clear hp)
         | ((with_reducible refine gate_callee (f := 51) rfl ?_); refine goesL_ (some 74) rfl rfl Tryd.func51 (by kernel_rfl) rfl #[.pointer (some ⟨bb, 0, none⟩)] rfl (by (try simp only [List.map_toArray, List.map_cons, List.map_nil]); first | done | rfl) ?_; refine (nl_call bb ((((hdText T g.sec ++ Y) ++ o.n) ++ [61]) ++ o.v) _ H7.out.txt (by have := HLE.out; simp only [List.length_append, List.length_cons, List.length_nil]; omega)).mono ?_; rintro e w8 ⟨rfl, hp⟩; refine ⟨_, rfl, ?_⟩; have H8 := Aside0.mk (H7.out.trans hp); clear hp)
         | fail)
        go_roundg (gk - 1)
        case measure => have := HKI.out; have := HI2.out; omega
        case rel =>
         refine ⟨i + 1, by simp, ⟨by have := HI2.out; omega⟩, ⟨by have := HI2.out; have := HKI.out; omega⟩, ⟨?_⟩⟩
         have h9 : hdText T g.sec ++ ((g.P.map (·.2)).take (i + 1)).flatMap optText = ((((hdText T g.sec ++ Y) ++ o.n) ++ [61]) ++ o.v) ++ [10] := by
          rw [HTK.out, List.flatMap_append, HY.out]
          simp [optText]
         rw [h9]
         exact H8.out
       ·have d5 : decide ((i : Int) < (g.P.length : Int)) = false := decide_eq_false (by omega)
        have d6 : decide (i < g.P.length) = false := decide_eq_false hi
        have hie : i = g.P.length := by have := HI.out; omega
        have HPE : Aside0 (Put WL wr bb (sB (T ++ secText (g.sec, g.P.map (·.2))))) := ⟨by
         have h9 := HPI.out
         rw [hie, List.take_of_length_le (by rw [List.length_map]; exact Nat.le_refl _), sec_whole] at h9
         exact h9⟩
        clear hi hie HPI HI HKI
        by_cases hl : j + 1 < G.length
        ·have d7 : decide ((j : Int) < (G.length : Int) - 1) = true := decide_eq_true (by omega)
         have HJ3 := Aside0.mk hl
         clear hl
         go_wp2_with (first
          | ((with_reducible refine gate_callee (f := 51) rfl ?_); refine goesL_ (some 81) rfl rfl Tryd.func51 (by kernel_rfl) rfl #[.pointer (some ⟨bb, 0, none⟩)] rfl (by (try simp only [List.map_toArray, List.map_cons, List.map_nil]); first | done | rfl) ?_; refine (nl_call bb (T ++ secText (g.sec, g.P.map (·.2))) _ HPE.out.txt (by have h9 := HLE1.out; rw [← HACC.out] at h9; simp only [List.length_append] at h9 ⊢; omega)).mono ?_; rintro e w9 ⟨rfl, hp⟩; refine ⟨_, rfl, ?_⟩; have H9 := Aside0.mk (HPE.out.trans hp); clear hp)
          | fail)
         go_roundg gk1
         case measure => omega
         case rel =>
          refine ⟨j + 1, by simp, ⟨by have := HJ2.out; omega⟩, ⟨by have := HKJ.out; have := HJ2.out; omega⟩, ⟨?_⟩⟩
          rw [← HACC.out, if_pos HJ3.out]
          exact H9.out
        ·have d7 : decide ((j : Int) < (G.length : Int) - 1) = false := decide_eq_false (by omega)
         have HJ3 := Aside0.mk hl
         clear hl
         go_wp2
         go_roundg gk1
         case measure => omega
         case rel =>
          refine ⟨j + 1, by simp, ⟨by have := HJ2.out; omega⟩, ⟨by have := HKJ.out; have := HJ2.out; omega⟩, ⟨?_⟩⟩
          rw [← HACC.out, if_neg HJ3.out, List.append_nil]
          exact HPE.out
     ·have d3 : decide ((j : Int) < (G.length : Int)) = false := decide_eq_false (by omega)
      have d4 : decide (j < G.length) = false := decide_eq_false hj
      have hje : j = (groups (P.map (·.2))).length := by have := HJ.out; rw [HG2.out.groups, List.length_map]; omega
      rw [hje, acc_end] at HPT
      have c9 : wr.cell? ⟨bb, 0, none⟩ = some (.string (sB (groupsText (groups (P.map (·.2)))))) := (blk_cell HPT.out.txt 0).trans rfl
      clear hj hje
      go_wp2
      go_ret
      exact ⟨rfl, HPT.out.bel w HS.out.bufG HS.out.bel⟩
end Go.Proofs.YtgnfapnnbcafbaaDoor.UN
end
section
/- impl.UnitWrite. Conditions: at most a million options, their texts and the whole text of at most a million bytes. -/
namespace Go.Proofs.YtgnfapnnbcafbaaDoor.UN
open Go Go.RowKit Go.Proofs.YtgnfapnnbcafbaaDoorW.PrintWords Go.Proofs.YtgnfapnnbcafbaaDoorW Go.Proofs.YtgnfapnnbcafbaaDoorW.PrintLast Go.Proofs.YtgnfapnnbcafbaaDoor.GUL
set_option linter.unusedVariables false
set_option linter.unusedSimpArgs false
set_option maxHeartbeats 4000000 in
set_option maxRecDepth 100000 in
theorem write_call (A : Option Addr) (c : Nat) (l : List S30) (w : World) (hC : Kd.C k30 w A l.length l) (hl : l.length ≤ 1000000) (hb : ∀ o ∈ l.map toO, o.s.length ≤ 1000000 ∧ o.n.length ≤ 1000000 ∧ o.v.length ≤ 1000000) (ht : (groupsText (groups (l.map toO))).length ≤ 1000000) :
  Calls Tryd.prog 23 #[.slice A l.length c] w fun e w' => e = .returned (.string (sB (groupsText (groups (l.map toO))))) ∧ Below w.heap.size w w' := by
 have H1 := Aside0.mk (options_call A c l w hC hl)
 have HL := Aside0.mk hl
 have HBD := Aside0.mk hb
 have HT := Aside0.mk ht
 clear hC hl hb ht
 go_enter Tryd.func23, Tryd.ntmps23
 go_wp2_with (first
  | (go_at_call 35; refine H1.out.mono ?_; rintro e w4 ⟨v, P, rfl, hO, hP, hb⟩; obtain ⟨A3, c3, e3⟩ := Kd.R_slice hO.row; rw [List.length_map] at e3; subst e3; have HO := Aside0.mk hO; have HP := Aside0.mk hP; have HB := Aside0.mk hb; clear hO hP hb)
  | (go_at_call 39; refine (ser_call w A3 c3 P _ HO.out (by have h9 := congrArg List.length HP.out; rw [List.length_map, List.length_map] at h9; have := HL.out; omega) (by rw [HP.out]; exact HBD.out) (by rw [HP.out]; exact HT.out)).mono ?_; rintro e w6 ⟨rfl, hb⟩; have HB3 := Aside0.mk hb; clear hb)
  | fail)
 go_ret
 exact ⟨by rw [HP.out]; rfl, keepS HB.out HB3.out⟩
end Go.Proofs.YtgnfapnnbcafbaaDoor.UN
end
section
/- impl.UnitRead, impl.UnitWrite, impl.UnitSame in the print's form. Conditions: ASCII texts of at most a million bytes; lists of at most a million options. -/
namespace Go.Proofs.YtgnfapnnbcafbaaDoor.GUL
open Go Go.RowKit Go.Proofs.YtgnfapnnbcafbaaDoorW.PrintWords Go.Proofs.YtgnfapnnbcafbaaDoorW Go.Proofs.YtgnfapnnbcafbaaDoorW.PrintLast Go.Proofs.YtgnfapnnbcafbaaDoor.UN
set_option linter.unusedVariables false
def TabW (w : World) : Prop := UTab w
theorem tabW_below {w w1 : World} (h : TabW w) (hb : Below w.heap.size w w1) : TabW w1 := utab_below h hb
def impl_UnitRead.f (a : ByteArray) : Option (List S30 × Int) := if a.size ≤ 1000000 ∧ ascii a.data.toList = true then (runF (mu .ns a.data.toList + 1) .ns a.data.toList []).map (fun r => (listOf r.1 r.2, codeOf r.1 r.2)) else none
set_option maxRecDepth 100000 in
theorem impl_UnitRead.calls (a : ByteArray) (t0 : List S30) (t1 : Int) (w : World) (hT : TabW w) (h : impl_UnitRead.f a = some (t0, t1)) :
  Calls Tryd.prog 21 #[.string a] w fun e w' => ∃ v, e = .returned (.tuple #[v, .int .i64 t1]) ∧ Kd.R k30 30 w' w.heap.size (fun _ => True) v t0 ∧ Below w.heap.size w w' := by
 unfold impl_UnitRead.f at h
 split at h
 ·rename_i hc
  obtain ⟨r, hr, he⟩ := Option.map_eq_some_iff.1 h
  have hl : a.data.toList.length = a.size := by rw [Array.length_toList]; rfl
  refine (read_call _ a _ w hT (runeC_ascii a hc.2) hc.1 (Wp_mono trimC_ascii (fun _ _ h => h) (run_wp hr)) (by unfold mu wt; rw [hl]; omega)).mono ?_
  rintro e w' ⟨er, ds, hq, v, rfl, hR, hB⟩
  obtain rfl : (er, ds) = r := hq
  injection he with h0 h1
  subst h0 h1
  exact ⟨v, rfl, hR, hB⟩
 ·cases h
def impl_UnitWrite.f (l : List S30) : Option ByteArray := if l.length ≤ 1000000 ∧ (∀ o ∈ l.map toO, o.s.length ≤ 1000000 ∧ o.n.length ≤ 1000000 ∧ o.v.length ≤ 1000000) ∧ (groupsText (groups (l.map toO))).length ≤ 1000000 then some (sB (groupsText (groups (l.map toO)))) else none
theorem impl_UnitWrite.calls (A : Option Addr) (c : Nat) (l : List S30) (r : ByteArray) (w : World) (hC : Kd.C k30 w A l.length l) (hc : l.length ≤ c) (h : impl_UnitWrite.f l = some r) :
  Calls Tryd.prog 23 #[.slice A l.length c] w fun e w' => e = .returned (.string r) ∧ Below w.heap.size w w' := by
 unfold impl_UnitWrite.f at h
 split at h
 ·rename_i hh
  obtain rfl := Option.some.inj h
  exact write_call A c l w hC hh.1 hh.2.1 hh.2.2
 ·cases h
end Go.Proofs.YtgnfapnnbcafbaaDoor.GUL
end
section
namespace Go.Proofs.YtgnfapnnbcafbaaDoor.GUL
open Go.RowKit Go.Proofs.YtgnfapnnbcafbaaDoorW.PrintWords Go.Proofs.YtgnfapnnbcafbaaDoorW.PrintLast Go.Proofs.YtgnfapnnbcafbaaDoorW.PrintMore
attribute [local go_sem] max2_int min2_int max_two min_two max_three min_three max_four min_four   -- for this text's walks alone
set_option linter.unusedVariables false
set_option linter.unusedSimpArgs false
theorem eqA30 (d : Nat) (w : World) (x0 y0 : ByteArray) (x1 y1 : ByteArray) (x2 y2 : ByteArray) :
  (Op.equalIn (d + 2) 30 (.agg #[.string x0, .string x1, .string x2]) (.agg #[.string y0, .string y1, .string y2])).run Tryd.prog w = .ok (x0.toList == y0.toList && (x1.toList == y1.toList && (x2.toList == y2.toList))) w := by
 refine eqA_of Tryd.underlying30 (by kernel_rfl) ?_
 refine eqf_cons (by rfl) (by go_simp; rfl) (by go_simp; rfl) (by go_simp) ?_
 refine eqf_cons (by rfl) (by go_simp; rfl) (by go_simp; rfl) (by go_simp) ?_
 exact eqf_last (by rfl) (by go_simp; rfl) (by go_simp; rfl) (by go_simp)
end Go.Proofs.YtgnfapnnbcafbaaDoor.GUL
end
section
namespace Go.Proofs.YtgnfapnnbcafbaaDoor.GUL
open Go.RowKit Go.Proofs.YtgnfapnnbcafbaaDoorW.PrintWords Go.Proofs.YtgnfapnnbcafbaaDoorW.PrintLast Go.Proofs.YtgnfapnnbcafbaaDoorW.PrintMore
attribute [local go_sem] max2_int min2_int max_two min_two max_three min_three max_four min_four   -- for this text's walks alone
set_option linter.unusedVariables false
set_option linter.unusedSimpArgs false

attribute [local go_sem high] eqA30
/-! ### laws_reads: function 19 -/
def laws_reads.f  : Option (Bool) := (impl_UnitRead.f (⟨#[91, 85, 110, 105, 116, 93, 10, 65, 102, 116, 101, 114, 61, 97, 46, 116, 97, 114, 103, 101, 116, 10]⟩ : ByteArray)).bind fun bt105 => (if bt105.2 = 0 then (if (bt105.1.length : Int) = 1 then (if 0 < (bt105.1.length : Int) then (some ((((rd_T30 bt105.1 0).f0).toList) == ([85, 110, 105, 116] : List UInt8) && ((((rd_T30 bt105.1 0).f1).toList) == ([65, 102, 116, 101, 114] : List UInt8) && ((((rd_T30 bt105.1 0).f2).toList) == ([97, 46, 116, 97, 114, 103, 101, 116] : List UInt8))))) else (none)) else (some false)) else (some false))
set_option maxHeartbeats 8000000 in
set_option maxRecDepth 100000 in
theorem laws_reads.calls  (r : Bool) (w : World) (hT_ : TabW w) (h : laws_reads.f  = some r) :
  Calls Tryd.prog 19 #[] w fun e w' => e = .returned (.bool r) ∧ Below w.heap.size w w' := by
 have hu30 := Tryd.underlying30
 have HTAB := Aside0.mk hT_
 clear hT_
 have HB := Aside0.mk (Below.refl w.heap.size w)
 have H : ((impl_UnitRead.f (⟨#[91, 85, 110, 105, 116, 93, 10, 65, 102, 116, 101, 114, 61, 97, 46, 116, 97, 114, 103, 101, 116, 10]⟩ : ByteArray)).bind fun bt105 => (if bt105.2 = 0 then (if (bt105.1.length : Int) = 1 then (if 0 < (bt105.1.length : Int) then (some ((((rd_T30 bt105.1 0).f0).toList) == ([85, 110, 105, 116] : List UInt8) && ((((rd_T30 bt105.1 0).f1).toList) == ([65, 102, 116, 101, 114] : List UInt8) && ((((rd_T30 bt105.1 0).f2).toList) == ([97, 46, 116, 97, 114, 103, 101, 116] : List UInt8))))) else (none)) else (some false)) else (some false))) = some r := h
 clear h
 replace H := Option.bind_eq_some_iff.mp H
 obtain ⟨⟨t105, t106⟩, A10, H⟩ := H
 replace H : (if t106 = 0 then (if (t105.length : Int) = 1 then (if 0 < (t105.length : Int) then (some ((((rd_T30 t105 0).f0).toList) == ([85, 110, 105, 116] : List UInt8) && ((((rd_T30 t105 0).f1).toList) == ([65, 102, 116, 101, 114] : List UInt8) && ((((rd_T30 t105 0).f2).toList) == ([97, 46, 116, 97, 114, 103, 101, 116] : List UInt8))))) else (none)) else (some false)) else (some false)) = some r := H
 have A1 := Aside0.mk A10
 clear A10
 by_cases c2 : t106 = 0
 ·rw [if_pos c2] at H
  have c2b0 : (t106 == 0) = true := beq_iff_eq.mpr c2
  have c2b1 : (t106 != 0) = false := bne_eq_false_iff_eq.mpr c2
  clear c2
  by_cases c3 : (t105.length : Int) = 1
  ·rw [if_pos c3] at H
   have c3b0 : ((t105.length : Int) == 1) = true := beq_iff_eq.mpr c3
   have c3b1 : ((t105.length : Int) != 1) = false := bne_eq_false_iff_eq.mpr c3
   clear c3
   by_cases c4 : 0 < (t105.length : Int)
   ·rw [if_pos c4] at H
    have c4b0 : decide (0 < (t105.length : Int)) = true := decide_eq_true c4
    have c4b1 : decide (0 < t105.length) = true := decide_eq_true (by omega)
    clear c4
    obtain rfl := Option.some.inj H
    go_enter Tryd.func19, Tryd.ntmps19
    go_wp2_with (first | ((with_reducible refine gate_callee (f := 21) rfl ?_); refine goesL_ (some 4) rfl rfl Tryd.func21 (by kernel_rfl) rfl #[.string (⟨#[91, 85, 110, 105, 116, 93, 10, 65, 102, 116, 101, 114, 61, 97, 46, 116, 97, 114, 103, 101, 116, 10]⟩ : ByteArray)] rfl (by (try simp only [List.map_toArray, List.map_cons, List.map_nil]); first | done | rfl | (simp only [List.length_drop, List.length_take]; rfl)) ?_; (with_reducible refine (impl_UnitRead.calls (⟨#[91, 85, 110, 105, 116, 93, 10, 65, 102, 116, 101, 114, 61, 97, 46, 116, 97, 114, 103, 101, 116, 10]⟩ : ByteArray) t105 t106 _ ?side1 A1.out).mono ?_); (case side1 => exact tabW_below HTAB.out (by repeat (first | (with_reducible first | exact HB.out | apply below_alloc | apply pw_below_drewN | apply below_drew1) | exact HB.out))); rintro e w5 ⟨v107, rfl, ho0, hb⟩; refine ⟨_, rfl, ?_⟩; have n0_ := Aside0.mk (Kd.R_lower ho0 (below_size (by repeat (first | (with_reducible first | exact HB.out | apply below_alloc | apply pw_below_drewN | apply below_drew1) | exact HB.out)))); have n1_ := Aside0.mk (below_step (by repeat (first | (with_reducible first | exact HB.out | apply below_alloc | apply pw_below_drewN | apply below_drew1) | exact HB.out)) hb); clear HB; have HO108 := n0_; have HB := n1_; clear n0_ n1_; (try clear hb); (try clear hb2); (try clear hk); (try clear hi); (try clear ho0); obtain ⟨Ao6, co6, eo6⟩ := Kd.R_slice HO108.out; subst eo6; have p109 : 0 ≤ (0 : Int) := (by omega); have q109 : 0 < (t105.length : Int) := of_decide_eq_true (by first | (with_reducible assumption) | assumption); obtain ⟨ad109, e109, hx109_0, hx109_1, hx109_2⟩ := at_T30 (Kd.R_reads' HO108.out).2.2 0 p109 q109; cases e109; have qi109 : (0 < t105.length) = True := eq_true (by omega); (try rw [show ((0 : Int)).toNat = 0 from rfl] at hx109_0); (try rw [show 0 * 3 = 0 from rfl] at hx109_0); (try rw [Addr.add_zero'] at hx109_0); (try rw [show ((0 : Int)).toNat = 0 from rfl] at hx109_1); (try rw [show 0 * 3 = 0 from rfl] at hx109_1); (try rw [Addr.add_zero'] at hx109_1); (try rw [show ((0 : Int)).toNat = 0 from rfl] at hx109_2); (try rw [show 0 * 3 = 0 from rfl] at hx109_2); (try rw [Addr.add_zero'] at hx109_2); replace p109 := eq_true p109; replace q109 := eq_true q109))
    go_ret
    exact ⟨by first | rfl | (simp [errW_none, errW_some] <;> rfl) | (simp [*, errW_none, errW_some] <;> rfl), by repeat (first | (with_reducible first | exact HB.out | apply below_alloc | apply pw_below_drewN | apply below_drew1) | exact HB.out)⟩
   ·rw [if_neg c4] at H
    exact absurd H (by simp)
  ·rw [if_neg c3] at H
   have c3b0 : ((t105.length : Int) == 1) = false := beq_eq_false_iff_ne.mpr c3
   have c3b1 : ((t105.length : Int) != 1) = true := bne_iff_ne.mpr c3
   obtain rfl := Option.some.inj H
   go_enter Tryd.func19, Tryd.ntmps19
   go_wp2_with (first | ((with_reducible refine gate_callee (f := 21) rfl ?_); refine goesL_ (some 4) rfl rfl Tryd.func21 (by kernel_rfl) rfl #[.string (⟨#[91, 85, 110, 105, 116, 93, 10, 65, 102, 116, 101, 114, 61, 97, 46, 116, 97, 114, 103, 101, 116, 10]⟩ : ByteArray)] rfl (by (try simp only [List.map_toArray, List.map_cons, List.map_nil]); first | done | rfl | (simp only [List.length_drop, List.length_take]; rfl)) ?_; (with_reducible refine (impl_UnitRead.calls (⟨#[91, 85, 110, 105, 116, 93, 10, 65, 102, 116, 101, 114, 61, 97, 46, 116, 97, 114, 103, 101, 116, 10]⟩ : ByteArray) t105 t106 _ ?side1 A1.out).mono ?_); (case side1 => exact tabW_below HTAB.out (by repeat (first | (with_reducible first | exact HB.out | apply below_alloc | apply pw_below_drewN | apply below_drew1) | exact HB.out))); rintro e w7 ⟨v107, rfl, ho0, hb⟩; refine ⟨_, rfl, ?_⟩; have n0_ := Aside0.mk (Kd.R_lower ho0 (below_size (by repeat (first | (with_reducible first | exact HB.out | apply below_alloc | apply pw_below_drewN | apply below_drew1) | exact HB.out)))); have n1_ := Aside0.mk (below_step (by repeat (first | (with_reducible first | exact HB.out | apply below_alloc | apply pw_below_drewN | apply below_drew1) | exact HB.out)) hb); clear HB; have HO108 := n0_; have HB := n1_; clear n0_ n1_; (try clear hb); (try clear hb2); (try clear hk); (try clear hi); (try clear ho0); obtain ⟨Ao8, co8, eo8⟩ := Kd.R_slice HO108.out; subst eo8))
   go_ret
   exact ⟨by first | rfl | (simp [errW_none, errW_some] <;> rfl) | (simp [*, errW_none, errW_some] <;> rfl), by repeat (first | (with_reducible first | exact HB.out | apply below_alloc | apply pw_below_drewN | apply below_drew1) | exact HB.out)⟩
 ·rw [if_neg c2] at H
  have c2b0 : (t106 == 0) = false := beq_eq_false_iff_ne.mpr c2
  have c2b1 : (t106 != 0) = true := bne_iff_ne.mpr c2
  obtain rfl := Option.some.inj H
  go_enter Tryd.func19, Tryd.ntmps19
  go_wp2_with (first | ((with_reducible refine gate_callee (f := 21) rfl ?_); refine goesL_ (some 4) rfl rfl Tryd.func21 (by kernel_rfl) rfl #[.string (⟨#[91, 85, 110, 105, 116, 93, 10, 65, 102, 116, 101, 114, 61, 97, 46, 116, 97, 114, 103, 101, 116, 10]⟩ : ByteArray)] rfl (by (try simp only [List.map_toArray, List.map_cons, List.map_nil]); first | done | rfl | (simp only [List.length_drop, List.length_take]; rfl)) ?_; (with_reducible refine (impl_UnitRead.calls (⟨#[91, 85, 110, 105, 116, 93, 10, 65, 102, 116, 101, 114, 61, 97, 46, 116, 97, 114, 103, 101, 116, 10]⟩ : ByteArray) t105 t106 _ ?side1 A1.out).mono ?_); (case side1 => exact tabW_below HTAB.out (by repeat (first | (with_reducible first | exact HB.out | apply below_alloc | apply pw_below_drewN | apply below_drew1) | exact HB.out))); rintro e w9 ⟨v107, rfl, ho0, hb⟩; refine ⟨_, rfl, ?_⟩; have n0_ := Aside0.mk (Kd.R_lower ho0 (below_size (by repeat (first | (with_reducible first | exact HB.out | apply below_alloc | apply pw_below_drewN | apply below_drew1) | exact HB.out)))); have n1_ := Aside0.mk (below_step (by repeat (first | (with_reducible first | exact HB.out | apply below_alloc | apply pw_below_drewN | apply below_drew1) | exact HB.out)) hb); clear HB; have HO108 := n0_; have HB := n1_; clear n0_ n1_; (try clear hb); (try clear hb2); (try clear hk); (try clear hi); (try clear ho0)))
  go_ret
  exact ⟨by first | rfl | (simp [errW_none, errW_some] <;> rfl) | (simp [*, errW_none, errW_some] <;> rfl), by repeat (first | (with_reducible first | exact HB.out | apply below_alloc | apply pw_below_drewN | apply below_drew1) | exact HB.out)⟩
/-! ### laws_sameOptions: function 20 -/
def laws_sameOptions.l0 : Nat → List (S30) → List (S30) → Int → Int → Option (Bool)
 | 0, _, _, _, _ => none
 | k + 1, x0, x1, x12, x13 => if x13 < x12 then (if 0 ≤ x13 then (if x13 < (x0.length : Int) then (if x13 < (x1.length : Int) then (if (!((((rd_T30 x0 x13).f0).toList) == (((rd_T30 x1 x13).f0).toList)) || (!((((rd_T30 x0 x13).f1).toList) == (((rd_T30 x1 x13).f1).toList)) || (!((((rd_T30 x0 x13).f2).toList) == (((rd_T30 x1 x13).f2).toList))))) = true then (some false) else (laws_sameOptions.l0 k x0 x1 x12 (wrap64 (x13 + 1)))) else (none)) else (none)) else (none)) else (some true)
def laws_sameOptions.f (k : Nat) (l0 : List (S30)) (l1 : List (S30)) : Option (Bool) := if (l0.length : Int) = (l1.length : Int) then (laws_sameOptions.l0 k l0 l1 (l0.length : Int) 0) else (some false)
theorem laws_sameOptions.mono_l : ∀ k, (∀ y0 y1 y2 y3, LeO (laws_sameOptions.l0 k y0 y1 y2 y3) (laws_sameOptions.l0 (k + 1) y0 y1 y2 y3))
 | 0 => fun _ _ _ _ r h => by simp [laws_sameOptions.l0] at h
 | k + 1 => by
  have ih0 := laws_sameOptions.mono_l k
  ·intro y0 y1 y2 y3
   unfold laws_sameOptions.l0
   repeat' first
   | (with_reducible exact ih0 _ _ _ _)
   | (with_reducible exact LeO.refl _)
   | (with_reducible exact LeO.none _)
   | (with_reducible refine LeO.ite ?_ ?_)
   | (with_reducible refine LeO.bind ?_ (fun _ => ?_))
   | exact ih0 _ _ _ _
   | exact LeO.none _
   | refine LeO.ite ?_ ?_
   | refine LeO.bind ?_ (fun _ => ?_)
theorem laws_sameOptions.mono : ∀ a0 a1 k, LeO (laws_sameOptions.f k a0 a1) (laws_sameOptions.f (k + 1) a0 a1) := by
 intro a0 a1 k
 have ih0 := laws_sameOptions.mono_l k
 unfold laws_sameOptions.f
 repeat' first
   | (with_reducible exact ih0 _ _ _ _)
   | (with_reducible exact LeO.refl _)
   | (with_reducible exact LeO.none _)
   | (with_reducible refine LeO.ite ?_ ?_)
   | (with_reducible refine LeO.bind ?_ (fun _ => ?_))
   | exact ih0 _ _ _ _
   | exact LeO.none _
   | refine LeO.ite ?_ ?_
   | refine LeO.bind ?_ (fun _ => ?_)
set_option maxHeartbeats 8000000 in
set_option maxRecDepth 100000 in
theorem laws_sameOptions.calls (k : Nat) (A0 : Option Addr) (c0 : Nat) (l0 : List (S30)) (A1 : Option Addr) (c1 : Nat) (l1 : List (S30)) (r : Bool) (w : World) (hr0 : Kd.C k30 w A0 l0.length l0) (hc0 : l0.length ≤ c0) (hr1 : Kd.C k30 w A1 l1.length l1) (hc1 : l1.length ≤ c1) (h : laws_sameOptions.f k l0 l1 = some r) :
  Calls Tryd.prog 20 #[.slice A0 l0.length c0, .slice A1 l1.length c1] w fun e w' => e = .returned (.bool r) ∧ Drawn0 w w' := by
 have hu30 := Tryd.underlying30
 have HR0 := Aside0.mk hr0
 have HC0 := Aside0.mk hc0
 clear hr0 hc0
 have HR1 := Aside0.mk hr1
 have HC1 := Aside0.mk hc1
 clear hr1 hc1
 have H : (if (l0.length : Int) = (l1.length : Int) then (laws_sameOptions.l0 k l0 l1 (l0.length : Int) 0) else (some false)) = some r := h
 clear h
 by_cases c3 : (l0.length : Int) = (l1.length : Int)
 ·rw [if_pos c3] at H
  have c3b0 : ((l0.length : Int) == (l1.length : Int)) = true := beq_iff_eq.mpr c3
  have c3b1 : ((l0.length : Int) != (l1.length : Int)) = false := bne_eq_false_iff_eq.mpr c3
  have c3b2 : (l0.length == l1.length) = true := by first | simpa using c3 | (simp at c3 ⊢; omega)
  clear c3
  have H' := Aside0.mk H
  clear H
  go_enter Tryd.func20, Tryd.ntmps20
  go_wp2
  repeat (go_quiet (fail); try go_wp2)
  go_loopg [13] k (fun kq v13 w' => ∃ (x13_1 : Int), v13 = .int .i64 x13_1 ∧ Aside0 (laws_sameOptions.l0 kq l0 l1 (l0.length : Int) x13_1 = some r) ∧ Aside0 (kq ≤ k) ∧ Drawn0 w w')
  case atStart => exact ⟨(0), (by first | rfl | (simp; done) | (simp [*]; done)), H', ⟨Nat.le_refl _⟩, by repeat (first | exact Drawn0.refl _ | apply Drawn0.step)⟩
  case round =>
   clear H'
   try clear c1
   try clear c2
   try clear p2
   try clear c3
   try clear c3b0
   try clear c3b1
   try clear c3b2
   obtain ⟨x13_1, rfl, HA, HK1, ⟨m1, rfl⟩⟩ := hrel
   cases gk with
   | zero => exact absurd HA.out (by simp [laws_sameOptions.l0])
   | succ k1 =>
    have H := HA.out
    clear HA
    simp only [laws_sameOptions.l0] at H
    by_cases c4 : x13_1 < (l0.length : Int)
    ·rw [if_pos c4] at H
     have c4b0 : decide (x13_1 < (l0.length : Int)) = true := decide_eq_true c4
     clear c4
     by_cases c5 : 0 ≤ x13_1
     ·rw [if_pos c5] at H
      have c5b0 : decide (0 ≤ x13_1) = true := decide_eq_true c5
      clear c5
      by_cases c6 : x13_1 < (l0.length : Int)
      ·rw [if_pos c6] at H
       have c6b0 : decide (x13_1 < (l0.length : Int)) = true := decide_eq_true c6
       clear c6
       by_cases c7 : x13_1 < (l1.length : Int)
       ·rw [if_pos c7] at H
        have c7b0 : decide (x13_1 < (l1.length : Int)) = true := decide_eq_true c7
        clear c7
        by_cases c8 : (!((((rd_T30 l0 x13_1).f0).toList) == (((rd_T30 l1 x13_1).f0).toList)) || (!((((rd_T30 l0 x13_1).f1).toList) == (((rd_T30 l1 x13_1).f1).toList)) || (!((((rd_T30 l0 x13_1).f2).toList) == (((rd_T30 l1 x13_1).f2).toList))))) = true
        ·rw [if_pos c8] at H
         have c8b0 : (!((((rd_T30 l0 x13_1).f0).toList) == (((rd_T30 l1 x13_1).f0).toList)) || (!((((rd_T30 l0 x13_1).f1).toList) == (((rd_T30 l1 x13_1).f1).toList)) || (!((((rd_T30 l0 x13_1).f2).toList) == (((rd_T30 l1 x13_1).f2).toList))))) = true := c8
         clear c8
         obtain rfl := Option.some.inj H
         have p110 : 0 ≤ (x13_1 : Int) := of_decide_eq_true (by first | (with_reducible assumption) | assumption)
         have q110 : x13_1 < (l0.length : Int) := of_decide_eq_true (by first | (with_reducible assumption) | assumption)
         obtain ⟨ad110, e110, hx110_0, hx110_1, hx110_2⟩ := at_T30 HR0.out x13_1 p110 q110
         cases e110
         replace p110 := eq_true p110
         replace q110 := eq_true q110
         have p111 : 0 ≤ (x13_1 : Int) := of_decide_eq_true (by first | (with_reducible assumption) | assumption)
         have q111 : x13_1 < (l1.length : Int) := of_decide_eq_true (by first | (with_reducible assumption) | assumption)
         obtain ⟨ad111, e111, hx111_0, hx111_1, hx111_2⟩ := at_T30 HR1.out x13_1 p111 q111
         cases e111
         replace p111 := eq_true p111
         replace q111 := eq_true q111
         go_wp2
         repeat (go_quiet (fail); try go_wp2)
         go_ret
         exact ⟨by first | rfl | (simp; done) | (simp [*]; done), by repeat (first | exact Drawn0.refl _ | apply Drawn0.step)⟩
        ·rw [if_neg c8] at H
         have c8b0 : (!((((rd_T30 l0 x13_1).f0).toList) == (((rd_T30 l1 x13_1).f0).toList)) || (!((((rd_T30 l0 x13_1).f1).toList) == (((rd_T30 l1 x13_1).f1).toList)) || (!((((rd_T30 l0 x13_1).f2).toList) == (((rd_T30 l1 x13_1).f2).toList))))) = false := by simpa using c8
         clear c8
         have H' := Aside0.mk H
         clear H
         have p110 : 0 ≤ (x13_1 : Int) := of_decide_eq_true (by first | (with_reducible assumption) | assumption)
         have q110 : x13_1 < (l0.length : Int) := of_decide_eq_true (by first | (with_reducible assumption) | assumption)
         obtain ⟨ad110, e110, hx110_0, hx110_1, hx110_2⟩ := at_T30 HR0.out x13_1 p110 q110
         cases e110
         replace p110 := eq_true p110
         replace q110 := eq_true q110
         have p111 : 0 ≤ (x13_1 : Int) := of_decide_eq_true (by first | (with_reducible assumption) | assumption)
         have q111 : x13_1 < (l1.length : Int) := of_decide_eq_true (by first | (with_reducible assumption) | assumption)
         obtain ⟨ad111, e111, hx111_0, hx111_1, hx111_2⟩ := at_T30 HR1.out x13_1 p111 q111
         cases e111
         replace p111 := eq_true p111
         replace q111 := eq_true q111
         go_wp2
         repeat (go_quiet (fail); try go_wp2)
         go_roundg k1
         case measure => have := HK1.out; omega
         case rel => exact ⟨(wrap64 (x13_1 + 1)), (by first | rfl | (simp; done) | (simp [*]; done)), H', ⟨by have := HK1.out; omega⟩, by repeat (first | exact Drawn0.refl _ | apply Drawn0.step)⟩
       ·rw [if_neg c7] at H
        exact absurd H (by simp)
      ·rw [if_neg c6] at H
       exact absurd H (by simp)
     ·rw [if_neg c5] at H
      exact absurd H (by simp)
    ·rw [if_neg c4] at H
     have c4b0 : decide (x13_1 < (l0.length : Int)) = false := decide_eq_false c4
     clear c4
     obtain rfl := Option.some.inj H
     go_wp2
     repeat (go_quiet (fail); try go_wp2)
     go_ret
     exact ⟨by first | rfl | (simp; done) | (simp [*]; done), by repeat (first | exact Drawn0.refl _ | apply Drawn0.step)⟩
 ·rw [if_neg c3] at H
  have c3b0 : ((l0.length : Int) == (l1.length : Int)) = false := beq_eq_false_iff_ne.mpr c3
  have c3b1 : ((l0.length : Int) != (l1.length : Int)) = true := bne_iff_ne.mpr c3
  have c3b2 : (l0.length == l1.length) = false := by first | simpa using c3 | (simp at c3 ⊢; omega)
  obtain rfl := Option.some.inj H
  go_enter Tryd.func20, Tryd.ntmps20
  go_wp2
  repeat (go_quiet (fail); try go_wp2)
  go_ret
  exact ⟨by first | rfl | (simp; done) | (simp [*]; done), by repeat (first | exact Drawn0.refl _ | apply Drawn0.step)⟩
/-! ### laws_printable: function 47 -/
def laws_printable.l0 : Nat → ByteArray → Int → Int → Option (Bool)
 | 0, _, _, _ => none
 | k + 1, x0, x5, x6 => if x6 < x5 then (if 0 ≤ x6 then (if x6 < (x0.size : Int) then (if (bt x0 x6) < 32 then (some false) else (if (bt x0 x6) > 126 then (some false) else (laws_printable.l0 k x0 x5 (wrap64 (x6 + 1))))) else (none)) else (none)) else (some true)
def laws_printable.f (k : Nat) (a0 : ByteArray) : Option (Bool) := laws_printable.l0 k a0 (a0.size : Int) 0
theorem laws_printable.mono_l : ∀ k, (∀ y0 y1 y2, LeO (laws_printable.l0 k y0 y1 y2) (laws_printable.l0 (k + 1) y0 y1 y2))
 | 0 => fun _ _ _ r h => by simp [laws_printable.l0] at h
 | k + 1 => by
  have ih0 := laws_printable.mono_l k
  ·intro y0 y1 y2
   unfold laws_printable.l0
   repeat' first
   | (with_reducible exact ih0 _ _ _)
   | (with_reducible exact LeO.refl _)
   | (with_reducible exact LeO.none _)
   | (with_reducible refine LeO.ite ?_ ?_)
   | (with_reducible refine LeO.bind ?_ (fun _ => ?_))
   | exact ih0 _ _ _
   | exact LeO.none _
   | refine LeO.ite ?_ ?_
   | refine LeO.bind ?_ (fun _ => ?_)
theorem laws_printable.mono : ∀ a0 k, LeO (laws_printable.f k a0) (laws_printable.f (k + 1) a0) := by
 intro a0 k
 have ih0 := laws_printable.mono_l k
 unfold laws_printable.f
 repeat' first
   | (with_reducible exact ih0 _ _ _)
   | (with_reducible exact LeO.refl _)
   | (with_reducible exact LeO.none _)
   | (with_reducible refine LeO.ite ?_ ?_)
   | (with_reducible refine LeO.bind ?_ (fun _ => ?_))
   | exact ih0 _ _ _
   | exact LeO.none _
   | refine LeO.ite ?_ ?_
   | refine LeO.bind ?_ (fun _ => ?_)
set_option maxHeartbeats 8000000 in
set_option maxRecDepth 100000 in
theorem laws_printable.calls (k : Nat) (a0 : ByteArray) (r : Bool) (w : World) (h : laws_printable.f k a0 = some r) :
  Calls Tryd.prog 47 #[.string a0] w fun e w' => e = .returned (.bool r) ∧ Drawn0 w w' := by
 have H : (laws_printable.l0 k a0 (a0.size : Int) 0) = some r := h
 clear h
 have H' := Aside0.mk H
 clear H
 go_enter Tryd.func47, Tryd.ntmps47
 go_wp2
 go_loopg [6] k (fun kq v6 w' => ∃ (x6_1 : Int), v6 = .int .i64 x6_1 ∧ Aside0 (laws_printable.l0 kq a0 (a0.size : Int) x6_1 = some r) ∧ Aside0 (kq ≤ k) ∧ Drawn0 w w')
 case atStart => exact ⟨(0), (by first | rfl | (simp; done) | (simp [*]; done)), H', ⟨Nat.le_refl _⟩, by repeat (first | exact Drawn0.refl _ | apply Drawn0.step)⟩
 case round =>
  clear H'
  obtain ⟨x6_1, rfl, HA, HK1, ⟨m1, rfl⟩⟩ := hrel
  cases gk with
  | zero => exact absurd HA.out (by simp [laws_printable.l0])
  | succ k1 =>
   have H := HA.out
   clear HA
   simp only [laws_printable.l0] at H
   by_cases c2 : x6_1 < (a0.size : Int)
   ·rw [if_pos c2] at H
    have c2b0 : decide (x6_1 < (a0.size : Int)) = true := decide_eq_true c2
    clear c2
    by_cases c3 : 0 ≤ x6_1
    ·rw [if_pos c3] at H
     have c3b0 : decide (0 ≤ x6_1) = true := decide_eq_true c3
     clear c3
     by_cases c4 : x6_1 < (a0.size : Int)
     ·rw [if_pos c4] at H
      have c4b0 : decide (x6_1 < (a0.size : Int)) = true := decide_eq_true c4
      clear c4
      by_cases c6 : (bt a0 x6_1) < 32
      ·rw [if_pos c6] at H
       have c6b0 : decide ((bt a0 x6_1) < 32) = true := decide_eq_true c6
       clear c6
       obtain rfl := Option.some.inj H
       have p5 : 0 ≤ (x6_1 : Int) := of_decide_eq_true (by first | (with_reducible assumption) | assumption)
       have q5 : x6_1 < (a0.size : Int) := of_decide_eq_true (by first | (with_reducible assumption) | assumption)
       have hx5 := bt_at a0 x6_1
       replace p5 := eq_true p5
       replace q5 := eq_true q5
       go_wp2
       go_ret
       exact ⟨by first | rfl | (simp; done) | (simp [*]; done), by repeat (first | exact Drawn0.refl _ | apply Drawn0.step)⟩
      ·rw [if_neg c6] at H
       have c6b0 : decide ((bt a0 x6_1) < 32) = false := decide_eq_false c6
       clear c6
       by_cases c8 : (bt a0 x6_1) > 126
       ·rw [if_pos c8] at H
        have c8b0 : decide (126 < (bt a0 x6_1)) = true := decide_eq_true c8
        clear c8
        obtain rfl := Option.some.inj H
        have p5 : 0 ≤ (x6_1 : Int) := of_decide_eq_true (by first | (with_reducible assumption) | assumption)
        have q5 : x6_1 < (a0.size : Int) := of_decide_eq_true (by first | (with_reducible assumption) | assumption)
        have hx5 := bt_at a0 x6_1
        replace p5 := eq_true p5
        replace q5 := eq_true q5
        have p7 : 0 ≤ (x6_1 : Int) := of_decide_eq_true (by first | (with_reducible assumption) | assumption)
        have q7 : x6_1 < (a0.size : Int) := of_decide_eq_true (by first | (with_reducible assumption) | assumption)
        have hx7 := bt_at a0 x6_1
        replace p7 := eq_true p7
        replace q7 := eq_true q7
        go_wp2
        go_ret
        exact ⟨by first | rfl | (simp; done) | (simp [*]; done), by repeat (first | exact Drawn0.refl _ | apply Drawn0.step)⟩
       ·rw [if_neg c8] at H
        have c8b0 : decide (126 < (bt a0 x6_1)) = false := decide_eq_false c8
        clear c8
        have H' := Aside0.mk H
        clear H
        have p5 : 0 ≤ (x6_1 : Int) := of_decide_eq_true (by first | (with_reducible assumption) | assumption)
        have q5 : x6_1 < (a0.size : Int) := of_decide_eq_true (by first | (with_reducible assumption) | assumption)
        have hx5 := bt_at a0 x6_1
        replace p5 := eq_true p5
        replace q5 := eq_true q5
        have p7 : 0 ≤ (x6_1 : Int) := of_decide_eq_true (by first | (with_reducible assumption) | assumption)
        have q7 : x6_1 < (a0.size : Int) := of_decide_eq_true (by first | (with_reducible assumption) | assumption)
        have hx7 := bt_at a0 x6_1
        replace p7 := eq_true p7
        replace q7 := eq_true q7
        go_wp2
        go_roundg k1
        case measure => have := HK1.out; omega
        case rel => exact ⟨(wrap64 (x6_1 + 1)), (by first | rfl | (simp; done) | (simp [*]; done)), H', ⟨by have := HK1.out; omega⟩, by repeat (first | exact Drawn0.refl _ | apply Drawn0.step)⟩
     ·rw [if_neg c4] at H
      exact absurd H (by simp)
    ·rw [if_neg c3] at H
     exact absurd H (by simp)
   ·rw [if_neg c2] at H
    have c2b0 : decide (x6_1 < (a0.size : Int)) = false := decide_eq_false c2
    clear c2
    obtain rfl := Option.some.inj H
    go_wp2
    go_ret
    exact ⟨by first | rfl | (simp; done) | (simp [*]; done), by repeat (first | exact Drawn0.refl _ | apply Drawn0.step)⟩
/-! ### laws_has: function 48 -/
mutual
def laws_has.l0 : Nat → ByteArray → ByteArray → Int → Int → Option (Bool)
 | 0, _, _, _, _ => none
 | k + 1, x0, x1, x8, x9 => if x9 < x8 then (laws_has.l1 k x0 x1 x9 x8 x9 (x1.size : Int) 0) else (some false)
def laws_has.l1 : Nat → ByteArray → ByteArray → Int → Int → Int → Int → Int → Option (Bool)
 | 0, _, _, _, _, _, _, _ => none
 | k + 1, x0, x1, x5, x8, x9, x13, x14 => if x14 < x13 then (if 0 ≤ x5 then (if x5 < (x0.size : Int) then (if 0 ≤ x14 then (if x14 < (x1.size : Int) then (if (bt x0 x5) = (bt x1 x14) then (some true) else (laws_has.l1 k x0 x1 x5 x8 x9 x13 (wrap64 (x14 + 1)))) else (none)) else (none)) else (none)) else (none)) else (laws_has.l0 k x0 x1 x8 (wrap64 (x9 + 1)))
end
def laws_has.f (k : Nat) (a0 : ByteArray) (a1 : ByteArray) : Option (Bool) := laws_has.l0 k a0 a1 (a0.size : Int) 0
theorem laws_has.mono_l : ∀ k, (∀ y0 y1 y2 y3, LeO (laws_has.l0 k y0 y1 y2 y3) (laws_has.l0 (k + 1) y0 y1 y2 y3)) ∧ (∀ y0 y1 y2 y3 y4 y5 y6, LeO (laws_has.l1 k y0 y1 y2 y3 y4 y5 y6) (laws_has.l1 (k + 1) y0 y1 y2 y3 y4 y5 y6))
 | 0 => ⟨fun _ _ _ _ r h => by simp [laws_has.l0] at h, fun _ _ _ _ _ _ _ r h => by simp [laws_has.l1] at h⟩
 | k + 1 => by
  obtain ⟨ih0, ih1⟩ := laws_has.mono_l k
  refine ⟨?_, ?_⟩
  ·intro y0 y1 y2 y3
   unfold laws_has.l0
   repeat' first
   | (with_reducible exact ih0 _ _ _ _)
   | (with_reducible exact ih1 _ _ _ _ _ _ _)
   | (with_reducible exact LeO.refl _)
   | (with_reducible exact LeO.none _)
   | (with_reducible refine LeO.ite ?_ ?_)
   | (with_reducible refine LeO.bind ?_ (fun _ => ?_))
   | exact ih0 _ _ _ _
   | exact ih1 _ _ _ _ _ _ _
   | exact LeO.none _
   | refine LeO.ite ?_ ?_
   | refine LeO.bind ?_ (fun _ => ?_)
  ·intro y0 y1 y2 y3 y4 y5 y6
   unfold laws_has.l1
   repeat' first
   | (with_reducible exact ih0 _ _ _ _)
   | (with_reducible exact ih1 _ _ _ _ _ _ _)
   | (with_reducible exact LeO.refl _)
   | (with_reducible exact LeO.none _)
   | (with_reducible refine LeO.ite ?_ ?_)
   | (with_reducible refine LeO.bind ?_ (fun _ => ?_))
   | exact ih0 _ _ _ _
   | exact ih1 _ _ _ _ _ _ _
   | exact LeO.none _
   | refine LeO.ite ?_ ?_
   | refine LeO.bind ?_ (fun _ => ?_)
theorem laws_has.mono : ∀ a0 a1 k, LeO (laws_has.f k a0 a1) (laws_has.f (k + 1) a0 a1) := by
 intro a0 a1 k
 obtain ⟨ih0, ih1⟩ := laws_has.mono_l k
 unfold laws_has.f
 repeat' first
   | (with_reducible exact ih0 _ _ _ _)
   | (with_reducible exact ih1 _ _ _ _ _ _ _)
   | (with_reducible exact LeO.refl _)
   | (with_reducible exact LeO.none _)
   | (with_reducible refine LeO.ite ?_ ?_)
   | (with_reducible refine LeO.bind ?_ (fun _ => ?_))
   | exact ih0 _ _ _ _
   | exact ih1 _ _ _ _ _ _ _
   | exact LeO.none _
   | refine LeO.ite ?_ ?_
   | refine LeO.bind ?_ (fun _ => ?_)
set_option maxHeartbeats 8000000 in
set_option maxRecDepth 100000 in
theorem laws_has.calls (k : Nat) (a0 : ByteArray) (a1 : ByteArray) (r : Bool) (w : World) (h : laws_has.f k a0 a1 = some r) :
  Calls Tryd.prog 48 #[.string a0, .string a1] w fun e w' => e = .returned (.bool r) ∧ Drawn0 w w' := by
 have H : (laws_has.l0 k a0 a1 (a0.size : Int) 0) = some r := h
 clear h
 have H' := Aside0.mk H
 clear H
 go_enter Tryd.func48, Tryd.ntmps48
 go_wp2
 repeat (go_quiet (fail); try go_wp2)
 go_loopg [9] k (fun kq v9 w' => ∃ (x9_1 : Int), v9 = .int .i64 x9_1 ∧ Aside0 (laws_has.l0 kq a0 a1 (a0.size : Int) x9_1 = some r) ∧ Aside0 (kq ≤ k) ∧ Drawn0 w w')
 case atStart => exact ⟨(0), (by first | rfl | (simp; done) | (simp [*]; done)), H', ⟨Nat.le_refl _⟩, by repeat (first | exact Drawn0.refl _ | apply Drawn0.step)⟩
 case round =>
  clear H'
  try clear p2
  obtain ⟨x9_1, rfl, HA, HK1, ⟨m1, rfl⟩⟩ := hrel
  cases gk with
  | zero => exact absurd HA.out (by simp [laws_has.l0])
  | succ k1 =>
   have H := HA.out
   clear HA
   simp only [laws_has.l0] at H
   by_cases c3 : x9_1 < (a0.size : Int)
   ·rw [if_pos c3] at H
    have c3b0 : decide (x9_1 < (a0.size : Int)) = true := decide_eq_true c3
    clear c3
    have H' := Aside0.mk H
    clear H
    go_wp2
    repeat (go_quiet (fail); try go_wp2)
    go_loopg [14] k1 (fun kq v14 w' => ∃ (x14_2 : Int), v14 = .int .i64 x14_2 ∧ Aside0 (laws_has.l1 kq a0 a1 x9_1 (a0.size : Int) x9_1 (a1.size : Int) x14_2 = some r) ∧ Aside0 (kq ≤ k1) ∧ Drawn0 w w')
    case atStart => exact ⟨(0), (by first | rfl | (simp; done) | (simp [*]; done)), H', ⟨Nat.le_refl _⟩, by repeat (first | exact Drawn0.refl _ | apply Drawn0.step)⟩
    case round =>
     clear H'
     try clear p2
     try clear c3
     try clear c3b0
     try clear p2
     obtain ⟨x14_2, rfl, HA, HK2, ⟨m2, rfl⟩⟩ := hrel
     cases gk with
     | zero => exact absurd HA.out (by simp [laws_has.l1])
     | succ k2 =>
      have H := HA.out
      clear HA
      simp only [laws_has.l1] at H
      by_cases c4 : x14_2 < (a1.size : Int)
      ·rw [if_pos c4] at H
       have c4b0 : decide (x14_2 < (a1.size : Int)) = true := decide_eq_true c4
       clear c4
       by_cases c5 : 0 ≤ x9_1
       ·rw [if_pos c5] at H
        have c5b0 : decide (0 ≤ x9_1) = true := decide_eq_true c5
        clear c5
        by_cases c6 : x9_1 < (a0.size : Int)
        ·rw [if_pos c6] at H
         have c6b0 : decide (x9_1 < (a0.size : Int)) = true := decide_eq_true c6
         clear c6
         by_cases c8 : 0 ≤ x14_2
         ·rw [if_pos c8] at H
          have c8b0 : decide (0 ≤ x14_2) = true := decide_eq_true c8
          clear c8
          by_cases c9 : x14_2 < (a1.size : Int)
          ·rw [if_pos c9] at H
           have c9b0 : decide (x14_2 < (a1.size : Int)) = true := decide_eq_true c9
           clear c9
           by_cases c11 : (bt a0 x9_1) = (bt a1 x14_2)
           ·rw [if_pos c11] at H
            have c11b0 : ((bt a0 x9_1) == (bt a1 x14_2)) = true := beq_iff_eq.mpr c11
            have c11b1 : ((bt a0 x9_1) != (bt a1 x14_2)) = false := bne_eq_false_iff_eq.mpr c11
            clear c11
            obtain rfl := Option.some.inj H
            have p7 : 0 ≤ (x9_1 : Int) := of_decide_eq_true (by first | (with_reducible assumption) | assumption)
            have q7 : x9_1 < (a0.size : Int) := of_decide_eq_true (by first | (with_reducible assumption) | assumption)
            have hx7 := bt_at a0 x9_1
            replace p7 := eq_true p7
            replace q7 := eq_true q7
            have p10 : 0 ≤ (x14_2 : Int) := of_decide_eq_true (by first | (with_reducible assumption) | assumption)
            have q10 : x14_2 < (a1.size : Int) := of_decide_eq_true (by first | (with_reducible assumption) | assumption)
            have hx10 := bt_at a1 x14_2
            replace p10 := eq_true p10
            replace q10 := eq_true q10
            go_wp2
            repeat (go_quiet (fail); try go_wp2)
            go_ret
            exact ⟨by first | rfl | (simp; done) | (simp [*]; done), by repeat (first | exact Drawn0.refl _ | apply Drawn0.step)⟩
           ·rw [if_neg c11] at H
            have c11b0 : ((bt a0 x9_1) == (bt a1 x14_2)) = false := beq_eq_false_iff_ne.mpr c11
            have c11b1 : ((bt a0 x9_1) != (bt a1 x14_2)) = true := bne_iff_ne.mpr c11
            have H' := Aside0.mk H
            clear H
            have p7 : 0 ≤ (x9_1 : Int) := of_decide_eq_true (by first | (with_reducible assumption) | assumption)
            have q7 : x9_1 < (a0.size : Int) := of_decide_eq_true (by first | (with_reducible assumption) | assumption)
            have hx7 := bt_at a0 x9_1
            replace p7 := eq_true p7
            replace q7 := eq_true q7
            have p10 : 0 ≤ (x14_2 : Int) := of_decide_eq_true (by first | (with_reducible assumption) | assumption)
            have q10 : x14_2 < (a1.size : Int) := of_decide_eq_true (by first | (with_reducible assumption) | assumption)
            have hx10 := bt_at a1 x14_2
            replace p10 := eq_true p10
            replace q10 := eq_true q10
            go_wp2
            repeat (go_quiet (fail); try go_wp2)
            go_roundg k2
            case measure => have := HK1.out; have := HK2.out; omega
            case rel => exact ⟨(wrap64 (x14_2 + 1)), (by first | rfl | (simp; done) | (simp [*]; done)), H', ⟨by have := HK1.out; have := HK2.out; omega⟩, by repeat (first | exact Drawn0.refl _ | apply Drawn0.step)⟩
          ·rw [if_neg c9] at H
           exact absurd H (by simp)
         ·rw [if_neg c8] at H
          exact absurd H (by simp)
        ·rw [if_neg c6] at H
         exact absurd H (by simp)
       ·rw [if_neg c5] at H
        exact absurd H (by simp)
      ·rw [if_neg c4] at H
       have c4b0 : decide (x14_2 < (a1.size : Int)) = false := decide_eq_false c4
       clear c4
       have H' := Aside0.mk H
       clear H
       go_wp2
       repeat (go_quiet (fail); try go_wp2)
       go_roundg k2
       case measure => have := HK1.out; have := HK2.out; omega
       case rel => exact ⟨(wrap64 (x9_1 + 1)), (by first | rfl | (simp; done) | (simp [*]; done)), H', ⟨by have := HK1.out; have := HK2.out; omega⟩, by repeat (first | exact Drawn0.refl _ | apply Drawn0.step)⟩
   ·rw [if_neg c3] at H
    have c3b0 : decide (x9_1 < (a0.size : Int)) = false := decide_eq_false c3
    clear c3
    obtain rfl := Option.some.inj H
    go_wp2
    repeat (go_quiet (fail); try go_wp2)
    go_ret
    exact ⟨by first | rfl | (simp; done) | (simp [*]; done), by repeat (first | exact Drawn0.refl _ | apply Drawn0.step)⟩
/-! ### laws_letter: function 49 -/
def laws_letter.f (a0 : Int) : Option (Bool) := if a0 ≥ 97 then (if a0 ≤ 122 then (some true) else (if a0 ≥ 65 then (some (decide (a0 ≤ 90))) else (some false))) else (if a0 ≥ 65 then (some (decide (a0 ≤ 90))) else (some false))
set_option maxHeartbeats 8000000 in
set_option maxRecDepth 100000 in
theorem laws_letter.calls (a0 : Int) (r : Bool) (w : World) (h : laws_letter.f a0 = some r) :
  Calls Tryd.prog 49 #[.int .u8 a0] w fun e w' => e = .returned (.bool r) ∧ Drawn0 w w' := by
 have H : (if a0 ≥ 97 then (if a0 ≤ 122 then (some true) else (if a0 ≥ 65 then (some (decide (a0 ≤ 90))) else (some false))) else (if a0 ≥ 65 then (some (decide (a0 ≤ 90))) else (some false))) = some r := h
 clear h
 by_cases c2 : a0 ≥ 97
 ·rw [if_pos c2] at H
  have c2b0 : decide (97 ≤ a0) = true := decide_eq_true c2
  clear c2
  by_cases c3 : a0 ≤ 122
  ·rw [if_pos c3] at H
   have c3b0 : decide (a0 ≤ 122) = true := decide_eq_true c3
   clear c3
   obtain rfl := Option.some.inj H
   go_enter Tryd.func49, Tryd.ntmps49
   go_wp2
   go_ret
   exact ⟨by first | rfl | (simp; done) | (simp [*]; done), by repeat (first | exact Drawn0.refl _ | apply Drawn0.step)⟩
  ·rw [if_neg c3] at H
   have c3b0 : decide (a0 ≤ 122) = false := decide_eq_false c3
   clear c3
   by_cases c4 : a0 ≥ 65
   ·rw [if_pos c4] at H
    have c4b0 : decide (65 ≤ a0) = true := decide_eq_true c4
    clear c4
    obtain rfl := Option.some.inj H
    go_enter Tryd.func49, Tryd.ntmps49
    go_wp2
    go_ret
    exact ⟨by first | rfl | (simp; done) | (simp [*]; done), by repeat (first | exact Drawn0.refl _ | apply Drawn0.step)⟩
   ·rw [if_neg c4] at H
    have c4b0 : decide (65 ≤ a0) = false := decide_eq_false c4
    clear c4
    obtain rfl := Option.some.inj H
    go_enter Tryd.func49, Tryd.ntmps49
    go_wp2
    go_ret
    exact ⟨by first | rfl | (simp; done) | (simp [*]; done), by repeat (first | exact Drawn0.refl _ | apply Drawn0.step)⟩
 ·rw [if_neg c2] at H
  have c2b0 : decide (97 ≤ a0) = false := decide_eq_false c2
  clear c2
  by_cases c5 : a0 ≥ 65
  ·rw [if_pos c5] at H
   have c5b0 : decide (65 ≤ a0) = true := decide_eq_true c5
   clear c5
   obtain rfl := Option.some.inj H
   go_enter Tryd.func49, Tryd.ntmps49
   go_wp2
   go_ret
   exact ⟨by first | rfl | (simp; done) | (simp [*]; done), by repeat (first | exact Drawn0.refl _ | apply Drawn0.step)⟩
  ·rw [if_neg c5] at H
   have c5b0 : decide (65 ≤ a0) = false := decide_eq_false c5
   clear c5
   obtain rfl := Option.some.inj H
   go_enter Tryd.func49, Tryd.ntmps49
   go_wp2
   go_ret
   exact ⟨by first | rfl | (simp; done) | (simp [*]; done), by repeat (first | exact Drawn0.refl _ | apply Drawn0.step)⟩
end Go.Proofs.YtgnfapnnbcafbaaDoor.GUL
end
section
namespace Go.Proofs.YtgnfapnnbcafbaaDoor.GUL
open Go.RowKit Go.Proofs.YtgnfapnnbcafbaaDoorW.PrintWords Go.Proofs.YtgnfapnnbcafbaaDoorW.PrintLast Go.Proofs.YtgnfapnnbcafbaaDoorW.PrintMore
attribute [local go_sem] max2_int min2_int max_two min_two max_three min_three max_four min_four   -- for this text's walks alone
set_option linter.unusedVariables false
set_option linter.unusedSimpArgs false
/-! ### laws_plainOption: function 38 -/
def laws_plainOption.l0 : Nat → List ByteArray → Int → Int → ByteArray → ByteArray → ByteArray → Option (Bool)
 | 0, _, _, _, _, _, _ => none
 | k + 1, x11, x12, x13, x113000, x113001, x113002 => if x13 < x12 then (if 0 ≤ x13 then (if x13 < (x11.length : Int) then ((laws_printable.f k (rdOf ByteArray.empty x11 x13)).bind fun t117 => (if t117 = true then (if (rdOf ByteArray.empty x11 x13).toList = ([] : List UInt8) then (if ((rdOf ByteArray.empty x11 x13).size : Int) > 400 then (some false) else (laws_plainOption.l0 k x11 x12 (wrap64 (x13 + 1)) x113000 x113001 x113002)) else (if 0 < ((rdOf ByteArray.empty x11 x13).size : Int) then (if (bt (rdOf ByteArray.empty x11 x13) 0) = 32 then (some false) else (if 0 ≤ (wrap64 (((rdOf ByteArray.empty x11 x13).size : Int) - 1)) then (if (wrap64 (((rdOf ByteArray.empty x11 x13).size : Int) - 1)) < ((rdOf ByteArray.empty x11 x13).size : Int) then (if (bt (rdOf ByteArray.empty x11 x13) (wrap64 (((rdOf ByteArray.empty x11 x13).size : Int) - 1))) = 32 then (some false) else (if ((rdOf ByteArray.empty x11 x13).size : Int) > 400 then (some false) else (laws_plainOption.l0 k x11 x12 (wrap64 (x13 + 1)) x113000 x113001 x113002))) else (none)) else (none))) else (none))) else (some false))) else (none)) else (none)) else (if x113000.toList = ([] : List UInt8) then (some false) else ((laws_has.f k x113000 (⟨#[91, 93]⟩ : ByteArray)).bind fun t118 => (if t118 = true then (some false) else (if x113001.toList = ([] : List UInt8) then (some false) else ((laws_has.f k x113001 (⟨#[61]⟩ : ByteArray)).bind fun t119 => (if t119 = true then (some false) else (if 0 < (x113001.size : Int) then ((laws_letter.f (bt x113001 0)).bind fun t120 => (if t120 = true then (if x113002.toList = ([] : List UInt8) then (some true) else (if 0 ≤ (wrap64 ((x113002.size : Int) - 1)) then (if (wrap64 ((x113002.size : Int) - 1)) < (x113002.size : Int) then (some ((bt x113002 (wrap64 ((x113002.size : Int) - 1))) != 92)) else (none)) else (none))) else (some false))) else (none))))))))
def laws_plainOption.f (k : Nat) (a0_0 : ByteArray) (a0_1 : ByteArray) (a0_2 : ByteArray) : Option (Bool) := (some (([a0_0, a0_1, a0_2] : List ByteArray) : List ByteArray)).bind fun y113 => (laws_plainOption.l0 k y113 (y113.length : Int) 0 a0_0 a0_1 a0_2)
theorem laws_plainOption.mono_l : ∀ k, (∀ y0 y1 y2 y3 y4 y5, LeO (laws_plainOption.l0 k y0 y1 y2 y3 y4 y5) (laws_plainOption.l0 (k + 1) y0 y1 y2 y3 y4 y5))
 | 0 => fun _ _ _ _ _ _ r h => by simp [laws_plainOption.l0] at h
 | k + 1 => by
  have ih0 := laws_plainOption.mono_l k
  ·intro y0 y1 y2 y3 y4 y5
   unfold laws_plainOption.l0
   repeat' first
   | (with_reducible exact ih0 _ _ _ _ _ _)
   | (with_reducible exact laws_has.mono _ _ _)
   | (with_reducible exact laws_printable.mono _ _)
   | (with_reducible exact LeO.refl _)
   | (with_reducible exact LeO.none _)
   | (with_reducible refine LeO.ite ?_ ?_)
   | (with_reducible refine LeO.bind ?_ (fun _ => ?_))
   | exact ih0 _ _ _ _ _ _
   | exact laws_has.mono _ _ _
   | exact laws_printable.mono _ _
   | exact LeO.none _
   | refine LeO.ite ?_ ?_
   | refine LeO.bind ?_ (fun _ => ?_)
theorem laws_plainOption.mono : ∀ a0 a1 a2 k, LeO (laws_plainOption.f k a0 a1 a2) (laws_plainOption.f (k + 1) a0 a1 a2) := by
 intro a0 a1 a2 k
 have ih0 := laws_plainOption.mono_l k
 unfold laws_plainOption.f
 repeat' first
   | (with_reducible exact ih0 _ _ _ _ _ _)
   | (with_reducible exact laws_has.mono _ _ _)
   | (with_reducible exact laws_printable.mono _ _)
   | (with_reducible exact LeO.refl _)
   | (with_reducible exact LeO.none _)
   | (with_reducible refine LeO.ite ?_ ?_)
   | (with_reducible refine LeO.bind ?_ (fun _ => ?_))
   | exact ih0 _ _ _ _ _ _
   | exact laws_has.mono _ _ _
   | exact laws_printable.mono _ _
   | exact LeO.none _
   | refine LeO.ite ?_ ?_
   | refine LeO.bind ?_ (fun _ => ?_)
set_option maxHeartbeats 8000000 in
set_option maxRecDepth 100000 in
theorem laws_plainOption.calls (k : Nat) (a0_0 : ByteArray) (a0_1 : ByteArray) (a0_2 : ByteArray) (r : Bool) (w : World) (h : laws_plainOption.f k a0_0 a0_1 a0_2 = some r) :
  Calls Tryd.prog 38 #[.agg #[.string a0_0, .string a0_1, .string a0_2]] w fun e w' => e = .returned (.bool r) ∧ Below w.heap.size w w' := by
 have hu30 := Tryd.underlying30
 have HB := Aside0.mk (Below.refl w.heap.size w)
 have H : ((some (([a0_0, a0_1, a0_2] : List ByteArray) : List ByteArray)).bind fun y113 => (laws_plainOption.l0 k y113 (y113.length : Int) 0 a0_0 a0_1 a0_2)) = some r := h
 clear h
 obtain ⟨y113, hy113⟩ : ∃ y_ : List ByteArray, y_ = (([a0_0, a0_1, a0_2] : List ByteArray)) := ⟨_, rfl⟩
 replace H : (laws_plainOption.l0 k y113 (y113.length : Int) 0 a0_0 a0_1 a0_2) = some r := by first | (rw [hy113]; with_reducible exact H) | (have H2_ := (Option.bind_some _ _).symm.trans H; rw [hy113]; with_reducible exact H2_) | (have H2_ := (Option.bind_some _ _).symm.trans H; with_reducible exact H2_) | with_reducible exact H | (rw [hy113]; exact H) | exact H
 have Ny113 := Aside0.mk hy113
 clear hy113
 have H' := Aside0.mk H
 clear H
 go_enter Tryd.func38, Tryd.ntmps38
 go_wp2_with (first | ((with_reducible refine gate_dst (N := 1) rfl ?_); (try (refine gate_guard (by rfl) ?_; dsimp only)); refine box_event ?hg (N := 1) ?hd (cs := #[.string a0_0, .string a0_1, .string a0_2]) (t := 30) ?hr ?_; (case hd => rfl); (case hg => rfl); (case hr => first | (go_simp; done) | (go_simp; rfl)); intro gb112 hg w2 hbox hb; have n0_ := Aside0.mk (below_step (by repeat (first | (with_reducible first | exact HB.out | apply below_alloc | apply pw_below_drewN | apply below_drew1) | exact HB.out)) hb); have n1_ := Aside0.mk (hbox); have n2_ := Aside0.mk ((by rw [hg]; exact (below_size (by repeat (first | (with_reducible first | exact HB.out | apply below_alloc | apply pw_below_drewN | apply below_drew1) | exact HB.out))) : w.heap.size ≤ gb112)); have n3_ := Aside0.mk ((by rw [hg]; exact (below_size (by repeat (first | (with_reducible first | exact HB.out | apply below_alloc | apply pw_below_drewN | apply below_drew1) | exact HB.out))) : w.heap.size ≤ gb112)); clear HB; have HB := n0_; have BK112 := n1_; have GW112 := n2_; have GE112 := n3_; clear n0_ n1_ n2_ n3_; clear hb hbox hg; have hcz3_0 : w2.cell? ⟨gb112, 0, none⟩ = some (.string a0_0) := (blk_cell BK112.out 0).trans rfl; have hcz3_1 : w2.cell? ⟨gb112, 1, none⟩ = some (.string a0_1) := (blk_cell BK112.out 1).trans rfl; have hcz3_2 : w2.cell? ⟨gb112, 2, none⟩ = some (.string a0_2) := (blk_cell BK112.out 2).trans rfl; have hfz3_0 := blk_frozen BK112.out 0; have hfz3_1 := blk_frozen BK112.out 1; have hfz3_2 := blk_frozen BK112.out 2) | ((with_reducible refine gate_dst (N := 11) rfl ?_); (try (refine gate_guard (by rfl) ?_; dsimp only)); refine Kd.R_lit Kd.string _ 9 ?hg (N := 11) ?hd (xs := ([a0_0, a0_1, a0_2] : List ByteArray)) (inner := [.string a0_0, .string a0_1, .string a0_2]) (ok := fun _ => True) (okp := fun _ => True) ?hr ?hp (fun _ hk => hk) trivial (Below.refl _ _) (Nat.le_refl _) (by simp) ?_; (case hd => rfl); (case hg => rfl); (case hr => first | (go_simp; done) | (go_simp; rfl)); (case hp => exact (Reps.one (show Kd.M Kd.string _ _ _ a0_0 [.string a0_0] from rfl) (Reps.one (show Kd.M Kd.string _ _ _ a0_1 [.string a0_1] from rfl) (Reps.one (show Kd.M Kd.string _ _ _ a0_2 [.string a0_2] from rfl) (Reps.none _ _))))); intro v114 w4 ho5 hb hg_ hnew_; clear hg_ hnew_; (first | rw [← Ny113.out] at ho5 | (simp only [Int.reduceToNat] at ho5; rw [← Ny113.out] at ho5)); have n0_ := Aside0.mk (Kd.R_lower ho5 (below_size (by repeat (first | (with_reducible first | exact HB.out | apply below_alloc | apply pw_below_drewN | apply below_drew1 | refine below_set ?_ GE112.out) | exact HB.out)))); have n1_ := Aside0.mk (blk_below (g := gb112) (o := .cells #[.string a0_0, .string a0_1, .string a0_2] 30 (0, 0)) (by (with_reducible repeat (first | refine blk_drewN ?_ _ | refine blk_drew ?_ | refine blk_alloc ?_ _)); exact BK112.out) hb); have n2_ := Aside0.mk (below_step (by repeat (first | (with_reducible first | exact HB.out | apply below_alloc | apply pw_below_drewN | apply below_drew1 | refine below_set ?_ GE112.out) | exact HB.out)) hb); clear BK112; clear HB; have HO115 := n0_; have BK112 := n1_; have HB := n2_; clear n0_ n1_ n2_; clear hb ho5; obtain ⟨Ao6, co6, eo6⟩ := Kd.R_slice HO115.out; subst eo6))
 go_loopg [13] k (fun kq v13 w' => ∃ (x13_1 : Int), v13 = .int .i64 x13_1 ∧ Aside0 (laws_plainOption.l0 kq y113 (y113.length : Int) x13_1 a0_0 a0_1 a0_2 = some r) ∧ Aside0 (kq ≤ k) ∧ Aside0 (Kd.R Kd.string 9 w' w.heap.size (fun _ => True) (.slice Ao6 y113.length co6) y113) ∧ Aside0 (w'.heap[gb112]? = some (.cells #[.string a0_0, .string a0_1, .string a0_2] 30 (0, 0))) ∧ Aside0 (Below w.heap.size w w'))
 case atStart => exact ⟨(0), (by first | rfl | (simp; done) | (simp [*]; done)), H', ⟨Nat.le_refl _⟩, ⟨by (with_reducible repeat (first | apply Kd.R_alloc | apply Kd.R_drewN | apply Kd.R_drew)); exact HO115.out⟩, ⟨by (with_reducible repeat (first | refine blk_drewN ?_ _ | refine blk_drew ?_ | refine blk_alloc ?_ _)); exact BK112.out⟩, ⟨by repeat (first | (with_reducible first | exact HB.out | apply below_alloc | apply pw_below_drewN | apply below_drew1 | refine below_set ?_ GE112.out) | exact HB.out)⟩⟩
 case round =>
  clear H'
  try clear p2
  try clear c3
  try clear hcz3_0
  try clear hcz3_1
  try clear hcz3_2
  try clear hfz3_0
  try clear hfz3_1
  try clear hfz3_2
  obtain ⟨x13_1, rfl, HA, HK1, HO_11, BK112, HB⟩ := hrel
  cases gk with
  | zero => exact absurd HA.out (by simp [laws_plainOption.l0])
  | succ k1 =>
   have H := HA.out
   clear HA
   simp only [laws_plainOption.l0] at H
   by_cases c7 : x13_1 < (y113.length : Int)
   ·rw [if_pos c7] at H
    have c7b0 : decide (x13_1 < (y113.length : Int)) = true := decide_eq_true c7
    clear c7
    by_cases c8 : 0 ≤ x13_1
    ·rw [if_pos c8] at H
     have c8b0 : decide (0 ≤ x13_1) = true := decide_eq_true c8
     clear c8
     by_cases c9 : x13_1 < (y113.length : Int)
     ·rw [if_pos c9] at H
      have c9b0 : decide (x13_1 < (y113.length : Int)) = true := decide_eq_true c9
      clear c9
      replace H := Option.bind_eq_some_iff.mp H
      obtain ⟨t117, A100, H⟩ := H
      replace H : (if t117 = true then (if (rdOf ByteArray.empty y113 x13_1).toList = ([] : List UInt8) then (if ((rdOf ByteArray.empty y113 x13_1).size : Int) > 400 then (some false) else (laws_plainOption.l0 k1 y113 (y113.length : Int) (wrap64 (x13_1 + 1)) a0_0 a0_1 a0_2)) else (if 0 < ((rdOf ByteArray.empty y113 x13_1).size : Int) then (if (bt (rdOf ByteArray.empty y113 x13_1) 0) = 32 then (some false) else (if 0 ≤ (wrap64 (((rdOf ByteArray.empty y113 x13_1).size : Int) - 1)) then (if (wrap64 (((rdOf ByteArray.empty y113 x13_1).size : Int) - 1)) < ((rdOf ByteArray.empty y113 x13_1).size : Int) then (if (bt (rdOf ByteArray.empty y113 x13_1) (wrap64 (((rdOf ByteArray.empty y113 x13_1).size : Int) - 1))) = 32 then (some false) else (if ((rdOf ByteArray.empty y113 x13_1).size : Int) > 400 then (some false) else (laws_plainOption.l0 k1 y113 (y113.length : Int) (wrap64 (x13_1 + 1)) a0_0 a0_1 a0_2))) else (none)) else (none))) else (none))) else (some false)) = some r := H
      have A10 := Aside0.mk A100
      clear A100
      by_cases c11 : t117 = true
      ·subst c11
       have H1 : (if (rdOf ByteArray.empty y113 x13_1).toList = ([] : List UInt8) then (if ((rdOf ByteArray.empty y113 x13_1).size : Int) > 400 then (some false) else (laws_plainOption.l0 k1 y113 (y113.length : Int) (wrap64 (x13_1 + 1)) a0_0 a0_1 a0_2)) else (if 0 < ((rdOf ByteArray.empty y113 x13_1).size : Int) then (if (bt (rdOf ByteArray.empty y113 x13_1) 0) = 32 then (some false) else (if 0 ≤ (wrap64 (((rdOf ByteArray.empty y113 x13_1).size : Int) - 1)) then (if (wrap64 (((rdOf ByteArray.empty y113 x13_1).size : Int) - 1)) < ((rdOf ByteArray.empty y113 x13_1).size : Int) then (if (bt (rdOf ByteArray.empty y113 x13_1) (wrap64 (((rdOf ByteArray.empty y113 x13_1).size : Int) - 1))) = 32 then (some false) else (if ((rdOf ByteArray.empty y113 x13_1).size : Int) > 400 then (some false) else (laws_plainOption.l0 k1 y113 (y113.length : Int) (wrap64 (x13_1 + 1)) a0_0 a0_1 a0_2))) else (none)) else (none))) else (none))) = some r := by rw [if_pos rfl] at H; exact H
       clear H
       have H := H1
       clear H1
       by_cases c12 : (rdOf ByteArray.empty y113 x13_1).toList = ([] : List UInt8)
       ·rw [if_pos c12] at H
        have c12b0 : ((rdOf ByteArray.empty y113 x13_1).toList == ([] : List UInt8)) = true := beq_iff_eq.mpr c12
        have c12b1 : ((rdOf ByteArray.empty y113 x13_1).toList != ([] : List UInt8)) = false := bne_eq_false_iff_eq.mpr c12
        clear c12
        by_cases c13 : ((rdOf ByteArray.empty y113 x13_1).size : Int) > 400
        ·rw [if_pos c13] at H
         have c13b0 : decide (400 < ((rdOf ByteArray.empty y113 x13_1).size : Int)) = true := decide_eq_true c13
         have c13b1 : decide (400 < (rdOf ByteArray.empty y113 x13_1).size) = true := decide_eq_true (by omega)
         clear c13
         obtain rfl := Option.some.inj H
         have p116 : 0 ≤ (x13_1 : Int) := of_decide_eq_true (by first | (with_reducible assumption) | assumption)
         have q116 : x13_1 < (y113.length : Int) := of_decide_eq_true (by first | (with_reducible assumption) | assumption)
         obtain ⟨ad116, e116, hx116_0⟩ := Kd.at_string (Kd.R_reads' HO_11.out).2.2 x13_1 p116 q116
         cases e116
         replace p116 := eq_true p116
         replace q116 := eq_true q116
         go_wp2_with (first | ((with_reducible refine gate_callee (f := 47) rfl ?_); refine goesL_ (some 18) rfl rfl Tryd.func47 (by kernel_rfl) rfl #[.string (rdOf ByteArray.empty y113 x13_1)] rfl (by (try simp only [List.map_toArray, List.map_cons, List.map_nil]); first | done | rfl | (simp only [List.length_drop, List.length_take]; rfl)) ?_; (with_reducible refine (laws_printable.calls k1 (rdOf ByteArray.empty y113 x13_1) true _ A10.out).mono ?_); rintro e w' ⟨rfl, ⟨nd, rfl⟩⟩; refine ⟨_, rfl, ?_⟩))
         go_ret
         exact ⟨by first | rfl | (simp [errW_none, errW_some] <;> rfl) | (simp [*, errW_none, errW_some] <;> rfl), by repeat (first | (with_reducible first | exact HB.out | apply below_alloc | apply pw_below_drewN | apply below_drew1 | refine below_set ?_ GE112.out) | exact HB.out)⟩
        ·rw [if_neg c13] at H
         have c13b0 : decide (400 < ((rdOf ByteArray.empty y113 x13_1).size : Int)) = false := decide_eq_false c13
         have c13b1 : decide (400 < (rdOf ByteArray.empty y113 x13_1).size) = false := decide_eq_false (by omega)
         clear c13
         have H' := Aside0.mk H
         clear H
         have p116 : 0 ≤ (x13_1 : Int) := of_decide_eq_true (by first | (with_reducible assumption) | assumption)
         have q116 : x13_1 < (y113.length : Int) := of_decide_eq_true (by first | (with_reducible assumption) | assumption)
         obtain ⟨ad116, e116, hx116_0⟩ := Kd.at_string (Kd.R_reads' HO_11.out).2.2 x13_1 p116 q116
         cases e116
         replace p116 := eq_true p116
         replace q116 := eq_true q116
         go_wp2_with (first | ((with_reducible refine gate_callee (f := 47) rfl ?_); refine goesL_ (some 18) rfl rfl Tryd.func47 (by kernel_rfl) rfl #[.string (rdOf ByteArray.empty y113 x13_1)] rfl (by (try simp only [List.map_toArray, List.map_cons, List.map_nil]); first | done | rfl | (simp only [List.length_drop, List.length_take]; rfl)) ?_; (with_reducible refine (laws_printable.calls k1 (rdOf ByteArray.empty y113 x13_1) true _ A10.out).mono ?_); rintro e w' ⟨rfl, ⟨nd, rfl⟩⟩; refine ⟨_, rfl, ?_⟩))
         go_roundg k1
         case measure => have := HK1.out; omega
         case rel => exact ⟨(wrap64 (x13_1 + 1)), (by first | rfl | (simp; done) | (simp [*]; done)), H', ⟨by have := HK1.out; omega⟩, ⟨by (with_reducible repeat (first | apply Kd.R_alloc | apply Kd.R_drewN | apply Kd.R_drew)); exact HO_11.out⟩, ⟨by (with_reducible repeat (first | refine blk_drewN ?_ _ | refine blk_drew ?_ | refine blk_alloc ?_ _)); exact BK112.out⟩, ⟨by repeat (first | (with_reducible first | exact HB.out | apply below_alloc | apply pw_below_drewN | apply below_drew1 | refine below_set ?_ GE112.out) | exact HB.out)⟩⟩
       ·rw [if_neg c12] at H
        have c12b0 : ((rdOf ByteArray.empty y113 x13_1).toList == ([] : List UInt8)) = false := beq_eq_false_iff_ne.mpr c12
        have c12b1 : ((rdOf ByteArray.empty y113 x13_1).toList != ([] : List UInt8)) = true := bne_iff_ne.mpr c12
        by_cases c14 : 0 < ((rdOf ByteArray.empty y113 x13_1).size : Int)
        ·rw [if_pos c14] at H
         have c14b0 : decide (0 < ((rdOf ByteArray.empty y113 x13_1).size : Int)) = true := decide_eq_true c14
         have c14b1 : decide (0 < (rdOf ByteArray.empty y113 x13_1).size) = true := decide_eq_true (by omega)
         clear c14
         by_cases c16 : (bt (rdOf ByteArray.empty y113 x13_1) 0) = 32
         ·rw [if_pos c16] at H
          have c16b0 : ((bt (rdOf ByteArray.empty y113 x13_1) 0) == 32) = true := beq_iff_eq.mpr c16
          have c16b1 : ((bt (rdOf ByteArray.empty y113 x13_1) 0) != 32) = false := bne_eq_false_iff_eq.mpr c16
          clear c16
          obtain rfl := Option.some.inj H
          have p116 : 0 ≤ (x13_1 : Int) := of_decide_eq_true (by first | (with_reducible assumption) | assumption)
          have q116 : x13_1 < (y113.length : Int) := of_decide_eq_true (by first | (with_reducible assumption) | assumption)
          obtain ⟨ad116, e116, hx116_0⟩ := Kd.at_string (Kd.R_reads' HO_11.out).2.2 x13_1 p116 q116
          cases e116
          replace p116 := eq_true p116
          replace q116 := eq_true q116
          go_wp2_with (first | ((with_reducible refine gate_callee (f := 47) rfl ?_); refine goesL_ (some 18) rfl rfl Tryd.func47 (by kernel_rfl) rfl #[.string (rdOf ByteArray.empty y113 x13_1)] rfl (by (try simp only [List.map_toArray, List.map_cons, List.map_nil]); first | done | rfl | (simp only [List.length_drop, List.length_take]; rfl)) ?_; (with_reducible refine (laws_printable.calls k1 (rdOf ByteArray.empty y113 x13_1) true _ A10.out).mono ?_); rintro e w' ⟨rfl, ⟨nd, rfl⟩⟩; refine ⟨_, rfl, ?_⟩; have p15 : 0 ≤ (0 : Int) := (by omega); have q15 : 0 < (rdOf ByteArray.empty y113 x13_1).size := (by have : (0 : Int) < ((rdOf ByteArray.empty y113 x13_1).size : Int) := of_decide_eq_true (by first | (with_reducible assumption) | assumption); omega); have hx15 : ∀ h : 0 < (rdOf ByteArray.empty y113 x13_1).size, (((rdOf ByteArray.empty y113 x13_1)[0]'h).toNat : Int) = bt (rdOf ByteArray.empty y113 x13_1) 0 := bt_at (rdOf ByteArray.empty y113 x13_1) 0; clear p15; have qi15 : (0 < ((rdOf ByteArray.empty y113 x13_1).size : Int)) = True := eq_true (of_decide_eq_true (by first | (with_reducible assumption) | assumption)); replace q15 := eq_true q15))
          go_ret
          exact ⟨by first | rfl | (simp [errW_none, errW_some] <;> rfl) | (simp [*, errW_none, errW_some] <;> rfl), by repeat (first | (with_reducible first | exact HB.out | apply below_alloc | apply pw_below_drewN | apply below_drew1 | refine below_set ?_ GE112.out) | exact HB.out)⟩
         ·rw [if_neg c16] at H
          have c16b0 : ((bt (rdOf ByteArray.empty y113 x13_1) 0) == 32) = false := beq_eq_false_iff_ne.mpr c16
          have c16b1 : ((bt (rdOf ByteArray.empty y113 x13_1) 0) != 32) = true := bne_iff_ne.mpr c16
          obtain ⟨ji17, hji17⟩ : ∃ j_ : Int, (wrap64 (((rdOf ByteArray.empty y113 x13_1).size : Int) - 1)) = j_ := ⟨_, rfl⟩
          replace H : (if 0 ≤ (ji17) then (if (ji17) < ((rdOf ByteArray.empty y113 x13_1).size : Int) then (if (bt (rdOf ByteArray.empty y113 x13_1) (ji17)) = 32 then (some false) else (if ((rdOf ByteArray.empty y113 x13_1).size : Int) > 400 then (some false) else (laws_plainOption.l0 k1 y113 (y113.length : Int) (wrap64 (x13_1 + 1)) a0_0 a0_1 a0_2))) else (none)) else (none)) = some r := by first | (rw [hji17] at H; exact H) | (simp only [hji17] at H ⊢; exact H)
          (try rw [hji17] at A10)
          have hji17w : (IntKind.i64.wrap (((rdOf ByteArray.empty y113 x13_1).size : Int) - 1)) = ji17 := (i64_w _).trans hji17
          by_cases c18 : 0 ≤ (ji17)
          ·rw [if_pos c18] at H
           have c18b0 : decide (0 ≤ (ji17)) = true := decide_eq_true c18
           clear c18
           by_cases c19 : (ji17) < ((rdOf ByteArray.empty y113 x13_1).size : Int)
           ·rw [if_pos c19] at H
            have c19b0 : decide ((ji17) < ((rdOf ByteArray.empty y113 x13_1).size : Int)) = true := decide_eq_true c19
            clear c19
            by_cases c21 : (bt (rdOf ByteArray.empty y113 x13_1) (ji17)) = 32
            ·rw [if_pos c21] at H
             have c21b0 : ((bt (rdOf ByteArray.empty y113 x13_1) (ji17)) == 32) = true := beq_iff_eq.mpr c21
             have c21b1 : ((bt (rdOf ByteArray.empty y113 x13_1) (ji17)) != 32) = false := bne_eq_false_iff_eq.mpr c21
             clear c21
             obtain rfl := Option.some.inj H
             have p116 : 0 ≤ (x13_1 : Int) := of_decide_eq_true (by first | (with_reducible assumption) | assumption)
             have q116 : x13_1 < (y113.length : Int) := of_decide_eq_true (by first | (with_reducible assumption) | assumption)
             obtain ⟨ad116, e116, hx116_0⟩ := Kd.at_string (Kd.R_reads' HO_11.out).2.2 x13_1 p116 q116
             cases e116
             replace p116 := eq_true p116
             replace q116 := eq_true q116
             go_wp2_with (first | ((with_reducible refine gate_callee (f := 47) rfl ?_); refine goesL_ (some 18) rfl rfl Tryd.func47 (by kernel_rfl) rfl #[.string (rdOf ByteArray.empty y113 x13_1)] rfl (by (try simp only [List.map_toArray, List.map_cons, List.map_nil]); first | done | rfl | (simp only [List.length_drop, List.length_take]; rfl)) ?_; (with_reducible refine (laws_printable.calls k1 (rdOf ByteArray.empty y113 x13_1) true _ A10.out).mono ?_); rintro e w' ⟨rfl, ⟨nd, rfl⟩⟩; refine ⟨_, rfl, ?_⟩; have p15 : 0 ≤ (0 : Int) := (by omega); have q15 : 0 < (rdOf ByteArray.empty y113 x13_1).size := (by have : (0 : Int) < ((rdOf ByteArray.empty y113 x13_1).size : Int) := of_decide_eq_true (by first | (with_reducible assumption) | assumption); omega); have hx15 : ∀ h : 0 < (rdOf ByteArray.empty y113 x13_1).size, (((rdOf ByteArray.empty y113 x13_1)[0]'h).toNat : Int) = bt (rdOf ByteArray.empty y113 x13_1) 0 := bt_at (rdOf ByteArray.empty y113 x13_1) 0; clear p15; have qi15 : (0 < ((rdOf ByteArray.empty y113 x13_1).size : Int)) = True := eq_true (of_decide_eq_true (by first | (with_reducible assumption) | assumption)); replace q15 := eq_true q15; have p20 : 0 ≤ ((ji17) : Int) := of_decide_eq_true (by first | (with_reducible assumption) | assumption); have q20 : (ji17) < ((rdOf ByteArray.empty y113 x13_1).size : Int) := of_decide_eq_true (by first | (with_reducible assumption) | assumption); have hx20 := bt_at (rdOf ByteArray.empty y113 x13_1) (ji17); replace p20 := eq_true p20; replace q20 := eq_true q20))
             go_ret
             exact ⟨by first | rfl | (simp [errW_none, errW_some] <;> rfl) | (simp only [← hji17]; first | rfl | (simp [errW_none, errW_some] <;> rfl)) | (simp [*, errW_none, errW_some] <;> rfl), by repeat (first | (with_reducible first | exact HB.out | apply below_alloc | apply pw_below_drewN | apply below_drew1 | refine below_set ?_ GE112.out) | exact HB.out)⟩
            ·rw [if_neg c21] at H
             have c21b0 : ((bt (rdOf ByteArray.empty y113 x13_1) (ji17)) == 32) = false := beq_eq_false_iff_ne.mpr c21
             have c21b1 : ((bt (rdOf ByteArray.empty y113 x13_1) (ji17)) != 32) = true := bne_iff_ne.mpr c21
             by_cases c22 : ((rdOf ByteArray.empty y113 x13_1).size : Int) > 400
             ·rw [if_pos c22] at H
              have c22b0 : decide (400 < ((rdOf ByteArray.empty y113 x13_1).size : Int)) = true := decide_eq_true c22
              have c22b1 : decide (400 < (rdOf ByteArray.empty y113 x13_1).size) = true := decide_eq_true (by omega)
              clear c22
              obtain rfl := Option.some.inj H
              have p116 : 0 ≤ (x13_1 : Int) := of_decide_eq_true (by first | (with_reducible assumption) | assumption)
              have q116 : x13_1 < (y113.length : Int) := of_decide_eq_true (by first | (with_reducible assumption) | assumption)
              obtain ⟨ad116, e116, hx116_0⟩ := Kd.at_string (Kd.R_reads' HO_11.out).2.2 x13_1 p116 q116
              cases e116
              replace p116 := eq_true p116
              replace q116 := eq_true q116
              go_wp2_with (first | ((with_reducible refine gate_callee (f := 47) rfl ?_); refine goesL_ (some 18) rfl rfl Tryd.func47 (by kernel_rfl) rfl #[.string (rdOf ByteArray.empty y113 x13_1)] rfl (by (try simp only [List.map_toArray, List.map_cons, List.map_nil]); first | done | rfl | (simp only [List.length_drop, List.length_take]; rfl)) ?_; (with_reducible refine (laws_printable.calls k1 (rdOf ByteArray.empty y113 x13_1) true _ A10.out).mono ?_); rintro e w' ⟨rfl, ⟨nd, rfl⟩⟩; refine ⟨_, rfl, ?_⟩; have p15 : 0 ≤ (0 : Int) := (by omega); have q15 : 0 < (rdOf ByteArray.empty y113 x13_1).size := (by have : (0 : Int) < ((rdOf ByteArray.empty y113 x13_1).size : Int) := of_decide_eq_true (by first | (with_reducible assumption) | assumption); omega); have hx15 : ∀ h : 0 < (rdOf ByteArray.empty y113 x13_1).size, (((rdOf ByteArray.empty y113 x13_1)[0]'h).toNat : Int) = bt (rdOf ByteArray.empty y113 x13_1) 0 := bt_at (rdOf ByteArray.empty y113 x13_1) 0; clear p15; have qi15 : (0 < ((rdOf ByteArray.empty y113 x13_1).size : Int)) = True := eq_true (of_decide_eq_true (by first | (with_reducible assumption) | assumption)); replace q15 := eq_true q15; have p20 : 0 ≤ ((ji17) : Int) := of_decide_eq_true (by first | (with_reducible assumption) | assumption); have q20 : (ji17) < ((rdOf ByteArray.empty y113 x13_1).size : Int) := of_decide_eq_true (by first | (with_reducible assumption) | assumption); have hx20 := bt_at (rdOf ByteArray.empty y113 x13_1) (ji17); replace p20 := eq_true p20; replace q20 := eq_true q20))
              go_ret
              exact ⟨by first | rfl | (simp [errW_none, errW_some] <;> rfl) | (simp only [← hji17]; first | rfl | (simp [errW_none, errW_some] <;> rfl)) | (simp [*, errW_none, errW_some] <;> rfl), by repeat (first | (with_reducible first | exact HB.out | apply below_alloc | apply pw_below_drewN | apply below_drew1 | refine below_set ?_ GE112.out) | exact HB.out)⟩
             ·rw [if_neg c22] at H
              have c22b0 : decide (400 < ((rdOf ByteArray.empty y113 x13_1).size : Int)) = false := decide_eq_false c22
              have c22b1 : decide (400 < (rdOf ByteArray.empty y113 x13_1).size) = false := decide_eq_false (by omega)
              clear c22
              have H' := Aside0.mk H
              clear H
              have p116 : 0 ≤ (x13_1 : Int) := of_decide_eq_true (by first | (with_reducible assumption) | assumption)
              have q116 : x13_1 < (y113.length : Int) := of_decide_eq_true (by first | (with_reducible assumption) | assumption)
              obtain ⟨ad116, e116, hx116_0⟩ := Kd.at_string (Kd.R_reads' HO_11.out).2.2 x13_1 p116 q116
              cases e116
              replace p116 := eq_true p116
              replace q116 := eq_true q116
              go_wp2_with (first | ((with_reducible refine gate_callee (f := 47) rfl ?_); refine goesL_ (some 18) rfl rfl Tryd.func47 (by kernel_rfl) rfl #[.string (rdOf ByteArray.empty y113 x13_1)] rfl (by (try simp only [List.map_toArray, List.map_cons, List.map_nil]); first | done | rfl | (simp only [List.length_drop, List.length_take]; rfl)) ?_; (with_reducible refine (laws_printable.calls k1 (rdOf ByteArray.empty y113 x13_1) true _ A10.out).mono ?_); rintro e w' ⟨rfl, ⟨nd, rfl⟩⟩; refine ⟨_, rfl, ?_⟩; have p15 : 0 ≤ (0 : Int) := (by omega); have q15 : 0 < (rdOf ByteArray.empty y113 x13_1).size := (by have : (0 : Int) < ((rdOf ByteArray.empty y113 x13_1).size : Int) := of_decide_eq_true (by first | (with_reducible assumption) | assumption); omega); have hx15 : ∀ h : 0 < (rdOf ByteArray.empty y113 x13_1).size, (((rdOf ByteArray.empty y113 x13_1)[0]'h).toNat : Int) = bt (rdOf ByteArray.empty y113 x13_1) 0 := bt_at (rdOf ByteArray.empty y113 x13_1) 0; clear p15; have qi15 : (0 < ((rdOf ByteArray.empty y113 x13_1).size : Int)) = True := eq_true (of_decide_eq_true (by first | (with_reducible assumption) | assumption)); replace q15 := eq_true q15; have p20 : 0 ≤ ((ji17) : Int) := of_decide_eq_true (by first | (with_reducible assumption) | assumption); have q20 : (ji17) < ((rdOf ByteArray.empty y113 x13_1).size : Int) := of_decide_eq_true (by first | (with_reducible assumption) | assumption); have hx20 := bt_at (rdOf ByteArray.empty y113 x13_1) (ji17); replace p20 := eq_true p20; replace q20 := eq_true q20))
              go_roundg k1
              case measure => have := HK1.out; omega
              case rel => exact ⟨(wrap64 (x13_1 + 1)), (by first | rfl | (simp; done) | (simp [*]; done)), H', ⟨by have := HK1.out; omega⟩, ⟨by (with_reducible repeat (first | apply Kd.R_alloc | apply Kd.R_drewN | apply Kd.R_drew)); exact HO_11.out⟩, ⟨by (with_reducible repeat (first | refine blk_drewN ?_ _ | refine blk_drew ?_ | refine blk_alloc ?_ _)); exact BK112.out⟩, ⟨by repeat (first | (with_reducible first | exact HB.out | apply below_alloc | apply pw_below_drewN | apply below_drew1 | refine below_set ?_ GE112.out) | exact HB.out)⟩⟩
           ·rw [if_neg c19] at H
            exact absurd H (by simp)
          ·rw [if_neg c18] at H
           exact absurd H (by simp)
        ·rw [if_neg c14] at H
         exact absurd H (by simp)
      ·replace c11 := Bool.eq_false_iff.mpr c11
       subst c11
       have H1 : (some false) = some r := by rw [if_neg (show ¬ (false = true) by decide)] at H; exact H
       clear H
       have H := H1
       clear H1
       obtain rfl := Option.some.inj H
       have p116 : 0 ≤ (x13_1 : Int) := of_decide_eq_true (by first | (with_reducible assumption) | assumption)
       have q116 : x13_1 < (y113.length : Int) := of_decide_eq_true (by first | (with_reducible assumption) | assumption)
       obtain ⟨ad116, e116, hx116_0⟩ := Kd.at_string (Kd.R_reads' HO_11.out).2.2 x13_1 p116 q116
       cases e116
       replace p116 := eq_true p116
       replace q116 := eq_true q116
       go_wp2_with (first | ((with_reducible refine gate_callee (f := 47) rfl ?_); refine goesL_ (some 18) rfl rfl Tryd.func47 (by kernel_rfl) rfl #[.string (rdOf ByteArray.empty y113 x13_1)] rfl (by (try simp only [List.map_toArray, List.map_cons, List.map_nil]); first | done | rfl | (simp only [List.length_drop, List.length_take]; rfl)) ?_; (with_reducible refine (laws_printable.calls k1 (rdOf ByteArray.empty y113 x13_1) false _ A10.out).mono ?_); rintro e w' ⟨rfl, ⟨nd, rfl⟩⟩; refine ⟨_, rfl, ?_⟩))
       go_ret
       exact ⟨by first | rfl | (simp [errW_none, errW_some] <;> rfl) | (simp [*, errW_none, errW_some] <;> rfl), by repeat (first | (with_reducible first | exact HB.out | apply below_alloc | apply pw_below_drewN | apply below_drew1 | refine below_set ?_ GE112.out) | exact HB.out)⟩
     ·rw [if_neg c9] at H
      exact absurd H (by simp)
    ·rw [if_neg c8] at H
     exact absurd H (by simp)
   ·rw [if_neg c7] at H
    have c7b0 : decide (x13_1 < (y113.length : Int)) = false := decide_eq_false c7
    clear c7
    by_cases c23 : a0_0.toList = ([] : List UInt8)
    ·rw [if_pos c23] at H
     have c23b0 : (a0_0.toList == ([] : List UInt8)) = true := beq_iff_eq.mpr c23
     have c23b1 : (a0_0.toList != ([] : List UInt8)) = false := bne_eq_false_iff_eq.mpr c23
     clear c23
     obtain rfl := Option.some.inj H
     have hcz24_0 : wr.cell? ⟨gb112, 0, none⟩ = some (.string a0_0) := (blk_cell BK112.out 0).trans rfl
     have hcz24_1 : wr.cell? ⟨gb112, 1, none⟩ = some (.string a0_1) := (blk_cell BK112.out 1).trans rfl
     have hcz24_2 : wr.cell? ⟨gb112, 2, none⟩ = some (.string a0_2) := (blk_cell BK112.out 2).trans rfl
     have hfz24_0 := blk_frozen BK112.out 0
     have hfz24_1 := blk_frozen BK112.out 1
     have hfz24_2 := blk_frozen BK112.out 2
     go_wp2
     go_ret
     exact ⟨by first | rfl | (simp [errW_none, errW_some] <;> rfl) | (simp [*, errW_none, errW_some] <;> rfl), by repeat (first | (with_reducible first | exact HB.out | apply below_alloc | apply pw_below_drewN | apply below_drew1 | refine below_set ?_ GE112.out) | exact HB.out)⟩
    ·rw [if_neg c23] at H
     have c23b0 : (a0_0.toList == ([] : List UInt8)) = false := beq_eq_false_iff_ne.mpr c23
     have c23b1 : (a0_0.toList != ([] : List UInt8)) = true := bne_iff_ne.mpr c23
     replace H := Option.bind_eq_some_iff.mp H
     obtain ⟨t118, A250, H⟩ := H
     replace H : (if t118 = true then (some false) else (if a0_1.toList = ([] : List UInt8) then (some false) else ((laws_has.f k1 a0_1 (⟨#[61]⟩ : ByteArray)).bind fun t119 => (if t119 = true then (some false) else (if 0 < (a0_1.size : Int) then ((laws_letter.f (bt a0_1 0)).bind fun t120 => (if t120 = true then (if a0_2.toList = ([] : List UInt8) then (some true) else (if 0 ≤ (wrap64 ((a0_2.size : Int) - 1)) then (if (wrap64 ((a0_2.size : Int) - 1)) < (a0_2.size : Int) then (some ((bt a0_2 (wrap64 ((a0_2.size : Int) - 1))) != 92)) else (none)) else (none))) else (some false))) else (none)))))) = some r := H
     have A25 := Aside0.mk A250
     clear A250
     by_cases c26 : t118 = true
     ·subst c26
      have H1 : (some false) = some r := by rw [if_pos rfl] at H; exact H
      clear H
      have H := H1
      clear H1
      obtain rfl := Option.some.inj H
      have hcz27_0 : wr.cell? ⟨gb112, 0, none⟩ = some (.string a0_0) := (blk_cell BK112.out 0).trans rfl
      have hcz27_1 : wr.cell? ⟨gb112, 1, none⟩ = some (.string a0_1) := (blk_cell BK112.out 1).trans rfl
      have hcz27_2 : wr.cell? ⟨gb112, 2, none⟩ = some (.string a0_2) := (blk_cell BK112.out 2).trans rfl
      have hfz27_0 := blk_frozen BK112.out 0
      have hfz27_1 := blk_frozen BK112.out 1
      have hfz27_2 := blk_frozen BK112.out 2
      go_wp2_with (first | (go_at_call 48; (with_reducible refine (laws_has.calls k1 a0_0 (⟨#[91, 93]⟩ : ByteArray) true _ A25.out).mono ?_); rintro e w' ⟨rfl, ⟨nd, rfl⟩⟩))
      go_ret
      exact ⟨by first | rfl | (simp [errW_none, errW_some] <;> rfl) | (simp [*, errW_none, errW_some] <;> rfl), by repeat (first | (with_reducible first | exact HB.out | apply below_alloc | apply pw_below_drewN | apply below_drew1 | refine below_set ?_ GE112.out) | exact HB.out)⟩
     ·replace c26 := Bool.eq_false_iff.mpr c26
      subst c26
      have H1 : (if a0_1.toList = ([] : List UInt8) then (some false) else ((laws_has.f k1 a0_1 (⟨#[61]⟩ : ByteArray)).bind fun t119 => (if t119 = true then (some false) else (if 0 < (a0_1.size : Int) then ((laws_letter.f (bt a0_1 0)).bind fun t120 => (if t120 = true then (if a0_2.toList = ([] : List UInt8) then (some true) else (if 0 ≤ (wrap64 ((a0_2.size : Int) - 1)) then (if (wrap64 ((a0_2.size : Int) - 1)) < (a0_2.size : Int) then (some ((bt a0_2 (wrap64 ((a0_2.size : Int) - 1))) != 92)) else (none)) else (none))) else (some false))) else (none))))) = some r := by rw [if_neg (show ¬ (false = true) by decide)] at H; exact H
      clear H
      have H := H1
      clear H1
      by_cases c28 : a0_1.toList = ([] : List UInt8)
      ·rw [if_pos c28] at H
       have c28b0 : (a0_1.toList == ([] : List UInt8)) = true := beq_iff_eq.mpr c28
       have c28b1 : (a0_1.toList != ([] : List UInt8)) = false := bne_eq_false_iff_eq.mpr c28
       clear c28
       obtain rfl := Option.some.inj H
       have hcz29_0 : wr.cell? ⟨gb112, 0, none⟩ = some (.string a0_0) := (blk_cell BK112.out 0).trans rfl
       have hcz29_1 : wr.cell? ⟨gb112, 1, none⟩ = some (.string a0_1) := (blk_cell BK112.out 1).trans rfl
       have hcz29_2 : wr.cell? ⟨gb112, 2, none⟩ = some (.string a0_2) := (blk_cell BK112.out 2).trans rfl
       have hfz29_0 := blk_frozen BK112.out 0
       have hfz29_1 := blk_frozen BK112.out 1
       have hfz29_2 := blk_frozen BK112.out 2
       go_wp2_with (first | (go_at_call 48; (with_reducible refine (laws_has.calls k1 a0_0 (⟨#[91, 93]⟩ : ByteArray) false _ A25.out).mono ?_); rintro e w' ⟨rfl, ⟨nd, rfl⟩⟩))
       go_ret
       exact ⟨by first | rfl | (simp [errW_none, errW_some] <;> rfl) | (simp [*, errW_none, errW_some] <;> rfl), by repeat (first | (with_reducible first | exact HB.out | apply below_alloc | apply pw_below_drewN | apply below_drew1 | refine below_set ?_ GE112.out) | exact HB.out)⟩
      ·rw [if_neg c28] at H
       have c28b0 : (a0_1.toList == ([] : List UInt8)) = false := beq_eq_false_iff_ne.mpr c28
       have c28b1 : (a0_1.toList != ([] : List UInt8)) = true := bne_iff_ne.mpr c28
       replace H := Option.bind_eq_some_iff.mp H
       obtain ⟨t119, A300, H⟩ := H
       replace H : (if t119 = true then (some false) else (if 0 < (a0_1.size : Int) then ((laws_letter.f (bt a0_1 0)).bind fun t120 => (if t120 = true then (if a0_2.toList = ([] : List UInt8) then (some true) else (if 0 ≤ (wrap64 ((a0_2.size : Int) - 1)) then (if (wrap64 ((a0_2.size : Int) - 1)) < (a0_2.size : Int) then (some ((bt a0_2 (wrap64 ((a0_2.size : Int) - 1))) != 92)) else (none)) else (none))) else (some false))) else (none))) = some r := H
       have A30 := Aside0.mk A300
       clear A300
       by_cases c31 : t119 = true
       ·subst c31
        have H1 : (some false) = some r := by rw [if_pos rfl] at H; exact H
        clear H
        have H := H1
        clear H1
        obtain rfl := Option.some.inj H
        have hcz32_0 : wr.cell? ⟨gb112, 0, none⟩ = some (.string a0_0) := (blk_cell BK112.out 0).trans rfl
        have hcz32_1 : wr.cell? ⟨gb112, 1, none⟩ = some (.string a0_1) := (blk_cell BK112.out 1).trans rfl
        have hcz32_2 : wr.cell? ⟨gb112, 2, none⟩ = some (.string a0_2) := (blk_cell BK112.out 2).trans rfl
        have hfz32_0 := blk_frozen BK112.out 0
        have hfz32_1 := blk_frozen BK112.out 1
        have hfz32_2 := blk_frozen BK112.out 2
        go_wp2_with (first | (go_at_call 48; (with_reducible refine (laws_has.calls k1 a0_0 (⟨#[91, 93]⟩ : ByteArray) false _ A25.out).mono ?_); rintro e w' ⟨rfl, ⟨nd, rfl⟩⟩) | (go_at_call 48; (with_reducible refine (laws_has.calls k1 a0_1 (⟨#[61]⟩ : ByteArray) true _ A30.out).mono ?_); rintro e w' ⟨rfl, ⟨nd, rfl⟩⟩))
        go_ret
        exact ⟨by first | rfl | (simp [errW_none, errW_some] <;> rfl) | (simp [*, errW_none, errW_some] <;> rfl), by repeat (first | (with_reducible first | exact HB.out | apply below_alloc | apply pw_below_drewN | apply below_drew1 | refine below_set ?_ GE112.out) | exact HB.out)⟩
       ·replace c31 := Bool.eq_false_iff.mpr c31
        subst c31
        have H1 : (if 0 < (a0_1.size : Int) then ((laws_letter.f (bt a0_1 0)).bind fun t120 => (if t120 = true then (if a0_2.toList = ([] : List UInt8) then (some true) else (if 0 ≤ (wrap64 ((a0_2.size : Int) - 1)) then (if (wrap64 ((a0_2.size : Int) - 1)) < (a0_2.size : Int) then (some ((bt a0_2 (wrap64 ((a0_2.size : Int) - 1))) != 92)) else (none)) else (none))) else (some false))) else (none)) = some r := by rw [if_neg (show ¬ (false = true) by decide)] at H; exact H
        clear H
        have H := H1
        clear H1
        by_cases c33 : 0 < (a0_1.size : Int)
        ·rw [if_pos c33] at H
         have c33b0 : decide (0 < (a0_1.size : Int)) = true := decide_eq_true c33
         have c33b1 : decide (0 < a0_1.size) = true := decide_eq_true (by omega)
         clear c33
         replace H := Option.bind_eq_some_iff.mp H
         obtain ⟨t120, A350, H⟩ := H
         replace H : (if t120 = true then (if a0_2.toList = ([] : List UInt8) then (some true) else (if 0 ≤ (wrap64 ((a0_2.size : Int) - 1)) then (if (wrap64 ((a0_2.size : Int) - 1)) < (a0_2.size : Int) then (some ((bt a0_2 (wrap64 ((a0_2.size : Int) - 1))) != 92)) else (none)) else (none))) else (some false)) = some r := H
         have A35 := Aside0.mk A350
         clear A350
         by_cases c36 : t120 = true
         ·subst c36
          have H1 : (if a0_2.toList = ([] : List UInt8) then (some true) else (if 0 ≤ (wrap64 ((a0_2.size : Int) - 1)) then (if (wrap64 ((a0_2.size : Int) - 1)) < (a0_2.size : Int) then (some ((bt a0_2 (wrap64 ((a0_2.size : Int) - 1))) != 92)) else (none)) else (none))) = some r := by rw [if_pos rfl] at H; exact H
          clear H
          have H := H1
          clear H1
          by_cases c37 : a0_2.toList = ([] : List UInt8)
          ·rw [if_pos c37] at H
           have c37b0 : (a0_2.toList == ([] : List UInt8)) = true := beq_iff_eq.mpr c37
           have c37b1 : (a0_2.toList != ([] : List UInt8)) = false := bne_eq_false_iff_eq.mpr c37
           clear c37
           obtain rfl := Option.some.inj H
           have hcz38_0 : wr.cell? ⟨gb112, 0, none⟩ = some (.string a0_0) := (blk_cell BK112.out 0).trans rfl
           have hcz38_1 : wr.cell? ⟨gb112, 1, none⟩ = some (.string a0_1) := (blk_cell BK112.out 1).trans rfl
           have hcz38_2 : wr.cell? ⟨gb112, 2, none⟩ = some (.string a0_2) := (blk_cell BK112.out 2).trans rfl
           have hfz38_0 := blk_frozen BK112.out 0
           have hfz38_1 := blk_frozen BK112.out 1
           have hfz38_2 := blk_frozen BK112.out 2
           go_wp2_with (first | (go_at_call 48; (with_reducible refine (laws_has.calls k1 a0_0 (⟨#[91, 93]⟩ : ByteArray) false _ A25.out).mono ?_); rintro e w' ⟨rfl, ⟨nd, rfl⟩⟩) | (go_at_call 48; (with_reducible refine (laws_has.calls k1 a0_1 (⟨#[61]⟩ : ByteArray) false _ A30.out).mono ?_); rintro e w' ⟨rfl, ⟨nd, rfl⟩⟩; have p34 : 0 ≤ (0 : Int) := (by omega); have q34 : 0 < a0_1.size := (by have : (0 : Int) < (a0_1.size : Int) := of_decide_eq_true (by first | (with_reducible assumption) | assumption); omega); have hx34 : ∀ h : 0 < a0_1.size, ((a0_1[0]'h).toNat : Int) = bt a0_1 0 := bt_at a0_1 0; clear p34; have qi34 : (0 < (a0_1.size : Int)) = True := eq_true (of_decide_eq_true (by first | (with_reducible assumption) | assumption)); replace q34 := eq_true q34) | (go_at_call 49; (with_reducible refine (laws_letter.calls (bt a0_1 0) true _ A35.out).mono ?_); rintro e w' ⟨rfl, ⟨nd, rfl⟩⟩))
           go_ret
           exact ⟨by first | rfl | (simp [errW_none, errW_some] <;> rfl) | (simp [*, errW_none, errW_some] <;> rfl), by repeat (first | (with_reducible first | exact HB.out | apply below_alloc | apply pw_below_drewN | apply below_drew1 | refine below_set ?_ GE112.out) | exact HB.out)⟩
          ·rw [if_neg c37] at H
           have c37b0 : (a0_2.toList == ([] : List UInt8)) = false := beq_eq_false_iff_ne.mpr c37
           have c37b1 : (a0_2.toList != ([] : List UInt8)) = true := bne_iff_ne.mpr c37
           obtain ⟨ji39, hji39⟩ : ∃ j_ : Int, (wrap64 ((a0_2.size : Int) - 1)) = j_ := ⟨_, rfl⟩
           replace H : (if 0 ≤ (ji39) then (if (ji39) < (a0_2.size : Int) then (some ((bt a0_2 (ji39)) != 92)) else (none)) else (none)) = some r := by first | (rw [hji39] at H; exact H) | (simp only [hji39] at H ⊢; exact H)
           (try rw [hji39] at A25)
           (try rw [hji39] at A30)
           (try rw [hji39] at A35)
           have hji39w : (IntKind.i64.wrap ((a0_2.size : Int) - 1)) = ji39 := (i64_w _).trans hji39
           by_cases c40 : 0 ≤ (ji39)
           ·rw [if_pos c40] at H
            have c40b0 : decide (0 ≤ (ji39)) = true := decide_eq_true c40
            clear c40
            by_cases c41 : (ji39) < (a0_2.size : Int)
            ·rw [if_pos c41] at H
             have c41b0 : decide ((ji39) < (a0_2.size : Int)) = true := decide_eq_true c41
             clear c41
             obtain rfl := Option.some.inj H
             have hcz43_0 : wr.cell? ⟨gb112, 0, none⟩ = some (.string a0_0) := (blk_cell BK112.out 0).trans rfl
             have hcz43_1 : wr.cell? ⟨gb112, 1, none⟩ = some (.string a0_1) := (blk_cell BK112.out 1).trans rfl
             have hcz43_2 : wr.cell? ⟨gb112, 2, none⟩ = some (.string a0_2) := (blk_cell BK112.out 2).trans rfl
             have hfz43_0 := blk_frozen BK112.out 0
             have hfz43_1 := blk_frozen BK112.out 1
             have hfz43_2 := blk_frozen BK112.out 2
             go_wp2_with (first | (go_at_call 48; (with_reducible refine (laws_has.calls k1 a0_0 (⟨#[91, 93]⟩ : ByteArray) false _ A25.out).mono ?_); rintro e w' ⟨rfl, ⟨nd, rfl⟩⟩) | (go_at_call 48; (with_reducible refine (laws_has.calls k1 a0_1 (⟨#[61]⟩ : ByteArray) false _ A30.out).mono ?_); rintro e w' ⟨rfl, ⟨nd, rfl⟩⟩; have p34 : 0 ≤ (0 : Int) := (by omega); have q34 : 0 < a0_1.size := (by have : (0 : Int) < (a0_1.size : Int) := of_decide_eq_true (by first | (with_reducible assumption) | assumption); omega); have hx34 : ∀ h : 0 < a0_1.size, ((a0_1[0]'h).toNat : Int) = bt a0_1 0 := bt_at a0_1 0; clear p34; have qi34 : (0 < (a0_1.size : Int)) = True := eq_true (of_decide_eq_true (by first | (with_reducible assumption) | assumption)); replace q34 := eq_true q34) | (go_at_call 49; (with_reducible refine (laws_letter.calls (bt a0_1 0) true _ A35.out).mono ?_); rintro e w' ⟨rfl, ⟨nd, rfl⟩⟩; have p42 : 0 ≤ ((ji39) : Int) := of_decide_eq_true (by first | (with_reducible assumption) | assumption); have q42 : (ji39) < (a0_2.size : Int) := of_decide_eq_true (by first | (with_reducible assumption) | assumption); have hx42 := bt_at a0_2 (ji39); replace p42 := eq_true p42; replace q42 := eq_true q42))
             go_ret
             exact ⟨by first | rfl | (simp [errW_none, errW_some] <;> rfl) | (simp only [← hji39]; first | rfl | (simp [errW_none, errW_some] <;> rfl)) | (simp [*, errW_none, errW_some] <;> rfl), by repeat (first | (with_reducible first | exact HB.out | apply below_alloc | apply pw_below_drewN | apply below_drew1 | refine below_set ?_ GE112.out) | exact HB.out)⟩
            ·rw [if_neg c41] at H
             exact absurd H (by simp)
           ·rw [if_neg c40] at H
            exact absurd H (by simp)
         ·replace c36 := Bool.eq_false_iff.mpr c36
          subst c36
          have H1 : (some false) = some r := by rw [if_neg (show ¬ (false = true) by decide)] at H; exact H
          clear H
          have H := H1
          clear H1
          obtain rfl := Option.some.inj H
          have hcz44_0 : wr.cell? ⟨gb112, 0, none⟩ = some (.string a0_0) := (blk_cell BK112.out 0).trans rfl
          have hcz44_1 : wr.cell? ⟨gb112, 1, none⟩ = some (.string a0_1) := (blk_cell BK112.out 1).trans rfl
          have hcz44_2 : wr.cell? ⟨gb112, 2, none⟩ = some (.string a0_2) := (blk_cell BK112.out 2).trans rfl
          have hfz44_0 := blk_frozen BK112.out 0
          have hfz44_1 := blk_frozen BK112.out 1
          have hfz44_2 := blk_frozen BK112.out 2
          go_wp2_with (first | (go_at_call 48; (with_reducible refine (laws_has.calls k1 a0_0 (⟨#[91, 93]⟩ : ByteArray) false _ A25.out).mono ?_); rintro e w' ⟨rfl, ⟨nd, rfl⟩⟩) | (go_at_call 48; (with_reducible refine (laws_has.calls k1 a0_1 (⟨#[61]⟩ : ByteArray) false _ A30.out).mono ?_); rintro e w' ⟨rfl, ⟨nd, rfl⟩⟩; have p34 : 0 ≤ (0 : Int) := (by omega); have q34 : 0 < a0_1.size := (by have : (0 : Int) < (a0_1.size : Int) := of_decide_eq_true (by first | (with_reducible assumption) | assumption); omega); have hx34 : ∀ h : 0 < a0_1.size, ((a0_1[0]'h).toNat : Int) = bt a0_1 0 := bt_at a0_1 0; clear p34; have qi34 : (0 < (a0_1.size : Int)) = True := eq_true (of_decide_eq_true (by first | (with_reducible assumption) | assumption)); replace q34 := eq_true q34) | (go_at_call 49; (with_reducible refine (laws_letter.calls (bt a0_1 0) false _ A35.out).mono ?_); rintro e w' ⟨rfl, ⟨nd, rfl⟩⟩))
          go_ret
          exact ⟨by first | rfl | (simp [errW_none, errW_some] <;> rfl) | (simp [*, errW_none, errW_some] <;> rfl), by repeat (first | (with_reducible first | exact HB.out | apply below_alloc | apply pw_below_drewN | apply below_drew1 | refine below_set ?_ GE112.out) | exact HB.out)⟩
        ·rw [if_neg c33] at H
         exact absurd H (by simp)
/-! ### laws_plainOptions: function 22 -/
def laws_plainOptions.l0 : Nat → List (S30) → List (S30) → Int → Int → Option (Bool)
 | 0, _, _, _, _ => none
 | k + 1, x0, x5, x6, x7 => if x7 < x6 then (if 0 ≤ x7 then (if x7 < (x5.length : Int) then ((laws_plainOption.f k ((rd_T30 x5 x7).f0) ((rd_T30 x5 x7).f1) ((rd_T30 x5 x7).f2)).bind fun t123 => (if t123 = true then (laws_plainOptions.l0 k x0 x5 x6 (wrap64 (x7 + 1))) else (some false))) else (none)) else (none)) else (some (decide ((x0.length : Int) ≤ 200)))
def laws_plainOptions.f (k : Nat) (l0 : List (S30)) : Option (Bool) := laws_plainOptions.l0 k l0 l0 (l0.length : Int) 0
theorem laws_plainOptions.mono_l : ∀ k, (∀ y0 y1 y2 y3, LeO (laws_plainOptions.l0 k y0 y1 y2 y3) (laws_plainOptions.l0 (k + 1) y0 y1 y2 y3))
 | 0 => fun _ _ _ _ r h => by simp [laws_plainOptions.l0] at h
 | k + 1 => by
  have ih0 := laws_plainOptions.mono_l k
  ·intro y0 y1 y2 y3
   unfold laws_plainOptions.l0
   repeat' first
   | (with_reducible exact ih0 _ _ _ _)
   | (with_reducible exact laws_plainOption.mono _ _ _ _)
   | (with_reducible exact LeO.refl _)
   | (with_reducible exact LeO.none _)
   | (with_reducible refine LeO.ite ?_ ?_)
   | (with_reducible refine LeO.bind ?_ (fun _ => ?_))
   | exact ih0 _ _ _ _
   | exact laws_plainOption.mono _ _ _ _
   | exact LeO.none _
   | refine LeO.ite ?_ ?_
   | refine LeO.bind ?_ (fun _ => ?_)
theorem laws_plainOptions.mono : ∀ a0 k, LeO (laws_plainOptions.f k a0) (laws_plainOptions.f (k + 1) a0) := by
 intro a0 k
 have ih0 := laws_plainOptions.mono_l k
 unfold laws_plainOptions.f
 repeat' first
   | (with_reducible exact ih0 _ _ _ _)
   | (with_reducible exact laws_plainOption.mono _ _ _ _)
   | (with_reducible exact LeO.refl _)
   | (with_reducible exact LeO.none _)
   | (with_reducible refine LeO.ite ?_ ?_)
   | (with_reducible refine LeO.bind ?_ (fun _ => ?_))
   | exact ih0 _ _ _ _
   | exact laws_plainOption.mono _ _ _ _
   | exact LeO.none _
   | refine LeO.ite ?_ ?_
   | refine LeO.bind ?_ (fun _ => ?_)
set_option maxHeartbeats 8000000 in
set_option maxRecDepth 100000 in
theorem laws_plainOptions.calls (k : Nat) (A0 : Option Addr) (c0 : Nat) (l0 : List (S30)) (r : Bool) (w : World) (hr0 : Kd.C k30 w A0 l0.length l0) (hc0 : l0.length ≤ c0) (h : laws_plainOptions.f k l0 = some r) :
  Calls Tryd.prog 22 #[.slice A0 l0.length c0] w fun e w' => e = .returned (.bool r) ∧ Below w.heap.size w w' := by
 have hu30 := Tryd.underlying30
 have HR0 := Aside0.mk hr0
 have HC0 := Aside0.mk hc0
 clear hr0 hc0
 have HB := Aside0.mk (Below.refl w.heap.size w)
 have H : (laws_plainOptions.l0 k l0 l0 (l0.length : Int) 0) = some r := h
 clear h
 have H' := Aside0.mk H
 clear H
 go_enter Tryd.func22, Tryd.ntmps22
 go_wp2
 go_loopg [7] k (fun kq v7 w' => ∃ (x7_1 : Int), v7 = .int .i64 x7_1 ∧ Aside0 (laws_plainOptions.l0 kq l0 l0 (l0.length : Int) x7_1 = some r) ∧ Aside0 (kq ≤ k) ∧ Aside0 (Below w.heap.size w w'))
 case atStart => exact ⟨(0), (by first | rfl | (simp; done) | (simp [*]; done)), H', ⟨Nat.le_refl _⟩, ⟨by repeat (first | (with_reducible first | exact HB.out | apply below_alloc | apply pw_below_drewN | apply below_drew1) | exact HB.out)⟩⟩
 case round =>
  clear H'
  obtain ⟨x7_1, rfl, HA, HK1, HB⟩ := hrel
  cases gk with
  | zero => exact absurd HA.out (by simp [laws_plainOptions.l0])
  | succ k1 =>
   have H := HA.out
   clear HA
   simp only [laws_plainOptions.l0] at H
   by_cases c2 : x7_1 < (l0.length : Int)
   ·rw [if_pos c2] at H
    have c2b0 : decide (x7_1 < (l0.length : Int)) = true := decide_eq_true c2
    clear c2
    by_cases c3 : 0 ≤ x7_1
    ·rw [if_pos c3] at H
     have c3b0 : decide (0 ≤ x7_1) = true := decide_eq_true c3
     clear c3
     by_cases c4 : x7_1 < (l0.length : Int)
     ·rw [if_pos c4] at H
      have c4b0 : decide (x7_1 < (l0.length : Int)) = true := decide_eq_true c4
      clear c4
      replace H := Option.bind_eq_some_iff.mp H
      obtain ⟨t123, A50, H⟩ := H
      replace H : (if t123 = true then (laws_plainOptions.l0 k1 l0 l0 (l0.length : Int) (wrap64 (x7_1 + 1))) else (some false)) = some r := H
      have A5 := Aside0.mk A50
      clear A50
      by_cases c6 : t123 = true
      ·subst c6
       have H1 : (laws_plainOptions.l0 k1 l0 l0 (l0.length : Int) (wrap64 (x7_1 + 1))) = some r := by rw [if_pos rfl] at H; exact H
       clear H
       have H := H1
       clear H1
       have H' := Aside0.mk H
       clear H
       have p121 : 0 ≤ (x7_1 : Int) := of_decide_eq_true (by first | (with_reducible assumption) | assumption)
       have q121 : x7_1 < (l0.length : Int) := of_decide_eq_true (by first | (with_reducible assumption) | assumption)
       obtain ⟨ad121, e121, hx121_0, hx121_1, hx121_2⟩ := at_T30 HR0.out x7_1 p121 q121
       cases e121
       replace hx121_0 := (HB.out.cell (World.block_lt_of_cell? w _ hx121_0)).trans hx121_0
       replace hx121_1 := (HB.out.cell (World.block_lt_of_cell? w _ hx121_1)).trans hx121_1
       replace hx121_2 := (HB.out.cell (World.block_lt_of_cell? w _ hx121_2)).trans hx121_2
       replace p121 := eq_true p121
       replace q121 := eq_true q121
       go_wp2_with (first | ((with_reducible refine gate_dst (N := 4) rfl ?_); refine box_event ?hg (N := 4) ?hd (cs := #[.string (⟨#[]⟩ : ByteArray), .string (⟨#[]⟩ : ByteArray), .string (⟨#[]⟩ : ByteArray)]) (t := 30) ?hr ?_; (case hd => rfl); (case hg => rfl); (case hr => first | (go_simp; done) | (go_simp; rfl)); intro gb122 hg w7 hbox hb; have n0_ := Aside0.mk (below_step (by repeat (first | (with_reducible first | exact HB.out | apply below_alloc | apply pw_below_drewN | apply below_drew1) | exact HB.out)) hb); have n1_ := Aside0.mk (hbox); have n2_ := Aside0.mk ((by rw [hg]; exact (below_size (by repeat (first | (with_reducible first | exact HB.out | apply below_alloc | apply pw_below_drewN | apply below_drew1) | exact HB.out))) : w.heap.size ≤ gb122)); have n3_ := Aside0.mk ((by rw [hg]; exact (below_size (by repeat (first | (with_reducible first | exact HB.out | apply below_alloc | apply pw_below_drewN | apply below_drew1) | exact HB.out))) : w.heap.size ≤ gb122)); clear HB; have HB := n0_; have BK122 := n1_; have GW122 := n2_; have GE122 := n3_; clear n0_ n1_ n2_ n3_; clear hb hbox hg; have hcz8_0 : w7.cell? ⟨gb122, 0, none⟩ = some (.string (⟨#[]⟩ : ByteArray)) := (blk_cell BK122.out 0).trans rfl; have hcz8_1 : w7.cell? ⟨gb122, 1, none⟩ = some (.string (⟨#[]⟩ : ByteArray)) := (blk_cell BK122.out 1).trans rfl; have hcz8_2 : w7.cell? ⟨gb122, 2, none⟩ = some (.string (⟨#[]⟩ : ByteArray)) := (blk_cell BK122.out 2).trans rfl; have hfz8_0 := blk_frozen BK122.out 0; have hfz8_1 := blk_frozen BK122.out 1; have hfz8_2 := blk_frozen BK122.out 2) | ((with_reducible refine gate_callee (f := 38) rfl ?_); refine goesL_ (some 12) rfl rfl Tryd.func38 (by kernel_rfl) rfl #[.agg #[.string ((rd_T30 l0 x7_1).f0), .string ((rd_T30 l0 x7_1).f1), .string ((rd_T30 l0 x7_1).f2)]] rfl (by (try simp only [List.map_toArray, List.map_cons, List.map_nil]); first | done | rfl | (simp only [List.length_drop, List.length_take]; rfl)) ?_; (with_reducible refine (laws_plainOption.calls k1 ((rd_T30 l0 x7_1).f0) ((rd_T30 l0 x7_1).f1) ((rd_T30 l0 x7_1).f2) true _ A5.out).mono ?_); rintro e w9 ⟨rfl, hb⟩; refine ⟨_, rfl, ?_⟩; have n0_ := Aside0.mk (blk_below (g := gb122) (o := .cells #[.string ((rd_T30 l0 x7_1).f0), .string ((rd_T30 l0 x7_1).f1), .string ((rd_T30 l0 x7_1).f2)] 30 (0, 0)) (by (with_reducible repeat (first | refine blk_drewN ?_ _ | refine blk_drew ?_ | refine blk_alloc ?_ _)); refine blk_put (cs := #[.string ((rd_T30 l0 x7_1).f0), .string ((rd_T30 l0 x7_1).f1), .string (⟨#[]⟩ : ByteArray)]) ?_ 2 _ rfl; (with_reducible repeat (first | refine blk_drewN ?_ _ | refine blk_drew ?_ | refine blk_alloc ?_ _)); refine blk_put (cs := #[.string ((rd_T30 l0 x7_1).f0), .string (⟨#[]⟩ : ByteArray), .string (⟨#[]⟩ : ByteArray)]) ?_ 1 _ rfl; (with_reducible repeat (first | refine blk_drewN ?_ _ | refine blk_drew ?_ | refine blk_alloc ?_ _)); refine blk_put (cs := #[.string (⟨#[]⟩ : ByteArray), .string (⟨#[]⟩ : ByteArray), .string (⟨#[]⟩ : ByteArray)]) ?_ 0 _ rfl; (with_reducible repeat (first | refine blk_drewN ?_ _ | refine blk_drew ?_ | refine blk_alloc ?_ _)); exact BK122.out) hb); have n1_ := Aside0.mk (below_step (by repeat (first | (with_reducible first | exact HB.out | apply below_alloc | apply pw_below_drewN | apply below_drew1 | refine below_set ?_ GE122.out) | exact HB.out)) hb); clear BK122; clear HB; have BK122 := n0_; have HB := n1_; clear n0_ n1_; (try clear hb); (try clear hb2); (try clear hk); (try clear hi)))
       go_roundg k1
       case measure => have := HK1.out; omega
       case rel => exact ⟨(wrap64 (x7_1 + 1)), (by first | rfl | (simp; done) | (simp [*]; done)), H', ⟨by have := HK1.out; omega⟩, ⟨by repeat (first | (with_reducible first | exact HB.out | apply below_alloc | apply pw_below_drewN | apply below_drew1 | refine below_set ?_ GE122.out) | exact HB.out)⟩⟩
      ·replace c6 := Bool.eq_false_iff.mpr c6
       subst c6
       have H1 : (some false) = some r := by rw [if_neg (show ¬ (false = true) by decide)] at H; exact H
       clear H
       have H := H1
       clear H1
       obtain rfl := Option.some.inj H
       have p121 : 0 ≤ (x7_1 : Int) := of_decide_eq_true (by first | (with_reducible assumption) | assumption)
       have q121 : x7_1 < (l0.length : Int) := of_decide_eq_true (by first | (with_reducible assumption) | assumption)
       obtain ⟨ad121, e121, hx121_0, hx121_1, hx121_2⟩ := at_T30 HR0.out x7_1 p121 q121
       cases e121
       replace hx121_0 := (HB.out.cell (World.block_lt_of_cell? w _ hx121_0)).trans hx121_0
       replace hx121_1 := (HB.out.cell (World.block_lt_of_cell? w _ hx121_1)).trans hx121_1
       replace hx121_2 := (HB.out.cell (World.block_lt_of_cell? w _ hx121_2)).trans hx121_2
       replace p121 := eq_true p121
       replace q121 := eq_true q121
       go_wp2_with (first | ((with_reducible refine gate_dst (N := 4) rfl ?_); refine box_event ?hg (N := 4) ?hd (cs := #[.string (⟨#[]⟩ : ByteArray), .string (⟨#[]⟩ : ByteArray), .string (⟨#[]⟩ : ByteArray)]) (t := 30) ?hr ?_; (case hd => rfl); (case hg => rfl); (case hr => first | (go_simp; done) | (go_simp; rfl)); intro gb122 hg w10 hbox hb; have n0_ := Aside0.mk (below_step (by repeat (first | (with_reducible first | exact HB.out | apply below_alloc | apply pw_below_drewN | apply below_drew1) | exact HB.out)) hb); have n1_ := Aside0.mk (hbox); have n2_ := Aside0.mk ((by rw [hg]; exact (below_size (by repeat (first | (with_reducible first | exact HB.out | apply below_alloc | apply pw_below_drewN | apply below_drew1) | exact HB.out))) : w.heap.size ≤ gb122)); have n3_ := Aside0.mk ((by rw [hg]; exact (below_size (by repeat (first | (with_reducible first | exact HB.out | apply below_alloc | apply pw_below_drewN | apply below_drew1) | exact HB.out))) : w.heap.size ≤ gb122)); clear HB; have HB := n0_; have BK122 := n1_; have GW122 := n2_; have GE122 := n3_; clear n0_ n1_ n2_ n3_; clear hb hbox hg; have hcz11_0 : w10.cell? ⟨gb122, 0, none⟩ = some (.string (⟨#[]⟩ : ByteArray)) := (blk_cell BK122.out 0).trans rfl; have hcz11_1 : w10.cell? ⟨gb122, 1, none⟩ = some (.string (⟨#[]⟩ : ByteArray)) := (blk_cell BK122.out 1).trans rfl; have hcz11_2 : w10.cell? ⟨gb122, 2, none⟩ = some (.string (⟨#[]⟩ : ByteArray)) := (blk_cell BK122.out 2).trans rfl; have hfz11_0 := blk_frozen BK122.out 0; have hfz11_1 := blk_frozen BK122.out 1; have hfz11_2 := blk_frozen BK122.out 2) | ((with_reducible refine gate_callee (f := 38) rfl ?_); refine goesL_ (some 12) rfl rfl Tryd.func38 (by kernel_rfl) rfl #[.agg #[.string ((rd_T30 l0 x7_1).f0), .string ((rd_T30 l0 x7_1).f1), .string ((rd_T30 l0 x7_1).f2)]] rfl (by (try simp only [List.map_toArray, List.map_cons, List.map_nil]); first | done | rfl | (simp only [List.length_drop, List.length_take]; rfl)) ?_; (with_reducible refine (laws_plainOption.calls k1 ((rd_T30 l0 x7_1).f0) ((rd_T30 l0 x7_1).f1) ((rd_T30 l0 x7_1).f2) false _ A5.out).mono ?_); rintro e w12 ⟨rfl, hb⟩; refine ⟨_, rfl, ?_⟩; have n0_ := Aside0.mk (blk_below (g := gb122) (o := .cells #[.string ((rd_T30 l0 x7_1).f0), .string ((rd_T30 l0 x7_1).f1), .string ((rd_T30 l0 x7_1).f2)] 30 (0, 0)) (by (with_reducible repeat (first | refine blk_drewN ?_ _ | refine blk_drew ?_ | refine blk_alloc ?_ _)); refine blk_put (cs := #[.string ((rd_T30 l0 x7_1).f0), .string ((rd_T30 l0 x7_1).f1), .string (⟨#[]⟩ : ByteArray)]) ?_ 2 _ rfl; (with_reducible repeat (first | refine blk_drewN ?_ _ | refine blk_drew ?_ | refine blk_alloc ?_ _)); refine blk_put (cs := #[.string ((rd_T30 l0 x7_1).f0), .string (⟨#[]⟩ : ByteArray), .string (⟨#[]⟩ : ByteArray)]) ?_ 1 _ rfl; (with_reducible repeat (first | refine blk_drewN ?_ _ | refine blk_drew ?_ | refine blk_alloc ?_ _)); refine blk_put (cs := #[.string (⟨#[]⟩ : ByteArray), .string (⟨#[]⟩ : ByteArray), .string (⟨#[]⟩ : ByteArray)]) ?_ 0 _ rfl; (with_reducible repeat (first | refine blk_drewN ?_ _ | refine blk_drew ?_ | refine blk_alloc ?_ _)); exact BK122.out) hb); have n1_ := Aside0.mk (below_step (by repeat (first | (with_reducible first | exact HB.out | apply below_alloc | apply pw_below_drewN | apply below_drew1 | refine below_set ?_ GE122.out) | exact HB.out)) hb); clear BK122; clear HB; have BK122 := n0_; have HB := n1_; clear n0_ n1_; (try clear hb); (try clear hb2); (try clear hk); (try clear hi)))
       go_ret
       exact ⟨by first | rfl | (simp [errW_none, errW_some] <;> rfl) | (simp [*, errW_none, errW_some] <;> rfl), by repeat (first | (with_reducible first | exact HB.out | apply below_alloc | apply pw_below_drewN | apply below_drew1 | refine below_set ?_ GE122.out) | exact HB.out)⟩
     ·rw [if_neg c4] at H
      exact absurd H (by simp)
    ·rw [if_neg c3] at H
     exact absurd H (by simp)
   ·rw [if_neg c2] at H
    have c2b0 : decide (x7_1 < (l0.length : Int)) = false := decide_eq_false c2
    clear c2
    obtain rfl := Option.some.inj H
    go_wp2
    go_ret
    exact ⟨by first | rfl | (simp [errW_none, errW_some] <;> rfl) | (simp [*, errW_none, errW_some] <;> rfl), by repeat (first | (with_reducible first | exact HB.out | apply below_alloc | apply pw_below_drewN | apply below_drew1) | exact HB.out)⟩
end Go.Proofs.YtgnfapnnbcafbaaDoor.GUL
end
section
/- Plain facts: what the laws' checks on options tell: zzFits7, printable, has, letter. Conditions: sizes below 2^31. -/
namespace Go.Proofs.YtgnfapnnbcafbaaDoor.GUL
open Go Go.RowKit Go.Proofs.YtgnfapnnbcafbaaDoorW.PrintWords Go.Proofs.YtgnfapnnbcafbaaDoorW Go.Proofs.YtgnfapnnbcafbaaDoorW.PrintLast Go.Proofs.YtgnfapnnbcafbaaDoor.UN
set_option linter.unusedVariables false
set_option linter.unusedSimpArgs false
def Tells (g : Nat → Option Bool) (Q : Prop) : Prop := ∃ b, Ev g b ∧ (b = true → Q)
def Denies (g : Nat → Option Bool) (Q : Prop) : Prop := ∃ b, Ev g b ∧ (b = false → Q)
theorem Tells.step {g f : Nat → Option Bool} {Q : Prop} (h : ∀ k, g (k + 1) = f k) (t : Tells f Q) : Tells g Q := by
 obtain ⟨b, hb, hq⟩ := t
 exact ⟨b, Ev.step h hb, hq⟩
theorem Denies.step {g f : Nat → Option Bool} {Q : Prop} (h : ∀ k, g (k + 1) = f k) (t : Denies f Q) : Denies g Q := by
 obtain ⟨b, hb, hq⟩ := t
 exact ⟨b, Ev.step h hb, hq⟩
theorem Tells.congr {g f : Nat → Option Bool} {Q : Prop} (h : ∀ k, g k = f k) (t : Tells f Q) : Tells g Q := by
 obtain ⟨b, hb, hq⟩ := t
 exact ⟨b, Ev.congr h hb, hq⟩
theorem Tells.no {Q : Prop} : Tells (fun _ => some false) Q := ⟨false, Ev.now _, fun h => by cases h⟩
theorem Tells.yes {Q : Prop} (h : Q) : Tells (fun _ => some true) Q := ⟨true, Ev.now _, fun _ => h⟩
theorem Denies.no {Q : Prop} (h : Q) : Denies (fun _ => some false) Q := ⟨false, Ev.now _, fun _ => h⟩
theorem Denies.yes {Q : Prop} : Denies (fun _ => some true) Q := ⟨true, Ev.now _, fun h => by cases h⟩
theorem Tells.mono {g : Nat → Option Bool} {Q R : Prop} (t : Tells g Q) (h : Q → R) : Tells g R := by
 obtain ⟨b, hb, hq⟩ := t
 exact ⟨b, hb, fun e => h (hq e)⟩
theorem Tells.bind {g : Nat → Option Bool} {f : Nat → Option Bool} {Q R : Prop} (t : Tells g Q) (h : Q → Tells f R) : Tells (fun k => (g k).bind fun t => if t = true then f k else some false) R := by
 obtain ⟨b, hb, hq⟩ := t
 cases b with
 | false => exact ⟨false, Ev.bind (f := fun k t => if t = true then f k else some false) hb (Ev.now _), fun h => by cases h⟩
 | true =>
  obtain ⟨c, hc, hr⟩ := h (hq rfl)
  exact ⟨c, Ev.bind (f := fun k t => if t = true then f k else some false) hb hc, hr⟩
theorem Denies.bind {g : Nat → Option Bool} {f : Nat → Option Bool} {Q R : Prop} (t : Denies g Q) (h : Q → Tells f R) : Tells (fun k => (g k).bind fun t => if t = true then some false else f k) R := by
 obtain ⟨b, hb, hq⟩ := t
 cases b with
 | true => exact ⟨false, Ev.bind (f := fun k t => if t = true then some false else f k) hb (Ev.now _), fun h => by cases h⟩
 | false =>
  obtain ⟨c, hc, hr⟩ := h (hq rfl)
  exact ⟨c, Ev.bind (f := fun k t => if t = true then some false else f k) hb hc, hr⟩
theorem wr1 (i : Nat) (h : i ≤ 100000000000) : wrap64 ((i : Int) + 1) = ((i + 1 : Nat) : Int) := by unfold wrap64; omega
theorem bt_sB (l : Bs) (i : Nat) (h : i < l.length) : bt (sB l) (i : Int) = ((l[i]'h).toNat : Int) := by
 unfold bt
 rw [dif_pos (by rw [sB_size]; simpa using h)]
 simp [sB, ByteArray.getElem_eq_getElem_data]
theorem rd30_at (l : List S30) (i : Nat) (h : i < l.length) : rd_T30 l (i : Int) = l[i] := by
 simp [rd_T30, List.getD_eq_getElem?_getD, List.getElem?_eq_getElem h]
structure Fit30 (x : S30) : Prop where
 a : x.f0.size ≤ 2147483647
 b : x.f1.size ≤ 2147483647
 c : x.f2.size ≤ 2147483647
theorem printable_is (l : Bs) (hl : l.length ≤ 2147483647) : Tells (fun k => laws_printable.f k (sB l)) (UN.seen l) := by
 refine Tells.congr (f := fun k => laws_printable.l0 k (sB l) (l.length : Int) ((0 : Nat) : Int)) (fun k => by simp only [laws_printable.f, sB_size]; rfl) ?_
 have go : ∀ (d i : Nat), i + d = l.length → Tells (fun k => laws_printable.l0 k (sB l) (l.length : Int) (i : Int)) (∀ b ∈ l.drop i, 32 ≤ b.toNat ∧ b.toNat ≤ 126) := by
  intro d
  induction d with
  | zero =>
   intro i hi
   refine Tells.step (f := fun _ => some true) (fun k => ?_) (Tells.yes fun x hx => ?_)
   ·simp only [laws_printable.l0]
    rw [if_neg (by omega)]
   ·rw [List.drop_eq_nil_of_le (by omega)] at hx
    cases hx
  | succ d ih =>
   intro i hi
   have hil : i < l.length := by omega
   refine Tells.step (f := fun k => if (l[i].toNat : Int) < 32 then some false else if (l[i].toNat : Int) > 126 then some false else laws_printable.l0 k (sB l) (l.length : Int) ((i + 1 : Nat) : Int)) (fun k => ?_) ?_
   ·simp only [laws_printable.l0, sB_size]
    rw [if_pos (by omega), if_pos (by omega), if_pos (by omega), bt_sB l i hil, wr1 i (by omega)]
   ·by_cases h1 : (l[i].toNat : Int) < 32
    ·simp only [if_pos h1]
     exact Tells.no
    ·by_cases h2 : (l[i].toNat : Int) > 126
     ·simp only [if_neg h1, if_pos h2]
      exact Tells.no
     ·simp only [if_neg h1, if_neg h2]
      refine Tells.mono (ih (i + 1) (by omega)) fun h x hx => ?_
      rw [List.drop_eq_getElem_cons hil] at hx
      rcases List.mem_cons.1 hx with rfl | hx
      ·omega
      ·exact h x hx
 exact Tells.mono (go l.length 0 (by omega)) fun h => h
theorem has_is (l c : Bs) (hl : l.length ≤ 2147483647) (hc : c.length ≤ 1000) : Denies (fun k => laws_has.f k (sB l) (sB c)) (∀ x ∈ l, ∀ y ∈ c, x ≠ y) := by
 have e : ∀ k, laws_has.f k (sB l) (sB c) = laws_has.l0 k (sB l) (sB c) (l.length : Int) ((0 : Nat) : Int) := fun k => by simp only [laws_has.f, sB_size]; rfl
 have go : ∀ (d i : Nat), i + d = l.length → Denies (fun k => laws_has.l0 k (sB l) (sB c) (l.length : Int) (i : Int)) (∀ x ∈ l.drop i, ∀ y ∈ c, x ≠ y) := by
  intro d
  induction d with
  | zero =>
   intro i hi
   refine Denies.step (f := fun _ => some false) (fun k => ?_) (Denies.no fun x hx => ?_)
   ·simp only [laws_has.l0]
    rw [if_neg (by omega)]
   ·rw [List.drop_eq_nil_of_le (by omega)] at hx
    cases hx
  | succ d ih =>
   intro i hi
   have hil : i < l.length := by omega
   have inner : ∀ (d2 j : Nat), j + d2 = c.length → Denies (fun k => laws_has.l1 k (sB l) (sB c) (i : Int) (l.length : Int) (i : Int) (c.length : Int) (j : Int)) ((∀ y ∈ c.drop j, l[i] ≠ y) ∧ ∀ x ∈ l.drop (i + 1), ∀ y ∈ c, x ≠ y) := by
    intro d2
    induction d2 with
    | zero =>
     intro j hj
     refine Denies.step (f := fun k => laws_has.l0 k (sB l) (sB c) (l.length : Int) ((i + 1 : Nat) : Int)) (fun k => ?_) ?_
     ·simp only [laws_has.l1]
      rw [if_neg (by omega), wr1 i (by omega)]
     ·obtain ⟨b, hb, hq⟩ := ih (i + 1) (by omega)
      refine ⟨b, hb, fun e => ⟨fun y hy => ?_, hq e⟩⟩
      rw [List.drop_eq_nil_of_le (by omega)] at hy
      cases hy
    | succ d2 ih2 =>
     intro j hj
     have hjl : j < c.length := by omega
     refine Denies.step (f := fun k => if (l[i].toNat : Int) = (c[j].toNat : Int) then some true else laws_has.l1 k (sB l) (sB c) (i : Int) (l.length : Int) (i : Int) (c.length : Int) ((j + 1 : Nat) : Int)) (fun k => ?_) ?_
     ·simp only [laws_has.l1, sB_size]
      rw [if_pos (by omega), if_pos (by omega), if_pos (by omega), if_pos (by omega), if_pos (by omega), bt_sB l i hil, bt_sB c j hjl, wr1 j (by omega)]
     ·by_cases h1 : (l[i].toNat : Int) = (c[j].toNat : Int)
      ·simp only [if_pos h1]
       exact Denies.yes
      ·simp only [if_neg h1]
       obtain ⟨b, hb, hq⟩ := ih2 (j + 1) (by omega)
       refine ⟨b, hb, fun e => ⟨fun y hy => ?_, (hq e).2⟩⟩
       rw [List.drop_eq_getElem_cons hjl] at hy
       rcases List.mem_cons.1 hy with rfl | hy
       ·intro e2
        exact h1 (by rw [e2])
       ·exact (hq e).1 y hy
   refine Denies.step (f := fun k => laws_has.l1 k (sB l) (sB c) (i : Int) (l.length : Int) (i : Int) (c.length : Int) ((0 : Nat) : Int)) (fun k => ?_) ?_
   ·simp only [laws_has.l0, sB_size]
    rw [if_pos (by omega)]
    rfl
   ·obtain ⟨b, hb, hq⟩ := inner c.length 0 (by omega)
    refine ⟨b, hb, fun e x hx => ?_⟩
    rw [List.drop_eq_getElem_cons hil] at hx
    rcases List.mem_cons.1 hx with rfl | hx
    ·exact (hq e).1
    ·exact (hq e).2 x hx
 obtain ⟨b, hb, hq⟩ := go l.length 0 (by omega)
 exact ⟨b, Ev.congr e hb, hq⟩
theorem letter_is (c : UInt8) : ∃ b, laws_letter.f (c.toNat : Int) = some b ∧ (b = true → (97 ≤ c.toNat ∧ c.toNat ≤ 122) ∨ (65 ≤ c.toNat ∧ c.toNat ≤ 90)) := by
 unfold laws_letter.f
 by_cases h1 : (c.toNat : Int) ≥ 97
 ·rw [if_pos h1]
  by_cases h2 : (c.toNat : Int) ≤ 122
  ·rw [if_pos h2]
   exact ⟨true, rfl, fun _ => .inl ⟨by omega, by omega⟩⟩
  ·rw [if_neg h2, if_pos (by omega)]
   exact ⟨_, rfl, fun h => by have := of_decide_eq_true h; omega⟩
 ·rw [if_neg h1]
  by_cases h2 : (c.toNat : Int) ≥ 65
  ·rw [if_pos h2]
   exact ⟨_, rfl, fun h => .inr ⟨by omega, by have := of_decide_eq_true h; omega⟩⟩
  ·rw [if_neg h2]
   exact ⟨false, rfl, fun h => by cases h⟩
end Go.Proofs.YtgnfapnnbcafbaaDoor.GUL
end
section
/- Plain facts: what plainOption and plainOptions tell. Conditions: sizes below 2^31. -/
namespace Go.Proofs.YtgnfapnnbcafbaaDoor.GUL
open Go Go.RowKit Go.Proofs.YtgnfapnnbcafbaaDoorW.PrintWords Go.Proofs.YtgnfapnnbcafbaaDoorW Go.Proofs.YtgnfapnnbcafbaaDoorW.PrintLast Go.Proofs.YtgnfapnnbcafbaaDoor.UN
set_option linter.unusedVariables false
set_option linter.unusedSimpArgs false
theorem sB_list (l : Bs) : (sB l).toList = l := Go.ByteArray.toList_mk l
theorem last_sB {s : Bs} (h : s ≠ []) (hs : s.length ≤ 2147483647) : ∃ y, s.getLast? = some y ∧ bt (sB s) (wrap64 ((s.length : Int) - 1)) = (y.toNat : Int) := by
 have h0 : 0 < s.length := List.length_pos_iff.2 h
 have e : wrap64 ((s.length : Int) - 1) = ((s.length - 1 : Nat) : Int) := by unfold wrap64; omega
 have hl : s.length - 1 < s.length := by omega
 refine ⟨s[s.length - 1], ?_, ?_⟩
 ·rw [List.getLast?_eq_getElem?, List.getElem?_eq_getElem hl]
 ·rw [e, bt_sB s _ hl]
theorem head_sB {s : Bs} (h : s ≠ []) : ∃ x r, s = x :: r ∧ bt (sB s) 0 = (x.toNat : Int) := by
 cases s with
 | nil => exact absurd rfl h
 | cons x r => exact ⟨x, r, rfl, bt_sB (x :: r) 0 (by simp)⟩
theorem byte_eq {x : UInt8} {n : Nat} (hn : n < 256) (h : ¬ (x.toNat : Int) = (n : Int)) : x ≠ UInt8.ofNat n := by
 rintro rfl
 apply h
 simp [UInt8.toNat_ofNat]
 omega
theorem str_ok (s : Bs) (F : Nat → Option Bool) (R : Prop) (hs : s.length ≤ 2147483647) (h : UN.seen s → snug s → s.length ≤ 400 → Tells F R) :
  Tells (fun k => (laws_printable.f k (sB s)).bind fun t => if t = true then (if (sB s).toList = ([] : List UInt8) then (if ((sB s).size : Int) > 400 then some false else F k) else (if 0 < ((sB s).size : Int) then (if (bt (sB s) 0) = 32 then some false else (if 0 ≤ (wrap64 (((sB s).size : Int) - 1)) then (if (wrap64 (((sB s).size : Int) - 1)) < ((sB s).size : Int) then (if (bt (sB s) (wrap64 (((sB s).size : Int) - 1))) = 32 then some false else (if ((sB s).size : Int) > 400 then some false else F k)) else none) else none)) else none)) else some false) R := by
 refine Tells.bind (printable_is s hs) fun hseen => ?_
 rw [sB_list, sB_size]
 by_cases h0 : s = []
 ·simp only [if_pos h0]
  by_cases h4 : (s.length : Int) > 400
  ·simp only [if_pos h4]
   exact Tells.no
  ·simp only [if_neg h4]
   exact h hseen (by subst h0; exact ⟨by simp, by simp⟩) (by omega)
 ·have hp : 0 < s.length := List.length_pos_iff.2 h0
  obtain ⟨x, r, hx, bx⟩ := head_sB h0
  obtain ⟨y, hy, by'⟩ := last_sB h0 hs
  have w1 : 0 ≤ wrap64 ((s.length : Int) - 1) := by unfold wrap64; omega
  have w2 : wrap64 ((s.length : Int) - 1) < (s.length : Int) := by unfold wrap64; omega
  simp only [if_neg h0, if_pos (show (0 : Int) < (s.length : Int) by omega), if_pos w1, if_pos w2, bx, by']
  by_cases h1 : (x.toNat : Int) = 32
  ·simp only [if_pos h1]
   exact Tells.no
  ·simp only [if_neg h1]
   by_cases h2 : (y.toNat : Int) = 32
   ·simp only [if_pos h2]
    exact Tells.no
   ·simp only [if_neg h2]
    by_cases h4 : (s.length : Int) > 400
    ·simp only [if_pos h4]
     exact Tells.no
    ·simp only [if_neg h4]
     refine h hseen ⟨?_, ?_⟩ (by omega)
     ·rw [hx]
      intro e
      exact byte_eq (n := 32) (by omega) h1 (Option.some.inj e)
     ·rw [hy]
      intro e
      exact byte_eq (n := 32) (by omega) h2 (Option.some.inj e)
theorem plain_tail (a b c : Bs) (ha : a.length ≤ 2147483647) (hb : b.length ≤ 2147483647) (hc : c.length ≤ 2147483647) :
  Tells (fun k => laws_plainOption.l0 k [sB a, sB b, sB c] 3 3 (sB a) (sB b) (sB c)) (a ≠ [] ∧ (∀ x ∈ a, x ≠ 91 ∧ x ≠ 93) ∧ (∀ x ∈ b, x ≠ 61) ∧ (∃ x r, b = x :: r ∧ ((97 ≤ x.toNat ∧ x.toNat ≤ 122) ∨ (65 ≤ x.toNat ∧ x.toNat ≤ 90))) ∧ c.getLast? ≠ some 92) := by
 by_cases a0 : a = []
 ·refine Tells.step (f := fun _ => some false) (fun k => ?_) Tells.no
  simp only [laws_plainOption.l0]
  rw [if_neg (by omega), sB_list, if_pos a0]
 ·by_cases b0 : b = []
  ·refine Tells.step (f := fun k => (laws_has.f k (sB a) (sB [91, 93])).bind fun t => if t = true then some false else some false) (fun k => ?_) (Denies.bind (f := fun _ => some false) (has_is a [91, 93] ha (by simp)) fun _ => Tells.no)
   simp only [laws_plainOption.l0]
   rw [if_neg (by omega), sB_list, if_neg a0, sB_list, if_pos b0]
  ·obtain ⟨x, r, hx, bx⟩ := head_sB b0
   obtain ⟨t, ht, hq⟩ := letter_is x
   have hp : 0 < b.length := List.length_pos_iff.2 b0
   refine Tells.step (f := fun k => (laws_has.f k (sB a) (sB [91, 93])).bind fun t1 => if t1 = true then some false else (laws_has.f k (sB b) (sB [61])).bind fun t2 => if t2 = true then some false else if t = true then (if c = [] then some true else some ((bt (sB c) (wrap64 ((c.length : Int) - 1))) != 92)) else some false) (fun k => ?_) ?_
   ·simp only [laws_plainOption.l0]
    rw [if_neg (by omega), sB_list, if_neg a0, sB_list, if_neg b0, sB_size, if_pos (show (0 : Int) < (b.length : Int) by omega), bx, ht, sB_list, sB_size]
    by_cases c0 : c = []
    ·simp only [if_pos c0]
     rfl
    ·have hp2 : 0 < c.length := List.length_pos_iff.2 c0
     have w1 : 0 ≤ wrap64 ((c.length : Int) - 1) := by unfold wrap64; omega
     have w2 : wrap64 ((c.length : Int) - 1) < (c.length : Int) := by unfold wrap64; omega
     simp only [if_neg c0, if_pos w1, if_pos w2]
     rfl
   ·refine Denies.bind (has_is a [91, 93] ha (by simp)) fun h1 => Denies.bind (has_is b [61] hb (by simp)) fun h2 => ?_
    have g1 : ∀ x ∈ a, x ≠ 91 ∧ x ≠ 93 := fun x hx => ⟨h1 x hx 91 (by simp), h1 x hx 93 (by simp)⟩
    have g2 : ∀ x ∈ b, x ≠ 61 := fun x hx => h2 x hx 61 (by simp)
    cases t with
    | false => exact Tells.no
    | true =>
     simp only [if_true]
     by_cases c0 : c = []
     ·simp only [if_pos c0]
      exact Tells.yes ⟨a0, g1, g2, ⟨x, r, hx, hq rfl⟩, by rw [c0]; simp⟩
     ·simp only [if_neg c0]
      obtain ⟨y, hy, by'⟩ := last_sB c0 hc
      refine ⟨_, Ev.now _, fun h => ⟨a0, g1, g2, ⟨x, r, hx, hq rfl⟩, ?_⟩⟩
      rw [by'] at h
      rw [hy]
      intro e
      obtain rfl := Option.some.inj e
      exact absurd h (by decide)
structure Plain (a b c : Bs) : Prop where
 ne : a ≠ []
 s : GoodS a
 o : GoodO ⟨a, b, c⟩
theorem plain_is (a b c : Bs) (ha : a.length ≤ 2147483647) (hb : b.length ≤ 2147483647) (hc : c.length ≤ 2147483647) : Tells (fun k => laws_plainOption.f k (sB a) (sB b) (sB c)) (Plain a b c) := by
 refine Tells.congr (f := fun k => laws_plainOption.l0 k [sB a, sB b, sB c] 3 0 (sB a) (sB b) (sB c)) (fun k => rfl) ?_
 refine Tells.step (fun k => ?_) (str_ok a (fun k => laws_plainOption.l0 k [sB a, sB b, sB c] 3 1 (sB a) (sB b) (sB c)) _ ha fun a1 a2 a3 => ?_)
 ·simp only [laws_plainOption.l0]
  rw [if_pos (by omega), if_pos (by omega), if_pos (by simp), show rdOf ByteArray.empty [sB a, sB b, sB c] 0 = sB a from rfl, show wrap64 (0 + 1) = 1 from by unfold wrap64; omega]
 refine Tells.step (fun k => ?_) (str_ok b (fun k => laws_plainOption.l0 k [sB a, sB b, sB c] 3 2 (sB a) (sB b) (sB c)) _ hb fun b1 b2 b3 => ?_)
 ·simp only [laws_plainOption.l0]
  rw [if_pos (by omega), if_pos (by omega), if_pos (by simp), show rdOf ByteArray.empty [sB a, sB b, sB c] 1 = sB b from rfl, show wrap64 (1 + 1) = 2 from by unfold wrap64; omega]
 refine Tells.step (fun k => ?_) (str_ok c (fun k => laws_plainOption.l0 k [sB a, sB b, sB c] 3 3 (sB a) (sB b) (sB c)) _ hc fun c1 c2 c3 => ?_)
 ·simp only [laws_plainOption.l0]
  rw [if_pos (by omega), if_pos (by omega), if_pos (by simp), show rdOf ByteArray.empty [sB a, sB b, sB c] 2 = sB c from rfl, show wrap64 (2 + 1) = 3 from by unfold wrap64; omega]
 exact Tells.mono (plain_tail a b c ha hb hc) fun ⟨q1, q2, q3, q4, q5⟩ => ⟨q1, ⟨a1, a3, q2⟩, ⟨b1, c1, b2, c2, b3, c3, q3, q4, q5⟩⟩
end Go.Proofs.YtgnfapnnbcafbaaDoor.GUL
end
section
namespace Go.Proofs.YtgnfapnnbcafbaaDoor.GUL
open Go.RowKit Go.Proofs.YtgnfapnnbcafbaaDoorW.PrintWords Go.Proofs.YtgnfapnnbcafbaaDoorW.PrintLast Go.Proofs.YtgnfapnnbcafbaaDoorW.PrintMore
attribute [local go_sem] max2_int min2_int max_two min_two max_three min_three max_four min_four   -- for this text's walks alone
set_option linter.unusedVariables false
set_option linter.unusedSimpArgs false
/-! ### laws_grouped: function 24 -/
mutual
def laws_grouped.l0 : Nat → List (S30) → List (S30) → List (S30) → Int → Int → Option ((List (S30)))
 | 0, _, _, _, _, _ => none
 | k + 1, x0, x3, x11, x12, x13 => if x13 < x12 then (if 0 ≤ x13 then (if x13 < (x11.length : Int) then (if x13 ≤ (x0.length : Int) then ((some (x0.take (x13 : Int).toNat : List (S30))).bind fun y126 => (laws_grouped.l1 k x0 x3 x13 true x11 x12 x13 y126 (y126.length : Int) 0 ((rd_T30 x11 x13).f0) ((rd_T30 x11 x13).f1) ((rd_T30 x11 x13).f2))) else (none)) else (none)) else (none)) else (some x3)
def laws_grouped.l1 : Nat → List (S30) → List (S30) → Int → Bool → List (S30) → Int → Int → List (S30) → Int → Int → ByteArray → ByteArray → ByteArray → Option ((List (S30)))
 | 0, _, _, _, _, _, _, _, _, _, _, _, _, _ => none
 | k + 1, x0, x3, x4, x6, x11, x12, x13, x20, x21, x22, x126000, x126001, x126002 => if x22 < x21 then (if 0 ≤ x22 then (if x22 < (x20.length : Int) then (if x6 = true then (laws_grouped.l1 k x0 x3 x4 (((rd_T30 x20 x22).f0).toList != x126000.toList) x11 x12 x13 x20 x21 (wrap64 (x22 + 1)) x126000 x126001 x126002) else (laws_grouped.l1 k x0 x3 x4 false x11 x12 x13 x20 x21 (wrap64 (x22 + 1)) x126000 x126001 x126002)) else (none)) else (none)) else (if 0 ≤ x4 then (if x4 ≤ (x0.length : Int) then ((some (x0.drop (x4 : Int).toNat : List (S30))).bind fun y132 => (laws_grouped.l2 k x0 x3 x6 x11 x12 x13 y132 (y132.length : Int) 0 x126000 x126001 x126002)) else (none)) else (none))
def laws_grouped.l2 : Nat → List (S30) → List (S30) → Bool → List (S30) → Int → Int → List (S30) → Int → Int → ByteArray → ByteArray → ByteArray → Option ((List (S30)))
 | 0, _, _, _, _, _, _, _, _, _, _, _, _ => none
 | k + 1, x0, x3, x6, x11, x12, x13, x37, x38, x39, x126000, x126001, x126002 => if x39 < x38 then (if 0 ≤ x39 then (if x39 < (x37.length : Int) then (if x6 = true then (if ((rd_T30 x37 x39).f0).toList = x126000.toList then (if x3.length < 2932031007402 then (laws_grouped.l2 k x0 (x3 ++ [(⟨(rd_T30 x37 x39).f0, (rd_T30 x37 x39).f1, (rd_T30 x37 x39).f2⟩ : S30)]) x6 x11 x12 x13 x37 x38 (wrap64 (x39 + 1)) x126000 x126001 x126002) else (none)) else (laws_grouped.l2 k x0 x3 x6 x11 x12 x13 x37 x38 (wrap64 (x39 + 1)) x126000 x126001 x126002)) else (laws_grouped.l2 k x0 x3 x6 x11 x12 x13 x37 x38 (wrap64 (x39 + 1)) x126000 x126001 x126002)) else (none)) else (none)) else (laws_grouped.l0 k x0 x3 x11 x12 (wrap64 (x13 + 1)))
end
def laws_grouped.f (k : Nat) (l0 : List (S30)) : Option ((List (S30))) := laws_grouped.l0 k l0 ([] : List (S30)) l0 (l0.length : Int) 0
theorem laws_grouped.mono_l : ∀ k, (∀ y0 y1 y2 y3 y4, LeO (laws_grouped.l0 k y0 y1 y2 y3 y4) (laws_grouped.l0 (k + 1) y0 y1 y2 y3 y4)) ∧ (∀ y0 y1 y2 y3 y4 y5 y6 y7 y8 y9 y10 y11 y12, LeO (laws_grouped.l1 k y0 y1 y2 y3 y4 y5 y6 y7 y8 y9 y10 y11 y12) (laws_grouped.l1 (k + 1) y0 y1 y2 y3 y4 y5 y6 y7 y8 y9 y10 y11 y12)) ∧ (∀ y0 y1 y2 y3 y4 y5 y6 y7 y8 y9 y10 y11, LeO (laws_grouped.l2 k y0 y1 y2 y3 y4 y5 y6 y7 y8 y9 y10 y11) (laws_grouped.l2 (k + 1) y0 y1 y2 y3 y4 y5 y6 y7 y8 y9 y10 y11))
 | 0 => ⟨fun _ _ _ _ _ r h => by simp [laws_grouped.l0] at h, fun _ _ _ _ _ _ _ _ _ _ _ _ _ r h => by simp [laws_grouped.l1] at h, fun _ _ _ _ _ _ _ _ _ _ _ _ r h => by simp [laws_grouped.l2] at h⟩
 | k + 1 => by
  obtain ⟨ih0, ih1, ih2⟩ := laws_grouped.mono_l k
  refine ⟨?_, ?_, ?_⟩
  ·intro y0 y1 y2 y3 y4
   unfold laws_grouped.l0
   repeat' first
   | (with_reducible exact ih0 _ _ _ _ _)
   | (with_reducible exact ih1 _ _ _ _ _ _ _ _ _ _ _ _ _)
   | (with_reducible exact ih2 _ _ _ _ _ _ _ _ _ _ _ _)
   | (with_reducible exact LeO.refl _)
   | (with_reducible exact LeO.none _)
   | (with_reducible refine LeO.ite ?_ ?_)
   | (with_reducible refine LeO.bind ?_ (fun _ => ?_))
   | exact ih0 _ _ _ _ _
   | exact ih1 _ _ _ _ _ _ _ _ _ _ _ _ _
   | exact ih2 _ _ _ _ _ _ _ _ _ _ _ _
   | exact LeO.none _
   | refine LeO.ite ?_ ?_
   | refine LeO.bind ?_ (fun _ => ?_)
  ·intro y0 y1 y2 y3 y4 y5 y6 y7 y8 y9 y10 y11 y12
   unfold laws_grouped.l1
   repeat' first
   | (with_reducible exact ih0 _ _ _ _ _)
   | (with_reducible exact ih1 _ _ _ _ _ _ _ _ _ _ _ _ _)
   | (with_reducible exact ih2 _ _ _ _ _ _ _ _ _ _ _ _)
   | (with_reducible exact LeO.refl _)
   | (with_reducible exact LeO.none _)
   | (with_reducible refine LeO.ite ?_ ?_)
   | (with_reducible refine LeO.bind ?_ (fun _ => ?_))
   | exact ih0 _ _ _ _ _
   | exact ih1 _ _ _ _ _ _ _ _ _ _ _ _ _
   | exact ih2 _ _ _ _ _ _ _ _ _ _ _ _
   | exact LeO.none _
   | refine LeO.ite ?_ ?_
   | refine LeO.bind ?_ (fun _ => ?_)
  ·intro y0 y1 y2 y3 y4 y5 y6 y7 y8 y9 y10 y11
   unfold laws_grouped.l2
   repeat' first
   | (with_reducible exact ih0 _ _ _ _ _)
   | (with_reducible exact ih1 _ _ _ _ _ _ _ _ _ _ _ _ _)
   | (with_reducible exact ih2 _ _ _ _ _ _ _ _ _ _ _ _)
   | (with_reducible exact LeO.refl _)
   | (with_reducible exact LeO.none _)
   | (with_reducible refine LeO.ite ?_ ?_)
   | (with_reducible refine LeO.bind ?_ (fun _ => ?_))
   | exact ih0 _ _ _ _ _
   | exact ih1 _ _ _ _ _ _ _ _ _ _ _ _ _
   | exact ih2 _ _ _ _ _ _ _ _ _ _ _ _
   | exact LeO.none _
   | refine LeO.ite ?_ ?_
   | refine LeO.bind ?_ (fun _ => ?_)
theorem laws_grouped.mono : ∀ a0 k, LeO (laws_grouped.f k a0) (laws_grouped.f (k + 1) a0) := by
 intro a0 k
 obtain ⟨ih0, ih1, ih2⟩ := laws_grouped.mono_l k
 unfold laws_grouped.f
 repeat' first
   | (with_reducible exact ih0 _ _ _ _ _)
   | (with_reducible exact ih1 _ _ _ _ _ _ _ _ _ _ _ _ _)
   | (with_reducible exact ih2 _ _ _ _ _ _ _ _ _ _ _ _)
   | (with_reducible exact LeO.refl _)
   | (with_reducible exact LeO.none _)
   | (with_reducible refine LeO.ite ?_ ?_)
   | (with_reducible refine LeO.bind ?_ (fun _ => ?_))
   | exact ih0 _ _ _ _ _
   | exact ih1 _ _ _ _ _ _ _ _ _ _ _ _ _
   | exact ih2 _ _ _ _ _ _ _ _ _ _ _ _
   | exact LeO.none _
   | refine LeO.ite ?_ ?_
   | refine LeO.bind ?_ (fun _ => ?_)
set_option maxHeartbeats 8000000 in
set_option maxRecDepth 100000 in
theorem laws_grouped.calls (k : Nat) (A0 : Option Addr) (c0 : Nat) (l0 : List (S30)) (r : List (S30)) (w : World) (hr0 : Kd.C k30 w A0 l0.length l0) (hc0 : l0.length ≤ c0) (h : laws_grouped.f k l0 = some r) :
  Calls Tryd.prog 24 #[.slice A0 l0.length c0] w fun e w' => ∃ v0_ : Value, e = .returned (v0_) ∧ Kd.R k30 30 w' w.heap.size (fun _ => True) v0_ r ∧ Below w.heap.size w w' := by
 have hu30 := Tryd.underlying30
 have HR0 := Aside0.mk hr0
 have HC0 := Aside0.mk hc0
 clear hr0 hc0
 have HB := Aside0.mk (Below.refl w.heap.size w)
 have H : (laws_grouped.l0 k l0 ([] : List (S30)) l0 (l0.length : Int) 0) = some r := h
 clear h
 have H' := Aside0.mk H
 clear H
 go_enter Tryd.func24, Tryd.ntmps24
 go_wp2
 go_loopg [3, 13] k (fun kq v3 v13 w' => ∃ (x3_1 : List (S30)) (x13_1 : Int), v13 = .int .i64 x13_1 ∧ Aside0 (laws_grouped.l0 kq l0 x3_1 l0 (l0.length : Int) x13_1 = some r) ∧ Aside0 (kq ≤ k) ∧ Aside0 (Kd.R k30 30 w' w.heap.size (fun _ => True) v3 x3_1) ∧ Aside0 (Below w.heap.size w w'))
 case atStart => exact ⟨(([] : List (S30))), (0), (by first | rfl | (simp; done) | (simp [*]; done)), H', ⟨Nat.le_refl _⟩, ⟨by first | exact Kd.R_nil _ _ _ _ _ | exact Kd.N_nil _ _ _ _ _ | exact Kd.V_nil _ _ _ _ _ | exact Kd.Q_nil _ _ _ _ _ | exact Kd.S_nil _ _ _ _ _⟩, ⟨by repeat (first | (with_reducible first | exact HB.out | apply below_alloc | apply pw_below_drewN | apply below_drew1) | exact HB.out)⟩⟩
 case round =>
  clear H'
  obtain ⟨x3_1, x13_1, rfl, HA, HK1, HO_3, HB⟩ := hrel
  cases gk with
  | zero => exact absurd HA.out (by simp [laws_grouped.l0])
  | succ k1 =>
   have H := HA.out
   clear HA
   simp only [laws_grouped.l0] at H
   by_cases c2 : x13_1 < (l0.length : Int)
   ·rw [if_pos c2] at H
    have c2b0 : decide (x13_1 < (l0.length : Int)) = true := decide_eq_true c2
    clear c2
    by_cases c3 : 0 ≤ x13_1
    ·rw [if_pos c3] at H
     have c3b0 : decide (0 ≤ x13_1) = true := decide_eq_true c3
     clear c3
     by_cases c4 : x13_1 < (l0.length : Int)
     ·rw [if_pos c4] at H
      have c4b0 : decide (x13_1 < (l0.length : Int)) = true := decide_eq_true c4
      clear c4
      have c5b0 := eq_true (of_decide_eq_true (by first | (with_reducible assumption) | assumption) : 0 ≤ x13_1)
      by_cases c6 : x13_1 ≤ (l0.length : Int)
      ·rw [if_pos c6] at H
       have c6b0 := eq_true c6
       have c6b1 : decide (x13_1 ≤ (l0.length : Int)) = true := decide_eq_true c6
       clear c6
       obtain ⟨y126, hy126⟩ : ∃ y_ : List (S30), y_ = (l0.take (x13_1 : Int).toNat) := ⟨_, rfl⟩
       replace H : (laws_grouped.l1 k1 l0 x3_1 x13_1 true l0 (l0.length : Int) x13_1 y126 (y126.length : Int) 0 ((rd_T30 l0 x13_1).f0) ((rd_T30 l0 x13_1).f1) ((rd_T30 l0 x13_1).f2)) = some r := by first | (rw [hy126]; with_reducible exact H) | (have H2_ := (Option.bind_some _ _).symm.trans H; rw [hy126]; with_reducible exact H2_) | (have H2_ := (Option.bind_some _ _).symm.trans H; with_reducible exact H2_) | with_reducible exact H | (rw [hy126]; exact H) | exact H
       have Ny126 := Aside0.mk hy126
       clear hy126
       have H' := Aside0.mk H
       clear H
       have p124 : 0 ≤ (x13_1 : Int) := of_decide_eq_true (by first | (with_reducible assumption) | assumption)
       have q124 : x13_1 < (l0.length : Int) := of_decide_eq_true (by first | (with_reducible assumption) | assumption)
       obtain ⟨ad124, e124, hx124_0, hx124_1, hx124_2⟩ := at_T30 HR0.out x13_1 p124 q124
       cases e124
       replace hx124_0 := (HB.out.cell (World.block_lt_of_cell? w _ hx124_0)).trans hx124_0
       replace hx124_1 := (HB.out.cell (World.block_lt_of_cell? w _ hx124_1)).trans hx124_1
       replace hx124_2 := (HB.out.cell (World.block_lt_of_cell? w _ hx124_2)).trans hx124_2
       replace p124 := eq_true p124
       replace q124 := eq_true q124
       go_wp2_with (first | ((with_reducible refine gate_dst (N := 5) rfl ?_); refine box_event ?hg (N := 5) ?hd (cs := #[.string (⟨#[]⟩ : ByteArray), .string (⟨#[]⟩ : ByteArray), .string (⟨#[]⟩ : ByteArray)]) (t := 30) ?hr ?_; (case hd => rfl); (case hg => rfl); (case hr => first | (go_simp; done) | (go_simp; rfl)); intro gb125 hg w7 hbox hb; have n0_ := Aside0.mk (Kd.R_below (Kd.R_elderB (by (with_reducible repeat (first | apply Kd.R_alloc | apply Kd.R_drewN | apply Kd.R_drew)); exact HO_3.out) gb125 (Nat.le_of_eq hg.symm)) hb); have n1_ := Aside0.mk (below_step (by repeat (first | (with_reducible first | exact HB.out | apply below_alloc | apply pw_below_drewN | apply below_drew1) | exact HB.out)) hb); have n2_ := Aside0.mk (hbox); have n3_ := Aside0.mk ((by rw [hg]; exact (below_size (by repeat (first | (with_reducible first | exact HB.out | apply below_alloc | apply pw_below_drewN | apply below_drew1) | exact HB.out))) : w.heap.size ≤ gb125)); have n4_ := Aside0.mk ((by rw [hg]; exact (below_size (by repeat (first | (with_reducible first | exact HB.out | apply below_alloc | apply pw_below_drewN | apply below_drew1) | exact HB.out))) : w.heap.size ≤ gb125)); clear HO_3; clear HB; have HO_3 := n0_; have HB := n1_; have BK125 := n2_; have GW125 := n3_; have GE125 := n4_; clear n0_ n1_ n2_ n3_ n4_; clear hb hbox hg; have hcz8_0 : w7.cell? ⟨gb125, 0, none⟩ = some (.string (⟨#[]⟩ : ByteArray)) := (blk_cell BK125.out 0).trans rfl; have hcz8_1 : w7.cell? ⟨gb125, 1, none⟩ = some (.string (⟨#[]⟩ : ByteArray)) := (blk_cell BK125.out 1).trans rfl; have hcz8_2 : w7.cell? ⟨gb125, 2, none⟩ = some (.string (⟨#[]⟩ : ByteArray)) := (blk_cell BK125.out 2).trans rfl; have hfz8_0 := blk_frozen BK125.out 0; have hfz8_1 := blk_frozen BK125.out 1; have hfz8_2 := blk_frozen BK125.out 2) | ((with_reducible refine gate_store (t := 30) (p := 5) rfl ?_); refine store_event (t := 30) (p := 5) (v := ?vo_w9) (w1 := (((w7.setCell ⟨gb125, 0, none⟩ (.string ((rd_T30 l0 x13_1).f0))).setCell ⟨gb125, 1, none⟩ (.string ((rd_T30 l0 x13_1).f1))).setCell ⟨gb125, 2, none⟩ (.string ((rd_T30 l0 x13_1).f2)))) ?hg ?ho ?hn ?hr ?_; (case ho => rfl); (case hg => rfl); (case hn => rfl); (case hr => first | (go_simp; done) | (go_simp; rfl)); intro w9 hw; have n0_ : Aside0 (Kd.R k30 30 w9 w.heap.size (fun k_ => k_ ≠ gb125) u3 x3_1) := ⟨(by rw [hw]; exact (by (with_reducible repeat (first | apply Kd.R_alloc | apply Kd.R_drewN | apply Kd.R_drew)); exact Kd.R_mono (Kd.R_far (p := ⟨gb125, 2, none⟩) (Kd.R_far (p := ⟨gb125, 1, none⟩) (Kd.R_far (p := ⟨gb125, 0, none⟩) (Kd.R_mono HO_3.out (fun k_ hk => (⟨hk, hk.2⟩ : _ ∧ k_ ≠ gb125))) (fun _ hk => hk.2) (.string ((rd_T30 l0 x13_1).f0))) (fun _ hk => hk.2) (.string ((rd_T30 l0 x13_1).f1))) (fun _ hk => hk.2) (.string ((rd_T30 l0 x13_1).f2))) (fun _ hk => hk.1.2)))⟩; have n1_ : Aside0 (w9.heap[gb125]? = some (.cells #[.string ((rd_T30 l0 x13_1).f0), .string ((rd_T30 l0 x13_1).f1), .string ((rd_T30 l0 x13_1).f2)] 30 (0, 0))) := ⟨(by rw [hw]; exact (by (with_reducible repeat (first | refine blk_drewN ?_ _ | refine blk_drew ?_ | refine blk_alloc ?_ _)); refine blk_put (cs := #[.string ((rd_T30 l0 x13_1).f0), .string ((rd_T30 l0 x13_1).f1), .string (⟨#[]⟩ : ByteArray)]) ?_ 2 _ rfl; (with_reducible repeat (first | refine blk_drewN ?_ _ | refine blk_drew ?_ | refine blk_alloc ?_ _)); refine blk_put (cs := #[.string ((rd_T30 l0 x13_1).f0), .string (⟨#[]⟩ : ByteArray), .string (⟨#[]⟩ : ByteArray)]) ?_ 1 _ rfl; (with_reducible repeat (first | refine blk_drewN ?_ _ | refine blk_drew ?_ | refine blk_alloc ?_ _)); refine blk_put (cs := #[.string (⟨#[]⟩ : ByteArray), .string (⟨#[]⟩ : ByteArray), .string (⟨#[]⟩ : ByteArray)]) ?_ 0 _ rfl; (with_reducible repeat (first | refine blk_drewN ?_ _ | refine blk_drew ?_ | refine blk_alloc ?_ _)); exact BK125.out))⟩; have n2_ : Aside0 (Below w.heap.size w w9) := ⟨(by rw [hw]; exact (by repeat (first | (with_reducible first | exact HB.out | apply below_alloc | apply pw_below_drewN | apply below_drew1 | refine below_set ?_ GE125.out) | exact HB.out)))⟩; clear hw; clear HO_3; clear BK125; clear HB; have HO_3 := n0_; have BK125 := n1_; have HB := n2_; clear n0_ n1_ n2_; have q10 : (x13_1 : Int) ≤ ((l0.length : Int) : Int) := of_decide_eq_true (by first | (with_reducible assumption) | assumption); obtain ⟨i010, hi010, _, hsz10, _⟩ := info_parts info30; have hroom10 : l0.length ≤ c0 := HC0.out; have hC10 : Kd.C k30 _ (some ad124) l0.length l0 := HR0.out; have hcut10 := cut_to (P := Tryd.prog) 27 30 .i64 Tryd.underlying27 hi010 (some ad124) l0.length c0 x13_1 (of_decide_eq_true (by first | (with_reducible assumption) | assumption)) q10 hroom10; have hr10 := Kd.C_take (m := (x13_1 : Int).toNat) hC10 (by omega); have hy10 : y126.length = (x13_1 : Int).toNat := (by rw [Ny126.out, List.length_take]; omega); rw [← Ny126.out] at hr10; rw [← hy10] at hcut10; have HR129 := Aside0.mk hr10; have HC129 := Aside0.mk (show y126.length ≤ c0 from by omega); clear hr10 hC10 hroom10 hi010 hsz10; have KY10 := Aside0.mk hy10; clear hy10; replace q10 := eq_true q10))
       go_loopg [6, 22] k1 (fun kq v6 v22 w' => ∃ (x6_2 : Bool) (x22_2 : Int), v6 = .bool x6_2 ∧ v22 = .int .i64 x22_2 ∧ Aside0 (laws_grouped.l1 kq l0 x3_1 x13_1 x6_2 l0 (l0.length : Int) x13_1 y126 (y126.length : Int) x22_2 ((rd_T30 l0 x13_1).f0) ((rd_T30 l0 x13_1).f1) ((rd_T30 l0 x13_1).f2) = some r) ∧ Aside0 (kq ≤ k1) ∧ Aside0 (Kd.R k30 30 w' w.heap.size (fun k_ => k_ ≠ gb125) u3 x3_1) ∧ Aside0 (w'.heap[gb125]? = some (.cells #[.string ((rd_T30 l0 x13_1).f0), .string ((rd_T30 l0 x13_1).f1), .string ((rd_T30 l0 x13_1).f2)] 30 (0, 0))) ∧ Aside0 (Below w.heap.size w w'))
       case atStart => exact ⟨(true), (0), (by first | rfl | (simp; done) | (simp [*]; done)), (by first | rfl | (simp; done) | (simp [*]; done)), H', ⟨Nat.le_refl _⟩, ⟨by (with_reducible repeat (first | apply Kd.R_alloc | apply Kd.R_drewN | apply Kd.R_drew)); exact HO_3.out⟩, ⟨by (with_reducible repeat (first | refine blk_drewN ?_ _ | refine blk_drew ?_ | refine blk_alloc ?_ _)); exact BK125.out⟩, ⟨by repeat (first | (with_reducible first | exact HB.out | apply below_alloc | apply pw_below_drewN | apply below_drew1 | refine below_set ?_ GE125.out) | exact HB.out)⟩⟩
       case round =>
        clear H'
        try clear p1
        try clear q1
        try clear hx1
        try clear c2
        try clear c2b0
        try clear p2
        try clear c3
        try clear c3b0
        try clear c4
        try clear c4b0
        try clear c5
        try clear c5b0
        try clear c6
        try clear c6b0
        try clear c6b1
        try clear q10
        try clear hcz8_0
        try clear hcz8_1
        try clear hcz8_2
        try clear hfz8_0
        try clear hfz8_1
        try clear hfz8_2
        try clear hx124_0
        try clear hx124_1
        try clear hx124_2
        try clear p124
        try clear q10
        try clear q124
        obtain ⟨x6_2, x22_2, rfl, rfl, HA, HK2, HO_3, BK125, HB⟩ := hrel
        cases gk with
        | zero => exact absurd HA.out (by simp [laws_grouped.l1])
        | succ k2 =>
         have H := HA.out
         clear HA
         simp only [laws_grouped.l1] at H
         by_cases c11 : x22_2 < (y126.length : Int)
         ·rw [if_pos c11] at H
          have c11b0 : decide (x22_2 < (y126.length : Int)) = true := decide_eq_true c11
          clear c11
          by_cases c12 : 0 ≤ x22_2
          ·rw [if_pos c12] at H
           have c12b0 : decide (0 ≤ x22_2) = true := decide_eq_true c12
           clear c12
           by_cases c13 : x22_2 < (y126.length : Int)
           ·rw [if_pos c13] at H
            have c13b0 : decide (x22_2 < (y126.length : Int)) = true := decide_eq_true c13
            clear c13
            by_cases c14 : x6_2 = true
            ·subst c14
             have H1 : (laws_grouped.l1 k2 l0 x3_1 x13_1 (((rd_T30 y126 x22_2).f0).toList != ((rd_T30 l0 x13_1).f0).toList) l0 (l0.length : Int) x13_1 y126 (y126.length : Int) (wrap64 (x22_2 + 1)) ((rd_T30 l0 x13_1).f0) ((rd_T30 l0 x13_1).f1) ((rd_T30 l0 x13_1).f2)) = some r := by rw [if_pos rfl] at H; exact H
             clear H
             have H := H1
             clear H1
             have H' := Aside0.mk H
             clear H
             have p130 : 0 ≤ (x22_2 : Int) := of_decide_eq_true (by first | (with_reducible assumption) | assumption)
             have q130 : x22_2 < (y126.length : Int) := of_decide_eq_true (by first | (with_reducible assumption) | assumption)
             obtain ⟨ad130, e130, hx130_0, hx130_1, hx130_2⟩ := at_T30 HR129.out x22_2 p130 q130
             obtain rfl : ad124 = ad130 := (by injection e130)
             replace hx130_0 := (HB.out.cell (World.block_lt_of_cell? w _ hx130_0)).trans hx130_0
             replace hx130_1 := (HB.out.cell (World.block_lt_of_cell? w _ hx130_1)).trans hx130_1
             replace hx130_2 := (HB.out.cell (World.block_lt_of_cell? w _ hx130_2)).trans hx130_2
             replace p130 := eq_true p130
             replace q130 := eq_true q130
             go_wp2_with (first | ((with_reducible refine gate_dst (N := 8) rfl ?_); refine box_event ?hg (N := 8) ?hd (cs := #[.string (⟨#[]⟩ : ByteArray), .string (⟨#[]⟩ : ByteArray), .string (⟨#[]⟩ : ByteArray)]) (t := 30) ?hr ?_; (case hd => rfl); (case hg => rfl); (case hr => first | (go_simp; done) | (go_simp; rfl)); intro gb131 hg w15 hbox hb; have n0_ := Aside0.mk (Kd.R_below (Kd.R_elderB (by (with_reducible repeat (first | apply Kd.R_alloc | apply Kd.R_drewN | apply Kd.R_drew)); exact HO_3.out) gb131 (Nat.le_of_eq hg.symm)) hb); have n1_ := Aside0.mk (blk_below (g := gb125) (o := .cells #[.string ((rd_T30 l0 x13_1).f0), .string ((rd_T30 l0 x13_1).f1), .string ((rd_T30 l0 x13_1).f2)] 30 (0, 0)) (by (with_reducible repeat (first | refine blk_drewN ?_ _ | refine blk_drew ?_ | refine blk_alloc ?_ _)); exact BK125.out) hb); have n2_ := Aside0.mk (below_step (by repeat (first | (with_reducible first | exact HB.out | apply below_alloc | apply pw_below_drewN | apply below_drew1 | refine below_set ?_ GE125.out) | exact HB.out)) hb); have n3_ := Aside0.mk (hbox); have n4_ := Aside0.mk ((by rw [hg]; exact (below_size (by repeat (first | (with_reducible first | exact HB.out | apply below_alloc | apply pw_below_drewN | apply below_drew1 | refine below_set ?_ GE125.out) | exact HB.out))) : w.heap.size ≤ gb131)); have n5_ := Aside0.mk ((by rw [hg]; exact (below_size (by repeat (first | (with_reducible first | exact HB.out | apply below_alloc | apply pw_below_drewN | apply below_drew1 | refine below_set ?_ GE125.out) | exact HB.out))) : w.heap.size ≤ gb131)); have n6_ := Aside0.mk ((by rw [hg]; exact Nat.ne_of_lt (blk_lt (g := gb125) (o := .cells #[.string ((rd_T30 l0 x13_1).f0), .string ((rd_T30 l0 x13_1).f1), .string ((rd_T30 l0 x13_1).f2)] 30 (0, 0)) (by (with_reducible repeat (first | refine blk_drewN ?_ _ | refine blk_drew ?_ | refine blk_alloc ?_ _)); exact BK125.out)) : gb125 ≠ gb131)); have n7_ := Aside0.mk ((by rw [hg]; exact Nat.ne_of_gt (blk_lt (g := gb125) (o := .cells #[.string ((rd_T30 l0 x13_1).f0), .string ((rd_T30 l0 x13_1).f1), .string ((rd_T30 l0 x13_1).f2)] 30 (0, 0)) (by (with_reducible repeat (first | refine blk_drewN ?_ _ | refine blk_drew ?_ | refine blk_alloc ?_ _)); exact BK125.out)) : gb131 ≠ gb125)); clear HO_3; clear BK125; clear HB; have HO_3 := n0_; have BK125 := n1_; have HB := n2_; have BK131 := n3_; have GW131 := n4_; have GE131 := n5_; have NB125_131 := n6_; have NB131_125 := n7_; clear n0_ n1_ n2_ n3_ n4_ n5_ n6_ n7_; clear hb hbox hg; have hnb16 := NB131_125.out; have hnc16 := NB125_131.out; have hcz17_0 : w15.cell? ⟨gb131, 0, none⟩ = some (.string (⟨#[]⟩ : ByteArray)) := (blk_cell BK131.out 0).trans rfl; have hcz17_1 : w15.cell? ⟨gb131, 1, none⟩ = some (.string (⟨#[]⟩ : ByteArray)) := (blk_cell BK131.out 1).trans rfl; have hcz17_2 : w15.cell? ⟨gb131, 2, none⟩ = some (.string (⟨#[]⟩ : ByteArray)) := (blk_cell BK131.out 2).trans rfl; have hfz17_0 := blk_frozen BK131.out 0; have hfz17_1 := blk_frozen BK131.out 1; have hfz17_2 := blk_frozen BK131.out 2; have hcz18_0 : w15.cell? ⟨gb125, 0, none⟩ = some (.string ((rd_T30 l0 x13_1).f0)) := (blk_cell BK125.out 0).trans rfl; have hcz18_1 : w15.cell? ⟨gb125, 1, none⟩ = some (.string ((rd_T30 l0 x13_1).f1)) := (blk_cell BK125.out 1).trans rfl; have hcz18_2 : w15.cell? ⟨gb125, 2, none⟩ = some (.string ((rd_T30 l0 x13_1).f2)) := (blk_cell BK125.out 2).trans rfl; have hfz18_0 := blk_frozen BK125.out 0; have hfz18_1 := blk_frozen BK125.out 1; have hfz18_2 := blk_frozen BK125.out 2))
             go_roundg k2
             case measure => have := HK1.out; have := HK2.out; omega
             case rel => exact ⟨((((rd_T30 y126 x22_2).f0).toList != ((rd_T30 l0 x13_1).f0).toList)), (wrap64 (x22_2 + 1)), (by first | rfl | (simp; done) | (simp [*]; done)), (by first | rfl | (simp; done) | (simp [*]; done)), H', ⟨by have := HK1.out; have := HK2.out; omega⟩, ⟨by (with_reducible repeat (first | apply Kd.R_alloc | apply Kd.R_drewN | apply Kd.R_drew)); exact Kd.R_mono (Kd.R_far (p := ⟨gb131, 2, none⟩) (Kd.R_far (p := ⟨gb131, 1, none⟩) (Kd.R_far (p := ⟨gb131, 0, none⟩) (Kd.R_mono HO_3.out (fun k_ hk => (⟨hk, hk.2⟩ : _ ∧ k_ ≠ gb131))) (fun _ hk => hk.2) (.string ((rd_T30 y126 x22_2).f0))) (fun _ hk => hk.2) (.string ((rd_T30 y126 x22_2).f1))) (fun _ hk => hk.2) (.string ((rd_T30 y126 x22_2).f2))) (fun _ hk => hk.1.1)⟩, ⟨by (with_reducible repeat (first | refine blk_drewN ?_ _ | refine blk_drew ?_ | refine blk_alloc ?_ _)); refine blk_far ?_ NB125_131.out _; (with_reducible repeat (first | refine blk_drewN ?_ _ | refine blk_drew ?_ | refine blk_alloc ?_ _)); refine blk_far ?_ NB125_131.out _; (with_reducible repeat (first | refine blk_drewN ?_ _ | refine blk_drew ?_ | refine blk_alloc ?_ _)); refine blk_far ?_ NB125_131.out _; (with_reducible repeat (first | refine blk_drewN ?_ _ | refine blk_drew ?_ | refine blk_alloc ?_ _)); exact BK125.out⟩, ⟨by repeat (first | (with_reducible first | exact HB.out | apply below_alloc | apply pw_below_drewN | apply below_drew1 | refine below_set ?_ GE125.out | refine below_set ?_ GE131.out) | exact HB.out)⟩⟩
            ·replace c14 := Bool.eq_false_iff.mpr c14
             subst c14
             have H1 : (laws_grouped.l1 k2 l0 x3_1 x13_1 false l0 (l0.length : Int) x13_1 y126 (y126.length : Int) (wrap64 (x22_2 + 1)) ((rd_T30 l0 x13_1).f0) ((rd_T30 l0 x13_1).f1) ((rd_T30 l0 x13_1).f2)) = some r := by rw [if_neg (show ¬ (false = true) by decide)] at H; exact H
             clear H
             have H := H1
             clear H1
             have H' := Aside0.mk H
             clear H
             have p130 : 0 ≤ (x22_2 : Int) := of_decide_eq_true (by first | (with_reducible assumption) | assumption)
             have q130 : x22_2 < (y126.length : Int) := of_decide_eq_true (by first | (with_reducible assumption) | assumption)
             obtain ⟨ad130, e130, hx130_0, hx130_1, hx130_2⟩ := at_T30 HR129.out x22_2 p130 q130
             obtain rfl : ad124 = ad130 := (by injection e130)
             replace hx130_0 := (HB.out.cell (World.block_lt_of_cell? w _ hx130_0)).trans hx130_0
             replace hx130_1 := (HB.out.cell (World.block_lt_of_cell? w _ hx130_1)).trans hx130_1
             replace hx130_2 := (HB.out.cell (World.block_lt_of_cell? w _ hx130_2)).trans hx130_2
             replace p130 := eq_true p130
             replace q130 := eq_true q130
             go_wp2_with (first | ((with_reducible refine gate_dst (N := 8) rfl ?_); refine box_event ?hg (N := 8) ?hd (cs := #[.string (⟨#[]⟩ : ByteArray), .string (⟨#[]⟩ : ByteArray), .string (⟨#[]⟩ : ByteArray)]) (t := 30) ?hr ?_; (case hd => rfl); (case hg => rfl); (case hr => first | (go_simp; done) | (go_simp; rfl)); intro gb131 hg w19 hbox hb; have n0_ := Aside0.mk (Kd.R_below (Kd.R_elderB (by (with_reducible repeat (first | apply Kd.R_alloc | apply Kd.R_drewN | apply Kd.R_drew)); exact HO_3.out) gb131 (Nat.le_of_eq hg.symm)) hb); have n1_ := Aside0.mk (blk_below (g := gb125) (o := .cells #[.string ((rd_T30 l0 x13_1).f0), .string ((rd_T30 l0 x13_1).f1), .string ((rd_T30 l0 x13_1).f2)] 30 (0, 0)) (by (with_reducible repeat (first | refine blk_drewN ?_ _ | refine blk_drew ?_ | refine blk_alloc ?_ _)); exact BK125.out) hb); have n2_ := Aside0.mk (below_step (by repeat (first | (with_reducible first | exact HB.out | apply below_alloc | apply pw_below_drewN | apply below_drew1 | refine below_set ?_ GE125.out) | exact HB.out)) hb); have n3_ := Aside0.mk (hbox); have n4_ := Aside0.mk ((by rw [hg]; exact (below_size (by repeat (first | (with_reducible first | exact HB.out | apply below_alloc | apply pw_below_drewN | apply below_drew1 | refine below_set ?_ GE125.out) | exact HB.out))) : w.heap.size ≤ gb131)); have n5_ := Aside0.mk ((by rw [hg]; exact (below_size (by repeat (first | (with_reducible first | exact HB.out | apply below_alloc | apply pw_below_drewN | apply below_drew1 | refine below_set ?_ GE125.out) | exact HB.out))) : w.heap.size ≤ gb131)); have n6_ := Aside0.mk ((by rw [hg]; exact Nat.ne_of_lt (blk_lt (g := gb125) (o := .cells #[.string ((rd_T30 l0 x13_1).f0), .string ((rd_T30 l0 x13_1).f1), .string ((rd_T30 l0 x13_1).f2)] 30 (0, 0)) (by (with_reducible repeat (first | refine blk_drewN ?_ _ | refine blk_drew ?_ | refine blk_alloc ?_ _)); exact BK125.out)) : gb125 ≠ gb131)); have n7_ := Aside0.mk ((by rw [hg]; exact Nat.ne_of_gt (blk_lt (g := gb125) (o := .cells #[.string ((rd_T30 l0 x13_1).f0), .string ((rd_T30 l0 x13_1).f1), .string ((rd_T30 l0 x13_1).f2)] 30 (0, 0)) (by (with_reducible repeat (first | refine blk_drewN ?_ _ | refine blk_drew ?_ | refine blk_alloc ?_ _)); exact BK125.out)) : gb131 ≠ gb125)); clear HO_3; clear BK125; clear HB; have HO_3 := n0_; have BK125 := n1_; have HB := n2_; have BK131 := n3_; have GW131 := n4_; have GE131 := n5_; have NB125_131 := n6_; have NB131_125 := n7_; clear n0_ n1_ n2_ n3_ n4_ n5_ n6_ n7_; clear hb hbox hg; have hnb20 := NB131_125.out; have hnc20 := NB125_131.out; have hcz21_0 : w19.cell? ⟨gb131, 0, none⟩ = some (.string (⟨#[]⟩ : ByteArray)) := (blk_cell BK131.out 0).trans rfl; have hcz21_1 : w19.cell? ⟨gb131, 1, none⟩ = some (.string (⟨#[]⟩ : ByteArray)) := (blk_cell BK131.out 1).trans rfl; have hcz21_2 : w19.cell? ⟨gb131, 2, none⟩ = some (.string (⟨#[]⟩ : ByteArray)) := (blk_cell BK131.out 2).trans rfl; have hfz21_0 := blk_frozen BK131.out 0; have hfz21_1 := blk_frozen BK131.out 1; have hfz21_2 := blk_frozen BK131.out 2))
             go_roundg k2
             case measure => have := HK1.out; have := HK2.out; omega
             case rel => exact ⟨(false), (wrap64 (x22_2 + 1)), (by first | rfl | (simp; done) | (simp [*]; done)), (by first | rfl | (simp; done) | (simp [*]; done)), H', ⟨by have := HK1.out; have := HK2.out; omega⟩, ⟨by (with_reducible repeat (first | apply Kd.R_alloc | apply Kd.R_drewN | apply Kd.R_drew)); exact Kd.R_mono (Kd.R_far (p := ⟨gb131, 2, none⟩) (Kd.R_far (p := ⟨gb131, 1, none⟩) (Kd.R_far (p := ⟨gb131, 0, none⟩) (Kd.R_mono HO_3.out (fun k_ hk => (⟨hk, hk.2⟩ : _ ∧ k_ ≠ gb131))) (fun _ hk => hk.2) (.string ((rd_T30 y126 x22_2).f0))) (fun _ hk => hk.2) (.string ((rd_T30 y126 x22_2).f1))) (fun _ hk => hk.2) (.string ((rd_T30 y126 x22_2).f2))) (fun _ hk => hk.1.1)⟩, ⟨by (with_reducible repeat (first | refine blk_drewN ?_ _ | refine blk_drew ?_ | refine blk_alloc ?_ _)); refine blk_far ?_ NB125_131.out _; (with_reducible repeat (first | refine blk_drewN ?_ _ | refine blk_drew ?_ | refine blk_alloc ?_ _)); refine blk_far ?_ NB125_131.out _; (with_reducible repeat (first | refine blk_drewN ?_ _ | refine blk_drew ?_ | refine blk_alloc ?_ _)); refine blk_far ?_ NB125_131.out _; (with_reducible repeat (first | refine blk_drewN ?_ _ | refine blk_drew ?_ | refine blk_alloc ?_ _)); exact BK125.out⟩, ⟨by repeat (first | (with_reducible first | exact HB.out | apply below_alloc | apply pw_below_drewN | apply below_drew1 | refine below_set ?_ GE125.out | refine below_set ?_ GE131.out) | exact HB.out)⟩⟩
           ·rw [if_neg c13] at H
            exact absurd H (by simp)
          ·rw [if_neg c12] at H
           exact absurd H (by simp)
         ·rw [if_neg c11] at H
          have c11b0 : decide (x22_2 < (y126.length : Int)) = false := decide_eq_false c11
          clear c11
          by_cases c22 : 0 ≤ x13_1
          ·rw [if_pos c22] at H
           have c22b0 := eq_true c22
           have c22b1 : decide (0 ≤ x13_1) = true := decide_eq_true c22
           clear c22
           by_cases c23 : x13_1 ≤ (l0.length : Int)
           ·rw [if_pos c23] at H
            have c23b0 := eq_true c23
            have c23b1 : decide (x13_1 ≤ (l0.length : Int)) = true := decide_eq_true c23
            clear c23
            obtain ⟨y132, hy132⟩ : ∃ y_ : List (S30), y_ = (l0.drop (x13_1 : Int).toNat) := ⟨_, rfl⟩
            replace H : (laws_grouped.l2 k2 l0 x3_1 x6_2 l0 (l0.length : Int) x13_1 y132 (y132.length : Int) 0 ((rd_T30 l0 x13_1).f0) ((rd_T30 l0 x13_1).f1) ((rd_T30 l0 x13_1).f2)) = some r := by first | (rw [hy132]; with_reducible exact H) | (have H2_ := (Option.bind_some _ _).symm.trans H; rw [hy132]; with_reducible exact H2_) | (have H2_ := (Option.bind_some _ _).symm.trans H; with_reducible exact H2_) | with_reducible exact H | (rw [hy132]; exact H) | exact H
            have Ny132 := Aside0.mk hy132
            clear hy132
            have H' := Aside0.mk H
            clear H
            have q24 : (x13_1 : Int) ≤ ((l0.length : Int) : Int) := of_decide_eq_true (by first | (with_reducible assumption) | assumption)
            obtain ⟨i024, hi024, _, hsz24, _⟩ := info_parts info30
            have hroom24 : l0.length ≤ c0 := HC0.out
            have hC24 : Kd.C k30 _ (some ad124) l0.length l0 := HR0.out
            have q024 : (0 : Int) ≤ (x13_1 : Int) := of_decide_eq_true (by first | (with_reducible assumption) | assumption)
            have hcut24 := cut_from (P := Tryd.prog) 27 30 .i64 Tryd.underlying27 hi024 3 hsz24 (some ad124) l0.length c0 x13_1 q024 q24
            have hr24 := Kd.C_drop (m := (x13_1 : Int).toNat) (c := c0) hC24 (by omega) hroom24
            obtain ⟨A24, hA24⟩ : ∃ A1, A1 = (if c0 = (x13_1 : Int).toNat then (some ad124) else ((some ad124) : Option Addr).map (·.add ((x13_1 : Int).toNat * 3))) := ⟨_, rfl⟩
            obtain ⟨c24, hc24⟩ : ∃ c1, c1 = c0 - (x13_1 : Int).toNat := ⟨_, rfl⟩
            have hy24 : y132.length = l0.length - (x13_1 : Int).toNat := (by rw [Ny132.out, List.length_drop] <;> omega)
            rw [show (l0).drop (x13_1 : Int).toNat = y132 from Ny132.out.symm] at hr24
            replace hr24 : Kd.C k30 _ A24 y132.length y132 := (by rw [hA24]; exact hr24)
            rw [← hy24, ← hA24, ← hc24] at hcut24
            have HR135 := Aside0.mk hr24
            have HC135 := Aside0.mk (show y132.length ≤ c24 from by rw [hy24, hc24]; exact Nat.sub_le_sub_right hroom24 _)
            clear hr24 hC24 hroom24 hi024 hsz24 hc24
            have KY24 := Aside0.mk hy24
            have KA24 := Aside0.mk hA24
            clear hy24 hA24
            replace q24 := eq_true q24
            go_wp2
            go_loopg [3, 39] k2 (fun kq v3 v39 w' => ∃ (x3_3 : List (S30)) (x39_3 : Int), v39 = .int .i64 x39_3 ∧ Aside0 (laws_grouped.l2 kq l0 x3_3 x6_2 l0 (l0.length : Int) x13_1 y132 (y132.length : Int) x39_3 ((rd_T30 l0 x13_1).f0) ((rd_T30 l0 x13_1).f1) ((rd_T30 l0 x13_1).f2) = some r) ∧ Aside0 (kq ≤ k2) ∧ Aside0 (Kd.R k30 30 w' w.heap.size (fun k_ => k_ ≠ gb125) v3 x3_3) ∧ Aside0 (w'.heap[gb125]? = some (.cells #[.string ((rd_T30 l0 x13_1).f0), .string ((rd_T30 l0 x13_1).f1), .string ((rd_T30 l0 x13_1).f2)] 30 (0, 0))) ∧ Aside0 (Below w.heap.size w w'))
            case atStart => exact ⟨(x3_1), (0), (by first | rfl | (simp; done) | (simp [*]; done)), H', ⟨Nat.le_refl _⟩, ⟨by (with_reducible repeat (first | apply Kd.R_alloc | apply Kd.R_drewN | apply Kd.R_drew)); exact HO_3.out⟩, ⟨by (with_reducible repeat (first | refine blk_drewN ?_ _ | refine blk_drew ?_ | refine blk_alloc ?_ _)); exact BK125.out⟩, ⟨by repeat (first | (with_reducible first | exact HB.out | apply below_alloc | apply pw_below_drewN | apply below_drew1 | refine below_set ?_ GE125.out) | exact HB.out)⟩⟩
            case round =>
             clear H'
             try clear c1
             try clear p1
             try clear q1
             try clear hx1
             try clear c2
             try clear c2b0
             try clear p2
             try clear q2
             try clear c3
             try clear c3b0
             try clear c4
             try clear c4b0
             try clear c5
             try clear c5b0
             try clear c6
             try clear c6b0
             try clear c6b1
             try clear p6
             try clear q10
             try clear c11
             try clear c11b0
             try clear c12
             try clear c12b0
             try clear p12
             try clear q12
             try clear hx12
             try clear c13
             try clear c13b0
             try clear p13
             try clear q13
             try clear hx13
             try clear c14
             try clear c16
             try clear c20
             try clear c22
             try clear c22b0
             try clear c22b1
             try clear c23
             try clear c23b0
             try clear c23b1
             try clear c24
             try clear q24
             try clear hcz17_0
             try clear hcz17_1
             try clear hcz17_2
             try clear hcz18_0
             try clear hcz18_1
             try clear hcz18_2
             try clear hcz21_0
             try clear hcz21_1
             try clear hcz21_2
             try clear hcz8_0
             try clear hcz8_1
             try clear hcz8_2
             try clear hfz17_0
             try clear hfz17_1
             try clear hfz17_2
             try clear hfz18_0
             try clear hfz18_1
             try clear hfz18_2
             try clear hfz21_0
             try clear hfz21_1
             try clear hfz21_2
             try clear hfz8_0
             try clear hfz8_1
             try clear hfz8_2
             try clear hx124_0
             try clear hx124_1
             try clear hx124_2
             try clear hx130_0
             try clear hx130_1
             try clear hx130_2
             try clear p1
             try clear p124
             try clear p130
             try clear p2
             try clear q024
             try clear q1
             try clear q10
             try clear q124
             try clear q130
             try clear q24
             obtain ⟨x3_3, x39_3, rfl, HA, HK3, HO_3, BK125, HB⟩ := hrel
             cases gk with
             | zero => exact absurd HA.out (by simp [laws_grouped.l2])
             | succ k3 =>
              have H := HA.out
              clear HA
              simp only [laws_grouped.l2] at H
              by_cases c25 : x39_3 < (y132.length : Int)
              ·rw [if_pos c25] at H
               have c25b0 : decide (x39_3 < (y132.length : Int)) = true := decide_eq_true c25
               clear c25
               by_cases c26 : 0 ≤ x39_3
               ·rw [if_pos c26] at H
                have c26b0 : decide (0 ≤ x39_3) = true := decide_eq_true c26
                clear c26
                by_cases c27 : x39_3 < (y132.length : Int)
                ·rw [if_pos c27] at H
                 have c27b0 : decide (x39_3 < (y132.length : Int)) = true := decide_eq_true c27
                 clear c27
                 by_cases c28 : x6_2 = true
                 ·subst c28
                  have H1 : (if ((rd_T30 y132 x39_3).f0).toList = ((rd_T30 l0 x13_1).f0).toList then (if x3_3.length < 2932031007402 then (laws_grouped.l2 k3 l0 (x3_3 ++ [(⟨(rd_T30 y132 x39_3).f0, (rd_T30 y132 x39_3).f1, (rd_T30 y132 x39_3).f2⟩ : S30)]) true l0 (l0.length : Int) x13_1 y132 (y132.length : Int) (wrap64 (x39_3 + 1)) ((rd_T30 l0 x13_1).f0) ((rd_T30 l0 x13_1).f1) ((rd_T30 l0 x13_1).f2)) else (none)) else (laws_grouped.l2 k3 l0 x3_3 true l0 (l0.length : Int) x13_1 y132 (y132.length : Int) (wrap64 (x39_3 + 1)) ((rd_T30 l0 x13_1).f0) ((rd_T30 l0 x13_1).f1) ((rd_T30 l0 x13_1).f2))) = some r := by rw [if_pos rfl] at H; exact H
                  clear H
                  have H := H1
                  clear H1
                  by_cases c29 : ((rd_T30 y132 x39_3).f0).toList = ((rd_T30 l0 x13_1).f0).toList
                  ·rw [if_pos c29] at H
                   have c29b0 : (((rd_T30 y132 x39_3).f0).toList == ((rd_T30 l0 x13_1).f0).toList) = true := beq_iff_eq.mpr c29
                   have c29b1 : (((rd_T30 y132 x39_3).f0).toList != ((rd_T30 l0 x13_1).f0).toList) = false := bne_eq_false_iff_eq.mpr c29
                   clear c29
                   by_cases c30 : x3_3.length < 2932031007402
                   ·rw [if_pos c30] at H
                    have LMc30 := Aside0.mk c30
                    clear c30
                    obtain ⟨y138, hy138⟩ : ∃ y_ : List (S30), y_ = (x3_3 ++ [(⟨(rd_T30 y132 x39_3).f0, (rd_T30 y132 x39_3).f1, (rd_T30 y132 x39_3).f2⟩ : S30)]) := ⟨_, rfl⟩
                    replace H : (laws_grouped.l2 k3 l0 y138 true l0 (l0.length : Int) x13_1 y132 (y132.length : Int) (wrap64 (x39_3 + 1)) ((rd_T30 l0 x13_1).f0) ((rd_T30 l0 x13_1).f1) ((rd_T30 l0 x13_1).f2)) = some r := by first | (rw [hy138]; with_reducible exact H) | (have H2_ := (Option.bind_some _ _).symm.trans H; rw [hy138]; with_reducible exact H2_) | (have H2_ := (Option.bind_some _ _).symm.trans H; with_reducible exact H2_) | with_reducible exact H | (rw [hy138]; exact H) | exact H
                    have Ny138 := Aside0.mk hy138
                    clear hy138
                    have H' := Aside0.mk H
                    clear H
                    have p136 : 0 ≤ (x39_3 : Int) := of_decide_eq_true (by first | (with_reducible assumption) | assumption)
                    have q136 : x39_3 < (y132.length : Int) := of_decide_eq_true (by first | (with_reducible assumption) | assumption)
                    obtain ⟨ad136, e136, hx136_0, hx136_1, hx136_2⟩ := at_T30 HR135.out x39_3 p136 q136
                    cases e136
                    replace hx136_0 := (HB.out.cell (World.block_lt_of_cell? w _ hx136_0)).trans hx136_0
                    replace hx136_1 := (HB.out.cell (World.block_lt_of_cell? w _ hx136_1)).trans hx136_1
                    replace hx136_2 := (HB.out.cell (World.block_lt_of_cell? w _ hx136_2)).trans hx136_2
                    replace p136 := eq_true p136
                    replace q136 := eq_true q136
                    go_wp2_with (first | ((with_reducible refine gate_dst (N := 10) rfl ?_); refine box_event ?hg (N := 10) ?hd (cs := #[.string (⟨#[]⟩ : ByteArray), .string (⟨#[]⟩ : ByteArray), .string (⟨#[]⟩ : ByteArray)]) (t := 30) ?hr ?_; (case hd => rfl); (case hg => rfl); (case hr => first | (go_simp; done) | (go_simp; rfl)); intro gb137 hg w31 hbox hb; have n0_ := Aside0.mk (Kd.R_below (Kd.R_elderB (by (with_reducible repeat (first | apply Kd.R_alloc | apply Kd.R_drewN | apply Kd.R_drew)); exact HO_3.out) gb137 (Nat.le_of_eq hg.symm)) hb); have n1_ := Aside0.mk (blk_below (g := gb125) (o := .cells #[.string ((rd_T30 l0 x13_1).f0), .string ((rd_T30 l0 x13_1).f1), .string ((rd_T30 l0 x13_1).f2)] 30 (0, 0)) (by (with_reducible repeat (first | refine blk_drewN ?_ _ | refine blk_drew ?_ | refine blk_alloc ?_ _)); exact BK125.out) hb); have n2_ := Aside0.mk (below_step (by repeat (first | (with_reducible first | exact HB.out | apply below_alloc | apply pw_below_drewN | apply below_drew1 | refine below_set ?_ GE125.out) | exact HB.out)) hb); have n3_ := Aside0.mk (hbox); have n4_ := Aside0.mk ((by rw [hg]; exact (below_size (by repeat (first | (with_reducible first | exact HB.out | apply below_alloc | apply pw_below_drewN | apply below_drew1 | refine below_set ?_ GE125.out) | exact HB.out))) : w.heap.size ≤ gb137)); have n5_ := Aside0.mk ((by rw [hg]; exact (below_size (by repeat (first | (with_reducible first | exact HB.out | apply below_alloc | apply pw_below_drewN | apply below_drew1 | refine below_set ?_ GE125.out) | exact HB.out))) : w.heap.size ≤ gb137)); have n6_ := Aside0.mk ((by rw [hg]; exact Nat.ne_of_lt (blk_lt (g := gb125) (o := .cells #[.string ((rd_T30 l0 x13_1).f0), .string ((rd_T30 l0 x13_1).f1), .string ((rd_T30 l0 x13_1).f2)] 30 (0, 0)) (by (with_reducible repeat (first | refine blk_drewN ?_ _ | refine blk_drew ?_ | refine blk_alloc ?_ _)); exact BK125.out)) : gb125 ≠ gb137)); have n7_ := Aside0.mk ((by rw [hg]; exact Nat.ne_of_gt (blk_lt (g := gb125) (o := .cells #[.string ((rd_T30 l0 x13_1).f0), .string ((rd_T30 l0 x13_1).f1), .string ((rd_T30 l0 x13_1).f2)] 30 (0, 0)) (by (with_reducible repeat (first | refine blk_drewN ?_ _ | refine blk_drew ?_ | refine blk_alloc ?_ _)); exact BK125.out)) : gb137 ≠ gb125)); clear HO_3; clear BK125; clear HB; have HO_3 := n0_; have BK125 := n1_; have HB := n2_; have BK137 := n3_; have GW137 := n4_; have GE137 := n5_; have NB125_137 := n6_; have NB137_125 := n7_; clear n0_ n1_ n2_ n3_ n4_ n5_ n6_ n7_; clear hb hbox hg; have hnb32 := NB137_125.out; have hnc32 := NB125_137.out; have hcz33_0 : w31.cell? ⟨gb137, 0, none⟩ = some (.string (⟨#[]⟩ : ByteArray)) := (blk_cell BK137.out 0).trans rfl; have hcz33_1 : w31.cell? ⟨gb137, 1, none⟩ = some (.string (⟨#[]⟩ : ByteArray)) := (blk_cell BK137.out 1).trans rfl; have hcz33_2 : w31.cell? ⟨gb137, 2, none⟩ = some (.string (⟨#[]⟩ : ByteArray)) := (blk_cell BK137.out 2).trans rfl; have hfz33_0 := blk_frozen BK137.out 0; have hfz33_1 := blk_frozen BK137.out 1; have hfz33_2 := blk_frozen BK137.out 2; have hcz34_0 : w31.cell? ⟨gb125, 0, none⟩ = some (.string ((rd_T30 l0 x13_1).f0)) := (blk_cell BK125.out 0).trans rfl; have hcz34_1 : w31.cell? ⟨gb125, 1, none⟩ = some (.string ((rd_T30 l0 x13_1).f1)) := (blk_cell BK125.out 1).trans rfl; have hcz34_2 : w31.cell? ⟨gb125, 2, none⟩ = some (.string ((rd_T30 l0 x13_1).f2)) := (blk_cell BK125.out 2).trans rfl; have hfz34_0 := blk_frozen BK125.out 0; have hfz34_1 := blk_frozen BK125.out 1; have hfz34_2 := blk_frozen BK125.out 2) | ((with_reducible refine gate_builtin (b := .append) (xs := #[.tmp 51, .tmp 53]) rfl ?_); at_builtin; refine Kd.R_append k30 (w0 := w) w.heap.size rfl (.tmp 51) (.tmp 53) 27 30 (.agg #[(.string ⟨#[]⟩), (.string ⟨#[]⟩), (.string ⟨#[]⟩)]) 48 rfl Tryd.underlying27 info30 rfl (by decide) (by omega) u3 x3_3 (⟨(rd_T30 y132 x39_3).f0, (rd_T30 y132 x39_3).f1, (rd_T30 y132 x39_3).f2⟩ : S30) [.string ((rd_T30 y132 x39_3).f0), .string ((rd_T30 y132 x39_3).f1), .string ((rd_T30 y132 x39_3).f2)] (fun k_ => k_ ≠ gb125 ∧ k_ ≠ gb137) (fun _ => False) rfl (by first | (go_simp; done) | (go_simp; rfl)) ?aP (fun _ hk => hk.elim) ?aF ?aO ?aB ?aS ?aL ?_; (case aP => exact k30_mkM _ _ _ (⟨(rd_T30 y132 x39_3).f0, (rd_T30 y132 x39_3).f1, (rd_T30 y132 x39_3).f2⟩ : S30)); (case aB => exact (by repeat (first | (with_reducible first | exact HB.out | apply below_alloc | apply pw_below_drewN | apply below_drew1 | refine below_set ?_ GE125.out | refine below_set ?_ GE137.out) | exact HB.out))); (case aF => exact (fun k_ hk => ⟨Kd.freshB (g := gb125) (o := .cells #[.string ((rd_T30 l0 x13_1).f0), .string ((rd_T30 l0 x13_1).f1), .string ((rd_T30 l0 x13_1).f2)] 30 (0, 0)) (by (with_reducible repeat (first | refine blk_drewN ?_ _ | refine blk_drew ?_ | refine blk_alloc ?_ _)); refine blk_far ?_ NB125_137.out _; (with_reducible repeat (first | refine blk_drewN ?_ _ | refine blk_drew ?_ | refine blk_alloc ?_ _)); refine blk_far ?_ NB125_137.out _; (with_reducible repeat (first | refine blk_drewN ?_ _ | refine blk_drew ?_ | refine blk_alloc ?_ _)); refine blk_far ?_ NB125_137.out _; (with_reducible repeat (first | refine blk_drewN ?_ _ | refine blk_drew ?_ | refine blk_alloc ?_ _)); exact BK125.out) k_ hk, Kd.freshB (g := gb137) (o := .cells #[.string ((rd_T30 y132 x39_3).f0), .string ((rd_T30 y132 x39_3).f1), .string ((rd_T30 y132 x39_3).f2)] 30 (0, 0)) (by (with_reducible repeat (first | refine blk_drewN ?_ _ | refine blk_drew ?_ | refine blk_alloc ?_ _)); refine blk_put (cs := #[.string ((rd_T30 y132 x39_3).f0), .string ((rd_T30 y132 x39_3).f1), .string (⟨#[]⟩ : ByteArray)]) ?_ 2 _ rfl; (with_reducible repeat (first | refine blk_drewN ?_ _ | refine blk_drew ?_ | refine blk_alloc ?_ _)); refine blk_put (cs := #[.string ((rd_T30 y132 x39_3).f0), .string (⟨#[]⟩ : ByteArray), .string (⟨#[]⟩ : ByteArray)]) ?_ 1 _ rfl; (with_reducible repeat (first | refine blk_drewN ?_ _ | refine blk_drew ?_ | refine blk_alloc ?_ _)); refine blk_put (cs := #[.string (⟨#[]⟩ : ByteArray), .string (⟨#[]⟩ : ByteArray), .string (⟨#[]⟩ : ByteArray)]) ?_ 0 _ rfl; (with_reducible repeat (first | refine blk_drewN ?_ _ | refine blk_drew ?_ | refine blk_alloc ?_ _)); exact BK137.out) k_ hk⟩)); (case aO => exact (by (with_reducible repeat (first | apply Kd.R_alloc | apply Kd.R_drewN | apply Kd.R_drew)); exact Kd.R_mono (Kd.R_far (p := ⟨gb137, 2, none⟩) (Kd.R_far (p := ⟨gb137, 1, none⟩) (Kd.R_far (p := ⟨gb137, 0, none⟩) (Kd.R_mono HO_3.out (fun k_ hk => (⟨hk, hk.2⟩ : _ ∧ k_ ≠ gb137))) (fun _ hk => hk.2) (.string ((rd_T30 y132 x39_3).f0))) (fun _ hk => hk.2) (.string ((rd_T30 y132 x39_3).f1))) (fun _ hk => hk.2) (.string ((rd_T30 y132 x39_3).f2))) (fun _ hk => ⟨hk.1.1, hk.1.2⟩))); (case aS => exact (below_size (by repeat (first | (with_reducible first | exact HB.out | apply below_alloc | apply pw_below_drewN | apply below_drew1 | refine below_set ?_ GE125.out | refine below_set ?_ GE137.out) | exact HB.out)))); (case aL => have := LMc30.out; omega); intro v139 w35 ho hb hg hat; rw [← Ny138.out] at ho; have n0_ := Aside0.mk (blk_grown (g := gb125) (o := .cells #[.string ((rd_T30 l0 x13_1).f0), .string ((rd_T30 l0 x13_1).f1), .string ((rd_T30 l0 x13_1).f2)] 30 (0, 0)) (by (with_reducible repeat (first | refine blk_drewN ?_ _ | refine blk_drew ?_ | refine blk_alloc ?_ _)); refine blk_far ?_ NB125_137.out _; (with_reducible repeat (first | refine blk_drewN ?_ _ | refine blk_drew ?_ | refine blk_alloc ?_ _)); refine blk_far ?_ NB125_137.out _; (with_reducible repeat (first | refine blk_drewN ?_ _ | refine blk_drew ?_ | refine blk_alloc ?_ _)); refine blk_far ?_ NB125_137.out _; (with_reducible repeat (first | refine blk_drewN ?_ _ | refine blk_drew ?_ | refine blk_alloc ?_ _)); exact BK125.out) hg (Kd.R_away HO_3.out (fun _ hk => hk.1))); have n1_ := Aside0.mk (blk_grown (g := gb137) (o := .cells #[.string ((rd_T30 y132 x39_3).f0), .string ((rd_T30 y132 x39_3).f1), .string ((rd_T30 y132 x39_3).f2)] 30 (0, 0)) (by (with_reducible repeat (first | refine blk_drewN ?_ _ | refine blk_drew ?_ | refine blk_alloc ?_ _)); refine blk_put (cs := #[.string ((rd_T30 y132 x39_3).f0), .string ((rd_T30 y132 x39_3).f1), .string (⟨#[]⟩ : ByteArray)]) ?_ 2 _ rfl; (with_reducible repeat (first | refine blk_drewN ?_ _ | refine blk_drew ?_ | refine blk_alloc ?_ _)); refine blk_put (cs := #[.string ((rd_T30 y132 x39_3).f0), .string (⟨#[]⟩ : ByteArray), .string (⟨#[]⟩ : ByteArray)]) ?_ 1 _ rfl; (with_reducible repeat (first | refine blk_drewN ?_ _ | refine blk_drew ?_ | refine blk_alloc ?_ _)); refine blk_put (cs := #[.string (⟨#[]⟩ : ByteArray), .string (⟨#[]⟩ : ByteArray), .string (⟨#[]⟩ : ByteArray)]) ?_ 0 _ rfl; (with_reducible repeat (first | refine blk_drewN ?_ _ | refine blk_drew ?_ | refine blk_alloc ?_ _)); exact BK137.out) hg (Kd.R_away HO_3.out (fun _ hk => hk.2))); have n2_ := Aside0.mk (hb); have n3_ := Aside0.mk (ho); clear BK125; clear BK137; clear HB; clear HO_3; have BK125 := n0_; have BK137 := n1_; have HB := n2_; have HO140 := n3_; clear n0_ n1_ n2_ n3_; clear ho hb hg hat))
                    go_roundg k3
                    case measure => have := HK1.out; have := HK2.out; have := HK3.out; omega
                    case rel => exact ⟨(y138), (wrap64 (x39_3 + 1)), (by first | rfl | (simp; done) | (simp [*]; done)), H', ⟨by have := HK1.out; have := HK2.out; have := HK3.out; omega⟩, ⟨by (with_reducible repeat (first | apply Kd.R_alloc | apply Kd.R_drewN | apply Kd.R_drew)); exact Kd.R_mono HO140.out (fun _ hk => hk.1)⟩, ⟨by (with_reducible repeat (first | refine blk_drewN ?_ _ | refine blk_drew ?_ | refine blk_alloc ?_ _)); exact BK125.out⟩, ⟨by repeat (first | (with_reducible first | exact HB.out | apply below_alloc | apply pw_below_drewN | apply below_drew1 | refine below_set ?_ GE125.out | refine below_set ?_ GE137.out) | exact HB.out)⟩⟩
                   ·rw [if_neg c30] at H
                    exact absurd H (by simp)
                  ·rw [if_neg c29] at H
                   have c29b0 : (((rd_T30 y132 x39_3).f0).toList == ((rd_T30 l0 x13_1).f0).toList) = false := beq_eq_false_iff_ne.mpr c29
                   have c29b1 : (((rd_T30 y132 x39_3).f0).toList != ((rd_T30 l0 x13_1).f0).toList) = true := bne_iff_ne.mpr c29
                   have H' := Aside0.mk H
                   clear H
                   have p136 : 0 ≤ (x39_3 : Int) := of_decide_eq_true (by first | (with_reducible assumption) | assumption)
                   have q136 : x39_3 < (y132.length : Int) := of_decide_eq_true (by first | (with_reducible assumption) | assumption)
                   obtain ⟨ad136, e136, hx136_0, hx136_1, hx136_2⟩ := at_T30 HR135.out x39_3 p136 q136
                   cases e136
                   replace hx136_0 := (HB.out.cell (World.block_lt_of_cell? w _ hx136_0)).trans hx136_0
                   replace hx136_1 := (HB.out.cell (World.block_lt_of_cell? w _ hx136_1)).trans hx136_1
                   replace hx136_2 := (HB.out.cell (World.block_lt_of_cell? w _ hx136_2)).trans hx136_2
                   replace p136 := eq_true p136
                   replace q136 := eq_true q136
                   go_wp2_with (first | ((with_reducible refine gate_dst (N := 10) rfl ?_); refine box_event ?hg (N := 10) ?hd (cs := #[.string (⟨#[]⟩ : ByteArray), .string (⟨#[]⟩ : ByteArray), .string (⟨#[]⟩ : ByteArray)]) (t := 30) ?hr ?_; (case hd => rfl); (case hg => rfl); (case hr => first | (go_simp; done) | (go_simp; rfl)); intro gb137 hg w36 hbox hb; have n0_ := Aside0.mk (Kd.R_below (Kd.R_elderB (by (with_reducible repeat (first | apply Kd.R_alloc | apply Kd.R_drewN | apply Kd.R_drew)); exact HO_3.out) gb137 (Nat.le_of_eq hg.symm)) hb); have n1_ := Aside0.mk (blk_below (g := gb125) (o := .cells #[.string ((rd_T30 l0 x13_1).f0), .string ((rd_T30 l0 x13_1).f1), .string ((rd_T30 l0 x13_1).f2)] 30 (0, 0)) (by (with_reducible repeat (first | refine blk_drewN ?_ _ | refine blk_drew ?_ | refine blk_alloc ?_ _)); exact BK125.out) hb); have n2_ := Aside0.mk (below_step (by repeat (first | (with_reducible first | exact HB.out | apply below_alloc | apply pw_below_drewN | apply below_drew1 | refine below_set ?_ GE125.out) | exact HB.out)) hb); have n3_ := Aside0.mk (hbox); have n4_ := Aside0.mk ((by rw [hg]; exact (below_size (by repeat (first | (with_reducible first | exact HB.out | apply below_alloc | apply pw_below_drewN | apply below_drew1 | refine below_set ?_ GE125.out) | exact HB.out))) : w.heap.size ≤ gb137)); have n5_ := Aside0.mk ((by rw [hg]; exact (below_size (by repeat (first | (with_reducible first | exact HB.out | apply below_alloc | apply pw_below_drewN | apply below_drew1 | refine below_set ?_ GE125.out) | exact HB.out))) : w.heap.size ≤ gb137)); have n6_ := Aside0.mk ((by rw [hg]; exact Nat.ne_of_lt (blk_lt (g := gb125) (o := .cells #[.string ((rd_T30 l0 x13_1).f0), .string ((rd_T30 l0 x13_1).f1), .string ((rd_T30 l0 x13_1).f2)] 30 (0, 0)) (by (with_reducible repeat (first | refine blk_drewN ?_ _ | refine blk_drew ?_ | refine blk_alloc ?_ _)); exact BK125.out)) : gb125 ≠ gb137)); have n7_ := Aside0.mk ((by rw [hg]; exact Nat.ne_of_gt (blk_lt (g := gb125) (o := .cells #[.string ((rd_T30 l0 x13_1).f0), .string ((rd_T30 l0 x13_1).f1), .string ((rd_T30 l0 x13_1).f2)] 30 (0, 0)) (by (with_reducible repeat (first | refine blk_drewN ?_ _ | refine blk_drew ?_ | refine blk_alloc ?_ _)); exact BK125.out)) : gb137 ≠ gb125)); clear HO_3; clear BK125; clear HB; have HO_3 := n0_; have BK125 := n1_; have HB := n2_; have BK137 := n3_; have GW137 := n4_; have GE137 := n5_; have NB125_137 := n6_; have NB137_125 := n7_; clear n0_ n1_ n2_ n3_ n4_ n5_ n6_ n7_; clear hb hbox hg; have hnb37 := NB137_125.out; have hnc37 := NB125_137.out; have hcz38_0 : w36.cell? ⟨gb137, 0, none⟩ = some (.string (⟨#[]⟩ : ByteArray)) := (blk_cell BK137.out 0).trans rfl; have hcz38_1 : w36.cell? ⟨gb137, 1, none⟩ = some (.string (⟨#[]⟩ : ByteArray)) := (blk_cell BK137.out 1).trans rfl; have hcz38_2 : w36.cell? ⟨gb137, 2, none⟩ = some (.string (⟨#[]⟩ : ByteArray)) := (blk_cell BK137.out 2).trans rfl; have hfz38_0 := blk_frozen BK137.out 0; have hfz38_1 := blk_frozen BK137.out 1; have hfz38_2 := blk_frozen BK137.out 2; have hcz39_0 : w36.cell? ⟨gb125, 0, none⟩ = some (.string ((rd_T30 l0 x13_1).f0)) := (blk_cell BK125.out 0).trans rfl; have hcz39_1 : w36.cell? ⟨gb125, 1, none⟩ = some (.string ((rd_T30 l0 x13_1).f1)) := (blk_cell BK125.out 1).trans rfl; have hcz39_2 : w36.cell? ⟨gb125, 2, none⟩ = some (.string ((rd_T30 l0 x13_1).f2)) := (blk_cell BK125.out 2).trans rfl; have hfz39_0 := blk_frozen BK125.out 0; have hfz39_1 := blk_frozen BK125.out 1; have hfz39_2 := blk_frozen BK125.out 2))
                   go_roundg k3
                   case measure => have := HK1.out; have := HK2.out; have := HK3.out; omega
                   case rel => exact ⟨(x3_3), (wrap64 (x39_3 + 1)), (by first | rfl | (simp; done) | (simp [*]; done)), H', ⟨by have := HK1.out; have := HK2.out; have := HK3.out; omega⟩, ⟨by (with_reducible repeat (first | apply Kd.R_alloc | apply Kd.R_drewN | apply Kd.R_drew)); exact Kd.R_mono (Kd.R_far (p := ⟨gb137, 2, none⟩) (Kd.R_far (p := ⟨gb137, 1, none⟩) (Kd.R_far (p := ⟨gb137, 0, none⟩) (Kd.R_mono HO_3.out (fun k_ hk => (⟨hk, hk.2⟩ : _ ∧ k_ ≠ gb137))) (fun _ hk => hk.2) (.string ((rd_T30 y132 x39_3).f0))) (fun _ hk => hk.2) (.string ((rd_T30 y132 x39_3).f1))) (fun _ hk => hk.2) (.string ((rd_T30 y132 x39_3).f2))) (fun _ hk => hk.1.1)⟩, ⟨by (with_reducible repeat (first | refine blk_drewN ?_ _ | refine blk_drew ?_ | refine blk_alloc ?_ _)); refine blk_far ?_ NB125_137.out _; (with_reducible repeat (first | refine blk_drewN ?_ _ | refine blk_drew ?_ | refine blk_alloc ?_ _)); refine blk_far ?_ NB125_137.out _; (with_reducible repeat (first | refine blk_drewN ?_ _ | refine blk_drew ?_ | refine blk_alloc ?_ _)); refine blk_far ?_ NB125_137.out _; (with_reducible repeat (first | refine blk_drewN ?_ _ | refine blk_drew ?_ | refine blk_alloc ?_ _)); exact BK125.out⟩, ⟨by repeat (first | (with_reducible first | exact HB.out | apply below_alloc | apply pw_below_drewN | apply below_drew1 | refine below_set ?_ GE125.out | refine below_set ?_ GE137.out) | exact HB.out)⟩⟩
                 ·replace c28 := Bool.eq_false_iff.mpr c28
                  subst c28
                  have H1 : (laws_grouped.l2 k3 l0 x3_3 false l0 (l0.length : Int) x13_1 y132 (y132.length : Int) (wrap64 (x39_3 + 1)) ((rd_T30 l0 x13_1).f0) ((rd_T30 l0 x13_1).f1) ((rd_T30 l0 x13_1).f2)) = some r := by rw [if_neg (show ¬ (false = true) by decide)] at H; exact H
                  clear H
                  have H := H1
                  clear H1
                  have H' := Aside0.mk H
                  clear H
                  have p136 : 0 ≤ (x39_3 : Int) := of_decide_eq_true (by first | (with_reducible assumption) | assumption)
                  have q136 : x39_3 < (y132.length : Int) := of_decide_eq_true (by first | (with_reducible assumption) | assumption)
                  obtain ⟨ad136, e136, hx136_0, hx136_1, hx136_2⟩ := at_T30 HR135.out x39_3 p136 q136
                  cases e136
                  replace hx136_0 := (HB.out.cell (World.block_lt_of_cell? w _ hx136_0)).trans hx136_0
                  replace hx136_1 := (HB.out.cell (World.block_lt_of_cell? w _ hx136_1)).trans hx136_1
                  replace hx136_2 := (HB.out.cell (World.block_lt_of_cell? w _ hx136_2)).trans hx136_2
                  replace p136 := eq_true p136
                  replace q136 := eq_true q136
                  go_wp2_with (first | ((with_reducible refine gate_dst (N := 10) rfl ?_); refine box_event ?hg (N := 10) ?hd (cs := #[.string (⟨#[]⟩ : ByteArray), .string (⟨#[]⟩ : ByteArray), .string (⟨#[]⟩ : ByteArray)]) (t := 30) ?hr ?_; (case hd => rfl); (case hg => rfl); (case hr => first | (go_simp; done) | (go_simp; rfl)); intro gb137 hg w40 hbox hb; have n0_ := Aside0.mk (Kd.R_below (Kd.R_elderB (by (with_reducible repeat (first | apply Kd.R_alloc | apply Kd.R_drewN | apply Kd.R_drew)); exact HO_3.out) gb137 (Nat.le_of_eq hg.symm)) hb); have n1_ := Aside0.mk (blk_below (g := gb125) (o := .cells #[.string ((rd_T30 l0 x13_1).f0), .string ((rd_T30 l0 x13_1).f1), .string ((rd_T30 l0 x13_1).f2)] 30 (0, 0)) (by (with_reducible repeat (first | refine blk_drewN ?_ _ | refine blk_drew ?_ | refine blk_alloc ?_ _)); exact BK125.out) hb); have n2_ := Aside0.mk (below_step (by repeat (first | (with_reducible first | exact HB.out | apply below_alloc | apply pw_below_drewN | apply below_drew1 | refine below_set ?_ GE125.out) | exact HB.out)) hb); have n3_ := Aside0.mk (hbox); have n4_ := Aside0.mk ((by rw [hg]; exact (below_size (by repeat (first | (with_reducible first | exact HB.out | apply below_alloc | apply pw_below_drewN | apply below_drew1 | refine below_set ?_ GE125.out) | exact HB.out))) : w.heap.size ≤ gb137)); have n5_ := Aside0.mk ((by rw [hg]; exact (below_size (by repeat (first | (with_reducible first | exact HB.out | apply below_alloc | apply pw_below_drewN | apply below_drew1 | refine below_set ?_ GE125.out) | exact HB.out))) : w.heap.size ≤ gb137)); have n6_ := Aside0.mk ((by rw [hg]; exact Nat.ne_of_lt (blk_lt (g := gb125) (o := .cells #[.string ((rd_T30 l0 x13_1).f0), .string ((rd_T30 l0 x13_1).f1), .string ((rd_T30 l0 x13_1).f2)] 30 (0, 0)) (by (with_reducible repeat (first | refine blk_drewN ?_ _ | refine blk_drew ?_ | refine blk_alloc ?_ _)); exact BK125.out)) : gb125 ≠ gb137)); have n7_ := Aside0.mk ((by rw [hg]; exact Nat.ne_of_gt (blk_lt (g := gb125) (o := .cells #[.string ((rd_T30 l0 x13_1).f0), .string ((rd_T30 l0 x13_1).f1), .string ((rd_T30 l0 x13_1).f2)] 30 (0, 0)) (by (with_reducible repeat (first | refine blk_drewN ?_ _ | refine blk_drew ?_ | refine blk_alloc ?_ _)); exact BK125.out)) : gb137 ≠ gb125)); clear HO_3; clear BK125; clear HB; have HO_3 := n0_; have BK125 := n1_; have HB := n2_; have BK137 := n3_; have GW137 := n4_; have GE137 := n5_; have NB125_137 := n6_; have NB137_125 := n7_; clear n0_ n1_ n2_ n3_ n4_ n5_ n6_ n7_; clear hb hbox hg; have hnb41 := NB137_125.out; have hnc41 := NB125_137.out; have hcz42_0 : w40.cell? ⟨gb137, 0, none⟩ = some (.string (⟨#[]⟩ : ByteArray)) := (blk_cell BK137.out 0).trans rfl; have hcz42_1 : w40.cell? ⟨gb137, 1, none⟩ = some (.string (⟨#[]⟩ : ByteArray)) := (blk_cell BK137.out 1).trans rfl; have hcz42_2 : w40.cell? ⟨gb137, 2, none⟩ = some (.string (⟨#[]⟩ : ByteArray)) := (blk_cell BK137.out 2).trans rfl; have hfz42_0 := blk_frozen BK137.out 0; have hfz42_1 := blk_frozen BK137.out 1; have hfz42_2 := blk_frozen BK137.out 2))
                  go_roundg k3
                  case measure => have := HK1.out; have := HK2.out; have := HK3.out; omega
                  case rel => exact ⟨(x3_3), (wrap64 (x39_3 + 1)), (by first | rfl | (simp; done) | (simp [*]; done)), H', ⟨by have := HK1.out; have := HK2.out; have := HK3.out; omega⟩, ⟨by (with_reducible repeat (first | apply Kd.R_alloc | apply Kd.R_drewN | apply Kd.R_drew)); exact Kd.R_mono (Kd.R_far (p := ⟨gb137, 2, none⟩) (Kd.R_far (p := ⟨gb137, 1, none⟩) (Kd.R_far (p := ⟨gb137, 0, none⟩) (Kd.R_mono HO_3.out (fun k_ hk => (⟨hk, hk.2⟩ : _ ∧ k_ ≠ gb137))) (fun _ hk => hk.2) (.string ((rd_T30 y132 x39_3).f0))) (fun _ hk => hk.2) (.string ((rd_T30 y132 x39_3).f1))) (fun _ hk => hk.2) (.string ((rd_T30 y132 x39_3).f2))) (fun _ hk => hk.1.1)⟩, ⟨by (with_reducible repeat (first | refine blk_drewN ?_ _ | refine blk_drew ?_ | refine blk_alloc ?_ _)); refine blk_far ?_ NB125_137.out _; (with_reducible repeat (first | refine blk_drewN ?_ _ | refine blk_drew ?_ | refine blk_alloc ?_ _)); refine blk_far ?_ NB125_137.out _; (with_reducible repeat (first | refine blk_drewN ?_ _ | refine blk_drew ?_ | refine blk_alloc ?_ _)); refine blk_far ?_ NB125_137.out _; (with_reducible repeat (first | refine blk_drewN ?_ _ | refine blk_drew ?_ | refine blk_alloc ?_ _)); exact BK125.out⟩, ⟨by repeat (first | (with_reducible first | exact HB.out | apply below_alloc | apply pw_below_drewN | apply below_drew1 | refine below_set ?_ GE125.out | refine below_set ?_ GE137.out) | exact HB.out)⟩⟩
                ·rw [if_neg c27] at H
                 exact absurd H (by simp)
               ·rw [if_neg c26] at H
                exact absurd H (by simp)
              ·rw [if_neg c25] at H
               have c25b0 : decide (x39_3 < (y132.length : Int)) = false := decide_eq_false c25
               clear c25
               have H' := Aside0.mk H
               clear H
               go_wp2
               go_roundg k3
               case measure => have := HK1.out; have := HK2.out; have := HK3.out; omega
               case rel => exact ⟨(x3_3), (wrap64 (x13_1 + 1)), (by first | rfl | (simp; done) | (simp [*]; done)), H', ⟨by have := HK1.out; have := HK2.out; have := HK3.out; omega⟩, ⟨by (with_reducible repeat (first | apply Kd.R_alloc | apply Kd.R_drewN | apply Kd.R_drew)); exact Kd.R_mono HO_3.out (fun _ hk => trivial)⟩, ⟨by repeat (first | (with_reducible first | exact HB.out | apply below_alloc | apply pw_below_drewN | apply below_drew1 | refine below_set ?_ GE125.out) | exact HB.out)⟩⟩
           ·rw [if_neg c23] at H
            exact absurd H (by simp)
          ·rw [if_neg c22] at H
           exact absurd H (by simp)
      ·rw [if_neg c6] at H
       exact absurd H (by simp)
     ·rw [if_neg c4] at H
      exact absurd H (by simp)
    ·rw [if_neg c3] at H
     exact absurd H (by simp)
   ·rw [if_neg c2] at H
    have c2b0 : decide (x13_1 < (l0.length : Int)) = false := decide_eq_false c2
    clear c2
    obtain rfl := Option.some.inj H
    go_wp2
    go_ret
    exact ⟨_, by first | rfl | (simp [errW_none, errW_some] <;> rfl) | (simp [*, errW_none, errW_some] <;> rfl), by (with_reducible repeat (first | apply Kd.R_alloc | apply Kd.R_drewN | apply Kd.R_drew)); exact HO_3.out, by repeat (first | (with_reducible first | exact HB.out | apply below_alloc | apply pw_below_drewN | apply below_drew1) | exact HB.out)⟩
end Go.Proofs.YtgnfapnnbcafbaaDoor.GUL
end
