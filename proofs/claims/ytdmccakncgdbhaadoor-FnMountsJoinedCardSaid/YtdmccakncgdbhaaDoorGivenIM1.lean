/- impl.Mounts with the filter of types of file systems. Conditions: as GivenIM. -/
import Derived.Test.YtdmccakncgdbhaaDoorGivenIM
namespace Go.Proofs.YtdmccakncgdbhaaDoor.GMA
open Go.RowKit Go.Proofs.YtdmccakncgdbhaaDoorW.PrintWords Go.Proofs.YtdmccakncgdbhaaDoorW Go.Proofs.YtdmccakncgdbhaaDoorW.PrintLast Go.Proofs.YtdmccakncgdbhaaDoor.GL
set_option linter.unusedVariables false
set_option linter.unusedSimpArgs false
set_option maxHeartbeats 16000000 in
set_option maxRecDepth 100000 in
theorem mounts1 (k : Nat) (text : ByteArray) (ms : List S36) (A : Option Addr) (c : Nat) (xs : List ByteArray) (w : World) (hC : Kd.C Kd.string w A xs.length xs) (h : textF k k text = some ms) (hlen : ms.length ≤ 1000000) :
    Calls Tryd.prog 8 #[.string text, .agg #[.int .i64 1, .slice A xs.length c]] w fun e w' => ∃ v, e = .returned (.tuple #[v, .int .i64 0]) ∧ Kd.R k36 36 w' w.heap.size (fun _ => True) v (ms.filter (keepsType xs)) ∧ Below w.heap.size w w' := by
  have hmf : ∀ (fn : Fn) (first cap : Array Value) (w : World), (Instr.makeFunc fn first cap).run Tryd.prog w = .ok (.func fn first cap) w := fun _ _ _ _ => rfl
  have HB := Aside0.mk (Below.refl w.heap.size w)
  have HC := Aside0.mk hC
  clear hC
  go_enter_defers Tryd.func8, Tryd.ntmps8
  go_wp2_with
        (first
          | ((with_reducible refine gate_dst (N := 3) rfl ?_); refine box_event ?hg (N := 3) ?hd (cs := #[.int .i64 1, .slice A xs.length c]) (t := 30) ?hr ?_; (case hd => rfl); (case hg => rfl); (case hr => first | (go_simp; done) | (go_simp; rfl)); intro bf hbf w1 hk1 hb1; have E1 := Aside0.mk hbf; clear hbf)
          | ((with_reducible refine gate_dst (N := 4) rfl ?_); refine box_event ?hg (N := 4) ?hd (cs := #[.slice none 0 0]) (t := 22) ?hr ?_; (case hd => rfl); (case hg => rfl); (case hr => first | (go_simp; done) | (go_simp; rfl)); intro bl hbl w2 hk2 hb2; have E2 := Aside0.mk hbl; clear hbl)
          | ((with_reducible refine gate_dst (N := 5) rfl ?_); refine box_event ?hg (N := 5) ?hd (cs := #[.int .i64 0]) (t := 3) ?hr ?_; (case hd => rfl); (case hg => rfl); (case hr => first | (go_simp; done) | (go_simp; rfl)); intro bc hbc w3 hk3 hb3; have E3 := Aside0.mk hbc; clear hbc; have HK2 := Aside0.mk (blk_below hk2 hb3); have HK3 := Aside0.mk hk3; have HB3 := Aside0.mk (keepS (keepS hb1 hb2) hb3); have hf0 : w3.cell? ⟨bf, 0, none⟩ = some (.int .i64 1) := (blk_cell (blk_below (blk_below hk1 hb2) hb3) 0).trans rfl; have hf1 : w3.cell? ⟨bf, 1, none⟩ = some (.slice A xs.length c) := (blk_cell (blk_below (blk_below hk1 hb2) hb3) 1).trans rfl)
          | (go_at_call 19; refine (fs_new A xs.length c _).mono ?_; rintro e w3b ⟨gf, rfl, hgf1, hgf2, hb3b⟩; have HK2 := Aside0.mk (blk_below HK2.out hb3b); have HK3 := Aside0.mk (blk_below HK3.out hb3b); have HB3 := Aside0.mk (keepS HB3.out hb3b); clear hf0; have hf0 := trivial; have HGF := Aside0.mk hgf2; clear hgf1 hgf2 hb3b)
          | (go_at_call 23; refine (getMounts k text ms (FK.types gf A c xs) _ ⟨HGF.out, Kd.C_below HC.out HB3.out⟩ h).mono ?_; rintro e w4 ⟨vm, rfl, hm4, hb4⟩; have HM4 := Aside0.mk (show kptr.R 56 _ _ _ _ (ms.filter (keepsType xs)) from hm4); have HB4 := Aside0.mk (keepS HB3.out hb4); have HK24 := Aside0.mk (blk_below HK2.out hb4); have HK34 := Aside0.mk (blk_below HK3.out hb4); have G3 := Aside0.mk HB3.out.size; obtain ⟨Am, cm, rfl, hlm, hCm⟩ := Kd.R_reads HM4.out; have HCM := Aside0.mk hCm; clear hm4 hlm hCm hb4))
  have GBL := Aside0.mk (show w.heap.size ≤ bl from by have h1 := E2.out; rw [h1]; exact hb1.size)
  have GBC := Aside0.mk (show w.heap.size ≤ bc from by have h1 := E3.out; rw [h1]; exact Nat.le_trans hb1.size hb2.size)
  have hL := Nat.le_trans (List.length_filter_le (keepsType xs) ms) hlen
  have HP4 := Aside0.mk (Kd.R_lower HM4.out G3.out)
  clear HCM HM4 HB HK2 HK3 HB3 hf0 hf1 hk1 hb1 hk2 hb2 hk3 hb3
  generalize hLd : ms.filter (keepsType xs) = L at *
  have HL := Aside0.mk hL
  have HLd := Aside0.mk hLd
  clear hL hLd h hlen
  go_loopg [10, 69] L.length (fun kq v10 v69 w' => ∃ (x : Int) (u : Value), v69 = .int .i64 x ∧ Aside0 (0 ≤ x ∧ x + kq = L.length) ∧ Aside0 (w'.heap[bl]? = some (.cells #[u] 22 (0, 0))) ∧ Aside0 (w'.heap[bc]? = some (.cells #[.int .i64 0] 3 (0, 0))) ∧
      Aside0 (Kd.R k36 36 w' w.heap.size (fun _ => True) u (L.take x.toNat)) ∧ Aside0 (kptr.R 56 w' w.heap.size (fun _ => True) (.slice Am L.length cm) L) ∧ Aside0 (Below w.heap.size w w'))
  case atStart => exact ⟨0, _, rfl, ⟨by omega, by omega⟩, HK24, HK34, ⟨Kd.R_nil _ _ _ _ _⟩, HP4, HB4⟩
  case round =>
    clear HP4 HK24 HK34 HB4
    obtain ⟨x, u, rfl, HX, HBL, HBC, HU, HP, HB⟩ := hrel
    have hbl0 : wr.cell? ⟨bl, 0, none⟩ = some u := (blk_cell HBL.out 0).trans rfl
    have hblf := blk_frozen HBL.out 0
    have hbc0 : wr.cell? ⟨bc, 0, none⟩ = some (.int .i64 0) := (blk_cell HBC.out 0).trans rfl
    have hbcf := blk_frozen HBC.out 0
    have HNE := Aside0.mk (blk_ne HBL.out HBC.out (by decide))
    have hne1 := blk_ne HBL.out HBC.out (by decide)
    have hne2 := Ne.symm hne1
    have hlt3 := blk_lt HBL.out
    have hne3 : ¬ bl = wr.heap.size := by omega
    have hne4 : (bl = wr.heap.size) = False := eq_false hne3
    have hblA : ∀ o, (World.alloc wr.drew o).cell? ⟨bl, 0, none⟩ = some u := fun o => (blk_cell (blk_alloc (blk_drew HBL.out) o) 0).trans rfl
    have hblB : ∀ o, (World.alloc { wr with drawn := wr.drawn + 1 } o).cell? ⟨bl, 0, none⟩ = some u := hblA
    have hblC : wr.drew.cell? ⟨bl, 0, none⟩ = some u := hbl0
    by_cases hx : x < (L.length : Int)
    · have d0 : decide (x < (L.length : Int)) = true := decide_eq_true hx
      obtain ⟨ad, cs, e1, hcl, ⟨b, rfl, hb⟩, hcc⟩ := Kd.C_get (Kd.R_reads' HP.out).2.2 z36 x HX.out.1 hx
      cases e1
      have p1 := eq_true HX.out.1
      have p2 := eq_true hx
      have HX2 := Aside0.mk hx
      have hc0 : wr.cell? (ad.add x.toNat) = some (.pointer (some ⟨b, 0, none⟩)) := by
        have := hcc 0 _ rfl
        rwa [show x.toNat * kptr.sz + 0 = x.toNat from by show x.toNat * 1 + 0 = x.toNat; omega] at this
      have htk : L.take (x + 1).toNat = L.take x.toNat ++ [L.getD x.toNat z36] := by
        have h1 := HX.out.1
        rw [show (x + 1).toNat = x.toNat + 1 by omega, List.take_add_one]
        rw [List.getElem?_eq_getElem (show x.toNat < L.length by omega), List.getD_eq_getElem?_getD, List.getElem?_eq_getElem (show x.toNat < L.length by omega)]
        rfl
      have hw : IntKind.i64.wrap (x + 1) = x + 1 := by have := HX2.out; have := HX.out.1; have := HL.out; rw [PrintLast.i64_w]; unfold wrap64; omega
      generalize L.getD x.toNat z36 = m at hb htk
      have HTK := Aside0.mk htk
      clear hx hcl hcc htk
      have g0 : wr.cell? ⟨b, 0, none⟩ = some (.int .i64 m.f0) := (blk_cell hb 0).trans rfl
      have g1 : wr.cell? ⟨b, 1, none⟩ = some (.int .i64 m.f1) := (blk_cell hb 1).trans rfl
      have g2 : wr.cell? ⟨b, 2, none⟩ = some (.int .i64 m.f2) := (blk_cell hb 2).trans rfl
      have g3 : wr.cell? ⟨b, 3, none⟩ = some (.int .i64 m.f3) := (blk_cell hb 3).trans rfl
      have g4 : wr.cell? ⟨b, 4, none⟩ = some (.string m.f4) := (blk_cell hb 4).trans rfl
      have g5 : wr.cell? ⟨b, 5, none⟩ = some (.string m.f5) := (blk_cell hb 5).trans rfl
      have g6 : wr.cell? ⟨b, 6, none⟩ = some (.string m.f6) := (blk_cell hb 6).trans rfl
      have g7 : wr.cell? ⟨b, 7, none⟩ = some (.string m.f7) := (blk_cell hb 7).trans rfl
      have g8 : wr.cell? ⟨b, 8, none⟩ = some (.string m.f8) := (blk_cell hb 8).trans rfl
      have g9 : wr.cell? ⟨b, 9, none⟩ = some (.string m.f9) := (blk_cell hb 9).trans rfl
      have g10 : wr.cell? ⟨b, 10, none⟩ = some (.string m.f10) := (blk_cell hb 10).trans rfl
      have KA : Aside0 (∀ W : World, W.heap[b]? = some (infoObj m) → (W.cell? ⟨b, 0, none⟩ = some (.int .i64 m.f0) ∧ W.cell? ⟨b, 1, none⟩ = some (.int .i64 m.f1) ∧ W.cell? ⟨b, 2, none⟩ = some (.int .i64 m.f2) ∧ W.cell? ⟨b, 3, none⟩ = some (.int .i64 m.f3) ∧ W.cell? ⟨b, 4, none⟩ = some (.string m.f4) ∧ W.cell? ⟨b, 5, none⟩ = some (.string m.f5) ∧ W.cell? ⟨b, 6, none⟩ = some (.string m.f6) ∧ W.cell? ⟨b, 7, none⟩ = some (.string m.f7) ∧ W.cell? ⟨b, 8, none⟩ = some (.string m.f8) ∧ W.cell? ⟨b, 9, none⟩ = some (.string m.f9) ∧ W.cell? ⟨b, 10, none⟩ = some (.string m.f10))) := ⟨fun W h => ⟨(blk_cell h 0).trans rfl, (blk_cell h 1).trans rfl, (blk_cell h 2).trans rfl, (blk_cell h 3).trans rfl, (blk_cell h 4).trans rfl, (blk_cell h 5).trans rfl, (blk_cell h 6).trans rfl, (blk_cell h 7).trans rfl, (blk_cell h 8).trans rfl, (blk_cell h 9).trans rfl, (blk_cell h 10).trans rfl⟩⟩
      have HBN := Aside0.mk (blk_ne hb HBL.out (by decide))
      go_wp2
      refine wp_region_noPanic ?_
      refine start_ (n := 49) (S := fun w' => w'.cell? ⟨bl, 0, none⟩ = some u ∧ w'.cell? ⟨b, 0, none⟩ = some (.int .i64 m.f0) ∧ w'.cell? ⟨b, 1, none⟩ = some (.int .i64 m.f1) ∧ w'.cell? ⟨b, 2, none⟩ = some (.int .i64 m.f2) ∧ w'.cell? ⟨b, 3, none⟩ = some (.int .i64 m.f3) ∧ w'.cell? ⟨b, 4, none⟩ = some (.string m.f4) ∧ w'.cell? ⟨b, 5, none⟩ = some (.string m.f5) ∧ w'.cell? ⟨b, 6, none⟩ = some (.string m.f6) ∧ w'.cell? ⟨b, 7, none⟩ = some (.string m.f7) ∧ w'.cell? ⟨b, 8, none⟩ = some (.string m.f8) ∧ w'.cell? ⟨b, 9, none⟩ = some (.string m.f9) ∧ w'.cell? ⟨b, 10, none⟩ = some (.string m.f10)) (ds := [48]) #[false, false, false, false, false, false, false, false, false, false, false, false, false, false, false, false, false, false, false, false, false, false, false, false, false, false, false, false, false, false, false, false, false, false, false, false, false, false, false, false, false, false, false, false, false, false, false, false, false] (by kernel_rfl) rfl rfl ⟨(blk_cell (blk_drew HBL.out) 0).trans rfl, (blk_cell (blk_drew hb) 0).trans rfl, (blk_cell (blk_drew hb) 1).trans rfl, (blk_cell (blk_drew hb) 2).trans rfl, (blk_cell (blk_drew hb) 3).trans rfl, (blk_cell (blk_drew hb) 4).trans rfl, (blk_cell (blk_drew hb) 5).trans rfl, (blk_cell (blk_drew hb) 6).trans rfl, (blk_cell (blk_drew hb) 7).trans rfl, (blk_cell (blk_drew hb) 8).trans rfl, (blk_cell (blk_drew hb) 9).trans rfl, (blk_cell (blk_drew hb) 10).trans rfl⟩ (fun hHeld => ?_)
      refine pure_ (i := 1) (N := some 74) (v := ?_) (a' := ?_) #[false, true, false, false, false, false, false, false, false, false, false, false, false, false, false, false, false, false, false, false, false, false, false, false, false, false, false, false, false, false, false, false, false, false, false, false, false, false, false, false, false, false, false, false, false, false, false, false, false] rfl rfl (by kernel_rfl) (fun _ _ _ h => h) (Or.inl ⟨by rfl, ?_⟩) ?_ ?_
      rotate_left
      · intro w'
        go_simp
        with_reducible rfl
      rotate_left
      · simp only [Act.put, List.setIfInBounds_toArray, List.set_cons_zero, List.set_cons_succ, i64_w, i32_w]
        rfl
      refine pure_ (i := 2) (N := some 75) (v := ?_) (a' := ?_) #[false, true, true, false, false, false, false, false, false, false, false, false, false, false, false, false, false, false, false, false, false, false, false, false, false, false, false, false, false, false, false, false, false, false, false, false, false, false, false, false, false, false, false, false, false, false, false, false, false] rfl rfl (by kernel_rfl) (fun _ _ _ h => h) (Or.inl ⟨by rfl, ?_⟩) ?_ ?_
      rotate_left
      · intro w'
        go_simp
        with_reducible rfl
      rotate_left
      · simp only [Act.put, List.setIfInBounds_toArray, List.set_cons_zero, List.set_cons_succ, i64_w, i32_w]
        rfl
      refine pure_ (i := 3) (N := some 76) (v := ?_) (a' := ?_) #[false, true, true, true, false, false, false, false, false, false, false, false, false, false, false, false, false, false, false, false, false, false, false, false, false, false, false, false, false, false, false, false, false, false, false, false, false, false, false, false, false, false, false, false, false, false, false, false, false] rfl rfl (by kernel_rfl) (fun _ _ _ h => h) (Or.inl ⟨by rfl, ?_⟩) ?_ ?_
      rotate_left
      · intro w'
        go_simp
        with_reducible rfl
      rotate_left
      · simp only [Act.put, List.setIfInBounds_toArray, List.set_cons_zero, List.set_cons_succ, i64_w, i32_w]
        rfl
      refine pure_ (i := 5) (N := some 78) (v := ?_) (a' := ?_) #[false, true, true, true, false, true, false, false, false, false, false, false, false, false, false, false, false, false, false, false, false, false, false, false, false, false, false, false, false, false, false, false, false, false, false, false, false, false, false, false, false, false, false, false, false, false, false, false, false] rfl rfl (by kernel_rfl) (fun _ _ _ h => h) (Or.inl ⟨by rfl, ?_⟩) ?_ ?_
      rotate_left
      · intro w'
        go_simp
        with_reducible rfl
      rotate_left
      · simp only [Act.put, List.setIfInBounds_toArray, List.set_cons_zero, List.set_cons_succ, i64_w, i32_w]
        rfl
      refine pure_ (i := 6) (N := some 79) (v := ?_) (a' := ?_) #[false, true, true, true, false, true, true, false, false, false, false, false, false, false, false, false, false, false, false, false, false, false, false, false, false, false, false, false, false, false, false, false, false, false, false, false, false, false, false, false, false, false, false, false, false, false, false, false, false] rfl rfl (by kernel_rfl) (fun _ _ _ h => h) (Or.inl ⟨by rfl, ?_⟩) ?_ ?_
      rotate_left
      · intro w'
        go_simp
        with_reducible rfl
      rotate_left
      · simp only [Act.put, List.setIfInBounds_toArray, List.set_cons_zero, List.set_cons_succ, i64_w, i32_w]
        rfl
      refine pure_ (i := 7) (N := some 80) (v := ?_) (a' := ?_) #[false, true, true, true, false, true, true, true, false, false, false, false, false, false, false, false, false, false, false, false, false, false, false, false, false, false, false, false, false, false, false, false, false, false, false, false, false, false, false, false, false, false, false, false, false, false, false, false, false] rfl rfl (by kernel_rfl) (fun _ _ _ h => h) (Or.inl ⟨by rfl, ?_⟩) ?_ ?_
      rotate_left
      · intro w'
        go_simp
        with_reducible rfl
      rotate_left
      · simp only [Act.put, List.setIfInBounds_toArray, List.set_cons_zero, List.set_cons_succ, i64_w, i32_w]
        rfl
      refine pure_ (i := 9) (N := some 82) (v := ?_) (a' := ?_) #[false, true, true, true, false, true, true, true, false, true, false, false, false, false, false, false, false, false, false, false, false, false, false, false, false, false, false, false, false, false, false, false, false, false, false, false, false, false, false, false, false, false, false, false, false, false, false, false, false] rfl rfl (by kernel_rfl) (fun _ _ _ h => h) (Or.inl ⟨by rfl, ?_⟩) ?_ ?_
      rotate_left
      · intro w'
        go_simp
        with_reducible rfl
      rotate_left
      · simp only [Act.put, List.setIfInBounds_toArray, List.set_cons_zero, List.set_cons_succ, i64_w, i32_w]
        rfl
      refine pure_ (i := 10) (N := some 83) (v := ?_) (a' := ?_) #[false, true, true, true, false, true, true, true, false, true, true, false, false, false, false, false, false, false, false, false, false, false, false, false, false, false, false, false, false, false, false, false, false, false, false, false, false, false, false, false, false, false, false, false, false, false, false, false, false] rfl rfl (by kernel_rfl) (fun _ _ _ h => h) (Or.inl ⟨by rfl, ?_⟩) ?_ ?_
      rotate_left
      · intro w'
        go_simp
        with_reducible rfl
      rotate_left
      · simp only [Act.put, List.setIfInBounds_toArray, List.set_cons_zero, List.set_cons_succ, i64_w, i32_w]
        rfl
      refine pure_ (i := 11) (N := some 84) (v := ?_) (a' := ?_) #[false, true, true, true, false, true, true, true, false, true, true, true, false, false, false, false, false, false, false, false, false, false, false, false, false, false, false, false, false, false, false, false, false, false, false, false, false, false, false, false, false, false, false, false, false, false, false, false, false] rfl rfl (by kernel_rfl) (fun _ _ _ h => h) (Or.inl ⟨by rfl, ?_⟩) ?_ ?_
      rotate_left
      · intro w'
        go_simp
        with_reducible rfl
      rotate_left
      · simp only [Act.put, List.setIfInBounds_toArray, List.set_cons_zero, List.set_cons_succ, i64_w, i32_w]
        rfl
      refine pure_ (i := 13) (N := some 86) (v := ?_) (a' := ?_) #[false, true, true, true, false, true, true, true, false, true, true, true, false, true, false, false, false, false, false, false, false, false, false, false, false, false, false, false, false, false, false, false, false, false, false, false, false, false, false, false, false, false, false, false, false, false, false, false, false] rfl rfl (by kernel_rfl) (fun _ _ _ h => h) (Or.inl ⟨by rfl, ?_⟩) ?_ ?_
      rotate_left
      · intro w'
        go_simp
        with_reducible rfl
      rotate_left
      · simp only [Act.put, List.setIfInBounds_toArray, List.set_cons_zero, List.set_cons_succ, i64_w, i32_w]
        rfl
      refine pure_ (i := 14) (N := some 87) (v := ?_) (a' := ?_) #[false, true, true, true, false, true, true, true, false, true, true, true, false, true, true, false, false, false, false, false, false, false, false, false, false, false, false, false, false, false, false, false, false, false, false, false, false, false, false, false, false, false, false, false, false, false, false, false, false] rfl rfl (by kernel_rfl) (fun _ _ _ h => h) (Or.inl ⟨by rfl, ?_⟩) ?_ ?_
      rotate_left
      · intro w'
        go_simp
        with_reducible rfl
      rotate_left
      · simp only [Act.put, List.setIfInBounds_toArray, List.set_cons_zero, List.set_cons_succ, i64_w, i32_w]
        rfl
      refine pure_ (i := 15) (N := some 88) (v := ?_) (a' := ?_) #[false, true, true, true, false, true, true, true, false, true, true, true, false, true, true, true, false, false, false, false, false, false, false, false, false, false, false, false, false, false, false, false, false, false, false, false, false, false, false, false, false, false, false, false, false, false, false, false, false] rfl rfl (by kernel_rfl) (fun _ _ _ h => h) (Or.inl ⟨by rfl, ?_⟩) ?_ ?_
      rotate_left
      · intro w'
        go_simp
        with_reducible rfl
      rotate_left
      · simp only [Act.put, List.setIfInBounds_toArray, List.set_cons_zero, List.set_cons_succ, i64_w, i32_w]
        rfl
      refine pure_ (i := 17) (N := some 90) (v := ?_) (a' := ?_) #[false, true, true, true, false, true, true, true, false, true, true, true, false, true, true, true, false, true, false, false, false, false, false, false, false, false, false, false, false, false, false, false, false, false, false, false, false, false, false, false, false, false, false, false, false, false, false, false, false] rfl rfl (by kernel_rfl) (fun _ _ _ h => h) (Or.inl ⟨by rfl, ?_⟩) ?_ ?_
      rotate_left
      · intro w'
        go_simp
        with_reducible rfl
      rotate_left
      · simp only [Act.put, List.setIfInBounds_toArray, List.set_cons_zero, List.set_cons_succ, i64_w, i32_w]
        rfl
      refine pure_ (i := 18) (N := some 91) (v := ?_) (a' := ?_) #[false, true, true, true, false, true, true, true, false, true, true, true, false, true, true, true, false, true, true, false, false, false, false, false, false, false, false, false, false, false, false, false, false, false, false, false, false, false, false, false, false, false, false, false, false, false, false, false, false] rfl rfl (by kernel_rfl) (fun _ _ _ h => h) (Or.inl ⟨by rfl, ?_⟩) ?_ ?_
      rotate_left
      · intro w'
        go_simp
        with_reducible rfl
      rotate_left
      · simp only [Act.put, List.setIfInBounds_toArray, List.set_cons_zero, List.set_cons_succ, i64_w, i32_w]
        rfl
      refine pure_ (i := 19) (N := some 92) (v := ?_) (a' := ?_) #[false, true, true, true, false, true, true, true, false, true, true, true, false, true, true, true, false, true, true, true, false, false, false, false, false, false, false, false, false, false, false, false, false, false, false, false, false, false, false, false, false, false, false, false, false, false, false, false, false] rfl rfl (by kernel_rfl) (fun _ _ _ h => h) (Or.inl ⟨by rfl, ?_⟩) ?_ ?_
      rotate_left
      · intro w'
        go_simp
        with_reducible rfl
      rotate_left
      · simp only [Act.put, List.setIfInBounds_toArray, List.set_cons_zero, List.set_cons_succ, i64_w, i32_w]
        rfl
      refine pure_ (i := 21) (N := some 94) (v := ?_) (a' := ?_) #[false, true, true, true, false, true, true, true, false, true, true, true, false, true, true, true, false, true, true, true, false, true, false, false, false, false, false, false, false, false, false, false, false, false, false, false, false, false, false, false, false, false, false, false, false, false, false, false, false] rfl rfl (by kernel_rfl) (fun _ _ _ h => h) (Or.inl ⟨by rfl, ?_⟩) ?_ ?_
      rotate_left
      · intro w'
        go_simp
        with_reducible rfl
      rotate_left
      · simp only [Act.put, List.setIfInBounds_toArray, List.set_cons_zero, List.set_cons_succ, i64_w, i32_w]
        rfl
      refine pure_ (i := 22) (N := some 95) (v := ?_) (a' := ?_) #[false, true, true, true, false, true, true, true, false, true, true, true, false, true, true, true, false, true, true, true, false, true, true, false, false, false, false, false, false, false, false, false, false, false, false, false, false, false, false, false, false, false, false, false, false, false, false, false, false] rfl rfl (by kernel_rfl) (fun _ _ _ h => h) (Or.inl ⟨by rfl, ?_⟩) ?_ ?_
      rotate_left
      · intro w'
        go_simp
        with_reducible rfl
      rotate_left
      · simp only [Act.put, List.setIfInBounds_toArray, List.set_cons_zero, List.set_cons_succ, i64_w, i32_w]
        rfl
      refine pure_ (i := 23) (N := some 96) (v := ?_) (a' := ?_) #[false, true, true, true, false, true, true, true, false, true, true, true, false, true, true, true, false, true, true, true, false, true, true, true, false, false, false, false, false, false, false, false, false, false, false, false, false, false, false, false, false, false, false, false, false, false, false, false, false] rfl rfl (by kernel_rfl) (fun _ _ _ h => h) (Or.inl ⟨by rfl, ?_⟩) ?_ ?_
      rotate_left
      · intro w'
        go_simp
        with_reducible rfl
      rotate_left
      · simp only [Act.put, List.setIfInBounds_toArray, List.set_cons_zero, List.set_cons_succ, i64_w, i32_w]
        rfl
      refine pure_ (i := 25) (N := some 98) (v := ?_) (a' := ?_) #[false, true, true, true, false, true, true, true, false, true, true, true, false, true, true, true, false, true, true, true, false, true, true, true, false, true, false, false, false, false, false, false, false, false, false, false, false, false, false, false, false, false, false, false, false, false, false, false, false] rfl rfl (by kernel_rfl) (fun _ _ _ h => h) (Or.inl ⟨by rfl, ?_⟩) ?_ ?_
      rotate_left
      · intro w'
        go_simp
        with_reducible rfl
      rotate_left
      · simp only [Act.put, List.setIfInBounds_toArray, List.set_cons_zero, List.set_cons_succ, i64_w, i32_w]
        rfl
      refine pure_ (i := 26) (N := some 99) (v := ?_) (a' := ?_) #[false, true, true, true, false, true, true, true, false, true, true, true, false, true, true, true, false, true, true, true, false, true, true, true, false, true, true, false, false, false, false, false, false, false, false, false, false, false, false, false, false, false, false, false, false, false, false, false, false] rfl rfl (by kernel_rfl) (fun _ _ _ h => h) (Or.inl ⟨by rfl, ?_⟩) ?_ ?_
      rotate_left
      · intro w'
        go_simp
        with_reducible rfl
      rotate_left
      · simp only [Act.put, List.setIfInBounds_toArray, List.set_cons_zero, List.set_cons_succ, i64_w, i32_w]
        rfl
      refine pure_ (i := 27) (N := some 100) (v := ?_) (a' := ?_) #[false, true, true, true, false, true, true, true, false, true, true, true, false, true, true, true, false, true, true, true, false, true, true, true, false, true, true, true, false, false, false, false, false, false, false, false, false, false, false, false, false, false, false, false, false, false, false, false, false] rfl rfl (by kernel_rfl) (fun _ _ _ h => h) (Or.inl ⟨by rfl, ?_⟩) ?_ ?_
      rotate_left
      · intro w'
        go_simp
        with_reducible rfl
      rotate_left
      · simp only [Act.put, List.setIfInBounds_toArray, List.set_cons_zero, List.set_cons_succ, i64_w, i32_w]
        rfl
      refine pure_ (i := 29) (N := some 102) (v := ?_) (a' := ?_) #[false, true, true, true, false, true, true, true, false, true, true, true, false, true, true, true, false, true, true, true, false, true, true, true, false, true, true, true, false, true, false, false, false, false, false, false, false, false, false, false, false, false, false, false, false, false, false, false, false] rfl rfl (by kernel_rfl) (fun _ _ _ h => h) (Or.inl ⟨by rfl, ?_⟩) ?_ ?_
      rotate_left
      · intro w'
        go_simp
        with_reducible rfl
      rotate_left
      · simp only [Act.put, List.setIfInBounds_toArray, List.set_cons_zero, List.set_cons_succ, i64_w, i32_w]
        rfl
      refine pure_ (i := 30) (N := some 103) (v := ?_) (a' := ?_) #[false, true, true, true, false, true, true, true, false, true, true, true, false, true, true, true, false, true, true, true, false, true, true, true, false, true, true, true, false, true, true, false, false, false, false, false, false, false, false, false, false, false, false, false, false, false, false, false, false] rfl rfl (by kernel_rfl) (fun _ _ _ h => h) (Or.inl ⟨by rfl, ?_⟩) ?_ ?_
      rotate_left
      · intro w'
        go_simp
        with_reducible rfl
      rotate_left
      · simp only [Act.put, List.setIfInBounds_toArray, List.set_cons_zero, List.set_cons_succ, i64_w, i32_w]
        rfl
      refine pure_ (i := 31) (N := some 104) (v := ?_) (a' := ?_) #[false, true, true, true, false, true, true, true, false, true, true, true, false, true, true, true, false, true, true, true, false, true, true, true, false, true, true, true, false, true, true, true, false, false, false, false, false, false, false, false, false, false, false, false, false, false, false, false, false] rfl rfl (by kernel_rfl) (fun _ _ _ h => h) (Or.inl ⟨by rfl, ?_⟩) ?_ ?_
      rotate_left
      · intro w'
        go_simp
        with_reducible rfl
      rotate_left
      · simp only [Act.put, List.setIfInBounds_toArray, List.set_cons_zero, List.set_cons_succ, i64_w, i32_w]
        rfl
      refine pure_ (i := 33) (N := some 106) (v := ?_) (a' := ?_) #[false, true, true, true, false, true, true, true, false, true, true, true, false, true, true, true, false, true, true, true, false, true, true, true, false, true, true, true, false, true, true, true, false, true, false, false, false, false, false, false, false, false, false, false, false, false, false, false, false] rfl rfl (by kernel_rfl) (fun _ _ _ h => h) (Or.inl ⟨by rfl, ?_⟩) ?_ ?_
      rotate_left
      · intro w'
        go_simp
        with_reducible rfl
      rotate_left
      · simp only [Act.put, List.setIfInBounds_toArray, List.set_cons_zero, List.set_cons_succ, i64_w, i32_w]
        rfl
      refine pure_ (i := 34) (N := some 107) (v := ?_) (a' := ?_) #[false, true, true, true, false, true, true, true, false, true, true, true, false, true, true, true, false, true, true, true, false, true, true, true, false, true, true, true, false, true, true, true, false, true, true, false, false, false, false, false, false, false, false, false, false, false, false, false, false] rfl rfl (by kernel_rfl) (fun _ _ _ h => h) (Or.inl ⟨by rfl, ?_⟩) ?_ ?_
      rotate_left
      · intro w'
        go_simp
        with_reducible rfl
      rotate_left
      · simp only [Act.put, List.setIfInBounds_toArray, List.set_cons_zero, List.set_cons_succ, i64_w, i32_w]
        rfl
      refine pure_ (i := 35) (N := some 108) (v := ?_) (a' := ?_) #[false, true, true, true, false, true, true, true, false, true, true, true, false, true, true, true, false, true, true, true, false, true, true, true, false, true, true, true, false, true, true, true, false, true, true, true, false, false, false, false, false, false, false, false, false, false, false, false, false] rfl rfl (by kernel_rfl) (fun _ _ _ h => h) (Or.inl ⟨by rfl, ?_⟩) ?_ ?_
      rotate_left
      · intro w'
        go_simp
        with_reducible rfl
      rotate_left
      · simp only [Act.put, List.setIfInBounds_toArray, List.set_cons_zero, List.set_cons_succ, i64_w, i32_w]
        rfl
      refine pure_ (i := 37) (N := some 110) (v := ?_) (a' := ?_) #[false, true, true, true, false, true, true, true, false, true, true, true, false, true, true, true, false, true, true, true, false, true, true, true, false, true, true, true, false, true, true, true, false, true, true, true, false, true, false, false, false, false, false, false, false, false, false, false, false] rfl rfl (by kernel_rfl) (fun _ _ _ h => h) (Or.inl ⟨by rfl, ?_⟩) ?_ ?_
      rotate_left
      · intro w'
        go_simp
        with_reducible rfl
      rotate_left
      · simp only [Act.put, List.setIfInBounds_toArray, List.set_cons_zero, List.set_cons_succ, i64_w, i32_w]
        rfl
      refine pure_ (i := 38) (N := some 111) (v := ?_) (a' := ?_) #[false, true, true, true, false, true, true, true, false, true, true, true, false, true, true, true, false, true, true, true, false, true, true, true, false, true, true, true, false, true, true, true, false, true, true, true, false, true, true, false, false, false, false, false, false, false, false, false, false] rfl rfl (by kernel_rfl) (fun _ _ _ h => h) (Or.inl ⟨by rfl, ?_⟩) ?_ ?_
      rotate_left
      · intro w'
        go_simp
        with_reducible rfl
      rotate_left
      · simp only [Act.put, List.setIfInBounds_toArray, List.set_cons_zero, List.set_cons_succ, i64_w, i32_w]
        rfl
      refine pure_ (i := 39) (N := some 112) (v := ?_) (a' := ?_) #[false, true, true, true, false, true, true, true, false, true, true, true, false, true, true, true, false, true, true, true, false, true, true, true, false, true, true, true, false, true, true, true, false, true, true, true, false, true, true, true, false, false, false, false, false, false, false, false, false] rfl rfl (by kernel_rfl) (fun _ _ _ h => h) (Or.inl ⟨by rfl, ?_⟩) ?_ ?_
      rotate_left
      · intro w'
        go_simp
        with_reducible rfl
      rotate_left
      · simp only [Act.put, List.setIfInBounds_toArray, List.set_cons_zero, List.set_cons_succ, i64_w, i32_w]
        rfl
      refine pure_ (i := 41) (N := some 114) (v := ?_) (a' := ?_) #[false, true, true, true, false, true, true, true, false, true, true, true, false, true, true, true, false, true, true, true, false, true, true, true, false, true, true, true, false, true, true, true, false, true, true, true, false, true, true, true, false, true, false, false, false, false, false, false, false] rfl rfl (by kernel_rfl) (fun _ _ _ h => h) (Or.inl ⟨by rfl, ?_⟩) ?_ ?_
      rotate_left
      · intro w'
        go_simp
        with_reducible rfl
      rotate_left
      · simp only [Act.put, List.setIfInBounds_toArray, List.set_cons_zero, List.set_cons_succ, i64_w, i32_w]
        rfl
      refine pure_ (i := 42) (N := some 115) (v := ?_) (a' := ?_) #[false, true, true, true, false, true, true, true, false, true, true, true, false, true, true, true, false, true, true, true, false, true, true, true, false, true, true, true, false, true, true, true, false, true, true, true, false, true, true, true, false, true, true, false, false, false, false, false, false] rfl rfl (by kernel_rfl) (fun _ _ _ h => h) (Or.inl ⟨by rfl, ?_⟩) ?_ ?_
      rotate_left
      · intro w'
        go_simp
        with_reducible rfl
      rotate_left
      · simp only [Act.put, List.setIfInBounds_toArray, List.set_cons_zero, List.set_cons_succ, i64_w, i32_w]
        rfl
      refine pure_ (i := 43) (N := some 116) (v := ?_) (a' := ?_) #[false, true, true, true, false, true, true, true, false, true, true, true, false, true, true, true, false, true, true, true, false, true, true, true, false, true, true, true, false, true, true, true, false, true, true, true, false, true, true, true, false, true, true, true, false, false, false, false, false] rfl rfl (by kernel_rfl) (fun _ _ _ h => h) (Or.inl ⟨by rfl, ?_⟩) ?_ ?_
      rotate_left
      · intro w'
        go_simp
        with_reducible rfl
      rotate_left
      · simp only [Act.put, List.setIfInBounds_toArray, List.set_cons_zero, List.set_cons_succ, i64_w, i32_w]
        rfl
      refine take_ (i := 0) (N := some 73) (v := ?_) (a' := ?_) #[true, true, true, true, false, true, true, true, false, true, true, true, false, true, true, true, false, true, true, true, false, true, true, true, false, true, true, true, false, true, true, true, false, true, true, true, false, true, true, true, false, true, true, true, false, false, false, false, false] rfl rfl (by kernel_rfl) (fun _ _ _ h => h) (Or.inl ⟨by rfl, ?_⟩) hHeld ?_ ?_
      rotate_left
      · rintro w' ⟨s0, s1, s2, s3, s4, s5, s6, s7, s8, s9, s10, s11⟩
        go_simp
        with_reducible rfl
      rotate_left
      · simp only [Act.put, List.setIfInBounds_toArray, List.set_cons_zero, List.set_cons_succ, i64_w, i32_w]
        rfl
      refine take_ (i := 4) (N := some 77) (v := ?_) (a' := ?_) #[true, true, true, true, true, true, true, true, false, true, true, true, false, true, true, true, false, true, true, true, false, true, true, true, false, true, true, true, false, true, true, true, false, true, true, true, false, true, true, true, false, true, true, true, false, false, false, false, false] rfl rfl (by kernel_rfl) (fun _ _ _ h => h) (Or.inl ⟨by rfl, ?_⟩) hHeld ?_ ?_
      rotate_left
      · rintro w' ⟨s0, s1, s2, s3, s4, s5, s6, s7, s8, s9, s10, s11⟩
        go_simp
        with_reducible rfl
      rotate_left
      · simp only [Act.put, List.setIfInBounds_toArray, List.set_cons_zero, List.set_cons_succ, i64_w, i32_w]
        rfl
      refine take_ (i := 8) (N := some 81) (v := ?_) (a' := ?_) #[true, true, true, true, true, true, true, true, true, true, true, true, false, true, true, true, false, true, true, true, false, true, true, true, false, true, true, true, false, true, true, true, false, true, true, true, false, true, true, true, false, true, true, true, false, false, false, false, false] rfl rfl (by kernel_rfl) (fun _ _ _ h => h) (Or.inl ⟨by rfl, ?_⟩) hHeld ?_ ?_
      rotate_left
      · rintro w' ⟨s0, s1, s2, s3, s4, s5, s6, s7, s8, s9, s10, s11⟩
        go_simp
        with_reducible rfl
      rotate_left
      · simp only [Act.put, List.setIfInBounds_toArray, List.set_cons_zero, List.set_cons_succ, i64_w, i32_w]
        rfl
      refine take_ (i := 12) (N := some 85) (v := ?_) (a' := ?_) #[true, true, true, true, true, true, true, true, true, true, true, true, true, true, true, true, false, true, true, true, false, true, true, true, false, true, true, true, false, true, true, true, false, true, true, true, false, true, true, true, false, true, true, true, false, false, false, false, false] rfl rfl (by kernel_rfl) (fun _ _ _ h => h) (Or.inl ⟨by rfl, ?_⟩) hHeld ?_ ?_
      rotate_left
      · rintro w' ⟨s0, s1, s2, s3, s4, s5, s6, s7, s8, s9, s10, s11⟩
        go_simp
        with_reducible rfl
      rotate_left
      · simp only [Act.put, List.setIfInBounds_toArray, List.set_cons_zero, List.set_cons_succ, i64_w, i32_w]
        rfl
      refine take_ (i := 16) (N := some 89) (v := ?_) (a' := ?_) #[true, true, true, true, true, true, true, true, true, true, true, true, true, true, true, true, true, true, true, true, false, true, true, true, false, true, true, true, false, true, true, true, false, true, true, true, false, true, true, true, false, true, true, true, false, false, false, false, false] rfl rfl (by kernel_rfl) (fun _ _ _ h => h) (Or.inl ⟨by rfl, ?_⟩) hHeld ?_ ?_
      rotate_left
      · rintro w' ⟨s0, s1, s2, s3, s4, s5, s6, s7, s8, s9, s10, s11⟩
        go_simp
        with_reducible rfl
      rotate_left
      · simp only [Act.put, List.setIfInBounds_toArray, List.set_cons_zero, List.set_cons_succ, i64_w, i32_w]
        rfl
      refine take_ (i := 20) (N := some 93) (v := ?_) (a' := ?_) #[true, true, true, true, true, true, true, true, true, true, true, true, true, true, true, true, true, true, true, true, true, true, true, true, false, true, true, true, false, true, true, true, false, true, true, true, false, true, true, true, false, true, true, true, false, false, false, false, false] rfl rfl (by kernel_rfl) (fun _ _ _ h => h) (Or.inl ⟨by rfl, ?_⟩) hHeld ?_ ?_
      rotate_left
      · rintro w' ⟨s0, s1, s2, s3, s4, s5, s6, s7, s8, s9, s10, s11⟩
        go_simp
        with_reducible rfl
      rotate_left
      · simp only [Act.put, List.setIfInBounds_toArray, List.set_cons_zero, List.set_cons_succ, i64_w, i32_w]
        rfl
      refine take_ (i := 24) (N := some 97) (v := ?_) (a' := ?_) #[true, true, true, true, true, true, true, true, true, true, true, true, true, true, true, true, true, true, true, true, true, true, true, true, true, true, true, true, false, true, true, true, false, true, true, true, false, true, true, true, false, true, true, true, false, false, false, false, false] rfl rfl (by kernel_rfl) (fun _ _ _ h => h) (Or.inl ⟨by rfl, ?_⟩) hHeld ?_ ?_
      rotate_left
      · rintro w' ⟨s0, s1, s2, s3, s4, s5, s6, s7, s8, s9, s10, s11⟩
        go_simp
        with_reducible rfl
      rotate_left
      · simp only [Act.put, List.setIfInBounds_toArray, List.set_cons_zero, List.set_cons_succ, i64_w, i32_w]
        rfl
      refine take_ (i := 28) (N := some 101) (v := ?_) (a' := ?_) #[true, true, true, true, true, true, true, true, true, true, true, true, true, true, true, true, true, true, true, true, true, true, true, true, true, true, true, true, true, true, true, true, false, true, true, true, false, true, true, true, false, true, true, true, false, false, false, false, false] rfl rfl (by kernel_rfl) (fun _ _ _ h => h) (Or.inl ⟨by rfl, ?_⟩) hHeld ?_ ?_
      rotate_left
      · rintro w' ⟨s0, s1, s2, s3, s4, s5, s6, s7, s8, s9, s10, s11⟩
        go_simp
        with_reducible rfl
      rotate_left
      · simp only [Act.put, List.setIfInBounds_toArray, List.set_cons_zero, List.set_cons_succ, i64_w, i32_w]
        rfl
      refine take_ (i := 32) (N := some 105) (v := ?_) (a' := ?_) #[true, true, true, true, true, true, true, true, true, true, true, true, true, true, true, true, true, true, true, true, true, true, true, true, true, true, true, true, true, true, true, true, true, true, true, true, false, true, true, true, false, true, true, true, false, false, false, false, false] rfl rfl (by kernel_rfl) (fun _ _ _ h => h) (Or.inl ⟨by rfl, ?_⟩) hHeld ?_ ?_
      rotate_left
      · rintro w' ⟨s0, s1, s2, s3, s4, s5, s6, s7, s8, s9, s10, s11⟩
        go_simp
        with_reducible rfl
      rotate_left
      · simp only [Act.put, List.setIfInBounds_toArray, List.set_cons_zero, List.set_cons_succ, i64_w, i32_w]
        rfl
      refine take_ (i := 36) (N := some 109) (v := ?_) (a' := ?_) #[true, true, true, true, true, true, true, true, true, true, true, true, true, true, true, true, true, true, true, true, true, true, true, true, true, true, true, true, true, true, true, true, true, true, true, true, true, true, true, true, false, true, true, true, false, false, false, false, false] rfl rfl (by kernel_rfl) (fun _ _ _ h => h) (Or.inl ⟨by rfl, ?_⟩) hHeld ?_ ?_
      rotate_left
      · rintro w' ⟨s0, s1, s2, s3, s4, s5, s6, s7, s8, s9, s10, s11⟩
        go_simp
        with_reducible rfl
      rotate_left
      · simp only [Act.put, List.setIfInBounds_toArray, List.set_cons_zero, List.set_cons_succ, i64_w, i32_w]
        rfl
      refine take_ (i := 40) (N := some 113) (v := ?_) (a' := ?_) #[true, true, true, true, true, true, true, true, true, true, true, true, true, true, true, true, true, true, true, true, true, true, true, true, true, true, true, true, true, true, true, true, true, true, true, true, true, true, true, true, true, true, true, true, false, false, false, false, false] rfl rfl (by kernel_rfl) (fun _ _ _ h => h) (Or.inl ⟨by rfl, ?_⟩) hHeld ?_ ?_
      rotate_left
      · rintro w' ⟨s0, s1, s2, s3, s4, s5, s6, s7, s8, s9, s10, s11⟩
        go_simp
        with_reducible rfl
      rotate_left
      · simp only [Act.put, List.setIfInBounds_toArray, List.set_cons_zero, List.set_cons_succ, i64_w, i32_w]
        rfl
      refine take_ (i := 44) (N := some 117) (v := ?_) (a' := ?_) #[true, true, true, true, true, true, true, true, true, true, true, true, true, true, true, true, true, true, true, true, true, true, true, true, true, true, true, true, true, true, true, true, true, true, true, true, true, true, true, true, true, true, true, true, true, false, false, false, false] rfl rfl (by kernel_rfl) (fun _ _ _ h => h) (Or.inl ⟨by rfl, ?_⟩) hHeld ?_ ?_
      rotate_left
      · rintro w' ⟨s0, s1, s2, s3, s4, s5, s6, s7, s8, s9, s10, s11⟩
        go_simp
        with_reducible rfl
      rotate_left
      · simp only [Act.put, List.setIfInBounds_toArray, List.set_cons_zero, List.set_cons_succ, i64_w, i32_w]
        rfl
      refine pure_ (i := 45) (N := some 118) (v := ?_) (a' := ?_) #[true, true, true, true, true, true, true, true, true, true, true, true, true, true, true, true, true, true, true, true, true, true, true, true, true, true, true, true, true, true, true, true, true, true, true, true, true, true, true, true, true, true, true, true, true, true, false, false, false] rfl rfl (by kernel_rfl) (fun _ _ _ h => h) (Or.inl ⟨by rfl, ?_⟩) ?_ ?_
      rotate_left
      · intro w'
        go_simp
        with_reducible rfl
      rotate_left
      · simp only [Act.put, List.setIfInBounds_toArray, List.set_cons_zero, List.set_cons_succ, i64_w, i32_w]
        rfl
      refine one_ (i := 46) (N := some 119) #[true, true, true, true, true, true, true, true, true, true, true, true, true, true, true, true, true, true, true, true, true, true, true, true, true, true, true, true, true, true, true, true, true, true, true, true, true, true, true, true, true, true, true, true, true, true, true, false, false] rfl rfl (by kernel_rfl) (by decide) (fun K hK => ?_)
      refine value_ (w1 := ?_) (v := ?_) (by rfl) rfl ?_ ?_
      rotate_left 2
      · go_simp
        constructor
        · rfl
        · rfl
      refine hK.out _ _ ⟨(blk_cell (blk_alloc (blk_drew HBL.out) _) 0).trans rfl, (blk_cell (blk_alloc (blk_drew hb) _) 0).trans rfl, (blk_cell (blk_alloc (blk_drew hb) _) 1).trans rfl, (blk_cell (blk_alloc (blk_drew hb) _) 2).trans rfl, (blk_cell (blk_alloc (blk_drew hb) _) 3).trans rfl, (blk_cell (blk_alloc (blk_drew hb) _) 4).trans rfl, (blk_cell (blk_alloc (blk_drew hb) _) 5).trans rfl, (blk_cell (blk_alloc (blk_drew hb) _) 6).trans rfl, (blk_cell (blk_alloc (blk_drew hb) _) 7).trans rfl, (blk_cell (blk_alloc (blk_drew hb) _) 8).trans rfl, (blk_cell (blk_alloc (blk_drew hb) _) 9).trans rfl, (blk_cell (blk_alloc (blk_drew hb) _) 10).trans rfl⟩ (fun hHeld => ?_)
      clear hK K
      refine norm_ (a' := ?_) ?_ ?_
      rotate_left
      · show Act.put _ (some 119) _ = _
        simp only [Act.put, List.setIfInBounds_toArray, List.set_cons_zero, List.set_cons_succ, i64_w, i32_w]
        rfl
      refine one_ (i := 47) (N := some 120) #[true, true, true, true, true, true, true, true, true, true, true, true, true, true, true, true, true, true, true, true, true, true, true, true, true, true, true, true, true, true, true, true, true, true, true, true, true, true, true, true, true, true, true, true, true, true, true, true, false] rfl rfl (by kernel_rfl) (by decide) (fun K hK => ?_)
      refine Kd.R_append_step k36 (w0 := w) w.heap.size (by rfl) (.tmp 73) (.tmp 119) 22 36 (.agg #[(.int .i64 0), (.int .i64 0), (.int .i64 0), (.int .i64 0), (.string ⟨#[]⟩), (.string ⟨#[]⟩), (.string ⟨#[]⟩), (.string ⟨#[]⟩), (.string ⟨#[]⟩), (.string ⟨#[]⟩), (.string ⟨#[]⟩)]) 144 rfl Tryd.underlying22 infoM36 rfl (by decide) (by omega) u (L.take x.toNat) m [.int .i64 m.f0, .int .i64 m.f1, .int .i64 m.f2, .int .i64 m.f3, .string m.f4, .string m.f5, .string m.f6, .string m.f7, .string m.f8, .string m.f9, .string m.f10] (fun _ => True) (fun _ => False) rfl (by first | (go_simp; done) | (go_simp; rfl)) (k36_mkM _ _ _ m) (fun _ hk => hk.elim) (fun _ _ => trivial) (Kd.R_drew HU.out) (below_drew HB.out) HB.out.size (by have := HL.out; have := HX2.out; simp [List.length_take]; omega) ?_
      intro v11 w11 ho hb11 hg _; obtain ⟨A11, c11, rfl⟩ := Kd.R_slice ho; have HO11 := Aside0.mk ho; have HB11 := Aside0.mk hb11; have HBL11 := Aside0.mk (blk_grown (blk_drew HBL.out) hg (Kd.R_ne (Kd.R_drew HU.out) (blk_drew HBL.out) (by decide))); have HBC11 := Aside0.mk (blk_grown (blk_drew HBC.out) hg (Kd.R_ne (Kd.R_drew HU.out) (blk_drew HBC.out) (by decide))); have HBK11 := Aside0.mk (blk_grown (blk_drew hb) hg (Kd.R_ne (Kd.R_drew HU.out) (blk_drew hb) (by decide))); have HP11 := Aside0.mk (Kd.R_over (Kd.R_drew HP.out) (Kd.R_drew HU.out) (by decide) hg); clear ho hb11 hg; have hbl1 : w11.cell? ⟨bl, 0, none⟩ = some u := (blk_cell HBL11.out 0).trans rfl; have hblf1 := blk_frozen HBL11.out 0
      refine hK.out _ _ ⟨(blk_cell (HBL11.out) 0).trans rfl, (blk_cell (HBK11.out) 0).trans rfl, (blk_cell (HBK11.out) 1).trans rfl, (blk_cell (HBK11.out) 2).trans rfl, (blk_cell (HBK11.out) 3).trans rfl, (blk_cell (HBK11.out) 4).trans rfl, (blk_cell (HBK11.out) 5).trans rfl, (blk_cell (HBK11.out) 6).trans rfl, (blk_cell (HBK11.out) 7).trans rfl, (blk_cell (HBK11.out) 8).trans rfl, (blk_cell (HBK11.out) 9).trans rfl, (blk_cell (HBK11.out) 10).trans rfl⟩ (fun hHeld => ?_)
      clear hK K
      refine norm_ (a' := ?_) ?_ ?_
      rotate_left
      · show Act.put _ (some 120) _ = _
        simp only [Act.put, List.setIfInBounds_toArray, List.set_cons_zero, List.set_cons_succ, i64_w, i32_w]
        rfl
      refine last_ (i := 48) (N := none) #[true, true, true, true, true, true, true, true, true, true, true, true, true, true, true, true, true, true, true, true, true, true, true, true, true, true, true, true, true, true, true, true, true, true, true, true, true, true, true, true, true, true, true, true, true, true, true, true, true] rfl rfl (by kernel_rfl) (by decide) (fun K hK => ?_)
      refine skip_ (w1 := ?_) (by rfl) rfl ?_ ?_
      rotate_left
      · go_simp
        rfl
      refine hK.out _ _ ?_
      clear hK K
      refine done_ (by kernel_rfl) ?_
      refine NoPanic.normal ?_
      go_wp2
      go_roundg (gk - 1)
      case measure => have := HX.out; have := HX2.out; omega
      case rel => exact ⟨x + 1, _, rfl, ⟨by have := HX.out; omega, by have := HX.out; have := HX2.out; omega⟩, ⟨blk_put HBL11.out 0 _ rfl⟩, ⟨blk_far HBC11.out (Ne.symm HNE.out) _⟩, ⟨by rw [HTK.out]; have h9 := Kd.R_set HO11.out HBL11.out (by decide) 0 (.slice A11 (L.take x.toNat ++ [m]).length c11); simpa only [List.length_append, List.length_take, List.length_singleton] using h9⟩, ⟨Kd.R_set HP11.out HBL11.out (by decide) 0 _⟩, ⟨below_set HB11.out GBL.out⟩⟩
    · have d0 : decide (x < (L.length : Int)) = false := decide_eq_false hx
      have hxe : x.toNat = L.length := by have := HX.out; omega
      have HU2 : Aside0 (Kd.R k36 36 wr w.heap.size (fun _ => True) u L) := ⟨by have := HU.out; rwa [hxe, List.take_length] at this⟩
      clear hx hxe HU
      obtain ⟨Au, cu, rfl⟩ := Kd.R_slice HU2.out
      go_wp2
      have HBLw := blk_far (blk_put HBL.out 0 (.slice Au L.length cu) rfl) (p := ⟨bc, 0, none⟩) hne1 (.int .i64 0)
      have HBCw := blk_put (blk_far HBC.out (p := ⟨bl, 0, none⟩) hne2 (.slice Au L.length cu)) 0 (.int .i64 0) rfl
      have HRw := Kd.R_set (Kd.R_set HU2.out HBL.out (by decide) 0 (.slice Au L.length cu)) (blk_far HBC.out (p := ⟨bl, 0, none⟩) hne2 (.slice Au L.length cu)) (by decide) 0 (.int .i64 0)
      have HBw := below_set (below_set HB.out GBL.out (j := 0) (v := .slice Au L.length cu)) GBC.out (j := 0) (v := .int .i64 0)
      generalize (wr.setCell ⟨bl, 0, none⟩ (.slice Au L.length cu)).setCell ⟨bc, 0, none⟩ (.int .i64 0) = W at HBLw HBCw HRw HBw ⊢
      have cl : W.cell? ⟨bl, 0, none⟩ = some (.slice Au L.length cu) := (blk_cell HBLw 0).trans rfl
      have cc : W.cell? ⟨bc, 0, none⟩ = some (.int .i64 0) := (blk_cell HBCw 0).trans rfl
      refine leaves_cons (f := 18) (args := #[.pointer (some ⟨bl, 0, none⟩), .pointer (some ⟨bc, 0, none⟩)]) (by simp) (by simp [go_sem]) ?_
      refine (catch_idle _ _ _).mono ?_
      rintro e u' w'' ⟨rfl, rfl, rfl⟩
      rw [HLd.out]
      simp [Leaves, settle, results, Tryd.results8, go_sem, cl, cc]
      exact ⟨HRw, HBw⟩
end Go.Proofs.YtdmccakncgdbhaaDoor.GMA
