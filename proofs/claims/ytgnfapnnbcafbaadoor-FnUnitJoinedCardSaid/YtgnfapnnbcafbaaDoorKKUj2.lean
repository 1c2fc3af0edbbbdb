/- Texts of this claim, put together: UStepG, UPeek, ULoop, UDes, UDesW, UDesO, UReadW, UOpts, USame, UWrite, UMap, UPut, UGrp. Conditions: as each one says. -/
import Derived.Test.YtgnfapnnbcafbaaDoorKKUj0
import Derived.Test.YtgnfapnnbcafbaaDoorKKUj1
import Derived.Defers
import Derived.Recover
import Derived.Laws.Pointers
import Derived.Maps.Keyed
import Derived.ChangeMaps5
section
/- The lexer's steps: an option's value. Conditions: a text of at most a million bytes; the library's tables as laid; bytes.TrimSpace's contract at the line. -/
namespace Go.Proofs.YtgnfapnnbcafbaaDoor.UN
open Go Go.RowKit Go.Proofs.YtgnfapnnbcafbaaDoorW.PrintWords Go.Proofs.YtgnfapnnbcafbaaDoorW Go.Proofs.YtgnfapnnbcafbaaDoorW.PrintLast
set_option linter.unusedVariables false
set_option linter.unusedSimpArgs false
theorem sB_add (a b : Bs) : sB a ++ sB b = sB (a ++ b) := by
 apply ByteArray.ext
 simp [ByteArray.data_append]
theorem sB_size (a : Bs) : (sB a).size = a.length := by simp [ByteArray.size]
structure OvIs (W : World) (lx g c1 c2 c3 c4 : Nat) (a n p : Bs) (vd : Value) : Prop where
 h1 : W.heap[c1]? = some (capL lx)
 h2 : W.heap[c2]? = some (capS p)
 h3 : W.heap[c3]? = some (capS a)
 h4 : W.heap[c4]? = some (capS n)
 hl : W.heap[lx]? = some (lexObj g vd .nilIface ⟨#[]⟩)
 n3 : c3 ≠ c2
 n4 : c4 ≠ c2
section
variable {W w' : World} {lx g c1 c2 c3 c4 : Nat} {a n p : Bs} {vd : Value}
theorem OvIs.below (h : OvIs W lx g c1 c2 c3 c4 a n p vd) (hb : Below W.heap.size W w') : OvIs w' lx g c1 c2 c3 c4 a n p vd := ⟨blk_below h.h1 hb, blk_below h.h2 hb, blk_below h.h3 hb, blk_below h.h4 hb, blk_below h.hl hb, h.n3, h.n4⟩
theorem OvIs.grown (h : OvIs W lx g c1 c2 c3 c4 a n p vd) (hg : W.grownBy w' (some g)) {text : ByteArray} {r w l : Int} {d : Bool} (hb : W.heap[g]? = some (bufObj text r w l d)) : OvIs w' lx g c1 c2 c3 c4 a n p vd := by
 have key : ∀ {k : Nat} {cs : Array Value} {t : TypeId}, t ≠ 90 → W.heap[k]? = some (.cells cs t (0, 0)) → w'.heap[k]? = some (.cells cs t (0, 0)) := fun {k cs t} ht h => blk_grown h hg (by
  intro e
  cases e
  rw [h] at hb
  unfold bufObj at hb
  injection hb with hb
  injection hb with _ hb
  exact ht hb)
 exact ⟨key (by decide) h.h1, key (by decide) h.h2, key (by decide) h.h3, key (by decide) h.h4, key (by decide) h.hl, h.n3, h.n4⟩
theorem OvIs.put (h : OvIs W lx g c1 c2 c3 c4 a n p vd) (q : Bs) : OvIs (W.setCell ⟨c2, 0, none⟩ (.string (sB q))) lx g c1 c2 c3 c4 a n q vd :=
 ⟨blk_far h.h1 (p := ⟨c2, 0, none⟩) (blk_ne h.h1 h.h2 (by decide)) _, blk_put h.h2 0 _ rfl, blk_far h.h3 (p := ⟨c2, 0, none⟩) h.n3 _, blk_far h.h4 (p := ⟨c2, 0, none⟩) h.n4 _, blk_far h.hl (p := ⟨c2, 0, none⟩) (blk_ne h.hl h.h2 (by decide)) _, h.n3, h.n4⟩
theorem OvIs.cells (h : OvIs W lx g c1 c2 c3 c4 a n p vd) : W.cell? ⟨c1, 0, none⟩ = some (.pointer (some ⟨lx, 0, none⟩)) ∧ W.cell? ⟨c2, 0, none⟩ = some (.string (sB p)) ∧ W.cell? ⟨c3, 0, none⟩ = some (.string (sB a)) ∧ W.cell? ⟨c4, 0, none⟩ = some (.string (sB n)) ∧ W.cell? ⟨lx, 1, none⟩ = some vd ∧ W.frozen? ⟨c2, 0, none⟩ = false :=
 ⟨(blk_cell h.h1 0).trans rfl, (blk_cell h.h2 0).trans rfl, (blk_cell h.h3 0).trans rfl, (blk_cell h.h4 0).trans rfl, (blk_cell h.hl 1).trans rfl, blk_frozen h.h2 0⟩
end
theorem OvIs.push {w3 W w11 : World} {lx g c1 c2 c3 c4 base : Nat} {a n p : Bs} {vd : Value} {xs : List Nat} (h : OvIs w3 lx g c1 c2 c3 c4 a n p vd) (hR : kA.R 76 w3 base (fun _ => True) vd xs) (hb : Below w3.heap.size w3 W) (hg : W.grownBy w11 vd.ownBlock) : OvIs w11 lx g c1 c2 c3 c4 a n p vd := by
 have hR' := Kd.R_below hR hb
 have h' := h.below hb
 exact ⟨blk_grown h'.h1 hg (Kd.R_ne hR' h'.h1 (by decide)), blk_grown h'.h2 hg (Kd.R_ne hR' h'.h2 (by decide)), blk_grown h'.h3 hg (Kd.R_ne hR' h'.h3 (by decide)), blk_grown h'.h4 hg (Kd.R_ne hR' h'.h4 (by decide)), blk_grown h'.hl hg (Kd.R_ne hR' h'.hl (by decide)), h.n3, h.n4⟩
theorem suf_nl (V : Bs) (W : World) (h : V.length ≤ 100000000) : Calls Tryd.prog 127 #[.string (sB V), .string ⟨#[10]⟩] W fun e w' => e = .returned (.bool (decide (V.getLast? = some 10))) ∧ w' = W := by
 have := Tryd.strings_HasSuffix (sB V) ⟨#[10]⟩ W (by rw [sB_size]; omega)
 rw [show (sB V).data.toList = V from rfl, show (⟨#[10]⟩ : ByteArray).data.toList = [10] from rfl, suffix_one] at this
 exact this
theorem trim_v (V : Bs) (W : World) (h : V.length ≤ 100000000) (hT : UTab W) : Calls Tryd.prog 112 #[.string (sB V)] W fun e w' => e = .returned (.string (sB (Lib.trimSpaceD V))) ∧ Below W.heap.size W w' := trim_call (sB V) W (by rw [sB_size]; exact h) hT
theorem bat_far {w : World} {b c : Nat} {l : Bs} {v : Value} (h : BAt w b 0 l) (hne : b ≠ c) : BAt (w.setCell ⟨c, 0, none⟩ v) b 0 l := fun i hi => by
 have := h i hi
 unfold World.cell? at this ⊢
 rw [Below.heap_setCell w ⟨c, 0, none⟩ v b hne]
 exact this
theorem far_cell {w : World} {c k : Nat} {cs : Array Value} {t : TypeId} (h : w.heap[k]? = some (.cells cs t (0, 0))) (hne : k ≠ c) (v : Value) (i : Nat) : (w.setCell ⟨c, 0, none⟩ v).cell? ⟨k, i, none⟩ = cs[i]? := blk_cell (blk_far h (p := ⟨c, 0, none⟩) hne v) i
set_option maxHeartbeats 4000000 in
set_option maxRecDepth 100000 in
theorem step_ov (W0 W : World) (lx g r : Nat) (a n p : Bs) (c1 c2 c3 c4 : Nat) (text : ByteArray) (D : List Ent) (hT : UTab W0) (hTC : TrimC (eol (text.data.toList.drop r)).1) (hL : LexIs W0 W lx g text r D) (hsz : text.size ≤ 1000000) (hr : r ≤ text.size) (hD : D.length ≤ 10000000) (hp : p.length ≤ 2000000)
  (h1 : W.heap[c1]? = some (capL lx)) (h2 : W.heap[c2]? = some (capS p)) (h3 : W.heap[c3]? = some (capS a)) (h4 : W.heap[c4]? = some (capS n)) (hc2 : W0.heap.size ≤ c2) (n3 : c3 ≠ c2) (n4 : c4 ≠ c2) :
  Calls Tryd.prog 126 #[.pointer (some ⟨c1, 0, none⟩), .pointer (some ⟨c2, 0, none⟩), .pointer (some ⟨c3, 0, none⟩), .pointer (some ⟨c4, 0, none⟩)] W (StepPost W0 lx g text D (.ov a n p) (text.data.toList.drop r)) := by
 obtain ⟨vd, hlx, hrow⟩ := hL.ob
 obtain ⟨l, hbuf⟩ := hL.buf
 have l1 : W.cell? ⟨c1, 0, none⟩ = some (.pointer (some ⟨lx, 0, none⟩)) := (blk_cell h1 0).trans rfl
 have EOL := Aside0.mk (to_eol lx g vd .nilIface ⟨#[]⟩ text r l W hlx hbuf hsz)
 have HOV := Aside0.mk (OvIs.mk h1 h2 h3 h4 hlx n3 n4)
 have HL := Aside0.mk hL
 have HT := Aside0.mk hT
 have HSZ := Aside0.mk hsz
 have HD := Aside0.mk hD
 have HC2 := Aside0.mk hc2
 have HP := Aside0.mk hp
 obtain ⟨wb, db, hbk, -⟩ := hbuf
 have HBK := Aside0.mk hbk
 obtain ⟨ln, hln⟩ : ∃ ln, (eol (text.data.toList.drop r)).1 = ln := ⟨_, rfl⟩
 obtain ⟨eb, heb⟩ : ∃ eb, (eol (text.data.toList.drop r)).2.1 = eb := ⟨_, rfl⟩
 have HTC : Aside0 (TrimC ln) := ⟨by rw [← hln]; exact hTC⟩
 have HLE : Aside0 (ln.length ≤ 1000000) := ⟨by
  have hE := eol_line_le (text.data.toList.drop r)
  have hl : text.data.toList.length = text.size := Array.length_toList
  rw [hln, List.length_drop] at hE
  omega⟩
 have HLN := Aside0.mk hln
 have HEB := Aside0.mk heb
 have hmf := make_fn
 have hadd := sB_add p ln
 have hadd2 := sB_add (p ++ ln) [10]
 have hs1 : (9223372036854775807 < (sB p).size + (sB ln).size) = False := eq_false (by rw [sB_size, sB_size]; have := HLE.out; omega)
 have hs2 : (9223372036854775807 < (sB (p ++ ln)).size + 1) = False := eq_false (by rw [sB_size, List.length_append]; have := HLE.out; omega)
 have hs3 : (9223372036854775807 < p.length + ln.length) = False := eq_false (by have := HLE.out; omega)
 have hs4 : (9223372036854775807 < p.length + ln.length + 1) = False := eq_false (by have := HLE.out; omega)
 clear hL hlx hT hTC hsz hr h1 h2 h3 h4 hD hrow hc2 n3 n4 hbk hln heb hp
 go_enter Tryd.func126, Tryd.ntmps126
 go_upto_region 10 with (first
  | (go_at_call 88; refine EOL.out.mono ?_; rintro e w2 ⟨bk, cap, r', rfl, hcap, hbat, hbuf, hdr, hrr, hrs, hg2, hbk⟩; rw [HLN.out] at hcap hbat ⊢; rw [HEB.out]; have HG2 := Aside0.mk hg2; have HCAP := Aside0.mk hcap; have HBAT := Aside0.mk hbat; have HBF2 := Aside0.mk hbuf; have HDR := Aside0.mk hdr; have HRS := Aside0.mk hrs; have HOV2 := Aside0.mk (HOV.out.grown hg2 HBK.out); have HL2 := Aside0.mk (HL.out.grown hg2 ⟨_, hbuf⟩); clear hg2 hcap hbat hbuf hdr hrs)
  | (go_at_call 94; refine (HTC.out bk _ cap _ (utab_below HT.out HL2.out.bel) rfl HCAP.out (by have := HLE.out; omega) HBAT.out).mono ?_; rintro e w3 ⟨A, m, cp, rfl, hb3, hm1, hm2⟩; have HB3 := Aside0.mk hb3; have HBL : Aside0 (Blank ln (decide (m = 0))) := ⟨⟨fun h => by have := hm1 h; rw [Bool.eq_iff_iff, decide_eq_true_iff]; exact this, fun h => decide_eq_true (hm2 h)⟩⟩; have HOV3 := Aside0.mk (HOV2.out.below hb3); have HL3 := Aside0.mk (HL2.out.below hb3); have HBAT3 := Aside0.mk (bat_below HBAT.out hb3); obtain ⟨k1, k2, k3, k4, k5, k6⟩ := (HOV2.out.below hb3).cells; have hcv := conv_line w3 bk ln.length cap ln rfl (bat_below HBAT.out hb3); clear hb3 hm1 hm2; rcases Nat.eq_zero_or_pos m with hm | hm)
  | (go_at_call 90; refine (suf92 bk ln.length cap _ ln _ rfl HCAP.out (by have := HLE.out; omega) (bat_alloc (bat_far HBAT3.out (by have := blk_lt HOV.out.h2; omega)) _) (bat92 _ _ (by simp))).mono ?_; rintro e w4 ⟨rfl, e4⟩; have HOV4 : Aside0 (OvIs w4 lx g c1 c2 c3 c4 a n (p ++ ln) vd) := ⟨by rw [e4]; exact (HOV3.out.put _).below (below_alloc (Below.refl _ _) _)⟩; have HL4 : Aside0 (LexIs W0 w4 lx g text r' D) := ⟨by rw [e4]; exact (HL3.out.put HOV3.out.h2 HC2.out _).below (below_alloc (Below.refl _ _) _)⟩; obtain ⟨k1, k2, k3, k4, k5, k6⟩ := HOV4.out.cells; have q1 := fun v => (far_cell HOV4.out.h1 (blk_ne HOV4.out.h1 HOV4.out.h2 (by decide)) v 0).trans rfl; have q3 := fun v => (far_cell HOV4.out.h3 HOV4.out.n3 v 0).trans rfl; have q4 := fun v => (far_cell HOV4.out.h4 HOV4.out.n4 v 0).trans rfl; clear e4; by_cases hsx : ln.getLast? = some 92 <;> (first | rw [decide_eq_true hsx] | rw [decide_eq_false hsx]) <;> (first | (have h9 : ln.getLast? = some 92 := hsx; cases eb) | skip))
  | (go_at_call 113; refine (made_ov W0.heap.size lx a n _ _ (by first | exact HL4.out.bel.size | exact (HL4.out.put HOV4.out.h2 HC2.out _).bel.size)).mono ?_; rintro e w5 ⟨v, rfl, hR5, hb5⟩)
  | fail)
 ·have HVL : Aside0 ((p).length ≤ 3000000) := ⟨by have := HP.out; omega⟩
  have hadd3 := sB_add (Lib.trimSpaceD (p)) [10]
  have hs5 : (9223372036854775807 < (Lib.trimSpaceD (p)).length + 1) = False := eq_false (by have := trim_len (p); have := HVL.out; omega)
  go_upto_region 14 with (first
   | (go_at_call 127; refine (suf_nl (p) _ (by have := HVL.out; omega)).mono ?_; rintro e w5 ⟨rfl, e5⟩; have e5' := e5.symm; subst e5'; by_cases hnl : (p).getLast? = some 10 <;> (first | rw [decide_eq_true hnl] | rw [decide_eq_false hnl]))
   | (go_at_call 112; refine (trim_v (p) _ (by have := HVL.out; omega) (utab_below HT.out HL3.out.bel)).mono ?_; rintro e w7 ⟨rfl, hb7⟩; have HL7 := Aside0.mk (HL3.out.below hb7); have HOV7 := Aside0.mk (HOV3.out.below hb7); clear hb7)
   | fail)
  all_goals (obtain ⟨V2, hV2⟩ : ∃ V2, valF (p) = V2 := ⟨_, rfl⟩)
  all_goals (have hV3 := hV2; unfold valF at hV3; first | rw [if_pos hnl] at hV3 | rw [if_neg hnl] at hV3)
  all_goals (rw [hV3])
  all_goals (clear hV3 hadd3 hs5)
  all_goals (have HV2 := Aside0.mk hV2; clear hV2 hnl)
  all_goals (have HL3 := HL7)
  ·have HROW3 : Aside0 (kA.R 76 w7 W0.heap.size (fun _ => True) vd (D.map (·.b))) := ⟨by
    obtain ⟨vd', hl', hR'⟩ := HL3.out.ob
    have e := HOV7.out.hl
    rw [hl'] at e
    have : vd' = vd := by simpa [lexObj] using e
    rw [← this]
    exact hR'⟩
   have FC1 : ∀ X, Below w7.heap.size w7 X → X.cell? ⟨c1, 0, none⟩ = some (.pointer (some ⟨lx, 0, none⟩)) := fun X hX => (HOV7.out.below hX).cells.1
   have FC2 : ∀ X, Below w7.heap.size w7 X → X.cell? ⟨c3, 0, none⟩ = some (.string (sB a)) := fun X hX => (HOV7.out.below hX).cells.2.2.1
   have FC3 : ∀ X, Below w7.heap.size w7 X → X.cell? ⟨c4, 0, none⟩ = some (.string (sB n)) := fun X hX => (HOV7.out.below hX).cells.2.2.2.1
   have FC4 : ∀ X, Below w7.heap.size w7 X → X.cell? ⟨lx, 1, none⟩ = some vd := fun X hX => (HOV7.out.below hX).cells.2.2.2.2.1
   refine start_ (n := 17) (S := fun w' => w'.cell? ⟨c1, 0, none⟩ = some (.pointer (some ⟨lx, 0, none⟩)) ∧ w'.cell? ⟨c3, 0, none⟩ = some (.string (sB a)) ∧ w'.cell? ⟨c4, 0, none⟩ = some (.string (sB n)) ∧ w'.cell? ⟨lx, 1, none⟩ = some vd) (ds := [16]) (bb [0, 17]) (by kernel_rfl) rfl rfl ⟨(FC1 _ (by repeat (first | exact Below.refl _ _ | apply below_alloc | apply below_drew))), (FC2 _ (by repeat (first | exact Below.refl _ _ | apply below_alloc | apply below_drew))), (FC3 _ (by repeat (first | exact Below.refl _ _ | apply below_alloc | apply below_drew))), (FC4 _ (by repeat (first | exact Below.refl _ _ | apply below_alloc | apply below_drew)))⟩ (fun hHeld => ?_)
   refine pure_ (i := 7) (N := some 54) (v := ?_) (a' := ?_) (bb [0, 7, 1, 9]) rfl rfl (by kernel_rfl) (fun _ _ _ h => h) (Or.inl ⟨by rfl, ?_⟩) ?_ ?_
   rotate_left
   ·intro w'
    go_simp
    with_reducible rfl
   rotate_left
   ·simp only [Act.put, List.setIfInBounds_toArray, List.set_cons_zero, List.set_cons_succ, i64_w, i32_w]
    rfl
   refine take_ (i := 0) (N := some 47) (v := ?_) (a' := ?_) (bb [1, 6, 1, 9]) rfl rfl (by kernel_rfl) (fun _ _ _ h => h) (Or.inl ⟨by rfl, ?_⟩) hHeld ?_ ?_
   rotate_left
   ·rintro w' ⟨s0, s1, s2, s3⟩
    go_simp
    with_reducible rfl
   rotate_left
   ·simp only [Act.put, List.setIfInBounds_toArray, List.set_cons_zero, List.set_cons_succ, i64_w, i32_w]
    rfl
   refine take_ (i := 1) (N := some 48) (v := ?_) (a' := ?_) (bb [2, 5, 1, 9]) rfl rfl (by kernel_rfl) (fun _ _ _ h => h) (Or.inl ⟨by rfl, ?_⟩) hHeld ?_ ?_
   rotate_left
   ·rintro w' ⟨s0, s1, s2, s3⟩
    go_simp
    with_reducible rfl
   rotate_left
   ·simp only [Act.put, List.setIfInBounds_toArray, List.set_cons_zero, List.set_cons_succ, i64_w, i32_w]
    rfl
   refine pure_ (i := 2) (N := some 49) (v := ?_) (a' := ?_) (bb [3, 4, 1, 9]) rfl rfl (by kernel_rfl) (fun _ _ _ h => h) (Or.inl ⟨by rfl, ?_⟩) ?_ ?_
   rotate_left
   ·intro w'
    go_simp
    with_reducible rfl
   rotate_left
   ·simp only [Act.put, List.setIfInBounds_toArray, List.set_cons_zero, List.set_cons_succ, i64_w, i32_w]
    rfl
   refine pure_ (i := 3) (N := some 50) (v := ?_) (a' := ?_) (bb [4, 3, 1, 9]) rfl rfl (by kernel_rfl) (fun _ _ _ h => h) (Or.inl ⟨by rfl, ?_⟩) ?_ ?_
   rotate_left
   ·intro w'
    go_simp
    with_reducible rfl
   rotate_left
   ·simp only [Act.put, List.setIfInBounds_toArray, List.set_cons_zero, List.set_cons_succ, i64_w, i32_w]
    rfl
   refine take_ (i := 4) (N := some 51) (v := ?_) (a' := ?_) (bb [5, 2, 1, 9]) rfl rfl (by kernel_rfl) (fun _ _ _ h => h) (Or.inl ⟨by rfl, ?_⟩) hHeld ?_ ?_
   rotate_left
   ·rintro w' ⟨s0, s1, s2, s3⟩
    go_simp
    with_reducible rfl
   rotate_left
   ·simp only [Act.put, List.setIfInBounds_toArray, List.set_cons_zero, List.set_cons_succ, i64_w, i32_w]
    rfl
   refine take_ (i := 5) (N := some 52) (v := ?_) (a' := ?_) (bb [6, 1, 1, 9]) rfl rfl (by kernel_rfl) (fun _ _ _ h => h) (Or.inl ⟨by rfl, ?_⟩) hHeld ?_ ?_
   rotate_left
   ·rintro w' ⟨s0, s1, s2, s3⟩
    go_simp
    with_reducible rfl
   rotate_left
   ·simp only [Act.put, List.setIfInBounds_toArray, List.set_cons_zero, List.set_cons_succ, i64_w, i32_w]
    rfl
   refine take_ (i := 6) (N := some 53) (v := ?_) (a' := ?_) (bb [8, 9]) rfl rfl (by kernel_rfl) (fun _ _ _ h => h) (Or.inl ⟨by rfl, ?_⟩) hHeld ?_ ?_
   rotate_left
   ·rintro w' ⟨s0, s1, s2, s3⟩
    go_simp
    with_reducible rfl
   rotate_left
   ·simp only [Act.put, List.setIfInBounds_toArray, List.set_cons_zero, List.set_cons_succ, i64_w, i32_w]
    rfl
   refine pure_ (i := 8) (N := some 55) (v := ?_) (a' := ?_) (bb [9, 8]) rfl rfl (by kernel_rfl) (fun _ _ _ h => h) (Or.inl ⟨by rfl, ?_⟩) ?_ ?_
   rotate_left
   ·intro w'
    go_simp
    with_reducible rfl
   rotate_left
   ·simp only [Act.put, List.setIfInBounds_toArray, List.set_cons_zero, List.set_cons_succ, i64_w, i32_w]
    rfl
   refine one_ (i := 9) (N := some 56) (bb [10, 7]) rfl rfl (by kernel_rfl) (by decide) (fun K hK => ?_)
   refine value_ (w1 := ?_) (v := ?_) (by rfl) rfl ?_ ?_
   rotate_left 2
   ·go_simp
    constructor
    ·rfl
    ·rfl
   refine hK.out _ _ ⟨(FC1 _ (by repeat (first | exact Below.refl _ _ | apply below_alloc | apply below_drew))), (FC2 _ (by repeat (first | exact Below.refl _ _ | apply below_alloc | apply below_drew))), (FC3 _ (by repeat (first | exact Below.refl _ _ | apply below_alloc | apply below_drew))), (FC4 _ (by repeat (first | exact Below.refl _ _ | apply below_alloc | apply below_drew)))⟩ (fun hHeld => ?_)
   clear hK K
   refine norm_ (a' := ?_) ?_ ?_
   rotate_left
   ·show Act.put _ (some 56) _ = _
    simp only [Act.put, List.setIfInBounds_toArray, List.set_cons_zero, List.set_cons_succ, i64_w, i32_w]
    rfl
   refine pure_ (i := 10) (N := some 57) (v := ?_) (a' := ?_) (bb [11, 6]) rfl rfl (by kernel_rfl) (fun _ _ _ h => h) (Or.inl ⟨by rfl, ?_⟩) ?_ ?_
   rotate_left
   ·intro w'
    go_simp
    with_reducible rfl
   rotate_left
   ·simp only [Act.put, List.setIfInBounds_toArray, List.set_cons_zero, List.set_cons_succ, i64_w, i32_w]
    rfl
   refine one_ (i := 11) (N := some 58) (bb [12, 5]) rfl rfl (by kernel_rfl) (by decide) (fun K hK => ?_)
   refine value_ (w1 := ?_) (v := ?_) (by rfl) rfl ?_ ?_
   rotate_left 2
   ·go_simp
    constructor
    ·rfl
    ·rfl
   refine hK.out _ _ ⟨(FC1 _ (by repeat (first | exact Below.refl _ _ | apply below_alloc | apply below_drew))), (FC2 _ (by repeat (first | exact Below.refl _ _ | apply below_alloc | apply below_drew))), (FC3 _ (by repeat (first | exact Below.refl _ _ | apply below_alloc | apply below_drew))), (FC4 _ (by repeat (first | exact Below.refl _ _ | apply below_alloc | apply below_drew)))⟩ (fun hHeld => ?_)
   clear hK K
   refine norm_ (a' := ?_) ?_ ?_
   rotate_left
   ·show Act.put _ (some 58) _ = _
    simp only [Act.put, List.setIfInBounds_toArray, List.set_cons_zero, List.set_cons_succ, i64_w, i32_w]
    rfl
   refine one_ (i := 12) (N := some 59) (bb [13, 4]) rfl rfl (by kernel_rfl) (by decide) (fun K hK => ?_)
   refine value_ (w1 := ?_) (v := ?_) (by rfl) rfl ?_ ?_
   rotate_left 2
   ·go_simp
    constructor
    ·rfl
    ·rfl
   refine hK.out _ _ ⟨(FC1 _ (by repeat (first | exact Below.refl _ _ | apply below_alloc | apply below_drew))), (FC2 _ (by repeat (first | exact Below.refl _ _ | apply below_alloc | apply below_drew))), (FC3 _ (by repeat (first | exact Below.refl _ _ | apply below_alloc | apply below_drew))), (FC4 _ (by repeat (first | exact Below.refl _ _ | apply below_alloc | apply below_drew)))⟩ (fun hHeld => ?_)
   clear hK K
   refine norm_ (a' := ?_) ?_ ?_
   rotate_left
   ·show Act.put _ (some 59) _ = _
    simp only [Act.put, List.setIfInBounds_toArray, List.set_cons_zero, List.set_cons_succ, i64_w, i32_w]
    rfl
   refine one_ (i := 13) (N := some 60) (bb [14, 3]) rfl rfl (by kernel_rfl) (by decide) (fun K hK => ?_)
   refine ld_append (w0 := W0) W0.heap.size (by rfl) (.tmp 51) (.tmp 59) rfl vd (D.map (·.b)) _ rfl (by first | (go_simp; done) | (go_simp; rfl)) (Kd.R_below HROW3.out (by repeat (first | exact Below.refl _ _ | apply below_alloc | apply below_drew))) (below_then HL3.out.bel HL3.out.bel.size (by repeat (first | exact Below.refl _ _ | apply below_alloc | apply below_drew))) (by have := HL3.out.bel.size; simp only [sz_alloc]; exact Nat.le_trans this (by first | exact Nat.le_add_right _ _ | omega)) (by have := HD.out; simp only [List.length_map]; omega) ?_
   intro v11 w11 ho hb11 hg; obtain ⟨A11, c11, rfl⟩ := Kd.R_slice ho; have HO11 := Aside0.mk ho; have HB11 := Aside0.mk hb11; have HG11 := Aside0.mk hg; have HC11 := Aside0.mk (OvIs.push HOV7.out HROW3.out (by repeat (first | exact Below.refl _ _ | apply below_alloc | apply below_drew)) hg); have HS11 : _ ∧ _ ∧ _ ∧ _ := ⟨HC11.out.cells.1, HC11.out.cells.2.2.1, HC11.out.cells.2.2.2.1, HC11.out.cells.2.2.2.2.1⟩; have hfz := blk_frozen HC11.out.hl 1; clear ho hb11 hg
   refine hK.out _ _ ⟨HS11.1, HS11.2.1, HS11.2.2.1, HS11.2.2.2⟩ (fun hHeld => ?_)
   clear hK K
   refine norm_ (a' := ?_) ?_ ?_
   rotate_left
   ·show Act.put _ (some 60) _ = _
    simp only [Act.put, List.setIfInBounds_toArray, List.set_cons_zero, List.set_cons_succ, i64_w, i32_w]
    rfl
   refine pure_ (i := 14) (N := some 61) (v := ?_) (a' := ?_) (bb [15, 2]) rfl rfl (by kernel_rfl) (fun _ _ _ h => h) (Or.inl ⟨by rfl, ?_⟩) ?_ ?_
   rotate_left
   ·intro w'
    go_simp
    with_reducible rfl
   rotate_left
   ·simp only [Act.put, List.setIfInBounds_toArray, List.set_cons_zero, List.set_cons_succ, i64_w, i32_w]
    rfl
   refine pure_ (i := 15) (N := some 62) (v := ?_) (a' := ?_) (bb [16, 1]) rfl rfl (by kernel_rfl) (fun _ _ _ h => h) (Or.inl ⟨by rfl, ?_⟩) ?_ ?_
   rotate_left
   ·intro w'
    go_simp
    with_reducible rfl
   rotate_left
   ·simp only [Act.put, List.setIfInBounds_toArray, List.set_cons_zero, List.set_cons_succ, i64_w, i32_w]
    rfl
   refine last_ (i := 16) (N := none) (bb [17]) rfl rfl (by kernel_rfl) (by decide) (fun K hK => ?_)
   refine skip_ (w1 := ?_) (by rfl) rfl ?_ ?_
   rotate_left
   ·go_simp
    rfl
   refine hK.out _ _ ?_
   clear hK K
   refine done_ (by kernel_rfl) ?_
   have e11 : (D.map (·.b) ++ [w7.heap.size + 1]).length = D.length + 1 := by simp
   have HLF : Aside0 (LexIs W0 (w11.setCell ⟨lx, 1, none⟩ (.slice A11 (D.length + 1) c11)) lx g text r' (D ++ [⟨.opt a n V2, w7.heap.size + 1, w7.heap.size, w7.heap.size⟩])) := ⟨by
    have ho := HO11.out
    rw [e11] at ho
    have h0 := HL3.out.bel.size
    exact LexIs.push HL3.out HOV7.out.hl HROW3.out (by repeat (first | exact Below.refl _ _ | apply below_alloc | apply below_drew)) HG11.out ho HB11.out ⟨new2 w7 _ _, blk_alloc (blk_new w7 _) _⟩ (by simp only; omega) (by simp only; omega) (Nat.le_refl _) (by simp only [sz_alloc]; omega)⟩
   have f1 : (w11.setCell ⟨lx, 1, none⟩ (.slice A11 (D.length + 1) c11)).cell? ⟨c1, 0, none⟩ = some (.pointer (some ⟨lx, 0, none⟩)) := (blk_cell (blk_far HC11.out.h1 (p := ⟨lx, 1, none⟩) (blk_ne HC11.out.h1 HC11.out.hl (by decide)) _) 0).trans rfl
   have f2 : (w11.setCell ⟨lx, 1, none⟩ (.slice A11 (D.length + 1) c11)).cell? ⟨c3, 0, none⟩ = some (.string (sB a)) := (blk_cell (blk_far HC11.out.h3 (p := ⟨lx, 1, none⟩) (blk_ne HC11.out.h3 HC11.out.hl (by decide)) _) 0).trans rfl
   generalize w11.setCell ⟨lx, 1, none⟩ (.slice A11 (D.length + 1) c11) = W' at f1 f2 HLF ⊢
   go_wp2_with (first
    | (go_at_call 95; refine (made_no W0.heap.size lx a _).mono ?_; rintro e w5 ⟨v, rfl, hR5, hb5⟩))
   go_ret2
   refine ⟨.go (.no a) (eol (text.data.toList.drop r)).2.2 [.opt a n V2], ⟨_, by rw [HLN.out]; exact HBL.out, ?_⟩, v, _, r', rfl, hR5, rfl, HLF.out.below hb5, HDR.out, HRS.out⟩
   rw [← HV2.out]
   rw [hm]
   unfold ovOut
   rw [if_pos (by decide)]
  ·have HROW3 : Aside0 (kA.R 76 w7 W0.heap.size (fun _ => True) vd (D.map (·.b))) := ⟨by
    obtain ⟨vd', hl', hR'⟩ := HL3.out.ob
    have e := HOV7.out.hl
    rw [hl'] at e
    have : vd' = vd := by simpa [lexObj] using e
    rw [← this]
    exact hR'⟩
   have FC1 : ∀ X, Below w7.heap.size w7 X → X.cell? ⟨c1, 0, none⟩ = some (.pointer (some ⟨lx, 0, none⟩)) := fun X hX => (HOV7.out.below hX).cells.1
   have FC2 : ∀ X, Below w7.heap.size w7 X → X.cell? ⟨c3, 0, none⟩ = some (.string (sB a)) := fun X hX => (HOV7.out.below hX).cells.2.2.1
   have FC3 : ∀ X, Below w7.heap.size w7 X → X.cell? ⟨c4, 0, none⟩ = some (.string (sB n)) := fun X hX => (HOV7.out.below hX).cells.2.2.2.1
   have FC4 : ∀ X, Below w7.heap.size w7 X → X.cell? ⟨lx, 1, none⟩ = some vd := fun X hX => (HOV7.out.below hX).cells.2.2.2.2.1
   refine start_ (n := 17) (S := fun w' => w'.cell? ⟨c1, 0, none⟩ = some (.pointer (some ⟨lx, 0, none⟩)) ∧ w'.cell? ⟨c3, 0, none⟩ = some (.string (sB a)) ∧ w'.cell? ⟨c4, 0, none⟩ = some (.string (sB n)) ∧ w'.cell? ⟨lx, 1, none⟩ = some vd) (ds := [16]) (bb [0, 17]) (by kernel_rfl) rfl rfl ⟨(FC1 _ (by repeat (first | exact Below.refl _ _ | apply below_alloc | apply below_drew))), (FC2 _ (by repeat (first | exact Below.refl _ _ | apply below_alloc | apply below_drew))), (FC3 _ (by repeat (first | exact Below.refl _ _ | apply below_alloc | apply below_drew))), (FC4 _ (by repeat (first | exact Below.refl _ _ | apply below_alloc | apply below_drew)))⟩ (fun hHeld => ?_)
   refine pure_ (i := 7) (N := some 54) (v := ?_) (a' := ?_) (bb [0, 7, 1, 9]) rfl rfl (by kernel_rfl) (fun _ _ _ h => h) (Or.inl ⟨by rfl, ?_⟩) ?_ ?_
   rotate_left
   ·intro w'
    go_simp
    with_reducible rfl
   rotate_left
   ·simp only [Act.put, List.setIfInBounds_toArray, List.set_cons_zero, List.set_cons_succ, i64_w, i32_w]
    rfl
   refine take_ (i := 0) (N := some 47) (v := ?_) (a' := ?_) (bb [1, 6, 1, 9]) rfl rfl (by kernel_rfl) (fun _ _ _ h => h) (Or.inl ⟨by rfl, ?_⟩) hHeld ?_ ?_
   rotate_left
   ·rintro w' ⟨s0, s1, s2, s3⟩
    go_simp
    with_reducible rfl
   rotate_left
   ·simp only [Act.put, List.setIfInBounds_toArray, List.set_cons_zero, List.set_cons_succ, i64_w, i32_w]
    rfl
   refine take_ (i := 1) (N := some 48) (v := ?_) (a' := ?_) (bb [2, 5, 1, 9]) rfl rfl (by kernel_rfl) (fun _ _ _ h => h) (Or.inl ⟨by rfl, ?_⟩) hHeld ?_ ?_
   rotate_left
   ·rintro w' ⟨s0, s1, s2, s3⟩
    go_simp
    with_reducible rfl
   rotate_left
   ·simp only [Act.put, List.setIfInBounds_toArray, List.set_cons_zero, List.set_cons_succ, i64_w, i32_w]
    rfl
   refine pure_ (i := 2) (N := some 49) (v := ?_) (a' := ?_) (bb [3, 4, 1, 9]) rfl rfl (by kernel_rfl) (fun _ _ _ h => h) (Or.inl ⟨by rfl, ?_⟩) ?_ ?_
   rotate_left
   ·intro w'
    go_simp
    with_reducible rfl
   rotate_left
   ·simp only [Act.put, List.setIfInBounds_toArray, List.set_cons_zero, List.set_cons_succ, i64_w, i32_w]
    rfl
   refine pure_ (i := 3) (N := some 50) (v := ?_) (a' := ?_) (bb [4, 3, 1, 9]) rfl rfl (by kernel_rfl) (fun _ _ _ h => h) (Or.inl ⟨by rfl, ?_⟩) ?_ ?_
   rotate_left
   ·intro w'
    go_simp
    with_reducible rfl
   rotate_left
   ·simp only [Act.put, List.setIfInBounds_toArray, List.set_cons_zero, List.set_cons_succ, i64_w, i32_w]
    rfl
   refine take_ (i := 4) (N := some 51) (v := ?_) (a' := ?_) (bb [5, 2, 1, 9]) rfl rfl (by kernel_rfl) (fun _ _ _ h => h) (Or.inl ⟨by rfl, ?_⟩) hHeld ?_ ?_
   rotate_left
   ·rintro w' ⟨s0, s1, s2, s3⟩
    go_simp
    with_reducible rfl
   rotate_left
   ·simp only [Act.put, List.setIfInBounds_toArray, List.set_cons_zero, List.set_cons_succ, i64_w, i32_w]
    rfl
   refine take_ (i := 5) (N := some 52) (v := ?_) (a' := ?_) (bb [6, 1, 1, 9]) rfl rfl (by kernel_rfl) (fun _ _ _ h => h) (Or.inl ⟨by rfl, ?_⟩) hHeld ?_ ?_
   rotate_left
   ·rintro w' ⟨s0, s1, s2, s3⟩
    go_simp
    with_reducible rfl
   rotate_left
   ·simp only [Act.put, List.setIfInBounds_toArray, List.set_cons_zero, List.set_cons_succ, i64_w, i32_w]
    rfl
   refine take_ (i := 6) (N := some 53) (v := ?_) (a' := ?_) (bb [8, 9]) rfl rfl (by kernel_rfl) (fun _ _ _ h => h) (Or.inl ⟨by rfl, ?_⟩) hHeld ?_ ?_
   rotate_left
   ·rintro w' ⟨s0, s1, s2, s3⟩
    go_simp
    with_reducible rfl
   rotate_left
   ·simp only [Act.put, List.setIfInBounds_toArray, List.set_cons_zero, List.set_cons_succ, i64_w, i32_w]
    rfl
   refine pure_ (i := 8) (N := some 55) (v := ?_) (a' := ?_) (bb [9, 8]) rfl rfl (by kernel_rfl) (fun _ _ _ h => h) (Or.inl ⟨by rfl, ?_⟩) ?_ ?_
   rotate_left
   ·intro w'
    go_simp
    with_reducible rfl
   rotate_left
   ·simp only [Act.put, List.setIfInBounds_toArray, List.set_cons_zero, List.set_cons_succ, i64_w, i32_w]
    rfl
   refine one_ (i := 9) (N := some 56) (bb [10, 7]) rfl rfl (by kernel_rfl) (by decide) (fun K hK => ?_)
   refine value_ (w1 := ?_) (v := ?_) (by rfl) rfl ?_ ?_
   rotate_left 2
   ·go_simp
    constructor
    ·rfl
    ·rfl
   refine hK.out _ _ ⟨(FC1 _ (by repeat (first | exact Below.refl _ _ | apply below_alloc | apply below_drew))), (FC2 _ (by repeat (first | exact Below.refl _ _ | apply below_alloc | apply below_drew))), (FC3 _ (by repeat (first | exact Below.refl _ _ | apply below_alloc | apply below_drew))), (FC4 _ (by repeat (first | exact Below.refl _ _ | apply below_alloc | apply below_drew)))⟩ (fun hHeld => ?_)
   clear hK K
   refine norm_ (a' := ?_) ?_ ?_
   rotate_left
   ·show Act.put _ (some 56) _ = _
    simp only [Act.put, List.setIfInBounds_toArray, List.set_cons_zero, List.set_cons_succ, i64_w, i32_w]
    rfl
   refine pure_ (i := 10) (N := some 57) (v := ?_) (a' := ?_) (bb [11, 6]) rfl rfl (by kernel_rfl) (fun _ _ _ h => h) (Or.inl ⟨by rfl, ?_⟩) ?_ ?_
   rotate_left
   ·intro w'
    go_simp
    with_reducible rfl
   rotate_left
   ·simp only [Act.put, List.setIfInBounds_toArray, List.set_cons_zero, List.set_cons_succ, i64_w, i32_w]
    rfl
   refine one_ (i := 11) (N := some 58) (bb [12, 5]) rfl rfl (by kernel_rfl) (by decide) (fun K hK => ?_)
   refine value_ (w1 := ?_) (v := ?_) (by rfl) rfl ?_ ?_
   rotate_left 2
   ·go_simp
    constructor
    ·rfl
    ·rfl
   refine hK.out _ _ ⟨(FC1 _ (by repeat (first | exact Below.refl _ _ | apply below_alloc | apply below_drew))), (FC2 _ (by repeat (first | exact Below.refl _ _ | apply below_alloc | apply below_drew))), (FC3 _ (by repeat (first | exact Below.refl _ _ | apply below_alloc | apply below_drew))), (FC4 _ (by repeat (first | exact Below.refl _ _ | apply below_alloc | apply below_drew)))⟩ (fun hHeld => ?_)
   clear hK K
   refine norm_ (a' := ?_) ?_ ?_
   rotate_left
   ·show Act.put _ (some 58) _ = _
    simp only [Act.put, List.setIfInBounds_toArray, List.set_cons_zero, List.set_cons_succ, i64_w, i32_w]
    rfl
   refine one_ (i := 12) (N := some 59) (bb [13, 4]) rfl rfl (by kernel_rfl) (by decide) (fun K hK => ?_)
   refine value_ (w1 := ?_) (v := ?_) (by rfl) rfl ?_ ?_
   rotate_left 2
   ·go_simp
    constructor
    ·rfl
    ·rfl
   refine hK.out _ _ ⟨(FC1 _ (by repeat (first | exact Below.refl _ _ | apply below_alloc | apply below_drew))), (FC2 _ (by repeat (first | exact Below.refl _ _ | apply below_alloc | apply below_drew))), (FC3 _ (by repeat (first | exact Below.refl _ _ | apply below_alloc | apply below_drew))), (FC4 _ (by repeat (first | exact Below.refl _ _ | apply below_alloc | apply below_drew)))⟩ (fun hHeld => ?_)
   clear hK K
   refine norm_ (a' := ?_) ?_ ?_
   rotate_left
   ·show Act.put _ (some 59) _ = _
    simp only [Act.put, List.setIfInBounds_toArray, List.set_cons_zero, List.set_cons_succ, i64_w, i32_w]
    rfl
   refine one_ (i := 13) (N := some 60) (bb [14, 3]) rfl rfl (by kernel_rfl) (by decide) (fun K hK => ?_)
   refine ld_append (w0 := W0) W0.heap.size (by rfl) (.tmp 51) (.tmp 59) rfl vd (D.map (·.b)) _ rfl (by first | (go_simp; done) | (go_simp; rfl)) (Kd.R_below HROW3.out (by repeat (first | exact Below.refl _ _ | apply below_alloc | apply below_drew))) (below_then HL3.out.bel HL3.out.bel.size (by repeat (first | exact Below.refl _ _ | apply below_alloc | apply below_drew))) (by have := HL3.out.bel.size; simp only [sz_alloc]; exact Nat.le_trans this (by first | exact Nat.le_add_right _ _ | omega)) (by have := HD.out; simp only [List.length_map]; omega) ?_
   intro v11 w11 ho hb11 hg; obtain ⟨A11, c11, rfl⟩ := Kd.R_slice ho; have HO11 := Aside0.mk ho; have HB11 := Aside0.mk hb11; have HG11 := Aside0.mk hg; have HC11 := Aside0.mk (OvIs.push HOV7.out HROW3.out (by repeat (first | exact Below.refl _ _ | apply below_alloc | apply below_drew)) hg); have HS11 : _ ∧ _ ∧ _ ∧ _ := ⟨HC11.out.cells.1, HC11.out.cells.2.2.1, HC11.out.cells.2.2.2.1, HC11.out.cells.2.2.2.2.1⟩; have hfz := blk_frozen HC11.out.hl 1; clear ho hb11 hg
   refine hK.out _ _ ⟨HS11.1, HS11.2.1, HS11.2.2.1, HS11.2.2.2⟩ (fun hHeld => ?_)
   clear hK K
   refine norm_ (a' := ?_) ?_ ?_
   rotate_left
   ·show Act.put _ (some 60) _ = _
    simp only [Act.put, List.setIfInBounds_toArray, List.set_cons_zero, List.set_cons_succ, i64_w, i32_w]
    rfl
   refine pure_ (i := 14) (N := some 61) (v := ?_) (a' := ?_) (bb [15, 2]) rfl rfl (by kernel_rfl) (fun _ _ _ h => h) (Or.inl ⟨by rfl, ?_⟩) ?_ ?_
   rotate_left
   ·intro w'
    go_simp
    with_reducible rfl
   rotate_left
   ·simp only [Act.put, List.setIfInBounds_toArray, List.set_cons_zero, List.set_cons_succ, i64_w, i32_w]
    rfl
   refine pure_ (i := 15) (N := some 62) (v := ?_) (a' := ?_) (bb [16, 1]) rfl rfl (by kernel_rfl) (fun _ _ _ h => h) (Or.inl ⟨by rfl, ?_⟩) ?_ ?_
   rotate_left
   ·intro w'
    go_simp
    with_reducible rfl
   rotate_left
   ·simp only [Act.put, List.setIfInBounds_toArray, List.set_cons_zero, List.set_cons_succ, i64_w, i32_w]
    rfl
   refine last_ (i := 16) (N := none) (bb [17]) rfl rfl (by kernel_rfl) (by decide) (fun K hK => ?_)
   refine skip_ (w1 := ?_) (by rfl) rfl ?_ ?_
   rotate_left
   ·go_simp
    rfl
   refine hK.out _ _ ?_
   clear hK K
   refine done_ (by kernel_rfl) ?_
   have e11 : (D.map (·.b) ++ [w7.heap.size + 1]).length = D.length + 1 := by simp
   have HLF : Aside0 (LexIs W0 (w11.setCell ⟨lx, 1, none⟩ (.slice A11 (D.length + 1) c11)) lx g text r' (D ++ [⟨.opt a n V2, w7.heap.size + 1, w7.heap.size, w7.heap.size⟩])) := ⟨by
    have ho := HO11.out
    rw [e11] at ho
    have h0 := HL3.out.bel.size
    exact LexIs.push HL3.out HOV7.out.hl HROW3.out (by repeat (first | exact Below.refl _ _ | apply below_alloc | apply below_drew)) HG11.out ho HB11.out ⟨new2 w7 _ _, blk_alloc (blk_new w7 _) _⟩ (by simp only; omega) (by simp only; omega) (Nat.le_refl _) (by simp only [sz_alloc]; omega)⟩
   have f1 : (w11.setCell ⟨lx, 1, none⟩ (.slice A11 (D.length + 1) c11)).cell? ⟨c1, 0, none⟩ = some (.pointer (some ⟨lx, 0, none⟩)) := (blk_cell (blk_far HC11.out.h1 (p := ⟨lx, 1, none⟩) (blk_ne HC11.out.h1 HC11.out.hl (by decide)) _) 0).trans rfl
   have f2 : (w11.setCell ⟨lx, 1, none⟩ (.slice A11 (D.length + 1) c11)).cell? ⟨c3, 0, none⟩ = some (.string (sB a)) := (blk_cell (blk_far HC11.out.h3 (p := ⟨lx, 1, none⟩) (blk_ne HC11.out.h3 HC11.out.hl (by decide)) _) 0).trans rfl
   generalize w11.setCell ⟨lx, 1, none⟩ (.slice A11 (D.length + 1) c11) = W' at f1 f2 HLF ⊢
   go_wp2_with (first
    | (go_at_call 95; refine (made_no W0.heap.size lx a _).mono ?_; rintro e w5 ⟨v, rfl, hR5, hb5⟩))
   go_ret2
   refine ⟨.go (.no a) (eol (text.data.toList.drop r)).2.2 [.opt a n V2], ⟨_, by rw [HLN.out]; exact HBL.out, ?_⟩, v, _, r', rfl, hR5, rfl, HLF.out.below hb5, HDR.out, HRS.out⟩
   rw [← HV2.out]
   rw [hm]
   unfold ovOut
   rw [if_pos (by decide)]
 ·go_ret2
  refine StepPost.go (q' := .ov a n (p ++ (ln ++ [10]))) (s' := (eol (text.data.toList.drop r)).2.2) ⟨_, by rw [HLN.out]; exact HBL.out, ?_⟩ hR5 ((HL4.out.put HOV4.out.h2 HC2.out _).below hb5) HDR.out HRS.out
  rw [decide_eq_false (by omega)]
  unfold ovOut
  rw [if_neg (by decide), HLN.out, if_pos hsx, HEB.out, if_neg (by decide), List.append_assoc]
 ·go_ret2
  refine StepPost.go (q' := .ov a n (p ++ ln)) (s' := (eol (text.data.toList.drop r)).2.2) ⟨_, by rw [HLN.out]; exact HBL.out, ?_⟩ hR5 (HL4.out.below hb5) HDR.out HRS.out
  rw [decide_eq_false (by omega)]
  unfold ovOut
  rw [if_neg (by decide), HLN.out, if_pos hsx, HEB.out, if_pos rfl]
 ·have HVL : Aside0 ((p ++ ln).length ≤ 3000000) := ⟨by rw [List.length_append]; have := HP.out; have := HLE.out; omega⟩
  have hadd3 := sB_add (Lib.trimSpaceD (p ++ ln)) [10]
  have hs5 : (9223372036854775807 < (Lib.trimSpaceD (p ++ ln)).length + 1) = False := eq_false (by have := trim_len (p ++ ln); have := HVL.out; omega)
  go_upto_region 14 with (first
   | (go_at_call 127; refine (suf_nl (p ++ ln) _ (by have := HVL.out; omega)).mono ?_; rintro e w5 ⟨rfl, e5⟩; have e5' := e5.symm; subst e5'; by_cases hnl : (p ++ ln).getLast? = some 10 <;> (first | rw [decide_eq_true hnl] | rw [decide_eq_false hnl]))
   | (go_at_call 112; refine (trim_v (p ++ ln) _ (by have := HVL.out; omega) (utab_below HT.out HL4.out.bel)).mono ?_; rintro e w7 ⟨rfl, hb7⟩; have HL7 := Aside0.mk (HL4.out.below hb7); have HOV7 := Aside0.mk (HOV4.out.below hb7); clear hb7)
   | fail)
  all_goals (obtain ⟨V2, hV2⟩ : ∃ V2, valF (p ++ ln) = V2 := ⟨_, rfl⟩)
  all_goals (have hV3 := hV2; unfold valF at hV3; first | rw [if_pos hnl] at hV3 | rw [if_neg hnl] at hV3)
  all_goals (rw [hV3])
  all_goals (clear hV3 hadd3 hs5)
  all_goals (have HV2 := Aside0.mk hV2; clear hV2 hnl)
  all_goals (have HL3 := HL7)
  ·have HROW3 : Aside0 (kA.R 76 w7 W0.heap.size (fun _ => True) vd (D.map (·.b))) := ⟨by
    obtain ⟨vd', hl', hR'⟩ := HL3.out.ob
    have e := HOV7.out.hl
    rw [hl'] at e
    have : vd' = vd := by simpa [lexObj] using e
    rw [← this]
    exact hR'⟩
   have FC1 : ∀ X, Below w7.heap.size w7 X → X.cell? ⟨c1, 0, none⟩ = some (.pointer (some ⟨lx, 0, none⟩)) := fun X hX => (HOV7.out.below hX).cells.1
   have FC2 : ∀ X, Below w7.heap.size w7 X → X.cell? ⟨c3, 0, none⟩ = some (.string (sB a)) := fun X hX => (HOV7.out.below hX).cells.2.2.1
   have FC3 : ∀ X, Below w7.heap.size w7 X → X.cell? ⟨c4, 0, none⟩ = some (.string (sB n)) := fun X hX => (HOV7.out.below hX).cells.2.2.2.1
   have FC4 : ∀ X, Below w7.heap.size w7 X → X.cell? ⟨lx, 1, none⟩ = some vd := fun X hX => (HOV7.out.below hX).cells.2.2.2.2.1
   refine start_ (n := 17) (S := fun w' => w'.cell? ⟨c1, 0, none⟩ = some (.pointer (some ⟨lx, 0, none⟩)) ∧ w'.cell? ⟨c3, 0, none⟩ = some (.string (sB a)) ∧ w'.cell? ⟨c4, 0, none⟩ = some (.string (sB n)) ∧ w'.cell? ⟨lx, 1, none⟩ = some vd) (ds := [16]) (bb [0, 17]) (by kernel_rfl) rfl rfl ⟨(FC1 _ (by repeat (first | exact Below.refl _ _ | apply below_alloc | apply below_drew))), (FC2 _ (by repeat (first | exact Below.refl _ _ | apply below_alloc | apply below_drew))), (FC3 _ (by repeat (first | exact Below.refl _ _ | apply below_alloc | apply below_drew))), (FC4 _ (by repeat (first | exact Below.refl _ _ | apply below_alloc | apply below_drew)))⟩ (fun hHeld => ?_)
   refine pure_ (i := 7) (N := some 54) (v := ?_) (a' := ?_) (bb [0, 7, 1, 9]) rfl rfl (by kernel_rfl) (fun _ _ _ h => h) (Or.inl ⟨by rfl, ?_⟩) ?_ ?_
   rotate_left
   ·intro w'
    go_simp
    with_reducible rfl
   rotate_left
   ·simp only [Act.put, List.setIfInBounds_toArray, List.set_cons_zero, List.set_cons_succ, i64_w, i32_w]
    rfl
   refine take_ (i := 0) (N := some 47) (v := ?_) (a' := ?_) (bb [1, 6, 1, 9]) rfl rfl (by kernel_rfl) (fun _ _ _ h => h) (Or.inl ⟨by rfl, ?_⟩) hHeld ?_ ?_
   rotate_left
   ·rintro w' ⟨s0, s1, s2, s3⟩
    go_simp
    with_reducible rfl
   rotate_left
   ·simp only [Act.put, List.setIfInBounds_toArray, List.set_cons_zero, List.set_cons_succ, i64_w, i32_w]
    rfl
   refine take_ (i := 1) (N := some 48) (v := ?_) (a' := ?_) (bb [2, 5, 1, 9]) rfl rfl (by kernel_rfl) (fun _ _ _ h => h) (Or.inl ⟨by rfl, ?_⟩) hHeld ?_ ?_
   rotate_left
   ·rintro w' ⟨s0, s1, s2, s3⟩
    go_simp
    with_reducible rfl
   rotate_left
   ·simp only [Act.put, List.setIfInBounds_toArray, List.set_cons_zero, List.set_cons_succ, i64_w, i32_w]
    rfl
   refine pure_ (i := 2) (N := some 49) (v := ?_) (a' := ?_) (bb [3, 4, 1, 9]) rfl rfl (by kernel_rfl) (fun _ _ _ h => h) (Or.inl ⟨by rfl, ?_⟩) ?_ ?_
   rotate_left
   ·intro w'
    go_simp
    with_reducible rfl
   rotate_left
   ·simp only [Act.put, List.setIfInBounds_toArray, List.set_cons_zero, List.set_cons_succ, i64_w, i32_w]
    rfl
   refine pure_ (i := 3) (N := some 50) (v := ?_) (a' := ?_) (bb [4, 3, 1, 9]) rfl rfl (by kernel_rfl) (fun _ _ _ h => h) (Or.inl ⟨by rfl, ?_⟩) ?_ ?_
   rotate_left
   ·intro w'
    go_simp
    with_reducible rfl
   rotate_left
   ·simp only [Act.put, List.setIfInBounds_toArray, List.set_cons_zero, List.set_cons_succ, i64_w, i32_w]
    rfl
   refine take_ (i := 4) (N := some 51) (v := ?_) (a' := ?_) (bb [5, 2, 1, 9]) rfl rfl (by kernel_rfl) (fun _ _ _ h => h) (Or.inl ⟨by rfl, ?_⟩) hHeld ?_ ?_
   rotate_left
   ·rintro w' ⟨s0, s1, s2, s3⟩
    go_simp
    with_reducible rfl
   rotate_left
   ·simp only [Act.put, List.setIfInBounds_toArray, List.set_cons_zero, List.set_cons_succ, i64_w, i32_w]
    rfl
   refine take_ (i := 5) (N := some 52) (v := ?_) (a' := ?_) (bb [6, 1, 1, 9]) rfl rfl (by kernel_rfl) (fun _ _ _ h => h) (Or.inl ⟨by rfl, ?_⟩) hHeld ?_ ?_
   rotate_left
   ·rintro w' ⟨s0, s1, s2, s3⟩
    go_simp
    with_reducible rfl
   rotate_left
   ·simp only [Act.put, List.setIfInBounds_toArray, List.set_cons_zero, List.set_cons_succ, i64_w, i32_w]
    rfl
   refine take_ (i := 6) (N := some 53) (v := ?_) (a' := ?_) (bb [8, 9]) rfl rfl (by kernel_rfl) (fun _ _ _ h => h) (Or.inl ⟨by rfl, ?_⟩) hHeld ?_ ?_
   rotate_left
   ·rintro w' ⟨s0, s1, s2, s3⟩
    go_simp
    with_reducible rfl
   rotate_left
   ·simp only [Act.put, List.setIfInBounds_toArray, List.set_cons_zero, List.set_cons_succ, i64_w, i32_w]
    rfl
   refine pure_ (i := 8) (N := some 55) (v := ?_) (a' := ?_) (bb [9, 8]) rfl rfl (by kernel_rfl) (fun _ _ _ h => h) (Or.inl ⟨by rfl, ?_⟩) ?_ ?_
   rotate_left
   ·intro w'
    go_simp
    with_reducible rfl
   rotate_left
   ·simp only [Act.put, List.setIfInBounds_toArray, List.set_cons_zero, List.set_cons_succ, i64_w, i32_w]
    rfl
   refine one_ (i := 9) (N := some 56) (bb [10, 7]) rfl rfl (by kernel_rfl) (by decide) (fun K hK => ?_)
   refine value_ (w1 := ?_) (v := ?_) (by rfl) rfl ?_ ?_
   rotate_left 2
   ·go_simp
    constructor
    ·rfl
    ·rfl
   refine hK.out _ _ ⟨(FC1 _ (by repeat (first | exact Below.refl _ _ | apply below_alloc | apply below_drew))), (FC2 _ (by repeat (first | exact Below.refl _ _ | apply below_alloc | apply below_drew))), (FC3 _ (by repeat (first | exact Below.refl _ _ | apply below_alloc | apply below_drew))), (FC4 _ (by repeat (first | exact Below.refl _ _ | apply below_alloc | apply below_drew)))⟩ (fun hHeld => ?_)
   clear hK K
   refine norm_ (a' := ?_) ?_ ?_
   rotate_left
   ·show Act.put _ (some 56) _ = _
    simp only [Act.put, List.setIfInBounds_toArray, List.set_cons_zero, List.set_cons_succ, i64_w, i32_w]
    rfl
   refine pure_ (i := 10) (N := some 57) (v := ?_) (a' := ?_) (bb [11, 6]) rfl rfl (by kernel_rfl) (fun _ _ _ h => h) (Or.inl ⟨by rfl, ?_⟩) ?_ ?_
   rotate_left
   ·intro w'
    go_simp
    with_reducible rfl
   rotate_left
   ·simp only [Act.put, List.setIfInBounds_toArray, List.set_cons_zero, List.set_cons_succ, i64_w, i32_w]
    rfl
   refine one_ (i := 11) (N := some 58) (bb [12, 5]) rfl rfl (by kernel_rfl) (by decide) (fun K hK => ?_)
   refine value_ (w1 := ?_) (v := ?_) (by rfl) rfl ?_ ?_
   rotate_left 2
   ·go_simp
    constructor
    ·rfl
    ·rfl
   refine hK.out _ _ ⟨(FC1 _ (by repeat (first | exact Below.refl _ _ | apply below_alloc | apply below_drew))), (FC2 _ (by repeat (first | exact Below.refl _ _ | apply below_alloc | apply below_drew))), (FC3 _ (by repeat (first | exact Below.refl _ _ | apply below_alloc | apply below_drew))), (FC4 _ (by repeat (first | exact Below.refl _ _ | apply below_alloc | apply below_drew)))⟩ (fun hHeld => ?_)
   clear hK K
   refine norm_ (a' := ?_) ?_ ?_
   rotate_left
   ·show Act.put _ (some 58) _ = _
    simp only [Act.put, List.setIfInBounds_toArray, List.set_cons_zero, List.set_cons_succ, i64_w, i32_w]
    rfl
   refine one_ (i := 12) (N := some 59) (bb [13, 4]) rfl rfl (by kernel_rfl) (by decide) (fun K hK => ?_)
   refine value_ (w1 := ?_) (v := ?_) (by rfl) rfl ?_ ?_
   rotate_left 2
   ·go_simp
    constructor
    ·rfl
    ·rfl
   refine hK.out _ _ ⟨(FC1 _ (by repeat (first | exact Below.refl _ _ | apply below_alloc | apply below_drew))), (FC2 _ (by repeat (first | exact Below.refl _ _ | apply below_alloc | apply below_drew))), (FC3 _ (by repeat (first | exact Below.refl _ _ | apply below_alloc | apply below_drew))), (FC4 _ (by repeat (first | exact Below.refl _ _ | apply below_alloc | apply below_drew)))⟩ (fun hHeld => ?_)
   clear hK K
   refine norm_ (a' := ?_) ?_ ?_
   rotate_left
   ·show Act.put _ (some 59) _ = _
    simp only [Act.put, List.setIfInBounds_toArray, List.set_cons_zero, List.set_cons_succ, i64_w, i32_w]
    rfl
   refine one_ (i := 13) (N := some 60) (bb [14, 3]) rfl rfl (by kernel_rfl) (by decide) (fun K hK => ?_)
   refine ld_append (w0 := W0) W0.heap.size (by rfl) (.tmp 51) (.tmp 59) rfl vd (D.map (·.b)) _ rfl (by first | (go_simp; done) | (go_simp; rfl)) (Kd.R_below HROW3.out (by repeat (first | exact Below.refl _ _ | apply below_alloc | apply below_drew))) (below_then HL3.out.bel HL3.out.bel.size (by repeat (first | exact Below.refl _ _ | apply below_alloc | apply below_drew))) (by have := HL3.out.bel.size; simp only [sz_alloc]; exact Nat.le_trans this (by first | exact Nat.le_add_right _ _ | omega)) (by have := HD.out; simp only [List.length_map]; omega) ?_
   intro v11 w11 ho hb11 hg; obtain ⟨A11, c11, rfl⟩ := Kd.R_slice ho; have HO11 := Aside0.mk ho; have HB11 := Aside0.mk hb11; have HG11 := Aside0.mk hg; have HC11 := Aside0.mk (OvIs.push HOV7.out HROW3.out (by repeat (first | exact Below.refl _ _ | apply below_alloc | apply below_drew)) hg); have HS11 : _ ∧ _ ∧ _ ∧ _ := ⟨HC11.out.cells.1, HC11.out.cells.2.2.1, HC11.out.cells.2.2.2.1, HC11.out.cells.2.2.2.2.1⟩; have hfz := blk_frozen HC11.out.hl 1; clear ho hb11 hg
   refine hK.out _ _ ⟨HS11.1, HS11.2.1, HS11.2.2.1, HS11.2.2.2⟩ (fun hHeld => ?_)
   clear hK K
   refine norm_ (a' := ?_) ?_ ?_
   rotate_left
   ·show Act.put _ (some 60) _ = _
    simp only [Act.put, List.setIfInBounds_toArray, List.set_cons_zero, List.set_cons_succ, i64_w, i32_w]
    rfl
   refine pure_ (i := 14) (N := some 61) (v := ?_) (a' := ?_) (bb [15, 2]) rfl rfl (by kernel_rfl) (fun _ _ _ h => h) (Or.inl ⟨by rfl, ?_⟩) ?_ ?_
   rotate_left
   ·intro w'
    go_simp
    with_reducible rfl
   rotate_left
   ·simp only [Act.put, List.setIfInBounds_toArray, List.set_cons_zero, List.set_cons_succ, i64_w, i32_w]
    rfl
   refine pure_ (i := 15) (N := some 62) (v := ?_) (a' := ?_) (bb [16, 1]) rfl rfl (by kernel_rfl) (fun _ _ _ h => h) (Or.inl ⟨by rfl, ?_⟩) ?_ ?_
   rotate_left
   ·intro w'
    go_simp
    with_reducible rfl
   rotate_left
   ·simp only [Act.put, List.setIfInBounds_toArray, List.set_cons_zero, List.set_cons_succ, i64_w, i32_w]
    rfl
   refine last_ (i := 16) (N := none) (bb [17]) rfl rfl (by kernel_rfl) (by decide) (fun K hK => ?_)
   refine skip_ (w1 := ?_) (by rfl) rfl ?_ ?_
   rotate_left
   ·go_simp
    rfl
   refine hK.out _ _ ?_
   clear hK K
   refine done_ (by kernel_rfl) ?_
   have e11 : (D.map (·.b) ++ [w7.heap.size + 1]).length = D.length + 1 := by simp
   have HLF : Aside0 (LexIs W0 (w11.setCell ⟨lx, 1, none⟩ (.slice A11 (D.length + 1) c11)) lx g text r' (D ++ [⟨.opt a n V2, w7.heap.size + 1, w7.heap.size, w7.heap.size⟩])) := ⟨by
    have ho := HO11.out
    rw [e11] at ho
    have h0 := HL3.out.bel.size
    exact LexIs.push HL3.out HOV7.out.hl HROW3.out (by repeat (first | exact Below.refl _ _ | apply below_alloc | apply below_drew)) HG11.out ho HB11.out ⟨new2 w7 _ _, blk_alloc (blk_new w7 _) _⟩ (by simp only; omega) (by simp only; omega) (Nat.le_refl _) (by simp only [sz_alloc]; omega)⟩
   have f1 : (w11.setCell ⟨lx, 1, none⟩ (.slice A11 (D.length + 1) c11)).cell? ⟨c1, 0, none⟩ = some (.pointer (some ⟨lx, 0, none⟩)) := (blk_cell (blk_far HC11.out.h1 (p := ⟨lx, 1, none⟩) (blk_ne HC11.out.h1 HC11.out.hl (by decide)) _) 0).trans rfl
   have f2 : (w11.setCell ⟨lx, 1, none⟩ (.slice A11 (D.length + 1) c11)).cell? ⟨c3, 0, none⟩ = some (.string (sB a)) := (blk_cell (blk_far HC11.out.h3 (p := ⟨lx, 1, none⟩) (blk_ne HC11.out.h3 HC11.out.hl (by decide)) _) 0).trans rfl
   generalize w11.setCell ⟨lx, 1, none⟩ (.slice A11 (D.length + 1) c11) = W' at f1 f2 HLF ⊢
   go_wp2_with (first
    | (go_at_call 95; refine (made_no W0.heap.size lx a _).mono ?_; rintro e w5 ⟨v, rfl, hR5, hb5⟩))
   go_ret2
   refine ⟨.go (.no a) (eol (text.data.toList.drop r)).2.2 [.opt a n V2], ⟨_, by rw [HLN.out]; exact HBL.out, ?_⟩, v, _, r', rfl, hR5, rfl, HLF.out.below hb5, HDR.out, HRS.out⟩
   rw [← HV2.out]
   rw [decide_eq_false (by omega)]
   unfold ovOut
   rw [if_neg (by decide), HLN.out, if_neg hsx]
  ·have HROW3 : Aside0 (kA.R 76 w7 W0.heap.size (fun _ => True) vd (D.map (·.b))) := ⟨by
    obtain ⟨vd', hl', hR'⟩ := HL3.out.ob
    have e := HOV7.out.hl
    rw [hl'] at e
    have : vd' = vd := by simpa [lexObj] using e
    rw [← this]
    exact hR'⟩
   have FC1 : ∀ X, Below w7.heap.size w7 X → X.cell? ⟨c1, 0, none⟩ = some (.pointer (some ⟨lx, 0, none⟩)) := fun X hX => (HOV7.out.below hX).cells.1
   have FC2 : ∀ X, Below w7.heap.size w7 X → X.cell? ⟨c3, 0, none⟩ = some (.string (sB a)) := fun X hX => (HOV7.out.below hX).cells.2.2.1
   have FC3 : ∀ X, Below w7.heap.size w7 X → X.cell? ⟨c4, 0, none⟩ = some (.string (sB n)) := fun X hX => (HOV7.out.below hX).cells.2.2.2.1
   have FC4 : ∀ X, Below w7.heap.size w7 X → X.cell? ⟨lx, 1, none⟩ = some vd := fun X hX => (HOV7.out.below hX).cells.2.2.2.2.1
   refine start_ (n := 17) (S := fun w' => w'.cell? ⟨c1, 0, none⟩ = some (.pointer (some ⟨lx, 0, none⟩)) ∧ w'.cell? ⟨c3, 0, none⟩ = some (.string (sB a)) ∧ w'.cell? ⟨c4, 0, none⟩ = some (.string (sB n)) ∧ w'.cell? ⟨lx, 1, none⟩ = some vd) (ds := [16]) (bb [0, 17]) (by kernel_rfl) rfl rfl ⟨(FC1 _ (by repeat (first | exact Below.refl _ _ | apply below_alloc | apply below_drew))), (FC2 _ (by repeat (first | exact Below.refl _ _ | apply below_alloc | apply below_drew))), (FC3 _ (by repeat (first | exact Below.refl _ _ | apply below_alloc | apply below_drew))), (FC4 _ (by repeat (first | exact Below.refl _ _ | apply below_alloc | apply below_drew)))⟩ (fun hHeld => ?_)
   refine pure_ (i := 7) (N := some 54) (v := ?_) (a' := ?_) (bb [0, 7, 1, 9]) rfl rfl (by kernel_rfl) (fun _ _ _ h => h) (Or.inl ⟨by rfl, ?_⟩) ?_ ?_
   rotate_left
   ·intro w'
    go_simp
    with_reducible rfl
   rotate_left
   ·simp only [Act.put, List.setIfInBounds_toArray, List.set_cons_zero, List.set_cons_succ, i64_w, i32_w]
    rfl
   refine take_ (i := 0) (N := some 47) (v := ?_) (a' := ?_) (bb [1, 6, 1, 9]) rfl rfl (by kernel_rfl) (fun _ _ _ h => h) (Or.inl ⟨by rfl, ?_⟩) hHeld ?_ ?_
   rotate_left
   ·rintro w' ⟨s0, s1, s2, s3⟩
    go_simp
    with_reducible rfl
   rotate_left
   ·simp only [Act.put, List.setIfInBounds_toArray, List.set_cons_zero, List.set_cons_succ, i64_w, i32_w]
    rfl
   refine take_ (i := 1) (N := some 48) (v := ?_) (a' := ?_) (bb [2, 5, 1, 9]) rfl rfl (by kernel_rfl) (fun _ _ _ h => h) (Or.inl ⟨by rfl, ?_⟩) hHeld ?_ ?_
   rotate_left
   ·rintro w' ⟨s0, s1, s2, s3⟩
    go_simp
    with_reducible rfl
   rotate_left
   ·simp only [Act.put, List.setIfInBounds_toArray, List.set_cons_zero, List.set_cons_succ, i64_w, i32_w]
    rfl
   refine pure_ (i := 2) (N := some 49) (v := ?_) (a' := ?_) (bb [3, 4, 1, 9]) rfl rfl (by kernel_rfl) (fun _ _ _ h => h) (Or.inl ⟨by rfl, ?_⟩) ?_ ?_
   rotate_left
   ·intro w'
    go_simp
    with_reducible rfl
   rotate_left
   ·simp only [Act.put, List.setIfInBounds_toArray, List.set_cons_zero, List.set_cons_succ, i64_w, i32_w]
    rfl
   refine pure_ (i := 3) (N := some 50) (v := ?_) (a' := ?_) (bb [4, 3, 1, 9]) rfl rfl (by kernel_rfl) (fun _ _ _ h => h) (Or.inl ⟨by rfl, ?_⟩) ?_ ?_
   rotate_left
   ·intro w'
    go_simp
    with_reducible rfl
   rotate_left
   ·simp only [Act.put, List.setIfInBounds_toArray, List.set_cons_zero, List.set_cons_succ, i64_w, i32_w]
    rfl
   refine take_ (i := 4) (N := some 51) (v := ?_) (a' := ?_) (bb [5, 2, 1, 9]) rfl rfl (by kernel_rfl) (fun _ _ _ h => h) (Or.inl ⟨by rfl, ?_⟩) hHeld ?_ ?_
   rotate_left
   ·rintro w' ⟨s0, s1, s2, s3⟩
    go_simp
    with_reducible rfl
   rotate_left
   ·simp only [Act.put, List.setIfInBounds_toArray, List.set_cons_zero, List.set_cons_succ, i64_w, i32_w]
    rfl
   refine take_ (i := 5) (N := some 52) (v := ?_) (a' := ?_) (bb [6, 1, 1, 9]) rfl rfl (by kernel_rfl) (fun _ _ _ h => h) (Or.inl ⟨by rfl, ?_⟩) hHeld ?_ ?_
   rotate_left
   ·rintro w' ⟨s0, s1, s2, s3⟩
    go_simp
    with_reducible rfl
   rotate_left
   ·simp only [Act.put, List.setIfInBounds_toArray, List.set_cons_zero, List.set_cons_succ, i64_w, i32_w]
    rfl
   refine take_ (i := 6) (N := some 53) (v := ?_) (a' := ?_) (bb [8, 9]) rfl rfl (by kernel_rfl) (fun _ _ _ h => h) (Or.inl ⟨by rfl, ?_⟩) hHeld ?_ ?_
   rotate_left
   ·rintro w' ⟨s0, s1, s2, s3⟩
    go_simp
    with_reducible rfl
   rotate_left
   ·simp only [Act.put, List.setIfInBounds_toArray, List.set_cons_zero, List.set_cons_succ, i64_w, i32_w]
    rfl
   refine pure_ (i := 8) (N := some 55) (v := ?_) (a' := ?_) (bb [9, 8]) rfl rfl (by kernel_rfl) (fun _ _ _ h => h) (Or.inl ⟨by rfl, ?_⟩) ?_ ?_
   rotate_left
   ·intro w'
    go_simp
    with_reducible rfl
   rotate_left
   ·simp only [Act.put, List.setIfInBounds_toArray, List.set_cons_zero, List.set_cons_succ, i64_w, i32_w]
    rfl
   refine one_ (i := 9) (N := some 56) (bb [10, 7]) rfl rfl (by kernel_rfl) (by decide) (fun K hK => ?_)
   refine value_ (w1 := ?_) (v := ?_) (by rfl) rfl ?_ ?_
   rotate_left 2
   ·go_simp
    constructor
    ·rfl
    ·rfl
   refine hK.out _ _ ⟨(FC1 _ (by repeat (first | exact Below.refl _ _ | apply below_alloc | apply below_drew))), (FC2 _ (by repeat (first | exact Below.refl _ _ | apply below_alloc | apply below_drew))), (FC3 _ (by repeat (first | exact Below.refl _ _ | apply below_alloc | apply below_drew))), (FC4 _ (by repeat (first | exact Below.refl _ _ | apply below_alloc | apply below_drew)))⟩ (fun hHeld => ?_)
   clear hK K
   refine norm_ (a' := ?_) ?_ ?_
   rotate_left
   ·show Act.put _ (some 56) _ = _
    simp only [Act.put, List.setIfInBounds_toArray, List.set_cons_zero, List.set_cons_succ, i64_w, i32_w]
    rfl
   refine pure_ (i := 10) (N := some 57) (v := ?_) (a' := ?_) (bb [11, 6]) rfl rfl (by kernel_rfl) (fun _ _ _ h => h) (Or.inl ⟨by rfl, ?_⟩) ?_ ?_
   rotate_left
   ·intro w'
    go_simp
    with_reducible rfl
   rotate_left
   ·simp only [Act.put, List.setIfInBounds_toArray, List.set_cons_zero, List.set_cons_succ, i64_w, i32_w]
    rfl
   refine one_ (i := 11) (N := some 58) (bb [12, 5]) rfl rfl (by kernel_rfl) (by decide) (fun K hK => ?_)
   refine value_ (w1 := ?_) (v := ?_) (by rfl) rfl ?_ ?_
   rotate_left 2
   ·go_simp
    constructor
    ·rfl
    ·rfl
   refine hK.out _ _ ⟨(FC1 _ (by repeat (first | exact Below.refl _ _ | apply below_alloc | apply below_drew))), (FC2 _ (by repeat (first | exact Below.refl _ _ | apply below_alloc | apply below_drew))), (FC3 _ (by repeat (first | exact Below.refl _ _ | apply below_alloc | apply below_drew))), (FC4 _ (by repeat (first | exact Below.refl _ _ | apply below_alloc | apply below_drew)))⟩ (fun hHeld => ?_)
   clear hK K
   refine norm_ (a' := ?_) ?_ ?_
   rotate_left
   ·show Act.put _ (some 58) _ = _
    simp only [Act.put, List.setIfInBounds_toArray, List.set_cons_zero, List.set_cons_succ, i64_w, i32_w]
    rfl
   refine one_ (i := 12) (N := some 59) (bb [13, 4]) rfl rfl (by kernel_rfl) (by decide) (fun K hK => ?_)
   refine value_ (w1 := ?_) (v := ?_) (by rfl) rfl ?_ ?_
   rotate_left 2
   ·go_simp
    constructor
    ·rfl
    ·rfl
   refine hK.out _ _ ⟨(FC1 _ (by repeat (first | exact Below.refl _ _ | apply below_alloc | apply below_drew))), (FC2 _ (by repeat (first | exact Below.refl _ _ | apply below_alloc | apply below_drew))), (FC3 _ (by repeat (first | exact Below.refl _ _ | apply below_alloc | apply below_drew))), (FC4 _ (by repeat (first | exact Below.refl _ _ | apply below_alloc | apply below_drew)))⟩ (fun hHeld => ?_)
   clear hK K
   refine norm_ (a' := ?_) ?_ ?_
   rotate_left
   ·show Act.put _ (some 59) _ = _
    simp only [Act.put, List.setIfInBounds_toArray, List.set_cons_zero, List.set_cons_succ, i64_w, i32_w]
    rfl
   refine one_ (i := 13) (N := some 60) (bb [14, 3]) rfl rfl (by kernel_rfl) (by decide) (fun K hK => ?_)
   refine ld_append (w0 := W0) W0.heap.size (by rfl) (.tmp 51) (.tmp 59) rfl vd (D.map (·.b)) _ rfl (by first | (go_simp; done) | (go_simp; rfl)) (Kd.R_below HROW3.out (by repeat (first | exact Below.refl _ _ | apply below_alloc | apply below_drew))) (below_then HL3.out.bel HL3.out.bel.size (by repeat (first | exact Below.refl _ _ | apply below_alloc | apply below_drew))) (by have := HL3.out.bel.size; simp only [sz_alloc]; exact Nat.le_trans this (by first | exact Nat.le_add_right _ _ | omega)) (by have := HD.out; simp only [List.length_map]; omega) ?_
   intro v11 w11 ho hb11 hg; obtain ⟨A11, c11, rfl⟩ := Kd.R_slice ho; have HO11 := Aside0.mk ho; have HB11 := Aside0.mk hb11; have HG11 := Aside0.mk hg; have HC11 := Aside0.mk (OvIs.push HOV7.out HROW3.out (by repeat (first | exact Below.refl _ _ | apply below_alloc | apply below_drew)) hg); have HS11 : _ ∧ _ ∧ _ ∧ _ := ⟨HC11.out.cells.1, HC11.out.cells.2.2.1, HC11.out.cells.2.2.2.1, HC11.out.cells.2.2.2.2.1⟩; have hfz := blk_frozen HC11.out.hl 1; clear ho hb11 hg
   refine hK.out _ _ ⟨HS11.1, HS11.2.1, HS11.2.2.1, HS11.2.2.2⟩ (fun hHeld => ?_)
   clear hK K
   refine norm_ (a' := ?_) ?_ ?_
   rotate_left
   ·show Act.put _ (some 60) _ = _
    simp only [Act.put, List.setIfInBounds_toArray, List.set_cons_zero, List.set_cons_succ, i64_w, i32_w]
    rfl
   refine pure_ (i := 14) (N := some 61) (v := ?_) (a' := ?_) (bb [15, 2]) rfl rfl (by kernel_rfl) (fun _ _ _ h => h) (Or.inl ⟨by rfl, ?_⟩) ?_ ?_
   rotate_left
   ·intro w'
    go_simp
    with_reducible rfl
   rotate_left
   ·simp only [Act.put, List.setIfInBounds_toArray, List.set_cons_zero, List.set_cons_succ, i64_w, i32_w]
    rfl
   refine pure_ (i := 15) (N := some 62) (v := ?_) (a' := ?_) (bb [16, 1]) rfl rfl (by kernel_rfl) (fun _ _ _ h => h) (Or.inl ⟨by rfl, ?_⟩) ?_ ?_
   rotate_left
   ·intro w'
    go_simp
    with_reducible rfl
   rotate_left
   ·simp only [Act.put, List.setIfInBounds_toArray, List.set_cons_zero, List.set_cons_succ, i64_w, i32_w]
    rfl
   refine last_ (i := 16) (N := none) (bb [17]) rfl rfl (by kernel_rfl) (by decide) (fun K hK => ?_)
   refine skip_ (w1 := ?_) (by rfl) rfl ?_ ?_
   rotate_left
   ·go_simp
    rfl
   refine hK.out _ _ ?_
   clear hK K
   refine done_ (by kernel_rfl) ?_
   have e11 : (D.map (·.b) ++ [w7.heap.size + 1]).length = D.length + 1 := by simp
   have HLF : Aside0 (LexIs W0 (w11.setCell ⟨lx, 1, none⟩ (.slice A11 (D.length + 1) c11)) lx g text r' (D ++ [⟨.opt a n V2, w7.heap.size + 1, w7.heap.size, w7.heap.size⟩])) := ⟨by
    have ho := HO11.out
    rw [e11] at ho
    have h0 := HL3.out.bel.size
    exact LexIs.push HL3.out HOV7.out.hl HROW3.out (by repeat (first | exact Below.refl _ _ | apply below_alloc | apply below_drew)) HG11.out ho HB11.out ⟨new2 w7 _ _, blk_alloc (blk_new w7 _) _⟩ (by simp only; omega) (by simp only; omega) (Nat.le_refl _) (by simp only [sz_alloc]; omega)⟩
   have f1 : (w11.setCell ⟨lx, 1, none⟩ (.slice A11 (D.length + 1) c11)).cell? ⟨c1, 0, none⟩ = some (.pointer (some ⟨lx, 0, none⟩)) := (blk_cell (blk_far HC11.out.h1 (p := ⟨lx, 1, none⟩) (blk_ne HC11.out.h1 HC11.out.hl (by decide)) _) 0).trans rfl
   have f2 : (w11.setCell ⟨lx, 1, none⟩ (.slice A11 (D.length + 1) c11)).cell? ⟨c3, 0, none⟩ = some (.string (sB a)) := (blk_cell (blk_far HC11.out.h3 (p := ⟨lx, 1, none⟩) (blk_ne HC11.out.h3 HC11.out.hl (by decide)) _) 0).trans rfl
   generalize w11.setCell ⟨lx, 1, none⟩ (.slice A11 (D.length + 1) c11) = W' at f1 f2 HLF ⊢
   go_wp2_with (first
    | (go_at_call 95; refine (made_no W0.heap.size lx a _).mono ?_; rintro e w5 ⟨v, rfl, hR5, hb5⟩))
   go_ret2
   refine ⟨.go (.no a) (eol (text.data.toList.drop r)).2.2 [.opt a n V2], ⟨_, by rw [HLN.out]; exact HBL.out, ?_⟩, v, _, r', rfl, hR5, rfl, HLF.out.below hb5, HDR.out, HRS.out⟩
   rw [← HV2.out]
   rw [decide_eq_false (by omega)]
   unfold ovOut
   rw [if_neg (by decide), HLN.out, if_neg hsx]
end Go.Proofs.YtgnfapnnbcafbaaDoor.UN
end
section
/- The buffer's Peek where it holds enough; a line feed among bytes. Conditions: as they say. -/
namespace Go.Proofs.YtgnfapnnbcafbaaDoor.UN
open Go Go.RowKit Go.Proofs.YtgnfapnnbcafbaaDoorW.PrintWords Go.Proofs.YtgnfapnnbcafbaaDoorW
set_option linter.unusedVariables false
set_option linter.unusedSimpArgs false
set_option maxHeartbeats 4000000 in
set_option maxRecDepth 100000 in
theorem newline_call (b c : Nat) (l : Bs) (W : World) (hl : l.length ≤ 1000000) (h : BAt W b 0 l) :
  Calls Tryd.prog 65 #[.slice (some ⟨b, 0, none⟩) l.length c] W fun e w' => e = .returned (.bool (l.any nl)) ∧ w' = W := by
 have HB := Aside0.mk h
 have HLL := Aside0.mk hl
 clear h hl
 go_enter Tryd.func65, Tryd.ntmps65
 go_wp2
 go_loopg [7] (l.length + 1) (fun kq v7 w' => ∃ i : Nat, v7 = .int .i64 (i : Int) ∧ Aside0 (i ≤ l.length) ∧ Aside0 (l.length - i < kq) ∧ Aside0 (∀ x ∈ l.take i, nl x = false) ∧ w' = W)
 case atStart => exact ⟨0, rfl, ⟨Nat.zero_le _⟩, ⟨by omega⟩, ⟨fun x hx => by simp at hx⟩, rfl⟩
 case round =>
  obtain ⟨i, rfl, HI, HM, HN, e0⟩ := hrel
  subst e0
  by_cases hi : i < l.length
  ·have d0 : decide ((i : Int) < (l.length : Int)) = true := decide_eq_true (by omega)
   have c0 := HB.out i hi
   rw [Nat.zero_add] at c0
   obtain ⟨x, hx⟩ : ∃ x, l.getD i 0 = x := ⟨_, rfl⟩
   have hx2 : l[i]'hi = x := by rw [← hx, List.getD_eq_getElem?_getD, List.getElem?_eq_getElem hi]; rfl
   rw [hx] at c0
   have p0 : ((0 : Int) ≤ (i : Int)) = True := eq_true (by omega)
   have p1 : ((i : Int) < (l.length : Int)) = True := eq_true (by omega)
   have e2 : IntKind.i64.wrap ((i : Int) + 1) = (i : Int) + 1 := by have := HLL.out; rw [PrintLast.i64_w]; unfold wrap64; omega
   have HI2 := Aside0.mk hi
   have HX := Aside0.mk (show l[i]? = some x by rw [List.getElem?_eq_getElem hi, hx2])
   clear hx hx2 hi
   by_cases h1 : x = 10
   ·have t0 : ((x.toNat : Int) == 10) = true := by rw [h1]; rfl
    go_wp2
    go_ret
    refine ⟨?_, rfl⟩
    have : l.any nl = true := List.any_eq_true.2 ⟨x, List.mem_of_getElem? HX.out, by rw [h1]; rfl⟩
    rw [this]
    rfl
   ·have t0 : ((x.toNat : Int) == 10) = false := beq_eq_false_iff_ne.mpr (fun e => h1 (UInt8.toNat_inj.1 (by show x.toNat = 10; omega)))
    by_cases h2 : x = 13
    ·have t1 : ((x.toNat : Int) == 13) = true := by rw [h2]; rfl
     go_wp2
     go_ret
     refine ⟨?_, rfl⟩
     have : l.any nl = true := List.any_eq_true.2 ⟨x, List.mem_of_getElem? HX.out, by rw [h2]; rfl⟩
     rw [this]
     rfl
    ·have t1 : ((x.toNat : Int) == 13) = false := beq_eq_false_iff_ne.mpr (fun e => h2 (UInt8.toNat_inj.1 (by show x.toNat = 13; omega)))
     go_wp2
     go_roundg (gk - 1)
     case measure => have := HM.out; have := HI2.out; omega
     case rel =>
      refine ⟨i + 1, by rw [Int.natCast_add]; rfl, ⟨by have := HI2.out; omega⟩, ⟨by have := HM.out; have := HI2.out; omega⟩, ⟨fun y hy => ?_⟩, rfl⟩
      rw [List.take_add_one, HX.out] at hy
      rcases List.mem_append.1 hy with hy | hy
      ·exact HN.out y hy
      ·simp at hy
       rw [hy]
       unfold nl
       simp [h1, h2]
  ·have d0 : decide ((i : Int) < (l.length : Int)) = false := decide_eq_false (by omega)
   have d0' : decide (i < l.length) = false := decide_eq_false hi
   have HIE := Aside0.mk (show i = l.length by have := HI.out; omega)
   clear hi
   go_wp2
   go_ret
   refine ⟨?_, rfl⟩
   have : l.any nl = false := by
    rw [List.any_eq_false]
    intro x hx
    have := HN.out x (by rw [HIE.out, List.take_length]; exact hx)
    simp [this]
   rw [this]
   rfl
set_option maxHeartbeats 4000000 in
set_option maxRecDepth 100000 in
theorem peek_call (g : Nat) (text : ByteArray) (r w : Nat) (l : Int) (d : Bool) (W : World) (hb : W.heap[g]? = some (bufObj text r w l d)) (h1 : r + 2048 ≤ w) (h2 : w ≤ text.size) (hsz : text.size ≤ 1000000) :
  Calls Tryd.prog 64 #[.pointer (some ⟨g, 0, none⟩), .int .i64 2048] W fun e w' => ∃ (bk cap : Nat), e = .returned (.tuple #[.slice (some ⟨bk, 0, none⟩) 2048 cap, .nilIface]) ∧ BAt w' bk 0 ((text.data.toList.drop r).take 2048) ∧ Below W.heap.size W w' := by
 have hconv := fun (W : World) (s : ByteArray) => Lib.run_convert_string_bytes (P := Tryd.prog) W 9 37 5 s Tryd.underlying9 Tryd.underlying37 Tryd.underlying5
 have HCV := Aside0.mk hconv
 have HS := Aside0.mk hsz
 have HBK := Aside0.mk hb
 have H1 := Aside0.mk h1
 have H2 := Aside0.mk h2
 have c0 : W.cell? ⟨g, 0, none⟩ = some (.string text) := (blk_cell hb 0).trans rfl
 have c1 : W.cell? ⟨g, 1, none⟩ = some (.int .i64 r) := (blk_cell hb 1).trans rfl
 have c2 : W.cell? ⟨g, 2, none⟩ = some (.int .i64 w) := (blk_cell hb 2).trans rfl
 have c4 : W.cell? ⟨g, 4, none⟩ = some (.bool d) := (blk_cell hb 4).trans rfl
 have e5 : IntKind.i64.wrap ((w : Int) - (r : Int)) = (w : Int) - (r : Int) := by rw [PrintLast.i64_w]; unfold wrap64; omega
 have d0 : decide ((w : Int) - (r : Int) < 2048) = false := decide_eq_false (by omega)
 have e6 : IntKind.i64.wrap ((r : Int) + 2048) = (r : Int) + 2048 := by rw [PrintLast.i64_w]; unfold wrap64; omega
 clear hsz hb h1 h2 hconv
 go_enter Tryd.func64, Tryd.ntmps64
 go_wp2
 refine wp_loop_rounds 1 ?_
 rw [rounds_succ]
 go_wp2
 go_quiet (fail)
 generalize hY : W.drewN nq = Y
 have HY := Aside0.mk (show Y.heap[g]? = some (bufObj text r w l d) by rw [← hY]; exact HBK.out)
 have HBY := Aside0.mk (show Below W.heap.size W Y by rw [← hY]; exact pw_below_drewN (Below.refl _ _) nq)
 clear hY c0 c1 c2 c4
 have y1 : Y.cell? ⟨g, 1, none⟩ = some (.int .i64 r) := (blk_cell HY.out 1).trans rfl
 have y2 : Y.cell? ⟨g, 2, none⟩ = some (.int .i64 w) := (blk_cell HY.out 2).trans rfl
 go_wp2
 go_quiet (fail)
 generalize hV : Y.drewN nq = V
 have HV := Aside0.mk (show V.heap[g]? = some (bufObj text r w l d) by rw [← hV]; exact HY.out)
 have HBV := Aside0.mk (show Below W.heap.size W V by rw [← hV]; exact pw_below_drewN HBY.out nq)
 clear hV y1 y2
 go_wp2
 have v0 : V.cell? ⟨g, 0, none⟩ = some (.string text) := (blk_cell HV.out 0).trans rfl
 have v1 : V.cell? ⟨g, 1, none⟩ = some (.int .i64 r) := (blk_cell HV.out 1).trans rfl
 have hcv := HCV.out
 have q0 : ((0 : Int) ≤ (r : Int)) = True := eq_true (by omega)
 have q1 : ((r : Int) ≤ (r : Int) + 2048) = True := eq_true (by omega)
 have q2 : ((r : Int) + 2048 ≤ (text.size : Int)) = True := eq_true (by have := H1.out; have := H2.out; omega)
 have hti : ((r : Int) + 2048).toNat = r + 2048 := by omega
 go_region
 go_wp2
 have hlen : (text.extract r (r + 2048)).data.toList.length = 2048 := by rw [Array.length_toList]; exact (ByteArray.size_extract).trans (by have := H1.out; have := H2.out; omega)
 have hbw := bytes_below (below_drew (Below.refl V.heap.size V)) (Nat.le_refl _) 5 (text.extract r (r + 2048))
 go_ret2
 have hm : min (r + 2048) text.size - r = 2048 := by have := H1.out; have := H2.out; omega
 refine ⟨V.heap.size, grownCap V.drew (min (r + 2048) text.size - r) 0 5, congrArg (fun n => Ending.returned (.tuple #[.slice (some ⟨V.heap.size, 0, none⟩) n (grownCap V.drew (min (r + 2048) text.size - r) 0 5), .nilIface])) hm, ?_, below_then HBV.out HBV.out.size hbw⟩
 have := conv_bat V.drew (text.extract r (r + 2048))
 rw [ext_list, Nat.add_sub_cancel_left] at this
 exact this
theorem newline_at (b c n : Nat) (l : Bs) (W : World) (hn : l.length = n) (hl : n ≤ 1000000) (h : BAt W b 0 l) :
  Calls Tryd.prog 65 #[.slice (some ⟨b, 0, none⟩) n c] W fun e w' => e = .returned (.bool (l.any nl)) ∧ w' = W := by
 subst hn
 exact newline_call b c l W hl h
end Go.Proofs.YtgnfapnnbcafbaaDoor.UN
end
section
/- The lexer's loop. Conditions: a text of at most a million bytes; the library's tables as laid; Wp. -/
namespace Go.Proofs.YtgnfapnnbcafbaaDoor.UN
open Go Go.RowKit Go.Proofs.YtgnfapnnbcafbaaDoorW.PrintWords Go.Proofs.YtgnfapnnbcafbaaDoorW
set_option linter.unusedVariables false
set_option linter.unusedSimpArgs false
theorem step_all (W0 W : World) (lx g r T : Nat) (q : K) (v : Value) (text : ByteArray) (D : List Ent) (hT : UTab W0) (hRC : RuneC text) (hN : need TrimC q (text.data.toList.drop r)) (hL : LexIs W0 W lx g text r D) (hsz : text.size ≤ 1000000) (hr : r ≤ text.size) (hD : D.length ≤ 10000000) (hS : SzK T q (text.data.toList.drop r)) (hTT : T ≤ 1000000) (hR : Rep W0.heap.size lx q W v) :
  (v = .func (.func 62) #[.pointer (some ⟨lx, 0, none⟩)] #[] ∧ ∀ W', Below W.heap.size W W' → Calls Tryd.prog 62 #[.pointer (some ⟨lx, 0, none⟩)] W' (StepPost W0 lx g text D q (text.data.toList.drop r))) ∨
  (v = .func (.func 75) #[.pointer (some ⟨lx, 0, none⟩)] #[] ∧ ∀ W', Below W.heap.size W W' → Calls Tryd.prog 75 #[.pointer (some ⟨lx, 0, none⟩)] W' (StepPost W0 lx g text D q (text.data.toList.drop r))) ∨
  (∃ c1 c2, v = .func (.func 93) #[] #[.pointer (some ⟨c1, 0, none⟩), .pointer (some ⟨c2, 0, none⟩)] ∧ ∀ W', Below W.heap.size W W' → Calls Tryd.prog 93 #[.pointer (some ⟨c1, 0, none⟩), .pointer (some ⟨c2, 0, none⟩)] W' (StepPost W0 lx g text D q (text.data.toList.drop r))) ∨
  (∃ c1 c2, v = .func (.func 87) #[] #[.pointer (some ⟨c1, 0, none⟩), .pointer (some ⟨c2, 0, none⟩)] ∧ ∀ W', Below W.heap.size W W' → Calls Tryd.prog 87 #[.pointer (some ⟨c1, 0, none⟩), .pointer (some ⟨c2, 0, none⟩)] W' (StepPost W0 lx g text D q (text.data.toList.drop r))) ∨
  (∃ c1 c2, v = .func (.func 100) #[] #[.pointer (some ⟨c1, 0, none⟩), .pointer (some ⟨c2, 0, none⟩)] ∧ ∀ W', Below W.heap.size W W' → Calls Tryd.prog 100 #[.pointer (some ⟨c1, 0, none⟩), .pointer (some ⟨c2, 0, none⟩)] W' (StepPost W0 lx g text D q (text.data.toList.drop r))) ∨
  (∃ c1 c2, v = .func (.func 111) #[] #[.pointer (some ⟨c1, 0, none⟩), .pointer (some ⟨c2, 0, none⟩)] ∧ ∀ W', Below W.heap.size W W' → Calls Tryd.prog 111 #[.pointer (some ⟨c1, 0, none⟩), .pointer (some ⟨c2, 0, none⟩)] W' (StepPost W0 lx g text D q (text.data.toList.drop r))) ∨
  (∃ c1 c2 c3 c4, v = .func (.func 126) #[] #[.pointer (some ⟨c1, 0, none⟩), .pointer (some ⟨c2, 0, none⟩), .pointer (some ⟨c3, 0, none⟩), .pointer (some ⟨c4, 0, none⟩)] ∧ ∀ W', Below W.heap.size W W' → Calls Tryd.prog 126 #[.pointer (some ⟨c1, 0, none⟩), .pointer (some ⟨c2, 0, none⟩), .pointer (some ⟨c3, 0, none⟩), .pointer (some ⟨c4, 0, none⟩)] W' (StepPost W0 lx g text D q (text.data.toList.drop r))) := by
 cases q with
 | ns => exact .inl ⟨hR, fun W' hb => step_ns W0 W' lx g r text D hT hRC (hL.below hb) hsz hr⟩
 | sn => exact .inr (.inl ⟨hR, fun W' hb => step_sn W0 W' lx g r text D (hL.below hb) hsz hr⟩)
 | ss a =>
  obtain ⟨c1, c2, e, h1, h2⟩ := hR
  exact .inr (.inr (.inl ⟨c1, c2, e, fun W' hb => step_ss W0 W' lx g r a c1 c2 text D hT hN (hL.below hb) hsz hr hD (blk_below h1 hb) (blk_below h2 hb)⟩))
 | ig q =>
  obtain ⟨c1, c2, u, e, h1, h2, h3⟩ := hR
  exact .inr (.inr (.inr (.inl ⟨c1, c2, e, fun W' hb => step_ig W0 W' lx g r q c1 c2 u text D (hL.below hb) hsz hr (blk_below h1 hb) (blk_below h2 hb) (Rep_below h3 hb)⟩)))
 | no a =>
  obtain ⟨c1, c2, e, h1, h2⟩ := hR
  exact .inr (.inr (.inr (.inr (.inl ⟨c1, c2, e, fun W' hb => step_no W0 W' lx g r a c1 c2 text D hT hRC (hL.below hb) hsz hr (blk_below h1 hb) (blk_below h2 hb)⟩))))
 | on a =>
  obtain ⟨c1, c2, e, h1, h2⟩ := hR
  exact .inr (.inr (.inr (.inr (.inr (.inl ⟨c1, c2, e, fun W' hb => step_on W0 W' lx g r a c1 c2 text D hT hRC (hL.below hb) hsz hr (blk_below h1 hb) (blk_below h2 hb)⟩)))))
 | ov a n p =>
  obtain ⟨c1, c2, c3, c4, e, h1, h2, h3, h4, h5, h6, h7⟩ := hR
  exact .inr (.inr (.inr (.inr (.inr (.inr ⟨c1, c2, c3, c4, e, fun W' hb => step_ov W0 W' lx g r a n p c1 c2 c3 c4 text D hT hN (hL.below hb) hsz hr hD (by have := hS.2.2.2; omega) (blk_below h1 hb) (blk_below h2 hb) (blk_below h3 hb) (blk_below h4 hb) h5 h6 h7⟩)))))
structure LexEnd (W0 W : World) (lx : Nat) (D : List Ent) (er : Bool) : Prop where
 bel : Below W0.heap.size W0 W
 ob : ∃ g vd ev, W.heap[lx]? = some (lexObj g vd ev ⟨#[]⟩) ∧ ErrIs er ev ∧ kA.R 76 W W0.heap.size (fun _ => True) vd (D.map (·.b))
 dat : ∀ e ∈ D, EntAt W e ∧ W0.heap.size ≤ e.b ∧ W0.heap.size ≤ e.x ∧ W0.heap.size ≤ e.y ∧ e.y < W.heap.size
 nod : (D.map (·.y)).Nodup
theorem LexIs.fin {W0 W : World} {lx g r : Nat} {text : ByteArray} {D : List Ent} (h : LexIs W0 W lx g text r D) : LexEnd W0 W lx D false := by
 obtain ⟨vd, h1, h2⟩ := h.ob
 exact ⟨h.bel, ⟨g, vd, _, h1, rfl, h2⟩, h.dat, h.nod⟩
theorem LexIs.err {W0 W : World} {lx g r : Nat} {text : ByteArray} {D : List Ent} (h : LexIs W0 W lx g text r D) (t : TypeId) (u : Value) : LexEnd W0 (W.setCell ⟨lx, 2, none⟩ (.iface t u)) lx D true := by
 obtain ⟨vd, h1, h2⟩ := h.ob
 have hgs := grown_set W lx 2 (.iface t u)
 have hs := stay_grown hgs h1 (by decide)
 refine ⟨below_set h.bel h.lxb, ⟨g, vd, _, blk_put h1 2 _ rfl, ⟨t, u, rfl⟩, kA_stay h2 hs⟩, fun e he => ?_, h.nod⟩
 obtain ⟨e1, e2, e3, e4, e5⟩ := h.dat e he
 exact ⟨EntAt_stay e1 hs, e2, e3, e4, Nat.lt_of_lt_of_le e5 hs.1⟩
theorem equalIn_nilFunc (d : Nat) (W : World) : (Op.equalIn (d + 1) 91 Value.nilFunc Value.nilFunc).run Tryd.prog W = .ok true W := by
 simp [Op.equalIn, run_underlying Tryd.underlying91]
theorem equalIn_func (d : Nat) (W : World) (fn : Fn) (a b : Array Value) : (Op.equalIn (d + 1) 91 (.func fn a b) Value.nilFunc).run Tryd.prog W = .ok false W := by
 simp [Op.equalIn, run_underlying Tryd.underlying91]
theorem neq_nilFunc (W : World) : (binOp BinOp.neq 91 Value.nilFunc Value.nilFunc).run Tryd.prog W = .ok (.bool false) W := by
 have h : (Op.equal 91 Value.nilFunc Value.nilFunc).run Tryd.prog W = .ok true W := equalIn_nilFunc 9999 W
 simp only [binOp]
 simp [h]
theorem neq_func (W : World) (fn : Fn) (a b : Array Value) : (binOp BinOp.neq 91 (.func fn a b) Value.nilFunc).run Tryd.prog W = .ok (.bool true) W := by
 have h : (Op.equal 91 (.func fn a b) Value.nilFunc).run Tryd.prog W = .ok false W := equalIn_func 9999 W fn a b
 simp only [binOp]
 simp [h]
theorem step_x {q q' : K} {s s' : Bs} {x : List LD} (h : Step q s (.go q' s' x)) : x.length ≤ 1 := by
 cases q with
 | ns =>
  rcases h with ⟨_, h⟩ | ⟨c, n, _, h⟩
  ·cases h
  ·unfold nsOut at h
   split at h
   ·cases h; exact Nat.zero_le _
   ·split at h <;> (cases h; exact Nat.zero_le _)
 | sn =>
  have h : .go q' s' x = snOut s := h
  unfold snOut at h
  split at h <;> cases h
  exact Nat.zero_le _
 | ss a =>
  obtain ⟨bl, _, h⟩ := h
  unfold ssOut at h
  split at h <;> cases h
  exact Nat.le_refl _
 | ig q =>
  obtain ⟨r, _, h⟩ := h
  cases h
  exact Nat.zero_le _
 | no a =>
  rcases h with ⟨_, h⟩ | ⟨c, n, _, h⟩
  ·cases h
  ·unfold noOut at h
   split at h
   ·cases h; exact Nat.zero_le _
   ·split at h
    ·cases h; exact Nat.zero_le _
    ·split at h <;> (cases h; exact Nat.zero_le _)
 | on a =>
  have loose : ∀ {o}, Loose a s o → o = .go q' s' x → x.length ≤ 1 := by
   intro o ho e
   rcases ho with ho | ⟨n, r, _, _, _, ho⟩
   ·rw [ho] at e; cases e
   ·rw [ho] at e; cases e; exact Nat.zero_le _
  simp only [Step] at h
  split at h
  ·split at h
   ·unfold onOut at h
    split at h <;> cases h
    exact Nat.zero_le _
   ·exact loose h rfl
  ·exact loose h rfl
 | ov a n p =>
  obtain ⟨bl, _, h⟩ := h
  unfold ovOut at h
  split at h
  ·cases h; exact Nat.le_refl _
  ·split at h
   ·cases h; exact Nat.zero_le _
   ·cases h; exact Nat.le_refl _
theorem long_take {s : Bs} (h1 : 2048 ≤ s.length) (h2 : (s.take 2048).any nl = false) : long s := ⟨h1, fun b hb => by have := List.any_eq_false.1 h2 b hb; simpa using this⟩
theorem step_three {W0 : World} {lx g : Nat} {text : ByteArray} {D : List Ent} {q : K} {s : Bs} {e : Ending} {w' : World} (h : StepPost W0 lx g text D q s e w') :
  (∃ r', e = .returned (.tuple #[.nilFunc, .nilIface]) ∧ Step q s (.done false) ∧ LexIs W0 w' lx g text r' D) ∨
  (∃ t u r', e = .returned (.tuple #[.nilFunc, .iface t u]) ∧ Step q s (.done true) ∧ LexIs W0 w' lx g text r' D) ∨
  (∃ q' s' x v X r', e = .returned (.tuple #[v, .nilIface]) ∧ Step q s (.go q' s' x) ∧ Rep W0.heap.size lx q' w' v ∧ X.map (·.ld) = x ∧ LexIs W0 w' lx g text r' (D ++ X) ∧ text.data.toList.drop r' = s' ∧ r' ≤ text.size) := by
 obtain ⟨o, hst, ho⟩ := h
 cases o with
 | done er =>
  obtain ⟨ev, r', rfl, hE, hL⟩ := ho
  cases er with
  | false =>
   obtain rfl : ev = .nilIface := hE
   exact .inl ⟨r', rfl, hst, hL⟩
  | true =>
   obtain ⟨t, u, rfl⟩ := hE
   exact .inr (.inl ⟨t, u, r', rfl, hst, hL⟩)
 | go q' s' x =>
  obtain ⟨v, X, r', rfl, hR, hX, hL, hdr, hr⟩ := ho
  exact .inr (.inr ⟨q', s', x, v, X, r', rfl, hst, hR, hX, hL, hdr, hr⟩)
def Rel (W0 : World) (lx g : Nat) (text : ByteArray) (Post : Bool → List LD → Prop) (kq : Nat) (v : Value) (w' : World) : Prop :=
 (v = .nilFunc ∧ ∃ D r1, Post false (D.map (·.ld)) ∧ D.length ≤ 10000000 ∧ LexIs W0 w' lx g text r1 D) ∨
 (∃ q D r1 m, Rep W0.heap.size lx q w' v ∧ LexIs W0 w' lx g text r1 D ∧ r1 ≤ text.size ∧ SzK 1000000 q (text.data.toList.drop r1) ∧ Wp TrimC m q (text.data.toList.drop r1) (D.map (·.ld)) Post ∧ m < kq ∧ D.length + m ≤ 10000000)
set_option maxHeartbeats 8000000 in
set_option maxRecDepth 100000 in
theorem lex_call (W0 W : World) (lx g k : Nat) (text : ByteArray) (Post : Bool → List LD → Prop) (hT : UTab W0) (hRC : RuneC text) (hL : LexIs W0 W lx g text 0 []) (hsz : text.size ≤ 1000000) (hW : Wp TrimC k .ns text.data.toList [] Post) (hk : k ≤ 10000000) :
    Calls Tryd.prog 57 #[.pointer (some ⟨lx, 0, none⟩)] W fun e w' => e = .returned (.tuple #[]) ∧ ∃ er D, Post er (D.map (·.ld)) ∧ D.length ≤ 10000000 ∧ LexEnd W0 w' lx D er := by
  have hmf := make_fn
  have hnf := neq_nilFunc
  have hff := neq_func
  have HT := Aside0.mk hT
  have HRC := Aside0.mk hRC
  have HSZ := Aside0.mk hsz
  have HREL : Aside0 (Rel W0 lx g text Post (k + 1) (.func (.func 62) #[.pointer (some ⟨lx, 0, none⟩)] #[]) W) := ⟨.inr ⟨.ns, [], 0, k, rfl, hL, Nat.zero_le _, (by show text.data.toList.length ≤ 1000000; have hl : text.data.toList.length = text.size := Array.length_toList; omega), hW, by omega, by simp only [List.length_nil]; omega⟩⟩
  clear hT hRC hsz hL hW hk
  go_enter Tryd.func57, Tryd.ntmps57
  go_wp2
  go_loopg [2] (k + 1) (fun kq v2 w' => Aside0 (Rel W0 lx g text Post kq v2 w'))
  case atStart => exact HREL
  case round =>
    clear HREL
    rcases hrel.out with ⟨rfl, D, r1, hP, hDl, hL⟩ | ⟨q, D, r1, m, hR, hL, hr1, hS, hWp, hm, hDm⟩
    · have HP := Aside0.mk hP
      have HL := Aside0.mk hL
      clear hP hL hrel
      go_wp2
      go_end0
      exact ⟨rfl, false, D, HP.out, hDl, HL.out.fin⟩
    · cases m with
      | zero => exact hWp.elim
      | succ m =>
      obtain ⟨hlong, hneed, hstep⟩ := hWp
      have HALL := Aside0.mk (step_all W0 wr lx g r1 1000000 q _ text D HT.out HRC.out hneed hL HSZ.out hr1 (by omega) hS (Nat.le_refl _) hR)
      have HST : Aside0 (∀ o, Step q (text.data.toList.drop r1) o → match o with
        | .done e => Post e (D.map (·.ld))
        | .go q' s' x => Wp TrimC m q' s' (D.map (·.ld) ++ x) Post) := ⟨hstep⟩
      obtain ⟨l, w, d, hbk, hrw, hwt, -⟩ := hL.buf
      obtain ⟨vd, hlx, -⟩ := hL.ob
      have l0 : wr.cell? ⟨lx, 0, none⟩ = some (.pointer (some ⟨g, 0, none⟩)) := (blk_cell hlx 0).trans rfl
      have HBK := Aside0.mk hbk
      have HRW := Aside0.mk hrw
      have HWT := Aside0.mk hwt
      have HL := Aside0.mk hL
      have HM := Aside0.mk hm
      have HDM := Aside0.mk hDm
      have HS := Aside0.mk hS
      have HLG := Aside0.mk hlong
      have HR := Aside0.mk hR
      clear hneed hstep hbk hrw hwt hlx hL hm hDm hS hlong hrel hr1 hR
      by_cases hbig : r1 + 2048 ≤ w
      · have hg : ((2048 : Int) ≤ (w : Int) - (r1 : Int)) = True := eq_true (by omega)
        have HBG := Aside0.mk hbig
        clear hbig
        by_cases hnl : ((text.data.toList.drop r1).take 2048).any nl = true
        · have HNL := Aside0.mk hnl
          clear hnl
          rcases HALL.out with ⟨rfl, hs⟩ | ⟨rfl, hs⟩ | ⟨c1, c2, rfl, hs⟩ | ⟨c1, c2, rfl, hs⟩ | ⟨c1, c2, rfl, hs⟩ | ⟨c1, c2, rfl, hs⟩ | ⟨c1, c2, c3, c4, rfl, hs⟩
          all_goals (have STEP := Aside0.mk hs; clear hs)
          all_goals go_wp2_with (first
                  | (go_at_call 63; refine (buffered_call g text r1 w l d wr HBK.out (by omega) (by have := HRW.out; omega) (by have := HWT.out; have := HSZ.out; omega)).mono ?_; rintro e w2 ⟨rfl, hd2⟩; have HB2 : Aside0 (Below wr.heap.size wr w2) := ⟨by obtain ⟨n, rfl⟩ := hd2; exact pw_below_drewN (Below.refl _ _) n⟩; have y0 := pw_cell_below HB2.out l0)
                  | (go_at_call 64; refine (peek_call g text r1 w l d w2 (blk_below HBK.out HB2.out) HBG.out HWT.out HSZ.out).mono ?_; rintro e w3 ⟨bk, cap, rfl, hbat, hb3⟩; have HB3 := Aside0.mk (below_then HB2.out HB2.out.size hb3); have HBAT := Aside0.mk hbat; have z0 := pw_cell_below hb3 y0; clear hbat hb3)
                  | (go_at_call 65; refine (newline_at bk cap 2048 _ _ (by have hl : text.data.toList.length = text.size := Array.length_toList; have := HBG.out; have := HWT.out; rw [List.length_take, List.length_drop]; omega) (by omega) HBAT.out).mono ?_; rintro e w4 ⟨rfl, e4⟩; have e4' := e4.symm; subst e4'; rw [HNL.out])
                  | (go_at_call 62; refine (STEP.out _ (by first | exact HB3.out | exact HB2.out)).mono ?_; rintro e w5 hpost; rcases step_three hpost with ⟨r5, rfl, hst, hL5⟩ | ⟨et, eu, r5, rfl, hst, hL5⟩ | ⟨q5, s5, x5, v5, X5, r5, rfl, hst, hR5, hX5, hL5, hdr5, hr5⟩ <;> (obtain ⟨vd5, hlx5, -⟩ := hL5.ob; have hfz5 := blk_frozen hlx5 2; have hc5 : w5.cell? ⟨lx, 2, none⟩ = some .nilIface := (blk_cell hlx5 2).trans rfl))
                  | (go_at_call 75; refine (STEP.out _ (by first | exact HB3.out | exact HB2.out)).mono ?_; rintro e w5 hpost; rcases step_three hpost with ⟨r5, rfl, hst, hL5⟩ | ⟨et, eu, r5, rfl, hst, hL5⟩ | ⟨q5, s5, x5, v5, X5, r5, rfl, hst, hR5, hX5, hL5, hdr5, hr5⟩ <;> (obtain ⟨vd5, hlx5, -⟩ := hL5.ob; have hfz5 := blk_frozen hlx5 2; have hc5 : w5.cell? ⟨lx, 2, none⟩ = some .nilIface := (blk_cell hlx5 2).trans rfl))
                  | (go_at_call 93; refine (STEP.out _ (by first | exact HB3.out | exact HB2.out)).mono ?_; rintro e w5 hpost; rcases step_three hpost with ⟨r5, rfl, hst, hL5⟩ | ⟨et, eu, r5, rfl, hst, hL5⟩ | ⟨q5, s5, x5, v5, X5, r5, rfl, hst, hR5, hX5, hL5, hdr5, hr5⟩ <;> (obtain ⟨vd5, hlx5, -⟩ := hL5.ob; have hfz5 := blk_frozen hlx5 2; have hc5 : w5.cell? ⟨lx, 2, none⟩ = some .nilIface := (blk_cell hlx5 2).trans rfl))
                  | (go_at_call 87; refine (STEP.out _ (by first | exact HB3.out | exact HB2.out)).mono ?_; rintro e w5 hpost; rcases step_three hpost with ⟨r5, rfl, hst, hL5⟩ | ⟨et, eu, r5, rfl, hst, hL5⟩ | ⟨q5, s5, x5, v5, X5, r5, rfl, hst, hR5, hX5, hL5, hdr5, hr5⟩ <;> (obtain ⟨vd5, hlx5, -⟩ := hL5.ob; have hfz5 := blk_frozen hlx5 2; have hc5 : w5.cell? ⟨lx, 2, none⟩ = some .nilIface := (blk_cell hlx5 2).trans rfl))
                  | (go_at_call 100; refine (STEP.out _ (by first | exact HB3.out | exact HB2.out)).mono ?_; rintro e w5 hpost; rcases step_three hpost with ⟨r5, rfl, hst, hL5⟩ | ⟨et, eu, r5, rfl, hst, hL5⟩ | ⟨q5, s5, x5, v5, X5, r5, rfl, hst, hR5, hX5, hL5, hdr5, hr5⟩ <;> (obtain ⟨vd5, hlx5, -⟩ := hL5.ob; have hfz5 := blk_frozen hlx5 2; have hc5 : w5.cell? ⟨lx, 2, none⟩ = some .nilIface := (blk_cell hlx5 2).trans rfl))
                  | (go_at_call 111; refine (STEP.out _ (by first | exact HB3.out | exact HB2.out)).mono ?_; rintro e w5 hpost; rcases step_three hpost with ⟨r5, rfl, hst, hL5⟩ | ⟨et, eu, r5, rfl, hst, hL5⟩ | ⟨q5, s5, x5, v5, X5, r5, rfl, hst, hR5, hX5, hL5, hdr5, hr5⟩ <;> (obtain ⟨vd5, hlx5, -⟩ := hL5.ob; have hfz5 := blk_frozen hlx5 2; have hc5 : w5.cell? ⟨lx, 2, none⟩ = some .nilIface := (blk_cell hlx5 2).trans rfl))
                  | (go_at_call 126; refine (STEP.out _ (by first | exact HB3.out | exact HB2.out)).mono ?_; rintro e w5 hpost; rcases step_three hpost with ⟨r5, rfl, hst, hL5⟩ | ⟨et, eu, r5, rfl, hst, hL5⟩ | ⟨q5, s5, x5, v5, X5, r5, rfl, hst, hR5, hX5, hL5, hdr5, hr5⟩ <;> (obtain ⟨vd5, hlx5, -⟩ := hL5.ob; have hfz5 := blk_frozen hlx5 2; have hc5 : w5.cell? ⟨lx, 2, none⟩ = some .nilIface := (blk_cell hlx5 2).trans rfl))
                  | fail)
          all_goals first
            | (go_roundg (gk - 1)
               case measure => have := HM.out; omega
               case rel => exact ⟨.inl ⟨rfl, D, r5, HST.out _ hst, by have := HDM.out; omega, hL5⟩⟩)
            | (go_roundg (gk - 1)
               case measure => have := HM.out; omega
               case rel => exact ⟨.inr ⟨q5, D ++ X5, r5, m, hR5, hL5, hr5, by rw [hdr5]; exact (step_sz HS.out hst).1, by rw [hdr5, List.map_append, hX5]; exact HST.out _ hst, by have := HM.out; omega, by have h1 := step_x hst; have h2 := congrArg List.length hX5; rw [List.length_map] at h2; have := HDM.out; rw [List.length_append]; omega⟩⟩)
            | (refine bodyPost_ret (results_none rfl _ _ _) rfl ?_; exact ⟨rfl, true, D, HST.out _ hst, by have := HDM.out; omega, hL5.err et eu⟩)
        · have HNL := Aside0.mk (show ((text.data.toList.drop r1).take 2048).any nl = false by simpa using hnl)
          clear hnl
          obtain ⟨vf, va, vc, rfl⟩ := Rep_func HR.out
          go_wp2_with (first
            | (go_at_call 63; refine (buffered_call g text r1 w l d wr HBK.out (by omega) (by have := HRW.out; omega) (by have := HWT.out; have := HSZ.out; omega)).mono ?_; rintro e w2 ⟨rfl, hd2⟩; have HB2 : Aside0 (Below wr.heap.size wr w2) := ⟨by obtain ⟨n, rfl⟩ := hd2; exact pw_below_drewN (Below.refl _ _) n⟩; have y0 := pw_cell_below HB2.out l0)
            | (go_at_call 64; refine (peek_call g text r1 w l d w2 (blk_below HBK.out HB2.out) HBG.out HWT.out HSZ.out).mono ?_; rintro e w3 ⟨bk, cap, rfl, hbat, hb3⟩; have HB3 := Aside0.mk (below_then HB2.out HB2.out.size hb3); have HBAT := Aside0.mk hbat; have z0 := pw_cell_below hb3 y0; clear hbat hb3)
            | (go_at_call 65; refine (newline_at bk cap 2048 _ _ (by have hl : text.data.toList.length = text.size := Array.length_toList; have := HBG.out; have := HWT.out; rw [List.length_take, List.length_drop]; omega) (by omega) HBAT.out).mono ?_; rintro e w4 ⟨rfl, e4⟩; have e4' := e4.symm; subst e4'; rw [HNL.out])
            | (go_at_call 58; refine (err_new _ _).mono ?_; rintro e w5 ⟨⟨et, eu, rfl⟩, hb5⟩; have HL5 := Aside0.mk (HL.out.below (below_then HB3.out HB3.out.size hb5)); obtain ⟨vd5, hlx5, -⟩ := HL5.out.ob; have hfz5 := blk_frozen hlx5 2; have hc5 : w5.cell? ⟨lx, 2, none⟩ = some .nilIface := (blk_cell hlx5 2).trans rfl)
            | go_in)
          refine bodyPost_ret (results_none rfl _ _ _) rfl ?_
          refine ⟨rfl, true, D, HLG.out (long_take ?_ HNL.out), by have := HDM.out; omega, HL5.out.err et eu⟩
          have hl : text.data.toList.length = text.size := Array.length_toList
          have := HBG.out
          have := HWT.out
          rw [List.length_drop]
          omega
      · have hg : ((2048 : Int) ≤ (w : Int) - (r1 : Int)) = False := eq_false (by omega)
        clear hbig
        rcases HALL.out with ⟨rfl, hs⟩ | ⟨rfl, hs⟩ | ⟨c1, c2, rfl, hs⟩ | ⟨c1, c2, rfl, hs⟩ | ⟨c1, c2, rfl, hs⟩ | ⟨c1, c2, rfl, hs⟩ | ⟨c1, c2, c3, c4, rfl, hs⟩
        all_goals (have STEP := Aside0.mk hs; clear hs)
        all_goals go_wp2_with (first
                | (go_at_call 63; refine (buffered_call g text r1 w l d wr HBK.out (by omega) (by have := HRW.out; omega) (by have := HWT.out; have := HSZ.out; omega)).mono ?_; rintro e w2 ⟨rfl, hd2⟩; have HB2 : Aside0 (Below wr.heap.size wr w2) := ⟨by obtain ⟨n, rfl⟩ := hd2; exact pw_below_drewN (Below.refl _ _) n⟩; have y0 := pw_cell_below HB2.out l0)
                | (go_at_call 62; refine (STEP.out _ (by first | exact HB3.out | exact HB2.out)).mono ?_; rintro e w5 hpost; rcases step_three hpost with ⟨r5, rfl, hst, hL5⟩ | ⟨et, eu, r5, rfl, hst, hL5⟩ | ⟨q5, s5, x5, v5, X5, r5, rfl, hst, hR5, hX5, hL5, hdr5, hr5⟩ <;> (obtain ⟨vd5, hlx5, -⟩ := hL5.ob; have hfz5 := blk_frozen hlx5 2; have hc5 : w5.cell? ⟨lx, 2, none⟩ = some .nilIface := (blk_cell hlx5 2).trans rfl))
                | (go_at_call 75; refine (STEP.out _ (by first | exact HB3.out | exact HB2.out)).mono ?_; rintro e w5 hpost; rcases step_three hpost with ⟨r5, rfl, hst, hL5⟩ | ⟨et, eu, r5, rfl, hst, hL5⟩ | ⟨q5, s5, x5, v5, X5, r5, rfl, hst, hR5, hX5, hL5, hdr5, hr5⟩ <;> (obtain ⟨vd5, hlx5, -⟩ := hL5.ob; have hfz5 := blk_frozen hlx5 2; have hc5 : w5.cell? ⟨lx, 2, none⟩ = some .nilIface := (blk_cell hlx5 2).trans rfl))
                | (go_at_call 93; refine (STEP.out _ (by first | exact HB3.out | exact HB2.out)).mono ?_; rintro e w5 hpost; rcases step_three hpost with ⟨r5, rfl, hst, hL5⟩ | ⟨et, eu, r5, rfl, hst, hL5⟩ | ⟨q5, s5, x5, v5, X5, r5, rfl, hst, hR5, hX5, hL5, hdr5, hr5⟩ <;> (obtain ⟨vd5, hlx5, -⟩ := hL5.ob; have hfz5 := blk_frozen hlx5 2; have hc5 : w5.cell? ⟨lx, 2, none⟩ = some .nilIface := (blk_cell hlx5 2).trans rfl))
                | (go_at_call 87; refine (STEP.out _ (by first | exact HB3.out | exact HB2.out)).mono ?_; rintro e w5 hpost; rcases step_three hpost with ⟨r5, rfl, hst, hL5⟩ | ⟨et, eu, r5, rfl, hst, hL5⟩ | ⟨q5, s5, x5, v5, X5, r5, rfl, hst, hR5, hX5, hL5, hdr5, hr5⟩ <;> (obtain ⟨vd5, hlx5, -⟩ := hL5.ob; have hfz5 := blk_frozen hlx5 2; have hc5 : w5.cell? ⟨lx, 2, none⟩ = some .nilIface := (blk_cell hlx5 2).trans rfl))
                | (go_at_call 100; refine (STEP.out _ (by first | exact HB3.out | exact HB2.out)).mono ?_; rintro e w5 hpost; rcases step_three hpost with ⟨r5, rfl, hst, hL5⟩ | ⟨et, eu, r5, rfl, hst, hL5⟩ | ⟨q5, s5, x5, v5, X5, r5, rfl, hst, hR5, hX5, hL5, hdr5, hr5⟩ <;> (obtain ⟨vd5, hlx5, -⟩ := hL5.ob; have hfz5 := blk_frozen hlx5 2; have hc5 : w5.cell? ⟨lx, 2, none⟩ = some .nilIface := (blk_cell hlx5 2).trans rfl))
                | (go_at_call 111; refine (STEP.out _ (by first | exact HB3.out | exact HB2.out)).mono ?_; rintro e w5 hpost; rcases step_three hpost with ⟨r5, rfl, hst, hL5⟩ | ⟨et, eu, r5, rfl, hst, hL5⟩ | ⟨q5, s5, x5, v5, X5, r5, rfl, hst, hR5, hX5, hL5, hdr5, hr5⟩ <;> (obtain ⟨vd5, hlx5, -⟩ := hL5.ob; have hfz5 := blk_frozen hlx5 2; have hc5 : w5.cell? ⟨lx, 2, none⟩ = some .nilIface := (blk_cell hlx5 2).trans rfl))
                | (go_at_call 126; refine (STEP.out _ (by first | exact HB3.out | exact HB2.out)).mono ?_; rintro e w5 hpost; rcases step_three hpost with ⟨r5, rfl, hst, hL5⟩ | ⟨et, eu, r5, rfl, hst, hL5⟩ | ⟨q5, s5, x5, v5, X5, r5, rfl, hst, hR5, hX5, hL5, hdr5, hr5⟩ <;> (obtain ⟨vd5, hlx5, -⟩ := hL5.ob; have hfz5 := blk_frozen hlx5 2; have hc5 : w5.cell? ⟨lx, 2, none⟩ = some .nilIface := (blk_cell hlx5 2).trans rfl))
                | fail)
        all_goals first
          | (go_roundg (gk - 1)
             case measure => have := HM.out; omega
             case rel => exact ⟨.inl ⟨rfl, D, r5, HST.out _ hst, by have := HDM.out; omega, hL5⟩⟩)
          | (go_roundg (gk - 1)
             case measure => have := HM.out; omega
             case rel => exact ⟨.inr ⟨q5, D ++ X5, r5, m, hR5, hL5, hr5, by rw [hdr5]; exact (step_sz HS.out hst).1, by rw [hdr5, List.map_append, hX5]; exact HST.out _ hst, by have := HM.out; omega, by have h1 := step_x hst; have h2 := congrArg List.length hX5; rw [List.length_map] at h2; have := HDM.out; rw [List.length_append]; omega⟩⟩)
          | (refine bodyPost_ret (results_none rfl _ _ _) rfl ?_; exact ⟨rfl, true, D, HST.out _ hst, by have := HDM.out; omega, hL5.err et eu⟩)
end Go.Proofs.YtgnfapnnbcafbaaDoor.UN
end
section
/- What stands in memory while the lexer's finds are made options. Conditions: as they say. -/
namespace Go.Proofs.YtgnfapnnbcafbaaDoor.UN
open Go Go.RowKit Go.Proofs.YtgnfapnnbcafbaaDoorW.PrintWords Go.Proofs.YtgnfapnnbcafbaaDoorW
set_option linter.unusedVariables false
set_option linter.unusedSimpArgs false
def secXs : List Ent → List Nat
 | [] => []
 | ⟨.sec _, _, x, _⟩ :: r => x :: secXs r
 | ⟨.opt _ _ _, _, _, _⟩ :: r => secXs r
theorem secXs_app : ∀ a b : List Ent, secXs (a ++ b) = secXs a ++ secXs b
 | [], b => rfl
 | ⟨.sec _, _, x, _⟩ :: r, b => by rw [List.cons_append, secXs, secXs, secXs_app r b]; rfl
 | ⟨.opt _ _ _, _, _, _⟩ :: r, b => by rw [List.cons_append, secXs, secXs, secXs_app r b]
theorem secXs_len : ∀ a : List Ent, (secXs a).length ≤ a.length
 | [] => Nat.le_refl _
 | ⟨.sec _, _, x, _⟩ :: r => by rw [secXs, List.length_cons, List.length_cons]; exact Nat.succ_le_succ (secXs_len r)
 | ⟨.opt _ _ _, _, _, _⟩ :: r => by rw [secXs, List.length_cons]; exact Nat.le_succ_of_le (secXs_len r)
def optObj (o : O) : Obj := .cells #[.string (sB o.s), .string (sB o.n), .string (sB o.v)] 49 (0, 0)
structure DSt (W0 w : World) (lx g : Nat) (vd ev : Value) (D1 D2 : List Ent) (v6 v7 : Value) (P : List (Nat × O)) : Prop where
 bel : Below W0.heap.size W0 w
 lxo : w.heap[lx]? = some (lexObj g vd ev ⟨#[]⟩)
 row : kA.R 76 w W0.heap.size (fun _ => True) vd ((D1 ++ D2).map (·.b))
 secR : kA.R 78 w W0.heap.size (fun _ => True) v6 (secXs D1)
 optR : kA.R 48 w W0.heap.size (fun _ => True) v7 (P.map (·.1))
 opts : ∀ p ∈ P, W0.heap.size ≤ p.1 ∧ w.heap[p.1]? = some (optObj p.2)
 pso : P.map (·.2) = optsOf (D1.map (·.ld))
 ents : ∀ e ∈ D2, EntAt w e ∧ W0.heap.size ≤ e.b ∧ W0.heap.size ≤ e.x ∧ W0.heap.size ≤ e.y ∧ e.y < w.heap.size
 nod : (D2.map (·.y)).Nodup
 newest : ∀ x, (secXs D1).getLast? = some x → W0.heap.size ≤ x ∧ ∃ a sl xs, w.heap[x]? = some (.cells #[.string a, sl] 84 (0, 0)) ∧ kA.R 85 w W0.heap.size (fun _ => True) sl xs ∧ (∀ k, sl.ownBlock = some k → ∀ e ∈ D2, k ≠ e.y) ∧ xs.length ≤ D1.length
theorem kA_mv {t : TypeId} {w w2 : World} {base : Nat} {v : Value} {xs : List Nat} (h : kA.R t w base (fun _ => True) v xs) (mv : ∀ k cs, v.ownBlock = some k → w.heap[k]? = some (.cells cs t (0, 0)) → w2.heap[k]? = some (.cells cs t (0, 0))) : kA.R t w2 base (fun _ => True) v xs := by
 refine Kd.R_mono (Kd.R_move (Kd.R_tight rfl h) (fun k hk => ?_)) (fun _ _ => trivial)
 obtain ⟨cells, hc⟩ := Kd.R_typed h k hk.symm
 rw [mv k _ hk.symm hc, hc]
theorem kA_empty {w : World} {y base : Nat} {t : TypeId} (h : w.heap[y]? = some (.cells #[] t (0, 0))) (hb : base ≤ y) : kA.R t w base (fun _ => True) (.slice (some ⟨y, 0, none⟩) 0 0) [] := by
 refine Kd.R_of_own ?_ (fun _ _ => trivial)
 refine ⟨?_, .inr ⟨y, 0, #[], rfl, hb, h, ?_⟩⟩
 ·simp [encs]
 ·simp [encs]
theorem EntAt_keep {w w2 : World} {e : Ent} (h : EntAt w e) (m1 : ∀ (k : Nat) (cs : Array Value) (t : TypeId), w.heap[k]? = some (.cells cs t (0, 0)) → t = 80 ∨ t = 49 → w2.heap[k]? = some (.cells cs t (0, 0)))
  (m2 : ∀ a, w.heap[e.x]? = some (.cells #[.string a, .slice (some ⟨e.y, 0, none⟩) 0 0] 84 (0, 0)) → w2.heap[e.x]? = some (.cells #[.string a, .slice (some ⟨e.y, 0, none⟩) 0 0] 84 (0, 0)))
  (m3 : w.heap[e.y]? = some (.cells #[] 85 (0, 0)) → w2.heap[e.y]? = some (.cells #[] 85 (0, 0))) : EntAt w2 e := by
 obtain ⟨ld, b, x, y⟩ := e
 cases ld with
 | opt s n v => exact ⟨m1 _ _ _ h.1 (.inl rfl), m1 _ _ _ h.2 (.inr rfl)⟩
 | sec a => exact ⟨m1 _ _ _ h.1 (.inl rfl), m2 _ h.2.1, m3 h.2.2⟩
theorem DSt.sec {W0 w wa w2 : World} {lx g : Nat} {vd ev : Value} {D1 D2 : List Ent} {v6 v7 v8 : Value} {P : List (Nat × O)} {a : Bs} {b x y : Nat} (h : DSt W0 w lx g vd ev D1 (⟨.sec a, b, x, y⟩ :: D2) v6 v7 P)
  (hb : Below w.heap.size w wa) (hg : wa.grownBy w2 v6.ownBlock) (ho : kA.R 78 w2 W0.heap.size (fun _ => True) v8 (secXs D1 ++ [x])) (hB : Below W0.heap.size W0 w2) : DSt W0 w2 lx g vd ev (D1 ++ [⟨.sec a, b, x, y⟩]) D2 v8 v7 P := by
 have hR := Kd.R_below h.secR hb
 have mv : ∀ (k : Nat) (cs : Array Value) (t : TypeId), w.heap[k]? = some (.cells cs t (0, 0)) → t ≠ 78 → w2.heap[k]? = some (.cells cs t (0, 0)) := fun k cs t hk ht => by
  have h1 := blk_below hk hb
  exact blk_grown h1 hg (Kd.R_ne hR h1 (Ne.symm ht))
 have hsz : w.heap.size ≤ w2.heap.size := Nat.le_trans hb.size hg.size
 have ek : ∀ e ∈ D2, EntAt w2 e := fun e he => EntAt_keep (h.ents e (by simp [he])).1 (fun k cs t hk ht => mv k cs t hk (by rcases ht with rfl | rfl <;> decide)) (fun a hk => mv _ _ _ hk (by decide)) (fun hk => mv _ _ _ hk (by decide))
 obtain ⟨e1, e2, e3, e4, e5⟩ := h.ents ⟨.sec a, b, x, y⟩ (by simp)
 have hxs : secXs (D1 ++ [⟨.sec a, b, x, y⟩]) = secXs D1 ++ [x] := by rw [secXs_app]; rfl
 refine ⟨hB, mv _ _ _ h.lxo (by decide), ?_, by rw [hxs]; exact ho, kA_mv h.optR (fun k cs _ hk => mv _ _ _ hk (by decide)), fun p hp => ⟨(h.opts p hp).1, mv _ _ _ (h.opts p hp).2 (by decide)⟩, ?_, fun e he => ⟨ek e he, ?_⟩, ?_, ?_⟩
 ·have := kA_mv h.row (w2 := w2) (fun k cs _ hk => mv _ _ _ hk (by decide))
  rw [show (D1 ++ [⟨.sec a, b, x, y⟩]) ++ D2 = D1 ++ ⟨.sec a, b, x, y⟩ :: D2 by simp]
  exact this
 ·rw [h.pso, List.map_append, optsOf_app]
  simp [optsOf]
 ·obtain ⟨_, f2, f3, f4, f5⟩ := h.ents e (by simp [he])
  exact ⟨f2, f3, f4, by omega⟩
 ·have := h.nod
  rw [List.map_cons, List.nodup_cons] at this
  exact this.2
 ·intro x' hx'
  rw [hxs, List.getLast?_concat] at hx'
  cases hx'
  refine ⟨e3, _, _, [], mv _ _ _ e1.2.1 (by decide), kA_empty (mv _ _ _ e1.2.2 (by decide)) e4, fun k hk e he => ?_, Nat.zero_le _⟩
  have hk : y = k := by simpa [Value.ownBlock] using hk
  subst hk
  have := h.nod
  rw [List.map_cons, List.nodup_cons] at this
  exact fun e' => this.1 (List.mem_map.2 ⟨e, he, e'.symm⟩)
theorem DSt.opt {W0 w wa w2 wb w4 : World} {lx g : Nat} {vd ev : Value} {D1 D2 : List Ent} {v6 v7 v8 : Value} {P : List (Nat × O)} {s n v : Bs} {b x y z o q : Nat} {sa : ByteArray} {sl sl' : Value} {xs : List Nat} (h : DSt W0 w lx g vd ev D1 (⟨.opt s n v, b, z, y⟩ :: D2) v6 v7 P)
  (hx : (secXs D1).getLast? = some x) (hxo : w.heap[x]? = some (.cells #[.string sa, sl] 84 (0, 0))) (hsl : kA.R 85 w W0.heap.size (fun _ => True) sl xs) (hy : ∀ k, sl.ownBlock = some k → ∀ e ∈ D2, k ≠ e.y) (hln : xs.length ≤ D1.length) (hbx : W0.heap.size ≤ x)
  (hb : Below w.heap.size w wa) (hoo : wa.heap[o]? = some (optObj ⟨s, n, v⟩)) (hob : W0.heap.size ≤ o) (hg : wa.grownBy w2 v7.ownBlock) (ho : kA.R 48 w2 W0.heap.size (fun _ => True) v8 (P.map (·.1) ++ [o])) (hb2 : Below w2.heap.size w2 wb)
  (hg2 : wb.grownBy w4 sl.ownBlock) (ho2 : kA.R 85 w4 W0.heap.size (fun _ => True) sl' (xs ++ [q])) (hat : sl'.ownBlock = sl.ownBlock ∨ ∃ b, sl'.ownBlock = some b ∧ wb.heap.size ≤ b) (hB : Below W0.heap.size W0 w4) :
  DSt W0 (w4.setCell ⟨x, 1, none⟩ sl') lx g vd ev (D1 ++ [⟨.opt s n v, b, z, y⟩]) D2 v6 v8 (P ++ [(o, ⟨s, n, v⟩)]) := by
 have hR := Kd.R_below h.optR hb
 have mv1 : ∀ (k : Nat) (cs : Array Value) (t : TypeId), wa.heap[k]? = some (.cells cs t (0, 0)) → t ≠ 48 → wb.heap[k]? = some (.cells cs t (0, 0)) := fun k cs t hk ht => blk_below (blk_grown hk hg (Kd.R_ne hR hk (Ne.symm ht))) hb2
 have hsl2 : kA.R 85 wb W0.heap.size (fun _ => True) sl xs := kA_mv hsl (fun k cs _ hk => mv1 _ _ _ (blk_below hk hb) (by decide))
 have mv2 : ∀ (k : Nat) (cs : Array Value) (t : TypeId), wb.heap[k]? = some (.cells cs t (0, 0)) → (t ≠ 85 ∨ sl.ownBlock ≠ some k) → w4.heap[k]? = some (.cells cs t (0, 0)) := fun k cs t hk ht => blk_grown hk hg2 (by
  rcases ht with ht | ht
  ·exact Kd.R_ne hsl2 hk (Ne.symm ht)
  ·exact fun e => ht e.symm)
 have hx4 : w4.heap[x]? = some (.cells #[.string sa, sl] 84 (0, 0)) := mv2 _ _ _ (mv1 _ _ _ (blk_below hxo hb) (by decide)) (.inl (by decide))
 have mv : ∀ (k : Nat) (cs : Array Value) (t : TypeId), w.heap[k]? = some (.cells cs t (0, 0)) → t ≠ 48 → (t ≠ 85 ∨ sl.ownBlock ≠ some k) → k ≠ x → (w4.setCell ⟨x, 1, none⟩ sl').heap[k]? = some (.cells cs t (0, 0)) := fun k cs t hk ht ht2 hne => blk_far (mv2 _ _ _ (mv1 _ _ _ (blk_below hk hb) ht) ht2) (p := ⟨x, 1, none⟩) hne sl'
 have nex : ∀ (k : Nat) (cs : Array Value) (t : TypeId), w.heap[k]? = some (.cells cs t (0, 0)) → t ≠ 84 → k ≠ x := fun k cs t hk ht e => by
  rw [e, hxo] at hk
  injection hk with hk
  injection hk with _ hk
  exact ht hk.symm
 have sz : w.heap.size ≤ w4.heap.size := Nat.le_trans hb.size (Nat.le_trans hg.size (Nat.le_trans hb2.size hg2.size))
 have szf : (w4.setCell ⟨x, 1, none⟩ sl').heap.size = w4.heap.size := by simp [World.setCell]
 have szb : w.heap.size ≤ wb.heap.size := Nat.le_trans hb.size (Nat.le_trans hg.size hb2.size)
 have hxf := blk_put hx4 1 sl' (cs' := #[.string sa, sl']) rfl
 have ek : ∀ e ∈ D2, EntAt (w4.setCell ⟨x, 1, none⟩ sl') e := fun e he => by
  refine EntAt_keep (h.ents e (by simp [he])).1 (fun k cs t hk ht => ?_) (fun a hk => ?_) (fun hk => ?_)
  ·rcases ht with rfl | rfl
   ·exact mv _ _ _ hk (by decide) (.inl (by decide)) (nex _ _ _ hk (by decide))
   ·exact mv _ _ _ hk (by decide) (.inl (by decide)) (nex _ _ _ hk (by decide))
  ·refine mv _ _ _ hk (by decide) (.inl (by decide)) fun e' => ?_
   rw [e', hxo] at hk
   have h1 : sl = .slice (some ⟨e.y, 0, none⟩) 0 0 := by simp at hk; exact hk.2
   exact hy e.y (by rw [h1]; rfl) e he rfl
  ·exact mv _ _ _ hk (by decide) (.inr (fun e' => hy _ e' e he rfl)) (nex _ _ _ hk (by decide))
 have hxs : secXs (D1 ++ [⟨.opt s n v, b, z, y⟩]) = secXs D1 := by rw [secXs_app]; simp [secXs]
 refine ⟨below_set hB hbx, mv _ _ _ h.lxo (by decide) (.inl (by decide)) (nex _ _ _ h.lxo (by decide)), ?_, ?_, ?_, fun p hp => ?_, ?_, fun e he => ⟨ek e he, ?_⟩, ?_, ?_⟩
 ·have := kA_mv h.row (w2 := w4.setCell ⟨x, 1, none⟩ sl') (fun k cs _ hk => mv _ _ _ hk (by decide) (.inl (by decide)) (nex _ _ _ hk (by decide)))
  rw [show (D1 ++ [⟨.opt s n v, b, z, y⟩]) ++ D2 = D1 ++ ⟨.opt s n v, b, z, y⟩ :: D2 by simp]
  exact this
 ·rw [hxs]
  exact kA_mv h.secR (fun k cs _ hk => mv _ _ _ hk (by decide) (.inl (by decide)) (nex _ _ _ hk (by decide)))
 ·rw [List.map_append]
  have h1 := kA_mv (Kd.R_below ho hb2) (w2 := w4) (fun k cs _ hk => mv2 _ _ _ hk (.inl (by decide)))
  exact Kd.R_set h1 hx4 (by decide) 1 sl'
 ·rcases List.mem_append.1 hp with hp | hp
  ·have h1 := h.opts p hp
   exact ⟨h1.1, mv _ _ _ h1.2 (by decide) (.inl (by decide)) (nex _ _ _ h1.2 (by decide))⟩
  ·rw [List.mem_singleton.1 hp]
   have h1 := mv2 _ _ _ (mv1 _ _ _ hoo (by decide)) (.inl (by decide))
   refine ⟨hob, blk_far h1 (p := ⟨x, 1, none⟩) (fun e => ?_) sl'⟩
   have e : o = x := e
   rw [e, hx4] at h1
   simp [optObj] at h1
 ·rw [List.map_append, List.map_append, optsOf_app, h.pso]
  rfl
 ·obtain ⟨_, f2, f3, f4, f5⟩ := h.ents e (by simp [he])
  exact ⟨f2, f3, f4, by omega⟩
 ·have := h.nod
  rw [List.map_cons, List.nodup_cons] at this
  exact this.2
 ·intro x' hx'
  rw [hxs, hx] at hx'
  cases hx'
  refine ⟨hbx, sa, sl', xs ++ [q], hxf, Kd.R_set ho2 hx4 (by decide) 1 sl', fun k hk e he => ?_, by rw [List.length_append, List.length_append]; simp only [List.length_singleton]; omega⟩
  rcases hat with hat | ⟨b', hb', hge⟩
  ·exact hy k (by rw [← hat]; exact hk) e he
  ·rw [hb'] at hk
   cases hk
   have := (h.ents e (by simp [he])).2.2.2.2
   omega
end Go.Proofs.YtgnfapnnbcafbaaDoor.UN
end
section
/- deserializeAll: the lexer's finds as options. Conditions: a text of at most a million bytes; the library's tables as laid; Wp. -/
namespace Go.Proofs.YtgnfapnnbcafbaaDoor.UN
open Go Go.RowKit Go.Proofs.YtgnfapnnbcafbaaDoorW.PrintWords Go.Proofs.YtgnfapnnbcafbaaDoorW Go.Proofs.YtgnfapnnbcafbaaDoorW.PrintLast
set_option linter.unusedVariables false
set_option linter.unusedSimpArgs false
theorem infoSec : (Tryd.prog.info? 78).map (fun i => (i.zero, i.size, i.bytes)) = some (some (.pointer none), 1, 8) := by kernel_rfl
theorem infoOpt : (Tryd.prog.info? 48).map (fun i => (i.zero, i.size, i.bytes)) = some (some (.pointer none), 1, 8) := by kernel_rfl
theorem infoEnt : (Tryd.prog.info? 85).map (fun i => (i.zero, i.size, i.bytes)) = some (some (.pointer none), 1, 8) := by kernel_rfl
def DesPost (W0 : World) (Post : Bool → List LD → Prop) (e : Ending) (w' : World) : Prop := Below W0.heap.size W0 w' ∧ ∃ er ds, Post er ds ∧
  ((okD false ds = true ∧ ∃ (v6 v7 ev : Value) (P : List (Nat × O)), e = .returned (.tuple #[v6, v7, ev]) ∧ ErrIs er ev ∧ kA.R 48 w' W0.heap.size (fun _ => True) v7 (P.map (·.1)) ∧ (∀ p ∈ P, W0.heap.size ≤ p.1 ∧ w'.heap[p.1]? = some (optObj p.2)) ∧ P.map (·.2) = optsOf ds ∧ P.length ≤ 10000000) ∨
   (okD false ds = false ∧ ∃ t u, e = .returned (.tuple #[.slice none 0 0, .slice none 0 0, .iface t u])))
theorem new_lexer (W0 W : World) (text : ByteArray) (hB : Below W0.heap.size W0 W) : Calls Tryd.prog 56 #[.string text] W fun e w' => ∃ lx g, e = .returned (.pointer (some ⟨lx, 0, none⟩)) ∧ LexIs W0 w' lx g text 0 [] := by
 have hs := hB.size
 go_enter Tryd.func56, Tryd.ntmps56
 go_wp2
 go_ret
 refine ⟨W.heap.size + 1, W.heap.size, rfl, below_then hB hs (below_alloc (below_alloc (Below.refl _ _) _) _), by omega, hs, ⟨_, new2 W _ _, Kd.R_nil _ _ _ _ _⟩, (fun e he => by cases he), List.nodup_nil, 0, 0, false, blk_alloc (blk_new W _) _, Nat.le_refl _, Nat.zero_le _, (fun h => by cases h)⟩
theorem DSt.start {W0 w : World} {lx : Nat} {D : List Ent} {er : Bool} (h : LexEnd W0 w lx D er) (o1 o2 : Obj) (h1 : o1 = .cells #[] 78 (0, 0)) (h2 : o2 = .cells #[] 48 (0, 0)) {g : Nat} {vd ev : Value} (hl : w.heap[lx]? = some (lexObj g vd ev ⟨#[]⟩)) (hr : kA.R 76 w W0.heap.size (fun _ => True) vd (D.map (·.b))) :
  DSt W0 ((w.alloc o1).alloc o2) lx g vd ev [] D (.slice (some ⟨w.heap.size, 0, none⟩) 0 0) (.slice (some ⟨w.heap.size + 1, 0, none⟩) 0 0) [] := by
 subst h1 h2
 have hb := below_alloc (below_alloc (Below.refl w.heap.size w) (.cells #[] 78 (0, 0))) (.cells #[] 48 (0, 0))
 have hs := h.bel.size
 refine ⟨below_then h.bel hs hb, blk_below hl hb, Kd.R_below hr hb, kA_empty (blk_alloc (blk_new w _) _) hs, kA_empty (new2 w _ _) (by omega), (fun p hp => by cases hp), rfl, fun e he => ?_, h.nod, (fun x hx => by cases hx)⟩
 obtain ⟨e1, e2, e3, e4, e5⟩ := h.dat e he
 have := hb.size
 exact ⟨EntAt_stay e1 (stay_below hb), e2, e3, e4, by omega⟩
section
variable {ops : Array Oper} {o : Oper} {a : Act} {Q : Exit → Act → World → Prop} {Kc : Act → World → Prop}
theorem kA_append_drew {w0 W : World} (t e : TypeId) (ht : Tryd.prog.underlying t = some (.slice e)) (hi : (Tryd.prog.info? e).map (fun i => (i.zero, i.size, i.bytes)) = some (some (.pointer none), 1, 8)) (base : Nat) (hw : Region.wanted o (yielded ops a.tmps) = true) (s x : Operand) (ho : o.op = .call { callee := .builtin .append, args := #[s, x], argTypes := #[t, t] })
  (v : Value) (xs : List Nat) (p : Nat) (hs : a.eval s = v) (hx : a.eval x = .slice (some ⟨W.heap.size, 0, none⟩) 1 1) (HO : kA.R e W base (fun _ => True) v xs) (HB : Below base w0 W) (hbase : base ≤ W.heap.size) (hl : xs.length ≤ 10000000)
  (h : ∀ v1 w1, kA.R e w1 base (fun _ => True) v1 (xs ++ [p]) → Below base w0 w1 → W.grownBy w1 v.ownBlock → (v1.ownBlock = v.ownBlock ∨ ∃ b, v1.ownBlock = some b ∧ W.heap.size ≤ b) → Kc (a.put o.dst v1) w1) :
  if Region.wanted o (yielded ops a.tmps) = true then Oper.wp Tryd.prog o a ((W.alloc (.cells #[.pointer (some ⟨p, 0, none⟩)] e)).drew) Kc Q else Kc (a.put o.dst undef) ((W.alloc (.cells #[.pointer (some ⟨p, 0, none⟩)] e)).drew) :=
 Kd.R_append_step kA (w0 := w0) (W := W.drew) base hw s x t e (.pointer none) 8 ho ht hi rfl (by decide) (by omega) v xs p [.pointer (some ⟨p, 0, none⟩)] (fun _ => True) (fun _ => False) hs hx rfl (fun _ hk => hk.elim) (fun _ _ => trivial) (Kd.R_drew HO) (below_drew HB) hbase (by omega) (fun v1 w1 h1 h2 h3 h4 => h v1 w1 h1 h2 ((grown_of_below (below_drew (Below.refl W.heap.size W)) v.ownBlock).trans h3) h4)
end
set_option maxHeartbeats 8000000 in
set_option maxRecDepth 100000 in
theorem des_call (W0 W : World) (k : Nat) (text : ByteArray) (Post : Bool → List LD → Prop) (hT : UTab W0) (hRC : RuneC text) (hB : Below W0.heap.size W0 W) (hsz : text.size ≤ 1000000) (hW : Wp TrimC k .ns text.data.toList [] Post) (hk : k ≤ 10000000) :
  Calls Tryd.prog 46 #[.string text] W (DesPost W0 Post) := by
 have LEX := Aside0.mk (fun (W1 : World) (lx g : Nat) (hL : LexIs W0 W1 lx g text 0 []) => lex_call W0 W1 lx g k text Post hT hRC hL hsz hW hk)
 have HB := Aside0.mk hB
 clear hT hRC hB hsz hW hk
 go_enter Tryd.func46, Tryd.ntmps46
 go_upto_region 5 with (first
  | (go_at_call 56; refine (new_lexer W0 _ text HB.out).mono ?_; rintro e w1 ⟨lx, g, rfl, hL1⟩)
  | (go_at_call 57; refine (LEX.out _ lx g hL1).mono ?_; rintro e w2 ⟨rfl, er, D, hP, hDl, hE⟩)
  | fail)
 obtain ⟨g2, vd, ev, hl2, her, hr2⟩ := hE.ob
 have HST := Aside0.mk (DSt.start hE _ _ rfl rfl hl2 hr2)
 obtain ⟨A, c, hvd⟩ := Kd.R_slice hr2
 rw [List.length_map] at hvd
 subst hvd
 have HER := Aside0.mk her
 have HP := Aside0.mk hP
 have HDL := Aside0.mk hDl
 have y1 := (blk_cell HST.out.lxo 1).trans rfl
 clear hE hl2 her hr2 hP hDl hL1
 generalize (w2.alloc (.cells #[] 78 (0, 0))).alloc (.cells #[] 48 (0, 0)) = w3 at HST y1 ⊢
 go_wp2
 go_loopg [6, 7, 23] (D.length + 1) (fun kq v6 v7 v23 w' => ∃ (D1 D2 : List Ent) (P : List (Nat × O)), v23 = .int .i64 (D1.length : Int) ∧ Aside0 (D = D1 ++ D2) ∧ Aside0 (DSt W0 w' lx g2 (.slice A D.length c) ev D1 D2 v6 v7 P) ∧ Aside0 (okD false (D.map (·.ld)) = okD (decide (secXs D1 ≠ [])) (D2.map (·.ld))) ∧ Aside0 (D2.length < kq) ∧ Aside0 (P.length ≤ D1.length))
 case atStart => exact ⟨[], D, [], rfl, ⟨rfl⟩, HST, ⟨rfl⟩, ⟨by omega⟩, ⟨Nat.le_refl _⟩⟩
 case round =>
  clear HST
  obtain ⟨D1, D2, P, rfl, HDD, HST, HOK, HM, HPL⟩ := hrel
  have hdd := HDD.out
  have hlen := congrArg List.length hdd
  rw [List.length_append] at hlen
  cases D2 with
  | nil =>
   have d0 : decide ((D1.length : Int) < (D.length : Int)) = false := decide_eq_false (by simp at hlen; omega)
   have d1 : decide (D1.length < D.length) = false := decide_eq_false (by simp at hlen; omega)
   have y2 : wr.cell? ⟨lx, 2, none⟩ = some ev := (blk_cell HST.out.lxo 2).trans rfl
   have HLN := Aside0.mk hlen
   clear hlen hdd y1
   go_wp2
   go_quiet (fail)
   go_wp2
   go_ret3
   have hD : D1.map (·.ld) = D.map (·.ld) := by rw [HDD.out, List.append_nil]
   refine ⟨pw_below_drewN HST.out.bel _, er, D.map (·.ld), HP.out, .inl ⟨HOK.out, u6, u7, ev, P, rfl, HER.out, Kd.R_drewN HST.out.optR _, HST.out.opts, by rw [HST.out.pso, hD], ?_⟩⟩
   have := HPL.out
   have := HLN.out
   have := HDL.out
   simp only [List.length_nil] at *
   omega
  | cons e D2 =>
   have d0 : decide ((D1.length : Int) < (D.length : Int)) = true := decide_eq_true (by simp at hlen; omega)
   have d1 : decide (D1.length < D.length) = true := decide_eq_true (by simp at hlen; omega)
   have p0 : ((0 : Int) ≤ (D1.length : Int)) = True := eq_true (by omega)
   have p1 : ((D1.length : Int) < (D.length : Int)) = True := eq_true (by simp at hlen; omega)
   have e2 : IntKind.i64.wrap ((D1.length : Int) + 1) = (D1.length : Int) + 1 := by have := HDL.out; simp at hlen; rw [PrintLast.i64_w]; unfold wrap64; omega
   obtain ⟨gr, cap, hform, -⟩ := Kd.R_form HST.out.row (by rw [List.length_map, List.length_append, List.length_cons]; omega)
   obtain rfl : A = some ⟨gr, 0, none⟩ := by
    injection hform
   have hc := (Kd.R_celln (0 : Nat) HST.out.row (D1.length : Int) (by omega) (by simp at hlen; omega)).1
   have he : rdOf (0 : Nat) ((D1 ++ e :: D2).map (·.b)) (D1.length : Int) = e.b := by
    unfold rdOf
    simp
   rw [he, Int.toNat_natCast] at hc
   have HLN := Aside0.mk hlen
   clear hlen hdd hform he y1
   obtain ⟨⟨ha, hab, hax, hay, hay2⟩⟩ : Aside0 _ := Aside0.mk (HST.out.ents e (by simp))
   obtain ⟨ld, eb, ex, ey⟩ := e
   cases ld with
   | sec a =>
    have c0 : wr.cell? ⟨eb, 0, none⟩ = some (.int .i64 0) := (blk_cell ha.1 0).trans rfl
    have c2 : wr.cell? ⟨eb, 2, none⟩ = some (.pointer (some ⟨ex, 0, none⟩)) := (blk_cell ha.1 2).trans rfl
    clear ha hab hax hay hay2
    go_wp2_with (first
     | ((with_reducible refine gate_builtin (b := .append) (xs := #[.tmp 82, .tmp 87]) rfl ?_); at_builtin; refine Kd.R_append kA (w0 := W0) W0.heap.size rfl (.tmp 82) (.tmp 87) 55 78 (.pointer none) 8 rfl Tryd.underlying55 infoSec rfl (by decide) (by omega) _ _ ex [.pointer (some ⟨ex, 0, none⟩)] (fun _ => True) (fun _ => False) rfl (by first | (go_simp; done) | (go_simp; rfl)) rfl (fun _ hk => hk.elim) (fun _ _ => trivial) HST.out.secR HST.out.bel HST.out.bel.size (by have := secXs_len D1; have := HDL.out; have := HLN.out; simp only [List.length_cons] at *; omega) ?_; intro v8 w8 ho hb8 hg8 hat8; have HS2 := Aside0.mk (DSt.sec HST.out (Below.refl _ _) hg8 ho hb8); clear ho hb8 hg8 hat8)
     | fail)
    go_roundg (gk - 1)
    case measure => have := HM.out; simp only [List.length_cons] at this; omega
    case rel =>
     refine ⟨D1 ++ [⟨.sec a, eb, ex, ey⟩], D2, P, by rw [List.length_append]; rfl, ⟨by rw [HDD.out]; simp⟩, HS2, ⟨?_⟩, ⟨by have := HM.out; simp only [List.length_cons] at this; omega⟩, ⟨by rw [List.length_append]; exact Nat.le_succ_of_le HPL.out⟩⟩
     rw [HOK.out, secXs_app]
     simp [okD, secXs]
   | opt s n v =>
    obtain ⟨A6, c6, e6⟩ := Kd.R_slice HST.out.secR
    subst e6
    have c0 : wr.cell? ⟨eb, 0, none⟩ = some (.int .i64 1) := (blk_cell ha.1 0).trans rfl
    have c1 : wr.cell? ⟨eb, 1, none⟩ = some (.pointer (some ⟨ex, 0, none⟩)) := (blk_cell ha.1 1).trans rfl
    have z0 : wr.cell? ⟨ex, 0, none⟩ = some (.string (sB s)) := (blk_cell ha.2 0).trans rfl
    have z1 : wr.cell? ⟨ex, 1, none⟩ = some (.string (sB n)) := (blk_cell ha.2 1).trans rfl
    have z2 : wr.cell? ⟨ex, 2, none⟩ = some (.string (sB v)) := (blk_cell ha.2 2).trans rfl
    clear ha hab hax hay hay2
    rcases Nat.eq_zero_or_pos (secXs D1).length with hs0 | hs0
    ·have t0 : (((secXs D1).length : Int) == 0) = true := by rw [hs0]; rfl
     have HS0 := Aside0.mk hs0
     clear hs0
     go_wp2_with (first
      | ((with_reducible refine gate_builtin (b := .append) (xs := #[.tmp 44, .tmp 45]) rfl ?_); at_builtin; refine Kd.R_append kA (w0 := W0) W0.heap.size rfl (.tmp 44) (.tmp 45) 42 48 (.pointer none) 8 rfl Tryd.underlying42 infoOpt rfl (by decide) (by omega) _ _ wr.heap.size [.pointer (some ⟨wr.heap.size, 0, none⟩)] (fun _ => True) (fun _ => False) rfl (by first | (go_simp; done) | (go_simp; rfl)) rfl (fun _ hk => hk.elim) (fun _ _ => trivial) (Kd.R_below HST.out.optR (below_alloc (Below.refl _ _) _)) (below_then HST.out.bel HST.out.bel.size (below_alloc (Below.refl _ _) _)) (Nat.le_trans HST.out.bel.size (by rw [sz_alloc]; omega)) (by have := HPL.out; have := HDL.out; have := HLN.out; simp only [List.length_cons, List.length_map] at *; omega) ?_; intro v8 w8 ho hb8 hg8 hat8; have HO8 := Aside0.mk ho; have HB8 := Aside0.mk hb8; have HG8 := Aside0.mk hg8; clear ho hb8 hg8 hat8)
      | (go_at_call 58; refine (err_new _ _).mono ?_; rintro e w9 ⟨⟨et, eu, rfl⟩, hb9⟩)
      | fail)
     go_ret3
     refine ⟨below_then HB8.out HB8.out.size hb9, er, D.map (·.ld), HP.out, .inr ⟨?_, et, eu, rfl⟩⟩
     rw [HOK.out, List.length_eq_zero_iff.1 HS0.out]
     rfl
    ·obtain ⟨m, hm⟩ : ∃ m, (secXs D1).length = m + 1 := ⟨(secXs D1).length - 1, by omega⟩
     have t0 : ((((m + 1 : Nat)) : Int) == 0) = false := beq_eq_false_iff_ne.mpr (by omega)
     have t1 : (((m : Int) + 1) == 0) = false := beq_eq_false_iff_ne.mpr (by omega)
     have e3 : IntKind.i64.wrap ((m : Int) + 1 - 1) = (m : Int) := by have := secXs_len D1; have := HDL.out; have h9 := HLN.out; simp only [List.length_cons] at h9; rw [PrintLast.i64_w]; unfold wrap64; omega
     have hm9 : m ≤ 10000000 := by have := secXs_len D1; have := HDL.out; have h9 := HLN.out; simp only [List.length_cons] at h9; omega
     have e4 : IntKind.i64.wrap (m : Int) = (m : Int) := by rw [PrintLast.i64_w]; unfold wrap64; omega
     have e5 : wrap64 (m : Int) = (m : Int) := by unfold wrap64; omega
     clear hm9
     rw [hm] at HST ⊢
     clear hs0
     have HM1 := Aside0.mk hm
     clear hm
     go_upto_region 16 with (first
      | ((with_reducible refine gate_builtin (b := .append) (xs := #[.tmp 44, .tmp 45]) rfl ?_); at_builtin; refine Kd.R_append kA (w0 := W0) W0.heap.size rfl (.tmp 44) (.tmp 45) 42 48 (.pointer none) 8 rfl Tryd.underlying42 infoOpt rfl (by decide) (by omega) _ _ wr.heap.size [.pointer (some ⟨wr.heap.size, 0, none⟩)] (fun _ => True) (fun _ => False) rfl (by first | (go_simp; done) | (go_simp; rfl)) rfl (fun _ hk => hk.elim) (fun _ _ => trivial) (Kd.R_below HST.out.optR (below_alloc (Below.refl _ _) _)) (below_then HST.out.bel HST.out.bel.size (below_alloc (Below.refl _ _) _)) (Nat.le_trans HST.out.bel.size (by rw [sz_alloc]; omega)) (by have := HPL.out; have := HDL.out; have := HLN.out; simp only [List.length_cons, List.length_map] at *; omega) ?_; intro v8 w8 ho hb8 hg8 hat8; have HO8 := Aside0.mk ho; have HB8 := Aside0.mk hb8; have HG8 := Aside0.mk hg8; clear ho hb8 hg8 hat8)
      | fail)
     have hlast : (secXs D1).getLast? = some ((secXs D1)[m]'(by have := HM1.out; omega)) := by
      rw [List.getLast?_eq_getElem?]
      exact (congrArg (fun j => (secXs D1)[j]?) (show (secXs D1).length - 1 = m by have := HM1.out; omega)).trans (List.getElem?_eq_getElem _)
     obtain ⟨x, hx⟩ : ∃ x, (secXs D1)[m]'(by have := HM1.out; omega) = x := ⟨_, rfl⟩
     rw [hx] at hlast
     obtain ⟨hbx, sa, sl, xs, hxo, hsl, hy, hxl⟩ := HST.out.newest x hlast
     have mv8 : ∀ (k : Nat) (cs : Array Value) (t : TypeId), wr.heap[k]? = some (.cells cs t (0, 0)) → t ≠ 48 → w8.heap[k]? = some (.cells cs t (0, 0)) := fun k cs t hk ht => by
      have h1 := blk_alloc hk (optObj ⟨s, n, v⟩)
      exact blk_grown h1 HG8.out (Kd.R_ne (Kd.R_below HST.out.optR (below_alloc (Below.refl _ _) _)) h1 (Ne.symm ht))
     obtain ⟨g6, cap6, hform6, -, -, cs6, hcs6⟩ := Kd.R_form HST.out.secR (by rw [HM1.out]; omega)
     obtain rfl : A6 = some ⟨g6, 0, none⟩ := by injection hform6
     have hc6 := (Kd.R_celln (0 : Nat) HST.out.secR (m : Int) (by omega) (by omega)).1
     have he6 : rdOf (0 : Nat) (secXs D1) (m : Int) = x := by
      unfold rdOf
      rw [Int.toNat_natCast, List.getD_eq_getElem?_getD, List.getElem?_eq_getElem (by have := HM1.out; omega), hx]
      rfl
     rw [he6, Int.toNat_natCast] at hc6
     have hr8 := mv8 _ _ _ hcs6 (by decide)
     have hk6 : wr.cell? ⟨g6, m, none⟩ = w8.cell? ⟨g6, m, none⟩ := by rw [blk_cell hcs6, blk_cell hr8]
     have hob8 : w8.heap[wr.heap.size]? = some (optObj ⟨s, n, v⟩) := blk_grown (blk_new wr _) HG8.out (Kd.R_ne (Kd.R_below HST.out.optR (below_alloc (Below.refl _ _) _)) (blk_new wr (optObj ⟨s, n, v⟩)) (by decide))
     have HX8 := Aside0.mk (mv8 _ _ _ hxo (by decide))
     have HSL8 := Aside0.mk (kA_mv hsl (w2 := w8) (fun k cs _ hk => mv8 _ _ _ hk (by decide)))
     have HOB8 := Aside0.mk hob8
     have HXL := Aside0.mk hxl
     have HR8 := Aside0.mk hr8
     have HK8 : Aside0 (w8.cell? ⟨g6, m, none⟩ = some (.pointer (some ⟨x, 0, none⟩))) := ⟨by rw [← hk6]; exact hc6⟩
     have GR8 : Aside0 (∀ (W' w' : World), Below w8.heap.size w8 W' → W'.grownBy w' sl.ownBlock → w'.cell? ⟨g6, m, none⟩ = some (.pointer (some ⟨x, 0, none⟩))) := ⟨fun W' w' hb hg => by
      have h1 := blk_below HR8.out hb
      have h2 := blk_grown h1 hg (Kd.R_ne (Kd.R_below HSL8.out hb) h1 (by decide))
      rw [blk_cell h2, ← blk_cell HR8.out]
      exact HK8.out⟩
     have FC1 : ∀ X, Below w8.heap.size w8 X → X.cell? ⟨g6, m, none⟩ = some (.pointer (some ⟨x, 0, none⟩)) := fun X hX => pw_cell_below hX HK8.out
     have FC2 : ∀ X, Below w8.heap.size w8 X → X.cell? ⟨x, 1, none⟩ = some sl := fun X hX => (blk_cell (blk_below HX8.out hX) 1).trans rfl
     have FC3 : ∀ X, Below w8.heap.size w8 X → X.cell? ⟨wr.heap.size, 1, none⟩ = some (.string (sB n)) := fun X hX => (blk_cell (blk_below HOB8.out hX) 1).trans rfl
     have FC4 : ∀ X, Below w8.heap.size w8 X → X.cell? ⟨wr.heap.size, 2, none⟩ = some (.string (sB v)) := fun X hX => (blk_cell (blk_below HOB8.out hX) 2).trans rfl
     have r0 : ((0 : Int) ≤ (m : Int)) = True := eq_true (by omega)
     have r1 : ((m : Int) < (m : Int) + 1) = True := eq_true (by omega)
     have r2 : (m < m + 1) = True := eq_true (by omega)
     have HLA := Aside0.mk hlast
     have HXO := Aside0.mk hxo
     have HSL := Aside0.mk hsl
     have HY := Aside0.mk hy
     have HBX := Aside0.mk hbx
     clear hlast hx hbx hxo hsl hy hxl mv8 hform6 hcs6 hc6 he6 hr8 hk6 hob8 c0 c1 z0 z1 z2
     refine start_ (n := 22) (S := fun w' => w'.cell? ⟨g6, m, none⟩ = some (.pointer (some ⟨x, 0, none⟩)) ∧ w'.cell? ⟨x, 1, none⟩ = some sl ∧ w'.cell? ⟨wr.heap.size, 1, none⟩ = some (.string (sB n)) ∧ w'.cell? ⟨wr.heap.size, 2, none⟩ = some (.string (sB v))) (ds := [21]) (bb [0, 22]) (by kernel_rfl) rfl rfl ⟨(FC1 _ (by repeat (first | exact Below.refl _ _ | apply below_alloc | apply below_drew))), (FC2 _ (by repeat (first | exact Below.refl _ _ | apply below_alloc | apply below_drew))), (FC3 _ (by repeat (first | exact Below.refl _ _ | apply below_alloc | apply below_drew))), (FC4 _ (by repeat (first | exact Below.refl _ _ | apply below_alloc | apply below_drew)))⟩ (fun hHeld => ?_)
     refine pure_ (i := 0) (N := some 54) (v := ?_) (a' := ?_) (bb [1, 21]) rfl rfl (by kernel_rfl) (fun _ _ _ h => h) (Or.inl ⟨by rfl, ?_⟩) ?_ ?_
     rotate_left
     ·intro w'
      go_simp
      with_reducible rfl
     rotate_left
     ·simp only [Act.put, List.setIfInBounds_toArray, List.set_cons_zero, List.set_cons_succ, i64_w, i32_w]
      rfl
     refine pure_ (i := 1) (N := some 55) (v := ?_) (a' := ?_) (bb [2, 20]) rfl rfl (by kernel_rfl) (fun _ _ _ h => h) (Or.inl ⟨by rfl, ?_⟩) ?_ ?_
     rotate_left
     ·intro w'
      go_simp
      with_reducible rfl
     rotate_left
     ·simp only [Act.put, List.setIfInBounds_toArray, List.set_cons_zero, List.set_cons_succ, i64_w, i32_w]
      rfl
     refine pure_ (i := 2) (N := some 56) (v := ?_) (a' := ?_) (bb [3, 19]) rfl rfl (by kernel_rfl) (fun _ _ _ h => h) (Or.inl ⟨by rfl, ?_⟩) ?_ ?_
     rotate_left
     ·intro w'
      go_simp
      with_reducible rfl
     rotate_left
     ·simp only [Act.put, List.setIfInBounds_toArray, List.set_cons_zero, List.set_cons_succ, i64_w, i32_w]
      rfl
     refine pure_ (i := 4) (N := some 58) (v := ?_) (a' := ?_) (bb [3, 1, 1, 17]) rfl rfl (by kernel_rfl) (fun _ _ _ h => h) (Or.inl ⟨by rfl, ?_⟩) ?_ ?_
     rotate_left
     ·intro w'
      go_simp
      with_reducible rfl
     rotate_left
     ·simp only [Act.put, List.setIfInBounds_toArray, List.set_cons_zero, List.set_cons_succ, i64_w, i32_w]
      rfl
     refine pure_ (i := 5) (N := some 59) (v := ?_) (a' := ?_) (bb [3, 1, 2, 16]) rfl rfl (by kernel_rfl) (fun _ _ _ h => h) (Or.inl ⟨by rfl, ?_⟩) ?_ ?_
     rotate_left
     ·intro w'
      go_simp
      with_reducible rfl
     rotate_left
     ·simp only [Act.put, List.setIfInBounds_toArray, List.set_cons_zero, List.set_cons_succ, i64_w, i32_w]
      rfl
     refine pure_ (i := 6) (N := some 60) (v := ?_) (a' := ?_) (bb [3, 1, 3, 15]) rfl rfl (by kernel_rfl) (fun _ _ _ h => h) (Or.inl ⟨by rfl, ?_⟩) ?_ ?_
     rotate_left
     ·intro w'
      go_simp
      with_reducible rfl
     rotate_left
     ·simp only [Act.put, List.setIfInBounds_toArray, List.set_cons_zero, List.set_cons_succ, i64_w, i32_w]
      rfl
     refine pure_ (i := 11) (N := some 65) (v := ?_) (a' := ?_) (bb [3, 1, 3, 4, 1, 10]) rfl rfl (by kernel_rfl) (fun _ _ _ h => h) (Or.inl ⟨by rfl, ?_⟩) ?_ ?_
     rotate_left
     ·intro w'
      go_simp
      with_reducible rfl
     rotate_left
     ·simp only [Act.put, List.setIfInBounds_toArray, List.set_cons_zero, List.set_cons_succ, i64_w, i32_w]
      rfl
     refine pure_ (i := 13) (N := some 67) (v := ?_) (a' := ?_) (bb [3, 1, 3, 4, 1, 1, 1, 8]) rfl rfl (by kernel_rfl) (fun _ _ _ h => h) (Or.inl ⟨by rfl, ?_⟩) ?_ ?_
     rotate_left
     ·intro w'
      go_simp
      with_reducible rfl
     rotate_left
     ·simp only [Act.put, List.setIfInBounds_toArray, List.set_cons_zero, List.set_cons_succ, i64_w, i32_w]
      rfl
     refine take_ (i := 3) (N := some 57) (v := ?_) (a' := ?_) (bb [7, 4, 1, 1, 1, 8]) rfl rfl (by kernel_rfl) (fun _ _ _ h => h) (Or.inl ⟨by rfl, ?_⟩) hHeld ?_ ?_
     rotate_left
     ·rintro w' ⟨s0, s1, s2, s3⟩
      go_simp
      with_reducible rfl
     rotate_left
     ·simp only [Act.put, List.setIfInBounds_toArray, List.set_cons_zero, List.set_cons_succ, i64_w, i32_w]
      rfl
     refine take_ (i := 7) (N := some 61) (v := ?_) (a' := ?_) (bb [8, 3, 1, 1, 1, 8]) rfl rfl (by kernel_rfl) (fun _ _ _ h => h) (Or.inl ⟨by rfl, ?_⟩) hHeld ?_ ?_
     rotate_left
     ·rintro w' ⟨s0, s1, s2, s3⟩
      go_simp
      with_reducible rfl
     rotate_left
     ·simp only [Act.put, List.setIfInBounds_toArray, List.set_cons_zero, List.set_cons_succ, i64_w, i32_w]
      rfl
     refine pure_ (i := 8) (N := some 62) (v := ?_) (a' := ?_) (bb [9, 2, 1, 1, 1, 8]) rfl rfl (by kernel_rfl) (fun _ _ _ h => h) (Or.inl ⟨by rfl, ?_⟩) ?_ ?_
     rotate_left
     ·intro w'
      go_simp
      with_reducible rfl
     rotate_left
     ·simp only [Act.put, List.setIfInBounds_toArray, List.set_cons_zero, List.set_cons_succ, i64_w, i32_w]
      rfl
     refine pure_ (i := 9) (N := some 63) (v := ?_) (a' := ?_) (bb [10, 1, 1, 1, 1, 8]) rfl rfl (by kernel_rfl) (fun _ _ _ h => h) (Or.inl ⟨by rfl, ?_⟩) ?_ ?_
     rotate_left
     ·intro w'
      go_simp
      with_reducible rfl
     rotate_left
     ·simp only [Act.put, List.setIfInBounds_toArray, List.set_cons_zero, List.set_cons_succ, i64_w, i32_w]
      rfl
     refine take_ (i := 10) (N := some 64) (v := ?_) (a' := ?_) (bb [12, 1, 1, 8]) rfl rfl (by kernel_rfl) (fun _ _ _ h => h) (Or.inl ⟨by rfl, ?_⟩) hHeld ?_ ?_
     rotate_left
     ·rintro w' ⟨s0, s1, s2, s3⟩
      go_simp
      with_reducible rfl
     rotate_left
     ·simp only [Act.put, List.setIfInBounds_toArray, List.set_cons_zero, List.set_cons_succ, i64_w, i32_w]
      rfl
     refine take_ (i := 12) (N := some 66) (v := ?_) (a' := ?_) (bb [14, 8]) rfl rfl (by kernel_rfl) (fun _ _ _ h => h) (Or.inl ⟨by rfl, ?_⟩) hHeld ?_ ?_
     rotate_left
     ·rintro w' ⟨s0, s1, s2, s3⟩
      go_simp
      with_reducible rfl
     rotate_left
     ·simp only [Act.put, List.setIfInBounds_toArray, List.set_cons_zero, List.set_cons_succ, i64_w, i32_w]
      rfl
     refine take_ (i := 14) (N := some 68) (v := ?_) (a' := ?_) (bb [15, 7]) rfl rfl (by kernel_rfl) (fun _ _ _ h => h) (Or.inl ⟨by rfl, ?_⟩) hHeld ?_ ?_
     rotate_left
     ·rintro w' ⟨s0, s1, s2, s3⟩
      go_simp
      with_reducible rfl
     rotate_left
     ·simp only [Act.put, List.setIfInBounds_toArray, List.set_cons_zero, List.set_cons_succ, i64_w, i32_w]
      rfl
     refine pure_ (i := 15) (N := some 69) (v := ?_) (a' := ?_) (bb [16, 6]) rfl rfl (by kernel_rfl) (fun _ _ _ h => h) (Or.inl ⟨by rfl, ?_⟩) ?_ ?_
     rotate_left
     ·intro w'
      go_simp
      with_reducible rfl
     rotate_left
     ·simp only [Act.put, List.setIfInBounds_toArray, List.set_cons_zero, List.set_cons_succ, i64_w, i32_w]
      rfl
     refine one_ (i := 16) (N := some 70) (bb [17, 5]) rfl rfl (by kernel_rfl) (by decide) (fun K hK => ?_)
     refine value_ (w1 := ?_) (v := ?_) (by rfl) rfl ?_ ?_
     rotate_left 2
     ·go_simp
      constructor
      ·rfl
      ·rfl
     refine hK.out _ _ ⟨(FC1 _ (by repeat (first | exact Below.refl _ _ | apply below_alloc | apply below_drew))), (FC2 _ (by repeat (first | exact Below.refl _ _ | apply below_alloc | apply below_drew))), (FC3 _ (by repeat (first | exact Below.refl _ _ | apply below_alloc | apply below_drew))), (FC4 _ (by repeat (first | exact Below.refl _ _ | apply below_alloc | apply below_drew)))⟩ (fun hHeld => ?_)
     clear hK K
     refine norm_ (a' := ?_) ?_ ?_
     rotate_left
     ·show Act.put _ (some 70) _ = _
      simp only [Act.put, List.setIfInBounds_toArray, List.set_cons_zero, List.set_cons_succ, i64_w, i32_w]
      rfl
     refine one_ (i := 17) (N := some 71) (bb [18, 4]) rfl rfl (by kernel_rfl) (by decide) (fun K hK => ?_)
     refine value_ (w1 := ?_) (v := ?_) (by rfl) rfl ?_ ?_
     rotate_left 2
     ·go_simp
      constructor
      ·rfl
      ·rfl
     refine hK.out _ _ ⟨(FC1 _ (by repeat (first | exact Below.refl _ _ | apply below_alloc | apply below_drew))), (FC2 _ (by repeat (first | exact Below.refl _ _ | apply below_alloc | apply below_drew))), (FC3 _ (by repeat (first | exact Below.refl _ _ | apply below_alloc | apply below_drew))), (FC4 _ (by repeat (first | exact Below.refl _ _ | apply below_alloc | apply below_drew)))⟩ (fun hHeld => ?_)
     clear hK K
     refine norm_ (a' := ?_) ?_ ?_
     rotate_left
     ·show Act.put _ (some 71) _ = _
      simp only [Act.put, List.setIfInBounds_toArray, List.set_cons_zero, List.set_cons_succ, i64_w, i32_w]
      rfl
     refine one_ (i := 18) (N := some 72) (bb [19, 3]) rfl rfl (by kernel_rfl) (by decide) (fun K hK => ?_)
     refine kA_append_drew (w0 := W0) 82 85 Tryd.underlying82 infoEnt W0.heap.size (by rfl) (.tmp 64) (.tmp 71) rfl sl xs _ rfl (by first | (go_simp; done) | (go_simp; rfl)) (Kd.R_below HSL8.out (by repeat (first | exact Below.refl _ _ | apply below_alloc | apply below_drew))) (below_then HB8.out HB8.out.size (by repeat (first | exact Below.refl _ _ | apply below_alloc | apply below_drew))) (by have := HB8.out.size; simp only [sz_alloc]; exact Nat.le_trans this (by first | exact Nat.le_add_right _ _ | omega)) (by have := HXL.out; have := HDL.out; have := HLN.out; omega) ?_
     intro v11 w11 ho hb11 hg hat; obtain ⟨A11, c11, rfl⟩ := Kd.R_slice ho; have HO11 := Aside0.mk ho; have HB11 := Aside0.mk hb11; have HG11 := Aside0.mk hg; have HAT11 := Aside0.mk hat; have hx11 := blk_grown (blk_below HX8.out (show Below w8.heap.size w8 _ from (by repeat (first | exact Below.refl _ _ | apply below_alloc | apply below_drew)))) hg (Kd.R_ne (Kd.R_below HSL8.out (show Below w8.heap.size w8 _ from (by repeat (first | exact Below.refl _ _ | apply below_alloc | apply below_drew)))) (blk_below HX8.out (show Below w8.heap.size w8 _ from (by repeat (first | exact Below.refl _ _ | apply below_alloc | apply below_drew)))) (by decide)); have HX11 := Aside0.mk hx11; have hfz := blk_frozen hx11 1; have hxc : w11.cell? ⟨x, 1, none⟩ = some sl := (blk_cell hx11 1).trans rfl; have HZ : _ ∧ _ ∧ _ ∧ _ := ⟨GR8.out _ _ (by repeat (first | exact Below.refl _ _ | apply below_alloc | apply below_drew)) hg, hxc, (blk_cell (blk_grown (blk_below HOB8.out (show Below w8.heap.size w8 _ from (by repeat (first | exact Below.refl _ _ | apply below_alloc | apply below_drew)))) hg (Kd.R_ne (Kd.R_below HSL8.out (show Below w8.heap.size w8 _ from (by repeat (first | exact Below.refl _ _ | apply below_alloc | apply below_drew)))) (blk_below HOB8.out (show Below w8.heap.size w8 _ from (by repeat (first | exact Below.refl _ _ | apply below_alloc | apply below_drew)))) (by decide))) 1).trans rfl, (blk_cell (blk_grown (blk_below HOB8.out (show Below w8.heap.size w8 _ from (by repeat (first | exact Below.refl _ _ | apply below_alloc | apply below_drew)))) hg (Kd.R_ne (Kd.R_below HSL8.out (show Below w8.heap.size w8 _ from (by repeat (first | exact Below.refl _ _ | apply below_alloc | apply below_drew)))) (blk_below HOB8.out (show Below w8.heap.size w8 _ from (by repeat (first | exact Below.refl _ _ | apply below_alloc | apply below_drew)))) (by decide))) 2).trans rfl⟩; clear ho hb11 hg hat hx11
     refine hK.out _ _ ⟨HZ.1, HZ.2.1, HZ.2.2.1, HZ.2.2.2⟩ (fun hHeld => ?_)
     clear hK K
     refine norm_ (a' := ?_) ?_ ?_
     rotate_left
     ·show Act.put _ (some 72) _ = _
      simp only [Act.put, List.setIfInBounds_toArray, List.set_cons_zero, List.set_cons_succ, i64_w, i32_w]
      rfl
     refine pure_ (i := 19) (N := some 73) (v := ?_) (a' := ?_) (bb [20, 2]) rfl rfl (by kernel_rfl) (fun _ _ _ h => h) (Or.inl ⟨by rfl, ?_⟩) ?_ ?_
     rotate_left
     ·intro w'
      go_simp
      with_reducible rfl
     rotate_left
     ·simp only [Act.put, List.setIfInBounds_toArray, List.set_cons_zero, List.set_cons_succ, i64_w, i32_w]
      rfl
     refine pure_ (i := 20) (N := some 74) (v := ?_) (a' := ?_) (bb [21, 1]) rfl rfl (by kernel_rfl) (fun _ _ _ h => h) (Or.inl ⟨by rfl, ?_⟩) ?_ ?_
     rotate_left
     ·intro w'
      go_simp
      with_reducible rfl
     rotate_left
     ·simp only [Act.put, List.setIfInBounds_toArray, List.set_cons_zero, List.set_cons_succ, i64_w, i32_w]
      rfl
     refine last_ (i := 21) (N := none) (bb [22]) rfl rfl (by kernel_rfl) (by decide) (fun K hK => ?_)
     refine skip_ (w1 := ?_) (by rfl) rfl ?_ ?_
     rotate_left
     ·go_simp
      rfl
     refine hK.out _ _ ?_
     clear hK K
     refine done_ (by kernel_rfl) ?_
     go_wp2
     have e12 : (xs ++ [w8.heap.size]).length = xs.length + 1 := by simp
     have hDS := DSt.opt HST.out HLA.out HXO.out HSL.out (fun k hk e he => HY.out k hk e (by simp [he])) HXL.out HBX.out (below_alloc (Below.refl _ _) _) (blk_new wr _) HST.out.bel.size HG8.out HO8.out (by repeat (first | exact Below.refl _ _ | apply below_alloc | apply below_drew)) HG11.out HO11.out HAT11.out HB11.out
     rw [e12] at hDS
     go_roundg (gk - 1)
     case measure => have := HM.out; simp only [List.length_cons] at this; omega
     case rel =>
      refine ⟨D1 ++ [⟨.opt s n v, eb, ex, ey⟩], D2, P ++ [(wr.heap.size, ⟨s, n, v⟩)], by rw [List.length_append]; rfl, ⟨by rw [HDD.out]; simp⟩, ⟨hDS⟩, ⟨?_⟩, ⟨by have := HM.out; simp only [List.length_cons] at this; omega⟩, ⟨by rw [List.length_append, List.length_append]; exact Nat.succ_le_succ HPL.out⟩⟩
      have hne : secXs D1 ≠ [] := fun h => by have := HM1.out; rw [h] at this; simp at this
      rw [HOK.out, secXs_app]
      simp [okD, secXs, hne]
end Go.Proofs.YtgnfapnnbcafbaaDoor.UN
end
section
/- DeserializeOptions. Conditions: a text of at most a million bytes; the library's tables as laid; Wp. -/
namespace Go.Proofs.YtgnfapnnbcafbaaDoor.UN
open Go Go.RowKit Go.Proofs.YtgnfapnnbcafbaaDoorW.PrintWords Go.Proofs.YtgnfapnnbcafbaaDoorW
set_option linter.unusedVariables false
set_option linter.unusedSimpArgs false
def OptsPost (W0 : World) (Post : Bool → List LD → Prop) (e : Ending) (w' : World) : Prop := Below W0.heap.size W0 w' ∧ ∃ er ds, Post er ds ∧
  (((er || !okD false ds) = false ∧ ∃ (v7 : Value) (P : List (Nat × O)), e = .returned (.tuple #[v7, .nilIface]) ∧ kA.R 48 w' W0.heap.size (fun _ => True) v7 (P.map (·.1)) ∧ (∀ p ∈ P, W0.heap.size ≤ p.1 ∧ w'.heap[p.1]? = some (optObj p.2)) ∧ P.map (·.2) = optsOf ds ∧ P.length ≤ 10000000) ∨
   ((er || !okD false ds) = true ∧ ∃ v t u, e = .returned (.tuple #[v, .iface t u])))
theorem opts_call (W0 W : World) (k : Nat) (text : ByteArray) (Post : Bool → List LD → Prop) (hT : UTab W0) (hRC : RuneC text) (hB : Below W0.heap.size W0 W) (hsz : text.size ≤ 1000000) (hW : Wp TrimC k .ns text.data.toList [] Post) (hk : k ≤ 10000000) :
  Calls Tryd.prog 37 #[.string text] W (OptsPost W0 Post) := by
 have DES := Aside0.mk (des_call W0 W k text Post hT hRC hB hsz hW hk)
 clear hT hRC hB hsz hW hk
 go_enter Tryd.func37, Tryd.ntmps37
 go_wp2_with (first
  | (go_at_call 46; refine DES.out.mono ?_; rintro e w1 ⟨hb1, er, ds, hP, (⟨hok, v6, v7, ev, P, rfl, hev, hr, ho, hm, hl⟩ | ⟨hok, t, u, rfl⟩)⟩)
  | fail)
 ·go_ret2
  refine ⟨hb1, er, ds, hP, ?_⟩
  rw [hok]
  cases er with
  | false =>
   obtain rfl : ev = .nilIface := hev
   exact .inl ⟨rfl, v7, P, rfl, hr, ho, hm, hl⟩
  | true =>
   obtain ⟨t, u, rfl⟩ := hev
   exact .inr ⟨rfl, v7, t, u, rfl⟩
 ·go_ret2
  refine ⟨hb1, er, ds, hP, .inr ⟨?_, _, t, u, rfl⟩⟩
  rw [hok]
  cases er <;> rfl
end Go.Proofs.YtgnfapnnbcafbaaDoor.UN
end
section
/- impl.UnitRead: a unit file's options, or the code 1. Conditions: a text of at most a million bytes; the library's tables as laid; Wp. -/
namespace Go.Proofs.YtgnfapnnbcafbaaDoor.UN
open Go Go.RowKit Go.Proofs.YtgnfapnnbcafbaaDoorW.PrintWords Go.Proofs.YtgnfapnnbcafbaaDoorW Go.Proofs.YtgnfapnnbcafbaaDoorW.PrintLast Go.Proofs.YtgnfapnnbcafbaaDoor.GUL
set_option linter.unusedVariables false
set_option linter.unusedSimpArgs false
theorem infoM30 : (Tryd.prog.info? 30).map (fun i => (i.zero, i.size, i.bytes)) = some (some (.agg #[(.string ⟨#[]⟩), (.string ⟨#[]⟩), (.string ⟨#[]⟩)]), 3, 48) := by kernel_rfl
theorem catch_idle (p q : Addr) (w : World) :
  CallsD Tryd.prog 36 #[.pointer (some p), .pointer (some q)] .returning w fun e u' w' => e = .returned (.tuple #[]) ∧ u' = .returning ∧ w' = w := by
 refine callsD_of_wpS Tryd.func36 rfl fun c₀ cs hu => ?_
 apply wpS_seq
 apply wpS_region
 simp [wpOpsS, go_sem, recoverD, hu, Tryd.ntmps36, Exit.thenS]
 refine wpS_cond (t := false) (by simp [Act.eval, Array.replicate]) ?_
 simp only [Bool.false_eq_true, if_false]
 refine wpS_of_wp (wp_skip ?_)
 cases c₀
 simp_all [bodyPostS, results, Tryd.results36]
def toS (o : O) : S30 := ⟨sB o.s, sB o.n, sB o.v⟩
def codeOf (er : Bool) (ds : List LD) : Int := if (er || !okD false ds) = true then 1 else 0
def listOf (er : Bool) (ds : List LD) : List S30 := if (er || !okD false ds) = true then [] else (optsOf ds).map toS
section
variable {ops : Array Oper} {o : Oper} {a : Act} {Q : Exit → Act → World → Prop} {Kc : Act → World → Prop}
theorem o30_append {w0 W : World} (base : Nat) (hw : Region.wanted o (yielded ops a.tmps) = true) (s x : Operand) (ho : o.op = .call { callee := .builtin .append, args := #[s, x], argTypes := #[27, 27] })
  (v : Value) (xs : List S30) (p : S30) (hs : a.eval s = v) (hx : a.eval x = .slice (some ⟨W.heap.size, 0, none⟩) 1 1) (HO : k30.R 30 W base (fun _ => True) v xs) (HB : Below base w0 W) (hbase : base ≤ W.heap.size) (hl : xs.length ≤ 10000000)
  (h : ∀ v1 w1, k30.R 30 w1 base (fun _ => True) v1 (xs ++ [p]) → Below base w0 w1 → W.grownBy w1 v.ownBlock → Kc (a.put o.dst v1) w1) :
  if Region.wanted o (yielded ops a.tmps) = true then Oper.wp Tryd.prog o a ((W.alloc (.cells #[.string p.f0, .string p.f1, .string p.f2] 30)).drew) Kc Q else Kc (a.put o.dst undef) ((W.alloc (.cells #[.string p.f0, .string p.f1, .string p.f2] 30)).drew) :=
 Kd.R_append_step k30 (w0 := w0) (W := W.drew) base hw s x 27 30 (.agg #[(.string ⟨#[]⟩), (.string ⟨#[]⟩), (.string ⟨#[]⟩)]) 48 ho Tryd.underlying27 infoM30 rfl (by decide) (by omega) v xs p [.string p.f0, .string p.f1, .string p.f2] (fun _ => True) (fun _ => False) hs hx (k30_mkM _ _ _ p) (fun _ hk => hk.elim) (fun _ _ => trivial) (Kd.R_drew HO) (below_drew HB) hbase (by omega) (fun v1 w1 h1 h2 h3 _ => h v1 w1 h1 h2 ((grown_of_below (below_drew (Below.refl W.heap.size W)) v.ownBlock).trans h3))
end
def ReadPost (w0 : World) (Post : Bool → List LD → Prop) (e : Ending) (w' : World) : Prop :=
 ∃ er ds, Post er ds ∧ ∃ v, e = .returned (.tuple #[v, .int .i64 (codeOf er ds)]) ∧ Kd.R k30 30 w' w0.heap.size (fun _ => True) v (listOf er ds) ∧ Below w0.heap.size w0 w'
theorem readPost_ok {w0 W : World} {Post : Bool → List LD → Prop} {er : Bool} {ds : List LD} {P : List (Nat × O)} {L : List O} {v : Value} (hP : Post er ds) (hok : (er || !okD false ds) = false) (hm : P.map (·.2) = optsOf ds) (hL : P.map (·.2) = L)
  (hR : Kd.R k30 30 W w0.heap.size (fun _ => True) v (L.map toS)) (hB : Below w0.heap.size w0 W) : ReadPost w0 Post (.returned (.tuple #[v, .int .i64 0])) W :=
 ⟨er, ds, hP, v, by simp [codeOf, hok], by rw [listOf, hok, ← hm, hL]; exact hR, hB⟩
theorem readPost_bad {w0 W : World} {Post : Bool → List LD → Prop} {er : Bool} {ds : List LD} (hP : Post er ds) (hok : (er || !okD false ds) = true) (hB : Below w0.heap.size w0 W) : ReadPost w0 Post (.returned (.tuple #[.slice none 0 0, .int .i64 1])) W :=
 ⟨er, ds, hP, .slice none 0 0, by simp [codeOf, hok], by rw [listOf, hok]; exact Kd.R_nil _ _ _ _ _, hB⟩
set_option maxHeartbeats 16000000 in
set_option maxRecDepth 100000 in
theorem read_call (k : Nat) (text : ByteArray) (Post : Bool → List LD → Prop) (w : World) (hT : UTab w) (hRC : RuneC text) (hsz : text.size ≤ 1000000) (hW : Wp TrimC k .ns text.data.toList [] Post) (hk : k ≤ 10000000) :
  Calls Tryd.prog 21 #[.string text] w (ReadPost w Post) := by
 have OPT := Aside0.mk (fun (W : World) (hB : Below w.heap.size w W) => opts_call W W k text Post (utab_below hT hB) hRC (Below.refl _ _) hsz hW hk)
 have hmf := make_fn
 clear hT hRC hsz hW hk
 go_enter_defers Tryd.func21, Tryd.ntmps21
 go_wp2_with
    (first
     | ((with_reducible refine gate_dst (N := 2) rfl ?_); refine box_event ?hg (N := 2) ?hd (cs := #[.slice none 0 0]) (t := 27) ?hr ?_; (case hd => rfl); (case hg => rfl); (case hr => first | (go_simp; done) | (go_simp; rfl)); intro bl hbl w2 hk2 hb2; have E2 := Aside0.mk hbl; clear hbl)
     | ((with_reducible refine gate_dst (N := 3) rfl ?_); refine box_event ?hg (N := 3) ?hd (cs := #[.int .i64 0]) (t := 3) ?hr ?_; (case hd => rfl); (case hg => rfl); (case hr => first | (go_simp; done) | (go_simp; rfl)); intro bc hbc w3 hk3 hb3; have E3 := Aside0.mk hbc; clear hbc; have HK2 := Aside0.mk (blk_below hk2 hb3); have HK3 := Aside0.mk hk3; have HB3 := Aside0.mk (keepS hb2 hb3))
     | (go_at_call 37; refine (OPT.out _ HB3.out).mono ?_; rintro e w4 ⟨hb4, er, ds, hP, hor⟩; have HB4 := Aside0.mk (keepS HB3.out hb4); have HK24 := Aside0.mk (blk_below HK2.out hb4); have HK34 := Aside0.mk (blk_below HK3.out hb4); have hkf2 := blk_frozen HK24.out 0; have hkf3 := blk_frozen HK34.out 0; have hk2c : w4.cell? ⟨bl, 0, none⟩ = some (.slice none 0 0) := (blk_cell HK24.out 0).trans rfl; have hk3c : w4.cell? ⟨bc, 0, none⟩ = some (.int .i64 0) := (blk_cell HK34.out 0).trans rfl; have HP := Aside0.mk hP; have hne1 := blk_ne HK24.out HK34.out (by decide); have hne2 := Ne.symm hne1; clear hb4 hP; rcases hor with ⟨hok, v7, P, rfl, hr, ho, hm, hl⟩ | ⟨hok, v, et, eu, rfl⟩ <;> (first | (obtain ⟨A7, c7, e7⟩ := Kd.R_slice hr; rw [List.length_map] at e7; subst e7) | skip)))
 ·have HOKK := Aside0.mk hok
  have HG3 := Aside0.mk (show w.heap.size ≤ w3.heap.size from HB3.out.size)
  have GBL := Aside0.mk (show w.heap.size ≤ bl from by have h1 := E2.out; rw [h1]; exact Nat.le_refl _)
  have GBC := Aside0.mk (show w.heap.size ≤ bc from by have h1 := E3.out; rw [h1]; exact hb2.size)
  have HR7 := Aside0.mk (Kd.R_lower hr HG3.out)
  have HOB7 := Aside0.mk ho
  have HM7 := Aside0.mk hm
  have HLL := Aside0.mk hl
  obtain ⟨L, hLd⟩ : ∃ L, P.map (·.2) = L := ⟨_, rfl⟩
  have HLD := Aside0.mk hLd
  clear hok hr ho hm hl hLd hk2c hk3c hkf2 hkf3 hk2 hb2 hk3 hb3
  have e0 : L.length = P.length := by rw [← HLD.out, List.length_map]
  have E0 := Aside0.mk e0
  clear e0
  go_loopg [18] (P.length + 1) (fun kq v18 w' => ∃ (x : Nat) (u : Value), v18 = .int .i64 (x : Int) ∧ Aside0 (x ≤ P.length) ∧ Aside0 (P.length - x < kq) ∧ Aside0 (w'.heap[bl]? = some (.cells #[u] 27 (0, 0))) ∧ Aside0 (w'.heap[bc]? = some (.cells #[.int .i64 0] 3 (0, 0))) ∧
   Aside0 (k30.R 30 w' w.heap.size (fun _ => True) u ((L.take x).map toS)) ∧ Aside0 (kA.R 48 w' w.heap.size (fun _ => True) (.slice A7 P.length c7) (P.map (·.1))) ∧ Aside0 (∀ p ∈ P, w'.heap[p.1]? = some (optObj p.2)) ∧ Aside0 (Below w.heap.size w w'))
  case atStart => exact ⟨0, _, rfl, ⟨Nat.zero_le _⟩, ⟨by omega⟩, HK24, HK34, ⟨Kd.R_nil _ _ _ _ _⟩, HR7, ⟨fun p hp => (HOB7.out p hp).2⟩, HB4⟩
  case round =>
   clear HK24 HK34 HR7 HOB7 HB4
   obtain ⟨x, u, rfl, HX, HKX, HBL, HBC, HU, HR7, HOP, HB⟩ := hrel
   have hbl0 : wr.cell? ⟨bl, 0, none⟩ = some u := (blk_cell HBL.out 0).trans rfl
   have hblf := blk_frozen HBL.out 0
   have hbc0 : wr.cell? ⟨bc, 0, none⟩ = some (.int .i64 0) := (blk_cell HBC.out 0).trans rfl
   have hbcf := blk_frozen HBC.out 0
   by_cases hx : x < P.length
   ·have d0 : decide ((x : Int) < (P.length : Int)) = true := decide_eq_true (by omega)
    have d1 : decide (x < P.length) = true := decide_eq_true hx
    have p0 : ((0 : Int) ≤ (x : Int)) = True := eq_true (by omega)
    have p1 : ((x : Int) < (P.length : Int)) = True := eq_true (by omega)
    have e2 : IntKind.i64.wrap ((x : Int) + 1) = (x : Int) + 1 := by have := HLL.out; rw [PrintLast.i64_w]; unfold wrap64; omega
    obtain ⟨gr, cap, hform, -⟩ := Kd.R_form HR7.out (by rw [List.length_map]; omega)
    obtain rfl : A7 = some ⟨gr, 0, none⟩ := by injection hform
    have hc := (Kd.R_celln (0 : Nat) HR7.out (x : Int) (by omega) (by omega)).1
    obtain ⟨b, hbx⟩ : ∃ b, P[x].1 = b := ⟨_, rfl⟩
    obtain ⟨o, hox⟩ : ∃ o, P[x].2 = o := ⟨_, rfl⟩
    have he : rdOf (0 : Nat) (P.map (·.1)) (x : Int) = b := by
     unfold rdOf
     rw [Int.toNat_natCast, List.getD_eq_getElem?_getD, List.getElem?_map, List.getElem?_eq_getElem hx, ← hbx]
     rfl
    rw [he, Int.toNat_natCast] at hc
    have hob := HOP.out P[x] (List.getElem_mem _)
    rw [hbx, hox] at hob
    have HOB := Aside0.mk hob
    have htk : (L.take (x + 1)).map toS = (L.take x).map toS ++ [toS o] := by
     rw [List.take_add_one, ← HLD.out, List.getElem?_map, List.getElem?_eq_getElem hx, ← hox]
     simp
    have HTK := Aside0.mk htk
    have HX2 := Aside0.mk hx
    have FC1 : ∀ X, Below wr.heap.size wr X → X.cell? ⟨bl, 0, none⟩ = some u := fun X hX => pw_cell_below hX hbl0
    have FC2 : ∀ X, Below wr.heap.size wr X → X.cell? ⟨b, 0, none⟩ = some (.string (sB o.s)) := fun X hX => (blk_cell (blk_below HOB.out hX) 0).trans rfl
    have FC3 : ∀ X, Below wr.heap.size wr X → X.cell? ⟨b, 1, none⟩ = some (.string (sB o.n)) := fun X hX => (blk_cell (blk_below HOB.out hX) 1).trans rfl
    have FC4 : ∀ X, Below wr.heap.size wr X → X.cell? ⟨b, 2, none⟩ = some (.string (sB o.v)) := fun X hX => (blk_cell (blk_below HOB.out hX) 2).trans rfl
    clear hform he hob hox hbx htk hx hbl0 hblf hbc0 hbcf
    go_upto_region 8 with (fail)
    refine wp_region_noPanic ?_
    refine start_ (n := 17) (S := fun w' => w'.cell? ⟨bl, 0, none⟩ = some u ∧ w'.cell? ⟨b, 0, none⟩ = some (.string (sB o.s)) ∧ w'.cell? ⟨b, 1, none⟩ = some (.string (sB o.n)) ∧ w'.cell? ⟨b, 2, none⟩ = some (.string (sB o.v))) (ds := [16]) (bb [0, 17]) (by kernel_rfl) rfl rfl ⟨(FC1 _ (by repeat (first | exact Below.refl _ _ | apply below_alloc | apply below_drew))), (FC2 _ (by repeat (first | exact Below.refl _ _ | apply below_alloc | apply below_drew))), (FC3 _ (by repeat (first | exact Below.refl _ _ | apply below_alloc | apply below_drew))), (FC4 _ (by repeat (first | exact Below.refl _ _ | apply below_alloc | apply below_drew)))⟩ (fun hHeld => ?_)
    refine pure_ (i := 1) (N := some 23) (v := ?_) (a' := ?_) (bb [0, 1, 1, 15]) rfl rfl (by kernel_rfl) (fun _ _ _ h => h) (Or.inl ⟨by rfl, ?_⟩) ?_ ?_
    rotate_left
    ·intro w'
     go_simp
     with_reducible rfl
    rotate_left
    ·simp only [Act.put, List.setIfInBounds_toArray, List.set_cons_zero, List.set_cons_succ, i64_w, i32_w]
     rfl
    refine pure_ (i := 2) (N := some 24) (v := ?_) (a' := ?_) (bb [0, 1, 2, 14]) rfl rfl (by kernel_rfl) (fun _ _ _ h => h) (Or.inl ⟨by rfl, ?_⟩) ?_ ?_
    rotate_left
    ·intro w'
     go_simp
     with_reducible rfl
    rotate_left
    ·simp only [Act.put, List.setIfInBounds_toArray, List.set_cons_zero, List.set_cons_succ, i64_w, i32_w]
     rfl
    refine pure_ (i := 3) (N := some 25) (v := ?_) (a' := ?_) (bb [0, 1, 3, 13]) rfl rfl (by kernel_rfl) (fun _ _ _ h => h) (Or.inl ⟨by rfl, ?_⟩) ?_ ?_
    rotate_left
    ·intro w'
     go_simp
     with_reducible rfl
    rotate_left
    ·simp only [Act.put, List.setIfInBounds_toArray, List.set_cons_zero, List.set_cons_succ, i64_w, i32_w]
     rfl
    refine pure_ (i := 5) (N := some 27) (v := ?_) (a' := ?_) (bb [0, 1, 3, 1, 1, 11]) rfl rfl (by kernel_rfl) (fun _ _ _ h => h) (Or.inl ⟨by rfl, ?_⟩) ?_ ?_
    rotate_left
    ·intro w'
     go_simp
     with_reducible rfl
    rotate_left
    ·simp only [Act.put, List.setIfInBounds_toArray, List.set_cons_zero, List.set_cons_succ, i64_w, i32_w]
     rfl
    refine pure_ (i := 6) (N := some 28) (v := ?_) (a' := ?_) (bb [0, 1, 3, 1, 2, 10]) rfl rfl (by kernel_rfl) (fun _ _ _ h => h) (Or.inl ⟨by rfl, ?_⟩) ?_ ?_
    rotate_left
    ·intro w'
     go_simp
     with_reducible rfl
    rotate_left
    ·simp only [Act.put, List.setIfInBounds_toArray, List.set_cons_zero, List.set_cons_succ, i64_w, i32_w]
     rfl
    refine pure_ (i := 7) (N := some 29) (v := ?_) (a' := ?_) (bb [0, 1, 3, 1, 3, 9]) rfl rfl (by kernel_rfl) (fun _ _ _ h => h) (Or.inl ⟨by rfl, ?_⟩) ?_ ?_
    rotate_left
    ·intro w'
     go_simp
     with_reducible rfl
    rotate_left
    ·simp only [Act.put, List.setIfInBounds_toArray, List.set_cons_zero, List.set_cons_succ, i64_w, i32_w]
     rfl
    refine pure_ (i := 9) (N := some 31) (v := ?_) (a' := ?_) (bb [0, 1, 3, 1, 3, 1, 1, 7]) rfl rfl (by kernel_rfl) (fun _ _ _ h => h) (Or.inl ⟨by rfl, ?_⟩) ?_ ?_
    rotate_left
    ·intro w'
     go_simp
     with_reducible rfl
    rotate_left
    ·simp only [Act.put, List.setIfInBounds_toArray, List.set_cons_zero, List.set_cons_succ, i64_w, i32_w]
     rfl
    refine pure_ (i := 10) (N := some 32) (v := ?_) (a' := ?_) (bb [0, 1, 3, 1, 3, 1, 2, 6]) rfl rfl (by kernel_rfl) (fun _ _ _ h => h) (Or.inl ⟨by rfl, ?_⟩) ?_ ?_
    rotate_left
    ·intro w'
     go_simp
     with_reducible rfl
    rotate_left
    ·simp only [Act.put, List.setIfInBounds_toArray, List.set_cons_zero, List.set_cons_succ, i64_w, i32_w]
     rfl
    refine pure_ (i := 11) (N := some 33) (v := ?_) (a' := ?_) (bb [0, 1, 3, 1, 3, 1, 3, 5]) rfl rfl (by kernel_rfl) (fun _ _ _ h => h) (Or.inl ⟨by rfl, ?_⟩) ?_ ?_
    rotate_left
    ·intro w'
     go_simp
     with_reducible rfl
    rotate_left
    ·simp only [Act.put, List.setIfInBounds_toArray, List.set_cons_zero, List.set_cons_succ, i64_w, i32_w]
     rfl
    refine take_ (i := 0) (N := some 22) (v := ?_) (a' := ?_) (bb [4, 1, 3, 1, 3, 5]) rfl rfl (by kernel_rfl) (fun _ _ _ h => h) (Or.inl ⟨by rfl, ?_⟩) hHeld ?_ ?_
    rotate_left
    ·rintro w' ⟨s0, s1, s2, s3⟩
     go_simp
     with_reducible rfl
    rotate_left
    ·simp only [Act.put, List.setIfInBounds_toArray, List.set_cons_zero, List.set_cons_succ, i64_w, i32_w]
     rfl
    refine take_ (i := 4) (N := some 26) (v := ?_) (a' := ?_) (bb [8, 1, 3, 5]) rfl rfl (by kernel_rfl) (fun _ _ _ h => h) (Or.inl ⟨by rfl, ?_⟩) hHeld ?_ ?_
    rotate_left
    ·rintro w' ⟨s0, s1, s2, s3⟩
     go_simp
     with_reducible rfl
    rotate_left
    ·simp only [Act.put, List.setIfInBounds_toArray, List.set_cons_zero, List.set_cons_succ, i64_w, i32_w]
     rfl
    refine take_ (i := 8) (N := some 30) (v := ?_) (a' := ?_) (bb [12, 5]) rfl rfl (by kernel_rfl) (fun _ _ _ h => h) (Or.inl ⟨by rfl, ?_⟩) hHeld ?_ ?_
    rotate_left
    ·rintro w' ⟨s0, s1, s2, s3⟩
     go_simp
     with_reducible rfl
    rotate_left
    ·simp only [Act.put, List.setIfInBounds_toArray, List.set_cons_zero, List.set_cons_succ, i64_w, i32_w]
     rfl
    refine take_ (i := 12) (N := some 34) (v := ?_) (a' := ?_) (bb [13, 4]) rfl rfl (by kernel_rfl) (fun _ _ _ h => h) (Or.inl ⟨by rfl, ?_⟩) hHeld ?_ ?_
    rotate_left
    ·rintro w' ⟨s0, s1, s2, s3⟩
     go_simp
     with_reducible rfl
    rotate_left
    ·simp only [Act.put, List.setIfInBounds_toArray, List.set_cons_zero, List.set_cons_succ, i64_w, i32_w]
     rfl
    refine pure_ (i := 13) (N := some 35) (v := ?_) (a' := ?_) (bb [14, 3]) rfl rfl (by kernel_rfl) (fun _ _ _ h => h) (Or.inl ⟨by rfl, ?_⟩) ?_ ?_
    rotate_left
    ·intro w'
     go_simp
     with_reducible rfl
    rotate_left
    ·simp only [Act.put, List.setIfInBounds_toArray, List.set_cons_zero, List.set_cons_succ, i64_w, i32_w]
     rfl
    refine one_ (i := 14) (N := some 36) (bb [15, 2]) rfl rfl (by kernel_rfl) (by decide) (fun K hK => ?_)
    refine value_ (w1 := ?_) (v := ?_) (by rfl) rfl ?_ ?_
    rotate_left 2
    ·go_simp
     constructor
     ·rfl
     ·rfl
    refine hK.out _ _ ⟨(FC1 _ (by repeat (first | exact Below.refl _ _ | apply below_alloc | apply below_drew))), (FC2 _ (by repeat (first | exact Below.refl _ _ | apply below_alloc | apply below_drew))), (FC3 _ (by repeat (first | exact Below.refl _ _ | apply below_alloc | apply below_drew))), (FC4 _ (by repeat (first | exact Below.refl _ _ | apply below_alloc | apply below_drew)))⟩ (fun hHeld => ?_)
    clear hK K
    refine norm_ (a' := ?_) ?_ ?_
    rotate_left
    ·show Act.put _ (some 36) _ = _
     simp only [Act.put, List.setIfInBounds_toArray, List.set_cons_zero, List.set_cons_succ, i64_w, i32_w]
     rfl
    refine one_ (i := 15) (N := some 37) (bb [16, 1]) rfl rfl (by kernel_rfl) (by decide) (fun K hK => ?_)
    refine o30_append (w0 := w) w.heap.size (by rfl) (.tmp 22) (.tmp 36) rfl u ((L.take x).map toS) (toS o) rfl (by first | (go_simp; done) | (go_simp; rfl)) (Kd.R_below HU.out (by repeat (first | exact Below.refl _ _ | apply below_alloc | apply below_drew))) (below_then HB.out HB.out.size (by repeat (first | exact Below.refl _ _ | apply below_alloc | apply below_drew))) (by have := HB.out.size; exact Nat.le_trans this (by first | exact Nat.le_refl _ | exact Nat.le_add_right _ _ | omega)) (by have := HLL.out; have := E0.out; rw [List.length_map, List.length_take]; omega) ?_
    intro v11 w11 ho hb11 hg; obtain ⟨A11, c11, rfl⟩ := Kd.R_slice ho; have HO11 := Aside0.mk ho; have HB11 := Aside0.mk hb11; have hrw := Kd.R_below HU.out (show Below wr.heap.size wr _ from (by repeat (first | exact Below.refl _ _ | apply below_alloc | apply below_drew))); have HBL11 := Aside0.mk (blk_grown (blk_below HBL.out (show Below wr.heap.size wr _ from (by repeat (first | exact Below.refl _ _ | apply below_alloc | apply below_drew)))) hg (Kd.R_ne hrw (blk_below HBL.out (show Below wr.heap.size wr _ from (by repeat (first | exact Below.refl _ _ | apply below_alloc | apply below_drew)))) (by decide))); have HBC11 := Aside0.mk (blk_grown (blk_below HBC.out (show Below wr.heap.size wr _ from (by repeat (first | exact Below.refl _ _ | apply below_alloc | apply below_drew)))) hg (Kd.R_ne hrw (blk_below HBC.out (show Below wr.heap.size wr _ from (by repeat (first | exact Below.refl _ _ | apply below_alloc | apply below_drew)))) (by decide))); have hob11 := blk_grown (blk_below HOB.out (show Below wr.heap.size wr _ from (by repeat (first | exact Below.refl _ _ | apply below_alloc | apply below_drew)))) hg (Kd.R_ne hrw (blk_below HOB.out (show Below wr.heap.size wr _ from (by repeat (first | exact Below.refl _ _ | apply below_alloc | apply below_drew)))) (by decide)); have HV11 := Aside0.mk (fun (kk : Nat) (cs : Array Value) (tt : TypeId) (hkk : wr.heap[kk]? = some (.cells cs tt (0, 0))) (htt : tt ≠ 30) => blk_grown (blk_below hkk (show Below wr.heap.size wr _ from (by repeat (first | exact Below.refl _ _ | apply below_alloc | apply below_drew)))) hg (Kd.R_ne hrw (blk_below hkk (show Below wr.heap.size wr _ from (by repeat (first | exact Below.refl _ _ | apply below_alloc | apply below_drew)))) (Ne.symm htt))); have hfz := blk_frozen HBL11.out 0; have hblc : w11.cell? ⟨bl, 0, none⟩ = some u := (blk_cell HBL11.out 0).trans rfl; have HZ : _ ∧ _ ∧ _ ∧ _ := ⟨hblc, (blk_cell hob11 0).trans rfl, (blk_cell hob11 1).trans rfl, (blk_cell hob11 2).trans rfl⟩; clear ho hb11 hg hrw hob11
    refine hK.out _ _ ⟨HZ.1, HZ.2.1, HZ.2.2.1, HZ.2.2.2⟩ (fun hHeld => ?_)
    clear hK K
    refine norm_ (a' := ?_) ?_ ?_
    rotate_left
    ·show Act.put _ (some 37) _ = _
     simp only [Act.put, List.setIfInBounds_toArray, List.set_cons_zero, List.set_cons_succ, i64_w, i32_w]
     rfl
    refine last_ (i := 16) (N := none) (bb [17]) rfl rfl (by kernel_rfl) (by decide) (fun K hK => ?_)
    refine skip_ (w1 := ?_) (by rfl) rfl ?_ ?_
    rotate_left
    ·go_simp
     rfl
    refine hK.out _ _ ?_
    clear hK K
    refine done_ (by kernel_rfl) ?_
    refine NoPanic.normal ?_
    go_wp2
    go_roundg (gk - 1)
    case measure => have := HX.out; have := HX2.out; have := HKX.out; omega
    case rel => exact ⟨x + 1, _, by simp, ⟨by have := HX2.out; omega⟩, ⟨by have := HX.out; have := HX2.out; have := HKX.out; omega⟩, ⟨blk_put HBL11.out 0 _ rfl⟩, ⟨blk_far HBC11.out hne2 _⟩, ⟨by rw [HTK.out]; have h9 := Kd.R_set HO11.out HBL11.out (by decide) 0 (.slice A11 (((L.take x).map toS) ++ [toS o]).length c11); simpa only [List.length_append, List.length_map, List.length_take, List.length_singleton] using h9⟩, ⟨Kd.R_set (kA_mv HR7.out (fun k cs _ hk => HV11.out k cs _ hk (by decide))) HBL11.out (by decide) 0 _⟩, ⟨fun p hp => by have h9 := HV11.out _ _ _ (HOP.out p hp) (by decide); exact blk_far h9 (blk_ne h9 HBL11.out (by decide)) _⟩, ⟨below_set HB11.out GBL.out⟩⟩
   ·have d0 : decide ((x : Int) < (P.length : Int)) = false := decide_eq_false (by omega)
    have d1 : decide (x < P.length) = false := decide_eq_false hx
    have hxe : x = P.length := by have := HX.out; omega
    have HU2 : Aside0 (k30.R 30 wr w.heap.size (fun _ => True) u (L.map toS)) := ⟨by have h9 := HU.out; rw [hxe, ← E0.out, List.take_length] at h9; exact h9⟩
    clear hx hxe HU
    obtain ⟨Au, cu, rfl⟩ := Kd.R_slice HU2.out
    go_wp2
    have HBLw := blk_far (blk_put HBL.out 0 (.slice Au L.length cu) rfl) (p := ⟨bc, 0, none⟩) hne1 (.int .i64 0)
    have HBCw := blk_put (blk_far HBC.out (p := ⟨bl, 0, none⟩) hne2 (.slice Au L.length cu)) 0 (.int .i64 0) rfl
    have HRw := Kd.R_set (Kd.R_set HU2.out HBL.out (by decide) 0 (.slice Au L.length cu)) (blk_far HBC.out (p := ⟨bl, 0, none⟩) hne2 (.slice Au L.length cu)) (by decide) 0 (.int .i64 0)
    have HBw := below_set (below_set HB.out GBL.out (j := 0) (v := .slice Au L.length cu)) GBC.out (j := 0) (v := .int .i64 0)
    generalize (wr.setCell ⟨bl, 0, none⟩ (.slice Au L.length cu)).setCell ⟨bc, 0, none⟩ (.int .i64 0) = W at HBLw HBCw HRw HBw ⊢
    have cl : W.cell? ⟨bl, 0, none⟩ = some (.slice Au L.length cu) := (blk_cell HBLw 0).trans rfl
    have cc : W.cell? ⟨bc, 0, none⟩ = some (.int .i64 0) := (blk_cell HBCw 0).trans rfl
    refine leaves_cons (f := 36) (args := #[.pointer (some ⟨bl, 0, none⟩), .pointer (some ⟨bc, 0, none⟩)]) (by simp) (by simp [go_sem]) ?_
    refine (catch_idle _ _ _).mono ?_
    rintro e u' w'' ⟨rfl, rfl, rfl⟩
    have HF := readPost_ok HP.out HOKK.out HM7.out HLD.out HRw HBw
    simp [Leaves, settle, results, Tryd.results21, go_sem, cl, cc]
    simpa only [List.length_map] using HF
 ·have HBLw := blk_far (blk_put HK24.out 0 (.slice none 0 0) rfl) (p := ⟨bc, 0, none⟩) hne1 (.int .i64 1)
  have HBCw := blk_put (blk_far HK34.out (p := ⟨bl, 0, none⟩) hne2 (.slice none 0 0)) 0 (.int .i64 1) rfl
  have GBL := Aside0.mk (show w.heap.size ≤ bl from by have h1 := E2.out; rw [h1]; exact Nat.le_refl _)
  have GBC := Aside0.mk (show w.heap.size ≤ bc from by have h1 := E3.out; rw [h1]; exact hb2.size)
  have HBw := below_set (below_set HB4.out GBL.out (j := 0) (v := .slice none 0 0)) GBC.out (j := 0) (v := .int .i64 1)
  go_wp2
  generalize (w4.setCell ⟨bl, 0, none⟩ (.slice none 0 0)).setCell ⟨bc, 0, none⟩ (.int .i64 1) = W at HBLw HBCw HBw ⊢
  have cl : W.cell? ⟨bl, 0, none⟩ = some (.slice none 0 0) := (blk_cell HBLw 0).trans rfl
  have cc : W.cell? ⟨bc, 0, none⟩ = some (.int .i64 1) := (blk_cell HBCw 0).trans rfl
  refine leaves_cons (f := 36) (args := #[.pointer (some ⟨bl, 0, none⟩), .pointer (some ⟨bc, 0, none⟩)]) (by simp) (by simp [go_sem]) ?_
  refine (catch_idle _ _ _).mono ?_
  rintro e u' w'' ⟨rfl, rfl, rfl⟩
  have HF := readPost_bad HP.out hok HBw
  simp [Leaves, settle, results, Tryd.results21, go_sem, cl, cc]
  exact HF
end Go.Proofs.YtgnfapnnbcafbaaDoor.UN
end
section
/- impl.options: options as the package has them, one object each; two such rows compared (AllMatch, impl.UnitSame). Conditions: lists of at most a million. -/
namespace Go.Proofs.YtgnfapnnbcafbaaDoor.UN
open Go Go.RowKit Go.Proofs.YtgnfapnnbcafbaaDoorW.PrintWords Go.Proofs.YtgnfapnnbcafbaaDoorW Go.Proofs.YtgnfapnnbcafbaaDoorW.PrintLast Go.Proofs.YtgnfapnnbcafbaaDoor.GUL
set_option linter.unusedVariables false
set_option linter.unusedSimpArgs false
def toO (x : S30) : O := ⟨x.f0.data.toList, x.f1.data.toList, x.f2.data.toList⟩
theorem sB_toList (b : ByteArray) : sB b.data.toList = b := by
 cases b; rfl
theorem toS_toO (x : S30) : toS (toO x) = x := by
 cases x; simp only [toS, toO, sB_toList]
theorem optObj_toO (x : S30) : optObj (toO x) = .cells #[.string x.f0, .string x.f1, .string x.f2] 49 (0, 0) := by
 simp only [optObj, toO, sB_toList]
theorem new_option (a b c : ByteArray) (w : World) : Calls Tryd.prog 45 #[.string a, .string b, .string c] w fun e w' => ∃ p, e = .returned (.pointer (some ⟨p, 0, none⟩)) ∧ w.heap.size ≤ p ∧ w'.heap[p]? = some (.cells #[.string a, .string b, .string c] 49 (0, 0)) ∧ Below w.heap.size w w' := by
 go_enter Tryd.func45, Tryd.ntmps45
 go_wp2
 go_ret
 exact ⟨_, rfl, Nat.le_refl _, blk_new w _, below_alloc (Below.refl _ _) _⟩
structure OptRow (w0 w : World) (v : Value) (P : List (Nat × O)) : Prop where
 row : kA.R 48 w w0.heap.size (fun _ => True) v (P.map (·.1))
 obs : ∀ p ∈ P, w0.heap.size ≤ p.1 ∧ w.heap[p.1]? = some (optObj p.2)
theorem OptRow.below {w0 w w2 : World} {v : Value} {P : List (Nat × O)} (h : OptRow w0 w v P) (hb : Below w.heap.size w w2) : OptRow w0 w2 v P :=
 ⟨Kd.R_below h.row hb, fun p hp => ⟨(h.obs p hp).1, blk_below (h.obs p hp).2 hb⟩⟩
theorem OptRow.push {w0 w w2 : World} {v v2 : Value} {P : List (Nat × O)} (h : OptRow w0 w v P) (p : Nat) (o : O) (hp : w0.heap.size ≤ p) (ho : w.heap[p]? = some (optObj o)) (hg : w.grownBy w2 v.ownBlock) (hr : kA.R 48 w2 w0.heap.size (fun _ => True) v2 (P.map (·.1) ++ [p])) : OptRow w0 w2 v2 (P ++ [(p, o)]) := by
 refine ⟨by rw [List.map_append]; exact hr, fun q hq => ?_⟩
 have key : ∀ (k : Nat) (o : O), w.heap[k]? = some (optObj o) → w2.heap[k]? = some (optObj o) := fun k o hk => blk_grown hk hg (Kd.R_ne h.row hk (by decide))
 rcases List.mem_append.1 hq with hq | hq
 ·exact ⟨(h.obs q hq).1, key _ _ (h.obs q hq).2⟩
 ·obtain rfl := List.mem_singleton.1 hq
  exact ⟨hp, key _ _ ho⟩
set_option maxHeartbeats 8000000 in
set_option maxRecDepth 100000 in
theorem options_call (A : Option Addr) (c : Nat) (l : List S30) (w : World) (hC : Kd.C k30 w A l.length l) (hl : l.length ≤ 1000000) :
  Calls Tryd.prog 35 #[.slice A l.length c] w fun e w' => ∃ v P, e = .returned v ∧ OptRow w w' v P ∧ P.map (·.2) = l.map toO ∧ Below w.heap.size w w' := by
 have HC := Aside0.mk hC
 have HL := Aside0.mk hl
 have HB := Aside0.mk (Below.refl w.heap.size w)
 clear hC hl
 go_enter Tryd.func35, Tryd.ntmps35
 go_wp2
 go_loopg [3, 8] (l.length + 1) (fun kq v3 v8 w' => ∃ (x : Nat) (P : List (Nat × O)), v8 = .int .i64 (x : Int) ∧ Aside0 (x ≤ l.length) ∧ Aside0 (l.length - x < kq) ∧ Aside0 (OptRow w w' v3 P) ∧ Aside0 (P.map (·.2) = (l.take x).map toO) ∧ Aside0 (Below w.heap.size w w'))
 case atStart => exact ⟨0, [], rfl, ⟨Nat.zero_le _⟩, ⟨by omega⟩, ⟨⟨Kd.R_nil _ _ _ _ _, fun _ h => by cases h⟩⟩, ⟨by simp⟩, HB⟩
 case round =>
  obtain ⟨x, P, rfl, HX, HKX, HO, HM, HB⟩ := hrel
  by_cases hx : x < l.length
  ·have d0 : decide ((x : Int) < (l.length : Int)) = true := decide_eq_true (by omega)
   have d1 : decide (x < l.length) = true := decide_eq_true hx
   have p0 : ((0 : Int) ≤ (x : Int)) = True := eq_true (by omega)
   have p1 : ((x : Int) < (l.length : Int)) = True := eq_true (by omega)
   have e2 : IntKind.i64.wrap ((x : Int) + 1) = (x : Int) + 1 := by have := HL.out; rw [PrintLast.i64_w]; unfold wrap64; omega
   obtain ⟨ad, ea, h0, h1, h2⟩ := at_T30 HC.out (x : Int) (by omega) (by omega)
   cases ea
   replace h0 := (HB.out.cell (World.block_lt_of_cell? w _ h0)).trans h0
   replace h1 := (HB.out.cell (World.block_lt_of_cell? w _ h1)).trans h1
   replace h2 := (HB.out.cell (World.block_lt_of_cell? w _ h2)).trans h2
   have HPL : Aside0 (P.length = x) := ⟨by have h9 := congrArg List.length HM.out; rw [List.length_map, List.length_map, List.length_take] at h9; omega⟩
   have htk : (l.take (x + 1)).map toO = (l.take x).map toO ++ [toO (rd_T30 l (x : Int))] := by
    have hy : rd_T30 l (x : Int) = l[x] := by rw [rd_T30, Int.toNat_natCast, List.getD_eq_getElem?_getD, List.getElem?_eq_getElem hx]; rfl
    rw [List.take_add_one, List.getElem?_eq_getElem hx, List.map_append, hy]
    rfl
   have HTK := Aside0.mk htk
   have HX2 := Aside0.mk hx
   clear htk hx
   generalize rd_T30 l (x : Int) = y at *
   rw [Int.toNat_natCast] at h0 h1 h2
   go_wp2_with (first
    | ((with_reducible refine gate_dst (N := 5) rfl ?_); refine box_event ?hg (N := 5) ?hd (cs := #[.string (⟨#[]⟩ : ByteArray), .string (⟨#[]⟩ : ByteArray), .string (⟨#[]⟩ : ByteArray)]) (t := 30) ?hr ?_; (case hd => rfl); (case hg => rfl); (case hr => first | (go_simp; done) | (go_simp; rfl)); intro gb hg w7 hbox hb; have HB7 := Aside0.mk hb; have GE := Aside0.mk (show wr.heap.size ≤ gb from by rw [hg]; exact Nat.le_refl _); have c0 : w7.cell? ⟨gb, 0, none⟩ = some (.string (⟨#[]⟩ : ByteArray)) := (blk_cell hbox 0).trans rfl; have c1 : w7.cell? ⟨gb, 1, none⟩ = some (.string (⟨#[]⟩ : ByteArray)) := (blk_cell hbox 1).trans rfl; have c2 : w7.cell? ⟨gb, 2, none⟩ = some (.string (⟨#[]⟩ : ByteArray)) := (blk_cell hbox 2).trans rfl; have f0 := blk_frozen hbox 0; have f1 := blk_frozen hbox 1; have f2 := blk_frozen hbox 2; clear hg hbox hb)
    | (go_at_call 45; refine (new_option _ _ _ _).mono ?_; rintro e w8 ⟨p, rfl, hp, hpo, hb8⟩; have hb7 := below_set (below_set (below_set HB7.out GE.out (j := 0) (v := .string y.f0)) GE.out (j := 1) (v := .string y.f1)) GE.out (j := 2) (v := .string y.f2); have HB8 := Aside0.mk (keepS hb7 hb8); have HPO := Aside0.mk hpo; have HPG := Aside0.mk (show w.heap.size ≤ p from Nat.le_trans HB.out.size (Nat.le_trans hb7.size hp)); clear hp hpo hb8 hb7)
    | ((with_reducible refine gate_builtin (b := .append) (xs := #[.tmp 12, .tmp 20]) rfl ?_); at_builtin; refine Kd.R_append kA (w0 := w) w.heap.size rfl (.tmp 12) (.tmp 20) 42 48 (.pointer none) 8 rfl Tryd.underlying42 infoOpt rfl (by decide) (by omega) _ _ p [.pointer (some ⟨p, 0, none⟩)] (fun _ => True) (fun _ => False) rfl (by first | (go_simp; done) | (go_simp; rfl)) rfl (fun _ hk => hk.elim) (fun _ _ => trivial) (Kd.R_below HO.out.row HB8.out) (below_then HB.out HB.out.size HB8.out) (Nat.le_trans HB.out.size HB8.out.size) (by have := HPL.out; have := HL.out; have := HX2.out; rw [List.length_map]; omega) ?_; intro v9 w9 ho hb9 hg9 hat9; have HO9 := Aside0.mk ((HO.out.below HB8.out).push p (toO y) HPG.out (by rw [optObj_toO]; exact HPO.out) hg9 ho); have HB9 := Aside0.mk hb9; clear ho hb9 hg9 hat9)
    | fail)
   go_roundg (gk - 1)
   case measure => have := HX.out; have := HX2.out; have := HKX.out; omega
   case rel => exact ⟨x + 1, _, by simp, ⟨by have := HX2.out; omega⟩, ⟨by have := HX2.out; have := HKX.out; omega⟩, HO9, ⟨by rw [HTK.out, List.map_append, HM.out]; rfl⟩, HB9⟩
  ·have d0 : decide ((x : Int) < (l.length : Int)) = false := decide_eq_false (by omega)
   have d1 : decide (x < l.length) = false := decide_eq_false hx
   have HXE : Aside0 (x = l.length) := ⟨by have := HX.out; omega⟩
   clear hx
   go_wp2
   go_ret
   exact ⟨_, P, rfl, HO.out, by rw [HM.out, HXE.out, List.take_length], HB.out⟩
end Go.Proofs.YtgnfapnnbcafbaaDoor.UN
end
section
/- Two rows of options compared: (*UnitOption).Match, AllMatch, impl.UnitSame. Conditions: lists of at most a million. -/
namespace Go.Proofs.YtgnfapnnbcafbaaDoor.UN
open Go Go.RowKit Go.Proofs.YtgnfapnnbcafbaaDoorW.PrintWords Go.Proofs.YtgnfapnnbcafbaaDoorW Go.Proofs.YtgnfapnnbcafbaaDoorW.PrintLast Go.Proofs.YtgnfapnnbcafbaaDoor.GUL
set_option linter.unusedVariables false
set_option linter.unusedSimpArgs false
instance : DecidableEq O := fun a b => decidable_of_iff (a.s = b.s ∧ a.n = b.n ∧ a.v = b.v) ⟨fun h => by cases a; cases b; simp at h; simp [h], fun h => by rw [h]; exact ⟨rfl, rfl, rfl⟩⟩
theorem OptRow.read {w0 w : World} {A : Option Addr} {c : Nat} {P : List (Nat × O)} (h : OptRow w0 w (.slice A P.length c) P) (x : Nat) (hx : x < P.length) : ∃ g, A = some ⟨g, 0, none⟩ ∧ w.cell? ⟨g, x, none⟩ = some (.pointer (some ⟨P[x].1, 0, none⟩)) ∧ w.heap[P[x].1]? = some (optObj P[x].2) := by
 obtain ⟨gr, cap, hform, -⟩ := Kd.R_form h.row (by rw [List.length_map]; omega)
 obtain rfl : A = some ⟨gr, 0, none⟩ := by injection hform
 have hc := (Kd.R_celln (0 : Nat) h.row (x : Int) (by omega) (by omega)).1
 have he : rdOf (0 : Nat) (P.map (·.1)) (x : Int) = P[x].1 := by
  unfold rdOf
  rw [Int.toNat_natCast, List.getD_eq_getElem?_getD, List.getElem?_map, List.getElem?_eq_getElem hx]
  rfl
 rw [he, Int.toNat_natCast] at hc
 exact ⟨gr, rfl, hc, (h.obs _ (List.getElem_mem hx)).2⟩
end Go.Proofs.YtgnfapnnbcafbaaDoor.UN
end
section
/- The text of a unit file as it grows: plain lists alone. -/
namespace Go.Proofs.YtgnfapnnbcafbaaDoor.UN
open Go
set_option linter.unusedVariables false
def accText (gs : List G) (j : Nat) : Bs := if j < gs.length then (gs.take j).flatMap (fun g => secText g ++ [10]) else groupsText gs
theorem groups_last : ∀ (gs : List G) (g : G), groupsText (gs ++ [g]) = gs.flatMap (fun g => secText g ++ [10]) ++ secText g
 | [], g => by simp [groupsText, tailText]
 | x :: gs, g => by
  have key : ∀ (gs : List G) (g : G), tailText (gs ++ [g]) = [10] ++ (gs.flatMap (fun g => secText g ++ [10]) ++ secText g) := by
   intro gs
   induction gs with
   | nil => intro g; simp [tailText]
   | cons y gs ih => intro g; rw [List.cons_append, tailText, ih, List.flatMap_cons]; simp
  rw [List.cons_append, groupsText, key, List.flatMap_cons]
  simp
theorem acc_zero (gs : List G) : accText gs 0 = [] := by
 unfold accText
 cases gs with
 | nil => rfl
 | cons g r => rw [if_pos (by simp)]; rfl
theorem acc_end (gs : List G) : accText gs gs.length = groupsText gs := by unfold accText; rw [if_neg (Nat.lt_irrefl _)]
theorem acc_step (gs : List G) (j : Nat) (h : j < gs.length) : accText gs j ++ secText gs[j] ++ (if j + 1 < gs.length then [10] else []) = accText gs (j + 1) := by
 unfold accText
 rw [if_pos h]
 by_cases h1 : j + 1 < gs.length
 ·rw [if_pos h1, if_pos h1, List.take_add_one, List.getElem?_eq_getElem h, List.flatMap_append]
  simp
 ·rw [if_neg h1, if_neg h1, List.append_nil]
  have e : gs = gs.take j ++ [gs[j]] := by
   conv => lhs; rw [← List.take_append_drop j gs]
   congr 1
   rw [List.drop_eq_getElem_cons h, List.drop_eq_nil_of_le (by omega)]
  conv => rhs; rw [e]
  rw [groups_last]
end Go.Proofs.YtgnfapnnbcafbaaDoor.UN
end
section
/- A map from texts to rows, told as a list in the order in which its keys came; and the writers of a unit file. No condition beyond the texts' sizes. -/
namespace Go.Proofs.YtgnfapnnbcafbaaDoor.UN
open Go Go.RowKit Go.Proofs.YtgnfapnnbcafbaaDoorW.PrintWords Go.Proofs.YtgnfapnnbcafbaaDoorW Go.Proofs.YtgnfapnnbcafbaaDoorW.PrintLast Go.Proofs.YtgnfapnnbcafbaaDoor.GUL
open Go.ChangeMaps (setBlock heap_setBlock_same heap_setBlock_other)
set_option linter.unusedVariables false
set_option linter.unusedSimpArgs false
theorem sB_inj {a b : Bs} (h : sB a = sB b) : a = b := by
 have := congrArg (fun x : ByteArray => x.data.toList) h
 simpa [sB] using this
def MapObj (o : Obj) (M : List (Bs × Value)) : Prop := ∃ es c, o = .map es c ∧ es.toList.map (fun e => (e.key, e.val)) = M.map (fun p => (Value.string (sB p.1), p.2))
theorem strKeyed : Go.Maps.Keyed Tryd.prog 9 := Go.Maps.string_keyed Tryd.underlying9
theorem strKey {k : Bs} (hk : k.length ≤ maxLen) : keyOf Tryd.prog 9 (.string (sB k)) = some (.string k) := by
 have : (sB k).size ≤ maxLen := by show k.toArray.size ≤ _; simpa using hk
 simp only [keyOf, mapKey, Tryd.underlying9, this]
 simp [sB] at *
theorem map_keys {es : Array MapEntry} {M : List (Bs × Value)} (hM : ∀ p ∈ M, p.1.length ≤ maxLen) (h : es.toList.map (fun e => (e.key, e.val)) = M.map (fun p => (Value.string (sB p.1), p.2))) : ∀ e ∈ es.toList, ∃ l, keyOf Tryd.prog 9 e.key = some l := by
 intro e he
 have : (e.key, e.val) ∈ M.map (fun p => (Value.string (sB p.1), p.2)) := by rw [← h]; exact List.mem_map.2 ⟨e, he, rfl⟩
 obtain ⟨p, hp0, hp⟩ := List.mem_map.1 this
 injection hp with h1 h2
 exact ⟨_, by rw [← h1]; exact strKey (hM p hp0)⟩
theorem map_nth {es : Array MapEntry} {M : List (Bs × Value)} (h : es.toList.map (fun e => (e.key, e.val)) = M.map (fun p => (Value.string (sB p.1), p.2))) {j : Nat} {e : MapEntry} (hj : es.toList[j]? = some e) {k : Bs} (hk : e.key = .string (sB k)) : M[j]? = some (k, e.val) := by
 have h1 := congrArg (fun l => l[j]?) h
 simp only [List.getElem?_map, hj, Option.map_some] at h1
 cases hm : M[j]? with
 | none => rw [hm] at h1; cases h1
 | some p =>
  rw [hm] at h1
  injection h1 with h1
  injection h1 with h2 h3
  rw [hk] at h2
  injection h2 with h2
  rw [← sB_inj h2.symm, h3]
theorem map_no {es : Array MapEntry} {M : List (Bs × Value)} (h : es.toList.map (fun e => (e.key, e.val)) = M.map (fun p => (Value.string (sB p.1), p.2))) {k : Bs} (hn : ∀ e ∈ es.toList, e.key ≠ .string (sB k)) : k ∉ M.map (·.1) := by
 intro hm
 obtain ⟨p, hp, rfl⟩ := List.mem_map.1 hm
 have : (Value.string (sB p.1), p.2) ∈ es.toList.map (fun e => (e.key, e.val)) := by rw [h]; exact List.mem_map.2 ⟨p, hp, rfl⟩
 obtain ⟨e, he, hh⟩ := List.mem_map.1 this
 injection hh with h1 h2
 exact hn e he h1
theorem nth_split {M1 M2 : List (Bs × Value)} {k : Bs} {u x : Value} (h1 : k ∉ M1.map (·.1)) (h2 : k ∉ M2.map (·.1)) {j : Nat} (h : (M1 ++ (k, u) :: M2)[j]? = some (k, x)) : j = M1.length ∧ x = u := by
 rcases Nat.lt_trichotomy j M1.length with hj | hj | hj
 ·rw [List.getElem?_append_left hj] at h
  exact absurd (List.mem_map.2 ⟨_, List.mem_of_getElem? h, rfl⟩) h1
 ·subst hj
  rw [List.getElem?_append_right (Nat.le_refl _), Nat.sub_self] at h
  injection h with h
  injection h with _ h
  exact ⟨rfl, h.symm⟩
 ·rw [List.getElem?_append_right (by omega)] at h
  obtain ⟨d, hd⟩ : ∃ d, j - M1.length = d + 1 := ⟨j - M1.length - 1, by omega⟩
  rw [hd, List.getElem?_cons_succ] at h
  exact absurd (List.mem_map.2 ⟨_, List.mem_of_getElem? h, rfl⟩) h2
theorem zero_row (w : World) : (zeroValue 42).run Tryd.prog w = .ok (.slice none 0 0) w := by
 have h : (Tryd.prog.info? 42).map (fun i => i.zero) = some (some (.slice none 0 0)) := by kernel_rfl
 cases hx : Tryd.prog.info? 42 with
 | none => rw [hx] at h; cases h
 | some i =>
  rw [hx] at h
  have hz : i.zero = some (.slice none 0 0) := Option.some.inj h
  simp [zeroValue, typeInfo, hx, hz]
theorem map_look_none {w : World} {b : Nat} {o : Obj} {M : List (Bs × Value)} (hb : w.heap[b]? = some o) (h : MapObj o M) (hM : ∀ p ∈ M, p.1.length ≤ maxLen) (k : Bs) (hk0 : k.length ≤ maxLen) (hk : k ∉ M.map (·.1)) (ok : Bool) :
  (Instr.lookup 60 (.map (some b)) (.string (sB k)) ok).run Tryd.prog w = .ok (if ok = true then .tuple #[.slice none 0 0, .bool false] else .slice none 0 0) w := by
 obtain ⟨es, c, rfl, hm⟩ := h
 rcases strKeyed.find w (strKey hk0) es.toList (map_keys hM hm) with ⟨h1, _⟩ | ⟨j, e, h1, h2, h3⟩
 ·cases ok <;> simp [Instr.lookup, run_underlying Tryd.underlying60, Go.MapKept.run_getObj_map hb, strKeyed.check w _ (strKey hk0), h1, zero_row, Result.andThen]
 ·exact absurd (List.mem_map.2 ⟨_, List.mem_of_getElem? (map_nth hm h2 h3), rfl⟩) hk
theorem map_look_some {w : World} {b : Nat} {o : Obj} {M1 M2 : List (Bs × Value)} {k : Bs} {u : Value} (hb : w.heap[b]? = some o) (h : MapObj o (M1 ++ (k, u) :: M2)) (hM : ∀ p ∈ M1 ++ (k, u) :: M2, p.1.length ≤ maxLen) (hk0 : k.length ≤ maxLen) (hk1 : k ∉ M1.map (·.1)) (hk2 : k ∉ M2.map (·.1)) (ok : Bool) :
  (Instr.lookup 60 (.map (some b)) (.string (sB k)) ok).run Tryd.prog w = .ok (if ok = true then .tuple #[u, .bool true] else u) w := by
 obtain ⟨es, c, rfl, hm⟩ := h
 rcases strKeyed.find w (strKey hk0) es.toList (map_keys hM hm) with ⟨h1, h4⟩ | ⟨j, e, h1, h2, h3⟩
 ·exact absurd (by simp) (map_no hm h4)
 ·obtain ⟨hj, rfl⟩ := nth_split hk1 hk2 (map_nth hm h2 h3)
  cases ok <;> simp [Instr.lookup, run_underlying Tryd.underlying60, Go.MapKept.run_getObj_map hb, strKeyed.check w _ (strKey hk0), h1, Result.andThen]
theorem map_upd_none {w : World} {b : Nat} {o : Obj} {M : List (Bs × Value)} (hb : w.heap[b]? = some o) (h : MapObj o M) (hM : ∀ p ∈ M, p.1.length ≤ maxLen) (k : Bs) (hk0 : k.length ≤ maxLen) (hk : k ∉ M.map (·.1)) (v : Value) :
  ∃ o', (Instr.mapUpdate 60 (.map (some b)) (.string (sB k)) v).run Tryd.prog w = .ok () (setBlock w b o') ∧ MapObj o' (M ++ [(k, v)]) := by
 obtain ⟨es, c, rfl, hm⟩ := h
 rcases strKeyed.find w (strKey hk0) es.toList (map_keys hM hm) with ⟨h1, _⟩ | ⟨j, e, h1, h2, h3⟩
 ·refine ⟨.map (es.push ⟨.string (sB k), v, c⟩) (c + 1), ?_, _, _, rfl, ?_⟩
  ·simp [Instr.mapUpdate, run_underlying Tryd.underlying60, Go.MapKept.run_getObj_map hb, strKeyed.check w false (strKey hk0), h1, Go.MapKept.run_setObj_map _ hb, Result.andThen, setBlock]
  ·rw [Array.toList_push, List.map_append, hm, List.map_append]; rfl
 ·exact absurd (List.mem_map.2 ⟨_, List.mem_of_getElem? (map_nth hm h2 h3), rfl⟩) hk
theorem map_upd_some {w : World} {b : Nat} {o : Obj} {M1 M2 : List (Bs × Value)} {k : Bs} {u : Value} (hb : w.heap[b]? = some o) (h : MapObj o (M1 ++ (k, u) :: M2)) (hM : ∀ p ∈ M1 ++ (k, u) :: M2, p.1.length ≤ maxLen) (hk0 : k.length ≤ maxLen) (hk1 : k ∉ M1.map (·.1)) (hk2 : k ∉ M2.map (·.1)) (v : Value) :
  ∃ o', (Instr.mapUpdate 60 (.map (some b)) (.string (sB k)) v).run Tryd.prog w = .ok () (setBlock w b o') ∧ MapObj o' (M1 ++ (k, v) :: M2) := by
 obtain ⟨es, c, rfl, hm⟩ := h
 rcases strKeyed.find w (strKey hk0) es.toList (map_keys hM hm) with ⟨h1, h4⟩ | ⟨j, e, h1, h2, h3⟩
 ·exact absurd (by simp) (map_no hm h4)
 ·obtain ⟨hj, he⟩ := nth_split hk1 hk2 (map_nth hm h2 h3)
  have hj2 : es[j]? = some e := by simpa using h2
  refine ⟨.map (es.modify j fun e' => { e' with key := .string (sB k), val := v }) c, ?_, _, _, rfl, ?_⟩
  ·simp [Instr.mapUpdate, run_underlying Tryd.underlying60, Go.MapKept.run_getObj_map hb, strKeyed.check w false (strKey hk0), h1, hj2, h3, strKeyed.stays w (strKey hk0), Go.MapKept.run_setObj_map _ hb, Result.andThen, setBlock]
  ·rw [Array.toList_modify, Go.ChangeMaps.modify_eq_set _ _ _ _ h2, List.map_set, hm, hj]
   simp
theorem set_same {w : World} {b : Nat} {o o' : Obj} (hb : w.heap[b]? = some o) : (setBlock w b o').heap[b]? = some o' := by
 have := (Array.getElem?_eq_some_iff.1 hb).1
 simp [setBlock, this]
theorem set_far {w : World} {b k : Nat} {o : Obj} {x : Option Obj} (hk : w.heap[k]? = x) (hne : k ≠ b) : (setBlock w b o).heap[k]? = x := by
 simp only [setBlock]
 rw [Array.getElem?_setIfInBounds_ne (Ne.symm hne)]
 exact hk
theorem set_below {w0 w : World} {b : Nat} {o : Obj} (h : Below w0.heap.size w0 w) (hb : w0.heap.size ≤ b) : Below w0.heap.size w0 (setBlock w b o) :=
 ⟨h.os, h.tape, h.output, by simp only [setBlock, Array.size_setIfInBounds]; exact h.size, fun k hk => set_far (h.block k hk) (by omega)⟩
end Go.Proofs.YtgnfapnnbcafbaaDoor.UN
end
section
/- The writers of a unit file: each adds to the text in a cell. Condition: room for the text. -/
namespace Go.Proofs.YtgnfapnnbcafbaaDoor.UN
open Go Go.RowKit Go.Proofs.YtgnfapnnbcafbaaDoorW.PrintWords Go.Proofs.YtgnfapnnbcafbaaDoorW Go.Proofs.YtgnfapnnbcafbaaDoorW.PrintLast Go.Proofs.YtgnfapnnbcafbaaDoor.GUL
open Go.ChangeMaps (setBlock)
set_option linter.unusedVariables false
set_option linter.unusedSimpArgs false
structure Put (w w' : World) (b : Nat) (t : ByteArray) : Prop where
 txt : w'.heap[b]? = some (.cells #[.string t] 9 (0, 0))
 far : ∀ (k : Nat) (o : Obj), k ≠ b → w.heap[k]? = some o → w'.heap[k]? = some o
 bel : ∀ w0 : World, w0.heap.size ≤ b → Below w0.heap.size w0 w → Below w0.heap.size w0 w'
theorem Put.trans {w w1 w2 : World} {b : Nat} {t1 t2 : ByteArray} (h : Put w w1 b t1) (g : Put w1 w2 b t2) : Put w w2 b t2 :=
 ⟨g.txt, fun k o hk ho => g.far k o hk (h.far k o hk ho), fun w0 h0 hb => g.bel w0 h0 (h.bel w0 h0 hb)⟩
theorem Put.set {w : World} {b : Nat} {s t : ByteArray} (hb : w.heap[b]? = some (.cells #[.string s] 9 (0, 0))) : Put w (w.setCell ⟨b, 0, none⟩ (.string t)) b t :=
 ⟨blk_put hb 0 _ rfl, fun k o hk ho => (Below.heap_setCell w _ _ k hk).trans ho, fun w0 h0 h => below_set h h0⟩
theorem Put.drewN {w w1 : World} {b : Nat} {t : ByteArray} (n : Nat) (h : Put (w.drewN n) w1 b t) : Put w w1 b t :=
 ⟨h.txt, fun k o hk ho => h.far k o hk (blk_drewN ho n), fun w0 h0 hb => h.bel w0 h0 (pw_below_drewN hb n)⟩
theorem Put.drew {w w1 : World} {b : Nat} {t : ByteArray} (h : Put w w1 b t) : Put w w1.drew b t :=
 ⟨blk_drew h.txt, fun k o hk ho => blk_drew (h.far k o hk ho), fun w0 h0 hb => below_drew1 (h.bel w0 h0 hb)⟩
def PutPost (w : World) (b : Nat) (t : ByteArray) (e : Ending) (w' : World) : Prop := e = .returned (.tuple #[]) ∧ Put w w' b t
set_option maxHeartbeats 4000000 in
set_option maxRecDepth 100000 in
theorem put_newline (b : Nat) (s : ByteArray) (w : World) (hb : w.heap[b]? = some (.cells #[.string s] 9 (0, 0))) (hs : s.size ≤ 100000000) : Calls Tryd.prog 51 #[.pointer (some ⟨b, 0, none⟩)] w (PutPost w b (s ++ ⟨#[10]⟩)) := by
 have c0 : w.cell? ⟨b, 0, none⟩ = some (.string s) := (blk_cell hb 0).trans rfl
 have f0 := blk_frozen hb 0
 have e0 : s.size + 1 ≤ 9223372036854775807 := by omega
 have e1 : (s.size + 1 ≤ 9223372036854775807) = True := eq_true e0
 have HP := Aside0.mk (Put.set (t := s ++ ⟨#[10]⟩) hb)
 clear hb
 go_enter Tryd.func51, Tryd.ntmps51
 go_wp2
 go_end0
 exact ⟨rfl, HP.out⟩
set_option maxHeartbeats 4000000 in
set_option maxRecDepth 100000 in
theorem put_header (b : Nat) (s a : ByteArray) (w : World) (hb : w.heap[b]? = some (.cells #[.string s] 9 (0, 0))) (hs : s.size ≤ 100000000) (ha : a.size ≤ 100000000) : Calls Tryd.prog 50 #[.pointer (some ⟨b, 0, none⟩), .string a] w (PutPost w b (((s ++ ⟨#[91]⟩) ++ a) ++ ⟨#[93]⟩)) := by
 have c0 : w.cell? ⟨b, 0, none⟩ = some (.string s) := (blk_cell hb 0).trans rfl
 have f0 := blk_frozen hb 0
 have z1 : (s ++ (⟨#[91]⟩ : ByteArray)).size = s.size + 1 := by rw [ByteArray.size_append]; rfl
 have z2 : ((s ++ (⟨#[91]⟩ : ByteArray)) ++ a).size = s.size + 1 + a.size := by rw [ByteArray.size_append, z1]
 have e0 : s.size + 1 ≤ 9223372036854775807 := by omega
 have e1 : (s.size + 1 ≤ 9223372036854775807) = True := eq_true e0
 have e2 : s.size + 1 + a.size ≤ 9223372036854775807 := by omega
 have e3 : (s.size + 1 + a.size ≤ 9223372036854775807) = True := eq_true e2
 have e4 : s.size + 1 + a.size + 1 ≤ 9223372036854775807 := by omega
 have e5 : (s.size + 1 + a.size + 1 ≤ 9223372036854775807) = True := eq_true e4
 have P1 := Put.set (t := s ++ ⟨#[91]⟩) hb
 have P2 := P1.trans (Put.set (t := (s ++ ⟨#[91]⟩) ++ a) P1.txt)
 have P3 := Aside0.mk (P2.trans (Put.set (t := ((s ++ ⟨#[91]⟩) ++ a) ++ ⟨#[93]⟩) P2.txt))
 have d1 : (w.setCell ⟨b, 0, none⟩ (.string (s ++ ⟨#[91]⟩))).cell? ⟨b, 0, none⟩ = some (.string (s ++ ⟨#[91]⟩)) := (blk_cell P1.txt 0).trans rfl
 have g1 := blk_frozen P1.txt 0
 have d2 : ((w.setCell ⟨b, 0, none⟩ (.string (s ++ ⟨#[91]⟩))).setCell ⟨b, 0, none⟩ (.string ((s ++ ⟨#[91]⟩) ++ a))).cell? ⟨b, 0, none⟩ = some (.string ((s ++ ⟨#[91]⟩) ++ a)) := (blk_cell P2.txt 0).trans rfl
 have g2 := blk_frozen P2.txt 0
 clear hb P1 P2
 go_enter Tryd.func50, Tryd.ntmps50
 go_wp2
 go_end0
 exact ⟨rfl, P3.out⟩
set_option maxHeartbeats 4000000 in
set_option maxRecDepth 100000 in
theorem put_option (b p : Nat) (s : ByteArray) (x : O) (w : World) (hb : w.heap[b]? = some (.cells #[.string s] 9 (0, 0))) (hp : w.heap[p]? = some (optObj x)) (hs : s.size ≤ 100000000) (hn : x.n.length ≤ 100000000) (hv : x.v.length ≤ 100000000) : Calls Tryd.prog 52 #[.pointer (some ⟨b, 0, none⟩), .pointer (some ⟨p, 0, none⟩)] w (PutPost w b (((s ++ sB x.n) ++ ⟨#[61]⟩) ++ sB x.v)) := by
 have hne : p ≠ b := blk_ne hp hb (by decide)
 have c0 : w.cell? ⟨b, 0, none⟩ = some (.string s) := (blk_cell hb 0).trans rfl
 have f0 := blk_frozen hb 0
 have y1 : w.cell? ⟨p, 1, none⟩ = some (.string (sB x.n)) := (blk_cell hp 1).trans rfl
 have zn : (sB x.n).size = x.n.length := by show x.n.toArray.size = _; simp
 have zv : (sB x.v).size = x.v.length := by show x.v.toArray.size = _; simp
 have z1 : (s ++ sB x.n).size = s.size + x.n.length := by rw [ByteArray.size_append, zn]
 have z2 : ((s ++ sB x.n) ++ (⟨#[61]⟩ : ByteArray)).size = s.size + x.n.length + 1 := by rw [ByteArray.size_append, z1]; rfl
 have e0 : s.size + x.n.length ≤ 9223372036854775807 := by omega
 have e1 : (s.size + x.n.length ≤ 9223372036854775807) = True := eq_true e0
 have e2 : s.size + x.n.length + 1 ≤ 9223372036854775807 := by omega
 have e3 : (s.size + x.n.length + 1 ≤ 9223372036854775807) = True := eq_true e2
 have e4 : s.size + x.n.length + 1 + x.v.length ≤ 9223372036854775807 := by omega
 have e5 : (s.size + x.n.length + 1 + x.v.length ≤ 9223372036854775807) = True := eq_true e4
 have q1 : (9223372036854775807 < s.size + x.n.length) = False := eq_false (by omega)
 have q3 : (9223372036854775807 < s.size + x.n.length + 1) = False := eq_false (by omega)
 have q5 : (9223372036854775807 < s.size + x.n.length + 1 + x.v.length) = False := eq_false (by omega)
 have y2 : w.cell? ⟨p, 2, none⟩ = some (.string (sB x.v)) := (blk_cell hp 2).trans rfl
 have P1 : Put w (w.setCell ⟨b, 0, none⟩ (.string (s ++ sB x.n))).drew b (s ++ sB x.n) := (Put.set hb).drew
 generalize hW1 : (w.setCell ⟨b, 0, none⟩ (.string (s ++ sB x.n))).drew = w1 at P1
 have P2 : Put w (w1.setCell ⟨b, 0, none⟩ (.string ((s ++ sB x.n) ++ ⟨#[61]⟩))) b ((s ++ sB x.n) ++ ⟨#[61]⟩) := P1.trans (Put.set P1.txt)
 generalize hW2 : w1.setCell ⟨b, 0, none⟩ (.string ((s ++ sB x.n) ++ ⟨#[61]⟩)) = w2 at P2
 have P3 : Put w (w2.setCell ⟨b, 0, none⟩ (.string (((s ++ sB x.n) ++ ⟨#[61]⟩) ++ sB x.v))).drew b (((s ++ sB x.n) ++ ⟨#[61]⟩) ++ sB x.v) := P2.trans (Put.set P2.txt).drew
 have HP3 := Aside0.mk P3
 have d1 : w1.cell? ⟨b, 0, none⟩ = some (.string (s ++ sB x.n)) := (blk_cell P1.txt 0).trans rfl
 have g1 := blk_frozen P1.txt 0
 have d2 : w2.cell? ⟨b, 0, none⟩ = some (.string ((s ++ sB x.n) ++ ⟨#[61]⟩)) := (blk_cell P2.txt 0).trans rfl
 have g2 := blk_frozen P2.txt 0
 replace y2 : w2.cell? ⟨p, 2, none⟩ = some (.string (sB x.v)) := (blk_cell (P2.far _ _ hne hp) 2).trans rfl
 have HW1 := Aside0.mk hW1
 have HW2 := Aside0.mk hW2
 clear hb hp hne P1 P2 P3 hW1 hW2
 go_enter Tryd.func52, Tryd.ntmps52
 go_wp2
 refine start_ (n := 10) (S := fun w' => w'.cell? ⟨b, 0, none⟩ = some (.string s) ∧ w'.cell? ⟨p, 1, none⟩ = some (.string (sB x.n))) (ds := [9]) (bb [0, 10]) (by kernel_rfl) rfl rfl ⟨c0, y1⟩ (fun hHeld => ?_)
 refine pure_ (i := 0) (N := some 4) (v := ?_) (a' := ?_) (bb [1, 9]) rfl rfl (by kernel_rfl) (fun _ _ _ h => h) (Or.inl ⟨by rfl, ?_⟩) ?_ ?_
 rotate_left
 ·intro w'
  go_simp
  with_reducible rfl
 rotate_left
 ·simp only [Act.put, List.setIfInBounds_toArray, List.set_cons_zero, List.set_cons_succ, i64_w, i32_w]
  rfl
 refine pure_ (i := 1) (N := some 5) (v := ?_) (a' := ?_) (bb [2, 8]) rfl rfl (by kernel_rfl) (fun _ _ _ h => h) (Or.inl ⟨by rfl, ?_⟩) ?_ ?_
 rotate_left
 ·intro w'
  go_simp
  with_reducible rfl
 rotate_left
 ·simp only [Act.put, List.setIfInBounds_toArray, List.set_cons_zero, List.set_cons_succ, i64_w, i32_w]
  rfl
 refine pure_ (i := 3) (N := some 7) (v := ?_) (a' := ?_) (bb [2, 1, 1, 6]) rfl rfl (by kernel_rfl) (fun _ _ _ h => h) (Or.inl ⟨by rfl, ?_⟩) ?_ ?_
 rotate_left
 ·intro w'
  go_simp
  with_reducible rfl
 rotate_left
 ·simp only [Act.put, List.setIfInBounds_toArray, List.set_cons_zero, List.set_cons_succ, i64_w, i32_w]
  rfl
 refine pure_ (i := 4) (N := some 8) (v := ?_) (a' := ?_) (bb [2, 1, 2, 5]) rfl rfl (by kernel_rfl) (fun _ _ _ h => h) (Or.inl ⟨by rfl, ?_⟩) ?_ ?_
 rotate_left
 ·intro w'
  go_simp
  with_reducible rfl
 rotate_left
 ·simp only [Act.put, List.setIfInBounds_toArray, List.set_cons_zero, List.set_cons_succ, i64_w, i32_w]
  rfl
 refine pure_ (i := 5) (N := some 9) (v := ?_) (a' := ?_) (bb [2, 1, 3, 4]) rfl rfl (by kernel_rfl) (fun _ _ _ h => h) (Or.inl ⟨by rfl, ?_⟩) ?_ ?_
 rotate_left
 ·intro w'
  go_simp
  with_reducible rfl
 rotate_left
 ·simp only [Act.put, List.setIfInBounds_toArray, List.set_cons_zero, List.set_cons_succ, i64_w, i32_w]
  rfl
 refine take_ (i := 2) (N := some 6) (v := ?_) (a' := ?_) (bb [6, 4]) rfl rfl (by kernel_rfl) (fun _ _ _ h => h) (Or.inl ⟨by rfl, ?_⟩) hHeld ?_ ?_
 rotate_left
 ·rintro w' ⟨s0, s1⟩
  go_simp
  with_reducible rfl
 rotate_left
 ·simp only [Act.put, List.setIfInBounds_toArray, List.set_cons_zero, List.set_cons_succ, i64_w, i32_w]
  rfl
 refine take_ (i := 6) (N := some 10) (v := ?_) (a' := ?_) (bb [7, 3]) rfl rfl (by kernel_rfl) (fun _ _ _ h => h) (Or.inl ⟨by rfl, ?_⟩) hHeld ?_ ?_
 rotate_left
 ·rintro w' ⟨s0, s1⟩
  go_simp
  with_reducible rfl
 rotate_left
 ·simp only [Act.put, List.setIfInBounds_toArray, List.set_cons_zero, List.set_cons_succ, i64_w, i32_w]
  rfl
 refine pure_ (i := 7) (N := some 11) (v := ?_) (a' := ?_) (bb [8, 2]) rfl rfl (by kernel_rfl) (fun _ _ _ h => h) (Or.inl ⟨by rfl, ?_⟩) ?_ ?_
 rotate_left
 ·intro w'
  go_simp
  with_reducible rfl
 rotate_left
 ·simp only [Act.put, List.setIfInBounds_toArray, List.set_cons_zero, List.set_cons_succ, i64_w, i32_w]
  rfl
 refine pure_ (i := 8) (N := some 12) (v := ?_) (a' := ?_) (bb [9, 1]) rfl rfl (by kernel_rfl) (fun _ _ _ h => h) (Or.inl ⟨by rfl, ?_⟩) ?_ ?_
 rotate_left
 ·intro w'
  go_simp
  with_reducible rfl
 rotate_left
 ·simp only [Act.put, List.setIfInBounds_toArray, List.set_cons_zero, List.set_cons_succ, i64_w, i32_w]
  rfl
 refine last_ (i := 9) (N := none) (bb [10]) rfl rfl (by kernel_rfl) (by decide) (fun K hK => ?_)
 refine skip_ (w1 := ?_) (by rfl) rfl ?_ ?_
 rotate_left
 ·go_simp
  rfl
 refine hK.out _ _ ?_
 clear hK K
 refine done_ (by kernel_rfl) ?_
 rw [HW1.out]
 go_upto_region 2 with (fail)
 rw [HW2.out]
 refine start_ (n := 10) (S := fun w' => w'.cell? ⟨b, 0, none⟩ = some (.string ((s ++ sB x.n) ++ ⟨#[61]⟩)) ∧ w'.cell? ⟨p, 2, none⟩ = some (.string (sB x.v))) (ds := [9]) (bb [0, 10]) (by kernel_rfl) rfl rfl ⟨d2, y2⟩ (fun hHeld => ?_)
 refine pure_ (i := 0) (N := some 18) (v := ?_) (a' := ?_) (bb [1, 9]) rfl rfl (by kernel_rfl) (fun _ _ _ h => h) (Or.inl ⟨by rfl, ?_⟩) ?_ ?_
 rotate_left
 ·intro w'
  go_simp
  with_reducible rfl
 rotate_left
 ·simp only [Act.put, List.setIfInBounds_toArray, List.set_cons_zero, List.set_cons_succ, i64_w, i32_w]
  rfl
 refine pure_ (i := 1) (N := some 19) (v := ?_) (a' := ?_) (bb [2, 8]) rfl rfl (by kernel_rfl) (fun _ _ _ h => h) (Or.inl ⟨by rfl, ?_⟩) ?_ ?_
 rotate_left
 ·intro w'
  go_simp
  with_reducible rfl
 rotate_left
 ·simp only [Act.put, List.setIfInBounds_toArray, List.set_cons_zero, List.set_cons_succ, i64_w, i32_w]
  rfl
 refine pure_ (i := 3) (N := some 21) (v := ?_) (a' := ?_) (bb [2, 1, 1, 6]) rfl rfl (by kernel_rfl) (fun _ _ _ h => h) (Or.inl ⟨by rfl, ?_⟩) ?_ ?_
 rotate_left
 ·intro w'
  go_simp
  with_reducible rfl
 rotate_left
 ·simp only [Act.put, List.setIfInBounds_toArray, List.set_cons_zero, List.set_cons_succ, i64_w, i32_w]
  rfl
 refine pure_ (i := 4) (N := some 22) (v := ?_) (a' := ?_) (bb [2, 1, 2, 5]) rfl rfl (by kernel_rfl) (fun _ _ _ h => h) (Or.inl ⟨by rfl, ?_⟩) ?_ ?_
 rotate_left
 ·intro w'
  go_simp
  with_reducible rfl
 rotate_left
 ·simp only [Act.put, List.setIfInBounds_toArray, List.set_cons_zero, List.set_cons_succ, i64_w, i32_w]
  rfl
 refine pure_ (i := 5) (N := some 23) (v := ?_) (a' := ?_) (bb [2, 1, 3, 4]) rfl rfl (by kernel_rfl) (fun _ _ _ h => h) (Or.inl ⟨by rfl, ?_⟩) ?_ ?_
 rotate_left
 ·intro w'
  go_simp
  with_reducible rfl
 rotate_left
 ·simp only [Act.put, List.setIfInBounds_toArray, List.set_cons_zero, List.set_cons_succ, i64_w, i32_w]
  rfl
 refine take_ (i := 2) (N := some 20) (v := ?_) (a' := ?_) (bb [6, 4]) rfl rfl (by kernel_rfl) (fun _ _ _ h => h) (Or.inl ⟨by rfl, ?_⟩) hHeld ?_ ?_
 rotate_left
 ·rintro w' ⟨s0, s1⟩
  go_simp
  with_reducible rfl
 rotate_left
 ·simp only [Act.put, List.setIfInBounds_toArray, List.set_cons_zero, List.set_cons_succ, i64_w, i32_w]
  rfl
 refine take_ (i := 6) (N := some 24) (v := ?_) (a' := ?_) (bb [7, 3]) rfl rfl (by kernel_rfl) (fun _ _ _ h => h) (Or.inl ⟨by rfl, ?_⟩) hHeld ?_ ?_
 rotate_left
 ·rintro w' ⟨s0, s1⟩
  go_simp
  with_reducible rfl
 rotate_left
 ·simp only [Act.put, List.setIfInBounds_toArray, List.set_cons_zero, List.set_cons_succ, i64_w, i32_w]
  rfl
 refine pure_ (i := 7) (N := some 25) (v := ?_) (a' := ?_) (bb [8, 2]) rfl rfl (by kernel_rfl) (fun _ _ _ h => h) (Or.inl ⟨by rfl, ?_⟩) ?_ ?_
 rotate_left
 ·intro w'
  go_simp
  with_reducible rfl
 rotate_left
 ·simp only [Act.put, List.setIfInBounds_toArray, List.set_cons_zero, List.set_cons_succ, i64_w, i32_w]
  rfl
 refine pure_ (i := 8) (N := some 26) (v := ?_) (a' := ?_) (bb [9, 1]) rfl rfl (by kernel_rfl) (fun _ _ _ h => h) (Or.inl ⟨by rfl, ?_⟩) ?_ ?_
 rotate_left
 ·intro w'
  go_simp
  with_reducible rfl
 rotate_left
 ·simp only [Act.put, List.setIfInBounds_toArray, List.set_cons_zero, List.set_cons_succ, i64_w, i32_w]
  rfl
 refine last_ (i := 9) (N := none) (bb [10]) rfl rfl (by kernel_rfl) (by decide) (fun K hK => ?_)
 refine skip_ (w1 := ?_) (by rfl) rfl ?_ ?_
 rotate_left
 ·go_simp
  rfl
 refine hK.out _ _ ?_
 clear hK K
 refine done_ (by kernel_rfl) ?_
 go_wp2
 go_end0
 exact ⟨rfl, HP3.out⟩
end Go.Proofs.YtgnfapnnbcafbaaDoor.UN
end
section
/- What stands in memory while Serialize gathers the options by their sections: plain facts on memory. No condition beyond what they say. -/
namespace Go.Proofs.YtgnfapnnbcafbaaDoor.UN
open Go Go.RowKit Go.Proofs.YtgnfapnnbcafbaaDoorW.PrintWords Go.Proofs.YtgnfapnnbcafbaaDoorW Go.Proofs.YtgnfapnnbcafbaaDoorW.PrintLast Go.Proofs.YtgnfapnnbcafbaaDoor.GUL
open Go.ChangeMaps (setBlock)
set_option linter.unusedVariables false
set_option linter.unusedSimpArgs false
theorem row_mv {α : Type} {d : Kd α} (hE : d.E = []) {t : TypeId} {w w2 : World} {base : Nat} {v : Value} {xs : List α} (h : d.R t w base (fun _ => True) v xs) (mv : ∀ k, v.ownBlock = some k → w2.heap[k]? = w.heap[k]?) : d.R t w2 base (fun _ => True) v xs :=
 Kd.R_mono (Kd.R_move (Kd.R_tight hE h) (fun k hk => mv k hk.symm)) (fun _ _ => trivial)
theorem map_ne {α : Type} {d : Kd α} {t : TypeId} {w : World} {base mb : Nat} {ok : Nat → Prop} {v : Value} {xs : List α} {o : Obj} {M : List (Bs × Value)} (h : d.R t w base ok v xs) (hm : w.heap[mb]? = some o) (ho : MapObj o M) : some mb ≠ v.ownBlock := by
 intro he
 obtain ⟨cells, hc⟩ := Kd.R_typed h mb he.symm
 obtain ⟨es, c, rfl, _⟩ := ho
 rw [hm] at hc
 cases hc
theorem kS_empty {w : World} {y base : Nat} {t : TypeId} (h : w.heap[y]? = some (.cells #[] t (0, 0))) (hb : base ≤ y) : Kd.string.R t w base (fun _ => True) (.slice (some ⟨y, 0, none⟩) 0 0) [] := by
 refine Kd.R_of_own ?_ (fun _ _ => trivial)
 refine ⟨?_, .inr ⟨y, 0, #[], rfl, hb, h, ?_⟩⟩
 ·simp [encs]
 ·simp [encs]
structure Gr where
 sec : Bs
 v : Value
 P : List (Nat × O)
structure SSt (w0 w : World) (bb mb : Nat) (v5 : Value) (G : List Gr) : Prop where
 bel : Below w0.heap.size w0 w
 bufG : w0.heap.size ≤ bb
 buf : w.heap[bb]? = some (.cells #[.string ⟨#[]⟩] 9 (0, 0))
 mapG : w0.heap.size ≤ mb
 map : ∃ o, w.heap[mb]? = some o ∧ MapObj o (G.map fun g => (g.sec, g.v))
 secR : Kd.string.R 9 w w0.heap.size (fun _ => True) v5 (G.map fun g => sB g.sec)
 secB : v5.ownBlock ≠ some bb
 rows : ∀ g ∈ G, kA.R 48 w w0.heap.size (fun _ => True) g.v (g.P.map (·.1))
 apart : G.Pairwise (fun g h => ∀ k, g.v.ownBlock = some k → h.v.ownBlock ≠ some k)
 nod : (G.map (·.sec)).Nodup
theorem SSt.new {w0 w w1 w2 : World} {bb mb : Nat} {v5 v6 v9 : Value} {G : List Gr} {o' : Obj} (h : SSt w0 w bb mb v5 G) (a : Bs) (ha : a ∉ G.map (·.sec)) (p : Nat × O) (hg1 : w.grownBy w1 v5.ownBlock)
  (ho1 : Kd.string.R 9 w1 w0.heap.size (fun _ => True) v6 ((G.map fun g => sB g.sec) ++ [sB a])) (hat1 : v6.ownBlock = v5.ownBlock ∨ ∃ b, v6.ownBlock = some b ∧ w.heap.size ≤ b)
  (hg2 : w1.grownBy w2 none) (ho2 : kA.R 48 w2 w0.heap.size (fun _ => True) v9 [p.1]) (hat2 : v9.ownBlock = none ∨ ∃ b, v9.ownBlock = some b ∧ w1.heap.size ≤ b)
  (hb1 : Below w0.heap.size w0 w1) (hs1 : w.heap.size ≤ w1.heap.size) (hb2 : Below w0.heap.size w0 w2) (hmo : MapObj o' ((G.map fun g => (g.sec, g.v)) ++ [(a, v9)])) : SSt w0 (setBlock w2 mb o') bb mb v6 (G ++ [⟨a, v9, [p]⟩]) := by
 obtain ⟨o, hm, hmo0⟩ := h.map
 have key : ∀ (k : Nat) (x : Obj), w.heap[k]? = some x → some k ≠ v5.ownBlock → w2.heap[k]? = some x := fun k x hk hne => blk_grown (blk_grown hk hg1 hne) hg2 (by simp)
 have hmv5 := map_ne h.secR hm hmo0
 have hm2 := key mb o hm hmv5
 have hm1 := blk_grown hm hg1 hmv5
 have hbm : bb ≠ mb := by
  rintro rfl
  obtain ⟨es, c, rfl, _⟩ := hmo0
  have := h.buf.symm.trans hm
  cases this
 refine ⟨set_below hb2 h.mapG, h.bufG, set_far (key bb _ h.buf (fun e => h.secB e.symm)) hbm, h.mapG, ⟨o', set_same hm2, by rw [List.map_append]; exact hmo⟩, ?_, ?_, ?_, ?_, ?_⟩
 ·rw [List.map_append]
  refine row_mv rfl ho1 fun k hk => ?_
  obtain ⟨cells, hc⟩ := Kd.R_typed ho1 k hk
  exact (set_far (blk_grown hc hg2 (by simp)) (fun e => map_ne ho1 hm1 hmo0 (by rw [← e]; exact hk.symm))).trans hc.symm
 ·rcases hat1 with e | ⟨b, e, hb⟩
  ·rw [e]; exact h.secB
  ·rw [e]
   have := blk_lt h.buf
   intro e2
   injection e2 with e2
   omega
 ·intro g hg
  rcases List.mem_append.1 hg with hg | hg
  ·refine row_mv rfl (h.rows g hg) fun k hk => ?_
   obtain ⟨cells, hc⟩ := Kd.R_typed (h.rows g hg) k hk
   exact (set_far (key k _ hc (Kd.R_ne h.secR hc (by decide))) (fun e => map_ne (h.rows g hg) hm hmo0 (by rw [← e]; exact hk.symm))).trans hc.symm
  ·obtain rfl := List.mem_singleton.1 hg
   refine row_mv rfl ho2 fun k hk => ?_
   obtain ⟨cells, hc⟩ := Kd.R_typed ho2 k hk
   exact (set_far hc (fun e => map_ne ho2 hm2 hmo0 (by rw [← e]; exact hk.symm))).trans hc.symm
 ·rw [List.pairwise_append]
  refine ⟨h.apart, List.pairwise_singleton _ _, fun g hg x hx k hk => ?_⟩
  obtain rfl := List.mem_singleton.1 hx
  obtain ⟨cells, hc⟩ := Kd.R_typed (h.rows g hg) k hk
  have hlt := blk_lt hc
  rcases hat2 with e | ⟨b, e, hb⟩
  ·show v9.ownBlock ≠ some k
   rw [e]; simp
  ·show v9.ownBlock ≠ some k
   rw [e]
   intro e2
   injection e2 with e2
   omega
 ·rw [List.map_append, List.nodup_append]
  refine ⟨h.nod, by simp, fun x hx y hy => ?_⟩
  simp only [List.map_cons, List.map_nil, List.mem_singleton] at hy
  rintro rfl
  exact ha (hy ▸ hx)
theorem SSt.more {w0 w w2 : World} {bb mb : Nat} {v5 v9 : Value} {G1 G2 : List Gr} {g : Gr} {o' : Obj} (h : SSt w0 w bb mb v5 (G1 ++ g :: G2)) (p : Nat × O)
  (hg2 : w.grownBy w2 g.v.ownBlock) (ho2 : kA.R 48 w2 w0.heap.size (fun _ => True) v9 (g.P.map (·.1) ++ [p.1])) (hat2 : v9.ownBlock = g.v.ownBlock ∨ ∃ b, v9.ownBlock = some b ∧ w.heap.size ≤ b)
  (hb2 : Below w0.heap.size w0 w2) (hmo : MapObj o' ((G1.map fun g => (g.sec, g.v)) ++ (g.sec, v9) :: (G2.map fun g => (g.sec, g.v)))) : SSt w0 (setBlock w2 mb o') bb mb v5 (G1 ++ ⟨g.sec, v9, g.P ++ [p]⟩ :: G2) := by
 obtain ⟨o, hm, hmo0⟩ := h.map
 have hgr := h.rows g (by simp)
 have key : ∀ (k : Nat) (x : Obj), w.heap[k]? = some x → some k ≠ g.v.ownBlock → w2.heap[k]? = some x := fun k x hk hne => blk_grown hk hg2 hne
 have hm2 := key mb o hm (map_ne hgr hm hmo0)
 have hbm : bb ≠ mb := by
  rintro rfl
  obtain ⟨es, c, rfl, _⟩ := hmo0
  have := h.buf.symm.trans hm
  cases this
 have hsame : ∀ k, v9.ownBlock = some k → ∀ (v : Value), v.ownBlock = some k → (∃ cells t, w.heap[k]? = some (.cells cells t (0, 0))) → g.v.ownBlock = some k := fun k hk v hv hc => by
  rcases hat2 with e | ⟨b, e, hb⟩
  ·rw [← e]; exact hk
  ·obtain ⟨cells, t, hc⟩ := hc
   have := blk_lt hc
   rw [hk] at e
   injection e with e
   omega
 have hap := h.apart
 rw [List.pairwise_append, List.pairwise_cons] at hap
 obtain ⟨ap1, ⟨ap2, ap3⟩, ap4⟩ := hap
 refine ⟨set_below hb2 h.mapG, h.bufG, set_far (key bb _ h.buf (Kd.R_ne hgr h.buf (by decide))) hbm, h.mapG, ⟨o', set_same hm2, by rw [List.map_append, List.map_cons]; exact hmo⟩, ?_, h.secB, ?_, ?_, ?_⟩
 ·have e5 : (G1 ++ (⟨g.sec, v9, g.P ++ [p]⟩ : Gr) :: G2).map (fun g => sB g.sec) = (G1 ++ g :: G2).map fun g => sB g.sec := by simp
  rw [e5]
  refine row_mv rfl h.secR fun k hk => ?_
  obtain ⟨cells, hc⟩ := Kd.R_typed h.secR k hk
  exact (set_far (key k _ hc (Kd.R_ne hgr hc (by decide))) (fun e => map_ne h.secR hm hmo0 (by rw [← e]; exact hk.symm))).trans hc.symm
 ·have other : ∀ x ∈ G1 ++ g :: G2, (∀ k, x.v.ownBlock = some k → some k ≠ g.v.ownBlock) → kA.R 48 (setBlock w2 mb o') w0.heap.size (fun _ => True) x.v (x.P.map (·.1)) := fun x hx hne => by
   refine row_mv rfl (h.rows x hx) fun k hk => ?_
   obtain ⟨cells, hc⟩ := Kd.R_typed (h.rows x hx) k hk
   exact (set_far (key k _ hc (hne k hk)) (fun e => map_ne (h.rows x hx) hm hmo0 (by rw [← e]; exact hk.symm))).trans hc.symm
  intro x hx
  rcases List.mem_append.1 hx with hx | hx
  ·exact other x (by simp [hx]) fun k hk e => ap4 x hx g (by simp) k hk e.symm
  ·rcases List.mem_cons.1 hx with rfl | hx
   ·show kA.R _ _ _ _ v9 ((g.P ++ [p]).map (·.1))
    rw [List.map_append]
    refine row_mv rfl ho2 fun k hk => ?_
    obtain ⟨cells, hc⟩ := Kd.R_typed ho2 k hk
    exact (set_far hc (fun e => map_ne ho2 hm2 hmo0 (by rw [← e]; exact hk.symm))).trans hc.symm
   ·exact other x (by simp [hx]) fun k hk e => ap2 x hx k e.symm hk
 ·rw [List.pairwise_append, List.pairwise_cons]
  refine ⟨ap1, ⟨fun x hx k hk e => ?_, ap3⟩, fun x hx y hy k hk e => ?_⟩
  ·obtain ⟨cells, hc⟩ := Kd.R_typed (h.rows x (by simp [hx])) k e
   exact ap2 x hx k (hsame k hk x.v e ⟨cells, _, hc⟩) e
  ·rcases List.mem_cons.1 hy with rfl | hy
   ·obtain ⟨cells, hc⟩ := Kd.R_typed (h.rows x (by simp [hx])) k hk
    exact ap4 x hx g (by simp) k hk (hsame k e x.v hk ⟨cells, _, hc⟩)
   ·exact ap4 x hx y (by simp [hy]) k hk e
 ·have e6 : (G1 ++ (⟨g.sec, v9, g.P ++ [p]⟩ : Gr) :: G2).map (·.sec) = (G1 ++ g :: G2).map (·.sec) := by simp
  rw [e6]
  exact h.nod
end Go.Proofs.YtgnfapnnbcafbaaDoor.UN
end
