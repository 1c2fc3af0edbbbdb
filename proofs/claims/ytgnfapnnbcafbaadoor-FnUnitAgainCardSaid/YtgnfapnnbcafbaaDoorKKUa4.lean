/- Texts of this claim, put together: UPl3, UPl4, UAgain, UTrim, UFullA, UReadA, UPl8. Conditions: as each one says. -/
import Derived.Test.YtgnfapnnbcafbaaDoorKKUa0
import Derived.Test.YtgnfapnnbcafbaaDoorKKUa1
import Derived.Test.YtgnfapnnbcafbaaDoorKKUa3
import Derived.Test.YtgnfapnnbcafbaaDoorProg
import Derived.Below
import Derived.Deep.Draws
import Derived.Deep.AppendLies
import Derived.Maps.AppendAt
import Derived.OwnWalk
import Derived.Laws.BytesArg
import Derived.Laws.MakeOwn
import Derived.Laws.OwnMore
import Derived.Deep.OwnRows
import Derived.Tactics
import Derived.Lib.ConvBytes
import Derived.Laws.Slices
import Derived.WalkKit
import Derived.KernelRfl
import Derived.RowKit3
import Derived.Deep.LoopGhost
import Derived.Deep.QuietTactic
import Derived.BigQuiet
import Derived.WideLaws
import Derived.Deep.DeepCutAuto
import Derived.Deep.CutBlock
import Derived.Deep.RegionHeld3
import Derived.Laws.Rows
import Derived.Lib.AppendStr
import Derived.ArgAppend
import Derived.Laws.IdiomCopy
import Derived.OrdersHeld
import Derived.Laws.BitsLemmas
import Derived.RowKit
import Derived.Shelf.Spec.BytesTrimFunc
section
/- Plain facts: plainOptions, sameOptions, grouped: what they tell. Conditions: lists of at most 2^31 options, grouped's of at most a million. -/
namespace Go.Proofs.YtgnfapnnbcafbaaDoor.GUL
open Go Go.RowKit Go.Proofs.YtgnfapnnbcafbaaDoorW.PrintWords Go.Proofs.YtgnfapnnbcafbaaDoorW Go.Proofs.YtgnfapnnbcafbaaDoorW.PrintLast Go.Proofs.YtgnfapnnbcafbaaDoor.UN
set_option linter.unusedVariables false
set_option linter.unusedSimpArgs false
theorem toList_dl (b : ByteArray) : b.toList = b.data.toList := by
 have := sB_list b.data.toList
 rwa [sB_toList] at this
theorem fit_len {x : S30} (h : Fit30 x) : (toO x).s.length ≤ 2147483647 ∧ (toO x).n.length ≤ 2147483647 ∧ (toO x).v.length ≤ 2147483647 := by
 have e : ∀ b : ByteArray, b.data.toList.length = b.size := fun b => Array.length_toList
 simp only [toO, e]
 exact ⟨h.a, h.b, h.c⟩
theorem plainO_is (x : S30) (h : Fit30 x) : Tells (fun k => laws_plainOption.f k x.f0 x.f1 x.f2) (Plain (toO x).s (toO x).n (toO x).v) := by
 have h1 := plain_is (toO x).s (toO x).n (toO x).v (fit_len h).1 (fit_len h).2.1 (fit_len h).2.2
 simp only [toO, sB_toList] at h1
 exact h1
theorem plains_is (l : List S30) (hl : l.length ≤ 2147483647) (hf : ∀ x ∈ l, Fit30 x) : Tells (fun k => laws_plainOptions.f k l) (l.length ≤ 200 ∧ ∀ x ∈ l, Plain (toO x).s (toO x).n (toO x).v) := by
 have go : ∀ (d i : Nat), i + d = l.length → Tells (fun k => laws_plainOptions.l0 k l l (l.length : Int) (i : Int)) (l.length ≤ 200 ∧ ∀ x ∈ l.drop i, Plain (toO x).s (toO x).n (toO x).v) := by
  intro d
  induction d with
  | zero =>
   intro i hi
   refine Tells.step (f := fun _ => some (decide ((l.length : Int) ≤ 200))) (fun k => ?_) ⟨_, Ev.now _, fun h => ⟨by have := of_decide_eq_true h; omega, fun x hx => ?_⟩⟩
   ·simp only [laws_plainOptions.l0]
    rw [if_neg (by omega)]
   ·rw [List.drop_eq_nil_of_le (by omega)] at hx
    cases hx
  | succ d ih =>
   intro i hi
   have hil : i < l.length := by omega
   refine Tells.step (f := fun k => (laws_plainOption.f k l[i].f0 l[i].f1 l[i].f2).bind fun t => if t = true then laws_plainOptions.l0 k l l (l.length : Int) ((i + 1 : Nat) : Int) else some false) (fun k => ?_) ?_
   ·simp only [laws_plainOptions.l0]
    rw [if_pos (by omega), if_pos (by omega), if_pos (by omega), rd30_at l i hil, wr1 i (by omega)]
   ·refine Tells.bind (plainO_is l[i] (hf _ (List.getElem_mem hil))) fun h1 => Tells.mono (ih (i + 1) (by omega)) fun ⟨h2, h3⟩ => ⟨h2, fun x hx => ?_⟩
    rw [List.drop_eq_getElem_cons hil] at hx
    rcases List.mem_cons.1 hx with rfl | hx
    ·exact h1
    ·exact h3 x hx
 exact Tells.mono (go l.length 0 (by omega)) fun h => h
theorem same_self (l : List S30) (hl : l.length ≤ 2147483647) : Ev (fun k => laws_sameOptions.f k l l) true := by
 refine Ev.congr (f := fun k => laws_sameOptions.l0 k l l (l.length : Int) ((0 : Nat) : Int)) (fun k => by simp only [laws_sameOptions.f]; rw [if_pos trivial]; rfl) ?_
 have go : ∀ (d i : Nat), i + d = l.length → Ev (fun k => laws_sameOptions.l0 k l l (l.length : Int) (i : Int)) true := by
  intro d
  induction d with
  | zero =>
   intro i hi
   refine Ev.step (f := fun _ => some true) (fun k => ?_) (Ev.now _)
   simp only [laws_sameOptions.l0]
   rw [if_neg (by omega)]
  | succ d ih =>
   intro i hi
   refine Ev.step (f := fun k => laws_sameOptions.l0 k l l (l.length : Int) ((i + 1 : Nat) : Int)) (fun k => ?_) (ih (i + 1) (by omega))
   simp only [laws_sameOptions.l0]
   rw [if_pos (by omega), if_pos (by omega), if_pos (by omega), if_pos (by omega), wr1 i (by omega)]
   simp
 exact go l.length 0 (by omega)
theorem secs_len (l : List O) : (secs l).length ≤ l.length := by
 have k2 : ∀ (l : List O) (S : List Bs), (l.foldl (fun S o => addS S o.s) S).length ≤ S.length + l.length := by
  intro l
  induction l with
  | nil => intro S; exact Nat.le_refl _
  | cons o l ih =>
   intro S
   rw [List.foldl_cons]
   have h1 := ih (addS S o.s)
   have h2 : (addS S o.s).length ≤ S.length + 1 := by
    unfold addS
    split
    ·omega
    ·simp
   simp only [List.length_cons]
   omega
 have h9 := k2 l []
 rw [List.length_nil, Nat.zero_add] at h9
 exact h9
theorem upto_len (l : List O) (i : Nat) (hl : l.length ≤ 1000000) (hi : i ≤ 1000000) : (groupedUpto l i).length ≤ 1000000 * 1000000 := by
 unfold groupedUpto
 have k1 : ∀ S : List Bs, (S.flatMap fun a => l.filter fun o => o.s == a).length ≤ S.length * 1000000 := by
  intro S
  induction S with
  | nil => simp
  | cons a S ih =>
   rw [List.flatMap_cons, List.length_append, List.length_cons]
   have := List.length_filter_le (fun o => o.s == a) l
   omega
 have h1 := k1 (secs (l.take i))
 have h2 := secs_len (l.take i)
 rw [List.length_take] at h2
 have h3 : (secs (l.take i)).length * 1000000 ≤ 1000000 * 1000000 := Nat.mul_le_mul_right _ (by omega)
 exact Nat.le_trans h1 h3
section
variable (l : List S30)
theorem grp2 (F : Bool) (i : Nat) (hi : i < l.length) (o : S30) (zs : List S30) (hz : zs.length ≤ l.length) (r : List S30) (hl : l.length ≤ 1000000) : ∀ (d j : Nat) (out : List S30), j + d = zs.length → out.length ≤ 1000000 * 1000000 + j →
  Ev (fun k => laws_grouped.l0 k l (out ++ (if F = true then (zs.drop j).filter (fun x => x.f0.toList == o.f0.toList) else [])) l (l.length : Int) ((i + 1 : Nat) : Int)) r →
  Ev (fun k => laws_grouped.l2 k l out F l (l.length : Int) (i : Int) zs (zs.length : Int) (j : Int) o.f0 o.f1 o.f2) r
 | 0, j, out, hj, ho, h => by
  refine Ev.step (fun k => ?_) h
  simp only [laws_grouped.l2]
  rw [if_neg (by omega), wr1 i (by omega), List.drop_eq_nil_of_le (by omega)]
  simp
 | d + 1, j, out, hj, ho, h => by
  have hjl : j < zs.length := by omega
  rw [List.drop_eq_getElem_cons hjl] at h
  cases F with
  | false =>
   simp only [Bool.false_eq_true, if_false] at h
   refine Ev.step (f := fun k => laws_grouped.l2 k l out false l (l.length : Int) (i : Int) zs (zs.length : Int) ((j + 1 : Nat) : Int) o.f0 o.f1 o.f2) (fun k => ?_) (grp2 false i hi o zs hz r hl d (j + 1) out (by omega) (by omega) (by simp only [Bool.false_eq_true, if_false]; exact h))
   simp only [laws_grouped.l2]
   rw [if_pos (by omega), if_pos (by omega), if_pos (by omega), if_neg (by simp), wr1 j (by omega)]
  | true =>
   simp only [if_true] at h
   by_cases he : zs[j].f0.toList = o.f0.toList
   ·have hb : (zs[j].f0.toList == o.f0.toList) = true := beq_iff_eq.mpr he
    rw [List.filter_cons_of_pos (by exact hb)] at h
    refine Ev.step (f := fun k => laws_grouped.l2 k l (out ++ [zs[j]]) true l (l.length : Int) (i : Int) zs (zs.length : Int) ((j + 1 : Nat) : Int) o.f0 o.f1 o.f2) (fun k => ?_) (grp2 true i hi o zs hz r hl d (j + 1) (out ++ [zs[j]]) (by omega) (by rw [List.length_append]; simp; omega) (by simp only [if_true]; rw [List.append_assoc]; exact h))
    simp only [laws_grouped.l2]
    rw [if_pos (by omega), if_pos (by omega), if_pos (by omega), if_pos trivial, rd30_at zs j hjl, if_pos he, if_pos (by omega), wr1 j (by omega)]
   ·have hb : ¬ (zs[j].f0.toList == o.f0.toList) = true := fun e => he (beq_iff_eq.mp e)
    rw [List.filter_cons_of_neg (by exact hb)] at h
    refine Ev.step (f := fun k => laws_grouped.l2 k l out true l (l.length : Int) (i : Int) zs (zs.length : Int) ((j + 1 : Nat) : Int) o.f0 o.f1 o.f2) (fun k => ?_) (grp2 true i hi o zs hz r hl d (j + 1) out (by omega) (by omega) (by simp only [if_true]; exact h))
    simp only [laws_grouped.l2]
    rw [if_pos (by omega), if_pos (by omega), if_pos (by omega), if_pos trivial, rd30_at zs j hjl, if_neg he, wr1 j (by omega)]
theorem grp1 (i : Nat) (hi : i < l.length) (o : S30) (out ys : List S30) (hy : ys.length ≤ l.length) (r : List S30) (hl : l.length ≤ 1000000) : ∀ (d j : Nat) (F : Bool), j + d = ys.length →
  Ev (fun k => laws_grouped.l2 k l out (F && (ys.drop j).all fun x => x.f0.toList != o.f0.toList) l (l.length : Int) (i : Int) (l.drop i) ((l.drop i).length : Int) ((0 : Nat) : Int) o.f0 o.f1 o.f2) r →
  Ev (fun k => laws_grouped.l1 k l out (i : Int) F l (l.length : Int) (i : Int) ys (ys.length : Int) (j : Int) o.f0 o.f1 o.f2) r
 | 0, j, F, hj, h => by
  refine Ev.step (fun k => ?_) h
  simp only [laws_grouped.l1]
  rw [if_neg (by omega), if_pos (by omega), if_pos (by omega), List.drop_eq_nil_of_le (show ys.length ≤ j by omega)]
  simp
 | d + 1, j, F, hj, h => by
  have hjl : j < ys.length := by omega
  rw [List.drop_eq_getElem_cons hjl] at h
  cases F with
  | false =>
   refine Ev.step (f := fun k => laws_grouped.l1 k l out (i : Int) false l (l.length : Int) (i : Int) ys (ys.length : Int) ((j + 1 : Nat) : Int) o.f0 o.f1 o.f2) (fun k => ?_) (grp1 i hi o out ys hy r hl d (j + 1) false (by omega) (by simpa using h))
   simp only [laws_grouped.l1]
   rw [if_pos (by omega), if_pos (by omega), if_pos (by omega), if_neg (by simp), wr1 j (by omega)]
  | true =>
   refine Ev.step (f := fun k => laws_grouped.l1 k l out (i : Int) (ys[j].f0.toList != o.f0.toList) l (l.length : Int) (i : Int) ys (ys.length : Int) ((j + 1 : Nat) : Int) o.f0 o.f1 o.f2) (fun k => ?_) (grp1 i hi o out ys hy r hl d (j + 1) (ys[j].f0.toList != o.f0.toList) (by omega) (by rw [List.all_cons, Bool.true_and] at h; exact h))
   simp only [laws_grouped.l1]
   rw [if_pos (by omega), if_pos (by omega), if_pos (by omega), if_pos trivial, rd30_at ys j hjl, wr1 j (by omega)]
theorem grp0 (r : List S30) (hl : l.length ≤ 1000000) : ∀ (d i : Nat), i + d = l.length → r = (groupedL (l.map toO)).map toS →
  Ev (fun k => laws_grouped.l0 k l ((groupedUpto (l.map toO) i).map toS) l (l.length : Int) (i : Int)) r
 | 0, i, hi, hr => by
  refine Ev.step (f := fun _ => some ((groupedUpto (l.map toO) i).map toS)) (fun k => ?_) ?_
  ·simp only [laws_grouped.l0]
   rw [if_neg (by omega)]
  ·have e : groupedUpto (l.map toO) i = groupedL (l.map toO) := by
    rw [← groupedUpto_all, List.length_map]
    congr 1
   rw [e, ← hr]
   exact Ev.now _
 | d + 1, i, hi, hr => by
  have hil : i < l.length := by omega
  have ih := grp0 r hl d (i + 1) (by omega) hr
  have hilo : i < (l.map toO).length := by rw [List.length_map]; exact hil
  have hub : ((groupedUpto (l.map toO) i).map toS).length ≤ 1000000 * 1000000 := by
   rw [List.length_map]
   exact upto_len _ _ (by rw [List.length_map]; exact hl) (by omega)
  have hstep := groupedUpto_step (l.map toO) i hilo
  have e1 : (l.map toO)[i] = toO l[i] := List.getElem_map ..
  rw [e1] at hstep
  have e2 : (groupedUpto (l.map toO) (i + 1)).map toS = (groupedUpto (l.map toO) i).map toS ++ (if (true && (l.take i).all fun x => x.f0.toList != l[i].f0.toList) = true then ((l.drop i).drop 0).filter (fun x => x.f0.toList == l[i].f0.toList) else []) := by
   rw [hstep, List.map_append]
   congr 1
   rw [Bool.true_and, List.drop_zero]
   by_cases hx : ∃ x ∈ (l.map toO).take i, x.s = (toO l[i]).s
   ·have hno : ¬ ((l.take i).all fun x => x.f0.toList != l[i].f0.toList) = true := by
     intro ha
     obtain ⟨x, hm, he⟩ := hx
     rw [← List.map_take] at hm
     obtain ⟨y, hy, rfl⟩ := List.mem_map.1 hm
     have := List.all_eq_true.1 ha y hy
     rw [toList_dl, toList_dl] at this
     simp only [bne_iff_ne] at this
     exact this he
    rw [if_pos hx, if_neg hno]
    rfl
   ·rw [if_neg hx, if_pos]
    ·rw [← List.map_drop, List.filter_map, List.map_map]
     have e3 : (toS ∘ toO) = id := funext fun x => toS_toO x
     rw [e3, List.map_id]
     refine List.filter_congr fun x _ => ?_
     show ((toO x).s == (toO l[i]).s) = _
     rw [toList_dl, toList_dl]
     rfl
    ·refine List.all_eq_true.2 fun y hy => ?_
     rw [toList_dl, toList_dl]
     simp only [bne_iff_ne]
     intro he
     exact hx ⟨toO y, by rw [← List.map_take]; exact List.mem_map.2 ⟨y, hy, rfl⟩, he⟩
  rw [e2] at ih
  refine Ev.step (f := fun k => laws_grouped.l1 k l ((groupedUpto (l.map toO) i).map toS) (i : Int) true l (l.length : Int) (i : Int) (l.take i) ((l.take i).length : Int) ((0 : Nat) : Int) l[i].f0 l[i].f1 l[i].f2) (fun k => ?_) ?_
  ·simp only [laws_grouped.l0]
   rw [if_pos (by omega), if_pos (by omega), if_pos (by omega), if_pos (by omega), rd30_at l i hil]
   rfl
  ·exact grp1 l i hil l[i] _ (l.take i) (by rw [List.length_take]; omega) r hl (l.take i).length 0 true (by omega) (grp2 l _ i hil l[i] (l.drop i) (by rw [List.length_drop]; omega) r hl (l.drop i).length 0 _ (by omega) (by omega) ih)
end
theorem grouped_is (l : List S30) (hl : l.length ≤ 1000000) : Ev (fun k => laws_grouped.f k l) ((groupedL (l.map toO)).map toS) :=
 grp0 l _ hl l.length 0 (by omega) rfl
end Go.Proofs.YtgnfapnnbcafbaaDoor.GUL
end
section
/- Plain facts: what is written of plain options is of ASCII bytes and short; it is read as these options, grouped; reads() says yes. Conditions: what plainOptions says. -/
namespace Go.Proofs.YtgnfapnnbcafbaaDoor.GUL
open Go Go.RowKit Go.Proofs.YtgnfapnnbcafbaaDoorW.PrintWords Go.Proofs.YtgnfapnnbcafbaaDoorW Go.Proofs.YtgnfapnnbcafbaaDoorW.PrintLast Go.Proofs.YtgnfapnnbcafbaaDoor.UN
set_option linter.unusedVariables false
set_option linter.unusedSimpArgs false
theorem reads_yes : laws_reads.f = some true := by decide +kernel
theorem ascii_app (a b : Bs) : ascii (a ++ b) = (ascii a && ascii b) := by simp [ascii]
theorem opt_ascii {o : O} (h : GoodO o) : ascii (optText o) = true := by
 have h1 := seen_ascii h.hn
 have h2 := seen_ascii h.hv
 have e : optText o = o.n ++ ([61] ++ (o.v ++ [10])) := rfl
 rw [e, ascii_app, ascii_app, ascii_app, h1, h2]
 rfl
theorem opts_ascii : ∀ (l : List O), (∀ o ∈ l, GoodO o) → ascii (l.flatMap optText) = true
 | [], _ => rfl
 | o :: l, h => by
  rw [List.flatMap_cons, ascii_app, opt_ascii (h o (by simp)), opts_ascii l (fun x hx => h x (by simp [hx]))]
  rfl
theorem sec_ascii {g : G} (h : GoodG g) : ascii (secText g) = true := by
 have e : secText g = [91] ++ (g.1 ++ ([93, 10] ++ g.2.flatMap optText)) := rfl
 rw [e, ascii_app, ascii_app, ascii_app, seen_ascii h.s.h, opts_ascii g.2 h.o]
 rfl
theorem tail_ascii : ∀ (gs : List G), (∀ g ∈ gs, GoodG g) → ascii (tailText gs) = true
 | [], _ => rfl
 | g :: r, h => by
  have e : tailText (g :: r) = [10] ++ (secText g ++ tailText r) := rfl
  rw [e, ascii_app, ascii_app, sec_ascii (h g (by simp)), tail_ascii r (fun x hx => h x (by simp [hx]))]
  rfl
theorem groups_ascii (gs : List G) (h : ∀ g ∈ gs, GoodG g) : ascii (groupsText gs) = true := by
 cases gs with
 | nil => rfl
 | cons g r =>
  have e : groupsText (g :: r) = secText g ++ tailText r := rfl
  rw [e, ascii_app, sec_ascii (h g (by simp)), tail_ascii r (fun x hx => h x (by simp [hx]))]
  rfl
theorem opts_len : ∀ (l : List O), (∀ o ∈ l, GoodO o) → (l.flatMap optText).length ≤ 802 * l.length
 | [], _ => by simp
 | o :: l, h => by
  have h1 := opts_len l (fun x hx => h x (by simp [hx]))
  have h2 := (h o (by simp)).ln
  have h3 := (h o (by simp)).lv
  have e : (optText o).length = o.n.length + o.v.length + 2 := by simp [optText]; omega
  rw [List.flatMap_cons, List.length_append, List.length_cons, e]
  omega
theorem sec_len {g : G} (h : GoodG g) : (secText g).length ≤ 403 + 802 * g.2.length := by
 have h1 := opts_len g.2 h.o
 have h2 := h.s.l
 have e : (secText g).length = g.1.length + (g.2.flatMap optText).length + 3 := by simp [secText]; omega
 omega
theorem tail_len : ∀ (gs : List G), (∀ g ∈ gs, GoodG g) → (tailText gs).length ≤ 404 * gs.length + 802 * (gs.flatMap (·.2)).length
 | [], _ => by simp [tailText]
 | g :: r, h => by
  have h1 := tail_len r (fun x hx => h x (by simp [hx]))
  have h2 := sec_len (h g (by simp))
  have e : (tailText (g :: r)).length = (secText g).length + (tailText r).length + 1 := by simp [tailText]
  rw [e, List.flatMap_cons, List.length_append, List.length_cons]
  omega
theorem groups_len (gs : List G) (h : ∀ g ∈ gs, GoodG g) : (groupsText gs).length ≤ 404 * gs.length + 802 * (gs.flatMap (·.2)).length := by
 cases gs with
 | nil => simp [groupsText]
 | cons g r =>
  have h1 := tail_len (g :: r) h
  have e : (tailText (g :: r)).length = (groupsText (g :: r)).length + 1 := by simp [tailText, groupsText]
  omega
theorem flat_congr {α β : Type} {f g : α → List β} : ∀ {l : List α}, (∀ a ∈ l, f a = g a) → l.flatMap f = l.flatMap g
 | [], _ => rfl
 | a :: l, h => by rw [List.flatMap_cons, List.flatMap_cons, h a (by simp), flat_congr (fun x hx => h x (by simp [hx]))]
theorem two_len (p : O → Bool) : ∀ l : List O, l.length = (l.filter p).length + (l.filter fun o => !p o).length
 | [] => rfl
 | o :: l => by
  have := two_len p l
  cases h : p o <;> simp [h] <;> omega
theorem filt_len : ∀ (S : List Bs) (l : List O), S.Nodup → (S.flatMap fun a => l.filter fun o => o.s == a).length ≤ l.length
 | [], l, _ => by simp
 | a :: S, l, h => by
  obtain ⟨h1, h2⟩ := List.nodup_cons.1 h
  have ih := filt_len S (l.filter fun o => !(o.s == a)) h2
  have e : (S.flatMap fun b => (l.filter fun o => !(o.s == a)).filter fun o => o.s == b) = S.flatMap fun b => l.filter fun o => o.s == b := by
   refine flat_congr fun b hb => ?_
   rw [List.filter_filter]
   refine List.filter_congr fun o _ => ?_
   by_cases hob : o.s = b
   ·have : ¬ o.s = a := fun e => h1 (by rw [← e, hob]; exact hb)
    simp [hob]
    intro e2
    exact this (hob.trans e2)
   ·simp [hob]
  rw [e] at ih
  rw [List.flatMap_cons, List.length_append]
  have h3 := two_len (fun o => o.s == a) l
  omega
theorem groupedL_len (l : List O) : (groupedL l).length ≤ l.length := by
 have h := filt_len (secs l) l (nodup_secs l)
 unfold groupedL groups
 rw [List.flatMap_map]
 exact h
theorem text_len (l : List O) (hs : ∀ o ∈ l, GoodS o.s) (ho : ∀ o ∈ l, GoodO o) (hl : l.length ≤ 200) : (groupsText (groups l)).length ≤ 241200 := by
 have h1 := groups_len (groups l) (groups_good l hs ho)
 have h2 := groupedL_len l
 have h3 : (groups l).length ≤ l.length := by unfold groups; rw [List.length_map]; exact secs_len l
 have e : ((groups l).flatMap (·.2)).length = (groupedL l).length := rfl
 omega
def Plains (l : List S30) : Prop := l.length ≤ 200 ∧ ∀ x ∈ l, Plain (toO x).s (toO x).n (toO x).v
theorem Plains.s {l : List S30} (h : Plains l) : ∀ o ∈ l.map toO, GoodS o.s := fun o ho => by
 obtain ⟨x, hx, rfl⟩ := List.mem_map.1 ho
 exact (h.2 x hx).s
theorem Plains.o {l : List S30} (h : Plains l) : ∀ o ∈ l.map toO, GoodO o := fun o ho => by
 obtain ⟨x, hx, rfl⟩ := List.mem_map.1 ho
 exact (h.2 x hx).o
theorem Plains.len {l : List S30} (h : Plains l) : (groupsText (groups (l.map toO))).length ≤ 241200 := text_len _ h.s h.o (by rw [List.length_map]; exact h.1)
theorem Plains.ascii {l : List S30} (h : Plains l) : UN.ascii (groupsText (groups (l.map toO))) = true := groups_ascii _ (groups_good _ h.s h.o)
theorem write_is {l : List S30} (h : Plains l) : impl_UnitWrite.f l = some (sB (groupsText (groups (l.map toO)))) := by
 unfold impl_UnitWrite.f
 rw [if_pos]
 refine ⟨by have := h.1; omega, fun o ho => ?_, by have := h.len; omega⟩
 have h1 := (h.s o ho).l
 have h2 := (h.o o ho).ln
 have h3 := (h.o o ho).lv
 exact ⟨by omega, by omega, by omega⟩
theorem read_is (t : Bs) (d : List LD) (hr : Run .ns t [] (false, d)) (hok : okD false d = true) (hl : t.length ≤ 1000000) (ha : UN.ascii t = true) : impl_UnitRead.f (sB t) = some ((optsOf d).map toS, 0) := by
 have e : (sB t).data.toList = t := rfl
 obtain ⟨k, hk⟩ := hr
 have h9 := run_mu (mu .ns t + 1) (by omega) hk
 unfold impl_UnitRead.f
 rw [if_pos ⟨by rw [sB_size]; exact hl, by rw [e]; exact ha⟩, e, h9]
 simp [listOf, codeOf, hok]
theorem back_is {l : List S30} (h : Plains l) : impl_UnitRead.f (sB (groupsText (groups (l.map toO)))) = some ((groupedL (l.map toO)).map toS, 0) := by
 obtain ⟨d, h1, h2, h3⟩ := run_written (l.map toO) h.s h.o
 rw [read_is _ d h1 h2 (by have := h.len; omega) h.ascii, h3]
end Go.Proofs.YtgnfapnnbcafbaaDoor.GUL
end
section
/- FnUnitAgain's walk: what is read from the text is any list of which Good holds. Conditions: as its theorem says. -/
namespace Go.Proofs.YtgnfapnnbcafbaaDoor.GUL
open Go.RowKit Go.Proofs.YtgnfapnnbcafbaaDoorW.PrintWords Go.Proofs.YtgnfapnnbcafbaaDoorW.PrintLast Go.Proofs.YtgnfapnnbcafbaaDoorW.PrintMore
attribute [local go_sem] max2_int min2_int max_two min_two max_three min_three max_four min_four   -- for this text's walks alone
set_option linter.unusedVariables false
set_option linter.unusedSimpArgs false
def laws_FnUnitAgain.j0 : Nat → List (S30) → Bool → Option (Bool)
 | 0, _, _ => none
 | k + 1, x3, x24 => if x24 = true then ((laws_reads.f).bind fun t142 => (some t142)) else ((impl_UnitWrite.f x3).bind fun t143 => ((impl_UnitRead.f t143).bind fun bt144 => (if bt144.2 = 0 then ((laws_grouped.f k x3).bind fun t148 => ((laws_sameOptions.f k bt144.1 t148).bind fun t151 => (if t151 = true then ((laws_reads.f).bind fun t152 => (some t152)) else (some false)))) else (some false))))
theorem laws_FnUnitAgain.mono_l : ∀ k, (∀ y0 y1, LeO (laws_FnUnitAgain.j0 k y0 y1) (laws_FnUnitAgain.j0 (k + 1) y0 y1))
 | 0 => fun _ _ r h => by simp [laws_FnUnitAgain.j0] at h
 | k + 1 => by
  have ih0 := laws_FnUnitAgain.mono_l k
  ·intro y0 y1
   unfold laws_FnUnitAgain.j0
   repeat' first
   | (with_reducible exact ih0 _ _)
   | (with_reducible exact laws_grouped.mono _ _)
   | (with_reducible exact laws_plainOptions.mono _ _)
   | (with_reducible exact laws_sameOptions.mono _ _ _)
   | (with_reducible exact LeO.refl _)
   | (with_reducible exact LeO.none _)
   | (with_reducible refine LeO.ite ?_ ?_)
   | (with_reducible refine LeO.bind ?_ (fun _ => ?_))
   | exact ih0 _ _
   | exact laws_grouped.mono _ _
   | exact laws_plainOptions.mono _ _
   | exact laws_sameOptions.mono _ _ _
   | exact LeO.none _
   | refine LeO.ite ?_ ?_
   | refine LeO.bind ?_ (fun _ => ?_)
set_option maxHeartbeats 8000000 in
set_option maxRecDepth 100000 in
theorem again_calls (a0 : ByteArray) (Good : List S30 → Int → Prop)
  (hRead : (a0.size : Int) ≤ 20000 → ∀ W, TabW W → Calls Tryd.prog 21 #[.string a0] W fun e w' => ∃ t137 t138, Good t137 t138 ∧ ∃ v139, e = .returned (.tuple #[v139, .int .i64 t138]) ∧ Kd.R k30 30 w' W.heap.size (fun _ => True) v139 t137 ∧ Below W.heap.size W w')
  (hPure : ∀ t137 t138, Good t137 t138 → ∃ k, (if t138 = 0 then ((laws_plainOptions.f k t137).bind fun t141 => (laws_FnUnitAgain.j0 k t137 (!t141))) else (laws_FnUnitAgain.j0 k t137 true)) = some true)
  (r : Bool) (hr : some true = some r) (w : World) (hT_ : TabW w) :
  Calls Tryd.prog 6 #[.string a0] w fun e w' => e = .returned (.bool r) ∧ Below w.heap.size w w' := by
 have HTAB := Aside0.mk hT_
 have HB := Aside0.mk (Below.refl w.heap.size w)
 have HRR := Aside0.mk hr
 have HRD := Aside0.mk hRead
 have HPU := Aside0.mk hPure
 clear hT_ hr hRead hPure
 by_cases c2 : (a0.size : Int) > 2147483647
 ·have H := HRR.out
  have c2b0 : decide (2147483647 < (a0.size : Int)) = true := decide_eq_true c2
  have c2b1 : decide (2147483647 < a0.size) = true := decide_eq_true (by omega)
  clear c2
  obtain rfl := Option.some.inj H
  go_enter Tryd.func6, Tryd.ntmps6
  go_wp2
  go_ret
  exact ⟨by first | rfl | (simp [errW_none, errW_some] <;> rfl) | (simp [*, errW_none, errW_some] <;> rfl), by repeat (first | (with_reducible first | exact HB.out | apply below_alloc | apply pw_below_drewN | apply below_drew1) | exact HB.out)⟩
 ·skip
  have c2b0 : decide (2147483647 < (a0.size : Int)) = false := decide_eq_false c2
  have c2b1 : decide (2147483647 < a0.size) = false := decide_eq_false (by omega)
  clear c2
  by_cases c3 : (a0.size : Int) > 20000
  ·have H := HRR.out
   have c3b0 : decide (20000 < (a0.size : Int)) = true := decide_eq_true c3
   have c3b1 : decide (20000 < a0.size) = true := decide_eq_true (by omega)
   clear c3
   obtain rfl := Option.some.inj H
   go_enter Tryd.func6, Tryd.ntmps6
   go_wp2
   go_ret
   exact ⟨by first | rfl | (simp [errW_none, errW_some] <;> rfl) | (simp [*, errW_none, errW_some] <;> rfl), by repeat (first | (with_reducible first | exact HB.out | apply below_alloc | apply pw_below_drewN | apply below_drew1) | exact HB.out)⟩
  ·have HRD2 := Aside0.mk (HRD.out (by omega))
   clear HRD
   have c3b0 : decide (20000 < (a0.size : Int)) = false := decide_eq_false c3
   have c3b1 : decide (20000 < a0.size) = false := decide_eq_false (by omega)
   clear c3
   go_enter Tryd.func6, Tryd.ntmps6
   go_upto_region 6 with (first | ((with_reducible refine gate_callee (f := 21) rfl ?_); refine goesL_ (some 15) rfl rfl Tryd.func21 (by kernel_rfl) rfl #[.string a0] rfl (by (try simp only [List.map_toArray, List.map_cons, List.map_nil]); first | done | rfl | (simp only [List.length_drop, List.length_take]; rfl)) ?_; (with_reducible refine (HRD2.out _ ?side1).mono ?_); (case side1 => exact tabW_below HTAB.out (by repeat (first | (with_reducible first | exact HB.out | apply below_alloc | apply pw_below_drewN | apply below_drew1) | exact HB.out))); rintro e w6 ⟨t137, t138, hgood, v139, rfl, ho0, hb⟩; obtain ⟨k, hk5⟩ := HPU.out t137 t138 hgood; have HC5 := Aside0.mk (hk5.trans HRR.out); clear hk5 hgood; refine ⟨_, rfl, ?_⟩; have n0_ := Aside0.mk (Kd.R_lower ho0 (below_size (by repeat (first | (with_reducible first | exact HB.out | apply below_alloc | apply pw_below_drewN | apply below_drew1) | exact HB.out)))); have n1_ := Aside0.mk (below_step (by repeat (first | (with_reducible first | exact HB.out | apply below_alloc | apply pw_below_drewN | apply below_drew1) | exact HB.out)) hb); clear HB; have HO140 := n0_; have HB := n1_; clear n0_ n1_; (try clear hb); (try clear hb2); (try clear hk); (try clear hi); (try clear ho0)))
   (try simp only [Act.put, List.setIfInBounds_toArray, List.set_cons_zero, List.set_cons_succ])
   go_cut [24] (fun v24 wc => ∃ (kq : Nat) (x24_4 : Bool), v24 = .bool x24_4 ∧ Aside0 (laws_FnUnitAgain.j0 kq t137 x24_4 = some r) ∧ Aside0 (kq ≤ k) ∧ Aside0 (Kd.R k30 30 wc w.heap.size (fun _ => True) v139 t137) ∧ Aside0 (Below w.heap.size w wc))
   case first =>
    have H := HC5.out
    clear HC5
    by_cases c7 : t138 = 0
    ·rw [if_pos c7] at H
     have c7b0 : (t138 == 0) = true := beq_iff_eq.mpr c7
     have c7b1 : (t138 != 0) = false := bne_eq_false_iff_eq.mpr c7
     clear c7
     (first | rw [c7b0] | (simp only [i64_w, i32_w]; rw [c7b0]) | skip)
     replace H := Option.bind_eq_some_iff.mp H
     obtain ⟨t141, A80, H⟩ := H
     replace H : (laws_FnUnitAgain.j0 k t137 (!t141)) = some r := H
     have A8 := Aside0.mk A80
     clear A80
     have H' := Aside0.mk H
     clear H
     obtain ⟨Ao9, co9, eo9⟩ := Kd.R_slice HO140.out
     subst eo9
     go_wp2_with (first | (go_at_call 22; (with_reducible refine (laws_plainOptions.calls k _ _ t137 t141 _ ?side1 ?side2 A8.out).mono ?_); (case side1 => repeat (first | exact (Kd.R_reads' HO140.out).2.2 | (with_reducible refine Kd.C_alloc ?_ _) | (with_reducible refine Kd.C_drewN ?_ _) | (with_reducible refine Kd.C_drew ?_))); (case side2 => exact (Kd.R_reads' HO140.out).2.1); rintro e w10 ⟨rfl, hb⟩; have n0_ := Aside0.mk (Kd.R_below (by (with_reducible repeat (first | apply Kd.R_alloc | apply Kd.R_drewN | apply Kd.R_drew)); exact HO140.out) hb); have n1_ := Aside0.mk (below_step (by repeat (first | (with_reducible first | exact HB.out | apply below_alloc | apply pw_below_drewN | apply below_drew1) | exact HB.out)) hb); clear HO140; clear HB; have HO140 := n0_; have HB := n1_; clear n0_ n1_; (try clear hb); (try clear hb2); (try clear hk); (try clear hi)))
     go_meet
     case rel => exact ⟨_, (!t141), (by first | rfl | (simp; done) | (simp [*]; done)), H', ⟨by first | omega | exact Nat.le_refl _⟩, ⟨by (with_reducible repeat (first | apply Kd.R_alloc | apply Kd.R_drewN | apply Kd.R_drew)); exact HO140.out⟩, ⟨by repeat (first | (with_reducible first | exact HB.out | apply below_alloc | apply pw_below_drewN | apply below_drew1) | exact HB.out)⟩⟩
    ·rw [if_neg c7] at H
     have c7b0 : (t138 == 0) = false := beq_eq_false_iff_ne.mpr c7
     have c7b1 : (t138 != 0) = true := bne_iff_ne.mpr c7
     (first | rw [c7b0] | (simp only [i64_w, i32_w]; rw [c7b0]) | skip)
     have H' := Aside0.mk H
     clear H
     go_wp2
     go_meet
     case rel => exact ⟨_, (true), (by first | rfl | (simp; done) | (simp [*]; done)), H', ⟨by first | omega | exact Nat.le_refl _⟩, ⟨by (with_reducible repeat (first | apply Kd.R_alloc | apply Kd.R_drewN | apply Kd.R_drew)); exact HO140.out⟩, ⟨by repeat (first | (with_reducible first | exact HB.out | apply below_alloc | apply pw_below_drewN | apply below_drew1) | exact HB.out)⟩⟩
   case rest =>
    clear HC5
    try clear c2
    try clear c2b0
    try clear c2b1
    try clear p2
    try clear c3
    try clear c3b0
    try clear c3b1
    try clear c6
    try clear c7
    try clear c7b0
    try clear c7b1
    obtain ⟨kq, x24_4, rfl, HA, HJ4, HO_3, HB⟩ := hcut
    cases kq with
    | zero => exact absurd HA.out (by simp [laws_FnUnitAgain.j0])
    | succ kj4 =>
     have H := HA.out
     clear HA
     simp only [laws_FnUnitAgain.j0] at H
     by_cases c11 : x24_4 = true
     ·subst c11
      have H1 : ((laws_reads.f).bind fun t142 => (some t142)) = some r := by rw [if_pos rfl] at H; exact H
      clear H
      have H := H1
      clear H1
      replace H := Option.bind_eq_some_iff.mp H
      obtain ⟨t142, A120, H⟩ := H
      replace H : (some t142) = some r := H
      have A12 := Aside0.mk A120
      clear A120
      obtain rfl := Option.some.inj H
      go_wp2_with (first | ((with_reducible refine gate_callee (f := 19) rfl ?_); refine goesL_ (some 25) rfl rfl Tryd.func19 (by kernel_rfl) rfl #[] rfl (by (try simp only [List.map_toArray, List.map_cons, List.map_nil]); first | done | rfl | (simp only [List.length_drop, List.length_take]; rfl)) ?_; (with_reducible refine (laws_reads.calls  t142 _ ?side1 A12.out).mono ?_); (case side1 => exact tabW_below HTAB.out (by repeat (first | (with_reducible first | exact HB.out | apply below_alloc | apply pw_below_drewN | apply below_drew1) | exact HB.out))); rintro e w13 ⟨rfl, hb⟩; refine ⟨_, rfl, ?_⟩; have n0_ := Aside0.mk (Kd.R_below (by (with_reducible repeat (first | apply Kd.R_alloc | apply Kd.R_drewN | apply Kd.R_drew)); exact HO_3.out) hb); have n1_ := Aside0.mk (below_step (by repeat (first | (with_reducible first | exact HB.out | apply below_alloc | apply pw_below_drewN | apply below_drew1) | exact HB.out)) hb); clear HO_3; clear HB; have HO_3 := n0_; have HB := n1_; clear n0_ n1_; (try clear hb); (try clear hb2); (try clear hk); (try clear hi)))
      go_ret
      exact ⟨by first | rfl | (simp [errW_none, errW_some] <;> rfl) | (simp [*, errW_none, errW_some] <;> rfl), by repeat (first | (with_reducible first | exact HB.out | apply below_alloc | apply pw_below_drewN | apply below_drew1) | exact HB.out)⟩
     ·replace c11 := Bool.eq_false_iff.mpr c11
      subst c11
      have H1 : ((impl_UnitWrite.f t137).bind fun t143 => ((impl_UnitRead.f t143).bind fun bt144 => (if bt144.2 = 0 then ((laws_grouped.f kj4 t137).bind fun t148 => ((laws_sameOptions.f kj4 bt144.1 t148).bind fun t151 => (if t151 = true then ((laws_reads.f).bind fun t152 => (some t152)) else (some false)))) else (some false)))) = some r := by rw [if_neg (show ¬ (false = true) by decide)] at H; exact H
      clear H
      have H := H1
      clear H1
      replace H := Option.bind_eq_some_iff.mp H
      obtain ⟨t143, A140, H⟩ := H
      replace H : ((impl_UnitRead.f t143).bind fun bt144 => (if bt144.2 = 0 then ((laws_grouped.f kj4 t137).bind fun t148 => ((laws_sameOptions.f kj4 bt144.1 t148).bind fun t151 => (if t151 = true then ((laws_reads.f).bind fun t152 => (some t152)) else (some false)))) else (some false))) = some r := H
      have A14 := Aside0.mk A140
      clear A140
      replace H := Option.bind_eq_some_iff.mp H
      obtain ⟨⟨t144, t145⟩, A150, H⟩ := H
      replace H : (if t145 = 0 then ((laws_grouped.f kj4 t137).bind fun t148 => ((laws_sameOptions.f kj4 t144 t148).bind fun t151 => (if t151 = true then ((laws_reads.f).bind fun t152 => (some t152)) else (some false)))) else (some false)) = some r := H
      have A15 := Aside0.mk A150
      clear A150
      by_cases c16 : t145 = 0
      ·rw [if_pos c16] at H
       have c16b0 : (t145 == 0) = true := beq_iff_eq.mpr c16
       have c16b1 : (t145 != 0) = false := bne_eq_false_iff_eq.mpr c16
       clear c16
       replace H := Option.bind_eq_some_iff.mp H
       obtain ⟨t148, A170, H⟩ := H
       replace H : ((laws_sameOptions.f kj4 t144 t148).bind fun t151 => (if t151 = true then ((laws_reads.f).bind fun t152 => (some t152)) else (some false))) = some r := H
       have A17 := Aside0.mk A170
       clear A170
       replace H := Option.bind_eq_some_iff.mp H
       obtain ⟨t151, A180, H⟩ := H
       replace H : (if t151 = true then ((laws_reads.f).bind fun t152 => (some t152)) else (some false)) = some r := H
       have A18 := Aside0.mk A180
       clear A180
       by_cases c19 : t151 = true
       ·subst c19
        have H1 : ((laws_reads.f).bind fun t152 => (some t152)) = some r := by rw [if_pos rfl] at H; exact H
        clear H
        have H := H1
        clear H1
        replace H := Option.bind_eq_some_iff.mp H
        obtain ⟨t152, A200, H⟩ := H
        replace H : (some t152) = some r := H
        have A20 := Aside0.mk A200
        clear A200
        obtain rfl := Option.some.inj H
        obtain ⟨Ao21, co21, eo21⟩ := Kd.R_slice HO_3.out
        subst eo21
        go_wp2_with (first | ((with_reducible refine gate_callee (f := 23) rfl ?_); refine goesL_ (some 28) rfl rfl Tryd.func23 (by kernel_rfl) rfl #[.slice Ao21 t137.length co21] rfl (by (try simp only [List.map_toArray, List.map_cons, List.map_nil]); first | done | rfl | (simp only [List.length_drop, List.length_take]; rfl)) ?_; (with_reducible refine (impl_UnitWrite.calls _ _ t137 t143 _ ?side1 ?side2 A14.out).mono ?_); (case side1 => repeat (first | exact (Kd.R_reads' HO_3.out).2.2 | (with_reducible refine Kd.C_alloc ?_ _) | (with_reducible refine Kd.C_drewN ?_ _) | (with_reducible refine Kd.C_drew ?_))); (case side2 => exact (Kd.R_reads' HO_3.out).2.1); rintro e w22 ⟨rfl, hb⟩; refine ⟨_, rfl, ?_⟩; have n0_ := Aside0.mk (Kd.R_below (by (with_reducible repeat (first | apply Kd.R_alloc | apply Kd.R_drewN | apply Kd.R_drew)); exact HO_3.out) hb); have n1_ := Aside0.mk (below_step (by repeat (first | (with_reducible first | exact HB.out | apply below_alloc | apply pw_below_drewN | apply below_drew1) | exact HB.out)) hb); clear HO_3; clear HB; have HO_3 := n0_; have HB := n1_; clear n0_ n1_; (try clear hb); (try clear hb2); (try clear hk); (try clear hi)) | ((with_reducible refine gate_callee (f := 21) rfl ?_); refine goesL_ (some 29) rfl rfl Tryd.func21 (by kernel_rfl) rfl #[.string t143] rfl (by (try simp only [List.map_toArray, List.map_cons, List.map_nil]); first | done | rfl | (simp only [List.length_drop, List.length_take]; rfl)) ?_; (with_reducible refine (impl_UnitRead.calls t143 t144 t145 _ ?side1 A15.out).mono ?_); (case side1 => exact tabW_below HTAB.out (by repeat (first | (with_reducible first | exact HB.out | apply below_alloc | apply pw_below_drewN | apply below_drew1) | exact HB.out))); rintro e w23 ⟨v146, rfl, ho0, hb⟩; refine ⟨_, rfl, ?_⟩; have n0_ := Aside0.mk (Kd.R_elder' (by (with_reducible repeat (first | apply Kd.R_alloc | apply Kd.R_drewN | apply Kd.R_drew)); exact HO_3.out) (Kd.R_base ho0) hb); have n1_ := Aside0.mk (Kd.R_lower (Kd.R_new' ho0 (Kd.R_lt (by (with_reducible repeat (first | apply Kd.R_alloc | apply Kd.R_drewN | apply Kd.R_drew)); exact HO_3.out))) (below_size (by repeat (first | (with_reducible first | exact HB.out | apply below_alloc | apply pw_below_drewN | apply below_drew1) | exact HB.out)))); have n2_ := Aside0.mk (below_step (by repeat (first | (with_reducible first | exact HB.out | apply below_alloc | apply pw_below_drewN | apply below_drew1) | exact HB.out)) hb); clear HO_3; clear HB; have HO_3 := n0_; have HO147 := n1_; have HB := n2_; clear n0_ n1_ n2_; (try clear hb); (try clear hb2); (try clear hk); (try clear hi); (try clear ho0)) | (go_at_call 24; (with_reducible refine (laws_grouped.calls kj4 _ _ t137 t148 _ ?side1 ?side2 A17.out).mono ?_); (case side1 => repeat (first | exact (Kd.R_reads' HO_3.out).2.2 | (with_reducible refine Kd.C_alloc ?_ _) | (with_reducible refine Kd.C_drewN ?_ _) | (with_reducible refine Kd.C_drew ?_))); (case side2 => exact (Kd.R_reads' HO_3.out).2.1); rintro e w24 ⟨v149, rfl, ho0, hb⟩; have n0_ := Aside0.mk (Kd.R_elder' (by (with_reducible repeat (first | apply Kd.R_alloc | apply Kd.R_drewN | apply Kd.R_drew)); exact HO_3.out) (Kd.R_base ho0) hb); have n1_ := Aside0.mk (Kd.R_elder' (by (with_reducible repeat (first | apply Kd.R_alloc | apply Kd.R_drewN | apply Kd.R_drew)); exact HO147.out) (Kd.R_base ho0) hb); have n2_ := Aside0.mk (Kd.R_lower (Kd.R_new' (Kd.R_new' ho0 (Kd.R_lt (by (with_reducible repeat (first | apply Kd.R_alloc | apply Kd.R_drewN | apply Kd.R_drew)); exact HO_3.out))) (Kd.R_lt (by (with_reducible repeat (first | apply Kd.R_alloc | apply Kd.R_drewN | apply Kd.R_drew)); exact HO147.out))) (below_size (by repeat (first | (with_reducible first | exact HB.out | apply below_alloc | apply pw_below_drewN | apply below_drew1) | exact HB.out)))); have n3_ := Aside0.mk (below_step (by repeat (first | (with_reducible first | exact HB.out | apply below_alloc | apply pw_below_drewN | apply below_drew1) | exact HB.out)) hb); clear HO_3; clear HO147; clear HB; have HO_3 := n0_; have HO147 := n1_; have HO150 := n2_; have HB := n3_; clear n0_ n1_ n2_ n3_; (try clear hb); (try clear hb2); (try clear hk); (try clear hi); (try clear ho0); obtain ⟨Ao25, co25, eo25⟩ := Kd.R_slice HO147.out; subst eo25; obtain ⟨Ao26, co26, eo26⟩ := Kd.R_slice HO150.out; subst eo26) | (go_at_call 20; (with_reducible refine (laws_sameOptions.calls kj4 _ _ t144 _ _ t148 true _ ?side1 ?side2 ?side3 ?side4 A18.out).mono ?_); (case side1 => repeat (first | exact (Kd.R_reads' HO147.out).2.2 | (with_reducible refine Kd.C_alloc ?_ _) | (with_reducible refine Kd.C_drewN ?_ _) | (with_reducible refine Kd.C_drew ?_))); (case side2 => exact (Kd.R_reads' HO147.out).2.1); (case side3 => repeat (first | exact (Kd.R_reads' HO150.out).2.2 | (with_reducible refine Kd.C_alloc ?_ _) | (with_reducible refine Kd.C_drewN ?_ _) | (with_reducible refine Kd.C_drew ?_))); (case side4 => exact (Kd.R_reads' HO150.out).2.1); rintro e w' ⟨rfl, ⟨nd, rfl⟩⟩) | (go_at_call 19; (with_reducible refine (laws_reads.calls  t152 _ ?side1 A20.out).mono ?_); (case side1 => exact tabW_below HTAB.out (by repeat (first | (with_reducible first | exact HB.out | apply below_alloc | apply pw_below_drewN | apply below_drew1) | exact HB.out))); rintro e w27 ⟨rfl, hb⟩; have n0_ := Aside0.mk (Kd.R_below (by (with_reducible repeat (first | apply Kd.R_alloc | apply Kd.R_drewN | apply Kd.R_drew)); exact HO_3.out) hb); have n1_ := Aside0.mk (Kd.R_below (by (with_reducible repeat (first | apply Kd.R_alloc | apply Kd.R_drewN | apply Kd.R_drew)); exact HO147.out) hb); have n2_ := Aside0.mk (Kd.R_below (by (with_reducible repeat (first | apply Kd.R_alloc | apply Kd.R_drewN | apply Kd.R_drew)); exact HO150.out) hb); have n3_ := Aside0.mk (below_step (by repeat (first | (with_reducible first | exact HB.out | apply below_alloc | apply pw_below_drewN | apply below_drew1) | exact HB.out)) hb); clear HO_3; clear HO147; clear HO150; clear HB; have HO_3 := n0_; have HO147 := n1_; have HO150 := n2_; have HB := n3_; clear n0_ n1_ n2_ n3_; (try clear hb); (try clear hb2); (try clear hk); (try clear hi)))
        go_ret
        exact ⟨by first | rfl | (simp [errW_none, errW_some] <;> rfl) | (simp [*, errW_none, errW_some] <;> rfl), by repeat (first | (with_reducible first | exact HB.out | apply below_alloc | apply pw_below_drewN | apply below_drew1) | exact HB.out)⟩
       ·replace c19 := Bool.eq_false_iff.mpr c19
        subst c19
        have H1 : (some false) = some r := by rw [if_neg (show ¬ (false = true) by decide)] at H; exact H
        clear H
        have H := H1
        clear H1
        obtain rfl := Option.some.inj H
        obtain ⟨Ao28, co28, eo28⟩ := Kd.R_slice HO_3.out
        subst eo28
        go_wp2_with (first | ((with_reducible refine gate_callee (f := 23) rfl ?_); refine goesL_ (some 28) rfl rfl Tryd.func23 (by kernel_rfl) rfl #[.slice Ao28 t137.length co28] rfl (by (try simp only [List.map_toArray, List.map_cons, List.map_nil]); first | done | rfl | (simp only [List.length_drop, List.length_take]; rfl)) ?_; (with_reducible refine (impl_UnitWrite.calls _ _ t137 t143 _ ?side1 ?side2 A14.out).mono ?_); (case side1 => repeat (first | exact (Kd.R_reads' HO_3.out).2.2 | (with_reducible refine Kd.C_alloc ?_ _) | (with_reducible refine Kd.C_drewN ?_ _) | (with_reducible refine Kd.C_drew ?_))); (case side2 => exact (Kd.R_reads' HO_3.out).2.1); rintro e w29 ⟨rfl, hb⟩; refine ⟨_, rfl, ?_⟩; have n0_ := Aside0.mk (Kd.R_below (by (with_reducible repeat (first | apply Kd.R_alloc | apply Kd.R_drewN | apply Kd.R_drew)); exact HO_3.out) hb); have n1_ := Aside0.mk (below_step (by repeat (first | (with_reducible first | exact HB.out | apply below_alloc | apply pw_below_drewN | apply below_drew1) | exact HB.out)) hb); clear HO_3; clear HB; have HO_3 := n0_; have HB := n1_; clear n0_ n1_; (try clear hb); (try clear hb2); (try clear hk); (try clear hi)) | ((with_reducible refine gate_callee (f := 21) rfl ?_); refine goesL_ (some 29) rfl rfl Tryd.func21 (by kernel_rfl) rfl #[.string t143] rfl (by (try simp only [List.map_toArray, List.map_cons, List.map_nil]); first | done | rfl | (simp only [List.length_drop, List.length_take]; rfl)) ?_; (with_reducible refine (impl_UnitRead.calls t143 t144 t145 _ ?side1 A15.out).mono ?_); (case side1 => exact tabW_below HTAB.out (by repeat (first | (with_reducible first | exact HB.out | apply below_alloc | apply pw_below_drewN | apply below_drew1) | exact HB.out))); rintro e w30 ⟨v146, rfl, ho0, hb⟩; refine ⟨_, rfl, ?_⟩; have n0_ := Aside0.mk (Kd.R_elder' (by (with_reducible repeat (first | apply Kd.R_alloc | apply Kd.R_drewN | apply Kd.R_drew)); exact HO_3.out) (Kd.R_base ho0) hb); have n1_ := Aside0.mk (Kd.R_lower (Kd.R_new' ho0 (Kd.R_lt (by (with_reducible repeat (first | apply Kd.R_alloc | apply Kd.R_drewN | apply Kd.R_drew)); exact HO_3.out))) (below_size (by repeat (first | (with_reducible first | exact HB.out | apply below_alloc | apply pw_below_drewN | apply below_drew1) | exact HB.out)))); have n2_ := Aside0.mk (below_step (by repeat (first | (with_reducible first | exact HB.out | apply below_alloc | apply pw_below_drewN | apply below_drew1) | exact HB.out)) hb); clear HO_3; clear HB; have HO_3 := n0_; have HO147 := n1_; have HB := n2_; clear n0_ n1_ n2_; (try clear hb); (try clear hb2); (try clear hk); (try clear hi); (try clear ho0)) | (go_at_call 24; (with_reducible refine (laws_grouped.calls kj4 _ _ t137 t148 _ ?side1 ?side2 A17.out).mono ?_); (case side1 => repeat (first | exact (Kd.R_reads' HO_3.out).2.2 | (with_reducible refine Kd.C_alloc ?_ _) | (with_reducible refine Kd.C_drewN ?_ _) | (with_reducible refine Kd.C_drew ?_))); (case side2 => exact (Kd.R_reads' HO_3.out).2.1); rintro e w31 ⟨v149, rfl, ho0, hb⟩; have n0_ := Aside0.mk (Kd.R_elder' (by (with_reducible repeat (first | apply Kd.R_alloc | apply Kd.R_drewN | apply Kd.R_drew)); exact HO_3.out) (Kd.R_base ho0) hb); have n1_ := Aside0.mk (Kd.R_elder' (by (with_reducible repeat (first | apply Kd.R_alloc | apply Kd.R_drewN | apply Kd.R_drew)); exact HO147.out) (Kd.R_base ho0) hb); have n2_ := Aside0.mk (Kd.R_lower (Kd.R_new' (Kd.R_new' ho0 (Kd.R_lt (by (with_reducible repeat (first | apply Kd.R_alloc | apply Kd.R_drewN | apply Kd.R_drew)); exact HO_3.out))) (Kd.R_lt (by (with_reducible repeat (first | apply Kd.R_alloc | apply Kd.R_drewN | apply Kd.R_drew)); exact HO147.out))) (below_size (by repeat (first | (with_reducible first | exact HB.out | apply below_alloc | apply pw_below_drewN | apply below_drew1) | exact HB.out)))); have n3_ := Aside0.mk (below_step (by repeat (first | (with_reducible first | exact HB.out | apply below_alloc | apply pw_below_drewN | apply below_drew1) | exact HB.out)) hb); clear HO_3; clear HO147; clear HB; have HO_3 := n0_; have HO147 := n1_; have HO150 := n2_; have HB := n3_; clear n0_ n1_ n2_ n3_; (try clear hb); (try clear hb2); (try clear hk); (try clear hi); (try clear ho0); obtain ⟨Ao32, co32, eo32⟩ := Kd.R_slice HO147.out; subst eo32; obtain ⟨Ao33, co33, eo33⟩ := Kd.R_slice HO150.out; subst eo33) | (go_at_call 20; (with_reducible refine (laws_sameOptions.calls kj4 _ _ t144 _ _ t148 false _ ?side1 ?side2 ?side3 ?side4 A18.out).mono ?_); (case side1 => repeat (first | exact (Kd.R_reads' HO147.out).2.2 | (with_reducible refine Kd.C_alloc ?_ _) | (with_reducible refine Kd.C_drewN ?_ _) | (with_reducible refine Kd.C_drew ?_))); (case side2 => exact (Kd.R_reads' HO147.out).2.1); (case side3 => repeat (first | exact (Kd.R_reads' HO150.out).2.2 | (with_reducible refine Kd.C_alloc ?_ _) | (with_reducible refine Kd.C_drewN ?_ _) | (with_reducible refine Kd.C_drew ?_))); (case side4 => exact (Kd.R_reads' HO150.out).2.1); rintro e w' ⟨rfl, ⟨nd, rfl⟩⟩))
        go_ret
        exact ⟨by first | rfl | (simp [errW_none, errW_some] <;> rfl) | (simp [*, errW_none, errW_some] <;> rfl), by repeat (first | (with_reducible first | exact HB.out | apply below_alloc | apply pw_below_drewN | apply below_drew1) | exact HB.out)⟩
      ·rw [if_neg c16] at H
       have c16b0 : (t145 == 0) = false := beq_eq_false_iff_ne.mpr c16
       have c16b1 : (t145 != 0) = true := bne_iff_ne.mpr c16
       obtain rfl := Option.some.inj H
       obtain ⟨Ao34, co34, eo34⟩ := Kd.R_slice HO_3.out
       subst eo34
       go_wp2_with (first | ((with_reducible refine gate_callee (f := 23) rfl ?_); refine goesL_ (some 28) rfl rfl Tryd.func23 (by kernel_rfl) rfl #[.slice Ao34 t137.length co34] rfl (by (try simp only [List.map_toArray, List.map_cons, List.map_nil]); first | done | rfl | (simp only [List.length_drop, List.length_take]; rfl)) ?_; (with_reducible refine (impl_UnitWrite.calls _ _ t137 t143 _ ?side1 ?side2 A14.out).mono ?_); (case side1 => repeat (first | exact (Kd.R_reads' HO_3.out).2.2 | (with_reducible refine Kd.C_alloc ?_ _) | (with_reducible refine Kd.C_drewN ?_ _) | (with_reducible refine Kd.C_drew ?_))); (case side2 => exact (Kd.R_reads' HO_3.out).2.1); rintro e w35 ⟨rfl, hb⟩; refine ⟨_, rfl, ?_⟩; have n0_ := Aside0.mk (Kd.R_below (by (with_reducible repeat (first | apply Kd.R_alloc | apply Kd.R_drewN | apply Kd.R_drew)); exact HO_3.out) hb); have n1_ := Aside0.mk (below_step (by repeat (first | (with_reducible first | exact HB.out | apply below_alloc | apply pw_below_drewN | apply below_drew1) | exact HB.out)) hb); clear HO_3; clear HB; have HO_3 := n0_; have HB := n1_; clear n0_ n1_; (try clear hb); (try clear hb2); (try clear hk); (try clear hi)) | ((with_reducible refine gate_callee (f := 21) rfl ?_); refine goesL_ (some 29) rfl rfl Tryd.func21 (by kernel_rfl) rfl #[.string t143] rfl (by (try simp only [List.map_toArray, List.map_cons, List.map_nil]); first | done | rfl | (simp only [List.length_drop, List.length_take]; rfl)) ?_; (with_reducible refine (impl_UnitRead.calls t143 t144 t145 _ ?side1 A15.out).mono ?_); (case side1 => exact tabW_below HTAB.out (by repeat (first | (with_reducible first | exact HB.out | apply below_alloc | apply pw_below_drewN | apply below_drew1) | exact HB.out))); rintro e w36 ⟨v146, rfl, ho0, hb⟩; refine ⟨_, rfl, ?_⟩; have n0_ := Aside0.mk (Kd.R_elder' (by (with_reducible repeat (first | apply Kd.R_alloc | apply Kd.R_drewN | apply Kd.R_drew)); exact HO_3.out) (Kd.R_base ho0) hb); have n1_ := Aside0.mk (Kd.R_lower (Kd.R_new' ho0 (Kd.R_lt (by (with_reducible repeat (first | apply Kd.R_alloc | apply Kd.R_drewN | apply Kd.R_drew)); exact HO_3.out))) (below_size (by repeat (first | (with_reducible first | exact HB.out | apply below_alloc | apply pw_below_drewN | apply below_drew1) | exact HB.out)))); have n2_ := Aside0.mk (below_step (by repeat (first | (with_reducible first | exact HB.out | apply below_alloc | apply pw_below_drewN | apply below_drew1) | exact HB.out)) hb); clear HO_3; clear HB; have HO_3 := n0_; have HO147 := n1_; have HB := n2_; clear n0_ n1_ n2_; (try clear hb); (try clear hb2); (try clear hk); (try clear hi); (try clear ho0)))
       go_ret
       exact ⟨by first | rfl | (simp [errW_none, errW_some] <;> rfl) | (simp [*, errW_none, errW_some] <;> rfl), by repeat (first | (with_reducible first | exact HB.out | apply below_alloc | apply pw_below_drewN | apply below_drew1) | exact HB.out)⟩
end Go.Proofs.YtgnfapnnbcafbaaDoor.GUL
end
section
/- bytes.TrimSpace at every row of bytes. Condition: the library's tables as laid. -/
namespace Go.Proofs
open Go.Shelf
def Tryd.l742_ren : Go.Shelf.Ren := ⟨fun | 32 => 120 | 33 => 130 | 42 => 98 | 43 => 109 | 44 => 108 | 49 => 131 | 50 => 135 | 55 => 121 | 56 => 119 | n => n, fun | 0 => 0 | 3 => 3 | 4 => 4 | 5 => 5 | 21 => 21 | 25 => 52 | 30 => 37 | 33 => 120 | 48 => 112 | 66 => 130 | 68 => 132 | 69 => 133 | n => n, fun | 2 => 3 | 3 => 4 | n => n⟩
theorem Tryd.l742 : Go.Proofs.Lays7.n42 Tryd.prog Tryd.l742_ren := {
 mixed := by kernel_rfl
 f32 := Tryd.func120.trans (congrArg some (by kernel_rfl))
 f33 := Tryd.func130.trans (congrArg some (by kernel_rfl))
 f42 := Tryd.func98.trans (congrArg some (by kernel_rfl))
 f43 := Tryd.func109.trans (congrArg some (by kernel_rfl))
 f44 := Tryd.func108.trans (congrArg some (by kernel_rfl))
 f49 := Tryd.func131.trans (congrArg some (by kernel_rfl))
 f50 := Tryd.func135.trans (congrArg some (by kernel_rfl))
 f55 := Tryd.func121.trans (congrArg some (by kernel_rfl))
 f56 := Tryd.func119.trans (congrArg some (by kernel_rfl))
 t0 := Tryd.underlying0
 a0 := Tryd.isAgg0
 z0 := Tryd.sizeOf0
 v0 := Tryd.zeroValue0
 i0 := by kernel_rfl
 t3 := Tryd.underlying3
 a3 := Tryd.isAgg3
 z3 := Tryd.sizeOf3
 v3 := Tryd.zeroValue3
 i3 := by kernel_rfl
 t4 := Tryd.underlying4
 a4 := Tryd.isAgg4
 z4 := Tryd.sizeOf4
 v4 := Tryd.zeroValue4
 i4 := by kernel_rfl
 t5 := Tryd.underlying5
 a5 := Tryd.isAgg5
 z5 := Tryd.sizeOf5
 v5 := Tryd.zeroValue5
 i5 := by kernel_rfl
 t21 := Tryd.underlying21
 a21 := Tryd.isAgg21
 z21 := Tryd.sizeOf21
 v21 := Tryd.zeroValue21
 i21 := by kernel_rfl
 t25 := Tryd.underlying52
 a25 := Tryd.isAgg52
 z25 := Tryd.sizeOf52
 v25 := Tryd.zeroValue52
 i25 := by kernel_rfl
 t30 := Tryd.underlying37
 a30 := Tryd.isAgg37
 z30 := Tryd.sizeOf37
 v30 := Tryd.zeroValue37
 i30 := by kernel_rfl
 t33 := Tryd.underlying120
 a33 := Tryd.isAgg120
 z33 := Tryd.sizeOf120
 v33 := Tryd.zeroValue120
 i33 := by kernel_rfl
 t48 := Tryd.underlying112
 a48 := Tryd.isAgg112
 z48 := Tryd.sizeOf112
 v48 := Tryd.zeroValue112
 i48 := by kernel_rfl
 t66 := Tryd.underlying130
 a66 := Tryd.isAgg130
 z66 := Tryd.sizeOf130
 t68 := Tryd.underlying132
 a68 := Tryd.isAgg132
 z68 := Tryd.sizeOf132
 v68 := Tryd.zeroValue132
 i68 := by kernel_rfl
 t69 := Tryd.underlying133
 a69 := Tryd.isAgg133
 z69 := Tryd.sizeOf133
 v69 := Tryd.zeroValue133
 i69 := by kernel_rfl
 g2 := by kernel_rfl
 g3 := by kernel_rfl }
end Go.Proofs
namespace Go.Proofs.YtgnfapnnbcafbaaDoor.UN
open Go Go.RowKit Go.Proofs.YtgnfapnnbcafbaaDoorW.PrintWords
set_option linter.unusedVariables false
set_option linter.unusedSimpArgs false
theorem space_grows (w : World) (hW : Lib.WhiteTab 6 w) : PredGrows Tryd.prog 99 #[] Lib.isSpaceR w := by
 intro W x hx hb
 have cS := Any.unicode_IsSpace_any (P := Tryd.prog) (ρ := Tryd.lays163_ren) { Tryd.lays163 with } (x : Int) W (by omega) (by omega) (WhiteTab_below hW hb)
 rw [Lib.isSpaceZ_nat] at cS
 exact cS
theorem trimfunc_call (b o n c : Nat) (l : Bs) (w : World) (hT : UTab w) (hl : l.length = n) (hn : n ≤ c) (hs : n ≤ 100000000) (h1 : BAt w b o l) :
  Calls Tryd.prog 98 #[.slice (some ⟨b, o, none⟩) n c, .func (.func 99) #[] #[]] w fun e w' => (∃ A m cp, e = .returned (.slice A m cp)) ∧ Below w.heap.size w w' := by
 have hz : (sB l).size = n := by rw [← hl]; rfl
 have := Any7.bytes_TrimFunc Tryd.l742 99 #[] (fun args w => enters_of Tryd.func99 (by kernel_rfl) rfl args w) Lib.isSpaceR (sB l) b o c w (by omega) (by omega) (fun j hj => by
  rw [h1 j (by omega)]
  congr 3
  congr 1
  show l.getD j 0 = l.toArray[j]!
  rw [List.getElem!_toArray, List.getElem!_eq_getElem?_getD, List.getD_eq_getElem?_getD]
  rfl) hT.u (space_grows w hT.w)
 rw [hz] at this
 refine this.mono ?_
 rintro e w' ⟨rfl, hb⟩
 refine ⟨?_, hb⟩
 unfold trimCut rightCut
 split
 ·exact ⟨_, _, _, rfl⟩
 ·exact ⟨_, _, _, rfl⟩
def AnySlice (W : World) (e : Ending) (w' : World) : Prop := (∃ A m cp, e = .returned (.slice A m cp)) ∧ Below W.heap.size W w'
set_option maxHeartbeats 8000000 in
set_option maxRecDepth 100000 in
theorem trim_any (l : Bs) (b o n c : Nat) (w : World) (hT : UTab w) (hl : l.length = n) (hn : n ≤ c) (hs : n ≤ 100000000) (hb : BAt w b o l) :
  Calls Tryd.prog 94 #[.slice (some ⟨b, o, none⟩) n c] w (AnySlice w) := by
 obtain ⟨gt, hgt⟩ : ∃ gt, Tryd.laysbs188_ren.g 2 = gt := ⟨_, rfl⟩
 have hg : Tryd.prog.globalNamed "bytes.asciiSpace" = some gt := by rw [← hgt]; exact Tryd.laysbs188.gNamed
 obtain rfl : 5 = gt := hgt
 have HT := Aside0.mk (show ∀ q : Nat, q < 256 → w.cell? ⟨5, q, none⟩ = some (.int .u8 (if Lib.isSp (UInt8.ofNat q) then 1 else 0)) from fun q hq => by
  rw [hT.b.cell hg q (by rw [Lib.asciiSpaceTab_length]; exact hq), Lib.asciiSpaceTab_at q hq])
 have HC := Aside0.mk (show ∀ i, i < n → w.cell? ⟨b, o + i, none⟩ = some (.int .u8 ((l.getD i 0).toNat : Int)) from fun i hi => hb i (by omega))
 have TF := Aside0.mk (show ∀ (q m c : Nat), q + m ≤ n → m ≤ c → Calls Tryd.prog 98 #[.slice (some ⟨b, o + q, none⟩) m c, .func (.func 99) #[] #[]] w (AnySlice w) from fun q m c h1 h2 =>
  trimfunc_call b (o + q) m c ((l.drop q).take m) w hT (by rw [List.length_take, List.length_drop]; omega) h2 (by omega) (fun i hi => by
   rw [List.length_take, List.length_drop] at hi
   have := hb (q + i) (by omega)
   rw [← Nat.add_assoc] at this
   rw [this, List.getD_eq_getElem?_getD, List.getD_eq_getElem?_getD, List.getElem?_take_of_lt (by omega), List.getElem?_drop]))
 have hbig : n ≤ 9223372036854775807 := by omega
 clear hT hb hg hs
 go_enter Tryd.func94, Tryd.ntmps94
 go_wp2
 go_loop [9, 0] (fun i s0 => s0 = .slice (some ⟨b, o, none⟩) n c ∧ ∃ k : Nat, k ≤ n ∧ i = .int .i64 k) (fun i _ => n - (intOf i).toNat)
 case atStart => exact ⟨rfl, 0, Nat.zero_le _, rfl⟩
 case round =>
  obtain ⟨rfl, k, hk, rfl⟩ := hrel
  by_cases hkn : k < n
  ·obtain ⟨x, hx⟩ : ∃ x, l.getD k 0 = x := ⟨_, rfl⟩
   have hc1 := HC.out k hkn
   rw [hx] at hc1
   have hT0 : (k : Int) < (n : Int) := by omega
   have hck : ¬ c = k := by omega
   have hkn2 : (k : Int) ≤ (n : Int) := by omega
   have hx256 : (x.toNat : Int) < 256 := by have := x.toNat_lt; omega
   by_cases h128 : (128 : Int) ≤ (x.toNat : Int)
   ·have cF := TF.out k (n - k) (c - k) (by omega) (by omega)
    go_wp2_with (go_at_call 98; refine cF.mono ?_; rintro e W' ⟨⟨A', m', c', rfl⟩, hbl⟩)
    go_ret
    exact ⟨⟨_, _, _, rfl⟩, hbl⟩
   ·have hTx := HT.out x.toNat x.toNat_lt
    rw [show UInt8.ofNat x.toNat = x by simp] at hTx
    have HX := Aside0.mk hx
    clear hx
    cases hsx : Lib.isSp x with
    | true =>
     rw [hsx] at hTx
     simp only [if_true] at hTx
     go_wp2
     go_round
     case rel => exact ⟨rfl, k + 1, by omega, by go_num⟩
     case measure => simp [intOf]; omega
    | false =>
     rw [hsx] at hTx
     simp only [Bool.false_eq_true, if_false] at hTx
     go_wp2
     go_loop [5] (fun h => ∃ m : Nat, m < n - k ∧ h = .int .i64 m) (fun h => (intOf h).toNat)
     case atStart => exact ⟨n - k - 1, by omega, by first | go_num | (congr 1; omega)⟩
     case round =>
      obtain ⟨m, hm, rfl⟩ := hrel
      obtain ⟨y, hy⟩ : ∃ y, l.getD (k + m) 0 = y := ⟨_, rfl⟩
      have hc2 : w.cell? ⟨b, o + k + m, none⟩ = some (.int .u8 (y.toNat : Int)) := by rw [← hy, Nat.add_assoc]; exact HC.out (k + m) (by omega)
      have hy256 : (y.toNat : Int) < 256 := by have := y.toNat_lt; omega
      have hmb : (m : Int) < ((n - k : Nat) : Int) := by omega
      have hmc : (m : Int) + 1 ≤ ((c - k : Nat) : Int) := by omega
      by_cases h128y : (128 : Int) ≤ (y.toNat : Int)
      ·have cF := TF.out k (m + 1) (c - k) (by omega) (by omega)
       go_wp2_with (go_at_call 98; refine cF.mono ?_; rintro e W' ⟨⟨A', m', c', rfl⟩, hbl⟩)
       go_ret
       exact ⟨⟨_, _, _, rfl⟩, hbl⟩
      ·have hTy := HT.out y.toNat y.toNat_lt
       rw [show UInt8.ofNat y.toNat = y by simp] at hTy
       have HY := Aside0.mk hy
       clear hy
       cases hsy : Lib.isSp y with
       | true =>
        rw [hsy] at hTy
        simp only [if_true] at hTy
        have hm0 : 0 < m := by
         rcases Nat.eq_zero_or_pos m with e | e
         ·subst e
          have h1 := HY.out
          rw [Nat.add_zero, HX.out] at h1
          rw [← h1, hsx] at hsy
          cases hsy
         ·exact e
        go_wp2
        go_round
        case rel => exact ⟨m - 1, by omega, by first | go_num | (congr 1; omega)⟩
        case measure => simp [intOf]; omega
       | false =>
        rw [hsy] at hTy
        simp only [Bool.false_eq_true, if_false] at hTy
        go_wp2
        go_ret
        exact ⟨⟨_, _, _, rfl⟩, Below.refl _ _⟩
  ·have hke : k = n := by omega
   subst hke
   have hT0 : ¬ ((k : Int) < (k : Int)) := by omega
   go_wp2
   go_ret
   exact ⟨⟨_, _, _, rfl⟩, Below.refl _ _⟩
theorem trimC_any (l : Bs) : TrimC l := by
 by_cases ha : ascii l = true
 ·exact trimC_ascii l ha
 ·intro b n c w hT hl hn hs hb
  refine (trim_any l b 0 n c w hT hl hn hs hb).mono ?_
  rintro e w' ⟨⟨A, m, cp, rfl⟩, hB⟩
  exact ⟨A, m, cp, rfl, hB, fun h => absurd h ha, fun h => absurd (by rw [h]; rfl) ha⟩
end Go.Proofs.YtgnfapnnbcafbaaDoor.UN
end
section
/- utf8.FullRuneInString at every string. Condition: the library's tables as laid. -/
namespace Go.Proofs.YtgnfapnnbcafbaaDoor.UN
open Go Go.RowKit Go.Proofs.YtgnfapnnbcafbaaDoorW.PrintWords Go.Proofs.YtgnfapnnbcafbaaDoorW
set_option linter.unusedVariables false
set_option linter.unusedSimpArgs false
set_option maxHeartbeats 8000000 in
set_option maxRecDepth 100000 in
theorem full_slow20 (f : Nat) (s : ByteArray) (b : UInt8) (lo hi : Int) (W : World) (hf : f = 2) (h0 : ¬ s.size = 0) (hb : s[0]'(by omega) = b) (t1 : W.cell? ⟨3, b.toNat, none⟩ = some (.int .u8 (f : Nat))) (t2 : W.cell? ⟨4, 0, none⟩ = some (.int .u8 lo)) (t3 : W.cell? ⟨4, 1, none⟩ = some (.int .u8 hi)) :
  Calls Tryd.prog 83 #[.string s] W (FullPost (fullL s.size 2 lo hi (bt s 1) (bt s 2)) W) := by
 have d0 : ((s.size : Int) == 0) = false := beq_eq_false_iff_ne.mpr (by omega)
 have d1 : (s.size == 0) = false := beq_eq_false_iff_ne.mpr h0
 have z0 : (0 : Int) < (s.size : Int) := by omega
 have z0' : 0 < s.size := by omega
 have hb256 : (b.toNat : Int) < 256 := by have := b.toNat_lt; omega
 subst hf
 all_goals
  by_cases hm : 2 ≤ s.size
  ·have e1 : decide ((2 : Int) ≤ (s.size : Int)) = true := decide_eq_true (by omega)
   have e1' : decide (2 ≤ s.size) = true := decide_eq_true hm
   clear hm
   go_enter Tryd.func83, Tryd.ntmps83
   go_wp2
   go_ret
   exact ⟨by simp only [fullL, e1', Bool.true_or]; rfl, Below.refl _ _⟩
  ·have e1 : decide ((2 : Int) ≤ (s.size : Int)) = false := decide_eq_false (by omega)
   have e1' : decide (2 ≤ s.size) = false := decide_eq_false hm
   by_cases hn1 : 1 < s.size
   ·obtain ⟨c1, hc1⟩ : ∃ c, s[1]'hn1 = c := ⟨_, rfl⟩
    have B1 := Aside0.mk (show bt s 1 = (c1.toNat : Int) by rw [← hc1]; exact (bt_at s 1 hn1).symm)
    have g1 : decide ((1 : Int) < (s.size : Int)) = true := decide_eq_true (by omega)
    have g1' : decide (1 < s.size) = true := decide_eq_true hn1
    have y1 : (1 : Int) < (s.size : Int) := by omega
    by_cases hn2 : 2 < s.size
    ·obtain ⟨c2, hc2⟩ : ∃ c, s[2]'hn2 = c := ⟨_, rfl⟩
     have B2 := Aside0.mk (show bt s 2 = (c2.toNat : Int) by rw [← hc2]; exact (bt_at s 2 hn2).symm)
     have g2 : decide ((2 : Int) < (s.size : Int)) = true := decide_eq_true (by omega)
     have g2' : decide (2 < s.size) = true := decide_eq_true hn2
     have y2 : (2 : Int) < (s.size : Int) := by omega
     clear hm
     cases hu : decide ((c1.toNat : Int) < lo)
     ·cases hv : decide (hi < (c1.toNat : Int))
      ·cases hx : decide ((c2.toNat : Int) < 128)
       ·cases hy : decide (191 < (c2.toNat : Int))
        all_goals
         go_enter Tryd.func83, Tryd.ntmps83
         go_wp2
         go_quiet (fail)
         go_wp2
         go_ret
         exact ⟨by rw [show fullL s.size 2 lo hi (bt s 1) (bt s 2) = _ from rfl]; simp only [fullL, e1', g1', g2', B1.out, B2.out, hu, hv, hx, hy]; rfl, pw_below_drewN (below_alloc (Below.refl _ _) _) _⟩
       ·go_enter Tryd.func83, Tryd.ntmps83
        go_wp2
        go_quiet (fail)
        go_wp2
        go_ret
        exact ⟨by rw [show fullL s.size 2 lo hi (bt s 1) (bt s 2) = _ from rfl]; simp only [fullL, e1', g1', g2', B1.out, B2.out, hu, hv, hx]; rfl, pw_below_drewN (below_alloc (Below.refl _ _) _) _⟩
      ·go_enter Tryd.func83, Tryd.ntmps83
       go_wp2
       go_quiet (fail)
       go_wp2
       go_ret
       exact ⟨by rw [show fullL s.size 2 lo hi (bt s 1) (bt s 2) = _ from rfl]; simp only [fullL, e1', g1', g2', B1.out, hu, hv]; rfl, pw_below_drewN (below_alloc (Below.refl _ _) _) _⟩
     ·go_enter Tryd.func83, Tryd.ntmps83
      go_wp2
      go_quiet (fail)
      go_wp2
      go_ret
      exact ⟨by rw [show fullL s.size 2 lo hi (bt s 1) (bt s 2) = _ from rfl]; simp only [fullL, e1', g1', g2', B1.out, hu]; rfl, pw_below_drewN (below_alloc (Below.refl _ _) _) _⟩
    ·have g2 : decide ((2 : Int) < (s.size : Int)) = false := decide_eq_false (by omega)
     have g2' : decide (2 < s.size) = false := decide_eq_false hn2
     clear hm hn2
     cases hu : decide ((c1.toNat : Int) < lo)
     ·cases hv : decide (hi < (c1.toNat : Int))
      all_goals
       go_enter Tryd.func83, Tryd.ntmps83
       go_wp2
       go_quiet (fail)
       go_wp2
       go_ret
       exact ⟨by rw [show fullL s.size 2 lo hi (bt s 1) (bt s 2) = _ from rfl]; simp only [fullL, e1', g1', g2', B1.out, hu, hv]; rfl, pw_below_drewN (below_alloc (Below.refl _ _) _) _⟩
     ·go_enter Tryd.func83, Tryd.ntmps83
      go_wp2
      go_quiet (fail)
      go_wp2
      go_ret
      exact ⟨by rw [show fullL s.size 2 lo hi (bt s 1) (bt s 2) = _ from rfl]; simp only [fullL, e1', g1', g2', B1.out, hu]; rfl, pw_below_drewN (below_alloc (Below.refl _ _) _) _⟩
   ·have g1 : decide ((1 : Int) < (s.size : Int)) = false := decide_eq_false (by omega)
    have g1' : decide (1 < s.size) = false := decide_eq_false hn1
    have g2 : decide ((2 : Int) < (s.size : Int)) = false := decide_eq_false (by omega)
    have g2' : decide (2 < s.size) = false := decide_eq_false (by omega)
    clear hm hn1
    go_enter Tryd.func83, Tryd.ntmps83
    go_wp2
    go_quiet (fail)
    go_wp2
    go_ret
    exact ⟨by rw [show fullL s.size 2 lo hi (bt s 1) (bt s 2) = _ from rfl]; simp only [fullL, e1', g1', g2']; rfl, pw_below_drewN (below_alloc (Below.refl _ _) _) _⟩
set_option maxHeartbeats 8000000 in
set_option maxRecDepth 100000 in
theorem full_slow31 (f : Nat) (s : ByteArray) (b : UInt8) (lo hi : Int) (W : World) (hf : f = 19) (h0 : ¬ s.size = 0) (hb : s[0]'(by omega) = b) (t1 : W.cell? ⟨3, b.toNat, none⟩ = some (.int .u8 (f : Nat))) (t2 : W.cell? ⟨4, 2, none⟩ = some (.int .u8 lo)) (t3 : W.cell? ⟨4, 3, none⟩ = some (.int .u8 hi)) :
  Calls Tryd.prog 83 #[.string s] W (FullPost (fullL s.size 3 lo hi (bt s 1) (bt s 2)) W) := by
 have d0 : ((s.size : Int) == 0) = false := beq_eq_false_iff_ne.mpr (by omega)
 have d1 : (s.size == 0) = false := beq_eq_false_iff_ne.mpr h0
 have z0 : (0 : Int) < (s.size : Int) := by omega
 have z0' : 0 < s.size := by omega
 have hb256 : (b.toNat : Int) < 256 := by have := b.toNat_lt; omega
 subst hf
 all_goals
  by_cases hm : 3 ≤ s.size
  ·have e1 : decide ((3 : Int) ≤ (s.size : Int)) = true := decide_eq_true (by omega)
   have e1' : decide (3 ≤ s.size) = true := decide_eq_true hm
   clear hm
   go_enter Tryd.func83, Tryd.ntmps83
   go_wp2
   go_ret
   exact ⟨by simp only [fullL, e1', Bool.true_or]; rfl, Below.refl _ _⟩
  ·have e1 : decide ((3 : Int) ≤ (s.size : Int)) = false := decide_eq_false (by omega)
   have e1' : decide (3 ≤ s.size) = false := decide_eq_false hm
   by_cases hn1 : 1 < s.size
   ·obtain ⟨c1, hc1⟩ : ∃ c, s[1]'hn1 = c := ⟨_, rfl⟩
    have B1 := Aside0.mk (show bt s 1 = (c1.toNat : Int) by rw [← hc1]; exact (bt_at s 1 hn1).symm)
    have g1 : decide ((1 : Int) < (s.size : Int)) = true := decide_eq_true (by omega)
    have g1' : decide (1 < s.size) = true := decide_eq_true hn1
    have y1 : (1 : Int) < (s.size : Int) := by omega
    by_cases hn2 : 2 < s.size
    ·obtain ⟨c2, hc2⟩ : ∃ c, s[2]'hn2 = c := ⟨_, rfl⟩
     have B2 := Aside0.mk (show bt s 2 = (c2.toNat : Int) by rw [← hc2]; exact (bt_at s 2 hn2).symm)
     have g2 : decide ((2 : Int) < (s.size : Int)) = true := decide_eq_true (by omega)
     have g2' : decide (2 < s.size) = true := decide_eq_true hn2
     have y2 : (2 : Int) < (s.size : Int) := by omega
     clear hm
     cases hu : decide ((c1.toNat : Int) < lo)
     ·cases hv : decide (hi < (c1.toNat : Int))
      ·cases hx : decide ((c2.toNat : Int) < 128)
       ·cases hy : decide (191 < (c2.toNat : Int))
        all_goals
         go_enter Tryd.func83, Tryd.ntmps83
         go_wp2
         go_quiet (fail)
         go_wp2
         go_ret
         exact ⟨by rw [show fullL s.size 3 lo hi (bt s 1) (bt s 2) = _ from rfl]; simp only [fullL, e1', g1', g2', B1.out, B2.out, hu, hv, hx, hy]; rfl, pw_below_drewN (below_alloc (Below.refl _ _) _) _⟩
       ·go_enter Tryd.func83, Tryd.ntmps83
        go_wp2
        go_quiet (fail)
        go_wp2
        go_ret
        exact ⟨by rw [show fullL s.size 3 lo hi (bt s 1) (bt s 2) = _ from rfl]; simp only [fullL, e1', g1', g2', B1.out, B2.out, hu, hv, hx]; rfl, pw_below_drewN (below_alloc (Below.refl _ _) _) _⟩
      ·go_enter Tryd.func83, Tryd.ntmps83
       go_wp2
       go_quiet (fail)
       go_wp2
       go_ret
       exact ⟨by rw [show fullL s.size 3 lo hi (bt s 1) (bt s 2) = _ from rfl]; simp only [fullL, e1', g1', g2', B1.out, hu, hv]; rfl, pw_below_drewN (below_alloc (Below.refl _ _) _) _⟩
     ·go_enter Tryd.func83, Tryd.ntmps83
      go_wp2
      go_quiet (fail)
      go_wp2
      go_ret
      exact ⟨by rw [show fullL s.size 3 lo hi (bt s 1) (bt s 2) = _ from rfl]; simp only [fullL, e1', g1', g2', B1.out, hu]; rfl, pw_below_drewN (below_alloc (Below.refl _ _) _) _⟩
    ·have g2 : decide ((2 : Int) < (s.size : Int)) = false := decide_eq_false (by omega)
     have g2' : decide (2 < s.size) = false := decide_eq_false hn2
     clear hm hn2
     cases hu : decide ((c1.toNat : Int) < lo)
     ·cases hv : decide (hi < (c1.toNat : Int))
      all_goals
       go_enter Tryd.func83, Tryd.ntmps83
       go_wp2
       go_quiet (fail)
       go_wp2
       go_ret
       exact ⟨by rw [show fullL s.size 3 lo hi (bt s 1) (bt s 2) = _ from rfl]; simp only [fullL, e1', g1', g2', B1.out, hu, hv]; rfl, pw_below_drewN (below_alloc (Below.refl _ _) _) _⟩
     ·go_enter Tryd.func83, Tryd.ntmps83
      go_wp2
      go_quiet (fail)
      go_wp2
      go_ret
      exact ⟨by rw [show fullL s.size 3 lo hi (bt s 1) (bt s 2) = _ from rfl]; simp only [fullL, e1', g1', g2', B1.out, hu]; rfl, pw_below_drewN (below_alloc (Below.refl _ _) _) _⟩
   ·have g1 : decide ((1 : Int) < (s.size : Int)) = false := decide_eq_false (by omega)
    have g1' : decide (1 < s.size) = false := decide_eq_false hn1
    have g2 : decide ((2 : Int) < (s.size : Int)) = false := decide_eq_false (by omega)
    have g2' : decide (2 < s.size) = false := decide_eq_false (by omega)
    clear hm hn1
    go_enter Tryd.func83, Tryd.ntmps83
    go_wp2
    go_quiet (fail)
    go_wp2
    go_ret
    exact ⟨by rw [show fullL s.size 3 lo hi (bt s 1) (bt s 2) = _ from rfl]; simp only [fullL, e1', g1', g2']; rfl, pw_below_drewN (below_alloc (Below.refl _ _) _) _⟩
set_option maxHeartbeats 8000000 in
set_option maxRecDepth 100000 in
theorem full_slow30 (f : Nat) (s : ByteArray) (b : UInt8) (lo hi : Int) (W : World) (hf : f = 3) (h0 : ¬ s.size = 0) (hb : s[0]'(by omega) = b) (t1 : W.cell? ⟨3, b.toNat, none⟩ = some (.int .u8 (f : Nat))) (t2 : W.cell? ⟨4, 0, none⟩ = some (.int .u8 lo)) (t3 : W.cell? ⟨4, 1, none⟩ = some (.int .u8 hi)) :
  Calls Tryd.prog 83 #[.string s] W (FullPost (fullL s.size 3 lo hi (bt s 1) (bt s 2)) W) := by
 have d0 : ((s.size : Int) == 0) = false := beq_eq_false_iff_ne.mpr (by omega)
 have d1 : (s.size == 0) = false := beq_eq_false_iff_ne.mpr h0
 have z0 : (0 : Int) < (s.size : Int) := by omega
 have z0' : 0 < s.size := by omega
 have hb256 : (b.toNat : Int) < 256 := by have := b.toNat_lt; omega
 subst hf
 all_goals
  by_cases hm : 3 ≤ s.size
  ·have e1 : decide ((3 : Int) ≤ (s.size : Int)) = true := decide_eq_true (by omega)
   have e1' : decide (3 ≤ s.size) = true := decide_eq_true hm
   clear hm
   go_enter Tryd.func83, Tryd.ntmps83
   go_wp2
   go_ret
   exact ⟨by simp only [fullL, e1', Bool.true_or]; rfl, Below.refl _ _⟩
  ·have e1 : decide ((3 : Int) ≤ (s.size : Int)) = false := decide_eq_false (by omega)
   have e1' : decide (3 ≤ s.size) = false := decide_eq_false hm
   by_cases hn1 : 1 < s.size
   ·obtain ⟨c1, hc1⟩ : ∃ c, s[1]'hn1 = c := ⟨_, rfl⟩
    have B1 := Aside0.mk (show bt s 1 = (c1.toNat : Int) by rw [← hc1]; exact (bt_at s 1 hn1).symm)
    have g1 : decide ((1 : Int) < (s.size : Int)) = true := decide_eq_true (by omega)
    have g1' : decide (1 < s.size) = true := decide_eq_true hn1
    have y1 : (1 : Int) < (s.size : Int) := by omega
    by_cases hn2 : 2 < s.size
    ·obtain ⟨c2, hc2⟩ : ∃ c, s[2]'hn2 = c := ⟨_, rfl⟩
     have B2 := Aside0.mk (show bt s 2 = (c2.toNat : Int) by rw [← hc2]; exact (bt_at s 2 hn2).symm)
     have g2 : decide ((2 : Int) < (s.size : Int)) = true := decide_eq_true (by omega)
     have g2' : decide (2 < s.size) = true := decide_eq_true hn2
     have y2 : (2 : Int) < (s.size : Int) := by omega
     clear hm
     cases hu : decide ((c1.toNat : Int) < lo)
     ·cases hv : decide (hi < (c1.toNat : Int))
      ·cases hx : decide ((c2.toNat : Int) < 128)
       ·cases hy : decide (191 < (c2.toNat : Int))
        all_goals
         go_enter Tryd.func83, Tryd.ntmps83
         go_wp2
         go_quiet (fail)
         go_wp2
         go_ret
         exact ⟨by rw [show fullL s.size 3 lo hi (bt s 1) (bt s 2) = _ from rfl]; simp only [fullL, e1', g1', g2', B1.out, B2.out, hu, hv, hx, hy]; rfl, pw_below_drewN (below_alloc (Below.refl _ _) _) _⟩
       ·go_enter Tryd.func83, Tryd.ntmps83
        go_wp2
        go_quiet (fail)
        go_wp2
        go_ret
        exact ⟨by rw [show fullL s.size 3 lo hi (bt s 1) (bt s 2) = _ from rfl]; simp only [fullL, e1', g1', g2', B1.out, B2.out, hu, hv, hx]; rfl, pw_below_drewN (below_alloc (Below.refl _ _) _) _⟩
      ·go_enter Tryd.func83, Tryd.ntmps83
       go_wp2
       go_quiet (fail)
       go_wp2
       go_ret
       exact ⟨by rw [show fullL s.size 3 lo hi (bt s 1) (bt s 2) = _ from rfl]; simp only [fullL, e1', g1', g2', B1.out, hu, hv]; rfl, pw_below_drewN (below_alloc (Below.refl _ _) _) _⟩
     ·go_enter Tryd.func83, Tryd.ntmps83
      go_wp2
      go_quiet (fail)
      go_wp2
      go_ret
      exact ⟨by rw [show fullL s.size 3 lo hi (bt s 1) (bt s 2) = _ from rfl]; simp only [fullL, e1', g1', g2', B1.out, hu]; rfl, pw_below_drewN (below_alloc (Below.refl _ _) _) _⟩
    ·have g2 : decide ((2 : Int) < (s.size : Int)) = false := decide_eq_false (by omega)
     have g2' : decide (2 < s.size) = false := decide_eq_false hn2
     clear hm hn2
     cases hu : decide ((c1.toNat : Int) < lo)
     ·cases hv : decide (hi < (c1.toNat : Int))
      all_goals
       go_enter Tryd.func83, Tryd.ntmps83
       go_wp2
       go_quiet (fail)
       go_wp2
       go_ret
       exact ⟨by rw [show fullL s.size 3 lo hi (bt s 1) (bt s 2) = _ from rfl]; simp only [fullL, e1', g1', g2', B1.out, hu, hv]; rfl, pw_below_drewN (below_alloc (Below.refl _ _) _) _⟩
     ·go_enter Tryd.func83, Tryd.ntmps83
      go_wp2
      go_quiet (fail)
      go_wp2
      go_ret
      exact ⟨by rw [show fullL s.size 3 lo hi (bt s 1) (bt s 2) = _ from rfl]; simp only [fullL, e1', g1', g2', B1.out, hu]; rfl, pw_below_drewN (below_alloc (Below.refl _ _) _) _⟩
   ·have g1 : decide ((1 : Int) < (s.size : Int)) = false := decide_eq_false (by omega)
    have g1' : decide (1 < s.size) = false := decide_eq_false hn1
    have g2 : decide ((2 : Int) < (s.size : Int)) = false := decide_eq_false (by omega)
    have g2' : decide (2 < s.size) = false := decide_eq_false (by omega)
    clear hm hn1
    go_enter Tryd.func83, Tryd.ntmps83
    go_wp2
    go_quiet (fail)
    go_wp2
    go_ret
    exact ⟨by rw [show fullL s.size 3 lo hi (bt s 1) (bt s 2) = _ from rfl]; simp only [fullL, e1', g1', g2']; rfl, pw_below_drewN (below_alloc (Below.refl _ _) _) _⟩
set_option maxHeartbeats 8000000 in
set_option maxRecDepth 100000 in
theorem full_slow32 (f : Nat) (s : ByteArray) (b : UInt8) (lo hi : Int) (W : World) (hf : f = 35) (h0 : ¬ s.size = 0) (hb : s[0]'(by omega) = b) (t1 : W.cell? ⟨3, b.toNat, none⟩ = some (.int .u8 (f : Nat))) (t2 : W.cell? ⟨4, 4, none⟩ = some (.int .u8 lo)) (t3 : W.cell? ⟨4, 5, none⟩ = some (.int .u8 hi)) :
  Calls Tryd.prog 83 #[.string s] W (FullPost (fullL s.size 3 lo hi (bt s 1) (bt s 2)) W) := by
 have d0 : ((s.size : Int) == 0) = false := beq_eq_false_iff_ne.mpr (by omega)
 have d1 : (s.size == 0) = false := beq_eq_false_iff_ne.mpr h0
 have z0 : (0 : Int) < (s.size : Int) := by omega
 have z0' : 0 < s.size := by omega
 have hb256 : (b.toNat : Int) < 256 := by have := b.toNat_lt; omega
 subst hf
 all_goals
  by_cases hm : 3 ≤ s.size
  ·have e1 : decide ((3 : Int) ≤ (s.size : Int)) = true := decide_eq_true (by omega)
   have e1' : decide (3 ≤ s.size) = true := decide_eq_true hm
   clear hm
   go_enter Tryd.func83, Tryd.ntmps83
   go_wp2
   go_ret
   exact ⟨by simp only [fullL, e1', Bool.true_or]; rfl, Below.refl _ _⟩
  ·have e1 : decide ((3 : Int) ≤ (s.size : Int)) = false := decide_eq_false (by omega)
   have e1' : decide (3 ≤ s.size) = false := decide_eq_false hm
   by_cases hn1 : 1 < s.size
   ·obtain ⟨c1, hc1⟩ : ∃ c, s[1]'hn1 = c := ⟨_, rfl⟩
    have B1 := Aside0.mk (show bt s 1 = (c1.toNat : Int) by rw [← hc1]; exact (bt_at s 1 hn1).symm)
    have g1 : decide ((1 : Int) < (s.size : Int)) = true := decide_eq_true (by omega)
    have g1' : decide (1 < s.size) = true := decide_eq_true hn1
    have y1 : (1 : Int) < (s.size : Int) := by omega
    by_cases hn2 : 2 < s.size
    ·obtain ⟨c2, hc2⟩ : ∃ c, s[2]'hn2 = c := ⟨_, rfl⟩
     have B2 := Aside0.mk (show bt s 2 = (c2.toNat : Int) by rw [← hc2]; exact (bt_at s 2 hn2).symm)
     have g2 : decide ((2 : Int) < (s.size : Int)) = true := decide_eq_true (by omega)
     have g2' : decide (2 < s.size) = true := decide_eq_true hn2
     have y2 : (2 : Int) < (s.size : Int) := by omega
     clear hm
     cases hu : decide ((c1.toNat : Int) < lo)
     ·cases hv : decide (hi < (c1.toNat : Int))
      ·cases hx : decide ((c2.toNat : Int) < 128)
       ·cases hy : decide (191 < (c2.toNat : Int))
        all_goals
         go_enter Tryd.func83, Tryd.ntmps83
         go_wp2
         go_quiet (fail)
         go_wp2
         go_ret
         exact ⟨by rw [show fullL s.size 3 lo hi (bt s 1) (bt s 2) = _ from rfl]; simp only [fullL, e1', g1', g2', B1.out, B2.out, hu, hv, hx, hy]; rfl, pw_below_drewN (below_alloc (Below.refl _ _) _) _⟩
       ·go_enter Tryd.func83, Tryd.ntmps83
        go_wp2
        go_quiet (fail)
        go_wp2
        go_ret
        exact ⟨by rw [show fullL s.size 3 lo hi (bt s 1) (bt s 2) = _ from rfl]; simp only [fullL, e1', g1', g2', B1.out, B2.out, hu, hv, hx]; rfl, pw_below_drewN (below_alloc (Below.refl _ _) _) _⟩
      ·go_enter Tryd.func83, Tryd.ntmps83
       go_wp2
       go_quiet (fail)
       go_wp2
       go_ret
       exact ⟨by rw [show fullL s.size 3 lo hi (bt s 1) (bt s 2) = _ from rfl]; simp only [fullL, e1', g1', g2', B1.out, hu, hv]; rfl, pw_below_drewN (below_alloc (Below.refl _ _) _) _⟩
     ·go_enter Tryd.func83, Tryd.ntmps83
      go_wp2
      go_quiet (fail)
      go_wp2
      go_ret
      exact ⟨by rw [show fullL s.size 3 lo hi (bt s 1) (bt s 2) = _ from rfl]; simp only [fullL, e1', g1', g2', B1.out, hu]; rfl, pw_below_drewN (below_alloc (Below.refl _ _) _) _⟩
    ·have g2 : decide ((2 : Int) < (s.size : Int)) = false := decide_eq_false (by omega)
     have g2' : decide (2 < s.size) = false := decide_eq_false hn2
     clear hm hn2
     cases hu : decide ((c1.toNat : Int) < lo)
     ·cases hv : decide (hi < (c1.toNat : Int))
      all_goals
       go_enter Tryd.func83, Tryd.ntmps83
       go_wp2
       go_quiet (fail)
       go_wp2
       go_ret
       exact ⟨by rw [show fullL s.size 3 lo hi (bt s 1) (bt s 2) = _ from rfl]; simp only [fullL, e1', g1', g2', B1.out, hu, hv]; rfl, pw_below_drewN (below_alloc (Below.refl _ _) _) _⟩
     ·go_enter Tryd.func83, Tryd.ntmps83
      go_wp2
      go_quiet (fail)
      go_wp2
      go_ret
      exact ⟨by rw [show fullL s.size 3 lo hi (bt s 1) (bt s 2) = _ from rfl]; simp only [fullL, e1', g1', g2', B1.out, hu]; rfl, pw_below_drewN (below_alloc (Below.refl _ _) _) _⟩
   ·have g1 : decide ((1 : Int) < (s.size : Int)) = false := decide_eq_false (by omega)
    have g1' : decide (1 < s.size) = false := decide_eq_false hn1
    have g2 : decide ((2 : Int) < (s.size : Int)) = false := decide_eq_false (by omega)
    have g2' : decide (2 < s.size) = false := decide_eq_false (by omega)
    clear hm hn1
    go_enter Tryd.func83, Tryd.ntmps83
    go_wp2
    go_quiet (fail)
    go_wp2
    go_ret
    exact ⟨by rw [show fullL s.size 3 lo hi (bt s 1) (bt s 2) = _ from rfl]; simp only [fullL, e1', g1', g2']; rfl, pw_below_drewN (below_alloc (Below.refl _ _) _) _⟩
set_option maxHeartbeats 8000000 in
set_option maxRecDepth 100000 in
theorem full_slow43 (f : Nat) (s : ByteArray) (b : UInt8) (lo hi : Int) (W : World) (hf : f = 52) (h0 : ¬ s.size = 0) (hb : s[0]'(by omega) = b) (t1 : W.cell? ⟨3, b.toNat, none⟩ = some (.int .u8 (f : Nat))) (t2 : W.cell? ⟨4, 6, none⟩ = some (.int .u8 lo)) (t3 : W.cell? ⟨4, 7, none⟩ = some (.int .u8 hi)) :
  Calls Tryd.prog 83 #[.string s] W (FullPost (fullL s.size 4 lo hi (bt s 1) (bt s 2)) W) := by
 have d0 : ((s.size : Int) == 0) = false := beq_eq_false_iff_ne.mpr (by omega)
 have d1 : (s.size == 0) = false := beq_eq_false_iff_ne.mpr h0
 have z0 : (0 : Int) < (s.size : Int) := by omega
 have z0' : 0 < s.size := by omega
 have hb256 : (b.toNat : Int) < 256 := by have := b.toNat_lt; omega
 subst hf
 all_goals
  by_cases hm : 4 ≤ s.size
  ·have e1 : decide ((4 : Int) ≤ (s.size : Int)) = true := decide_eq_true (by omega)
   have e1' : decide (4 ≤ s.size) = true := decide_eq_true hm
   clear hm
   go_enter Tryd.func83, Tryd.ntmps83
   go_wp2
   go_ret
   exact ⟨by simp only [fullL, e1', Bool.true_or]; rfl, Below.refl _ _⟩
  ·have e1 : decide ((4 : Int) ≤ (s.size : Int)) = false := decide_eq_false (by omega)
   have e1' : decide (4 ≤ s.size) = false := decide_eq_false hm
   by_cases hn1 : 1 < s.size
   ·obtain ⟨c1, hc1⟩ : ∃ c, s[1]'hn1 = c := ⟨_, rfl⟩
    have B1 := Aside0.mk (show bt s 1 = (c1.toNat : Int) by rw [← hc1]; exact (bt_at s 1 hn1).symm)
    have g1 : decide ((1 : Int) < (s.size : Int)) = true := decide_eq_true (by omega)
    have g1' : decide (1 < s.size) = true := decide_eq_true hn1
    have y1 : (1 : Int) < (s.size : Int) := by omega
    by_cases hn2 : 2 < s.size
    ·obtain ⟨c2, hc2⟩ : ∃ c, s[2]'hn2 = c := ⟨_, rfl⟩
     have B2 := Aside0.mk (show bt s 2 = (c2.toNat : Int) by rw [← hc2]; exact (bt_at s 2 hn2).symm)
     have g2 : decide ((2 : Int) < (s.size : Int)) = true := decide_eq_true (by omega)
     have g2' : decide (2 < s.size) = true := decide_eq_true hn2
     have y2 : (2 : Int) < (s.size : Int) := by omega
     clear hm
     cases hu : decide ((c1.toNat : Int) < lo)
     ·cases hv : decide (hi < (c1.toNat : Int))
      ·cases hx : decide ((c2.toNat : Int) < 128)
       ·cases hy : decide (191 < (c2.toNat : Int))
        all_goals
         go_enter Tryd.func83, Tryd.ntmps83
         go_wp2
         go_quiet (fail)
         go_wp2
         go_ret
         exact ⟨by rw [show fullL s.size 4 lo hi (bt s 1) (bt s 2) = _ from rfl]; simp only [fullL, e1', g1', g2', B1.out, B2.out, hu, hv, hx, hy]; rfl, pw_below_drewN (below_alloc (Below.refl _ _) _) _⟩
       ·go_enter Tryd.func83, Tryd.ntmps83
        go_wp2
        go_quiet (fail)
        go_wp2
        go_ret
        exact ⟨by rw [show fullL s.size 4 lo hi (bt s 1) (bt s 2) = _ from rfl]; simp only [fullL, e1', g1', g2', B1.out, B2.out, hu, hv, hx]; rfl, pw_below_drewN (below_alloc (Below.refl _ _) _) _⟩
      ·go_enter Tryd.func83, Tryd.ntmps83
       go_wp2
       go_quiet (fail)
       go_wp2
       go_ret
       exact ⟨by rw [show fullL s.size 4 lo hi (bt s 1) (bt s 2) = _ from rfl]; simp only [fullL, e1', g1', g2', B1.out, hu, hv]; rfl, pw_below_drewN (below_alloc (Below.refl _ _) _) _⟩
     ·go_enter Tryd.func83, Tryd.ntmps83
      go_wp2
      go_quiet (fail)
      go_wp2
      go_ret
      exact ⟨by rw [show fullL s.size 4 lo hi (bt s 1) (bt s 2) = _ from rfl]; simp only [fullL, e1', g1', g2', B1.out, hu]; rfl, pw_below_drewN (below_alloc (Below.refl _ _) _) _⟩
    ·have g2 : decide ((2 : Int) < (s.size : Int)) = false := decide_eq_false (by omega)
     have g2' : decide (2 < s.size) = false := decide_eq_false hn2
     clear hm hn2
     cases hu : decide ((c1.toNat : Int) < lo)
     ·cases hv : decide (hi < (c1.toNat : Int))
      all_goals
       go_enter Tryd.func83, Tryd.ntmps83
       go_wp2
       go_quiet (fail)
       go_wp2
       go_ret
       exact ⟨by rw [show fullL s.size 4 lo hi (bt s 1) (bt s 2) = _ from rfl]; simp only [fullL, e1', g1', g2', B1.out, hu, hv]; rfl, pw_below_drewN (below_alloc (Below.refl _ _) _) _⟩
     ·go_enter Tryd.func83, Tryd.ntmps83
      go_wp2
      go_quiet (fail)
      go_wp2
      go_ret
      exact ⟨by rw [show fullL s.size 4 lo hi (bt s 1) (bt s 2) = _ from rfl]; simp only [fullL, e1', g1', g2', B1.out, hu]; rfl, pw_below_drewN (below_alloc (Below.refl _ _) _) _⟩
   ·have g1 : decide ((1 : Int) < (s.size : Int)) = false := decide_eq_false (by omega)
    have g1' : decide (1 < s.size) = false := decide_eq_false hn1
    have g2 : decide ((2 : Int) < (s.size : Int)) = false := decide_eq_false (by omega)
    have g2' : decide (2 < s.size) = false := decide_eq_false (by omega)
    clear hm hn1
    go_enter Tryd.func83, Tryd.ntmps83
    go_wp2
    go_quiet (fail)
    go_wp2
    go_ret
    exact ⟨by rw [show fullL s.size 4 lo hi (bt s 1) (bt s 2) = _ from rfl]; simp only [fullL, e1', g1', g2']; rfl, pw_below_drewN (below_alloc (Below.refl _ _) _) _⟩
set_option maxHeartbeats 8000000 in
set_option maxRecDepth 100000 in
theorem full_slow40 (f : Nat) (s : ByteArray) (b : UInt8) (lo hi : Int) (W : World) (hf : f = 4) (h0 : ¬ s.size = 0) (hb : s[0]'(by omega) = b) (t1 : W.cell? ⟨3, b.toNat, none⟩ = some (.int .u8 (f : Nat))) (t2 : W.cell? ⟨4, 0, none⟩ = some (.int .u8 lo)) (t3 : W.cell? ⟨4, 1, none⟩ = some (.int .u8 hi)) :
  Calls Tryd.prog 83 #[.string s] W (FullPost (fullL s.size 4 lo hi (bt s 1) (bt s 2)) W) := by
 have d0 : ((s.size : Int) == 0) = false := beq_eq_false_iff_ne.mpr (by omega)
 have d1 : (s.size == 0) = false := beq_eq_false_iff_ne.mpr h0
 have z0 : (0 : Int) < (s.size : Int) := by omega
 have z0' : 0 < s.size := by omega
 have hb256 : (b.toNat : Int) < 256 := by have := b.toNat_lt; omega
 subst hf
 all_goals
  by_cases hm : 4 ≤ s.size
  ·have e1 : decide ((4 : Int) ≤ (s.size : Int)) = true := decide_eq_true (by omega)
   have e1' : decide (4 ≤ s.size) = true := decide_eq_true hm
   clear hm
   go_enter Tryd.func83, Tryd.ntmps83
   go_wp2
   go_ret
   exact ⟨by simp only [fullL, e1', Bool.true_or]; rfl, Below.refl _ _⟩
  ·have e1 : decide ((4 : Int) ≤ (s.size : Int)) = false := decide_eq_false (by omega)
   have e1' : decide (4 ≤ s.size) = false := decide_eq_false hm
   by_cases hn1 : 1 < s.size
   ·obtain ⟨c1, hc1⟩ : ∃ c, s[1]'hn1 = c := ⟨_, rfl⟩
    have B1 := Aside0.mk (show bt s 1 = (c1.toNat : Int) by rw [← hc1]; exact (bt_at s 1 hn1).symm)
    have g1 : decide ((1 : Int) < (s.size : Int)) = true := decide_eq_true (by omega)
    have g1' : decide (1 < s.size) = true := decide_eq_true hn1
    have y1 : (1 : Int) < (s.size : Int) := by omega
    by_cases hn2 : 2 < s.size
    ·obtain ⟨c2, hc2⟩ : ∃ c, s[2]'hn2 = c := ⟨_, rfl⟩
     have B2 := Aside0.mk (show bt s 2 = (c2.toNat : Int) by rw [← hc2]; exact (bt_at s 2 hn2).symm)
     have g2 : decide ((2 : Int) < (s.size : Int)) = true := decide_eq_true (by omega)
     have g2' : decide (2 < s.size) = true := decide_eq_true hn2
     have y2 : (2 : Int) < (s.size : Int) := by omega
     clear hm
     cases hu : decide ((c1.toNat : Int) < lo)
     ·cases hv : decide (hi < (c1.toNat : Int))
      ·cases hx : decide ((c2.toNat : Int) < 128)
       ·cases hy : decide (191 < (c2.toNat : Int))
        all_goals
         go_enter Tryd.func83, Tryd.ntmps83
         go_wp2
         go_quiet (fail)
         go_wp2
         go_ret
         exact ⟨by rw [show fullL s.size 4 lo hi (bt s 1) (bt s 2) = _ from rfl]; simp only [fullL, e1', g1', g2', B1.out, B2.out, hu, hv, hx, hy]; rfl, pw_below_drewN (below_alloc (Below.refl _ _) _) _⟩
       ·go_enter Tryd.func83, Tryd.ntmps83
        go_wp2
        go_quiet (fail)
        go_wp2
        go_ret
        exact ⟨by rw [show fullL s.size 4 lo hi (bt s 1) (bt s 2) = _ from rfl]; simp only [fullL, e1', g1', g2', B1.out, B2.out, hu, hv, hx]; rfl, pw_below_drewN (below_alloc (Below.refl _ _) _) _⟩
      ·go_enter Tryd.func83, Tryd.ntmps83
       go_wp2
       go_quiet (fail)
       go_wp2
       go_ret
       exact ⟨by rw [show fullL s.size 4 lo hi (bt s 1) (bt s 2) = _ from rfl]; simp only [fullL, e1', g1', g2', B1.out, hu, hv]; rfl, pw_below_drewN (below_alloc (Below.refl _ _) _) _⟩
     ·go_enter Tryd.func83, Tryd.ntmps83
      go_wp2
      go_quiet (fail)
      go_wp2
      go_ret
      exact ⟨by rw [show fullL s.size 4 lo hi (bt s 1) (bt s 2) = _ from rfl]; simp only [fullL, e1', g1', g2', B1.out, hu]; rfl, pw_below_drewN (below_alloc (Below.refl _ _) _) _⟩
    ·have g2 : decide ((2 : Int) < (s.size : Int)) = false := decide_eq_false (by omega)
     have g2' : decide (2 < s.size) = false := decide_eq_false hn2
     clear hm hn2
     cases hu : decide ((c1.toNat : Int) < lo)
     ·cases hv : decide (hi < (c1.toNat : Int))
      all_goals
       go_enter Tryd.func83, Tryd.ntmps83
       go_wp2
       go_quiet (fail)
       go_wp2
       go_ret
       exact ⟨by rw [show fullL s.size 4 lo hi (bt s 1) (bt s 2) = _ from rfl]; simp only [fullL, e1', g1', g2', B1.out, hu, hv]; rfl, pw_below_drewN (below_alloc (Below.refl _ _) _) _⟩
     ·go_enter Tryd.func83, Tryd.ntmps83
      go_wp2
      go_quiet (fail)
      go_wp2
      go_ret
      exact ⟨by rw [show fullL s.size 4 lo hi (bt s 1) (bt s 2) = _ from rfl]; simp only [fullL, e1', g1', g2', B1.out, hu]; rfl, pw_below_drewN (below_alloc (Below.refl _ _) _) _⟩
   ·have g1 : decide ((1 : Int) < (s.size : Int)) = false := decide_eq_false (by omega)
    have g1' : decide (1 < s.size) = false := decide_eq_false hn1
    have g2 : decide ((2 : Int) < (s.size : Int)) = false := decide_eq_false (by omega)
    have g2' : decide (2 < s.size) = false := decide_eq_false (by omega)
    clear hm hn1
    go_enter Tryd.func83, Tryd.ntmps83
    go_wp2
    go_quiet (fail)
    go_wp2
    go_ret
    exact ⟨by rw [show fullL s.size 4 lo hi (bt s 1) (bt s 2) = _ from rfl]; simp only [fullL, e1', g1', g2']; rfl, pw_below_drewN (below_alloc (Below.refl _ _) _) _⟩
set_option maxHeartbeats 8000000 in
set_option maxRecDepth 100000 in
theorem full_slow44 (f : Nat) (s : ByteArray) (b : UInt8) (lo hi : Int) (W : World) (hf : f = 68) (h0 : ¬ s.size = 0) (hb : s[0]'(by omega) = b) (t1 : W.cell? ⟨3, b.toNat, none⟩ = some (.int .u8 (f : Nat))) (t2 : W.cell? ⟨4, 8, none⟩ = some (.int .u8 lo)) (t3 : W.cell? ⟨4, 9, none⟩ = some (.int .u8 hi)) :
  Calls Tryd.prog 83 #[.string s] W (FullPost (fullL s.size 4 lo hi (bt s 1) (bt s 2)) W) := by
 have d0 : ((s.size : Int) == 0) = false := beq_eq_false_iff_ne.mpr (by omega)
 have d1 : (s.size == 0) = false := beq_eq_false_iff_ne.mpr h0
 have z0 : (0 : Int) < (s.size : Int) := by omega
 have z0' : 0 < s.size := by omega
 have hb256 : (b.toNat : Int) < 256 := by have := b.toNat_lt; omega
 subst hf
 all_goals
  by_cases hm : 4 ≤ s.size
  ·have e1 : decide ((4 : Int) ≤ (s.size : Int)) = true := decide_eq_true (by omega)
   have e1' : decide (4 ≤ s.size) = true := decide_eq_true hm
   clear hm
   go_enter Tryd.func83, Tryd.ntmps83
   go_wp2
   go_ret
   exact ⟨by simp only [fullL, e1', Bool.true_or]; rfl, Below.refl _ _⟩
  ·have e1 : decide ((4 : Int) ≤ (s.size : Int)) = false := decide_eq_false (by omega)
   have e1' : decide (4 ≤ s.size) = false := decide_eq_false hm
   by_cases hn1 : 1 < s.size
   ·obtain ⟨c1, hc1⟩ : ∃ c, s[1]'hn1 = c := ⟨_, rfl⟩
    have B1 := Aside0.mk (show bt s 1 = (c1.toNat : Int) by rw [← hc1]; exact (bt_at s 1 hn1).symm)
    have g1 : decide ((1 : Int) < (s.size : Int)) = true := decide_eq_true (by omega)
    have g1' : decide (1 < s.size) = true := decide_eq_true hn1
    have y1 : (1 : Int) < (s.size : Int) := by omega
    by_cases hn2 : 2 < s.size
    ·obtain ⟨c2, hc2⟩ : ∃ c, s[2]'hn2 = c := ⟨_, rfl⟩
     have B2 := Aside0.mk (show bt s 2 = (c2.toNat : Int) by rw [← hc2]; exact (bt_at s 2 hn2).symm)
     have g2 : decide ((2 : Int) < (s.size : Int)) = true := decide_eq_true (by omega)
     have g2' : decide (2 < s.size) = true := decide_eq_true hn2
     have y2 : (2 : Int) < (s.size : Int) := by omega
     clear hm
     cases hu : decide ((c1.toNat : Int) < lo)
     ·cases hv : decide (hi < (c1.toNat : Int))
      ·cases hx : decide ((c2.toNat : Int) < 128)
       ·cases hy : decide (191 < (c2.toNat : Int))
        all_goals
         go_enter Tryd.func83, Tryd.ntmps83
         go_wp2
         go_quiet (fail)
         go_wp2
         go_ret
         exact ⟨by rw [show fullL s.size 4 lo hi (bt s 1) (bt s 2) = _ from rfl]; simp only [fullL, e1', g1', g2', B1.out, B2.out, hu, hv, hx, hy]; rfl, pw_below_drewN (below_alloc (Below.refl _ _) _) _⟩
       ·go_enter Tryd.func83, Tryd.ntmps83
        go_wp2
        go_quiet (fail)
        go_wp2
        go_ret
        exact ⟨by rw [show fullL s.size 4 lo hi (bt s 1) (bt s 2) = _ from rfl]; simp only [fullL, e1', g1', g2', B1.out, B2.out, hu, hv, hx]; rfl, pw_below_drewN (below_alloc (Below.refl _ _) _) _⟩
      ·go_enter Tryd.func83, Tryd.ntmps83
       go_wp2
       go_quiet (fail)
       go_wp2
       go_ret
       exact ⟨by rw [show fullL s.size 4 lo hi (bt s 1) (bt s 2) = _ from rfl]; simp only [fullL, e1', g1', g2', B1.out, hu, hv]; rfl, pw_below_drewN (below_alloc (Below.refl _ _) _) _⟩
     ·go_enter Tryd.func83, Tryd.ntmps83
      go_wp2
      go_quiet (fail)
      go_wp2
      go_ret
      exact ⟨by rw [show fullL s.size 4 lo hi (bt s 1) (bt s 2) = _ from rfl]; simp only [fullL, e1', g1', g2', B1.out, hu]; rfl, pw_below_drewN (below_alloc (Below.refl _ _) _) _⟩
    ·have g2 : decide ((2 : Int) < (s.size : Int)) = false := decide_eq_false (by omega)
     have g2' : decide (2 < s.size) = false := decide_eq_false hn2
     clear hm hn2
     cases hu : decide ((c1.toNat : Int) < lo)
     ·cases hv : decide (hi < (c1.toNat : Int))
      all_goals
       go_enter Tryd.func83, Tryd.ntmps83
       go_wp2
       go_quiet (fail)
       go_wp2
       go_ret
       exact ⟨by rw [show fullL s.size 4 lo hi (bt s 1) (bt s 2) = _ from rfl]; simp only [fullL, e1', g1', g2', B1.out, hu, hv]; rfl, pw_below_drewN (below_alloc (Below.refl _ _) _) _⟩
     ·go_enter Tryd.func83, Tryd.ntmps83
      go_wp2
      go_quiet (fail)
      go_wp2
      go_ret
      exact ⟨by rw [show fullL s.size 4 lo hi (bt s 1) (bt s 2) = _ from rfl]; simp only [fullL, e1', g1', g2', B1.out, hu]; rfl, pw_below_drewN (below_alloc (Below.refl _ _) _) _⟩
   ·have g1 : decide ((1 : Int) < (s.size : Int)) = false := decide_eq_false (by omega)
    have g1' : decide (1 < s.size) = false := decide_eq_false hn1
    have g2 : decide ((2 : Int) < (s.size : Int)) = false := decide_eq_false (by omega)
    have g2' : decide (2 < s.size) = false := decide_eq_false (by omega)
    clear hm hn1
    go_enter Tryd.func83, Tryd.ntmps83
    go_wp2
    go_quiet (fail)
    go_wp2
    go_ret
    exact ⟨by rw [show fullL s.size 4 lo hi (bt s 1) (bt s 2) = _ from rfl]; simp only [fullL, e1', g1', g2']; rfl, pw_below_drewN (below_alloc (Below.refl _ _) _) _⟩
set_option maxHeartbeats 8000000 in
set_option maxRecDepth 100000 in
theorem full_rune (s : ByteArray) (W : World) (hT : UTab W) :
  Calls Tryd.prog 83 #[.string s] W (FullPost (fullF s) W) := by
 by_cases h0 : s.size = 0
 ·have d0 : ((s.size : Int) == 0) = true := by rw [h0]; rfl
  have d1 : (s.size == 0) = true := by rw [h0]; rfl
  have hF := Aside0.mk (show fullF s = false by unfold fullF; rw [decide_eq_false (by omega)]; rfl)
  go_enter Tryd.func83, Tryd.ntmps83
  go_wp2
  go_ret
  exact ⟨by rw [hF.out]; rfl, Below.refl _ _⟩
 ·have d0 : ((s.size : Int) == 0) = false := beq_eq_false_iff_ne.mpr (by omega)
  have d1 : (s.size == 0) = false := beq_eq_false_iff_ne.mpr h0
  have z0 : (0 : Int) < (s.size : Int) := by omega
  have z0' : 0 < s.size := by omega
  obtain ⟨b, hb⟩ : ∃ b, s[0]'z0' = b := ⟨_, rfl⟩
  have hbt : (bt s 0).toNat = b.toNat := by rw [← hb, ← bt_at s 0 z0']; rfl
  have t1 := hT.u.1 b.toNat b.toNat_lt
  have hb256 : (b.toNat : Int) < 256 := by have := b.toNat_lt; omega
  have hF0 : fullF s = fullL s.size (Lib.firstT b.toNat % 8) (Lib.accLo (Lib.firstT b.toNat / 16)) (Lib.accHi (Lib.firstT b.toNat / 16)) (bt s 1) (bt s 2) := by unfold fullF; rw [decide_eq_true h0, Bool.true_and, hbt]
  have HT := Aside0.mk hT
  clear hT hbt
  rcases Lib.firstT_cases b.toNat with hf | hf | hf | hf | hf | hf | hf | hf | hf
  all_goals
   rw [hf] at t1 hF0
   have HF := Aside0.mk hF0
   clear hf hF0
  ·have HF1 := Aside0.mk (show fullF s = true by rw [HF.out]; unfold fullL; rw [decide_eq_true (show 0 ≤ s.size by omega)]; rfl)
   go_enter Tryd.func83, Tryd.ntmps83
   go_wp2
   go_ret
   exact ⟨by rw [HF1.out]; rfl, Below.refl _ _⟩
  ·have HF1 := Aside0.mk (show fullF s = true by rw [HF.out]; unfold fullL; rw [decide_eq_true (show 1 ≤ s.size by omega)]; rfl)
   go_enter Tryd.func83, Tryd.ntmps83
   go_wp2
   go_ret
   exact ⟨by rw [HF1.out]; rfl, Below.refl _ _⟩
  ·obtain ⟨t2, t3⟩ := HT.out.u.2 0 (by omega)
   rw [HF.out]
   exact full_slow20 2 s b _ _ W (by decide) h0 hb t1 t2 t3
  ·obtain ⟨t2, t3⟩ := HT.out.u.2 1 (by omega)
   rw [HF.out]
   exact full_slow31 19 s b _ _ W (by decide) h0 hb t1 t2 t3
  ·obtain ⟨t2, t3⟩ := HT.out.u.2 0 (by omega)
   rw [HF.out]
   exact full_slow30 3 s b _ _ W (by decide) h0 hb t1 t2 t3
  ·obtain ⟨t2, t3⟩ := HT.out.u.2 2 (by omega)
   rw [HF.out]
   exact full_slow32 35 s b _ _ W (by decide) h0 hb t1 t2 t3
  ·obtain ⟨t2, t3⟩ := HT.out.u.2 3 (by omega)
   rw [HF.out]
   exact full_slow43 52 s b _ _ W (by decide) h0 hb t1 t2 t3
  ·obtain ⟨t2, t3⟩ := HT.out.u.2 0 (by omega)
   rw [HF.out]
   exact full_slow40 4 s b _ _ W (by decide) h0 hb t1 t2 t3
  ·obtain ⟨t2, t3⟩ := HT.out.u.2 4 (by omega)
   rw [HF.out]
   exact full_slow44 68 s b _ _ W (by decide) h0 hb t1 t2 t3
end Go.Proofs.YtgnfapnnbcafbaaDoor.UN
end
section
/- The buffer of a unit file's lexer: ReadRune at every text. Conditions: a text of at most a million bytes; the library's tables as laid. -/
namespace Go.Proofs.YtgnfapnnbcafbaaDoor.UN
open Go Go.RowKit Go.Proofs.YtgnfapnnbcafbaaDoorW.PrintWords Go.Proofs.YtgnfapnnbcafbaaDoorW Go.Proofs.YtgnfapnnbcafbaaDoorW.PrintLast
set_option linter.unusedVariables false
set_option linter.unusedSimpArgs false
set_option maxHeartbeats 8000000 in
set_option maxRecDepth 100000 in
theorem read_runeA0 (W0 : World) (g : Nat) (text : ByteArray) (r : Nat) (l : Int) (W : World) (hT : UTab W0) (hB : Below W0.heap.size W0 W) (hg : W0.heap.size ≤ g) (hb : BufAt W g text r l) (hsz : text.size ≤ 1000000) :
  Calls Tryd.prog 73 #[.pointer (some ⟨g, 0, none⟩)] W (RunePost W0 W g text r) := by
 obtain ⟨w, d, hb, h1, h2, h3⟩ := hb
 have HT := Aside0.mk hT
 have HB := Aside0.mk hB
 have HG := Aside0.mk hg
 have HS := Aside0.mk hsz
 have HBK := Aside0.mk hb
 have H1 := Aside0.mk h1
 have H2 := Aside0.mk h2
 have H3 := Aside0.mk h3
 have HR := Aside0.mk (grown_refl W (some g))
 clear hT hB hg hsz hb h1 h2 h3
 go_enter Tryd.func73, Tryd.ntmps73
 go_wp2
 go_loopg [7] (2 * text.size + 3) (fun kq v7 w' => ∃ (w : Nat) (d : Bool), Aside0 (w'.heap[g]? = some (bufObj text r w l d)) ∧ Aside0 (r ≤ w) ∧ Aside0 (w ≤ text.size) ∧ Aside0 (d = true → w = text.size) ∧ Aside0 (Below W0.heap.size W0 w') ∧ Aside0 (W.grownBy w' (some g)) ∧ Aside0 (2 * (text.size - w) + (if d = true then 0 else 1) < kq))
 case atStart => exact ⟨w, d, HBK, H1, H2, H3, HB, HR, ⟨by split <;> omega⟩⟩
 case round =>
  clear HBK H1 H2 H3 HB HR
  obtain ⟨w, d, HBK, H1, H2, H3, HB, HR, HK⟩ := hrel
  have c0 : wr.cell? ⟨g, 0, none⟩ = some (.string text) := (blk_cell HBK.out 0).trans rfl
  have c1 : wr.cell? ⟨g, 1, none⟩ = some (.int .i64 r) := (blk_cell HBK.out 1).trans rfl
  have c2 : wr.cell? ⟨g, 2, none⟩ = some (.int .i64 w) := (blk_cell HBK.out 2).trans rfl
  have c4 : wr.cell? ⟨g, 4, none⟩ = some (.bool d) := (blk_cell HBK.out 4).trans rfl
  have e4 : IntKind.i64.wrap ((r : Int) + 4) = (r : Int) + 4 := by have := HS.out; have := H1.out; have := H2.out; rw [PrintLast.i64_w]; unfold wrap64; omega
  have e5 : IntKind.i64.wrap ((w : Int) - (r : Int)) = (w : Int) - (r : Int) := by have := HS.out; have := H1.out; have := H2.out; rw [PrintLast.i64_w]; unfold wrap64; omega
  by_cases hA : r + 4 ≤ w
  ·have d0 : decide ((w : Int) < (r : Int) + 4) = false := decide_eq_false (by omega)
   have HE := Aside0.mk (show r < w by omega)
   clear hA
   go_upto_region 1 with (fail)
   go_quiet (fail)
   generalize hY : wr.drewN nq = Y
   have HY := Aside0.mk (show Y.heap[g]? = some (bufObj text r w l d) by rw [← hY]; exact HBK.out)
   have HBY := Aside0.mk (show Below W0.heap.size W0 Y by rw [← hY]; exact pw_below_drewN HB.out nq)
   have HRY := Aside0.mk (show W.grownBy Y (some g) by rw [← hY]; exact HR.out.trans (grown_of_below (pw_below_drewN (Below.refl _ _) nq) (some g)))
   clear hY c0 c1 c2 c4
   have y0 : Y.cell? ⟨g, 0, none⟩ = some (.string text) := (blk_cell HY.out 0).trans rfl
   have y1 : Y.cell? ⟨g, 1, none⟩ = some (.int .i64 r) := (blk_cell HY.out 1).trans rfl
   have y2 : Y.cell? ⟨g, 2, none⟩ = some (.int .i64 w) := (blk_cell HY.out 2).trans rfl
   have y3 : Y.cell? ⟨g, 3, none⟩ = some (.int .i64 l) := (blk_cell HY.out 3).trans rfl
   have y4 : Y.cell? ⟨g, 4, none⟩ = some (.bool d) := (blk_cell HY.out 4).trans rfl
   have yf1 := blk_frozen HY.out 1
   have yf3 := blk_frozen HY.out 3
   have yf4 := blk_frozen HY.out 4
   have HY3 := Aside0.mk (show (Y.setCell ⟨g, 3, none⟩ (.int .i64 r)).heap[g]? = some (bufObj text r w r d) from blk_put HY.out 3 _ rfl)
   have q0 : ((r : Int) == (w : Int)) = false := beq_eq_false_iff_ne.mpr (by have := HE.out; omega)
   have p0 : ((0 : Int) ≤ (r : Int)) = True := eq_true (by omega)
   have p1 : ((r : Int) ≤ (w : Int)) = True := eq_true (by have := H1.out; omega)
   have p2 : ((w : Int) ≤ (text.size : Int)) = True := eq_true (by have := H2.out; omega)
   go_wp2
   go_quiet (fail)
   generalize hZ : (Y.setCell ⟨g, 3, none⟩ (.int .i64 r)).drewN nq = Z
   have HZ := Aside0.mk (show Z.heap[g]? = some (bufObj text r w r d) by rw [← hZ]; exact blk_drewN HY3.out nq)
   have HBZ := Aside0.mk (show Below W0.heap.size W0 Z by rw [← hZ]; exact pw_below_drewN (below_far HG.out HBY.out) _)
   have HRZ := Aside0.mk (show W.grownBy Z (some g) by rw [← hZ]; exact (HRY.out.trans (grown_set Y g 3 _)).trans (grown_of_below (pw_below_drewN (Below.refl _ _) nq) (some g)))
   clear hZ y0 y1 y2 y3 y4 yf1 yf3 yf4
   have z0 : Z.cell? ⟨g, 0, none⟩ = some (.string text) := (blk_cell HZ.out 0).trans rfl
   have z1 : Z.cell? ⟨g, 1, none⟩ = some (.int .i64 r) := (blk_cell HZ.out 1).trans rfl
   have z2 : Z.cell? ⟨g, 2, none⟩ = some (.int .i64 w) := (blk_cell HZ.out 2).trans rfl
   obtain ⟨hrune, hle⟩ := rune_of text r w (by have := HE.out; omega) H2.out
   obtain ⟨c, hc⟩ : ∃ c, (Lib.decodeGo (text.extract r w)).1 = c := ⟨_, rfl⟩
   obtain ⟨n, hn⟩ : ∃ n, (Lib.decodeGo (text.extract r w)).2 = n := ⟨_, rfl⟩
   rw [hc, hn] at hrune
   rw [hn] at hle
   have HRU := Aside0.mk hrune
   have HLE := Aside0.mk hle
   clear hrune hle
   have dec : ∀ X, Below Z.heap.size Z X → Calls Tryd.prog 84 #[.string (text.extract r w)] X fun e w' => e = .returned (.tuple #[.int .i32 c, .int .i64 n]) ∧ Below X.heap.size X w' := fun X hX => by have := decode_call (text.extract r w) X (utab_below HT.out (below_then HBZ.out HBZ.out.size hX)); rw [hc, hn] at this; exact this
   have DEC := Aside0.mk dec
   clear dec hc hn
   go_wp2
   have KA : Aside0 (∀ X, Below Z.heap.size Z X → (Below Z.heap.size Z X ∧ X.cell? ⟨g, 0, none⟩ = some (.string text) ∧ X.cell? ⟨g, 1, none⟩ = some (.int .i64 r) ∧ X.cell? ⟨g, 2, none⟩ = some (.int .i64 w))) := ⟨fun X hX => ⟨hX, pw_cell_below hX z0, pw_cell_below hX z1, pw_cell_below hX z2⟩⟩
   go_region_held3 (fun X => Below Z.heap.size Z X ∧ X.cell? ⟨g, 0, none⟩ = some (.string text) ∧ X.cell? ⟨g, 1, none⟩ = some (.int .i64 r) ∧ X.cell? ⟨g, 2, none⟩ = some (.int .i64 w))
    (first | exact KA.out _ (below_drew (Below.refl _ _)) | (go_split_ands; exact KA.out _ (keepS (by assumption) hb')))
    (first | (go_at_call 84; (refine (DEC.out _ (by go_split_ands; assumption)).mono ?_); rintro e w' ⟨rfl, hb'⟩))
   have hV := (‹Below Z.heap.size Z w' ∧ _›).1
   have HV := Aside0.mk (blk_below HZ.out hV)
   have HBV := Aside0.mk (keepS HBZ.out hV)
   have HRV := Aside0.mk (HRZ.out.trans (grown_of_below hV (some g)))
   clear hV hb' ‹Below Z.heap.size Z w' ∧ _› z0 z1 z2 KA DEC
   have v1 : w'.cell? ⟨g, 1, none⟩ = some (.int .i64 r) := (blk_cell HV.out 1).trans rfl
   have vf1 := blk_frozen HV.out 1
   have e6 : IntKind.i64.wrap ((r : Int) + (n : Int)) = (r : Int) + (n : Int) := by have := HS.out; have := HLE.out; have := H2.out; rw [PrintLast.i64_w]; unfold wrap64; omega
   go_wp2
   go_ret3
   refine ⟨below_far HG.out HBV.out, HRV.out.trans (grown_set _ g 1 _), .inr ⟨by have := HE.out; have := H2.out; omega, c, n, HRU.out, rfl, ⟨w, d, ?_, HLE.out, H2.out, H3.out⟩⟩⟩
   exact (blk_put HV.out 1 _ rfl).trans (by rw [Int.natCast_add]; rfl)
  ·have d0 : decide ((w : Int) < (r : Int) + 4) = true := decide_eq_true (by omega)
   have d5 : decide ((w : Int) - (r : Int) < 4096) = true := decide_eq_true (by omega)
   have HA := Aside0.mk (show w < r + 4 by omega)
   clear hA
   have p0 : ((0 : Int) ≤ (r : Int)) = True := eq_true (by omega)
   have p1 : ((r : Int) ≤ (w : Int)) = True := eq_true (by have := H1.out; omega)
   have p2 : ((w : Int) ≤ (text.size : Int)) = True := eq_true (by have := H2.out; omega)
   have FR : ∀ X, Below wr.heap.size wr X → Calls Tryd.prog 83 #[.string (text.extract r w)] X (FullPost (fullF (text.extract r w)) X) := fun X hX => full_rune _ X (utab_below HT.out (keepS HB.out hX))
   cases hfr : fullF (text.extract r w)
   ·
    have DEC := Aside0.mk (show ∀ X, Below wr.heap.size wr X → Calls Tryd.prog 83 #[.string (text.extract r w)] X fun e w' => e = .returned (.bool false) ∧ Below X.heap.size X w' from fun X hX => by have h9 := FR X hX; rw [hfr] at h9; exact h9)
    clear FR hfr
    cases d
    ·go_upto_region 1 with (fail)
     refine start_ (n := 46) (S := fun w' => w'.cell? ⟨g, 0, none⟩ = some (.string text) ∧ w'.cell? ⟨g, 1, none⟩ = some (.int .i64 (r : Int)) ∧ w'.cell? ⟨g, 2, none⟩ = some (.int .i64 (w : Int)) ∧ w'.cell? ⟨g, 4, none⟩ = some (.bool false)) (ds := []) (bb [0, 46]) (by kernel_rfl) rfl rfl ⟨(pw_cell_below (below_drew (Below.refl _ _)) c0), (pw_cell_below (below_drew (Below.refl _ _)) c1), (pw_cell_below (below_drew (Below.refl _ _)) c2), (pw_cell_below (below_drew (Below.refl _ _)) c4)⟩ (fun hHeld => ?_)
     refine pure_ (i := 0) (N := some 7) (v := ?_) (a' := ?_) (bb [1, 45]) rfl rfl (by kernel_rfl) (fun _ _ _ h => h) (Or.inl ⟨by rfl, ?_⟩) ?_ ?_
     rotate_left
     ·intro w'
      go_simp
      with_reducible rfl
     rotate_left
     ·simp only [Act.put, List.setIfInBounds_toArray, List.set_cons_zero, List.set_cons_succ, i64_w, i32_w]
      rfl
     refine pure_ (i := 1) (N := some 8) (v := ?_) (a' := ?_) (bb [2, 44]) rfl rfl (by kernel_rfl) (fun _ _ _ h => h) (Or.inl ⟨by rfl, ?_⟩) ?_ ?_
     rotate_left
     ·intro w'
      go_simp
      with_reducible rfl
     rotate_left
     ·simp only [Act.put, List.setIfInBounds_toArray, List.set_cons_zero, List.set_cons_succ, i64_w, i32_w]
      rfl
     refine pure_ (i := 2) (N := some 9) (v := ?_) (a' := ?_) (bb [3, 43]) rfl rfl (by kernel_rfl) (fun _ _ _ h => h) (Or.inl ⟨by rfl, ?_⟩) ?_ ?_
     rotate_left
     ·intro w'
      go_simp
      with_reducible rfl
     rotate_left
     ·simp only [Act.put, List.setIfInBounds_toArray, List.set_cons_zero, List.set_cons_succ, i64_w, i32_w]
      rfl
     refine pure_ (i := 5) (N := some 12) (v := ?_) (a' := ?_) (bb [3, 2, 1, 40]) rfl rfl (by kernel_rfl) (fun _ _ _ h => h) (Or.inl ⟨by rfl, ?_⟩) ?_ ?_
     rotate_left
     ·intro w'
      go_simp
      with_reducible rfl
     rotate_left
     ·simp only [Act.put, List.setIfInBounds_toArray, List.set_cons_zero, List.set_cons_succ, i64_w, i32_w]
      rfl
     refine pure_ (i := 6) (N := some 13) (v := ?_) (a' := ?_) (bb [3, 2, 2, 39]) rfl rfl (by kernel_rfl) (fun _ _ _ h => h) (Or.inl ⟨by rfl, ?_⟩) ?_ ?_
     rotate_left
     ·intro w'
      go_simp
      with_reducible rfl
     rotate_left
     ·simp only [Act.put, List.setIfInBounds_toArray, List.set_cons_zero, List.set_cons_succ, i64_w, i32_w]
      rfl
     refine pure_ (i := 7) (N := some 14) (v := ?_) (a' := ?_) (bb [3, 2, 3, 38]) rfl rfl (by kernel_rfl) (fun _ _ _ h => h) (Or.inl ⟨by rfl, ?_⟩) ?_ ?_
     rotate_left
     ·intro w'
      go_simp
      with_reducible rfl
     rotate_left
     ·simp only [Act.put, List.setIfInBounds_toArray, List.set_cons_zero, List.set_cons_succ, i64_w, i32_w]
      rfl
     refine take_ (i := 3) (N := some 10) (v := ?_) (a' := ?_) (bb [4, 1, 3, 38]) rfl rfl (by kernel_rfl) (fun _ _ _ h => h) (Or.inl ⟨by rfl, ?_⟩) hHeld ?_ ?_
     rotate_left
     ·rintro w' ⟨s0, s1, s2, s3⟩
      go_simp
      with_reducible rfl
     rotate_left
     ·simp only [Act.put, List.setIfInBounds_toArray, List.set_cons_zero, List.set_cons_succ, i64_w, i32_w]
      rfl
     refine pure_ (i := 4) (N := some 11) (v := ?_) (a' := ?_) (bb [8, 38]) rfl rfl (by kernel_rfl) (fun _ _ _ h => h) (Or.inl ⟨by rfl, ?_⟩) ?_ ?_
     rotate_left
     ·intro w'
      go_simp
      with_reducible rfl
     rotate_left
     ·simp only [Act.put, List.setIfInBounds_toArray, List.set_cons_zero, List.set_cons_succ, i64_w, i32_w]
      rfl
     refine take_ (i := 8) (N := some 15) (v := ?_) (a' := ?_) (bb [9, 37]) rfl rfl (by kernel_rfl) (fun _ _ _ h => h) (Or.inl ⟨by rfl, ?_⟩) hHeld ?_ ?_
     rotate_left
     ·rintro w' ⟨s0, s1, s2, s3⟩
      go_simp
      with_reducible rfl
     rotate_left
     ·simp only [Act.put, List.setIfInBounds_toArray, List.set_cons_zero, List.set_cons_succ, i64_w, i32_w]
      rfl
     refine pure_ (i := 9) (N := some 16) (v := ?_) (a' := ?_) (bb [10, 36]) rfl rfl (by kernel_rfl) (fun _ _ _ h => h) (Or.inl ⟨by rfl, ?_⟩) ?_ ?_
     rotate_left
     ·intro w'
      go_simp
      with_reducible rfl
     rotate_left
     ·simp only [Act.put, List.setIfInBounds_toArray, List.set_cons_zero, List.set_cons_succ, i64_w, i32_w]
      rfl
     refine pure_ (i := 10) (N := some 17) (v := ?_) (a' := ?_) (bb [11, 35]) rfl rfl (by kernel_rfl) (fun _ _ _ h => h) (Or.inl ⟨by rfl, ?_⟩) ?_ ?_
     rotate_left
     ·intro w'
      go_simp
      with_reducible rfl
     rotate_left
     ·simp only [Act.put, List.setIfInBounds_toArray, List.set_cons_zero, List.set_cons_succ, i64_w, i32_w]
      rfl
     refine pure_ (i := 11) (N := some 18) (v := ?_) (a' := ?_) (bb [12, 34]) rfl rfl (by kernel_rfl) (fun _ _ _ h => h) (Or.inl ⟨by rfl, ?_⟩) ?_ ?_
     rotate_left
     ·intro w'
      go_simp
      with_reducible rfl
     rotate_left
     ·simp only [Act.put, List.setIfInBounds_toArray, List.set_cons_zero, List.set_cons_succ, i64_w, i32_w]
      rfl
     refine pure_ (i := 12) (N := some 19) (v := ?_) (a' := ?_) (bb [13, 33]) rfl rfl (by kernel_rfl) (fun _ _ _ h => h) (Or.inl ⟨by rfl, ?_⟩) ?_ ?_
     rotate_left
     ·intro w'
      go_simp
      with_reducible rfl
     rotate_left
     ·simp only [Act.put, List.setIfInBounds_toArray, List.set_cons_zero, List.set_cons_succ, i64_w, i32_w]
      rfl
     refine pure_ (i := 13) (N := some 20) (v := ?_) (a' := ?_) (bb [14, 32]) rfl rfl (by kernel_rfl) (fun _ _ _ h => h) (Or.inl ⟨by rfl, ?_⟩) ?_ ?_
     rotate_left
     ·intro w'
      go_simp
      with_reducible rfl
     rotate_left
     ·simp only [Act.put, List.setIfInBounds_toArray, List.set_cons_zero, List.set_cons_succ, i64_w, i32_w]
      rfl
     refine pure_ (i := 15) (N := some 22) (v := ?_) (a' := ?_) (bb [14, 1, 1, 30]) rfl rfl (by kernel_rfl) (fun _ _ _ h => h) (Or.inl ⟨by rfl, ?_⟩) ?_ ?_
     rotate_left
     ·intro w'
      go_simp
      with_reducible rfl
     rotate_left
     ·simp only [Act.put, List.setIfInBounds_toArray, List.set_cons_zero, List.set_cons_succ, i64_w, i32_w]
      rfl
     refine pure_ (i := 16) (N := some 23) (v := ?_) (a' := ?_) (bb [14, 1, 2, 29]) rfl rfl (by kernel_rfl) (fun _ _ _ h => h) (Or.inl ⟨by rfl, ?_⟩) ?_ ?_
     rotate_left
     ·intro w'
      go_simp
      with_reducible rfl
     rotate_left
     ·simp only [Act.put, List.setIfInBounds_toArray, List.set_cons_zero, List.set_cons_succ, i64_w, i32_w]
      rfl
     refine pure_ (i := 17) (N := some 24) (v := ?_) (a' := ?_) (bb [14, 1, 3, 28]) rfl rfl (by kernel_rfl) (fun _ _ _ h => h) (Or.inl ⟨by rfl, ?_⟩) ?_ ?_
     rotate_left
     ·intro w'
      go_simp
      with_reducible rfl
     rotate_left
     ·simp only [Act.put, List.setIfInBounds_toArray, List.set_cons_zero, List.set_cons_succ, i64_w, i32_w]
      rfl
     refine pure_ (i := 19) (N := some 26) (v := ?_) (a' := ?_) (bb [14, 1, 3, 1, 1, 26]) rfl rfl (by kernel_rfl) (fun _ _ _ h => h) (Or.inl ⟨by rfl, ?_⟩) ?_ ?_
     rotate_left
     ·intro w'
      go_simp
      with_reducible rfl
     rotate_left
     ·simp only [Act.put, List.setIfInBounds_toArray, List.set_cons_zero, List.set_cons_succ, i64_w, i32_w]
      rfl
     refine pure_ (i := 20) (N := some 27) (v := ?_) (a' := ?_) (bb [14, 1, 3, 1, 2, 25]) rfl rfl (by kernel_rfl) (fun _ _ _ h => h) (Or.inl ⟨by rfl, ?_⟩) ?_ ?_
     rotate_left
     ·intro w'
      go_simp
      with_reducible rfl
     rotate_left
     ·simp only [Act.put, List.setIfInBounds_toArray, List.set_cons_zero, List.set_cons_succ, i64_w, i32_w]
      rfl
     refine pure_ (i := 21) (N := some 28) (v := ?_) (a' := ?_) (bb [14, 1, 3, 1, 3, 24]) rfl rfl (by kernel_rfl) (fun _ _ _ h => h) (Or.inl ⟨by rfl, ?_⟩) ?_ ?_
     rotate_left
     ·intro w'
      go_simp
      with_reducible rfl
     rotate_left
     ·simp only [Act.put, List.setIfInBounds_toArray, List.set_cons_zero, List.set_cons_succ, i64_w, i32_w]
      rfl
     refine take_ (i := 14) (N := some 21) (v := ?_) (a' := ?_) (bb [18, 1, 3, 24]) rfl rfl (by kernel_rfl) (fun _ _ _ h => h) (Or.inl ⟨by rfl, ?_⟩) hHeld ?_ ?_
     rotate_left
     ·rintro w' ⟨s0, s1, s2, s3⟩
      go_simp
      with_reducible rfl
     rotate_left
     ·simp only [Act.put, List.setIfInBounds_toArray, List.set_cons_zero, List.set_cons_succ, i64_w, i32_w]
      rfl
     refine take_ (i := 18) (N := some 25) (v := ?_) (a' := ?_) (bb [22, 24]) rfl rfl (by kernel_rfl) (fun _ _ _ h => h) (Or.inl ⟨by rfl, ?_⟩) hHeld ?_ ?_
     rotate_left
     ·rintro w' ⟨s0, s1, s2, s3⟩
      go_simp
      with_reducible rfl
     rotate_left
     ·simp only [Act.put, List.setIfInBounds_toArray, List.set_cons_zero, List.set_cons_succ, i64_w, i32_w]
      rfl
     refine take_ (i := 22) (N := some 29) (v := ?_) (a' := ?_) (bb [23, 23]) rfl rfl (by kernel_rfl) (fun _ _ _ h => h) (Or.inl ⟨by rfl, ?_⟩) hHeld ?_ ?_
     rotate_left
     ·rintro w' ⟨s0, s1, s2, s3⟩
      go_simp
      with_reducible rfl
     rotate_left
     ·simp only [Act.put, List.setIfInBounds_toArray, List.set_cons_zero, List.set_cons_succ, i64_w, i32_w]
      rfl
     refine pure_ (i := 23) (N := some 30) (v := ?_) (a' := ?_) (bb [24, 22]) rfl rfl (by kernel_rfl) (fun _ _ _ h => h) (Or.inl ⟨by rfl, ?_⟩) ?_ ?_
     rotate_left
     ·intro w'
      go_simp
      with_reducible rfl
     rotate_left
     ·simp only [Act.put, List.setIfInBounds_toArray, List.set_cons_zero, List.set_cons_succ, i64_w, i32_w]
      rfl
     refine one_ (i := 24) (N := some 31) (bb [25, 21]) rfl rfl (by kernel_rfl) (by decide) (fun K hK => ?_)
     refine goes_ Tryd.func83 (by kernel_rfl) rfl #[.string (text.extract r w)] (by rfl) rfl rfl (by simp only [List.map_toArray, List.map_cons, List.map_nil]; rfl) ?_
     with_reducible refine (DEC.out _ (below_drew (Below.refl _ _))).mono ?_
     rintro e w3 ⟨rfl, hb⟩
     refine ⟨_, rfl, ?_⟩
     refine hK.out _ _ ⟨(pw_cell_below (keepS (below_drew (Below.refl _ _)) hb) c0), (pw_cell_below (keepS (below_drew (Below.refl _ _)) hb) c1), (pw_cell_below (keepS (below_drew (Below.refl _ _)) hb) c2), (pw_cell_below (keepS (below_drew (Below.refl _ _)) hb) c4)⟩ (fun hHeld => ?_)
     clear hK K
     refine norm_ (a' := ?_) ?_ ?_
     rotate_left
     ·show Act.put _ (some 31) _ = _
      simp only [Act.put, List.setIfInBounds_toArray, List.set_cons_zero, List.set_cons_succ, i64_w, i32_w]
      rfl
     refine pure_ (i := 25) (N := some 32) (v := ?_) (a' := ?_) (bb [26, 20]) rfl rfl (by kernel_rfl) (fun _ _ _ h => h) (Or.inl ⟨by rfl, ?_⟩) ?_ ?_
     rotate_left
     ·intro w'
      go_simp
      with_reducible rfl
     rotate_left
     ·simp only [Act.put, List.setIfInBounds_toArray, List.set_cons_zero, List.set_cons_succ, i64_w, i32_w]
      rfl
     refine pure_ (i := 26) (N := some 33) (v := ?_) (a' := ?_) (bb [27, 19]) rfl rfl (by kernel_rfl) (fun _ _ _ h => h) (Or.inl ⟨by rfl, ?_⟩) ?_ ?_
     rotate_left
     ·intro w'
      go_simp
      with_reducible rfl
     rotate_left
     ·simp only [Act.put, List.setIfInBounds_toArray, List.set_cons_zero, List.set_cons_succ, i64_w, i32_w]
      rfl
     refine pure_ (i := 27) (N := some 34) (v := ?_) (a' := ?_) (bb [28, 18]) rfl rfl (by kernel_rfl) (fun _ _ _ h => h) (Or.inl ⟨by rfl, ?_⟩) ?_ ?_
     rotate_left
     ·intro w'
      go_simp
      with_reducible rfl
     rotate_left
     ·simp only [Act.put, List.setIfInBounds_toArray, List.set_cons_zero, List.set_cons_succ, i64_w, i32_w]
      rfl
     refine pure_ (i := 28) (N := some 35) (v := ?_) (a' := ?_) (bb [29, 17]) rfl rfl (by kernel_rfl) (fun _ _ _ h => h) (Or.inl ⟨by rfl, ?_⟩) ?_ ?_
     rotate_left
     ·intro w'
      go_simp
      with_reducible rfl
     rotate_left
     ·simp only [Act.put, List.setIfInBounds_toArray, List.set_cons_zero, List.set_cons_succ, i64_w, i32_w]
      rfl
     refine pure_ (i := 29) (N := some 36) (v := ?_) (a' := ?_) (bb [30, 16]) rfl rfl (by kernel_rfl) (fun _ _ _ h => h) (Or.inl ⟨by rfl, ?_⟩) ?_ ?_
     rotate_left
     ·intro w'
      go_simp
      with_reducible rfl
     rotate_left
     ·simp only [Act.put, List.setIfInBounds_toArray, List.set_cons_zero, List.set_cons_succ, i64_w, i32_w]
      rfl
     refine pure_ (i := 30) (N := some 37) (v := ?_) (a' := ?_) (bb [31, 15]) rfl rfl (by kernel_rfl) (fun _ _ _ h => h) (Or.inl ⟨by rfl, ?_⟩) ?_ ?_
     rotate_left
     ·intro w'
      go_simp
      with_reducible rfl
     rotate_left
     ·simp only [Act.put, List.setIfInBounds_toArray, List.set_cons_zero, List.set_cons_succ, i64_w, i32_w]
      rfl
     refine take_ (i := 31) (N := some 38) (v := ?_) (a' := ?_) (bb [32, 14]) rfl rfl (by kernel_rfl) (fun _ _ _ h => h) (Or.inl ⟨by rfl, ?_⟩) hHeld ?_ ?_
     rotate_left
     ·rintro w' ⟨s0, s1, s2, s3⟩
      go_simp
      with_reducible rfl
     rotate_left
     ·simp only [Act.put, List.setIfInBounds_toArray, List.set_cons_zero, List.set_cons_succ, i64_w, i32_w]
      rfl
     refine pure_ (i := 32) (N := some 39) (v := ?_) (a' := ?_) (bb [33, 13]) rfl rfl (by kernel_rfl) (fun _ _ _ h => h) (Or.inl ⟨by rfl, ?_⟩) ?_ ?_
     rotate_left
     ·intro w'
      go_simp
      with_reducible rfl
     rotate_left
     ·simp only [Act.put, List.setIfInBounds_toArray, List.set_cons_zero, List.set_cons_succ, i64_w, i32_w]
      rfl
     refine pure_ (i := 33) (N := some 40) (v := ?_) (a' := ?_) (bb [34, 12]) rfl rfl (by kernel_rfl) (fun _ _ _ h => h) (Or.inl ⟨by rfl, ?_⟩) ?_ ?_
     rotate_left
     ·intro w'
      go_simp
      with_reducible rfl
     rotate_left
     ·simp only [Act.put, List.setIfInBounds_toArray, List.set_cons_zero, List.set_cons_succ, i64_w, i32_w]
      rfl
     refine pure_ (i := 34) (N := some 41) (v := ?_) (a' := ?_) (bb [35, 11]) rfl rfl (by kernel_rfl) (fun _ _ _ h => h) (Or.inl ⟨by rfl, ?_⟩) ?_ ?_
     rotate_left
     ·intro w'
      go_simp
      with_reducible rfl
     rotate_left
     ·simp only [Act.put, List.setIfInBounds_toArray, List.set_cons_zero, List.set_cons_succ, i64_w, i32_w]
      rfl
     refine pure_ (i := 35) (N := some 42) (v := ?_) (a' := ?_) (bb [36, 10]) rfl rfl (by kernel_rfl) (fun _ _ _ h => h) (Or.inl ⟨by rfl, ?_⟩) ?_ ?_
     rotate_left
     ·intro w'
      go_simp
      with_reducible rfl
     rotate_left
     ·simp only [Act.put, List.setIfInBounds_toArray, List.set_cons_zero, List.set_cons_succ, i64_w, i32_w]
      rfl
     refine pure_ (i := 36) (N := some 43) (v := ?_) (a' := ?_) (bb [37, 9]) rfl rfl (by kernel_rfl) (fun _ _ _ h => h) (Or.inl ⟨by rfl, ?_⟩) ?_ ?_
     rotate_left
     ·intro w'
      go_simp
      with_reducible rfl
     rotate_left
     ·simp only [Act.put, List.setIfInBounds_toArray, List.set_cons_zero, List.set_cons_succ, i64_w, i32_w]
      rfl
     refine pure_ (i := 37) (N := some 44) (v := ?_) (a' := ?_) (bb [38, 8]) rfl rfl (by kernel_rfl) (fun _ _ _ h => h) (Or.inl ⟨by rfl, ?_⟩) ?_ ?_
     rotate_left
     ·intro w'
      go_simp
      with_reducible rfl
     rotate_left
     ·simp only [Act.put, List.setIfInBounds_toArray, List.set_cons_zero, List.set_cons_succ, i64_w, i32_w]
      rfl
     refine pure_ (i := 39) (N := some 46) (v := ?_) (a' := ?_) (bb [38, 1, 1, 6]) rfl rfl (by kernel_rfl) (fun _ _ _ h => h) (Or.inl ⟨by rfl, ?_⟩) ?_ ?_
     rotate_left
     ·intro w'
      go_simp
      with_reducible rfl
     rotate_left
     ·simp only [Act.put, List.setIfInBounds_toArray, List.set_cons_zero, List.set_cons_succ, i64_w, i32_w]
      rfl
     refine pure_ (i := 40) (N := some 47) (v := ?_) (a' := ?_) (bb [38, 1, 2, 5]) rfl rfl (by kernel_rfl) (fun _ _ _ h => h) (Or.inl ⟨by rfl, ?_⟩) ?_ ?_
     rotate_left
     ·intro w'
      go_simp
      with_reducible rfl
     rotate_left
     ·simp only [Act.put, List.setIfInBounds_toArray, List.set_cons_zero, List.set_cons_succ, i64_w, i32_w]
      rfl
     refine pure_ (i := 41) (N := some 48) (v := ?_) (a' := ?_) (bb [38, 1, 3, 4]) rfl rfl (by kernel_rfl) (fun _ _ _ h => h) (Or.inl ⟨by rfl, ?_⟩) ?_ ?_
     rotate_left
     ·intro w'
      go_simp
      with_reducible rfl
     rotate_left
     ·simp only [Act.put, List.setIfInBounds_toArray, List.set_cons_zero, List.set_cons_succ, i64_w, i32_w]
      rfl
     refine take_ (i := 38) (N := some 45) (v := ?_) (a' := ?_) (bb [42, 4]) rfl rfl (by kernel_rfl) (fun _ _ _ h => h) (Or.inl ⟨by rfl, ?_⟩) hHeld ?_ ?_
     rotate_left
     ·rintro w' ⟨s0, s1, s2, s3⟩
      go_simp
      with_reducible rfl
     rotate_left
     ·simp only [Act.put, List.setIfInBounds_toArray, List.set_cons_zero, List.set_cons_succ, i64_w, i32_w]
      rfl
     refine take_ (i := 42) (N := some 49) (v := ?_) (a' := ?_) (bb [43, 3]) rfl rfl (by kernel_rfl) (fun _ _ _ h => h) (Or.inl ⟨by rfl, ?_⟩) hHeld ?_ ?_
     rotate_left
     ·rintro w' ⟨s0, s1, s2, s3⟩
      go_simp
      with_reducible rfl
     rotate_left
     ·simp only [Act.put, List.setIfInBounds_toArray, List.set_cons_zero, List.set_cons_succ, i64_w, i32_w]
      rfl
     refine pure_ (i := 43) (N := some 50) (v := ?_) (a' := ?_) (bb [44, 2]) rfl rfl (by kernel_rfl) (fun _ _ _ h => h) (Or.inl ⟨by rfl, ?_⟩) ?_ ?_
     rotate_left
     ·intro w'
      go_simp
      with_reducible rfl
     rotate_left
     ·simp only [Act.put, List.setIfInBounds_toArray, List.set_cons_zero, List.set_cons_succ, i64_w, i32_w]
      rfl
     refine pure_ (i := 44) (N := some 51) (v := ?_) (a' := ?_) (bb [45, 1]) rfl rfl (by kernel_rfl) (fun _ _ _ h => h) (Or.inl ⟨by rfl, ?_⟩) ?_ ?_
     rotate_left
     ·intro w'
      go_simp
      with_reducible rfl
     rotate_left
     ·simp only [Act.put, List.setIfInBounds_toArray, List.set_cons_zero, List.set_cons_succ, i64_w, i32_w]
      rfl
     refine pure_ (i := 45) (N := some 52) (v := ?_) (a' := ?_) (bb [46]) rfl rfl (by kernel_rfl) (fun _ _ _ h => h) (Or.inl ⟨by rfl, ?_⟩) ?_ ?_
     rotate_left
     ·intro w'
      go_simp
      with_reducible rfl
     rotate_left
     ·simp only [Act.put, List.setIfInBounds_toArray, List.set_cons_zero, List.set_cons_succ, i64_w, i32_w]
      rfl
     refine done_ (by kernel_rfl) ?_
     have hV := keepS (below_drew (Below.refl _ _)) hb
     have HY := Aside0.mk (show w3.heap[g]? = some (bufObj text r w l false) from blk_below HBK.out hV)
     have HBY := Aside0.mk (keepS HB.out hV)
     have HRY := Aside0.mk (HR.out.trans (grown_of_below hV (some g)))
     clear hV hb hHeld c0 c1 c2 c4 DEC
     generalize w3 = Y at HY HBY HRY ⊢
     by_cases hw : w = text.size
     ·have HW := Aside0.mk hw
      subst hw
      go_wp2_with (first | (go_at_call 78; refine (fill_full g text r l false _ HY.out).mono ?_; rintro e w2 ⟨rfl, hf2, hg2⟩; have HF2 := Aside0.mk hf2; have HG2 := Aside0.mk hg2; clear hf2 hg2))
      go_roundg (gk - 1)
      case measure => have := HK.out; simp at this; omega
      case rel => exact ⟨text.size, true, HF2, H1, H2, ⟨fun _ => rfl⟩, ⟨pw_below_grown HBY.out (some g) HBY.out.size HG2.out (fun k e => by cases e; exact HG.out)⟩, ⟨HRY.out.trans HG2.out⟩, ⟨by have := HK.out; simp at this ⊢; omega⟩⟩
     ·have HW := Aside0.mk hw
      have hwi : (w : Int) ≠ (text.size : Int) := by omega
      have FM := Aside0.mk (fill_more g text r w l false Y HY.out (by omega) (by have := H1.out; have := H2.out; omega) hwi HS.out)
      clear hw hwi
      go_wp2_with (first | (go_at_call 78; refine FM.out.mono ?_; rintro e w2 ⟨rfl, hf2, hg2⟩; have HF2 := Aside0.mk hf2; have HG2 := Aside0.mk hg2; clear hf2 hg2))
      go_roundg (gk - 1)
      case measure => have := HK.out; omega
      case rel =>
       have h2 := H2.out
       have h3 := HW.out
       refine ⟨min text.size (r + 4096), false, ⟨?_⟩, ⟨by have := H1.out; omega⟩, ⟨by omega⟩, ⟨fun e => by cases e⟩, ⟨pw_below_grown HBY.out (some g) HBY.out.size HG2.out (fun k e => by cases e; exact HG.out)⟩, ⟨HRY.out.trans HG2.out⟩, ⟨by have := HK.out; have := HA.out; simp at this ⊢; omega⟩⟩
       rw [HF2.out, show min (text.size : Int) ((r : Int) + 4096) = ((min text.size (r + 4096) : Nat) : Int) by omega]
    ·go_upto_region 1 with (fail)
     refine start_ (n := 46) (S := fun w' => w'.cell? ⟨g, 0, none⟩ = some (.string text) ∧ w'.cell? ⟨g, 1, none⟩ = some (.int .i64 (r : Int)) ∧ w'.cell? ⟨g, 2, none⟩ = some (.int .i64 (w : Int)) ∧ w'.cell? ⟨g, 4, none⟩ = some (.bool true)) (ds := []) (bb [0, 46]) (by kernel_rfl) rfl rfl ⟨(pw_cell_below (below_drew (Below.refl _ _)) c0), (pw_cell_below (below_drew (Below.refl _ _)) c1), (pw_cell_below (below_drew (Below.refl _ _)) c2), (pw_cell_below (below_drew (Below.refl _ _)) c4)⟩ (fun hHeld => ?_)
     refine pure_ (i := 0) (N := some 7) (v := ?_) (a' := ?_) (bb [1, 45]) rfl rfl (by kernel_rfl) (fun _ _ _ h => h) (Or.inl ⟨by rfl, ?_⟩) ?_ ?_
     rotate_left
     ·intro w'
      go_simp
      with_reducible rfl
     rotate_left
     ·simp only [Act.put, List.setIfInBounds_toArray, List.set_cons_zero, List.set_cons_succ, i64_w, i32_w]
      rfl
     refine pure_ (i := 1) (N := some 8) (v := ?_) (a' := ?_) (bb [2, 44]) rfl rfl (by kernel_rfl) (fun _ _ _ h => h) (Or.inl ⟨by rfl, ?_⟩) ?_ ?_
     rotate_left
     ·intro w'
      go_simp
      with_reducible rfl
     rotate_left
     ·simp only [Act.put, List.setIfInBounds_toArray, List.set_cons_zero, List.set_cons_succ, i64_w, i32_w]
      rfl
     refine pure_ (i := 2) (N := some 9) (v := ?_) (a' := ?_) (bb [3, 43]) rfl rfl (by kernel_rfl) (fun _ _ _ h => h) (Or.inl ⟨by rfl, ?_⟩) ?_ ?_
     rotate_left
     ·intro w'
      go_simp
      with_reducible rfl
     rotate_left
     ·simp only [Act.put, List.setIfInBounds_toArray, List.set_cons_zero, List.set_cons_succ, i64_w, i32_w]
      rfl
     refine pure_ (i := 5) (N := some 12) (v := ?_) (a' := ?_) (bb [3, 2, 1, 40]) rfl rfl (by kernel_rfl) (fun _ _ _ h => h) (Or.inl ⟨by rfl, ?_⟩) ?_ ?_
     rotate_left
     ·intro w'
      go_simp
      with_reducible rfl
     rotate_left
     ·simp only [Act.put, List.setIfInBounds_toArray, List.set_cons_zero, List.set_cons_succ, i64_w, i32_w]
      rfl
     refine pure_ (i := 6) (N := some 13) (v := ?_) (a' := ?_) (bb [3, 2, 2, 39]) rfl rfl (by kernel_rfl) (fun _ _ _ h => h) (Or.inl ⟨by rfl, ?_⟩) ?_ ?_
     rotate_left
     ·intro w'
      go_simp
      with_reducible rfl
     rotate_left
     ·simp only [Act.put, List.setIfInBounds_toArray, List.set_cons_zero, List.set_cons_succ, i64_w, i32_w]
      rfl
     refine pure_ (i := 7) (N := some 14) (v := ?_) (a' := ?_) (bb [3, 2, 3, 38]) rfl rfl (by kernel_rfl) (fun _ _ _ h => h) (Or.inl ⟨by rfl, ?_⟩) ?_ ?_
     rotate_left
     ·intro w'
      go_simp
      with_reducible rfl
     rotate_left
     ·simp only [Act.put, List.setIfInBounds_toArray, List.set_cons_zero, List.set_cons_succ, i64_w, i32_w]
      rfl
     refine take_ (i := 3) (N := some 10) (v := ?_) (a' := ?_) (bb [4, 1, 3, 38]) rfl rfl (by kernel_rfl) (fun _ _ _ h => h) (Or.inl ⟨by rfl, ?_⟩) hHeld ?_ ?_
     rotate_left
     ·rintro w' ⟨s0, s1, s2, s3⟩
      go_simp
      with_reducible rfl
     rotate_left
     ·simp only [Act.put, List.setIfInBounds_toArray, List.set_cons_zero, List.set_cons_succ, i64_w, i32_w]
      rfl
     refine pure_ (i := 4) (N := some 11) (v := ?_) (a' := ?_) (bb [8, 38]) rfl rfl (by kernel_rfl) (fun _ _ _ h => h) (Or.inl ⟨by rfl, ?_⟩) ?_ ?_
     rotate_left
     ·intro w'
      go_simp
      with_reducible rfl
     rotate_left
     ·simp only [Act.put, List.setIfInBounds_toArray, List.set_cons_zero, List.set_cons_succ, i64_w, i32_w]
      rfl
     refine take_ (i := 8) (N := some 15) (v := ?_) (a' := ?_) (bb [9, 37]) rfl rfl (by kernel_rfl) (fun _ _ _ h => h) (Or.inl ⟨by rfl, ?_⟩) hHeld ?_ ?_
     rotate_left
     ·rintro w' ⟨s0, s1, s2, s3⟩
      go_simp
      with_reducible rfl
     rotate_left
     ·simp only [Act.put, List.setIfInBounds_toArray, List.set_cons_zero, List.set_cons_succ, i64_w, i32_w]
      rfl
     refine pure_ (i := 9) (N := some 16) (v := ?_) (a' := ?_) (bb [10, 36]) rfl rfl (by kernel_rfl) (fun _ _ _ h => h) (Or.inl ⟨by rfl, ?_⟩) ?_ ?_
     rotate_left
     ·intro w'
      go_simp
      with_reducible rfl
     rotate_left
     ·simp only [Act.put, List.setIfInBounds_toArray, List.set_cons_zero, List.set_cons_succ, i64_w, i32_w]
      rfl
     refine pure_ (i := 10) (N := some 17) (v := ?_) (a' := ?_) (bb [11, 35]) rfl rfl (by kernel_rfl) (fun _ _ _ h => h) (Or.inl ⟨by rfl, ?_⟩) ?_ ?_
     rotate_left
     ·intro w'
      go_simp
      with_reducible rfl
     rotate_left
     ·simp only [Act.put, List.setIfInBounds_toArray, List.set_cons_zero, List.set_cons_succ, i64_w, i32_w]
      rfl
     refine pure_ (i := 11) (N := some 18) (v := ?_) (a' := ?_) (bb [12, 34]) rfl rfl (by kernel_rfl) (fun _ _ _ h => h) (Or.inl ⟨by rfl, ?_⟩) ?_ ?_
     rotate_left
     ·intro w'
      go_simp
      with_reducible rfl
     rotate_left
     ·simp only [Act.put, List.setIfInBounds_toArray, List.set_cons_zero, List.set_cons_succ, i64_w, i32_w]
      rfl
     refine pure_ (i := 12) (N := some 19) (v := ?_) (a' := ?_) (bb [13, 33]) rfl rfl (by kernel_rfl) (fun _ _ _ h => h) (Or.inl ⟨by rfl, ?_⟩) ?_ ?_
     rotate_left
     ·intro w'
      go_simp
      with_reducible rfl
     rotate_left
     ·simp only [Act.put, List.setIfInBounds_toArray, List.set_cons_zero, List.set_cons_succ, i64_w, i32_w]
      rfl
     refine pure_ (i := 13) (N := some 20) (v := ?_) (a' := ?_) (bb [14, 32]) rfl rfl (by kernel_rfl) (fun _ _ _ h => h) (Or.inl ⟨by rfl, ?_⟩) ?_ ?_
     rotate_left
     ·intro w'
      go_simp
      with_reducible rfl
     rotate_left
     ·simp only [Act.put, List.setIfInBounds_toArray, List.set_cons_zero, List.set_cons_succ, i64_w, i32_w]
      rfl
     refine pure_ (i := 15) (N := some 22) (v := ?_) (a' := ?_) (bb [14, 1, 1, 30]) rfl rfl (by kernel_rfl) (fun _ _ _ h => h) (Or.inl ⟨by rfl, ?_⟩) ?_ ?_
     rotate_left
     ·intro w'
      go_simp
      with_reducible rfl
     rotate_left
     ·simp only [Act.put, List.setIfInBounds_toArray, List.set_cons_zero, List.set_cons_succ, i64_w, i32_w]
      rfl
     refine pure_ (i := 16) (N := some 23) (v := ?_) (a' := ?_) (bb [14, 1, 2, 29]) rfl rfl (by kernel_rfl) (fun _ _ _ h => h) (Or.inl ⟨by rfl, ?_⟩) ?_ ?_
     rotate_left
     ·intro w'
      go_simp
      with_reducible rfl
     rotate_left
     ·simp only [Act.put, List.setIfInBounds_toArray, List.set_cons_zero, List.set_cons_succ, i64_w, i32_w]
      rfl
     refine pure_ (i := 17) (N := some 24) (v := ?_) (a' := ?_) (bb [14, 1, 3, 28]) rfl rfl (by kernel_rfl) (fun _ _ _ h => h) (Or.inl ⟨by rfl, ?_⟩) ?_ ?_
     rotate_left
     ·intro w'
      go_simp
      with_reducible rfl
     rotate_left
     ·simp only [Act.put, List.setIfInBounds_toArray, List.set_cons_zero, List.set_cons_succ, i64_w, i32_w]
      rfl
     refine pure_ (i := 19) (N := some 26) (v := ?_) (a' := ?_) (bb [14, 1, 3, 1, 1, 26]) rfl rfl (by kernel_rfl) (fun _ _ _ h => h) (Or.inl ⟨by rfl, ?_⟩) ?_ ?_
     rotate_left
     ·intro w'
      go_simp
      with_reducible rfl
     rotate_left
     ·simp only [Act.put, List.setIfInBounds_toArray, List.set_cons_zero, List.set_cons_succ, i64_w, i32_w]
      rfl
     refine pure_ (i := 20) (N := some 27) (v := ?_) (a' := ?_) (bb [14, 1, 3, 1, 2, 25]) rfl rfl (by kernel_rfl) (fun _ _ _ h => h) (Or.inl ⟨by rfl, ?_⟩) ?_ ?_
     rotate_left
     ·intro w'
      go_simp
      with_reducible rfl
     rotate_left
     ·simp only [Act.put, List.setIfInBounds_toArray, List.set_cons_zero, List.set_cons_succ, i64_w, i32_w]
      rfl
     refine pure_ (i := 21) (N := some 28) (v := ?_) (a' := ?_) (bb [14, 1, 3, 1, 3, 24]) rfl rfl (by kernel_rfl) (fun _ _ _ h => h) (Or.inl ⟨by rfl, ?_⟩) ?_ ?_
     rotate_left
     ·intro w'
      go_simp
      with_reducible rfl
     rotate_left
     ·simp only [Act.put, List.setIfInBounds_toArray, List.set_cons_zero, List.set_cons_succ, i64_w, i32_w]
      rfl
     refine take_ (i := 14) (N := some 21) (v := ?_) (a' := ?_) (bb [18, 1, 3, 24]) rfl rfl (by kernel_rfl) (fun _ _ _ h => h) (Or.inl ⟨by rfl, ?_⟩) hHeld ?_ ?_
     rotate_left
     ·rintro w' ⟨s0, s1, s2, s3⟩
      go_simp
      with_reducible rfl
     rotate_left
     ·simp only [Act.put, List.setIfInBounds_toArray, List.set_cons_zero, List.set_cons_succ, i64_w, i32_w]
      rfl
     refine take_ (i := 18) (N := some 25) (v := ?_) (a' := ?_) (bb [22, 24]) rfl rfl (by kernel_rfl) (fun _ _ _ h => h) (Or.inl ⟨by rfl, ?_⟩) hHeld ?_ ?_
     rotate_left
     ·rintro w' ⟨s0, s1, s2, s3⟩
      go_simp
      with_reducible rfl
     rotate_left
     ·simp only [Act.put, List.setIfInBounds_toArray, List.set_cons_zero, List.set_cons_succ, i64_w, i32_w]
      rfl
     refine take_ (i := 22) (N := some 29) (v := ?_) (a' := ?_) (bb [23, 23]) rfl rfl (by kernel_rfl) (fun _ _ _ h => h) (Or.inl ⟨by rfl, ?_⟩) hHeld ?_ ?_
     rotate_left
     ·rintro w' ⟨s0, s1, s2, s3⟩
      go_simp
      with_reducible rfl
     rotate_left
     ·simp only [Act.put, List.setIfInBounds_toArray, List.set_cons_zero, List.set_cons_succ, i64_w, i32_w]
      rfl
     refine pure_ (i := 23) (N := some 30) (v := ?_) (a' := ?_) (bb [24, 22]) rfl rfl (by kernel_rfl) (fun _ _ _ h => h) (Or.inl ⟨by rfl, ?_⟩) ?_ ?_
     rotate_left
     ·intro w'
      go_simp
      with_reducible rfl
     rotate_left
     ·simp only [Act.put, List.setIfInBounds_toArray, List.set_cons_zero, List.set_cons_succ, i64_w, i32_w]
      rfl
     refine one_ (i := 24) (N := some 31) (bb [25, 21]) rfl rfl (by kernel_rfl) (by decide) (fun K hK => ?_)
     refine goes_ Tryd.func83 (by kernel_rfl) rfl #[.string (text.extract r w)] (by rfl) rfl rfl (by simp only [List.map_toArray, List.map_cons, List.map_nil]; rfl) ?_
     with_reducible refine (DEC.out _ (below_drew (Below.refl _ _))).mono ?_
     rintro e w3 ⟨rfl, hb⟩
     refine ⟨_, rfl, ?_⟩
     refine hK.out _ _ ⟨(pw_cell_below (keepS (below_drew (Below.refl _ _)) hb) c0), (pw_cell_below (keepS (below_drew (Below.refl _ _)) hb) c1), (pw_cell_below (keepS (below_drew (Below.refl _ _)) hb) c2), (pw_cell_below (keepS (below_drew (Below.refl _ _)) hb) c4)⟩ (fun hHeld => ?_)
     clear hK K
     refine norm_ (a' := ?_) ?_ ?_
     rotate_left
     ·show Act.put _ (some 31) _ = _
      simp only [Act.put, List.setIfInBounds_toArray, List.set_cons_zero, List.set_cons_succ, i64_w, i32_w]
      rfl
     refine pure_ (i := 25) (N := some 32) (v := ?_) (a' := ?_) (bb [26, 20]) rfl rfl (by kernel_rfl) (fun _ _ _ h => h) (Or.inl ⟨by rfl, ?_⟩) ?_ ?_
     rotate_left
     ·intro w'
      go_simp
      with_reducible rfl
     rotate_left
     ·simp only [Act.put, List.setIfInBounds_toArray, List.set_cons_zero, List.set_cons_succ, i64_w, i32_w]
      rfl
     refine pure_ (i := 26) (N := some 33) (v := ?_) (a' := ?_) (bb [27, 19]) rfl rfl (by kernel_rfl) (fun _ _ _ h => h) (Or.inl ⟨by rfl, ?_⟩) ?_ ?_
     rotate_left
     ·intro w'
      go_simp
      with_reducible rfl
     rotate_left
     ·simp only [Act.put, List.setIfInBounds_toArray, List.set_cons_zero, List.set_cons_succ, i64_w, i32_w]
      rfl
     refine pure_ (i := 27) (N := some 34) (v := ?_) (a' := ?_) (bb [28, 18]) rfl rfl (by kernel_rfl) (fun _ _ _ h => h) (Or.inl ⟨by rfl, ?_⟩) ?_ ?_
     rotate_left
     ·intro w'
      go_simp
      with_reducible rfl
     rotate_left
     ·simp only [Act.put, List.setIfInBounds_toArray, List.set_cons_zero, List.set_cons_succ, i64_w, i32_w]
      rfl
     refine pure_ (i := 28) (N := some 35) (v := ?_) (a' := ?_) (bb [29, 17]) rfl rfl (by kernel_rfl) (fun _ _ _ h => h) (Or.inl ⟨by rfl, ?_⟩) ?_ ?_
     rotate_left
     ·intro w'
      go_simp
      with_reducible rfl
     rotate_left
     ·simp only [Act.put, List.setIfInBounds_toArray, List.set_cons_zero, List.set_cons_succ, i64_w, i32_w]
      rfl
     refine pure_ (i := 29) (N := some 36) (v := ?_) (a' := ?_) (bb [30, 16]) rfl rfl (by kernel_rfl) (fun _ _ _ h => h) (Or.inl ⟨by rfl, ?_⟩) ?_ ?_
     rotate_left
     ·intro w'
      go_simp
      with_reducible rfl
     rotate_left
     ·simp only [Act.put, List.setIfInBounds_toArray, List.set_cons_zero, List.set_cons_succ, i64_w, i32_w]
      rfl
     refine pure_ (i := 30) (N := some 37) (v := ?_) (a' := ?_) (bb [31, 15]) rfl rfl (by kernel_rfl) (fun _ _ _ h => h) (Or.inl ⟨by rfl, ?_⟩) ?_ ?_
     rotate_left
     ·intro w'
      go_simp
      with_reducible rfl
     rotate_left
     ·simp only [Act.put, List.setIfInBounds_toArray, List.set_cons_zero, List.set_cons_succ, i64_w, i32_w]
      rfl
     refine take_ (i := 31) (N := some 38) (v := ?_) (a' := ?_) (bb [32, 14]) rfl rfl (by kernel_rfl) (fun _ _ _ h => h) (Or.inl ⟨by rfl, ?_⟩) hHeld ?_ ?_
     rotate_left
     ·rintro w' ⟨s0, s1, s2, s3⟩
      go_simp
      with_reducible rfl
     rotate_left
     ·simp only [Act.put, List.setIfInBounds_toArray, List.set_cons_zero, List.set_cons_succ, i64_w, i32_w]
      rfl
     refine pure_ (i := 32) (N := some 39) (v := ?_) (a' := ?_) (bb [33, 13]) rfl rfl (by kernel_rfl) (fun _ _ _ h => h) (Or.inl ⟨by rfl, ?_⟩) ?_ ?_
     rotate_left
     ·intro w'
      go_simp
      with_reducible rfl
     rotate_left
     ·simp only [Act.put, List.setIfInBounds_toArray, List.set_cons_zero, List.set_cons_succ, i64_w, i32_w]
      rfl
     refine pure_ (i := 33) (N := some 40) (v := ?_) (a' := ?_) (bb [34, 12]) rfl rfl (by kernel_rfl) (fun _ _ _ h => h) (Or.inl ⟨by rfl, ?_⟩) ?_ ?_
     rotate_left
     ·intro w'
      go_simp
      with_reducible rfl
     rotate_left
     ·simp only [Act.put, List.setIfInBounds_toArray, List.set_cons_zero, List.set_cons_succ, i64_w, i32_w]
      rfl
     refine pure_ (i := 34) (N := some 41) (v := ?_) (a' := ?_) (bb [35, 11]) rfl rfl (by kernel_rfl) (fun _ _ _ h => h) (Or.inl ⟨by rfl, ?_⟩) ?_ ?_
     rotate_left
     ·intro w'
      go_simp
      with_reducible rfl
     rotate_left
     ·simp only [Act.put, List.setIfInBounds_toArray, List.set_cons_zero, List.set_cons_succ, i64_w, i32_w]
      rfl
     refine pure_ (i := 35) (N := some 42) (v := undef) (a' := ?_) (bb [36, 10]) rfl rfl (by kernel_rfl) (fun _ _ _ h => h) (Or.inr ⟨by rfl, rfl⟩) ?_ ?_
     rotate_left
     ·simp only [Act.put, List.setIfInBounds_toArray, List.set_cons_zero, List.set_cons_succ, i64_w, i32_w]
      rfl
     refine pure_ (i := 36) (N := some 43) (v := undef) (a' := ?_) (bb [37, 9]) rfl rfl (by kernel_rfl) (fun _ _ _ h => h) (Or.inr ⟨by rfl, rfl⟩) ?_ ?_
     rotate_left
     ·simp only [Act.put, List.setIfInBounds_toArray, List.set_cons_zero, List.set_cons_succ, i64_w, i32_w]
      rfl
     refine pure_ (i := 37) (N := some 44) (v := undef) (a' := ?_) (bb [38, 8]) rfl rfl (by kernel_rfl) (fun _ _ _ h => h) (Or.inr ⟨by rfl, rfl⟩) ?_ ?_
     rotate_left
     ·simp only [Act.put, List.setIfInBounds_toArray, List.set_cons_zero, List.set_cons_succ, i64_w, i32_w]
      rfl
     refine pure_ (i := 38) (N := some 45) (v := undef) (a' := ?_) (bb [39, 7]) rfl rfl (by kernel_rfl) (fun _ _ _ h => h) (Or.inr ⟨by rfl, rfl⟩) ?_ ?_
     rotate_left
     ·simp only [Act.put, List.setIfInBounds_toArray, List.set_cons_zero, List.set_cons_succ, i64_w, i32_w]
      rfl
     refine pure_ (i := 39) (N := some 46) (v := undef) (a' := ?_) (bb [40, 6]) rfl rfl (by kernel_rfl) (fun _ _ _ h => h) (Or.inr ⟨by rfl, rfl⟩) ?_ ?_
     rotate_left
     ·simp only [Act.put, List.setIfInBounds_toArray, List.set_cons_zero, List.set_cons_succ, i64_w, i32_w]
      rfl
     refine pure_ (i := 40) (N := some 47) (v := undef) (a' := ?_) (bb [41, 5]) rfl rfl (by kernel_rfl) (fun _ _ _ h => h) (Or.inr ⟨by rfl, rfl⟩) ?_ ?_
     rotate_left
     ·simp only [Act.put, List.setIfInBounds_toArray, List.set_cons_zero, List.set_cons_succ, i64_w, i32_w]
      rfl
     refine pure_ (i := 41) (N := some 48) (v := undef) (a' := ?_) (bb [42, 4]) rfl rfl (by kernel_rfl) (fun _ _ _ h => h) (Or.inr ⟨by rfl, rfl⟩) ?_ ?_
     rotate_left
     ·simp only [Act.put, List.setIfInBounds_toArray, List.set_cons_zero, List.set_cons_succ, i64_w, i32_w]
      rfl
     refine pure_ (i := 42) (N := some 49) (v := undef) (a' := ?_) (bb [43, 3]) rfl rfl (by kernel_rfl) (fun _ _ _ h => h) (Or.inr ⟨by rfl, rfl⟩) ?_ ?_
     rotate_left
     ·simp only [Act.put, List.setIfInBounds_toArray, List.set_cons_zero, List.set_cons_succ, i64_w, i32_w]
      rfl
     refine pure_ (i := 43) (N := some 50) (v := undef) (a' := ?_) (bb [44, 2]) rfl rfl (by kernel_rfl) (fun _ _ _ h => h) (Or.inr ⟨by rfl, rfl⟩) ?_ ?_
     rotate_left
     ·simp only [Act.put, List.setIfInBounds_toArray, List.set_cons_zero, List.set_cons_succ, i64_w, i32_w]
      rfl
     refine pure_ (i := 44) (N := some 51) (v := undef) (a' := ?_) (bb [45, 1]) rfl rfl (by kernel_rfl) (fun _ _ _ h => h) (Or.inr ⟨by rfl, rfl⟩) ?_ ?_
     rotate_left
     ·simp only [Act.put, List.setIfInBounds_toArray, List.set_cons_zero, List.set_cons_succ, i64_w, i32_w]
      rfl
     refine pure_ (i := 45) (N := some 52) (v := ?_) (a' := ?_) (bb [46]) rfl rfl (by kernel_rfl) (fun _ _ _ h => h) (Or.inl ⟨by rfl, ?_⟩) ?_ ?_
     rotate_left
     ·intro w'
      go_simp
      with_reducible rfl
     rotate_left
     ·simp only [Act.put, List.setIfInBounds_toArray, List.set_cons_zero, List.set_cons_succ, i64_w, i32_w]
      rfl
     refine done_ (by kernel_rfl) ?_
     have hV := keepS (below_drew (Below.refl _ _)) hb
     have HY := Aside0.mk (show w3.heap[g]? = some (bufObj text r w l true) from blk_below HBK.out hV)
     have HBY := Aside0.mk (keepS HB.out hV)
     have HRY := Aside0.mk (HR.out.trans (grown_of_below hV (some g)))
     clear hV hb hHeld c0 c1 c2 c4 DEC
     generalize w3 = Y at HY HBY HRY ⊢
     have HWE := Aside0.mk (H3.out rfl)
     by_cases hrw : r = w
     ·have HE := Aside0.mk (show r = w from hrw)
      clear hrw
      have y0 : Y.cell? ⟨g, 0, none⟩ = some (.string text) := (blk_cell HY.out 0).trans rfl
      have y1 : Y.cell? ⟨g, 1, none⟩ = some (.int .i64 r) := (blk_cell HY.out 1).trans rfl
      have y2 : Y.cell? ⟨g, 2, none⟩ = some (.int .i64 w) := (blk_cell HY.out 2).trans rfl
      have y3 : Y.cell? ⟨g, 3, none⟩ = some (.int .i64 l) := (blk_cell HY.out 3).trans rfl
      have y4 : Y.cell? ⟨g, 4, none⟩ = some (.bool true) := (blk_cell HY.out 4).trans rfl
      have yf1 := blk_frozen HY.out 1
      have yf3 := blk_frozen HY.out 3
      have yf4 := blk_frozen HY.out 4
      have HY3 := Aside0.mk (show (Y.setCell ⟨g, 3, none⟩ (.int .i64 r)).heap[g]? = some (bufObj text r w r true) from blk_put HY.out 3 _ rfl)
      have q0 : ((r : Int) == (w : Int)) = true := beq_iff_eq.mpr (by have := HE.out; omega)
      go_wp2
      go_quiet (fail)
      go_wp2
      go_ret3
      refine ⟨?_, ?_, .inl ⟨by have := HE.out; have := HWE.out; omega, rfl, ⟨w, false, ?_, by have := H1.out; omega, H2.out, fun e => by cases e⟩⟩⟩
      ·exact below_far HG.out (pw_below_drewN (below_far HG.out HBY.out) _)
      ·exact (HRY.out.trans ((grown_set Y g 3 _).trans (grown_of_below (pw_below_drewN (Below.refl _ _) nq) (some g)))).trans (grown_set _ g 4 _)
      ·exact blk_put (blk_drewN HY3.out nq) 4 _ rfl
     ·have HE := Aside0.mk (show r < w by have := H1.out; omega)
      clear hrw
      have y0 : Y.cell? ⟨g, 0, none⟩ = some (.string text) := (blk_cell HY.out 0).trans rfl
      have y1 : Y.cell? ⟨g, 1, none⟩ = some (.int .i64 r) := (blk_cell HY.out 1).trans rfl
      have y2 : Y.cell? ⟨g, 2, none⟩ = some (.int .i64 w) := (blk_cell HY.out 2).trans rfl
      have y3 : Y.cell? ⟨g, 3, none⟩ = some (.int .i64 l) := (blk_cell HY.out 3).trans rfl
      have y4 : Y.cell? ⟨g, 4, none⟩ = some (.bool true) := (blk_cell HY.out 4).trans rfl
      have yf1 := blk_frozen HY.out 1
      have yf3 := blk_frozen HY.out 3
      have yf4 := blk_frozen HY.out 4
      have HY3 := Aside0.mk (show (Y.setCell ⟨g, 3, none⟩ (.int .i64 r)).heap[g]? = some (bufObj text r w r true) from blk_put HY.out 3 _ rfl)
      have q0 : ((r : Int) == (w : Int)) = false := beq_eq_false_iff_ne.mpr (by have := HE.out; omega)
      have p0 : ((0 : Int) ≤ (r : Int)) = True := eq_true (by omega)
      have p1 : ((r : Int) ≤ (w : Int)) = True := eq_true (by have := H1.out; omega)
      have p2 : ((w : Int) ≤ (text.size : Int)) = True := eq_true (by have := H2.out; omega)
      go_wp2
      go_quiet (fail)
      generalize hZ : (Y.setCell ⟨g, 3, none⟩ (.int .i64 r)).drewN nq = Z
      have HZ := Aside0.mk (show Z.heap[g]? = some (bufObj text r w r true) by rw [← hZ]; exact blk_drewN HY3.out nq)
      have HBZ := Aside0.mk (show Below W0.heap.size W0 Z by rw [← hZ]; exact pw_below_drewN (below_far HG.out HBY.out) _)
      have HRZ := Aside0.mk (show W.grownBy Z (some g) by rw [← hZ]; exact (HRY.out.trans (grown_set Y g 3 _)).trans (grown_of_below (pw_below_drewN (Below.refl _ _) nq) (some g)))
      clear hZ y0 y1 y2 y3 y4 yf1 yf3 yf4
      have z0 : Z.cell? ⟨g, 0, none⟩ = some (.string text) := (blk_cell HZ.out 0).trans rfl
      have z1 : Z.cell? ⟨g, 1, none⟩ = some (.int .i64 r) := (blk_cell HZ.out 1).trans rfl
      have z2 : Z.cell? ⟨g, 2, none⟩ = some (.int .i64 w) := (blk_cell HZ.out 2).trans rfl
      obtain ⟨hrune, hle⟩ := rune_of text r w (by have := HE.out; omega) H2.out
      obtain ⟨c, hc⟩ : ∃ c, (Lib.decodeGo (text.extract r w)).1 = c := ⟨_, rfl⟩
      obtain ⟨n, hn⟩ : ∃ n, (Lib.decodeGo (text.extract r w)).2 = n := ⟨_, rfl⟩
      rw [hc, hn] at hrune
      rw [hn] at hle
      have HRU := Aside0.mk hrune
      have HLE := Aside0.mk hle
      clear hrune hle
      have dec : ∀ X, Below Z.heap.size Z X → Calls Tryd.prog 84 #[.string (text.extract r w)] X fun e w' => e = .returned (.tuple #[.int .i32 c, .int .i64 n]) ∧ Below X.heap.size X w' := fun X hX => by have := decode_call (text.extract r w) X (utab_below HT.out (below_then HBZ.out HBZ.out.size hX)); rw [hc, hn] at this; exact this
      have DEC := Aside0.mk dec
      clear dec hc hn
      go_wp2
      have KA : Aside0 (∀ X, Below Z.heap.size Z X → (Below Z.heap.size Z X ∧ X.cell? ⟨g, 0, none⟩ = some (.string text) ∧ X.cell? ⟨g, 1, none⟩ = some (.int .i64 r) ∧ X.cell? ⟨g, 2, none⟩ = some (.int .i64 w))) := ⟨fun X hX => ⟨hX, pw_cell_below hX z0, pw_cell_below hX z1, pw_cell_below hX z2⟩⟩
      go_region_held3 (fun X => Below Z.heap.size Z X ∧ X.cell? ⟨g, 0, none⟩ = some (.string text) ∧ X.cell? ⟨g, 1, none⟩ = some (.int .i64 r) ∧ X.cell? ⟨g, 2, none⟩ = some (.int .i64 w))
       (first | exact KA.out _ (below_drew (Below.refl _ _)) | (go_split_ands; exact KA.out _ (keepS (by assumption) hb')))
       (first | (go_at_call 84; (refine (DEC.out _ (by go_split_ands; assumption)).mono ?_); rintro e w' ⟨rfl, hb'⟩))
      have hV := (‹Below Z.heap.size Z w' ∧ _›).1
      have HV := Aside0.mk (blk_below HZ.out hV)
      have HBV := Aside0.mk (keepS HBZ.out hV)
      have HRV := Aside0.mk (HRZ.out.trans (grown_of_below hV (some g)))
      clear hV hb' ‹Below Z.heap.size Z w' ∧ _› z0 z1 z2 KA DEC
      have v1 : w'.cell? ⟨g, 1, none⟩ = some (.int .i64 r) := (blk_cell HV.out 1).trans rfl
      have vf1 := blk_frozen HV.out 1
      have e6 : IntKind.i64.wrap ((r : Int) + (n : Int)) = (r : Int) + (n : Int) := by have := HS.out; have := HLE.out; have := H2.out; rw [PrintLast.i64_w]; unfold wrap64; omega
      go_wp2
      go_ret3
      refine ⟨below_far HG.out HBV.out, HRV.out.trans (grown_set _ g 1 _), .inr ⟨by have := HE.out; have := H2.out; omega, c, n, HRU.out, rfl, ⟨w, true, ?_, HLE.out, H2.out, fun _ => HWE.out⟩⟩⟩
      exact (blk_put HV.out 1 _ rfl).trans (by rw [Int.natCast_add]; rfl)
   ·have HE := Aside0.mk (show r < w by
     have h8 := H1.out
     rcases Nat.lt_or_ge r w with h9 | h9
     ·exact h9
     ·have h10 : (text.extract r w).size = 0 := by rw [ByteArray.size_extract]; omega
      unfold fullF at hfr
      rw [h10] at hfr
      cases hfr)
    have DEC := Aside0.mk (show ∀ X, Below wr.heap.size wr X → Calls Tryd.prog 83 #[.string (text.extract r w)] X fun e w' => e = .returned (.bool true) ∧ Below X.heap.size X w' from fun X hX => by have h9 := FR X hX; rw [hfr] at h9; exact h9)
    clear FR hfr
    go_upto_region 1 with (fail)
    refine start_ (n := 46) (S := fun w' => w'.cell? ⟨g, 0, none⟩ = some (.string text) ∧ w'.cell? ⟨g, 1, none⟩ = some (.int .i64 (r : Int)) ∧ w'.cell? ⟨g, 2, none⟩ = some (.int .i64 (w : Int)) ∧ w'.cell? ⟨g, 4, none⟩ = some (.bool d)) (ds := []) (bb [0, 46]) (by kernel_rfl) rfl rfl ⟨(pw_cell_below (below_drew (Below.refl _ _)) c0), (pw_cell_below (below_drew (Below.refl _ _)) c1), (pw_cell_below (below_drew (Below.refl _ _)) c2), (pw_cell_below (below_drew (Below.refl _ _)) c4)⟩ (fun hHeld => ?_)
    refine pure_ (i := 0) (N := some 7) (v := ?_) (a' := ?_) (bb [1, 45]) rfl rfl (by kernel_rfl) (fun _ _ _ h => h) (Or.inl ⟨by rfl, ?_⟩) ?_ ?_
    rotate_left
    ·intro w'
     go_simp
     with_reducible rfl
    rotate_left
    ·simp only [Act.put, List.setIfInBounds_toArray, List.set_cons_zero, List.set_cons_succ, i64_w, i32_w]
     rfl
    refine pure_ (i := 1) (N := some 8) (v := ?_) (a' := ?_) (bb [2, 44]) rfl rfl (by kernel_rfl) (fun _ _ _ h => h) (Or.inl ⟨by rfl, ?_⟩) ?_ ?_
    rotate_left
    ·intro w'
     go_simp
     with_reducible rfl
    rotate_left
    ·simp only [Act.put, List.setIfInBounds_toArray, List.set_cons_zero, List.set_cons_succ, i64_w, i32_w]
     rfl
    refine pure_ (i := 2) (N := some 9) (v := ?_) (a' := ?_) (bb [3, 43]) rfl rfl (by kernel_rfl) (fun _ _ _ h => h) (Or.inl ⟨by rfl, ?_⟩) ?_ ?_
    rotate_left
    ·intro w'
     go_simp
     with_reducible rfl
    rotate_left
    ·simp only [Act.put, List.setIfInBounds_toArray, List.set_cons_zero, List.set_cons_succ, i64_w, i32_w]
     rfl
    refine pure_ (i := 5) (N := some 12) (v := ?_) (a' := ?_) (bb [3, 2, 1, 40]) rfl rfl (by kernel_rfl) (fun _ _ _ h => h) (Or.inl ⟨by rfl, ?_⟩) ?_ ?_
    rotate_left
    ·intro w'
     go_simp
     with_reducible rfl
    rotate_left
    ·simp only [Act.put, List.setIfInBounds_toArray, List.set_cons_zero, List.set_cons_succ, i64_w, i32_w]
     rfl
    refine pure_ (i := 6) (N := some 13) (v := ?_) (a' := ?_) (bb [3, 2, 2, 39]) rfl rfl (by kernel_rfl) (fun _ _ _ h => h) (Or.inl ⟨by rfl, ?_⟩) ?_ ?_
    rotate_left
    ·intro w'
     go_simp
     with_reducible rfl
    rotate_left
    ·simp only [Act.put, List.setIfInBounds_toArray, List.set_cons_zero, List.set_cons_succ, i64_w, i32_w]
     rfl
    refine pure_ (i := 7) (N := some 14) (v := ?_) (a' := ?_) (bb [3, 2, 3, 38]) rfl rfl (by kernel_rfl) (fun _ _ _ h => h) (Or.inl ⟨by rfl, ?_⟩) ?_ ?_
    rotate_left
    ·intro w'
     go_simp
     with_reducible rfl
    rotate_left
    ·simp only [Act.put, List.setIfInBounds_toArray, List.set_cons_zero, List.set_cons_succ, i64_w, i32_w]
     rfl
    refine take_ (i := 3) (N := some 10) (v := ?_) (a' := ?_) (bb [4, 1, 3, 38]) rfl rfl (by kernel_rfl) (fun _ _ _ h => h) (Or.inl ⟨by rfl, ?_⟩) hHeld ?_ ?_
    rotate_left
    ·rintro w' ⟨s0, s1, s2, s3⟩
     go_simp
     with_reducible rfl
    rotate_left
    ·simp only [Act.put, List.setIfInBounds_toArray, List.set_cons_zero, List.set_cons_succ, i64_w, i32_w]
     rfl
    refine pure_ (i := 4) (N := some 11) (v := ?_) (a' := ?_) (bb [8, 38]) rfl rfl (by kernel_rfl) (fun _ _ _ h => h) (Or.inl ⟨by rfl, ?_⟩) ?_ ?_
    rotate_left
    ·intro w'
     go_simp
     with_reducible rfl
    rotate_left
    ·simp only [Act.put, List.setIfInBounds_toArray, List.set_cons_zero, List.set_cons_succ, i64_w, i32_w]
     rfl
    refine take_ (i := 8) (N := some 15) (v := ?_) (a' := ?_) (bb [9, 37]) rfl rfl (by kernel_rfl) (fun _ _ _ h => h) (Or.inl ⟨by rfl, ?_⟩) hHeld ?_ ?_
    rotate_left
    ·rintro w' ⟨s0, s1, s2, s3⟩
     go_simp
     with_reducible rfl
    rotate_left
    ·simp only [Act.put, List.setIfInBounds_toArray, List.set_cons_zero, List.set_cons_succ, i64_w, i32_w]
     rfl
    refine pure_ (i := 9) (N := some 16) (v := ?_) (a' := ?_) (bb [10, 36]) rfl rfl (by kernel_rfl) (fun _ _ _ h => h) (Or.inl ⟨by rfl, ?_⟩) ?_ ?_
    rotate_left
    ·intro w'
     go_simp
     with_reducible rfl
    rotate_left
    ·simp only [Act.put, List.setIfInBounds_toArray, List.set_cons_zero, List.set_cons_succ, i64_w, i32_w]
     rfl
    refine pure_ (i := 10) (N := some 17) (v := ?_) (a' := ?_) (bb [11, 35]) rfl rfl (by kernel_rfl) (fun _ _ _ h => h) (Or.inl ⟨by rfl, ?_⟩) ?_ ?_
    rotate_left
    ·intro w'
     go_simp
     with_reducible rfl
    rotate_left
    ·simp only [Act.put, List.setIfInBounds_toArray, List.set_cons_zero, List.set_cons_succ, i64_w, i32_w]
     rfl
    refine pure_ (i := 11) (N := some 18) (v := ?_) (a' := ?_) (bb [12, 34]) rfl rfl (by kernel_rfl) (fun _ _ _ h => h) (Or.inl ⟨by rfl, ?_⟩) ?_ ?_
    rotate_left
    ·intro w'
     go_simp
     with_reducible rfl
    rotate_left
    ·simp only [Act.put, List.setIfInBounds_toArray, List.set_cons_zero, List.set_cons_succ, i64_w, i32_w]
     rfl
    refine pure_ (i := 12) (N := some 19) (v := ?_) (a' := ?_) (bb [13, 33]) rfl rfl (by kernel_rfl) (fun _ _ _ h => h) (Or.inl ⟨by rfl, ?_⟩) ?_ ?_
    rotate_left
    ·intro w'
     go_simp
     with_reducible rfl
    rotate_left
    ·simp only [Act.put, List.setIfInBounds_toArray, List.set_cons_zero, List.set_cons_succ, i64_w, i32_w]
     rfl
    refine pure_ (i := 13) (N := some 20) (v := ?_) (a' := ?_) (bb [14, 32]) rfl rfl (by kernel_rfl) (fun _ _ _ h => h) (Or.inl ⟨by rfl, ?_⟩) ?_ ?_
    rotate_left
    ·intro w'
     go_simp
     with_reducible rfl
    rotate_left
    ·simp only [Act.put, List.setIfInBounds_toArray, List.set_cons_zero, List.set_cons_succ, i64_w, i32_w]
     rfl
    refine pure_ (i := 15) (N := some 22) (v := ?_) (a' := ?_) (bb [14, 1, 1, 30]) rfl rfl (by kernel_rfl) (fun _ _ _ h => h) (Or.inl ⟨by rfl, ?_⟩) ?_ ?_
    rotate_left
    ·intro w'
     go_simp
     with_reducible rfl
    rotate_left
    ·simp only [Act.put, List.setIfInBounds_toArray, List.set_cons_zero, List.set_cons_succ, i64_w, i32_w]
     rfl
    refine pure_ (i := 16) (N := some 23) (v := ?_) (a' := ?_) (bb [14, 1, 2, 29]) rfl rfl (by kernel_rfl) (fun _ _ _ h => h) (Or.inl ⟨by rfl, ?_⟩) ?_ ?_
    rotate_left
    ·intro w'
     go_simp
     with_reducible rfl
    rotate_left
    ·simp only [Act.put, List.setIfInBounds_toArray, List.set_cons_zero, List.set_cons_succ, i64_w, i32_w]
     rfl
    refine pure_ (i := 17) (N := some 24) (v := ?_) (a' := ?_) (bb [14, 1, 3, 28]) rfl rfl (by kernel_rfl) (fun _ _ _ h => h) (Or.inl ⟨by rfl, ?_⟩) ?_ ?_
    rotate_left
    ·intro w'
     go_simp
     with_reducible rfl
    rotate_left
    ·simp only [Act.put, List.setIfInBounds_toArray, List.set_cons_zero, List.set_cons_succ, i64_w, i32_w]
     rfl
    refine pure_ (i := 19) (N := some 26) (v := ?_) (a' := ?_) (bb [14, 1, 3, 1, 1, 26]) rfl rfl (by kernel_rfl) (fun _ _ _ h => h) (Or.inl ⟨by rfl, ?_⟩) ?_ ?_
    rotate_left
    ·intro w'
     go_simp
     with_reducible rfl
    rotate_left
    ·simp only [Act.put, List.setIfInBounds_toArray, List.set_cons_zero, List.set_cons_succ, i64_w, i32_w]
     rfl
    refine pure_ (i := 20) (N := some 27) (v := ?_) (a' := ?_) (bb [14, 1, 3, 1, 2, 25]) rfl rfl (by kernel_rfl) (fun _ _ _ h => h) (Or.inl ⟨by rfl, ?_⟩) ?_ ?_
    rotate_left
    ·intro w'
     go_simp
     with_reducible rfl
    rotate_left
    ·simp only [Act.put, List.setIfInBounds_toArray, List.set_cons_zero, List.set_cons_succ, i64_w, i32_w]
     rfl
    refine pure_ (i := 21) (N := some 28) (v := ?_) (a' := ?_) (bb [14, 1, 3, 1, 3, 24]) rfl rfl (by kernel_rfl) (fun _ _ _ h => h) (Or.inl ⟨by rfl, ?_⟩) ?_ ?_
    rotate_left
    ·intro w'
     go_simp
     with_reducible rfl
    rotate_left
    ·simp only [Act.put, List.setIfInBounds_toArray, List.set_cons_zero, List.set_cons_succ, i64_w, i32_w]
     rfl
    refine take_ (i := 14) (N := some 21) (v := ?_) (a' := ?_) (bb [18, 1, 3, 24]) rfl rfl (by kernel_rfl) (fun _ _ _ h => h) (Or.inl ⟨by rfl, ?_⟩) hHeld ?_ ?_
    rotate_left
    ·rintro w' ⟨s0, s1, s2, s3⟩
     go_simp
     with_reducible rfl
    rotate_left
    ·simp only [Act.put, List.setIfInBounds_toArray, List.set_cons_zero, List.set_cons_succ, i64_w, i32_w]
     rfl
    refine take_ (i := 18) (N := some 25) (v := ?_) (a' := ?_) (bb [22, 24]) rfl rfl (by kernel_rfl) (fun _ _ _ h => h) (Or.inl ⟨by rfl, ?_⟩) hHeld ?_ ?_
    rotate_left
    ·rintro w' ⟨s0, s1, s2, s3⟩
     go_simp
     with_reducible rfl
    rotate_left
    ·simp only [Act.put, List.setIfInBounds_toArray, List.set_cons_zero, List.set_cons_succ, i64_w, i32_w]
     rfl
    refine take_ (i := 22) (N := some 29) (v := ?_) (a' := ?_) (bb [23, 23]) rfl rfl (by kernel_rfl) (fun _ _ _ h => h) (Or.inl ⟨by rfl, ?_⟩) hHeld ?_ ?_
    rotate_left
    ·rintro w' ⟨s0, s1, s2, s3⟩
     go_simp
     with_reducible rfl
    rotate_left
    ·simp only [Act.put, List.setIfInBounds_toArray, List.set_cons_zero, List.set_cons_succ, i64_w, i32_w]
     rfl
    refine pure_ (i := 23) (N := some 30) (v := ?_) (a' := ?_) (bb [24, 22]) rfl rfl (by kernel_rfl) (fun _ _ _ h => h) (Or.inl ⟨by rfl, ?_⟩) ?_ ?_
    rotate_left
    ·intro w'
     go_simp
     with_reducible rfl
    rotate_left
    ·simp only [Act.put, List.setIfInBounds_toArray, List.set_cons_zero, List.set_cons_succ, i64_w, i32_w]
     rfl
    refine one_ (i := 24) (N := some 31) (bb [25, 21]) rfl rfl (by kernel_rfl) (by decide) (fun K hK => ?_)
    refine goes_ Tryd.func83 (by kernel_rfl) rfl #[.string (text.extract r w)] (by rfl) rfl rfl (by simp only [List.map_toArray, List.map_cons, List.map_nil]; rfl) ?_
    with_reducible refine (DEC.out _ (below_drew (Below.refl _ _))).mono ?_
    rintro e w3 ⟨rfl, hb⟩
    refine ⟨_, rfl, ?_⟩
    refine hK.out _ _ ⟨(pw_cell_below (keepS (below_drew (Below.refl _ _)) hb) c0), (pw_cell_below (keepS (below_drew (Below.refl _ _)) hb) c1), (pw_cell_below (keepS (below_drew (Below.refl _ _)) hb) c2), (pw_cell_below (keepS (below_drew (Below.refl _ _)) hb) c4)⟩ (fun hHeld => ?_)
    clear hK K
    refine norm_ (a' := ?_) ?_ ?_
    rotate_left
    ·show Act.put _ (some 31) _ = _
     simp only [Act.put, List.setIfInBounds_toArray, List.set_cons_zero, List.set_cons_succ, i64_w, i32_w]
     rfl
    refine pure_ (i := 25) (N := some 32) (v := ?_) (a' := ?_) (bb [26, 20]) rfl rfl (by kernel_rfl) (fun _ _ _ h => h) (Or.inl ⟨by rfl, ?_⟩) ?_ ?_
    rotate_left
    ·intro w'
     go_simp
     with_reducible rfl
    rotate_left
    ·simp only [Act.put, List.setIfInBounds_toArray, List.set_cons_zero, List.set_cons_succ, i64_w, i32_w]
     rfl
    refine pure_ (i := 26) (N := some 33) (v := ?_) (a' := ?_) (bb [27, 19]) rfl rfl (by kernel_rfl) (fun _ _ _ h => h) (Or.inl ⟨by rfl, ?_⟩) ?_ ?_
    rotate_left
    ·intro w'
     go_simp
     with_reducible rfl
    rotate_left
    ·simp only [Act.put, List.setIfInBounds_toArray, List.set_cons_zero, List.set_cons_succ, i64_w, i32_w]
     rfl
    refine pure_ (i := 27) (N := some 34) (v := ?_) (a' := ?_) (bb [28, 18]) rfl rfl (by kernel_rfl) (fun _ _ _ h => h) (Or.inl ⟨by rfl, ?_⟩) ?_ ?_
    rotate_left
    ·intro w'
     go_simp
     with_reducible rfl
    rotate_left
    ·simp only [Act.put, List.setIfInBounds_toArray, List.set_cons_zero, List.set_cons_succ, i64_w, i32_w]
     rfl
    refine pure_ (i := 28) (N := some 35) (v := undef) (a' := ?_) (bb [29, 17]) rfl rfl (by kernel_rfl) (fun _ _ _ h => h) (Or.inr ⟨by rfl, rfl⟩) ?_ ?_
    rotate_left
    ·simp only [Act.put, List.setIfInBounds_toArray, List.set_cons_zero, List.set_cons_succ, i64_w, i32_w]
     rfl
    refine pure_ (i := 29) (N := some 36) (v := undef) (a' := ?_) (bb [30, 16]) rfl rfl (by kernel_rfl) (fun _ _ _ h => h) (Or.inr ⟨by rfl, rfl⟩) ?_ ?_
    rotate_left
    ·simp only [Act.put, List.setIfInBounds_toArray, List.set_cons_zero, List.set_cons_succ, i64_w, i32_w]
     rfl
    refine pure_ (i := 30) (N := some 37) (v := undef) (a' := ?_) (bb [31, 15]) rfl rfl (by kernel_rfl) (fun _ _ _ h => h) (Or.inr ⟨by rfl, rfl⟩) ?_ ?_
    rotate_left
    ·simp only [Act.put, List.setIfInBounds_toArray, List.set_cons_zero, List.set_cons_succ, i64_w, i32_w]
     rfl
    refine pure_ (i := 31) (N := some 38) (v := undef) (a' := ?_) (bb [32, 14]) rfl rfl (by kernel_rfl) (fun _ _ _ h => h) (Or.inr ⟨by rfl, rfl⟩) ?_ ?_
    rotate_left
    ·simp only [Act.put, List.setIfInBounds_toArray, List.set_cons_zero, List.set_cons_succ, i64_w, i32_w]
     rfl
    refine pure_ (i := 32) (N := some 39) (v := undef) (a' := ?_) (bb [33, 13]) rfl rfl (by kernel_rfl) (fun _ _ _ h => h) (Or.inr ⟨by rfl, rfl⟩) ?_ ?_
    rotate_left
    ·simp only [Act.put, List.setIfInBounds_toArray, List.set_cons_zero, List.set_cons_succ, i64_w, i32_w]
     rfl
    refine pure_ (i := 33) (N := some 40) (v := ?_) (a' := ?_) (bb [34, 12]) rfl rfl (by kernel_rfl) (fun _ _ _ h => h) (Or.inl ⟨by rfl, ?_⟩) ?_ ?_
    rotate_left
    ·intro w'
     go_simp
     with_reducible rfl
    rotate_left
    ·simp only [Act.put, List.setIfInBounds_toArray, List.set_cons_zero, List.set_cons_succ, i64_w, i32_w]
     rfl
    refine pure_ (i := 34) (N := some 41) (v := ?_) (a' := ?_) (bb [35, 11]) rfl rfl (by kernel_rfl) (fun _ _ _ h => h) (Or.inl ⟨by rfl, ?_⟩) ?_ ?_
    rotate_left
    ·intro w'
     go_simp
     with_reducible rfl
    rotate_left
    ·simp only [Act.put, List.setIfInBounds_toArray, List.set_cons_zero, List.set_cons_succ, i64_w, i32_w]
     rfl
    refine pure_ (i := 35) (N := some 42) (v := undef) (a' := ?_) (bb [36, 10]) rfl rfl (by kernel_rfl) (fun _ _ _ h => h) (Or.inr ⟨by rfl, rfl⟩) ?_ ?_
    rotate_left
    ·simp only [Act.put, List.setIfInBounds_toArray, List.set_cons_zero, List.set_cons_succ, i64_w, i32_w]
     rfl
    refine pure_ (i := 36) (N := some 43) (v := undef) (a' := ?_) (bb [37, 9]) rfl rfl (by kernel_rfl) (fun _ _ _ h => h) (Or.inr ⟨by rfl, rfl⟩) ?_ ?_
    rotate_left
    ·simp only [Act.put, List.setIfInBounds_toArray, List.set_cons_zero, List.set_cons_succ, i64_w, i32_w]
     rfl
    refine pure_ (i := 37) (N := some 44) (v := undef) (a' := ?_) (bb [38, 8]) rfl rfl (by kernel_rfl) (fun _ _ _ h => h) (Or.inr ⟨by rfl, rfl⟩) ?_ ?_
    rotate_left
    ·simp only [Act.put, List.setIfInBounds_toArray, List.set_cons_zero, List.set_cons_succ, i64_w, i32_w]
     rfl
    refine pure_ (i := 38) (N := some 45) (v := undef) (a' := ?_) (bb [39, 7]) rfl rfl (by kernel_rfl) (fun _ _ _ h => h) (Or.inr ⟨by rfl, rfl⟩) ?_ ?_
    rotate_left
    ·simp only [Act.put, List.setIfInBounds_toArray, List.set_cons_zero, List.set_cons_succ, i64_w, i32_w]
     rfl
    refine pure_ (i := 39) (N := some 46) (v := undef) (a' := ?_) (bb [40, 6]) rfl rfl (by kernel_rfl) (fun _ _ _ h => h) (Or.inr ⟨by rfl, rfl⟩) ?_ ?_
    rotate_left
    ·simp only [Act.put, List.setIfInBounds_toArray, List.set_cons_zero, List.set_cons_succ, i64_w, i32_w]
     rfl
    refine pure_ (i := 40) (N := some 47) (v := undef) (a' := ?_) (bb [41, 5]) rfl rfl (by kernel_rfl) (fun _ _ _ h => h) (Or.inr ⟨by rfl, rfl⟩) ?_ ?_
    rotate_left
    ·simp only [Act.put, List.setIfInBounds_toArray, List.set_cons_zero, List.set_cons_succ, i64_w, i32_w]
     rfl
    refine pure_ (i := 41) (N := some 48) (v := undef) (a' := ?_) (bb [42, 4]) rfl rfl (by kernel_rfl) (fun _ _ _ h => h) (Or.inr ⟨by rfl, rfl⟩) ?_ ?_
    rotate_left
    ·simp only [Act.put, List.setIfInBounds_toArray, List.set_cons_zero, List.set_cons_succ, i64_w, i32_w]
     rfl
    refine pure_ (i := 42) (N := some 49) (v := undef) (a' := ?_) (bb [43, 3]) rfl rfl (by kernel_rfl) (fun _ _ _ h => h) (Or.inr ⟨by rfl, rfl⟩) ?_ ?_
    rotate_left
    ·simp only [Act.put, List.setIfInBounds_toArray, List.set_cons_zero, List.set_cons_succ, i64_w, i32_w]
     rfl
    refine pure_ (i := 43) (N := some 50) (v := undef) (a' := ?_) (bb [44, 2]) rfl rfl (by kernel_rfl) (fun _ _ _ h => h) (Or.inr ⟨by rfl, rfl⟩) ?_ ?_
    rotate_left
    ·simp only [Act.put, List.setIfInBounds_toArray, List.set_cons_zero, List.set_cons_succ, i64_w, i32_w]
     rfl
    refine pure_ (i := 44) (N := some 51) (v := undef) (a' := ?_) (bb [45, 1]) rfl rfl (by kernel_rfl) (fun _ _ _ h => h) (Or.inr ⟨by rfl, rfl⟩) ?_ ?_
    rotate_left
    ·simp only [Act.put, List.setIfInBounds_toArray, List.set_cons_zero, List.set_cons_succ, i64_w, i32_w]
     rfl
    refine pure_ (i := 45) (N := some 52) (v := ?_) (a' := ?_) (bb [46]) rfl rfl (by kernel_rfl) (fun _ _ _ h => h) (Or.inl ⟨by rfl, ?_⟩) ?_ ?_
    rotate_left
    ·intro w'
     go_simp
     with_reducible rfl
    rotate_left
    ·simp only [Act.put, List.setIfInBounds_toArray, List.set_cons_zero, List.set_cons_succ, i64_w, i32_w]
     rfl
    refine done_ (by kernel_rfl) ?_
    have hV := keepS (below_drew (Below.refl _ _)) hb
    have HY := Aside0.mk (show w3.heap[g]? = some (bufObj text r w l d) from blk_below HBK.out hV)
    have HBY := Aside0.mk (keepS HB.out hV)
    have HRY := Aside0.mk (HR.out.trans (grown_of_below hV (some g)))
    clear hV hb hHeld c0 c1 c2 c4 DEC
    generalize w3 = Y at HY HBY HRY ⊢
    have y0 : Y.cell? ⟨g, 0, none⟩ = some (.string text) := (blk_cell HY.out 0).trans rfl
    have y1 : Y.cell? ⟨g, 1, none⟩ = some (.int .i64 r) := (blk_cell HY.out 1).trans rfl
    have y2 : Y.cell? ⟨g, 2, none⟩ = some (.int .i64 w) := (blk_cell HY.out 2).trans rfl
    have y3 : Y.cell? ⟨g, 3, none⟩ = some (.int .i64 l) := (blk_cell HY.out 3).trans rfl
    have y4 : Y.cell? ⟨g, 4, none⟩ = some (.bool d) := (blk_cell HY.out 4).trans rfl
    have yf1 := blk_frozen HY.out 1
    have yf3 := blk_frozen HY.out 3
    have yf4 := blk_frozen HY.out 4
    have HY3 := Aside0.mk (show (Y.setCell ⟨g, 3, none⟩ (.int .i64 r)).heap[g]? = some (bufObj text r w r d) from blk_put HY.out 3 _ rfl)
    have q0 : ((r : Int) == (w : Int)) = false := beq_eq_false_iff_ne.mpr (by have := HE.out; omega)
    have p0 : ((0 : Int) ≤ (r : Int)) = True := eq_true (by omega)
    have p1 : ((r : Int) ≤ (w : Int)) = True := eq_true (by have := H1.out; omega)
    have p2 : ((w : Int) ≤ (text.size : Int)) = True := eq_true (by have := H2.out; omega)
    go_wp2
    go_quiet (fail)
    generalize hZ : (Y.setCell ⟨g, 3, none⟩ (.int .i64 r)).drewN nq = Z
    have HZ := Aside0.mk (show Z.heap[g]? = some (bufObj text r w r d) by rw [← hZ]; exact blk_drewN HY3.out nq)
    have HBZ := Aside0.mk (show Below W0.heap.size W0 Z by rw [← hZ]; exact pw_below_drewN (below_far HG.out HBY.out) _)
    have HRZ := Aside0.mk (show W.grownBy Z (some g) by rw [← hZ]; exact (HRY.out.trans (grown_set Y g 3 _)).trans (grown_of_below (pw_below_drewN (Below.refl _ _) nq) (some g)))
    clear hZ y0 y1 y2 y3 y4 yf1 yf3 yf4
    have z0 : Z.cell? ⟨g, 0, none⟩ = some (.string text) := (blk_cell HZ.out 0).trans rfl
    have z1 : Z.cell? ⟨g, 1, none⟩ = some (.int .i64 r) := (blk_cell HZ.out 1).trans rfl
    have z2 : Z.cell? ⟨g, 2, none⟩ = some (.int .i64 w) := (blk_cell HZ.out 2).trans rfl
    obtain ⟨hrune, hle⟩ := rune_of text r w (by have := HE.out; omega) H2.out
    obtain ⟨c, hc⟩ : ∃ c, (Lib.decodeGo (text.extract r w)).1 = c := ⟨_, rfl⟩
    obtain ⟨n, hn⟩ : ∃ n, (Lib.decodeGo (text.extract r w)).2 = n := ⟨_, rfl⟩
    rw [hc, hn] at hrune
    rw [hn] at hle
    have HRU := Aside0.mk hrune
    have HLE := Aside0.mk hle
    clear hrune hle
    have dec : ∀ X, Below Z.heap.size Z X → Calls Tryd.prog 84 #[.string (text.extract r w)] X fun e w' => e = .returned (.tuple #[.int .i32 c, .int .i64 n]) ∧ Below X.heap.size X w' := fun X hX => by have := decode_call (text.extract r w) X (utab_below HT.out (below_then HBZ.out HBZ.out.size hX)); rw [hc, hn] at this; exact this
    have DEC := Aside0.mk dec
    clear dec hc hn
    go_wp2
    have KA : Aside0 (∀ X, Below Z.heap.size Z X → (Below Z.heap.size Z X ∧ X.cell? ⟨g, 0, none⟩ = some (.string text) ∧ X.cell? ⟨g, 1, none⟩ = some (.int .i64 r) ∧ X.cell? ⟨g, 2, none⟩ = some (.int .i64 w))) := ⟨fun X hX => ⟨hX, pw_cell_below hX z0, pw_cell_below hX z1, pw_cell_below hX z2⟩⟩
    go_region_held3 (fun X => Below Z.heap.size Z X ∧ X.cell? ⟨g, 0, none⟩ = some (.string text) ∧ X.cell? ⟨g, 1, none⟩ = some (.int .i64 r) ∧ X.cell? ⟨g, 2, none⟩ = some (.int .i64 w))
     (first | exact KA.out _ (below_drew (Below.refl _ _)) | (go_split_ands; exact KA.out _ (keepS (by assumption) hb')))
     (first | (go_at_call 84; (refine (DEC.out _ (by go_split_ands; assumption)).mono ?_); rintro e w' ⟨rfl, hb'⟩))
    have hV := (‹Below Z.heap.size Z w' ∧ _›).1
    have HV := Aside0.mk (blk_below HZ.out hV)
    have HBV := Aside0.mk (keepS HBZ.out hV)
    have HRV := Aside0.mk (HRZ.out.trans (grown_of_below hV (some g)))
    clear hV hb' ‹Below Z.heap.size Z w' ∧ _› z0 z1 z2 KA DEC
    have v1 : w'.cell? ⟨g, 1, none⟩ = some (.int .i64 r) := (blk_cell HV.out 1).trans rfl
    have vf1 := blk_frozen HV.out 1
    have e6 : IntKind.i64.wrap ((r : Int) + (n : Int)) = (r : Int) + (n : Int) := by have := HS.out; have := HLE.out; have := H2.out; rw [PrintLast.i64_w]; unfold wrap64; omega
    go_wp2
    go_ret3
    refine ⟨below_far HG.out HBV.out, HRV.out.trans (grown_set _ g 1 _), .inr ⟨by have := HE.out; have := H2.out; omega, c, n, HRU.out, rfl, ⟨w, d, ?_, HLE.out, H2.out, H3.out⟩⟩⟩
    exact (blk_put HV.out 1 _ rfl).trans (by rw [Int.natCast_add]; rfl)
theorem runeC_any (text : ByteArray) : RuneC text := fun W0 g r l W hT hB hg hb hsz => read_runeA0 W0 g text r l W hT hB hg hb hsz
end Go.Proofs.YtgnfapnnbcafbaaDoor.UN
end
section
/- FnUnitAgain: what is read from any text of at most 20,000 bytes, and that the law says yes whatever was read. Conditions: as each says. -/
namespace Go.Proofs.YtgnfapnnbcafbaaDoor.UN
open Go
set_option linter.unusedVariables false
theorem wp_any {C : Bs → Prop} (hC : ∀ l, C l) {T m : Nat} : ∀ (k : Nat) (q : K) (s : Bs) (d : List LD), mu q s < k → SzK T q s → SzD T d → d.length + k ≤ m → Wp C k q s d (fun _ d => SzD T d ∧ d.length ≤ m)
 | 0, _, _, _, h, _, _, _ => absurd h (Nat.not_lt_zero _)
 | k + 1, q, s, d, h, hz, hd, hm => by
  refine ⟨fun _ => ⟨hd, by omega⟩, ?_, fun o ho => ?_⟩
  ·cases q with
   | ss a => exact hC _
   | ov a n p => exact hC _
   | _ => trivial
  ·cases o with
   | done e => exact ⟨hd, by omega⟩
   | go q' s' x =>
    have h1 := mu_lt ho
    have h4 := step_x ho
    obtain ⟨h2, h3⟩ := step_sz hz ho
    exact wp_any hC k q' s' _ (by omega) h2 (SzD_app hd h3) (by rw [List.length_append]; omega)
theorem opts_sz {T : Nat} : ∀ (ds : List LD), SzD T ds → (optsOf ds).length ≤ ds.length ∧ ∀ o ∈ optsOf ds, o.s.length ≤ T ∧ o.n.length ≤ 4 * T ∧ o.v.length ≤ 2 * T + 1
 | [], _ => ⟨Nat.le_refl _, fun o ho => by cases ho⟩
 | .opt s n v :: r, h => by
  obtain ⟨h1, h2⟩ := opts_sz r (fun x hx => h x (List.mem_cons_of_mem _ hx))
  refine ⟨by rw [optsOf, List.length_cons, List.length_cons]; omega, fun o ho => ?_⟩
  rw [optsOf] at ho
  rcases List.mem_cons.1 ho with rfl | ho
  ·exact h _ (List.mem_cons_self ..)
  ·exact h2 o ho
 | .sec _ :: r, h => by
  obtain ⟨h1, h2⟩ := opts_sz r (fun x hx => h x (List.mem_cons_of_mem _ hx))
  exact ⟨by rw [optsOf, List.length_cons]; omega, fun o ho => h2 o (by rw [optsOf] at ho; exact ho)⟩
end Go.Proofs.YtgnfapnnbcafbaaDoor.UN
namespace Go.Proofs.YtgnfapnnbcafbaaDoor.GUL
open Go Go.RowKit Go.Proofs.YtgnfapnnbcafbaaDoorW.PrintWords Go.Proofs.YtgnfapnnbcafbaaDoorW Go.Proofs.YtgnfapnnbcafbaaDoorW.PrintLast Go.Proofs.YtgnfapnnbcafbaaDoor.UN
set_option linter.unusedVariables false
set_option linter.unusedSimpArgs false
def GoodL (l : List S30) (_ : Int) : Prop := l.length ≤ 2147483647 ∧ ∀ x ∈ l, Fit30 x
theorem read_any (a0 : ByteArray) (hs : (a0.size : Int) ≤ 20000) (W : World) (hT : TabW W) :
  Calls Tryd.prog 21 #[.string a0] W fun e w' => ∃ t137 t138, GoodL t137 t138 ∧ ∃ v139, e = .returned (.tuple #[v139, .int .i64 t138]) ∧ Kd.R k30 30 w' W.heap.size (fun _ => True) v139 t137 ∧ Below W.heap.size W w' := by
 have hl : a0.data.toList.length = a0.size := by rw [Array.length_toList]; rfl
 refine (read_call 80001 a0 (fun _ d => SzD 20000 d ∧ d.length ≤ 80001) W hT (runeC_any a0) (by omega) (wp_any trimC_any 80001 .ns _ [] (by unfold mu wt; rw [hl]; omega) (show a0.data.toList.length ≤ 20000 by omega) (SzD_nil _) (by simp)) (by omega)).mono ?_
 rintro e w' ⟨er, ds, ⟨h1, h2⟩, v, rfl, hR, hB⟩
 refine ⟨_, _, ?_, v, rfl, hR, hB⟩
 unfold listOf
 split
 ·exact ⟨by simp, fun x hx => by cases hx⟩
 ·obtain ⟨h3, h4⟩ := opts_sz ds h1
  refine ⟨by rw [List.length_map]; omega, fun x hx => ?_⟩
  obtain ⟨o, ho, rfl⟩ := List.mem_map.1 hx
  obtain ⟨k1, k2, k3⟩ := h4 o ho
  exact ⟨by show (sB o.s).size ≤ _; rw [sB_size]; omega, by show (sB o.n).size ≤ _; rw [sB_size]; omega, by show (sB o.v).size ≤ _; rw [sB_size]; omega⟩
theorem again_j0t (l : List S30) : Ev (fun k => laws_FnUnitAgain.j0 k l true) true := by
 refine Ev.step (f := fun _ => some true) (fun k => ?_) (Ev.now _)
 simp only [laws_FnUnitAgain.j0]
 rw [if_pos trivial, reads_yes]
 rfl
theorem again_j0f {l : List S30} (hP : Plains l) : Ev (fun k => laws_FnUnitAgain.j0 k l false) true := by
 refine Ev.step (f := fun k => (laws_grouped.f k l).bind fun t148 => ((laws_sameOptions.f k ((groupedL (l.map toO)).map toS) t148).bind fun t151 => (if t151 = true then some true else (some false)))) (fun k => ?_) ?_
 ·simp only [laws_FnUnitAgain.j0]
  rw [if_neg (by simp), write_is hP, Option.bind_some, back_is hP, Option.bind_some, reads_yes]
  rfl
 ·refine Ev.bind (f := fun k t148 => ((laws_sameOptions.f k ((groupedL (l.map toO)).map toS) t148).bind fun t151 => (if t151 = true then some true else (some false)))) (grouped_is l (by have := hP.1; omega)) ?_
  exact Ev.bind (f := fun k t151 => (if t151 = true then some true else (some false))) (same_self _ (by have := groupedL_len (l.map toO); have := hP.1; rw [List.length_map] at *; omega)) (Ev.now _)
theorem again_pure (l : List S30) (c : Int) (h : GoodL l c) : ∃ k, (if c = 0 then ((laws_plainOptions.f k l).bind fun t141 => (laws_FnUnitAgain.j0 k l (!t141))) else (laws_FnUnitAgain.j0 k l true)) = some true := by
 by_cases hc : c = 0
 ·simp only [if_pos hc]
  obtain ⟨b, hb, hq⟩ := plains_is l h.1 h.2
  refine (Ev.bind (a := b) (f := fun k t141 => (laws_FnUnitAgain.j0 k l (!t141))) hb ?_).rounds
  cases b with
  | false => exact again_j0t l
  | true => exact again_j0f (hq rfl)
 ·simp only [if_neg hc]
  exact (again_j0t l).rounds
theorem again_yes (a0 : ByteArray) (w : World) (hT : TabW w) : Calls Tryd.prog 6 #[.string a0] w fun e w' => e = .returned (.bool true) ∧ Below w.heap.size w w' :=
 again_calls a0 GoodL (read_any a0) again_pure true rfl w hT
end Go.Proofs.YtgnfapnnbcafbaaDoor.GUL
end
