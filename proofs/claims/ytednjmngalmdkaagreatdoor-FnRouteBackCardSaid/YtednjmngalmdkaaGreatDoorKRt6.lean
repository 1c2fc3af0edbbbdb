/- Texts of this claim, put together: PlRoute. Conditions: as each one says. -/
import Derived.Test.YtednjmngalmdkaaGreatDoorKRt0
import Derived.Test.YtednjmngalmdkaaGreatDoorKRt3
import Derived.Test.YtednjmngalmdkaaGreatDoorKRt4
import Derived.Test.YtednjmngalmdkaaGreatDoorKRt5
section
/- What /proc/net/route says, written, is read as its tree: on numbers and lists alone. Condition: rows as a call's arguments hold them (RowOk). -/
namespace Go.Proofs.YtednjmngalmdkaaGreatDoor.GPC
open Go Go.RowKit Go.Proofs.YtednjmngalmdkaaGreatDoorW.PrintWords Go.Proofs.YtednjmngalmdkaaGreatDoorW.PrintLast Go.Proofs.YtednjmngalmdkaaGreatDoor.PF
set_option linter.unusedVariables false
def ifC (v : Int) : Prop := (97 ≤ v ∧ v ≤ 122) ∨ (65 ≤ v ∧ v ≤ 90) ∨ (48 ≤ v ∧ v ≤ 57) ∨ v = 46 ∨ v = 45 ∨ v = 95
instance (v : Int) : Decidable (ifC v) := by unfold ifC; exact inferInstance
theorem ifName_l (l : List UInt8) (hl : l.length ≤ 4000000000) : ∀ (d i : Nat), i + d = l.length →
  ∃ b, Ev (fun k => spec_ifName.l0 k (strB l) (l.length : Int) (i : Int)) b ∧ (b = true → 1 ≤ l.length ∧ l.length ≤ 15 ∧ ∀ c ∈ l.drop i, ifC (c.toNat : Int))
 | 0, i, h => by
  by_cases h1 : (l.length : Int) ≥ 1
  ·refine ⟨_, Ev.step (f := fun _ => some (decide ((l.length : Int) ≤ 15))) (fun k => by simp only [spec_ifName.l0]; rw [if_neg (by omega), if_pos (by rw [strB_size]; exact h1), strB_size]) (Ev.now _), fun e => ⟨by omega, by have := of_decide_eq_true e; omega, fun c hc => ?_⟩⟩
   rw [List.drop_eq_nil_of_le (by omega)] at hc; cases hc
  ·exact ⟨false, Ev.step (f := fun _ => some false) (fun k => by simp only [spec_ifName.l0]; rw [if_neg (by omega), if_neg (by rw [strB_size]; exact h1)]) (Ev.now _), fun e => by cases e⟩
 | d + 1, i, h => by
  have hi : i < l.length := by omega
  have hb := bt_strB l i hi
  have hw : wrap64 ((i : Int) + 1) = ((i + 1 : Nat) : Int) := by unfold wrap64; omega
  have hst : ∀ k, spec_ifName.l0 (k + 1) (strB l) (l.length : Int) (i : Int) = if ifC (((l[i]).toNat : Nat) : Int) then spec_ifName.l0 k (strB l) (l.length : Int) ((i + 1 : Nat) : Int) else some false := fun k => by
   simp only [spec_ifName.l0]
   rw [if_pos (by omega), if_pos (by omega), if_pos (by rw [strB_size]; omega), hb, hw]
   generalize (((l[i]).toNat : Nat) : Int) = v
   generalize spec_ifName.l0 k (strB l) (l.length : Int) ((i + 1 : Nat) : Int) = A
   by_cases hc : ifC v
   ·rw [if_pos hc]
    unfold ifC at hc
    repeat' split
    all_goals first | rfl | (exfalso; omega)
   ·rw [if_neg hc]
    unfold ifC at hc
    repeat' split
    all_goals first | rfl | (exfalso; omega)
  by_cases hc : ifC (((l[i]).toNat : Nat) : Int)
  ·obtain ⟨b, hb2, hx⟩ := ifName_l l hl d (i + 1) (by omega)
   refine ⟨b, Ev.step (fun k => by rw [hst, if_pos hc]) hb2, fun e => ⟨(hx e).1, (hx e).2.1, fun c hm => ?_⟩⟩
   rw [List.drop_eq_getElem_cons hi] at hm
   rcases List.mem_cons.1 hm with rfl | hm
   ·exact hc
   ·exact (hx e).2.2 c hm
  ·exact ⟨false, Ev.step (f := fun _ => some false) (fun k => by rw [hst, if_neg hc]) (Ev.now _), fun e => by cases e⟩
theorem ifName_ev (l : List UInt8) (hl : l.length ≤ 4000000000) : ∃ b, Ev (fun k => spec_ifName.f k (strB l)) b ∧ (b = true → 1 ≤ l.length ∧ l.length ≤ 15 ∧ ∀ c ∈ l, ifC (c.toNat : Int)) := by
 obtain ⟨b, hb, hx⟩ := ifName_l l hl l.length 0 (by omega)
 exact ⟨b, Ev.congr (fun k => by simp only [spec_ifName.f, strB_size]; rfl) hb, fun e => by simpa using hx e⟩
abbrev RtT := List UInt8 × List Nat
structure RtGood (r : S31) (t : RtT) : Prop where
 s : r.f0 = strB t.1
 n : r.f1 = intsOf t.2
 p : 1 ≤ t.1.length
 q : t.1.length ≤ 15
 c : ∀ c ∈ t.1, ifC (c.toNat : Int)
 l : t.2.length = 10
 small : ∀ n ∈ t.2, n < 4294967296
 flag : t.2.getD 2 0 ≤ 9
theorem ten {l : List Nat} (h : l.length = 10) : ∃ n0 n1 n2 n3 n4 n5 n6 n7 n8 n9, l = [n0, n1, n2, n3, n4, n5, n6, n7, n8, n9] := by
 match l, h with
 | [n0, n1, n2, n3, n4, n5, n6, n7, n8, n9], _ => exact ⟨n0, n1, n2, n3, n4, n5, n6, n7, n8, n9, rfl⟩
theorem rt_fine (l : List S31) (hl : l.length ≤ 1000) (hf : ∀ r ∈ l, FitR r ∧ OP.RowOk r) : ∀ (d i : Nat), i + d = l.length →
  ∃ b, Ev (fun k => spec_routeFine.l0 k l (l.length : Int) (i : Int)) b ∧ (b = true → ∀ (j : Nat) (hj : j < l.length), i ≤ j → ∃ t, RtGood l[j] t)
 | 0, i, h => ⟨true, Ev.step (f := fun _ => some true) (fun k => by simp only [spec_routeFine.l0]; rw [if_neg (by omega)]) (Ev.now _), fun _ j hj h2 => by omega⟩
 | d + 1, i, h => by
  have hi : i < l.length := by omega
  have hw : wrap64 ((i : Int) + 1) = ((i + 1 : Nat) : Int) := by unfold wrap64; omega
  have hrd := grd31 l i hi
  obtain ⟨hfr, hro⟩ := hf l[i] (List.getElem_mem _)
  obtain ⟨a, ha⟩ : ∃ a, l[i].f0 = strB a := ⟨_, (strB_of _).symm⟩
  obtain ⟨ns, hns⟩ : ∃ ns, l[i].f1 = intsOf ns := ⟨_, gints_of _ hro⟩
  have hal : a.length ≤ 2147483647 := by have := hfr.s; rwa [ha, strB_size] at this
  have hnl : ns.length ≤ 2147483647 := by have := hfr.n; rwa [hns, intsOf_len] at this
  obtain ⟨b1, hb1, hx1⟩ := ifName_ev a (by omega)
  obtain ⟨b2, hb2, hx2⟩ := counted_ev (strB a) (intsOf ns) l[i].f2 10 0 (by rw [intsOf_len]; exact hnl)
  obtain ⟨b, hb, hx⟩ := rt_fine l hl hf d (i + 1) (by omega)
  have hst : ∀ k, spec_routeFine.l0 (k + 1) l (l.length : Int) (i : Int) = (spec_ifName.f k (strB a)).bind fun t567 => (if t567 = true then ((spec_counted.f k (strB a) (intsOf ns) l[i].f2 10 32 0).bind fun t568 => (if t568 = true then (if 2 < ((intsOf ns).length : Int) then (if rd (intsOf ns) 2 > 9 then some false else spec_routeFine.l0 k l (l.length : Int) ((i + 1 : Nat) : Int)) else none) else some false)) else some false) := fun k => by
   simp only [spec_routeFine.l0]
   rw [if_pos (by omega), if_pos (by omega), if_pos (by omega), hrd, ha, hns, hw]
  cases b1 with
  | false => exact ⟨false, Ev.step hst (evB hb1 (evN (by decide) (Ev.now _))), fun e => by cases e⟩
  | true =>
  cases b2 with
  | false => exact ⟨false, Ev.step hst (evB hb1 (evP rfl (evB hb2 (evN (by decide) (Ev.now _))))), fun e => by cases e⟩
  | true =>
  obtain ⟨h10, _, hsm⟩ := hx2 rfl
  rw [intsOf_len] at h10
  obtain ⟨g1, g2, g3⟩ := hx1 rfl
  have hlt : (2 : Int) < ((intsOf ns).length : Int) := by rw [intsOf_len]; omega
  have hn2 : ns.getD 2 0 = ns[2]'(by omega) := by simp [List.getD_eq_getElem?_getD, List.getElem?_eq_getElem (show 2 < ns.length by omega)]
  have hr2 : rd (intsOf ns) 2 = ((ns[2]'(by omega) : Nat) : Int) := rd_ints ns 2 (by omega)
  by_cases hfl : rd (intsOf ns) 2 > 9
  ·exact ⟨false, Ev.step hst (evB hb1 (evP rfl (evB hb2 (evP rfl (evG hlt (evP hfl (Ev.now _))))))), fun e => by cases e⟩
  ·refine ⟨b, Ev.step hst (evB hb1 (evP rfl (evB hb2 (evP rfl (evG hlt (evN hfl hb)))))), fun e j hj hij => ?_⟩
   by_cases hji : j = i
   ·subst hji
    exact ⟨(a, ns), ⟨ha, hns, g1, g2, g3, by simp only; omega, fun n hn => by
     have := hsm (n : Int) (by unfold intsOf; exact List.mem_map.2 ⟨n, hn, rfl⟩)
     omega, by rw [hn2]; omega⟩⟩
   ·exact hx e j hj (by omega)
def rtWords (ns : List Nat) : List (List UInt8) := [hexU 8 (ns.getD 0 0), hexU 8 (ns.getD 1 0), hexU 4 (ns.getD 2 0), digB 10 (ns.getD 3 0), digB 10 (ns.getD 4 0), digB 10 (ns.getD 5 0), hexU 8 (ns.getD 6 0), digB 10 (ns.getD 7 0), digB 10 (ns.getD 8 0), digB 10 (ns.getD 9 0)]
def rtLn (t : RtT) : List UInt8 := leftL 127 (t.1 ++ 9 :: Words [9] (rtWords t.2))
theorem left_l (least : Nat) (hl : least ≤ 1000) : ∀ (d : Nat) (l : List UInt8), least - l.length = d → Ev (fun k => spec_Left.l0 k (strB l) (least : Int)) (strB (leftL least l))
 | 0, l, h => by
  have e : leftL least l = l := by simp [leftL, h]
  rw [e]
  by_cases hc : (l.length : Int) < (least : Int)
  ·omega
  ·exact Ev.step (f := fun _ => some (strB l)) (fun k => by simp only [spec_Left.l0]; rw [if_neg (by rw [strB_size]; exact hc)]) (Ev.now _)
 | d + 1, l, h => by
  have ih := left_l least hl d (l ++ [32]) (by simp; omega)
  have e : leftL least (l ++ [32]) = leftL least l := by
   unfold leftL
   rw [List.length_append, List.length_singleton, List.append_assoc, List.singleton_append, ← List.replicate_succ]
   congr 2
   omega
  rw [e] at ih
  refine Ev.step (fun k => ?_) ih
  simp only [spec_Left.l0]
  rw [if_pos (by rw [strB_size]; omega), if_pos (by rw [strB_size]; omega)]
  rw [show (strB l ++ (⟨#[32]⟩ : ByteArray)) = strB (l ++ [32]) from strB_append l [32]]
theorem left_ev (least : Nat) (hl : least ≤ 1000) (l : List UInt8) : Ev (fun k => spec_Left.f k (strB l) (least : Int)) (strB (leftL least l)) := left_l least hl _ l rfl
theorem upU_len (m n : Nat) (h : n < 4294967296) (hm : m ≤ 8) : (hexU m n).length ≤ 8 := by unfold hexU; rw [upL_len]; exact hexP_len m n h hm
set_option maxHeartbeats 2000000 in
theorem rt_step (l : List S31) (hl : l.length ≤ 1000) (i : Nat) (hi : i < l.length) (acc : List UInt8) (hacc : acc.length ≤ 100000000000000000) (a : List UInt8) (n0 n1 n2 n3 n4 n5 n6 n7 n8 n9 : Nat) (hn : ∀ n ∈ [n0, n1, n2, n3, n4, n5, n6, n7, n8, n9], n < 4294967296) (g : RtGood l[i] (a, [n0, n1, n2, n3, n4, n5, n6, n7, n8, n9])) (k : Nat) (h0 : spec_upper.f k (n0 : Int) 8 = some (strB (hexU 8 n0))) (h1 : spec_upper.f k (n1 : Int) 8 = some (strB (hexU 8 n1))) (h2 : spec_upper.f k (n2 : Int) 4 = some (strB (hexU 4 n2))) (h3 : spec_Text.f k (n3 : Int) = some (strB (digB 10 n3))) (h4 : spec_Text.f k (n4 : Int) = some (strB (digB 10 n4))) (h5 : spec_Text.f k (n5 : Int) = some (strB (digB 10 n5))) (h6 : spec_upper.f k (n6 : Int) 8 = some (strB (hexU 8 n6))) (h7 : spec_Text.f k (n7 : Int) = some (strB (digB 10 n7))) (h8 : spec_Text.f k (n8 : Int) = some (strB (digB 10 n8))) (h9 : spec_Text.f k (n9 : Int) = some (strB (digB 10 n9))) (hlf : spec_Left.f k (strB (a ++ [9] ++ hexU 8 n0 ++ [9] ++ hexU 8 n1 ++ [9] ++ hexU 4 n2 ++ [9] ++ digB 10 n3 ++ [9] ++ digB 10 n4 ++ [9] ++ digB 10 n5 ++ [9] ++ hexU 8 n6 ++ [9] ++ digB 10 n7 ++ [9] ++ digB 10 n8 ++ [9] ++ digB 10 n9)) 127 = some (strB (rtLn (a, [n0, n1, n2, n3, n4, n5, n6, n7, n8, n9])))) :
  spec_RoutePrint.l0 (k + 1) (strB acc) l (l.length : Int) (i : Int) = spec_RoutePrint.l0 k (strB (acc ++ (rtLn (a, [n0, n1, n2, n3, n4, n5, n6, n7, n8, n9]) ++ [10]))) l (l.length : Int) ((i + 1 : Nat) : Int) := by
 have hw : wrap64 ((i : Int) + 1) = ((i + 1 : Nat) : Int) := by unfold wrap64; omega
 have hrd := grd31 l i hi
 have hq := g.q
 simp only at hq
 have l0 := upU_len 8 n0 (hn n0 (by simp)) (by omega)
 have l1 := upU_len 8 n1 (hn n1 (by simp)) (by omega)
 have l2 := upU_len 4 n2 (hn n2 (by simp)) (by omega)
 have l3 := dig_len n3 (by have := hn n3 (by simp); omega)
 have l4 := dig_len n4 (by have := hn n4 (by simp); omega)
 have l5 := dig_len n5 (by have := hn n5 (by simp); omega)
 have l6 := upU_len 8 n6 (hn n6 (by simp)) (by omega)
 have l7 := dig_len n7 (by have := hn n7 (by simp); omega)
 have l8 := dig_len n8 (by have := hn n8 (by simp); omega)
 have l9 := dig_len n9 (by have := hn n9 (by simp); omega)
 have hll : (rtLn (a, [n0, n1, n2, n3, n4, n5, n6, n7, n8, n9])).length ≤ 1000 := by
  simp only [rtLn, leftL, rtWords, Words, List.length_append, List.length_cons, List.length_nil, List.length_replicate, List.getD_cons_zero, List.getD_cons_succ]
  omega
 simp only [spec_RoutePrint.l0]
 rw [if_pos (by omega), if_pos (by omega), if_pos (by omega), hrd, g.s, g.n, hw]
 simp only
 rw [show (⟨#[9]⟩ : ByteArray) = strB [9] from rfl, show (⟨#[10]⟩ : ByteArray) = strB [10] from rfl]
 rw [if_pos (by rw [strB_size]; omega), strB_append]
 obtain ⟨X0, e0⟩ : ∃ X, X = a ++ [9] := ⟨_, rfl⟩
 have L0 : X0.length ≤ 16 := by rw [e0]; simp; omega
 rw [← e0] at hlf ⊢
 rw [if_pos (show (0 : Int) < ((intsOf [n0, n1, n2, n3, n4, n5, n6, n7, n8, n9]).length : Int) by rw [intsOf_len]; simp), show rd (intsOf [n0, n1, n2, n3, n4, n5, n6, n7, n8, n9]) 0 = (n0 : Int) from rfl, h0, Option.bind_some, if_pos (by rw [strB_size, strB_size]; omega), strB_append]
 obtain ⟨X1, e1⟩ : ∃ X, X = X0 ++ hexU 8 n0 := ⟨_, rfl⟩
 have L1 : X1.length ≤ 38 := by rw [e1]; simp; omega
 rw [← e1] at hlf ⊢
 rw [if_pos (by rw [strB_size]; omega), strB_append]
 obtain ⟨X2, e2⟩ : ∃ X, X = X1 ++ [9] := ⟨_, rfl⟩
 have L2 : X2.length ≤ 39 := by rw [e2]; simp; omega
 rw [← e2] at hlf ⊢
 rw [if_pos (show (1 : Int) < ((intsOf [n0, n1, n2, n3, n4, n5, n6, n7, n8, n9]).length : Int) by rw [intsOf_len]; simp), show rd (intsOf [n0, n1, n2, n3, n4, n5, n6, n7, n8, n9]) 1 = (n1 : Int) from rfl, h1, Option.bind_some, if_pos (by rw [strB_size, strB_size]; omega), strB_append]
 obtain ⟨X3, e3⟩ : ∃ X, X = X2 ++ hexU 8 n1 := ⟨_, rfl⟩
 have L3 : X3.length ≤ 60 := by rw [e3]; simp; omega
 rw [← e3] at hlf ⊢
 rw [if_pos (by rw [strB_size]; omega), strB_append]
 obtain ⟨X4, e4⟩ : ∃ X, X = X3 ++ [9] := ⟨_, rfl⟩
 have L4 : X4.length ≤ 61 := by rw [e4]; simp; omega
 rw [← e4] at hlf ⊢
 rw [if_pos (show (2 : Int) < ((intsOf [n0, n1, n2, n3, n4, n5, n6, n7, n8, n9]).length : Int) by rw [intsOf_len]; simp), show rd (intsOf [n0, n1, n2, n3, n4, n5, n6, n7, n8, n9]) 2 = (n2 : Int) from rfl, h2, Option.bind_some, if_pos (by rw [strB_size, strB_size]; omega), strB_append]
 obtain ⟨X5, e5⟩ : ∃ X, X = X4 ++ hexU 4 n2 := ⟨_, rfl⟩
 have L5 : X5.length ≤ 82 := by rw [e5]; simp; omega
 rw [← e5] at hlf ⊢
 rw [if_pos (by rw [strB_size]; omega), strB_append]
 obtain ⟨X6, e6⟩ : ∃ X, X = X5 ++ [9] := ⟨_, rfl⟩
 have L6 : X6.length ≤ 83 := by rw [e6]; simp; omega
 rw [← e6] at hlf ⊢
 rw [if_pos (show (3 : Int) < ((intsOf [n0, n1, n2, n3, n4, n5, n6, n7, n8, n9]).length : Int) by rw [intsOf_len]; simp), show rd (intsOf [n0, n1, n2, n3, n4, n5, n6, n7, n8, n9]) 3 = (n3 : Int) from rfl, h3, Option.bind_some, if_pos (by rw [strB_size, strB_size]; omega), strB_append]
 obtain ⟨X7, e7⟩ : ∃ X, X = X6 ++ digB 10 n3 := ⟨_, rfl⟩
 have L7 : X7.length ≤ 104 := by rw [e7]; simp; omega
 rw [← e7] at hlf ⊢
 rw [if_pos (by rw [strB_size]; omega), strB_append]
 obtain ⟨X8, e8⟩ : ∃ X, X = X7 ++ [9] := ⟨_, rfl⟩
 have L8 : X8.length ≤ 105 := by rw [e8]; simp; omega
 rw [← e8] at hlf ⊢
 rw [if_pos (show (4 : Int) < ((intsOf [n0, n1, n2, n3, n4, n5, n6, n7, n8, n9]).length : Int) by rw [intsOf_len]; simp), show rd (intsOf [n0, n1, n2, n3, n4, n5, n6, n7, n8, n9]) 4 = (n4 : Int) from rfl, h4, Option.bind_some, if_pos (by rw [strB_size, strB_size]; omega), strB_append]
 obtain ⟨X9, e9⟩ : ∃ X, X = X8 ++ digB 10 n4 := ⟨_, rfl⟩
 have L9 : X9.length ≤ 126 := by rw [e9]; simp; omega
 rw [← e9] at hlf ⊢
 rw [if_pos (by rw [strB_size]; omega), strB_append]
 obtain ⟨X10, e10⟩ : ∃ X, X = X9 ++ [9] := ⟨_, rfl⟩
 have L10 : X10.length ≤ 127 := by rw [e10]; simp; omega
 rw [← e10] at hlf ⊢
 rw [if_pos (show (5 : Int) < ((intsOf [n0, n1, n2, n3, n4, n5, n6, n7, n8, n9]).length : Int) by rw [intsOf_len]; simp), show rd (intsOf [n0, n1, n2, n3, n4, n5, n6, n7, n8, n9]) 5 = (n5 : Int) from rfl, h5, Option.bind_some, if_pos (by rw [strB_size, strB_size]; omega), strB_append]
 obtain ⟨X11, e11⟩ : ∃ X, X = X10 ++ digB 10 n5 := ⟨_, rfl⟩
 have L11 : X11.length ≤ 148 := by rw [e11]; simp; omega
 rw [← e11] at hlf ⊢
 rw [if_pos (by rw [strB_size]; omega), strB_append]
 obtain ⟨X12, e12⟩ : ∃ X, X = X11 ++ [9] := ⟨_, rfl⟩
 have L12 : X12.length ≤ 149 := by rw [e12]; simp; omega
 rw [← e12] at hlf ⊢
 rw [if_pos (show (6 : Int) < ((intsOf [n0, n1, n2, n3, n4, n5, n6, n7, n8, n9]).length : Int) by rw [intsOf_len]; simp), show rd (intsOf [n0, n1, n2, n3, n4, n5, n6, n7, n8, n9]) 6 = (n6 : Int) from rfl, h6, Option.bind_some, if_pos (by rw [strB_size, strB_size]; omega), strB_append]
 obtain ⟨X13, e13⟩ : ∃ X, X = X12 ++ hexU 8 n6 := ⟨_, rfl⟩
 have L13 : X13.length ≤ 170 := by rw [e13]; simp; omega
 rw [← e13] at hlf ⊢
 rw [if_pos (by rw [strB_size]; omega), strB_append]
 obtain ⟨X14, e14⟩ : ∃ X, X = X13 ++ [9] := ⟨_, rfl⟩
 have L14 : X14.length ≤ 171 := by rw [e14]; simp; omega
 rw [← e14] at hlf ⊢
 rw [if_pos (show (7 : Int) < ((intsOf [n0, n1, n2, n3, n4, n5, n6, n7, n8, n9]).length : Int) by rw [intsOf_len]; simp), show rd (intsOf [n0, n1, n2, n3, n4, n5, n6, n7, n8, n9]) 7 = (n7 : Int) from rfl, h7, Option.bind_some, if_pos (by rw [strB_size, strB_size]; omega), strB_append]
 obtain ⟨X15, e15⟩ : ∃ X, X = X14 ++ digB 10 n7 := ⟨_, rfl⟩
 have L15 : X15.length ≤ 192 := by rw [e15]; simp; omega
 rw [← e15] at hlf ⊢
 rw [if_pos (by rw [strB_size]; omega), strB_append]
 obtain ⟨X16, e16⟩ : ∃ X, X = X15 ++ [9] := ⟨_, rfl⟩
 have L16 : X16.length ≤ 193 := by rw [e16]; simp; omega
 rw [← e16] at hlf ⊢
 rw [if_pos (show (8 : Int) < ((intsOf [n0, n1, n2, n3, n4, n5, n6, n7, n8, n9]).length : Int) by rw [intsOf_len]; simp), show rd (intsOf [n0, n1, n2, n3, n4, n5, n6, n7, n8, n9]) 8 = (n8 : Int) from rfl, h8, Option.bind_some, if_pos (by rw [strB_size, strB_size]; omega), strB_append]
 obtain ⟨X17, e17⟩ : ∃ X, X = X16 ++ digB 10 n8 := ⟨_, rfl⟩
 have L17 : X17.length ≤ 214 := by rw [e17]; simp; omega
 rw [← e17] at hlf ⊢
 rw [if_pos (by rw [strB_size]; omega), strB_append]
 obtain ⟨X18, e18⟩ : ∃ X, X = X17 ++ [9] := ⟨_, rfl⟩
 have L18 : X18.length ≤ 215 := by rw [e18]; simp; omega
 rw [← e18] at hlf ⊢
 rw [if_pos (show (9 : Int) < ((intsOf [n0, n1, n2, n3, n4, n5, n6, n7, n8, n9]).length : Int) by rw [intsOf_len]; simp), show rd (intsOf [n0, n1, n2, n3, n4, n5, n6, n7, n8, n9]) 9 = (n9 : Int) from rfl, h9, Option.bind_some, if_pos (by rw [strB_size, strB_size]; omega), strB_append]
 obtain ⟨X19, e19⟩ : ∃ X, X = X18 ++ digB 10 n9 := ⟨_, rfl⟩
 have L19 : X19.length ≤ 236 := by rw [e19]; simp; omega
 rw [← e19] at hlf ⊢
 rw [hlf, Option.bind_some, if_pos (by rw [strB_size]; omega), strB_append, if_pos (by rw [strB_size, strB_size]; simp only [List.length_append, List.length_cons, List.length_nil]; omega), strB_append]
theorem rt_one (l : List S31) (hl : l.length ≤ 1000) (i : Nat) (hi : i < l.length) (acc : List UInt8) (hacc : acc.length ≤ 100000000000000000) (t : RtT) (g : RtGood l[i] t) (r : ByteArray × Int)
  (hr : Ev (fun k => spec_RoutePrint.l0 k (strB (acc ++ (rtLn t ++ [10]))) l (l.length : Int) ((i + 1 : Nat) : Int)) r) : Ev (fun k => spec_RoutePrint.l0 k (strB acc) l (l.length : Int) (i : Int)) r := by
 obtain ⟨a, ns⟩ := t
 obtain ⟨n0, n1, n2, n3, n4, n5, n6, n7, n8, n9, rfl⟩ := ten g.l
 have hn := g.small
 simp only at hn
 obtain ⟨K0, h0⟩ := upper_ev 8 n0 (hn n0 (by simp)) (by omega)
 obtain ⟨K1, h1⟩ := upper_ev 8 n1 (hn n1 (by simp)) (by omega)
 obtain ⟨K2, h2⟩ := upper_ev 4 n2 (hn n2 (by simp)) (by omega)
 obtain ⟨K3, h3⟩ := text_ev n3 (by have := hn n3 (by simp); omega)
 obtain ⟨K4, h4⟩ := text_ev n4 (by have := hn n4 (by simp); omega)
 obtain ⟨K5, h5⟩ := text_ev n5 (by have := hn n5 (by simp); omega)
 obtain ⟨K6, h6⟩ := upper_ev 8 n6 (hn n6 (by simp)) (by omega)
 obtain ⟨K7, h7⟩ := text_ev n7 (by have := hn n7 (by simp); omega)
 obtain ⟨K8, h8⟩ := text_ev n8 (by have := hn n8 (by simp); omega)
 obtain ⟨K9, h9⟩ := text_ev n9 (by have := hn n9 (by simp); omega)
 obtain ⟨K10, hlf⟩ := left_ev 127 (by omega) (a ++ [9] ++ hexU 8 n0 ++ [9] ++ hexU 8 n1 ++ [9] ++ hexU 4 n2 ++ [9] ++ digB 10 n3 ++ [9] ++ digB 10 n4 ++ [9] ++ digB 10 n5 ++ [9] ++ hexU 8 n6 ++ [9] ++ digB 10 n7 ++ [9] ++ digB 10 n8 ++ [9] ++ digB 10 n9)
 have e : a ++ [9] ++ hexU 8 n0 ++ [9] ++ hexU 8 n1 ++ [9] ++ hexU 4 n2 ++ [9] ++ digB 10 n3 ++ [9] ++ digB 10 n4 ++ [9] ++ digB 10 n5 ++ [9] ++ hexU 8 n6 ++ [9] ++ digB 10 n7 ++ [9] ++ digB 10 n8 ++ [9] ++ digB 10 n9 = a ++ 9 :: Words [9] (rtWords [n0, n1, n2, n3, n4, n5, n6, n7, n8, n9]) := by
  simp only [rtWords, Words, List.getD_cons_zero, List.getD_cons_succ, List.append_assoc, List.cons_append, List.nil_append]
 have hlf2 : ∀ k, K10 ≤ k → spec_Left.f k (strB (a ++ [9] ++ hexU 8 n0 ++ [9] ++ hexU 8 n1 ++ [9] ++ hexU 4 n2 ++ [9] ++ digB 10 n3 ++ [9] ++ digB 10 n4 ++ [9] ++ digB 10 n5 ++ [9] ++ hexU 8 n6 ++ [9] ++ digB 10 n7 ++ [9] ++ digB 10 n8 ++ [9] ++ digB 10 n9)) 127 = some (strB (rtLn (a, [n0, n1, n2, n3, n4, n5, n6, n7, n8, n9]))) := fun k hk => by
  have h := hlf k hk
  unfold rtLn
  simp only [e] at h ⊢
  exact h
 clear hlf
 obtain ⟨Kr, hr⟩ := hr
 refine ⟨K0 + K1 + K2 + K3 + K4 + K5 + K6 + K7 + K8 + K9 + K10 + Kr + 1, fun k hk => ?_⟩
 obtain ⟨k, rfl⟩ : ∃ m, k = m + 1 := ⟨k - 1, by omega⟩
 show spec_RoutePrint.l0 (k + 1) (strB acc) l (l.length : Int) (i : Int) = some r
 rw [rt_step l hl i hi acc hacc a n0 n1 n2 n3 n4 n5 n6 n7 n8 n9 hn g k (h0 k (by omega)) (h1 k (by omega)) (h2 k (by omega)) (h3 k (by omega)) (h4 k (by omega)) (h5 k (by omega)) (h6 k (by omega)) (h7 k (by omega)) (h8 k (by omega)) (h9 k (by omega)) (hlf2 k (by omega))]
 exact hr k (by omega)
theorem rt_len (r : S31) (t : RtT) (g : RtGood r t) : (rtLn t ++ [10]).length ≤ 3000000000 := by
 obtain ⟨a, ns⟩ := t
 obtain ⟨n0, n1, n2, n3, n4, n5, n6, n7, n8, n9, rfl⟩ := ten g.l
 have hn := g.small
 have hq := g.q
 simp only at hn hq

 have l0 := upU_len 8 n0 (hn n0 (by simp)) (by omega)
 have l1 := upU_len 8 n1 (hn n1 (by simp)) (by omega)
 have l2 := upU_len 4 n2 (hn n2 (by simp)) (by omega)
 have l3 := dig_len n3 (by have := hn n3 (by simp); omega)
 have l4 := dig_len n4 (by have := hn n4 (by simp); omega)
 have l5 := dig_len n5 (by have := hn n5 (by simp); omega)
 have l6 := upU_len 8 n6 (hn n6 (by simp)) (by omega)
 have l7 := dig_len n7 (by have := hn n7 (by simp); omega)
 have l8 := dig_len n8 (by have := hn n8 (by simp); omega)
 have l9 := dig_len n9 (by have := hn n9 (by simp); omega)
 simp only [rtLn, leftL, rtWords, Words, List.length_append, List.length_cons, List.length_nil, List.length_replicate, List.getD_cons_zero, List.getD_cons_succ]
 omega
def rtS (t : RtT) : S130 := ⟨strB t.1, ((t.2.getD 0 0 : Nat) : Int), ((t.2.getD 1 0 : Nat) : Int), ((t.2.getD 2 0 : Nat) : Int), ((t.2.getD 3 0 : Nat) : Int), ((t.2.getD 4 0 : Nat) : Int), ((t.2.getD 5 0 : Nat) : Int), ((t.2.getD 6 0 : Nat) : Int), ((t.2.getD 7 0 : Nat) : Int), ((t.2.getD 8 0 : Nat) : Int), ((t.2.getD 9 0 : Nat) : Int)⟩
theorem u32_w (n : Nat) (h : n < 4294967296) : IntKind.u32.wrap (n : Int) = (n : Int) := by
 simp only [IntKind.wrap, IntKind.bits, IntKind.signed, Bool.false_and]
 exact Int.emod_eq_of_lt (by omega) (by omega)
theorem up_fin : ∀ n : Fin 256, isDig (UInt8.ofNat n.val) = true → 48 ≤ (if 97 ≤ (UInt8.ofNat n.val).toNat then UInt8.ofNat n.val - 32 else UInt8.ofNat n.val : UInt8).toNat ∧ (if 97 ≤ (UInt8.ofNat n.val).toNat then UInt8.ofNat n.val - 32 else UInt8.ofNat n.val : UInt8).toNat ≤ 70 := by decide +kernel
theorem hexU_mem (m n : Nat) (c : UInt8) (h : c ∈ hexU m n) : 48 ≤ c.toNat ∧ c.toNat ≤ 70 := by
 unfold hexU upL at h
 obtain ⟨d, hd, rfl⟩ := List.mem_map.1 h
 have := up_fin ⟨d.toNat, d.toNat_lt⟩ (by simpa using hexP_dig m n d hd)
 simpa using this
theorem spF : ∀ n : Fin 256, 32 < n.val → n.val ≤ 126 → Lib.isSp (UInt8.ofNat n.val) = false := by decide +kernel
theorem spW (c : UInt8) (h1 : 32 < c.toNat) (h2 : c.toNat ≤ 126) : Lib.isSp c = false := by
 have := spF ⟨c.toNat, c.toNat_lt⟩ h1 h2
 simpa using this
theorem rt_words (ns : List Nat) : ∀ w ∈ rtWords ns, w ≠ [] ∧ ∀ c ∈ w, 48 ≤ c.toNat ∧ c.toNat ≤ 70 := by
 intro w hw
 have hU : ∀ m n, hexU m n ≠ [] ∧ ∀ c ∈ hexU m n, 48 ≤ c.toNat ∧ c.toNat ≤ 70 := fun m n => ⟨fun e => hexP_ne m n (by unfold hexU upL at e; exact List.map_eq_nil_iff.1 e), fun c hc => hexU_mem m n c hc⟩
 have hD : ∀ n, digB 10 n ≠ [] ∧ ∀ c ∈ digB 10 n, 48 ≤ c.toNat ∧ c.toNat ≤ 70 := fun n => ⟨digB_ne 10 n, fun c hc => by have := dig10 n c hc; omega⟩
 simp only [rtWords, List.mem_cons, List.not_mem_nil, or_false] at hw
 rcases hw with rfl | rfl | rfl | rfl | rfl | rfl | rfl | rfl | rfl | rfl
 all_goals first | exact hU _ _ | exact hD _
theorem rt_chars (r : S31) (t : RtT) (g : RtGood r t) : ∀ x ∈ rtLn t, x.toNat < 128 ∧ x ≠ 10 ∧ x ≠ 13 := by
 intro x hx
 have fin : (32 ≤ x.toNat ∧ x.toNat ≤ 126) ∨ x = 9 → x.toNat < 128 ∧ x ≠ 10 ∧ x ≠ 13 := by
  intro h
  rcases h with h | rfl
  ·exact ⟨by omega, fun e => by rw [e] at h; revert h; decide, fun e => by rw [e] at h; revert h; decide⟩
  ·decide
 apply fin
 unfold rtLn leftL at hx
 rcases List.mem_append.1 hx with hx | hx
 ·rcases List.mem_append.1 hx with hx | hx
  ·have := g.c x hx
   unfold ifC at this
   omega
  ·rcases List.mem_cons.1 hx with rfl | hx
   ·exact .inr rfl
   ·rcases words_mem 9 _ x hx with rfl | ⟨w, hw, hc⟩
    ·exact .inr rfl
    ·have := (rt_words t.2 w hw).2 x hc
     omega
 ·rw [(List.mem_replicate.1 hx).2]; exact .inl (by decide)
theorem rt_fields (r : S31) (t : RtT) (g : RtGood r t) : Lib.fields (rtLn t) = t.1 :: rtWords t.2 := by
 have h9 : Lib.isSp 9 = true := by decide
 have hne : t.1 ≠ [] := fun e => by have := g.p; rw [e] at this; simp at this
 unfold rtLn leftL
 rw [List.append_assoc, List.cons_append, fields_word t.1 9 _ hne (fun c hc => spW c (by have := g.c c hc; unfold ifC at this; omega) (by have := g.c c hc; unfold ifC at this; omega)) h9,
  show ∀ z : List UInt8, (9 : UInt8) :: z = [9] ++ z from fun _ => rfl, fields_blanks [9] _ (by simp [h9]),
  fields_tailb 9 h9 _ (fun c hc => by rw [(List.mem_replicate.1 hc).2]; decide) _ (fun w hw => ⟨(rt_words t.2 w hw).1, fun c hc => by have := (rt_words t.2 w hw).2 c hc; exact spW c (by omega) (by omega)⟩)]
theorem rt_line (r : S31) (t : RtT) (g : RtGood r t) (hl : (rtLn t).length ≤ 40000) : LnOk (rtLn t) ∧ rtL (strB (rtLn t)) = some (some (rtS t)) := by
 have hch := rt_chars r t g
 refine ⟨⟨(fun e => by have := rt_fields r t g; rw [e] at this; cases this), (fun c hc => (hch c hc).2), by omega⟩, ?_⟩
 have hf : strings_Fields.f (strB (rtLn t)) = some ((t.1 :: rtWords t.2).map strB) := by
  unfold strings_Fields.f
  rw [if_pos ⟨by rw [strB_size]; omega, by rw [strB_dl, List.all_eq_true]; exact fun c hc => decide_eq_true (hch c hc).1⟩, strB_dl, rt_fields r t g]
  rfl
 unfold rtL
 rw [hf, Option.bind_some]
 have hc := g.c
 obtain ⟨a, ns⟩ := t
 obtain ⟨n0, n1, n2, n3, n4, n5, n6, n7, n8, n9, rfl⟩ := ten g.l
 have hn := g.small
 simp only at hn hc
 have p0 : puF (strB (hexU 8 n0)) 16 32 = some (n0 : Int) := hexU_parse 8 n0 (hn n0 (by simp)) (by omega)
 have p1 : puF (strB (hexU 8 n1)) 16 32 = some (n1 : Int) := hexU_parse 8 n1 (hn n1 (by simp)) (by omega)
 have p2 : puF (strB (hexU 4 n2)) 10 32 = some (n2 : Int) := one_parse 4 n2 (by simpa using g.flag) (by omega)
 have p3 : puF (strB (digB 10 n3)) 10 32 = some (n3 : Int) := dec_parse n3 (hn n3 (by simp))
 have p4 : puF (strB (digB 10 n4)) 10 32 = some (n4 : Int) := dec_parse n4 (hn n4 (by simp))
 have p5 : puF (strB (digB 10 n5)) 10 32 = some (n5 : Int) := dec_parse n5 (hn n5 (by simp))
 have p6 : puF (strB (hexU 8 n6)) 16 32 = some (n6 : Int) := hexU_parse 8 n6 (hn n6 (by simp)) (by omega)
 have p7 : puF (strB (digB 10 n7)) 10 32 = some (n7 : Int) := dec_parse n7 (hn n7 (by simp))
 have p8 : puF (strB (digB 10 n8)) 10 32 = some (n8 : Int) := dec_parse n8 (hn n8 (by simp))
 have p9 : puF (strB (digB 10 n9)) 10 32 = some (n9 : Int) := dec_parse n9 (hn n9 (by simp))
 have w0 := u32_w n0 (hn n0 (by simp))
 have w1 := u32_w n1 (hn n1 (by simp))
 have w2 := u32_w n2 (hn n2 (by simp))
 have w3 := u32_w n3 (hn n3 (by simp))
 have w4 := u32_w n4 (hn n4 (by simp))
 have w5 := u32_w n5 (hn n5 (by simp))
 have w6 := u32_w n6 (hn n6 (by simp))
 have w7 := u32_w n7 (hn n7 (by simp))
 have w8 := u32_w n8 (hn n8 (by simp))
 have w9 := u32_w n9 (hn n9 (by simp))
 have hst : ¬ (strB a).toList = [42] := fun e => by
  rw [Go.ByteArray.toList_eq, strB_dl] at e
  have := hc 42 (by rw [e]; simp)
  revert this; decide
 have hF : rtF ((a :: rtWords [n0, n1, n2, n3, n4, n5, n6, n7, n8, n9]).map strB) = some (rtS (a, [n0, n1, n2, n3, n4, n5, n6, n7, n8, n9])) := by
  unfold rtF
  rw [if_pos ⟨by simp [rtWords], hst⟩]
  show ((puF (strB (hexU 8 n0)) 16 32).bind fun a0 => (puF (strB (hexU 8 n1)) 16 32).bind fun a1 => (puF (strB (hexU 4 n2)) 10 32).bind fun a2 => (puF (strB (digB 10 n3)) 10 32).bind fun a3 => (puF (strB (digB 10 n4)) 10 32).bind fun a4 => (puF (strB (digB 10 n5)) 10 32).bind fun a5 => (puF (strB (hexU 8 n6)) 16 32).bind fun a6 => (puF (strB (digB 10 n7)) 10 32).bind fun a7 => (puF (strB (digB 10 n8)) 10 32).bind fun a8 => (puF (strB (digB 10 n9)) 10 32).bind fun a9 => some (⟨strB a, IntKind.u32.wrap a0, IntKind.u32.wrap a1, IntKind.u32.wrap a2, IntKind.u32.wrap a3, IntKind.u32.wrap a4, IntKind.u32.wrap a5, IntKind.u32.wrap a6, IntKind.u32.wrap a7, IntKind.u32.wrap a8, IntKind.u32.wrap a9⟩ : S130)) = _
  rw [p0, Option.bind_some, p1, Option.bind_some, p2, Option.bind_some, p3, Option.bind_some, p4, Option.bind_some, p5, Option.bind_some, p6, Option.bind_some, p7, Option.bind_some, p8, Option.bind_some, p9, Option.bind_some, w0, w1, w2, w3, w4, w5, w6, w7, w8, w9]
  rfl
 rw [hF]
 rfl
def rtNames : List ByteArray := [⟨#[68, 101, 115, 116, 105, 110, 97, 116, 105, 111, 110]⟩, ⟨#[71, 97, 116, 101, 119, 97, 121]⟩, ⟨#[70, 108, 97, 103, 115]⟩, ⟨#[82, 101, 102, 67, 110, 116]⟩, ⟨#[85, 115, 101]⟩, ⟨#[77, 101, 116, 114, 105, 99]⟩, ⟨#[77, 97, 115, 107]⟩, ⟨#[77, 84, 85]⟩, ⟨#[87, 105, 110, 100, 111, 119]⟩, ⟨#[73, 82, 84, 84]⟩]
def rtKid39 (p : ByteArray × Int) : S39 := ⟨p.1, 3, false, 0, p.2, 0, ⟨#[]⟩, []⟩
def rtKid43 (p : ByteArray × Int) : S43 := ⟨p.1, 3, false, 0, p.2, 0, ⟨#[]⟩, []⟩
def rtN39 (t : RtT) : S39 := ⟨⟨#[]⟩, 8, false, 0, 0, 0, ⟨#[]⟩, [⟨⟨#[73, 102, 97, 99, 101]⟩, 5, false, 0, 0, 0, strB t.1, []⟩] ++ (rtNames.zip (intsOf t.2)).map rtKid39⟩
def rtN43 (t : RtT) : S43 := ⟨⟨#[]⟩, 8, false, 0, 0, 0, ⟨#[]⟩, [⟨⟨#[73, 102, 97, 99, 101]⟩, 5, false, 0, 0, 0, strB t.1, []⟩] ++ (rtNames.zip (intsOf t.2)).map rtKid43⟩
def rtAll (ts : List RtT) : S43 := ⟨⟨#[]⟩, 6, false, 0, 0, 0, ⟨#[]⟩, ts.map rtN43⟩
theorem rt_conv (ts : List RtT) : convN 2 (rtAll ts) = ⟨⟨#[]⟩, 6, false, 0, 0, 0, ⟨#[]⟩, ts.map rtN39⟩ := by
 have h : ∀ t, convN 1 (rtN43 t) = rtN39 t := fun t => by
  simp only [rtN43, rtN39, convN, List.map_append, List.map_cons, List.map_nil, List.map_map]
  congr 1
 simp only [rtAll, convN, List.map_map]
 congr 1
 exact List.map_congr_left fun t _ => h t
theorem rt_fit (ts : List RtT) (hl : ts.length ≤ 1000000) : FitN 2 (rtAll ts) := by
 refine ⟨by simpa [rtAll] using hl, fun x hx => ?_⟩
 simp only [rtAll, List.mem_map] at hx
 obtain ⟨t, _, rfl⟩ := hx
 refine ⟨by simp only [rtN43, List.length_append, List.length_cons, List.length_nil, List.length_map, List.length_zip, rtNames]; omega, fun y hy => ?_⟩
 simp only [rtN43, List.mem_append, List.mem_cons, List.not_mem_nil, or_false, List.mem_map] at hy
 rcases hy with rfl | ⟨p, _, rfl⟩ <;> rfl
theorem rt_kids (x4 : List S39) (hx4 : x4.length ≤ 1000000) (rows : List S31) (n i : Int) (f0 : ByteArray) (ns : List Nat) (h10 : ns.length = 10) (f2 : List ByteArray) (r : ByteArray × Int × Bool × Int × Int × Nat × ByteArray × (List (S39)) × Int) : ∀ (d j : Nat) (acc : List S39), j + d = 10 → acc.length ≤ j + 1 →
  Ev (fun k => spec_RouteTree.l0 k (x4 ++ [⟨⟨#[]⟩, 8, false, 0, 0, 0, ⟨#[]⟩, acc ++ ((rtNames.zip (intsOf ns)).drop j).map rtKid39⟩]) rows n (wrap64 (i + 1))) r →
  Ev (fun k => spec_RouteTree.l1 k x4 acc rows n i rtNames 10 (j : Int) f0 (intsOf ns) f2) r
 | 0, j, acc, h, ha, hr => by
  rw [List.drop_eq_nil_of_le (by simp [rtNames, intsOf_len, h10]; omega), List.map_nil, List.append_nil] at hr
  refine Ev.step (fun k => ?_) hr
  simp only [spec_RouteTree.l1]
  rw [if_neg (by omega)]
  simp only [spec_recordNode.f, Option.bind_some]
  rw [if_pos (by omega)]
 | d + 1, j, acc, h, ha, hr => by
  have hw1 : wrap64 ((j : Int) + 1) = ((j + 1 : Nat) : Int) := by unfold wrap64; omega
  have hlz : j < (rtNames.zip (intsOf ns)).length := by simp [rtNames, intsOf_len, h10]; omega
  have hin : j < ns.length := by omega
  have his : j < rtNames.length := by simp [rtNames]; omega
  have hz : (rtNames.zip (intsOf ns))[j] = (rtNames[j], (ns[j] : Int)) := by
   rw [List.getElem_zip]
   simp [intsOf]
  have e : ∀ (x : S39) (z : List S39), acc ++ x :: z = (acc ++ [x]) ++ z := fun x z => by simp
  rw [List.drop_eq_getElem_cons hlz, List.map_cons, hz, e] at hr
  refine Ev.step (fun k => ?_) (rt_kids x4 hx4 rows n i f0 ns h10 f2 r d (j + 1) _ (by omega) (by simp; omega) hr)
  have hrn : rdOf ByteArray.empty rtNames (j : Int) = rtNames[j] := by simp [rdOf, List.getD_eq_getElem?_getD, List.getElem?_eq_getElem his]
  simp only [spec_RouteTree.l1]
  rw [if_pos (by omega), if_pos (by omega), if_pos (by omega), if_pos (by rw [intsOf_len]; omega), hrn, rd_ints ns j hin, hw1]
  simp only [spec_uintNode.f, Option.bind_some]
  rw [if_pos (by omega)]
  rfl
theorem rt_tree (l : List S31) (hl : l.length ≤ 1000) (ts : List RtT) (hlen : ts.length = l.length) (hg : ∀ (j : Nat) (h1 : j < l.length) (h2 : j < ts.length), RtGood l[j] ts[j]) :
  Ev (fun k => spec_RouteTree.l0 k [] l (l.length : Int) 0) (⟨#[]⟩, 6, false, 0, 0, 0, ⟨#[]⟩, ts.map rtN39, 1) := by
 have h := gen_list (fun acc i k => spec_RouteTree.l0 k acc l (l.length : Int) (i : Int)) l.length (fun i => rtN39 (ts.getD i ([], []))) (fun acc => ((⟨#[]⟩ : ByteArray), (6 : Int), false, (0 : Int), (0 : Int), (0 : Nat), (⟨#[]⟩ : ByteArray), acc, (1 : Int))) ?_ ?_ l.length 0 [] (by omega) (by simp)
 ·rw [← hlen, range_map ts rtN39 _ (fun i hi => by simp [List.getD_eq_getElem?_getD, List.getElem?_eq_getElem hi]), List.nil_append, hlen] at h
  exact h
 ·intro acc ha
  refine Ev.step (f := fun _ => some ((⟨#[]⟩ : ByteArray), (6 : Int), false, (0 : Int), (0 : Int), (0 : Nat), (⟨#[]⟩ : ByteArray), acc, (1 : Int))) (fun k => ?_) (Ev.now _)
  simp only [spec_RouteTree.l0]
  rw [if_neg (by omega)]
  rfl
 ·intro i hi acc ha r hr
  have hit : i < ts.length := by omega
  have g := hg i hi hit
  have hrd := grd31 l i hi
  have hw : wrap64 ((i : Int) + 1) = ((i + 1 : Nat) : Int) := by unfold wrap64; omega
  have egd : ts.getD i ([], []) = ts[i] := by simp [List.getD_eq_getElem?_getD, List.getElem?_eq_getElem hit]
  rw [egd] at hr
  have hk := rt_kids acc (by omega) l (l.length : Int) (i : Int) (strB ts[i].1) ts[i].2 g.l l[i].f2 r 10 0 [⟨⟨#[73, 102, 97, 99, 101]⟩, 5, false, 0, 0, 0, strB ts[i].1, []⟩] (by omega) (by simp) (by rw [hw]; exact hr)
  refine Ev.step (fun k => ?_) hk
  simp only [spec_RouteTree.l0]
  rw [if_pos (by omega), if_pos (by omega), if_pos (by omega), hrd, g.s, g.n]
  rfl
theorem rt_node (ts : List RtT) (hl : ts.length ≤ 1000000) (hg : ∀ t ∈ ts, ∃ r, RtGood r t) : Ev (fun k => nodeRoute k (ts.map rtS)) (rtAll ts) := by
 have h := gen_list (fun acc i k => procfs_NetRouteLine.l0 k (ts.map rtS) (ts.length : Int) (i : Int) ⟨#[]⟩ 6 false 0 0 0 ⟨#[]⟩ acc) ts.length (fun i => rtN43 (ts.getD i ([], []))) (fun acc => ((⟨#[]⟩ : ByteArray), (6 : Int), false, (0 : Int), (0 : Int), (0 : Nat), (⟨#[]⟩ : ByteArray), acc)) ?_ ?_ ts.length 0 [] (by omega) (by simp)
 ·rw [range_map ts rtN43 _ (fun i hi => by simp [List.getD_eq_getElem?_getD, List.getElem?_eq_getElem hi]), List.nil_append] at h
  have h1 : Ev (fun k => procfs_NetRouteLine.f k ⟨#[]⟩ (ts.map rtS)) (⟨#[]⟩, 6, false, 0, 0, 0, ⟨#[]⟩, ts.map rtN43) := Ev.congr (fun k => by unfold procfs_NetRouteLine.f; rw [List.length_map]; rfl) h
  have h2 : Ev (fun k => impl_Route_1.f k (ts.map rtS)) (⟨#[]⟩, 6, false, 0, 0, 0, ⟨#[]⟩, ts.map rtN43) :=
   evB (F := fun _ bt326 => some (bt326.1, bt326.2.1, bt326.2.2.1, bt326.2.2.2.1, bt326.2.2.2.2.1, bt326.2.2.2.2.2.1, bt326.2.2.2.2.2.2.1, bt326.2.2.2.2.2.2.2)) (a := (⟨#[]⟩, 6, false, 0, 0, 0, ⟨#[]⟩, ts.map rtN43)) h1 (Ev.now _)
  obtain ⟨K, hK⟩ := h2
  exact ⟨K, fun k hk => by
   have h3 := hK k hk
   simp only at h3
   show Option.map _ (impl_Route_1.f k (ts.map rtS)) = _
   rw [h3]
   rfl⟩
 ·intro acc ha
  refine Ev.step (f := fun _ => some ((⟨#[]⟩ : ByteArray), (6 : Int), false, (0 : Int), (0 : Int), (0 : Nat), (⟨#[]⟩ : ByteArray), acc)) (fun k => ?_) (Ev.now _)
  simp only [procfs_NetRouteLine.l0]
  rw [if_neg (by omega)]
 ·intro i hi acc ha r hr
  have hw : wrap64 ((i : Int) + 1) = ((i + 1 : Nat) : Int) := by unfold wrap64; omega
  have egd : rd_T130 (ts.map rtS) (i : Int) = rtS ts[i] := by simp [rd_T130, List.getD_eq_getElem?_getD, hi]
  have egd2 : ts.getD i ([], []) = ts[i] := by simp [List.getD_eq_getElem?_getD, List.getElem?_eq_getElem hi]
  obtain ⟨R, g⟩ := hg ts[i] (List.getElem_mem _)
  rw [egd2] at hr
  refine Ev.step (fun k => ?_) hr
  simp only [procfs_NetRouteLine.l0]
  rw [if_pos (by omega), if_pos (by omega), if_pos (by simp; omega), egd, hw]
  generalize ts[i] = t at g
  obtain ⟨a, ns⟩ := t
  obtain ⟨n0, n1, n2, n3, n4, n5, n6, n7, n8, n9, rfl⟩ := ten g.l
  have hn := g.small
  simp only at hn
  have w0 : IntKind.u64.wrap ((n0 : Nat) : Int) = n0 := u64_w (by omega) (by have := hn n0 (by simp); omega)
  have w1 : IntKind.u64.wrap ((n1 : Nat) : Int) = n1 := u64_w (by omega) (by have := hn n1 (by simp); omega)
  have w2 : IntKind.u64.wrap ((n2 : Nat) : Int) = n2 := u64_w (by omega) (by have := hn n2 (by simp); omega)
  have w3 : IntKind.u64.wrap ((n3 : Nat) : Int) = n3 := u64_w (by omega) (by have := hn n3 (by simp); omega)
  have w4 : IntKind.u64.wrap ((n4 : Nat) : Int) = n4 := u64_w (by omega) (by have := hn n4 (by simp); omega)
  have w5 : IntKind.u64.wrap ((n5 : Nat) : Int) = n5 := u64_w (by omega) (by have := hn n5 (by simp); omega)
  have w6 : IntKind.u64.wrap ((n6 : Nat) : Int) = n6 := u64_w (by omega) (by have := hn n6 (by simp); omega)
  have w7 : IntKind.u64.wrap ((n7 : Nat) : Int) = n7 := u64_w (by omega) (by have := hn n7 (by simp); omega)
  have w8 : IntKind.u64.wrap ((n8 : Nat) : Int) = n8 := u64_w (by omega) (by have := hn n8 (by simp); omega)
  have w9 : IntKind.u64.wrap ((n9 : Nat) : Int) = n9 := u64_w (by omega) (by have := hn n9 (by simp); omega)
  have key : impl_Route_1_1.f (strB a) n0 n1 n2 n3 n4 n5 n6 n7 n8 n9 = some (⟨#[]⟩, 8, false, 0, 0, 0, ⟨#[]⟩, (rtN43 (a, [n0, n1, n2, n3, n4, n5, n6, n7, n8, n9])).f7) := by
   simp only [impl_Route_1_1.f, impl_procfsNetRouteLine.f, Option.bind_some, List.nil_append, List.cons_append, List.length_cons, List.length_nil]
   repeat rw [if_pos (by decide)]
   rw [w0, w1, w2, w3, w4, w5, w6, w7, w8, w9]
   rfl
  show (impl_Route_1_1.f (strB a) n0 n1 n2 n3 n4 n5 n6 n7 n8 n9).bind _ = _
  rw [key]
  simp only [Option.bind_some]
  rw [if_pos (by omega)]
  rfl
def rtHead : List UInt8 := [73, 102, 97, 99, 101, 9, 68, 101, 115, 116, 105, 110, 97, 116, 105, 111, 110, 9, 71, 97, 116, 101, 119, 97, 121, 32, 9, 70, 108, 97, 103, 115, 9, 82, 101, 102, 67, 110, 116, 9, 85, 115, 101, 9, 77, 101, 116, 114, 105, 99, 9, 77, 97, 115, 107, 9, 9, 77, 84, 85, 9, 87, 105, 110, 100, 111, 119, 9, 73, 82, 84, 84, 32, 32, 32, 32, 32, 32, 32, 32, 32, 32, 32, 32, 32, 32, 32, 32, 32, 32, 32, 32, 32, 32, 32, 32, 32, 32, 32, 32, 32, 32, 32, 32, 32, 32, 32, 32, 32, 32, 32, 32, 32, 32, 32, 32, 32, 32, 32, 32, 32, 32, 32, 32, 32, 32, 32]
theorem plainRoute (l : List S31) (hl : l.length ≤ maxLen) (hr : ∀ r ∈ l, OP.RowOk r) : ∃ k b, laws_zzFits5.f k l = some b ∧ (b = true → BackOk (fun k => spec_RoutePrint.f k l) (fun k => spec_RouteTree.f k l) (fun s n => doorRoute s n) l) := by
 obtain ⟨k, b, hz, hfit⟩ := zz5fF l
 refine ⟨k, b, hz, fun e => ?_⟩
 obtain ⟨_, hf⟩ := hfit e
 by_cases h1000 : 1000 < l.length
 ·exact .long h1000
 have hh : rtHead.length = 127 := by decide +kernel
 obtain ⟨bf, hbf, hgood⟩ := rt_fine l (by omega) (fun r h => ⟨hf r h, hr r h⟩) l.length 0 (by omega)
 cases bf with
 | false => exact gen_no (by omega) (evB (F := fun k t570 => if t570 = true then _ else _) hbf (evN (by decide) (Ev.now _)))
 | true =>
 rcases gen_print (fun acc i k => spec_RoutePrint.l0 k (strB acc) l (l.length : Int) (i : Int)) l.length 1000 3000000000 (by omega) (fun t => rtLn t ++ [10]) (fun i t => ∃ h : i < l.length, RtGood l[i] t)
  (fun acc => Ev.step (f := fun _ => some (strB acc, (1 : Int))) (fun k => by simp only [spec_RoutePrint.l0]; rw [if_neg (by omega)]) (Ev.now _))
  (fun i hi acc hacc => by
   obtain ⟨t, g⟩ := hgood rfl i hi (by omega)
   exact .inr ⟨t, ⟨hi, g⟩, rt_len _ t g, fun r h => rt_one l (by omega) i hi acc hacc t g r h⟩) l.length 0 (rtHead ++ [10]) (by omega) (by simp [hh]) with hp0 | ⟨ts, hlen, hg, hp0⟩
 ·exact gen_no (by omega) (evB (F := fun k t570 => if t570 = true then _ else _) hbf (evP rfl hp0))
 have hp : Ev (fun k => spec_RoutePrint.f k l) (strB (rtHead ++ [10] ++ ts.flatMap fun t => rtLn t ++ [10]), 1) := evB (F := fun k t570 => if t570 = true then _ else _) hbf (evP rfl hp0)
 have hg' : ∀ (j : Nat) (h1 : j < l.length) (h2 : j < ts.length), RtGood l[j] ts[j] := fun j h1 h2 => by
  obtain ⟨h, hc⟩ := hg j h2
  simp only [Nat.zero_add] at hc
  exact hc
 have hgt : ∀ t ∈ ts, ∃ r, RtGood r t := fun t ht => by
  obtain ⟨j, hj, rfl⟩ := List.getElem_of_mem ht
  exact ⟨_, hg' j (by omega) hj⟩
 refine gen_end (by omega) _ hp 2 (rtAll ts) (fun _ => rt_fit ts (by omega)) (fun _ => ?_) (fun hsz => ?_)
 ·rw [rt_conv]
  exact evB (F := fun k t598 => if t598 = true then _ else _) hbf (evP rfl (rt_tree l (by omega) ts hlen hg'))
 ·have hn := rt_node ts (by omega) hgt
  have e : rtHead ++ [10] ++ (ts.flatMap fun t => rtLn t ++ [10]) = rtHead ++ 10 :: ts.flatMap fun t => rtLn t ++ [10] := by simp
  rw [e] at hsz ⊢
  have hlt : (ts.flatMap fun t => rtLn t ++ [10]).length ≤ 40000 := by simp only [List.length_append, List.length_cons] at hsz; omega
  have hrows : rowsF rtL (ts.length + 1) (strB (ts.flatMap fun t => rtLn t ++ [10])) = some (ts.map rtS) := by
   refine rows_text rtL rtLn rtS ts (ts.length + 1) (by omega) (fun t ht => ?_) (by omega)
   obtain ⟨r, g⟩ := hgt t ht
   have hfl := flat_len (fun t => rtLn t ++ [10]) ts t ht
   simp only [List.length_append, List.length_cons, List.length_nil] at hfl
   exact rt_line r t g (by omega)
  have hhd : headF (strB (rtHead ++ 10 :: ts.flatMap fun t => rtLn t ++ [10])) = some (strB (ts.flatMap fun t => rtLn t ++ [10])) := head_line rtHead _ ⟨(by unfold rtHead; exact List.cons_ne_nil _ _), (by decide +kernel), (by rw [hh]; omega)⟩ (by omega)
  have htxt : ∀ k, ts.length + 1 ≤ k → rtTextF k (strB (rtHead ++ 10 :: ts.flatMap fun t => rtLn t ++ [10])) = some (ts.map rtS, none) := fun k hk => by
   unfold rtTextF
   rw [read_text _ (by omega)]
   simp only [Option.bind_some, if_true]
   rw [nums_text, hhd, Option.bind_some, rowsF_more hk hrows]
   rfl
  obtain ⟨K, hK⟩ := hn
  exact ⟨K + (ts.length + 1), ts.map rtS, htxt _ (by omega), hK _ (by omega)⟩
end Go.Proofs.YtednjmngalmdkaaGreatDoor.GPC
end
