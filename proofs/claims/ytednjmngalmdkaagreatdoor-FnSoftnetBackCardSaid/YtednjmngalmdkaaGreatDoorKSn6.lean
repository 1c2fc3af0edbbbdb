/- Texts of this claim, put together: PlFit, PlFlt, PlNums, PlLines, PlGen, GivenUp, PlHex, PlSoftnet. Conditions: as each one says. -/
import Derived.Test.YtednjmngalmdkaaGreatDoorKSn0
import Derived.Test.YtednjmngalmdkaaGreatDoorKSn1
import Derived.Test.YtednjmngalmdkaaGreatDoorKSn2
import Derived.Test.YtednjmngalmdkaaGreatDoorKSn3
import Derived.Test.YtednjmngalmdkaaGreatDoorKSn5
import Derived.Laws.FloatArith
import Derived.Lib.ConvBytes
import Derived.StillTailTactics
section
/- The sizes that zzFits5 lets through, told. No condition. -/
namespace Go.Proofs.YtednjmngalmdkaaGreatDoor.GPC
open Go Go.RowKit Go.Proofs.YtednjmngalmdkaaGreatDoorW.PrintWords Go.Proofs.YtednjmngalmdkaaGreatDoorW.PrintLast Go.Proofs.YtednjmngalmdkaaGreatDoor.PF
set_option linter.unusedVariables false
structure FitR (r : S31) : Prop where
 s : r.f0.size ≤ 2147483647
 n : r.f1.length ≤ 2147483647
 l : r.f2.length ≤ 2147483647
 w : ∀ x ∈ r.f2, x.size ≤ 2147483647
theorem rdOf_el (l : List ByteArray) (i : Int) (h0 : 0 ≤ i) (h : i.toNat < l.length) : rdOf ByteArray.empty l i = l[i.toNat] := by
 simp [rdOf, List.getD_eq_getElem?_getD, List.getElem?_eq_getElem h]
theorem rd31i (l : List S31) (i : Int) (h0 : 0 ≤ i) (h : i.toNat < l.length) : rd_T31 l i = l[i.toNat] := by
 simp [rd_T31, List.getD_eq_getElem?_getD, List.getElem?_eq_getElem h]
theorem zz4F (l : List ByteArray) (hl : l.length ≤ 2147483647) : ∀ (d : Nat) (i : Int), 0 ≤ i → i + d = l.length → ∃ b, Ev (fun k => laws_zzFits4.l0 k l (l.length : Int) i) b ∧ (b = true → ∀ x ∈ l.drop i.toNat, x.size ≤ 2147483647)
 | 0, i, h0, h => ⟨true, Ev.step (f := fun _ => some true) (fun k => by simp only [laws_zzFits4.l0]; rw [if_neg (by omega)]) (Ev.now _), fun _ x hx => by rw [List.drop_eq_nil_of_le (by omega)] at hx; cases hx⟩
 | d + 1, i, h0, h => by
  have hw : wrap64 (i + 1) = i + 1 := by unfold wrap64; omega
  have hi : i.toNat < l.length := by omega
  by_cases hc : ((rdOf ByteArray.empty l i).size : Int) > 2147483647
  ·exact ⟨false, Ev.step (f := fun _ => some false) (fun k => by simp only [laws_zzFits4.l0]; rw [if_pos (by omega), if_pos h0, if_pos (by omega), if_pos hc]) (Ev.now _), fun h => by cases h⟩
  ·obtain ⟨b, hb, hx⟩ := zz4F l hl d (i + 1) (by omega) (by omega)
   refine ⟨b, Ev.step (fun k => by simp only [laws_zzFits4.l0]; rw [if_pos (by omega), if_pos h0, if_pos (by omega), if_neg hc, hw]) hb, fun e x hm => ?_⟩
   rw [List.drop_eq_getElem_cons hi] at hm
   rcases List.mem_cons.1 hm with rfl | hm
   ·rw [rdOf_el l i h0 hi] at hc; omega
   ·exact hx e x (by rw [show (i + 1).toNat = i.toNat + 1 by omega]; exact hm)
theorem zz4fF (l : List ByteArray) : ∃ b, Ev (fun k => laws_zzFits4.f k l) b ∧ (b = true → l.length ≤ 2147483647 ∧ ∀ x ∈ l, x.size ≤ 2147483647) := by
 by_cases hl : (l.length : Int) > 2147483647
 ·exact ⟨false, Ev.congr (fun k => by simp only [laws_zzFits4.f]; rw [if_pos hl]) (Ev.now _), fun h => by cases h⟩
 ·obtain ⟨b, hb, hx⟩ := zz4F l (by omega) l.length 0 (by omega) (by omega)
  exact ⟨b, Ev.congr (fun k => by simp only [laws_zzFits4.f]; rw [if_neg hl]) hb, fun e => ⟨by omega, by simpa using hx e⟩⟩
theorem zz6fF (a : ByteArray) (n : List Int) (s : List ByteArray) : ∃ b, Ev (fun k => laws_zzFits6.f k a n s) b ∧ (b = true → FitR ⟨a, n, s⟩) := by
 by_cases h1 : (a.size : Int) > 2147483647
 ·exact ⟨false, Ev.congr (fun k => by simp only [laws_zzFits6.f]; rw [if_pos h1]) (Ev.now _), fun h => by cases h⟩
 ·by_cases h2 : (n.length : Int) > 2147483647
  ·exact ⟨false, Ev.congr (fun k => by simp only [laws_zzFits6.f]; rw [if_neg h1, if_pos h2]) (Ev.now _), fun h => by cases h⟩
  ·obtain ⟨b, hb, hx⟩ := zz4fF s
   refine ⟨if b = true then true else false, Ev.congr (f := fun k => (laws_zzFits4.f k s).bind fun t => if t = true then some true else some false) (fun k => by simp only [laws_zzFits6.f]; rw [if_neg h1, if_neg h2]) (Ev.bind (f := fun _ t => if t = true then some true else some false) hb ?_), ?_⟩
   ·cases b
    ·exact Ev.now _
    ·exact Ev.now _
   ·cases b
    ·intro h; cases h
    ·exact fun _ => ⟨(by show a.size ≤ 2147483647; omega), (by show n.length ≤ 2147483647; omega), (hx rfl).1, (hx rfl).2⟩
theorem zz5F (l : List S31) (hl : l.length ≤ 2147483647) : ∀ (d : Nat) (i : Int), 0 ≤ i → i + d = l.length → ∃ b, Ev (fun k => laws_zzFits5.l0 k l (l.length : Int) i) b ∧ (b = true → ∀ x ∈ l.drop i.toNat, FitR x)
 | 0, i, h0, h => ⟨true, Ev.step (f := fun _ => some true) (fun k => by simp only [laws_zzFits5.l0]; rw [if_neg (by omega)]) (Ev.now _), fun _ x hx => by rw [List.drop_eq_nil_of_le (by omega)] at hx; cases hx⟩
 | d + 1, i, h0, h => by
  have hw : wrap64 (i + 1) = i + 1 := by unfold wrap64; omega
  have hi : i.toNat < l.length := by omega
  obtain ⟨b6, h6, hx6⟩ := zz6fF ((rd_T31 l i).f0) ((rd_T31 l i).f1) ((rd_T31 l i).f2)
  have hstep : ∀ k, laws_zzFits5.l0 (k + 1) l (l.length : Int) i = (laws_zzFits6.f k ((rd_T31 l i).f0) ((rd_T31 l i).f1) ((rd_T31 l i).f2)).bind fun t => if t = true then laws_zzFits5.l0 k l (l.length : Int) (i + 1) else some false := fun k => by
   simp only [laws_zzFits5.l0]; rw [if_pos (by omega), if_pos h0, if_pos (by omega), hw]
  obtain ⟨b, hb, hx⟩ := zz5F l hl d (i + 1) (by omega) (by omega)
  cases b6
  ·exact ⟨false, Ev.step hstep (Ev.bind (f := fun k t => if t = true then laws_zzFits5.l0 k l (l.length : Int) (i + 1) else some false) h6 (Ev.now _)), fun h => by cases h⟩
  ·refine ⟨b, Ev.step hstep (Ev.bind (f := fun k t => if t = true then laws_zzFits5.l0 k l (l.length : Int) (i + 1) else some false) h6 hb), fun e x hm => ?_⟩
   rw [List.drop_eq_getElem_cons hi] at hm
   rcases List.mem_cons.1 hm with rfl | hm
   ·have := hx6 rfl
    rw [rd31i l i h0 hi] at this
    exact this
   ·exact hx e x (by rw [show (i + 1).toNat = i.toNat + 1 by omega]; exact hm)
theorem zz5fF (l : List S31) : ∃ k b, laws_zzFits5.f k l = some b ∧ (b = true → l.length ≤ 2147483647 ∧ ∀ x ∈ l, FitR x) := by
 by_cases hl : (l.length : Int) > 2147483647
 ·exact ⟨0, false, by simp only [laws_zzFits5.f]; rw [if_pos hl], fun h => by cases h⟩
 ·obtain ⟨b, hb, hx⟩ := zz5F l (by omega) l.length 0 (by omega) (by omega)
  obtain ⟨k, hk⟩ := hb.rounds
  exact ⟨k, b, by simp only [laws_zzFits5.f]; rw [if_neg hl]; exact hk, fun e => ⟨by omega, by simpa using hx e⟩⟩
end Go.Proofs.YtednjmngalmdkaaGreatDoor.GPC
end
section
/- Plain facts: a number of hundredths, written, is read as the same float. Condition: below 2^40. -/
namespace Go.Proofs.YtednjmngalmdkaaGreatDoor.GPC
open Go Go.RowKit Go.Proofs.YtednjmngalmdkaaGreatDoorW.PrintWords Go.Proofs.YtednjmngalmdkaaGreatDoorW.PrintLast Go.Proofs.YtednjmngalmdkaaGreatDoor.PF
set_option linter.unusedVariables false
def padL (least : Nat) (l : List UInt8) : List UInt8 := List.replicate (least - l.length) 48 ++ l
theorem padL_cons (least : Nat) (l : List UInt8) (h : l.length < least) : padL least (48 :: l) = padL least l := by
 unfold padL
 obtain ⟨d, hd⟩ : ∃ d, least - l.length = d + 1 := ⟨least - l.length - 1, by omega⟩
 rw [List.length_cons, hd, show least - (l.length + 1) = d by omega, List.replicate_succ', List.append_assoc, List.singleton_append]
theorem pad_ev (least : Nat) (hl : least ≤ 1000) : ∀ (d : Nat) (l : List UInt8), least - l.length = d → l.length ≤ 100000 → Ev (fun k => spec_Padded.l0 k (least : Int) (strB l)) (strB (padL least l))
 | 0, l, h, hl2 => by
  have e : padL least l = l := by simp [padL, h]
  rw [e]
  exact Ev.step (f := fun _ => some (strB l)) (fun k => by simp only [spec_Padded.l0]; rw [if_neg (by rw [strB_size]; omega)]) (Ev.now _)
 | d + 1, l, h, hl2 => by
  have ih := pad_ev least hl d (48 :: l) (by simp; omega) (by simp; omega)
  rw [padL_cons least l (by omega)] at ih
  refine Ev.step (fun k => ?_) ih
  simp only [spec_Padded.l0]
  rw [if_pos (by rw [strB_size]; omega), if_pos (by rw [strB_size]; omega)]
  rw [show ((⟨#[48]⟩ : ByteArray) ++ strB l) = strB (48 :: l) from strB_append [48] l]
theorem padded_ev (n b least : Nat) (hb : 2 ≤ b) (hb2 : b ≤ 16) (hn : n < 18446744073709551616) (hl : least ≤ 1000) : Ev (fun k => spec_Padded.f k (n : Int) (b : Int) (least : Int)) (strB (padL least (digB b n))) := by
 have h64 : (digB b n).length ≤ 64 := digB_length b n 63 hb (Nat.lt_of_lt_of_le (show n < 2 ^ 64 by omega) (Nat.pow_le_pow_left hb 64))
 exact Ev.bind (f := fun k t => spec_Padded.l0 k (least : Int) t) (digits_ev b hb hb2 n hn).1 (pad_ev least hl _ _ rfl (by omega))
end Go.Proofs.YtednjmngalmdkaaGreatDoor.GPC
end
section
/- Plain facts: numbers written with a sign between, and read again as words. Conditions: at most 100,000 numbers of 64 bits. -/
namespace Go.Proofs.YtednjmngalmdkaaGreatDoor.GPC
open Go Go.RowKit Go.Proofs.YtednjmngalmdkaaGreatDoorW.PrintWords Go.Proofs.YtednjmngalmdkaaGreatDoorW.PrintLast Go.Proofs.YtednjmngalmdkaaGreatDoor.PF
set_option linter.unusedVariables false
theorem evG {α : Type} {c : Prop} [Decidable c] {A : Nat → Option α} {r : α} (h : c) (hA : Ev A r) : Ev (fun k => if c then A k else none) r := Ev.congr (fun k => if_pos h) hA
theorem evN {α : Type} {c : Prop} [Decidable c] {A B : Nat → Option α} {r : α} (h : ¬ c) (hA : Ev B r) : Ev (fun k => if c then A k else B k) r := Ev.congr (fun k => if_neg h) hA
theorem evP {α : Type} {c : Prop} [Decidable c] {A B : Nat → Option α} {r : α} (h : c) (hA : Ev A r) : Ev (fun k => if c then A k else B k) r := Ev.congr (fun k => if_pos h) hA
theorem evB {α β : Type} {g : Nat → Option α} {a : α} {F : Nat → α → Option β} {r : β} (h : Ev g a) (hF : Ev (fun k => F k a) r) : Ev (fun k => (g k).bind (F k)) r := Ev.bind (f := F) h hF
def intsOf (ns : List Nat) : List Int := ns.map Int.ofNat
theorem intsOf_len (ns : List Nat) : (intsOf ns).length = ns.length := by simp [intsOf]
theorem rd_ints (ns : List Nat) (i : Nat) (h : i < ns.length) : rd (intsOf ns) (i : Int) = (ns[i] : Int) := by
 simp [rd, intsOf, List.getD_eq_getElem?_getD, List.getElem?_eq_getElem h]
theorem strNums2 (s : ByteArray) : strOfNums (s.data.toList.map fun b => (b.toNat : Int)) = s := by
 apply ByteArray.ext
 apply Array.toList_inj.1
 simp only [strOfNums]
 simp only [List.map_map]
 have e : ((fun n => UInt8.ofNat n.toNat) ∘ fun b : UInt8 => (b.toNat : Int)) = id := funext fun b => by simp [Function.comp]
 rw [e, List.map_id]
end Go.Proofs.YtednjmngalmdkaaGreatDoor.GPC
end
section
/- The lines of a written text, one by one: on lists of bytes alone. Conditions: as they say. -/
namespace Go.Proofs.YtednjmngalmdkaaGreatDoor.GPC
open Go Go.RowKit Go.Proofs.YtednjmngalmdkaaGreatDoorW.PrintWords Go.Proofs.YtednjmngalmdkaaGreatDoorW.PrintLast
set_option linter.unusedVariables false
theorem strB_dl (l : List UInt8) : (strB l).data.toList = l := by simp [strB]
theorem ext_strB (l : List UInt8) (i j : Nat) : (strB l).extract i j = strB ((l.drop i).take (j - i)) := by
 apply ByteArray.ext
 rw [ByteArray.data_extract]
 apply Array.toList_inj.1
 simp [strB, List.extract]
theorem lineEnd_lf (a b : List UInt8) (ha : ∀ c ∈ a, c ≠ 10) : GL.lineEnd (strB (a ++ 10 :: b)) = a.length := by
 unfold GL.lineEnd
 rw [strB_dl, List.findIdx_append]
 have h0 : List.findIdx (· == (10 : UInt8)) a = a.length := List.findIdx_eq_length.2 (fun x hx => by
  simp only [beq_eq_false_iff_ne]
  exact ha x hx)
 have h1 : List.findIdx (fun x => x == (10 : UInt8)) (10 :: b) = 0 := by simp [List.findIdx_cons]
 rw [h0, h1]
 simp
theorem lineOf_lf (a b : List UInt8) (ha : ∀ c ∈ a, c ≠ 10) : GL.lineOf (strB (a ++ 10 :: b)) = strB a := by
 unfold GL.lineOf
 rw [lineEnd_lf a b ha, ext_strB]
 simp
theorem restOf_lf (a b : List UInt8) (ha : ∀ c ∈ a, c ≠ 10) : GL.restOf (strB (a ++ 10 :: b)) = strB b := by
 unfold GL.restOf
 rw [lineEnd_lf a b ha, if_pos (by rw [strB_size]; simp), ext_strB, strB_size]
 have e : a ++ 10 :: b = (a ++ [10]) ++ b := by simp
 rw [e, List.drop_left' (l₁ := a ++ [10]) (by simp), List.take_of_length_le (by simp; omega)]
end Go.Proofs.YtednjmngalmdkaaGreatDoor.GPC
end
section
/- Loops over rows, in general: printed text, tree, lines read; the end of a plain law. Conditions: as they say. -/
namespace Go.Proofs.YtednjmngalmdkaaGreatDoor.GPC
open Go Go.RowKit Go.Proofs.YtednjmngalmdkaaGreatDoorW.PrintWords Go.Proofs.YtednjmngalmdkaaGreatDoorW.PrintLast Go.Proofs.YtednjmngalmdkaaGreatDoor.PF
set_option linter.unusedVariables false
theorem gints_of (r : S31) (hr : OP.RowOk r) : r.f1 = intsOf (r.f1.map Int.toNat) := by
 unfold intsOf
 rw [List.map_map]
 refine (List.map_id r.f1).symm.trans (List.map_congr_left fun a ha => ?_)
 have := (hr.2.1.2 a ha).1
 simp only [Function.comp, id]
 show a = ((a.toNat : Nat) : Int)
 omega
theorem grd31 (l : List S31) (i : Nat) (h : i < l.length) : rd_T31 l (i : Int) = l[i] := by
 simp [rd_T31, List.getD_eq_getElem?_getD, List.getElem?_eq_getElem h]
theorem gen_print {T : Type} (L : List UInt8 → Nat → Nat → Option (ByteArray × Int)) (n A B : Nat) (hM : A + B * n ≤ 100000000000000000) (line : T → List UInt8) (Good : Nat → T → Prop)
  (hend : ∀ acc, Ev (L acc n) (strB acc, 1))
  (hone : ∀ i, i < n → ∀ acc : List UInt8, acc.length ≤ 100000000000000000 → Ev (L acc i) (⟨#[]⟩, 2) ∨ ∃ t, Good i t ∧ (line t).length ≤ B ∧ ∀ r, Ev (L (acc ++ line t) (i + 1)) r → Ev (L acc i) r) :
  ∀ (d i : Nat) (acc : List UInt8), i + d = n → acc.length ≤ A + B * i →
   Ev (L acc i) (⟨#[]⟩, 2) ∨ ∃ ts : List T, ts.length = d ∧ (∀ (j : Nat) (h : j < ts.length), Good (i + j) ts[j]) ∧ Ev (L acc i) (strB (acc ++ ts.flatMap line), 1)
 | 0, i, acc, h, ha => by
  obtain rfl : i = n := by omega
  refine .inr ⟨[], rfl, fun j h => by simp at h, ?_⟩
  simpa using hend acc
 | d + 1, i, acc, h, ha => by
  have hB : B * i ≤ B * n := Nat.mul_le_mul_left B (by omega)
  rcases hone i (by omega) acc (by omega) with hb | ⟨t, hg, hl, ht⟩
  ·exact .inl hb
  ·have hB2 : B * (i + 1) = B * i + B := by rw [Nat.mul_add, Nat.mul_one]
   rcases gen_print L n A B hM line Good hend hone d (i + 1) (acc ++ line t) (by omega) (by simp only [List.length_append]; omega) with hb | ⟨ts, hts, hgs, he⟩
   ·exact .inl (ht _ hb)
   ·refine .inr ⟨t :: ts, by simp [hts], fun j h2 => ?_, ?_⟩
    ·match j with
     | 0 => exact hg
     | j + 1 =>
      have := hgs j (by simpa using h2)
      simp only [List.getElem_cons_succ]
      rw [show i + (j + 1) = i + 1 + j by omega]
      exact this
    ·have e : acc ++ line t ++ ts.flatMap line = acc ++ (t :: ts).flatMap line := by simp
     rw [e] at he
     exact ht _ he
theorem gen_list {S R : Type} (L : List S → Nat → Nat → Option R) (n : Nat) (node : Nat → S) (fin : List S → R)
  (hend : ∀ acc, acc.length ≤ n → Ev (L acc n) (fin acc)) (hone : ∀ i, i < n → ∀ acc : List S, acc.length ≤ i → ∀ r, Ev (L (acc ++ [node i]) (i + 1)) r → Ev (L acc i) r) :
  ∀ (d i : Nat) (acc : List S), i + d = n → acc.length ≤ i → Ev (L acc i) (fin (acc ++ (List.range' i d).map node))
 | 0, i, acc, h, ha => by
  obtain rfl : i = n := by omega
  simpa using hend acc ha
 | d + 1, i, acc, h, ha => by
  have ih := gen_list L n node fin hend hone d (i + 1) (acc ++ [node i]) (by omega) (by simp; omega)
  rw [List.append_assoc, List.singleton_append, ← List.map_cons] at ih
  have e : i :: List.range' (i + 1) d = List.range' i (d + 1) := by simp [List.range'_succ]
  rw [e] at ih
  exact hone i (by omega) acc ha _ ih
theorem range_map {T S : Type} (ts : List T) (f : T → S) (node : Nat → S) (h : ∀ (i : Nat) (hi : i < ts.length), node i = f ts[i]) : (List.range' 0 ts.length).map node = ts.map f := by
 apply List.ext_getElem
 ·simp
 ·intro i h1 h2
  simp only [List.length_map, List.length_range'] at h1
  simp [h i h1]
structure LnOk (l : List UInt8) : Prop where
 ne : l ≠ []
 ch : ∀ c ∈ l, c ≠ 10 ∧ c ≠ 13
 len : l.length < 65536
theorem line_ok (a b : List UInt8) (h : LnOk a) (hs : (a ++ 10 :: b).length ≤ 1000000) : ¬ (strB (a ++ 10 :: b)).size = 0 ∧ LineOk (strB (a ++ 10 :: b)) ∧ GL.lineOf (strB (a ++ 10 :: b)) = strB a ∧ GL.restOf (strB (a ++ 10 :: b)) = strB b := by
 have h10 : ∀ c ∈ a, c ≠ 10 := fun c hc => (h.ch c hc).1
 have hp : 0 < a.length := List.length_pos_iff.2 h.ne
 refine ⟨by rw [strB_size]; simp, ⟨by rw [strB_size]; omega, by rw [lineEnd_lf a b h10]; exact h.len, ?_⟩, lineOf_lf a b h10, restOf_lf a b h10⟩
 rw [lineOf_lf a b h10, strB_size, show ((a.length : Nat) : Int) - 1 = ((a.length - 1 : Nat) : Int) by omega, GL.bt_list _ _ (by rw [strB_size]; omega)]
 intro e
 have hm : a[a.length - 1]'(by omega) ∈ a := List.getElem_mem _
 apply (h.ch _ hm).2
 apply UInt8.toNat_inj.1
 have : ((strB a).data.toList[a.length - 1]'(by rw [strB_dl]; omega)) = a[a.length - 1]'(by omega) := by simp only [strB_dl]
 rw [← this]
 show _ = 13
 omega
theorem rows_end {α : Type} (L : ByteArray → Option (Option α)) (q : Nat) : rowsF L (q + 1) (strB []) = some [] := by
 unfold rowsF
 rw [if_pos (by rw [strB_size]; rfl)]
theorem rows_cons {α : Type} (L : ByteArray → Option (Option α)) (q : Nat) (a b : List UInt8) (h : LnOk a) (hs : (a ++ 10 :: b).length ≤ 1000000) (m : Option α) (ms : List α) (hm : L (strB a) = some m) (hr : rowsF L q (strB b) = some ms) :
  rowsF L (q + 1) (strB (a ++ 10 :: b)) = some (m.toList ++ ms) := by
 obtain ⟨h1, h2, h3, h4⟩ := line_ok a b h hs
 unfold rowsF
 rw [if_neg h1, if_pos h2, h3, h4, hm, hr]
 rfl
theorem rows_text {T α : Type} (L : ByteArray → Option (Option α)) (line : T → List UInt8) (val : T → α) : ∀ (ts : List T) (q : Nat), ts.length < q → (∀ t ∈ ts, LnOk (line t) ∧ L (strB (line t)) = some (some (val t))) → (ts.flatMap fun t => line t ++ [10]).length ≤ 1000000 →
  rowsF L q (strB (ts.flatMap fun t => line t ++ [10])) = some (ts.map val)
 | [], q + 1, _, _, _ => rows_end L q
 | t :: ts, q + 1, hq, h, hl => by
  have e : (t :: ts).flatMap (fun t => line t ++ [10]) = line t ++ 10 :: ts.flatMap (fun t => line t ++ [10]) := by simp
  rw [e] at hl ⊢
  have ih := rows_text L line val ts q (by simpa using hq) (fun u hu => h u (by simp [hu])) (by simp only [List.length_append, List.length_cons] at hl; omega)
  exact rows_cons L q (line t) _ (h t (by simp)).1 hl (some (val t)) _ (h t (by simp)).2 ih
theorem rowsF_more {α : Type} {L : ByteArray → Option (Option α)} : ∀ {q k : Nat} {t : ByteArray} {r : List α}, q ≤ k → rowsF L q t = some r → rowsF L k t = some r
 | 0, _, _, _, _, h => by cases h
 | q + 1, 0, _, _, hk, _ => by omega
 | q + 1, k + 1, t, r, hk, h => by
  unfold rowsF at h ⊢
  split at h
  ·rename_i h0; rw [if_pos h0]; exact h
  ·rename_i h0
   rw [if_neg h0]
   split at h
   ·rename_i h1
    rw [if_pos h1]
    obtain ⟨m, hm, h⟩ := Option.bind_eq_some_iff.1 h
    obtain ⟨ms, hms, h⟩ := Option.bind_eq_some_iff.1 h
    rw [hm, Option.bind_some, rowsF_more (by omega) hms, Option.bind_some]
    exact h
   ·cases h
theorem flat_len {T : Type} (line : T → List UInt8) : ∀ (ts : List T) (t : T), t ∈ ts → (line t).length ≤ (ts.flatMap line).length
 | [], t, h => by cases h
 | u :: ts, t, h => by
  rw [List.flatMap_cons, List.length_append]
  rcases List.mem_cons.1 h with rfl | h
  ·omega
  ·have := flat_len line ts t h; omega
theorem read_text (l : List UInt8) (h : l.length ≤ 1048576) : texts_Read.f (strB l) = some (l.map (fun b => (b.toNat : Int)), none) := by
 unfold texts_Read.f
 rw [if_pos (by rw [strB_size]; omega), strB_dl]
theorem nums_text (l : List UInt8) : strOfNums (l.map (fun b => (b.toNat : Int))) = strB l := by
 have := strNums2 (strB l)
 rw [strB_dl] at this
 exact this
theorem gen_end {print : Nat → Option (ByteArray × Int)} {tree : Nat → Option (ByteArray × Int × Bool × Int × Int × Nat × ByteArray × List S39 × Int)} {door : ByteArray → S43 → Prop} {l : List S31} (h : l.length ≤ 1000) (text : List UInt8)
  (hp : Ev print (strB text, 1)) (d : Nat) (n : S43) (hf : text.length ≤ 40000 → FitN d n)
  (ht : text.length ≤ 40000 → Ev tree ((convN d n).f0, (convN d n).f1, (convN d n).f2, (convN d n).f3, (convN d n).f4, (convN d n).f5, (convN d n).f6, (convN d n).f7, 1)) (hd : text.length ≤ 40000 → door (strB text) n) : BackOk print tree door l := by
 by_cases hsz : 40000 < text.length
 ·obtain ⟨K, hk⟩ := hp
  exact .noPrint h K _ _ (hk K (Nat.le_refl _)) (.inr (by rw [strB_size]; exact hsz))
 ·exact back_same h _ hp (by rw [strB_size]; omega) d n (hf (by omega)) (ht (by omega)) (hd (by omega))
theorem gen_no {print : Nat → Option (ByteArray × Int)} {tree : Nat → Option (ByteArray × Int × Bool × Int × Int × Nat × ByteArray × List S39 × Int)} {door : ByteArray → S43 → Prop} {l : List S31} (h : l.length ≤ 1000) (hp : Ev print (⟨#[]⟩, 2)) : BackOk print tree door l := by
 obtain ⟨K, hk⟩ := hp
 exact .noPrint h K _ _ (hk K (Nat.le_refl _)) (.inl (by decide))
end Go.Proofs.YtednjmngalmdkaaGreatDoor.GPC
end
section
/- spec.upper: a number in hexadecimal digits, large letters. Conditions: what spec.Padded answers, of at most a million bytes. -/
namespace Go.Proofs.YtednjmngalmdkaaGreatDoor.GPC
open Go.RowKit Go.Proofs.YtednjmngalmdkaaGreatDoorW.PrintWords Go.Proofs.YtednjmngalmdkaaGreatDoorW.PrintLast
set_option linter.unusedVariables false
set_option linter.unusedSimpArgs false
def upI (c : Int) : Int := if c ≥ 97 then IntKind.u8.wrap (c - 32) else c
def upM (L : List Int) (x : Nat) : List Value := ((L.take x).map upI ++ L.drop x).map (Value.int .u8)
end Go.Proofs.YtednjmngalmdkaaGreatDoor.GPC
end
section
/- Hexadecimal numbers with noughts ahead, in small or great letters, and decimal ones: printed, read by strconv.ParseUint; spec.counted; texts with blanks behind. Conditions: as they say. -/
namespace Go.Proofs.YtednjmngalmdkaaGreatDoor.GPC
open Go Go.RowKit Go.Proofs.YtednjmngalmdkaaGreatDoorW.PrintWords Go.Proofs.YtednjmngalmdkaaGreatDoorW.PrintLast Go.Proofs.YtednjmngalmdkaaGreatDoor.PF
set_option linter.unusedVariables false
theorem shl32 : (IntKind.u64.wrap ((IntKind.u64.wrap ((shl .u64 1 (wrap64 (32 - 1))) * 2)) - 1)) = 4294967295 := by decide +kernel
theorem counted_l (f0 : ByteArray) (l : List Int) (f2 : List ByteArray) (n w : Int) (hl : l.length ≤ 2147483647) : ∀ (d i : Nat), i + d = l.length →
  ∃ b, Ev (fun k => spec_counted.l0 k n 32 w l (l.length : Int) (i : Int) f0 l f2) b ∧ (b = true → (l.length : Int) = n ∧ (f2.length : Int) = w ∧ ∀ x ∈ l.drop i, x ≤ 4294967295)
 | 0, i, h => by
  by_cases h1 : (l.length : Int) = n
  ·refine ⟨_, Ev.step (f := fun _ => some ((f2.length : Int) == w)) (fun k => by simp only [spec_counted.l0]; rw [if_neg (by omega), if_pos h1]) (Ev.now _), fun e => ⟨h1, beq_iff_eq.1 e, fun x hx => ?_⟩⟩
   rw [List.drop_eq_nil_of_le (by omega)] at hx; cases hx
  ·exact ⟨false, Ev.step (f := fun _ => some false) (fun k => by simp only [spec_counted.l0]; rw [if_neg (by omega), if_neg h1]) (Ev.now _), fun e => by cases e⟩
 | d + 1, i, h => by
  have hi : i < l.length := by omega
  have hw : wrap64 ((i : Int) + 1) = ((i + 1 : Nat) : Int) := by unfold wrap64; omega
  have h31 : 0 ≤ wrap64 (32 - 1) := by unfold wrap64; omega
  have hrd : rd l (i : Int) = l[i] := by simp [rd, List.getD_eq_getElem?_getD, List.getElem?_eq_getElem hi]
  by_cases hc : rd l (i : Int) > 4294967295
  ·exact ⟨false, Ev.step (f := fun _ => some false) (fun k => by simp only [spec_counted.l0]; rw [if_pos (by omega), if_pos (by omega), if_pos (by omega), if_pos h31, shl32, if_pos hc]) (Ev.now _), fun e => by cases e⟩
  ·obtain ⟨b, hb, hx⟩ := counted_l f0 l f2 n w hl d (i + 1) (by omega)
   refine ⟨b, Ev.step (fun k => by simp only [spec_counted.l0]; rw [if_pos (by omega), if_pos (by omega), if_pos (by omega), if_pos h31, shl32, if_neg hc, hw]) hb, fun e => ⟨(hx e).1, (hx e).2.1, fun x hm => ?_⟩⟩
   rw [List.drop_eq_getElem_cons hi] at hm
   rcases List.mem_cons.1 hm with rfl | hm
   ·rw [hrd] at hc; omega
   ·exact (hx e).2.2 x hm
theorem counted_ev (f0 : ByteArray) (l : List Int) (f2 : List ByteArray) (n w : Int) (hl : l.length ≤ 2147483647) :
  ∃ b, Ev (fun k => spec_counted.f k f0 l f2 n 32 w) b ∧ (b = true → (l.length : Int) = n ∧ (f2.length : Int) = w ∧ ∀ x ∈ l, x ≤ 4294967295) := by
 obtain ⟨b, hb, hx⟩ := counted_l f0 l f2 n w hl l.length 0 (by omega)
 exact ⟨b, Ev.congr (fun k => rfl) hb, fun e => by simpa using hx e⟩
def hexP (m n : Nat) : List UInt8 := padL m (digB 16 n)
theorem hex_digits (n : Nat) (h : n < 4294967296) : (digB 16 n).length ≤ 8 := digB_length 16 n 7 (by omega) (by omega)
theorem hexP_len (m n : Nat) (h : n < 4294967296) (hm : m ≤ 8) : (hexP m n).length ≤ 8 := by
 have := hex_digits n h
 simp only [hexP, padL, List.length_append, List.length_replicate]
 omega
theorem hexP_dig (m n : Nat) : ∀ c ∈ hexP m n, isDig c = true := fun c hc => by
 rcases List.mem_append.1 hc with hc | hc
 ·rw [(List.mem_replicate.1 hc).2]; decide
 ·exact digB_dig 16 n (by omega) (by omega) c hc
theorem hexP_ne (m n : Nat) : hexP m n ≠ [] := by
 intro e
 have := digB_ne 16 n
 simp only [hexP, padL, List.append_eq_nil_iff] at e
 exact this e.2
theorem hexP_pu (m n mx : Nat) (h : n ≤ mx) : puN 16 mx 0 (hexP m n) = some n := by
 unfold hexP padL
 rw [puN_noughts 16 mx (by omega), puN_dig 16 n mx (by omega) (by omega) h]
theorem pu_hex32 (l : List UInt8) (n : Nat) (hne : l ≠ []) (hl : l.length ≤ 1000) (h : puN 16 4294967295 0 l = some n) : puF (strB l) 16 32 = some (n : Int) := by
 have hp : 0 < l.length := List.length_pos_iff.2 hne
 unfold puF strconv_ParseUint.f istrconv_ParseUint.f
 rw [if_neg (by rw [strB_size]; omega), if_neg (by decide), if_neg (by decide), if_pos ⟨rfl, rfl⟩, if_neg (by rw [strB_size]; omega), strB_dl, h]
 rfl
end Go.Proofs.YtednjmngalmdkaaGreatDoor.GPC
end
section
/- What /proc/net/softnet_stat says, written, is read as its tree: on numbers and lists alone. Condition: rows as a call's arguments hold them (RowOk). -/
namespace Go.Proofs.YtednjmngalmdkaaGreatDoor.GPC
open Go Go.RowKit Go.Proofs.YtednjmngalmdkaaGreatDoorW.PrintWords Go.Proofs.YtednjmngalmdkaaGreatDoorW.PrintLast Go.Proofs.YtednjmngalmdkaaGreatDoor.PF
set_option linter.unusedVariables false
abbrev SnT := List Nat
structure SnGood (r : S31) (t : SnT) : Prop where
 n : r.f1 = intsOf t
 l : t.length = 13 ∨ t.length = 15
 small : ∀ n ∈ t, n < 4294967296
theorem sn_fine (l : List S31) (hl : l.length ≤ 1000) (hf : ∀ r ∈ l, FitR r ∧ OP.RowOk r) : ∀ (d i : Nat), i + d = l.length →
  ∃ b, Ev (fun k => spec_softnetFine.l0 k l l (l.length : Int) (i : Int)) b ∧ (b = true → ∀ (j : Nat) (hj : j < l.length), i ≤ j → ∃ t, SnGood l[j] t)
 | 0, i, h => ⟨true, Ev.step (f := fun _ => some true) (fun k => by simp only [spec_softnetFine.l0]; rw [if_neg (by omega)]) (Ev.now _), fun _ j hj h2 => by omega⟩
 | d + 1, i, h => by
  have hi : i < l.length := by omega
  have hw : wrap64 ((i : Int) + 1) = ((i + 1 : Nat) : Int) := by unfold wrap64; omega
  have hrd := grd31 l i hi
  obtain ⟨hfr, hro⟩ := hf l[i] (List.getElem_mem _)
  obtain ⟨ns, hns⟩ : ∃ ns, l[i].f1 = intsOf ns := ⟨_, gints_of _ hro⟩
  have hnl : ns.length ≤ 2147483647 := by have := hfr.n; rwa [hns, intsOf_len] at this
  obtain ⟨b2, hb2, hx2⟩ := counted_ev l[i].f0 (intsOf ns) l[i].f2 (ns.length : Int) 0 (by rw [intsOf_len]; exact hnl)
  obtain ⟨b, hb, hx⟩ := sn_fine l hl hf d (i + 1) (by omega)
  by_cases h0 : (l[i].f0).toList = ([] : List UInt8)
  ·by_cases hlen : ns.length = 13 ∨ ns.length = 15
   ·by_cases hq : (ns.length : Int) = (((rd_T31 l 0).f1).length : Int)
    ·have hst : ∀ k, spec_softnetFine.l0 (k + 1) l l (l.length : Int) (i : Int) = (spec_counted.f k l[i].f0 (intsOf ns) l[i].f2 (ns.length : Int) 32 0).bind fun t568 => (if t568 = true then spec_softnetFine.l0 k l l (l.length : Int) ((i + 1 : Nat) : Int) else some false) := fun k => by
      simp only [spec_softnetFine.l0]
      rw [if_pos (by omega), if_pos (by omega), if_pos (by omega), hrd, hns, hw, if_pos h0, intsOf_len]
      rcases hlen with hlen | hlen
      ·rw [if_pos (by omega), if_pos (by omega), if_pos hq]
      ·rw [if_neg (by omega), if_pos (by omega), if_pos (by omega), if_pos hq]
     cases b2 with
     | false => exact ⟨false, Ev.step hst (evB hb2 (evN (by decide) (Ev.now _))), fun e => by cases e⟩
     | true =>
      obtain ⟨_, _, hsm⟩ := hx2 rfl
      refine ⟨b, Ev.step hst (evB hb2 (evP rfl hb)), fun e j hj hij => ?_⟩
      by_cases hji : j = i
      ·subst hji
       exact ⟨ns, ⟨hns, hlen, fun n hn => by
        have := hsm (n : Int) (by unfold intsOf; exact List.mem_map.2 ⟨n, hn, rfl⟩)
        omega⟩⟩
      ·exact hx e j hj (by omega)
    ·refine ⟨false, Ev.step (f := fun _ => some false) (fun k => ?_) (Ev.now _), fun e => by cases e⟩
     simp only [spec_softnetFine.l0]
     rw [if_pos (by omega), if_pos (by omega), if_pos (by omega), hrd, hns, hw, if_pos h0, intsOf_len]
     rcases hlen with hlen | hlen
     ·rw [if_pos (by omega), if_pos (by omega), if_neg hq]
     ·rw [if_neg (by omega), if_pos (by omega), if_pos (by omega), if_neg hq]
   ·refine ⟨false, Ev.step (f := fun _ => some false) (fun k => ?_) (Ev.now _), fun e => by cases e⟩
    simp only [spec_softnetFine.l0]
    rw [if_pos (by omega), if_pos (by omega), if_pos (by omega), hrd, hns, hw, if_pos h0, intsOf_len, if_neg (by omega), if_neg (by omega)]
  ·refine ⟨false, Ev.step (f := fun _ => some false) (fun k => ?_) (Ev.now _), fun e => by cases e⟩
   simp only [spec_softnetFine.l0]
   rw [if_pos (by omega), if_pos (by omega), if_pos (by omega), hrd, if_neg h0]
def snSep (i : Nat) : List UInt8 := if 0 < i then [32] else []
def snFrom : Nat → List Nat → List UInt8
 | _, [] => []
 | i, n :: r => snSep i ++ (hexP 8 n ++ snFrom (i + 1) r)
def snLn (t : SnT) : List UInt8 := snFrom 0 t
theorem snSep_len (i : Nat) : (snSep i).length ≤ 1 := by unfold snSep; split <;> simp
theorem snFrom_len : ∀ (ns : List Nat) (i : Nat), (∀ n ∈ ns, n < 4294967296) → (snFrom i ns).length ≤ 10 * ns.length
 | [], i, _ => by simp [snFrom]
 | n :: r, i, h => by
  have h1 := snFrom_len r (i + 1) (fun m hm => h m (by simp [hm]))
  have h2 := snSep_len i
  have h3 := hexP_len 8 n (h n (by simp)) (by omega)
  simp only [snFrom, List.length_append, List.length_cons]
  omega
theorem sn_nums (l : List S31) (n i : Int) (ns : List Nat) (hl : ns.length ≤ 1000) (hn : ∀ n ∈ ns, n < 4294967296) (r : ByteArray × Int) : ∀ (d j : Nat) (acc : List UInt8), j + d = ns.length → acc.length + 100 * d ≤ 1000000000000000000 →
  Ev (fun k => spec_SoftnetPrint.l0 k (strB (acc ++ (snFrom j (ns.drop j) ++ [10]))) l n (wrap64 (i + 1))) r →
  Ev (fun k => spec_SoftnetPrint.l1 k (strB acc) l n i (intsOf ns) (ns.length : Int) (j : Int)) r
 | 0, j, acc, h, ha, hr => by
  rw [List.drop_eq_nil_of_le (by omega)] at hr
  refine Ev.step (fun k => ?_) hr
  simp only [spec_SoftnetPrint.l1]
  rw [if_neg (by omega), if_pos (by rw [strB_size]; omega)]
  rw [show strB acc ++ (⟨#[10]⟩ : ByteArray) = strB (acc ++ [10]) from strB_append acc [10]]
  rfl
 | d + 1, j, acc, h, ha, hr => by
  have hj : j < ns.length := by omega
  have hm := hn ns[j] (List.getElem_mem _)
  have hw : wrap64 ((j : Int) + 1) = ((j + 1 : Nat) : Int) := by unfold wrap64; omega
  have hpl := hexP_len 8 ns[j] hm (by omega)
  have hsl := snSep_len j
  have hpad := padded_ev ns[j] 16 8 (by omega) (by omega) (by omega) (by omega)
  have e : acc ++ (snFrom j (ns.drop j) ++ [10]) = (acc ++ (snSep j ++ hexP 8 ns[j])) ++ (snFrom (j + 1) (ns.drop (j + 1)) ++ [10]) := by
   rw [List.drop_eq_getElem_cons hj]
   simp only [snFrom, List.append_assoc]
  rw [e] at hr
  have ih := sn_nums l n i ns hl hn r d (j + 1) (acc ++ (snSep j ++ hexP 8 ns[j])) (by omega) (by simp only [List.length_append]; omega) hr
  refine Ev.step (f := fun k => (spec_Padded.f k ((ns[j] : Nat) : Int) (16 : Nat) (8 : Nat)).bind fun t => if (strB (acc ++ snSep j)).size + t.size ≤ 9223372036854775807 then spec_SoftnetPrint.l1 k (strB (acc ++ snSep j) ++ t) l n i (intsOf ns) (ns.length : Int) ((j + 1 : Nat) : Int) else none) (fun k => ?_) ?_
  ·simp only [spec_SoftnetPrint.l1]
   rw [if_pos (by omega), if_pos (by omega), if_pos (by rw [intsOf_len]; omega), rd_ints ns j hj, hw, show (⟨#[32]⟩ : ByteArray) = strB [32] from rfl]
   by_cases h0 : (j : Int) > 0
   ·have e1 : snSep j = [32] := by unfold snSep; rw [if_pos (by omega)]
    rw [if_pos h0, if_pos (by rw [strB_size]; omega), strB_append, e1]
    rfl
   ·have e1 : snSep j = [] := by unfold snSep; rw [if_neg (by omega)]
    rw [if_neg h0, e1, List.append_nil]
    rfl
  ·refine evB hpad (evG (by rw [strB_size, strB_size]; unfold hexP at hpl; simp only [List.length_append]; omega) ?_)
   rw [strB_append, List.append_assoc]
   exact ih
theorem sn_len (t : SnT) (h : t.length = 13 ∨ t.length = 15) (hn : ∀ n ∈ t, n < 4294967296) : (snLn t ++ [10]).length ≤ 3000000000 := by
 have := snFrom_len t 0 hn
 unfold snLn
 simp only [List.length_append, List.length_cons, List.length_nil]
 omega
theorem sn_one (l : List S31) (hl : l.length ≤ 1000) (i : Nat) (hi : i < l.length) (acc : List UInt8) (hacc : acc.length ≤ 100000000000000000) (t : SnT) (g : SnGood l[i] t) (r : ByteArray × Int)
  (hr : Ev (fun k => spec_SoftnetPrint.l0 k (strB (acc ++ (snLn t ++ [10]))) l (l.length : Int) ((i + 1 : Nat) : Int)) r) : Ev (fun k => spec_SoftnetPrint.l0 k (strB acc) l (l.length : Int) (i : Int)) r := by
 have hw : wrap64 ((i : Int) + 1) = ((i + 1 : Nat) : Int) := by unfold wrap64; omega
 have hrd := grd31 l i hi
 have hgl := g.l
 have h1 := sn_nums l (l.length : Int) (i : Int) t (by omega) g.small r t.length 0 acc (by omega) (by omega) (by rw [List.drop_zero, hw]; exact hr)
 refine Ev.step (fun k => ?_) h1
 simp only [spec_SoftnetPrint.l0]
 rw [if_pos (by omega), if_pos (by omega), if_pos (by omega), hrd, g.n, intsOf_len]
 rfl
theorem sn_hexmem (m n : Nat) (c : UInt8) (h : c ∈ hexP m n) : (48 ≤ c.toNat ∧ c.toNat ≤ 57) ∨ (97 ≤ c.toNat ∧ c.toNat ≤ 102) := by
 have := hexP_dig m n c h
 unfold isDig at this
 rw [Bool.or_eq_true, Bool.and_eq_true, Bool.and_eq_true] at this
 rcases this with h | h
 ·exact .inl ⟨of_decide_eq_true h.1, of_decide_eq_true h.2⟩
 ·exact .inr ⟨of_decide_eq_true h.1, of_decide_eq_true h.2⟩
theorem sn_hexsp (m n : Nat) : ∀ c ∈ hexP m n, Lib.isSp c = false := fun c hc => isDig_sp (hexP_dig m n c hc)
theorem sn_chars : ∀ (ns : List Nat) (i : Nat), ∀ x ∈ snFrom i ns, x.toNat < 128 ∧ x ≠ 10 ∧ x ≠ 13
 | [], i, x, hx => by cases hx
 | n :: r, i, x, hx => by
  unfold snFrom at hx
  rcases List.mem_append.1 hx with hx | hx
  ·have : x = 32 := by
    unfold snSep at hx
    split at hx
    ·simpa using hx
    ·cases hx
   rw [this]; decide
  rcases List.mem_append.1 hx with hx | hx
  ·have := sn_hexmem 8 n x hx
   exact ⟨by omega, fun e => by rw [e] at this; revert this; decide, fun e => by rw [e] at this; revert this; decide⟩
  ·exact sn_chars r (i + 1) x hx
theorem sn_fields : ∀ (ns : List Nat) (i : Nat), Lib.fields (snFrom i ns) = ns.map (hexP 8)
 | [], i => rfl
 | n :: r, i => by
  have hs : ∀ c ∈ snSep i, Lib.isSp c = true := fun c hc => by
   have : c = 32 := by
    unfold snSep at hc
    split at hc
    ·simpa using hc
    ·cases hc
   rw [this]; decide
  unfold snFrom
  rw [fields_blanks _ _ hs]
  cases r with
  | nil => rw [show snFrom (i + 1) [] = [] from rfl, List.append_nil]; exact fields_last _ (hexP_ne 8 n) (sn_hexsp 8 n)
  | cons m r =>
   have ih := sn_fields (m :: r) (i + 1)
   obtain ⟨z, hz⟩ : ∃ z, snFrom (i + 1) (m :: r) = 32 :: z := by
    unfold snFrom snSep
    rw [if_pos (by omega)]
    exact ⟨_, rfl⟩
   rw [hz] at ih ⊢
   rw [fields_word _ 32 z (hexP_ne 8 n) (sn_hexsp 8 n) (by decide), ih]
   rfl
theorem u32_id (n : Nat) (h : n < 4294967296) : IntKind.u32.wrap (n : Int) = n := by
 unfold IntKind.wrap
 simp [IntKind.bits, IntKind.signed]
 omega
theorem u64_id (n : Nat) (h : n < 4294967296) : IntKind.u64.wrap (n : Int) = n := by
 unfold IntKind.wrap
 simp [IntKind.bits, IntKind.signed]
 omega
theorem snW_at (t : SnT) (i : Nat) (h : i < t.length) : snW ((t.map (hexP 8)).map strB) i = strB (hexP 8 t[i]) := by
 unfold snW
 rw [rdOf_el _ _ (by omega) (by simp; omega)]
 simp
theorem sn_hexs (t : SnT) (hs : ∀ n ∈ t, n < 4294967296) : ∀ (m o : Nat), o + m ≤ t.length → hx32 (snW ((t.map (hexP 8)).map strB)) o m = some (intsOf ((t.drop o).take m))
 | 0, o, h => by rw [List.take_zero]; rfl
 | m + 1, o, h => by
  have ho : o < t.length := by omega
  have ih := sn_hexs t hs m (o + 1) (by omega)
  have hm := hs t[o] (List.getElem_mem _)
  have hl := hexP_len 8 t[o] hm (by omega)
  rw [hx32, snW_at t o ho, pu_hex32 (hexP 8 t[o]) t[o] (hexP_ne 8 _) (by omega) (hexP_pu 8 _ _ (by omega)), Option.bind_some, ih, List.drop_eq_getElem_cons ho, List.take_succ_cons]
  simp only [Option.map_some, u32_id _ hm]
  rfl
def snV (t : SnT) (i : Nat) : Nat := t.getD i 0
def snS (t : SnT) : S120 := ⟨snV t 0, snV t 1, snV t 2, snV t 8, snV t 9, snV t 10, snV t 11, snV t 12, (t.length : Int)⟩
theorem ints_getD (l : List Nat) (i : Nat) : (intsOf l).getD i 0 = ((l.getD i 0 : Nat) : Int) := by
 simp only [intsOf, List.getD_eq_getElem?_getD, List.getElem?_map]
 cases l[i]? <;> rfl
theorem cut_getD (t : SnT) (o m i : Nat) (h : i < m) : ((t.drop o).take m).getD i 0 = snV t (o + i) := by
 simp only [snV, List.getD_eq_getElem?_getD, List.getElem?_take, List.getElem?_drop, if_pos h]
theorem sn_line (r : S31) (t : SnT) (g : SnGood r t) (hl : (snLn t).length ≤ 40000) : LnOk (snLn t) ∧ snL (strB (snLn t)) = some (some (snS t)) := by
 have hch := sn_chars t 0
 have hfd := sn_fields t 0
 have hgl := g.l
 refine ⟨⟨(fun e => by unfold snLn at e; rw [e] at hfd; have := congrArg List.length hfd; rw [List.length_map] at this; have h0 : (Lib.fields []).length = 0 := rfl; omega), (fun c hc => (hch c hc).2), by omega⟩, ?_⟩
 have hf : strings_Fields.f (strB (snLn t)) = some ((t.map (hexP 8)).map strB) := by
  unfold strings_Fields.f
  rw [if_pos ⟨by rw [strB_size]; omega, by rw [strB_dl, List.all_eq_true]; exact fun c hc => decide_eq_true (hch c hc).1⟩, strB_dl, show Lib.fields (snLn t) = _ from hfd]
  rfl
 unfold snL
 rw [hf, Option.bind_some]
 have hF : snF ((t.map (hexP 8)).map strB) = some (snS t) := by
  unfold snF
  rw [if_pos (by simp only [List.length_map]; omega), sn_hexs t g.small 9 0 (by omega), sn_hexs t g.small 1 9 (by omega), sn_hexs t g.small 1 10 (by omega), sn_hexs t g.small 2 11 (by omega)]
  simp only [Option.bind_some, ints_getD]
  rw [cut_getD t 0 9 0 (by omega), cut_getD t 0 9 1 (by omega), cut_getD t 0 9 2 (by omega), cut_getD t 0 9 8 (by omega), cut_getD t 9 1 0 (by omega), cut_getD t 10 1 0 (by omega), cut_getD t 11 2 0 (by omega), cut_getD t 11 2 1 (by omega)]
  simp only [List.length_map]
  rfl
 rw [hF]
 rfl
def snNames : List ByteArray := [⟨#[80, 114, 111, 99, 101, 115, 115, 101, 100]⟩, ⟨#[68, 114, 111, 112, 112, 101, 100]⟩, ⟨#[84, 105, 109, 101, 83, 113, 117, 101, 101, 122, 101, 100]⟩, ⟨#[67, 80, 85, 67, 111, 108, 108, 105, 115, 105, 111, 110]⟩, ⟨#[82, 101, 99, 101, 105, 118, 101, 100, 82, 112, 115]⟩, ⟨#[70, 108, 111, 119, 76, 105, 109, 105, 116, 67, 111, 117, 110, 116]⟩, ⟨#[83, 111, 102, 116, 110, 101, 116, 66, 97, 99, 107, 108, 111, 103, 76, 101, 110]⟩, ⟨#[73, 110, 100, 101, 120]⟩]
def snWidth : ByteArray := ⟨#[87, 105, 100, 116, 104]⟩
def snIdx : List Nat := [0, 1, 2, 8, 9, 10, 11, 12]
def snPairs (t : SnT) : List (ByteArray × Int) := snNames.zip (snIdx.map fun i => (snV t i : Int))
def snKid39 (p : ByteArray × Int) : S39 := ⟨p.1, 3, false, 0, p.2, 0, ⟨#[]⟩, []⟩
def snKid43 (p : ByteArray × Int) : S43 := ⟨p.1, 3, false, 0, p.2, 0, ⟨#[]⟩, []⟩
def snN39 (t : SnT) : S39 := ⟨⟨#[]⟩, 8, false, 0, 0, 0, ⟨#[]⟩, (snPairs t).map snKid39 ++ [⟨snWidth, 2, false, (t.length : Int), 0, 0, ⟨#[]⟩, []⟩]⟩
def snN43 (t : SnT) : S43 := ⟨⟨#[]⟩, 8, false, 0, 0, 0, ⟨#[]⟩, (snPairs t).map snKid43 ++ [⟨snWidth, 2, false, (t.length : Int), 0, 0, ⟨#[]⟩, []⟩]⟩
def snAll (ts : List SnT) : S43 := ⟨⟨#[]⟩, 6, false, 0, 0, 0, ⟨#[]⟩, ts.map snN43⟩
theorem sn_conv (ts : List SnT) : convN 2 (snAll ts) = ⟨⟨#[]⟩, 6, false, 0, 0, 0, ⟨#[]⟩, ts.map snN39⟩ := by
 have h : ∀ t, convN 1 (snN43 t) = snN39 t := fun t => by
  simp only [snN43, snN39, convN, List.map_append, List.map_map, List.map_cons, List.map_nil]
  congr 1
 simp only [snAll, convN, List.map_map]
 congr 1
 try exact List.map_congr_left fun t _ => h t
theorem sn_fit (ts : List SnT) (hl : ts.length ≤ 1000000) : FitN 2 (snAll ts) := by
 refine ⟨by simpa [snAll] using hl, fun x hx => ?_⟩
 simp only [snAll, List.mem_map] at hx
 obtain ⟨t, _, rfl⟩ := hx
 refine ⟨by simp only [snN43, snPairs, List.length_append, List.length_map, List.length_zip, snNames, snIdx, List.length_cons, List.length_nil]; omega, fun y hy => ?_⟩
 simp only [snN43, List.mem_append, List.mem_map, List.mem_singleton] at hy
 rcases hy with ⟨p, _, rfl⟩ | rfl
 ·rfl
 ·rfl
theorem snV_rd (t : SnT) (i : Nat) (h : i < t.length) : rd (intsOf t) (i : Int) = (snV t i : Int) := by
 rw [rd_ints t i h]
 simp [snV, List.getD_eq_getElem?_getD, List.getElem?_eq_getElem h]
theorem sn_kids (x4 : List S39) (hx4 : x4.length ≤ 1000000) (rows : List S31) (n i : Int) (f0 : ByteArray) (t : SnT) (hl : t.length = 13 ∨ t.length = 15) (f2 : List ByteArray) (r : ByteArray × Int × Bool × Int × Int × Nat × ByteArray × (List (S39)) × Int) : ∀ (d j : Nat) (acc : List S39), j + d = 8 → acc.length ≤ j →
  Ev (fun k => spec_SoftnetTree.l0 k (x4 ++ [⟨⟨#[]⟩, 8, false, 0, 0, 0, ⟨#[]⟩, acc ++ (((snPairs t).drop j).map snKid39 ++ [⟨snWidth, 2, false, (t.length : Int), 0, 0, ⟨#[]⟩, []⟩])⟩]) rows n (wrap64 (i + 1))) r →
  Ev (fun k => spec_SoftnetTree.l1 k x4 acc rows n i [0, 1, 2, 8, 9, 10, 11, 12] 8 (j : Int) f0 (intsOf t) f2) r
 | 0, j, acc, h, ha, hr => by
  rw [List.drop_eq_nil_of_le (by simp [snPairs, snNames, snIdx]; omega), List.map_nil, List.nil_append] at hr
  refine Ev.step (fun k => ?_) hr
  simp only [spec_SoftnetTree.l1]
  rw [if_neg (by omega)]
  simp only [spec_intNode.f, spec_recordNode.f, Option.bind_some]
  rw [if_pos (by omega), if_pos (by omega), intsOf_len]
  rfl
 | d + 1, j, acc, h, ha, hr => by
  have hw1 : wrap64 ((j : Int) + 1) = ((j + 1 : Nat) : Int) := by unfold wrap64; omega
  have hlz : j < (snPairs t).length := by simp [snPairs, snNames, snIdx]; omega
  have hji : j < snIdx.length := by simp [snIdx]; omega
  have his : j < snNames.length := by simp [snNames]; omega
  have hz : (snPairs t)[j] = (snNames[j], ((snV t snIdx[j] : Nat) : Int)) := by
   simp [snPairs, List.getElem_zip]
   rfl
  have e : ∀ (x : S39) (z : List S39), acc ++ (x :: z) = (acc ++ [x]) ++ z := fun x z => by simp
  rw [List.drop_eq_getElem_cons hlz, List.map_cons, List.cons_append, e] at hr
  have hz2 : snKid39 ((snPairs t)[j]'hlz) = ⟨snNames[j], 3, false, 0, ((snV t snIdx[j] : Nat) : Int), 0, ⟨#[]⟩, []⟩ := (congrArg snKid39 hz).trans rfl
  rw [hz2] at hr
  have ih := sn_kids x4 hx4 rows n i f0 t hl f2 r d (j + 1) _ (by omega) (by simp; omega) hr
  have hix : rd [0, 1, 2, 8, 9, 10, 11, 12] (j : Int) = ((snIdx[j] : Nat) : Int) := by
   rw [show ([0, 1, 2, 8, 9, 10, 11, 12] : List Int) = intsOf snIdx from rfl, rd_ints snIdx j hji]
   rfl
  have hlt : snIdx[j] < t.length := by
   have : ∀ x ∈ snIdx, x < 13 := by decide
   have := this snIdx[j] (List.getElem_mem _)
   omega
  have hrn : rdOf ByteArray.empty ([⟨#[80, 114, 111, 99, 101, 115, 115, 101, 100]⟩, ⟨#[68, 114, 111, 112, 112, 101, 100]⟩, ⟨#[84, 105, 109, 101, 83, 113, 117, 101, 101, 122, 101, 100]⟩, ⟨#[67, 80, 85, 67, 111, 108, 108, 105, 115, 105, 111, 110]⟩, ⟨#[82, 101, 99, 101, 105, 118, 101, 100, 82, 112, 115]⟩, ⟨#[70, 108, 111, 119, 76, 105, 109, 105, 116, 67, 111, 117, 110, 116]⟩, ⟨#[83, 111, 102, 116, 110, 101, 116, 66, 97, 99, 107, 108, 111, 103, 76, 101, 110]⟩, ⟨#[73, 110, 100, 101, 120]⟩, ⟨#[87, 105, 100, 116, 104]⟩] : List ByteArray) (j : Int) = snNames[j] := by
   rw [rdOf_el _ _ (by omega) (by simp; omega)]
   simp only [Int.toNat_natCast]
   exact (List.getElem_append_left his : (snNames ++ [snWidth])[j]'(by simp only [List.length_append, List.length_cons, List.length_nil]; omega) = snNames[j])
  refine Ev.step (fun k => ?_) ih
  simp only [spec_SoftnetTree.l1]
  rw [if_pos (by omega), if_pos (by omega), if_pos (by simp only [List.length_cons, List.length_nil]; omega)]
  simp only [spec_softnetNames.f, Option.bind_some]
  rw [if_pos (by simp only [List.length_cons, List.length_nil]; omega), hix, if_pos (by omega), if_pos (by rw [intsOf_len]; omega), hrn, snV_rd t _ hlt]
  simp only [spec_uintNode.f, Option.bind_some]
  rw [if_pos (by omega), hw1]
theorem sn_tree (l : List S31) (hl : l.length ≤ 1000) (ts : List SnT) (hlen : ts.length = l.length) (hg : ∀ (j : Nat) (h1 : j < l.length) (h2 : j < ts.length), SnGood l[j] ts[j]) :
  Ev (fun k => spec_SoftnetTree.l0 k [] l (l.length : Int) 0) (⟨#[]⟩, 6, false, 0, 0, 0, ⟨#[]⟩, ts.map snN39, 1) := by
 have h := gen_list (fun acc i k => spec_SoftnetTree.l0 k acc l (l.length : Int) (i : Int)) l.length (fun i => snN39 (ts.getD i [])) (fun acc => ((⟨#[]⟩ : ByteArray), (6 : Int), false, (0 : Int), (0 : Int), (0 : Nat), (⟨#[]⟩ : ByteArray), acc, (1 : Int))) ?_ ?_ l.length 0 [] (by omega) (by simp)
 ·rw [← hlen, range_map ts snN39 _ (fun i hi => by simp [List.getD_eq_getElem?_getD, List.getElem?_eq_getElem hi]), List.nil_append, hlen] at h
  exact h
 ·intro acc ha
  refine Ev.step (f := fun _ => some ((⟨#[]⟩ : ByteArray), (6 : Int), false, (0 : Int), (0 : Int), (0 : Nat), (⟨#[]⟩ : ByteArray), acc, (1 : Int))) (fun k => ?_) (Ev.now _)
  simp only [spec_SoftnetTree.l0]
  rw [if_neg (by omega)]
  rfl
 ·intro i hi acc ha r hr
  have hit : i < ts.length := by omega
  have g := hg i hi hit
  have hrd := grd31 l i hi
  have hw : wrap64 ((i : Int) + 1) = ((i + 1 : Nat) : Int) := by unfold wrap64; omega
  have egd : ts.getD i [] = ts[i] := by simp [List.getD_eq_getElem?_getD, List.getElem?_eq_getElem hit]
  rw [egd] at hr
  have hk := sn_kids acc (by omega) l (l.length : Int) (i : Int) l[i].f0 ts[i] g.l l[i].f2 r 8 0 [] (by omega) (by simp) (by rw [hw]; exact hr)
  refine Ev.step (fun k => ?_) hk
  simp only [spec_SoftnetTree.l0]
  rw [if_pos (by omega), if_pos (by omega), if_pos (by omega), hrd, g.n]
  rfl
theorem snV_lt (t : SnT) (h : ∀ n ∈ t, n < 4294967296) (i : Nat) : snV t i < 4294967296 := by
 unfold snV
 rw [List.getD_eq_getElem?_getD]
 cases he : t[i]? with
 | none => decide
 | some x => exact h x (List.mem_of_getElem? he)
theorem sn_node (ts : List SnT) (hl : ts.length ≤ 1000000) (hg : ∀ t ∈ ts, ∃ r, SnGood r t) : Ev (fun k => nodeSoftnet k (ts.map snS)) (snAll ts) := by
 have h := gen_list (fun acc i k => procfs_SoftnetStat.l0 k (ts.map snS) (ts.length : Int) (i : Int) ⟨#[]⟩ 6 false 0 0 0 ⟨#[]⟩ acc) ts.length (fun i => snN43 (ts.getD i [])) (fun acc => ((⟨#[]⟩ : ByteArray), (6 : Int), false, (0 : Int), (0 : Int), (0 : Nat), (⟨#[]⟩ : ByteArray), acc)) ?_ ?_ ts.length 0 [] (by omega) (by simp)
 ·rw [range_map ts snN43 _ (fun i hi => by simp [List.getD_eq_getElem?_getD, List.getElem?_eq_getElem hi]), List.nil_append] at h
  have h1 : Ev (fun k => procfs_SoftnetStat.f k ⟨#[]⟩ (ts.map snS)) (⟨#[]⟩, 6, false, 0, 0, 0, ⟨#[]⟩, ts.map snN43) := Ev.congr (fun k => by unfold procfs_SoftnetStat.f; rw [List.length_map]; rfl) h
  have h2 : Ev (fun k => impl_Softnet_1.f k (ts.map snS)) (⟨#[]⟩, 6, false, 0, 0, 0, ⟨#[]⟩, ts.map snN43) :=
   evB (F := fun _ bt326 => some (bt326.1, bt326.2.1, bt326.2.2.1, bt326.2.2.2.1, bt326.2.2.2.2.1, bt326.2.2.2.2.2.1, bt326.2.2.2.2.2.2.1, bt326.2.2.2.2.2.2.2)) (a := (⟨#[]⟩, 6, false, 0, 0, 0, ⟨#[]⟩, ts.map snN43)) h1 (Ev.now _)
  obtain ⟨K, hK⟩ := h2
  exact ⟨K, fun k hk => by
   have h3 := hK k hk
   simp only at h3
   show Option.map _ (impl_Softnet_1.f k (ts.map snS)) = _
   rw [h3]
   rfl⟩
 ·intro acc ha
  refine Ev.step (f := fun _ => some ((⟨#[]⟩ : ByteArray), (6 : Int), false, (0 : Int), (0 : Int), (0 : Nat), (⟨#[]⟩ : ByteArray), acc)) (fun k => ?_) (Ev.now _)
  simp only [procfs_SoftnetStat.l0]
  rw [if_neg (by omega)]
 ·intro i hi acc ha r hr
  have hw : wrap64 ((i : Int) + 1) = ((i + 1 : Nat) : Int) := by unfold wrap64; omega
  have egd : rd_T120 (ts.map snS) (i : Int) = snS ts[i] := by simp [rd_T120, List.getD_eq_getElem?_getD, hi]
  have egd2 : ts.getD i [] = ts[i] := by simp [List.getD_eq_getElem?_getD, List.getElem?_eq_getElem hi]
  obtain ⟨R, g⟩ := hg ts[i] (List.getElem_mem _)
  rw [egd2] at hr
  refine Ev.step (fun k => ?_) hr
  simp only [procfs_SoftnetStat.l0]
  rw [if_pos (by omega), if_pos (by omega), if_pos (by simp; omega), egd, hw]
  generalize ts[i] = t at g
  have hv := snV_lt t g.small
  have w0 := u64_id _ (hv 0)
  have w1 := u64_id _ (hv 1)
  have w2 := u64_id _ (hv 2)
  have w8 := u64_id _ (hv 8)
  have w9 := u64_id _ (hv 9)
  have w10 := u64_id _ (hv 10)
  have w11 := u64_id _ (hv 11)
  have w12 := u64_id _ (hv 12)
  have key : impl_Softnet_1_1.f (snV t 0) (snV t 1) (snV t 2) (snV t 8) (snV t 9) (snV t 10) (snV t 11) (snV t 12) (t.length : Int) = some (⟨#[]⟩, 8, false, 0, 0, 0, ⟨#[]⟩, (snN43 t).f7) := by
   simp only [impl_Softnet_1_1.f, impl_procfsSoftnetStat.f, Option.bind_some, List.nil_append, List.cons_append, List.length_cons, List.length_nil]
   repeat rw [if_pos (by decide)]
   rw [w0, w1, w2, w8, w9, w10, w11, w12]
   rfl
  show (impl_Softnet_1_1.f (snV t 0) (snV t 1) (snV t 2) (snV t 8) (snV t 9) (snV t 10) (snV t 11) (snV t 12) (t.length : Int)).bind _ = _
  rw [key]
  simp only [Option.bind_some]
  rw [if_pos (by omega)]
  rfl
theorem plainSoftnet (l : List S31) (hl : l.length ≤ maxLen) (hr : ∀ r ∈ l, OP.RowOk r) : ∃ k b, laws_zzFits5.f k l = some b ∧ (b = true → BackOk (fun k => spec_SoftnetPrint.f k l) (fun k => spec_SoftnetTree.f k l) (fun s n => doorSoftnet s n) l) := by
 obtain ⟨k, b, hz, hfit⟩ := zz5fF l
 refine ⟨k, b, hz, fun e => ?_⟩
 obtain ⟨_, hf⟩ := hfit e
 by_cases h1000 : 1000 < l.length
 ·exact .long h1000
 obtain ⟨bf, hbf, hgood⟩ := sn_fine l (by omega) (fun r h => ⟨hf r h, hr r h⟩) l.length 0 (by omega)
 cases bf with
 | false => exact gen_no (by omega) (evB (F := fun k t570 => if t570 = true then _ else _) hbf (evN (by decide) (Ev.now _)))
 | true =>
 rcases gen_print (fun acc i k => spec_SoftnetPrint.l0 k (strB acc) l (l.length : Int) (i : Int)) l.length 1000 3000000000 (by omega) (fun t => snLn t ++ [10]) (fun i t => ∃ h : i < l.length, SnGood l[i] t)
  (fun acc => Ev.step (f := fun _ => some (strB acc, (1 : Int))) (fun k => by simp only [spec_SoftnetPrint.l0]; rw [if_neg (by omega)]) (Ev.now _))
  (fun i hi acc hacc => by
   obtain ⟨t, g⟩ := hgood rfl i hi (by omega)
   exact .inr ⟨t, ⟨hi, g⟩, sn_len t g.l g.small, fun r h => sn_one l (by omega) i hi acc hacc t g r h⟩) l.length 0 [] (by omega) (by simp) with hp0 | ⟨ts, hlen, hg, hp0⟩
 ·exact gen_no (by omega) (evB (F := fun k t570 => if t570 = true then _ else _) hbf (evP rfl hp0))
 have hp : Ev (fun k => spec_SoftnetPrint.f k l) (strB (ts.flatMap fun t => snLn t ++ [10]), 1) := evB (F := fun k t570 => if t570 = true then _ else _) hbf (evP rfl hp0)
 have hg' : ∀ (j : Nat) (h1 : j < l.length) (h2 : j < ts.length), SnGood l[j] ts[j] := fun j h1 h2 => by
  obtain ⟨h, hc⟩ := hg j h2
  simp only [Nat.zero_add] at hc
  exact hc
 have hgt : ∀ t ∈ ts, ∃ r, SnGood r t := fun t ht => by
  obtain ⟨j, hj, rfl⟩ := List.getElem_of_mem ht
  exact ⟨_, hg' j (by omega) hj⟩
 refine gen_end (by omega) _ hp 2 (snAll ts) (fun _ => sn_fit ts (by omega)) (fun _ => ?_) (fun hsz => ?_)
 ·rw [sn_conv]
  exact evB (F := fun k t598 => if t598 = true then _ else _) hbf (evP rfl (sn_tree l (by omega) ts hlen hg'))
 ·have hn := sn_node ts (by omega) hgt
  have hrows : rowsF snL (ts.length + 1) (strB (ts.flatMap fun t => snLn t ++ [10])) = some (ts.map snS) := by
   refine rows_text snL snLn snS ts (ts.length + 1) (by omega) (fun t ht => ?_) (by omega)
   obtain ⟨r, g⟩ := hgt t ht
   have hfl := flat_len (fun t => snLn t ++ [10]) ts t ht
   simp only [List.length_append, List.length_cons, List.length_nil] at hfl
   exact sn_line r t g (by omega)
  have htxt : ∀ k, ts.length + 1 ≤ k → snTextF k (strB (ts.flatMap fun t => snLn t ++ [10])) = some (ts.map snS, none) := fun k hk => by
   unfold snTextF
   rw [read_text _ (by omega)]
   simp only [Option.bind_some, if_true]
   rw [nums_text, rowsF_more hk hrows]
   rfl
  obtain ⟨K, hK⟩ := hn
  exact ⟨K + (ts.length + 1), ts.map snS, htxt _ (by omega), hK _ (by omega)⟩
end Go.Proofs.YtednjmngalmdkaaGreatDoor.GPC
end
