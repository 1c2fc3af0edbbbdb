/- Plain facts: what readFloat gathers of a text of digits with at most one point. No condition. -/
import Derived.Test.YtednjmngalmdkaaGreatDoorWCut
import Derived.Test.YtednjmngalmdkaaGreatDoorPFld
namespace Go.Proofs.YtednjmngalmdkaaGreatDoor.PF
open Go Go.Proofs.YtednjmngalmdkaaGreatDoorW.PrintWords
set_option linter.unusedVariables false
/-- mantissa, digits that count, the point's place, whether there is a point -/
structure RF where
  m : Int
  nd : Int
  dp : Int
  dot : Bool
def RF.step (st : RF) (c : Int) : RF :=
  if c = 46 then ⟨st.m, st.nd, st.nd, true⟩
  else if c = 48 ∧ st.nd = 0 then ⟨st.m, st.nd, st.dp - 1, st.dot⟩
  else ⟨st.m * 10 + (c - 48), st.nd + 1, st.dp, st.dot⟩
def rfL : List UInt8 → RF → RF
  | [], st => st
  | c :: l, st => rfL l (st.step (c.toNat : Int))
def rf0 : RF := ⟨0, 0, 0, false⟩
theorem rfL_append : ∀ (x y : List UInt8) (st : RF), rfL (x ++ y) st = rfL y (rfL x st)
  | [], _, _ => rfl
  | c :: x, y, st => rfL_append x y _
def rfAt (s : ByteArray) (i : Nat) : RF := rfL (s.data.toList.take i) rf0
theorem rfAt_zero (s : ByteArray) : rfAt s 0 = rf0 := rfl
theorem rfAt_succ (s : ByteArray) (i : Nat) (h : i < s.size) : rfAt s (i + 1) = (rfAt s i).step (bt s i) := by
  have hl : i < s.data.toList.length := by rw [Array.length_toList]; exact h
  unfold rfAt
  rw [List.take_add_one, List.getElem?_eq_getElem hl, rfL_append]
  have hb : bt s i = ((s.data.toList[i]'hl).toNat : Int) := by
    unfold bt
    rw [dif_pos (show (i : Int).toNat < s.size by simpa using h)]
    rfl
  rw [hb]
  rfl
/-- digits, with at most one point; dot: there was one -/
def rfGood : List UInt8 → Bool → Bool
  | [], _ => true
  | c :: l, dot => if 48 ≤ c.toNat ∧ c.toNat ≤ 57 then rfGood l dot else if c.toNat = 46 ∧ dot = false then rfGood l true else false
def rfOk (s : ByteArray) : Bool := decide (0 < s.size ∧ s.size ≤ 18) && decide (48 ≤ bt s 0 ∧ bt s 0 ≤ 57) && rfGood s.data.toList false
theorem good_at : ∀ (l : List UInt8) (st : RF) (i : Nat) (hi : i < l.length), rfGood l st.dot = true →
    (48 ≤ ((l[i]'hi).toNat : Int) ∧ ((l[i]'hi).toNat : Int) ≤ 57) ∨ (((l[i]'hi).toNat : Int) = 46 ∧ (rfL (l.take i) st).dot = false)
  | [], _, i, hi, _ => absurd hi (Nat.not_lt_zero _)
  | c :: l, st, i, hi, h => by
    unfold rfGood at h
    cases i with
    | zero =>
      simp only [List.getElem_cons_zero, List.take_zero, rfL]
      split at h
      · rename_i hc
        exact .inl ⟨by omega, by omega⟩
      · split at h
        · rename_i hc
          exact .inr ⟨by omega, hc.2⟩
        · cases h
    | succ i =>
      simp only [List.getElem_cons_succ, List.take_succ_cons, rfL]
      have hi' : i < l.length := by simpa using hi
      split at h
      · rename_i hc
        refine good_at l _ i hi' ?_
        have : (st.step (c.toNat : Int)).dot = st.dot := by
          unfold RF.step
          rw [if_neg (by omega)]
          split <;> rfl
        rw [this]
        exact h
      · split at h
        · rename_i hc
          refine good_at l _ i hi' ?_
          have : (st.step (c.toNat : Int)).dot = true := by
            unfold RF.step
            rw [if_pos (by omega)]
          rw [this]
          exact h
        · cases h
theorem ok_at (s : ByteArray) (h : rfOk s = true) (i : Nat) (hi : i < s.size) : (48 ≤ bt s i ∧ bt s i ≤ 57) ∨ (bt s i = 46 ∧ (rfAt s i).dot = false) := by
  unfold rfOk at h
  simp only [Bool.and_eq_true, decide_eq_true_eq] at h
  have hl : i < s.data.toList.length := by rw [Array.length_toList]; exact hi
  have hb : bt s i = ((s.data.toList[i]'hl).toNat : Int) := by
    unfold bt
    rw [dif_pos (show (i : Int).toNat < s.size by simpa using hi)]
    rfl
  rw [hb]
  exact good_at s.data.toList rf0 i hl h.2
theorem rf_bounds (s : ByteArray) (h : rfOk s = true) : ∀ (i : Nat), i ≤ s.size → 0 ≤ (rfAt s i).m ∧ (rfAt s i).m < (10 : Int) ^ i ∧ 0 ≤ (rfAt s i).nd ∧ (rfAt s i).nd ≤ i ∧ - (i : Int) ≤ (rfAt s i).dp ∧ (rfAt s i).dp ≤ i
  | 0, _ => by simp [rfAt_zero, rf0]
  | i + 1, hi => by
    obtain ⟨h1, h2, h3, h4, h5, h6⟩ := rf_bounds s h i (by omega)
    have hc := ok_at s h i (by omega)
    rw [rfAt_succ s i (by omega)]
    generalize rfAt s i = st at *
    have hp : (10 : Int) ^ (i + 1) = 10 ^ i * 10 := Int.pow_succ 10 i
    have hp0 : (0 : Int) < 10 ^ i := by omega
    rw [hp]
    unfold RF.step
    split
    · refine ⟨by simpa using h1, ?_, ?_, ?_, ?_, ?_⟩ <;> simp only [] <;> omega
    · split
      · refine ⟨by simpa using h1, ?_, ?_, ?_, ?_, ?_⟩ <;> simp only [] <;> omega
      · rename_i hn _
        have hd : 48 ≤ bt s i ∧ bt s i ≤ 57 := by
          rcases hc with hc | hc
          · exact hc
          · exact absurd hc.1 hn
        refine ⟨?_, ?_, ?_, ?_, ?_, ?_⟩ <;> simp only [] <;> omega
/-- the exponent -/
def RF.exp (st : RF) : Int := if st.m = 0 then 0 else (if st.dot then st.dp else st.nd) - st.nd
/-- digits behind a state -/
def decV : List UInt8 → Nat → Nat
  | [], a => a
  | c :: l, a => decV l (a * 10 + (c.toNat - 48))
theorem rfL_digits : ∀ (l : List UInt8) (st : RF) (a : Nat), (∀ c ∈ l, 48 ≤ c.toNat ∧ c.toNat ≤ 57) → st.m = a → (st.nd = 0 → a = 0) → 0 ≤ st.nd →
    (rfL l st).m = (decV l a : Nat) ∧ (rfL l st).dot = st.dot ∧ (rfL l st).dp - (rfL l st).nd = st.dp - st.nd - l.length ∧ 0 ≤ (rfL l st).nd ∧ ((rfL l st).nd = 0 → decV l a = 0)
  | [], st, a, _, hm, hz, h0 => ⟨hm, rfl, by simp [rfL], h0, hz⟩
  | c :: l, st, a, hl, hm, hz, h0 => by
    have hc := hl c (by simp)
    have hstep : st.step (c.toNat : Int) = if (c.toNat : Int) = 48 ∧ st.nd = 0 then ⟨st.m, st.nd, st.dp - 1, st.dot⟩ else ⟨st.m * 10 + ((c.toNat : Int) - 48), st.nd + 1, st.dp, st.dot⟩ := by
      unfold RF.step
      rw [if_neg (by omega)]
    simp only [rfL, decV]
    rw [hstep]
    split
    · rename_i hcz
      have ha := hz hcz.2
      subst ha
      have e : 0 * 10 + (c.toNat - 48) = 0 := by omega
      rw [e]
      obtain ⟨i1, i2, i3, i4, i5⟩ := rfL_digits l ⟨st.m, st.nd, st.dp - 1, st.dot⟩ 0 (fun x hx => hl x (by simp [hx])) hm (fun _ => rfl) h0
      refine ⟨i1, i2, ?_, i4, i5⟩
      rw [i3]
      simp only [List.length_cons]
      omega
    · rename_i hcz
      obtain ⟨i1, i2, i3, i4, i5⟩ := rfL_digits l ⟨st.m * 10 + ((c.toNat : Int) - 48), st.nd + 1, st.dp, st.dot⟩ (a * 10 + (c.toNat - 48)) (fun x hx => hl x (by simp [hx])) (by simp only [hm]; omega) (by simp only []; omega) (by simp only []; omega)
      refine ⟨i1, i2, ?_, i4, i5⟩
      rw [i3]
      simp only [List.length_cons]
      omega
end Go.Proofs.YtednjmngalmdkaaGreatDoor.PF
