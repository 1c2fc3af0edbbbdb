/- Plain facts on the printed functions that all the rows share: sizes, bounds, digits. Conditions: lists of at most 2^47 cells. -/
import Derived.Test.YtednjmngalmdkaaGreatDoorGPCx1
import Derived.Test.YtednjmngalmdkaaGreatDoorGPCx2
import Derived.Test.YtednjmngalmdkaaGreatDoorGPCx3
import Derived.Test.YtednjmngalmdkaaGreatDoorLOpen
import Derived.Test.YtednjmngalmdkaaGreatDoorPNum
namespace Go.Proofs.YtednjmngalmdkaaGreatDoor.GPC
open Go Go.RowKit Go.Proofs.YtednjmngalmdkaaGreatDoorW.PrintWords Go.Proofs.YtednjmngalmdkaaGreatDoorW.PrintLast Go.Proofs.YtednjmngalmdkaaGreatDoor.PF
set_option linter.unusedVariables false
theorem zz4 (l : List ByteArray) (hl : l.length ≤ 2147483647) : ∀ (d : Nat) (i : Int), 0 ≤ i → i + d = l.length → ∃ b, Ev (fun k => laws_zzFits4.l0 k l (l.length : Int) i) b
  | 0, i, h0, h => ⟨true, Ev.step (f := fun _ => some true) (fun k => by simp only [laws_zzFits4.l0]; rw [if_neg (by omega)]) (Ev.now _)⟩
  | d + 1, i, h0, h => by
    have hw : wrap64 (i + 1) = i + 1 := by unfold wrap64; omega
    by_cases hc : ((rdOf ByteArray.empty l i).size : Int) > 2147483647
    · exact ⟨false, Ev.step (f := fun _ => some false) (fun k => by simp only [laws_zzFits4.l0]; rw [if_pos (by omega), if_pos h0, if_pos (by omega), if_pos hc]) (Ev.now _)⟩
    · obtain ⟨b, hb⟩ := zz4 l hl d (i + 1) (by omega) (by omega)
      exact ⟨b, Ev.step (fun k => by simp only [laws_zzFits4.l0]; rw [if_pos (by omega), if_pos h0, if_pos (by omega), if_neg hc, hw]) hb⟩
theorem zz4f (l : List ByteArray) : ∃ b, Ev (fun k => laws_zzFits4.f k l) b := by
  by_cases hl : (l.length : Int) > 2147483647
  · exact ⟨false, Ev.congr (fun k => by simp only [laws_zzFits4.f]; rw [if_pos hl]) (Ev.now _)⟩
  · obtain ⟨b, hb⟩ := zz4 l (by omega) l.length 0 (by omega) (by omega)
    exact ⟨b, Ev.congr (fun k => by simp only [laws_zzFits4.f]; rw [if_neg hl]) hb⟩
theorem zz6f (a : ByteArray) (n : List Int) (s : List ByteArray) : ∃ b, Ev (fun k => laws_zzFits6.f k a n s) b := by
  by_cases h1 : (a.size : Int) > 2147483647
  · exact ⟨false, Ev.congr (fun k => by simp only [laws_zzFits6.f]; rw [if_pos h1]) (Ev.now _)⟩
  · by_cases h2 : (n.length : Int) > 2147483647
    · exact ⟨false, Ev.congr (fun k => by simp only [laws_zzFits6.f]; rw [if_neg h1, if_pos h2]) (Ev.now _)⟩
    · obtain ⟨b, hb⟩ := zz4f s
      refine ⟨if b = true then true else false, Ev.congr (f := fun k => (laws_zzFits4.f k s).bind fun t => if t = true then some true else some false) (fun k => by simp only [laws_zzFits6.f]; rw [if_neg h1, if_neg h2]) (Ev.bind (f := fun _ t => if t = true then some true else some false) hb ?_)⟩
      cases b
      · exact Ev.now _
      · exact Ev.now _
theorem zz5 (l : List S31) (hl : l.length ≤ 2147483647) : ∀ (d : Nat) (i : Int), 0 ≤ i → i + d = l.length → ∃ b, Ev (fun k => laws_zzFits5.l0 k l (l.length : Int) i) b
  | 0, i, h0, h => ⟨true, Ev.step (f := fun _ => some true) (fun k => by simp only [laws_zzFits5.l0]; rw [if_neg (by omega)]) (Ev.now _)⟩
  | d + 1, i, h0, h => by
    have hw : wrap64 (i + 1) = i + 1 := by unfold wrap64; omega
    obtain ⟨b6, h6⟩ := zz6f ((rd_T31 l i).f0) ((rd_T31 l i).f1) ((rd_T31 l i).f2)
    have hstep : ∀ k, laws_zzFits5.l0 (k + 1) l (l.length : Int) i = (laws_zzFits6.f k ((rd_T31 l i).f0) ((rd_T31 l i).f1) ((rd_T31 l i).f2)).bind fun t => if t = true then laws_zzFits5.l0 k l (l.length : Int) (i + 1) else some false := fun k => by
      simp only [laws_zzFits5.l0]; rw [if_pos (by omega), if_pos h0, if_pos (by omega), hw]
    obtain ⟨b, hb⟩ := zz5 l hl d (i + 1) (by omega) (by omega)
    cases b6
    · exact ⟨false, Ev.step hstep (Ev.bind (f := fun k t => if t = true then laws_zzFits5.l0 k l (l.length : Int) (i + 1) else some false) h6 (Ev.now _))⟩
    · exact ⟨b, Ev.step hstep (Ev.bind (f := fun k t => if t = true then laws_zzFits5.l0 k l (l.length : Int) (i + 1) else some false) h6 hb)⟩
theorem zz5f (l : List S31) : ∃ k b, laws_zzFits5.f k l = some b := by
  by_cases hl : (l.length : Int) > 2147483647
  · exact ⟨0, false, by simp only [laws_zzFits5.f]; rw [if_pos hl]⟩
  · obtain ⟨b, hb⟩ := zz5 l (by omega) l.length 0 (by omega) (by omega)
    obtain ⟨k, hk⟩ := hb.rounds
    exact ⟨k, b, by simp only [laws_zzFits5.f]; rw [if_neg hl]; exact hk⟩
/-- all numbers below a bound -/
theorem small_l (m : Int) (l : List Int) (hl : l.length ≤ maxLen) : ∀ (d : Nat) (i : Int), 0 ≤ i → i + d = l.length → Ev (fun k => spec_small.l0 k m l (l.length : Int) i) ((l.drop i.toNat).all fun x => decide (x < m))
  | 0, i, h0, h => by
    refine Ev.step (f := fun _ => some true) (fun k => by simp only [spec_small.l0]; rw [if_neg (by omega)]) ?_
    rw [List.drop_eq_nil_of_le (by omega)]
    exact Ev.now _
  | d + 1, i, h0, h => by
    have hm := hl
    unfold maxLen at hm
    have hw : wrap64 (i + 1) = i + 1 := by unfold wrap64; omega
    have hi : i.toNat < l.length := by omega
    have hrd : rd l i = l[i.toNat] := by simp [rd, List.getD_eq_getElem?_getD, List.getElem?_eq_getElem hi]
    rw [List.drop_eq_getElem_cons hi, List.all_cons, ← hrd]
    by_cases hc : rd l i ≥ m
    · rw [decide_eq_false (by omega)]
      exact Ev.step (f := fun _ => some false) (fun k => by simp only [spec_small.l0]; rw [if_pos (by omega), if_pos h0, if_pos (by omega), if_pos hc]) (Ev.now _)
    · rw [decide_eq_true (by omega), Bool.true_and]
      have ih := small_l m l hl d (i + 1) (by omega) (by omega)
      rw [show (i + 1).toNat = i.toNat + 1 by omega] at ih
      exact Ev.step (fun k => by simp only [spec_small.l0]; rw [if_pos (by omega), if_pos h0, if_pos (by omega), if_neg hc, hw]) ih
theorem small_ev (m : Int) (l : List Int) (hl : l.length ≤ maxLen) : Ev (fun k => spec_small.f k m l) (l.all fun x => decide (x < m)) := by
  have := small_l m l hl l.length 0 (by omega) (by omega)
  simp only [Int.toNat_zero, List.drop_zero] at this
  exact this
def strB (l : List UInt8) : ByteArray := ⟨l.toArray⟩
theorem hex_at : ∀ d : Fin 16, strOfNums [bt (⟨#[48, 49, 50, 51, 52, 53, 54, 55, 56, 57, 97, 98, 99, 100, 101, 102]⟩ : ByteArray) (d.val : Int)] = strB [dch d.val] := by decide
theorem hex_n (d : Nat) (h : d < 16) : strOfNums [bt (⟨#[48, 49, 50, 51, 52, 53, 54, 55, 56, 57, 97, 98, 99, 100, 101, 102]⟩ : ByteArray) (d : Int)] = strB [dch d] := hex_at ⟨d, h⟩
theorem u64_w {n : Int} (h0 : 0 ≤ n) (h1 : n < 18446744073709551616) : IntKind.u64.wrap n = n := by
  simp only [IntKind.wrap, IntKind.bits, IntKind.signed, Bool.false_and]
  exact Int.emod_eq_of_lt h0 h1
theorem strB_append (x y : List UInt8) : strB x ++ strB y = strB (x ++ y) := by
  apply ByteArray.ext
  simp [strB]
theorem strB_size (x : List UInt8) : (strB x).size = x.length := by simp [strB, ByteArray.size]
theorem digits_ev (b : Nat) (hb : 2 ≤ b) (hb2 : b ≤ 16) (n : Nat) (hn : n < 18446744073709551616) : Ev (fun k => spec_Digits.f k (n : Int) (b : Int)) (strB (digB b n)) ∧ (digB b n).length ≤ n + 1 := by
  induction n using Nat.strongRecOn with
  | _ n ih =>
    have hmod : n % b < 16 := Nat.lt_of_lt_of_le (Nat.mod_lt _ (by omega)) hb2
    have e1 : Int.tmod (n : Int) (b : Int) = ((n % b : Nat) : Int) := by rw [Int.tmod_eq_emod_of_nonneg (by omega)]; simp
    have e2 : Int.tdiv (n : Int) (b : Int) = ((n / b : Nat) : Int) := by rw [Int.tdiv_eq_ediv_of_nonneg (by omega)]; simp
    have hx := hex_n (n % b) hmod
    unfold digB
    by_cases h : n < b
    · rw [dif_pos (.inl h)]
      rw [Nat.mod_eq_of_lt h] at hx e1
      refine ⟨Ev.step (f := fun _ => some (strB [dch n])) (fun k => ?_) (Ev.now _), by simp⟩
      simp only [spec_Digits.f]
      rw [if_neg (by omega), e1, if_pos (by omega), if_pos (by omega), if_pos (by omega), hx]
    · rw [dif_neg (by omega)]
      have hlt : n / b < n := Nat.div_lt_self (by omega) (by omega)
      obtain ⟨ih1, ih2⟩ := ih (n / b) hlt (by omega)
      have hw : IntKind.u64.wrap (Int.tdiv (n : Int) (b : Int)) = ((n / b : Nat) : Int) := by
        rw [e2]
        generalize n / b = q at hlt ⊢
        exact u64_w (by omega) (by omega)
      have h64 : (digB b (n / b)).length ≤ 64 := by
        have := digB_length b (n / b) 63 hb (Nat.lt_of_lt_of_le (show n / b < 2 ^ 64 by omega) (Nat.pow_le_pow_left hb 64))
        exact this
      refine ⟨Ev.step (f := fun k => (spec_Digits.f k ((n / b : Nat) : Int) (b : Int)).bind fun t => if t.size + (strB [dch (n % b)]).size ≤ 9223372036854775807 then some (t ++ strB [dch (n % b)]) else none) (fun k => ?_) (Ev.bind (f := fun _ t => if t.size + (strB [dch (n % b)]).size ≤ 9223372036854775807 then some (t ++ strB [dch (n % b)]) else none) ih1 ?_), ?_⟩
      · simp only [spec_Digits.f, Option.bind_some]
        rw [if_neg (by omega), e1, if_pos (by omega), if_pos (by omega), if_neg (by omega), hw, hx]
      · rw [if_pos (by rw [strB_size, strB_size]; simp; omega), strB_append]
        exact Ev.now _
      · simp; omega
theorem text_ev (n : Nat) (hn : n < 18446744073709551616) : Ev (fun k => spec_Text.f k (n : Int)) (strB (digB 10 n)) :=
  Ev.bind (f := fun _ t => some t) (digits_ev 10 (by omega) (by omega) n hn).1 (Ev.now _)
end Go.Proofs.YtednjmngalmdkaaGreatDoor.GPC
