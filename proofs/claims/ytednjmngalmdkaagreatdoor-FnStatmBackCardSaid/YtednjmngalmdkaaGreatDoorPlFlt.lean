/- Plain facts: a number of hundredths, written, is read as the same float. Condition: below 2^40. -/
import Derived.Test.YtednjmngalmdkaaGreatDoorPlBase
import Derived.Test.YtednjmngalmdkaaGreatDoorGivenPF
import Derived.Test.YtednjmngalmdkaaGreatDoorGivenHu
namespace Go.Proofs.YtednjmngalmdkaaGreatDoor.GPC
open Go Go.RowKit Go.Proofs.YtednjmngalmdkaaGreatDoorW.PrintWords Go.Proofs.YtednjmngalmdkaaGreatDoorW.PrintLast Go.Proofs.YtednjmngalmdkaaGreatDoor.PF
set_option linter.unusedVariables false
def padL (least : Nat) (l : List UInt8) : List UInt8 := List.replicate (least - l.length) 48 ++ l
theorem padL_cons (least : Nat) (l : List UInt8) (h : l.length < least) : padL least (48 :: l) = padL least l := by
  unfold padL
  obtain ⟨d, hd⟩ : ∃ d, least - l.length = d + 1 := ⟨least - l.length - 1, by omega⟩
  rw [List.length_cons, hd, show least - (l.length + 1) = d by omega, List.replicate_succ', List.append_assoc, List.singleton_append]
theorem pad_ev (least : Nat) (hl : least ≤ 1000) : ∀ (d : Nat) (l : List UInt8), least - l.length = d → l.length ≤ 100000 → Ev (fun k => spec_Padded.l0 k (least : Int) (strB l)) (strB (padL least l))
  | 0, l, h, hl2 => by
    have e : padL least l = l := by simp [padL, h]
    rw [e]
    exact Ev.step (f := fun _ => some (strB l)) (fun k => by simp only [spec_Padded.l0]; rw [if_neg (by rw [strB_size]; omega)]) (Ev.now _)
  | d + 1, l, h, hl2 => by
    have ih := pad_ev least hl d (48 :: l) (by simp; omega) (by simp; omega)
    rw [padL_cons least l (by omega)] at ih
    refine Ev.step (fun k => ?_) ih
    simp only [spec_Padded.l0]
    rw [if_pos (by rw [strB_size]; omega), if_pos (by rw [strB_size]; omega)]
    rw [show ((⟨#[48]⟩ : ByteArray) ++ strB l) = strB (48 :: l) from strB_append [48] l]
theorem padded_ev (n b least : Nat) (hb : 2 ≤ b) (hb2 : b ≤ 16) (hn : n < 18446744073709551616) (hl : least ≤ 1000) : Ev (fun k => spec_Padded.f k (n : Int) (b : Int) (least : Int)) (strB (padL least (digB b n))) := by
  have h64 : (digB b n).length ≤ 64 := digB_length b n 63 hb (Nat.lt_of_lt_of_le (show n < 2 ^ 64 by omega) (Nat.pow_le_pow_left hb 64))
  exact Ev.bind (f := fun k t => spec_Padded.l0 k (least : Int) t) (digits_ev b hb hb2 n hn).1 (pad_ev least hl _ _ rfl (by omega))
def hund (n : Nat) : List UInt8 := digB 10 (n / 100) ++ 46 :: padL 2 (digB 10 (n % 100))
theorem dig_len (n : Nat) (hn : n < 18446744073709551616) : (digB 10 n).length ≤ 20 := digB_length 10 n 19 (by omega) (by omega)
theorem padL_len (l : List UInt8) (h : l.length ≤ 2) : (padL 2 l).length = 2 := by simp [padL]; omega
theorem dig2_len (m : Nat) (h : m < 100) : (digB 10 m).length ≤ 2 := digB_length 10 m 1 (by omega) (by omega)
theorem hund_len (n : Nat) (hn : n < 18446744073709551616) : (hund n).length ≤ 23 := by
  have h1 := dig_len (n / 100) (by omega)
  have h2 := padL_len (digB 10 (n % 100)) (dig2_len _ (Nat.mod_lt _ (by omega)))
  simp only [hund, List.length_append, List.length_cons]
  omega
theorem hundredths_ev (n : Nat) (hn : n < 18446744073709551616) : Ev (fun k => spec_Hundredths.f k (n : Int)) (strB (hund n)) := by
  have hw : IntKind.u64.wrap (Int.tdiv (n : Int) 100) = ((n / 100 : Nat) : Int) := by
    rw [Int.tdiv_eq_ediv_of_nonneg (by omega)]
    have : ((n : Int) / 100) = ((n / 100 : Nat) : Int) := by simp
    rw [this]
    exact u64_w (by omega) (by omega)
  have hm : Int.tmod (n : Int) 100 = ((n % 100 : Nat) : Int) := by rw [Int.tmod_eq_emod_of_nonneg (by omega)]; simp
  have h1 := dig_len (n / 100) (by omega)
  have h2 := padL_len (digB 10 (n % 100)) (dig2_len _ (Nat.mod_lt _ (by omega)))
  have hp := padded_ev (n % 100) 10 2 (by omega) (by omega) (by omega) (by omega)
  refine Ev.congr (f := fun k => (spec_Text.f k ((n / 100 : Nat) : Int)).bind fun t178 => (if t178.size + 1 ≤ 9223372036854775807 then ((spec_Padded.f k ((n % 100 : Nat) : Int) 10 2).bind fun t179 => (if (t178 ++ (⟨#[46]⟩ : ByteArray)).size + t179.size ≤ 9223372036854775807 then (some ((t178 ++ (⟨#[46]⟩ : ByteArray)) ++ t179)) else (none))) else (none))) (fun k => by simp only [spec_Hundredths.f]; rw [hw, hm]) ?_
  refine Ev.bind (f := fun k t178 => if t178.size + 1 ≤ 9223372036854775807 then ((spec_Padded.f k ((n % 100 : Nat) : Int) 10 2).bind fun t179 => (if (t178 ++ (⟨#[46]⟩ : ByteArray)).size + t179.size ≤ 9223372036854775807 then (some ((t178 ++ (⟨#[46]⟩ : ByteArray)) ++ t179)) else (none))) else (none)) (text_ev (n / 100) (by omega)) ?_
  refine Ev.congr (fun k => if_pos (by rw [strB_size]; omega)) ?_
  refine Ev.bind (f := fun k t179 => if (strB (digB 10 (n / 100)) ++ (⟨#[46]⟩ : ByteArray)).size + t179.size ≤ 9223372036854775807 then (some ((strB (digB 10 (n / 100)) ++ (⟨#[46]⟩ : ByteArray)) ++ t179)) else (none)) hp ?_
  have e : strB (digB 10 (n / 100)) ++ (⟨#[46]⟩ : ByteArray) = strB (digB 10 (n / 100) ++ [46]) := strB_append _ [46]
  refine Ev.congr (f := fun _ => some (strB (hund n))) (fun k => ?_) (Ev.now _)
  rw [e, if_pos (by rw [strB_size, strB_size, h2]; simp; omega), strB_append]
  simp [hund]
/-! the way back -/
theorem dch10 : ∀ d : Fin 10, 48 ≤ (dch d.val).toNat ∧ (dch d.val).toNat ≤ 57 ∧ (dch d.val).toNat - 48 = d.val := by decide
theorem dch10n (d : Nat) (h : d < 10) : 48 ≤ (dch d).toNat ∧ (dch d).toNat ≤ 57 ∧ (dch d).toNat - 48 = d := dch10 ⟨d, h⟩
theorem dig10 (n : Nat) : ∀ c ∈ digB 10 n, 48 ≤ c.toNat ∧ c.toNat ≤ 57 := by
  induction n using Nat.strongRecOn with
  | _ n ih =>
    intro c hc
    unfold digB at hc
    by_cases h : n < 10
    · rw [dif_pos (.inl h)] at hc
      simp only [List.mem_singleton] at hc
      subst hc
      exact ⟨(dch10n n h).1, (dch10n n h).2.1⟩
    · rw [dif_neg (by omega)] at hc
      rcases List.mem_append.1 hc with hc | hc
      · exact ih (n / 10) (by omega) c hc
      · simp only [List.mem_singleton] at hc
        subst hc
        have := dch10n (n % 10) (Nat.mod_lt _ (by omega))
        exact ⟨this.1, this.2.1⟩
theorem decV_append : ∀ (x y : List UInt8) (a : Nat), decV (x ++ y) a = decV y (decV x a)
  | [], _, _ => rfl
  | c :: x, y, a => decV_append x y _
theorem decV_dig (n : Nat) : decV (digB 10 n) 0 = n := by
  induction n using Nat.strongRecOn with
  | _ n ih =>
    unfold digB
    by_cases h : n < 10
    · rw [dif_pos (.inl h)]
      simp only [decV]
      rw [(dch10n n h).2.2]
      omega
    · rw [dif_neg (by omega), decV_append, ih (n / 10) (by omega)]
      simp only [decV]
      rw [(dch10n (n % 10) (Nat.mod_lt _ (by omega))).2.2]
      omega
theorem pad2 (m : Nat) (h : m < 100) : padL 2 (digB 10 m) = [dch (m / 10), dch (m % 10)] := by
  by_cases h1 : m < 10
  · have e : digB 10 m = [dch m] := by unfold digB; rw [dif_pos (.inl h1)]
    rw [e, show m / 10 = 0 by omega, show m % 10 = m by omega]
    rfl
  · have e1 : digB 10 (m / 10) = [dch (m / 10)] := by unfold digB; rw [dif_pos (.inl (by omega))]
    have e : digB 10 m = [dch (m / 10), dch (m % 10)] := by unfold digB; rw [dif_neg (by omega), e1]; rfl
    rw [e]
    rfl
theorem good_digits : ∀ (l : List UInt8) (dot : Bool) (r : List UInt8), (∀ c ∈ l, 48 ≤ c.toNat ∧ c.toNat ≤ 57) → rfGood (l ++ r) dot = rfGood r dot
  | [], _, _, _ => rfl
  | c :: l, dot, r, h => by
    simp only [List.cons_append, rfGood]
    rw [if_pos (h c (by simp))]
    exact good_digits l dot r (fun x hx => h x (by simp [hx]))
theorem div_some (x : Nat) (h : x ≤ Ieee.double.infRung) : ∃ r, floatBits .quo .f64 x 4636737291354636288 = some r := by
  have hr : (Ieee.double.read x).isNaN = false := by
    have hs : x < Ieee.double.signWeight := Nat.lt_of_le_of_lt h (Ieee.Format.infRung_lt _)
    unfold Ieee.Format.read
    simp only [Nat.mod_eq_of_lt hs]
    split
    · rfl
    · split
      · rfl
      · split
        · rfl
        · omega
  have hy : Ieee.double.read 4636737291354636288 = .number false 7036874417766400 (-46) := by kernel_rfl
  simp only [floatBits, FloatKind.format, Ieee.Format.div]
  rw [hy]
  cases hd : Ieee.double.read x with
  | nan s f => rw [hd] at hr; cases hr
  | infinity s => exact ⟨_, rfl⟩
  | number s m e => exact ⟨_, rfl⟩
theorem near_le (m : Nat) (p : Int) : Ieee.double.nearest false m p ≤ Ieee.double.infRung := by
  unfold Ieee.Format.nearest Ieee.Format.word
  split
  · simp
  · simp only [Bool.false_eq_true, if_false]
    exact Nat.min_le_right _ _
theorem hundredth_some (n : Nat) : ∃ r, spec_hundredth.f (n : Int) = some r := by
  refine div_some _ ?_
  have hneg : decide ((n : Int) < 0) = false := decide_eq_false (by omega)
  simp only [floatOfInt, FloatKind.nearest, FloatKind.encode, FloatKind.format, Ieee.Format.write, hneg]
  exact near_le _ _
theorem flt_hund (n : Nat) (hn : n < 1099511627776) (r : Nat) (h : spec_hundredth.f (n : Int) = some r) : fltF (strB (hund n)) = some r := by
  have hq : n / 100 < 10 ^ 11 := by omega
  have hl1 : (digB 10 (n / 100)).length ≤ 11 := digB_length 10 (n / 100) 10 (by omega) hq
  have hne := digB_ne 10 (n / 100)
  have hm : n % 100 < 100 := Nat.mod_lt _ (by omega)
  have hp := pad2 (n % 100) hm
  have hlen : (hund n).length = (digB 10 (n / 100)).length + 3 := by simp [hund, hp]
  have hd1 := dig10 (n / 100)
  have hx := dch10n (n % 100 / 10) (by omega)
  have hy := dch10n (n % 100 % 10) (by omega)
  have hfull : rfAt (strB (hund n)) (strB (hund n)).size = rfL (hund n) rf0 := by
    unfold rfAt
    rw [strB_size, show (strB (hund n)).data.toList = hund n by simp [strB], List.take_length]
  obtain ⟨i1, i2, i3, i4, i5⟩ := rfL_digits (digB 10 (n / 100)) rf0 0 hd1 rfl (fun _ => rfl) (by decide)
  have hst : rfL (hund n) rf0 = rfL [dch (n % 100 / 10), dch (n % 100 % 10)] ⟨(rfL (digB 10 (n / 100)) rf0).m, (rfL (digB 10 (n / 100)) rf0).nd, (rfL (digB 10 (n / 100)) rf0).nd, true⟩ := by
    unfold hund
    rw [rfL_append, hp]
    rfl
  rw [decV_dig] at i1 i5
  obtain ⟨j1, j2, j3, j4, j5⟩ := rfL_digits [dch (n % 100 / 10), dch (n % 100 % 10)] ⟨(rfL (digB 10 (n / 100)) rf0).m, (rfL (digB 10 (n / 100)) rf0).nd, (rfL (digB 10 (n / 100)) rf0).nd, true⟩ (n / 100)
    (fun c hc => by simp only [List.mem_cons, List.not_mem_nil, or_false] at hc; rcases hc with rfl | rfl; exact ⟨hx.1, hx.2.1⟩; exact ⟨hy.1, hy.2.1⟩) i1 i5 i4
  have hval : decV [dch (n % 100 / 10), dch (n % 100 % 10)] (n / 100) = n := by
    simp only [decV]
    rw [hx.2.2, hy.2.2]
    omega
  rw [hval] at j1
  simp only [List.length_cons, List.length_nil] at j3
  have hok : rfOk (strB (hund n)) = true := by
    unfold rfOk
    have g1 : rfGood (strB (hund n)).data.toList false = true := by
      rw [show (strB (hund n)).data.toList = hund n by simp [strB]]
      unfold hund
      rw [good_digits _ _ _ hd1, hp]
      simp only [rfGood]
      rw [if_neg (by decide), if_pos (by decide), if_pos ⟨hx.1, hx.2.1⟩, if_pos ⟨hy.1, hy.2.1⟩]
    have g2 : 48 ≤ bt (strB (hund n)) 0 ∧ bt (strB (hund n)) 0 ≤ 57 := by
      cases hdd : digB 10 (n / 100) with
      | nil => exact absurd hdd hne
      | cons c l =>
        have hc := hd1 c (by rw [hdd]; simp)
        have : bt (strB (hund n)) 0 = (c.toNat : Int) := by
          unfold bt
          rw [dif_pos (by rw [strB_size, hlen]; simp)]
          simp only [strB, hund, hdd]
          rfl
        rw [this]
        omega
    rw [g1, decide_eq_true g2, decide_eq_true (show 0 < (strB (hund n)).size ∧ (strB (hund n)).size ≤ 18 by rw [strB_size, hlen]; omega)]
    rfl
  unfold fltF
  rw [hfull, hst, j1, if_pos ⟨hok, by omega⟩]
  by_cases hz : n = 0
  · rw [if_pos (by omega)]
    have h0 : spec_hundredth.f 0 = some 0 := by kernel_rfl
    rw [hz] at h
    exact h0.symm.trans h
  · rw [if_neg (by omega)]
    have he : (rfL [dch (n % 100 / 10), dch (n % 100 % 10)] ⟨(rfL (digB 10 (n / 100)) rf0).m, (rfL (digB 10 (n / 100)) rf0).nd, (rfL (digB 10 (n / 100)) rf0).nd, true⟩).exp = -2 := by
      unfold RF.exp
      rw [j1, if_neg (by omega), j2]
      simp only [if_true]
      omega
    rw [he]
    exact h
end Go.Proofs.YtednjmngalmdkaaGreatDoor.GPC
