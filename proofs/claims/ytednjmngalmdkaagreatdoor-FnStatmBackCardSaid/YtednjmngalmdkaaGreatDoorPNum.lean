/- Plain facts: the digits of a number in a base tell this number, with noughts ahead and in great letters, too. Condition: the number is at most the bound. -/
import Derived.Test.YtednjmngalmdkaaGreatDoorPFld
import Derived.Test.YtednjmngalmdkaaGreatDoorGivenPU
namespace Go.Proofs.YtednjmngalmdkaaGreatDoor.PF
open Go Go.Proofs.YtednjmngalmdkaaGreatDoor.GPC
set_option linter.unusedVariables false
theorem puN_append (b mx : Nat) : ∀ (x y : List UInt8) (acc : Nat), puN b mx acc (x ++ y) = (puN b mx acc x).bind fun a => puN b mx a y
  | [], y, acc => rfl
  | c :: x, y, acc => by
    simp only [List.cons_append, puN]
    split
    · exact puN_append b mx x y _
    · rfl
theorem dch_val : ((List.range 16).all fun d => decide (digV (dch d).toNat = d)) = true := by decide +kernel
theorem digV_dch (d : Nat) (h : d < 16) : digV (dch d).toNat = d := by
  have := List.all_eq_true.1 dch_val d (List.mem_range.2 h)
  simpa using this
theorem puN_dig (b n mx : Nat) (hb : 2 ≤ b) (hb2 : b ≤ 16) (hn : n ≤ mx) : puN b mx 0 (digB b n) = some n := by
  induction n using Nat.strongRecOn with
  | _ n ih =>
    unfold digB
    by_cases h : n < b ∨ b < 2
    · rw [dif_pos h]
      have hlt : n < b := by omega
      simp only [puN, digV_dch n (by omega)]
      rw [if_pos ⟨hlt, by omega⟩]
      simp
    · rw [dif_neg h, puN_append, ih (n / b) (Nat.div_lt_self (by omega) (by omega)) (Nat.le_trans (Nat.div_le_self _ _) hn)]
      have hm : n % b < b := Nat.mod_lt _ (by omega)
      have he : n / b * b + n % b = n := by rw [Nat.mul_comm]; exact Nat.div_add_mod n b
      simp only [Option.bind_some, puN, digV_dch (n % b) (by omega), he]
      rw [if_pos ⟨hm, hn⟩]
theorem puN_noughts (b mx : Nat) (hb : 1 ≤ b) : ∀ (k : Nat) (l : List UInt8), puN b mx 0 (List.replicate k 48 ++ l) = puN b mx 0 l
  | 0, l => rfl
  | k + 1, l => by
    have ih := puN_noughts b mx hb k l
    have h48 : digV (48 : UInt8).toNat = 0 := by decide
    rw [List.replicate_succ, List.cons_append]
    simp only [puN, h48]
    rw [if_pos ⟨by omega, by omega⟩]
    simpa using ih
/-- small letters made great -/
def upL (l : List UInt8) : List UInt8 := l.map fun c => if 97 ≤ c.toNat then c - 32 else c
theorem up_val : ((List.range 256).all fun n => !isDig (UInt8.ofNat n) || decide (digV (if 97 ≤ (UInt8.ofNat n).toNat then UInt8.ofNat n - 32 else UInt8.ofNat n).toNat = digV (UInt8.ofNat n).toNat)) = true := by decide +kernel
theorem puN_up (b mx : Nat) : ∀ (l : List UInt8) (acc : Nat), (∀ c ∈ l, isDig c = true) → puN b mx acc (upL l) = puN b mx acc l
  | [], acc, _ => rfl
  | c :: l, acc, h => by
    have hc := List.all_eq_true.1 up_val c.toNat (List.mem_range.2 c.toNat_lt)
    rw [UInt8.ofNat_toNat, h c (by simp)] at hc
    simp only [Bool.not_true, Bool.false_or, decide_eq_true_eq] at hc
    have ih := fun a => puN_up b mx l a (fun x hx => h x (by simp [hx]))
    show puN b mx acc ((if 97 ≤ c.toNat then c - 32 else c) :: upL l) = _
    simp only [puN, hc, ih]
end Go.Proofs.YtednjmngalmdkaaGreatDoor.PF
