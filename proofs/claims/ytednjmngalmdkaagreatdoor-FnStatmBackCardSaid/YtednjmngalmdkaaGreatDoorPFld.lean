/- Plain facts: the words of a line between blanks; digits of a base and the number that they tell. No condition. -/
import Derived.Lib.Fields
import Derived.Lib.ItoaNum
namespace Go.Proofs.YtednjmngalmdkaaGreatDoor.PF
open Go
set_option linter.unusedVariables false
theorem fieldsGo_word : ∀ (w cur r : List UInt8), (∀ b ∈ w, Lib.isSp b = false) → Lib.fieldsGo cur (w ++ r) = Lib.fieldsGo (cur ++ w) r
  | [], cur, r, _ => by simp
  | b :: w, cur, r, h => by
    rw [List.cons_append, Lib.fieldsGo_more _ _ _ (h b (by simp)), fieldsGo_word w _ _ (fun c hc => h c (by simp [hc]))]
    simp
theorem fields_blanks : ∀ (bl r : List UInt8), (∀ b ∈ bl, Lib.isSp b = true) → Lib.fields (bl ++ r) = Lib.fields r
  | [], r, _ => rfl
  | b :: bl, r, h => by
    have ih := fields_blanks bl r (fun c hc => h c (by simp [hc]))
    unfold Lib.fields at ih ⊢
    rw [List.cons_append, Lib.fieldsGo_sp _ _ (h b (by simp)), ih]
theorem fields_nil : Lib.fields [] = [] := rfl
/-- A word ahead of a blank. -/
theorem fields_word (w : List UInt8) (b : UInt8) (r : List UInt8) (h0 : w ≠ []) (hw : ∀ c ∈ w, Lib.isSp c = false) (hb : Lib.isSp b = true) : Lib.fields (w ++ b :: r) = w :: Lib.fields (b :: r) := by
  unfold Lib.fields
  rw [fieldsGo_word w [] _ hw, List.nil_append, Lib.fieldsGo_end _ _ _ hb h0, Lib.fieldsGo_sp _ _ hb]
theorem fields_last (w : List UInt8) (h0 : w ≠ []) (hw : ∀ c ∈ w, Lib.isSp c = false) : Lib.fields w = [w] := by
  have := fieldsGo_word w [] [] hw
  unfold Lib.fields
  rw [List.append_nil] at this
  rw [this, List.nil_append]
  cases w with
  | nil => exact absurd rfl h0
  | cons a l => rfl
/-- Words, with blanks between them. -/
def Words (bs : List UInt8) : List (List UInt8) → List UInt8
  | [] => []
  | [w] => w
  | w :: v :: r => w ++ (bs ++ Words bs (v :: r))
theorem fields_words (bs : List UInt8) (hbs : bs ≠ []) (hb : ∀ b ∈ bs, Lib.isSp b = true) : ∀ (ws : List (List UInt8)), (∀ w ∈ ws, w ≠ [] ∧ ∀ c ∈ w, Lib.isSp c = false) → Lib.fields (Words bs ws) = ws
  | [], _ => rfl
  | [w], h => fields_last w (h w (by simp)).1 (h w (by simp)).2
  | w :: v :: r, h => by
    have ih := fields_words bs hbs hb (v :: r) (fun x hx => h x (by simp [hx]))
    cases bs with
    | nil => exact absurd rfl hbs
    | cons b bs =>
      show Lib.fields (w ++ (b :: bs ++ Words (b :: bs) (v :: r))) = _
      rw [List.cons_append, fields_word w b _ (h w (by simp)).1 (h w (by simp)).2 (hb b (by simp)), ← List.cons_append, fields_blanks (b :: bs) _ hb, ih]
/-! digits -/
def dch (d : Nat) : UInt8 := UInt8.ofNat (if d < 10 then 48 + d else 87 + d)
def digB (b n : Nat) : List UInt8 := if h : n < b ∨ b < 2 then [dch n] else digB b (n / b) ++ [dch (n % b)]
termination_by n
decreasing_by exact Nat.div_lt_self (by omega) (by omega)
theorem digB_ten (n : Nat) : digB 10 n = Lib.decDigits n := by
  induction n using Nat.strongRecOn with
  | _ n ih =>
    unfold digB Lib.decDigits
    by_cases h : n < 10
    · rw [dif_pos (.inl h), dif_pos h, dch, if_pos h]
    · rw [dif_neg (by omega), dif_neg h, ih (n / 10) (by omega), dch, if_pos (by omega)]
theorem digB_ne (b n : Nat) : digB b n ≠ [] := by
  unfold digB
  split <;> simp
theorem digB_length (b n k : Nat) (hb : 2 ≤ b) (h : n < b ^ (k + 1)) : (digB b n).length ≤ k + 1 := by
  induction k generalizing n with
  | zero =>
    unfold digB
    rw [dif_pos (.inl (by simpa using h))]
    simp
  | succ k ih =>
    unfold digB
    split
    · simp
    · rw [List.length_append]
      have := ih (n / b) (by rw [Nat.pow_succ] at h; exact Nat.div_lt_of_lt_mul (by rw [Nat.mul_comm]; exact h))
      simp only [List.length_singleton]
      omega
/-- a sign of digits: 0 to 9, a to f -/
def isDig (c : UInt8) : Bool := (decide (48 ≤ c.toNat) && decide (c.toNat ≤ 57)) || (decide (97 ≤ c.toNat) && decide (c.toNat ≤ 102))
theorem dch_dig : ((List.range 16).all fun d => isDig (dch d)) = true := by decide +kernel
theorem digB_dig (b n : Nat) (hb : 2 ≤ b) (hb2 : b ≤ 16) : ∀ c ∈ digB b n, isDig c = true := by
  induction n using Nat.strongRecOn with
  | _ n ih =>
    have hd : ∀ d, d < 16 → isDig (dch d) = true := fun d hd => List.all_eq_true.1 dch_dig d (List.mem_range.2 hd)
    intro c hc
    unfold digB at hc
    by_cases h : n < b ∨ b < 2
    · rw [dif_pos h] at hc
      simp only [List.mem_singleton] at hc
      rw [hc]
      exact hd n (by omega)
    · rw [dif_neg h] at hc
      rcases List.mem_append.1 hc with hc | hc
      · exact ih (n / b) (Nat.div_lt_self (by omega) (by omega)) c hc
      · simp only [List.mem_singleton] at hc
        rw [hc]
        exact hd _ (Nat.lt_of_lt_of_le (Nat.mod_lt _ (by omega)) hb2)
theorem isDig_sp {c : UInt8} (h : isDig c = true) : Lib.isSp c = false := by
  have : ((List.range 256).all fun n => !isDig (UInt8.ofNat n) || !Lib.isSp (UInt8.ofNat n)) = true := by decide +kernel
  have := List.all_eq_true.1 this c.toNat (List.mem_range.2 c.toNat_lt)
  rw [UInt8.ofNat_toNat, h] at this
  simpa using this
end Go.Proofs.YtednjmngalmdkaaGreatDoor.PF
