/- internal/strconv.ParseUint answers the number of a text of digits of the base, where it fits in the bits: 10 at 64 bits, 16 at 64 bits, 16 at 32 bits, 10 at 32 bits. Condition: the text is such (else nothing is said). -/
import Derived.Test.YtednjmngalmdkaaGreatDoorProg
import Derived.Test.YtednjmngalmdkaaGreatDoorGPCx0
import Derived.Lib.Strings
import Derived.Lib.Walk
import Derived.Lib.ConvBytes
import Derived.Lib.Hide
import Derived.Laws.Strings3
import Derived.Laws.Closers25
import Derived.Laws.Closers25b
import Derived.Lib.AtoiAllMem
import Derived.Lib.AtoiErrMem
import Derived.WalkKit
import Derived.BigCall
import Derived.BigGuard
namespace Go.Proofs.YtednjmngalmdkaaGreatDoor.GPC
open Go.RowKit Go.Proofs.YtednjmngalmdkaaGreatDoorW.PrintWords

/-- a digit's value in a base of at most 16 -/
def digV (c : Nat) : Nat := if 48 ≤ c ∧ c ≤ 57 then c - 48 else if 97 ≤ c ∧ c ≤ 102 then c - 87 else if 65 ≤ c ∧ c ≤ 70 then c - 55 else 99
/-- the number that digits tell, if it is at most mx -/
def puN (base mx : Nat) : Nat → List UInt8 → Option Nat
  | acc, [] => some acc
  | acc, c :: l => if digV c.toNat < base ∧ acc * base + digV c.toNat ≤ mx then puN base mx (acc * base + digV c.toNat) l else none
theorem digV_digit (c : Nat) (h0 : 48 ≤ c) (h1 : c ≤ 57) : digV c = c - 48 := by unfold digV; rw [if_pos ⟨h0, h1⟩]
theorem low_small : ((List.range 256).all fun n => decide (97 ≤ n ∧ n ≤ 102 → bits BinOp.or IntKind.u8 (n : Int) 32 = n) && decide (65 ≤ n ∧ n ≤ 70 → bits BinOp.or IntKind.u8 (n : Int) 32 = (n : Int) + 32)) = true := by decide +kernel
theorem low_is (n : Nat) (h : n < 256) (hd : ¬ (48 ≤ n ∧ n ≤ 57)) (hv : digV n < 16) : ∃ v : Int, bits BinOp.or IntKind.u8 (n : Int) 32 = v ∧ 97 ≤ v ∧ v ≤ 102 ∧ (digV n : Int) = v - 87 := by
  have := List.all_eq_true.1 low_small n (List.mem_range.2 h)
  simp only [Bool.and_eq_true, decide_eq_true_eq] at this
  unfold digV at hv ⊢
  rw [if_neg hd] at hv ⊢
  by_cases h1 : 97 ≤ n ∧ n ≤ 102
  · rw [if_pos h1]; exact ⟨n, this.1 h1, by omega, by omega, by omega⟩
  · rw [if_neg h1] at hv ⊢
    by_cases h2 : 65 ≤ n ∧ n ≤ 70
    · rw [if_pos h2]; exact ⟨n + 32, this.2 h2, by omega, by omega, by omega⟩
    · rw [if_neg h2] at hv; omega
set_option maxHeartbeats 400000 in
theorem lower_any (c : Int) (w : World) : Calls Tryz.prog 207 #[.int .u8 c] w fun e w' => e = .returned (.int .u8 (bits BinOp.or IntKind.u8 c 32)) ∧ w' = w := by
  go_enter Tryz.func207, Tryz.ntmps207
  go_wp2
  go_ret
  exact ⟨rfl, rfl⟩


set_option maxHeartbeats 32000000 in
set_option maxRecDepth 100000 in
theorem pu_10_64 (t : ByteArray) (hne : t.size ≠ 0) (hmax : t.size ≤ 9223372036854775806) (n : Nat) (hn : puN 10 18446744073709551615 0 t.data.toList = some n) (w : World) :
    Calls Tryz.prog 195 #[.string t, .int .i64 10, .int .i64 64] w fun e w' => e = .returned (.tuple #[.int .u64 (n : Int), .nilIface]) ∧ w' = Lib.bytesWorld w 5 t := by
  have hemp : t.toList.isEmpty = false := by
    rw [← decide_eq_emptyBytes]
    exact decide_eq_false (fun h => hne (by rw [h]; rfl))
  have hcv := Lib.run_convert_string_bytes (P := Tryz.prog) w 9 173 5 t (u := .string) Tryz.underlying9 Tryz.underlying173 Tryz.underlying5
  have hB : ∀ j, j < t.size → (Lib.bytesWorld w 5 t).cell? ⟨w.heap.size, j, none⟩ = some (.int .u8 (t.data.toList.getD j 0).toNat) := fun j hj => Lib.bytesWorld_cell w 5 t j hj
  obtain ⟨W1, hW1⟩ : ∃ W1, W1 = Lib.bytesWorld w 5 t := ⟨_, rfl⟩
  rw [← hW1] at hcv hB ⊢
  clear hW1
  obtain ⟨bs, hL⟩ : ∃ bs, bs = t.data.toList := ⟨_, rfl⟩
  have hLn : bs.length = t.size := by rw [hL, Lib.size_eq]
  rw [← hL] at hB hn
  clear hL
  have HN0 := Lib.hid hn
  clear hn
  have hmv : IntKind.u64.wrap (IntKind.u64.wrap 18446744073709551616 - 1) = 18446744073709551615 := by
    rw [IntKind.wrap_u64, IntKind.wrap_u64]
    decide
  go_enter Tryz.func195, Tryz.ntmps195
  go_wp2
  go_loop [12, 13, 101] (fun vu vn vi => ∃ (k acc : Nat) (a : Int), vu = .bool false ∧ vn = .int .u64 a ∧ vi = .int .i64 k ∧ k ≤ t.size ∧ Hid (a = (acc : Int) ∧ puN 10 18446744073709551615 acc (bs.drop k) = some n))
    (fun _ _ vi => t.size - (intOf vi).toNat)
  case atStart => exact ⟨0, 0, 0, rfl, rfl, rfl, by omega, rfl, HN0.out⟩
  case round =>
    clear HN0
    obtain ⟨k, acc, a, rfl, rfl, rfl, hk, hh⟩ := hrel
    obtain ⟨ha, hdec⟩ := hh.out
    clear hh
    have a0 : 0 ≤ a := by omega
    by_cases hkn : k < t.size
    · have hc := hB k hkn
      have hdrop : bs.drop k = bs[k]'(by omega) :: bs.drop (k + 1) := List.drop_eq_getElem_cons (by omega)
      have hget : bs.getD k 0 = bs[k]'(by omega) := by simp [List.getD, List.getElem?_eq_getElem (show k < bs.length by omega)]
      rw [hdrop] at hdec
      rw [hget] at hc
      generalize bs[k]'(by omega) = c at hc hdec
      have hc256 : c.toNat < 256 := c.toNat_lt
      clear hB hdrop hget
      have hdl : digV c.toNat < 10 ∧ acc * 10 + digV c.toNat ≤ 18446744073709551615 := by
        simp only [puN] at hdec
        split at hdec
        · assumption
        · cases hdec
      simp only [puN, if_pos hdl] at hdec
      obtain ⟨hfit, hmx⟩ := hdl
      have hdl := True.intro
      by_cases hdig : 48 ≤ c.toNat ∧ c.toNat ≤ 57
      · obtain ⟨hd0, hd1⟩ := hdig
        rw [digV_digit c.toNat hd0 hd1] at hfit hmx hdec
        have HN : Hid (a * 10 + ((c.toNat : Int) - 48) = ((acc * 10 + (c.toNat - 48) : Nat) : Int) ∧ puN 10 18446744073709551615 (acc * 10 + (c.toNat - 48)) (bs.drop (k + 1)) = some n) := Lib.hid ⟨by omega, hdec⟩
        have icut : a < 1844674407370955162 := by omega
        have iov : a * 10 + ((c.toNat : Int) - 48) ≤ 18446744073709551615 := by omega
        clear hdec hfit hmx hdl ha
        go_wp2
        refine ⟨⟨k + 1, acc * 10 + (c.toNat - 48), a * 10 + ((c.toNat : Int) - 48), rfl, (by first | rfl | (congr 1; omega)), (by first | rfl | (congr 1; omega)), by omega, HN⟩, by simp [intOf]; omega⟩
      · exfalso
        have : digV c.toNat < 10 → 48 ≤ c.toNat ∧ c.toNat ≤ 57 := by unfold digV; split <;> (try split) <;> (try split) <;> omega
        exact hdig (this hfit)
    · have hkk : k = t.size := by omega
      subst hkk
      rw [List.drop_eq_nil_of_le (by omega)] at hdec
      have e1 : acc = n := by simpa [puN] using hdec
      subst e1
      subst ha
      clear hdec a0
      go_wp2
      go_ret2
      exact ⟨rfl, rfl⟩


set_option maxHeartbeats 32000000 in
set_option maxRecDepth 100000 in
theorem pu_16_64 (t : ByteArray) (hne : t.size ≠ 0) (hmax : t.size ≤ 9223372036854775806) (n : Nat) (hn : puN 16 18446744073709551615 0 t.data.toList = some n) (w : World) :
    Calls Tryz.prog 195 #[.string t, .int .i64 16, .int .i64 64] w fun e w' => e = .returned (.tuple #[.int .u64 (n : Int), .nilIface]) ∧ w' = Lib.bytesWorld w 5 t := by
  have hemp : t.toList.isEmpty = false := by
    rw [← decide_eq_emptyBytes]
    exact decide_eq_false (fun h => hne (by rw [h]; rfl))
  have hcv := Lib.run_convert_string_bytes (P := Tryz.prog) w 9 173 5 t (u := .string) Tryz.underlying9 Tryz.underlying173 Tryz.underlying5
  have hB : ∀ j, j < t.size → (Lib.bytesWorld w 5 t).cell? ⟨w.heap.size, j, none⟩ = some (.int .u8 (t.data.toList.getD j 0).toNat) := fun j hj => Lib.bytesWorld_cell w 5 t j hj
  obtain ⟨W1, hW1⟩ : ∃ W1, W1 = Lib.bytesWorld w 5 t := ⟨_, rfl⟩
  rw [← hW1] at hcv hB ⊢
  clear hW1
  obtain ⟨bs, hL⟩ : ∃ bs, bs = t.data.toList := ⟨_, rfl⟩
  have hLn : bs.length = t.size := by rw [hL, Lib.size_eq]
  rw [← hL] at hB hn
  clear hL
  have HN0 := Lib.hid hn
  clear hn
  have hmv : IntKind.u64.wrap (IntKind.u64.wrap 18446744073709551616 - 1) = 18446744073709551615 := by
    rw [IntKind.wrap_u64, IntKind.wrap_u64]
    decide
  go_enter Tryz.func195, Tryz.ntmps195
  go_wp2
  go_loop [12, 13, 101] (fun vu vn vi => ∃ (k acc : Nat) (a : Int), vu = .bool false ∧ vn = .int .u64 a ∧ vi = .int .i64 k ∧ k ≤ t.size ∧ Hid (a = (acc : Int) ∧ puN 16 18446744073709551615 acc (bs.drop k) = some n))
    (fun _ _ vi => t.size - (intOf vi).toNat)
  case atStart => exact ⟨0, 0, 0, rfl, rfl, rfl, by omega, rfl, HN0.out⟩
  case round =>
    clear HN0
    obtain ⟨k, acc, a, rfl, rfl, rfl, hk, hh⟩ := hrel
    obtain ⟨ha, hdec⟩ := hh.out
    clear hh
    have a0 : 0 ≤ a := by omega
    by_cases hkn : k < t.size
    · have hc := hB k hkn
      have hdrop : bs.drop k = bs[k]'(by omega) :: bs.drop (k + 1) := List.drop_eq_getElem_cons (by omega)
      have hget : bs.getD k 0 = bs[k]'(by omega) := by simp [List.getD, List.getElem?_eq_getElem (show k < bs.length by omega)]
      rw [hdrop] at hdec
      rw [hget] at hc
      generalize bs[k]'(by omega) = c at hc hdec
      have hc256 : c.toNat < 256 := c.toNat_lt
      clear hB hdrop hget
      have hdl : digV c.toNat < 16 ∧ acc * 16 + digV c.toNat ≤ 18446744073709551615 := by
        simp only [puN] at hdec
        split at hdec
        · assumption
        · cases hdec
      simp only [puN, if_pos hdl] at hdec
      obtain ⟨hfit, hmx⟩ := hdl
      have hdl := True.intro
      by_cases hdig : 48 ≤ c.toNat ∧ c.toNat ≤ 57
      · obtain ⟨hd0, hd1⟩ := hdig
        rw [digV_digit c.toNat hd0 hd1] at hfit hmx hdec
        have HN : Hid (a * 16 + ((c.toNat : Int) - 48) = ((acc * 16 + (c.toNat - 48) : Nat) : Int) ∧ puN 16 18446744073709551615 (acc * 16 + (c.toNat - 48)) (bs.drop (k + 1)) = some n) := Lib.hid ⟨by omega, hdec⟩
        have icut : a < 1152921504606846976 := by omega
        have iov : a * 16 + ((c.toNat : Int) - 48) ≤ 18446744073709551615 := by omega
        clear hdec hfit hmx hdl ha
        go_wp2
        refine ⟨⟨k + 1, acc * 16 + (c.toNat - 48), a * 16 + ((c.toNat : Int) - 48), rfl, (by first | rfl | (congr 1; omega)), (by first | rfl | (congr 1; omega)), by omega, HN⟩, by simp [intOf]; omega⟩
      · have hdv : digV c.toNat < 16 := by omega
        obtain ⟨v, hlow, hv1, hv2, hv3⟩ := low_is c.toNat hc256 hdig hdv
        have hnd : ¬ ((c.toNat : Int) = 95) := by
          intro e
          have e' : c.toNat = 95 := by omega
          rw [e'] at hdv; revert hdv; decide
        have HN : Hid (a * 16 + (v - 87) = ((acc * 16 + digV c.toNat : Nat) : Int) ∧ puN 16 18446744073709551615 (acc * 16 + digV c.toNat) (bs.drop (k + 1)) = some n) := Lib.hid ⟨by omega, hdec⟩
        have icut : a < 1152921504606846976 := by omega
        have iov : a * 16 + (v - 87) ≤ 18446744073709551615 := by omega
        by_cases h57 : 48 ≤ (c.toNat : Int)
        all_goals
          have hn57 : 48 ≤ (c.toNat : Int) → ¬ ((c.toNat : Int) ≤ 57) := by omega
          clear hdv hdec hfit hdl ha hv3 hdig
          try have hn57' := hn57 h57
          clear hn57
          go_wp2_with (go_at_call 207; refine (lower_any _ _).mono ?_; rintro e w' ⟨rfl, rfl⟩)
          refine ⟨⟨k + 1, acc * 16 + digV c.toNat, a * 16 + (v - 87), rfl, (by first | rfl | (congr 1; omega)), (by first | rfl | (congr 1; omega)), by omega, HN⟩, by simp [intOf]; omega⟩
    · have hkk : k = t.size := by omega
      subst hkk
      rw [List.drop_eq_nil_of_le (by omega)] at hdec
      have e1 : acc = n := by simpa [puN] using hdec
      subst e1
      subst ha
      clear hdec a0
      go_wp2
      go_ret2
      exact ⟨rfl, rfl⟩


set_option maxHeartbeats 32000000 in
set_option maxRecDepth 100000 in
theorem pu_16_32 (t : ByteArray) (hne : t.size ≠ 0) (hmax : t.size ≤ 9223372036854775806) (n : Nat) (hn : puN 16 4294967295 0 t.data.toList = some n) (w : World) :
    Calls Tryz.prog 195 #[.string t, .int .i64 16, .int .i64 32] w fun e w' => e = .returned (.tuple #[.int .u64 (n : Int), .nilIface]) ∧ w' = Lib.bytesWorld w 5 t := by
  have hemp : t.toList.isEmpty = false := by
    rw [← decide_eq_emptyBytes]
    exact decide_eq_false (fun h => hne (by rw [h]; rfl))
  have hcv := Lib.run_convert_string_bytes (P := Tryz.prog) w 9 173 5 t (u := .string) Tryz.underlying9 Tryz.underlying173 Tryz.underlying5
  have hB : ∀ j, j < t.size → (Lib.bytesWorld w 5 t).cell? ⟨w.heap.size, j, none⟩ = some (.int .u8 (t.data.toList.getD j 0).toNat) := fun j hj => Lib.bytesWorld_cell w 5 t j hj
  obtain ⟨W1, hW1⟩ : ∃ W1, W1 = Lib.bytesWorld w 5 t := ⟨_, rfl⟩
  rw [← hW1] at hcv hB ⊢
  clear hW1
  obtain ⟨bs, hL⟩ : ∃ bs, bs = t.data.toList := ⟨_, rfl⟩
  have hLn : bs.length = t.size := by rw [hL, Lib.size_eq]
  rw [← hL] at hB hn
  clear hL
  have HN0 := Lib.hid hn
  clear hn
  go_enter Tryz.func195, Tryz.ntmps195
  go_wp2
  go_loop [12, 13, 101] (fun vu vn vi => ∃ (k acc : Nat) (a : Int), vu = .bool false ∧ vn = .int .u64 a ∧ vi = .int .i64 k ∧ k ≤ t.size ∧ Hid (a = (acc : Int) ∧ puN 16 4294967295 acc (bs.drop k) = some n))
    (fun _ _ vi => t.size - (intOf vi).toNat)
  case atStart => exact ⟨0, 0, 0, rfl, rfl, rfl, by omega, rfl, HN0.out⟩
  case round =>
    clear HN0
    obtain ⟨k, acc, a, rfl, rfl, rfl, hk, hh⟩ := hrel
    obtain ⟨ha, hdec⟩ := hh.out
    clear hh
    have a0 : 0 ≤ a := by omega
    by_cases hkn : k < t.size
    · have hc := hB k hkn
      have hdrop : bs.drop k = bs[k]'(by omega) :: bs.drop (k + 1) := List.drop_eq_getElem_cons (by omega)
      have hget : bs.getD k 0 = bs[k]'(by omega) := by simp [List.getD, List.getElem?_eq_getElem (show k < bs.length by omega)]
      rw [hdrop] at hdec
      rw [hget] at hc
      generalize bs[k]'(by omega) = c at hc hdec
      have hc256 : c.toNat < 256 := c.toNat_lt
      clear hB hdrop hget
      have hdl : digV c.toNat < 16 ∧ acc * 16 + digV c.toNat ≤ 4294967295 := by
        simp only [puN] at hdec
        split at hdec
        · assumption
        · cases hdec
      simp only [puN, if_pos hdl] at hdec
      obtain ⟨hfit, hmx⟩ := hdl
      have hdl := True.intro
      by_cases hdig : 48 ≤ c.toNat ∧ c.toNat ≤ 57
      · obtain ⟨hd0, hd1⟩ := hdig
        rw [digV_digit c.toNat hd0 hd1] at hfit hmx hdec
        have HN : Hid (a * 16 + ((c.toNat : Int) - 48) = ((acc * 16 + (c.toNat - 48) : Nat) : Int) ∧ puN 16 4294967295 (acc * 16 + (c.toNat - 48)) (bs.drop (k + 1)) = some n) := Lib.hid ⟨by omega, hdec⟩
        have icut : a < 1152921504606846976 := by omega
        have iov : a * 16 + ((c.toNat : Int) - 48) ≤ 4294967295 := by omega
        clear hdec hfit hmx hdl ha
        go_wp2
        refine ⟨⟨k + 1, acc * 16 + (c.toNat - 48), a * 16 + ((c.toNat : Int) - 48), rfl, (by first | rfl | (congr 1; omega)), (by first | rfl | (congr 1; omega)), by omega, HN⟩, by simp [intOf]; omega⟩
      · have hdv : digV c.toNat < 16 := by omega
        obtain ⟨v, hlow, hv1, hv2, hv3⟩ := low_is c.toNat hc256 hdig hdv
        have hnd : ¬ ((c.toNat : Int) = 95) := by
          intro e
          have e' : c.toNat = 95 := by omega
          rw [e'] at hdv; revert hdv; decide
        have HN : Hid (a * 16 + (v - 87) = ((acc * 16 + digV c.toNat : Nat) : Int) ∧ puN 16 4294967295 (acc * 16 + digV c.toNat) (bs.drop (k + 1)) = some n) := Lib.hid ⟨by omega, hdec⟩
        have icut : a < 1152921504606846976 := by omega
        have iov : a * 16 + (v - 87) ≤ 4294967295 := by omega
        by_cases h57 : 48 ≤ (c.toNat : Int)
        all_goals
          have hn57 : 48 ≤ (c.toNat : Int) → ¬ ((c.toNat : Int) ≤ 57) := by omega
          clear hdv hdec hfit hdl ha hv3 hdig
          try have hn57' := hn57 h57
          clear hn57
          go_wp2_with (go_at_call 207; refine (lower_any _ _).mono ?_; rintro e w' ⟨rfl, rfl⟩)
          refine ⟨⟨k + 1, acc * 16 + digV c.toNat, a * 16 + (v - 87), rfl, (by first | rfl | (congr 1; omega)), (by first | rfl | (congr 1; omega)), by omega, HN⟩, by simp [intOf]; omega⟩
    · have hkk : k = t.size := by omega
      subst hkk
      rw [List.drop_eq_nil_of_le (by omega)] at hdec
      have e1 : acc = n := by simpa [puN] using hdec
      subst e1
      subst ha
      clear hdec a0
      go_wp2
      go_ret2
      exact ⟨rfl, rfl⟩


set_option maxHeartbeats 32000000 in
set_option maxRecDepth 100000 in
theorem pu_10_32 (t : ByteArray) (hne : t.size ≠ 0) (hmax : t.size ≤ 9223372036854775806) (n : Nat) (hn : puN 10 4294967295 0 t.data.toList = some n) (w : World) :
    Calls Tryz.prog 195 #[.string t, .int .i64 10, .int .i64 32] w fun e w' => e = .returned (.tuple #[.int .u64 (n : Int), .nilIface]) ∧ w' = Lib.bytesWorld w 5 t := by
  have hemp : t.toList.isEmpty = false := by
    rw [← decide_eq_emptyBytes]
    exact decide_eq_false (fun h => hne (by rw [h]; rfl))
  have hcv := Lib.run_convert_string_bytes (P := Tryz.prog) w 9 173 5 t (u := .string) Tryz.underlying9 Tryz.underlying173 Tryz.underlying5
  have hB : ∀ j, j < t.size → (Lib.bytesWorld w 5 t).cell? ⟨w.heap.size, j, none⟩ = some (.int .u8 (t.data.toList.getD j 0).toNat) := fun j hj => Lib.bytesWorld_cell w 5 t j hj
  obtain ⟨W1, hW1⟩ : ∃ W1, W1 = Lib.bytesWorld w 5 t := ⟨_, rfl⟩
  rw [← hW1] at hcv hB ⊢
  clear hW1
  obtain ⟨bs, hL⟩ : ∃ bs, bs = t.data.toList := ⟨_, rfl⟩
  have hLn : bs.length = t.size := by rw [hL, Lib.size_eq]
  rw [← hL] at hB hn
  clear hL
  have HN0 := Lib.hid hn
  clear hn
  go_enter Tryz.func195, Tryz.ntmps195
  go_wp2
  go_loop [12, 13, 101] (fun vu vn vi => ∃ (k acc : Nat) (a : Int), vu = .bool false ∧ vn = .int .u64 a ∧ vi = .int .i64 k ∧ k ≤ t.size ∧ Hid (a = (acc : Int) ∧ puN 10 4294967295 acc (bs.drop k) = some n))
    (fun _ _ vi => t.size - (intOf vi).toNat)
  case atStart => exact ⟨0, 0, 0, rfl, rfl, rfl, by omega, rfl, HN0.out⟩
  case round =>
    clear HN0
    obtain ⟨k, acc, a, rfl, rfl, rfl, hk, hh⟩ := hrel
    obtain ⟨ha, hdec⟩ := hh.out
    clear hh
    have a0 : 0 ≤ a := by omega
    by_cases hkn : k < t.size
    · have hc := hB k hkn
      have hdrop : bs.drop k = bs[k]'(by omega) :: bs.drop (k + 1) := List.drop_eq_getElem_cons (by omega)
      have hget : bs.getD k 0 = bs[k]'(by omega) := by simp [List.getD, List.getElem?_eq_getElem (show k < bs.length by omega)]
      rw [hdrop] at hdec
      rw [hget] at hc
      generalize bs[k]'(by omega) = c at hc hdec
      have hc256 : c.toNat < 256 := c.toNat_lt
      clear hB hdrop hget
      have hdl : digV c.toNat < 10 ∧ acc * 10 + digV c.toNat ≤ 4294967295 := by
        simp only [puN] at hdec
        split at hdec
        · assumption
        · cases hdec
      simp only [puN, if_pos hdl] at hdec
      obtain ⟨hfit, hmx⟩ := hdl
      have hdl := True.intro
      by_cases hdig : 48 ≤ c.toNat ∧ c.toNat ≤ 57
      · obtain ⟨hd0, hd1⟩ := hdig
        rw [digV_digit c.toNat hd0 hd1] at hfit hmx hdec
        have HN : Hid (a * 10 + ((c.toNat : Int) - 48) = ((acc * 10 + (c.toNat - 48) : Nat) : Int) ∧ puN 10 4294967295 (acc * 10 + (c.toNat - 48)) (bs.drop (k + 1)) = some n) := Lib.hid ⟨by omega, hdec⟩
        have icut : a < 1844674407370955162 := by omega
        have iov : a * 10 + ((c.toNat : Int) - 48) ≤ 4294967295 := by omega
        clear hdec hfit hmx hdl ha
        go_wp2
        refine ⟨⟨k + 1, acc * 10 + (c.toNat - 48), a * 10 + ((c.toNat : Int) - 48), rfl, (by first | rfl | (congr 1; omega)), (by first | rfl | (congr 1; omega)), by omega, HN⟩, by simp [intOf]; omega⟩
      · exfalso
        have : digV c.toNat < 10 → 48 ≤ c.toNat ∧ c.toNat ≤ 57 := by unfold digV; split <;> (try split) <;> (try split) <;> omega
        exact hdig (this hfit)
    · have hkk : k = t.size := by omega
      subst hkk
      rw [List.drop_eq_nil_of_le (by omega)] at hdec
      have e1 : acc = n := by simpa [puN] using hdec
      subst e1
      subst ha
      clear hdec a0
      go_wp2
      go_ret2
      exact ⟨rfl, rfl⟩


def istrconv_ParseUint.f (a0 : ByteArray) (a1 : Int) (a2 : Int) : Option (Int × Option Int) := if 9223372036854775806 < a0.size then none else if a1 = 10 ∧ a2 = 64 then (if a0.size = 0 then none else (puN 10 18446744073709551615 0 a0.data.toList).map fun n => ((n : Int), none)) else if a1 = 16 ∧ a2 = 64 then (if a0.size = 0 then none else (puN 16 18446744073709551615 0 a0.data.toList).map fun n => ((n : Int), none)) else if a1 = 16 ∧ a2 = 32 then (if a0.size = 0 then none else (puN 16 4294967295 0 a0.data.toList).map fun n => ((n : Int), none)) else if a1 = 10 ∧ a2 = 32 then (if a0.size = 0 then none else (puN 10 4294967295 0 a0.data.toList).map fun n => ((n : Int), none)) else none
theorem istrconv_ParseUint.calls (a0 : ByteArray) (a1 : Int) (a2 : Int) (r1 : Int) (r2 : Option Int) (w : World) (h : istrconv_ParseUint.f a0 a1 a2 = some (r1, r2)) :
    Calls Tryz.prog 195 #[.string a0, .int .i64 a1, .int .i64 a2] w fun e w' => e = .returned (.tuple #[.int .u64 r1, errW r2]) ∧ Below w.heap.size w w' := by
  unfold istrconv_ParseUint.f at h
  by_cases hz : 9223372036854775806 < a0.size
  · rw [if_pos hz] at h; cases h
  rw [if_neg hz] at h
  by_cases h10_64 : a1 = 10 ∧ a2 = 64
  · rw [if_pos h10_64] at h
    obtain ⟨rfl, rfl⟩ := h10_64
    by_cases he : a0.size = 0
    · rw [if_pos he] at h; cases h
    rw [if_neg he] at h
    cases hp : puN 10 18446744073709551615 0 a0.data.toList with
    | none => rw [hp] at h; cases h
    | some n =>
      rw [hp] at h
      obtain ⟨rfl, rfl⟩ : (n : Int) = r1 ∧ none = r2 := by simpa using h
      refine (pu_10_64 a0 he (by omega) n hp w).mono ?_
      rintro e w' ⟨rfl, rfl⟩
      exact ⟨rfl, Lib.bytesWorld_below w 5 a0⟩
  rw [if_neg h10_64] at h
  by_cases h16_64 : a1 = 16 ∧ a2 = 64
  · rw [if_pos h16_64] at h
    obtain ⟨rfl, rfl⟩ := h16_64
    by_cases he : a0.size = 0
    · rw [if_pos he] at h; cases h
    rw [if_neg he] at h
    cases hp : puN 16 18446744073709551615 0 a0.data.toList with
    | none => rw [hp] at h; cases h
    | some n =>
      rw [hp] at h
      obtain ⟨rfl, rfl⟩ : (n : Int) = r1 ∧ none = r2 := by simpa using h
      refine (pu_16_64 a0 he (by omega) n hp w).mono ?_
      rintro e w' ⟨rfl, rfl⟩
      exact ⟨rfl, Lib.bytesWorld_below w 5 a0⟩
  rw [if_neg h16_64] at h
  by_cases h16_32 : a1 = 16 ∧ a2 = 32
  · rw [if_pos h16_32] at h
    obtain ⟨rfl, rfl⟩ := h16_32
    by_cases he : a0.size = 0
    · rw [if_pos he] at h; cases h
    rw [if_neg he] at h
    cases hp : puN 16 4294967295 0 a0.data.toList with
    | none => rw [hp] at h; cases h
    | some n =>
      rw [hp] at h
      obtain ⟨rfl, rfl⟩ : (n : Int) = r1 ∧ none = r2 := by simpa using h
      refine (pu_16_32 a0 he (by omega) n hp w).mono ?_
      rintro e w' ⟨rfl, rfl⟩
      exact ⟨rfl, Lib.bytesWorld_below w 5 a0⟩
  rw [if_neg h16_32] at h
  by_cases h10_32 : a1 = 10 ∧ a2 = 32
  · rw [if_pos h10_32] at h
    obtain ⟨rfl, rfl⟩ := h10_32
    by_cases he : a0.size = 0
    · rw [if_pos he] at h; cases h
    rw [if_neg he] at h
    cases hp : puN 10 4294967295 0 a0.data.toList with
    | none => rw [hp] at h; cases h
    | some n =>
      rw [hp] at h
      obtain ⟨rfl, rfl⟩ : (n : Int) = r1 ∧ none = r2 := by simpa using h
      refine (pu_10_32 a0 he (by omega) n hp w).mono ?_
      rintro e w' ⟨rfl, rfl⟩
      exact ⟨rfl, Lib.bytesWorld_below w 5 a0⟩
  rw [if_neg h10_32] at h
  cases h
end Go.Proofs.YtednjmngalmdkaaGreatDoor.GPC
