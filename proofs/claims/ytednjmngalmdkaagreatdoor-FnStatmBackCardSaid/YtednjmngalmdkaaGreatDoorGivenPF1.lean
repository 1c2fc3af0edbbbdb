/- internal/strconv.special and readFloat at a text of at most 18 digits with at most one point. Condition: rfOk. -/
import Derived.Test.YtednjmngalmdkaaGreatDoorGivenPC
import Derived.Test.YtednjmngalmdkaaGreatDoorPRF
import Derived.Test.YtednjmngalmdkaaGreatDoorWCut
import Derived.WalkMore
import Derived.OwnWalk
namespace Go.Proofs.YtednjmngalmdkaaGreatDoor.GPC
open Go.RowKit Go.Proofs.YtednjmngalmdkaaGreatDoorW.PrintWords Go.Proofs.YtednjmngalmdkaaGreatDoorW.PrintLast Go.Proofs.YtednjmngalmdkaaGreatDoor.PF
set_option linter.unusedVariables false
theorem ok_first {s : ByteArray} (h : rfOk s = true) : 0 < s.size ∧ s.size ≤ 18 ∧ 48 ≤ bt s 0 ∧ bt s 0 ≤ 57 := by
  unfold rfOk at h
  simp only [Bool.and_eq_true, decide_eq_true_eq] at h
  exact ⟨h.1.1.1, h.1.1.2, h.1.2.1, h.1.2.2⟩
theorem strOf_ne {s : ByteArray} (h : 0 < s.size) : s ≠ ByteArray.empty := by rintro rfl; exact absurd h (by decide)
set_option maxHeartbeats 4000000 in
set_option maxRecDepth 100000 in
theorem rf_special (s : ByteArray) (w : World) (h : rfOk s = true) : Calls Tryz.prog 230 #[.string s] w fun e w' => e = .returned (.tuple #[.float .f64 0, .int .i64 0, .bool false]) ∧ w' = w := by
  obtain ⟨h0, h18, hb0, hb1⟩ := ok_first h
  have hx := bt_at s 0
  simp only [Int.toNat_zero] at hx
  have hx0 := hx h0
  have e43 : (bt s 0 == 43) = false := beq_eq_false_iff_ne.mpr (by omega)
  have e45 : (bt s 0 == 45) = false := beq_eq_false_iff_ne.mpr (by omega)
  have e73 : (bt s 0 == 73) = false := beq_eq_false_iff_ne.mpr (by omega)
  have e105 : (bt s 0 == 105) = false := beq_eq_false_iff_ne.mpr (by omega)
  have e78 : (bt s 0 == 78) = false := beq_eq_false_iff_ne.mpr (by omega)
  have e110 : (bt s 0 == 110) = false := beq_eq_false_iff_ne.mpr (by omega)
  have d0 : ((s.size : Int) == 0) = false := beq_eq_false_iff_ne.mpr (by omega)
  have d2 : decide (s = ByteArray.empty) = false := decide_eq_false (strOf_ne h0)
  have hb0' := Aside0.mk hb0
  have hb1' := Aside0.mk hb1
  clear hb0 hb1
  go_enter Tryz.func230, Tryz.ntmps230
  go_wp2
  go_ret3
  exact ⟨rfl, rfl⟩
theorem u64_wrap {n : Int} (h0 : 0 ≤ n) (h1 : n < 18446744073709551616) : IntKind.u64.wrap n = n := by
  simp only [IntKind.wrap, IntKind.bits, IntKind.signed, Bool.false_and]
  exact Int.emod_eq_of_lt h0 h1
theorem u8_wrap {n : Int} (h0 : 0 ≤ n) (h1 : n < 256) : IntKind.u8.wrap n = n := by
  simp only [IntKind.wrap, IntKind.bits, IntKind.signed, Bool.false_and]
  exact Int.emod_eq_of_lt h0 h1
theorem ten_le (i : Nat) (h : i ≤ 17) : (10 : Int) ^ i ≤ 100000000000000000 := by
  have := Nat.pow_le_pow_right (n := 10) (by omega) h
  have e : ((10 ^ i : Nat) : Int) = (10 : Int) ^ i := by simp
  omega
theorem lower_no : ∀ c : Nat, c < 58 → 46 ≤ c → (bits BinOp.or IntKind.u8 (c : Int) 32 == 120) = false := by decide
theorem results_tmp7 {fn : Func} {t0 t1 t2 t3 t4 t5 t6 : Tmp} (h : fn.results = #[.tmp t0, .tmp t1, .tmp t2, .tmp t3, .tmp t4, .tmp t5, .tmp t6]) (tmps : Array Value) (P : Program) (w : World) :
    (results fn tmps).run P w = .ok (.tuple #[tmps.getD t0 undef, tmps.getD t1 undef, tmps.getD t2 undef, tmps.getD t3 undef, tmps.getD t4 undef, tmps.getD t5 undef, tmps.getD t6 undef]) w := by
  simp [results, h]
set_option maxHeartbeats 16000000 in
set_option maxRecDepth 100000 in
theorem rf_read (s : ByteArray) (w : World) (h : rfOk s = true) : Calls Tryz.prog 231 #[.string s] w fun e w' =>
    e = .returned (.tuple #[.int .u64 (rfAt s s.size).m, .int .i64 (rfAt s s.size).exp, .bool false, .bool false, .bool false, .int .i64 s.size, .bool true]) ∧ w' = w := by
  obtain ⟨h0, h18, hb0, hb1⟩ := ok_first h
  have hx := bt_at s 0
  simp only [Int.toNat_zero] at hx
  have hx0 := hx h0
  have e43 : (bt s 0 == 43) = false := beq_eq_false_iff_ne.mpr (by omega)
  have e45 : (bt s 0 == 45) = false := beq_eq_false_iff_ne.mpr (by omega)
  have d0 : decide ((0:Int) ≥ (s.size : Int)) = false := decide_eq_false (by omega)
  have HB0 := Aside0.mk hb0
  have HB1 := Aside0.mk hb1
  have H18 := Aside0.mk h18
  have HOK := Aside0.mk h
  clear hb0 hb1
  have HX : 2 < s.size → (bits BinOp.or IntKind.u8 (bt s 1) 32 == 120) = false := by
    intro h2
    have hc := ok_at s h 1 (by omega)
    have hr := bt_range s 1
    have := lower_no (bt s 1).toNat (by simp only [Int.natCast_one] at hc; omega) (by simp only [Int.natCast_one] at hc; omega)
    rwa [Int.toNat_of_nonneg hr.1] at this
  go_enter Tryz.func231, Tryz.ntmps231
  go_wp2
  go_step3
  have d2 : decide (s = ByteArray.empty) = false := decide_eq_false (strOf_ne h0)
  have hx1 : ∀ h : 1 < s.size, ((s[1]'h).toNat : Int) = bt s 1 := by simpa using bt_at s 1
  by_cases c0 : (2:Int) < (s.size : Int)
  · have d1 : decide ((2:Int) < (s.size : Int)) = true := decide_eq_true c0
    have e3 := HX (by omega)
    have q1 : ((1:Int) < (s.size : Int)) = True := eq_true (by omega)
    have H0 := Aside0.mk h0
    clear HX h
    cases c1 : (bt s 0 == 48) <;> (go_wp2; go_step3; go_wp2)
    all_goals clear hx hx0 e43 e45 d0 d2 hx1 c0 d1 e3 q1 c1 h18 h0
    · go_loopg [2, 5, 7, 9, 13, 14, 15, 16, 17] s.size (fun kq v2 v5 v7 v9 v13 v14 v15 v16 v17 w' => ∃ (m nd dp x : Int) (dot dig : Bool), v2 = .int .u64 m ∧ v5 = .bool false ∧ v7 = .int .i64 x ∧ v9 = .bool false ∧ v13 = .bool dot ∧ v14 = .bool dig ∧ v15 = .int .i64 nd ∧ v16 = .int .i64 nd ∧ v17 = .int .i64 dp ∧
        Aside0 (0 ≤ x ∧ x + kq = s.size) ∧ Aside0 (rfAt s x.toNat = ⟨m, nd, dp, dot⟩) ∧ Aside0 (0 < x → dig = true) ∧ w' = w)
      case atStart => exact ⟨0, 0, 0, 0, false, false, rfl, rfl, rfl, rfl, rfl, rfl, rfl, rfl, rfl, ⟨by omega, by omega⟩, ⟨rfl⟩, ⟨fun h => absurd h (by omega)⟩, rfl⟩
      case round =>
        obtain ⟨m, nd, dp, x, dot, dig, rfl, rfl, rfl, rfl, rfl, rfl, rfl, rfl, rfl, HXK, HST, HDG, rfl⟩ := hrel
        have HBD : Aside0 (0 ≤ m ∧ m < (10 : Int) ^ x.toNat ∧ 0 ≤ nd ∧ nd ≤ (x.toNat : Int) ∧ - (x.toNat : Int) ≤ dp ∧ dp ≤ (x.toNat : Int)) := ⟨by have h := rf_bounds s HOK.out x.toNat (by have := HXK.out; omega); rw [HST.out] at h; exact h⟩
        by_cases hx : x < (s.size : Int)
        · have c0 : decide (x < (s.size : Int)) = true := decide_eq_true hx
          have p5 : (0 ≤ x) = True := eq_true HXK.out.1
          have q5 : (x < (s.size : Int)) = True := eq_true hx
          have hx5 := bt_at s x
          have HC := Aside0.mk (ok_at s HOK.out x.toNat (by have := HXK.out; omega))
          rw [HST.out, Int.toNat_of_nonneg HXK.out.1] at HC
          have HSU := Aside0.mk (rfAt_succ s x.toNat (by have := HXK.out; omega))
          rw [HST.out, Int.toNat_of_nonneg HXK.out.1] at HSU
          have HX2 := Aside0.mk hx
          clear hx
          have hw : IntKind.i64.wrap (x + 1) = x + 1 := by have := HX2.out; have := HXK.out.1; have := H18.out; rw [i64_w]; unfold wrap64; omega
          have b95 : (bt s x == 95) = false := beq_eq_false_iff_ne.mpr (by have := HC.out; omega)
          by_cases h46 : bt s x = 46
          · have b46 : (bt s x == 46) = true := beq_iff_eq.mpr h46
            have hdot : dot = false := by
              rcases HC.out with hc | hc
              · omega
              · exact hc.2
            subst hdot
            have H46 := Aside0.mk h46
            clear h46
            go_wp2
            go_roundg (gk - 1)
            case measure => have := HXK.out; have := HX2.out; omega
            case rel =>
              refine ⟨m, nd, nd, x + 1, true, dig, rfl, rfl, rfl, rfl, rfl, rfl, rfl, rfl, rfl, ⟨by have := HXK.out; omega, by have := HXK.out; have := HX2.out; omega⟩, ⟨?_⟩, ⟨fun _ => HDG.out ?_⟩, rfl⟩
              · rw [show (x + 1).toNat = x.toNat + 1 by have := HXK.out; omega, HSU.out]
                simp [RF.step, H46.out]
              · have h1 := HXK.out.1
                rcases Int.lt_or_eq_of_le h1 with h2 | h2
                · exact h2
                · have := HB0.out
                  rw [h2] at this
                  have := H46.out
                  omega
          · have b46 : (bt s x == 46) = false := beq_eq_false_iff_ne.mpr h46
            have hd : 48 ≤ bt s x ∧ bt s x ≤ 57 := by
              rcases HC.out with hc | hc
              · exact hc
              · exact absurd hc.1 h46
            have d48 : decide (48 ≤ bt s x) = true := decide_eq_true hd.1
            have d57 : decide (bt s x ≤ 57) = true := decide_eq_true hd.2
            have d19 : decide (nd < 19) = true := decide_eq_true (by have := HBD.out; have := H18.out; have := HX2.out; omega)
            have wdp : IntKind.i64.wrap (dp - 1) = dp - 1 := by have := HBD.out; have := H18.out; have := HX2.out; rw [i64_w]; unfold wrap64; omega
            have wnd : IntKind.i64.wrap (nd + 1) = nd + 1 := by have := HBD.out; have := H18.out; have := HX2.out; rw [i64_w]; unfold wrap64; omega
            have hp := ten_le x.toNat (by have h1 := HX2.out; have h2 := H18.out; omega)
            have hm := HBD.out
            have wm1 : IntKind.u64.wrap (m * 10) = m * 10 := u64_wrap (by omega) (by omega)
            have w8 : IntKind.u8.wrap (bt s x - 48) = bt s x - 48 := u8_wrap (by omega) (by omega)
            have w64c : IntKind.u64.wrap (bt s x - 48) = bt s x - 48 := u64_wrap (by omega) (by omega)
            have wm2 : IntKind.u64.wrap (m * 10 + (bt s x - 48)) = m * 10 + (bt s x - 48) := u64_wrap (by omega) (by omega)
            have HD := Aside0.mk hd
            have H46 := Aside0.mk h46
            clear hd h46 hp hm
            cases h48 : (bt s x == 48)
            · go_wp2
              go_roundg (gk - 1)
              case measure => have := HXK.out; have := HX2.out; omega
              case rel =>
                refine ⟨m * 10 + (bt s x - 48), nd + 1, dp, x + 1, dot, true, rfl, rfl, rfl, rfl, rfl, rfl, rfl, rfl, rfl, ⟨by have := HXK.out; omega, by have := HXK.out; have := HX2.out; omega⟩, ⟨?_⟩, ⟨fun _ => rfl⟩, rfl⟩
                rw [show (x + 1).toNat = x.toNat + 1 by have := HXK.out; omega, HSU.out]
                have : ¬ bt s x = 48 := by simpa using h48
                simp [RF.step, H46.out, this]
            · cases hn : (nd == 0)
              · go_wp2
                go_roundg (gk - 1)
                case measure => have := HXK.out; have := HX2.out; omega
                case rel =>
                  refine ⟨m * 10 + (bt s x - 48), nd + 1, dp, x + 1, dot, true, rfl, rfl, rfl, rfl, rfl, rfl, rfl, rfl, rfl, ⟨by have := HXK.out; omega, by have := HXK.out; have := HX2.out; omega⟩, ⟨?_⟩, ⟨fun _ => rfl⟩, rfl⟩
                  rw [show (x + 1).toNat = x.toNat + 1 by have := HXK.out; omega, HSU.out]
                  have : ¬ nd = 0 := by simpa using hn
                  simp [RF.step, H46.out, this]
              · go_wp2
                go_roundg (gk - 1)
                case measure => have := HXK.out; have := HX2.out; omega
                case rel =>
                  refine ⟨m, nd, dp - 1, x + 1, dot, true, rfl, rfl, rfl, rfl, rfl, rfl, rfl, rfl, rfl, ⟨by have := HXK.out; omega, by have := HXK.out; have := HX2.out; omega⟩, ⟨?_⟩, ⟨fun _ => rfl⟩, rfl⟩
                  rw [show (x + 1).toNat = x.toNat + 1 by have := HXK.out; omega, HSU.out]
                  have h1 : bt s x = 48 := by simpa using h48
                  have h2 : nd = 0 := by simpa using hn
                  simp [RF.step, h1, h2]
        · have c0 : decide (x < (s.size : Int)) = false := decide_eq_false hx
          have hxe : x = (s.size : Int) := by have := HXK.out; omega
          have hdig : dig = true := HDG.out (by have := H0.out; omega)
          subst hdig
          have HXE := Aside0.mk hxe
          have HFIN : Aside0 (rfAt s s.size = ⟨m, nd, dp, dot⟩) := ⟨by have := HST.out; rw [hxe] at this; simpa using this⟩
          have wex : IntKind.i64.wrap (dp - nd) = dp - nd := by have h1 := HBD.out; have := H18.out; rw [i64_w]; unfold wrap64; omega
          have wnn : IntKind.i64.wrap (nd - nd) = nd - nd := by rw [i64_w]; unfold wrap64; omega
          clear hx hxe
          cases dot <;> cases hm : (m == 0)
          all_goals (go_wp2)
          all_goals (try simp only [Exit.inBlock, Exit.then, Exit.noGoto_ret])
          all_goals (refine bodyPost_ret (results_tmp7 rfl _ _ _) rfl ?_)
          all_goals (first | (have hm' : m = 0 := by simpa using hm) | (have hm' : ¬ m = 0 := by simpa using hm))
          all_goals simp [RF.exp, hm', HXE.out, HFIN.out]
    · go_loopg [2, 5, 7, 9, 13, 14, 15, 16, 17] s.size (fun kq v2 v5 v7 v9 v13 v14 v15 v16 v17 w' => ∃ (m nd dp x : Int) (dot dig : Bool), v2 = .int .u64 m ∧ v5 = .bool false ∧ v7 = .int .i64 x ∧ v9 = .bool false ∧ v13 = .bool dot ∧ v14 = .bool dig ∧ v15 = .int .i64 nd ∧ v16 = .int .i64 nd ∧ v17 = .int .i64 dp ∧
        Aside0 (0 ≤ x ∧ x + kq = s.size) ∧ Aside0 (rfAt s x.toNat = ⟨m, nd, dp, dot⟩) ∧ Aside0 (0 < x → dig = true) ∧ w' = w)
      case atStart => exact ⟨0, 0, 0, 0, false, false, rfl, rfl, rfl, rfl, rfl, rfl, rfl, rfl, rfl, ⟨by omega, by omega⟩, ⟨rfl⟩, ⟨fun h => absurd h (by omega)⟩, rfl⟩
      case round =>
        obtain ⟨m, nd, dp, x, dot, dig, rfl, rfl, rfl, rfl, rfl, rfl, rfl, rfl, rfl, HXK, HST, HDG, rfl⟩ := hrel
        have HBD : Aside0 (0 ≤ m ∧ m < (10 : Int) ^ x.toNat ∧ 0 ≤ nd ∧ nd ≤ (x.toNat : Int) ∧ - (x.toNat : Int) ≤ dp ∧ dp ≤ (x.toNat : Int)) := ⟨by have h := rf_bounds s HOK.out x.toNat (by have := HXK.out; omega); rw [HST.out] at h; exact h⟩
        by_cases hx : x < (s.size : Int)
        · have c0 : decide (x < (s.size : Int)) = true := decide_eq_true hx
          have p5 : (0 ≤ x) = True := eq_true HXK.out.1
          have q5 : (x < (s.size : Int)) = True := eq_true hx
          have hx5 := bt_at s x
          have HC := Aside0.mk (ok_at s HOK.out x.toNat (by have := HXK.out; omega))
          rw [HST.out, Int.toNat_of_nonneg HXK.out.1] at HC
          have HSU := Aside0.mk (rfAt_succ s x.toNat (by have := HXK.out; omega))
          rw [HST.out, Int.toNat_of_nonneg HXK.out.1] at HSU
          have HX2 := Aside0.mk hx
          clear hx
          have hw : IntKind.i64.wrap (x + 1) = x + 1 := by have := HX2.out; have := HXK.out.1; have := H18.out; rw [i64_w]; unfold wrap64; omega
          have b95 : (bt s x == 95) = false := beq_eq_false_iff_ne.mpr (by have := HC.out; omega)
          by_cases h46 : bt s x = 46
          · have b46 : (bt s x == 46) = true := beq_iff_eq.mpr h46
            have hdot : dot = false := by
              rcases HC.out with hc | hc
              · omega
              · exact hc.2
            subst hdot
            have H46 := Aside0.mk h46
            clear h46
            go_wp2
            go_roundg (gk - 1)
            case measure => have := HXK.out; have := HX2.out; omega
            case rel =>
              refine ⟨m, nd, nd, x + 1, true, dig, rfl, rfl, rfl, rfl, rfl, rfl, rfl, rfl, rfl, ⟨by have := HXK.out; omega, by have := HXK.out; have := HX2.out; omega⟩, ⟨?_⟩, ⟨fun _ => HDG.out ?_⟩, rfl⟩
              · rw [show (x + 1).toNat = x.toNat + 1 by have := HXK.out; omega, HSU.out]
                simp [RF.step, H46.out]
              · have h1 := HXK.out.1
                rcases Int.lt_or_eq_of_le h1 with h2 | h2
                · exact h2
                · have := HB0.out
                  rw [h2] at this
                  have := H46.out
                  omega
          · have b46 : (bt s x == 46) = false := beq_eq_false_iff_ne.mpr h46
            have hd : 48 ≤ bt s x ∧ bt s x ≤ 57 := by
              rcases HC.out with hc | hc
              · exact hc
              · exact absurd hc.1 h46
            have d48 : decide (48 ≤ bt s x) = true := decide_eq_true hd.1
            have d57 : decide (bt s x ≤ 57) = true := decide_eq_true hd.2
            have d19 : decide (nd < 19) = true := decide_eq_true (by have := HBD.out; have := H18.out; have := HX2.out; omega)
            have wdp : IntKind.i64.wrap (dp - 1) = dp - 1 := by have := HBD.out; have := H18.out; have := HX2.out; rw [i64_w]; unfold wrap64; omega
            have wnd : IntKind.i64.wrap (nd + 1) = nd + 1 := by have := HBD.out; have := H18.out; have := HX2.out; rw [i64_w]; unfold wrap64; omega
            have hp := ten_le x.toNat (by have h1 := HX2.out; have h2 := H18.out; omega)
            have hm := HBD.out
            have wm1 : IntKind.u64.wrap (m * 10) = m * 10 := u64_wrap (by omega) (by omega)
            have w8 : IntKind.u8.wrap (bt s x - 48) = bt s x - 48 := u8_wrap (by omega) (by omega)
            have w64c : IntKind.u64.wrap (bt s x - 48) = bt s x - 48 := u64_wrap (by omega) (by omega)
            have wm2 : IntKind.u64.wrap (m * 10 + (bt s x - 48)) = m * 10 + (bt s x - 48) := u64_wrap (by omega) (by omega)
            have HD := Aside0.mk hd
            have H46 := Aside0.mk h46
            clear hd h46 hp hm
            cases h48 : (bt s x == 48)
            · go_wp2
              go_roundg (gk - 1)
              case measure => have := HXK.out; have := HX2.out; omega
              case rel =>
                refine ⟨m * 10 + (bt s x - 48), nd + 1, dp, x + 1, dot, true, rfl, rfl, rfl, rfl, rfl, rfl, rfl, rfl, rfl, ⟨by have := HXK.out; omega, by have := HXK.out; have := HX2.out; omega⟩, ⟨?_⟩, ⟨fun _ => rfl⟩, rfl⟩
                rw [show (x + 1).toNat = x.toNat + 1 by have := HXK.out; omega, HSU.out]
                have : ¬ bt s x = 48 := by simpa using h48
                simp [RF.step, H46.out, this]
            · cases hn : (nd == 0)
              · go_wp2
                go_roundg (gk - 1)
                case measure => have := HXK.out; have := HX2.out; omega
                case rel =>
                  refine ⟨m * 10 + (bt s x - 48), nd + 1, dp, x + 1, dot, true, rfl, rfl, rfl, rfl, rfl, rfl, rfl, rfl, rfl, ⟨by have := HXK.out; omega, by have := HXK.out; have := HX2.out; omega⟩, ⟨?_⟩, ⟨fun _ => rfl⟩, rfl⟩
                  rw [show (x + 1).toNat = x.toNat + 1 by have := HXK.out; omega, HSU.out]
                  have : ¬ nd = 0 := by simpa using hn
                  simp [RF.step, H46.out, this]
              · go_wp2
                go_roundg (gk - 1)
                case measure => have := HXK.out; have := HX2.out; omega
                case rel =>
                  refine ⟨m, nd, dp - 1, x + 1, dot, true, rfl, rfl, rfl, rfl, rfl, rfl, rfl, rfl, rfl, ⟨by have := HXK.out; omega, by have := HXK.out; have := HX2.out; omega⟩, ⟨?_⟩, ⟨fun _ => rfl⟩, rfl⟩
                  rw [show (x + 1).toNat = x.toNat + 1 by have := HXK.out; omega, HSU.out]
                  have h1 : bt s x = 48 := by simpa using h48
                  have h2 : nd = 0 := by simpa using hn
                  simp [RF.step, h1, h2]
        · have c0 : decide (x < (s.size : Int)) = false := decide_eq_false hx
          have hxe : x = (s.size : Int) := by have := HXK.out; omega
          have hdig : dig = true := HDG.out (by have := H0.out; omega)
          subst hdig
          have HXE := Aside0.mk hxe
          have HFIN : Aside0 (rfAt s s.size = ⟨m, nd, dp, dot⟩) := ⟨by have := HST.out; rw [hxe] at this; simpa using this⟩
          have wex : IntKind.i64.wrap (dp - nd) = dp - nd := by have h1 := HBD.out; have := H18.out; rw [i64_w]; unfold wrap64; omega
          have wnn : IntKind.i64.wrap (nd - nd) = nd - nd := by rw [i64_w]; unfold wrap64; omega
          clear hx hxe
          cases dot <;> cases hm : (m == 0)
          all_goals (go_wp2)
          all_goals (try simp only [Exit.inBlock, Exit.then, Exit.noGoto_ret])
          all_goals (refine bodyPost_ret (results_tmp7 rfl _ _ _) rfl ?_)
          all_goals (first | (have hm' : m = 0 := by simpa using hm) | (have hm' : ¬ m = 0 := by simpa using hm))
          all_goals simp [RF.exp, hm', HXE.out, HFIN.out]
  · have d1 : decide ((2:Int) < (s.size : Int)) = false := decide_eq_false c0
    have H0 := Aside0.mk h0
    clear HX h
    (go_wp2; go_step3; go_wp2)
    clear hx hx0 e43 e45 d0 d2 hx1 c0 d1 h18 h0
    · go_loopg [2, 5, 7, 9, 13, 14, 15, 16, 17] s.size (fun kq v2 v5 v7 v9 v13 v14 v15 v16 v17 w' => ∃ (m nd dp x : Int) (dot dig : Bool), v2 = .int .u64 m ∧ v5 = .bool false ∧ v7 = .int .i64 x ∧ v9 = .bool false ∧ v13 = .bool dot ∧ v14 = .bool dig ∧ v15 = .int .i64 nd ∧ v16 = .int .i64 nd ∧ v17 = .int .i64 dp ∧
        Aside0 (0 ≤ x ∧ x + kq = s.size) ∧ Aside0 (rfAt s x.toNat = ⟨m, nd, dp, dot⟩) ∧ Aside0 (0 < x → dig = true) ∧ w' = w)
      case atStart => exact ⟨0, 0, 0, 0, false, false, rfl, rfl, rfl, rfl, rfl, rfl, rfl, rfl, rfl, ⟨by omega, by omega⟩, ⟨rfl⟩, ⟨fun h => absurd h (by omega)⟩, rfl⟩
      case round =>
        obtain ⟨m, nd, dp, x, dot, dig, rfl, rfl, rfl, rfl, rfl, rfl, rfl, rfl, rfl, HXK, HST, HDG, rfl⟩ := hrel
        have HBD : Aside0 (0 ≤ m ∧ m < (10 : Int) ^ x.toNat ∧ 0 ≤ nd ∧ nd ≤ (x.toNat : Int) ∧ - (x.toNat : Int) ≤ dp ∧ dp ≤ (x.toNat : Int)) := ⟨by have h := rf_bounds s HOK.out x.toNat (by have := HXK.out; omega); rw [HST.out] at h; exact h⟩
        by_cases hx : x < (s.size : Int)
        · have c0 : decide (x < (s.size : Int)) = true := decide_eq_true hx
          have p5 : (0 ≤ x) = True := eq_true HXK.out.1
          have q5 : (x < (s.size : Int)) = True := eq_true hx
          have hx5 := bt_at s x
          have HC := Aside0.mk (ok_at s HOK.out x.toNat (by have := HXK.out; omega))
          rw [HST.out, Int.toNat_of_nonneg HXK.out.1] at HC
          have HSU := Aside0.mk (rfAt_succ s x.toNat (by have := HXK.out; omega))
          rw [HST.out, Int.toNat_of_nonneg HXK.out.1] at HSU
          have HX2 := Aside0.mk hx
          clear hx
          have hw : IntKind.i64.wrap (x + 1) = x + 1 := by have := HX2.out; have := HXK.out.1; have := H18.out; rw [i64_w]; unfold wrap64; omega
          have b95 : (bt s x == 95) = false := beq_eq_false_iff_ne.mpr (by have := HC.out; omega)
          by_cases h46 : bt s x = 46
          · have b46 : (bt s x == 46) = true := beq_iff_eq.mpr h46
            have hdot : dot = false := by
              rcases HC.out with hc | hc
              · omega
              · exact hc.2
            subst hdot
            have H46 := Aside0.mk h46
            clear h46
            go_wp2
            go_roundg (gk - 1)
            case measure => have := HXK.out; have := HX2.out; omega
            case rel =>
              refine ⟨m, nd, nd, x + 1, true, dig, rfl, rfl, rfl, rfl, rfl, rfl, rfl, rfl, rfl, ⟨by have := HXK.out; omega, by have := HXK.out; have := HX2.out; omega⟩, ⟨?_⟩, ⟨fun _ => HDG.out ?_⟩, rfl⟩
              · rw [show (x + 1).toNat = x.toNat + 1 by have := HXK.out; omega, HSU.out]
                simp [RF.step, H46.out]
              · have h1 := HXK.out.1
                rcases Int.lt_or_eq_of_le h1 with h2 | h2
                · exact h2
                · have := HB0.out
                  rw [h2] at this
                  have := H46.out
                  omega
          · have b46 : (bt s x == 46) = false := beq_eq_false_iff_ne.mpr h46
            have hd : 48 ≤ bt s x ∧ bt s x ≤ 57 := by
              rcases HC.out with hc | hc
              · exact hc
              · exact absurd hc.1 h46
            have d48 : decide (48 ≤ bt s x) = true := decide_eq_true hd.1
            have d57 : decide (bt s x ≤ 57) = true := decide_eq_true hd.2
            have d19 : decide (nd < 19) = true := decide_eq_true (by have := HBD.out; have := H18.out; have := HX2.out; omega)
            have wdp : IntKind.i64.wrap (dp - 1) = dp - 1 := by have := HBD.out; have := H18.out; have := HX2.out; rw [i64_w]; unfold wrap64; omega
            have wnd : IntKind.i64.wrap (nd + 1) = nd + 1 := by have := HBD.out; have := H18.out; have := HX2.out; rw [i64_w]; unfold wrap64; omega
            have hp := ten_le x.toNat (by have h1 := HX2.out; have h2 := H18.out; omega)
            have hm := HBD.out
            have wm1 : IntKind.u64.wrap (m * 10) = m * 10 := u64_wrap (by omega) (by omega)
            have w8 : IntKind.u8.wrap (bt s x - 48) = bt s x - 48 := u8_wrap (by omega) (by omega)
            have w64c : IntKind.u64.wrap (bt s x - 48) = bt s x - 48 := u64_wrap (by omega) (by omega)
            have wm2 : IntKind.u64.wrap (m * 10 + (bt s x - 48)) = m * 10 + (bt s x - 48) := u64_wrap (by omega) (by omega)
            have HD := Aside0.mk hd
            have H46 := Aside0.mk h46
            clear hd h46 hp hm
            cases h48 : (bt s x == 48)
            · go_wp2
              go_roundg (gk - 1)
              case measure => have := HXK.out; have := HX2.out; omega
              case rel =>
                refine ⟨m * 10 + (bt s x - 48), nd + 1, dp, x + 1, dot, true, rfl, rfl, rfl, rfl, rfl, rfl, rfl, rfl, rfl, ⟨by have := HXK.out; omega, by have := HXK.out; have := HX2.out; omega⟩, ⟨?_⟩, ⟨fun _ => rfl⟩, rfl⟩
                rw [show (x + 1).toNat = x.toNat + 1 by have := HXK.out; omega, HSU.out]
                have : ¬ bt s x = 48 := by simpa using h48
                simp [RF.step, H46.out, this]
            · cases hn : (nd == 0)
              · go_wp2
                go_roundg (gk - 1)
                case measure => have := HXK.out; have := HX2.out; omega
                case rel =>
                  refine ⟨m * 10 + (bt s x - 48), nd + 1, dp, x + 1, dot, true, rfl, rfl, rfl, rfl, rfl, rfl, rfl, rfl, rfl, ⟨by have := HXK.out; omega, by have := HXK.out; have := HX2.out; omega⟩, ⟨?_⟩, ⟨fun _ => rfl⟩, rfl⟩
                  rw [show (x + 1).toNat = x.toNat + 1 by have := HXK.out; omega, HSU.out]
                  have : ¬ nd = 0 := by simpa using hn
                  simp [RF.step, H46.out, this]
              · go_wp2
                go_roundg (gk - 1)
                case measure => have := HXK.out; have := HX2.out; omega
                case rel =>
                  refine ⟨m, nd, dp - 1, x + 1, dot, true, rfl, rfl, rfl, rfl, rfl, rfl, rfl, rfl, rfl, ⟨by have := HXK.out; omega, by have := HXK.out; have := HX2.out; omega⟩, ⟨?_⟩, ⟨fun _ => rfl⟩, rfl⟩
                  rw [show (x + 1).toNat = x.toNat + 1 by have := HXK.out; omega, HSU.out]
                  have h1 : bt s x = 48 := by simpa using h48
                  have h2 : nd = 0 := by simpa using hn
                  simp [RF.step, h1, h2]
        · have c0 : decide (x < (s.size : Int)) = false := decide_eq_false hx
          have hxe : x = (s.size : Int) := by have := HXK.out; omega
          have hdig : dig = true := HDG.out (by have := H0.out; omega)
          subst hdig
          have HXE := Aside0.mk hxe
          have HFIN : Aside0 (rfAt s s.size = ⟨m, nd, dp, dot⟩) := ⟨by have := HST.out; rw [hxe] at this; simpa using this⟩
          have wex : IntKind.i64.wrap (dp - nd) = dp - nd := by have h1 := HBD.out; have := H18.out; rw [i64_w]; unfold wrap64; omega
          have wnn : IntKind.i64.wrap (nd - nd) = nd - nd := by rw [i64_w]; unfold wrap64; omega
          clear hx hxe
          cases dot <;> cases hm : (m == 0)
          all_goals (go_wp2)
          all_goals (try simp only [Exit.inBlock, Exit.then, Exit.noGoto_ret])
          all_goals (refine bodyPost_ret (results_tmp7 rfl _ _ _) rfl ?_)
          all_goals (first | (have hm' : m = 0 := by simpa using hm) | (have hm' : ¬ m = 0 := by simpa using hm))
          all_goals simp [RF.exp, hm', HXE.out, HFIN.out]
end Go.Proofs.YtednjmngalmdkaaGreatDoor.GPC
