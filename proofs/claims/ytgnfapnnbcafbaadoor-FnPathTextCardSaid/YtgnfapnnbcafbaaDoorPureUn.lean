/- Plain facts: what is unescaped: the reference's answer, where it has one, is the package's, for names and for paths. Condition: at most 4,000 bytes. -/
import Derived.Test.YtgnfapnnbcafbaaDoorPureEsc
namespace Go.Proofs.YtgnfapnnbcafbaaDoor.Pure
open Go.RowKit Go.Proofs.YtgnfapnnbcafbaaDoor.GNU Go.Proofs.YtgnfapnnbcafbaaDoorW.PrintWords Go.Proofs.YtgnfapnnbcafbaaDoorW.PrintLast

theorem escapes_is : Ev (fun k => laws_escapes.f k) true :=
  Ev.of (fun k => laws_escapes.mono k) (k := 40) (by decide +kernel)

theorem wrap1 (n : Nat) (h : n < 100000000) : wrap64 ((n : Int) + 1) = ((n + 1 : Nat) : Int) := by unfold wrap64; omega
theorem wrap2 (n : Nat) (h : n < 100000000) : wrap64 ((n : Int) + 2) = ((n + 2 : Nat) : Int) := by unfold wrap64; omega
theorem wrap3 (n : Nat) (h : n < 100000000) : wrap64 ((n : Int) + 3) = ((n + 3 : Nat) : Int) := by unfold wrap64; omega
theorem wrap4 (n : Nat) (h : n < 100000000) : wrap64 ((n : Int) + 4) = ((n + 4 : Nat) : Int) := by unfold wrap64; omega
theorem wrapM (n m : Nat) (h : m ≤ n) (h2 : n < 100000000) : wrap64 ((n : Int) - (m : Int)) = ((n - m : Nat) : Int) := by unfold wrap64; omega

/-- a small hexadecimal digit's value, or -1 -/
def hexV (c : Nat) : Int := if 48 ≤ c ∧ c ≤ 57 then (c : Int) - 48 else if 97 ≤ c ∧ c ≤ 102 then (c : Int) - 87 else -1
theorem hexValue_is (c : Nat) (h : c < 256) : Ev (fun k => spec_hexValue.f k (c : Int)) (hexV c) := by
  unfold spec_hexValue.f hexV
  have j0 : ∀ b : Bool, Ev (fun k => spec_hexValue.j0 k (c : Int) b) (if b = true then ((c : Int) - 48) % 256 else if (c : Int) ≥ 97 then (if (c : Int) ≤ 102 then (((c : Int) - 97) % 256) + 10 else -1) else -1) := by
    intro b
    refine Ev.step (f := fun _ => some (if b = true then ((c : Int) - 48) % 256 else if (c : Int) ≥ 97 then (if (c : Int) ≤ 102 then (((c : Int) - 97) % 256) + 10 else -1) else -1)) (fun k => ?_) (Ev.now _)
    simp only [spec_hexValue.j0]
    split
    · rfl
    · split
      · split <;> rfl
      · rfl
  by_cases h1 : (c : Int) ≥ 48
  · simp only [if_pos h1]
    refine Ev.congr (f := fun k => spec_hexValue.j0 k (c : Int) (decide ((c : Int) ≤ 57))) (fun _ => rfl) ?_
    by_cases h2 : (c : Int) ≤ 57
    · have := j0 true
      simp only [if_true] at this
      rw [decide_eq_true h2, if_pos (by omega)]
      rwa [show ((c : Int) - 48) % 256 = (c : Int) - 48 from by omega] at this
    · have := j0 false
      simp only [Bool.false_eq_true, if_false] at this
      rw [decide_eq_false h2, if_neg (by omega)]
      by_cases h3 : (c : Int) ≥ 97
      · rw [if_pos h3] at this
        by_cases h4 : (c : Int) ≤ 102
        · rw [if_pos h4] at this
          rw [if_pos (by omega)]
          rwa [show ((c : Int) - 97) % 256 + 10 = (c : Int) - 87 from by omega] at this
        · rw [if_neg h4] at this
          rw [if_neg (by omega)]
          exact this
      · rw [if_neg h3] at this
        rw [if_neg (by omega)]
        exact this
  · simp only [if_neg h1]
    have := j0 false
    simp only [Bool.false_eq_true, if_false] at this
    rw [if_neg (by omega)] at this
    rw [if_neg (by omega), if_neg (by omega)]
    exact this
theorem hexV_dig (c : Nat) (h : 0 ≤ hexV c) : (digV c : Int) = hexV c ∧ digV c < 16 ∧ c ≠ 43 ∧ c ≠ 45 := by
  unfold hexV at h ⊢
  unfold digV
  split at h
  · rename_i h1; rw [if_pos h1, if_pos h1]; omega
  · rename_i h1
    rw [if_neg h1, if_neg h1]
    split at h
    · rename_i h2; rw [if_pos h2, if_pos h2]; omega
    · omega

theorem extract_two (s : ByteArray) (i : Nat) (h : i + 2 ≤ s.size) : ∃ a b : UInt8, (s.extract i (i + 2)).data.toList = [a, b] ∧ a.toNat = btN s i ∧ b.toNat = btN s (i + 1) := by
  have hz : s.data.toList.length = s.size := Array.length_toList
  refine ⟨s.data.toList[i]'(by omega), s.data.toList[i + 1]'(by omega), ?_, ?_, ?_⟩
  · have e : (s.extract i (i + 2)).data.toList = (s.data.toList.take (i + 2)).drop i := by
      simp [ByteArray.data_extract, List.drop_take]
    rw [e, List.drop_take, show i + 2 - i = 2 from by omega]
    rw [List.drop_eq_getElem_cons (by omega), List.take_succ_cons, List.drop_eq_getElem_cons (by omega), List.take_succ_cons, List.take_zero]
  · unfold btN bt
    rw [dif_pos (by simp; omega)]
    simp [ByteArray.getElem_eq_getElem_data]
  · unfold btN bt
    rw [dif_pos (by simp only [Int.toNat_natCast]; omega)]
    simp [ByteArray.getElem_eq_getElem_data]
theorem parse_two (s : ByteArray) (i : Nat) (h : i + 2 ≤ s.size) (h1 : 0 ≤ hexV (btN s i)) (h2 : 0 ≤ hexV (btN s (i + 1))) (hx : hexV (btN s i) * 16 + hexV (btN s (i + 1)) < 128) :
    strconv_ParseInt.f (s.extract i (i + 2)) 16 8 = some (hexV (btN s i) * 16 + hexV (btN s (i + 1)), none) := by
  obtain ⟨a, b, hl, ha, hb⟩ := extract_two s i h
  obtain ⟨d1, d2, d3, d4⟩ := hexV_dig _ h1
  obtain ⟨e1, e2, _, _⟩ := hexV_dig _ h2
  have hz : (s.extract i (i + 2)).size = 2 := by rw [ByteArray.size_extract]; omega
  have hbt : bt (s.extract i (i + 2)) 0 = (btN s i : Int) := by
    have := btN_cast (s.extract i (i + 2)) 0
    rw [show ((0 : Nat) : Int) = 0 from rfl] at this
    rw [this]
    congr 1
    unfold btN bt
    rw [dif_pos (by simp only [Int.toNat_natCast, hz]; omega), dif_pos (by simp only [Int.toNat_natCast]; omega)]
    simp [ByteArray.getElem_extract]
  unfold strconv_ParseInt.f
  rw [if_pos ⟨rfl, rfl, by omega, by omega⟩, hl]
  simp only [puN, ha, hb, Nat.zero_mul, Nat.zero_add]
  rw [if_pos ⟨d2, by omega⟩, if_pos ⟨e2, by omega⟩]
  simp only
  rw [if_pos ⟨by omega, by rw [hbt]; omega, by rw [hbt]; omega⟩]
  congr 1
  congr 1
  omega

def keptN (c : Nat) : Bool := (decide (97 ≤ c) && decide (c ≤ 122)) || (decide (65 ≤ c) && decide (c ≤ 90)) || (decide (48 ≤ c) && decide (c ≤ 57)) || c == 58 || c == 95 || c == 46
theorem kept_all : ((List.range 256).all fun n => spec_kept.f (n : Int) == some (keptN n)) = true := by decide +kernel
theorem kept_is (c : Nat) (h : c < 256) : spec_kept.f (c : Int) = some (keptN c) := by
  have := List.all_eq_true.1 kept_all c (List.mem_range.2 h)
  simpa using this
theorem kept_ne (c : Nat) (h : keptN c = true) : c ≠ 92 ∧ c ≠ 45 := by
  refine ⟨fun e => ?_, fun e => ?_⟩ <;> (subst e; revert h; decide)

/-- what stands at the end of unescape -/
def fin (p : Bool) (es : List Int) : ByteArray := if p = true then (if es.head? = some 47 then strOfNums es else strOfNums (47 :: es)) else strOfNums es
theorem un_end (s : ByteArray) (p : Bool) (es : List Int) (hl : es.length ≤ 1000000) : Ev (fun k => unit_unescape.l0 k s p es (s.size : Int)) (fin p es) := by
  refine Ev.step (f := fun _ => some (fin p es)) (fun k => ?_) (Ev.now _)
  simp only [unit_unescape.l0]
  rw [if_neg (by omega)]
  unfold fin
  cases p
  · simp
  · simp only [if_true]
    cases es with
    | nil => simp
    | cons x xs =>
      simp only [List.head?_cons, Option.some.injEq, List.length_cons] at hl ⊢
      rw [if_neg (by omega), if_pos (by omega)]
      have e : rd (x :: xs) 0 = x := by simp [rd]
      rw [e]
      by_cases h : x = 47
      · rw [if_pos h, if_pos h]
      · rw [if_neg h, if_neg h]
        simp only [Option.bind_some, List.length_cons, List.length_nil]
        rw [if_pos (by omega)]
        rfl
theorem un_push (s : ByteArray) (hs : s.size ≤ 4000) (p : Bool) (es : List Int) (i : Nat) (hi : i < s.size) (hl : es.length ≤ i) (r : ByteArray)
    (hk : keptN (btN s i) = true) (h : Ev (fun k => unit_unescape.l0 k s p (es ++ [(btN s i : Int)]) ((i + 1 : Nat) : Int)) r) : Ev (fun k => unit_unescape.l0 k s p es (i : Int)) r := by
  obtain ⟨n92, n45⟩ := kept_ne _ hk
  refine Ev.step (f := fun k => unit_unescape.j1 k s p es (i : Int) (btN s i : Int) false) (fun k => ?_) ?_
  · simp only [unit_unescape.l0]
    rw [if_pos (by omega), if_pos (by omega), btN_cast, if_neg (by omega), if_neg (by omega)]
  · refine Ev.step (f := fun k => unit_unescape.l0 k s p (es ++ [(btN s i : Int)]) ((i + 1 : Nat) : Int)) (fun k => ?_) h
    simp only [unit_unescape.j1, Bool.false_eq_true, if_false]
    rw [if_pos (by omega), wrapS i (by omega)]
theorem un_dash (s : ByteArray) (hs : s.size ≤ 4000) (p : Bool) (es : List Int) (i : Nat) (hi : i < s.size) (hl : es.length ≤ i) (r : ByteArray)
    (hk : btN s i = 45) (h : Ev (fun k => unit_unescape.l0 k s p (es ++ [47]) ((i + 1 : Nat) : Int)) r) : Ev (fun k => unit_unescape.l0 k s p es (i : Int)) r := by
  refine Ev.step (f := fun k => unit_unescape.l0 k s p (es ++ [47]) ((i + 1 : Nat) : Int)) (fun k => ?_) h
  simp only [unit_unescape.l0]
  rw [if_pos (by omega), if_pos (by omega), btN_cast, if_pos (by omega), if_pos (by omega), wrapS i (by omega)]
theorem un_hex (s : ByteArray) (hs : s.size ≤ 4000) (p : Bool) (es : List Int) (i : Nat) (hi : i + 3 < s.size) (hl : es.length ≤ i) (r : ByteArray)
    (h0 : btN s i = 92) (h1 : btN s (i + 1) = 120) (h2 : 0 ≤ hexV (btN s (i + 2))) (h3 : 0 ≤ hexV (btN s (i + 3))) (hx : hexV (btN s (i + 2)) * 16 + hexV (btN s (i + 3)) < 128)
    (h : Ev (fun k => unit_unescape.l0 k s p (es ++ [hexV (btN s (i + 2)) * 16 + hexV (btN s (i + 3))]) ((i + 4 : Nat) : Int)) r) : Ev (fun k => unit_unescape.l0 k s p es (i : Int)) r := by
  have hb : i < 100000000 := by omega
  have hm := wrapM s.size i (by omega) (by omega)
  have hp := parse_two s (i + 2) (by omega) h2 h3 hx
  refine Ev.step (f := fun k => unit_unescape.j1 k s p es (i : Int) (btN s i : Int) true) (fun k => ?_) ?_
  · simp only [unit_unescape.l0]
    rw [if_pos (by omega), if_pos (by omega), btN_cast, if_neg (by omega), if_pos (by omega), hm, if_pos (by omega), wrap1 i hb, if_pos (by omega), if_pos (by omega), btN_cast, h1]
    rw [show (((120 : Nat) : Int) == 120) = true from rfl]
  · refine Ev.step (f := fun k => unit_unescape.l0 k s p (es ++ [hexV (btN s (i + 2)) * 16 + hexV (btN s (i + 3))]) ((i + 4 : Nat) : Int)) (fun k => ?_) h
    simp only [unit_unescape.j1, if_true]
    rw [wrap2 i hb, wrap3 i hb, wrap4 i hb, wrap1 (i + 3) (by omega), if_pos (by omega), if_pos (by omega), if_pos (by omega)]
    simp only [Int.toNat_natCast]
    rw [show i + 4 = i + 2 + 2 from rfl, hp]
    simp only [Option.bind_some, Option.isNone_none, if_true]
    rw [if_pos (by omega)]
    rw [show (hexV (btN s (i + 2)) * 16 + hexV (btN s (i + 2 + 1))) % 256 = hexV (btN s (i + 2)) * 16 + hexV (btN s (i + 3)) from by
      show (hexV (btN s (i + 2)) * 16 + hexV (btN s (i + 3))) % 256 = _; omega]

theorem sp_open (s : ByteArray) (x4 : List Int) (i : Int) : Ev (fun k => spec_Unescape.j1 k s x4 i false) ((⟨#[]⟩ : ByteArray), (2 : Int)) := by
  refine Ev.step (f := fun _ => some ((⟨#[]⟩ : ByteArray), (2 : Int))) (fun k => ?_) (Ev.now _)
  simp only [spec_Unescape.j1, Bool.false_eq_true, if_false]
theorem sp_hex (s : ByteArray) (hs : s.size ≤ 4000) (x4 : List Int) (i : Nat) (hi : i + 3 < s.size) (hl : x4.length ≤ i) (r : ByteArray × Int)
    (h2 : 0 ≤ hexV (btN s (i + 2))) (h3 : 0 ≤ hexV (btN s (i + 3)))
    (h : (hexV (btN s (i + 2)) * 16 + hexV (btN s (i + 3)) ≥ 128 ∨ hexV (btN s (i + 2)) * 16 + hexV (btN s (i + 3)) < 16) ∧ r = ((⟨#[]⟩ : ByteArray), 2) ∨
      (16 ≤ hexV (btN s (i + 2)) * 16 + hexV (btN s (i + 3)) ∧ hexV (btN s (i + 2)) * 16 + hexV (btN s (i + 3)) < 128) ∧ Ev (fun k => spec_Unescape.l0 k s (x4 ++ [hexV (btN s (i + 2)) * 16 + hexV (btN s (i + 3))]) ((i + 4 : Nat) : Int)) r) :
    Ev (fun k => spec_Unescape.j1 k s x4 (i : Int) true) r := by
  have hb : i < 100000000 := by omega
  have hv : ∀ c, -1 ≤ hexV c ∧ hexV c ≤ 15 := by intro c; unfold hexV; split <;> (try split) <;> omega
  have v2 := hv (btN s (i + 2))
  have v3 := hv (btN s (i + 3))
  have wx : wrap64 ((wrap64 (hexV (btN s (i + 2)) * 16)) + hexV (btN s (i + 3))) = hexV (btN s (i + 2)) * 16 + hexV (btN s (i + 3)) := by unfold wrap64; omega
  refine Ev.step (f := fun k => (spec_hexValue.f k (btN s (i + 2) : Int)).bind fun t110 => (spec_hexValue.f k (btN s (i + 3) : Int)).bind fun t111 => (if (wrap64 ((wrap64 (t110 * 16)) + t111)) ≥ 128 then (some ((⟨#[]⟩ : ByteArray), 2)) else (if (wrap64 ((wrap64 (t110 * 16)) + t111)) < 16 then (some ((⟨#[]⟩ : ByteArray), 2)) else (if x4.length < 140737488355328 then (spec_Unescape.l0 k s (x4 ++ [(wrap64 ((wrap64 (t110 * 16)) + t111)) % 256]) ((i + 4 : Nat) : Int)) else (none))))) (fun k => ?_) ?_
  · simp only [spec_Unescape.j1, if_true]
    rw [wrap2 i hb, wrap3 i hb, wrap1 (i + 3) (by omega), if_pos (by omega), if_pos (by omega), btN_cast]
    congr 1
    funext t
    rw [if_pos (by omega), if_pos (by omega), btN_cast]
  · refine Ev.bind (f := fun k t110 => (spec_hexValue.f k (btN s (i + 3) : Int)).bind fun t111 => (if (wrap64 ((wrap64 (t110 * 16)) + t111)) ≥ 128 then (some ((⟨#[]⟩ : ByteArray), 2)) else (if (wrap64 ((wrap64 (t110 * 16)) + t111)) < 16 then (some ((⟨#[]⟩ : ByteArray), 2)) else (if x4.length < 140737488355328 then (spec_Unescape.l0 k s (x4 ++ [(wrap64 ((wrap64 (t110 * 16)) + t111)) % 256]) ((i + 4 : Nat) : Int)) else (none))))) (hexValue_is _ (btN_lt s _)) ?_
    refine Ev.bind (f := fun k t111 => (if (wrap64 ((wrap64 (hexV (btN s (i + 2)) * 16)) + t111)) ≥ 128 then (some ((⟨#[]⟩ : ByteArray), 2)) else (if (wrap64 ((wrap64 (hexV (btN s (i + 2)) * 16)) + t111)) < 16 then (some ((⟨#[]⟩ : ByteArray), 2)) else (if x4.length < 140737488355328 then (spec_Unescape.l0 k s (x4 ++ [(wrap64 ((wrap64 (hexV (btN s (i + 2)) * 16)) + t111)) % 256]) ((i + 4 : Nat) : Int)) else (none))))) (hexValue_is _ (btN_lt s _)) ?_
    simp only [wx]
    rcases h with ⟨h, rfl⟩ | ⟨⟨g1, g2⟩, h⟩
    · by_cases g : hexV (btN s (i + 2)) * 16 + hexV (btN s (i + 3)) ≥ 128
      · simp only [if_pos g]; exact Ev.now _
      · simp only [if_neg g]
        rw [show (fun _ : Nat => if hexV (btN s (i + 2)) * 16 + hexV (btN s (i + 3)) < 16 then some ((⟨#[]⟩ : ByteArray), (2 : Int)) else _) = _ from rfl]
        simp only [if_pos (show hexV (btN s (i + 2)) * 16 + hexV (btN s (i + 3)) < 16 from by omega)]
        exact Ev.now _
    · simp only [if_neg (show ¬ (hexV (btN s (i + 2)) * 16 + hexV (btN s (i + 3)) ≥ 128) from by omega), if_neg (show ¬ (hexV (btN s (i + 2)) * 16 + hexV (btN s (i + 3)) < 16) from by omega), if_pos (show x4.length < 140737488355328 from by omega)]
      rw [show (hexV (btN s (i + 2)) * 16 + hexV (btN s (i + 3))) % 256 = hexV (btN s (i + 2)) * 16 + hexV (btN s (i + 3)) from by omega]
      exact h
theorem k92 (c : Nat) (h : c = 92) : keptN c = false := by subst h; decide
def sp92 (k : Nat) (s : ByteArray) (x4 : List Int) (i : Nat) : Option (ByteArray × Int) :=
  if ((i + 3 : Nat) : Int) < (s.size : Int) then (if 0 ≤ ((i + 1 : Nat) : Int) then (if ((i + 1 : Nat) : Int) < (s.size : Int) then (if (btN s (i + 1) : Int) = 120 then (if 0 ≤ ((i + 2 : Nat) : Int) then (if ((i + 2 : Nat) : Int) < (s.size : Int) then ((spec_hexValue.f k (btN s (i + 2) : Int)).bind fun t108 => (if t108 ≥ 0 then (if 0 ≤ ((i + 3 : Nat) : Int) then ((spec_hexValue.f k (btN s (i + 3) : Int)).bind fun t109 => (spec_Unescape.j1 k s x4 (i : Int) (decide (t109 ≥ 0)))) else (none)) else (spec_Unescape.j1 k s x4 (i : Int) false))) else (none)) else (none)) else (spec_Unescape.j1 k s x4 (i : Int) false)) else (none)) else (none)) else (spec_Unescape.j1 k s x4 (i : Int) false)
theorem sp92_is (s : ByteArray) (hs : s.size ≤ 4000) (x4 : List Int) (i : Nat) (hi : i < s.size) (h0 : btN s i = 92) (k : Nat) : spec_Unescape.l0 (k + 1) s x4 (i : Int) = sp92 k s x4 i := by
  have hb : i < 100000000 := by omega
  unfold sp92
  simp only [spec_Unescape.l0]
  rw [if_pos (by omega), if_pos (by omega), btN_cast, if_neg (by omega), kept_is _ (btN_lt s i), k92 _ h0]
  simp only [Option.bind_some, Bool.false_eq_true, if_false]
  rw [if_pos (by omega), wrap1 i hb, wrap2 i hb, wrap3 i hb, btN_cast, btN_cast, btN_cast]
theorem sp92_no (s : ByteArray) (x4 : List Int) (i : Nat) (hi : i < s.size) (hno : ¬ (i + 3 < s.size ∧ btN s (i + 1) = 120 ∧ 0 ≤ hexV (btN s (i + 2)) ∧ 0 ≤ hexV (btN s (i + 3)))) :
    Ev (fun k => sp92 k s x4 i) ((⟨#[]⟩ : ByteArray), (2 : Int)) := by
  unfold sp92
  by_cases c1 : i + 3 < s.size
  · have p1 : ((i + 3 : Nat) : Int) < (s.size : Int) := by omega
    have p2 : 0 ≤ ((i + 1 : Nat) : Int) := by omega
    have p3 : ((i + 1 : Nat) : Int) < (s.size : Int) := by omega
    have p4 : 0 ≤ ((i + 2 : Nat) : Int) := by omega
    have p5 : ((i + 2 : Nat) : Int) < (s.size : Int) := by omega
    have p6 : 0 ≤ ((i + 3 : Nat) : Int) := by omega
    simp only [if_pos p1, if_pos p2, if_pos p3, if_pos p4, if_pos p5, if_pos p6]
    by_cases c2 : btN s (i + 1) = 120
    · have q : (btN s (i + 1) : Int) = 120 := by omega
      simp only [if_pos q]
      refine Ev.bind (f := fun k t108 => (if t108 ≥ 0 then ((spec_hexValue.f k (btN s (i + 3) : Int)).bind fun t109 => (spec_Unescape.j1 k s x4 (i : Int) (decide (t109 ≥ 0)))) else (spec_Unescape.j1 k s x4 (i : Int) false))) (hexValue_is _ (btN_lt s (i + 2))) ?_
      by_cases c3 : hexV (btN s (i + 2)) ≥ 0
      · simp only [if_pos c3]
        refine Ev.bind (f := fun k t109 => spec_Unescape.j1 k s x4 (i : Int) (decide (t109 ≥ 0))) (hexValue_is _ (btN_lt s (i + 3))) ?_
        have c4 : ¬ hexV (btN s (i + 3)) ≥ 0 := fun h => hno ⟨c1, c2, c3, h⟩
        rw [decide_eq_false c4]
        exact sp_open s x4 i
      · simp only [if_neg c3]
        exact sp_open s x4 i
    · have q : ¬ (btN s (i + 1) : Int) = 120 := by omega
      simp only [if_neg q]
      exact sp_open s x4 i
  · have p1 : ¬ ((i + 3 : Nat) : Int) < (s.size : Int) := by omega
    simp only [if_neg p1]
    exact sp_open s x4 i
theorem sp92_yes (s : ByteArray) (x4 : List Int) (i : Nat) (r : ByteArray × Int) (c1 : i + 3 < s.size) (c2 : btN s (i + 1) = 120) (c3 : 0 ≤ hexV (btN s (i + 2))) (c4 : 0 ≤ hexV (btN s (i + 3)))
    (h : Ev (fun k => spec_Unescape.j1 k s x4 (i : Int) true) r) : Ev (fun k => sp92 k s x4 i) r := by
  unfold sp92
  have p1 : ((i + 3 : Nat) : Int) < (s.size : Int) := by omega
  have p2 : 0 ≤ ((i + 1 : Nat) : Int) := by omega
  have p3 : ((i + 1 : Nat) : Int) < (s.size : Int) := by omega
  have p4 : 0 ≤ ((i + 2 : Nat) : Int) := by omega
  have p5 : ((i + 2 : Nat) : Int) < (s.size : Int) := by omega
  have p6 : 0 ≤ ((i + 3 : Nat) : Int) := by omega
  have q : (btN s (i + 1) : Int) = 120 := by omega
  simp only [if_pos p1, if_pos p2, if_pos p3, if_pos p4, if_pos p5, if_pos p6, if_pos q]
  refine Ev.bind (f := fun k t108 => (if t108 ≥ 0 then ((spec_hexValue.f k (btN s (i + 3) : Int)).bind fun t109 => (spec_Unescape.j1 k s x4 (i : Int) (decide (t109 ≥ 0)))) else (spec_Unescape.j1 k s x4 (i : Int) false))) (hexValue_is _ (btN_lt s (i + 2))) ?_
  have c3' : hexV (btN s (i + 2)) ≥ 0 := c3
  have c4' : hexV (btN s (i + 3)) ≥ 0 := c4
  simp only [if_pos c3']
  refine Ev.bind (f := fun k t109 => spec_Unescape.j1 k s x4 (i : Int) (decide (t109 ≥ 0))) (hexValue_is _ (btN_lt s (i + 3))) ?_
  rw [decide_eq_true c4']
  exact h
theorem sp_step92 (s : ByteArray) (hs : s.size ≤ 4000) (x4 : List Int) (i : Nat) (hi : i < s.size) (h0 : btN s i = 92) (r : ByteArray × Int)
    (hno : ¬ (i + 3 < s.size ∧ btN s (i + 1) = 120 ∧ 0 ≤ hexV (btN s (i + 2)) ∧ 0 ≤ hexV (btN s (i + 3))) → r = ((⟨#[]⟩ : ByteArray), 2))
    (hyes : (i + 3 < s.size ∧ btN s (i + 1) = 120 ∧ 0 ≤ hexV (btN s (i + 2)) ∧ 0 ≤ hexV (btN s (i + 3))) → Ev (fun k => spec_Unescape.j1 k s x4 (i : Int) true) r) :
    Ev (fun k => spec_Unescape.l0 k s x4 (i : Int)) r := by
  refine Ev.step (f := fun k => sp92 k s x4 i) (fun k => sp92_is s hs x4 i hi h0 k) ?_
  by_cases h : i + 3 < s.size ∧ btN s (i + 1) = 120 ∧ 0 ≤ hexV (btN s (i + 2)) ∧ 0 ≤ hexV (btN s (i + 3))
  · exact sp92_yes s x4 i r h.1 h.2.1 h.2.2.1 h.2.2.2 (hyes h)
  · rw [hno h]
    exact sp92_no s x4 i hi h

theorem both (s : ByteArray) (hs : s.size ≤ 4000) (d : Nat) : ∀ i : Nat, s.size - i = d → i ≤ s.size → ∀ x4 : List Int, x4.length ≤ i →
    Ev (fun k => spec_Unescape.l0 k s x4 (i : Int)) ((⟨#[]⟩ : ByteArray), (2 : Int)) ∨
    ∃ l : List Int, (i < s.size → l ≠ []) ∧ (∀ x ∈ l, 0 ≤ x ∧ x ≤ 255) ∧ l.length ≤ s.size - i ∧ Ev (fun k => spec_Unescape.l0 k s x4 (i : Int)) (strOfNums (x4 ++ l), (1 : Int)) ∧
      ∀ (p : Bool) (es : List Int), es.length ≤ i → Ev (fun k => unit_unescape.l0 k s p es (i : Int)) (fin p (es ++ l)) := by
  induction d using Nat.strongRecOn with
  | ind d ih =>
    intro i hd hi x4 hx
    rcases Nat.lt_or_ge i s.size with hlt | hge
    · have e0 : ∀ (c : Int) (m : Nat), 0 < m → 0 ≤ c ∧ c ≤ 255 → i + m ≤ s.size → (∀ x4' : List Int, Ev (fun k => spec_Unescape.l0 k s (x4 ++ [c]) ((i + m : Nat) : Int)) (strOfNums x4', (1 : Int)) → Ev (fun k => spec_Unescape.l0 k s x4 (i : Int)) (strOfNums x4', (1 : Int))) →
          (Ev (fun k => spec_Unescape.l0 k s (x4 ++ [c]) ((i + m : Nat) : Int)) ((⟨#[]⟩ : ByteArray), (2 : Int)) → Ev (fun k => spec_Unescape.l0 k s x4 (i : Int)) ((⟨#[]⟩ : ByteArray), (2 : Int))) →
          (∀ (p : Bool) (es : List Int) (r : ByteArray), es.length ≤ i → Ev (fun k => unit_unescape.l0 k s p (es ++ [c]) ((i + m : Nat) : Int)) r → Ev (fun k => unit_unescape.l0 k s p es (i : Int)) r) →
          Ev (fun k => spec_Unescape.l0 k s x4 (i : Int)) ((⟨#[]⟩ : ByteArray), (2 : Int)) ∨
          ∃ l : List Int, (i < s.size → l ≠ []) ∧ (∀ x ∈ l, 0 ≤ x ∧ x ≤ 255) ∧ l.length ≤ s.size - i ∧ Ev (fun k => spec_Unescape.l0 k s x4 (i : Int)) (strOfNums (x4 ++ l), (1 : Int)) ∧
            ∀ (p : Bool) (es : List Int), es.length ≤ i → Ev (fun k => unit_unescape.l0 k s p es (i : Int)) (fin p (es ++ l)) := by
        intro c m hm hc hb h1 h2 h3
        rcases ih (s.size - (i + m)) (by omega) (i + m) rfl hb (x4 ++ [c]) (by simp; omega) with h | ⟨l, _, hl1, hl2, h4, h5⟩
        · exact .inl (h2 h)
        · refine .inr ⟨c :: l, fun _ => by simp, fun x hx => ?_, by simp only [List.length_cons]; omega, ?_, fun p es he => ?_⟩
          · rcases List.mem_cons.1 hx with rfl | hx
            · exact hc
            · exact hl1 x hx
          · have := h1 _ h4
            simpa using this
          · refine h3 p es _ he ?_
            have := h5 p (es ++ [c]) (by simp; omega)
            simpa using this
      by_cases c45 : btN s i = 45
      · refine e0 47 1 (by omega) (by omega) (by omega) (fun x4' h => ?_) (fun h => ?_) (fun p es r he h => un_dash s hs p es i hlt he r c45 h)
        all_goals
          refine Ev.step (fun k => ?_) h
          simp only [spec_Unescape.l0]
          rw [if_pos (by omega), if_pos (by omega), btN_cast, if_pos (by omega), if_pos (by omega), wrapS i (by omega)]
      · by_cases ck : keptN (btN s i) = true
        · refine e0 (btN s i : Int) 1 (by omega) (by have := btN_lt s i; omega) (by omega) (fun x4' h => ?_) (fun h => ?_) (fun p es r he h => un_push s hs p es i hlt he r ck h)
          all_goals
            refine Ev.step (fun k => ?_) h
            simp only [spec_Unescape.l0]
            rw [if_pos (by omega), if_pos (by omega), btN_cast, if_neg (by omega), kept_is _ (btN_lt s i), ck]
            simp only [Option.bind_some, if_true]
            rw [if_pos (by omega), wrapS i (by omega)]
        · have ck' : keptN (btN s i) = false := by simpa using ck
          by_cases c92 : btN s i = 92
          · by_cases call : i + 3 < s.size ∧ btN s (i + 1) = 120 ∧ 0 ≤ hexV (btN s (i + 2)) ∧ 0 ≤ hexV (btN s (i + 3))
            · obtain ⟨a1, a2, a3, a4⟩ := call
              by_cases cx : 16 ≤ hexV (btN s (i + 2)) * 16 + hexV (btN s (i + 3)) ∧ hexV (btN s (i + 2)) * 16 + hexV (btN s (i + 3)) < 128
              · refine e0 (hexV (btN s (i + 2)) * 16 + hexV (btN s (i + 3))) 4 (by omega) (by omega) (by omega) (fun x4' h => ?_) (fun h => ?_) (fun p es r he h => un_hex s hs p es i a1 he r c92 a2 a3 a4 cx.2 h)
                all_goals exact sp_step92 s hs x4 i hlt c92 _ (fun hn => absurd ⟨a1, a2, a3, a4⟩ hn) (fun _ => sp_hex s hs x4 i a1 hx _ a3 a4 (.inr ⟨cx, h⟩))
              · exact .inl (sp_step92 s hs x4 i hlt c92 _ (fun _ => rfl) (fun _ => sp_hex s hs x4 i a1 hx _ a3 a4 (.inl ⟨by omega, rfl⟩)))
            · exact .inl (sp_step92 s hs x4 i hlt c92 _ (fun _ => rfl) (fun h => absurd h call))
          · refine .inl (Ev.step (f := fun k => spec_Unescape.j1 k s x4 (i : Int) false) (fun k => ?_) (sp_open s x4 i))
            simp only [spec_Unescape.l0]
            rw [if_pos (by omega), if_pos (by omega), btN_cast, if_neg (by omega), kept_is _ (btN_lt s i), ck']
            simp only [Option.bind_some, Bool.false_eq_true, if_false]
            rw [if_neg (by omega)]
    · obtain rfl : i = s.size := by omega
      refine .inr ⟨[], fun h => absurd h (by omega), by simp, by simp, ?_, fun p es he => ?_⟩
      · refine Ev.step (f := fun _ => some (strOfNums (x4 ++ []), (1 : Int))) (fun k => ?_) (Ev.now _)
        simp only [spec_Unescape.l0]
        rw [if_neg (by omega), List.append_nil]
      · rw [List.append_nil]
        exact un_end s p es (by omega)
end Go.Proofs.YtgnfapnnbcafbaaDoor.Pure
