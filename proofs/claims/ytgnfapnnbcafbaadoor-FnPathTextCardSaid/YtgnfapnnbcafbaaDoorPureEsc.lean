/- Plain facts: how a text is escaped as a name and as a path, and unescaped: the printed functions of the package and of the reference say the same. Conditions: lengths; bytes from 16 to 127 where the reference asks them. -/
import Derived.Test.YtgnfapnnbcafbaaDoorGNUx
namespace Go.Proofs.YtgnfapnnbcafbaaDoor.Pure
open Go.RowKit Go.Proofs.YtgnfapnnbcafbaaDoor.GNU Go.Proofs.YtgnfapnnbcafbaaDoorW.PrintWords Go.Proofs.YtgnfapnnbcafbaaDoorW.PrintLast

def hexd (n : Nat) : Int := if n < 10 then 48 + n else 87 + n
def hexN (n : Nat) : List Int := if n < 16 then [92, 120, hexd n] else [92, 120, hexd (n / 16), hexd (n % 16)]

theorem hex_all : ((List.range 256).all fun n => decide (unit_zzHex.f (n : Int) = some (strOfNums (hexN n)))) = true := by decide +kernel

def allowedS : ByteArray := ⟨#[58, 95, 46, 97, 98, 99, 100, 101, 102, 103, 104, 105, 106, 107, 108, 109, 110, 111, 112, 113, 114, 115, 116, 117, 118, 119, 120, 121, 122, 65, 66, 67, 68, 69, 70, 71, 72, 73, 74, 75, 76, 77, 78, 79, 80, 81, 82, 83, 84, 85, 86, 87, 88, 89, 90, 48, 49, 50, 51, 52, 53, 54, 55, 56, 57]⟩
def esc1 (start : Bool) (c : Nat) : List Int :=
  if c = 47 then [45] else if start = true ∧ c = 46 then hexN c else if strings_IndexByte.f allowedS c = some (-1) then hexN c else [(c : Int)]

def letD (c : Int) : Bool := (decide (97 ≤ c) && decide (c ≤ 122)) || (decide (65 ≤ c) && decide (c ≤ 90))
def okSign (c : Int) : Bool := letD c || (decide (48 ≤ c) && decide (c ≤ 57)) || [58, 95, 46, 45, 92].contains c
theorem esc1_all : ((List.range 256).all fun n => [true, false].all fun s =>
    (esc1 s n).all (fun x => okSign x && decide (0 ≤ x) && decide (x ≤ 255)) && decide (0 < (esc1 s n).length) && decide ((esc1 s n).length ≤ 4) && (!s || (esc1 s n).head? != some 46)) = true := by decide +kernel
theorem wrapS (n : Nat) (h : n < 4611686018427387904) : wrap64 ((n : Int) + 1) = ((n + 1 : Nat) : Int) := by
  unfold wrap64; omega
def btN (s : ByteArray) (n : Nat) : Nat := (bt s (n : Int)).toNat
theorem btN_cast (s : ByteArray) (n : Nat) : bt s (n : Int) = (btN s n : Int) := by
  have := (bt_range s n).1; unfold btN; omega
theorem btN_lt (s : ByteArray) (n : Nat) : btN s n < 256 := by
  have := bt_range s n; unfold btN; omega
theorem hex_is (n : Nat) (h : n < 256) : unit_zzHex.f (n : Int) = some (strOfNums (hexN n)) := by
  have := List.all_eq_true.1 hex_all n (List.mem_range.2 h)
  simpa using this
theorem esc1_is (n : Nat) (s : Bool) (h : n < 256) :
    ((esc1 s n).all (fun x => okSign x && decide (0 ≤ x) && decide (x ≤ 255)) = true ∧ 0 < (esc1 s n).length) ∧ (esc1 s n).length ≤ 4 ∧ (s = true → (esc1 s n).head? ≠ some 46) := by
  have := List.all_eq_true.1 (List.all_eq_true.1 esc1_all n (List.mem_range.2 h)) s (by cases s <;> simp)
  simp only [Bool.and_eq_true, decide_eq_true_eq, Bool.or_eq_true, Bool.not_eq_true', bne_iff_ne] at this
  obtain ⟨⟨⟨a, b⟩, c⟩, d⟩ := this
  exact ⟨⟨a, b⟩, c, fun e => by rcases d with d | d; · rw [e] at d; cases d
                                · exact d⟩

theorem bytesOf_strOfNums (xs : List Int) (h : ∀ x ∈ xs, 0 ≤ x ∧ x ≤ 255) : bytesOf (strOfNums xs) = xs := by
  unfold bytesOf; rw [strOfNums_data, List.map_map]
  conv => rhs; rw [← List.map_id xs]
  refine List.map_congr_left fun x hx => ?_
  have := h x hx
  simp only [Function.comp_apply, id, UInt8.toNat_ofNat']
  omega
theorem hexN_range (n : Nat) (h : n < 256) : ∀ x ∈ hexN n, 0 ≤ x ∧ x ≤ 255 := by
  have hd : ∀ m, m < 16 → 0 ≤ hexd m ∧ hexd m ≤ 255 := by intro m hm; unfold hexd; split <;> omega
  have h1 := hd (n / 16) (by omega)
  have h2 := hd (n % 16) (by omega)
  unfold hexN
  split
  · have h3 := hd n (by omega)
    intro x hx; simp only [List.mem_cons, List.mem_nil_iff, or_false] at hx
    rcases hx with rfl | rfl | rfl <;> omega
  · intro x hx; simp only [List.mem_cons, List.mem_nil_iff, or_false] at hx
    rcases hx with rfl | rfl | rfl | rfl <;> omega
theorem hexN_len (n : Nat) : (hexN n).length ≤ 4 := by unfold hexN; split <;> simp
theorem esc1_len (s : Bool) (n : Nat) : (esc1 s n).length ≤ 4 := by
  unfold esc1; split
  · simp
  · split
    · exact hexN_len n
    · split
      · exact hexN_len n
      · simp

theorem escape_j1 (x0 : ByteArray) (p x6 x7 : Bool) (x5 : List Int) (x8 : Int) (c : Nat) (r : ByteArray) (hc : c < 256) (hl : x5.length ≤ 1000000)
    (h : Ev (fun k => unit_escape.l0 k x0 p (x5 ++ esc1 x7 c) x6 false (wrap64 (x8 + 1))) r) :
    Ev (fun k => unit_escape.j1 k x0 p x5 x6 x7 x8 (c : Int)) r := by
  have hx := hex_is c hc
  have hb := bytesOf_strOfNums _ (hexN_range c hc)
  have hz : (strOfNums (hexN c)).size ≤ 4 := by rw [strOfNums_size]; exact hexN_len c
  have e : strings_IndexByte.f (⟨#[58, 95, 46, 97, 98, 99, 100, 101, 102, 103, 104, 105, 106, 107, 108, 109, 110, 111, 112, 113, 114, 115, 116, 117, 118, 119, 120, 121, 122, 65, 66, 67, 68, 69, 70, 71, 72, 73, 74, 75, 76, 77, 78, 79, 80, 81, 82, 83, 84, 85, 86, 87, 88, 89, 90, 48, 49, 50, 51, 52, 53, 54, 55, 56, 57]⟩ : ByteArray) (c : Int) = strings_IndexByte.f allowedS (c : Int) := rfl
  obtain ⟨q, hq⟩ : ∃ q, strings_IndexByte.f allowedS (c : Int) = some q := ⟨_, rfl⟩
  refine Ev.step (f := fun k => unit_escape.l0 k x0 p (x5 ++ esc1 x7 c) x6 false (wrap64 (x8 + 1))) (fun k => ?_) h
  simp only [unit_escape.j1, e, hq, hx, Option.bind_some, hb]
  have l5 : x5.length < 140737488355328 := by omega
  have l6 : x5.length + (strOfNums (hexN c)).size < 140737488355328 := by omega
  unfold esc1
  rw [hq]
  by_cases h47 : c = 47
  · rw [if_pos (by omega), if_pos l5, if_pos h47]
  · rw [if_neg (by omega), if_neg h47]
    simp only [Option.some.injEq]
    cases x7
    · simp only [Bool.false_eq_true, if_false, false_and]
      by_cases hm : q = -1
      · rw [if_pos hm, if_pos hm, if_pos l6]
      · rw [if_neg hm, if_neg hm, if_pos l5]
    · simp only [if_true, true_and]
      by_cases h46 : c = 46
      · rw [if_pos (by omega), if_pos h46, if_pos l6]
      · rw [if_neg (by omega), if_neg h46]
        by_cases hm : q = -1
        · rw [if_pos hm, if_pos hm, if_pos l6]
        · rw [if_neg hm, if_neg hm, if_pos l5]

/-- what the escape of a text that is no path makes, byte by byte -/
def escList : Bool → List Nat → List Int
  | _, [] => []
  | s, c :: l => esc1 s c ++ escList false l
def nums8 (s : ByteArray) (i : Nat) : List Nat := (List.range' i (s.size - i)).map (btN s)
theorem nums8_cons (s : ByteArray) (i : Nat) (h : i < s.size) : nums8 s i = btN s i :: nums8 s (i + 1) := by
  unfold nums8
  obtain ⟨m, hm⟩ : ∃ m, s.size - i = m + 1 := ⟨s.size - i - 1, by omega⟩
  rw [hm, List.range'_succ, List.map_cons, show s.size - (i + 1) = m from by omega]
theorem nums8_end (s : ByteArray) (i : Nat) (h : s.size ≤ i) : nums8 s i = [] := by
  unfold nums8; rw [show s.size - i = 0 from by omega]; rfl

theorem escape_l0 (s : ByteArray) (hs : s.size ≤ 4000) (d : Nat) : ∀ (i : Nat) (es : List Int) (x6 x7 : Bool), s.size - i = d → i ≤ s.size → es.length ≤ 4 * i →
    Ev (fun k => unit_escape.l0 k s false es x6 x7 (i : Int)) (strOfNums (es ++ escList x7 (nums8 s i))) := by
  induction d with
  | zero =>
    intro i es x6 x7 hd hi he
    rw [nums8_end s i (by omega)]
    refine Ev.step (f := fun _ => some (strOfNums (es ++ escList x7 []))) (fun k => ?_) (Ev.now _)
    simp only [unit_escape.l0]
    rw [if_neg (by omega)]
    simp [escList]
  | succ d ih =>
    intro i es x6 x7 hd hi he
    have hlt : i < s.size := by omega
    rw [nums8_cons s i hlt]
    refine Ev.step (f := fun k => unit_escape.j1 k s false es x6 x7 (i : Int) (btN s i : Int)) (fun k => ?_) ?_
    · simp only [unit_escape.l0]
      rw [if_pos (by omega), if_pos (by omega), btN_cast]
      simp
    · refine escape_j1 s false x6 x7 es i _ _ (btN_lt s i) (by omega) ?_
      rw [wrapS i (by omega)]
      have := ih (i + 1) (es ++ esc1 x7 (btN s i)) x6 false (by omega) (by omega) (by
        have := esc1_len x7 (btN s i)
        rw [List.length_append]; omega)
      simpa only [escList, List.append_assoc] using this
theorem escape_is (s : ByteArray) (hs : s.size ≤ 4000) : Ev (fun k => unit_escape.f k s false) (strOfNums (escList true (nums8 s 0))) := by
  have := escape_l0 s hs s.size 0 [] false true (by omega) (by omega) (by simp)
  simpa [unit_escape.f] using this
theorem impl_escape_is (s : ByteArray) (hs : s.size ≤ 4000) : Ev (fun k => impl_NameEscape.f k s) (strOfNums (escList true (nums8 s 0))) := by
  unfold impl_NameEscape.f unit_UnitNameEscape.f
  exact Ev.bind (Ev.bind (escape_is s hs) (Ev.now _)) (Ev.now _)

end Go.Proofs.YtgnfapnnbcafbaaDoor.Pure
