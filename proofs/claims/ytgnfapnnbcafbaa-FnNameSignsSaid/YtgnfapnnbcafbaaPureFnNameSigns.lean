/- An escaped name has only letters, digits and five signs, and no dot at its head: the pure statement. No condition. -/
import Derived.Test.YtgnfapnnbcafbaaGFnNameSignsx2
import Derived.Test.YtgnfapnnbcafbaaEscB
namespace Go.Proofs.Ytgnfapnnbcafbaa.Pure
open Go.RowKit Go.Proofs.Ytgnfapnnbcafbaa.GFnNameSigns Go.Proofs.YtgnfapnnbcafbaaW.PrintWords Go.Proofs.YtgnfapnnbcafbaaW.PrintLast

theorem escapes_is : Ev (fun k => laws_escapes.f k) true :=
  Ev.of (fun k => laws_escapes.mono k) (k := 40) (by decide +kernel)

theorem extract_one (s : ByteArray) (i : Nat) (h : i < s.size) : (s.extract i (i + 1)).size = 1 ∧ btN (s.extract i (i + 1)) 0 = btN s i := by
  have hz : (s.extract i (i + 1)).size = 1 := by rw [ByteArray.size_extract]; omega
  refine ⟨hz, ?_⟩
  unfold btN bt
  rw [dif_pos (by simp only [Int.toNat_natCast, hz]; omega), dif_pos (by simpa using h)]
  simp [ByteArray.getElem_extract]

def fiveS : ByteArray := ⟨#[58, 95, 46, 45, 92]⟩
theorem five_list : nums8 fiveS 0 = [58, 95, 46, 45, 92] := by decide +kernel

theorem signs_step (s : ByteArray) (hs : s.size ≤ 100000) (i : Nat) (h : i < s.size) (hok : okSign (btN s i : Int) = true) (h0 : i = 0 → btN s i ≠ 46)
    (hn : Ev (fun k => laws_FnNameSigns.l0 k s (s.size : Int) ((i + 1 : Nat) : Int)) true) :
    Ev (fun k => laws_FnNameSigns.l0 k s (s.size : Int) (i : Int)) true := by
  obtain ⟨hz, hb⟩ := extract_one s i h
  have hhas := has_is (s.extract i (i + 1)) fiveS (by omega) (by decide)
  have hv : hasN (s.extract i (i + 1)) fiveS 0 = [58, 95, 46, 45, 92].contains (btN s i) := by
    unfold hasN
    rw [nums8_cons _ 0 (by omega), nums8_end _ 1 (by omega), hb, five_list]
    simp
  have e5 : fiveS = (⟨#[58, 95, 46, 45, 92]⟩ : ByteArray) := rfl
  have hlast : ∀ k, (if (i : Int) = 0 then (if (btN s i : Int) = 46 then (some false) else (laws_FnNameSigns.l0 k s (s.size : Int) ((i + 1 : Nat) : Int))) else (laws_FnNameSigns.l0 k s (s.size : Int) ((i + 1 : Nat) : Int))) = laws_FnNameSigns.l0 k s (s.size : Int) ((i + 1 : Nat) : Int) := by
    intro k
    by_cases e : i = 0
    · rw [if_pos (by omega), if_neg (by have := h0 e; omega)]
    · rw [if_neg (by omega)]
  by_cases hl : letD (btN s i : Int) = true
  · refine Ev.step (f := fun k => laws_FnNameSigns.l0 k s (s.size : Int) ((i + 1 : Nat) : Int)) (fun k => ?_) hn
    simp only [laws_FnNameSigns.l0]
    rw [if_pos (by omega), if_pos (by omega), if_pos (by omega), btN_cast, letter_is, hl, wrapS i (by omega)]
    simp only [Option.bind_some, if_true]
    exact hlast k
  · have hl' : letD (btN s i : Int) = false := by simpa using hl
    by_cases hd : 48 ≤ btN s i ∧ btN s i ≤ 57
    · refine Ev.step (f := fun k => laws_FnNameSigns.l0 k s (s.size : Int) ((i + 1 : Nat) : Int)) (fun k => ?_) hn
      simp only [laws_FnNameSigns.l0]
      rw [if_pos (by omega), if_pos (by omega), if_pos (by omega), btN_cast, letter_is, hl', wrapS i (by omega)]
      simp only [Option.bind_some, Bool.false_eq_true, if_false]
      rw [if_neg (by omega), if_neg (by omega)]
      exact hlast k
    · have hc : [58, 95, 46, 45, 92].contains (btN s i) = true := by
        have hdd : (decide ((48 : Int) ≤ (btN s i : Int)) && decide ((btN s i : Int) ≤ 57)) = false := by
          rw [Bool.and_eq_false_iff]; simp only [decide_eq_false_iff_not]; omega
        unfold okSign at hok
        rw [hl', hdd] at hok
        simp only [Bool.false_or, List.contains_cons, List.contains_nil, Bool.or_false, Bool.or_eq_true, beq_iff_eq] at hok ⊢
        omega
      rw [hc] at hv
      have he : Ev (fun k => (laws_has.f k (s.extract i (i + 1)) fiveS).bind fun t => (if t = true then (laws_FnNameSigns.l0 k s (s.size : Int) ((i + 1 : Nat) : Int)) else (some false))) true := by
        rw [hv] at hhas
        exact Ev.bind (f := fun k t => (if t = true then (laws_FnNameSigns.l0 k s (s.size : Int) ((i + 1 : Nat) : Int)) else (some false))) hhas (by simpa using hn)
      refine Ev.step (fun k => ?_) he
      simp only [laws_FnNameSigns.l0]
      rw [if_pos (by omega), if_pos (by omega), if_pos (by omega), btN_cast, letter_is, hl', wrapS i (by omega)]
      simp only [Option.bind_some, Bool.false_eq_true, if_false]
      simp only [hlast, Int.toNat_natCast, e5]
      by_cases h48 : (btN s i : Int) < 48
      · rw [if_pos h48, if_pos (by omega), if_pos (by omega)]
      · rw [if_neg h48, if_pos (by omega), if_pos (by omega), if_pos (by omega)]

theorem signs_all (s : ByteArray) (hs : s.size ≤ 100000) (hok : ∀ i, i < s.size → okSign (btN s i : Int) = true) (h0 : 0 < s.size → btN s 0 ≠ 46) (d : Nat) :
    ∀ i : Nat, s.size - i = d → i ≤ s.size → Ev (fun k => laws_FnNameSigns.l0 k s (s.size : Int) (i : Int)) true := by
  induction d with
  | zero =>
    intro i hd hi
    refine Ev.step (f := fun k => (laws_escapes.f k).bind fun t137 => (some t137)) (fun k => ?_) (Ev.bind escapes_is (Ev.now _))
    simp only [laws_FnNameSigns.l0]
    rw [if_neg (by omega)]
  | succ d ih =>
    intro i hd hi
    exact signs_step s hs i (by omega) (hok i (by omega)) (fun e => by subst e; exact h0 (by omega)) (ih (i + 1) (by omega) (by omega))

theorem escList_all (l : List Nat) (hl : ∀ c ∈ l, c < 256) : ∀ s, (∀ x ∈ escList s l, okSign x = true ∧ 0 ≤ x ∧ x ≤ 255) ∧ (escList s l).length ≤ 4 * l.length ∧ (s = true → (escList s l).head? ≠ some 46) := by
  induction l with
  | nil => intro s; simp [escList]
  | cons c l ih =>
    intro s
    obtain ⟨⟨a, b⟩, e, f⟩ := esc1_is c s (hl c (by simp))
    obtain ⟨g1, g2, _⟩ := ih (fun x hx => hl x (by simp [hx])) false
    refine ⟨fun x hx => ?_, ?_, fun hs => ?_⟩
    · simp only [escList, List.mem_append] at hx
      rcases hx with hx | hx
      · have := List.all_eq_true.1 a x hx
        simp only [Bool.and_eq_true, decide_eq_true_eq] at this
        exact ⟨this.1.1, this.1.2, this.2⟩
      · exact g1 x hx
    · simp only [escList, List.length_append, List.length_cons]; omega
    · have := f hs
      simp only [escList]
      cases h : esc1 s c with
      | nil => rw [h] at b; simp at b
      | cons y ys => rw [h] at this; simpa using this

theorem FnNameSigns : laws_FnNameSigns.Pure := by
  intro s hn
  refine Ev.rounds (g := fun k => laws_FnNameSigns.f k s) ?_
  unfold laws_FnNameSigns.f
  by_cases h1 : (s.size : Int) > 2147483647
  · simp only [if_pos h1]; exact Ev.now _
  · simp only [if_neg h1]
    by_cases h2 : (s.size : Int) > 4000
    · simp only [if_pos h2]; exact Ev.now _
    · simp only [if_neg h2]
      refine Ev.bind (f := fun k t136 => laws_FnNameSigns.l0 k t136 (t136.size : Int) 0) (impl_escape_is s (by omega)) ?_
      have hall : ∀ c ∈ nums8 s 0, c < 256 := by
        intro c hc
        simp only [nums8, List.mem_map] at hc
        obtain ⟨j, _, rfl⟩ := hc
        exact btN_lt s j
      obtain ⟨g1, g2, g3⟩ := escList_all (nums8 s 0) hall true
      have hlen : (nums8 s 0).length = s.size := by simp [nums8]
      have hb := bytesOf_strOfNums _ (fun x hx => (g1 x hx).2)
      generalize escList true (nums8 s 0) = es at *
      have hz := strOfNums_size es
      have hbt : ∀ i : Nat, bt (strOfNums es) (i : Int) = es.getD i 0 := by
        intro i
        rw [← rd_bytesOf, hb]
        simp [rd]
      refine signs_all (strOfNums es) (by omega) (fun i hi => ?_) (fun h0 => ?_) (strOfNums es).size 0 (by omega) (by omega)
      · rw [← btN_cast, hbt]
        have hi' : i < es.length := by omega
        rw [List.getD_eq_getElem?_getD, List.getElem?_eq_getElem hi']
        exact (g1 _ (List.getElem_mem hi')).1
      · have h3 := g3 rfl
        have e := hbt 0
        have e' := btN_cast (strOfNums es) 0
        intro hc
        apply h3
        cases es with
        | nil => simp only [List.length_nil] at hz; omega
        | cons y ys =>
          simp only [List.getD_cons_zero] at e
          rw [hc] at e'
          rw [e'] at e
          simp only [List.head?_cons, Option.some.injEq]
          omega

end Go.Proofs.Ytgnfapnnbcafbaa.Pure
