/- Plain facts: how a path is escaped: the reference's answer, where it has one, is the package's. Condition: at most 4,000 bytes. -/
import Derived.Test.YtgnfapnnbcafbaaDoorPureUn
import Derived.Lib.Strings
namespace Go.Proofs.YtgnfapnnbcafbaaDoor.Pure
open Go.RowKit Go.Proofs.YtgnfapnnbcafbaaDoor.GNU Go.Proofs.YtgnfapnnbcafbaaDoorW.PrintWords Go.Proofs.YtgnfapnnbcafbaaDoorW.PrintLast

def mkB (l : List UInt8) : ByteArray := ⟨l.toArray⟩
theorem mkB_size (l : List UInt8) : (mkB l).size = l.length := by simp [mkB, ByteArray.size]
theorem mkB_append (a b : List UInt8) : mkB a ++ mkB b = mkB (a ++ b) := by
  apply ByteArray.ext; simp [mkB, ByteArray.data_append]
theorem mkB_toList (l : List UInt8) : (mkB l).toList = l := Go.ByteArray.toList_mk l
theorem mkB_data (s : ByteArray) : mkB s.data.toList = s := by simp [mkB]
def b8 (s : ByteArray) (i : Nat) : UInt8 := UInt8.ofNat (btN s i)
theorem b8_nat (s : ByteArray) (i : Nat) : (b8 s i).toNat = btN s i := by
  have := btN_lt s i
  simp only [b8, UInt8.toNat_ofNat']; omega
theorem extract_b8 (s : ByteArray) (i : Nat) (h : i < s.size) : s.extract i (i + 1) = mkB [b8 s i] := by
  have hz : s.data.toList.length = s.size := Array.length_toList
  have e : (s.extract i (i + 1)).data.toList = [b8 s i] := by
    rw [Lib.extract_data, show i + 1 - i = 1 from by omega, List.drop_eq_getElem_cons (by omega), List.take_succ_cons, List.take_zero]
    congr 1
    apply UInt8.toNat_inj.1
    rw [b8_nat]
    unfold btN bt
    rw [dif_pos (by simpa using h)]
    simp [ByteArray.getElem_eq_getElem_data]
  rw [← mkB_data (s.extract i (i + 1)), e]
theorem btN_mkB (l : List UInt8) (i : Nat) (h : i < l.length) : btN (mkB l) i = (l[i]'h).toNat := by
  unfold btN bt
  rw [dif_pos (by rw [mkB_size]; simpa using h)]
  simp [mkB, ByteArray.getElem_eq_getElem_data]
theorem str_append (a b : List Int) : strOfNums a ++ strOfNums b = strOfNums (a ++ b) := by
  apply ByteArray.ext; simp [strOfNums, ByteArray.data_append]

/-! the reference's 'escaped' -/
def digS : ByteArray := ⟨#[48, 49, 50, 51, 52, 53, 54, 55, 56, 57, 97, 98, 99, 100, 101, 102]⟩
def specE (first : Bool) (c : Nat) : List Int := if c = 47 then [45] else if keptN c = true ∧ ¬ (c = 46 ∧ first = true) then [(c : Int)] else 92 :: 120 :: [bt digS ((c : Int) / 16), bt digS (Go.bits .and .u8 (c : Int) 15)]
theorem specE_all : ((List.range 128).all fun n => [true, false].all fun f => decide (n < 16) || (specE f n == esc1 f n)) = true := by decide +kernel
theorem specE_is (c : Nat) (f : Bool) (h0 : 16 ≤ c) (h1 : c < 128) : specE f c = esc1 f c := by
  have := List.all_eq_true.1 (List.all_eq_true.1 specE_all c (List.mem_range.2 h1)) f (by cases f <;> simp)
  simp only [Bool.or_eq_true, decide_eq_true_eq, beq_iff_eq] at this
  rcases this with h | h
  · omega
  · exact h
theorem and_all : ((List.range 256).all fun n => decide (0 ≤ Go.bits .and .u8 (n : Int) 15) && decide (Go.bits .and .u8 (n : Int) 15 < 16)) = true := by decide +kernel
theorem and_is (c : Nat) (h : c < 256) : 0 ≤ Go.bits .and .u8 (c : Int) 15 ∧ Go.bits .and .u8 (c : Int) 15 < 16 := by
  have := List.all_eq_true.1 and_all c (List.mem_range.2 h)
  simpa only [Bool.and_eq_true, decide_eq_true_eq] using this
theorem specE_len (f : Bool) (c : Nat) : (specE f c).length ≤ 4 := by
  unfold specE; split
  · simp
  · split <;> simp
theorem esc_step (s : ByteArray) (hs : s.size ≤ 100000) (es : List Int) (hl : es.length ≤ 1000000) (i : Nat) (hi : i < s.size) (r : ByteArray)
    (h : Ev (fun k => spec_escaped.l0 k s (strOfNums (es ++ specE (decide (i = 0)) (btN s i))) (s.size : Int) ((i + 1 : Nat) : Int)) r) :
    Ev (fun k => spec_escaped.l0 k s (strOfNums es) (s.size : Int) (i : Int)) r := by
  have hb : i < 100000000 := by omega
  have hc := btN_lt s i
  obtain ⟨a0, a1⟩ := and_is (btN s i) hc
  have hx : (s.extract (i : Int).toNat ((i + 1 : Nat) : Int).toNat) = strOfNums [(btN s i : Int)] := by
    rw [Int.toNat_natCast, Int.toNat_natCast, extract_b8 s i hi]
    apply ByteArray.ext
    simp [mkB, strOfNums, b8]
  have z1 : (strOfNums es).size = es.length := strOfNums_size es
  have z2 : (strOfNums [(btN s i : Int)]).size = 1 := strOfNums_size _
  refine Ev.step (f := fun k => spec_escaped.l0 k s (strOfNums (es ++ specE (decide (i = 0)) (btN s i))) (s.size : Int) ((i + 1 : Nat) : Int)) (fun k => ?_) h
  have hhex : (if 0 ≤ ((btN s i : Int) / 16) then (if ((btN s i : Int) / 16) < 16 then (if 0 ≤ (Go.bits .and .u8 (btN s i : Int) 15) then (if (Go.bits .and .u8 (btN s i : Int) 15) < 16 then ((some (([bt digS ((btN s i : Int) / 16), bt digS (Go.bits .and .u8 (btN s i : Int) 15)] : List Int) : List Int)).bind fun y159 => (if 2 + (strOfNums y159).size ≤ 9223372036854775807 then (if (strOfNums es).size + ((⟨#[92, 120]⟩ : ByteArray) ++ (strOfNums y159)).size ≤ 9223372036854775807 then (spec_escaped.l0 k s (strOfNums es ++ ((⟨#[92, 120]⟩ : ByteArray) ++ (strOfNums y159))) (s.size : Int) ((i + 1 : Nat) : Int)) else (none)) else (none))) else (none)) else (none)) else (none)) else (none)) =
      spec_escaped.l0 k s (strOfNums (es ++ (92 :: 120 :: [bt digS ((btN s i : Int) / 16), bt digS (Go.bits .and .u8 (btN s i : Int) 15)]))) (s.size : Int) ((i + 1 : Nat) : Int) := by
    rw [if_pos (by omega), if_pos (by omega), if_pos a0, if_pos a1]
    simp only [Option.bind_some]
    have z3 : (strOfNums [bt digS ((btN s i : Int) / 16), bt digS (Go.bits .and .u8 (btN s i : Int) 15)]).size = 2 := strOfNums_size _
    have z4 : ((⟨#[92, 120]⟩ : ByteArray) ++ (strOfNums [bt digS ((btN s i : Int) / 16), bt digS (Go.bits .and .u8 (btN s i : Int) 15)])).size = 4 := by rw [ByteArray.size_append, z3]; rfl
    rw [if_pos (by omega), if_pos (by omega), show (⟨#[92, 120]⟩ : ByteArray) = strOfNums [92, 120] from rfl, str_append, str_append]
    rfl
  simp only [spec_escaped.l0]
  rw [if_pos (by omega), if_pos (by omega), if_pos (by omega), btN_cast, wrap1 i hb]
  by_cases c47 : btN s i = 47
  · rw [if_pos (by omega), if_pos (by omega), show (⟨#[45]⟩ : ByteArray) = strOfNums [45] from rfl, str_append]
    unfold specE
    rw [if_pos c47]
  · rw [if_neg (by omega), kept_is _ hc]
    simp only [Option.bind_some]
    unfold specE
    rw [if_neg c47]
    by_cases ck : keptN (btN s i) = true
    · rw [if_pos ck]
      by_cases c46 : btN s i = 46
      · rw [if_pos (by omega)]
        by_cases hi0 : i = 0
        · rw [if_neg (by omega)]
          refine hhex.trans ?_
          rw [if_neg (fun hh => hh.2 ⟨c46, by simp [hi0]⟩)]
        · rw [if_pos (by omega), if_pos (by omega), if_pos (by omega), hx, if_pos (by omega), str_append, if_pos ⟨ck, fun hh => hi0 (by simpa using hh.2)⟩]
      · rw [if_neg (by omega), if_pos (by omega), if_pos (by omega), hx, if_pos (by omega), str_append, if_pos ⟨ck, fun hh => c46 hh.1⟩]
    · rw [if_neg ck]
      refine hhex.trans ?_
      rw [if_neg (fun hh => ck hh.1)]
theorem esc_all (s : ByteArray) (hs : s.size ≤ 100000) (hr : ∀ i, i < s.size → 16 ≤ btN s i ∧ btN s i < 128) (d : Nat) : ∀ (i : Nat) (es : List Int), s.size - i = d → i ≤ s.size → es.length ≤ 4 * i →
    Ev (fun k => spec_escaped.l0 k s (strOfNums es) (s.size : Int) (i : Int)) (strOfNums (es ++ escList (decide (i = 0)) (nums8 s i))) := by
  induction d with
  | zero =>
    intro i es hd hi he
    rw [nums8_end s i (by omega)]
    refine Ev.step (f := fun _ => some (strOfNums (es ++ escList (decide (i = 0)) []))) (fun k => ?_) (Ev.now _)
    simp only [spec_escaped.l0]
    rw [if_neg (by omega)]
    simp [escList]
  | succ d ih =>
    intro i es hd hi he
    have hlt : i < s.size := by omega
    have hb := hr i hlt
    rw [nums8_cons s i hlt]
    refine esc_step s hs es (by omega) i hlt _ ?_
    have hl := specE_len (decide (i = 0)) (btN s i)
    have := ih (i + 1) (es ++ specE (decide (i = 0)) (btN s i)) (by omega) (by omega) (by rw [List.length_append]; omega)
    rw [specE_is _ _ hb.1 hb.2] at this ⊢
    rw [show decide (i + 1 = 0) = false from rfl] at this
    simpa only [escList, List.append_assoc] using this
theorem escaped_is (s : ByteArray) (hs : s.size ≤ 100000) (hr : ∀ i, i < s.size → 16 ≤ btN s i ∧ btN s i < 128) : Ev (fun k => spec_escaped.f k s) (strOfNums (escList true (nums8 s 0))) := by
  have := esc_all s hs hr s.size 0 [] (by omega) (by omega) (by simp)
  unfold spec_escaped.f
  rw [show (⟨#[]⟩ : ByteArray) = strOfNums [] from rfl]
  simpa using this

/-! 'written' -/
theorem ascii_is (s : ByteArray) (hs : s.size ≤ 100000) (d : Nat) : ∀ i : Nat, s.size - i = d → i ≤ s.size → ∃ b : Bool, Ev (fun k => spec_ascii.l0 k s (s.size : Int) (i : Int)) b ∧ (b = true → ∀ j, i ≤ j → j < s.size → btN s j < 128) := by
  induction d with
  | zero =>
    intro i hd hi
    refine ⟨true, Ev.step (f := fun _ => some true) (fun k => ?_) (Ev.now _), fun _ j h1 h2 => by omega⟩
    simp only [spec_ascii.l0]
    rw [if_neg (by omega)]
  | succ d ih =>
    intro i hd hi
    have hb : i < 100000000 := by omega
    obtain ⟨b, h1, h2⟩ := ih (i + 1) (by omega) (by omega)
    by_cases c1 : btN s i ≥ 128
    · refine ⟨false, Ev.step (f := fun _ => some false) (fun k => ?_) (Ev.now _), fun h => by cases h⟩
      simp only [spec_ascii.l0]
      rw [if_pos (by omega), if_pos (by omega), if_pos (by omega), btN_cast, if_pos (by omega)]
    · by_cases c2 : btN s i = 0
      · refine ⟨false, Ev.step (f := fun _ => some false) (fun k => ?_) (Ev.now _), fun h => by cases h⟩
        simp only [spec_ascii.l0]
        rw [if_pos (by omega), if_pos (by omega), if_pos (by omega), btN_cast, if_neg (by omega), if_pos (by omega)]
      · refine ⟨b, Ev.step (fun k => ?_) h1, fun hbt j hj hjs => ?_⟩
        · simp only [spec_ascii.l0]
          rw [if_pos (by omega), if_pos (by omega), if_pos (by omega), btN_cast, if_neg (by omega), if_neg (by omega), wrap1 i hb]
        · rcases Nat.eq_or_lt_of_le hj with e | e
          · subst e; omega
          · exact h2 hbt j (by omega) hjs
theorem written_is (s : ByteArray) (hs : s.size ≤ 100000) (d : Nat) : ∀ i : Nat, s.size - i = d → i ≤ s.size → ∃ b : Bool, Ev (fun k => spec_written.l0 k s (s.size : Int) (i : Int)) b ∧ (b = true → (∀ j, i ≤ j → j < s.size → 16 ≤ btN s j) ∧ ∀ j, j < s.size → btN s j < 128) := by
  induction d with
  | zero =>
    intro i hd hi
    obtain ⟨b, h1, h2⟩ := ascii_is s hs s.size 0 (by omega) (by omega)
    refine ⟨b, Ev.step (f := fun k => (spec_ascii.f k s).bind fun t157 => (some t157)) (fun k => ?_) (Ev.bind h1 (Ev.now _)), fun hb => ⟨fun j h3 h4 => by omega, fun j hj => h2 hb j (by omega) hj⟩⟩
    simp only [spec_written.l0]
    rw [if_neg (by omega)]
  | succ d ih =>
    intro i hd hi
    have hb : i < 100000000 := by omega
    obtain ⟨b, h1, h2⟩ := ih (i + 1) (by omega) (by omega)
    by_cases c1 : btN s i < 16
    · refine ⟨false, Ev.step (f := fun _ => some false) (fun k => ?_) (Ev.now _), fun h => by cases h⟩
      simp only [spec_written.l0]
      rw [if_pos (by omega), if_pos (by omega), if_pos (by omega), btN_cast, if_pos (by omega)]
    · refine ⟨b, Ev.step (fun k => ?_) h1, fun hbt => ⟨fun j hj hjs => ?_, (h2 hbt).2⟩⟩
      · simp only [spec_written.l0]
        rw [if_pos (by omega), if_pos (by omega), if_pos (by omega), btN_cast, if_neg (by omega), wrap1 i hb]
      · rcases Nat.eq_or_lt_of_le hj with e | e
        · subst e; omega
        · exact (h2 hbt).1 j (by omega) hjs

/-! a path: both walk over it side by side -/
def cur (out part : List UInt8) : List UInt8 := if part = [] then out else if out = [] then part else out ++ (47 :: part)
theorem cur_nil (out : List UInt8) : cur out [] = out := by simp [cur]
theorem cur_len (out part : List UInt8) : (cur out part).length ≤ out.length + part.length + 1 := by
  unfold cur; split
  · omega
  · split
    · omega
    · simp; omega
def eL (l : List UInt8) : List Int := escList true (l.map (·.toNat))
theorem escList_append (s : Bool) (a b : List Nat) : escList s (a ++ b) = escList s a ++ escList (s && a.isEmpty) b := by
  induction a generalizing s with
  | nil => simp [escList]
  | cons x a ih => simp [escList, ih, List.append_assoc]
theorem eL_snoc (l : List UInt8) (c : UInt8) : eL (l ++ [c]) = eL l ++ esc1 l.isEmpty c.toNat := by
  unfold eL
  rw [List.map_append, escList_append]
  simp [escList]
theorem eL_len (l : List UInt8) : (eL l).length ≤ 4 * l.length := by
  unfold eL
  suffices h : ∀ (m : List Nat) (s : Bool), (escList s m).length ≤ 4 * m.length by simpa using h (l.map (·.toNat)) true
  intro m
  induction m with
  | nil => intro s; simp [escList]
  | cons x m ih =>
    intro s
    have := esc1_len s x
    have := ih false
    simp only [escList, List.length_append, List.length_cons]; omega
theorem eL_nil_iff (l : List UInt8) : eL l = [] ↔ l = [] := by
  cases l with
  | nil => simp [eL, escList]
  | cons c l =>
    have h := (esc1_is c.toNat true c.toNat_lt).1.2
    constructor
    · intro e
      simp only [eL, List.map_cons, escList] at e
      have := congrArg List.length e
      simp only [List.length_append, List.length_nil] at this
      omega
    · intro e; cases e
/-- the reference at the end of a part -/
theorem flush_go (s : ByteArray) (hs : s.size ≤ 4000) (out part : List UInt8) (ho : out.length + part.length ≤ 8100) (i : Nat) (hi : i ≤ s.size) (h1 : part ≠ [46]) (h2 : part ≠ [46, 46]) (r : ByteArray × Int)
    (h : Ev (fun k => spec_EscapePath.l0 k s (mkB (cur out part)) (mkB []) ((i + 1 : Nat) : Int)) r) : Ev (fun k => spec_EscapePath.j2 k s (mkB out) (mkB part) (i : Int) false) r := by
  have hq : (part == ([46, 46] : List UInt8)) = false := by simpa using h2
  refine Ev.step (f := fun k => spec_EscapePath.j3 k s (mkB out) (mkB part) (i : Int) false) (fun k => ?_) ?_
  · simp only [spec_EscapePath.j2, Bool.false_eq_true, if_false]
    rw [mkB_toList, if_neg h1, hq]
  · refine Ev.step (fun k => ?_) h
    have hb : i < 100000000 := by omega
    simp only [spec_EscapePath.j3, Bool.false_eq_true, if_false]
    rw [mkB_toList, mkB_toList, wrap1 i hb, mkB_size, mkB_size, mkB_append]
    unfold cur
    by_cases hp : part = []
    · rw [if_pos hp, if_pos hp, if_pos (by omega)]
      subst hp
      simp only [List.append_nil]
      rfl
    · rw [if_neg hp, if_neg hp]
      by_cases hu : out = []
      · rw [if_pos hu, if_pos hu, if_pos (by omega)]
        subst hu
        simp only [List.nil_append]
        rfl
      · rw [if_neg hu, if_neg hu, show (⟨#[47]⟩ : ByteArray) = mkB [47] from rfl, mkB_append, mkB_size, mkB_append, if_pos (by omega), if_pos (by simp; omega)]
        simp only [List.append_assoc, List.singleton_append]
        rfl
theorem flush (s : ByteArray) (hs : s.size ≤ 4000) (out part : List UInt8) (ho : out.length + part.length ≤ 8100) (i : Nat) (hi : i ≤ s.size) :
    (Ev (fun k => spec_EscapePath.j2 k s (mkB out) (mkB part) (i : Int) false) ((⟨#[]⟩ : ByteArray), (2 : Int))) ∨
    (∀ r, Ev (fun k => spec_EscapePath.l0 k s (mkB (cur out part)) (mkB []) ((i + 1 : Nat) : Int)) r → Ev (fun k => spec_EscapePath.j2 k s (mkB out) (mkB part) (i : Int) false) r) := by
  have j3t : Ev (fun k => spec_EscapePath.j3 k s (mkB out) (mkB part) (i : Int) true) ((⟨#[]⟩ : ByteArray), (2 : Int)) := by
    refine Ev.step (f := fun _ => some ((⟨#[]⟩ : ByteArray), (2 : Int))) (fun k => ?_) (Ev.now _)
    simp only [spec_EscapePath.j3, if_true]
  by_cases h1 : part = [46]
  · refine .inl (Ev.step (f := fun k => spec_EscapePath.j3 k s (mkB out) (mkB part) (i : Int) true) (fun k => ?_) j3t)
    simp only [spec_EscapePath.j2, Bool.false_eq_true, if_false]
    rw [mkB_toList, if_pos h1]
  · by_cases h2 : part = [46, 46]
    · refine .inl (Ev.step (f := fun k => spec_EscapePath.j3 k s (mkB out) (mkB part) (i : Int) true) (fun k => ?_) j3t)
      simp only [spec_EscapePath.j2, Bool.false_eq_true, if_false]
      rw [mkB_toList, if_neg h1, h2]
      rfl
    · exact .inr fun r h => flush_go s hs out part ho i hi h1 h2 r h

/-- what the two say of a path from some place on -/
def Agree (s : ByteArray) (i : Nat) (out part : List UInt8) : Prop :=
  ∃ res : ByteArray × Int, Ev (fun k => spec_EscapePath.l0 k s (mkB out) (mkB part) (i : Int)) res ∧
    (res = ((⟨#[]⟩ : ByteArray), 2) ∨ (res.2 = 1 ∧ Ev (fun k => unit_escape.l0 k s true (eL (cur out part)) part.isEmpty (cur out part).isEmpty (i : Int)) res.1))

theorem path_end (s : ByteArray) (out : List UInt8) (ho : out.length ≤ 8200) (hr : ∀ c ∈ out, 16 ≤ c.toNat ∧ c.toNat < 128) :
    ∃ res : ByteArray × Int, Ev (fun k => spec_EscapePath.l0 k s (mkB out) (mkB []) ((s.size + 1 : Nat) : Int)) res ∧ res.2 = 1 ∧ res.1 = (if out = [] then strOfNums [45] else strOfNums (eL out)) := by
  by_cases h : out = []
  · refine ⟨((⟨#[45]⟩ : ByteArray), 1), Ev.step (f := fun _ => some ((⟨#[45]⟩ : ByteArray), (1 : Int))) (fun k => ?_) (Ev.now _), rfl, by rw [if_pos h]; rfl⟩
    simp only [spec_EscapePath.l0]
    rw [if_neg (by omega), mkB_toList, if_pos h]
  · have hn : nums8 (mkB out) 0 = out.map (·.toNat) := by
      unfold nums8
      rw [mkB_size, Nat.sub_zero]
      apply List.ext_getElem
      · simp
      · intro n h1 h2
        simp only [List.length_map, List.length_range'] at h1
        simp only [List.getElem_map, List.getElem_range', Nat.zero_add, Nat.one_mul]
        exact btN_mkB out n h1
    have he := escaped_is (mkB out) (by rw [mkB_size]; omega) (fun i hi => by
      rw [mkB_size] at hi
      rw [btN_mkB out i hi]
      exact hr _ (List.getElem_mem hi))
    rw [hn] at he
    refine ⟨(strOfNums (eL out), 1), Ev.step (f := fun k => (spec_escaped.f k (mkB out)).bind fun t166 => (some (t166, 1))) (fun k => ?_) (Ev.bind he (Ev.now _)), rfl, by rw [if_neg h]⟩
    simp only [spec_EscapePath.l0]
    rw [if_neg (by omega), mkB_toList, if_neg h]

theorem path_all (s : ByteArray) (hs : s.size ≤ 4000) (hw : ∀ j, j < s.size → 16 ≤ btN s j ∧ btN s j < 128) (d : Nat) : ∀ (i : Nat) (out part : List UInt8), s.size - i = d → i ≤ s.size →
    out.length + part.length + (if part = [] then 0 else 1) ≤ 2 * i → (∀ c ∈ out ++ part, 16 ≤ c.toNat ∧ c.toNat < 128) → Agree s i out part := by
  induction d with
  | zero =>
    intro i out part hd hi hl hr
    obtain rfl : i = s.size := by omega
    have hlen := cur_len out part
    have hl' : out.length + part.length ≤ 2 * s.size := by split at hl <;> omega
    have hcr : ∀ c ∈ cur out part, 16 ≤ c.toNat ∧ c.toNat < 128 := by
      intro c hc
      unfold cur at hc
      split at hc
      · exact hr c (by simp [hc])
      · split at hc
        · exact hr c (by simp [hc])
        · simp only [List.mem_append, List.mem_cons] at hc
          rcases hc with hc | rfl | hc
          · exact hr c (by simp [hc])
          · decide
          · exact hr c (by simp [hc])
    have hstep : ∀ r, Ev (fun k => spec_EscapePath.j2 k s (mkB out) (mkB part) (s.size : Int) false) r → Ev (fun k => spec_EscapePath.l0 k s (mkB out) (mkB part) (s.size : Int)) r := by
      intro r h
      refine Ev.step (fun k => ?_) h
      simp only [spec_EscapePath.l0]
      rw [if_pos (by omega), if_neg (by omega)]
    rcases flush s hs out part (by omega) s.size (by omega) with h | h
    · exact ⟨_, hstep _ h, .inl rfl⟩
    · obtain ⟨res, h1, h2, h3⟩ := path_end s (cur out part) (by omega) hcr
      refine ⟨res, hstep _ (h res h1), .inr ⟨h2, ?_⟩⟩
      rw [h3]
      have hel := eL_len (cur out part)
      refine Ev.step (f := fun _ => some (if cur out part = [] then strOfNums [45] else strOfNums (eL (cur out part)))) (fun k => ?_) (Ev.now _)
      simp only [unit_escape.l0, if_true]
      rw [if_neg (by omega)]
      by_cases hc : cur out part = []
      · have e0 : eL (cur out part) = [] := (eL_nil_iff _).2 hc
        rw [e0, if_pos (by simp), if_pos (by simp), if_pos hc]
        rfl
      · have e0 : ¬ eL (cur out part) = [] := fun h => hc ((eL_nil_iff _).1 h)
        rw [if_neg (by
          intro h
          have h' : (eL (cur out part)).length = 0 := by omega
          exact e0 (List.eq_nil_of_length_eq_zero h')), if_neg hc]
  | succ d ih =>
    intro i out part hd hi hl hr
    have hlt : i < s.size := by omega
    have hb : i < 100000000 := by omega
    have hl' : out.length + part.length ≤ 2 * i := by split at hl <;> omega
    by_cases c47 : btN s i = 47
    · have hstep : ∀ r, Ev (fun k => spec_EscapePath.j2 k s (mkB out) (mkB part) (i : Int) false) r → Ev (fun k => spec_EscapePath.l0 k s (mkB out) (mkB part) (i : Int)) r := by
        intro r h
        refine Ev.step (fun k => ?_) h
        simp only [spec_EscapePath.l0]
        rw [if_pos (by omega), if_pos (by omega), if_pos (by omega), btN_cast, c47]
        rfl
      rcases flush s hs out part (by omega) i hi with h | h
      · exact ⟨_, hstep _ h, .inl rfl⟩
      · have hlen := cur_len out part
        obtain ⟨res, h1, h2⟩ := ih (i + 1) (cur out part) [] (by omega) (by omega) (by
          unfold cur
          split
          · simp; omega
          · rename_i hp
            rw [if_neg hp] at hl
            split
            · simp; omega
            · simp; omega) (by
          intro c hc
          rw [List.append_nil] at hc
          unfold cur at hc
          split at hc
          · exact hr c (by simp [hc])
          · split at hc
            · exact hr c (by simp [hc])
            · simp only [List.mem_append, List.mem_cons] at hc
              rcases hc with hc | rfl | hc
              · exact hr c (by simp [hc])
              · decide
              · exact hr c (by simp [hc]))
        refine ⟨res, hstep _ (h res h1), ?_⟩
        rcases h2 with h2 | ⟨h2, h3⟩
        · exact .inl h2
        · refine .inr ⟨h2, ?_⟩
          rw [cur_nil] at h3
          refine Ev.step (fun k => ?_) h3
          simp only [unit_escape.l0, if_true]
          rw [if_pos (by omega), if_pos (by omega), btN_cast, if_pos (by omega), wrap1 i hb]
          rfl
    · have hx : (s.extract (i : Int).toNat ((i + 1 : Nat) : Int).toNat) = mkB [b8 s i] := by
        rw [Int.toNat_natCast, Int.toNat_natCast, extract_b8 s i hlt]
      have hwi := hw i hlt
      obtain ⟨res, h1, h2⟩ := ih (i + 1) out (part ++ [b8 s i]) (by omega) (by omega) (by
          rw [if_neg (by simp), List.length_append]
          simp only [List.length_cons, List.length_nil]
          split at hl <;> omega) (by
          intro c hc
          simp only [List.mem_append, List.mem_cons, List.mem_nil_iff, or_false] at hc
          rcases hc with hc | hc | rfl
          · exact hr c (by simp [hc])
          · exact hr c (by simp [hc])
          · rw [b8_nat]; exact hwi)
      refine ⟨res, ?_, ?_⟩
      · refine Ev.step (f := fun k => spec_EscapePath.j2 k s (mkB out) (mkB part) (i : Int) true) (fun k => ?_) (Ev.step (fun k => ?_) h1)
        · simp only [spec_EscapePath.l0]
          have hne : ((btN s i : Int) != 47) = true := by rw [bne_iff_ne]; omega
          rw [if_pos (by omega), if_pos (by omega), if_pos (by omega), btN_cast, hne]
        · simp only [spec_EscapePath.j2, if_true]
          rw [wrap1 i hb, if_pos (by omega), if_pos (by omega), if_pos (by omega), hx, mkB_size, mkB_size, mkB_append, if_pos (by simp; omega)]
      · rcases h2 with h2 | ⟨h2, h3⟩
        · exact .inl h2
        · refine .inr ⟨h2, ?_⟩
          have hcl : (cur out part).length ≤ 2 * i + 1 := by have := cur_len out part; omega
          have hel := eL_len (cur out part)
          have hne : (part ++ [b8 s i]).isEmpty = false := by simp
          have hcne : (cur out (part ++ [b8 s i])).isEmpty = false := by
            unfold cur
            rw [if_neg (by simp)]
            split <;> simp
          rw [hne, hcne] at h3
          by_cases hp : part = []
          · subst hp
            by_cases hu : out = []
            · subst hu
              have hcur : cur [] ([] ++ [b8 s i]) = [] ++ [b8 s i] := by simp [cur]
              rw [hcur, eL_snoc, b8_nat] at h3
              refine Ev.step (f := fun k => unit_escape.j1 k s true (eL []) false true (i : Int) (btN s i : Int)) (fun k => ?_) (escape_j1 s true false true (eL []) i _ _ (btN_lt s i) (by simp [eL, escList]) (by rw [wrap1 i hb]; exact h3))
              simp only [unit_escape.l0, if_true, cur_nil, List.isEmpty_nil]
              rw [if_pos (by omega), if_pos (by omega), btN_cast, if_neg (by omega)]
            · have hcur : cur out ([] ++ [b8 s i]) = (out ++ [47]) ++ [b8 s i] := by simp [cur, hu]
              have hoe : out.isEmpty = false := by simpa using hu
              rw [hcur, eL_snoc, b8_nat, eL_snoc, hoe] at h3
              have e47 : esc1 false (47 : UInt8).toNat = [45] := by decide
              rw [e47, show (out ++ [(47 : UInt8)]).isEmpty = false from by simp] at h3
              rw [cur_nil, hoe]
              rw [cur_nil] at hel hcl
              refine Ev.step (f := fun k => unit_escape.j1 k s true (eL out ++ [45]) false false (i : Int) (btN s i : Int)) (fun k => ?_) (escape_j1 s true false false (eL out ++ [45]) i _ _ (btN_lt s i) (by rw [List.length_append]; simp only [List.length_cons, List.length_nil]; omega) (by rw [wrap1 i hb]; exact h3))
              simp only [unit_escape.l0, if_true, List.isEmpty_nil]
              rw [if_pos (by omega), if_pos (by omega), btN_cast, if_neg (by omega), if_neg (by decide), if_pos (by omega)]
          · have hpe : part.isEmpty = false := by simpa using hp
            have hce : (cur out part).isEmpty = false := by
              unfold cur
              rw [if_neg hp]
              split
              · simpa using hp
              · simp
            have hcur : cur out (part ++ [b8 s i]) = cur out part ++ [b8 s i] := by
              unfold cur
              rw [if_neg (by simp), if_neg hp]
              split
              · rfl
              · simp
            rw [hcur, eL_snoc, b8_nat, hce] at h3
            rw [hpe, hce]
            refine Ev.step (f := fun k => unit_escape.j1 k s true (eL (cur out part)) false false (i : Int) (btN s i : Int)) (fun k => ?_) (escape_j1 s true false false (eL (cur out part)) i _ _ (btN_lt s i) (by omega) (by rw [wrap1 i hb]; exact h3))
            simp only [unit_escape.l0, if_true, Bool.false_eq_true, if_false]
            rw [if_pos (by omega), if_pos (by omega), btN_cast, if_neg (by omega)]
end Go.Proofs.YtgnfapnnbcafbaaDoor.Pure
