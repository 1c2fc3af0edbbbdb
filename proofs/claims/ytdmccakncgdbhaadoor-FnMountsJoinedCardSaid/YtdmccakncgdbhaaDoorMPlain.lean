/- Plain facts: how mounts are printed by the reference, line by line, and how a text of mounts is read: what is printed is read as it was. Conditions: strings of at most 2,147,483,647 bytes, at most 200 mounts, texts of at most 900,000 bytes, lines of at most 60,000. -/
import Derived.Test.YtdmccakncgdbhaaDoorWCut
import Derived.Lib.Strings
import Derived.Lib.ItoaNum
import Derived.Lib.Join
import Derived.Lib.Atoi
import Derived.Test.YtdmccakncgdbhaaDoorGivenPtr
import Derived.Lib.IndexLaws
import Derived.Test.YtdmccakncgdbhaaDoorGMAx7
import Derived.Test.YtdmccakncgdbhaaDoorGMAx8
namespace Go.Proofs.YtdmccakncgdbhaaDoor.MB
open Go Go.RowKit Go.Proofs.YtdmccakncgdbhaaDoorW.PrintWords Go.Proofs.YtdmccakncgdbhaaDoorW.PrintLast
def mkB (l : List UInt8) : ByteArray := ⟨l.toArray⟩
theorem mkB_size (l : List UInt8) : (mkB l).size = l.length := by simp [mkB, ByteArray.size]
theorem mkB_append (a b : List UInt8) : mkB a ++ mkB b = mkB (a ++ b) := by
  apply ByteArray.ext; simp [mkB, ByteArray.data_append]
theorem mkB_toList (l : List UInt8) : (mkB l).toList = l := Go.ByteArray.toList_mk l
theorem mkB_dl (l : List UInt8) : (mkB l).data.toList = l := by simp [mkB]
theorem mkB_data (s : ByteArray) : mkB s.data.toList = s := by simp [mkB]
theorem toList_data (s : ByteArray) : s.toList = s.data.toList := by
  rw [← mkB_data s, mkB_toList, mkB_dl]
theorem mkB_inj {a b : List UInt8} (h : mkB a = mkB b) : a = b := by
  have := congrArg ByteArray.toList h
  rwa [mkB_toList, mkB_toList] at this
theorem toList_inj {a b : ByteArray} (h : a.toList = b.toList) : a = b := by
  rw [← mkB_data a, ← mkB_data b, ← toList_data, ← toList_data, h]
theorem bt_get (l : List UInt8) (i : Nat) (h : i < l.length) : bt (mkB l) (i : Int) = ((l[i]'h).toNat : Int) := by
  unfold bt
  rw [dif_pos (by rw [mkB_size]; simpa using h)]
  simp [mkB, ByteArray.getElem_eq_getElem_data]
theorem bt_mid (a : List UInt8) (c : UInt8) (b : List UInt8) {l : List UInt8} (h : l = a ++ c :: b) : bt (mkB l) (a.length : Int) = (c.toNat : Int) := by
  subst h
  rw [bt_get _ a.length (by simp)]
  simp
theorem extract_is (l : List UInt8) (i j : Nat) : (mkB l).extract i j = mkB ((l.take j).drop i) := by
  rw [← mkB_data ((mkB l).extract i j), Lib.extract_data, mkB_dl, List.drop_take]
theorem extract_mid (a b c : List UInt8) {l : List UInt8} (h : l = a ++ (b ++ c)) {i j : Nat} (hi : i = a.length) (hj : j = a.length + b.length) : (mkB l).extract i j = mkB b := by
  subst h hi hj
  rw [extract_is, List.take_length_add_append, List.drop_left]
  simp
theorem extract_end (a b : List UInt8) {l : List UInt8} (h : l = a ++ b) {i j : Nat} (hi : i = a.length) (hj : j = l.length) : (mkB l).extract i j = mkB b := by
  have := extract_mid a b [] (l := l) (by simpa using h) hi (j := j) (by rw [hj, h]; simp)
  exact this
theorem str_mkB (ns : List Int) : strOfNums ns = mkB (ns.map fun n => (n.toNat).toUInt8) := by
  apply ByteArray.ext
  simp [strOfNums, mkB]
theorem wr (i n : Int) (h0 : 0 ≤ i + n) (h1 : i + n ≤ 9223372036854775807) : wrap64 (i + n) = i + n := by unfold wrap64; omega
theorem wrs (i n : Int) (h0 : 0 ≤ i - n) (h1 : i - n ≤ 9223372036854775807) : wrap64 (i - n) = i - n := by unfold wrap64; omega
theorem lt_of_len {a b l : List UInt8} (h : l = a ++ b) : (l.length : Int) = (a.length : Int) + (b.length : Int) := by
  subst h; simp
end Go.Proofs.YtdmccakncgdbhaaDoor.MB
namespace Go.Proofs.YtdmccakncgdbhaaDoor.ML
open Go

/-- The pieces of a row of bytes between single bytes c. -/
def splitL (c : UInt8) : List UInt8 → List (List UInt8)
  | [] => [[]]
  | x :: xs => if x = c then [] :: splitL c xs else
    match splitL c xs with
    | [] => [[x]]
    | p :: ps => (x :: p) :: ps
theorem splitL_ne (c : UInt8) (l : List UInt8) : splitL c l ≠ [] := by
  cases l with
  | nil => simp [splitL]
  | cons x xs =>
    unfold splitL
    split
    · simp
    · split <;> simp
theorem splitL_none {c : UInt8} : ∀ {l : List UInt8}, c ∉ l → splitL c l = [l]
  | [], _ => rfl
  | x :: xs, h => by
    have hx : x ≠ c := fun e => h (e ▸ List.mem_cons_self)
    have ih := splitL_none (l := xs) (fun e => h (List.mem_cons_of_mem _ e))
    simp [splitL, hx, ih]
theorem splitL_at {c : UInt8} (b : List UInt8) : ∀ {a : List UInt8}, c ∉ a → splitL c (a ++ c :: b) = a :: splitL c b
  | [], _ => by simp [splitL]
  | x :: xs, h => by
    have hx : x ≠ c := fun e => h (e ▸ List.mem_cons_self)
    have ih := splitL_at b (a := xs) (fun e => h (List.mem_cons_of_mem _ e))
    simp [splitL, hx, ih]
theorem join_cons2 (c : UInt8) (x y : List UInt8) (ps : List (List UInt8)) : Lib.join (x :: y :: ps) [c] = x ++ c :: Lib.join (y :: ps) [c] := by
  rw [Lib.join_cons, Lib.join_cons]
  simp [Lib.joinTail]
theorem splitL_join {c : UInt8} : ∀ (ps : List (List UInt8)) (x : List UInt8), (∀ p ∈ x :: ps, c ∉ p) → splitL c (Lib.join (x :: ps) [c]) = x :: ps
  | [], x, h => by rw [Lib.join_one]; exact splitL_none (h x (by simp))
  | y :: ps, x, h => by
    rw [join_cons2, splitL_at _ (h x (by simp)), splitL_join ps y (fun p hp => h p (List.mem_cons_of_mem _ hp))]
theorem join_cons_head (c x : UInt8) (p : List UInt8) (ps : List (List UInt8)) : Lib.join ((x :: p) :: ps) [c] = x :: Lib.join (p :: ps) [c] := by
  rw [Lib.join_cons, Lib.join_cons, List.cons_append]
theorem join_splitL (c : UInt8) : ∀ l, Lib.join (splitL c l) [c] = l
  | [] => by simp [splitL, Lib.join_one]
  | x :: xs => by
    have ih := join_splitL c xs
    unfold splitL
    split
    · rename_i e
      subst e
      cases hs : splitL x xs with
      | nil => exact absurd hs (splitL_ne _ _)
      | cons p ps => rw [hs] at ih; rw [join_cons2, ih]; rfl
    · cases hs : splitL c xs with
      | nil => exact absurd hs (splitL_ne _ _)
      | cons p ps => rw [hs] at ih; simp only; rw [join_cons_head, ih]
theorem splitL_mem {c : UInt8} : ∀ {l p : List UInt8}, p ∈ splitL c l → c ∉ p
  | [], p, h => by simp [splitL] at h; subst h; simp
  | x :: xs, p, h => by
    unfold splitL at h
    split at h
    · rcases List.mem_cons.1 h with rfl | h
      · simp
      · exact splitL_mem h
    · rename_i hx
      cases hs : splitL c xs with
      | nil => exact absurd hs (splitL_ne _ _)
      | cons q qs =>
        rw [hs] at h
        rcases List.mem_cons.1 h with rfl | h
        · have := splitL_mem (c := c) (l := xs) (p := q) (by rw [hs]; simp)
          simp only [List.mem_cons, not_or]
          exact ⟨fun e => hx e.symm, this⟩
        · exact splitL_mem (l := xs) (by rw [hs]; simp [h])
theorem splitL_sub {c : UInt8} : ∀ {l p : List UInt8} {b : UInt8}, p ∈ splitL c l → b ∈ p → b ∈ l
  | [], p, b, h, hb => by simp [splitL] at h; subst h; exact hb
  | x :: xs, p, b, h, hb => by
    unfold splitL at h
    split at h
    · rcases List.mem_cons.1 h with rfl | h
      · exact absurd hb (by simp)
      · exact List.mem_cons_of_mem _ (splitL_sub h hb)
    · cases hs : splitL c xs with
      | nil => exact absurd hs (splitL_ne _ _)
      | cons q qs =>
        rw [hs] at h
        rcases List.mem_cons.1 h with rfl | h
        · rcases List.mem_cons.1 hb with rfl | hb
          · exact List.mem_cons_self
          · exact List.mem_cons_of_mem _ (splitL_sub (l := xs) (p := q) (by rw [hs]; simp) hb)
        · exact List.mem_cons_of_mem _ (splitL_sub (l := xs) (by rw [hs]; simp [h]) hb)

/-! decimal digits -/
theorem digit_is (d : Nat) (h : d < 10) : Lib.digitVal (UInt8.ofNat (48 + d)) = some d := by
  have hn : (UInt8.ofNat (48 + d)).toNat = 48 + d := by simp only [UInt8.toNat_ofNat']; omega
  unfold Lib.digitVal
  rw [if_pos (by omega), hn]
  congr 1
  omega
theorem decFrom_append : ∀ (a b : List UInt8) (acc : Nat), Lib.decFrom acc (a ++ b) = (Lib.decFrom acc a).bind fun x => Lib.decFrom x b
  | [], b, acc => rfl
  | x :: a, b, acc => by
    simp only [List.cons_append, Lib.decFrom]
    cases Lib.digitVal x with
    | none => rfl
    | some d => exact decFrom_append a b _
theorem decFrom_digits (n : Nat) : Lib.decFrom 0 (Lib.decDigits n) = some n := by
  induction n using Nat.strongRecOn with
  | _ n ih =>
    unfold Lib.decDigits
    by_cases h : n < 10
    · rw [dif_pos h]
      simp only [Lib.decFrom, digit_is n h]
      simp
    · rw [dif_neg h, decFrom_append, ih (n / 10) (by omega)]
      simp only [Option.bind_some, Lib.decFrom, digit_is (n % 10) (by omega)]
      congr 1
      omega
theorem decDigits_ne (n : Nat) : Lib.decDigits n ≠ [] := by
  unfold Lib.decDigits
  split <;> simp
theorem decDigits_mem (n : Nat) : ∀ b ∈ Lib.decDigits n, 48 ≤ b.toNat ∧ b.toNat ≤ 57 := by
  induction n using Nat.strongRecOn with
  | _ n ih =>
    intro b hb
    unfold Lib.decDigits at hb
    have hn : ∀ d, d < 10 → (UInt8.ofNat (48 + d)).toNat = 48 + d := fun d hd => by simp only [UInt8.toNat_ofNat']; omega
    by_cases h : n < 10
    · rw [dif_pos h] at hb
      simp only [List.mem_singleton] at hb
      rw [hb, hn n h]
      omega
    · rw [dif_neg h] at hb
      rcases List.mem_append.1 hb with hb | hb
      · exact ih _ (by omega) b hb
      · simp only [List.mem_singleton] at hb
        rw [hb, hn (n % 10) (by omega)]
        omega
theorem decDigits_not (n : Nat) (c : UInt8) (hc : c.toNat < 48 ∨ 57 < c.toNat) : c ∉ Lib.decDigits n := fun h => by
  have := decDigits_mem n c h
  omega
theorem decNat_digits (n : Nat) : Lib.decNat (Lib.decDigits n) = some n := by
  unfold Lib.decNat
  have : (Lib.decDigits n).isEmpty = false := by
    cases h : Lib.decDigits n with
    | nil => exact absurd h (decDigits_ne n)
    | cons a b => rfl
  rw [this]
  exact decFrom_digits n
theorem atoi_digits (n : Nat) : Lib.atoi (Lib.decDigits n) = some (n : Int) := by
  cases h : Lib.decDigits n with
  | nil => exact absurd h (decDigits_ne n)
  | cons b r =>
    have hb := decDigits_mem n b (by rw [h]; simp)
    have e1 : (b == 45) = false := by
      apply beq_eq_false_iff_ne.2
      intro e; subst e; exact absurd hb.1 (by decide)
    have e2 : (b == 43) = false := by
      apply beq_eq_false_iff_ne.2
      intro e; subst e; exact absurd hb.1 (by decide)
    have e : Lib.atoi (b :: r) = (Lib.decNat (b :: r)).map fun (m : Nat) => (m : Int) := by
      show (if b == 45 then (Lib.decNat r).map fun (m : Nat) => -(m : Int) else if b == 43 then (Lib.decNat r).map fun (m : Nat) => (m : Int) else (Lib.decNat (b :: r)).map fun (m : Nat) => (m : Int)) = _
      rw [e1, e2]
      simp
    rw [e, ← h, decNat_digits]
    rfl
theorem decDigits_length (n : Nat) (k : Nat) (h : n < 10 ^ (k + 1)) : (Lib.decDigits n).length ≤ k + 1 := by
  induction k generalizing n with
  | zero =>
    unfold Lib.decDigits
    rw [dif_pos (by simpa using h)]
    simp
  | succ k ih =>
    unfold Lib.decDigits
    split
    · simp
    · rw [List.length_append]
      have := ih (n / 10) (by rw [Nat.pow_succ] at h; omega)
      simp only [List.length_singleton]
      omega

/-! octal escapes -/
def escd (c : UInt8) : Bool := c == 32 || c == 9 || c == 10 || c == 92
def oct1 (c : UInt8) : List UInt8 := if escd c then [92, UInt8.ofNat (48 + c.toNat / 64), UInt8.ofNat (48 + c.toNat / 8 % 8), UInt8.ofNat (48 + c.toNat % 8)] else [c]
def octL (l : List UInt8) : List UInt8 := l.flatMap oct1
theorem octL_cons (c : UInt8) (l : List UInt8) : octL (c :: l) = oct1 c ++ octL l := by simp [octL]
theorem octL_append (a b : List UInt8) : octL (a ++ b) = octL a ++ octL b := by simp [octL]
theorem octL_length (l : List UInt8) : (octL l).length ≤ 4 * l.length := by
  induction l with
  | nil => simp [octL]
  | cons c l ih =>
    rw [octL_cons, List.length_append, List.length_cons]
    have : (oct1 c).length ≤ 4 := by unfold oct1; split <;> simp
    omega
theorem octL_ge (l : List UInt8) : l.length ≤ (octL l).length := by
  induction l with
  | nil => simp [octL]
  | cons c l ih =>
    rw [octL_cons, List.length_append, List.length_cons]
    have : 1 ≤ (oct1 c).length := by unfold oct1; split <;> simp
    omega
theorem oct1_fin : ((List.range 256).all fun n => (oct1 (UInt8.ofNat n)).all fun b => !(b == 32 || b == 10 || b == 9)) = true := by decide +kernel
theorem octL_clean (l : List UInt8) : ∀ b ∈ octL l, b ≠ 32 ∧ b ≠ 10 ∧ b ≠ 9 := by
  intro b hb
  obtain ⟨c, hc, hb⟩ := List.mem_flatMap.1 hb
  have := List.all_eq_true.1 (List.all_eq_true.1 oct1_fin c.toNat (List.mem_range.2 c.toNat_lt)) b (by rw [UInt8.ofNat_toNat]; exact hb)
  simp only [Bool.not_eq_true', Bool.or_eq_false_iff, beq_eq_false_iff_ne] at this
  exact ⟨this.1.1, this.1.2, this.2⟩
theorem octL_plain (l : List UInt8) (h : ∀ b ∈ l, escd b = false) : octL l = l := by
  induction l with
  | nil => rfl
  | cons c l ih =>
    rw [octL_cons, ih (fun b hb => h b (List.mem_cons_of_mem _ hb))]
    unfold oct1
    rw [h c List.mem_cons_self]
    rfl
end Go.Proofs.YtdmccakncgdbhaaDoor.ML
namespace Go.Proofs.YtdmccakncgdbhaaDoor.ML
open Go.RowKit Go.Proofs.YtdmccakncgdbhaaDoor.GMA Go.Proofs.YtdmccakncgdbhaaDoorW.PrintWords Go.Proofs.YtdmccakncgdbhaaDoorW.PrintLast Go.Proofs.YtdmccakncgdbhaaDoor.MB
set_option linter.unusedVariables false
set_option linter.unusedSimpArgs false
/-- a byte in a text -/
theorem idx_none (c : UInt8) (l : List UInt8) (hl : l.length ≤ 1000000) : ∀ (b a : List UInt8), l = a ++ b → c ∉ b → Ev (fun k => mountinfo_zzIndex.l0 k (mkB l) (mkB [c]) (a.length : Int)) (-1)
  | [], a, h, hc => by
    have hz := lt_of_len h
    refine Ev.step (f := fun _ => some (-1)) (fun k => ?_) (Ev.now _)
    simp only [mountinfo_zzIndex.l0, mkB_size, List.length_singleton, List.length_nil] at hz ⊢
    rw [wr _ _ (by omega) (by omega), if_neg (by omega)]
  | x :: b, a, h, hc => by
    have hz := lt_of_len h
    have hx : ¬ ([x] : List UInt8) = [c] := fun e => hc (by simp at e; simp [e])
    have ih := idx_none c l hl b (a ++ [x]) (by rw [h]; simp) (fun e => hc (List.mem_cons_of_mem _ e))
    refine Ev.step (f := fun k => mountinfo_zzIndex.l0 k (mkB l) (mkB [c]) ((a ++ [x]).length : Int)) (fun k => ?_) ih
    have he : (mkB l).extract ((a.length : Int)).toNat ((a.length : Int) + 1).toNat = mkB [x] := extract_mid a [x] b (by simpa using h) (by simp) (by simp; try omega)
    simp only [mountinfo_zzIndex.l0, mkB_size, List.length_cons, List.length_nil, Nat.zero_add, Int.natCast_one, List.length_append, Int.natCast_add] at hz ⊢
    rw [wr _ _ (by omega) (by omega), if_pos (by omega), if_pos (by omega), if_pos (by omega), he, mkB_toList, mkB_toList, if_neg hx]
theorem idx_at (c : UInt8) (l : List UInt8) (hl : l.length ≤ 1000000) (r : List UInt8) : ∀ (b a : List UInt8), l = a ++ (b ++ c :: r) → c ∉ b → Ev (fun k => mountinfo_zzIndex.l0 k (mkB l) (mkB [c]) (a.length : Int)) (((a.length + b.length : Nat) : Int))
  | [], a, h, hc => by
    have hz := lt_of_len h
    refine Ev.step (f := fun _ => some (((a.length + 0 : Nat) : Int))) (fun k => ?_) (Ev.now _)
    have he : (mkB l).extract ((a.length : Int)).toNat ((a.length : Int) + 1).toNat = mkB [c] := extract_mid a [c] r (by simpa using h) (by simp) (by simp; try omega)
    simp only [mountinfo_zzIndex.l0, mkB_size, List.length_cons, List.length_nil, Nat.zero_add, List.nil_append, Int.natCast_one, List.length_append, Int.natCast_add] at hz ⊢
    rw [wr _ _ (by omega) (by omega), if_pos (by omega), if_pos (by omega), if_pos (by omega), he, if_pos rfl]
    simp
  | x :: b, a, h, hc => by
    have hz := lt_of_len h
    have hx : ¬ ([x] : List UInt8) = [c] := fun e => hc (by simp at e; simp [e])
    have ih := idx_at c l hl r b (a ++ [x]) (by rw [h]; simp) (fun e => hc (List.mem_cons_of_mem _ e))
    rw [show (a ++ [x]).length + b.length = a.length + (x :: b).length from by simp; omega] at ih
    refine Ev.step (f := fun k => mountinfo_zzIndex.l0 k (mkB l) (mkB [c]) ((a ++ [x]).length : Int)) (fun k => ?_) ih
    have he : (mkB l).extract ((a.length : Int)).toNat ((a.length : Int) + 1).toNat = mkB [x] := extract_mid a [x] (b ++ c :: r) (by simpa using h) (by simp) (by simp; try omega)
    simp only [mountinfo_zzIndex.l0, mkB_size, List.length_cons, List.length_nil, Nat.zero_add, Int.natCast_one, List.length_append, Int.natCast_add] at hz ⊢
    rw [wr _ _ (by omega) (by omega), if_pos (by omega), if_pos (by omega), if_pos (by omega), he, mkB_toList, mkB_toList, if_neg hx]
theorem index_none (c : UInt8) (l : List UInt8) (hl : l.length ≤ 1000000) (hc : c ∉ l) : Ev (fun k => mountinfo_zzIndex.f k (mkB l) (mkB [c])) (-1) :=
  idx_none c l hl l [] (by simp) hc
theorem index_at (c : UInt8) (a r : List UInt8) (hl : (a ++ c :: r).length ≤ 1000000) (hc : c ∉ a) : Ev (fun k => mountinfo_zzIndex.f k (mkB (a ++ c :: r)) (mkB [c])) (a.length : Int) := by
  have := idx_at c (a ++ c :: r) hl r a [] (by simp) hc
  simpa [mountinfo_zzIndex.f] using this
theorem cut_at (c : UInt8) (a r : List UInt8) (hl : (a ++ c :: r).length ≤ 1000000) (hc : c ∉ a) : Ev (fun k => mountinfo_zzCut.f k (mkB (a ++ c :: r)) (mkB [c])) (mkB a, mkB r, true) := by
  have hz : (a ++ c :: r).length = a.length + r.length + 1 := by simp; omega
  refine Ev.bind (f := fun _ (t108 : Int) => if t108 ≥ 0 then _ else _) (index_at c a r hl hc) ?_
  refine Ev.congr (f := fun _ => some (mkB a, mkB r, true)) (fun k => ?_) (Ev.now _)
  have e1 : (mkB (a ++ c :: r)).extract 0 ((a.length : Int)).toNat = mkB a := extract_mid [] a (c :: r) (by simp) rfl (by simp)
  have e2 : (mkB (a ++ c :: r)).extract ((a.length : Int) + 1).toNat (a ++ c :: r).length = mkB r := extract_end (a ++ [c]) r (by simp) (by simp; try omega) rfl
  simp only [mkB_size, List.length_singleton, Int.natCast_one]
  rw [wr _ _ (by omega) (by omega), if_pos (by omega), if_pos (by omega), if_pos (by omega), if_pos (by omega), if_pos (by omega), e1, e2]
/-- pieces between single bytes -/
theorem split_go (c : UInt8) (n : Nat) : ∀ (l : List UInt8) (out : List ByteArray), l.length ≤ n → l.length + out.length ≤ 1000000 → Ev (fun k => mountinfo_zzSplit.l1 k (mkB l) (mkB [c]) out) (out ++ (splitL c l).map mkB) := by
  induction n with
  | zero =>
    intro l out h0 h1
    have hnil : l = [] := List.length_eq_zero_iff.1 (by omega)
    subst hnil
    refine Ev.step (f := fun k => (mountinfo_zzIndex.f k (mkB []) (mkB [c])).bind fun t101 => _) (fun k => by rw [mountinfo_zzSplit.l1]) ?_
    refine Ev.bind (f := fun k (t101 : Int) => if t101 < 0 then _ else _) (index_none c [] (by simp) (by simp)) ?_
    refine Ev.congr (f := fun _ => some (out ++ [mkB []])) (fun k => ?_) (Ev.now _)
    rw [if_pos (by omega), if_pos (by omega)]
  | succ n ih =>
    intro l out h0 h1
    refine Ev.step (f := fun k => (mountinfo_zzIndex.f k (mkB l) (mkB [c])).bind fun t101 => _) (fun k => by rw [mountinfo_zzSplit.l1]) ?_
    by_cases hc : c ∈ l
    · obtain ⟨a, r, rfl, ha⟩ := List.eq_append_cons_of_mem hc
      have hz : (a ++ c :: r).length = a.length + r.length + 1 := by simp; omega
      have h2 := ih r (out ++ [mkB a]) (by omega) (by simp; try omega)
      rw [splitL_at r ha]
      refine Ev.bind (f := fun k (t101 : Int) => if t101 < 0 then _ else _) (index_at c a r (by omega) ha) ?_
      refine Ev.congr (f := fun k => mountinfo_zzSplit.l1 k (mkB r) (mkB [c]) (out ++ [mkB a])) (fun k => ?_) (by simpa using h2)
      have e1 : (mkB (a ++ c :: r)).extract 0 ((a.length : Int)).toNat = mkB a := extract_mid [] a (c :: r) (by simp) rfl (by simp)
      have e2 : (mkB (a ++ c :: r)).extract ((a.length : Int) + 1).toNat (a ++ c :: r).length = mkB r := extract_end (a ++ [c]) r (by simp) (by simp; try omega) rfl
      simp only [mkB_size, List.length_singleton, Int.natCast_one]
      rw [wr _ _ (by omega) (by omega), if_neg (by omega), if_pos (by omega), if_pos (by omega), if_pos (by omega), if_pos (by omega), if_pos (by omega), e1, e2]
    · rw [splitL_none hc]
      refine Ev.bind (f := fun k (t101 : Int) => if t101 < 0 then _ else _) (index_none c l (by omega) hc) ?_
      refine Ev.congr (f := fun _ => some (out ++ [mkB l])) (fun k => ?_) (Ev.now _)
      rw [if_pos (by omega), if_pos (by omega)]
theorem split_is (c : UInt8) (l : List UInt8) (hl : l.length ≤ 1000000) : Ev (fun k => mountinfo_zzSplit.f k (mkB l) (mkB [c])) ((splitL c l).map mkB) := by
  have := split_go c l.length l [] (Nat.le_refl _) (by simpa using hl)
  refine Ev.congr (fun k => ?_) (by simpa using this)
  unfold mountinfo_zzSplit.f
  rw [mkB_size, if_neg (by simp)]
theorem toInt_is (n : Nat) (h : n ≤ 2147483647) : mountinfo_toInt.f (mkB (Lib.decDigits n)) = some (n : Int) := by
  have hl := decDigits_length n 9 (by omega)
  unfold mountinfo_toInt.f strconv_Atoi.f
  rw [mkB_size, if_pos (by omega), mkB_dl, atoi_digits]
  rfl
end Go.Proofs.YtdmccakncgdbhaaDoor.ML
namespace Go.Proofs.YtdmccakncgdbhaaDoor.ML
open Go.RowKit Go.Proofs.YtdmccakncgdbhaaDoor.GMA Go.Proofs.YtdmccakncgdbhaaDoorW.PrintWords Go.Proofs.YtdmccakncgdbhaaDoorW.PrintLast Go.Proofs.YtdmccakncgdbhaaDoor.MB
set_option linter.unusedVariables false
set_option linter.unusedSimpArgs false
theorem take_set_succ {α : Type} : ∀ (xs : List α) (j : Nat) (v : α), j < xs.length → (xs.set j v).take (j + 1) = xs.take j ++ [v]
  | [], j, v, h => absurd h (Nat.not_lt_zero _)
  | x :: xs, 0, v, h => by simp
  | x :: xs, j + 1, v, h => by
    have := take_set_succ xs j v (by simpa using h)
    simp [this]
def nums (l : List UInt8) : List Int := l.map fun c => (c.toNat : Int)
theorem nums_str (l : List UInt8) : strOfNums (nums l) = mkB l := by
  rw [str_mkB, nums, List.map_map]
  congr 1
  conv => rhs; rw [← List.map_id l]
  apply List.map_congr_left
  intro c _
  simp
theorem nums_snoc (l : List UInt8) (c : UInt8) : nums (l ++ [c]) = nums l ++ [(c.toNat : Int)] := by simp [nums]
set_option maxHeartbeats 1000000 in
theorem unesc_go (l : List UInt8) (hl : l.length ≤ 1000000) : ∀ (r a out : List UInt8) (xs : List Int), l = a ++ octL r → xs.length = l.length → out.length ≤ a.length → xs.take out.length = nums out →
    Ev (fun k => mountinfo_unescape.l0 k (mkB l) xs (out.length : Int) (a.length : Int)) (mkB (out ++ r))
  | [], a, out, xs, h, hx, ho, ht => by
    have hz := lt_of_len h
    refine Ev.step (f := fun _ => some (mkB out)) (fun k => ?_) (by simpa using Ev.now _)
    simp only [mountinfo_unescape.l0, mkB_size, octL, List.flatMap_nil, List.length_nil] at hz ⊢
    rw [if_neg (by omega), if_pos (by omega), if_pos (by omega), Int.toNat_natCast, ht, nums_str]
  | c :: r, a, out, xs, h, hx, ho, ht => by
    have hz := lt_of_len h
    rw [octL_cons] at h hz
    by_cases e : escd c = true
    · have e1 : oct1 c = [92, UInt8.ofNat (48 + c.toNat / 64), UInt8.ofNat (48 + c.toNat / 8 % 8), UInt8.ofNat (48 + c.toNat % 8)] := by unfold oct1; rw [if_pos e]
      obtain ⟨d1, d2, d3, hd, hp⟩ : ∃ d1 d2 d3 : UInt8, oct1 c = [92, d1, d2, d3] ∧ ((d1.toNat = 48 ∨ d1.toNat = 49) ∧ (48 ≤ d2.toNat ∧ d2.toNat ≤ 55) ∧ (48 ≤ d3.toNat ∧ d3.toNat ≤ 55) ∧
          Aside0 (Go.bits .or .u8 (Go.bits .or .u8 (((((d1.toNat : Int)) - 48) % 256 * 64) % 256) (((((d2.toNat : Int)) - 48) % 256 * 8) % 256)) (((d3.toNat : Int) - 48) % 256) = (c.toNat : Int))) := by
        refine ⟨_, _, _, e1, ?_⟩
        unfold escd at e
        simp only [Bool.or_eq_true, beq_iff_eq] at e
        rcases e with ((e | e) | e) | e <;> (subst e; exact ⟨by decide +kernel, by decide +kernel, by decide +kernel, ⟨by decide +kernel⟩⟩)
      obtain ⟨p1, p2, p3, p4⟩ := hp
      rw [hd] at h hz
      have b0 := bt_mid a 92 (d1 :: d2 :: d3 :: octL r) (l := l) (by rw [h]; simp)
      have b1 := bt_mid (a ++ [92]) d1 (d2 :: d3 :: octL r) (l := l) (by rw [h]; simp)
      have b2 := bt_mid (a ++ [92, d1]) d2 (d3 :: octL r) (l := l) (by rw [h]; simp)
      have b3 := bt_mid (a ++ [92, d1, d2]) d3 (octL r) (l := l) (by rw [h]; simp)
      have ih := unesc_go l hl r (a ++ [92, d1, d2, d3]) (out ++ [c]) (xs.set out.length (c.toNat : Int)) (by rw [h]; simp) (by simp [hx]) (by simp; omega) (by
        rw [List.length_append, List.length_singleton, take_set_succ _ _ _ (by rw [hx]; simp at hz; omega), ht, nums_snoc])
      rw [List.append_assoc, List.singleton_append] at ih
      refine Ev.step (f := fun k => mountinfo_unescape.l0 k (mkB l) (xs.set out.length (c.toNat : Int)) ((out ++ [c]).length : Int) ((a ++ [92, d1, d2, d3]).length : Int)) (fun k => ?_) ih
      simp only [List.length_append, List.length_cons, List.length_nil, Nat.zero_add, Int.natCast_add, Int.natCast_one, Nat.reduceAdd, Int.cast_ofNat_Int] at hz b0 b1 b2 b3 ⊢
      have B0 := Aside0.mk b0
      have B1 := Aside0.mk b1
      have B2 := Aside0.mk b2
      have B3 := Aside0.mk b3
      clear b0 b1 b2 b3
      have w1 := Aside0.mk (wr (a.length : Int) 1 (by omega) (by omega))
      have w2 := Aside0.mk (wr (a.length : Int) 2 (by omega) (by omega))
      have w3 := Aside0.mk (wr (a.length : Int) 3 (by omega) (by omega))
      have w4 := Aside0.mk (wr ((a.length : Int) + 3) 1 (by omega) (by omega))
      have w5 := Aside0.mk (wr (out.length : Int) 1 (by omega) (by omega))
      simp only [mountinfo_unescape.l0]
      have c0 : (a.length : Int) < ((mkB l).size : Int) := by rw [mkB_size]; omega
      have c1 : (a.length : Int) + 1 < ((mkB l).size : Int) := by rw [mkB_size]; omega
      have c2 : (a.length : Int) + 2 < ((mkB l).size : Int) := by rw [mkB_size]; omega
      have c3 : (a.length : Int) + 3 < ((mkB l).size : Int) := by rw [mkB_size]; omega
      rw [if_pos c0, if_pos (by omega), B0.out, if_pos (show ((UInt8.toNat 92 : Nat) : Int) = 92 from rfl), w3.out, if_pos c3, w1.out, if_pos (by omega), if_pos c1, B1.out]
      have tl : ∀ A B : Option ByteArray, (if 0 ≤ (out.length : Int) then (if (out.length : Int) < (xs.length : Int) then A else none) else none) = A := fun A B => by rw [if_pos (by omega), if_pos (by omega)]
      rcases p1 with p1 | p1
      · rw [if_pos (by omega), w2.out, if_pos (by omega), if_pos c2, B2.out, if_pos (by omega), if_pos (by omega), if_pos (by omega), B3.out, if_pos (by omega), if_pos (by omega), tl _ none, p4.out, w5.out, w4.out, Int.toNat_natCast]
        rfl
      · rw [if_neg (by omega), if_pos (by omega), w2.out, if_pos (by omega), if_pos c2, B2.out, if_pos (by omega), if_pos (by omega), if_pos (by omega), B3.out, if_pos (by omega), if_pos (by omega), tl _ none, p4.out, w5.out, w4.out, Int.toNat_natCast]
        rfl
    · have e1 : oct1 c = [c] := by unfold oct1; rw [if_neg e]
      have n92 : c ≠ 92 := fun h => e (by subst h; decide)
      rw [e1] at h hz
      have b0 := bt_mid a c (octL r) (l := l) (by rw [h]; simp)
      have ih := unesc_go l hl r (a ++ [c]) (out ++ [c]) (xs.set out.length (c.toNat : Int)) (by rw [h]; simp) (by simp [hx]) (by simp; omega) (by
        rw [List.length_append, List.length_singleton, take_set_succ _ _ _ (by rw [hx]; simp at hz; omega), ht, nums_snoc])
      rw [List.append_assoc, List.singleton_append] at ih
      refine Ev.step (f := fun k => mountinfo_unescape.l0 k (mkB l) (xs.set out.length (c.toNat : Int)) ((out ++ [c]).length : Int) ((a ++ [c]).length : Int)) (fun k => ?_) ih
      simp only [List.length_append, List.length_cons, List.length_nil, Nat.zero_add, Int.natCast_add, Int.natCast_one] at hz b0 ⊢
      have w1 := Aside0.mk (wr (a.length : Int) 1 (by omega) (by omega))
      have w5 := Aside0.mk (wr (out.length : Int) 1 (by omega) (by omega))
      simp only [mountinfo_unescape.l0]
      rw [if_pos (by rw [mkB_size]; omega), if_pos (by omega), b0, if_neg (fun h => n92 (UInt8.toNat_inj.1 (by have : (92 : UInt8).toNat = 92 := rfl; omega))), if_pos (by omega), if_pos (by omega), w1.out, w5.out, Int.toNat_natCast]
theorem index_no : ∀ {l : List UInt8} {c : UInt8}, c ∉ l → Lib.indexByte l c = -1
  | [], c, _ => rfl
  | x :: l, c, h => by
    have ih := index_no (l := l) (c := c) (fun e => h (List.mem_cons_of_mem _ e))
    have hx : x ≠ c := fun e => h (by simp [e])
    unfold Lib.indexByte
    simp [hx, ih]
theorem unesc_is (s : List UInt8) (hl : (octL s).length ≤ 1000000) : Ev (fun k => mountinfo_unescape.f k (mkB (octL s))) (mkB s) := by
  unfold mountinfo_unescape.f
  simp only [strings_IndexByte.f, Option.bind_some, mkB_dl]
  by_cases h92 : (92 : UInt8) ∈ octL s
  · have hi : ¬ Lib.indexByte (octL s) ((92 : Int).toNat.toUInt8) = -1 := fun hi => by
      obtain ⟨k, hk, e⟩ := List.getElem_of_mem h92
      exact Lib.indexByte_none hi k (by rw [List.getElem?_eq_getElem hk, e]; rfl)
    simp only [if_neg hi, mkB_size, Int.toNat_natCast]
    simp only [if_pos (show (0 : Int) ≤ ((octL s).length : Int) by omega), if_pos (show (octL s).length ≤ 281474976710656 by omega)]
    have := unesc_go (octL s) hl s [] [] (List.replicate (octL s).length 0) (by simp) (by simp) (by simp) (by simp [nums])
    simpa using this
  · have e : octL s = s := octL_plain s (fun b hb => by
      cases he : escd b with
      | false => rfl
      | true =>
        exact absurd (List.mem_flatMap.2 ⟨b, hb, by unfold oct1; rw [if_pos he]; simp⟩) h92)
    have hi : Lib.indexByte (octL s) ((92 : Int).toNat.toUInt8) = -1 := index_no h92
    simp only [if_pos hi]
    rw [e]
    exact Ev.now _
end Go.Proofs.YtdmccakncgdbhaaDoor.ML
namespace Go.Proofs.YtdmccakncgdbhaaDoor.ML
open Go.RowKit Go.Proofs.YtdmccakncgdbhaaDoor.GMA Go.Proofs.YtdmccakncgdbhaaDoorW.PrintWords Go.Proofs.YtdmccakncgdbhaaDoorW.PrintLast Go.Proofs.YtdmccakncgdbhaaDoor.MB
set_option linter.unusedVariables false
set_option linter.unusedSimpArgs false
theorem natural_is (n : Nat) (h : n ≤ 2147483647) : Ev (fun k => spec_natural.f k (n : Int)) (mkB (Lib.decDigits n)) := by
  induction n using Nat.strongRecOn with
  | _ n ih =>
    have hd : Int.tdiv (n : Int) 10 = ((n / 10 : Nat) : Int) := by rw [Int.tdiv_eq_ediv_of_nonneg (by omega)]; omega
    have hm : Int.tmod (n : Int) 10 = ((n % 10 : Nat) : Int) := by rw [Int.tmod_eq_emod_of_nonneg (by omega)]; omega
    unfold Lib.decDigits
    by_cases h1 : n < 10
    · rw [dif_pos h1]
      refine Ev.step (f := fun _ => some (mkB [UInt8.ofNat (48 + n)])) (fun k => ?_) (Ev.now _)
      simp only [spec_natural.f]
      rw [if_pos (by omega), wr _ _ (by omega) (by omega), str_mkB]
      simp only [List.map_cons, List.map_nil]
      rw [show ((48 + (n : Int)) % 256).toNat = 48 + n from by omega]
    · rw [dif_neg h1]
      have hl := decDigits_length (n / 10) 9 (by omega)
      have e : strOfNums [(48 + ((n % 10 : Nat) : Int)) % 256] = mkB [UInt8.ofNat (48 + n % 10)] := by
        rw [str_mkB]
        simp only [List.map_cons, List.map_nil]
        rw [show ((48 + ((n % 10 : Nat) : Int)) % 256).toNat = 48 + n % 10 from by omega]
      refine Ev.step (f := fun k => (spec_natural.f k ((n / 10 : Nat) : Int)).bind fun t162 => if t162.size + 1 ≤ 9223372036854775807 then some (t162 ++ mkB [UInt8.ofNat (48 + n % 10)]) else none) (fun k => ?_) (Ev.bind (f := fun _ t162 => if t162.size + 1 ≤ 9223372036854775807 then some (t162 ++ mkB [UInt8.ofNat (48 + n % 10)]) else none) (ih (n / 10) (by omega) (by omega)) ?_)
      · simp only [spec_natural.f]
        rw [if_neg (by omega), hd, hm, wr _ _ (by omega) (by omega), show wrap64 ((n / 10 : Nat) : Int) = ((n / 10 : Nat) : Int) from by unfold wrap64; omega]
        simp only [Option.bind_some, e, mkB_size, List.length_singleton]
      · refine Ev.congr (f := fun _ => some _) (fun k => ?_) (Ev.now _)
        rw [mkB_size, if_pos (by omega), mkB_append]
theorem oct_key : ∀ n : Nat, (n = 32 ∨ n = 9 ∨ n = 10 ∨ n = 92) → strOfNums [(48 + ((n : Int) / 64)) % 256, (48 + (Go.bits .and .u8 ((n : Int) / 8) 7)) % 256, (48 + (Go.bits .and .u8 (n : Int) 7)) % 256] = mkB [UInt8.ofNat (48 + n / 64), UInt8.ofNat (48 + n / 8 % 8), UInt8.ofNat (48 + n % 8)] := by
  rintro n (rfl | rfl | rfl | rfl) <;> decide +kernel
theorem octal_go (l : List UInt8) (hl : l.length ≤ 2147483647) : ∀ (r a out : List UInt8), l = a ++ r → out.length ≤ 4 * a.length →
    Ev (fun k => spec_octal.l0 k (mkB l) (mkB out) (l.length : Int) (a.length : Int)) (mkB (out ++ octL r))
  | [], a, out, h, ho => by
    have hz := lt_of_len h
    refine Ev.step (f := fun _ => some (mkB out)) (fun k => ?_) (by simpa [octL] using Ev.now _)
    simp only [spec_octal.l0, List.length_nil] at hz ⊢
    rw [if_neg (by omega)]
  | c :: r, a, out, h, ho => by
    have hz := lt_of_len h
    have hc := c.toNat_lt
    have ih := octal_go l hl r (a ++ [c]) (out ++ oct1 c) (by rw [h]; simp) (by
      have : (oct1 c).length ≤ 4 := by unfold oct1; split <;> simp
      simp only [List.length_append, List.length_singleton]; omega)
    rw [octL_cons, ← List.append_assoc]
    have hb := bt_mid a c r h
    have he : (mkB l).extract ((a.length : Int)).toNat ((a.length : Int) + 1).toNat = mkB [c] := extract_mid a [c] r (by simpa using h) (by simp) (by simp; try omega)
    refine Ev.step (f := fun k => spec_octal.l0 k (mkB l) (mkB (out ++ oct1 c)) (l.length : Int) ((a ++ [c]).length : Int)) (fun k => ?_) ih
    simp only [List.length_cons, List.length_append, List.length_nil, Nat.zero_add, Int.natCast_add, Int.natCast_one] at hz ⊢
    have hbr : (c.toNat = 32 ∨ c.toNat = 9 ∨ c.toNat = 10 ∨ c.toNat = 92) → ((some (([(48 + ((c.toNat : Int) / 64)) % 256, (48 + (Go.bits .and .u8 ((c.toNat : Int) / 8) 7)) % 256, (48 + (Go.bits .and .u8 (c.toNat : Int) 7)) % 256] : List Int) : List Int)).bind fun y166 => (if 1 + (strOfNums y166).size ≤ 9223372036854775807 then (if (mkB out).size + ((⟨#[92]⟩ : ByteArray) ++ (strOfNums y166)).size ≤ 9223372036854775807 then (spec_octal.l0 k (mkB l) (mkB out ++ ((⟨#[92]⟩ : ByteArray) ++ (strOfNums y166))) (l.length : Int) ((a.length : Int) + 1)) else (none)) else (none))) =
        spec_octal.l0 k (mkB l) (mkB (out ++ oct1 c)) (l.length : Int) ((a.length : Int) + 1) := by
      intro hcc
      have e1 : oct1 c = 92 :: [UInt8.ofNat (48 + c.toNat / 64), UInt8.ofNat (48 + c.toNat / 8 % 8), UInt8.ofNat (48 + c.toNat % 8)] := by
        unfold oct1
        rw [if_pos]
        unfold escd
        have q : ∀ d : UInt8, c.toNat = d.toNat → c = d := fun d h => UInt8.toNat_inj.1 h
        rcases hcc with h | h | h | h
        · rw [q 32 h]; decide
        · rw [q 9 h]; decide
        · rw [q 10 h]; decide
        · rw [q 92 h]; decide
      simp only [Option.bind_some]
      rw [oct_key c.toNat hcc, show (⟨#[92]⟩ : ByteArray) = mkB [92] from rfl, mkB_append, mkB_append, e1]
      simp only [mkB_size, List.length_cons, List.length_append, List.length_nil]
      rw [if_pos (by omega), if_pos (by omega)]
      rfl
    simp only [spec_octal.l0]
    rw [if_pos (by omega), if_pos (by omega), if_pos (by rw [mkB_size]; omega), hb, wr _ _ (by omega) (by omega), he]
    by_cases h32 : (c.toNat : Int) = 32
    · rw [if_pos h32, hbr (by omega)]
    · rw [if_neg h32]
      by_cases h9 : (c.toNat : Int) = 9
      · rw [if_pos h9, hbr (by omega)]
      · rw [if_neg h9]
        by_cases h10 : (c.toNat : Int) = 10
        · rw [if_pos h10, hbr (by omega)]
        · rw [if_neg h10]
          by_cases h92 : (c.toNat : Int) = 92
          · rw [if_pos h92, hbr (by omega)]
          · rw [if_neg h92]
            have e1 : oct1 c = [c] := by
              unfold oct1
              rw [if_neg]
              unfold escd
              simp only [Bool.or_eq_true, beq_iff_eq]
              rintro (((e | e) | e) | e) <;> (subst e; revert h32 h9 h10 h92; decide)
            simp only [mkB_size, List.length_singleton]
            rw [if_pos (by omega), if_pos (by omega), if_pos (by omega), e1, mkB_append]
theorem octal_is (l : List UInt8) (hl : l.length ≤ 2147483647) : Ev (fun k => spec_octal.f k (mkB l)) (mkB (octL l)) := by
  have := octal_go l hl l [] [] (by simp) (by simp)
  rw [List.nil_append] at this
  refine Ev.congr (fun k => ?_) this
  unfold spec_octal.f
  rw [mkB_size]
  rfl
/-! which texts are printable -/
def okc (w : Bool) (c : UInt8) : Bool := (decide (32 < c.toNat) && decide (c.toNat < 127)) || (w && (c == 32 || c == 9 || c == 10))
theorem printable_go (w : Bool) (l : List UInt8) (hl : l.length ≤ 2147483647) : ∀ (r a : List UInt8), l = a ++ r →
    Ev (fun k => spec_printable.l0 k (mkB l) w (l.length : Int) (a.length : Int)) (r.all (okc w))
  | [], a, h => by
    have hz := lt_of_len h
    refine Ev.step (f := fun _ => some true) (fun k => ?_) (Ev.now _)
    simp only [spec_printable.l0, List.length_nil] at hz ⊢
    rw [if_neg (by omega)]
  | c :: r, a, h => by
    have hz := lt_of_len h
    have ih := printable_go w l hl r (a ++ [c]) (by rw [h]; simp)
    have hb := bt_mid a c r h
    have q : ∀ d : UInt8, (c.toNat : Int) = (d.toNat : Int) ↔ c = d := fun d => ⟨fun h => UInt8.toNat_inj.1 (by omega), fun h => by rw [h]⟩
    have q32 := q 32
    have q9 := q 9
    have q10 := q 10
    rw [List.all_cons]
    refine Ev.step (f := fun k => if okc w c = true then spec_printable.l0 k (mkB l) w (l.length : Int) ((a ++ [c]).length : Int) else some false) (fun k => ?_) ?_
    · simp only [List.length_cons, List.length_append, List.length_nil, Nat.zero_add, Int.natCast_add, Int.natCast_one] at hz ⊢
      simp only [spec_printable.l0]
      rw [if_pos (by omega), if_pos (by omega), if_pos (by rw [mkB_size]; omega), hb, wr _ _ (by omega) (by omega)]
      have e32 : ((c.toNat : Int) = 32) = (c = 32) := propext q32
      have e9 : ((c.toNat : Int) = 9) = (c = 9) := propext q9
      have e10 : ((c.toNat : Int) = 10) = (c = 10) := propext q10
      have g1 : ((c.toNat : Int) > 32) = (32 < c.toNat) := propext ⟨fun h => by omega, fun h => by omega⟩
      have g2 : ((c.toNat : Int) < 127) = (c.toNat < 127) := propext ⟨fun h => by omega, fun h => by omega⟩
      simp only [e32, e9, e10, g1, g2, okc]
      cases w <;> by_cases a1 : 32 < c.toNat <;> by_cases a2 : c.toNat < 127 <;> by_cases a3 : c = 32 <;> by_cases a4 : c = 9 <;> by_cases a5 : c = 10 <;> simp [a1, a2, a3, a4, a5]
    · by_cases ho : okc w c = true
      · simp only [ho, if_true, Bool.true_and]
        exact ih
      · simp only [ho, if_false, Bool.false_and, Bool.not_eq_true] at ho ⊢
        simp only [ho, Bool.false_eq_true, if_false, Bool.false_and]
        exact Ev.now _
theorem printable_is (w : Bool) (l : List UInt8) (hl : l.length ≤ 2147483647) : Ev (fun k => spec_printable.f k (mkB l) w) (l.all (okc w)) := by
  have := printable_go w l hl l [] (by simp)
  simpa [spec_printable.f, mkB_size] using this
def wordB (l : List UInt8) : Bool := l.all (fun c => c != 92) && (!l.isEmpty && l.all (okc false))
theorem word_go (l : List UInt8) (hl : l.length ≤ 2147483647) : ∀ (r a : List UInt8), l = a ++ r →
    Ev (fun k => spec_word.l0 k (mkB l) (l.length : Int) (a.length : Int)) (r.all (fun c => c != 92) && (!l.isEmpty && l.all (okc false)))
  | [], a, h => by
    have hz := lt_of_len h
    refine Ev.step (f := fun k => if (mkB l).toList = ([] : List UInt8) then some false else (spec_printable.f k (mkB l) false).bind fun t => some t) (fun k => ?_) ?_
    · simp only [spec_word.l0, List.length_nil] at hz ⊢
      rw [if_neg (by omega)]
    · simp only [mkB_toList, List.all_nil, Bool.true_and]
      by_cases e : l = []
      · simp only [e, if_true, List.isEmpty_nil, Bool.not_true, Bool.false_and]
        exact Ev.now _
      · simp only [e, if_false]
        have : l.isEmpty = false := by cases l with | nil => exact absurd rfl e | cons => rfl
        rw [this]
        simp only [Bool.not_false, Bool.true_and]
        exact Ev.bind (f := fun _ t => some t) (printable_is false l hl) (Ev.now _)
  | c :: r, a, h => by
    have hz := lt_of_len h
    have ih := word_go l hl r (a ++ [c]) (by rw [h]; simp)
    have hb := bt_mid a c r h
    rw [List.all_cons]
    refine Ev.step (f := fun k => if c = 92 then some false else spec_word.l0 k (mkB l) (l.length : Int) ((a ++ [c]).length : Int)) (fun k => ?_) ?_
    · simp only [List.length_cons, List.length_append, List.length_nil, Nat.zero_add, Int.natCast_add, Int.natCast_one] at hz ⊢
      simp only [spec_word.l0]
      rw [if_pos (by omega), if_pos (by omega), if_pos (by rw [mkB_size]; omega), hb, wr _ _ (by omega) (by omega)]
      by_cases e : c = 92
      · subst e; rw [if_pos (show ((UInt8.toNat 92 : Nat) : Int) = 92 from rfl), if_pos rfl]
      · rw [if_neg e, if_neg (fun h => e (UInt8.toNat_inj.1 (by have : (92 : UInt8).toNat = 92 := rfl; omega)))]
    · by_cases e : c = 92
      · simp only [e, if_true]
        exact Ev.now _
      · simp only [e, if_false]
        have : (c != 92) = true := by simp [e]
        rw [this, Bool.true_and]
        exact ih
theorem word_is (l : List UInt8) (hl : l.length ≤ 2147483647) : Ev (fun k => spec_word.f k (mkB l)) (wordB l) := by
  have := word_go l hl l [] (by simp)
  simpa [spec_word.f, mkB_size, wordB] using this
theorem fields_go (l : List UInt8) (hl : l.length ≤ 2147483647) : ∀ (r b a : List UInt8) (out : List ByteArray), l = a ++ (b ++ r) → (32 : UInt8) ∉ b → out.length ≤ a.length →
    Ev (fun k => spec_fields.l0 k (mkB l) out (a.length : Int) (l.length : Int) ((a.length + b.length : Nat) : Int)) (out ++ (splitL 32 (b ++ r)).map mkB)
  | [], b, a, out, h, hb, ho => by
    have hz := lt_of_len h
    refine Ev.step (f := fun _ => some (out ++ [mkB b])) (fun k => ?_) (by rw [List.append_nil, splitL_none hb]; exact Ev.now _)
    have he : (mkB l).extract ((a.length : Int)).toNat l.length = mkB b := extract_end a b (by simpa using h) (by simp) rfl
    simp only [spec_fields.l0, List.length_append, List.length_nil, Int.natCast_add] at hz ⊢
    rw [if_neg (by omega), if_pos (by omega), if_pos (by rw [mkB_size]; omega), if_pos (by omega), mkB_size, he]
  | c :: r, b, a, out, h, hb, ho => by
    have hz := lt_of_len h
    have hb1 := bt_mid (a ++ b) c r (l := l) (by rw [h]; simp)
    rw [List.length_append] at hb1
    have he : (mkB l).extract ((a.length : Int)).toNat (((a.length + b.length : Nat) : Int)).toNat = mkB b := extract_mid a b (c :: r) h (by simp) (Int.toNat_natCast _)
    by_cases e : c = 32
    · subst e
      rw [splitL_at r hb]
      have ih := fields_go l hl r [] (a ++ b ++ [32]) (out ++ [mkB b]) (by rw [h]; simp) (by simp) (by simp; omega)
      simp only [List.length_nil, Nat.add_zero, List.nil_append, List.map_cons] at ih ⊢
      refine Ev.step (f := fun k => spec_fields.l0 k (mkB l) (out ++ [mkB b]) (((a ++ b ++ [32]).length : Nat) : Int) (l.length : Int) (((a ++ b ++ [32]).length : Nat) : Int)) (fun k => ?_) (by simpa using ih)
      simp only [List.length_cons, List.length_append, List.length_nil, Nat.zero_add, Int.natCast_add, Int.natCast_one] at hz hb1 he ⊢
      simp only [spec_fields.l0]
      rw [if_pos (by omega), if_pos (by omega), if_pos (by rw [mkB_size]; omega), hb1, if_pos (show ((UInt8.toNat 32 : Nat) : Int) = 32 from rfl), if_pos (by omega), if_pos (by omega), if_pos (by rw [mkB_size]; omega), if_pos (by omega), he, wr _ _ (by omega) (by omega)]
    · have ih := fields_go l hl r (b ++ [c]) a out (by rw [h]; simp) (by simp [hb, Ne.symm e]) ho
      rw [List.append_assoc, List.singleton_append] at ih
      refine Ev.step (f := fun k => spec_fields.l0 k (mkB l) out (a.length : Int) (l.length : Int) ((a.length + (b ++ [c]).length : Nat) : Int)) (fun k => ?_) ih
      simp only [List.length_cons, List.length_append, List.length_nil, Nat.zero_add, Int.natCast_add, Int.natCast_one] at hz hb1 he ⊢
      simp only [spec_fields.l0]
      rw [if_pos (by omega), if_pos (by omega), if_pos (by rw [mkB_size]; omega), hb1, if_neg (fun h => e (UInt8.toNat_inj.1 (by have : (32 : UInt8).toNat = 32 := rfl; omega))), wr _ _ (by omega) (by omega), Int.add_assoc]
theorem fields_is (l : List UInt8) (hl : l.length ≤ 2147483647) : Ev (fun k => spec_fields.f k (mkB l)) ((splitL 32 l).map mkB) := by
  have := fields_go l hl l [] [] [] (by simp) (by simp) (by simp)
  simpa [spec_fields.f, mkB_size] using this
end Go.Proofs.YtdmccakncgdbhaaDoor.ML
namespace Go.Proofs.YtdmccakncgdbhaaDoor.ML
open Go.RowKit Go.Proofs.YtdmccakncgdbhaaDoor.GMA Go.Proofs.YtdmccakncgdbhaaDoorW.PrintWords Go.Proofs.YtdmccakncgdbhaaDoorW.PrintLast Go.Proofs.YtdmccakncgdbhaaDoor.MB
set_option linter.unusedVariables false
set_option linter.unusedSimpArgs false
def intOk (n : Int) : Bool := decide (0 ≤ n) && decide (n ≤ 2147483647)
def optB (s7 : List UInt8) : Bool := s7.isEmpty || (splitL 32 s7).all fun p => wordB p && p != [45]
def tailB (s4 s5 s6 s7 s8 s9 s10 : List UInt8) : Bool := !s4.isEmpty && (!s5.isEmpty && (!s9.isEmpty && (s4.all (okc true) && (s5.all (okc true) && (s9.all (okc true) && (wordB s6 && (wordB s8 && (wordB s10 && optB s7))))))))
theorem rd_mid (a : List Int) (c : Int) (r : List Int) : rd (a ++ c :: r) (a.length : Int) = c := by simp [rd]
theorem opt_go (y : List ByteArray) (hy : y.length ≤ 2147483648) : ∀ (r : List (List UInt8)) (a : List ByteArray), y = a ++ r.map mkB → (∀ p ∈ r, p.length ≤ 2147483647) →
    Ev (fun k => spec_mountValid.l1 k y (y.length : Int) (a.length : Int)) (r.all fun p => wordB p && p != [45])
  | [], a, h, hp => by
    refine Ev.step (f := fun _ => some true) (fun k => ?_) (Ev.now _)
    subst h
    simp only [spec_mountValid.l1]
    rw [if_neg (by simp)]
  | p :: r, a, h, hp => by
    have ih := opt_go y hy r (a ++ [mkB p]) (by rw [h]; simp) (fun q hq => hp q (List.mem_cons_of_mem _ hq))
    have hz : (y.length : Int) = a.length + (r.length + 1) := by rw [h]; simp
    have he : rdOf ByteArray.empty y (a.length : Int) = mkB p := by rw [h]; simp [rdOf]
    rw [List.all_cons]
    refine Ev.step (f := fun k => (spec_word.f k (mkB p)).bind fun t => if t = true then (if p = [45] then some false else spec_mountValid.l1 k y (y.length : Int) ((a ++ [mkB p]).length : Int)) else some false) (fun k => ?_) ?_
    · simp only [List.length_append, List.length_cons, List.length_nil, Nat.zero_add, Int.natCast_add, Int.natCast_one]
      simp only [spec_mountValid.l1]
      rw [if_pos (by omega), if_pos (by omega), if_pos (by omega), he, mkB_toList, wr _ _ (by omega) (by omega)]
    · refine Ev.bind (f := fun k t => if t = true then (if p = [45] then some false else spec_mountValid.l1 k y (y.length : Int) ((a ++ [mkB p]).length : Int)) else some false) (word_is p (hp p (by simp))) ?_
      by_cases w : wordB p = true
      · simp only [w, if_true, Bool.true_and]
        by_cases e : p = [45]
        · simp only [e, if_true, bne_self_eq_false, Bool.false_and]
          exact Ev.now _
        · have : (p != [45]) = true := by simp [e]
          simp only [e, if_false, this, Bool.true_and]
          exact ih
      · simp only [Bool.not_eq_true] at w
        simp only [w, Bool.false_eq_true, if_false, Bool.false_and]
        exact Ev.now _
theorem splitL_length (c : UInt8) : ∀ l : List UInt8, (splitL c l).length ≤ l.length + 1
  | [] => by simp [splitL]
  | x :: xs => by
    have ih := splitL_length c xs
    unfold splitL
    split
    · simp; omega
    · cases hs : splitL c xs with
      | nil => simp
      | cons p ps => rw [hs] at ih; simp at ih ⊢; omega
theorem splitL_mem_length {c : UInt8} : ∀ {l p : List UInt8}, p ∈ splitL c l → p.length ≤ l.length
  | [], p, h => by simp [splitL] at h; subst h; simp
  | x :: xs, p, h => by
    unfold splitL at h
    split at h
    · rcases List.mem_cons.1 h with rfl | h
      · simp
      · have := splitL_mem_length h; simp; omega
    · cases hs : splitL c xs with
      | nil => exact absurd hs (splitL_ne _ _)
      | cons q qs =>
        rw [hs] at h
        rcases List.mem_cons.1 h with rfl | h
        · have := splitL_mem_length (c := c) (l := xs) (p := q) (by rw [hs]; simp); simp; omega
        · have := splitL_mem_length (c := c) (l := xs) (p := p) (by rw [hs]; simp [h]); simp; omega
section
variable (i0 i1 i2 i3 : Int) (s4 s5 s6 s7 s8 s9 s10 : List UInt8)
theorem valid_tail (h4 : s4.length ≤ 2147483647) (h5 : s5.length ≤ 2147483647) (h6 : s6.length ≤ 2147483647) (h7 : s7.length ≤ 2147483647) (h8 : s8.length ≤ 2147483647) (h9 : s9.length ≤ 2147483647) (h10 : s10.length ≤ 2147483647) (b : Bool) :
    Ev (fun k => spec_mountValid.j1 k b i0 i1 i2 i3 (mkB s4) (mkB s5) (mkB s6) (mkB s7) (mkB s8) (mkB s9) (mkB s10)) (!b && optB s7) := by
  refine Ev.step (f := fun k => if b = true then some false else if s7 = [] then some true else (spec_fields.f k (mkB s7)).bind fun t => spec_mountValid.l1 k t (t.length : Int) 0) (fun k => ?_) ?_
  · simp only [spec_mountValid.j1, mkB_toList]
  · cases b with
    | true => exact Ev.now _
    | false =>
      simp only [Bool.false_eq_true, if_false, Bool.not_false, Bool.true_and]
      unfold optB
      by_cases e : s7 = []
      · simp only [e, if_true, List.isEmpty_nil, Bool.true_or]
        exact Ev.now _
      · have e2 : s7.isEmpty = false := by cases s7 with | nil => exact absurd rfl e | cons => rfl
        simp only [e, if_false, e2, Bool.false_or]
        refine Ev.bind (f := fun k t => spec_mountValid.l1 k t (t.length : Int) 0) (fields_is s7 h7) ?_
        have hl := splitL_length 32 s7
        exact opt_go ((splitL 32 s7).map mkB) (by simp; omega) (splitL 32 s7) [] (by simp) (fun p hp => Nat.le_trans (splitL_mem_length hp) h7)
theorem valid_go (h4 : s4.length ≤ 2147483647) (h5 : s5.length ≤ 2147483647) (h6 : s6.length ≤ 2147483647) (h7 : s7.length ≤ 2147483647) (h8 : s8.length ≤ 2147483647) (h9 : s9.length ≤ 2147483647) (h10 : s10.length ≤ 2147483647)
    (y : List Int) (hy : y.length ≤ 10) : ∀ (r a : List Int), y = a ++ r →
    Ev (fun k => spec_mountValid.l0 k y (y.length : Int) (a.length : Int) i0 i1 i2 i3 (mkB s4) (mkB s5) (mkB s6) (mkB s7) (mkB s8) (mkB s9) (mkB s10)) (r.all intOk && tailB s4 s5 s6 s7 s8 s9 s10)
  | c :: r, a, h => by
    have ih := valid_go h4 h5 h6 h7 h8 h9 h10 y hy r (a ++ [c]) (by rw [h]; simp)
    have hz : (y.length : Int) = a.length + (r.length + 1) := by rw [h]; simp
    have he : rd y (a.length : Int) = c := by rw [h]; exact rd_mid a c r
    rw [List.all_cons]
    refine Ev.step (f := fun k => if c < 0 then some false else if c > 2147483647 then some false else spec_mountValid.l0 k y (y.length : Int) ((a ++ [c]).length : Int) i0 i1 i2 i3 (mkB s4) (mkB s5) (mkB s6) (mkB s7) (mkB s8) (mkB s9) (mkB s10)) (fun k => ?_) ?_
    · simp only [List.length_append, List.length_cons, List.length_nil, Nat.zero_add, Int.natCast_add, Int.natCast_one]
      simp only [spec_mountValid.l0]
      rw [if_pos (by omega), if_pos (by omega), if_pos (by omega), he, wr _ _ (by omega) (by omega)]
    · unfold intOk
      by_cases c0 : c < 0
      · simp only [c0, if_true, show decide (0 ≤ c) = false from decide_eq_false (by omega), Bool.false_and]
        exact Ev.now _
      · by_cases c1 : c > 2147483647
        · simp only [c0, c1, if_true, if_false, show decide (c ≤ 2147483647) = false from decide_eq_false (by omega), Bool.and_false, Bool.false_and]
          exact Ev.now _
        · simp only [c0, c1, if_false, show decide (0 ≤ c) = true from decide_eq_true (by omega), show decide (c ≤ 2147483647) = true from decide_eq_true (by omega), Bool.true_and]
          exact ih
  | [], a, h => by
    have hz : (y.length : Int) = a.length := by rw [h]; simp
    have J := valid_tail i0 i1 i2 i3 s4 s5 s6 s7 s8 s9 s10 h4 h5 h6 h7 h8 h9 h10
    have J1 := J true
    simp only [Bool.not_true, Bool.false_and] at J1
    have nil_ : ∀ s : List UInt8, ¬ s = [] → s.isEmpty = false := fun s e => by cases s with | nil => exact absurd rfl e | cons => rfl
    simp only [List.all_nil, Bool.true_and]
    unfold tailB
    refine Ev.step (f := fun k => if s4 = [] then _ else if s5 = [] then _ else if s9 = [] then _ else (spec_printable.f k (mkB s4) true).bind fun t148 => _) (fun k => by simp only [spec_mountValid.l0, mkB_toList]; rw [if_neg (by omega)]) ?_
    by_cases e4 : s4 = []
    · simp only [e4, if_true, List.isEmpty_nil, Bool.not_true, Bool.false_and]
      rw [e4] at J1
      exact J1
    simp only [e4, if_false, nil_ _ e4, Bool.not_false, Bool.true_and]
    by_cases e5 : s5 = []
    · simp only [e5, if_true, List.isEmpty_nil, Bool.not_true, Bool.false_and]
      rw [e5] at J1
      exact J1
    simp only [e5, if_false, nil_ _ e5, Bool.not_false, Bool.true_and]
    by_cases e9 : s9 = []
    · simp only [e9, if_true, List.isEmpty_nil, Bool.not_true, Bool.false_and]
      rw [e9] at J1
      exact J1
    simp only [e9, if_false, nil_ _ e9, Bool.not_false, Bool.true_and]
    refine Ev.bind (f := fun k (t148 : Bool) => if t148 = true then _ else _) (printable_is true s4 h4) ?_
    cases p4 : s4.all (okc true)
    · simp only [Bool.false_eq_true, if_false, Bool.false_and]
      exact J1
    simp only [if_true, Bool.true_and]
    refine Ev.bind (f := fun k (t148 : Bool) => if t148 = true then _ else _) (printable_is true s5 h5) ?_
    cases p5 : s5.all (okc true)
    · simp only [Bool.false_eq_true, if_false, Bool.false_and]
      exact J1
    simp only [if_true, Bool.true_and]
    refine Ev.bind (f := fun k (t148 : Bool) => if t148 = true then _ else _) (printable_is true s9 h9) ?_
    cases p9 : s9.all (okc true)
    · simp only [Bool.false_eq_true, if_false, Bool.false_and]
      exact J1
    simp only [if_true, Bool.true_and]
    refine Ev.bind (f := fun k (t148 : Bool) => if t148 = true then _ else _) (word_is s6 h6) ?_
    cases w6 : wordB s6
    · simp only [Bool.false_eq_true, if_false, Bool.false_and]
      exact J1
    simp only [if_true, Bool.true_and]
    refine Ev.bind (f := fun k (t148 : Bool) => if t148 = true then _ else _) (word_is s8 h8) ?_
    cases w8 : wordB s8
    · simp only [Bool.false_eq_true, if_false, Bool.false_and]
      exact J1
    simp only [if_true, Bool.true_and]
    have := Ev.bind (f := fun k (t153 : Bool) => spec_mountValid.j1 k (!t153) i0 i1 i2 i3 (mkB s4) (mkB s5) (mkB s6) (mkB s7) (mkB s8) (mkB s9) (mkB s10)) (word_is s10 h10) (J (!wordB s10))
    simpa using this
theorem mountValid_is (h4 : s4.length ≤ 2147483647) (h5 : s5.length ≤ 2147483647) (h6 : s6.length ≤ 2147483647) (h7 : s7.length ≤ 2147483647) (h8 : s8.length ≤ 2147483647) (h9 : s9.length ≤ 2147483647) (h10 : s10.length ≤ 2147483647) :
    Ev (fun k => spec_mountValid.f k i0 i1 i2 i3 (mkB s4) (mkB s5) (mkB s6) (mkB s7) (mkB s8) (mkB s9) (mkB s10)) ([i0, i1, i2, i3].all intOk && tailB s4 s5 s6 s7 s8 s9 s10) := by
  have := valid_go i0 i1 i2 i3 s4 s5 s6 s7 s8 s9 s10 h4 h5 h6 h7 h8 h9 h10 [i0, i1, i2, i3] (by simp) [i0, i1, i2, i3] [] (by simp)
  refine Ev.congr (fun k => ?_) this
  unfold spec_mountValid.f
  simp
end
end Go.Proofs.YtdmccakncgdbhaaDoor.ML
namespace Go.Proofs.YtdmccakncgdbhaaDoor.ML
open Go.RowKit Go.Proofs.YtdmccakncgdbhaaDoor.GMA Go.Proofs.YtdmccakncgdbhaaDoorW.PrintWords Go.Proofs.YtdmccakncgdbhaaDoorW.PrintLast Go.Proofs.YtdmccakncgdbhaaDoor.MB
set_option linter.unusedVariables false
set_option linter.unusedSimpArgs false
/-- A mount with its texts as rows of bytes. -/
structure LM where
  i0 : Nat
  i1 : Nat
  i2 : Nat
  i3 : Nat
  s4 : List UInt8
  s5 : List UInt8
  s6 : List UInt8
  s7 : List UInt8
  s8 : List UInt8
  s9 : List UInt8
  s10 : List UInt8
def LM.to58 (m : LM) : S58 := ⟨m.i0, m.i1, m.i2, m.i3, mkB m.s4, mkB m.s5, mkB m.s6, mkB m.s7, mkB m.s8, mkB m.s9, mkB m.s10⟩
def LM.to36 (m : LM) : S36 := ⟨m.i0, m.i1, m.i2, m.i3, mkB m.s4, mkB m.s5, mkB m.s6, mkB m.s7, mkB m.s8, mkB m.s9, mkB m.s10⟩
/-- What a mount must be to be printed. -/
structure LM.Ok (m : LM) : Prop where
  n0 : m.i0 ≤ 2147483647
  n1 : m.i1 ≤ 2147483647
  n2 : m.i2 ≤ 2147483647
  n3 : m.i3 ≤ 2147483647
  t : tailB m.s4 m.s5 m.s6 m.s7 m.s8 m.s9 m.s10 = true
def LM.heads (m : LM) : List (List UInt8) := [Lib.decDigits m.i0, Lib.decDigits m.i1, Lib.decDigits m.i2 ++ 58 :: Lib.decDigits m.i3, octL m.s4, octL m.s5, m.s6]
def LM.opts (m : LM) : List (List UInt8) := if m.s7 = [] then [] else splitL 32 m.s7
def LM.tails (m : LM) : List (List UInt8) := [[45], m.s8, octL m.s9, m.s10]
def LM.fields (m : LM) : List (List UInt8) := m.heads ++ (m.opts ++ m.tails)
def LM.line (m : LM) : List UInt8 := Lib.join m.fields [32]
/-- The line as the reference builds it. -/
def LM.head (m : LM) : List UInt8 := Lib.decDigits m.i0 ++ (32 :: (Lib.decDigits m.i1 ++ (32 :: (Lib.decDigits m.i2 ++ (58 :: (Lib.decDigits m.i3 ++ (32 :: (octL m.s4 ++ (32 :: (octL m.s5 ++ (32 :: m.s6)))))))))))
def LM.mid (m : LM) : List UInt8 := if m.s7 = [] then [] else 32 :: m.s7
def LM.foot (m : LM) : List UInt8 := 32 :: 45 :: 32 :: (m.s8 ++ (32 :: (octL m.s9 ++ (32 :: m.s10))))
theorem join_app (c : UInt8) : ∀ (a b : List (List UInt8)), a ≠ [] → b ≠ [] → Lib.join (a ++ b) [c] = Lib.join a [c] ++ c :: Lib.join b [c]
  | [], b, ha, _ => absurd rfl ha
  | [x], [], _, hb => absurd rfl hb
  | [x], y :: b, _, _ => by rw [List.singleton_append, join_cons2, Lib.join_one]
  | x :: z :: a, b, _, hb => by
    rw [List.cons_append, List.cons_append, join_cons2, join_cons2, ← List.cons_append, join_app c (z :: a) b (by simp) hb]
    simp
theorem line_is (m : LM) : m.line = m.head ++ (m.mid ++ m.foot) := by
  have h1 : Lib.join m.heads [32] = m.head := by
    simp only [LM.heads, LM.head, join_cons2, Lib.join_one]
    simp
  have h2 : Lib.join m.tails [32] = 45 :: 32 :: (m.s8 ++ (32 :: (octL m.s9 ++ (32 :: m.s10)))) := by
    simp only [LM.tails, join_cons2, Lib.join_one]
    simp
  have hh : m.heads ≠ [] := by simp [LM.heads]
  have ht : m.tails ≠ [] := by simp [LM.tails]
  unfold LM.line LM.fields LM.opts LM.mid LM.foot
  by_cases e : m.s7 = []
  · rw [if_pos e, if_pos e, List.nil_append, join_app _ _ _ hh ht, h1, h2]
    simp
  · rw [if_neg e, if_neg e, join_app _ _ _ hh (by simp [ht]), join_app _ _ _ (splitL_ne _ _) ht, h1, h2, join_splitL]
    simp
theorem line_length (m : LM) (ho : m.Ok) (h : ∀ s ∈ [m.s4, m.s5, m.s6, m.s7, m.s8, m.s9, m.s10], s.length ≤ 2147483647) : m.line.length ≤ 100000000000 := by
  simp only [List.mem_cons, List.not_mem_nil, or_false, forall_eq_or_imp, forall_eq] at h
  have d0 := decDigits_length m.i0 9 (by have := ho.n0; omega)
  have d1 := decDigits_length m.i1 9 (by have := ho.n1; omega)
  have d2 := decDigits_length m.i2 9 (by have := ho.n2; omega)
  have d3 := decDigits_length m.i3 9 (by have := ho.n3; omega)
  have o4 := octL_length m.s4
  have o5 := octL_length m.s5
  have o9 := octL_length m.s9
  rw [line_is]
  have e : m.mid.length ≤ m.s7.length + 1 := by unfold LM.mid; split <;> simp
  simp only [List.length_append, LM.head, LM.foot, List.length_cons]
  omega
theorem guard_ {α : Type} {c : Prop} [Decidable c] {A : Nat → Option α} {r : α} (h : c) (hA : Ev A r) : Ev (fun k => if c then A k else none) r :=
  Ev.congr (fun k => if_pos h) hA
theorem guard_e {α : Type} {c : Prop} [Decidable c] {A B : Nat → Option α} {r : α} (h : c) (hA : Ev A r) : Ev (fun k => if c then A k else B k) r :=
  Ev.congr (fun k => if_pos h) hA
theorem guard_n {α : Type} {c : Prop} [Decidable c] {A B : Nat → Option α} {r : α} (h : ¬ c) (hA : Ev B r) : Ev (fun k => if c then A k else B k) r :=
  Ev.congr (fun k => if_neg h) hA
theorem bind_ {α β : Type} {g : Nat → Option α} {a : α} {F : Nat → α → Option β} {r : β} (h : Ev g a) (hF : Ev (fun k => F k a) r) : Ev (fun k => (g k).bind (F k)) r :=
  Ev.bind (f := F) h hF
set_option maxHeartbeats 4000000 in
theorem print_step (l : List S58) (hl : l.length ≤ 200) (a : List S58) (m : LM) (r : List S58) (hs : l = a ++ m.to58 :: r) (out : List UInt8) (hout : out.length ≤ a.length * 200000000000) (ho : m.Ok)
    (hlen : ∀ s ∈ [m.s4, m.s5, m.s6, m.s7, m.s8, m.s9, m.s10], s.length ≤ 2147483647) (res : ByteArray × Int)
    (ih : Ev (fun k => spec_MountsPrint.l0 k (mkB (out ++ (m.line ++ [10]))) l (l.length : Int) ((a ++ [m.to58]).length : Int)) res) :
    Ev (fun k => spec_MountsPrint.l0 k (mkB out) l (l.length : Int) (a.length : Int)) res := by
  have hz : (l.length : Int) = a.length + (r.length + 1) := by rw [hs]; simp
  have he : rd_T58 l (a.length : Int) = m.to58 := by rw [hs]; simp [rd_T58]
  have hh := hlen
  simp only [List.mem_cons, List.not_mem_nil, or_false, forall_eq_or_imp, forall_eq] at hh
  obtain ⟨h4, h5, h6, h7, h8, h9, h10⟩ := hh
  have hv := mountValid_is m.i0 m.i1 m.i2 m.i3 m.s4 m.s5 m.s6 m.s7 m.s8 m.s9 m.s10 h4 h5 h6 h7 h8 h9 h10
  have i_ : ∀ n : Nat, n ≤ 2147483647 → intOk (n : Int) = true := fun n h => by
    unfold intOk; simp only [Bool.and_eq_true, decide_eq_true_eq]; omega
  rw [show ([(m.i0 : Int), m.i1, m.i2, m.i3].all intOk && tailB m.s4 m.s5 m.s6 m.s7 m.s8 m.s9 m.s10) = true from by
    simp [i_ _ ho.n0, i_ _ ho.n1, i_ _ ho.n2, i_ _ ho.n3, ho.t]] at hv
  have d0 := decDigits_length m.i0 9 (by have := ho.n0; omega)
  have d1 := decDigits_length m.i1 9 (by have := ho.n1; omega)
  have d2 := decDigits_length m.i2 9 (by have := ho.n2; omega)
  have d3 := decDigits_length m.i3 9 (by have := ho.n3; omega)
  have o4 := octL_length m.s4
  have o5 := octL_length m.s5
  have o9 := octL_length m.s9
  have ha : a.length ≤ 199 := by omega
  have hout2 : out.length ≤ 100000000000000 := Nat.le_trans hout (by omega)
  have b1 : (⟨#[32]⟩ : ByteArray) = mkB [32] := rfl
  have b2 : (⟨#[58]⟩ : ByteArray) = mkB [58] := rfl
  have b3 : (⟨#[10]⟩ : ByteArray) = mkB [10] := rfl
  have b4 : (⟨#[32, 45, 32]⟩ : ByteArray) = mkB [32, 45, 32] := rfl
  refine Ev.step (f := fun k => (spec_mountValid.f k (m.i0 : Int) (m.i1 : Int) (m.i2 : Int) (m.i3 : Int) (mkB m.s4) (mkB m.s5) (mkB m.s6) (mkB m.s7) (mkB m.s8) (mkB m.s9) (mkB m.s10)).bind fun (t180 : Bool) => _) (fun k => by
    simp only [spec_MountsPrint.l0]
    rw [if_pos (by omega), if_pos (by omega), if_pos (by omega), he]
    rfl) ?_
  refine bind_ hv ?_
  refine guard_e rfl ?_
  refine bind_ (natural_is m.i0 ho.n0) ?_
  refine guard_ (by simp only [LM.to58, ByteArray.size_append, mkB_size, b1, b2, b3, b4, List.length_cons, List.length_nil]; omega) ?_
  refine bind_ (natural_is m.i1 ho.n1) ?_
  refine guard_ (by simp only [LM.to58, ByteArray.size_append, mkB_size, b1, b2, b3, b4, List.length_cons, List.length_nil]; omega) ?_
  refine guard_ (by simp only [LM.to58, ByteArray.size_append, mkB_size, b1, b2, b3, b4, List.length_cons, List.length_nil]; omega) ?_
  refine bind_ (natural_is m.i2 ho.n2) ?_
  refine guard_ (by simp only [LM.to58, ByteArray.size_append, mkB_size, b1, b2, b3, b4, List.length_cons, List.length_nil]; omega) ?_
  refine guard_ (by simp only [LM.to58, ByteArray.size_append, mkB_size, b1, b2, b3, b4, List.length_cons, List.length_nil]; omega) ?_
  refine bind_ (natural_is m.i3 ho.n3) ?_
  refine guard_ (by simp only [LM.to58, ByteArray.size_append, mkB_size, b1, b2, b3, b4, List.length_cons, List.length_nil]; omega) ?_
  refine guard_ (by simp only [LM.to58, ByteArray.size_append, mkB_size, b1, b2, b3, b4, List.length_cons, List.length_nil]; omega) ?_
  refine bind_ (octal_is m.s4 h4) ?_
  refine guard_ (by simp only [LM.to58, ByteArray.size_append, mkB_size, b1, b2, b3, b4, List.length_cons, List.length_nil]; omega) ?_
  refine guard_ (by simp only [LM.to58, ByteArray.size_append, mkB_size, b1, b2, b3, b4, List.length_cons, List.length_nil]; omega) ?_
  refine bind_ (octal_is m.s5 h5) ?_
  refine guard_ (by simp only [LM.to58, ByteArray.size_append, mkB_size, b1, b2, b3, b4, List.length_cons, List.length_nil]; omega) ?_
  refine guard_ (by simp only [LM.to58, ByteArray.size_append, mkB_size, b1, b2, b3, b4, List.length_cons, List.length_nil]; omega) ?_
  refine guard_ (by simp only [LM.to58, ByteArray.size_append, mkB_size, b1, b2, b3, b4, List.length_cons, List.length_nil]; omega) ?_
  refine guard_ (by simp only [LM.to58, ByteArray.size_append, mkB_size, b1, b2, b3, b4, List.length_cons, List.length_nil]; omega) ?_
  have hmid : out ++ (m.line ++ [10]) = out ++ (m.head ++ (m.mid ++ (m.foot ++ [10]))) := by rw [line_is]; simp
  rw [hmid] at ih
  by_cases e7 : m.s7 = []
  · refine guard_e (show (mkB m.s7).toList = [] from by rw [mkB_toList, e7]) ?_
    refine guard_ (by simp only [LM.to58, ByteArray.size_append, mkB_size, b1, b2, b3, b4, List.length_cons, List.length_nil]; omega) ?_
    refine guard_ (by simp only [LM.to58, ByteArray.size_append, mkB_size, b1, b2, b3, b4, List.length_cons, List.length_nil]; omega) ?_
    refine bind_ (octal_is m.s9 h9) ?_
    refine guard_ (by simp only [LM.to58, ByteArray.size_append, mkB_size, b1, b2, b3, b4, List.length_cons, List.length_nil]; omega) ?_
    refine guard_ (by simp only [LM.to58, ByteArray.size_append, mkB_size, b1, b2, b3, b4, List.length_cons, List.length_nil]; omega) ?_
    refine guard_ (by simp only [LM.to58, ByteArray.size_append, mkB_size, b1, b2, b3, b4, List.length_cons, List.length_nil]; omega) ?_
    refine guard_ (by simp only [LM.to58, ByteArray.size_append, mkB_size, b1, b2, b3, b4, List.length_cons, List.length_nil]; omega) ?_
    refine guard_ (by simp only [LM.to58, ByteArray.size_append, mkB_size, b1, b2, b3, b4, List.length_cons, List.length_nil]; omega) ?_
    refine Ev.congr (fun k => ?_) ih
    rw [wr _ _ (by omega) (by omega)]
    simp only [b1, b2, b3, b4, mkB_append, List.length_append, List.length_singleton, Int.natCast_add, Int.natCast_one, LM.head, LM.mid, LM.foot, LM.to58, e7, if_true, if_false, List.append_assoc, List.nil_append, List.cons_append]
  · refine guard_n (show ¬ (mkB m.s7).toList = [] from by rw [mkB_toList]; exact e7) ?_
    refine guard_ (by simp only [LM.to58, ByteArray.size_append, mkB_size, b1, b2, b3, b4, List.length_cons, List.length_nil]; omega) ?_
    refine guard_ (by simp only [LM.to58, ByteArray.size_append, mkB_size, b1, b2, b3, b4, List.length_cons, List.length_nil]; omega) ?_
    refine guard_ (by simp only [LM.to58, ByteArray.size_append, mkB_size, b1, b2, b3, b4, List.length_cons, List.length_nil]; omega) ?_
    refine guard_ (by simp only [LM.to58, ByteArray.size_append, mkB_size, b1, b2, b3, b4, List.length_cons, List.length_nil]; omega) ?_
    refine bind_ (octal_is m.s9 h9) ?_
    refine guard_ (by simp only [LM.to58, ByteArray.size_append, mkB_size, b1, b2, b3, b4, List.length_cons, List.length_nil]; omega) ?_
    refine guard_ (by simp only [LM.to58, ByteArray.size_append, mkB_size, b1, b2, b3, b4, List.length_cons, List.length_nil]; omega) ?_
    refine guard_ (by simp only [LM.to58, ByteArray.size_append, mkB_size, b1, b2, b3, b4, List.length_cons, List.length_nil]; omega) ?_
    refine guard_ (by simp only [LM.to58, ByteArray.size_append, mkB_size, b1, b2, b3, b4, List.length_cons, List.length_nil]; omega) ?_
    refine guard_ (by simp only [LM.to58, ByteArray.size_append, mkB_size, b1, b2, b3, b4, List.length_cons, List.length_nil]; omega) ?_
    refine Ev.congr (fun k => ?_) ih
    rw [wr _ _ (by omega) (by omega)]
    simp only [b1, b2, b3, b4, mkB_append, List.length_append, List.length_singleton, Int.natCast_add, Int.natCast_one, LM.head, LM.mid, LM.foot, LM.to58, e7, if_true, if_false, List.append_assoc, List.nil_append, List.cons_append]
end Go.Proofs.YtdmccakncgdbhaaDoor.ML
namespace Go.Proofs.YtdmccakncgdbhaaDoor.ML
open Go.RowKit Go.Proofs.YtdmccakncgdbhaaDoor.GMA Go.Proofs.YtdmccakncgdbhaaDoorW.PrintWords Go.Proofs.YtdmccakncgdbhaaDoorW.PrintLast Go.Proofs.YtdmccakncgdbhaaDoor.MB
set_option linter.unusedVariables false
set_option linter.unusedSimpArgs false
def txt (s : ByteArray) : List UInt8 := s.data.toList
theorem mkB_txt (s : ByteArray) : mkB (txt s) = s := mkB_data s
theorem txt_size (s : ByteArray) : (txt s).length = s.size := Array.length_toList
def lm (x : S36) : LM := ⟨x.f0.toNat, x.f1.toNat, x.f2.toNat, x.f3.toNat, txt x.f4, txt x.f5, txt x.f6, txt x.f7, txt x.f8, txt x.f9, txt x.f10⟩
def conv (x : S36) : S58 := ⟨x.f0, x.f1, x.f2, x.f3, x.f4, x.f5, x.f6, x.f7, x.f8, x.f9, x.f10⟩
def validS (x : S36) : Bool := [x.f0, x.f1, x.f2, x.f3].all intOk && tailB (txt x.f4) (txt x.f5) (txt x.f6) (txt x.f7) (txt x.f8) (txt x.f9) (txt x.f10)
structure Sized (x : S36) : Prop where
  h4 : x.f4.size ≤ 2147483647
  h5 : x.f5.size ≤ 2147483647
  h6 : x.f6.size ≤ 2147483647
  h7 : x.f7.size ≤ 2147483647
  h8 : x.f8.size ≤ 2147483647
  h9 : x.f9.size ≤ 2147483647
  h10 : x.f10.size ≤ 2147483647
theorem valid_ints {x : S36} (h : validS x = true) : (0 ≤ x.f0 ∧ x.f0 ≤ 2147483647) ∧ (0 ≤ x.f1 ∧ x.f1 ≤ 2147483647) ∧ (0 ≤ x.f2 ∧ x.f2 ≤ 2147483647) ∧ (0 ≤ x.f3 ∧ x.f3 ≤ 2147483647) := by
  unfold validS intOk at h
  simpa [Bool.and_eq_true, and_assoc] using (Bool.and_eq_true_iff.1 h).1
theorem valid_tailB {x : S36} (h : validS x = true) : tailB (txt x.f4) (txt x.f5) (txt x.f6) (txt x.f7) (txt x.f8) (txt x.f9) (txt x.f10) = true := (Bool.and_eq_true_iff.1 h).2
theorem lm_58 {x : S36} (h : validS x = true) : (lm x).to58 = conv x := by
  obtain ⟨⟨a0, _⟩, ⟨a1, _⟩, ⟨a2, _⟩, ⟨a3, _⟩⟩ := valid_ints h
  simp only [LM.to58, lm, conv, mkB_txt, Int.toNat_of_nonneg a0, Int.toNat_of_nonneg a1, Int.toNat_of_nonneg a2, Int.toNat_of_nonneg a3]
theorem lm_36 {x : S36} (h : validS x = true) : (lm x).to36 = x := by
  obtain ⟨⟨a0, _⟩, ⟨a1, _⟩, ⟨a2, _⟩, ⟨a3, _⟩⟩ := valid_ints h
  simp only [LM.to36, lm, mkB_txt, Int.toNat_of_nonneg a0, Int.toNat_of_nonneg a1, Int.toNat_of_nonneg a2, Int.toNat_of_nonneg a3]
theorem lm_ok {x : S36} (h : validS x = true) : (lm x).Ok := by
  obtain ⟨⟨a0, b0⟩, ⟨a1, b1⟩, ⟨a2, b2⟩, ⟨a3, b3⟩⟩ := valid_ints h
  exact ⟨by show x.f0.toNat ≤ _; omega, by show x.f1.toNat ≤ _; omega, by show x.f2.toNat ≤ _; omega, by show x.f3.toNat ≤ _; omega, valid_tailB h⟩
theorem lm_sized {x : S36} (h : Sized x) : ∀ s ∈ [(lm x).s4, (lm x).s5, (lm x).s6, (lm x).s7, (lm x).s8, (lm x).s9, (lm x).s10], s.length ≤ 2147483647 := by
  simp only [List.mem_cons, List.not_mem_nil, or_false, forall_eq_or_imp, forall_eq, lm, txt_size]
  exact ⟨h.h4, h.h5, h.h6, h.h7, h.h8, h.h9, h.h10⟩
def printL (l : List S36) : List UInt8 := l.flatMap fun x => (lm x).line ++ [10]
theorem print_bad (l : List S58) (hl : l.length ≤ 200) (a : List S58) (x : S36) (r : List S58) (hs : l = a ++ conv x :: r) (out : ByteArray) (hv : validS x = false) (hx : Sized x) :
    Ev (fun k => spec_MountsPrint.l0 k out l (l.length : Int) (a.length : Int)) ((⟨#[]⟩ : ByteArray), 2) := by
  have hz : (l.length : Int) = a.length + (r.length + 1) := by rw [hs]; simp
  have he : rd_T58 l (a.length : Int) = conv x := by rw [hs]; simp [rd_T58]
  have hm := mountValid_is x.f0 x.f1 x.f2 x.f3 (txt x.f4) (txt x.f5) (txt x.f6) (txt x.f7) (txt x.f8) (txt x.f9) (txt x.f10) (by rw [txt_size]; exact hx.h4) (by rw [txt_size]; exact hx.h5) (by rw [txt_size]; exact hx.h6) (by rw [txt_size]; exact hx.h7) (by rw [txt_size]; exact hx.h8) (by rw [txt_size]; exact hx.h9) (by rw [txt_size]; exact hx.h10)
  simp only [mkB_txt] at hm
  rw [show ([x.f0, x.f1, x.f2, x.f3].all intOk && tailB (txt x.f4) (txt x.f5) (txt x.f6) (txt x.f7) (txt x.f8) (txt x.f9) (txt x.f10)) = false from hv] at hm
  refine Ev.step (f := fun k => (spec_mountValid.f k x.f0 x.f1 x.f2 x.f3 x.f4 x.f5 x.f6 x.f7 x.f8 x.f9 x.f10).bind fun (t180 : Bool) => _) (fun k => by
    simp only [spec_MountsPrint.l0]
    rw [if_pos (by omega), if_pos (by omega), if_pos (by omega), he]
    rfl) ?_
  refine bind_ hm ?_
  exact guard_n (by decide) (Ev.now _)
theorem print_go (l : List S36) (hl : l.length ≤ 200) (hsz : ∀ x ∈ l, Sized x) : ∀ (r a : List S36) (out : List UInt8), l = a ++ r → out.length ≤ a.length * 200000000000 →
    Ev (fun k => spec_MountsPrint.l0 k (mkB out) (l.map conv) (l.length : Int) (a.length : Int)) (if r.all validS = true then (mkB (out ++ printL r), 1) else ((⟨#[]⟩ : ByteArray), 2))
  | [], a, out, h, ho => by
    have hz : (l.length : Int) = a.length := by rw [h]; simp
    refine Ev.step (f := fun _ => some (mkB out, 1)) (fun k => ?_) (by simpa [printL] using Ev.now _)
    simp only [spec_MountsPrint.l0]
    rw [if_neg (by omega)]
  | x :: r, a, out, h, ho => by
    have hx := hsz x (by rw [h]; simp)
    have e1 : l.map conv = a.map conv ++ conv x :: r.map conv := by rw [h]; simp
    have e2 : (l.length : Int) = ((l.map conv).length : Int) := by simp
    have e3 : (a.length : Int) = ((a.map conv).length : Int) := by simp
    have hla : a.length < 200 := by rw [h] at hl; simp at hl; omega
    cases hv : validS x with
    | false =>
      rw [List.all_cons, hv]
      simp only [Bool.false_and, Bool.false_eq_true, if_false]
      rw [e2, e3]
      exact print_bad (l.map conv) (by simpa using hl) (a.map conv) x (r.map conv) e1 (mkB out) hv hx
    | true =>
      have hll := line_length (lm x) (lm_ok hv) (lm_sized hx)
      have ih := print_go l hl hsz r (a ++ [x]) (out ++ ((lm x).line ++ [10])) (by rw [h]; simp) (by simp only [List.length_append, List.length_singleton]; omega)
      rw [List.all_cons, hv, Bool.true_and]
      rw [show out ++ printL (x :: r) = out ++ ((lm x).line ++ [10]) ++ printL r from by simp [printL]]
      rw [e2, e3]
      refine print_step (l.map conv) (by simpa using hl) (a.map conv) (lm x) (r.map conv) (by rw [lm_58 hv]; exact e1) out (by simpa using ho) (lm_ok hv) (lm_sized hx) _ ?_
      rw [lm_58 hv]
      simpa using ih
theorem mountsTo_go (l : List S36) (hl : l.length ≤ 200) : ∀ (r a : List S36), l = a ++ r → Ev (fun k => laws_mountsTo.l0 k (a.map conv) l (l.length : Int) (a.length : Int)) (l.map conv)
  | [], a, h => by
    have hz : (l.length : Int) = a.length := by rw [h]; simp
    refine Ev.step (f := fun _ => some (a.map conv)) (fun k => ?_) (by rw [h, List.append_nil]; exact Ev.now _)
    simp only [laws_mountsTo.l0]
    rw [if_neg (by omega)]
  | x :: r, a, h => by
    have ih := mountsTo_go l hl r (a ++ [x]) (by rw [h]; simp)
    have hz : (l.length : Int) = a.length + (r.length + 1) := by rw [h]; simp
    have he : rd_T36 l (a.length : Int) = x := by rw [h]; simp [rd_T36]
    refine Ev.step (f := fun k => laws_mountsTo.l0 k ((a ++ [x]).map conv) l (l.length : Int) ((a ++ [x]).length : Int)) (fun k => ?_) ih
    simp only [laws_mountsTo.l0]
    rw [if_pos (by omega), if_pos (by omega), if_pos (by omega), if_pos (by simp; omega), he, wr _ _ (by omega) (by omega)]
    simp [conv]
theorem printed_is (l : List S36) (hl : l.length ≤ 200) (hsz : ∀ x ∈ l, Sized x) :
    Ev (fun k => laws_printed.f k l) (if l.all validS = true then (mkB (printL l), decide ((printL l).length ≤ 60000)) else ((⟨#[]⟩ : ByteArray), false)) := by
  refine Ev.congr (f := fun k => (laws_mountsTo.f k l).bind fun t189 => (spec_MountsPrint.f k t189).bind fun bt192 => if bt192.2 = 1 then some (bt192.1, decide ((bt192.1.size : Int) ≤ 60000)) else some (bt192.1, false)) (fun k => ?_) ?_
  · unfold laws_printed.f
    rw [if_neg (by omega)]
  · refine bind_ (mountsTo_go l hl l [] (by simp)) ?_
    have := print_go l hl hsz l [] [] (by simp) (by simp)
    refine bind_ (a := if l.all validS = true then (mkB (printL l), 1) else ((⟨#[]⟩ : ByteArray), 2)) ?_ ?_
    · refine Ev.congr (fun k => ?_) this
      unfold spec_MountsPrint.f
      simp [mkB]
    · by_cases e : l.all validS = true
      · simp only [e, if_true]
        refine Ev.congr (f := fun _ => some _) (fun k => ?_) (Ev.now _)
        rw [mkB_size]
        congr 2
        simp
        omega
      · simp only [if_neg e]
        exact guard_n (show ¬ ((2 : Int) = 1) by decide) (Ev.now _)
theorem printed_long (l : List S36) (hl : 200 < l.length) : Ev (fun k => laws_printed.f k l) ((⟨#[]⟩ : ByteArray), false) := by
  refine Ev.congr (f := fun _ => some _) (fun k => ?_) (Ev.now _)
  unfold laws_printed.f
  rw [if_pos (by omega)]
/-! the bounds on sizes -/
def sizedB (x : S36) : Bool := decide (x.f4.size ≤ 2147483647) && (decide (x.f5.size ≤ 2147483647) && (decide (x.f6.size ≤ 2147483647) && (decide (x.f7.size ≤ 2147483647) && (decide (x.f8.size ≤ 2147483647) && (decide (x.f9.size ≤ 2147483647) && decide (x.f10.size ≤ 2147483647))))))
theorem sizedB_true {x : S36} (h : sizedB x = true) : Sized x := by
  unfold sizedB at h
  simp only [Bool.and_eq_true, decide_eq_true_eq] at h
  exact ⟨h.1, h.2.1, h.2.2.1, h.2.2.2.1, h.2.2.2.2.1, h.2.2.2.2.2.1, h.2.2.2.2.2.2⟩
theorem fits2_is (x : S36) : laws_zzFits2.f x.f0 x.f1 x.f2 x.f3 x.f4 x.f5 x.f6 x.f7 x.f8 x.f9 x.f10 = some (sizedB x) := by
  unfold laws_zzFits2.f sizedB
  have g : ∀ n : Nat, decide (n ≤ 2147483647) = !decide ((n : Int) > 2147483647) := fun n => by
    by_cases h : n ≤ 2147483647
    · rw [decide_eq_true h, decide_eq_false (by omega)]; rfl
    · rw [decide_eq_false h, decide_eq_true (by omega)]; rfl
  simp only [g]
  repeat' (split; · simp [*])
  simp [*]
theorem fits1_go (l : List S36) (hl : l.length ≤ 2147483647) : ∀ (r a : List S36), l = a ++ r → Ev (fun k => laws_zzFits1.l0 k l (l.length : Int) (a.length : Int)) (r.all sizedB)
  | [], a, h => by
    have hz : (l.length : Int) = a.length := by rw [h]; simp
    refine Ev.step (f := fun _ => some true) (fun k => ?_) (Ev.now _)
    simp only [laws_zzFits1.l0]
    rw [if_neg (by omega)]
  | x :: r, a, h => by
    have ih := fits1_go l hl r (a ++ [x]) (by rw [h]; simp)
    have hz : (l.length : Int) = a.length + (r.length + 1) := by rw [h]; simp
    have he : rd_T36 l (a.length : Int) = x := by rw [h]; simp [rd_T36]
    refine Ev.step (f := fun k => if sizedB x = true then laws_zzFits1.l0 k l (l.length : Int) ((a ++ [x]).length : Int) else some false) (fun k => ?_) ?_
    · simp only [laws_zzFits1.l0]
      rw [if_pos (by omega), if_pos (by omega), if_pos (by omega), he, wr _ _ (by omega) (by omega), fits2_is]
      simp
    · rw [List.all_cons]
      cases hv : sizedB x
      · exact guard_n (by decide) (Ev.now _)
      · exact guard_e rfl ih
theorem fits1_is (l : List S36) : ∃ b, Ev (fun k => laws_zzFits1.f k l) b ∧ (b = true → ∀ x ∈ l, Sized x) := by
  by_cases hl : l.length ≤ 2147483647
  · refine ⟨l.all sizedB, Ev.congr (fun k => ?_) (fits1_go l hl l [] (by simp)), fun h x hx => sizedB_true (List.all_eq_true.1 h x hx)⟩
    unfold laws_zzFits1.f
    rw [if_neg (by omega)]
    rfl
  · refine ⟨false, Ev.congr (f := fun _ => some false) (fun k => ?_) (Ev.now _), fun h => by cases h⟩
    unfold laws_zzFits1.f
    rw [if_pos (by omega)]
end Go.Proofs.YtdmccakncgdbhaaDoor.ML
namespace Go.Proofs.YtdmccakncgdbhaaDoor.ML
open Go.RowKit Go.Proofs.YtdmccakncgdbhaaDoor.GMA Go.Proofs.YtdmccakncgdbhaaDoorW.PrintWords Go.Proofs.YtdmccakncgdbhaaDoorW.PrintLast Go.Proofs.YtdmccakncgdbhaaDoor.MB Go.Proofs.YtdmccakncgdbhaaDoor.GL
set_option linter.unusedVariables false
set_option linter.unusedSimpArgs false
/-! what the check on a mount says of its texts -/
theorem okc_seen {c : UInt8} (h : okc false c = true) : 32 < c.toNat ∧ c.toNat < 127 := by
  unfold okc at h
  simpa using h
theorem word_clean {l : List UInt8} (h : wordB l = true) : l ≠ [] ∧ (∀ c ∈ l, 32 < c.toNat ∧ c.toNat < 127 ∧ c ≠ 92) := by
  unfold wordB at h
  simp only [Bool.and_eq_true, Bool.not_eq_true', List.all_eq_true, bne_iff_ne] at h
  refine ⟨fun e => by rw [e] at h; simp at h, fun c hc => ?_⟩
  have := okc_seen (h.2.2 c hc)
  exact ⟨this.1, this.2, h.1 c hc⟩
theorem tail_parts {s4 s5 s6 s7 s8 s9 s10 : List UInt8} (h : tailB s4 s5 s6 s7 s8 s9 s10 = true) : s4 ≠ [] ∧ s5 ≠ [] ∧ s9 ≠ [] ∧ wordB s6 = true ∧ wordB s8 = true ∧ wordB s10 = true ∧ optB s7 = true := by
  unfold tailB at h
  simp only [Bool.and_eq_true, Bool.not_eq_true'] at h
  obtain ⟨a, b, c, _, _, _, d, e, f, g⟩ := h
  exact ⟨fun e => by rw [e] at a; simp at a, fun e => by rw [e] at b; simp at b, fun e => by rw [e] at c; simp at c, d, e, f, g⟩
theorem not_of_seen {l : List UInt8} (h : ∀ c ∈ l, 32 < c.toNat ∧ c.toNat < 127 ∧ c ≠ 92) (b : UInt8) (hb : b.toNat ≤ 32) : b ∉ l := fun hm => by
  have := (h b hm).1
  omega
theorem octL_word {l : List UInt8} (h : ∀ c ∈ l, 32 < c.toNat ∧ c.toNat < 127 ∧ c ≠ 92) : octL l = l := octL_plain l (fun b hb => by
  obtain ⟨h1, h2, h3⟩ := h b hb
  unfold escd
  simp only [Bool.or_eq_false_iff, beq_eq_false_iff_ne]
  refine ⟨⟨⟨?_, ?_⟩, ?_⟩, h3⟩ <;> (rintro rfl; revert h1; decide))
/-- no piece holds a blank or a line feed -/
theorem pieces_clean (m : LM) (ho : m.Ok) : ∀ p ∈ m.fields, (32 : UInt8) ∉ p ∧ (10 : UInt8) ∉ p := by
  obtain ⟨_, _, _, w6, w8, w10, o7⟩ := tail_parts ho.t
  have c6 := (word_clean w6).2
  have c8 := (word_clean w8).2
  have c10 := (word_clean w10).2
  have dg : ∀ n, (32 : UInt8) ∉ Lib.decDigits n ∧ (10 : UInt8) ∉ Lib.decDigits n := fun n => ⟨decDigits_not n _ (by decide), decDigits_not n _ (by decide)⟩
  have oc : ∀ l, (32 : UInt8) ∉ octL l ∧ (10 : UInt8) ∉ octL l := fun l => ⟨fun h => (octL_clean l _ h).1 rfl, fun h => (octL_clean l _ h).2.1 rfl⟩
  have wd : ∀ {l : List UInt8}, (∀ c ∈ l, 32 < c.toNat ∧ c.toNat < 127 ∧ c ≠ 92) → (32 : UInt8) ∉ l ∧ (10 : UInt8) ∉ l := fun h => ⟨not_of_seen h _ (by decide), not_of_seen h _ (by decide)⟩
  intro p hp
  unfold LM.fields LM.heads LM.opts LM.tails at hp
  rcases List.mem_append.1 hp with hp | hp
  · simp only [List.mem_cons, List.not_mem_nil, or_false] at hp
    rcases hp with rfl | rfl | rfl | rfl | rfl | rfl
    · exact dg _
    · exact dg _
    · have h2 := dg m.i2
      have h3 := dg m.i3
      constructor
      · simp only [List.mem_append, List.mem_cons, not_or]
        exact ⟨h2.1, by decide, h3.1⟩
      · simp only [List.mem_append, List.mem_cons, not_or]
        exact ⟨h2.2, by decide, h3.2⟩
    · exact oc _
    · exact oc _
    · exact wd c6
  · rcases List.mem_append.1 hp with hp | hp
    · split at hp
      · simp at hp
      · rename_i e7
        refine ⟨splitL_mem hp, ?_⟩
        unfold optB at o7
        have e2 : m.s7.isEmpty = false := by cases h : m.s7 with | nil => exact absurd h e7 | cons => rfl
        rw [e2, Bool.false_or] at o7
        have := List.all_eq_true.1 o7 p hp
        simp only [Bool.and_eq_true] at this
        exact (wd (word_clean this.1).2).2
    · simp only [List.mem_cons, List.not_mem_nil, or_false] at hp
      rcases hp with rfl | rfl | rfl | rfl
      · exact ⟨by decide, by decide⟩
      · exact wd c8
      · exact oc _
      · exact wd c10
theorem fields_ne (m : LM) : ∃ x ps, m.fields = x :: ps := ⟨_, _, rfl⟩
theorem split_line (m : LM) (ho : m.Ok) : splitL 32 m.line = m.fields := by
  obtain ⟨x, ps, h⟩ := fields_ne m
  unfold LM.line
  rw [h]
  exact splitL_join ps x (fun p hp => (pieces_clean m ho p (by rw [h]; exact hp)).1)
theorem mem_join (c : UInt8) : ∀ (ps : List (List UInt8)) (b : UInt8), b ∈ Lib.join ps [c] → b = c ∨ ∃ p ∈ ps, b ∈ p
  | [], b, h => by simp [Lib.join] at h
  | [x], b, h => by rw [Lib.join_one] at h; exact .inr ⟨x, by simp, h⟩
  | x :: y :: ps, b, h => by
    rw [join_cons2] at h
    rcases List.mem_append.1 h with h | h
    · exact .inr ⟨x, by simp, h⟩
    · rcases List.mem_cons.1 h with h | h
      · exact .inl h
      · rcases mem_join c (y :: ps) b h with h | ⟨p, hp, hb⟩
        · exact .inl h
        · exact .inr ⟨p, List.mem_cons_of_mem _ hp, hb⟩
theorem line_no (m : LM) (ho : m.Ok) : (10 : UInt8) ∉ m.line := fun h => by
  rcases mem_join 32 m.fields 10 h with h | ⟨p, hp, hb⟩
  · exact absurd h (by decide)
  · exact (pieces_clean m ho p hp).2 hb
/-! one line read -/
theorem rd_get (xs : List ByteArray) (i : Nat) (x : ByteArray) (h : xs[i]? = some x) : rdOf ByteArray.empty xs (i : Int) = x := by
  simp [rdOf, h]
theorem mem_len_join (c : UInt8) : ∀ (ps : List (List UInt8)) (p : List UInt8), p ∈ ps → p.length ≤ (Lib.join ps [c]).length
  | [], p, h => by simp at h
  | [x], p, h => by rw [Lib.join_one]; simp at h; subst h; exact Nat.le_refl _
  | x :: y :: ps, p, h => by
    rw [join_cons2]
    rcases List.mem_cons.1 h with rfl | h
    · simp
    · have := mem_len_join c (y :: ps) p h
      simp only [List.length_append, List.length_cons]
      omega
theorem line_read (m : LM) (ho : m.Ok) (hl : m.line.length ≤ 60000) : Ev (fun k => lineF k (mkB m.line)) m.to36 := by
  obtain ⟨_, _, _, w6, w8, w10, o7⟩ := tail_parts ho.t
  have hsp := split_is 32 m.line (by omega)
  rw [split_line m ho] at hsp
  have hlen : (m.fields.map mkB).length = m.opts.length + 10 := by simp [LM.fields, LM.heads, LM.tails]
  have hopt : m.opts.length ≤ 60001 := by
    have h1 := splitL_length 32 m.line
    rw [split_line m ho] at h1
    rw [List.length_map] at hlen
    omega
  have small : ∀ p ∈ m.fields, p.length ≤ 60000 := fun p hp => Nat.le_trans (mem_len_join 32 m.fields p hp) hl
  have hd : ∀ (i : Nat) (x : List UInt8), m.heads[i]? = some x → rdOf ByteArray.empty (m.fields.map mkB) (i : Int) = mkB x := fun i x h => rd_get _ _ _ (by
    have hi : i < m.heads.length := (List.getElem?_eq_some_iff.1 h).1
    rw [List.getElem?_map, LM.fields, List.getElem?_append_left hi, h]; rfl)
  have tl : ∀ (j : Nat) (x : List UInt8), m.tails[j]? = some x → rdOf ByteArray.empty (m.fields.map mkB) ((m.opts.length + 6 + j : Nat) : Int) = mkB x := fun j x h => rd_get _ _ _ (by
    rw [List.getElem?_map, LM.fields, List.getElem?_append_right (by simp [LM.heads]; omega), List.getElem?_append_right (by simp [LM.heads]; omega)]
    have : m.opts.length + 6 + j - m.heads.length - m.opts.length = j := by simp [LM.heads]; omega
    rw [this, h]; rfl)
  have t4 : ((m.fields.map mkB).length : Int) - 4 = ((m.opts.length + 6 + 0 : Nat) : Int) := by omega
  have t3 : ((m.fields.map mkB).length : Int) - 3 = ((m.opts.length + 6 + 1 : Nat) : Int) := by omega
  have t2 : ((m.fields.map mkB).length : Int) - 2 = ((m.opts.length + 6 + 2 : Nat) : Int) := by omega
  have t1 : ((m.fields.map mkB).length : Int) - 1 = ((m.opts.length + 6 + 3 : Nat) : Int) := by omega
  have hmid : ((m.fields.map mkB).take ((m.fields.map mkB).length - 4)).drop 6 = m.opts.map mkB := by
    rw [hlen, ← List.map_take, ← List.map_drop]
    congr 1
    unfold LM.fields
    rw [← List.append_assoc, show m.opts.length + 10 - 4 = (m.heads ++ m.opts).length from by simp [LM.heads]; try omega, List.take_left]
    rw [show (6 : Nat) = m.heads.length from rfl, List.drop_left]
  have hj : Lib.join ((((m.fields.map mkB).take ((m.fields.map mkB).length - 4)).drop 6).map (·.data.toList)) [32] = m.s7 := by
    rw [hmid, List.map_map]
    have : ((fun x : ByteArray => x.data.toList) ∘ mkB) = id := by funext x; simp [mkB_dl]
    rw [this, List.map_id]
    unfold LM.opts
    split
    · rename_i e; rw [e]; rfl
    · exact join_splitL 32 m.s7
  have hs7 : m.s7.length ≤ 60000 := by
    rw [← hj, hmid]
    have : ((fun x : ByteArray => x.data.toList) ∘ mkB) = id := by funext x; simp [mkB_dl]
    rw [List.map_map, this, List.map_id]
    unfold LM.opts
    split
    · simp [Lib.join]
    · rename_i e7
      rw [join_splitL]
      rw [line_is] at hl
      simp only [LM.mid, if_neg e7, List.length_append, List.length_cons] at hl
      omega
  refine Ev.congr (f := fun k => (mountinfo_zzSplit.f k (mkB m.line) (mkB [32])).bind fun fs => _) (fun k => by rw [lineF]; rfl) ?_
  refine bind_ hsp ?_
  simp only [t4, t3, t2, t1, tl 0 _ rfl, tl 1 _ rfl, tl 2 _ rfl, tl 3 _ rfl, hj]
  have e0 : rdOf ByteArray.empty (m.fields.map mkB) 0 = mkB (Lib.decDigits m.i0) := hd 0 _ rfl
  have e1 : rdOf ByteArray.empty (m.fields.map mkB) 1 = mkB (Lib.decDigits m.i1) := hd 1 _ rfl
  have e2 : rdOf ByteArray.empty (m.fields.map mkB) 2 = mkB (Lib.decDigits m.i2 ++ 58 :: Lib.decDigits m.i3) := hd 2 _ rfl
  have e3 : rdOf ByteArray.empty (m.fields.map mkB) 3 = mkB (octL m.s4) := hd 3 _ rfl
  have e4 : rdOf ByteArray.empty (m.fields.map mkB) 4 = mkB (octL m.s5) := hd 4 _ rfl
  have e5 : rdOf ByteArray.empty (m.fields.map mkB) 5 = mkB m.s6 := hd 5 _ rfl
  have ej : joinF (m.fields.map mkB) = mkB m.s7 := by unfold joinF; rw [hj]; rfl
  have mem : ∀ x, x ∈ m.heads ∨ x ∈ m.tails → x ∈ m.fields := fun x h => by
    unfold LM.fields
    rcases h with h | h
    · exact List.mem_append_left _ h
    · exact List.mem_append_right _ (List.mem_append_right _ h)
  have z2 := small _ (mem _ (.inl (show Lib.decDigits m.i2 ++ 58 :: Lib.decDigits m.i3 ∈ m.heads from by simp [LM.heads])))
  have z3 := small _ (mem _ (.inl (show octL m.s4 ∈ m.heads from by simp [LM.heads])))
  have z4 := small _ (mem _ (.inl (show octL m.s5 ∈ m.heads from by simp [LM.heads])))
  have z9 := small _ (mem _ (.inr (show octL m.s9 ∈ m.tails from by simp [LM.tails])))
  have z8 := small _ (mem _ (.inr (show m.s8 ∈ m.tails from by simp [LM.tails])))
  have g5 := octL_ge m.s5
  have o8 := octL_word (word_clean w8).2
  have u8 := unesc_is m.s8 (by rw [o8]; omega)
  rw [o8] at u8
  simp only [e0, e1, e2, e3, e4, e5, ej]
  refine guard_e ⟨by omega, by omega, mkB_toList _, by omega⟩ ?_
  refine bind_ (cut_at 58 (Lib.decDigits m.i2) (Lib.decDigits m.i3) (by omega) (decDigits_not _ _ (by decide))) ?_
  refine guard_e rfl ?_
  simp only [toInt_is _ ho.n0, toInt_is _ ho.n1, toInt_is _ ho.n2, toInt_is _ ho.n3, Option.bind_some]
  refine bind_ (unesc_is m.s4 (by omega)) ?_
  refine bind_ (unesc_is m.s5 (by omega)) ?_
  refine bind_ u8 ?_
  refine bind_ (unesc_is m.s9 (by omega)) ?_
  exact guard_e (by rw [mkB_size]; omega) (Ev.now _)
/-! the text, line by line -/
theorem lineEnd_at_lf (a b : List UInt8) (ha : (10 : UInt8) ∉ a) : lineEnd (mkB (a ++ 10 :: b)) = a.length := by
  unfold lineEnd
  rw [mkB_dl, List.findIdx_append]
  have h0 : List.findIdx (· == (10 : UInt8)) a = a.length := List.findIdx_eq_length.2 (fun x hx => by
    simp only [beq_eq_false_iff_ne]
    exact fun e => ha (e ▸ hx))
  have h1 : List.findIdx (fun x => x == (10 : UInt8)) (10 :: b) = 0 := by simp [List.findIdx_cons]
  rw [h0, h1]
  simp
theorem line_last (m : LM) (ho : m.Ok) : ∃ (p : List UInt8) (c : UInt8), m.line = p ++ [c] ∧ 32 < c.toNat := by
  obtain ⟨_, _, _, w6, w8, w10, o7⟩ := tail_parts ho.t
  obtain ⟨hne, hc⟩ := word_clean w10
  obtain ⟨q, c, hq⟩ : ∃ q c, m.s10 = q ++ [c] := ⟨m.s10.dropLast, m.s10.getLast hne, (List.dropLast_concat_getLast hne).symm⟩
  refine ⟨m.head ++ (m.mid ++ (32 :: 45 :: 32 :: (m.s8 ++ (32 :: (octL m.s9 ++ (32 :: q)))))), c, ?_, (hc c (by rw [hq]; simp)).1⟩
  rw [line_is, LM.foot, hq]
  simp
/-- A text is read as mounts, with rounds enough. -/
def ReadsT (t : List UInt8) (ms : List S36) : Prop := ∃ K, ∀ k, K ≤ k → ∀ q, K ≤ q → textF k q (mkB t) = some ms
theorem reads_nil : ReadsT [] [] := ⟨1, fun k hk q hq => by
  obtain ⟨q, rfl⟩ : ∃ p, q = p + 1 := ⟨q - 1, by omega⟩
  unfold textF
  rw [if_pos (by simp [mkB_size])]⟩
theorem reads_cons (m : LM) (ho : m.Ok) (r : List UInt8) (ms : List S36) (hl : m.line.length ≤ 60000) (hr : r.length ≤ 900000) (h : ReadsT r ms) : ReadsT (m.line ++ 10 :: r) (m.to36 :: ms) := by
  obtain ⟨K1, h1⟩ := h
  obtain ⟨K2, h2⟩ := line_read m ho hl
  replace h2 : ∀ k, K2 ≤ k → lineF k (mkB m.line) = some m.to36 := h2
  have hle := lineEnd_at_lf m.line r (line_no m ho)
  have hz : (mkB (m.line ++ 10 :: r)).size = m.line.length + r.length + 1 := by rw [mkB_size]; simp; omega
  have hlo : lineOf (mkB (m.line ++ 10 :: r)) = mkB m.line := by
    unfold lineOf
    rw [hle]
    exact extract_mid [] m.line (10 :: r) (by simp) rfl (by simp)
  have hro : restOf (mkB (m.line ++ 10 :: r)) = mkB r := by
    unfold restOf
    rw [hle, if_pos (by omega)]
    exact extract_end (m.line ++ [10]) r (by simp) (by simp) (by rw [mkB_size])
  obtain ⟨p, c, hp, hc⟩ := line_last m ho
  have hb : bt (mkB m.line) (((mkB m.line).size : Int) - 1) = (c.toNat : Int) := by
    have := bt_mid p c [] (l := m.line) hp
    rw [mkB_size, show ((m.line.length : Nat) : Int) - 1 = (p.length : Int) from by rw [hp]; simp]
    exact this
  refine ⟨max K1 K2 + 1, fun k hk q hq => ?_⟩
  obtain ⟨q, rfl⟩ : ∃ p, q = p + 1 := ⟨q - 1, by omega⟩
  unfold textF
  rw [if_neg (by omega), if_pos ⟨by omega, by omega, by rw [hlo, hb]; omega⟩, hlo, hro, h2 k (by omega), h1 k (by omega) q (by omega)]
  rfl
theorem reads_list : ∀ (l : List S36) (r : List UInt8) (ms : List S36), l.all validS = true → (printL l).length ≤ 60000 → (printL l).length + r.length ≤ 900000 → ReadsT r ms → ReadsT (printL l ++ r) (l ++ ms)
  | [], r, ms, _, _, _, h => h
  | x :: l, r, ms, hv, hl, hr, h => by
    rw [List.all_cons, Bool.and_eq_true] at hv
    have e : printL (x :: l) = (lm x).line ++ 10 :: printL l := by simp [printL]
    rw [e] at hl hr ⊢
    simp only [List.length_append, List.length_cons] at hl hr
    have ih := reads_list l r ms hv.2 (by omega) (by omega) h
    have := reads_cons (lm x) (lm_ok hv.1) (printL l ++ r) (l ++ ms) (by omega) (by simp only [List.length_append]; omega) ih
    rw [lm_36 hv.1] at this
    simpa using this
theorem reads_ev {t : List UInt8} {ms : List S36} (h : ReadsT t ms) : Ev (fun k => textF k k (mkB t)) ms := by
  obtain ⟨K, h⟩ := h
  exact ⟨K, fun k hk => h k hk k hk⟩
/-! impl.Mounts, and the statements' small helpers -/
theorem mounts_ev {t : List UInt8} {ms : List S36} (h : ReadsT t ms) (kind : Int) (ps : List ByteArray) (r : List S36 × Int) (hr : mountsOf ms kind ps = some r) : Ev (fun k => impl_Mounts.f k (mkB t) kind ps) r := by
  refine bind_ (reads_ev h) ?_
  rw [hr]
  exact Ev.now _
theorem same_go (a b : List S36) (hl : a.length ≤ 1000000) (hab : b.length = a.length) : ∀ (r p : List S36), a = p ++ r → b = p ++ r → Ev (fun k => laws_sameMounts.l0 k a b (a.length : Int) (p.length : Int)) true
  | [], p, h, h2 => by
    have hz : (a.length : Int) = p.length := by rw [h]; simp
    refine Ev.step (f := fun _ => some true) (fun k => ?_) (Ev.now _)
    simp only [laws_sameMounts.l0]
    rw [if_neg (by omega)]
  | x :: r, p, h, h2 => by
    have ih := same_go a b hl hab r (p ++ [x]) (by rw [h]; simp) (by rw [h2]; simp)
    have hz : (a.length : Int) = p.length + (r.length + 1) := by rw [h]; simp
    have ea : rd_T36 a (p.length : Int) = x := by rw [h]; simp [rd_T36]
    have eb : rd_T36 b (p.length : Int) = x := by rw [h2]; simp [rd_T36]
    refine Ev.step (f := fun k => laws_sameMounts.l0 k a b (a.length : Int) ((p ++ [x]).length : Int)) (fun k => ?_) ih
    simp only [laws_sameMounts.l0]
    rw [if_pos (by omega), if_pos (by omega), if_pos (by omega), if_pos (by omega), ea, eb, wr _ _ (by omega) (by omega)]
    simp
theorem same_is (a : List S36) (hl : a.length ≤ 1000000) : Ev (fun k => laws_sameMounts.f k a a) true := by
  refine Ev.congr (fun k => ?_) (same_go a a hl rfl a [] (by simp) (by simp))
  unfold laws_sameMounts.f
  rw [if_pos rfl]
  rfl
end Go.Proofs.YtdmccakncgdbhaaDoor.ML
