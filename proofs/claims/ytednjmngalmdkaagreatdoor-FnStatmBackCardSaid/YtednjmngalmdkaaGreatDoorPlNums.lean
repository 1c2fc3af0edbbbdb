/- Plain facts: numbers written with a sign between, and read again as words. Conditions: at most 100,000 numbers of 64 bits. -/
import Derived.Test.YtednjmngalmdkaaGreatDoorPlFlt
import Derived.Test.YtednjmngalmdkaaGreatDoorGPCx2
import Derived.Test.YtednjmngalmdkaaGreatDoorGPCx7
namespace Go.Proofs.YtednjmngalmdkaaGreatDoor.GPC
open Go Go.RowKit Go.Proofs.YtednjmngalmdkaaGreatDoorW.PrintWords Go.Proofs.YtednjmngalmdkaaGreatDoorW.PrintLast Go.Proofs.YtednjmngalmdkaaGreatDoor.PF
set_option linter.unusedVariables false
theorem evG {α : Type} {c : Prop} [Decidable c] {A : Nat → Option α} {r : α} (h : c) (hA : Ev A r) : Ev (fun k => if c then A k else none) r := Ev.congr (fun k => if_pos h) hA
theorem evN {α : Type} {c : Prop} [Decidable c] {A B : Nat → Option α} {r : α} (h : ¬ c) (hA : Ev B r) : Ev (fun k => if c then A k else B k) r := Ev.congr (fun k => if_neg h) hA
theorem evP {α : Type} {c : Prop} [Decidable c] {A B : Nat → Option α} {r : α} (h : c) (hA : Ev A r) : Ev (fun k => if c then A k else B k) r := Ev.congr (fun k => if_pos h) hA
theorem evB {α β : Type} {g : Nat → Option α} {a : α} {F : Nat → α → Option β} {r : β} (h : Ev g a) (hF : Ev (fun k => F k a) r) : Ev (fun k => (g k).bind (F k)) r := Ev.bind (f := F) h hF
def tailW (bs : List UInt8) (ws : List (List UInt8)) : List UInt8 := ws.flatMap fun w => bs ++ w
theorem words_tail (bs : List UInt8) : ∀ (w : List UInt8) (r : List (List UInt8)), Words bs (w :: r) = w ++ tailW bs r
  | w, [] => by simp [Words, tailW]
  | w, v :: r => by
    rw [Words, words_tail bs v r]
    simp [tailW, List.flatMap_cons]
theorem rdB (l : List (List UInt8)) (i : Nat) (h : i < l.length) : rdOf ByteArray.empty (l.map strB) (i : Int) = strB l[i] := by
  simp [rdOf, List.getD_eq_getElem?_getD, h]
theorem join_l (bs : List UInt8) (hbs : bs.length ≤ 10) (ws : List (List UInt8)) (hl : ws.length ≤ 100000) (hw : ∀ w ∈ ws, w.length ≤ 1000) : ∀ (d i : Nat) (acc : List UInt8), i + d = ws.length → 0 < i → acc.length ≤ 2000 * i →
    Ev (fun k => spec_Join.l0 k (strB bs) (strB acc) (ws.map strB) (ws.length : Int) (i : Int)) (strB (acc ++ tailW bs (ws.drop i)))
  | 0, i, acc, h, h0, ha => by
    rw [List.drop_eq_nil_of_le (by omega)]
    refine Ev.step (f := fun _ => some (strB acc)) (fun k => by simp only [spec_Join.l0]; rw [if_neg (by omega)]) ?_
    simp only [tailW, List.flatMap_nil, List.append_nil]
    exact Ev.now _
  | d + 1, i, acc, h, h0, ha => by
    have hi : i < ws.length := by omega
    have hw1 : wrap64 ((i : Int) + 1) = ((i + 1 : Nat) : Int) := by unfold wrap64; omega
    have hlw := hw ws[i] (List.getElem_mem hi)
    have ih := join_l bs hbs ws hl hw d (i + 1) (acc ++ (bs ++ ws[i])) (by omega) (by omega) (by simp only [List.length_append]; omega)
    rw [List.drop_eq_getElem_cons hi, tailW, List.flatMap_cons, ← List.append_assoc]
    refine Ev.step (fun k => ?_) ih
    simp only [spec_Join.l0]
    rw [if_pos (by omega), if_pos (by omega), if_pos (by simp; omega), if_pos (by omega), rdB ws i hi, if_pos (by rw [strB_size, strB_size]; omega), strB_append, if_pos (by rw [strB_size, strB_size, List.length_append]; omega), strB_append, hw1, List.append_assoc]
theorem join_ev (bs : List UInt8) (hbs : bs.length ≤ 10) (ws : List (List UInt8)) (hl : ws.length ≤ 100000) (hw : ∀ w ∈ ws, w.length ≤ 1000) : Ev (fun k => spec_Join.f k (ws.map strB) (strB bs)) (strB (Words bs ws)) := by
  have hlen : ((ws.map strB).length : Int) = (ws.length : Int) := by simp
  refine Ev.congr (f := fun k => spec_Join.l0 k (strB bs) (⟨#[]⟩ : ByteArray) (ws.map strB) (ws.length : Int) 0) (fun k => by simp only [spec_Join.f, hlen]) ?_
  cases ws with
  | nil => exact Ev.step (f := fun _ => some (⟨#[]⟩ : ByteArray)) (fun k => by simp only [spec_Join.l0]; rw [if_neg (by simp)]) (Ev.now _)
  | cons w r =>
    have hlw := hw w (by simp)
    have := join_l bs hbs (w :: r) hl hw r.length 1 w (by simp; omega) (by omega) (by omega)
    rw [List.drop_succ_cons, List.drop_zero, ← words_tail] at this
    refine Ev.step (fun k => ?_) this
    have h0 := rdB (w :: r) 0 (by simp)
    simp only [List.getElem_cons_zero] at h0
    simp only [spec_Join.l0]
    rw [if_pos (by simp only [List.length_cons]; omega), if_pos (by omega), if_pos (by simp only [List.length_map, List.length_cons]; omega), if_neg (by omega), show (0 : Int) = ((0 : Nat) : Int) from rfl, h0, if_pos (by rw [strB_size, show (⟨#[]⟩ : ByteArray).size = 0 from rfl]; omega), show (⟨#[]⟩ : ByteArray) = strB [] from rfl, strB_append, show wrap64 (((0 : Nat) : Int) + 1) = ((1 : Nat) : Int) by unfold wrap64; omega, List.nil_append]
def intsOf (ns : List Nat) : List Int := ns.map Int.ofNat
theorem intsOf_len (ns : List Nat) : (intsOf ns).length = ns.length := by simp [intsOf]
theorem rd_ints (ns : List Nat) (i : Nat) (h : i < ns.length) : rd (intsOf ns) (i : Int) = (ns[i] : Int) := by
  simp [rd, intsOf, List.getD_eq_getElem?_getD, List.getElem?_eq_getElem h]
def decs (ns : List Nat) : List (List UInt8) := ns.map (digB 10)
theorem nums_l (bs : List UInt8) (hbs : bs.length ≤ 10) (ns : List Nat) (hl : ns.length ≤ 100000) (hn : ∀ n ∈ ns, n < 18446744073709551616) : ∀ (d i : Nat), i + d = ns.length →
    Ev (fun k => spec_numbers.l0 k (strB bs) (((decs ns).take i).map strB) (intsOf ns) (ns.length : Int) (i : Int)) (strB (Words bs (decs ns)))
  | 0, i, h => by
    have hd : (decs ns).take i = decs ns := List.take_of_length_le (by simp [decs]; omega)
    rw [hd]
    have hj := join_ev bs hbs (decs ns) (by simp [decs]; omega) (fun w hw => by
      simp only [decs, List.mem_map] at hw
      obtain ⟨n, hm, rfl⟩ := hw
      have := dig_len n (hn n hm)
      omega)
    refine Ev.step (f := fun k => (spec_Join.f k ((decs ns).map strB) (strB bs)).bind fun t => some t) (fun k => by simp only [spec_numbers.l0]; rw [if_neg (by omega)]) (evB hj (Ev.now _))
  | d + 1, i, h => by
    have hi : i < ns.length := by omega
    have hi2 : i < (decs ns).length := by simpa [decs] using hi
    have hw1 : wrap64 ((i : Int) + 1) = ((i + 1 : Nat) : Int) := by unfold wrap64; omega
    have ih := nums_l bs hbs ns hl hn d (i + 1) (by omega)
    have hrd := rd_ints ns i hi
    have htk : (((decs ns).take i).map strB) ++ [strB (digB 10 ns[i])] = ((decs ns).take (i + 1)).map strB := by
      rw [List.take_add_one, List.getElem?_eq_getElem hi2, List.map_append]
      simp [decs]
    refine Ev.step (f := fun k => (spec_Text.f k (ns[i] : Int)).bind fun t => if (((decs ns).take i).map strB).length < 8796093022208 then spec_numbers.l0 k (strB bs) ((((decs ns).take i).map strB) ++ [t]) (intsOf ns) (ns.length : Int) ((i + 1 : Nat) : Int) else none) (fun k => ?_) (evB (text_ev ns[i] (hn _ (List.getElem_mem hi))) (evG (by simp only [List.length_map, List.length_take]; omega) ?_))
    · simp only [spec_numbers.l0]
      rw [if_pos (by omega), if_pos (by omega), if_pos (by rw [intsOf_len]; omega), hrd, hw1]
    · rw [htk]
      exact ih
theorem nums_ev (bs : List UInt8) (hbs : bs.length ≤ 10) (ns : List Nat) (hl : ns.length ≤ 100000) (hn : ∀ n ∈ ns, n < 18446744073709551616) : Ev (fun k => spec_numbers.f k (intsOf ns) (strB bs)) (strB (Words bs (decs ns))) := by
  have := nums_l bs hbs ns hl hn ns.length 0 (by omega)
  refine Ev.congr (fun k => ?_) this
  simp only [spec_numbers.f, intsOf_len]
  rfl
theorem dec_word (n : Nat) : digB 10 n ≠ [] ∧ (∀ c ∈ digB 10 n, Lib.isSp c = false) ∧ ∀ c ∈ digB 10 n, c.toNat < 128 :=
  ⟨digB_ne 10 n, fun c hc => isDig_sp (by have := dig10 n c hc; unfold isDig; simp [this.1, this.2]), fun c hc => by have := dig10 n c hc; omega⟩
/-- words between blanks, an end of a line behind them -/
theorem fields_end (b e : UInt8) (hb : Lib.isSp b = true) (he : Lib.isSp e = true) : ∀ (ws : List (List UInt8)), (∀ w ∈ ws, w ≠ [] ∧ ∀ c ∈ w, Lib.isSp c = false) → Lib.fields (Words [b] ws ++ [e]) = ws
  | [], _ => by rw [Words, List.nil_append]; exact fields_blanks [e] [] (by simpa using he)
  | [w], h => by
    rw [Words, fields_word w e [] (h w (by simp)).1 (h w (by simp)).2 he]
    rw [show Lib.fields [e] = [] from fields_blanks [e] [] (by simpa using he)]
  | w :: v :: r, h => by
    have ih := fields_end b e hb he (v :: r) (fun x hx => h x (by simp [hx]))
    rw [Words, List.append_assoc, List.append_assoc, List.singleton_append, fields_word w b _ (h w (by simp)).1 (h w (by simp)).2 hb, show b :: (Words [b] (v :: r) ++ [e]) = [b] ++ (Words [b] (v :: r) ++ [e]) from rfl, fields_blanks [b] _ (by simpa using hb), ih]
theorem words_mem (b : UInt8) : ∀ (ws : List (List UInt8)) (c : UInt8), c ∈ Words [b] ws → c = b ∨ ∃ w ∈ ws, c ∈ w
  | [], c, h => by simp [Words] at h
  | [w], c, h => .inr ⟨w, by simp, by simpa [Words] using h⟩
  | w :: v :: r, c, h => by
    simp only [Words, List.mem_append, List.mem_singleton] at h
    rcases h with h | h | h
    · exact .inr ⟨w, by simp, h⟩
    · exact .inl h
    · rcases words_mem b (v :: r) c h with h | ⟨x, hx, hc⟩
      · exact .inl h
      · exact .inr ⟨x, by simp [hx], hc⟩
theorem words_len (b : UInt8) : ∀ (ws : List (List UInt8)) (m : Nat), (∀ w ∈ ws, w.length ≤ m) → (Words [b] ws).length ≤ (m + 1) * ws.length
  | [], m, _ => by simp [Words]
  | [w], m, h => by have := h w (by simp); simp [Words]; omega
  | w :: v :: r, m, h => by
    have ih := words_len b (v :: r) m (fun x hx => h x (by simp [hx]))
    have h1 := h w (by simp)
    simp only [Words, List.length_append, List.length_cons, List.length_nil] at ih ⊢
    rw [show (m + 1) * (r.length + 1 + 1) = (m + 1) * (r.length + 1) + (m + 1) from Nat.mul_succ _ _]
    generalize (m + 1) * (r.length + 1) = X at ih ⊢
    omega
theorem pu10 (n : Nat) (hn : n < 18446744073709551616) : strconv_ParseUint.f (strB (digB 10 n)) 10 64 = some ((n : Int), none) := by
  have hl := dig_len n hn
  have hne := digB_ne 10 n
  have hpos : 0 < (digB 10 n).length := List.length_pos_iff.2 hne
  unfold strconv_ParseUint.f istrconv_ParseUint.f
  rw [if_neg (by rw [strB_size]; omega), if_pos ⟨rfl, rfl⟩, if_neg (by rw [strB_size]; omega), show (strB (digB 10 n)).data.toList = digB 10 n by simp [strB], puN_dig 10 n 18446744073709551615 (by omega) (by omega) (by omega)]
  rfl
theorem parse_l (ns : List Nat) (hl : ns.length ≤ 100000) (hn : ∀ n ∈ ns, n < 18446744073709551616) : ∀ (d i : Nat), i + d = ns.length →
    Ev (fun k => procfs_parseStatm.l0 k (intsOf (ns.take i)) ((decs ns).map strB) (ns.length : Int) (i : Int)) (intsOf ns, none)
  | 0, i, h => by
    rw [List.take_of_length_le (by omega)]
    exact Ev.step (f := fun _ => some (intsOf ns, none)) (fun k => by simp only [procfs_parseStatm.l0]; rw [if_neg (by omega)]) (Ev.now _)
  | d + 1, i, h => by
    have hi : i < ns.length := by omega
    have hi2 : i < (decs ns).length := by simpa [decs] using hi
    have hw1 : wrap64 ((i : Int) + 1) = ((i + 1 : Nat) : Int) := by unfold wrap64; omega
    have ih := parse_l ns hl hn d (i + 1) (by omega)
    have hrd := rdB (decs ns) i hi2
    rw [show (decs ns)[i] = digB 10 ns[i] by simp [decs]] at hrd
    have htk : (intsOf (ns.take i)) ++ [(ns[i] : Int)] = intsOf (ns.take (i + 1)) := by
      unfold intsOf
      rw [List.take_add_one, List.getElem?_eq_getElem hi, List.map_append]
      rfl
    refine Ev.step (fun k => ?_) ih
    simp only [procfs_parseStatm.l0]
    rw [if_pos (by omega), if_pos (by omega), if_pos (by simp [decs]; omega), hrd, pu10 _ (hn _ (List.getElem_mem hi))]
    simp only [Option.bind_some, Option.isNone_none, if_true]
    rw [if_pos (by rw [intsOf_len, List.length_take]; omega), hw1, htk]
theorem strNums2 (s : ByteArray) : strOfNums (s.data.toList.map fun b => (b.toNat : Int)) = s := by
  apply ByteArray.ext
  apply Array.toList_inj.1
  simp only [strOfNums]
  simp only [List.map_map]
  have e : ((fun n => UInt8.ofNat n.toNat) ∘ fun b : UInt8 => (b.toNat : Int)) = id := funext fun b => by simp [Function.comp]
  rw [e, List.map_id]
end Go.Proofs.YtednjmngalmdkaaGreatDoor.GPC
