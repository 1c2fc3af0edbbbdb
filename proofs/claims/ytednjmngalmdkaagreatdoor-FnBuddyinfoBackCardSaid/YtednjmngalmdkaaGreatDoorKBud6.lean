/- What /proc/buddyinfo says, written in the documented form, is read as its tree: the tied card of FnBuddyinfoBack. No condition beyond the card's own. -/
import Derived.Test.YtednjmngalmdkaaGreatDoorKBud0
import Derived.Test.YtednjmngalmdkaaGreatDoorKBud1
import Derived.Test.YtednjmngalmdkaaGreatDoorKBud2
import Derived.Test.YtednjmngalmdkaaGreatDoorKBud5
import Derived.Test.YtednjmngalmdkaaGreatDoorRows
import Derived.Test.YtednjmngalmdkaaGreatDoorChecked
import Derived.JoinedOf
import Derived.KernelRfl
import Derived.Test.YtednjmngalmdkaaGreatDoorCards
import Derived.Test.YtednjmngalmdkaaGreatDoorTie
import Derived.Lay
import Derived.MakeChecks
import Derived.WalkKit
import Derived.ProofKit
import Derived.OpenShut
import Derived.ShutString
import Derived.ChangeOld
import Derived.Below
import Derived.SizedLaws
import Derived.LaidMore
import Derived.SevenTiedAt
import Derived.Stop.Joined
section
/- The parsed text of /proc/buddyinfo: one row. Conditions: words, lengths. -/
namespace Go.Proofs.YtednjmngalmdkaaGreatDoor.GPC
open Go Go.RowKit Go.Proofs.YtednjmngalmdkaaGreatDoorW.PrintWords Go.Proofs.YtednjmngalmdkaaGreatDoorW.PrintLast Go.Proofs.YtednjmngalmdkaaGreatDoor.PF
set_option linter.unusedVariables false
def bdP (a b : List UInt8) : List (List UInt8) := [[78, 111, 100, 101], a ++ [44], [122, 111, 110, 101], b]
theorem bd_row (acc : List S75) (x6 : Int) (a b : List UInt8) (ns : List Nat) (R : List UInt8) (s1 : ByteArray) (ha : Cl a) (hb : Cl b) (hcb : ∀ c ∈ b, c ≠ 44) (hc : ∀ c ∈ bdLine a b ns, c.toNat < 128 ∧ c ≠ 10 ∧ c ≠ 13)
  (hll : (bdLine a b ns).length < 65536) (hs : (bdLine a b ns ++ 10 :: R).length ≤ 1000000) (hal : a.length ≤ 65536) (hbl : b.length ≤ 65536) (hx6 : x6 = -1 ∨ x6 = (ns.length : Int)) (hl : ns.length ≤ 100000) (hn : ∀ n ∈ ns, n < 1099511627776) (hacc : acc.length ≤ 100000)
  (r : List S75 × Option Int)
  (hr : Ev (fun k => procfs_parseBuddyInfo.l0 k (acc ++ [⟨strB a, strB b, ns.map fltN⟩]) (ns.length : Int) (strB R) (strB (bdLine a b ns)) 65536 none) r) :
  Ev (fun k => procfs_parseBuddyInfo.l0 k acc x6 (strB (bdLine a b ns ++ 10 :: R)) s1 65536 none) r := by
 have h1 := scan_line (bdLine a b ns) R s1 (by simp [bdLine]) (fun c h => (hc c h).2) hll hs
 have hf : strings_Fields.f (strB (bdLine a b ns)) = some ((bdP a b ++ decs ns).map strB) := by
  unfold strings_Fields.f
  rw [if_pos ⟨by rw [strB_size]; omega, by rw [strB_dl, List.all_eq_true]; exact fun c h => decide_eq_true (hc c h).1⟩, strB_dl, fields_line a b ns ha hb]
  rfl
 have hlen : ((bdP a b ++ decs ns).map strB).length = ns.length + 4 := by simp [decs, bdP]
 have h2 : rdOf ByteArray.empty ((bdP a b ++ decs ns).map strB) 1 = strB (a ++ [44]) := rfl
 have h3 : rdOf ByteArray.empty ((bdP a b ++ decs ns).map strB) 3 = strB b := rfl
 have hd : (((bdP a b ++ decs ns).map strB).drop 4).length = ns.length := by rw [List.length_drop, hlen]; omega
 have hj : Ev (fun k => procfs_parseBuddyInfo.j1 k acc (ns.length : Int) ((bdP a b ++ decs ns).map strB) (strB a) (strB b) (ns.length : Int) (strB R) (strB (bdLine a b ns)) 65536 none) r := by
  have := bd_floats acc (ns.length : Int) (strB a) (strB b) (strB R) (strB (bdLine a b ns)) 65536 none (bdP a b) rfl ns hl hn hacc r ns.length 0 (by omega) hr
  refine Ev.step (fun k => ?_) this
  simp only [procfs_parseBuddyInfo.j1]
  rw [if_pos (by omega), Int.toNat_natCast, if_pos (by omega)]
  rfl
 refine Ev.step (fun k => ?_) hj
 simp only [procfs_parseBuddyInfo.l0]
 rw [h1]
 simp only [Option.bind_some]
 simp only [if_true, texts_Lines_Text.f, Option.bind_some]
 rw [hf]
 simp only [Option.bind_some]
 rw [if_neg (by rw [hlen]; omega), if_pos (by rw [hlen]; omega), h2, trim_comma a (by omega)]
 simp only [Option.bind_some]
 rw [if_pos (by rw [hlen]; omega), h3, trim_none b hb.1 (by omega) hcb]
 simp only [Option.bind_some]
 rw [if_pos (by rw [hlen]; omega), hd]
 rcases hx6 with h | h
 ·rw [if_pos h]
 ·by_cases h' : x6 = -1
  ·rw [if_pos h']
  ·rw [if_neg h', if_pos h, h]
abbrev BdT := List UInt8 × List UInt8 × List Nat
def bdText (rs : List BdT) : List UInt8 := rs.flatMap fun t => bdLine t.1 t.2.1 t.2.2 ++ [10]
def bdS (t : BdT) : S75 := ⟨strB t.1, strB t.2.1, t.2.2.map fltN⟩
structure BdOk (c : Nat) (t : BdT) : Prop where
 a : Cl t.1
 b : Cl t.2.1
 nc : ∀ x ∈ t.2.1, x ≠ 44
 asc : ∀ x ∈ bdLine t.1 t.2.1 t.2.2, x.toNat < 128 ∧ x ≠ 10 ∧ x ≠ 13
 len : (bdLine t.1 t.2.1 t.2.2).length < 65536
 al : t.1.length ≤ 65536
 bl : t.2.1.length ≤ 65536
 cnt : t.2.2.length = c
 small : ∀ n ∈ t.2.2, n < 1099511627776
theorem bd_parse (c : Nat) (hc : c ≤ 100000) : ∀ (rs : List BdT) (acc : List S75) (x6 : Int) (s1 : ByteArray), (∀ t ∈ rs, BdOk c t) → (x6 = -1 ∨ x6 = (c : Int)) → (bdText rs).length ≤ 1000000 → acc.length + rs.length ≤ 100000 →
  Ev (fun k => procfs_parseBuddyInfo.l0 k acc x6 (strB (bdText rs)) s1 65536 none) (acc ++ rs.map bdS, none)
 | [], acc, x6, s1, _, _, _, _ => by
  rw [List.map_nil, List.append_nil]
  refine Ev.step (f := fun _ => some (acc, none)) (fun k => ?_) (Ev.now _)
  simp only [procfs_parseBuddyInfo.l0]
  rw [show strB (bdText []) = strB [] from rfl, scan_end]
  rfl
 | t :: rs, acc, x6, s1, ho, hx, hl, hn => by
  have h := ho t (by simp)
  have e : bdText (t :: rs) = bdLine t.1 t.2.1 t.2.2 ++ 10 :: bdText rs := by
   show (bdLine t.1 t.2.1 t.2.2 ++ [10]) ++ bdText rs = _
   rw [List.append_assoc]
   rfl
  rw [e] at hl ⊢
  simp only [List.length_cons] at hn
  have ih := bd_parse c hc rs (acc ++ [bdS t]) (c : Int) (strB (bdLine t.1 t.2.1 t.2.2)) (fun u hu => ho u (by simp [hu])) (.inr rfl) (by simp only [List.length_append, List.length_cons] at hl; omega) (by simp only [List.length_append, List.length_cons, List.length_nil]; omega)
  rw [List.append_assoc, List.singleton_append] at ih
  exact bd_row acc x6 t.1 t.2.1 t.2.2 (bdText rs) s1 h.a h.b h.nc h.asc h.len hl h.al h.bl (by rw [h.cnt]; exact hx) (by rw [h.cnt]; exact hc) h.small (by omega) _ (by rw [h.cnt]; exact ih)
theorem bd_read (c : Nat) (hc : c ≤ 100000) (rs : List BdT) (ho : ∀ t ∈ rs, BdOk c t) (hl : (bdText rs).length ≤ 1000000) (hn : rs.length ≤ 100000) : Ev (fun k => procfs_parseBuddyInfo.f k (strB (bdText rs))) (rs.map bdS, none) := by
 have h := bd_parse c hc rs [] (-1) ⟨#[]⟩ ho (.inl rfl) hl (by simpa using hn)
 rw [List.nil_append] at h
 exact h
end Go.Proofs.YtednjmngalmdkaaGreatDoor.GPC
end
section
/- The printed text of /proc/buddyinfo: one row. Conditions: lengths. -/
namespace Go.Proofs.YtednjmngalmdkaaGreatDoor.GPC
open Go Go.RowKit Go.Proofs.YtednjmngalmdkaaGreatDoorW.PrintWords Go.Proofs.YtednjmngalmdkaaGreatDoorW.PrintLast Go.Proofs.YtednjmngalmdkaaGreatDoor.PF
set_option linter.unusedVariables false
theorem bd_j1 (x0 x9 : List S31) (x10 x11 : Int) (f0 : ByteArray) (a b : List UInt8) (ns : List Nat) (hal : a.length ≤ 4000000000) (hbl : b.length ≤ 4000000000) (hl : ns.length ≤ 4000000000) (hn : ∀ n ∈ ns, n < 18446744073709551616) (acc : List UInt8) (hacc : acc.length ≤ 100000000000000000) (r : ByteArray × Int)
  (hr : Ev (fun k => spec_BuddyinfoPrint.l0 k x0 (strB (acc ++ (bdLine a b ns ++ [10]))) x9 x10 (wrap64 (x11 + 1))) r) :
  Ev (fun k => spec_BuddyinfoPrint.j1 k x0 (strB acc) x9 x10 x11 false f0 (intsOf ns) [strB a, strB b]) r := by
 have hp : (padS 8 b).length ≤ 4000000008 := by simp only [padS, List.length_append, List.length_replicate]; omega
 have e0 : rdOf ByteArray.empty [strB a, strB b] 0 = strB a := rfl
 have e1 : rdOf ByteArray.empty [strB a, strB b] 1 = strB b := rfl
 have hl1 := bd_nums x0 x9 x10 x11 ns hl hn r ns.length 0 (acc ++ ((((([78, 111, 100, 101, 32] ++ a) ++ [44, 32, 122, 111, 110, 101, 32]) ++ padS 8 b) ++ [32]))) (by omega) (by
  simp only [List.length_append, List.length_cons, List.length_nil]; omega) (by
  rw [List.drop_zero]
  have e : acc ++ ((((([78, 111, 100, 101, 32] ++ a) ++ [44, 32, 122, 111, 110, 101, 32]) ++ padS 8 b) ++ [32])) ++ (bdNums ns ++ [10]) = acc ++ (bdLine a b ns ++ [10]) := by
   simp [bdLine]
  rw [e]
  exact hr)
 refine Ev.step (f := fun k => (spec_Right.f k (strB b) 8).bind fun t => if (((strB [78, 111, 100, 101, 32]) ++ strB a) ++ strB [44, 32, 122, 111, 110, 101, 32]).size + t.size ≤ 9223372036854775807 then (if ((((strB [78, 111, 100, 101, 32]) ++ strB a) ++ strB [44, 32, 122, 111, 110, 101, 32]) ++ t).size + 1 ≤ 9223372036854775807 then (if (strB acc).size + (((((strB [78, 111, 100, 101, 32]) ++ strB a) ++ strB [44, 32, 122, 111, 110, 101, 32]) ++ t) ++ strB [32]).size ≤ 9223372036854775807 then spec_BuddyinfoPrint.l1 k x0 (strB acc ++ (((((strB [78, 111, 100, 101, 32]) ++ strB a) ++ strB [44, 32, 122, 111, 110, 101, 32]) ++ t) ++ strB [32])) x9 x10 x11 (intsOf ns) ((intsOf ns).length : Int) 0 else none) else none) else none) (fun k => ?_) ?_
 ·simp only [spec_BuddyinfoPrint.j1]
  rw [if_neg (by decide), if_pos (by simp), e0, if_pos (by rw [strB_size]; omega), if_pos (by rw [show (⟨#[78, 111, 100, 101, 32]⟩ : ByteArray) = strB [78, 111, 100, 101, 32] from rfl, strB_append, strB_size]; simp only [List.length_append, List.length_cons, List.length_nil]; omega), if_pos (by simp), e1]
  rfl
 ·refine evB (right_ev 8 (by omega) b) (evG ?_ (evG ?_ (evG ?_ ?_)))
  ·simp only [strB_append, strB_size, List.length_append, List.length_cons, List.length_nil]; omega
  ·simp only [strB_append, strB_size, List.length_append, List.length_cons, List.length_nil]; omega
  ·simp only [strB_append, strB_size, List.length_append, List.length_cons, List.length_nil]; omega
  ·simp only [strB_append, intsOf_len]
   exact hl1
end Go.Proofs.YtednjmngalmdkaaGreatDoor.GPC
end
section
/- spec.words on lists of bytes. Conditions: lengths. -/
namespace Go.Proofs.YtednjmngalmdkaaGreatDoor.GPC
open Go Go.RowKit Go.Proofs.YtednjmngalmdkaaGreatDoorW.PrintWords Go.Proofs.YtednjmngalmdkaaGreatDoorW.PrintLast Go.Proofs.YtednjmngalmdkaaGreatDoor.PF
set_option linter.unusedVariables false
theorem words_l (ws : List (List UInt8)) (hl : ws.length ≤ 4000000000) (hw : ∀ w ∈ ws, w.length ≤ 4000000000) : ∀ (d i : Nat), i + d = ws.length →
  Ev (fun k => spec_words.l0 k (ws.map strB) (ws.length : Int) (i : Int)) ((ws.drop i).all wordB)
 | 0, i, h => by
  rw [List.drop_eq_nil_of_le (by omega), List.all_nil]
  exact Ev.step (f := fun _ => some true) (fun k => by simp only [spec_words.l0]; rw [if_neg (by omega)]) (Ev.now _)
 | d + 1, i, h => by
  have hi : i < ws.length := by omega
  have hw1 : wrap64 ((i : Int) + 1) = ((i + 1 : Nat) : Int) := by unfold wrap64; omega
  have ih := words_l ws hl hw d (i + 1) (by omega)
  have hrd := rdB ws i hi
  rw [List.drop_eq_getElem_cons hi, List.all_cons]
  refine Ev.step (f := fun k => (spec_Word.f k (strB ws[i])).bind fun t => if t = true then spec_words.l0 k (ws.map strB) (ws.length : Int) ((i + 1 : Nat) : Int) else some false) (fun k => by
   simp only [spec_words.l0]
   rw [if_pos (by omega), if_pos (by omega), if_pos (by rw [List.length_map]; omega), hrd, hw1]) ?_
  refine evB (word_ev ws[i] (hw _ (List.getElem_mem _))) ?_
  cases hc : wordB ws[i]
  ·exact Ev.now _
  ·rw [Bool.true_and]
   exact ih
theorem words_ev (ws : List (List UInt8)) (hl : ws.length ≤ 4000000000) (hw : ∀ w ∈ ws, w.length ≤ 4000000000) : Ev (fun k => spec_words.f k (ws.map strB)) (ws.all wordB) := by
 have h := words_l ws hl hw ws.length 0 (by omega)
 rw [List.drop_zero] at h
 exact Ev.congr (fun k => by simp only [spec_words.f, List.length_map]; rfl) h
end Go.Proofs.YtednjmngalmdkaaGreatDoor.GPC
end
section
/- The sizes that zzFits5 lets through, told. No condition. -/
namespace Go.Proofs.YtednjmngalmdkaaGreatDoor.GPC
open Go Go.RowKit Go.Proofs.YtednjmngalmdkaaGreatDoorW.PrintWords Go.Proofs.YtednjmngalmdkaaGreatDoorW.PrintLast Go.Proofs.YtednjmngalmdkaaGreatDoor.PF
set_option linter.unusedVariables false
structure FitR (r : S31) : Prop where
 s : r.f0.size ≤ 2147483647
 n : r.f1.length ≤ 2147483647
 l : r.f2.length ≤ 2147483647
 w : ∀ x ∈ r.f2, x.size ≤ 2147483647
theorem rdOf_el (l : List ByteArray) (i : Int) (h0 : 0 ≤ i) (h : i.toNat < l.length) : rdOf ByteArray.empty l i = l[i.toNat] := by
 simp [rdOf, List.getD_eq_getElem?_getD, List.getElem?_eq_getElem h]
theorem rd31i (l : List S31) (i : Int) (h0 : 0 ≤ i) (h : i.toNat < l.length) : rd_T31 l i = l[i.toNat] := by
 simp [rd_T31, List.getD_eq_getElem?_getD, List.getElem?_eq_getElem h]
theorem zz4F (l : List ByteArray) (hl : l.length ≤ 2147483647) : ∀ (d : Nat) (i : Int), 0 ≤ i → i + d = l.length → ∃ b, Ev (fun k => laws_zzFits4.l0 k l (l.length : Int) i) b ∧ (b = true → ∀ x ∈ l.drop i.toNat, x.size ≤ 2147483647)
 | 0, i, h0, h => ⟨true, Ev.step (f := fun _ => some true) (fun k => by simp only [laws_zzFits4.l0]; rw [if_neg (by omega)]) (Ev.now _), fun _ x hx => by rw [List.drop_eq_nil_of_le (by omega)] at hx; cases hx⟩
 | d + 1, i, h0, h => by
  have hw : wrap64 (i + 1) = i + 1 := by unfold wrap64; omega
  have hi : i.toNat < l.length := by omega
  by_cases hc : ((rdOf ByteArray.empty l i).size : Int) > 2147483647
  ·exact ⟨false, Ev.step (f := fun _ => some false) (fun k => by simp only [laws_zzFits4.l0]; rw [if_pos (by omega), if_pos h0, if_pos (by omega), if_pos hc]) (Ev.now _), fun h => by cases h⟩
  ·obtain ⟨b, hb, hx⟩ := zz4F l hl d (i + 1) (by omega) (by omega)
   refine ⟨b, Ev.step (fun k => by simp only [laws_zzFits4.l0]; rw [if_pos (by omega), if_pos h0, if_pos (by omega), if_neg hc, hw]) hb, fun e x hm => ?_⟩
   rw [List.drop_eq_getElem_cons hi] at hm
   rcases List.mem_cons.1 hm with rfl | hm
   ·rw [rdOf_el l i h0 hi] at hc; omega
   ·exact hx e x (by rw [show (i + 1).toNat = i.toNat + 1 by omega]; exact hm)
theorem zz4fF (l : List ByteArray) : ∃ b, Ev (fun k => laws_zzFits4.f k l) b ∧ (b = true → l.length ≤ 2147483647 ∧ ∀ x ∈ l, x.size ≤ 2147483647) := by
 by_cases hl : (l.length : Int) > 2147483647
 ·exact ⟨false, Ev.congr (fun k => by simp only [laws_zzFits4.f]; rw [if_pos hl]) (Ev.now _), fun h => by cases h⟩
 ·obtain ⟨b, hb, hx⟩ := zz4F l (by omega) l.length 0 (by omega) (by omega)
  exact ⟨b, Ev.congr (fun k => by simp only [laws_zzFits4.f]; rw [if_neg hl]) hb, fun e => ⟨by omega, by simpa using hx e⟩⟩
theorem zz6fF (a : ByteArray) (n : List Int) (s : List ByteArray) : ∃ b, Ev (fun k => laws_zzFits6.f k a n s) b ∧ (b = true → FitR ⟨a, n, s⟩) := by
 by_cases h1 : (a.size : Int) > 2147483647
 ·exact ⟨false, Ev.congr (fun k => by simp only [laws_zzFits6.f]; rw [if_pos h1]) (Ev.now _), fun h => by cases h⟩
 ·by_cases h2 : (n.length : Int) > 2147483647
  ·exact ⟨false, Ev.congr (fun k => by simp only [laws_zzFits6.f]; rw [if_neg h1, if_pos h2]) (Ev.now _), fun h => by cases h⟩
  ·obtain ⟨b, hb, hx⟩ := zz4fF s
   refine ⟨if b = true then true else false, Ev.congr (f := fun k => (laws_zzFits4.f k s).bind fun t => if t = true then some true else some false) (fun k => by simp only [laws_zzFits6.f]; rw [if_neg h1, if_neg h2]) (Ev.bind (f := fun _ t => if t = true then some true else some false) hb ?_), ?_⟩
   ·cases b
    ·exact Ev.now _
    ·exact Ev.now _
   ·cases b
    ·intro h; cases h
    ·exact fun _ => ⟨(by show a.size ≤ 2147483647; omega), (by show n.length ≤ 2147483647; omega), (hx rfl).1, (hx rfl).2⟩
theorem zz5F (l : List S31) (hl : l.length ≤ 2147483647) : ∀ (d : Nat) (i : Int), 0 ≤ i → i + d = l.length → ∃ b, Ev (fun k => laws_zzFits5.l0 k l (l.length : Int) i) b ∧ (b = true → ∀ x ∈ l.drop i.toNat, FitR x)
 | 0, i, h0, h => ⟨true, Ev.step (f := fun _ => some true) (fun k => by simp only [laws_zzFits5.l0]; rw [if_neg (by omega)]) (Ev.now _), fun _ x hx => by rw [List.drop_eq_nil_of_le (by omega)] at hx; cases hx⟩
 | d + 1, i, h0, h => by
  have hw : wrap64 (i + 1) = i + 1 := by unfold wrap64; omega
  have hi : i.toNat < l.length := by omega
  obtain ⟨b6, h6, hx6⟩ := zz6fF ((rd_T31 l i).f0) ((rd_T31 l i).f1) ((rd_T31 l i).f2)
  have hstep : ∀ k, laws_zzFits5.l0 (k + 1) l (l.length : Int) i = (laws_zzFits6.f k ((rd_T31 l i).f0) ((rd_T31 l i).f1) ((rd_T31 l i).f2)).bind fun t => if t = true then laws_zzFits5.l0 k l (l.length : Int) (i + 1) else some false := fun k => by
   simp only [laws_zzFits5.l0]; rw [if_pos (by omega), if_pos h0, if_pos (by omega), hw]
  obtain ⟨b, hb, hx⟩ := zz5F l hl d (i + 1) (by omega) (by omega)
  cases b6
  ·exact ⟨false, Ev.step hstep (Ev.bind (f := fun k t => if t = true then laws_zzFits5.l0 k l (l.length : Int) (i + 1) else some false) h6 (Ev.now _)), fun h => by cases h⟩
  ·refine ⟨b, Ev.step hstep (Ev.bind (f := fun k t => if t = true then laws_zzFits5.l0 k l (l.length : Int) (i + 1) else some false) h6 hb), fun e x hm => ?_⟩
   rw [List.drop_eq_getElem_cons hi] at hm
   rcases List.mem_cons.1 hm with rfl | hm
   ·have := hx6 rfl
    rw [rd31i l i h0 hi] at this
    exact this
   ·exact hx e x (by rw [show (i + 1).toNat = i.toNat + 1 by omega]; exact hm)
theorem zz5fF (l : List S31) : ∃ k b, laws_zzFits5.f k l = some b ∧ (b = true → l.length ≤ 2147483647 ∧ ∀ x ∈ l, FitR x) := by
 by_cases hl : (l.length : Int) > 2147483647
 ·exact ⟨0, false, by simp only [laws_zzFits5.f]; rw [if_pos hl], fun h => by cases h⟩
 ·obtain ⟨b, hb, hx⟩ := zz5F l (by omega) l.length 0 (by omega) (by omega)
  obtain ⟨k, hk⟩ := hb.rounds
  exact ⟨k, b, by simp only [laws_zzFits5.f]; rw [if_neg hl]; exact hk, fun e => ⟨by omega, by simpa using hx e⟩⟩
theorem strB_of (s : ByteArray) : strB s.data.toList = s := by
 apply ByteArray.ext
 simp [strB]
end Go.Proofs.YtednjmngalmdkaaGreatDoor.GPC
end
section
/- The printed text of /proc/buddyinfo: all rows. Conditions: rows that fit. -/
namespace Go.Proofs.YtednjmngalmdkaaGreatDoor.GPC
open Go Go.RowKit Go.Proofs.YtednjmngalmdkaaGreatDoorW.PrintWords Go.Proofs.YtednjmngalmdkaaGreatDoorW.PrintLast Go.Proofs.YtednjmngalmdkaaGreatDoor.PF
set_option linter.unusedVariables false
theorem ints_of (r : S31) (hr : OP.RowOk r) : r.f1 = intsOf (r.f1.map Int.toNat) := by
 unfold intsOf
 rw [List.map_map]
 refine (List.map_id r.f1).symm.trans (List.map_congr_left fun a ha => ?_)
 have := (hr.2.1.2 a ha).1
 simp only [Function.comp, id]
 show a = ((a.toNat : Nat) : Int)
 omega
theorem rd31 (l : List S31) (i : Nat) (h : i < l.length) : rd_T31 l (i : Int) = l[i] := by
 simp [rd_T31, List.getD_eq_getElem?_getD, List.getElem?_eq_getElem h]
structure BdGood (c : Nat) (r : S31) (t : BdT) : Prop where
 n : r.f1 = intsOf t.2.2
 l : r.f2 = [strB t.1, strB t.2.1]
 a : wordB t.1 = true
 b : wordB t.2.1 = true
 ca : ∀ x ∈ t.1, x.toNat ≠ 44
 cb : ∀ x ∈ t.2.1, x.toNat ≠ 44
 p : 1 ≤ t.2.2.length
 c : t.2.2.length = c
 small : ∀ n ∈ t.2.2, n < 1099511627776
theorem bd_bad (x0 x9 : List S31) (acc : ByteArray) (x10 x11 : Int) (f0 : ByteArray) (f1 : List Int) (f2 : List ByteArray) : Ev (fun k => spec_BuddyinfoPrint.j1 k x0 acc x9 x10 x11 true f0 f1 f2) (⟨#[]⟩, 2) :=
 Ev.step (f := fun _ => some (⟨#[]⟩, 2)) (fun k => by simp only [spec_BuddyinfoPrint.j1]; rw [if_pos trivial]) (Ev.now _)
theorem bd_one (l : List S31) (hl : l.length ≤ 1000) (hf : ∀ r ∈ l, FitR r ∧ OP.RowOk r) (acc : List UInt8) (hacc : acc.length ≤ 100000000000000000) (i : Nat) (hi : i < l.length) :
  Ev (fun k => spec_BuddyinfoPrint.l0 k l (strB acc) l (l.length : Int) (i : Int)) (⟨#[]⟩, 2) ∨
  ∃ t : BdT, BdGood (l[0]'(by omega)).f1.length l[i] t ∧ ∀ r, Ev (fun k => spec_BuddyinfoPrint.l0 k l (strB (acc ++ (bdLine t.1 t.2.1 t.2.2 ++ [10]))) l (l.length : Int) ((i + 1 : Nat) : Int)) r →
   Ev (fun k => spec_BuddyinfoPrint.l0 k l (strB acc) l (l.length : Int) (i : Int)) r := by
 have hR := hf l[i] (List.getElem_mem _)
 have hrd := rd31 l i hi
 have hrd0 : rd_T31 l 0 = l[0]'(by omega) := rd31 l 0 (by omega)
 have hw : wrap64 ((i : Int) + 1) = ((i + 1 : Nat) : Int) := by unfold wrap64; omega
 generalize l[i] = R at hR hrd
 obtain ⟨f0, f1, f2⟩ := R
 obtain ⟨⟨hs1, hs2, hs3, hs4⟩, hro⟩ := hR
 have hints := ints_of _ hro
 simp only at hs1 hs2 hs3 hs4 hints
 have bad := fun (acc : ByteArray) => bd_bad l l acc (l.length : Int) (i : Int) f0 f1 f2
 by_cases h2' : ¬ f2.length = 2
 ·refine .inl (Ev.step (fun k => ?_) (bad (strB acc)))
  simp only [spec_BuddyinfoPrint.l0]
  rw [if_pos (by omega), if_pos (by omega), if_pos (by omega), hrd]
  exact if_neg (by simp only; omega)
 have h2 := Decidable.of_not_not h2'
 obtain ⟨s1, s2, rfl⟩ : ∃ s1 s2, f2 = [s1, s2] := by
  match f2, h2 with
  | [s1, s2], _ => exact ⟨s1, s2, rfl⟩
 obtain ⟨a, rfl⟩ : ∃ a, s1 = strB a := ⟨_, (strB_of s1).symm⟩
 obtain ⟨b, rfl⟩ : ∃ b, s2 = strB b := ⟨_, (strB_of s2).symm⟩
 obtain ⟨ns, rfl⟩ : ∃ ns, f1 = intsOf ns := ⟨_, hints⟩
 have hal : a.length ≤ 2147483647 := by have := hs4 (strB a) (by simp); rwa [strB_size] at this
 have hbl : b.length ≤ 2147483647 := by have := hs4 (strB b) (by simp); rwa [strB_size] at this
 have hnl : ns.length ≤ 2147483647 := by rwa [intsOf_len] at hs2
 have hst : ∀ k, spec_BuddyinfoPrint.l0 (k + 1) l (strB acc) l (l.length : Int) (i : Int) = (spec_words.f k ([a, b].map strB)).bind fun t114 => (if t114 = true then ((spec_Where.f k (strB a) (44 : Nat)).bind fun t116 => (if t116 ≥ 0 then (spec_BuddyinfoPrint.j1 k l (strB acc) l (l.length : Int) (i : Int) true f0 (intsOf ns) [strB a, strB b]) else ((spec_Where.f k (strB b) (44 : Nat)).bind fun t118 => (if t118 ≥ 0 then (spec_BuddyinfoPrint.j1 k l (strB acc) l (l.length : Int) (i : Int) true f0 (intsOf ns) [strB a, strB b]) else (if ((intsOf ns).length : Int) < 1 then (spec_BuddyinfoPrint.j1 k l (strB acc) l (l.length : Int) (i : Int) true f0 (intsOf ns) [strB a, strB b]) else (if ((intsOf ns).length : Int) = (((l[0]'(by omega)).f1).length : Int) then ((spec_small.f k 1099511627776 (intsOf ns)).bind fun t120 => (spec_BuddyinfoPrint.j1 k l (strB acc) l (l.length : Int) (i : Int) (!t120) f0 (intsOf ns) [strB a, strB b])) else (spec_BuddyinfoPrint.j1 k l (strB acc) l (l.length : Int) (i : Int) true f0 (intsOf ns) [strB a, strB b]))))))) else (spec_BuddyinfoPrint.j1 k l (strB acc) l (l.length : Int) (i : Int) true f0 (intsOf ns) [strB a, strB b])) := fun k => by
  simp only [spec_BuddyinfoPrint.l0]
  rw [if_pos (by omega), if_pos (by omega), if_pos (by omega), hrd, hrd0]
  simp only
  rw [if_pos (by rfl), if_pos (by simp), if_pos (by simp), if_pos (show (0 : Int) < (l.length : Int) by omega)]
  rfl
 have hwd := words_ev [a, b] (by simp) (by simp; omega)
 cases hwb : [a, b].all wordB
 ·rw [hwb] at hwd
  exact .inl (Ev.step hst (evB hwd (evN (by decide) (bad _))))
 rw [hwb] at hwd
 have hwa : wordB a = true ∧ wordB b = true := by simpa using hwb
 obtain ⟨va, hva, hca⟩ := where_ev a 44 (by omega)
 obtain ⟨vb, hvb, hcb⟩ := where_ev b 44 (by omega)
 by_cases h3 : va ≥ 0
 ·exact .inl (Ev.step hst (evB hwd (evP rfl (evB hva (evP h3 (bad _))))))
 by_cases h4 : vb ≥ 0
 ·exact .inl (Ev.step hst (evB hwd (evP rfl (evB hva (evN h3 (evB hvb (evP h4 (bad _))))))))
 by_cases h5 : ((intsOf ns).length : Int) < 1
 ·exact .inl (Ev.step hst (evB hwd (evP rfl (evB hva (evN h3 (evB hvb (evN h4 (evP h5 (bad _)))))))))
 by_cases h6' : ¬ ((intsOf ns).length : Int) = (((l[0]'(by omega)).f1).length : Int)
 ·have h6 := h6'
  exact .inl (Ev.step hst (evB hwd (evP rfl (evB hva (evN h3 (evB hvb (evN h4 (evN h5 (evN h6 (bad _))))))))))
 have h6 := Decidable.of_not_not h6'
 have hsm := small_ev 1099511627776 (intsOf ns) (by rw [intsOf_len]; unfold maxLen; omega)
 cases hsb : ((intsOf ns).all fun x => decide (x < 1099511627776))
 ·rw [hsb] at hsm
  exact .inl (Ev.step hst (evB hwd (evP rfl (evB hva (evN h3 (evB hvb (evN h4 (evN h5 (evP h6 (evB hsm (bad _)))))))))))
 rw [hsb] at hsm
 rw [List.all_eq_true] at hsb
 have hn : ∀ n ∈ ns, n < 1099511627776 := fun n hn => by
  have := of_decide_eq_true (hsb (n : Int) (by unfold intsOf; exact List.mem_map.2 ⟨n, hn, rfl⟩))
  omega
 refine .inr ⟨(a, b, ns), ⟨rfl, rfl, hwa.1, hwa.2, ?_, ?_, ?_, ?_, hn⟩, fun r hr => ?_⟩
 ·rcases hca with h | h
  ·exact absurd h h3
  ·exact h.2
 ·rcases hcb with h | h
  ·exact absurd h h4
  ·exact h.2
 ·rw [intsOf_len] at h5; simp only; omega
 ·rw [intsOf_len] at h6; simp only; omega
 ·refine Ev.step hst (evB hwd (evP rfl (evB hva (evN h3 (evB hvb (evN h4 (evN h5 (evP h6 (evB hsm ?_)))))))))
  exact bd_j1 l l (l.length : Int) (i : Int) f0 a b ns (by omega) (by omega) (by omega) (fun n h => by have := hn n h; omega) acc hacc r (by rw [hw]; exact hr)
theorem bd_len (a b : List UInt8) (ns : List Nat) (ha : a.length ≤ 2147483647) (hb : b.length ≤ 2147483647) (hn : ns.length ≤ 2147483647) (h : ∀ n ∈ ns, n < 18446744073709551616) : (bdLine a b ns).length ≤ 9000000000000 := by
 have h1 : ∀ ns : List Nat, (∀ n ∈ ns, n < 18446744073709551616) → (bdNums ns).length ≤ 1001 * ns.length := by
  intro ns
  induction ns with
  | nil => intro _; simp [bdNums]
  | cons n r ih =>
   intro h
   have := ih (fun m hm => h m (by simp [hm]))
   have hd := dig_len n (h n (by simp))
   have hp := padS_len 6 (digB 10 n) (by omega) (by omega)
   have e : bdNums (n :: r) = (padS 6 (digB 10 n) ++ [32]) ++ bdNums r := rfl
   rw [e]
   simp only [List.length_append, List.length_cons, List.length_nil]
   omega
 have h2 := h1 ns h
 simp only [bdLine, padS, List.length_append, List.length_cons, List.length_nil, List.length_replicate]
 omega
theorem bd_print (l : List S31) (hl : l.length ≤ 1000) (hf : ∀ r ∈ l, FitR r ∧ OP.RowOk r) (h0 : 0 < l.length) : ∀ (d i : Nat) (acc : List UInt8), i + d = l.length → acc.length ≤ 10000000000000 * i →
  Ev (fun k => spec_BuddyinfoPrint.l0 k l (strB acc) l (l.length : Int) (i : Int)) (⟨#[]⟩, 2) ∨
  ∃ ts : List BdT, ts.length = d ∧ (∀ (j : Nat) (h1 : i + j < l.length) (h2 : j < ts.length), BdGood (l[0]'h0).f1.length l[i + j] ts[j]) ∧ Ev (fun k => spec_BuddyinfoPrint.l0 k l (strB acc) l (l.length : Int) (i : Int)) (strB (acc ++ bdText ts), 1)
 | 0, i, acc, h, ha => by
  refine .inr ⟨[], rfl, fun j h1 h2 => by simp at h2, ?_⟩
  rw [show acc ++ bdText [] = acc by simp [bdText]]
  exact Ev.step (f := fun _ => some (strB acc, 1)) (fun k => by simp only [spec_BuddyinfoPrint.l0]; rw [if_neg (by omega)]) (Ev.now _)
 | d + 1, i, acc, h, ha => by
  have hi : i < l.length := by omega
  rcases bd_one l hl hf acc (by omega) i hi with hb | ⟨t, hg, ht⟩
  ·exact .inl hb
  ·have hR := hf l[i] (List.getElem_mem _)
   have hal : t.1.length ≤ 2147483647 := by have := hR.1.w (strB t.1) (by rw [hg.l]; simp); rwa [strB_size] at this
   have hbl : t.2.1.length ≤ 2147483647 := by have := hR.1.w (strB t.2.1) (by rw [hg.l]; simp); rwa [strB_size] at this
   have hnl : t.2.2.length ≤ 2147483647 := by have := hR.1.n; rw [hg.n, intsOf_len] at this; exact this
   have hlen := bd_len t.1 t.2.1 t.2.2 hal hbl hnl (fun n hn => by have := hg.small n hn; omega)
   rcases bd_print l hl hf h0 d (i + 1) (acc ++ (bdLine t.1 t.2.1 t.2.2 ++ [10])) (by omega) (by simp only [List.length_append, List.length_cons, List.length_nil]; omega) with hb | ⟨ts, hts, hgs, he⟩
   ·exact .inl (ht _ hb)
   ·refine .inr ⟨t :: ts, by simp [hts], fun j h1 h2 => ?_, ?_⟩
    ·match j with
     | 0 => exact hg
     | j + 1 =>
      have := hgs j (by omega) (by simpa using h2)
      simp only [List.getElem_cons_succ]
      have e : i + 1 + j = i + (j + 1) := by omega
      simp only [e] at this
      exact this
    ·have e : acc ++ (bdLine t.1 t.2.1 t.2.2 ++ [10]) ++ bdText ts = acc ++ bdText (t :: ts) := by simp [bdText]
     rw [e] at he
     exact ht _ he
end Go.Proofs.YtednjmngalmdkaaGreatDoor.GPC
end
section
/- Plain facts: a tree of the door, handed over, is the same tree; a tree is the same as itself. Conditions: a depth, lists of at most a million parts. -/
namespace Go.Proofs.YtednjmngalmdkaaGreatDoor.GPC
open Go Go.RowKit Go.Proofs.YtednjmngalmdkaaGreatDoorW.PrintWords Go.Proofs.YtednjmngalmdkaaGreatDoorW.PrintLast
set_option linter.unusedVariables false
def tup39 (n : S39) : N8 S39 := (n.f0, n.f1, n.f2, n.f3, n.f4, n.f5, n.f6, n.f7)
def convN : Nat → S43 → S39
 | 0, n => ⟨n.f0, n.f1, n.f2, n.f3, n.f4, n.f5, n.f6, []⟩
 | d + 1, n => ⟨n.f0, n.f1, n.f2, n.f3, n.f4, n.f5, n.f6, n.f7.map (convN d)⟩
def FitN : Nat → S43 → Prop
 | 0, n => n.f7 = []
 | d + 1, n => n.f7.length ≤ 1000000 ∧ ∀ x ∈ n.f7, FitN d x
def FitS : Nat → S39 → Prop
 | 0, n => n.f7 = []
 | d + 1, n => n.f7.length ≤ 1000000 ∧ ∀ x ∈ n.f7, FitS d x
theorem fit_conv : ∀ (d : Nat) (n : S43), FitN d n → FitS d (convN d n)
 | 0, n, h => rfl
 | d + 1, n, h => ⟨by simpa [convN] using h.1, fun x hx => by
   simp only [convN, List.mem_map] at hx
   obtain ⟨y, hy, rfl⟩ := hx
   exact fit_conv d y (h.2 y hy)⟩
theorem rd43 (l : List S43) (i : Nat) (h : i < l.length) : rd_T43 l (i : Int) = l[i] := by
 simp [rd_T43, List.getD_eq_getElem?_getD, List.getElem?_eq_getElem h]
theorem rd39 (l : List S39) (i : Nat) (h : i < l.length) : rd_T39 l (i : Int) = l[i] := by
 simp [rd_T39, List.getD_eq_getElem?_getD, List.getElem?_eq_getElem h]
theorem eta39 (x : S39) : (⟨(tup39 x).1, (tup39 x).2.1, (tup39 x).2.2.1, (tup39 x).2.2.2.1, (tup39 x).2.2.2.2.1, (tup39 x).2.2.2.2.2.1, (tup39 x).2.2.2.2.2.2.1, (tup39 x).2.2.2.2.2.2.2⟩ : S39) = x := by cases x; rfl
theorem toNode_loop (l : List S43) (hl : l.length ≤ 1000000) (g : S43 → S39) (hg : ∀ x ∈ l, Ev (fun k => laws_toNode.f k x.f0 x.f1 x.f2 x.f3 x.f4 x.f5 x.f6 x.f7) (tup39 (g x))) (a0 : ByteArray) (a1 : Int) (a2 : Bool) (a3 a4 : Int) (a5 : Nat) (a6 : ByteArray) :
  ∀ (d i : Nat) (acc : List S39), i + d = l.length → acc.length ≤ i → Ev (fun k => laws_toNode.l0 k l (l.length : Int) (i : Int) a0 a1 a2 a3 a4 a5 a6 acc) (a0, a1, a2, a3, a4, a5, a6, acc ++ (l.drop i).map g)
 | 0, i, acc, h, ha => by
  rw [List.drop_eq_nil_of_le (by omega), List.map_nil, List.append_nil]
  exact Ev.step (f := fun _ => some (a0, a1, a2, a3, a4, a5, a6, acc)) (fun k => by simp only [laws_toNode.l0]; rw [if_neg (by omega)]) (Ev.now _)
 | d + 1, i, acc, h, ha => by
  have hi : i < l.length := by omega
  have hw : wrap64 ((i : Int) + 1) = ((i + 1 : Nat) : Int) := by unfold wrap64; omega
  have hx := hg l[i] (List.getElem_mem hi)
  have ih := toNode_loop l hl g hg a0 a1 a2 a3 a4 a5 a6 d (i + 1) (acc ++ [g l[i]]) (by omega) (by simp; omega)
  rw [List.append_assoc, List.singleton_append, ← List.map_cons, ← List.drop_eq_getElem_cons hi] at ih
  refine Ev.step (fun k => by simp only [laws_toNode.l0]; rw [if_pos (by omega), if_pos (by omega), if_pos (by omega), rd43 l i hi, hw]) (Ev.bind (f := fun k (bt : N8 S39) => if acc.length < 1466015503701 then (laws_toNode.l0 k l (l.length : Int) ((i + 1 : Nat) : Int) a0 a1 a2 a3 a4 a5 a6 (acc ++ [(⟨bt.1, bt.2.1, bt.2.2.1, bt.2.2.2.1, bt.2.2.2.2.1, bt.2.2.2.2.2.1, bt.2.2.2.2.2.2.1, bt.2.2.2.2.2.2.2⟩ : S39)])) else none) hx ?_)
  exact Ev.congr (fun k => by rw [if_pos (by omega), eta39]) ih
theorem toNode_ev : ∀ (d : Nat) (n : S43), FitN d n → Ev (fun k => laws_toNode.f k n.f0 n.f1 n.f2 n.f3 n.f4 n.f5 n.f6 n.f7) (tup39 (convN d n))
 | 0, n, h => by
  have := toNode_loop n.f7 (by rw [show n.f7 = [] from h]; simp) (fun x => convN 0 x) (by rw [show n.f7 = [] from h]; simp) n.f0 n.f1 n.f2 n.f3 n.f4 n.f5 n.f6 n.f7.length 0 [] (by omega) (by simp)
  rw [List.drop_zero, List.nil_append] at this
  refine Ev.step (f := fun k => laws_toNode.l0 k n.f7 (n.f7.length : Int) 0 n.f0 n.f1 n.f2 n.f3 n.f4 n.f5 n.f6 []) (fun k => by simp only [laws_toNode.f]) ?_
  have e : tup39 (convN 0 n) = (n.f0, n.f1, n.f2, n.f3, n.f4, n.f5, n.f6, n.f7.map fun x => convN 0 x) := by
   rw [show n.f7 = [] from h]; rfl
  rw [e]
  exact this
 | d + 1, n, h => by
  have := toNode_loop n.f7 h.1 (convN d) (fun x hx => toNode_ev d x (h.2 x hx)) n.f0 n.f1 n.f2 n.f3 n.f4 n.f5 n.f6 n.f7.length 0 [] (by omega) (by simp)
  rw [List.drop_zero, List.nil_append] at this
  exact Ev.step (f := fun k => laws_toNode.l0 k n.f7 (n.f7.length : Int) 0 n.f0 n.f1 n.f2 n.f3 n.f4 n.f5 n.f6 []) (fun k => by simp only [laws_toNode.f]) this
theorem same_loop (n : S39) (hl : n.f7.length ≤ 1000000) (hg : ∀ x ∈ n.f7, Ev (fun k => spec_SameNode.f k x.f0 x.f1 x.f2 x.f3 x.f4 x.f5 x.f6 x.f7 x.f0 x.f1 x.f2 x.f3 x.f4 x.f5 x.f6 x.f7) true) :
  ∀ (d i : Nat), i + d = n.f7.length → Ev (fun k => spec_SameNode.l0 k (n.f7.length : Int) (i : Int) n.f0 n.f1 n.f2 n.f3 n.f4 n.f5 n.f6 n.f7 n.f0 n.f1 n.f2 n.f3 n.f4 n.f5 n.f6 n.f7) true
 | 0, i, h => Ev.step (f := fun _ => some true) (fun k => by simp only [spec_SameNode.l0]; rw [if_neg (by omega)]) (Ev.now _)
 | d + 1, i, h => by
  have hi : i < n.f7.length := by omega
  have hw : wrap64 ((i : Int) + 1) = ((i + 1 : Nat) : Int) := by unfold wrap64; omega
  have hx := hg n.f7[i] (List.getElem_mem hi)
  have ih := same_loop n hl hg d (i + 1) (by omega)
  refine Ev.step (fun k => by simp only [spec_SameNode.l0]; rw [if_pos (by omega), if_pos (by omega), if_pos (by omega), if_pos (by omega), rd39 n.f7 i hi, hw]) (Ev.bind (f := fun k t => if t = true then (spec_SameNode.l0 k (n.f7.length : Int) ((i + 1 : Nat) : Int) n.f0 n.f1 n.f2 n.f3 n.f4 n.f5 n.f6 n.f7 n.f0 n.f1 n.f2 n.f3 n.f4 n.f5 n.f6 n.f7) else none) hx ?_)
  exact Ev.congr (fun k => if_pos rfl) ih
theorem same_ev : ∀ (d : Nat) (n : S39), FitS d n → Ev (fun k => spec_SameNode.f k n.f0 n.f1 n.f2 n.f3 n.f4 n.f5 n.f6 n.f7 n.f0 n.f1 n.f2 n.f3 n.f4 n.f5 n.f6 n.f7) true := by
 have top : ∀ (n : S39), Ev (fun k => spec_SameNode.l0 k (n.f7.length : Int) 0 n.f0 n.f1 n.f2 n.f3 n.f4 n.f5 n.f6 n.f7 n.f0 n.f1 n.f2 n.f3 n.f4 n.f5 n.f6 n.f7) true → Ev (fun k => spec_SameNode.f k n.f0 n.f1 n.f2 n.f3 n.f4 n.f5 n.f6 n.f7 n.f0 n.f1 n.f2 n.f3 n.f4 n.f5 n.f6 n.f7) true := by
  intro n h
  refine Ev.step (f := fun k => spec_SameNode.j0 k ((n.f7.length : Int) != (n.f7.length : Int)) n.f0 n.f1 n.f2 n.f3 n.f4 n.f5 n.f6 n.f7 n.f0 n.f1 n.f2 n.f3 n.f4 n.f5 n.f6 n.f7) (fun k => ?_) (Ev.step (fun k => ?_) h)
  ·simp [spec_SameNode.f, math_Float64bits.f]
  ·simp only [spec_SameNode.j0]
   rw [if_neg (by simp)]
 intro d
 induction d with
 | zero =>
  intro n h
  have h7 : n.f7 = [] := h
  exact top n (same_loop n (by rw [h7]; simp) (by rw [h7]; simp) n.f7.length 0 (by omega))
 | succ d ih =>
  intro n h
  exact top n (same_loop n h.1 (fun x hx => ih x (h.2 x hx)) n.f7.length 0 (by omega))
theorem back_same {print : Nat → Option (ByteArray × Int)} {tree : Nat → Option (ByteArray × Int × Bool × Int × Int × Nat × ByteArray × List S39 × Int)} {door : ByteArray → S43 → Prop} {l : List S31} (h : l.length ≤ 1000) (text : ByteArray)
  (hp : Ev print (text, 1)) (hsz : text.size ≤ 40000) (d : Nat) (n : S43) (hf : FitN d n)
  (ht : Ev tree ((convN d n).f0, (convN d n).f1, (convN d n).f2, (convN d n).f3, (convN d n).f4, (convN d n).f5, (convN d n).f6, (convN d n).f7, 1)) (hd : door text n) : BackOk print tree door l := by
 obtain ⟨K1, h1⟩ := hp
 obtain ⟨K2, h2⟩ := ht
 obtain ⟨K3, h3⟩ := toNode_ev d n hf
 obtain ⟨K4, h4⟩ := same_ev d (convN d n) (fit_conv d n hf)
 exact BackOk.same h (K1 + K2) text (h1 _ (by omega)) hsz (tup39 (convN d n)) (h2 _ (by omega)) n hd (K3 + K4) (tup39 (convN d n)) (h3 _ (by omega)) (h4 _ (by omega))
end Go.Proofs.YtednjmngalmdkaaGreatDoor.GPC
end
section
/- The trees of /proc/buddyinfo: the reference's and the door's. Conditions: rows that fit. -/
namespace Go.Proofs.YtednjmngalmdkaaGreatDoor.GPC
open Go Go.RowKit Go.Proofs.YtednjmngalmdkaaGreatDoorW.PrintWords Go.Proofs.YtednjmngalmdkaaGreatDoorW.PrintLast Go.Proofs.YtednjmngalmdkaaGreatDoor.PF
set_option linter.unusedVariables false
def bdKidS (n : Nat) : S39 := ⟨⟨#[]⟩, 4, false, 0, 0, fltN n, ⟨#[]⟩, []⟩
def bdKid (x : Nat) : S43 := ⟨⟨#[]⟩, 4, false, 0, 0, x, ⟨#[]⟩, []⟩
def bdNodeS (t : BdT) : S39 := ⟨⟨#[]⟩, 8, false, 0, 0, 0, ⟨#[]⟩, [⟨⟨#[78, 111, 100, 101]⟩, 5, false, 0, 0, 0, strB t.1, []⟩, ⟨⟨#[90, 111, 110, 101]⟩, 5, false, 0, 0, 0, strB t.2.1, []⟩, ⟨⟨#[83, 105, 122, 101, 115]⟩, 6, false, 0, 0, 0, ⟨#[]⟩, t.2.2.map bdKidS⟩]⟩
def bdNode (t : BdT) : S43 := ⟨⟨#[]⟩, 8, false, 0, 0, 0, ⟨#[]⟩, [⟨⟨#[78, 111, 100, 101]⟩, 5, false, 0, 0, 0, strB t.1, []⟩, ⟨⟨#[90, 111, 110, 101]⟩, 5, false, 0, 0, 0, strB t.2.1, []⟩, ⟨⟨#[83, 105, 122, 101, 115]⟩, 6, false, 0, 0, 0, ⟨#[]⟩, (t.2.2.map fltN).map bdKid⟩]⟩
def bdAll (ts : List BdT) : S43 := ⟨⟨#[]⟩, 6, false, 0, 0, 0, ⟨#[]⟩, ts.map bdNode⟩
theorem bd_conv (ts : List BdT) : convN 3 (bdAll ts) = ⟨⟨#[]⟩, 6, false, 0, 0, 0, ⟨#[]⟩, ts.map bdNodeS⟩ := by
 have h1 : ∀ n : Nat, convN 0 (bdKid (fltN n)) = bdKidS n := fun n => rfl
 have h2 : ∀ t : BdT, convN 2 (bdNode t) = bdNodeS t := fun t => by
  simp only [bdNode, bdNodeS, convN, List.map_cons, List.map_nil, List.map_map]
  congr 4
 simp only [bdAll, convN, List.map_map]
 congr 1
 exact List.map_congr_left fun t _ => h2 t
theorem bd_fit (ts : List BdT) (hl : ts.length ≤ 1000000) (h : ∀ t ∈ ts, t.2.2.length ≤ 1000000) : FitN 3 (bdAll ts) := by
 refine ⟨by simpa [bdAll] using hl, fun x hx => ?_⟩
 simp only [bdAll, List.mem_map] at hx
 obtain ⟨t, ht, rfl⟩ := hx
 refine ⟨by simp [bdNode], fun y hy => ?_⟩
 simp only [bdNode, List.mem_cons, List.not_mem_nil, or_false] at hy
 rcases hy with rfl | rfl | rfl
 ·exact ⟨by simp, fun z hz => by cases hz⟩
 ·exact ⟨by simp, fun z hz => by cases hz⟩
 ·refine ⟨by simpa using h t ht, fun z hz => ?_⟩
  simp only [List.mem_map] at hz
  obtain ⟨n, _, rfl⟩ := hz
  rfl
theorem bd_tree1 (x6 : List S39) (hx6 : x6.length ≤ 1000000) (rows : List S31) (n i : Int) (f0 : ByteArray) (a b : List UInt8) (ns : List Nat) (hl : ns.length ≤ 1000000) (r : ByteArray × Int × Bool × Int × Int × Nat × ByteArray × (List (S39)) × Int)
  (hr : Ev (fun k => spec_BuddyinfoTree.l0 k (x6 ++ [bdNodeS (a, b, ns)]) rows n (wrap64 (i + 1))) r) : ∀ (d j : Nat), j + d = ns.length →
  Ev (fun k => spec_BuddyinfoTree.l1 k x6 ((ns.take j).map bdKidS) rows n i (intsOf ns) (ns.length : Int) (j : Int) f0 (intsOf ns) [strB a, strB b]) r
 | 0, j, h => by
  rw [List.take_of_length_le (by omega)]
  refine Ev.step (fun k => ?_) hr
  simp only [spec_BuddyinfoTree.l1]
  rw [if_neg (by omega), if_pos (by simp)]
  simp only [spec_textNode.f, spec_listNode.f, spec_recordNode.f, Option.bind_some]
  rw [if_pos (by simp), if_pos (by omega)]
  rfl
 | d + 1, j, h => by
  have hj : j < ns.length := by omega
  have hw : wrap64 ((j : Int) + 1) = ((j + 1 : Nat) : Int) := by unfold wrap64; omega
  have ih := bd_tree1 x6 hx6 rows n i f0 a b ns hl r hr d (j + 1) (by omega)
  rw [List.take_add_one, List.getElem?_eq_getElem hj, List.map_append] at ih
  refine Ev.step (fun k => ?_) ih
  simp only [spec_BuddyinfoTree.l1]
  rw [if_pos (by omega), if_pos (by omega), if_pos (by rw [intsOf_len]; omega), rd_ints ns j hj, hw]
  simp only [spec_floatNode.f, Option.bind_some]
  rw [if_pos (by simp; omega)]
  rfl
theorem bd_tree (l : List S31) (hl : l.length ≤ 1000) (c : Nat) (hc : c ≤ 1000000) (ts : List BdT) (hlen : ts.length = l.length) (hg : ∀ (j : Nat) (h1 : j < l.length) (h2 : j < ts.length), BdGood c l[j] ts[j]) : ∀ (d i : Nat) (acc : List S39), i + d = l.length → acc.length ≤ i →
  Ev (fun k => spec_BuddyinfoTree.l0 k acc l (l.length : Int) (i : Int)) (⟨#[]⟩, 6, false, 0, 0, 0, ⟨#[]⟩, acc ++ (ts.drop i).map bdNodeS, 1)
 | 0, i, acc, h, ha => by
  rw [List.drop_eq_nil_of_le (by omega), List.map_nil, List.append_nil]
  refine Ev.step (f := fun _ => some (⟨#[]⟩, 6, false, 0, 0, 0, ⟨#[]⟩, acc, 1)) (fun k => ?_) (Ev.now _)
  simp only [spec_BuddyinfoTree.l0]
  rw [if_neg (by omega)]
  rfl
 | d + 1, i, acc, h, ha => by
  have hi : i < l.length := by omega
  have hit : i < ts.length := by omega
  have hw : wrap64 ((i : Int) + 1) = ((i + 1 : Nat) : Int) := by unfold wrap64; omega
  have hrd := rd31 l i hi
  have g := hg i hi hit
  have ih := bd_tree l hl c hc ts hlen hg d (i + 1) (acc ++ [bdNodeS ts[i]]) (by omega) (by simp; omega)
  rw [List.append_assoc, List.singleton_append, ← List.map_cons, ← List.drop_eq_getElem_cons hit] at ih
  have h1 := bd_tree1 acc (by omega) l (l.length : Int) (i : Int) l[i].f0 ts[i].1 ts[i].2.1 ts[i].2.2 (by rw [g.c]; exact hc) _ (by rw [hw]; exact ih) ts[i].2.2.length 0 (by omega)
  refine Ev.step (fun k => ?_) h1
  simp only [spec_BuddyinfoTree.l0]
  rw [if_pos (by omega), if_pos (by omega), if_pos (by omega), hrd, g.n, g.l, intsOf_len]
  rfl
theorem bd_sizes (name : ByteArray) (xs : List Nat) (hl : xs.length ≤ 1000000) : ∀ (d i : Nat) (acc : List S43), i + d = xs.length → acc.length ≤ i →
  Ev (fun k => impl_list_float64.l0 k xs (xs.length : Int) (i : Int) name 6 false 0 0 0 ⟨#[]⟩ acc) (name, 6, false, 0, 0, 0, ⟨#[]⟩, acc ++ (xs.drop i).map bdKid)
 | 0, i, acc, h, ha => by
  rw [List.drop_eq_nil_of_le (by omega), List.map_nil, List.append_nil]
  refine Ev.step (f := fun _ => some (name, 6, false, 0, 0, 0, ⟨#[]⟩, acc)) (fun k => ?_) (Ev.now _)
  simp only [impl_list_float64.l0]
  rw [if_neg (by omega)]
 | d + 1, i, acc, h, ha => by
  have hi : i < xs.length := by omega
  have hw : wrap64 ((i : Int) + 1) = ((i + 1 : Nat) : Int) := by unfold wrap64; omega
  have hrd : rdOf (0 : Nat) xs (i : Int) = xs[i] := by simp [rdOf, List.getD_eq_getElem?_getD, List.getElem?_eq_getElem hi]
  have ih := bd_sizes name xs hl d (i + 1) (acc ++ [bdKid xs[i]]) (by omega) (by simp; omega)
  rw [List.append_assoc, List.singleton_append, ← List.map_cons, ← List.drop_eq_getElem_cons hi] at ih
  refine Ev.step (fun k => ?_) ih
  simp only [impl_list_float64.l0]
  rw [if_pos (by omega), if_pos (by omega), if_pos (by omega), hrd, hw]
  simp only [impl_procfsBuddyInfo_1.f, Option.bind_some]
  rw [if_pos (by omega)]
  rfl
theorem bd_rec (t : BdT) (hl : t.2.2.length ≤ 1000000) : Ev (fun k => impl_Buddyinfo_1_1.f k (strB t.1) (strB t.2.1) (t.2.2.map fltN)) ((bdNode t).f0, (bdNode t).f1, (bdNode t).f2, (bdNode t).f3, (bdNode t).f4, (bdNode t).f5, (bdNode t).f6, (bdNode t).f7) := by
 have h := bd_sizes ⟨#[83, 105, 122, 101, 115]⟩ (t.2.2.map fltN) (by simpa using hl) (t.2.2.map fltN).length 0 [] (by omega) (by simp)
 rw [List.drop_zero, List.nil_append] at h
 refine evB (F := fun _ bt298 => some (bt298.1, bt298.2.1, bt298.2.2.1, bt298.2.2.2.1, bt298.2.2.2.2.1, bt298.2.2.2.2.2.1, bt298.2.2.2.2.2.2.1, bt298.2.2.2.2.2.2.2)) (a := ((bdNode t).f0, (bdNode t).f1, (bdNode t).f2, (bdNode t).f3, (bdNode t).f4, (bdNode t).f5, (bdNode t).f6, (bdNode t).f7)) ?_ (Ev.now _)
 refine Ev.congr (f := fun k => (impl_list_float64.f k (⟨#[83, 105, 122, 101, 115]⟩ : ByteArray) (t.2.2.map fltN)).bind fun bt283 => some (⟨#[]⟩, 8, false, 0, 0, 0, (⟨#[]⟩ : ByteArray), ([⟨⟨#[78, 111, 100, 101]⟩, 5, false, 0, 0, 0, strB t.1, []⟩, ⟨⟨#[90, 111, 110, 101]⟩, 5, false, 0, 0, 0, strB t.2.1, []⟩, (⟨bt283.1, bt283.2.1, bt283.2.2.1, bt283.2.2.2.1, bt283.2.2.2.2.1, bt283.2.2.2.2.2.1, bt283.2.2.2.2.2.2.1, bt283.2.2.2.2.2.2.2⟩ : S43)]))) (fun k => ?_) (evB h (Ev.now _))
 simp only [impl_procfsBuddyInfo.f]
 rw [if_pos (by simp)]
 simp only [Option.bind_some]
 rw [if_pos (by simp)]
 congr 1
theorem rd75 (l : List S75) (i : Nat) (h : i < l.length) : rd_T75 l (i : Int) = l[i] := by
 simp [rd_T75, List.getD_eq_getElem?_getD, List.getElem?_eq_getElem h]
theorem bd_list (ts : List BdT) (hl : ts.length ≤ 1000000) (hn : ∀ t ∈ ts, t.2.2.length ≤ 1000000) : ∀ (d i : Nat) (acc : List S43), i + d = ts.length → acc.length ≤ i →
  Ev (fun k => procfs_BuddyInfo.l0 k (ts.map bdS) (ts.length : Int) (i : Int) ⟨#[]⟩ 6 false 0 0 0 ⟨#[]⟩ acc) (⟨#[]⟩, 6, false, 0, 0, 0, ⟨#[]⟩, acc ++ (ts.drop i).map bdNode)
 | 0, i, acc, h, ha => by
  rw [List.drop_eq_nil_of_le (by omega), List.map_nil, List.append_nil]
  refine Ev.step (f := fun _ => some (⟨#[]⟩, 6, false, 0, 0, 0, ⟨#[]⟩, acc)) (fun k => ?_) (Ev.now _)
  simp only [procfs_BuddyInfo.l0]
  rw [if_neg (by omega)]
 | d + 1, i, acc, h, ha => by
  have hi : i < ts.length := by omega
  have hw : wrap64 ((i : Int) + 1) = ((i + 1 : Nat) : Int) := by unfold wrap64; omega
  have hrd : rd_T75 (ts.map bdS) (i : Int) = bdS ts[i] := by rw [rd75 _ i (by simpa using hi)]; simp
  have ih := bd_list ts hl hn d (i + 1) (acc ++ [bdNode ts[i]]) (by omega) (by simp; omega)
  rw [List.append_assoc, List.singleton_append, ← List.map_cons, ← List.drop_eq_getElem_cons hi] at ih
  refine Ev.step (f := fun k => (impl_Buddyinfo_1_1.f k (strB ts[i].1) (strB ts[i].2.1) (ts[i].2.2.map fltN)).bind fun bt312 => procfs_BuddyInfo.l0 k (ts.map bdS) (ts.length : Int) ((i + 1 : Nat) : Int) ⟨#[]⟩ 6 false 0 0 0 ⟨#[]⟩ (acc ++ [(⟨bt312.1, bt312.2.1, bt312.2.2.1, bt312.2.2.2.1, bt312.2.2.2.2.1, bt312.2.2.2.2.2.1, bt312.2.2.2.2.2.2.1, bt312.2.2.2.2.2.2.2⟩ : S43)])) (fun k => ?_) (evB (bd_rec ts[i] (hn _ (List.getElem_mem _))) ih)
  simp only [procfs_BuddyInfo.l0]
  rw [if_pos (by omega), if_pos (by omega), if_pos (by simp; omega), hrd, hw]
  simp only [bdS]
  congr 1
  funext bt
  rw [if_pos (by omega)]
theorem bd_node (ts : List BdT) (hl : ts.length ≤ 1000000) (hn : ∀ t ∈ ts, t.2.2.length ≤ 1000000) : Ev (fun k => nodeBuddyinfo k (ts.map bdS)) (bdAll ts) := by
 have h := bd_list ts hl hn ts.length 0 [] (by omega) (by simp)
 rw [List.drop_zero, List.nil_append] at h
 have h2 : Ev (fun k => impl_Buddyinfo_1.f k (ts.map bdS)) (⟨#[]⟩, 6, false, 0, 0, 0, ⟨#[]⟩, ts.map bdNode) := by
  refine evB (F := fun _ bt326 => some (bt326.1, bt326.2.1, bt326.2.2.1, bt326.2.2.2.1, bt326.2.2.2.2.1, bt326.2.2.2.2.2.1, bt326.2.2.2.2.2.2.1, bt326.2.2.2.2.2.2.2)) (a := (⟨#[]⟩, 6, false, 0, 0, 0, ⟨#[]⟩, ts.map bdNode)) ?_ (Ev.now _)
  exact Ev.congr (fun k => by simp only [procfs_BuddyInfo.f, List.length_map]; rfl) h
 obtain ⟨K, hK⟩ := h2
 exact ⟨K, fun k hk => by
  have h3 := hK k hk
  simp only at h3
  show Option.map _ (impl_Buddyinfo_1.f k (ts.map bdS)) = _
  rw [h3]
  rfl⟩
end Go.Proofs.YtednjmngalmdkaaGreatDoor.GPC
end
section
/- What /proc/buddyinfo says, written, is read as its tree: on numbers and lists alone. Condition: rows as a call's arguments hold them (RowOk). -/
namespace Go.Proofs.YtednjmngalmdkaaGreatDoor.GPC
open Go Go.RowKit Go.Proofs.YtednjmngalmdkaaGreatDoorW.PrintWords Go.Proofs.YtednjmngalmdkaaGreatDoorW.PrintLast Go.Proofs.YtednjmngalmdkaaGreatDoor.PF
set_option linter.unusedVariables false
theorem sp_fin : ∀ n : Fin 256, 32 < n.val → n.val ≤ 126 → Lib.isSp (UInt8.ofNat n.val) = false := by decide +kernel
theorem sp_word (c : UInt8) (h1 : 32 < c.toNat) (h2 : c.toNat ≤ 126) : Lib.isSp c = false := by
 have := sp_fin ⟨c.toNat, c.toNat_lt⟩ h1 h2
 simpa using this
theorem word_all (w : List UInt8) (h : wordB w = true) : w ≠ [] ∧ ∀ c ∈ w, 32 < c.toNat ∧ c.toNat ≤ 126 := by
 unfold wordB at h
 rw [Bool.and_eq_true, List.all_eq_true] at h
 exact ⟨of_decide_eq_true h.2, fun c hc => of_decide_eq_true (h.1 c hc)⟩
theorem cl_word (w : List UInt8) (h : wordB w = true) : Cl w := ⟨(word_all w h).1, fun c hc => sp_word c ((word_all w h).2 c hc).1 ((word_all w h).2 c hc).2⟩
def Seen (l : List UInt8) : Prop := ∀ x ∈ l, 32 ≤ x.toNat ∧ x.toNat ≤ 126
theorem seen_app {a b : List UInt8} (ha : Seen a) (hb : Seen b) : Seen (a ++ b) := fun x hx => (List.mem_append.1 hx).elim (ha x) (hb x)
theorem seen_cons {c : UInt8} {b : List UInt8} (hc : 32 ≤ c.toNat ∧ c.toNat ≤ 126) (hb : Seen b) : Seen (c :: b) := fun x hx => (List.mem_cons.1 hx).elim (fun e => e ▸ hc) (hb x)
theorem seen_pad (m : Nat) {a : List UInt8} (ha : Seen a) : Seen (padS m a) := seen_app (fun x hx => by rw [(List.mem_replicate.1 hx).2]; decide) ha
theorem seen_dig (n : Nat) : Seen (digB 10 n) := fun x hx => by have := dig10 n x hx; omega
theorem seen_word (w : List UInt8) (h : wordB w = true) : Seen w := fun x hx => by have := (word_all w h).2 x hx; omega
theorem seen_nums : ∀ ns : List Nat, Seen (bdNums ns)
 | [] => fun x hx => by cases hx
 | n :: r => seen_app (seen_app (seen_pad 6 (seen_dig n)) (fun x hx => by simp only [List.mem_singleton] at hx; subst hx; decide)) (seen_nums r)
theorem seen_line (t : BdT) (ha : wordB t.1 = true) (hb : wordB t.2.1 = true) : Seen (bdLine t.1 t.2.1 t.2.2) := by
 unfold bdLine
 refine seen_app (by unfold Seen; decide) (seen_cons (by decide) (seen_app (seen_app (seen_word _ ha) (by unfold Seen; decide)) (seen_cons (by decide) (seen_app (by unfold Seen; decide) (seen_cons (by decide) (seen_app (seen_pad 8 (seen_word _ hb)) (seen_cons (by decide) (seen_nums _))))))))
theorem nums_len : ∀ ns : List Nat, ns.length ≤ (bdNums ns).length
 | [] => by simp
 | n :: r => by
  have := nums_len r
  have e : bdNums (n :: r) = (padS 6 (digB 10 n) ++ [32]) ++ bdNums r := rfl
  rw [e]
  simp only [List.length_append, List.length_cons, List.length_nil]
  omega
theorem text_len : ∀ (ts : List BdT) (t : BdT), t ∈ ts → (bdLine t.1 t.2.1 t.2.2).length ≤ (bdText ts).length
 | [], t, h => by cases h
 | u :: ts, t, h => by
  have e : bdText (u :: ts) = (bdLine u.1 u.2.1 u.2.2 ++ [10]) ++ bdText ts := rfl
  rw [e]
  simp only [List.length_append, List.length_cons, List.length_nil]
  rcases List.mem_cons.1 h with rfl | h
  ·omega
  ·have := text_len ts t h
   omega
theorem good_ok (c : Nat) (r : S31) (t : BdT) (h : BdGood c r t) (hl : (bdLine t.1 t.2.1 t.2.2).length ≤ 40000) : BdOk c t := by
 have h1 := nums_len t.2.2
 have h2 : t.1.length ≤ 40000 ∧ t.2.1.length ≤ 40000 ∧ (bdNums t.2.2).length ≤ 40000 := by
  simp only [bdLine, padS, List.length_append, List.length_cons, List.length_nil, List.length_replicate] at hl
  omega
 exact ⟨cl_word _ h.a, cl_word _ h.b, fun x hx e => h.cb x hx (by rw [e]; rfl), fun x hx => by
  have := seen_line t h.a h.b x hx
  refine ⟨by omega, fun e => ?_, fun e => ?_⟩
  ·rw [e] at this; revert this; decide
  ·rw [e] at this; revert this; decide, by omega, by omega, by omega, h.c, h.small⟩
theorem plainBuddyinfo (l : List S31) (hl : l.length ≤ maxLen) (hr : ∀ r ∈ l, OP.RowOk r) : ∃ k b, laws_zzFits5.f k l = some b ∧ (b = true → BackOk (fun k => spec_BuddyinfoPrint.f k l) (fun k => spec_BuddyinfoTree.f k l) (fun s n => doorBuddyinfo s n) l) := by
 obtain ⟨k, b, hz, hfit⟩ := zz5fF l
 refine ⟨k, b, hz, fun e => ?_⟩
 obtain ⟨_, hf⟩ := hfit e
 by_cases h1000 : 1000 < l.length
 ·exact .long h1000
 have key : Ev (fun k => spec_BuddyinfoPrint.f k l) (⟨#[]⟩, 2) ∨ ∃ (c : Nat) (ts : List BdT), ts.length = l.length ∧ (∀ (j : Nat) (h1 : j < l.length) (h2 : j < ts.length), BdGood c l[j] ts[j]) ∧ Ev (fun k => spec_BuddyinfoPrint.f k l) (strB (bdText ts), 1) := by
  by_cases h0 : 0 < l.length
  ·rcases bd_print l (by omega) (fun r h => ⟨hf r h, hr r h⟩) h0 l.length 0 [] (by omega) (by simp) with h | ⟨ts, h1, h2, h3⟩
   ·exact .inl h
   ·exact .inr ⟨_, ts, h1, fun j a b => by have := h2 j (by omega) b; simpa using this, h3⟩
  ·have hn : l = [] := List.eq_nil_of_length_eq_zero (by omega)
   subst hn
   refine .inr ⟨0, [], rfl, fun j a _ => by simp at a, ?_⟩
   exact Ev.step (f := fun _ => some (strB (bdText []), 1)) (fun k => by simp only [spec_BuddyinfoPrint.f, spec_BuddyinfoPrint.l0]; rfl) (Ev.now _)
 rcases key with hp | ⟨c, ts, hlen, hg, hp⟩
 ·obtain ⟨K, hk⟩ := hp
  exact .noPrint (by omega) K _ _ (hk K (Nat.le_refl _)) (.inl (by decide))
 by_cases hsz : 40000 < (bdText ts).length
 ·obtain ⟨K, hk⟩ := hp
  exact .noPrint (by omega) K _ _ (hk K (Nat.le_refl _)) (.inr (by rw [strB_size]; exact hsz))
 have hok : ∀ t ∈ ts, BdOk c t := fun t ht => by
  obtain ⟨j, hj, rfl⟩ := List.getElem_of_mem ht
  exact good_ok c _ _ (hg j (by omega) hj) (by have := text_len ts _ ht; omega)
 have hcn : ∀ t ∈ ts, t.2.2.length ≤ 40000 := fun t ht => by
  have h1 := text_len ts t ht
  have h2 := nums_len t.2.2
  have h3 : (bdNums t.2.2).length ≤ (bdLine t.1 t.2.1 t.2.2).length := by
   simp only [bdLine, List.length_append, List.length_cons, List.length_nil]; omega
  omega
 obtain ⟨c', hc', hok'⟩ : ∃ c' : Nat, c' ≤ 40000 ∧ (∀ t ∈ ts, BdOk c' t) ∧ ∀ (j : Nat) (h1 : j < l.length) (h2 : j < ts.length), BdGood c' l[j] ts[j] := by
  by_cases h0 : ts = []
  ·subst h0
   exact ⟨0, by omega, (fun t ht => by cases ht), fun j _ h2 => by simp at h2⟩
  ·obtain ⟨t, ht⟩ := List.exists_mem_of_ne_nil ts h0
   exact ⟨c, by rw [← (hok t ht).cnt]; exact hcn t ht, hok, hg⟩
 have hread := bd_read c' (by omega) ts hok'.1 (by omega) (by omega)
 have hnode := bd_node ts (by omega) (fun t ht => by have := hcn t ht; omega)
 refine back_same (by omega) _ hp (by rw [strB_size]; omega) 3 (bdAll ts) (bd_fit ts (by omega) (fun t ht => by have := hcn t ht; omega)) ?_ ?_
 ·rw [bd_conv]
  refine evB hp (evP rfl ?_)
  have ht := bd_tree l (by omega) c' (by omega) ts hlen hok'.2 l.length 0 [] (by omega) (by simp)
  rw [List.drop_zero, List.nil_append] at ht
  exact ht
 ·obtain ⟨K1, h1⟩ := hread
  obtain ⟨K2, h2⟩ := hnode
  exact ⟨K1 + K2, ts.map bdS, h1 _ (by omega), h2 _ (by omega)⟩
end Go.Proofs.YtednjmngalmdkaaGreatDoor.GPC
end
section
/- Closed facts of the row of FnBuddyinfoBack, the first part. No condition. -/
namespace Go.Proofs.YtednjmngalmdkaaGreatDoor.fnBuddyinfoBack
open Go
set_option maxRecDepth 100000
theorem fact0 : (Rows.fnBuddyinfoBackRow.wf (OpenSpec.ofChange Rows.fnBuddyinfoBackSpec)) = true := by kernel_rfl
theorem fact2 : (mapsRowed Tryz.prog) = true := by kernel_rfl
theorem fact9 : ((Rows.fnBuddyinfoBackRow.inPlace == Tryz.prog.inPlace 4)) = true := by kernel_rfl
theorem fact10 : ((Rows.fnBuddyinfoBackRow.unfollowed == Tryz.prog.unfollowed 4)) = true := by kernel_rfl
theorem fact11 : ((Rows.fnBuddyinfoBackRow.recurses == Tryz.prog.recurses 4)) = true := by kernel_rfl
theorem fact12 : ((Rows.fnBuddyinfoBackRow.named == Tryz.prog.varsNamed 4)) = true := by kernel_rfl
end Go.Proofs.YtednjmngalmdkaaGreatDoor.fnBuddyinfoBack
end
section
/- Closed facts of the row of FnBuddyinfoBack, the second part, and all of them. No condition. -/
namespace Go.Proofs.YtednjmngalmdkaaGreatDoor.fnBuddyinfoBack
open Go
set_option maxRecDepth 100000
theorem and_true2 {a b : Bool} (ha : a = true) (hb : b = true) : (a && b) = true := by rw [ha, hb]; rfl
theorem fact1 : (laidOutB Tryz.prog) = true := by kernel_rfl
theorem fact3 : (Tryz.f4.params.all (Tryz.prog.readableRec ·)) = true := by kernel_rfl
theorem fact4 : (namedTie Tryz.prog Rows.fnBuddyinfoBackRow.named Rows.fnBuddyinfoBackSpec.vars) = true := by kernel_rfl
theorem fact5 : ((Rows.fnBuddyinfoBackRow.stops == [])) = true := by kernel_rfl
theorem fact6 : ((Tryz.prog.stops == [])) = true := by kernel_rfl
theorem fact7 : ((Rows.fnBuddyinfoBackRow.knobs == [])) = true := by kernel_rfl
theorem fact8 : ((Tryz.prog.stopKnobs == [])) = true := by kernel_rfl
theorem fact13 : ((Rows.fnBuddyinfoBackRow.maps == (Tryz.f4.params.toList ++ Rows.fnBuddyinfoBackSpec.plain.varTypes Tryz.prog).any (Tryz.prog.mapsRec ·))) = true := by kernel_rfl
theorem fact14 : ((Rows.fnBuddyinfoBackRow.ifaces == (Tryz.f4.params.toList ++ Rows.fnBuddyinfoBackSpec.plain.varTypes Tryz.prog).any (Tryz.prog.ifacesRec ·))) = true := by kernel_rfl
theorem fact15 : ((Rows.fnBuddyinfoBackRow.mapsOut == Tryz.prog.mapsAmong Tryz.f4.resultTypes.toList)) = true := by kernel_rfl
theorem fact16 : ((Rows.fnBuddyinfoBackRow.loops == (Tryz.f4.params.toList ++ Rows.fnBuddyinfoBackSpec.plain.varTypes Tryz.prog).any (Tryz.prog.loopsFrom ·))) = true := by kernel_rfl
theorem fact17 : ((Rows.fnBuddyinfoBackRow.wideKeys == (Tryz.f4.params.toList ++ Rows.fnBuddyinfoBackSpec.plain.varTypes Tryz.prog ++ Tryz.f4.resultTypes.toList).any (Tryz.prog.wideKeysFrom ·))) = true := by kernel_rfl
theorem fact18 : (Rows.fnBuddyinfoBackSpec.vars.all (Tryz.prog.varReadable ·)) = true := by kernel_rfl
theorem fact19 : (Tryz.f4.resultTypes.all (fun t => Tryz.prog.readableRec t && decide (t < Tryz.prog.types.size))) = true := by kernel_rfl
theorem fact20 : ((Rows.fnBuddyinfoBackRow.ifacesOut == Tryz.f4.resultTypes.toList.any (Tryz.prog.ifacesRec ·))) = true := by kernel_rfl
theorem fact21 : ((Rows.fnBuddyinfoBackRow.loopsOut == Tryz.f4.resultTypes.toList.any (Tryz.prog.loopsFrom ·))) = true := by kernel_rfl
theorem fact22 : ((Rows.fnBuddyinfoBackRow.plainKeys == Tryz.prog.plainKeys)) = true := by kernel_rfl
theorem fact23 : (Rows.fnBuddyinfoBackRow.shortTexts.isNone) = true := by kernel_rfl
theorem fact24 : (Tryz.prog.stopsHeard) = true := by kernel_rfl
theorem fact25 : (Tryz.prog.mayEnter) = true := by kernel_rfl
theorem fact26 : ((Rows.fnBuddyinfoBackRow.lifted == Tryz.prog.liftsFinal)) = true := by kernel_rfl
theorem fact27 : ((Tryz.prog.make == some Rows.fnBuddyinfoBackRow.make)) = true := by kernel_rfl
theorem fact28 : ((Rows.fnBuddyinfoBackRow.kinds == (if Rows.fnBuddyinfoBackRow.domain.isEmpty then [] else Tryz.f4.params.toList.map fun t => match Tryz.prog.underlying t with | some (.int k) => some k | _ => none))) = true := by kernel_rfl
theorem fact29 : ((Rows.fnBuddyinfoBackRow.pinned == Rows.fnBuddyinfoBackRow.pinnedBy)) = true := by kernel_rfl
theorem fact30 : ((Rows.fnBuddyinfoBackRow.veiled == (Tryz.f4.params.toList ++ Rows.fnBuddyinfoBackSpec.plain.varTypes Tryz.prog ++ Tryz.f4.resultTypes.toList).any (Tryz.prog.veiledRec ·))) = true := by kernel_rfl
theorem fact31 : (Rows.fnBuddyinfoBackRow.veiledFits Tryz.prog Tryz.f4.params.toList (Tryz.f4.params.toList ++ Rows.fnBuddyinfoBackSpec.plain.varTypes Tryz.prog ++ Tryz.f4.resultTypes.toList)) = true := by kernel_rfl
theorem closed : joinedFacts Tryz.prog 4 Tryz.f4 Rows.fnBuddyinfoBackSpec Rows.fnBuddyinfoBackRow = true := (and_true2 (and_true2 (and_true2 (and_true2 (and_true2 (and_true2 (and_true2 (and_true2 (and_true2 (and_true2 (and_true2 (and_true2 (and_true2 (and_true2 (and_true2 (and_true2 (and_true2 (and_true2 (and_true2 (and_true2 (and_true2 (and_true2 (and_true2 (and_true2 (and_true2 (and_true2 (and_true2 (and_true2 (and_true2 (and_true2 (and_true2 fact0 fact1) fact2) fact3) fact4) fact5) fact6) fact7) fact8) fact9) fact10) fact11) fact12) fact13) fact14) fact15) fact16) fact17) fact18) fact19) fact20) fact21) fact22) fact23) fact24) fact25) fact26) fact27) fact28) fact29) fact30) fact31)
end Go.Proofs.YtednjmngalmdkaaGreatDoor.fnBuddyinfoBack
end
section
/- What /proc/buddyinfo says, written in the documented form, is read as its tree: the tied card of FnBuddyinfoBack. No condition beyond the card's own. -/
namespace Go.Proofs.YtednjmngalmdkaaGreatDoor.fnBuddyinfoBack
open Go.ChangeShapes Go.WideShapes Go.ChangeAt Go.RowKit
open Go.ChangeMaps (open_string shut_string)
set_option linter.unusedVariables false
theorem laidOut : laidOutB Tryz.prog = true := by kernel_rfl
theorem own : ownKnob Tryz.prog.godebug = none := by kernel_rfl
set_option maxRecDepth 100000 in
theorem lifted (os : Os) (started : os.Started) (H : Type) (enc : TypeId × Value → H) :
  ReturnsInHanded {} Tryz.checked os 4 .any (fun w args => (Rows.fnBuddyinfoBackSpec.pre enc Tryz.prog Tryz.f4 [] false w args ∧ laidMetH Tryz.prog Rows.fnBuddyinfoBackRow.laid w) ∧ sizedMet enc Tryz.prog Tryz.f4 (OpenSpec.ofChange Rows.fnBuddyinfoBackSpec) false w args) (Rows.fnBuddyinfoBackSpec.post enc Tryz.prog Tryz.f4 false true false false) := by
 refine returnsInHanded_of_change_and (C := Tryz.checked) (X := fun w _ => laidMetH Tryz.prog Rows.fnBuddyinfoBackRow.laid w) (fun _ _ _ hh h => h.of_heap hh) own started (by kernel_rfl) Tryz.func4
  (ChangeSpec.witness_shaped (enc := enc) (C := Tryz.checked) (os := os) (X := fun w _ => laidMetH Tryz.prog Rows.fnBuddyinfoBackRow.laid w) false (World.laidAll Tryz.prog os Rows.fnBuddyinfoBackRow.laid) #[.slice none 0 0] 8 (World.laidAll_os _ _ _)
   (World.shaped_of_ZipB (by kernel_rfl) (by kernel_rfl)) (by kernel_rfl) (by kernel_rfl) (by kernel_rfl)
   (by rw [MakeChecks.laidMetH_plain _ _ _ (by kernel_rfl)]; exact laidMet_laidAll _ (by kernel_rfl) (by kernel_rfl))) ?_
 intro W base args ds gs before hval0 hW _ hsz0 hL _
 have hsz : (DataW.weightsEach Tryz.prog (Tryz.f4.params.toList ++ Rows.fnBuddyinfoBackSpec.plain.varTypes Tryz.prog) (ds ++ gs)).all (· ≤ reachBytes) = true := hsz0
 have hval : ∀ (j : Nat) t v, Tryz.f4.params[j]? = some t → args[j]? = some v → Value.okWide Tryz.prog W .any base t v := hval0
 have hW' := hW
 obtain ⟨p, q, hA0, hV, rfl, hfz, hnd⟩ := hW
 have hA : DataW.TrodAll enc Tryz.prog W 0 (fun _ => true) true Tryz.f4.params.toList args.toList ds p := hA0
 rw [Tryz.params4] at hA hval hsz
 obtain ⟨v0, vs0, d0, ds0, p0, q0, hargs, rfl, rfl, h0, r0⟩ := trodAll_cons hA
 obtain ⟨rfl, rfl, rfl⟩ := trodAll_nil r0
 obtain rfl : args = #[v0] := by cases args; simp_all
 obtain ⟨rfl, rfl⟩ := trodVars_none hV
 obtain ⟨a0, len0, cap0, rfl⟩ := okWide_slice Tryz.underlying22 (hval 0 22 v0 rfl rfl)
 have k0 := h0
 have lt0 : ∀ x ∈ p0, x.block < W.heap.size := by obtain ⟨m, hm⟩ := k0; exact DataW.trod_lt m _ _ _ hm
 obtain ⟨l0, e0, g0, hmx, c0, q0⟩ : ∃ l : List GPC.S31, len0 = l.length ∧ l.length ≤ cap0 ∧ l.length ≤ maxLen ∧ Go.Proofs.YtednjmngalmdkaaGreatDoorW.PrintWords.Kd.C GPC.k31 W a0 l.length l ∧ ∀ r ∈ l, OP.RowOk r := by
  obtain ⟨fuel, hf⟩ := h0
  obtain ⟨A, c, xs, hcs, hl, hm, hC, hq⟩ := OP.slice_at OP.open31 Tryz.underlying22 hf
  simp [Value.cells] at hcs
  obtain ⟨rfl, rfl, rfl⟩ := hcs
  exact ⟨xs, rfl, hl, Nat.le_trans hl hm, hC, hq⟩
 subst e0
 clear hA0 hval0 hsz0 hsz
 rw [MakeChecks.laidMetH_plain _ _ _ (by kernel_rfl)] at hL
 have hT : GPC.TabW W := GPC.tabW_of hL (by simp [Rows.fnBuddyinfoBackRow]) (by simp [Rows.fnBuddyinfoBackRow]) (by simp [Rows.fnBuddyinfoBackRow]) (by simp [Rows.fnBuddyinfoBackRow])
 obtain ⟨kz, bz, hz, hok⟩ := GPC.plainBuddyinfo l0 hmx q0
 refine (GPC.lawBuddyinfo a0 cap0 l0 W c0 g0 hT kz bz hz hok).mono fun e W' ⟨he, bel⟩ => ?_
 subst he
 exact ⟨_, rfl, _, _, _, [], _, [], hW', trodAll_mk1 (shut_bool Tryz.underlying4 _), (trodAll_cons_mk (Below.trod laidOut (by kernel_rfl) (of_decide_eq_true (by kernel_rfl)) k0 bel lt0) trodAll_mk0), rfl, bel.frame _, fun h => by cases h⟩
theorem over : Rows.FnBuddyinfoBackSaid :=
 OpenClaim.holds_of_wide 4 Tryz.f4 rfl rfl rfl rfl rfl rfl rfl ⟨rfl, rfl, rfl, rfl, rfl⟩ rfl rfl rfl rfl rfl (by kernel_rfl) Tryz.func4 closed
  (of_decide_eq_true (by kernel_rfl)) (by unfold Func.isWrapper; first | (rw [if_pos (by decide +kernel)]; kernel_rfl) | (rw [if_neg (by decide +kernel)]; exact ⟨rfl, rfl⟩))
  (fun os started H enc _ => lifted os started H enc)
theorem card : Rows.FnBuddyinfoBackCardSaid :=
 Claim7.holds_tied_plain_at .later [] Rows.fnBuddyinfoBackCard.laidKinds true Rows.fnBuddyinfoBackCard.stood.harness true
  over (fun _ h => by cases h) (by kernel_rfl) (fun _ h => by cases h) fnBuddyinfoBack_row_tie rfl ⟨rfl, rfl⟩ (by kernel_rfl) rfl
  (fun f fn hf hfn => by
   obtain rfl : f = 4 := Option.some.inj ((show Tryz.prog.funcNamed "pub-frontispiece/laws.FnBuddyinfoBack" = some 4 by kernel_rfl).symm.trans hf) |>.symm
   obtain rfl : fn = Tryz.f4 := (Option.some.inj (Tryz.func4.symm.trans hfn)).symm
   exact ⟨by kernel_rfl, fun j t ht => by
    rw [Tryz.params4] at ht
    have hm : t ∈ [22] := by simpa using Array.mem_of_getElem? ht
    have hall : ([22].all fun u => !Tryz.prog.wantsStandIn u) = true := by kernel_rfl
    exact (show Tryz.prog.wantsStandIn t = false by simpa using List.all_eq_true.1 hall t hm)⟩)
  (by kernel_rfl)
#print axioms card
end Go.Proofs.YtednjmngalmdkaaGreatDoor.fnBuddyinfoBack
namespace Go.Proofs.YtednjmngalmdkaaGreatDoor
theorem fnBuddyinfoBack_card : Rows.FnBuddyinfoBackCardSaid := fnBuddyinfoBack.card
end Go.Proofs.YtednjmngalmdkaaGreatDoor
end
