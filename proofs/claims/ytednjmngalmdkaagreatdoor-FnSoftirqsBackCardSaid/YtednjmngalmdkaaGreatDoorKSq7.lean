/- Texts of this claim, put together: PlSq3, PlSq4, PlSq5, PlSq6, PlSoftirqs. Conditions: as each one says. -/
import Derived.Test.YtednjmngalmdkaaGreatDoorKSq0
import Derived.Test.YtednjmngalmdkaaGreatDoorKSq1
import Derived.Test.YtednjmngalmdkaaGreatDoorKSq2
import Derived.Test.YtednjmngalmdkaaGreatDoorKSq4
import Derived.Test.YtednjmngalmdkaaGreatDoorKSq5
import Derived.Test.YtednjmngalmdkaaGreatDoorKSq6
import Derived.Defers
import Derived.Recover
import Derived.Test.YtednjmngalmdkaaGreatDoorProg
import Derived.Below
import Derived.Deep.Draws
import Derived.Deep.AppendLies
import Derived.Maps.AppendAt
import Derived.OwnWalk
import Derived.Laws.BytesArg
import Derived.Laws.MakeOwn
import Derived.Laws.OwnMore
import Derived.Deep.OwnRows
import Derived.Tactics
import Derived.Lib.ConvBytes
import Derived.Laws.Slices
import Derived.WalkKit
import Derived.KernelRfl
import Derived.RowKit3
import Derived.Deep.LoopGhost
import Derived.Deep.QuietTactic
import Derived.BigQuiet
import Derived.WideLaws
import Derived.Deep.DeepCutAuto
import Derived.Deep.CutBlock
import Derived.Deep.RegionHeld3
import Derived.Laws.Rows
import Derived.Lib.AppendStr
import Derived.ArgAppend
import Derived.Laws.IdiomCopy
import Derived.OrdersHeld
import Derived.Laws.BitsLemmas
import Derived.RowKit
section
/- A row of /proc/softirqs is read again. On numbers and lists alone. -/
namespace Go.Proofs.YtednjmngalmdkaaGreatDoor.GPC
open Go Go.RowKit Go.Proofs.YtednjmngalmdkaaGreatDoorW.PrintWords Go.Proofs.YtednjmngalmdkaaGreatDoorW.PrintLast Go.Proofs.YtednjmngalmdkaaGreatDoor.PF
set_option linter.unusedVariables false
theorem sq_dsp (n : Nat) : ∀ c ∈ digB 10 n, Lib.isSp c = false := fun c hc => (dec_word n).2.1 c hc
theorem sq_rep : ∀ (m : Nat) (c : UInt8), c ∈ List.replicate m (32 : UInt8) → Lib.isSp c = true := fun m c hc => by rw [(List.mem_replicate.1 hc).2]; decide
theorem sq_fields : ∀ ns : List Nat, Lib.fields (sqNs ns) = decs ns
 | [] => rfl
 | n :: r => by
  have ih := sq_fields r
  have e : sqNs (n :: r) = (32 :: List.replicate (10 - (digB 10 n).length) 32) ++ (digB 10 n ++ sqNs r) := by
   simp [sqNs, padS]
  rw [e, fields_blanks _ _ (fun c hc => by
   rcases List.mem_cons.1 hc with rfl | hc
   ·decide
   ·exact sq_rep _ c hc)]
  cases r with
  | nil => rw [show sqNs [] = [] from rfl, List.append_nil, fields_last _ (digB_ne 10 n) (sq_dsp n)]; rfl
  | cons m r =>
   obtain ⟨z, hz⟩ : ∃ z, sqNs (m :: r) = 32 :: z := ⟨_, by simp only [sqNs, List.flatMap_cons, List.cons_append]; rfl⟩
   rw [hz] at ih ⊢
   rw [fields_word _ 32 z (digB_ne 10 n) (sq_dsp n) (by decide), ih]
   rfl
theorem sq_nmok : ∀ i : Fin 10, sqNm.getD i.val [] ≠ [] ∧ ∀ c ∈ sqNm.getD i.val [] ++ [58], Lib.isSp c = false ∧ c.toNat < 128 ∧ c ≠ 10 ∧ c ≠ 13 := by decide +kernel
theorem sqLine_fields (i : Nat) (hi : i < 10) (ns : List Nat) (h1 : ns ≠ []) : Lib.fields (sqLine (i, ns)) = (sqNm.getD i [] ++ [58]) :: decs ns := by
 have hok := sq_nmok ⟨i, hi⟩
 simp only at hok
 obtain ⟨n, r, rfl⟩ := List.exists_cons_of_ne_nil h1
 have hf := sq_fields (n :: r)
 obtain ⟨z, hz⟩ : ∃ z, sqNs (n :: r) = 32 :: z := ⟨_, by simp only [sqNs, List.flatMap_cons, List.cons_append]; rfl⟩
 have e : sqLine (i, n :: r) = List.replicate (12 - (sqNm.getD i []).length) 32 ++ ((sqNm.getD i [] ++ [58]) ++ sqNs (n :: r)) := by
  simp [sqLine, padS]
 rw [e, fields_blanks _ _ (sq_rep _), hz, fields_word _ 32 z (by simp) (fun c hc => (hok.2 c hc).1) (by decide)]
 rw [hz] at hf
 rw [hf]
end Go.Proofs.YtednjmngalmdkaaGreatDoor.GPC
end
section
/- A row of /proc/softirqs, read by sqL. On numbers and lists alone. -/
namespace Go.Proofs.YtednjmngalmdkaaGreatDoor.GPC
open Go Go.RowKit Go.Proofs.YtednjmngalmdkaaGreatDoorW.PrintWords Go.Proofs.YtednjmngalmdkaaGreatDoorW.PrintLast Go.Proofs.YtednjmngalmdkaaGreatDoor.PF
set_option linter.unusedVariables false
theorem puSq_dec (n : Nat) (h : n < 18446744073709551616) : puSq (strB (digB 10 n)) = some (n : Int) := by
 unfold puSq
 rw [pu10 n h]
 rfl
theorem sq_numsL : ∀ (ns : List Nat), (∀ m ∈ ns, m < 18446744073709551616) → sqNums ((decs ns).map strB) = some (intsOf ns)
 | [], _ => rfl
 | n :: r, h => by
  have ih := sq_numsL r (fun m hm => h m (by simp [hm]))
  show (puSq (strB (digB 10 n))).bind (fun x => (sqNums ((decs r).map strB)).map fun l => x :: l) = _
  rw [puSq_dec n (h n (by simp)), ih]
  rfl
theorem sq_chars (i : Nat) (hi : i < 10) (ns : List Nat) : ∀ c ∈ sqLine (i, ns), c.toNat < 128 ∧ c ≠ 10 ∧ c ≠ 13 := by
 have hok := sq_nmok ⟨i, hi⟩
 simp only at hok
 have h32 : (32 : UInt8).toNat < 128 ∧ (32 : UInt8) ≠ 10 ∧ (32 : UInt8) ≠ 13 := by decide
 intro c hc
 have hdg : ∀ m, c ∈ digB 10 m → c.toNat < 128 ∧ c ≠ 10 ∧ c ≠ 13 := fun m hm => by
  have := dig10 m c hm
  exact ⟨by omega, fun e => by rw [e] at this; revert this; decide, fun e => by rw [e] at this; revert this; decide⟩
 simp only [sqLine, padS, sqNs, List.mem_append, List.mem_flatMap, List.mem_cons, List.mem_replicate, List.not_mem_nil, or_false] at hc
 rcases hc with ((⟨_, rfl⟩ | h) | rfl) | ⟨m, _, rfl | ⟨_, rfl⟩ | h⟩
 ·exact h32
 ·exact (hok.2 c (List.mem_append_left _ h)).2
 ·decide
 ·exact h32
 ·exact h32
 ·exact hdg m h
theorem sq_lineL (i : Nat) (hi : i < 10) (ns : List Nat) (h1 : 1 ≤ ns.length) (hn : ∀ m ∈ ns, m < 18446744073709551616) (hl : (sqLine (i, ns)).length ≤ 40000) :
  LnOk (sqLine (i, ns)) ∧ sqL (strB (sqLine (i, ns))) = some (some (strB (sqNm.getD i [] ++ [58]), intsOf ns)) := by
 have hne : ns ≠ [] := fun e => by rw [e] at h1; simp at h1
 have hch := sq_chars i hi ns
 refine ⟨⟨by unfold sqLine; simp, fun c hc => (hch c hc).2, by omega⟩, ?_⟩
 have hlen : ∀ ns : List Nat, ns.length ≤ (sqNs ns).length := fun ns => by
  induction ns with
  | nil => simp
  | cons n r ih => simp only [sqNs, List.flatMap_cons, List.length_append, List.length_cons] at ih ⊢; omega
 have hle : ns.length ≤ 40000 := by have := hlen ns; simp only [sqLine, List.length_append] at hl; omega
 have hf : strings_Fields.f (strB (sqLine (i, ns))) = some ((((sqNm.getD i [] ++ [58]) :: decs ns)).map strB) := by
  unfold strings_Fields.f
  rw [if_pos ⟨by rw [strB_size]; omega, by rw [strB_dl, List.all_eq_true]; exact fun c hc => decide_eq_true (hch c hc).1⟩, strB_dl, sqLine_fields i hi ns hne]
  rfl
 obtain ⟨n, r, rfl⟩ := List.exists_cons_of_ne_nil hne
 unfold sqL
 rw [hf, Option.bind_some]
 show (if ((decs r).map strB).length ≤ 100000 then (sqNums ((decs (n :: r)).map strB)).map fun l => some (strB (sqNm.getD i [] ++ [58]), l) else none) = _
 rw [if_pos (by simp only [List.length_map, decs, List.length_cons] at hle ⊢; omega), sq_numsL _ hn]
 rfl
end Go.Proofs.YtednjmngalmdkaaGreatDoor.GPC
end
section
/- The trees of /proc/softirqs. On numbers and lists alone. -/
namespace Go.Proofs.YtednjmngalmdkaaGreatDoor.GPC
open Go Go.RowKit Go.Proofs.YtednjmngalmdkaaGreatDoorW.PrintWords Go.Proofs.YtednjmngalmdkaaGreatDoorW.PrintLast Go.Proofs.YtednjmngalmdkaaGreatDoor.PF
set_option linter.unusedVariables false
def sqKid39 (v : Int) : S39 := ⟨⟨#[]⟩, 3, false, 0, v, 0, ⟨#[]⟩, []⟩
def sqKid43 (v : Int) : S43 := ⟨⟨#[]⟩, 3, false, 0, v, 0, ⟨#[]⟩, []⟩
def sqL39 (nm : ByteArray) (l : List Int) : S39 := ⟨nm, 6, false, 0, 0, 0, ⟨#[]⟩, l.map sqKid39⟩
def sqL43 (nm : ByteArray) (l : List Int) : S43 := ⟨nm, 6, false, 0, 0, 0, ⟨#[]⟩, l.map sqKid43⟩
theorem sq_list43 (nm : ByteArray) (l : List Int) (hl : l.length ≤ 1000000) : Ev (fun k => impl_list_uint64.f k nm l) (nm, 6, false, 0, 0, 0, ⟨#[]⟩, l.map sqKid43) := by
 have h := gen_list (fun acc i k => impl_list_uint64.l0 k l (l.length : Int) (i : Int) nm 6 false 0 0 0 ⟨#[]⟩ acc) l.length (fun i => sqKid43 (l.getD i 0)) (fun acc => (nm, (6 : Int), false, (0 : Int), (0 : Int), (0 : Nat), (⟨#[]⟩ : ByteArray), acc)) ?_ ?_ l.length 0 [] (by omega) (by simp)
 ·rw [range_map l sqKid43 _ (fun i hi => by simp [List.getD_eq_getElem?_getD, List.getElem?_eq_getElem hi]), List.nil_append] at h
  exact h
 ·intro acc ha
  refine Ev.step (f := fun _ => some (nm, (6 : Int), false, (0 : Int), (0 : Int), (0 : Nat), (⟨#[]⟩ : ByteArray), acc)) (fun k => ?_) (Ev.now _)
  simp only [impl_list_uint64.l0]
  rw [if_neg (by omega)]
 ·intro i hi acc ha r hr
  have hw : wrap64 ((i : Int) + 1) = ((i + 1 : Nat) : Int) := by unfold wrap64; omega
  have egd : rd l (i : Int) = l.getD i 0 := by simp [rd]
  refine Ev.step (fun k => ?_) hr
  simp only [impl_list_uint64.l0]
  rw [if_pos (by omega), if_pos (by omega), if_pos (by omega), egd, hw]
  simp only [impl_procfsSoftirqs_1.f, Option.bind_some]
  rw [if_pos (by omega)]
  rfl
theorem sq_list39 (nm : ByteArray) (l : List Int) (hl : l.length ≤ 1000000) : Ev (fun k => spec_nums.f k nm l) (nm, 6, false, 0, 0, 0, ⟨#[]⟩, l.map sqKid39) := by
 have h := gen_list (fun acc i k => spec_nums.l0 k nm acc l (l.length : Int) (i : Int)) l.length (fun i => sqKid39 (l.getD i 0)) (fun acc => (nm, (6 : Int), false, (0 : Int), (0 : Int), (0 : Nat), (⟨#[]⟩ : ByteArray), acc)) ?_ ?_ l.length 0 [] (by omega) (by simp)
 ·rw [range_map l sqKid39 _ (fun i hi => by simp [List.getD_eq_getElem?_getD, List.getElem?_eq_getElem hi]), List.nil_append] at h
  exact h
 ·intro acc ha
  refine Ev.step (f := fun _ => some (nm, (6 : Int), false, (0 : Int), (0 : Int), (0 : Nat), (⟨#[]⟩ : ByteArray), acc)) (fun k => ?_) (Ev.now _)
  simp only [spec_nums.l0]
  rw [if_neg (by omega)]
  rfl
 ·intro i hi acc ha r hr
  have hw : wrap64 ((i : Int) + 1) = ((i + 1 : Nat) : Int) := by unfold wrap64; omega
  have egd : rd l (i : Int) = l.getD i 0 := by simp [rd]
  refine Ev.step (fun k => ?_) hr
  simp only [spec_nums.l0]
  rw [if_pos (by omega), if_pos (by omega), if_pos (by omega), egd, hw]
  simp only [spec_uintNode.f, Option.bind_some]
  rw [if_pos (by omega)]
  rfl
theorem sq_tree (l : List S31) (hl : l.length = 10) (hs : ∀ r ∈ l, r.f1.length ≤ 1000000) :
  Ev (fun k => spec_SoftirqsTree.l0 k l [] sqNM (sqNM.length : Int) 0) (⟨#[]⟩, 8, false, 0, 0, 0, ⟨#[]⟩, (List.range' 0 10).map (fun i : Nat => sqL39 ((rd_T136 sqNM (i : Int)).f0) ((l.getD i ⟨⟨#[]⟩, [], []⟩).f1)), 1) := by
 have h := gen_list (fun acc i k => spec_SoftirqsTree.l0 k l acc sqNM (10 : Int) (i : Int)) 10 (fun i : Nat => sqL39 ((rd_T136 sqNM (i : Int)).f0) ((l.getD i ⟨⟨#[]⟩, [], []⟩).f1)) (fun acc => ((⟨#[]⟩ : ByteArray), (8 : Int), false, (0 : Int), (0 : Int), (0 : Nat), (⟨#[]⟩ : ByteArray), acc, (1 : Int))) ?_ ?_ 10 0 [] (by omega) (by simp)
 ·exact h
 ·intro acc ha
  refine Ev.step (f := fun _ => some ((⟨#[]⟩ : ByteArray), (8 : Int), false, (0 : Int), (0 : Int), (0 : Nat), (⟨#[]⟩ : ByteArray), acc, (1 : Int))) (fun k => ?_) (Ev.now _)
  simp only [spec_SoftirqsTree.l0]
  rw [if_neg (by omega)]
  rfl
 ·intro i hi acc ha r hr
  have hil : i < l.length := by omega
  have hw : wrap64 ((i : Int) + 1) = ((i + 1 : Nat) : Int) := by unfold wrap64; omega
  have hrd := grd31 l i hil
  have egd : l.getD i ⟨⟨#[]⟩, [], []⟩ = l[i] := by simp [List.getD_eq_getElem?_getD, List.getElem?_eq_getElem hil]
  rw [egd] at hr
  have hn := sq_list39 ((rd_T136 sqNM (i : Int)).f0) l[i].f1 (hs _ (List.getElem_mem _))
  refine Ev.step (f := fun k => (spec_nums.f k ((rd_T136 sqNM (i : Int)).f0) l[i].f1).bind fun bt163 => (if acc.length < 1466015503701 then (spec_SoftirqsTree.l0 k l (acc ++ [(⟨bt163.1, bt163.2.1, bt163.2.2.1, bt163.2.2.2.1, bt163.2.2.2.2.1, bt163.2.2.2.2.2.1, bt163.2.2.2.2.2.2.1, bt163.2.2.2.2.2.2.2⟩ : S39)]) sqNM (10 : Int) ((i + 1 : Nat) : Int)) else (none))) (fun k => ?_) (evB hn (evG (by omega) hr))
  simp only [spec_SoftirqsTree.l0]
  rw [if_pos (by omega), if_pos (by omega), if_pos (by rw [sqNM_len]; omega), if_pos (by omega), hrd, hw]
end Go.Proofs.YtednjmngalmdkaaGreatDoor.GPC
end
section
/- The node of softirqs: ten lists. On numbers and lists alone. -/
namespace Go.Proofs.YtednjmngalmdkaaGreatDoor.GPC
open Go Go.RowKit Go.Proofs.YtednjmngalmdkaaGreatDoorW.PrintWords Go.Proofs.YtednjmngalmdkaaGreatDoorW.PrintLast Go.Proofs.YtednjmngalmdkaaGreatDoor.PF
set_option linter.unusedVariables false
theorem sq_node10 (l0 l1 l2 l3 l4 l5 l6 l7 l8 l9 : List Int) (hl : ∀ l ∈ [l0, l1, l2, l3, l4, l5, l6, l7, l8, l9], l.length ≤ 1000000) : Ev (fun k => impl_procfsSoftirqs.f k ⟨#[]⟩ l0 l1 l2 l3 l4 l5 l6 l7 l8 l9) (⟨#[]⟩, 8, false, 0, 0, 0, ⟨#[]⟩, [sqL43 ⟨#[72, 105]⟩ l0, sqL43 ⟨#[84, 105, 109, 101, 114]⟩ l1, sqL43 ⟨#[78, 101, 116, 84, 120]⟩ l2, sqL43 ⟨#[78, 101, 116, 82, 120]⟩ l3, sqL43 ⟨#[66, 108, 111, 99, 107]⟩ l4, sqL43 ⟨#[73, 82, 81, 80, 111, 108, 108]⟩ l5, sqL43 ⟨#[84, 97, 115, 107, 108, 101, 116]⟩ l6, sqL43 ⟨#[83, 99, 104, 101, 100]⟩ l7, sqL43 ⟨#[72, 82, 84, 105, 109, 101, 114]⟩ l8, sqL43 ⟨#[82, 67, 85]⟩ l9]) := by
 obtain ⟨K0, h0⟩ := sq_list43 ⟨#[72, 105]⟩ l0 (hl _ (by simp))
 obtain ⟨K1, h1⟩ := sq_list43 ⟨#[84, 105, 109, 101, 114]⟩ l1 (hl _ (by simp))
 obtain ⟨K2, h2⟩ := sq_list43 ⟨#[78, 101, 116, 84, 120]⟩ l2 (hl _ (by simp))
 obtain ⟨K3, h3⟩ := sq_list43 ⟨#[78, 101, 116, 82, 120]⟩ l3 (hl _ (by simp))
 obtain ⟨K4, h4⟩ := sq_list43 ⟨#[66, 108, 111, 99, 107]⟩ l4 (hl _ (by simp))
 obtain ⟨K5, h5⟩ := sq_list43 ⟨#[73, 82, 81, 80, 111, 108, 108]⟩ l5 (hl _ (by simp))
 obtain ⟨K6, h6⟩ := sq_list43 ⟨#[84, 97, 115, 107, 108, 101, 116]⟩ l6 (hl _ (by simp))
 obtain ⟨K7, h7⟩ := sq_list43 ⟨#[83, 99, 104, 101, 100]⟩ l7 (hl _ (by simp))
 obtain ⟨K8, h8⟩ := sq_list43 ⟨#[72, 82, 84, 105, 109, 101, 114]⟩ l8 (hl _ (by simp))
 obtain ⟨K9, h9⟩ := sq_list43 ⟨#[82, 67, 85]⟩ l9 (hl _ (by simp))
 refine ⟨K0 + K1 + K2 + K3 + K4 + K5 + K6 + K7 + K8 + K9, fun k hk => ?_⟩
 simp only at h0 h1 h2 h3 h4 h5 h6 h7 h8 h9
 unfold impl_procfsSoftirqs.f
 show (impl_list_uint64.f k ⟨#[72, 105]⟩ l0).bind _ = _
 rw [h0 k (by omega), Option.bind_some, if_pos (by simp)]
 rw [Option.bind_some]
 unfold impl_procfsSoftirqs.t1
 rw [h1 k (by omega), Option.bind_some, if_pos (by simp)]
 rw [Option.bind_some]
 unfold impl_procfsSoftirqs.t2
 rw [h2 k (by omega), Option.bind_some, if_pos (by simp)]
 rw [Option.bind_some]
 unfold impl_procfsSoftirqs.t3
 rw [h3 k (by omega), Option.bind_some, if_pos (by simp)]
 rw [Option.bind_some]
 unfold impl_procfsSoftirqs.t4
 rw [h4 k (by omega), Option.bind_some, if_pos (by simp)]
 rw [Option.bind_some]
 unfold impl_procfsSoftirqs.t5
 rw [h5 k (by omega), Option.bind_some, if_pos (by simp)]
 rw [Option.bind_some]
 unfold impl_procfsSoftirqs.t6
 rw [h6 k (by omega), Option.bind_some, if_pos (by simp)]
 rw [Option.bind_some]
 unfold impl_procfsSoftirqs.t7
 rw [h7 k (by omega), Option.bind_some, if_pos (by simp)]
 rw [Option.bind_some]
 unfold impl_procfsSoftirqs.t8
 rw [h8 k (by omega), Option.bind_some, if_pos (by simp)]
 rw [Option.bind_some]
 unfold impl_procfsSoftirqs.t9
 rw [h9 k (by omega), Option.bind_some, if_pos (by simp)]
 rfl
end Go.Proofs.YtednjmngalmdkaaGreatDoor.GPC
end
section
/- What /proc/softirqs says, written, is read as its tree: on numbers and lists alone. Condition: rows as a call's arguments hold them (RowOk). -/
namespace Go.Proofs.YtednjmngalmdkaaGreatDoor.GPC
open Go Go.RowKit Go.Proofs.YtednjmngalmdkaaGreatDoorW.PrintWords Go.Proofs.YtednjmngalmdkaaGreatDoorW.PrintLast Go.Proofs.YtednjmngalmdkaaGreatDoor.PF
set_option linter.unusedVariables false
def sqBl : List UInt8 := List.replicate 20 32
def sqHead (n : Nat) : List UInt8 := sqBl ++ sqHd n n
theorem sqHd_ch (n : Nat) : ∀ (d : Nat), ∀ c ∈ sqHd n d, c ≠ 10 ∧ c ≠ 13
 | 0, c, hc => by cases hc
 | d + 1, c, hc => by
  simp only [sqHd, leftS, List.mem_append, List.mem_cons, List.mem_replicate, List.not_mem_nil, or_false] at hc
  rcases hc with (((rfl | rfl | rfl) | h) | ⟨_, rfl⟩) | h
  ·decide
  ·decide
  ·decide
  ·have := dig10 _ c h
   exact ⟨fun e => by rw [e] at this; revert this; decide, fun e => by rw [e] at this; revert this; decide⟩
  ·decide
  ·exact sqHd_ch n d c h
def sqVl (t : SqT) : ByteArray × List Int := (strB (sqNm.getD t.1 [] ++ [58]), intsOf t.2)
def sqQ (l : List S31) (i : Nat) : List Int := (l.getD i ⟨⟨#[]⟩, [], []⟩).f1
theorem sq_nms : (List.range' 0 10).map (fun i : Nat => strB (sqNm.getD i [] ++ [58])) = sqNames := by decide +kernel
theorem sq_lenle : ∀ ns : List Nat, ns.length ≤ (sqNs ns).length := fun ns => by
 induction ns with
 | nil => simp
 | cons n r ih => simp only [sqNs, List.flatMap_cons, List.length_append, List.length_cons] at ih ⊢; omega
def sqNode (l : List S31) : S43 := ⟨⟨#[]⟩, 8, false, 0, 0, 0, ⟨#[]⟩, [sqL43 ⟨#[72, 105]⟩ (sqQ l 0), sqL43 ⟨#[84, 105, 109, 101, 114]⟩ (sqQ l 1), sqL43 ⟨#[78, 101, 116, 84, 120]⟩ (sqQ l 2), sqL43 ⟨#[78, 101, 116, 82, 120]⟩ (sqQ l 3), sqL43 ⟨#[66, 108, 111, 99, 107]⟩ (sqQ l 4), sqL43 ⟨#[73, 82, 81, 80, 111, 108, 108]⟩ (sqQ l 5), sqL43 ⟨#[84, 97, 115, 107, 108, 101, 116]⟩ (sqQ l 6), sqL43 ⟨#[83, 99, 104, 101, 100]⟩ (sqQ l 7), sqL43 ⟨#[72, 82, 84, 105, 109, 101, 114]⟩ (sqQ l 8), sqL43 ⟨#[82, 67, 85]⟩ (sqQ l 9)]⟩
theorem sq_f0 : ∀ i : Fin 10, (rd_T136 sqNM (i.val : Int)).f0 = [(⟨#[72, 105]⟩ : ByteArray), ⟨#[84, 105, 109, 101, 114]⟩, ⟨#[78, 101, 116, 84, 120]⟩, ⟨#[78, 101, 116, 82, 120]⟩, ⟨#[66, 108, 111, 99, 107]⟩, ⟨#[73, 82, 81, 80, 111, 108, 108]⟩, ⟨#[84, 97, 115, 107, 108, 101, 116]⟩, ⟨#[83, 99, 104, 101, 100]⟩, ⟨#[72, 82, 84, 105, 109, 101, 114]⟩, ⟨#[82, 67, 85]⟩].getD i.val ⟨#[]⟩ := by decide +kernel
theorem sq_conv1 (nm : ByteArray) (l : List Int) : convN 1 (sqL43 nm l) = sqL39 nm l := by
 simp only [convN, sqL43, sqL39, List.map_map]
 congr 1
theorem sq_conv (l : List S31) : convN 2 (sqNode l) = ⟨⟨#[]⟩, 8, false, 0, 0, 0, ⟨#[]⟩, (List.range' 0 10).map (fun i : Nat => sqL39 ((rd_T136 sqNM (i : Int)).f0) (sqQ l i))⟩ := by
 have h : (List.range' 0 10).map (fun i : Nat => sqL39 ((rd_T136 sqNM (i : Int)).f0) (sqQ l i)) = (sqNode l).f7.map (convN 1) := by
  have e : List.range' 0 10 = [0, 1, 2, 3, 4, 5, 6, 7, 8, 9] := rfl
  rw [e]
  simp only [List.map_cons, List.map_nil, sqNode, sq_conv1]
  rw [show (rd_T136 sqNM ((0 : Nat) : Int)).f0 = _ from sq_f0 0, show (rd_T136 sqNM ((1 : Nat) : Int)).f0 = _ from sq_f0 1, show (rd_T136 sqNM ((2 : Nat) : Int)).f0 = _ from sq_f0 2, show (rd_T136 sqNM ((3 : Nat) : Int)).f0 = _ from sq_f0 3, show (rd_T136 sqNM ((4 : Nat) : Int)).f0 = _ from sq_f0 4, show (rd_T136 sqNM ((5 : Nat) : Int)).f0 = _ from sq_f0 5, show (rd_T136 sqNM ((6 : Nat) : Int)).f0 = _ from sq_f0 6, show (rd_T136 sqNM ((7 : Nat) : Int)).f0 = _ from sq_f0 7, show (rd_T136 sqNM ((8 : Nat) : Int)).f0 = _ from sq_f0 8, show (rd_T136 sqNM ((9 : Nat) : Int)).f0 = _ from sq_f0 9]
  rfl
 rw [h]
 rfl
theorem sq_fit (l : List S31) (h : ∀ j, j < 10 → (sqQ l j).length ≤ 1000000) : FitN 2 (sqNode l) := by
 have key : ∀ nm j, j < 10 → FitN 1 (sqL43 nm (sqQ l j)) := fun nm j hj => ⟨by simp only [sqL43, List.length_map]; exact h j hj, fun y hy => by
  simp only [sqL43, List.mem_map] at hy
  obtain ⟨v, _, rfl⟩ := hy
  rfl⟩
 refine ⟨by simp [sqNode], fun x hx => ?_⟩
 simp only [sqNode, List.mem_cons, List.not_mem_nil, or_false] at hx
 rcases hx with rfl | rfl | rfl | rfl | rfl | rfl | rfl | rfl | rfl | rfl
 ·exact key _ 0 (by omega)
 ·exact key _ 1 (by omega)
 ·exact key _ 2 (by omega)
 ·exact key _ 3 (by omega)
 ·exact key _ 4 (by omega)
 ·exact key _ 5 (by omega)
 ·exact key _ 6 (by omega)
 ·exact key _ 7 (by omega)
 ·exact key _ 8 (by omega)
 ·exact key _ 9 (by omega)
theorem plainSoftirqs (l : List S31) (hl : l.length ≤ maxLen) (hr : ∀ r ∈ l, OP.RowOk r) : ∃ k b, laws_zzFits5.f k l = some b ∧ (b = true → BackOk (fun k => spec_SoftirqsPrint.f k l) (fun k => spec_SoftirqsTree.f k l) (fun s n => doorSoftirqs s n) l) := by
 obtain ⟨k, b, hz, hfit⟩ := zz5fF l
 refine ⟨k, b, hz, fun e => ?_⟩
 obtain ⟨_, hf⟩ := hfit e
 by_cases h1000 : 1000 < l.length
 ·exact .long h1000
 by_cases h10 : l.length = 10
 case neg =>
  exact gen_no (by omega) (Ev.congr (f := fun _ => some ((⟨#[]⟩ : ByteArray), (2 : Int))) (fun k => by unfold spec_SoftirqsPrint.f; rw [sqNM_is, Option.bind_some, if_neg (by rw [sqNM_len]; omega)]) (Ev.now _))
 obtain ⟨n0, hn0⟩ : ∃ n0, n0 = (rd_T31 l 0).f1.length := ⟨_, rfl⟩
 have hn0l : n0 ≤ 2147483647 := by
  rw [hn0, show (0 : Int) = ((0 : Nat) : Int) from rfl, grd31 l 0 (by omega)]
  exact (hf _ (List.getElem_mem _)).n
 have hhd := sqHd_len n0 hn0l n0 (Nat.le_refl _)
 have hstart : ∀ r, Ev (fun k => spec_SoftirqsPrint.l1 k l sqNM (strB (sqHead n0 ++ [10])) l (l.length : Int) 0) r → Ev (fun k => spec_SoftirqsPrint.f k l) r := fun r h => by
  have h2 := sq_head l sqNM n0 hn0l r n0 0 sqBl (by omega) (by simp only [sqBl, List.length_replicate]; omega) h
  refine Ev.congr (fun k => ?_) h2
  unfold spec_SoftirqsPrint.f
  rw [sqNM_is, Option.bind_some, if_pos (by rw [sqNM_len]; omega), if_pos (by omega), ← hn0]
  rfl
 rcases gen_print (fun acc i k => spec_SoftirqsPrint.l1 k l sqNM (strB acc) l (l.length : Int) (i : Int)) l.length 100000000000 100000000000 (by omega) (fun t => sqLine t ++ [10]) (SqGood l)
  (fun acc => Ev.step (f := fun _ => some (strB acc, (1 : Int))) (fun k => by simp only [spec_SoftirqsPrint.l1]; rw [if_neg (by omega)]) (Ev.now _))
  (fun i hi acc hacc => sq_rowone l h10 (fun r h => ⟨hf r h, hr r h⟩) i hi acc hacc) l.length 0 (sqHead n0 ++ [10]) (by omega) (by simp only [sqHead, sqBl, List.length_append, List.length_replicate, List.length_cons, List.length_nil]; omega) with hp0 | ⟨ts, hlen, hg, hp0⟩
 ·exact gen_no (by omega) (hstart _ hp0)
 have hp := hstart _ hp0
 have hg' : ∀ (j : Nat) (h1 : j < ts.length), SqGood l j ts[j] := fun j h1 => by
  have := hg j h1
  rw [Nat.zero_add] at this
  exact this
 have ht10 : ts.length = 10 := by omega
 have hlen2 : (sqHead n0 ++ [10] ++ ts.flatMap fun t => sqLine t ++ [10]).length ≤ 40000 → ∀ t ∈ ts, (sqLine t).length ≤ 40000 := fun hs t ht => by
  have hfl := flat_len (fun t => sqLine t ++ [10]) ts t ht
  simp only [List.length_append, List.length_cons, List.length_nil] at hfl hs
  omega
 have hq : ∀ (j : Nat) (h1 : j < ts.length), sqQ l j = intsOf ts[j].2 := fun j h1 => by
  have g := hg' j h1
  have := g.n
  unfold sqQ
  rw [List.getD_eq_getElem?_getD, List.getElem?_eq_getElem g.h]
  exact this
 have hql : (sqHead n0 ++ [10] ++ ts.flatMap fun t => sqLine t ++ [10]).length ≤ 40000 → ∀ j, j < 10 → (sqQ l j).length ≤ 40000 := fun hs j hj => by
  rw [hq j (by omega), intsOf_len]
  have h1 := hlen2 hs ts[j] (List.getElem_mem _)
  have h2 := sq_lenle ts[j].2
  simp only [sqLine, List.length_append] at h1
  omega
 refine gen_end (by omega) _ hp 2 (sqNode l) (fun hs => sq_fit l fun j hj => by have := hql hs j hj; omega) (fun hs => ?_) (fun hsz => ?_)
 ·rw [sq_conv]
  have hft : ∀ r ∈ l, r.f1.length ≤ 1000000 := fun r hr => by
   obtain ⟨j, hj, rfl⟩ := List.getElem_of_mem hr
   have := hql hs j (by omega)
   unfold sqQ at this
   rw [List.getD_eq_getElem?_getD, List.getElem?_eq_getElem hj] at this
   simp only [Option.getD_some] at this
   omega
  have htr := sq_tree l h10 hft
  exact evB (F := fun k bt160 => if bt160.2 = 1 then _ else _) hp (evP rfl htr)
 ·have e : sqHead n0 ++ [10] ++ (ts.flatMap fun t => sqLine t ++ [10]) = sqHead n0 ++ 10 :: ts.flatMap fun t => sqLine t ++ [10] := by simp
  have hln := hlen2 hsz
  have hqs := hql hsz
  rw [e] at hsz ⊢
  have hlt : (ts.flatMap fun t => sqLine t ++ [10]).length ≤ 40000 := by simp only [List.length_append, List.length_cons] at hsz; omega
  have hhl : (sqHead n0).length ≤ 40000 := by simp only [List.length_append] at hsz; omega
  have hok : ∀ t ∈ ts, LnOk (sqLine t) ∧ sqL (strB (sqLine t)) = some (some (sqVl t)) := fun t ht => by
   have hl1 := hln t ht
   obtain ⟨j, hj, rfl⟩ := List.getElem_of_mem ht
   have g := hg' j hj
   have h1 : ts[j] = (j, ts[j].2) := Prod.ext g.at_ rfl
   rw [h1] at hl1 ⊢
   exact sq_lineL j (by omega) _ g.p g.s hl1
  have hrows : rowsF sqL (ts.length + 1) (strB (ts.flatMap fun t => sqLine t ++ [10])) = some (ts.map sqVl) := rows_text sqL sqLine sqVl ts (ts.length + 1) (by omega) hok (by omega)
  have hhok : LnOk (sqHead n0) := ⟨(by unfold sqHead sqBl; simp), (fun c hc => by
   unfold sqHead sqBl at hc
   rcases List.mem_append.1 hc with h | h
   ·rw [(List.mem_replicate.1 h).2]; decide
   ·exact sqHd_ch n0 n0 c h), by omega⟩
  have hhd : headF (strB (sqHead n0 ++ 10 :: ts.flatMap fun t => sqLine t ++ [10])) = some (strB (ts.flatMap fun t => sqLine t ++ [10])) := head_line (sqHead n0) _ hhok (by omega)
  have hix : ts.map (·.1) = List.range' 0 10 := by
   apply List.ext_getElem
   ·simp [ht10]
   ·intro i h1 h2
    simp only [List.length_map] at h1
    have := (hg' i h1).at_
    simp [this]
  have hnm : (ts.map sqVl).map Prod.fst = sqNames := by
   rw [List.map_map, show (Prod.fst ∘ sqVl) = (fun i : Nat => strB (sqNm.getD i [] ++ [58])) ∘ (fun t : SqT => t.1) from rfl, ← List.map_map, hix]
   exact sq_nms
  have hsn : (ts.map sqVl).map Prod.snd = [sqQ l 0, sqQ l 1, sqQ l 2, sqQ l 3, sqQ l 4, sqQ l 5, sqQ l 6, sqQ l 7, sqQ l 8, sqQ l 9] := by
   have : (ts.map sqVl).map Prod.snd = (List.range' 0 10).map (sqQ l) := by
    apply List.ext_getElem
    ·simp [ht10]
    ·intro i h1 h2
     simp only [List.length_map] at h1
     have := hq i h1
     simp [this, sqVl]
   rw [this]
   rfl
  have hall : ((ts.map sqVl).all fun m => decide (m.2.length ≤ 100001)) = true := by
   rw [List.all_eq_true]
   intro m hm
   have h1 : m.2 ∈ (ts.map sqVl).map Prod.snd := List.mem_map.2 ⟨m, hm, rfl⟩
   rw [hsn] at h1
   refine decide_eq_true ?_
   have h2 : ∃ j, j < 10 ∧ m.2 = sqQ l j := by
    simp only [List.mem_cons, List.not_mem_nil, or_false] at h1
    rcases h1 with h | h | h | h | h | h | h | h | h | h
    ·exact ⟨0, by omega, h⟩
    ·exact ⟨1, by omega, h⟩
    ·exact ⟨2, by omega, h⟩
    ·exact ⟨3, by omega, h⟩
    ·exact ⟨4, by omega, h⟩
    ·exact ⟨5, by omega, h⟩
    ·exact ⟨6, by omega, h⟩
    ·exact ⟨7, by omega, h⟩
    ·exact ⟨8, by omega, h⟩
    ·exact ⟨9, by omega, h⟩
   obtain ⟨j, hj, h3⟩ := h2
   have := hqs j hj
   rw [h3]
   omega
  have htxt : ∀ k, ts.length + 1 ≤ k → sqTextF k (strB (sqHead n0 ++ 10 :: ts.flatMap fun t => sqLine t ++ [10])) = some (ts.map sqVl) := fun k hk => by
   unfold sqTextF
   rw [read_text _ (by omega)]
   simp only [Option.bind_some, if_true]
   rw [nums_text, hhd, Option.bind_some, rowsF_more hk hrows, Option.bind_some, if_pos ⟨hnm, hall⟩]
  obtain ⟨K, hK⟩ := sq_node10 (sqQ l 0) (sqQ l 1) (sqQ l 2) (sqQ l 3) (sqQ l 4) (sqQ l 5) (sqQ l 6) (sqQ l 7) (sqQ l 8) (sqQ l 9) (fun x hx => by
   have h2 : ∃ j, j < 10 ∧ x = sqQ l j := by
    simp only [List.mem_cons, List.not_mem_nil, or_false] at hx
    rcases hx with h | h | h | h | h | h | h | h | h | h
    ·exact ⟨0, by omega, h⟩
    ·exact ⟨1, by omega, h⟩
    ·exact ⟨2, by omega, h⟩
    ·exact ⟨3, by omega, h⟩
    ·exact ⟨4, by omega, h⟩
    ·exact ⟨5, by omega, h⟩
    ·exact ⟨6, by omega, h⟩
    ·exact ⟨7, by omega, h⟩
    ·exact ⟨8, by omega, h⟩
    ·exact ⟨9, by omega, h⟩
   obtain ⟨j, hj, h3⟩ := h2
   have := hqs j hj
   rw [h3]
   omega)
  refine ⟨K + (ts.length + 1), ts.map sqVl, htxt _ (by omega), ?_⟩
  rw [hsn]
  show nodeSq _ _ _ _ _ _ _ _ _ _ _ = _
  have h3 := hK (K + (ts.length + 1)) (by omega)
  simp only at h3
  unfold nodeSq
  rw [h3]
  rfl
end Go.Proofs.YtednjmngalmdkaaGreatDoor.GPC
end
