/- What /proc/PID/statm says, written, is read as its tree: on numbers and lists alone. Condition: rows as a call's arguments hold them (RowOk). -/
import Derived.Test.YtednjmngalmdkaaGreatDoorPlNums
import Derived.Test.YtednjmngalmdkaaGreatDoorPlNode
import Derived.Test.YtednjmngalmdkaaGreatDoorGivenSm2
namespace Go.Proofs.YtednjmngalmdkaaGreatDoor.GPC
open Go Go.RowKit Go.Proofs.YtednjmngalmdkaaGreatDoorW.PrintWords Go.Proofs.YtednjmngalmdkaaGreatDoorW.PrintLast Go.Proofs.YtednjmngalmdkaaGreatDoor.PF
set_option linter.unusedVariables false
def smText (ns : List Nat) : List UInt8 := Words [32] (decs ns) ++ [10]
theorem sm_len (ns : List Nat) (h7 : ns.length = 7) (hn : ∀ n ∈ ns, n < 18446744073709551616) : (smText ns).length ≤ 1000 := by
  have := words_len 32 (decs ns) 20 (fun w hw => by
    simp only [decs, List.mem_map] at hw
    obtain ⟨n, hm, rfl⟩ := hw
    exact dig_len n (hn n hm))
  have hl : (decs ns).length = 7 := by simp [decs, h7]
  rw [hl] at this
  simp only [smText, List.length_append, List.length_cons, List.length_nil]
  omega
theorem sm_one' (r : S31) (hr : OP.RowOk r) : Ev (fun k => spec_StatmPrint.f k [r]) (⟨#[]⟩, 2) ∨ ∃ ns : List Nat, ns.length = 7 ∧ (∀ n ∈ ns, n < 18446744073709551616) ∧ r.f1 = intsOf ns ∧ Ev (fun k => spec_StatmPrint.f k [r]) (strB (smText ns), 1) := by
  obtain ⟨s, n, x⟩ := r
  obtain ⟨_, ⟨hn1, hn2⟩, _⟩ := hr
  simp only at hn1 hn2
  have hstart : ∀ k, spec_StatmPrint.f k [⟨s, n, x⟩] = (if s.toList = ([] : List UInt8) then ((spec_sized.f s n x 7 0).bind fun t125 => (if t125 = true then ((spec_numbers.f k n (⟨#[32]⟩ : ByteArray)).bind fun t127 => (if t127.size + 1 ≤ 9223372036854775807 then (some (t127 ++ (⟨#[10]⟩ : ByteArray), 1)) else (none))) else (some ((⟨#[]⟩ : ByteArray), 2)))) else (some ((⟨#[]⟩ : ByteArray), 2))) := fun k => by
    simp only [spec_StatmPrint.f]
    rw [if_pos (by simp), if_pos (by simp)]
    rfl
  by_cases h0 : s.toList = ([] : List UInt8)
  · by_cases hs : spec_sized.f s n x 7 0 = some true
    · have hl7 : n.length = 7 := by
        unfold spec_sized.f at hs
        split at hs
        · omega
        · cases hs
      obtain ⟨ns, rfl⟩ : ∃ ns : List Nat, n = intsOf ns := ⟨n.map Int.toNat, by
        unfold intsOf
        rw [List.map_map]
        refine (List.map_id n).symm.trans (List.map_congr_left fun a ha => ?_)
        have := (hn2 a ha).1
        simp only [Function.comp, id]
        show a = ((a.toNat : Nat) : Int)
        omega⟩
      have h7 : ns.length = 7 := by rw [intsOf_len] at hl7; exact hl7
      have hb : ∀ m ∈ ns, m < 18446744073709551616 := fun m hm => by
        have := (hn2 (m : Int) (by unfold intsOf; exact List.mem_map.2 ⟨m, hm, rfl⟩)).2
        omega
      refine .inr ⟨ns, h7, hb, rfl, ?_⟩
      have hnum := nums_ev [32] (by simp) ns (by omega) hb
      have hsl := sm_len ns h7 hb
      refine Ev.congr (f := fun k => (spec_numbers.f k (intsOf ns) (strB [32])).bind fun t127 => (if t127.size + 1 ≤ 9223372036854775807 then (some (t127 ++ (⟨#[10]⟩ : ByteArray), (1 : Int))) else (none))) (fun k => by rw [hstart, if_pos h0, hs]; rfl) (evB hnum (evG (by rw [strB_size]; unfold smText at hsl; simp only [List.length_append, List.length_cons, List.length_nil] at hsl; omega) ?_))
      rw [show strB (Words [32] (decs ns)) ++ (⟨#[10]⟩ : ByteArray) = strB (smText ns) from strB_append _ [10]]
      exact Ev.now _
    · have hf : spec_sized.f s n x 7 0 = some false := by
        unfold spec_sized.f at hs ⊢
        split
        · rename_i h6
          rw [if_pos h6] at hs
          cases hx : ((x.length : Int) == 0)
          · rfl
          · rw [hx] at hs
            exact absurd rfl hs
        · rfl
      exact .inl (Ev.congr (f := fun _ => some (⟨#[]⟩, 2)) (fun k => by rw [hstart, if_pos h0, hf]; rfl) (Ev.now _))
  · exact .inl (Ev.congr (f := fun _ => some (⟨#[]⟩, 2)) (fun k => by rw [hstart, if_neg h0]) (Ev.now _))
theorem sm_not (l : List S31) (h : ¬ (l.length : Int) = 1) : Ev (fun k => spec_StatmPrint.f k l) (⟨#[]⟩, 2) :=
  Ev.congr (f := fun _ => some (⟨#[]⟩, 2)) (fun k => by simp only [spec_StatmPrint.f]; rw [if_neg h]) (Ev.now _)
theorem sm_read (ns : List Nat) (h7 : ns.length = 7) (hn : ∀ n ∈ ns, n < 18446744073709551616) : ∃ k, statmF k (strB (smText ns)) = some (intsOf ns) := by
  have hsz := sm_len ns h7 hn
  have hdat : (strB (smText ns)).data.toList = smText ns := by simp [strB]
  have hwd : ∀ w ∈ decs ns, w ≠ [] ∧ ∀ c ∈ w, Lib.isSp c = false := fun w hw => by
    simp only [decs, List.mem_map] at hw
    obtain ⟨n, hm, rfl⟩ := hw
    exact ⟨(dec_word n).1, (dec_word n).2.1⟩
  have hasc : ∀ x ∈ smText ns, x.toNat < 128 := fun x hx => by
    unfold smText at hx
    rcases List.mem_append.1 hx with hx | hx
    · rcases words_mem 32 (decs ns) x hx with rfl | ⟨w, hw, hc⟩
      · decide
      · simp only [decs, List.mem_map] at hw
        obtain ⟨n, hm, rfl⟩ := hw
        exact (dec_word n).2.2 x hc
    · simp only [List.mem_singleton] at hx
      subst hx
      decide
  have hfl : strings_Fields.f (strB (smText ns)) = some ((decs ns).map strB) := by
    unfold strings_Fields.f
    rw [if_pos ⟨by rw [strB_size]; omega, by rw [hdat]; exact List.all_eq_true.2 fun x hx => decide_eq_true (hasc x hx)⟩, hdat, show smText ns = Words [32] (decs ns) ++ [10] from rfl, fields_end 32 10 (by decide) (by decide) (decs ns) hwd]
    rfl
  obtain ⟨k, hk⟩ := (parse_l ns (by omega) hn ns.length 0 (by omega)).rounds
  refine ⟨k, ?_⟩
  have hps : procfs_parseStatm.f k ((strB (smText ns)).data.toList.map fun b => (b.toNat : Int)) = some (intsOf ns, none) := by
    unfold procfs_parseStatm.f
    rw [strNums2, hfl]
    simp only [Option.bind_some]
    rw [show (((decs ns).map strB).length : Int) = (ns.length : Int) by simp [decs]]
    exact hk
  unfold statmF texts_Read.f
  rw [if_pos (by rw [strB_size]; omega)]
  simp only [Option.bind_some, if_true]
  rw [hps]
  simp only [Option.bind_some]
  rw [if_pos ⟨trivial, by rw [intsOf_len]; exact h7⟩]
def smNames : List ByteArray := [⟨#[83, 105, 122, 101]⟩, ⟨#[82, 101, 115, 105, 100, 101, 110, 116]⟩, ⟨#[83, 104, 97, 114, 101, 100]⟩, ⟨#[84, 101, 120, 116]⟩, ⟨#[76, 105, 98]⟩, ⟨#[68, 97, 116, 97]⟩, ⟨#[68, 116]⟩]
def smKid (s : ByteArray) (n : Int) : S39 := ⟨s, 3, false, 0, n, 0, ⟨#[]⟩, []⟩
theorem rdx (r : S31) : rd_T31 [r] 0 = r := rfl
theorem sm_tree (r : S31) (ns : List Nat) (hr : r.f1 = intsOf ns) (h7 : ns.length = 7) : ∀ (d i : Nat) (acc : List S39), i + d = 7 → acc.length ≤ i + 1 →
    Ev (fun k => spec_StatmTree.l0 k [r] acc smNames 7 (i : Int)) (⟨#[]⟩, 8, false, 0, 0, 0, ⟨#[]⟩, acc ++ ((smNames.zip (intsOf ns)).drop i).map (fun p => smKid p.1 p.2), 1)
  | 0, i, acc, h, ha => by
    rw [List.drop_eq_nil_of_le (by simp [smNames, intsOf_len, h7]; omega), List.map_nil, List.append_nil]
    exact Ev.step (f := fun _ => some (⟨#[]⟩, 8, false, 0, 0, 0, ⟨#[]⟩, acc, 1)) (fun k => by simp only [spec_StatmTree.l0]; rw [if_neg (by omega)]; rfl) (Ev.now _)
  | d + 1, i, acc, h, ha => by
    have hw1 : wrap64 ((i : Int) + 1) = ((i + 1 : Nat) : Int) := by unfold wrap64; omega
    have hlz : i < (smNames.zip (intsOf ns)).length := by simp [smNames, intsOf_len, h7]; omega
    have hin : i < ns.length := by omega
    have his : i < smNames.length := by simp [smNames]; omega
    have ih := sm_tree r ns hr h7 d (i + 1) (acc ++ [smKid smNames[i] (ns[i] : Int)]) (by omega) (by simp; omega)
    have hz : (smNames.zip (intsOf ns))[i] = (smNames[i], (ns[i] : Int)) := by
      rw [List.getElem_zip]
      simp [intsOf]
    rw [List.append_assoc, List.singleton_append] at ih
    rw [List.drop_eq_getElem_cons hlz, List.map_cons, hz]
    refine Ev.step (fun k => ?_) ih
    have hrd : rd ((rd_T31 [r] 0).f1) (i : Int) = (ns[i] : Int) := by rw [rdx, hr, rd_ints ns i hin]
    simp only [spec_StatmTree.l0]
    rw [if_pos (by omega), if_pos (by omega), if_pos (by simp [smNames]; omega), if_pos (by simp), if_pos (by rw [rdx, hr, intsOf_len]; omega), hrd]
    simp only [spec_uintNode.f, Option.bind_some]
    rw [if_pos (by omega), hw1]
    have hrn : rdOf ByteArray.empty smNames (i : Int) = smNames[i] := by simp [rdOf, List.getD_eq_getElem?_getD, List.getElem?_eq_getElem his]
    rw [hrn]
    rfl
theorem plainStatm (l : List S31) (hl : l.length ≤ maxLen) (hr : ∀ r ∈ l, OP.RowOk r) : ∃ k b, laws_zzFits5.f k l = some b ∧ (b = true → BackOk (fun k => spec_StatmPrint.f k l) (fun k => spec_StatmTree.f k l) (fun s n => doorStatm s n) l) := by
  obtain ⟨k, b, hz⟩ := zz5f l
  refine ⟨k, b, hz, fun _ => ?_⟩
  by_cases h1000 : 1000 < l.length
  · exact .long h1000
  by_cases h1 : (l.length : Int) = 1
  · match l, h1 with
    | [r], _ =>
      rcases sm_one' r (hr r (by simp)) with hp | ⟨ns, h7, hb, hr1, hp⟩
      · obtain ⟨K, hk⟩ := hp
        exact .noPrint (by omega) K _ _ (hk K (Nat.le_refl _)) (.inl (by decide))
      · obtain ⟨kd, hd⟩ := sm_read ns h7 hb
        have hsz := sm_len ns h7 hb
        match ns, h7 with
        | [n1, n2, n3, n4, n5, n6, n7], _ =>
          have hnode : statmNode (intsOf [n1, n2, n3, n4, n5, n6, n7]) = some ⟨⟨#[]⟩, 8, false, 0, 0, 0, ⟨#[]⟩, [⟨⟨#[80, 73, 68]⟩, 2, false, 0, 0, 0, ⟨#[]⟩, []⟩, ⟨⟨#[83, 105, 122, 101]⟩, 3, false, 0, n1, 0, ⟨#[]⟩, []⟩, ⟨⟨#[82, 101, 115, 105, 100, 101, 110, 116]⟩, 3, false, 0, n2, 0, ⟨#[]⟩, []⟩, ⟨⟨#[83, 104, 97, 114, 101, 100]⟩, 3, false, 0, n3, 0, ⟨#[]⟩, []⟩, ⟨⟨#[84, 101, 120, 116]⟩, 3, false, 0, n4, 0, ⟨#[]⟩, []⟩, ⟨⟨#[76, 105, 98]⟩, 3, false, 0, n5, 0, ⟨#[]⟩, []⟩, ⟨⟨#[68, 97, 116, 97]⟩, 3, false, 0, n6, 0, ⟨#[]⟩, []⟩, ⟨⟨#[68, 116]⟩, 3, false, 0, n7, 0, ⟨#[]⟩, []⟩]⟩ := by rfl
          refine back_same (by omega) _ hp (by rw [strB_size]; omega) 1 _ ?_ ?_ ⟨kd, _, hd, hnode⟩
          · refine ⟨by simp, fun x hx => ?_⟩
            simp only [List.mem_cons, List.not_mem_nil, or_false] at hx
            rcases hx with rfl | rfl | rfl | rfl | rfl | rfl | rfl | rfl <;> rfl
          · refine evB hp (evP rfl ?_)
            have ht := sm_tree r [n1, n2, n3, n4, n5, n6, n7] hr1 rfl 7 0 [⟨⟨#[80, 73, 68]⟩, 2, false, 0, 0, 0, ⟨#[]⟩, []⟩] (by omega) (by simp)
            exact ht
  · obtain ⟨K, hk⟩ := sm_not l h1
    exact .noPrint (by omega) K _ _ (hk K (Nat.le_refl _)) (.inl (by decide))
end Go.Proofs.YtednjmngalmdkaaGreatDoor.GPC
