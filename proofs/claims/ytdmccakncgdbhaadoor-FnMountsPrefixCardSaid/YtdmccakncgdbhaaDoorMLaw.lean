/- Plain facts: mounts that are printed and read with a prefix are those that the filter keeps: the statement FnMountsPrefix as a function. No condition. -/
import Derived.Test.YtdmccakncgdbhaaDoorMPlain
import Derived.Test.YtdmccakncgdbhaaDoorGMAx10
namespace Go.Proofs.YtdmccakncgdbhaaDoor.ML
open Go.RowKit Go.Proofs.YtdmccakncgdbhaaDoor.GMA Go.Proofs.YtdmccakncgdbhaaDoorW.PrintWords Go.Proofs.YtdmccakncgdbhaaDoorW.PrintLast Go.Proofs.YtdmccakncgdbhaaDoor.MB Go.Proofs.YtdmccakncgdbhaaDoor.GL
set_option linter.unusedVariables false
set_option linter.unusedSimpArgs false
theorem mounts_true : Ev (fun k => laws_mounts.f k) true :=
  Ev.of (fun k => laws_mounts.mono k) (k := 120) (by decide +kernel)
theorem ite_some {α : Type} {c : Prop} [Decidable c] {A B : Nat → Option α} (hA : c → ∃ r, Ev A r) (hB : ¬ c → ∃ r, Ev B r) : ∃ r, Ev (fun k => if c then A k else B k) r := by
  by_cases h : c
  · obtain ⟨r, hr⟩ := hA h; exact ⟨r, guard_e h hr⟩
  · obtain ⟨r, hr⟩ := hB h; exact ⟨r, guard_n h hr⟩
theorem now_some {α : Type} (r : α) : ∃ r', Ev (fun _ : Nat => some r) r' := ⟨r, Ev.now r⟩
theorem step_some {α : Type} {g f : Nat → Option α} (h : ∀ k, g (k + 1) = f k) (hf : ∃ r, Ev f r) : ∃ r, Ev g r := by
  obtain ⟨r, hr⟩ := hf; exact ⟨r, Ev.step h hr⟩
theorem bind_some' {α β : Type} {g : Nat → Option α} {F : Nat → α → Option β} (h : ∃ a, Ev g a) (hF : ∀ a, ∃ r, Ev (fun k => F k a) r) : ∃ r, Ev (fun k => (g k).bind (F k)) r := by
  obtain ⟨a, ha⟩ := h
  obtain ⟨r, hr⟩ := hF a
  exact ⟨r, bind_ ha hr⟩
theorem lawsPrintable_some (s : ByteArray) (hs : s.size ≤ 2147483647) : ∃ b, Ev (fun k => laws_printable.f k s) b := by
  have go : ∀ (d i : Nat), i + d = s.size → ∃ b, Ev (fun k => laws_printable.l0 k s (s.size : Int) (i : Int)) b := by
    intro d
    induction d with
    | zero =>
      intro i hi
      refine step_some (f := fun _ => some true) (fun k => ?_) (now_some _)
      simp only [laws_printable.l0]
      rw [if_neg (by omega)]
    | succ d ih =>
      intro i hi
      refine step_some (f := fun k => if (bt s i) < 32 then some false else if (bt s i) > 126 then some false else laws_printable.l0 k s (s.size : Int) ((i + 1 : Nat) : Int)) (fun k => ?_) ?_
      · simp only [laws_printable.l0]
        rw [if_pos (by omega), if_pos (by omega), if_pos (by omega), wr _ _ (by omega) (by omega)]
        rfl
      · exact ite_some (fun _ => now_some _) (fun _ => ite_some (fun _ => now_some _) (fun _ => ih (i + 1) (by omega)))
  exact go s.size 0 (by omega)
theorem cleanLoop_some (s : ByteArray) (hs : s.size ≤ 200) : ∀ (d i : Nat) (p : ByteArray), i + d = s.size + 1 → p.size ≤ i → ∃ b, Ev (fun k => laws_cleanPath.l0 k s p (i : Int)) b := by
  intro d
  induction d with
  | zero =>
    intro i p hi hp
    refine step_some (f := fun _ => some true) (fun k => ?_) (now_some _)
    simp only [laws_cleanPath.l0]
    rw [if_neg (by omega)]
  | succ d ih =>
    intro i p hi hp
    have hz : (⟨#[]⟩ : ByteArray).size = 0 := rfl
    have j_true : ∃ b, Ev (fun k => laws_cleanPath.j2 k s p (i : Int) true) b := by
      refine step_some (f := fun k => if s.toList = ([47] : List UInt8) then laws_cleanPath.l0 k s (⟨#[]⟩ : ByteArray) ((i + 1 : Nat) : Int) else if p.toList = ([] : List UInt8) then some false else if p.toList = ([46] : List UInt8) then some false else if p.toList = ([46, 46] : List UInt8) then some false else laws_cleanPath.l0 k s (⟨#[]⟩ : ByteArray) ((i + 1 : Nat) : Int)) (fun k => ?_) ?_
      · simp only [laws_cleanPath.j2, if_true]
        rw [wr _ _ (by omega) (by omega)]
        rfl
      · have nx := ih (i + 1) (⟨#[]⟩ : ByteArray) (by omega) (by omega)
        exact ite_some (fun _ => nx) (fun _ => ite_some (fun _ => now_some _) (fun _ => ite_some (fun _ => now_some _) (fun _ => ite_some (fun _ => now_some _) (fun _ => nx))))
    by_cases e : i = s.size
    · refine step_some (f := fun k => laws_cleanPath.j2 k s p (i : Int) true) (fun k => ?_) j_true
      simp only [laws_cleanPath.l0]
      rw [if_pos (by omega), if_pos (by omega)]
    · refine step_some (f := fun k => laws_cleanPath.j2 k s p (i : Int) ((bt s i) == 47)) (fun k => ?_) ?_
      · simp only [laws_cleanPath.l0]
        rw [if_pos (by omega), if_neg (by omega), if_pos (by omega), if_pos (by omega)]
      · cases (bt s i) == 47 with
        | true => exact j_true
        | false =>
          have hx : (s.extract ((i : Int)).toNat (((i + 1 : Nat) : Int)).toNat).size ≤ 1 := by rw [ByteArray.size_extract]; omega
          refine step_some (f := fun k => laws_cleanPath.l0 k s (p ++ (s.extract ((i : Int)).toNat (((i + 1 : Nat) : Int)).toNat)) ((i + 1 : Nat) : Int)) (fun k => ?_) (ih (i + 1) _ (by omega) (by rw [ByteArray.size_append]; omega))
          simp only [laws_cleanPath.j2, Bool.false_eq_true, if_false]
          rw [wr _ _ (by omega) (by omega), show ((i : Int) + 1) = ((i + 1 : Nat) : Int) from rfl, if_pos (by omega), if_pos (by omega), if_pos (by omega), if_pos (by omega)]
theorem cleanPath_some (s : ByteArray) (hs : s.size ≤ 2147483647) : ∃ b, Ev (fun k => laws_cleanPath.f k s) b := by
  have j_true : ∃ b, Ev (fun k => laws_cleanPath.j0 k s true) b := by
    refine step_some (f := fun _ => some false) (fun k => ?_) (now_some _)
    simp only [laws_cleanPath.j0, if_true]
  have j_dec : ∃ b, Ev (fun k => laws_cleanPath.j0 k s (decide ((s.size : Int) > 200))) b := by
    by_cases h : (s.size : Int) > 200
    · rw [decide_eq_true h]; exact j_true
    · rw [decide_eq_false h]
      refine step_some (f := fun k => laws_cleanPath.l0 k s (⟨#[]⟩ : ByteArray) ((1 : Nat) : Int)) (fun k => ?_) (cleanLoop_some s (by omega) s.size 1 _ (by omega) (by show 0 ≤ 1; omega))
      simp only [laws_cleanPath.j0, Bool.false_eq_true, if_false]
      rfl
  unfold laws_cleanPath.f
  refine bind_some' (lawsPrintable_some s hs) (fun b => ?_)
  refine ite_some (fun _ => ite_some (fun _ => j_true) (fun he => ?_)) (fun _ => j_true)
  have hne : 0 < s.size := by
    rcases Nat.eq_zero_or_pos s.size with h | h
    · exfalso; apply he
      rw [toList_data]
      exact List.length_eq_zero_iff.1 (by rw [Array.length_toList]; exact h)
    · exact h
  refine ite_some (fun _ => ite_some (fun _ => ite_some (fun _ => j_dec) (fun _ => ?_)) (fun _ => j_true)) (fun h => absurd (by omega) h)
  rw [wrs _ _ (by omega) (by omega)]
  exact ite_some (fun _ => ite_some (fun _ => ite_some (fun _ => j_true) (fun _ => j_dec)) (fun h => absurd (by omega) h)) (fun h => absurd (by omega) h)
theorem ite_both {α : Type} {c : Prop} [Decidable c] {A B : Nat → Option α} {r : α} (hA : c → Ev A r) (hB : ¬ c → Ev B r) : Ev (fun k => if c then A k else B k) r := by
  by_cases h : c
  · exact guard_e h (hA h)
  · exact guard_n h (hB h)
theorem cleanPath_long (s : ByteArray) (hs : s.size ≤ 2147483647) (h : 200 < s.size) : Ev (fun k => laws_cleanPath.f k s) false := by
  have J : Ev (fun k => laws_cleanPath.j0 k s true) false := by
    refine Ev.step (f := fun _ => some false) (fun k => ?_) (Ev.now _)
    simp only [laws_cleanPath.j0, if_true]
  have Jd : Ev (fun k => laws_cleanPath.j0 k s (decide ((s.size : Int) > 200))) false := by
    rw [decide_eq_true (show (s.size : Int) > 200 by omega)]; exact J
  obtain ⟨b, hb⟩ := lawsPrintable_some s hs
  unfold laws_cleanPath.f
  refine bind_ hb ?_
  rw [wrs _ _ (by omega) (by omega)]
  exact ite_both (fun _ => ite_both (fun _ => J) (fun _ => ite_both (fun _ => ite_both (fun _ => ite_both (fun _ => Jd) (fun _ => ite_both (fun _ => ite_both (fun _ => ite_both (fun _ => J) (fun _ => Jd)) (fun h => absurd (by omega) h)) (fun h => absurd (by omega) h))) (fun _ => J)) (fun h => absurd (by omega) h))) (fun _ => J)
theorem isPrefixOf_snoc (a b : List UInt8) : Lib.hasPrefix (a ++ [47]) (b ++ [47]) = ((a == b) || Lib.hasPrefix a (b ++ [47])) := by
  unfold Lib.hasPrefix
  rw [Bool.eq_iff_iff, Bool.or_eq_true, List.isPrefixOf_iff_prefix, List.isPrefixOf_iff_prefix, List.prefix_concat_iff, beq_iff_eq]
  constructor
  · rintro (h | h)
    · exact .inl (List.append_cancel_right h).symm
    · exact .inr h
  · rintro (h | h)
    · exact .inl (by rw [h])
    · exact .inr h
theorem begins_is (a b : List UInt8) (ha : a.length ≤ 9223372036854775807) : laws_begins.f (mkB a) (mkB b) = some (Lib.hasPrefix a b) := by
  unfold laws_begins.f Lib.hasPrefix
  simp only [mkB_size]
  by_cases h : b.length ≤ a.length
  · rw [if_pos (by omega), if_pos (by omega), if_pos (by omega), Int.toNat_natCast, extract_is, List.drop_zero, mkB_toList, mkB_toList]
    congr 1
    rw [Bool.eq_iff_iff, List.isPrefixOf_iff_prefix, beq_iff_eq, List.prefix_iff_eq_take]
    exact eq_comm
  · rw [if_neg (by omega)]
    congr 1
    symm
    rw [Bool.eq_false_iff]
    intro e
    have := (List.isPrefixOf_iff_prefix.1 e).length_le
    omega
theorem under_is (x : S36) (p : ByteArray) (h5 : x.f5.size ≤ 2147483647) (hp : p.size ≤ 2147483647) : laws_under.f x.f5 p = some (keepsPre p x) := by
  unfold laws_under.f keepsPre
  rw [isPrefixOf_snoc, toList_data, toList_data]
  by_cases h1 : x.f5.data.toList = p.data.toList
  · rw [if_pos h1, h1]
    simp
  · rw [if_neg h1]
    by_cases h2 : p.data.toList = [47]
    · rw [if_pos h2, h2]
      simp
    · rw [if_neg h2, if_pos (by omega)]
      have e : p ++ (⟨#[47]⟩ : ByteArray) = mkB (p.data.toList ++ [47]) := by rw [← mkB_append, mkB_data]; rfl
      have hl : x.f5.data.toList.length = x.f5.size := Array.length_toList
      have hb := begins_is x.f5.data.toList (p.data.toList ++ [47]) (by omega)
      rw [mkB_data] at hb
      rw [e, hb]
      have q1 : (x.f5.data.toList == p.data.toList) = false := by rw [beq_eq_false_iff_ne]; exact h1
      have q2 : (p.data.toList == [47]) = false := by rw [beq_eq_false_iff_ne]; exact h2
      rw [q1, q2]
      simp
theorem prefix_loop (l : List S36) (hl : l.length ≤ 200) (hsz : ∀ x ∈ l, Sized x) (hv : l.all validS = true) (ht : (printL l).length ≤ 60000) (p : ByteArray) (hp : p.size ≤ 200) :
    ∀ (r a : List S36), l = a ++ r → Ev (fun k => laws_FnMountsPrefix.l0 k p (mkB (printL l)) (a.filter (keepsPre p)) l (l.length : Int) (a.length : Int)) true
  | [], a, h => by
    have hz : (l.length : Int) = a.length := by rw [h]; simp
    have ha : l = a := by simpa using h
    have hr : ReadsT (printL l) l := by
      have := reads_list l [] [] hv ht (by simp; omega) reads_nil
      simpa using this
    refine Ev.step (f := fun k => (impl_Mounts.f k (mkB (printL l)) 3 [p]).bind fun bt229 => (if bt229.2 = 0 then ((laws_sameMounts.f k bt229.1 (a.filter (keepsPre p))).bind fun t233 => (if t233 = true then ((laws_mounts.f k).bind fun t234 => (some t234)) else (some false))) else (some false))) (fun k => ?_) ?_
    · simp only [laws_FnMountsPrefix.l0]
      rw [if_neg (by omega)]
    · refine bind_ (mounts_ev hr 3 [p] (l.filter (keepsPre p), 0) ?_) ?_
      · unfold mountsOf
        rw [if_pos (by omega), if_neg (by decide), if_neg (by decide), if_pos rfl]
        simp only
        rw [if_pos (by omega)]
      · refine guard_e rfl ?_
        rw [← ha]
        have hfl := List.length_filter_le (keepsPre p) l
        refine bind_ (same_is (l.filter (keepsPre p)) (by omega)) ?_
        refine guard_e rfl ?_
        exact bind_ mounts_true (Ev.now _)
  | x :: r, a, h => by
    have hx := hsz x (by rw [h]; simp)
    have hz : (l.length : Int) = a.length + (r.length + 1) := by rw [h]; simp
    have he : rd_T36 l (a.length : Int) = x := by rw [h]; simp [rd_T36]
    have ih := prefix_loop l hl hsz hv ht p hp r (a ++ [x]) (by rw [h]; simp)
    have hfl := List.length_filter_le (keepsPre p) a
    obtain ⟨c, hc⟩ := cleanPath_some x.f5 hx.h5
    refine Ev.step (f := fun k => (laws_cleanPath.f k x.f5).bind fun t237 => if t237 = true then (if keepsPre p x = true then laws_FnMountsPrefix.l0 k p (mkB (printL l)) (a.filter (keepsPre p) ++ [x]) l (l.length : Int) ((a ++ [x]).length : Int) else laws_FnMountsPrefix.l0 k p (mkB (printL l)) (a.filter (keepsPre p)) l (l.length : Int) ((a ++ [x]).length : Int)) else some true) (fun k => ?_) ?_
    · simp only [laws_FnMountsPrefix.l0]
      rw [if_pos (by omega), if_pos (by omega), if_pos (by omega), he, wr _ _ (by omega) (by omega), under_is x p hx.h5 (by omega)]
      simp only [Option.bind_some, if_pos (show (a.filter (keepsPre p)).length < 977343669134 by omega)]
      simp
    · refine bind_ hc ?_
      cases c with
      | false => exact guard_n (by decide) (Ev.now _)
      | true =>
        refine guard_e rfl ?_
        rw [List.filter_append] at ih
        refine ite_both (fun hk => ?_) (fun hk => ?_)
        · simpa [List.filter_cons, hk] using ih
        · simpa [List.filter_cons, hk] using ih
theorem prefix_law (l : List S36) (p : ByteArray) : ∃ k, laws_FnMountsPrefix.f k l p = some true := by
  refine Ev.rounds (g := fun k => laws_FnMountsPrefix.f k l p) ?_
  have J : Ev (fun k => laws_FnMountsPrefix.j0 k l p true) true := by
    refine Ev.step (f := fun _ => some true) (fun k => ?_) (Ev.now _)
    simp only [laws_FnMountsPrefix.j0, if_true]
  have J1 : ∀ t, Ev (fun k => laws_FnMountsPrefix.j1 k l p t true) true := fun t => by
    refine Ev.step (f := fun _ => some true) (fun k => ?_) (Ev.now _)
    simp only [laws_FnMountsPrefix.j1, if_true]
  obtain ⟨b, hb, hsz⟩ := fits1_is l
  unfold laws_FnMountsPrefix.f
  refine bind_ hb ?_
  cases b with
  | false => exact guard_n (by decide) J
  | true =>
    refine guard_e rfl ?_
    by_cases hp : (p.size : Int) > 2147483647
    · rw [decide_eq_true hp]; exact J
    · rw [decide_eq_false hp]
      refine Ev.step (f := fun k => (laws_printed.f k l).bind fun bt223 => (if bt223.2 = true then ((laws_cleanPath.f k p).bind fun t225 => (laws_FnMountsPrefix.j1 k l p bt223.1 (!t225))) else (laws_FnMountsPrefix.j1 k l p bt223.1 true))) (fun k => ?_) ?_
      · simp only [laws_FnMountsPrefix.j0, Bool.false_eq_true, if_false]
      · by_cases hl : l.length ≤ 200
        · refine bind_ (printed_is l hl (hsz rfl)) ?_
          by_cases hv : l.all validS = true
          · simp only [if_pos hv]
            by_cases ht : (printL l).length ≤ 60000
            · rw [decide_eq_true ht]
              refine guard_e rfl ?_
              by_cases hlong : 200 < p.size
              · exact bind_ (cleanPath_long p (by omega) hlong) (J1 _)
              · obtain ⟨c, hc⟩ := cleanPath_some p (by omega)
                refine bind_ hc ?_
                cases c with
                | false => exact J1 _
                | true =>
                  refine Ev.step (f := fun k => laws_FnMountsPrefix.l0 k p (mkB (printL l)) ([] : List S36) l (l.length : Int) 0) (fun k => ?_) (prefix_loop l hl (hsz rfl) hv ht p (by omega) l [] (by simp))
                  simp only [laws_FnMountsPrefix.j1, Bool.not_true, Bool.false_eq_true, if_false]
            · rw [decide_eq_false ht]
              exact guard_n (by decide) (J1 _)
          · simp only [if_neg hv]
            exact guard_n (by decide) (J1 _)
        · refine bind_ (printed_long l (by omega)) ?_
          exact guard_n (by decide) (J1 _)
end Go.Proofs.YtdmccakncgdbhaaDoor.ML
