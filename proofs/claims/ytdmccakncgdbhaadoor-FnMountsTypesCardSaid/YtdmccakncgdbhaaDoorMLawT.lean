/- Plain facts: mounts that are printed and read with types of file systems are those that the filter keeps: the statement FnMountsTypes as a function. No condition. -/
import Derived.Test.YtdmccakncgdbhaaDoorMPlain
import Derived.Test.YtdmccakncgdbhaaDoorGMAx11
namespace Go.Proofs.YtdmccakncgdbhaaDoor.ML
open Go.RowKit Go.Proofs.YtdmccakncgdbhaaDoor.GMA Go.Proofs.YtdmccakncgdbhaaDoorW.PrintWords Go.Proofs.YtdmccakncgdbhaaDoorW.PrintLast Go.Proofs.YtdmccakncgdbhaaDoor.MB Go.Proofs.YtdmccakncgdbhaaDoor.GL
set_option linter.unusedVariables false
set_option linter.unusedSimpArgs false
theorem mounts_true : Ev (fun k => laws_mounts.f k) true :=
  Ev.of (fun k => laws_mounts.mono k) (k := 120) (by decide +kernel)
theorem ite_some {α : Type} {c : Prop} [Decidable c] {A B : Nat → Option α} (hA : c → ∃ r, Ev A r) (hB : ¬ c → ∃ r, Ev B r) : ∃ r, Ev (fun k => if c then A k else B k) r := by
  by_cases h : c
  · obtain ⟨r, hr⟩ := hA h; exact ⟨r, guard_e h hr⟩
  · obtain ⟨r, hr⟩ := hB h; exact ⟨r, guard_n h hr⟩
theorem now_some {α : Type} (r : α) : ∃ r', Ev (fun _ : Nat => some r) r' := ⟨r, Ev.now r⟩
theorem step_some {α : Type} {g f : Nat → Option α} (h : ∀ k, g (k + 1) = f k) (hf : ∃ r, Ev f r) : ∃ r, Ev g r := by
  obtain ⟨r, hr⟩ := hf; exact ⟨r, Ev.step h hr⟩
theorem bind_some' {α β : Type} {g : Nat → Option α} {F : Nat → α → Option β} (h : ∃ a, Ev g a) (hF : ∀ a, ∃ r, Ev (fun k => F k a) r) : ∃ r, Ev (fun k => (g k).bind (F k)) r := by
  obtain ⟨a, ha⟩ := h
  obtain ⟨r, hr⟩ := hF a
  exact ⟨r, bind_ ha hr⟩
/-! types of file systems -/
theorem fits4_some (l : List ByteArray) : ∃ b, Ev (fun k => laws_zzFits4.f k l) b ∧ (b = true → l.length ≤ 2147483647) := by
  by_cases hl : (l.length : Int) > 2147483647
  · refine ⟨false, Ev.congr (f := fun _ => some false) (fun k => ?_) (Ev.now _), fun h => by cases h⟩
    unfold laws_zzFits4.f
    rw [if_pos hl]
  · have go : ∀ (d i : Nat), i + d = l.length → ∃ b, Ev (fun k => laws_zzFits4.l0 k l (l.length : Int) (i : Int)) b := by
      intro d
      induction d with
      | zero =>
        intro i hi
        refine step_some (f := fun _ => some true) (fun k => ?_) (now_some _)
        simp only [laws_zzFits4.l0]
        rw [if_neg (by omega)]
      | succ d ih =>
        intro i hi
        refine step_some (f := fun k => if ((rdOf ByteArray.empty l (i : Int)).size : Int) > 2147483647 then some false else laws_zzFits4.l0 k l (l.length : Int) ((i + 1 : Nat) : Int)) (fun k => ?_) ?_
        · simp only [laws_zzFits4.l0]
          rw [if_pos (by omega), if_pos (by omega), if_pos (by omega), wr _ _ (by omega) (by omega)]
          rfl
        · exact ite_some (fun _ => now_some _) (fun _ => ih (i + 1) (by omega))
    obtain ⟨b, hb⟩ := go l.length 0 (by omega)
    refine ⟨b, Ev.congr (fun k => ?_) hb, fun _ => by omega⟩
    unfold laws_zzFits4.f
    rw [if_neg hl]
    rfl
theorem types_in (l : List S36) (tys : List ByteArray) (htys : tys.length ≤ 20) (txt : ByteArray) (out : List S36) (hout : out.length ≤ 1000) (j : Nat) (hj : j ≤ 1000) (x : S36) (res : Bool) :
    ∀ (r a : List ByteArray), tys = a ++ r →
    (Ev (fun k => laws_FnMountsTypes.l0 k tys txt (if keepsType tys x = true then out ++ [x] else out) l (l.length : Int) ((j + 1 : Nat) : Int)) res) →
    Ev (fun k => laws_FnMountsTypes.l1 k tys txt out (keepsType a x) l (l.length : Int) (j : Int) tys (tys.length : Int) (a.length : Int) x.f0 x.f1 x.f2 x.f3 x.f4 x.f5 x.f6 x.f7 x.f8 x.f9 x.f10) res
  | [], a, h, hn => by
    have hz : (tys.length : Int) = a.length := by rw [h]; simp
    have ha : tys = a := by simpa using h
    refine Ev.step (f := fun k => laws_FnMountsTypes.l0 k tys txt (if keepsType tys x = true then out ++ [x] else out) l (l.length : Int) ((j + 1 : Nat) : Int)) (fun k => ?_) hn
    simp only [laws_FnMountsTypes.l1]
    rw [if_neg (by omega), wr _ _ (by omega) (by omega), ← ha, show ((j : Int) + 1) = ((j + 1 : Nat) : Int) from rfl]
    by_cases hk : keepsType tys x = true
    · rw [if_pos hk, if_pos hk, if_pos (by omega)]
    · rw [if_neg hk, if_neg hk]
  | s :: r, a, h, hn => by
    have hz : (tys.length : Int) = a.length + (r.length + 1) := by rw [h]; simp
    have he : rdOf ByteArray.empty tys (a.length : Int) = s := by rw [h]; simp [rdOf]
    have ih := types_in l tys htys txt out hout j hj x res r (a ++ [s]) (by rw [h]; simp) hn
    have hk : keepsType (a ++ [s]) x = (keepsType a x || (s.toList == x.f8.toList)) := by
      unfold keepsType
      rw [List.any_append]
      simp only [List.any_cons, List.any_nil, Bool.or_false]
      congr 1
      rw [Bool.eq_iff_iff, beq_iff_eq, beq_iff_eq]
      exact eq_comm
    rw [hk] at ih
    refine Ev.step (f := fun k => laws_FnMountsTypes.l1 k tys txt out (keepsType a x || (s.toList == x.f8.toList)) l (l.length : Int) (j : Int) tys (tys.length : Int) ((a ++ [s]).length : Int) x.f0 x.f1 x.f2 x.f3 x.f4 x.f5 x.f6 x.f7 x.f8 x.f9 x.f10) (fun k => ?_) ih
    simp only [laws_FnMountsTypes.l1]
    rw [if_pos (by omega), if_pos (by omega), if_pos (by omega), he, wr _ _ (by omega) (by omega)]
    cases keepsType a x <;> simp
theorem types_loop (l : List S36) (hl : l.length ≤ 200) (hv : l.all validS = true) (ht : (printL l).length ≤ 60000) (tys : List ByteArray) (htys : tys.length ≤ 20) :
    ∀ (r a : List S36), l = a ++ r → Ev (fun k => laws_FnMountsTypes.l0 k tys (mkB (printL l)) (a.filter (keepsType tys)) l (l.length : Int) (a.length : Int)) true
  | [], a, h => by
    have hz : (l.length : Int) = a.length := by rw [h]; simp
    have ha : l = a := by simpa using h
    have hr : ReadsT (printL l) l := by
      have := reads_list l [] [] hv ht (by simp; omega) reads_nil
      simpa using this
    refine Ev.step (f := fun k => (impl_Mounts.f k (mkB (printL l)) 1 tys).bind fun bt247 => (if bt247.2 = 0 then ((laws_sameMounts.f k bt247.1 (a.filter (keepsType tys))).bind fun t251 => (if t251 = true then ((laws_mounts.f k).bind fun t252 => (some t252)) else (some false))) else (some false))) (fun k => ?_) ?_
    · simp only [laws_FnMountsTypes.l0]
      rw [if_neg (by omega)]
    · refine bind_ (mounts_ev hr 1 tys (l.filter (keepsType tys), 0) ?_) ?_
      · unfold mountsOf
        rw [if_pos (by omega), if_neg (by decide), if_pos rfl]
      · refine guard_e rfl ?_
        rw [← ha]
        have hfl := List.length_filter_le (keepsType tys) l
        refine bind_ (same_is (l.filter (keepsType tys)) (by omega)) ?_
        refine guard_e rfl ?_
        exact bind_ mounts_true (Ev.now _)
  | x :: r, a, h => by
    have hz : (l.length : Int) = a.length + (r.length + 1) := by rw [h]; simp
    have he : rd_T36 l (a.length : Int) = x := by rw [h]; simp [rd_T36]
    have ih := types_loop l hl hv ht tys htys r (a ++ [x]) (by rw [h]; simp)
    have hfl := List.length_filter_le (keepsType tys) a
    refine Ev.step (f := fun k => laws_FnMountsTypes.l1 k tys (mkB (printL l)) (a.filter (keepsType tys)) false l (l.length : Int) (a.length : Int) tys (tys.length : Int) 0 x.f0 x.f1 x.f2 x.f3 x.f4 x.f5 x.f6 x.f7 x.f8 x.f9 x.f10) (fun k => ?_) ?_
    · simp only [laws_FnMountsTypes.l0]
      rw [if_pos (by omega), if_pos (by omega), if_pos (by omega), he]
    · refine types_in l tys htys (mkB (printL l)) (a.filter (keepsType tys)) (by omega) a.length (by omega) x true tys [] (by simp) ?_
      rw [List.filter_append] at ih
      by_cases hk : keepsType tys x = true
      · simpa [List.filter_cons, hk] using ih
      · simpa [List.filter_cons, hk] using ih
theorem types_law (l : List S36) (tys : List ByteArray) : ∃ k, laws_FnMountsTypes.f k l tys = some true := by
  refine Ev.rounds (g := fun k => laws_FnMountsTypes.f k l tys) ?_
  have J : Ev (fun k => laws_FnMountsTypes.j0 k l tys true) true := by
    refine Ev.step (f := fun _ => some true) (fun k => ?_) (Ev.now _)
    simp only [laws_FnMountsTypes.j0, if_true]
  have J1 : ∀ t, Ev (fun k => laws_FnMountsTypes.j1 k l tys t true) true := fun t => by
    refine Ev.step (f := fun _ => some true) (fun k => ?_) (Ev.now _)
    simp only [laws_FnMountsTypes.j1, if_true]
  obtain ⟨b, hb, hsz⟩ := fits1_is l
  obtain ⟨b4, hb4, _⟩ := fits4_some tys
  unfold laws_FnMountsTypes.f
  refine bind_ hb ?_
  cases b with
  | false => exact guard_n (by decide) J
  | true =>
    refine guard_e rfl ?_
    refine bind_ hb4 ?_
    cases b4 with
    | false => exact J
    | true =>
      refine Ev.step (f := fun k => (laws_printed.f k l).bind fun bt245 => (if bt245.2 = true then (laws_FnMountsTypes.j1 k l tys bt245.1 (decide ((tys.length : Int) > 20))) else (laws_FnMountsTypes.j1 k l tys bt245.1 true))) (fun k => ?_) ?_
      · simp only [laws_FnMountsTypes.j0, Bool.not_true, Bool.false_eq_true, if_false]
      · by_cases hl : l.length ≤ 200
        · refine bind_ (printed_is l hl (hsz rfl)) ?_
          by_cases hv : l.all validS = true
          · simp only [if_pos hv]
            by_cases ht : (printL l).length ≤ 60000
            · rw [decide_eq_true ht]
              refine guard_e rfl ?_
              by_cases h20 : (tys.length : Int) > 20
              · rw [decide_eq_true h20]; exact J1 _
              · rw [decide_eq_false h20]
                refine Ev.step (f := fun k => laws_FnMountsTypes.l0 k tys (mkB (printL l)) ([] : List S36) l (l.length : Int) 0) (fun k => ?_) (types_loop l hl hv ht tys (by omega) l [] (by simp))
                simp only [laws_FnMountsTypes.j1, Bool.false_eq_true, if_false]
            · rw [decide_eq_false ht]
              exact guard_n (by decide) (J1 _)
          · simp only [if_neg hv]
            exact guard_n (by decide) (J1 _)
        · refine bind_ (printed_long l (by omega)) ?_
          exact guard_n (by decide) (J1 _)
end Go.Proofs.YtdmccakncgdbhaaDoor.ML
