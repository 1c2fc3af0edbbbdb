/- Plain facts: the text of two lists of mounts, one behind the other, is read as both: the statement FnMountsJoined as a function. No condition. -/
import Derived.Test.YtdmccakncgdbhaaDoorMPlain
import Derived.Test.YtdmccakncgdbhaaDoorMJ0
namespace Go.Proofs.YtdmccakncgdbhaaDoor.ML
open Go.RowKit Go.Proofs.YtdmccakncgdbhaaDoor.GMA Go.Proofs.YtdmccakncgdbhaaDoorW.PrintWords Go.Proofs.YtdmccakncgdbhaaDoorW.PrintLast Go.Proofs.YtdmccakncgdbhaaDoor.MB Go.Proofs.YtdmccakncgdbhaaDoor.GL
set_option linter.unusedVariables false
set_option linter.unusedSimpArgs false
theorem mounts_trueJ : Ev (fun k => laws_mounts.f k) true :=
  Ev.of (fun k => laws_mounts.mono k) (k := 120) (by decide +kernel)
theorem printed_any (l : List S36) (hsz : ∀ x ∈ l, Sized x) : ∃ t f, Ev (fun k => laws_printed.f k l) (t, f) ∧ (f = true → l.length ≤ 200 ∧ l.all validS = true ∧ t = mkB (printL l) ∧ (printL l).length ≤ 60000) := by
  by_cases hl : l.length ≤ 200
  · have := printed_is l hl hsz
    by_cases hv : l.all validS = true
    · rw [if_pos hv] at this
      exact ⟨_, _, this, fun h => ⟨hl, hv, rfl, of_decide_eq_true h⟩⟩
    · rw [if_neg hv] at this
      exact ⟨_, _, this, fun h => by cases h⟩
  · exact ⟨_, _, printed_long l (by omega), fun h => by cases h⟩
theorem joined_law (a b : List S36) : ∃ k, laws_FnMountsJoined.f k a b = some true := by
  refine Ev.rounds (g := fun k => laws_FnMountsJoined.f k a b) ?_
  have J : Ev (fun k => laws_FnMountsJoined.j0 k a b true) true := by
    refine Ev.step (f := fun _ => some true) (fun k => ?_) (Ev.now _)
    simp only [laws_FnMountsJoined.j0, if_true]
  have J1 : ∀ s t, Ev (fun k => laws_FnMountsJoined.j1 k a b s t true) true := fun s t => by
    refine Ev.step (f := fun _ => some true) (fun k => ?_) (Ev.now _)
    simp only [laws_FnMountsJoined.j1, if_true]
  obtain ⟨c, hc, ha⟩ := fits1_is a
  obtain ⟨d, hd, hb⟩ := fits1_is b
  unfold laws_FnMountsJoined.f
  refine bind_ hc ?_
  cases c with
  | false => exact guard_n (by decide) J
  | true =>
    refine guard_e rfl ?_
    refine bind_ hd ?_
    cases d with
    | false => exact J
    | true =>
      obtain ⟨s, f, hs, hf⟩ := printed_any a (ha rfl)
      obtain ⟨t, g, ht, hg⟩ := printed_any b (hb rfl)
      refine Ev.step (f := fun k => (laws_printed.f k a).bind fun bt208 => ((laws_printed.f k b).bind fun bt210 => (if bt208.2 = true then (laws_FnMountsJoined.j1 k a b bt208.1 bt210.1 (!bt210.2)) else (laws_FnMountsJoined.j1 k a b bt208.1 bt210.1 true)))) (fun k => ?_) ?_
      · simp only [laws_FnMountsJoined.j0, Bool.not_true, Bool.false_eq_true, if_false]
      · refine bind_ hs ?_
        refine bind_ ht ?_
        cases f with
        | false => exact guard_n (show ¬ (false = true) by decide) (J1 _ _)
        | true =>
          refine guard_e rfl ?_
          cases g with
          | false => exact J1 _ _
          | true =>
            obtain ⟨la, va, rfl, sa⟩ := hf rfl
            obtain ⟨lb, vb, rfl, sb⟩ := hg rfl
            have hr : ReadsT (printL a ++ printL b) (a ++ b) := by
              refine reads_list a (printL b) b va sa (by omega) ?_
              have := reads_list b [] [] vb sb (by simp; omega) reads_nil
              simpa using this
            refine Ev.step (f := fun k => (impl_Mounts.f k (mkB (printL a ++ printL b)) 0 []).bind fun bt216 => (if bt216.2 = 0 then ((laws_sameMounts.f k bt216.1 (a ++ b)).bind fun t226 => (if t226 = true then ((laws_mounts.f k).bind fun t227 => (some t227)) else (some false))) else (some false))) (fun k => ?_) ?_
            · simp only [laws_FnMountsJoined.j1, Bool.not_true, Bool.false_eq_true, if_false, mkB_size, mkB_append, laws_all.f, Option.bind_some, List.nil_append, List.length_nil, Nat.zero_add]
              rw [if_pos (by omega)]
              simp only [if_pos (show a.length < 977343669134 by omega), if_pos (show a.length + b.length < 977343669134 by omega)]
            · refine bind_ (mounts_ev hr 0 [] (a ++ b, 0) ?_) ?_
              · unfold mountsOf
                rw [if_pos (by simp; omega), if_pos rfl]
              · refine guard_e rfl ?_
                refine bind_ (same_is (a ++ b) (by simp; omega)) ?_
                refine guard_e rfl ?_
                exact bind_ mounts_trueJ (Ev.now _)
end Go.Proofs.YtdmccakncgdbhaaDoor.ML
