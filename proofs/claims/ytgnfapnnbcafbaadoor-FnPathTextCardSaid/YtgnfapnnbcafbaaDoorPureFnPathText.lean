/- A path is escaped, and any text unescaped as a path, as the reference says: the pure statement. No condition. -/
import Derived.Test.YtgnfapnnbcafbaaDoorPurePath
namespace Go.Proofs.YtgnfapnnbcafbaaDoor.Pure
open Go.RowKit Go.Proofs.YtgnfapnnbcafbaaDoor.GNU Go.Proofs.YtgnfapnnbcafbaaDoorW.PrintWords Go.Proofs.YtgnfapnnbcafbaaDoorW.PrintLast

theorem btN_zero (s : ByteArray) : bt s 0 = (btN s 0 : Int) := btN_cast s 0
theorem size_of_empty (s : ByteArray) : s.toList = [] ↔ s.size = 0 := by
  rw [Lib.toList_data, Lib.size_eq]
  exact List.length_eq_zero_iff.symm
theorem path_escape (s : ByteArray) (hs : s.size ≤ 4000) : ∃ res : ByteArray × Int, Ev (fun k => spec_EscapePath.f k s) res ∧
    (res = ((⟨#[]⟩ : ByteArray), 2) ∨ (res.2 = 1 ∧ Ev (fun k => impl_PathEscape.f k s) res.1)) := by
  have jo : Ev (fun k => spec_EscapePath.j0 k s true) ((⟨#[]⟩ : ByteArray), (2 : Int)) := by
    refine Ev.step (f := fun _ => some ((⟨#[]⟩ : ByteArray), (2 : Int))) (fun k => ?_) (Ev.now _)
    simp only [spec_EscapePath.j0, if_true]
  unfold spec_EscapePath.f
  by_cases h0 : s.toList = []
  · refine ⟨_, ?_, .inl rfl⟩
    simp only [if_pos h0]
    exact jo
  · have hp : 0 < s.size := by
      rcases Nat.eq_zero_or_pos s.size with h | h
      · exact absurd ((size_of_empty s).2 h) h0
      · exact h
    simp only [if_neg h0, if_pos (show 0 < (s.size : Int) from by omega), btN_zero]
    by_cases c47 : (btN s 0 : Int) = 47
    · simp only [if_pos c47]
      obtain ⟨b, h1, h2⟩ := written_is s (by omega) s.size 0 (by omega) (by omega)
      cases b with
      | false =>
        refine ⟨_, Ev.bind (f := fun k t165 => spec_EscapePath.j0 k s (!t165)) h1 jo, .inl rfl⟩
      | true =>
        obtain ⟨w1, w2⟩ := h2 rfl
        have hw : ∀ j, j < s.size → 16 ≤ btN s j ∧ btN s j < 128 := fun j hj => ⟨w1 j (by omega) hj, w2 j hj⟩
        obtain ⟨res, g1, g2⟩ := path_all s hs hw (s.size - 1) 1 [] [] (by omega) (by omega) (by simp) (by simp)
        have hb : (0 : Nat) < 100000000 := by omega
        have gs : Ev (fun k => spec_EscapePath.l0 k s (mkB []) (mkB []) ((0 : Nat) : Int)) res := by
          refine Ev.step (f := fun k => spec_EscapePath.j2 k s (mkB []) (mkB []) ((0 : Nat) : Int) false) (fun k => ?_) ?_
          · simp only [spec_EscapePath.l0]
            rw [if_pos (by omega), if_pos (by omega), if_pos (by omega), btN_cast]
            rw [show ((btN s 0 : Int) != 47) = false from by rw [c47]; rfl]
          · refine flush_go s hs [] [] (by simp) 0 (by omega) (by simp) (by simp) res ?_
            rw [cur_nil]
            exact g1
        refine ⟨res, Ev.bind (f := fun k t165 => spec_EscapePath.j0 k s (!t165)) h1 ?_, ?_⟩
        · refine Ev.step (fun k => ?_) gs
          simp only [spec_EscapePath.j0, Bool.not_true, Bool.false_eq_true, if_false]
          rfl
        · rcases g2 with g2 | ⟨g2, g3⟩
          · exact .inl g2
          · refine .inr ⟨g2, ?_⟩
            unfold impl_PathEscape.f unit_UnitNamePathEscape.f unit_escape.f
            refine Ev.bind (Ev.bind ?_ (Ev.now _)) (Ev.now _)
            rw [cur_nil] at g3
            refine Ev.step (f := fun k => unit_escape.l0 k s true [] true true ((1 : Nat) : Int)) (fun k => ?_) g3
            simp only [unit_escape.l0, if_true]
            rw [if_pos (by omega), if_pos (by omega), btN_zero, if_pos (by omega), show wrap64 (0 + 1) = ((1 : Nat) : Int) from by unfold wrap64; omega]
    · simp only [if_neg c47]
      exact ⟨_, jo, .inl rfl⟩

theorem upath_loop (t : ByteArray) (ht : t.size ≤ 4000) (d : Nat) : ∀ i : Nat, t.size - i = d → 1 ≤ i → (i ≤ t.size) →
    (Ev (fun k => spec_UnescapePath.l0 k t (i : Int)) ((⟨#[]⟩ : ByteArray), (2 : Int))) ∨ Ev (fun k => spec_UnescapePath.l0 k t (i : Int)) ((⟨#[47]⟩ : ByteArray) ++ t, (1 : Int)) := by
  induction d with
  | zero =>
    intro i hd h1 hi
    refine .inr (Ev.step (f := fun _ => some ((⟨#[47]⟩ : ByteArray) ++ t, (1 : Int))) (fun k => ?_) (Ev.now _))
    simp only [spec_UnescapePath.l0]
    rw [if_neg (by omega), if_pos (by omega)]
  | succ d ih =>
    intro i hd h1 hi
    have hb : i < 100000000 := by omega
    have hw : wrap64 ((i : Int) - 1) = ((i - 1 : Nat) : Int) := wrapM i 1 h1 hb
    have step : (∀ k, spec_UnescapePath.l0 (k + 1) t (i : Int) = spec_UnescapePath.l0 k t ((i + 1 : Nat) : Int)) →
        (Ev (fun k => spec_UnescapePath.l0 k t (i : Int)) ((⟨#[]⟩ : ByteArray), (2 : Int))) ∨ Ev (fun k => spec_UnescapePath.l0 k t (i : Int)) ((⟨#[47]⟩ : ByteArray) ++ t, (1 : Int)) := fun he =>
      (ih (i + 1) (by omega) (by omega) (by omega)).imp (fun h => Ev.step he h) (fun h => Ev.step he h)
    by_cases c1 : btN t i = 47
    · by_cases c2 : btN t (i - 1) = 47
      · refine .inl (Ev.step (f := fun _ => some ((⟨#[]⟩ : ByteArray), (2 : Int))) (fun k => ?_) (Ev.now _))
        simp only [spec_UnescapePath.l0]
        rw [if_pos (by omega), if_pos (by omega), btN_cast, if_pos (by omega), hw, if_pos (by omega), if_pos (by omega), btN_cast, if_pos (by omega)]
      · refine step fun k => ?_
        simp only [spec_UnescapePath.l0]
        rw [if_pos (by omega), if_pos (by omega), btN_cast, if_pos (by omega), hw, if_pos (by omega), if_pos (by omega), btN_cast, if_neg (by omega), wrap1 i hb]
    · refine step fun k => ?_
      simp only [spec_UnescapePath.l0]
      rw [if_pos (by omega), if_pos (by omega), btN_cast, if_neg (by omega), wrap1 i hb]

theorem spec_empty (s : ByteArray) (h : s.toList = []) : Ev (fun k => spec_Unescape.f k s) ((⟨#[]⟩ : ByteArray), (2 : Int)) := by
  unfold spec_Unescape.f
  simp only [if_pos h]
  exact Ev.now _
theorem spec_some (s : ByteArray) (h : ¬ s.toList = []) (r : ByteArray × Int) (hr : Ev (fun k => spec_Unescape.l0 k s [] (0 : Int)) r) : Ev (fun k => spec_Unescape.f k s) r := by
  unfold spec_Unescape.f
  simp only [if_neg h]
  exact hr
theorem path_unescape (s : ByteArray) (hs : s.size ≤ 4000) : ∃ res : ByteArray × Int, Ev (fun k => spec_UnescapePath.f k s) res ∧
    (res = ((⟨#[]⟩ : ByteArray), 2) ∨ (res.2 = 1 ∧ Ev (fun k => impl_PathUnescape.f k s) res.1)) := by
  have jo : ∀ t, Ev (fun k => spec_UnescapePath.j0 k t true) ((⟨#[]⟩ : ByteArray), (2 : Int)) := fun t => by
    refine Ev.step (f := fun _ => some ((⟨#[]⟩ : ByteArray), (2 : Int))) (fun k => ?_) (Ev.now _)
    simp only [spec_UnescapePath.j0, if_true]
  by_cases hd : s.toList = [45]
  · obtain rfl : s = (⟨#[45]⟩ : ByteArray) := by
      rw [← mkB_data s, ← Lib.toList_data, hd]
      rfl
    refine ⟨((⟨#[47]⟩ : ByteArray), 1), ?_, .inr ⟨rfl, ?_⟩⟩
    · unfold spec_UnescapePath.f
      simp only [if_pos hd]
      exact Ev.now _
    · exact Ev.of (fun k => impl_PathUnescape.mono _ k) (k := 10) (by decide +kernel)
  · unfold spec_UnescapePath.f
    simp only [if_neg hd]
    have hopen : Ev (fun k => spec_Unescape.f k s) ((⟨#[]⟩ : ByteArray), (2 : Int)) → ∃ res : ByteArray × Int, Ev (fun k => (spec_Unescape.f k s).bind fun bt167 => (if bt167.2 = 1 then (if 0 < (bt167.1.size : Int) then (if (bt bt167.1 0) = 47 then (spec_UnescapePath.j0 k bt167.1 true) else (if 0 ≤ (wrap64 ((bt167.1.size : Int) - 1)) then (if (wrap64 ((bt167.1.size : Int) - 1)) < (bt167.1.size : Int) then (spec_UnescapePath.j0 k bt167.1 ((bt bt167.1 (wrap64 ((bt167.1.size : Int) - 1))) == 47)) else (none)) else (none))) else (none)) else (spec_UnescapePath.j0 k bt167.1 true))) res ∧
        (res = ((⟨#[]⟩ : ByteArray), 2) ∨ (res.2 = 1 ∧ Ev (fun k => impl_PathUnescape.f k s) res.1)) := fun h => by
      refine ⟨((⟨#[]⟩ : ByteArray), 2), Ev.bind (f := fun k bt167 => (if bt167.2 = 1 then (if 0 < (bt167.1.size : Int) then (if (bt bt167.1 0) = 47 then (spec_UnescapePath.j0 k bt167.1 true) else (if 0 ≤ (wrap64 ((bt167.1.size : Int) - 1)) then (if (wrap64 ((bt167.1.size : Int) - 1)) < (bt167.1.size : Int) then (spec_UnescapePath.j0 k bt167.1 ((bt bt167.1 (wrap64 ((bt167.1.size : Int) - 1))) == 47)) else (none)) else (none))) else (none)) else (spec_UnescapePath.j0 k bt167.1 true))) h ?_, .inl rfl⟩
      simp only [show ¬ ((2 : Int) = 1) from by decide, if_false]
      exact jo _
    by_cases he : s.toList = []
    · exact hopen (spec_empty s he)
    · rcases both s hs s.size 0 (by omega) (by omega) [] (by simp) with h | ⟨l, hl0, hl1, hl2, h3, h4⟩
      · exact hopen (spec_some s he _ h)
      · have hp : 0 < s.size := by
          rcases Nat.eq_zero_or_pos s.size with h | h
          · exact absurd ((size_of_empty s).2 h) he
          · exact h
        have hlne := hl0 hp
        have hz : (strOfNums l).size = l.length := strOfNums_size l
        have hlen : 0 < l.length := List.length_pos_iff.2 hlne
        have hb : l.length < 100000000 := by omega
        have hw : wrap64 ((l.length : Int) - 1) = ((l.length - 1 : Nat) : Int) := wrapM l.length 1 hlen hb
        have hfirst : bt (strOfNums l) 0 = l.head hlne := by
          rw [← rd_bytesOf, bytesOf_strOfNums l hl1]
          cases l with
          | nil => exact absurd rfl hlne
          | cons x l => simp [rd]
        have hs3 := spec_some s he _ h3
        rw [List.nil_append] at hs3
        have key : ∃ res : ByteArray × Int, Ev (fun k => if 0 < ((strOfNums l).size : Int) then (if (bt (strOfNums l) 0) = 47 then (spec_UnescapePath.j0 k (strOfNums l) true) else (if 0 ≤ (wrap64 (((strOfNums l).size : Int) - 1)) then (if (wrap64 (((strOfNums l).size : Int) - 1)) < ((strOfNums l).size : Int) then (spec_UnescapePath.j0 k (strOfNums l) ((bt (strOfNums l) (wrap64 (((strOfNums l).size : Int) - 1))) == 47)) else (none)) else (none))) else (none)) res ∧
            (res = ((⟨#[]⟩ : ByteArray), 2) ∨ (res.2 = 1 ∧ Ev (fun k => impl_PathUnescape.f k s) res.1)) := by
          rw [hz, hw, hfirst]
          simp only [if_pos (show 0 < (l.length : Int) from by omega), if_pos (show 0 ≤ ((l.length - 1 : Nat) : Int) from by omega), if_pos (show ((l.length - 1 : Nat) : Int) < (l.length : Int) from by omega)]
          by_cases c1 : l.head hlne = 47
          · simp only [if_pos c1]
            exact ⟨_, jo _, .inl rfl⟩
          · simp only [if_neg c1]
            by_cases c2 : ((bt (strOfNums l) ((l.length - 1 : Nat) : Int)) == 47) = true
            · rw [c2]
              exact ⟨_, jo _, .inl rfl⟩
            · have c2' : ((bt (strOfNums l) ((l.length - 1 : Nat) : Int)) == 47) = false := by simpa using c2
              rw [c2']
              have j0f : ∀ r, Ev (fun k => spec_UnescapePath.l0 k (strOfNums l) ((1 : Nat) : Int)) r → Ev (fun k => spec_UnescapePath.j0 k (strOfNums l) false) r := fun r h => by
                refine Ev.step (fun k => ?_) h
                simp only [spec_UnescapePath.j0, Bool.false_eq_true, if_false]
                rfl
              rcases upath_loop (strOfNums l) (by omega) (l.length - 1) 1 (by omega) (by omega) (by omega) with h | h
              · exact ⟨_, j0f _ h, .inl rfl⟩
              · refine ⟨_, j0f _ h, .inr ⟨rfl, ?_⟩⟩
                have hfin : (⟨#[47]⟩ : ByteArray) ++ strOfNums l = fin true l := by
                  rw [show (⟨#[47]⟩ : ByteArray) = strOfNums [47] from rfl, str_append]
                  unfold fin
                  rw [if_pos rfl, if_neg (by
                    rw [List.head?_eq_some_head hlne]
                    simpa using c1)]
                  rfl
                show Ev (fun k => impl_PathUnescape.f k s) ((⟨#[47]⟩ : ByteArray) ++ strOfNums l)
                rw [hfin]
                have := h4 true [] (by simp)
                rw [List.nil_append] at this
                unfold impl_PathUnescape.f unit_UnitNamePathUnescape.f unit_unescape.f
                exact Ev.bind (Ev.bind this (Ev.now _)) (Ev.now _)
        obtain ⟨res, k1, k2⟩ := key
        refine ⟨res, Ev.bind (f := fun k bt167 => (if bt167.2 = 1 then (if 0 < (bt167.1.size : Int) then (if (bt bt167.1 0) = 47 then (spec_UnescapePath.j0 k bt167.1 true) else (if 0 ≤ (wrap64 ((bt167.1.size : Int) - 1)) then (if (wrap64 ((bt167.1.size : Int) - 1)) < (bt167.1.size : Int) then (spec_UnescapePath.j0 k bt167.1 ((bt bt167.1 (wrap64 ((bt167.1.size : Int) - 1))) == 47)) else (none)) else (none))) else (none)) else (spec_UnescapePath.j0 k bt167.1 true))) hs3 ?_, k2⟩
        simp only [if_true]
        exact k1

theorem FnPathText : laws_FnPathText.Pure := by
  intro s hn
  refine Ev.rounds (g := fun k => laws_FnPathText.f k s) ?_
  unfold laws_FnPathText.f
  by_cases h1 : (s.size : Int) > 2147483647
  · simp only [if_pos h1]; exact Ev.now _
  simp only [if_neg h1]
  by_cases h2 : (s.size : Int) > 4000
  · simp only [if_pos h2]; exact Ev.now _
  simp only [if_neg h2]
  have hesc : Ev (fun k => (laws_escapes.f k).bind fun t => (some t)) true := Ev.bind escapes_is (Ev.now _)
  obtain ⟨⟨p, x⟩, p1, p2⟩ := path_escape s (by omega)
  obtain ⟨⟨q, y⟩, q1, q2⟩ := path_unescape s (by omega)
  have hB : Ev (fun k => (if y = 1 then ((impl_PathUnescape.f k s).bind fun t178 => (if t178.toList = q.toList then ((laws_escapes.f k).bind fun t179 => (some t179)) else (some false))) else ((laws_escapes.f k).bind fun t180 => (some t180)))) true := by
    rcases q2 with e | ⟨e, h⟩
    · obtain ⟨rfl, rfl⟩ := Prod.mk.inj e
      simp only [show ¬ ((2 : Int) = 1) from by decide, if_false]
      exact hesc
    · have e' : y = 1 := e
      subst e'
      simp only [if_true]
      refine Ev.bind (f := fun k t178 => (if t178.toList = q.toList then ((laws_escapes.f k).bind fun t179 => (some t179)) else (some false))) h ?_
      simp only [if_true]
      exact hesc
  refine Ev.bind (f := fun k bt173 => ((spec_UnescapePath.f k s).bind fun bt175 => (if bt173.2 = 1 then ((impl_PathEscape.f k s).bind fun t177 => (if t177.toList = bt173.1.toList then (if bt175.2 = 1 then ((impl_PathUnescape.f k s).bind fun t178 => (if t178.toList = bt175.1.toList then ((laws_escapes.f k).bind fun t179 => (some t179)) else (some false))) else ((laws_escapes.f k).bind fun t180 => (some t180))) else (some false))) else (if bt175.2 = 1 then ((impl_PathUnescape.f k s).bind fun t181 => (if t181.toList = bt175.1.toList then ((laws_escapes.f k).bind fun t182 => (some t182)) else (some false))) else ((laws_escapes.f k).bind fun t183 => (some t183)))))) p1 ?_
  refine Ev.bind (f := fun k bt175 => (if x = 1 then ((impl_PathEscape.f k s).bind fun t177 => (if t177.toList = p.toList then (if bt175.2 = 1 then ((impl_PathUnescape.f k s).bind fun t178 => (if t178.toList = bt175.1.toList then ((laws_escapes.f k).bind fun t179 => (some t179)) else (some false))) else ((laws_escapes.f k).bind fun t180 => (some t180))) else (some false))) else (if bt175.2 = 1 then ((impl_PathUnescape.f k s).bind fun t181 => (if t181.toList = bt175.1.toList then ((laws_escapes.f k).bind fun t182 => (some t182)) else (some false))) else ((laws_escapes.f k).bind fun t183 => (some t183))))) q1 ?_
  rcases p2 with e | ⟨e, h⟩
  · obtain ⟨rfl, rfl⟩ := Prod.mk.inj e
    simp only [show ¬ ((2 : Int) = 1) from by decide, if_false]
    exact hB
  · have e' : x = 1 := e
    subst e'
    simp only [if_true]
    refine Ev.bind (f := fun k t177 => (if t177.toList = p.toList then (if y = 1 then ((impl_PathUnescape.f k s).bind fun t178 => (if t178.toList = q.toList then ((laws_escapes.f k).bind fun t179 => (some t179)) else (some false))) else ((laws_escapes.f k).bind fun t180 => (some t180))) else (some false))) h ?_
    simp only [if_true]
    exact hB
end Go.Proofs.YtgnfapnnbcafbaaDoor.Pure
