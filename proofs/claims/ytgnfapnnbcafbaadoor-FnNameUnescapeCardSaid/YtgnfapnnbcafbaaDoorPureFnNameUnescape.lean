/- A text is unescaped as the reference says: the pure statement. No condition. -/
import Derived.Test.YtgnfapnnbcafbaaDoorPureUn
namespace Go.Proofs.YtgnfapnnbcafbaaDoor.Pure
open Go.RowKit Go.Proofs.YtgnfapnnbcafbaaDoor.GNU Go.Proofs.YtgnfapnnbcafbaaDoorW.PrintWords Go.Proofs.YtgnfapnnbcafbaaDoorW.PrintLast

theorem spec_empty (s : ByteArray) (h : s.toList = []) : Ev (fun k => spec_Unescape.f k s) ((⟨#[]⟩ : ByteArray), (2 : Int)) := by
  unfold spec_Unescape.f
  simp only [if_pos h]
  exact Ev.now _
theorem spec_some (s : ByteArray) (h : ¬ s.toList = []) (r : ByteArray × Int) (hr : Ev (fun k => spec_Unescape.l0 k s [] (0 : Int)) r) : Ev (fun k => spec_Unescape.f k s) r := by
  unfold spec_Unescape.f
  simp only [if_neg h]
  exact hr
theorem FnNameUnescape : laws_FnNameUnescape.Pure := by
  intro s hn
  refine Ev.rounds (g := fun k => laws_FnNameUnescape.f k s) ?_
  unfold laws_FnNameUnescape.f
  by_cases h1 : (s.size : Int) > 2147483647
  · simp only [if_pos h1]; exact Ev.now _
  simp only [if_neg h1]
  by_cases h2 : (s.size : Int) > 4000
  · simp only [if_pos h2]; exact Ev.now _
  simp only [if_neg h2]
  have hesc : Ev (fun k => (laws_escapes.f k).bind fun t => (some t)) true := Ev.bind escapes_is (Ev.now _)
  have hopen : Ev (fun k => spec_Unescape.f k s) ((⟨#[]⟩ : ByteArray), (2 : Int)) → Ev (fun k => (spec_Unescape.f k s).bind fun bt152 => (if bt152.2 = 1 then ((impl_NameUnescape.f k s).bind fun t154 => (if t154.toList = bt152.1.toList then ((laws_escapes.f k).bind fun t155 => (some t155)) else (some false))) else ((laws_escapes.f k).bind fun t156 => (some t156)))) true := fun h =>
    Ev.bind (f := fun k bt152 => (if bt152.2 = 1 then ((impl_NameUnescape.f k s).bind fun t154 => (if t154.toList = bt152.1.toList then ((laws_escapes.f k).bind fun t155 => (some t155)) else (some false))) else ((laws_escapes.f k).bind fun t156 => (some t156)))) h (by
      simp only [show ¬ ((2 : Int) = 1) from by decide, if_false]
      exact hesc)
  by_cases he : s.toList = []
  · exact hopen (spec_empty s he)
  · rcases both s (by omega) s.size 0 (by omega) (by omega) [] (by simp) with h | ⟨l, _, hl1, _, h3, h4⟩
    · exact hopen (spec_some s he _ h)
    · refine Ev.bind (f := fun k bt152 => (if bt152.2 = 1 then ((impl_NameUnescape.f k s).bind fun t154 => (if t154.toList = bt152.1.toList then ((laws_escapes.f k).bind fun t155 => (some t155)) else (some false))) else ((laws_escapes.f k).bind fun t156 => (some t156)))) (spec_some s he _ h3) ?_
      simp only [if_true]
      have hu : Ev (fun k => impl_NameUnescape.f k s) (strOfNums l) := by
        unfold impl_NameUnescape.f unit_UnitNameUnescape.f unit_unescape.f
        have := h4 false [] (by simp)
        simp only [fin, Bool.false_eq_true, if_false, List.nil_append] at this
        exact Ev.bind (Ev.bind this (Ev.now _)) (Ev.now _)
      refine Ev.bind (f := fun k t154 => (if t154.toList = (strOfNums ([] ++ l)).toList then ((laws_escapes.f k).bind fun t155 => (some t155)) else (some false))) hu ?_
      simp only [List.nil_append, if_true]
      exact hesc
end Go.Proofs.YtgnfapnnbcafbaaDoor.Pure
