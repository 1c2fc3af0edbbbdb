/- impl.Mounts as the printed functions want it: with no filter, with types of file systems, with a prefix. Conditions: a text that textF reads. -/
import Derived.Test.YtdmccakncgdbhaaDoorGivenIM1
import Derived.Test.YtdmccakncgdbhaaDoorGivenIM3
namespace Go.Proofs.YtdmccakncgdbhaaDoor.GMA
open Go.RowKit Go.Proofs.YtdmccakncgdbhaaDoorW.PrintWords Go.Proofs.YtdmccakncgdbhaaDoorW Go.Proofs.YtdmccakncgdbhaaDoor.GL
/-- What impl.Mounts answers of a text that textF reads. -/
def mountsOf (ms : List S36) (kind : Int) (paths : List ByteArray) : Option (List S36 × Int) :=
  if ms.length ≤ 1000000 then
    if kind = 0 then some (ms, 0)
    else if kind = 1 then some (ms.filter (keepsType paths), 0)
    else if kind = 3 then
      match paths with
      | [p] => if p.size ≤ 1000000 then some (ms.filter (keepsPre p), 0) else none
      | _ => none
    else none
  else none
def impl_Mounts.f (k : Nat) (a0 : ByteArray) (a1_0 : Int) (l1_1 : List ByteArray) : Option (List S36 × Int) :=
  (textF k k a0).bind fun ms => mountsOf ms a1_0 l1_1
theorem lineF_mono (k : Nat) (t : ByteArray) : LeO (lineF k t) (lineF (k + 1) t) := by
  unfold lineF
  repeat' first
      | (with_reducible exact mountinfo_zzSplit.mono _ _ _)
      | (with_reducible exact mountinfo_zzCut.mono _ _ _)
      | (with_reducible exact mountinfo_unescape.mono _ _)
      | (with_reducible exact LeO.refl _)
      | (with_reducible exact LeO.none _)
      | (with_reducible refine LeO.ite ?_ ?_)
      | (with_reducible refine LeO.bind ?_ (fun _ => ?_))
theorem textF_mono (k : Nat) : ∀ (q : Nat) (t : ByteArray), LeO (textF k q t) (textF (k + 1) (q + 1) t)
  | 0, t => fun r h => by cases h
  | q + 1, t => by
    unfold textF
    repeat' first
      | (with_reducible exact lineF_mono _ _)
      | (with_reducible exact textF_mono k q _)
      | (with_reducible exact LeO.refl _)
      | (with_reducible exact LeO.none _)
      | (with_reducible refine LeO.ite ?_ ?_)
      | (with_reducible refine LeO.bind ?_ (fun _ => ?_))
theorem impl_Mounts.mono (a0 : ByteArray) (a1_0 : Int) (l1_1 : List ByteArray) (k : Nat) : LeO (impl_Mounts.f k a0 a1_0 l1_1) (impl_Mounts.f (k + 1) a0 a1_0 l1_1) := by
  unfold impl_Mounts.f
  exact LeO.bind (textF_mono k k a0) (fun _ => LeO.refl _)
theorem impl_Mounts.calls (k : Nat) (a0 : ByteArray) (a1_0 : Int) (A1_1 : Option Addr) (c1_1 : Nat) (l1_1 : List ByteArray) (r1 : List S36) (r2 : Int) (w : World)
    (hr : Kd.C Kd.string w A1_1 l1_1.length l1_1) (hc : l1_1.length ≤ c1_1) (h : impl_Mounts.f k a0 a1_0 l1_1 = some (r1, r2)) :
    Calls Tryd.prog 8 #[.string a0, .agg #[.int .i64 a1_0, .slice A1_1 l1_1.length c1_1]] w fun e w' => ∃ v0_ : Value, e = .returned (.tuple #[v0_, .int .i64 r2]) ∧ Kd.R k36 36 w' w.heap.size (fun _ => True) v0_ r1 ∧ Below w.heap.size w w' := by
  unfold impl_Mounts.f at h
  obtain ⟨ms, h1, hm⟩ := Option.bind_eq_some_iff.1 h
  clear h
  unfold mountsOf at hm
  split at hm
  · rename_i hl
    split at hm
    · rename_i hk
      subst hk
      obtain ⟨rfl, rfl⟩ := Prod.mk.inj (Option.some.inj hm)
      have hf : ms.filter FK.none.keeps = ms := List.filter_eq_self.2 fun _ _ => rfl
      have := mounts0 k a0 ms A1_1 l1_1.length c1_1 w h1 hl
      rw [hf] at this
      exact this
    · split at hm
      · rename_i hk
        subst hk
        obtain ⟨rfl, rfl⟩ := Prod.mk.inj (Option.some.inj hm)
        exact mounts1 k a0 ms A1_1 c1_1 l1_1 w hr h1 hl
      · split at hm
        · rename_i hk
          subst hk
          split at hm
          · rename_i p
            split at hm
            · rename_i hp
              obtain ⟨rfl, rfl⟩ := Prod.mk.inj (Option.some.inj hm)
              obtain ⟨ad, rfl, hcell⟩ := Kd.at_string hr 0 (by omega) (by simp)
              refine mounts3 k a0 ms ad c1_1 p w ?_ hp h1 hl
              simpa [Addr.add, rdOf] using hcell
            · cases hm
          · cases hm
        · cases hm
  · cases hm
end Go.Proofs.YtdmccakncgdbhaaDoor.GMA
