/- A list of rows among a call's arguments, opened; what is known of it (RowOk). No condition. -/
import Derived.Test.YtednjmngalmdkaaGreatDoorOpens
import Derived.Test.YtednjmngalmdkaaGreatDoorGPCx1
import Derived.Test.YtednjmngalmdkaaGreatDoorProg
namespace Go.Proofs.YtednjmngalmdkaaGreatDoor.OP
open Go.RowKit Go.ChangeShapes Go.WideShapes Go.Deep Go.Proofs.YtednjmngalmdkaaGreatDoorW.PrintWords Go.Proofs.YtednjmngalmdkaaGreatDoor.GPC
set_option linter.unusedVariables false
theorem opens_slice' {α : Type} {P : Program} {d : Kd α} {t e : TypeId} {Q : α → Prop} (ho : Opens P d e Q) (ht : P.underlying t = some (.slice e)) (hc : P.cellsOf t = 1) : Opens P (Kd.slice e d) t (fun xs => xs.length ≤ maxLen ∧ ∀ v ∈ xs, Q v) :=
  ⟨hc, fun h => by
    obtain ⟨A, c, xs, rfl, hl, hm, hC, hq⟩ := slice_at ho ht h
    exact ⟨xs, ⟨A, c, rfl, hl, hC⟩, Nat.le_trans hl hm, hq⟩⟩
def RowOk (r : S31) : Prop := r.f0.size ≤ maxLen ∧ (r.f1.length ≤ maxLen ∧ ∀ n ∈ r.f1, 0 ≤ n ∧ n ≤ 18446744073709551615) ∧ (r.f2.length ≤ maxLen ∧ ∀ s ∈ r.f2, s.size ≤ maxLen)
theorem Opens.imp {α : Type} {P : Program} {d : Kd α} {t : TypeId} {Q R : α → Prop} (h : Opens P d t Q) (hi : ∀ v, Q v → R v) : Opens P d t R :=
  ⟨h.1, fun hx => by
    obtain ⟨v, hv, hq⟩ := h.2 hx
    exact ⟨v, hv, hi v hq⟩⟩
theorem openU : Opens Tryz.prog (Kd.int .u64) 35 (fun n => 0 ≤ n ∧ n ≤ 18446744073709551615) := (opens_int Tryz.underlying35 (by kernel_rfl)).imp fun n h => by
  simpa [Lit.wf, IntKind.min, IntKind.max, IntKind.signed, IntKind.bits] using h
theorem openS : Opens Tryz.prog Kd.string 9 (fun s => s.size ≤ maxLen) := opens_string Tryz.underlying9 (by kernel_rfl)
set_option maxRecDepth 100000 in
theorem open31 : Opens Tryz.prog k31 31 RowOk :=
  opens_struct (fun x : S31 => (x.f0, x.f1, x.f2)) (fun v => ⟨v.1, v.2.1, v.2.2⟩) (fun _ => rfl) Tryz.underlying31 (by kernel_rfl)
    (fields_cons rfl openS (fields_cons rfl (opens_slice' openU Tryz.underlying28 (by kernel_rfl)) (fields_one rfl (opens_slice' openS Tryz.underlying29 (by kernel_rfl)))))
end Go.Proofs.YtednjmngalmdkaaGreatDoor.OP
