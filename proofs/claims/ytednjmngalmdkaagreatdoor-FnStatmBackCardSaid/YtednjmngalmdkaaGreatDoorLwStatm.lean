/- laws.FnStatmBack answers true where BackOk holds. Conditions: BackOk; the tables as laid. -/
import Derived.Test.YtednjmngalmdkaaGreatDoorBackStatm
import Derived.Test.YtednjmngalmdkaaGreatDoorGPCx1
namespace Go.Proofs.YtednjmngalmdkaaGreatDoor.GPC
open Go.RowKit Go.Proofs.YtednjmngalmdkaaGreatDoorW.PrintWords Go.Proofs.YtednjmngalmdkaaGreatDoorW.PrintLast
set_option linter.unusedVariables false
set_option maxHeartbeats 8000000 in
set_option maxRecDepth 100000 in
theorem lawStatm (A0 : Option Addr) (c0 : Nat) (l0 : List S31) (w : World) (hr0 : Kd.C k31 w A0 l0.length l0) (hc0 : l0.length ≤ c0) (hT : TabW w) (k : Nat) (b : Bool) (hz : laws_zzFits5.f k l0 = some b)
    (h : b = true → BackOk (fun k => spec_StatmPrint.f k l0) (fun k => spec_StatmTree.f k l0) (fun s n => doorStatm s n) l0) :
    Calls Tryz.prog 5 #[.slice A0 l0.length c0] w fun e w' => e = .returned (.bool true) ∧ Below w.heap.size w w' := by
  have HR := Aside0.mk hr0
  have HT := Aside0.mk hT
  have HC := Aside0.mk hc0
  have HZ := Aside0.mk hz
  have H := Aside0.mk h
  clear hr0 hT hc0 hz h
  cases b
  · go_enter Tryz.func5, Tryz.ntmps5
    go_wp2_with (first
      | (go_at_call 13; refine (laws_zzFits5.calls k A0 c0 l0 false _ HR.out HC.out HZ.out).mono ?_; rintro e w1 ⟨rfl, hb⟩; have HB1 := Aside0.mk hb; clear hb))
    go_ret
    exact ⟨rfl, HB1.out⟩
  · have H2 := Aside0.mk (H.out rfl)
    clear H
    go_enter Tryz.func5, Tryz.ntmps5
    go_wp2_with (first
      | (go_at_call 13; refine (laws_zzFits5.calls k A0 c0 l0 true _ HR.out HC.out HZ.out).mono ?_; rintro e w1 ⟨rfl, hb⟩; have HB1 := Aside0.mk hb; clear hb)
      | (go_at_call 14; refine (backStatm A0 c0 l0 _ (Kd.C_below HR.out HB1.out) HC.out (tabW_below HT.out HB1.out) H2.out).mono ?_; rintro e w2 ⟨rfl, hb⟩; have HB2 := Aside0.mk (keepS HB1.out hb); clear hb))
    go_ret
    exact ⟨rfl, HB2.out⟩
end Go.Proofs.YtednjmngalmdkaaGreatDoor.GPC
