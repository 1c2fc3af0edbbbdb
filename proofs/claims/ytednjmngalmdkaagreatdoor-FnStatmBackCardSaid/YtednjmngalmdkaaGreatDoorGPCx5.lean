-- printed by gprint.py (a session's own turn of the kit's print): PC
import Derived.Test.YtednjmngalmdkaaGreatDoorGPCx0
import Derived.Test.YtednjmngalmdkaaGreatDoorGPCx2
import Derived.Test.YtednjmngalmdkaaGreatDoorGPCx4
import Derived.Test.YtednjmngalmdkaaGreatDoorGivenPC
import Derived.Test.YtednjmngalmdkaaGreatDoorGivenHu
namespace Go.Proofs.YtednjmngalmdkaaGreatDoor.GPC
open Go.RowKit Go.Proofs.YtednjmngalmdkaaGreatDoorW.PrintWords Go.Proofs.YtednjmngalmdkaaGreatDoorW.PrintLast Go.Proofs.YtednjmngalmdkaaGreatDoorW.PrintMore
attribute [local go_sem] max2_int min2_int max_two min_two max_three min_three max_four min_four   -- for this text's walks alone
set_option linter.unusedVariables false
set_option linter.unusedSimpArgs false

attribute [local go_sem] run_store_float
/-! ### spec_LoadavgTree: function 16 -/
def spec_LoadavgTree.f (k : Nat) (l0 : List (S31)) : Option (ByteArray × Int × Bool × Int × Int × Nat × ByteArray × (List (S39)) × Int) := (spec_LoadavgPrint.f k l0).bind fun bt199 => (if bt199.2 = 1 then (if 0 < (l0.length : Int) then (if 0 < (((rd_T31 l0 0).f1).length : Int) then ((spec_hundredth.f (rd ((rd_T31 l0 0).f1) 0)).bind fun t203 => ((spec_floatNode.f (⟨#[76, 111, 97, 100, 49]⟩ : ByteArray) t203).bind fun bt204 => (if 1 < (((rd_T31 l0 0).f1).length : Int) then ((spec_hundredth.f (rd ((rd_T31 l0 0).f1) 1)).bind fun t215 => ((spec_floatNode.f (⟨#[76, 111, 97, 100, 53]⟩ : ByteArray) t215).bind fun bt216 => (if 2 < (((rd_T31 l0 0).f1).length : Int) then ((spec_hundredth.f (rd ((rd_T31 l0 0).f1) 2)).bind fun t227 => ((spec_floatNode.f (⟨#[76, 111, 97, 100, 49, 53]⟩ : ByteArray) t227).bind fun bt228 => ((spec_recordNode.f (⟨#[]⟩ : ByteArray) (([(⟨bt204.1, bt204.2.1, bt204.2.2.1, bt204.2.2.2.1, bt204.2.2.2.2.1, bt204.2.2.2.2.2.1, bt204.2.2.2.2.2.2.1, bt204.2.2.2.2.2.2.2⟩ : S39), (⟨bt216.1, bt216.2.1, bt216.2.2.1, bt216.2.2.2.1, bt216.2.2.2.2.1, bt216.2.2.2.2.2.1, bt216.2.2.2.2.2.2.1, bt216.2.2.2.2.2.2.2⟩ : S39), (⟨bt228.1, bt228.2.1, bt228.2.2.1, bt228.2.2.2.1, bt228.2.2.2.2.1, bt228.2.2.2.2.2.1, bt228.2.2.2.2.2.2.1, bt228.2.2.2.2.2.2.2⟩ : S39)] : List (S39)))).bind fun bt241 => (some (bt241.1, bt241.2.1, bt241.2.2.1, bt241.2.2.2.1, bt241.2.2.2.2.1, bt241.2.2.2.2.2.1, bt241.2.2.2.2.2.2.1, bt241.2.2.2.2.2.2.2, 1))))) else (none)))) else (none)))) else (none)) else (none)) else (some ((⟨#[]⟩ : ByteArray), 0, false, 0, 0, 0, (⟨#[]⟩ : ByteArray), ([] : List (S39)), 2)))
theorem spec_LoadavgTree.mono : ∀ a0 k, LeO (spec_LoadavgTree.f k a0) (spec_LoadavgTree.f (k + 1) a0) := by
  intro a0 k
  unfold spec_LoadavgTree.f
  repeat' first
      | (with_reducible exact spec_LoadavgPrint.mono _ _)
      | (with_reducible exact LeO.refl _)
      | (with_reducible exact LeO.none _)
      | (with_reducible refine LeO.ite ?_ ?_)
      | (with_reducible refine LeO.bind ?_ (fun _ => ?_))
      | exact spec_LoadavgPrint.mono _ _
      | exact LeO.none _
      | refine LeO.ite ?_ ?_
      | refine LeO.bind ?_ (fun _ => ?_)
def spec_LoadavgTree.T5 : Bool × List (List Nat × List Nat) := (true, [([], []), ([0], [0]), ([1], [1]), ([2], [2]), ([3, 3], [3]), ([], []), ([5], [5]), ([6], [6]), ([7, 4], [7]), ([8, 8], [8]), ([], []), ([10], [10]), ([11], [11]), ([12, 9], [12]), ([13, 13], [13]), ([4, 9, 14], [4, 9, 14]), ([15, 14], [15]), ([16, 16, 0, 1, 2, 3, 4, 5, 6, 7, 8, 9, 10, 11, 12, 13, 14, 15, 16], [16]), ([17, 0, 1, 2, 3, 4, 5, 6, 7, 8, 9, 10, 11, 12, 13, 14, 15, 16, 17], [])])
def spec_LoadavgTree.B5 : List Nat := [0, 1, 3, 7, 15, 0, 32, 96, 255, 511, 0, 1024, 3072, 8191, 16383, 32767, 65535, 131071, 262143]
theorem spec_LoadavgTree.tab5 : rtab .any (opsOf Tryz.f16 5) = spec_LoadavgTree.T5 := by kernel_rfl
theorem spec_LoadavgTree.bits5 : waitsOk spec_LoadavgTree.T5.2 spec_LoadavgTree.B5 = true := by kernel_rfl
set_option maxHeartbeats 8000000 in
set_option maxRecDepth 100000 in
theorem spec_LoadavgTree.calls (k : Nat) (A0 : Option Addr) (c0 : Nat) (l0 : List (S31)) (r1 : ByteArray) (r2 : Int) (r3 : Bool) (r4 : Int) (r5 : Int) (r6 : Nat) (r7 : ByteArray) (r8 : List (S39)) (r9 : Int) (w : World) (hr0 : Kd.C k31 w A0 l0.length l0) (hc0 : l0.length ≤ c0) (h : spec_LoadavgTree.f k l0 = some (r1, r2, r3, r4, r5, r6, r7, r8, r9)) :
    Calls Tryz.prog 16 #[.slice A0 l0.length c0] w fun e w' => ∃ v7_ : Value, e = .returned (.tuple #[.agg #[.string r1, .int .i64 r2, .bool r3, .int .i64 r4, .int .u64 r5, .float .f64 r6, .string r7, v7_], .int .i64 r9]) ∧ Kd.V k39 39 w' w.heap.size (fun k_ => (w.heap.size ≤ k_)) v7_ r8 ∧ Below w.heap.size w w' := by
  have hu39 := Tryz.underlying39
  have HR0 := Aside0.mk hr0
  have HC0 := Aside0.mk hc0
  clear hr0 hc0
  have HB := Aside0.mk (Below.refl w.heap.size w)
  have H : ((spec_LoadavgPrint.f k l0).bind fun bt199 => (if bt199.2 = 1 then (if 0 < (l0.length : Int) then (if 0 < (((rd_T31 l0 0).f1).length : Int) then ((spec_hundredth.f (rd ((rd_T31 l0 0).f1) 0)).bind fun t203 => ((spec_floatNode.f (⟨#[76, 111, 97, 100, 49]⟩ : ByteArray) t203).bind fun bt204 => (if 1 < (((rd_T31 l0 0).f1).length : Int) then ((spec_hundredth.f (rd ((rd_T31 l0 0).f1) 1)).bind fun t215 => ((spec_floatNode.f (⟨#[76, 111, 97, 100, 53]⟩ : ByteArray) t215).bind fun bt216 => (if 2 < (((rd_T31 l0 0).f1).length : Int) then ((spec_hundredth.f (rd ((rd_T31 l0 0).f1) 2)).bind fun t227 => ((spec_floatNode.f (⟨#[76, 111, 97, 100, 49, 53]⟩ : ByteArray) t227).bind fun bt228 => ((spec_recordNode.f (⟨#[]⟩ : ByteArray) (([(⟨bt204.1, bt204.2.1, bt204.2.2.1, bt204.2.2.2.1, bt204.2.2.2.2.1, bt204.2.2.2.2.2.1, bt204.2.2.2.2.2.2.1, bt204.2.2.2.2.2.2.2⟩ : S39), (⟨bt216.1, bt216.2.1, bt216.2.2.1, bt216.2.2.2.1, bt216.2.2.2.2.1, bt216.2.2.2.2.2.1, bt216.2.2.2.2.2.2.1, bt216.2.2.2.2.2.2.2⟩ : S39), (⟨bt228.1, bt228.2.1, bt228.2.2.1, bt228.2.2.2.1, bt228.2.2.2.2.1, bt228.2.2.2.2.2.1, bt228.2.2.2.2.2.2.1, bt228.2.2.2.2.2.2.2⟩ : S39)] : List (S39)))).bind fun bt241 => (some (bt241.1, bt241.2.1, bt241.2.2.1, bt241.2.2.2.1, bt241.2.2.2.2.1, bt241.2.2.2.2.2.1, bt241.2.2.2.2.2.2.1, bt241.2.2.2.2.2.2.2, 1))))) else (none)))) else (none)))) else (none)) else (none)) else (some ((⟨#[]⟩ : ByteArray), 0, false, 0, 0, 0, (⟨#[]⟩ : ByteArray), ([] : List (S39)), 2)))) = some (r1, r2, r3, r4, r5, r6, r7, r8, r9) := h
  clear h
  replace H := Option.bind_eq_some_iff.mp H
  obtain ⟨⟨t199, t200⟩, A20, H⟩ := H
  replace H : (if t200 = 1 then (if 0 < (l0.length : Int) then (if 0 < (((rd_T31 l0 0).f1).length : Int) then ((spec_hundredth.f (rd ((rd_T31 l0 0).f1) 0)).bind fun t203 => ((spec_floatNode.f (⟨#[76, 111, 97, 100, 49]⟩ : ByteArray) t203).bind fun bt204 => (if 1 < (((rd_T31 l0 0).f1).length : Int) then ((spec_hundredth.f (rd ((rd_T31 l0 0).f1) 1)).bind fun t215 => ((spec_floatNode.f (⟨#[76, 111, 97, 100, 53]⟩ : ByteArray) t215).bind fun bt216 => (if 2 < (((rd_T31 l0 0).f1).length : Int) then ((spec_hundredth.f (rd ((rd_T31 l0 0).f1) 2)).bind fun t227 => ((spec_floatNode.f (⟨#[76, 111, 97, 100, 49, 53]⟩ : ByteArray) t227).bind fun bt228 => ((spec_recordNode.f (⟨#[]⟩ : ByteArray) (([(⟨bt204.1, bt204.2.1, bt204.2.2.1, bt204.2.2.2.1, bt204.2.2.2.2.1, bt204.2.2.2.2.2.1, bt204.2.2.2.2.2.2.1, bt204.2.2.2.2.2.2.2⟩ : S39), (⟨bt216.1, bt216.2.1, bt216.2.2.1, bt216.2.2.2.1, bt216.2.2.2.2.1, bt216.2.2.2.2.2.1, bt216.2.2.2.2.2.2.1, bt216.2.2.2.2.2.2.2⟩ : S39), (⟨bt228.1, bt228.2.1, bt228.2.2.1, bt228.2.2.2.1, bt228.2.2.2.2.1, bt228.2.2.2.2.2.1, bt228.2.2.2.2.2.2.1, bt228.2.2.2.2.2.2.2⟩ : S39)] : List (S39)))).bind fun bt241 => (some (bt241.1, bt241.2.1, bt241.2.2.1, bt241.2.2.2.1, bt241.2.2.2.2.1, bt241.2.2.2.2.2.1, bt241.2.2.2.2.2.2.1, bt241.2.2.2.2.2.2.2, 1))))) else (none)))) else (none)))) else (none)) else (none)) else (some ((⟨#[]⟩ : ByteArray), 0, false, 0, 0, 0, (⟨#[]⟩ : ByteArray), ([] : List (S39)), 2))) = some (r1, r2, r3, r4, r5, r6, r7, r8, r9) := H
  have A2 := Aside0.mk A20
  clear A20
  by_cases c3 : t200 = 1
  · rw [if_pos c3] at H
    have c3b0 : (t200 == 1) = true := beq_iff_eq.mpr c3
    have c3b1 : (t200 != 1) = false := bne_eq_false_iff_eq.mpr c3
    clear c3
    replace H := guard_inv H
    obtain ⟨c4, H⟩ := H
    have c4b0 : decide (0 < (l0.length : Int)) = true := decide_eq_true c4
    have c4b1 : decide (0 < l0.length) = true := decide_eq_true (by omega)
    clear c4
    replace H := guard_inv H
    obtain ⟨c5, H⟩ := H
    have c5b0 : decide (0 < (((rd_T31 l0 0).f1).length : Int)) = true := decide_eq_true c5
    have c5b1 : decide (0 < ((rd_T31 l0 0).f1).length) = true := decide_eq_true (by omega)
    clear c5
    replace H := Option.bind_eq_some_iff.mp H
    obtain ⟨t203, A60, H⟩ := H
    try dsimp -simprocs only at H
    have A6 := Aside0.mk A60
    clear A60
    replace H := Option.bind_eq_some_iff.mp H
    obtain ⟨⟨t204, t205, t206, t207, t208, t209, t210, t211⟩, A70, H⟩ := H
    replace H : (if 1 < (((rd_T31 l0 0).f1).length : Int) then ((spec_hundredth.f (rd ((rd_T31 l0 0).f1) 1)).bind fun t215 => ((spec_floatNode.f (⟨#[76, 111, 97, 100, 53]⟩ : ByteArray) t215).bind fun bt216 => (if 2 < (((rd_T31 l0 0).f1).length : Int) then ((spec_hundredth.f (rd ((rd_T31 l0 0).f1) 2)).bind fun t227 => ((spec_floatNode.f (⟨#[76, 111, 97, 100, 49, 53]⟩ : ByteArray) t227).bind fun bt228 => ((spec_recordNode.f (⟨#[]⟩ : ByteArray) (([(⟨t204, t205, t206, t207, t208, t209, t210, t211⟩ : S39), (⟨bt216.1, bt216.2.1, bt216.2.2.1, bt216.2.2.2.1, bt216.2.2.2.2.1, bt216.2.2.2.2.2.1, bt216.2.2.2.2.2.2.1, bt216.2.2.2.2.2.2.2⟩ : S39), (⟨bt228.1, bt228.2.1, bt228.2.2.1, bt228.2.2.2.1, bt228.2.2.2.2.1, bt228.2.2.2.2.2.1, bt228.2.2.2.2.2.2.1, bt228.2.2.2.2.2.2.2⟩ : S39)] : List (S39)))).bind fun bt241 => (some (bt241.1, bt241.2.1, bt241.2.2.1, bt241.2.2.2.1, bt241.2.2.2.2.1, bt241.2.2.2.2.2.1, bt241.2.2.2.2.2.2.1, bt241.2.2.2.2.2.2.2, 1))))) else (none)))) else (none)) = some (r1, r2, r3, r4, r5, r6, r7, r8, r9) := H
    have A7 := Aside0.mk A70
    clear A70
    replace H := guard_inv H
    obtain ⟨c8, H⟩ := H
    have c8b0 : decide (1 < (((rd_T31 l0 0).f1).length : Int)) = true := decide_eq_true c8
    have c8b1 : decide (1 < ((rd_T31 l0 0).f1).length) = true := decide_eq_true (by omega)
    clear c8
    replace H := Option.bind_eq_some_iff.mp H
    obtain ⟨t215, A90, H⟩ := H
    try dsimp -simprocs only at H
    have A9 := Aside0.mk A90
    clear A90
    replace H := Option.bind_eq_some_iff.mp H
    obtain ⟨⟨t216, t217, t218, t219, t220, t221, t222, t223⟩, A100, H⟩ := H
    replace H : (if 2 < (((rd_T31 l0 0).f1).length : Int) then ((spec_hundredth.f (rd ((rd_T31 l0 0).f1) 2)).bind fun t227 => ((spec_floatNode.f (⟨#[76, 111, 97, 100, 49, 53]⟩ : ByteArray) t227).bind fun bt228 => ((spec_recordNode.f (⟨#[]⟩ : ByteArray) (([(⟨t204, t205, t206, t207, t208, t209, t210, t211⟩ : S39), (⟨t216, t217, t218, t219, t220, t221, t222, t223⟩ : S39), (⟨bt228.1, bt228.2.1, bt228.2.2.1, bt228.2.2.2.1, bt228.2.2.2.2.1, bt228.2.2.2.2.2.1, bt228.2.2.2.2.2.2.1, bt228.2.2.2.2.2.2.2⟩ : S39)] : List (S39)))).bind fun bt241 => (some (bt241.1, bt241.2.1, bt241.2.2.1, bt241.2.2.2.1, bt241.2.2.2.2.1, bt241.2.2.2.2.2.1, bt241.2.2.2.2.2.2.1, bt241.2.2.2.2.2.2.2, 1))))) else (none)) = some (r1, r2, r3, r4, r5, r6, r7, r8, r9) := H
    have A10 := Aside0.mk A100
    clear A100
    replace H := guard_inv H
    obtain ⟨c11, H⟩ := H
    have c11b0 : decide (2 < (((rd_T31 l0 0).f1).length : Int)) = true := decide_eq_true c11
    have c11b1 : decide (2 < ((rd_T31 l0 0).f1).length) = true := decide_eq_true (by omega)
    clear c11
    replace H := Option.bind_eq_some_iff.mp H
    obtain ⟨t227, A120, H⟩ := H
    try dsimp -simprocs only at H
    have A12 := Aside0.mk A120
    clear A120
    replace H := Option.bind_eq_some_iff.mp H
    obtain ⟨⟨t228, t229, t230, t231, t232, t233, t234, t235⟩, A130, H⟩ := H
    replace H : ((spec_recordNode.f (⟨#[]⟩ : ByteArray) (([(⟨t204, t205, t206, t207, t208, t209, t210, t211⟩ : S39), (⟨t216, t217, t218, t219, t220, t221, t222, t223⟩ : S39), (⟨t228, t229, t230, t231, t232, t233, t234, t235⟩ : S39)] : List (S39)))).bind fun bt241 => (some (bt241.1, bt241.2.1, bt241.2.2.1, bt241.2.2.2.1, bt241.2.2.2.2.1, bt241.2.2.2.2.2.1, bt241.2.2.2.2.2.2.1, bt241.2.2.2.2.2.2.2, 1))) = some (r1, r2, r3, r4, r5, r6, r7, r8, r9) := H
    have A13 := Aside0.mk A130
    clear A130
    obtain ⟨y238, hy238⟩ : ∃ y_ : List (S39), y_ = (([(⟨t204, t205, t206, t207, t208, t209, t210, t211⟩ : S39), (⟨t216, t217, t218, t219, t220, t221, t222, t223⟩ : S39), (⟨t228, t229, t230, t231, t232, t233, t234, t235⟩ : S39)] : List (S39))) := ⟨_, rfl⟩
    replace H : ((spec_recordNode.f (⟨#[]⟩ : ByteArray) y238).bind fun bt241 => (some (bt241.1, bt241.2.1, bt241.2.2.1, bt241.2.2.2.1, bt241.2.2.2.2.1, bt241.2.2.2.2.2.1, bt241.2.2.2.2.2.2.1, bt241.2.2.2.2.2.2.2, 1))) = some (r1, r2, r3, r4, r5, r6, r7, r8, r9) := by first | (rw [hy238]; with_reducible exact H) | (have H2_ := (Option.bind_some _ _).symm.trans H; rw [hy238]; with_reducible exact H2_) | (have H2_ := (Option.bind_some _ _).symm.trans H; with_reducible exact H2_) | with_reducible exact H | (rw [hy238]; exact H) | exact H
    have Ny238 := Aside0.mk hy238
    clear hy238
    replace H := Option.bind_eq_some_iff.mp H
    obtain ⟨⟨t241, t242, t243, t244, t245, t246, t247, t248⟩, A140, H⟩ := H
    replace H : (some (t241, t242, t243, t244, t245, t246, t247, t248, 1)) = some (r1, r2, r3, r4, r5, r6, r7, r8, r9) := H
    have A14 := Aside0.mk A140
    clear A140
    simp only [Option.some.injEq, Prod.mk.injEq] at H
    obtain ⟨rfl, rfl, rfl, rfl, rfl, rfl, rfl, rfl, rfl⟩ := H
    go_enter Tryz.func16, Tryz.ntmps16
    try go_wp2_with (first | ((with_reducible refine gate_dst (N := 2) rfl ?_); refine box_event ?hg (N := 2) ?hd (cs := #[.string (⟨#[]⟩ : ByteArray), .int .i64 0, .bool false, .int .i64 0, .int .u64 0, .float .f64 0, .string (⟨#[]⟩ : ByteArray), .slice none 0 0]) (t := 39) ?hr ?_; (case hd => rfl); (case hg => rfl); (case hr => first | (go_simp; done) | (go_simp; rfl)); intro gb198 hg w15 hbox hb; have n0_ := Aside0.mk (below_step (by repeat (first | (with_reducible first | exact HB.out | apply below_alloc | apply pw_below_drewN | apply below_drew1) | exact HB.out)) hb); have n1_ := Aside0.mk (hbox); have n2_ := Aside0.mk ((by rw [hg]; exact (below_size (by repeat (first | (with_reducible first | exact HB.out | apply below_alloc | apply pw_below_drewN | apply below_drew1) | exact HB.out))) : w.heap.size ≤ gb198)); have n3_ := Aside0.mk ((by rw [hg]; exact (below_size (by repeat (first | (with_reducible first | exact HB.out | apply below_alloc | apply pw_below_drewN | apply below_drew1) | exact HB.out))) : w.heap.size ≤ gb198)); clear HB; have HB := n0_; have BK198 := n1_; have GW198 := n2_; have GE198 := n3_; clear n0_ n1_ n2_ n3_; clear hb hbox hg) | ((with_reducible refine gate_callee (f := 15) rfl ?_); refine goesL_ (some 9) rfl rfl Tryz.func15 (by kernel_rfl) rfl #[.slice A0 l0.length c0] rfl (by (try simp only [List.map_toArray, List.map_cons, List.map_nil]); first | done | rfl | (simp only [List.length_drop, List.length_take]; rfl)) ?_; (with_reducible refine (spec_LoadavgPrint.calls k _ _ l0 t199 t200 _ ?side1 ?side2 A2.out).mono ?_); (case side1 => repeat (first | exact (Kd.C_below HR0.out HB.out) | (with_reducible refine Kd.C_alloc ?_ _) | (with_reducible refine Kd.C_drewN ?_ _) | (with_reducible refine Kd.C_drew ?_))); (case side2 => exact HC0.out); rintro e w16 ⟨rfl, hb⟩; refine ⟨_, rfl, ?_⟩; have n0_ := Aside0.mk (blk_below (g := gb198) (o := .cells #[.string (⟨#[]⟩ : ByteArray), .int .i64 0, .bool false, .int .i64 0, .int .u64 0, .float .f64 0, .string (⟨#[]⟩ : ByteArray), .slice none 0 0] 39 (0, 0)) (by (with_reducible repeat (first | refine blk_drewN ?_ _ | refine blk_drew ?_ | refine blk_alloc ?_ _)); exact BK198.out) hb); have n1_ := Aside0.mk (below_step (by repeat (first | (with_reducible first | exact HB.out | apply below_alloc | apply pw_below_drewN | apply below_drew1 | refine below_set ?_ GE198.out) | exact HB.out)) hb); clear BK198; clear HB; have BK198 := n0_; have HB := n1_; clear n0_ n1_; (try clear hb); (try clear hb2); (try clear hk); (try clear hi); have p201 : 0 ≤ (0 : Int) := (by omega); have q201 : 0 < (l0.length : Int) := of_decide_eq_true (by first | (with_reducible assumption) | assumption); obtain ⟨ad201, A201_1, c201_1, A201_2, c201_2, e201, hx201_0, hx201_1, hx201_2, hl201_1, hi201_1, hl201_2, hi201_2⟩ := at_T31 HR0.out 0 p201 q201; cases e201; have qi201 : (0 < l0.length) = True := eq_true (by omega); (try rw [show ((0 : Int)).toNat = 0 from rfl] at hx201_0); (try rw [show 0 * 3 = 0 from rfl] at hx201_0); (try rw [Addr.add_zero'] at hx201_0); (try rw [show ((0 : Int)).toNat = 0 from rfl] at hx201_1); (try rw [show 0 * 3 = 0 from rfl] at hx201_1); (try rw [Addr.add_zero'] at hx201_1); (try rw [show ((0 : Int)).toNat = 0 from rfl] at hx201_2); (try rw [show 0 * 3 = 0 from rfl] at hx201_2); (try rw [Addr.add_zero'] at hx201_2); replace hx201_0 := (HB.out.cell (World.block_lt_of_cell? w _ hx201_0)).trans hx201_0; replace hx201_1 := (HB.out.cell (World.block_lt_of_cell? w _ hx201_1)).trans hx201_1; replace hx201_2 := (HB.out.cell (World.block_lt_of_cell? w _ hx201_2)).trans hx201_2; have HR201_1 := Aside0.mk hi201_1; have HC201_1 := Aside0.mk hl201_1; clear hi201_1 hl201_1; have HR201_2 := Aside0.mk hi201_2; have HC201_2 := Aside0.mk hl201_2; clear hi201_2 hl201_2; replace p201 := eq_true p201; replace q201 := eq_true q201))
    have n0_ := Aside0.mk (blk_drew BK198.out)
    have n1_ := Aside0.mk (below_drew1 HB.out)
    clear BK198
    clear HB
    have BK198 := n0_
    have HB := n1_
    clear n0_ n1_
    have p202 : 0 ≤ (0 : Int) := (by omega)
    have q202 : 0 < (((rd_T31 l0 0).f1).length : Int) := of_decide_eq_true (by first | (with_reducible assumption) | assumption)
    obtain ⟨ad202, e202, hx202_0⟩ := Kd.at_int HR201_1.out 0 p202 q202
    have hw202_0 := hx202_0
    (try rw [show ((0 : Int)).toNat = 0 from rfl] at hw202_0)
    (try rw [show 0 * 1 = 0 from rfl] at hw202_0)
    (try rw [Addr.add_zero'] at hw202_0)
    cases e202
    have qi202 : (0 < ((rd_T31 l0 0).f1).length) = True := eq_true (by omega)
    (try rw [show ((0 : Int)).toNat = 0 from rfl] at hx202_0)
    (try rw [Addr.add_zero'] at hx202_0)
    replace hx202_0 := (HB.out.cell (World.block_lt_of_cell? w _ hx202_0)).trans hx202_0
    replace p202 := eq_true p202
    replace q202 := eq_true q202
    have p214 : 0 ≤ (1 : Int) := (by omega)
    have q214 : 1 < (((rd_T31 l0 0).f1).length : Int) := of_decide_eq_true (by first | (with_reducible assumption) | assumption)
    obtain ⟨ad214, e214, hx214_0⟩ := Kd.at_int HR201_1.out 1 p214 q214
    have hw214_0 := hx214_0
    (try rw [show ((1 : Int)).toNat = 1 from rfl] at hw214_0)
    (try rw [show 1 * 1 = 1 from rfl] at hw214_0)
    (try simp only [Nat.reduceMul, Nat.reduceEqDiff, Go.Addr.add, ↓reduceIte] at hw214_0)
    obtain rfl : ad202 = ad214 := (by injection e214)
    (try simp only [show (1 : Int).toNat = 1 from rfl, Nat.reduceMul, Nat.reduceEqDiff, Go.Addr.add, ↓reduceIte] at hx214_0)
    have qi214 : (1 < ((rd_T31 l0 0).f1).length) = True := eq_true (by omega)
    (try rw [show ((1 : Int)).toNat = 1 from rfl] at hx214_0)
    replace hx214_0 := (HB.out.cell (World.block_lt_of_cell? w _ hx214_0)).trans hx214_0
    replace p214 := eq_true p214
    replace q214 := eq_true q214
    have p226 : 0 ≤ (2 : Int) := (by omega)
    have q226 : 2 < (((rd_T31 l0 0).f1).length : Int) := of_decide_eq_true (by first | (with_reducible assumption) | assumption)
    obtain ⟨ad226, e226, hx226_0⟩ := Kd.at_int HR201_1.out 2 p226 q226
    have hw226_0 := hx226_0
    (try rw [show ((2 : Int)).toNat = 2 from rfl] at hw226_0)
    (try rw [show 2 * 1 = 2 from rfl] at hw226_0)
    (try simp only [Nat.reduceMul, Nat.reduceEqDiff, Go.Addr.add, ↓reduceIte] at hw226_0)
    obtain rfl : ad202 = ad226 := (by injection e226)
    (try simp only [show (2 : Int).toNat = 2 from rfl, Nat.reduceMul, Nat.reduceEqDiff, Go.Addr.add, ↓reduceIte] at hx226_0)
    have qi226 : (2 < ((rd_T31 l0 0).f1).length) = True := eq_true (by omega)
    (try rw [show ((2 : Int)).toNat = 2 from rfl] at hx226_0)
    replace hx226_0 := (HB.out.cell (World.block_lt_of_cell? w _ hx226_0)).trans hx226_0
    replace p226 := eq_true p226
    replace q226 := eq_true q226
    refine start_ (n := 19) (S := fun w' => w'.cell? ad202 = some (.int .u64 (rd ((rd_T31 l0 0).f1) 0)) ∧ w'.cell? ⟨ad202.block, ad202.off + 1, none⟩ = some (.int .u64 (rd ((rd_T31 l0 0).f1) 1)) ∧ w'.cell? ⟨ad202.block, ad202.off + 2, none⟩ = some (.int .u64 (rd ((rd_T31 l0 0).f1) 2))) (ds := []) #[false, false, false, false, false, false, false, false, false, false, false, false, false, false, false, false, false, false, false] (by kernel_rfl) rfl rfl ⟨((HB.out.cell (World.block_lt_of_cell? w _ hw202_0)).trans hw202_0), ((HB.out.cell (World.block_lt_of_cell? w _ hw214_0)).trans hw214_0), ((HB.out.cell (World.block_lt_of_cell? w _ hw226_0)).trans hw226_0)⟩ (fun hHeld => ?_); refine with_tabW spec_LoadavgTree.tab5 spec_LoadavgTree.bits5 (fun HT_ HW_ => ?_)
    generalize w16.drew = w17 at BK198 HB hx202_0 hx214_0 hx226_0 hHeld ⊢
    refine pure_ (i := 0) (N := some 19) (v := ?_) (a' := ?_) #[true, false, false, false, false, false, false, false, false, false, false, false, false, false, false, false, false, false, false] rfl rfl (any_of HT_.out (by kernel_rfl)) (fun _ _ _ h => h) (Or.inl ⟨by rfl, ?_⟩) ?_ ?_
    rotate_left
    · intro w'
      go_simp
      with_reducible rfl
    rotate_left
    · simp only [Act.put, List.setIfInBounds_toArray, List.set_cons_zero, List.set_cons_succ, i64_w, i32_w]
      rfl
    refine pure_ (i := 1) (N := some 20) (v := ?_) (a' := ?_) #[true, true, false, false, false, false, false, false, false, false, false, false, false, false, false, false, false, false, false] rfl rfl (any_of HT_.out (by kernel_rfl)) (fun _ _ _ h => h) (Or.inl ⟨by rfl, ?_⟩) ?_ ?_
    rotate_left
    · intro w'
      go_simp
      with_reducible rfl
    rotate_left
    · simp only [Act.put, List.setIfInBounds_toArray, List.set_cons_zero, List.set_cons_succ, i64_w, i32_w]
      rfl
    refine pure_ (i := 5) (N := some 24) (v := ?_) (a' := ?_) #[true, true, false, false, false, true, false, false, false, false, false, false, false, false, false, false, false, false, false] rfl rfl (any_of HT_.out (by kernel_rfl)) (fun _ _ _ h => h) (Or.inl ⟨by rfl, ?_⟩) ?_ ?_
    rotate_left
    · intro w'
      go_simp
      with_reducible rfl
    rotate_left
    · simp only [Act.put, List.setIfInBounds_toArray, List.set_cons_zero, List.set_cons_succ, i64_w, i32_w]
      rfl
    refine pure_ (i := 6) (N := some 25) (v := ?_) (a' := ?_) #[true, true, false, false, false, true, true, false, false, false, false, false, false, false, false, false, false, false, false] rfl rfl (any_of HT_.out (by kernel_rfl)) (fun _ _ _ h => h) (Or.inl ⟨by rfl, ?_⟩) ?_ ?_
    rotate_left
    · intro w'
      go_simp
      with_reducible rfl
    rotate_left
    · simp only [Act.put, List.setIfInBounds_toArray, List.set_cons_zero, List.set_cons_succ, i64_w, i32_w]
      rfl
    refine pure_ (i := 10) (N := some 29) (v := ?_) (a' := ?_) #[true, true, false, false, false, true, true, false, false, false, true, false, false, false, false, false, false, false, false] rfl rfl (any_of HT_.out (by kernel_rfl)) (fun _ _ _ h => h) (Or.inl ⟨by rfl, ?_⟩) ?_ ?_
    rotate_left
    · intro w'
      go_simp
      with_reducible rfl
    rotate_left
    · simp only [Act.put, List.setIfInBounds_toArray, List.set_cons_zero, List.set_cons_succ, i64_w, i32_w]
      rfl
    refine pure_ (i := 11) (N := some 30) (v := ?_) (a' := ?_) #[true, true, false, false, false, true, true, false, false, false, true, true, false, false, false, false, false, false, false] rfl rfl (any_of HT_.out (by kernel_rfl)) (fun _ _ _ h => h) (Or.inl ⟨by rfl, ?_⟩) ?_ ?_
    rotate_left
    · intro w'
      go_simp
      with_reducible rfl
    rotate_left
    · simp only [Act.put, List.setIfInBounds_toArray, List.set_cons_zero, List.set_cons_succ, i64_w, i32_w]
      rfl
    refine take_ (i := 2) (N := some 21) (v := ?_) (a' := ?_) #[true, true, true, false, false, true, true, false, false, false, true, true, false, false, false, false, false, false, false] rfl rfl (take_ofW HT_.out HW_.out (by kernel_rfl)) (fun _ _ _ h => h) (Or.inl ⟨by rfl, ?_⟩) hHeld ?_ ?_
    rotate_left
    · rintro w' ⟨s0, s1, s2⟩
      go_simp
      with_reducible rfl
    rotate_left
    · simp only [Act.put, List.setIfInBounds_toArray, List.set_cons_zero, List.set_cons_succ, i64_w, i32_w]
      rfl
    refine take_ (i := 7) (N := some 26) (v := ?_) (a' := ?_) #[true, true, true, false, false, true, true, true, false, false, true, true, false, false, false, false, false, false, false] rfl rfl (take_ofW HT_.out HW_.out (by kernel_rfl)) (fun _ _ _ h => h) (Or.inl ⟨by rfl, ?_⟩) hHeld ?_ ?_
    rotate_left
    · rintro w' ⟨s0, s1, s2⟩
      go_simp
      with_reducible rfl
    rotate_left
    · simp only [Act.put, List.setIfInBounds_toArray, List.set_cons_zero, List.set_cons_succ, i64_w, i32_w]
      rfl
    refine take_ (i := 12) (N := some 31) (v := ?_) (a' := ?_) #[true, true, true, false, false, true, true, true, false, false, true, true, true, false, false, false, false, false, false] rfl rfl (take_ofW HT_.out HW_.out (by kernel_rfl)) (fun _ _ _ h => h) (Or.inl ⟨by rfl, ?_⟩) hHeld ?_ ?_
    rotate_left
    · rintro w' ⟨s0, s1, s2⟩
      go_simp
      with_reducible rfl
    rotate_left
    · simp only [Act.put, List.setIfInBounds_toArray, List.set_cons_zero, List.set_cons_succ, i64_w, i32_w]
      rfl
    refine one_ (i := 3) (N := some 22) #[true, true, true, true, false, true, true, true, false, false, true, true, true, false, false, false, false, false, false] rfl rfl (one_of HT_.out (by kernel_rfl)) (by decide) (fun K hK => ?_)
    refine goes_ Tryz.func55 (by kernel_rfl) rfl #[.int .u64 (rd ((rd_T31 l0 0).f1) 0)] (by rfl) rfl rfl (by (try simp only [List.map_toArray, List.map_cons, List.map_nil]); first | done | rfl | (simp only [List.length_drop, List.length_take]; rfl)) ?_
    with_reducible refine (spec_hundredth.calls (rd ((rd_T31 l0 0).f1) 0) t203 _ A6.out).mono ?_
    rintro e w' ⟨rfl, ⟨nd, rfl⟩⟩
    refine ⟨_, rfl, ?_⟩
    refine hK.out _ _ ⟨((HB.out.cell (World.block_lt_of_cell? w _ hw202_0)).trans hw202_0), ((HB.out.cell (World.block_lt_of_cell? w _ hw214_0)).trans hw214_0), ((HB.out.cell (World.block_lt_of_cell? w _ hw226_0)).trans hw226_0)⟩ (fun hHeld => ?_)
    clear hK K
    refine norm_ (a' := ?_) ?_ ?_
    rotate_left
    · show Act.put _ (some 22) _ = _
      simp only [Act.put, List.setIfInBounds_toArray, List.set_cons_zero, List.set_cons_succ, i64_w, i32_w]
      rfl
    refine one_ (i := 4) (N := some 23) #[true, true, true, true, true, true, true, true, false, false, true, true, true, false, false, false, false, false, false] rfl rfl (one_of HT_.out (by kernel_rfl)) (by decide) (fun K hK => ?_)
    refine goes_ Tryz.func54 (by kernel_rfl) rfl #[.string (⟨#[76, 111, 97, 100, 49]⟩ : ByteArray), .float .f64 t203] (by rfl) rfl rfl (by (try simp only [List.map_toArray, List.map_cons, List.map_nil]); first | done | rfl | (simp only [List.length_drop, List.length_take]; rfl)) ?_
    with_reducible refine (spec_floatNode.calls (⟨#[76, 111, 97, 100, 49]⟩ : ByteArray) t203 t204 t205 t206 t207 t208 t209 t210 t211 _ A7.out).mono ?_
    rintro e w18 ⟨v212, rfl, ho0, hb⟩
    refine ⟨_, rfl, ?_⟩
    have n0_ := Aside0.mk (Kd.N_lower (Kd.N_mono (ok' := fun k_ => (w.heap.size ≤ k_) ∧ k_ ≠ gb198) (Kd.R_N (Kd.R_bound ho0)) (fun k_ hk_ => ⟨(Nat.le_trans (below_size (by repeat (first | (with_reducible first | exact HB.out | apply below_alloc | apply pw_below_drewN | apply below_drew1 | refine below_set ?_ GE198.out) | exact HB.out))) hk_.2.1), (Kd.freshB (g := gb198) (o := .cells #[.string (⟨#[]⟩ : ByteArray), .int .i64 0, .bool false, .int .i64 0, .int .u64 0, .float .f64 0, .string (⟨#[]⟩ : ByteArray), .slice none 0 0] 39 (0, 0)) (by (with_reducible repeat (first | refine blk_drewN ?_ _ | refine blk_drew ?_ | refine blk_alloc ?_ _)); exact BK198.out) k_ hk_.2.1)⟩)) (below_size (by repeat (first | (with_reducible first | exact HB.out | apply below_alloc | apply pw_below_drewN | apply below_drew1 | refine below_set ?_ GE198.out) | exact HB.out))))
    have n1_ := Aside0.mk (blk_below (g := gb198) (o := .cells #[.string (⟨#[]⟩ : ByteArray), .int .i64 0, .bool false, .int .i64 0, .int .u64 0, .float .f64 0, .string (⟨#[]⟩ : ByteArray), .slice none 0 0] 39 (0, 0)) (by (with_reducible repeat (first | refine blk_drewN ?_ _ | refine blk_drew ?_ | refine blk_alloc ?_ _)); exact BK198.out) hb)
    have n2_ := Aside0.mk (below_step (by repeat (first | (with_reducible first | exact HB.out | apply below_alloc | apply pw_below_drewN | apply below_drew1 | refine below_set ?_ GE198.out) | exact HB.out)) hb)
    clear BK198
    clear HB
    have HO213 := n0_
    have BK198 := n1_
    have HB := n2_
    clear n0_ n1_ n2_
    (try clear hb)
    (try clear hb2)
    (try clear hk)
    (try clear hi)
    (try clear ho0)
    refine hK.out _ _ ⟨((HB.out.cell (World.block_lt_of_cell? w _ hw202_0)).trans hw202_0), ((HB.out.cell (World.block_lt_of_cell? w _ hw214_0)).trans hw214_0), ((HB.out.cell (World.block_lt_of_cell? w _ hw226_0)).trans hw226_0)⟩ (fun hHeld => ?_)
    clear hK K
    refine norm_ (a' := ?_) ?_ ?_
    rotate_left
    · show Act.put _ (some 23) _ = _
      simp only [Act.put, List.setIfInBounds_toArray, List.set_cons_zero, List.set_cons_succ, i64_w, i32_w]
      rfl
    refine one_ (i := 8) (N := some 27) #[true, true, true, true, true, true, true, true, true, false, true, true, true, false, false, false, false, false, false] rfl rfl (one_of HT_.out (by kernel_rfl)) (by decide) (fun K hK => ?_)
    refine goes_ Tryz.func55 (by kernel_rfl) rfl #[.int .u64 (rd ((rd_T31 l0 0).f1) 1)] (by rfl) rfl rfl (by (try simp only [List.map_toArray, List.map_cons, List.map_nil]); first | done | rfl | (simp only [List.length_drop, List.length_take]; rfl)) ?_
    with_reducible refine (spec_hundredth.calls (rd ((rd_T31 l0 0).f1) 1) t215 _ A9.out).mono ?_
    rintro e w' ⟨rfl, ⟨nd, rfl⟩⟩
    refine ⟨_, rfl, ?_⟩
    refine hK.out _ _ ⟨((HB.out.cell (World.block_lt_of_cell? w _ hw202_0)).trans hw202_0), ((HB.out.cell (World.block_lt_of_cell? w _ hw214_0)).trans hw214_0), ((HB.out.cell (World.block_lt_of_cell? w _ hw226_0)).trans hw226_0)⟩ (fun hHeld => ?_)
    clear hK K
    refine norm_ (a' := ?_) ?_ ?_
    rotate_left
    · show Act.put _ (some 27) _ = _
      simp only [Act.put, List.setIfInBounds_toArray, List.set_cons_zero, List.set_cons_succ, i64_w, i32_w]
      rfl
    refine one_ (i := 9) (N := some 28) #[true, true, true, true, true, true, true, true, true, true, true, true, true, false, false, false, false, false, false] rfl rfl (one_of HT_.out (by kernel_rfl)) (by decide) (fun K hK => ?_)
    refine goes_ Tryz.func54 (by kernel_rfl) rfl #[.string (⟨#[76, 111, 97, 100, 53]⟩ : ByteArray), .float .f64 t215] (by rfl) rfl rfl (by (try simp only [List.map_toArray, List.map_cons, List.map_nil]); first | done | rfl | (simp only [List.length_drop, List.length_take]; rfl)) ?_
    with_reducible refine (spec_floatNode.calls (⟨#[76, 111, 97, 100, 53]⟩ : ByteArray) t215 t216 t217 t218 t219 t220 t221 t222 t223 _ A10.out).mono ?_
    rintro e w19 ⟨v224, rfl, ho0, hb⟩
    refine ⟨_, rfl, ?_⟩
    have n0_ := Aside0.mk (Kd.N_elder' (by (with_reducible repeat (first | apply Kd.N_alloc | apply Kd.N_drewN | apply Kd.N_drew)); exact HO213.out) (by first | exact Kd.N_base ho0 | exact Kd.R_base ho0) hb)
    have n1_ := Aside0.mk (Kd.N_lower (Kd.N_mono (ok' := fun k_ => (w.heap.size ≤ k_) ∧ some k_ ≠ (v212 : Value).ownBlock ∧ k_ ≠ gb198) (Kd.R_N (Kd.R_bound ho0)) (fun k_ hk_ => ⟨(Nat.le_trans (below_size (by repeat (first | (with_reducible first | exact HB.out | apply below_alloc | apply pw_below_drewN | apply below_drew1 | refine below_set ?_ GE198.out) | exact HB.out))) hk_.2.1), (Kd.fresh' (Kd.N_lt (by (with_reducible repeat (first | apply Kd.N_alloc | apply Kd.N_drewN | apply Kd.N_drew)); exact HO213.out)) k_ hk_.2.1), (Kd.freshB (g := gb198) (o := .cells #[.string (⟨#[]⟩ : ByteArray), .int .i64 0, .bool false, .int .i64 0, .int .u64 0, .float .f64 0, .string (⟨#[]⟩ : ByteArray), .slice none 0 0] 39 (0, 0)) (by (with_reducible repeat (first | refine blk_drewN ?_ _ | refine blk_drew ?_ | refine blk_alloc ?_ _)); exact BK198.out) k_ hk_.2.1)⟩)) (below_size (by repeat (first | (with_reducible first | exact HB.out | apply below_alloc | apply pw_below_drewN | apply below_drew1 | refine below_set ?_ GE198.out) | exact HB.out))))
    have n2_ := Aside0.mk (blk_below (g := gb198) (o := .cells #[.string (⟨#[]⟩ : ByteArray), .int .i64 0, .bool false, .int .i64 0, .int .u64 0, .float .f64 0, .string (⟨#[]⟩ : ByteArray), .slice none 0 0] 39 (0, 0)) (by (with_reducible repeat (first | refine blk_drewN ?_ _ | refine blk_drew ?_ | refine blk_alloc ?_ _)); exact BK198.out) hb)
    have n3_ := Aside0.mk (below_step (by repeat (first | (with_reducible first | exact HB.out | apply below_alloc | apply pw_below_drewN | apply below_drew1 | refine below_set ?_ GE198.out) | exact HB.out)) hb)
    clear HO213
    clear BK198
    clear HB
    have HO213 := n0_
    have HO225 := n1_
    have BK198 := n2_
    have HB := n3_
    clear n0_ n1_ n2_ n3_
    (try clear hb)
    (try clear hb2)
    (try clear hk)
    (try clear hi)
    (try clear ho0)
    refine hK.out _ _ ⟨((HB.out.cell (World.block_lt_of_cell? w _ hw202_0)).trans hw202_0), ((HB.out.cell (World.block_lt_of_cell? w _ hw214_0)).trans hw214_0), ((HB.out.cell (World.block_lt_of_cell? w _ hw226_0)).trans hw226_0)⟩ (fun hHeld => ?_)
    clear hK K
    refine norm_ (a' := ?_) ?_ ?_
    rotate_left
    · show Act.put _ (some 28) _ = _
      simp only [Act.put, List.setIfInBounds_toArray, List.set_cons_zero, List.set_cons_succ, i64_w, i32_w]
      rfl
    refine one_ (i := 13) (N := some 32) #[true, true, true, true, true, true, true, true, true, true, true, true, true, true, false, false, false, false, false] rfl rfl (one_of HT_.out (by kernel_rfl)) (by decide) (fun K hK => ?_)
    refine goes_ Tryz.func55 (by kernel_rfl) rfl #[.int .u64 (rd ((rd_T31 l0 0).f1) 2)] (by rfl) rfl rfl (by (try simp only [List.map_toArray, List.map_cons, List.map_nil]); first | done | rfl | (simp only [List.length_drop, List.length_take]; rfl)) ?_
    with_reducible refine (spec_hundredth.calls (rd ((rd_T31 l0 0).f1) 2) t227 _ A12.out).mono ?_
    rintro e w' ⟨rfl, ⟨nd, rfl⟩⟩
    refine ⟨_, rfl, ?_⟩
    refine hK.out _ _ ⟨((HB.out.cell (World.block_lt_of_cell? w _ hw202_0)).trans hw202_0), ((HB.out.cell (World.block_lt_of_cell? w _ hw214_0)).trans hw214_0), ((HB.out.cell (World.block_lt_of_cell? w _ hw226_0)).trans hw226_0)⟩ (fun hHeld => ?_)
    clear hK K
    refine norm_ (a' := ?_) ?_ ?_
    rotate_left
    · show Act.put _ (some 32) _ = _
      simp only [Act.put, List.setIfInBounds_toArray, List.set_cons_zero, List.set_cons_succ, i64_w, i32_w]
      rfl
    refine one_ (i := 14) (N := some 33) #[true, true, true, true, true, true, true, true, true, true, true, true, true, true, true, false, false, false, false] rfl rfl (one_of HT_.out (by kernel_rfl)) (by decide) (fun K hK => ?_)
    refine goes_ Tryz.func54 (by kernel_rfl) rfl #[.string (⟨#[76, 111, 97, 100, 49, 53]⟩ : ByteArray), .float .f64 t227] (by rfl) rfl rfl (by (try simp only [List.map_toArray, List.map_cons, List.map_nil]); first | done | rfl | (simp only [List.length_drop, List.length_take]; rfl)) ?_
    with_reducible refine (spec_floatNode.calls (⟨#[76, 111, 97, 100, 49, 53]⟩ : ByteArray) t227 t228 t229 t230 t231 t232 t233 t234 t235 _ A13.out).mono ?_
    rintro e w20 ⟨v236, rfl, ho0, hb⟩
    refine ⟨_, rfl, ?_⟩
    have n0_ := Aside0.mk (Kd.N_elder' (by (with_reducible repeat (first | apply Kd.N_alloc | apply Kd.N_drewN | apply Kd.N_drew)); exact HO213.out) (by first | exact Kd.N_base ho0 | exact Kd.R_base ho0) hb)
    have n1_ := Aside0.mk (Kd.N_elder' (by (with_reducible repeat (first | apply Kd.N_alloc | apply Kd.N_drewN | apply Kd.N_drew)); exact HO225.out) (by first | exact Kd.N_base ho0 | exact Kd.R_base ho0) hb)
    have n2_ := Aside0.mk (Kd.N_lower (Kd.N_mono (ok' := fun k_ => (w.heap.size ≤ k_) ∧ some k_ ≠ (v212 : Value).ownBlock ∧ some k_ ≠ (v224 : Value).ownBlock ∧ k_ ≠ gb198) (Kd.R_N (Kd.R_bound ho0)) (fun k_ hk_ => ⟨(Nat.le_trans (below_size (by repeat (first | (with_reducible first | exact HB.out | apply below_alloc | apply pw_below_drewN | apply below_drew1 | refine below_set ?_ GE198.out) | exact HB.out))) hk_.2.1), (Kd.fresh' (Kd.N_lt (by (with_reducible repeat (first | apply Kd.N_alloc | apply Kd.N_drewN | apply Kd.N_drew)); exact HO213.out)) k_ hk_.2.1), (Kd.fresh' (Kd.N_lt (by (with_reducible repeat (first | apply Kd.N_alloc | apply Kd.N_drewN | apply Kd.N_drew)); exact HO225.out)) k_ hk_.2.1), (Kd.freshB (g := gb198) (o := .cells #[.string (⟨#[]⟩ : ByteArray), .int .i64 0, .bool false, .int .i64 0, .int .u64 0, .float .f64 0, .string (⟨#[]⟩ : ByteArray), .slice none 0 0] 39 (0, 0)) (by (with_reducible repeat (first | refine blk_drewN ?_ _ | refine blk_drew ?_ | refine blk_alloc ?_ _)); exact BK198.out) k_ hk_.2.1)⟩)) (below_size (by repeat (first | (with_reducible first | exact HB.out | apply below_alloc | apply pw_below_drewN | apply below_drew1 | refine below_set ?_ GE198.out) | exact HB.out))))
    have n3_ := Aside0.mk (blk_below (g := gb198) (o := .cells #[.string (⟨#[]⟩ : ByteArray), .int .i64 0, .bool false, .int .i64 0, .int .u64 0, .float .f64 0, .string (⟨#[]⟩ : ByteArray), .slice none 0 0] 39 (0, 0)) (by (with_reducible repeat (first | refine blk_drewN ?_ _ | refine blk_drew ?_ | refine blk_alloc ?_ _)); exact BK198.out) hb)
    have n4_ := Aside0.mk (below_step (by repeat (first | (with_reducible first | exact HB.out | apply below_alloc | apply pw_below_drewN | apply below_drew1 | refine below_set ?_ GE198.out) | exact HB.out)) hb)
    clear HO213
    clear HO225
    clear BK198
    clear HB
    have HO213 := n0_
    have HO225 := n1_
    have HO237 := n2_
    have BK198 := n3_
    have HB := n4_
    clear n0_ n1_ n2_ n3_ n4_
    (try clear hb)
    (try clear hb2)
    (try clear hk)
    (try clear hi)
    (try clear ho0)
    obtain ⟨Ao21, co21, eo21⟩ := Kd.N_slice HO213.out
    (first | subst eo21 | (injection eo21 with f1_ f2_ f3_; have f4_ := f1_.symm; have f5_ := f3_.symm; clear f1_ f2_ f3_; subst f4_; subst f5_))
    obtain ⟨Ao22, co22, eo22⟩ := Kd.N_slice HO225.out
    (first | subst eo22 | (injection eo22 with f1_ f2_ f3_; have f4_ := f1_.symm; have f5_ := f3_.symm; clear f1_ f2_ f3_; subst f4_; subst f5_))
    obtain ⟨Ao23, co23, eo23⟩ := Kd.N_slice HO237.out
    (first | subst eo23 | (injection eo23 with f1_ f2_ f3_; have f4_ := f1_.symm; have f5_ := f3_.symm; clear f1_ f2_ f3_; subst f4_; subst f5_))
    refine hK.out _ _ ⟨((HB.out.cell (World.block_lt_of_cell? w _ hw202_0)).trans hw202_0), ((HB.out.cell (World.block_lt_of_cell? w _ hw214_0)).trans hw214_0), ((HB.out.cell (World.block_lt_of_cell? w _ hw226_0)).trans hw226_0)⟩ (fun hHeld => ?_)
    clear hK K
    refine norm_ (a' := ?_) ?_ ?_
    rotate_left
    · show Act.put _ (some 33) _ = _
      simp only [Act.put, List.setIfInBounds_toArray, List.set_cons_zero, List.set_cons_succ, i64_w, i32_w]
      rfl
    refine one_ (i := 15) (N := some 34) #[true, true, true, true, true, true, true, true, true, true, true, true, true, true, true, true, false, false, false] rfl rfl (one_of HT_.out (by kernel_rfl)) (by decide) (fun K hK => ?_)
    refine Kd.N_lit_step k39 _ 39 ?hg (N' := 34) ?hd (xs := ([(⟨t204, t205, t206, t207, t208, t209, t210, t211⟩ : S39), (⟨t216, t217, t218, t219, t220, t221, t222, t223⟩ : S39), (⟨t228, t229, t230, t231, t232, t233, t234, t235⟩ : S39)] : List (S39))) (inner := [.string t204, .int .i64 t205, .bool t206, .int .i64 t207, .int .u64 t208, .float .f64 t209, .string t210, .slice Ao21 t211.length co21, .string t216, .int .i64 t217, .bool t218, .int .i64 t219, .int .u64 t220, .float .f64 t221, .string t222, .slice Ao22 t223.length co22, .string t228, .int .i64 t229, .bool t230, .int .i64 t231, .int .u64 t232, .float .f64 t233, .string t234, .slice Ao23 t235.length co23]) (ok := (fun k_ => (w.heap.size ≤ k_) ∧ k_ ≠ gb198)) (okp := (fun k_ => (w.heap.size ≤ k_) ∧ k_ ≠ gb198)) ?hr ?hp (fun _ hk => hk) ((show ∀ k_, w20.heap.size ≤ k_ → (fun k_ => (w.heap.size ≤ k_) ∧ k_ ≠ gb198) k_ from fun k_ hk => ⟨(Nat.le_trans (below_size (by repeat (first | (with_reducible first | exact HB.out | apply below_alloc | apply pw_below_drewN | apply below_drew1 | refine below_set ?_ GE198.out) | exact HB.out))) hk), Kd.freshB (g := gb198) (o := .cells #[.string (⟨#[]⟩ : ByteArray), .int .i64 0, .bool false, .int .i64 0, .int .u64 0, .float .f64 0, .string (⟨#[]⟩ : ByteArray), .slice none 0 0] 39 (0, 0)) (by (with_reducible repeat (first | refine blk_drewN ?_ _ | refine blk_drew ?_ | refine blk_alloc ?_ _)); exact BK198.out) k_ hk⟩) _ (Nat.le_refl _)) (Below.refl _ _) (Nat.le_refl _) (by simp) ?_; (case hd => rfl); (case hg => rfl); (case hr => first | (go_simp; done) | (go_simp; rfl)); (case hp => exact (Reps.c8 (show Kd.FK k39 _ _ (⟨t204, t205, t206, t207, t208, t209, t210, t211⟩ : S39) [.string t204, .int .i64 t205, .bool t206, .int .i64 t207, .int .u64 t208, .float .f64 t209, .string t210, .slice Ao21 t211.length co21] from (k39_mkF _ _ (⟨t204, t205, t206, t207, t208, t209, t210, t211⟩ : S39) (Kd.N_reads' (Kd.N_mono (ok' := (fun k_ => (w.heap.size ≤ k_) ∧ k_ ≠ gb198)) (HO213.out) (fun k_ hk => ⟨hk.1.1.1, hk.1.1.2⟩))).2.1 (Kd.N_F (Kd.N_mono (ok' := (fun k_ => (w.heap.size ≤ k_) ∧ k_ ≠ gb198)) (HO213.out) (fun k_ hk => ⟨hk.1.1.1, hk.1.1.2⟩))))) (Reps.c8 (show Kd.FK k39 _ _ (⟨t216, t217, t218, t219, t220, t221, t222, t223⟩ : S39) [.string t216, .int .i64 t217, .bool t218, .int .i64 t219, .int .u64 t220, .float .f64 t221, .string t222, .slice Ao22 t223.length co22] from (k39_mkF _ _ (⟨t216, t217, t218, t219, t220, t221, t222, t223⟩ : S39) (Kd.N_reads' (Kd.N_mono (ok' := (fun k_ => (w.heap.size ≤ k_) ∧ k_ ≠ gb198)) (HO225.out) (fun k_ hk => ⟨hk.1.1, hk.1.2.2⟩))).2.1 (Kd.N_F (Kd.N_mono (ok' := (fun k_ => (w.heap.size ≤ k_) ∧ k_ ≠ gb198)) (HO225.out) (fun k_ hk => ⟨hk.1.1, hk.1.2.2⟩))))) (Reps.c8 (show Kd.FK k39 _ _ (⟨t228, t229, t230, t231, t232, t233, t234, t235⟩ : S39) [.string t228, .int .i64 t229, .bool t230, .int .i64 t231, .int .u64 t232, .float .f64 t233, .string t234, .slice Ao23 t235.length co23] from (k39_mkF _ _ (⟨t228, t229, t230, t231, t232, t233, t234, t235⟩ : S39) (Kd.N_reads' (Kd.N_mono (ok' := (fun k_ => (w.heap.size ≤ k_) ∧ k_ ≠ gb198)) (HO237.out) (fun k_ hk => ⟨hk.1, hk.2.2.2⟩))).2.1 (Kd.N_F (Kd.N_mono (ok' := (fun k_ => (w.heap.size ≤ k_) ∧ k_ ≠ gb198)) (HO237.out) (fun k_ hk => ⟨hk.1, hk.2.2.2⟩))))) (Reps.none _ _)))))
    intro v239 w24 ho25 hb hg_ hnew_
    clear hg_ hnew_
    (first | rw [← Ny238.out] at ho25 | (simp only [Int.reduceToNat] at ho25; rw [← Ny238.out] at ho25))
    have n0_ := Aside0.mk (Kd.N_lower ho25 (below_size (by repeat (first | (with_reducible first | exact HB.out | apply below_alloc | apply pw_below_drewN | apply below_drew1 | refine below_set ?_ GE198.out) | exact HB.out))))
    have n1_ := Aside0.mk (blk_below (g := gb198) (o := .cells #[.string (⟨#[]⟩ : ByteArray), .int .i64 0, .bool false, .int .i64 0, .int .u64 0, .float .f64 0, .string (⟨#[]⟩ : ByteArray), .slice none 0 0] 39 (0, 0)) (by (with_reducible repeat (first | refine blk_drewN ?_ _ | refine blk_drew ?_ | refine blk_alloc ?_ _)); exact BK198.out) hb)
    have n2_ := Aside0.mk (below_step (by repeat (first | (with_reducible first | exact HB.out | apply below_alloc | apply pw_below_drewN | apply below_drew1 | refine below_set ?_ GE198.out) | exact HB.out)) hb)
    clear BK198
    clear HB
    clear HO213
    clear HO225
    clear HO237
    have HO240 := n0_
    have BK198 := n1_
    have HB := n2_
    clear n0_ n1_ n2_
    clear hb ho25
    obtain ⟨Ao26, co26, eo26⟩ := Kd.N_slice HO240.out
    (first | subst eo26 | (injection eo26 with f1_ f2_ f3_; have f4_ := f1_.symm; have f5_ := f3_.symm; clear f1_ f2_ f3_; subst f4_; subst f5_))
    refine hK.out _ _ ⟨((HB.out.cell (World.block_lt_of_cell? w _ hw202_0)).trans hw202_0), ((HB.out.cell (World.block_lt_of_cell? w _ hw214_0)).trans hw214_0), ((HB.out.cell (World.block_lt_of_cell? w _ hw226_0)).trans hw226_0)⟩ (fun hHeld => ?_)
    clear hK K
    refine norm_ (a' := ?_) ?_ ?_
    rotate_left
    · show Act.put _ (some 34) _ = _
      simp only [Act.put, List.setIfInBounds_toArray, List.set_cons_zero, List.set_cons_succ, i64_w, i32_w]
      rfl
    refine one_ (i := 16) (N := some 35) #[true, true, true, true, true, true, true, true, true, true, true, true, true, true, true, true, true, false, false] rfl rfl (one_of HT_.out (by kernel_rfl)) (by decide) (fun K hK => ?_)
    refine goes_ Tryz.func53 (by kernel_rfl) rfl #[.string (⟨#[]⟩ : ByteArray), .slice Ao26 y238.length co26] (by rfl) rfl rfl (by (try simp only [List.map_toArray, List.map_cons, List.map_nil]); first | done | rfl | (simp only [List.length_drop, List.length_take]; rfl)) ?_
    with_reducible refine (spec_recordNode.calls (⟨#[]⟩ : ByteArray) (fun k_ => ((w.heap.size ≤ k_) ∧ k_ ≠ gb198)) _ _ y238 t241 t242 t243 t244 t245 t246 t247 t248 _ ?side1 A14.out).mono ?_
    (case side1 => exact Kd.N_V (HO240.out))
    rintro e w27 ⟨v249, rfl, ho0, hb⟩
    refine ⟨_, rfl, ?_⟩
    have n0_ := Aside0.mk (Kd.N_below (by (with_reducible repeat (first | apply Kd.N_alloc | apply Kd.N_drewN | apply Kd.N_drew)); exact HO240.out) hb)
    have n1_ := Aside0.mk (Kd.V_lower (Kd.V_mono (ok' := fun k_ => (w.heap.size ≤ k_) ∧ k_ ≠ gb198) ho0 (fun k_ hk_ => ⟨Or.elim hk_ (fun hs_ => hs_.1) (fun hn_ => (Nat.le_trans (below_size (by repeat (first | (with_reducible first | exact HB.out | apply below_alloc | apply pw_below_drewN | apply below_drew1 | refine below_set ?_ GE198.out) | exact HB.out))) hn_)), Or.elim hk_ (fun hs_ => hs_.2) (fun hn_ => (Kd.freshB (g := gb198) (o := .cells #[.string (⟨#[]⟩ : ByteArray), .int .i64 0, .bool false, .int .i64 0, .int .u64 0, .float .f64 0, .string (⟨#[]⟩ : ByteArray), .slice none 0 0] 39 (0, 0)) (by (with_reducible repeat (first | refine blk_drewN ?_ _ | refine blk_drew ?_ | refine blk_alloc ?_ _)); exact BK198.out) k_ hn_))⟩)) (below_size (by repeat (first | (with_reducible first | exact HB.out | apply below_alloc | apply pw_below_drewN | apply below_drew1 | refine below_set ?_ GE198.out) | exact HB.out))))
    have n2_ := Aside0.mk (blk_below (g := gb198) (o := .cells #[.string (⟨#[]⟩ : ByteArray), .int .i64 0, .bool false, .int .i64 0, .int .u64 0, .float .f64 0, .string (⟨#[]⟩ : ByteArray), .slice none 0 0] 39 (0, 0)) (by (with_reducible repeat (first | refine blk_drewN ?_ _ | refine blk_drew ?_ | refine blk_alloc ?_ _)); exact BK198.out) hb)
    have n3_ := Aside0.mk (below_step (by repeat (first | (with_reducible first | exact HB.out | apply below_alloc | apply pw_below_drewN | apply below_drew1 | refine below_set ?_ GE198.out) | exact HB.out)) hb)
    clear HO240
    clear BK198
    clear HB
    have HO240 := n0_
    have HO250 := n1_
    have BK198 := n2_
    have HB := n3_
    clear n0_ n1_ n2_ n3_
    (try clear hb)
    (try clear hb2)
    (try clear hk)
    (try clear hi)
    (try clear ho0)
    obtain ⟨Ao35, co35, eo35⟩ := Kd.V_slice HO250.out
    (first | subst eo35 | (injection eo35 with f1_ f2_ f3_; have f4_ := f1_.symm; have f5_ := f3_.symm; clear f1_ f2_ f3_; subst f4_; subst f5_))
    refine hK.out _ _ ⟨((HB.out.cell (World.block_lt_of_cell? w _ hw202_0)).trans hw202_0), ((HB.out.cell (World.block_lt_of_cell? w _ hw214_0)).trans hw214_0), ((HB.out.cell (World.block_lt_of_cell? w _ hw226_0)).trans hw226_0)⟩ (fun hHeld => ?_)
    clear hK K
    refine norm_ (a' := ?_) ?_ ?_
    rotate_left
    · show Act.put _ (some 35) _ = _
      simp only [Act.put, List.setIfInBounds_toArray, List.set_cons_zero, List.set_cons_succ, i64_w, i32_w]
      rfl
    refine one_ (i := 17) (N := none) #[true, true, true, true, true, true, true, true, true, true, true, true, true, true, true, true, true, true, false] rfl rfl (one_of HT_.out (by kernel_rfl)) (by decide) (fun K hK => ?_)
    have hs28 : w27.cell? ⟨gb198, 0, none⟩ = some (.string (⟨#[]⟩ : ByteArray)) := (blk_cell BK198.out 0).trans rfl
    have hfs28 := blk_frozen BK198.out 0
    have hs29 : w27.cell? ⟨gb198, 1, none⟩ = some (.int .i64 0) := (blk_cell BK198.out 1).trans rfl
    have hfs29 := blk_frozen BK198.out 1
    have hs30 : w27.cell? ⟨gb198, 2, none⟩ = some (.bool false) := (blk_cell BK198.out 2).trans rfl
    have hfs30 := blk_frozen BK198.out 2
    have hs31 : w27.cell? ⟨gb198, 3, none⟩ = some (.int .i64 0) := (blk_cell BK198.out 3).trans rfl
    have hfs31 := blk_frozen BK198.out 3
    have hs32 : w27.cell? ⟨gb198, 4, none⟩ = some (.int .u64 0) := (blk_cell BK198.out 4).trans rfl
    have hfs32 := blk_frozen BK198.out 4
    have hs33 : w27.cell? ⟨gb198, 5, none⟩ = some (.float .f64 0) := (blk_cell BK198.out 5).trans rfl
    have hfs33 := blk_frozen BK198.out 5
    have hs34 : w27.cell? ⟨gb198, 6, none⟩ = some (.string (⟨#[]⟩ : ByteArray)) := (blk_cell BK198.out 6).trans rfl
    have hfs34 := blk_frozen BK198.out 6
    have hs36 : w27.cell? ⟨gb198, 7, none⟩ = some (.slice none 0 0) := (blk_cell BK198.out 7).trans rfl
    have hfs36 := blk_frozen BK198.out 7
    refine skip_ (w1 := ?_) (by rfl) rfl ?_ ?_
    rotate_left
    · go_simp
      rfl
    refine hK.out _ _ ⟨((cell_far (p := ⟨gb198, _, none⟩) (by first | exact Nat.ne_of_lt (Nat.lt_of_lt_of_le (by have := World.block_lt_of_cell? _ _ hw202_0; first | rwa [add_block] at this | exact this) GW198.out) | (rw [add_block]; exact Nat.ne_of_lt (Nat.lt_of_lt_of_le (by have := World.block_lt_of_cell? _ _ hw202_0; first | rwa [add_block] at this | exact this) GW198.out)) | (show (Addr.add _ _).block ≠ _; rw [add_block]; exact Nat.ne_of_lt (Nat.lt_of_lt_of_le (by have := World.block_lt_of_cell? _ _ hw202_0; first | rwa [add_block] at this | exact this) GW198.out)) | (dsimp only; exact Nat.ne_of_lt (Nat.lt_of_lt_of_le (by have := World.block_lt_of_cell? _ _ hw202_0; first | rwa [add_block] at this | exact this) GW198.out))) _).trans (((cell_far (p := ⟨gb198, _, none⟩) (by first | exact Nat.ne_of_lt (Nat.lt_of_lt_of_le (by have := World.block_lt_of_cell? _ _ hw202_0; first | rwa [add_block] at this | exact this) GW198.out) | (rw [add_block]; exact Nat.ne_of_lt (Nat.lt_of_lt_of_le (by have := World.block_lt_of_cell? _ _ hw202_0; first | rwa [add_block] at this | exact this) GW198.out)) | (show (Addr.add _ _).block ≠ _; rw [add_block]; exact Nat.ne_of_lt (Nat.lt_of_lt_of_le (by have := World.block_lt_of_cell? _ _ hw202_0; first | rwa [add_block] at this | exact this) GW198.out)) | (dsimp only; exact Nat.ne_of_lt (Nat.lt_of_lt_of_le (by have := World.block_lt_of_cell? _ _ hw202_0; first | rwa [add_block] at this | exact this) GW198.out))) _).trans (((cell_far (p := ⟨gb198, _, none⟩) (by first | exact Nat.ne_of_lt (Nat.lt_of_lt_of_le (by have := World.block_lt_of_cell? _ _ hw202_0; first | rwa [add_block] at this | exact this) GW198.out) | (rw [add_block]; exact Nat.ne_of_lt (Nat.lt_of_lt_of_le (by have := World.block_lt_of_cell? _ _ hw202_0; first | rwa [add_block] at this | exact this) GW198.out)) | (show (Addr.add _ _).block ≠ _; rw [add_block]; exact Nat.ne_of_lt (Nat.lt_of_lt_of_le (by have := World.block_lt_of_cell? _ _ hw202_0; first | rwa [add_block] at this | exact this) GW198.out)) | (dsimp only; exact Nat.ne_of_lt (Nat.lt_of_lt_of_le (by have := World.block_lt_of_cell? _ _ hw202_0; first | rwa [add_block] at this | exact this) GW198.out))) _).trans (((cell_far (p := ⟨gb198, _, none⟩) (by first | exact Nat.ne_of_lt (Nat.lt_of_lt_of_le (by have := World.block_lt_of_cell? _ _ hw202_0; first | rwa [add_block] at this | exact this) GW198.out) | (rw [add_block]; exact Nat.ne_of_lt (Nat.lt_of_lt_of_le (by have := World.block_lt_of_cell? _ _ hw202_0; first | rwa [add_block] at this | exact this) GW198.out)) | (show (Addr.add _ _).block ≠ _; rw [add_block]; exact Nat.ne_of_lt (Nat.lt_of_lt_of_le (by have := World.block_lt_of_cell? _ _ hw202_0; first | rwa [add_block] at this | exact this) GW198.out)) | (dsimp only; exact Nat.ne_of_lt (Nat.lt_of_lt_of_le (by have := World.block_lt_of_cell? _ _ hw202_0; first | rwa [add_block] at this | exact this) GW198.out))) _).trans (((cell_far (p := ⟨gb198, _, none⟩) (by first | exact Nat.ne_of_lt (Nat.lt_of_lt_of_le (by have := World.block_lt_of_cell? _ _ hw202_0; first | rwa [add_block] at this | exact this) GW198.out) | (rw [add_block]; exact Nat.ne_of_lt (Nat.lt_of_lt_of_le (by have := World.block_lt_of_cell? _ _ hw202_0; first | rwa [add_block] at this | exact this) GW198.out)) | (show (Addr.add _ _).block ≠ _; rw [add_block]; exact Nat.ne_of_lt (Nat.lt_of_lt_of_le (by have := World.block_lt_of_cell? _ _ hw202_0; first | rwa [add_block] at this | exact this) GW198.out)) | (dsimp only; exact Nat.ne_of_lt (Nat.lt_of_lt_of_le (by have := World.block_lt_of_cell? _ _ hw202_0; first | rwa [add_block] at this | exact this) GW198.out))) _).trans (((cell_far (p := ⟨gb198, _, none⟩) (by first | exact Nat.ne_of_lt (Nat.lt_of_lt_of_le (by have := World.block_lt_of_cell? _ _ hw202_0; first | rwa [add_block] at this | exact this) GW198.out) | (rw [add_block]; exact Nat.ne_of_lt (Nat.lt_of_lt_of_le (by have := World.block_lt_of_cell? _ _ hw202_0; first | rwa [add_block] at this | exact this) GW198.out)) | (show (Addr.add _ _).block ≠ _; rw [add_block]; exact Nat.ne_of_lt (Nat.lt_of_lt_of_le (by have := World.block_lt_of_cell? _ _ hw202_0; first | rwa [add_block] at this | exact this) GW198.out)) | (dsimp only; exact Nat.ne_of_lt (Nat.lt_of_lt_of_le (by have := World.block_lt_of_cell? _ _ hw202_0; first | rwa [add_block] at this | exact this) GW198.out))) _).trans (((cell_far (p := ⟨gb198, _, none⟩) (by first | exact Nat.ne_of_lt (Nat.lt_of_lt_of_le (by have := World.block_lt_of_cell? _ _ hw202_0; first | rwa [add_block] at this | exact this) GW198.out) | (rw [add_block]; exact Nat.ne_of_lt (Nat.lt_of_lt_of_le (by have := World.block_lt_of_cell? _ _ hw202_0; first | rwa [add_block] at this | exact this) GW198.out)) | (show (Addr.add _ _).block ≠ _; rw [add_block]; exact Nat.ne_of_lt (Nat.lt_of_lt_of_le (by have := World.block_lt_of_cell? _ _ hw202_0; first | rwa [add_block] at this | exact this) GW198.out)) | (dsimp only; exact Nat.ne_of_lt (Nat.lt_of_lt_of_le (by have := World.block_lt_of_cell? _ _ hw202_0; first | rwa [add_block] at this | exact this) GW198.out))) _).trans (((cell_far (p := ⟨gb198, _, none⟩) (by first | exact Nat.ne_of_lt (Nat.lt_of_lt_of_le (by have := World.block_lt_of_cell? _ _ hw202_0; first | rwa [add_block] at this | exact this) GW198.out) | (rw [add_block]; exact Nat.ne_of_lt (Nat.lt_of_lt_of_le (by have := World.block_lt_of_cell? _ _ hw202_0; first | rwa [add_block] at this | exact this) GW198.out)) | (show (Addr.add _ _).block ≠ _; rw [add_block]; exact Nat.ne_of_lt (Nat.lt_of_lt_of_le (by have := World.block_lt_of_cell? _ _ hw202_0; first | rwa [add_block] at this | exact this) GW198.out)) | (dsimp only; exact Nat.ne_of_lt (Nat.lt_of_lt_of_le (by have := World.block_lt_of_cell? _ _ hw202_0; first | rwa [add_block] at this | exact this) GW198.out))) _).trans (hHeld.1)))))))))))))))), ((cell_far (p := ⟨gb198, _, none⟩) (by first | exact Nat.ne_of_lt (Nat.lt_of_lt_of_le (by have := World.block_lt_of_cell? _ _ hw214_0; first | rwa [add_block] at this | exact this) GW198.out) | (rw [add_block]; exact Nat.ne_of_lt (Nat.lt_of_lt_of_le (by have := World.block_lt_of_cell? _ _ hw214_0; first | rwa [add_block] at this | exact this) GW198.out)) | (show (Addr.add _ _).block ≠ _; rw [add_block]; exact Nat.ne_of_lt (Nat.lt_of_lt_of_le (by have := World.block_lt_of_cell? _ _ hw214_0; first | rwa [add_block] at this | exact this) GW198.out)) | (dsimp only; exact Nat.ne_of_lt (Nat.lt_of_lt_of_le (by have := World.block_lt_of_cell? _ _ hw214_0; first | rwa [add_block] at this | exact this) GW198.out))) _).trans (((cell_far (p := ⟨gb198, _, none⟩) (by first | exact Nat.ne_of_lt (Nat.lt_of_lt_of_le (by have := World.block_lt_of_cell? _ _ hw214_0; first | rwa [add_block] at this | exact this) GW198.out) | (rw [add_block]; exact Nat.ne_of_lt (Nat.lt_of_lt_of_le (by have := World.block_lt_of_cell? _ _ hw214_0; first | rwa [add_block] at this | exact this) GW198.out)) | (show (Addr.add _ _).block ≠ _; rw [add_block]; exact Nat.ne_of_lt (Nat.lt_of_lt_of_le (by have := World.block_lt_of_cell? _ _ hw214_0; first | rwa [add_block] at this | exact this) GW198.out)) | (dsimp only; exact Nat.ne_of_lt (Nat.lt_of_lt_of_le (by have := World.block_lt_of_cell? _ _ hw214_0; first | rwa [add_block] at this | exact this) GW198.out))) _).trans (((cell_far (p := ⟨gb198, _, none⟩) (by first | exact Nat.ne_of_lt (Nat.lt_of_lt_of_le (by have := World.block_lt_of_cell? _ _ hw214_0; first | rwa [add_block] at this | exact this) GW198.out) | (rw [add_block]; exact Nat.ne_of_lt (Nat.lt_of_lt_of_le (by have := World.block_lt_of_cell? _ _ hw214_0; first | rwa [add_block] at this | exact this) GW198.out)) | (show (Addr.add _ _).block ≠ _; rw [add_block]; exact Nat.ne_of_lt (Nat.lt_of_lt_of_le (by have := World.block_lt_of_cell? _ _ hw214_0; first | rwa [add_block] at this | exact this) GW198.out)) | (dsimp only; exact Nat.ne_of_lt (Nat.lt_of_lt_of_le (by have := World.block_lt_of_cell? _ _ hw214_0; first | rwa [add_block] at this | exact this) GW198.out))) _).trans (((cell_far (p := ⟨gb198, _, none⟩) (by first | exact Nat.ne_of_lt (Nat.lt_of_lt_of_le (by have := World.block_lt_of_cell? _ _ hw214_0; first | rwa [add_block] at this | exact this) GW198.out) | (rw [add_block]; exact Nat.ne_of_lt (Nat.lt_of_lt_of_le (by have := World.block_lt_of_cell? _ _ hw214_0; first | rwa [add_block] at this | exact this) GW198.out)) | (show (Addr.add _ _).block ≠ _; rw [add_block]; exact Nat.ne_of_lt (Nat.lt_of_lt_of_le (by have := World.block_lt_of_cell? _ _ hw214_0; first | rwa [add_block] at this | exact this) GW198.out)) | (dsimp only; exact Nat.ne_of_lt (Nat.lt_of_lt_of_le (by have := World.block_lt_of_cell? _ _ hw214_0; first | rwa [add_block] at this | exact this) GW198.out))) _).trans (((cell_far (p := ⟨gb198, _, none⟩) (by first | exact Nat.ne_of_lt (Nat.lt_of_lt_of_le (by have := World.block_lt_of_cell? _ _ hw214_0; first | rwa [add_block] at this | exact this) GW198.out) | (rw [add_block]; exact Nat.ne_of_lt (Nat.lt_of_lt_of_le (by have := World.block_lt_of_cell? _ _ hw214_0; first | rwa [add_block] at this | exact this) GW198.out)) | (show (Addr.add _ _).block ≠ _; rw [add_block]; exact Nat.ne_of_lt (Nat.lt_of_lt_of_le (by have := World.block_lt_of_cell? _ _ hw214_0; first | rwa [add_block] at this | exact this) GW198.out)) | (dsimp only; exact Nat.ne_of_lt (Nat.lt_of_lt_of_le (by have := World.block_lt_of_cell? _ _ hw214_0; first | rwa [add_block] at this | exact this) GW198.out))) _).trans (((cell_far (p := ⟨gb198, _, none⟩) (by first | exact Nat.ne_of_lt (Nat.lt_of_lt_of_le (by have := World.block_lt_of_cell? _ _ hw214_0; first | rwa [add_block] at this | exact this) GW198.out) | (rw [add_block]; exact Nat.ne_of_lt (Nat.lt_of_lt_of_le (by have := World.block_lt_of_cell? _ _ hw214_0; first | rwa [add_block] at this | exact this) GW198.out)) | (show (Addr.add _ _).block ≠ _; rw [add_block]; exact Nat.ne_of_lt (Nat.lt_of_lt_of_le (by have := World.block_lt_of_cell? _ _ hw214_0; first | rwa [add_block] at this | exact this) GW198.out)) | (dsimp only; exact Nat.ne_of_lt (Nat.lt_of_lt_of_le (by have := World.block_lt_of_cell? _ _ hw214_0; first | rwa [add_block] at this | exact this) GW198.out))) _).trans (((cell_far (p := ⟨gb198, _, none⟩) (by first | exact Nat.ne_of_lt (Nat.lt_of_lt_of_le (by have := World.block_lt_of_cell? _ _ hw214_0; first | rwa [add_block] at this | exact this) GW198.out) | (rw [add_block]; exact Nat.ne_of_lt (Nat.lt_of_lt_of_le (by have := World.block_lt_of_cell? _ _ hw214_0; first | rwa [add_block] at this | exact this) GW198.out)) | (show (Addr.add _ _).block ≠ _; rw [add_block]; exact Nat.ne_of_lt (Nat.lt_of_lt_of_le (by have := World.block_lt_of_cell? _ _ hw214_0; first | rwa [add_block] at this | exact this) GW198.out)) | (dsimp only; exact Nat.ne_of_lt (Nat.lt_of_lt_of_le (by have := World.block_lt_of_cell? _ _ hw214_0; first | rwa [add_block] at this | exact this) GW198.out))) _).trans (((cell_far (p := ⟨gb198, _, none⟩) (by first | exact Nat.ne_of_lt (Nat.lt_of_lt_of_le (by have := World.block_lt_of_cell? _ _ hw214_0; first | rwa [add_block] at this | exact this) GW198.out) | (rw [add_block]; exact Nat.ne_of_lt (Nat.lt_of_lt_of_le (by have := World.block_lt_of_cell? _ _ hw214_0; first | rwa [add_block] at this | exact this) GW198.out)) | (show (Addr.add _ _).block ≠ _; rw [add_block]; exact Nat.ne_of_lt (Nat.lt_of_lt_of_le (by have := World.block_lt_of_cell? _ _ hw214_0; first | rwa [add_block] at this | exact this) GW198.out)) | (dsimp only; exact Nat.ne_of_lt (Nat.lt_of_lt_of_le (by have := World.block_lt_of_cell? _ _ hw214_0; first | rwa [add_block] at this | exact this) GW198.out))) _).trans (hHeld.2.1)))))))))))))))), ((cell_far (p := ⟨gb198, _, none⟩) (by first | exact Nat.ne_of_lt (Nat.lt_of_lt_of_le (by have := World.block_lt_of_cell? _ _ hw226_0; first | rwa [add_block] at this | exact this) GW198.out) | (rw [add_block]; exact Nat.ne_of_lt (Nat.lt_of_lt_of_le (by have := World.block_lt_of_cell? _ _ hw226_0; first | rwa [add_block] at this | exact this) GW198.out)) | (show (Addr.add _ _).block ≠ _; rw [add_block]; exact Nat.ne_of_lt (Nat.lt_of_lt_of_le (by have := World.block_lt_of_cell? _ _ hw226_0; first | rwa [add_block] at this | exact this) GW198.out)) | (dsimp only; exact Nat.ne_of_lt (Nat.lt_of_lt_of_le (by have := World.block_lt_of_cell? _ _ hw226_0; first | rwa [add_block] at this | exact this) GW198.out))) _).trans (((cell_far (p := ⟨gb198, _, none⟩) (by first | exact Nat.ne_of_lt (Nat.lt_of_lt_of_le (by have := World.block_lt_of_cell? _ _ hw226_0; first | rwa [add_block] at this | exact this) GW198.out) | (rw [add_block]; exact Nat.ne_of_lt (Nat.lt_of_lt_of_le (by have := World.block_lt_of_cell? _ _ hw226_0; first | rwa [add_block] at this | exact this) GW198.out)) | (show (Addr.add _ _).block ≠ _; rw [add_block]; exact Nat.ne_of_lt (Nat.lt_of_lt_of_le (by have := World.block_lt_of_cell? _ _ hw226_0; first | rwa [add_block] at this | exact this) GW198.out)) | (dsimp only; exact Nat.ne_of_lt (Nat.lt_of_lt_of_le (by have := World.block_lt_of_cell? _ _ hw226_0; first | rwa [add_block] at this | exact this) GW198.out))) _).trans (((cell_far (p := ⟨gb198, _, none⟩) (by first | exact Nat.ne_of_lt (Nat.lt_of_lt_of_le (by have := World.block_lt_of_cell? _ _ hw226_0; first | rwa [add_block] at this | exact this) GW198.out) | (rw [add_block]; exact Nat.ne_of_lt (Nat.lt_of_lt_of_le (by have := World.block_lt_of_cell? _ _ hw226_0; first | rwa [add_block] at this | exact this) GW198.out)) | (show (Addr.add _ _).block ≠ _; rw [add_block]; exact Nat.ne_of_lt (Nat.lt_of_lt_of_le (by have := World.block_lt_of_cell? _ _ hw226_0; first | rwa [add_block] at this | exact this) GW198.out)) | (dsimp only; exact Nat.ne_of_lt (Nat.lt_of_lt_of_le (by have := World.block_lt_of_cell? _ _ hw226_0; first | rwa [add_block] at this | exact this) GW198.out))) _).trans (((cell_far (p := ⟨gb198, _, none⟩) (by first | exact Nat.ne_of_lt (Nat.lt_of_lt_of_le (by have := World.block_lt_of_cell? _ _ hw226_0; first | rwa [add_block] at this | exact this) GW198.out) | (rw [add_block]; exact Nat.ne_of_lt (Nat.lt_of_lt_of_le (by have := World.block_lt_of_cell? _ _ hw226_0; first | rwa [add_block] at this | exact this) GW198.out)) | (show (Addr.add _ _).block ≠ _; rw [add_block]; exact Nat.ne_of_lt (Nat.lt_of_lt_of_le (by have := World.block_lt_of_cell? _ _ hw226_0; first | rwa [add_block] at this | exact this) GW198.out)) | (dsimp only; exact Nat.ne_of_lt (Nat.lt_of_lt_of_le (by have := World.block_lt_of_cell? _ _ hw226_0; first | rwa [add_block] at this | exact this) GW198.out))) _).trans (((cell_far (p := ⟨gb198, _, none⟩) (by first | exact Nat.ne_of_lt (Nat.lt_of_lt_of_le (by have := World.block_lt_of_cell? _ _ hw226_0; first | rwa [add_block] at this | exact this) GW198.out) | (rw [add_block]; exact Nat.ne_of_lt (Nat.lt_of_lt_of_le (by have := World.block_lt_of_cell? _ _ hw226_0; first | rwa [add_block] at this | exact this) GW198.out)) | (show (Addr.add _ _).block ≠ _; rw [add_block]; exact Nat.ne_of_lt (Nat.lt_of_lt_of_le (by have := World.block_lt_of_cell? _ _ hw226_0; first | rwa [add_block] at this | exact this) GW198.out)) | (dsimp only; exact Nat.ne_of_lt (Nat.lt_of_lt_of_le (by have := World.block_lt_of_cell? _ _ hw226_0; first | rwa [add_block] at this | exact this) GW198.out))) _).trans (((cell_far (p := ⟨gb198, _, none⟩) (by first | exact Nat.ne_of_lt (Nat.lt_of_lt_of_le (by have := World.block_lt_of_cell? _ _ hw226_0; first | rwa [add_block] at this | exact this) GW198.out) | (rw [add_block]; exact Nat.ne_of_lt (Nat.lt_of_lt_of_le (by have := World.block_lt_of_cell? _ _ hw226_0; first | rwa [add_block] at this | exact this) GW198.out)) | (show (Addr.add _ _).block ≠ _; rw [add_block]; exact Nat.ne_of_lt (Nat.lt_of_lt_of_le (by have := World.block_lt_of_cell? _ _ hw226_0; first | rwa [add_block] at this | exact this) GW198.out)) | (dsimp only; exact Nat.ne_of_lt (Nat.lt_of_lt_of_le (by have := World.block_lt_of_cell? _ _ hw226_0; first | rwa [add_block] at this | exact this) GW198.out))) _).trans (((cell_far (p := ⟨gb198, _, none⟩) (by first | exact Nat.ne_of_lt (Nat.lt_of_lt_of_le (by have := World.block_lt_of_cell? _ _ hw226_0; first | rwa [add_block] at this | exact this) GW198.out) | (rw [add_block]; exact Nat.ne_of_lt (Nat.lt_of_lt_of_le (by have := World.block_lt_of_cell? _ _ hw226_0; first | rwa [add_block] at this | exact this) GW198.out)) | (show (Addr.add _ _).block ≠ _; rw [add_block]; exact Nat.ne_of_lt (Nat.lt_of_lt_of_le (by have := World.block_lt_of_cell? _ _ hw226_0; first | rwa [add_block] at this | exact this) GW198.out)) | (dsimp only; exact Nat.ne_of_lt (Nat.lt_of_lt_of_le (by have := World.block_lt_of_cell? _ _ hw226_0; first | rwa [add_block] at this | exact this) GW198.out))) _).trans (((cell_far (p := ⟨gb198, _, none⟩) (by first | exact Nat.ne_of_lt (Nat.lt_of_lt_of_le (by have := World.block_lt_of_cell? _ _ hw226_0; first | rwa [add_block] at this | exact this) GW198.out) | (rw [add_block]; exact Nat.ne_of_lt (Nat.lt_of_lt_of_le (by have := World.block_lt_of_cell? _ _ hw226_0; first | rwa [add_block] at this | exact this) GW198.out)) | (show (Addr.add _ _).block ≠ _; rw [add_block]; exact Nat.ne_of_lt (Nat.lt_of_lt_of_le (by have := World.block_lt_of_cell? _ _ hw226_0; first | rwa [add_block] at this | exact this) GW198.out)) | (dsimp only; exact Nat.ne_of_lt (Nat.lt_of_lt_of_le (by have := World.block_lt_of_cell? _ _ hw226_0; first | rwa [add_block] at this | exact this) GW198.out))) _).trans (hHeld.2.2))))))))))))))))⟩ (fun hHeld => ?_)
    clear hK K
    refine pure_ (i := 18) (N := some 3) (v := ?_) (a' := ?_) #[true, true, true, true, true, true, true, true, true, true, true, true, true, true, true, true, true, true, true] rfl rfl (any_of HT_.out (by kernel_rfl)) (fun _ _ _ h => h) (Or.inl ⟨by rfl, ?_⟩) ?_ ?_
    rotate_left
    · intro w'
      go_simp
      with_reducible rfl
    rotate_left
    · simp only [Act.put, List.setIfInBounds_toArray, List.set_cons_zero, List.set_cons_succ, i64_w, i32_w]
      rfl
    refine done_ (done_of HT_.out (by kernel_rfl)) ?_
    try go_wp2
    refine bodyPost_ret (results_ct rfl _ _ gb198 39 #[.string t241, .int .i64 t242, .bool t243, .int .i64 t244, .int .u64 t245, .float .f64 t246, .string t247, .slice Ao35 t248.length co35] (0, 0) _ rfl (by (with_reducible repeat (first | refine blk_drewN ?_ _ | refine blk_drew ?_ | refine blk_alloc ?_ _)); refine blk_put (cs := #[.string t241, .int .i64 t242, .bool t243, .int .i64 t244, .int .u64 t245, .float .f64 t246, .string t247, .slice none 0 0]) ?_ 7 _ rfl; (with_reducible repeat (first | refine blk_drewN ?_ _ | refine blk_drew ?_ | refine blk_alloc ?_ _)); refine blk_put (cs := #[.string t241, .int .i64 t242, .bool t243, .int .i64 t244, .int .u64 t245, .float .f64 t246, .string (⟨#[]⟩ : ByteArray), .slice none 0 0]) ?_ 6 _ rfl; (with_reducible repeat (first | refine blk_drewN ?_ _ | refine blk_drew ?_ | refine blk_alloc ?_ _)); refine blk_put (cs := #[.string t241, .int .i64 t242, .bool t243, .int .i64 t244, .int .u64 t245, .float .f64 0, .string (⟨#[]⟩ : ByteArray), .slice none 0 0]) ?_ 5 _ rfl; (with_reducible repeat (first | refine blk_drewN ?_ _ | refine blk_drew ?_ | refine blk_alloc ?_ _)); refine blk_put (cs := #[.string t241, .int .i64 t242, .bool t243, .int .i64 t244, .int .u64 0, .float .f64 0, .string (⟨#[]⟩ : ByteArray), .slice none 0 0]) ?_ 4 _ rfl; (with_reducible repeat (first | refine blk_drewN ?_ _ | refine blk_drew ?_ | refine blk_alloc ?_ _)); refine blk_put (cs := #[.string t241, .int .i64 t242, .bool t243, .int .i64 0, .int .u64 0, .float .f64 0, .string (⟨#[]⟩ : ByteArray), .slice none 0 0]) ?_ 3 _ rfl; (with_reducible repeat (first | refine blk_drewN ?_ _ | refine blk_drew ?_ | refine blk_alloc ?_ _)); refine blk_put (cs := #[.string t241, .int .i64 t242, .bool false, .int .i64 0, .int .u64 0, .float .f64 0, .string (⟨#[]⟩ : ByteArray), .slice none 0 0]) ?_ 2 _ rfl; (with_reducible repeat (first | refine blk_drewN ?_ _ | refine blk_drew ?_ | refine blk_alloc ?_ _)); refine blk_put (cs := #[.string t241, .int .i64 0, .bool false, .int .i64 0, .int .u64 0, .float .f64 0, .string (⟨#[]⟩ : ByteArray), .slice none 0 0]) ?_ 1 _ rfl; (with_reducible repeat (first | refine blk_drewN ?_ _ | refine blk_drew ?_ | refine blk_alloc ?_ _)); refine blk_put (cs := #[.string (⟨#[]⟩ : ByteArray), .int .i64 0, .bool false, .int .i64 0, .int .u64 0, .float .f64 0, .string (⟨#[]⟩ : ByteArray), .slice none 0 0]) ?_ 0 _ rfl; (with_reducible repeat (first | refine blk_drewN ?_ _ | refine blk_drew ?_ | refine blk_alloc ?_ _)); exact BK198.out) Tryz.underlying39 rfl (by kernel_rfl)) rfl ?_
    exact ⟨_, by first | rfl | (simp [errW_none, errW_some] <;> rfl) | (simp [*, errW_none, errW_some] <;> rfl), by (with_reducible repeat (first | apply Kd.V_alloc | apply Kd.V_drewN | apply Kd.V_drew)); exact Kd.V_mono (Kd.V_far (p := ⟨gb198, 7, none⟩) (Kd.V_far (p := ⟨gb198, 6, none⟩) (Kd.V_far (p := ⟨gb198, 5, none⟩) (Kd.V_far (p := ⟨gb198, 4, none⟩) (Kd.V_far (p := ⟨gb198, 3, none⟩) (Kd.V_far (p := ⟨gb198, 2, none⟩) (Kd.V_far (p := ⟨gb198, 1, none⟩) (Kd.V_far (p := ⟨gb198, 0, none⟩) (Kd.V_mono HO250.out (fun k_ hk => (⟨hk, hk.2⟩ : _ ∧ k_ ≠ gb198))) (fun _ hk => hk.2) (.string t241)) (fun _ hk => hk.2) (.int .i64 t242)) (fun _ hk => hk.2) (.bool t243)) (fun _ hk => hk.2) (.int .i64 t244)) (fun _ hk => hk.2) (.int .u64 t245)) (fun _ hk => hk.2) (.float .f64 t246)) (fun _ hk => hk.2) (.string t247)) (fun _ hk => hk.2) (.slice Ao35 t248.length co35)) (fun _ hk => hk.1.1), by repeat (first | (with_reducible first | exact HB.out | apply below_alloc | apply pw_below_drewN | apply below_drew1 | refine below_set ?_ GE198.out) | exact HB.out)⟩
  · rw [if_neg c3] at H
    have c3b0 : (t200 == 1) = false := beq_eq_false_iff_ne.mpr c3
    have c3b1 : (t200 != 1) = true := bne_iff_ne.mpr c3
    simp only [Option.some.injEq, Prod.mk.injEq] at H
    obtain ⟨rfl, rfl, rfl, rfl, rfl, rfl, rfl, rfl, rfl⟩ := H
    go_enter Tryz.func16, Tryz.ntmps16
    go_wp2_with (first | ((with_reducible refine gate_dst (N := 2) rfl ?_); refine box_event ?hg (N := 2) ?hd (cs := #[.string (⟨#[]⟩ : ByteArray), .int .i64 0, .bool false, .int .i64 0, .int .u64 0, .float .f64 0, .string (⟨#[]⟩ : ByteArray), .slice none 0 0]) (t := 39) ?hr ?_; (case hd => rfl); (case hg => rfl); (case hr => first | (go_simp; done) | (go_simp; rfl)); intro gb198 hg w37 hbox hb; have n0_ := Aside0.mk (below_step (by repeat (first | (with_reducible first | exact HB.out | apply below_alloc | apply pw_below_drewN | apply below_drew1) | exact HB.out)) hb); have n1_ := Aside0.mk (hbox); have n2_ := Aside0.mk ((by rw [hg]; exact (below_size (by repeat (first | (with_reducible first | exact HB.out | apply below_alloc | apply pw_below_drewN | apply below_drew1) | exact HB.out))) : w.heap.size ≤ gb198)); have n3_ := Aside0.mk ((by rw [hg]; exact (below_size (by repeat (first | (with_reducible first | exact HB.out | apply below_alloc | apply pw_below_drewN | apply below_drew1) | exact HB.out))) : w.heap.size ≤ gb198)); clear HB; have HB := n0_; have BK198 := n1_; have GW198 := n2_; have GE198 := n3_; clear n0_ n1_ n2_ n3_; clear hb hbox hg) | ((with_reducible refine gate_callee (f := 15) rfl ?_); refine goesL_ (some 9) rfl rfl Tryz.func15 (by kernel_rfl) rfl #[.slice A0 l0.length c0] rfl (by (try simp only [List.map_toArray, List.map_cons, List.map_nil]); first | done | rfl | (simp only [List.length_drop, List.length_take]; rfl)) ?_; (with_reducible refine (spec_LoadavgPrint.calls k _ _ l0 t199 t200 _ ?side1 ?side2 A2.out).mono ?_); (case side1 => repeat (first | exact (Kd.C_below HR0.out HB.out) | (with_reducible refine Kd.C_alloc ?_ _) | (with_reducible refine Kd.C_drewN ?_ _) | (with_reducible refine Kd.C_drew ?_))); (case side2 => exact HC0.out); rintro e w38 ⟨rfl, hb⟩; refine ⟨_, rfl, ?_⟩; have n0_ := Aside0.mk (blk_below (g := gb198) (o := .cells #[.string (⟨#[]⟩ : ByteArray), .int .i64 0, .bool false, .int .i64 0, .int .u64 0, .float .f64 0, .string (⟨#[]⟩ : ByteArray), .slice none 0 0] 39 (0, 0)) (by (with_reducible repeat (first | refine blk_drewN ?_ _ | refine blk_drew ?_ | refine blk_alloc ?_ _)); exact BK198.out) hb); have n1_ := Aside0.mk (below_step (by repeat (first | (with_reducible first | exact HB.out | apply below_alloc | apply pw_below_drewN | apply below_drew1 | refine below_set ?_ GE198.out) | exact HB.out)) hb); clear BK198; clear HB; have BK198 := n0_; have HB := n1_; clear n0_ n1_; (try clear hb); (try clear hb2); (try clear hk); (try clear hi); have hcz39_0 : w38.cell? ⟨gb198, 0, none⟩ = some (.string (⟨#[]⟩ : ByteArray)) := (blk_cell BK198.out 0).trans rfl; have hcz39_1 : w38.cell? ⟨gb198, 1, none⟩ = some (.int .i64 0) := (blk_cell BK198.out 1).trans rfl; have hcz39_2 : w38.cell? ⟨gb198, 2, none⟩ = some (.bool false) := (blk_cell BK198.out 2).trans rfl; have hcz39_3 : w38.cell? ⟨gb198, 3, none⟩ = some (.int .i64 0) := (blk_cell BK198.out 3).trans rfl; have hcz39_4 : w38.cell? ⟨gb198, 4, none⟩ = some (.int .u64 0) := (blk_cell BK198.out 4).trans rfl; have hcz39_5 : w38.cell? ⟨gb198, 5, none⟩ = some (.float .f64 0) := (blk_cell BK198.out 5).trans rfl; have hcz39_6 : w38.cell? ⟨gb198, 6, none⟩ = some (.string (⟨#[]⟩ : ByteArray)) := (blk_cell BK198.out 6).trans rfl; have hcz39_7 : w38.cell? ⟨gb198, 7, none⟩ = some (.slice none 0 0) := (blk_cell BK198.out 7).trans rfl; have hfz39_0 := blk_frozen BK198.out 0; have hfz39_1 := blk_frozen BK198.out 1; have hfz39_2 := blk_frozen BK198.out 2; have hfz39_3 := blk_frozen BK198.out 3; have hfz39_4 := blk_frozen BK198.out 4; have hfz39_5 := blk_frozen BK198.out 5; have hfz39_6 := blk_frozen BK198.out 6; have hfz39_7 := blk_frozen BK198.out 7))
    refine bodyPost_ret (results_ct rfl _ _ gb198 39 #[.string (⟨#[]⟩ : ByteArray), .int .i64 0, .bool false, .int .i64 0, .int .u64 0, .float .f64 0, .string (⟨#[]⟩ : ByteArray), .slice none 0 0] (0, 0) _ rfl (by (with_reducible repeat (first | refine blk_drewN ?_ _ | refine blk_drew ?_ | refine blk_alloc ?_ _)); refine blk_put (cs := #[.string (⟨#[]⟩ : ByteArray), .int .i64 0, .bool false, .int .i64 0, .int .u64 0, .float .f64 0, .string (⟨#[]⟩ : ByteArray), .slice none 0 0]) ?_ 7 _ rfl; (with_reducible repeat (first | refine blk_drewN ?_ _ | refine blk_drew ?_ | refine blk_alloc ?_ _)); refine blk_put (cs := #[.string (⟨#[]⟩ : ByteArray), .int .i64 0, .bool false, .int .i64 0, .int .u64 0, .float .f64 0, .string (⟨#[]⟩ : ByteArray), .slice none 0 0]) ?_ 6 _ rfl; (with_reducible repeat (first | refine blk_drewN ?_ _ | refine blk_drew ?_ | refine blk_alloc ?_ _)); refine blk_put (cs := #[.string (⟨#[]⟩ : ByteArray), .int .i64 0, .bool false, .int .i64 0, .int .u64 0, .float .f64 0, .string (⟨#[]⟩ : ByteArray), .slice none 0 0]) ?_ 5 _ rfl; (with_reducible repeat (first | refine blk_drewN ?_ _ | refine blk_drew ?_ | refine blk_alloc ?_ _)); refine blk_put (cs := #[.string (⟨#[]⟩ : ByteArray), .int .i64 0, .bool false, .int .i64 0, .int .u64 0, .float .f64 0, .string (⟨#[]⟩ : ByteArray), .slice none 0 0]) ?_ 4 _ rfl; (with_reducible repeat (first | refine blk_drewN ?_ _ | refine blk_drew ?_ | refine blk_alloc ?_ _)); refine blk_put (cs := #[.string (⟨#[]⟩ : ByteArray), .int .i64 0, .bool false, .int .i64 0, .int .u64 0, .float .f64 0, .string (⟨#[]⟩ : ByteArray), .slice none 0 0]) ?_ 3 _ rfl; (with_reducible repeat (first | refine blk_drewN ?_ _ | refine blk_drew ?_ | refine blk_alloc ?_ _)); refine blk_put (cs := #[.string (⟨#[]⟩ : ByteArray), .int .i64 0, .bool false, .int .i64 0, .int .u64 0, .float .f64 0, .string (⟨#[]⟩ : ByteArray), .slice none 0 0]) ?_ 2 _ rfl; (with_reducible repeat (first | refine blk_drewN ?_ _ | refine blk_drew ?_ | refine blk_alloc ?_ _)); refine blk_put (cs := #[.string (⟨#[]⟩ : ByteArray), .int .i64 0, .bool false, .int .i64 0, .int .u64 0, .float .f64 0, .string (⟨#[]⟩ : ByteArray), .slice none 0 0]) ?_ 1 _ rfl; (with_reducible repeat (first | refine blk_drewN ?_ _ | refine blk_drew ?_ | refine blk_alloc ?_ _)); refine blk_put (cs := #[.string (⟨#[]⟩ : ByteArray), .int .i64 0, .bool false, .int .i64 0, .int .u64 0, .float .f64 0, .string (⟨#[]⟩ : ByteArray), .slice none 0 0]) ?_ 0 _ rfl; (with_reducible repeat (first | refine blk_drewN ?_ _ | refine blk_drew ?_ | refine blk_alloc ?_ _)); exact BK198.out) Tryz.underlying39 rfl (by kernel_rfl)) rfl ?_
    exact ⟨_, by first | rfl | (simp [errW_none, errW_some] <;> rfl) | (simp [*, errW_none, errW_some] <;> rfl), Kd.N_V (base := 0) (by first | exact Kd.R_nil _ _ _ _ _ | exact Kd.N_nil _ _ _ _ _ | exact Kd.V_nil _ _ _ _ _ | exact Kd.Q_nil _ _ _ _ _ | exact Kd.S_nil _ _ _ _ _), by repeat (first | (with_reducible first | exact HB.out | apply below_alloc | apply pw_below_drewN | apply below_drew1 | refine below_set ?_ GE198.out) | exact HB.out)⟩

/-! ### laws_toNode: function 48 -/
mutual
def laws_toNode.l0 : Nat → List (S43) → Int → Int → ByteArray → Int → Bool → Int → Int → Nat → ByteArray → List (S39) → Option (ByteArray × Int × Bool × Int × Int × Nat × ByteArray × (List (S39)))
  | 0, _, _, _, _, _, _, _, _, _, _, _ => none
  | k + 1, x22, x23, x24, x254000, x254001, x254002, x254003, x254004, x254005, x254006, x254007 => if x24 < x23 then (if 0 ≤ x24 then (if x24 < (x22.length : Int) then ((laws_toNode.f k ((rd_T43 x22 x24).f0) ((rd_T43 x22 x24).f1) ((rd_T43 x22 x24).f2) ((rd_T43 x22 x24).f3) ((rd_T43 x22 x24).f4) ((rd_T43 x22 x24).f5) ((rd_T43 x22 x24).f6) ((rd_T43 x22 x24).f7)).bind fun bt256 => (if x254007.length < 1466015503701 then (laws_toNode.l0 k x22 x23 (wrap64 (x24 + 1)) x254000 x254001 x254002 x254003 x254004 x254005 x254006 (x254007 ++ [(⟨bt256.1, bt256.2.1, bt256.2.2.1, bt256.2.2.2.1, bt256.2.2.2.2.1, bt256.2.2.2.2.2.1, bt256.2.2.2.2.2.2.1, bt256.2.2.2.2.2.2.2⟩ : S39)])) else (none))) else (none)) else (none)) else (some (x254000, x254001, x254002, x254003, x254004, x254005, x254006, x254007))
def laws_toNode.f : Nat → ByteArray → Int → Bool → Int → Int → Nat → ByteArray → List (S43) → Option (ByteArray × Int × Bool × Int × Int × Nat × ByteArray × (List (S39)))
  | 0, _, _, _, _, _, _, _, _ => none
  | k + 1, a0_0, a0_1, a0_2, a0_3, a0_4, a0_5, a0_6, l0_7 => laws_toNode.l0 k l0_7 (l0_7.length : Int) 0 a0_0 a0_1 a0_2 a0_3 a0_4 a0_5 a0_6 ([] : List (S39))
end
theorem laws_toNode.mono_l : ∀ k, (∀ y0 y1 y2 y3 y4 y5 y6 y7, LeO (laws_toNode.f k y0 y1 y2 y3 y4 y5 y6 y7) (laws_toNode.f (k + 1) y0 y1 y2 y3 y4 y5 y6 y7)) ∧ (∀ y0 y1 y2 y3 y4 y5 y6 y7 y8 y9 y10, LeO (laws_toNode.l0 k y0 y1 y2 y3 y4 y5 y6 y7 y8 y9 y10) (laws_toNode.l0 (k + 1) y0 y1 y2 y3 y4 y5 y6 y7 y8 y9 y10))
  | 0 => ⟨fun _ _ _ _ _ _ _ _ r h => by simp [laws_toNode.f] at h, fun _ _ _ _ _ _ _ _ _ _ _ r h => by simp [laws_toNode.l0] at h⟩
  | k + 1 => by
    obtain ⟨ih0, ih1⟩ := laws_toNode.mono_l k
    refine ⟨?_, ?_⟩
    · intro y0 y1 y2 y3 y4 y5 y6 y7
      unfold laws_toNode.f
      repeat' first
      | (with_reducible exact ih0 _ _ _ _ _ _ _ _)
      | (with_reducible exact ih1 _ _ _ _ _ _ _ _ _ _ _)
      | (with_reducible exact LeO.refl _)
      | (with_reducible exact LeO.none _)
      | (with_reducible refine LeO.ite ?_ ?_)
      | (with_reducible refine LeO.bind ?_ (fun _ => ?_))
      | exact ih0 _ _ _ _ _ _ _ _
      | exact ih1 _ _ _ _ _ _ _ _ _ _ _
      | exact LeO.none _
      | refine LeO.ite ?_ ?_
      | refine LeO.bind ?_ (fun _ => ?_)
    · intro y0 y1 y2 y3 y4 y5 y6 y7 y8 y9 y10
      unfold laws_toNode.l0
      repeat' first
      | (with_reducible exact ih0 _ _ _ _ _ _ _ _)
      | (with_reducible exact ih1 _ _ _ _ _ _ _ _ _ _ _)
      | (with_reducible exact LeO.refl _)
      | (with_reducible exact LeO.none _)
      | (with_reducible refine LeO.ite ?_ ?_)
      | (with_reducible refine LeO.bind ?_ (fun _ => ?_))
      | exact ih0 _ _ _ _ _ _ _ _
      | exact ih1 _ _ _ _ _ _ _ _ _ _ _
      | exact LeO.none _
      | refine LeO.ite ?_ ?_
      | refine LeO.bind ?_ (fun _ => ?_)
theorem laws_toNode.mono : ∀ a0 a1 a2 a3 a4 a5 a6 a7 k, LeO (laws_toNode.f k a0 a1 a2 a3 a4 a5 a6 a7) (laws_toNode.f (k + 1) a0 a1 a2 a3 a4 a5 a6 a7) := by
  intro a0 a1 a2 a3 a4 a5 a6 a7 k
  obtain ⟨ih0, ih1⟩ := laws_toNode.mono_l k
  exact ih0 a0 a1 a2 a3 a4 a5 a6 a7
def laws_toNode.T5 : Bool × List (List Nat × List Nat) := (true, [([], []), ([0], [0]), ([], []), ([2], [2]), ([3], [3]), ([1, 4, 3], [1, 4]), ([0, 1, 2, 3, 4, 5], []), ([6, 5, 5, 0, 1, 2, 3, 4, 5], [5, 6])])
def laws_toNode.B5 : List Nat := [0, 1, 0, 4, 12, 31, 63, 127]
theorem laws_toNode.tab5 : rtab .any (opsOf Tryz.f48 5) = laws_toNode.T5 := by kernel_rfl
theorem laws_toNode.bits5 : waitsOk laws_toNode.T5.2 laws_toNode.B5 = true := by kernel_rfl
set_option maxHeartbeats 8000000 in
set_option maxRecDepth 100000 in
theorem laws_toNode.calls (k : Nat) : ∀ (a0_0 : ByteArray) (a0_1 : Int) (a0_2 : Bool) (a0_3 : Int) (a0_4 : Int) (a0_5 : Nat) (a0_6 : ByteArray) (A0_7 : Option Addr) (c0_7 : Nat) (l0_7 : List (S43)) (r1 : ByteArray) (r2 : Int) (r3 : Bool) (r4 : Int) (r5 : Int) (r6 : Nat) (r7 : ByteArray) (r8 : List (S39)) (w : World) (hr0_7 : Kd.C k43 w A0_7 l0_7.length l0_7) (hc0_7 : l0_7.length ≤ c0_7) (h : laws_toNode.f k a0_0 a0_1 a0_2 a0_3 a0_4 a0_5 a0_6 l0_7 = some (r1, r2, r3, r4, r5, r6, r7, r8)),
    Calls Tryz.prog 48 #[.agg #[.string a0_0, .int .i64 a0_1, .bool a0_2, .int .i64 a0_3, .int .u64 a0_4, .float .f64 a0_5, .string a0_6, .slice A0_7 l0_7.length c0_7]] w fun e w' => ∃ v7_ : Value, e = .returned (.agg #[.string r1, .int .i64 r2, .bool r3, .int .i64 r4, .int .u64 r5, .float .f64 r6, .string r7, v7_]) ∧ Kd.R k39 39 w' w.heap.size (fun _ => True) v7_ r8 ∧ Below w.heap.size w w' := by
  induction k using Nat.strongRecOn with
  | _ k ih =>
  intro a0_0 a0_1 a0_2 a0_3 a0_4 a0_5 a0_6 A0_7 c0_7 l0_7 r1 r2 r3 r4 r5 r6 r7 r8 w hr0_7 hc0_7 h
  cases k with
  | zero => exact absurd h (by simp [laws_toNode.f])
  | succ k =>
  simp only [laws_toNode.f] at h
  have hu43 := Tryz.underlying43
  have hu39 := Tryz.underlying39
  have HR0_7 := Aside0.mk hr0_7
  have HC0_7 := Aside0.mk hc0_7
  clear hr0_7 hc0_7
  have HB := Aside0.mk (Below.refl w.heap.size w)
  have H : (laws_toNode.l0 k l0_7 (l0_7.length : Int) 0 a0_0 a0_1 a0_2 a0_3 a0_4 a0_5 a0_6 ([] : List (S39))) = some (r1, r2, r3, r4, r5, r6, r7, r8) := h
  clear h
  have H' := Aside0.mk H
  clear H
  go_enter Tryz.func48, Tryz.ntmps48
  go_wp2_with (first | ((with_reducible refine gate_dst (N := 1) rfl ?_); refine box_event ?hg (N := 1) ?hd (cs := #[.string a0_0, .int .i64 a0_1, .bool a0_2, .int .i64 a0_3, .int .u64 a0_4, .float .f64 a0_5, .string a0_6, .slice A0_7 l0_7.length c0_7]) (t := 43) ?hr ?_; (case hd => rfl); (case hg => rfl); (case hr => first | (go_simp; done) | (go_simp; rfl)); intro gb251 hg w2 hbox hb; have n0_ := Aside0.mk (below_step (by repeat (first | (with_reducible first | exact HB.out | apply below_alloc | apply pw_below_drewN | apply below_drew1) | exact HB.out)) hb); have n1_ := Aside0.mk (hbox); have n2_ := Aside0.mk ((by rw [hg]; exact (below_size (by repeat (first | (with_reducible first | exact HB.out | apply below_alloc | apply pw_below_drewN | apply below_drew1) | exact HB.out))) : w.heap.size ≤ gb251)); have n3_ := Aside0.mk ((by rw [hg]; exact (below_size (by repeat (first | (with_reducible first | exact HB.out | apply below_alloc | apply pw_below_drewN | apply below_drew1) | exact HB.out))) : w.heap.size ≤ gb251)); clear HB; have HB := n0_; have BK251 := n1_; have GW251 := n2_; have GE251 := n3_; clear n0_ n1_ n2_ n3_; clear hb hbox hg) | ((with_reducible refine gate_dst (N := 2) rfl ?_); refine box_event ?hg (N := 2) ?hd (cs := #[.string (⟨#[]⟩ : ByteArray), .int .i64 0, .bool false, .int .i64 0, .int .u64 0, .float .f64 0, .string (⟨#[]⟩ : ByteArray), .slice none 0 0]) (t := 39) ?hr ?_; (case hd => rfl); (case hg => rfl); (case hr => first | (go_simp; done) | (go_simp; rfl)); intro gb252 hg w3 hbox hb; have n0_ := Aside0.mk (blk_below (g := gb251) (o := .cells #[.string a0_0, .int .i64 a0_1, .bool a0_2, .int .i64 a0_3, .int .u64 a0_4, .float .f64 a0_5, .string a0_6, .slice A0_7 l0_7.length c0_7] 43 (0, 0)) (by (with_reducible repeat (first | refine blk_drewN ?_ _ | refine blk_drew ?_ | refine blk_alloc ?_ _)); exact BK251.out) hb); have n1_ := Aside0.mk (below_step (by repeat (first | (with_reducible first | exact HB.out | apply below_alloc | apply pw_below_drewN | apply below_drew1 | refine below_set ?_ GE251.out) | exact HB.out)) hb); have n2_ := Aside0.mk (hbox); have n3_ := Aside0.mk ((by rw [hg]; exact (below_size (by repeat (first | (with_reducible first | exact HB.out | apply below_alloc | apply pw_below_drewN | apply below_drew1 | refine below_set ?_ GE251.out) | exact HB.out))) : w.heap.size ≤ gb252)); have n4_ := Aside0.mk ((by rw [hg]; exact (below_size (by repeat (first | (with_reducible first | exact HB.out | apply below_alloc | apply pw_below_drewN | apply below_drew1 | refine below_set ?_ GE251.out) | exact HB.out))) : w.heap.size ≤ gb252)); have n5_ := Aside0.mk ((by rw [hg]; exact Nat.ne_of_lt (blk_lt (g := gb251) (o := .cells #[.string a0_0, .int .i64 a0_1, .bool a0_2, .int .i64 a0_3, .int .u64 a0_4, .float .f64 a0_5, .string a0_6, .slice A0_7 l0_7.length c0_7] 43 (0, 0)) (by (with_reducible repeat (first | refine blk_drewN ?_ _ | refine blk_drew ?_ | refine blk_alloc ?_ _)); exact BK251.out)) : gb251 ≠ gb252)); have n6_ := Aside0.mk ((by rw [hg]; exact Nat.ne_of_gt (blk_lt (g := gb251) (o := .cells #[.string a0_0, .int .i64 a0_1, .bool a0_2, .int .i64 a0_3, .int .u64 a0_4, .float .f64 a0_5, .string a0_6, .slice A0_7 l0_7.length c0_7] 43 (0, 0)) (by (with_reducible repeat (first | refine blk_drewN ?_ _ | refine blk_drew ?_ | refine blk_alloc ?_ _)); exact BK251.out)) : gb252 ≠ gb251)); clear BK251; clear HB; have BK251 := n0_; have HB := n1_; have BK252 := n2_; have GW252 := n3_; have GE252 := n4_; have NB251_252 := n5_; have NB252_251 := n6_; clear n0_ n1_ n2_ n3_ n4_ n5_ n6_; clear hb hbox hg; have hnb4 := NB251_252.out; have hnc4 := NB252_251.out; have hcz5_0 : w3.cell? ⟨gb251, 0, none⟩ = some (.string a0_0) := (blk_cell BK251.out 0).trans rfl; have hcz5_1 : w3.cell? ⟨gb251, 1, none⟩ = some (.int .i64 a0_1) := (blk_cell BK251.out 1).trans rfl; have hcz5_2 : w3.cell? ⟨gb251, 2, none⟩ = some (.bool a0_2) := (blk_cell BK251.out 2).trans rfl; have hcz5_3 : w3.cell? ⟨gb251, 3, none⟩ = some (.int .i64 a0_3) := (blk_cell BK251.out 3).trans rfl; have hcz5_4 : w3.cell? ⟨gb251, 4, none⟩ = some (.int .u64 a0_4) := (blk_cell BK251.out 4).trans rfl; have hcz5_5 : w3.cell? ⟨gb251, 5, none⟩ = some (.float .f64 a0_5) := (blk_cell BK251.out 5).trans rfl; have hcz5_6 : w3.cell? ⟨gb251, 6, none⟩ = some (.string a0_6) := (blk_cell BK251.out 6).trans rfl; have hcz5_7 : w3.cell? ⟨gb251, 7, none⟩ = some (.slice A0_7 l0_7.length c0_7) := (blk_cell BK251.out 7).trans rfl; have hfz5_0 := blk_frozen BK251.out 0; have hfz5_1 := blk_frozen BK251.out 1; have hfz5_2 := blk_frozen BK251.out 2; have hfz5_3 := blk_frozen BK251.out 3; have hfz5_4 := blk_frozen BK251.out 4; have hfz5_5 := blk_frozen BK251.out 5; have hfz5_6 := blk_frozen BK251.out 6; have hfz5_7 := blk_frozen BK251.out 7) | ((with_reducible refine gate_dst (N := 3) rfl ?_); refine box_event ?hg (N := 3) ?hd (cs := #[.string (⟨#[]⟩ : ByteArray), .int .i64 0, .bool false, .int .i64 0, .int .u64 0, .float .f64 0, .string (⟨#[]⟩ : ByteArray), .slice none 0 0]) (t := 39) ?hr ?_; (case hd => rfl); (case hg => rfl); (case hr => first | (go_simp; done) | (go_simp; rfl)); intro gb253 hg w6 hbox hb; have n0_ := Aside0.mk (blk_below (g := gb251) (o := .cells #[.string a0_0, .int .i64 a0_1, .bool a0_2, .int .i64 a0_3, .int .u64 a0_4, .float .f64 a0_5, .string a0_6, .slice A0_7 l0_7.length c0_7] 43 (0, 0)) (by (with_reducible repeat (first | refine blk_drewN ?_ _ | refine blk_drew ?_ | refine blk_alloc ?_ _)); exact BK251.out) hb); have n1_ := Aside0.mk (blk_below (g := gb252) (o := .cells #[.string (⟨#[]⟩ : ByteArray), .int .i64 0, .bool false, .int .i64 0, .int .u64 0, .float .f64 0, .string (⟨#[]⟩ : ByteArray), .slice none 0 0] 39 (0, 0)) (by (with_reducible repeat (first | refine blk_drewN ?_ _ | refine blk_drew ?_ | refine blk_alloc ?_ _)); exact BK252.out) hb); have n2_ := Aside0.mk (below_step (by repeat (first | (with_reducible first | exact HB.out | apply below_alloc | apply pw_below_drewN | apply below_drew1 | refine below_set ?_ GE251.out | refine below_set ?_ GE252.out) | exact HB.out)) hb); have n3_ := Aside0.mk (hbox); have n4_ := Aside0.mk ((by rw [hg]; exact (below_size (by repeat (first | (with_reducible first | exact HB.out | apply below_alloc | apply pw_below_drewN | apply below_drew1 | refine below_set ?_ GE251.out | refine below_set ?_ GE252.out) | exact HB.out))) : w.heap.size ≤ gb253)); have n5_ := Aside0.mk ((by rw [hg]; exact (below_size (by repeat (first | (with_reducible first | exact HB.out | apply below_alloc | apply pw_below_drewN | apply below_drew1 | refine below_set ?_ GE251.out | refine below_set ?_ GE252.out) | exact HB.out))) : w.heap.size ≤ gb253)); have n6_ := Aside0.mk ((by rw [hg]; exact Nat.ne_of_lt (blk_lt (g := gb251) (o := .cells #[.string a0_0, .int .i64 a0_1, .bool a0_2, .int .i64 a0_3, .int .u64 a0_4, .float .f64 a0_5, .string a0_6, .slice A0_7 l0_7.length c0_7] 43 (0, 0)) (by (with_reducible repeat (first | refine blk_drewN ?_ _ | refine blk_drew ?_ | refine blk_alloc ?_ _)); exact BK251.out)) : gb251 ≠ gb253)); have n7_ := Aside0.mk ((by rw [hg]; exact Nat.ne_of_gt (blk_lt (g := gb251) (o := .cells #[.string a0_0, .int .i64 a0_1, .bool a0_2, .int .i64 a0_3, .int .u64 a0_4, .float .f64 a0_5, .string a0_6, .slice A0_7 l0_7.length c0_7] 43 (0, 0)) (by (with_reducible repeat (first | refine blk_drewN ?_ _ | refine blk_drew ?_ | refine blk_alloc ?_ _)); exact BK251.out)) : gb253 ≠ gb251)); have n8_ := Aside0.mk ((by rw [hg]; exact Nat.ne_of_lt (blk_lt (g := gb252) (o := .cells #[.string (⟨#[]⟩ : ByteArray), .int .i64 0, .bool false, .int .i64 0, .int .u64 0, .float .f64 0, .string (⟨#[]⟩ : ByteArray), .slice none 0 0] 39 (0, 0)) (by (with_reducible repeat (first | refine blk_drewN ?_ _ | refine blk_drew ?_ | refine blk_alloc ?_ _)); exact BK252.out)) : gb252 ≠ gb253)); have n9_ := Aside0.mk ((by rw [hg]; exact Nat.ne_of_gt (blk_lt (g := gb252) (o := .cells #[.string (⟨#[]⟩ : ByteArray), .int .i64 0, .bool false, .int .i64 0, .int .u64 0, .float .f64 0, .string (⟨#[]⟩ : ByteArray), .slice none 0 0] 39 (0, 0)) (by (with_reducible repeat (first | refine blk_drewN ?_ _ | refine blk_drew ?_ | refine blk_alloc ?_ _)); exact BK252.out)) : gb253 ≠ gb252)); clear BK251; clear BK252; clear HB; have BK251 := n0_; have BK252 := n1_; have HB := n2_; have BK253 := n3_; have GW253 := n4_; have GE253 := n5_; have NB251_253 := n6_; have NB253_251 := n7_; have NB252_253 := n8_; have NB253_252 := n9_; clear n0_ n1_ n2_ n3_ n4_ n5_ n6_ n7_ n8_ n9_; clear hb hbox hg; have hnb7 := NB253_251.out; have hnc7 := NB251_253.out; have hnb8 := NB253_252.out; have hnc8 := NB252_253.out; have hcz9_0 : w6.cell? ⟨gb253, 0, none⟩ = some (.string (⟨#[]⟩ : ByteArray)) := (blk_cell BK253.out 0).trans rfl; have hcz9_1 : w6.cell? ⟨gb253, 1, none⟩ = some (.int .i64 0) := (blk_cell BK253.out 1).trans rfl; have hcz9_2 : w6.cell? ⟨gb253, 2, none⟩ = some (.bool false) := (blk_cell BK253.out 2).trans rfl; have hcz9_3 : w6.cell? ⟨gb253, 3, none⟩ = some (.int .i64 0) := (blk_cell BK253.out 3).trans rfl; have hcz9_4 : w6.cell? ⟨gb253, 4, none⟩ = some (.int .u64 0) := (blk_cell BK253.out 4).trans rfl; have hcz9_5 : w6.cell? ⟨gb253, 5, none⟩ = some (.float .f64 0) := (blk_cell BK253.out 5).trans rfl; have hcz9_6 : w6.cell? ⟨gb253, 6, none⟩ = some (.string (⟨#[]⟩ : ByteArray)) := (blk_cell BK253.out 6).trans rfl; have hcz9_7 : w6.cell? ⟨gb253, 7, none⟩ = some (.slice none 0 0) := (blk_cell BK253.out 7).trans rfl; have hfz9_0 := blk_frozen BK253.out 0; have hfz9_1 := blk_frozen BK253.out 1; have hfz9_2 := blk_frozen BK253.out 2; have hfz9_3 := blk_frozen BK253.out 3; have hfz9_4 := blk_frozen BK253.out 4; have hfz9_5 := blk_frozen BK253.out 5; have hfz9_6 := blk_frozen BK253.out 6; have hfz9_7 := blk_frozen BK253.out 7; have hcz10_0 : w6.cell? ⟨gb251, 0, none⟩ = some (.string a0_0) := (blk_cell BK251.out 0).trans rfl; have hcz10_1 : w6.cell? ⟨gb251, 1, none⟩ = some (.int .i64 a0_1) := (blk_cell BK251.out 1).trans rfl; have hcz10_2 : w6.cell? ⟨gb251, 2, none⟩ = some (.bool a0_2) := (blk_cell BK251.out 2).trans rfl; have hcz10_3 : w6.cell? ⟨gb251, 3, none⟩ = some (.int .i64 a0_3) := (blk_cell BK251.out 3).trans rfl; have hcz10_4 : w6.cell? ⟨gb251, 4, none⟩ = some (.int .u64 a0_4) := (blk_cell BK251.out 4).trans rfl; have hcz10_5 : w6.cell? ⟨gb251, 5, none⟩ = some (.float .f64 a0_5) := (blk_cell BK251.out 5).trans rfl; have hcz10_6 : w6.cell? ⟨gb251, 6, none⟩ = some (.string a0_6) := (blk_cell BK251.out 6).trans rfl; have hcz10_7 : w6.cell? ⟨gb251, 7, none⟩ = some (.slice A0_7 l0_7.length c0_7) := (blk_cell BK251.out 7).trans rfl; have hfz10_0 := blk_frozen BK251.out 0; have hfz10_1 := blk_frozen BK251.out 1; have hfz10_2 := blk_frozen BK251.out 2; have hfz10_3 := blk_frozen BK251.out 3; have hfz10_4 := blk_frozen BK251.out 4; have hfz10_5 := blk_frozen BK251.out 5; have hfz10_6 := blk_frozen BK251.out 6; have hfz10_7 := blk_frozen BK251.out 7))
  go_loopg [24] k (fun kq v24 w' => ∃ (x24_1 : Int) (x254007_1 : List (S39)) (u254007 : Value), v24 = .int .i64 x24_1 ∧ Aside0 (laws_toNode.l0 kq l0_7 (l0_7.length : Int) x24_1 a0_0 a0_1 a0_2 a0_3 a0_4 a0_5 a0_6 x254007_1 = some (r1, r2, r3, r4, r5, r6, r7, r8)) ∧ Aside0 (kq ≤ k) ∧ Aside0 (Kd.R k39 39 w' w.heap.size (fun k_ => k_ ≠ gb252 ∧ k_ ≠ gb253) u254007 x254007_1) ∧ Aside0 (w'.heap[gb251]? = some (.cells #[.string a0_0, .int .i64 a0_1, .bool a0_2, .int .i64 a0_3, .int .u64 a0_4, .float .f64 a0_5, .string a0_6, (.slice A0_7 l0_7.length c0_7)] 43 (0, 0))) ∧ Aside0 (w'.heap[gb252]? = some (.cells #[.string (⟨#[]⟩ : ByteArray), .int .i64 0, .bool false, .int .i64 0, .int .u64 0, .float .f64 0, .string (⟨#[]⟩ : ByteArray), (.slice none 0 0)] 39 (0, 0))) ∧ Aside0 (w'.heap[gb253]? = some (.cells #[.string a0_0, .int .i64 a0_1, .bool a0_2, .int .i64 a0_3, .int .u64 a0_4, .float .f64 a0_5, .string a0_6, u254007] 39 (0, 0))) ∧ Aside0 (Below w.heap.size w w'))
  case atStart => exact ⟨(0), (([] : List (S39))), (.slice none 0 0), (by first | rfl | (simp; done) | (simp [*]; done)), H', ⟨Nat.le_refl _⟩, ⟨by first | exact Kd.R_nil _ _ _ _ _ | exact Kd.N_nil _ _ _ _ _ | exact Kd.V_nil _ _ _ _ _ | exact Kd.Q_nil _ _ _ _ _ | exact Kd.S_nil _ _ _ _ _⟩, ⟨by (with_reducible repeat (first | refine blk_drewN ?_ _ | refine blk_drew ?_ | refine blk_alloc ?_ _)); refine blk_far ?_ NB251_253.out _; (with_reducible repeat (first | refine blk_drewN ?_ _ | refine blk_drew ?_ | refine blk_alloc ?_ _)); refine blk_far ?_ NB251_253.out _; (with_reducible repeat (first | refine blk_drewN ?_ _ | refine blk_drew ?_ | refine blk_alloc ?_ _)); refine blk_far ?_ NB251_253.out _; (with_reducible repeat (first | refine blk_drewN ?_ _ | refine blk_drew ?_ | refine blk_alloc ?_ _)); refine blk_far ?_ NB251_253.out _; (with_reducible repeat (first | refine blk_drewN ?_ _ | refine blk_drew ?_ | refine blk_alloc ?_ _)); refine blk_far ?_ NB251_253.out _; (with_reducible repeat (first | refine blk_drewN ?_ _ | refine blk_drew ?_ | refine blk_alloc ?_ _)); refine blk_far ?_ NB251_253.out _; (with_reducible repeat (first | refine blk_drewN ?_ _ | refine blk_drew ?_ | refine blk_alloc ?_ _)); refine blk_far ?_ NB251_253.out _; (with_reducible repeat (first | refine blk_drewN ?_ _ | refine blk_drew ?_ | refine blk_alloc ?_ _)); refine blk_far ?_ NB251_253.out _; (with_reducible repeat (first | refine blk_drewN ?_ _ | refine blk_drew ?_ | refine blk_alloc ?_ _)); exact BK251.out⟩, ⟨by (with_reducible repeat (first | refine blk_drewN ?_ _ | refine blk_drew ?_ | refine blk_alloc ?_ _)); refine blk_far ?_ NB252_253.out _; (with_reducible repeat (first | refine blk_drewN ?_ _ | refine blk_drew ?_ | refine blk_alloc ?_ _)); refine blk_far ?_ NB252_253.out _; (with_reducible repeat (first | refine blk_drewN ?_ _ | refine blk_drew ?_ | refine blk_alloc ?_ _)); refine blk_far ?_ NB252_253.out _; (with_reducible repeat (first | refine blk_drewN ?_ _ | refine blk_drew ?_ | refine blk_alloc ?_ _)); refine blk_far ?_ NB252_253.out _; (with_reducible repeat (first | refine blk_drewN ?_ _ | refine blk_drew ?_ | refine blk_alloc ?_ _)); refine blk_far ?_ NB252_253.out _; (with_reducible repeat (first | refine blk_drewN ?_ _ | refine blk_drew ?_ | refine blk_alloc ?_ _)); refine blk_far ?_ NB252_253.out _; (with_reducible repeat (first | refine blk_drewN ?_ _ | refine blk_drew ?_ | refine blk_alloc ?_ _)); refine blk_far ?_ NB252_253.out _; (with_reducible repeat (first | refine blk_drewN ?_ _ | refine blk_drew ?_ | refine blk_alloc ?_ _)); refine blk_far ?_ NB252_253.out _; (with_reducible repeat (first | refine blk_drewN ?_ _ | refine blk_drew ?_ | refine blk_alloc ?_ _)); exact BK252.out⟩, ⟨by (with_reducible repeat (first | refine blk_drewN ?_ _ | refine blk_drew ?_ | refine blk_alloc ?_ _)); refine blk_put (cs := #[.string a0_0, .int .i64 a0_1, .bool a0_2, .int .i64 a0_3, .int .u64 a0_4, .float .f64 a0_5, .string a0_6, .slice none 0 0]) ?_ 7 _ rfl; (with_reducible repeat (first | refine blk_drewN ?_ _ | refine blk_drew ?_ | refine blk_alloc ?_ _)); refine blk_put (cs := #[.string a0_0, .int .i64 a0_1, .bool a0_2, .int .i64 a0_3, .int .u64 a0_4, .float .f64 a0_5, .string (⟨#[]⟩ : ByteArray), .slice none 0 0]) ?_ 6 _ rfl; (with_reducible repeat (first | refine blk_drewN ?_ _ | refine blk_drew ?_ | refine blk_alloc ?_ _)); refine blk_put (cs := #[.string a0_0, .int .i64 a0_1, .bool a0_2, .int .i64 a0_3, .int .u64 a0_4, .float .f64 0, .string (⟨#[]⟩ : ByteArray), .slice none 0 0]) ?_ 5 _ rfl; (with_reducible repeat (first | refine blk_drewN ?_ _ | refine blk_drew ?_ | refine blk_alloc ?_ _)); refine blk_put (cs := #[.string a0_0, .int .i64 a0_1, .bool a0_2, .int .i64 a0_3, .int .u64 0, .float .f64 0, .string (⟨#[]⟩ : ByteArray), .slice none 0 0]) ?_ 4 _ rfl; (with_reducible repeat (first | refine blk_drewN ?_ _ | refine blk_drew ?_ | refine blk_alloc ?_ _)); refine blk_put (cs := #[.string a0_0, .int .i64 a0_1, .bool a0_2, .int .i64 0, .int .u64 0, .float .f64 0, .string (⟨#[]⟩ : ByteArray), .slice none 0 0]) ?_ 3 _ rfl; (with_reducible repeat (first | refine blk_drewN ?_ _ | refine blk_drew ?_ | refine blk_alloc ?_ _)); refine blk_put (cs := #[.string a0_0, .int .i64 a0_1, .bool false, .int .i64 0, .int .u64 0, .float .f64 0, .string (⟨#[]⟩ : ByteArray), .slice none 0 0]) ?_ 2 _ rfl; (with_reducible repeat (first | refine blk_drewN ?_ _ | refine blk_drew ?_ | refine blk_alloc ?_ _)); refine blk_put (cs := #[.string a0_0, .int .i64 0, .bool false, .int .i64 0, .int .u64 0, .float .f64 0, .string (⟨#[]⟩ : ByteArray), .slice none 0 0]) ?_ 1 _ rfl; (with_reducible repeat (first | refine blk_drewN ?_ _ | refine blk_drew ?_ | refine blk_alloc ?_ _)); refine blk_put (cs := #[.string (⟨#[]⟩ : ByteArray), .int .i64 0, .bool false, .int .i64 0, .int .u64 0, .float .f64 0, .string (⟨#[]⟩ : ByteArray), .slice none 0 0]) ?_ 0 _ rfl; (with_reducible repeat (first | refine blk_drewN ?_ _ | refine blk_drew ?_ | refine blk_alloc ?_ _)); exact BK253.out⟩, ⟨by repeat (first | (with_reducible first | exact HB.out | apply below_alloc | apply pw_below_drewN | apply below_drew1 | refine below_set ?_ GE251.out | refine below_set ?_ GE252.out | refine below_set ?_ GE253.out) | exact HB.out)⟩⟩
  case round =>
    clear H'
    try clear p2
    try clear c4
    try clear c7
    try clear c8
    try clear hcz10_0
    try clear hcz10_1
    try clear hcz10_2
    try clear hcz10_3
    try clear hcz10_4
    try clear hcz10_5
    try clear hcz10_6
    try clear hcz10_7
    try clear hcz5_0
    try clear hcz5_1
    try clear hcz5_2
    try clear hcz5_3
    try clear hcz5_4
    try clear hcz5_5
    try clear hcz5_6
    try clear hcz5_7
    try clear hcz9_0
    try clear hcz9_1
    try clear hcz9_2
    try clear hcz9_3
    try clear hcz9_4
    try clear hcz9_5
    try clear hcz9_6
    try clear hcz9_7
    try clear hfz10_0
    try clear hfz10_1
    try clear hfz10_2
    try clear hfz10_3
    try clear hfz10_4
    try clear hfz10_5
    try clear hfz10_6
    try clear hfz10_7
    try clear hfz5_0
    try clear hfz5_1
    try clear hfz5_2
    try clear hfz5_3
    try clear hfz5_4
    try clear hfz5_5
    try clear hfz5_6
    try clear hfz5_7
    try clear hfz9_0
    try clear hfz9_1
    try clear hfz9_2
    try clear hfz9_3
    try clear hfz9_4
    try clear hfz9_5
    try clear hfz9_6
    try clear hfz9_7
    obtain ⟨x24_1, x254007_1, u254007, rfl, HA, HK1, HO_254007, BK251, BK252, BK253, HB⟩ := hrel
    cases gk with
    | zero => exact absurd HA.out (by simp [laws_toNode.l0])
    | succ k1 =>
      have H := HA.out
      clear HA
      simp only [laws_toNode.l0] at H
      by_cases c11 : x24_1 < (l0_7.length : Int)
      · rw [if_pos c11] at H
        have c11b0 : decide (x24_1 < (l0_7.length : Int)) = true := decide_eq_true c11
        clear c11
        replace H := guard_inv H
        obtain ⟨c12, H⟩ := H
        have c12b0 : decide (0 ≤ x24_1) = true := decide_eq_true c12
        clear c12
        replace H := guard_inv H
        obtain ⟨c13, H⟩ := H
        have c13b0 : decide (x24_1 < (l0_7.length : Int)) = true := decide_eq_true c13
        clear c13
        replace H := Option.bind_eq_some_iff.mp H
        obtain ⟨⟨t256, t257, t258, t259, t260, t261, t262, t263⟩, A140, H⟩ := H
        replace H : (if x254007_1.length < 1466015503701 then (laws_toNode.l0 k1 l0_7 (l0_7.length : Int) (wrap64 (x24_1 + 1)) a0_0 a0_1 a0_2 a0_3 a0_4 a0_5 a0_6 (x254007_1 ++ [(⟨t256, t257, t258, t259, t260, t261, t262, t263⟩ : S39)])) else (none)) = some (r1, r2, r3, r4, r5, r6, r7, r8) := H
        have A14 := Aside0.mk A140
        clear A140
        replace H := guard_inv H
        obtain ⟨c15, H⟩ := H
        have LMc15 := Aside0.mk c15
        clear c15
        obtain ⟨y266, hy266⟩ : ∃ y_ : List (S39), y_ = (x254007_1 ++ [(⟨t256, t257, t258, t259, t260, t261, t262, t263⟩ : S39)]) := ⟨_, rfl⟩
        replace H : (laws_toNode.l0 k1 l0_7 (l0_7.length : Int) (wrap64 (x24_1 + 1)) a0_0 a0_1 a0_2 a0_3 a0_4 a0_5 a0_6 y266) = some (r1, r2, r3, r4, r5, r6, r7, r8) := by first | (rw [hy266]; with_reducible exact H) | (have H2_ := (Option.bind_some _ _).symm.trans H; rw [hy266]; with_reducible exact H2_) | (have H2_ := (Option.bind_some _ _).symm.trans H; with_reducible exact H2_) | with_reducible exact H | (rw [hy266]; exact H) | exact H
        have Ny266 := Aside0.mk hy266
        clear hy266
        have H' := Aside0.mk H
        clear H
        have p254 : 0 ≤ (x24_1 : Int) := of_decide_eq_true (by first | (with_reducible assumption) | assumption)
        have q254 : x24_1 < (l0_7.length : Int) := of_decide_eq_true (by first | (with_reducible assumption) | assumption)
        obtain ⟨ad254, A254_7, c254_7, e254, hx254_0, hx254_1, hx254_2, hx254_3, hx254_4, hx254_5, hx254_6, hx254_7, hl254_7, hi254_7⟩ := at_T43 HR0_7.out x24_1 p254 q254
        cases e254
        replace hx254_0 := (HB.out.cell (World.block_lt_of_cell? w _ hx254_0)).trans hx254_0
        replace hx254_1 := (HB.out.cell (World.block_lt_of_cell? w _ hx254_1)).trans hx254_1
        replace hx254_2 := (HB.out.cell (World.block_lt_of_cell? w _ hx254_2)).trans hx254_2
        replace hx254_3 := (HB.out.cell (World.block_lt_of_cell? w _ hx254_3)).trans hx254_3
        replace hx254_4 := (HB.out.cell (World.block_lt_of_cell? w _ hx254_4)).trans hx254_4
        replace hx254_5 := (HB.out.cell (World.block_lt_of_cell? w _ hx254_5)).trans hx254_5
        replace hx254_6 := (HB.out.cell (World.block_lt_of_cell? w _ hx254_6)).trans hx254_6
        replace hx254_7 := (HB.out.cell (World.block_lt_of_cell? w _ hx254_7)).trans hx254_7
        have HR254_7 := Aside0.mk hi254_7
        have HC254_7 := Aside0.mk hl254_7
        clear hi254_7 hl254_7
        replace p254 := eq_true p254
        replace q254 := eq_true q254
        try go_wp2_with (first | ((with_reducible refine gate_dst (N := 5) rfl ?_); refine box_event ?hg (N := 5) ?hd (cs := #[.string (⟨#[]⟩ : ByteArray), .int .i64 0, .bool false, .int .i64 0, .int .u64 0, .float .f64 0, .string (⟨#[]⟩ : ByteArray), .slice none 0 0]) (t := 43) ?hr ?_; (case hd => rfl); (case hg => rfl); (case hr => first | (go_simp; done) | (go_simp; rfl)); intro gb255 hg w16 hbox hb; have n0_ := Aside0.mk (Kd.R_below (by (with_reducible repeat (first | apply Kd.R_alloc | apply Kd.R_drewN | apply Kd.R_drew)); exact HO_254007.out) hb); have n1_ := Aside0.mk (blk_below (g := gb251) (o := .cells #[.string a0_0, .int .i64 a0_1, .bool a0_2, .int .i64 a0_3, .int .u64 a0_4, .float .f64 a0_5, .string a0_6, .slice (some ad254) l0_7.length c0_7] 43 (0, 0)) (by (with_reducible repeat (first | refine blk_drewN ?_ _ | refine blk_drew ?_ | refine blk_alloc ?_ _)); exact BK251.out) hb); have n2_ := Aside0.mk (blk_below (g := gb252) (o := .cells #[.string (⟨#[]⟩ : ByteArray), .int .i64 0, .bool false, .int .i64 0, .int .u64 0, .float .f64 0, .string (⟨#[]⟩ : ByteArray), .slice none 0 0] 39 (0, 0)) (by (with_reducible repeat (first | refine blk_drewN ?_ _ | refine blk_drew ?_ | refine blk_alloc ?_ _)); exact BK252.out) hb); have n3_ := Aside0.mk (blk_below (g := gb253) (o := .cells #[.string a0_0, .int .i64 a0_1, .bool a0_2, .int .i64 a0_3, .int .u64 a0_4, .float .f64 a0_5, .string a0_6, u254007] 39 (0, 0)) (by (with_reducible repeat (first | refine blk_drewN ?_ _ | refine blk_drew ?_ | refine blk_alloc ?_ _)); exact BK253.out) hb); have n4_ := Aside0.mk (below_step (by repeat (first | (with_reducible first | exact HB.out | apply below_alloc | apply pw_below_drewN | apply below_drew1 | refine below_set ?_ GE251.out | refine below_set ?_ GE252.out | refine below_set ?_ GE253.out) | exact HB.out)) hb); have n5_ := Aside0.mk (hbox); have n6_ := Aside0.mk ((by rw [hg]; exact (below_size (by repeat (first | (with_reducible first | exact HB.out | apply below_alloc | apply pw_below_drewN | apply below_drew1 | refine below_set ?_ GE251.out | refine below_set ?_ GE252.out | refine below_set ?_ GE253.out) | exact HB.out))) : w.heap.size ≤ gb255)); have n7_ := Aside0.mk ((by rw [hg]; exact (below_size (by repeat (first | (with_reducible first | exact HB.out | apply below_alloc | apply pw_below_drewN | apply below_drew1 | refine below_set ?_ GE251.out | refine below_set ?_ GE252.out | refine below_set ?_ GE253.out) | exact HB.out))) : w.heap.size ≤ gb255)); have n8_ := Aside0.mk ((by rw [hg]; exact Nat.ne_of_lt (blk_lt (g := gb251) (o := .cells #[.string a0_0, .int .i64 a0_1, .bool a0_2, .int .i64 a0_3, .int .u64 a0_4, .float .f64 a0_5, .string a0_6, .slice (some ad254) l0_7.length c0_7] 43 (0, 0)) (by (with_reducible repeat (first | refine blk_drewN ?_ _ | refine blk_drew ?_ | refine blk_alloc ?_ _)); exact BK251.out)) : gb251 ≠ gb255)); have n9_ := Aside0.mk ((by rw [hg]; exact Nat.ne_of_gt (blk_lt (g := gb251) (o := .cells #[.string a0_0, .int .i64 a0_1, .bool a0_2, .int .i64 a0_3, .int .u64 a0_4, .float .f64 a0_5, .string a0_6, .slice (some ad254) l0_7.length c0_7] 43 (0, 0)) (by (with_reducible repeat (first | refine blk_drewN ?_ _ | refine blk_drew ?_ | refine blk_alloc ?_ _)); exact BK251.out)) : gb255 ≠ gb251)); have n10_ := Aside0.mk ((by rw [hg]; exact Nat.ne_of_lt (blk_lt (g := gb252) (o := .cells #[.string (⟨#[]⟩ : ByteArray), .int .i64 0, .bool false, .int .i64 0, .int .u64 0, .float .f64 0, .string (⟨#[]⟩ : ByteArray), .slice none 0 0] 39 (0, 0)) (by (with_reducible repeat (first | refine blk_drewN ?_ _ | refine blk_drew ?_ | refine blk_alloc ?_ _)); exact BK252.out)) : gb252 ≠ gb255)); have n11_ := Aside0.mk ((by rw [hg]; exact Nat.ne_of_gt (blk_lt (g := gb252) (o := .cells #[.string (⟨#[]⟩ : ByteArray), .int .i64 0, .bool false, .int .i64 0, .int .u64 0, .float .f64 0, .string (⟨#[]⟩ : ByteArray), .slice none 0 0] 39 (0, 0)) (by (with_reducible repeat (first | refine blk_drewN ?_ _ | refine blk_drew ?_ | refine blk_alloc ?_ _)); exact BK252.out)) : gb255 ≠ gb252)); have n12_ := Aside0.mk ((by rw [hg]; exact Nat.ne_of_lt (blk_lt (g := gb253) (o := .cells #[.string a0_0, .int .i64 a0_1, .bool a0_2, .int .i64 a0_3, .int .u64 a0_4, .float .f64 a0_5, .string a0_6, u254007] 39 (0, 0)) (by (with_reducible repeat (first | refine blk_drewN ?_ _ | refine blk_drew ?_ | refine blk_alloc ?_ _)); exact BK253.out)) : gb253 ≠ gb255)); have n13_ := Aside0.mk ((by rw [hg]; exact Nat.ne_of_gt (blk_lt (g := gb253) (o := .cells #[.string a0_0, .int .i64 a0_1, .bool a0_2, .int .i64 a0_3, .int .u64 a0_4, .float .f64 a0_5, .string a0_6, u254007] 39 (0, 0)) (by (with_reducible repeat (first | refine blk_drewN ?_ _ | refine blk_drew ?_ | refine blk_alloc ?_ _)); exact BK253.out)) : gb255 ≠ gb253)); clear HO_254007; clear BK251; clear BK252; clear BK253; clear HB; have HO_254007 := n0_; have BK251 := n1_; have BK252 := n2_; have BK253 := n3_; have HB := n4_; have BK255 := n5_; have GW255 := n6_; have GE255 := n7_; have NB251_255 := n8_; have NB255_251 := n9_; have NB252_255 := n10_; have NB255_252 := n11_; have NB253_255 := n12_; have NB255_253 := n13_; clear n0_ n1_ n2_ n3_ n4_ n5_ n6_ n7_ n8_ n9_ n10_ n11_ n12_ n13_; clear hb hbox hg; have hnb17 := NB255_251.out; have hnc17 := NB251_255.out; have hnb18 := NB255_252.out; have hnc18 := NB252_255.out; have hnb19 := NB255_253.out; have hnc19 := NB253_255.out; have hcz20_0 : w16.cell? ⟨gb255, 0, none⟩ = some (.string (⟨#[]⟩ : ByteArray)) := (blk_cell BK255.out 0).trans rfl; have hcz20_1 : w16.cell? ⟨gb255, 1, none⟩ = some (.int .i64 0) := (blk_cell BK255.out 1).trans rfl; have hcz20_2 : w16.cell? ⟨gb255, 2, none⟩ = some (.bool false) := (blk_cell BK255.out 2).trans rfl; have hcz20_3 : w16.cell? ⟨gb255, 3, none⟩ = some (.int .i64 0) := (blk_cell BK255.out 3).trans rfl; have hcz20_4 : w16.cell? ⟨gb255, 4, none⟩ = some (.int .u64 0) := (blk_cell BK255.out 4).trans rfl; have hcz20_5 : w16.cell? ⟨gb255, 5, none⟩ = some (.float .f64 0) := (blk_cell BK255.out 5).trans rfl; have hcz20_6 : w16.cell? ⟨gb255, 6, none⟩ = some (.string (⟨#[]⟩ : ByteArray)) := (blk_cell BK255.out 6).trans rfl; have hcz20_7 : w16.cell? ⟨gb255, 7, none⟩ = some (.slice none 0 0) := (blk_cell BK255.out 7).trans rfl; have hfz20_0 := blk_frozen BK255.out 0; have hfz20_1 := blk_frozen BK255.out 1; have hfz20_2 := blk_frozen BK255.out 2; have hfz20_3 := blk_frozen BK255.out 3; have hfz20_4 := blk_frozen BK255.out 4; have hfz20_5 := blk_frozen BK255.out 5; have hfz20_6 := blk_frozen BK255.out 6; have hfz20_7 := blk_frozen BK255.out 7))
        have n0_ : Aside0 (Kd.R k39 39 ((((((((w16.setCell ⟨gb255, 0, none⟩ (.string ((rd_T43 l0_7 x24_1).f0))).setCell ⟨gb255, 1, none⟩ (.int .i64 ((rd_T43 l0_7 x24_1).f1))).setCell ⟨gb255, 2, none⟩ (.bool ((rd_T43 l0_7 x24_1).f2))).setCell ⟨gb255, 3, none⟩ (.int .i64 ((rd_T43 l0_7 x24_1).f3))).setCell ⟨gb255, 4, none⟩ (.int .u64 ((rd_T43 l0_7 x24_1).f4))).setCell ⟨gb255, 5, none⟩ (.float .f64 ((rd_T43 l0_7 x24_1).f5))).setCell ⟨gb255, 6, none⟩ (.string ((rd_T43 l0_7 x24_1).f6))).setCell ⟨gb255, 7, none⟩ (.slice A254_7 ((rd_T43 l0_7 x24_1).f7).length c254_7)) w.heap.size (fun k_ => k_ ≠ gb252 ∧ k_ ≠ gb253) u254007 x254007_1) := ⟨by (with_reducible repeat (first | apply Kd.R_alloc | apply Kd.R_drewN | apply Kd.R_drew)); exact Kd.R_mono (Kd.R_far (p := ⟨gb255, 7, none⟩) (Kd.R_far (p := ⟨gb255, 6, none⟩) (Kd.R_far (p := ⟨gb255, 5, none⟩) (Kd.R_far (p := ⟨gb255, 4, none⟩) (Kd.R_far (p := ⟨gb255, 3, none⟩) (Kd.R_far (p := ⟨gb255, 2, none⟩) (Kd.R_far (p := ⟨gb255, 1, none⟩) (Kd.R_far (p := ⟨gb255, 0, none⟩) (Kd.R_types HO_254007.out BK255.out (by decide)) (fun _ hk => hk.2) (.string ((rd_T43 l0_7 x24_1).f0))) (fun _ hk => hk.2) (.int .i64 ((rd_T43 l0_7 x24_1).f1))) (fun _ hk => hk.2) (.bool ((rd_T43 l0_7 x24_1).f2))) (fun _ hk => hk.2) (.int .i64 ((rd_T43 l0_7 x24_1).f3))) (fun _ hk => hk.2) (.int .u64 ((rd_T43 l0_7 x24_1).f4))) (fun _ hk => hk.2) (.float .f64 ((rd_T43 l0_7 x24_1).f5))) (fun _ hk => hk.2) (.string ((rd_T43 l0_7 x24_1).f6))) (fun _ hk => hk.2) (.slice A254_7 ((rd_T43 l0_7 x24_1).f7).length c254_7)) (fun _ hk => ⟨hk.1.1, hk.1.2⟩)⟩
        have n1_ : Aside0 (((((((((w16.setCell ⟨gb255, 0, none⟩ (.string ((rd_T43 l0_7 x24_1).f0))).setCell ⟨gb255, 1, none⟩ (.int .i64 ((rd_T43 l0_7 x24_1).f1))).setCell ⟨gb255, 2, none⟩ (.bool ((rd_T43 l0_7 x24_1).f2))).setCell ⟨gb255, 3, none⟩ (.int .i64 ((rd_T43 l0_7 x24_1).f3))).setCell ⟨gb255, 4, none⟩ (.int .u64 ((rd_T43 l0_7 x24_1).f4))).setCell ⟨gb255, 5, none⟩ (.float .f64 ((rd_T43 l0_7 x24_1).f5))).setCell ⟨gb255, 6, none⟩ (.string ((rd_T43 l0_7 x24_1).f6))).setCell ⟨gb255, 7, none⟩ (.slice A254_7 ((rd_T43 l0_7 x24_1).f7).length c254_7)).heap[gb251]? = some (.cells #[.string a0_0, .int .i64 a0_1, .bool a0_2, .int .i64 a0_3, .int .u64 a0_4, .float .f64 a0_5, .string a0_6, .slice (some ad254) l0_7.length c0_7] 43 (0, 0))) := ⟨by (with_reducible repeat (first | refine blk_drewN ?_ _ | refine blk_drew ?_ | refine blk_alloc ?_ _)); refine blk_far ?_ NB251_255.out _; (with_reducible repeat (first | refine blk_drewN ?_ _ | refine blk_drew ?_ | refine blk_alloc ?_ _)); refine blk_far ?_ NB251_255.out _; (with_reducible repeat (first | refine blk_drewN ?_ _ | refine blk_drew ?_ | refine blk_alloc ?_ _)); refine blk_far ?_ NB251_255.out _; (with_reducible repeat (first | refine blk_drewN ?_ _ | refine blk_drew ?_ | refine blk_alloc ?_ _)); refine blk_far ?_ NB251_255.out _; (with_reducible repeat (first | refine blk_drewN ?_ _ | refine blk_drew ?_ | refine blk_alloc ?_ _)); refine blk_far ?_ NB251_255.out _; (with_reducible repeat (first | refine blk_drewN ?_ _ | refine blk_drew ?_ | refine blk_alloc ?_ _)); refine blk_far ?_ NB251_255.out _; (with_reducible repeat (first | refine blk_drewN ?_ _ | refine blk_drew ?_ | refine blk_alloc ?_ _)); refine blk_far ?_ NB251_255.out _; (with_reducible repeat (first | refine blk_drewN ?_ _ | refine blk_drew ?_ | refine blk_alloc ?_ _)); refine blk_far ?_ NB251_255.out _; (with_reducible repeat (first | refine blk_drewN ?_ _ | refine blk_drew ?_ | refine blk_alloc ?_ _)); exact BK251.out⟩
        have n2_ : Aside0 (((((((((w16.setCell ⟨gb255, 0, none⟩ (.string ((rd_T43 l0_7 x24_1).f0))).setCell ⟨gb255, 1, none⟩ (.int .i64 ((rd_T43 l0_7 x24_1).f1))).setCell ⟨gb255, 2, none⟩ (.bool ((rd_T43 l0_7 x24_1).f2))).setCell ⟨gb255, 3, none⟩ (.int .i64 ((rd_T43 l0_7 x24_1).f3))).setCell ⟨gb255, 4, none⟩ (.int .u64 ((rd_T43 l0_7 x24_1).f4))).setCell ⟨gb255, 5, none⟩ (.float .f64 ((rd_T43 l0_7 x24_1).f5))).setCell ⟨gb255, 6, none⟩ (.string ((rd_T43 l0_7 x24_1).f6))).setCell ⟨gb255, 7, none⟩ (.slice A254_7 ((rd_T43 l0_7 x24_1).f7).length c254_7)).heap[gb252]? = some (.cells #[.string (⟨#[]⟩ : ByteArray), .int .i64 0, .bool false, .int .i64 0, .int .u64 0, .float .f64 0, .string (⟨#[]⟩ : ByteArray), .slice none 0 0] 39 (0, 0))) := ⟨by (with_reducible repeat (first | refine blk_drewN ?_ _ | refine blk_drew ?_ | refine blk_alloc ?_ _)); refine blk_far ?_ NB252_255.out _; (with_reducible repeat (first | refine blk_drewN ?_ _ | refine blk_drew ?_ | refine blk_alloc ?_ _)); refine blk_far ?_ NB252_255.out _; (with_reducible repeat (first | refine blk_drewN ?_ _ | refine blk_drew ?_ | refine blk_alloc ?_ _)); refine blk_far ?_ NB252_255.out _; (with_reducible repeat (first | refine blk_drewN ?_ _ | refine blk_drew ?_ | refine blk_alloc ?_ _)); refine blk_far ?_ NB252_255.out _; (with_reducible repeat (first | refine blk_drewN ?_ _ | refine blk_drew ?_ | refine blk_alloc ?_ _)); refine blk_far ?_ NB252_255.out _; (with_reducible repeat (first | refine blk_drewN ?_ _ | refine blk_drew ?_ | refine blk_alloc ?_ _)); refine blk_far ?_ NB252_255.out _; (with_reducible repeat (first | refine blk_drewN ?_ _ | refine blk_drew ?_ | refine blk_alloc ?_ _)); refine blk_far ?_ NB252_255.out _; (with_reducible repeat (first | refine blk_drewN ?_ _ | refine blk_drew ?_ | refine blk_alloc ?_ _)); refine blk_far ?_ NB252_255.out _; (with_reducible repeat (first | refine blk_drewN ?_ _ | refine blk_drew ?_ | refine blk_alloc ?_ _)); exact BK252.out⟩
        have n3_ : Aside0 (((((((((w16.setCell ⟨gb255, 0, none⟩ (.string ((rd_T43 l0_7 x24_1).f0))).setCell ⟨gb255, 1, none⟩ (.int .i64 ((rd_T43 l0_7 x24_1).f1))).setCell ⟨gb255, 2, none⟩ (.bool ((rd_T43 l0_7 x24_1).f2))).setCell ⟨gb255, 3, none⟩ (.int .i64 ((rd_T43 l0_7 x24_1).f3))).setCell ⟨gb255, 4, none⟩ (.int .u64 ((rd_T43 l0_7 x24_1).f4))).setCell ⟨gb255, 5, none⟩ (.float .f64 ((rd_T43 l0_7 x24_1).f5))).setCell ⟨gb255, 6, none⟩ (.string ((rd_T43 l0_7 x24_1).f6))).setCell ⟨gb255, 7, none⟩ (.slice A254_7 ((rd_T43 l0_7 x24_1).f7).length c254_7)).heap[gb253]? = some (.cells #[.string a0_0, .int .i64 a0_1, .bool a0_2, .int .i64 a0_3, .int .u64 a0_4, .float .f64 a0_5, .string a0_6, u254007] 39 (0, 0))) := ⟨by (with_reducible repeat (first | refine blk_drewN ?_ _ | refine blk_drew ?_ | refine blk_alloc ?_ _)); refine blk_far ?_ NB253_255.out _; (with_reducible repeat (first | refine blk_drewN ?_ _ | refine blk_drew ?_ | refine blk_alloc ?_ _)); refine blk_far ?_ NB253_255.out _; (with_reducible repeat (first | refine blk_drewN ?_ _ | refine blk_drew ?_ | refine blk_alloc ?_ _)); refine blk_far ?_ NB253_255.out _; (with_reducible repeat (first | refine blk_drewN ?_ _ | refine blk_drew ?_ | refine blk_alloc ?_ _)); refine blk_far ?_ NB253_255.out _; (with_reducible repeat (first | refine blk_drewN ?_ _ | refine blk_drew ?_ | refine blk_alloc ?_ _)); refine blk_far ?_ NB253_255.out _; (with_reducible repeat (first | refine blk_drewN ?_ _ | refine blk_drew ?_ | refine blk_alloc ?_ _)); refine blk_far ?_ NB253_255.out _; (with_reducible repeat (first | refine blk_drewN ?_ _ | refine blk_drew ?_ | refine blk_alloc ?_ _)); refine blk_far ?_ NB253_255.out _; (with_reducible repeat (first | refine blk_drewN ?_ _ | refine blk_drew ?_ | refine blk_alloc ?_ _)); refine blk_far ?_ NB253_255.out _; (with_reducible repeat (first | refine blk_drewN ?_ _ | refine blk_drew ?_ | refine blk_alloc ?_ _)); exact BK253.out⟩
        have n4_ : Aside0 (((((((((w16.setCell ⟨gb255, 0, none⟩ (.string ((rd_T43 l0_7 x24_1).f0))).setCell ⟨gb255, 1, none⟩ (.int .i64 ((rd_T43 l0_7 x24_1).f1))).setCell ⟨gb255, 2, none⟩ (.bool ((rd_T43 l0_7 x24_1).f2))).setCell ⟨gb255, 3, none⟩ (.int .i64 ((rd_T43 l0_7 x24_1).f3))).setCell ⟨gb255, 4, none⟩ (.int .u64 ((rd_T43 l0_7 x24_1).f4))).setCell ⟨gb255, 5, none⟩ (.float .f64 ((rd_T43 l0_7 x24_1).f5))).setCell ⟨gb255, 6, none⟩ (.string ((rd_T43 l0_7 x24_1).f6))).setCell ⟨gb255, 7, none⟩ (.slice A254_7 ((rd_T43 l0_7 x24_1).f7).length c254_7)).heap[gb255]? = some (.cells #[.string ((rd_T43 l0_7 x24_1).f0), .int .i64 ((rd_T43 l0_7 x24_1).f1), .bool ((rd_T43 l0_7 x24_1).f2), .int .i64 ((rd_T43 l0_7 x24_1).f3), .int .u64 ((rd_T43 l0_7 x24_1).f4), .float .f64 ((rd_T43 l0_7 x24_1).f5), .string ((rd_T43 l0_7 x24_1).f6), .slice A254_7 ((rd_T43 l0_7 x24_1).f7).length c254_7] 43 (0, 0))) := ⟨by (with_reducible repeat (first | refine blk_drewN ?_ _ | refine blk_drew ?_ | refine blk_alloc ?_ _)); refine blk_put (cs := #[.string ((rd_T43 l0_7 x24_1).f0), .int .i64 ((rd_T43 l0_7 x24_1).f1), .bool ((rd_T43 l0_7 x24_1).f2), .int .i64 ((rd_T43 l0_7 x24_1).f3), .int .u64 ((rd_T43 l0_7 x24_1).f4), .float .f64 ((rd_T43 l0_7 x24_1).f5), .string ((rd_T43 l0_7 x24_1).f6), .slice none 0 0]) ?_ 7 _ rfl; (with_reducible repeat (first | refine blk_drewN ?_ _ | refine blk_drew ?_ | refine blk_alloc ?_ _)); refine blk_put (cs := #[.string ((rd_T43 l0_7 x24_1).f0), .int .i64 ((rd_T43 l0_7 x24_1).f1), .bool ((rd_T43 l0_7 x24_1).f2), .int .i64 ((rd_T43 l0_7 x24_1).f3), .int .u64 ((rd_T43 l0_7 x24_1).f4), .float .f64 ((rd_T43 l0_7 x24_1).f5), .string (⟨#[]⟩ : ByteArray), .slice none 0 0]) ?_ 6 _ rfl; (with_reducible repeat (first | refine blk_drewN ?_ _ | refine blk_drew ?_ | refine blk_alloc ?_ _)); refine blk_put (cs := #[.string ((rd_T43 l0_7 x24_1).f0), .int .i64 ((rd_T43 l0_7 x24_1).f1), .bool ((rd_T43 l0_7 x24_1).f2), .int .i64 ((rd_T43 l0_7 x24_1).f3), .int .u64 ((rd_T43 l0_7 x24_1).f4), .float .f64 0, .string (⟨#[]⟩ : ByteArray), .slice none 0 0]) ?_ 5 _ rfl; (with_reducible repeat (first | refine blk_drewN ?_ _ | refine blk_drew ?_ | refine blk_alloc ?_ _)); refine blk_put (cs := #[.string ((rd_T43 l0_7 x24_1).f0), .int .i64 ((rd_T43 l0_7 x24_1).f1), .bool ((rd_T43 l0_7 x24_1).f2), .int .i64 ((rd_T43 l0_7 x24_1).f3), .int .u64 0, .float .f64 0, .string (⟨#[]⟩ : ByteArray), .slice none 0 0]) ?_ 4 _ rfl; (with_reducible repeat (first | refine blk_drewN ?_ _ | refine blk_drew ?_ | refine blk_alloc ?_ _)); refine blk_put (cs := #[.string ((rd_T43 l0_7 x24_1).f0), .int .i64 ((rd_T43 l0_7 x24_1).f1), .bool ((rd_T43 l0_7 x24_1).f2), .int .i64 0, .int .u64 0, .float .f64 0, .string (⟨#[]⟩ : ByteArray), .slice none 0 0]) ?_ 3 _ rfl; (with_reducible repeat (first | refine blk_drewN ?_ _ | refine blk_drew ?_ | refine blk_alloc ?_ _)); refine blk_put (cs := #[.string ((rd_T43 l0_7 x24_1).f0), .int .i64 ((rd_T43 l0_7 x24_1).f1), .bool false, .int .i64 0, .int .u64 0, .float .f64 0, .string (⟨#[]⟩ : ByteArray), .slice none 0 0]) ?_ 2 _ rfl; (with_reducible repeat (first | refine blk_drewN ?_ _ | refine blk_drew ?_ | refine blk_alloc ?_ _)); refine blk_put (cs := #[.string ((rd_T43 l0_7 x24_1).f0), .int .i64 0, .bool false, .int .i64 0, .int .u64 0, .float .f64 0, .string (⟨#[]⟩ : ByteArray), .slice none 0 0]) ?_ 1 _ rfl; (with_reducible repeat (first | refine blk_drewN ?_ _ | refine blk_drew ?_ | refine blk_alloc ?_ _)); refine blk_put (cs := #[.string (⟨#[]⟩ : ByteArray), .int .i64 0, .bool false, .int .i64 0, .int .u64 0, .float .f64 0, .string (⟨#[]⟩ : ByteArray), .slice none 0 0]) ?_ 0 _ rfl; (with_reducible repeat (first | refine blk_drewN ?_ _ | refine blk_drew ?_ | refine blk_alloc ?_ _)); exact BK255.out⟩
        have n5_ : Aside0 (Below w.heap.size w ((((((((w16.setCell ⟨gb255, 0, none⟩ (.string ((rd_T43 l0_7 x24_1).f0))).setCell ⟨gb255, 1, none⟩ (.int .i64 ((rd_T43 l0_7 x24_1).f1))).setCell ⟨gb255, 2, none⟩ (.bool ((rd_T43 l0_7 x24_1).f2))).setCell ⟨gb255, 3, none⟩ (.int .i64 ((rd_T43 l0_7 x24_1).f3))).setCell ⟨gb255, 4, none⟩ (.int .u64 ((rd_T43 l0_7 x24_1).f4))).setCell ⟨gb255, 5, none⟩ (.float .f64 ((rd_T43 l0_7 x24_1).f5))).setCell ⟨gb255, 6, none⟩ (.string ((rd_T43 l0_7 x24_1).f6))).setCell ⟨gb255, 7, none⟩ (.slice A254_7 ((rd_T43 l0_7 x24_1).f7).length c254_7))) := ⟨by repeat (first | (with_reducible first | exact HB.out | apply below_alloc | apply pw_below_drewN | apply below_drew1 | refine below_set ?_ GE251.out | refine below_set ?_ GE252.out | refine below_set ?_ GE253.out | refine below_set ?_ GE255.out) | exact HB.out)⟩
        (try clear HO_254007)
        (try clear BK251)
        (try clear BK252)
        (try clear BK253)
        (try clear BK255)
        (try clear HB)
        generalize ((((((((w16.setCell ⟨gb255, 0, none⟩ (.string ((rd_T43 l0_7 x24_1).f0))).setCell ⟨gb255, 1, none⟩ (.int .i64 ((rd_T43 l0_7 x24_1).f1))).setCell ⟨gb255, 2, none⟩ (.bool ((rd_T43 l0_7 x24_1).f2))).setCell ⟨gb255, 3, none⟩ (.int .i64 ((rd_T43 l0_7 x24_1).f3))).setCell ⟨gb255, 4, none⟩ (.int .u64 ((rd_T43 l0_7 x24_1).f4))).setCell ⟨gb255, 5, none⟩ (.float .f64 ((rd_T43 l0_7 x24_1).f5))).setCell ⟨gb255, 6, none⟩ (.string ((rd_T43 l0_7 x24_1).f6))).setCell ⟨gb255, 7, none⟩ (.slice A254_7 ((rd_T43 l0_7 x24_1).f7).length c254_7)) = w21 at n0_ n1_ n2_ n3_ n4_ n5_ ⊢
        have HO_254007 := n0_
        have BK251 := n1_
        have BK252 := n2_
        have BK253 := n3_
        have BK255 := n4_
        have HB := n5_
        clear n0_ n1_ n2_ n3_ n4_ n5_
        have n0_ := Aside0.mk (Kd.R_drew HO_254007.out)
        have n1_ := Aside0.mk (blk_drew BK251.out)
        have n2_ := Aside0.mk (blk_drew BK252.out)
        have n3_ := Aside0.mk (blk_drew BK253.out)
        have n4_ := Aside0.mk (blk_drew BK255.out)
        have n5_ := Aside0.mk (below_drew1 HB.out)
        clear HO_254007
        clear BK251
        clear BK252
        clear BK253
        clear BK255
        clear HB
        have HO_254007 := n0_
        have BK251 := n1_
        have BK252 := n2_
        have BK253 := n3_
        have BK255 := n4_
        have HB := n5_
        clear n0_ n1_ n2_ n3_ n4_ n5_
        refine start_ (n := 8) (S := fun w' => w'.cell? ⟨gb253, 0, none⟩ = some (.string a0_0) ∧ w'.cell? ⟨gb253, 1, none⟩ = some (.int .i64 a0_1) ∧ w'.cell? ⟨gb253, 2, none⟩ = some (.bool a0_2) ∧ w'.cell? ⟨gb253, 3, none⟩ = some (.int .i64 a0_3) ∧ w'.cell? ⟨gb253, 4, none⟩ = some (.int .u64 a0_4) ∧ w'.cell? ⟨gb253, 5, none⟩ = some (.float .f64 a0_5) ∧ w'.cell? ⟨gb253, 6, none⟩ = some (.string a0_6) ∧ w'.cell? ⟨gb253, 7, none⟩ = some (u254007) ∧ w'.cell? ⟨gb255, 0, none⟩ = some (.string ((rd_T43 l0_7 x24_1).f0)) ∧ w'.cell? ⟨gb255, 1, none⟩ = some (.int .i64 ((rd_T43 l0_7 x24_1).f1)) ∧ w'.cell? ⟨gb255, 2, none⟩ = some (.bool ((rd_T43 l0_7 x24_1).f2)) ∧ w'.cell? ⟨gb255, 3, none⟩ = some (.int .i64 ((rd_T43 l0_7 x24_1).f3)) ∧ w'.cell? ⟨gb255, 4, none⟩ = some (.int .u64 ((rd_T43 l0_7 x24_1).f4)) ∧ w'.cell? ⟨gb255, 5, none⟩ = some (.float .f64 ((rd_T43 l0_7 x24_1).f5)) ∧ w'.cell? ⟨gb255, 6, none⟩ = some (.string ((rd_T43 l0_7 x24_1).f6)) ∧ w'.cell? ⟨gb255, 7, none⟩ = some (.slice A254_7 ((rd_T43 l0_7 x24_1).f7).length c254_7)) (ds := [7]) #[false, false, false, false, false, false, false, false] (by kernel_rfl) rfl rfl ⟨(blk_cell BK253.out 0).trans rfl, (blk_cell BK253.out 1).trans rfl, (blk_cell BK253.out 2).trans rfl, (blk_cell BK253.out 3).trans rfl, (blk_cell BK253.out 4).trans rfl, (blk_cell BK253.out 5).trans rfl, (blk_cell BK253.out 6).trans rfl, (blk_cell BK253.out 7).trans rfl, (blk_cell BK255.out 0).trans rfl, (blk_cell BK255.out 1).trans rfl, (blk_cell BK255.out 2).trans rfl, (blk_cell BK255.out 3).trans rfl, (blk_cell BK255.out 4).trans rfl, (blk_cell BK255.out 5).trans rfl, (blk_cell BK255.out 6).trans rfl, (blk_cell BK255.out 7).trans rfl⟩ (fun hHeld => ?_); refine with_tabW laws_toNode.tab5 laws_toNode.bits5 (fun HT_ HW_ => ?_)
        generalize w21.drew = w22 at HO_254007 BK251 BK252 BK253 BK255 HB hHeld ⊢
        refine pure_ (i := 0) (N := some 28) (v := ?_) (a' := ?_) #[true, false, false, false, false, false, false, false] rfl rfl (any_of HT_.out (by kernel_rfl)) (fun _ _ _ h => h) (Or.inl ⟨by rfl, ?_⟩) ?_ ?_
        rotate_left
        · intro w'
          go_simp
          with_reducible rfl
        rotate_left
        · simp only [Act.put, List.setIfInBounds_toArray, List.set_cons_zero, List.set_cons_succ, i64_w, i32_w]
          rfl
        refine take_ (i := 1) (N := some 29) (v := ?_) (a' := ?_) #[true, true, false, false, false, false, false, false] rfl rfl (take_ofW HT_.out HW_.out (by kernel_rfl)) (fun _ _ _ h => h) (Or.inl ⟨by rfl, ?_⟩) hHeld ?_ ?_
        rotate_left
        · rintro w' ⟨s0, s1, s2, s3, s4, s5, s6, s7, s8, s9, s10, s11, s12, s13, s14, s15⟩
          go_simp
          with_reducible rfl
        rotate_left
        · simp only [Act.put, List.setIfInBounds_toArray, List.set_cons_zero, List.set_cons_succ, i64_w, i32_w]
          rfl
        refine take_ (i := 2) (N := some 30) (v := ?_) (a' := ?_) #[true, true, true, false, false, false, false, false] rfl rfl (take_ofW HT_.out HW_.out (by kernel_rfl)) (fun _ _ _ h => h) (Or.inl ⟨by rfl, ?_⟩) hHeld ?_ ?_
        rotate_left
        · rintro w' ⟨s0, s1, s2, s3, s4, s5, s6, s7, s8, s9, s10, s11, s12, s13, s14, s15⟩
          go_simp
          with_reducible rfl
        rotate_left
        · simp only [Act.put, List.setIfInBounds_toArray, List.set_cons_zero, List.set_cons_succ, i64_w, i32_w]
          rfl
        refine one_ (i := 3) (N := some 31) #[true, true, true, true, false, false, false, false] rfl rfl (one_of HT_.out (by kernel_rfl)) (by decide) (fun K hK => ?_)
        refine goes_ Tryz.func48 (by kernel_rfl) rfl #[.agg #[.string ((rd_T43 l0_7 x24_1).f0), .int .i64 ((rd_T43 l0_7 x24_1).f1), .bool ((rd_T43 l0_7 x24_1).f2), .int .i64 ((rd_T43 l0_7 x24_1).f3), .int .u64 ((rd_T43 l0_7 x24_1).f4), .float .f64 ((rd_T43 l0_7 x24_1).f5), .string ((rd_T43 l0_7 x24_1).f6), .slice A254_7 ((rd_T43 l0_7 x24_1).f7).length c254_7]] (by rfl) rfl rfl (by (try simp only [List.map_toArray, List.map_cons, List.map_nil]); first | done | rfl | (simp only [List.length_drop, List.length_take]; rfl)) ?_
        with_reducible refine (ih k1 (by have := HK1.out; omega) ((rd_T43 l0_7 x24_1).f0) ((rd_T43 l0_7 x24_1).f1) ((rd_T43 l0_7 x24_1).f2) ((rd_T43 l0_7 x24_1).f3) ((rd_T43 l0_7 x24_1).f4) ((rd_T43 l0_7 x24_1).f5) ((rd_T43 l0_7 x24_1).f6) _ _ ((rd_T43 l0_7 x24_1).f7) t256 t257 t258 t259 t260 t261 t262 t263 _ ?side1 ?side2 A14.out).mono ?_
        (case side1 => repeat (first | exact (Kd.C_below HR254_7.out HB.out) | (with_reducible refine Kd.C_alloc ?_ _) | (with_reducible refine Kd.C_drewN ?_ _) | (with_reducible refine Kd.C_drew ?_)))
        (case side2 => exact HC254_7.out)
        rintro e w23 ⟨v264, rfl, ho0, hb⟩
        refine ⟨_, rfl, ?_⟩
        have n0_ := Aside0.mk (Kd.R_elder' (by (with_reducible repeat (first | apply Kd.R_alloc | apply Kd.R_drewN | apply Kd.R_drew)); exact HO_254007.out) (by first | exact Kd.R_base ho0 | exact Kd.R_base ho0) hb)
        have n1_ := Aside0.mk (Kd.R_lower (Kd.R_newB (Kd.R_newB (Kd.R_new' ho0 (Kd.R_lt (by (with_reducible repeat (first | apply Kd.R_alloc | apply Kd.R_drewN | apply Kd.R_drew)); exact HO_254007.out))) (g := gb252) (o := .cells #[.string (⟨#[]⟩ : ByteArray), .int .i64 0, .bool false, .int .i64 0, .int .u64 0, .float .f64 0, .string (⟨#[]⟩ : ByteArray), .slice none 0 0] 39 (0, 0)) (by (with_reducible repeat (first | refine blk_drewN ?_ _ | refine blk_drew ?_ | refine blk_alloc ?_ _)); exact BK252.out)) (g := gb253) (o := .cells #[.string a0_0, .int .i64 a0_1, .bool a0_2, .int .i64 a0_3, .int .u64 a0_4, .float .f64 a0_5, .string a0_6, u254007] 39 (0, 0)) (by (with_reducible repeat (first | refine blk_drewN ?_ _ | refine blk_drew ?_ | refine blk_alloc ?_ _)); exact BK253.out)) (below_size (by repeat (first | (with_reducible first | exact HB.out | apply below_alloc | apply pw_below_drewN | apply below_drew1 | refine below_set ?_ GE251.out | refine below_set ?_ GE252.out | refine below_set ?_ GE253.out | refine below_set ?_ GE255.out) | exact HB.out))))
        have n2_ := Aside0.mk (blk_below (g := gb251) (o := .cells #[.string a0_0, .int .i64 a0_1, .bool a0_2, .int .i64 a0_3, .int .u64 a0_4, .float .f64 a0_5, .string a0_6, .slice (some ad254) l0_7.length c0_7] 43 (0, 0)) (by (with_reducible repeat (first | refine blk_drewN ?_ _ | refine blk_drew ?_ | refine blk_alloc ?_ _)); exact BK251.out) hb)
        have n3_ := Aside0.mk (blk_below (g := gb252) (o := .cells #[.string (⟨#[]⟩ : ByteArray), .int .i64 0, .bool false, .int .i64 0, .int .u64 0, .float .f64 0, .string (⟨#[]⟩ : ByteArray), .slice none 0 0] 39 (0, 0)) (by (with_reducible repeat (first | refine blk_drewN ?_ _ | refine blk_drew ?_ | refine blk_alloc ?_ _)); exact BK252.out) hb)
        have n4_ := Aside0.mk (blk_below (g := gb253) (o := .cells #[.string a0_0, .int .i64 a0_1, .bool a0_2, .int .i64 a0_3, .int .u64 a0_4, .float .f64 a0_5, .string a0_6, u254007] 39 (0, 0)) (by (with_reducible repeat (first | refine blk_drewN ?_ _ | refine blk_drew ?_ | refine blk_alloc ?_ _)); exact BK253.out) hb)
        have n5_ := Aside0.mk (blk_below (g := gb255) (o := .cells #[.string ((rd_T43 l0_7 x24_1).f0), .int .i64 ((rd_T43 l0_7 x24_1).f1), .bool ((rd_T43 l0_7 x24_1).f2), .int .i64 ((rd_T43 l0_7 x24_1).f3), .int .u64 ((rd_T43 l0_7 x24_1).f4), .float .f64 ((rd_T43 l0_7 x24_1).f5), .string ((rd_T43 l0_7 x24_1).f6), .slice A254_7 ((rd_T43 l0_7 x24_1).f7).length c254_7] 43 (0, 0)) (by (with_reducible repeat (first | refine blk_drewN ?_ _ | refine blk_drew ?_ | refine blk_alloc ?_ _)); exact BK255.out) hb)
        have n6_ := Aside0.mk (below_step (by repeat (first | (with_reducible first | exact HB.out | apply below_alloc | apply pw_below_drewN | apply below_drew1 | refine below_set ?_ GE251.out | refine below_set ?_ GE252.out | refine below_set ?_ GE253.out | refine below_set ?_ GE255.out) | exact HB.out)) hb)
        clear HO_254007
        clear BK251
        clear BK252
        clear BK253
        clear BK255
        clear HB
        have HO_254007 := n0_
        have HO265 := n1_
        have BK251 := n2_
        have BK252 := n3_
        have BK253 := n4_
        have BK255 := n5_
        have HB := n6_
        clear n0_ n1_ n2_ n3_ n4_ n5_ n6_
        (try clear hb)
        (try clear hb2)
        (try clear hk)
        (try clear hi)
        (try clear ho0)
        obtain ⟨Ao25, co25, eo25⟩ := Kd.R_slice HO265.out
        (first | subst eo25 | (injection eo25 with f1_ f2_ f3_; have f4_ := f1_.symm; have f5_ := f3_.symm; clear f1_ f2_ f3_; subst f4_; subst f5_))
        refine hK.out _ _ ⟨(blk_cell BK253.out 0).trans rfl, (blk_cell BK253.out 1).trans rfl, (blk_cell BK253.out 2).trans rfl, (blk_cell BK253.out 3).trans rfl, (blk_cell BK253.out 4).trans rfl, (blk_cell BK253.out 5).trans rfl, (blk_cell BK253.out 6).trans rfl, (blk_cell BK253.out 7).trans rfl, (blk_cell BK255.out 0).trans rfl, (blk_cell BK255.out 1).trans rfl, (blk_cell BK255.out 2).trans rfl, (blk_cell BK255.out 3).trans rfl, (blk_cell BK255.out 4).trans rfl, (blk_cell BK255.out 5).trans rfl, (blk_cell BK255.out 6).trans rfl, (blk_cell BK255.out 7).trans rfl⟩ (fun hHeld => ?_)
        clear hK K
        refine norm_ (a' := ?_) ?_ ?_
        rotate_left
        · show Act.put _ (some 31) _ = _
          simp only [Act.put, List.setIfInBounds_toArray, List.set_cons_zero, List.set_cons_succ, i64_w, i32_w]
          rfl
        refine one_ (i := 4) (N := some 32) #[true, true, true, true, true, false, false, false] rfl rfl (one_of HT_.out (by kernel_rfl)) (by decide) (fun K hK => ?_)
        refine value_ (w1 := ?_) (v := ?_) (by rfl) rfl ?_ ?_
        rotate_left 2
        · go_simp
          constructor
          · rfl
          · rfl
        refine hK.out _ _ ⟨(blk_cell (blk_alloc BK253.out _) 0).trans rfl, (blk_cell (blk_alloc BK253.out _) 1).trans rfl, (blk_cell (blk_alloc BK253.out _) 2).trans rfl, (blk_cell (blk_alloc BK253.out _) 3).trans rfl, (blk_cell (blk_alloc BK253.out _) 4).trans rfl, (blk_cell (blk_alloc BK253.out _) 5).trans rfl, (blk_cell (blk_alloc BK253.out _) 6).trans rfl, (blk_cell (blk_alloc BK253.out _) 7).trans rfl, (blk_cell (blk_alloc BK255.out _) 0).trans rfl, (blk_cell (blk_alloc BK255.out _) 1).trans rfl, (blk_cell (blk_alloc BK255.out _) 2).trans rfl, (blk_cell (blk_alloc BK255.out _) 3).trans rfl, (blk_cell (blk_alloc BK255.out _) 4).trans rfl, (blk_cell (blk_alloc BK255.out _) 5).trans rfl, (blk_cell (blk_alloc BK255.out _) 6).trans rfl, (blk_cell (blk_alloc BK255.out _) 7).trans rfl⟩ (fun hHeld => ?_)
        clear hK K
        refine norm_ (a' := ?_) ?_ ?_
        rotate_left
        · show Act.put _ (some 32) _ = _
          simp only [Act.put, List.setIfInBounds_toArray, List.set_cons_zero, List.set_cons_succ, i64_w, i32_w]
          rfl
        refine one_ (i := 5) (N := some 33) #[true, true, true, true, true, true, false, false] rfl rfl (one_of HT_.out (by kernel_rfl)) (by decide) (fun K hK => ?_)
        refine Kd.R_append_step k39 (w0 := w) w.heap.size (by rfl) (.tmp 29) (.tmp 32) 37 39 (.agg #[(.string ⟨#[]⟩), (.int .i64 0), (.bool false), (.int .i64 0), (.int .u64 0), (.float .f64 0), (.string ⟨#[]⟩), (.slice none 0 0)]) 96 rfl Tryz.underlying37 info39 rfl (by decide) (by omega) u254007 x254007_1 (⟨t256, t257, t258, t259, t260, t261, t262, t263⟩ : S39) [.string t256, .int .i64 t257, .bool t258, .int .i64 t259, .int .u64 t260, .float .f64 t261, .string t262, .slice Ao25 t263.length co25] (fun k_ => k_ ≠ gb252 ∧ k_ ≠ gb253) (fun k_ => ((fun k_ => k_ ≠ gb252 ∧ k_ ≠ gb253)) k_ ∧ some k_ ≠ (u254007 : Value).ownBlock) rfl rfl ?aP (fun _ hk => hk) ?aF ?aO ?aB ?aS ?aL ?_
        (case aP => exact k39_mkM _ _ _ (⟨t256, t257, t258, t259, t260, t261, t262, t263⟩ : S39) (Kd.R_mono (HO265.out) (fun k_ hk => ⟨⟨hk.1.2, hk.2⟩, hk.1.1.2⟩)))
        (case aB => exact (by repeat (first | (with_reducible first | exact HB.out | apply below_alloc | apply pw_below_drewN | apply below_drew1 | refine below_set ?_ GE251.out | refine below_set ?_ GE252.out | refine below_set ?_ GE253.out | refine below_set ?_ GE255.out) | exact HB.out)))
        (case aF => exact (fun k_ hk => ⟨Kd.freshB (g := gb252) (o := .cells #[.string (⟨#[]⟩ : ByteArray), .int .i64 0, .bool false, .int .i64 0, .int .u64 0, .float .f64 0, .string (⟨#[]⟩ : ByteArray), .slice none 0 0] 39 (0, 0)) (by (with_reducible repeat (first | refine blk_drewN ?_ _ | refine blk_drew ?_ | refine blk_alloc ?_ _)); exact BK252.out) k_ hk, Kd.freshB (g := gb253) (o := .cells #[.string a0_0, .int .i64 a0_1, .bool a0_2, .int .i64 a0_3, .int .u64 a0_4, .float .f64 a0_5, .string a0_6, u254007] 39 (0, 0)) (by (with_reducible repeat (first | refine blk_drewN ?_ _ | refine blk_drew ?_ | refine blk_alloc ?_ _)); exact BK253.out) k_ hk⟩))
        (case aO => exact (by (with_reducible repeat (first | apply Kd.R_alloc | apply Kd.R_drewN | apply Kd.R_drew)); exact Kd.R_mono HO_254007.out (fun _ hk => ⟨hk.1.1, hk.1.2⟩)))
        (case aS => exact (below_size (by repeat (first | (with_reducible first | exact HB.out | apply below_alloc | apply pw_below_drewN | apply below_drew1 | refine below_set ?_ GE251.out | refine below_set ?_ GE252.out | refine below_set ?_ GE253.out | refine below_set ?_ GE255.out) | exact HB.out))))
        (case aL => have := LMc15.out; omega)
        intro v267 w24 ho hb hg hat
        rw [← Ny266.out] at ho
        have n0_ := Aside0.mk (blk_grown (g := gb251) (o := .cells #[.string a0_0, .int .i64 a0_1, .bool a0_2, .int .i64 a0_3, .int .u64 a0_4, .float .f64 a0_5, .string a0_6, .slice (some ad254) l0_7.length c0_7] 43 (0, 0)) (by (with_reducible repeat (first | refine blk_drewN ?_ _ | refine blk_drew ?_ | refine blk_alloc ?_ _)); exact BK251.out) hg (Kd.R_ne HO_254007.out BK251.out (by decide)))
        have n1_ := Aside0.mk (blk_grown (g := gb252) (o := .cells #[.string (⟨#[]⟩ : ByteArray), .int .i64 0, .bool false, .int .i64 0, .int .u64 0, .float .f64 0, .string (⟨#[]⟩ : ByteArray), .slice none 0 0] 39 (0, 0)) (by (with_reducible repeat (first | refine blk_drewN ?_ _ | refine blk_drew ?_ | refine blk_alloc ?_ _)); exact BK252.out) hg (Kd.R_away HO_254007.out (fun _ hk => hk.1.1)))
        have n2_ := Aside0.mk (blk_grown (g := gb253) (o := .cells #[.string a0_0, .int .i64 a0_1, .bool a0_2, .int .i64 a0_3, .int .u64 a0_4, .float .f64 a0_5, .string a0_6, u254007] 39 (0, 0)) (by (with_reducible repeat (first | refine blk_drewN ?_ _ | refine blk_drew ?_ | refine blk_alloc ?_ _)); exact BK253.out) hg (Kd.R_away HO_254007.out (fun _ hk => hk.1.2)))
        have n3_ := Aside0.mk (blk_grown (g := gb255) (o := .cells #[.string ((rd_T43 l0_7 x24_1).f0), .int .i64 ((rd_T43 l0_7 x24_1).f1), .bool ((rd_T43 l0_7 x24_1).f2), .int .i64 ((rd_T43 l0_7 x24_1).f3), .int .u64 ((rd_T43 l0_7 x24_1).f4), .float .f64 ((rd_T43 l0_7 x24_1).f5), .string ((rd_T43 l0_7 x24_1).f6), .slice A254_7 ((rd_T43 l0_7 x24_1).f7).length c254_7] 43 (0, 0)) (by (with_reducible repeat (first | refine blk_drewN ?_ _ | refine blk_drew ?_ | refine blk_alloc ?_ _)); exact BK255.out) hg (Kd.R_ne HO_254007.out BK255.out (by decide)))
        have n4_ := Aside0.mk (hb)
        have n5_ := Aside0.mk (ho)
        clear BK251
        clear BK252
        clear BK253
        clear BK255
        clear HB
        clear HO_254007
        clear HO265
        have BK251 := n0_
        have BK252 := n1_
        have BK253 := n2_
        have BK255 := n3_
        have HB := n4_
        have HO268 := n5_
        clear n0_ n1_ n2_ n3_ n4_ n5_
        clear ho hb hg hat
        obtain ⟨Ao26, co26, eo26⟩ := Kd.R_slice HO268.out
        (first | subst eo26 | (injection eo26 with f1_ f2_ f3_; have f4_ := f1_.symm; have f5_ := f3_.symm; clear f1_ f2_ f3_; subst f4_; subst f5_))
        refine hK.out _ _ ⟨(blk_cell BK253.out 0).trans rfl, (blk_cell BK253.out 1).trans rfl, (blk_cell BK253.out 2).trans rfl, (blk_cell BK253.out 3).trans rfl, (blk_cell BK253.out 4).trans rfl, (blk_cell BK253.out 5).trans rfl, (blk_cell BK253.out 6).trans rfl, (blk_cell BK253.out 7).trans rfl, (blk_cell BK255.out 0).trans rfl, (blk_cell BK255.out 1).trans rfl, (blk_cell BK255.out 2).trans rfl, (blk_cell BK255.out 3).trans rfl, (blk_cell BK255.out 4).trans rfl, (blk_cell BK255.out 5).trans rfl, (blk_cell BK255.out 6).trans rfl, (blk_cell BK255.out 7).trans rfl⟩ (fun hHeld => ?_)
        clear hK K
        refine norm_ (a' := ?_) ?_ ?_
        rotate_left
        · show Act.put _ (some 33) _ = _
          simp only [Act.put, List.setIfInBounds_toArray, List.set_cons_zero, List.set_cons_succ, i64_w, i32_w]
          rfl
        refine pure_ (i := 6) (N := some 34) (v := ?_) (a' := ?_) #[true, true, true, true, true, true, true, false] rfl rfl (any_of HT_.out (by kernel_rfl)) (fun _ _ _ h => h) (Or.inl ⟨by rfl, ?_⟩) ?_ ?_
        rotate_left
        · intro w'
          go_simp
          with_reducible rfl
        rotate_left
        · simp only [Act.put, List.setIfInBounds_toArray, List.set_cons_zero, List.set_cons_succ, i64_w, i32_w]
          rfl
        refine last_ (i := 7) (N := none) #[true, true, true, true, true, true, true, true] rfl rfl (one_of HT_.out (by kernel_rfl)) (by decide) (fun K hK => ?_)
        have hs27 : w24.cell? ⟨gb253, 7, none⟩ = some (u254007) := (blk_cell BK253.out 7).trans rfl
        have hfs27 := blk_frozen BK253.out 7
        have hns27_0 := NB251_253.out
        have hns27_1 := NB252_253.out
        have hns27_3 := NB255_253.out
        have hms27_0 := NB253_251.out
        have hms27_1 := NB253_252.out
        have hms27_3 := NB253_255.out
        refine skip_ (w1 := ?_) (by rfl) rfl ?_ ?_
        rotate_left
        · go_simp
          rfl
        refine hK.out _ _ ?_
        clear hK K
        refine done_ (done_of HT_.out (by kernel_rfl)) ?_
        try go_wp2
        go_roundg k1
        case measure => have := HK1.out; omega
        case rel => exact ⟨(wrap64 (x24_1 + 1)), (y266), (.slice Ao26 y266.length co26), (by first | rfl | (simp; done) | (simp [*]; done)), H', ⟨by have := HK1.out; omega⟩, ⟨by (with_reducible repeat (first | apply Kd.R_alloc | apply Kd.R_drewN | apply Kd.R_drew)); exact Kd.R_mono (Kd.R_far (p := ⟨gb253, 7, none⟩) (Kd.R_mono HO268.out (fun k_ hk => (⟨hk, hk.2⟩ : _ ∧ k_ ≠ gb253))) (fun _ hk => hk.2) (.slice Ao26 y266.length co26)) (fun _ hk => ⟨hk.1.1, hk.1.2⟩)⟩, ⟨by (with_reducible repeat (first | refine blk_drewN ?_ _ | refine blk_drew ?_ | refine blk_alloc ?_ _)); refine blk_far ?_ NB251_253.out _; (with_reducible repeat (first | refine blk_drewN ?_ _ | refine blk_drew ?_ | refine blk_alloc ?_ _)); exact BK251.out⟩, ⟨by (with_reducible repeat (first | refine blk_drewN ?_ _ | refine blk_drew ?_ | refine blk_alloc ?_ _)); refine blk_far ?_ NB252_253.out _; (with_reducible repeat (first | refine blk_drewN ?_ _ | refine blk_drew ?_ | refine blk_alloc ?_ _)); exact BK252.out⟩, ⟨by (with_reducible repeat (first | refine blk_drewN ?_ _ | refine blk_drew ?_ | refine blk_alloc ?_ _)); refine blk_put (cs := #[.string a0_0, .int .i64 a0_1, .bool a0_2, .int .i64 a0_3, .int .u64 a0_4, .float .f64 a0_5, .string a0_6, u254007]) ?_ 7 _ rfl; (with_reducible repeat (first | refine blk_drewN ?_ _ | refine blk_drew ?_ | refine blk_alloc ?_ _)); exact BK253.out⟩, ⟨by repeat (first | (with_reducible first | exact HB.out | apply below_alloc | apply pw_below_drewN | apply below_drew1 | refine below_set ?_ GE251.out | refine below_set ?_ GE252.out | refine below_set ?_ GE253.out | refine below_set ?_ GE255.out) | exact HB.out)⟩⟩
      · rw [if_neg c11] at H
        have c11b0 : decide (x24_1 < (l0_7.length : Int)) = false := decide_eq_false c11
        clear c11
        simp only [Option.some.injEq, Prod.mk.injEq] at H
        obtain ⟨rfl, rfl, rfl, rfl, rfl, rfl, rfl, rfl⟩ := H
        have hnb28 := NB253_251.out
        have hnc28 := NB251_253.out
        have hnb29 := NB253_252.out
        have hnc29 := NB252_253.out
        have hcz30_0 : wr.cell? ⟨gb253, 0, none⟩ = some (.string a0_0) := (blk_cell BK253.out 0).trans rfl
        have hcz30_1 : wr.cell? ⟨gb253, 1, none⟩ = some (.int .i64 a0_1) := (blk_cell BK253.out 1).trans rfl
        have hcz30_2 : wr.cell? ⟨gb253, 2, none⟩ = some (.bool a0_2) := (blk_cell BK253.out 2).trans rfl
        have hcz30_3 : wr.cell? ⟨gb253, 3, none⟩ = some (.int .i64 a0_3) := (blk_cell BK253.out 3).trans rfl
        have hcz30_4 : wr.cell? ⟨gb253, 4, none⟩ = some (.int .u64 a0_4) := (blk_cell BK253.out 4).trans rfl
        have hcz30_5 : wr.cell? ⟨gb253, 5, none⟩ = some (.float .f64 a0_5) := (blk_cell BK253.out 5).trans rfl
        have hcz30_6 : wr.cell? ⟨gb253, 6, none⟩ = some (.string a0_6) := (blk_cell BK253.out 6).trans rfl
        have hcz30_7 : wr.cell? ⟨gb253, 7, none⟩ = some (u254007) := (blk_cell BK253.out 7).trans rfl
        have hfz30_0 := blk_frozen BK253.out 0
        have hfz30_1 := blk_frozen BK253.out 1
        have hfz30_2 := blk_frozen BK253.out 2
        have hfz30_3 := blk_frozen BK253.out 3
        have hfz30_4 := blk_frozen BK253.out 4
        have hfz30_5 := blk_frozen BK253.out 5
        have hfz30_6 := blk_frozen BK253.out 6
        have hfz30_7 := blk_frozen BK253.out 7
        have hnb31 := NB252_251.out
        have hnc31 := NB251_252.out
        have hcz32_0 : wr.cell? ⟨gb252, 0, none⟩ = some (.string (⟨#[]⟩ : ByteArray)) := (blk_cell BK252.out 0).trans rfl
        have hcz32_1 : wr.cell? ⟨gb252, 1, none⟩ = some (.int .i64 0) := (blk_cell BK252.out 1).trans rfl
        have hcz32_2 : wr.cell? ⟨gb252, 2, none⟩ = some (.bool false) := (blk_cell BK252.out 2).trans rfl
        have hcz32_3 : wr.cell? ⟨gb252, 3, none⟩ = some (.int .i64 0) := (blk_cell BK252.out 3).trans rfl
        have hcz32_4 : wr.cell? ⟨gb252, 4, none⟩ = some (.int .u64 0) := (blk_cell BK252.out 4).trans rfl
        have hcz32_5 : wr.cell? ⟨gb252, 5, none⟩ = some (.float .f64 0) := (blk_cell BK252.out 5).trans rfl
        have hcz32_6 : wr.cell? ⟨gb252, 6, none⟩ = some (.string (⟨#[]⟩ : ByteArray)) := (blk_cell BK252.out 6).trans rfl
        have hcz32_7 : wr.cell? ⟨gb252, 7, none⟩ = some (.slice none 0 0) := (blk_cell BK252.out 7).trans rfl
        have hfz32_0 := blk_frozen BK252.out 0
        have hfz32_1 := blk_frozen BK252.out 1
        have hfz32_2 := blk_frozen BK252.out 2
        have hfz32_3 := blk_frozen BK252.out 3
        have hfz32_4 := blk_frozen BK252.out 4
        have hfz32_5 := blk_frozen BK252.out 5
        have hfz32_6 := blk_frozen BK252.out 6
        have hfz32_7 := blk_frozen BK252.out 7
        obtain ⟨Ao33, co33, eo33⟩ := Kd.R_slice HO_254007.out
        subst eo33
        go_wp2
        refine bodyPost_ret (results_cell_row rfl _ _ gb252 39 #[.string a0_0, .int .i64 a0_1, .bool a0_2, .int .i64 a0_3, .int .u64 a0_4, .float .f64 a0_5, .string a0_6, .slice Ao33 x254007_1.length co33] (0, 0) _ rfl (by (with_reducible repeat (first | refine blk_drewN ?_ _ | refine blk_drew ?_ | refine blk_alloc ?_ _)); refine blk_put (cs := #[.string a0_0, .int .i64 a0_1, .bool a0_2, .int .i64 a0_3, .int .u64 a0_4, .float .f64 a0_5, .string a0_6, .slice none 0 0]) ?_ 7 _ rfl; (with_reducible repeat (first | refine blk_drewN ?_ _ | refine blk_drew ?_ | refine blk_alloc ?_ _)); refine blk_put (cs := #[.string a0_0, .int .i64 a0_1, .bool a0_2, .int .i64 a0_3, .int .u64 a0_4, .float .f64 a0_5, .string (⟨#[]⟩ : ByteArray), .slice none 0 0]) ?_ 6 _ rfl; (with_reducible repeat (first | refine blk_drewN ?_ _ | refine blk_drew ?_ | refine blk_alloc ?_ _)); refine blk_put (cs := #[.string a0_0, .int .i64 a0_1, .bool a0_2, .int .i64 a0_3, .int .u64 a0_4, .float .f64 0, .string (⟨#[]⟩ : ByteArray), .slice none 0 0]) ?_ 5 _ rfl; (with_reducible repeat (first | refine blk_drewN ?_ _ | refine blk_drew ?_ | refine blk_alloc ?_ _)); refine blk_put (cs := #[.string a0_0, .int .i64 a0_1, .bool a0_2, .int .i64 a0_3, .int .u64 0, .float .f64 0, .string (⟨#[]⟩ : ByteArray), .slice none 0 0]) ?_ 4 _ rfl; (with_reducible repeat (first | refine blk_drewN ?_ _ | refine blk_drew ?_ | refine blk_alloc ?_ _)); refine blk_put (cs := #[.string a0_0, .int .i64 a0_1, .bool a0_2, .int .i64 0, .int .u64 0, .float .f64 0, .string (⟨#[]⟩ : ByteArray), .slice none 0 0]) ?_ 3 _ rfl; (with_reducible repeat (first | refine blk_drewN ?_ _ | refine blk_drew ?_ | refine blk_alloc ?_ _)); refine blk_put (cs := #[.string a0_0, .int .i64 a0_1, .bool false, .int .i64 0, .int .u64 0, .float .f64 0, .string (⟨#[]⟩ : ByteArray), .slice none 0 0]) ?_ 2 _ rfl; (with_reducible repeat (first | refine blk_drewN ?_ _ | refine blk_drew ?_ | refine blk_alloc ?_ _)); refine blk_put (cs := #[.string a0_0, .int .i64 0, .bool false, .int .i64 0, .int .u64 0, .float .f64 0, .string (⟨#[]⟩ : ByteArray), .slice none 0 0]) ?_ 1 _ rfl; (with_reducible repeat (first | refine blk_drewN ?_ _ | refine blk_drew ?_ | refine blk_alloc ?_ _)); refine blk_put (cs := #[.string (⟨#[]⟩ : ByteArray), .int .i64 0, .bool false, .int .i64 0, .int .u64 0, .float .f64 0, .string (⟨#[]⟩ : ByteArray), .slice none 0 0]) ?_ 0 _ rfl; (with_reducible repeat (first | refine blk_drewN ?_ _ | refine blk_drew ?_ | refine blk_alloc ?_ _)); exact BK252.out) Tryz.underlying39 rfl (by kernel_rfl)) rfl ?_
        exact ⟨_, by first | rfl | (simp [errW_none, errW_some] <;> rfl) | (simp [*, errW_none, errW_some] <;> rfl), by (with_reducible repeat (first | apply Kd.R_alloc | apply Kd.R_drewN | apply Kd.R_drew)); exact Kd.R_mono (Kd.R_far (p := ⟨gb252, 7, none⟩) (Kd.R_far (p := ⟨gb252, 6, none⟩) (Kd.R_far (p := ⟨gb252, 5, none⟩) (Kd.R_far (p := ⟨gb252, 4, none⟩) (Kd.R_far (p := ⟨gb252, 3, none⟩) (Kd.R_far (p := ⟨gb252, 2, none⟩) (Kd.R_far (p := ⟨gb252, 1, none⟩) (Kd.R_far (p := ⟨gb252, 0, none⟩) (Kd.R_mono HO_254007.out (fun k_ hk => (⟨hk, hk.1⟩ : _ ∧ k_ ≠ gb252))) (fun _ hk => hk.2) (.string a0_0)) (fun _ hk => hk.2) (.int .i64 a0_1)) (fun _ hk => hk.2) (.bool a0_2)) (fun _ hk => hk.2) (.int .i64 a0_3)) (fun _ hk => hk.2) (.int .u64 a0_4)) (fun _ hk => hk.2) (.float .f64 a0_5)) (fun _ hk => hk.2) (.string a0_6)) (fun _ hk => hk.2) (.slice Ao33 x254007_1.length co33)) (fun _ hk => trivial), by repeat (first | (with_reducible first | exact HB.out | apply below_alloc | apply pw_below_drewN | apply below_drew1 | refine below_set ?_ GE251.out | refine below_set ?_ GE252.out | refine below_set ?_ GE253.out) | exact HB.out)⟩

end Go.Proofs.YtednjmngalmdkaaGreatDoor.GPC
