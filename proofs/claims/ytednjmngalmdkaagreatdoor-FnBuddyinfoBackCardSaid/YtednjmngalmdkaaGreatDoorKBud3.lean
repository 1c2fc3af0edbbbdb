/- Texts of this claim, put together: GPDx3. Conditions: as each one says. -/
import Derived.Test.YtednjmngalmdkaaGreatDoorKBud0
import Derived.Test.YtednjmngalmdkaaGreatDoorKBud1
import Derived.Test.YtednjmngalmdkaaGreatDoorKBud2
section
namespace Go.Proofs.YtednjmngalmdkaaGreatDoor.GPC
open Go.RowKit Go.Proofs.YtednjmngalmdkaaGreatDoorW.PrintWords Go.Proofs.YtednjmngalmdkaaGreatDoorW.PrintLast Go.Proofs.YtednjmngalmdkaaGreatDoorW.PrintMore
attribute [local go_sem] max2_int min2_int max_two min_two max_three min_three max_four min_four   -- for this text's walks alone
set_option linter.unusedVariables false
set_option linter.unusedSimpArgs false

attribute [local go_sem] run_store_float
/-! ### spec_BuddyinfoPrint: function 18 -/
mutual
def spec_BuddyinfoPrint.l0 : Nat → List (S31) → ByteArray → List (S31) → Int → Int → Option (ByteArray × Int)
 | 0, _, _, _, _, _ => none
 | k + 1, x0, x4, x9, x10, x11 => if x11 < x10 then (if 0 ≤ x11 then (if x11 < (x9.length : Int) then (if (((rd_T31 x9 x11).f2).length : Int) = 2 then ((spec_words.f k ((rd_T31 x9 x11).f2)).bind fun t114 => (if t114 = true then (if 0 < (((rd_T31 x9 x11).f2).length : Int) then ((spec_Where.f k (rdOf ByteArray.empty ((rd_T31 x9 x11).f2) 0) 44).bind fun t116 => (if t116 ≥ 0 then (spec_BuddyinfoPrint.j1 k x0 x4 x9 x10 x11 true ((rd_T31 x9 x11).f0) ((rd_T31 x9 x11).f1) ((rd_T31 x9 x11).f2)) else (if 1 < (((rd_T31 x9 x11).f2).length : Int) then ((spec_Where.f k (rdOf ByteArray.empty ((rd_T31 x9 x11).f2) 1) 44).bind fun t118 => (if t118 ≥ 0 then (spec_BuddyinfoPrint.j1 k x0 x4 x9 x10 x11 true ((rd_T31 x9 x11).f0) ((rd_T31 x9 x11).f1) ((rd_T31 x9 x11).f2)) else (if (((rd_T31 x9 x11).f1).length : Int) < 1 then (spec_BuddyinfoPrint.j1 k x0 x4 x9 x10 x11 true ((rd_T31 x9 x11).f0) ((rd_T31 x9 x11).f1) ((rd_T31 x9 x11).f2)) else (if 0 < (x0.length : Int) then (if (((rd_T31 x9 x11).f1).length : Int) = (((rd_T31 x0 0).f1).length : Int) then ((spec_small.f k 1099511627776 ((rd_T31 x9 x11).f1)).bind fun t120 => (spec_BuddyinfoPrint.j1 k x0 x4 x9 x10 x11 (!t120) ((rd_T31 x9 x11).f0) ((rd_T31 x9 x11).f1) ((rd_T31 x9 x11).f2))) else (spec_BuddyinfoPrint.j1 k x0 x4 x9 x10 x11 true ((rd_T31 x9 x11).f0) ((rd_T31 x9 x11).f1) ((rd_T31 x9 x11).f2))) else (none))))) else (none)))) else (none)) else (spec_BuddyinfoPrint.j1 k x0 x4 x9 x10 x11 true ((rd_T31 x9 x11).f0) ((rd_T31 x9 x11).f1) ((rd_T31 x9 x11).f2)))) else (spec_BuddyinfoPrint.j1 k x0 x4 x9 x10 x11 true ((rd_T31 x9 x11).f0) ((rd_T31 x9 x11).f1) ((rd_T31 x9 x11).f2))) else (none)) else (none)) else (some (x4, 1))
def spec_BuddyinfoPrint.j1 : Nat → List (S31) → ByteArray → List (S31) → Int → Int → Bool → ByteArray → List Int → List ByteArray → Option (ByteArray × Int)
 | 0, _, _, _, _, _, _, _, _, _ => none
 | k + 1, x0, x4, x9, x10, x11, x63, x114000, x114001, x114002 => if x63 = true then (some ((⟨#[]⟩ : ByteArray), 2)) else (if 0 < (x114002.length : Int) then (if 5 + (rdOf ByteArray.empty x114002 0).size ≤ 9223372036854775807 then (if ((⟨#[78, 111, 100, 101, 32]⟩ : ByteArray) ++ (rdOf ByteArray.empty x114002 0)).size + 7 ≤ 9223372036854775807 then (if 1 < (x114002.length : Int) then ((spec_Right.f k (rdOf ByteArray.empty x114002 1) 8).bind fun t123 => (if (((⟨#[78, 111, 100, 101, 32]⟩ : ByteArray) ++ (rdOf ByteArray.empty x114002 0)) ++ (⟨#[44, 32, 122, 111, 110, 101, 32]⟩ : ByteArray)).size + t123.size ≤ 9223372036854775807 then (if ((((⟨#[78, 111, 100, 101, 32]⟩ : ByteArray) ++ (rdOf ByteArray.empty x114002 0)) ++ (⟨#[44, 32, 122, 111, 110, 101, 32]⟩ : ByteArray)) ++ t123).size + 1 ≤ 9223372036854775807 then (if x4.size + (((((⟨#[78, 111, 100, 101, 32]⟩ : ByteArray) ++ (rdOf ByteArray.empty x114002 0)) ++ (⟨#[44, 32, 122, 111, 110, 101, 32]⟩ : ByteArray)) ++ t123) ++ (⟨#[32]⟩ : ByteArray)).size ≤ 9223372036854775807 then (spec_BuddyinfoPrint.l1 k x0 (x4 ++ (((((⟨#[78, 111, 100, 101, 32]⟩ : ByteArray) ++ (rdOf ByteArray.empty x114002 0)) ++ (⟨#[44, 32, 122, 111, 110, 101, 32]⟩ : ByteArray)) ++ t123) ++ (⟨#[32]⟩ : ByteArray))) x9 x10 x11 x114001 (x114001.length : Int) 0) else (none)) else (none)) else (none))) else (none)) else (none)) else (none)) else (none))
def spec_BuddyinfoPrint.l1 : Nat → List (S31) → ByteArray → List (S31) → Int → Int → List Int → Int → Int → Option (ByteArray × Int)
 | 0, _, _, _, _, _, _, _, _ => none
 | k + 1, x0, x4, x9, x10, x11, x80, x81, x82 => if x82 < x81 then (if 0 ≤ x82 then (if x82 < (x80.length : Int) then ((spec_Text.f k (rd x80 x82)).bind fun t125 => ((spec_Right.f k t125 6).bind fun t126 => (if t126.size + 1 ≤ 9223372036854775807 then (if x4.size + (t126 ++ (⟨#[32]⟩ : ByteArray)).size ≤ 9223372036854775807 then (spec_BuddyinfoPrint.l1 k x0 (x4 ++ (t126 ++ (⟨#[32]⟩ : ByteArray))) x9 x10 x11 x80 x81 (wrap64 (x82 + 1))) else (none)) else (none)))) else (none)) else (none)) else (if x4.size + 1 ≤ 9223372036854775807 then (spec_BuddyinfoPrint.l0 k x0 (x4 ++ (⟨#[10]⟩ : ByteArray)) x9 x10 (wrap64 (x11 + 1))) else (none))
end
def spec_BuddyinfoPrint.f (k : Nat) (l0 : List (S31)) : Option (ByteArray × Int) := spec_BuddyinfoPrint.l0 k l0 (⟨#[]⟩ : ByteArray) l0 (l0.length : Int) 0
theorem spec_BuddyinfoPrint.mono_l : ∀ k, (∀ y0 y1 y2 y3 y4, LeO (spec_BuddyinfoPrint.l0 k y0 y1 y2 y3 y4) (spec_BuddyinfoPrint.l0 (k + 1) y0 y1 y2 y3 y4)) ∧ (∀ y0 y1 y2 y3 y4 y5 y6 y7 y8, LeO (spec_BuddyinfoPrint.j1 k y0 y1 y2 y3 y4 y5 y6 y7 y8) (spec_BuddyinfoPrint.j1 (k + 1) y0 y1 y2 y3 y4 y5 y6 y7 y8)) ∧ (∀ y0 y1 y2 y3 y4 y5 y6 y7, LeO (spec_BuddyinfoPrint.l1 k y0 y1 y2 y3 y4 y5 y6 y7) (spec_BuddyinfoPrint.l1 (k + 1) y0 y1 y2 y3 y4 y5 y6 y7))
 | 0 => ⟨fun _ _ _ _ _ r h => by simp [spec_BuddyinfoPrint.l0] at h, fun _ _ _ _ _ _ _ _ _ r h => by simp [spec_BuddyinfoPrint.j1] at h, fun _ _ _ _ _ _ _ _ r h => by simp [spec_BuddyinfoPrint.l1] at h⟩
 | k + 1 => by
  obtain ⟨ih0, ih1, ih2⟩ := spec_BuddyinfoPrint.mono_l k
  refine ⟨?_, ?_, ?_⟩
  ·intro y0 y1 y2 y3 y4
   unfold spec_BuddyinfoPrint.l0
   repeat' first
   | (with_reducible exact ih0 _ _ _ _ _)
   | (with_reducible exact ih1 _ _ _ _ _ _ _ _ _)
   | (with_reducible exact ih2 _ _ _ _ _ _ _ _)
   | (with_reducible exact spec_Right.mono _ _ _)
   | (with_reducible exact spec_Text.mono _ _)
   | (with_reducible exact spec_Where.mono _ _ _)
   | (with_reducible exact spec_small.mono _ _ _)
   | (with_reducible exact spec_words.mono _ _)
   | (with_reducible exact LeO.refl _)
   | (with_reducible exact LeO.none _)
   | (with_reducible refine LeO.ite ?_ ?_)
   | (with_reducible refine LeO.bind ?_ (fun _ => ?_))
   | exact ih0 _ _ _ _ _
   | exact ih1 _ _ _ _ _ _ _ _ _
   | exact ih2 _ _ _ _ _ _ _ _
   | exact spec_Right.mono _ _ _
   | exact spec_Text.mono _ _
   | exact spec_Where.mono _ _ _
   | exact spec_small.mono _ _ _
   | exact spec_words.mono _ _
   | exact LeO.none _
   | refine LeO.ite ?_ ?_
   | refine LeO.bind ?_ (fun _ => ?_)
  ·intro y0 y1 y2 y3 y4 y5 y6 y7 y8
   unfold spec_BuddyinfoPrint.j1
   repeat' first
   | (with_reducible exact ih0 _ _ _ _ _)
   | (with_reducible exact ih1 _ _ _ _ _ _ _ _ _)
   | (with_reducible exact ih2 _ _ _ _ _ _ _ _)
   | (with_reducible exact spec_Right.mono _ _ _)
   | (with_reducible exact spec_Text.mono _ _)
   | (with_reducible exact spec_Where.mono _ _ _)
   | (with_reducible exact spec_small.mono _ _ _)
   | (with_reducible exact spec_words.mono _ _)
   | (with_reducible exact LeO.refl _)
   | (with_reducible exact LeO.none _)
   | (with_reducible refine LeO.ite ?_ ?_)
   | (with_reducible refine LeO.bind ?_ (fun _ => ?_))
   | exact ih0 _ _ _ _ _
   | exact ih1 _ _ _ _ _ _ _ _ _
   | exact ih2 _ _ _ _ _ _ _ _
   | exact spec_Right.mono _ _ _
   | exact spec_Text.mono _ _
   | exact spec_Where.mono _ _ _
   | exact spec_small.mono _ _ _
   | exact spec_words.mono _ _
   | exact LeO.none _
   | refine LeO.ite ?_ ?_
   | refine LeO.bind ?_ (fun _ => ?_)
  ·intro y0 y1 y2 y3 y4 y5 y6 y7
   unfold spec_BuddyinfoPrint.l1
   repeat' first
   | (with_reducible exact ih0 _ _ _ _ _)
   | (with_reducible exact ih1 _ _ _ _ _ _ _ _ _)
   | (with_reducible exact ih2 _ _ _ _ _ _ _ _)
   | (with_reducible exact spec_Right.mono _ _ _)
   | (with_reducible exact spec_Text.mono _ _)
   | (with_reducible exact spec_Where.mono _ _ _)
   | (with_reducible exact spec_small.mono _ _ _)
   | (with_reducible exact spec_words.mono _ _)
   | (with_reducible exact LeO.refl _)
   | (with_reducible exact LeO.none _)
   | (with_reducible refine LeO.ite ?_ ?_)
   | (with_reducible refine LeO.bind ?_ (fun _ => ?_))
   | exact ih0 _ _ _ _ _
   | exact ih1 _ _ _ _ _ _ _ _ _
   | exact ih2 _ _ _ _ _ _ _ _
   | exact spec_Right.mono _ _ _
   | exact spec_Text.mono _ _
   | exact spec_Where.mono _ _ _
   | exact spec_small.mono _ _ _
   | exact spec_words.mono _ _
   | exact LeO.none _
   | refine LeO.ite ?_ ?_
   | refine LeO.bind ?_ (fun _ => ?_)
theorem spec_BuddyinfoPrint.mono : ∀ a0 k, LeO (spec_BuddyinfoPrint.f k a0) (spec_BuddyinfoPrint.f (k + 1) a0) := by
 intro a0 k
 obtain ⟨ih0, ih1, ih2⟩ := spec_BuddyinfoPrint.mono_l k
 unfold spec_BuddyinfoPrint.f
 repeat' first
   | (with_reducible exact ih0 _ _ _ _ _)
   | (with_reducible exact ih1 _ _ _ _ _ _ _ _ _)
   | (with_reducible exact ih2 _ _ _ _ _ _ _ _)
   | (with_reducible exact spec_Right.mono _ _ _)
   | (with_reducible exact spec_Text.mono _ _)
   | (with_reducible exact spec_Where.mono _ _ _)
   | (with_reducible exact spec_small.mono _ _ _)
   | (with_reducible exact spec_words.mono _ _)
   | (with_reducible exact LeO.refl _)
   | (with_reducible exact LeO.none _)
   | (with_reducible refine LeO.ite ?_ ?_)
   | (with_reducible refine LeO.bind ?_ (fun _ => ?_))
   | exact ih0 _ _ _ _ _
   | exact ih1 _ _ _ _ _ _ _ _ _
   | exact ih2 _ _ _ _ _ _ _ _
   | exact spec_Right.mono _ _ _
   | exact spec_Text.mono _ _
   | exact spec_Where.mono _ _ _
   | exact spec_small.mono _ _ _
   | exact spec_words.mono _ _
   | exact LeO.none _
   | refine LeO.ite ?_ ?_
   | refine LeO.bind ?_ (fun _ => ?_)
def spec_BuddyinfoPrint.T5 : Bool × List (List Nat × List Nat) := (true, [([], []), ([0], [0]), ([1], [1]), ([2], [2]), ([3], [3]), ([4], [4]), ([5, 4], [4, 5]), ([6, 4, 4], [4, 6]), ([7, 4], [4, 7]), ([4, 8], [4, 8]), ([9, 7], [9]), ([10], [10]), ([11, 10], [10, 11]), ([12, 10], [10, 12]), ([13, 10], [10, 13]), ([14, 10, 10], [10, 14]), ([15, 10], [10, 15]), ([10, 16], [10, 16]), ([17, 15], [17]), ([18], [18]), ([19, 18], [18, 19]), ([20, 18], [18, 20]), ([21, 18], [18, 21]), ([22, 18, 18], [18, 22]), ([23, 18], [18, 23]), ([18, 24], [18, 24]), ([25, 23], [25]), ([26], [26]), ([27, 26], [26, 27]), ([28, 26], [26, 28]), ([29, 26], [26, 29]), ([26, 30], [26, 30]), ([31, 26], [31]), ([32], [32]), ([33, 32], [32, 33]), ([34, 32], [32, 34]), ([32], [32]), ([36, 32], [32, 36]), ([37, 32], [32, 37]), ([38, 32], [32, 38]), ([39, 32], [32, 39]), ([35, 40, 32], [32, 35, 40]), ([32, 41], [32, 41]), ([42, 32], [42]), ([43], [43]), ([44, 43], [43, 44]), ([45, 43, 43], [43, 45]), ([46, 43], [43, 46]), ([43, 47], [43, 47])])
def spec_BuddyinfoPrint.B5 : List Nat := [0, 1, 3, 7, 15, 31, 63, 127, 255, 511, 1023, 2047, 4095, 8191, 16383, 32767, 65535, 131071, 262143, 524287, 1048575, 2097151, 4194303, 8388607, 16777215, 33554431, 67108863, 134217727, 268435455, 536870911, 1073741823, 2147483647, 4294967295, 8589934591, 17179869183, 34359738367, 8589934591, 77309411327, 214748364799, 489626271743, 1039382085631, 2199023255551, 4398046511103, 8796093022207, 17592186044415, 35184372088831, 70368744177663, 140737488355327, 281474976710655]
theorem spec_BuddyinfoPrint.tab5 : rtab .any (opsOf Tryz.f18 5) = spec_BuddyinfoPrint.T5 := by kernel_rfl
theorem spec_BuddyinfoPrint.bits5 : waitsOk spec_BuddyinfoPrint.T5.2 spec_BuddyinfoPrint.B5 = true := by kernel_rfl
def spec_BuddyinfoPrint.T7 : Bool × List (List Nat × List Nat) := (true, [([], []), ([], []), ([1], [1]), ([2], [2]), ([3], [3]), ([4], [4]), ([5], [5]), ([], []), ([7], [7]), ([8], [8]), ([9], [9]), ([10], [10]), ([6, 11], [6, 11]), ([12], [12]), ([0, 13], [0, 13]), ([14, 11, 0, 1, 2, 3, 4, 5, 6, 7, 8, 9, 10, 11, 12, 13, 14], [0, 14])])
def spec_BuddyinfoPrint.B7 : List Nat := [0, 0, 2, 6, 14, 30, 62, 0, 128, 384, 896, 1920, 4094, 8190, 16383, 32767]
theorem spec_BuddyinfoPrint.tab7 : rtab .any (opsOf Tryz.f18 7) = spec_BuddyinfoPrint.T7 := by kernel_rfl
theorem spec_BuddyinfoPrint.bits7 : waitsOk spec_BuddyinfoPrint.T7.2 spec_BuddyinfoPrint.B7 = true := by kernel_rfl
set_option maxHeartbeats 8000000 in
set_option maxRecDepth 100000 in
theorem spec_BuddyinfoPrint.calls (k : Nat) (A0 : Option Addr) (c0 : Nat) (l0 : List (S31)) (r1 : ByteArray) (r2 : Int) (w : World) (hr0 : Kd.C k31 w A0 l0.length l0) (hc0 : l0.length ≤ c0) (h : spec_BuddyinfoPrint.f k l0 = some (r1, r2)) :
  Calls Tryz.prog 18 #[.slice A0 l0.length c0] w fun e w' => e = .returned (.tuple #[.string r1, .int .i64 r2]) ∧ Below w.heap.size w w' := by
 have hu31 := Tryz.underlying31
 have HR0 := Aside0.mk hr0
 have HC0 := Aside0.mk hc0
 clear hr0 hc0
 have HB := Aside0.mk (Below.refl w.heap.size w)
 have H : (spec_BuddyinfoPrint.l0 k l0 (⟨#[]⟩ : ByteArray) l0 (l0.length : Int) 0) = some (r1, r2) := h
 clear h
 have H' := Aside0.mk H
 clear H
 go_enter Tryz.func18, Tryz.ntmps18
 go_wp2
 go_loopg [4, 11] k (fun kq v4 v11 w' => ∃ (x4_1 : ByteArray) (x11_1 : Int), v4 = .string x4_1 ∧ v11 = .int .i64 x11_1 ∧ Aside0 (spec_BuddyinfoPrint.l0 kq l0 x4_1 l0 (l0.length : Int) x11_1 = some (r1, r2)) ∧ Aside0 (kq ≤ k) ∧ Aside0 (Below w.heap.size w w'))
 case atStart => exact ⟨((⟨#[]⟩ : ByteArray)), (0), (by first | rfl | (simp; done) | (simp [*]; done)), (by first | rfl | (simp; done) | (simp [*]; done)), H', ⟨Nat.le_refl _⟩, ⟨by repeat (first | (with_reducible first | exact HB.out | apply below_alloc | apply pw_below_drewN | apply below_drew1) | exact HB.out)⟩⟩
 case round =>
  clear H'
  try clear c1
  obtain ⟨x4_1, x11_1, rfl, rfl, HA, HK1, HB⟩ := hrel
  cases gk with
  | zero => exact absurd HA.out (by simp [spec_BuddyinfoPrint.l0])
  | succ k1 =>
   have H := HA.out
   clear HA
   simp only [spec_BuddyinfoPrint.l0] at H
   by_cases c2 : x11_1 < (l0.length : Int)
   ·rw [if_pos c2] at H
    have c2b0 : decide (x11_1 < (l0.length : Int)) = true := decide_eq_true c2
    clear c2
    replace H := guard_inv H
    obtain ⟨c3, H⟩ := H
    have c3b0 : decide (0 ≤ x11_1) = true := decide_eq_true c3
    clear c3
    replace H := guard_inv H
    obtain ⟨c4, H⟩ := H
    have c4b0 : decide (x11_1 < (l0.length : Int)) = true := decide_eq_true c4
    clear c4
    have HC5 := Aside0.mk H
    clear H
    have p112 : 0 ≤ (x11_1 : Int) := of_decide_eq_true (by first | (with_reducible assumption) | assumption)
    have q112 : x11_1 < (l0.length : Int) := of_decide_eq_true (by first | (with_reducible assumption) | assumption)
    obtain ⟨ad112, A112_1, c112_1, A112_2, c112_2, e112, hx112_0, hx112_1, hx112_2, hl112_1, hi112_1, hl112_2, hi112_2⟩ := at_T31 HR0.out x11_1 p112 q112
    cases e112
    replace hx112_0 := (HB.out.cell (World.block_lt_of_cell? w _ hx112_0)).trans hx112_0
    replace hx112_1 := (HB.out.cell (World.block_lt_of_cell? w _ hx112_1)).trans hx112_1
    replace hx112_2 := (HB.out.cell (World.block_lt_of_cell? w _ hx112_2)).trans hx112_2
    have HR112_1 := Aside0.mk hi112_1
    have HC112_1 := Aside0.mk hl112_1
    clear hi112_1 hl112_1
    have HR112_2 := Aside0.mk hi112_2
    have HC112_2 := Aside0.mk hl112_2
    clear hi112_2 hl112_2
    replace p112 := eq_true p112
    replace q112 := eq_true q112
    go_upto_region 5 with (first | ((with_reducible refine gate_dst (N := 6) rfl ?_); (try (refine gate_guard (by rfl) ?_; dsimp only)); refine box_event ?hg (N := 6) ?hd (cs := #[.string (⟨#[]⟩ : ByteArray), .slice none 0 0, .slice none 0 0]) (t := 31) ?hr ?_; (case hd => rfl); (case hg => rfl); (case hr => first | (go_simp; done) | (go_simp; rfl)); intro gb113 hg w6 hbox hb; have n0_ := Aside0.mk (below_step (by repeat (first | (with_reducible first | exact HB.out | apply below_alloc | apply pw_below_drewN | apply below_drew1) | exact HB.out)) hb); have n1_ := Aside0.mk (hbox); have n2_ := Aside0.mk ((by rw [hg]; exact (below_size (by repeat (first | (with_reducible first | exact HB.out | apply below_alloc | apply pw_below_drewN | apply below_drew1) | exact HB.out))) : w.heap.size ≤ gb113)); have n3_ := Aside0.mk ((by rw [hg]; exact (below_size (by repeat (first | (with_reducible first | exact HB.out | apply below_alloc | apply pw_below_drewN | apply below_drew1) | exact HB.out))) : w.heap.size ≤ gb113)); clear HB; have HB := n0_; have BK113 := n1_; have GW113 := n2_; have GE113 := n3_; clear n0_ n1_ n2_ n3_; clear hb hbox hg; have hcz7_0 : w6.cell? ⟨gb113, 0, none⟩ = some (.string (⟨#[]⟩ : ByteArray)) := (blk_cell BK113.out 0).trans rfl; have hcz7_1 : w6.cell? ⟨gb113, 1, none⟩ = some (.slice none 0 0) := (blk_cell BK113.out 1).trans rfl; have hcz7_2 : w6.cell? ⟨gb113, 2, none⟩ = some (.slice none 0 0) := (blk_cell BK113.out 2).trans rfl; have hfz7_0 := blk_frozen BK113.out 0; have hfz7_1 := blk_frozen BK113.out 1; have hfz7_2 := blk_frozen BK113.out 2))
    (try simp only [Act.put, List.setIfInBounds_toArray, List.set_cons_zero, List.set_cons_succ])
    go_cut [63] (fun v63 wc => ∃ (kq : Nat) (x63_4 : Bool), v63 = .bool x63_4 ∧ Aside0 (spec_BuddyinfoPrint.j1 kq l0 x4_1 l0 (l0.length : Int) x11_1 x63_4 ((rd_T31 l0 x11_1).f0) ((rd_T31 l0 x11_1).f1) ((rd_T31 l0 x11_1).f2) = some (r1, r2)) ∧ Aside0 (kq ≤ k1) ∧ Aside0 (wc.heap[gb113]? = some (.cells #[.string ((rd_T31 l0 x11_1).f0), (.slice A112_1 ((rd_T31 l0 x11_1).f1).length c112_1), (.slice A112_2 ((rd_T31 l0 x11_1).f2).length c112_2)] 31 (0, 0))) ∧ Aside0 (Below w.heap.size w wc))
    case first =>
     have H := HC5.out
     clear HC5
     by_cases c8 : (((rd_T31 l0 x11_1).f2).length : Int) = 2
     ·rw [if_pos c8] at H
      have c8b0 : ((((rd_T31 l0 x11_1).f2).length : Int) == 2) = true := beq_iff_eq.mpr c8
      have c8b1 : ((((rd_T31 l0 x11_1).f2).length : Int) != 2) = false := bne_eq_false_iff_eq.mpr c8
      clear c8
      (first | rw [c8b0] | (simp only [i64_w, i32_w]; rw [c8b0]) | skip)
      replace H := Option.bind_eq_some_iff.mp H
      obtain ⟨t114, A90, H⟩ := H
      try dsimp -simprocs only at H
      have A9 := Aside0.mk A90
      clear A90
      by_cases c10 : t114 = true
      ·subst c10
       have H1 : (if 0 < (((rd_T31 l0 x11_1).f2).length : Int) then ((spec_Where.f k1 (rdOf ByteArray.empty ((rd_T31 l0 x11_1).f2) 0) 44).bind fun t116 => (if t116 ≥ 0 then (spec_BuddyinfoPrint.j1 k1 l0 x4_1 l0 (l0.length : Int) x11_1 true ((rd_T31 l0 x11_1).f0) ((rd_T31 l0 x11_1).f1) ((rd_T31 l0 x11_1).f2)) else (if 1 < (((rd_T31 l0 x11_1).f2).length : Int) then ((spec_Where.f k1 (rdOf ByteArray.empty ((rd_T31 l0 x11_1).f2) 1) 44).bind fun t118 => (if t118 ≥ 0 then (spec_BuddyinfoPrint.j1 k1 l0 x4_1 l0 (l0.length : Int) x11_1 true ((rd_T31 l0 x11_1).f0) ((rd_T31 l0 x11_1).f1) ((rd_T31 l0 x11_1).f2)) else (if (((rd_T31 l0 x11_1).f1).length : Int) < 1 then (spec_BuddyinfoPrint.j1 k1 l0 x4_1 l0 (l0.length : Int) x11_1 true ((rd_T31 l0 x11_1).f0) ((rd_T31 l0 x11_1).f1) ((rd_T31 l0 x11_1).f2)) else (if 0 < (l0.length : Int) then (if (((rd_T31 l0 x11_1).f1).length : Int) = (((rd_T31 l0 0).f1).length : Int) then ((spec_small.f k1 1099511627776 ((rd_T31 l0 x11_1).f1)).bind fun t120 => (spec_BuddyinfoPrint.j1 k1 l0 x4_1 l0 (l0.length : Int) x11_1 (!t120) ((rd_T31 l0 x11_1).f0) ((rd_T31 l0 x11_1).f1) ((rd_T31 l0 x11_1).f2))) else (spec_BuddyinfoPrint.j1 k1 l0 x4_1 l0 (l0.length : Int) x11_1 true ((rd_T31 l0 x11_1).f0) ((rd_T31 l0 x11_1).f1) ((rd_T31 l0 x11_1).f2))) else (none))))) else (none)))) else (none)) = some (r1, r2) := by rw [if_pos rfl] at H; exact H
       clear H
       have H := H1
       clear H1
       replace H := guard_inv H
       obtain ⟨c11, H⟩ := H
       have c11b0 : decide (0 < (((rd_T31 l0 x11_1).f2).length : Int)) = true := decide_eq_true c11
       have c11b1 : decide (0 < ((rd_T31 l0 x11_1).f2).length) = true := decide_eq_true (by omega)
       clear c11
       replace H := Option.bind_eq_some_iff.mp H
       obtain ⟨t116, A120, H⟩ := H
       try dsimp -simprocs only at H
       have A12 := Aside0.mk A120
       clear A120
       by_cases c13 : t116 ≥ 0
       ·rw [if_pos c13] at H
        have c13b0 : decide (0 ≤ t116) = true := decide_eq_true c13
        clear c13
        have H' := Aside0.mk H
        clear H
        try go_wp2
        have n0_ : Aside0 ((((w6.setCell ⟨gb113, 0, none⟩ (.string ((rd_T31 l0 x11_1).f0))).setCell ⟨gb113, 1, none⟩ (.slice A112_1 ((rd_T31 l0 x11_1).f1).length c112_1)).setCell ⟨gb113, 2, none⟩ (.slice A112_2 ((rd_T31 l0 x11_1).f2).length c112_2)).heap[gb113]? = some (.cells #[.string ((rd_T31 l0 x11_1).f0), .slice A112_1 ((rd_T31 l0 x11_1).f1).length c112_1, .slice A112_2 ((rd_T31 l0 x11_1).f2).length c112_2] 31 (0, 0))) := ⟨by (with_reducible repeat (first | refine blk_drewN ?_ _ | refine blk_drew ?_ | refine blk_alloc ?_ _)); refine blk_put (cs := #[.string ((rd_T31 l0 x11_1).f0), .slice A112_1 ((rd_T31 l0 x11_1).f1).length c112_1, .slice none 0 0]) ?_ 2 _ rfl; (with_reducible repeat (first | refine blk_drewN ?_ _ | refine blk_drew ?_ | refine blk_alloc ?_ _)); refine blk_put (cs := #[.string ((rd_T31 l0 x11_1).f0), .slice none 0 0, .slice none 0 0]) ?_ 1 _ rfl; (with_reducible repeat (first | refine blk_drewN ?_ _ | refine blk_drew ?_ | refine blk_alloc ?_ _)); refine blk_put (cs := #[.string (⟨#[]⟩ : ByteArray), .slice none 0 0, .slice none 0 0]) ?_ 0 _ rfl; (with_reducible repeat (first | refine blk_drewN ?_ _ | refine blk_drew ?_ | refine blk_alloc ?_ _)); exact BK113.out⟩
        have n1_ : Aside0 (Below w.heap.size w (((w6.setCell ⟨gb113, 0, none⟩ (.string ((rd_T31 l0 x11_1).f0))).setCell ⟨gb113, 1, none⟩ (.slice A112_1 ((rd_T31 l0 x11_1).f1).length c112_1)).setCell ⟨gb113, 2, none⟩ (.slice A112_2 ((rd_T31 l0 x11_1).f2).length c112_2))) := ⟨by repeat (first | (with_reducible first | exact HB.out | apply below_alloc | apply pw_below_drewN | apply below_drew1 | refine below_set ?_ GE113.out) | exact HB.out)⟩
        (try clear BK113)
        (try clear HB)
        generalize (((w6.setCell ⟨gb113, 0, none⟩ (.string ((rd_T31 l0 x11_1).f0))).setCell ⟨gb113, 1, none⟩ (.slice A112_1 ((rd_T31 l0 x11_1).f1).length c112_1)).setCell ⟨gb113, 2, none⟩ (.slice A112_2 ((rd_T31 l0 x11_1).f2).length c112_2)) = w14 at n0_ n1_ ⊢
        have BK113 := n0_
        have HB := n1_
        clear n0_ n1_
        have n0_ := Aside0.mk (blk_drew BK113.out)
        have n1_ := Aside0.mk (below_drew1 HB.out)
        clear BK113
        clear HB
        have BK113 := n0_
        have HB := n1_
        clear n0_ n1_
        have p115 : 0 ≤ (0 : Int) := (by omega)
        have q115 : 0 < (((rd_T31 l0 x11_1).f2).length : Int) := of_decide_eq_true (by first | (with_reducible assumption) | assumption)
        obtain ⟨ad115, e115, hx115_0⟩ := Kd.at_string HR112_2.out 0 p115 q115
        have hw115_0 := hx115_0
        (try rw [show ((0 : Int)).toNat = 0 from rfl] at hw115_0)
        (try rw [show 0 * 1 = 0 from rfl] at hw115_0)
        (try rw [Addr.add_zero'] at hw115_0)
        cases e115
        have qi115 : (0 < ((rd_T31 l0 x11_1).f2).length) = True := eq_true (by omega)
        (try rw [show ((0 : Int)).toNat = 0 from rfl] at hx115_0)
        (try rw [Addr.add_zero'] at hx115_0)
        replace hx115_0 := (HB.out.cell (World.block_lt_of_cell? w _ hx115_0)).trans hx115_0
        replace p115 := eq_true p115
        replace q115 := eq_true q115
        refine start_ (n := 49) (S := fun w' => w'.cell? ⟨gb113, 0, none⟩ = some (.string ((rd_T31 l0 x11_1).f0)) ∧ w'.cell? ⟨gb113, 1, none⟩ = some (.slice A112_1 ((rd_T31 l0 x11_1).f1).length c112_1) ∧ w'.cell? ⟨gb113, 2, none⟩ = some (.slice (some ad115) ((rd_T31 l0 x11_1).f2).length c112_2) ∧ w'.cell? ad115 = some (.string (rdOf ByteArray.empty ((rd_T31 l0 x11_1).f2) 0))) (ds := []) (bb [0, 49]) (by kernel_rfl) rfl rfl ⟨(blk_cell BK113.out 0).trans rfl, (blk_cell BK113.out 1).trans rfl, (blk_cell BK113.out 2).trans rfl, ((HB.out.cell (World.block_lt_of_cell? w _ hw115_0)).trans hw115_0)⟩ (fun hHeld => ?_); refine with_tabW spec_BuddyinfoPrint.tab5 spec_BuddyinfoPrint.bits5 (fun HT_ HW_ => ?_)
        generalize w14.drew = w15 at BK113 HB hx115_0 hHeld ⊢
        refine pure_ (i := 0) (N := some 15) (v := ?_) (a' := ?_) (bb [1, 48]) rfl rfl (any_of HT_.out (by kernel_rfl)) (fun _ _ _ h => h) (Or.inl ⟨by rfl, ?_⟩) ?_ ?_
        rotate_left
        ·intro w'
         go_simp
         with_reducible rfl
        rotate_left
        ·simp only [Act.put, List.setIfInBounds_toArray, List.set_cons_zero, List.set_cons_succ, i64_w, i32_w]
         rfl
        refine take_ (i := 1) (N := some 16) (v := ?_) (a' := ?_) (bb [2, 47]) rfl rfl (take_ofW HT_.out HW_.out (by kernel_rfl)) (fun _ _ _ h => h) (Or.inl ⟨by rfl, ?_⟩) hHeld ?_ ?_
        rotate_left
        ·rintro w' ⟨s0, s1, s2, s3⟩
         go_simp
         with_reducible rfl
        rotate_left
        ·simp only [Act.put, List.setIfInBounds_toArray, List.set_cons_zero, List.set_cons_succ, i64_w, i32_w]
         rfl
        refine pure_ (i := 2) (N := some 17) (v := ?_) (a' := ?_) (bb [3, 46]) rfl rfl (any_of HT_.out (by kernel_rfl)) (fun _ _ _ h => h) (Or.inl ⟨by rfl, ?_⟩) ?_ ?_
        rotate_left
        ·intro w'
         go_simp
         with_reducible rfl
        rotate_left
        ·simp only [Act.put, List.setIfInBounds_toArray, List.set_cons_zero, List.set_cons_succ, i64_w, i32_w]
         rfl
        refine pure_ (i := 3) (N := some 18) (v := ?_) (a' := ?_) (bb [4, 45]) rfl rfl (any_of HT_.out (by kernel_rfl)) (fun _ _ _ h => h) (Or.inl ⟨by rfl, ?_⟩) ?_ ?_
        rotate_left
        ·intro w'
         go_simp
         with_reducible rfl
        rotate_left
        ·simp only [Act.put, List.setIfInBounds_toArray, List.set_cons_zero, List.set_cons_succ, i64_w, i32_w]
         rfl
        refine pure_ (i := 4) (N := some 19) (v := ?_) (a' := ?_) (bb [5, 44]) rfl rfl (any_of HT_.out (by kernel_rfl)) (fun _ _ _ h => h) (Or.inl ⟨by rfl, ?_⟩) ?_ ?_
        rotate_left
        ·intro w'
         go_simp
         with_reducible rfl
        rotate_left
        ·simp only [Act.put, List.setIfInBounds_toArray, List.set_cons_zero, List.set_cons_succ, i64_w, i32_w]
         rfl
        refine pure_ (i := 5) (N := some 20) (v := ?_) (a' := ?_) (bb [6, 43]) rfl rfl (any_of HT_.out (by kernel_rfl)) (fun _ _ _ h => h) (Or.inl ⟨by rfl, ?_⟩) ?_ ?_
        rotate_left
        ·intro w'
         go_simp
         with_reducible rfl
        rotate_left
        ·simp only [Act.put, List.setIfInBounds_toArray, List.set_cons_zero, List.set_cons_succ, i64_w, i32_w]
         rfl
        refine take_ (i := 6) (N := some 21) (v := ?_) (a' := ?_) (bb [7, 42]) rfl rfl (take_ofW HT_.out HW_.out (by kernel_rfl)) (fun _ _ _ h => h) (Or.inl ⟨by rfl, ?_⟩) hHeld ?_ ?_
        rotate_left
        ·rintro w' ⟨s0, s1, s2, s3⟩
         go_simp
         with_reducible rfl
        rotate_left
        ·simp only [Act.put, List.setIfInBounds_toArray, List.set_cons_zero, List.set_cons_succ, i64_w, i32_w]
         rfl
        refine one_ (i := 7) (N := some 22) (bb [8, 41]) rfl rfl (one_of HT_.out (by kernel_rfl)) (by decide) (fun K hK => ?_)
        refine goes_ Tryz.func62 (by kernel_rfl) rfl #[.slice (some ad115) ((rd_T31 l0 x11_1).f2).length c112_2] (by rfl) rfl rfl (by (try simp only [List.map_toArray, List.map_cons, List.map_nil]); first | done | rfl | (simp only [List.length_drop, List.length_take]; rfl)) ?_
        with_reducible refine (spec_words.calls k1 _ _ ((rd_T31 l0 x11_1).f2) true _ ?side1 ?side2 A9.out).mono ?_
        (case side1 => repeat (first | exact (Kd.C_below HR112_2.out HB.out) | (with_reducible refine Kd.C_alloc ?_ _) | (with_reducible refine Kd.C_drewN ?_ _) | (with_reducible refine Kd.C_drew ?_)))
        (case side2 => exact HC112_2.out)
        rintro e w' ⟨rfl, ⟨nd, rfl⟩⟩
        refine ⟨_, rfl, ?_⟩
        refine hK.out _ _ ⟨(blk_cell BK113.out 0).trans rfl, (blk_cell BK113.out 1).trans rfl, (blk_cell BK113.out 2).trans rfl, ((HB.out.cell (World.block_lt_of_cell? w _ hw115_0)).trans hw115_0)⟩ (fun hHeld => ?_)
        clear hK K
        refine norm_ (a' := ?_) ?_ ?_
        rotate_left
        ·show Act.put _ (some 22) _ = _
         simp only [Act.put, List.setIfInBounds_toArray, List.set_cons_zero, List.set_cons_succ, i64_w, i32_w]
         rfl
        refine pure_ (i := 8) (N := some 23) (v := ?_) (a' := ?_) (bb [9, 40]) rfl rfl (any_of HT_.out (by kernel_rfl)) (fun _ _ _ h => h) (Or.inl ⟨by rfl, ?_⟩) ?_ ?_
        rotate_left
        ·intro w'
         go_simp
         with_reducible rfl
        rotate_left
        ·simp only [Act.put, List.setIfInBounds_toArray, List.set_cons_zero, List.set_cons_succ, i64_w, i32_w]
         rfl
        refine pure_ (i := 9) (N := some 24) (v := ?_) (a' := ?_) (bb [10, 39]) rfl rfl (any_of HT_.out (by kernel_rfl)) (fun _ _ _ h => h) (Or.inl ⟨by rfl, ?_⟩) ?_ ?_
        rotate_left
        ·intro w'
         go_simp
         with_reducible rfl
        rotate_left
        ·simp only [Act.put, List.setIfInBounds_toArray, List.set_cons_zero, List.set_cons_succ, i64_w, i32_w]
         rfl
        refine pure_ (i := 10) (N := some 25) (v := ?_) (a' := ?_) (bb [11, 38]) rfl rfl (any_of HT_.out (by kernel_rfl)) (fun _ _ _ h => h) (Or.inl ⟨by rfl, ?_⟩) ?_ ?_
        rotate_left
        ·intro w'
         go_simp
         with_reducible rfl
        rotate_left
        ·simp only [Act.put, List.setIfInBounds_toArray, List.set_cons_zero, List.set_cons_succ, i64_w, i32_w]
         rfl
        refine pure_ (i := 11) (N := some 26) (v := ?_) (a' := ?_) (bb [12, 37]) rfl rfl (any_of HT_.out (by kernel_rfl)) (fun _ _ _ h => h) (Or.inl ⟨by rfl, ?_⟩) ?_ ?_
        rotate_left
        ·intro w'
         go_simp
         with_reducible rfl
        rotate_left
        ·simp only [Act.put, List.setIfInBounds_toArray, List.set_cons_zero, List.set_cons_succ, i64_w, i32_w]
         rfl
        refine take_ (i := 12) (N := some 27) (v := ?_) (a' := ?_) (bb [13, 36]) rfl rfl (take_ofW HT_.out HW_.out (by kernel_rfl)) (fun _ _ _ h => h) (Or.inl ⟨by rfl, ?_⟩) hHeld ?_ ?_
        rotate_left
        ·rintro w' ⟨s0, s1, s2, s3⟩
         go_simp
         with_reducible rfl
        rotate_left
        ·simp only [Act.put, List.setIfInBounds_toArray, List.set_cons_zero, List.set_cons_succ, i64_w, i32_w]
         rfl
        refine pure_ (i := 13) (N := some 28) (v := ?_) (a' := ?_) (bb [14, 35]) rfl rfl (any_of HT_.out (by kernel_rfl)) (fun _ _ _ h => h) (Or.inl ⟨by rfl, ?_⟩) ?_ ?_
        rotate_left
        ·intro w'
         go_simp
         with_reducible rfl
        rotate_left
        ·simp only [Act.put, List.setIfInBounds_toArray, List.set_cons_zero, List.set_cons_succ, i64_w, i32_w]
         rfl
        refine take_ (i := 14) (N := some 29) (v := ?_) (a' := ?_) (bb [15, 34]) rfl rfl (take_ofW HT_.out HW_.out (by kernel_rfl)) (fun _ _ _ h => h) (Or.inl ⟨by rfl, ?_⟩) hHeld ?_ ?_
        rotate_left
        ·rintro w' ⟨s0, s1, s2, s3⟩
         go_simp
         with_reducible rfl
        rotate_left
        ·simp only [Act.put, List.setIfInBounds_toArray, List.set_cons_zero, List.set_cons_succ, i64_w, i32_w]
         rfl
        refine one_ (i := 15) (N := some 30) (bb [16, 33]) rfl rfl (one_of HT_.out (by kernel_rfl)) (by decide) (fun K hK => ?_)
        refine goes_ Tryz.func63 (by kernel_rfl) rfl #[.string (rdOf ByteArray.empty ((rd_T31 l0 x11_1).f2) 0), .int .u8 44] (by rfl) rfl rfl (by (try simp only [List.map_toArray, List.map_cons, List.map_nil]); first | done | rfl | (simp only [List.length_drop, List.length_take]; rfl)) ?_
        with_reducible refine (spec_Where.calls k1 (rdOf ByteArray.empty ((rd_T31 l0 x11_1).f2) 0) 44 t116 _ A12.out).mono ?_
        rintro e w' ⟨rfl, ⟨nd, rfl⟩⟩
        refine ⟨_, rfl, ?_⟩
        refine hK.out _ _ ⟨(blk_cell BK113.out 0).trans rfl, (blk_cell BK113.out 1).trans rfl, (blk_cell BK113.out 2).trans rfl, ((HB.out.cell (World.block_lt_of_cell? w _ hw115_0)).trans hw115_0)⟩ (fun hHeld => ?_)
        clear hK K
        refine norm_ (a' := ?_) ?_ ?_
        rotate_left
        ·show Act.put _ (some 30) _ = _
         simp only [Act.put, List.setIfInBounds_toArray, List.set_cons_zero, List.set_cons_succ, i64_w, i32_w]
         rfl
        refine pure_ (i := 16) (N := some 31) (v := ?_) (a' := ?_) (bb [17, 32]) rfl rfl (any_of HT_.out (by kernel_rfl)) (fun _ _ _ h => h) (Or.inl ⟨by rfl, ?_⟩) ?_ ?_
        rotate_left
        ·intro w'
         go_simp
         with_reducible rfl
        rotate_left
        ·simp only [Act.put, List.setIfInBounds_toArray, List.set_cons_zero, List.set_cons_succ, i64_w, i32_w]
         rfl
        refine pure_ (i := 17) (N := some 32) (v := ?_) (a' := ?_) (bb [18, 31]) rfl rfl (any_of HT_.out (by kernel_rfl)) (fun _ _ _ h => h) (Or.inl ⟨by rfl, ?_⟩) ?_ ?_
        rotate_left
        ·intro w'
         go_simp
         with_reducible rfl
        rotate_left
        ·simp only [Act.put, List.setIfInBounds_toArray, List.set_cons_zero, List.set_cons_succ, i64_w, i32_w]
         rfl
        refine pure_ (i := 18) (N := some 33) (v := ?_) (a' := ?_) (bb [19, 30]) rfl rfl (any_of HT_.out (by kernel_rfl)) (fun _ _ _ h => h) (Or.inl ⟨by rfl, ?_⟩) ?_ ?_
        rotate_left
        ·intro w'
         go_simp
         with_reducible rfl
        rotate_left
        ·simp only [Act.put, List.setIfInBounds_toArray, List.set_cons_zero, List.set_cons_succ, i64_w, i32_w]
         rfl
        refine pure_ (i := 19) (N := some 34) (v := undef) (a' := ?_) (bb [20, 29]) rfl rfl (any_of HT_.out (by kernel_rfl)) (fun _ _ _ h => h) (Or.inr ⟨by rfl, rfl⟩) ?_ ?_
        rotate_left
        ·simp only [Act.put, List.setIfInBounds_toArray, List.set_cons_zero, List.set_cons_succ, i64_w, i32_w]
         rfl
        refine pure_ (i := 20) (N := some 35) (v := undef) (a' := ?_) (bb [21, 28]) rfl rfl (any_of HT_.out (by kernel_rfl)) (fun _ _ _ h => h) (Or.inr ⟨by rfl, rfl⟩) ?_ ?_
        rotate_left
        ·simp only [Act.put, List.setIfInBounds_toArray, List.set_cons_zero, List.set_cons_succ, i64_w, i32_w]
         rfl
        refine pure_ (i := 21) (N := some 36) (v := undef) (a' := ?_) (bb [22, 27]) rfl rfl (any_of HT_.out (by kernel_rfl)) (fun _ _ _ h => h) (Or.inr ⟨by rfl, rfl⟩) ?_ ?_
        rotate_left
        ·simp only [Act.put, List.setIfInBounds_toArray, List.set_cons_zero, List.set_cons_succ, i64_w, i32_w]
         rfl
        refine pure_ (i := 22) (N := some 37) (v := undef) (a' := ?_) (bb [23, 26]) rfl rfl (any_of HT_.out (by kernel_rfl)) (fun _ _ _ h => h) (Or.inr ⟨by rfl, rfl⟩) ?_ ?_
        rotate_left
        ·simp only [Act.put, List.setIfInBounds_toArray, List.set_cons_zero, List.set_cons_succ, i64_w, i32_w]
         rfl
        refine pure_ (i := 23) (N := some 38) (v := undef) (a' := ?_) (bb [24, 25]) rfl rfl (any_of HT_.out (by kernel_rfl)) (fun _ _ _ h => h) (Or.inr ⟨by rfl, rfl⟩) ?_ ?_
        rotate_left
        ·simp only [Act.put, List.setIfInBounds_toArray, List.set_cons_zero, List.set_cons_succ, i64_w, i32_w]
         rfl
        refine pure_ (i := 24) (N := some 39) (v := undef) (a' := ?_) (bb [25, 24]) rfl rfl (any_of HT_.out (by kernel_rfl)) (fun _ _ _ h => h) (Or.inr ⟨by rfl, rfl⟩) ?_ ?_
        rotate_left
        ·simp only [Act.put, List.setIfInBounds_toArray, List.set_cons_zero, List.set_cons_succ, i64_w, i32_w]
         rfl
        refine pure_ (i := 25) (N := some 40) (v := ?_) (a' := ?_) (bb [26, 23]) rfl rfl (any_of HT_.out (by kernel_rfl)) (fun _ _ _ h => h) (Or.inl ⟨by rfl, ?_⟩) ?_ ?_
        rotate_left
        ·intro w'
         go_simp
         with_reducible rfl
        rotate_left
        ·simp only [Act.put, List.setIfInBounds_toArray, List.set_cons_zero, List.set_cons_succ, i64_w, i32_w]
         rfl
        refine pure_ (i := 26) (N := some 41) (v := ?_) (a' := ?_) (bb [27, 22]) rfl rfl (any_of HT_.out (by kernel_rfl)) (fun _ _ _ h => h) (Or.inl ⟨by rfl, ?_⟩) ?_ ?_
        rotate_left
        ·intro w'
         go_simp
         with_reducible rfl
        rotate_left
        ·simp only [Act.put, List.setIfInBounds_toArray, List.set_cons_zero, List.set_cons_succ, i64_w, i32_w]
         rfl
        refine pure_ (i := 27) (N := some 42) (v := undef) (a' := ?_) (bb [28, 21]) rfl rfl (any_of HT_.out (by kernel_rfl)) (fun _ _ _ h => h) (Or.inr ⟨by rfl, rfl⟩) ?_ ?_
        rotate_left
        ·simp only [Act.put, List.setIfInBounds_toArray, List.set_cons_zero, List.set_cons_succ, i64_w, i32_w]
         rfl
        refine pure_ (i := 28) (N := some 43) (v := undef) (a' := ?_) (bb [29, 20]) rfl rfl (any_of HT_.out (by kernel_rfl)) (fun _ _ _ h => h) (Or.inr ⟨by rfl, rfl⟩) ?_ ?_
        rotate_left
        ·simp only [Act.put, List.setIfInBounds_toArray, List.set_cons_zero, List.set_cons_succ, i64_w, i32_w]
         rfl
        refine pure_ (i := 29) (N := some 44) (v := undef) (a' := ?_) (bb [30, 19]) rfl rfl (any_of HT_.out (by kernel_rfl)) (fun _ _ _ h => h) (Or.inr ⟨by rfl, rfl⟩) ?_ ?_
        rotate_left
        ·simp only [Act.put, List.setIfInBounds_toArray, List.set_cons_zero, List.set_cons_succ, i64_w, i32_w]
         rfl
        refine pure_ (i := 30) (N := some 45) (v := undef) (a' := ?_) (bb [31, 18]) rfl rfl (any_of HT_.out (by kernel_rfl)) (fun _ _ _ h => h) (Or.inr ⟨by rfl, rfl⟩) ?_ ?_
        rotate_left
        ·simp only [Act.put, List.setIfInBounds_toArray, List.set_cons_zero, List.set_cons_succ, i64_w, i32_w]
         rfl
        refine pure_ (i := 31) (N := some 46) (v := ?_) (a' := ?_) (bb [32, 17]) rfl rfl (any_of HT_.out (by kernel_rfl)) (fun _ _ _ h => h) (Or.inl ⟨by rfl, ?_⟩) ?_ ?_
        rotate_left
        ·intro w'
         go_simp
         with_reducible rfl
        rotate_left
        ·simp only [Act.put, List.setIfInBounds_toArray, List.set_cons_zero, List.set_cons_succ, i64_w, i32_w]
         rfl
        refine pure_ (i := 32) (N := some 47) (v := ?_) (a' := ?_) (bb [33, 16]) rfl rfl (any_of HT_.out (by kernel_rfl)) (fun _ _ _ h => h) (Or.inl ⟨by rfl, ?_⟩) ?_ ?_
        rotate_left
        ·intro w'
         go_simp
         with_reducible rfl
        rotate_left
        ·simp only [Act.put, List.setIfInBounds_toArray, List.set_cons_zero, List.set_cons_succ, i64_w, i32_w]
         rfl
        refine pure_ (i := 33) (N := some 48) (v := undef) (a' := ?_) (bb [34, 15]) rfl rfl (any_of HT_.out (by kernel_rfl)) (fun _ _ _ h => h) (Or.inr ⟨by rfl, rfl⟩) ?_ ?_
        rotate_left
        ·simp only [Act.put, List.setIfInBounds_toArray, List.set_cons_zero, List.set_cons_succ, i64_w, i32_w]
         rfl
        refine pure_ (i := 34) (N := some 49) (v := undef) (a' := ?_) (bb [35, 14]) rfl rfl (any_of HT_.out (by kernel_rfl)) (fun _ _ _ h => h) (Or.inr ⟨by rfl, rfl⟩) ?_ ?_
        rotate_left
        ·simp only [Act.put, List.setIfInBounds_toArray, List.set_cons_zero, List.set_cons_succ, i64_w, i32_w]
         rfl
        refine pure_ (i := 35) (N := some 50) (v := undef) (a' := ?_) (bb [36, 13]) rfl rfl (any_of HT_.out (by kernel_rfl)) (fun _ _ _ h => h) (Or.inr ⟨by rfl, rfl⟩) ?_ ?_
        rotate_left
        ·simp only [Act.put, List.setIfInBounds_toArray, List.set_cons_zero, List.set_cons_succ, i64_w, i32_w]
         rfl
        refine pure_ (i := 36) (N := some 51) (v := undef) (a' := ?_) (bb [37, 12]) rfl rfl (any_of HT_.out (by kernel_rfl)) (fun _ _ _ h => h) (Or.inr ⟨by rfl, rfl⟩) ?_ ?_
        rotate_left
        ·simp only [Act.put, List.setIfInBounds_toArray, List.set_cons_zero, List.set_cons_succ, i64_w, i32_w]
         rfl
        refine pure_ (i := 37) (N := some 52) (v := undef) (a' := ?_) (bb [38, 11]) rfl rfl (any_of HT_.out (by kernel_rfl)) (fun _ _ _ h => h) (Or.inr ⟨by rfl, rfl⟩) ?_ ?_
        rotate_left
        ·simp only [Act.put, List.setIfInBounds_toArray, List.set_cons_zero, List.set_cons_succ, i64_w, i32_w]
         rfl
        refine pure_ (i := 38) (N := some 53) (v := undef) (a' := ?_) (bb [39, 10]) rfl rfl (any_of HT_.out (by kernel_rfl)) (fun _ _ _ h => h) (Or.inr ⟨by rfl, rfl⟩) ?_ ?_
        rotate_left
        ·simp only [Act.put, List.setIfInBounds_toArray, List.set_cons_zero, List.set_cons_succ, i64_w, i32_w]
         rfl
        refine pure_ (i := 39) (N := some 54) (v := undef) (a' := ?_) (bb [40, 9]) rfl rfl (any_of HT_.out (by kernel_rfl)) (fun _ _ _ h => h) (Or.inr ⟨by rfl, rfl⟩) ?_ ?_
        rotate_left
        ·simp only [Act.put, List.setIfInBounds_toArray, List.set_cons_zero, List.set_cons_succ, i64_w, i32_w]
         rfl
        refine pure_ (i := 40) (N := some 55) (v := undef) (a' := ?_) (bb [41, 8]) rfl rfl (any_of HT_.out (by kernel_rfl)) (fun _ _ _ h => h) (Or.inr ⟨by rfl, rfl⟩) ?_ ?_
        rotate_left
        ·simp only [Act.put, List.setIfInBounds_toArray, List.set_cons_zero, List.set_cons_succ, i64_w, i32_w]
         rfl
        refine pure_ (i := 41) (N := some 56) (v := undef) (a' := ?_) (bb [42, 7]) rfl rfl (any_of HT_.out (by kernel_rfl)) (fun _ _ _ h => h) (Or.inr ⟨by rfl, rfl⟩) ?_ ?_
        rotate_left
        ·simp only [Act.put, List.setIfInBounds_toArray, List.set_cons_zero, List.set_cons_succ, i64_w, i32_w]
         rfl
        refine pure_ (i := 42) (N := some 57) (v := ?_) (a' := ?_) (bb [43, 6]) rfl rfl (any_of HT_.out (by kernel_rfl)) (fun _ _ _ h => h) (Or.inl ⟨by rfl, ?_⟩) ?_ ?_
        rotate_left
        ·intro w'
         go_simp
         with_reducible rfl
        rotate_left
        ·simp only [Act.put, List.setIfInBounds_toArray, List.set_cons_zero, List.set_cons_succ, i64_w, i32_w]
         rfl
        refine pure_ (i := 43) (N := some 58) (v := ?_) (a' := ?_) (bb [44, 5]) rfl rfl (any_of HT_.out (by kernel_rfl)) (fun _ _ _ h => h) (Or.inl ⟨by rfl, ?_⟩) ?_ ?_
        rotate_left
        ·intro w'
         go_simp
         with_reducible rfl
        rotate_left
        ·simp only [Act.put, List.setIfInBounds_toArray, List.set_cons_zero, List.set_cons_succ, i64_w, i32_w]
         rfl
        refine pure_ (i := 44) (N := some 59) (v := undef) (a' := ?_) (bb [45, 4]) rfl rfl (any_of HT_.out (by kernel_rfl)) (fun _ _ _ h => h) (Or.inr ⟨by rfl, rfl⟩) ?_ ?_
        rotate_left
        ·simp only [Act.put, List.setIfInBounds_toArray, List.set_cons_zero, List.set_cons_succ, i64_w, i32_w]
         rfl
        refine pure_ (i := 45) (N := some 60) (v := undef) (a' := ?_) (bb [46, 3]) rfl rfl (any_of HT_.out (by kernel_rfl)) (fun _ _ _ h => h) (Or.inr ⟨by rfl, rfl⟩) ?_ ?_
        rotate_left
        ·simp only [Act.put, List.setIfInBounds_toArray, List.set_cons_zero, List.set_cons_succ, i64_w, i32_w]
         rfl
        refine pure_ (i := 46) (N := some 61) (v := undef) (a' := ?_) (bb [47, 2]) rfl rfl (any_of HT_.out (by kernel_rfl)) (fun _ _ _ h => h) (Or.inr ⟨by rfl, rfl⟩) ?_ ?_
        rotate_left
        ·simp only [Act.put, List.setIfInBounds_toArray, List.set_cons_zero, List.set_cons_succ, i64_w, i32_w]
         rfl
        refine pure_ (i := 47) (N := some 62) (v := undef) (a' := ?_) (bb [48, 1]) rfl rfl (any_of HT_.out (by kernel_rfl)) (fun _ _ _ h => h) (Or.inr ⟨by rfl, rfl⟩) ?_ ?_
        rotate_left
        ·simp only [Act.put, List.setIfInBounds_toArray, List.set_cons_zero, List.set_cons_succ, i64_w, i32_w]
         rfl
        refine pure_ (i := 48) (N := some 63) (v := ?_) (a' := ?_) (bb [49]) rfl rfl (any_of HT_.out (by kernel_rfl)) (fun _ _ _ h => h) (Or.inl ⟨by rfl, ?_⟩) ?_ ?_
        rotate_left
        ·intro w'
         go_simp
         with_reducible rfl
        rotate_left
        ·simp only [Act.put, List.setIfInBounds_toArray, List.set_cons_zero, List.set_cons_succ, i64_w, i32_w]
         rfl
        refine done_ (done_of HT_.out (by kernel_rfl)) ?_
        try go_wp2
        go_meet
        case rel => exact ⟨_, (true), (by first | rfl | (simp; done) | (simp [*]; done)), H', ⟨by have := HK1.out; first | omega | exact Nat.le_refl _⟩, ⟨by (with_reducible repeat (first | refine blk_drewN ?_ _ | refine blk_drew ?_ | refine blk_alloc ?_ _)); exact BK113.out⟩, ⟨by repeat (first | (with_reducible first | exact HB.out | apply below_alloc | apply pw_below_drewN | apply below_drew1 | refine below_set ?_ GE113.out) | exact HB.out)⟩⟩
       ·rw [if_neg c13] at H
        have c13b0 : decide (0 ≤ t116) = false := decide_eq_false c13
        clear c13
        replace H := guard_inv H
        obtain ⟨c16, H⟩ := H
        have c16b0 : decide (1 < (((rd_T31 l0 x11_1).f2).length : Int)) = true := decide_eq_true c16
        have c16b1 : decide (1 < ((rd_T31 l0 x11_1).f2).length) = true := decide_eq_true (by omega)
        clear c16
        replace H := Option.bind_eq_some_iff.mp H
        obtain ⟨t118, A170, H⟩ := H
        try dsimp -simprocs only at H
        have A17 := Aside0.mk A170
        clear A170
        by_cases c18 : t118 ≥ 0
        ·rw [if_pos c18] at H
         have c18b0 : decide (0 ≤ t118) = true := decide_eq_true c18
         clear c18
         have H' := Aside0.mk H
         clear H
         try go_wp2
         have n0_ : Aside0 ((((w6.setCell ⟨gb113, 0, none⟩ (.string ((rd_T31 l0 x11_1).f0))).setCell ⟨gb113, 1, none⟩ (.slice A112_1 ((rd_T31 l0 x11_1).f1).length c112_1)).setCell ⟨gb113, 2, none⟩ (.slice A112_2 ((rd_T31 l0 x11_1).f2).length c112_2)).heap[gb113]? = some (.cells #[.string ((rd_T31 l0 x11_1).f0), .slice A112_1 ((rd_T31 l0 x11_1).f1).length c112_1, .slice A112_2 ((rd_T31 l0 x11_1).f2).length c112_2] 31 (0, 0))) := ⟨by (with_reducible repeat (first | refine blk_drewN ?_ _ | refine blk_drew ?_ | refine blk_alloc ?_ _)); refine blk_put (cs := #[.string ((rd_T31 l0 x11_1).f0), .slice A112_1 ((rd_T31 l0 x11_1).f1).length c112_1, .slice none 0 0]) ?_ 2 _ rfl; (with_reducible repeat (first | refine blk_drewN ?_ _ | refine blk_drew ?_ | refine blk_alloc ?_ _)); refine blk_put (cs := #[.string ((rd_T31 l0 x11_1).f0), .slice none 0 0, .slice none 0 0]) ?_ 1 _ rfl; (with_reducible repeat (first | refine blk_drewN ?_ _ | refine blk_drew ?_ | refine blk_alloc ?_ _)); refine blk_put (cs := #[.string (⟨#[]⟩ : ByteArray), .slice none 0 0, .slice none 0 0]) ?_ 0 _ rfl; (with_reducible repeat (first | refine blk_drewN ?_ _ | refine blk_drew ?_ | refine blk_alloc ?_ _)); exact BK113.out⟩
         have n1_ : Aside0 (Below w.heap.size w (((w6.setCell ⟨gb113, 0, none⟩ (.string ((rd_T31 l0 x11_1).f0))).setCell ⟨gb113, 1, none⟩ (.slice A112_1 ((rd_T31 l0 x11_1).f1).length c112_1)).setCell ⟨gb113, 2, none⟩ (.slice A112_2 ((rd_T31 l0 x11_1).f2).length c112_2))) := ⟨by repeat (first | (with_reducible first | exact HB.out | apply below_alloc | apply pw_below_drewN | apply below_drew1 | refine below_set ?_ GE113.out) | exact HB.out)⟩
         (try clear BK113)
         (try clear HB)
         generalize (((w6.setCell ⟨gb113, 0, none⟩ (.string ((rd_T31 l0 x11_1).f0))).setCell ⟨gb113, 1, none⟩ (.slice A112_1 ((rd_T31 l0 x11_1).f1).length c112_1)).setCell ⟨gb113, 2, none⟩ (.slice A112_2 ((rd_T31 l0 x11_1).f2).length c112_2)) = w19 at n0_ n1_ ⊢
         have BK113 := n0_
         have HB := n1_
         clear n0_ n1_
         have n0_ := Aside0.mk (blk_drew BK113.out)
         have n1_ := Aside0.mk (below_drew1 HB.out)
         clear BK113
         clear HB
         have BK113 := n0_
         have HB := n1_
         clear n0_ n1_
         have p115 : 0 ≤ (0 : Int) := (by omega)
         have q115 : 0 < (((rd_T31 l0 x11_1).f2).length : Int) := of_decide_eq_true (by first | (with_reducible assumption) | assumption)
         obtain ⟨ad115, e115, hx115_0⟩ := Kd.at_string HR112_2.out 0 p115 q115
         have hw115_0 := hx115_0
         (try rw [show ((0 : Int)).toNat = 0 from rfl] at hw115_0)
         (try rw [show 0 * 1 = 0 from rfl] at hw115_0)
         (try rw [Addr.add_zero'] at hw115_0)
         cases e115
         have qi115 : (0 < ((rd_T31 l0 x11_1).f2).length) = True := eq_true (by omega)
         (try rw [show ((0 : Int)).toNat = 0 from rfl] at hx115_0)
         (try rw [Addr.add_zero'] at hx115_0)
         replace hx115_0 := (HB.out.cell (World.block_lt_of_cell? w _ hx115_0)).trans hx115_0
         replace p115 := eq_true p115
         replace q115 := eq_true q115
         have p117 : 0 ≤ (1 : Int) := (by omega)
         have q117 : 1 < (((rd_T31 l0 x11_1).f2).length : Int) := of_decide_eq_true (by first | (with_reducible assumption) | assumption)
         obtain ⟨ad117, e117, hx117_0⟩ := Kd.at_string HR112_2.out 1 p117 q117
         have hw117_0 := hx117_0
         (try rw [show ((1 : Int)).toNat = 1 from rfl] at hw117_0)
         (try rw [show 1 * 1 = 1 from rfl] at hw117_0)
         (try simp only [Nat.reduceMul, Nat.reduceEqDiff, Go.Addr.add, ↓reduceIte] at hw117_0)
         obtain rfl : ad115 = ad117 := (by injection e117)
         (try simp only [show (1 : Int).toNat = 1 from rfl, Nat.reduceMul, Nat.reduceEqDiff, Go.Addr.add, ↓reduceIte] at hx117_0)
         have qi117 : (1 < ((rd_T31 l0 x11_1).f2).length) = True := eq_true (by omega)
         (try rw [show ((1 : Int)).toNat = 1 from rfl] at hx117_0)
         replace hx117_0 := (HB.out.cell (World.block_lt_of_cell? w _ hx117_0)).trans hx117_0
         replace p117 := eq_true p117
         replace q117 := eq_true q117
         refine start_ (n := 49) (S := fun w' => w'.cell? ⟨gb113, 0, none⟩ = some (.string ((rd_T31 l0 x11_1).f0)) ∧ w'.cell? ⟨gb113, 1, none⟩ = some (.slice A112_1 ((rd_T31 l0 x11_1).f1).length c112_1) ∧ w'.cell? ⟨gb113, 2, none⟩ = some (.slice (some ad115) ((rd_T31 l0 x11_1).f2).length c112_2) ∧ w'.cell? ad115 = some (.string (rdOf ByteArray.empty ((rd_T31 l0 x11_1).f2) 0)) ∧ w'.cell? ⟨ad115.block, ad115.off + 1, none⟩ = some (.string (rdOf ByteArray.empty ((rd_T31 l0 x11_1).f2) 1))) (ds := []) (bb [0, 49]) (by kernel_rfl) rfl rfl ⟨(blk_cell BK113.out 0).trans rfl, (blk_cell BK113.out 1).trans rfl, (blk_cell BK113.out 2).trans rfl, ((HB.out.cell (World.block_lt_of_cell? w _ hw115_0)).trans hw115_0), ((HB.out.cell (World.block_lt_of_cell? w _ hw117_0)).trans hw117_0)⟩ (fun hHeld => ?_); refine with_tabW spec_BuddyinfoPrint.tab5 spec_BuddyinfoPrint.bits5 (fun HT_ HW_ => ?_)
         generalize w19.drew = w20 at BK113 HB hx115_0 hx117_0 hHeld ⊢
         refine pure_ (i := 0) (N := some 15) (v := ?_) (a' := ?_) (bb [1, 48]) rfl rfl (any_of HT_.out (by kernel_rfl)) (fun _ _ _ h => h) (Or.inl ⟨by rfl, ?_⟩) ?_ ?_
         rotate_left
         ·intro w'
          go_simp
          with_reducible rfl
         rotate_left
         ·simp only [Act.put, List.setIfInBounds_toArray, List.set_cons_zero, List.set_cons_succ, i64_w, i32_w]
          rfl
         refine take_ (i := 1) (N := some 16) (v := ?_) (a' := ?_) (bb [2, 47]) rfl rfl (take_ofW HT_.out HW_.out (by kernel_rfl)) (fun _ _ _ h => h) (Or.inl ⟨by rfl, ?_⟩) hHeld ?_ ?_
         rotate_left
         ·rintro w' ⟨s0, s1, s2, s3, s4⟩
          go_simp
          with_reducible rfl
         rotate_left
         ·simp only [Act.put, List.setIfInBounds_toArray, List.set_cons_zero, List.set_cons_succ, i64_w, i32_w]
          rfl
         refine pure_ (i := 2) (N := some 17) (v := ?_) (a' := ?_) (bb [3, 46]) rfl rfl (any_of HT_.out (by kernel_rfl)) (fun _ _ _ h => h) (Or.inl ⟨by rfl, ?_⟩) ?_ ?_
         rotate_left
         ·intro w'
          go_simp
          with_reducible rfl
         rotate_left
         ·simp only [Act.put, List.setIfInBounds_toArray, List.set_cons_zero, List.set_cons_succ, i64_w, i32_w]
          rfl
         refine pure_ (i := 3) (N := some 18) (v := ?_) (a' := ?_) (bb [4, 45]) rfl rfl (any_of HT_.out (by kernel_rfl)) (fun _ _ _ h => h) (Or.inl ⟨by rfl, ?_⟩) ?_ ?_
         rotate_left
         ·intro w'
          go_simp
          with_reducible rfl
         rotate_left
         ·simp only [Act.put, List.setIfInBounds_toArray, List.set_cons_zero, List.set_cons_succ, i64_w, i32_w]
          rfl
         refine pure_ (i := 4) (N := some 19) (v := ?_) (a' := ?_) (bb [5, 44]) rfl rfl (any_of HT_.out (by kernel_rfl)) (fun _ _ _ h => h) (Or.inl ⟨by rfl, ?_⟩) ?_ ?_
         rotate_left
         ·intro w'
          go_simp
          with_reducible rfl
         rotate_left
         ·simp only [Act.put, List.setIfInBounds_toArray, List.set_cons_zero, List.set_cons_succ, i64_w, i32_w]
          rfl
         refine pure_ (i := 5) (N := some 20) (v := ?_) (a' := ?_) (bb [6, 43]) rfl rfl (any_of HT_.out (by kernel_rfl)) (fun _ _ _ h => h) (Or.inl ⟨by rfl, ?_⟩) ?_ ?_
         rotate_left
         ·intro w'
          go_simp
          with_reducible rfl
         rotate_left
         ·simp only [Act.put, List.setIfInBounds_toArray, List.set_cons_zero, List.set_cons_succ, i64_w, i32_w]
          rfl
         refine take_ (i := 6) (N := some 21) (v := ?_) (a' := ?_) (bb [7, 42]) rfl rfl (take_ofW HT_.out HW_.out (by kernel_rfl)) (fun _ _ _ h => h) (Or.inl ⟨by rfl, ?_⟩) hHeld ?_ ?_
         rotate_left
         ·rintro w' ⟨s0, s1, s2, s3, s4⟩
          go_simp
          with_reducible rfl
         rotate_left
         ·simp only [Act.put, List.setIfInBounds_toArray, List.set_cons_zero, List.set_cons_succ, i64_w, i32_w]
          rfl
         refine one_ (i := 7) (N := some 22) (bb [8, 41]) rfl rfl (one_of HT_.out (by kernel_rfl)) (by decide) (fun K hK => ?_)
         refine goes_ Tryz.func62 (by kernel_rfl) rfl #[.slice (some ad115) ((rd_T31 l0 x11_1).f2).length c112_2] (by rfl) rfl rfl (by (try simp only [List.map_toArray, List.map_cons, List.map_nil]); first | done | rfl | (simp only [List.length_drop, List.length_take]; rfl)) ?_
         with_reducible refine (spec_words.calls k1 _ _ ((rd_T31 l0 x11_1).f2) true _ ?side1 ?side2 A9.out).mono ?_
         (case side1 => repeat (first | exact (Kd.C_below HR112_2.out HB.out) | (with_reducible refine Kd.C_alloc ?_ _) | (with_reducible refine Kd.C_drewN ?_ _) | (with_reducible refine Kd.C_drew ?_)))
         (case side2 => exact HC112_2.out)
         rintro e w' ⟨rfl, ⟨nd, rfl⟩⟩
         refine ⟨_, rfl, ?_⟩
         refine hK.out _ _ ⟨(blk_cell BK113.out 0).trans rfl, (blk_cell BK113.out 1).trans rfl, (blk_cell BK113.out 2).trans rfl, ((HB.out.cell (World.block_lt_of_cell? w _ hw115_0)).trans hw115_0), ((HB.out.cell (World.block_lt_of_cell? w _ hw117_0)).trans hw117_0)⟩ (fun hHeld => ?_)
         clear hK K
         refine norm_ (a' := ?_) ?_ ?_
         rotate_left
         ·show Act.put _ (some 22) _ = _
          simp only [Act.put, List.setIfInBounds_toArray, List.set_cons_zero, List.set_cons_succ, i64_w, i32_w]
          rfl
         refine pure_ (i := 8) (N := some 23) (v := ?_) (a' := ?_) (bb [9, 40]) rfl rfl (any_of HT_.out (by kernel_rfl)) (fun _ _ _ h => h) (Or.inl ⟨by rfl, ?_⟩) ?_ ?_
         rotate_left
         ·intro w'
          go_simp
          with_reducible rfl
         rotate_left
         ·simp only [Act.put, List.setIfInBounds_toArray, List.set_cons_zero, List.set_cons_succ, i64_w, i32_w]
          rfl
         refine pure_ (i := 9) (N := some 24) (v := ?_) (a' := ?_) (bb [10, 39]) rfl rfl (any_of HT_.out (by kernel_rfl)) (fun _ _ _ h => h) (Or.inl ⟨by rfl, ?_⟩) ?_ ?_
         rotate_left
         ·intro w'
          go_simp
          with_reducible rfl
         rotate_left
         ·simp only [Act.put, List.setIfInBounds_toArray, List.set_cons_zero, List.set_cons_succ, i64_w, i32_w]
          rfl
         refine pure_ (i := 10) (N := some 25) (v := ?_) (a' := ?_) (bb [11, 38]) rfl rfl (any_of HT_.out (by kernel_rfl)) (fun _ _ _ h => h) (Or.inl ⟨by rfl, ?_⟩) ?_ ?_
         rotate_left
         ·intro w'
          go_simp
          with_reducible rfl
         rotate_left
         ·simp only [Act.put, List.setIfInBounds_toArray, List.set_cons_zero, List.set_cons_succ, i64_w, i32_w]
          rfl
         refine pure_ (i := 11) (N := some 26) (v := ?_) (a' := ?_) (bb [12, 37]) rfl rfl (any_of HT_.out (by kernel_rfl)) (fun _ _ _ h => h) (Or.inl ⟨by rfl, ?_⟩) ?_ ?_
         rotate_left
         ·intro w'
          go_simp
          with_reducible rfl
         rotate_left
         ·simp only [Act.put, List.setIfInBounds_toArray, List.set_cons_zero, List.set_cons_succ, i64_w, i32_w]
          rfl
         refine take_ (i := 12) (N := some 27) (v := ?_) (a' := ?_) (bb [13, 36]) rfl rfl (take_ofW HT_.out HW_.out (by kernel_rfl)) (fun _ _ _ h => h) (Or.inl ⟨by rfl, ?_⟩) hHeld ?_ ?_
         rotate_left
         ·rintro w' ⟨s0, s1, s2, s3, s4⟩
          go_simp
          with_reducible rfl
         rotate_left
         ·simp only [Act.put, List.setIfInBounds_toArray, List.set_cons_zero, List.set_cons_succ, i64_w, i32_w]
          rfl
         refine pure_ (i := 13) (N := some 28) (v := ?_) (a' := ?_) (bb [14, 35]) rfl rfl (any_of HT_.out (by kernel_rfl)) (fun _ _ _ h => h) (Or.inl ⟨by rfl, ?_⟩) ?_ ?_
         rotate_left
         ·intro w'
          go_simp
          with_reducible rfl
         rotate_left
         ·simp only [Act.put, List.setIfInBounds_toArray, List.set_cons_zero, List.set_cons_succ, i64_w, i32_w]
          rfl
         refine take_ (i := 14) (N := some 29) (v := ?_) (a' := ?_) (bb [15, 34]) rfl rfl (take_ofW HT_.out HW_.out (by kernel_rfl)) (fun _ _ _ h => h) (Or.inl ⟨by rfl, ?_⟩) hHeld ?_ ?_
         rotate_left
         ·rintro w' ⟨s0, s1, s2, s3, s4⟩
          go_simp
          with_reducible rfl
         rotate_left
         ·simp only [Act.put, List.setIfInBounds_toArray, List.set_cons_zero, List.set_cons_succ, i64_w, i32_w]
          rfl
         refine one_ (i := 15) (N := some 30) (bb [16, 33]) rfl rfl (one_of HT_.out (by kernel_rfl)) (by decide) (fun K hK => ?_)
         refine goes_ Tryz.func63 (by kernel_rfl) rfl #[.string (rdOf ByteArray.empty ((rd_T31 l0 x11_1).f2) 0), .int .u8 44] (by rfl) rfl rfl (by (try simp only [List.map_toArray, List.map_cons, List.map_nil]); first | done | rfl | (simp only [List.length_drop, List.length_take]; rfl)) ?_
         with_reducible refine (spec_Where.calls k1 (rdOf ByteArray.empty ((rd_T31 l0 x11_1).f2) 0) 44 t116 _ A12.out).mono ?_
         rintro e w' ⟨rfl, ⟨nd, rfl⟩⟩
         refine ⟨_, rfl, ?_⟩
         refine hK.out _ _ ⟨(blk_cell BK113.out 0).trans rfl, (blk_cell BK113.out 1).trans rfl, (blk_cell BK113.out 2).trans rfl, ((HB.out.cell (World.block_lt_of_cell? w _ hw115_0)).trans hw115_0), ((HB.out.cell (World.block_lt_of_cell? w _ hw117_0)).trans hw117_0)⟩ (fun hHeld => ?_)
         clear hK K
         refine norm_ (a' := ?_) ?_ ?_
         rotate_left
         ·show Act.put _ (some 30) _ = _
          simp only [Act.put, List.setIfInBounds_toArray, List.set_cons_zero, List.set_cons_succ, i64_w, i32_w]
          rfl
         refine pure_ (i := 16) (N := some 31) (v := ?_) (a' := ?_) (bb [17, 32]) rfl rfl (any_of HT_.out (by kernel_rfl)) (fun _ _ _ h => h) (Or.inl ⟨by rfl, ?_⟩) ?_ ?_
         rotate_left
         ·intro w'
          go_simp
          with_reducible rfl
         rotate_left
         ·simp only [Act.put, List.setIfInBounds_toArray, List.set_cons_zero, List.set_cons_succ, i64_w, i32_w]
          rfl
         refine pure_ (i := 17) (N := some 32) (v := ?_) (a' := ?_) (bb [18, 31]) rfl rfl (any_of HT_.out (by kernel_rfl)) (fun _ _ _ h => h) (Or.inl ⟨by rfl, ?_⟩) ?_ ?_
         rotate_left
         ·intro w'
          go_simp
          with_reducible rfl
         rotate_left
         ·simp only [Act.put, List.setIfInBounds_toArray, List.set_cons_zero, List.set_cons_succ, i64_w, i32_w]
          rfl
         refine pure_ (i := 18) (N := some 33) (v := ?_) (a' := ?_) (bb [19, 30]) rfl rfl (any_of HT_.out (by kernel_rfl)) (fun _ _ _ h => h) (Or.inl ⟨by rfl, ?_⟩) ?_ ?_
         rotate_left
         ·intro w'
          go_simp
          with_reducible rfl
         rotate_left
         ·simp only [Act.put, List.setIfInBounds_toArray, List.set_cons_zero, List.set_cons_succ, i64_w, i32_w]
          rfl
         refine pure_ (i := 19) (N := some 34) (v := ?_) (a' := ?_) (bb [20, 29]) rfl rfl (any_of HT_.out (by kernel_rfl)) (fun _ _ _ h => h) (Or.inl ⟨by rfl, ?_⟩) ?_ ?_
         rotate_left
         ·intro w'
          go_simp
          with_reducible rfl
         rotate_left
         ·simp only [Act.put, List.setIfInBounds_toArray, List.set_cons_zero, List.set_cons_succ, i64_w, i32_w]
          rfl
         refine take_ (i := 20) (N := some 35) (v := ?_) (a' := ?_) (bb [21, 28]) rfl rfl (take_ofW HT_.out HW_.out (by kernel_rfl)) (fun _ _ _ h => h) (Or.inl ⟨by rfl, ?_⟩) hHeld ?_ ?_
         rotate_left
         ·rintro w' ⟨s0, s1, s2, s3, s4⟩
          go_simp
          with_reducible rfl
         rotate_left
         ·simp only [Act.put, List.setIfInBounds_toArray, List.set_cons_zero, List.set_cons_succ, i64_w, i32_w]
          rfl
         refine pure_ (i := 21) (N := some 36) (v := ?_) (a' := ?_) (bb [22, 27]) rfl rfl (any_of HT_.out (by kernel_rfl)) (fun _ _ _ h => h) (Or.inl ⟨by rfl, ?_⟩) ?_ ?_
         rotate_left
         ·intro w'
          go_simp
          with_reducible rfl
         rotate_left
         ·simp only [Act.put, List.setIfInBounds_toArray, List.set_cons_zero, List.set_cons_succ, i64_w, i32_w]
          rfl
         refine take_ (i := 22) (N := some 37) (v := ?_) (a' := ?_) (bb [23, 26]) rfl rfl (take_ofW HT_.out HW_.out (by kernel_rfl)) (fun _ _ _ h => h) (Or.inl ⟨by rfl, ?_⟩) hHeld ?_ ?_
         rotate_left
         ·rintro w' ⟨s0, s1, s2, s3, s4⟩
          go_simp
          with_reducible rfl
         rotate_left
         ·simp only [Act.put, List.setIfInBounds_toArray, List.set_cons_zero, List.set_cons_succ, i64_w, i32_w]
          rfl
         refine one_ (i := 23) (N := some 38) (bb [24, 25]) rfl rfl (one_of HT_.out (by kernel_rfl)) (by decide) (fun K hK => ?_)
         refine goes_ Tryz.func63 (by kernel_rfl) rfl #[.string (rdOf ByteArray.empty ((rd_T31 l0 x11_1).f2) 1), .int .u8 44] (by rfl) rfl rfl (by (try simp only [List.map_toArray, List.map_cons, List.map_nil]); first | done | rfl | (simp only [List.length_drop, List.length_take]; rfl)) ?_
         with_reducible refine (spec_Where.calls k1 (rdOf ByteArray.empty ((rd_T31 l0 x11_1).f2) 1) 44 t118 _ A17.out).mono ?_
         rintro e w' ⟨rfl, ⟨nd, rfl⟩⟩
         refine ⟨_, rfl, ?_⟩
         refine hK.out _ _ ⟨(blk_cell BK113.out 0).trans rfl, (blk_cell BK113.out 1).trans rfl, (blk_cell BK113.out 2).trans rfl, ((HB.out.cell (World.block_lt_of_cell? w _ hw115_0)).trans hw115_0), ((HB.out.cell (World.block_lt_of_cell? w _ hw117_0)).trans hw117_0)⟩ (fun hHeld => ?_)
         clear hK K
         refine norm_ (a' := ?_) ?_ ?_
         rotate_left
         ·show Act.put _ (some 38) _ = _
          simp only [Act.put, List.setIfInBounds_toArray, List.set_cons_zero, List.set_cons_succ, i64_w, i32_w]
          rfl
         refine pure_ (i := 24) (N := some 39) (v := ?_) (a' := ?_) (bb [25, 24]) rfl rfl (any_of HT_.out (by kernel_rfl)) (fun _ _ _ h => h) (Or.inl ⟨by rfl, ?_⟩) ?_ ?_
         rotate_left
         ·intro w'
          go_simp
          with_reducible rfl
         rotate_left
         ·simp only [Act.put, List.setIfInBounds_toArray, List.set_cons_zero, List.set_cons_succ, i64_w, i32_w]
          rfl
         refine pure_ (i := 25) (N := some 40) (v := ?_) (a' := ?_) (bb [26, 23]) rfl rfl (any_of HT_.out (by kernel_rfl)) (fun _ _ _ h => h) (Or.inl ⟨by rfl, ?_⟩) ?_ ?_
         rotate_left
         ·intro w'
          go_simp
          with_reducible rfl
         rotate_left
         ·simp only [Act.put, List.setIfInBounds_toArray, List.set_cons_zero, List.set_cons_succ, i64_w, i32_w]
          rfl
         refine pure_ (i := 26) (N := some 41) (v := ?_) (a' := ?_) (bb [27, 22]) rfl rfl (any_of HT_.out (by kernel_rfl)) (fun _ _ _ h => h) (Or.inl ⟨by rfl, ?_⟩) ?_ ?_
         rotate_left
         ·intro w'
          go_simp
          with_reducible rfl
         rotate_left
         ·simp only [Act.put, List.setIfInBounds_toArray, List.set_cons_zero, List.set_cons_succ, i64_w, i32_w]
          rfl
         refine pure_ (i := 27) (N := some 42) (v := undef) (a' := ?_) (bb [28, 21]) rfl rfl (any_of HT_.out (by kernel_rfl)) (fun _ _ _ h => h) (Or.inr ⟨by rfl, rfl⟩) ?_ ?_
         rotate_left
         ·simp only [Act.put, List.setIfInBounds_toArray, List.set_cons_zero, List.set_cons_succ, i64_w, i32_w]
          rfl
         refine pure_ (i := 28) (N := some 43) (v := undef) (a' := ?_) (bb [29, 20]) rfl rfl (any_of HT_.out (by kernel_rfl)) (fun _ _ _ h => h) (Or.inr ⟨by rfl, rfl⟩) ?_ ?_
         rotate_left
         ·simp only [Act.put, List.setIfInBounds_toArray, List.set_cons_zero, List.set_cons_succ, i64_w, i32_w]
          rfl
         refine pure_ (i := 29) (N := some 44) (v := undef) (a' := ?_) (bb [30, 19]) rfl rfl (any_of HT_.out (by kernel_rfl)) (fun _ _ _ h => h) (Or.inr ⟨by rfl, rfl⟩) ?_ ?_
         rotate_left
         ·simp only [Act.put, List.setIfInBounds_toArray, List.set_cons_zero, List.set_cons_succ, i64_w, i32_w]
          rfl
         refine pure_ (i := 30) (N := some 45) (v := undef) (a' := ?_) (bb [31, 18]) rfl rfl (any_of HT_.out (by kernel_rfl)) (fun _ _ _ h => h) (Or.inr ⟨by rfl, rfl⟩) ?_ ?_
         rotate_left
         ·simp only [Act.put, List.setIfInBounds_toArray, List.set_cons_zero, List.set_cons_succ, i64_w, i32_w]
          rfl
         refine pure_ (i := 31) (N := some 46) (v := ?_) (a' := ?_) (bb [32, 17]) rfl rfl (any_of HT_.out (by kernel_rfl)) (fun _ _ _ h => h) (Or.inl ⟨by rfl, ?_⟩) ?_ ?_
         rotate_left
         ·intro w'
          go_simp
          with_reducible rfl
         rotate_left
         ·simp only [Act.put, List.setIfInBounds_toArray, List.set_cons_zero, List.set_cons_succ, i64_w, i32_w]
          rfl
         refine pure_ (i := 32) (N := some 47) (v := ?_) (a' := ?_) (bb [33, 16]) rfl rfl (any_of HT_.out (by kernel_rfl)) (fun _ _ _ h => h) (Or.inl ⟨by rfl, ?_⟩) ?_ ?_
         rotate_left
         ·intro w'
          go_simp
          with_reducible rfl
         rotate_left
         ·simp only [Act.put, List.setIfInBounds_toArray, List.set_cons_zero, List.set_cons_succ, i64_w, i32_w]
          rfl
         refine pure_ (i := 33) (N := some 48) (v := undef) (a' := ?_) (bb [34, 15]) rfl rfl (any_of HT_.out (by kernel_rfl)) (fun _ _ _ h => h) (Or.inr ⟨by rfl, rfl⟩) ?_ ?_
         rotate_left
         ·simp only [Act.put, List.setIfInBounds_toArray, List.set_cons_zero, List.set_cons_succ, i64_w, i32_w]
          rfl
         refine pure_ (i := 34) (N := some 49) (v := undef) (a' := ?_) (bb [35, 14]) rfl rfl (any_of HT_.out (by kernel_rfl)) (fun _ _ _ h => h) (Or.inr ⟨by rfl, rfl⟩) ?_ ?_
         rotate_left
         ·simp only [Act.put, List.setIfInBounds_toArray, List.set_cons_zero, List.set_cons_succ, i64_w, i32_w]
          rfl
         refine pure_ (i := 35) (N := some 50) (v := undef) (a' := ?_) (bb [36, 13]) rfl rfl (any_of HT_.out (by kernel_rfl)) (fun _ _ _ h => h) (Or.inr ⟨by rfl, rfl⟩) ?_ ?_
         rotate_left
         ·simp only [Act.put, List.setIfInBounds_toArray, List.set_cons_zero, List.set_cons_succ, i64_w, i32_w]
          rfl
         refine pure_ (i := 36) (N := some 51) (v := undef) (a' := ?_) (bb [37, 12]) rfl rfl (any_of HT_.out (by kernel_rfl)) (fun _ _ _ h => h) (Or.inr ⟨by rfl, rfl⟩) ?_ ?_
         rotate_left
         ·simp only [Act.put, List.setIfInBounds_toArray, List.set_cons_zero, List.set_cons_succ, i64_w, i32_w]
          rfl
         refine pure_ (i := 37) (N := some 52) (v := undef) (a' := ?_) (bb [38, 11]) rfl rfl (any_of HT_.out (by kernel_rfl)) (fun _ _ _ h => h) (Or.inr ⟨by rfl, rfl⟩) ?_ ?_
         rotate_left
         ·simp only [Act.put, List.setIfInBounds_toArray, List.set_cons_zero, List.set_cons_succ, i64_w, i32_w]
          rfl
         refine pure_ (i := 38) (N := some 53) (v := undef) (a' := ?_) (bb [39, 10]) rfl rfl (any_of HT_.out (by kernel_rfl)) (fun _ _ _ h => h) (Or.inr ⟨by rfl, rfl⟩) ?_ ?_
         rotate_left
         ·simp only [Act.put, List.setIfInBounds_toArray, List.set_cons_zero, List.set_cons_succ, i64_w, i32_w]
          rfl
         refine pure_ (i := 39) (N := some 54) (v := undef) (a' := ?_) (bb [40, 9]) rfl rfl (any_of HT_.out (by kernel_rfl)) (fun _ _ _ h => h) (Or.inr ⟨by rfl, rfl⟩) ?_ ?_
         rotate_left
         ·simp only [Act.put, List.setIfInBounds_toArray, List.set_cons_zero, List.set_cons_succ, i64_w, i32_w]
          rfl
         refine pure_ (i := 40) (N := some 55) (v := undef) (a' := ?_) (bb [41, 8]) rfl rfl (any_of HT_.out (by kernel_rfl)) (fun _ _ _ h => h) (Or.inr ⟨by rfl, rfl⟩) ?_ ?_
         rotate_left
         ·simp only [Act.put, List.setIfInBounds_toArray, List.set_cons_zero, List.set_cons_succ, i64_w, i32_w]
          rfl
         refine pure_ (i := 41) (N := some 56) (v := undef) (a' := ?_) (bb [42, 7]) rfl rfl (any_of HT_.out (by kernel_rfl)) (fun _ _ _ h => h) (Or.inr ⟨by rfl, rfl⟩) ?_ ?_
         rotate_left
         ·simp only [Act.put, List.setIfInBounds_toArray, List.set_cons_zero, List.set_cons_succ, i64_w, i32_w]
          rfl
         refine pure_ (i := 42) (N := some 57) (v := ?_) (a' := ?_) (bb [43, 6]) rfl rfl (any_of HT_.out (by kernel_rfl)) (fun _ _ _ h => h) (Or.inl ⟨by rfl, ?_⟩) ?_ ?_
         rotate_left
         ·intro w'
          go_simp
          with_reducible rfl
         rotate_left
         ·simp only [Act.put, List.setIfInBounds_toArray, List.set_cons_zero, List.set_cons_succ, i64_w, i32_w]
          rfl
         refine pure_ (i := 43) (N := some 58) (v := ?_) (a' := ?_) (bb [44, 5]) rfl rfl (any_of HT_.out (by kernel_rfl)) (fun _ _ _ h => h) (Or.inl ⟨by rfl, ?_⟩) ?_ ?_
         rotate_left
         ·intro w'
          go_simp
          with_reducible rfl
         rotate_left
         ·simp only [Act.put, List.setIfInBounds_toArray, List.set_cons_zero, List.set_cons_succ, i64_w, i32_w]
          rfl
         refine pure_ (i := 44) (N := some 59) (v := undef) (a' := ?_) (bb [45, 4]) rfl rfl (any_of HT_.out (by kernel_rfl)) (fun _ _ _ h => h) (Or.inr ⟨by rfl, rfl⟩) ?_ ?_
         rotate_left
         ·simp only [Act.put, List.setIfInBounds_toArray, List.set_cons_zero, List.set_cons_succ, i64_w, i32_w]
          rfl
         refine pure_ (i := 45) (N := some 60) (v := undef) (a' := ?_) (bb [46, 3]) rfl rfl (any_of HT_.out (by kernel_rfl)) (fun _ _ _ h => h) (Or.inr ⟨by rfl, rfl⟩) ?_ ?_
         rotate_left
         ·simp only [Act.put, List.setIfInBounds_toArray, List.set_cons_zero, List.set_cons_succ, i64_w, i32_w]
          rfl
         refine pure_ (i := 46) (N := some 61) (v := undef) (a' := ?_) (bb [47, 2]) rfl rfl (any_of HT_.out (by kernel_rfl)) (fun _ _ _ h => h) (Or.inr ⟨by rfl, rfl⟩) ?_ ?_
         rotate_left
         ·simp only [Act.put, List.setIfInBounds_toArray, List.set_cons_zero, List.set_cons_succ, i64_w, i32_w]
          rfl
         refine pure_ (i := 47) (N := some 62) (v := undef) (a' := ?_) (bb [48, 1]) rfl rfl (any_of HT_.out (by kernel_rfl)) (fun _ _ _ h => h) (Or.inr ⟨by rfl, rfl⟩) ?_ ?_
         rotate_left
         ·simp only [Act.put, List.setIfInBounds_toArray, List.set_cons_zero, List.set_cons_succ, i64_w, i32_w]
          rfl
         refine pure_ (i := 48) (N := some 63) (v := ?_) (a' := ?_) (bb [49]) rfl rfl (any_of HT_.out (by kernel_rfl)) (fun _ _ _ h => h) (Or.inl ⟨by rfl, ?_⟩) ?_ ?_
         rotate_left
         ·intro w'
          go_simp
          with_reducible rfl
         rotate_left
         ·simp only [Act.put, List.setIfInBounds_toArray, List.set_cons_zero, List.set_cons_succ, i64_w, i32_w]
          rfl
         refine done_ (done_of HT_.out (by kernel_rfl)) ?_
         try go_wp2
         go_meet
         case rel => exact ⟨_, (true), (by first | rfl | (simp; done) | (simp [*]; done)), H', ⟨by have := HK1.out; first | omega | exact Nat.le_refl _⟩, ⟨by (with_reducible repeat (first | refine blk_drewN ?_ _ | refine blk_drew ?_ | refine blk_alloc ?_ _)); exact BK113.out⟩, ⟨by repeat (first | (with_reducible first | exact HB.out | apply below_alloc | apply pw_below_drewN | apply below_drew1 | refine below_set ?_ GE113.out) | exact HB.out)⟩⟩
        ·rw [if_neg c18] at H
         have c18b0 : decide (0 ≤ t118) = false := decide_eq_false c18
         clear c18
         by_cases c21 : (((rd_T31 l0 x11_1).f1).length : Int) < 1
         ·rw [if_pos c21] at H
          have c21b0 : decide ((((rd_T31 l0 x11_1).f1).length : Int) < 1) = true := decide_eq_true c21
          have c21b1 : decide (((rd_T31 l0 x11_1).f1).length < 1) = true := decide_eq_true (by omega)
          clear c21
          have H' := Aside0.mk H
          clear H
          try go_wp2
          have n0_ : Aside0 ((((w6.setCell ⟨gb113, 0, none⟩ (.string ((rd_T31 l0 x11_1).f0))).setCell ⟨gb113, 1, none⟩ (.slice A112_1 ((rd_T31 l0 x11_1).f1).length c112_1)).setCell ⟨gb113, 2, none⟩ (.slice A112_2 ((rd_T31 l0 x11_1).f2).length c112_2)).heap[gb113]? = some (.cells #[.string ((rd_T31 l0 x11_1).f0), .slice A112_1 ((rd_T31 l0 x11_1).f1).length c112_1, .slice A112_2 ((rd_T31 l0 x11_1).f2).length c112_2] 31 (0, 0))) := ⟨by (with_reducible repeat (first | refine blk_drewN ?_ _ | refine blk_drew ?_ | refine blk_alloc ?_ _)); refine blk_put (cs := #[.string ((rd_T31 l0 x11_1).f0), .slice A112_1 ((rd_T31 l0 x11_1).f1).length c112_1, .slice none 0 0]) ?_ 2 _ rfl; (with_reducible repeat (first | refine blk_drewN ?_ _ | refine blk_drew ?_ | refine blk_alloc ?_ _)); refine blk_put (cs := #[.string ((rd_T31 l0 x11_1).f0), .slice none 0 0, .slice none 0 0]) ?_ 1 _ rfl; (with_reducible repeat (first | refine blk_drewN ?_ _ | refine blk_drew ?_ | refine blk_alloc ?_ _)); refine blk_put (cs := #[.string (⟨#[]⟩ : ByteArray), .slice none 0 0, .slice none 0 0]) ?_ 0 _ rfl; (with_reducible repeat (first | refine blk_drewN ?_ _ | refine blk_drew ?_ | refine blk_alloc ?_ _)); exact BK113.out⟩
          have n1_ : Aside0 (Below w.heap.size w (((w6.setCell ⟨gb113, 0, none⟩ (.string ((rd_T31 l0 x11_1).f0))).setCell ⟨gb113, 1, none⟩ (.slice A112_1 ((rd_T31 l0 x11_1).f1).length c112_1)).setCell ⟨gb113, 2, none⟩ (.slice A112_2 ((rd_T31 l0 x11_1).f2).length c112_2))) := ⟨by repeat (first | (with_reducible first | exact HB.out | apply below_alloc | apply pw_below_drewN | apply below_drew1 | refine below_set ?_ GE113.out) | exact HB.out)⟩
          (try clear BK113)
          (try clear HB)
          generalize (((w6.setCell ⟨gb113, 0, none⟩ (.string ((rd_T31 l0 x11_1).f0))).setCell ⟨gb113, 1, none⟩ (.slice A112_1 ((rd_T31 l0 x11_1).f1).length c112_1)).setCell ⟨gb113, 2, none⟩ (.slice A112_2 ((rd_T31 l0 x11_1).f2).length c112_2)) = w22 at n0_ n1_ ⊢
          have BK113 := n0_
          have HB := n1_
          clear n0_ n1_
          have n0_ := Aside0.mk (blk_drew BK113.out)
          have n1_ := Aside0.mk (below_drew1 HB.out)
          clear BK113
          clear HB
          have BK113 := n0_
          have HB := n1_
          clear n0_ n1_
          have p115 : 0 ≤ (0 : Int) := (by omega)
          have q115 : 0 < (((rd_T31 l0 x11_1).f2).length : Int) := of_decide_eq_true (by first | (with_reducible assumption) | assumption)
          obtain ⟨ad115, e115, hx115_0⟩ := Kd.at_string HR112_2.out 0 p115 q115
          have hw115_0 := hx115_0
          (try rw [show ((0 : Int)).toNat = 0 from rfl] at hw115_0)
          (try rw [show 0 * 1 = 0 from rfl] at hw115_0)
          (try rw [Addr.add_zero'] at hw115_0)
          cases e115
          have qi115 : (0 < ((rd_T31 l0 x11_1).f2).length) = True := eq_true (by omega)
          (try rw [show ((0 : Int)).toNat = 0 from rfl] at hx115_0)
          (try rw [Addr.add_zero'] at hx115_0)
          replace hx115_0 := (HB.out.cell (World.block_lt_of_cell? w _ hx115_0)).trans hx115_0
          replace p115 := eq_true p115
          replace q115 := eq_true q115
          have p117 : 0 ≤ (1 : Int) := (by omega)
          have q117 : 1 < (((rd_T31 l0 x11_1).f2).length : Int) := of_decide_eq_true (by first | (with_reducible assumption) | assumption)
          obtain ⟨ad117, e117, hx117_0⟩ := Kd.at_string HR112_2.out 1 p117 q117
          have hw117_0 := hx117_0
          (try rw [show ((1 : Int)).toNat = 1 from rfl] at hw117_0)
          (try rw [show 1 * 1 = 1 from rfl] at hw117_0)
          (try simp only [Nat.reduceMul, Nat.reduceEqDiff, Go.Addr.add, ↓reduceIte] at hw117_0)
          obtain rfl : ad115 = ad117 := (by injection e117)
          (try simp only [show (1 : Int).toNat = 1 from rfl, Nat.reduceMul, Nat.reduceEqDiff, Go.Addr.add, ↓reduceIte] at hx117_0)
          have qi117 : (1 < ((rd_T31 l0 x11_1).f2).length) = True := eq_true (by omega)
          (try rw [show ((1 : Int)).toNat = 1 from rfl] at hx117_0)
          replace hx117_0 := (HB.out.cell (World.block_lt_of_cell? w _ hx117_0)).trans hx117_0
          replace p117 := eq_true p117
          replace q117 := eq_true q117
          refine start_ (n := 49) (S := fun w' => w'.cell? ⟨gb113, 0, none⟩ = some (.string ((rd_T31 l0 x11_1).f0)) ∧ w'.cell? ⟨gb113, 1, none⟩ = some (.slice A112_1 ((rd_T31 l0 x11_1).f1).length c112_1) ∧ w'.cell? ⟨gb113, 2, none⟩ = some (.slice (some ad115) ((rd_T31 l0 x11_1).f2).length c112_2) ∧ w'.cell? ad115 = some (.string (rdOf ByteArray.empty ((rd_T31 l0 x11_1).f2) 0)) ∧ w'.cell? ⟨ad115.block, ad115.off + 1, none⟩ = some (.string (rdOf ByteArray.empty ((rd_T31 l0 x11_1).f2) 1))) (ds := []) (bb [0, 49]) (by kernel_rfl) rfl rfl ⟨(blk_cell BK113.out 0).trans rfl, (blk_cell BK113.out 1).trans rfl, (blk_cell BK113.out 2).trans rfl, ((HB.out.cell (World.block_lt_of_cell? w _ hw115_0)).trans hw115_0), ((HB.out.cell (World.block_lt_of_cell? w _ hw117_0)).trans hw117_0)⟩ (fun hHeld => ?_); refine with_tabW spec_BuddyinfoPrint.tab5 spec_BuddyinfoPrint.bits5 (fun HT_ HW_ => ?_)
          generalize w22.drew = w23 at BK113 HB hx115_0 hx117_0 hHeld ⊢
          refine pure_ (i := 0) (N := some 15) (v := ?_) (a' := ?_) (bb [1, 48]) rfl rfl (any_of HT_.out (by kernel_rfl)) (fun _ _ _ h => h) (Or.inl ⟨by rfl, ?_⟩) ?_ ?_
          rotate_left
          ·intro w'
           go_simp
           with_reducible rfl
          rotate_left
          ·simp only [Act.put, List.setIfInBounds_toArray, List.set_cons_zero, List.set_cons_succ, i64_w, i32_w]
           rfl
          refine take_ (i := 1) (N := some 16) (v := ?_) (a' := ?_) (bb [2, 47]) rfl rfl (take_ofW HT_.out HW_.out (by kernel_rfl)) (fun _ _ _ h => h) (Or.inl ⟨by rfl, ?_⟩) hHeld ?_ ?_
          rotate_left
          ·rintro w' ⟨s0, s1, s2, s3, s4⟩
           go_simp
           with_reducible rfl
          rotate_left
          ·simp only [Act.put, List.setIfInBounds_toArray, List.set_cons_zero, List.set_cons_succ, i64_w, i32_w]
           rfl
          refine pure_ (i := 2) (N := some 17) (v := ?_) (a' := ?_) (bb [3, 46]) rfl rfl (any_of HT_.out (by kernel_rfl)) (fun _ _ _ h => h) (Or.inl ⟨by rfl, ?_⟩) ?_ ?_
          rotate_left
          ·intro w'
           go_simp
           with_reducible rfl
          rotate_left
          ·simp only [Act.put, List.setIfInBounds_toArray, List.set_cons_zero, List.set_cons_succ, i64_w, i32_w]
           rfl
          refine pure_ (i := 3) (N := some 18) (v := ?_) (a' := ?_) (bb [4, 45]) rfl rfl (any_of HT_.out (by kernel_rfl)) (fun _ _ _ h => h) (Or.inl ⟨by rfl, ?_⟩) ?_ ?_
          rotate_left
          ·intro w'
           go_simp
           with_reducible rfl
          rotate_left
          ·simp only [Act.put, List.setIfInBounds_toArray, List.set_cons_zero, List.set_cons_succ, i64_w, i32_w]
           rfl
          refine pure_ (i := 4) (N := some 19) (v := ?_) (a' := ?_) (bb [5, 44]) rfl rfl (any_of HT_.out (by kernel_rfl)) (fun _ _ _ h => h) (Or.inl ⟨by rfl, ?_⟩) ?_ ?_
          rotate_left
          ·intro w'
           go_simp
           with_reducible rfl
          rotate_left
          ·simp only [Act.put, List.setIfInBounds_toArray, List.set_cons_zero, List.set_cons_succ, i64_w, i32_w]
           rfl
          refine pure_ (i := 5) (N := some 20) (v := ?_) (a' := ?_) (bb [6, 43]) rfl rfl (any_of HT_.out (by kernel_rfl)) (fun _ _ _ h => h) (Or.inl ⟨by rfl, ?_⟩) ?_ ?_
          rotate_left
          ·intro w'
           go_simp
           with_reducible rfl
          rotate_left
          ·simp only [Act.put, List.setIfInBounds_toArray, List.set_cons_zero, List.set_cons_succ, i64_w, i32_w]
           rfl
          refine take_ (i := 6) (N := some 21) (v := ?_) (a' := ?_) (bb [7, 42]) rfl rfl (take_ofW HT_.out HW_.out (by kernel_rfl)) (fun _ _ _ h => h) (Or.inl ⟨by rfl, ?_⟩) hHeld ?_ ?_
          rotate_left
          ·rintro w' ⟨s0, s1, s2, s3, s4⟩
           go_simp
           with_reducible rfl
          rotate_left
          ·simp only [Act.put, List.setIfInBounds_toArray, List.set_cons_zero, List.set_cons_succ, i64_w, i32_w]
           rfl
          refine one_ (i := 7) (N := some 22) (bb [8, 41]) rfl rfl (one_of HT_.out (by kernel_rfl)) (by decide) (fun K hK => ?_)
          refine goes_ Tryz.func62 (by kernel_rfl) rfl #[.slice (some ad115) ((rd_T31 l0 x11_1).f2).length c112_2] (by rfl) rfl rfl (by (try simp only [List.map_toArray, List.map_cons, List.map_nil]); first | done | rfl | (simp only [List.length_drop, List.length_take]; rfl)) ?_
          with_reducible refine (spec_words.calls k1 _ _ ((rd_T31 l0 x11_1).f2) true _ ?side1 ?side2 A9.out).mono ?_
          (case side1 => repeat (first | exact (Kd.C_below HR112_2.out HB.out) | (with_reducible refine Kd.C_alloc ?_ _) | (with_reducible refine Kd.C_drewN ?_ _) | (with_reducible refine Kd.C_drew ?_)))
          (case side2 => exact HC112_2.out)
          rintro e w' ⟨rfl, ⟨nd, rfl⟩⟩
          refine ⟨_, rfl, ?_⟩
          refine hK.out _ _ ⟨(blk_cell BK113.out 0).trans rfl, (blk_cell BK113.out 1).trans rfl, (blk_cell BK113.out 2).trans rfl, ((HB.out.cell (World.block_lt_of_cell? w _ hw115_0)).trans hw115_0), ((HB.out.cell (World.block_lt_of_cell? w _ hw117_0)).trans hw117_0)⟩ (fun hHeld => ?_)
          clear hK K
          refine norm_ (a' := ?_) ?_ ?_
          rotate_left
          ·show Act.put _ (some 22) _ = _
           simp only [Act.put, List.setIfInBounds_toArray, List.set_cons_zero, List.set_cons_succ, i64_w, i32_w]
           rfl
          refine pure_ (i := 8) (N := some 23) (v := ?_) (a' := ?_) (bb [9, 40]) rfl rfl (any_of HT_.out (by kernel_rfl)) (fun _ _ _ h => h) (Or.inl ⟨by rfl, ?_⟩) ?_ ?_
          rotate_left
          ·intro w'
           go_simp
           with_reducible rfl
          rotate_left
          ·simp only [Act.put, List.setIfInBounds_toArray, List.set_cons_zero, List.set_cons_succ, i64_w, i32_w]
           rfl
          refine pure_ (i := 9) (N := some 24) (v := ?_) (a' := ?_) (bb [10, 39]) rfl rfl (any_of HT_.out (by kernel_rfl)) (fun _ _ _ h => h) (Or.inl ⟨by rfl, ?_⟩) ?_ ?_
          rotate_left
          ·intro w'
           go_simp
           with_reducible rfl
          rotate_left
          ·simp only [Act.put, List.setIfInBounds_toArray, List.set_cons_zero, List.set_cons_succ, i64_w, i32_w]
           rfl
          refine pure_ (i := 10) (N := some 25) (v := ?_) (a' := ?_) (bb [11, 38]) rfl rfl (any_of HT_.out (by kernel_rfl)) (fun _ _ _ h => h) (Or.inl ⟨by rfl, ?_⟩) ?_ ?_
          rotate_left
          ·intro w'
           go_simp
           with_reducible rfl
          rotate_left
          ·simp only [Act.put, List.setIfInBounds_toArray, List.set_cons_zero, List.set_cons_succ, i64_w, i32_w]
           rfl
          refine pure_ (i := 11) (N := some 26) (v := ?_) (a' := ?_) (bb [12, 37]) rfl rfl (any_of HT_.out (by kernel_rfl)) (fun _ _ _ h => h) (Or.inl ⟨by rfl, ?_⟩) ?_ ?_
          rotate_left
          ·intro w'
           go_simp
           with_reducible rfl
          rotate_left
          ·simp only [Act.put, List.setIfInBounds_toArray, List.set_cons_zero, List.set_cons_succ, i64_w, i32_w]
           rfl
          refine take_ (i := 12) (N := some 27) (v := ?_) (a' := ?_) (bb [13, 36]) rfl rfl (take_ofW HT_.out HW_.out (by kernel_rfl)) (fun _ _ _ h => h) (Or.inl ⟨by rfl, ?_⟩) hHeld ?_ ?_
          rotate_left
          ·rintro w' ⟨s0, s1, s2, s3, s4⟩
           go_simp
           with_reducible rfl
          rotate_left
          ·simp only [Act.put, List.setIfInBounds_toArray, List.set_cons_zero, List.set_cons_succ, i64_w, i32_w]
           rfl
          refine pure_ (i := 13) (N := some 28) (v := ?_) (a' := ?_) (bb [14, 35]) rfl rfl (any_of HT_.out (by kernel_rfl)) (fun _ _ _ h => h) (Or.inl ⟨by rfl, ?_⟩) ?_ ?_
          rotate_left
          ·intro w'
           go_simp
           with_reducible rfl
          rotate_left
          ·simp only [Act.put, List.setIfInBounds_toArray, List.set_cons_zero, List.set_cons_succ, i64_w, i32_w]
           rfl
          refine take_ (i := 14) (N := some 29) (v := ?_) (a' := ?_) (bb [15, 34]) rfl rfl (take_ofW HT_.out HW_.out (by kernel_rfl)) (fun _ _ _ h => h) (Or.inl ⟨by rfl, ?_⟩) hHeld ?_ ?_
          rotate_left
          ·rintro w' ⟨s0, s1, s2, s3, s4⟩
           go_simp
           with_reducible rfl
          rotate_left
          ·simp only [Act.put, List.setIfInBounds_toArray, List.set_cons_zero, List.set_cons_succ, i64_w, i32_w]
           rfl
          refine one_ (i := 15) (N := some 30) (bb [16, 33]) rfl rfl (one_of HT_.out (by kernel_rfl)) (by decide) (fun K hK => ?_)
          refine goes_ Tryz.func63 (by kernel_rfl) rfl #[.string (rdOf ByteArray.empty ((rd_T31 l0 x11_1).f2) 0), .int .u8 44] (by rfl) rfl rfl (by (try simp only [List.map_toArray, List.map_cons, List.map_nil]); first | done | rfl | (simp only [List.length_drop, List.length_take]; rfl)) ?_
          with_reducible refine (spec_Where.calls k1 (rdOf ByteArray.empty ((rd_T31 l0 x11_1).f2) 0) 44 t116 _ A12.out).mono ?_
          rintro e w' ⟨rfl, ⟨nd, rfl⟩⟩
          refine ⟨_, rfl, ?_⟩
          refine hK.out _ _ ⟨(blk_cell BK113.out 0).trans rfl, (blk_cell BK113.out 1).trans rfl, (blk_cell BK113.out 2).trans rfl, ((HB.out.cell (World.block_lt_of_cell? w _ hw115_0)).trans hw115_0), ((HB.out.cell (World.block_lt_of_cell? w _ hw117_0)).trans hw117_0)⟩ (fun hHeld => ?_)
          clear hK K
          refine norm_ (a' := ?_) ?_ ?_
          rotate_left
          ·show Act.put _ (some 30) _ = _
           simp only [Act.put, List.setIfInBounds_toArray, List.set_cons_zero, List.set_cons_succ, i64_w, i32_w]
           rfl
          refine pure_ (i := 16) (N := some 31) (v := ?_) (a' := ?_) (bb [17, 32]) rfl rfl (any_of HT_.out (by kernel_rfl)) (fun _ _ _ h => h) (Or.inl ⟨by rfl, ?_⟩) ?_ ?_
          rotate_left
          ·intro w'
           go_simp
           with_reducible rfl
          rotate_left
          ·simp only [Act.put, List.setIfInBounds_toArray, List.set_cons_zero, List.set_cons_succ, i64_w, i32_w]
           rfl
          refine pure_ (i := 17) (N := some 32) (v := ?_) (a' := ?_) (bb [18, 31]) rfl rfl (any_of HT_.out (by kernel_rfl)) (fun _ _ _ h => h) (Or.inl ⟨by rfl, ?_⟩) ?_ ?_
          rotate_left
          ·intro w'
           go_simp
           with_reducible rfl
          rotate_left
          ·simp only [Act.put, List.setIfInBounds_toArray, List.set_cons_zero, List.set_cons_succ, i64_w, i32_w]
           rfl
          refine pure_ (i := 18) (N := some 33) (v := ?_) (a' := ?_) (bb [19, 30]) rfl rfl (any_of HT_.out (by kernel_rfl)) (fun _ _ _ h => h) (Or.inl ⟨by rfl, ?_⟩) ?_ ?_
          rotate_left
          ·intro w'
           go_simp
           with_reducible rfl
          rotate_left
          ·simp only [Act.put, List.setIfInBounds_toArray, List.set_cons_zero, List.set_cons_succ, i64_w, i32_w]
           rfl
          refine pure_ (i := 19) (N := some 34) (v := ?_) (a' := ?_) (bb [20, 29]) rfl rfl (any_of HT_.out (by kernel_rfl)) (fun _ _ _ h => h) (Or.inl ⟨by rfl, ?_⟩) ?_ ?_
          rotate_left
          ·intro w'
           go_simp
           with_reducible rfl
          rotate_left
          ·simp only [Act.put, List.setIfInBounds_toArray, List.set_cons_zero, List.set_cons_succ, i64_w, i32_w]
           rfl
          refine take_ (i := 20) (N := some 35) (v := ?_) (a' := ?_) (bb [21, 28]) rfl rfl (take_ofW HT_.out HW_.out (by kernel_rfl)) (fun _ _ _ h => h) (Or.inl ⟨by rfl, ?_⟩) hHeld ?_ ?_
          rotate_left
          ·rintro w' ⟨s0, s1, s2, s3, s4⟩
           go_simp
           with_reducible rfl
          rotate_left
          ·simp only [Act.put, List.setIfInBounds_toArray, List.set_cons_zero, List.set_cons_succ, i64_w, i32_w]
           rfl
          refine pure_ (i := 21) (N := some 36) (v := ?_) (a' := ?_) (bb [22, 27]) rfl rfl (any_of HT_.out (by kernel_rfl)) (fun _ _ _ h => h) (Or.inl ⟨by rfl, ?_⟩) ?_ ?_
          rotate_left
          ·intro w'
           go_simp
           with_reducible rfl
          rotate_left
          ·simp only [Act.put, List.setIfInBounds_toArray, List.set_cons_zero, List.set_cons_succ, i64_w, i32_w]
           rfl
          refine take_ (i := 22) (N := some 37) (v := ?_) (a' := ?_) (bb [23, 26]) rfl rfl (take_ofW HT_.out HW_.out (by kernel_rfl)) (fun _ _ _ h => h) (Or.inl ⟨by rfl, ?_⟩) hHeld ?_ ?_
          rotate_left
          ·rintro w' ⟨s0, s1, s2, s3, s4⟩
           go_simp
           with_reducible rfl
          rotate_left
          ·simp only [Act.put, List.setIfInBounds_toArray, List.set_cons_zero, List.set_cons_succ, i64_w, i32_w]
           rfl
          refine one_ (i := 23) (N := some 38) (bb [24, 25]) rfl rfl (one_of HT_.out (by kernel_rfl)) (by decide) (fun K hK => ?_)
          refine goes_ Tryz.func63 (by kernel_rfl) rfl #[.string (rdOf ByteArray.empty ((rd_T31 l0 x11_1).f2) 1), .int .u8 44] (by rfl) rfl rfl (by (try simp only [List.map_toArray, List.map_cons, List.map_nil]); first | done | rfl | (simp only [List.length_drop, List.length_take]; rfl)) ?_
          with_reducible refine (spec_Where.calls k1 (rdOf ByteArray.empty ((rd_T31 l0 x11_1).f2) 1) 44 t118 _ A17.out).mono ?_
          rintro e w' ⟨rfl, ⟨nd, rfl⟩⟩
          refine ⟨_, rfl, ?_⟩
          refine hK.out _ _ ⟨(blk_cell BK113.out 0).trans rfl, (blk_cell BK113.out 1).trans rfl, (blk_cell BK113.out 2).trans rfl, ((HB.out.cell (World.block_lt_of_cell? w _ hw115_0)).trans hw115_0), ((HB.out.cell (World.block_lt_of_cell? w _ hw117_0)).trans hw117_0)⟩ (fun hHeld => ?_)
          clear hK K
          refine norm_ (a' := ?_) ?_ ?_
          rotate_left
          ·show Act.put _ (some 38) _ = _
           simp only [Act.put, List.setIfInBounds_toArray, List.set_cons_zero, List.set_cons_succ, i64_w, i32_w]
           rfl
          refine pure_ (i := 24) (N := some 39) (v := ?_) (a' := ?_) (bb [25, 24]) rfl rfl (any_of HT_.out (by kernel_rfl)) (fun _ _ _ h => h) (Or.inl ⟨by rfl, ?_⟩) ?_ ?_
          rotate_left
          ·intro w'
           go_simp
           with_reducible rfl
          rotate_left
          ·simp only [Act.put, List.setIfInBounds_toArray, List.set_cons_zero, List.set_cons_succ, i64_w, i32_w]
           rfl
          refine pure_ (i := 25) (N := some 40) (v := ?_) (a' := ?_) (bb [26, 23]) rfl rfl (any_of HT_.out (by kernel_rfl)) (fun _ _ _ h => h) (Or.inl ⟨by rfl, ?_⟩) ?_ ?_
          rotate_left
          ·intro w'
           go_simp
           with_reducible rfl
          rotate_left
          ·simp only [Act.put, List.setIfInBounds_toArray, List.set_cons_zero, List.set_cons_succ, i64_w, i32_w]
           rfl
          refine pure_ (i := 26) (N := some 41) (v := ?_) (a' := ?_) (bb [27, 22]) rfl rfl (any_of HT_.out (by kernel_rfl)) (fun _ _ _ h => h) (Or.inl ⟨by rfl, ?_⟩) ?_ ?_
          rotate_left
          ·intro w'
           go_simp
           with_reducible rfl
          rotate_left
          ·simp only [Act.put, List.setIfInBounds_toArray, List.set_cons_zero, List.set_cons_succ, i64_w, i32_w]
           rfl
          refine pure_ (i := 27) (N := some 42) (v := ?_) (a' := ?_) (bb [28, 21]) rfl rfl (any_of HT_.out (by kernel_rfl)) (fun _ _ _ h => h) (Or.inl ⟨by rfl, ?_⟩) ?_ ?_
          rotate_left
          ·intro w'
           go_simp
           with_reducible rfl
          rotate_left
          ·simp only [Act.put, List.setIfInBounds_toArray, List.set_cons_zero, List.set_cons_succ, i64_w, i32_w]
           rfl
          refine take_ (i := 28) (N := some 43) (v := ?_) (a' := ?_) (bb [29, 20]) rfl rfl (take_ofW HT_.out HW_.out (by kernel_rfl)) (fun _ _ _ h => h) (Or.inl ⟨by rfl, ?_⟩) hHeld ?_ ?_
          rotate_left
          ·rintro w' ⟨s0, s1, s2, s3, s4⟩
           go_simp
           with_reducible rfl
          rotate_left
          ·simp only [Act.put, List.setIfInBounds_toArray, List.set_cons_zero, List.set_cons_succ, i64_w, i32_w]
           rfl
          refine pure_ (i := 29) (N := some 44) (v := ?_) (a' := ?_) (bb [30, 19]) rfl rfl (any_of HT_.out (by kernel_rfl)) (fun _ _ _ h => h) (Or.inl ⟨by rfl, ?_⟩) ?_ ?_
          rotate_left
          ·intro w'
           go_simp
           with_reducible rfl
          rotate_left
          ·simp only [Act.put, List.setIfInBounds_toArray, List.set_cons_zero, List.set_cons_succ, i64_w, i32_w]
           rfl
          refine pure_ (i := 30) (N := some 45) (v := ?_) (a' := ?_) (bb [31, 18]) rfl rfl (any_of HT_.out (by kernel_rfl)) (fun _ _ _ h => h) (Or.inl ⟨by rfl, ?_⟩) ?_ ?_
          rotate_left
          ·intro w'
           go_simp
           with_reducible rfl
          rotate_left
          ·simp only [Act.put, List.setIfInBounds_toArray, List.set_cons_zero, List.set_cons_succ, i64_w, i32_w]
           rfl
          refine pure_ (i := 31) (N := some 46) (v := ?_) (a' := ?_) (bb [32, 17]) rfl rfl (any_of HT_.out (by kernel_rfl)) (fun _ _ _ h => h) (Or.inl ⟨by rfl, ?_⟩) ?_ ?_
          rotate_left
          ·intro w'
           go_simp
           with_reducible rfl
          rotate_left
          ·simp only [Act.put, List.setIfInBounds_toArray, List.set_cons_zero, List.set_cons_succ, i64_w, i32_w]
           rfl
          refine pure_ (i := 32) (N := some 47) (v := ?_) (a' := ?_) (bb [33, 16]) rfl rfl (any_of HT_.out (by kernel_rfl)) (fun _ _ _ h => h) (Or.inl ⟨by rfl, ?_⟩) ?_ ?_
          rotate_left
          ·intro w'
           go_simp
           with_reducible rfl
          rotate_left
          ·simp only [Act.put, List.setIfInBounds_toArray, List.set_cons_zero, List.set_cons_succ, i64_w, i32_w]
           rfl
          refine pure_ (i := 33) (N := some 48) (v := undef) (a' := ?_) (bb [34, 15]) rfl rfl (any_of HT_.out (by kernel_rfl)) (fun _ _ _ h => h) (Or.inr ⟨by rfl, rfl⟩) ?_ ?_
          rotate_left
          ·simp only [Act.put, List.setIfInBounds_toArray, List.set_cons_zero, List.set_cons_succ, i64_w, i32_w]
           rfl
          refine pure_ (i := 34) (N := some 49) (v := undef) (a' := ?_) (bb [35, 14]) rfl rfl (any_of HT_.out (by kernel_rfl)) (fun _ _ _ h => h) (Or.inr ⟨by rfl, rfl⟩) ?_ ?_
          rotate_left
          ·simp only [Act.put, List.setIfInBounds_toArray, List.set_cons_zero, List.set_cons_succ, i64_w, i32_w]
           rfl
          refine pure_ (i := 35) (N := some 50) (v := undef) (a' := ?_) (bb [36, 13]) rfl rfl (any_of HT_.out (by kernel_rfl)) (fun _ _ _ h => h) (Or.inr ⟨by rfl, rfl⟩) ?_ ?_
          rotate_left
          ·simp only [Act.put, List.setIfInBounds_toArray, List.set_cons_zero, List.set_cons_succ, i64_w, i32_w]
           rfl
          refine pure_ (i := 36) (N := some 51) (v := undef) (a' := ?_) (bb [37, 12]) rfl rfl (any_of HT_.out (by kernel_rfl)) (fun _ _ _ h => h) (Or.inr ⟨by rfl, rfl⟩) ?_ ?_
          rotate_left
          ·simp only [Act.put, List.setIfInBounds_toArray, List.set_cons_zero, List.set_cons_succ, i64_w, i32_w]
           rfl
          refine pure_ (i := 37) (N := some 52) (v := undef) (a' := ?_) (bb [38, 11]) rfl rfl (any_of HT_.out (by kernel_rfl)) (fun _ _ _ h => h) (Or.inr ⟨by rfl, rfl⟩) ?_ ?_
          rotate_left
          ·simp only [Act.put, List.setIfInBounds_toArray, List.set_cons_zero, List.set_cons_succ, i64_w, i32_w]
           rfl
          refine pure_ (i := 38) (N := some 53) (v := undef) (a' := ?_) (bb [39, 10]) rfl rfl (any_of HT_.out (by kernel_rfl)) (fun _ _ _ h => h) (Or.inr ⟨by rfl, rfl⟩) ?_ ?_
          rotate_left
          ·simp only [Act.put, List.setIfInBounds_toArray, List.set_cons_zero, List.set_cons_succ, i64_w, i32_w]
           rfl
          refine pure_ (i := 39) (N := some 54) (v := undef) (a' := ?_) (bb [40, 9]) rfl rfl (any_of HT_.out (by kernel_rfl)) (fun _ _ _ h => h) (Or.inr ⟨by rfl, rfl⟩) ?_ ?_
          rotate_left
          ·simp only [Act.put, List.setIfInBounds_toArray, List.set_cons_zero, List.set_cons_succ, i64_w, i32_w]
           rfl
          refine pure_ (i := 40) (N := some 55) (v := undef) (a' := ?_) (bb [41, 8]) rfl rfl (any_of HT_.out (by kernel_rfl)) (fun _ _ _ h => h) (Or.inr ⟨by rfl, rfl⟩) ?_ ?_
          rotate_left
          ·simp only [Act.put, List.setIfInBounds_toArray, List.set_cons_zero, List.set_cons_succ, i64_w, i32_w]
           rfl
          refine pure_ (i := 41) (N := some 56) (v := undef) (a' := ?_) (bb [42, 7]) rfl rfl (any_of HT_.out (by kernel_rfl)) (fun _ _ _ h => h) (Or.inr ⟨by rfl, rfl⟩) ?_ ?_
          rotate_left
          ·simp only [Act.put, List.setIfInBounds_toArray, List.set_cons_zero, List.set_cons_succ, i64_w, i32_w]
           rfl
          refine pure_ (i := 42) (N := some 57) (v := ?_) (a' := ?_) (bb [43, 6]) rfl rfl (any_of HT_.out (by kernel_rfl)) (fun _ _ _ h => h) (Or.inl ⟨by rfl, ?_⟩) ?_ ?_
          rotate_left
          ·intro w'
           go_simp
           with_reducible rfl
          rotate_left
          ·simp only [Act.put, List.setIfInBounds_toArray, List.set_cons_zero, List.set_cons_succ, i64_w, i32_w]
           rfl
          refine pure_ (i := 43) (N := some 58) (v := ?_) (a' := ?_) (bb [44, 5]) rfl rfl (any_of HT_.out (by kernel_rfl)) (fun _ _ _ h => h) (Or.inl ⟨by rfl, ?_⟩) ?_ ?_
          rotate_left
          ·intro w'
           go_simp
           with_reducible rfl
          rotate_left
          ·simp only [Act.put, List.setIfInBounds_toArray, List.set_cons_zero, List.set_cons_succ, i64_w, i32_w]
           rfl
          refine pure_ (i := 44) (N := some 59) (v := undef) (a' := ?_) (bb [45, 4]) rfl rfl (any_of HT_.out (by kernel_rfl)) (fun _ _ _ h => h) (Or.inr ⟨by rfl, rfl⟩) ?_ ?_
          rotate_left
          ·simp only [Act.put, List.setIfInBounds_toArray, List.set_cons_zero, List.set_cons_succ, i64_w, i32_w]
           rfl
          refine pure_ (i := 45) (N := some 60) (v := undef) (a' := ?_) (bb [46, 3]) rfl rfl (any_of HT_.out (by kernel_rfl)) (fun _ _ _ h => h) (Or.inr ⟨by rfl, rfl⟩) ?_ ?_
          rotate_left
          ·simp only [Act.put, List.setIfInBounds_toArray, List.set_cons_zero, List.set_cons_succ, i64_w, i32_w]
           rfl
          refine pure_ (i := 46) (N := some 61) (v := undef) (a' := ?_) (bb [47, 2]) rfl rfl (any_of HT_.out (by kernel_rfl)) (fun _ _ _ h => h) (Or.inr ⟨by rfl, rfl⟩) ?_ ?_
          rotate_left
          ·simp only [Act.put, List.setIfInBounds_toArray, List.set_cons_zero, List.set_cons_succ, i64_w, i32_w]
           rfl
          refine pure_ (i := 47) (N := some 62) (v := undef) (a' := ?_) (bb [48, 1]) rfl rfl (any_of HT_.out (by kernel_rfl)) (fun _ _ _ h => h) (Or.inr ⟨by rfl, rfl⟩) ?_ ?_
          rotate_left
          ·simp only [Act.put, List.setIfInBounds_toArray, List.set_cons_zero, List.set_cons_succ, i64_w, i32_w]
           rfl
          refine pure_ (i := 48) (N := some 63) (v := ?_) (a' := ?_) (bb [49]) rfl rfl (any_of HT_.out (by kernel_rfl)) (fun _ _ _ h => h) (Or.inl ⟨by rfl, ?_⟩) ?_ ?_
          rotate_left
          ·intro w'
           go_simp
           with_reducible rfl
          rotate_left
          ·simp only [Act.put, List.setIfInBounds_toArray, List.set_cons_zero, List.set_cons_succ, i64_w, i32_w]
           rfl
          refine done_ (done_of HT_.out (by kernel_rfl)) ?_
          try go_wp2
          go_meet
          case rel => exact ⟨_, (true), (by first | rfl | (simp; done) | (simp [*]; done)), H', ⟨by have := HK1.out; first | omega | exact Nat.le_refl _⟩, ⟨by (with_reducible repeat (first | refine blk_drewN ?_ _ | refine blk_drew ?_ | refine blk_alloc ?_ _)); exact BK113.out⟩, ⟨by repeat (first | (with_reducible first | exact HB.out | apply below_alloc | apply pw_below_drewN | apply below_drew1 | refine below_set ?_ GE113.out) | exact HB.out)⟩⟩
         ·rw [if_neg c21] at H
          have c21b0 : decide ((((rd_T31 l0 x11_1).f1).length : Int) < 1) = false := decide_eq_false c21
          have c21b1 : decide (((rd_T31 l0 x11_1).f1).length < 1) = false := decide_eq_false (by omega)
          clear c21
          replace H := guard_inv H
          obtain ⟨c24, H⟩ := H
          have c24b0 : decide (0 < (l0.length : Int)) = true := decide_eq_true c24
          have c24b1 : decide (0 < l0.length) = true := decide_eq_true (by omega)
          clear c24
          by_cases c25 : (((rd_T31 l0 x11_1).f1).length : Int) = (((rd_T31 l0 0).f1).length : Int)
          ·rw [if_pos c25] at H
           have c25b0 : ((((rd_T31 l0 x11_1).f1).length : Int) == (((rd_T31 l0 0).f1).length : Int)) = true := beq_iff_eq.mpr c25
           have c25b1 : ((((rd_T31 l0 x11_1).f1).length : Int) != (((rd_T31 l0 0).f1).length : Int)) = false := bne_eq_false_iff_eq.mpr c25
           have c25b2 : (((rd_T31 l0 x11_1).f1).length == ((rd_T31 l0 0).f1).length) = true := by first | simpa using c25 | (simp at c25 ⊢; omega)
           clear c25
           replace H := Option.bind_eq_some_iff.mp H
           obtain ⟨t120, A260, H⟩ := H
           replace H : (spec_BuddyinfoPrint.j1 k1 l0 x4_1 l0 (l0.length : Int) x11_1 (!t120) ((rd_T31 l0 x11_1).f0) ((rd_T31 l0 x11_1).f1) ((rd_T31 l0 x11_1).f2)) = some (r1, r2) := H
           have A26 := Aside0.mk A260
           clear A260
           have H' := Aside0.mk H
           clear H
           try go_wp2
           have n0_ : Aside0 ((((w6.setCell ⟨gb113, 0, none⟩ (.string ((rd_T31 l0 x11_1).f0))).setCell ⟨gb113, 1, none⟩ (.slice A112_1 ((rd_T31 l0 x11_1).f1).length c112_1)).setCell ⟨gb113, 2, none⟩ (.slice A112_2 ((rd_T31 l0 x11_1).f2).length c112_2)).heap[gb113]? = some (.cells #[.string ((rd_T31 l0 x11_1).f0), .slice A112_1 ((rd_T31 l0 x11_1).f1).length c112_1, .slice A112_2 ((rd_T31 l0 x11_1).f2).length c112_2] 31 (0, 0))) := ⟨by (with_reducible repeat (first | refine blk_drewN ?_ _ | refine blk_drew ?_ | refine blk_alloc ?_ _)); refine blk_put (cs := #[.string ((rd_T31 l0 x11_1).f0), .slice A112_1 ((rd_T31 l0 x11_1).f1).length c112_1, .slice none 0 0]) ?_ 2 _ rfl; (with_reducible repeat (first | refine blk_drewN ?_ _ | refine blk_drew ?_ | refine blk_alloc ?_ _)); refine blk_put (cs := #[.string ((rd_T31 l0 x11_1).f0), .slice none 0 0, .slice none 0 0]) ?_ 1 _ rfl; (with_reducible repeat (first | refine blk_drewN ?_ _ | refine blk_drew ?_ | refine blk_alloc ?_ _)); refine blk_put (cs := #[.string (⟨#[]⟩ : ByteArray), .slice none 0 0, .slice none 0 0]) ?_ 0 _ rfl; (with_reducible repeat (first | refine blk_drewN ?_ _ | refine blk_drew ?_ | refine blk_alloc ?_ _)); exact BK113.out⟩
           have n1_ : Aside0 (Below w.heap.size w (((w6.setCell ⟨gb113, 0, none⟩ (.string ((rd_T31 l0 x11_1).f0))).setCell ⟨gb113, 1, none⟩ (.slice A112_1 ((rd_T31 l0 x11_1).f1).length c112_1)).setCell ⟨gb113, 2, none⟩ (.slice A112_2 ((rd_T31 l0 x11_1).f2).length c112_2))) := ⟨by repeat (first | (with_reducible first | exact HB.out | apply below_alloc | apply pw_below_drewN | apply below_drew1 | refine below_set ?_ GE113.out) | exact HB.out)⟩
           (try clear BK113)
           (try clear HB)
           generalize (((w6.setCell ⟨gb113, 0, none⟩ (.string ((rd_T31 l0 x11_1).f0))).setCell ⟨gb113, 1, none⟩ (.slice A112_1 ((rd_T31 l0 x11_1).f1).length c112_1)).setCell ⟨gb113, 2, none⟩ (.slice A112_2 ((rd_T31 l0 x11_1).f2).length c112_2)) = w27 at n0_ n1_ ⊢
           have BK113 := n0_
           have HB := n1_
           clear n0_ n1_
           have n0_ := Aside0.mk (blk_drew BK113.out)
           have n1_ := Aside0.mk (below_drew1 HB.out)
           clear BK113
           clear HB
           have BK113 := n0_
           have HB := n1_
           clear n0_ n1_
           have p115 : 0 ≤ (0 : Int) := (by omega)
           have q115 : 0 < (((rd_T31 l0 x11_1).f2).length : Int) := of_decide_eq_true (by first | (with_reducible assumption) | assumption)
           obtain ⟨ad115, e115, hx115_0⟩ := Kd.at_string HR112_2.out 0 p115 q115
           have hw115_0 := hx115_0
           (try rw [show ((0 : Int)).toNat = 0 from rfl] at hw115_0)
           (try rw [show 0 * 1 = 0 from rfl] at hw115_0)
           (try rw [Addr.add_zero'] at hw115_0)
           cases e115
           have qi115 : (0 < ((rd_T31 l0 x11_1).f2).length) = True := eq_true (by omega)
           (try rw [show ((0 : Int)).toNat = 0 from rfl] at hx115_0)
           (try rw [Addr.add_zero'] at hx115_0)
           replace hx115_0 := (HB.out.cell (World.block_lt_of_cell? w _ hx115_0)).trans hx115_0
           replace p115 := eq_true p115
           replace q115 := eq_true q115
           have p117 : 0 ≤ (1 : Int) := (by omega)
           have q117 : 1 < (((rd_T31 l0 x11_1).f2).length : Int) := of_decide_eq_true (by first | (with_reducible assumption) | assumption)
           obtain ⟨ad117, e117, hx117_0⟩ := Kd.at_string HR112_2.out 1 p117 q117
           have hw117_0 := hx117_0
           (try rw [show ((1 : Int)).toNat = 1 from rfl] at hw117_0)
           (try rw [show 1 * 1 = 1 from rfl] at hw117_0)
           (try simp only [Nat.reduceMul, Nat.reduceEqDiff, Go.Addr.add, ↓reduceIte] at hw117_0)
           obtain rfl : ad115 = ad117 := (by injection e117)
           (try simp only [show (1 : Int).toNat = 1 from rfl, Nat.reduceMul, Nat.reduceEqDiff, Go.Addr.add, ↓reduceIte] at hx117_0)
           have qi117 : (1 < ((rd_T31 l0 x11_1).f2).length) = True := eq_true (by omega)
           (try rw [show ((1 : Int)).toNat = 1 from rfl] at hx117_0)
           replace hx117_0 := (HB.out.cell (World.block_lt_of_cell? w _ hx117_0)).trans hx117_0
           replace p117 := eq_true p117
           replace q117 := eq_true q117
           have p119 : 0 ≤ (0 : Int) := (by omega)
           have q119 : 0 < (l0.length : Int) := of_decide_eq_true (by first | (with_reducible assumption) | assumption)
           obtain ⟨ad119, A119_1, c119_1, A119_2, c119_2, e119, hx119_0, hx119_1, hx119_2, hl119_1, hi119_1, hl119_2, hi119_2⟩ := at_T31 HR0.out 0 p119 q119
           have hw119_2 := hx119_2
           (try rw [show ((0 : Int)).toNat = 0 from rfl] at hw119_2)
           (try rw [show 0 * 3 = 0 from rfl] at hw119_2)
           (try rw [Addr.add_zero'] at hw119_2)
           have hw119_1 := hx119_1
           (try rw [show ((0 : Int)).toNat = 0 from rfl] at hw119_1)
           (try rw [show 0 * 3 = 0 from rfl] at hw119_1)
           (try rw [Addr.add_zero'] at hw119_1)
           have hw119_0 := hx119_0
           (try rw [show ((0 : Int)).toNat = 0 from rfl] at hw119_0)
           (try rw [show 0 * 3 = 0 from rfl] at hw119_0)
           (try rw [Addr.add_zero'] at hw119_0)
           obtain rfl : ad112 = ad119 := (by injection e119)
           have qi119 : (0 < l0.length) = True := eq_true (by omega)
           (try rw [show ((0 : Int)).toNat = 0 from rfl] at hx119_0)
           (try rw [show 0 * 3 = 0 from rfl] at hx119_0)
           (try rw [Addr.add_zero'] at hx119_0)
           (try rw [show ((0 : Int)).toNat = 0 from rfl] at hx119_1)
           (try rw [show 0 * 3 = 0 from rfl] at hx119_1)
           (try rw [Addr.add_zero'] at hx119_1)
           (try rw [show ((0 : Int)).toNat = 0 from rfl] at hx119_2)
           (try rw [show 0 * 3 = 0 from rfl] at hx119_2)
           (try rw [Addr.add_zero'] at hx119_2)
           replace hx119_0 := (HB.out.cell (World.block_lt_of_cell? w _ hx119_0)).trans hx119_0
           replace hx119_1 := (HB.out.cell (World.block_lt_of_cell? w _ hx119_1)).trans hx119_1
           replace hx119_2 := (HB.out.cell (World.block_lt_of_cell? w _ hx119_2)).trans hx119_2
           have HR119_1 := Aside0.mk hi119_1
           have HC119_1 := Aside0.mk hl119_1
           clear hi119_1 hl119_1
           have HR119_2 := Aside0.mk hi119_2
           have HC119_2 := Aside0.mk hl119_2
           clear hi119_2 hl119_2
           replace p119 := eq_true p119
           replace q119 := eq_true q119
           refine start_ (n := 49) (S := fun w' => w'.cell? ⟨gb113, 0, none⟩ = some (.string ((rd_T31 l0 x11_1).f0)) ∧ w'.cell? ⟨gb113, 1, none⟩ = some (.slice A112_1 ((rd_T31 l0 x11_1).f1).length c112_1) ∧ w'.cell? ⟨gb113, 2, none⟩ = some (.slice (some ad115) ((rd_T31 l0 x11_1).f2).length c112_2) ∧ w'.cell? ad115 = some (.string (rdOf ByteArray.empty ((rd_T31 l0 x11_1).f2) 0)) ∧ w'.cell? ⟨ad115.block, ad115.off + 1, none⟩ = some (.string (rdOf ByteArray.empty ((rd_T31 l0 x11_1).f2) 1)) ∧ w'.cell? ad112 = some (.string ((rd_T31 l0 0).f0)) ∧ w'.cell? ⟨ad112.block, ad112.off + 1, none⟩ = some (.slice A119_1 ((rd_T31 l0 0).f1).length c119_1) ∧ w'.cell? ⟨ad112.block, ad112.off + 2, none⟩ = some (.slice A119_2 ((rd_T31 l0 0).f2).length c119_2)) (ds := []) (bb [0, 49]) (by kernel_rfl) rfl rfl ⟨(blk_cell BK113.out 0).trans rfl, (blk_cell BK113.out 1).trans rfl, (blk_cell BK113.out 2).trans rfl, ((HB.out.cell (World.block_lt_of_cell? w _ hw115_0)).trans hw115_0), ((HB.out.cell (World.block_lt_of_cell? w _ hw117_0)).trans hw117_0), ((HB.out.cell (World.block_lt_of_cell? w _ hw119_0)).trans hw119_0), ((HB.out.cell (World.block_lt_of_cell? w _ hw119_1)).trans hw119_1), ((HB.out.cell (World.block_lt_of_cell? w _ hw119_2)).trans hw119_2)⟩ (fun hHeld => ?_); refine with_tabW spec_BuddyinfoPrint.tab5 spec_BuddyinfoPrint.bits5 (fun HT_ HW_ => ?_)
           generalize w27.drew = w28 at BK113 HB HR119_1 HR119_2 hx115_0 hx117_0 hx119_0 hx119_1 hx119_2 hHeld ⊢
           refine pure_ (i := 0) (N := some 15) (v := ?_) (a' := ?_) (bb [1, 48]) rfl rfl (any_of HT_.out (by kernel_rfl)) (fun _ _ _ h => h) (Or.inl ⟨by rfl, ?_⟩) ?_ ?_
           rotate_left
           ·intro w'
            go_simp
            with_reducible rfl
           rotate_left
           ·simp only [Act.put, List.setIfInBounds_toArray, List.set_cons_zero, List.set_cons_succ, i64_w, i32_w]
            rfl
           refine take_ (i := 1) (N := some 16) (v := ?_) (a' := ?_) (bb [2, 47]) rfl rfl (take_ofW HT_.out HW_.out (by kernel_rfl)) (fun _ _ _ h => h) (Or.inl ⟨by rfl, ?_⟩) hHeld ?_ ?_
           rotate_left
           ·rintro w' ⟨s0, s1, s2, s3, s4, s5, s6, s7⟩
            go_simp
            with_reducible rfl
           rotate_left
           ·simp only [Act.put, List.setIfInBounds_toArray, List.set_cons_zero, List.set_cons_succ, i64_w, i32_w]
            rfl
           refine pure_ (i := 2) (N := some 17) (v := ?_) (a' := ?_) (bb [3, 46]) rfl rfl (any_of HT_.out (by kernel_rfl)) (fun _ _ _ h => h) (Or.inl ⟨by rfl, ?_⟩) ?_ ?_
           rotate_left
           ·intro w'
            go_simp
            with_reducible rfl
           rotate_left
           ·simp only [Act.put, List.setIfInBounds_toArray, List.set_cons_zero, List.set_cons_succ, i64_w, i32_w]
            rfl
           refine pure_ (i := 3) (N := some 18) (v := ?_) (a' := ?_) (bb [4, 45]) rfl rfl (any_of HT_.out (by kernel_rfl)) (fun _ _ _ h => h) (Or.inl ⟨by rfl, ?_⟩) ?_ ?_
           rotate_left
           ·intro w'
            go_simp
            with_reducible rfl
           rotate_left
           ·simp only [Act.put, List.setIfInBounds_toArray, List.set_cons_zero, List.set_cons_succ, i64_w, i32_w]
            rfl
           refine pure_ (i := 4) (N := some 19) (v := ?_) (a' := ?_) (bb [5, 44]) rfl rfl (any_of HT_.out (by kernel_rfl)) (fun _ _ _ h => h) (Or.inl ⟨by rfl, ?_⟩) ?_ ?_
           rotate_left
           ·intro w'
            go_simp
            with_reducible rfl
           rotate_left
           ·simp only [Act.put, List.setIfInBounds_toArray, List.set_cons_zero, List.set_cons_succ, i64_w, i32_w]
            rfl
           refine pure_ (i := 5) (N := some 20) (v := ?_) (a' := ?_) (bb [6, 43]) rfl rfl (any_of HT_.out (by kernel_rfl)) (fun _ _ _ h => h) (Or.inl ⟨by rfl, ?_⟩) ?_ ?_
           rotate_left
           ·intro w'
            go_simp
            with_reducible rfl
           rotate_left
           ·simp only [Act.put, List.setIfInBounds_toArray, List.set_cons_zero, List.set_cons_succ, i64_w, i32_w]
            rfl
           refine take_ (i := 6) (N := some 21) (v := ?_) (a' := ?_) (bb [7, 42]) rfl rfl (take_ofW HT_.out HW_.out (by kernel_rfl)) (fun _ _ _ h => h) (Or.inl ⟨by rfl, ?_⟩) hHeld ?_ ?_
           rotate_left
           ·rintro w' ⟨s0, s1, s2, s3, s4, s5, s6, s7⟩
            go_simp
            with_reducible rfl
           rotate_left
           ·simp only [Act.put, List.setIfInBounds_toArray, List.set_cons_zero, List.set_cons_succ, i64_w, i32_w]
            rfl
           refine one_ (i := 7) (N := some 22) (bb [8, 41]) rfl rfl (one_of HT_.out (by kernel_rfl)) (by decide) (fun K hK => ?_)
           refine goes_ Tryz.func62 (by kernel_rfl) rfl #[.slice (some ad115) ((rd_T31 l0 x11_1).f2).length c112_2] (by rfl) rfl rfl (by (try simp only [List.map_toArray, List.map_cons, List.map_nil]); first | done | rfl | (simp only [List.length_drop, List.length_take]; rfl)) ?_
           with_reducible refine (spec_words.calls k1 _ _ ((rd_T31 l0 x11_1).f2) true _ ?side1 ?side2 A9.out).mono ?_
           (case side1 => repeat (first | exact (Kd.C_below HR112_2.out HB.out) | (with_reducible refine Kd.C_alloc ?_ _) | (with_reducible refine Kd.C_drewN ?_ _) | (with_reducible refine Kd.C_drew ?_)))
           (case side2 => exact HC112_2.out)
           rintro e w' ⟨rfl, ⟨nd, rfl⟩⟩
           refine ⟨_, rfl, ?_⟩
           refine hK.out _ _ ⟨(blk_cell BK113.out 0).trans rfl, (blk_cell BK113.out 1).trans rfl, (blk_cell BK113.out 2).trans rfl, ((HB.out.cell (World.block_lt_of_cell? w _ hw115_0)).trans hw115_0), ((HB.out.cell (World.block_lt_of_cell? w _ hw117_0)).trans hw117_0), ((HB.out.cell (World.block_lt_of_cell? w _ hw119_0)).trans hw119_0), ((HB.out.cell (World.block_lt_of_cell? w _ hw119_1)).trans hw119_1), ((HB.out.cell (World.block_lt_of_cell? w _ hw119_2)).trans hw119_2)⟩ (fun hHeld => ?_)
           clear hK K
           refine norm_ (a' := ?_) ?_ ?_
           rotate_left
           ·show Act.put _ (some 22) _ = _
            simp only [Act.put, List.setIfInBounds_toArray, List.set_cons_zero, List.set_cons_succ, i64_w, i32_w]
            rfl
           refine pure_ (i := 8) (N := some 23) (v := ?_) (a' := ?_) (bb [9, 40]) rfl rfl (any_of HT_.out (by kernel_rfl)) (fun _ _ _ h => h) (Or.inl ⟨by rfl, ?_⟩) ?_ ?_
           rotate_left
           ·intro w'
            go_simp
            with_reducible rfl
           rotate_left
           ·simp only [Act.put, List.setIfInBounds_toArray, List.set_cons_zero, List.set_cons_succ, i64_w, i32_w]
            rfl
           refine pure_ (i := 9) (N := some 24) (v := ?_) (a' := ?_) (bb [10, 39]) rfl rfl (any_of HT_.out (by kernel_rfl)) (fun _ _ _ h => h) (Or.inl ⟨by rfl, ?_⟩) ?_ ?_
           rotate_left
           ·intro w'
            go_simp
            with_reducible rfl
           rotate_left
           ·simp only [Act.put, List.setIfInBounds_toArray, List.set_cons_zero, List.set_cons_succ, i64_w, i32_w]
            rfl
           refine pure_ (i := 10) (N := some 25) (v := ?_) (a' := ?_) (bb [11, 38]) rfl rfl (any_of HT_.out (by kernel_rfl)) (fun _ _ _ h => h) (Or.inl ⟨by rfl, ?_⟩) ?_ ?_
           rotate_left
           ·intro w'
            go_simp
            with_reducible rfl
           rotate_left
           ·simp only [Act.put, List.setIfInBounds_toArray, List.set_cons_zero, List.set_cons_succ, i64_w, i32_w]
            rfl
           refine pure_ (i := 11) (N := some 26) (v := ?_) (a' := ?_) (bb [12, 37]) rfl rfl (any_of HT_.out (by kernel_rfl)) (fun _ _ _ h => h) (Or.inl ⟨by rfl, ?_⟩) ?_ ?_
           rotate_left
           ·intro w'
            go_simp
            with_reducible rfl
           rotate_left
           ·simp only [Act.put, List.setIfInBounds_toArray, List.set_cons_zero, List.set_cons_succ, i64_w, i32_w]
            rfl
           refine take_ (i := 12) (N := some 27) (v := ?_) (a' := ?_) (bb [13, 36]) rfl rfl (take_ofW HT_.out HW_.out (by kernel_rfl)) (fun _ _ _ h => h) (Or.inl ⟨by rfl, ?_⟩) hHeld ?_ ?_
           rotate_left
           ·rintro w' ⟨s0, s1, s2, s3, s4, s5, s6, s7⟩
            go_simp
            with_reducible rfl
           rotate_left
           ·simp only [Act.put, List.setIfInBounds_toArray, List.set_cons_zero, List.set_cons_succ, i64_w, i32_w]
            rfl
           refine pure_ (i := 13) (N := some 28) (v := ?_) (a' := ?_) (bb [14, 35]) rfl rfl (any_of HT_.out (by kernel_rfl)) (fun _ _ _ h => h) (Or.inl ⟨by rfl, ?_⟩) ?_ ?_
           rotate_left
           ·intro w'
            go_simp
            with_reducible rfl
           rotate_left
           ·simp only [Act.put, List.setIfInBounds_toArray, List.set_cons_zero, List.set_cons_succ, i64_w, i32_w]
            rfl
           refine take_ (i := 14) (N := some 29) (v := ?_) (a' := ?_) (bb [15, 34]) rfl rfl (take_ofW HT_.out HW_.out (by kernel_rfl)) (fun _ _ _ h => h) (Or.inl ⟨by rfl, ?_⟩) hHeld ?_ ?_
           rotate_left
           ·rintro w' ⟨s0, s1, s2, s3, s4, s5, s6, s7⟩
            go_simp
            with_reducible rfl
           rotate_left
           ·simp only [Act.put, List.setIfInBounds_toArray, List.set_cons_zero, List.set_cons_succ, i64_w, i32_w]
            rfl
           refine one_ (i := 15) (N := some 30) (bb [16, 33]) rfl rfl (one_of HT_.out (by kernel_rfl)) (by decide) (fun K hK => ?_)
           refine goes_ Tryz.func63 (by kernel_rfl) rfl #[.string (rdOf ByteArray.empty ((rd_T31 l0 x11_1).f2) 0), .int .u8 44] (by rfl) rfl rfl (by (try simp only [List.map_toArray, List.map_cons, List.map_nil]); first | done | rfl | (simp only [List.length_drop, List.length_take]; rfl)) ?_
           with_reducible refine (spec_Where.calls k1 (rdOf ByteArray.empty ((rd_T31 l0 x11_1).f2) 0) 44 t116 _ A12.out).mono ?_
           rintro e w' ⟨rfl, ⟨nd, rfl⟩⟩
           refine ⟨_, rfl, ?_⟩
           refine hK.out _ _ ⟨(blk_cell BK113.out 0).trans rfl, (blk_cell BK113.out 1).trans rfl, (blk_cell BK113.out 2).trans rfl, ((HB.out.cell (World.block_lt_of_cell? w _ hw115_0)).trans hw115_0), ((HB.out.cell (World.block_lt_of_cell? w _ hw117_0)).trans hw117_0), ((HB.out.cell (World.block_lt_of_cell? w _ hw119_0)).trans hw119_0), ((HB.out.cell (World.block_lt_of_cell? w _ hw119_1)).trans hw119_1), ((HB.out.cell (World.block_lt_of_cell? w _ hw119_2)).trans hw119_2)⟩ (fun hHeld => ?_)
           clear hK K
           refine norm_ (a' := ?_) ?_ ?_
           rotate_left
           ·show Act.put _ (some 30) _ = _
            simp only [Act.put, List.setIfInBounds_toArray, List.set_cons_zero, List.set_cons_succ, i64_w, i32_w]
            rfl
           refine pure_ (i := 16) (N := some 31) (v := ?_) (a' := ?_) (bb [17, 32]) rfl rfl (any_of HT_.out (by kernel_rfl)) (fun _ _ _ h => h) (Or.inl ⟨by rfl, ?_⟩) ?_ ?_
           rotate_left
           ·intro w'
            go_simp
            with_reducible rfl
           rotate_left
           ·simp only [Act.put, List.setIfInBounds_toArray, List.set_cons_zero, List.set_cons_succ, i64_w, i32_w]
            rfl
           refine pure_ (i := 17) (N := some 32) (v := ?_) (a' := ?_) (bb [18, 31]) rfl rfl (any_of HT_.out (by kernel_rfl)) (fun _ _ _ h => h) (Or.inl ⟨by rfl, ?_⟩) ?_ ?_
           rotate_left
           ·intro w'
            go_simp
            with_reducible rfl
           rotate_left
           ·simp only [Act.put, List.setIfInBounds_toArray, List.set_cons_zero, List.set_cons_succ, i64_w, i32_w]
            rfl
           refine pure_ (i := 18) (N := some 33) (v := ?_) (a' := ?_) (bb [19, 30]) rfl rfl (any_of HT_.out (by kernel_rfl)) (fun _ _ _ h => h) (Or.inl ⟨by rfl, ?_⟩) ?_ ?_
           rotate_left
           ·intro w'
            go_simp
            with_reducible rfl
           rotate_left
           ·simp only [Act.put, List.setIfInBounds_toArray, List.set_cons_zero, List.set_cons_succ, i64_w, i32_w]
            rfl
           refine pure_ (i := 19) (N := some 34) (v := ?_) (a' := ?_) (bb [20, 29]) rfl rfl (any_of HT_.out (by kernel_rfl)) (fun _ _ _ h => h) (Or.inl ⟨by rfl, ?_⟩) ?_ ?_
           rotate_left
           ·intro w'
            go_simp
            with_reducible rfl
           rotate_left
           ·simp only [Act.put, List.setIfInBounds_toArray, List.set_cons_zero, List.set_cons_succ, i64_w, i32_w]
            rfl
           refine take_ (i := 20) (N := some 35) (v := ?_) (a' := ?_) (bb [21, 28]) rfl rfl (take_ofW HT_.out HW_.out (by kernel_rfl)) (fun _ _ _ h => h) (Or.inl ⟨by rfl, ?_⟩) hHeld ?_ ?_
           rotate_left
           ·rintro w' ⟨s0, s1, s2, s3, s4, s5, s6, s7⟩
            go_simp
            with_reducible rfl
           rotate_left
           ·simp only [Act.put, List.setIfInBounds_toArray, List.set_cons_zero, List.set_cons_succ, i64_w, i32_w]
            rfl
           refine pure_ (i := 21) (N := some 36) (v := ?_) (a' := ?_) (bb [22, 27]) rfl rfl (any_of HT_.out (by kernel_rfl)) (fun _ _ _ h => h) (Or.inl ⟨by rfl, ?_⟩) ?_ ?_
           rotate_left
           ·intro w'
            go_simp
            with_reducible rfl
           rotate_left
           ·simp only [Act.put, List.setIfInBounds_toArray, List.set_cons_zero, List.set_cons_succ, i64_w, i32_w]
            rfl
           refine take_ (i := 22) (N := some 37) (v := ?_) (a' := ?_) (bb [23, 26]) rfl rfl (take_ofW HT_.out HW_.out (by kernel_rfl)) (fun _ _ _ h => h) (Or.inl ⟨by rfl, ?_⟩) hHeld ?_ ?_
           rotate_left
           ·rintro w' ⟨s0, s1, s2, s3, s4, s5, s6, s7⟩
            go_simp
            with_reducible rfl
           rotate_left
           ·simp only [Act.put, List.setIfInBounds_toArray, List.set_cons_zero, List.set_cons_succ, i64_w, i32_w]
            rfl
           refine one_ (i := 23) (N := some 38) (bb [24, 25]) rfl rfl (one_of HT_.out (by kernel_rfl)) (by decide) (fun K hK => ?_)
           refine goes_ Tryz.func63 (by kernel_rfl) rfl #[.string (rdOf ByteArray.empty ((rd_T31 l0 x11_1).f2) 1), .int .u8 44] (by rfl) rfl rfl (by (try simp only [List.map_toArray, List.map_cons, List.map_nil]); first | done | rfl | (simp only [List.length_drop, List.length_take]; rfl)) ?_
           with_reducible refine (spec_Where.calls k1 (rdOf ByteArray.empty ((rd_T31 l0 x11_1).f2) 1) 44 t118 _ A17.out).mono ?_
           rintro e w' ⟨rfl, ⟨nd, rfl⟩⟩
           refine ⟨_, rfl, ?_⟩
           refine hK.out _ _ ⟨(blk_cell BK113.out 0).trans rfl, (blk_cell BK113.out 1).trans rfl, (blk_cell BK113.out 2).trans rfl, ((HB.out.cell (World.block_lt_of_cell? w _ hw115_0)).trans hw115_0), ((HB.out.cell (World.block_lt_of_cell? w _ hw117_0)).trans hw117_0), ((HB.out.cell (World.block_lt_of_cell? w _ hw119_0)).trans hw119_0), ((HB.out.cell (World.block_lt_of_cell? w _ hw119_1)).trans hw119_1), ((HB.out.cell (World.block_lt_of_cell? w _ hw119_2)).trans hw119_2)⟩ (fun hHeld => ?_)
           clear hK K
           refine norm_ (a' := ?_) ?_ ?_
           rotate_left
           ·show Act.put _ (some 38) _ = _
            simp only [Act.put, List.setIfInBounds_toArray, List.set_cons_zero, List.set_cons_succ, i64_w, i32_w]
            rfl
           refine pure_ (i := 24) (N := some 39) (v := ?_) (a' := ?_) (bb [25, 24]) rfl rfl (any_of HT_.out (by kernel_rfl)) (fun _ _ _ h => h) (Or.inl ⟨by rfl, ?_⟩) ?_ ?_
           rotate_left
           ·intro w'
            go_simp
            with_reducible rfl
           rotate_left
           ·simp only [Act.put, List.setIfInBounds_toArray, List.set_cons_zero, List.set_cons_succ, i64_w, i32_w]
            rfl
           refine pure_ (i := 25) (N := some 40) (v := ?_) (a' := ?_) (bb [26, 23]) rfl rfl (any_of HT_.out (by kernel_rfl)) (fun _ _ _ h => h) (Or.inl ⟨by rfl, ?_⟩) ?_ ?_
           rotate_left
           ·intro w'
            go_simp
            with_reducible rfl
           rotate_left
           ·simp only [Act.put, List.setIfInBounds_toArray, List.set_cons_zero, List.set_cons_succ, i64_w, i32_w]
            rfl
           refine pure_ (i := 26) (N := some 41) (v := ?_) (a' := ?_) (bb [27, 22]) rfl rfl (any_of HT_.out (by kernel_rfl)) (fun _ _ _ h => h) (Or.inl ⟨by rfl, ?_⟩) ?_ ?_
           rotate_left
           ·intro w'
            go_simp
            with_reducible rfl
           rotate_left
           ·simp only [Act.put, List.setIfInBounds_toArray, List.set_cons_zero, List.set_cons_succ, i64_w, i32_w]
            rfl
           refine pure_ (i := 27) (N := some 42) (v := ?_) (a' := ?_) (bb [28, 21]) rfl rfl (any_of HT_.out (by kernel_rfl)) (fun _ _ _ h => h) (Or.inl ⟨by rfl, ?_⟩) ?_ ?_
           rotate_left
           ·intro w'
            go_simp
            with_reducible rfl
           rotate_left
           ·simp only [Act.put, List.setIfInBounds_toArray, List.set_cons_zero, List.set_cons_succ, i64_w, i32_w]
            rfl
           refine take_ (i := 28) (N := some 43) (v := ?_) (a' := ?_) (bb [29, 20]) rfl rfl (take_ofW HT_.out HW_.out (by kernel_rfl)) (fun _ _ _ h => h) (Or.inl ⟨by rfl, ?_⟩) hHeld ?_ ?_
           rotate_left
           ·rintro w' ⟨s0, s1, s2, s3, s4, s5, s6, s7⟩
            go_simp
            with_reducible rfl
           rotate_left
           ·simp only [Act.put, List.setIfInBounds_toArray, List.set_cons_zero, List.set_cons_succ, i64_w, i32_w]
            rfl
           refine pure_ (i := 29) (N := some 44) (v := ?_) (a' := ?_) (bb [30, 19]) rfl rfl (any_of HT_.out (by kernel_rfl)) (fun _ _ _ h => h) (Or.inl ⟨by rfl, ?_⟩) ?_ ?_
           rotate_left
           ·intro w'
            go_simp
            with_reducible rfl
           rotate_left
           ·simp only [Act.put, List.setIfInBounds_toArray, List.set_cons_zero, List.set_cons_succ, i64_w, i32_w]
            rfl
           refine pure_ (i := 30) (N := some 45) (v := ?_) (a' := ?_) (bb [31, 18]) rfl rfl (any_of HT_.out (by kernel_rfl)) (fun _ _ _ h => h) (Or.inl ⟨by rfl, ?_⟩) ?_ ?_
           rotate_left
           ·intro w'
            go_simp
            with_reducible rfl
           rotate_left
           ·simp only [Act.put, List.setIfInBounds_toArray, List.set_cons_zero, List.set_cons_succ, i64_w, i32_w]
            rfl
           refine pure_ (i := 31) (N := some 46) (v := ?_) (a' := ?_) (bb [32, 17]) rfl rfl (any_of HT_.out (by kernel_rfl)) (fun _ _ _ h => h) (Or.inl ⟨by rfl, ?_⟩) ?_ ?_
           rotate_left
           ·intro w'
            go_simp
            with_reducible rfl
           rotate_left
           ·simp only [Act.put, List.setIfInBounds_toArray, List.set_cons_zero, List.set_cons_succ, i64_w, i32_w]
            rfl
           refine pure_ (i := 32) (N := some 47) (v := ?_) (a' := ?_) (bb [33, 16]) rfl rfl (any_of HT_.out (by kernel_rfl)) (fun _ _ _ h => h) (Or.inl ⟨by rfl, ?_⟩) ?_ ?_
           rotate_left
           ·intro w'
            go_simp
            with_reducible rfl
           rotate_left
           ·simp only [Act.put, List.setIfInBounds_toArray, List.set_cons_zero, List.set_cons_succ, i64_w, i32_w]
            rfl
           refine pure_ (i := 33) (N := some 48) (v := ?_) (a' := ?_) (bb [34, 15]) rfl rfl (any_of HT_.out (by kernel_rfl)) (fun _ _ _ h => h) (Or.inl ⟨by rfl, ?_⟩) ?_ ?_
           rotate_left
           ·intro w'
            go_simp
            with_reducible rfl
           rotate_left
           ·simp only [Act.put, List.setIfInBounds_toArray, List.set_cons_zero, List.set_cons_succ, i64_w, i32_w]
            rfl
           refine pure_ (i := 36) (N := some 51) (v := ?_) (a' := ?_) (bb [34, 2, 1, 12]) rfl rfl (any_of HT_.out (by kernel_rfl)) (fun _ _ _ h => h) (Or.inl ⟨by rfl, ?_⟩) ?_ ?_
           rotate_left
           ·intro w'
            go_simp
            with_reducible rfl
           rotate_left
           ·simp only [Act.put, List.setIfInBounds_toArray, List.set_cons_zero, List.set_cons_succ, i64_w, i32_w]
            rfl
           refine pure_ (i := 37) (N := some 52) (v := ?_) (a' := ?_) (bb [34, 2, 2, 11]) rfl rfl (any_of HT_.out (by kernel_rfl)) (fun _ _ _ h => h) (Or.inl ⟨by rfl, ?_⟩) ?_ ?_
           rotate_left
           ·intro w'
            go_simp
            with_reducible rfl
           rotate_left
           ·simp only [Act.put, List.setIfInBounds_toArray, List.set_cons_zero, List.set_cons_succ, i64_w, i32_w]
            rfl
           refine pure_ (i := 38) (N := some 53) (v := ?_) (a' := ?_) (bb [34, 2, 3, 10]) rfl rfl (any_of HT_.out (by kernel_rfl)) (fun _ _ _ h => h) (Or.inl ⟨by rfl, ?_⟩) ?_ ?_
           rotate_left
           ·intro w'
            go_simp
            with_reducible rfl
           rotate_left
           ·simp only [Act.put, List.setIfInBounds_toArray, List.set_cons_zero, List.set_cons_succ, i64_w, i32_w]
            rfl
           refine take_ (i := 34) (N := some 49) (v := ?_) (a' := ?_) (bb [35, 1, 3, 10]) rfl rfl (take_ofW HT_.out HW_.out (by kernel_rfl)) (fun _ _ _ h => h) (Or.inl ⟨by rfl, ?_⟩) hHeld ?_ ?_
           rotate_left
           ·rintro w' ⟨s0, s1, s2, s3, s4, s5, s6, s7⟩
            go_simp
            with_reducible rfl
           rotate_left
           ·simp only [Act.put, List.setIfInBounds_toArray, List.set_cons_zero, List.set_cons_succ, i64_w, i32_w]
            rfl
           refine pure_ (i := 35) (N := some 50) (v := ?_) (a' := ?_) (bb [39, 10]) rfl rfl (any_of HT_.out (by kernel_rfl)) (fun _ _ _ h => h) (Or.inl ⟨by rfl, ?_⟩) ?_ ?_
           rotate_left
           ·intro w'
            go_simp
            with_reducible rfl
           rotate_left
           ·simp only [Act.put, List.setIfInBounds_toArray, List.set_cons_zero, List.set_cons_succ, i64_w, i32_w]
            rfl
           refine take_ (i := 39) (N := some 54) (v := ?_) (a' := ?_) (bb [40, 9]) rfl rfl (take_ofW HT_.out HW_.out (by kernel_rfl)) (fun _ _ _ h => h) (Or.inl ⟨by rfl, ?_⟩) hHeld ?_ ?_
           rotate_left
           ·rintro w' ⟨s0, s1, s2, s3, s4, s5, s6, s7⟩
            go_simp
            with_reducible rfl
           rotate_left
           ·simp only [Act.put, List.setIfInBounds_toArray, List.set_cons_zero, List.set_cons_succ, i64_w, i32_w]
            rfl
           refine pure_ (i := 40) (N := some 55) (v := ?_) (a' := ?_) (bb [41, 8]) rfl rfl (any_of HT_.out (by kernel_rfl)) (fun _ _ _ h => h) (Or.inl ⟨by rfl, ?_⟩) ?_ ?_
           rotate_left
           ·intro w'
            go_simp
            with_reducible rfl
           rotate_left
           ·simp only [Act.put, List.setIfInBounds_toArray, List.set_cons_zero, List.set_cons_succ, i64_w, i32_w]
            rfl
           refine pure_ (i := 41) (N := some 56) (v := ?_) (a' := ?_) (bb [42, 7]) rfl rfl (any_of HT_.out (by kernel_rfl)) (fun _ _ _ h => h) (Or.inl ⟨by rfl, ?_⟩) ?_ ?_
           rotate_left
           ·intro w'
            go_simp
            with_reducible rfl
           rotate_left
           ·simp only [Act.put, List.setIfInBounds_toArray, List.set_cons_zero, List.set_cons_succ, i64_w, i32_w]
            rfl
           refine pure_ (i := 42) (N := some 57) (v := ?_) (a' := ?_) (bb [43, 6]) rfl rfl (any_of HT_.out (by kernel_rfl)) (fun _ _ _ h => h) (Or.inl ⟨by rfl, ?_⟩) ?_ ?_
           rotate_left
           ·intro w'
            go_simp
            with_reducible rfl
           rotate_left
           ·simp only [Act.put, List.setIfInBounds_toArray, List.set_cons_zero, List.set_cons_succ, i64_w, i32_w]
            rfl
           refine pure_ (i := 43) (N := some 58) (v := ?_) (a' := ?_) (bb [44, 5]) rfl rfl (any_of HT_.out (by kernel_rfl)) (fun _ _ _ h => h) (Or.inl ⟨by rfl, ?_⟩) ?_ ?_
           rotate_left
           ·intro w'
            go_simp
            with_reducible rfl
           rotate_left
           ·simp only [Act.put, List.setIfInBounds_toArray, List.set_cons_zero, List.set_cons_succ, i64_w, i32_w]
            rfl
           refine pure_ (i := 44) (N := some 59) (v := ?_) (a' := ?_) (bb [45, 4]) rfl rfl (any_of HT_.out (by kernel_rfl)) (fun _ _ _ h => h) (Or.inl ⟨by rfl, ?_⟩) ?_ ?_
           rotate_left
           ·intro w'
            go_simp
            with_reducible rfl
           rotate_left
           ·simp only [Act.put, List.setIfInBounds_toArray, List.set_cons_zero, List.set_cons_succ, i64_w, i32_w]
            rfl
           refine take_ (i := 45) (N := some 60) (v := ?_) (a' := ?_) (bb [46, 3]) rfl rfl (take_ofW HT_.out HW_.out (by kernel_rfl)) (fun _ _ _ h => h) (Or.inl ⟨by rfl, ?_⟩) hHeld ?_ ?_
           rotate_left
           ·rintro w' ⟨s0, s1, s2, s3, s4, s5, s6, s7⟩
            go_simp
            with_reducible rfl
           rotate_left
           ·simp only [Act.put, List.setIfInBounds_toArray, List.set_cons_zero, List.set_cons_succ, i64_w, i32_w]
            rfl
           refine one_ (i := 46) (N := some 61) (bb [47, 2]) rfl rfl (one_of HT_.out (by kernel_rfl)) (by decide) (fun K hK => ?_)
           refine goes_ Tryz.func50 (by kernel_rfl) rfl #[.int .u64 1099511627776, .slice A112_1 ((rd_T31 l0 x11_1).f1).length c112_1] (by rfl) rfl rfl (by (try simp only [List.map_toArray, List.map_cons, List.map_nil]); first | done | rfl | (simp only [List.length_drop, List.length_take]; rfl)) ?_
           with_reducible refine (spec_small.calls k1 1099511627776 _ _ ((rd_T31 l0 x11_1).f1) t120 _ ?side1 ?side2 A26.out).mono ?_
           (case side1 => repeat (first | exact (Kd.C_below HR112_1.out (by repeat (first | (with_reducible first | exact HB.out | apply below_alloc | apply pw_below_drewN | apply below_drew1 | refine below_set ?_ GE113.out) | exact HB.out))) | (with_reducible refine Kd.C_alloc ?_ _) | (with_reducible refine Kd.C_drewN ?_ _) | (with_reducible refine Kd.C_drew ?_)))
           (case side2 => exact HC112_1.out)
           rintro e w' ⟨rfl, ⟨nd, rfl⟩⟩
           refine ⟨_, rfl, ?_⟩
           refine hK.out _ _ ⟨(blk_cell BK113.out 0).trans rfl, (blk_cell BK113.out 1).trans rfl, (blk_cell BK113.out 2).trans rfl, ((HB.out.cell (World.block_lt_of_cell? w _ hw115_0)).trans hw115_0), ((HB.out.cell (World.block_lt_of_cell? w _ hw117_0)).trans hw117_0), ((HB.out.cell (World.block_lt_of_cell? w _ hw119_0)).trans hw119_0), ((HB.out.cell (World.block_lt_of_cell? w _ hw119_1)).trans hw119_1), ((HB.out.cell (World.block_lt_of_cell? w _ hw119_2)).trans hw119_2)⟩ (fun hHeld => ?_)
           clear hK K
           refine norm_ (a' := ?_) ?_ ?_
           rotate_left
           ·show Act.put _ (some 61) _ = _
            simp only [Act.put, List.setIfInBounds_toArray, List.set_cons_zero, List.set_cons_succ, i64_w, i32_w]
            rfl
           refine pure_ (i := 47) (N := some 62) (v := ?_) (a' := ?_) (bb [48, 1]) rfl rfl (any_of HT_.out (by kernel_rfl)) (fun _ _ _ h => h) (Or.inl ⟨by rfl, ?_⟩) ?_ ?_
           rotate_left
           ·intro w'
            go_simp
            with_reducible rfl
           rotate_left
           ·simp only [Act.put, List.setIfInBounds_toArray, List.set_cons_zero, List.set_cons_succ, i64_w, i32_w]
            rfl
           refine pure_ (i := 48) (N := some 63) (v := ?_) (a' := ?_) (bb [49]) rfl rfl (any_of HT_.out (by kernel_rfl)) (fun _ _ _ h => h) (Or.inl ⟨by rfl, ?_⟩) ?_ ?_
           rotate_left
           ·intro w'
            go_simp
            with_reducible rfl
           rotate_left
           ·simp only [Act.put, List.setIfInBounds_toArray, List.set_cons_zero, List.set_cons_succ, i64_w, i32_w]
            rfl
           refine done_ (done_of HT_.out (by kernel_rfl)) ?_
           try go_wp2
           go_meet
           case rel => exact ⟨_, (!t120), (by first | rfl | (simp; done) | (simp [*]; done)), H', ⟨by have := HK1.out; first | omega | exact Nat.le_refl _⟩, ⟨by (with_reducible repeat (first | refine blk_drewN ?_ _ | refine blk_drew ?_ | refine blk_alloc ?_ _)); exact BK113.out⟩, ⟨by repeat (first | (with_reducible first | exact HB.out | apply below_alloc | apply pw_below_drewN | apply below_drew1 | refine below_set ?_ GE113.out) | exact HB.out)⟩⟩
          ·rw [if_neg c25] at H
           have c25b0 : ((((rd_T31 l0 x11_1).f1).length : Int) == (((rd_T31 l0 0).f1).length : Int)) = false := beq_eq_false_iff_ne.mpr c25
           have c25b1 : ((((rd_T31 l0 x11_1).f1).length : Int) != (((rd_T31 l0 0).f1).length : Int)) = true := bne_iff_ne.mpr c25
           have c25b2 : (((rd_T31 l0 x11_1).f1).length == ((rd_T31 l0 0).f1).length) = false := by first | simpa using c25 | (simp at c25 ⊢; omega)
           have H' := Aside0.mk H
           clear H
           try go_wp2
           have n0_ : Aside0 ((((w6.setCell ⟨gb113, 0, none⟩ (.string ((rd_T31 l0 x11_1).f0))).setCell ⟨gb113, 1, none⟩ (.slice A112_1 ((rd_T31 l0 x11_1).f1).length c112_1)).setCell ⟨gb113, 2, none⟩ (.slice A112_2 ((rd_T31 l0 x11_1).f2).length c112_2)).heap[gb113]? = some (.cells #[.string ((rd_T31 l0 x11_1).f0), .slice A112_1 ((rd_T31 l0 x11_1).f1).length c112_1, .slice A112_2 ((rd_T31 l0 x11_1).f2).length c112_2] 31 (0, 0))) := ⟨by (with_reducible repeat (first | refine blk_drewN ?_ _ | refine blk_drew ?_ | refine blk_alloc ?_ _)); refine blk_put (cs := #[.string ((rd_T31 l0 x11_1).f0), .slice A112_1 ((rd_T31 l0 x11_1).f1).length c112_1, .slice none 0 0]) ?_ 2 _ rfl; (with_reducible repeat (first | refine blk_drewN ?_ _ | refine blk_drew ?_ | refine blk_alloc ?_ _)); refine blk_put (cs := #[.string ((rd_T31 l0 x11_1).f0), .slice none 0 0, .slice none 0 0]) ?_ 1 _ rfl; (with_reducible repeat (first | refine blk_drewN ?_ _ | refine blk_drew ?_ | refine blk_alloc ?_ _)); refine blk_put (cs := #[.string (⟨#[]⟩ : ByteArray), .slice none 0 0, .slice none 0 0]) ?_ 0 _ rfl; (with_reducible repeat (first | refine blk_drewN ?_ _ | refine blk_drew ?_ | refine blk_alloc ?_ _)); exact BK113.out⟩
           have n1_ : Aside0 (Below w.heap.size w (((w6.setCell ⟨gb113, 0, none⟩ (.string ((rd_T31 l0 x11_1).f0))).setCell ⟨gb113, 1, none⟩ (.slice A112_1 ((rd_T31 l0 x11_1).f1).length c112_1)).setCell ⟨gb113, 2, none⟩ (.slice A112_2 ((rd_T31 l0 x11_1).f2).length c112_2))) := ⟨by repeat (first | (with_reducible first | exact HB.out | apply below_alloc | apply pw_below_drewN | apply below_drew1 | refine below_set ?_ GE113.out) | exact HB.out)⟩
           (try clear BK113)
           (try clear HB)
           generalize (((w6.setCell ⟨gb113, 0, none⟩ (.string ((rd_T31 l0 x11_1).f0))).setCell ⟨gb113, 1, none⟩ (.slice A112_1 ((rd_T31 l0 x11_1).f1).length c112_1)).setCell ⟨gb113, 2, none⟩ (.slice A112_2 ((rd_T31 l0 x11_1).f2).length c112_2)) = w29 at n0_ n1_ ⊢
           have BK113 := n0_
           have HB := n1_
           clear n0_ n1_
           have n0_ := Aside0.mk (blk_drew BK113.out)
           have n1_ := Aside0.mk (below_drew1 HB.out)
           clear BK113
           clear HB
           have BK113 := n0_
           have HB := n1_
           clear n0_ n1_
           have p115 : 0 ≤ (0 : Int) := (by omega)
           have q115 : 0 < (((rd_T31 l0 x11_1).f2).length : Int) := of_decide_eq_true (by first | (with_reducible assumption) | assumption)
           obtain ⟨ad115, e115, hx115_0⟩ := Kd.at_string HR112_2.out 0 p115 q115
           have hw115_0 := hx115_0
           (try rw [show ((0 : Int)).toNat = 0 from rfl] at hw115_0)
           (try rw [show 0 * 1 = 0 from rfl] at hw115_0)
           (try rw [Addr.add_zero'] at hw115_0)
           cases e115
           have qi115 : (0 < ((rd_T31 l0 x11_1).f2).length) = True := eq_true (by omega)
           (try rw [show ((0 : Int)).toNat = 0 from rfl] at hx115_0)
           (try rw [Addr.add_zero'] at hx115_0)
           replace hx115_0 := (HB.out.cell (World.block_lt_of_cell? w _ hx115_0)).trans hx115_0
           replace p115 := eq_true p115
           replace q115 := eq_true q115
           have p117 : 0 ≤ (1 : Int) := (by omega)
           have q117 : 1 < (((rd_T31 l0 x11_1).f2).length : Int) := of_decide_eq_true (by first | (with_reducible assumption) | assumption)
           obtain ⟨ad117, e117, hx117_0⟩ := Kd.at_string HR112_2.out 1 p117 q117
           have hw117_0 := hx117_0
           (try rw [show ((1 : Int)).toNat = 1 from rfl] at hw117_0)
           (try rw [show 1 * 1 = 1 from rfl] at hw117_0)
           (try simp only [Nat.reduceMul, Nat.reduceEqDiff, Go.Addr.add, ↓reduceIte] at hw117_0)
           obtain rfl : ad115 = ad117 := (by injection e117)
           (try simp only [show (1 : Int).toNat = 1 from rfl, Nat.reduceMul, Nat.reduceEqDiff, Go.Addr.add, ↓reduceIte] at hx117_0)
           have qi117 : (1 < ((rd_T31 l0 x11_1).f2).length) = True := eq_true (by omega)
           (try rw [show ((1 : Int)).toNat = 1 from rfl] at hx117_0)
           replace hx117_0 := (HB.out.cell (World.block_lt_of_cell? w _ hx117_0)).trans hx117_0
           replace p117 := eq_true p117
           replace q117 := eq_true q117
           have p119 : 0 ≤ (0 : Int) := (by omega)
           have q119 : 0 < (l0.length : Int) := of_decide_eq_true (by first | (with_reducible assumption) | assumption)
           obtain ⟨ad119, A119_1, c119_1, A119_2, c119_2, e119, hx119_0, hx119_1, hx119_2, hl119_1, hi119_1, hl119_2, hi119_2⟩ := at_T31 HR0.out 0 p119 q119
           have hw119_2 := hx119_2
           (try rw [show ((0 : Int)).toNat = 0 from rfl] at hw119_2)
           (try rw [show 0 * 3 = 0 from rfl] at hw119_2)
           (try rw [Addr.add_zero'] at hw119_2)
           have hw119_1 := hx119_1
           (try rw [show ((0 : Int)).toNat = 0 from rfl] at hw119_1)
           (try rw [show 0 * 3 = 0 from rfl] at hw119_1)
           (try rw [Addr.add_zero'] at hw119_1)
           have hw119_0 := hx119_0
           (try rw [show ((0 : Int)).toNat = 0 from rfl] at hw119_0)
           (try rw [show 0 * 3 = 0 from rfl] at hw119_0)
           (try rw [Addr.add_zero'] at hw119_0)
           obtain rfl : ad112 = ad119 := (by injection e119)
           have qi119 : (0 < l0.length) = True := eq_true (by omega)
           (try rw [show ((0 : Int)).toNat = 0 from rfl] at hx119_0)
           (try rw [show 0 * 3 = 0 from rfl] at hx119_0)
           (try rw [Addr.add_zero'] at hx119_0)
           (try rw [show ((0 : Int)).toNat = 0 from rfl] at hx119_1)
           (try rw [show 0 * 3 = 0 from rfl] at hx119_1)
           (try rw [Addr.add_zero'] at hx119_1)
           (try rw [show ((0 : Int)).toNat = 0 from rfl] at hx119_2)
           (try rw [show 0 * 3 = 0 from rfl] at hx119_2)
           (try rw [Addr.add_zero'] at hx119_2)
           replace hx119_0 := (HB.out.cell (World.block_lt_of_cell? w _ hx119_0)).trans hx119_0
           replace hx119_1 := (HB.out.cell (World.block_lt_of_cell? w _ hx119_1)).trans hx119_1
           replace hx119_2 := (HB.out.cell (World.block_lt_of_cell? w _ hx119_2)).trans hx119_2
           have HR119_1 := Aside0.mk hi119_1
           have HC119_1 := Aside0.mk hl119_1
           clear hi119_1 hl119_1
           have HR119_2 := Aside0.mk hi119_2
           have HC119_2 := Aside0.mk hl119_2
           clear hi119_2 hl119_2
           replace p119 := eq_true p119
           replace q119 := eq_true q119
           refine start_ (n := 49) (S := fun w' => w'.cell? ⟨gb113, 0, none⟩ = some (.string ((rd_T31 l0 x11_1).f0)) ∧ w'.cell? ⟨gb113, 1, none⟩ = some (.slice A112_1 ((rd_T31 l0 x11_1).f1).length c112_1) ∧ w'.cell? ⟨gb113, 2, none⟩ = some (.slice (some ad115) ((rd_T31 l0 x11_1).f2).length c112_2) ∧ w'.cell? ad115 = some (.string (rdOf ByteArray.empty ((rd_T31 l0 x11_1).f2) 0)) ∧ w'.cell? ⟨ad115.block, ad115.off + 1, none⟩ = some (.string (rdOf ByteArray.empty ((rd_T31 l0 x11_1).f2) 1)) ∧ w'.cell? ad112 = some (.string ((rd_T31 l0 0).f0)) ∧ w'.cell? ⟨ad112.block, ad112.off + 1, none⟩ = some (.slice A119_1 ((rd_T31 l0 0).f1).length c119_1) ∧ w'.cell? ⟨ad112.block, ad112.off + 2, none⟩ = some (.slice A119_2 ((rd_T31 l0 0).f2).length c119_2)) (ds := []) (bb [0, 49]) (by kernel_rfl) rfl rfl ⟨(blk_cell BK113.out 0).trans rfl, (blk_cell BK113.out 1).trans rfl, (blk_cell BK113.out 2).trans rfl, ((HB.out.cell (World.block_lt_of_cell? w _ hw115_0)).trans hw115_0), ((HB.out.cell (World.block_lt_of_cell? w _ hw117_0)).trans hw117_0), ((HB.out.cell (World.block_lt_of_cell? w _ hw119_0)).trans hw119_0), ((HB.out.cell (World.block_lt_of_cell? w _ hw119_1)).trans hw119_1), ((HB.out.cell (World.block_lt_of_cell? w _ hw119_2)).trans hw119_2)⟩ (fun hHeld => ?_); refine with_tabW spec_BuddyinfoPrint.tab5 spec_BuddyinfoPrint.bits5 (fun HT_ HW_ => ?_)
           generalize w29.drew = w30 at BK113 HB HR119_1 HR119_2 hx115_0 hx117_0 hx119_0 hx119_1 hx119_2 hHeld ⊢
           refine pure_ (i := 0) (N := some 15) (v := ?_) (a' := ?_) (bb [1, 48]) rfl rfl (any_of HT_.out (by kernel_rfl)) (fun _ _ _ h => h) (Or.inl ⟨by rfl, ?_⟩) ?_ ?_
           rotate_left
           ·intro w'
            go_simp
            with_reducible rfl
           rotate_left
           ·simp only [Act.put, List.setIfInBounds_toArray, List.set_cons_zero, List.set_cons_succ, i64_w, i32_w]
            rfl
           refine take_ (i := 1) (N := some 16) (v := ?_) (a' := ?_) (bb [2, 47]) rfl rfl (take_ofW HT_.out HW_.out (by kernel_rfl)) (fun _ _ _ h => h) (Or.inl ⟨by rfl, ?_⟩) hHeld ?_ ?_
           rotate_left
           ·rintro w' ⟨s0, s1, s2, s3, s4, s5, s6, s7⟩
            go_simp
            with_reducible rfl
           rotate_left
           ·simp only [Act.put, List.setIfInBounds_toArray, List.set_cons_zero, List.set_cons_succ, i64_w, i32_w]
            rfl
           refine pure_ (i := 2) (N := some 17) (v := ?_) (a' := ?_) (bb [3, 46]) rfl rfl (any_of HT_.out (by kernel_rfl)) (fun _ _ _ h => h) (Or.inl ⟨by rfl, ?_⟩) ?_ ?_
           rotate_left
           ·intro w'
            go_simp
            with_reducible rfl
           rotate_left
           ·simp only [Act.put, List.setIfInBounds_toArray, List.set_cons_zero, List.set_cons_succ, i64_w, i32_w]
            rfl
           refine pure_ (i := 3) (N := some 18) (v := ?_) (a' := ?_) (bb [4, 45]) rfl rfl (any_of HT_.out (by kernel_rfl)) (fun _ _ _ h => h) (Or.inl ⟨by rfl, ?_⟩) ?_ ?_
           rotate_left
           ·intro w'
            go_simp
            with_reducible rfl
           rotate_left
           ·simp only [Act.put, List.setIfInBounds_toArray, List.set_cons_zero, List.set_cons_succ, i64_w, i32_w]
            rfl
           refine pure_ (i := 4) (N := some 19) (v := ?_) (a' := ?_) (bb [5, 44]) rfl rfl (any_of HT_.out (by kernel_rfl)) (fun _ _ _ h => h) (Or.inl ⟨by rfl, ?_⟩) ?_ ?_
           rotate_left
           ·intro w'
            go_simp
            with_reducible rfl
           rotate_left
           ·simp only [Act.put, List.setIfInBounds_toArray, List.set_cons_zero, List.set_cons_succ, i64_w, i32_w]
            rfl
           refine pure_ (i := 5) (N := some 20) (v := ?_) (a' := ?_) (bb [6, 43]) rfl rfl (any_of HT_.out (by kernel_rfl)) (fun _ _ _ h => h) (Or.inl ⟨by rfl, ?_⟩) ?_ ?_
           rotate_left
           ·intro w'
            go_simp
            with_reducible rfl
           rotate_left
           ·simp only [Act.put, List.setIfInBounds_toArray, List.set_cons_zero, List.set_cons_succ, i64_w, i32_w]
            rfl
           refine take_ (i := 6) (N := some 21) (v := ?_) (a' := ?_) (bb [7, 42]) rfl rfl (take_ofW HT_.out HW_.out (by kernel_rfl)) (fun _ _ _ h => h) (Or.inl ⟨by rfl, ?_⟩) hHeld ?_ ?_
           rotate_left
           ·rintro w' ⟨s0, s1, s2, s3, s4, s5, s6, s7⟩
            go_simp
            with_reducible rfl
           rotate_left
           ·simp only [Act.put, List.setIfInBounds_toArray, List.set_cons_zero, List.set_cons_succ, i64_w, i32_w]
            rfl
           refine one_ (i := 7) (N := some 22) (bb [8, 41]) rfl rfl (one_of HT_.out (by kernel_rfl)) (by decide) (fun K hK => ?_)
           refine goes_ Tryz.func62 (by kernel_rfl) rfl #[.slice (some ad115) ((rd_T31 l0 x11_1).f2).length c112_2] (by rfl) rfl rfl (by (try simp only [List.map_toArray, List.map_cons, List.map_nil]); first | done | rfl | (simp only [List.length_drop, List.length_take]; rfl)) ?_
           with_reducible refine (spec_words.calls k1 _ _ ((rd_T31 l0 x11_1).f2) true _ ?side1 ?side2 A9.out).mono ?_
           (case side1 => repeat (first | exact (Kd.C_below HR112_2.out HB.out) | (with_reducible refine Kd.C_alloc ?_ _) | (with_reducible refine Kd.C_drewN ?_ _) | (with_reducible refine Kd.C_drew ?_)))
           (case side2 => exact HC112_2.out)
           rintro e w' ⟨rfl, ⟨nd, rfl⟩⟩
           refine ⟨_, rfl, ?_⟩
           refine hK.out _ _ ⟨(blk_cell BK113.out 0).trans rfl, (blk_cell BK113.out 1).trans rfl, (blk_cell BK113.out 2).trans rfl, ((HB.out.cell (World.block_lt_of_cell? w _ hw115_0)).trans hw115_0), ((HB.out.cell (World.block_lt_of_cell? w _ hw117_0)).trans hw117_0), ((HB.out.cell (World.block_lt_of_cell? w _ hw119_0)).trans hw119_0), ((HB.out.cell (World.block_lt_of_cell? w _ hw119_1)).trans hw119_1), ((HB.out.cell (World.block_lt_of_cell? w _ hw119_2)).trans hw119_2)⟩ (fun hHeld => ?_)
           clear hK K
           refine norm_ (a' := ?_) ?_ ?_
           rotate_left
           ·show Act.put _ (some 22) _ = _
            simp only [Act.put, List.setIfInBounds_toArray, List.set_cons_zero, List.set_cons_succ, i64_w, i32_w]
            rfl
           refine pure_ (i := 8) (N := some 23) (v := ?_) (a' := ?_) (bb [9, 40]) rfl rfl (any_of HT_.out (by kernel_rfl)) (fun _ _ _ h => h) (Or.inl ⟨by rfl, ?_⟩) ?_ ?_
           rotate_left
           ·intro w'
            go_simp
            with_reducible rfl
           rotate_left
           ·simp only [Act.put, List.setIfInBounds_toArray, List.set_cons_zero, List.set_cons_succ, i64_w, i32_w]
            rfl
           refine pure_ (i := 9) (N := some 24) (v := ?_) (a' := ?_) (bb [10, 39]) rfl rfl (any_of HT_.out (by kernel_rfl)) (fun _ _ _ h => h) (Or.inl ⟨by rfl, ?_⟩) ?_ ?_
           rotate_left
           ·intro w'
            go_simp
            with_reducible rfl
           rotate_left
           ·simp only [Act.put, List.setIfInBounds_toArray, List.set_cons_zero, List.set_cons_succ, i64_w, i32_w]
            rfl
           refine pure_ (i := 10) (N := some 25) (v := ?_) (a' := ?_) (bb [11, 38]) rfl rfl (any_of HT_.out (by kernel_rfl)) (fun _ _ _ h => h) (Or.inl ⟨by rfl, ?_⟩) ?_ ?_
           rotate_left
           ·intro w'
            go_simp
            with_reducible rfl
           rotate_left
           ·simp only [Act.put, List.setIfInBounds_toArray, List.set_cons_zero, List.set_cons_succ, i64_w, i32_w]
            rfl
           refine pure_ (i := 11) (N := some 26) (v := ?_) (a' := ?_) (bb [12, 37]) rfl rfl (any_of HT_.out (by kernel_rfl)) (fun _ _ _ h => h) (Or.inl ⟨by rfl, ?_⟩) ?_ ?_
           rotate_left
           ·intro w'
            go_simp
            with_reducible rfl
           rotate_left
           ·simp only [Act.put, List.setIfInBounds_toArray, List.set_cons_zero, List.set_cons_succ, i64_w, i32_w]
            rfl
           refine take_ (i := 12) (N := some 27) (v := ?_) (a' := ?_) (bb [13, 36]) rfl rfl (take_ofW HT_.out HW_.out (by kernel_rfl)) (fun _ _ _ h => h) (Or.inl ⟨by rfl, ?_⟩) hHeld ?_ ?_
           rotate_left
           ·rintro w' ⟨s0, s1, s2, s3, s4, s5, s6, s7⟩
            go_simp
            with_reducible rfl
           rotate_left
           ·simp only [Act.put, List.setIfInBounds_toArray, List.set_cons_zero, List.set_cons_succ, i64_w, i32_w]
            rfl
           refine pure_ (i := 13) (N := some 28) (v := ?_) (a' := ?_) (bb [14, 35]) rfl rfl (any_of HT_.out (by kernel_rfl)) (fun _ _ _ h => h) (Or.inl ⟨by rfl, ?_⟩) ?_ ?_
           rotate_left
           ·intro w'
            go_simp
            with_reducible rfl
           rotate_left
           ·simp only [Act.put, List.setIfInBounds_toArray, List.set_cons_zero, List.set_cons_succ, i64_w, i32_w]
            rfl
           refine take_ (i := 14) (N := some 29) (v := ?_) (a' := ?_) (bb [15, 34]) rfl rfl (take_ofW HT_.out HW_.out (by kernel_rfl)) (fun _ _ _ h => h) (Or.inl ⟨by rfl, ?_⟩) hHeld ?_ ?_
           rotate_left
           ·rintro w' ⟨s0, s1, s2, s3, s4, s5, s6, s7⟩
            go_simp
            with_reducible rfl
           rotate_left
           ·simp only [Act.put, List.setIfInBounds_toArray, List.set_cons_zero, List.set_cons_succ, i64_w, i32_w]
            rfl
           refine one_ (i := 15) (N := some 30) (bb [16, 33]) rfl rfl (one_of HT_.out (by kernel_rfl)) (by decide) (fun K hK => ?_)
           refine goes_ Tryz.func63 (by kernel_rfl) rfl #[.string (rdOf ByteArray.empty ((rd_T31 l0 x11_1).f2) 0), .int .u8 44] (by rfl) rfl rfl (by (try simp only [List.map_toArray, List.map_cons, List.map_nil]); first | done | rfl | (simp only [List.length_drop, List.length_take]; rfl)) ?_
           with_reducible refine (spec_Where.calls k1 (rdOf ByteArray.empty ((rd_T31 l0 x11_1).f2) 0) 44 t116 _ A12.out).mono ?_
           rintro e w' ⟨rfl, ⟨nd, rfl⟩⟩
           refine ⟨_, rfl, ?_⟩
           refine hK.out _ _ ⟨(blk_cell BK113.out 0).trans rfl, (blk_cell BK113.out 1).trans rfl, (blk_cell BK113.out 2).trans rfl, ((HB.out.cell (World.block_lt_of_cell? w _ hw115_0)).trans hw115_0), ((HB.out.cell (World.block_lt_of_cell? w _ hw117_0)).trans hw117_0), ((HB.out.cell (World.block_lt_of_cell? w _ hw119_0)).trans hw119_0), ((HB.out.cell (World.block_lt_of_cell? w _ hw119_1)).trans hw119_1), ((HB.out.cell (World.block_lt_of_cell? w _ hw119_2)).trans hw119_2)⟩ (fun hHeld => ?_)
           clear hK K
           refine norm_ (a' := ?_) ?_ ?_
           rotate_left
           ·show Act.put _ (some 30) _ = _
            simp only [Act.put, List.setIfInBounds_toArray, List.set_cons_zero, List.set_cons_succ, i64_w, i32_w]
            rfl
           refine pure_ (i := 16) (N := some 31) (v := ?_) (a' := ?_) (bb [17, 32]) rfl rfl (any_of HT_.out (by kernel_rfl)) (fun _ _ _ h => h) (Or.inl ⟨by rfl, ?_⟩) ?_ ?_
           rotate_left
           ·intro w'
            go_simp
            with_reducible rfl
           rotate_left
           ·simp only [Act.put, List.setIfInBounds_toArray, List.set_cons_zero, List.set_cons_succ, i64_w, i32_w]
            rfl
           refine pure_ (i := 17) (N := some 32) (v := ?_) (a' := ?_) (bb [18, 31]) rfl rfl (any_of HT_.out (by kernel_rfl)) (fun _ _ _ h => h) (Or.inl ⟨by rfl, ?_⟩) ?_ ?_
           rotate_left
           ·intro w'
            go_simp
            with_reducible rfl
           rotate_left
           ·simp only [Act.put, List.setIfInBounds_toArray, List.set_cons_zero, List.set_cons_succ, i64_w, i32_w]
            rfl
           refine pure_ (i := 18) (N := some 33) (v := ?_) (a' := ?_) (bb [19, 30]) rfl rfl (any_of HT_.out (by kernel_rfl)) (fun _ _ _ h => h) (Or.inl ⟨by rfl, ?_⟩) ?_ ?_
           rotate_left
           ·intro w'
            go_simp
            with_reducible rfl
           rotate_left
           ·simp only [Act.put, List.setIfInBounds_toArray, List.set_cons_zero, List.set_cons_succ, i64_w, i32_w]
            rfl
           refine pure_ (i := 19) (N := some 34) (v := ?_) (a' := ?_) (bb [20, 29]) rfl rfl (any_of HT_.out (by kernel_rfl)) (fun _ _ _ h => h) (Or.inl ⟨by rfl, ?_⟩) ?_ ?_
           rotate_left
           ·intro w'
            go_simp
            with_reducible rfl
           rotate_left
           ·simp only [Act.put, List.setIfInBounds_toArray, List.set_cons_zero, List.set_cons_succ, i64_w, i32_w]
            rfl
           refine take_ (i := 20) (N := some 35) (v := ?_) (a' := ?_) (bb [21, 28]) rfl rfl (take_ofW HT_.out HW_.out (by kernel_rfl)) (fun _ _ _ h => h) (Or.inl ⟨by rfl, ?_⟩) hHeld ?_ ?_
           rotate_left
           ·rintro w' ⟨s0, s1, s2, s3, s4, s5, s6, s7⟩
            go_simp
            with_reducible rfl
           rotate_left
           ·simp only [Act.put, List.setIfInBounds_toArray, List.set_cons_zero, List.set_cons_succ, i64_w, i32_w]
            rfl
           refine pure_ (i := 21) (N := some 36) (v := ?_) (a' := ?_) (bb [22, 27]) rfl rfl (any_of HT_.out (by kernel_rfl)) (fun _ _ _ h => h) (Or.inl ⟨by rfl, ?_⟩) ?_ ?_
           rotate_left
           ·intro w'
            go_simp
            with_reducible rfl
           rotate_left
           ·simp only [Act.put, List.setIfInBounds_toArray, List.set_cons_zero, List.set_cons_succ, i64_w, i32_w]
            rfl
           refine take_ (i := 22) (N := some 37) (v := ?_) (a' := ?_) (bb [23, 26]) rfl rfl (take_ofW HT_.out HW_.out (by kernel_rfl)) (fun _ _ _ h => h) (Or.inl ⟨by rfl, ?_⟩) hHeld ?_ ?_
           rotate_left
           ·rintro w' ⟨s0, s1, s2, s3, s4, s5, s6, s7⟩
            go_simp
            with_reducible rfl
           rotate_left
           ·simp only [Act.put, List.setIfInBounds_toArray, List.set_cons_zero, List.set_cons_succ, i64_w, i32_w]
            rfl
           refine one_ (i := 23) (N := some 38) (bb [24, 25]) rfl rfl (one_of HT_.out (by kernel_rfl)) (by decide) (fun K hK => ?_)
           refine goes_ Tryz.func63 (by kernel_rfl) rfl #[.string (rdOf ByteArray.empty ((rd_T31 l0 x11_1).f2) 1), .int .u8 44] (by rfl) rfl rfl (by (try simp only [List.map_toArray, List.map_cons, List.map_nil]); first | done | rfl | (simp only [List.length_drop, List.length_take]; rfl)) ?_
           with_reducible refine (spec_Where.calls k1 (rdOf ByteArray.empty ((rd_T31 l0 x11_1).f2) 1) 44 t118 _ A17.out).mono ?_
           rintro e w' ⟨rfl, ⟨nd, rfl⟩⟩
           refine ⟨_, rfl, ?_⟩
           refine hK.out _ _ ⟨(blk_cell BK113.out 0).trans rfl, (blk_cell BK113.out 1).trans rfl, (blk_cell BK113.out 2).trans rfl, ((HB.out.cell (World.block_lt_of_cell? w _ hw115_0)).trans hw115_0), ((HB.out.cell (World.block_lt_of_cell? w _ hw117_0)).trans hw117_0), ((HB.out.cell (World.block_lt_of_cell? w _ hw119_0)).trans hw119_0), ((HB.out.cell (World.block_lt_of_cell? w _ hw119_1)).trans hw119_1), ((HB.out.cell (World.block_lt_of_cell? w _ hw119_2)).trans hw119_2)⟩ (fun hHeld => ?_)
           clear hK K
           refine norm_ (a' := ?_) ?_ ?_
           rotate_left
           ·show Act.put _ (some 38) _ = _
            simp only [Act.put, List.setIfInBounds_toArray, List.set_cons_zero, List.set_cons_succ, i64_w, i32_w]
            rfl
           refine pure_ (i := 24) (N := some 39) (v := ?_) (a' := ?_) (bb [25, 24]) rfl rfl (any_of HT_.out (by kernel_rfl)) (fun _ _ _ h => h) (Or.inl ⟨by rfl, ?_⟩) ?_ ?_
           rotate_left
           ·intro w'
            go_simp
            with_reducible rfl
           rotate_left
           ·simp only [Act.put, List.setIfInBounds_toArray, List.set_cons_zero, List.set_cons_succ, i64_w, i32_w]
            rfl
           refine pure_ (i := 25) (N := some 40) (v := ?_) (a' := ?_) (bb [26, 23]) rfl rfl (any_of HT_.out (by kernel_rfl)) (fun _ _ _ h => h) (Or.inl ⟨by rfl, ?_⟩) ?_ ?_
           rotate_left
           ·intro w'
            go_simp
            with_reducible rfl
           rotate_left
           ·simp only [Act.put, List.setIfInBounds_toArray, List.set_cons_zero, List.set_cons_succ, i64_w, i32_w]
            rfl
           refine pure_ (i := 26) (N := some 41) (v := ?_) (a' := ?_) (bb [27, 22]) rfl rfl (any_of HT_.out (by kernel_rfl)) (fun _ _ _ h => h) (Or.inl ⟨by rfl, ?_⟩) ?_ ?_
           rotate_left
           ·intro w'
            go_simp
            with_reducible rfl
           rotate_left
           ·simp only [Act.put, List.setIfInBounds_toArray, List.set_cons_zero, List.set_cons_succ, i64_w, i32_w]
            rfl
           refine pure_ (i := 27) (N := some 42) (v := ?_) (a' := ?_) (bb [28, 21]) rfl rfl (any_of HT_.out (by kernel_rfl)) (fun _ _ _ h => h) (Or.inl ⟨by rfl, ?_⟩) ?_ ?_
           rotate_left
           ·intro w'
            go_simp
            with_reducible rfl
           rotate_left
           ·simp only [Act.put, List.setIfInBounds_toArray, List.set_cons_zero, List.set_cons_succ, i64_w, i32_w]
            rfl
           refine take_ (i := 28) (N := some 43) (v := ?_) (a' := ?_) (bb [29, 20]) rfl rfl (take_ofW HT_.out HW_.out (by kernel_rfl)) (fun _ _ _ h => h) (Or.inl ⟨by rfl, ?_⟩) hHeld ?_ ?_
           rotate_left
           ·rintro w' ⟨s0, s1, s2, s3, s4, s5, s6, s7⟩
            go_simp
            with_reducible rfl
           rotate_left
           ·simp only [Act.put, List.setIfInBounds_toArray, List.set_cons_zero, List.set_cons_succ, i64_w, i32_w]
            rfl
           refine pure_ (i := 29) (N := some 44) (v := ?_) (a' := ?_) (bb [30, 19]) rfl rfl (any_of HT_.out (by kernel_rfl)) (fun _ _ _ h => h) (Or.inl ⟨by rfl, ?_⟩) ?_ ?_
           rotate_left
           ·intro w'
            go_simp
            with_reducible rfl
           rotate_left
           ·simp only [Act.put, List.setIfInBounds_toArray, List.set_cons_zero, List.set_cons_succ, i64_w, i32_w]
            rfl
           refine pure_ (i := 30) (N := some 45) (v := ?_) (a' := ?_) (bb [31, 18]) rfl rfl (any_of HT_.out (by kernel_rfl)) (fun _ _ _ h => h) (Or.inl ⟨by rfl, ?_⟩) ?_ ?_
           rotate_left
           ·intro w'
            go_simp
            with_reducible rfl
           rotate_left
           ·simp only [Act.put, List.setIfInBounds_toArray, List.set_cons_zero, List.set_cons_succ, i64_w, i32_w]
            rfl
           refine pure_ (i := 31) (N := some 46) (v := ?_) (a' := ?_) (bb [32, 17]) rfl rfl (any_of HT_.out (by kernel_rfl)) (fun _ _ _ h => h) (Or.inl ⟨by rfl, ?_⟩) ?_ ?_
           rotate_left
           ·intro w'
            go_simp
            with_reducible rfl
           rotate_left
           ·simp only [Act.put, List.setIfInBounds_toArray, List.set_cons_zero, List.set_cons_succ, i64_w, i32_w]
            rfl
           refine pure_ (i := 32) (N := some 47) (v := ?_) (a' := ?_) (bb [33, 16]) rfl rfl (any_of HT_.out (by kernel_rfl)) (fun _ _ _ h => h) (Or.inl ⟨by rfl, ?_⟩) ?_ ?_
           rotate_left
           ·intro w'
            go_simp
            with_reducible rfl
           rotate_left
           ·simp only [Act.put, List.setIfInBounds_toArray, List.set_cons_zero, List.set_cons_succ, i64_w, i32_w]
            rfl
           refine pure_ (i := 33) (N := some 48) (v := ?_) (a' := ?_) (bb [34, 15]) rfl rfl (any_of HT_.out (by kernel_rfl)) (fun _ _ _ h => h) (Or.inl ⟨by rfl, ?_⟩) ?_ ?_
           rotate_left
           ·intro w'
            go_simp
            with_reducible rfl
           rotate_left
           ·simp only [Act.put, List.setIfInBounds_toArray, List.set_cons_zero, List.set_cons_succ, i64_w, i32_w]
            rfl
           refine pure_ (i := 36) (N := some 51) (v := ?_) (a' := ?_) (bb [34, 2, 1, 12]) rfl rfl (any_of HT_.out (by kernel_rfl)) (fun _ _ _ h => h) (Or.inl ⟨by rfl, ?_⟩) ?_ ?_
           rotate_left
           ·intro w'
            go_simp
            with_reducible rfl
           rotate_left
           ·simp only [Act.put, List.setIfInBounds_toArray, List.set_cons_zero, List.set_cons_succ, i64_w, i32_w]
            rfl
           refine pure_ (i := 37) (N := some 52) (v := ?_) (a' := ?_) (bb [34, 2, 2, 11]) rfl rfl (any_of HT_.out (by kernel_rfl)) (fun _ _ _ h => h) (Or.inl ⟨by rfl, ?_⟩) ?_ ?_
           rotate_left
           ·intro w'
            go_simp
            with_reducible rfl
           rotate_left
           ·simp only [Act.put, List.setIfInBounds_toArray, List.set_cons_zero, List.set_cons_succ, i64_w, i32_w]
            rfl
           refine pure_ (i := 38) (N := some 53) (v := ?_) (a' := ?_) (bb [34, 2, 3, 10]) rfl rfl (any_of HT_.out (by kernel_rfl)) (fun _ _ _ h => h) (Or.inl ⟨by rfl, ?_⟩) ?_ ?_
           rotate_left
           ·intro w'
            go_simp
            with_reducible rfl
           rotate_left
           ·simp only [Act.put, List.setIfInBounds_toArray, List.set_cons_zero, List.set_cons_succ, i64_w, i32_w]
            rfl
           refine take_ (i := 34) (N := some 49) (v := ?_) (a' := ?_) (bb [35, 1, 3, 10]) rfl rfl (take_ofW HT_.out HW_.out (by kernel_rfl)) (fun _ _ _ h => h) (Or.inl ⟨by rfl, ?_⟩) hHeld ?_ ?_
           rotate_left
           ·rintro w' ⟨s0, s1, s2, s3, s4, s5, s6, s7⟩
            go_simp
            with_reducible rfl
           rotate_left
           ·simp only [Act.put, List.setIfInBounds_toArray, List.set_cons_zero, List.set_cons_succ, i64_w, i32_w]
            rfl
           refine pure_ (i := 35) (N := some 50) (v := ?_) (a' := ?_) (bb [39, 10]) rfl rfl (any_of HT_.out (by kernel_rfl)) (fun _ _ _ h => h) (Or.inl ⟨by rfl, ?_⟩) ?_ ?_
           rotate_left
           ·intro w'
            go_simp
            with_reducible rfl
           rotate_left
           ·simp only [Act.put, List.setIfInBounds_toArray, List.set_cons_zero, List.set_cons_succ, i64_w, i32_w]
            rfl
           refine take_ (i := 39) (N := some 54) (v := ?_) (a' := ?_) (bb [40, 9]) rfl rfl (take_ofW HT_.out HW_.out (by kernel_rfl)) (fun _ _ _ h => h) (Or.inl ⟨by rfl, ?_⟩) hHeld ?_ ?_
           rotate_left
           ·rintro w' ⟨s0, s1, s2, s3, s4, s5, s6, s7⟩
            go_simp
            with_reducible rfl
           rotate_left
           ·simp only [Act.put, List.setIfInBounds_toArray, List.set_cons_zero, List.set_cons_succ, i64_w, i32_w]
            rfl
           refine pure_ (i := 40) (N := some 55) (v := ?_) (a' := ?_) (bb [41, 8]) rfl rfl (any_of HT_.out (by kernel_rfl)) (fun _ _ _ h => h) (Or.inl ⟨by rfl, ?_⟩) ?_ ?_
           rotate_left
           ·intro w'
            go_simp
            with_reducible rfl
           rotate_left
           ·simp only [Act.put, List.setIfInBounds_toArray, List.set_cons_zero, List.set_cons_succ, i64_w, i32_w]
            rfl
           refine pure_ (i := 41) (N := some 56) (v := ?_) (a' := ?_) (bb [42, 7]) rfl rfl (any_of HT_.out (by kernel_rfl)) (fun _ _ _ h => h) (Or.inl ⟨by rfl, ?_⟩) ?_ ?_
           rotate_left
           ·intro w'
            go_simp
            with_reducible rfl
           rotate_left
           ·simp only [Act.put, List.setIfInBounds_toArray, List.set_cons_zero, List.set_cons_succ, i64_w, i32_w]
            rfl
           refine pure_ (i := 42) (N := some 57) (v := ?_) (a' := ?_) (bb [43, 6]) rfl rfl (any_of HT_.out (by kernel_rfl)) (fun _ _ _ h => h) (Or.inl ⟨by rfl, ?_⟩) ?_ ?_
           rotate_left
           ·intro w'
            go_simp
            with_reducible rfl
           rotate_left
           ·simp only [Act.put, List.setIfInBounds_toArray, List.set_cons_zero, List.set_cons_succ, i64_w, i32_w]
            rfl
           refine pure_ (i := 43) (N := some 58) (v := ?_) (a' := ?_) (bb [44, 5]) rfl rfl (any_of HT_.out (by kernel_rfl)) (fun _ _ _ h => h) (Or.inl ⟨by rfl, ?_⟩) ?_ ?_
           rotate_left
           ·intro w'
            go_simp
            with_reducible rfl
           rotate_left
           ·simp only [Act.put, List.setIfInBounds_toArray, List.set_cons_zero, List.set_cons_succ, i64_w, i32_w]
            rfl
           refine pure_ (i := 44) (N := some 59) (v := undef) (a' := ?_) (bb [45, 4]) rfl rfl (any_of HT_.out (by kernel_rfl)) (fun _ _ _ h => h) (Or.inr ⟨by rfl, rfl⟩) ?_ ?_
           rotate_left
           ·simp only [Act.put, List.setIfInBounds_toArray, List.set_cons_zero, List.set_cons_succ, i64_w, i32_w]
            rfl
           refine pure_ (i := 45) (N := some 60) (v := undef) (a' := ?_) (bb [46, 3]) rfl rfl (any_of HT_.out (by kernel_rfl)) (fun _ _ _ h => h) (Or.inr ⟨by rfl, rfl⟩) ?_ ?_
           rotate_left
           ·simp only [Act.put, List.setIfInBounds_toArray, List.set_cons_zero, List.set_cons_succ, i64_w, i32_w]
            rfl
           refine pure_ (i := 46) (N := some 61) (v := undef) (a' := ?_) (bb [47, 2]) rfl rfl (any_of HT_.out (by kernel_rfl)) (fun _ _ _ h => h) (Or.inr ⟨by rfl, rfl⟩) ?_ ?_
           rotate_left
           ·simp only [Act.put, List.setIfInBounds_toArray, List.set_cons_zero, List.set_cons_succ, i64_w, i32_w]
            rfl
           refine pure_ (i := 47) (N := some 62) (v := undef) (a' := ?_) (bb [48, 1]) rfl rfl (any_of HT_.out (by kernel_rfl)) (fun _ _ _ h => h) (Or.inr ⟨by rfl, rfl⟩) ?_ ?_
           rotate_left
           ·simp only [Act.put, List.setIfInBounds_toArray, List.set_cons_zero, List.set_cons_succ, i64_w, i32_w]
            rfl
           refine pure_ (i := 48) (N := some 63) (v := ?_) (a' := ?_) (bb [49]) rfl rfl (any_of HT_.out (by kernel_rfl)) (fun _ _ _ h => h) (Or.inl ⟨by rfl, ?_⟩) ?_ ?_
           rotate_left
           ·intro w'
            go_simp
            with_reducible rfl
           rotate_left
           ·simp only [Act.put, List.setIfInBounds_toArray, List.set_cons_zero, List.set_cons_succ, i64_w, i32_w]
            rfl
           refine done_ (done_of HT_.out (by kernel_rfl)) ?_
           try go_wp2
           go_meet
           case rel => exact ⟨_, (true), (by first | rfl | (simp; done) | (simp [*]; done)), H', ⟨by have := HK1.out; first | omega | exact Nat.le_refl _⟩, ⟨by (with_reducible repeat (first | refine blk_drewN ?_ _ | refine blk_drew ?_ | refine blk_alloc ?_ _)); exact BK113.out⟩, ⟨by repeat (first | (with_reducible first | exact HB.out | apply below_alloc | apply pw_below_drewN | apply below_drew1 | refine below_set ?_ GE113.out) | exact HB.out)⟩⟩
      ·replace c10 := Bool.eq_false_iff.mpr c10
       subst c10
       have H1 : (spec_BuddyinfoPrint.j1 k1 l0 x4_1 l0 (l0.length : Int) x11_1 true ((rd_T31 l0 x11_1).f0) ((rd_T31 l0 x11_1).f1) ((rd_T31 l0 x11_1).f2)) = some (r1, r2) := by rw [if_neg (show ¬ (false = true) by decide)] at H; exact H
       clear H
       have H := H1
       clear H1
       have H' := Aside0.mk H
       clear H
       try go_wp2
       have n0_ : Aside0 ((((w6.setCell ⟨gb113, 0, none⟩ (.string ((rd_T31 l0 x11_1).f0))).setCell ⟨gb113, 1, none⟩ (.slice A112_1 ((rd_T31 l0 x11_1).f1).length c112_1)).setCell ⟨gb113, 2, none⟩ (.slice A112_2 ((rd_T31 l0 x11_1).f2).length c112_2)).heap[gb113]? = some (.cells #[.string ((rd_T31 l0 x11_1).f0), .slice A112_1 ((rd_T31 l0 x11_1).f1).length c112_1, .slice A112_2 ((rd_T31 l0 x11_1).f2).length c112_2] 31 (0, 0))) := ⟨by (with_reducible repeat (first | refine blk_drewN ?_ _ | refine blk_drew ?_ | refine blk_alloc ?_ _)); refine blk_put (cs := #[.string ((rd_T31 l0 x11_1).f0), .slice A112_1 ((rd_T31 l0 x11_1).f1).length c112_1, .slice none 0 0]) ?_ 2 _ rfl; (with_reducible repeat (first | refine blk_drewN ?_ _ | refine blk_drew ?_ | refine blk_alloc ?_ _)); refine blk_put (cs := #[.string ((rd_T31 l0 x11_1).f0), .slice none 0 0, .slice none 0 0]) ?_ 1 _ rfl; (with_reducible repeat (first | refine blk_drewN ?_ _ | refine blk_drew ?_ | refine blk_alloc ?_ _)); refine blk_put (cs := #[.string (⟨#[]⟩ : ByteArray), .slice none 0 0, .slice none 0 0]) ?_ 0 _ rfl; (with_reducible repeat (first | refine blk_drewN ?_ _ | refine blk_drew ?_ | refine blk_alloc ?_ _)); exact BK113.out⟩
       have n1_ : Aside0 (Below w.heap.size w (((w6.setCell ⟨gb113, 0, none⟩ (.string ((rd_T31 l0 x11_1).f0))).setCell ⟨gb113, 1, none⟩ (.slice A112_1 ((rd_T31 l0 x11_1).f1).length c112_1)).setCell ⟨gb113, 2, none⟩ (.slice A112_2 ((rd_T31 l0 x11_1).f2).length c112_2))) := ⟨by repeat (first | (with_reducible first | exact HB.out | apply below_alloc | apply pw_below_drewN | apply below_drew1 | refine below_set ?_ GE113.out) | exact HB.out)⟩
       (try clear BK113)
       (try clear HB)
       generalize (((w6.setCell ⟨gb113, 0, none⟩ (.string ((rd_T31 l0 x11_1).f0))).setCell ⟨gb113, 1, none⟩ (.slice A112_1 ((rd_T31 l0 x11_1).f1).length c112_1)).setCell ⟨gb113, 2, none⟩ (.slice A112_2 ((rd_T31 l0 x11_1).f2).length c112_2)) = w31 at n0_ n1_ ⊢
       have BK113 := n0_
       have HB := n1_
       clear n0_ n1_
       have n0_ := Aside0.mk (blk_drew BK113.out)
       have n1_ := Aside0.mk (below_drew1 HB.out)
       clear BK113
       clear HB
       have BK113 := n0_
       have HB := n1_
       clear n0_ n1_
       refine start_ (n := 49) (S := fun w' => w'.cell? ⟨gb113, 0, none⟩ = some (.string ((rd_T31 l0 x11_1).f0)) ∧ w'.cell? ⟨gb113, 1, none⟩ = some (.slice A112_1 ((rd_T31 l0 x11_1).f1).length c112_1) ∧ w'.cell? ⟨gb113, 2, none⟩ = some (.slice A112_2 ((rd_T31 l0 x11_1).f2).length c112_2)) (ds := []) (bb [0, 49]) (by kernel_rfl) rfl rfl ⟨(blk_cell BK113.out 0).trans rfl, (blk_cell BK113.out 1).trans rfl, (blk_cell BK113.out 2).trans rfl⟩ (fun hHeld => ?_); refine with_tabW spec_BuddyinfoPrint.tab5 spec_BuddyinfoPrint.bits5 (fun HT_ HW_ => ?_)
       generalize w31.drew = w32 at BK113 HB hHeld ⊢
       refine pure_ (i := 0) (N := some 15) (v := ?_) (a' := ?_) (bb [1, 48]) rfl rfl (any_of HT_.out (by kernel_rfl)) (fun _ _ _ h => h) (Or.inl ⟨by rfl, ?_⟩) ?_ ?_
       rotate_left
       ·intro w'
        go_simp
        with_reducible rfl
       rotate_left
       ·simp only [Act.put, List.setIfInBounds_toArray, List.set_cons_zero, List.set_cons_succ, i64_w, i32_w]
        rfl
       refine take_ (i := 1) (N := some 16) (v := ?_) (a' := ?_) (bb [2, 47]) rfl rfl (take_ofW HT_.out HW_.out (by kernel_rfl)) (fun _ _ _ h => h) (Or.inl ⟨by rfl, ?_⟩) hHeld ?_ ?_
       rotate_left
       ·rintro w' ⟨s0, s1, s2⟩
        go_simp
        with_reducible rfl
       rotate_left
       ·simp only [Act.put, List.setIfInBounds_toArray, List.set_cons_zero, List.set_cons_succ, i64_w, i32_w]
        rfl
       refine pure_ (i := 2) (N := some 17) (v := ?_) (a' := ?_) (bb [3, 46]) rfl rfl (any_of HT_.out (by kernel_rfl)) (fun _ _ _ h => h) (Or.inl ⟨by rfl, ?_⟩) ?_ ?_
       rotate_left
       ·intro w'
        go_simp
        with_reducible rfl
       rotate_left
       ·simp only [Act.put, List.setIfInBounds_toArray, List.set_cons_zero, List.set_cons_succ, i64_w, i32_w]
        rfl
       refine pure_ (i := 3) (N := some 18) (v := ?_) (a' := ?_) (bb [4, 45]) rfl rfl (any_of HT_.out (by kernel_rfl)) (fun _ _ _ h => h) (Or.inl ⟨by rfl, ?_⟩) ?_ ?_
       rotate_left
       ·intro w'
        go_simp
        with_reducible rfl
       rotate_left
       ·simp only [Act.put, List.setIfInBounds_toArray, List.set_cons_zero, List.set_cons_succ, i64_w, i32_w]
        rfl
       refine pure_ (i := 4) (N := some 19) (v := ?_) (a' := ?_) (bb [5, 44]) rfl rfl (any_of HT_.out (by kernel_rfl)) (fun _ _ _ h => h) (Or.inl ⟨by rfl, ?_⟩) ?_ ?_
       rotate_left
       ·intro w'
        go_simp
        with_reducible rfl
       rotate_left
       ·simp only [Act.put, List.setIfInBounds_toArray, List.set_cons_zero, List.set_cons_succ, i64_w, i32_w]
        rfl
       refine pure_ (i := 5) (N := some 20) (v := ?_) (a' := ?_) (bb [6, 43]) rfl rfl (any_of HT_.out (by kernel_rfl)) (fun _ _ _ h => h) (Or.inl ⟨by rfl, ?_⟩) ?_ ?_
       rotate_left
       ·intro w'
        go_simp
        with_reducible rfl
       rotate_left
       ·simp only [Act.put, List.setIfInBounds_toArray, List.set_cons_zero, List.set_cons_succ, i64_w, i32_w]
        rfl
       refine take_ (i := 6) (N := some 21) (v := ?_) (a' := ?_) (bb [7, 42]) rfl rfl (take_ofW HT_.out HW_.out (by kernel_rfl)) (fun _ _ _ h => h) (Or.inl ⟨by rfl, ?_⟩) hHeld ?_ ?_
       rotate_left
       ·rintro w' ⟨s0, s1, s2⟩
        go_simp
        with_reducible rfl
       rotate_left
       ·simp only [Act.put, List.setIfInBounds_toArray, List.set_cons_zero, List.set_cons_succ, i64_w, i32_w]
        rfl
       refine one_ (i := 7) (N := some 22) (bb [8, 41]) rfl rfl (one_of HT_.out (by kernel_rfl)) (by decide) (fun K hK => ?_)
       refine goes_ Tryz.func62 (by kernel_rfl) rfl #[.slice A112_2 ((rd_T31 l0 x11_1).f2).length c112_2] (by rfl) rfl rfl (by (try simp only [List.map_toArray, List.map_cons, List.map_nil]); first | done | rfl | (simp only [List.length_drop, List.length_take]; rfl)) ?_
       with_reducible refine (spec_words.calls k1 _ _ ((rd_T31 l0 x11_1).f2) false _ ?side1 ?side2 A9.out).mono ?_
       (case side1 => repeat (first | exact (Kd.C_below HR112_2.out HB.out) | (with_reducible refine Kd.C_alloc ?_ _) | (with_reducible refine Kd.C_drewN ?_ _) | (with_reducible refine Kd.C_drew ?_)))
       (case side2 => exact HC112_2.out)
       rintro e w' ⟨rfl, ⟨nd, rfl⟩⟩
       refine ⟨_, rfl, ?_⟩
       refine hK.out _ _ ⟨(blk_cell BK113.out 0).trans rfl, (blk_cell BK113.out 1).trans rfl, (blk_cell BK113.out 2).trans rfl⟩ (fun hHeld => ?_)
       clear hK K
       refine norm_ (a' := ?_) ?_ ?_
       rotate_left
       ·show Act.put _ (some 22) _ = _
        simp only [Act.put, List.setIfInBounds_toArray, List.set_cons_zero, List.set_cons_succ, i64_w, i32_w]
        rfl
       refine pure_ (i := 8) (N := some 23) (v := ?_) (a' := ?_) (bb [9, 40]) rfl rfl (any_of HT_.out (by kernel_rfl)) (fun _ _ _ h => h) (Or.inl ⟨by rfl, ?_⟩) ?_ ?_
       rotate_left
       ·intro w'
        go_simp
        with_reducible rfl
       rotate_left
       ·simp only [Act.put, List.setIfInBounds_toArray, List.set_cons_zero, List.set_cons_succ, i64_w, i32_w]
        rfl
       refine pure_ (i := 9) (N := some 24) (v := ?_) (a' := ?_) (bb [10, 39]) rfl rfl (any_of HT_.out (by kernel_rfl)) (fun _ _ _ h => h) (Or.inl ⟨by rfl, ?_⟩) ?_ ?_
       rotate_left
       ·intro w'
        go_simp
        with_reducible rfl
       rotate_left
       ·simp only [Act.put, List.setIfInBounds_toArray, List.set_cons_zero, List.set_cons_succ, i64_w, i32_w]
        rfl
       refine pure_ (i := 10) (N := some 25) (v := ?_) (a' := ?_) (bb [11, 38]) rfl rfl (any_of HT_.out (by kernel_rfl)) (fun _ _ _ h => h) (Or.inl ⟨by rfl, ?_⟩) ?_ ?_
       rotate_left
       ·intro w'
        go_simp
        with_reducible rfl
       rotate_left
       ·simp only [Act.put, List.setIfInBounds_toArray, List.set_cons_zero, List.set_cons_succ, i64_w, i32_w]
        rfl
       refine pure_ (i := 11) (N := some 26) (v := undef) (a' := ?_) (bb [12, 37]) rfl rfl (any_of HT_.out (by kernel_rfl)) (fun _ _ _ h => h) (Or.inr ⟨by rfl, rfl⟩) ?_ ?_
       rotate_left
       ·simp only [Act.put, List.setIfInBounds_toArray, List.set_cons_zero, List.set_cons_succ, i64_w, i32_w]
        rfl
       refine pure_ (i := 12) (N := some 27) (v := undef) (a' := ?_) (bb [13, 36]) rfl rfl (any_of HT_.out (by kernel_rfl)) (fun _ _ _ h => h) (Or.inr ⟨by rfl, rfl⟩) ?_ ?_
       rotate_left
       ·simp only [Act.put, List.setIfInBounds_toArray, List.set_cons_zero, List.set_cons_succ, i64_w, i32_w]
        rfl
       refine pure_ (i := 13) (N := some 28) (v := undef) (a' := ?_) (bb [14, 35]) rfl rfl (any_of HT_.out (by kernel_rfl)) (fun _ _ _ h => h) (Or.inr ⟨by rfl, rfl⟩) ?_ ?_
       rotate_left
       ·simp only [Act.put, List.setIfInBounds_toArray, List.set_cons_zero, List.set_cons_succ, i64_w, i32_w]
        rfl
       refine pure_ (i := 14) (N := some 29) (v := undef) (a' := ?_) (bb [15, 34]) rfl rfl (any_of HT_.out (by kernel_rfl)) (fun _ _ _ h => h) (Or.inr ⟨by rfl, rfl⟩) ?_ ?_
       rotate_left
       ·simp only [Act.put, List.setIfInBounds_toArray, List.set_cons_zero, List.set_cons_succ, i64_w, i32_w]
        rfl
       refine pure_ (i := 15) (N := some 30) (v := undef) (a' := ?_) (bb [16, 33]) rfl rfl (any_of HT_.out (by kernel_rfl)) (fun _ _ _ h => h) (Or.inr ⟨by rfl, rfl⟩) ?_ ?_
       rotate_left
       ·simp only [Act.put, List.setIfInBounds_toArray, List.set_cons_zero, List.set_cons_succ, i64_w, i32_w]
        rfl
       refine pure_ (i := 16) (N := some 31) (v := undef) (a' := ?_) (bb [17, 32]) rfl rfl (any_of HT_.out (by kernel_rfl)) (fun _ _ _ h => h) (Or.inr ⟨by rfl, rfl⟩) ?_ ?_
       rotate_left
       ·simp only [Act.put, List.setIfInBounds_toArray, List.set_cons_zero, List.set_cons_succ, i64_w, i32_w]
        rfl
       refine pure_ (i := 17) (N := some 32) (v := ?_) (a' := ?_) (bb [18, 31]) rfl rfl (any_of HT_.out (by kernel_rfl)) (fun _ _ _ h => h) (Or.inl ⟨by rfl, ?_⟩) ?_ ?_
       rotate_left
       ·intro w'
        go_simp
        with_reducible rfl
       rotate_left
       ·simp only [Act.put, List.setIfInBounds_toArray, List.set_cons_zero, List.set_cons_succ, i64_w, i32_w]
        rfl
       refine pure_ (i := 18) (N := some 33) (v := ?_) (a' := ?_) (bb [19, 30]) rfl rfl (any_of HT_.out (by kernel_rfl)) (fun _ _ _ h => h) (Or.inl ⟨by rfl, ?_⟩) ?_ ?_
       rotate_left
       ·intro w'
        go_simp
        with_reducible rfl
       rotate_left
       ·simp only [Act.put, List.setIfInBounds_toArray, List.set_cons_zero, List.set_cons_succ, i64_w, i32_w]
        rfl
       refine pure_ (i := 19) (N := some 34) (v := undef) (a' := ?_) (bb [20, 29]) rfl rfl (any_of HT_.out (by kernel_rfl)) (fun _ _ _ h => h) (Or.inr ⟨by rfl, rfl⟩) ?_ ?_
       rotate_left
       ·simp only [Act.put, List.setIfInBounds_toArray, List.set_cons_zero, List.set_cons_succ, i64_w, i32_w]
        rfl
       refine pure_ (i := 20) (N := some 35) (v := undef) (a' := ?_) (bb [21, 28]) rfl rfl (any_of HT_.out (by kernel_rfl)) (fun _ _ _ h => h) (Or.inr ⟨by rfl, rfl⟩) ?_ ?_
       rotate_left
       ·simp only [Act.put, List.setIfInBounds_toArray, List.set_cons_zero, List.set_cons_succ, i64_w, i32_w]
        rfl
       refine pure_ (i := 21) (N := some 36) (v := undef) (a' := ?_) (bb [22, 27]) rfl rfl (any_of HT_.out (by kernel_rfl)) (fun _ _ _ h => h) (Or.inr ⟨by rfl, rfl⟩) ?_ ?_
       rotate_left
       ·simp only [Act.put, List.setIfInBounds_toArray, List.set_cons_zero, List.set_cons_succ, i64_w, i32_w]
        rfl
       refine pure_ (i := 22) (N := some 37) (v := undef) (a' := ?_) (bb [23, 26]) rfl rfl (any_of HT_.out (by kernel_rfl)) (fun _ _ _ h => h) (Or.inr ⟨by rfl, rfl⟩) ?_ ?_
       rotate_left
       ·simp only [Act.put, List.setIfInBounds_toArray, List.set_cons_zero, List.set_cons_succ, i64_w, i32_w]
        rfl
       refine pure_ (i := 23) (N := some 38) (v := undef) (a' := ?_) (bb [24, 25]) rfl rfl (any_of HT_.out (by kernel_rfl)) (fun _ _ _ h => h) (Or.inr ⟨by rfl, rfl⟩) ?_ ?_
       rotate_left
       ·simp only [Act.put, List.setIfInBounds_toArray, List.set_cons_zero, List.set_cons_succ, i64_w, i32_w]
        rfl
       refine pure_ (i := 24) (N := some 39) (v := undef) (a' := ?_) (bb [25, 24]) rfl rfl (any_of HT_.out (by kernel_rfl)) (fun _ _ _ h => h) (Or.inr ⟨by rfl, rfl⟩) ?_ ?_
       rotate_left
       ·simp only [Act.put, List.setIfInBounds_toArray, List.set_cons_zero, List.set_cons_succ, i64_w, i32_w]
        rfl
       refine pure_ (i := 25) (N := some 40) (v := ?_) (a' := ?_) (bb [26, 23]) rfl rfl (any_of HT_.out (by kernel_rfl)) (fun _ _ _ h => h) (Or.inl ⟨by rfl, ?_⟩) ?_ ?_
       rotate_left
       ·intro w'
        go_simp
        with_reducible rfl
       rotate_left
       ·simp only [Act.put, List.setIfInBounds_toArray, List.set_cons_zero, List.set_cons_succ, i64_w, i32_w]
        rfl
       refine pure_ (i := 26) (N := some 41) (v := ?_) (a' := ?_) (bb [27, 22]) rfl rfl (any_of HT_.out (by kernel_rfl)) (fun _ _ _ h => h) (Or.inl ⟨by rfl, ?_⟩) ?_ ?_
       rotate_left
       ·intro w'
        go_simp
        with_reducible rfl
       rotate_left
       ·simp only [Act.put, List.setIfInBounds_toArray, List.set_cons_zero, List.set_cons_succ, i64_w, i32_w]
        rfl
       refine pure_ (i := 27) (N := some 42) (v := undef) (a' := ?_) (bb [28, 21]) rfl rfl (any_of HT_.out (by kernel_rfl)) (fun _ _ _ h => h) (Or.inr ⟨by rfl, rfl⟩) ?_ ?_
       rotate_left
       ·simp only [Act.put, List.setIfInBounds_toArray, List.set_cons_zero, List.set_cons_succ, i64_w, i32_w]
        rfl
       refine pure_ (i := 28) (N := some 43) (v := undef) (a' := ?_) (bb [29, 20]) rfl rfl (any_of HT_.out (by kernel_rfl)) (fun _ _ _ h => h) (Or.inr ⟨by rfl, rfl⟩) ?_ ?_
       rotate_left
       ·simp only [Act.put, List.setIfInBounds_toArray, List.set_cons_zero, List.set_cons_succ, i64_w, i32_w]
        rfl
       refine pure_ (i := 29) (N := some 44) (v := undef) (a' := ?_) (bb [30, 19]) rfl rfl (any_of HT_.out (by kernel_rfl)) (fun _ _ _ h => h) (Or.inr ⟨by rfl, rfl⟩) ?_ ?_
       rotate_left
       ·simp only [Act.put, List.setIfInBounds_toArray, List.set_cons_zero, List.set_cons_succ, i64_w, i32_w]
        rfl
       refine pure_ (i := 30) (N := some 45) (v := undef) (a' := ?_) (bb [31, 18]) rfl rfl (any_of HT_.out (by kernel_rfl)) (fun _ _ _ h => h) (Or.inr ⟨by rfl, rfl⟩) ?_ ?_
       rotate_left
       ·simp only [Act.put, List.setIfInBounds_toArray, List.set_cons_zero, List.set_cons_succ, i64_w, i32_w]
        rfl
       refine pure_ (i := 31) (N := some 46) (v := ?_) (a' := ?_) (bb [32, 17]) rfl rfl (any_of HT_.out (by kernel_rfl)) (fun _ _ _ h => h) (Or.inl ⟨by rfl, ?_⟩) ?_ ?_
       rotate_left
       ·intro w'
        go_simp
        with_reducible rfl
       rotate_left
       ·simp only [Act.put, List.setIfInBounds_toArray, List.set_cons_zero, List.set_cons_succ, i64_w, i32_w]
        rfl
       refine pure_ (i := 32) (N := some 47) (v := ?_) (a' := ?_) (bb [33, 16]) rfl rfl (any_of HT_.out (by kernel_rfl)) (fun _ _ _ h => h) (Or.inl ⟨by rfl, ?_⟩) ?_ ?_
       rotate_left
       ·intro w'
        go_simp
        with_reducible rfl
       rotate_left
       ·simp only [Act.put, List.setIfInBounds_toArray, List.set_cons_zero, List.set_cons_succ, i64_w, i32_w]
        rfl
       refine pure_ (i := 33) (N := some 48) (v := undef) (a' := ?_) (bb [34, 15]) rfl rfl (any_of HT_.out (by kernel_rfl)) (fun _ _ _ h => h) (Or.inr ⟨by rfl, rfl⟩) ?_ ?_
       rotate_left
       ·simp only [Act.put, List.setIfInBounds_toArray, List.set_cons_zero, List.set_cons_succ, i64_w, i32_w]
        rfl
       refine pure_ (i := 34) (N := some 49) (v := undef) (a' := ?_) (bb [35, 14]) rfl rfl (any_of HT_.out (by kernel_rfl)) (fun _ _ _ h => h) (Or.inr ⟨by rfl, rfl⟩) ?_ ?_
       rotate_left
       ·simp only [Act.put, List.setIfInBounds_toArray, List.set_cons_zero, List.set_cons_succ, i64_w, i32_w]
        rfl
       refine pure_ (i := 35) (N := some 50) (v := undef) (a' := ?_) (bb [36, 13]) rfl rfl (any_of HT_.out (by kernel_rfl)) (fun _ _ _ h => h) (Or.inr ⟨by rfl, rfl⟩) ?_ ?_
       rotate_left
       ·simp only [Act.put, List.setIfInBounds_toArray, List.set_cons_zero, List.set_cons_succ, i64_w, i32_w]
        rfl
       refine pure_ (i := 36) (N := some 51) (v := undef) (a' := ?_) (bb [37, 12]) rfl rfl (any_of HT_.out (by kernel_rfl)) (fun _ _ _ h => h) (Or.inr ⟨by rfl, rfl⟩) ?_ ?_
       rotate_left
       ·simp only [Act.put, List.setIfInBounds_toArray, List.set_cons_zero, List.set_cons_succ, i64_w, i32_w]
        rfl
       refine pure_ (i := 37) (N := some 52) (v := undef) (a' := ?_) (bb [38, 11]) rfl rfl (any_of HT_.out (by kernel_rfl)) (fun _ _ _ h => h) (Or.inr ⟨by rfl, rfl⟩) ?_ ?_
       rotate_left
       ·simp only [Act.put, List.setIfInBounds_toArray, List.set_cons_zero, List.set_cons_succ, i64_w, i32_w]
        rfl
       refine pure_ (i := 38) (N := some 53) (v := undef) (a' := ?_) (bb [39, 10]) rfl rfl (any_of HT_.out (by kernel_rfl)) (fun _ _ _ h => h) (Or.inr ⟨by rfl, rfl⟩) ?_ ?_
       rotate_left
       ·simp only [Act.put, List.setIfInBounds_toArray, List.set_cons_zero, List.set_cons_succ, i64_w, i32_w]
        rfl
       refine pure_ (i := 39) (N := some 54) (v := undef) (a' := ?_) (bb [40, 9]) rfl rfl (any_of HT_.out (by kernel_rfl)) (fun _ _ _ h => h) (Or.inr ⟨by rfl, rfl⟩) ?_ ?_
       rotate_left
       ·simp only [Act.put, List.setIfInBounds_toArray, List.set_cons_zero, List.set_cons_succ, i64_w, i32_w]
        rfl
       refine pure_ (i := 40) (N := some 55) (v := undef) (a' := ?_) (bb [41, 8]) rfl rfl (any_of HT_.out (by kernel_rfl)) (fun _ _ _ h => h) (Or.inr ⟨by rfl, rfl⟩) ?_ ?_
       rotate_left
       ·simp only [Act.put, List.setIfInBounds_toArray, List.set_cons_zero, List.set_cons_succ, i64_w, i32_w]
        rfl
       refine pure_ (i := 41) (N := some 56) (v := undef) (a' := ?_) (bb [42, 7]) rfl rfl (any_of HT_.out (by kernel_rfl)) (fun _ _ _ h => h) (Or.inr ⟨by rfl, rfl⟩) ?_ ?_
       rotate_left
       ·simp only [Act.put, List.setIfInBounds_toArray, List.set_cons_zero, List.set_cons_succ, i64_w, i32_w]
        rfl
       refine pure_ (i := 42) (N := some 57) (v := ?_) (a' := ?_) (bb [43, 6]) rfl rfl (any_of HT_.out (by kernel_rfl)) (fun _ _ _ h => h) (Or.inl ⟨by rfl, ?_⟩) ?_ ?_
       rotate_left
       ·intro w'
        go_simp
        with_reducible rfl
       rotate_left
       ·simp only [Act.put, List.setIfInBounds_toArray, List.set_cons_zero, List.set_cons_succ, i64_w, i32_w]
        rfl
       refine pure_ (i := 43) (N := some 58) (v := ?_) (a' := ?_) (bb [44, 5]) rfl rfl (any_of HT_.out (by kernel_rfl)) (fun _ _ _ h => h) (Or.inl ⟨by rfl, ?_⟩) ?_ ?_
       rotate_left
       ·intro w'
        go_simp
        with_reducible rfl
       rotate_left
       ·simp only [Act.put, List.setIfInBounds_toArray, List.set_cons_zero, List.set_cons_succ, i64_w, i32_w]
        rfl
       refine pure_ (i := 44) (N := some 59) (v := undef) (a' := ?_) (bb [45, 4]) rfl rfl (any_of HT_.out (by kernel_rfl)) (fun _ _ _ h => h) (Or.inr ⟨by rfl, rfl⟩) ?_ ?_
       rotate_left
       ·simp only [Act.put, List.setIfInBounds_toArray, List.set_cons_zero, List.set_cons_succ, i64_w, i32_w]
        rfl
       refine pure_ (i := 45) (N := some 60) (v := undef) (a' := ?_) (bb [46, 3]) rfl rfl (any_of HT_.out (by kernel_rfl)) (fun _ _ _ h => h) (Or.inr ⟨by rfl, rfl⟩) ?_ ?_
       rotate_left
       ·simp only [Act.put, List.setIfInBounds_toArray, List.set_cons_zero, List.set_cons_succ, i64_w, i32_w]
        rfl
       refine pure_ (i := 46) (N := some 61) (v := undef) (a' := ?_) (bb [47, 2]) rfl rfl (any_of HT_.out (by kernel_rfl)) (fun _ _ _ h => h) (Or.inr ⟨by rfl, rfl⟩) ?_ ?_
       rotate_left
       ·simp only [Act.put, List.setIfInBounds_toArray, List.set_cons_zero, List.set_cons_succ, i64_w, i32_w]
        rfl
       refine pure_ (i := 47) (N := some 62) (v := undef) (a' := ?_) (bb [48, 1]) rfl rfl (any_of HT_.out (by kernel_rfl)) (fun _ _ _ h => h) (Or.inr ⟨by rfl, rfl⟩) ?_ ?_
       rotate_left
       ·simp only [Act.put, List.setIfInBounds_toArray, List.set_cons_zero, List.set_cons_succ, i64_w, i32_w]
        rfl
       refine pure_ (i := 48) (N := some 63) (v := ?_) (a' := ?_) (bb [49]) rfl rfl (any_of HT_.out (by kernel_rfl)) (fun _ _ _ h => h) (Or.inl ⟨by rfl, ?_⟩) ?_ ?_
       rotate_left
       ·intro w'
        go_simp
        with_reducible rfl
       rotate_left
       ·simp only [Act.put, List.setIfInBounds_toArray, List.set_cons_zero, List.set_cons_succ, i64_w, i32_w]
        rfl
       refine done_ (done_of HT_.out (by kernel_rfl)) ?_
       try go_wp2
       go_meet
       case rel => exact ⟨_, (true), (by first | rfl | (simp; done) | (simp [*]; done)), H', ⟨by have := HK1.out; first | omega | exact Nat.le_refl _⟩, ⟨by (with_reducible repeat (first | refine blk_drewN ?_ _ | refine blk_drew ?_ | refine blk_alloc ?_ _)); exact BK113.out⟩, ⟨by repeat (first | (with_reducible first | exact HB.out | apply below_alloc | apply pw_below_drewN | apply below_drew1 | refine below_set ?_ GE113.out) | exact HB.out)⟩⟩
     ·rw [if_neg c8] at H
      have c8b0 : ((((rd_T31 l0 x11_1).f2).length : Int) == 2) = false := beq_eq_false_iff_ne.mpr c8
      have c8b1 : ((((rd_T31 l0 x11_1).f2).length : Int) != 2) = true := bne_iff_ne.mpr c8
      (first | rw [c8b0] | (simp only [i64_w, i32_w]; rw [c8b0]) | skip)
      have H' := Aside0.mk H
      clear H
      try go_wp2
      have n0_ : Aside0 ((((w6.setCell ⟨gb113, 0, none⟩ (.string ((rd_T31 l0 x11_1).f0))).setCell ⟨gb113, 1, none⟩ (.slice A112_1 ((rd_T31 l0 x11_1).f1).length c112_1)).setCell ⟨gb113, 2, none⟩ (.slice A112_2 ((rd_T31 l0 x11_1).f2).length c112_2)).heap[gb113]? = some (.cells #[.string ((rd_T31 l0 x11_1).f0), .slice A112_1 ((rd_T31 l0 x11_1).f1).length c112_1, .slice A112_2 ((rd_T31 l0 x11_1).f2).length c112_2] 31 (0, 0))) := ⟨by (with_reducible repeat (first | refine blk_drewN ?_ _ | refine blk_drew ?_ | refine blk_alloc ?_ _)); refine blk_put (cs := #[.string ((rd_T31 l0 x11_1).f0), .slice A112_1 ((rd_T31 l0 x11_1).f1).length c112_1, .slice none 0 0]) ?_ 2 _ rfl; (with_reducible repeat (first | refine blk_drewN ?_ _ | refine blk_drew ?_ | refine blk_alloc ?_ _)); refine blk_put (cs := #[.string ((rd_T31 l0 x11_1).f0), .slice none 0 0, .slice none 0 0]) ?_ 1 _ rfl; (with_reducible repeat (first | refine blk_drewN ?_ _ | refine blk_drew ?_ | refine blk_alloc ?_ _)); refine blk_put (cs := #[.string (⟨#[]⟩ : ByteArray), .slice none 0 0, .slice none 0 0]) ?_ 0 _ rfl; (with_reducible repeat (first | refine blk_drewN ?_ _ | refine blk_drew ?_ | refine blk_alloc ?_ _)); exact BK113.out⟩
      have n1_ : Aside0 (Below w.heap.size w (((w6.setCell ⟨gb113, 0, none⟩ (.string ((rd_T31 l0 x11_1).f0))).setCell ⟨gb113, 1, none⟩ (.slice A112_1 ((rd_T31 l0 x11_1).f1).length c112_1)).setCell ⟨gb113, 2, none⟩ (.slice A112_2 ((rd_T31 l0 x11_1).f2).length c112_2))) := ⟨by repeat (first | (with_reducible first | exact HB.out | apply below_alloc | apply pw_below_drewN | apply below_drew1 | refine below_set ?_ GE113.out) | exact HB.out)⟩
      (try clear BK113)
      (try clear HB)
      generalize (((w6.setCell ⟨gb113, 0, none⟩ (.string ((rd_T31 l0 x11_1).f0))).setCell ⟨gb113, 1, none⟩ (.slice A112_1 ((rd_T31 l0 x11_1).f1).length c112_1)).setCell ⟨gb113, 2, none⟩ (.slice A112_2 ((rd_T31 l0 x11_1).f2).length c112_2)) = w33 at n0_ n1_ ⊢
      have BK113 := n0_
      have HB := n1_
      clear n0_ n1_
      have n0_ := Aside0.mk (blk_drew BK113.out)
      have n1_ := Aside0.mk (below_drew1 HB.out)
      clear BK113
      clear HB
      have BK113 := n0_
      have HB := n1_
      clear n0_ n1_
      refine start_ (n := 49) (S := fun w' => w'.cell? ⟨gb113, 0, none⟩ = some (.string ((rd_T31 l0 x11_1).f0)) ∧ w'.cell? ⟨gb113, 1, none⟩ = some (.slice A112_1 ((rd_T31 l0 x11_1).f1).length c112_1) ∧ w'.cell? ⟨gb113, 2, none⟩ = some (.slice A112_2 ((rd_T31 l0 x11_1).f2).length c112_2)) (ds := []) (bb [0, 49]) (by kernel_rfl) rfl rfl ⟨(blk_cell BK113.out 0).trans rfl, (blk_cell BK113.out 1).trans rfl, (blk_cell BK113.out 2).trans rfl⟩ (fun hHeld => ?_); refine with_tabW spec_BuddyinfoPrint.tab5 spec_BuddyinfoPrint.bits5 (fun HT_ HW_ => ?_)
      generalize w33.drew = w34 at BK113 HB hHeld ⊢
      refine pure_ (i := 0) (N := some 15) (v := ?_) (a' := ?_) (bb [1, 48]) rfl rfl (any_of HT_.out (by kernel_rfl)) (fun _ _ _ h => h) (Or.inl ⟨by rfl, ?_⟩) ?_ ?_
      rotate_left
      ·intro w'
       go_simp
       with_reducible rfl
      rotate_left
      ·simp only [Act.put, List.setIfInBounds_toArray, List.set_cons_zero, List.set_cons_succ, i64_w, i32_w]
       rfl
      refine take_ (i := 1) (N := some 16) (v := ?_) (a' := ?_) (bb [2, 47]) rfl rfl (take_ofW HT_.out HW_.out (by kernel_rfl)) (fun _ _ _ h => h) (Or.inl ⟨by rfl, ?_⟩) hHeld ?_ ?_
      rotate_left
      ·rintro w' ⟨s0, s1, s2⟩
       go_simp
       with_reducible rfl
      rotate_left
      ·simp only [Act.put, List.setIfInBounds_toArray, List.set_cons_zero, List.set_cons_succ, i64_w, i32_w]
       rfl
      refine pure_ (i := 2) (N := some 17) (v := ?_) (a' := ?_) (bb [3, 46]) rfl rfl (any_of HT_.out (by kernel_rfl)) (fun _ _ _ h => h) (Or.inl ⟨by rfl, ?_⟩) ?_ ?_
      rotate_left
      ·intro w'
       go_simp
       with_reducible rfl
      rotate_left
      ·simp only [Act.put, List.setIfInBounds_toArray, List.set_cons_zero, List.set_cons_succ, i64_w, i32_w]
       rfl
      refine pure_ (i := 3) (N := some 18) (v := ?_) (a' := ?_) (bb [4, 45]) rfl rfl (any_of HT_.out (by kernel_rfl)) (fun _ _ _ h => h) (Or.inl ⟨by rfl, ?_⟩) ?_ ?_
      rotate_left
      ·intro w'
       go_simp
       with_reducible rfl
      rotate_left
      ·simp only [Act.put, List.setIfInBounds_toArray, List.set_cons_zero, List.set_cons_succ, i64_w, i32_w]
       rfl
      refine pure_ (i := 4) (N := some 19) (v := ?_) (a' := ?_) (bb [5, 44]) rfl rfl (any_of HT_.out (by kernel_rfl)) (fun _ _ _ h => h) (Or.inl ⟨by rfl, ?_⟩) ?_ ?_
      rotate_left
      ·intro w'
       go_simp
       with_reducible rfl
      rotate_left
      ·simp only [Act.put, List.setIfInBounds_toArray, List.set_cons_zero, List.set_cons_succ, i64_w, i32_w]
       rfl
      refine pure_ (i := 5) (N := some 20) (v := undef) (a' := ?_) (bb [6, 43]) rfl rfl (any_of HT_.out (by kernel_rfl)) (fun _ _ _ h => h) (Or.inr ⟨by rfl, rfl⟩) ?_ ?_
      rotate_left
      ·simp only [Act.put, List.setIfInBounds_toArray, List.set_cons_zero, List.set_cons_succ, i64_w, i32_w]
       rfl
      refine pure_ (i := 6) (N := some 21) (v := undef) (a' := ?_) (bb [7, 42]) rfl rfl (any_of HT_.out (by kernel_rfl)) (fun _ _ _ h => h) (Or.inr ⟨by rfl, rfl⟩) ?_ ?_
      rotate_left
      ·simp only [Act.put, List.setIfInBounds_toArray, List.set_cons_zero, List.set_cons_succ, i64_w, i32_w]
       rfl
      refine pure_ (i := 7) (N := some 22) (v := undef) (a' := ?_) (bb [8, 41]) rfl rfl (any_of HT_.out (by kernel_rfl)) (fun _ _ _ h => h) (Or.inr ⟨by rfl, rfl⟩) ?_ ?_
      rotate_left
      ·simp only [Act.put, List.setIfInBounds_toArray, List.set_cons_zero, List.set_cons_succ, i64_w, i32_w]
       rfl
      refine pure_ (i := 8) (N := some 23) (v := undef) (a' := ?_) (bb [9, 40]) rfl rfl (any_of HT_.out (by kernel_rfl)) (fun _ _ _ h => h) (Or.inr ⟨by rfl, rfl⟩) ?_ ?_
      rotate_left
      ·simp only [Act.put, List.setIfInBounds_toArray, List.set_cons_zero, List.set_cons_succ, i64_w, i32_w]
       rfl
      refine pure_ (i := 9) (N := some 24) (v := ?_) (a' := ?_) (bb [10, 39]) rfl rfl (any_of HT_.out (by kernel_rfl)) (fun _ _ _ h => h) (Or.inl ⟨by rfl, ?_⟩) ?_ ?_
      rotate_left
      ·intro w'
       go_simp
       with_reducible rfl
      rotate_left
      ·simp only [Act.put, List.setIfInBounds_toArray, List.set_cons_zero, List.set_cons_succ, i64_w, i32_w]
       rfl
      refine pure_ (i := 10) (N := some 25) (v := ?_) (a' := ?_) (bb [11, 38]) rfl rfl (any_of HT_.out (by kernel_rfl)) (fun _ _ _ h => h) (Or.inl ⟨by rfl, ?_⟩) ?_ ?_
      rotate_left
      ·intro w'
       go_simp
       with_reducible rfl
      rotate_left
      ·simp only [Act.put, List.setIfInBounds_toArray, List.set_cons_zero, List.set_cons_succ, i64_w, i32_w]
       rfl
      refine pure_ (i := 11) (N := some 26) (v := undef) (a' := ?_) (bb [12, 37]) rfl rfl (any_of HT_.out (by kernel_rfl)) (fun _ _ _ h => h) (Or.inr ⟨by rfl, rfl⟩) ?_ ?_
      rotate_left
      ·simp only [Act.put, List.setIfInBounds_toArray, List.set_cons_zero, List.set_cons_succ, i64_w, i32_w]
       rfl
      refine pure_ (i := 12) (N := some 27) (v := undef) (a' := ?_) (bb [13, 36]) rfl rfl (any_of HT_.out (by kernel_rfl)) (fun _ _ _ h => h) (Or.inr ⟨by rfl, rfl⟩) ?_ ?_
      rotate_left
      ·simp only [Act.put, List.setIfInBounds_toArray, List.set_cons_zero, List.set_cons_succ, i64_w, i32_w]
       rfl
      refine pure_ (i := 13) (N := some 28) (v := undef) (a' := ?_) (bb [14, 35]) rfl rfl (any_of HT_.out (by kernel_rfl)) (fun _ _ _ h => h) (Or.inr ⟨by rfl, rfl⟩) ?_ ?_
      rotate_left
      ·simp only [Act.put, List.setIfInBounds_toArray, List.set_cons_zero, List.set_cons_succ, i64_w, i32_w]
       rfl
      refine pure_ (i := 14) (N := some 29) (v := undef) (a' := ?_) (bb [15, 34]) rfl rfl (any_of HT_.out (by kernel_rfl)) (fun _ _ _ h => h) (Or.inr ⟨by rfl, rfl⟩) ?_ ?_
      rotate_left
      ·simp only [Act.put, List.setIfInBounds_toArray, List.set_cons_zero, List.set_cons_succ, i64_w, i32_w]
       rfl
      refine pure_ (i := 15) (N := some 30) (v := undef) (a' := ?_) (bb [16, 33]) rfl rfl (any_of HT_.out (by kernel_rfl)) (fun _ _ _ h => h) (Or.inr ⟨by rfl, rfl⟩) ?_ ?_
      rotate_left
      ·simp only [Act.put, List.setIfInBounds_toArray, List.set_cons_zero, List.set_cons_succ, i64_w, i32_w]
       rfl
      refine pure_ (i := 16) (N := some 31) (v := undef) (a' := ?_) (bb [17, 32]) rfl rfl (any_of HT_.out (by kernel_rfl)) (fun _ _ _ h => h) (Or.inr ⟨by rfl, rfl⟩) ?_ ?_
      rotate_left
      ·simp only [Act.put, List.setIfInBounds_toArray, List.set_cons_zero, List.set_cons_succ, i64_w, i32_w]
       rfl
      refine pure_ (i := 17) (N := some 32) (v := ?_) (a' := ?_) (bb [18, 31]) rfl rfl (any_of HT_.out (by kernel_rfl)) (fun _ _ _ h => h) (Or.inl ⟨by rfl, ?_⟩) ?_ ?_
      rotate_left
      ·intro w'
       go_simp
       with_reducible rfl
      rotate_left
      ·simp only [Act.put, List.setIfInBounds_toArray, List.set_cons_zero, List.set_cons_succ, i64_w, i32_w]
       rfl
      refine pure_ (i := 18) (N := some 33) (v := ?_) (a' := ?_) (bb [19, 30]) rfl rfl (any_of HT_.out (by kernel_rfl)) (fun _ _ _ h => h) (Or.inl ⟨by rfl, ?_⟩) ?_ ?_
      rotate_left
      ·intro w'
       go_simp
       with_reducible rfl
      rotate_left
      ·simp only [Act.put, List.setIfInBounds_toArray, List.set_cons_zero, List.set_cons_succ, i64_w, i32_w]
       rfl
      refine pure_ (i := 19) (N := some 34) (v := undef) (a' := ?_) (bb [20, 29]) rfl rfl (any_of HT_.out (by kernel_rfl)) (fun _ _ _ h => h) (Or.inr ⟨by rfl, rfl⟩) ?_ ?_
      rotate_left
      ·simp only [Act.put, List.setIfInBounds_toArray, List.set_cons_zero, List.set_cons_succ, i64_w, i32_w]
       rfl
      refine pure_ (i := 20) (N := some 35) (v := undef) (a' := ?_) (bb [21, 28]) rfl rfl (any_of HT_.out (by kernel_rfl)) (fun _ _ _ h => h) (Or.inr ⟨by rfl, rfl⟩) ?_ ?_
      rotate_left
      ·simp only [Act.put, List.setIfInBounds_toArray, List.set_cons_zero, List.set_cons_succ, i64_w, i32_w]
       rfl
      refine pure_ (i := 21) (N := some 36) (v := undef) (a' := ?_) (bb [22, 27]) rfl rfl (any_of HT_.out (by kernel_rfl)) (fun _ _ _ h => h) (Or.inr ⟨by rfl, rfl⟩) ?_ ?_
      rotate_left
      ·simp only [Act.put, List.setIfInBounds_toArray, List.set_cons_zero, List.set_cons_succ, i64_w, i32_w]
       rfl
      refine pure_ (i := 22) (N := some 37) (v := undef) (a' := ?_) (bb [23, 26]) rfl rfl (any_of HT_.out (by kernel_rfl)) (fun _ _ _ h => h) (Or.inr ⟨by rfl, rfl⟩) ?_ ?_
      rotate_left
      ·simp only [Act.put, List.setIfInBounds_toArray, List.set_cons_zero, List.set_cons_succ, i64_w, i32_w]
       rfl
      refine pure_ (i := 23) (N := some 38) (v := undef) (a' := ?_) (bb [24, 25]) rfl rfl (any_of HT_.out (by kernel_rfl)) (fun _ _ _ h => h) (Or.inr ⟨by rfl, rfl⟩) ?_ ?_
      rotate_left
      ·simp only [Act.put, List.setIfInBounds_toArray, List.set_cons_zero, List.set_cons_succ, i64_w, i32_w]
       rfl
      refine pure_ (i := 24) (N := some 39) (v := undef) (a' := ?_) (bb [25, 24]) rfl rfl (any_of HT_.out (by kernel_rfl)) (fun _ _ _ h => h) (Or.inr ⟨by rfl, rfl⟩) ?_ ?_
      rotate_left
      ·simp only [Act.put, List.setIfInBounds_toArray, List.set_cons_zero, List.set_cons_succ, i64_w, i32_w]
       rfl
      refine pure_ (i := 25) (N := some 40) (v := ?_) (a' := ?_) (bb [26, 23]) rfl rfl (any_of HT_.out (by kernel_rfl)) (fun _ _ _ h => h) (Or.inl ⟨by rfl, ?_⟩) ?_ ?_
      rotate_left
      ·intro w'
       go_simp
       with_reducible rfl
      rotate_left
      ·simp only [Act.put, List.setIfInBounds_toArray, List.set_cons_zero, List.set_cons_succ, i64_w, i32_w]
       rfl
      refine pure_ (i := 26) (N := some 41) (v := ?_) (a' := ?_) (bb [27, 22]) rfl rfl (any_of HT_.out (by kernel_rfl)) (fun _ _ _ h => h) (Or.inl ⟨by rfl, ?_⟩) ?_ ?_
      rotate_left
      ·intro w'
       go_simp
       with_reducible rfl
      rotate_left
      ·simp only [Act.put, List.setIfInBounds_toArray, List.set_cons_zero, List.set_cons_succ, i64_w, i32_w]
       rfl
      refine pure_ (i := 27) (N := some 42) (v := undef) (a' := ?_) (bb [28, 21]) rfl rfl (any_of HT_.out (by kernel_rfl)) (fun _ _ _ h => h) (Or.inr ⟨by rfl, rfl⟩) ?_ ?_
      rotate_left
      ·simp only [Act.put, List.setIfInBounds_toArray, List.set_cons_zero, List.set_cons_succ, i64_w, i32_w]
       rfl
      refine pure_ (i := 28) (N := some 43) (v := undef) (a' := ?_) (bb [29, 20]) rfl rfl (any_of HT_.out (by kernel_rfl)) (fun _ _ _ h => h) (Or.inr ⟨by rfl, rfl⟩) ?_ ?_
      rotate_left
      ·simp only [Act.put, List.setIfInBounds_toArray, List.set_cons_zero, List.set_cons_succ, i64_w, i32_w]
       rfl
      refine pure_ (i := 29) (N := some 44) (v := undef) (a' := ?_) (bb [30, 19]) rfl rfl (any_of HT_.out (by kernel_rfl)) (fun _ _ _ h => h) (Or.inr ⟨by rfl, rfl⟩) ?_ ?_
      rotate_left
      ·simp only [Act.put, List.setIfInBounds_toArray, List.set_cons_zero, List.set_cons_succ, i64_w, i32_w]
       rfl
      refine pure_ (i := 30) (N := some 45) (v := undef) (a' := ?_) (bb [31, 18]) rfl rfl (any_of HT_.out (by kernel_rfl)) (fun _ _ _ h => h) (Or.inr ⟨by rfl, rfl⟩) ?_ ?_
      rotate_left
      ·simp only [Act.put, List.setIfInBounds_toArray, List.set_cons_zero, List.set_cons_succ, i64_w, i32_w]
       rfl
      refine pure_ (i := 31) (N := some 46) (v := ?_) (a' := ?_) (bb [32, 17]) rfl rfl (any_of HT_.out (by kernel_rfl)) (fun _ _ _ h => h) (Or.inl ⟨by rfl, ?_⟩) ?_ ?_
      rotate_left
      ·intro w'
       go_simp
       with_reducible rfl
      rotate_left
      ·simp only [Act.put, List.setIfInBounds_toArray, List.set_cons_zero, List.set_cons_succ, i64_w, i32_w]
       rfl
      refine pure_ (i := 32) (N := some 47) (v := ?_) (a' := ?_) (bb [33, 16]) rfl rfl (any_of HT_.out (by kernel_rfl)) (fun _ _ _ h => h) (Or.inl ⟨by rfl, ?_⟩) ?_ ?_
      rotate_left
      ·intro w'
       go_simp
       with_reducible rfl
      rotate_left
      ·simp only [Act.put, List.setIfInBounds_toArray, List.set_cons_zero, List.set_cons_succ, i64_w, i32_w]
       rfl
      refine pure_ (i := 33) (N := some 48) (v := undef) (a' := ?_) (bb [34, 15]) rfl rfl (any_of HT_.out (by kernel_rfl)) (fun _ _ _ h => h) (Or.inr ⟨by rfl, rfl⟩) ?_ ?_
      rotate_left
      ·simp only [Act.put, List.setIfInBounds_toArray, List.set_cons_zero, List.set_cons_succ, i64_w, i32_w]
       rfl
      refine pure_ (i := 34) (N := some 49) (v := undef) (a' := ?_) (bb [35, 14]) rfl rfl (any_of HT_.out (by kernel_rfl)) (fun _ _ _ h => h) (Or.inr ⟨by rfl, rfl⟩) ?_ ?_
      rotate_left
      ·simp only [Act.put, List.setIfInBounds_toArray, List.set_cons_zero, List.set_cons_succ, i64_w, i32_w]
       rfl
      refine pure_ (i := 35) (N := some 50) (v := undef) (a' := ?_) (bb [36, 13]) rfl rfl (any_of HT_.out (by kernel_rfl)) (fun _ _ _ h => h) (Or.inr ⟨by rfl, rfl⟩) ?_ ?_
      rotate_left
      ·simp only [Act.put, List.setIfInBounds_toArray, List.set_cons_zero, List.set_cons_succ, i64_w, i32_w]
       rfl
      refine pure_ (i := 36) (N := some 51) (v := undef) (a' := ?_) (bb [37, 12]) rfl rfl (any_of HT_.out (by kernel_rfl)) (fun _ _ _ h => h) (Or.inr ⟨by rfl, rfl⟩) ?_ ?_
      rotate_left
      ·simp only [Act.put, List.setIfInBounds_toArray, List.set_cons_zero, List.set_cons_succ, i64_w, i32_w]
       rfl
      refine pure_ (i := 37) (N := some 52) (v := undef) (a' := ?_) (bb [38, 11]) rfl rfl (any_of HT_.out (by kernel_rfl)) (fun _ _ _ h => h) (Or.inr ⟨by rfl, rfl⟩) ?_ ?_
      rotate_left
      ·simp only [Act.put, List.setIfInBounds_toArray, List.set_cons_zero, List.set_cons_succ, i64_w, i32_w]
       rfl
      refine pure_ (i := 38) (N := some 53) (v := undef) (a' := ?_) (bb [39, 10]) rfl rfl (any_of HT_.out (by kernel_rfl)) (fun _ _ _ h => h) (Or.inr ⟨by rfl, rfl⟩) ?_ ?_
      rotate_left
      ·simp only [Act.put, List.setIfInBounds_toArray, List.set_cons_zero, List.set_cons_succ, i64_w, i32_w]
       rfl
      refine pure_ (i := 39) (N := some 54) (v := undef) (a' := ?_) (bb [40, 9]) rfl rfl (any_of HT_.out (by kernel_rfl)) (fun _ _ _ h => h) (Or.inr ⟨by rfl, rfl⟩) ?_ ?_
      rotate_left
      ·simp only [Act.put, List.setIfInBounds_toArray, List.set_cons_zero, List.set_cons_succ, i64_w, i32_w]
       rfl
      refine pure_ (i := 40) (N := some 55) (v := undef) (a' := ?_) (bb [41, 8]) rfl rfl (any_of HT_.out (by kernel_rfl)) (fun _ _ _ h => h) (Or.inr ⟨by rfl, rfl⟩) ?_ ?_
      rotate_left
      ·simp only [Act.put, List.setIfInBounds_toArray, List.set_cons_zero, List.set_cons_succ, i64_w, i32_w]
       rfl
      refine pure_ (i := 41) (N := some 56) (v := undef) (a' := ?_) (bb [42, 7]) rfl rfl (any_of HT_.out (by kernel_rfl)) (fun _ _ _ h => h) (Or.inr ⟨by rfl, rfl⟩) ?_ ?_
      rotate_left
      ·simp only [Act.put, List.setIfInBounds_toArray, List.set_cons_zero, List.set_cons_succ, i64_w, i32_w]
       rfl
      refine pure_ (i := 42) (N := some 57) (v := ?_) (a' := ?_) (bb [43, 6]) rfl rfl (any_of HT_.out (by kernel_rfl)) (fun _ _ _ h => h) (Or.inl ⟨by rfl, ?_⟩) ?_ ?_
      rotate_left
      ·intro w'
       go_simp
       with_reducible rfl
      rotate_left
      ·simp only [Act.put, List.setIfInBounds_toArray, List.set_cons_zero, List.set_cons_succ, i64_w, i32_w]
       rfl
      refine pure_ (i := 43) (N := some 58) (v := ?_) (a' := ?_) (bb [44, 5]) rfl rfl (any_of HT_.out (by kernel_rfl)) (fun _ _ _ h => h) (Or.inl ⟨by rfl, ?_⟩) ?_ ?_
      rotate_left
      ·intro w'
       go_simp
       with_reducible rfl
      rotate_left
      ·simp only [Act.put, List.setIfInBounds_toArray, List.set_cons_zero, List.set_cons_succ, i64_w, i32_w]
       rfl
      refine pure_ (i := 44) (N := some 59) (v := undef) (a' := ?_) (bb [45, 4]) rfl rfl (any_of HT_.out (by kernel_rfl)) (fun _ _ _ h => h) (Or.inr ⟨by rfl, rfl⟩) ?_ ?_
      rotate_left
      ·simp only [Act.put, List.setIfInBounds_toArray, List.set_cons_zero, List.set_cons_succ, i64_w, i32_w]
       rfl
      refine pure_ (i := 45) (N := some 60) (v := undef) (a' := ?_) (bb [46, 3]) rfl rfl (any_of HT_.out (by kernel_rfl)) (fun _ _ _ h => h) (Or.inr ⟨by rfl, rfl⟩) ?_ ?_
      rotate_left
      ·simp only [Act.put, List.setIfInBounds_toArray, List.set_cons_zero, List.set_cons_succ, i64_w, i32_w]
       rfl
      refine pure_ (i := 46) (N := some 61) (v := undef) (a' := ?_) (bb [47, 2]) rfl rfl (any_of HT_.out (by kernel_rfl)) (fun _ _ _ h => h) (Or.inr ⟨by rfl, rfl⟩) ?_ ?_
      rotate_left
      ·simp only [Act.put, List.setIfInBounds_toArray, List.set_cons_zero, List.set_cons_succ, i64_w, i32_w]
       rfl
      refine pure_ (i := 47) (N := some 62) (v := undef) (a' := ?_) (bb [48, 1]) rfl rfl (any_of HT_.out (by kernel_rfl)) (fun _ _ _ h => h) (Or.inr ⟨by rfl, rfl⟩) ?_ ?_
      rotate_left
      ·simp only [Act.put, List.setIfInBounds_toArray, List.set_cons_zero, List.set_cons_succ, i64_w, i32_w]
       rfl
      refine pure_ (i := 48) (N := some 63) (v := ?_) (a' := ?_) (bb [49]) rfl rfl (any_of HT_.out (by kernel_rfl)) (fun _ _ _ h => h) (Or.inl ⟨by rfl, ?_⟩) ?_ ?_
      rotate_left
      ·intro w'
       go_simp
       with_reducible rfl
      rotate_left
      ·simp only [Act.put, List.setIfInBounds_toArray, List.set_cons_zero, List.set_cons_succ, i64_w, i32_w]
       rfl
      refine done_ (done_of HT_.out (by kernel_rfl)) ?_
      try go_wp2
      go_meet
      case rel => exact ⟨_, (true), (by first | rfl | (simp; done) | (simp [*]; done)), H', ⟨by have := HK1.out; first | omega | exact Nat.le_refl _⟩, ⟨by (with_reducible repeat (first | refine blk_drewN ?_ _ | refine blk_drew ?_ | refine blk_alloc ?_ _)); exact BK113.out⟩, ⟨by repeat (first | (with_reducible first | exact HB.out | apply below_alloc | apply pw_below_drewN | apply below_drew1 | refine below_set ?_ GE113.out) | exact HB.out)⟩⟩
    case rest =>
     clear HC5
     try clear c1
     try clear p2
     try clear c6
     try clear c8
     try clear c8b0
     try clear c8b1
     try clear c11
     obtain ⟨kq, x63_4, rfl, HA, HJ4, BK113, HB⟩ := hcut
     cases kq with
     | zero => exact absurd HA.out (by simp [spec_BuddyinfoPrint.j1])
     | succ kj4 =>
      have H := HA.out
      clear HA
      simp only [spec_BuddyinfoPrint.j1] at H
      by_cases c35 : x63_4 = true
      ·subst c35
       have H1 : (some ((⟨#[]⟩ : ByteArray), 2)) = some (r1, r2) := by rw [if_pos rfl] at H; exact H
       clear H
       have H := H1
       clear H1
       simp only [Option.some.injEq, Prod.mk.injEq] at H
       obtain ⟨rfl, rfl⟩ := H
       go_wp2
       go_ret2
       exact ⟨by first | rfl | (simp [errW_none, errW_some] <;> rfl) | (simp [*, errW_none, errW_some] <;> rfl), by repeat (first | (with_reducible first | exact HB.out | apply below_alloc | apply pw_below_drewN | apply below_drew1 | refine below_set ?_ GE113.out) | exact HB.out)⟩
      ·replace c35 := Bool.eq_false_iff.mpr c35
       subst c35
       have H1 : (if 0 < (((rd_T31 l0 x11_1).f2).length : Int) then (if 5 + (rdOf ByteArray.empty ((rd_T31 l0 x11_1).f2) 0).size ≤ 9223372036854775807 then (if ((⟨#[78, 111, 100, 101, 32]⟩ : ByteArray) ++ (rdOf ByteArray.empty ((rd_T31 l0 x11_1).f2) 0)).size + 7 ≤ 9223372036854775807 then (if 1 < (((rd_T31 l0 x11_1).f2).length : Int) then ((spec_Right.f kj4 (rdOf ByteArray.empty ((rd_T31 l0 x11_1).f2) 1) 8).bind fun t123 => (if (((⟨#[78, 111, 100, 101, 32]⟩ : ByteArray) ++ (rdOf ByteArray.empty ((rd_T31 l0 x11_1).f2) 0)) ++ (⟨#[44, 32, 122, 111, 110, 101, 32]⟩ : ByteArray)).size + t123.size ≤ 9223372036854775807 then (if ((((⟨#[78, 111, 100, 101, 32]⟩ : ByteArray) ++ (rdOf ByteArray.empty ((rd_T31 l0 x11_1).f2) 0)) ++ (⟨#[44, 32, 122, 111, 110, 101, 32]⟩ : ByteArray)) ++ t123).size + 1 ≤ 9223372036854775807 then (if x4_1.size + (((((⟨#[78, 111, 100, 101, 32]⟩ : ByteArray) ++ (rdOf ByteArray.empty ((rd_T31 l0 x11_1).f2) 0)) ++ (⟨#[44, 32, 122, 111, 110, 101, 32]⟩ : ByteArray)) ++ t123) ++ (⟨#[32]⟩ : ByteArray)).size ≤ 9223372036854775807 then (spec_BuddyinfoPrint.l1 kj4 l0 (x4_1 ++ (((((⟨#[78, 111, 100, 101, 32]⟩ : ByteArray) ++ (rdOf ByteArray.empty ((rd_T31 l0 x11_1).f2) 0)) ++ (⟨#[44, 32, 122, 111, 110, 101, 32]⟩ : ByteArray)) ++ t123) ++ (⟨#[32]⟩ : ByteArray))) l0 (l0.length : Int) x11_1 ((rd_T31 l0 x11_1).f1) (((rd_T31 l0 x11_1).f1).length : Int) 0) else (none)) else (none)) else (none))) else (none)) else (none)) else (none)) else (none)) = some (r1, r2) := by rw [if_neg (show ¬ (false = true) by decide)] at H; exact H
       clear H
       have H := H1
       clear H1
       replace H := guard_inv H
       obtain ⟨c36, H⟩ := H
       have c36b0 : decide (0 < (((rd_T31 l0 x11_1).f2).length : Int)) = true := decide_eq_true c36
       have c36b1 : decide (0 < ((rd_T31 l0 x11_1).f2).length) = true := decide_eq_true (by omega)
       clear c36
       replace H := guard_inv H
       obtain ⟨c37, H⟩ := H
       have c37b0 := eq_true c37
       have c37b1 := decide_eq_true c37
       try have c37b2 := eq_false (Nat.not_lt.2 c37)
       replace H := guard_inv H
       obtain ⟨c38, H⟩ := H
       have c38b0 := eq_true c38
       have c38b1 := decide_eq_true c38
       try have c38b2 := eq_false (Nat.not_lt.2 c38)
       try have c38b5 : (9223372036854775807 < 5 + (rdOf ByteArray.empty ((rd_T31 l0 x11_1).f2) 0).size + 7) = False := by have e_ := c38b2; (repeat rw [ByteArray.size_append] at e_); exact e_
       replace H := guard_inv H
       obtain ⟨c39, H⟩ := H
       have c39b0 : decide (1 < (((rd_T31 l0 x11_1).f2).length : Int)) = true := decide_eq_true c39
       have c39b1 : decide (1 < ((rd_T31 l0 x11_1).f2).length) = true := decide_eq_true (by omega)
       clear c39
       replace H := Option.bind_eq_some_iff.mp H
       obtain ⟨t123, A400, H⟩ := H
       try dsimp -simprocs only at H
       have A40 := Aside0.mk A400
       clear A400
       replace H := guard_inv H
       obtain ⟨c41, H⟩ := H
       have c41b0 := eq_true c41
       have c41b1 := decide_eq_true c41
       try have c41b2 := eq_false (Nat.not_lt.2 c41)
       try have c41b5 : (9223372036854775807 < 5 + (rdOf ByteArray.empty ((rd_T31 l0 x11_1).f2) 0).size + 7 + t123.size) = False := by have e_ := c41b2; (repeat rw [ByteArray.size_append] at e_); exact e_
       replace H := guard_inv H
       obtain ⟨c42, H⟩ := H
       have c42b0 := eq_true c42
       have c42b1 := decide_eq_true c42
       try have c42b2 := eq_false (Nat.not_lt.2 c42)
       try have c42b5 : (9223372036854775807 < 5 + (rdOf ByteArray.empty ((rd_T31 l0 x11_1).f2) 0).size + 7 + t123.size + 1) = False := by have e_ := c42b2; (repeat rw [ByteArray.size_append] at e_); exact e_
       replace H := guard_inv H
       obtain ⟨c43, H⟩ := H
       have c43b0 := eq_true c43
       have c43b1 := decide_eq_true c43
       try have c43b2 := eq_false (Nat.not_lt.2 c43)
       try have c43b5 : (9223372036854775807 < x4_1.size + (5 + (rdOf ByteArray.empty ((rd_T31 l0 x11_1).f2) 0).size + 7 + t123.size + 1)) = False := by have e_ := c43b2; (repeat rw [ByteArray.size_append] at e_); exact e_
       have H' := Aside0.mk H
       clear H
       try go_wp2
       have n0_ := Aside0.mk (blk_drew BK113.out)
       have n1_ := Aside0.mk (below_drew1 HB.out)
       clear BK113
       clear HB
       have BK113 := n0_
       have HB := n1_
       clear n0_ n1_
       have p121 : 0 ≤ (0 : Int) := (by omega)
       have q121 : 0 < (((rd_T31 l0 x11_1).f2).length : Int) := of_decide_eq_true (by first | (with_reducible assumption) | assumption)
       obtain ⟨ad121, e121, hx121_0⟩ := Kd.at_string HR112_2.out 0 p121 q121
       have hw121_0 := hx121_0
       (try rw [show ((0 : Int)).toNat = 0 from rfl] at hw121_0)
       (try rw [show 0 * 1 = 0 from rfl] at hw121_0)
       (try rw [Addr.add_zero'] at hw121_0)
       cases e121
       have qi121 : (0 < ((rd_T31 l0 x11_1).f2).length) = True := eq_true (by omega)
       (try rw [show ((0 : Int)).toNat = 0 from rfl] at hx121_0)
       (try rw [Addr.add_zero'] at hx121_0)
       replace hx121_0 := (HB.out.cell (World.block_lt_of_cell? w _ hx121_0)).trans hx121_0
       replace p121 := eq_true p121
       replace q121 := eq_true q121
       have p122 : 0 ≤ (1 : Int) := (by omega)
       have q122 : 1 < (((rd_T31 l0 x11_1).f2).length : Int) := of_decide_eq_true (by first | (with_reducible assumption) | assumption)
       obtain ⟨ad122, e122, hx122_0⟩ := Kd.at_string HR112_2.out 1 p122 q122
       have hw122_0 := hx122_0
       (try rw [show ((1 : Int)).toNat = 1 from rfl] at hw122_0)
       (try rw [show 1 * 1 = 1 from rfl] at hw122_0)
       (try simp only [Nat.reduceMul, Nat.reduceEqDiff, Go.Addr.add, ↓reduceIte] at hw122_0)
       obtain rfl : ad121 = ad122 := (by injection e122)
       (try simp only [show (1 : Int).toNat = 1 from rfl, Nat.reduceMul, Nat.reduceEqDiff, Go.Addr.add, ↓reduceIte] at hx122_0)
       have qi122 : (1 < ((rd_T31 l0 x11_1).f2).length) = True := eq_true (by omega)
       (try rw [show ((1 : Int)).toNat = 1 from rfl] at hx122_0)
       replace hx122_0 := (HB.out.cell (World.block_lt_of_cell? w _ hx122_0)).trans hx122_0
       replace p122 := eq_true p122
       replace q122 := eq_true q122
       refine start_ (n := 16) (S := fun w' => w'.cell? ⟨gb113, 0, none⟩ = some (.string ((rd_T31 l0 x11_1).f0)) ∧ w'.cell? ⟨gb113, 1, none⟩ = some (.slice A112_1 ((rd_T31 l0 x11_1).f1).length c112_1) ∧ w'.cell? ⟨gb113, 2, none⟩ = some (.slice (some ad121) ((rd_T31 l0 x11_1).f2).length c112_2) ∧ w'.cell? ad121 = some (.string (rdOf ByteArray.empty ((rd_T31 l0 x11_1).f2) 0)) ∧ w'.cell? ⟨ad121.block, ad121.off + 1, none⟩ = some (.string (rdOf ByteArray.empty ((rd_T31 l0 x11_1).f2) 1))) (ds := []) (bb [0, 16]) (by kernel_rfl) rfl rfl ⟨(blk_cell BK113.out 0).trans rfl, (blk_cell BK113.out 1).trans rfl, (blk_cell BK113.out 2).trans rfl, ((HB.out.cell (World.block_lt_of_cell? w _ hw121_0)).trans hw121_0), ((HB.out.cell (World.block_lt_of_cell? w _ hw122_0)).trans hw122_0)⟩ (fun hHeld => ?_); refine with_tabW spec_BuddyinfoPrint.tab7 spec_BuddyinfoPrint.bits7 (fun HT_ HW_ => ?_)
       generalize wc.drew = w44 at BK113 HB hx121_0 hx122_0 hHeld ⊢
       refine pure_ (i := 0) (N := some 64) (v := ?_) (a' := ?_) (bb [1, 15]) rfl rfl (any_of HT_.out (by kernel_rfl)) (fun _ _ _ h => h) (Or.inl ⟨by rfl, ?_⟩) ?_ ?_
       rotate_left
       ·intro w'
        go_simp
        with_reducible rfl
       rotate_left
       ·simp only [Act.put, List.setIfInBounds_toArray, List.set_cons_zero, List.set_cons_succ, i64_w, i32_w]
        rfl
       refine pure_ (i := 1) (N := some 65) (v := ?_) (a' := ?_) (bb [2, 14]) rfl rfl (any_of HT_.out (by kernel_rfl)) (fun _ _ _ h => h) (Or.inl ⟨by rfl, ?_⟩) ?_ ?_
       rotate_left
       ·intro w'
        go_simp
        with_reducible rfl
       rotate_left
       ·simp only [Act.put, List.setIfInBounds_toArray, List.set_cons_zero, List.set_cons_succ, i64_w, i32_w]
        rfl
       refine pure_ (i := 7) (N := some 71) (v := ?_) (a' := ?_) (bb [2, 5, 1, 8]) rfl rfl (any_of HT_.out (by kernel_rfl)) (fun _ _ _ h => h) (Or.inl ⟨by rfl, ?_⟩) ?_ ?_
       rotate_left
       ·intro w'
        go_simp
        with_reducible rfl
       rotate_left
       ·simp only [Act.put, List.setIfInBounds_toArray, List.set_cons_zero, List.set_cons_succ, i64_w, i32_w]
        rfl
       refine take_ (i := 2) (N := some 66) (v := ?_) (a' := ?_) (bb [3, 4, 1, 8]) rfl rfl (take_ofW HT_.out HW_.out (by kernel_rfl)) (fun _ _ _ h => h) (Or.inl ⟨by rfl, ?_⟩) hHeld ?_ ?_
       rotate_left
       ·rintro w' ⟨s0, s1, s2, s3, s4⟩
        go_simp
        with_reducible rfl
       rotate_left
       ·simp only [Act.put, List.setIfInBounds_toArray, List.set_cons_zero, List.set_cons_succ, i64_w, i32_w]
        rfl
       refine pure_ (i := 3) (N := some 67) (v := ?_) (a' := ?_) (bb [4, 3, 1, 8]) rfl rfl (any_of HT_.out (by kernel_rfl)) (fun _ _ _ h => h) (Or.inl ⟨by rfl, ?_⟩) ?_ ?_
       rotate_left
       ·intro w'
        go_simp
        with_reducible rfl
       rotate_left
       ·simp only [Act.put, List.setIfInBounds_toArray, List.set_cons_zero, List.set_cons_succ, i64_w, i32_w]
        rfl
       refine take_ (i := 4) (N := some 68) (v := ?_) (a' := ?_) (bb [5, 2, 1, 8]) rfl rfl (take_ofW HT_.out HW_.out (by kernel_rfl)) (fun _ _ _ h => h) (Or.inl ⟨by rfl, ?_⟩) hHeld ?_ ?_
       rotate_left
       ·rintro w' ⟨s0, s1, s2, s3, s4⟩
        go_simp
        with_reducible rfl
       rotate_left
       ·simp only [Act.put, List.setIfInBounds_toArray, List.set_cons_zero, List.set_cons_succ, i64_w, i32_w]
        rfl
       refine pure_ (i := 5) (N := some 69) (v := ?_) (a' := ?_) (bb [6, 1, 1, 8]) rfl rfl (any_of HT_.out (by kernel_rfl)) (fun _ _ _ h => h) (Or.inl ⟨by rfl, ?_⟩) ?_ ?_
       rotate_left
       ·intro w'
        go_simp
        with_reducible rfl
       rotate_left
       ·simp only [Act.put, List.setIfInBounds_toArray, List.set_cons_zero, List.set_cons_succ, i64_w, i32_w]
        rfl
       refine pure_ (i := 6) (N := some 70) (v := ?_) (a' := ?_) (bb [8, 8]) rfl rfl (any_of HT_.out (by kernel_rfl)) (fun _ _ _ h => h) (Or.inl ⟨by rfl, ?_⟩) ?_ ?_
       rotate_left
       ·intro w'
        go_simp
        with_reducible rfl
       rotate_left
       ·simp only [Act.put, List.setIfInBounds_toArray, List.set_cons_zero, List.set_cons_succ, i64_w, i32_w]
        rfl
       refine take_ (i := 8) (N := some 72) (v := ?_) (a' := ?_) (bb [9, 7]) rfl rfl (take_ofW HT_.out HW_.out (by kernel_rfl)) (fun _ _ _ h => h) (Or.inl ⟨by rfl, ?_⟩) hHeld ?_ ?_
       rotate_left
       ·rintro w' ⟨s0, s1, s2, s3, s4⟩
        go_simp
        with_reducible rfl
       rotate_left
       ·simp only [Act.put, List.setIfInBounds_toArray, List.set_cons_zero, List.set_cons_succ, i64_w, i32_w]
        rfl
       refine pure_ (i := 9) (N := some 73) (v := ?_) (a' := ?_) (bb [10, 6]) rfl rfl (any_of HT_.out (by kernel_rfl)) (fun _ _ _ h => h) (Or.inl ⟨by rfl, ?_⟩) ?_ ?_
       rotate_left
       ·intro w'
        go_simp
        with_reducible rfl
       rotate_left
       ·simp only [Act.put, List.setIfInBounds_toArray, List.set_cons_zero, List.set_cons_succ, i64_w, i32_w]
        rfl
       refine take_ (i := 10) (N := some 74) (v := ?_) (a' := ?_) (bb [11, 5]) rfl rfl (take_ofW HT_.out HW_.out (by kernel_rfl)) (fun _ _ _ h => h) (Or.inl ⟨by rfl, ?_⟩) hHeld ?_ ?_
       rotate_left
       ·rintro w' ⟨s0, s1, s2, s3, s4⟩
        go_simp
        with_reducible rfl
       rotate_left
       ·simp only [Act.put, List.setIfInBounds_toArray, List.set_cons_zero, List.set_cons_succ, i64_w, i32_w]
        rfl
       refine one_ (i := 11) (N := some 75) (bb [12, 4]) rfl rfl (one_of HT_.out (by kernel_rfl)) (by decide) (fun K hK => ?_)
       refine goes_ Tryz.func64 (by kernel_rfl) rfl #[.string (rdOf ByteArray.empty ((rd_T31 l0 x11_1).f2) 1), .int .i64 8] (by rfl) rfl rfl (by (try simp only [List.map_toArray, List.map_cons, List.map_nil]); first | done | rfl | (simp only [List.length_drop, List.length_take]; rfl)) ?_
       with_reducible refine (spec_Right.calls kj4 (rdOf ByteArray.empty ((rd_T31 l0 x11_1).f2) 1) 8 t123 _ A40.out).mono ?_
       rintro e w' ⟨rfl, ⟨nd, rfl⟩⟩
       refine ⟨_, rfl, ?_⟩
       refine hK.out _ _ ⟨(blk_cell BK113.out 0).trans rfl, (blk_cell BK113.out 1).trans rfl, (blk_cell BK113.out 2).trans rfl, ((HB.out.cell (World.block_lt_of_cell? w _ hw121_0)).trans hw121_0), ((HB.out.cell (World.block_lt_of_cell? w _ hw122_0)).trans hw122_0)⟩ (fun hHeld => ?_)
       clear hK K
       refine norm_ (a' := ?_) ?_ ?_
       rotate_left
       ·show Act.put _ (some 75) _ = _
        simp only [Act.put, List.setIfInBounds_toArray, List.set_cons_zero, List.set_cons_succ, i64_w, i32_w]
        rfl
       refine pure_ (i := 12) (N := some 76) (v := ?_) (a' := ?_) (bb [13, 3]) rfl rfl (any_of HT_.out (by kernel_rfl)) (fun _ _ _ h => h) (Or.inl ⟨by rfl, ?_⟩) ?_ ?_
       rotate_left
       ·intro w'
        go_simp
        with_reducible rfl
       rotate_left
       ·simp only [Act.put, List.setIfInBounds_toArray, List.set_cons_zero, List.set_cons_succ, i64_w, i32_w]
        rfl
       refine pure_ (i := 13) (N := some 77) (v := ?_) (a' := ?_) (bb [14, 2]) rfl rfl (any_of HT_.out (by kernel_rfl)) (fun _ _ _ h => h) (Or.inl ⟨by rfl, ?_⟩) ?_ ?_
       rotate_left
       ·intro w'
        go_simp
        with_reducible rfl
       rotate_left
       ·simp only [Act.put, List.setIfInBounds_toArray, List.set_cons_zero, List.set_cons_succ, i64_w, i32_w]
        rfl
       refine pure_ (i := 14) (N := some 78) (v := ?_) (a' := ?_) (bb [15, 1]) rfl rfl (any_of HT_.out (by kernel_rfl)) (fun _ _ _ h => h) (Or.inl ⟨by rfl, ?_⟩) ?_ ?_
       rotate_left
       ·intro w'
        go_simp
        with_reducible rfl
       rotate_left
       ·simp only [Act.put, List.setIfInBounds_toArray, List.set_cons_zero, List.set_cons_succ, i64_w, i32_w]
        rfl
       refine pure_ (i := 15) (N := some 4) (v := ?_) (a' := ?_) (bb [16]) rfl rfl (any_of HT_.out (by kernel_rfl)) (fun _ _ _ h => h) (Or.inl ⟨by rfl, ?_⟩) ?_ ?_
       rotate_left
       ·intro w'
        go_simp
        with_reducible rfl
       rotate_left
       ·simp only [Act.put, List.setIfInBounds_toArray, List.set_cons_zero, List.set_cons_succ, i64_w, i32_w]
        rfl
       refine done_ (done_of HT_.out (by kernel_rfl)) ?_
       have hcz45_0 : w44.cell? ⟨gb113, 0, none⟩ = some (.string ((rd_T31 l0 x11_1).f0)) := (blk_cell BK113.out 0).trans rfl
       have hcz45_1 : w44.cell? ⟨gb113, 1, none⟩ = some (.slice A112_1 ((rd_T31 l0 x11_1).f1).length c112_1) := (blk_cell BK113.out 1).trans rfl
       have hcz45_2 : w44.cell? ⟨gb113, 2, none⟩ = some (.slice (some ad121) ((rd_T31 l0 x11_1).f2).length c112_2) := (blk_cell BK113.out 2).trans rfl
       have hfz45_0 := blk_frozen BK113.out 0
       have hfz45_1 := blk_frozen BK113.out 1
       have hfz45_2 := blk_frozen BK113.out 2
       try go_wp2
       go_loopg [4, 82] kj4 (fun kq v4 v82 w' => ∃ (x4_3 : ByteArray) (x82_3 : Int), v4 = .string x4_3 ∧ v82 = .int .i64 x82_3 ∧ Aside0 (spec_BuddyinfoPrint.l1 kq l0 x4_3 l0 (l0.length : Int) x11_1 ((rd_T31 l0 x11_1).f1) (((rd_T31 l0 x11_1).f1).length : Int) x82_3 = some (r1, r2)) ∧ Aside0 (kq ≤ kj4) ∧ Aside0 (w'.heap[gb113]? = some (.cells #[.string ((rd_T31 l0 x11_1).f0), (.slice A112_1 ((rd_T31 l0 x11_1).f1).length c112_1), (.slice (some ad121) ((rd_T31 l0 x11_1).f2).length c112_2)] 31 (0, 0))) ∧ Aside0 (Below w.heap.size w w'))
       case atStart => exact ⟨(x4_1 ++ (((((⟨#[78, 111, 100, 101, 32]⟩ : ByteArray) ++ (rdOf ByteArray.empty ((rd_T31 l0 x11_1).f2) 0)) ++ (⟨#[44, 32, 122, 111, 110, 101, 32]⟩ : ByteArray)) ++ t123) ++ (⟨#[32]⟩ : ByteArray))), (0), (by first | rfl | (simp; done) | (simp [*]; done)), (by first | rfl | (simp; done) | (simp [*]; done)), H', ⟨Nat.le_refl _⟩, ⟨by (with_reducible repeat (first | refine blk_drewN ?_ _ | refine blk_drew ?_ | refine blk_alloc ?_ _)); exact BK113.out⟩, ⟨by repeat (first | (with_reducible first | exact HB.out | apply below_alloc | apply pw_below_drewN | apply below_drew1 | refine below_set ?_ GE113.out) | exact HB.out)⟩⟩
       case round =>
        clear H'
        try clear c1
        try clear p1
        try clear q1
        try clear hx1
        try clear qi1
        try clear p2
        try clear c3
        try clear c4
        try clear c6
        try clear c8
        try clear c8b0
        try clear c8b1
        try clear c11
        try clear p12
        try clear q12
        try clear hx12
        try clear qi12
        try clear c35
        try clear c36
        try clear c36b0
        try clear c36b1
        try clear c37
        try clear c37b0
        try clear c37b1
        try clear c37b2
        try clear c38
        try clear c38b0
        try clear c38b1
        try clear c38b2
        try clear c39
        try clear c39b0
        try clear c39b1
        try clear c41
        try clear c41b0
        try clear c41b1
        try clear c41b2
        try clear c42
        try clear c42b0
        try clear c42b1
        try clear c42b2
        try clear c43
        try clear c43b0
        try clear c43b1
        try clear c43b2
        try clear hcz45_0
        try clear hcz45_1
        try clear hcz45_2
        try clear hfz45_0
        try clear hfz45_1
        try clear hfz45_2
        try clear hx121_0
        try clear hx122_0
        try clear p121
        try clear p122
        try clear p2
        try clear q121
        try clear q122
        obtain ⟨x4_3, x82_3, rfl, rfl, HA, HK3, BK113, HB⟩ := hrel
        cases gk with
        | zero => exact absurd HA.out (by simp [spec_BuddyinfoPrint.l1])
        | succ k3 =>
         have H := HA.out
         clear HA
         simp only [spec_BuddyinfoPrint.l1] at H
         by_cases c46 : x82_3 < (((rd_T31 l0 x11_1).f1).length : Int)
         ·rw [if_pos c46] at H
          have c46b0 : decide (x82_3 < (((rd_T31 l0 x11_1).f1).length : Int)) = true := decide_eq_true c46
          clear c46
          replace H := guard_inv H
          obtain ⟨c47, H⟩ := H
          have c47b0 : decide (0 ≤ x82_3) = true := decide_eq_true c47
          clear c47
          replace H := guard_inv H
          obtain ⟨c48, H⟩ := H
          have c48b0 : decide (x82_3 < (((rd_T31 l0 x11_1).f1).length : Int)) = true := decide_eq_true c48
          clear c48
          replace H := Option.bind_eq_some_iff.mp H
          obtain ⟨t125, A490, H⟩ := H
          try dsimp -simprocs only at H
          have A49 := Aside0.mk A490
          clear A490
          replace H := Option.bind_eq_some_iff.mp H
          obtain ⟨t126, A500, H⟩ := H
          try dsimp -simprocs only at H
          have A50 := Aside0.mk A500
          clear A500
          replace H := guard_inv H
          obtain ⟨c51, H⟩ := H
          have c51b0 := eq_true c51
          have c51b1 := decide_eq_true c51
          try have c51b2 := eq_false (Nat.not_lt.2 c51)
          replace H := guard_inv H
          obtain ⟨c52, H⟩ := H
          have c52b0 := eq_true c52
          have c52b1 := decide_eq_true c52
          try have c52b2 := eq_false (Nat.not_lt.2 c52)
          try have c52b5 : (9223372036854775807 < x4_3.size + (t126.size + 1)) = False := by have e_ := c52b2; (repeat rw [ByteArray.size_append] at e_); exact e_
          have H' := Aside0.mk H
          clear H
          have p124 : 0 ≤ (x82_3 : Int) := of_decide_eq_true (by first | (with_reducible assumption) | assumption)
          have q124 : x82_3 < (((rd_T31 l0 x11_1).f1).length : Int) := of_decide_eq_true (by first | (with_reducible assumption) | assumption)
          obtain ⟨ad124, e124, hx124_0⟩ := Kd.at_int HR112_1.out x82_3 p124 q124
          cases e124
          replace hx124_0 := (HB.out.cell (World.block_lt_of_cell? w _ hx124_0)).trans hx124_0
          replace p124 := eq_true p124
          replace q124 := eq_true q124
          go_wp2_with (first | ((with_reducible refine gate_callee (f := 52) rfl ?_); refine goesL_ (some 88) rfl rfl Tryz.func52 (by kernel_rfl) rfl #[.int .u64 (rd ((rd_T31 l0 x11_1).f1) x82_3)] rfl (by (try simp only [List.map_toArray, List.map_cons, List.map_nil]); first | done | rfl | (simp only [List.length_drop, List.length_take]; rfl)) ?_; (with_reducible refine (spec_Text.calls k3 (rd ((rd_T31 l0 x11_1).f1) x82_3) t125 _ A49.out).mono ?_); rintro e w53 ⟨rfl, hb⟩; refine ⟨_, rfl, ?_⟩; have n0_ := Aside0.mk (blk_below (g := gb113) (o := .cells #[.string ((rd_T31 l0 x11_1).f0), .slice (some ad124) ((rd_T31 l0 x11_1).f1).length c112_1, .slice (some ad121) ((rd_T31 l0 x11_1).f2).length c112_2] 31 (0, 0)) (by (with_reducible repeat (first | refine blk_drewN ?_ _ | refine blk_drew ?_ | refine blk_alloc ?_ _)); exact BK113.out) hb); have n1_ := Aside0.mk (below_step (by repeat (first | (with_reducible first | exact HB.out | apply below_alloc | apply pw_below_drewN | apply below_drew1 | refine below_set ?_ GE113.out) | exact HB.out)) hb); clear BK113; clear HB; have BK113 := n0_; have HB := n1_; clear n0_ n1_; (try clear hb); (try clear hb2); (try clear hk); (try clear hi)) | ((with_reducible refine gate_callee (f := 64) rfl ?_); refine goesL_ (some 89) rfl rfl Tryz.func64 (by kernel_rfl) rfl #[.string t125, .int .i64 6] rfl (by (try simp only [List.map_toArray, List.map_cons, List.map_nil]); first | done | rfl | (simp only [List.length_drop, List.length_take]; rfl)) ?_; (with_reducible refine (spec_Right.calls k3 t125 6 t126 _ A50.out).mono ?_); rintro e w' ⟨rfl, ⟨nd, rfl⟩⟩; refine ⟨_, rfl, ?_⟩))
          go_roundg k3
          case measure => have := HK1.out; have := HJ4.out; have := HK3.out; omega
          case rel => exact ⟨(x4_3 ++ (t126 ++ (⟨#[32]⟩ : ByteArray))), (wrap64 (x82_3 + 1)), (by first | rfl | (simp; done) | (simp [*]; done)), (by first | rfl | (simp; done) | (simp [*]; done)), H', ⟨by have := HK1.out; have := HJ4.out; have := HK3.out; omega⟩, ⟨by (with_reducible repeat (first | refine blk_drewN ?_ _ | refine blk_drew ?_ | refine blk_alloc ?_ _)); exact BK113.out⟩, ⟨by repeat (first | (with_reducible first | exact HB.out | apply below_alloc | apply pw_below_drewN | apply below_drew1 | refine below_set ?_ GE113.out) | exact HB.out)⟩⟩
         ·rw [if_neg c46] at H
          have c46b0 : decide (x82_3 < (((rd_T31 l0 x11_1).f1).length : Int)) = false := decide_eq_false c46
          clear c46
          replace H := guard_inv H
          obtain ⟨c54, H⟩ := H
          have c54b0 := eq_true c54
          have c54b1 := decide_eq_true c54
          try have c54b2 := eq_false (Nat.not_lt.2 c54)
          have H' := Aside0.mk H
          clear H
          go_wp2
          go_roundg k3
          case measure => have := HK1.out; have := HJ4.out; have := HK3.out; omega
          case rel => exact ⟨(x4_3 ++ (⟨#[10]⟩ : ByteArray)), (wrap64 (x11_1 + 1)), (by first | rfl | (simp; done) | (simp [*]; done)), (by first | rfl | (simp; done) | (simp [*]; done)), H', ⟨by have := HK1.out; have := HJ4.out; have := HK3.out; omega⟩, ⟨by repeat (first | (with_reducible first | exact HB.out | apply below_alloc | apply pw_below_drewN | apply below_drew1 | refine below_set ?_ GE113.out) | exact HB.out)⟩⟩
   ·rw [if_neg c2] at H
    have c2b0 : decide (x11_1 < (l0.length : Int)) = false := decide_eq_false c2
    clear c2
    simp only [Option.some.injEq, Prod.mk.injEq] at H
    obtain ⟨rfl, rfl⟩ := H
    go_wp2
    go_ret2
    exact ⟨by first | rfl | (simp [errW_none, errW_some] <;> rfl) | (simp [*, errW_none, errW_some] <;> rfl), by repeat (first | (with_reducible first | exact HB.out | apply below_alloc | apply pw_below_drewN | apply below_drew1) | exact HB.out)⟩
end Go.Proofs.YtednjmngalmdkaaGreatDoor.GPC
end
