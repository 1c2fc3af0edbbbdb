/- Rows of pointers to mounts (kptr); how a line and a text of mounts is read (lineF, textF). Plain definitions and small laws. -/
import Derived.Test.YtdmccakncgdbhaaDoorGivenFlt
import Derived.Test.YtdmccakncgdbhaaDoorGMAx2
import Derived.Test.YtdmccakncgdbhaaDoorGMAx3
namespace Go.Proofs.YtdmccakncgdbhaaDoor.GMA
open Go.RowKit Go.Proofs.YtdmccakncgdbhaaDoorW.PrintWords Go.Proofs.YtdmccakncgdbhaaDoorW Go.Proofs.YtdmccakncgdbhaaDoor.GL
set_option linter.unusedVariables false
/-- A pointer to a mount in a block of its own. -/
def kptr : Kd S36 where
  sz := 1
  E := [57]
  K := fun w x cs => ∃ b, cs = [.pointer (some ⟨b, 0, none⟩)] ∧ w.heap[b]? = some (infoObj x)
  M := fun w base ok x cs => ∃ b, cs = [.pointer (some ⟨b, 0, none⟩)] ∧ w.heap[b]? = some (infoObj x) ∧ base ≤ b ∧ ok b
  K_len := by rintro w x cs ⟨b, rfl, _⟩; rfl
  K_one := by rintro w x cs ⟨b, rfl, _⟩ u hu; simp at hu; subst hu; rfl
  K_below := by rintro w w1 x cs hb ⟨b, rfl, h⟩; exact ⟨b, rfl, blk_below h hb⟩
  K_of_M := by rintro w base ok x cs ⟨b, rfl, h, _⟩; exact ⟨b, rfl, h⟩
  M_mono := by rintro w base ok ok' x cs ho ⟨b, rfl, h, h1, h2⟩; exact ⟨b, rfl, h, h1, ho _ h2⟩
  M_bound := by rintro w base ok x cs ⟨b, rfl, h, h1, h2⟩; exact ⟨b, rfl, h, h1, h2, h1, blk_lt h, 57, by simp, _, h⟩
  M_move := by rintro w w1 base ok x cs hm ⟨b, rfl, h, h1, h2⟩; exact ⟨b, rfl, (hm b h2).trans h, h1, h2⟩
  M_lower := by rintro w base base' ok x cs hb ⟨b, rfl, h, h1, h2⟩; exact ⟨b, rfl, h, Nat.le_trans hb h1, h2⟩
/-- The mount that a line says. -/
def joinF (fs : List ByteArray) : ByteArray := ⟨(Lib.join (((fs.take (fs.length - 4)).drop 6).map (·.data.toList)) [32]).toArray⟩
def lineF (k : Nat) (t : ByteArray) : Option S36 :=
  (mountinfo_zzSplit.f k t ⟨#[32]⟩).bind fun fs =>
  if 10 ≤ fs.length ∧ fs.length ≤ 1000000 ∧ (rdOf ByteArray.empty fs ((fs.length : Int) - 4)).toList = [45] ∧ (Lib.join (((fs.take (fs.length - 4)).drop 6).map (·.data.toList)) [32]).length ≤ 140737488355328 then
    (mountinfo_zzCut.f k (rdOf ByteArray.empty fs 2) ⟨#[58]⟩).bind fun c =>
    if c.2.2 = true then
      (mountinfo_toInt.f (rdOf ByteArray.empty fs 0)).bind fun i0 =>
      (mountinfo_toInt.f (rdOf ByteArray.empty fs 1)).bind fun i1 =>
      (mountinfo_toInt.f c.1).bind fun i2 =>
      (mountinfo_toInt.f c.2.1).bind fun i3 =>
      (mountinfo_unescape.f k (rdOf ByteArray.empty fs 3)).bind fun s4 =>
      (mountinfo_unescape.f k (rdOf ByteArray.empty fs 4)).bind fun s5 =>
      (mountinfo_unescape.f k (rdOf ByteArray.empty fs ((fs.length : Int) - 3))).bind fun s8 =>
      (mountinfo_unescape.f k (rdOf ByteArray.empty fs ((fs.length : Int) - 2))).bind fun s9 =>
      if s5.size ≤ 1000000 then some ⟨i0, i1, i2, i3, s4, s5, rdOf ByteArray.empty fs 5, joinF fs, s8, s9, rdOf ByteArray.empty fs ((fs.length : Int) - 1)⟩ else none
    else none
  else none
/-- The mounts that a text says, line by line. -/
def textF (k : Nat) : Nat → ByteArray → Option (List S36)
  | 0, _ => none
  | q + 1, t => if t.size = 0 then some [] else
      if t.size ≤ 1000000 ∧ lineEnd t < 65536 ∧ ¬ bt (lineOf t) ((lineOf t).size - 1) = 13 then
        (lineF k (lineOf t)).bind fun m => (textF k q (restOf t)).bind fun ms => some (m :: ms)
      else none
theorem restOf_size (t : ByteArray) (h : 0 < t.size) : (restOf t).size < t.size := by
  unfold restOf
  rw [ByteArray.size_extract]
  have := lineEnd_le t
  split <;> omega
theorem lineF_some {k : Nat} {t : ByteArray} {m : S36} (h : lineF k t = some m) : ∃ (fs : List ByteArray) (mj mn : ByteArray), mountinfo_zzSplit.f k t ⟨#[32]⟩ = some fs ∧ 10 ≤ fs.length ∧ fs.length ≤ 1000000 ∧
    (rdOf ByteArray.empty fs ((fs.length : Int) - 4)).toList = [45] ∧ (Lib.join (((fs.take (fs.length - 4)).drop 6).map (·.data.toList)) [32]).length ≤ 140737488355328 ∧
    mountinfo_zzCut.f k (rdOf ByteArray.empty fs 2) ⟨#[58]⟩ = some (mj, mn, true) ∧ mountinfo_toInt.f (rdOf ByteArray.empty fs 0) = some m.f0 ∧ mountinfo_toInt.f (rdOf ByteArray.empty fs 1) = some m.f1 ∧
    mountinfo_toInt.f mj = some m.f2 ∧ mountinfo_toInt.f mn = some m.f3 ∧ mountinfo_unescape.f k (rdOf ByteArray.empty fs 3) = some m.f4 ∧ mountinfo_unescape.f k (rdOf ByteArray.empty fs 4) = some m.f5 ∧
    mountinfo_unescape.f k (rdOf ByteArray.empty fs ((fs.length : Int) - 3)) = some m.f8 ∧ mountinfo_unescape.f k (rdOf ByteArray.empty fs ((fs.length : Int) - 2)) = some m.f9 ∧
    m.f6 = rdOf ByteArray.empty fs 5 ∧ m.f7 = joinF fs ∧ m.f10 = rdOf ByteArray.empty fs ((fs.length : Int) - 1) ∧ m.f5.size ≤ 1000000 := by
  unfold lineF at h
  obtain ⟨fs, h1, h⟩ := Option.bind_eq_some_iff.1 h
  split at h
  · rename_i hc
    obtain ⟨⟨mj, mn, ok⟩, h2, h⟩ := Option.bind_eq_some_iff.1 h
    simp only at h
    split at h
    · rename_i hok
      subst hok
      obtain ⟨i0, a0, h⟩ := Option.bind_eq_some_iff.1 h
      obtain ⟨i1, a1, h⟩ := Option.bind_eq_some_iff.1 h
      obtain ⟨i2, a2, h⟩ := Option.bind_eq_some_iff.1 h
      obtain ⟨i3, a3, h⟩ := Option.bind_eq_some_iff.1 h
      obtain ⟨s4, a4, h⟩ := Option.bind_eq_some_iff.1 h
      obtain ⟨s5, a5, h⟩ := Option.bind_eq_some_iff.1 h
      obtain ⟨s8, a8, h⟩ := Option.bind_eq_some_iff.1 h
      obtain ⟨s9, a9, h⟩ := Option.bind_eq_some_iff.1 h
      split at h
      · rename_i h5
        obtain rfl := Option.some.inj h
        exact ⟨fs, mj, mn, h1, hc.1, hc.2.1, hc.2.2.1, hc.2.2.2, h2, a0, a1, a2, a3, a4, a5, a8, a9, rfl, rfl, rfl, h5⟩
      · cases h
    · cases h
  · cases h
/-- Which filter. -/
inductive FK where
  | none
  | types (g : Nat) (A : Option Addr) (c : Nat) (xs : List ByteArray)
  | pre (g : Nat) (p : ByteArray)
def FK.val : FK → Value
  | .none => .nilFunc
  | .types g _ _ _ => .func (.func 29) #[] #[.pointer (some ⟨g, 0, Option.none⟩)]
  | .pre g _ => .func (.func 32) #[] #[.pointer (some ⟨g, 0, Option.none⟩)]
def FK.keeps : FK → S36 → Bool
  | .none, _ => true
  | .types _ _ _ xs, m => keepsType xs m
  | .pre _ p, m => keepsPre p m
def FK.ok (w : World) : FK → Prop
  | .none => True
  | .types g A c xs => w.heap[g]? = some (.cells #[.slice A xs.length c] 28 (0, 0)) ∧ Kd.C Kd.string w A xs.length xs
  | .pre g p => w.heap[g]? = some (.cells #[.string p] 9 (0, 0)) ∧ p.size ≤ 1000000
theorem FK.ok_below {w w1 : World} {F : FK} (h : F.ok w) (hb : Below w.heap.size w w1) : F.ok w1 := by
  cases F with
  | none => trivial
  | types g A c xs => exact ⟨blk_below h.1 hb, Kd.C_below h.2 hb⟩
  | pre g p => exact ⟨blk_below h.1 hb, h.2⟩
end Go.Proofs.YtdmccakncgdbhaaDoor.GMA
