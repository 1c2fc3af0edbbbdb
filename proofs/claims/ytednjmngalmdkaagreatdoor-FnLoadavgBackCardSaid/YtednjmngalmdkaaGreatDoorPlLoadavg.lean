/- What /proc/loadavg says, written, is read as its tree: on numbers and lists alone. Condition: rows as a call's arguments hold them (RowOk). -/
import Derived.Test.YtednjmngalmdkaaGreatDoorPlFlt
import Derived.Test.YtednjmngalmdkaaGreatDoorPlNode
import Derived.Test.YtednjmngalmdkaaGreatDoorGPCx4
namespace Go.Proofs.YtednjmngalmdkaaGreatDoor.GPC
open Go Go.RowKit Go.Proofs.YtednjmngalmdkaaGreatDoorW.PrintWords Go.Proofs.YtednjmngalmdkaaGreatDoorW.PrintLast Go.Proofs.YtednjmngalmdkaaGreatDoor.PF
set_option linter.unusedVariables false
theorem evGuard {α : Type} {c : Prop} [Decidable c] {A : Nat → Option α} {r : α} (h : c) (hA : Ev A r) : Ev (fun k => if c then A k else none) r := Ev.congr (fun k => if_pos h) hA
theorem evNeg {α : Type} {c : Prop} [Decidable c] {A B : Nat → Option α} {r : α} (h : ¬ c) (hA : Ev B r) : Ev (fun k => if c then A k else B k) r := Ev.congr (fun k => if_neg h) hA
theorem evPos {α : Type} {c : Prop} [Decidable c] {A B : Nat → Option α} {r : α} (h : c) (hA : Ev A r) : Ev (fun k => if c then A k else B k) r := Ev.congr (fun k => if_pos h) hA
theorem evBind {α β : Type} {g : Nat → Option α} {a : α} {F : Nat → α → Option β} {r : β} (h : Ev g a) (hF : Ev (fun k => F k a) r) : Ev (fun k => (g k).bind (F k)) r := Ev.bind (f := F) h hF
def laText (a b c d e g : Nat) : List UInt8 := hund a ++ 32 :: (hund b ++ 32 :: (hund c ++ 32 :: (digB 10 d ++ 47 :: (digB 10 e ++ 32 :: (digB 10 g ++ [10])))))
theorem la_open (l : List S31) : Ev (fun k => spec_LoadavgPrint.j0 k l true) (⟨#[]⟩, 2) :=
  Ev.step (f := fun _ => some (⟨#[]⟩, 2)) (fun k => by simp only [spec_LoadavgPrint.j0]; rw [if_pos trivial]) (Ev.now _)
set_option maxHeartbeats 4000000 in
theorem la_print (s : ByteArray) (x : List ByteArray) (a b c d e g : Nat) (h : a < 18446744073709551616 ∧ b < 18446744073709551616 ∧ c < 18446744073709551616 ∧ d < 18446744073709551616 ∧ e < 18446744073709551616 ∧ g < 18446744073709551616) :
    Ev (fun k => spec_LoadavgPrint.j0 k [⟨s, [(a : Int), b, c, d, e, g], x⟩] false) (strB (laText a b c d e g), 1) := by
  obtain ⟨ha, hb, hc, hd, he, hg⟩ := h
  have la := hund_len a ha
  have lb := hund_len b hb
  have lc := hund_len c hc
  have ld := dig_len d hd
  have le := dig_len e he
  have lg := dig_len g hg
  have e32 : (⟨#[32]⟩ : ByteArray) = strB [32] := rfl
  have e47 : (⟨#[47]⟩ : ByteArray) = strB [47] := rfl
  have e10 : (⟨#[10]⟩ : ByteArray) = strB [10] := rfl
  refine Ev.step (fun k => spec_LoadavgPrint.j0.eq_2 _ _ k) ?_
  rw [e32, e47, e10]
  refine evNeg (by simp) (evGuard (by simp) (evGuard (by simp [rd_T31]) (evBind (hundredths_ev a ha) (evGuard ?_ (evGuard (by simp [rd_T31]) (evBind (hundredths_ev b hb) (evGuard ?_ (evGuard ?_ (evGuard (by simp [rd_T31]) (evBind (hundredths_ev c hc) (evGuard ?_ (evGuard ?_ (evGuard (by simp [rd_T31]) (evBind (text_ev d hd) (evGuard ?_ (evGuard ?_ (evGuard (by simp [rd_T31]) (evBind (text_ev e he) (evGuard ?_ (evGuard ?_ (evGuard (by simp [rd_T31]) (evBind (text_ev g hg) (evGuard ?_ (evGuard ?_ ?_))))))))))))))))))))))))
  all_goals try (simp only [strB_append, strB_size, List.length_append, List.length_cons, List.length_nil]; omega)
  refine Ev.congr (f := fun _ => some (strB (laText a b c d e g), 1)) (fun k => ?_) (Ev.now _)
  simp [strB_append, laText]
theorem rd1 (r : S31) : rd_T31 [r] 0 = r := rfl
theorem la_one (r : S31) (hr : OP.RowOk r) : Ev (fun k => spec_LoadavgPrint.f k [r]) (⟨#[]⟩, 2) ∨ ∃ a b c d e g : Nat, (a < 1099511627776 ∧ b < 1099511627776 ∧ c < 1099511627776 ∧ d < 1099511627776 ∧ e < 1099511627776 ∧ g < 1099511627776) ∧ r.f1 = [(a : Int), b, c, d, e, g] ∧ Ev (fun k => spec_LoadavgPrint.f k [r]) (strB (laText a b c d e g), 1) := by
  obtain ⟨s, n, x⟩ := r
  obtain ⟨_, ⟨hn1, hn2⟩, _⟩ := hr
  simp only at hn1 hn2
  have hstart : ∀ k, spec_LoadavgPrint.f k [⟨s, n, x⟩] = ((spec_sized.f s n x 6 0).bind fun t181 => (if t181 = true then ((spec_small.f k 1099511627776 n).bind fun t183 => (spec_LoadavgPrint.j0 k [⟨s, n, x⟩] (!t183))) else (spec_LoadavgPrint.j0 k [⟨s, n, x⟩] true))) := fun k => by
    simp only [spec_LoadavgPrint.f, rd1]
    rw [if_pos (by simp), if_pos (by simp)]
  by_cases hs : spec_sized.f s n x 6 0 = some true
  · have hl6 : n.length = 6 := by
      unfold spec_sized.f at hs
      split at hs
      · omega
      · cases hs
    have hsm := small_ev 1099511627776 n hn1
    cases hb : (n.all fun y => decide (y < 1099511627776))
    · rw [hb] at hsm
      refine .inl (Ev.congr (f := fun k => (spec_small.f k 1099511627776 n).bind fun t183 => (spec_LoadavgPrint.j0 k [⟨s, n, x⟩] (!t183))) (fun k => by rw [hstart, hs]; rfl) (evBind hsm ?_))
      exact la_open _
    · rw [hb] at hsm
      have hall := List.all_eq_true.1 hb
      match n, hl6 with
      | [a, b, c, d, e, g], _ =>
        obtain ⟨a, rfl⟩ := Int.eq_ofNat_of_zero_le (hn2 a (by simp)).1
        obtain ⟨b, rfl⟩ := Int.eq_ofNat_of_zero_le (hn2 b (by simp)).1
        obtain ⟨c, rfl⟩ := Int.eq_ofNat_of_zero_le (hn2 c (by simp)).1
        obtain ⟨d, rfl⟩ := Int.eq_ofNat_of_zero_le (hn2 d (by simp)).1
        obtain ⟨e, rfl⟩ := Int.eq_ofNat_of_zero_le (hn2 e (by simp)).1
        obtain ⟨g, rfl⟩ := Int.eq_ofNat_of_zero_le (hn2 g (by simp)).1
        have ha := of_decide_eq_true (hall (a : Int) (by simp))
        have hb' := of_decide_eq_true (hall (b : Int) (by simp))
        have hc := of_decide_eq_true (hall (c : Int) (by simp))
        have hd := of_decide_eq_true (hall (d : Int) (by simp))
        have he := of_decide_eq_true (hall (e : Int) (by simp))
        have hg := of_decide_eq_true (hall (g : Int) (by simp))
        refine .inr ⟨a, b, c, d, e, g, ⟨by omega, by omega, by omega, by omega, by omega, by omega⟩, rfl, ?_⟩
        refine Ev.congr (f := fun k => (spec_small.f k 1099511627776 [(a : Int), b, c, d, e, g]).bind fun t183 => (spec_LoadavgPrint.j0 k [⟨s, [(a : Int), b, c, d, e, g], x⟩] (!t183))) (fun k => by rw [hstart, hs]; rfl) (evBind hsm ?_)
        exact la_print s x a b c d e g ⟨by omega, by omega, by omega, by omega, by omega, by omega⟩
  · have hf : spec_sized.f s n x 6 0 = some false := by
      unfold spec_sized.f at hs ⊢
      split
      · rename_i h6
        rw [if_pos h6] at hs
        cases hx : ((x.length : Int) == 0)
        · rfl
        · rw [hx] at hs
          exact absurd rfl hs
      · rfl
    exact .inl (Ev.congr (f := fun k => spec_LoadavgPrint.j0 k [⟨s, n, x⟩] true) (fun k => by rw [hstart, hf]; rfl) (la_open _))
theorem la_not (l : List S31) (h : ¬ (l.length : Int) = 1) : Ev (fun k => spec_LoadavgPrint.f k l) (⟨#[]⟩, 2) :=
  Ev.congr (f := fun k => spec_LoadavgPrint.j0 k l true) (fun k => by simp only [spec_LoadavgPrint.f]; rw [if_neg h]) (la_open l)
/-! the door -/
theorem sp_dig {c : UInt8} (h : 48 ≤ c.toNat ∧ c.toNat ≤ 57) : Lib.isSp c = false := isDig_sp (by unfold isDig; simp [h.1, h.2])
theorem hund_chars (n : Nat) : ∀ c ∈ hund n, Lib.isSp c = false ∧ c.toNat < 128 := by
  intro c hc
  have hd1 := dig10 (n / 100)
  have hd2 := dig10 (n % 100)
  unfold hund padL at hc
  simp only [List.mem_append, List.mem_cons, List.mem_replicate] at hc
  rcases hc with hc | rfl | ⟨_, rfl⟩ | hc
  · exact ⟨sp_dig (hd1 c hc), by have := hd1 c hc; omega⟩
  · exact ⟨by decide, by decide⟩
  · exact ⟨by decide, by decide⟩
  · exact ⟨sp_dig (hd2 c hc), by have := hd2 c hc; omega⟩
theorem hund_ne (n : Nat) : hund n ≠ [] := by unfold hund; simp
theorem fields_next (w r : List UInt8) (h0 : w ≠ []) (hw : ∀ c ∈ w, Lib.isSp c = false) : Lib.fields (w ++ 32 :: r) = w :: Lib.fields r := by
  rw [fields_word w 32 r h0 hw (by decide), show (32 : UInt8) :: r = [32] ++ r from rfl, fields_blanks [32] r (by decide)]
theorem strNums (s : ByteArray) : strOfNums (s.data.toList.map fun b => (b.toNat : Int)) = s := by
  apply ByteArray.ext
  apply Array.toList_inj.1
  simp only [strOfNums]
  simp only [List.map_map]
  have e : ((fun n => UInt8.ofNat n.toNat) ∘ fun b : UInt8 => (b.toNat : Int)) = id := funext fun b => by simp [Function.comp]
  rw [e, List.map_id]
theorem la_fields (a b c d e g : Nat) : ∃ rest, Lib.fields (laText a b c d e g) = hund a :: hund b :: hund c :: rest := by
  refine ⟨Lib.fields (digB 10 d ++ 47 :: (digB 10 e ++ 32 :: (digB 10 g ++ [10]))), ?_⟩
  unfold laText
  rw [fields_next _ _ (hund_ne a) (fun x hx => (hund_chars a x hx).1), fields_next _ _ (hund_ne b) (fun x hx => (hund_chars b x hx).1), fields_next _ _ (hund_ne c) (fun x hx => (hund_chars c x hx).1)]
theorem la_ascii (a b c d e g : Nat) : ∀ x ∈ laText a b c d e g, x.toNat < 128 := by
  intro x hx
  unfold laText at hx
  simp only [List.mem_append, List.mem_cons, List.not_mem_nil, or_false] at hx
  rcases hx with hx | rfl | hx | rfl | hx | rfl | hx | rfl | hx | rfl | hx | rfl
  · exact (hund_chars a x hx).2
  · decide
  · exact (hund_chars b x hx).2
  · decide
  · exact (hund_chars c x hx).2
  · decide
  · have := dig10 d x hx; omega
  · decide
  · have := dig10 e x hx; omega
  · decide
  · have := dig10 g x hx; omega
  · decide
theorem la_size (a b c d e g : Nat) (h : a < 18446744073709551616 ∧ b < 18446744073709551616 ∧ c < 18446744073709551616 ∧ d < 18446744073709551616 ∧ e < 18446744073709551616 ∧ g < 18446744073709551616) : (laText a b c d e g).length ≤ 200 := by
  have la := hund_len a h.1
  have lb := hund_len b h.2.1
  have lc := hund_len c h.2.2.1
  have ld := dig_len d h.2.2.2.1
  have le := dig_len e h.2.2.2.2.1
  have lg := dig_len g h.2.2.2.2.2
  simp only [laText, List.length_append, List.length_cons, List.length_nil]
  omega
theorem la_load (a b c d e g ra rb rc : Nat) (h : a < 1099511627776 ∧ b < 1099511627776 ∧ c < 1099511627776 ∧ d < 1099511627776 ∧ e < 1099511627776 ∧ g < 1099511627776)
    (ha : spec_hundredth.f (a : Int) = some ra) (hb : spec_hundredth.f (b : Int) = some rb) (hc : spec_hundredth.f (c : Int) = some rc) : loadavgF (strB (laText a b c d e g)) = some (ra, rb, rc) := by
  have hsz := la_size a b c d e g ⟨by omega, by omega, by omega, by omega, by omega, by omega⟩
  have hdat : (strB (laText a b c d e g)).data.toList = laText a b c d e g := by simp [strB]
  obtain ⟨rest, hf⟩ := la_fields a b c d e g
  have hfl : strings_Fields.f (strB (laText a b c d e g)) = some (strB (hund a) :: strB (hund b) :: strB (hund c) :: rest.map fun l => ⟨l.toArray⟩) := by
    unfold strings_Fields.f
    rw [if_pos ⟨by rw [strB_size]; omega, by rw [hdat]; exact List.all_eq_true.2 fun x hx => decide_eq_true (la_ascii a b c d e g x hx)⟩, hdat, hf]
    rfl
  unfold loadavgF texts_Read.f
  rw [if_pos (by rw [strB_size]; omega)]
  simp only [Option.bind_some, if_true]
  unfold loadF
  rw [strNums, hfl]
  simp only [Option.bind_some]
  rw [if_pos (by simp)]
  simp only [rdOf, Int.toNat_zero, List.getD_cons_zero]
  rw [flt_hund a h.1 ra ha]
  simp only [Option.bind_some]
  rw [show (List.getD (strB (hund a) :: strB (hund b) :: strB (hund c) :: rest.map fun l => (⟨l.toArray⟩ : ByteArray)) (1 : Int).toNat ByteArray.empty) = strB (hund b) from rfl, flt_hund b h.2.1 rb hb]
  simp only [Option.bind_some]
  rw [show (List.getD (strB (hund a) :: strB (hund b) :: strB (hund c) :: rest.map fun l => (⟨l.toArray⟩ : ByteArray)) (2 : Int).toNat ByteArray.empty) = strB (hund c) from rfl, flt_hund c h.2.2.1 rc hc]
  rfl
def laNode (ra rb rc : Nat) : S43 := ⟨⟨#[]⟩, 8, false, 0, 0, 0, ⟨#[]⟩, [⟨⟨#[76, 111, 97, 100, 49]⟩, 4, false, 0, 0, ra, ⟨#[]⟩, []⟩, ⟨⟨#[76, 111, 97, 100, 53]⟩, 4, false, 0, 0, rb, ⟨#[]⟩, []⟩, ⟨⟨#[76, 111, 97, 100, 49, 53]⟩, 4, false, 0, 0, rc, ⟨#[]⟩, []⟩]⟩
theorem la_node (ra rb rc : Nat) : loadNode ra rb rc = some (laNode ra rb rc) := by rfl
theorem la_fit (ra rb rc : Nat) : FitN 1 (laNode ra rb rc) := ⟨by simp [laNode], fun x hx => by
  simp only [laNode, List.mem_cons, List.not_mem_nil, or_false] at hx
  rcases hx with rfl | rfl | rfl <;> rfl⟩
theorem plainLoadavg (l : List S31) (hl : l.length ≤ maxLen) (hr : ∀ r ∈ l, OP.RowOk r) : ∃ k b, laws_zzFits5.f k l = some b ∧ (b = true → BackOk (fun k => spec_LoadavgPrint.f k l) (fun k => spec_LoadavgTree.f k l) (fun s n => doorLoadavg s n) l) := by
  obtain ⟨k, b, hz⟩ := zz5f l
  refine ⟨k, b, hz, fun _ => ?_⟩
  by_cases h1000 : 1000 < l.length
  · exact .long h1000
  by_cases h1 : (l.length : Int) = 1
  · match l, h1 with
    | [r], _ =>
      rcases la_one r (hr r (by simp)) with hp | ⟨a, b, c, d, e, g, hb, hr1, hp⟩
      · obtain ⟨K, hk⟩ := hp
        exact .noPrint (by omega) K _ _ (hk K (Nat.le_refl _)) (.inl (by decide))
      · obtain ⟨ra, ha⟩ := hundredth_some a
        obtain ⟨rb, hbb⟩ := hundredth_some b
        obtain ⟨rc, hc⟩ := hundredth_some c
        refine back_same (by omega) _ hp (by rw [strB_size]; have := la_size a b c d e g ⟨by omega, by omega, by omega, by omega, by omega, by omega⟩; omega) 1 (laNode ra rb rc) (la_fit ra rb rc) ?_ ⟨ra, rb, rc, la_load a b c d e g ra rb rc hb ha hbb hc, la_node ra rb rc⟩
        refine evBind hp (evPos rfl (evGuard (by simp) (evGuard (by rw [rd1, hr1]; simp) ?_)))
        refine Ev.congr (fun k => ?_) (Ev.now _)
        rw [rd1, hr1]
        rw [show rd [(a : Int), b, c, d, e, g] 0 = (a : Int) from rfl, show rd [(a : Int), b, c, d, e, g] 1 = (b : Int) from rfl, show rd [(a : Int), b, c, d, e, g] 2 = (c : Int) from rfl, ha, hbb, hc]
        rfl
  · obtain ⟨K, hk⟩ := la_not l h1
    exact .noPrint (by omega) K _ _ (hk K (Nat.le_refl _)) (.inl (by decide))
end Go.Proofs.YtednjmngalmdkaaGreatDoor.GPC
