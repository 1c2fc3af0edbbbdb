/-
  DERIVED. GIVEN WITH THE SEED: THE PROGRAM's TIES (one call each: nine closed facts by the kernel) AND EACH ROW's TIE, after the 31st guide's Derived/Test/Toyas{Tie, Card}.lean. No idea stands in it: it is a product of the set-up. Laid BY PROGRAM, IN A SANDBOX (cutbox-door.mjs). By AI agents, Wed Nov 11 2026. No macro, syntax, notation, axiom, sorry.
-/
import Derived.Test.YtednjmngalmdkaaGreatDoorRows
import Derived.LaidByTextLater
import Derived.SevenTiedAt
import Derived.LaidSub
import Derived.LaidOnce
namespace Go.Proofs.YtednjmngalmdkaaGreatDoor
open Go
set_option maxRecDepth 100000
theorem seatTie1 : Tryz.prog.laidByTextLater [("math/bits.deBruijn32tab", Rows.laid_math_bits_deBruijn32tab), ("math/bits.deBruijn64tab", Rows.laid_math_bits_deBruijn64tab), ("internal/strconv.float32info", Rows.laid_internal_strconv_float32info), ("internal/strconv.float64info", Rows.laid_internal_strconv_float64info), ("internal/strconv.optimize", Rows.laid_internal_strconv_optimize), ("internal/strconv.powtab", Rows.laid_internal_strconv_powtab), ("internal/strconv.float64pow10", Rows.laid_internal_strconv_float64pow10), ("internal/strconv.float32pow10", Rows.laid_internal_strconv_float32pow10), ("internal/strconv.uint64pow10", Rows.laid_internal_strconv_uint64pow10), ("strconv.ErrRange", Rows.laid_strconv_ErrRange), ("strconv.ErrSyntax", Rows.laid_strconv_ErrSyntax), ("unicode.White_Space", Rows.laid_unicode_White_Space), ("strings.asciiSpace", Rows.laid_strings_asciiSpace)] [.data, .data, .widerDeep, .widerDeep, .data, .data, .data, .data, .data, .sentinel, .sentinel, .listed, .data] true :=
  Program.laidByTextLater_by_one 115 8 257 (by kernel_rfl) (by kernel_rfl) (by kernel_rfl) (by kernel_rfl) (by kernel_rfl) (by kernel_rfl) (fun _ _ => by kernel_rfl)
theorem pin_laid_internal_strconv_leftcheats : Tryz.pinned.checked.prog.pinnedFits "internal/strconv.leftcheats" = true := by kernel_rfl
theorem pin_laid_internal_strconv_pow10Tab : Tryz.pinned.checked.prog.pinnedFits "internal/strconv.pow10Tab" = true := by kernel_rfl
theorem noOwnUnsafe : Tryz.pinned.checked.prog.headLifts.contains "ownunsafe" = false := by kernel_rfl
theorem fits1 : Tryz.pinned.checked.prog.listedFits [("math/bits.deBruijn32tab", Rows.laid_math_bits_deBruijn32tab), ("math/bits.deBruijn64tab", Rows.laid_math_bits_deBruijn64tab), ("internal/strconv.float32info", Rows.laid_internal_strconv_float32info), ("internal/strconv.float64info", Rows.laid_internal_strconv_float64info), ("internal/strconv.optimize", Rows.laid_internal_strconv_optimize), ("internal/strconv.powtab", Rows.laid_internal_strconv_powtab), ("internal/strconv.float64pow10", Rows.laid_internal_strconv_float64pow10), ("internal/strconv.float32pow10", Rows.laid_internal_strconv_float32pow10), ("internal/strconv.uint64pow10", Rows.laid_internal_strconv_uint64pow10), ("strconv.ErrRange", Rows.laid_strconv_ErrRange), ("strconv.ErrSyntax", Rows.laid_strconv_ErrSyntax), ("unicode.White_Space", Rows.laid_unicode_White_Space), ("strings.asciiSpace", Rows.laid_strings_asciiSpace), ("internal/strconv.leftcheats", Rows.laid_internal_strconv_leftcheats), ("internal/strconv.pow10Tab", Rows.laid_internal_strconv_pow10Tab)] = true := by
  unfold Program.listedFits
  rw [noOwnUnsafe]
  kernel_rfl
theorem tie : Tryz.prog.laidByTextLater [("math/bits.deBruijn32tab", Rows.laid_math_bits_deBruijn32tab), ("math/bits.deBruijn64tab", Rows.laid_math_bits_deBruijn64tab), ("internal/strconv.float32info", Rows.laid_internal_strconv_float32info), ("internal/strconv.float64info", Rows.laid_internal_strconv_float64info), ("internal/strconv.optimize", Rows.laid_internal_strconv_optimize), ("internal/strconv.powtab", Rows.laid_internal_strconv_powtab), ("internal/strconv.float64pow10", Rows.laid_internal_strconv_float64pow10), ("internal/strconv.float32pow10", Rows.laid_internal_strconv_float32pow10), ("internal/strconv.uint64pow10", Rows.laid_internal_strconv_uint64pow10), ("strconv.ErrRange", Rows.laid_strconv_ErrRange), ("strconv.ErrSyntax", Rows.laid_strconv_ErrSyntax), ("unicode.White_Space", Rows.laid_unicode_White_Space), ("strings.asciiSpace", Rows.laid_strings_asciiSpace)] [.data, .data, .widerDeep, .widerDeep, .data, .data, .data, .data, .data, .sentinel, .sentinel, .listed, .data] true :=
  Program.laidByTextLater.sub seatTie1 ["math/bits.deBruijn32tab", "math/bits.deBruijn64tab", "internal/strconv.float32info", "internal/strconv.float64info", "internal/strconv.optimize", "internal/strconv.powtab", "internal/strconv.float64pow10", "internal/strconv.float32pow10", "internal/strconv.uint64pow10", "strconv.ErrRange", "strconv.ErrSyntax", "unicode.White_Space", "strings.asciiSpace"] (by kernel_rfl) (by kernel_rfl)
theorem fnLoadavgBack_row_tie : Rows.fnLoadavgBackRow.laidByTextAt .later Tryz.pinned [.data, .data, .widerDeep, .widerDeep, .data, .data, .data, .data, .data, .sentinel, .sentinel, .listed, .data, .pinned, .pinned] true :=
  OpenClaim.laidByTextAt_pinned rfl rfl tie rfl rfl rfl rfl (fun y hy _e => by
    simp only [Rows.fnLoadavgBackRow, List.zip_cons_cons, List.zip_nil_right, List.mem_cons, List.mem_nil_iff, or_false] at hy
    rcases hy with rfl | rfl | rfl | rfl | rfl | rfl | rfl | rfl | rfl | rfl | rfl | rfl | rfl | rfl | rfl
    · cases _e
    · cases _e
    · cases _e
    · cases _e
    · cases _e
    · cases _e
    · cases _e
    · cases _e
    · cases _e
    · cases _e
    · cases _e
    · cases _e
    · cases _e
    · exact ⟨pin_laid_internal_strconv_leftcheats, by kernel_rfl⟩
    · exact ⟨pin_laid_internal_strconv_pow10Tab, by kernel_rfl⟩) fits1
theorem fnBuddyinfoBack_row_tie : Rows.fnBuddyinfoBackRow.laidByTextAt .later Tryz.pinned [.data, .data, .widerDeep, .widerDeep, .data, .data, .data, .data, .data, .sentinel, .sentinel, .listed, .data, .pinned, .pinned] true :=
  OpenClaim.laidByTextAt_pinned rfl rfl tie rfl rfl rfl rfl (fun y hy _e => by
    simp only [Rows.fnBuddyinfoBackRow, List.zip_cons_cons, List.zip_nil_right, List.mem_cons, List.mem_nil_iff, or_false] at hy
    rcases hy with rfl | rfl | rfl | rfl | rfl | rfl | rfl | rfl | rfl | rfl | rfl | rfl | rfl | rfl | rfl
    · cases _e
    · cases _e
    · cases _e
    · cases _e
    · cases _e
    · cases _e
    · cases _e
    · cases _e
    · cases _e
    · cases _e
    · cases _e
    · cases _e
    · cases _e
    · exact ⟨pin_laid_internal_strconv_leftcheats, by kernel_rfl⟩
    · exact ⟨pin_laid_internal_strconv_pow10Tab, by kernel_rfl⟩) fits1
theorem fnStatmBack_row_tie : Rows.fnStatmBackRow.laidByTextAt .later Tryz.pinned [.data, .data, .widerDeep, .widerDeep, .data, .data, .data, .data, .data, .sentinel, .sentinel, .listed, .data, .pinned, .pinned] true :=
  OpenClaim.laidByTextAt_pinned rfl rfl tie rfl rfl rfl rfl (fun y hy _e => by
    simp only [Rows.fnStatmBackRow, List.zip_cons_cons, List.zip_nil_right, List.mem_cons, List.mem_nil_iff, or_false] at hy
    rcases hy with rfl | rfl | rfl | rfl | rfl | rfl | rfl | rfl | rfl | rfl | rfl | rfl | rfl | rfl | rfl
    · cases _e
    · cases _e
    · cases _e
    · cases _e
    · cases _e
    · cases _e
    · cases _e
    · cases _e
    · cases _e
    · cases _e
    · cases _e
    · cases _e
    · cases _e
    · exact ⟨pin_laid_internal_strconv_leftcheats, by kernel_rfl⟩
    · exact ⟨pin_laid_internal_strconv_pow10Tab, by kernel_rfl⟩) fits1
theorem fnSchedstatBack_row_tie : Rows.fnSchedstatBackRow.laidByTextAt .later Tryz.pinned [.data, .data, .widerDeep, .widerDeep, .data, .data, .data, .data, .data, .sentinel, .sentinel, .listed, .data, .pinned, .pinned] true :=
  OpenClaim.laidByTextAt_pinned rfl rfl tie rfl rfl rfl rfl (fun y hy _e => by
    simp only [Rows.fnSchedstatBackRow, List.zip_cons_cons, List.zip_nil_right, List.mem_cons, List.mem_nil_iff, or_false] at hy
    rcases hy with rfl | rfl | rfl | rfl | rfl | rfl | rfl | rfl | rfl | rfl | rfl | rfl | rfl | rfl | rfl
    · cases _e
    · cases _e
    · cases _e
    · cases _e
    · cases _e
    · cases _e
    · cases _e
    · cases _e
    · cases _e
    · cases _e
    · cases _e
    · cases _e
    · cases _e
    · exact ⟨pin_laid_internal_strconv_leftcheats, by kernel_rfl⟩
    · exact ⟨pin_laid_internal_strconv_pow10Tab, by kernel_rfl⟩) fits1
theorem fnConntrackBack_row_tie : Rows.fnConntrackBackRow.laidByTextAt .later Tryz.pinned [.data, .data, .widerDeep, .widerDeep, .data, .data, .data, .data, .data, .sentinel, .sentinel, .listed, .data, .pinned, .pinned] true :=
  OpenClaim.laidByTextAt_pinned rfl rfl tie rfl rfl rfl rfl (fun y hy _e => by
    simp only [Rows.fnConntrackBackRow, List.zip_cons_cons, List.zip_nil_right, List.mem_cons, List.mem_nil_iff, or_false] at hy
    rcases hy with rfl | rfl | rfl | rfl | rfl | rfl | rfl | rfl | rfl | rfl | rfl | rfl | rfl | rfl | rfl
    · cases _e
    · cases _e
    · cases _e
    · cases _e
    · cases _e
    · cases _e
    · cases _e
    · cases _e
    · cases _e
    · cases _e
    · cases _e
    · cases _e
    · cases _e
    · exact ⟨pin_laid_internal_strconv_leftcheats, by kernel_rfl⟩
    · exact ⟨pin_laid_internal_strconv_pow10Tab, by kernel_rfl⟩) fits1
theorem fnSoftnetBack_row_tie : Rows.fnSoftnetBackRow.laidByTextAt .later Tryz.pinned [.data, .data, .widerDeep, .widerDeep, .data, .data, .data, .data, .data, .sentinel, .sentinel, .listed, .data, .pinned, .pinned] true :=
  OpenClaim.laidByTextAt_pinned rfl rfl tie rfl rfl rfl rfl (fun y hy _e => by
    simp only [Rows.fnSoftnetBackRow, List.zip_cons_cons, List.zip_nil_right, List.mem_cons, List.mem_nil_iff, or_false] at hy
    rcases hy with rfl | rfl | rfl | rfl | rfl | rfl | rfl | rfl | rfl | rfl | rfl | rfl | rfl | rfl | rfl
    · cases _e
    · cases _e
    · cases _e
    · cases _e
    · cases _e
    · cases _e
    · cases _e
    · cases _e
    · cases _e
    · cases _e
    · cases _e
    · cases _e
    · cases _e
    · exact ⟨pin_laid_internal_strconv_leftcheats, by kernel_rfl⟩
    · exact ⟨pin_laid_internal_strconv_pow10Tab, by kernel_rfl⟩) fits1
theorem fnRouteBack_row_tie : Rows.fnRouteBackRow.laidByTextAt .later Tryz.pinned [.data, .data, .widerDeep, .widerDeep, .data, .data, .data, .data, .data, .sentinel, .sentinel, .listed, .data, .pinned, .pinned] true :=
  OpenClaim.laidByTextAt_pinned rfl rfl tie rfl rfl rfl rfl (fun y hy _e => by
    simp only [Rows.fnRouteBackRow, List.zip_cons_cons, List.zip_nil_right, List.mem_cons, List.mem_nil_iff, or_false] at hy
    rcases hy with rfl | rfl | rfl | rfl | rfl | rfl | rfl | rfl | rfl | rfl | rfl | rfl | rfl | rfl | rfl
    · cases _e
    · cases _e
    · cases _e
    · cases _e
    · cases _e
    · cases _e
    · cases _e
    · cases _e
    · cases _e
    · cases _e
    · cases _e
    · cases _e
    · cases _e
    · exact ⟨pin_laid_internal_strconv_leftcheats, by kernel_rfl⟩
    · exact ⟨pin_laid_internal_strconv_pow10Tab, by kernel_rfl⟩) fits1
theorem fnSoftirqsBack_row_tie : Rows.fnSoftirqsBackRow.laidByTextAt .later Tryz.pinned [.data, .data, .widerDeep, .widerDeep, .data, .data, .data, .data, .data, .sentinel, .sentinel, .listed, .data, .pinned, .pinned] true :=
  OpenClaim.laidByTextAt_pinned rfl rfl tie rfl rfl rfl rfl (fun y hy _e => by
    simp only [Rows.fnSoftirqsBackRow, List.zip_cons_cons, List.zip_nil_right, List.mem_cons, List.mem_nil_iff, or_false] at hy
    rcases hy with rfl | rfl | rfl | rfl | rfl | rfl | rfl | rfl | rfl | rfl | rfl | rfl | rfl | rfl | rfl
    · cases _e
    · cases _e
    · cases _e
    · cases _e
    · cases _e
    · cases _e
    · cases _e
    · cases _e
    · cases _e
    · cases _e
    · cases _e
    · cases _e
    · cases _e
    · exact ⟨pin_laid_internal_strconv_leftcheats, by kernel_rfl⟩
    · exact ⟨pin_laid_internal_strconv_pow10Tab, by kernel_rfl⟩) fits1
theorem fnSwapsBack_row_tie : Rows.fnSwapsBackRow.laidByTextAt .later Tryz.pinned [.data, .data, .widerDeep, .widerDeep, .data, .data, .data, .data, .data, .sentinel, .sentinel, .listed, .data, .pinned, .pinned] true :=
  OpenClaim.laidByTextAt_pinned rfl rfl tie rfl rfl rfl rfl (fun y hy _e => by
    simp only [Rows.fnSwapsBackRow, List.zip_cons_cons, List.zip_nil_right, List.mem_cons, List.mem_nil_iff, or_false] at hy
    rcases hy with rfl | rfl | rfl | rfl | rfl | rfl | rfl | rfl | rfl | rfl | rfl | rfl | rfl | rfl | rfl
    · cases _e
    · cases _e
    · cases _e
    · cases _e
    · cases _e
    · cases _e
    · cases _e
    · cases _e
    · cases _e
    · cases _e
    · cases _e
    · cases _e
    · cases _e
    · exact ⟨pin_laid_internal_strconv_leftcheats, by kernel_rfl⟩
    · exact ⟨pin_laid_internal_strconv_pow10Tab, by kernel_rfl⟩) fits1
theorem fnCgroupSummaryBack_row_tie : Rows.fnCgroupSummaryBackRow.laidByTextAt .later Tryz.pinned [.data, .data, .widerDeep, .widerDeep, .data, .data, .data, .data, .data, .sentinel, .sentinel, .listed, .data, .pinned, .pinned] true :=
  OpenClaim.laidByTextAt_pinned rfl rfl tie rfl rfl rfl rfl (fun y hy _e => by
    simp only [Rows.fnCgroupSummaryBackRow, List.zip_cons_cons, List.zip_nil_right, List.mem_cons, List.mem_nil_iff, or_false] at hy
    rcases hy with rfl | rfl | rfl | rfl | rfl | rfl | rfl | rfl | rfl | rfl | rfl | rfl | rfl | rfl | rfl
    · cases _e
    · cases _e
    · cases _e
    · cases _e
    · cases _e
    · cases _e
    · cases _e
    · cases _e
    · cases _e
    · cases _e
    · cases _e
    · cases _e
    · cases _e
    · exact ⟨pin_laid_internal_strconv_leftcheats, by kernel_rfl⟩
    · exact ⟨pin_laid_internal_strconv_pow10Tab, by kernel_rfl⟩) fits1
theorem fnLoadavgBackUpto_row_tie : Rows.fnLoadavgBackUptoRow.laidByTextAt .later Tryz.pinned [.data, .data, .widerDeep, .widerDeep, .data, .data, .data, .data, .data, .sentinel, .sentinel, .listed, .data, .pinned, .pinned] true :=
  OpenClaim.laidByTextAt_pinned rfl rfl tie rfl rfl rfl rfl (fun y hy _e => by
    simp only [Rows.fnLoadavgBackUptoRow, List.zip_cons_cons, List.zip_nil_right, List.mem_cons, List.mem_nil_iff, or_false] at hy
    rcases hy with rfl | rfl | rfl | rfl | rfl | rfl | rfl | rfl | rfl | rfl | rfl | rfl | rfl | rfl | rfl
    · cases _e
    · cases _e
    · cases _e
    · cases _e
    · cases _e
    · cases _e
    · cases _e
    · cases _e
    · cases _e
    · cases _e
    · cases _e
    · cases _e
    · cases _e
    · exact ⟨pin_laid_internal_strconv_leftcheats, by kernel_rfl⟩
    · exact ⟨pin_laid_internal_strconv_pow10Tab, by kernel_rfl⟩) fits1
theorem fnBuddyinfoBackUpto_row_tie : Rows.fnBuddyinfoBackUptoRow.laidByTextAt .later Tryz.pinned [.data, .data, .widerDeep, .widerDeep, .data, .data, .data, .data, .data, .sentinel, .sentinel, .listed, .data, .pinned, .pinned] true :=
  OpenClaim.laidByTextAt_pinned rfl rfl tie rfl rfl rfl rfl (fun y hy _e => by
    simp only [Rows.fnBuddyinfoBackUptoRow, List.zip_cons_cons, List.zip_nil_right, List.mem_cons, List.mem_nil_iff, or_false] at hy
    rcases hy with rfl | rfl | rfl | rfl | rfl | rfl | rfl | rfl | rfl | rfl | rfl | rfl | rfl | rfl | rfl
    · cases _e
    · cases _e
    · cases _e
    · cases _e
    · cases _e
    · cases _e
    · cases _e
    · cases _e
    · cases _e
    · cases _e
    · cases _e
    · cases _e
    · cases _e
    · exact ⟨pin_laid_internal_strconv_leftcheats, by kernel_rfl⟩
    · exact ⟨pin_laid_internal_strconv_pow10Tab, by kernel_rfl⟩) fits1
theorem fnStatmBackUpto_row_tie : Rows.fnStatmBackUptoRow.laidByTextAt .later Tryz.pinned [.data, .data, .widerDeep, .widerDeep, .data, .data, .data, .data, .data, .sentinel, .sentinel, .listed, .data, .pinned, .pinned] true :=
  OpenClaim.laidByTextAt_pinned rfl rfl tie rfl rfl rfl rfl (fun y hy _e => by
    simp only [Rows.fnStatmBackUptoRow, List.zip_cons_cons, List.zip_nil_right, List.mem_cons, List.mem_nil_iff, or_false] at hy
    rcases hy with rfl | rfl | rfl | rfl | rfl | rfl | rfl | rfl | rfl | rfl | rfl | rfl | rfl | rfl | rfl
    · cases _e
    · cases _e
    · cases _e
    · cases _e
    · cases _e
    · cases _e
    · cases _e
    · cases _e
    · cases _e
    · cases _e
    · cases _e
    · cases _e
    · cases _e
    · exact ⟨pin_laid_internal_strconv_leftcheats, by kernel_rfl⟩
    · exact ⟨pin_laid_internal_strconv_pow10Tab, by kernel_rfl⟩) fits1
theorem fnSchedstatBackUpto_row_tie : Rows.fnSchedstatBackUptoRow.laidByTextAt .later Tryz.pinned [.data, .data, .widerDeep, .widerDeep, .data, .data, .data, .data, .data, .sentinel, .sentinel, .listed, .data, .pinned, .pinned] true :=
  OpenClaim.laidByTextAt_pinned rfl rfl tie rfl rfl rfl rfl (fun y hy _e => by
    simp only [Rows.fnSchedstatBackUptoRow, List.zip_cons_cons, List.zip_nil_right, List.mem_cons, List.mem_nil_iff, or_false] at hy
    rcases hy with rfl | rfl | rfl | rfl | rfl | rfl | rfl | rfl | rfl | rfl | rfl | rfl | rfl | rfl | rfl
    · cases _e
    · cases _e
    · cases _e
    · cases _e
    · cases _e
    · cases _e
    · cases _e
    · cases _e
    · cases _e
    · cases _e
    · cases _e
    · cases _e
    · cases _e
    · exact ⟨pin_laid_internal_strconv_leftcheats, by kernel_rfl⟩
    · exact ⟨pin_laid_internal_strconv_pow10Tab, by kernel_rfl⟩) fits1
theorem fnConntrackBackUpto_row_tie : Rows.fnConntrackBackUptoRow.laidByTextAt .later Tryz.pinned [.data, .data, .widerDeep, .widerDeep, .data, .data, .data, .data, .data, .sentinel, .sentinel, .listed, .data, .pinned, .pinned] true :=
  OpenClaim.laidByTextAt_pinned rfl rfl tie rfl rfl rfl rfl (fun y hy _e => by
    simp only [Rows.fnConntrackBackUptoRow, List.zip_cons_cons, List.zip_nil_right, List.mem_cons, List.mem_nil_iff, or_false] at hy
    rcases hy with rfl | rfl | rfl | rfl | rfl | rfl | rfl | rfl | rfl | rfl | rfl | rfl | rfl | rfl | rfl
    · cases _e
    · cases _e
    · cases _e
    · cases _e
    · cases _e
    · cases _e
    · cases _e
    · cases _e
    · cases _e
    · cases _e
    · cases _e
    · cases _e
    · cases _e
    · exact ⟨pin_laid_internal_strconv_leftcheats, by kernel_rfl⟩
    · exact ⟨pin_laid_internal_strconv_pow10Tab, by kernel_rfl⟩) fits1
theorem fnSoftnetBackUpto_row_tie : Rows.fnSoftnetBackUptoRow.laidByTextAt .later Tryz.pinned [.data, .data, .widerDeep, .widerDeep, .data, .data, .data, .data, .data, .sentinel, .sentinel, .listed, .data, .pinned, .pinned] true :=
  OpenClaim.laidByTextAt_pinned rfl rfl tie rfl rfl rfl rfl (fun y hy _e => by
    simp only [Rows.fnSoftnetBackUptoRow, List.zip_cons_cons, List.zip_nil_right, List.mem_cons, List.mem_nil_iff, or_false] at hy
    rcases hy with rfl | rfl | rfl | rfl | rfl | rfl | rfl | rfl | rfl | rfl | rfl | rfl | rfl | rfl | rfl
    · cases _e
    · cases _e
    · cases _e
    · cases _e
    · cases _e
    · cases _e
    · cases _e
    · cases _e
    · cases _e
    · cases _e
    · cases _e
    · cases _e
    · cases _e
    · exact ⟨pin_laid_internal_strconv_leftcheats, by kernel_rfl⟩
    · exact ⟨pin_laid_internal_strconv_pow10Tab, by kernel_rfl⟩) fits1
theorem fnRouteBackUpto_row_tie : Rows.fnRouteBackUptoRow.laidByTextAt .later Tryz.pinned [.data, .data, .widerDeep, .widerDeep, .data, .data, .data, .data, .data, .sentinel, .sentinel, .listed, .data, .pinned, .pinned] true :=
  OpenClaim.laidByTextAt_pinned rfl rfl tie rfl rfl rfl rfl (fun y hy _e => by
    simp only [Rows.fnRouteBackUptoRow, List.zip_cons_cons, List.zip_nil_right, List.mem_cons, List.mem_nil_iff, or_false] at hy
    rcases hy with rfl | rfl | rfl | rfl | rfl | rfl | rfl | rfl | rfl | rfl | rfl | rfl | rfl | rfl | rfl
    · cases _e
    · cases _e
    · cases _e
    · cases _e
    · cases _e
    · cases _e
    · cases _e
    · cases _e
    · cases _e
    · cases _e
    · cases _e
    · cases _e
    · cases _e
    · exact ⟨pin_laid_internal_strconv_leftcheats, by kernel_rfl⟩
    · exact ⟨pin_laid_internal_strconv_pow10Tab, by kernel_rfl⟩) fits1
theorem fnSoftirqsBackUpto_row_tie : Rows.fnSoftirqsBackUptoRow.laidByTextAt .later Tryz.pinned [.data, .data, .widerDeep, .widerDeep, .data, .data, .data, .data, .data, .sentinel, .sentinel, .listed, .data, .pinned, .pinned] true :=
  OpenClaim.laidByTextAt_pinned rfl rfl tie rfl rfl rfl rfl (fun y hy _e => by
    simp only [Rows.fnSoftirqsBackUptoRow, List.zip_cons_cons, List.zip_nil_right, List.mem_cons, List.mem_nil_iff, or_false] at hy
    rcases hy with rfl | rfl | rfl | rfl | rfl | rfl | rfl | rfl | rfl | rfl | rfl | rfl | rfl | rfl | rfl
    · cases _e
    · cases _e
    · cases _e
    · cases _e
    · cases _e
    · cases _e
    · cases _e
    · cases _e
    · cases _e
    · cases _e
    · cases _e
    · cases _e
    · cases _e
    · exact ⟨pin_laid_internal_strconv_leftcheats, by kernel_rfl⟩
    · exact ⟨pin_laid_internal_strconv_pow10Tab, by kernel_rfl⟩) fits1
theorem fnSwapsBackUpto_row_tie : Rows.fnSwapsBackUptoRow.laidByTextAt .later Tryz.pinned [.data, .data, .widerDeep, .widerDeep, .data, .data, .data, .data, .data, .sentinel, .sentinel, .listed, .data, .pinned, .pinned] true :=
  OpenClaim.laidByTextAt_pinned rfl rfl tie rfl rfl rfl rfl (fun y hy _e => by
    simp only [Rows.fnSwapsBackUptoRow, List.zip_cons_cons, List.zip_nil_right, List.mem_cons, List.mem_nil_iff, or_false] at hy
    rcases hy with rfl | rfl | rfl | rfl | rfl | rfl | rfl | rfl | rfl | rfl | rfl | rfl | rfl | rfl | rfl
    · cases _e
    · cases _e
    · cases _e
    · cases _e
    · cases _e
    · cases _e
    · cases _e
    · cases _e
    · cases _e
    · cases _e
    · cases _e
    · cases _e
    · cases _e
    · exact ⟨pin_laid_internal_strconv_leftcheats, by kernel_rfl⟩
    · exact ⟨pin_laid_internal_strconv_pow10Tab, by kernel_rfl⟩) fits1
theorem fnCgroupSummaryBackUpto_row_tie : Rows.fnCgroupSummaryBackUptoRow.laidByTextAt .later Tryz.pinned [.data, .data, .widerDeep, .widerDeep, .data, .data, .data, .data, .data, .sentinel, .sentinel, .listed, .data, .pinned, .pinned] true :=
  OpenClaim.laidByTextAt_pinned rfl rfl tie rfl rfl rfl rfl (fun y hy _e => by
    simp only [Rows.fnCgroupSummaryBackUptoRow, List.zip_cons_cons, List.zip_nil_right, List.mem_cons, List.mem_nil_iff, or_false] at hy
    rcases hy with rfl | rfl | rfl | rfl | rfl | rfl | rfl | rfl | rfl | rfl | rfl | rfl | rfl | rfl | rfl
    · cases _e
    · cases _e
    · cases _e
    · cases _e
    · cases _e
    · cases _e
    · cases _e
    · cases _e
    · cases _e
    · cases _e
    · cases _e
    · cases _e
    · cases _e
    · exact ⟨pin_laid_internal_strconv_leftcheats, by kernel_rfl⟩
    · exact ⟨pin_laid_internal_strconv_pow10Tab, by kernel_rfl⟩) fits1
end Go.Proofs.YtednjmngalmdkaaGreatDoor
