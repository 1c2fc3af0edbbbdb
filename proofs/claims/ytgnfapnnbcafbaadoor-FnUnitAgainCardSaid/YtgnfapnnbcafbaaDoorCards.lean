/-
  DERIVED. GIVEN WITH THE SEED: THE CARDS: each row of YtgnfapnnbcafbaaDoorRows.lean that lists a variable, with what it lists TIED to the program's text (the seventh form; the later family's looks); each row that meets fmt, with fmt's text TOLD by the authors' own Lean function (tested against real Go, not proved from fmt's source: count such statements apart). THE CARD IS WHAT COUNTS. Prove the row's statement (the work); the ties are given (YtgnfapnnbcafbaaDoorTie.lean); close each card by the builder's one call (the guide's Derived/Test/ToyasCard.lean, 'card_holds'). Laid BY PROGRAM, IN A SANDBOX (cutbox-door.mjs). By AI agents, Wed Nov 11 2026. No macro, syntax, notation, axiom, sorry.
-/
import Derived.Test.YtgnfapnnbcafbaaDoorRows
import GoSem.ClaimSeven
namespace Go.Proofs.YtgnfapnnbcafbaaDoor
namespace Rows

/-- THE TIED CARD OF 'laws.FnNameUnescape'. -/
def fnNameUnescapeCard : Claim7 := { stood := { row := fnNameUnescapeRow, standIns := [], harness := (true, "f58058ee9e59dcff96b74284e7fbd271e0856a96b1b638c1385a5d7d0cc7133f"), looks := true }, kinds := [], alts := [], laidByText := true, laidKinds := [.data, .data, .data, .sentinel, .sentinel], laidTests := true, laidLooks := .later }
def FnNameUnescapeCardSaid : Prop := Claim7.holds Tryd.pinned (.plain (OpenSpec.ofChange fnNameUnescapeSpec)) fnNameUnescapeCard

/-- THE TIED CARD OF 'laws.FnPathText'. -/
def fnPathTextCard : Claim7 := { stood := { row := fnPathTextRow, standIns := [], harness := (true, "f58058ee9e59dcff96b74284e7fbd271e0856a96b1b638c1385a5d7d0cc7133f"), looks := true }, kinds := [], alts := [], laidByText := true, laidKinds := [.data, .data, .data, .sentinel, .sentinel], laidTests := true, laidLooks := .later }
def FnPathTextCardSaid : Prop := Claim7.holds Tryd.pinned (.plain (OpenSpec.ofChange fnPathTextSpec)) fnPathTextCard

/-- THE TIED CARD OF 'laws.FnUnitSame'. -/
def fnUnitSameCard : Claim7 := { stood := { row := fnUnitSameRow, standIns := [], harness := (true, "f58058ee9e59dcff96b74284e7fbd271e0856a96b1b638c1385a5d7d0cc7133f"), looks := true }, kinds := [], alts := [], laidByText := true, laidKinds := [.data, .listed, .data, .data, .pinned], laidTests := true, laidLooks := .later }
def FnUnitSameCardSaid : Prop := Claim7.holds Tryd.pinned (.plain (OpenSpec.ofChange fnUnitSameSpec)) fnUnitSameCard

/-- THE TIED CARD OF 'laws.FnUnitAgain'. -/
def fnUnitAgainCard : Claim7 := { stood := { row := fnUnitAgainRow, standIns := [], harness := (true, "f58058ee9e59dcff96b74284e7fbd271e0856a96b1b638c1385a5d7d0cc7133f"), looks := true }, kinds := [], alts := [], laidByText := true, laidKinds := [.data, .listed, .data, .data, .pinned], laidTests := true, laidLooks := .later }
def FnUnitAgainCardSaid : Prop := Claim7.holds Tryd.pinned (.plain (OpenSpec.ofChange fnUnitAgainSpec)) fnUnitAgainCard

/-- THE TIED CARD OF 'laws.FnUnitBack'. -/
def fnUnitBackCard : Claim7 := { stood := { row := fnUnitBackRow, standIns := [], harness := (true, "f58058ee9e59dcff96b74284e7fbd271e0856a96b1b638c1385a5d7d0cc7133f"), looks := true }, kinds := [], alts := [], laidByText := true, laidKinds := [.data, .listed, .data, .data, .pinned], laidTests := true, laidLooks := .later }
def FnUnitBackCardSaid : Prop := Claim7.holds Tryd.pinned (.plain (OpenSpec.ofChange fnUnitBackSpec)) fnUnitBackCard

/-- THE TIED CARD OF 'laws.FnUnitJoined'. -/
def fnUnitJoinedCard : Claim7 := { stood := { row := fnUnitJoinedRow, standIns := [], harness := (true, "f58058ee9e59dcff96b74284e7fbd271e0856a96b1b638c1385a5d7d0cc7133f"), looks := true }, kinds := [], alts := [], laidByText := true, laidKinds := [.data, .listed, .data, .data, .pinned], laidTests := true, laidLooks := .later }
def FnUnitJoinedCardSaid : Prop := Claim7.holds Tryd.pinned (.plain (OpenSpec.ofChange fnUnitJoinedSpec)) fnUnitJoinedCard

/-- THE SECOND FORM's CARD OF 'laws.FnNameUnescape'. -/
def fnNameUnescapeUptoCard : Claim7 := { stood := { row := fnNameUnescapeUptoRow, standIns := [], harness := (true, "f58058ee9e59dcff96b74284e7fbd271e0856a96b1b638c1385a5d7d0cc7133f"), looks := true }, kinds := [], alts := [], laidByText := true, laidKinds := [.data, .data, .data, .sentinel, .sentinel], laidTests := true, laidLooks := .later }
def FnNameUnescapeUptoCardSaid : Prop := Claim7.holds Tryd.pinned (.plain (OpenSpec.upto fnNameUnescapeSpec)) fnNameUnescapeUptoCard

/-- THE SECOND FORM's CARD OF 'laws.FnPathText'. -/
def fnPathTextUptoCard : Claim7 := { stood := { row := fnPathTextUptoRow, standIns := [], harness := (true, "f58058ee9e59dcff96b74284e7fbd271e0856a96b1b638c1385a5d7d0cc7133f"), looks := true }, kinds := [], alts := [], laidByText := true, laidKinds := [.data, .data, .data, .sentinel, .sentinel], laidTests := true, laidLooks := .later }
def FnPathTextUptoCardSaid : Prop := Claim7.holds Tryd.pinned (.plain (OpenSpec.upto fnPathTextSpec)) fnPathTextUptoCard

/-- THE SECOND FORM's CARD OF 'laws.FnUnitSame'. -/
def fnUnitSameUptoCard : Claim7 := { stood := { row := fnUnitSameUptoRow, standIns := [], harness := (true, "f58058ee9e59dcff96b74284e7fbd271e0856a96b1b638c1385a5d7d0cc7133f"), looks := true }, kinds := [], alts := [], laidByText := true, laidKinds := [.data, .listed, .data, .data, .pinned], laidTests := true, laidLooks := .later }
def FnUnitSameUptoCardSaid : Prop := Claim7.holds Tryd.pinned (.plain (OpenSpec.upto fnUnitSameSpec)) fnUnitSameUptoCard

/-- THE SECOND FORM's CARD OF 'laws.FnUnitAgain'. -/
def fnUnitAgainUptoCard : Claim7 := { stood := { row := fnUnitAgainUptoRow, standIns := [], harness := (true, "f58058ee9e59dcff96b74284e7fbd271e0856a96b1b638c1385a5d7d0cc7133f"), looks := true }, kinds := [], alts := [], laidByText := true, laidKinds := [.data, .listed, .data, .data, .pinned], laidTests := true, laidLooks := .later }
def FnUnitAgainUptoCardSaid : Prop := Claim7.holds Tryd.pinned (.plain (OpenSpec.upto fnUnitAgainSpec)) fnUnitAgainUptoCard

/-- THE SECOND FORM's CARD OF 'laws.FnUnitBack'. -/
def fnUnitBackUptoCard : Claim7 := { stood := { row := fnUnitBackUptoRow, standIns := [], harness := (true, "f58058ee9e59dcff96b74284e7fbd271e0856a96b1b638c1385a5d7d0cc7133f"), looks := true }, kinds := [], alts := [], laidByText := true, laidKinds := [.data, .listed, .data, .data, .pinned], laidTests := true, laidLooks := .later }
def FnUnitBackUptoCardSaid : Prop := Claim7.holds Tryd.pinned (.plain (OpenSpec.upto fnUnitBackSpec)) fnUnitBackUptoCard

/-- THE SECOND FORM's CARD OF 'laws.FnUnitJoined'. -/
def fnUnitJoinedUptoCard : Claim7 := { stood := { row := fnUnitJoinedUptoRow, standIns := [], harness := (true, "f58058ee9e59dcff96b74284e7fbd271e0856a96b1b638c1385a5d7d0cc7133f"), looks := true }, kinds := [], alts := [], laidByText := true, laidKinds := [.data, .listed, .data, .data, .pinned], laidTests := true, laidLooks := .later }
def FnUnitJoinedUptoCardSaid : Prop := Claim7.holds Tryd.pinned (.plain (OpenSpec.upto fnUnitJoinedSpec)) fnUnitJoinedUptoCard
end Rows
end Go.Proofs.YtgnfapnnbcafbaaDoor
