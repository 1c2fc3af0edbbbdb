/-
  DERIVED. GIVEN WITH THE SEED: THE CARDS: each row of YtednjmngalmdkaaGreatDoorRows.lean that lists a variable, with what it lists TIED to the program's text (the seventh form; the later family's looks); each row that meets fmt, with fmt's text TOLD by the authors' own Lean function (tested against real Go, not proved from fmt's source: count such statements apart). THE CARD IS WHAT COUNTS. Prove the row's statement (the work); the ties are given (YtednjmngalmdkaaGreatDoorTie.lean); close each card by the builder's one call (the guide's Derived/Test/ToyasCard.lean, 'card_holds'). Laid BY PROGRAM, IN A SANDBOX (cutbox-door.mjs). By AI agents, Wed Nov 11 2026. No macro, syntax, notation, axiom, sorry.
-/
import Derived.Test.YtednjmngalmdkaaGreatDoorRows
import GoSem.ClaimSeven
namespace Go.Proofs.YtednjmngalmdkaaGreatDoor
namespace Rows

/-- THE TIED CARD OF 'laws.FnLoadavgBack'. -/
def fnLoadavgBackCard : Claim7 := { stood := { row := fnLoadavgBackRow, standIns := [], harness := (true, "53f4c8237616156e03c6f728846afa6a35c2da30389c62f418203883125c9245"), looks := true }, kinds := [], alts := [], laidByText := true, laidKinds := [.data, .data, .widerDeep, .widerDeep, .data, .data, .data, .data, .data, .sentinel, .sentinel, .listed, .data, .pinned, .pinned], laidTests := true, laidLooks := .later }
def FnLoadavgBackCardSaid : Prop := Claim7.holds Tryz.pinned (.plain (OpenSpec.ofChange fnLoadavgBackSpec)) fnLoadavgBackCard

/-- THE TIED CARD OF 'laws.FnBuddyinfoBack'. -/
def fnBuddyinfoBackCard : Claim7 := { stood := { row := fnBuddyinfoBackRow, standIns := [], harness := (true, "53f4c8237616156e03c6f728846afa6a35c2da30389c62f418203883125c9245"), looks := true }, kinds := [], alts := [], laidByText := true, laidKinds := [.data, .data, .widerDeep, .widerDeep, .data, .data, .data, .data, .data, .sentinel, .sentinel, .listed, .data, .pinned, .pinned], laidTests := true, laidLooks := .later }
def FnBuddyinfoBackCardSaid : Prop := Claim7.holds Tryz.pinned (.plain (OpenSpec.ofChange fnBuddyinfoBackSpec)) fnBuddyinfoBackCard

/-- THE TIED CARD OF 'laws.FnStatmBack'. -/
def fnStatmBackCard : Claim7 := { stood := { row := fnStatmBackRow, standIns := [], harness := (true, "53f4c8237616156e03c6f728846afa6a35c2da30389c62f418203883125c9245"), looks := true }, kinds := [], alts := [], laidByText := true, laidKinds := [.data, .data, .widerDeep, .widerDeep, .data, .data, .data, .data, .data, .sentinel, .sentinel, .listed, .data, .pinned, .pinned], laidTests := true, laidLooks := .later }
def FnStatmBackCardSaid : Prop := Claim7.holds Tryz.pinned (.plain (OpenSpec.ofChange fnStatmBackSpec)) fnStatmBackCard

/-- THE TIED CARD OF 'laws.FnSchedstatBack'. -/
def fnSchedstatBackCard : Claim7 := { stood := { row := fnSchedstatBackRow, standIns := [], harness := (true, "53f4c8237616156e03c6f728846afa6a35c2da30389c62f418203883125c9245"), looks := true }, kinds := [], alts := [], laidByText := true, laidKinds := [.data, .data, .widerDeep, .widerDeep, .data, .data, .data, .data, .data, .sentinel, .sentinel, .listed, .data, .pinned, .pinned], laidTests := true, laidLooks := .later }
def FnSchedstatBackCardSaid : Prop := Claim7.holds Tryz.pinned (.plain (OpenSpec.ofChange fnSchedstatBackSpec)) fnSchedstatBackCard

/-- THE TIED CARD OF 'laws.FnConntrackBack'. -/
def fnConntrackBackCard : Claim7 := { stood := { row := fnConntrackBackRow, standIns := [], harness := (true, "53f4c8237616156e03c6f728846afa6a35c2da30389c62f418203883125c9245"), looks := true }, kinds := [], alts := [], laidByText := true, laidKinds := [.data, .data, .widerDeep, .widerDeep, .data, .data, .data, .data, .data, .sentinel, .sentinel, .listed, .data, .pinned, .pinned], laidTests := true, laidLooks := .later }
def FnConntrackBackCardSaid : Prop := Claim7.holds Tryz.pinned (.plain (OpenSpec.ofChange fnConntrackBackSpec)) fnConntrackBackCard

/-- THE TIED CARD OF 'laws.FnSoftnetBack'. -/
def fnSoftnetBackCard : Claim7 := { stood := { row := fnSoftnetBackRow, standIns := [], harness := (true, "53f4c8237616156e03c6f728846afa6a35c2da30389c62f418203883125c9245"), looks := true }, kinds := [], alts := [], laidByText := true, laidKinds := [.data, .data, .widerDeep, .widerDeep, .data, .data, .data, .data, .data, .sentinel, .sentinel, .listed, .data, .pinned, .pinned], laidTests := true, laidLooks := .later }
def FnSoftnetBackCardSaid : Prop := Claim7.holds Tryz.pinned (.plain (OpenSpec.ofChange fnSoftnetBackSpec)) fnSoftnetBackCard

/-- THE TIED CARD OF 'laws.FnRouteBack'. -/
def fnRouteBackCard : Claim7 := { stood := { row := fnRouteBackRow, standIns := [], harness := (true, "53f4c8237616156e03c6f728846afa6a35c2da30389c62f418203883125c9245"), looks := true }, kinds := [], alts := [], laidByText := true, laidKinds := [.data, .data, .widerDeep, .widerDeep, .data, .data, .data, .data, .data, .sentinel, .sentinel, .listed, .data, .pinned, .pinned], laidTests := true, laidLooks := .later }
def FnRouteBackCardSaid : Prop := Claim7.holds Tryz.pinned (.plain (OpenSpec.ofChange fnRouteBackSpec)) fnRouteBackCard

/-- THE TIED CARD OF 'laws.FnSoftirqsBack'. -/
def fnSoftirqsBackCard : Claim7 := { stood := { row := fnSoftirqsBackRow, standIns := [], harness := (true, "53f4c8237616156e03c6f728846afa6a35c2da30389c62f418203883125c9245"), looks := true }, kinds := [], alts := [], laidByText := true, laidKinds := [.data, .data, .widerDeep, .widerDeep, .data, .data, .data, .data, .data, .sentinel, .sentinel, .listed, .data, .pinned, .pinned], laidTests := true, laidLooks := .later }
def FnSoftirqsBackCardSaid : Prop := Claim7.holds Tryz.pinned (.plain (OpenSpec.ofChange fnSoftirqsBackSpec)) fnSoftirqsBackCard

/-- THE TIED CARD OF 'laws.FnSwapsBack'. -/
def fnSwapsBackCard : Claim7 := { stood := { row := fnSwapsBackRow, standIns := [], harness := (true, "53f4c8237616156e03c6f728846afa6a35c2da30389c62f418203883125c9245"), looks := true }, kinds := [], alts := [], laidByText := true, laidKinds := [.data, .data, .widerDeep, .widerDeep, .data, .data, .data, .data, .data, .sentinel, .sentinel, .listed, .data, .pinned, .pinned], laidTests := true, laidLooks := .later }
def FnSwapsBackCardSaid : Prop := Claim7.holds Tryz.pinned (.plain (OpenSpec.ofChange fnSwapsBackSpec)) fnSwapsBackCard

/-- THE TIED CARD OF 'laws.FnCgroupSummaryBack'. -/
def fnCgroupSummaryBackCard : Claim7 := { stood := { row := fnCgroupSummaryBackRow, standIns := [], harness := (true, "53f4c8237616156e03c6f728846afa6a35c2da30389c62f418203883125c9245"), looks := true }, kinds := [], alts := [], laidByText := true, laidKinds := [.data, .data, .widerDeep, .widerDeep, .data, .data, .data, .data, .data, .sentinel, .sentinel, .listed, .data, .pinned, .pinned], laidTests := true, laidLooks := .later }
def FnCgroupSummaryBackCardSaid : Prop := Claim7.holds Tryz.pinned (.plain (OpenSpec.ofChange fnCgroupSummaryBackSpec)) fnCgroupSummaryBackCard

/-- THE SECOND FORM's CARD OF 'laws.FnLoadavgBack'. -/
def fnLoadavgBackUptoCard : Claim7 := { stood := { row := fnLoadavgBackUptoRow, standIns := [], harness := (true, "53f4c8237616156e03c6f728846afa6a35c2da30389c62f418203883125c9245"), looks := true }, kinds := [], alts := [], laidByText := true, laidKinds := [.data, .data, .widerDeep, .widerDeep, .data, .data, .data, .data, .data, .sentinel, .sentinel, .listed, .data, .pinned, .pinned], laidTests := true, laidLooks := .later }
def FnLoadavgBackUptoCardSaid : Prop := Claim7.holds Tryz.pinned (.plain (OpenSpec.upto fnLoadavgBackSpec)) fnLoadavgBackUptoCard

/-- THE SECOND FORM's CARD OF 'laws.FnBuddyinfoBack'. -/
def fnBuddyinfoBackUptoCard : Claim7 := { stood := { row := fnBuddyinfoBackUptoRow, standIns := [], harness := (true, "53f4c8237616156e03c6f728846afa6a35c2da30389c62f418203883125c9245"), looks := true }, kinds := [], alts := [], laidByText := true, laidKinds := [.data, .data, .widerDeep, .widerDeep, .data, .data, .data, .data, .data, .sentinel, .sentinel, .listed, .data, .pinned, .pinned], laidTests := true, laidLooks := .later }
def FnBuddyinfoBackUptoCardSaid : Prop := Claim7.holds Tryz.pinned (.plain (OpenSpec.upto fnBuddyinfoBackSpec)) fnBuddyinfoBackUptoCard

/-- THE SECOND FORM's CARD OF 'laws.FnStatmBack'. -/
def fnStatmBackUptoCard : Claim7 := { stood := { row := fnStatmBackUptoRow, standIns := [], harness := (true, "53f4c8237616156e03c6f728846afa6a35c2da30389c62f418203883125c9245"), looks := true }, kinds := [], alts := [], laidByText := true, laidKinds := [.data, .data, .widerDeep, .widerDeep, .data, .data, .data, .data, .data, .sentinel, .sentinel, .listed, .data, .pinned, .pinned], laidTests := true, laidLooks := .later }
def FnStatmBackUptoCardSaid : Prop := Claim7.holds Tryz.pinned (.plain (OpenSpec.upto fnStatmBackSpec)) fnStatmBackUptoCard

/-- THE SECOND FORM's CARD OF 'laws.FnSchedstatBack'. -/
def fnSchedstatBackUptoCard : Claim7 := { stood := { row := fnSchedstatBackUptoRow, standIns := [], harness := (true, "53f4c8237616156e03c6f728846afa6a35c2da30389c62f418203883125c9245"), looks := true }, kinds := [], alts := [], laidByText := true, laidKinds := [.data, .data, .widerDeep, .widerDeep, .data, .data, .data, .data, .data, .sentinel, .sentinel, .listed, .data, .pinned, .pinned], laidTests := true, laidLooks := .later }
def FnSchedstatBackUptoCardSaid : Prop := Claim7.holds Tryz.pinned (.plain (OpenSpec.upto fnSchedstatBackSpec)) fnSchedstatBackUptoCard

/-- THE SECOND FORM's CARD OF 'laws.FnConntrackBack'. -/
def fnConntrackBackUptoCard : Claim7 := { stood := { row := fnConntrackBackUptoRow, standIns := [], harness := (true, "53f4c8237616156e03c6f728846afa6a35c2da30389c62f418203883125c9245"), looks := true }, kinds := [], alts := [], laidByText := true, laidKinds := [.data, .data, .widerDeep, .widerDeep, .data, .data, .data, .data, .data, .sentinel, .sentinel, .listed, .data, .pinned, .pinned], laidTests := true, laidLooks := .later }
def FnConntrackBackUptoCardSaid : Prop := Claim7.holds Tryz.pinned (.plain (OpenSpec.upto fnConntrackBackSpec)) fnConntrackBackUptoCard

/-- THE SECOND FORM's CARD OF 'laws.FnSoftnetBack'. -/
def fnSoftnetBackUptoCard : Claim7 := { stood := { row := fnSoftnetBackUptoRow, standIns := [], harness := (true, "53f4c8237616156e03c6f728846afa6a35c2da30389c62f418203883125c9245"), looks := true }, kinds := [], alts := [], laidByText := true, laidKinds := [.data, .data, .widerDeep, .widerDeep, .data, .data, .data, .data, .data, .sentinel, .sentinel, .listed, .data, .pinned, .pinned], laidTests := true, laidLooks := .later }
def FnSoftnetBackUptoCardSaid : Prop := Claim7.holds Tryz.pinned (.plain (OpenSpec.upto fnSoftnetBackSpec)) fnSoftnetBackUptoCard

/-- THE SECOND FORM's CARD OF 'laws.FnRouteBack'. -/
def fnRouteBackUptoCard : Claim7 := { stood := { row := fnRouteBackUptoRow, standIns := [], harness := (true, "53f4c8237616156e03c6f728846afa6a35c2da30389c62f418203883125c9245"), looks := true }, kinds := [], alts := [], laidByText := true, laidKinds := [.data, .data, .widerDeep, .widerDeep, .data, .data, .data, .data, .data, .sentinel, .sentinel, .listed, .data, .pinned, .pinned], laidTests := true, laidLooks := .later }
def FnRouteBackUptoCardSaid : Prop := Claim7.holds Tryz.pinned (.plain (OpenSpec.upto fnRouteBackSpec)) fnRouteBackUptoCard

/-- THE SECOND FORM's CARD OF 'laws.FnSoftirqsBack'. -/
def fnSoftirqsBackUptoCard : Claim7 := { stood := { row := fnSoftirqsBackUptoRow, standIns := [], harness := (true, "53f4c8237616156e03c6f728846afa6a35c2da30389c62f418203883125c9245"), looks := true }, kinds := [], alts := [], laidByText := true, laidKinds := [.data, .data, .widerDeep, .widerDeep, .data, .data, .data, .data, .data, .sentinel, .sentinel, .listed, .data, .pinned, .pinned], laidTests := true, laidLooks := .later }
def FnSoftirqsBackUptoCardSaid : Prop := Claim7.holds Tryz.pinned (.plain (OpenSpec.upto fnSoftirqsBackSpec)) fnSoftirqsBackUptoCard

/-- THE SECOND FORM's CARD OF 'laws.FnSwapsBack'. -/
def fnSwapsBackUptoCard : Claim7 := { stood := { row := fnSwapsBackUptoRow, standIns := [], harness := (true, "53f4c8237616156e03c6f728846afa6a35c2da30389c62f418203883125c9245"), looks := true }, kinds := [], alts := [], laidByText := true, laidKinds := [.data, .data, .widerDeep, .widerDeep, .data, .data, .data, .data, .data, .sentinel, .sentinel, .listed, .data, .pinned, .pinned], laidTests := true, laidLooks := .later }
def FnSwapsBackUptoCardSaid : Prop := Claim7.holds Tryz.pinned (.plain (OpenSpec.upto fnSwapsBackSpec)) fnSwapsBackUptoCard

/-- THE SECOND FORM's CARD OF 'laws.FnCgroupSummaryBack'. -/
def fnCgroupSummaryBackUptoCard : Claim7 := { stood := { row := fnCgroupSummaryBackUptoRow, standIns := [], harness := (true, "53f4c8237616156e03c6f728846afa6a35c2da30389c62f418203883125c9245"), looks := true }, kinds := [], alts := [], laidByText := true, laidKinds := [.data, .data, .widerDeep, .widerDeep, .data, .data, .data, .data, .data, .sentinel, .sentinel, .listed, .data, .pinned, .pinned], laidTests := true, laidLooks := .later }
def FnCgroupSummaryBackUptoCardSaid : Prop := Claim7.holds Tryz.pinned (.plain (OpenSpec.upto fnCgroupSummaryBackSpec)) fnCgroupSummaryBackUptoCard
end Rows
end Go.Proofs.YtednjmngalmdkaaGreatDoor
