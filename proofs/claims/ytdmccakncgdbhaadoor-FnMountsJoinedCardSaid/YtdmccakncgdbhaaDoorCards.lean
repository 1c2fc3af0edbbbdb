/-
  DERIVED. GIVEN WITH THE SEED: THE CARDS: each row of YtdmccakncgdbhaaDoorRows.lean that lists a variable, with what it lists TIED to the program's text (the seventh form; the later family's looks); each row that meets fmt, with fmt's text TOLD by the authors' own Lean function (tested against real Go, not proved from fmt's source: count such statements apart). THE CARD IS WHAT COUNTS. Prove the row's statement (the work); the ties are given (YtdmccakncgdbhaaDoorTie.lean); close each card by the builder's one call (the guide's Derived/Test/ToyasCard.lean, 'card_holds'). Laid BY PROGRAM, IN A SANDBOX (cutbox-door.mjs). By AI agents, Wed Nov 11 2026. No macro, syntax, notation, axiom, sorry.
-/
import Derived.Test.YtdmccakncgdbhaaDoorRows
import GoSem.ClaimSeven
namespace Go.Proofs.YtdmccakncgdbhaaDoor
namespace Rows

/-- THE TIED CARD OF 'laws.FnMountsJoined'. -/
def fnMountsJoinedCard : Claim7 := { stood := { row := fnMountsJoinedRow, standIns := [], harness := (true, "85f32a9c85bffd5301e9404a43c0197aa582ea57c4b5a6e6ae1c3a6434854be5"), looks := true }, kinds := [], alts := [], laidByText := true, laidKinds := [.data, .data, .data, .sentinel, .sentinel], laidTests := true, laidLooks := .later }
def FnMountsJoinedCardSaid : Prop := Claim7.holds Tryd.pinned (.plain (OpenSpec.ofChange fnMountsJoinedSpec)) fnMountsJoinedCard

/-- THE TIED CARD OF 'laws.FnMountsPrefix'. -/
def fnMountsPrefixCard : Claim7 := { stood := { row := fnMountsPrefixRow, standIns := [], harness := (true, "85f32a9c85bffd5301e9404a43c0197aa582ea57c4b5a6e6ae1c3a6434854be5"), looks := true }, kinds := [], alts := [], laidByText := true, laidKinds := [.data, .data, .data, .sentinel, .sentinel], laidTests := true, laidLooks := .later }
def FnMountsPrefixCardSaid : Prop := Claim7.holds Tryd.pinned (.plain (OpenSpec.ofChange fnMountsPrefixSpec)) fnMountsPrefixCard

/-- THE TIED CARD OF 'laws.FnMountsTypes'. -/
def fnMountsTypesCard : Claim7 := { stood := { row := fnMountsTypesRow, standIns := [], harness := (true, "85f32a9c85bffd5301e9404a43c0197aa582ea57c4b5a6e6ae1c3a6434854be5"), looks := true }, kinds := [], alts := [], laidByText := true, laidKinds := [.data, .data, .data, .sentinel, .sentinel], laidTests := true, laidLooks := .later }
def FnMountsTypesCardSaid : Prop := Claim7.holds Tryd.pinned (.plain (OpenSpec.ofChange fnMountsTypesSpec)) fnMountsTypesCard

/-- THE SECOND FORM's CARD OF 'laws.FnMountsJoined'. -/
def fnMountsJoinedUptoCard : Claim7 := { stood := { row := fnMountsJoinedUptoRow, standIns := [], harness := (true, "85f32a9c85bffd5301e9404a43c0197aa582ea57c4b5a6e6ae1c3a6434854be5"), looks := true }, kinds := [], alts := [], laidByText := true, laidKinds := [.data, .data, .data, .sentinel, .sentinel], laidTests := true, laidLooks := .later }
def FnMountsJoinedUptoCardSaid : Prop := Claim7.holds Tryd.pinned (.plain (OpenSpec.upto fnMountsJoinedSpec)) fnMountsJoinedUptoCard

/-- THE SECOND FORM's CARD OF 'laws.FnMountsPrefix'. -/
def fnMountsPrefixUptoCard : Claim7 := { stood := { row := fnMountsPrefixUptoRow, standIns := [], harness := (true, "85f32a9c85bffd5301e9404a43c0197aa582ea57c4b5a6e6ae1c3a6434854be5"), looks := true }, kinds := [], alts := [], laidByText := true, laidKinds := [.data, .data, .data, .sentinel, .sentinel], laidTests := true, laidLooks := .later }
def FnMountsPrefixUptoCardSaid : Prop := Claim7.holds Tryd.pinned (.plain (OpenSpec.upto fnMountsPrefixSpec)) fnMountsPrefixUptoCard

/-- THE SECOND FORM's CARD OF 'laws.FnMountsTypes'. -/
def fnMountsTypesUptoCard : Claim7 := { stood := { row := fnMountsTypesUptoRow, standIns := [], harness := (true, "85f32a9c85bffd5301e9404a43c0197aa582ea57c4b5a6e6ae1c3a6434854be5"), looks := true }, kinds := [], alts := [], laidByText := true, laidKinds := [.data, .data, .data, .sentinel, .sentinel], laidTests := true, laidLooks := .later }
def FnMountsTypesUptoCardSaid : Prop := Claim7.holds Tryd.pinned (.plain (OpenSpec.upto fnMountsTypesSpec)) fnMountsTypesUptoCard
end Rows
end Go.Proofs.YtdmccakncgdbhaaDoor
