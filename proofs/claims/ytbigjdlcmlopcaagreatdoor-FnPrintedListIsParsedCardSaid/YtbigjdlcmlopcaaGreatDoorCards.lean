/-
  DERIVED. GIVEN WITH THE SEED: THE CARDS: each row of YtbigjdlcmlopcaaGreatDoorRows.lean that lists a variable, with what it lists TIED to the program's text (the seventh form; the later family's looks); each row that meets fmt, with fmt's text TOLD by the authors' own Lean function (tested against real Go, not proved from fmt's source: count such statements apart). THE CARD IS WHAT COUNTS. Prove the row's statement (the work); the ties are given (YtbigjdlcmlopcaaGreatDoorTie.lean); close each card by the builder's one call (the guide's Derived/Test/ToyasCard.lean, 'card_holds'). Laid BY PROGRAM, IN A SANDBOX (cutbox-door.mjs). By AI agents, Wed Nov 11 2026. No macro, syntax, notation, axiom, sorry.
-/
import Derived.Test.YtbigjdlcmlopcaaGreatDoorRows
import GoSem.ClaimSeven
namespace Go.Proofs.YtbigjdlcmlopcaaGreatDoor
namespace Rows

/-- THE TIED CARD OF 'laws.FnAnyLocalIsParsed'. -/
def fnAnyLocalIsParsedCard : Claim7 := { stood := { row := fnAnyLocalIsParsedRow, standIns := [], harness := (true, "fe2df70a41323a5c24c5e0c67f40a247bb19d8041f8c1f46e2a69d0edcbda946"), looks := true }, kinds := [], alts := [], laidByText := true, laidKinds := [.data, .sentinel, .sentinel, .sentinel, .data, .data, .sentinel, .called, .called, .zero, .pinned, .pinned], laidTests := true, laidLooks := .later }
def FnAnyLocalIsParsedCardSaid : Prop := Claim7.holds Tryz.pinned (.plain (OpenSpec.ofChange fnAnyLocalIsParsedSpec)) fnAnyLocalIsParsedCard

/-- THE TIED CARD OF 'laws.FnPrintedIsParsed'. -/
def fnPrintedIsParsedCard : Claim7 := { stood := { row := fnPrintedIsParsedRow, standIns := [], harness := (true, "fe2df70a41323a5c24c5e0c67f40a247bb19d8041f8c1f46e2a69d0edcbda946"), looks := true }, kinds := [], alts := [], laidByText := true, laidKinds := [.data, .sentinel, .sentinel, .sentinel, .data, .data, .sentinel, .called, .called, .zero, .pinned, .pinned], laidTests := true, laidLooks := .later }
def FnPrintedIsParsedCardSaid : Prop := Claim7.holds Tryz.pinned (.plain (OpenSpec.ofChange fnPrintedIsParsedSpec)) fnPrintedIsParsedCard

/-- THE TIED CARD OF 'laws.FnPrintedListIsParsed'. -/
def fnPrintedListIsParsedCard : Claim7 := { stood := { row := fnPrintedListIsParsedRow, standIns := [], harness := (true, "fe2df70a41323a5c24c5e0c67f40a247bb19d8041f8c1f46e2a69d0edcbda946"), looks := true }, kinds := [], alts := [], laidByText := true, laidKinds := [.data, .sentinel, .sentinel, .sentinel, .data, .data, .sentinel, .called, .called, .zero, .pinned, .pinned], laidTests := true, laidLooks := .later }
def FnPrintedListIsParsedCardSaid : Prop := Claim7.holds Tryz.pinned (.plain (OpenSpec.ofChange fnPrintedListIsParsedSpec)) fnPrintedListIsParsedCard

/-- THE SECOND FORM's CARD OF 'laws.FnAnyLocalIsParsed'. -/
def fnAnyLocalIsParsedUptoCard : Claim7 := { stood := { row := fnAnyLocalIsParsedUptoRow, standIns := [], harness := (true, "fe2df70a41323a5c24c5e0c67f40a247bb19d8041f8c1f46e2a69d0edcbda946"), looks := true }, kinds := [], alts := [], laidByText := true, laidKinds := [.data, .sentinel, .sentinel, .sentinel, .data, .data, .sentinel, .called, .called, .zero, .pinned, .pinned], laidTests := true, laidLooks := .later }
def FnAnyLocalIsParsedUptoCardSaid : Prop := Claim7.holds Tryz.pinned (.plain (OpenSpec.upto fnAnyLocalIsParsedSpec)) fnAnyLocalIsParsedUptoCard

/-- THE SECOND FORM's CARD OF 'laws.FnPrintedIsParsed'. -/
def fnPrintedIsParsedUptoCard : Claim7 := { stood := { row := fnPrintedIsParsedUptoRow, standIns := [], harness := (true, "fe2df70a41323a5c24c5e0c67f40a247bb19d8041f8c1f46e2a69d0edcbda946"), looks := true }, kinds := [], alts := [], laidByText := true, laidKinds := [.data, .sentinel, .sentinel, .sentinel, .data, .data, .sentinel, .called, .called, .zero, .pinned, .pinned], laidTests := true, laidLooks := .later }
def FnPrintedIsParsedUptoCardSaid : Prop := Claim7.holds Tryz.pinned (.plain (OpenSpec.upto fnPrintedIsParsedSpec)) fnPrintedIsParsedUptoCard

/-- THE SECOND FORM's CARD OF 'laws.FnPrintedListIsParsed'. -/
def fnPrintedListIsParsedUptoCard : Claim7 := { stood := { row := fnPrintedListIsParsedUptoRow, standIns := [], harness := (true, "fe2df70a41323a5c24c5e0c67f40a247bb19d8041f8c1f46e2a69d0edcbda946"), looks := true }, kinds := [], alts := [], laidByText := true, laidKinds := [.data, .sentinel, .sentinel, .sentinel, .data, .data, .sentinel, .called, .called, .zero, .pinned, .pinned], laidTests := true, laidLooks := .later }
def FnPrintedListIsParsedUptoCardSaid : Prop := Claim7.holds Tryz.pinned (.plain (OpenSpec.upto fnPrintedListIsParsedSpec)) fnPrintedListIsParsedUptoCard
end Rows
end Go.Proofs.YtbigjdlcmlopcaaGreatDoor
