/-
  DERIVED. GIVEN WITH THE SEED: THE CARDS: each row of YthmddkghlmgpaaaGreatDoorRows.lean that lists a variable, with what it lists TIED to the program's text (the seventh form; the later family's looks); each row that meets fmt, with fmt's text TOLD by the authors' own Lean function (tested against real Go, not proved from fmt's source: count such statements apart). THE CARD IS WHAT COUNTS. Prove the row's statement (the work); the ties are given (YthmddkghlmgpaaaGreatDoorTie.lean); close each card by the builder's one call (the guide's Derived/Test/ToyasCard.lean, 'card_holds'). Laid BY PROGRAM, IN A SANDBOX (cutbox-door.mjs). By AI agents, Wed Nov 11 2026. No macro, syntax, notation, axiom, sorry.
-/
import Derived.Test.YthmddkghlmgpaaaGreatDoorRows
import GoSem.ClaimSeven
namespace Go.Proofs.YthmddkghlmgpaaaGreatDoor
namespace Rows

/-- THE TIED CARD OF 'laws.FnDictAhead'. -/
def fnDictAheadCard : Claim7 := { stood := { row := fnDictAheadRow, standIns := [], harness := (true, "7d8f4fea0ebe83e6a6a0484c13157926b1e6bf397a49e7f0e3485588769f03dc"), looks := true }, kinds := [], alts := [], laidByText := true, laidKinds := [.handle, .sentinel, .sentinel, .sentinel, .data], laidTests := true, laidLooks := .later }
def FnDictAheadCardSaid : Prop := Claim7.holds Tryz.pinned (.plain (OpenSpec.ofChange fnDictAheadSpec)) fnDictAheadCard

/-- THE TIED CARD OF 'laws.FnDictLast'. -/
def fnDictLastCard : Claim7 := { stood := { row := fnDictLastRow, standIns := [], harness := (true, "7d8f4fea0ebe83e6a6a0484c13157926b1e6bf397a49e7f0e3485588769f03dc"), looks := true }, kinds := [], alts := [], laidByText := true, laidKinds := [.handle, .sentinel, .sentinel, .sentinel, .data], laidTests := true, laidLooks := .later }
def FnDictLastCardSaid : Prop := Claim7.holds Tryz.pinned (.plain (OpenSpec.ofChange fnDictLastSpec)) fnDictLastCard

/-- THE TIED CARD OF 'laws.FnDictStored'. -/
def fnDictStoredCard : Claim7 := { stood := { row := fnDictStoredRow, standIns := [], harness := (true, "7d8f4fea0ebe83e6a6a0484c13157926b1e6bf397a49e7f0e3485588769f03dc"), looks := true }, kinds := [], alts := [], laidByText := true, laidKinds := [.handle, .sentinel, .sentinel, .sentinel, .data], laidTests := true, laidLooks := .later }
def FnDictStoredCardSaid : Prop := Claim7.holds Tryz.pinned (.plain (OpenSpec.ofChange fnDictStoredSpec)) fnDictStoredCard

/-- THE TIED CARD OF 'laws.FnJoined'. -/
def fnJoinedCard : Claim7 := { stood := { row := fnJoinedRow, standIns := [], harness := (true, "7d8f4fea0ebe83e6a6a0484c13157926b1e6bf397a49e7f0e3485588769f03dc"), looks := true }, kinds := [], alts := [], laidByText := true, laidKinds := [.handle, .sentinel, .sentinel, .sentinel, .data], laidTests := true, laidLooks := .later }
def FnJoinedCardSaid : Prop := Claim7.holds Tryz.pinned (.plain (OpenSpec.ofChange fnJoinedSpec)) fnJoinedCard

/-- THE TIED CARD OF 'laws.FnTwoWays'. -/
def fnTwoWaysCard : Claim7 := { stood := { row := fnTwoWaysRow, standIns := [], harness := (true, "7d8f4fea0ebe83e6a6a0484c13157926b1e6bf397a49e7f0e3485588769f03dc"), looks := true }, kinds := [], alts := [], laidByText := true, laidKinds := [.handle, .sentinel, .sentinel, .sentinel, .data], laidTests := true, laidLooks := .later }
def FnTwoWaysCardSaid : Prop := Claim7.holds Tryz.pinned (.plain (OpenSpec.ofChange fnTwoWaysSpec)) fnTwoWaysCard

/-- THE TIED CARD OF 'laws.FnUnended'. -/
def fnUnendedCard : Claim7 := { stood := { row := fnUnendedRow, standIns := [], harness := (true, "7d8f4fea0ebe83e6a6a0484c13157926b1e6bf397a49e7f0e3485588769f03dc"), looks := true }, kinds := [], alts := [], laidByText := true, laidKinds := [.handle, .sentinel, .sentinel, .sentinel, .data], laidTests := true, laidLooks := .later }
def FnUnendedCardSaid : Prop := Claim7.holds Tryz.pinned (.plain (OpenSpec.ofChange fnUnendedSpec)) fnUnendedCard

/-- THE SECOND FORM's CARD OF 'laws.FnDictAhead'. -/
def fnDictAheadUptoCard : Claim7 := { stood := { row := fnDictAheadUptoRow, standIns := [], harness := (true, "7d8f4fea0ebe83e6a6a0484c13157926b1e6bf397a49e7f0e3485588769f03dc"), looks := true }, kinds := [], alts := [], laidByText := true, laidKinds := [.handle, .sentinel, .sentinel, .sentinel, .data], laidTests := true, laidLooks := .later }
def FnDictAheadUptoCardSaid : Prop := Claim7.holds Tryz.pinned (.plain (OpenSpec.upto fnDictAheadSpec)) fnDictAheadUptoCard

/-- THE SECOND FORM's CARD OF 'laws.FnDictLast'. -/
def fnDictLastUptoCard : Claim7 := { stood := { row := fnDictLastUptoRow, standIns := [], harness := (true, "7d8f4fea0ebe83e6a6a0484c13157926b1e6bf397a49e7f0e3485588769f03dc"), looks := true }, kinds := [], alts := [], laidByText := true, laidKinds := [.handle, .sentinel, .sentinel, .sentinel, .data], laidTests := true, laidLooks := .later }
def FnDictLastUptoCardSaid : Prop := Claim7.holds Tryz.pinned (.plain (OpenSpec.upto fnDictLastSpec)) fnDictLastUptoCard

/-- THE SECOND FORM's CARD OF 'laws.FnDictStored'. -/
def fnDictStoredUptoCard : Claim7 := { stood := { row := fnDictStoredUptoRow, standIns := [], harness := (true, "7d8f4fea0ebe83e6a6a0484c13157926b1e6bf397a49e7f0e3485588769f03dc"), looks := true }, kinds := [], alts := [], laidByText := true, laidKinds := [.handle, .sentinel, .sentinel, .sentinel, .data], laidTests := true, laidLooks := .later }
def FnDictStoredUptoCardSaid : Prop := Claim7.holds Tryz.pinned (.plain (OpenSpec.upto fnDictStoredSpec)) fnDictStoredUptoCard

/-- THE SECOND FORM's CARD OF 'laws.FnJoined'. -/
def fnJoinedUptoCard : Claim7 := { stood := { row := fnJoinedUptoRow, standIns := [], harness := (true, "7d8f4fea0ebe83e6a6a0484c13157926b1e6bf397a49e7f0e3485588769f03dc"), looks := true }, kinds := [], alts := [], laidByText := true, laidKinds := [.handle, .sentinel, .sentinel, .sentinel, .data], laidTests := true, laidLooks := .later }
def FnJoinedUptoCardSaid : Prop := Claim7.holds Tryz.pinned (.plain (OpenSpec.upto fnJoinedSpec)) fnJoinedUptoCard

/-- THE SECOND FORM's CARD OF 'laws.FnTwoWays'. -/
def fnTwoWaysUptoCard : Claim7 := { stood := { row := fnTwoWaysUptoRow, standIns := [], harness := (true, "7d8f4fea0ebe83e6a6a0484c13157926b1e6bf397a49e7f0e3485588769f03dc"), looks := true }, kinds := [], alts := [], laidByText := true, laidKinds := [.handle, .sentinel, .sentinel, .sentinel, .data], laidTests := true, laidLooks := .later }
def FnTwoWaysUptoCardSaid : Prop := Claim7.holds Tryz.pinned (.plain (OpenSpec.upto fnTwoWaysSpec)) fnTwoWaysUptoCard

/-- THE SECOND FORM's CARD OF 'laws.FnUnended'. -/
def fnUnendedUptoCard : Claim7 := { stood := { row := fnUnendedUptoRow, standIns := [], harness := (true, "7d8f4fea0ebe83e6a6a0484c13157926b1e6bf397a49e7f0e3485588769f03dc"), looks := true }, kinds := [], alts := [], laidByText := true, laidKinds := [.handle, .sentinel, .sentinel, .sentinel, .data], laidTests := true, laidLooks := .later }
def FnUnendedUptoCardSaid : Prop := Claim7.holds Tryz.pinned (.plain (OpenSpec.upto fnUnendedSpec)) fnUnendedUptoCard
end Rows
end Go.Proofs.YthmddkghlmgpaaaGreatDoor
