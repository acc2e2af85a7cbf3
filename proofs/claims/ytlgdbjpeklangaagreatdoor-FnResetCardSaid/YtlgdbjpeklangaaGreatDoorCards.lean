/-
  DERIVED. GIVEN WITH THE SEED: THE CARDS: each row of YtlgdbjpeklangaaGreatDoorRows.lean that lists a variable, with what it lists TIED to the program's text (the seventh form; the later family's looks); each row that meets fmt, with fmt's text TOLD by the authors' own Lean function (tested against real Go, not proved from fmt's source: count such statements apart). THE CARD IS WHAT COUNTS. Prove the row's statement (the work); the ties are given (YtlgdbjpeklangaaGreatDoorTie.lean); close each card by the builder's one call (the guide's Derived/Test/ToyasCard.lean, 'card_holds'). Laid BY PROGRAM, IN A SANDBOX (cutbox-door.mjs). By AI agents, Wed Nov 11 2026. No macro, syntax, notation, axiom, sorry.
-/
import Derived.Test.YtlgdbjpeklangaaGreatDoorRows
import GoSem.ClaimSeven
namespace Go.Proofs.YtlgdbjpeklangaaGreatDoor
namespace Rows

/-- THE TIED CARD OF 'laws.FnReset'. -/
def fnResetCard : Claim7 := { stood := { row := fnResetRow, standIns := [], harness := (true, "54382b80ed8d5c7f654360123cde48661ff138ad28bd5c5ac82d7b5383284daa"), looks := true }, kinds := [], alts := [], laidByText := true, laidKinds := [.handle, .sentinel, .sentinel, .sentinel, .data], laidTests := true, laidLooks := .later }
def FnResetCardSaid : Prop := Claim7.holds Tryz.pinned (.plain (OpenSpec.ofChange fnResetSpec)) fnResetCard

/-- THE TIED CARD OF 'laws.FnSlow'. -/
def fnSlowCard : Claim7 := { stood := { row := fnSlowRow, standIns := [], harness := (true, "54382b80ed8d5c7f654360123cde48661ff138ad28bd5c5ac82d7b5383284daa"), looks := true }, kinds := [], alts := [], laidByText := true, laidKinds := [.handle, .sentinel, .sentinel, .sentinel, .data], laidTests := true, laidLooks := .later }
def FnSlowCardSaid : Prop := Claim7.holds Tryz.pinned (.plain (OpenSpec.ofChange fnSlowSpec)) fnSlowCard

/-- THE SECOND FORM's CARD OF 'laws.FnReset'. -/
def fnResetUptoCard : Claim7 := { stood := { row := fnResetUptoRow, standIns := [], harness := (true, "54382b80ed8d5c7f654360123cde48661ff138ad28bd5c5ac82d7b5383284daa"), looks := true }, kinds := [], alts := [], laidByText := true, laidKinds := [.handle, .sentinel, .sentinel, .sentinel, .data], laidTests := true, laidLooks := .later }
def FnResetUptoCardSaid : Prop := Claim7.holds Tryz.pinned (.plain (OpenSpec.upto fnResetSpec)) fnResetUptoCard

/-- THE SECOND FORM's CARD OF 'laws.FnSlow'. -/
def fnSlowUptoCard : Claim7 := { stood := { row := fnSlowUptoRow, standIns := [], harness := (true, "54382b80ed8d5c7f654360123cde48661ff138ad28bd5c5ac82d7b5383284daa"), looks := true }, kinds := [], alts := [], laidByText := true, laidKinds := [.handle, .sentinel, .sentinel, .sentinel, .data], laidTests := true, laidLooks := .later }
def FnSlowUptoCardSaid : Prop := Claim7.holds Tryz.pinned (.plain (OpenSpec.upto fnSlowSpec)) fnSlowUptoCard
end Rows
end Go.Proofs.YtlgdbjpeklangaaGreatDoor
