/-
  DERIVED. GIVEN WITH THE SEED: THE CARDS: each row of YteolgmacekgndaaGreatDoorRows.lean that lists a variable, with what it lists TIED to the program's text (the seventh form; the later family's looks); each row that meets fmt, with fmt's text TOLD by the authors' own Lean function (tested against real Go, not proved from fmt's source: count such statements apart). THE CARD IS WHAT COUNTS. Prove the row's statement (the work); the ties are given (YteolgmacekgndaaGreatDoorTie.lean); close each card by the builder's one call (the guide's Derived/Test/ToyasCard.lean, 'card_holds'). Laid BY PROGRAM, IN A SANDBOX (cutbox-door.mjs). By AI agents, Wed Nov 11 2026. No macro, syntax, notation, axiom, sorry.
-/
import Derived.Test.YteolgmacekgndaaGreatDoorRows
import GoSem.ClaimSeven
namespace Go.Proofs.YteolgmacekgndaaGreatDoor
namespace Rows

/-- THE TIED CARD OF 'laws.FnResetAny'. -/
def fnResetAnyCard : Claim7 := { stood := { row := fnResetAnyRow, standIns := [], harness := (true, "a3d1ebcbd2c907adbb6c11c8b1c048a88b84a527b891597fe2d0e51d93f2f353"), looks := true }, kinds := [], alts := [], laidByText := true, laidKinds := [.handle, .sentinel, .sentinel, .sentinel, .data], laidTests := true, laidLooks := .later }
def FnResetAnyCardSaid : Prop := Claim7.holds Tryz.pinned (.plain (OpenSpec.ofChange fnResetAnySpec)) fnResetAnyCard

/-- THE SECOND FORM's CARD OF 'laws.FnResetAny'. -/
def fnResetAnyUptoCard : Claim7 := { stood := { row := fnResetAnyUptoRow, standIns := [], harness := (true, "a3d1ebcbd2c907adbb6c11c8b1c048a88b84a527b891597fe2d0e51d93f2f353"), looks := true }, kinds := [], alts := [], laidByText := true, laidKinds := [.handle, .sentinel, .sentinel, .sentinel, .data], laidTests := true, laidLooks := .later }
def FnResetAnyUptoCardSaid : Prop := Claim7.holds Tryz.pinned (.plain (OpenSpec.upto fnResetAnySpec)) fnResetAnyUptoCard
end Rows
end Go.Proofs.YteolgmacekgndaaGreatDoor
