/-
  DERIVED. GIVEN WITH THE SEED: THE CARDS: each row of YtabgnkdfbkbaiaaGreatDoorRows.lean that lists a variable, with what it lists TIED to the program's text (the seventh form; the later family's looks); each row that meets fmt, with fmt's text TOLD by the authors' own Lean function (tested against real Go, not proved from fmt's source: count such statements apart). THE CARD IS WHAT COUNTS. Prove the row's statement (the work); the ties are given (YtabgnkdfbkbaiaaGreatDoorTie.lean); close each card by the builder's one call (the guide's Derived/Test/ToyasCard.lean, 'card_holds'). Laid BY PROGRAM, IN A SANDBOX (cutbox-door.mjs). By AI agents, Wed Nov 11 2026. No macro, syntax, notation, axiom, sorry.
-/
import Derived.Test.YtabgnkdfbkbaiaaGreatDoorRows
import GoSem.ClaimSeven
namespace Go.Proofs.YtabgnkdfbkbaiaaGreatDoor
namespace Rows

/-- THE TIED CARD OF 'laws.FnSlowAny'. -/
def fnSlowAnyCard : Claim7 := { stood := { row := fnSlowAnyRow, standIns := [], harness := (true, "b38697ee370134ecd0f8dd13471a81dd0478bb9cdc969297e05574c39073240e"), looks := true }, kinds := [], alts := [], laidByText := true, laidKinds := [.handle, .sentinel, .sentinel, .sentinel, .data], laidTests := true, laidLooks := .later }
def FnSlowAnyCardSaid : Prop := Claim7.holds Tryz.pinned (.plain (OpenSpec.ofChange fnSlowAnySpec)) fnSlowAnyCard

/-- THE SECOND FORM's CARD OF 'laws.FnSlowAny'. -/
def fnSlowAnyUptoCard : Claim7 := { stood := { row := fnSlowAnyUptoRow, standIns := [], harness := (true, "b38697ee370134ecd0f8dd13471a81dd0478bb9cdc969297e05574c39073240e"), looks := true }, kinds := [], alts := [], laidByText := true, laidKinds := [.handle, .sentinel, .sentinel, .sentinel, .data], laidTests := true, laidLooks := .later }
def FnSlowAnyUptoCardSaid : Prop := Claim7.holds Tryz.pinned (.plain (OpenSpec.upto fnSlowAnySpec)) fnSlowAnyUptoCard
end Rows
end Go.Proofs.YtabgnkdfbkbaiaaGreatDoor
