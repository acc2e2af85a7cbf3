/-
  DERIVED. GIVEN WITH THE SEED: THE CARDS: each row of YtemgfpknggilpaaGreatDoorRows.lean that lists a variable, with what it lists TIED to the program's text (the seventh form; the later family's looks); each row that meets fmt, with fmt's text TOLD by the authors' own Lean function (tested against real Go, not proved from fmt's source: count such statements apart). THE CARD IS WHAT COUNTS. Prove the row's statement (the work); the ties are given (YtemgfpknggilpaaGreatDoorTie.lean); close each card by the builder's one call (the guide's Derived/Test/ToyasCard.lean, 'card_holds'). Laid BY PROGRAM, IN A SANDBOX (cutbox-door.mjs). By AI agents, Wed Nov 11 2026. No macro, syntax, notation, axiom, sorry.
-/
import Derived.Test.YtemgfpknggilpaaGreatDoorRows
import GoSem.ClaimSeven
namespace Go.Proofs.YtemgfpknggilpaaGreatDoor
namespace Rows

/-- THE TIED CARD OF 'laws.FnNoDict'. -/
def fnNoDictCard : Claim7 := { stood := { row := fnNoDictRow, standIns := [], harness := (true, "1478836ae48866695a81cb83ba351f4acdb5474542b690a2d8548020f2a59527"), looks := true }, kinds := [], alts := [], laidByText := true, laidKinds := [.handle, .sentinel, .sentinel, .sentinel, .data], laidTests := true, laidLooks := .later }
def FnNoDictCardSaid : Prop := Claim7.holds Tryz.pinned (.plain (OpenSpec.ofChange fnNoDictSpec)) fnNoDictCard

/-- THE TIED CARD OF 'laws.FnResetAny'. -/
def fnResetAnyCard : Claim7 := { stood := { row := fnResetAnyRow, standIns := [], harness := (true, "1478836ae48866695a81cb83ba351f4acdb5474542b690a2d8548020f2a59527"), looks := true }, kinds := [], alts := [], laidByText := true, laidKinds := [.handle, .sentinel, .sentinel, .sentinel, .data], laidTests := true, laidLooks := .later }
def FnResetAnyCardSaid : Prop := Claim7.holds Tryz.pinned (.plain (OpenSpec.ofChange fnResetAnySpec)) fnResetAnyCard

/-- THE TIED CARD OF 'laws.FnSlowAny'. -/
def fnSlowAnyCard : Claim7 := { stood := { row := fnSlowAnyRow, standIns := [], harness := (true, "1478836ae48866695a81cb83ba351f4acdb5474542b690a2d8548020f2a59527"), looks := true }, kinds := [], alts := [], laidByText := true, laidKinds := [.handle, .sentinel, .sentinel, .sentinel, .data], laidTests := true, laidLooks := .later }
def FnSlowAnyCardSaid : Prop := Claim7.holds Tryz.pinned (.plain (OpenSpec.ofChange fnSlowAnySpec)) fnSlowAnyCard

/-- THE SECOND FORM's CARD OF 'laws.FnNoDict'. -/
def fnNoDictUptoCard : Claim7 := { stood := { row := fnNoDictUptoRow, standIns := [], harness := (true, "1478836ae48866695a81cb83ba351f4acdb5474542b690a2d8548020f2a59527"), looks := true }, kinds := [], alts := [], laidByText := true, laidKinds := [.handle, .sentinel, .sentinel, .sentinel, .data], laidTests := true, laidLooks := .later }
def FnNoDictUptoCardSaid : Prop := Claim7.holds Tryz.pinned (.plain (OpenSpec.upto fnNoDictSpec)) fnNoDictUptoCard

/-- THE SECOND FORM's CARD OF 'laws.FnResetAny'. -/
def fnResetAnyUptoCard : Claim7 := { stood := { row := fnResetAnyUptoRow, standIns := [], harness := (true, "1478836ae48866695a81cb83ba351f4acdb5474542b690a2d8548020f2a59527"), looks := true }, kinds := [], alts := [], laidByText := true, laidKinds := [.handle, .sentinel, .sentinel, .sentinel, .data], laidTests := true, laidLooks := .later }
def FnResetAnyUptoCardSaid : Prop := Claim7.holds Tryz.pinned (.plain (OpenSpec.upto fnResetAnySpec)) fnResetAnyUptoCard

/-- THE SECOND FORM's CARD OF 'laws.FnSlowAny'. -/
def fnSlowAnyUptoCard : Claim7 := { stood := { row := fnSlowAnyUptoRow, standIns := [], harness := (true, "1478836ae48866695a81cb83ba351f4acdb5474542b690a2d8548020f2a59527"), looks := true }, kinds := [], alts := [], laidByText := true, laidKinds := [.handle, .sentinel, .sentinel, .sentinel, .data], laidTests := true, laidLooks := .later }
def FnSlowAnyUptoCardSaid : Prop := Claim7.holds Tryz.pinned (.plain (OpenSpec.upto fnSlowAnySpec)) fnSlowAnyUptoCard
end Rows
end Go.Proofs.YtemgfpknggilpaaGreatDoor
