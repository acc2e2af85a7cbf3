/-
  DERIVED. GIVEN WITH THE SEED: THE CARDS: each row of YthblaombmngncaaDoorRows.lean that lists a variable, with what it lists TIED to the program's text (the seventh form; the later family's looks); each row that meets fmt, with fmt's text TOLD by the authors' own Lean function (tested against real Go, not proved from fmt's source: count such statements apart). THE CARD IS WHAT COUNTS. Prove the row's statement (the work); the ties are given (YthblaombmngncaaDoorTie.lean); close each card by the builder's one call (the guide's Derived/Test/ToyasCard.lean, 'card_holds'). Laid BY PROGRAM, IN A SANDBOX (cutbox-door.mjs). By AI agents, Wed Nov 11 2026. No macro, syntax, notation, axiom, sorry.
-/
import Derived.Test.YthblaombmngncaaDoorRows
import GoSem.ClaimSeven
namespace Go.Proofs.YthblaombmngncaaDoor
namespace Rows

/-- THE TIED CARD OF 'laws.FnEnds'. -/
def fnEndsCard : Claim7 := { stood := { row := fnEndsRow, standIns := [], harness := (true, "20e138aadc786719546dea0a289b3f74af0dd860650e344cfcdedb6d32b274a2"), looks := true }, kinds := [], alts := [], laidByText := true, laidKinds := [.handle, .sentinel, .sentinel, .sentinel, .data], laidTests := true, laidLooks := .later }
def FnEndsCardSaid : Prop := Claim7.holds Tryd.pinned (.plain (OpenSpec.ofChange fnEndsSpec)) fnEndsCard

/-- THE TIED CARD OF 'laws.FnNothing'. -/
def fnNothingCard : Claim7 := { stood := { row := fnNothingRow, standIns := [], harness := (true, "20e138aadc786719546dea0a289b3f74af0dd860650e344cfcdedb6d32b274a2"), looks := true }, kinds := [], alts := [], laidByText := true, laidKinds := [.handle, .sentinel, .sentinel, .sentinel, .data], laidTests := true, laidLooks := .later }
def FnNothingCardSaid : Prop := Claim7.holds Tryd.pinned (.plain (OpenSpec.ofChange fnNothingSpec)) fnNothingCard

/-- THE SECOND FORM's CARD OF 'laws.FnEnds'. -/
def fnEndsUptoCard : Claim7 := { stood := { row := fnEndsUptoRow, standIns := [], harness := (true, "20e138aadc786719546dea0a289b3f74af0dd860650e344cfcdedb6d32b274a2"), looks := true }, kinds := [], alts := [], laidByText := true, laidKinds := [.handle, .sentinel, .sentinel, .sentinel, .data], laidTests := true, laidLooks := .later }
def FnEndsUptoCardSaid : Prop := Claim7.holds Tryd.pinned (.plain (OpenSpec.upto fnEndsSpec)) fnEndsUptoCard

/-- THE SECOND FORM's CARD OF 'laws.FnNothing'. -/
def fnNothingUptoCard : Claim7 := { stood := { row := fnNothingUptoRow, standIns := [], harness := (true, "20e138aadc786719546dea0a289b3f74af0dd860650e344cfcdedb6d32b274a2"), looks := true }, kinds := [], alts := [], laidByText := true, laidKinds := [.handle, .sentinel, .sentinel, .sentinel, .data], laidTests := true, laidLooks := .later }
def FnNothingUptoCardSaid : Prop := Claim7.holds Tryd.pinned (.plain (OpenSpec.upto fnNothingSpec)) fnNothingUptoCard
end Rows
end Go.Proofs.YthblaombmngncaaDoor
