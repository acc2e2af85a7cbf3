/-
  DERIVED. GIVEN WITH THE SEED: THE CARDS: each row of YthmddkghlmgpaaaDoorRows.lean that lists a variable, with what it lists TIED to the program's text (the seventh form; the later family's looks); each row that meets fmt, with fmt's text TOLD by the authors' own Lean function (tested against real Go, not proved from fmt's source: count such statements apart). THE CARD IS WHAT COUNTS. Prove the row's statement (the work); the ties are given (YthmddkghlmgpaaaDoorTie.lean); close each card by the builder's one call (the guide's Derived/Test/ToyasCard.lean, 'card_holds'). Laid BY PROGRAM, IN A SANDBOX (cutbox-door.mjs). By AI agents, Wed Nov 11 2026. No macro, syntax, notation, axiom, sorry.
-/
import Derived.Test.YthmddkghlmgpaaaDoorRows
import GoSem.ClaimSeven
namespace Go.Proofs.YthmddkghlmgpaaaDoor
namespace Rows

/-- THE TIED CARD OF 'laws.FnEndAgain'. -/
def fnEndAgainCard : Claim7 := { stood := { row := fnEndAgainRow, standIns := [], harness := (true, "27fa2cb8e8bdf8fc5fccb39ed4e69473c27b0d94ff0980ec67e29deb9ebf56af"), looks := true }, kinds := [], alts := [], laidByText := true, laidKinds := [.handle, .sentinel, .sentinel, .sentinel, .data], laidTests := true, laidLooks := .later }
def FnEndAgainCardSaid : Prop := Claim7.holds Tryd.pinned (.plain (OpenSpec.ofChange fnEndAgainSpec)) fnEndAgainCard

/-- THE TIED CARD OF 'laws.FnExactEmpty'. -/
def fnExactEmptyCard : Claim7 := { stood := { row := fnExactEmptyRow, standIns := [], harness := (true, "27fa2cb8e8bdf8fc5fccb39ed4e69473c27b0d94ff0980ec67e29deb9ebf56af"), looks := true }, kinds := [], alts := [], laidByText := true, laidKinds := [.handle, .sentinel, .sentinel, .sentinel, .data], laidTests := true, laidLooks := .later }
def FnExactEmptyCardSaid : Prop := Claim7.holds Tryd.pinned (.plain (OpenSpec.ofChange fnExactEmptySpec)) fnExactEmptyCard

/-- THE SECOND FORM's CARD OF 'laws.FnEndAgain'. -/
def fnEndAgainUptoCard : Claim7 := { stood := { row := fnEndAgainUptoRow, standIns := [], harness := (true, "27fa2cb8e8bdf8fc5fccb39ed4e69473c27b0d94ff0980ec67e29deb9ebf56af"), looks := true }, kinds := [], alts := [], laidByText := true, laidKinds := [.handle, .sentinel, .sentinel, .sentinel, .data], laidTests := true, laidLooks := .later }
def FnEndAgainUptoCardSaid : Prop := Claim7.holds Tryd.pinned (.plain (OpenSpec.upto fnEndAgainSpec)) fnEndAgainUptoCard

/-- THE SECOND FORM's CARD OF 'laws.FnExactEmpty'. -/
def fnExactEmptyUptoCard : Claim7 := { stood := { row := fnExactEmptyUptoRow, standIns := [], harness := (true, "27fa2cb8e8bdf8fc5fccb39ed4e69473c27b0d94ff0980ec67e29deb9ebf56af"), looks := true }, kinds := [], alts := [], laidByText := true, laidKinds := [.handle, .sentinel, .sentinel, .sentinel, .data], laidTests := true, laidLooks := .later }
def FnExactEmptyUptoCardSaid : Prop := Claim7.holds Tryd.pinned (.plain (OpenSpec.upto fnExactEmptySpec)) fnExactEmptyUptoCard
end Rows
end Go.Proofs.YthmddkghlmgpaaaDoor
