/-
  DERIVED. GIVEN WITH THE SEED: THE CARDS: each row of YtjphakdpokombaaGreatDoorRows.lean that lists a variable, with what it lists TIED to the program's text (the seventh form; the later family's looks); each row that meets fmt, with fmt's text TOLD by the authors' own Lean function (tested against real Go, not proved from fmt's source: count such statements apart). THE CARD IS WHAT COUNTS. Prove the row's statement (the work); the ties are given (YtjphakdpokombaaGreatDoorTie.lean); close each card by the builder's one call (the guide's Derived/Test/ToyasCard.lean, 'card_holds'). Laid BY PROGRAM, IN A SANDBOX (cutbox-door.mjs). By AI agents, Wed Nov 11 2026. No macro, syntax, notation, axiom, sorry.
-/
import Derived.Test.YtjphakdpokombaaGreatDoorRows
import GoSem.ClaimSeven
namespace Go.Proofs.YtjphakdpokombaaGreatDoor
namespace Rows

/-- THE TIED CARD OF 'laws.FnExactLiterals'. -/
def fnExactLiteralsCard : Claim7 := { stood := { row := fnExactLiteralsRow, standIns := [], harness := (true, "c2fb559b69f0ef37fc79120e3d8f931b20919753c05556f75e520623492bcc65"), looks := true }, kinds := [], alts := [], laidByText := true, laidKinds := [.handle, .sentinel, .sentinel, .sentinel, .data], laidTests := true, laidLooks := .later }
def FnExactLiteralsCardSaid : Prop := Claim7.holds Tryz.pinned (.plain (OpenSpec.ofChange fnExactLiteralsSpec)) fnExactLiteralsCard

/-- THE TIED CARD OF 'laws.FnExactOneDistance'. -/
def fnExactOneDistanceCard : Claim7 := { stood := { row := fnExactOneDistanceRow, standIns := [], harness := (true, "c2fb559b69f0ef37fc79120e3d8f931b20919753c05556f75e520623492bcc65"), looks := true }, kinds := [], alts := [], laidByText := true, laidKinds := [.handle, .sentinel, .sentinel, .sentinel, .data], laidTests := true, laidLooks := .later }
def FnExactOneDistanceCardSaid : Prop := Claim7.holds Tryz.pinned (.plain (OpenSpec.ofChange fnExactOneDistanceSpec)) fnExactOneDistanceCard

/-- THE SECOND FORM's CARD OF 'laws.FnExactLiterals'. -/
def fnExactLiteralsUptoCard : Claim7 := { stood := { row := fnExactLiteralsUptoRow, standIns := [], harness := (true, "c2fb559b69f0ef37fc79120e3d8f931b20919753c05556f75e520623492bcc65"), looks := true }, kinds := [], alts := [], laidByText := true, laidKinds := [.handle, .sentinel, .sentinel, .sentinel, .data], laidTests := true, laidLooks := .later }
def FnExactLiteralsUptoCardSaid : Prop := Claim7.holds Tryz.pinned (.plain (OpenSpec.upto fnExactLiteralsSpec)) fnExactLiteralsUptoCard

/-- THE SECOND FORM's CARD OF 'laws.FnExactOneDistance'. -/
def fnExactOneDistanceUptoCard : Claim7 := { stood := { row := fnExactOneDistanceUptoRow, standIns := [], harness := (true, "c2fb559b69f0ef37fc79120e3d8f931b20919753c05556f75e520623492bcc65"), looks := true }, kinds := [], alts := [], laidByText := true, laidKinds := [.handle, .sentinel, .sentinel, .sentinel, .data], laidTests := true, laidLooks := .later }
def FnExactOneDistanceUptoCardSaid : Prop := Claim7.holds Tryz.pinned (.plain (OpenSpec.upto fnExactOneDistanceSpec)) fnExactOneDistanceUptoCard
end Rows
end Go.Proofs.YtjphakdpokombaaGreatDoor
