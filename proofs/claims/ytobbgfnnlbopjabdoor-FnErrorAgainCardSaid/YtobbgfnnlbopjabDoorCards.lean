/-
  DERIVED. GIVEN WITH THE SEED: THE CARDS: each row of YtobbgfnnlbopjabDoorRows.lean that lists a variable, with what it lists TIED to the program's text (the seventh form; the later family's looks); each row that meets fmt, with fmt's text TOLD by the authors' own Lean function (tested against real Go, not proved from fmt's source: count such statements apart). THE CARD IS WHAT COUNTS. Prove the row's statement (the work); the ties are given (YtobbgfnnlbopjabDoorTie.lean); close each card by the builder's one call (the guide's Derived/Test/ToyasCard.lean, 'card_holds'). Laid BY PROGRAM, IN A SANDBOX (cutbox-door.mjs). By AI agents, Wed Nov 11 2026. No macro, syntax, notation, axiom, sorry.
-/
import Derived.Test.YtobbgfnnlbopjabDoorRows
import GoSem.ClaimSeven
namespace Go.Proofs.YtobbgfnnlbopjabDoor
namespace Rows

/-- THE TIED CARD OF 'laws.FnExactDict'. -/
def fnExactDictCard : Claim7 := { stood := { row := fnExactDictRow, standIns := [], harness := (true, "648a6a65787fbb6387ad856816014d7b5ac69f3065b3400df241c5dfce87a143"), looks := true }, kinds := [], alts := [], laidByText := true, laidKinds := [.handle, .sentinel, .sentinel, .sentinel, .data], laidTests := true, laidLooks := .later }
def FnExactDictCardSaid : Prop := Claim7.holds Tryd.pinned (.plain (OpenSpec.ofChange fnExactDictSpec)) fnExactDictCard

/-- THE TIED CARD OF 'laws.FnExactDictWrong'. -/
def fnExactDictWrongCard : Claim7 := { stood := { row := fnExactDictWrongRow, standIns := [], harness := (true, "648a6a65787fbb6387ad856816014d7b5ac69f3065b3400df241c5dfce87a143"), looks := true }, kinds := [], alts := [], laidByText := true, laidKinds := [.handle, .sentinel, .sentinel, .sentinel, .data], laidTests := true, laidLooks := .later }
def FnExactDictWrongCardSaid : Prop := Claim7.holds Tryd.pinned (.plain (OpenSpec.ofChange fnExactDictWrongSpec)) fnExactDictWrongCard

/-- THE TIED CARD OF 'laws.FnFew'. -/
def fnFewCard : Claim7 := { stood := { row := fnFewRow, standIns := [], harness := (true, "648a6a65787fbb6387ad856816014d7b5ac69f3065b3400df241c5dfce87a143"), looks := true }, kinds := [], alts := [], laidByText := true, laidKinds := [.handle, .sentinel, .sentinel, .sentinel, .data], laidTests := true, laidLooks := .later }
def FnFewCardSaid : Prop := Claim7.holds Tryd.pinned (.plain (OpenSpec.ofChange fnFewSpec)) fnFewCard

/-- THE TIED CARD OF 'laws.FnExactLeft'. -/
def fnExactLeftCard : Claim7 := { stood := { row := fnExactLeftRow, standIns := [], harness := (true, "648a6a65787fbb6387ad856816014d7b5ac69f3065b3400df241c5dfce87a143"), looks := true }, kinds := [], alts := [], laidByText := true, laidKinds := [.handle, .sentinel, .sentinel, .sentinel, .data], laidTests := true, laidLooks := .later }
def FnExactLeftCardSaid : Prop := Claim7.holds Tryd.pinned (.plain (OpenSpec.ofChange fnExactLeftSpec)) fnExactLeftCard

/-- THE TIED CARD OF 'laws.FnNothing'. -/
def fnNothingCard : Claim7 := { stood := { row := fnNothingRow, standIns := [], harness := (true, "648a6a65787fbb6387ad856816014d7b5ac69f3065b3400df241c5dfce87a143"), looks := true }, kinds := [], alts := [], laidByText := true, laidKinds := [.handle, .sentinel, .sentinel, .sentinel, .data], laidTests := true, laidLooks := .later }
def FnNothingCardSaid : Prop := Claim7.holds Tryd.pinned (.plain (OpenSpec.ofChange fnNothingSpec)) fnNothingCard

/-- THE TIED CARD OF 'laws.FnErrorAgain'. -/
def fnErrorAgainCard : Claim7 := { stood := { row := fnErrorAgainRow, standIns := [], harness := (true, "648a6a65787fbb6387ad856816014d7b5ac69f3065b3400df241c5dfce87a143"), looks := true }, kinds := [], alts := [], laidByText := true, laidKinds := [.handle, .sentinel, .sentinel, .sentinel, .data], laidTests := true, laidLooks := .later }
def FnErrorAgainCardSaid : Prop := Claim7.holds Tryd.pinned (.plain (OpenSpec.ofChange fnErrorAgainSpec)) fnErrorAgainCard

/-- THE SECOND FORM's CARD OF 'laws.FnExactDict'. -/
def fnExactDictUptoCard : Claim7 := { stood := { row := fnExactDictUptoRow, standIns := [], harness := (true, "648a6a65787fbb6387ad856816014d7b5ac69f3065b3400df241c5dfce87a143"), looks := true }, kinds := [], alts := [], laidByText := true, laidKinds := [.handle, .sentinel, .sentinel, .sentinel, .data], laidTests := true, laidLooks := .later }
def FnExactDictUptoCardSaid : Prop := Claim7.holds Tryd.pinned (.plain (OpenSpec.upto fnExactDictSpec)) fnExactDictUptoCard

/-- THE SECOND FORM's CARD OF 'laws.FnExactDictWrong'. -/
def fnExactDictWrongUptoCard : Claim7 := { stood := { row := fnExactDictWrongUptoRow, standIns := [], harness := (true, "648a6a65787fbb6387ad856816014d7b5ac69f3065b3400df241c5dfce87a143"), looks := true }, kinds := [], alts := [], laidByText := true, laidKinds := [.handle, .sentinel, .sentinel, .sentinel, .data], laidTests := true, laidLooks := .later }
def FnExactDictWrongUptoCardSaid : Prop := Claim7.holds Tryd.pinned (.plain (OpenSpec.upto fnExactDictWrongSpec)) fnExactDictWrongUptoCard

/-- THE SECOND FORM's CARD OF 'laws.FnFew'. -/
def fnFewUptoCard : Claim7 := { stood := { row := fnFewUptoRow, standIns := [], harness := (true, "648a6a65787fbb6387ad856816014d7b5ac69f3065b3400df241c5dfce87a143"), looks := true }, kinds := [], alts := [], laidByText := true, laidKinds := [.handle, .sentinel, .sentinel, .sentinel, .data], laidTests := true, laidLooks := .later }
def FnFewUptoCardSaid : Prop := Claim7.holds Tryd.pinned (.plain (OpenSpec.upto fnFewSpec)) fnFewUptoCard

/-- THE SECOND FORM's CARD OF 'laws.FnExactLeft'. -/
def fnExactLeftUptoCard : Claim7 := { stood := { row := fnExactLeftUptoRow, standIns := [], harness := (true, "648a6a65787fbb6387ad856816014d7b5ac69f3065b3400df241c5dfce87a143"), looks := true }, kinds := [], alts := [], laidByText := true, laidKinds := [.handle, .sentinel, .sentinel, .sentinel, .data], laidTests := true, laidLooks := .later }
def FnExactLeftUptoCardSaid : Prop := Claim7.holds Tryd.pinned (.plain (OpenSpec.upto fnExactLeftSpec)) fnExactLeftUptoCard

/-- THE SECOND FORM's CARD OF 'laws.FnNothing'. -/
def fnNothingUptoCard : Claim7 := { stood := { row := fnNothingUptoRow, standIns := [], harness := (true, "648a6a65787fbb6387ad856816014d7b5ac69f3065b3400df241c5dfce87a143"), looks := true }, kinds := [], alts := [], laidByText := true, laidKinds := [.handle, .sentinel, .sentinel, .sentinel, .data], laidTests := true, laidLooks := .later }
def FnNothingUptoCardSaid : Prop := Claim7.holds Tryd.pinned (.plain (OpenSpec.upto fnNothingSpec)) fnNothingUptoCard

/-- THE SECOND FORM's CARD OF 'laws.FnErrorAgain'. -/
def fnErrorAgainUptoCard : Claim7 := { stood := { row := fnErrorAgainUptoRow, standIns := [], harness := (true, "648a6a65787fbb6387ad856816014d7b5ac69f3065b3400df241c5dfce87a143"), looks := true }, kinds := [], alts := [], laidByText := true, laidKinds := [.handle, .sentinel, .sentinel, .sentinel, .data], laidTests := true, laidLooks := .later }
def FnErrorAgainUptoCardSaid : Prop := Claim7.holds Tryd.pinned (.plain (OpenSpec.upto fnErrorAgainSpec)) fnErrorAgainUptoCard
end Rows
end Go.Proofs.YtobbgfnnlbopjabDoor
