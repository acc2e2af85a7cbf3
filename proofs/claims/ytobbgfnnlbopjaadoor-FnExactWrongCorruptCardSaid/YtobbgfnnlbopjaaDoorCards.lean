/-
  DERIVED. GIVEN WITH THE SEED: THE CARDS: each row of YtobbgfnnlbopjaaDoorRows.lean that lists a variable, with what it lists TIED to the program's text (the seventh form; the later family's looks); each row that meets fmt, with fmt's text TOLD by the authors' own Lean function (tested against real Go, not proved from fmt's source: count such statements apart). THE CARD IS WHAT COUNTS. Prove the row's statement (the work); the ties are given (YtobbgfnnlbopjaaDoorTie.lean); close each card by the builder's one call (the guide's Derived/Test/ToyasCard.lean, 'card_holds'). Laid BY PROGRAM, IN A SANDBOX (cutbox-door.mjs). By AI agents, Wed Nov 11 2026. No macro, syntax, notation, axiom, sorry.
-/
import Derived.Test.YtobbgfnnlbopjaaDoorRows
import GoSem.ClaimSeven
namespace Go.Proofs.YtobbgfnnlbopjaaDoor
namespace Rows

/-- THE TIED CARD OF 'laws.FnExactAll'. -/
def fnExactAllCard : Claim7 := { stood := { row := fnExactAllRow, standIns := [], harness := (true, "2b97b744b7a8ef4726606d20d1cff64b873a678a58f3da76706432481f723659"), looks := true }, kinds := [], alts := [], laidByText := true, laidKinds := [.handle, .sentinel, .sentinel, .sentinel, .data], laidTests := true, laidLooks := .later }
def FnExactAllCardSaid : Prop := Claim7.holds Tryd.pinned (.plain (OpenSpec.ofChange fnExactAllSpec)) fnExactAllCard

/-- THE TIED CARD OF 'laws.FnExactAhead'. -/
def fnExactAheadCard : Claim7 := { stood := { row := fnExactAheadRow, standIns := [], harness := (true, "2b97b744b7a8ef4726606d20d1cff64b873a678a58f3da76706432481f723659"), looks := true }, kinds := [], alts := [], laidByText := true, laidKinds := [.handle, .sentinel, .sentinel, .sentinel, .data], laidTests := true, laidLooks := .later }
def FnExactAheadCardSaid : Prop := Claim7.holds Tryd.pinned (.plain (OpenSpec.ofChange fnExactAheadSpec)) fnExactAheadCard

/-- THE TIED CARD OF 'laws.FnExactShort'. -/
def fnExactShortCard : Claim7 := { stood := { row := fnExactShortRow, standIns := [], harness := (true, "2b97b744b7a8ef4726606d20d1cff64b873a678a58f3da76706432481f723659"), looks := true }, kinds := [], alts := [], laidByText := true, laidKinds := [.handle, .sentinel, .sentinel, .sentinel, .data], laidTests := true, laidLooks := .later }
def FnExactShortCardSaid : Prop := Claim7.holds Tryd.pinned (.plain (OpenSpec.ofChange fnExactShortSpec)) fnExactShortCard

/-- THE TIED CARD OF 'laws.FnExactShortCut'. -/
def fnExactShortCutCard : Claim7 := { stood := { row := fnExactShortCutRow, standIns := [], harness := (true, "2b97b744b7a8ef4726606d20d1cff64b873a678a58f3da76706432481f723659"), looks := true }, kinds := [], alts := [], laidByText := true, laidKinds := [.handle, .sentinel, .sentinel, .sentinel, .data], laidTests := true, laidLooks := .later }
def FnExactShortCutCardSaid : Prop := Claim7.holds Tryd.pinned (.plain (OpenSpec.ofChange fnExactShortCutSpec)) fnExactShortCutCard

/-- THE TIED CARD OF 'laws.FnExactWrong'. -/
def fnExactWrongCard : Claim7 := { stood := { row := fnExactWrongRow, standIns := [], harness := (true, "2b97b744b7a8ef4726606d20d1cff64b873a678a58f3da76706432481f723659"), looks := true }, kinds := [], alts := [], laidByText := true, laidKinds := [.handle, .sentinel, .sentinel, .sentinel, .data], laidTests := true, laidLooks := .later }
def FnExactWrongCardSaid : Prop := Claim7.holds Tryd.pinned (.plain (OpenSpec.ofChange fnExactWrongSpec)) fnExactWrongCard

/-- THE TIED CARD OF 'laws.FnExactWrongCorrupt'. -/
def fnExactWrongCorruptCard : Claim7 := { stood := { row := fnExactWrongCorruptRow, standIns := [], harness := (true, "2b97b744b7a8ef4726606d20d1cff64b873a678a58f3da76706432481f723659"), looks := true }, kinds := [], alts := [], laidByText := true, laidKinds := [.handle, .sentinel, .sentinel, .sentinel, .data], laidTests := true, laidLooks := .later }
def FnExactWrongCorruptCardSaid : Prop := Claim7.holds Tryd.pinned (.plain (OpenSpec.ofChange fnExactWrongCorruptSpec)) fnExactWrongCorruptCard

/-- THE SECOND FORM's CARD OF 'laws.FnExactAll'. -/
def fnExactAllUptoCard : Claim7 := { stood := { row := fnExactAllUptoRow, standIns := [], harness := (true, "2b97b744b7a8ef4726606d20d1cff64b873a678a58f3da76706432481f723659"), looks := true }, kinds := [], alts := [], laidByText := true, laidKinds := [.handle, .sentinel, .sentinel, .sentinel, .data], laidTests := true, laidLooks := .later }
def FnExactAllUptoCardSaid : Prop := Claim7.holds Tryd.pinned (.plain (OpenSpec.upto fnExactAllSpec)) fnExactAllUptoCard

/-- THE SECOND FORM's CARD OF 'laws.FnExactAhead'. -/
def fnExactAheadUptoCard : Claim7 := { stood := { row := fnExactAheadUptoRow, standIns := [], harness := (true, "2b97b744b7a8ef4726606d20d1cff64b873a678a58f3da76706432481f723659"), looks := true }, kinds := [], alts := [], laidByText := true, laidKinds := [.handle, .sentinel, .sentinel, .sentinel, .data], laidTests := true, laidLooks := .later }
def FnExactAheadUptoCardSaid : Prop := Claim7.holds Tryd.pinned (.plain (OpenSpec.upto fnExactAheadSpec)) fnExactAheadUptoCard

/-- THE SECOND FORM's CARD OF 'laws.FnExactShort'. -/
def fnExactShortUptoCard : Claim7 := { stood := { row := fnExactShortUptoRow, standIns := [], harness := (true, "2b97b744b7a8ef4726606d20d1cff64b873a678a58f3da76706432481f723659"), looks := true }, kinds := [], alts := [], laidByText := true, laidKinds := [.handle, .sentinel, .sentinel, .sentinel, .data], laidTests := true, laidLooks := .later }
def FnExactShortUptoCardSaid : Prop := Claim7.holds Tryd.pinned (.plain (OpenSpec.upto fnExactShortSpec)) fnExactShortUptoCard

/-- THE SECOND FORM's CARD OF 'laws.FnExactShortCut'. -/
def fnExactShortCutUptoCard : Claim7 := { stood := { row := fnExactShortCutUptoRow, standIns := [], harness := (true, "2b97b744b7a8ef4726606d20d1cff64b873a678a58f3da76706432481f723659"), looks := true }, kinds := [], alts := [], laidByText := true, laidKinds := [.handle, .sentinel, .sentinel, .sentinel, .data], laidTests := true, laidLooks := .later }
def FnExactShortCutUptoCardSaid : Prop := Claim7.holds Tryd.pinned (.plain (OpenSpec.upto fnExactShortCutSpec)) fnExactShortCutUptoCard

/-- THE SECOND FORM's CARD OF 'laws.FnExactWrong'. -/
def fnExactWrongUptoCard : Claim7 := { stood := { row := fnExactWrongUptoRow, standIns := [], harness := (true, "2b97b744b7a8ef4726606d20d1cff64b873a678a58f3da76706432481f723659"), looks := true }, kinds := [], alts := [], laidByText := true, laidKinds := [.handle, .sentinel, .sentinel, .sentinel, .data], laidTests := true, laidLooks := .later }
def FnExactWrongUptoCardSaid : Prop := Claim7.holds Tryd.pinned (.plain (OpenSpec.upto fnExactWrongSpec)) fnExactWrongUptoCard

/-- THE SECOND FORM's CARD OF 'laws.FnExactWrongCorrupt'. -/
def fnExactWrongCorruptUptoCard : Claim7 := { stood := { row := fnExactWrongCorruptUptoRow, standIns := [], harness := (true, "2b97b744b7a8ef4726606d20d1cff64b873a678a58f3da76706432481f723659"), looks := true }, kinds := [], alts := [], laidByText := true, laidKinds := [.handle, .sentinel, .sentinel, .sentinel, .data], laidTests := true, laidLooks := .later }
def FnExactWrongCorruptUptoCardSaid : Prop := Claim7.holds Tryd.pinned (.plain (OpenSpec.upto fnExactWrongCorruptSpec)) fnExactWrongCorruptUptoCard
end Rows
end Go.Proofs.YtobbgfnnlbopjaaDoor
