/-
  DERIVED. GIVEN WITH THE SEED: THE CARDS: each row of YthhfbogakdechaaGreatDoorRows.lean that lists a variable, with what it lists TIED to the program's text (the seventh form; the later family's looks); each row that meets fmt, with fmt's text TOLD by the authors' own Lean function (tested against real Go, not proved from fmt's source: count such statements apart). THE CARD IS WHAT COUNTS. Prove the row's statement (the work); the ties are given (YthhfbogakdechaaGreatDoorTie.lean); close each card by the builder's one call (the guide's Derived/Test/ToyasCard.lean, 'card_holds'). Laid BY PROGRAM, IN A SANDBOX (cutbox-door.mjs). By AI agents, Wed Nov 11 2026. No macro, syntax, notation, axiom, sorry.
-/
import Derived.Test.YthhfbogakdechaaGreatDoorRows
import GoSem.ClaimSeven
namespace Go.Proofs.YthhfbogakdechaaGreatDoor
namespace Rows

/-- THE TIED CARD OF 'laws.FnAgainStored'. -/
def fnAgainStoredCard : Claim7 := { stood := { row := fnAgainStoredRow, standIns := [], harness := (true, "773a0620a63a766679e76d71c3c3c336a289d007324a101fcaeeb91a0866e821"), looks := true }, kinds := [], alts := [], laidByText := true, laidKinds := [.handle, .sentinel, .sentinel, .sentinel, .data], laidTests := true, laidLooks := .later }
def FnAgainStoredCardSaid : Prop := Claim7.holds Tryz.pinned (.plain (OpenSpec.ofChange fnAgainStoredSpec)) fnAgainStoredCard

/-- THE TIED CARD OF 'laws.FnClosed'. -/
def fnClosedCard : Claim7 := { stood := { row := fnClosedRow, standIns := [], harness := (true, "773a0620a63a766679e76d71c3c3c336a289d007324a101fcaeeb91a0866e821"), looks := true }, kinds := [], alts := [], laidByText := true, laidKinds := [.handle, .sentinel, .sentinel, .sentinel, .data], laidTests := true, laidLooks := .later }
def FnClosedCardSaid : Prop := Claim7.holds Tryz.pinned (.plain (OpenSpec.ofChange fnClosedSpec)) fnClosedCard

/-- THE TIED CARD OF 'laws.FnCutEnd'. -/
def fnCutEndCard : Claim7 := { stood := { row := fnCutEndRow, standIns := [], harness := (true, "773a0620a63a766679e76d71c3c3c336a289d007324a101fcaeeb91a0866e821"), looks := true }, kinds := [], alts := [], laidByText := true, laidKinds := [.handle, .sentinel, .sentinel, .sentinel, .data], laidTests := true, laidLooks := .later }
def FnCutEndCardSaid : Prop := Claim7.holds Tryz.pinned (.plain (OpenSpec.ofChange fnCutEndSpec)) fnCutEndCard

/-- THE TIED CARD OF 'laws.FnCuts'. -/
def fnCutsCard : Claim7 := { stood := { row := fnCutsRow, standIns := [], harness := (true, "773a0620a63a766679e76d71c3c3c336a289d007324a101fcaeeb91a0866e821"), looks := true }, kinds := [], alts := [], laidByText := true, laidKinds := [.handle, .sentinel, .sentinel, .sentinel, .data], laidTests := true, laidLooks := .later }
def FnCutsCardSaid : Prop := Claim7.holds Tryz.pinned (.plain (OpenSpec.ofChange fnCutsSpec)) fnCutsCard

/-- THE TIED CARD OF 'laws.FnLimit'. -/
def fnLimitCard : Claim7 := { stood := { row := fnLimitRow, standIns := [], harness := (true, "773a0620a63a766679e76d71c3c3c336a289d007324a101fcaeeb91a0866e821"), looks := true }, kinds := [], alts := [], laidByText := true, laidKinds := [.handle, .sentinel, .sentinel, .sentinel, .data], laidTests := true, laidLooks := .later }
def FnLimitCardSaid : Prop := Claim7.holds Tryz.pinned (.plain (OpenSpec.ofChange fnLimitSpec)) fnLimitCard

/-- THE TIED CARD OF 'laws.FnReads'. -/
def fnReadsCard : Claim7 := { stood := { row := fnReadsRow, standIns := [], harness := (true, "773a0620a63a766679e76d71c3c3c336a289d007324a101fcaeeb91a0866e821"), looks := true }, kinds := [], alts := [], laidByText := true, laidKinds := [.handle, .sentinel, .sentinel, .sentinel, .data], laidTests := true, laidLooks := .later }
def FnReadsCardSaid : Prop := Claim7.holds Tryz.pinned (.plain (OpenSpec.ofChange fnReadsSpec)) fnReadsCard

/-- THE TIED CARD OF 'laws.FnReadsGive'. -/
def fnReadsGiveCard : Claim7 := { stood := { row := fnReadsGiveRow, standIns := [], harness := (true, "773a0620a63a766679e76d71c3c3c336a289d007324a101fcaeeb91a0866e821"), looks := true }, kinds := [], alts := [], laidByText := true, laidKinds := [.handle, .sentinel, .sentinel, .sentinel, .data], laidTests := true, laidLooks := .later }
def FnReadsGiveCardSaid : Prop := Claim7.holds Tryz.pinned (.plain (OpenSpec.ofChange fnReadsGiveSpec)) fnReadsGiveCard

/-- THE TIED CARD OF 'laws.FnTail'. -/
def fnTailCard : Claim7 := { stood := { row := fnTailRow, standIns := [], harness := (true, "773a0620a63a766679e76d71c3c3c336a289d007324a101fcaeeb91a0866e821"), looks := true }, kinds := [], alts := [], laidByText := true, laidKinds := [.handle, .sentinel, .sentinel, .sentinel, .data], laidTests := true, laidLooks := .later }
def FnTailCardSaid : Prop := Claim7.holds Tryz.pinned (.plain (OpenSpec.ofChange fnTailSpec)) fnTailCard

/-- THE TIED CARD OF 'laws.FnTrailing'. -/
def fnTrailingCard : Claim7 := { stood := { row := fnTrailingRow, standIns := [], harness := (true, "773a0620a63a766679e76d71c3c3c336a289d007324a101fcaeeb91a0866e821"), looks := true }, kinds := [], alts := [], laidByText := true, laidKinds := [.handle, .sentinel, .sentinel, .sentinel, .data], laidTests := true, laidLooks := .later }
def FnTrailingCardSaid : Prop := Claim7.holds Tryz.pinned (.plain (OpenSpec.ofChange fnTrailingSpec)) fnTrailingCard

/-- THE SECOND FORM's CARD OF 'laws.FnAgainStored'. -/
def fnAgainStoredUptoCard : Claim7 := { stood := { row := fnAgainStoredUptoRow, standIns := [], harness := (true, "773a0620a63a766679e76d71c3c3c336a289d007324a101fcaeeb91a0866e821"), looks := true }, kinds := [], alts := [], laidByText := true, laidKinds := [.handle, .sentinel, .sentinel, .sentinel, .data], laidTests := true, laidLooks := .later }
def FnAgainStoredUptoCardSaid : Prop := Claim7.holds Tryz.pinned (.plain (OpenSpec.upto fnAgainStoredSpec)) fnAgainStoredUptoCard

/-- THE SECOND FORM's CARD OF 'laws.FnClosed'. -/
def fnClosedUptoCard : Claim7 := { stood := { row := fnClosedUptoRow, standIns := [], harness := (true, "773a0620a63a766679e76d71c3c3c336a289d007324a101fcaeeb91a0866e821"), looks := true }, kinds := [], alts := [], laidByText := true, laidKinds := [.handle, .sentinel, .sentinel, .sentinel, .data], laidTests := true, laidLooks := .later }
def FnClosedUptoCardSaid : Prop := Claim7.holds Tryz.pinned (.plain (OpenSpec.upto fnClosedSpec)) fnClosedUptoCard

/-- THE SECOND FORM's CARD OF 'laws.FnCutEnd'. -/
def fnCutEndUptoCard : Claim7 := { stood := { row := fnCutEndUptoRow, standIns := [], harness := (true, "773a0620a63a766679e76d71c3c3c336a289d007324a101fcaeeb91a0866e821"), looks := true }, kinds := [], alts := [], laidByText := true, laidKinds := [.handle, .sentinel, .sentinel, .sentinel, .data], laidTests := true, laidLooks := .later }
def FnCutEndUptoCardSaid : Prop := Claim7.holds Tryz.pinned (.plain (OpenSpec.upto fnCutEndSpec)) fnCutEndUptoCard

/-- THE SECOND FORM's CARD OF 'laws.FnCuts'. -/
def fnCutsUptoCard : Claim7 := { stood := { row := fnCutsUptoRow, standIns := [], harness := (true, "773a0620a63a766679e76d71c3c3c336a289d007324a101fcaeeb91a0866e821"), looks := true }, kinds := [], alts := [], laidByText := true, laidKinds := [.handle, .sentinel, .sentinel, .sentinel, .data], laidTests := true, laidLooks := .later }
def FnCutsUptoCardSaid : Prop := Claim7.holds Tryz.pinned (.plain (OpenSpec.upto fnCutsSpec)) fnCutsUptoCard

/-- THE SECOND FORM's CARD OF 'laws.FnLimit'. -/
def fnLimitUptoCard : Claim7 := { stood := { row := fnLimitUptoRow, standIns := [], harness := (true, "773a0620a63a766679e76d71c3c3c336a289d007324a101fcaeeb91a0866e821"), looks := true }, kinds := [], alts := [], laidByText := true, laidKinds := [.handle, .sentinel, .sentinel, .sentinel, .data], laidTests := true, laidLooks := .later }
def FnLimitUptoCardSaid : Prop := Claim7.holds Tryz.pinned (.plain (OpenSpec.upto fnLimitSpec)) fnLimitUptoCard

/-- THE SECOND FORM's CARD OF 'laws.FnReads'. -/
def fnReadsUptoCard : Claim7 := { stood := { row := fnReadsUptoRow, standIns := [], harness := (true, "773a0620a63a766679e76d71c3c3c336a289d007324a101fcaeeb91a0866e821"), looks := true }, kinds := [], alts := [], laidByText := true, laidKinds := [.handle, .sentinel, .sentinel, .sentinel, .data], laidTests := true, laidLooks := .later }
def FnReadsUptoCardSaid : Prop := Claim7.holds Tryz.pinned (.plain (OpenSpec.upto fnReadsSpec)) fnReadsUptoCard

/-- THE SECOND FORM's CARD OF 'laws.FnReadsGive'. -/
def fnReadsGiveUptoCard : Claim7 := { stood := { row := fnReadsGiveUptoRow, standIns := [], harness := (true, "773a0620a63a766679e76d71c3c3c336a289d007324a101fcaeeb91a0866e821"), looks := true }, kinds := [], alts := [], laidByText := true, laidKinds := [.handle, .sentinel, .sentinel, .sentinel, .data], laidTests := true, laidLooks := .later }
def FnReadsGiveUptoCardSaid : Prop := Claim7.holds Tryz.pinned (.plain (OpenSpec.upto fnReadsGiveSpec)) fnReadsGiveUptoCard

/-- THE SECOND FORM's CARD OF 'laws.FnTail'. -/
def fnTailUptoCard : Claim7 := { stood := { row := fnTailUptoRow, standIns := [], harness := (true, "773a0620a63a766679e76d71c3c3c336a289d007324a101fcaeeb91a0866e821"), looks := true }, kinds := [], alts := [], laidByText := true, laidKinds := [.handle, .sentinel, .sentinel, .sentinel, .data], laidTests := true, laidLooks := .later }
def FnTailUptoCardSaid : Prop := Claim7.holds Tryz.pinned (.plain (OpenSpec.upto fnTailSpec)) fnTailUptoCard

/-- THE SECOND FORM's CARD OF 'laws.FnTrailing'. -/
def fnTrailingUptoCard : Claim7 := { stood := { row := fnTrailingUptoRow, standIns := [], harness := (true, "773a0620a63a766679e76d71c3c3c336a289d007324a101fcaeeb91a0866e821"), looks := true }, kinds := [], alts := [], laidByText := true, laidKinds := [.handle, .sentinel, .sentinel, .sentinel, .data], laidTests := true, laidLooks := .later }
def FnTrailingUptoCardSaid : Prop := Claim7.holds Tryz.pinned (.plain (OpenSpec.upto fnTrailingSpec)) fnTrailingUptoCard
end Rows
end Go.Proofs.YthhfbogakdechaaGreatDoor
