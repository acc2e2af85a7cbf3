/-
  DERIVED. GIVEN WITH THE SEED: THE CARDS: each row of YtaocijfaakgliaaDoorRows.lean that lists a variable, with what it lists TIED to the program's text (the seventh form; the later family's looks); each row that meets fmt, with fmt's text TOLD by the authors' own Lean function (tested against real Go, not proved from fmt's source: count such statements apart). THE CARD IS WHAT COUNTS. Prove the row's statement (the work); the ties are given (YtaocijfaakgliaaDoorTie.lean); close each card by the builder's one call (the guide's Derived/Test/ToyasCard.lean, 'card_holds'). Laid BY PROGRAM, IN A SANDBOX (cutbox-door.mjs). By AI agents, Wed Nov 11 2026. No macro, syntax, notation, axiom, sorry.
-/
import Derived.Test.YtaocijfaakgliaaDoorRows
import GoSem.ClaimSeven
namespace Go.Proofs.YtaocijfaakgliaaDoor
namespace Rows

/-- THE TIED CARD OF 'laws.FnDistance'. -/
def fnDistanceCard : Claim7 := { stood := { row := fnDistanceRow, standIns := [], harness := (true, "8ac9bee161fb09d11c31967fca4cc2a54510015137170471f7619fd8b505724b"), looks := true }, kinds := [], alts := [], laidByText := true, laidKinds := [.handle, .sentinel, .sentinel, .sentinel, .data], laidTests := true, laidLooks := .later }
def FnDistanceCardSaid : Prop := Claim7.holds Tryd.pinned (.plain (OpenSpec.ofChange fnDistanceSpec)) fnDistanceCard

/-- THE TIED CARD OF 'laws.FnLiteral'. -/
def fnLiteralCard : Claim7 := { stood := { row := fnLiteralRow, standIns := [], harness := (true, "8ac9bee161fb09d11c31967fca4cc2a54510015137170471f7619fd8b505724b"), looks := true }, kinds := [], alts := [], laidByText := true, laidKinds := [.handle, .sentinel, .sentinel, .sentinel, .data], laidTests := true, laidLooks := .later }
def FnLiteralCardSaid : Prop := Claim7.holds Tryd.pinned (.plain (OpenSpec.ofChange fnLiteralSpec)) fnLiteralCard

/-- THE TIED CARD OF 'laws.FnLong258'. -/
def fnLong258Card : Claim7 := { stood := { row := fnLong258Row, standIns := [], harness := (true, "8ac9bee161fb09d11c31967fca4cc2a54510015137170471f7619fd8b505724b"), looks := true }, kinds := [], alts := [], laidByText := true, laidKinds := [.handle, .sentinel, .sentinel, .sentinel, .data], laidTests := true, laidLooks := .later }
def FnLong258CardSaid : Prop := Claim7.holds Tryd.pinned (.plain (OpenSpec.ofChange fnLong258Spec)) fnLong258Card

/-- THE TIED CARD OF 'laws.FnOverlap'. -/
def fnOverlapCard : Claim7 := { stood := { row := fnOverlapRow, standIns := [], harness := (true, "8ac9bee161fb09d11c31967fca4cc2a54510015137170471f7619fd8b505724b"), looks := true }, kinds := [], alts := [], laidByText := true, laidKinds := [.handle, .sentinel, .sentinel, .sentinel, .data], laidTests := true, laidLooks := .later }
def FnOverlapCardSaid : Prop := Claim7.holds Tryd.pinned (.plain (OpenSpec.ofChange fnOverlapSpec)) fnOverlapCard

/-- THE TIED CARD OF 'laws.FnRepeat'. -/
def fnRepeatCard : Claim7 := { stood := { row := fnRepeatRow, standIns := [], harness := (true, "8ac9bee161fb09d11c31967fca4cc2a54510015137170471f7619fd8b505724b"), looks := true }, kinds := [], alts := [], laidByText := true, laidKinds := [.handle, .sentinel, .sentinel, .sentinel, .data], laidTests := true, laidLooks := .later }
def FnRepeatCardSaid : Prop := Claim7.holds Tryd.pinned (.plain (OpenSpec.ofChange fnRepeatSpec)) fnRepeatCard

/-- THE TIED CARD OF 'laws.FnStoredAny'. -/
def fnStoredAnyCard : Claim7 := { stood := { row := fnStoredAnyRow, standIns := [], harness := (true, "8ac9bee161fb09d11c31967fca4cc2a54510015137170471f7619fd8b505724b"), looks := true }, kinds := [], alts := [], laidByText := true, laidKinds := [.handle, .sentinel, .sentinel, .sentinel, .data], laidTests := true, laidLooks := .later }
def FnStoredAnyCardSaid : Prop := Claim7.holds Tryd.pinned (.plain (OpenSpec.ofChange fnStoredAnySpec)) fnStoredAnyCard

/-- THE TIED CARD OF 'laws.FnStoredSize'. -/
def fnStoredSizeCard : Claim7 := { stood := { row := fnStoredSizeRow, standIns := [], harness := (true, "8ac9bee161fb09d11c31967fca4cc2a54510015137170471f7619fd8b505724b"), looks := true }, kinds := [], alts := [], laidByText := true, laidKinds := [.handle, .sentinel, .sentinel, .sentinel, .data], laidTests := true, laidLooks := .later }
def FnStoredSizeCardSaid : Prop := Claim7.holds Tryd.pinned (.plain (OpenSpec.ofChange fnStoredSizeSpec)) fnStoredSizeCard

/-- THE SECOND FORM's CARD OF 'laws.FnDistance'. -/
def fnDistanceUptoCard : Claim7 := { stood := { row := fnDistanceUptoRow, standIns := [], harness := (true, "8ac9bee161fb09d11c31967fca4cc2a54510015137170471f7619fd8b505724b"), looks := true }, kinds := [], alts := [], laidByText := true, laidKinds := [.handle, .sentinel, .sentinel, .sentinel, .data], laidTests := true, laidLooks := .later }
def FnDistanceUptoCardSaid : Prop := Claim7.holds Tryd.pinned (.plain (OpenSpec.upto fnDistanceSpec)) fnDistanceUptoCard

/-- THE SECOND FORM's CARD OF 'laws.FnLiteral'. -/
def fnLiteralUptoCard : Claim7 := { stood := { row := fnLiteralUptoRow, standIns := [], harness := (true, "8ac9bee161fb09d11c31967fca4cc2a54510015137170471f7619fd8b505724b"), looks := true }, kinds := [], alts := [], laidByText := true, laidKinds := [.handle, .sentinel, .sentinel, .sentinel, .data], laidTests := true, laidLooks := .later }
def FnLiteralUptoCardSaid : Prop := Claim7.holds Tryd.pinned (.plain (OpenSpec.upto fnLiteralSpec)) fnLiteralUptoCard

/-- THE SECOND FORM's CARD OF 'laws.FnLong258'. -/
def fnLong258UptoCard : Claim7 := { stood := { row := fnLong258UptoRow, standIns := [], harness := (true, "8ac9bee161fb09d11c31967fca4cc2a54510015137170471f7619fd8b505724b"), looks := true }, kinds := [], alts := [], laidByText := true, laidKinds := [.handle, .sentinel, .sentinel, .sentinel, .data], laidTests := true, laidLooks := .later }
def FnLong258UptoCardSaid : Prop := Claim7.holds Tryd.pinned (.plain (OpenSpec.upto fnLong258Spec)) fnLong258UptoCard

/-- THE SECOND FORM's CARD OF 'laws.FnOverlap'. -/
def fnOverlapUptoCard : Claim7 := { stood := { row := fnOverlapUptoRow, standIns := [], harness := (true, "8ac9bee161fb09d11c31967fca4cc2a54510015137170471f7619fd8b505724b"), looks := true }, kinds := [], alts := [], laidByText := true, laidKinds := [.handle, .sentinel, .sentinel, .sentinel, .data], laidTests := true, laidLooks := .later }
def FnOverlapUptoCardSaid : Prop := Claim7.holds Tryd.pinned (.plain (OpenSpec.upto fnOverlapSpec)) fnOverlapUptoCard

/-- THE SECOND FORM's CARD OF 'laws.FnRepeat'. -/
def fnRepeatUptoCard : Claim7 := { stood := { row := fnRepeatUptoRow, standIns := [], harness := (true, "8ac9bee161fb09d11c31967fca4cc2a54510015137170471f7619fd8b505724b"), looks := true }, kinds := [], alts := [], laidByText := true, laidKinds := [.handle, .sentinel, .sentinel, .sentinel, .data], laidTests := true, laidLooks := .later }
def FnRepeatUptoCardSaid : Prop := Claim7.holds Tryd.pinned (.plain (OpenSpec.upto fnRepeatSpec)) fnRepeatUptoCard

/-- THE SECOND FORM's CARD OF 'laws.FnStoredAny'. -/
def fnStoredAnyUptoCard : Claim7 := { stood := { row := fnStoredAnyUptoRow, standIns := [], harness := (true, "8ac9bee161fb09d11c31967fca4cc2a54510015137170471f7619fd8b505724b"), looks := true }, kinds := [], alts := [], laidByText := true, laidKinds := [.handle, .sentinel, .sentinel, .sentinel, .data], laidTests := true, laidLooks := .later }
def FnStoredAnyUptoCardSaid : Prop := Claim7.holds Tryd.pinned (.plain (OpenSpec.upto fnStoredAnySpec)) fnStoredAnyUptoCard

/-- THE SECOND FORM's CARD OF 'laws.FnStoredSize'. -/
def fnStoredSizeUptoCard : Claim7 := { stood := { row := fnStoredSizeUptoRow, standIns := [], harness := (true, "8ac9bee161fb09d11c31967fca4cc2a54510015137170471f7619fd8b505724b"), looks := true }, kinds := [], alts := [], laidByText := true, laidKinds := [.handle, .sentinel, .sentinel, .sentinel, .data], laidTests := true, laidLooks := .later }
def FnStoredSizeUptoCardSaid : Prop := Claim7.holds Tryd.pinned (.plain (OpenSpec.upto fnStoredSizeSpec)) fnStoredSizeUptoCard
end Rows
end Go.Proofs.YtaocijfaakgliaaDoor
