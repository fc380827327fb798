/-
  DERIVED. GIVEN WITH THE SEED: THE CARDS: each row of YtkljpbpojbhbbaaDoorRows.lean that lists a variable, with what it lists TIED to the program's text (the seventh form; the later family's looks); each row that meets fmt, with fmt's text TOLD by the authors' own Lean function (tested against real Go, not proved from fmt's source: count such statements apart). THE CARD IS WHAT COUNTS. Prove the row's statement (the work); the ties are given (YtkljpbpojbhbbaaDoorTie.lean); close each card by the builder's one call (the guide's Derived/Test/ToyasCard.lean, 'card_holds'). Laid BY PROGRAM, IN A SANDBOX (cutbox-door.mjs). By AI agents, Wed Nov 11 2026. No macro, syntax, notation, axiom, sorry.
-/
import Derived.Test.YtkljpbpojbhbbaaDoorRows
import GoSem.ClaimSeven
namespace Go.Proofs.YtkljpbpojbhbbaaDoor
namespace Rows

/-- THE TIED CARD OF 'laws.FnColourlessParts'. -/
def fnColourlessPartsCard : Claim7 := { stood := { row := fnColourlessPartsRow, standIns := [], harness := (true, "63ff6e887b2099e259817ce2a8aaadba22b7c79b575b4fa0c2a6248391c64905"), looks := true }, kinds := [], alts := [], laidByText := true, laidKinds := [.wider], laidTests := true, laidLooks := .later }
def FnColourlessPartsCardSaid : Prop := Claim7.holds Tryd.pinned (.plain (OpenSpec.ofChange fnColourlessPartsSpec)) fnColourlessPartsCard

/-- THE TIED CARD OF 'laws.FnAggregated'. -/
def fnAggregatedCard : Claim7 := { stood := { row := fnAggregatedRow, standIns := [], harness := (true, "63ff6e887b2099e259817ce2a8aaadba22b7c79b575b4fa0c2a6248391c64905"), looks := true }, kinds := [], alts := [], laidByText := true, laidKinds := [.wider], laidTests := true, laidLooks := .later }
def FnAggregatedCardSaid : Prop := Claim7.holds Tryd.pinned (.plain (OpenSpec.ofChange fnAggregatedSpec)) fnAggregatedCard

/-- THE TIED CARD OF 'laws.FnEscapeRead'. -/
def fnEscapeReadCard : Claim7 := { stood := { row := fnEscapeReadRow, standIns := [], harness := (true, "63ff6e887b2099e259817ce2a8aaadba22b7c79b575b4fa0c2a6248391c64905"), looks := true }, kinds := [], alts := [], laidByText := true, laidKinds := [.data, .sentinel, .pinned], laidTests := true, laidLooks := .later }
def FnEscapeReadCardSaid : Prop := Claim7.holds Tryd.pinned (.plain (OpenSpec.ofChange fnEscapeReadSpec)) fnEscapeReadCard

/-- THE TIED CARD OF 'laws.FnSwept'. -/
def fnSweptCard : Claim7 := { stood := { row := fnSweptRow, standIns := [], harness := (true, "63ff6e887b2099e259817ce2a8aaadba22b7c79b575b4fa0c2a6248391c64905"), looks := true }, kinds := [], alts := [], laidByText := true, laidKinds := [.sentinel, .wider], laidTests := true, laidLooks := .later }
def FnSweptCardSaid : Prop := Claim7.holds Tryd.pinned (.plain (OpenSpec.ofChange fnSweptSpec)) fnSweptCard

/-- THE TIED CARD OF 'laws.FnPastFound'. -/
def fnPastFoundCard : Claim7 := { stood := { row := fnPastFoundRow, standIns := [], harness := (true, "63ff6e887b2099e259817ce2a8aaadba22b7c79b575b4fa0c2a6248391c64905"), looks := true }, kinds := [], alts := [], laidByText := true, laidKinds := [.wider], laidTests := true, laidLooks := .later }
def FnPastFoundCardSaid : Prop := Claim7.holds Tryd.pinned (.plain (OpenSpec.ofChange fnPastFoundSpec)) fnPastFoundCard

/-- THE TIED CARD OF 'laws.FnTreeOf'. -/
def fnTreeOfCard : Claim7 := { stood := { row := fnTreeOfRow, standIns := [], harness := (true, "63ff6e887b2099e259817ce2a8aaadba22b7c79b575b4fa0c2a6248391c64905"), looks := true }, kinds := [], alts := [], laidByText := true, laidKinds := [.listed, .sentinel, .wider], laidTests := true, laidLooks := .later }
def FnTreeOfCardSaid : Prop := Claim7.holds Tryd.pinned (.plain (OpenSpec.ofChange fnTreeOfSpec)) fnTreeOfCard

/-- THE TIED CARD OF 'laws.FnCompleted'. -/
def fnCompletedCard : Claim7 := { stood := { row := fnCompletedRow, standIns := [], harness := (true, "63ff6e887b2099e259817ce2a8aaadba22b7c79b575b4fa0c2a6248391c64905"), looks := true }, kinds := [], alts := [], laidByText := true, laidKinds := [.listed, .wider], laidTests := true, laidLooks := .later }
def FnCompletedCardSaid : Prop := Claim7.holds Tryd.pinned (.plain (OpenSpec.ofChange fnCompletedSpec)) fnCompletedCard

/-- THE TIED CARD OF 'laws.FnOffersCommon'. -/
def fnOffersCommonCard : Claim7 := { stood := { row := fnOffersCommonRow, standIns := [], harness := (true, "63ff6e887b2099e259817ce2a8aaadba22b7c79b575b4fa0c2a6248391c64905"), looks := true }, kinds := [], alts := [], laidByText := true, laidKinds := [.listed, .wider], laidTests := true, laidLooks := .later }
def FnOffersCommonCardSaid : Prop := Claim7.holds Tryd.pinned (.plain (OpenSpec.ofChange fnOffersCommonSpec)) fnOffersCommonCard

/-- THE SECOND FORM's CARD OF 'laws.FnColourlessParts'. -/
def fnColourlessPartsUptoCard : Claim7 := { stood := { row := fnColourlessPartsUptoRow, standIns := [], harness := (true, "63ff6e887b2099e259817ce2a8aaadba22b7c79b575b4fa0c2a6248391c64905"), looks := true }, kinds := [], alts := [], laidByText := true, laidKinds := [.wider], laidTests := true, laidLooks := .later }
def FnColourlessPartsUptoCardSaid : Prop := Claim7.holds Tryd.pinned (.plain (OpenSpec.upto fnColourlessPartsSpec)) fnColourlessPartsUptoCard

/-- THE SECOND FORM's CARD OF 'laws.FnAggregated'. -/
def fnAggregatedUptoCard : Claim7 := { stood := { row := fnAggregatedUptoRow, standIns := [], harness := (true, "63ff6e887b2099e259817ce2a8aaadba22b7c79b575b4fa0c2a6248391c64905"), looks := true }, kinds := [], alts := [], laidByText := true, laidKinds := [.wider], laidTests := true, laidLooks := .later }
def FnAggregatedUptoCardSaid : Prop := Claim7.holds Tryd.pinned (.plain (OpenSpec.upto fnAggregatedSpec)) fnAggregatedUptoCard

/-- THE SECOND FORM's CARD OF 'laws.FnEscapeRead'. -/
def fnEscapeReadUptoCard : Claim7 := { stood := { row := fnEscapeReadUptoRow, standIns := [], harness := (true, "63ff6e887b2099e259817ce2a8aaadba22b7c79b575b4fa0c2a6248391c64905"), looks := true }, kinds := [], alts := [], laidByText := true, laidKinds := [.data, .sentinel, .pinned], laidTests := true, laidLooks := .later }
def FnEscapeReadUptoCardSaid : Prop := Claim7.holds Tryd.pinned (.plain (OpenSpec.upto fnEscapeReadSpec)) fnEscapeReadUptoCard

/-- THE SECOND FORM's CARD OF 'laws.FnSwept'. -/
def fnSweptUptoCard : Claim7 := { stood := { row := fnSweptUptoRow, standIns := [], harness := (true, "63ff6e887b2099e259817ce2a8aaadba22b7c79b575b4fa0c2a6248391c64905"), looks := true }, kinds := [], alts := [], laidByText := true, laidKinds := [.sentinel, .wider], laidTests := true, laidLooks := .later }
def FnSweptUptoCardSaid : Prop := Claim7.holds Tryd.pinned (.plain (OpenSpec.upto fnSweptSpec)) fnSweptUptoCard

/-- THE SECOND FORM's CARD OF 'laws.FnPastFound'. -/
def fnPastFoundUptoCard : Claim7 := { stood := { row := fnPastFoundUptoRow, standIns := [], harness := (true, "63ff6e887b2099e259817ce2a8aaadba22b7c79b575b4fa0c2a6248391c64905"), looks := true }, kinds := [], alts := [], laidByText := true, laidKinds := [.wider], laidTests := true, laidLooks := .later }
def FnPastFoundUptoCardSaid : Prop := Claim7.holds Tryd.pinned (.plain (OpenSpec.upto fnPastFoundSpec)) fnPastFoundUptoCard

/-- THE SECOND FORM's CARD OF 'laws.FnTreeOf'. -/
def fnTreeOfUptoCard : Claim7 := { stood := { row := fnTreeOfUptoRow, standIns := [], harness := (true, "63ff6e887b2099e259817ce2a8aaadba22b7c79b575b4fa0c2a6248391c64905"), looks := true }, kinds := [], alts := [], laidByText := true, laidKinds := [.listed, .sentinel, .wider], laidTests := true, laidLooks := .later }
def FnTreeOfUptoCardSaid : Prop := Claim7.holds Tryd.pinned (.plain (OpenSpec.upto fnTreeOfSpec)) fnTreeOfUptoCard

/-- THE SECOND FORM's CARD OF 'laws.FnCompleted'. -/
def fnCompletedUptoCard : Claim7 := { stood := { row := fnCompletedUptoRow, standIns := [], harness := (true, "63ff6e887b2099e259817ce2a8aaadba22b7c79b575b4fa0c2a6248391c64905"), looks := true }, kinds := [], alts := [], laidByText := true, laidKinds := [.listed, .wider], laidTests := true, laidLooks := .later }
def FnCompletedUptoCardSaid : Prop := Claim7.holds Tryd.pinned (.plain (OpenSpec.upto fnCompletedSpec)) fnCompletedUptoCard

/-- THE SECOND FORM's CARD OF 'laws.FnOffersCommon'. -/
def fnOffersCommonUptoCard : Claim7 := { stood := { row := fnOffersCommonUptoRow, standIns := [], harness := (true, "63ff6e887b2099e259817ce2a8aaadba22b7c79b575b4fa0c2a6248391c64905"), looks := true }, kinds := [], alts := [], laidByText := true, laidKinds := [.listed, .wider], laidTests := true, laidLooks := .later }
def FnOffersCommonUptoCardSaid : Prop := Claim7.holds Tryd.pinned (.plain (OpenSpec.upto fnOffersCommonSpec)) fnOffersCommonUptoCard
end Rows
end Go.Proofs.YtkljpbpojbhbbaaDoor
