/-
  DERIVED. GIVEN WITH THE SEED: THE CARDS: each row of YtbibokkclejapaaDoorRows.lean that lists a variable, with what it lists TIED to the program's text (the seventh form; the later family's looks); each row that meets fmt, with fmt's text TOLD by the authors' own Lean function (tested against real Go, not proved from fmt's source: count such statements apart). THE CARD IS WHAT COUNTS. Prove the row's statement (the work); the ties are given (YtbibokkclejapaaDoorTie.lean); close each card by the builder's one call (the guide's Derived/Test/ToyasCard.lean, 'card_holds'). Laid BY PROGRAM, IN A SANDBOX (cutbox-door.mjs). By AI agents, Wed Nov 11 2026. No macro, syntax, notation, axiom, sorry.
-/
import Derived.Test.YtbibokkclejapaaDoorRows
import GoSem.ClaimSeven
namespace Go.Proofs.YtbibokkclejapaaDoor
namespace Rows

/-- THE TIED CARD OF 'laws.FnDedentedBack'. -/
def fnDedentedBackCard : Claim7 := { stood := { row := fnDedentedBackRow, standIns := [], harness := (true, "a76fa1dd88a15184f76a2b7a2d57631ca54821cab298044735ef7f5620330fa9"), looks := false }, kinds := [], alts := [], laidByText := true, laidKinds := [.sentinel, .sentinel], laidTests := true, laidLooks := .later }
def FnDedentedBackCardSaid : Prop := Claim7.holds Tryd.pinned (.plain (OpenSpec.ofChange fnDedentedBackSpec)) fnDedentedBackCard

/-- THE TIED CARD OF 'laws.FnIndentedBy'. -/
def fnIndentedByCard : Claim7 := { stood := { row := fnIndentedByRow, standIns := [], harness := (true, "a76fa1dd88a15184f76a2b7a2d57631ca54821cab298044735ef7f5620330fa9"), looks := false }, kinds := [], alts := [], laidByText := true, laidKinds := [.sentinel, .sentinel], laidTests := true, laidLooks := .later }
def FnIndentedByCardSaid : Prop := Claim7.holds Tryd.pinned (.plain (OpenSpec.ofChange fnIndentedBySpec)) fnIndentedByCard

/-- THE TIED CARD OF 'laws.FnIndentedColours'. -/
def fnIndentedColoursCard : Claim7 := { stood := { row := fnIndentedColoursRow, standIns := [], harness := (true, "a76fa1dd88a15184f76a2b7a2d57631ca54821cab298044735ef7f5620330fa9"), looks := false }, kinds := [], alts := [], laidByText := true, laidKinds := [.sentinel, .sentinel], laidTests := true, laidLooks := .later }
def FnIndentedColoursCardSaid : Prop := Claim7.holds Tryd.pinned (.plain (OpenSpec.ofChange fnIndentedColoursSpec)) fnIndentedColoursCard

/-- THE TIED CARD OF 'laws.FnIndentedSum'. -/
def fnIndentedSumCard : Claim7 := { stood := { row := fnIndentedSumRow, standIns := [], harness := (true, "a76fa1dd88a15184f76a2b7a2d57631ca54821cab298044735ef7f5620330fa9"), looks := false }, kinds := [], alts := [], laidByText := true, laidKinds := [.sentinel, .sentinel], laidTests := true, laidLooks := .later }
def FnIndentedSumCardSaid : Prop := Claim7.holds Tryd.pinned (.plain (OpenSpec.ofChange fnIndentedSumSpec)) fnIndentedSumCard

/-- THE TIED CARD OF 'laws.FnPadded'. -/
def fnPaddedCard : Claim7 := { stood := { row := fnPaddedRow, standIns := [], harness := (true, "a76fa1dd88a15184f76a2b7a2d57631ca54821cab298044735ef7f5620330fa9"), looks := false }, kinds := [], alts := [], laidByText := true, laidKinds := [.sentinel, .sentinel], laidTests := true, laidLooks := .later }
def FnPaddedCardSaid : Prop := Claim7.holds Tryd.pinned (.plain (OpenSpec.ofChange fnPaddedSpec)) fnPaddedCard

/-- THE TIED CARD OF 'laws.FnPartsCut'. -/
def fnPartsCutCard : Claim7 := { stood := { row := fnPartsCutRow, standIns := [], harness := (true, "a76fa1dd88a15184f76a2b7a2d57631ca54821cab298044735ef7f5620330fa9"), looks := false }, kinds := [], alts := [], laidByText := true, laidKinds := [.sentinel, .sentinel], laidTests := true, laidLooks := .later }
def FnPartsCutCardSaid : Prop := Claim7.holds Tryd.pinned (.plain (OpenSpec.ofChange fnPartsCutSpec)) fnPartsCutCard

/-- THE SECOND FORM's CARD OF 'laws.FnDedentedBack'. -/
def fnDedentedBackUptoCard : Claim7 := { stood := { row := fnDedentedBackUptoRow, standIns := [], harness := (true, "a76fa1dd88a15184f76a2b7a2d57631ca54821cab298044735ef7f5620330fa9"), looks := false }, kinds := [], alts := [], laidByText := true, laidKinds := [.sentinel, .sentinel], laidTests := true, laidLooks := .later }
def FnDedentedBackUptoCardSaid : Prop := Claim7.holds Tryd.pinned (.plain (OpenSpec.upto fnDedentedBackSpec)) fnDedentedBackUptoCard

/-- THE SECOND FORM's CARD OF 'laws.FnIndentedBy'. -/
def fnIndentedByUptoCard : Claim7 := { stood := { row := fnIndentedByUptoRow, standIns := [], harness := (true, "a76fa1dd88a15184f76a2b7a2d57631ca54821cab298044735ef7f5620330fa9"), looks := false }, kinds := [], alts := [], laidByText := true, laidKinds := [.sentinel, .sentinel], laidTests := true, laidLooks := .later }
def FnIndentedByUptoCardSaid : Prop := Claim7.holds Tryd.pinned (.plain (OpenSpec.upto fnIndentedBySpec)) fnIndentedByUptoCard

/-- THE SECOND FORM's CARD OF 'laws.FnIndentedColours'. -/
def fnIndentedColoursUptoCard : Claim7 := { stood := { row := fnIndentedColoursUptoRow, standIns := [], harness := (true, "a76fa1dd88a15184f76a2b7a2d57631ca54821cab298044735ef7f5620330fa9"), looks := false }, kinds := [], alts := [], laidByText := true, laidKinds := [.sentinel, .sentinel], laidTests := true, laidLooks := .later }
def FnIndentedColoursUptoCardSaid : Prop := Claim7.holds Tryd.pinned (.plain (OpenSpec.upto fnIndentedColoursSpec)) fnIndentedColoursUptoCard

/-- THE SECOND FORM's CARD OF 'laws.FnIndentedSum'. -/
def fnIndentedSumUptoCard : Claim7 := { stood := { row := fnIndentedSumUptoRow, standIns := [], harness := (true, "a76fa1dd88a15184f76a2b7a2d57631ca54821cab298044735ef7f5620330fa9"), looks := false }, kinds := [], alts := [], laidByText := true, laidKinds := [.sentinel, .sentinel], laidTests := true, laidLooks := .later }
def FnIndentedSumUptoCardSaid : Prop := Claim7.holds Tryd.pinned (.plain (OpenSpec.upto fnIndentedSumSpec)) fnIndentedSumUptoCard

/-- THE SECOND FORM's CARD OF 'laws.FnPadded'. -/
def fnPaddedUptoCard : Claim7 := { stood := { row := fnPaddedUptoRow, standIns := [], harness := (true, "a76fa1dd88a15184f76a2b7a2d57631ca54821cab298044735ef7f5620330fa9"), looks := false }, kinds := [], alts := [], laidByText := true, laidKinds := [.sentinel, .sentinel], laidTests := true, laidLooks := .later }
def FnPaddedUptoCardSaid : Prop := Claim7.holds Tryd.pinned (.plain (OpenSpec.upto fnPaddedSpec)) fnPaddedUptoCard

/-- THE SECOND FORM's CARD OF 'laws.FnPartsCut'. -/
def fnPartsCutUptoCard : Claim7 := { stood := { row := fnPartsCutUptoRow, standIns := [], harness := (true, "a76fa1dd88a15184f76a2b7a2d57631ca54821cab298044735ef7f5620330fa9"), looks := false }, kinds := [], alts := [], laidByText := true, laidKinds := [.sentinel, .sentinel], laidTests := true, laidLooks := .later }
def FnPartsCutUptoCardSaid : Prop := Claim7.holds Tryd.pinned (.plain (OpenSpec.upto fnPartsCutSpec)) fnPartsCutUptoCard
end Rows
end Go.Proofs.YtbibokkclejapaaDoor
