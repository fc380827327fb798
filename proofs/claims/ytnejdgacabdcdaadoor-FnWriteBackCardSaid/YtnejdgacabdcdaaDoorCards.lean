/-
  DERIVED. GIVEN WITH THE SEED: THE CARDS: each row of YtnejdgacabdcdaaDoorRows.lean that lists a variable, with what it lists TIED to the program's text (the seventh form; the later family's looks); each row that meets fmt, with fmt's text TOLD by the authors' own Lean function (tested against real Go, not proved from fmt's source: count such statements apart). THE CARD IS WHAT COUNTS. Prove the row's statement (the work); the ties are given (YtnejdgacabdcdaaDoorTie.lean); close each card by the builder's one call (the guide's Derived/Test/ToyasCard.lean, 'card_holds'). Laid BY PROGRAM, IN A SANDBOX (cutbox-door.mjs). By AI agents, Wed Nov 11 2026. No macro, syntax, notation, axiom, sorry.
-/
import Derived.Test.YtnejdgacabdcdaaDoorRows
import GoSem.ClaimSeven
namespace Go.Proofs.YtnejdgacabdcdaaDoor
namespace Rows

/-- THE TIED CARD OF 'laws.FnDeleteForward'. -/
def fnDeleteForwardCard : Claim7 := { stood := { row := fnDeleteForwardRow, standIns := [], harness := (true, "865fe21563572d7b2d6dc1fd357585ebff65223e9fef3d7e8ea67e7cd26a87a4"), looks := false }, kinds := [], alts := [], laidByText := true, laidKinds := [.wider], laidTests := true, laidLooks := .later }
def FnDeleteForwardCardSaid : Prop := Claim7.holds Tryd.pinned (.plain (OpenSpec.ofChange fnDeleteForwardSpec)) fnDeleteForwardCard

/-- THE TIED CARD OF 'laws.FnKeyReset'. -/
def fnKeyResetCard : Claim7 := { stood := { row := fnKeyResetRow, standIns := [], harness := (true, "865fe21563572d7b2d6dc1fd357585ebff65223e9fef3d7e8ea67e7cd26a87a4"), looks := false }, kinds := [], alts := [], laidByText := true, laidKinds := [.wider], laidTests := true, laidLooks := .later }
def FnKeyResetCardSaid : Prop := Claim7.holds Tryd.pinned (.plain (OpenSpec.ofChange fnKeyResetSpec)) fnKeyResetCard

/-- THE TIED CARD OF 'laws.FnKeyed'. -/
def fnKeyedCard : Claim7 := { stood := { row := fnKeyedRow, standIns := [], harness := (true, "865fe21563572d7b2d6dc1fd357585ebff65223e9fef3d7e8ea67e7cd26a87a4"), looks := false }, kinds := [], alts := [], laidByText := true, laidKinds := [.wider], laidTests := true, laidLooks := .later }
def FnKeyedCardSaid : Prop := Claim7.holds Tryd.pinned (.plain (OpenSpec.ofChange fnKeyedSpec)) fnKeyedCard

/-- THE TIED CARD OF 'laws.FnTakenLeft'. -/
def fnTakenLeftCard : Claim7 := { stood := { row := fnTakenLeftRow, standIns := [], harness := (true, "865fe21563572d7b2d6dc1fd357585ebff65223e9fef3d7e8ea67e7cd26a87a4"), looks := false }, kinds := [], alts := [], laidByText := true, laidKinds := [.wider], laidTests := true, laidLooks := .later }
def FnTakenLeftCardSaid : Prop := Claim7.holds Tryd.pinned (.plain (OpenSpec.ofChange fnTakenLeftSpec)) fnTakenLeftCard

/-- THE TIED CARD OF 'laws.FnWriteBack'. -/
def fnWriteBackCard : Claim7 := { stood := { row := fnWriteBackRow, standIns := [], harness := (true, "865fe21563572d7b2d6dc1fd357585ebff65223e9fef3d7e8ea67e7cd26a87a4"), looks := false }, kinds := [], alts := [], laidByText := true, laidKinds := [.wider], laidTests := true, laidLooks := .later }
def FnWriteBackCardSaid : Prop := Claim7.holds Tryd.pinned (.plain (OpenSpec.ofChange fnWriteBackSpec)) fnWriteBackCard

/-- THE TIED CARD OF 'laws.FnWriteParts'. -/
def fnWritePartsCard : Claim7 := { stood := { row := fnWritePartsRow, standIns := [], harness := (true, "865fe21563572d7b2d6dc1fd357585ebff65223e9fef3d7e8ea67e7cd26a87a4"), looks := false }, kinds := [], alts := [], laidByText := true, laidKinds := [.wider], laidTests := true, laidLooks := .later }
def FnWritePartsCardSaid : Prop := Claim7.holds Tryd.pinned (.plain (OpenSpec.ofChange fnWritePartsSpec)) fnWritePartsCard

/-- THE TIED CARD OF 'laws.FnKeyPuts'. -/
def fnKeyPutsCard : Claim7 := { stood := { row := fnKeyPutsRow, standIns := [], harness := (true, "865fe21563572d7b2d6dc1fd357585ebff65223e9fef3d7e8ea67e7cd26a87a4"), looks := false }, kinds := [], alts := [], laidByText := true, laidKinds := [.wider], laidTests := true, laidLooks := .later }
def FnKeyPutsCardSaid : Prop := Claim7.holds Tryd.pinned (.plain (OpenSpec.ofChange fnKeyPutsSpec)) fnKeyPutsCard

/-- THE TIED CARD OF 'laws.FnMoveTo'. -/
def fnMoveToCard : Claim7 := { stood := { row := fnMoveToRow, standIns := [], harness := (true, "865fe21563572d7b2d6dc1fd357585ebff65223e9fef3d7e8ea67e7cd26a87a4"), looks := false }, kinds := [], alts := [], laidByText := true, laidKinds := [.wider], laidTests := true, laidLooks := .later }
def FnMoveToCardSaid : Prop := Claim7.holds Tryd.pinned (.plain (OpenSpec.ofChange fnMoveToSpec)) fnMoveToCard

/-- THE SECOND FORM's CARD OF 'laws.FnDeleteForward'. -/
def fnDeleteForwardUptoCard : Claim7 := { stood := { row := fnDeleteForwardUptoRow, standIns := [], harness := (true, "865fe21563572d7b2d6dc1fd357585ebff65223e9fef3d7e8ea67e7cd26a87a4"), looks := false }, kinds := [], alts := [], laidByText := true, laidKinds := [.wider], laidTests := true, laidLooks := .later }
def FnDeleteForwardUptoCardSaid : Prop := Claim7.holds Tryd.pinned (.plain (OpenSpec.upto fnDeleteForwardSpec)) fnDeleteForwardUptoCard

/-- THE SECOND FORM's CARD OF 'laws.FnKeyReset'. -/
def fnKeyResetUptoCard : Claim7 := { stood := { row := fnKeyResetUptoRow, standIns := [], harness := (true, "865fe21563572d7b2d6dc1fd357585ebff65223e9fef3d7e8ea67e7cd26a87a4"), looks := false }, kinds := [], alts := [], laidByText := true, laidKinds := [.wider], laidTests := true, laidLooks := .later }
def FnKeyResetUptoCardSaid : Prop := Claim7.holds Tryd.pinned (.plain (OpenSpec.upto fnKeyResetSpec)) fnKeyResetUptoCard

/-- THE SECOND FORM's CARD OF 'laws.FnKeyed'. -/
def fnKeyedUptoCard : Claim7 := { stood := { row := fnKeyedUptoRow, standIns := [], harness := (true, "865fe21563572d7b2d6dc1fd357585ebff65223e9fef3d7e8ea67e7cd26a87a4"), looks := false }, kinds := [], alts := [], laidByText := true, laidKinds := [.wider], laidTests := true, laidLooks := .later }
def FnKeyedUptoCardSaid : Prop := Claim7.holds Tryd.pinned (.plain (OpenSpec.upto fnKeyedSpec)) fnKeyedUptoCard

/-- THE SECOND FORM's CARD OF 'laws.FnTakenLeft'. -/
def fnTakenLeftUptoCard : Claim7 := { stood := { row := fnTakenLeftUptoRow, standIns := [], harness := (true, "865fe21563572d7b2d6dc1fd357585ebff65223e9fef3d7e8ea67e7cd26a87a4"), looks := false }, kinds := [], alts := [], laidByText := true, laidKinds := [.wider], laidTests := true, laidLooks := .later }
def FnTakenLeftUptoCardSaid : Prop := Claim7.holds Tryd.pinned (.plain (OpenSpec.upto fnTakenLeftSpec)) fnTakenLeftUptoCard

/-- THE SECOND FORM's CARD OF 'laws.FnWriteBack'. -/
def fnWriteBackUptoCard : Claim7 := { stood := { row := fnWriteBackUptoRow, standIns := [], harness := (true, "865fe21563572d7b2d6dc1fd357585ebff65223e9fef3d7e8ea67e7cd26a87a4"), looks := false }, kinds := [], alts := [], laidByText := true, laidKinds := [.wider], laidTests := true, laidLooks := .later }
def FnWriteBackUptoCardSaid : Prop := Claim7.holds Tryd.pinned (.plain (OpenSpec.upto fnWriteBackSpec)) fnWriteBackUptoCard

/-- THE SECOND FORM's CARD OF 'laws.FnWriteParts'. -/
def fnWritePartsUptoCard : Claim7 := { stood := { row := fnWritePartsUptoRow, standIns := [], harness := (true, "865fe21563572d7b2d6dc1fd357585ebff65223e9fef3d7e8ea67e7cd26a87a4"), looks := false }, kinds := [], alts := [], laidByText := true, laidKinds := [.wider], laidTests := true, laidLooks := .later }
def FnWritePartsUptoCardSaid : Prop := Claim7.holds Tryd.pinned (.plain (OpenSpec.upto fnWritePartsSpec)) fnWritePartsUptoCard

/-- THE SECOND FORM's CARD OF 'laws.FnKeyPuts'. -/
def fnKeyPutsUptoCard : Claim7 := { stood := { row := fnKeyPutsUptoRow, standIns := [], harness := (true, "865fe21563572d7b2d6dc1fd357585ebff65223e9fef3d7e8ea67e7cd26a87a4"), looks := false }, kinds := [], alts := [], laidByText := true, laidKinds := [.wider], laidTests := true, laidLooks := .later }
def FnKeyPutsUptoCardSaid : Prop := Claim7.holds Tryd.pinned (.plain (OpenSpec.upto fnKeyPutsSpec)) fnKeyPutsUptoCard

/-- THE SECOND FORM's CARD OF 'laws.FnMoveTo'. -/
def fnMoveToUptoCard : Claim7 := { stood := { row := fnMoveToUptoRow, standIns := [], harness := (true, "865fe21563572d7b2d6dc1fd357585ebff65223e9fef3d7e8ea67e7cd26a87a4"), looks := false }, kinds := [], alts := [], laidByText := true, laidKinds := [.wider], laidTests := true, laidLooks := .later }
def FnMoveToUptoCardSaid : Prop := Claim7.holds Tryd.pinned (.plain (OpenSpec.upto fnMoveToSpec)) fnMoveToUptoCard
end Rows
end Go.Proofs.YtnejdgacabdcdaaDoor
