/-
  DERIVED. GIVEN WITH THE SEED: THE CARDS: each row of YtdneljnldmhfoaaDoorRows.lean that lists a variable, with what it lists TIED to the program's text (the seventh form; the later family's looks); each row that meets fmt, with fmt's text TOLD by the authors' own Lean function (tested against real Go, not proved from fmt's source: count such statements apart). THE CARD IS WHAT COUNTS. Prove the row's statement (the work); the ties are given (YtdneljnldmhfoaaDoorTie.lean); close each card by the builder's one call (the guide's Derived/Test/ToyasCard.lean, 'card_holds'). Laid BY PROGRAM, IN A SANDBOX (cutbox-door.mjs). By AI agents, Wed Nov 11 2026. No macro, syntax, notation, axiom, sorry.
-/
import Derived.Test.YtdneljnldmhfoaaDoorRows
import GoSem.ClaimSeven
namespace Go.Proofs.YtdneljnldmhfoaaDoor
namespace Rows

/-- THE TIED CARD OF 'laws.FnKeyed'. -/
def fnKeyedCard : Claim7 := { stood := { row := fnKeyedRow, standIns := [], harness := (true, "b40c2d9be0928a08847265ba36bee8364b2bed735dafd9286d9aad0dacb57c91"), looks := false }, kinds := [], alts := [], laidByText := true, laidKinds := [.wider], laidTests := true, laidLooks := .later }
def FnKeyedCardSaid : Prop := Claim7.holds Tryd.pinned (.plain (OpenSpec.ofChange fnKeyedSpec)) fnKeyedCard

/-- THE TIED CARD OF 'laws.FnTakenLeft'. -/
def fnTakenLeftCard : Claim7 := { stood := { row := fnTakenLeftRow, standIns := [], harness := (true, "b40c2d9be0928a08847265ba36bee8364b2bed735dafd9286d9aad0dacb57c91"), looks := false }, kinds := [], alts := [], laidByText := true, laidKinds := [.wider], laidTests := true, laidLooks := .later }
def FnTakenLeftCardSaid : Prop := Claim7.holds Tryd.pinned (.plain (OpenSpec.ofChange fnTakenLeftSpec)) fnTakenLeftCard

/-- THE TIED CARD OF 'laws.FnKeyPuts'. -/
def fnKeyPutsCard : Claim7 := { stood := { row := fnKeyPutsRow, standIns := [], harness := (true, "b40c2d9be0928a08847265ba36bee8364b2bed735dafd9286d9aad0dacb57c91"), looks := false }, kinds := [], alts := [], laidByText := true, laidKinds := [.wider], laidTests := true, laidLooks := .later }
def FnKeyPutsCardSaid : Prop := Claim7.holds Tryd.pinned (.plain (OpenSpec.ofChange fnKeyPutsSpec)) fnKeyPutsCard

/-- THE TIED CARD OF 'laws.FnMoveTo'. -/
def fnMoveToCard : Claim7 := { stood := { row := fnMoveToRow, standIns := [], harness := (true, "b40c2d9be0928a08847265ba36bee8364b2bed735dafd9286d9aad0dacb57c91"), looks := false }, kinds := [], alts := [], laidByText := true, laidKinds := [.wider], laidTests := true, laidLooks := .later }
def FnMoveToCardSaid : Prop := Claim7.holds Tryd.pinned (.plain (OpenSpec.ofChange fnMoveToSpec)) fnMoveToCard

/-- THE SECOND FORM's CARD OF 'laws.FnKeyed'. -/
def fnKeyedUptoCard : Claim7 := { stood := { row := fnKeyedUptoRow, standIns := [], harness := (true, "b40c2d9be0928a08847265ba36bee8364b2bed735dafd9286d9aad0dacb57c91"), looks := false }, kinds := [], alts := [], laidByText := true, laidKinds := [.wider], laidTests := true, laidLooks := .later }
def FnKeyedUptoCardSaid : Prop := Claim7.holds Tryd.pinned (.plain (OpenSpec.upto fnKeyedSpec)) fnKeyedUptoCard

/-- THE SECOND FORM's CARD OF 'laws.FnTakenLeft'. -/
def fnTakenLeftUptoCard : Claim7 := { stood := { row := fnTakenLeftUptoRow, standIns := [], harness := (true, "b40c2d9be0928a08847265ba36bee8364b2bed735dafd9286d9aad0dacb57c91"), looks := false }, kinds := [], alts := [], laidByText := true, laidKinds := [.wider], laidTests := true, laidLooks := .later }
def FnTakenLeftUptoCardSaid : Prop := Claim7.holds Tryd.pinned (.plain (OpenSpec.upto fnTakenLeftSpec)) fnTakenLeftUptoCard

/-- THE SECOND FORM's CARD OF 'laws.FnKeyPuts'. -/
def fnKeyPutsUptoCard : Claim7 := { stood := { row := fnKeyPutsUptoRow, standIns := [], harness := (true, "b40c2d9be0928a08847265ba36bee8364b2bed735dafd9286d9aad0dacb57c91"), looks := false }, kinds := [], alts := [], laidByText := true, laidKinds := [.wider], laidTests := true, laidLooks := .later }
def FnKeyPutsUptoCardSaid : Prop := Claim7.holds Tryd.pinned (.plain (OpenSpec.upto fnKeyPutsSpec)) fnKeyPutsUptoCard

/-- THE SECOND FORM's CARD OF 'laws.FnMoveTo'. -/
def fnMoveToUptoCard : Claim7 := { stood := { row := fnMoveToUptoRow, standIns := [], harness := (true, "b40c2d9be0928a08847265ba36bee8364b2bed735dafd9286d9aad0dacb57c91"), looks := false }, kinds := [], alts := [], laidByText := true, laidKinds := [.wider], laidTests := true, laidLooks := .later }
def FnMoveToUptoCardSaid : Prop := Claim7.holds Tryd.pinned (.plain (OpenSpec.upto fnMoveToSpec)) fnMoveToUptoCard
end Rows
end Go.Proofs.YtdneljnldmhfoaaDoor
