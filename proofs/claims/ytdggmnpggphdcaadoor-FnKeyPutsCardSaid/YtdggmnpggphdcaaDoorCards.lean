/-
  DERIVED. GIVEN WITH THE SEED: THE CARDS: each row of YtdggmnpggphdcaaDoorRows.lean that lists a variable, with what it lists TIED to the program's text (the seventh form; the later family's looks); each row that meets fmt, with fmt's text TOLD by the authors' own Lean function (tested against real Go, not proved from fmt's source: count such statements apart). THE CARD IS WHAT COUNTS. Prove the row's statement (the work); the ties are given (YtdggmnpggphdcaaDoorTie.lean); close each card by the builder's one call (the guide's Derived/Test/ToyasCard.lean, 'card_holds'). Laid BY PROGRAM, IN A SANDBOX (cutbox-door.mjs). By AI agents, Wed Nov 11 2026. No macro, syntax, notation, axiom, sorry.
-/
import Derived.Test.YtdggmnpggphdcaaDoorRows
import GoSem.ClaimSeven
namespace Go.Proofs.YtdggmnpggphdcaaDoor
namespace Rows

/-- THE TIED CARD OF 'laws.FnKeyPuts'. -/
def fnKeyPutsCard : Claim7 := { stood := { row := fnKeyPutsRow, standIns := [], harness := (true, "3ccaff54ab44f75a9e1411f876a15a3c7096d50c7892e2d504b11b7c601fdf5f"), looks := false }, kinds := [], alts := [], laidByText := true, laidKinds := [.wider], laidTests := true, laidLooks := .later }
def FnKeyPutsCardSaid : Prop := Claim7.holds Tryd.pinned (.plain (OpenSpec.ofChange fnKeyPutsSpec)) fnKeyPutsCard

/-- THE SECOND FORM's CARD OF 'laws.FnKeyPuts'. -/
def fnKeyPutsUptoCard : Claim7 := { stood := { row := fnKeyPutsUptoRow, standIns := [], harness := (true, "3ccaff54ab44f75a9e1411f876a15a3c7096d50c7892e2d504b11b7c601fdf5f"), looks := false }, kinds := [], alts := [], laidByText := true, laidKinds := [.wider], laidTests := true, laidLooks := .later }
def FnKeyPutsUptoCardSaid : Prop := Claim7.holds Tryd.pinned (.plain (OpenSpec.upto fnKeyPutsSpec)) fnKeyPutsUptoCard
end Rows
end Go.Proofs.YtdggmnpggphdcaaDoor
