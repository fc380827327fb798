/-
  DERIVED. GIVEN WITH THE SEED: THE CARDS: each row of YtoimdbmjpkmkfaaDoorRows.lean that lists a variable, with what it lists TIED to the program's text (the seventh form; the later family's looks); each row that meets fmt, with fmt's text TOLD by the authors' own Lean function (tested against real Go, not proved from fmt's source: count such statements apart). THE CARD IS WHAT COUNTS. Prove the row's statement (the work); the ties are given (YtoimdbmjpkmkfaaDoorTie.lean); close each card by the builder's one call (the guide's Derived/Test/ToyasCard.lean, 'card_holds'). Laid BY PROGRAM, IN A SANDBOX (cutbox-door.mjs). By AI agents, Wed Nov 11 2026. No macro, syntax, notation, axiom, sorry.
-/
import Derived.Test.YtoimdbmjpkmkfaaDoorRows
import GoSem.ClaimSeven
namespace Go.Proofs.YtoimdbmjpkmkfaaDoor
namespace Rows

/-- THE TIED CARD OF 'laws.FnKeyed'. -/
def fnKeyedCard : Claim7 := { stood := { row := fnKeyedRow, standIns := [], harness := (true, "1e237be6488b9a22366f27fbc738a5abe634343ea1fdd30308928bf8363bbe20"), looks := false }, kinds := [], alts := [], laidByText := true, laidKinds := [.wider], laidTests := true, laidLooks := .later }
def FnKeyedCardSaid : Prop := Claim7.holds Tryd.pinned (.plain (OpenSpec.ofChange fnKeyedSpec)) fnKeyedCard

/-- THE SECOND FORM's CARD OF 'laws.FnKeyed'. -/
def fnKeyedUptoCard : Claim7 := { stood := { row := fnKeyedUptoRow, standIns := [], harness := (true, "1e237be6488b9a22366f27fbc738a5abe634343ea1fdd30308928bf8363bbe20"), looks := false }, kinds := [], alts := [], laidByText := true, laidKinds := [.wider], laidTests := true, laidLooks := .later }
def FnKeyedUptoCardSaid : Prop := Claim7.holds Tryd.pinned (.plain (OpenSpec.upto fnKeyedSpec)) fnKeyedUptoCard
end Rows
end Go.Proofs.YtoimdbmjpkmkfaaDoor
