/-
  DERIVED. GIVEN WITH THE SEED: THE CARDS: each row of YtkjahndemlladaaDoorRows.lean that lists a variable, with what it lists TIED to the program's text (the seventh form; the later family's looks); each row that meets fmt, with fmt's text TOLD by the authors' own Lean function (tested against real Go, not proved from fmt's source: count such statements apart). THE CARD IS WHAT COUNTS. Prove the row's statement (the work); the ties are given (YtkjahndemlladaaDoorTie.lean); close each card by the builder's one call (the guide's Derived/Test/ToyasCard.lean, 'card_holds'). Laid BY PROGRAM, IN A SANDBOX (cutbox-door.mjs). By AI agents, Wed Nov 11 2026. No macro, syntax, notation, axiom, sorry.
-/
import Derived.Test.YtkjahndemlladaaDoorRows
import GoSem.ClaimSeven
namespace Go.Proofs.YtkjahndemlladaaDoor
namespace Rows

/-- THE TIED CARD OF 'laws.FnKey'. -/
def fnKeyCard : Claim7 := { stood := { row := fnKeyRow, standIns := [], harness := (true, "33ddd52fcb023e6b781f140fb6459e5e00536de47823598a757c6b8b3c2f4182"), looks := false }, kinds := [], alts := [], laidByText := true, laidKinds := [.data, .data, .data, .data], laidTests := true, laidLooks := .later }
def FnKeyCardSaid : Prop := Claim7.holds Tryd.pinned (.plain (OpenSpec.ofChange fnKeySpec)) fnKeyCard

/-- THE SECOND FORM's CARD OF 'laws.FnKey'. -/
def fnKeyUptoCard : Claim7 := { stood := { row := fnKeyUptoRow, standIns := [], harness := (true, "33ddd52fcb023e6b781f140fb6459e5e00536de47823598a757c6b8b3c2f4182"), looks := false }, kinds := [], alts := [], laidByText := true, laidKinds := [.data, .data, .data, .data], laidTests := true, laidLooks := .later }
def FnKeyUptoCardSaid : Prop := Claim7.holds Tryd.pinned (.plain (OpenSpec.upto fnKeySpec)) fnKeyUptoCard
end Rows
end Go.Proofs.YtkjahndemlladaaDoor
