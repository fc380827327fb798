/-
  DERIVED. GIVEN WITH THE SEED: THE CARDS: each row of YtcjpkgomadhnpaaDoorRows.lean that lists a variable, with what it lists TIED to the program's text (the seventh form; the later family's looks); each row that meets fmt, with fmt's text TOLD by the authors' own Lean function (tested against real Go, not proved from fmt's source: count such statements apart). THE CARD IS WHAT COUNTS. Prove the row's statement (the work); the ties are given (YtcjpkgomadhnpaaDoorTie.lean); close each card by the builder's one call (the guide's Derived/Test/ToyasCard.lean, 'card_holds'). Laid BY PROGRAM, IN A SANDBOX (cutbox-door.mjs). By AI agents, Wed Nov 11 2026. No macro, syntax, notation, axiom, sorry.
-/
import Derived.Test.YtcjpkgomadhnpaaDoorRows
import GoSem.ClaimSeven
namespace Go.Proofs.YtcjpkgomadhnpaaDoor
namespace Rows

/-- THE TIED CARD OF 'laws.FnWroteBack'. -/
def fnWroteBackCard : Claim7 := { stood := { row := fnWroteBackRow, standIns := [], harness := (true, "9c8647d279f9774988967f383cdd025abd478c9e873fcbb43643055d911169e4"), looks := false }, kinds := [], alts := [], laidByText := true, laidKinds := [.data, .data, .data], laidTests := true, laidLooks := .later }
def FnWroteBackCardSaid : Prop := Claim7.holds Tryd.pinned (.plain (OpenSpec.ofChange fnWroteBackSpec)) fnWroteBackCard

/-- THE SECOND FORM's CARD OF 'laws.FnWroteBack'. -/
def fnWroteBackUptoCard : Claim7 := { stood := { row := fnWroteBackUptoRow, standIns := [], harness := (true, "9c8647d279f9774988967f383cdd025abd478c9e873fcbb43643055d911169e4"), looks := false }, kinds := [], alts := [], laidByText := true, laidKinds := [.data, .data, .data], laidTests := true, laidLooks := .later }
def FnWroteBackUptoCardSaid : Prop := Claim7.holds Tryd.pinned (.plain (OpenSpec.upto fnWroteBackSpec)) fnWroteBackUptoCard
end Rows
end Go.Proofs.YtcjpkgomadhnpaaDoor
