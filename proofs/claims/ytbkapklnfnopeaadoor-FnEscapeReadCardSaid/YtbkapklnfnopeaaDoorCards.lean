/-
  DERIVED. GIVEN WITH THE SEED: THE CARDS: each row of YtbkapklnfnopeaaDoorRows.lean that lists a variable, with what it lists TIED to the program's text (the seventh form; the later family's looks); each row that meets fmt, with fmt's text TOLD by the authors' own Lean function (tested against real Go, not proved from fmt's source: count such statements apart). THE CARD IS WHAT COUNTS. Prove the row's statement (the work); the ties are given (YtbkapklnfnopeaaDoorTie.lean); close each card by the builder's one call (the guide's Derived/Test/ToyasCard.lean, 'card_holds'). Laid BY PROGRAM, IN A SANDBOX (cutbox-door.mjs). By AI agents, Wed Nov 11 2026. No macro, syntax, notation, axiom, sorry.
-/
import Derived.Test.YtbkapklnfnopeaaDoorRows
import GoSem.ClaimSeven
namespace Go.Proofs.YtbkapklnfnopeaaDoor
namespace Rows

/-- THE TIED CARD OF 'laws.FnEscapeRead'. -/
def fnEscapeReadCard : Claim7 := { stood := { row := fnEscapeReadRow, standIns := [], harness := (true, "739cd8273aab558ce3e205722aec5e6028f7800df04c5473f05a67af45418598"), looks := false }, kinds := [], alts := [], laidByText := true, laidKinds := [.data, .sentinel, .pinned], laidTests := true, laidLooks := .later }
def FnEscapeReadCardSaid : Prop := Claim7.holds Tryd.pinned (.plain (OpenSpec.ofChange fnEscapeReadSpec)) fnEscapeReadCard

/-- THE SECOND FORM's CARD OF 'laws.FnEscapeRead'. -/
def fnEscapeReadUptoCard : Claim7 := { stood := { row := fnEscapeReadUptoRow, standIns := [], harness := (true, "739cd8273aab558ce3e205722aec5e6028f7800df04c5473f05a67af45418598"), looks := false }, kinds := [], alts := [], laidByText := true, laidKinds := [.data, .sentinel, .pinned], laidTests := true, laidLooks := .later }
def FnEscapeReadUptoCardSaid : Prop := Claim7.holds Tryd.pinned (.plain (OpenSpec.upto fnEscapeReadSpec)) fnEscapeReadUptoCard
end Rows
end Go.Proofs.YtbkapklnfnopeaaDoor
