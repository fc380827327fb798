/-
  DERIVED. GIVEN WITH THE SEED: THE CARDS: each row of YtldlgipailfbnaaDoorRows.lean that lists a variable, with what it lists TIED to the program's text (the seventh form; the later family's looks); each row that meets fmt, with fmt's text TOLD by the authors' own Lean function (tested against real Go, not proved from fmt's source: count such statements apart). THE CARD IS WHAT COUNTS. Prove the row's statement (the work); the ties are given (YtldlgipailfbnaaDoorTie.lean); close each card by the builder's one call (the guide's Derived/Test/ToyasCard.lean, 'card_holds'). Laid BY PROGRAM, IN A SANDBOX (cutbox-door.mjs). By AI agents, Wed Nov 11 2026. No macro, syntax, notation, axiom, sorry.
-/
import Derived.Test.YtldlgipailfbnaaDoorRows
import GoSem.ClaimSeven
namespace Go.Proofs.YtldlgipailfbnaaDoor
namespace Rows

/-- THE TIED CARD OF 'laws.FnFilterKinds'. -/
def fnFilterKindsCard : Claim7 := { stood := { row := fnFilterKindsRow, standIns := [], harness := (true, "f4039f97819f059584eafd4793b44b0b7ba8cba291072d903abd50dc1966bff9"), looks := false }, kinds := [], alts := [], laidByText := true, laidKinds := [.data, .pinned, .pinned], laidTests := true, laidLooks := .later }
def FnFilterKindsCardSaid : Prop := Claim7.holds Tryd.pinned (.plain (OpenSpec.ofChange fnFilterKindsSpec)) fnFilterKindsCard

/-- THE TIED CARD OF 'laws.FnFilterParts'. -/
def fnFilterPartsCard : Claim7 := { stood := { row := fnFilterPartsRow, standIns := [], harness := (true, "f4039f97819f059584eafd4793b44b0b7ba8cba291072d903abd50dc1966bff9"), looks := false }, kinds := [], alts := [], laidByText := true, laidKinds := [.data, .pinned, .pinned], laidTests := true, laidLooks := .later }
def FnFilterPartsCardSaid : Prop := Claim7.holds Tryd.pinned (.plain (OpenSpec.ofChange fnFilterPartsSpec)) fnFilterPartsCard

/-- THE SECOND FORM's CARD OF 'laws.FnFilterKinds'. -/
def fnFilterKindsUptoCard : Claim7 := { stood := { row := fnFilterKindsUptoRow, standIns := [], harness := (true, "f4039f97819f059584eafd4793b44b0b7ba8cba291072d903abd50dc1966bff9"), looks := false }, kinds := [], alts := [], laidByText := true, laidKinds := [.data, .pinned, .pinned], laidTests := true, laidLooks := .later }
def FnFilterKindsUptoCardSaid : Prop := Claim7.holds Tryd.pinned (.plain (OpenSpec.upto fnFilterKindsSpec)) fnFilterKindsUptoCard

/-- THE SECOND FORM's CARD OF 'laws.FnFilterParts'. -/
def fnFilterPartsUptoCard : Claim7 := { stood := { row := fnFilterPartsUptoRow, standIns := [], harness := (true, "f4039f97819f059584eafd4793b44b0b7ba8cba291072d903abd50dc1966bff9"), looks := false }, kinds := [], alts := [], laidByText := true, laidKinds := [.data, .pinned, .pinned], laidTests := true, laidLooks := .later }
def FnFilterPartsUptoCardSaid : Prop := Claim7.holds Tryd.pinned (.plain (OpenSpec.upto fnFilterPartsSpec)) fnFilterPartsUptoCard
end Rows
end Go.Proofs.YtldlgipailfbnaaDoor
