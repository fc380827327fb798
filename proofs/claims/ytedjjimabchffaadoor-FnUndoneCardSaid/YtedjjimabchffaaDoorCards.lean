/-
  DERIVED. GIVEN WITH THE SEED: THE CARDS: each row of YtedjjimabchffaaDoorRows.lean that lists a variable, with what it lists TIED to the program's text (the seventh form; the later family's looks); each row that meets fmt, with fmt's text TOLD by the authors' own Lean function (tested against real Go, not proved from fmt's source: count such statements apart). THE CARD IS WHAT COUNTS. Prove the row's statement (the work); the ties are given (YtedjjimabchffaaDoorTie.lean); close each card by the builder's one call (the guide's Derived/Test/ToyasCard.lean, 'card_holds'). Laid BY PROGRAM, IN A SANDBOX (cutbox-door.mjs). By AI agents, Wed Nov 11 2026. No macro, syntax, notation, axiom, sorry.
-/
import Derived.Test.YtedjjimabchffaaDoorRows
import GoSem.ClaimSeven
namespace Go.Proofs.YtedjjimabchffaaDoor
namespace Rows

/-- THE TIED CARD OF 'laws.FnCharAt'. -/
def fnCharAtCard : Claim7 := { stood := { row := fnCharAtRow, standIns := [], harness := (true, "c449fdcec500c1397a6521e2dc62a5a07a2905b2a8ff0e80f6a954610280bc9e"), looks := false }, kinds := [], alts := [], laidByText := true, laidKinds := [.data, .pinned], laidTests := true, laidLooks := .later }
def FnCharAtCardSaid : Prop := Claim7.holds Tryd.pinned (.plain (OpenSpec.ofChange fnCharAtSpec)) fnCharAtCard

/-- THE TIED CARD OF 'laws.FnInsertBack'. -/
def fnInsertBackCard : Claim7 := { stood := { row := fnInsertBackRow, standIns := [], harness := (true, "c449fdcec500c1397a6521e2dc62a5a07a2905b2a8ff0e80f6a954610280bc9e"), looks := false }, kinds := [], alts := [], laidByText := true, laidKinds := [.data, .listed, .data, .pinned], laidTests := true, laidLooks := .later }
def FnInsertBackCardSaid : Prop := Claim7.holds Tryd.pinned (.plain (OpenSpec.ofChange fnInsertBackSpec)) fnInsertBackCard

/-- THE TIED CARD OF 'laws.FnKeysOut'. -/
def fnKeysOutCard : Claim7 := { stood := { row := fnKeysOutRow, standIns := [], harness := (true, "c449fdcec500c1397a6521e2dc62a5a07a2905b2a8ff0e80f6a954610280bc9e"), looks := false }, kinds := [], alts := [], laidByText := true, laidKinds := [.data, .listed, .data, .pinned], laidTests := true, laidLooks := .later }
def FnKeysOutCardSaid : Prop := Claim7.holds Tryd.pinned (.plain (OpenSpec.ofChange fnKeysOutSpec)) fnKeysOutCard

/-- THE TIED CARD OF 'laws.FnSwapTwice'. -/
def fnSwapTwiceCard : Claim7 := { stood := { row := fnSwapTwiceRow, standIns := [], harness := (true, "c449fdcec500c1397a6521e2dc62a5a07a2905b2a8ff0e80f6a954610280bc9e"), looks := false }, kinds := [], alts := [], laidByText := true, laidKinds := [.data, .listed, .data, .pinned], laidTests := true, laidLooks := .later }
def FnSwapTwiceCardSaid : Prop := Claim7.holds Tryd.pinned (.plain (OpenSpec.ofChange fnSwapTwiceSpec)) fnSwapTwiceCard

/-- THE TIED CARD OF 'laws.FnThereBack'. -/
def fnThereBackCard : Claim7 := { stood := { row := fnThereBackRow, standIns := [], harness := (true, "c449fdcec500c1397a6521e2dc62a5a07a2905b2a8ff0e80f6a954610280bc9e"), looks := false }, kinds := [], alts := [], laidByText := true, laidKinds := [.data, .listed, .data, .pinned], laidTests := true, laidLooks := .later }
def FnThereBackCardSaid : Prop := Claim7.holds Tryd.pinned (.plain (OpenSpec.ofChange fnThereBackSpec)) fnThereBackCard

/-- THE TIED CARD OF 'laws.FnUndone'. -/
def fnUndoneCard : Claim7 := { stood := { row := fnUndoneRow, standIns := [], harness := (true, "c449fdcec500c1397a6521e2dc62a5a07a2905b2a8ff0e80f6a954610280bc9e"), looks := false }, kinds := [], alts := [], laidByText := true, laidKinds := [.data, .listed, .data, .pinned], laidTests := true, laidLooks := .later }
def FnUndoneCardSaid : Prop := Claim7.holds Tryd.pinned (.plain (OpenSpec.ofChange fnUndoneSpec)) fnUndoneCard

/-- THE SECOND FORM's CARD OF 'laws.FnCharAt'. -/
def fnCharAtUptoCard : Claim7 := { stood := { row := fnCharAtUptoRow, standIns := [], harness := (true, "c449fdcec500c1397a6521e2dc62a5a07a2905b2a8ff0e80f6a954610280bc9e"), looks := false }, kinds := [], alts := [], laidByText := true, laidKinds := [.data, .pinned], laidTests := true, laidLooks := .later }
def FnCharAtUptoCardSaid : Prop := Claim7.holds Tryd.pinned (.plain (OpenSpec.upto fnCharAtSpec)) fnCharAtUptoCard

/-- THE SECOND FORM's CARD OF 'laws.FnInsertBack'. -/
def fnInsertBackUptoCard : Claim7 := { stood := { row := fnInsertBackUptoRow, standIns := [], harness := (true, "c449fdcec500c1397a6521e2dc62a5a07a2905b2a8ff0e80f6a954610280bc9e"), looks := false }, kinds := [], alts := [], laidByText := true, laidKinds := [.data, .listed, .data, .pinned], laidTests := true, laidLooks := .later }
def FnInsertBackUptoCardSaid : Prop := Claim7.holds Tryd.pinned (.plain (OpenSpec.upto fnInsertBackSpec)) fnInsertBackUptoCard

/-- THE SECOND FORM's CARD OF 'laws.FnKeysOut'. -/
def fnKeysOutUptoCard : Claim7 := { stood := { row := fnKeysOutUptoRow, standIns := [], harness := (true, "c449fdcec500c1397a6521e2dc62a5a07a2905b2a8ff0e80f6a954610280bc9e"), looks := false }, kinds := [], alts := [], laidByText := true, laidKinds := [.data, .listed, .data, .pinned], laidTests := true, laidLooks := .later }
def FnKeysOutUptoCardSaid : Prop := Claim7.holds Tryd.pinned (.plain (OpenSpec.upto fnKeysOutSpec)) fnKeysOutUptoCard

/-- THE SECOND FORM's CARD OF 'laws.FnSwapTwice'. -/
def fnSwapTwiceUptoCard : Claim7 := { stood := { row := fnSwapTwiceUptoRow, standIns := [], harness := (true, "c449fdcec500c1397a6521e2dc62a5a07a2905b2a8ff0e80f6a954610280bc9e"), looks := false }, kinds := [], alts := [], laidByText := true, laidKinds := [.data, .listed, .data, .pinned], laidTests := true, laidLooks := .later }
def FnSwapTwiceUptoCardSaid : Prop := Claim7.holds Tryd.pinned (.plain (OpenSpec.upto fnSwapTwiceSpec)) fnSwapTwiceUptoCard

/-- THE SECOND FORM's CARD OF 'laws.FnThereBack'. -/
def fnThereBackUptoCard : Claim7 := { stood := { row := fnThereBackUptoRow, standIns := [], harness := (true, "c449fdcec500c1397a6521e2dc62a5a07a2905b2a8ff0e80f6a954610280bc9e"), looks := false }, kinds := [], alts := [], laidByText := true, laidKinds := [.data, .listed, .data, .pinned], laidTests := true, laidLooks := .later }
def FnThereBackUptoCardSaid : Prop := Claim7.holds Tryd.pinned (.plain (OpenSpec.upto fnThereBackSpec)) fnThereBackUptoCard

/-- THE SECOND FORM's CARD OF 'laws.FnUndone'. -/
def fnUndoneUptoCard : Claim7 := { stood := { row := fnUndoneUptoRow, standIns := [], harness := (true, "c449fdcec500c1397a6521e2dc62a5a07a2905b2a8ff0e80f6a954610280bc9e"), looks := false }, kinds := [], alts := [], laidByText := true, laidKinds := [.data, .listed, .data, .pinned], laidTests := true, laidLooks := .later }
def FnUndoneUptoCardSaid : Prop := Claim7.holds Tryd.pinned (.plain (OpenSpec.upto fnUndoneSpec)) fnUndoneUptoCard
end Rows
end Go.Proofs.YtedjjimabchffaaDoor
