/-
  NARROWER THAN 'FOR EVERY INPUT', by the rows' own cells (each row's printed sentence says how): FnDedentedBack: laid · FnIndentedBy: laid · FnIndentedColours: laid · FnIndentedSum: laid · FnPadded: laid · FnPartsCut: laid.
  DERIVED. THE GIVEN ROWS OF THIS SEAT. 6 by the template 'for every input the law returns true; each argument reads behind the call as it read before'; 0 by the template 'total and deterministic' (their statements: YtbibokkclejapaaDoorTotals.lean).
  GIVEN WITH THE SEED: the statements are not yours to turn. If you find one false, say at which input.
  Laid BY PROGRAM, IN A SANDBOX (cutbox-rows.mjs): the forced cells as the released guide's own fill.sh prints them over the translation 697b13d959758399… (all of the seat's roots in one cut). By AI agents, Wed Nov 11 2026. No macro, syntax, notation, axiom, sorry.
-/
import Derived.Test.YtbibokkclejapaaDoorChecked
import GoSem.Claim
import GoSem.ClaimJoined
import GoSem.ClaimMapViews
import Derived.JoinedTies
import Derived.KernelRfl
namespace Go.Proofs.YtbibokkclejapaaDoor
/- THE CELL 'sum', in the pinned program and in every row, IS THE sha256 OF THE DUMP (.gsa) THAT YtbibokkclejapaaDoorProg.lean LOADS. Nothing in Lean hashes anything: it is a label: what it is worth is what the hold of that sum in a sandbox is worth. -/
noncomputable def Tryd.pinned : Pinned := { name := "ytbibokkclejapaadoor", sum := "697b13d95975839998f408d1111fd917969538a23705021365e271176c0a4f6e", checked := Tryd.checked }
namespace Rows
def none {H : Type} : Left H := { results := [], args := [] }

/- WHAT THE LISTED PACKAGE-LEVEL VARIABLES READ AS WHEN THE CALL BEGINS. Each datum BY PROGRAM (the guide's laid-datum.mjs) off the statement by which the dump's own 'gosem.cut.vars' lays the variable. In a bare row this is a premise. The card (YtbibokkclejapaaDoorCards.lean) ties it to the program's text. -/
def laid_io_ErrShortWrite {H : Type} : DataW H := .iface "*errors.errorString" (.ptr (.agg [.lit (.string [115, 104, 111, 114, 116, 32, 119, 114, 105, 116, 101])]))
def laid_bytes_ErrTooLarge {H : Type} : DataW H := .iface "*errors.errorString" (.ptr (.agg [.lit (.string [98, 121, 116, 101, 115, 46, 66, 117, 102, 102, 101, 114, 58, 32, 116, 111, 111, 32, 108, 97, 114, 103, 101])]))

/-- 'laws.FnDedentedBack': WHATEVER THE INPUT: true; the input reads as it did. -/
def fnDedentedBackSpec : ChangeSpec := { name := "fnDedentedBack", fn := fun _ => fun
  | [d1, d2] => { results := [.lit (.bool true)], args := [d1, d2] }
  | _ => none }
def fnDedentedBackRow : OpenClaim := { program := "ytbibokkclejapaadoor", sum := "697b13d95975839998f408d1111fd917969538a23705021365e271176c0a4f6e", func := "given.example/pub-typebar/laws.FnDedentedBack", spec := "fnDedentedBack", inPlace := ["internal/abi.NoEscape", "internal/bytealg.MakeNoZero"], unfollowed := true, recurses := true, named := ["bytes.ErrTooLarge", "io.ErrShortWrite"], apart := false, laid := [("io.ErrShortWrite", laid_io_ErrShortWrite), ("bytes.ErrTooLarge", laid_bytes_ErrTooLarge)] }
def FnDedentedBackSaid : Prop := fnDedentedBackRow.holds Tryd.pinned (OpenSpec.ofChange fnDedentedBackSpec)

/-- ITS FALSE NEIGHBOUR: 'it returns false'. Refute it at one input. -/
def fnDedentedBackWrong : ChangeSpec := { name := "fnDedentedBack", fn := fun _ => fun
  | [d1, d2] => { results := [.lit (.bool false)], args := [d1, d2] }
  | _ => none }
def FnDedentedBackWrongFalsely : Prop := fnDedentedBackRow.holds Tryd.pinned (OpenSpec.ofChange fnDedentedBackWrong)

/-- 'laws.FnIndentedBy': WHATEVER THE INPUT: true; the input reads as it did. -/
def fnIndentedBySpec : ChangeSpec := { name := "fnIndentedBy", fn := fun _ => fun
  | [d1, d2, d3] => { results := [.lit (.bool true)], args := [d1, d2, d3] }
  | _ => none }
def fnIndentedByRow : OpenClaim := { program := "ytbibokkclejapaadoor", sum := "697b13d95975839998f408d1111fd917969538a23705021365e271176c0a4f6e", func := "given.example/pub-typebar/laws.FnIndentedBy", spec := "fnIndentedBy", inPlace := ["internal/abi.NoEscape", "internal/bytealg.MakeNoZero"], unfollowed := true, recurses := true, named := ["bytes.ErrTooLarge", "io.ErrShortWrite"], apart := false, laid := [("io.ErrShortWrite", laid_io_ErrShortWrite), ("bytes.ErrTooLarge", laid_bytes_ErrTooLarge)] }
def FnIndentedBySaid : Prop := fnIndentedByRow.holds Tryd.pinned (OpenSpec.ofChange fnIndentedBySpec)

/-- ITS FALSE NEIGHBOUR: 'it returns false'. Refute it at one input. -/
def fnIndentedByWrong : ChangeSpec := { name := "fnIndentedBy", fn := fun _ => fun
  | [d1, d2, d3] => { results := [.lit (.bool false)], args := [d1, d2, d3] }
  | _ => none }
def FnIndentedByWrongFalsely : Prop := fnIndentedByRow.holds Tryd.pinned (OpenSpec.ofChange fnIndentedByWrong)

/-- 'laws.FnIndentedColours': WHATEVER THE INPUT: true; the input reads as it did. -/
def fnIndentedColoursSpec : ChangeSpec := { name := "fnIndentedColours", fn := fun _ => fun
  | [d1, d2] => { results := [.lit (.bool true)], args := [d1, d2] }
  | _ => none }
def fnIndentedColoursRow : OpenClaim := { program := "ytbibokkclejapaadoor", sum := "697b13d95975839998f408d1111fd917969538a23705021365e271176c0a4f6e", func := "given.example/pub-typebar/laws.FnIndentedColours", spec := "fnIndentedColours", inPlace := ["internal/abi.NoEscape", "internal/bytealg.MakeNoZero"], unfollowed := true, recurses := true, named := ["bytes.ErrTooLarge", "io.ErrShortWrite"], apart := false, laid := [("io.ErrShortWrite", laid_io_ErrShortWrite), ("bytes.ErrTooLarge", laid_bytes_ErrTooLarge)] }
def FnIndentedColoursSaid : Prop := fnIndentedColoursRow.holds Tryd.pinned (OpenSpec.ofChange fnIndentedColoursSpec)

/-- ITS FALSE NEIGHBOUR: 'it returns false'. Refute it at one input. -/
def fnIndentedColoursWrong : ChangeSpec := { name := "fnIndentedColours", fn := fun _ => fun
  | [d1, d2] => { results := [.lit (.bool false)], args := [d1, d2] }
  | _ => none }
def FnIndentedColoursWrongFalsely : Prop := fnIndentedColoursRow.holds Tryd.pinned (OpenSpec.ofChange fnIndentedColoursWrong)

/-- 'laws.FnIndentedSum': WHATEVER THE INPUT: true; the input reads as it did. -/
def fnIndentedSumSpec : ChangeSpec := { name := "fnIndentedSum", fn := fun _ => fun
  | [d1, d2, d3] => { results := [.lit (.bool true)], args := [d1, d2, d3] }
  | _ => none }
def fnIndentedSumRow : OpenClaim := { program := "ytbibokkclejapaadoor", sum := "697b13d95975839998f408d1111fd917969538a23705021365e271176c0a4f6e", func := "given.example/pub-typebar/laws.FnIndentedSum", spec := "fnIndentedSum", inPlace := ["internal/abi.NoEscape", "internal/bytealg.MakeNoZero"], unfollowed := true, recurses := true, named := ["bytes.ErrTooLarge", "io.ErrShortWrite"], apart := false, laid := [("io.ErrShortWrite", laid_io_ErrShortWrite), ("bytes.ErrTooLarge", laid_bytes_ErrTooLarge)] }
def FnIndentedSumSaid : Prop := fnIndentedSumRow.holds Tryd.pinned (OpenSpec.ofChange fnIndentedSumSpec)

/-- ITS FALSE NEIGHBOUR: 'it returns false'. Refute it at one input. -/
def fnIndentedSumWrong : ChangeSpec := { name := "fnIndentedSum", fn := fun _ => fun
  | [d1, d2, d3] => { results := [.lit (.bool false)], args := [d1, d2, d3] }
  | _ => none }
def FnIndentedSumWrongFalsely : Prop := fnIndentedSumRow.holds Tryd.pinned (OpenSpec.ofChange fnIndentedSumWrong)

/-- 'laws.FnPadded': WHATEVER THE INPUT: true; the input reads as it did. -/
def fnPaddedSpec : ChangeSpec := { name := "fnPadded", fn := fun _ => fun
  | [d1, d2] => { results := [.lit (.bool true)], args := [d1, d2] }
  | _ => none }
def fnPaddedRow : OpenClaim := { program := "ytbibokkclejapaadoor", sum := "697b13d95975839998f408d1111fd917969538a23705021365e271176c0a4f6e", func := "given.example/pub-typebar/laws.FnPadded", spec := "fnPadded", inPlace := ["internal/abi.NoEscape", "internal/bytealg.MakeNoZero"], unfollowed := true, recurses := true, named := ["bytes.ErrTooLarge", "io.ErrShortWrite"], apart := false, laid := [("io.ErrShortWrite", laid_io_ErrShortWrite), ("bytes.ErrTooLarge", laid_bytes_ErrTooLarge)] }
def FnPaddedSaid : Prop := fnPaddedRow.holds Tryd.pinned (OpenSpec.ofChange fnPaddedSpec)

/-- ITS FALSE NEIGHBOUR: 'it returns false'. Refute it at one input. -/
def fnPaddedWrong : ChangeSpec := { name := "fnPadded", fn := fun _ => fun
  | [d1, d2] => { results := [.lit (.bool false)], args := [d1, d2] }
  | _ => none }
def FnPaddedWrongFalsely : Prop := fnPaddedRow.holds Tryd.pinned (OpenSpec.ofChange fnPaddedWrong)

/-- 'laws.FnPartsCut': WHATEVER THE INPUT: true; the input reads as it did. -/
def fnPartsCutSpec : ChangeSpec := { name := "fnPartsCut", fn := fun _ => fun
  | [d1, d2, d3, d4] => { results := [.lit (.bool true)], args := [d1, d2, d3, d4] }
  | _ => none }
def fnPartsCutRow : OpenClaim := { program := "ytbibokkclejapaadoor", sum := "697b13d95975839998f408d1111fd917969538a23705021365e271176c0a4f6e", func := "given.example/pub-typebar/laws.FnPartsCut", spec := "fnPartsCut", inPlace := ["internal/abi.NoEscape", "internal/bytealg.MakeNoZero"], unfollowed := true, recurses := true, named := ["bytes.ErrTooLarge", "io.ErrShortWrite"], apart := false, laid := [("io.ErrShortWrite", laid_io_ErrShortWrite), ("bytes.ErrTooLarge", laid_bytes_ErrTooLarge)] }
def FnPartsCutSaid : Prop := fnPartsCutRow.holds Tryd.pinned (OpenSpec.ofChange fnPartsCutSpec)

/-- ITS FALSE NEIGHBOUR: 'it returns false'. Refute it at one input. -/
def fnPartsCutWrong : ChangeSpec := { name := "fnPartsCut", fn := fun _ => fun
  | [d1, d2, d3, d4] => { results := [.lit (.bool false)], args := [d1, d2, d3, d4] }
  | _ => none }
def FnPartsCutWrongFalsely : Prop := fnPartsCutRow.holds Tryd.pinned (OpenSpec.ofChange fnPartsCutWrong)

/- THE SECOND FORM. 'bulk': how many values and letters a reading holds, each counted each time it is reached (what is shared counts as often as it is met; a slice's spare places count too). A statement '..UptoSaid' is the law's where the arguments, and the package variables that the reading takes, are together of bulk at most 1048576: NARROWER than '..Said'. Prove '..Said' where nothing that the law and all that it calls make is longer than what came in: it says more and counts as full. Else prove '..UptoSaid'. A law counts once. -/
mutual
def uptoBulk {H : Type} : DataW H → Nat
  | .lit (.string bytes) => bytes.length + 1
  | .lit _ => 1
  | .nil => 1
  | .ptr d => uptoBulk d + 1
  | .slice elems spare => uptoBulkAll elems + uptoBulkAll spare + 1
  | .agg parts => uptoBulkAll parts + 1
  | .iface _ d => uptoBulk d + 1
  | .map entries => uptoBulkEntries entries + 1
  | .held _ => 1
def uptoBulkAll {H : Type} : List (DataW H) → Nat
  | [] => 0
  | d :: r => uptoBulk d + uptoBulkAll r
def uptoBulkEntries {H : Type} : List (Lit × DataW H) → Nat
  | [] => 0
  | x :: r => uptoBulkEntry x + uptoBulkEntries r
def uptoBulkEntry {H : Type} : Lit × DataW H → Nat
  | (.string bytes, d) => bytes.length + uptoBulk d + 1
  | (_, d) => uptoBulk d + 1
 end
def uptoSmall : (H : Type) → List (DataW H) → Bool := fun _ ds => decide (uptoBulkAll ds ≤ 1048576)
def OpenSpec.upto (s : _root_.Go.ChangeSpec) : _root_.Go.OpenSpec := { _root_.Go.OpenSpec.ofChange s with cond := some uptoSmall }

/-- 'laws.FnDedentedBack', WHERE WHAT IT READS IS OF BULK AT MOST 1048576: true; the input reads as it did. -/
def fnDedentedBackUptoRow : OpenClaim := { program := "ytbibokkclejapaadoor", sum := "697b13d95975839998f408d1111fd917969538a23705021365e271176c0a4f6e", func := "given.example/pub-typebar/laws.FnDedentedBack", spec := "fnDedentedBack", inPlace := ["internal/abi.NoEscape", "internal/bytealg.MakeNoZero"], unfollowed := true, recurses := true, named := ["bytes.ErrTooLarge", "io.ErrShortWrite"], apart := false, laid := [("io.ErrShortWrite", laid_io_ErrShortWrite), ("bytes.ErrTooLarge", laid_bytes_ErrTooLarge)], narrowed := true }
def FnDedentedBackUptoSaid : Prop := fnDedentedBackUptoRow.holds Tryd.pinned (OpenSpec.upto fnDedentedBackSpec)

/-- 'laws.FnIndentedBy', WHERE WHAT IT READS IS OF BULK AT MOST 1048576: true; the input reads as it did. -/
def fnIndentedByUptoRow : OpenClaim := { program := "ytbibokkclejapaadoor", sum := "697b13d95975839998f408d1111fd917969538a23705021365e271176c0a4f6e", func := "given.example/pub-typebar/laws.FnIndentedBy", spec := "fnIndentedBy", inPlace := ["internal/abi.NoEscape", "internal/bytealg.MakeNoZero"], unfollowed := true, recurses := true, named := ["bytes.ErrTooLarge", "io.ErrShortWrite"], apart := false, laid := [("io.ErrShortWrite", laid_io_ErrShortWrite), ("bytes.ErrTooLarge", laid_bytes_ErrTooLarge)], narrowed := true }
def FnIndentedByUptoSaid : Prop := fnIndentedByUptoRow.holds Tryd.pinned (OpenSpec.upto fnIndentedBySpec)

/-- 'laws.FnIndentedColours', WHERE WHAT IT READS IS OF BULK AT MOST 1048576: true; the input reads as it did. -/
def fnIndentedColoursUptoRow : OpenClaim := { program := "ytbibokkclejapaadoor", sum := "697b13d95975839998f408d1111fd917969538a23705021365e271176c0a4f6e", func := "given.example/pub-typebar/laws.FnIndentedColours", spec := "fnIndentedColours", inPlace := ["internal/abi.NoEscape", "internal/bytealg.MakeNoZero"], unfollowed := true, recurses := true, named := ["bytes.ErrTooLarge", "io.ErrShortWrite"], apart := false, laid := [("io.ErrShortWrite", laid_io_ErrShortWrite), ("bytes.ErrTooLarge", laid_bytes_ErrTooLarge)], narrowed := true }
def FnIndentedColoursUptoSaid : Prop := fnIndentedColoursUptoRow.holds Tryd.pinned (OpenSpec.upto fnIndentedColoursSpec)

/-- 'laws.FnIndentedSum', WHERE WHAT IT READS IS OF BULK AT MOST 1048576: true; the input reads as it did. -/
def fnIndentedSumUptoRow : OpenClaim := { program := "ytbibokkclejapaadoor", sum := "697b13d95975839998f408d1111fd917969538a23705021365e271176c0a4f6e", func := "given.example/pub-typebar/laws.FnIndentedSum", spec := "fnIndentedSum", inPlace := ["internal/abi.NoEscape", "internal/bytealg.MakeNoZero"], unfollowed := true, recurses := true, named := ["bytes.ErrTooLarge", "io.ErrShortWrite"], apart := false, laid := [("io.ErrShortWrite", laid_io_ErrShortWrite), ("bytes.ErrTooLarge", laid_bytes_ErrTooLarge)], narrowed := true }
def FnIndentedSumUptoSaid : Prop := fnIndentedSumUptoRow.holds Tryd.pinned (OpenSpec.upto fnIndentedSumSpec)

/-- 'laws.FnPadded', WHERE WHAT IT READS IS OF BULK AT MOST 1048576: true; the input reads as it did. -/
def fnPaddedUptoRow : OpenClaim := { program := "ytbibokkclejapaadoor", sum := "697b13d95975839998f408d1111fd917969538a23705021365e271176c0a4f6e", func := "given.example/pub-typebar/laws.FnPadded", spec := "fnPadded", inPlace := ["internal/abi.NoEscape", "internal/bytealg.MakeNoZero"], unfollowed := true, recurses := true, named := ["bytes.ErrTooLarge", "io.ErrShortWrite"], apart := false, laid := [("io.ErrShortWrite", laid_io_ErrShortWrite), ("bytes.ErrTooLarge", laid_bytes_ErrTooLarge)], narrowed := true }
def FnPaddedUptoSaid : Prop := fnPaddedUptoRow.holds Tryd.pinned (OpenSpec.upto fnPaddedSpec)

/-- 'laws.FnPartsCut', WHERE WHAT IT READS IS OF BULK AT MOST 1048576: true; the input reads as it did. -/
def fnPartsCutUptoRow : OpenClaim := { program := "ytbibokkclejapaadoor", sum := "697b13d95975839998f408d1111fd917969538a23705021365e271176c0a4f6e", func := "given.example/pub-typebar/laws.FnPartsCut", spec := "fnPartsCut", inPlace := ["internal/abi.NoEscape", "internal/bytealg.MakeNoZero"], unfollowed := true, recurses := true, named := ["bytes.ErrTooLarge", "io.ErrShortWrite"], apart := false, laid := [("io.ErrShortWrite", laid_io_ErrShortWrite), ("bytes.ErrTooLarge", laid_bytes_ErrTooLarge)], narrowed := true }
def FnPartsCutUptoSaid : Prop := fnPartsCutUptoRow.holds Tryd.pinned (OpenSpec.upto fnPartsCutSpec)

end Rows
end Go.Proofs.YtbibokkclejapaaDoor
