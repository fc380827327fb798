/-
  NARROWER THAN 'FOR EVERY INPUT', by the rows' own cells (each row's printed sentence says how): FnDeleteForward: laid · FnKeyReset: laid · FnKeyed: laid · FnTakenLeft: laid · FnWriteBack: laid · FnWriteParts: laid · FnKeyPuts: laid · FnMoveTo: laid.
  DERIVED. THE GIVEN ROWS OF THIS SEAT. 8 by the template 'for every input the law returns true; each argument reads behind the call as it read before'; 0 by the template 'total and deterministic' (their statements: YtnejdgacabdcdaaDoorTotals.lean).
  GIVEN WITH THE SEED: the statements are not yours to turn. If you find one false, say at which input.
  Laid BY PROGRAM, IN A SANDBOX (cutbox-rows.mjs): the forced cells as the released guide's own fill.sh prints them over the translation 8e8b36121c1edd7a… (all of the seat's roots in one cut). By AI agents, Wed Nov 11 2026. No macro, syntax, notation, axiom, sorry.
-/
import Derived.Test.YtnejdgacabdcdaaDoorChecked
import GoSem.Claim
import GoSem.ClaimJoined
import GoSem.ClaimMapViews
import Derived.JoinedTies
import Derived.KernelRfl
namespace Go.Proofs.YtnejdgacabdcdaaDoor
/- THE CELL 'sum', in the pinned program and in every row, IS THE sha256 OF THE DUMP (.gsa) THAT YtnejdgacabdcdaaDoorProg.lean LOADS. Nothing in Lean hashes anything: it is a label: what it is worth is what the hold of that sum in a sandbox is worth. -/
noncomputable def Tryd.pinned : Pinned := { name := "ytnejdgacabdcdaadoor", sum := "8e8b36121c1edd7a51a3456a43620c37ff1a0272f8076fc755f0d8d546949904", checked := Tryd.checked }
namespace Rows
def none {H : Type} : Left H := { results := [], args := [] }

/- WHAT THE LISTED PACKAGE-LEVEL VARIABLES READ AS WHEN THE CALL BEGINS. Each datum BY PROGRAM (the guide's laid-datum.mjs) off the statement by which the dump's own 'gosem.cut.vars' lays the variable. In a bare row this is a premise. The card (YtnejdgacabdcdaaDoorCards.lean) ties it to the program's text. -/
def laid_given_example_pub_typebar_pub_readline_runes {H : Type} : DataW H := .agg []

/-- 'laws.FnDeleteForward': WHATEVER THE INPUT: true; the input reads as it did. -/
def fnDeleteForwardSpec : ChangeSpec := { name := "fnDeleteForward", vars := ["given.example/pub-typebar/pub/readline.runes"], fn := fun _ => fun
  | [d, g1] => { results := [.lit (.bool true)], args := [d], vars := [g1] }
  | _ => none }
def fnDeleteForwardRow : OpenClaim := { program := "ytnejdgacabdcdaadoor", sum := "8e8b36121c1edd7a51a3456a43620c37ff1a0272f8076fc755f0d8d546949904", func := "given.example/pub-typebar/laws.FnDeleteForward", spec := "fnDeleteForward", unfollowed := true, recurses := true, named := ["given.example/pub-typebar/pub/readline.runes"], apart := false, laid := [("given.example/pub-typebar/pub/readline.runes", laid_given_example_pub_typebar_pub_readline_runes)] }
def FnDeleteForwardSaid : Prop := fnDeleteForwardRow.holds Tryd.pinned (OpenSpec.ofChange fnDeleteForwardSpec)

/-- ITS FALSE NEIGHBOUR: 'it returns false'. Refute it at one input. -/
def fnDeleteForwardWrong : ChangeSpec := { name := "fnDeleteForward", vars := ["given.example/pub-typebar/pub/readline.runes"], fn := fun _ => fun
  | [d, g1] => { results := [.lit (.bool false)], args := [d], vars := [g1] }
  | _ => none }
def FnDeleteForwardWrongFalsely : Prop := fnDeleteForwardRow.holds Tryd.pinned (OpenSpec.ofChange fnDeleteForwardWrong)

/-- 'laws.FnKeyReset': WHATEVER THE INPUT: true; the input reads as it did. -/
def fnKeyResetSpec : ChangeSpec := { name := "fnKeyReset", vars := ["given.example/pub-typebar/pub/readline.runes"], fn := fun _ => fun
  | [d, g1] => { results := [.lit (.bool true)], args := [d], vars := [g1] }
  | _ => none }
def fnKeyResetRow : OpenClaim := { program := "ytnejdgacabdcdaadoor", sum := "8e8b36121c1edd7a51a3456a43620c37ff1a0272f8076fc755f0d8d546949904", func := "given.example/pub-typebar/laws.FnKeyReset", spec := "fnKeyReset", unfollowed := true, recurses := true, named := ["given.example/pub-typebar/pub/readline.runes"], apart := false, laid := [("given.example/pub-typebar/pub/readline.runes", laid_given_example_pub_typebar_pub_readline_runes)] }
def FnKeyResetSaid : Prop := fnKeyResetRow.holds Tryd.pinned (OpenSpec.ofChange fnKeyResetSpec)

/-- ITS FALSE NEIGHBOUR: 'it returns false'. Refute it at one input. -/
def fnKeyResetWrong : ChangeSpec := { name := "fnKeyReset", vars := ["given.example/pub-typebar/pub/readline.runes"], fn := fun _ => fun
  | [d, g1] => { results := [.lit (.bool false)], args := [d], vars := [g1] }
  | _ => none }
def FnKeyResetWrongFalsely : Prop := fnKeyResetRow.holds Tryd.pinned (OpenSpec.ofChange fnKeyResetWrong)

/-- 'laws.FnKeyed': WHATEVER THE INPUT: true; the input reads as it did. -/
def fnKeyedSpec : ChangeSpec := { name := "fnKeyed", vars := ["given.example/pub-typebar/pub/readline.runes"], fn := fun _ => fun
  | [d, g1] => { results := [.lit (.bool true)], args := [d], vars := [g1] }
  | _ => none }
def fnKeyedRow : OpenClaim := { program := "ytnejdgacabdcdaadoor", sum := "8e8b36121c1edd7a51a3456a43620c37ff1a0272f8076fc755f0d8d546949904", func := "given.example/pub-typebar/laws.FnKeyed", spec := "fnKeyed", unfollowed := true, recurses := true, named := ["given.example/pub-typebar/pub/readline.runes"], apart := false, laid := [("given.example/pub-typebar/pub/readline.runes", laid_given_example_pub_typebar_pub_readline_runes)] }
def FnKeyedSaid : Prop := fnKeyedRow.holds Tryd.pinned (OpenSpec.ofChange fnKeyedSpec)

/-- ITS FALSE NEIGHBOUR: 'it returns false'. Refute it at one input. -/
def fnKeyedWrong : ChangeSpec := { name := "fnKeyed", vars := ["given.example/pub-typebar/pub/readline.runes"], fn := fun _ => fun
  | [d, g1] => { results := [.lit (.bool false)], args := [d], vars := [g1] }
  | _ => none }
def FnKeyedWrongFalsely : Prop := fnKeyedRow.holds Tryd.pinned (OpenSpec.ofChange fnKeyedWrong)

/-- 'laws.FnTakenLeft': WHATEVER THE INPUT: true; the input reads as it did. -/
def fnTakenLeftSpec : ChangeSpec := { name := "fnTakenLeft", vars := ["given.example/pub-typebar/pub/readline.runes"], fn := fun _ => fun
  | [d1, d2, g1] => { results := [.lit (.bool true)], args := [d1, d2], vars := [g1] }
  | _ => none }
def fnTakenLeftRow : OpenClaim := { program := "ytnejdgacabdcdaadoor", sum := "8e8b36121c1edd7a51a3456a43620c37ff1a0272f8076fc755f0d8d546949904", func := "given.example/pub-typebar/laws.FnTakenLeft", spec := "fnTakenLeft", unfollowed := true, recurses := true, named := ["given.example/pub-typebar/pub/readline.runes"], apart := false, laid := [("given.example/pub-typebar/pub/readline.runes", laid_given_example_pub_typebar_pub_readline_runes)] }
def FnTakenLeftSaid : Prop := fnTakenLeftRow.holds Tryd.pinned (OpenSpec.ofChange fnTakenLeftSpec)

/-- ITS FALSE NEIGHBOUR: 'it returns false'. Refute it at one input. -/
def fnTakenLeftWrong : ChangeSpec := { name := "fnTakenLeft", vars := ["given.example/pub-typebar/pub/readline.runes"], fn := fun _ => fun
  | [d1, d2, g1] => { results := [.lit (.bool false)], args := [d1, d2], vars := [g1] }
  | _ => none }
def FnTakenLeftWrongFalsely : Prop := fnTakenLeftRow.holds Tryd.pinned (OpenSpec.ofChange fnTakenLeftWrong)

/-- 'laws.FnWriteBack': WHATEVER THE INPUT: true; the input reads as it did. -/
def fnWriteBackSpec : ChangeSpec := { name := "fnWriteBack", vars := ["given.example/pub-typebar/pub/readline.runes"], fn := fun _ => fun
  | [d1, d2, g1] => { results := [.lit (.bool true)], args := [d1, d2], vars := [g1] }
  | _ => none }
def fnWriteBackRow : OpenClaim := { program := "ytnejdgacabdcdaadoor", sum := "8e8b36121c1edd7a51a3456a43620c37ff1a0272f8076fc755f0d8d546949904", func := "given.example/pub-typebar/laws.FnWriteBack", spec := "fnWriteBack", unfollowed := true, recurses := true, named := ["given.example/pub-typebar/pub/readline.runes"], apart := false, laid := [("given.example/pub-typebar/pub/readline.runes", laid_given_example_pub_typebar_pub_readline_runes)] }
def FnWriteBackSaid : Prop := fnWriteBackRow.holds Tryd.pinned (OpenSpec.ofChange fnWriteBackSpec)

/-- ITS FALSE NEIGHBOUR: 'it returns false'. Refute it at one input. -/
def fnWriteBackWrong : ChangeSpec := { name := "fnWriteBack", vars := ["given.example/pub-typebar/pub/readline.runes"], fn := fun _ => fun
  | [d1, d2, g1] => { results := [.lit (.bool false)], args := [d1, d2], vars := [g1] }
  | _ => none }
def FnWriteBackWrongFalsely : Prop := fnWriteBackRow.holds Tryd.pinned (OpenSpec.ofChange fnWriteBackWrong)

/-- 'laws.FnWriteParts': WHATEVER THE INPUT: true; the input reads as it did. -/
def fnWritePartsSpec : ChangeSpec := { name := "fnWriteParts", vars := ["given.example/pub-typebar/pub/readline.runes"], fn := fun _ => fun
  | [d1, d2, d3, g1] => { results := [.lit (.bool true)], args := [d1, d2, d3], vars := [g1] }
  | _ => none }
def fnWritePartsRow : OpenClaim := { program := "ytnejdgacabdcdaadoor", sum := "8e8b36121c1edd7a51a3456a43620c37ff1a0272f8076fc755f0d8d546949904", func := "given.example/pub-typebar/laws.FnWriteParts", spec := "fnWriteParts", unfollowed := true, recurses := true, named := ["given.example/pub-typebar/pub/readline.runes"], apart := false, laid := [("given.example/pub-typebar/pub/readline.runes", laid_given_example_pub_typebar_pub_readline_runes)] }
def FnWritePartsSaid : Prop := fnWritePartsRow.holds Tryd.pinned (OpenSpec.ofChange fnWritePartsSpec)

/-- ITS FALSE NEIGHBOUR: 'it returns false'. Refute it at one input. -/
def fnWritePartsWrong : ChangeSpec := { name := "fnWriteParts", vars := ["given.example/pub-typebar/pub/readline.runes"], fn := fun _ => fun
  | [d1, d2, d3, g1] => { results := [.lit (.bool false)], args := [d1, d2, d3], vars := [g1] }
  | _ => none }
def FnWritePartsWrongFalsely : Prop := fnWritePartsRow.holds Tryd.pinned (OpenSpec.ofChange fnWritePartsWrong)

/-- 'laws.FnKeyPuts': WHATEVER THE INPUT: true; the input reads as it did. -/
def fnKeyPutsSpec : ChangeSpec := { name := "fnKeyPuts", vars := ["given.example/pub-typebar/pub/readline.runes"], fn := fun _ => fun
  | [d1, d2, d3, g1] => { results := [.lit (.bool true)], args := [d1, d2, d3], vars := [g1] }
  | _ => none }
def fnKeyPutsRow : OpenClaim := { program := "ytnejdgacabdcdaadoor", sum := "8e8b36121c1edd7a51a3456a43620c37ff1a0272f8076fc755f0d8d546949904", func := "given.example/pub-typebar/laws.FnKeyPuts", spec := "fnKeyPuts", unfollowed := true, recurses := true, named := ["given.example/pub-typebar/pub/readline.runes"], apart := false, laid := [("given.example/pub-typebar/pub/readline.runes", laid_given_example_pub_typebar_pub_readline_runes)] }
def FnKeyPutsSaid : Prop := fnKeyPutsRow.holds Tryd.pinned (OpenSpec.ofChange fnKeyPutsSpec)

/-- ITS FALSE NEIGHBOUR: 'it returns false'. Refute it at one input. -/
def fnKeyPutsWrong : ChangeSpec := { name := "fnKeyPuts", vars := ["given.example/pub-typebar/pub/readline.runes"], fn := fun _ => fun
  | [d1, d2, d3, g1] => { results := [.lit (.bool false)], args := [d1, d2, d3], vars := [g1] }
  | _ => none }
def FnKeyPutsWrongFalsely : Prop := fnKeyPutsRow.holds Tryd.pinned (OpenSpec.ofChange fnKeyPutsWrong)

/-- 'laws.FnMoveTo': WHATEVER THE INPUT: true; the input reads as it did. -/
def fnMoveToSpec : ChangeSpec := { name := "fnMoveTo", vars := ["given.example/pub-typebar/pub/readline.runes"], fn := fun _ => fun
  | [d1, d2, d3, d4, g1] => { results := [.lit (.bool true)], args := [d1, d2, d3, d4], vars := [g1] }
  | _ => none }
def fnMoveToRow : OpenClaim := { program := "ytnejdgacabdcdaadoor", sum := "8e8b36121c1edd7a51a3456a43620c37ff1a0272f8076fc755f0d8d546949904", func := "given.example/pub-typebar/laws.FnMoveTo", spec := "fnMoveTo", unfollowed := true, recurses := true, named := ["given.example/pub-typebar/pub/readline.runes"], apart := false, laid := [("given.example/pub-typebar/pub/readline.runes", laid_given_example_pub_typebar_pub_readline_runes)] }
def FnMoveToSaid : Prop := fnMoveToRow.holds Tryd.pinned (OpenSpec.ofChange fnMoveToSpec)

/-- ITS FALSE NEIGHBOUR: 'it returns false'. Refute it at one input. -/
def fnMoveToWrong : ChangeSpec := { name := "fnMoveTo", vars := ["given.example/pub-typebar/pub/readline.runes"], fn := fun _ => fun
  | [d1, d2, d3, d4, g1] => { results := [.lit (.bool false)], args := [d1, d2, d3, d4], vars := [g1] }
  | _ => none }
def FnMoveToWrongFalsely : Prop := fnMoveToRow.holds Tryd.pinned (OpenSpec.ofChange fnMoveToWrong)

/- THE SECOND FORM. 'bulk': how many values and letters a reading holds, each counted each time it is reached (what is shared counts as often as it is met; a slice's spare places count too). A statement '..UptoSaid' is the law's where the arguments, and the package variables that the reading takes, are together of bulk at most 1048576: NARROWER than '..Said'. Prove '..Said' where nothing that the law and all that it calls make is longer than what came in: it says more and counts as full. Else prove '..UptoSaid'. A law counts once. -/
mutual
def uptoBulk {H : Type} : DataW H → Nat
  | .lit (.string bytes) => bytes.length + 1
  | .lit _ => 1
  | .nil => 1
  | .ptr d => uptoBulk d + 1
  | .slice elems spare => uptoBulkAll elems + uptoBulkAll spare + 1
  | .agg parts => uptoBulkAll parts + 1
  | .iface _ d => uptoBulk d + 1
  | .map entries => uptoBulkEntries entries + 1
  | .held _ => 1
def uptoBulkAll {H : Type} : List (DataW H) → Nat
  | [] => 0
  | d :: r => uptoBulk d + uptoBulkAll r
def uptoBulkEntries {H : Type} : List (Lit × DataW H) → Nat
  | [] => 0
  | x :: r => uptoBulkEntry x + uptoBulkEntries r
def uptoBulkEntry {H : Type} : Lit × DataW H → Nat
  | (.string bytes, d) => bytes.length + uptoBulk d + 1
  | (_, d) => uptoBulk d + 1
 end
def uptoSmall : (H : Type) → List (DataW H) → Bool := fun _ ds => decide (uptoBulkAll ds ≤ 1048576)
def OpenSpec.upto (s : _root_.Go.ChangeSpec) : _root_.Go.OpenSpec := { _root_.Go.OpenSpec.ofChange s with cond := some uptoSmall }

/-- 'laws.FnDeleteForward', WHERE WHAT IT READS IS OF BULK AT MOST 1048576: true; the input reads as it did. -/
def fnDeleteForwardUptoRow : OpenClaim := { program := "ytnejdgacabdcdaadoor", sum := "8e8b36121c1edd7a51a3456a43620c37ff1a0272f8076fc755f0d8d546949904", func := "given.example/pub-typebar/laws.FnDeleteForward", spec := "fnDeleteForward", unfollowed := true, recurses := true, named := ["given.example/pub-typebar/pub/readline.runes"], apart := false, laid := [("given.example/pub-typebar/pub/readline.runes", laid_given_example_pub_typebar_pub_readline_runes)], narrowed := true }
def FnDeleteForwardUptoSaid : Prop := fnDeleteForwardUptoRow.holds Tryd.pinned (OpenSpec.upto fnDeleteForwardSpec)

/-- 'laws.FnKeyReset', WHERE WHAT IT READS IS OF BULK AT MOST 1048576: true; the input reads as it did. -/
def fnKeyResetUptoRow : OpenClaim := { program := "ytnejdgacabdcdaadoor", sum := "8e8b36121c1edd7a51a3456a43620c37ff1a0272f8076fc755f0d8d546949904", func := "given.example/pub-typebar/laws.FnKeyReset", spec := "fnKeyReset", unfollowed := true, recurses := true, named := ["given.example/pub-typebar/pub/readline.runes"], apart := false, laid := [("given.example/pub-typebar/pub/readline.runes", laid_given_example_pub_typebar_pub_readline_runes)], narrowed := true }
def FnKeyResetUptoSaid : Prop := fnKeyResetUptoRow.holds Tryd.pinned (OpenSpec.upto fnKeyResetSpec)

/-- 'laws.FnKeyed', WHERE WHAT IT READS IS OF BULK AT MOST 1048576: true; the input reads as it did. -/
def fnKeyedUptoRow : OpenClaim := { program := "ytnejdgacabdcdaadoor", sum := "8e8b36121c1edd7a51a3456a43620c37ff1a0272f8076fc755f0d8d546949904", func := "given.example/pub-typebar/laws.FnKeyed", spec := "fnKeyed", unfollowed := true, recurses := true, named := ["given.example/pub-typebar/pub/readline.runes"], apart := false, laid := [("given.example/pub-typebar/pub/readline.runes", laid_given_example_pub_typebar_pub_readline_runes)], narrowed := true }
def FnKeyedUptoSaid : Prop := fnKeyedUptoRow.holds Tryd.pinned (OpenSpec.upto fnKeyedSpec)

/-- 'laws.FnTakenLeft', WHERE WHAT IT READS IS OF BULK AT MOST 1048576: true; the input reads as it did. -/
def fnTakenLeftUptoRow : OpenClaim := { program := "ytnejdgacabdcdaadoor", sum := "8e8b36121c1edd7a51a3456a43620c37ff1a0272f8076fc755f0d8d546949904", func := "given.example/pub-typebar/laws.FnTakenLeft", spec := "fnTakenLeft", unfollowed := true, recurses := true, named := ["given.example/pub-typebar/pub/readline.runes"], apart := false, laid := [("given.example/pub-typebar/pub/readline.runes", laid_given_example_pub_typebar_pub_readline_runes)], narrowed := true }
def FnTakenLeftUptoSaid : Prop := fnTakenLeftUptoRow.holds Tryd.pinned (OpenSpec.upto fnTakenLeftSpec)

/-- 'laws.FnWriteBack', WHERE WHAT IT READS IS OF BULK AT MOST 1048576: true; the input reads as it did. -/
def fnWriteBackUptoRow : OpenClaim := { program := "ytnejdgacabdcdaadoor", sum := "8e8b36121c1edd7a51a3456a43620c37ff1a0272f8076fc755f0d8d546949904", func := "given.example/pub-typebar/laws.FnWriteBack", spec := "fnWriteBack", unfollowed := true, recurses := true, named := ["given.example/pub-typebar/pub/readline.runes"], apart := false, laid := [("given.example/pub-typebar/pub/readline.runes", laid_given_example_pub_typebar_pub_readline_runes)], narrowed := true }
def FnWriteBackUptoSaid : Prop := fnWriteBackUptoRow.holds Tryd.pinned (OpenSpec.upto fnWriteBackSpec)

/-- 'laws.FnWriteParts', WHERE WHAT IT READS IS OF BULK AT MOST 1048576: true; the input reads as it did. -/
def fnWritePartsUptoRow : OpenClaim := { program := "ytnejdgacabdcdaadoor", sum := "8e8b36121c1edd7a51a3456a43620c37ff1a0272f8076fc755f0d8d546949904", func := "given.example/pub-typebar/laws.FnWriteParts", spec := "fnWriteParts", unfollowed := true, recurses := true, named := ["given.example/pub-typebar/pub/readline.runes"], apart := false, laid := [("given.example/pub-typebar/pub/readline.runes", laid_given_example_pub_typebar_pub_readline_runes)], narrowed := true }
def FnWritePartsUptoSaid : Prop := fnWritePartsUptoRow.holds Tryd.pinned (OpenSpec.upto fnWritePartsSpec)

/-- 'laws.FnKeyPuts', WHERE WHAT IT READS IS OF BULK AT MOST 1048576: true; the input reads as it did. -/
def fnKeyPutsUptoRow : OpenClaim := { program := "ytnejdgacabdcdaadoor", sum := "8e8b36121c1edd7a51a3456a43620c37ff1a0272f8076fc755f0d8d546949904", func := "given.example/pub-typebar/laws.FnKeyPuts", spec := "fnKeyPuts", unfollowed := true, recurses := true, named := ["given.example/pub-typebar/pub/readline.runes"], apart := false, laid := [("given.example/pub-typebar/pub/readline.runes", laid_given_example_pub_typebar_pub_readline_runes)], narrowed := true }
def FnKeyPutsUptoSaid : Prop := fnKeyPutsUptoRow.holds Tryd.pinned (OpenSpec.upto fnKeyPutsSpec)

/-- 'laws.FnMoveTo', WHERE WHAT IT READS IS OF BULK AT MOST 1048576: true; the input reads as it did. -/
def fnMoveToUptoRow : OpenClaim := { program := "ytnejdgacabdcdaadoor", sum := "8e8b36121c1edd7a51a3456a43620c37ff1a0272f8076fc755f0d8d546949904", func := "given.example/pub-typebar/laws.FnMoveTo", spec := "fnMoveTo", unfollowed := true, recurses := true, named := ["given.example/pub-typebar/pub/readline.runes"], apart := false, laid := [("given.example/pub-typebar/pub/readline.runes", laid_given_example_pub_typebar_pub_readline_runes)], narrowed := true }
def FnMoveToUptoSaid : Prop := fnMoveToUptoRow.holds Tryd.pinned (OpenSpec.upto fnMoveToSpec)

end Rows
end Go.Proofs.YtnejdgacabdcdaaDoor
