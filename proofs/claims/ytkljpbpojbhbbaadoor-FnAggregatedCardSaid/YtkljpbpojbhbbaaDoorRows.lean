/-
  NARROWER THAN 'FOR EVERY INPUT', by the rows' own cells (each row's printed sentence says how): FnColourlessParts: laid · FnAggregated: laid · FnEscapeRead: laid · FnSwept: laid · FnPastFound: laid · FnTreeOf: laid · FnCompleted: laid · FnOffersCommon: laid.
  DERIVED. THE GIVEN ROWS OF THIS SEAT. 8 by the template 'for every input the law returns true; each argument reads behind the call as it read before'; 0 by the template 'total and deterministic' (their statements: YtkljpbpojbhbbaaDoorTotals.lean).
  GIVEN WITH THE SEED: the statements are not yours to turn. If you find one false, say at which input.
  Laid BY PROGRAM, IN A SANDBOX (cutbox-rows.mjs): the forced cells as the released guide's own fill.sh prints them over the translation da3384f1c332326e… (all of the seat's roots in one cut). By AI agents, Wed Nov 11 2026. No macro, syntax, notation, axiom, sorry.
-/
import Derived.Test.YtkljpbpojbhbbaaDoorChecked
import GoSem.PinnedTables
import GoSem.Claim
import GoSem.ClaimJoined
import GoSem.ClaimMapViews
import Derived.JoinedTies
import Derived.KernelRfl
namespace Go.Proofs.YtkljpbpojbhbbaaDoor
/- THE CELL 'sum', in the pinned program and in every row, IS THE sha256 OF THE DUMP (.gsa) THAT YtkljpbpojbhbbaaDoorProg.lean LOADS. Nothing in Lean hashes anything: it is a label: what it is worth is what the hold of that sum in a sandbox is worth. -/
noncomputable def Tryd.pinned : Pinned := { name := "ytkljpbpojbhbbaadoor", sum := "da3384f1c332326e179b5a3ade243f08a350b7668b5808ec64554103f37cc021", checked := Tryd.checked }
namespace Rows
def none {H : Type} : Left H := { results := [], args := [] }

/- WHAT THE LISTED PACKAGE-LEVEL VARIABLES READ AS WHEN THE CALL BEGINS. Each datum BY PROGRAM (the guide's laid-datum.mjs) off the statement by which the dump's own 'gosem.cut.vars' lays the variable. In a bare row this is a premise. The card (YtkljpbpojbhbbaaDoorCards.lean) ties it to the program's text. -/
def laid_given_example_pub_typebar_pub_readline_runes {H : Type} : DataW H := .agg []
def laid_unicode_properties {H : Type} : DataW H := .agg [.lit (.int .u8 1), .lit (.int .u8 1), .lit (.int .u8 1), .lit (.int .u8 1), .lit (.int .u8 1), .lit (.int .u8 1), .lit (.int .u8 1), .lit (.int .u8 1), .lit (.int .u8 1), .lit (.int .u8 1), .lit (.int .u8 1), .lit (.int .u8 1), .lit (.int .u8 1), .lit (.int .u8 1), .lit (.int .u8 1), .lit (.int .u8 1), .lit (.int .u8 1), .lit (.int .u8 1), .lit (.int .u8 1), .lit (.int .u8 1), .lit (.int .u8 1), .lit (.int .u8 1), .lit (.int .u8 1), .lit (.int .u8 1), .lit (.int .u8 1), .lit (.int .u8 1), .lit (.int .u8 1), .lit (.int .u8 1), .lit (.int .u8 1), .lit (.int .u8 1), .lit (.int .u8 1), .lit (.int .u8 1), .lit (.int .u8 144), .lit (.int .u8 130), .lit (.int .u8 130), .lit (.int .u8 130), .lit (.int .u8 136), .lit (.int .u8 130), .lit (.int .u8 130), .lit (.int .u8 130), .lit (.int .u8 130), .lit (.int .u8 130), .lit (.int .u8 130), .lit (.int .u8 136), .lit (.int .u8 130), .lit (.int .u8 130), .lit (.int .u8 130), .lit (.int .u8 130), .lit (.int .u8 132), .lit (.int .u8 132), .lit (.int .u8 132), .lit (.int .u8 132), .lit (.int .u8 132), .lit (.int .u8 132), .lit (.int .u8 132), .lit (.int .u8 132), .lit (.int .u8 132), .lit (.int .u8 132), .lit (.int .u8 130), .lit (.int .u8 130), .lit (.int .u8 136), .lit (.int .u8 136), .lit (.int .u8 136), .lit (.int .u8 130), .lit (.int .u8 130), .lit (.int .u8 160), .lit (.int .u8 160), .lit (.int .u8 160), .lit (.int .u8 160), .lit (.int .u8 160), .lit (.int .u8 160), .lit (.int .u8 160), .lit (.int .u8 160), .lit (.int .u8 160), .lit (.int .u8 160), .lit (.int .u8 160), .lit (.int .u8 160), .lit (.int .u8 160), .lit (.int .u8 160), .lit (.int .u8 160), .lit (.int .u8 160), .lit (.int .u8 160), .lit (.int .u8 160), .lit (.int .u8 160), .lit (.int .u8 160), .lit (.int .u8 160), .lit (.int .u8 160), .lit (.int .u8 160), .lit (.int .u8 160), .lit (.int .u8 160), .lit (.int .u8 160), .lit (.int .u8 130), .lit (.int .u8 130), .lit (.int .u8 130), .lit (.int .u8 136), .lit (.int .u8 130), .lit (.int .u8 136), .lit (.int .u8 192), .lit (.int .u8 192), .lit (.int .u8 192), .lit (.int .u8 192), .lit (.int .u8 192), .lit (.int .u8 192), .lit (.int .u8 192), .lit (.int .u8 192), .lit (.int .u8 192), .lit (.int .u8 192), .lit (.int .u8 192), .lit (.int .u8 192), .lit (.int .u8 192), .lit (.int .u8 192), .lit (.int .u8 192), .lit (.int .u8 192), .lit (.int .u8 192), .lit (.int .u8 192), .lit (.int .u8 192), .lit (.int .u8 192), .lit (.int .u8 192), .lit (.int .u8 192), .lit (.int .u8 192), .lit (.int .u8 192), .lit (.int .u8 192), .lit (.int .u8 192), .lit (.int .u8 130), .lit (.int .u8 136), .lit (.int .u8 130), .lit (.int .u8 136), .lit (.int .u8 1), .lit (.int .u8 1), .lit (.int .u8 1), .lit (.int .u8 1), .lit (.int .u8 1), .lit (.int .u8 1), .lit (.int .u8 1), .lit (.int .u8 1), .lit (.int .u8 1), .lit (.int .u8 1), .lit (.int .u8 1), .lit (.int .u8 1), .lit (.int .u8 1), .lit (.int .u8 1), .lit (.int .u8 1), .lit (.int .u8 1), .lit (.int .u8 1), .lit (.int .u8 1), .lit (.int .u8 1), .lit (.int .u8 1), .lit (.int .u8 1), .lit (.int .u8 1), .lit (.int .u8 1), .lit (.int .u8 1), .lit (.int .u8 1), .lit (.int .u8 1), .lit (.int .u8 1), .lit (.int .u8 1), .lit (.int .u8 1), .lit (.int .u8 1), .lit (.int .u8 1), .lit (.int .u8 1), .lit (.int .u8 1), .lit (.int .u8 16), .lit (.int .u8 130), .lit (.int .u8 136), .lit (.int .u8 136), .lit (.int .u8 136), .lit (.int .u8 136), .lit (.int .u8 136), .lit (.int .u8 130), .lit (.int .u8 136), .lit (.int .u8 136), .lit (.int .u8 224), .lit (.int .u8 130), .lit (.int .u8 136), .lit (.int .u8 0), .lit (.int .u8 136), .lit (.int .u8 136), .lit (.int .u8 136), .lit (.int .u8 136), .lit (.int .u8 132), .lit (.int .u8 132), .lit (.int .u8 136), .lit (.int .u8 192), .lit (.int .u8 130), .lit (.int .u8 130), .lit (.int .u8 136), .lit (.int .u8 132), .lit (.int .u8 224), .lit (.int .u8 130), .lit (.int .u8 132), .lit (.int .u8 132), .lit (.int .u8 132), .lit (.int .u8 130), .lit (.int .u8 160), .lit (.int .u8 160), .lit (.int .u8 160), .lit (.int .u8 160), .lit (.int .u8 160), .lit (.int .u8 160), .lit (.int .u8 160), .lit (.int .u8 160), .lit (.int .u8 160), .lit (.int .u8 160), .lit (.int .u8 160), .lit (.int .u8 160), .lit (.int .u8 160), .lit (.int .u8 160), .lit (.int .u8 160), .lit (.int .u8 160), .lit (.int .u8 160), .lit (.int .u8 160), .lit (.int .u8 160), .lit (.int .u8 160), .lit (.int .u8 160), .lit (.int .u8 160), .lit (.int .u8 160), .lit (.int .u8 136), .lit (.int .u8 160), .lit (.int .u8 160), .lit (.int .u8 160), .lit (.int .u8 160), .lit (.int .u8 160), .lit (.int .u8 160), .lit (.int .u8 160), .lit (.int .u8 192), .lit (.int .u8 192), .lit (.int .u8 192), .lit (.int .u8 192), .lit (.int .u8 192), .lit (.int .u8 192), .lit (.int .u8 192), .lit (.int .u8 192), .lit (.int .u8 192), .lit (.int .u8 192), .lit (.int .u8 192), .lit (.int .u8 192), .lit (.int .u8 192), .lit (.int .u8 192), .lit (.int .u8 192), .lit (.int .u8 192), .lit (.int .u8 192), .lit (.int .u8 192), .lit (.int .u8 192), .lit (.int .u8 192), .lit (.int .u8 192), .lit (.int .u8 192), .lit (.int .u8 192), .lit (.int .u8 192), .lit (.int .u8 136), .lit (.int .u8 192), .lit (.int .u8 192), .lit (.int .u8 192), .lit (.int .u8 192), .lit (.int .u8 192), .lit (.int .u8 192), .lit (.int .u8 192), .lit (.int .u8 192)]
def laid_bytes_ErrTooLarge {H : Type} : DataW H := .iface "*errors.errorString" (.ptr (.agg [.lit (.string [98, 121, 116, 101, 115, 46, 66, 117, 102, 102, 101, 114, 58, 32, 116, 111, 111, 32, 108, 97, 114, 103, 101])]))
/-- One of Go's own tables, pinned by name: the form's constant. -/
def laid_unicode_Number : DataW Unit := Go.Pinned.number
def laid_unicode_White_Space {H : Type} : DataW H := .ptr (.agg [.slice [.agg [.lit (.int .u16 9), .lit (.int .u16 13), .lit (.int .u16 1)], .agg [.lit (.int .u16 32), .lit (.int .u16 133), .lit (.int .u16 101)], .agg [.lit (.int .u16 160), .lit (.int .u16 5760), .lit (.int .u16 5600)], .agg [.lit (.int .u16 8192), .lit (.int .u16 8202), .lit (.int .u16 1)], .agg [.lit (.int .u16 8232), .lit (.int .u16 8233), .lit (.int .u16 1)], .agg [.lit (.int .u16 8239), .lit (.int .u16 8287), .lit (.int .u16 48)], .agg [.lit (.int .u16 12288), .lit (.int .u16 12288), .lit (.int .u16 1)]] [], .nil, .lit (.int .i64 2)])

/-- 'laws.FnColourlessParts': WHATEVER THE INPUT: true; the input reads as it did. -/
def fnColourlessPartsSpec : ChangeSpec := { name := "fnColourlessParts", vars := ["given.example/pub-typebar/pub/readline.runes"], fn := fun _ => fun
  | [d1, d2, g1] => { results := [.lit (.bool true)], args := [d1, d2], vars := [g1] }
  | _ => none }
def fnColourlessPartsRow : OpenClaim := { program := "ytkljpbpojbhbbaadoor", sum := "da3384f1c332326e179b5a3ade243f08a350b7668b5808ec64554103f37cc021", func := "given.example/pub-typebar/laws.FnColourlessParts", spec := "fnColourlessParts", unfollowed := true, recurses := true, named := ["given.example/pub-typebar/pub/readline.runes"], apart := false, laid := [("given.example/pub-typebar/pub/readline.runes", laid_given_example_pub_typebar_pub_readline_runes)] }
def FnColourlessPartsSaid : Prop := fnColourlessPartsRow.holds Tryd.pinned (OpenSpec.ofChange fnColourlessPartsSpec)

/-- ITS FALSE NEIGHBOUR: 'it returns false'. Refute it at one input. -/
def fnColourlessPartsWrong : ChangeSpec := { name := "fnColourlessParts", vars := ["given.example/pub-typebar/pub/readline.runes"], fn := fun _ => fun
  | [d1, d2, g1] => { results := [.lit (.bool false)], args := [d1, d2], vars := [g1] }
  | _ => none }
def FnColourlessPartsWrongFalsely : Prop := fnColourlessPartsRow.holds Tryd.pinned (OpenSpec.ofChange fnColourlessPartsWrong)

/-- 'laws.FnAggregated': WHATEVER THE INPUT: true; the input reads as it did. -/
def fnAggregatedSpec : ChangeSpec := { name := "fnAggregated", vars := ["given.example/pub-typebar/pub/readline.runes"], fn := fun _ => fun
  | [d, g1] => { results := [.lit (.bool true)], args := [d], vars := [g1] }
  | _ => none }
def fnAggregatedRow : OpenClaim := { program := "ytkljpbpojbhbbaadoor", sum := "da3384f1c332326e179b5a3ade243f08a350b7668b5808ec64554103f37cc021", func := "given.example/pub-typebar/laws.FnAggregated", spec := "fnAggregated", named := ["given.example/pub-typebar/pub/readline.runes"], apart := false, laid := [("given.example/pub-typebar/pub/readline.runes", laid_given_example_pub_typebar_pub_readline_runes)] }
def FnAggregatedSaid : Prop := fnAggregatedRow.holds Tryd.pinned (OpenSpec.ofChange fnAggregatedSpec)

/-- ITS FALSE NEIGHBOUR: 'it returns false'. Refute it at one input. -/
def fnAggregatedWrong : ChangeSpec := { name := "fnAggregated", vars := ["given.example/pub-typebar/pub/readline.runes"], fn := fun _ => fun
  | [d, g1] => { results := [.lit (.bool false)], args := [d], vars := [g1] }
  | _ => none }
def FnAggregatedWrongFalsely : Prop := fnAggregatedRow.holds Tryd.pinned (OpenSpec.ofChange fnAggregatedWrong)

/-- 'laws.FnEscapeRead': WHATEVER THE INPUT: true; the input reads as it did. -/
def fnEscapeReadSpec : ChangeSpec := { name := "fnEscapeRead", fn := fun _ => fun
  | [d1, d2] => { results := [.lit (.bool true)], args := [d1, d2] }
  | _ => none }
def fnEscapeReadRow : OpenClaim := { program := "ytkljpbpojbhbbaadoor", sum := "da3384f1c332326e179b5a3ade243f08a350b7668b5808ec64554103f37cc021", func := "given.example/pub-typebar/laws.FnEscapeRead", spec := "fnEscapeRead", named := ["unicode.properties", "unicode.Number", "bytes.ErrTooLarge"], apart := false, laid := [("unicode.properties", laid_unicode_properties), ("bytes.ErrTooLarge", laid_bytes_ErrTooLarge), ("unicode.Number", laid_unicode_Number)] }
def FnEscapeReadSaid : Prop := fnEscapeReadRow.holds Tryd.pinned (OpenSpec.ofChange fnEscapeReadSpec)

/-- ITS FALSE NEIGHBOUR: 'it returns false'. Refute it at one input. -/
def fnEscapeReadWrong : ChangeSpec := { name := "fnEscapeRead", fn := fun _ => fun
  | [d1, d2] => { results := [.lit (.bool false)], args := [d1, d2] }
  | _ => none }
def FnEscapeReadWrongFalsely : Prop := fnEscapeReadRow.holds Tryd.pinned (OpenSpec.ofChange fnEscapeReadWrong)

/-- 'laws.FnSwept': WHATEVER THE INPUT: true; the input reads as it did. -/
def fnSweptSpec : ChangeSpec := { name := "fnSwept", vars := ["given.example/pub-typebar/pub/readline.runes"], fn := fun _ => fun
  | [d1, d2, d3, d4, g1] => { results := [.lit (.bool true)], args := [d1, d2, d3, d4], vars := [g1] }
  | _ => none }
def fnSweptRow : OpenClaim := { program := "ytkljpbpojbhbbaadoor", sum := "da3384f1c332326e179b5a3ade243f08a350b7668b5808ec64554103f37cc021", func := "given.example/pub-typebar/laws.FnSwept", spec := "fnSwept", inPlace := ["internal/abi.NoEscape", "internal/bytealg.MakeNoZero"], unfollowed := true, recurses := true, named := ["given.example/pub-typebar/pub/readline.runes", "bytes.ErrTooLarge"], apart := false, laid := [("bytes.ErrTooLarge", laid_bytes_ErrTooLarge), ("given.example/pub-typebar/pub/readline.runes", laid_given_example_pub_typebar_pub_readline_runes)] }
def FnSweptSaid : Prop := fnSweptRow.holds Tryd.pinned (OpenSpec.ofChange fnSweptSpec)

/-- ITS FALSE NEIGHBOUR: 'it returns false'. Refute it at one input. -/
def fnSweptWrong : ChangeSpec := { name := "fnSwept", vars := ["given.example/pub-typebar/pub/readline.runes"], fn := fun _ => fun
  | [d1, d2, d3, d4, g1] => { results := [.lit (.bool false)], args := [d1, d2, d3, d4], vars := [g1] }
  | _ => none }
def FnSweptWrongFalsely : Prop := fnSweptRow.holds Tryd.pinned (OpenSpec.ofChange fnSweptWrong)

/-- 'laws.FnPastFound': WHATEVER THE INPUT: true; the input reads as it did. -/
def fnPastFoundSpec : ChangeSpec := { name := "fnPastFound", vars := ["given.example/pub-typebar/pub/readline.runes"], fn := fun _ => fun
  | [d1, d2, d3, g1] => { results := [.lit (.bool true)], args := [d1, d2, d3], vars := [g1] }
  | _ => none }
def fnPastFoundRow : OpenClaim := { program := "ytkljpbpojbhbbaadoor", sum := "da3384f1c332326e179b5a3ade243f08a350b7668b5808ec64554103f37cc021", func := "given.example/pub-typebar/laws.FnPastFound", spec := "fnPastFound", unfollowed := true, recurses := true, named := ["given.example/pub-typebar/pub/readline.runes"], apart := false, laid := [("given.example/pub-typebar/pub/readline.runes", laid_given_example_pub_typebar_pub_readline_runes)] }
def FnPastFoundSaid : Prop := fnPastFoundRow.holds Tryd.pinned (OpenSpec.ofChange fnPastFoundSpec)

/-- ITS FALSE NEIGHBOUR: 'it returns false'. Refute it at one input. -/
def fnPastFoundWrong : ChangeSpec := { name := "fnPastFound", vars := ["given.example/pub-typebar/pub/readline.runes"], fn := fun _ => fun
  | [d1, d2, d3, g1] => { results := [.lit (.bool false)], args := [d1, d2, d3], vars := [g1] }
  | _ => none }
def FnPastFoundWrongFalsely : Prop := fnPastFoundRow.holds Tryd.pinned (OpenSpec.ofChange fnPastFoundWrong)

/-- 'laws.FnTreeOf': WHATEVER THE INPUT: true; the input reads as it did. -/
def fnTreeOfSpec : ChangeSpec := { name := "fnTreeOf", vars := ["given.example/pub-typebar/pub/readline.runes"], fn := fun _ => fun
  | [d1, d2, d3, d4, d5, d6, g1] => { results := [.lit (.bool true)], args := [d1, d2, d3, d4, d5, d6], vars := [g1] }
  | _ => none }
def fnTreeOfRow : OpenClaim := { program := "ytkljpbpojbhbbaadoor", sum := "da3384f1c332326e179b5a3ade243f08a350b7668b5808ec64554103f37cc021", func := "given.example/pub-typebar/laws.FnTreeOf", spec := "fnTreeOf", inPlace := ["internal/abi.NoEscape", "internal/bytealg.MakeNoZero"], unfollowed := true, recurses := true, named := ["given.example/pub-typebar/pub/readline.runes", "unicode.White_Space", "bytes.ErrTooLarge"], apart := false, laid := [("unicode.White_Space", laid_unicode_White_Space), ("bytes.ErrTooLarge", laid_bytes_ErrTooLarge), ("given.example/pub-typebar/pub/readline.runes", laid_given_example_pub_typebar_pub_readline_runes)] }
def FnTreeOfSaid : Prop := fnTreeOfRow.holds Tryd.pinned (OpenSpec.ofChange fnTreeOfSpec)

/-- ITS FALSE NEIGHBOUR: 'it returns false'. Refute it at one input. -/
def fnTreeOfWrong : ChangeSpec := { name := "fnTreeOf", vars := ["given.example/pub-typebar/pub/readline.runes"], fn := fun _ => fun
  | [d1, d2, d3, d4, d5, d6, g1] => { results := [.lit (.bool false)], args := [d1, d2, d3, d4, d5, d6], vars := [g1] }
  | _ => none }
def FnTreeOfWrongFalsely : Prop := fnTreeOfRow.holds Tryd.pinned (OpenSpec.ofChange fnTreeOfWrong)

/-- 'laws.FnCompleted': WHATEVER THE INPUT: true; the input reads as it did. -/
def fnCompletedSpec : ChangeSpec := { name := "fnCompleted", vars := ["given.example/pub-typebar/pub/readline.runes"], fn := fun _ => fun
  | [d1, d2, d3, d4, d5, g1] => { results := [.lit (.bool true)], args := [d1, d2, d3, d4, d5], vars := [g1] }
  | _ => none }
def fnCompletedRow : OpenClaim := { program := "ytkljpbpojbhbbaadoor", sum := "da3384f1c332326e179b5a3ade243f08a350b7668b5808ec64554103f37cc021", func := "given.example/pub-typebar/laws.FnCompleted", spec := "fnCompleted", unfollowed := true, recurses := true, named := ["given.example/pub-typebar/pub/readline.runes", "unicode.White_Space"], apart := false, laid := [("unicode.White_Space", laid_unicode_White_Space), ("given.example/pub-typebar/pub/readline.runes", laid_given_example_pub_typebar_pub_readline_runes)] }
def FnCompletedSaid : Prop := fnCompletedRow.holds Tryd.pinned (OpenSpec.ofChange fnCompletedSpec)

/-- ITS FALSE NEIGHBOUR: 'it returns false'. Refute it at one input. -/
def fnCompletedWrong : ChangeSpec := { name := "fnCompleted", vars := ["given.example/pub-typebar/pub/readline.runes"], fn := fun _ => fun
  | [d1, d2, d3, d4, d5, g1] => { results := [.lit (.bool false)], args := [d1, d2, d3, d4, d5], vars := [g1] }
  | _ => none }
def FnCompletedWrongFalsely : Prop := fnCompletedRow.holds Tryd.pinned (OpenSpec.ofChange fnCompletedWrong)

/-- 'laws.FnOffersCommon': WHATEVER THE INPUT: true; the input reads as it did. -/
def fnOffersCommonSpec : ChangeSpec := { name := "fnOffersCommon", vars := ["given.example/pub-typebar/pub/readline.runes"], fn := fun _ => fun
  | [d1, d2, g1] => { results := [.lit (.bool true)], args := [d1, d2], vars := [g1] }
  | _ => none }
def fnOffersCommonRow : OpenClaim := { program := "ytkljpbpojbhbbaadoor", sum := "da3384f1c332326e179b5a3ade243f08a350b7668b5808ec64554103f37cc021", func := "given.example/pub-typebar/laws.FnOffersCommon", spec := "fnOffersCommon", unfollowed := true, recurses := true, named := ["given.example/pub-typebar/pub/readline.runes", "unicode.White_Space"], apart := false, laid := [("unicode.White_Space", laid_unicode_White_Space), ("given.example/pub-typebar/pub/readline.runes", laid_given_example_pub_typebar_pub_readline_runes)] }
def FnOffersCommonSaid : Prop := fnOffersCommonRow.holds Tryd.pinned (OpenSpec.ofChange fnOffersCommonSpec)

/-- ITS FALSE NEIGHBOUR: 'it returns false'. Refute it at one input. -/
def fnOffersCommonWrong : ChangeSpec := { name := "fnOffersCommon", vars := ["given.example/pub-typebar/pub/readline.runes"], fn := fun _ => fun
  | [d1, d2, g1] => { results := [.lit (.bool false)], args := [d1, d2], vars := [g1] }
  | _ => none }
def FnOffersCommonWrongFalsely : Prop := fnOffersCommonRow.holds Tryd.pinned (OpenSpec.ofChange fnOffersCommonWrong)

/- THE SECOND FORM. 'bulk': how many values and letters a reading holds, each counted each time it is reached (what is shared counts as often as it is met; a slice's spare places count too). A statement '..UptoSaid' is the law's where the arguments, and the package variables that the reading takes, are together of bulk at most 1048576: NARROWER than '..Said'. Prove '..Said' where nothing that the law and all that it calls make is longer than what came in: it says more and counts as full. Else prove '..UptoSaid'. A law counts once. -/
mutual
def uptoBulk {H : Type} : DataW H → Nat
  | .lit (.string bytes) => bytes.length + 1
  | .lit _ => 1
  | .nil => 1
  | .ptr d => uptoBulk d + 1
  | .slice elems spare => uptoBulkAll elems + uptoBulkAll spare + 1
  | .agg parts => uptoBulkAll parts + 1
  | .iface _ d => uptoBulk d + 1
  | .map entries => uptoBulkEntries entries + 1
  | .held _ => 1
def uptoBulkAll {H : Type} : List (DataW H) → Nat
  | [] => 0
  | d :: r => uptoBulk d + uptoBulkAll r
def uptoBulkEntries {H : Type} : List (Lit × DataW H) → Nat
  | [] => 0
  | x :: r => uptoBulkEntry x + uptoBulkEntries r
def uptoBulkEntry {H : Type} : Lit × DataW H → Nat
  | (.string bytes, d) => bytes.length + uptoBulk d + 1
  | (_, d) => uptoBulk d + 1
 end
def uptoSmall : (H : Type) → List (DataW H) → Bool := fun _ ds => decide (uptoBulkAll ds ≤ 1048576)
def OpenSpec.upto (s : _root_.Go.ChangeSpec) : _root_.Go.OpenSpec := { _root_.Go.OpenSpec.ofChange s with cond := some uptoSmall }

/-- 'laws.FnColourlessParts', WHERE WHAT IT READS IS OF BULK AT MOST 1048576: true; the input reads as it did. -/
def fnColourlessPartsUptoRow : OpenClaim := { program := "ytkljpbpojbhbbaadoor", sum := "da3384f1c332326e179b5a3ade243f08a350b7668b5808ec64554103f37cc021", func := "given.example/pub-typebar/laws.FnColourlessParts", spec := "fnColourlessParts", unfollowed := true, recurses := true, named := ["given.example/pub-typebar/pub/readline.runes"], apart := false, laid := [("given.example/pub-typebar/pub/readline.runes", laid_given_example_pub_typebar_pub_readline_runes)], narrowed := true }
def FnColourlessPartsUptoSaid : Prop := fnColourlessPartsUptoRow.holds Tryd.pinned (OpenSpec.upto fnColourlessPartsSpec)

/-- 'laws.FnAggregated', WHERE WHAT IT READS IS OF BULK AT MOST 1048576: true; the input reads as it did. -/
def fnAggregatedUptoRow : OpenClaim := { program := "ytkljpbpojbhbbaadoor", sum := "da3384f1c332326e179b5a3ade243f08a350b7668b5808ec64554103f37cc021", func := "given.example/pub-typebar/laws.FnAggregated", spec := "fnAggregated", named := ["given.example/pub-typebar/pub/readline.runes"], apart := false, laid := [("given.example/pub-typebar/pub/readline.runes", laid_given_example_pub_typebar_pub_readline_runes)], narrowed := true }
def FnAggregatedUptoSaid : Prop := fnAggregatedUptoRow.holds Tryd.pinned (OpenSpec.upto fnAggregatedSpec)

/-- 'laws.FnEscapeRead', WHERE WHAT IT READS IS OF BULK AT MOST 1048576: true; the input reads as it did. -/
def fnEscapeReadUptoRow : OpenClaim := { program := "ytkljpbpojbhbbaadoor", sum := "da3384f1c332326e179b5a3ade243f08a350b7668b5808ec64554103f37cc021", func := "given.example/pub-typebar/laws.FnEscapeRead", spec := "fnEscapeRead", named := ["unicode.properties", "unicode.Number", "bytes.ErrTooLarge"], apart := false, laid := [("unicode.properties", laid_unicode_properties), ("bytes.ErrTooLarge", laid_bytes_ErrTooLarge), ("unicode.Number", laid_unicode_Number)], narrowed := true }
def FnEscapeReadUptoSaid : Prop := fnEscapeReadUptoRow.holds Tryd.pinned (OpenSpec.upto fnEscapeReadSpec)

/-- 'laws.FnSwept', WHERE WHAT IT READS IS OF BULK AT MOST 1048576: true; the input reads as it did. -/
def fnSweptUptoRow : OpenClaim := { program := "ytkljpbpojbhbbaadoor", sum := "da3384f1c332326e179b5a3ade243f08a350b7668b5808ec64554103f37cc021", func := "given.example/pub-typebar/laws.FnSwept", spec := "fnSwept", inPlace := ["internal/abi.NoEscape", "internal/bytealg.MakeNoZero"], unfollowed := true, recurses := true, named := ["given.example/pub-typebar/pub/readline.runes", "bytes.ErrTooLarge"], apart := false, laid := [("bytes.ErrTooLarge", laid_bytes_ErrTooLarge), ("given.example/pub-typebar/pub/readline.runes", laid_given_example_pub_typebar_pub_readline_runes)], narrowed := true }
def FnSweptUptoSaid : Prop := fnSweptUptoRow.holds Tryd.pinned (OpenSpec.upto fnSweptSpec)

/-- 'laws.FnPastFound', WHERE WHAT IT READS IS OF BULK AT MOST 1048576: true; the input reads as it did. -/
def fnPastFoundUptoRow : OpenClaim := { program := "ytkljpbpojbhbbaadoor", sum := "da3384f1c332326e179b5a3ade243f08a350b7668b5808ec64554103f37cc021", func := "given.example/pub-typebar/laws.FnPastFound", spec := "fnPastFound", unfollowed := true, recurses := true, named := ["given.example/pub-typebar/pub/readline.runes"], apart := false, laid := [("given.example/pub-typebar/pub/readline.runes", laid_given_example_pub_typebar_pub_readline_runes)], narrowed := true }
def FnPastFoundUptoSaid : Prop := fnPastFoundUptoRow.holds Tryd.pinned (OpenSpec.upto fnPastFoundSpec)

/-- 'laws.FnTreeOf', WHERE WHAT IT READS IS OF BULK AT MOST 1048576: true; the input reads as it did. -/
def fnTreeOfUptoRow : OpenClaim := { program := "ytkljpbpojbhbbaadoor", sum := "da3384f1c332326e179b5a3ade243f08a350b7668b5808ec64554103f37cc021", func := "given.example/pub-typebar/laws.FnTreeOf", spec := "fnTreeOf", inPlace := ["internal/abi.NoEscape", "internal/bytealg.MakeNoZero"], unfollowed := true, recurses := true, named := ["given.example/pub-typebar/pub/readline.runes", "unicode.White_Space", "bytes.ErrTooLarge"], apart := false, laid := [("unicode.White_Space", laid_unicode_White_Space), ("bytes.ErrTooLarge", laid_bytes_ErrTooLarge), ("given.example/pub-typebar/pub/readline.runes", laid_given_example_pub_typebar_pub_readline_runes)], narrowed := true }
def FnTreeOfUptoSaid : Prop := fnTreeOfUptoRow.holds Tryd.pinned (OpenSpec.upto fnTreeOfSpec)

/-- 'laws.FnCompleted', WHERE WHAT IT READS IS OF BULK AT MOST 1048576: true; the input reads as it did. -/
def fnCompletedUptoRow : OpenClaim := { program := "ytkljpbpojbhbbaadoor", sum := "da3384f1c332326e179b5a3ade243f08a350b7668b5808ec64554103f37cc021", func := "given.example/pub-typebar/laws.FnCompleted", spec := "fnCompleted", unfollowed := true, recurses := true, named := ["given.example/pub-typebar/pub/readline.runes", "unicode.White_Space"], apart := false, laid := [("unicode.White_Space", laid_unicode_White_Space), ("given.example/pub-typebar/pub/readline.runes", laid_given_example_pub_typebar_pub_readline_runes)], narrowed := true }
def FnCompletedUptoSaid : Prop := fnCompletedUptoRow.holds Tryd.pinned (OpenSpec.upto fnCompletedSpec)

/-- 'laws.FnOffersCommon', WHERE WHAT IT READS IS OF BULK AT MOST 1048576: true; the input reads as it did. -/
def fnOffersCommonUptoRow : OpenClaim := { program := "ytkljpbpojbhbbaadoor", sum := "da3384f1c332326e179b5a3ade243f08a350b7668b5808ec64554103f37cc021", func := "given.example/pub-typebar/laws.FnOffersCommon", spec := "fnOffersCommon", unfollowed := true, recurses := true, named := ["given.example/pub-typebar/pub/readline.runes", "unicode.White_Space"], apart := false, laid := [("unicode.White_Space", laid_unicode_White_Space), ("given.example/pub-typebar/pub/readline.runes", laid_given_example_pub_typebar_pub_readline_runes)], narrowed := true }
def FnOffersCommonUptoSaid : Prop := fnOffersCommonUptoRow.holds Tryd.pinned (OpenSpec.upto fnOffersCommonSpec)

end Rows
end Go.Proofs.YtkljpbpojbhbbaaDoor
