/-
  NARROWER THAN 'FOR EVERY INPUT', by the rows' own cells (each row's printed sentence says how): FnCompleted: laid · FnOffersCommon: laid · FnTreeOf: laid.
  DERIVED. THE GIVEN ROWS OF THIS SEAT. 3 by the template 'for every input the law returns true; each argument reads behind the call as it read before'; 0 by the template 'total and deterministic' (their statements: YtmkefndmiagoaaaDoorTotals.lean).
  GIVEN WITH THE SEED: the statements are not yours to turn. If you find one false, say at which input.
  Laid BY PROGRAM, IN A SANDBOX (cutbox-rows.mjs): the forced cells as the released guide's own fill.sh prints them over the translation 75a6b5f3b5875906… (all of the seat's roots in one cut). By AI agents, Wed Nov 11 2026. No macro, syntax, notation, axiom, sorry.
-/
import Derived.Test.YtmkefndmiagoaaaDoorChecked
import GoSem.Claim
import GoSem.ClaimJoined
import GoSem.ClaimMapViews
import Derived.JoinedTies
import Derived.KernelRfl
namespace Go.Proofs.YtmkefndmiagoaaaDoor
/- THE CELL 'sum', in the pinned program and in every row, IS THE sha256 OF THE DUMP (.gsa) THAT YtmkefndmiagoaaaDoorProg.lean LOADS. Nothing in Lean hashes anything: it is a label: what it is worth is what the hold of that sum in a sandbox is worth. -/
noncomputable def Tryd.pinned : Pinned := { name := "ytmkefndmiagoaaadoor", sum := "75a6b5f3b5875906093de76fec922271bfba4eaf36c112964ec526f51e628d08", checked := Tryd.checked }
namespace Rows
def none {H : Type} : Left H := { results := [], args := [] }

/- WHAT THE LISTED PACKAGE-LEVEL VARIABLES READ AS WHEN THE CALL BEGINS. Each datum BY PROGRAM (the guide's laid-datum.mjs) off the statement by which the dump's own 'gosem.cut.vars' lays the variable. In a bare row this is a premise. The card (YtmkefndmiagoaaaDoorCards.lean) ties it to the program's text. -/
def laid_unicode_White_Space {H : Type} : DataW H := .ptr (.agg [.slice [.agg [.lit (.int .u16 9), .lit (.int .u16 13), .lit (.int .u16 1)], .agg [.lit (.int .u16 32), .lit (.int .u16 133), .lit (.int .u16 101)], .agg [.lit (.int .u16 160), .lit (.int .u16 5760), .lit (.int .u16 5600)], .agg [.lit (.int .u16 8192), .lit (.int .u16 8202), .lit (.int .u16 1)], .agg [.lit (.int .u16 8232), .lit (.int .u16 8233), .lit (.int .u16 1)], .agg [.lit (.int .u16 8239), .lit (.int .u16 8287), .lit (.int .u16 48)], .agg [.lit (.int .u16 12288), .lit (.int .u16 12288), .lit (.int .u16 1)]] [], .nil, .lit (.int .i64 2)])
def laid_given_example_pub_typebar_pub_readline_runes {H : Type} : DataW H := .agg []
def laid_bytes_ErrTooLarge {H : Type} : DataW H := .iface "*errors.errorString" (.ptr (.agg [.lit (.string [98, 121, 116, 101, 115, 46, 66, 117, 102, 102, 101, 114, 58, 32, 116, 111, 111, 32, 108, 97, 114, 103, 101])]))

/-- 'laws.FnCompleted': WHATEVER THE INPUT: true; the input reads as it did. -/
def fnCompletedSpec : ChangeSpec := { name := "fnCompleted", vars := ["given.example/pub-typebar/pub/readline.runes"], fn := fun _ => fun
  | [d1, d2, d3, d4, d5, g1] => { results := [.lit (.bool true)], args := [d1, d2, d3, d4, d5], vars := [g1] }
  | _ => none }
def fnCompletedRow : OpenClaim := { program := "ytmkefndmiagoaaadoor", sum := "75a6b5f3b5875906093de76fec922271bfba4eaf36c112964ec526f51e628d08", func := "given.example/pub-typebar/laws.FnCompleted", spec := "fnCompleted", unfollowed := true, recurses := true, named := ["given.example/pub-typebar/pub/readline.runes", "unicode.White_Space"], apart := false, laid := [("unicode.White_Space", laid_unicode_White_Space), ("given.example/pub-typebar/pub/readline.runes", laid_given_example_pub_typebar_pub_readline_runes)] }
def FnCompletedSaid : Prop := fnCompletedRow.holds Tryd.pinned (OpenSpec.ofChange fnCompletedSpec)

/-- ITS FALSE NEIGHBOUR: 'it returns false'. Refute it at one input. -/
def fnCompletedWrong : ChangeSpec := { name := "fnCompleted", vars := ["given.example/pub-typebar/pub/readline.runes"], fn := fun _ => fun
  | [d1, d2, d3, d4, d5, g1] => { results := [.lit (.bool false)], args := [d1, d2, d3, d4, d5], vars := [g1] }
  | _ => none }
def FnCompletedWrongFalsely : Prop := fnCompletedRow.holds Tryd.pinned (OpenSpec.ofChange fnCompletedWrong)

/-- 'laws.FnOffersCommon': WHATEVER THE INPUT: true; the input reads as it did. -/
def fnOffersCommonSpec : ChangeSpec := { name := "fnOffersCommon", vars := ["given.example/pub-typebar/pub/readline.runes"], fn := fun _ => fun
  | [d1, d2, g1] => { results := [.lit (.bool true)], args := [d1, d2], vars := [g1] }
  | _ => none }
def fnOffersCommonRow : OpenClaim := { program := "ytmkefndmiagoaaadoor", sum := "75a6b5f3b5875906093de76fec922271bfba4eaf36c112964ec526f51e628d08", func := "given.example/pub-typebar/laws.FnOffersCommon", spec := "fnOffersCommon", unfollowed := true, recurses := true, named := ["given.example/pub-typebar/pub/readline.runes", "unicode.White_Space"], apart := false, laid := [("unicode.White_Space", laid_unicode_White_Space), ("given.example/pub-typebar/pub/readline.runes", laid_given_example_pub_typebar_pub_readline_runes)] }
def FnOffersCommonSaid : Prop := fnOffersCommonRow.holds Tryd.pinned (OpenSpec.ofChange fnOffersCommonSpec)

/-- ITS FALSE NEIGHBOUR: 'it returns false'. Refute it at one input. -/
def fnOffersCommonWrong : ChangeSpec := { name := "fnOffersCommon", vars := ["given.example/pub-typebar/pub/readline.runes"], fn := fun _ => fun
  | [d1, d2, g1] => { results := [.lit (.bool false)], args := [d1, d2], vars := [g1] }
  | _ => none }
def FnOffersCommonWrongFalsely : Prop := fnOffersCommonRow.holds Tryd.pinned (OpenSpec.ofChange fnOffersCommonWrong)

/-- 'laws.FnTreeOf': WHATEVER THE INPUT: true; the input reads as it did. -/
def fnTreeOfSpec : ChangeSpec := { name := "fnTreeOf", vars := ["given.example/pub-typebar/pub/readline.runes"], fn := fun _ => fun
  | [d1, d2, d3, d4, d5, d6, g1] => { results := [.lit (.bool true)], args := [d1, d2, d3, d4, d5, d6], vars := [g1] }
  | _ => none }
def fnTreeOfRow : OpenClaim := { program := "ytmkefndmiagoaaadoor", sum := "75a6b5f3b5875906093de76fec922271bfba4eaf36c112964ec526f51e628d08", func := "given.example/pub-typebar/laws.FnTreeOf", spec := "fnTreeOf", inPlace := ["internal/abi.NoEscape", "internal/bytealg.MakeNoZero"], unfollowed := true, recurses := true, named := ["given.example/pub-typebar/pub/readline.runes", "unicode.White_Space", "bytes.ErrTooLarge"], apart := false, laid := [("unicode.White_Space", laid_unicode_White_Space), ("bytes.ErrTooLarge", laid_bytes_ErrTooLarge), ("given.example/pub-typebar/pub/readline.runes", laid_given_example_pub_typebar_pub_readline_runes)] }
def FnTreeOfSaid : Prop := fnTreeOfRow.holds Tryd.pinned (OpenSpec.ofChange fnTreeOfSpec)

/-- ITS FALSE NEIGHBOUR: 'it returns false'. Refute it at one input. -/
def fnTreeOfWrong : ChangeSpec := { name := "fnTreeOf", vars := ["given.example/pub-typebar/pub/readline.runes"], fn := fun _ => fun
  | [d1, d2, d3, d4, d5, d6, g1] => { results := [.lit (.bool false)], args := [d1, d2, d3, d4, d5, d6], vars := [g1] }
  | _ => none }
def FnTreeOfWrongFalsely : Prop := fnTreeOfRow.holds Tryd.pinned (OpenSpec.ofChange fnTreeOfWrong)

/- THE SECOND FORM. 'bulk': how many values and letters a reading holds, each counted each time it is reached (what is shared counts as often as it is met; a slice's spare places count too). A statement '..UptoSaid' is the law's where the arguments, and the package variables that the reading takes, are together of bulk at most 1048576: NARROWER than '..Said'. Prove '..Said' where nothing that the law and all that it calls make is longer than what came in: it says more and counts as full. Else prove '..UptoSaid'. A law counts once. -/
mutual
def uptoBulk {H : Type} : DataW H → Nat
  | .lit (.string bytes) => bytes.length + 1
  | .lit _ => 1
  | .nil => 1
  | .ptr d => uptoBulk d + 1
  | .slice elems spare => uptoBulkAll elems + uptoBulkAll spare + 1
  | .agg parts => uptoBulkAll parts + 1
  | .iface _ d => uptoBulk d + 1
  | .map entries => uptoBulkEntries entries + 1
  | .held _ => 1
def uptoBulkAll {H : Type} : List (DataW H) → Nat
  | [] => 0
  | d :: r => uptoBulk d + uptoBulkAll r
def uptoBulkEntries {H : Type} : List (Lit × DataW H) → Nat
  | [] => 0
  | x :: r => uptoBulkEntry x + uptoBulkEntries r
def uptoBulkEntry {H : Type} : Lit × DataW H → Nat
  | (.string bytes, d) => bytes.length + uptoBulk d + 1
  | (_, d) => uptoBulk d + 1
 end
def uptoSmall : (H : Type) → List (DataW H) → Bool := fun _ ds => decide (uptoBulkAll ds ≤ 1048576)
def OpenSpec.upto (s : _root_.Go.ChangeSpec) : _root_.Go.OpenSpec := { _root_.Go.OpenSpec.ofChange s with cond := some uptoSmall }

/-- 'laws.FnCompleted', WHERE WHAT IT READS IS OF BULK AT MOST 1048576: true; the input reads as it did. -/
def fnCompletedUptoRow : OpenClaim := { program := "ytmkefndmiagoaaadoor", sum := "75a6b5f3b5875906093de76fec922271bfba4eaf36c112964ec526f51e628d08", func := "given.example/pub-typebar/laws.FnCompleted", spec := "fnCompleted", unfollowed := true, recurses := true, named := ["given.example/pub-typebar/pub/readline.runes", "unicode.White_Space"], apart := false, laid := [("unicode.White_Space", laid_unicode_White_Space), ("given.example/pub-typebar/pub/readline.runes", laid_given_example_pub_typebar_pub_readline_runes)], narrowed := true }
def FnCompletedUptoSaid : Prop := fnCompletedUptoRow.holds Tryd.pinned (OpenSpec.upto fnCompletedSpec)

/-- 'laws.FnOffersCommon', WHERE WHAT IT READS IS OF BULK AT MOST 1048576: true; the input reads as it did. -/
def fnOffersCommonUptoRow : OpenClaim := { program := "ytmkefndmiagoaaadoor", sum := "75a6b5f3b5875906093de76fec922271bfba4eaf36c112964ec526f51e628d08", func := "given.example/pub-typebar/laws.FnOffersCommon", spec := "fnOffersCommon", unfollowed := true, recurses := true, named := ["given.example/pub-typebar/pub/readline.runes", "unicode.White_Space"], apart := false, laid := [("unicode.White_Space", laid_unicode_White_Space), ("given.example/pub-typebar/pub/readline.runes", laid_given_example_pub_typebar_pub_readline_runes)], narrowed := true }
def FnOffersCommonUptoSaid : Prop := fnOffersCommonUptoRow.holds Tryd.pinned (OpenSpec.upto fnOffersCommonSpec)

/-- 'laws.FnTreeOf', WHERE WHAT IT READS IS OF BULK AT MOST 1048576: true; the input reads as it did. -/
def fnTreeOfUptoRow : OpenClaim := { program := "ytmkefndmiagoaaadoor", sum := "75a6b5f3b5875906093de76fec922271bfba4eaf36c112964ec526f51e628d08", func := "given.example/pub-typebar/laws.FnTreeOf", spec := "fnTreeOf", inPlace := ["internal/abi.NoEscape", "internal/bytealg.MakeNoZero"], unfollowed := true, recurses := true, named := ["given.example/pub-typebar/pub/readline.runes", "unicode.White_Space", "bytes.ErrTooLarge"], apart := false, laid := [("unicode.White_Space", laid_unicode_White_Space), ("bytes.ErrTooLarge", laid_bytes_ErrTooLarge), ("given.example/pub-typebar/pub/readline.runes", laid_given_example_pub_typebar_pub_readline_runes)], narrowed := true }
def FnTreeOfUptoSaid : Prop := fnTreeOfUptoRow.holds Tryd.pinned (OpenSpec.upto fnTreeOfSpec)

end Rows
end Go.Proofs.YtmkefndmiagoaaaDoor
