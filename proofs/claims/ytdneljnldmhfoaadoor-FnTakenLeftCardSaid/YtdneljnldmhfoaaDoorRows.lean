/-
  NARROWER THAN 'FOR EVERY INPUT', by the rows' own cells (each row's printed sentence says how): FnKeyed: laid · FnTakenLeft: laid · FnKeyPuts: laid · FnMoveTo: laid.
  DERIVED. THE GIVEN ROWS OF THIS SEAT. 4 by the template 'for every input the law returns true; each argument reads behind the call as it read before'; 0 by the template 'total and deterministic' (their statements: YtdneljnldmhfoaaDoorTotals.lean).
  GIVEN WITH THE SEED: the statements are not yours to turn. If you find one false, say at which input.
  Laid BY PROGRAM, IN A SANDBOX (cutbox-rows.mjs): the forced cells as the released guide's own fill.sh prints them over the translation ac189cfd9becc2a2… (all of the seat's roots in one cut). By AI agents, Wed Nov 11 2026. No macro, syntax, notation, axiom, sorry.
-/
import Derived.Test.YtdneljnldmhfoaaDoorChecked
import GoSem.Claim
import GoSem.ClaimJoined
import GoSem.ClaimMapViews
import Derived.JoinedTies
import Derived.KernelRfl
namespace Go.Proofs.YtdneljnldmhfoaaDoor
/- THE CELL 'sum', in the pinned program and in every row, IS THE sha256 OF THE DUMP (.gsa) THAT YtdneljnldmhfoaaDoorProg.lean LOADS. Nothing in Lean hashes anything: it is a label: what it is worth is what the hold of that sum in a sandbox is worth. -/
noncomputable def Tryd.pinned : Pinned := { name := "ytdneljnldmhfoaadoor", sum := "ac189cfd9becc2a2b40c5fac4a1a8f02b57ad4257cb6c06cfb0ded894fb5df1d", checked := Tryd.checked }
namespace Rows
def none {H : Type} : Left H := { results := [], args := [] }

/- WHAT THE LISTED PACKAGE-LEVEL VARIABLES READ AS WHEN THE CALL BEGINS. Each datum BY PROGRAM (the guide's laid-datum.mjs) off the statement by which the dump's own 'gosem.cut.vars' lays the variable. In a bare row this is a premise. The card (YtdneljnldmhfoaaDoorCards.lean) ties it to the program's text. -/
def laid_given_example_pub_typebar_pub_readline_runes {H : Type} : DataW H := .agg []

/-- 'laws.FnKeyed': WHATEVER THE INPUT: true; the input reads as it did. -/
def fnKeyedSpec : ChangeSpec := { name := "fnKeyed", vars := ["given.example/pub-typebar/pub/readline.runes"], fn := fun _ => fun
  | [d, g1] => { results := [.lit (.bool true)], args := [d], vars := [g1] }
  | _ => none }
def fnKeyedRow : OpenClaim := { program := "ytdneljnldmhfoaadoor", sum := "ac189cfd9becc2a2b40c5fac4a1a8f02b57ad4257cb6c06cfb0ded894fb5df1d", func := "given.example/pub-typebar/laws.FnKeyed", spec := "fnKeyed", unfollowed := true, recurses := true, named := ["given.example/pub-typebar/pub/readline.runes"], apart := false, laid := [("given.example/pub-typebar/pub/readline.runes", laid_given_example_pub_typebar_pub_readline_runes)] }
def FnKeyedSaid : Prop := fnKeyedRow.holds Tryd.pinned (OpenSpec.ofChange fnKeyedSpec)

/-- ITS FALSE NEIGHBOUR: 'it returns false'. Refute it at one input. -/
def fnKeyedWrong : ChangeSpec := { name := "fnKeyed", vars := ["given.example/pub-typebar/pub/readline.runes"], fn := fun _ => fun
  | [d, g1] => { results := [.lit (.bool false)], args := [d], vars := [g1] }
  | _ => none }
def FnKeyedWrongFalsely : Prop := fnKeyedRow.holds Tryd.pinned (OpenSpec.ofChange fnKeyedWrong)

/-- 'laws.FnTakenLeft': WHATEVER THE INPUT: true; the input reads as it did. -/
def fnTakenLeftSpec : ChangeSpec := { name := "fnTakenLeft", vars := ["given.example/pub-typebar/pub/readline.runes"], fn := fun _ => fun
  | [d1, d2, g1] => { results := [.lit (.bool true)], args := [d1, d2], vars := [g1] }
  | _ => none }
def fnTakenLeftRow : OpenClaim := { program := "ytdneljnldmhfoaadoor", sum := "ac189cfd9becc2a2b40c5fac4a1a8f02b57ad4257cb6c06cfb0ded894fb5df1d", func := "given.example/pub-typebar/laws.FnTakenLeft", spec := "fnTakenLeft", unfollowed := true, recurses := true, named := ["given.example/pub-typebar/pub/readline.runes"], apart := false, laid := [("given.example/pub-typebar/pub/readline.runes", laid_given_example_pub_typebar_pub_readline_runes)] }
def FnTakenLeftSaid : Prop := fnTakenLeftRow.holds Tryd.pinned (OpenSpec.ofChange fnTakenLeftSpec)

/-- ITS FALSE NEIGHBOUR: 'it returns false'. Refute it at one input. -/
def fnTakenLeftWrong : ChangeSpec := { name := "fnTakenLeft", vars := ["given.example/pub-typebar/pub/readline.runes"], fn := fun _ => fun
  | [d1, d2, g1] => { results := [.lit (.bool false)], args := [d1, d2], vars := [g1] }
  | _ => none }
def FnTakenLeftWrongFalsely : Prop := fnTakenLeftRow.holds Tryd.pinned (OpenSpec.ofChange fnTakenLeftWrong)

/-- 'laws.FnKeyPuts': WHATEVER THE INPUT: true; the input reads as it did. -/
def fnKeyPutsSpec : ChangeSpec := { name := "fnKeyPuts", vars := ["given.example/pub-typebar/pub/readline.runes"], fn := fun _ => fun
  | [d1, d2, d3, g1] => { results := [.lit (.bool true)], args := [d1, d2, d3], vars := [g1] }
  | _ => none }
def fnKeyPutsRow : OpenClaim := { program := "ytdneljnldmhfoaadoor", sum := "ac189cfd9becc2a2b40c5fac4a1a8f02b57ad4257cb6c06cfb0ded894fb5df1d", func := "given.example/pub-typebar/laws.FnKeyPuts", spec := "fnKeyPuts", unfollowed := true, recurses := true, named := ["given.example/pub-typebar/pub/readline.runes"], apart := false, laid := [("given.example/pub-typebar/pub/readline.runes", laid_given_example_pub_typebar_pub_readline_runes)] }
def FnKeyPutsSaid : Prop := fnKeyPutsRow.holds Tryd.pinned (OpenSpec.ofChange fnKeyPutsSpec)

/-- ITS FALSE NEIGHBOUR: 'it returns false'. Refute it at one input. -/
def fnKeyPutsWrong : ChangeSpec := { name := "fnKeyPuts", vars := ["given.example/pub-typebar/pub/readline.runes"], fn := fun _ => fun
  | [d1, d2, d3, g1] => { results := [.lit (.bool false)], args := [d1, d2, d3], vars := [g1] }
  | _ => none }
def FnKeyPutsWrongFalsely : Prop := fnKeyPutsRow.holds Tryd.pinned (OpenSpec.ofChange fnKeyPutsWrong)

/-- 'laws.FnMoveTo': WHATEVER THE INPUT: true; the input reads as it did. -/
def fnMoveToSpec : ChangeSpec := { name := "fnMoveTo", vars := ["given.example/pub-typebar/pub/readline.runes"], fn := fun _ => fun
  | [d1, d2, d3, d4, g1] => { results := [.lit (.bool true)], args := [d1, d2, d3, d4], vars := [g1] }
  | _ => none }
def fnMoveToRow : OpenClaim := { program := "ytdneljnldmhfoaadoor", sum := "ac189cfd9becc2a2b40c5fac4a1a8f02b57ad4257cb6c06cfb0ded894fb5df1d", func := "given.example/pub-typebar/laws.FnMoveTo", spec := "fnMoveTo", unfollowed := true, recurses := true, named := ["given.example/pub-typebar/pub/readline.runes"], apart := false, laid := [("given.example/pub-typebar/pub/readline.runes", laid_given_example_pub_typebar_pub_readline_runes)] }
def FnMoveToSaid : Prop := fnMoveToRow.holds Tryd.pinned (OpenSpec.ofChange fnMoveToSpec)

/-- ITS FALSE NEIGHBOUR: 'it returns false'. Refute it at one input. -/
def fnMoveToWrong : ChangeSpec := { name := "fnMoveTo", vars := ["given.example/pub-typebar/pub/readline.runes"], fn := fun _ => fun
  | [d1, d2, d3, d4, g1] => { results := [.lit (.bool false)], args := [d1, d2, d3, d4], vars := [g1] }
  | _ => none }
def FnMoveToWrongFalsely : Prop := fnMoveToRow.holds Tryd.pinned (OpenSpec.ofChange fnMoveToWrong)

/- THE SECOND FORM. 'bulk': how many values and letters a reading holds, each counted each time it is reached (what is shared counts as often as it is met; a slice's spare places count too). A statement '..UptoSaid' is the law's where the arguments, and the package variables that the reading takes, are together of bulk at most 1048576: NARROWER than '..Said'. Prove '..Said' where nothing that the law and all that it calls make is longer than what came in: it says more and counts as full. Else prove '..UptoSaid'. A law counts once. -/
mutual
def uptoBulk {H : Type} : DataW H → Nat
  | .lit (.string bytes) => bytes.length + 1
  | .lit _ => 1
  | .nil => 1
  | .ptr d => uptoBulk d + 1
  | .slice elems spare => uptoBulkAll elems + uptoBulkAll spare + 1
  | .agg parts => uptoBulkAll parts + 1
  | .iface _ d => uptoBulk d + 1
  | .map entries => uptoBulkEntries entries + 1
  | .held _ => 1
def uptoBulkAll {H : Type} : List (DataW H) → Nat
  | [] => 0
  | d :: r => uptoBulk d + uptoBulkAll r
def uptoBulkEntries {H : Type} : List (Lit × DataW H) → Nat
  | [] => 0
  | x :: r => uptoBulkEntry x + uptoBulkEntries r
def uptoBulkEntry {H : Type} : Lit × DataW H → Nat
  | (.string bytes, d) => bytes.length + uptoBulk d + 1
  | (_, d) => uptoBulk d + 1
 end
def uptoSmall : (H : Type) → List (DataW H) → Bool := fun _ ds => decide (uptoBulkAll ds ≤ 1048576)
def OpenSpec.upto (s : _root_.Go.ChangeSpec) : _root_.Go.OpenSpec := { _root_.Go.OpenSpec.ofChange s with cond := some uptoSmall }

/-- 'laws.FnKeyed', WHERE WHAT IT READS IS OF BULK AT MOST 1048576: true; the input reads as it did. -/
def fnKeyedUptoRow : OpenClaim := { program := "ytdneljnldmhfoaadoor", sum := "ac189cfd9becc2a2b40c5fac4a1a8f02b57ad4257cb6c06cfb0ded894fb5df1d", func := "given.example/pub-typebar/laws.FnKeyed", spec := "fnKeyed", unfollowed := true, recurses := true, named := ["given.example/pub-typebar/pub/readline.runes"], apart := false, laid := [("given.example/pub-typebar/pub/readline.runes", laid_given_example_pub_typebar_pub_readline_runes)], narrowed := true }
def FnKeyedUptoSaid : Prop := fnKeyedUptoRow.holds Tryd.pinned (OpenSpec.upto fnKeyedSpec)

/-- 'laws.FnTakenLeft', WHERE WHAT IT READS IS OF BULK AT MOST 1048576: true; the input reads as it did. -/
def fnTakenLeftUptoRow : OpenClaim := { program := "ytdneljnldmhfoaadoor", sum := "ac189cfd9becc2a2b40c5fac4a1a8f02b57ad4257cb6c06cfb0ded894fb5df1d", func := "given.example/pub-typebar/laws.FnTakenLeft", spec := "fnTakenLeft", unfollowed := true, recurses := true, named := ["given.example/pub-typebar/pub/readline.runes"], apart := false, laid := [("given.example/pub-typebar/pub/readline.runes", laid_given_example_pub_typebar_pub_readline_runes)], narrowed := true }
def FnTakenLeftUptoSaid : Prop := fnTakenLeftUptoRow.holds Tryd.pinned (OpenSpec.upto fnTakenLeftSpec)

/-- 'laws.FnKeyPuts', WHERE WHAT IT READS IS OF BULK AT MOST 1048576: true; the input reads as it did. -/
def fnKeyPutsUptoRow : OpenClaim := { program := "ytdneljnldmhfoaadoor", sum := "ac189cfd9becc2a2b40c5fac4a1a8f02b57ad4257cb6c06cfb0ded894fb5df1d", func := "given.example/pub-typebar/laws.FnKeyPuts", spec := "fnKeyPuts", unfollowed := true, recurses := true, named := ["given.example/pub-typebar/pub/readline.runes"], apart := false, laid := [("given.example/pub-typebar/pub/readline.runes", laid_given_example_pub_typebar_pub_readline_runes)], narrowed := true }
def FnKeyPutsUptoSaid : Prop := fnKeyPutsUptoRow.holds Tryd.pinned (OpenSpec.upto fnKeyPutsSpec)

/-- 'laws.FnMoveTo', WHERE WHAT IT READS IS OF BULK AT MOST 1048576: true; the input reads as it did. -/
def fnMoveToUptoRow : OpenClaim := { program := "ytdneljnldmhfoaadoor", sum := "ac189cfd9becc2a2b40c5fac4a1a8f02b57ad4257cb6c06cfb0ded894fb5df1d", func := "given.example/pub-typebar/laws.FnMoveTo", spec := "fnMoveTo", unfollowed := true, recurses := true, named := ["given.example/pub-typebar/pub/readline.runes"], apart := false, laid := [("given.example/pub-typebar/pub/readline.runes", laid_given_example_pub_typebar_pub_readline_runes)], narrowed := true }
def FnMoveToUptoSaid : Prop := fnMoveToUptoRow.holds Tryd.pinned (OpenSpec.upto fnMoveToSpec)

end Rows
end Go.Proofs.YtdneljnldmhfoaaDoor
