/-
  NARROWER THAN 'FOR EVERY INPUT', by the rows' own cells (each row's printed sentence says how): FnKey: laid.
  DERIVED. THE GIVEN ROWS OF THIS SEAT. 1 by the template 'for every input the law returns true; each argument reads behind the call as it read before'; 0 by the template 'total and deterministic' (their statements: YtkjahndemlladaaDoorTotals.lean).
  GIVEN WITH THE SEED: the statements are not yours to turn. If you find one false, say at which input.
  Laid BY PROGRAM, IN A SANDBOX (cutbox-rows.mjs): the forced cells as the released guide's own fill.sh prints them over the translation 04e8545c5192ebd4… (all of the seat's roots in one cut). By AI agents, Wed Nov 11 2026. No macro, syntax, notation, axiom, sorry.
-/
import Derived.Test.YtkjahndemlladaaDoorChecked
import GoSem.Claim
import GoSem.ClaimJoined
import GoSem.ClaimMapViews
import Derived.JoinedTies
import Derived.KernelRfl
namespace Go.Proofs.YtkjahndemlladaaDoor
/- THE CELL 'sum', in the pinned program and in every row, IS THE sha256 OF THE DUMP (.gsa) THAT YtkjahndemlladaaDoorProg.lean LOADS. Nothing in Lean hashes anything: it is a label: what it is worth is what the hold of that sum in a sandbox is worth. -/
noncomputable def Tryd.pinned : Pinned := { name := "ytkjahndemlladaadoor", sum := "04e8545c5192ebd49a9dd5bfee1c1d77f0b63d8c55e37a960c6207c23aa9a42a", checked := Tryd.checked }
namespace Rows
def none {H : Type} : Left H := { results := [], args := [] }

/- WHAT THE LISTED PACKAGE-LEVEL VARIABLES READ AS WHEN THE CALL BEGINS. Each datum BY PROGRAM (the guide's laid-datum.mjs) off the statement by which the dump's own 'gosem.cut.vars' lays the variable. In a bare row this is a premise. The card (YtkjahndemlladaaDoorCards.lean) ties it to the program's text. -/
def laid_math_bits_deBruijn32tab {H : Type} : DataW H := .agg [.lit (.int .u8 0), .lit (.int .u8 1), .lit (.int .u8 28), .lit (.int .u8 2), .lit (.int .u8 29), .lit (.int .u8 14), .lit (.int .u8 24), .lit (.int .u8 3), .lit (.int .u8 30), .lit (.int .u8 22), .lit (.int .u8 20), .lit (.int .u8 15), .lit (.int .u8 25), .lit (.int .u8 17), .lit (.int .u8 4), .lit (.int .u8 8), .lit (.int .u8 31), .lit (.int .u8 27), .lit (.int .u8 13), .lit (.int .u8 23), .lit (.int .u8 21), .lit (.int .u8 19), .lit (.int .u8 16), .lit (.int .u8 7), .lit (.int .u8 26), .lit (.int .u8 12), .lit (.int .u8 18), .lit (.int .u8 6), .lit (.int .u8 11), .lit (.int .u8 5), .lit (.int .u8 10), .lit (.int .u8 9)]
def laid_math_bits_deBruijn64tab {H : Type} : DataW H := .agg [.lit (.int .u8 0), .lit (.int .u8 1), .lit (.int .u8 56), .lit (.int .u8 2), .lit (.int .u8 57), .lit (.int .u8 49), .lit (.int .u8 28), .lit (.int .u8 3), .lit (.int .u8 61), .lit (.int .u8 58), .lit (.int .u8 42), .lit (.int .u8 50), .lit (.int .u8 38), .lit (.int .u8 29), .lit (.int .u8 17), .lit (.int .u8 4), .lit (.int .u8 62), .lit (.int .u8 47), .lit (.int .u8 59), .lit (.int .u8 36), .lit (.int .u8 45), .lit (.int .u8 43), .lit (.int .u8 51), .lit (.int .u8 22), .lit (.int .u8 53), .lit (.int .u8 39), .lit (.int .u8 33), .lit (.int .u8 30), .lit (.int .u8 24), .lit (.int .u8 18), .lit (.int .u8 12), .lit (.int .u8 5), .lit (.int .u8 63), .lit (.int .u8 55), .lit (.int .u8 48), .lit (.int .u8 27), .lit (.int .u8 60), .lit (.int .u8 41), .lit (.int .u8 37), .lit (.int .u8 16), .lit (.int .u8 46), .lit (.int .u8 35), .lit (.int .u8 44), .lit (.int .u8 21), .lit (.int .u8 52), .lit (.int .u8 32), .lit (.int .u8 23), .lit (.int .u8 11), .lit (.int .u8 54), .lit (.int .u8 26), .lit (.int .u8 40), .lit (.int .u8 15), .lit (.int .u8 34), .lit (.int .u8 20), .lit (.int .u8 31), .lit (.int .u8 10), .lit (.int .u8 25), .lit (.int .u8 14), .lit (.int .u8 19), .lit (.int .u8 9), .lit (.int .u8 13), .lit (.int .u8 8), .lit (.int .u8 7), .lit (.int .u8 6)]
def laid_internal_strconv_uint64pow10 {H : Type} : DataW H := .agg [.lit (.int .u64 1), .lit (.int .u64 10), .lit (.int .u64 100), .lit (.int .u64 1000), .lit (.int .u64 10000), .lit (.int .u64 100000), .lit (.int .u64 1000000), .lit (.int .u64 10000000), .lit (.int .u64 100000000), .lit (.int .u64 1000000000), .lit (.int .u64 10000000000), .lit (.int .u64 100000000000), .lit (.int .u64 1000000000000), .lit (.int .u64 10000000000000), .lit (.int .u64 100000000000000), .lit (.int .u64 1000000000000000), .lit (.int .u64 10000000000000000), .lit (.int .u64 100000000000000000), .lit (.int .u64 1000000000000000000), .lit (.int .u64 10000000000000000000)]
def laid_given_example_pub_typebar_pub_goprompt_Key_index {H : Type} : DataW H := .agg [.lit (.int .u16 0), .lit (.int .u16 6), .lit (.int .u16 14), .lit (.int .u16 22), .lit (.int .u16 30), .lit (.int .u16 38), .lit (.int .u16 46), .lit (.int .u16 54), .lit (.int .u16 62), .lit (.int .u16 70), .lit (.int .u16 78), .lit (.int .u16 86), .lit (.int .u16 94), .lit (.int .u16 102), .lit (.int .u16 110), .lit (.int .u16 118), .lit (.int .u16 126), .lit (.int .u16 134), .lit (.int .u16 142), .lit (.int .u16 150), .lit (.int .u16 158), .lit (.int .u16 166), .lit (.int .u16 174), .lit (.int .u16 182), .lit (.int .u16 190), .lit (.int .u16 198), .lit (.int .u16 206), .lit (.int .u16 214), .lit (.int .u16 226), .lit (.int .u16 242), .lit (.int .u16 260), .lit (.int .u16 277), .lit (.int .u16 294), .lit (.int .u16 305), .lit (.int .u16 317), .lit (.int .u16 326), .lit (.int .u16 337), .lit (.int .u16 339), .lit (.int .u16 343), .lit (.int .u16 348), .lit (.int .u16 352), .lit (.int .u16 361), .lit (.int .u16 368), .lit (.int .u16 377), .lit (.int .u16 387), .lit (.int .u16 391), .lit (.int .u16 394), .lit (.int .u16 400), .lit (.int .u16 411), .lit (.int .u16 424), .lit (.int .u16 430), .lit (.int .u16 438), .lit (.int .u16 445), .lit (.int .u16 451), .lit (.int .u16 460), .lit (.int .u16 463), .lit (.int .u16 468), .lit (.int .u16 470), .lit (.int .u16 472), .lit (.int .u16 474), .lit (.int .u16 476), .lit (.int .u16 478), .lit (.int .u16 480), .lit (.int .u16 482), .lit (.int .u16 484), .lit (.int .u16 486), .lit (.int .u16 489), .lit (.int .u16 492), .lit (.int .u16 495), .lit (.int .u16 498), .lit (.int .u16 501), .lit (.int .u16 504), .lit (.int .u16 507), .lit (.int .u16 510), .lit (.int .u16 513), .lit (.int .u16 516), .lit (.int .u16 519), .lit (.int .u16 522), .lit (.int .u16 525), .lit (.int .u16 528), .lit (.int .u16 531), .lit (.int .u16 534), .lit (.int .u16 545), .lit (.int .u16 560), .lit (.int .u16 577), .lit (.int .u16 591), .lit (.int .u16 597), .lit (.int .u16 607)]

/-- 'laws.FnKey': WHATEVER THE INPUT: true; the input reads as it did. -/
def fnKeySpec : ChangeSpec := { name := "fnKey", vars := ["given.example/pub-typebar/pub/goprompt._Key_index"], fn := fun _ => fun
  | [d, g1] => { results := [.lit (.bool true)], args := [d], vars := [g1] }
  | _ => none }
def fnKeyRow : OpenClaim := { program := "ytkjahndemlladaadoor", sum := "04e8545c5192ebd49a9dd5bfee1c1d77f0b63d8c55e37a960c6207c23aa9a42a", func := "given.example/pub-typebar/laws.FnKey", spec := "fnKey", named := ["given.example/pub-typebar/pub/goprompt._Key_index", "internal/strconv.uint64pow10", "math/bits.deBruijn32tab", "math/bits.deBruijn64tab"], apart := false, laid := [("math/bits.deBruijn32tab", laid_math_bits_deBruijn32tab), ("math/bits.deBruijn64tab", laid_math_bits_deBruijn64tab), ("internal/strconv.uint64pow10", laid_internal_strconv_uint64pow10), ("given.example/pub-typebar/pub/goprompt._Key_index", laid_given_example_pub_typebar_pub_goprompt_Key_index)] }
def FnKeySaid : Prop := fnKeyRow.holds Tryd.pinned (OpenSpec.ofChange fnKeySpec)

/-- ITS FALSE NEIGHBOUR: 'it returns false'. Refute it at one input. -/
def fnKeyWrong : ChangeSpec := { name := "fnKey", vars := ["given.example/pub-typebar/pub/goprompt._Key_index"], fn := fun _ => fun
  | [d, g1] => { results := [.lit (.bool false)], args := [d], vars := [g1] }
  | _ => none }
def FnKeyWrongFalsely : Prop := fnKeyRow.holds Tryd.pinned (OpenSpec.ofChange fnKeyWrong)

/- THE SECOND FORM. 'bulk': how many values and letters a reading holds, each counted each time it is reached (what is shared counts as often as it is met; a slice's spare places count too). A statement '..UptoSaid' is the law's where the arguments, and the package variables that the reading takes, are together of bulk at most 1048576: NARROWER than '..Said'. Prove '..Said' where nothing that the law and all that it calls make is longer than what came in: it says more and counts as full. Else prove '..UptoSaid'. A law counts once. -/
mutual
def uptoBulk {H : Type} : DataW H → Nat
  | .lit (.string bytes) => bytes.length + 1
  | .lit _ => 1
  | .nil => 1
  | .ptr d => uptoBulk d + 1
  | .slice elems spare => uptoBulkAll elems + uptoBulkAll spare + 1
  | .agg parts => uptoBulkAll parts + 1
  | .iface _ d => uptoBulk d + 1
  | .map entries => uptoBulkEntries entries + 1
  | .held _ => 1
def uptoBulkAll {H : Type} : List (DataW H) → Nat
  | [] => 0
  | d :: r => uptoBulk d + uptoBulkAll r
def uptoBulkEntries {H : Type} : List (Lit × DataW H) → Nat
  | [] => 0
  | x :: r => uptoBulkEntry x + uptoBulkEntries r
def uptoBulkEntry {H : Type} : Lit × DataW H → Nat
  | (.string bytes, d) => bytes.length + uptoBulk d + 1
  | (_, d) => uptoBulk d + 1
 end
def uptoSmall : (H : Type) → List (DataW H) → Bool := fun _ ds => decide (uptoBulkAll ds ≤ 1048576)
def OpenSpec.upto (s : _root_.Go.ChangeSpec) : _root_.Go.OpenSpec := { _root_.Go.OpenSpec.ofChange s with cond := some uptoSmall }

/-- 'laws.FnKey', WHERE WHAT IT READS IS OF BULK AT MOST 1048576: true; the input reads as it did. -/
def fnKeyUptoRow : OpenClaim := { program := "ytkjahndemlladaadoor", sum := "04e8545c5192ebd49a9dd5bfee1c1d77f0b63d8c55e37a960c6207c23aa9a42a", func := "given.example/pub-typebar/laws.FnKey", spec := "fnKey", named := ["given.example/pub-typebar/pub/goprompt._Key_index", "internal/strconv.uint64pow10", "math/bits.deBruijn32tab", "math/bits.deBruijn64tab"], apart := false, laid := [("math/bits.deBruijn32tab", laid_math_bits_deBruijn32tab), ("math/bits.deBruijn64tab", laid_math_bits_deBruijn64tab), ("internal/strconv.uint64pow10", laid_internal_strconv_uint64pow10), ("given.example/pub-typebar/pub/goprompt._Key_index", laid_given_example_pub_typebar_pub_goprompt_Key_index)], narrowed := true }
def FnKeyUptoSaid : Prop := fnKeyUptoRow.holds Tryd.pinned (OpenSpec.upto fnKeySpec)

end Rows
end Go.Proofs.YtkjahndemlladaaDoor
