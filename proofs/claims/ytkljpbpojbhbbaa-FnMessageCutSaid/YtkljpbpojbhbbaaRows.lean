/-
  No cell of these rows narrows 'for every input' (looked for: loops, veiled, ifaces, maps, wideKeys, modest, calm, conditions, laid).
  DERIVED. THE GIVEN ROWS OF THIS SEAT. 4 by the template 'for every input the law returns true; each argument reads behind the call as it read before'; 0 by the template 'total and deterministic' (their statements: YtkljpbpojbhbbaaTotals.lean).
  GIVEN WITH THE SEED: the statements are not yours to turn. If you find one false, say at which input.
  Laid BY PROGRAM, IN A SANDBOX (cutbox-rows.mjs): the forced cells as the released guide's own fill.sh prints them over the translation e8b2c5e39f26a731… (all of the seat's roots in one cut). By AI agents, Wed Nov 11 2026. No macro, syntax, notation, axiom, sorry.
-/
import Derived.Test.YtkljpbpojbhbbaaChecked
import GoSem.Claim
import GoSem.ClaimJoined
import GoSem.ClaimMapViews
import Derived.JoinedTies
import Derived.KernelRfl
namespace Go.Proofs.Ytkljpbpojbhbbaa
/- THE CELL 'sum', in the pinned program and in every row, IS THE sha256 OF THE DUMP (.gsa) THAT YtkljpbpojbhbbaaProg.lean LOADS. Nothing in Lean hashes anything: it is a label: what it is worth is what the hold of that sum in a sandbox is worth. -/
noncomputable def Try.pinned : Pinned := { name := "ytkljpbpojbhbbaa", sum := "e8b2c5e39f26a7317d6f44b002c629675040f750b70629e936d4eae8656465fa", checked := Try.checked }
namespace Rows
def none {H : Type} : Left H := { results := [], args := [] }

/-- 'laws.FnRunesIndex': WHATEVER THE INPUT: true; the input reads as it did. -/
def fnRunesIndexSpec : ChangeSpec := { name := "fnRunesIndex", fn := fun _ => fun
  | [d1, d2] => { results := [.lit (.bool true)], args := [d1, d2] }
  | _ => none }
def fnRunesIndexRow : OpenClaim := { program := "ytkljpbpojbhbbaa", sum := "e8b2c5e39f26a7317d6f44b002c629675040f750b70629e936d4eae8656465fa", func := "given.example/pub-typebar/laws.FnRunesIndex", spec := "fnRunesIndex", apart := false }
def FnRunesIndexSaid : Prop := fnRunesIndexRow.holds Try.pinned (OpenSpec.ofChange fnRunesIndexSpec)

/-- ITS FALSE NEIGHBOUR: 'it returns false'. Refute it at one input. -/
def fnRunesIndexWrong : ChangeSpec := { name := "fnRunesIndex", fn := fun _ => fun
  | [d1, d2] => { results := [.lit (.bool false)], args := [d1, d2] }
  | _ => none }
def FnRunesIndexWrongFalsely : Prop := fnRunesIndexRow.holds Try.pinned (OpenSpec.ofChange fnRunesIndexWrong)

/-- 'laws.FnLineCounted': WHATEVER THE INPUT: true; the input reads as it did. -/
def fnLineCountedSpec : ChangeSpec := { name := "fnLineCounted", fn := fun _ => fun
  | [d1, d2] => { results := [.lit (.bool true)], args := [d1, d2] }
  | _ => none }
def fnLineCountedRow : OpenClaim := { program := "ytkljpbpojbhbbaa", sum := "e8b2c5e39f26a7317d6f44b002c629675040f750b70629e936d4eae8656465fa", func := "given.example/pub-typebar/laws.FnLineCounted", spec := "fnLineCounted", unfollowed := true, recurses := true, apart := false }
def FnLineCountedSaid : Prop := fnLineCountedRow.holds Try.pinned (OpenSpec.ofChange fnLineCountedSpec)

/-- ITS FALSE NEIGHBOUR: 'it returns false'. Refute it at one input. -/
def fnLineCountedWrong : ChangeSpec := { name := "fnLineCounted", fn := fun _ => fun
  | [d1, d2] => { results := [.lit (.bool false)], args := [d1, d2] }
  | _ => none }
def FnLineCountedWrongFalsely : Prop := fnLineCountedRow.holds Try.pinned (OpenSpec.ofChange fnLineCountedWrong)

/-- 'laws.FnMessageCut': WHATEVER THE INPUT: true; the input reads as it did. -/
def fnMessageCutSpec : ChangeSpec := { name := "fnMessageCut", fn := fun _ => fun
  | [d1, d2, d3] => { results := [.lit (.bool true)], args := [d1, d2, d3] }
  | _ => none }
def fnMessageCutRow : OpenClaim := { program := "ytkljpbpojbhbbaa", sum := "e8b2c5e39f26a7317d6f44b002c629675040f750b70629e936d4eae8656465fa", func := "given.example/pub-typebar/laws.FnMessageCut", spec := "fnMessageCut", unfollowed := true, recurses := true, apart := false }
def FnMessageCutSaid : Prop := fnMessageCutRow.holds Try.pinned (OpenSpec.ofChange fnMessageCutSpec)

/-- ITS FALSE NEIGHBOUR: 'it returns false'. Refute it at one input. -/
def fnMessageCutWrong : ChangeSpec := { name := "fnMessageCut", fn := fun _ => fun
  | [d1, d2, d3] => { results := [.lit (.bool false)], args := [d1, d2, d3] }
  | _ => none }
def FnMessageCutWrongFalsely : Prop := fnMessageCutRow.holds Try.pinned (OpenSpec.ofChange fnMessageCutWrong)

/-- 'laws.FnEscapeEx': WHATEVER THE INPUT: true; the input reads as it did. -/
def fnEscapeExSpec : ChangeSpec := { name := "fnEscapeEx", fn := fun _ => fun
  | [d1, d2] => { results := [.lit (.bool true)], args := [d1, d2] }
  | _ => none }
def fnEscapeExRow : OpenClaim := { program := "ytkljpbpojbhbbaa", sum := "e8b2c5e39f26a7317d6f44b002c629675040f750b70629e936d4eae8656465fa", func := "given.example/pub-typebar/laws.FnEscapeEx", spec := "fnEscapeEx", apart := false }
def FnEscapeExSaid : Prop := fnEscapeExRow.holds Try.pinned (OpenSpec.ofChange fnEscapeExSpec)

/-- ITS FALSE NEIGHBOUR: 'it returns false'. Refute it at one input. -/
def fnEscapeExWrong : ChangeSpec := { name := "fnEscapeEx", fn := fun _ => fun
  | [d1, d2] => { results := [.lit (.bool false)], args := [d1, d2] }
  | _ => none }
def FnEscapeExWrongFalsely : Prop := fnEscapeExRow.holds Try.pinned (OpenSpec.ofChange fnEscapeExWrong)

/- THE SECOND FORM. 'bulk': how many values and letters a reading holds, each counted each time it is reached (what is shared counts as often as it is met; a slice's spare places count too). A statement '..UptoSaid' is the law's where the arguments, and the package variables that the reading takes, are together of bulk at most 1048576: NARROWER than '..Said'. Prove '..Said' where nothing that the law and all that it calls make is longer than what came in: it says more and counts as full. Else prove '..UptoSaid'. A law counts once. -/
mutual
def uptoBulk {H : Type} : DataW H → Nat
  | .lit (.string bytes) => bytes.length + 1
  | .lit _ => 1
  | .nil => 1
  | .ptr d => uptoBulk d + 1
  | .slice elems spare => uptoBulkAll elems + uptoBulkAll spare + 1
  | .agg parts => uptoBulkAll parts + 1
  | .iface _ d => uptoBulk d + 1
  | .map entries => uptoBulkEntries entries + 1
  | .held _ => 1
def uptoBulkAll {H : Type} : List (DataW H) → Nat
  | [] => 0
  | d :: r => uptoBulk d + uptoBulkAll r
def uptoBulkEntries {H : Type} : List (Lit × DataW H) → Nat
  | [] => 0
  | x :: r => uptoBulkEntry x + uptoBulkEntries r
def uptoBulkEntry {H : Type} : Lit × DataW H → Nat
  | (.string bytes, d) => bytes.length + uptoBulk d + 1
  | (_, d) => uptoBulk d + 1
 end
def uptoSmall : (H : Type) → List (DataW H) → Bool := fun _ ds => decide (uptoBulkAll ds ≤ 1048576)
def OpenSpec.upto (s : _root_.Go.ChangeSpec) : _root_.Go.OpenSpec := { _root_.Go.OpenSpec.ofChange s with cond := some uptoSmall }

/-- 'laws.FnRunesIndex', WHERE WHAT IT READS IS OF BULK AT MOST 1048576: true; the input reads as it did. -/
def fnRunesIndexUptoRow : OpenClaim := { program := "ytkljpbpojbhbbaa", sum := "e8b2c5e39f26a7317d6f44b002c629675040f750b70629e936d4eae8656465fa", func := "given.example/pub-typebar/laws.FnRunesIndex", spec := "fnRunesIndex", apart := false, narrowed := true }
def FnRunesIndexUptoSaid : Prop := fnRunesIndexUptoRow.holds Try.pinned (OpenSpec.upto fnRunesIndexSpec)

/-- 'laws.FnLineCounted', WHERE WHAT IT READS IS OF BULK AT MOST 1048576: true; the input reads as it did. -/
def fnLineCountedUptoRow : OpenClaim := { program := "ytkljpbpojbhbbaa", sum := "e8b2c5e39f26a7317d6f44b002c629675040f750b70629e936d4eae8656465fa", func := "given.example/pub-typebar/laws.FnLineCounted", spec := "fnLineCounted", unfollowed := true, recurses := true, apart := false, narrowed := true }
def FnLineCountedUptoSaid : Prop := fnLineCountedUptoRow.holds Try.pinned (OpenSpec.upto fnLineCountedSpec)

/-- 'laws.FnMessageCut', WHERE WHAT IT READS IS OF BULK AT MOST 1048576: true; the input reads as it did. -/
def fnMessageCutUptoRow : OpenClaim := { program := "ytkljpbpojbhbbaa", sum := "e8b2c5e39f26a7317d6f44b002c629675040f750b70629e936d4eae8656465fa", func := "given.example/pub-typebar/laws.FnMessageCut", spec := "fnMessageCut", unfollowed := true, recurses := true, apart := false, narrowed := true }
def FnMessageCutUptoSaid : Prop := fnMessageCutUptoRow.holds Try.pinned (OpenSpec.upto fnMessageCutSpec)

/-- 'laws.FnEscapeEx', WHERE WHAT IT READS IS OF BULK AT MOST 1048576: true; the input reads as it did. -/
def fnEscapeExUptoRow : OpenClaim := { program := "ytkljpbpojbhbbaa", sum := "e8b2c5e39f26a7317d6f44b002c629675040f750b70629e936d4eae8656465fa", func := "given.example/pub-typebar/laws.FnEscapeEx", spec := "fnEscapeEx", apart := false, narrowed := true }
def FnEscapeExUptoSaid : Prop := fnEscapeExUptoRow.holds Try.pinned (OpenSpec.upto fnEscapeExSpec)

end Rows
end Go.Proofs.Ytkljpbpojbhbbaa
