/-
  No cell of these rows narrows 'for every input' (looked for: loops, veiled, ifaces, maps, wideKeys, modest, calm, conditions, laid).
  DERIVED. THE GIVEN ROWS OF THIS SEAT. 5 by the template 'for every input the law returns true; each argument reads behind the call as it read before'; 0 by the template 'total and deterministic' (their statements: YtedjjimabchffaaTotals.lean).
  GIVEN WITH THE SEED: the statements are not yours to turn. If you find one false, say at which input.
  Laid BY PROGRAM, IN A SANDBOX (cutbox-rows.mjs): the forced cells as the released guide's own fill.sh prints them over the translation f4fcfd473208fb74… (all of the seat's roots in one cut). By AI agents, Wed Nov 11 2026. No macro, syntax, notation, axiom, sorry.
-/
import Derived.Test.YtedjjimabchffaaChecked
import GoSem.Claim
import GoSem.ClaimJoined
import GoSem.ClaimMapViews
import Derived.JoinedTies
import Derived.KernelRfl
namespace Go.Proofs.Ytedjjimabchffaa
/- THE CELL 'sum', in the pinned program and in every row, IS THE sha256 OF THE DUMP (.gsa) THAT YtedjjimabchffaaProg.lean LOADS. Nothing in Lean hashes anything: it is a label: what it is worth is what the hold of that sum in a sandbox is worth. -/
noncomputable def Try.pinned : Pinned := { name := "ytedjjimabchffaa", sum := "f4fcfd473208fb74269aac96a6198ec67637a6ff3610353b716cf9c5ed53f61b", checked := Try.checked }
namespace Rows
def none {H : Type} : Left H := { results := [], args := [] }

/-- 'laws.FnDisplayAt': WHATEVER THE INPUT: true; the input reads as it did. -/
def fnDisplayAtSpec : ChangeSpec := { name := "fnDisplayAt", fn := fun _ => fun
  | [d] => { results := [.lit (.bool true)], args := [d] }
  | _ => none }
def fnDisplayAtRow : OpenClaim := { program := "ytedjjimabchffaa", sum := "f4fcfd473208fb74269aac96a6198ec67637a6ff3610353b716cf9c5ed53f61b", func := "given.example/pub-typebar/laws.FnDisplayAt", spec := "fnDisplayAt", apart := false }
def FnDisplayAtSaid : Prop := fnDisplayAtRow.holds Try.pinned (OpenSpec.ofChange fnDisplayAtSpec)

/-- ITS FALSE NEIGHBOUR: 'it returns false'. Refute it at one input. -/
def fnDisplayAtWrong : ChangeSpec := { name := "fnDisplayAt", fn := fun _ => fun
  | [d] => { results := [.lit (.bool false)], args := [d] }
  | _ => none }
def FnDisplayAtWrongFalsely : Prop := fnDisplayAtRow.holds Try.pinned (OpenSpec.ofChange fnDisplayAtWrong)

/-- 'laws.FnIndex': WHATEVER THE INPUT: true; the input reads as it did. -/
def fnIndexSpec : ChangeSpec := { name := "fnIndex", fn := fun _ => fun
  | [d1, d2, d3] => { results := [.lit (.bool true)], args := [d1, d2, d3] }
  | _ => none }
def fnIndexRow : OpenClaim := { program := "ytedjjimabchffaa", sum := "f4fcfd473208fb74269aac96a6198ec67637a6ff3610353b716cf9c5ed53f61b", func := "given.example/pub-typebar/laws.FnIndex", spec := "fnIndex", unfollowed := true, recurses := true, apart := false }
def FnIndexSaid : Prop := fnIndexRow.holds Try.pinned (OpenSpec.ofChange fnIndexSpec)

/-- ITS FALSE NEIGHBOUR: 'it returns false'. Refute it at one input. -/
def fnIndexWrong : ChangeSpec := { name := "fnIndex", fn := fun _ => fun
  | [d1, d2, d3] => { results := [.lit (.bool false)], args := [d1, d2, d3] }
  | _ => none }
def FnIndexWrongFalsely : Prop := fnIndexRow.holds Try.pinned (OpenSpec.ofChange fnIndexWrong)

/-- 'laws.FnPlaces': WHATEVER THE INPUT: true; the input reads as it did. -/
def fnPlacesSpec : ChangeSpec := { name := "fnPlaces", fn := fun _ => fun
  | [d] => { results := [.lit (.bool true)], args := [d] }
  | _ => none }
def fnPlacesRow : OpenClaim := { program := "ytedjjimabchffaa", sum := "f4fcfd473208fb74269aac96a6198ec67637a6ff3610353b716cf9c5ed53f61b", func := "given.example/pub-typebar/laws.FnPlaces", spec := "fnPlaces", unfollowed := true, recurses := true, apart := false }
def FnPlacesSaid : Prop := fnPlacesRow.holds Try.pinned (OpenSpec.ofChange fnPlacesSpec)

/-- ITS FALSE NEIGHBOUR: 'it returns false'. Refute it at one input. -/
def fnPlacesWrong : ChangeSpec := { name := "fnPlaces", fn := fun _ => fun
  | [d] => { results := [.lit (.bool false)], args := [d] }
  | _ => none }
def FnPlacesWrongFalsely : Prop := fnPlacesRow.holds Try.pinned (OpenSpec.ofChange fnPlacesWrong)

/-- 'laws.FnWordBounds': WHATEVER THE INPUT: true; the input reads as it did. -/
def fnWordBoundsSpec : ChangeSpec := { name := "fnWordBounds", fn := fun _ => fun
  | [d] => { results := [.lit (.bool true)], args := [d] }
  | _ => none }
def fnWordBoundsRow : OpenClaim := { program := "ytedjjimabchffaa", sum := "f4fcfd473208fb74269aac96a6198ec67637a6ff3610353b716cf9c5ed53f61b", func := "given.example/pub-typebar/laws.FnWordBounds", spec := "fnWordBounds", inPlace := ["internal/bytealg.IndexByteString"], unfollowed := true, recurses := true, apart := false }
def FnWordBoundsSaid : Prop := fnWordBoundsRow.holds Try.pinned (OpenSpec.ofChange fnWordBoundsSpec)

/-- ITS FALSE NEIGHBOUR: 'it returns false'. Refute it at one input. -/
def fnWordBoundsWrong : ChangeSpec := { name := "fnWordBounds", fn := fun _ => fun
  | [d] => { results := [.lit (.bool false)], args := [d] }
  | _ => none }
def FnWordBoundsWrongFalsely : Prop := fnWordBoundsRow.holds Try.pinned (OpenSpec.ofChange fnWordBoundsWrong)

/-- 'laws.FnWords': WHATEVER THE INPUT: true; the input reads as it did. -/
def fnWordsSpec : ChangeSpec := { name := "fnWords", fn := fun _ => fun
  | [d] => { results := [.lit (.bool true)], args := [d] }
  | _ => none }
def fnWordsRow : OpenClaim := { program := "ytedjjimabchffaa", sum := "f4fcfd473208fb74269aac96a6198ec67637a6ff3610353b716cf9c5ed53f61b", func := "given.example/pub-typebar/laws.FnWords", spec := "fnWords", inPlace := ["internal/bytealg.IndexByteString"], unfollowed := true, recurses := true, apart := false }
def FnWordsSaid : Prop := fnWordsRow.holds Try.pinned (OpenSpec.ofChange fnWordsSpec)

/-- ITS FALSE NEIGHBOUR: 'it returns false'. Refute it at one input. -/
def fnWordsWrong : ChangeSpec := { name := "fnWords", fn := fun _ => fun
  | [d] => { results := [.lit (.bool false)], args := [d] }
  | _ => none }
def FnWordsWrongFalsely : Prop := fnWordsRow.holds Try.pinned (OpenSpec.ofChange fnWordsWrong)

/- THE SECOND FORM. 'bulk': how many values and letters a reading holds, each counted each time it is reached (what is shared counts as often as it is met; a slice's spare places count too). A statement '..UptoSaid' is the law's where the arguments, and the package variables that the reading takes, are together of bulk at most 1048576: NARROWER than '..Said'. Prove '..Said' where nothing that the law and all that it calls make is longer than what came in: it says more and counts as full. Else prove '..UptoSaid'. A law counts once. -/
mutual
def uptoBulk {H : Type} : DataW H → Nat
  | .lit (.string bytes) => bytes.length + 1
  | .lit _ => 1
  | .nil => 1
  | .ptr d => uptoBulk d + 1
  | .slice elems spare => uptoBulkAll elems + uptoBulkAll spare + 1
  | .agg parts => uptoBulkAll parts + 1
  | .iface _ d => uptoBulk d + 1
  | .map entries => uptoBulkEntries entries + 1
  | .held _ => 1
def uptoBulkAll {H : Type} : List (DataW H) → Nat
  | [] => 0
  | d :: r => uptoBulk d + uptoBulkAll r
def uptoBulkEntries {H : Type} : List (Lit × DataW H) → Nat
  | [] => 0
  | x :: r => uptoBulkEntry x + uptoBulkEntries r
def uptoBulkEntry {H : Type} : Lit × DataW H → Nat
  | (.string bytes, d) => bytes.length + uptoBulk d + 1
  | (_, d) => uptoBulk d + 1
 end
def uptoSmall : (H : Type) → List (DataW H) → Bool := fun _ ds => decide (uptoBulkAll ds ≤ 1048576)
def OpenSpec.upto (s : _root_.Go.ChangeSpec) : _root_.Go.OpenSpec := { _root_.Go.OpenSpec.ofChange s with cond := some uptoSmall }

/-- 'laws.FnDisplayAt', WHERE WHAT IT READS IS OF BULK AT MOST 1048576: true; the input reads as it did. -/
def fnDisplayAtUptoRow : OpenClaim := { program := "ytedjjimabchffaa", sum := "f4fcfd473208fb74269aac96a6198ec67637a6ff3610353b716cf9c5ed53f61b", func := "given.example/pub-typebar/laws.FnDisplayAt", spec := "fnDisplayAt", apart := false, narrowed := true }
def FnDisplayAtUptoSaid : Prop := fnDisplayAtUptoRow.holds Try.pinned (OpenSpec.upto fnDisplayAtSpec)

/-- 'laws.FnIndex', WHERE WHAT IT READS IS OF BULK AT MOST 1048576: true; the input reads as it did. -/
def fnIndexUptoRow : OpenClaim := { program := "ytedjjimabchffaa", sum := "f4fcfd473208fb74269aac96a6198ec67637a6ff3610353b716cf9c5ed53f61b", func := "given.example/pub-typebar/laws.FnIndex", spec := "fnIndex", unfollowed := true, recurses := true, apart := false, narrowed := true }
def FnIndexUptoSaid : Prop := fnIndexUptoRow.holds Try.pinned (OpenSpec.upto fnIndexSpec)

/-- 'laws.FnPlaces', WHERE WHAT IT READS IS OF BULK AT MOST 1048576: true; the input reads as it did. -/
def fnPlacesUptoRow : OpenClaim := { program := "ytedjjimabchffaa", sum := "f4fcfd473208fb74269aac96a6198ec67637a6ff3610353b716cf9c5ed53f61b", func := "given.example/pub-typebar/laws.FnPlaces", spec := "fnPlaces", unfollowed := true, recurses := true, apart := false, narrowed := true }
def FnPlacesUptoSaid : Prop := fnPlacesUptoRow.holds Try.pinned (OpenSpec.upto fnPlacesSpec)

/-- 'laws.FnWordBounds', WHERE WHAT IT READS IS OF BULK AT MOST 1048576: true; the input reads as it did. -/
def fnWordBoundsUptoRow : OpenClaim := { program := "ytedjjimabchffaa", sum := "f4fcfd473208fb74269aac96a6198ec67637a6ff3610353b716cf9c5ed53f61b", func := "given.example/pub-typebar/laws.FnWordBounds", spec := "fnWordBounds", inPlace := ["internal/bytealg.IndexByteString"], unfollowed := true, recurses := true, apart := false, narrowed := true }
def FnWordBoundsUptoSaid : Prop := fnWordBoundsUptoRow.holds Try.pinned (OpenSpec.upto fnWordBoundsSpec)

/-- 'laws.FnWords', WHERE WHAT IT READS IS OF BULK AT MOST 1048576: true; the input reads as it did. -/
def fnWordsUptoRow : OpenClaim := { program := "ytedjjimabchffaa", sum := "f4fcfd473208fb74269aac96a6198ec67637a6ff3610353b716cf9c5ed53f61b", func := "given.example/pub-typebar/laws.FnWords", spec := "fnWords", inPlace := ["internal/bytealg.IndexByteString"], unfollowed := true, recurses := true, apart := false, narrowed := true }
def FnWordsUptoSaid : Prop := fnWordsUptoRow.holds Try.pinned (OpenSpec.upto fnWordsSpec)

end Rows
end Go.Proofs.Ytedjjimabchffaa
