/- laws.one9. -/
import Derived.Test.YtoimdbmjpkmkfaaDoorKey9
namespace Go.Proofs.YtoimdbmjpkmkfaaDoor
open Go.RowKit
set_option linter.unusedVariables false
set_option linter.unusedSimpArgs false

def TruePost (w : World) (e : Ending) (w' : World) : Prop := e = .returned (.bool true) ∧ Below w.heap.size w w'

/-- What the reference says of a step, and the package does: it is not said; or both fail; or both do the same. -/
def Agreed (e : Ky) (l : List Int) (k : Nat) : Prop :=
  (∃ m l' k' kept' bad', DoOk e l k [] m l' k' kept' bad' true) ∨
  (∃ m l' k' kept', DoOk e l k [] m l' k' kept' true false ∧ False) ∨
  ∃ m l' k' kept' kept'', DoOk e l k [] m l' k' kept' false false ∧ KeyOk e l k [] m l' k' kept'' ∧ l'.length ≤ 100000

end Go.Proofs.YtoimdbmjpkmkfaaDoor
