/- laws.one9, with the case that both fail (printed by wip/gen/mkonelaw2.py). -/
import Derived.Test.YtoimdbmjpkmkfaaDoorOneLaw
import Derived.Test.YtoimdbmjpkmkfaaDoorPutsFail
namespace Go.Proofs.YtoimdbmjpkmkfaaDoor
open Go.RowKit
set_option linter.unusedVariables false
set_option linter.unusedSimpArgs false

/-- What the reference says of a step, and the package does: it is not said; or both fail; or both do the same. -/
def Agreed2 (e : Ky) (l : List Int) (k : Nat) : Prop :=
  (∃ m l' k' kept' bad', DoOk e l k [] m l' k' kept' bad' true) ∨
  (∃ m l' k' kept', DoOk e l k [] m l' k' kept' true false ∧ KeyBad e l k []) ∨
  ∃ m l' k' kept' kept'', DoOk e l k [] m l' k' kept' false false ∧ KeyOk e l k [] m l' k' kept'' ∧ l'.length ≤ 100000

end Go.Proofs.YtoimdbmjpkmkfaaDoor
