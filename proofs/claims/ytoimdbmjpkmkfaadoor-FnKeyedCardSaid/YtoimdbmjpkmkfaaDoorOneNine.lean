/- laws.one9: one step on a line, by the package and by the reference. -/
import Derived.Test.YtoimdbmjpkmkfaaDoorEdMove
import Derived.Test.YtoimdbmjpkmkfaaDoorRbGuards
import Derived.Test.YtoimdbmjpkmkfaaDoorRbKeyed
namespace Go.Proofs.YtoimdbmjpkmkfaaDoor
open Go.RowKit
set_option linter.unusedVariables false
set_option linter.unusedSimpArgs false

/-- A step that is looked at. -/
def Keyd (e : Ky) : Prop := IsAscii e.s ∧ e.s.size ≤ 100 ∧ (e.op = 8 ∨ e.op = 19 → 0 < e.n ∧ e.n < 128)
def Key9Post (e : Ky) (w : World) (en : Ending) (w' : World) : Prop := ∃ b, en = .returned (.bool b) ∧ (b = true → Keyd e) ∧ Below w.heap.size w w'

def OncePost (out : ByteArray) (k' : Nat) (m : Int) (w : World) (e : Ending) (w' : World) : Prop :=
  e = .returned (.tuple #[.agg #[.string out, .int .i64 (k' : Nat)], .int .i64 m, .bool true]) ∧ Below w.heap.size w w'

end Go.Proofs.YtoimdbmjpkmkfaaDoor
