/- Plain words that the walks of this seat share. -/
import Derived.Test.YtbibokkclejapaaDoorRows
import Derived.WalkKit
import Derived.ProofKit
import Derived.WalkLawsBesides
import Derived.WalkSpells
import Derived.Handy
import Derived.Lib.Hide
import Derived.Shelf.Abstract
namespace Go.Proofs.YtbibokkclejapaaDoor
open Go.RowKit

/-- Some bool comes back, the world is as it was. -/
def SomeBool (w : World) (e : Ending) (w' : World) : Prop := ∃ b, e = .returned (.bool b) ∧ w = w'
theorem SomeBool.mk {w : World} {e : Ending} {b : Bool} (h : e = .returned (.bool b)) : SomeBool w e w := ⟨b, h, rfl⟩
end Go.Proofs.YtbibokkclejapaaDoor
