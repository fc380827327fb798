/- laws.short9. -/
import Derived.Test.YtoimdbmjpkmkfaaDoorRbGuards
namespace Go.Proofs.YtoimdbmjpkmkfaaDoor
open Go.RowKit
set_option linter.unusedVariables false
set_option linter.unusedSimpArgs false

end Go.Proofs.YtoimdbmjpkmkfaaDoor
