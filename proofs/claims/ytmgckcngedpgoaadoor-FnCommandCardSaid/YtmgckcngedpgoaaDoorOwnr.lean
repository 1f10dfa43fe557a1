/- Rows of the call's own: the lemmas of XZero and XSpec that need no Encoder. -/
import Derived.Test.YtmgckcngedpgoaaDoorZero
namespace Go.Proofs.YtmgckcngedpgoaaDoor.Kb
open Go Go.RowKit
set_option linter.unusedVariables false
set_option linter.unusedSimpArgs false
end Go.Proofs.YtmgckcngedpgoaaDoor.Kb
