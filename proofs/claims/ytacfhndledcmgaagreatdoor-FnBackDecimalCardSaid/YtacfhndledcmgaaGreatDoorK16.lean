/- Lemmas for the law FnBackDecimal: Append with format e. Conditions: those in each theorem; none besides. -/
import Derived.Test.YtacfhndledcmgaaGreatDoorK15
set_option linter.unusedVariables false
set_option linter.unusedSimpArgs false
namespace Go.Proofs.YtacfhndledcmgaaGreatDoor
open Go.RowKit
end Go.Proofs.YtacfhndledcmgaaGreatDoor
