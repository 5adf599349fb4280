/- Lemmas for the law FnOtherFormat: words on the left and slices. Conditions: those in each theorem; none besides. -/
import Derived.Test.YtacfhndledcmgaaGreatDoorI7
import Derived.Test.YtacfhndledcmgaaGreatDoorI8
set_option linter.unusedVariables false
set_option linter.unusedSimpArgs false
namespace Go.Proofs.YtacfhndledcmgaaGreatDoor
open Go.RowKit
theorem noWB_slice (A : Option Addr) (n c : Nat) : NoWB (.slice A n c) := ⟨by simp, by simp⟩
end Go.Proofs.YtacfhndledcmgaaGreatDoor
