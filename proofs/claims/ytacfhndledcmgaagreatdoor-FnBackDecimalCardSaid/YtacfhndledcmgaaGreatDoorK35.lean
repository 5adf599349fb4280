/- Lemmas for the law FnBackDecimal: the closed facts of the row. Conditions: those in each theorem; none besides. -/
import Derived.Test.YtacfhndledcmgaaGreatDoorRows
import Derived.Test.YtacfhndledcmgaaGreatDoorChecked
import Derived.JoinedOf
import Derived.KernelRfl
set_option linter.unusedVariables false
set_option linter.unusedSimpArgs false
namespace Go.Proofs.YtacfhndledcmgaaGreatDoor
set_option maxHeartbeats 40000000 in
theorem fnBackDecimal_closed : joinedFacts Tryz.pinned.checked.prog 9 Tryz.f9 Rows.fnBackDecimalSpec Rows.fnBackDecimalRow = true := by
  simp only [joinedFacts, Bool.and_eq_true]
  repeat' apply And.intro
  all_goals as_aux_lemma => kernel_rfl
end Go.Proofs.YtacfhndledcmgaaGreatDoor
