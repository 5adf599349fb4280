/- THE LAW 'FnBackDecimal' IS PROVED: for every input that fits the law returns true, and the input reads as it did. Conditions: the row's own (the listed package-level variables hold what the program's text lays, which the card ties); none besides. -/
import Derived.Test.YtacfhndledcmgaaGreatDoorK35
import Derived.Test.YtacfhndledcmgaaGreatDoorK38
import Derived.Test.YtacfhndledcmgaaGreatDoorTie
import Derived.Test.YtacfhndledcmgaaGreatDoorCards
set_option linter.unusedVariables false
set_option linter.unusedSimpArgs false
namespace Go.Proofs.YtacfhndledcmgaaGreatDoor
open Go.RowKit
set_option maxHeartbeats 40000000 in
theorem fnBackDecimal_holds : Rows.FnBackDecimalSaid :=
  OpenClaim.holds_of_wide 9 Tryz.f9 rfl rfl rfl rfl rfl rfl rfl ⟨rfl, rfl, rfl, rfl, rfl⟩ rfl rfl rfl rfl rfl (by as_aux_lemma => kernel_rfl) Tryz.func9 fnBackDecimal_closed
    (of_decide_eq_true (by as_aux_lemma => kernel_rfl)) (by as_aux_lemma => (unfold Func.isWrapper; first | (rw [if_pos (by decide +kernel)]; kernel_rfl) | (rw [if_neg (by decide +kernel)]; exact ⟨rfl, rfl⟩)))
    (fun os started H enc _ => fnBackDecimal_lifted os started H enc)
set_option maxHeartbeats 40000000 in
theorem fnBackDecimal_card_holds : Rows.FnBackDecimalCardSaid :=
  Claim7.holds_tied_plain_at .later [] [.data, .data, .data, .data, .sentinel, .sentinel, .sentinel, .data, .sentinel, .sentinel, .data, .data, .data, .data, .data, .pinned] true (true, "7004332eaad55ccca43823dade336af8d419d72b59d3cde93fbff78c7539fdcd") true
    fnBackDecimal_holds (fun _ h => by cases h) (by as_aux_lemma => kernel_rfl) (fun _ h => by cases h) fnBackDecimal_row_tie rfl ⟨rfl, rfl⟩ (by as_aux_lemma => kernel_rfl) rfl
    (fun f fn hf hfn => by
      obtain rfl : f = 9 := Option.some.inj ((show Tryz.prog.funcNamed "loop.example/pub-g03235/laws.FnBackDecimal" = some 9 by as_aux_lemma => kernel_rfl).symm.trans hf) |>.symm
      obtain rfl : fn = Tryz.f9 := (Option.some.inj (Tryz.func9.symm.trans hfn)).symm
      exact ⟨by as_aux_lemma => kernel_rfl, fun j t ht => by
        rw [Tryz.params9] at ht
        have hm : t ∈ [43, 5] := by simpa using Array.mem_of_getElem? ht
        have hall : ([43, 5].all fun u => !Tryz.prog.wantsStandIn u) = true := by as_aux_lemma => kernel_rfl
        exact (show Tryz.prog.wantsStandIn t = false by simpa using List.all_eq_true.1 hall t hm)⟩)
    (by as_aux_lemma => kernel_rfl)
#print axioms fnBackDecimal_card_holds
end Go.Proofs.YtacfhndledcmgaaGreatDoor
