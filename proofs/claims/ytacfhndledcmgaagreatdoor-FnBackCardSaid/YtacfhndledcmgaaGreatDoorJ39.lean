/- THE LAW 'FnBack' IS PROVED: for every input that fits the law returns true, and the input reads as it did. Conditions: the row's own (the listed package-level variables hold what the program's text lays, which the card ties); none besides. -/
import Derived.Test.YtacfhndledcmgaaGreatDoorJ37
import Derived.Test.YtacfhndledcmgaaGreatDoorJ38
import Derived.Test.YtacfhndledcmgaaGreatDoorTie
import Derived.Test.YtacfhndledcmgaaGreatDoorCards
set_option linter.unusedVariables false
set_option linter.unusedSimpArgs false
namespace Go.Proofs.YtacfhndledcmgaaGreatDoor
open Go.RowKit
set_option maxHeartbeats 40000000 in
theorem fnBack_holds : Rows.FnBackSaid :=
  OpenClaim.holds_of_wide 8 Tryz.f8 rfl rfl rfl rfl rfl rfl rfl ⟨rfl, rfl, rfl, rfl, rfl⟩ rfl rfl rfl rfl rfl (by as_aux_lemma => kernel_rfl) Tryz.func8 fnBack_closed
    (of_decide_eq_true (by as_aux_lemma => kernel_rfl)) (by as_aux_lemma => (unfold Func.isWrapper; first | (rw [if_pos (by decide +kernel)]; kernel_rfl) | (rw [if_neg (by decide +kernel)]; exact ⟨rfl, rfl⟩)))
    (fun os started H enc _ => fnBack_lifted os started H enc)
set_option maxHeartbeats 40000000 in
theorem fnBack_card_holds : Rows.FnBackCardSaid :=
  Claim7.holds_tied_plain_at .later [] [.data, .data, .data, .data, .sentinel, .sentinel, .sentinel, .data, .sentinel, .sentinel, .data, .data, .data, .data, .data, .pinned] true (true, "7004332eaad55ccca43823dade336af8d419d72b59d3cde93fbff78c7539fdcd") true
    fnBack_holds (fun _ h => by cases h) (by as_aux_lemma => kernel_rfl) (fun _ h => by cases h) fnBack_row_tie rfl ⟨rfl, rfl⟩ (by as_aux_lemma => kernel_rfl) rfl
    (fun f fn hf hfn => by
      obtain rfl : f = 8 := Option.some.inj ((show Tryz.prog.funcNamed "loop.example/pub-g03235/laws.FnBack" = some 8 by as_aux_lemma => kernel_rfl).symm.trans hf) |>.symm
      obtain rfl : fn = Tryz.f8 := (Option.some.inj (Tryz.func8.symm.trans hfn)).symm
      exact ⟨by as_aux_lemma => kernel_rfl, fun j t ht => by
        rw [Tryz.params8] at ht
        have hm : t ∈ [43, 5] := by simpa using Array.mem_of_getElem? ht
        have hall : ([43, 5].all fun u => !Tryz.prog.wantsStandIn u) = true := by as_aux_lemma => kernel_rfl
        exact (show Tryz.prog.wantsStandIn t = false by simpa using List.all_eq_true.1 hall t hm)⟩)
    (by as_aux_lemma => kernel_rfl)
#print axioms fnBack_card_holds
end Go.Proofs.YtacfhndledcmgaaGreatDoor
