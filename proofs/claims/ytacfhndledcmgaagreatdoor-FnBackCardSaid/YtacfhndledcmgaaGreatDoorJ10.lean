/- Lemmas for the law FnBack: that the environment sets nothing. Conditions: those in each theorem; none besides. -/
import Derived.Test.YtacfhndledcmgaaGreatDoorJ8
import Derived.Test.YtacfhndledcmgaaGreatDoorJ9
import Derived.Test.YtacfhndledcmgaaGreatDoorRows
import Derived.Test.YtacfhndledcmgaaGreatDoorChecked
import Derived.ProofKit
import Derived.OpenShut
import Derived.LaidMore
import Derived.Lay
import Derived.OpenVars
import Derived.Carry
import Derived.ChangeSame
import Derived.ChangeVars
import Derived.SevenTiedAt
import Derived.Stop.Joined
set_option linter.unusedVariables false
set_option linter.unusedSimpArgs false
namespace Go.Proofs.YtacfhndledcmgaaGreatDoor
open Go.ChangeShapes Go.WideShapes Go.ChangeAt Go.RowKit
theorem own : ownKnob Tryz.prog.godebug = none := by kernel_rfl
theorem laidOut : laidOutB Tryz.prog = true := by kernel_rfl
theorem Chg.below {w w' : World} (h : Chg No w w') : Below w.heap.size w w' := ⟨h.os, h.tape, h.output, h.size, fun b hb => h.block b hb (fun _ f => f)⟩
theorem trodVars_length {H : Type} {enc : TypeId × Value → H} {P : Program} {w : World} {sp : Nat → Bool} : ∀ {ns : List String} {gs : List (DataW H)} {ps : List MemPlace}, DataW.TrodVars enc P w sp ns gs ps → gs.length = ns.length
  | [], [], _, _ => rfl
  | [], _ :: _, _, h => h.elim
  | _ :: _, [], _, h => h.elim
  | _ :: _, _ :: _, _, h => by
    obtain ⟨g, t, cs, fuel, p, q, _, _, _, _, hs, _⟩ := h
    simp [trodVars_length hs]
end Go.Proofs.YtacfhndledcmgaaGreatDoor
