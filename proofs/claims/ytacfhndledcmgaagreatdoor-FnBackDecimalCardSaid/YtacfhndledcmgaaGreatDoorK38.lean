/- Lemmas for the law FnBackDecimal: the row, lifted to shaped inputs. Conditions: those in each theorem; none besides. -/
import Derived.Test.YtacfhndledcmgaaGreatDoorK37
import Derived.Test.YtacfhndledcmgaaGreatDoorK33
import Derived.Test.YtacfhndledcmgaaGreatDoorK13
import Derived.Test.YtacfhndledcmgaaGreatDoorRows
import Derived.Test.YtacfhndledcmgaaGreatDoorChecked
import Derived.ProofKit
import Derived.OpenShut
import Derived.LaidMore
import Derived.Lay
import Derived.OpenVars
import Derived.Carry
import Derived.ChangeSame
import Derived.ChangeVars
import Derived.SevenTiedAt
import Derived.Stop.Joined
set_option linter.unusedVariables false
set_option linter.unusedSimpArgs false
namespace Go.Proofs.YtacfhndledcmgaaGreatDoor
open Go.ChangeShapes Go.WideShapes Go.ChangeAt Go.RowKit
set_option maxRecDepth 100000 in
theorem fnBackDecimal_lifted (os : Os) (started : os.Started) (H : Type) (enc : TypeId × Value → H) :
    ReturnsInHanded {} Tryz.checked os 9 .any (fun w args => (Rows.fnBackDecimalSpec.pre enc Tryz.prog Tryz.f9 [] false w args ∧ laidMetH Tryz.prog Rows.fnBackDecimalRow.laid w) ∧ sizedMet enc Tryz.prog Tryz.f9 (OpenSpec.ofChange Rows.fnBackDecimalSpec) false w args)
      (Rows.fnBackDecimalSpec.post enc Tryz.prog Tryz.f9 false true false false) := by
  refine returnsInHanded_of_change_and (C := Tryz.checked) (X := fun w _ => laidMetH Tryz.prog Rows.fnBackDecimalRow.laid w) (fun _ _ _ hh h => h.of_heap hh) own started (by kernel_rfl) Tryz.func9
    (ChangeSpec.witness_shaped (enc := enc) (C := Tryz.checked) (os := os) (X := fun w _ => laidMetH Tryz.prog Rows.fnBackDecimalRow.laid w) false (World.laidAll Tryz.prog os Rows.fnBackDecimalRow.laid) #[.agg #[.int .u64 0, .int .i64 0, .int .i64 0, .bool false, .slice none 0 0, .int .i64 0], .int .u8 0] 9 (World.laidAll_os _ _ _)
      (World.shaped_of_ZipB (by kernel_rfl) (by kernel_rfl)) (by kernel_rfl) (by kernel_rfl) (by kernel_rfl)
      (by rw [MakeChecks.laidMetH_plain _ _ _ (by kernel_rfl)]; exact laidMet_laidAll _ (by kernel_rfl) (by kernel_rfl))) ?_
  intro W base args ds gs before hval0 hW hc _ hL _
  have hval : ∀ (j : Nat) t v, Tryz.f9.params[j]? = some t → args[j]? = some v → Value.okWide Tryz.prog W .any base t v := hval0
  have hW' := hW
  obtain ⟨p, q, hA0, hV, rfl, hfz, hnd⟩ := hW
  have hA : DataW.TrodAll enc Tryz.prog W 0 (fun _ => true) true Tryz.f9.params.toList args.toList ds p := hA0
  rw [Tryz.params9] at hA hval
  obtain ⟨v0, v1, d0, d1, p0, p1, rfl, rfl, rfl, h0, h1⟩ := trodAll_two hA
  obtain ⟨P, M, F, n, A, l, c, E, rfl, hP, hr, hm, hle⟩ := open_real (hval 0 43 v0 rfl rfl) h0
  obtain ⟨z, rfl, rfl, rfl, wz⟩ := open_int Tryz.underlying5 (hval 1 5 v1 rfl rfl) h1
  obtain ⟨z1, z2⟩ := bounds_u8 wz
  obtain ⟨k, rfl⟩ : ∃ k : Nat, z = (k : Int) := ⟨z.toNat, by omega⟩
  obtain ⟨g1, g2, g3, g4, g5, g6, g7, g8, rfl⟩ : ∃ g1 g2 g3 g4 g5 g6 g7 g8, gs = [g1, g2, g3, g4, g5, g6, g7, g8] := by
    have hlen := trodVars_length hV
    match gs, hlen with
    | [g1, g2, g3, g4, g5, g6, g7, g8], _ => exact ⟨g1, g2, g3, g4, g5, g6, g7, g8, rfl⟩
  obtain ⟨hGl, hP5, eo, hEo⟩ := glob_of_laid3 hL
  refine (law_FnBackDecimal P M F n A c l E k eo W hP hr hm hle (by omega) hGl hP5 hEo).mono fun e W' ⟨he, hw⟩ => ?_
  subst he
  have hb := hw.below
  have hlt : ∀ x ∈ p0, x.block < W.heap.size := fun x hx => hW'.lt x (by simp [hx])
  exact ⟨_, rfl, _, _, _, [], p0 ++ [], q, hW', trodAll_mk1 (shut_bool Tryz.underlying4 _), trodAll_mk2 (Below.trod laidOut (by kernel_rfl) (Nat.le_of_ble_eq_true (by kernel_rfl)) h0 hb hlt) (shut_int Tryz.underlying5 wz), hb.trodVars laidOut (by kernel_rfl) hV, hb.frame _, fun h => by cases h⟩
end Go.Proofs.YtacfhndledcmgaaGreatDoor
