/- Lemmas for the law FnBackDecimal: the argument opened, that the environment sets nothing. Conditions: those in each theorem; none besides. -/
import Derived.Test.YtacfhndledcmgaaGreatDoorK7
import Derived.OpenShut
import Derived.Lib.SmallJoins
import Derived.ChangeSlices
import Derived.Test.YtacfhndledcmgaaGreatDoorK12
import Derived.Test.YtacfhndledcmgaaGreatDoorRows
import Derived.Test.YtacfhndledcmgaaGreatDoorChecked
import Derived.ProofKit
import Derived.LaidMore
import Derived.Lay
import Derived.OpenVars
import Derived.Carry
import Derived.ChangeSame
import Derived.ChangeVars
import Derived.SevenTiedAt
import Derived.Stop.Joined
set_option linter.unusedVariables false
set_option linter.unusedSimpArgs false
namespace Go.Proofs.YtacfhndledcmgaaGreatDoor
open Go.ChangeShapes Go.WideShapes Go.ChangeAt Go.RowKit
theorem array6 {α : Type} {cs : Array α} (h : cs.size = 6) : ∃ c0 c1 c2 c3 c4 c5, cs = #[c0, c1, c2, c3, c4, c5] := by
  obtain ⟨l⟩ := cs
  match l, h with
  | [c0, c1, c2, c3, c4, c5], _ => exact ⟨c0, c1, c2, c3, c4, c5, rfl⟩
set_option maxRecDepth 100000 in
/-- A Real that came in, opened. -/
theorem open_real {H : Type} {enc : TypeId × Value → H} {W : World} {r : Reach} {b0 base : Nat} {spare : Nat → Bool} {held : Bool} {v : Value} {d : DataW H} {p : List MemPlace} (hv : Value.okWide Tryz.prog W r b0 43 v) (h : DataW.Trod enc Tryz.prog W base spare held 43 v d p) :
    ∃ (P : Nat) (M F : Int) (n : Bool) (A : Option Addr) (l : List Nat) (c : Nat) (E : Int), v = .agg #[.int .u64 P, .int .i64 M, .int .i64 F, .bool n, .slice A l.length c, .int .i64 E] ∧ P < 18446744073709551616 ∧ RdU W A l ∧ (∀ x ∈ l, x < WB) ∧ l.length ≤ c := by
  have c6 : Tryz.prog.cellsOf 43 = 6 := by kernel_rfl
  have k3 : Tryz.prog.cellsOf 3 = 1 := by kernel_rfl
  have k4 : Tryz.prog.cellsOf 4 = 1 := by kernel_rfl
  have k41 : Tryz.prog.cellsOf 41 = 1 := by kernel_rfl
  have k22 : Tryz.prog.cellsOf 22 = 1 := by kernel_rfl
  obtain ⟨cs, rfl, hsz⟩ := okWide_struct Tryz.underlying43 hv
  obtain ⟨v0, v1, v2, v3, v4, v5, rfl⟩ := array6 (hsz.trans c6)
  obtain ⟨fuel, hf⟩ := h
  obtain ⟨xs, m, _, ex, hl, hlen, hel⟩ := DataW.trod_struct Tryz.underlying43 hf
  obtain ⟨y0, y1, y2, y3, y4, y5, rfl⟩ : ∃ y0 y1 y2 y3 y4 y5, xs = [y0, y1, y2, y3, y4, y5] := by
    match xs, hlen with
    | [y0, y1, y2, y3, y4, y5], _ => exact ⟨y0, y1, y2, y3, y4, y5, rfl⟩
  have g0 : DataW.trod enc Tryz.prog W base spare held m 41 (([v0, v1, v2, v3, v4, v5].drop 0).take (Tryz.prog.cellsOf 41)) = some y0 := hel 0 _ rfl
  rw [k41] at g0
  have g0 : DataW.trod enc Tryz.prog W base spare held m 41 [v0] = some y0 := g0
  have g1 : DataW.trod enc Tryz.prog W base spare held m 3 (([v0, v1, v2, v3, v4, v5].drop 1).take (Tryz.prog.cellsOf 3)) = some y1 := hel 1 _ rfl
  rw [k3] at g1
  have g1 : DataW.trod enc Tryz.prog W base spare held m 3 [v1] = some y1 := g1
  have g2 : DataW.trod enc Tryz.prog W base spare held m 3 (([v0, v1, v2, v3, v4, v5].drop 2).take (Tryz.prog.cellsOf 3)) = some y2 := hel 2 _ rfl
  rw [k3] at g2
  have g2 : DataW.trod enc Tryz.prog W base spare held m 3 [v2] = some y2 := g2
  have g3 : DataW.trod enc Tryz.prog W base spare held m 4 (([v0, v1, v2, v3, v4, v5].drop 3).take (Tryz.prog.cellsOf 4)) = some y3 := hel 3 _ rfl
  rw [k4] at g3
  have g3 : DataW.trod enc Tryz.prog W base spare held m 4 [v3] = some y3 := g3
  have g4 : DataW.trod enc Tryz.prog W base spare held m 22 (([v0, v1, v2, v3, v4, v5].drop 4).take (Tryz.prog.cellsOf 22)) = some y4 := hel 4 _ rfl
  rw [k22] at g4
  have g4 : DataW.trod enc Tryz.prog W base spare held m 22 [v4] = some y4 := g4
  have g5 : DataW.trod enc Tryz.prog W base spare held m 3 (([v0, v1, v2, v3, v4, v5].drop 5).take (Tryz.prog.cellsOf 3)) = some y5 := hel 5 _ rfl
  rw [k3] at g5
  have g5 : DataW.trod enc Tryz.prog W base spare held m 3 [v5] = some y5 := g5
  obtain ⟨z0, e0, _, w0⟩ := DataW.trod_int Tryz.underlying41 g0
  obtain ⟨z1, e1, _, w1⟩ := DataW.trod_int Tryz.underlying3 g1
  obtain ⟨z2, e2, _, w2⟩ := DataW.trod_int Tryz.underlying3 g2
  obtain ⟨z3, e3, _⟩ := DataW.trod_bool Tryz.underlying4 g3
  obtain ⟨z5, e5, _, w5⟩ := DataW.trod_int Tryz.underlying3 g5
  simp only [List.cons.injEq, and_true] at e0 e1 e2 e3 e5
  subst e0; subst e1; subst e2; subst e3; subst e5
  obtain ⟨b1, b2⟩ := bounds_u64 w0
  obtain ⟨P, rfl⟩ : ∃ P : Nat, z0 = (P : Int) := ⟨z0.toNat, by omega⟩
  rcases open_ints Tryz.underlying22 Tryz.underlying41 k41 g4 with ⟨e4, _⟩ | ⟨a, len, cap, zs, e4, _, hlc, _, hzl, _, hcell, hwf⟩
  · obtain rfl : v4 = .slice none 0 0 := List.head_eq_of_cons_eq e4
    exact ⟨P, z1, z2, z3, none, [], 0, z5, rfl, by omega, fun i hi => absurd hi (by simp), by simp, Nat.le_refl _⟩
  · obtain rfl : v4 = .slice (some a) len cap := List.head_eq_of_cons_eq e4
    have hle : len ≤ zs.length := by rw [hzl]; split <;> omega
    have hl2 : ((zs.take len).map Int.toNat).length = len := by simp; omega
    have hpos : ∀ x ∈ zs, 0 ≤ x ∧ x ≤ 18446744073709551615 := fun x hx => bounds_u64 (hwf x hx)
    refine ⟨P, z1, z2, z3, some a, (zs.take len).map Int.toNat, cap, z5, by rw [hl2], by omega, fun i hi => ⟨a, rfl, ?_⟩, fun x hx => ?_, by rw [hl2]; exact hlc⟩
    · rw [hl2] at hi
      rw [hcell i (by omega)]
      have hx := hpos (zs[i]'(by omega)) (List.getElem_mem _)
      have e : zs.getD i 0 = zs[i]'(by omega) := by simp [List.getD, show i < zs.length by omega]
      rw [e]
      simp only [List.getElem_map, List.getElem_take]
      rw [Int.toNat_of_nonneg hx.1]
    · obtain ⟨y, hy, rfl⟩ := List.mem_map.1 hx
      have := hpos y (List.mem_of_mem_take hy)
      unfold WB; omega
theorem own : ownKnob Tryz.prog.godebug = none := by kernel_rfl
theorem laidOut : laidOutB Tryz.prog = true := by kernel_rfl
theorem Chg.below {w w' : World} (h : Chg No w w') : Below w.heap.size w w' := ⟨h.os, h.tape, h.output, h.size, fun b hb => h.block b hb (fun _ f => f)⟩
theorem trodVars_length {H : Type} {enc : TypeId × Value → H} {P : Program} {w : World} {sp : Nat → Bool} : ∀ {ns : List String} {gs : List (DataW H)} {ps : List MemPlace}, DataW.TrodVars enc P w sp ns gs ps → gs.length = ns.length
  | [], [], _, _ => rfl
  | [], _ :: _, _, h => h.elim
  | _ :: _, [], _, h => h.elim
  | _ :: _, _ :: _, _, h => by
    obtain ⟨g, t, cs, fuel, p, q, _, _, _, _, hs, _⟩ := h
    simp [trodVars_length hs]
end Go.Proofs.YtacfhndledcmgaaGreatDoor
