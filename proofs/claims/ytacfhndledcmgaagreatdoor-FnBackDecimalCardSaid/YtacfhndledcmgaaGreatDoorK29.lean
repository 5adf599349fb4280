/- Lemmas for the law FnBackDecimal: impl.Parse. Conditions: those in each theorem; none besides. -/
import Derived.Test.YtacfhndledcmgaaGreatDoorK28
import Derived.Test.YtacfhndledcmgaaGreatDoorK14
import Derived.Test.YtacfhndledcmgaaGreatDoorK10
import Derived.Test.YtacfhndledcmgaaGreatDoorK25
import Derived.Deep.RegionHeld3
import Derived.Test.YtacfhndledcmgaaGreatDoorK8
import Derived.Test.YtacfhndledcmgaaGreatDoorK9
import Derived.Test.YtacfhndledcmgaaGreatDoorK21
set_option linter.unusedVariables false
set_option linter.unusedSimpArgs false
namespace Go.Proofs.YtacfhndledcmgaaGreatDoor
open Go.RowKit
theorem load43 (W : World) (b : Nat) (v0 v1 v2 v3 v4 v5 : Value) (c0 : W.cell? ⟨b, 0, none⟩ = some v0) (c1 : W.cell? ⟨b, 1, none⟩ = some v1) (c2 : W.cell? ⟨b, 2, none⟩ = some v2) (c3 : W.cell? ⟨b, 3, none⟩ = some v3) (c4 : W.cell? ⟨b, 4, none⟩ = some v4) (c5 : W.cell? ⟨b, 5, none⟩ = some v5) : (loadVar 43 ⟨b, 0, none⟩).run Tryz.prog W = .ok (.agg #[v0, v1, v2, v3, v4, v5]) W := by
  have h1 := Tryz.isAgg43
  have h2 := Tryz.sizeOf43
  go_simp
/-- A block of six cells is set whole. -/
def sr6 (W : World) (b : Nat) (v0 v1 v2 v3 v4 v5 : Value) : World := (((((W.setCell ⟨b, 0, none⟩ v0).setCell ⟨b, 1, none⟩ v1).setCell ⟨b, 2, none⟩ v2).setCell ⟨b, 3, none⟩ v3).setCell ⟨b, 4, none⟩ v4).setCell ⟨b, 5, none⟩ v5
theorem Bk.sr6 {W : World} {b : Nat} {u0 u1 u2 u3 u4 u5 : Value} (h : Bk W b #[u0, u1, u2, u3, u4, u5]) (v0 v1 v2 v3 v4 v5 : Value) : Bk (Go.Proofs.YtacfhndledcmgaaGreatDoor.sr6 W b v0 v1 v2 v3 v4 v5) b #[v0, v1, v2, v3, v4, v5] := by
  have := (((((h.set 0 v0).set 1 v1).set 2 v2).set 3 v3).set 4 v4).set 5 v5
  simpa [Go.Proofs.YtacfhndledcmgaaGreatDoor.sr6] using this
theorem Bk.sr6_chg {W : World} {b P : Nat} {p : Nat} {u1 u2 u3 u4 u5 : Value} (h : Bk W b #[.int .u64 (p : Nat), u1, u2, u3, u4, u5]) (hp : p < WB) (hP : P < WB) (n1 : NoWB u1) (n2 : NoWB u2) (n3 : NoWB u3) (n4 : NoWB u4) (n5 : NoWB u5) (v1 v2 v3 v4 v5 : Value) : Chg (Blk b) W (Go.Proofs.YtacfhndledcmgaaGreatDoor.sr6 W b (.int .u64 (P : Nat)) v1 v2 v3 v4 v5) := by
  have h0 := h.set 0 (.int .u64 (P : Nat))
  have k0 : Chg (Blk b) W (W.setCell ⟨b, 0, none⟩ (.int .u64 (P : Nat))) := (Chg.refl (Blk b) W).setW ⟨p, hp, h.cell 0⟩ hP (fun _ => rfl)
  have k1 := h0.set_chg (u := u1) 1 v1 (by simp) n1
  have h1 := h0.set 1 v1
  have k2 := h1.set_chg (u := u2) 2 v2 (by simp) n2
  have h2 := h1.set 2 v2
  have k3 := h2.set_chg (u := u3) 3 v3 (by simp) n3
  have h3 := h2.set 3 v3
  have k4 := h3.set_chg (u := u4) 4 v4 (by simp) n4
  have h4 := h3.set 4 v4
  have k5 := h4.set_chg (u := u5) 5 v5 (by simp) n5
  exact ((((k0.then k1 (fun _ _ _ f => f)).then k2 (fun _ _ _ f => f)).then k3 (fun _ _ _ f => f)).then k4 (fun _ _ _ f => f)).then k5 (fun _ _ _ f => f)
theorem RdU.chgB {S : Nat → Nat → Prop} {w w' : World} {A : Option Addr} {l : List Nat} (h : RdU w A l) (hc : Chg S w w') (hd : ∀ ad, A = some ad → 0 < l.length → ∀ o, ¬ S ad.block o) : RdU w' A l := by
  intro i hi
  obtain ⟨ad, h1, h2⟩ := h i hi
  have hb : (ad.add i).block = ad.block := by unfold Addr.add; split <;> rfl
  have hlt := World.block_lt_of_cell? _ _ h2
  exact ⟨ad, h1, (cell_of_block (hc.block _ hlt (fun o f => hd ad h1 (by omega) o (hb ▸ f)))).trans h2⟩
/-- What impl.real says of a finite Float. -/
def RealPost (P M : Nat) (n : Bool) (O : Nat) (E : Int) (w : World) (e : Ending) (w' : World) : Prop :=
  ∃ A c l, e = .returned (.agg #[.int .u64 P, .int .i64 M, .int .i64 1, .bool n, .slice A (List.length l) c, .int .i64 E]) ∧ RdU w' A l ∧ List.length l ≤ c ∧ CanW l ∧ Vl l = O ∧ Chg No w w' ∧ (∀ ad, A = some ad → 0 < List.length l → w.heap.size ≤ ad.block)
theorem odd_part (X : Nat) (h : X ≠ 0) : ∃ t O, X = 2 ^ t * O ∧ O % 2 = 1 := by
  induction X using Nat.strongRecOn with
  | ind X ih =>
    by_cases e : X % 2 = 1
    · exact ⟨0, X, by simp, e⟩
    · obtain ⟨t, O, h1, h2⟩ := ih (X / 2) (by omega) (by omega)
      exact ⟨t + 1, O, by rw [Nat.pow_succ, Nat.mul_assoc, Nat.mul_left_comm, ← h1]; omega, h2⟩
/-- Two functions alike below M read alike. -/
theorem StN_congr {b c0 : Nat} {f g : Nat → Nat} : ∀ {M : Nat}, (∀ j, j < M → f j = g j) → StN b c0 f M = StN b c0 g M
  | 0, _ => rfl
  | M + 1, h => by
    have ih := StN_congr (b := b) (c0 := c0) (f := f) (g := g) (M := M) (fun j hj => h j (by omega))
    unfold StN
    rw [ih, h M (by omega)]
theorem Mnt_congr {b c0 : Nat} {fo : Bool} {f g : Nat → Nat} {M : Nat} (h : ∀ j, j < M → f j = g j) (hm : Mnt b c0 fo f M) : Mnt b c0 fo g M := fun j hj => by
  have h1 := hm j hj
  rw [← h j hj, ← StN_congr (b := b) (c0 := c0) (fun i hi => h i (by omega : i < M))]
  exact h1
theorem StN_dt {b c0 : Nat} {ch : Nat → Nat} {j : Nat} (h : ch j = 46) : StN b c0 ch (j + 1) = ((StN b c0 ch j).1, (StN b c0 ch j).2.1, ((StN b c0 ch j).1 : Int)) := by
  show (if ch j = 46 then _ else _) = _
  rw [if_pos h]
theorem StN_fg {b c0 : Nat} {ch : Nat → Nat} {j : Nat} (h : ch j ≠ 46) : StN b c0 ch (j + 1) = ((StN b c0 ch j).1 + 1, (StN b c0 ch j).2.1 * b + dgv (ch j), (StN b c0 ch j).2.2) := by
  show (if ch j = 46 then _ else _) = _
  rw [if_neg h]
/-- A decimal mantissa without a point is read whole. -/
theorem mnt_b {ds : List Nat} {ch : Nat → Nat} (hd : ∀ d ∈ ds, d < 10) (h : ∀ p, p < ds.length → ch p = 48 + ds.getD p 0) :
    Mnt 10 0 true ch ds.length ∧ StN 10 0 ch ds.length = (ds.length, Nd ds, -1) := by
  have hlt : ∀ p, p < ds.length → ds.getD p 0 < 10 := fun p hp => by
    rw [List.getD_eq_getElem?_getD, List.getElem?_eq_getElem hp]; exact hd _ (List.getElem_mem hp)
  have hv : ∀ d, d < 10 → dgv (48 + d) = d ∧ 48 + d ≠ 46 ∧ IsDg 10 (48 + d) := fun d h => by
    have h1 : dgv (48 + d) = d := by unfold dgv; split <;> omega
    exact ⟨h1, by omega, .inl ⟨by omega, by omega⟩, by rw [h1]; exact h⟩
  have key : ∀ i, i ≤ ds.length → StN 10 0 ch i = (i, Nd (ds.take i), -1) := by
    intro i
    induction i with
    | zero => intro _; simp [StN, Nd]
    | succ i ih =>
      intro hi
      obtain ⟨g1, g2, g3⟩ := hv _ (hlt i (by omega))
      have h1 := h i (by omega)
      rw [StN_fg (by rw [h1]; exact g2), ih (by omega), h1, g1]
      have h2 : ds.take (i + 1) = ds.take i ++ [ds.getD i 0] := by
        rw [List.take_add_one, List.getD_eq_getElem?_getD, List.getElem?_eq_getElem (by omega : i < ds.length)]; rfl
      rw [h2, Nd_snoc, Nat.mul_comm]
  refine ⟨fun j hj => ?_, by rw [key _ (Nat.le_refl _), List.take_length]⟩
  obtain ⟨g1, g2, g3⟩ := hv _ (hlt j hj)
  rw [h j hj]
  exact .inr ⟨g2, g3⟩
/-- N times 2 to F is X times 2 to E. -/
def SameVal (N : Nat) (F : Int) (X : Nat) (E : Int) : Prop := ∃ a b : Nat, N * 2 ^ a = X * 2 ^ b ∧ F + (b : Int) = E + (a : Int)
theorem SameVal.odd {N X : Nat} {F E : Int} (h : SameVal N F X E) {T O : Nat} (hN : N = 2 ^ T * O) (hO : O % 2 = 1) : ∀ m k : Nat, X = m * 2 ^ k → m % 2 = 1 → O = m ∧ F + (T : Nat) = E + (k : Nat) := by
  intro m k hX hm
  obtain ⟨a, b, h1, h2⟩ := h
  rw [hN, hX] at h1
  have h3 : 2 ^ (T + a) * O = 2 ^ (k + b) * m := by
    rw [Nat.pow_add, Nat.pow_add, Nat.mul_right_comm, h1, Nat.mul_assoc, Nat.mul_comm m]
  obtain ⟨h4, h5⟩ := pow_odd h3 hO hm
  exact ⟨h5, by omega⟩
/-- Where a text's number begins. -/
def SignAt (n : Bool) (l : List Nat) (j : Nat) : Prop := (n = true ∧ l.getD 0 0 = 45 ∧ j = 1) ∨ (n = false ∧ l.getD 0 0 ≠ 45 ∧ l.getD 0 0 ≠ 43 ∧ j = 0)
theorem getD_app {l m : List Nat} {i k : Nat} (h : k = l.length + i) : (l ++ m).getD k 0 = m.getD i 0 := by
  subst h
  rw [List.getD_eq_getElem?_getD, List.getD_eq_getElem?_getD, List.getElem?_append_right (by omega)]
  congr 2; omega
theorem getD_appl {l m : List Nat} {i : Nat} (h : i < l.length) : (l ++ m).getD i 0 = l.getD i 0 := by
  rw [List.getD_eq_getElem?_getD, List.getD_eq_getElem?_getD, List.getElem?_append_left h]
theorem sgn_lt (n : Bool) : ∀ x ∈ sgn n, x < 256 := by cases n <;> simp [sgn]
theorem sgn_len (n : Bool) : (sgn n).length ≤ 1 := by cases n <;> simp [sgn]
theorem sgI_nat (e : Int) : sgI (decide (e < 0)) e.natAbs = e := by
  unfold sgI
  by_cases h : e < 0
  · rw [if_pos (by simpa using h)]; omega
  · rw [if_neg (by simpa using h)]; omega
end Go.Proofs.YtacfhndledcmgaaGreatDoor
