/- Lemmas for the law FnBackDecimal: the plain law of long division. Conditions: those in each theorem; none besides. -/
import Derived.Test.YtacfhndledcmgaaGreatDoorK4
set_option linter.unusedVariables false
set_option linter.unusedSimpArgs false
namespace Go.Proofs.YtacfhndledcmgaaGreatDoor
/-! The plain law of long division, a figure at a time. -/
/-- A guess that passes the test of two figures of the divisor is at most one too great. -/
theorem dv_upper {qh V2 U3 V T P : Nat} (h : qh * V2 ≤ U3) (hq : qh ≤ V2 + 1) (hV : V < (V2 + 1) * P) (hT : U3 * P ≤ T) : (qh - 1) * V ≤ T := by
  cases qh with
  | zero => simp
  | succ k =>
    rw [Nat.add_sub_cancel]
    have h1 : k * V ≤ k * ((V2 + 1) * P) := Nat.mul_le_mul_left _ (Nat.le_of_lt hV)
    have h2 : k * (V2 + 1) ≤ (k + 1) * V2 := by rw [Nat.mul_add, Nat.add_mul]; omega
    have h3 : k * (V2 + 1) * P ≤ U3 * P := Nat.mul_le_mul_right _ (Nat.le_trans h2 h)
    rw [← Nat.mul_assoc] at h1
    omega
/-- The guess of the first figures is not too small. -/
theorem dv_first {U2 v1 V T P B : Nat} (hv : 0 < v1) (hV : v1 * B * P ≤ V) (hT : T < (U2 + 1) * B * P) : T < (U2 / v1 + 1) * V := by
  have h1 : U2 + 1 ≤ (U2 / v1 + 1) * v1 := by
    have := Nat.lt_div_mul_add hv (a := U2)
    rw [Nat.add_mul]; omega
  have h2 : (U2 + 1) * B * P ≤ (U2 / v1 + 1) * v1 * B * P := Nat.mul_le_mul_right _ (Nat.mul_le_mul_right _ h1)
  have h3 : (U2 / v1 + 1) * (v1 * B * P) ≤ (U2 / v1 + 1) * V := Nat.mul_le_mul_left _ hV
  have h4 : (U2 / v1 + 1) * v1 * B * P = (U2 / v1 + 1) * (v1 * B * P) := by simp [Nat.mul_assoc]
  omega
/-- A guess that fails the test is too great. -/
theorem dv_step {qh V2 U3 V T P : Nat} (h : U3 < qh * V2) (hV : V2 * P ≤ V) (hT : T < (U3 + 1) * P) : T < qh * V := by
  have h1 : (U3 + 1) * P ≤ qh * V2 * P := Nat.mul_le_mul_right _ h
  have h2 : qh * (V2 * P) ≤ qh * V := Nat.mul_le_mul_left _ hV
  rw [← Nat.mul_assoc] at h2
  omega
/-- Where the first figures are alike, the greatest figure is at most one too great. -/
theorem dv_same {v1 B P V T : Nat} (hv : B ≤ 2 * v1) (hV : V < (v1 + 1) * P) (hT : v1 * B * P ≤ T) : (B - 1 - 1) * V ≤ T := by
  have h1 : (B - 1 - 1) * V ≤ (B - 1 - 1) * ((v1 + 1) * P) := Nat.mul_le_mul_left _ (Nat.le_of_lt hV)
  have h2 : (B - 1 - 1) * (v1 + 1) ≤ v1 * B := by
    rcases Nat.lt_or_ge B 2 with hB | hB
    · have : B - 1 - 1 = 0 := by omega
      rw [this]; simp
    · obtain ⟨c, rfl⟩ : ∃ c, B = c + 2 := ⟨B - 2, by omega⟩
      have : c + 2 - 1 - 1 = c := by omega
      rw [this, Nat.mul_add, Nat.mul_add, Nat.mul_comm v1 c]; omega
  have h3 : (B - 1 - 1) * (v1 + 1) * P ≤ v1 * B * P := Nat.mul_le_mul_right _ h2
  rw [← Nat.mul_assoc] at h1
  omega
/-- The guess: q, or one more. -/
def Gs (T V qh : Nat) : Prop := T < (qh + 1) * V ∧ (qh - 1) * V ≤ T
/-- No borrow: the guess is right. -/
theorem Gs.right {T V qh A M : Nat} (h : Gs T V qh) (hs : A + qh * V = T + 0 * M) : T = qh * V + A ∧ A < V := by
  have := h.1
  rw [Nat.add_mul] at this
  omega
/-- A borrow: one less is right. -/
theorem Gs.less {T V qh A M A2 e : Nat} (h : Gs T V qh) (hs : A + qh * V = T + 1 * M) (hA : A < M) (h2 : A2 + e * M = A + V) (hA2 : A2 < M) (hV : V ≤ M) : 0 < qh ∧ T = (qh - 1) * V + A2 ∧ A2 < V := by
  obtain ⟨g1, g2⟩ := h
  cases qh with
  | zero => simp at hs; omega
  | succ k =>
    rw [Nat.add_sub_cancel] at g2 ⊢
    rw [Nat.add_mul k 1 V, Nat.one_mul] at hs
    have e1 : e = 1 := by
      rcases Nat.lt_or_ge e 1 with h | h
      · have : e = 0 := by omega
        subst this; omega
      rcases Nat.lt_or_ge 1 e with h' | h'
      · have : 2 * M ≤ e * M := Nat.mul_le_mul_right _ h'
        omega
      · omega
    subst e1
    omega
end Go.Proofs.YtacfhndledcmgaaGreatDoor
