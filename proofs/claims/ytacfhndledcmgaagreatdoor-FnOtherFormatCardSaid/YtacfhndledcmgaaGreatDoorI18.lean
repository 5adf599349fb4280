/- Lemmas for the law FnOtherFormat: impl.Text with another letter, laws.real of odd forms. Conditions: those in each theorem; none besides. -/
import Derived.Test.YtacfhndledcmgaaGreatDoorI17
set_option linter.unusedVariables false
set_option linter.unusedSimpArgs false
namespace Go.Proofs.YtacfhndledcmgaaGreatDoor
open Go.RowKit
theorem upTo_bits {X m : Nat} {E : Int} {A : Nat} (h0 : X ≠ 0) (hX : X < 2 ^ 300) (hE2 : E ≤ 1000) (hm1 : 64 * (m - 1) < blen X) (hm2 : blen X ≤ 64 * m) (hA0 : A ≠ 0) (hA : A ≤ upTo X m * 2 ^ (shOf X m E).toNat) : blen A < 1400 := by
  have hbl := blen_le h0 hX
  obtain ⟨q1, q2, q3⟩ := blen_spec h0
  have h1 : upTo X m * 2 ^ (shOf X m E).toNat < 2 ^ 1320 := by
    obtain ⟨T, hT⟩ : ∃ T : Nat, T = 1320 := ⟨_, rfl⟩
    rw [← hT]
    unfold upTo shOf
    rw [Nat.mul_assoc, ← Nat.pow_add]
    obtain ⟨B, hB⟩ : ∃ B, B = blen X := ⟨_, rfl⟩
    rw [← hB] at q3 hbl hm1 hm2 ⊢
    obtain ⟨s, hs⟩ : ∃ s, s = 64 * m - B + ((B : Int) + E - (64 * m : Nat)).toNat := ⟨_, rfl⟩
    rw [← hs]
    have h2 : X * 2 ^ s < 2 ^ B * 2 ^ s := Nat.mul_lt_mul_of_pos_right q3 (Nat.two_pow_pos _)
    rw [← Nat.pow_add] at h2
    refine Nat.lt_of_lt_of_le h2 (Nat.pow_le_pow_right (by decide) ?_)
    clear h2 q2 q3 hX hA
    omega
  have h2 := (blen_spec hA0).2.1
  rcases Nat.lt_or_ge (blen A) 1400 with h | h
  · exact h
  · exfalso
    obtain ⟨T, hT⟩ : ∃ T : Nat, T = 1320 := ⟨_, rfl⟩
    rw [← hT] at h1
    have : 2 ^ T ≤ 2 ^ (blen A - 1) := Nat.pow_le_pow_right (by decide) (by omega)
    omega
theorem appendOk_o (ch : Nat) (hch : OtherCh ch) (b base P M : Nat) (n : Bool) (X : Nat) (E : Int) (xb xo m xc : Nat) (h0 : X ≠ 0) (hX : X < 2 ^ 300) (hE1 : -1000 ≤ E) (hE2 : E ≤ 1000) (hm0 : 0 < m) (hm1 : 64 * (m - 1) < blen X) (hm2 : blen X ≤ 64 * m) :
    AppendOk ch 3 b base P M n X E xb xo m xc (fun l => l = [37, ch]) := by
  intro buf pre w hb hx hpre hbb hg
  have hbl := blen_le h0 hX
  have hA0 : upTo X m * 2 ^ (shOf X m E).toNat ≠ 0 := Nat.mul_ne_zero (upTo_ne h0) (Nat.ne_of_gt (Nat.two_pow_pos _))
  have hbt := upTo_bits h0 hX hE2 hm1 hm2 hA0 (Nat.le_refl _)
  have hsm : Small (upTo X m * 2 ^ (shOf X m E).toNat) := by
    have h1 := (blen_spec hA0).2.2
    obtain ⟨T, hT⟩ : ∃ T : Nat, T = 22 := ⟨_, rfl⟩
    refine small_of (k := T) (by omega) (Nat.lt_of_lt_of_le h1 ?_)
    rw [WB_two]
    exact Nat.pow_le_pow_right (by decide) (by omega)
  refine (append_o ch hch buf pre base b P M n X E xb xo m xc w hb hx hpre (by omega) (by omega) (by omega) hbb hg hsm (fun A hA1 hA2 => itoaOk_big hA1 (upTo_bits h0 hX hE2 hm1 hm2 hA1 hA2))).mono ?_
  rintro e w' ⟨r, h1, h3⟩
  exact ⟨r, h1, _, rfl, h3⟩
/-- 'impl.Text' of another letter. -/
theorem text_o (ch : Nat) (hch : OtherCh ch) (P M : Nat) (n : Bool) (A : Option Addr) (c : Nat) (l : List Nat) (E : Int) (w : World) (hr : RdU w A l) (hm : ∀ x ∈ l, x < WB) (hg : Glob w) (ho : RealOk 300 1000 P M E l) :
    Calls Tryz.prog 24 #[.agg #[.int .u64 P, .int .i64 M, .int .i64 1, .bool n, .slice A l.length c, .int .i64 E], .int .u8 ch, .int .i64 3] w (TextOut (fun l => l = [37, ch]) w) := by
  obtain ⟨o1, o2, o3, o4, o5, o6, o7, o8, o9⟩ := ho
  have hX : Vl l < 2 ^ P := Nat.lt_of_lt_of_le (blen_spec o6).2.2 (Nat.pow_le_pow_right (by decide) o7)
  have hX2 : Vl l < 2 ^ 300 := by
    obtain ⟨T, hT⟩ : ∃ T : Nat, T = 300 := ⟨_, rfl⟩
    rw [← hT]
    exact Nat.lt_of_lt_of_le hX (Nat.pow_le_pow_right (by decide) (by omega))
  refine impl_Text ch 3 P M n A c l E (fun l => l = [37, ch]) w (by omega) hm hr (by omega) (by omega) (by omega) hX o6 (by omega) (by omega) hg (by omega) (fun t ht => by rw [ht]; exact Nat.succ_pos _) (fun base b xb xo m xc g0 g1 g2 => ?_)
  exact appendOk_o ch hch b base P M n (Vl l) E xb xo m xc o6 hX2 (by omega) (by omega) g0 g1 g2
set_option maxRecDepth 100000 in
set_option maxHeartbeats 2000000 in
theorem laws_real_odd (B Mo P : Nat) (M F : Int) (n : Bool) (A : Option Addr) (k c : Nat) (E : Int) (w : World) (hP : P < 18446744073709551616) (hB : B ≤ 1000) (h0 : F ≠ 0) (h1 : F ≠ 1) (h2 : F ≠ 2) :
    Calls Tryz.prog 19 #[.agg #[.int .u64 P, .int .i64 M, .int .i64 F, .bool n, .slice A k c, .int .i64 E], .int .u64 B, .int .i64 Mo] w fun e w' => e = .returned (.bool false) ∧ Chg No w w' := by
  have t0 : (F == 0) = false := beq_eq_false_iff_ne.2 h0
  have t1 : (F == 1) = false := beq_eq_false_iff_ne.2 h1
  have t1b : (F != 1) = true := by simp [bne, t1]
  have t2 : (F == 2) = false := beq_eq_false_iff_ne.2 h2
  clear h0 h1 h2
  by_cases h1 : P = 0
  · subst h1
    clear hP
    go_enter Tryz.func19, Tryz.ntmps19
    go_wp2_with fail
    go_ret
    exact ⟨rfl, (Chg.refl No w).alloc _⟩
  have d1 : decide ((P : Int) < 1) = false := decide_eq_false (by omega)
  have d1b : decide (P < 1) = false := decide_eq_false (by omega)
  have d1c : decide (P = 0) = false := decide_eq_false (by omega)
  by_cases h2 : B < P
  · have d2 : decide ((B : Int) < (P : Int)) = true := decide_eq_true (by omega)
    have d2b : decide (B < P) = true := decide_eq_true h2
    clear hP
    go_enter Tryz.func19, Tryz.ntmps19
    go_wp2_with fail
    go_ret
    exact ⟨rfl, (Chg.refl No w).alloc _⟩
  have d2 : decide ((B : Int) < (P : Int)) = false := decide_eq_false (by omega)
  have d2b : decide (B < P) = false := decide_eq_false h2
  by_cases h3 : M < 0
  · have d3 : decide (M < 0) = true := decide_eq_true h3
    clear hP
    go_enter Tryz.func19, Tryz.ntmps19
    go_wp2_with fail
    go_ret
    exact ⟨rfl, (Chg.refl No w).alloc _⟩
  have d3 : decide (M < 0) = false := decide_eq_false h3
  by_cases h4 : 5 < M
  · have d4 : decide (5 < M) = true := decide_eq_true h4
    clear hP
    go_enter Tryz.func19, Tryz.ntmps19
    go_wp2_with fail
    go_ret
    exact ⟨rfl, (Chg.refl No w).alloc _⟩
  have d4 : decide (5 < M) = false := decide_eq_false h4
  clear hP h1 h2 h3 h4
  go_enter Tryz.func19, Tryz.ntmps19
  go_wp2_with fail
  go_ret
  exact ⟨rfl, (Chg.refl No w).alloc _⟩
end Go.Proofs.YtacfhndledcmgaaGreatDoor
