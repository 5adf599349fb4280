/- Lemmas for the law FnBackDecimal: shifts and division of words. Conditions: those in each theorem; none besides. -/
import Derived.Test.YtacfhndledcmgaaGreatDoorK1
import Derived.Lib.ItoaNum
import Derived.Deep.DeepCutAuto
import Derived.Deep.CutBlock
import Derived.Deep.RegionLaw
import Derived.Laws.IdiomCopy
set_option linter.unusedVariables false
set_option linter.unusedSimpArgs false
namespace Go.Proofs.YtacfhndledcmgaaGreatDoor
open Go.RowKit
theorem bitLen_spec {y : Nat} (h0 : y ≠ 0) (hy : y < WB) : Lib.bitLen y ≤ 64 ∧ 1 ≤ Lib.bitLen y ∧ 2 ^ (Lib.bitLen y - 1) ≤ y ∧ y < 2 ^ Lib.bitLen y := by
  obtain ⟨h1, h2, h3⟩ := Lib.bitLenAux_bounds 64 y hy h0
  exact ⟨Lib.bitLen_le y 64 (by omega) hy, h1, h2, h3⟩
/-- One digit of the division of three half words by two (Knuth). -/
structure Guess (Y1 Y0 U n q r : Nat) : Prop where
  eq : q * Y1 + r = U
  ge : (U * 4294967296 + n) / (Y1 * 4294967296 + Y0) ≤ q
  le : q ≤ 4294967297
theorem guess_start {Y1 Y0 U n : Nat} (h1 : 2147483648 ≤ Y1) (_h2 : Y1 < 4294967296) (h0 : Y0 < 4294967296) (hU : U < Y1 * 4294967296 + Y0) (hn : n < 4294967296) : Guess Y1 Y0 U n (U / Y1) (U % Y1) ∧ U % Y1 < 4294967296 := by
  have hpos : 0 < Y1 := by omega
  have hm := Nat.mod_lt U hpos
  refine ⟨⟨Nat.div_add_mod' U Y1, ?_, ?_⟩, by omega⟩
  · rw [Nat.div_le_iff_le_mul_add_pred (by omega)]
    have h3 : U + 1 ≤ (U / Y1 + 1) * Y1 := by have := Nat.div_add_mod' U Y1; rw [Nat.add_mul]; omega
    have h4 : (U / Y1) * Y0 ≥ 0 := Nat.zero_le _
    have h5 : (Y1 * 4294967296 + Y0) * (U / Y1) = (U / Y1) * Y1 * 4294967296 + (U / Y1) * Y0 := by grind
    rw [h5]; rw [Nat.add_mul] at h3; omega
  · have : U / Y1 < 4294967298 := by rw [Nat.div_lt_iff_lt_mul hpos]; omega
    omega
theorem guess_stop {Y1 Y0 U n q r : Nat} (g : Guess Y1 Y0 U n q r) (h1 : 0 < Y1) (h : q * Y0 ≤ 4294967296 * r + n) : q = (U * 4294967296 + n) / (Y1 * 4294967296 + Y0) := by
  refine Nat.le_antisymm ?_ g.ge
  rw [Nat.le_div_iff_mul_le (by omega)]
  have h5 : q * (Y1 * 4294967296 + Y0) = q * Y1 * 4294967296 + q * Y0 := by grind
  have := g.eq
  omega
theorem guess_on {Y1 Y0 U n q r : Nat} (g : Guess Y1 Y0 U n q r) (hU : U < Y1 * 4294967296 + Y0) (hn : n < 4294967296) (h : 4294967296 ≤ q ∨ 4294967296 * r + n < q * Y0) : 1 ≤ q ∧ Guess Y1 Y0 U n (q - 1) (r + Y1) := by
  have hlt : (U * 4294967296 + n) / (Y1 * 4294967296 + Y0) < q := by
    rw [Nat.div_lt_iff_lt_mul (by omega)]
    rcases h with h | h
    · have : 4294967296 * (Y1 * 4294967296 + Y0) ≤ q * (Y1 * 4294967296 + Y0) := Nat.mul_le_mul_right _ h
      omega
    · have h5 : q * (Y1 * 4294967296 + Y0) = q * Y1 * 4294967296 + q * Y0 := by grind
      have := g.eq
      omega
  have hle := g.le
  have hge := g.ge
  generalize hT : (U * 4294967296 + n) / (Y1 * 4294967296 + Y0) = T at *
  refine ⟨by omega, ?_, by omega, by omega⟩
  obtain ⟨p, rfl⟩ : ∃ p, q = p + 1 := ⟨q - 1, by omega⟩
  have := g.eq
  rw [Nat.add_sub_cancel]; rw [Nat.add_mul] at this; omega
theorem guess_break {Y1 Y0 U n q r : Nat} (g : Guess Y1 Y0 U n q r) (h2 : Y1 < 4294967296) (h0 : Y0 < 4294967296) (h1 : 0 < Y1) (hU : U < Y1 * 4294967296 + Y0) (h : 4294967296 ≤ r) : q = (U * 4294967296 + n) / (Y1 * 4294967296 + Y0) := by
  refine guess_stop g h1 ?_
  have hq : q < 4294967296 := by
    have := g.eq
    have h3 : q * Y1 < 4294967296 * Y1 := by omega
    exact Nat.lt_of_mul_lt_mul_right h3
  have : q * Y0 ≤ 4294967295 * 4294967295 := Nat.mul_le_mul (by omega) (by omega)
  omega
theorem mask32 {y : Nat} (hy : y < WB) : bits .and .u64 (y : Int) 4294967295 = ((y % 4294967296 : Nat) : Int) := by
  rw [show (4294967295 : Int) = ((4294967295 : Nat) : Int) from rfl, bits_and_u64_nat y 4294967295 hy (by omega)]
  congr 1
  rw [show (4294967295 : Nat) = 2 ^ 32 - 1 from rfl, Nat.and_two_pow_sub_one_eq_mod]
theorem or_shift0 {x y s : Nat} (hy : y < WB) (hs : s < 64) (hx : x * 2 ^ s < WB) (hd : y / 2 ^ (64 - s) < 2 ^ s) :
    bits BinOp.or .u64 (IntKind.u64.wrap ((x : Int) * 2 ^ s)) ((y : Int) / 2 ^ (64 - s)) = ((x * 2 ^ s + y / 2 ^ (64 - s) : Nat) : Int) := by
  have h3 : 2 ^ s ≤ WB := by rw [WB_eq]; exact Nat.pow_le_pow_right (by decide) (by omega)
  rw [cast_mul_pow, wrap_cast, cast_div_pow, Nat.mod_eq_of_lt hx, bits_or_u64_nat _ _ hx (Nat.lt_of_lt_of_le hd h3)]
  congr 1
  rw [Nat.mul_comm x, ← Nat.two_pow_add_eq_or_of_lt hd]
theorem div_shift_lt {y s : Nat} (hy : y < WB) (hs : s < 64) : y / 2 ^ (64 - s) < 2 ^ s := by
  rw [Nat.div_lt_iff_lt_mul (Nat.two_pow_pos _), ← Nat.pow_add, show s + (64 - s) = 64 by omega]; exact hy
/-- The scaled operands. -/
theorem scaled {hi lo y s : Nat} (hs : s < 64) : (hi * 2 ^ s + lo / 2 ^ (64 - s)) * WB + lo * 2 ^ s % WB = (hi * WB + lo) * 2 ^ s := by
  have h := shift_eq lo s hs
  generalize lo / 2 ^ (64 - s) = a at *
  generalize lo * 2 ^ s % WB = b at *
  rw [Nat.add_mul, Nat.add_mul, ← h]
  generalize 2 ^ s = c
  generalize WB = B
  grind
/-- Two digits by two steps. -/
theorem two_steps {U L1 L0 Y H Q1 R1 Q0 R0 : Nat} (h1 : U * H + L1 = Q1 * Y + R1) (h2 : R1 * H + L0 = Q0 * Y + R0) : U * (H * H) + (L1 * H + L0) = (Q1 * H + Q0) * Y + R0 := by
  have : (U * H + L1) * H = (Q1 * Y + R1) * H := by rw [h1]
  grind
/-- One round of the loop, all its numbers and ways. -/
theorem guess_round {Y1 Y0 U n q r : Nat} (g : Guess Y1 Y0 U n q r) (hb : q ≤ 4294967297 ∧ r < 4294967296) (h1 : 2147483648 ≤ Y1) (h2 : Y1 < 4294967296) (h0 : Y0 < 4294967296) (hn : n < 4294967296) (hU : U < Y1 * 4294967296 + Y0) :
    ∃ P : Nat, IntKind.u64.wrap ((q : Int) * (Y0 : Int)) = (P : Int) ∧ ∃ T : Nat, IntKind.u64.wrap (IntKind.u64.wrap (4294967296 * (r : Int)) + (n : Int)) = (T : Int) ∧
      ∃ q' : Nat, IntKind.u64.wrap ((q : Int) - 1) = (q' : Int) ∧ ∃ r' : Nat, IntKind.u64.wrap ((r : Int) + (Y1 : Int)) = (r' : Int) ∧
      ((4294967296 ≤ (q : Int) ∧ (4294967296 ≤ (r' : Int) ∧ q' = (U * 4294967296 + n) / (Y1 * 4294967296 + Y0) ∨ (decide (4294967296 ≤ (r' : Int)) = false ∧ q' < q ∧ Guess Y1 Y0 U n q' r' ∧ q' ≤ 4294967297 ∧ r' < 4294967296))) ∨
       (decide (4294967296 ≤ (q : Int)) = false ∧ (T : Int) < (P : Int) ∧ (4294967296 ≤ (r' : Int) ∧ q' = (U * 4294967296 + n) / (Y1 * 4294967296 + Y0) ∨ (decide (4294967296 ≤ (r' : Int)) = false ∧ q' < q ∧ Guess Y1 Y0 U n q' r' ∧ q' ≤ 4294967297 ∧ r' < 4294967296))) ∨
       (decide (4294967296 ≤ (q : Int)) = false ∧ (P : Int) ≤ (T : Int) ∧ q = (U * 4294967296 + n) / (Y1 * 4294967296 + Y0))) := by
  have hP : q * Y0 ≤ 4294967297 * 4294967295 := Nat.mul_le_mul hb.1 (by omega)
  refine ⟨q * Y0, by rw [← Int.natCast_mul, wrap_cast, Nat.mod_eq_of_lt (by unfold WB; omega)], 4294967296 * r + n, ?_, ?_⟩
  · rw [show (4294967296 * (r : Int)) = ((4294967296 * r : Nat) : Int) by omega, wrap_cast, Nat.mod_eq_of_lt (by unfold WB; omega), show ((4294967296 * r : Nat) : Int) + (n : Int) = ((4294967296 * r + n : Nat) : Int) by omega, wrap_cast, Nat.mod_eq_of_lt (by unfold WB; omega)]
  · by_cases hc : 4294967296 ≤ q ∨ 4294967296 * r + n < q * Y0
    · obtain ⟨q1, gon⟩ := guess_on g hU hn hc
      have hw : 4294967296 ≤ ((r + Y1 : Nat) : Int) ∧ q - 1 = (U * 4294967296 + n) / (Y1 * 4294967296 + Y0) ∨ (decide (4294967296 ≤ ((r + Y1 : Nat) : Int)) = false ∧ q - 1 < q ∧ Guess Y1 Y0 U n (q - 1) (r + Y1) ∧ q - 1 ≤ 4294967297 ∧ r + Y1 < 4294967296) := by
        by_cases hr : 4294967296 ≤ r + Y1
        · exact .inl ⟨by omega, guess_break gon h2 h0 (by omega) hU hr⟩
        · exact .inr ⟨decide_eq_false (by omega), by omega, gon, by omega, by omega⟩
      refine ⟨q - 1, by rw [show (q : Int) - 1 = ((q - 1 : Nat) : Int) by omega, wrap_cast, Nat.mod_eq_of_lt (by unfold WB; omega)], r + Y1, by rw [show (r : Int) + (Y1 : Int) = ((r + Y1 : Nat) : Int) by omega, wrap_cast, Nat.mod_eq_of_lt (by unfold WB; omega)], ?_⟩
      by_cases hq : 4294967296 ≤ q
      · exact .inl ⟨by omega, hw⟩
      · exact .inr (.inl ⟨decide_eq_false (by omega), by omega, hw⟩)
    · have hwr : ∃ q' : Nat, IntKind.u64.wrap ((q : Int) - 1) = (q' : Int) := ⟨(IntKind.u64.wrap ((q : Int) - 1)).toNat, by rw [IntKind.wrap_u64]; omega⟩
      obtain ⟨q', hq'⟩ := hwr
      refine ⟨q', hq', r + Y1, by rw [show (r : Int) + (Y1 : Int) = ((r + Y1 : Nat) : Int) by omega, wrap_cast, Nat.mod_eq_of_lt (by unfold WB; omega)], .inr (.inr ⟨decide_eq_false (by omega), by omega, guess_stop g (by omega) (by omega)⟩)⟩
/-- The first guess as the code makes it. -/
theorem guess_enter {Y1 Y0 U n : Nat} (h1 : 2147483648 ≤ Y1) (h2 : Y1 < 4294967296) (h0 : Y0 < 4294967296) (hU : U < Y1 * 4294967296 + Y0) (hW : Y1 * 4294967296 + Y0 < WB) (hn : n < 4294967296) :
    ∃ Q QY R : Nat, IntKind.u64.wrap ((U : Int) / (Y1 : Int)) = (Q : Int) ∧ IntKind.u64.wrap ((Q : Int) * (Y1 : Int)) = (QY : Int) ∧ IntKind.u64.wrap ((U : Int) - (QY : Int)) = (R : Int) ∧ Guess Y1 Y0 U n Q R ∧ Q ≤ 4294967297 ∧ R < 4294967296 := by
  obtain ⟨g0, r0⟩ := guess_start (U := U) (n := n) h1 h2 h0 hU hn
  have hle := g0.le
  have heq := g0.eq
  unfold WB at hW
  refine ⟨U / Y1, U / Y1 * Y1, U % Y1, ?_, ?_, ?_, g0, hle, r0⟩
  · rw [← Int.natCast_ediv, wrap_cast, Nat.mod_eq_of_lt (by unfold WB; omega)]
  · rw [← Int.natCast_mul, wrap_cast, Nat.mod_eq_of_lt (by unfold WB; omega)]
  · rw [show (U : Int) - ((U / Y1 * Y1 : Nat) : Int) = ((U % Y1 : Nat) : Int) by omega, wrap_cast, Nat.mod_eq_of_lt (by unfold WB; omega)]
/-- What is left behind a digit. -/
theorem step_rem {U n Y Q R : Nat} (h : Q * Y + R = U * 4294967296 + n) (hR : R < WB) :
    IntKind.u64.wrap (IntKind.u64.wrap (IntKind.u64.wrap ((U : Int) * 4294967296) + (n : Int)) - IntKind.u64.wrap ((Q : Int) * (Y : Int))) = (R : Int) := by
  rw [← Int.natCast_mul]
  generalize Q * Y = P at *
  simp only [IntKind.wrap_u64]
  unfold WB at hR
  omega
theorem final_div {hi lo y s U L1 L0 Y Q1 R1 Q0 R0 L : Nat} (hsc : U * WB + L = (hi * WB + lo) * 2 ^ s) (hY : Y = y * 2 ^ s) (hL : L1 * 4294967296 + L0 = L) (hy : 0 < y)
    (h1 : Q1 * Y + R1 = U * 4294967296 + L1) (h2 : Q0 * Y + R0 = R1 * 4294967296 + L0) (hR : R0 < Y) : Q1 * 4294967296 + Q0 = (hi * WB + lo) / y ∧ R0 / 2 ^ s = (hi * WB + lo) % y := by
  have h3 := two_steps h1.symm h2.symm
  have h4 : (Q1 * 4294967296 + Q0) * Y + R0 = (hi * WB + lo) * 2 ^ s := by rw [← h3, ← hsc, ← hL]; rfl
  have h5 : R0 % 2 ^ s = 0 := by
    have : ((Q1 * 4294967296 + Q0) * Y + R0) % 2 ^ s = 0 := by rw [h4]; exact Nat.mul_mod_left _ _
    rw [hY, ← Nat.mul_assoc, Nat.mul_add_mod_self_right] at this
    exact this
  obtain ⟨t, ht⟩ := Nat.dvd_of_mod_eq_zero h5
  have hp := Nat.two_pow_pos s
  rw [ht, Nat.mul_comm _ t, hY, ← Nat.mul_assoc, ← Nat.add_mul] at h4
  have h6 : (Q1 * 4294967296 + Q0) * y + t = hi * WB + lo := Nat.eq_of_mul_eq_mul_right hp h4
  have h7 : t < y := by
    rw [ht, hY, Nat.mul_comm _ t] at hR
    exact Nat.lt_of_mul_lt_mul_right hR
  rw [← h6, ht, Nat.mul_div_cancel_left _ hp]
  constructor
  · rw [Nat.mul_comm (Q1 * 4294967296 + Q0) y, Nat.mul_add_div hy, Nat.div_eq_of_lt h7, Nat.add_zero]
  · rw [Nat.mul_comm (Q1 * 4294967296 + Q0) y, Nat.mul_add_mod, Nat.mod_eq_of_lt h7]
theorem div_lt_WB {hi lo y : Nat} (h : hi < y) (hl : (lo : Int) ≤ 18446744073709551615) : (hi * WB + lo) / y < WB := by
  rw [Nat.div_lt_iff_lt_mul (by omega), Nat.mul_comm WB]
  have : (hi + 1) * WB ≤ y * WB := Nat.mul_le_mul_right _ h
  rw [Nat.add_mul] at this
  have : lo < WB := by unfold WB; omega
  omega
theorem two_lt {hi lo y B : Nat} (h : hi < y) (hl : lo < B) : hi * B + lo < y * B := by
  have : (hi + 1) * B ≤ y * B := Nat.mul_le_mul_right _ h
  rw [Nat.add_mul] at this; omega
set_option maxHeartbeats 1000000 in
theorem bitsDiv64_zero (lo y : Nat) (w : World) (hy : 0 < y) (hl : lo < WB) :
    Calls Tryz.prog 305 #[.int .u64 0, .int .u64 lo, .int .u64 y] w fun e w' =>
      ∃ m : Nat, e = .returned (.tuple #[.int .u64 (lo / y : Nat), .int .u64 (lo % y : Nat)]) ∧ w' = w.drewN m := by
    have c1 : ((y : Int) == 0) = false := by simp; omega
    have c3 : (0 : Int) < y := by omega
    have e1 : IntKind.u64.wrap ((lo : Int) / (y : Int)) = ((lo / y : Nat) : Int) := by rw [← Int.natCast_ediv, wrap_cast, Nat.mod_eq_of_lt (Nat.lt_of_le_of_lt (Nat.div_le_self _ _) hl)]
    have e2 : IntKind.u64.wrap ((lo : Int) % (y : Int)) = ((lo % y : Nat) : Int) := by rw [← Int.natCast_emod, wrap_cast, Nat.mod_eq_of_lt (Nat.lt_of_le_of_lt (Nat.mod_le _ _) hl)]
    go_enter Tryz.func305, Tryz.ntmps305
    go_wp2_with fail
    go_quiet (fail)
    go_wp2_with fail
    go_ret2
    exact ⟨_, rfl, rfl⟩
set_option maxRecDepth 1000000 in
set_option maxHeartbeats 1000000 in
theorem bitsDiv64 (hi lo y : Nat) (w : World) (hy : y < WB) (hh : hi < y) (hl : lo < WB) :
    Calls Tryz.prog 305 #[.int .u64 hi, .int .u64 lo, .int .u64 y] w fun e w' =>
      ∃ m : Nat, e = .returned (.tuple #[.int .u64 ((hi * WB + lo) / y : Nat), .int .u64 ((hi * WB + lo) % y : Nat)]) ∧ w' = w.drewN m := by
  by_cases h0 : hi = 0
  · subst h0
    refine (bitsDiv64_zero lo y w hh hl).mono ?_
    rintro e w' ⟨m, rfl, rfl⟩
    exact ⟨m, by simp only [Nat.zero_mul, Nat.zero_add], rfl⟩
  · have c1 : ((y : Int) == 0) = false := by simp; omega
    have c2 : ((hi : Int) == 0) = false := by simp; omega
    obtain ⟨b1, b2, b3, b4⟩ := bitLen_spec (y := y) (by omega) hy
    obtain ⟨s, hs⟩ : ∃ s, s = 64 - Lib.bitLen y := ⟨_, rfl⟩
    have es : (64 : Int) - (Lib.bitLen y : Int) = (s : Int) := by omega
    have hs64 : s < 64 := by omega
    have hYW : y * 2 ^ s < WB := by
      have : y * 2 ^ s < 2 ^ Lib.bitLen y * 2 ^ s := Nat.mul_lt_mul_of_pos_right b4 (Nat.two_pow_pos s)
      rwa [← Nat.pow_add, show Lib.bitLen y + s = 64 by omega, ← WB_eq] at this
    have hYL : 9223372036854775808 ≤ y * 2 ^ s := by
      have : 2 ^ (Lib.bitLen y - 1) * 2 ^ s ≤ y * 2 ^ s := Nat.mul_le_mul_right _ b3
      rwa [← Nat.pow_add, show Lib.bitLen y - 1 + s = 63 by omega] at this
    have hsc := scaled (hi := hi) (lo := lo) (y := y) hs64
    have hhs : hi * 2 ^ s < WB := Nat.lt_of_le_of_lt (Nat.mul_le_mul_right _ (by omega)) hYW
    have hdl := div_shift_lt hl hs64
    obtain ⟨Y, hY⟩ : ∃ Y, Y = y * 2 ^ s := ⟨_, rfl⟩
    have eY : IntKind.u64.wrap ((y : Int) * 2 ^ s) = (Y : Int) := by rw [cast_mul_pow, wrap_cast, Nat.mod_eq_of_lt hYW, hY]
    obtain ⟨Y1, hY1⟩ : ∃ Y1, Y1 = Y / 4294967296 := ⟨_, rfl⟩
    have eY1 : (Y : Int) / 4294967296 = (Y1 : Int) := by omega
    obtain ⟨Y0, hY0⟩ : ∃ Y0, Y0 = Y % 4294967296 := ⟨_, rfl⟩
    have eY0 : bits .and .u64 (Y : Int) 4294967295 = (Y0 : Int) := by rw [mask32 (by omega), hY0]
    obtain ⟨U, hU⟩ : ∃ U, U = hi * 2 ^ s + lo / 2 ^ (64 - s) := ⟨_, rfl⟩
    have eU : bits .or .u64 (IntKind.u64.wrap ((hi : Int) * 2 ^ s)) ((lo : Int) / 2 ^ (64 - s)) = (U : Int) := by rw [or_shift0 hl hs64 hhs hdl, hU]
    obtain ⟨L, hL⟩ : ∃ L, L = lo * 2 ^ s % WB := ⟨_, rfl⟩
    have eL : IntKind.u64.wrap ((lo : Int) * 2 ^ s) = (L : Int) := by rw [cast_mul_pow, wrap_cast, hL]
    have hLW : L < WB := by rw [hL]; exact Nat.mod_lt _ WB_pos
    obtain ⟨L1, hL1⟩ : ∃ L1, L1 = L / 4294967296 := ⟨_, rfl⟩
    have eL1 : (L : Int) / 4294967296 = (L1 : Int) := by omega
    obtain ⟨L0, hL0⟩ : ∃ L0, L0 = L % 4294967296 := ⟨_, rfl⟩
    have eL0 : bits .and .u64 (L : Int) 4294967295 = (L0 : Int) := by rw [mask32 hLW, hL0]
    rw [← hU, ← hL] at hsc
    rw [← hY] at hYW hYL
    have hUY : U < Y := by
      have h1 : (hi * WB + lo) * 2 ^ s < (y * WB) * 2 ^ s := Nat.mul_lt_mul_of_pos_right (two_lt hh hl) (Nat.two_pow_pos s)
      rw [← hsc, Nat.mul_right_comm, ← hY] at h1
      exact Nat.lt_of_mul_lt_mul_right (Nat.lt_of_le_of_lt (Nat.le_add_right _ _) h1)
    have hY1b : 2147483648 ≤ Y1 := by omega
    have hY1c : Y1 < 4294967296 := by unfold WB at hYW; omega
    have hY0c : Y0 < 4294967296 := by omega
    have hYe : Y1 * 4294967296 + Y0 = Y := by omega
    have hL1c : L1 < 4294967296 := by unfold WB at hLW; omega
    have hL0c : L0 < 4294967296 := by omega
    have hLe : L1 * 4294967296 + L0 = L := by rw [hL1, hL0]; exact Nat.div_add_mod' L 4294967296
    have hUb : U < 18446744073709551616 := by unfold WB at hYW; omega
    clear hs hY1 hY0 hU hL hL1 hL0 b2 b3 b4 hdl hhs
    have HY := Lib.hid hY; clear hY
    have HYe := Lib.hid hYe; clear hYe
    have HLe := Lib.hid hLe; clear hLe
    have Hsc := Lib.hid hsc; clear hsc
    obtain ⟨g0, r0⟩ := guess_start (U := U) (n := L1) hY1b hY1c hY0c (by rw [HYe.out]; exact hUY) hL1c
    have HQ := Lib.hid (Nat.div_add_mod' U Y1)
    obtain ⟨Q, hQ⟩ : ∃ Q, Q = U / Y1 := ⟨_, rfl⟩
    obtain ⟨R, hR⟩ : ∃ R, R = U % Y1 := ⟨_, rfl⟩
    rw [← hQ, ← hR] at HQ g0
    rw [← hR] at r0
    have hQle := g0.le
    have eQ : IntKind.u64.wrap ((U : Int) / (Y1 : Int)) = (Q : Int) := by rw [← Int.natCast_ediv, ← hQ, wrap_cast, Nat.mod_eq_of_lt (by unfold WB; omega)]
    have eQY : IntKind.u64.wrap ((Q : Int) * (Y1 : Int)) = ((U - R : Nat) : Int) := by
      have := HQ.out
      rw [← Int.natCast_mul, wrap_cast, show Q * Y1 = U - R by omega, Nat.mod_eq_of_lt (by unfold WB; omega)]
    have eR : IntKind.u64.wrap ((U : Int) - ((U - R : Nat) : Int)) = (R : Int) := by
      have := HQ.out
      rw [show (U : Int) - ((U - R : Nat) : Int) = (R : Int) by omega, wrap_cast, Nat.mod_eq_of_lt (by unfold WB; omega)]
    have HG := Lib.hid g0
    clear g0 hQ hR
    have HB := Lib.hid hUb; clear hUb
    have HYW := Lib.hid hYW; clear hYW hYL
    have hyI : (y : Int) ≤ 18446744073709551615 := by unfold WB at hy; omega
    have hlI : (lo : Int) ≤ 18446744073709551615 := by unfold WB at hl; omega
    have iB : 2147483648 ≤ Y1 ∧ Y1 < 4294967296 ∧ Y0 < 4294967296 ∧ L1 < 4294967296 ∧ L0 < 4294967296 ∧ R < 4294967296 ∧ Q ≤ 4294967297 := ⟨hY1b, hY1c, hY0c, hL1c, hL0c, r0, hQle⟩
    have IB := Lib.hid iB
    have iY1 : 1 ≤ (Y1 : Int) := by omega
    clear iB hY1b hY1c hY0c hL1c hL0c r0 hQle hy hl
    have HyI := Lib.hid hyI; clear hyI
    have HlI := Lib.hid hlI; clear hlI
    go_enter Tryz.func305, Tryz.ntmps305
    go_wp2_with fail
    refine (Tryz.bits_LeadingZeros64 _ _ (by omega) HyI.out).mono ?_
    rintro e w' ⟨rfl, hw⟩
    rw [hw]
    clear hw w'
    go_upto_block 0 with fail
    go_cut [15, 16] (fun q _ wx => q = .int .u64 ((U * 4294967296 + L1) / (Y1 * 4294967296 + Y0) : Nat) ∧ wx = w)
    case first =>
      go_wp2_with fail
      go_loopw [15, 16] (fun q r wx => ∃ q' r' : Nat, q = .int .u64 q' ∧ r = .int .u64 r' ∧ Hid (Guess Y1 Y0 U L1 q' r') ∧ Hid (q' ≤ 4294967297 ∧ r' < 4294967296) ∧ wx = w) (fun q _ _ => (intOf q).toNat)
      case atStart => exact ⟨Q, R, rfl, rfl, HG, Lib.hid ⟨IB.out.2.2.2.2.2.2, IB.out.2.2.2.2.2.1⟩, rfl⟩
      case round =>
        obtain ⟨q, r, rfl, rfl, hg, hqr, hwr⟩ := hrel
        subst hwr
        obtain ⟨P, eP, T, eT, q', eq', r', er', hway⟩ := guess_round hg.out hqr.out IB.out.1 IB.out.2.1 IB.out.2.2.1 IB.out.2.2.2.1 (by rw [HYe.out]; exact hUY)
        rcases hway with ⟨hc1, hw⟩ | ⟨hc1, hc2, hw⟩ | ⟨hc1, hc2, hb⟩
        · rcases hw with ⟨hc3, hb⟩ | ⟨hc3, hlt, hon, hbd⟩
          · have Hb := Lib.hid hb; clear hb
            go_wp2_with fail
            go_meet
            exact ⟨by rw [Hb.out], rfl⟩
          · have Hon := Lib.hid hon; have Hbd := Lib.hid hbd; have Hlt := Lib.hid hlt; clear hon hbd hlt
            go_wp2_with fail
            go_roundw
            case rel => exact ⟨q', r', rfl, rfl, Hon, Hbd, trivial⟩
            case measure => have := Hlt.out; simp [intOf]; omega
        · rcases hw with ⟨hc3, hb⟩ | ⟨hc3, hlt, hon, hbd⟩
          · have Hb := Lib.hid hb; clear hb
            go_wp2_with fail
            go_meet
            exact ⟨by rw [Hb.out], rfl⟩
          · have Hon := Lib.hid hon; have Hbd := Lib.hid hbd; have Hlt := Lib.hid hlt; clear hon hbd hlt
            go_wp2_with fail
            go_roundw
            case rel => exact ⟨q', r', rfl, rfl, Hon, Hbd, trivial⟩
            case measure => have := Hlt.out; simp [intOf]; omega
        · have Hb := Lib.hid hb; clear hb
          go_wp2_with fail
          go_meet
          exact ⟨by rw [Hb.out], rfl⟩
    case rest =>
      obtain ⟨hq1, hw1⟩ := hcut
      subst hw1
      rw [HYe.out] at hq1
      have hpos : 0 < Y := by have := IB.out.1; have := HYe.out; omega
      have d1 := Nat.div_add_mod' (U * 4294967296 + L1) Y
      have hR1 := Nat.mod_lt (U * 4294967296 + L1) hpos
      obtain ⟨Q1, hQ1⟩ : ∃ Q1, Q1 = (U * 4294967296 + L1) / Y := ⟨_, rfl⟩
      obtain ⟨R1, hR1e⟩ : ∃ R1, R1 = (U * 4294967296 + L1) % Y := ⟨_, rfl⟩
      rw [← hQ1, ← hR1e] at d1
      rw [← hR1e] at hR1
      rw [← hQ1] at hq1
      subst hq1
      have e21 := step_rem d1 (Nat.lt_trans hR1 HYW.out)
      have D1 := Lib.hid d1
      have HQ1 := Lib.hid hQ1
      clear d1 hQ1 hR1e
      obtain ⟨Qb, QYb, Rb, eQb, eQYb, eRb, gb, qb, rb⟩ := guess_enter (n := L0) IB.out.1 IB.out.2.1 IB.out.2.2.1 (by rw [HYe.out]; exact hR1) (by rw [HYe.out]; exact HYW.out) IB.out.2.2.2.2.1
      have GB := Lib.hid gb; have BB := Lib.hid (And.intro qb rb)
      clear gb qb rb eQ eQY eR
      have HR1 := Lib.hid hR1
      clear hR1 hUY
      go_upto_block 2 with fail
      go_cut [18, 16] (fun q _ wx => q = .int .u64 ((R1 * 4294967296 + L0) / (Y1 * 4294967296 + Y0) : Nat) ∧ wx = wc)
      case first =>
        go_wp2_with fail
        go_loopw [18, 16] (fun q r wx => ∃ q' r' : Nat, q = .int .u64 q' ∧ r = .int .u64 r' ∧ Hid (Guess Y1 Y0 R1 L0 q' r') ∧ Hid (q' ≤ 4294967297 ∧ r' < 4294967296) ∧ wx = wc) (fun q _ _ => (intOf q).toNat)
        case atStart => exact ⟨Qb, Rb, rfl, rfl, GB, BB, rfl⟩
        case round =>
          obtain ⟨q, r, rfl, rfl, hg, hqr, hwr⟩ := hrel
          subst hwr
          obtain ⟨P, eP, T, eT, q', eq', r', er', hway⟩ := guess_round hg.out hqr.out IB.out.1 IB.out.2.1 IB.out.2.2.1 IB.out.2.2.2.2.1 (by rw [HYe.out]; exact HR1.out)
          rcases hway with ⟨hc1, hw⟩ | ⟨hc1, hc2, hw⟩ | ⟨hc1, hc2, hb⟩
          · rcases hw with ⟨hc3, hb⟩ | ⟨hc3, hlt, hon, hbd⟩
            · have Hb := Lib.hid hb; clear hb
              go_wp2_with fail
              go_meet
              exact ⟨by rw [Hb.out], rfl⟩
            · have Hon := Lib.hid hon; have Hbd := Lib.hid hbd; have Hlt := Lib.hid hlt; clear hon hbd hlt
              go_wp2_with fail
              go_roundw
              case rel => exact ⟨q', r', rfl, rfl, Hon, Hbd, trivial⟩
              case measure => have := Hlt.out; simp [intOf]; omega
          · rcases hw with ⟨hc3, hb⟩ | ⟨hc3, hlt, hon, hbd⟩
            · have Hb := Lib.hid hb; clear hb
              go_wp2_with fail
              go_meet
              exact ⟨by rw [Hb.out], rfl⟩
            · have Hon := Lib.hid hon; have Hbd := Lib.hid hbd; have Hlt := Lib.hid hlt; clear hon hbd hlt
              go_wp2_with fail
              go_roundw
              case rel => exact ⟨q', r', rfl, rfl, Hon, Hbd, trivial⟩
              case measure => have := Hlt.out; simp [intOf]; omega
          · have Hb := Lib.hid hb; clear hb
            go_wp2_with fail
            go_meet
            exact ⟨by rw [Hb.out], rfl⟩

      case rest =>
        obtain ⟨hq0, hw0⟩ := hcut
        subst hw0
        rw [HYe.out] at hq0
        have d2 := Nat.div_add_mod' (R1 * 4294967296 + L0) Y
        have hR0 := Nat.mod_lt (R1 * 4294967296 + L0) hpos
        obtain ⟨Q0, hQ0⟩ : ∃ Q0, Q0 = (R1 * 4294967296 + L0) / Y := ⟨_, rfl⟩
        obtain ⟨R0, hR0e⟩ : ∃ R0, R0 = (R1 * 4294967296 + L0) % Y := ⟨_, rfl⟩
        rw [← hQ0, ← hR0e] at d2
        rw [← hR0e] at hR0
        rw [← hQ0] at hq0
        subst hq0
        have e22 := step_rem d2 (Nat.lt_trans hR0 HYW.out)
        obtain ⟨f1, f2⟩ := final_div Hsc.out HY.out HLe.out (by omega) D1.out d2 hR0
        have eF : IntKind.u64.wrap (IntKind.u64.wrap ((Q1 : Int) * 4294967296) + (Q0 : Int)) = (((hi * WB + lo) / y : Nat) : Int) := by
          rw [← f1]
          have hlt : Q1 * 4294967296 + Q0 < WB := by rw [f1]; exact div_lt_WB hh HlI.out
          rw [show (Q1 : Int) * 4294967296 = ((Q1 * 4294967296 : Nat) : Int) by omega, wrap_cast, Nat.mod_eq_of_lt (Nat.lt_of_le_of_lt (Nat.le_add_right _ _) hlt), show ((Q1 * 4294967296 : Nat) : Int) + (Q0 : Int) = ((Q1 * 4294967296 + Q0 : Nat) : Int) by omega, wrap_cast, Nat.mod_eq_of_lt hlt]
        have D2 := Lib.hid d2; have F1 := Lib.hid f1; have F2 := Lib.hid f2; have HR0 := Lib.hid hR0
        clear d2 f1 f2 hQ0 hR0e hR0
        go_wp2_with fail
        go_ret2
        refine ⟨0, ?_, rfl⟩
        rw [← F2.out, ← cast_div_pow]
        rfl
theorem bitsDiv (hi lo y : Nat) (w : World) (hy : y < WB) (hh : hi < y) (hl : lo < WB) :
    Calls Tryz.prog 276 #[.int .u64 hi, .int .u64 lo, .int .u64 y] w fun e w' =>
      ∃ m : Nat, e = .returned (.tuple #[.int .u64 ((hi * WB + lo) / y : Nat), .int .u64 ((hi * WB + lo) % y : Nat)]) ∧ w' = w.drewN m := by
  go_enter Tryz.func276, Tryz.ntmps276
  go_wp2_with fail
  refine (bitsDiv64 hi lo y w hy hh hl).mono ?_
  rintro e w' ⟨m, rfl, rfl⟩
  go_wp2_with fail
  go_ret2
  exact ⟨m, rfl, rfl⟩
/-- The first guess by the reciprocal (Möller and Granlund). -/
theorem recip_guess {W d f v e t lo X1 X0 : Nat} (h1 : v * d + e + 1 = W * W) (h2 : W * t + lo = v * X1 + X0) (hW : W = d + f) (he : e < d) (hlo : lo < W) (hX1 : X1 < d) (hX0 : X0 < W) :
    t * d ≤ X1 * W + X0 ∧ X1 * W + X0 < t * d + W + d := by
  have key : W * (X1 * W + X0) = W * (t * d) + lo * d + (1 + e) * X1 + f * X0 := by
    have a1 : (v * d + e + 1) * X1 = W * W * X1 := by rw [h1]
    have a2 : (W * t + lo) * d = (v * X1 + X0) * d := by rw [h2]
    have a3 : W * X0 = (d + f) * X0 := by rw [hW]
    grind
  have hpos : 0 < W := by omega
  constructor
  · refine Nat.le_of_mul_le_mul_left ?_ hpos
    omega
  · refine Nat.lt_of_mul_lt_mul_left (a := W) ?_
    rw [key]
    have b1 : lo * d + d ≤ W * d := by
      have := Nat.mul_le_mul_right d (show lo + 1 ≤ W from hlo)
      rw [Nat.add_mul] at this; omega
    have b2 : (1 + e) * X1 ≤ d * X1 := Nat.mul_le_mul_right _ (by omega)
    have b3 : d * X1 + d ≤ d * d := by
      have := Nat.mul_le_mul_left d (show X1 + 1 ≤ d from hX1)
      rw [Nat.mul_add] at this; omega
    have b4 : f * X0 ≤ f * W := Nat.mul_le_mul_left _ (by omega)
    have b5 : d * d ≤ W * d := Nat.mul_le_mul_right _ (by omega)
    have b6 : W * W = W * d + f * W := by rw [hW]; grind
    rw [Nat.mul_add, Nat.mul_add, b6]
    omega
def recip (y : Nat) : Nat := (WB * WB - 1) / (y * 2 ^ (64 - Lib.bitLen y)) - WB
theorem norm_bounds {y : Nat} (h0 : 0 < y) (hy : y < WB) : y * 2 ^ (64 - Lib.bitLen y) < WB ∧ WB ≤ 2 * (y * 2 ^ (64 - Lib.bitLen y)) := by
  obtain ⟨b1, b2, b3, b4⟩ := bitLen_spec (y := y) (by omega) hy
  generalize hs : 64 - Lib.bitLen y = s
  constructor
  · have : y * 2 ^ s < 2 ^ Lib.bitLen y * 2 ^ s := Nat.mul_lt_mul_of_pos_right b4 (Nat.two_pow_pos s)
    rwa [← Nat.pow_add, show Lib.bitLen y + s = 64 by omega, ← WB_eq] at this
  · have : 2 ^ (Lib.bitLen y - 1) * 2 ^ s ≤ y * 2 ^ s := Nat.mul_le_mul_right _ b3
    rw [← Nat.pow_add, show Lib.bitLen y - 1 + s = 63 by omega] at this
    rw [WB_eq]; omega
theorem recip_spec {d : Nat} (hd : d < WB) (hd2 : WB ≤ 2 * d) : ∃ m e, (WB * WB - 1) / d - WB = m ∧ m < WB ∧ (m + WB) * d + e + 1 = WB * WB ∧ e < d := by
  have hp : 0 < d := by unfold WB at hd2; omega
  have h1 := Nat.div_add_mod' (WB * WB - 1) d
  have h2 := Nat.mod_lt (WB * WB - 1) hp
  have h3 : WB ≤ (WB * WB - 1) / d := by
    rw [Nat.le_div_iff_mul_le hp]
    have : WB * d + WB ≤ WB * WB := by
      have := Nat.mul_le_mul_left WB (show d + 1 ≤ WB from hd)
      rw [Nat.mul_add] at this; omega
    have := WB_pos
    omega
  have h4 : (WB * WB - 1) / d < WB + WB := by
    rw [Nat.div_lt_iff_lt_mul hp]
    have : WB * WB ≤ WB * (2 * d) := Nat.mul_le_mul_left _ hd2
    have h5 : (WB + WB) * d = WB * (2 * d) := by rw [Nat.add_mul, Nat.two_mul, Nat.mul_add]
    have : 0 < WB * WB := Nat.mul_pos WB_pos WB_pos
    omega
  refine ⟨_, (WB * WB - 1) % d, rfl, by omega, ?_, h2⟩
  rw [Nat.sub_add_cancel h3]
  have : 0 < WB * WB := Nat.mul_pos WB_pos WB_pos
  omega
/-- The numbers and ways of divWW, its divisor scaled. -/
theorem divWW_core {d m X1 X0 : Nat} (hd : d < WB) (hd2 : WB ≤ 2 * d) (hm : (WB * WB - 1) / d - WB = m) (hX1 : X1 < d) (hX0 : X0 < WB) :
    m < WB ∧ ∃ c t b r0 r1 : Nat, addHi (mulLo m X1) X0 0 = c ∧ c ≤ 1 ∧ addLo (mulHi m X1) X1 c = t ∧ t < WB ∧ subHi X0 (mulLo d t) 0 = b ∧ b ≤ 1 ∧ subLo X0 (mulLo d t) 0 = r0 ∧ subLo X1 (mulHi d t) b = r1 ∧
      ∃ t1 r t2 r2 : Nat, IntKind.u64.wrap ((t : Int) + 1) = (t1 : Int) ∧ IntKind.u64.wrap ((r0 : Int) - (d : Int)) = (r : Int) ∧ IntKind.u64.wrap ((t1 : Int) + 1) = (t2 : Int) ∧ IntKind.u64.wrap ((r : Int) - (d : Int)) = (r2 : Int) ∧
      ((((r1 : Int) == 0) = true ∧ decide (d ≤ r0) = false ∧ t = (X1 * WB + X0) / d ∧ r0 = (X1 * WB + X0) % d) ∨
       (((r1 : Int) == 0) = true ∧ decide (d ≤ r0) = true ∧ t1 = (X1 * WB + X0) / d ∧ r = (X1 * WB + X0) % d) ∨
       (((r1 : Int) == 0) = false ∧ decide (d ≤ r) = false ∧ t1 = (X1 * WB + X0) / d ∧ r = (X1 * WB + X0) % d) ∨
       (((r1 : Int) == 0) = false ∧ decide (d ≤ r) = true ∧ t2 = (X1 * WB + X0) / d ∧ r2 = (X1 * WB + X0) % d)) := by
  have hp : 0 < d := by unfold WB at hd2; omega
  obtain ⟨m', e, hm', hmW, hme, he⟩ := recip_spec hd hd2
  obtain rfl : m' = m := hm'.symm.trans hm
  refine ⟨hmW, addHi (mulLo m' X1) X0 0, addLo (mulHi m' X1) X1 (addHi (mulLo m' X1) X0 0), _, _, _, rfl, addHi_le (mulLo_lt _ _) hX0 (by omega), rfl, addLo_lt _ _ _, rfl, subHi_le _ _ _, rfl, rfl, ?_⟩
  have a1 := mul_eq m' X1
  have a2 := add_eq (mulLo m' X1) X0 0
  have a2l := addLo_lt (mulLo m' X1) X0 0
  generalize addHi (mulLo m' X1) X0 0 = c at *
  generalize addLo (mulLo m' X1) X0 0 = lo at *
  -- the guess before it wraps
  obtain ⟨g1, g2⟩ := recip_guess (W := WB) (d := d) (f := WB - d) (v := m' + WB) (e := e) (t := mulHi m' X1 + X1 + c) (lo := lo) (X1 := X1) (X0 := X0) hme
    (by rw [Nat.mul_add, Nat.mul_add, Nat.add_mul]; omega) (by omega) he a2l hX1 hX0
  have hXd : X1 * WB + X0 < d * WB := two_lt hX1 hX0
  have htW : mulHi m' X1 + X1 + c < WB := by
    refine Nat.lt_of_mul_lt_mul_right (a := d) (Nat.lt_of_le_of_lt g1 ?_)
    rw [Nat.mul_comm WB d]; exact hXd
  have ht : addLo (mulHi m' X1) X1 c = mulHi m' X1 + X1 + c := Nat.mod_eq_of_lt htW
  rw [ht]
  generalize mulHi m' X1 + X1 + c = t at *
  have b1 := mul_eq d t
  have b2 := sub_eq (x := X0) (y := mulLo d t) (c := 0) hX0 (mulLo_lt _ _) (by omega)
  have hb1 := subHi_le X0 (mulLo d t) 0
  have b3 := sub_eq (x := X1) (y := mulHi d t) (c := subHi X0 (mulLo d t) 0) (by omega) (by have := mulHi_lt hd htW; omega) hb1
  have l0 := subLo_lt X0 (mulLo d t) 0
  have l1 := subLo_lt X1 (mulHi d t) (subHi X0 (mulLo d t) 0)
  have hb2 := subHi_le X1 (mulHi d t) (subHi X0 (mulLo d t) 0)
  generalize subHi X1 (mulHi d t) (subHi X0 (mulLo d t) 0) = b' at *
  generalize subLo X1 (mulHi d t) (subHi X0 (mulLo d t) 0) = r1 at *
  generalize subHi X0 (mulLo d t) 0 = b at *
  generalize subLo X0 (mulLo d t) 0 = r0 at *
  have hr : r1 * WB + r0 + t * d = X1 * WB + X0 + WB * (WB * b') := by
    have h1 : (r1 + mulHi d t + b) * WB = (X1 + WB * b') * WB := by rw [b3]
    rw [Nat.add_mul, Nat.add_mul, Nat.add_mul] at h1
    have h2 : WB * b' * WB = WB * (WB * b') := Nat.mul_comm _ _
    have h3 : mulHi d t * WB = WB * mulHi d t := Nat.mul_comm _ _
    have h4 : b * WB = WB * b := Nat.mul_comm _ _
    have h5 : d * t = t * d := Nat.mul_comm _ _
    omega
  have hb0 : b' = 0 := by
    rcases Nat.lt_or_ge b' 1 with h | h
    · omega
    · have h1 : r1 * WB + WB ≤ WB * WB := by have := Nat.mul_le_mul_right WB (show r1 + 1 ≤ WB from l1); rw [Nat.add_mul] at this; omega
      have h2 : WB * (WB * 1) ≤ WB * (WB * b') := Nat.mul_le_mul_left _ (Nat.mul_le_mul_left _ h)
      rw [Nat.mul_one] at h2
      omega
  rw [hb0, Nat.mul_zero, Nat.mul_zero, Nat.add_zero] at hr
  have hfin : ∀ q r : Nat, q * d + r = X1 * WB + X0 → r < d → q = (X1 * WB + X0) / d ∧ r = (X1 * WB + X0) % d := by
    intro q r h hr
    rw [← h]
    exact ⟨by rw [Nat.mul_comm q d, Nat.mul_add_div hp, Nat.div_eq_of_lt hr, Nat.add_zero], by rw [Nat.mul_comm q d, Nat.mul_add_mod, Nat.mod_eq_of_lt hr]⟩
  refine ⟨(t + 1) % WB, (IntKind.u64.wrap ((r0 : Int) - (d : Int))).toNat, ((t + 1) % WB + 1) % WB, (IntKind.u64.wrap ((((IntKind.u64.wrap ((r0 : Int) - (d : Int))).toNat : Nat) : Int) - (d : Int))).toNat, by rw [← wrap_cast]; rfl, by rw [IntKind.wrap_u64]; omega, by rw [← wrap_cast]; rfl, by rw [IntKind.wrap_u64]; omega, ?_⟩
  have hsuc : (t + 1) * d = t * d + d := Nat.succ_mul _ _
  have hsuc2 : (t + 1 + 1) * d = t * d + d + d := by rw [Nat.succ_mul, Nat.succ_mul]
  have hlt : ∀ q : Nat, q * d ≤ X1 * WB + X0 → q < WB := by
    intro q h
    refine Nat.lt_of_mul_lt_mul_right (a := d) (Nat.lt_of_le_of_lt h ?_)
    rw [Nat.mul_comm WB]; exact hXd
  by_cases h1 : r1 = 0
  · subst h1
    rw [Nat.zero_mul, Nat.zero_add] at hr
    by_cases h2 : d ≤ r0
    · refine .inr (.inl ⟨rfl, decide_eq_true (by omega), ?_⟩)
      have ht1 : t + 1 < WB := hlt _ (by omega)
      rw [Nat.mod_eq_of_lt ht1, show (IntKind.u64.wrap ((r0 : Int) - (d : Int))).toNat = r0 - d by rw [IntKind.wrap_u64]; unfold WB at l0; omega]
      exact hfin _ _ (by omega) (by omega)
    · exact .inl ⟨rfl, decide_eq_false (by omega), hfin _ _ (by omega) (by omega)⟩
  · have hr1 : r1 = 1 := by
      rcases Nat.lt_or_ge r1 2 with h | h
      · omega
      · have : 2 * WB ≤ r1 * WB := Nat.mul_le_mul_right _ h
        omega
    subst hr1
    rw [Nat.one_mul] at hr
    have e1 : (IntKind.u64.wrap ((r0 : Int) - (d : Int))).toNat = WB + r0 - d := by rw [IntKind.wrap_u64]; unfold WB at *; omega
    have ht1 : t + 1 < WB := hlt _ (by omega)
    rw [Nat.mod_eq_of_lt ht1, e1]
    by_cases h2 : d ≤ WB + r0 - d
    · refine .inr (.inr (.inr ⟨rfl, decide_eq_true (by omega), ?_⟩))
      have ht2 : t + 1 + 1 < WB := hlt _ (by omega)
      rw [Nat.mod_eq_of_lt ht2, show (IntKind.u64.wrap (((WB + r0 - d : Nat) : Int) - (d : Int))).toNat = WB + r0 - d - d by rw [IntKind.wrap_u64]; unfold WB at *; omega]
      exact hfin _ _ (by omega) (by omega)
    · exact .inr (.inr (.inl ⟨rfl, decide_eq_false (by omega), hfin _ _ (by omega) (by omega)⟩))
theorem div_scaled {hi lo y s U L q r : Nat} (hsc : U * WB + L = (hi * WB + lo) * 2 ^ s) (hy : 0 < y) (hq : q = (U * WB + L) / (y * 2 ^ s)) (hr : r = (U * WB + L) % (y * 2 ^ s)) : q = (hi * WB + lo) / y ∧ r / 2 ^ s = (hi * WB + lo) % y := by
  have hp := Nat.two_pow_pos s
  rw [hq, hr, hsc, Nat.mul_div_mul_right _ _ hp, Nat.mul_mod_mul_right, Nat.mul_div_cancel _ hp]
  exact ⟨rfl, rfl⟩
set_option maxRecDepth 100000 in
set_option maxHeartbeats 1000000 in
theorem divWW (x1 x0 y m : Nat) (w : World) (hy : y < WB) (hx1 : x1 < y) (hx0 : x0 < WB) (hm : m = recip y) :
    Calls Tryz.prog 278 #[.int .u64 x1, .int .u64 x0, .int .u64 y, .int .u64 m] w fun e w' =>
      e = .returned (.tuple #[.int .u64 ((x1 * WB + x0) / y : Nat), .int .u64 ((x1 * WB + x0) % y : Nat)]) ∧ w' = w.drewN 0 := by
  have hn := norm_bounds (y := y) (by omega) hy
  obtain ⟨b1, b2, b3, b4⟩ := bitLen_spec (y := y) (by omega) hy
  unfold recip at hm
  obtain ⟨s, hs⟩ : ∃ s, s = 64 - Lib.bitLen y := ⟨_, rfl⟩
  rw [← hs] at hn hm
  have hs64 : s < 64 := by omega
  have hsc := scaled (hi := x1) (lo := x0) (y := y) hs64
  have hXd : x1 * 2 ^ s + x0 / 2 ^ (64 - s) < y * 2 ^ s := by
    have h1 : (x1 * WB + x0) * 2 ^ s < (y * WB) * 2 ^ s := Nat.mul_lt_mul_of_pos_right (two_lt hx1 hx0) (Nat.two_pow_pos s)
    rw [← hsc, Nat.mul_right_comm] at h1
    exact Nat.lt_of_mul_lt_mul_right (Nat.lt_of_le_of_lt (Nat.le_add_right _ _) h1)
  have hL : x0 * 2 ^ s % WB < WB := Nat.mod_lt _ WB_pos
  have hhs : x1 * 2 ^ s < WB := Nat.lt_of_le_of_lt (Nat.mul_le_mul_right _ (by omega)) hn.1
  have hdl := div_shift_lt hx0 hs64
  have eX := or_shift0 hx0 hs64 hhs hdl
  obtain ⟨hmW, c, t, b, r0, r1, ec, hc, et, htW, eb, hb, er0, er1, t1, r, t2, r2, et1, er, et2, er2, hway⟩ := divWW_core hn.1 hn.2 hm.symm hXd hL
  have eY : IntKind.u64.wrap ((y : Int) * 2 ^ s) = ((y * 2 ^ s : Nat) : Int) := by rw [cast_mul_pow, wrap_cast, Nat.mod_eq_of_lt hn.1]
  have eL : IntKind.u64.wrap ((x0 : Int) * 2 ^ s) = ((x0 * 2 ^ s % WB : Nat) : Int) := by rw [cast_mul_pow, wrap_cast]
  have es : 64 - Lib.bitLen y = s := hs.symm
  have hz : s = 0 → x1 * 2 ^ s + x0 / 2 ^ (64 - s) = x1 ∧ x0 * 2 ^ s % WB = x0 ∧ y * 2 ^ s = y := by
    intro e
    rw [e, Nat.pow_zero, Nat.mul_one, Nat.mul_one, Nat.mul_one, Nat.mod_eq_of_lt hx0]
    refine ⟨?_, rfl, rfl⟩
    rw [Nat.div_eq_of_lt (by rw [← WB_eq]; exact hx0), Nat.add_zero]
  have hfin : ∀ q r : Nat, q = ((x1 * 2 ^ s + x0 / 2 ^ (64 - s)) * WB + x0 * 2 ^ s % WB) / (y * 2 ^ s) ∧ r = ((x1 * 2 ^ s + x0 / 2 ^ (64 - s)) * WB + x0 * 2 ^ s % WB) % (y * 2 ^ s) → q = (x1 * WB + x0) / y ∧ r / 2 ^ s = (x1 * WB + x0) % y :=
    fun q r h => div_scaled hsc (by omega) h.1 h.2
  obtain ⟨hd, hd2⟩ := hn
  have hX1W : x1 * 2 ^ s + x0 / 2 ^ (64 - s) < WB := Nat.lt_trans hXd hd
  obtain ⟨X1, hX1⟩ : ∃ X1, X1 = x1 * 2 ^ s + x0 / 2 ^ (64 - s) := ⟨_, rfl⟩
  obtain ⟨X0, hX0⟩ : ∃ X0, X0 = x0 * 2 ^ s % WB := ⟨_, rfl⟩
  obtain ⟨d, hdd⟩ : ∃ d, d = y * 2 ^ s := ⟨_, rfl⟩
  rw [← hX1, ← hX0, ← hdd] at hway hfin hz
  rw [← hdd] at hd hd2 eb er0 er1 er er2 eY
  rw [← hX1] at ec et er1 hX1W eX
  rw [← hX0] at ec eb er0 hL eL
  have Hfin := Lib.hid hfin; have Hway := Lib.hid hway; have Hz := Lib.hid hz
  have Hd := Lib.hid hd; have HL := Lib.hid hL; have HX1W := Lib.hid hX1W; have HmW := Lib.hid hmW; have HtW := Lib.hid htW; have Hy := Lib.hid hy
  clear hfin hway hz hd hd2 hL hX1W hmW htW hs hm hsc hXd hhs hdl hX1 hX0 hdd hx1 hx0 hy b1 b2 b3 b4
  have key : ∀ (q' r' : Nat), q' = (X1 * WB + X0) / d ∧ r' = (X1 * WB + X0) % d → Ending.returned (.tuple #[.int .u64 (q' : Nat), .int .u64 ((r' : Int) / 2 ^ s)]) = Ending.returned (.tuple #[.int .u64 ((x1 * WB + x0) / y : Nat), .int .u64 ((x1 * WB + x0) % y : Nat)]) := by
    intro q' r' h
    obtain ⟨k1, k2⟩ := Hfin.out _ _ h
    rw [← k1, ← k2, cast_div_pow]
  have Key := Lib.hid key; clear key
  go_enter Tryz.func278, Tryz.ntmps278
  go_wp2_with fail
  refine (nlz y Hy.out _).mono ?_
  rintro e w' ⟨rfl, rfl⟩
  go_upto_if 26 with fail
  go_cut [0, 1, 2] (fun a0 a1 a2 wx => a0 = .int .u64 X1 ∧ a1 = .int .u64 X0 ∧ a2 = .int .u64 d ∧ wx = w.drewN 0)
  case first =>
    by_cases hs0 : s = 0
    · obtain ⟨z1, z2, z3⟩ := Hz.out hs0
      have c1 : ((s : Int) == 0) = true := by simp; omega
      have c1' : ((s : Int) != 0) = false := by simp; omega
      have Z := Lib.hid (And.intro z1 (And.intro z2 z3))
      clear z1 z2 z3 hs0
      go_wp2_with fail
      go_meet
      exact ⟨by rw [Z.out.1], by rw [Z.out.2.1], by rw [Z.out.2.2], rfl⟩
    · have c1 : ((s : Int) == 0) = false := by simp; omega
      have c1' : ((s : Int) != 0) = true := by simp; omega
      clear hs0
      go_wp2_with fail
      go_meet
      exact ⟨rfl, rfl, rfl, rfl⟩
  case rest =>
    obtain ⟨rfl, rfl, rfl, rfl⟩ := hcut
    go_wp2_with fail
    refine (bits_Mul _ _ HmW.out HX1W.out _).mono ?_
    rintro e w' ⟨rfl, rfl⟩
    go_wp2_with fail
    refine (bits_Add _ _ 0 (mulLo_lt _ _) HL.out (by omega) _).mono ?_
    rintro e w' ⟨rfl, rfl⟩
    go_wp2_with fail
    refine (bits_Add _ _ _ (by have := mulHi_lt HmW.out HX1W.out; omega) HX1W.out hc _).mono ?_
    rintro e w' ⟨rfl, rfl⟩
    go_wp2_with fail
    refine (bits_Mul _ _ Hd.out HtW.out _).mono ?_
    rintro e w' ⟨rfl, rfl⟩
    go_wp2_with fail
    refine (bits_Sub _ _ 0 (by omega) _).mono ?_
    rintro e w' ⟨rfl, rfl⟩
    go_wp2_with fail
    refine (bits_Sub _ _ _ hb _).mono ?_
    rintro e w' ⟨rfl, rfl⟩
    rcases Hway.out with ⟨c1, c2, c3⟩ | ⟨c1, c2, c3⟩ | ⟨c1, c2, c3⟩ | ⟨c1, c2, c3⟩
    all_goals
      have C3 := Lib.hid c3
      clear c3
      have c1' := congrArg (!·) c1
      change (((r1 : Int) != 0) = _) at c1'
      simp only [Bool.not_true, Bool.not_false] at c1'
      go_wp2_with fail
      go_ret2
      exact ⟨Key.out _ _ C3.out, rfl⟩
theorem xor_max {u : Nat} (hu : u < WB) : bits BinOp.xor .u64 IntKind.u64.max (u : Int) = ((WB - 1 - u : Nat) : Int) := by
  have h1 : (BitVec.ofInt 64 (u : Int)).toNat = u := by
    rw [BitVec.ofInt_natCast, BitVec.toNat_ofNat]; exact Nat.mod_eq_of_lt hu
  have h2 : BitVec.ofInt 64 IntKind.u64.max = BitVec.allOnes 64 := by decide
  show IntKind.u64.wrap ((BitVec.ofInt 64 IntKind.u64.max ^^^ BitVec.ofInt 64 (u : Int)).toNat : Int) = _
  rw [h2, BitVec.allOnes_xor, BitVec.toNat_not, h1, IntKind.wrap_u64]
  unfold WB at *
  omega
set_option maxHeartbeats 1000000 in
theorem reciprocalWord (y : Nat) (w : World) (h0 : 0 < y) (hy : y < WB) :
    Calls Tryz.prog 277 #[.int .u64 y] w fun e w' => ∃ n, e = .returned (.int .u64 (recip y : Nat)) ∧ w' = w.drewN n := by
  have hn := norm_bounds h0 hy
  unfold recip
  obtain ⟨s, hs⟩ : ∃ s, s = 64 - Lib.bitLen y := ⟨_, rfl⟩
  rw [← hs] at hn ⊢
  obtain ⟨b1, b2, b3, b4⟩ := bitLen_spec (y := y) (by omega) hy
  have hs64 : s ≤ 64 := by omega
  obtain ⟨u, hu⟩ : ∃ u, u = y * 2 ^ s := ⟨_, rfl⟩
  rw [← hu] at hn ⊢
  have e1 : IntKind.u64.wrap ((y : Int) * 2 ^ s) = (u : Int) := by rw [cast_mul_pow, wrap_cast, ← hu, Nat.mod_eq_of_lt hn.1]
  have hq : ((WB - 1 - u) * WB + (WB - 1)) / u = (WB * WB - 1) / u - WB := by
    have hp : 0 < u := by have := hn.2; unfold WB at this; omega
    have : (WB - 1 - u) * WB + (WB - 1) = (WB * WB - 1) - WB * u := by
      have h1 : (WB - 1 - u + (1 + u)) * WB = WB * WB := by rw [show WB - 1 - u + (1 + u) = WB by have := hn.1; omega]
      rw [Nat.add_mul, Nat.add_mul, Nat.one_mul, Nat.mul_comm u] at h1
      have := WB_pos
      omega
    rw [this, Nat.mul_comm WB u, Nat.sub_mul_div_of_le]
    have : WB * u + WB ≤ WB * WB := by
      have := Nat.mul_le_mul_left WB (show u + 1 ≤ WB from hn.1)
      rw [Nat.mul_add] at this; omega
    have := WB_pos
    rw [Nat.mul_comm]; omega
  have e2 := xor_max hn.1
  have hlt : WB - 1 - u < u := by have := hn.2; omega
  have Hlt := Lib.hid hlt
  have Hn := Lib.hid hn
  have Hy := Lib.hid hy
  have Hq := Lib.hid hq
  have es : 64 - Lib.bitLen y = s := hs.symm
  clear hn hs b1 b2 b3 b4 hlt hq hu hy
  go_enter Tryz.func277, Tryz.ntmps277
  go_wp2_with fail
  refine (nlz y Hy.out _).mono ?_
  rintro e w' ⟨rfl, rfl⟩
  go_wp2_with fail
  refine (bitsDiv (WB - 1 - u) (WB - 1) u _ Hn.out.1 Hlt.out (by have := WB_pos; omega)).mono ?_
  rintro e w' ⟨n, rfl, rfl⟩
  go_wp2_with fail
  go_ret
  exact ⟨_, by rw [← Hq.out]; rfl, rfl⟩
theorem Val_low (w : World) (b o n : Nat) : Val w b o (n + 1) = wd w b o + WB * Val w b (o + 1) n := by
  unfold Val
  rw [V_low]
  rw [V_congr n (fun i _ => by show _ = wd w b (o + 1 + i); rw [Nat.add_assoc, Nat.add_comm 1 i])]
  rfl
theorem two_div_lt {x1 x0 y : Nat} (h : x1 < y) (hl : x0 < WB) : (x1 * WB + x0) / y < WB := by
  rw [Nat.div_lt_iff_lt_mul (by omega), Nat.mul_comm WB]
  exact two_lt h hl
def divQ (x1 x0 y : Nat) : Nat := (x1 * WB + x0) / y
def divR (x1 x0 y : Nat) : Nat := (x1 * WB + x0) % y
theorem div_eq (x1 x0 y : Nat) : divQ x1 x0 y * y + divR x1 x0 y = x1 * WB + x0 := Nat.div_add_mod' _ _
theorem divR_lt {x1 x0 y : Nat} (h : 0 < y) : divR x1 x0 y < y := Nat.mod_lt _ h
theorem divQ_lt {x1 x0 y : Nat} (h : x1 < y) (hl : x0 < WB) : divQ x1 x0 y < WB := two_div_lt h hl
theorem divWW' (x1 x0 y m : Nat) (w : World) (hy : y < WB) (hx1 : x1 < y) (hx0 : x0 < WB) (hm : m = recip y) :
    Calls Tryz.prog 278 #[.int .u64 x1, .int .u64 x0, .int .u64 y, .int .u64 m] w fun e w' =>
      e = .returned (.tuple #[.int .u64 (divQ x1 x0 y : Nat), .int .u64 (divR x1 x0 y : Nat)]) ∧ w' = w.drewN 0 := divWW x1 x0 y m w hy hx1 hx0 hm
theorem bitsDiv' (hi lo y : Nat) (w : World) (hy : y < WB) (hh : hi < y) (hl : lo < WB) :
    Calls Tryz.prog 276 #[.int .u64 hi, .int .u64 lo, .int .u64 y] w fun e w' =>
      ∃ m : Nat, e = .returned (.tuple #[.int .u64 (divQ hi lo y : Nat), .int .u64 (divR hi lo y : Nat)]) ∧ w' = w.drewN m := bitsDiv hi lo y w hy hh hl
theorem Val_one (w : World) (b o : Nat) : Val w b o 1 = wd w b o := by simp [Val, V]
theorem Val_congr {w w' : World} {b o n : Nat} (h : ∀ i, i < n → wd w' b (o + i) = wd w b (o + i)) : Val w' b o n = Val w b o n := V_congr n h
theorem alg_div {W P z r' r x y VZ VX xn : Nat} (h0 : VZ * y + r = VX + xn * P) (h1 : z * y + r' = r * W + x) : (z + W * VZ) * y + r' = x + W * VX + xn * (P * W) := by
  have : W * (VZ * y + r) = W * (VX + xn * P) := by rw [h0]
  grind
set_option maxHeartbeats 1000000 in
theorem divWVW (zb zo zc xb xo xc n xn y : Nat) (w : World) (hn : n < 4611686018427387904) (hn0 : 0 < n) (hy : y < WB) (hxn : xn < y)
    (hz : Wr w zb zo n) (hx : ∀ i, i < n → IsW w xb (xo + i)) (hxz : xb ≠ zb ∨ xo = zo ∨ xo + n ≤ zo ∨ zo + n ≤ xo) :
    Calls Tryz.prog 239 #[.slice (some ⟨zb, zo, none⟩) n zc, .int .u64 xn, .slice (some ⟨xb, xo, none⟩) n xc, .int .u64 y] w fun e w' =>
      ∃ r : Nat, e = .returned (.int .u64 r) ∧ r < y ∧ Val w' zb zo n * y + r = Val w xb xo n + xn * WB ^ n ∧ Chg (Rng zb zo n) w w' := by
  have Hy := Lib.hid hy
  clear hy
  by_cases h1 : n = 1
  · subst h1
    have c1 : ((1 : Nat) : Int) = 1 := rfl
    have hx0 := hx 0 (by omega)
    have hz0 := hz.isW 0 (by omega)
    have cx : w.cell? ⟨xb, xo, none⟩ = some (.int .u64 (wd w xb xo : Nat)) := hx0.cell
    have cz : w.cell? ⟨zb, zo, none⟩ = some (.int .u64 (wd w zb zo : Nat)) := hz0.cell
    have fz : w.frozen? ⟨zb, zo, none⟩ = false := hz.free 0 (by omega)
    go_enter Tryz.func239, Tryz.ntmps239
    go_wp2_with fail
    refine (bitsDiv' xn (wd w xb xo) y w Hy.out hxn hx0.lt).mono ?_
    rintro e w' ⟨m, rfl, rfl⟩
    go_wp2_with fail
    go_ret
    refine ⟨_, rfl, divR_lt (by omega), ?_, ?_⟩
    · rw [Val_one, Val_one, wd_setCell_same (w := w.drewN m) cz, Nat.pow_one, Nat.add_comm (wd w xb xo)]
      exact div_eq _ _ _
    · refine Chg.setW ((Chg.refl _ _).drewN m) hz0 (divQ_lt hxn hx0.lt) (fun _ => ⟨rfl, by omega, by omega⟩)
  · have c1 : ((n : Int) == 1) = false := by simp; omega
    have i0 : (0 : Int) < (n : Int) := by omega
    go_enter Tryz.func239, Tryz.ntmps239
    go_wp2_with fail
    refine (reciprocalWord y _ (by omega) Hy.out).mono ?_
    rintro e w' ⟨m, rfl, rfl⟩
    go_wp2_with fail
    go_loopw [8, 12] (fun r i wr => ∃ k rr : Nat, k ≤ n ∧ rr < y ∧ r = .int .u64 rr ∧ i = .int .i64 ((k : Int) - 1) ∧ Hid (Val wr zb (zo + k) (n - k) * y + rr = Val w xb (xo + k) (n - k) + xn * WB ^ (n - k)) ∧ Chg (Rng zb (zo + k) (n - k)) w wr) (fun _ i _ => (intOf i + 1).toNat)
    case atStart => exact ⟨n, xn, by omega, hxn, rfl, rfl, Lib.hid (by simp [Val, V]), (Chg.refl _ _).drewN _⟩
    case round =>
      obtain ⟨k, rr, hk, hrr, rfl, rfl, hV, hC⟩ := hrel
      by_cases hk0 : 0 < k
      · obtain ⟨j, rfl⟩ : ∃ j, k = j + 1 := ⟨k - 1, by omega⟩
        have ek : ((j + 1 : Nat) : Int) - 1 = (j : Int) := by omega
        rw [ek]
        have hxj := hx j (by omega)
        have hzj := hC.isW _ _ (hz.isW j (by omega))
        have cx : wr.cell? ⟨xb, xo + j, none⟩ = some (.int .u64 (wd w xb (xo + j) : Nat)) := (hC.cell _ _ hxj.block (by unfold Rng; omega)).trans hxj.cell
        have cz := hzj.cell
        have fz : wr.frozen? ⟨zb, zo + j, none⟩ = false := (hC.frozen _ (hz.isW j (by omega)).block).trans (hz.free j (by omega))
        have i1 : (j : Int) < (n : Int) := by omega
        go_wp2_with fail
        refine (divWW' rr (wd w xb (xo + j)) y (recip y) _ Hy.out hrr hxj.lt rfl).mono ?_
        rintro e w' ⟨rfl, rfl⟩
        go_wp2_with fail
        go_roundw
        case rel =>
          have hq := divQ_lt hrr hxj.lt
          refine ⟨j, _, by omega, divR_lt (x1 := rr) (x0 := wd w xb (xo + j)) (by omega), rfl, by go_num, Lib.hid ?_, ?_⟩
          · have e1 : n - j = (n - (j + 1)) + 1 := by omega
            rw [e1, Val_low, Val_low w]
            have e2 := wd_setCell_same (w := wr.drewN 0) (n := divQ rr (wd w xb (xo + j)) y) (k := .u64) cz
            rw [e2, Nat.pow_succ]
            rw [show Val ((wr.drewN 0).setCell ⟨zb, zo + j, none⟩ (.int .u64 (divQ rr (wd w xb (xo + j)) y : Nat))) zb (zo + j + 1) (n - (j + 1)) = Val wr zb (zo + (j + 1)) (n - (j + 1)) from Val_congr (w := wr) (fun i _ => (wd_setCell_ne (w := wr.drewN 0) (.inr (by omega))))]
            exact alg_div hV.out (div_eq _ _ _)
          · refine Chg.setW ((hC.mono (fun b o _ h => ?_)).drewN 0) hzj hq (fun _ => ⟨rfl, by omega, by omega⟩)
            obtain ⟨h1, h2, h3⟩ := h
            exact ⟨h1, by omega⟩
        case measure => simp [intOf]
      · have hk1 : k = 0 := by omega
        subst hk1
        go_wp2_with fail
        go_ret
        exact ⟨rr, rfl, hrr, hV.out, hC⟩
def No : Nat → Nat → Prop := fun _ _ => False
/-- The cells of n words. -/
def wcells (w : World) (b o n : Nat) : List Value := (List.range n).map fun i => .int .u64 (wd w b (o + i) : Nat)
theorem length_wcells (w : World) (b o n : Nat) : (wcells w b o n).length = n := by simp [wcells]
theorem get_wcells {w : World} {b o n j : Nat} (h : j < n) : (wcells w b o n)[j]? = some (.int .u64 (wd w b (o + j) : Nat)) := by simp [wcells, h]
/-- Words laid into words. -/
theorem Chg.setWords {S : Nat → Nat → Prop} {b : Nat} : ∀ (vs : List Nat) (o : Nat) {a w : World}, Chg S a w → (∀ j, j < vs.length → IsW w b (o + j)) → (∀ v ∈ vs, v < WB) → (∀ j, j < vs.length → b < a.heap.size → S b (o + j)) →
    Chg S a (w.setCells b o (vs.map fun v : Nat => Value.int .u64 v)) ∧ (∀ j (hj : j < vs.length), wd (w.setCells b o (vs.map fun v : Nat => Value.int .u64 v)) b (o + j) = vs[j])
  | [], _, _, _, h, _, _, _ => ⟨h, fun j hj => absurd hj (by simp)⟩
  | v :: r, o, a, w, h, hw, hv, hS => by
    have h0 : IsW w b o := hw 0 (by simp)
    have h1 := h.setW h0 (hv v (by simp)) (fun hb => hS 0 (by simp) hb)
    obtain ⟨k1, k2⟩ := Chg.setWords r (o + 1) h1 (fun j hj => by
      have := hw (j + 1) (by simp; omega)
      rw [show o + (j + 1) = o + 1 + j by omega] at this
      exact IsI.setW h0 (hv v (by simp)) _ _ this) (fun x hx => hv x (by simp [hx])) (fun j hj hb => by
      have := hS (j + 1) (by simp; omega) hb
      rwa [show o + (j + 1) = o + 1 + j by omega] at this)
    refine ⟨by simpa [World.setCells] using k1, fun j hj => ?_⟩
    cases j with
    | zero =>
      simp only [List.map_cons, World.setCells]
      rw [wd_congr (World.cell?_setCells_out b _ _ _ _ (fun _ _ => .inl (by simp)))]
      exact wd_setCell_same h0.cell
    | succ j =>
      have := k2 j (by simpa using hj)
      simp only [List.map_cons, World.setCells]
      rw [show o + (j + 1) = o + 1 + j by omega]
      simpa using this
theorem map_wd (w : World) (b o n : Nat) : wcells w b o n = ((List.range n).map fun i => wd w b (o + i)).map fun v : Nat => Value.int .u64 v := by simp [wcells]
theorem run_copyW {P : Program} (w : World) (dT sT ty elem : TypeId) (zb zo dLen dCap xb xo sLen sCap k : Nat) (hu : P.underlying dT = some (.slice elem)) (hs : (P.info? elem).map (·.size) = some 1) (hk : k = Nat.min sLen dLen)
    (hx : ∀ i, i < k → IsW w xb (xo + i)) (hz : Wr w zb zo k) :
    ∃ w', (Builtin.copy_ #[dT, sT] ty #[.slice (some ⟨zb, zo, none⟩) dLen dCap, .slice (some ⟨xb, xo, none⟩) sLen sCap]).run P w = .ok (goInt k) w' ∧ Chg (Rng zb zo k) w w' ∧ (∀ i, i < k → wd w' zb (zo + i) = wd w xb (xo + i)) := by
  have hr := run_copy_cells (P := P) w dT sT ty elem zb zo dLen dCap ⟨xb, xo, none⟩ sLen sCap (wcells w xb xo k) hu hs (by rw [length_wcells, hk])
    (fun j v hj => by
      have hjk : j < k := by
        rcases Nat.lt_or_ge j k with h | h
        · exact h
        · rw [List.getElem?_eq_none (by rw [length_wcells]; exact h)] at hj; simp at hj
      rw [get_wcells hjk] at hj
      have := (hx j hjk).cell
      simp only [Option.some.injEq] at hj
      subst hj
      have e : (⟨xb, xo, none⟩ : Addr).add j = ⟨xb, xo + j, none⟩ := by unfold Addr.add; split <;> simp_all
      rw [e]; exact this)
    (fun j hj => by rw [length_wcells] at hj; rw [(hz.isW j hj).cell]; rfl) (fun j hj => by rw [length_wcells] at hj; exact hz.free j hj) (fun v hv => by simp [wcells] at hv; obtain ⟨i, _, rfl⟩ := hv; rfl)
  rw [length_wcells, map_wd] at hr
  obtain ⟨k1, k2⟩ := Chg.setWords (S := Rng zb zo k) (b := zb) ((List.range k).map fun i => wd w xb (xo + i)) zo (Chg.refl _ w) (fun j hj => hz.isW j (by simpa using hj)) (fun v hv => by simp at hv; obtain ⟨i, hi, rfl⟩ := hv; exact (hx i hi).lt) (fun j hj _ => ⟨rfl, by omega, by simp at hj; omega⟩)
  refine ⟨_, hr, k1, fun i hi => ?_⟩
  have := k2 i (by simpa using hi)
  rw [this]; simp
/-- 'copy' of words into words of one's own. -/
theorem wpList_copyW {P : Program} {w : World} {ops : Array Oper} {rest : List Oper} {o : Oper} {a : Act} {Q : Exit → Act → World → Prop} (hgd : o.guard = none) (d s : Operand) (dT sT : TypeId)
    (ho : o.op = .call { callee := .builtin .copy, args := #[d, s], argTypes := #[dT, sT] }) (elem : TypeId) (hu : P.underlying dT = some (.slice elem)) (hsz : (P.info? elem).map (·.size) = some 1)
    (zb zo dLen dCap xb xo sLen sCap : Nat) (hd : a.eval d = .slice (some ⟨zb, zo, none⟩) dLen dCap) (hs : a.eval s = .slice (some ⟨xb, xo, none⟩) sLen sCap) (k : Nat) (hk : k = Nat.min sLen dLen)
    (hx : ∀ i, i < k → IsW w xb (xo + i)) (hz : Wr w zb zo k)
    (h : ∀ w', Chg (Rng zb zo k) w w' → Hid (∀ i, i < k → wd w' zb (zo + i) = wd w xb (xo + i)) → wpList P ops Q rest (a.put o.dst (goInt k)) w') : wpList P ops Q (o :: rest) a w := by
  refine wpList_plain hgd fun K hK => ?_
  obtain ⟨w', hrun, h1, h2⟩ := run_copyW (P := P) w dT sT o.type elem zb zo dLen dCap xb xo sLen sCap k hu hsz hk hx hz
  unfold Oper.wp
  simp [execOp, ho, resolve, invoke, builtin, hd, hs, hrun, Result.andThen]
  exact hK _ _ (h w' h1 h2)
theorem step_copyW {P : Program} {ops : Array Oper} {o : Oper} {a : Act} {w : World} {K : Act → World → Prop} {Q : Exit → Act → World → Prop} {E : Prop} (hgd : o.guard = none) (d s : Operand) (dT sT : TypeId)
    (ho : o.op = .call { callee := .builtin .copy, args := #[d, s], argTypes := #[dT, sT] }) (elem : TypeId) (hu : P.underlying dT = some (.slice elem)) (hsz : (P.info? elem).map (·.size) = some 1)
    (zb zo dLen dCap xb xo sLen sCap : Nat) (hd : a.eval d = .slice (some ⟨zb, zo, none⟩) dLen dCap) (hs : a.eval s = .slice (some ⟨xb, xo, none⟩) sLen sCap) (k : Nat) (hk : k = Nat.min sLen dLen)
    (hx : ∀ i, i < k → IsW w xb (xo + i)) (hz : Wr w zb zo k)
    (h : ∀ w', Chg (Rng zb zo k) w w' → Hid (∀ i, i < k → wd w' zb (zo + i) = wd w xb (xo + i)) → K (a.put o.dst (goInt k)) w') :
    if Region.wanted o (yielded ops a.tmps) = true then Oper.wp P o a w K Q else E := by
  have hw : Region.wanted o (yielded ops a.tmps) = true := by simp [Region.wanted, hgd]
  rw [if_pos hw]
  obtain ⟨w', hrun, h1, h2⟩ := run_copyW (P := P) w dT sT o.type elem zb zo dLen dCap xb xo sLen sCap k hu hsz hk hx hz
  unfold Oper.wp
  simp [execOp, ho, resolve, invoke, builtin, hd, hs, hrun, Result.andThen]
  exact h w' h1 h2
/-- Nothing goes over. -/
theorem wpList_copy0 {P : Program} {w : World} {ops : Array Oper} {rest : List Oper} {o : Oper} {a : Act} {Q : Exit → Act → World → Prop} (hgd : o.guard = none) (d s : Operand) (dT sT : TypeId)
    (ho : o.op = .call { callee := .builtin .copy, args := #[d, s], argTypes := #[dT, sT] }) (elem : TypeId) (hu : P.underlying dT = some (.slice elem)) (hsz : (P.info? elem).map (·.size) = some 1)
    (dp sp : Option Addr) (dLen dCap sLen sCap : Nat) (hd : a.eval d = .slice dp dLen dCap) (hs : a.eval s = .slice sp sLen sCap) (hn : Nat.min sLen dLen = 0)
    (h : wpList P ops Q rest (a.put o.dst (goInt 0)) w) : wpList P ops Q (o :: rest) a w := by
  refine wpList_plain hgd fun K hK => ?_
  have hrun := run_copy_none (P := P) w dT sT o.type elem dp sp dLen dCap sLen sCap hu hsz hn
  unfold Oper.wp
  simp [execOp, ho, resolve, invoke, builtin, hd, hs, hrun, Result.andThen]
  exact hK _ _ h
theorem step_copy0 {P : Program} {ops : Array Oper} {o : Oper} {a : Act} {w : World} {K : Act → World → Prop} {Q : Exit → Act → World → Prop} {E : Prop} (hgd : o.guard = none) (d s : Operand) (dT sT : TypeId)
    (ho : o.op = .call { callee := .builtin .copy, args := #[d, s], argTypes := #[dT, sT] }) (elem : TypeId) (hu : P.underlying dT = some (.slice elem)) (hsz : (P.info? elem).map (·.size) = some 1)
    (dp sp : Option Addr) (dLen dCap sLen sCap : Nat) (hd : a.eval d = .slice dp dLen dCap) (hs : a.eval s = .slice sp sLen sCap) (hn : Nat.min sLen dLen = 0)
    (h : K (a.put o.dst (goInt 0)) w) : if Region.wanted o (yielded ops a.tmps) = true then Oper.wp P o a w K Q else E := by
  have hw : Region.wanted o (yielded ops a.tmps) = true := by simp [Region.wanted, hgd]
  rw [if_pos hw]
  have hrun := run_copy_none (P := P) w dT sT o.type elem dp sp dLen dCap sLen sCap hu hsz hn
  unfold Oper.wp
  simp [execOp, ho, resolve, invoke, builtin, hd, hs, hrun, Result.andThen]
  exact h
/-- 'clear' of words. -/
theorem wpList_clearW {P : Program} {w : World} {ops : Array Oper} {rest : List Oper} {o : Oper} {a : Act} {Q : Exit → Act → World → Prop} (hgd : o.guard = none) (d : Operand) (dT : TypeId)
    (ho : o.op = .call { callee := .builtin .clear, args := #[d], argTypes := #[dT] }) (elem : TypeId) (i : TypeInfo) (hu : P.underlying dT = some (.slice elem)) (hi : P.info? elem = some i) (hz0 : i.zero = some (.int .u64 0))
    (zp : Option Addr) (n c : Nat) (hd : a.eval d = .slice zp n c) (hz : 0 < n → ∃ zb zo, zp = some ⟨zb, zo, none⟩ ∧ Wr w zb zo n)
    (h : ∀ w', (∀ zb zo, zp = some ⟨zb, zo, none⟩ → Chg (Rng zb zo n) w w') → (n = 0 → w' = w) → Hid (∀ zb zo, zp = some ⟨zb, zo, none⟩ → ∀ i, i < n → wd w' zb (zo + i) = 0) → wpList P ops Q rest (a.put o.dst (.tuple #[])) w') : wpList P ops Q (o :: rest) a w := by
  refine wpList_plain hgd fun K hK => ?_
  by_cases h0 : n = 0
  · subst h0
    have hrun : (Builtin.clear_ #[dT] o.type #[.slice zp 0 c]).run P w = .ok (.tuple #[]) w := by
      cases zp <;> simp [Builtin.clear_, run_underlying hu]
    unfold Oper.wp
    simp [execOp, ho, resolve, invoke, builtin, hd, hrun, Result.andThen]
    exact hK _ _ (h w (fun _ _ _ => Chg.refl _ _) (fun _ => rfl) (fun _ _ _ i hi => absurd hi (by omega)))
  · obtain ⟨zb, zo, rfl, hw⟩ := hz (by omega)
    have hst := run_storeCells_cells (P := P) zb zo ((List.replicate n 0).map fun v : Nat => Value.int .u64 v) 0 w (fun j hj => by simp at hj; simp only [Nat.add_zero]; rw [(hw.isW j hj).cell]; rfl) (fun j hj => by simp at hj; simpa using hw.free j hj) (fun v hv => by simp at hv; obtain ⟨_, rfl⟩ := hv; rfl)
    obtain ⟨k1, k2⟩ := Chg.setWords (S := Rng zb zo n) (b := zb) (List.replicate n 0) zo (Chg.refl _ w) (fun j hj => hw.isW j (by simpa using hj)) (fun v hv => by simp at hv; rw [hv.2]; exact WB_pos) (fun j hj _ => ⟨rfl, by omega, by simp at hj; omega⟩)
    have hzc : (Builtin.zeroCells #[Value.int .u64 0] n).toList = (List.replicate n 0).map fun v : Nat => Value.int .u64 v := by
      simp only [Builtin.zeroCells, List.map_replicate]
      apply List.ext_getElem
      · simp
      · intro j h1 h2
        simp [Nat.mod_one]
    obtain ⟨L, hL⟩ : ∃ L, L = (List.replicate n 0).map fun v : Nat => Value.int .u64 v := ⟨_, rfl⟩
    rw [← hL] at k1 k2 hst hzc
    clear hL
    have hrun : (Builtin.clear_ #[dT] o.type #[.slice (some ⟨zb, zo, none⟩) n c]).run P w = .ok (.tuple #[]) (w.setCells zb zo L) := by
      obtain ⟨m, rfl⟩ : ∃ m, n = m + 1 := ⟨n - 1, by omega⟩
      have hc : (zeroValue elem).run P w = .ok (.int .u64 0) w := by simp [zeroValue, typeInfo, hi, hz0]
      simp only [Nat.add_zero] at hst
      simp [Builtin.clear_, run_underlying hu, hc, Value.cells]
      rw [hzc, hst]
      rfl
    unfold Oper.wp
    simp [execOp, ho, resolve, invoke, builtin, hd, hrun, Result.andThen]
    refine hK _ _ (h _ (fun _ _ e => by cases e; exact k1) (fun e => absurd e h0) (fun _ _ e i hi => ?_))
    cases e
    have := k2 i (by simpa using hi)
    rw [this]; simp
/-- 'make' of words. -/
theorem wpList_makeW {P : Program} {w : World} {ops : Array Oper} {rest : List Oper} {o : Oper} {a : Act} {Q : Exit → Act → World → Prop} (hgd : o.guard = none) (l c : Operand) (t : TypeId) (hop : o.op = Op.makeSlice t l c)
    (e : TypeId) (i : TypeInfo) (h1 : P.underlying t = some (.slice e)) (h2 : P.info? e = some i) (h3 : i.zero = some (.int .u64 0)) (h4 : i.size = 1) (h5 : i.bytes = 8)
    (L C : Int) (n m : Nat) (hl : a.eval l = .int .i64 L) (hc : a.eval c = .int .i64 C) (hL : L = (n : Int)) (hC : C = (m : Int)) (hnm : n ≤ m) (hm : m < 35184372088832)
    (h : ∀ w', Chg No w w' → w'.heap.size = w.heap.size + 1 → Wr w' w.heap.size 0 m → Hid (∀ i, i < m → wd w' w.heap.size i = 0) → wpList P ops Q rest (a.put o.dst (.slice (some ⟨w.heap.size, 0, none⟩) n m)) w') : wpList P ops Q (o :: rest) a w := by
  refine wpList_plain hgd fun K hK => ?_
  subst hL; subst hC
  have hrun := run_make (P := P) w t e i (.int .u64 0) h1 h2 h3 .i64 .i64 n m (by omega) (by omega) (by rw [h5]; omega) (by omega)
  simp only [Int.toNat_natCast] at hrun
  rw [h4, Nat.mul_one] at hrun
  have hcell : ∀ i, i < m → (w.alloc (.cells (madeCells (Value.int .u64 0).cells m) e)).cell? ⟨w.heap.size, i, none⟩ = some (.int .u64 ((0 : Nat) : Int)) := by
    intro i hi
    rw [World.cell?_alloc_new]
    simp [madeCells, Value.cells, hi, Nat.mod_one]
  unfold Oper.wp
  simp [execOp, hop, hl, hc, hrun, Result.andThen]
  refine hK _ _ (h _ (Chg.refl _ _ |>.alloc _) (by simp) ⟨fun i hi => ?_, Plain.new _ _ _⟩ (fun i hi => wd_of (hcell i hi)))
  rw [Nat.zero_add]; exact ⟨0, WB_pos, hcell i hi⟩
end Go.Proofs.YtacfhndledcmgaaGreatDoor
