/- Lemmas for the law FnBack: methods of nat, cells of a Float. Conditions: those in each theorem; none besides. -/
import Derived.Test.YtacfhndledcmgaaGreatDoorJ1
import Derived.Lib.ItoaNum
import Derived.Deep.DeepCutAuto
import Derived.Deep.CutBlock
import Derived.Deep.RegionLaw
import Derived.Laws.IdiomCopy
import Derived.LaidEql
import Derived.Shelf.Spec.TrailingZeros
import Derived.Shelf.Spec.SlicesGrow
set_option linter.unusedVariables false
set_option linter.unusedSimpArgs false
namespace Go.Proofs.YtacfhndledcmgaaGreatDoor
open Go.RowKit
theorem bitLen_spec {y : Nat} (h0 : y ≠ 0) (hy : y < WB) : Lib.bitLen y ≤ 64 ∧ 1 ≤ Lib.bitLen y ∧ 2 ^ (Lib.bitLen y - 1) ≤ y ∧ y < 2 ^ Lib.bitLen y := by
  obtain ⟨h1, h2, h3⟩ := Lib.bitLenAux_bounds 64 y hy h0
  exact ⟨Lib.bitLen_le y 64 (by omega) hy, h1, h2, h3⟩
/-- One digit of the division of three half words by two (Knuth). -/
structure Guess (Y1 Y0 U n q r : Nat) : Prop where
  eq : q * Y1 + r = U
  ge : (U * 4294967296 + n) / (Y1 * 4294967296 + Y0) ≤ q
  le : q ≤ 4294967297
theorem guess_start {Y1 Y0 U n : Nat} (h1 : 2147483648 ≤ Y1) (_h2 : Y1 < 4294967296) (h0 : Y0 < 4294967296) (hU : U < Y1 * 4294967296 + Y0) (hn : n < 4294967296) : Guess Y1 Y0 U n (U / Y1) (U % Y1) ∧ U % Y1 < 4294967296 := by
  have hpos : 0 < Y1 := by omega
  have hm := Nat.mod_lt U hpos
  refine ⟨⟨Nat.div_add_mod' U Y1, ?_, ?_⟩, by omega⟩
  · rw [Nat.div_le_iff_le_mul_add_pred (by omega)]
    have h3 : U + 1 ≤ (U / Y1 + 1) * Y1 := by have := Nat.div_add_mod' U Y1; rw [Nat.add_mul]; omega
    have h4 : (U / Y1) * Y0 ≥ 0 := Nat.zero_le _
    have h5 : (Y1 * 4294967296 + Y0) * (U / Y1) = (U / Y1) * Y1 * 4294967296 + (U / Y1) * Y0 := by grind
    rw [h5]; rw [Nat.add_mul] at h3; omega
  · have : U / Y1 < 4294967298 := by rw [Nat.div_lt_iff_lt_mul hpos]; omega
    omega
theorem guess_stop {Y1 Y0 U n q r : Nat} (g : Guess Y1 Y0 U n q r) (h1 : 0 < Y1) (h : q * Y0 ≤ 4294967296 * r + n) : q = (U * 4294967296 + n) / (Y1 * 4294967296 + Y0) := by
  refine Nat.le_antisymm ?_ g.ge
  rw [Nat.le_div_iff_mul_le (by omega)]
  have h5 : q * (Y1 * 4294967296 + Y0) = q * Y1 * 4294967296 + q * Y0 := by grind
  have := g.eq
  omega
theorem guess_on {Y1 Y0 U n q r : Nat} (g : Guess Y1 Y0 U n q r) (hU : U < Y1 * 4294967296 + Y0) (hn : n < 4294967296) (h : 4294967296 ≤ q ∨ 4294967296 * r + n < q * Y0) : 1 ≤ q ∧ Guess Y1 Y0 U n (q - 1) (r + Y1) := by
  have hlt : (U * 4294967296 + n) / (Y1 * 4294967296 + Y0) < q := by
    rw [Nat.div_lt_iff_lt_mul (by omega)]
    rcases h with h | h
    · have : 4294967296 * (Y1 * 4294967296 + Y0) ≤ q * (Y1 * 4294967296 + Y0) := Nat.mul_le_mul_right _ h
      omega
    · have h5 : q * (Y1 * 4294967296 + Y0) = q * Y1 * 4294967296 + q * Y0 := by grind
      have := g.eq
      omega
  have hle := g.le
  have hge := g.ge
  generalize hT : (U * 4294967296 + n) / (Y1 * 4294967296 + Y0) = T at *
  refine ⟨by omega, ?_, by omega, by omega⟩
  obtain ⟨p, rfl⟩ : ∃ p, q = p + 1 := ⟨q - 1, by omega⟩
  have := g.eq
  rw [Nat.add_sub_cancel]; rw [Nat.add_mul] at this; omega
theorem guess_break {Y1 Y0 U n q r : Nat} (g : Guess Y1 Y0 U n q r) (h2 : Y1 < 4294967296) (h0 : Y0 < 4294967296) (h1 : 0 < Y1) (hU : U < Y1 * 4294967296 + Y0) (h : 4294967296 ≤ r) : q = (U * 4294967296 + n) / (Y1 * 4294967296 + Y0) := by
  refine guess_stop g h1 ?_
  have hq : q < 4294967296 := by
    have := g.eq
    have h3 : q * Y1 < 4294967296 * Y1 := by omega
    exact Nat.lt_of_mul_lt_mul_right h3
  have : q * Y0 ≤ 4294967295 * 4294967295 := Nat.mul_le_mul (by omega) (by omega)
  omega
theorem mask32 {y : Nat} (hy : y < WB) : bits .and .u64 (y : Int) 4294967295 = ((y % 4294967296 : Nat) : Int) := by
  rw [show (4294967295 : Int) = ((4294967295 : Nat) : Int) from rfl, bits_and_u64_nat y 4294967295 hy (by omega)]
  congr 1
  rw [show (4294967295 : Nat) = 2 ^ 32 - 1 from rfl, Nat.and_two_pow_sub_one_eq_mod]
theorem or_shift0 {x y s : Nat} (hy : y < WB) (hs : s < 64) (hx : x * 2 ^ s < WB) (hd : y / 2 ^ (64 - s) < 2 ^ s) :
    bits BinOp.or .u64 (IntKind.u64.wrap ((x : Int) * 2 ^ s)) ((y : Int) / 2 ^ (64 - s)) = ((x * 2 ^ s + y / 2 ^ (64 - s) : Nat) : Int) := by
  have h3 : 2 ^ s ≤ WB := by rw [WB_eq]; exact Nat.pow_le_pow_right (by decide) (by omega)
  rw [cast_mul_pow, wrap_cast, cast_div_pow, Nat.mod_eq_of_lt hx, bits_or_u64_nat _ _ hx (Nat.lt_of_lt_of_le hd h3)]
  congr 1
  rw [Nat.mul_comm x, ← Nat.two_pow_add_eq_or_of_lt hd]
theorem div_shift_lt {y s : Nat} (hy : y < WB) (hs : s < 64) : y / 2 ^ (64 - s) < 2 ^ s := by
  rw [Nat.div_lt_iff_lt_mul (Nat.two_pow_pos _), ← Nat.pow_add, show s + (64 - s) = 64 by omega]; exact hy
/-- The scaled operands. -/
theorem scaled {hi lo y s : Nat} (hs : s < 64) : (hi * 2 ^ s + lo / 2 ^ (64 - s)) * WB + lo * 2 ^ s % WB = (hi * WB + lo) * 2 ^ s := by
  have h := shift_eq lo s hs
  generalize lo / 2 ^ (64 - s) = a at *
  generalize lo * 2 ^ s % WB = b at *
  rw [Nat.add_mul, Nat.add_mul, ← h]
  generalize 2 ^ s = c
  generalize WB = B
  grind
/-- Two digits by two steps. -/
theorem two_steps {U L1 L0 Y H Q1 R1 Q0 R0 : Nat} (h1 : U * H + L1 = Q1 * Y + R1) (h2 : R1 * H + L0 = Q0 * Y + R0) : U * (H * H) + (L1 * H + L0) = (Q1 * H + Q0) * Y + R0 := by
  have : (U * H + L1) * H = (Q1 * Y + R1) * H := by rw [h1]
  grind
/-- One round of the loop, all its numbers and ways. -/
theorem guess_round {Y1 Y0 U n q r : Nat} (g : Guess Y1 Y0 U n q r) (hb : q ≤ 4294967297 ∧ r < 4294967296) (h1 : 2147483648 ≤ Y1) (h2 : Y1 < 4294967296) (h0 : Y0 < 4294967296) (hn : n < 4294967296) (hU : U < Y1 * 4294967296 + Y0) :
    ∃ P : Nat, IntKind.u64.wrap ((q : Int) * (Y0 : Int)) = (P : Int) ∧ ∃ T : Nat, IntKind.u64.wrap (IntKind.u64.wrap (4294967296 * (r : Int)) + (n : Int)) = (T : Int) ∧
      ∃ q' : Nat, IntKind.u64.wrap ((q : Int) - 1) = (q' : Int) ∧ ∃ r' : Nat, IntKind.u64.wrap ((r : Int) + (Y1 : Int)) = (r' : Int) ∧
      ((4294967296 ≤ (q : Int) ∧ (4294967296 ≤ (r' : Int) ∧ q' = (U * 4294967296 + n) / (Y1 * 4294967296 + Y0) ∨ (decide (4294967296 ≤ (r' : Int)) = false ∧ q' < q ∧ Guess Y1 Y0 U n q' r' ∧ q' ≤ 4294967297 ∧ r' < 4294967296))) ∨
       (decide (4294967296 ≤ (q : Int)) = false ∧ (T : Int) < (P : Int) ∧ (4294967296 ≤ (r' : Int) ∧ q' = (U * 4294967296 + n) / (Y1 * 4294967296 + Y0) ∨ (decide (4294967296 ≤ (r' : Int)) = false ∧ q' < q ∧ Guess Y1 Y0 U n q' r' ∧ q' ≤ 4294967297 ∧ r' < 4294967296))) ∨
       (decide (4294967296 ≤ (q : Int)) = false ∧ (P : Int) ≤ (T : Int) ∧ q = (U * 4294967296 + n) / (Y1 * 4294967296 + Y0))) := by
  have hP : q * Y0 ≤ 4294967297 * 4294967295 := Nat.mul_le_mul hb.1 (by omega)
  refine ⟨q * Y0, by rw [← Int.natCast_mul, wrap_cast, Nat.mod_eq_of_lt (by unfold WB; omega)], 4294967296 * r + n, ?_, ?_⟩
  · rw [show (4294967296 * (r : Int)) = ((4294967296 * r : Nat) : Int) by omega, wrap_cast, Nat.mod_eq_of_lt (by unfold WB; omega), show ((4294967296 * r : Nat) : Int) + (n : Int) = ((4294967296 * r + n : Nat) : Int) by omega, wrap_cast, Nat.mod_eq_of_lt (by unfold WB; omega)]
  · by_cases hc : 4294967296 ≤ q ∨ 4294967296 * r + n < q * Y0
    · obtain ⟨q1, gon⟩ := guess_on g hU hn hc
      have hw : 4294967296 ≤ ((r + Y1 : Nat) : Int) ∧ q - 1 = (U * 4294967296 + n) / (Y1 * 4294967296 + Y0) ∨ (decide (4294967296 ≤ ((r + Y1 : Nat) : Int)) = false ∧ q - 1 < q ∧ Guess Y1 Y0 U n (q - 1) (r + Y1) ∧ q - 1 ≤ 4294967297 ∧ r + Y1 < 4294967296) := by
        by_cases hr : 4294967296 ≤ r + Y1
        · exact .inl ⟨by omega, guess_break gon h2 h0 (by omega) hU hr⟩
        · exact .inr ⟨decide_eq_false (by omega), by omega, gon, by omega, by omega⟩
      refine ⟨q - 1, by rw [show (q : Int) - 1 = ((q - 1 : Nat) : Int) by omega, wrap_cast, Nat.mod_eq_of_lt (by unfold WB; omega)], r + Y1, by rw [show (r : Int) + (Y1 : Int) = ((r + Y1 : Nat) : Int) by omega, wrap_cast, Nat.mod_eq_of_lt (by unfold WB; omega)], ?_⟩
      by_cases hq : 4294967296 ≤ q
      · exact .inl ⟨by omega, hw⟩
      · exact .inr (.inl ⟨decide_eq_false (by omega), by omega, hw⟩)
    · have hwr : ∃ q' : Nat, IntKind.u64.wrap ((q : Int) - 1) = (q' : Int) := ⟨(IntKind.u64.wrap ((q : Int) - 1)).toNat, by rw [IntKind.wrap_u64]; omega⟩
      obtain ⟨q', hq'⟩ := hwr
      refine ⟨q', hq', r + Y1, by rw [show (r : Int) + (Y1 : Int) = ((r + Y1 : Nat) : Int) by omega, wrap_cast, Nat.mod_eq_of_lt (by unfold WB; omega)], .inr (.inr ⟨decide_eq_false (by omega), by omega, guess_stop g (by omega) (by omega)⟩)⟩
/-- The first guess as the code makes it. -/
theorem guess_enter {Y1 Y0 U n : Nat} (h1 : 2147483648 ≤ Y1) (h2 : Y1 < 4294967296) (h0 : Y0 < 4294967296) (hU : U < Y1 * 4294967296 + Y0) (hW : Y1 * 4294967296 + Y0 < WB) (hn : n < 4294967296) :
    ∃ Q QY R : Nat, IntKind.u64.wrap ((U : Int) / (Y1 : Int)) = (Q : Int) ∧ IntKind.u64.wrap ((Q : Int) * (Y1 : Int)) = (QY : Int) ∧ IntKind.u64.wrap ((U : Int) - (QY : Int)) = (R : Int) ∧ Guess Y1 Y0 U n Q R ∧ Q ≤ 4294967297 ∧ R < 4294967296 := by
  obtain ⟨g0, r0⟩ := guess_start (U := U) (n := n) h1 h2 h0 hU hn
  have hle := g0.le
  have heq := g0.eq
  unfold WB at hW
  refine ⟨U / Y1, U / Y1 * Y1, U % Y1, ?_, ?_, ?_, g0, hle, r0⟩
  · rw [← Int.natCast_ediv, wrap_cast, Nat.mod_eq_of_lt (by unfold WB; omega)]
  · rw [← Int.natCast_mul, wrap_cast, Nat.mod_eq_of_lt (by unfold WB; omega)]
  · rw [show (U : Int) - ((U / Y1 * Y1 : Nat) : Int) = ((U % Y1 : Nat) : Int) by omega, wrap_cast, Nat.mod_eq_of_lt (by unfold WB; omega)]
/-- What is left behind a digit. -/
theorem step_rem {U n Y Q R : Nat} (h : Q * Y + R = U * 4294967296 + n) (hR : R < WB) :
    IntKind.u64.wrap (IntKind.u64.wrap (IntKind.u64.wrap ((U : Int) * 4294967296) + (n : Int)) - IntKind.u64.wrap ((Q : Int) * (Y : Int))) = (R : Int) := by
  rw [← Int.natCast_mul]
  generalize Q * Y = P at *
  simp only [IntKind.wrap_u64]
  unfold WB at hR
  omega
theorem final_div {hi lo y s U L1 L0 Y Q1 R1 Q0 R0 L : Nat} (hsc : U * WB + L = (hi * WB + lo) * 2 ^ s) (hY : Y = y * 2 ^ s) (hL : L1 * 4294967296 + L0 = L) (hy : 0 < y)
    (h1 : Q1 * Y + R1 = U * 4294967296 + L1) (h2 : Q0 * Y + R0 = R1 * 4294967296 + L0) (hR : R0 < Y) : Q1 * 4294967296 + Q0 = (hi * WB + lo) / y ∧ R0 / 2 ^ s = (hi * WB + lo) % y := by
  have h3 := two_steps h1.symm h2.symm
  have h4 : (Q1 * 4294967296 + Q0) * Y + R0 = (hi * WB + lo) * 2 ^ s := by rw [← h3, ← hsc, ← hL]; rfl
  have h5 : R0 % 2 ^ s = 0 := by
    have : ((Q1 * 4294967296 + Q0) * Y + R0) % 2 ^ s = 0 := by rw [h4]; exact Nat.mul_mod_left _ _
    rw [hY, ← Nat.mul_assoc, Nat.mul_add_mod_self_right] at this
    exact this
  obtain ⟨t, ht⟩ := Nat.dvd_of_mod_eq_zero h5
  have hp := Nat.two_pow_pos s
  rw [ht, Nat.mul_comm _ t, hY, ← Nat.mul_assoc, ← Nat.add_mul] at h4
  have h6 : (Q1 * 4294967296 + Q0) * y + t = hi * WB + lo := Nat.eq_of_mul_eq_mul_right hp h4
  have h7 : t < y := by
    rw [ht, hY, Nat.mul_comm _ t] at hR
    exact Nat.lt_of_mul_lt_mul_right hR
  rw [← h6, ht, Nat.mul_div_cancel_left _ hp]
  constructor
  · rw [Nat.mul_comm (Q1 * 4294967296 + Q0) y, Nat.mul_add_div hy, Nat.div_eq_of_lt h7, Nat.add_zero]
  · rw [Nat.mul_comm (Q1 * 4294967296 + Q0) y, Nat.mul_add_mod, Nat.mod_eq_of_lt h7]
theorem div_lt_WB {hi lo y : Nat} (h : hi < y) (hl : (lo : Int) ≤ 18446744073709551615) : (hi * WB + lo) / y < WB := by
  rw [Nat.div_lt_iff_lt_mul (by omega), Nat.mul_comm WB]
  have : (hi + 1) * WB ≤ y * WB := Nat.mul_le_mul_right _ h
  rw [Nat.add_mul] at this
  have : lo < WB := by unfold WB; omega
  omega
theorem two_lt {hi lo y B : Nat} (h : hi < y) (hl : lo < B) : hi * B + lo < y * B := by
  have : (hi + 1) * B ≤ y * B := Nat.mul_le_mul_right _ h
  rw [Nat.add_mul] at this; omega
set_option maxHeartbeats 1000000 in
theorem bitsDiv64_zero (lo y : Nat) (w : World) (hy : 0 < y) (hl : lo < WB) :
    Calls Tryz.prog 305 #[.int .u64 0, .int .u64 lo, .int .u64 y] w fun e w' =>
      ∃ m : Nat, e = .returned (.tuple #[.int .u64 (lo / y : Nat), .int .u64 (lo % y : Nat)]) ∧ w' = w.drewN m := by
    have c1 : ((y : Int) == 0) = false := by simp; omega
    have c3 : (0 : Int) < y := by omega
    have e1 : IntKind.u64.wrap ((lo : Int) / (y : Int)) = ((lo / y : Nat) : Int) := by rw [← Int.natCast_ediv, wrap_cast, Nat.mod_eq_of_lt (Nat.lt_of_le_of_lt (Nat.div_le_self _ _) hl)]
    have e2 : IntKind.u64.wrap ((lo : Int) % (y : Int)) = ((lo % y : Nat) : Int) := by rw [← Int.natCast_emod, wrap_cast, Nat.mod_eq_of_lt (Nat.lt_of_le_of_lt (Nat.mod_le _ _) hl)]
    go_enter Tryz.func305, Tryz.ntmps305
    go_wp2_with fail
    go_quiet (fail)
    go_wp2_with fail
    go_ret2
    exact ⟨_, rfl, rfl⟩
set_option maxRecDepth 1000000 in
set_option maxHeartbeats 1000000 in
theorem bitsDiv64 (hi lo y : Nat) (w : World) (hy : y < WB) (hh : hi < y) (hl : lo < WB) :
    Calls Tryz.prog 305 #[.int .u64 hi, .int .u64 lo, .int .u64 y] w fun e w' =>
      ∃ m : Nat, e = .returned (.tuple #[.int .u64 ((hi * WB + lo) / y : Nat), .int .u64 ((hi * WB + lo) % y : Nat)]) ∧ w' = w.drewN m := by
  by_cases h0 : hi = 0
  · subst h0
    refine (bitsDiv64_zero lo y w hh hl).mono ?_
    rintro e w' ⟨m, rfl, rfl⟩
    exact ⟨m, by simp only [Nat.zero_mul, Nat.zero_add], rfl⟩
  · have c1 : ((y : Int) == 0) = false := by simp; omega
    have c2 : ((hi : Int) == 0) = false := by simp; omega
    obtain ⟨b1, b2, b3, b4⟩ := bitLen_spec (y := y) (by omega) hy
    obtain ⟨s, hs⟩ : ∃ s, s = 64 - Lib.bitLen y := ⟨_, rfl⟩
    have es : (64 : Int) - (Lib.bitLen y : Int) = (s : Int) := by omega
    have hs64 : s < 64 := by omega
    have hYW : y * 2 ^ s < WB := by
      have : y * 2 ^ s < 2 ^ Lib.bitLen y * 2 ^ s := Nat.mul_lt_mul_of_pos_right b4 (Nat.two_pow_pos s)
      rwa [← Nat.pow_add, show Lib.bitLen y + s = 64 by omega, ← WB_eq] at this
    have hYL : 9223372036854775808 ≤ y * 2 ^ s := by
      have : 2 ^ (Lib.bitLen y - 1) * 2 ^ s ≤ y * 2 ^ s := Nat.mul_le_mul_right _ b3
      rwa [← Nat.pow_add, show Lib.bitLen y - 1 + s = 63 by omega] at this
    have hsc := scaled (hi := hi) (lo := lo) (y := y) hs64
    have hhs : hi * 2 ^ s < WB := Nat.lt_of_le_of_lt (Nat.mul_le_mul_right _ (by omega)) hYW
    have hdl := div_shift_lt hl hs64
    obtain ⟨Y, hY⟩ : ∃ Y, Y = y * 2 ^ s := ⟨_, rfl⟩
    have eY : IntKind.u64.wrap ((y : Int) * 2 ^ s) = (Y : Int) := by rw [cast_mul_pow, wrap_cast, Nat.mod_eq_of_lt hYW, hY]
    obtain ⟨Y1, hY1⟩ : ∃ Y1, Y1 = Y / 4294967296 := ⟨_, rfl⟩
    have eY1 : (Y : Int) / 4294967296 = (Y1 : Int) := by omega
    obtain ⟨Y0, hY0⟩ : ∃ Y0, Y0 = Y % 4294967296 := ⟨_, rfl⟩
    have eY0 : bits .and .u64 (Y : Int) 4294967295 = (Y0 : Int) := by rw [mask32 (by omega), hY0]
    obtain ⟨U, hU⟩ : ∃ U, U = hi * 2 ^ s + lo / 2 ^ (64 - s) := ⟨_, rfl⟩
    have eU : bits .or .u64 (IntKind.u64.wrap ((hi : Int) * 2 ^ s)) ((lo : Int) / 2 ^ (64 - s)) = (U : Int) := by rw [or_shift0 hl hs64 hhs hdl, hU]
    obtain ⟨L, hL⟩ : ∃ L, L = lo * 2 ^ s % WB := ⟨_, rfl⟩
    have eL : IntKind.u64.wrap ((lo : Int) * 2 ^ s) = (L : Int) := by rw [cast_mul_pow, wrap_cast, hL]
    have hLW : L < WB := by rw [hL]; exact Nat.mod_lt _ WB_pos
    obtain ⟨L1, hL1⟩ : ∃ L1, L1 = L / 4294967296 := ⟨_, rfl⟩
    have eL1 : (L : Int) / 4294967296 = (L1 : Int) := by omega
    obtain ⟨L0, hL0⟩ : ∃ L0, L0 = L % 4294967296 := ⟨_, rfl⟩
    have eL0 : bits .and .u64 (L : Int) 4294967295 = (L0 : Int) := by rw [mask32 hLW, hL0]
    rw [← hU, ← hL] at hsc
    rw [← hY] at hYW hYL
    have hUY : U < Y := by
      have h1 : (hi * WB + lo) * 2 ^ s < (y * WB) * 2 ^ s := Nat.mul_lt_mul_of_pos_right (two_lt hh hl) (Nat.two_pow_pos s)
      rw [← hsc, Nat.mul_right_comm, ← hY] at h1
      exact Nat.lt_of_mul_lt_mul_right (Nat.lt_of_le_of_lt (Nat.le_add_right _ _) h1)
    have hY1b : 2147483648 ≤ Y1 := by omega
    have hY1c : Y1 < 4294967296 := by unfold WB at hYW; omega
    have hY0c : Y0 < 4294967296 := by omega
    have hYe : Y1 * 4294967296 + Y0 = Y := by omega
    have hL1c : L1 < 4294967296 := by unfold WB at hLW; omega
    have hL0c : L0 < 4294967296 := by omega
    have hLe : L1 * 4294967296 + L0 = L := by rw [hL1, hL0]; exact Nat.div_add_mod' L 4294967296
    have hUb : U < 18446744073709551616 := by unfold WB at hYW; omega
    clear hs hY1 hY0 hU hL hL1 hL0 b2 b3 b4 hdl hhs
    have HY := Lib.hid hY; clear hY
    have HYe := Lib.hid hYe; clear hYe
    have HLe := Lib.hid hLe; clear hLe
    have Hsc := Lib.hid hsc; clear hsc
    obtain ⟨g0, r0⟩ := guess_start (U := U) (n := L1) hY1b hY1c hY0c (by rw [HYe.out]; exact hUY) hL1c
    have HQ := Lib.hid (Nat.div_add_mod' U Y1)
    obtain ⟨Q, hQ⟩ : ∃ Q, Q = U / Y1 := ⟨_, rfl⟩
    obtain ⟨R, hR⟩ : ∃ R, R = U % Y1 := ⟨_, rfl⟩
    rw [← hQ, ← hR] at HQ g0
    rw [← hR] at r0
    have hQle := g0.le
    have eQ : IntKind.u64.wrap ((U : Int) / (Y1 : Int)) = (Q : Int) := by rw [← Int.natCast_ediv, ← hQ, wrap_cast, Nat.mod_eq_of_lt (by unfold WB; omega)]
    have eQY : IntKind.u64.wrap ((Q : Int) * (Y1 : Int)) = ((U - R : Nat) : Int) := by
      have := HQ.out
      rw [← Int.natCast_mul, wrap_cast, show Q * Y1 = U - R by omega, Nat.mod_eq_of_lt (by unfold WB; omega)]
    have eR : IntKind.u64.wrap ((U : Int) - ((U - R : Nat) : Int)) = (R : Int) := by
      have := HQ.out
      rw [show (U : Int) - ((U - R : Nat) : Int) = (R : Int) by omega, wrap_cast, Nat.mod_eq_of_lt (by unfold WB; omega)]
    have HG := Lib.hid g0
    clear g0 hQ hR
    have HB := Lib.hid hUb; clear hUb
    have HYW := Lib.hid hYW; clear hYW hYL
    have hyI : (y : Int) ≤ 18446744073709551615 := by unfold WB at hy; omega
    have hlI : (lo : Int) ≤ 18446744073709551615 := by unfold WB at hl; omega
    have iB : 2147483648 ≤ Y1 ∧ Y1 < 4294967296 ∧ Y0 < 4294967296 ∧ L1 < 4294967296 ∧ L0 < 4294967296 ∧ R < 4294967296 ∧ Q ≤ 4294967297 := ⟨hY1b, hY1c, hY0c, hL1c, hL0c, r0, hQle⟩
    have IB := Lib.hid iB
    have iY1 : 1 ≤ (Y1 : Int) := by omega
    clear iB hY1b hY1c hY0c hL1c hL0c r0 hQle hy hl
    have HyI := Lib.hid hyI; clear hyI
    have HlI := Lib.hid hlI; clear hlI
    go_enter Tryz.func305, Tryz.ntmps305
    go_wp2_with fail
    refine (Tryz.bits_LeadingZeros64 _ _ (by omega) HyI.out).mono ?_
    rintro e w' ⟨rfl, hw⟩
    rw [hw]
    clear hw w'
    go_upto_block 0 with fail
    go_cut [15, 16] (fun q _ wx => q = .int .u64 ((U * 4294967296 + L1) / (Y1 * 4294967296 + Y0) : Nat) ∧ wx = w)
    case first =>
      go_wp2_with fail
      go_loopw [15, 16] (fun q r wx => ∃ q' r' : Nat, q = .int .u64 q' ∧ r = .int .u64 r' ∧ Hid (Guess Y1 Y0 U L1 q' r') ∧ Hid (q' ≤ 4294967297 ∧ r' < 4294967296) ∧ wx = w) (fun q _ _ => (intOf q).toNat)
      case atStart => exact ⟨Q, R, rfl, rfl, HG, Lib.hid ⟨IB.out.2.2.2.2.2.2, IB.out.2.2.2.2.2.1⟩, rfl⟩
      case round =>
        obtain ⟨q, r, rfl, rfl, hg, hqr, hwr⟩ := hrel
        subst hwr
        obtain ⟨P, eP, T, eT, q', eq', r', er', hway⟩ := guess_round hg.out hqr.out IB.out.1 IB.out.2.1 IB.out.2.2.1 IB.out.2.2.2.1 (by rw [HYe.out]; exact hUY)
        rcases hway with ⟨hc1, hw⟩ | ⟨hc1, hc2, hw⟩ | ⟨hc1, hc2, hb⟩
        · rcases hw with ⟨hc3, hb⟩ | ⟨hc3, hlt, hon, hbd⟩
          · have Hb := Lib.hid hb; clear hb
            go_wp2_with fail
            go_meet
            exact ⟨by rw [Hb.out], rfl⟩
          · have Hon := Lib.hid hon; have Hbd := Lib.hid hbd; have Hlt := Lib.hid hlt; clear hon hbd hlt
            go_wp2_with fail
            go_roundw
            case rel => exact ⟨q', r', rfl, rfl, Hon, Hbd, trivial⟩
            case measure => have := Hlt.out; simp [intOf]; omega
        · rcases hw with ⟨hc3, hb⟩ | ⟨hc3, hlt, hon, hbd⟩
          · have Hb := Lib.hid hb; clear hb
            go_wp2_with fail
            go_meet
            exact ⟨by rw [Hb.out], rfl⟩
          · have Hon := Lib.hid hon; have Hbd := Lib.hid hbd; have Hlt := Lib.hid hlt; clear hon hbd hlt
            go_wp2_with fail
            go_roundw
            case rel => exact ⟨q', r', rfl, rfl, Hon, Hbd, trivial⟩
            case measure => have := Hlt.out; simp [intOf]; omega
        · have Hb := Lib.hid hb; clear hb
          go_wp2_with fail
          go_meet
          exact ⟨by rw [Hb.out], rfl⟩
    case rest =>
      obtain ⟨hq1, hw1⟩ := hcut
      subst hw1
      rw [HYe.out] at hq1
      have hpos : 0 < Y := by have := IB.out.1; have := HYe.out; omega
      have d1 := Nat.div_add_mod' (U * 4294967296 + L1) Y
      have hR1 := Nat.mod_lt (U * 4294967296 + L1) hpos
      obtain ⟨Q1, hQ1⟩ : ∃ Q1, Q1 = (U * 4294967296 + L1) / Y := ⟨_, rfl⟩
      obtain ⟨R1, hR1e⟩ : ∃ R1, R1 = (U * 4294967296 + L1) % Y := ⟨_, rfl⟩
      rw [← hQ1, ← hR1e] at d1
      rw [← hR1e] at hR1
      rw [← hQ1] at hq1
      subst hq1
      have e21 := step_rem d1 (Nat.lt_trans hR1 HYW.out)
      have D1 := Lib.hid d1
      have HQ1 := Lib.hid hQ1
      clear d1 hQ1 hR1e
      obtain ⟨Qb, QYb, Rb, eQb, eQYb, eRb, gb, qb, rb⟩ := guess_enter (n := L0) IB.out.1 IB.out.2.1 IB.out.2.2.1 (by rw [HYe.out]; exact hR1) (by rw [HYe.out]; exact HYW.out) IB.out.2.2.2.2.1
      have GB := Lib.hid gb; have BB := Lib.hid (And.intro qb rb)
      clear gb qb rb eQ eQY eR
      have HR1 := Lib.hid hR1
      clear hR1 hUY
      go_upto_block 2 with fail
      go_cut [18, 16] (fun q _ wx => q = .int .u64 ((R1 * 4294967296 + L0) / (Y1 * 4294967296 + Y0) : Nat) ∧ wx = wc)
      case first =>
        go_wp2_with fail
        go_loopw [18, 16] (fun q r wx => ∃ q' r' : Nat, q = .int .u64 q' ∧ r = .int .u64 r' ∧ Hid (Guess Y1 Y0 R1 L0 q' r') ∧ Hid (q' ≤ 4294967297 ∧ r' < 4294967296) ∧ wx = wc) (fun q _ _ => (intOf q).toNat)
        case atStart => exact ⟨Qb, Rb, rfl, rfl, GB, BB, rfl⟩
        case round =>
          obtain ⟨q, r, rfl, rfl, hg, hqr, hwr⟩ := hrel
          subst hwr
          obtain ⟨P, eP, T, eT, q', eq', r', er', hway⟩ := guess_round hg.out hqr.out IB.out.1 IB.out.2.1 IB.out.2.2.1 IB.out.2.2.2.2.1 (by rw [HYe.out]; exact HR1.out)
          rcases hway with ⟨hc1, hw⟩ | ⟨hc1, hc2, hw⟩ | ⟨hc1, hc2, hb⟩
          · rcases hw with ⟨hc3, hb⟩ | ⟨hc3, hlt, hon, hbd⟩
            · have Hb := Lib.hid hb; clear hb
              go_wp2_with fail
              go_meet
              exact ⟨by rw [Hb.out], rfl⟩
            · have Hon := Lib.hid hon; have Hbd := Lib.hid hbd; have Hlt := Lib.hid hlt; clear hon hbd hlt
              go_wp2_with fail
              go_roundw
              case rel => exact ⟨q', r', rfl, rfl, Hon, Hbd, trivial⟩
              case measure => have := Hlt.out; simp [intOf]; omega
          · rcases hw with ⟨hc3, hb⟩ | ⟨hc3, hlt, hon, hbd⟩
            · have Hb := Lib.hid hb; clear hb
              go_wp2_with fail
              go_meet
              exact ⟨by rw [Hb.out], rfl⟩
            · have Hon := Lib.hid hon; have Hbd := Lib.hid hbd; have Hlt := Lib.hid hlt; clear hon hbd hlt
              go_wp2_with fail
              go_roundw
              case rel => exact ⟨q', r', rfl, rfl, Hon, Hbd, trivial⟩
              case measure => have := Hlt.out; simp [intOf]; omega
          · have Hb := Lib.hid hb; clear hb
            go_wp2_with fail
            go_meet
            exact ⟨by rw [Hb.out], rfl⟩

      case rest =>
        obtain ⟨hq0, hw0⟩ := hcut
        subst hw0
        rw [HYe.out] at hq0
        have d2 := Nat.div_add_mod' (R1 * 4294967296 + L0) Y
        have hR0 := Nat.mod_lt (R1 * 4294967296 + L0) hpos
        obtain ⟨Q0, hQ0⟩ : ∃ Q0, Q0 = (R1 * 4294967296 + L0) / Y := ⟨_, rfl⟩
        obtain ⟨R0, hR0e⟩ : ∃ R0, R0 = (R1 * 4294967296 + L0) % Y := ⟨_, rfl⟩
        rw [← hQ0, ← hR0e] at d2
        rw [← hR0e] at hR0
        rw [← hQ0] at hq0
        subst hq0
        have e22 := step_rem d2 (Nat.lt_trans hR0 HYW.out)
        obtain ⟨f1, f2⟩ := final_div Hsc.out HY.out HLe.out (by omega) D1.out d2 hR0
        have eF : IntKind.u64.wrap (IntKind.u64.wrap ((Q1 : Int) * 4294967296) + (Q0 : Int)) = (((hi * WB + lo) / y : Nat) : Int) := by
          rw [← f1]
          have hlt : Q1 * 4294967296 + Q0 < WB := by rw [f1]; exact div_lt_WB hh HlI.out
          rw [show (Q1 : Int) * 4294967296 = ((Q1 * 4294967296 : Nat) : Int) by omega, wrap_cast, Nat.mod_eq_of_lt (Nat.lt_of_le_of_lt (Nat.le_add_right _ _) hlt), show ((Q1 * 4294967296 : Nat) : Int) + (Q0 : Int) = ((Q1 * 4294967296 + Q0 : Nat) : Int) by omega, wrap_cast, Nat.mod_eq_of_lt hlt]
        have D2 := Lib.hid d2; have F1 := Lib.hid f1; have F2 := Lib.hid f2; have HR0 := Lib.hid hR0
        clear d2 f1 f2 hQ0 hR0e hR0
        go_wp2_with fail
        go_ret2
        refine ⟨0, ?_, rfl⟩
        rw [← F2.out, ← cast_div_pow]
        rfl
theorem bitsDiv (hi lo y : Nat) (w : World) (hy : y < WB) (hh : hi < y) (hl : lo < WB) :
    Calls Tryz.prog 276 #[.int .u64 hi, .int .u64 lo, .int .u64 y] w fun e w' =>
      ∃ m : Nat, e = .returned (.tuple #[.int .u64 ((hi * WB + lo) / y : Nat), .int .u64 ((hi * WB + lo) % y : Nat)]) ∧ w' = w.drewN m := by
  go_enter Tryz.func276, Tryz.ntmps276
  go_wp2_with fail
  refine (bitsDiv64 hi lo y w hy hh hl).mono ?_
  rintro e w' ⟨m, rfl, rfl⟩
  go_wp2_with fail
  go_ret2
  exact ⟨m, rfl, rfl⟩
/-- The first guess by the reciprocal (Möller and Granlund). -/
theorem recip_guess {W d f v e t lo X1 X0 : Nat} (h1 : v * d + e + 1 = W * W) (h2 : W * t + lo = v * X1 + X0) (hW : W = d + f) (he : e < d) (hlo : lo < W) (hX1 : X1 < d) (hX0 : X0 < W) :
    t * d ≤ X1 * W + X0 ∧ X1 * W + X0 < t * d + W + d := by
  have key : W * (X1 * W + X0) = W * (t * d) + lo * d + (1 + e) * X1 + f * X0 := by
    have a1 : (v * d + e + 1) * X1 = W * W * X1 := by rw [h1]
    have a2 : (W * t + lo) * d = (v * X1 + X0) * d := by rw [h2]
    have a3 : W * X0 = (d + f) * X0 := by rw [hW]
    grind
  have hpos : 0 < W := by omega
  constructor
  · refine Nat.le_of_mul_le_mul_left ?_ hpos
    omega
  · refine Nat.lt_of_mul_lt_mul_left (a := W) ?_
    rw [key]
    have b1 : lo * d + d ≤ W * d := by
      have := Nat.mul_le_mul_right d (show lo + 1 ≤ W from hlo)
      rw [Nat.add_mul] at this; omega
    have b2 : (1 + e) * X1 ≤ d * X1 := Nat.mul_le_mul_right _ (by omega)
    have b3 : d * X1 + d ≤ d * d := by
      have := Nat.mul_le_mul_left d (show X1 + 1 ≤ d from hX1)
      rw [Nat.mul_add] at this; omega
    have b4 : f * X0 ≤ f * W := Nat.mul_le_mul_left _ (by omega)
    have b5 : d * d ≤ W * d := Nat.mul_le_mul_right _ (by omega)
    have b6 : W * W = W * d + f * W := by rw [hW]; grind
    rw [Nat.mul_add, Nat.mul_add, b6]
    omega
def recip (y : Nat) : Nat := (WB * WB - 1) / (y * 2 ^ (64 - Lib.bitLen y)) - WB
theorem norm_bounds {y : Nat} (h0 : 0 < y) (hy : y < WB) : y * 2 ^ (64 - Lib.bitLen y) < WB ∧ WB ≤ 2 * (y * 2 ^ (64 - Lib.bitLen y)) := by
  obtain ⟨b1, b2, b3, b4⟩ := bitLen_spec (y := y) (by omega) hy
  generalize hs : 64 - Lib.bitLen y = s
  constructor
  · have : y * 2 ^ s < 2 ^ Lib.bitLen y * 2 ^ s := Nat.mul_lt_mul_of_pos_right b4 (Nat.two_pow_pos s)
    rwa [← Nat.pow_add, show Lib.bitLen y + s = 64 by omega, ← WB_eq] at this
  · have : 2 ^ (Lib.bitLen y - 1) * 2 ^ s ≤ y * 2 ^ s := Nat.mul_le_mul_right _ b3
    rw [← Nat.pow_add, show Lib.bitLen y - 1 + s = 63 by omega] at this
    rw [WB_eq]; omega
theorem recip_spec {d : Nat} (hd : d < WB) (hd2 : WB ≤ 2 * d) : ∃ m e, (WB * WB - 1) / d - WB = m ∧ m < WB ∧ (m + WB) * d + e + 1 = WB * WB ∧ e < d := by
  have hp : 0 < d := by unfold WB at hd2; omega
  have h1 := Nat.div_add_mod' (WB * WB - 1) d
  have h2 := Nat.mod_lt (WB * WB - 1) hp
  have h3 : WB ≤ (WB * WB - 1) / d := by
    rw [Nat.le_div_iff_mul_le hp]
    have : WB * d + WB ≤ WB * WB := by
      have := Nat.mul_le_mul_left WB (show d + 1 ≤ WB from hd)
      rw [Nat.mul_add] at this; omega
    have := WB_pos
    omega
  have h4 : (WB * WB - 1) / d < WB + WB := by
    rw [Nat.div_lt_iff_lt_mul hp]
    have : WB * WB ≤ WB * (2 * d) := Nat.mul_le_mul_left _ hd2
    have h5 : (WB + WB) * d = WB * (2 * d) := by rw [Nat.add_mul, Nat.two_mul, Nat.mul_add]
    have : 0 < WB * WB := Nat.mul_pos WB_pos WB_pos
    omega
  refine ⟨_, (WB * WB - 1) % d, rfl, by omega, ?_, h2⟩
  rw [Nat.sub_add_cancel h3]
  have : 0 < WB * WB := Nat.mul_pos WB_pos WB_pos
  omega
/-- The numbers and ways of divWW, its divisor scaled. -/
theorem divWW_core {d m X1 X0 : Nat} (hd : d < WB) (hd2 : WB ≤ 2 * d) (hm : (WB * WB - 1) / d - WB = m) (hX1 : X1 < d) (hX0 : X0 < WB) :
    m < WB ∧ ∃ c t b r0 r1 : Nat, addHi (mulLo m X1) X0 0 = c ∧ c ≤ 1 ∧ addLo (mulHi m X1) X1 c = t ∧ t < WB ∧ subHi X0 (mulLo d t) 0 = b ∧ b ≤ 1 ∧ subLo X0 (mulLo d t) 0 = r0 ∧ subLo X1 (mulHi d t) b = r1 ∧
      ∃ t1 r t2 r2 : Nat, IntKind.u64.wrap ((t : Int) + 1) = (t1 : Int) ∧ IntKind.u64.wrap ((r0 : Int) - (d : Int)) = (r : Int) ∧ IntKind.u64.wrap ((t1 : Int) + 1) = (t2 : Int) ∧ IntKind.u64.wrap ((r : Int) - (d : Int)) = (r2 : Int) ∧
      ((((r1 : Int) == 0) = true ∧ decide (d ≤ r0) = false ∧ t = (X1 * WB + X0) / d ∧ r0 = (X1 * WB + X0) % d) ∨
       (((r1 : Int) == 0) = true ∧ decide (d ≤ r0) = true ∧ t1 = (X1 * WB + X0) / d ∧ r = (X1 * WB + X0) % d) ∨
       (((r1 : Int) == 0) = false ∧ decide (d ≤ r) = false ∧ t1 = (X1 * WB + X0) / d ∧ r = (X1 * WB + X0) % d) ∨
       (((r1 : Int) == 0) = false ∧ decide (d ≤ r) = true ∧ t2 = (X1 * WB + X0) / d ∧ r2 = (X1 * WB + X0) % d)) := by
  have hp : 0 < d := by unfold WB at hd2; omega
  obtain ⟨m', e, hm', hmW, hme, he⟩ := recip_spec hd hd2
  obtain rfl : m' = m := hm'.symm.trans hm
  refine ⟨hmW, addHi (mulLo m' X1) X0 0, addLo (mulHi m' X1) X1 (addHi (mulLo m' X1) X0 0), _, _, _, rfl, addHi_le (mulLo_lt _ _) hX0 (by omega), rfl, addLo_lt _ _ _, rfl, subHi_le _ _ _, rfl, rfl, ?_⟩
  have a1 := mul_eq m' X1
  have a2 := add_eq (mulLo m' X1) X0 0
  have a2l := addLo_lt (mulLo m' X1) X0 0
  generalize addHi (mulLo m' X1) X0 0 = c at *
  generalize addLo (mulLo m' X1) X0 0 = lo at *
  -- the guess before it wraps
  obtain ⟨g1, g2⟩ := recip_guess (W := WB) (d := d) (f := WB - d) (v := m' + WB) (e := e) (t := mulHi m' X1 + X1 + c) (lo := lo) (X1 := X1) (X0 := X0) hme
    (by rw [Nat.mul_add, Nat.mul_add, Nat.add_mul]; omega) (by omega) he a2l hX1 hX0
  have hXd : X1 * WB + X0 < d * WB := two_lt hX1 hX0
  have htW : mulHi m' X1 + X1 + c < WB := by
    refine Nat.lt_of_mul_lt_mul_right (a := d) (Nat.lt_of_le_of_lt g1 ?_)
    rw [Nat.mul_comm WB d]; exact hXd
  have ht : addLo (mulHi m' X1) X1 c = mulHi m' X1 + X1 + c := Nat.mod_eq_of_lt htW
  rw [ht]
  generalize mulHi m' X1 + X1 + c = t at *
  have b1 := mul_eq d t
  have b2 := sub_eq (x := X0) (y := mulLo d t) (c := 0) hX0 (mulLo_lt _ _) (by omega)
  have hb1 := subHi_le X0 (mulLo d t) 0
  have b3 := sub_eq (x := X1) (y := mulHi d t) (c := subHi X0 (mulLo d t) 0) (by omega) (by have := mulHi_lt hd htW; omega) hb1
  have l0 := subLo_lt X0 (mulLo d t) 0
  have l1 := subLo_lt X1 (mulHi d t) (subHi X0 (mulLo d t) 0)
  have hb2 := subHi_le X1 (mulHi d t) (subHi X0 (mulLo d t) 0)
  generalize subHi X1 (mulHi d t) (subHi X0 (mulLo d t) 0) = b' at *
  generalize subLo X1 (mulHi d t) (subHi X0 (mulLo d t) 0) = r1 at *
  generalize subHi X0 (mulLo d t) 0 = b at *
  generalize subLo X0 (mulLo d t) 0 = r0 at *
  have hr : r1 * WB + r0 + t * d = X1 * WB + X0 + WB * (WB * b') := by
    have h1 : (r1 + mulHi d t + b) * WB = (X1 + WB * b') * WB := by rw [b3]
    rw [Nat.add_mul, Nat.add_mul, Nat.add_mul] at h1
    have h2 : WB * b' * WB = WB * (WB * b') := Nat.mul_comm _ _
    have h3 : mulHi d t * WB = WB * mulHi d t := Nat.mul_comm _ _
    have h4 : b * WB = WB * b := Nat.mul_comm _ _
    have h5 : d * t = t * d := Nat.mul_comm _ _
    omega
  have hb0 : b' = 0 := by
    rcases Nat.lt_or_ge b' 1 with h | h
    · omega
    · have h1 : r1 * WB + WB ≤ WB * WB := by have := Nat.mul_le_mul_right WB (show r1 + 1 ≤ WB from l1); rw [Nat.add_mul] at this; omega
      have h2 : WB * (WB * 1) ≤ WB * (WB * b') := Nat.mul_le_mul_left _ (Nat.mul_le_mul_left _ h)
      rw [Nat.mul_one] at h2
      omega
  rw [hb0, Nat.mul_zero, Nat.mul_zero, Nat.add_zero] at hr
  have hfin : ∀ q r : Nat, q * d + r = X1 * WB + X0 → r < d → q = (X1 * WB + X0) / d ∧ r = (X1 * WB + X0) % d := by
    intro q r h hr
    rw [← h]
    exact ⟨by rw [Nat.mul_comm q d, Nat.mul_add_div hp, Nat.div_eq_of_lt hr, Nat.add_zero], by rw [Nat.mul_comm q d, Nat.mul_add_mod, Nat.mod_eq_of_lt hr]⟩
  refine ⟨(t + 1) % WB, (IntKind.u64.wrap ((r0 : Int) - (d : Int))).toNat, ((t + 1) % WB + 1) % WB, (IntKind.u64.wrap ((((IntKind.u64.wrap ((r0 : Int) - (d : Int))).toNat : Nat) : Int) - (d : Int))).toNat, by rw [← wrap_cast]; rfl, by rw [IntKind.wrap_u64]; omega, by rw [← wrap_cast]; rfl, by rw [IntKind.wrap_u64]; omega, ?_⟩
  have hsuc : (t + 1) * d = t * d + d := Nat.succ_mul _ _
  have hsuc2 : (t + 1 + 1) * d = t * d + d + d := by rw [Nat.succ_mul, Nat.succ_mul]
  have hlt : ∀ q : Nat, q * d ≤ X1 * WB + X0 → q < WB := by
    intro q h
    refine Nat.lt_of_mul_lt_mul_right (a := d) (Nat.lt_of_le_of_lt h ?_)
    rw [Nat.mul_comm WB]; exact hXd
  by_cases h1 : r1 = 0
  · subst h1
    rw [Nat.zero_mul, Nat.zero_add] at hr
    by_cases h2 : d ≤ r0
    · refine .inr (.inl ⟨rfl, decide_eq_true (by omega), ?_⟩)
      have ht1 : t + 1 < WB := hlt _ (by omega)
      rw [Nat.mod_eq_of_lt ht1, show (IntKind.u64.wrap ((r0 : Int) - (d : Int))).toNat = r0 - d by rw [IntKind.wrap_u64]; unfold WB at l0; omega]
      exact hfin _ _ (by omega) (by omega)
    · exact .inl ⟨rfl, decide_eq_false (by omega), hfin _ _ (by omega) (by omega)⟩
  · have hr1 : r1 = 1 := by
      rcases Nat.lt_or_ge r1 2 with h | h
      · omega
      · have : 2 * WB ≤ r1 * WB := Nat.mul_le_mul_right _ h
        omega
    subst hr1
    rw [Nat.one_mul] at hr
    have e1 : (IntKind.u64.wrap ((r0 : Int) - (d : Int))).toNat = WB + r0 - d := by rw [IntKind.wrap_u64]; unfold WB at *; omega
    have ht1 : t + 1 < WB := hlt _ (by omega)
    rw [Nat.mod_eq_of_lt ht1, e1]
    by_cases h2 : d ≤ WB + r0 - d
    · refine .inr (.inr (.inr ⟨rfl, decide_eq_true (by omega), ?_⟩))
      have ht2 : t + 1 + 1 < WB := hlt _ (by omega)
      rw [Nat.mod_eq_of_lt ht2, show (IntKind.u64.wrap (((WB + r0 - d : Nat) : Int) - (d : Int))).toNat = WB + r0 - d - d by rw [IntKind.wrap_u64]; unfold WB at *; omega]
      exact hfin _ _ (by omega) (by omega)
    · exact .inr (.inr (.inl ⟨rfl, decide_eq_false (by omega), hfin _ _ (by omega) (by omega)⟩))
theorem div_scaled {hi lo y s U L q r : Nat} (hsc : U * WB + L = (hi * WB + lo) * 2 ^ s) (hy : 0 < y) (hq : q = (U * WB + L) / (y * 2 ^ s)) (hr : r = (U * WB + L) % (y * 2 ^ s)) : q = (hi * WB + lo) / y ∧ r / 2 ^ s = (hi * WB + lo) % y := by
  have hp := Nat.two_pow_pos s
  rw [hq, hr, hsc, Nat.mul_div_mul_right _ _ hp, Nat.mul_mod_mul_right, Nat.mul_div_cancel _ hp]
  exact ⟨rfl, rfl⟩
set_option maxRecDepth 100000 in
set_option maxHeartbeats 1000000 in
theorem divWW (x1 x0 y m : Nat) (w : World) (hy : y < WB) (hx1 : x1 < y) (hx0 : x0 < WB) (hm : m = recip y) :
    Calls Tryz.prog 278 #[.int .u64 x1, .int .u64 x0, .int .u64 y, .int .u64 m] w fun e w' =>
      e = .returned (.tuple #[.int .u64 ((x1 * WB + x0) / y : Nat), .int .u64 ((x1 * WB + x0) % y : Nat)]) ∧ w' = w.drewN 0 := by
  have hn := norm_bounds (y := y) (by omega) hy
  obtain ⟨b1, b2, b3, b4⟩ := bitLen_spec (y := y) (by omega) hy
  unfold recip at hm
  obtain ⟨s, hs⟩ : ∃ s, s = 64 - Lib.bitLen y := ⟨_, rfl⟩
  rw [← hs] at hn hm
  have hs64 : s < 64 := by omega
  have hsc := scaled (hi := x1) (lo := x0) (y := y) hs64
  have hXd : x1 * 2 ^ s + x0 / 2 ^ (64 - s) < y * 2 ^ s := by
    have h1 : (x1 * WB + x0) * 2 ^ s < (y * WB) * 2 ^ s := Nat.mul_lt_mul_of_pos_right (two_lt hx1 hx0) (Nat.two_pow_pos s)
    rw [← hsc, Nat.mul_right_comm] at h1
    exact Nat.lt_of_mul_lt_mul_right (Nat.lt_of_le_of_lt (Nat.le_add_right _ _) h1)
  have hL : x0 * 2 ^ s % WB < WB := Nat.mod_lt _ WB_pos
  have hhs : x1 * 2 ^ s < WB := Nat.lt_of_le_of_lt (Nat.mul_le_mul_right _ (by omega)) hn.1
  have hdl := div_shift_lt hx0 hs64
  have eX := or_shift0 hx0 hs64 hhs hdl
  obtain ⟨hmW, c, t, b, r0, r1, ec, hc, et, htW, eb, hb, er0, er1, t1, r, t2, r2, et1, er, et2, er2, hway⟩ := divWW_core hn.1 hn.2 hm.symm hXd hL
  have eY : IntKind.u64.wrap ((y : Int) * 2 ^ s) = ((y * 2 ^ s : Nat) : Int) := by rw [cast_mul_pow, wrap_cast, Nat.mod_eq_of_lt hn.1]
  have eL : IntKind.u64.wrap ((x0 : Int) * 2 ^ s) = ((x0 * 2 ^ s % WB : Nat) : Int) := by rw [cast_mul_pow, wrap_cast]
  have es : 64 - Lib.bitLen y = s := hs.symm
  have hz : s = 0 → x1 * 2 ^ s + x0 / 2 ^ (64 - s) = x1 ∧ x0 * 2 ^ s % WB = x0 ∧ y * 2 ^ s = y := by
    intro e
    rw [e, Nat.pow_zero, Nat.mul_one, Nat.mul_one, Nat.mul_one, Nat.mod_eq_of_lt hx0]
    refine ⟨?_, rfl, rfl⟩
    rw [Nat.div_eq_of_lt (by rw [← WB_eq]; exact hx0), Nat.add_zero]
  have hfin : ∀ q r : Nat, q = ((x1 * 2 ^ s + x0 / 2 ^ (64 - s)) * WB + x0 * 2 ^ s % WB) / (y * 2 ^ s) ∧ r = ((x1 * 2 ^ s + x0 / 2 ^ (64 - s)) * WB + x0 * 2 ^ s % WB) % (y * 2 ^ s) → q = (x1 * WB + x0) / y ∧ r / 2 ^ s = (x1 * WB + x0) % y :=
    fun q r h => div_scaled hsc (by omega) h.1 h.2
  obtain ⟨hd, hd2⟩ := hn
  have hX1W : x1 * 2 ^ s + x0 / 2 ^ (64 - s) < WB := Nat.lt_trans hXd hd
  obtain ⟨X1, hX1⟩ : ∃ X1, X1 = x1 * 2 ^ s + x0 / 2 ^ (64 - s) := ⟨_, rfl⟩
  obtain ⟨X0, hX0⟩ : ∃ X0, X0 = x0 * 2 ^ s % WB := ⟨_, rfl⟩
  obtain ⟨d, hdd⟩ : ∃ d, d = y * 2 ^ s := ⟨_, rfl⟩
  rw [← hX1, ← hX0, ← hdd] at hway hfin hz
  rw [← hdd] at hd hd2 eb er0 er1 er er2 eY
  rw [← hX1] at ec et er1 hX1W eX
  rw [← hX0] at ec eb er0 hL eL
  have Hfin := Lib.hid hfin; have Hway := Lib.hid hway; have Hz := Lib.hid hz
  have Hd := Lib.hid hd; have HL := Lib.hid hL; have HX1W := Lib.hid hX1W; have HmW := Lib.hid hmW; have HtW := Lib.hid htW; have Hy := Lib.hid hy
  clear hfin hway hz hd hd2 hL hX1W hmW htW hs hm hsc hXd hhs hdl hX1 hX0 hdd hx1 hx0 hy b1 b2 b3 b4
  have key : ∀ (q' r' : Nat), q' = (X1 * WB + X0) / d ∧ r' = (X1 * WB + X0) % d → Ending.returned (.tuple #[.int .u64 (q' : Nat), .int .u64 ((r' : Int) / 2 ^ s)]) = Ending.returned (.tuple #[.int .u64 ((x1 * WB + x0) / y : Nat), .int .u64 ((x1 * WB + x0) % y : Nat)]) := by
    intro q' r' h
    obtain ⟨k1, k2⟩ := Hfin.out _ _ h
    rw [← k1, ← k2, cast_div_pow]
  have Key := Lib.hid key; clear key
  go_enter Tryz.func278, Tryz.ntmps278
  go_wp2_with fail
  refine (nlz y Hy.out _).mono ?_
  rintro e w' ⟨rfl, rfl⟩
  go_upto_if 26 with fail
  go_cut [0, 1, 2] (fun a0 a1 a2 wx => a0 = .int .u64 X1 ∧ a1 = .int .u64 X0 ∧ a2 = .int .u64 d ∧ wx = w.drewN 0)
  case first =>
    by_cases hs0 : s = 0
    · obtain ⟨z1, z2, z3⟩ := Hz.out hs0
      have c1 : ((s : Int) == 0) = true := by simp; omega
      have c1' : ((s : Int) != 0) = false := by simp; omega
      have Z := Lib.hid (And.intro z1 (And.intro z2 z3))
      clear z1 z2 z3 hs0
      go_wp2_with fail
      go_meet
      exact ⟨by rw [Z.out.1], by rw [Z.out.2.1], by rw [Z.out.2.2], rfl⟩
    · have c1 : ((s : Int) == 0) = false := by simp; omega
      have c1' : ((s : Int) != 0) = true := by simp; omega
      clear hs0
      go_wp2_with fail
      go_meet
      exact ⟨rfl, rfl, rfl, rfl⟩
  case rest =>
    obtain ⟨rfl, rfl, rfl, rfl⟩ := hcut
    go_wp2_with fail
    refine (bits_Mul _ _ HmW.out HX1W.out _).mono ?_
    rintro e w' ⟨rfl, rfl⟩
    go_wp2_with fail
    refine (bits_Add _ _ 0 (mulLo_lt _ _) HL.out (by omega) _).mono ?_
    rintro e w' ⟨rfl, rfl⟩
    go_wp2_with fail
    refine (bits_Add _ _ _ (by have := mulHi_lt HmW.out HX1W.out; omega) HX1W.out hc _).mono ?_
    rintro e w' ⟨rfl, rfl⟩
    go_wp2_with fail
    refine (bits_Mul _ _ Hd.out HtW.out _).mono ?_
    rintro e w' ⟨rfl, rfl⟩
    go_wp2_with fail
    refine (bits_Sub _ _ 0 (by omega) _).mono ?_
    rintro e w' ⟨rfl, rfl⟩
    go_wp2_with fail
    refine (bits_Sub _ _ _ hb _).mono ?_
    rintro e w' ⟨rfl, rfl⟩
    rcases Hway.out with ⟨c1, c2, c3⟩ | ⟨c1, c2, c3⟩ | ⟨c1, c2, c3⟩ | ⟨c1, c2, c3⟩
    all_goals
      have C3 := Lib.hid c3
      clear c3
      have c1' := congrArg (!·) c1
      change (((r1 : Int) != 0) = _) at c1'
      simp only [Bool.not_true, Bool.not_false] at c1'
      go_wp2_with fail
      go_ret2
      exact ⟨Key.out _ _ C3.out, rfl⟩
theorem xor_max {u : Nat} (hu : u < WB) : bits BinOp.xor .u64 IntKind.u64.max (u : Int) = ((WB - 1 - u : Nat) : Int) := by
  have h1 : (BitVec.ofInt 64 (u : Int)).toNat = u := by
    rw [BitVec.ofInt_natCast, BitVec.toNat_ofNat]; exact Nat.mod_eq_of_lt hu
  have h2 : BitVec.ofInt 64 IntKind.u64.max = BitVec.allOnes 64 := by decide
  show IntKind.u64.wrap ((BitVec.ofInt 64 IntKind.u64.max ^^^ BitVec.ofInt 64 (u : Int)).toNat : Int) = _
  rw [h2, BitVec.allOnes_xor, BitVec.toNat_not, h1, IntKind.wrap_u64]
  unfold WB at *
  omega
set_option maxHeartbeats 1000000 in
theorem reciprocalWord (y : Nat) (w : World) (h0 : 0 < y) (hy : y < WB) :
    Calls Tryz.prog 277 #[.int .u64 y] w fun e w' => ∃ n, e = .returned (.int .u64 (recip y : Nat)) ∧ w' = w.drewN n := by
  have hn := norm_bounds h0 hy
  unfold recip
  obtain ⟨s, hs⟩ : ∃ s, s = 64 - Lib.bitLen y := ⟨_, rfl⟩
  rw [← hs] at hn ⊢
  obtain ⟨b1, b2, b3, b4⟩ := bitLen_spec (y := y) (by omega) hy
  have hs64 : s ≤ 64 := by omega
  obtain ⟨u, hu⟩ : ∃ u, u = y * 2 ^ s := ⟨_, rfl⟩
  rw [← hu] at hn ⊢
  have e1 : IntKind.u64.wrap ((y : Int) * 2 ^ s) = (u : Int) := by rw [cast_mul_pow, wrap_cast, ← hu, Nat.mod_eq_of_lt hn.1]
  have hq : ((WB - 1 - u) * WB + (WB - 1)) / u = (WB * WB - 1) / u - WB := by
    have hp : 0 < u := by have := hn.2; unfold WB at this; omega
    have : (WB - 1 - u) * WB + (WB - 1) = (WB * WB - 1) - WB * u := by
      have h1 : (WB - 1 - u + (1 + u)) * WB = WB * WB := by rw [show WB - 1 - u + (1 + u) = WB by have := hn.1; omega]
      rw [Nat.add_mul, Nat.add_mul, Nat.one_mul, Nat.mul_comm u] at h1
      have := WB_pos
      omega
    rw [this, Nat.mul_comm WB u, Nat.sub_mul_div_of_le]
    have : WB * u + WB ≤ WB * WB := by
      have := Nat.mul_le_mul_left WB (show u + 1 ≤ WB from hn.1)
      rw [Nat.mul_add] at this; omega
    have := WB_pos
    rw [Nat.mul_comm]; omega
  have e2 := xor_max hn.1
  have hlt : WB - 1 - u < u := by have := hn.2; omega
  have Hlt := Lib.hid hlt
  have Hn := Lib.hid hn
  have Hy := Lib.hid hy
  have Hq := Lib.hid hq
  have es : 64 - Lib.bitLen y = s := hs.symm
  clear hn hs b1 b2 b3 b4 hlt hq hu hy
  go_enter Tryz.func277, Tryz.ntmps277
  go_wp2_with fail
  refine (nlz y Hy.out _).mono ?_
  rintro e w' ⟨rfl, rfl⟩
  go_wp2_with fail
  refine (bitsDiv (WB - 1 - u) (WB - 1) u _ Hn.out.1 Hlt.out (by have := WB_pos; omega)).mono ?_
  rintro e w' ⟨n, rfl, rfl⟩
  go_wp2_with fail
  go_ret
  exact ⟨_, by rw [← Hq.out]; rfl, rfl⟩
theorem Val_low (w : World) (b o n : Nat) : Val w b o (n + 1) = wd w b o + WB * Val w b (o + 1) n := by
  unfold Val
  rw [V_low]
  rw [V_congr n (fun i _ => by show _ = wd w b (o + 1 + i); rw [Nat.add_assoc, Nat.add_comm 1 i])]
  rfl
theorem two_div_lt {x1 x0 y : Nat} (h : x1 < y) (hl : x0 < WB) : (x1 * WB + x0) / y < WB := by
  rw [Nat.div_lt_iff_lt_mul (by omega), Nat.mul_comm WB]
  exact two_lt h hl
def divQ (x1 x0 y : Nat) : Nat := (x1 * WB + x0) / y
def divR (x1 x0 y : Nat) : Nat := (x1 * WB + x0) % y
theorem div_eq (x1 x0 y : Nat) : divQ x1 x0 y * y + divR x1 x0 y = x1 * WB + x0 := Nat.div_add_mod' _ _
theorem divR_lt {x1 x0 y : Nat} (h : 0 < y) : divR x1 x0 y < y := Nat.mod_lt _ h
theorem divQ_lt {x1 x0 y : Nat} (h : x1 < y) (hl : x0 < WB) : divQ x1 x0 y < WB := two_div_lt h hl
theorem divWW' (x1 x0 y m : Nat) (w : World) (hy : y < WB) (hx1 : x1 < y) (hx0 : x0 < WB) (hm : m = recip y) :
    Calls Tryz.prog 278 #[.int .u64 x1, .int .u64 x0, .int .u64 y, .int .u64 m] w fun e w' =>
      e = .returned (.tuple #[.int .u64 (divQ x1 x0 y : Nat), .int .u64 (divR x1 x0 y : Nat)]) ∧ w' = w.drewN 0 := divWW x1 x0 y m w hy hx1 hx0 hm
theorem bitsDiv' (hi lo y : Nat) (w : World) (hy : y < WB) (hh : hi < y) (hl : lo < WB) :
    Calls Tryz.prog 276 #[.int .u64 hi, .int .u64 lo, .int .u64 y] w fun e w' =>
      ∃ m : Nat, e = .returned (.tuple #[.int .u64 (divQ hi lo y : Nat), .int .u64 (divR hi lo y : Nat)]) ∧ w' = w.drewN m := bitsDiv hi lo y w hy hh hl
theorem Val_one (w : World) (b o : Nat) : Val w b o 1 = wd w b o := by simp [Val, V]
theorem Val_congr {w w' : World} {b o n : Nat} (h : ∀ i, i < n → wd w' b (o + i) = wd w b (o + i)) : Val w' b o n = Val w b o n := V_congr n h
theorem alg_div {W P z r' r x y VZ VX xn : Nat} (h0 : VZ * y + r = VX + xn * P) (h1 : z * y + r' = r * W + x) : (z + W * VZ) * y + r' = x + W * VX + xn * (P * W) := by
  have : W * (VZ * y + r) = W * (VX + xn * P) := by rw [h0]
  grind
set_option maxHeartbeats 1000000 in
theorem divWVW (zb zo zc xb xo xc n xn y : Nat) (w : World) (hn : n < 4611686018427387904) (hn0 : 0 < n) (hy : y < WB) (hxn : xn < y)
    (hz : Wr w zb zo n) (hx : ∀ i, i < n → IsW w xb (xo + i)) (hxz : xb ≠ zb ∨ xo = zo ∨ xo + n ≤ zo ∨ zo + n ≤ xo) :
    Calls Tryz.prog 239 #[.slice (some ⟨zb, zo, none⟩) n zc, .int .u64 xn, .slice (some ⟨xb, xo, none⟩) n xc, .int .u64 y] w fun e w' =>
      ∃ r : Nat, e = .returned (.int .u64 r) ∧ r < y ∧ Val w' zb zo n * y + r = Val w xb xo n + xn * WB ^ n ∧ Chg (Rng zb zo n) w w' := by
  have Hy := Lib.hid hy
  clear hy
  by_cases h1 : n = 1
  · subst h1
    have c1 : ((1 : Nat) : Int) = 1 := rfl
    have hx0 := hx 0 (by omega)
    have hz0 := hz.isW 0 (by omega)
    have cx : w.cell? ⟨xb, xo, none⟩ = some (.int .u64 (wd w xb xo : Nat)) := hx0.cell
    have cz : w.cell? ⟨zb, zo, none⟩ = some (.int .u64 (wd w zb zo : Nat)) := hz0.cell
    have fz : w.frozen? ⟨zb, zo, none⟩ = false := hz.free 0 (by omega)
    go_enter Tryz.func239, Tryz.ntmps239
    go_wp2_with fail
    refine (bitsDiv' xn (wd w xb xo) y w Hy.out hxn hx0.lt).mono ?_
    rintro e w' ⟨m, rfl, rfl⟩
    go_wp2_with fail
    go_ret
    refine ⟨_, rfl, divR_lt (by omega), ?_, ?_⟩
    · rw [Val_one, Val_one, wd_setCell_same (w := w.drewN m) cz, Nat.pow_one, Nat.add_comm (wd w xb xo)]
      exact div_eq _ _ _
    · refine Chg.setW ((Chg.refl _ _).drewN m) hz0 (divQ_lt hxn hx0.lt) (fun _ => ⟨rfl, by omega, by omega⟩)
  · have c1 : ((n : Int) == 1) = false := by simp; omega
    have i0 : (0 : Int) < (n : Int) := by omega
    go_enter Tryz.func239, Tryz.ntmps239
    go_wp2_with fail
    refine (reciprocalWord y _ (by omega) Hy.out).mono ?_
    rintro e w' ⟨m, rfl, rfl⟩
    go_wp2_with fail
    go_loopw [8, 12] (fun r i wr => ∃ k rr : Nat, k ≤ n ∧ rr < y ∧ r = .int .u64 rr ∧ i = .int .i64 ((k : Int) - 1) ∧ Hid (Val wr zb (zo + k) (n - k) * y + rr = Val w xb (xo + k) (n - k) + xn * WB ^ (n - k)) ∧ Chg (Rng zb (zo + k) (n - k)) w wr) (fun _ i _ => (intOf i + 1).toNat)
    case atStart => exact ⟨n, xn, by omega, hxn, rfl, rfl, Lib.hid (by simp [Val, V]), (Chg.refl _ _).drewN _⟩
    case round =>
      obtain ⟨k, rr, hk, hrr, rfl, rfl, hV, hC⟩ := hrel
      by_cases hk0 : 0 < k
      · obtain ⟨j, rfl⟩ : ∃ j, k = j + 1 := ⟨k - 1, by omega⟩
        have ek : ((j + 1 : Nat) : Int) - 1 = (j : Int) := by omega
        rw [ek]
        have hxj := hx j (by omega)
        have hzj := hC.isW _ _ (hz.isW j (by omega))
        have cx : wr.cell? ⟨xb, xo + j, none⟩ = some (.int .u64 (wd w xb (xo + j) : Nat)) := (hC.cell _ _ hxj.block (by unfold Rng; omega)).trans hxj.cell
        have cz := hzj.cell
        have fz : wr.frozen? ⟨zb, zo + j, none⟩ = false := (hC.frozen _ (hz.isW j (by omega)).block).trans (hz.free j (by omega))
        have i1 : (j : Int) < (n : Int) := by omega
        go_wp2_with fail
        refine (divWW' rr (wd w xb (xo + j)) y (recip y) _ Hy.out hrr hxj.lt rfl).mono ?_
        rintro e w' ⟨rfl, rfl⟩
        go_wp2_with fail
        go_roundw
        case rel =>
          have hq := divQ_lt hrr hxj.lt
          refine ⟨j, _, by omega, divR_lt (x1 := rr) (x0 := wd w xb (xo + j)) (by omega), rfl, by go_num, Lib.hid ?_, ?_⟩
          · have e1 : n - j = (n - (j + 1)) + 1 := by omega
            rw [e1, Val_low, Val_low w]
            have e2 := wd_setCell_same (w := wr.drewN 0) (n := divQ rr (wd w xb (xo + j)) y) (k := .u64) cz
            rw [e2, Nat.pow_succ]
            rw [show Val ((wr.drewN 0).setCell ⟨zb, zo + j, none⟩ (.int .u64 (divQ rr (wd w xb (xo + j)) y : Nat))) zb (zo + j + 1) (n - (j + 1)) = Val wr zb (zo + (j + 1)) (n - (j + 1)) from Val_congr (w := wr) (fun i _ => (wd_setCell_ne (w := wr.drewN 0) (.inr (by omega))))]
            exact alg_div hV.out (div_eq _ _ _)
          · refine Chg.setW ((hC.mono (fun b o _ h => ?_)).drewN 0) hzj hq (fun _ => ⟨rfl, by omega, by omega⟩)
            obtain ⟨h1, h2, h3⟩ := h
            exact ⟨h1, by omega⟩
        case measure => simp [intOf]
      · have hk1 : k = 0 := by omega
        subst hk1
        go_wp2_with fail
        go_ret
        exact ⟨rr, rfl, hrr, hV.out, hC⟩
def No : Nat → Nat → Prop := fun _ _ => False
/-- The cells of n words. -/
def wcells (w : World) (b o n : Nat) : List Value := (List.range n).map fun i => .int .u64 (wd w b (o + i) : Nat)
theorem length_wcells (w : World) (b o n : Nat) : (wcells w b o n).length = n := by simp [wcells]
theorem get_wcells {w : World} {b o n j : Nat} (h : j < n) : (wcells w b o n)[j]? = some (.int .u64 (wd w b (o + j) : Nat)) := by simp [wcells, h]
/-- Words laid into words. -/
theorem Chg.setWords {S : Nat → Nat → Prop} {b : Nat} : ∀ (vs : List Nat) (o : Nat) {a w : World}, Chg S a w → (∀ j, j < vs.length → IsW w b (o + j)) → (∀ v ∈ vs, v < WB) → (∀ j, j < vs.length → b < a.heap.size → S b (o + j)) →
    Chg S a (w.setCells b o (vs.map fun v : Nat => Value.int .u64 v)) ∧ (∀ j (hj : j < vs.length), wd (w.setCells b o (vs.map fun v : Nat => Value.int .u64 v)) b (o + j) = vs[j])
  | [], _, _, _, h, _, _, _ => ⟨h, fun j hj => absurd hj (by simp)⟩
  | v :: r, o, a, w, h, hw, hv, hS => by
    have h0 : IsW w b o := hw 0 (by simp)
    have h1 := h.setW h0 (hv v (by simp)) (fun hb => hS 0 (by simp) hb)
    obtain ⟨k1, k2⟩ := Chg.setWords r (o + 1) h1 (fun j hj => by
      have := hw (j + 1) (by simp; omega)
      rw [show o + (j + 1) = o + 1 + j by omega] at this
      exact IsI.setW h0 (hv v (by simp)) _ _ this) (fun x hx => hv x (by simp [hx])) (fun j hj hb => by
      have := hS (j + 1) (by simp; omega) hb
      rwa [show o + (j + 1) = o + 1 + j by omega] at this)
    refine ⟨by simpa [World.setCells] using k1, fun j hj => ?_⟩
    cases j with
    | zero =>
      simp only [List.map_cons, World.setCells]
      rw [wd_congr (World.cell?_setCells_out b _ _ _ _ (fun _ _ => .inl (by simp)))]
      exact wd_setCell_same h0.cell
    | succ j =>
      have := k2 j (by simpa using hj)
      simp only [List.map_cons, World.setCells]
      rw [show o + (j + 1) = o + 1 + j by omega]
      simpa using this
theorem map_wd (w : World) (b o n : Nat) : wcells w b o n = ((List.range n).map fun i => wd w b (o + i)).map fun v : Nat => Value.int .u64 v := by simp [wcells]
theorem run_copyW {P : Program} (w : World) (dT sT ty elem : TypeId) (zb zo dLen dCap xb xo sLen sCap k : Nat) (hu : P.underlying dT = some (.slice elem)) (hs : (P.info? elem).map (·.size) = some 1) (hk : k = Nat.min sLen dLen)
    (hx : ∀ i, i < k → IsW w xb (xo + i)) (hz : Wr w zb zo k) :
    ∃ w', (Builtin.copy_ #[dT, sT] ty #[.slice (some ⟨zb, zo, none⟩) dLen dCap, .slice (some ⟨xb, xo, none⟩) sLen sCap]).run P w = .ok (goInt k) w' ∧ Chg (Rng zb zo k) w w' ∧ (∀ i, i < k → wd w' zb (zo + i) = wd w xb (xo + i)) := by
  have hr := run_copy_cells (P := P) w dT sT ty elem zb zo dLen dCap ⟨xb, xo, none⟩ sLen sCap (wcells w xb xo k) hu hs (by rw [length_wcells, hk])
    (fun j v hj => by
      have hjk : j < k := by
        rcases Nat.lt_or_ge j k with h | h
        · exact h
        · rw [List.getElem?_eq_none (by rw [length_wcells]; exact h)] at hj; simp at hj
      rw [get_wcells hjk] at hj
      have := (hx j hjk).cell
      simp only [Option.some.injEq] at hj
      subst hj
      have e : (⟨xb, xo, none⟩ : Addr).add j = ⟨xb, xo + j, none⟩ := by unfold Addr.add; split <;> simp_all
      rw [e]; exact this)
    (fun j hj => by rw [length_wcells] at hj; rw [(hz.isW j hj).cell]; rfl) (fun j hj => by rw [length_wcells] at hj; exact hz.free j hj) (fun v hv => by simp [wcells] at hv; obtain ⟨i, _, rfl⟩ := hv; rfl)
  rw [length_wcells, map_wd] at hr
  obtain ⟨k1, k2⟩ := Chg.setWords (S := Rng zb zo k) (b := zb) ((List.range k).map fun i => wd w xb (xo + i)) zo (Chg.refl _ w) (fun j hj => hz.isW j (by simpa using hj)) (fun v hv => by simp at hv; obtain ⟨i, hi, rfl⟩ := hv; exact (hx i hi).lt) (fun j hj _ => ⟨rfl, by omega, by simp at hj; omega⟩)
  refine ⟨_, hr, k1, fun i hi => ?_⟩
  have := k2 i (by simpa using hi)
  rw [this]; simp
/-- 'copy' of words into words of one's own. -/
theorem wpList_copyW {P : Program} {w : World} {ops : Array Oper} {rest : List Oper} {o : Oper} {a : Act} {Q : Exit → Act → World → Prop} (hgd : o.guard = none) (d s : Operand) (dT sT : TypeId)
    (ho : o.op = .call { callee := .builtin .copy, args := #[d, s], argTypes := #[dT, sT] }) (elem : TypeId) (hu : P.underlying dT = some (.slice elem)) (hsz : (P.info? elem).map (·.size) = some 1)
    (zb zo dLen dCap xb xo sLen sCap : Nat) (hd : a.eval d = .slice (some ⟨zb, zo, none⟩) dLen dCap) (hs : a.eval s = .slice (some ⟨xb, xo, none⟩) sLen sCap) (k : Nat) (hk : k = Nat.min sLen dLen)
    (hx : ∀ i, i < k → IsW w xb (xo + i)) (hz : Wr w zb zo k)
    (h : ∀ w', Chg (Rng zb zo k) w w' → Hid (∀ i, i < k → wd w' zb (zo + i) = wd w xb (xo + i)) → wpList P ops Q rest (a.put o.dst (goInt k)) w') : wpList P ops Q (o :: rest) a w := by
  refine wpList_plain hgd fun K hK => ?_
  obtain ⟨w', hrun, h1, h2⟩ := run_copyW (P := P) w dT sT o.type elem zb zo dLen dCap xb xo sLen sCap k hu hsz hk hx hz
  unfold Oper.wp
  simp [execOp, ho, resolve, invoke, builtin, hd, hs, hrun, Result.andThen]
  exact hK _ _ (h w' h1 h2)
/-- Nothing goes over. -/
theorem wpList_copy0 {P : Program} {w : World} {ops : Array Oper} {rest : List Oper} {o : Oper} {a : Act} {Q : Exit → Act → World → Prop} (hgd : o.guard = none) (d s : Operand) (dT sT : TypeId)
    (ho : o.op = .call { callee := .builtin .copy, args := #[d, s], argTypes := #[dT, sT] }) (elem : TypeId) (hu : P.underlying dT = some (.slice elem)) (hsz : (P.info? elem).map (·.size) = some 1)
    (dp sp : Option Addr) (dLen dCap sLen sCap : Nat) (hd : a.eval d = .slice dp dLen dCap) (hs : a.eval s = .slice sp sLen sCap) (hn : Nat.min sLen dLen = 0)
    (h : wpList P ops Q rest (a.put o.dst (goInt 0)) w) : wpList P ops Q (o :: rest) a w := by
  refine wpList_plain hgd fun K hK => ?_
  have hrun := run_copy_none (P := P) w dT sT o.type elem dp sp dLen dCap sLen sCap hu hsz hn
  unfold Oper.wp
  simp [execOp, ho, resolve, invoke, builtin, hd, hs, hrun, Result.andThen]
  exact hK _ _ h
/-- 'clear' of words. -/
theorem wpList_clearW {P : Program} {w : World} {ops : Array Oper} {rest : List Oper} {o : Oper} {a : Act} {Q : Exit → Act → World → Prop} (hgd : o.guard = none) (d : Operand) (dT : TypeId)
    (ho : o.op = .call { callee := .builtin .clear, args := #[d], argTypes := #[dT] }) (elem : TypeId) (i : TypeInfo) (hu : P.underlying dT = some (.slice elem)) (hi : P.info? elem = some i) (hz0 : i.zero = some (.int .u64 0))
    (zp : Option Addr) (n c : Nat) (hd : a.eval d = .slice zp n c) (hz : 0 < n → ∃ zb zo, zp = some ⟨zb, zo, none⟩ ∧ Wr w zb zo n)
    (h : ∀ w', (∀ zb zo, zp = some ⟨zb, zo, none⟩ → Chg (Rng zb zo n) w w') → (n = 0 → w' = w) → Hid (∀ zb zo, zp = some ⟨zb, zo, none⟩ → ∀ i, i < n → wd w' zb (zo + i) = 0) → wpList P ops Q rest (a.put o.dst (.tuple #[])) w') : wpList P ops Q (o :: rest) a w := by
  refine wpList_plain hgd fun K hK => ?_
  by_cases h0 : n = 0
  · subst h0
    have hrun : (Builtin.clear_ #[dT] o.type #[.slice zp 0 c]).run P w = .ok (.tuple #[]) w := by
      cases zp <;> simp [Builtin.clear_, run_underlying hu]
    unfold Oper.wp
    simp [execOp, ho, resolve, invoke, builtin, hd, hrun, Result.andThen]
    exact hK _ _ (h w (fun _ _ _ => Chg.refl _ _) (fun _ => rfl) (fun _ _ _ i hi => absurd hi (by omega)))
  · obtain ⟨zb, zo, rfl, hw⟩ := hz (by omega)
    have hst := run_storeCells_cells (P := P) zb zo ((List.replicate n 0).map fun v : Nat => Value.int .u64 v) 0 w (fun j hj => by simp at hj; simp only [Nat.add_zero]; rw [(hw.isW j hj).cell]; rfl) (fun j hj => by simp at hj; simpa using hw.free j hj) (fun v hv => by simp at hv; obtain ⟨_, rfl⟩ := hv; rfl)
    obtain ⟨k1, k2⟩ := Chg.setWords (S := Rng zb zo n) (b := zb) (List.replicate n 0) zo (Chg.refl _ w) (fun j hj => hw.isW j (by simpa using hj)) (fun v hv => by simp at hv; rw [hv.2]; exact WB_pos) (fun j hj _ => ⟨rfl, by omega, by simp at hj; omega⟩)
    have hzc : (Builtin.zeroCells #[Value.int .u64 0] n).toList = (List.replicate n 0).map fun v : Nat => Value.int .u64 v := by
      simp only [Builtin.zeroCells, List.map_replicate]
      apply List.ext_getElem
      · simp
      · intro j h1 h2
        simp [Nat.mod_one]
    obtain ⟨L, hL⟩ : ∃ L, L = (List.replicate n 0).map fun v : Nat => Value.int .u64 v := ⟨_, rfl⟩
    rw [← hL] at k1 k2 hst hzc
    clear hL
    have hrun : (Builtin.clear_ #[dT] o.type #[.slice (some ⟨zb, zo, none⟩) n c]).run P w = .ok (.tuple #[]) (w.setCells zb zo L) := by
      obtain ⟨m, rfl⟩ : ∃ m, n = m + 1 := ⟨n - 1, by omega⟩
      have hc : (zeroValue elem).run P w = .ok (.int .u64 0) w := by simp [zeroValue, typeInfo, hi, hz0]
      simp only [Nat.add_zero] at hst
      simp [Builtin.clear_, run_underlying hu, hc, Value.cells]
      rw [hzc, hst]
      rfl
    unfold Oper.wp
    simp [execOp, ho, resolve, invoke, builtin, hd, hrun, Result.andThen]
    refine hK _ _ (h _ (fun _ _ e => by cases e; exact k1) (fun e => absurd e h0) (fun _ _ e i hi => ?_))
    cases e
    have := k2 i (by simpa using hi)
    rw [this]; simp
/-- 'make' of words. -/
theorem wpList_makeW {P : Program} {w : World} {ops : Array Oper} {rest : List Oper} {o : Oper} {a : Act} {Q : Exit → Act → World → Prop} (hgd : o.guard = none) (l c : Operand) (t : TypeId) (hop : o.op = Op.makeSlice t l c)
    (e : TypeId) (i : TypeInfo) (h1 : P.underlying t = some (.slice e)) (h2 : P.info? e = some i) (h3 : i.zero = some (.int .u64 0)) (h4 : i.size = 1) (h5 : i.bytes = 8)
    (L C : Int) (n m : Nat) (hl : a.eval l = .int .i64 L) (hc : a.eval c = .int .i64 C) (hL : L = (n : Int)) (hC : C = (m : Int)) (hnm : n ≤ m) (hm : m < 35184372088832)
    (h : ∀ w', Chg No w w' → w'.heap.size = w.heap.size + 1 → Wr w' w.heap.size 0 m → Hid (∀ i, i < m → wd w' w.heap.size i = 0) → wpList P ops Q rest (a.put o.dst (.slice (some ⟨w.heap.size, 0, none⟩) n m)) w') : wpList P ops Q (o :: rest) a w := by
  refine wpList_plain hgd fun K hK => ?_
  subst hL; subst hC
  have hrun := run_make (P := P) w t e i (.int .u64 0) h1 h2 h3 .i64 .i64 n m (by omega) (by omega) (by rw [h5]; omega) (by omega)
  simp only [Int.toNat_natCast] at hrun
  rw [h4, Nat.mul_one] at hrun
  have hcell : ∀ i, i < m → (w.alloc (.cells (madeCells (Value.int .u64 0).cells m) e)).cell? ⟨w.heap.size, i, none⟩ = some (.int .u64 ((0 : Nat) : Int)) := by
    intro i hi
    rw [World.cell?_alloc_new]
    simp [madeCells, Value.cells, hi, Nat.mod_one]
  unfold Oper.wp
  simp [execOp, hop, hl, hc, hrun, Result.andThen]
  refine hK _ _ (h _ (Chg.refl _ _ |>.alloc _) (by simp) ⟨fun i hi => ?_, Plain.new _ _ _⟩ (fun i hi => wd_of (hcell i hi)))
  rw [Nat.zero_add]; exact ⟨0, WB_pos, hcell i hi⟩
theorem sameAddr_other {P : Program} {w : World} {a b : Addr} (hne : a ≠ b) (ha : Plain w a.block) (hb : Plain w b.block) : (sameAddr a b).run P w = .ok false w := by
  obtain ⟨c, t, h1⟩ := ha
  obtain ⟨c', t', h2⟩ := hb
  exact run_sameAddr_other w hne h1 h2
theorem ptr_under : Tryz.prog.underlying 261 = some (.pointer 149) := Tryz.underlying261
theorem info149 : (Tryz.prog.info? 149).map (fun i => (i.zero, i.size, i.bytes)) = some (some (.int .u64 0), 1, 8) := by kernel_rfl
theorem info_of {e : TypeId} {z : Value} {n m : Nat} (h : (Tryz.prog.info? e).map (fun i => (i.zero, i.size, i.bytes)) = some (some z, n, m)) : ∃ i, Tryz.prog.info? e = some i ∧ i.zero = some z ∧ i.size = n ∧ i.bytes = m := by
  cases hq : Tryz.prog.info? e with
  | none => simp [hq] at h
  | some i => simp [hq] at h; exact ⟨i, rfl, h.1, h.2.1, h.2.2⟩
theorem equalIn_ptr (d : Nat) (w : World) (a b : Addr) (r : Bool) (h : (sameAddr a b).run Tryz.prog w = .ok r w) : (Op.equalIn (d + 1) 261 (.pointer (some a)) (.pointer (some b))).run Tryz.prog w = .ok r w := by
  obtain ⟨i, h1, h2, h3, h4⟩ := info_of info149
  simp [Op.equalIn, run_underlying ptr_under, sizeOf, typeInfo, h1, h3, h]
theorem eql_same (a : Addr) (w : World) : (binOp .eql 261 (.pointer (some a)) (.pointer (some a))).run Tryz.prog w = .ok (.bool true) w := by
  have h := equalIn_ptr 9999 w a a true (run_sameAddr_same w a)
  simp only [binOp]
  simp [Op.equal, Op.maxDepth, h]
theorem eql_other {a b : Addr} {w : World} (hne : a ≠ b) (ha : Plain w a.block) (hb : Plain w b.block) : (binOp .eql 261 (.pointer (some a)) (.pointer (some b))).run Tryz.prog w = .ok (.bool false) w := by
  have h := equalIn_ptr 9999 w a b false (sameAddr_other hne ha hb)
  simp only [binOp]
  simp [Op.equal, Op.maxDepth, h]
theorem Val_split (w : World) (b o i m : Nat) : Val w b o (i + m) = Val w b o i + WB ^ i * Val w b (o + i) m := by
  unfold Val
  rw [V_split]
  congr 2
  exact V_congr m fun j _ => by rw [Nat.add_assoc]
theorem Val_congr2 {w w' : World} {b o b' o' n : Nat} (h : ∀ i, i < n → wd w' b' (o' + i) = wd w b (o + i)) : Val w' b' o' n = Val w b o n := V_congr n h
/-- A slice of words of one's own: n words, c places; no block of a package-level variable. -/
structure NW (w : World) (b o n c : Nat) : Prop where
  le : n ≤ c
  max : c ≤ maxLen
  isW : ∀ i, i < c → IsW w b (o + i)
  plain : Plain w b
  own : 17 ≤ b
theorem NW.wr {w : World} {b o n c : Nat} (h : NW w b o n c) (k m : Nat) (hk : k + m ≤ c) : Wr w b (o + k) m := ⟨fun i hi => by rw [Nat.add_assoc]; exact h.isW _ (by omega), h.plain⟩
theorem NW.chg {w w' : World} {b o n c : Nat} {S : Nat → Nat → Prop} (h : NW w b o n c) (hc : Chg S w w') : NW w' b o n c := ⟨h.le, h.max, fun i hi => hc.isW _ _ (h.isW i hi), hc.plain _ h.plain, h.own⟩
theorem NW.len {w : World} {b o n c m : Nat} (h : NW w b o n c) (hm : m ≤ c) : NW w b o m c := ⟨hm, h.max, h.isW, h.plain, h.own⟩
theorem NW.lt {w : World} {b o n c : Nat} (h : NW w b o n c) : b < w.heap.size := h.plain.lt
theorem NW.drewN {w : World} {b o n c : Nat} (h : NW w b o n c) (m : Nat) : NW (w.drewN m) b o n c := ⟨h.le, h.max, h.isW, h.plain, h.own⟩
/-- The places that a slice value has: all up to its capacity. -/
def Fp : Value → Nat → Nat → Prop
  | .slice (some a) _ c => Rng a.block a.off c
  | _ => No
/-- A slice of words, nil or of one's own. -/
def Ow (w : World) (v : Value) : Prop := v = .slice none 0 0 ∨ ∃ b o n c, v = .slice (some ⟨b, o, none⟩) n c ∧ NW w b o n c
/-- A natural number: its words, the last one not 0. -/
def Nt (w : World) (v : Value) (X : Nat) : Prop := (v = .slice none 0 0 ∧ X = 0) ∨ ∃ b o n c, v = .slice (some ⟨b, o, none⟩) n c ∧ NW w b o n c ∧ Val w b o n = X ∧ (n = 0 ∨ wd w b (o + (n - 1)) ≠ 0)
theorem Nt.ow {w : World} {v : Value} {X : Nat} (h : Nt w v X) : Ow w v := by
  rcases h with ⟨h, _⟩ | ⟨b, o, n, c, h, hn, _⟩
  · exact .inl h
  · exact .inr ⟨b, o, n, c, h, hn⟩
theorem Ow.chg {w w' : World} {v : Value} {S : Nat → Nat → Prop} (h : Ow w v) (hc : Chg S w w') : Ow w' v := by
  rcases h with h | ⟨b, o, n, c, h, hn⟩
  · exact .inl h
  · exact .inr ⟨b, o, n, c, h, hn.chg hc⟩
theorem Nt.chg {w w' : World} {v : Value} {X : Nat} {S : Nat → Nat → Prop} (h : Nt w v X) (hc : Chg S w w') (hd : ∀ b o, Fp v b o → ¬ S b o) : Nt w' v X := by
  rcases h with h | ⟨b, o, n, c, rfl, hn, hv, hz⟩
  · exact .inl h
  · have hw : ∀ i, i < n → wd w' b (o + i) = wd w b (o + i) := fun i hi => wd_congr (hc.cell _ _ hn.lt (hd _ _ (show Rng b o c b (o + i) from ⟨rfl, by omega, by have := hn.le; omega⟩)))
    refine .inr ⟨b, o, n, c, rfl, hn.chg hc, by rw [← hv]; exact Val_congr hw, ?_⟩
    rcases hz with hz | hz
    · exact .inl hz
    · rcases Nat.eq_zero_or_pos n with h0 | h0
      · exact .inl h0
      · exact .inr (by rw [hw _ (by omega)]; exact hz)
theorem Fp.lt {w : World} {v : Value} (h : Ow w v) {b o : Nat} (hf : Fp v b o) : b < w.heap.size := by
  rcases h with rfl | ⟨b', o', n, c, rfl, hn⟩
  · exact hf.elim
  · rw [hf.1]; exact hn.lt
theorem Fp.own {w : World} {v : Value} (h : Ow w v) {b o : Nat} (hf : Fp v b o) : 17 ≤ b := by
  rcases h with rfl | ⟨b', o', n, c, rfl, hn⟩
  · exact hf.elim
  · rw [hf.1]; exact hn.own
/-- The number of words with a last word that is not 0. -/
theorem Val_lt {w : World} {b o n : Nat} (h : ∀ i, i < n → IsW w b (o + i)) : Val w b o n < WB ^ n := V_lt n fun i hi => (h i hi).lt
theorem Val_ge {w : World} {b o n : Nat} (h0 : 0 < n) (hz : wd w b (o + (n - 1)) ≠ 0) : WB ^ (n - 1) ≤ Val w b o n := by
  obtain ⟨m, rfl⟩ : ∃ m, n = m + 1 := ⟨n - 1, by omega⟩
  rw [Val_succ, Nat.add_sub_cancel] at *
  have : 1 * WB ^ m ≤ wd w b (o + m) * WB ^ m := Nat.mul_le_mul_right _ (by omega)
  omega
theorem len_le {w : World} {b o n k : Nat} (hz : n = 0 ∨ wd w b (o + (n - 1)) ≠ 0) (h : Val w b o n < WB ^ k) : n ≤ k := by
  rcases hz with hz | hz
  · omega
  · rcases Nat.lt_or_ge k n with h' | h'
    · have h1 := Val_ge (by omega) hz
      have h2 : WB ^ k ≤ WB ^ (n - 1) := Nat.pow_le_pow_right WB_pos (by omega)
      omega
    · exact h'
/-- Where a new slice lies: where z lay, or in a new block. -/
def From (w w' : World) (z : Value) (b o c : Nat) : Prop := (w' = w ∧ ∃ m, z = .slice (some ⟨b, o, none⟩) m c) ∨ b = w.heap.size
set_option maxHeartbeats 400000 in
/-- nat.make of at least one word. -/
theorem nat_make (z : Value) (n : Nat) (w : World) (hz : Ow w z) (hn0 : 0 < n) (hn : n < 1048576) (hs : 17 ≤ w.heap.size) :
    Calls Tryz.prog 158 #[z, .int .i64 n] w fun e w' => ∃ b o c : Nat, e = .returned (.slice (some ⟨b, o, none⟩) n c) ∧ NW w' b o n c ∧ Chg No w w' ∧ From w w' z b o c := by
  obtain ⟨i, h1, h2, h3, h4⟩ := info_of info149
  have key : ∀ zc : Nat, zc ≤ maxLen → ¬ n ≤ zc → ∀ z : Value, (z = .slice none 0 zc ∨ ∃ b o m, z = .slice (some ⟨b, o, none⟩) m zc) →
      Calls Tryz.prog 158 #[z, .int .i64 n] w fun e w' => ∃ b o c : Nat, e = .returned (.slice (some ⟨b, o, none⟩) n c) ∧ NW w' b o n c ∧ Chg No w w' ∧ From w w' z b o c := by
    intro zc hmax hzc z hzz
    unfold maxLen at hmax
    have c1 : decide (n ≤ zc) = false := by simpa using hzc
    by_cases hn1 : n = 1
    · subst hn1
      have c2 : ¬ (1 : Int) ≤ zc := by omega
      rcases hzz with rfl | ⟨b, o, m, rfl⟩
      all_goals
        go_enter Tryz.func158, Tryz.ntmps158
        go_wp2_with (refine wpList_makeW rfl (.const (.int .i64 1)) (.const (.int .i64 1)) 85 rfl 149 i Tryz.underlying85 h1 h2 h3 h4 1 1 1 1 rfl rfl rfl rfl (by omega) (by omega) ?_; intro w' hc hsz hwr hv)
        go_ret
        exact ⟨w.heap.size, 0, 1, rfl, ⟨by omega, by unfold maxLen; omega, fun i hi => hwr.isW i hi, hwr.plain, hs⟩, hc, .inr rfl⟩
    · have c3 : ((n : Int) == 1) = false := by simp; omega
      have c2 : (zc : Int) < n := by omega
      rcases hzz with rfl | ⟨b, o, m, rfl⟩
      all_goals
        go_enter Tryz.func158, Tryz.ntmps158
        go_wp2_with (refine wpList_makeW rfl (.tmp 15) (.tmp 17) 85 rfl 149 i Tryz.underlying85 h1 h2 h3 h4 _ _ n (n + 4) rfl rfl rfl (by omega) (by omega) (by omega) ?_; intro w' hc hsz hwr hv)
        go_ret
        exact ⟨w.heap.size, 0, n + 4, rfl, ⟨by omega, by unfold maxLen; omega, fun i hi => hwr.isW i hi, hwr.plain, hs⟩, hc, .inr rfl⟩
  rcases hz with rfl | ⟨b, o, m, c, rfl, hN⟩
  · exact key 0 (by unfold maxLen; omega) (by omega) _ (.inl rfl)
  · by_cases hc : n ≤ c
    · have hmax := hN.max
      unfold maxLen at hmax
      have c1 : decide (n ≤ c) = true := by simpa using hc
      have c2 : (n : Int) ≤ c := by omega
      go_enter Tryz.func158, Tryz.ntmps158
      go_wp2_with fail
      go_ret
      exact ⟨b, o, c, rfl, hN.len hc, Chg.refl _ _, .inl ⟨rfl, m, rfl⟩⟩
    · exact key c hN.max hc _ (.inr ⟨b, o, m, rfl⟩)
theorem Val_zeros (w : World) (b o k : Nat) : ∀ m, (∀ j, k ≤ j → j < k + m → wd w b (o + j) = 0) → Val w b o (k + m) = Val w b o k
  | 0, _ => rfl
  | m + 1, h => by
    rw [← Nat.add_assoc, Val_succ, Val_zeros w b o k m (fun j h1 h2 => h j h1 (by omega)), h (k + m) (by omega) (by omega)]
    simp
/-- A result slice: n words of b from o on, as a natural number. -/
def NtAt (w : World) (b o n c X : Nat) : Prop := NW w b o n c ∧ Val w b o n = X ∧ (n = 0 ∨ wd w b (o + (n - 1)) ≠ 0)
theorem NtAt.nt {w : World} {b o n c X : Nat} (h : NtAt w b o n c X) : Nt w (.slice (some ⟨b, o, none⟩) n c) X := .inr ⟨b, o, n, c, rfl, h⟩
set_option maxHeartbeats 400000 in
theorem nat_norm (b o n c : Nat) (w : World) (hz : NW w b o n c) (hn : n < 1048576) :
    Calls Tryz.prog 147 #[.slice (some ⟨b, o, none⟩) n c] w fun e w' => ∃ k : Nat, e = .returned (.slice (some ⟨b, o, none⟩) k c) ∧ NtAt w b o k c (Val w b o n) ∧ k ≤ n ∧ w = w' := by
  have hle := hz.le
  go_enter Tryz.func147, Tryz.ntmps147
  go_wp2_with fail
  go_loop [3] (fun i => ∃ k : Nat, k ≤ n ∧ i = .int .i64 k ∧ Hid (∀ j, k ≤ j → j < n → wd w b (o + j) = 0)) (fun i => (intOf i).toNat)
  case atStart => exact ⟨n, by omega, rfl, Lib.hid (fun j h1 h2 => by omega)⟩
  case round =>
    obtain ⟨k, hk, rfl, hV⟩ := hrel
    by_cases h0 : 0 < k
    · have hc := (hz.isW (k - 1) (by omega)).cell
      have i1 : (0 : Int) < k := by omega
      have i2 : (k : Int) - 1 < n := by omega
      have i3 : 0 ≤ (k : Int) - 1 := by omega
      by_cases hw0 : wd w b (o + (k - 1)) = 0
      · have t1 : ((wd w b (o + (k - 1)) : Int) == 0) = true := by simp [hw0]
        have HW := Lib.hid hw0
        clear hw0
        go_wp2_with fail
        go_round
        case rel =>
          refine ⟨k - 1, by omega, by go_num, Lib.hid (fun j h1 h2 => ?_)⟩
          by_cases e : j = k - 1
          · rw [e]; exact HW.out
          · exact hV.out j (by omega) h2
        case measure => simp [intOf]; omega
      · have t1 : ((wd w b (o + (k - 1)) : Int) == 0) = false := by simp; omega
        have HW := Lib.hid hw0
        clear hw0
        have i4 : (k : Int) ≤ c := by omega
        go_wp2_with fail
        go_ret
        refine ⟨k, rfl, ⟨hz.len (by omega), ?_, .inr HW.out⟩, hk, rfl⟩
        have := Val_zeros w b o k (n - k) (fun j h1 h2 => hV.out j h1 (by omega))
        rw [show k + (n - k) = n by omega] at this
        exact this.symm
    · have hk0 : k = 0 := by omega
      subst hk0
      go_wp2_with fail
      go_ret
      refine ⟨0, rfl, ⟨hz.len (by omega), ?_, .inl rfl⟩, by omega, rfl⟩
      have := Val_zeros w b o 0 n (fun j h1 h2 => hV.out j h1 (by omega))
      rw [Nat.zero_add] at this
      exact this.symm
/-- The same slice, of length 0. -/
def cut0 : Value → Value
  | .slice a _ c => .slice a 0 c
  | v => v
theorem Nt.cut0 {w : World} {z : Value} (h : Ow w z) : Nt w (cut0 z) 0 := by
  rcases h with rfl | ⟨b, o, n, c, rfl, hn⟩
  · exact .inl ⟨rfl, rfl⟩
  · exact .inr ⟨b, o, 0, c, rfl, hn.len (by omega), rfl, .inl rfl⟩
theorem Fp.cut0 {z : Value} {b o : Nat} (h : Fp (cut0 z) b o) : Fp z b o := by
  cases z <;> first | exact h | (rename_i a _ _; cases a <;> exact h)
/-- What a call with a receiver z answers: the number R, where z lies or in a new block; and nothing but z's places has changed. -/
structure Res (w w' : World) (z r : Value) (R : Nat) : Prop where
  nt : Nt w' r R
  fp : ∀ b o, Fp r b o → Fp z b o ∨ w.heap.size ≤ b
  chg : Chg (Fp z) w w'
/-- Two operands of one operation: the same array from the same place on, or apart. -/
def Al (z x : Value) : Prop := (∃ b o n m c, z = .slice (some ⟨b, o, none⟩) m c ∧ x = .slice (some ⟨b, o, none⟩) n c) ∨ (∀ b o, Fp z b o → ¬ Fp x b o)
def Small (X : Nat) : Prop := X < WB ^ 1000
theorem Chg.no {S : Nat → Nat → Prop} {w w' : World} (h : Chg No w w') : Chg S w w' := h.mono fun _ _ _ f => f.elim
set_option maxHeartbeats 400000 in
theorem nat_make0 (z : Value) (w : World) (hz : Ow w z) : Calls Tryz.prog 158 #[z, .int .i64 0] w fun e w' => e = .returned (cut0 z) ∧ w = w' := by
  rcases hz with rfl | ⟨b, o, n, c, rfl, hn⟩
  · go_enter Tryz.func158, Tryz.ntmps158
    go_wp2_with fail
    go_ret
    exact ⟨rfl, rfl⟩
  · have c1 : (0 : Int) ≤ c := by omega
    go_enter Tryz.func158, Tryz.ntmps158
    go_wp2_with fail
    go_ret
    exact ⟨rfl, rfl⟩
set_option maxHeartbeats 400000 in
theorem nat_set (z x : Value) (X : Nat) (w : World) (hz : Ow w z) (hx : Nt w x X) (hX : Small X) (hs : 17 ≤ w.heap.size) :
    Calls Tryz.prog 156 #[z, x] w fun e w' => ∃ r, e = .returned r ∧ Res w w' z r X := by
  by_cases hX0 : X = 0
  · subst hX0
    have hx0 : ∃ a c, x = .slice a 0 c := by
      rcases hx with ⟨rfl, _⟩ | ⟨b, o, n, c, rfl, hn, hv, hz⟩
      · exact ⟨_, _, rfl⟩
      · have := len_le (k := 0) hz (by rw [hv]; exact Nat.one_pos)
        obtain rfl : n = 0 := by omega
        exact ⟨_, _, rfl⟩
    obtain ⟨a, c, rfl⟩ := hx0
    have hres : Res w w z (cut0 z) 0 := ⟨Nt.cut0 hz, fun b o h => .inl h.cut0, Chg.refl _ _⟩
    obtain ⟨az, nz, cz, hzz⟩ : ∃ az nz cz, cut0 z = .slice az 0 cz ∧ nz = 0 := by
      rcases hz with rfl | ⟨b, o, n, c, rfl, _⟩
      · exact ⟨_, 0, _, rfl, rfl⟩
      · exact ⟨_, 0, _, rfl, rfl⟩
    go_enter Tryz.func156, Tryz.ntmps156
    go_wp2_with fail
    refine (nat_make0 z w hz).mono ?_
    rintro e w' ⟨rfl, rfl⟩
    rw [hzz.1] at hres ⊢
    go_wp2_with (refine wpList_copy0 rfl (.tmp 9) (.tmp 10) 85 85 rfl 149 Tryz.underlying85 (by kernel_rfl) _ _ _ _ _ _ rfl rfl rfl ?_)
    go_ret
    exact ⟨_, rfl, hres⟩
  · rcases hx with ⟨rfl, h⟩ | ⟨xb, xo, n, xc, rfl, hn, hv, hzx⟩
    · exact absurd h hX0
    · have hn0 : 0 < n := by
        rcases Nat.eq_zero_or_pos n with h | h
        · subst h; exact absurd hv.symm hX0
        · exact h
      have hnb : n ≤ 1000 := len_le hzx (by rw [hv]; exact hX)
      go_enter Tryz.func156, Tryz.ntmps156
      go_wp2_with fail
      refine (nat_make z n w hz hn0 (by omega) hs).mono ?_
      rintro e w1 ⟨b, o, c, rfl, hN, hc, hfrom⟩
      have hxw : ∀ i, i < n → IsW w1 xb (xo + i) := fun i hi => hc.isW _ _ (hn.isW i (by have := hn.le; omega))
      have hvx : ∀ i, i < n → wd w1 xb (xo + i) = wd w xb (xo + i) := fun i hi => wd_congr (hc.cell _ _ hn.lt (fun f => f))
      have hwz := hN.wr 0 n (by have := hN.le; omega)
      rw [Nat.add_zero] at hwz
      have Hvx := Lib.hid hvx
      have HV := Lib.hid hv
      have Hfrom := Lib.hid hfrom
      clear hvx hv hfrom
      go_wp2_with (refine wpList_copyW rfl (.tmp 9) (.tmp 10) 85 85 rfl 149 Tryz.underlying85 (by kernel_rfl) b o n c xb xo n xc rfl rfl n (by simp) hxw hwz ?_; intro w2 hc2 hv2)
      go_ret
      have hwd : ∀ i, i < n → wd w2 b (o + i) = wd w xb (xo + i) := fun i hi => (hv2.out i hi).trans (Hvx.out i hi)
      refine ⟨_, rfl, ⟨NtAt.nt ⟨hN.chg hc2, (Val_congr2 hwd).trans HV.out, .inr ?_⟩, ?_, ?_⟩⟩
      · rw [hwd (n - 1) (by omega)]
        exact hzx.resolve_left (by omega)
      · rintro b' o' ⟨rfl, h2, h3⟩
        rcases Hfrom.out with ⟨_, m, rfl⟩ | h
        · exact .inl ⟨rfl, h2, h3⟩
        · exact .inr (by omega)
      · refine hc.no.then hc2 ?_
        rintro b' o' hlt ⟨rfl, h2, h3⟩
        rcases Hfrom.out with ⟨_, m, rfl⟩ | h
        · exact ⟨rfl, h2, by have := hN.le; simp at h3 ⊢; omega⟩
        · exact absurd hlt (by simp at h ⊢; omega)
def Apart (z x : Value) : Prop := ∀ b o, Fp z b o → ¬ Fp x b o
set_option maxHeartbeats 400000 in
theorem nat_setWord (z : Value) (x : Nat) (w : World) (hz : Ow w z) (hx : x < WB) (hs : 17 ≤ w.heap.size) :
    Calls Tryz.prog 98 #[z, .int .u64 x] w fun e w' => ∃ r, e = .returned r ∧ Res w w' z r x := by
  by_cases h0 : x = 0
  · subst h0
    have hres : Res w w z (cut0 z) 0 := ⟨Nt.cut0 hz, fun b o h => .inl h.cut0, Chg.refl _ _⟩
    rcases hz with rfl | ⟨b, o, n, c, rfl, hn⟩
    · go_enter Tryz.func98, Tryz.ntmps98
      go_wp2_with fail
      go_ret
      exact ⟨_, rfl, hres⟩
    · have c1 : (0 : Int) ≤ c := by omega
      go_enter Tryz.func98, Tryz.ntmps98
      go_wp2_with fail
      go_ret
      exact ⟨_, rfl, hres⟩
  · have c1 : ((x : Int) == 0) = false := by simp; omega
    have Hx := Lib.hid hx
    clear hx
    go_enter Tryz.func98, Tryz.ntmps98
    go_wp2_with fail
    refine (nat_make z 1 w hz (by omega) (by omega) hs).mono ?_
    rintro e w1 ⟨b, o, c, rfl, hN, hc, hfrom⟩
    have hle := hN.le
    have hw0 : IsW w1 b o := hN.isW 0 (by omega)
    have cz := hw0.cell
    have fz := hN.plain.free o
    have Hfrom := Lib.hid hfrom
    clear hfrom
    go_wp2_with fail
    go_ret
    have hC := Chg.setW (S := Rng b o 1) (Chg.refl _ w1) hw0 Hx.out (fun _ => ⟨rfl, by omega, by omega⟩)
    have hv := wd_setCell_same (k := .u64) (n := x) cz
    refine ⟨_, rfl, ⟨NtAt.nt ⟨hN.chg hC, by rw [Val_one]; exact hv, .inr (by rw [show o + (1 - 1) = o from rfl, hv]; exact h0)⟩, ?_, ?_⟩⟩
    · rintro b' o' ⟨rfl, h2, h3⟩
      rcases Hfrom.out with ⟨_, m, rfl⟩ | h
      · exact .inl ⟨rfl, h2, h3⟩
      · exact .inr (by omega)
    · refine hc.no.then hC ?_
      rintro b' o' hlt ⟨rfl, h2, h3⟩
      rcases Hfrom.out with ⟨_, m, rfl⟩ | h
      · exact ⟨rfl, h2, by simp at h3 ⊢; omega⟩
      · exact absurd hlt (by simp at h ⊢; omega)
/-- alias: false tells that the two are apart. -/
def AliasSays (z x : Value) (b : Bool) : Prop := b = false → Apart z x
set_option maxHeartbeats 1000000 in
theorem alias (z x : Value) (w : World) (hz : Ow w z) (hx : Ow w x) (hal : Al z x) :
    Calls Tryz.prog 155 #[z, x] w fun e w' => ∃ (t : Bool) (m : Nat), e = .returned (.bool t) ∧ AliasSays z x t ∧ w' = w.drewN m := by
  rcases hz with rfl | ⟨b, o, n, c, rfl, hn⟩
  · go_enter Tryz.func155, Tryz.ntmps155
    go_wp2_with fail
    go_quiet (fail)
    go_wp2_with fail
    go_ret
    exact ⟨false, _, rfl, fun _ _ _ f => f.elim, rfl⟩
  · by_cases hc0 : c = 0
    · subst hc0
      go_enter Tryz.func155, Tryz.ntmps155
      go_wp2_with fail
      go_quiet (fail)
      go_wp2_with fail
      go_ret
      exact ⟨false, _, rfl, fun _ b o f => absurd f.2.2 (by simp at *; have := f.2.1; simp at this; omega), rfl⟩
    · have c1 : (0 : Int) < c := by omega
      have c1n : 0 < c := by omega
      have d1 : decide (0 < c) = true := decide_eq_true c1n
      rcases hx with rfl | ⟨xb, xo, xn, xc, rfl, hxn⟩
      · go_enter Tryz.func155, Tryz.ntmps155
        go_wp2_with fail
        go_quiet (fail)
        go_wp2_with fail
        go_ret
        exact ⟨false, _, rfl, fun _ b o _ f => f.elim, rfl⟩
      · by_cases hxc0 : xc = 0
        · subst hxc0
          go_enter Tryz.func155, Tryz.ntmps155
          go_wp2_with fail
          go_quiet (fail)
          go_wp2_with fail
          go_ret
          exact ⟨false, _, rfl, fun _ b o _ f => absurd f.2.2 (by have := f.2.1; simp at this ⊢; omega), rfl⟩
        · have x1 : (0 : Int) < xc := by omega
          have x1n : 0 < xc := by omega
          have d2 : decide (0 < xc) = true := decide_eq_true x1n
          have m1 := hn.max
          have m2 := hxn.max
          unfold maxLen at m1 m2
          have e1 : IntKind.i64.wrap ((c : Int) - 1) = (c : Int) - 1 := IntWalk.i64_in _ (by omega)
          have e2 : IntKind.i64.wrap ((xc : Int) - 1) = (xc : Int) - 1 := IntWalk.i64_in _ (by omega)
          have e3 : ((c : Int) - 1).toNat = c - 1 := by omega
          have e4 : ((xc : Int) - 1).toNat = xc - 1 := by omega
          have i1 : 0 ≤ (c : Int) - 1 := by omega
          have i2 : 0 ≤ (xc : Int) - 1 := by omega
          have i3 : (c : Int) - 1 < c := by omega
          have i4 : (xc : Int) - 1 < xc := by omega
          by_cases hsame : b = xb ∧ o + (c - 1) = xo + (xc - 1)
          · obtain ⟨rfl, hoff⟩ := hsame
            have hp : ∀ W : World, (binOp .eql 261 (.pointer (some ⟨b, o + (c - 1), none⟩)) (.pointer (some ⟨b, xo + (xc - 1), none⟩))).run Tryz.prog W = .ok (.bool true) W := fun W => by rw [hoff]; exact eql_same _ _
            clear m1 m2 hoff
            go_enter Tryz.func155, Tryz.ntmps155
            go_wp2_with fail
            go_quiet (fail)
            go_wp2_with fail
            go_ret
            exact ⟨true, _, rfl, fun h => Bool.noConfusion h, rfl⟩
          · have hp : ∀ m : Nat, (binOp .eql 261 (.pointer (some ⟨b, o + (c - 1), none⟩)) (.pointer (some ⟨xb, xo + (xc - 1), none⟩))).run Tryz.prog (w.drewN m) = .ok (.bool false) (w.drewN m) :=
              fun m => eql_other (fun e => hsame (by simp at e; omega)) hn.plain hxn.plain
            have hfin : AliasSays (.slice (some ⟨b, o, none⟩) n c) (.slice (some ⟨xb, xo, none⟩) xn xc) false := fun _ => by
              rcases hal with ⟨b', o', n', m', c', h1, h2⟩ | h
              · cases h1; cases h2; exact absurd ⟨rfl, rfl⟩ hsame
              · exact h
            clear m1 m2 hsame
            go_enter Tryz.func155, Tryz.ntmps155
            go_wp2_with fail
            go_quiet (fail)
            go_wp2_with fail
            go_ret
            exact ⟨false, _, rfl, hfin, rfl⟩
def cmpN (X Y : Nat) : Int := if X < Y then -1 else if Y < X then 1 else 0
theorem cmpN_lt {X Y : Nat} (h : X < Y) : cmpN X Y = -1 := by simp [cmpN, h]
theorem cmpN_gt {X Y : Nat} (h : Y < X) : cmpN X Y = 1 := by simp [cmpN, h]; omega
theorem cmpN_eq (X : Nat) : cmpN X X = 0 := by simp [cmpN]
/-- What is known of a natural number's slice. -/
theorem Nt.cases {w : World} {v : Value} {X : Nat} (h : Nt w v X) (hX : Small X) : ∃ (a : Option Addr) (n c : Nat), v = .slice a n c ∧ n ≤ 1000 ∧ (n = 0 → X = 0) ∧ X < WB ^ n ∧ (0 < n → WB ^ (n - 1) ≤ X ∧ ∃ b o, a = some ⟨b, o, none⟩ ∧ NW w b o n c ∧ Val w b o n = X ∧ wd w b (o + (n - 1)) ≠ 0) := by
  rcases h with ⟨rfl, rfl⟩ | ⟨b, o, n, c, rfl, hn, hv, hz⟩
  · exact ⟨none, 0, 0, rfl, by omega, fun _ => rfl, by simp, fun h => absurd h (by omega)⟩
  · refine ⟨_, n, c, rfl, len_le hz (by rw [hv]; exact hX), fun h => ?_, ?_, fun h => ?_⟩
    · subst h; exact hv.symm
    · rw [← hv]; exact Val_lt fun i hi => hn.isW i (by have := hn.le; omega)
    · have hz' := hz.resolve_left (by omega)
      exact ⟨by rw [← hv]; exact Val_ge h hz', b, o, rfl, hn, hv, hz'⟩
theorem Val_tail {w : World} {b o b' o' k n : Nat} (hk : k < n) (h : ∀ j, k < j → j < n → wd w b (o + j) = wd w b' (o' + j)) :
    ∃ T, Val w b o n = Val w b o (k + 1) + WB ^ (k + 1) * T ∧ Val w b' o' n = Val w b' o' (k + 1) + WB ^ (k + 1) * T := by
  obtain ⟨m, rfl⟩ : ∃ m, n = (k + 1) + m := ⟨n - (k + 1), by omega⟩
  refine ⟨Val w b (o + (k + 1)) m, Val_split _ _ _ _ _, ?_⟩
  rw [Val_split]
  congr 2
  refine V_congr m fun i hi => ?_
  have := h (k + 1 + i) (by omega) (by omega)
  rw [show o + (k + 1 + i) = o + (k + 1) + i by omega, show o' + (k + 1 + i) = o' + (k + 1) + i by omega] at this
  exact this.symm
theorem Val_top {w : World} {b o b' o' k : Nat} (hx : ∀ i, i < k + 1 → IsW w b (o + i)) (h : wd w b (o + k) < wd w b' (o' + k)) : Val w b o (k + 1) < Val w b' o' (k + 1) := by
  rw [Val_succ, Val_succ]
  have h1 := Val_lt (n := k) fun i hi => hx i (by omega)
  have h2 : (wd w b (o + k) + 1) * WB ^ k ≤ wd w b' (o' + k) * WB ^ k := Nat.mul_le_mul_right _ h
  rw [Nat.add_mul, Nat.one_mul] at h2
  omega
/-- Only draws. -/
def Drew (w w' : World) : Prop := ∃ m, w' = w.drewN m
theorem Drew.refl (w : World) : Drew w w := ⟨0, rfl⟩
theorem Drew.drewN {w w' : World} (h : Drew w w') (n : Nat) : Drew w (w'.drewN n) := by
  obtain ⟨m, rfl⟩ := h
  exact ⟨m + n, by simp⟩
theorem Drew.chg {w w' : World} (h : Drew w w') : Chg No w w' := by
  obtain ⟨m, rfl⟩ := h
  exact (Chg.refl _ _).drewN m
set_option maxHeartbeats 1000000 in
theorem nat_cmp (x y : Value) (X Y : Nat) (w : World) (hx : Nt w x X) (hy : Nt w y Y) (hX : Small X) (hY : Small Y) :
    Calls Tryz.prog 118 #[x, y] w fun e w' => e = .returned (.int .i64 (cmpN X Y)) ∧ Drew w w' := by
  obtain ⟨xa, n, xc, rfl, hn, hx0, hxl, hxn⟩ := hx.cases hX
  obtain ⟨ya, m, yc, rfl, hm, hy0, hyl, hyn⟩ := hy.cases hY
  have mlt : ∀ {X Y n m : Nat}, X < WB ^ n → (0 < m → WB ^ (m - 1) ≤ Y) → n < m → X < Y := fun {X Y n m} h1 h2 h => by
    have := h2 (by omega)
    have h3 : WB ^ n ≤ WB ^ (m - 1) := Nat.pow_le_pow_right WB_pos (by omega)
    omega
  clear hX hY hx hy
  rcases Nat.lt_trichotomy n m with h | h | h
  · have hlt := cmpN_lt (mlt hxl (fun h => (hyn h).1) h)
    have H := Lib.hid hlt
    have c1 : (n : Int) < m := by omega
    have c2 : ((n : Int) != m) = true := by rw [bne_iff_ne]; omega
    clear hlt hx0 hxl hxn hy0 hyl hyn mlt
    go_enter Tryz.func118, Tryz.ntmps118
    go_wp2_with fail
    go_ret
    exact ⟨by rw [H.out]; rfl, 0, rfl⟩
  · subst h
    by_cases h0 : n = 0
    · subst h0
      have e1 : cmpN X Y = 0 := by rw [hx0 rfl, hy0 rfl]; rfl
      have H := Lib.hid e1
      clear e1 hx0 hxl hxn hy0 hyl hyn mlt
      go_enter Tryz.func118, Tryz.ntmps118
      go_wp2_with fail
      go_ret
      exact ⟨by rw [H.out]; rfl, 0, rfl⟩
    · obtain ⟨_, xb, xo, rfl, hxN, hxv, hxz⟩ := hxn (by omega)
      obtain ⟨_, yb, yo, rfl, hyN, hyv, hyz⟩ := hyn (by omega)
      have c1 : ((n : Int) != n) = false := by simp
      have c2 : ((n : Int) == 0) = false := by simp; omega
      have xle := hxN.le
      have yle := hyN.le
      have Hx := Lib.hid hxv
      have Hy := Lib.hid hyv
      clear hxv hyv hxz hyz hx0 hxl hxn hy0 hyl hyn mlt
      go_enter Tryz.func118, Tryz.ntmps118
      go_wp2_with fail
      go_loopw [7] (fun i wr => ∃ k q : Nat, k < n ∧ i = .int .i64 k ∧ wr = w.drewN q ∧ Hid (∀ j, k < j → j < n → wd w xb (xo + j) = wd w yb (yo + j))) (fun i _ => (intOf i).toNat)
      case atStart => exact ⟨n - 1, 0, by omega, by go_num, rfl, Lib.hid (fun j h1 h2 => by omega)⟩
      case round =>
        obtain ⟨k, q, hk, rfl, rfl, hV⟩ := hrel
        have hxk := (hxN.isW k (by omega)).cell
        have hyk := (hyN.isW k (by omega)).cell
        have i1 : (k : Int) < n := by omega
        obtain ⟨T, hT1, hT2⟩ := Val_tail hk hV.out
        by_cases hk0 : 0 < k
        · have i2 : (0 : Int) < k := by omega
          have d1 : decide (0 < k) = true := decide_eq_true hk0
          by_cases heq : wd w xb (xo + k) = wd w yb (yo + k)
          · have t1 : ((wd w xb (xo + k) : Int) == (wd w yb (yo + k) : Int)) = true := by simp; omega
            have t2 : (wd w xb (xo + k) == wd w yb (yo + k)) = true := by simp; omega
            have HE := Lib.hid heq
            have HT := Lib.hid hT1
            clear heq hT1 hT2
            go_wp2_with fail
            go_quiet (fail)
            go_wp2_with fail
            go_roundw
            case rel =>
              refine ⟨k - 1, _, by omega, by go_num, rfl, Lib.hid (fun j h1 h2 => ?_)⟩
              by_cases e : j = k
              · rw [e]; exact HE.out
              · exact hV.out j (by omega) h2
            case measure => simp [intOf]; omega
          · have t1 : (wd w xb (xo + k) == wd w yb (yo + k)) = false := by simp; omega
            have hk1 : k < n := hk
            rcases Nat.lt_or_gt_of_ne heq with hl | hl
            · have hfin : cmpN X Y = -1 := cmpN_lt (by
                rw [← Hx.out, ← Hy.out, hT1, hT2]
                have := Val_top (fun i hi => hxN.isW i (by omega)) hl
                omega)
              have t2 : decide (wd w xb (xo + k) < wd w yb (yo + k)) = true := decide_eq_true hl
              have HF := Lib.hid hfin
              clear hT1 hT2 hl hfin
              go_wp2_with fail
              go_quiet (fail)
              go_wp2_with fail
              go_quiet (fail)
              go_wp2_with fail
              go_ret
              exact ⟨by rw [HF.out]; rfl, by repeat (first | exact Drew.refl _ | refine Drew.drewN ?_ _ | refine Drew.drew ?_)⟩
            · have hfin : cmpN X Y = 1 := cmpN_gt (by
                rw [← Hx.out, ← Hy.out, hT1, hT2]
                have := Val_top (fun i hi => hyN.isW i (by omega)) hl
                omega)
              have t2 : decide (wd w xb (xo + k) < wd w yb (yo + k)) = false := decide_eq_false (by omega)
              have t3 : decide (wd w yb (yo + k) < wd w xb (xo + k)) = true := decide_eq_true hl
              have HF := Lib.hid hfin
              clear hT1 hT2 hl hfin
              go_wp2_with fail
              go_quiet (fail)
              go_wp2_with fail
              go_quiet (fail)
              go_wp2_with fail
              go_quiet (fail)
              go_wp2_with fail
              go_ret
              exact ⟨by rw [HF.out]; rfl, by repeat (first | exact Drew.refl _ | refine Drew.drewN ?_ _ | refine Drew.drew ?_)⟩
        · have hk00 := Lib.hid (show k = 0 by omega)
          have d1 : decide (0 < k) = false := decide_eq_false hk0
          have i0 : decide ((0 : Int) < (k : Int)) = false := decide_eq_false (by omega)
          by_cases heq : wd w xb (xo + k) = wd w yb (yo + k)
          · have hfin : cmpN X Y = 0 := by
              have h0 : Val w xb xo (k + 1) = Val w yb yo (k + 1) := by
                rw [hk00.out] at heq ⊢
                rw [Val_one, Val_one]; exact heq
              rw [← Hx.out, ← Hy.out, hT1, hT2, h0]
              exact cmpN_eq _
            have t2 : decide (wd w xb (xo + k) < wd w yb (yo + k)) = false := decide_eq_false (by omega)
            have t3 : decide (wd w yb (yo + k) < wd w xb (xo + k)) = false := decide_eq_false (by omega)
            have HF := Lib.hid hfin
            clear hT1 hT2 heq hfin hk0
            go_wp2_with fail
            go_quiet (fail)
            go_wp2_with fail
            go_quiet (fail)
            go_wp2_with fail
            go_quiet (fail)
            go_wp2_with fail
            go_ret
            exact ⟨by rw [HF.out]; rfl, by repeat (first | exact Drew.refl _ | refine Drew.drewN ?_ _ | refine Drew.drew ?_)⟩
          · rcases Nat.lt_or_gt_of_ne heq with hl | hl
            · have hfin : cmpN X Y = -1 := cmpN_lt (by
                rw [← Hx.out, ← Hy.out, hT1, hT2]
                have := Val_top (fun i hi => hxN.isW i (by omega)) hl
                omega)
              have t2 : decide (wd w xb (xo + k) < wd w yb (yo + k)) = true := decide_eq_true hl
              have HF := Lib.hid hfin
              clear hT1 hT2 hl hfin
              go_wp2_with fail
              go_quiet (fail)
              go_wp2_with fail
              go_quiet (fail)
              go_wp2_with fail
              go_ret
              exact ⟨by rw [HF.out]; rfl, by repeat (first | exact Drew.refl _ | refine Drew.drewN ?_ _ | refine Drew.drew ?_)⟩
            · have hfin : cmpN X Y = 1 := cmpN_gt (by
                rw [← Hx.out, ← Hy.out, hT1, hT2]
                have := Val_top (fun i hi => hyN.isW i (by omega)) hl
                omega)
              have t2 : decide (wd w xb (xo + k) < wd w yb (yo + k)) = false := decide_eq_false (by omega)
              have t3 : decide (wd w yb (yo + k) < wd w xb (xo + k)) = true := decide_eq_true hl
              have HF := Lib.hid hfin
              clear hT1 hT2 hl hfin
              go_wp2_with fail
              go_quiet (fail)
              go_wp2_with fail
              go_quiet (fail)
              go_wp2_with fail
              go_quiet (fail)
              go_wp2_with fail
              go_ret
              exact ⟨by rw [HF.out]; rfl, by repeat (first | exact Drew.refl _ | refine Drew.drewN ?_ _ | refine Drew.drew ?_)⟩
  · have hlt := cmpN_gt (mlt hyl (fun h => (hxn h).1) h)
    have H := Lib.hid hlt
    have c1 : (m : Int) < n := by omega
    have c2 : ((n : Int) != m) = true := by rw [bne_iff_ne]; omega
    have c3 : ¬ (n : Int) < m := by omega
    clear hlt hx0 hxl hxn hy0 hyl hyn mlt
    go_enter Tryz.func118, Tryz.ntmps118
    go_wp2_with fail
    go_ret
    exact ⟨by rw [H.out]; rfl, 0, rfl⟩
/-- In other blocks. -/
def Ab (z x : Value) : Prop := ∀ b o b' o', Fp z b o → Fp x b' o' → b ≠ b'
/-- Two operands: the same array from the same place on, or in other blocks. -/
def AlB (z x : Value) : Prop := (∃ b o n m c, z = .slice (some ⟨b, o, none⟩) m c ∧ x = .slice (some ⟨b, o, none⟩) n c) ∨ Ab z x
theorem Ab.apart {z x : Value} (h : Ab z x) : Apart z x := fun b o h1 h2 => h b o b o h1 h2 rfl
theorem AlB.al {z x : Value} (h : AlB z x) : Al z x := h.imp id Ab.apart
/-- Where an operand lies, seen from the new slice. -/
theorem AlB.from {w w' : World} {z : Value} {b o c xb xo xn xc : Nat} (h : AlB z (.slice (some ⟨xb, xo, none⟩) xn xc)) (hf : From w w' z b o c) (hx : NW w xb xo xn xc) (h0 : 0 < xc) (h1 : 0 < c) : xb ≠ b ∨ (xo = o ∧ xb = b) := by
  rcases hf with ⟨_, m, rfl⟩ | rfl
  · rcases h with ⟨b', o', n', m', c', e1, e2⟩ | h
    · cases e1; cases e2; exact .inr ⟨rfl, rfl⟩
    · exact .inl fun e => h b o xb xo ⟨rfl, Nat.le_refl _, by simp; omega⟩ ⟨rfl, Nat.le_refl _, by simp; omega⟩ e.symm
  · exact .inl (Nat.ne_of_lt hx.lt)
theorem From.res {w w1 w2 : World} {z r : Value} {b o c R : Nat} (hf : From w w1 z b o c) (h1 : Chg No w w1) (h2 : Chg (Rng b o c) w1 w2) (hr : Nt w2 r R) (hfp : ∀ x p, Fp r x p → Rng b o c x p) : Res w w2 z r R := by
  refine ⟨hr, fun x p h => ?_, h1.no.then h2 ?_⟩
  · obtain ⟨e, h2, h3⟩ := hfp x p h
    rcases hf with ⟨_, m, rfl⟩ | h
    · exact .inl ⟨e, h2, h3⟩
    · exact .inr (by omega)
  · rintro x p hlt ⟨e, h2, h3⟩
    rcases hf with ⟨_, m, rfl⟩ | h
    · exact ⟨e, h2, h3⟩
    · omega
theorem Chg.ofDrewN {S : Nat → Nat → Prop} {w w' : World} {k : Nat} (h : Chg S (w.drewN k) w') : Chg S w w' := ((Chg.refl S w).drewN k).then h fun _ _ _ s => s
theorem Wr.drewN {w : World} {b o n : Nat} (h : Wr w b o n) (k : Nat) : Wr (w.drewN k) b o n := ⟨h.isW, h.plain⟩
theorem Nt.at {w : World} {b : Option Addr} {n c X : Nat} (h : Nt w (.slice b n c) X) (hn : 0 < n) : ∃ b' o', b = some ⟨b', o', none⟩ ∧ NtAt w b' o' n c X := by
  rcases h with ⟨h, _⟩ | ⟨b', o', n', c', h, hh⟩
  · cases h; omega
  · cases h; exact ⟨b', o', rfl, hh⟩
def deB64 : List Nat := [0, 1, 56, 2, 57, 49, 28, 3, 61, 58, 42, 50, 38, 29, 17, 4, 62, 47, 59, 36, 45, 43, 51, 22, 53, 39, 33, 30, 24, 18, 12, 5, 63, 55, 48, 27, 60, 41, 37, 16, 46, 35, 44, 21, 52, 32, 23, 11, 54, 26, 40, 15, 34, 20, 31, 10, 25, 14, 19, 9, 13, 8, 7, 6]
def pow10tab : List Nat := (List.range 20).map (10 ^ ·)
/-- What the package-level variables of plain numbers hold. -/
def gcell : Nat → Nat → Option Value
  | 3, 0 => some (.int .i64 40)
  | 4, 0 => some (.int .i64 12)
  | 5, 0 => some (.int .i64 80)
  | 6, 0 => some (.int .i64 40)
  | 9, 0 => some (.int .i64 8)
  | 13, o => deB64[o]?.map fun n : Nat => .int .u8 n
  | 14, o => pow10tab[o]?.map fun n : Nat => .int .u64 n
  | _, _ => none
structure Glob (w : World) : Prop where
  size : 17 ≤ w.heap.size
  cell : ∀ b o v, gcell b o = some v → w.cell? ⟨b, o, none⟩ = some v
theorem gcell_lt {b o : Nat} {v : Value} (h : gcell b o = some v) : b < 17 := by
  unfold gcell at h
  split at h <;> first | omega | simp at h
theorem Glob.chg {S : Nat → Nat → Prop} {w w' : World} (h : Glob w) (hc : Chg S w w') (hS : ∀ b o, S b o → 17 ≤ b) : Glob w' :=
  ⟨Nat.le_trans h.size hc.size, fun b o v e => (hc.cell b o (Nat.lt_of_lt_of_le (gcell_lt e) h.size) (fun s => by have := hS _ _ s; have := gcell_lt e; omega)).trans (h.cell b o v e)⟩
theorem Glob.no {w w' : World} (h : Glob w) (hc : Chg No w w') : Glob w' := h.chg hc fun _ _ f => f.elim
theorem mulAddVWW_d (zb zo zc xb xo xc n y r : Nat) (w : World) (hn : n < 4611686018427387904) (hy : y < WB) (hr : r < WB)
    (hz : Wr w zb zo n) (hx : ∀ i, i < n → IsW w xb (xo + i)) (hxz : xb ≠ zb ∨ xo = zo ∨ xo + n ≤ zo ∨ zo + n ≤ xo) (k : Nat) :
    Calls Tryz.prog 207 #[.slice (some ⟨zb, zo, none⟩) n zc, .slice (some ⟨xb, xo, none⟩) n xc, .int .u64 y, .int .u64 r] (w.drewN k) fun e w' =>
      ∃ c : Nat, e = .returned (.int .u64 c) ∧ c < WB ∧ Hid (Val w' zb zo n + c * WB ^ n = Val w xb xo n * y + r) ∧ Chg (Rng zb zo n) w w' :=
  (mulAddVWW zb zo zc xb xo xc n y r (w.drewN k) hn hy hr (hz.drewN k) hx hxz).mono fun _ _ ⟨c, h1, h2, h3, h4⟩ => ⟨c, h1, h2, h3, h4.ofDrewN⟩
theorem addMulVVWW_d (zb zo zc xb xo xc yb yo yc n m a : Nat) (w : World) (hn : n < 4611686018427387904) (hm : m < WB) (ha : a < WB)
    (hz : Wr w zb zo n) (hx : ∀ i, i < n → IsW w xb (xo + i)) (hy : ∀ i, i < n → IsW w yb (yo + i))
    (hxz : xb ≠ zb ∨ xo = zo ∨ xo + n ≤ zo ∨ zo + n ≤ xo) (hyz : yb ≠ zb ∨ yo = zo ∨ yo + n ≤ zo ∨ zo + n ≤ yo) (k : Nat) :
    Calls Tryz.prog 229 #[.slice (some ⟨zb, zo, none⟩) n zc, .slice (some ⟨xb, xo, none⟩) n xc, .slice (some ⟨yb, yo, none⟩) n yc, .int .u64 m, .int .u64 a] (w.drewN k) fun e w' =>
      ∃ c : Nat, e = .returned (.int .u64 c) ∧ c < WB ∧ Hid (Val w' zb zo n + c * WB ^ n = Val w xb xo n + Val w yb yo n * m + a) ∧ Chg (Rng zb zo n) w w' :=
  (addMulVVWW zb zo zc xb xo xc yb yo yc n m a (w.drewN k) hn hm ha (hz.drewN k) hx hy hxz hyz).mono fun _ _ ⟨c, h1, h2, h3, h4⟩ => ⟨c, h1, h2, h3, h4.ofDrewN⟩
set_option maxHeartbeats 1000000 in
theorem nat_mulAddWW (z x : Value) (X y r : Nat) (w : World) (hz : Ow w z) (hx : Nt w x X) (hX : Small X) (hy : y < WB) (hr : r < WB) (ax : AlB z x) (hs : 17 ≤ w.heap.size) :
    Calls Tryz.prog 144 #[z, x, .int .u64 y, .int .u64 r] w fun e w' => ∃ s, e = .returned s ∧ Res w w' z s (X * y + r) := by
  obtain ⟨xa, m, xc, rfl, hm, hx0, -⟩ := hx.cases hX
  have hset := nat_setWord z r w hz hr hs
  have Hset := Lib.hid hset
  have Hy := Lib.hid hy
  have Hr := Lib.hid hr
  by_cases hm0 : m = 0
  · subst hm0
    obtain rfl := hx0 rfl
    clear hset hy hr hX hx
    go_enter Tryz.func144, Tryz.ntmps144
    go_wp2_with fail
    refine Hset.out.mono ?_
    rintro e w' ⟨r, rfl, hr⟩
    go_wp2_with fail
    go_ret
    exact ⟨_, rfl, by rw [Nat.zero_mul, Nat.zero_add]; exact hr⟩
  · have c1 : ((m : Int) == 0) = false := by simp; omega
    by_cases hy0 : y = 0
    · subst hy0
      clear hset hy hr hX hx
      go_enter Tryz.func144, Tryz.ntmps144
      go_wp2_with fail
      refine Hset.out.mono ?_
      rintro e w' ⟨r, rfl, hr⟩
      go_wp2_with fail
      go_ret
      exact ⟨_, rfl, by rw [Nat.mul_zero, Nat.zero_add]; exact hr⟩
    · have c2 : ((y : Int) == 0) = false := by simp; omega
      obtain ⟨xb, xo, rfl, hxN, hxv, hxz⟩ := hx.at (by omega)
      have xle := hxN.le
      have em : ((m + 1 : Nat) : Int) = (m : Int) + 1 := by omega
      have hmk := nat_make z (m + 1) w hz (by omega) (by omega) hs
      rw [em] at hmk
      have Hmk := Lib.hid hmk
      have Hx := Lib.hid hxv
      clear hmk em hxv hxz hset hy hr hX hx
      go_enter Tryz.func144, Tryz.ntmps144
      go_wp2_with fail
      refine Hmk.out.mono ?_
      rintro e w1 ⟨b, o, c, rfl, hN, hc, hfrom⟩
      have hle := hN.le
      have alx := Lib.hid (ax.from hfrom hxN (by omega) (by omega))
      have Hfrom := Lib.hid hfrom
      clear hfrom
      have a1 := mulAddVWW_d b o c xb xo xc m y r w1 (by omega) Hy.out Hr.out (by have := hN.wr 0 m (by omega); rwa [Nat.add_zero] at this) (fun i hi => hc.isW _ _ (hxN.isW i (by omega))) (by have := alx.out; omega)
      have A1 := Lib.hid a1
      clear a1
      have i1 : (m : Int) ≤ c := by omega
      have i2 : (m : Int) < (m : Int) + 1 := by omega
      go_wp2_with fail
      refine (A1.out 0).mono ?_
      rintro e w2 ⟨d, rfl, hd, hv, hc2⟩
      have hwm : IsW w2 b (o + m) := hc2.isW _ _ (hN.isW m (by omega))
      have cz := hwm.cell
      have fz := (hc2.plain _ hN.plain).free (o + m)
      have Hd := Lib.hid hd
      clear hd
      go_wp2_with fail
      have h4 := Chg.setW (S := Rng b o c) (hc2.mono (fun x p _ h => ⟨h.1, h.2.1, by have := h.2.2; omega⟩)) hwm (n := d) Hd.out (fun _ => ⟨rfl, by omega, by omega⟩)
      refine (nat_norm b o (m + 1) c _ (hN.chg h4) (by omega)).mono ?_
      rintro e w4 ⟨k, rfl, hr, hk, rfl⟩
      go_wp2_with fail
      go_ret
      have e1 : Val w1 xb xo m = X := by rw [← Hx.out]; exact Val_congr fun i hi => wd_congr (hc.cell _ _ hxN.lt (fun f => f))
      rw [Val_set hwm, hv.out, e1] at hr
      exact ⟨_, rfl, Hfrom.out.res hc h4 hr.nt (fun x p h => h)⟩
theorem Val_zero {w : World} {b o : Nat} : ∀ n, (∀ i, i < n → wd w b (o + i) = 0) → Val w b o n = 0
  | 0, _ => rfl
  | n + 1, h => by rw [Val_succ, Val_zero n (fun i hi => h i (by omega)), h n (by omega), Nat.zero_mul]
theorem alg_bm {V0 V1 X Y P V2 d c Q R : Nat} (h1 : V0 + P * V1 = X * Y) (h2 : V2 + c * Q = V1 + X * d + 0) (hR : R = P * Q) : V0 + P * V2 + c * R = X * (Y + d * P) := by
  subst hR
  have : P * (V2 + c * Q) = P * (V1 + X * d) := by rw [h2, Nat.add_zero]
  grind
set_option maxRecDepth 100000 in
set_option maxHeartbeats 2000000 in
theorem basicMul (zb zo zl zc xb xo m xc yb yo n yc : Nat) (w : World) (hz : NW w zb zo zl zc) (hl : m + n ≤ zl) (hx : NW w xb xo m xc) (hy : NW w yb yo n yc) (hm : m < 1048576) (hn : n < 1048576) (hm0 : 0 < m) (hxz : xb ≠ zb) (hyz : yb ≠ zb) :
    Calls Tryz.prog 165 #[.slice (some ⟨zb, zo, none⟩) zl zc, .slice (some ⟨xb, xo, none⟩) m xc, .slice (some ⟨yb, yo, none⟩) n yc] w fun e w' =>
      e = .returned (.tuple #[]) ∧ Val w' zb zo (m + n) = Val w xb xo m * Val w yb yo n ∧ Chg (Rng zb zo (m + n)) w w' := by
  have zle := hz.le
  have i1 : (m : Int) + n ≤ zc := by omega
  have hcw := hz.wr 0 (m + n) (by omega)
  rw [Nat.add_zero] at hcw
  have en : ((m : Int) + n).toNat = m + n := by omega
  obtain ⟨ci, hi1, hi2, -, -⟩ := info_of info149
  go_enter Tryz.func165, Tryz.ntmps165
  go_wp2_with (refine wpList_clearW rfl (.tmp 14) 85 rfl 149 ci Tryz.underlying85 hi1 hi2 _ (m + n) zc rfl (fun _ => ⟨zb, zo, rfl, hcw⟩) ?_; intro w1 hc1 _ hv1)
  have hc1 := hc1 zb zo rfl
  have hv1 := Lib.hid (hv1.out zb zo rfl)
  go_wp2_with fail
  go_loopw [17] (fun i wr => ∃ k : Nat, k ≤ n ∧ i = .int .i64 k ∧ Hid (Val wr zb zo (m + k) = Val w xb xo m * Val w yb yo k) ∧ Hid (∀ j, m + k ≤ j → j < m + n → wd wr zb (zo + j) = 0) ∧ Hid (Chg (Rng zb zo (m + n)) w wr)) (fun i _ => n - (intOf i).toNat)
  case atStart =>
    exact ⟨0, by omega, rfl, Lib.hid (by rw [Val_zero _ (fun i hi => hv1.out i (by omega))]; simp [Val, V]), Lib.hid (fun j _ h => hv1.out j h), Lib.hid hc1⟩
  case round =>
    obtain ⟨k, hk, rfl, hV, hZ, hC⟩ := hrel
    by_cases hlt : k < n
    · have hC' := hC.out
      have hyk := hy.isW k (by have := hy.le; omega)
      have cy : wr.cell? ⟨yb, yo + k, none⟩ = some (.int .u64 (wd w yb (yo + k) : Nat)) := (hC'.cell _ _ hyk.block (by unfold Rng; omega)).trans hyk.cell
      have j1 : (k : Int) < (n : Int) := by omega
      have ez := hZ.out (m + k) (by omega) (by omega)
      have hwmk := hz.isW (m + k) (by omega)
      by_cases hd : wd w yb (yo + k) = 0
      · rw [hd] at cy
        go_wp2_with fail
        go_roundw
        case rel =>
          refine ⟨k + 1, by omega, by go_num, Lib.hid ?_, Lib.hid (fun j h1 h2 => hZ.out j (by omega) h2), Lib.hid hC'⟩
          rw [← Nat.add_assoc, Val_succ, Val_succ w, hd, Nat.zero_mul, Nat.add_zero, ← hV.out]
          show Val wr zb zo (m + k) + wd wr zb (zo + (m + k)) * _ = _
          rw [ez, Nat.zero_mul, Nat.add_zero]
        case measure => simp [intOf]; omega
      · have cd : (((wd w yb (yo + k) : Nat) : Int) != 0) = true := by simp; omega
        have hwr : Wr wr zb (zo + k) m := (hz.chg hC').wr k m (by omega)
        have a1 := addMulVVWW_d zb (zo + k) (zc - k) zb (zo + k) (zc - k) xb xo xc m (wd w yb (yo + k)) 0 wr (by omega) hyk.lt (by decide) hwr hwr.isW (fun i hi => hC'.isW _ _ (hx.isW i (by have := hx.le; omega))) (by omega) (by omega)
        have A1 := Lib.hid a1
        clear a1
        have k1 : ¬ zc = k := by omega
        have k2 : (k : Int) ≤ (m : Int) + k := by omega
        have k3 : (m : Int) + k ≤ zc := by omega
        have k4 : (m : Int) + k < zl := by omega
        have HW := Lib.hid (hC'.isW _ _ hwmk)
        have HP := Lib.hid (hC'.plain _ hz.plain)
        have k5 : ((m : Int) + k).toNat = m + k := by omega
        have k6 : (k : Int) ≤ (k : Int) + m := by omega
        have k7 : (k : Int) + m ≤ zc := by omega
        have k8 : ((k : Int) + m - k).toNat = m := by omega
        have k9 : ((m : Int) + k - k).toNat = m := by omega
        have k10 : ((k : Int) + m).toNat = k + m := by omega
        have e1 : IntKind.i64.wrap ((m : Int) + k) = (m : Int) + k := IntWalk.i64_in _ (by omega)
        have e2 : IntKind.i64.wrap ((k : Int) + m) = (k : Int) + m := IntWalk.i64_in _ (by omega)
        clear hC'
        go_wp2_with fail
        go_region_with (go_at_call 229; refine (A1.out _).mono ?_; rintro e w2 ⟨c, rfl, hc, hv, hc2⟩; have cz := (hc2.isW _ _ HW.out).cell; have fz := (hc2.plain _ HP.out).free (zo + (m + k)))
        clear e1 e2
        go_wp2_with fail
        go_roundw
        case rel =>
          have hwm2 : IsW w2 zb (zo + (m + k)) := hc2.isW _ _ HW.out
          refine ⟨k + 1, by omega, by go_num, Lib.hid ?_, Lib.hid (fun j h1 h2 => ?_), Lib.hid ?_⟩
          · rw [show m + (k + 1) = m + k + 1 from rfl, Val_set hwm2]
            have e0 : Val w2 zb zo (m + k) = Val wr zb zo k + WB ^ k * Val w2 zb (zo + k) m := by
              rw [Nat.add_comm m k, Val_split, show Val w2 zb zo k = Val wr zb zo k from Val_congr fun i hi => wd_congr (hc2.cell _ _ HW.out.block (by unfold Rng; omega))]
            rw [e0, Val_succ w]
            have h1 := hV.out
            rw [Nat.add_comm m k, Val_split] at h1
            have ex : Val wr xb xo m = Val w xb xo m := Val_congr fun i hi => wd_congr (hC.out.cell _ _ hx.lt (by unfold Rng; omega))
            have h2 := hv.out
            rw [ex] at h2
            exact alg_bm h1 h2 (by rw [← Nat.pow_add, Nat.add_comm])
          · rw [wd_setCell_ne (w := w2) (.inr (by omega)), ← hZ.out j (by omega) h2]
            exact wd_congr (hc2.cell _ _ HW.out.block (by unfold Rng; omega))
          · exact Chg.setW (hC.out.then hc2 (fun x p _ h => ⟨h.1, by have := h.2.1; omega, by have := h.2.2; omega⟩)) hwm2 hc (fun _ => ⟨rfl, by omega, by omega⟩)
        case measure => simp [intOf]; omega
    · have hkn : k = n := by omega
      subst hkn
      go_wp2_with fail
      go_end0
      refine ⟨rfl, ?_, ?_⟩
      · exact hV.out
      · exact hC.out
theorem pow_mono {X k m : Nat} (hk : k ≤ m) (h : X < WB ^ k) : X < WB ^ m := Nat.lt_of_lt_of_le h (Nat.pow_le_pow_right WB_pos hk)
theorem small_of {X k : Nat} (hk : k ≤ 1000) (h : X < WB ^ k) : Small X := by
  unfold Small
  exact pow_mono (m := 1000) hk h
theorem Glob.drewN {w : World} (h : Glob w) (k : Nat) : Glob (w.drewN k) := ⟨h.size, h.cell⟩
theorem Ow.drewN {w : World} {z : Value} (h : Ow w z) (k : Nat) : Ow (w.drewN k) z := h.chg ((Chg.refl No w).drewN k)
theorem Res.ofDrewN {w w' : World} {z r : Value} {R k : Nat} (h : Res (w.drewN k) w' z r R) : Res w w' z r R := ⟨h.nt, h.fp, h.chg.ofDrewN⟩
theorem Res.sub {w w' : World} {z z' r : Value} {R : Nat} (h : Res w w' z' r R) (hs : ∀ b o, Fp z' b o → Fp z b o) : Res w w' z r R := ⟨h.nt, fun b o f => (h.fp b o f).imp (hs b o) id, h.chg.mono fun b o _ f => hs b o f⟩
theorem AlB.ab {z : Value} {xb xo n c : Nat} {w : World} (h : AlB z (.slice (some ⟨xb, xo, none⟩) n c)) (hx : NW w xb xo n c) (hn : 0 < n) (ha : Apart z (.slice (some ⟨xb, xo, none⟩) n c)) : Ab z (.slice (some ⟨xb, xo, none⟩) n c) := by
  rcases h with ⟨b, o, n', m', c', h1, h2⟩ | h
  · cases h1; cases h2
    have := hx.le
    exact absurd (show Fp (.slice (some ⟨xb, xo, none⟩) n c) xb xo from ⟨rfl, Nat.le_refl _, by simp; omega⟩) (ha xb xo ⟨rfl, Nat.le_refl _, by simp; omega⟩)
  · exact h
theorem Ab.nil (x : Value) : Ab (.slice none 0 0) x := fun _ _ _ _ f => f.elim
/-- A result 0 in the receiver's place. -/
theorem res_cut0 {w : World} {z : Value} (hz : Ow w z) : Res w w z (cut0 z) 0 := ⟨Nt.cut0 hz, fun _ _ f => .inl f.cut0, Chg.refl _ _⟩
theorem Ab.from {w w' : World} {z : Value} {b o c xb xo xn xc : Nat} (h : Ab z (.slice (some ⟨xb, xo, none⟩) xn xc)) (hf : From w w' z b o c) (hx : NW w xb xo xn xc) (h0 : 0 < xn) (h1 : 0 < c) : xb ≠ b := by
  have := hx.le
  rcases hf with ⟨_, m, rfl⟩ | rfl
  · exact fun e => h b o xb xo ⟨rfl, Nat.le_refl _, by simp; omega⟩ ⟨rfl, Nat.le_refl _, by simp; omega⟩ e.symm
  · exact Nat.ne_of_lt hx.lt
theorem NtAt.drewN {w : World} {b o n c X : Nat} (h : NtAt w b o n c X) (k : Nat) : NtAt (w.drewN k) b o n c X := ⟨h.1.drewN k, h.2.1, h.2.2⟩
theorem Nt.drewN {w : World} {x : Value} {X : Nat} (h : Nt w x X) (k : Nat) : Nt (w.drewN k) x X := h.chg ((Chg.refl No w).drewN k) fun _ _ _ f => f
theorem mul_tail0 (z : Value) (xb xo m xc yb yo n yc X Y : Nat) (w : World) (hz : Ow w z) (hx : NtAt w xb xo m xc X) (hy : NtAt w yb yo n yc Y) (hn0 : 0 < n) (hnm : n ≤ m) (hm : m ≤ 1000) (ax : Ab z (.slice (some ⟨xb, xo, none⟩) m xc)) (ay : Ab z (.slice (some ⟨yb, yo, none⟩) n yc)) (hg : Glob w) :
    Calls Tryz.prog 158 #[z, .int .i64 ((m : Int) + n)] w fun e w1 => ∃ b o c : Nat, e = .returned (.slice (some ⟨b, o, none⟩) (m + n) c) ∧ w1.cell? ⟨3, 0, none⟩ = some (.int .i64 40) ∧
      Calls Tryz.prog 165 #[.slice (some ⟨b, o, none⟩) (m + n) c, .slice (some ⟨xb, xo, none⟩) m xc, .slice (some ⟨yb, yo, none⟩) n yc] w1 fun e w2 => e = .returned (.tuple #[]) ∧
        Calls Tryz.prog 147 #[.slice (some ⟨b, o, none⟩) (m + n) c] w2 fun e w3 => ∃ r, e = .returned r ∧ Res w w3 z r (X * Y) := by
  have h := nat_make z (m + n) w hz (by omega) (by omega) hg.size
  rw [show ((m + n : Nat) : Int) = (m : Int) + n by omega] at h
  refine h.mono ?_
  rintro e w1 ⟨b, o, c, rfl, hN, hc, hfrom⟩
  refine ⟨b, o, c, rfl, (hg.no hc).cell 3 0 _ rfl, ?_⟩
  have hle := hN.le
  refine (basicMul b o (m + n) c xb xo m xc yb yo n yc w1 hN (by omega) (hx.1.chg hc) (hy.1.chg hc) (by omega) (by omega) (by omega) (ax.from hfrom hx.1 (by omega) (by omega)) (ay.from hfrom hy.1 (by omega) (by omega))).mono ?_
  rintro e w2 ⟨rfl, hv, hc2⟩
  refine ⟨rfl, ?_⟩
  refine (nat_norm b o (m + n) c w2 (hN.chg hc2) (by omega)).mono ?_
  rintro e w3 ⟨k, rfl, hr, hk, rfl⟩
  refine ⟨_, rfl, hfrom.res hc (hc2.mono fun x p _ h => ⟨h.1, h.2.1, by have := h.2.2; omega⟩) ?_ fun x p h => h⟩
  have e1 : Val w1 xb xo m = X := by rw [← hx.2.1]; exact Val_congr fun i hi => wd_congr (hc.cell _ _ hx.1.lt (fun f => f))
  have e2 : Val w1 yb yo n = Y := by rw [← hy.2.1]; exact Val_congr fun i hi => wd_congr (hc.cell _ _ hy.1.lt (fun f => f))
  rw [hv, e1, e2] at hr
  exact hr.nt
theorem mul_tail (z : Value) (xb xo m xc yb yo n yc X Y : Nat) (w : World) (hz : Ow w z) (hx : NtAt w xb xo m xc X) (hy : NtAt w yb yo n yc Y) (hn0 : 0 < n) (hnm : n ≤ m) (hm : m ≤ 1000) (ax : Ab z (.slice (some ⟨xb, xo, none⟩) m xc)) (ay : Ab z (.slice (some ⟨yb, yo, none⟩) n yc)) (hg : Glob w) (k : Nat) :
    Calls Tryz.prog 158 #[z, .int .i64 ((m : Int) + n)] (w.drewN k) fun e w1 => ∃ b o c : Nat, e = .returned (.slice (some ⟨b, o, none⟩) (m + n) c) ∧ w1.cell? ⟨3, 0, none⟩ = some (.int .i64 40) ∧
      Hid (Calls Tryz.prog 165 #[.slice (some ⟨b, o, none⟩) (m + n) c, .slice (some ⟨xb, xo, none⟩) m xc, .slice (some ⟨yb, yo, none⟩) n yc] w1 fun e w2 => e = .returned (.tuple #[]) ∧
        Hid (Calls Tryz.prog 147 #[.slice (some ⟨b, o, none⟩) (m + n) c] w2 fun e w3 => ∃ r, e = .returned r ∧ Res w w3 z r (X * Y))) :=
  (mul_tail0 z xb xo m xc yb yo n yc X Y (w.drewN k) (hz.drewN k) (hx.drewN k) (hy.drewN k) hn0 hnm hm ax ay (hg.drewN k)).mono fun _ _ ⟨b, o, c, h1, h2, h3⟩ =>
    ⟨b, o, c, h1, h2, Lib.hid (h3.mono fun _ _ ⟨g1, g2⟩ => ⟨g1, Lib.hid (g2.mono fun _ _ ⟨r, f1, f2⟩ => ⟨r, f1, f2.ofDrewN⟩)⟩)⟩
set_option maxRecDepth 100000 in
set_option maxHeartbeats 1000000 in
theorem nat_mul_ge (z s : Value) (xb xo m xc yb yo n yc X Y : Nat) (w : World) (hz : Ow w z) (hx : NtAt w xb xo m xc X) (hy : NtAt w yb yo n yc Y) (hn0 : 1 < n) (hnm : n ≤ m) (hn : n < 40) (hm : m ≤ 1000) (ax : AlB z (.slice (some ⟨xb, xo, none⟩) m xc)) (ay : AlB z (.slice (some ⟨yb, yo, none⟩) n yc)) (hg : Glob w) :
    Calls Tryz.prog 99 #[z, s, .slice (some ⟨xb, xo, none⟩) m xc, .slice (some ⟨yb, yo, none⟩) n yc] w fun e w' => ∃ r, e = .returned r ∧ Res w w' z r (X * Y) := by
  have c1 : ¬ (m : Int) < n := by omega
  have c2 : ((m : Int) == 0) = false := by simp; omega
  have c3 : ((n : Int) == 0) = false := by simp; omega
  have c4 : ((n : Int) == 1) = false := by simp; omega
  have c5 : (n : Int) < 40 := by omega
  have A1 := Lib.hid (alias z (.slice (some ⟨xb, xo, none⟩) m xc) w hz hx.nt.ow ax.al)
  have A2 := Lib.hid fun k => alias z (.slice (some ⟨yb, yo, none⟩) n yc) (w.drewN k) (hz.drewN k) (hy.nt.ow.drewN k) ay.al
  have T0 := Lib.hid (mul_tail (.slice none 0 0) xb xo m xc yb yo n yc X Y w (.inl rfl) hx hy (by omega) hnm hm (Ab.nil _) (Ab.nil _) hg)
  have T1 := Lib.hid fun h1 h2 => mul_tail z xb xo m xc yb yo n yc X Y w hz hx hy (by omega) hnm hm (ax.ab hx.1 (by omega) h1) (ay.ab hy.1 (by omega) h2) hg
  clear hx hy ax ay hg
  go_enter Tryz.func99, Tryz.ntmps99
  go_wp2_with fail
  refine A1.out.mono ?_
  rintro e w1 ⟨t1, m1, rfl, h1, rfl⟩
  cases t1
  · go_wp2_with fail
    refine (A2.out _).mono ?_
    rintro e w2 ⟨t2, m2, rfl, h2, rfl⟩
    cases t2
    · have T := Lib.hid (T1.out (h1 rfl) (h2 rfl))
      go_wp2_with fail
      refine (T.out _).mono ?_
      rintro e w3 ⟨b, o, c, rfl, g3, h3⟩
      go_wp2_with fail
      refine h3.out.mono ?_
      rintro e w4 ⟨rfl, h4⟩
      go_wp2_with fail
      refine h4.out.mono ?_
      rintro e w5 ⟨r, rfl, hr⟩
      go_wp2_with fail
      go_ret
      exact ⟨r, rfl, hr⟩
    · go_wp2_with fail
      refine (T0.out _).mono ?_
      rintro e w3 ⟨b, o, c, rfl, g3, h3⟩
      go_wp2_with fail
      refine h3.out.mono ?_
      rintro e w4 ⟨rfl, h4⟩
      go_wp2_with fail
      refine h4.out.mono ?_
      rintro e w5 ⟨r, rfl, hr⟩
      go_wp2_with fail
      go_ret
      exact ⟨r, rfl, hr.sub fun _ _ f => f.elim⟩
  · go_wp2_with fail
    refine (T0.out _).mono ?_
    rintro e w3 ⟨b, o, c, rfl, g3, h3⟩
    go_wp2_with fail
    refine h3.out.mono ?_
    rintro e w4 ⟨rfl, h4⟩
    go_wp2_with fail
    refine h4.out.mono ?_
    rintro e w5 ⟨r, rfl, hr⟩
    go_wp2_with fail
    go_ret
    exact ⟨r, rfl, hr.sub fun _ _ f => f.elim⟩
set_option maxRecDepth 100000 in
set_option maxHeartbeats 1000000 in
theorem nat_mul_ge' (z s x y : Value) (X Y : Nat) (w : World) (hz : Ow w z) (hx : Nt w x X) (hy : Nt w y Y) (hX : Small X) (hY : Y < WB ^ 39) (xa ya : Option Addr) (m xc n yc : Nat) (ex : x = .slice xa m xc) (ey : y = .slice ya n yc) (hnm : n ≤ m) (ax : AlB z x) (ay : AlB z y) (hg : Glob w) :
    Calls Tryz.prog 99 #[z, s, x, y] w fun e w' => ∃ r, e = .returned r ∧ Res w w' z r (X * Y) := by
  have hYS : Small Y := small_of (by decide) hY
  obtain ⟨xa', m', xc', ex', hm, hx0, -⟩ := hx.cases hX
  obtain ⟨ya', n', yc', ey', -, hy0, -⟩ := hy.cases hYS
  rw [ex] at ex'; rw [ey] at ey'
  cases ex'; cases ey'
  subst ex ey
  have c1 : ¬ (m : Int) < n := by omega
  by_cases hn0 : n = 0
  · subst hn0
    have hr := res_cut0 hz
    rw [show (0 : Nat) = X * Y by rw [hy0 rfl, Nat.mul_zero]] at hr
    have Hr := Lib.hid hr
    clear hr hx hy ax ay hg hX hY hYS hx0 hy0
    rcases hz with rfl | ⟨b, o, n', c, rfl, hN⟩
    · go_enter Tryz.func99, Tryz.ntmps99
      go_wp2_with fail
      all_goals go_ret
      all_goals exact ⟨_, rfl, Hr.out⟩
    · go_enter Tryz.func99, Tryz.ntmps99
      go_wp2_with fail
      all_goals go_ret
      all_goals exact ⟨_, rfl, Hr.out⟩
  · obtain ⟨yb, yo, rfl, hyA⟩ := hy.at (by omega)
    obtain ⟨xb, xo, rfl, hxA⟩ := hx.at (by omega)
    have hn39 : n ≤ 39 := len_le hyA.2.2 (by rw [hyA.2.1]; exact hY)
    by_cases hn1 : n = 1
    · subst hn1
      have c2 : ((m : Int) == 0) = false := by simp; omega
      have hw0 := hyA.1.isW 0 (by have := hyA.1.le; omega)
      have cy : w.cell? ⟨yb, yo, none⟩ = some (.int .u64 (wd w yb yo : Nat)) := hw0.cell
      have eY : wd w yb yo = Y := by rw [← hyA.2.1, Val_one]
      rw [eY] at cy
      have hYW : Y < WB := by rw [← eY]; exact hw0.lt
      have A1 := Lib.hid (nat_mulAddWW z (.slice (some ⟨xb, xo, none⟩) m xc) X Y 0 w hz hx hX hYW (by decide) ax hg.size)
      clear hx hy ax ay hg hX hY hYS hx0 hy0 hxA hyA hz hw0 eY hYW
      go_enter Tryz.func99, Tryz.ntmps99
      go_wp2_with fail
      refine A1.out.mono ?_
      rintro e w1 ⟨r, rfl, hr⟩
      go_wp2_with fail
      go_ret
      exact ⟨r, rfl, hr⟩
    · exact nat_mul_ge z s xb xo m xc yb yo n yc X Y w hz hxA hyA (by omega) hnm (by omega) hm ax ay hg
set_option maxHeartbeats 1000000 in
theorem nat_mul (z s x y : Value) (X Y : Nat) (w : World) (hz : Ow w z) (hx : Nt w x X) (hy : Nt w y Y) (hX : X < WB ^ 39) (hY : Y < WB ^ 39) (ax : AlB z x) (ay : AlB z y) (hg : Glob w) :
    Calls Tryz.prog 99 #[z, s, x, y] w fun e w' => ∃ r, e = .returned r ∧ Res w w' z r (X * Y) := by
  have hXS : Small X := small_of (by decide) hX
  have hYS : Small Y := small_of (by decide) hY
  obtain ⟨xa, m, xc, ex, hm, -⟩ := hx.cases hXS
  obtain ⟨ya, n, yc, ey, hn, -⟩ := hy.cases hYS
  by_cases hnm : n ≤ m
  · exact nat_mul_ge' z s x y X Y w hz hx hy hXS hY xa ya m xc n yc ex ey hnm ax ay hg
  · have h := nat_mul_ge' z s y x Y X w hz hy hx hYS hX ya xa n yc m xc ey ex (by omega) ay ax hg
    rw [Nat.mul_comm] at h
    have H := Lib.hid h
    have c1 : (m : Int) < n := by omega
    clear h hz hx hy hX hY ax ay hg hXS hYS
    subst ex ey
    go_enter Tryz.func99, Tryz.ntmps99
    go_wp2_with fail
    refine H.out.mono ?_
    rintro e w1 ⟨r, rfl, hr⟩
    go_wp2_with fail
    go_ret
    exact ⟨r, rfl, hr⟩
theorem Val_two (w : World) (b o : Nat) : Val w b o 2 = wd w b o + wd w b (o + 1) * WB := by
  rw [Val_succ, Val_one, Nat.pow_one]
theorem sqr_tail0 (z : Value) (xb xo m xc X : Nat) (w : World) (hz : Ow w z) (hx : NtAt w xb xo m xc X) (hn0 : 0 < m) (hm : m ≤ 1000) (ax : Ab z (.slice (some ⟨xb, xo, none⟩) m xc)) (hg : Glob w) :
    Calls Tryz.prog 158 #[z, .int .i64 (2 * (m : Int))] w fun e w1 => ∃ b o c : Nat, e = .returned (.slice (some ⟨b, o, none⟩) (m + m) c) ∧ (w1.cell? ⟨4, 0, none⟩ = some (.int .i64 12) ∧ w1.cell? ⟨5, 0, none⟩ = some (.int .i64 80)) ∧
      Calls Tryz.prog 165 #[.slice (some ⟨b, o, none⟩) (m + m) c, .slice (some ⟨xb, xo, none⟩) m xc, .slice (some ⟨xb, xo, none⟩) m xc] w1 fun e w2 => e = .returned (.tuple #[]) ∧
        Calls Tryz.prog 147 #[.slice (some ⟨b, o, none⟩) (m + m) c] w2 fun e w3 => ∃ r, e = .returned r ∧ Res w w3 z r (X * X) := by
  have h := nat_make z (m + m) w hz (by omega) (by omega) hg.size
  rw [show ((m + m : Nat) : Int) = 2 * (m : Int) by omega] at h
  refine h.mono ?_
  rintro e w1 ⟨b, o, c, rfl, hN, hc, hfrom⟩
  refine ⟨b, o, c, rfl, ⟨(hg.no hc).cell 4 0 _ rfl, (hg.no hc).cell 5 0 _ rfl⟩, ?_⟩
  have hle := hN.le
  have hx1 := ax.from hfrom hx.1 (by omega) (by omega)
  refine (basicMul b o (m + m) c xb xo m xc xb xo m xc w1 hN (by omega) (hx.1.chg hc) (hx.1.chg hc) (by omega) (by omega) (by omega) hx1 hx1).mono ?_
  rintro e w2 ⟨rfl, hv, hc2⟩
  refine ⟨rfl, ?_⟩
  refine (nat_norm b o (m + m) c w2 (hN.chg hc2) (by omega)).mono ?_
  rintro e w3 ⟨k, rfl, hr, hk, rfl⟩
  refine ⟨_, rfl, hfrom.res hc (hc2.mono fun x p _ h => ⟨h.1, h.2.1, by have := h.2.2; omega⟩) ?_ fun x p h => h⟩
  have e1 : Val w1 xb xo m = X := by rw [← hx.2.1]; exact Val_congr fun i hi => wd_congr (hc.cell _ _ hx.1.lt (fun f => f))
  rw [hv, e1] at hr
  exact hr.nt
theorem sqr_tail (z : Value) (xb xo m xc X : Nat) (w : World) (hz : Ow w z) (hx : NtAt w xb xo m xc X) (hn0 : 0 < m) (hm : m ≤ 1000) (ax : Ab z (.slice (some ⟨xb, xo, none⟩) m xc)) (hg : Glob w) (k : Nat) :
    Calls Tryz.prog 158 #[z, .int .i64 (2 * (m : Int))] (w.drewN k) fun e w1 => ∃ b o c : Nat, e = .returned (.slice (some ⟨b, o, none⟩) (m + m) c) ∧ (w1.cell? ⟨4, 0, none⟩ = some (.int .i64 12) ∧ w1.cell? ⟨5, 0, none⟩ = some (.int .i64 80)) ∧
      Hid (Calls Tryz.prog 165 #[.slice (some ⟨b, o, none⟩) (m + m) c, .slice (some ⟨xb, xo, none⟩) m xc, .slice (some ⟨xb, xo, none⟩) m xc] w1 fun e w2 => e = .returned (.tuple #[]) ∧
        Hid (Calls Tryz.prog 147 #[.slice (some ⟨b, o, none⟩) (m + m) c] w2 fun e w3 => ∃ r, e = .returned r ∧ Res w w3 z r (X * X))) :=
  (sqr_tail0 z xb xo m xc X (w.drewN k) (hz.drewN k) (hx.drewN k) hn0 hm ax (hg.drewN k)).mono fun _ _ ⟨b, o, c, h1, h2, h3⟩ =>
    ⟨b, o, c, h1, h2, Lib.hid (h3.mono fun _ _ ⟨g1, g2⟩ => ⟨g1, Lib.hid (g2.mono fun _ _ ⟨r, f1, f2⟩ => ⟨r, f1, f2.ofDrewN⟩)⟩)⟩
set_option maxRecDepth 100000 in
set_option maxHeartbeats 1000000 in
theorem nat_sqr (z s x : Value) (X : Nat) (w : World) (hz : Ow w z) (hx : Nt w x X) (hX : X < WB ^ 11) (ax : AlB z x) (hg : Glob w) :
    Calls Tryz.prog 164 #[z, s, x] w fun e w' => ∃ r, e = .returned r ∧ Res w w' z r (X * X) := by
  obtain ⟨xa, m, xc, rfl, hm, hx0, -⟩ := hx.cases (small_of (by decide) hX)
  by_cases hn0 : m = 0
  · subst hn0
    have hr := res_cut0 hz
    rw [show (0 : Nat) = X * X by rw [hx0 rfl, Nat.mul_zero]] at hr
    have Hr := Lib.hid hr
    clear hr hx ax hg hX hx0
    rcases hz with rfl | ⟨b, o, n', c, rfl, hN⟩
    · go_enter Tryz.func164, Tryz.ntmps164
      go_wp2_with fail
      all_goals go_ret
      all_goals exact ⟨_, rfl, Hr.out⟩
    · go_enter Tryz.func164, Tryz.ntmps164
      go_wp2_with fail
      all_goals go_ret
      all_goals exact ⟨_, rfl, Hr.out⟩
  · obtain ⟨xb, xo, rfl, hxA⟩ := hx.at (by omega)
    have hn11 : m ≤ 11 := len_le hxA.2.2 (by rw [hxA.2.1]; exact hX)
    by_cases hn1 : m = 1
    · subst hn1
      have hw0 := hxA.1.isW 0 (by have := hxA.1.le; omega)
      have cx : w.cell? ⟨xb, xo, none⟩ = some (.int .u64 (wd w xb xo : Nat)) := hw0.cell
      have eX : wd w xb xo = X := by rw [← hxA.2.1, Val_one]
      rw [eX] at cx
      have hXW : X < WB := by rw [← eX]; exact hw0.lt
      have Hmk := Lib.hid (nat_make z 2 w hz (by omega) (by omega) hg.size)
      have HX := Lib.hid hXW
      clear hx ax hX hx0 hxA hz hw0 eX hXW
      go_enter Tryz.func164, Tryz.ntmps164
      go_wp2_with fail
      refine Hmk.out.mono ?_
      rintro e w1 ⟨b, o, c, rfl, hN, hc, hfrom⟩
      have Hfrom := Lib.hid hfrom
      have hle := hN.le
      have w0 := hN.isW 0 (by omega)
      have w1' := hN.isW 1 (by omega)
      have c0 : w1.cell? ⟨b, o, none⟩ = some (.int .u64 (wd w1 b o : Nat)) := w0.cell
      have c1 := w1'.cell
      have f0 : w1.frozen? ⟨b, o, none⟩ = false := hN.plain.free o
      have f1 := hN.plain.free (o + 1)
      clear hfrom
      go_wp2_with fail
      refine (mulWW X X HX.out HX.out _).mono ?_
      rintro e w2 ⟨rfl, rfl⟩
      go_wp2_with fail
      have hlo := mulLo_lt X X
      have hhi : mulHi X X < WB := by have := mulHi_lt HX.out HX.out; omega
      have h4 : Chg (Rng b o c) w1 ((w1.drewN 0).setCell ⟨b, o + 1, none⟩ (.int .u64 (mulHi X X : Nat))) := Chg.setW (S := Rng b o c) ((Chg.refl _ w1).drewN 0) (w := w1.drewN 0) w1' hhi (fun _ => ⟨rfl, by omega, by omega⟩)
      have h5 := Chg.setW h4 (h4.isW _ _ w0) hlo (fun _ => ⟨rfl, by omega, by omega⟩)
      refine (nat_norm b o 2 c _ (hN.chg h5) (by omega)).mono ?_
      rintro e w3 ⟨k, rfl, hr, hk, rfl⟩
      go_wp2_with fail
      go_ret
      refine ⟨_, rfl, Hfrom.out.res hc h5 ?_ fun x p h => h⟩
      have v0 : wd (((w1.drewN 0).setCell ⟨b, o + 1, none⟩ (.int .u64 (mulHi X X : Nat))).setCell ⟨b, o + 0, none⟩ (.int .u64 (mulLo X X : Nat))) b o = mulLo X X := wd_setCell_same (h4.isW _ _ w0).cell
      have v1 : wd (((w1.drewN 0).setCell ⟨b, o + 1, none⟩ (.int .u64 (mulHi X X : Nat))).setCell ⟨b, o + 0, none⟩ (.int .u64 (mulLo X X : Nat))) b (o + 1) = mulHi X X := (wd_setCell_ne (.inr (by omega))).trans (wd_setCell_same (w := w1.drewN 0) c1)
      rw [Val_two, v0, v1, Nat.mul_comm _ WB, mul_eq] at hr
      exact hr.nt
    · have c2 : ((m : Int) == 0) = false := by simp; omega
      have c3 : ((m : Int) == 1) = false := by simp; omega
      have c5 : (m : Int) < 12 := by omega
      have c6 : (m : Int) < 80 := by omega
      have A1 := Lib.hid (alias z (.slice (some ⟨xb, xo, none⟩) m xc) w hz hx.ow ax.al)
      have T0 := Lib.hid (sqr_tail (.slice none 0 0) xb xo m xc X w (.inl rfl) hxA (by omega) hm (Ab.nil _) hg)
      have T1 := Lib.hid fun h1 => sqr_tail z xb xo m xc X w hz hxA (by omega) hm (ax.ab hxA.1 (by omega) h1) hg
      clear hx ax hX hx0 hxA hz hg
      go_enter Tryz.func164, Tryz.ntmps164
      go_wp2_with fail
      refine A1.out.mono ?_
      rintro e w1 ⟨t1, m1, rfl, h1, rfl⟩
      cases t1
      · have T := Lib.hid (T1.out (h1 rfl))
        go_wp2_with fail
        refine (T.out _).mono ?_
        rintro e w3 ⟨b, o, c, rfl, ⟨g3, g4⟩, h3⟩
        go_wp2_with fail
        refine h3.out.mono ?_
        rintro e w4 ⟨rfl, h4⟩
        go_wp2_with fail
        refine h4.out.mono ?_
        rintro e w5 ⟨r, rfl, hr⟩
        go_wp2_with fail
        go_ret
        exact ⟨r, rfl, hr⟩
      · go_wp2_with fail
        refine (T0.out _).mono ?_
        rintro e w3 ⟨b, o, c, rfl, ⟨g3, g4⟩, h3⟩
        go_wp2_with fail
        refine h3.out.mono ?_
        rintro e w4 ⟨rfl, h4⟩
        go_wp2_with fail
        refine h4.out.mono ?_
        rintro e w5 ⟨r, rfl, hr⟩
        go_wp2_with fail
        go_ret
        exact ⟨r, rfl, hr.sub fun _ _ f => f.elim⟩
theorem divmod_of {q y r X : Nat} (h : q * y + r = X) (hr : r < y) : q = X / y ∧ r = X % y := by
  subst h
  have hy : 0 < y := by omega
  constructor
  · rw [Nat.add_comm, Nat.add_mul_div_right _ _ hy, Nat.div_eq_of_lt hr, Nat.zero_add]
  · rw [Nat.add_comm, Nat.add_mul_mod_self_right, Nat.mod_eq_of_lt hr]
set_option maxRecDepth 100000 in
set_option maxHeartbeats 1000000 in
theorem nat_divW (z x : Value) (X y : Nat) (w : World) (hz : Ow w z) (hx : Nt w x X) (hX : Small X) (hy0 : 0 < y) (hy : y < WB) (ax : AlB z x) (hs : 17 ≤ w.heap.size) :
    Calls Tryz.prog 179 #[z, x, .int .u64 y] w fun e w' => ∃ q, e = .returned (.tuple #[q, .int .u64 (X % y : Nat)]) ∧ Res w w' z q (X / y) := by
  obtain ⟨xa, m, xc, rfl, hm, hx0, -⟩ := hx.cases hX
  have c1 : ((y : Int) == 0) = false := by simp; omega
  by_cases hy1 : y = 1
  · subst hy1
    have A1 := Lib.hid (nat_set z (.slice xa m xc) X w hz hx hX hs)
    clear hx ax hX hx0 hz hy
    go_enter Tryz.func179, Tryz.ntmps179
    go_wp2_with fail
    refine A1.out.mono ?_
    rintro e w1 ⟨r, rfl, hr⟩
    go_wp2_with fail
    go_ret2
    exact ⟨r, by rw [Nat.mod_one]; rfl, by rw [Nat.div_one]; exact hr⟩
  · have c2 : ((y : Int) == 1) = false := by simp; omega
    by_cases hm0 : m = 0
    · subst hm0
      have hr := res_cut0 hz
      have eX := hx0 rfl
      subst eX
      have Hr := Lib.hid hr
      have Hy := Lib.hid hy
      clear hr hx ax hX hx0 hy
      rcases hz with rfl | ⟨b, o, n', c, rfl, hN⟩
      · go_enter Tryz.func179, Tryz.ntmps179
        go_wp2_with fail
        all_goals go_ret2
        all_goals exact ⟨_, by rw [Nat.zero_mod]; rfl, by rw [Nat.zero_div]; exact Hr.out⟩
      · go_enter Tryz.func179, Tryz.ntmps179
        go_wp2_with fail
        all_goals go_ret2
        all_goals exact ⟨_, by rw [Nat.zero_mod]; rfl, by rw [Nat.zero_div]; exact Hr.out⟩
    · have c3 : ((m : Int) == 0) = false := by simp; omega
      obtain ⟨xb, xo, rfl, hxA⟩ := hx.at (by omega)
      have Hmk := Lib.hid (nat_make z m w hz (by omega) (by omega) hs)
      have HX := Lib.hid hxA
      have Hax := Lib.hid ax
      have Hy := Lib.hid hy
      clear hx ax hX hx0 hxA hz hy
      go_enter Tryz.func179, Tryz.ntmps179
      go_wp2_with fail
      refine Hmk.out.mono ?_
      rintro e w1 ⟨b, o, c, rfl, hN, hc, hfrom⟩
      have hle := hN.le
      have hxN := HX.out.1
      have hxle := hxN.le
      have alx := Hax.out.from hfrom hxN (by omega) (by omega)
      have a1 := divWVW b o c xb xo xc m 0 y w1 (by omega) (by omega) Hy.out hy0 (by have := hN.wr 0 m (by omega); rwa [Nat.add_zero] at this) (fun i hi => hc.isW _ _ (hxN.isW i (by omega))) (by omega)
      have A1 := Lib.hid a1
      have Hfrom := Lib.hid hfrom
      clear a1 hfrom alx
      go_wp2_with fail
      refine A1.out.mono ?_
      rintro e w2 ⟨r, rfl, hr, hv, hc2⟩
      have Hv := Lib.hid hv
      clear hv
      go_wp2_with fail
      refine (nat_norm b o m c w2 (hN.chg hc2) (by omega)).mono ?_
      rintro e w3 ⟨k, rfl, hn, hk, rfl⟩
      go_wp2_with fail
      go_ret2
      have e1 : Val w1 xb xo m = X := by rw [← HX.out.2.1]; exact Val_congr fun i hi => wd_congr (hc.cell _ _ HX.out.1.lt (fun f => f))
      have h := Hv.out
      rw [Nat.zero_mul, Nat.add_zero, e1] at h
      obtain ⟨h1, h2⟩ := divmod_of h hr
      rw [h1] at hn
      exact ⟨_, by rw [← h2]; rfl, Hfrom.out.res hc (hc2.mono fun x p _ h => ⟨h.1, h.2.1, by have := h.2.2; omega⟩) hn.nt fun x p h => h⟩
theorem WB_pow (q : Nat) : WB ^ q = 2 ^ (64 * q) := by rw [show WB = 2 ^ 64 by decide, ← Nat.pow_mul]
theorem lsh_fin {w : World} {b o q m t s X : Nat} (hz : ∀ i, i < q → wd w b (o + i) = 0) (h : Val w b (o + q) (m + 1) = X * 2 ^ t) (hs : 64 * q + t = s) : Val w b o (m + q + 1) = X * 2 ^ s := by
  rw [show m + q + 1 = q + (m + 1) by omega, Val_split, Val_zero q hz, h, Nat.zero_add, WB_pow, ← hs, Nat.pow_add]
  grind
set_option maxRecDepth 100000 in
set_option maxHeartbeats 1000000 in
theorem nat_lsh_pos (z : Value) (xb xo m xc X s : Nat) (w : World) (hz : Ow w z) (hx : NtAt w xb xo m xc X) (hm : 0 < m) (hm2 : m ≤ 1000) (hs0 : 0 < s) (hs1 : s < 1000000) (ax : AlB z (.slice (some ⟨xb, xo, none⟩) m xc)) (hs : 17 ≤ w.heap.size) :
    Calls Tryz.prog 100 #[z, .slice (some ⟨xb, xo, none⟩) m xc, .int .u64 s] w fun e w' => ∃ r, e = .returned r ∧ Res w w' z r (X * 2 ^ s) := by
  have c1 : ((s : Int) == 0) = false := by simp; omega
  have c2 : ((m : Int) == 0) = false := by simp; omega
  have hle1 := hx.1.le
  obtain ⟨q, hq⟩ : ∃ q, q = s / 64 := ⟨_, rfl⟩
  obtain ⟨t, ht⟩ : ∃ t, t = s % 64 := ⟨_, rfl⟩
  have hq' : q < 20000 := by omega
  have hmk := nat_make z (m + q + 1) w hz (by omega) (by omega) hs
  rw [show ((m + q + 1 : Nat) : Int) = (m : Int) + q + 1 by omega] at hmk
  have e1 : (s : Int) / 64 = q := by omega
  have e2 : (s : Int) % 64 = t := by omega
  have Hmk := Lib.hid hmk
  have HX := Lib.hid hx
  have Hax := Lib.hid ax
  clear hx hmk hz ax hq ht
  go_enter Tryz.func100, Tryz.ntmps100
  go_wp2_with fail
  refine Hmk.out.mono ?_
  rintro e w1 ⟨b, o, c, rfl, hN, hc, hfrom⟩
  have hle := hN.le
  have hxN := HX.out.1
  have alx := Hax.out.from hfrom hxN (by omega) (by omega)
  have hst : 64 * q + t = s := by omega
  have ht64 : t < 64 := by omega
  have HT := Lib.hid (show ∀ i, i < m → wd w1 xb (xo + i) = wd w xb (xo + i) from fun i hi => wd_congr (hc.cell _ _ hxN.lt (fun f => f)))
  have Halx := Lib.hid alx
  have Hfrom := Lib.hid hfrom
  have hwn := hN.isW (m + q) (by omega)
  have k0 : (m : Int) + q < (m : Int) + q + 1 := by omega
  have k1 : (m : Int) + q - m = q := by omega
  have k2 : (q : Int) ≤ (m : Int) + q := by omega
  have k3 : (m : Int) + q ≤ c := by omega
  have k4 : ((m : Int) + q - q).toNat = m := by omega
  have k5 : ((m : Int) + q).toNat = m + q := by omega
  have k6 : ¬ c = q := by omega
  obtain ⟨ci, hi1, hi2, -, -⟩ := info_of info149
  have hfin : ∀ (w3 w4 : World), Chg (Rng b o c) w1 w3 → Chg (Rng b o q) w3 w4 → (∀ i, i < q → wd w4 b (o + i) = 0) → Val w3 b (o + q) (m + 1) = X * 2 ^ t → ∀ (r : Value) (w5 : World), (∃ k : Nat, r = .slice (some ⟨b, o, none⟩) k c ∧ NtAt w4 b o k c (Val w4 b o (m + q + 1)) ∧ k ≤ m + q + 1 ∧ w4 = w5) → Res w w5 z r (X * 2 ^ s) := by
    rintro w3 w4 h3 h4 hz hv r w5 ⟨k, rfl, hr, hk, rfl⟩
    have e : Val w4 b (o + q) (m + 1) = Val w3 b (o + q) (m + 1) := Val_congr fun i hi => wd_congr (h4.cell _ _ (h3.isW _ _ hwn).block (by unfold Rng; omega))
    rw [lsh_fin hz (e.trans hv) hst] at hr
    exact Hfrom.out.res hc (h3.then h4 fun x p _ h => ⟨h.1, h.2.1, by have := h.2.2; omega⟩) hr.nt fun x p h => h
  have Hfin := Lib.hid hfin
  clear hfin alx hfrom
  by_cases ht0 : t = 0
  · subst ht0
    have hzw : Wr w1 b (o + q) m := hN.wr q m (by omega)
    have hxw : ∀ i, i < m → IsW w1 xb (xo + i) := fun i hi => hc.isW _ _ (hxN.isW i (by omega))
    have H3 : ∀ w2, Chg (Rng b (o + q) m) w1 w2 → Chg (Rng b o c) w1 (w2.setCell ⟨b, o + (m + q), none⟩ (.int .u64 (0 : Nat))) := fun w2 hc2 => Chg.setW (hc2.mono fun x p _ h => ⟨h.1, by have := h.2.1; omega, by have := h.2.2; omega⟩) (hc2.isW _ _ hwn) WB_pos (fun _ => ⟨rfl, by omega, by omega⟩)
    have HW : ∀ w2, Chg (Rng b (o + q) m) w1 w2 → Wr (w2.setCell ⟨b, o + (m + q), none⟩ (.int .u64 (0 : Nat))) b o q := fun w2 hc2 => by have := (hN.chg (H3 w2 hc2)).wr 0 q (by omega); rwa [Nat.add_zero] at this
    have HN : ∀ w2 w4, Chg (Rng b (o + q) m) w1 w2 → Chg (Rng b o q) (w2.setCell ⟨b, o + (m + q), none⟩ (.int .u64 (0 : Nat))) w4 → NW w4 b o (m + q + 1) c := fun w2 w4 hc2 h4 => hN.chg ((H3 w2 hc2).then h4 (fun x p _ h => ⟨h.1, h.2.1, by have := h.2.2; omega⟩))
    have H3 := Lib.hid H3
    have HW := Lib.hid HW
    have HN := Lib.hid HN
    go_wp2_with (first
      | (refine wpList_copyW rfl (.tmp 46) (.tmp 47) 85 85 rfl 149 Tryz.underlying85 (by kernel_rfl) b (o + q) m (c - q) xb xo m xc rfl rfl m (by simp) hxw hzw ?_; intro w2 hc2 hv2; have fz := (hc2.plain _ hN.plain).free (o + (m + q)); have cz := (hc2.isW _ _ hwn).cell; have hcw := HW.out w2 hc2)
      | (refine wpList_clearW rfl (.tmp 68) 85 rfl 149 ci Tryz.underlying85 hi1 hi2 _ q c rfl (fun _ => ⟨b, o, rfl, hcw⟩) ?_; intro w4 hc4 hw4 hz4))
    refine (nat_norm b o (m + q + 1) c w4 (HN.out w2 w4 hc2 (hc4 b o rfl)) (by omega)).mono ?_
    rintro e w5 ⟨k, rfl, hr⟩
    go_wp2_with fail
    go_ret
    refine ⟨_, rfl, Hfin.out _ w4 (H3.out w2 hc2) (hc4 b o rfl) (hz4.out b o rfl) ?_ _ _ ⟨k, rfl, hr⟩⟩
    have hwn3 : IsW w2 b (o + q + m) := by rw [show o + q + m = o + (m + q) by omega]; exact hc2.isW _ _ hwn
    have h := Val_set (v := 0) hwn3
    rw [show o + q + m = o + (m + q) by omega] at h
    rw [h, Nat.zero_mul, Nat.add_zero, Nat.pow_zero, Nat.mul_one, ← HX.out.2.1]
    exact Val_congr2 fun i hi => (hv2.out i hi).trans (HT.out i hi)
  · have c3 : ((t : Int) == 0) = false := by simp; omega
    have a1 := lshVU b (o + q) (c - q) xb xo xc m t w1 (by omega) hm (by omega) ht64 (hN.wr q m (by omega)) (fun i hi => hc.isW _ _ (hxN.isW i (by omega))) (by have := Halx.out; omega)
    have A1 := Lib.hid a1
    clear a1
    go_wp2_with fail
    refine A1.out.mono ?_
    rintro e w2 ⟨cc, rfl, hcc, hv2, hc2⟩
    have h3 : Chg (Rng b o c) w1 (w2.setCell ⟨b, o + (m + q), none⟩ (.int .u64 cc)) := Chg.setW (hc2.mono fun x p _ h => ⟨h.1, by have := h.2.1; omega, by have := h.2.2; omega⟩) (hc2.isW _ _ hwn) hcc (fun _ => ⟨rfl, by omega, by omega⟩)
    have hcw : Wr (w2.setCell ⟨b, o + (m + q), none⟩ (.int .u64 cc)) b o q := by have := (hN.chg h3).wr 0 q (by omega); rwa [Nat.add_zero] at this
    have fz := (hc2.plain _ hN.plain).free (o + (m + q))
    have cz := (hc2.isW _ _ hwn).cell
    have H3 := Lib.hid h3
    have HV := Lib.hid hv2
    clear h3 hv2 hcc
    go_wp2_with (refine wpList_clearW rfl (.tmp 68) 85 rfl 149 ci Tryz.underlying85 hi1 hi2 _ q c rfl (fun _ => ⟨b, o, rfl, hcw⟩) ?_; intro w4 hc4 hw4 hz4)
    refine (nat_norm b o (m + q + 1) c w4 (hN.chg (H3.out.then (hc4 b o rfl) (fun x p _ h => ⟨h.1, h.2.1, by have := h.2.2; omega⟩))) (by omega)).mono ?_
    rintro e w5 ⟨k, rfl, hr⟩
    go_wp2_with fail
    go_ret
    refine ⟨_, rfl, Hfin.out _ w4 H3.out (hc4 b o rfl) (hz4.out b o rfl) ?_ _ _ ⟨k, rfl, hr⟩⟩
    have hwn3 : IsW w2 b (o + q + m) := by rw [show o + q + m = o + (m + q) by omega]; exact hc2.isW _ _ hwn
    have h := Val_set (v := cc) hwn3
    rw [show o + q + m = o + (m + q) by omega] at h
    rw [h, HV.out, ← HX.out.2.1]
    exact congrArg (· * 2 ^ t) (Val_congr2 fun i hi => HT.out i hi)
theorem rsh_val {w : World} {b o q m t X Q R : Nat} (hm : q < m) (hx : Val w b o m = X) (h : Q * 2 ^ t + R = Val w b (o + q) (m - q)) (hR : R < 2 ^ t) (hl : ∀ i, i < m → IsW w b (o + i)) : Q = X / 2 ^ (64 * q + t) := by
  obtain ⟨k, rfl⟩ : ∃ k, m = q + k := ⟨m - q, by omega⟩
  rw [show q + k - q = k by omega] at h
  rw [Val_split, ← h, WB_pow] at hx
  have hlt := Val_lt (w := w) (b := b) (o := o) (n := q) fun i hi => hl i (by omega)
  rw [WB_pow] at hlt
  subst hx
  rw [Nat.pow_add, ← Nat.div_div_eq_div_mul, Nat.add_mul_div_left _ _ (Nat.two_pow_pos _), Nat.div_eq_of_lt hlt, Nat.zero_add, Nat.add_comm, Nat.add_mul_div_right _ _ (Nat.two_pow_pos _), Nat.div_eq_of_lt hR, Nat.zero_add]
set_option maxRecDepth 100000 in
set_option maxHeartbeats 1000000 in
theorem nat_rsh_pos (z : Value) (xb xo m xc X s : Nat) (w : World) (hz : Ow w z) (hx : NtAt w xb xo m xc X) (hm : 0 < m) (hm2 : m ≤ 1000) (hs0 : 0 < s) (hs1 : s < 1000000) (ax : AlB z (.slice (some ⟨xb, xo, none⟩) m xc)) (hs : 17 ≤ w.heap.size) :
    Calls Tryz.prog 148 #[z, .slice (some ⟨xb, xo, none⟩) m xc, .int .u64 s] w fun e w' => ∃ r, e = .returned r ∧ Res w w' z r (X / 2 ^ s) := by
  have c1 : ((s : Int) == 0) = false := by simp; omega
  have hle1 := hx.1.le
  obtain ⟨q, hq⟩ : ∃ q, q = s / 64 := ⟨_, rfl⟩
  obtain ⟨t, ht⟩ : ∃ t, t = s % 64 := ⟨_, rfl⟩
  have hq' : q < 20000 := by omega
  have e1 : (s : Int) / 64 = q := by omega
  have e2 : (s : Int) % 64 = t := by omega
  have hst : 64 * q + t = s := by omega
  have ht64 : t < 64 := by omega
  clear hq ht
  by_cases hqm : m ≤ q
  · have c2 : (m : Int) - q ≤ 0 := by omega
    have hr := res_cut0 hz
    have e0 : X / 2 ^ s = 0 := Nat.div_eq_of_lt (by
      have h1 : X < WB ^ m := by rw [← hx.2.1]; exact Val_lt fun i hi => hx.1.isW i (by omega)
      rw [WB_pow] at h1
      exact Nat.lt_of_lt_of_le h1 (Nat.pow_le_pow_right (by decide) (by omega)))
    rw [← e0] at hr
    have Hr := Lib.hid hr
    clear hr hx ax e0 hst
    rcases hz with rfl | ⟨b, o, n', c, rfl, hN⟩
    · go_enter Tryz.func148, Tryz.ntmps148
      go_wp2_with fail
      all_goals go_ret
      all_goals exact ⟨_, rfl, Hr.out⟩
    · go_enter Tryz.func148, Tryz.ntmps148
      go_wp2_with fail
      all_goals go_ret
      all_goals exact ⟨_, rfl, Hr.out⟩
  have hmk := nat_make z (m - q) w hz (by omega) (by omega) hs
  rw [show ((m - q : Nat) : Int) = (m : Int) - q by omega] at hmk
  have c2 : ¬ (m : Int) - q ≤ 0 := by omega
  have Hmk := Lib.hid hmk
  have HX := Lib.hid hx
  have Hax := Lib.hid ax
  clear hx hmk hz ax
  go_enter Tryz.func148, Tryz.ntmps148
  go_wp2_with fail
  refine Hmk.out.mono ?_
  rintro e w1 ⟨b, o, c, rfl, hN, hc, hfrom⟩
  have hle := hN.le
  have hxN := HX.out.1
  have alx := Hax.out.from hfrom hxN (by omega) (by omega)
  have hx1 : Val w1 xb xo m = X := by rw [← HX.out.2.1]; exact Val_congr fun i hi => wd_congr (hc.cell _ _ hxN.lt (fun f => f))
  have hwx : ∀ i, i < m → IsW w1 xb (xo + i) := fun i hi => hc.isW _ _ (hxN.isW i (by omega))
  have k1 : (m : Int) - ((m : Int) - q) = q := by omega
  have k2 : (q : Int) ≤ m := by omega
  have k3 : ((m : Int) - q).toNat = m - q := by omega
  have k6 : ¬ xc = q := by omega
  have hfin : ∀ (w2 : World) (R : Nat), Chg (Rng b o (m - q)) w1 w2 → Val w2 b o (m - q) * 2 ^ t + R = Val w1 xb (xo + q) (m - q) → R < 2 ^ t → ∀ (r : Value) (w5 : World), (∃ k : Nat, r = .slice (some ⟨b, o, none⟩) k c ∧ NtAt w2 b o k c (Val w2 b o (m - q)) ∧ k ≤ m - q ∧ w2 = w5) → Res w w5 z r (X / 2 ^ s) := by
    rintro w2 R h2 hv hR r w5 ⟨k, rfl, hr, hk, rfl⟩
    rw [rsh_val (by omega) hx1 hv hR hwx, hst] at hr
    exact hfrom.res hc (h2.mono fun x p _ h => ⟨h.1, h.2.1, by have := h.2.2; omega⟩) hr.nt fun x p h => h
  have Hfin := Lib.hid hfin
  have hN0 : Wr w1 b o (m - q) := by have := hN.wr 0 (m - q) (by omega); rwa [Nat.add_zero] at this
  have hxw : ∀ i, i < m - q → IsW w1 xb (xo + q + i) := fun i hi => by rw [Nat.add_assoc]; exact hwx _ (by omega)
  by_cases ht0 : t = 0
  · subst ht0
    clear hfin hx1 hfrom alx
    go_wp2_with (refine wpList_copyW rfl (.tmp 40) (.tmp 45) 85 85 rfl 149 Tryz.underlying85 (by kernel_rfl) b o (m - q) c xb (xo + q) (m - q) (xc - q) rfl rfl (m - q) (by simp) hxw hN0 ?_; intro w2 hc2 hv2)
    refine (nat_norm b o (m - q) c w2 (hN.chg hc2) (by omega)).mono ?_
    rintro e w5 ⟨k, rfl, hr⟩
    go_wp2_with fail
    go_ret
    refine ⟨_, rfl, Hfin.out w2 0 hc2 ?_ (Nat.two_pow_pos _) _ _ ⟨k, rfl, hr⟩⟩
    rw [Nat.pow_zero, Nat.mul_one, Nat.add_zero]
    exact Val_congr2 fun i hi => hv2.out i hi
  · have c3 : ((t : Int) == 0) = false := by simp; omega
    have a1 := rshVU b o c xb (xo + q) (xc - q) (m - q) t w1 (by omega) (by omega) (by omega) ht64 hN0 hxw (by omega)
    have A1 := Lib.hid a1
    clear a1 hfin hx1 hfrom alx
    go_wp2_with fail
    refine A1.out.mono ?_
    rintro e w2 ⟨cc, rfl, hcc, hv2, hc2⟩
    have HV := Lib.hid hv2
    clear hv2 hcc
    go_wp2_with fail
    refine (nat_norm b o (m - q) c w2 (hN.chg hc2) (by omega)).mono ?_
    rintro e w5 ⟨k, rfl, hr⟩
    go_wp2_with fail
    go_ret
    exact ⟨_, rfl, Hfin.out w2 _ hc2 HV.out (Nat.mod_lt _ (Nat.two_pow_pos _)) _ _ ⟨k, rfl, hr⟩⟩
/-- The number of bits. -/
def blen (x : Nat) : Nat := if x = 0 then 0 else Nat.log2 x + 1
theorem blen_of {x k : Nat} (h1 : 2 ^ k ≤ x) (h2 : x < 2 ^ (k + 1)) : blen x = k + 1 := by
  have h0 : x ≠ 0 := by have := Nat.two_pow_pos k; omega
  unfold blen
  rw [if_neg h0]
  have := (Nat.le_log2 h0).2 h1
  have := (Nat.log2_lt h0).2 h2
  omega
theorem or_step {t B : Nat} (k : Nat) (ht : t < 2 ^ B) (hB : B ≤ 64) : ∃ t' : Nat, bits BinOp.or .u64 (t : Int) ((t : Int) / (k : Int)) = (t' : Int) ∧ t ≤ t' ∧ t' < 2 ^ B := by
  have hw : 2 ^ B ≤ WB := by rw [WB_eq]; exact Nat.pow_le_pow_right (by decide) hB
  have h2 : t / k ≤ t := Nat.div_le_self _ _
  refine ⟨t ||| t / k, ?_, Nat.left_le_or, Nat.or_lt_two_pow ht (by omega)⟩
  rw [← Int.natCast_ediv]
  exact bits_or_u64_nat _ _ (Nat.lt_of_lt_of_le ht hw) (Nat.lt_of_le_of_lt h2 (Nat.lt_of_lt_of_le ht hw))
theorem or_step2 {t B : Nat} (k j : Nat) (ht : t < 2 ^ B) (hB : B ≤ 64) : ∃ t' : Nat, bits BinOp.or .u64 (t : Int) ((t : Int) / (k : Int) / (j : Int)) = (t' : Int) ∧ t ≤ t' ∧ t' < 2 ^ B := by
  rw [Int.ediv_ediv_of_nonneg (by omega), ← Int.natCast_mul]
  exact or_step _ ht hB
theorem blen_top {t Y m B P : Nat} (h1 : 2 ^ (B - 1) ≤ t) (h2 : t < 2 ^ B) (h0 : 1 ≤ B) (hY : Y < P) (hP : P = 2 ^ (64 * m)) : blen (Y + t * P) = 64 * m + B := by
  subst hP
  rw [show 64 * m + B = (64 * m + (B - 1)) + 1 by omega]
  apply blen_of
  · rw [Nat.pow_add, Nat.mul_comm]
    have := Nat.mul_le_mul_right (2 ^ (64 * m)) h1
    omega
  · rw [show 64 * m + (B - 1) + 1 = B + 64 * m by omega, Nat.pow_add]
    have := Nat.mul_le_mul_right (2 ^ (64 * m)) h2
    rw [Nat.succ_mul] at this
    omega
set_option maxRecDepth 100000 in
set_option maxHeartbeats 1000000 in
theorem nat_bitLen_pos (xb xo m xc X : Nat) (w : World) (hx : NtAt w xb xo m xc X) (hm : 0 < m) (hm2 : m ≤ 1000) :
    Calls Tryz.prog 194 #[.slice (some ⟨xb, xo, none⟩) m xc] w fun e w' => e = .returned (.int .i64 (blen X)) ∧ Drew w w' := by
  have c1 : (0 : Int) ≤ (m : Int) - 1 := by omega
  have c2 : (m : Int) - 1 < m := by omega
  have c3 : ((m : Int) - 1).toNat = m - 1 := by omega
  have hw := hx.1.isW (m - 1) (by have := hx.1.le; omega)
  obtain ⟨t, ht⟩ : ∃ t, t = wd w xb (xo + (m - 1)) := ⟨_, rfl⟩
  have cx : w.cell? ⟨xb, xo + (m - 1), none⟩ = some (.int .u64 t) := by rw [ht]; exact hw.cell
  have ht0 : t ≠ 0 := by rw [ht]; exact hx.2.2.resolve_left (by omega)
  obtain ⟨b1, b2, b3, b4⟩ := bitLen_spec ht0 (by rw [ht]; exact hw.lt)
  have hX : blen X = 64 * (m - 1) + Lib.bitLen t := by
    rw [← hx.2.1, show m = (m - 1) + 1 by omega, Val_succ, ← ht]
    exact blen_top b3 b4 b2 (Val_lt fun i hi => hx.1.isW i (by have := hx.1.le; omega)) (WB_pow _)
  obtain ⟨B, hB⟩ : ∃ B, B = Lib.bitLen t := ⟨_, rfl⟩
  rw [← hB] at b1 b2 b3 b4 hX
  obtain ⟨t1, e1, l1, g1⟩ := or_step 2 b4 b1
  obtain ⟨t2, e2, l2, g2⟩ := or_step 4 g1 b1
  obtain ⟨t3, e3, l3, g3⟩ := or_step 16 g2 b1
  obtain ⟨t4, e4, l4, g4⟩ := or_step 256 g3 b1
  obtain ⟨t5, e5, l5, g5⟩ := or_step 65536 g4 b1
  obtain ⟨t6, e6, l6, g6⟩ := or_step2 65536 65536 g5 b1
  have hT : Lib.bitLen t6 = B := by
    have hlt : t6 < WB := Nat.lt_of_lt_of_le g6 (by rw [WB_eq]; exact Nat.pow_le_pow_right (by decide) b1)
    obtain ⟨d1, d2, d3, d4⟩ := bitLen_spec (y := t6) (by omega) hlt
    have k1 := blen_of d3 (by rw [show Lib.bitLen t6 - 1 + 1 = Lib.bitLen t6 by omega]; exact d4)
    have k2 := blen_of (Nat.le_trans b3 (by omega : t ≤ t6)) (by rw [show B - 1 + 1 = B by omega]; exact g6)
    omega
  have hlt : t6 < WB := Nat.lt_of_lt_of_le g6 (by rw [WB_eq]; exact Nat.pow_le_pow_right (by decide) b1)
  have HL := Lib.hid (Tryz.bits_Len t6 w (by omega) (by have := hlt; unfold WB at this; omega))
  have hT' : Lib.bitLen (t6 : Int).toNat = B := hT
  simp only [Int.cast_ofNat_Int] at e1 e2 e3 e4 e5 e6
  have HX := Lib.hid hX
  have HT := Lib.hid hT'
  have i1 : ((m : Int) - 1) * 64 + B < 100000 := by omega
  clear hx hw ht hT hT' hX ht0 b3 b4 b2 l1 l2 l3 l4 l5 l6 g1 g2 g3 g4 g5 g6 hlt hB
  go_enter Tryz.func194, Tryz.ntmps194
  go_wp2_with fail
  refine HL.out.mono ?_
  rintro e w' ⟨rfl, rfl⟩
  rw [HT.out]
  go_wp2_with fail
  go_ret
  refine ⟨?_, ?_⟩
  · rw [HX.out]
    have e : (((m : Int) - 1) * 64 + B) = ((64 * (m - 1) + B : Nat) : Int) := by omega
    exact congrArg (fun i : Int => Ending.returned (.int .i64 i)) e
  · repeat (first | exact Drew.refl _ | refine Drew.drewN ?_ _ | refine Drew.drew ?_)
theorem nat_bitLen (x : Value) (X : Nat) (w : World) (hx : Nt w x X) (hX : Small X) :
    Calls Tryz.prog 194 #[x] w fun e w' => e = .returned (.int .i64 (blen X)) ∧ Drew w w' := by
  obtain ⟨xa, m, xc, rfl, hm, hx0, -⟩ := hx.cases hX
  by_cases hm0 : m = 0
  · subst hm0
    obtain rfl := hx0 rfl
    clear hx hX
    go_enter Tryz.func194, Tryz.ntmps194
    go_wp2_with fail
    go_ret
    exact ⟨rfl, by repeat (first | exact Drew.refl _ | refine Drew.drewN ?_ _ | refine Drew.drew ?_)⟩
  · obtain ⟨xb, xo, rfl, hxA⟩ := hx.at (by omega)
    exact nat_bitLen_pos xb xo m xc X w hxA (by omega) hm
set_option maxHeartbeats 1000000 in
/-- same: true only of one array with one length. -/
theorem nat_same (z x : Value) (w : World) (hz : Ow w z) (hx : Ow w x) (hal : AlB z x) :
    Calls Tryz.prog 171 #[z, x] w fun e w' => ∃ (t : Bool) (m : Nat), e = .returned (.bool t) ∧ (t = true → ∃ b o n c, 0 < n ∧ z = .slice (some ⟨b, o, none⟩) n c ∧ x = z) ∧ (t = false → ∀ b o n c c', z = .slice (some ⟨b, o, none⟩) n c → x = .slice (some ⟨b, o, none⟩) n c' → n = 0) ∧ w' = w.drewN m := by
  have hz' : ∃ (a : Option Addr) (n c : Nat), z = .slice a n c ∧ n ≤ maxLen ∧ (0 < n → ∃ b o, a = some ⟨b, o, none⟩ ∧ NW w b o n c) := by
    rcases hz with rfl | ⟨b, o, n, c, rfl, hn⟩
    · exact ⟨none, 0, 0, rfl, by omega, fun h => absurd h (by omega)⟩
    · exact ⟨_, n, c, rfl, Nat.le_trans hn.le hn.max, fun _ => ⟨b, o, rfl, hn⟩⟩
  have hx' : ∃ (a : Option Addr) (n c : Nat), x = .slice a n c ∧ n ≤ maxLen ∧ (0 < n → ∃ b o, a = some ⟨b, o, none⟩ ∧ NW w b o n c) := by
    rcases hx with rfl | ⟨b, o, n, c, rfl, hn⟩
    · exact ⟨none, 0, 0, rfl, by omega, fun h => absurd h (by omega)⟩
    · exact ⟨_, n, c, rfl, Nat.le_trans hn.le hn.max, fun _ => ⟨b, o, rfl, hn⟩⟩
  obtain ⟨za, n, zc, rfl, hnm, hzN⟩ := hz'
  obtain ⟨xa, m, xc, rfl, hmm, hxN⟩ := hx'
  unfold maxLen at hnm hmm
  clear hz hx
  by_cases hne : n = m
  · subst hne
    by_cases hn0 : n = 0
    · subst hn0
      clear hal hzN hxN
      go_enter Tryz.func171, Tryz.ntmps171
      go_wp2_with fail
      go_quiet (fail)
      go_wp2_with fail
      go_ret
      exact ⟨false, _, rfl, fun h => Bool.noConfusion h, fun _ b o n c c' h1 h2 => by cases h1; rfl, rfl⟩
    · obtain ⟨zb, zo, rfl, hN⟩ := hzN (by omega)
      obtain ⟨xb, xo, rfl, hM⟩ := hxN (by omega)
      have i1 : (0 : Int) < n := by omega
      have d1 : decide (0 < n) = true := decide_eq_true (by omega)
      have d2 : (n == n) = true := by simp
      have d3 : ((n : Int) == n) = true := by simp
      have hle := hN.le
      have hle2 := hM.le
      by_cases hs : zb = xb ∧ zo = xo
      · obtain ⟨rfl, rfl⟩ := hs
        have hp : ∀ W : World, (binOp .eql 261 (.pointer (some ⟨zb, zo, none⟩)) (.pointer (some ⟨zb, zo, none⟩))).run Tryz.prog W = .ok (.bool true) W := fun W => eql_same _ W
        have hcc : xc = zc := by
          rcases hal with ⟨b', o', n', m', c', h1, h2⟩ | h
          · cases h1; cases h2; rfl
          · exact absurd rfl (h zb zo zb zo ⟨rfl, Nat.le_refl _, by simp; omega⟩ ⟨rfl, Nat.le_refl _, by simp; omega⟩)
        subst hcc
        clear hal hzN hxN hnm hmm hle hle2
        go_enter Tryz.func171, Tryz.ntmps171
        go_wp2_with fail
        go_quiet (fail)
        go_wp2_with fail
        go_ret
        exact ⟨true, _, rfl, fun _ => ⟨zb, zo, n, xc, by omega, rfl, by simp⟩, fun h => Bool.noConfusion h, rfl⟩
      · have hp : ∀ k : Nat, (binOp .eql 261 (.pointer (some ⟨zb, zo, none⟩)) (.pointer (some ⟨xb, xo, none⟩))).run Tryz.prog (w.drewN k) = .ok (.bool false) (w.drewN k) :=
          fun k => eql_other (fun e => hs (by cases e; exact ⟨rfl, rfl⟩)) hN.plain hM.plain
        clear hal hzN hxN hnm hmm hle hle2
        go_enter Tryz.func171, Tryz.ntmps171
        go_wp2_with fail
        go_quiet (fail)
        go_wp2_with fail
        go_ret
        exact ⟨false, _, rfl, fun h => Bool.noConfusion h, fun _ b o n c c' h1 h2 => by cases h1; cases h2; simp at hs, rfl⟩
  · have d1 : ((n : Int) == m) = false := by simp; omega
    have d2 : (n == m) = false := by simp; omega
    clear hal hzN hxN hnm hmm
    go_enter Tryz.func171, Tryz.ntmps171
    go_wp2_with fail
    go_quiet (fail)
    go_wp2_with fail
    go_ret
    exact ⟨false, _, rfl, fun h => Bool.noConfusion h, fun _ b o n c c' h1 h2 => by cases h1; cases h2; simp at hne, rfl⟩
set_option maxHeartbeats 1000000 in
theorem alias_ab (z x : Value) (w : World) (hz : Ow w z) (hx : Ow w x) (hal : Ab z x) :
    Calls Tryz.prog 155 #[z, x] w fun e w' => ∃ (m : Nat), e = .returned (.bool false) ∧ w' = w.drewN m := by
  rcases hz with rfl | ⟨b, o, n, c, rfl, hn⟩
  · go_enter Tryz.func155, Tryz.ntmps155
    go_wp2_with fail
    go_quiet (fail)
    go_wp2_with fail
    go_ret
    exact ⟨_, rfl, rfl⟩
  · by_cases hc0 : c = 0
    · subst hc0
      go_enter Tryz.func155, Tryz.ntmps155
      go_wp2_with fail
      go_quiet (fail)
      go_wp2_with fail
      go_ret
      exact ⟨_, rfl, rfl⟩
    · have c1 : (0 : Int) < c := by omega
      have c1n : 0 < c := by omega
      have d1 : decide (0 < c) = true := decide_eq_true c1n
      rcases hx with rfl | ⟨xb, xo, xn, xc, rfl, hxn⟩
      · go_enter Tryz.func155, Tryz.ntmps155
        go_wp2_with fail
        go_quiet (fail)
        go_wp2_with fail
        go_ret
        exact ⟨_, rfl, rfl⟩
      · by_cases hxc0 : xc = 0
        · subst hxc0
          go_enter Tryz.func155, Tryz.ntmps155
          go_wp2_with fail
          go_quiet (fail)
          go_wp2_with fail
          go_ret
          exact ⟨_, rfl, rfl⟩
        · have x1 : (0 : Int) < xc := by omega
          have x1n : 0 < xc := by omega
          have d2 : decide (0 < xc) = true := decide_eq_true x1n
          have m1 := hn.max
          have m2 := hxn.max
          unfold maxLen at m1 m2
          have e1 : IntKind.i64.wrap ((c : Int) - 1) = (c : Int) - 1 := IntWalk.i64_in _ (by omega)
          have e2 : IntKind.i64.wrap ((xc : Int) - 1) = (xc : Int) - 1 := IntWalk.i64_in _ (by omega)
          have e3 : ((c : Int) - 1).toNat = c - 1 := by omega
          have e4 : ((xc : Int) - 1).toNat = xc - 1 := by omega
          have i1 : 0 ≤ (c : Int) - 1 := by omega
          have i2 : 0 ≤ (xc : Int) - 1 := by omega
          have i3 : (c : Int) - 1 < c := by omega
          have i4 : (xc : Int) - 1 < xc := by omega
          have hsame : b ≠ xb := hal b o xb xo ⟨rfl, Nat.le_refl _, by simp; omega⟩ ⟨rfl, Nat.le_refl _, by simp; omega⟩
          · have hp : ∀ m : Nat, (binOp .eql 261 (.pointer (some ⟨b, o + (c - 1), none⟩)) (.pointer (some ⟨xb, xo + (xc - 1), none⟩))).run Tryz.prog (w.drewN m) = .ok (.bool false) (w.drewN m) :=
              fun m => eql_other (fun e => hsame (congrArg Addr.block e)) hn.plain hxn.plain
            clear m1 m2 hsame
            go_enter Tryz.func155, Tryz.ntmps155
            go_wp2_with fail
            go_quiet (fail)
            go_wp2_with fail
            go_ret
            exact ⟨_, rfl, rfl⟩
theorem alias_d (z x : Value) (w : World) (hz : Ow w z) (hx : Ow w x) (hal : Al z x) (k : Nat) :
    Calls Tryz.prog 155 #[z, x] (w.drewN k) fun e w' => ∃ (t : Bool) (m : Nat), e = .returned (.bool t) ∧ w' = w.drewN m :=
  (alias z x (w.drewN k) (hz.drewN k) (hx.drewN k) hal).mono fun _ _ ⟨t, m, h1, _, h3⟩ => ⟨t, k + m, h1, by rw [h3]; simp⟩
theorem alias_abd (z x : Value) (w : World) (hz : Ow w z) (hx : Ow w x) (hal : Ab z x) (k : Nat) :
    Calls Tryz.prog 155 #[z, x] (w.drewN k) fun e w' => ∃ (m : Nat), e = .returned (.bool false) ∧ w' = w.drewN m :=
  (alias_ab z x (w.drewN k) (hz.drewN k) (hx.drewN k) hal).mono fun _ _ ⟨m, h1, h3⟩ => ⟨k + m, h1, by rw [h3]; simp⟩
theorem nat_set_d (z x : Value) (X : Nat) (w : World) (hz : Ow w z) (hx : Nt w x X) (hX : Small X) (hs : 17 ≤ w.heap.size) (k : Nat) :
    Calls Tryz.prog 156 #[z, x] (w.drewN k) fun e w' => ∃ r, e = .returned r ∧ Res w w' z r X :=
  (nat_set z x X (w.drewN k) (hz.drewN k) (hx.drewN k) hX hs).mono fun _ _ ⟨r, h1, h2⟩ => ⟨r, h1, h2.ofDrewN⟩
theorem Res.self {w : World} {z : Value} {X k : Nat} (h : Nt w z X) : Res w (w.drewN k) z z X := ⟨h.drewN k, fun _ _ f => .inl f, (Chg.refl _ w).drewN k⟩
theorem Res.to {w w' : World} {z r : Value} {X : Nat} (h : Res w w' z r X) (k : Nat) : Res w (w'.drewN k) z r X := ⟨h.nt.drewN k, h.fp, h.chg.drewN k⟩
set_option maxRecDepth 100000 in
set_option maxHeartbeats 1000000 in
theorem nat_lsh0 (z x : Value) (X : Nat) (w : World) (hz : Ow w z) (hx : Nt w x X) (hX : Small X) (h0 : x = z ∨ Ab z x) (ax : AlB z x) (hs : 17 ≤ w.heap.size) :
    Calls Tryz.prog 100 #[z, x, .int .u64 0] w fun e w' => ∃ r, e = .returned r ∧ Res w w' z r X := by
  have A1 := Lib.hid (nat_same z x w hz hx.ow ax)
  have A3 := Lib.hid (nat_set_d z x X w hz hx hX hs)
  rcases h0 with rfl | hab
  · obtain ⟨xa, m, xc, rfl, hm, hx0, -⟩ := hx.cases hX
    have A2 := Lib.hid (alias_d _ _ w hz hx.ow ax.al)
    by_cases hm0 : m = 0
    · subst hm0
      obtain rfl := hx0 rfl
      have HC := Lib.hid (res_cut0 hz)
      rcases hz with hz | ⟨b, o, n', c, hz, hN⟩
      all_goals cases hz
      all_goals clear hx hX ax hx0
      all_goals go_enter Tryz.func100, Tryz.ntmps100
      all_goals go_wp2_with fail
      all_goals refine A1.out.mono ?_
      all_goals rintro e w1 ⟨t, k, rfl, h1, -, rfl⟩
      all_goals cases t
      all_goals first
        | (exfalso; obtain ⟨b, o, n, c, hn, he, -⟩ := h1 rfl; cases he <;> omega)
        | skip
      all_goals clear h1
      all_goals go_wp2_with fail
      all_goals refine (A2.out _).mono ?_
      all_goals rintro e w2 ⟨t2, k2, rfl, rfl⟩
      all_goals cases t2
      all_goals go_wp2_with fail
      all_goals first
        | (refine (A3.out _).mono ?_
           rintro e w3 ⟨r, rfl, hr⟩
           go_wp2_with fail
           go_ret
           exact ⟨r, rfl, hr⟩)
        | (go_ret
           exact ⟨_, rfl, HC.out.to _⟩)
    · have HS := Lib.hid fun k => Res.self (k := k) hx
      have HM := Lib.hid fun (h2 : ∀ b o n c c', Value.slice xa m xc = .slice (some ⟨b, o, none⟩) n c → Value.slice xa m xc = .slice (some ⟨b, o, none⟩) n c' → n = 0) => (show m = 0 from by
        obtain ⟨b, o, rfl, -⟩ := hx.at (by omega)
        exact h2 b o m xc xc rfl rfl)
      clear hx hX ax hx0 hz
      go_enter Tryz.func100, Tryz.ntmps100
      go_wp2_with fail
      refine A1.out.mono ?_
      rintro e w1 ⟨t, k, rfl, h1, h2, rfl⟩
      cases t
      · exfalso
        exact hm0 (HM.out (h2 rfl))
      · clear h1 h2
        go_wp2_with fail
        go_ret
        exact ⟨_, rfl, HS.out k⟩
  · have A2 := Lib.hid (alias_abd _ _ w hz hx.ow hab)
    have HS := Lib.hid fun (e : x = z) k => Res.self (k := k) (e ▸ hx)
    clear hx hX ax hz hab
    go_enter Tryz.func100, Tryz.ntmps100
    go_wp2_with fail
    refine A1.out.mono ?_
    rintro e w1 ⟨t, k, rfl, h1, -, rfl⟩
    cases t
    · clear h1
      go_wp2_with fail
      refine (A2.out _).mono ?_
      rintro e w2 ⟨k2, rfl, rfl⟩
      go_wp2_with fail
      refine (A3.out _).mono ?_
      rintro e w3 ⟨r, rfl, hr⟩
      go_wp2_with fail
      go_ret
      exact ⟨r, rfl, hr⟩
    · have he : x = z := by
        obtain ⟨b, o, n, c, -, he, hx⟩ := h1 rfl
        exact hx
      have HS := Lib.hid (HS.out he)
      clear h1 he
      go_wp2_with fail
      go_ret
      exact ⟨_, rfl, HS.out k⟩
set_option maxRecDepth 100000 in
set_option maxHeartbeats 1000000 in
theorem nat_rsh0 (z x : Value) (X : Nat) (w : World) (hz : Ow w z) (hx : Nt w x X) (hX : Small X) (h0 : x = z ∨ Ab z x) (ax : AlB z x) (hs : 17 ≤ w.heap.size) :
    Calls Tryz.prog 148 #[z, x, .int .u64 0] w fun e w' => ∃ r, e = .returned r ∧ Res w w' z r X := by
  have A1 := Lib.hid (nat_same z x w hz hx.ow ax)
  have A3 := Lib.hid (nat_set_d z x X w hz hx hX hs)
  rcases h0 with rfl | hab
  · obtain ⟨xa, m, xc, rfl, hm, hx0, -⟩ := hx.cases hX
    have A2 := Lib.hid (alias_d _ _ w hz hx.ow ax.al)
    by_cases hm0 : m = 0
    · subst hm0
      obtain rfl := hx0 rfl
      have HC := Lib.hid (res_cut0 hz)
      rcases hz with hz | ⟨b, o, n', c, hz, hN⟩
      all_goals cases hz
      all_goals clear hx hX ax hx0
      all_goals go_enter Tryz.func148, Tryz.ntmps148
      all_goals go_wp2_with fail
      all_goals refine A1.out.mono ?_
      all_goals rintro e w1 ⟨t, k, rfl, h1, -, rfl⟩
      all_goals cases t
      all_goals first
        | (exfalso; obtain ⟨b, o, n, c, hn, he, -⟩ := h1 rfl; cases he <;> omega)
        | skip
      all_goals clear h1
      all_goals go_wp2_with fail
      all_goals refine (A2.out _).mono ?_
      all_goals rintro e w2 ⟨t2, k2, rfl, rfl⟩
      all_goals cases t2
      all_goals go_wp2_with fail
      all_goals first
        | (refine (A3.out _).mono ?_
           rintro e w3 ⟨r, rfl, hr⟩
           go_wp2_with fail
           go_ret
           exact ⟨r, rfl, hr⟩)
        | (go_ret
           exact ⟨_, rfl, HC.out.to _⟩)
    · have HS := Lib.hid fun k => Res.self (k := k) hx
      have HM := Lib.hid fun (h2 : ∀ b o n c c', Value.slice xa m xc = .slice (some ⟨b, o, none⟩) n c → Value.slice xa m xc = .slice (some ⟨b, o, none⟩) n c' → n = 0) => (show m = 0 from by
        obtain ⟨b, o, rfl, -⟩ := hx.at (by omega)
        exact h2 b o m xc xc rfl rfl)
      clear hx hX ax hx0 hz
      go_enter Tryz.func148, Tryz.ntmps148
      go_wp2_with fail
      refine A1.out.mono ?_
      rintro e w1 ⟨t, k, rfl, h1, h2, rfl⟩
      cases t
      · exfalso
        exact hm0 (HM.out (h2 rfl))
      · clear h1 h2
        go_wp2_with fail
        go_ret
        exact ⟨_, rfl, HS.out k⟩
  · have A2 := Lib.hid (alias_abd _ _ w hz hx.ow hab)
    have HS := Lib.hid fun (e : x = z) k => Res.self (k := k) (e ▸ hx)
    clear hx hX ax hz hab
    go_enter Tryz.func148, Tryz.ntmps148
    go_wp2_with fail
    refine A1.out.mono ?_
    rintro e w1 ⟨t, k, rfl, h1, -, rfl⟩
    cases t
    · clear h1
      go_wp2_with fail
      refine (A2.out _).mono ?_
      rintro e w2 ⟨k2, rfl, rfl⟩
      go_wp2_with fail
      refine (A3.out _).mono ?_
      rintro e w3 ⟨r, rfl, hr⟩
      go_wp2_with fail
      go_ret
      exact ⟨r, rfl, hr⟩
    · have he : x = z := by
        obtain ⟨b, o, n, c, -, he, hx⟩ := h1 rfl
        exact hx
      have HS := Lib.hid (HS.out he)
      clear h1 he
      go_wp2_with fail
      go_ret
      exact ⟨_, rfl, HS.out k⟩
set_option maxRecDepth 100000 in
set_option maxHeartbeats 1000000 in
theorem nat_lsh_nil (z : Value) (xa : Option Addr) (xc s : Nat) (w : World) (hz : Ow w z) (hs0 : 0 < s) (hs1 : s < 1000000) :
    Calls Tryz.prog 100 #[z, .slice xa 0 xc, .int .u64 s] w fun e w' => ∃ r, e = .returned r ∧ Res w w' z r 0 := by
  have c1 : ((s : Int) == 0) = false := by simp; omega
  have HC := Lib.hid (res_cut0 hz)
  rcases hz with rfl | ⟨b, o, n', c, rfl, hN⟩
  all_goals go_enter Tryz.func100, Tryz.ntmps100
  all_goals go_wp2_with fail
  all_goals go_ret
  all_goals exact ⟨_, rfl, HC.out⟩
theorem nat_lsh (z x : Value) (X s : Nat) (w : World) (hz : Ow w z) (hx : Nt w x X) (hX : Small X) (hs1 : s < 1000000) (h0 : s = 0 → x = z ∨ Ab z x) (ax : AlB z x) (hs : 17 ≤ w.heap.size) :
    Calls Tryz.prog 100 #[z, x, .int .u64 s] w fun e w' => ∃ r, e = .returned r ∧ Res w w' z r (X * 2 ^ s) := by
  by_cases hs0 : s = 0
  · subst hs0
    rw [Nat.pow_zero, Nat.mul_one]
    exact nat_lsh0 z x X w hz hx hX (h0 rfl) ax hs
  · obtain ⟨xa, m, xc, rfl, hm, hx0, -⟩ := hx.cases hX
    by_cases hm0 : m = 0
    · subst hm0
      obtain rfl := hx0 rfl
      rw [Nat.zero_mul]
      exact nat_lsh_nil z xa xc s w hz (by omega) hs1
    · obtain ⟨xb, xo, rfl, hxA⟩ := hx.at (by omega)
      exact nat_lsh_pos z xb xo m xc X s w hz hxA (by omega) hm (by omega) hs1 ax hs
set_option maxRecDepth 100000 in
set_option maxHeartbeats 1000000 in
theorem nat_rsh_nil (z : Value) (xa : Option Addr) (xc s : Nat) (w : World) (hz : Ow w z) (hs0 : 0 < s) (hs1 : s < 1000000) :
    Calls Tryz.prog 148 #[z, .slice xa 0 xc, .int .u64 s] w fun e w' => ∃ r, e = .returned r ∧ Res w w' z r 0 := by
  have c1 : ((s : Int) == 0) = false := by simp; omega
  have c2 : (0 : Int) - (s : Int) / 64 ≤ 0 := by omega
  have HC := Lib.hid (res_cut0 hz)
  rcases hz with rfl | ⟨b, o, n', c, rfl, hN⟩
  all_goals go_enter Tryz.func148, Tryz.ntmps148
  all_goals go_wp2_with fail
  all_goals go_ret
  all_goals exact ⟨_, rfl, HC.out⟩
theorem nat_rsh (z x : Value) (X s : Nat) (w : World) (hz : Ow w z) (hx : Nt w x X) (hX : Small X) (hs1 : s < 1000000) (h0 : s = 0 → x = z ∨ Ab z x) (ax : AlB z x) (hs : 17 ≤ w.heap.size) :
    Calls Tryz.prog 148 #[z, x, .int .u64 s] w fun e w' => ∃ r, e = .returned r ∧ Res w w' z r (X / 2 ^ s) := by
  by_cases hs0 : s = 0
  · subst hs0
    rw [Nat.pow_zero, Nat.div_one]
    exact nat_rsh0 z x X w hz hx hX (h0 rfl) ax hs
  · obtain ⟨xa, m, xc, rfl, hm, hx0, -⟩ := hx.cases hX
    by_cases hm0 : m = 0
    · subst hm0
      obtain rfl := hx0 rfl
      rw [Nat.zero_div]
      exact nat_rsh_nil z xa xc s w hz (by omega) hs1
    · obtain ⟨xb, xo, rfl, hxA⟩ := hx.at (by omega)
      exact nat_rsh_pos z xb xo m xc X s w hz hxA (by omega) hm (by omega) hs1 ax hs
theorem Glob.tab {w : World} (h : Glob w) : TabAt 13 Lib.deBruijn64tab w := by
  have he : Lib.deBruijn64tab = deB64 := by decide
  intro j hj
  rw [he] at hj ⊢
  refine h.cell 13 j _ ?_
  simp only [gcell]
  rw [List.getElem?_eq_getElem hj]
  simp [List.getD, hj]
set_option maxHeartbeats 1000000 in
theorem tz_core (x k idx : Nat) (w : World) (hx0 : ((x : Int) == 0) = false)
    (key : IntKind.u64.wrap (bits BinOp.and IntKind.u64 (x : Int) (IntKind.u64.wrap (-(x : Int))) * 285870213051353865) / 288230376151711744 = (idx : Int))
    (hi : idx < 64) (hk : k < 64) (hcell : w.cell? ⟨13, idx, none⟩ = some (.int .u8 k)) :
    Calls Tryz.prog 268 #[.int .u64 x] w fun e w' => e = .returned (.int .i64 k) ∧ w = w' := by
  go_enter Tryz.func268, Tryz.ntmps268
  go_wp2_with (simp only [key])
  go_ret
  exact ⟨rfl, rfl⟩
theorem tz64 (x : Nat) (hx : x < WB) (hx0 : x ≠ 0) (w : World) (hg : Glob w) :
    Calls Tryz.prog 268 #[.int .u64 x] w fun e w' => e = .returned (.int .i64 (Lib.ctz 64 x)) ∧ w = w' := by
  obtain ⟨hlow, hk⟩ := Lib.lowest_bit 64 x hx0 hx
  obtain ⟨hi, htab⟩ := Lib.deBruijn64_at _ hk
  have hcell := hg.tab _ hi
  rw [htab] at hcell
  exact tz_core x _ _ w (by simp; omega) (tz64_key x _ hx hx0 hlow) hi hk hcell
set_option maxHeartbeats 1000000 in
theorem bits_tz (x : Nat) (hx : x < WB) (hx0 : x ≠ 0) (w : World) (hg : Glob w) :
    Calls Tryz.prog 221 #[.int .u64 x] w fun e w' => e = .returned (.int .i64 (Lib.ctz 64 x)) ∧ w = w' := by
  have A := Lib.hid (tz64 x hx hx0 w hg)
  clear hx hx0 hg
  go_enter Tryz.func221, Tryz.ntmps221
  go_wp2_with fail
  refine A.out.mono ?_
  rintro e w' ⟨rfl, rfl⟩
  go_wp2_with fail
  go_ret
  exact ⟨rfl, rfl⟩
theorem ctz_spec {x : Nat} (hx : x < WB) (h0 : x ≠ 0) : (∃ m, x = 2 ^ Lib.ctz 64 x * (2 * m + 1)) ∧ Lib.ctz 64 x < 64 := by
  unfold Lib.ctz
  rw [if_neg h0]
  obtain ⟨m, h1, h2⟩ := Lib.ctzFrom_spec 64 x (by omega) hx
  exact ⟨⟨m, h1⟩, h2⟩
theorem tz_val {w : World} {b o m k t j : Nat} (hk : k < m) (hz : ∀ i, i < k → wd w b (o + i) = 0) (hj : wd w b (o + k) = 2 ^ t * (2 * j + 1)) (ht : t < 64) :
    Val w b o m = 2 ^ (64 * k + t) * (2 * (j + 2 ^ (64 - t - 1) * Val w b (o + (k + 1)) (m - (k + 1))) + 1) := by
  obtain ⟨n, rfl⟩ : ∃ n, m = k + (n + 1) := ⟨m - k - 1, by omega⟩
  have e : WB = 2 ^ t * (2 * 2 ^ (64 - t - 1)) := by
    rw [WB_eq, ← Nat.pow_succ', ← Nat.pow_add]
    congr 1
    omega
  rw [Val_split, Val_zero k hz, Val_low, hj, WB_pow, Nat.zero_add, Nat.pow_add, show k + (n + 1) - (k + 1) = n by omega, show o + k + 1 = o + (k + 1) by omega, Nat.mul_assoc]
  congr 1
  generalize hV : Val w b (o + (k + 1)) n = V
  generalize hP : 2 ^ (64 - t - 1) = P at e ⊢
  generalize hT : 2 ^ t = T at e ⊢
  rw [e]
  grind
set_option maxRecDepth 100000 in
set_option maxHeartbeats 1000000 in
theorem nat_tz_pos (xb xo m xc X : Nat) (w : World) (hx : NtAt w xb xo m xc X) (hm : 0 < m) (hm2 : m ≤ 1000) (hg : Glob w) :
    Calls Tryz.prog 204 #[.slice (some ⟨xb, xo, none⟩) m xc] w fun e w' => ∃ k j : Nat, e = .returned (.int .u64 k) ∧ X = 2 ^ k * (2 * j + 1) ∧ k < 64 * m ∧ Drew w w' := by
  have c1 : ((m : Int) == 0) = false := by simp; omega
  have HX := Lib.hid hx
  have hxN := hx.1
  have hle := hxN.le
  have htop := hx.2.2.resolve_left (by omega)
  clear hx
  go_enter Tryz.func204, Tryz.ntmps204
  go_wp2_with fail
  go_loopw [3] (fun i wr => ∃ k q : Nat, k < m ∧ i = .int .u64 k ∧ wr = w.drewN q ∧ Hid (∀ j, j < k → wd w xb (xo + j) = 0)) (fun i _ => m - (intOf i).toNat)
  case atStart => exact ⟨0, 0, by omega, rfl, rfl, Lib.hid fun j h => absurd h (by omega)⟩
  case round =>
    obtain ⟨k, q, hk, rfl, rfl, hZ⟩ := hrel
    have hwk := hxN.isW k (by omega)
    have cx := hwk.cell
    have i1 : (k : Int) < m := by omega
    by_cases h0 : wd w xb (xo + k) = 0
    · rw [h0] at cx
      have hkm : k + 1 < m := by
        rcases Nat.lt_or_ge (k + 1) m with h | h
        · exact h
        · exact absurd h0 (by rw [show k = m - 1 by omega]; exact htop)
      go_wp2_with fail
      go_roundw
      case rel =>
        refine ⟨k + 1, q, hkm, by go_num, rfl, Lib.hid fun j hj => ?_⟩
        rcases Nat.lt_or_ge j k with h | h
        · exact hZ.out j h
        · rw [show j = k by omega]; exact h0
      case measure => simp [intOf]; omega
    · have h0' : (((wd w xb (xo + k) : Nat) : Int) == 0) = false := by simp; omega
      obtain ⟨⟨j, hj⟩, ht64⟩ := ctz_spec hwk.lt h0
      obtain ⟨t, ht⟩ : ∃ t, t = Lib.ctz 64 (wd w xb (xo + k)) := ⟨_, rfl⟩
      have HJ := Lib.hid hj
      have A := Lib.hid (bits_tz (wd w xb (xo + k)) hwk.lt h0 (w.drewN q) (hg.drewN q))
      rw [← ht] at A HJ ht64
      have HT := Lib.hid ht
      clear hj ht
      go_wp2_with fail
      refine A.out.mono ?_
      rintro e w' ⟨rfl, rfl⟩
      go_wp2_with fail
      go_ret
      refine ⟨64 * k + t, j + (2 ^ (64 - t - 1)) * Val w xb (xo + (k + 1)) (m - (k + 1)), by go_num, ?_, by omega, ⟨_, rfl⟩⟩
      rw [← HX.out.2.1]
      exact tz_val hk hZ.out HJ.out ht64
open Go.RowKit Go.Lib
/-- A new block of words: what stood in cs, then zeros. -/
theorem NW.newWords {w : World} {cs : Array Value} {n k l G : Nat} (hcs : ∀ i, i < cs.size → ∃ v : Nat, v < WB ∧ cs[i]? = some (.int .u64 v)) (hG : cs.size + n + k = G) (hl : l ≤ G) (hm : G ≤ maxLen) (hs : 17 ≤ w.heap.size) :
    NW (w.drew.alloc (.cells (cs ++ Builtin.zeroCells #[Value.int .u64 0] n ++ Builtin.zeroCells #[Value.int .u64 0] k) 149)) w.heap.size 0 l G := by
  refine ⟨hl, hm, fun i hi => ?_, Plain.new _ _ _, hs⟩
  rw [Nat.zero_add]
  have hz : ∀ n : Nat, Builtin.zeroCells #[Value.int .u64 0] n = Array.replicate n (.int .u64 0) := by
    intro n
    simp only [Builtin.zeroCells]
    apply Array.ext
    · simp
    · intro j h1 h2
      simp [Nat.mod_one]
  rw [hz, hz]
  have hc := World.cell?_alloc_new (w := w.drew) (cs ++ Array.replicate n (Value.int .u64 0) ++ Array.replicate k (Value.int .u64 0)) 149 i
  have hg : ∃ v : Nat, v < WB ∧ (cs ++ Array.replicate n (Value.int .u64 0) ++ Array.replicate k (Value.int .u64 0))[i]? = some (.int .u64 v) := by
    by_cases h1 : i < cs.size
    · obtain ⟨v, hv, he⟩ := hcs i h1
      refine ⟨v, hv, ?_⟩
      rw [Array.getElem?_append_left (by simp; omega), Array.getElem?_append_left h1]
      exact he
    · refine ⟨0, WB_pos, ?_⟩
      by_cases h2 : i < cs.size + n
      · rw [Array.getElem?_append_left (by simp; omega), Array.getElem?_append_right (by omega)]
        rw [Array.getElem?_replicate, if_pos (by first | omega | (simp; omega))]; rfl
      · rw [Array.getElem?_append_right (by simp; omega)]
        rw [Array.getElem?_replicate, if_pos (by first | omega | (simp; omega))]; rfl
  obtain ⟨v, hv, he⟩ := hg
  exact ⟨v, hv, hc.trans he⟩
set_option maxHeartbeats 4000000 in
set_option maxRecDepth 100000 in
theorem grow85_room (base : Option Addr) (l c n : Nat) (w : World) (hlc : l ≤ c) (hc : c ≤ maxLen) (hn : n ≤ maxLen) (hroom : l + n ≤ c) :
    Calls Tryz.prog 233 #[.slice base l c, .int .i64 n] w fun e w' => e = .returned (.slice base l c) ∧ w = w' := by
  unfold maxLen at hc hn
  have h1 : ¬ ((n : Int) < 0) := by omega
  have h2 : wrap64 ((c : Int) - (l : Int)) = (c : Int) - (l : Int) := by unfold wrap64; omega
  have h3 : wrap64 ((n : Int) - ((c : Int) - (l : Int))) = (n : Int) - ((c : Int) - (l : Int)) := by unfold wrap64; omega
  have h4 : ¬ ((n : Int) - ((c : Int) - (l : Int)) > 0) := by omega
  have h5 : ¬ ((0 : Int) < (n : Int) - ((c : Int) - (l : Int))) := by omega
  have H1 := hid hc; have H2 := hid hn
  go_enter Tryz.func233, Tryz.ntmps233
  go_wp2_with fail
  go_ret
  exact ⟨rfl, rfl⟩
set_option maxHeartbeats 4000000 in
set_option maxRecDepth 100000 in
theorem grow84_room (base : Option Addr) (l c n : Nat) (w : World) (hlc : l ≤ c) (hc : c ≤ maxLen) (hn : n ≤ maxLen) (hroom : l + n ≤ c) :
    Calls Tryz.prog 272 #[.slice base l c, .int .i64 n] w fun e w' => e = .returned (.slice base l c) ∧ w = w' := by
  unfold maxLen at hc hn
  have h1 : ¬ ((n : Int) < 0) := by omega
  have h2 : wrap64 ((c : Int) - (l : Int)) = (c : Int) - (l : Int) := by unfold wrap64; omega
  have h3 : wrap64 ((n : Int) - ((c : Int) - (l : Int))) = (n : Int) - ((c : Int) - (l : Int)) := by unfold wrap64; omega
  have h4 : ¬ ((n : Int) - ((c : Int) - (l : Int)) > 0) := by omega
  have h5 : ¬ ((0 : Int) < (n : Int) - ((c : Int) - (l : Int))) := by omega
  have H1 := hid hc; have H2 := hid hn
  go_enter Tryz.func272, Tryz.ntmps272
  go_wp2_with fail
  go_ret
  exact ⟨rfl, rfl⟩
/-- The cells of a Float: precision, mode, accuracy, form, sign, mantissa, exponent. -/
structure Fl (w : World) (b p m : Nat) (a : Int) (f : Nat) (n : Bool) (v : Value) (e : Int) : Prop where
  c0 : w.cell? ⟨b, 0, none⟩ = some (.int .u32 p)
  c1 : w.cell? ⟨b, 1, none⟩ = some (.int .u8 m)
  c2 : w.cell? ⟨b, 2, none⟩ = some (.int .i8 a)
  c3 : w.cell? ⟨b, 3, none⟩ = some (.int .u8 f)
  c4 : w.cell? ⟨b, 4, none⟩ = some (.bool n)
  c5 : w.cell? ⟨b, 5, none⟩ = some v
  c6 : w.cell? ⟨b, 6, none⟩ = some (.int .i32 e)
  sl : ∃ x y z, v = .slice x y z
  plain : Plain w b
  own : 17 ≤ b
  m8 : m < 256
  f8 : f < 256
/-- All places of a block. -/
def Blk (b : Nat) : Nat → Nat → Prop := fun x _ => x = b
theorem Chg.setO {S : Nat → Nat → Prop} {a w : World} (h : Chg S a w) {b o : Nat} {u : Value} (v : Value) (hu : w.cell? ⟨b, o, none⟩ = some u) (h64 : ∀ n, u ≠ .int .u64 n) (h8 : ∀ n, u ≠ .int .u8 n) (hS : b < a.heap.size → S b o) : Chg S a (w.setCell ⟨b, o, none⟩ v) := by
  have key : ∀ (k : IntKind) (m x p : Nat), (∀ n, u ≠ .int k n) → IsI k m w x p → IsI k m (w.setCell ⟨b, o, none⟩ v) x p := by
    intro k m x p hk hi
    refine hi.congr (cell_setCell_ne _ _ _ _ _ _ ?_)
    rcases Nat.decEq x b with e | e
    · exact .inl e
    · rcases Nat.decEq p o with e' | e'
      · exact .inr e'
      · subst e; subst e'
        obtain ⟨n, _, h1⟩ := hi
        rw [hu] at h1
        exact absurd (Option.some.inj h1) (hk _)
  refine h.then (T := fun x p => x = b ∧ p = o) ⟨rfl, rfl, rfl, by simp, fun x p _ hne => cell_setCell_ne _ _ _ _ _ _ (by omega), fun x hx => by simp, fun x hx hne => Below.heap_setCell _ _ _ _ (fun e => hne o ⟨e, rfl⟩), fun x hx => shape_setCell _ _ _ _, fun x p hx => key _ _ x p h64 hx, fun x p hx => key _ _ x p h8 hx, fun x hx => hx.setCell _ _⟩ ?_
  rintro x p hx ⟨rfl, rfl⟩; exact hS hx
theorem Fl.isB1 {w : World} {b p m : Nat} {a : Int} {f : Nat} {n : Bool} {v : Value} {e : Int} (h : Fl w b p m a f n v e) : IsB w b 1 := ⟨m, h.m8, h.c1⟩
theorem Fl.isB3 {w : World} {b p m : Nat} {a : Int} {f : Nat} {n : Bool} {v : Value} {e : Int} (h : Fl w b p m a f n v e) : IsB w b 3 := ⟨f, h.f8, h.c3⟩
theorem Fl.lt {w : World} {b p m : Nat} {a : Int} {f : Nat} {n : Bool} {v : Value} {e : Int} (h : Fl w b p m a f n v e) : b < w.heap.size := h.plain.lt
theorem Fl.chg {S : Nat → Nat → Prop} {w w' : World} {b p m : Nat} {a : Int} {f : Nat} {n : Bool} {v : Value} {e : Int} (h : Fl w b p m a f n v e) (hc : Chg S w w') (hS : ∀ o, ¬ S b o) : Fl w' b p m a f n v e where
  c0 := (hc.cell _ _ h.lt (hS 0)).trans h.c0
  c1 := (hc.cell _ _ h.lt (hS 1)).trans h.c1
  c2 := (hc.cell _ _ h.lt (hS 2)).trans h.c2
  c3 := (hc.cell _ _ h.lt (hS 3)).trans h.c3
  c4 := (hc.cell _ _ h.lt (hS 4)).trans h.c4
  c5 := (hc.cell _ _ h.lt (hS 5)).trans h.c5
  c6 := (hc.cell _ _ h.lt (hS 6)).trans h.c6
  sl := h.sl
  plain := hc.plain _ h.plain
  own := h.own
  m8 := h.m8
  f8 := h.f8
theorem Fl.drewN {w : World} {b p m : Nat} {a : Int} {f : Nat} {n : Bool} {v : Value} {e : Int} (h : Fl w b p m a f n v e) (k : Nat) : Fl (w.drewN k) b p m a f n v e := h.chg ((Chg.refl No w).drewN k) fun _ f => f
theorem Fl.set0 {w : World} {b p m : Nat} {a : Int} {f : Nat} {n : Bool} {v : Value} {e : Int} (h : Fl w b p m a f n v e) (p' : Nat) : Fl (w.setCell ⟨b, 0, none⟩ (.int .u32 p')) b p' m a f n v e where
  c0 := World.cell?_setCell_same _ _ _ h.c0
  c1 := (cell_setCell_ne _ _ _ _ _ _ (.inr (by omega))).trans h.c1
  c2 := (cell_setCell_ne _ _ _ _ _ _ (.inr (by omega))).trans h.c2
  c3 := (cell_setCell_ne _ _ _ _ _ _ (.inr (by omega))).trans h.c3
  c4 := (cell_setCell_ne _ _ _ _ _ _ (.inr (by omega))).trans h.c4
  c5 := (cell_setCell_ne _ _ _ _ _ _ (.inr (by omega))).trans h.c5
  c6 := (cell_setCell_ne _ _ _ _ _ _ (.inr (by omega))).trans h.c6
  sl := h.sl
  plain := h.plain.setCell _ _
  own := h.own
  m8 := h.m8
  f8 := h.f8
theorem Fl.put0 {w : World} {b p m : Nat} {a : Int} {f : Nat} {n : Bool} {v : Value} {e : Int} (h : Fl w b p m a f n v e) {S : Nat → Nat → Prop} {w0 : World} (hc : Chg S w0 w) (p' : Nat) (hS : b < w0.heap.size → S b 0) : Chg S w0 (w.setCell ⟨b, 0, none⟩ (.int .u32 p')) := hc.setO _ h.c0 (fun n hn => by cases hn) (fun n hn => by cases hn) hS
theorem Fl.set1 {w : World} {b p m : Nat} {a : Int} {f : Nat} {n : Bool} {v : Value} {e : Int} (h : Fl w b p m a f n v e) (m' : Nat) (h8 : m' < 256) : Fl (w.setCell ⟨b, 1, none⟩ (.int .u8 m')) b p m' a f n v e where
  c0 := (cell_setCell_ne _ _ _ _ _ _ (.inr (by omega))).trans h.c0
  c1 := World.cell?_setCell_same _ _ _ h.c1
  c2 := (cell_setCell_ne _ _ _ _ _ _ (.inr (by omega))).trans h.c2
  c3 := (cell_setCell_ne _ _ _ _ _ _ (.inr (by omega))).trans h.c3
  c4 := (cell_setCell_ne _ _ _ _ _ _ (.inr (by omega))).trans h.c4
  c5 := (cell_setCell_ne _ _ _ _ _ _ (.inr (by omega))).trans h.c5
  c6 := (cell_setCell_ne _ _ _ _ _ _ (.inr (by omega))).trans h.c6
  sl := h.sl
  plain := h.plain.setCell _ _
  own := h.own
  m8 := h8
  f8 := h.f8
theorem Fl.put1 {w : World} {b p m : Nat} {a : Int} {f : Nat} {n : Bool} {v : Value} {e : Int} (h : Fl w b p m a f n v e) {S : Nat → Nat → Prop} {w0 : World} (hc : Chg S w0 w) (m' : Nat) (h8 : m' < 256) (hS : b < w0.heap.size → S b 1) : Chg S w0 (w.setCell ⟨b, 1, none⟩ (.int .u8 m')) := hc.setB h.isB1 h8 hS
theorem Fl.set2 {w : World} {b p m : Nat} {a : Int} {f : Nat} {n : Bool} {v : Value} {e : Int} (h : Fl w b p m a f n v e) (a' : Int) : Fl (w.setCell ⟨b, 2, none⟩ (.int .i8 a')) b p m a' f n v e where
  c0 := (cell_setCell_ne _ _ _ _ _ _ (.inr (by omega))).trans h.c0
  c1 := (cell_setCell_ne _ _ _ _ _ _ (.inr (by omega))).trans h.c1
  c2 := World.cell?_setCell_same _ _ _ h.c2
  c3 := (cell_setCell_ne _ _ _ _ _ _ (.inr (by omega))).trans h.c3
  c4 := (cell_setCell_ne _ _ _ _ _ _ (.inr (by omega))).trans h.c4
  c5 := (cell_setCell_ne _ _ _ _ _ _ (.inr (by omega))).trans h.c5
  c6 := (cell_setCell_ne _ _ _ _ _ _ (.inr (by omega))).trans h.c6
  sl := h.sl
  plain := h.plain.setCell _ _
  own := h.own
  m8 := h.m8
  f8 := h.f8
theorem Fl.put2 {w : World} {b p m : Nat} {a : Int} {f : Nat} {n : Bool} {v : Value} {e : Int} (h : Fl w b p m a f n v e) {S : Nat → Nat → Prop} {w0 : World} (hc : Chg S w0 w) (a' : Int) (hS : b < w0.heap.size → S b 2) : Chg S w0 (w.setCell ⟨b, 2, none⟩ (.int .i8 a')) := hc.setO _ h.c2 (fun n hn => by cases hn) (fun n hn => by cases hn) hS
theorem Fl.set3 {w : World} {b p m : Nat} {a : Int} {f : Nat} {n : Bool} {v : Value} {e : Int} (h : Fl w b p m a f n v e) (f' : Nat) (h8 : f' < 256) : Fl (w.setCell ⟨b, 3, none⟩ (.int .u8 f')) b p m a f' n v e where
  c0 := (cell_setCell_ne _ _ _ _ _ _ (.inr (by omega))).trans h.c0
  c1 := (cell_setCell_ne _ _ _ _ _ _ (.inr (by omega))).trans h.c1
  c2 := (cell_setCell_ne _ _ _ _ _ _ (.inr (by omega))).trans h.c2
  c3 := World.cell?_setCell_same _ _ _ h.c3
  c4 := (cell_setCell_ne _ _ _ _ _ _ (.inr (by omega))).trans h.c4
  c5 := (cell_setCell_ne _ _ _ _ _ _ (.inr (by omega))).trans h.c5
  c6 := (cell_setCell_ne _ _ _ _ _ _ (.inr (by omega))).trans h.c6
  sl := h.sl
  plain := h.plain.setCell _ _
  own := h.own
  m8 := h.m8
  f8 := h8
theorem Fl.put3 {w : World} {b p m : Nat} {a : Int} {f : Nat} {n : Bool} {v : Value} {e : Int} (h : Fl w b p m a f n v e) {S : Nat → Nat → Prop} {w0 : World} (hc : Chg S w0 w) (f' : Nat) (h8 : f' < 256) (hS : b < w0.heap.size → S b 3) : Chg S w0 (w.setCell ⟨b, 3, none⟩ (.int .u8 f')) := hc.setB h.isB3 h8 hS
theorem Fl.set4 {w : World} {b p m : Nat} {a : Int} {f : Nat} {n : Bool} {v : Value} {e : Int} (h : Fl w b p m a f n v e) (n' : Bool) : Fl (w.setCell ⟨b, 4, none⟩ (.bool n')) b p m a f n' v e where
  c0 := (cell_setCell_ne _ _ _ _ _ _ (.inr (by omega))).trans h.c0
  c1 := (cell_setCell_ne _ _ _ _ _ _ (.inr (by omega))).trans h.c1
  c2 := (cell_setCell_ne _ _ _ _ _ _ (.inr (by omega))).trans h.c2
  c3 := (cell_setCell_ne _ _ _ _ _ _ (.inr (by omega))).trans h.c3
  c4 := World.cell?_setCell_same _ _ _ h.c4
  c5 := (cell_setCell_ne _ _ _ _ _ _ (.inr (by omega))).trans h.c5
  c6 := (cell_setCell_ne _ _ _ _ _ _ (.inr (by omega))).trans h.c6
  sl := h.sl
  plain := h.plain.setCell _ _
  own := h.own
  m8 := h.m8
  f8 := h.f8
theorem Fl.put4 {w : World} {b p m : Nat} {a : Int} {f : Nat} {n : Bool} {v : Value} {e : Int} (h : Fl w b p m a f n v e) {S : Nat → Nat → Prop} {w0 : World} (hc : Chg S w0 w) (n' : Bool) (hS : b < w0.heap.size → S b 4) : Chg S w0 (w.setCell ⟨b, 4, none⟩ (.bool n')) := hc.setO _ h.c4 (fun n hn => by cases hn) (fun n hn => by cases hn) hS
theorem Fl.set5 {w : World} {b p m : Nat} {a : Int} {f : Nat} {n : Bool} {v : Value} {e : Int} (h : Fl w b p m a f n v e) (v' : Value) (hsl : ∃ x y z, v' = .slice x y z) : Fl (w.setCell ⟨b, 5, none⟩ v') b p m a f n v' e where
  c0 := (cell_setCell_ne _ _ _ _ _ _ (.inr (by omega))).trans h.c0
  c1 := (cell_setCell_ne _ _ _ _ _ _ (.inr (by omega))).trans h.c1
  c2 := (cell_setCell_ne _ _ _ _ _ _ (.inr (by omega))).trans h.c2
  c3 := (cell_setCell_ne _ _ _ _ _ _ (.inr (by omega))).trans h.c3
  c4 := (cell_setCell_ne _ _ _ _ _ _ (.inr (by omega))).trans h.c4
  c5 := World.cell?_setCell_same _ _ _ h.c5
  c6 := (cell_setCell_ne _ _ _ _ _ _ (.inr (by omega))).trans h.c6
  sl := hsl
  plain := h.plain.setCell _ _
  own := h.own
  m8 := h.m8
  f8 := h.f8
theorem Fl.put5 {w : World} {b p m : Nat} {a : Int} {f : Nat} {n : Bool} {v : Value} {e : Int} (h : Fl w b p m a f n v e) {S : Nat → Nat → Prop} {w0 : World} (hc : Chg S w0 w) (v' : Value) (hS : b < w0.heap.size → S b 5) : Chg S w0 (w.setCell ⟨b, 5, none⟩ v') := hc.setO _ h.c5 (fun n hn => by obtain ⟨_, _, _, rfl⟩ := h.sl; cases hn) (fun n hn => by obtain ⟨_, _, _, rfl⟩ := h.sl; cases hn) hS
theorem Fl.set6 {w : World} {b p m : Nat} {a : Int} {f : Nat} {n : Bool} {v : Value} {e : Int} (h : Fl w b p m a f n v e) (e' : Int) : Fl (w.setCell ⟨b, 6, none⟩ (.int .i32 e')) b p m a f n v e' where
  c0 := (cell_setCell_ne _ _ _ _ _ _ (.inr (by omega))).trans h.c0
  c1 := (cell_setCell_ne _ _ _ _ _ _ (.inr (by omega))).trans h.c1
  c2 := (cell_setCell_ne _ _ _ _ _ _ (.inr (by omega))).trans h.c2
  c3 := (cell_setCell_ne _ _ _ _ _ _ (.inr (by omega))).trans h.c3
  c4 := (cell_setCell_ne _ _ _ _ _ _ (.inr (by omega))).trans h.c4
  c5 := (cell_setCell_ne _ _ _ _ _ _ (.inr (by omega))).trans h.c5
  c6 := World.cell?_setCell_same _ _ _ h.c6
  sl := h.sl
  plain := h.plain.setCell _ _
  own := h.own
  m8 := h.m8
  f8 := h.f8
theorem Fl.put6 {w : World} {b p m : Nat} {a : Int} {f : Nat} {n : Bool} {v : Value} {e : Int} (h : Fl w b p m a f n v e) {S : Nat → Nat → Prop} {w0 : World} (hc : Chg S w0 w) (e' : Int) (hS : b < w0.heap.size → S b 6) : Chg S w0 (w.setCell ⟨b, 6, none⟩ (.int .i32 e')) := hc.setO _ h.c6 (fun n hn => by cases hn) (fun n hn => by cases hn) hS
set_option maxHeartbeats 1000000 in
theorem float_SetPrec_new (b P m : Nat) (a : Int) (f : Nat) (n : Bool) (v : Value) (e : Int) (w : World) (h : Fl w b 0 m a f n v e) (hP0 : 0 < P) (hP : P < 65536) :
    Calls Tryz.prog 130 #[.pointer (some ⟨b, 0, none⟩), .int .u64 P] w fun r w' => r = .returned (.pointer (some ⟨b, 0, none⟩)) ∧ Fl w' b P m 0 f n v e ∧ Chg (Blk b) w w' := by
  have h1 := h.set2 0
  have h2 := h.put2 (Chg.refl (Blk b) w) 0 (fun _ => rfl)
  have F := Lib.hid (h1.set0 P)
  have C := Lib.hid (h1.put0 h2 P (fun _ => rfl))
  clear h1 h2
  obtain ⟨c0, c1, c2, c3, c4, c5, c6, -, hp, -, -, -⟩ := h
  have f0 := hp.free 0
  have f2 := hp.free 2
  have t1 : ((P : Int) == 0) = false := by simp; omega
  have t2 : decide (4294967295 < (P : Int)) = false := decide_eq_false (by omega)
  have t3 : ¬ (P : Int) < 0 := by omega
  have e1 : IntKind.u32.wrap (P : Int) = (P : Int) := by rw [IntKind.wrap_u32]; omega
  clear hp hP hP0
  go_enter Tryz.func130, Tryz.ntmps130
  go_wp2_with fail
  go_ret
  exact ⟨rfl, F.out, C.out⟩
set_option maxHeartbeats 1000000 in
theorem float_SetMode (b p M m : Nat) (a : Int) (f : Nat) (n : Bool) (v : Value) (e : Int) (w : World) (h : Fl w b p m a f n v e) (hM : M < 256) :
    Calls Tryz.prog 131 #[.pointer (some ⟨b, 0, none⟩), .int .u8 M] w fun r w' => r = .returned (.pointer (some ⟨b, 0, none⟩)) ∧ Fl w' b p M 0 f n v e ∧ Chg (Blk b) w w' := by
  have h1 := h.set1 M hM
  have h2 := h.put1 (Chg.refl (Blk b) w) M hM (fun _ => rfl)
  have F := Lib.hid (h1.set2 0)
  have C := Lib.hid (h1.put2 h2 0 (fun _ => rfl))
  clear h1 h2
  obtain ⟨c0, c1, c2, c3, c4, c5, c6, -, hp, -, -, -⟩ := h
  have f0 := hp.free 1
  have f2 := hp.free 2
  clear hp
  go_enter Tryz.func131, Tryz.ntmps131
  go_wp2_with fail
  go_ret
  exact ⟨rfl, F.out, C.out⟩
/-- A new Float. -/
theorem Fl.new (w : World) (hs : 17 ≤ w.heap.size) : Fl (w.alloc (.cells #[.int .u32 0, .int .u8 0, .int .i8 0, .int .u8 0, .bool false, .slice none 0 0, .int .i32 0] 176)) w.heap.size 0 0 0 0 false (.slice none 0 0) 0 := by
  refine ⟨?_, ?_, ?_, ?_, ?_, ?_, ?_, ⟨_, _, _, rfl⟩, Plain.new _ _ _, hs, by omega, by omega⟩
  all_goals exact World.cell?_alloc_new _ _ _ _
set_option maxHeartbeats 1000000 in
theorem impl_fresh (P M : Nat) (w : World) (hP0 : 0 < P) (hP : P < 65536) (hM : M < 6) (hs : 17 ≤ w.heap.size) :
    Calls Tryz.prog 81 #[.int .u64 P, .int .i64 M] w fun r w' => r = .returned (.pointer (some ⟨w.heap.size, 0, none⟩)) ∧ Fl w' w.heap.size P M 0 0 false (.slice none 0 0) 0 ∧ Chg No w w' := by
  have e1 : IntKind.u8.wrap (M : Int) = (M : Int) := by rw [IntKind.wrap_u8]; omega
  have h0 := Fl.new w hs
  have C0 := Lib.hid ((Chg.refl No w).alloc (.cells #[.int .u32 0, .int .u8 0, .int .i8 0, .int .u8 0, .bool false, .slice none 0 0, .int .i32 0] 176))
  have H1 := Lib.hid (float_SetPrec_new _ P _ _ _ _ _ _ _ h0 hP0 hP)
  clear h0
  go_enter Tryz.func81, Tryz.ntmps81
  go_wp2_with fail
  refine H1.out.mono ?_
  rintro e w1 ⟨rfl, h1, k1⟩
  have K1 := Lib.hid k1
  have H2 := Lib.hid (float_SetMode _ _ M _ _ _ _ _ _ _ h1 (by omega))
  clear h1 k1
  go_wp2_with fail
  refine H2.out.mono ?_
  rintro e w2 ⟨rfl, h2, k2⟩
  have F := Lib.hid h2
  have C := Lib.hid ((C0.out.then K1.out (fun x o hx h => by simp [Blk] at h; omega)).then k2 (fun x o hx h => by simp [Blk] at h; omega))
  clear h2 k2
  go_wp2_with fail
  go_ret
  exact ⟨rfl, F.out, C.out⟩
end Go.Proofs.YtacfhndledcmgaaGreatDoor
