/- Lemmas for the law FnBack: decimals in memory, and their shift. Conditions: those in each theorem; none besides. -/
import Derived.Test.YtacfhndledcmgaaGreatDoorJ3
import Derived.Deep.CutBlock
import Derived.Deep.DeepCutAuto
set_option linter.unusedVariables false
set_option linter.unusedSimpArgs false
namespace Go.Proofs.YtacfhndledcmgaaGreatDoor
open Go.RowKit
theorem gd_lt {l : List Nat} {j : Nat} (h : j < l.length) : l.getD j 0 = l[j] := by simp [List.getD, h]
theorem gd_ge {l : List Nat} {j : Nat} (h : l.length ≤ j) : l.getD j 0 = 0 := by simp [List.getD, h]
/-- k is the length of a list of figures without the zeros at its end. -/
def TrimAt (ds : List Nat) (k : Nat) : Prop := k ≤ ds.length ∧ (∀ j, k ≤ j → ds.getD j 0 = 0) ∧ (k = 0 ∨ ds.getD (k - 1) 0 ≠ 0)
/-- The number that decimal figures stand for, the highest first. -/
def Nd (l : List Nat) : Nat := l.foldl (fun a d => 10 * a + d) 0
theorem Nd_snoc (l : List Nat) (d : Nat) : Nd (l ++ [d]) = 10 * Nd l + d := by simp [Nd]
/-- The same of the first r figures, zeros behind the last one. -/
def Dp (ds : List Nat) (r : Nat) : Nat := Nd (ds.take r) * 10 ^ (r - ds.length)
theorem Dp_zero (ds : List Nat) : Dp ds 0 = 0 := by simp [Dp, Nd]
theorem Dp_succ (ds : List Nat) (r : Nat) : Dp ds (r + 1) = 10 * Dp ds r + ds.getD r 0 := by
  unfold Dp
  by_cases h : r < ds.length
  · rw [List.take_succ_eq_append_getElem h, Nd_snoc, gd_lt h, show r + 1 - ds.length = 0 by omega, show r - ds.length = 0 by omega]
    simp
  · rw [gd_ge (by omega), List.take_of_length_le (by omega), List.take_of_length_le (by omega), show r + 1 - ds.length = (r - ds.length) + 1 by omega, Nat.pow_succ]
    simp only [Nat.add_zero]
    rw [Nat.mul_comm (10 ^ _) 10, Nat.mul_left_comm]
theorem Dp_len (ds : List Nat) : Dp ds ds.length = Nd ds := by simp [Dp]
theorem gd_snoc_lt {l : List Nat} {d j : Nat} (h : j < l.length) : (l ++ [d]).getD j 0 = l.getD j 0 := by
  rw [gd_lt h, gd_lt (by simp; omega), List.getElem_append_left h]
theorem gd_snoc_eq (l : List Nat) (d : Nat) : (l ++ [d]).getD l.length 0 = d := by
  rw [gd_lt (by simp)]; simp
theorem info5 : (Tryz.prog.info? 5).map (fun i => (i.zero, i.size, i.bytes)) = some (some (.int .u8 0), 1, 1) := by kernel_rfl
/-- The text of figures. -/
def asc (l : List Nat) : List Nat := l.map fun d => 48 + d
theorem asc_length (l : List Nat) : (asc l).length = l.length := by simp [asc]
theorem asc_lt {l : List Nat} (h : ∀ d ∈ l, d < 10) : ∀ c ∈ asc l, c < 256 := by
  intro c hc
  obtain ⟨d, hd, rfl⟩ := List.mem_map.1 hc
  have := h d hd
  omega
theorem archLog_val (w : World) : (callFunc 315 #[.float .f64 4603804719079489536]).run Tryz.prog w = .ok (.value (.float .f64 13825510489450817230)) w := by kernel_rfl
/-- 10, 10/16, its logarithm, the latter by log 2, and the logarithm of 10 to base 2, as patterns of bits. -/
def F10 : Nat := 4621819117588971520
def FM : Nat := 4603804719079489536
def FLog : Nat := 13825510489450817230
def FLm : Nat := 13827654785158443579
def FL10 : Nat := 4614662735865160561
def F4 : Nat := 4616189618054758400
def I10 : Int := 4621819117588971520
def I10b : Int := 1125899906842624
def IM : Int := 4603804719079489536
set_option maxRecDepth 100000 in
set_option maxHeartbeats 1000000 in
theorem math_Log (w : World) : Calls Tryz.prog 304 #[.float .f64 FM] w fun e w' => e = .returned (.float .f64 FLog) ∧ w = w' := by
  have h : ∀ w, (callFunc 315 #[.float .f64 FM]).run Tryz.prog w = .ok (.value (.float .f64 FLog)) w := archLog_val
  go_enter Tryz.func304, Tryz.ntmps304
  go_wp2_with fail
  go_ret
  exact ⟨rfl, rfl⟩
theorem f64bits (w : World) : (callFunc 327 #[.float .f64 F10]).run Tryz.prog w = .ok (.value (.int .u64 I10)) w := by kernel_rfl
theorem f64from10 (w : World) : (callFunc 328 #[.int .u64 I10]).run Tryz.prog w = .ok (.value (.float .f64 F10)) w := by kernel_rfl
theorem f64fromM (w : World) : (callFunc 328 #[.int .u64 IM]).run Tryz.prog w = .ok (.value (.float .f64 FM)) w := by kernel_rfl
theorem fbit1 : bits BinOp.andNot .u64 I10 9223372036854775808 = I10 := by decide +kernel
theorem fbit2 : bits BinOp.andNot .u64 I10 9218868437227405312 = I10b := by decide +kernel
theorem fbit3 : bits BinOp.or .u64 I10b 4602678819172646912 = IM := by decide +kernel
theorem fbit4 : bits BinOp.and .u64 (I10 / 4503599627370496) 2047 = 1026 := by decide +kernel
set_option maxRecDepth 100000 in
set_option maxHeartbeats 1000000 in
theorem math_Abs10 (w : World) : Calls Tryz.prog 335 #[.float .f64 F10] w fun e w' => e = .returned (.float .f64 F10) ∧ w = w' := by
  have h1 := f64bits
  have h2 := f64from10
  have h3 := fbit1
  go_enter Tryz.func335, Tryz.ntmps335
  go_wp2_with fail
  go_ret
  exact ⟨rfl, rfl⟩
theorem fc1 (w : World) : (binOp .gtr 273 (.float .f64 F10) (.float .f64 9218868437227405311)).run Tryz.prog w = .ok (.bool false) w := by kernel_rfl
theorem fc2 (w : World) : (binOp .neq 273 (.float .f64 F10) (.float .f64 F10)).run Tryz.prog w = .ok (.bool false) w := by kernel_rfl
theorem fc3 (w : World) : (binOp .lss 273 (.float .f64 F10) (.float .f64 4503599627370496)).run Tryz.prog w = .ok (.bool false) w := by kernel_rfl
theorem fc4 (w : World) : (binOp .eql 273 (.float .f64 F10) (.float .f64 0)).run Tryz.prog w = .ok (.bool false) w := by kernel_rfl
theorem fc5 (w : World) : (binOp .eql 273 (.float .f64 FM) (.float .f64 4602678819172646912)).run Tryz.prog w = .ok (.bool false) w := by kernel_rfl
theorem fc6 (w : World) : (binOp .mul 273 (.float .f64 FLog) (.float .f64 4609176140021203710)).run Tryz.prog w = .ok (.float .f64 FLm) w := by kernel_rfl
theorem fc7 (w : World) : (binOp .add 273 (.float .f64 FLm) (.float .f64 F4)).run Tryz.prog w = .ok (.float .f64 FL10) w := by kernel_rfl
theorem fc8 (w : World) : (convert 3 273 (.int .i64 4)).run Tryz.prog w = .ok (.float .f64 F4) w := by kernel_rfl
theorem fc9 (w : World) : (convert 3 273 (.int .i64 10)).run Tryz.prog w = .ok (.float .f64 F10) w := by kernel_rfl
set_option maxRecDepth 100000 in
set_option maxHeartbeats 1000000 in
theorem math_IsInf10 (w : World) : Calls Tryz.prog 324 #[.float .f64 F10, .int .i64 0] w fun e w' => e = .returned (.bool false) ∧ w = w' := by
  have h1 := fc1
  go_enter Tryz.func324, Tryz.ntmps324
  go_wp2_with (go_at_call 335; refine (math_Abs10 _).mono ?_; rintro e w' ⟨rfl, rfl⟩)
  go_ret
  exact ⟨rfl, rfl⟩
set_option maxRecDepth 100000 in
set_option maxHeartbeats 1000000 in
theorem math_IsNaN10 (w : World) : Calls Tryz.prog 325 #[.float .f64 F10] w fun e w' => e = .returned (.bool false) ∧ w = w' := by
  have h1 := fc2
  go_enter Tryz.func325, Tryz.ntmps325
  go_wp2_with fail
  go_ret
  exact ⟨rfl, rfl⟩
set_option maxRecDepth 100000 in
set_option maxHeartbeats 1000000 in
theorem math_normalize10 (w : World) : Calls Tryz.prog 326 #[.float .f64 F10] w fun e w' => e = .returned (.tuple #[.float .f64 F10, .int .i64 0]) ∧ w = w' := by
  have h1 := fc3
  go_enter Tryz.func326, Tryz.ntmps326
  go_wp2_with (go_at_call 335; refine (math_Abs10 _).mono ?_; rintro e w' ⟨rfl, rfl⟩)
  go_ret2
  exact ⟨rfl, rfl⟩
set_option maxRecDepth 100000 in
set_option maxHeartbeats 1000000 in
theorem math_frexp10 (w : World) : Calls Tryz.prog 314 #[.float .f64 F10] w fun e w' => e = .returned (.tuple #[.float .f64 FM, .int .i64 4]) ∧ w = w' := by
  have h1 := fc4
  have h2 := f64bits
  have h3 := f64fromM
  have h4 := fbit2
  have h5 := fbit3
  have h6 := fbit4
  go_enter Tryz.func314, Tryz.ntmps314
  go_wp2_with (first
    | (go_at_call 324; refine (math_IsInf10 _).mono ?_; rintro e w' ⟨rfl, rfl⟩)
    | (go_at_call 325; refine (math_IsNaN10 _).mono ?_; rintro e w' ⟨rfl, rfl⟩)
    | (go_at_call 326; refine (math_normalize10 _).mono ?_; rintro e w' ⟨rfl, rfl⟩))
  go_ret2
  exact ⟨rfl, rfl⟩
set_option maxRecDepth 100000 in
set_option maxHeartbeats 1000000 in
theorem math_Frexp10 (w : World) : Calls Tryz.prog 303 #[.float .f64 F10] w fun e w' => e = .returned (.tuple #[.float .f64 FM, .int .i64 4]) ∧ w = w' := by
  go_enter Tryz.func303, Tryz.ntmps303
  go_wp2_with (go_at_call 314; refine (math_frexp10 _).mono ?_; rintro e w' ⟨rfl, rfl⟩)
  go_ret2
  exact ⟨rfl, rfl⟩
set_option maxRecDepth 100000 in
set_option maxHeartbeats 1000000 in
theorem math_log2_10 (w : World) : Calls Tryz.prog 274 #[.float .f64 F10] w fun e w' => e = .returned (.float .f64 FL10) ∧ w = w' := by
  have h1 := fc5
  have h2 := fc6
  have h3 := fc7
  have h4 := fc8
  go_enter Tryz.func274, Tryz.ntmps274
  go_wp2_with (first
    | (go_at_call 303; refine (math_Frexp10 _).mono ?_; rintro e w' ⟨rfl, rfl⟩)
    | (go_at_call 304; refine (math_Log _).mono ?_; rintro e w' ⟨rfl, rfl⟩))
  go_ret
  exact ⟨rfl, rfl⟩
set_option maxRecDepth 100000 in
set_option maxHeartbeats 1000000 in
theorem math_Log2_10 (w : World) : Calls Tryz.prog 236 #[.float .f64 F10] w fun e w' => e = .returned (.float .f64 FL10) ∧ w = w' := by
  go_enter Tryz.func236, Tryz.ntmps236
  go_wp2_with (go_at_call 274; refine (math_log2_10 _).mono ?_; rintro e w' ⟨rfl, rfl⟩)
  go_ret
  exact ⟨rfl, rfl⟩
/-- How many figures a number of n bits has at most, less one: n by log 10, cut. -/
def est (n : Nat) : Nat := match (FloatKind.f64.format.div (FloatKind.f64.nearest n) FL10) with
  | some b => match (FloatKind.f64.decode b).toInt .zero with
    | some v => v.toNat
    | none => 0
  | none => 0
/-- The quotient, as a pattern of bits. -/
def estF (n : Nat) : Nat := ((FloatKind.f64.format.div (FloatKind.f64.nearest n) FL10).getD 0)
def estOk (n : Nat) : Bool := decide (FloatKind.f64.format.div (FloatKind.f64.nearest n) FL10 = some (estF n)) && decide ((FloatKind.f64.decode (estF n)).toInt .zero = some (est n : Int)) && decide (est n ≤ n) && decide (2 ^ n ≤ 10 ^ (est n + 1))
set_option maxRecDepth 100000 in
theorem estAll : (List.range 1400).all estOk = true := by decide +kernel
theorem est_ok {n : Nat} (h : n < 1400) : FloatKind.f64.format.div (FloatKind.f64.nearest n) FL10 = some (estF n) ∧ (FloatKind.f64.decode (estF n)).toInt .zero = some (est n : Int) ∧ est n ≤ n ∧ 2 ^ n ≤ 10 ^ (est n + 1) := by
  have := List.all_eq_true.1 estAll n (List.mem_range.2 h)
  simp only [estOk, Bool.and_eq_true, decide_eq_true_eq] at this
  exact ⟨this.1.1.1, this.1.1.2, this.1.2, this.2⟩
theorem est_conv (n : Nat) (w : World) : (convert 3 273 (.int .i64 n)).run Tryz.prog w = .ok (.float .f64 (FloatKind.f64.nearest n)) w := by
  simp [convert, run_underlying Tryz.underlying3, run_underlying Tryz.underlying273, Conv.intToFloat]
theorem est_div {n : Nat} (h : n < 1400) (w : World) : (binOp .quo 273 (.float .f64 (FloatKind.f64.nearest n)) (.float .f64 FL10)).run Tryz.prog w = .ok (.float .f64 (estF n)) w := by
  simp [binOp, Op.floatArith, (est_ok h).1]
theorem est_int {n : Nat} (h : n < 1400) (w : World) : (convert 273 3 (.float .f64 (estF n))).run Tryz.prog w = .ok (.int .i64 (est n)) w := by
  have h1 := est_ok h
  have hm : IntKind.i64.min = -9223372036854775808 := by decide
  simp [convert, run_underlying Tryz.underlying3, run_underlying Tryz.underlying273, Conv.floatToInt, h1.2.1]
  intro hc
  have h2 := hc (by rw [hm]; omega)
  omega
/-- 10 to 19, behind a name. -/
def BB : Nat := 10000000000000000000
theorem BB_eq : BB = 10 ^ 19 := rfl
theorem BB_lt : BB < WB := by decide
/-- The figure of X at 10 to k. -/
def dg (X k : Nat) : Nat := X / 10 ^ k % 10
/-- The places from i on hold the figures of X. -/
def CvM (w : World) (sb so sl X i : Nat) : Prop := ∀ p, i ≤ p → p < sl → wd w sb (so + p) = 48 + dg X (sl - 1 - p)
/-- The state of the inner loop. -/
def CvR (X sl Q i r j : Nat) : Prop := X / 10 ^ (sl - i) = Q * 10 ^ (19 - j) + r ∧ r < 10 ^ (19 - j) ∧ j ≤ 19 ∧ i ≤ sl
theorem CvR.step {X sl Q i r j : Nat} (h : CvR X sl Q i r j) (hj : j < 19) (hi : 0 < i) : CvR X sl Q (i - 1) (r / 10) (j + 1) ∧ dg X (sl - 1 - (i - 1)) = r % 10 := by
  obtain ⟨h1, h2, h3, h4⟩ := h
  have e1 : 19 - j = (19 - (j + 1)) + 1 := by omega
  rw [e1, Nat.pow_succ] at h1 h2
  have e3 : sl - 1 - (i - 1) = sl - i := by omega
  refine ⟨⟨?_, ?_, by omega, by omega⟩, ?_⟩
  · rw [show sl - (i - 1) = (sl - i) + 1 by omega, Nat.pow_succ, ← Nat.div_div_eq_div_mul, h1]
    generalize 10 ^ (19 - (j + 1)) = T
    rw [← Nat.mul_assoc, Nat.add_comm, Nat.add_mul_div_right _ _ (by decide), Nat.add_comm]
  · rw [Nat.div_lt_iff_lt_mul (by decide)]; exact h2
  · unfold dg
    rw [e3, h1, ← Nat.mul_assoc, Nat.add_comm, Nat.add_mul_mod_self_right]
theorem CvM.put {w : World} {sb so sl X i d : Nat} {c : Nat} (h : CvM w sb so sl X i) (hn : NK .u8 256 w sb so sl c) (hi : 0 < i) (hil : i ≤ sl) (hd : d = dg X (sl - 1 - (i - 1))) (hd10 : d < 10) :
    CvM (w.setCell ⟨sb, so + (i - 1), none⟩ (.int .u8 (48 + d : Nat))) sb so sl X (i - 1) ∧ Chg (Rng sb so sl) w (w.setCell ⟨sb, so + (i - 1), none⟩ (.int .u8 (48 + d : Nat))) := by
  have hb := hn.isI (i - 1) (by have := hn.le; omega)
  refine ⟨fun p h1 h2 => ?_, Chg.setB (Chg.refl _ w) hb (by omega) (fun _ => ⟨rfl, by omega, by omega⟩)⟩
  by_cases e : p = i - 1
  · subst e
    rw [wd_setCell_same hb.cell, hd]
  · rw [wd_setCell_ne (.inr (by omega))]
    exact h p (by omega) h2
/-- The numbers of one figure, by name. -/
theorem cv_arith {r : Nat} (hr : r < WB) : ∃ t t10 d d48 : Nat, (r : Int) / 10 = (t : Int) ∧ IntKind.u64.wrap (t : Int) = (t : Int) ∧ IntKind.u64.wrap ((t : Int) * 10) = (t10 : Int) ∧ IntKind.u64.wrap ((r : Int) - (t10 : Int)) = (d : Int) ∧ 48 + (d : Int) = (d48 : Int) ∧ d < 10 ∧ t = r / 10 ∧ d = r % 10 ∧ d48 = 48 + d := by
  unfold WB at hr
  refine ⟨r / 10, r / 10 * 10, r % 10, 48 + r % 10, ?_, ?_, ?_, ?_, ?_, ?_, rfl, rfl, rfl⟩
  · omega
  · rw [IntKind.wrap_u64]; omega
  · rw [IntKind.wrap_u64]; omega
  · rw [IntKind.wrap_u64]; omega
  · omega
  · omega
theorem AlB.refl {w : World} {z : Value} (h : Ow w z) : AlB z z := by
  rcases h with rfl | ⟨b, o, n, c, rfl, hn⟩
  · exact .inr fun b o b' o' f => f.elim
  · exact .inl ⟨b, o, n, n, c, rfl, rfl⟩
set_option maxRecDepth 100000 in
set_option maxHeartbeats 2000000 in
theorem convertWords_leaf (q : Value) (X sb so sl sc : Nat) (stk : Value) (w : World) (hq : Nt w q X) (hX : Small X) (hs : NK .u8 256 w sb so sl sc) (hsl : sl < 1000000) (hXs : X < 10 ^ sl) (hne : ∀ x p, Fp q x p → x ≠ sb) (h17 : 17 ≤ w.heap.size) :
    Calls Tryz.prog 238 #[q, stk, .slice (some ⟨sb, so, none⟩) sl sc, .int .u64 10, .int .i64 19, .int .u64 BB, .slice none 0 0] w fun e w' => e = .returned (.tuple #[]) ∧ CvM w' sb so sl X 0 ∧ NK .u8 256 w' sb so sl sc ∧ Chg (fun x o => Fp q x o ∨ Rng sb so sl x o) w w' := by
  have hnil : ∀ W, (binOp .neq 275 (.slice none 0 0) (.slice none 0 0)).run Tryz.prog W = .ok (.bool false) W := fun W => by kernel_rfl
  have HSm := Lib.hid hX
  have HXs := Lib.hid hXs
  clear hX hXs
  go_enter Tryz.func238, Tryz.ntmps238
  go_upto_block 4 with fail
  go_cut [19] (fun iv wx => ∃ i : Nat, iv = .int .i64 i ∧ i ≤ sl ∧ Hid (CvM wx sb so sl X i) ∧ Hid (X / 10 ^ (sl - i) = 0) ∧ Hid (NK .u8 256 wx sb so sl sc) ∧ Hid (Chg (fun x o => Fp q x o ∨ Rng sb so sl x o) w wx))
  case first =>
    go_wp2_with fail
    go_loopg [0, 19] X (fun gk qv iv wr => ∃ i Q : Nat, iv = .int .i64 i ∧ Hid (Nt wr qv Q) ∧ Hid (Q ≤ gk ∧ Q ≤ X) ∧ i ≤ sl ∧ Hid (X / 10 ^ (sl - i) = Q) ∧ Hid (CvM wr sb so sl X i) ∧ Hid (NK .u8 256 wr sb so sl sc) ∧ Hid (Chg (fun x o => Fp q x o ∨ Rng sb so sl x o) w wr) ∧ Hid (∀ x p, Fp qv x p → Fp q x p ∨ w.heap.size ≤ x))
    case atStart => exact ⟨sl, X, rfl, Lib.hid hq, Lib.hid ⟨Nat.le_refl _, Nat.le_refl _⟩, Nat.le_refl _, Lib.hid (by simp), Lib.hid (fun p h1 h2 => by omega), Lib.hid hs, Lib.hid (Chg.refl _ _), Lib.hid (fun x p f => .inl f)⟩
    case round =>
      obtain ⟨i, Q, rfl, q1, q2, q3, q4, q5, q6, q7, q8⟩ := hrel
      obtain ⟨qa, qn, qc, rfl⟩ := q1.out.sl
      have hSQ : Small Q := Nat.lt_of_le_of_lt q2.out.2 HSm.out
      by_cases hQ : Q = 0
      · have hqn : qn = 0 := by
          rcases q1.out with ⟨h, _⟩ | ⟨b', o', n', c', h, hn, hv, hz⟩
          · cases h; rfl
          · cases h
            have := len_le (k := 0) hz (by rw [hv, hQ]; exact Nat.one_pos)
            omega
        subst hqn
        have HQ := Lib.hid hQ
        clear hQ
        go_wp2_with fail
        go_meet
        exact ⟨i, rfl, q3, q5, Lib.hid (by rw [q4.out]; exact HQ.out), q6, q7⟩
      · have hqn : 0 < qn := by
          rcases Nat.eq_zero_or_pos qn with e | e
          · subst e
            rcases q1.out with ⟨_, h⟩ | ⟨b', o', n', c', h, hn, hv, hz⟩
            · exact absurd h hQ
            · cases h; exact absurd hv.symm hQ
          · exact e
        have i1 : (0 : Int) < qn := by omega
        have HD := Lib.hid (nat_divW (.slice qa qn qc) (.slice qa qn qc) Q BB wr q1.out.ow q1.out hSQ (by decide) BB_lt (AlB.refl q1.out.ow) (Nat.le_trans h17 q7.out.size))
        have HQ := Lib.hid hQ
        clear hQ hSQ
        go_wp2_with fail
        refine HD.out.mono ?_
        rintro e w2 ⟨q', rfl, hr⟩
        obtain ⟨r0, hr0⟩ : ∃ r0, r0 = Q % BB := ⟨_, rfl⟩
        rw [← hr0]
        have HR := Lib.hid hr
        have HR0 := Lib.hid hr0
        clear hr hr0
        have hdis : ∀ x p, Fp (.slice qa qn qc) x p → x ≠ sb := fun x p f => by
          rcases q8.out x p f with f' | f'
          · exact hne x p f'
          · have := hs.lt; omega
        have N2 := Lib.hid (q6.out.chg km8 HR.out.chg)
        have C2 : Hid (CvM w2 sb so sl X i) := Lib.hid (fun p h1 h2 => (wd_congr (HR.out.chg.cell _ _ q6.out.lt (fun f => hdis _ _ f rfl))).trans (q5.out p h1 h2))
        obtain ⟨QB, hQBe⟩ : ∃ QB, QB = Q / BB := ⟨_, rfl⟩
        have hQB : Q / BB < Q := Nat.div_lt_self (Nat.pos_of_ne_zero HQ.out) (by decide)
        rw [← hQBe] at hQB
        rw [← hQBe] at HR
        have HQB := Lib.hid hQBe
        clear hQBe
        obtain ⟨g2, rfl, hg2⟩ : ∃ g2, gk = g2 + 1 ∧ Hid (QB ≤ g2) := ⟨gk - 1, by have := q2.out; omega, Lib.hid (by have := q2.out; omega)⟩
        have HQBl := Lib.hid hQB
        clear hQB
        have fin : ∀ (i' : Nat) (wx : World), i' ≤ sl → X / 10 ^ (sl - i') = QB → CvM wx sb so sl X i' → NK .u8 256 wx sb so sl sc → Chg (Rng sb so sl) w2 wx →
            ∃ i Q : Nat, Value.int .i64 (i' : Int) = .int .i64 i ∧ Hid (Nt wx q' Q) ∧ Hid (Q ≤ g2 ∧ Q ≤ X) ∧ i ≤ sl ∧ Hid (X / 10 ^ (sl - i) = Q) ∧ Hid (CvM wx sb so sl X i) ∧ Hid (NK .u8 256 wx sb so sl sc) ∧ Hid (Chg (fun x o => Fp q x o ∨ Rng sb so sl x o) w wx) ∧ Hid (∀ x p, Fp q' x p → Fp q x p ∨ w.heap.size ≤ x) := by
          intro i' wx u1 u2 u3 u4 u5
          refine ⟨i', QB, rfl, Lib.hid (HR.out.nt.chg u5 (fun x p f g => ?_)), Lib.hid ⟨hg2.out, by have := q2.out; have := HQBl.out; omega⟩, u1, Lib.hid u2, Lib.hid u3, Lib.hid u4, Lib.hid ((q7.out.then HR.out.chg (fun x p hx f => ?_)).then u5 (fun x p _ f => .inr f)), Lib.hid (fun x p f => ?_)⟩
          · rcases HR.out.fp x p f with f' | f'
            · exact hdis x p f' g.1
            · have := q6.out.lt; have := g.1; omega
          · rcases q8.out x p f with f' | f'
            · exact .inl f'
            · omega
          · rcases HR.out.fp x p f with f' | f'
            · exact q8.out x p f'
            · have := q7.out.size; exact .inr (by omega)
        have Fin := Lib.hid fin
        clear fin
        go_wp2_with fail
        go_loopg [19, 20, 21] 19 (fun gk iv rv jv wr => ∃ i r j : Nat, iv = .int .i64 i ∧ rv = .int .u64 r ∧ jv = .int .i64 j ∧ Hid (CvR X sl (QB) i r j) ∧ Hid (CvM wr sb so sl X i) ∧ Hid (NK .u8 256 wr sb so sl sc) ∧ Hid (Chg (Rng sb so sl) w2 wr) ∧ i ≤ sl ∧ j ≤ 19 ∧ Hid (19 - j ≤ gk))
        case atStart => exact ⟨i, r0, 0, rfl, rfl, rfl, Lib.hid ⟨by rw [q4.out, HR0.out, HQB.out, ← BB_eq, Nat.div_add_mod'], by rw [HR0.out, ← BB_eq]; exact Nat.mod_lt _ (by decide), by omega, q3⟩, C2, N2, Lib.hid (Chg.refl _ _), q3, by omega, Lib.hid (by omega)⟩
        case round =>
          clear C2 N2 q3 q4
          obtain ⟨i, r, j, rfl, rfl, rfl, p1, p2, p3, p4, p5, p6, p7⟩ := hrel
          by_cases hj : j = 19
          · subst hj
            go_wp2_with fail
            go_roundg g2
            case measure => omega
            case rel =>
            refine Fin.out i _ p5 ?_ p2.out p3.out p4.out
            obtain ⟨h1, h2, -, -⟩ := p1.out
            simp at h1 h2
            omega
          · have i1 : (j : Int) < 19 := by omega
            by_cases hi : i = 0
            · subst hi
              clear hj
              go_wp2_with fail
              go_roundg g2
              case measure => omega
              case rel =>
              refine Fin.out 0 _ p5 ?_ p2.out p3.out p4.out
              obtain ⟨h1, h2, -, -⟩ := p1.out
              rw [Nat.sub_zero, Nat.div_eq_of_lt HXs.out] at h1 ⊢
              have h10 : 0 < 10 ^ (19 - j) := Nat.pow_pos (by decide)
              rcases Nat.eq_zero_or_pos (QB) with e | e
              · exact e.symm
              · have := Nat.mul_pos e h10; omega
            · have i2 : (0 : Int) < i := by omega
              have i3 : (i : Int) - 1 < sl := by omega
              have i4 : 0 ≤ (i : Int) - 1 := by omega
              have i5 : ((i : Int) - 1).toNat = i - 1 := by omega
              have hrW : r < WB := by
                have h1 := p1.out.2.1
                have h2 : 10 ^ (19 - j) ≤ 10 ^ 19 := Nat.pow_le_pow_right (by decide) (by omega)
                have := BB_lt; rw [BB_eq] at this; omega
              obtain ⟨t, t10, d, d48, e1, e0, e2, e3, e4, hd10, ht, hd, hd48⟩ := cv_arith hrW
              obtain ⟨st1, st2⟩ := p1.out.step (by omega) (by omega)
              obtain ⟨z1, z2⟩ := p2.out.put p3.out (by omega) p5 (hd.trans st2.symm) hd10
              rw [← hd48] at z1 z2
              rw [← ht] at st1
              have cz := (p3.out.isI (i - 1) (by have := p3.out.le; omega)).cell
              have fz := p3.out.plain.free (so + (i - 1))
              have hd256 : d48 < 256 := by omega
              have ST := Lib.hid st1
              have Z1 := Lib.hid z1
              have Z2 := Lib.hid z2
              obtain ⟨g1, rfl⟩ : ∃ g1, gk = g1 + 1 := ⟨gk - 1, by have := p7.out; omega⟩
              clear st1 st2 z1 z2 hd48 hd ht hrW hj hi
              go_wp2_with fail
              go_roundg g1
              case measure => omega
              case rel => exact ⟨i - 1, t, j + 1, by go_num, rfl, by go_num, ST, Z1, Lib.hid (p3.out.chg km8 Z2.out), Lib.hid (p4.out.then Z2.out (fun _ _ _ f => f)), by omega, by omega, Lib.hid (by have := p7.out; omega)⟩
  case rest =>
    obtain ⟨i, rfl, q1, q2, q3, q4, q5⟩ := hcut
    go_wp2_with fail
    go_loopg [19] sl (fun gk iv wr => ∃ i : Nat, iv = .int .i64 i ∧ i ≤ sl ∧ Hid (i ≤ gk) ∧ Hid (CvM wr sb so sl X i) ∧ Hid (X / 10 ^ (sl - i) = 0) ∧ Hid (NK .u8 256 wr sb so sl sc) ∧ Hid (Chg (fun x o => Fp q x o ∨ Rng sb so sl x o) w wr))
    case atStart => exact ⟨i, rfl, q1, Lib.hid q1, q2, q3, q4, q5⟩
    case round =>
      clear q1 q2 q3 q4 q5
      obtain ⟨i, rfl, q1, q0, q2, q3, q4, q5⟩ := hrel
      by_cases hi : i = 0
      · subst hi
        go_wp2_with fail
        go_end0
        exact ⟨rfl, q2.out, q4.out, q5.out⟩
      · have i2 : (0 : Int) < i := by omega
        have i3 : (i : Int) - 1 < sl := by omega
        have i4 : 0 ≤ (i : Int) - 1 := by omega
        have i5 : ((i : Int) - 1).toNat = i - 1 := by omega
        have hdz : 0 = dg X (sl - 1 - (i - 1)) := by
          unfold dg
          rw [show sl - 1 - (i - 1) = sl - i by omega, q3.out]
        obtain ⟨z1, z2⟩ := q2.out.put q4.out (by omega) q1 hdz (by omega)
        have cz := (q4.out.isI (i - 1) (by have := q4.out.le; omega)).cell
        have fz := q4.out.plain.free (so + (i - 1))
        have z3 : X / 10 ^ (sl - (i - 1)) = 0 := by
          rw [show sl - (i - 1) = (sl - i) + 1 by omega, Nat.pow_succ, ← Nat.div_div_eq_div_mul, q3.out]
        have Z1 := Lib.hid z1
        have Z2 := Lib.hid z2
        have Z3 := Lib.hid z3
        obtain ⟨g1, rfl⟩ : ∃ g1, gk = g1 + 1 := ⟨gk - 1, by have := q0.out; omega⟩
        clear z1 z2 z3 hdz hi
        go_wp2_with fail
        go_roundg g1
        case measure => omega
        case rel => exact ⟨i - 1, by go_num, by omega, Lib.hid (by have := q0.out; omega), Z1, Z3, Lib.hid (q4.out.chg km8 Z2.out), Lib.hid (q5.out.then Z2.out (fun _ _ _ f => .inr f))⟩
end Go.Proofs.YtacfhndledcmgaaGreatDoor
