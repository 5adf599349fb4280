/- Lemmas for the law FnBack: itoa in base 16, bytes.TrimRight. Conditions: those in each theorem; none besides. -/
import Derived.Test.YtacfhndledcmgaaGreatDoorJ4
import Derived.Test.YtacfhndledcmgaaGreatDoorJ5
set_option linter.unusedVariables false
set_option linter.unusedSimpArgs false
namespace Go.Proofs.YtacfhndledcmgaaGreatDoor
open Go.RowKit
/-- 16 and one half as patterns of bits. -/
def F16 : Nat := 4625196817309499392
def FH : Nat := 4602678819172646912
def I16 : Int := 4625196817309499392
def IH : Int := 4602678819172646912
theorem f64bits16 (w : World) : (callFunc 327 #[.float .f64 F16]).run Tryz.prog w = .ok (.value (.int .u64 I16)) w := by kernel_rfl
theorem f64from16 (w : World) : (callFunc 328 #[.int .u64 I16]).run Tryz.prog w = .ok (.value (.float .f64 F16)) w := by kernel_rfl
theorem f64fromH16 (w : World) : (callFunc 328 #[.int .u64 IH]).run Tryz.prog w = .ok (.value (.float .f64 FH)) w := by kernel_rfl
theorem fbit116 : bits BinOp.andNot .u64 I16 9223372036854775808 = I16 := by decide +kernel
theorem fbit216 : bits BinOp.andNot .u64 I16 9218868437227405312 = (0 : Int) := by decide +kernel
theorem fbit316 : bits BinOp.or .u64 (0 : Int) 4602678819172646912 = IH := by decide +kernel
theorem fbit416 : bits BinOp.and .u64 (I16 / 4503599627370496) 2047 = 1027 := by decide +kernel
set_option maxRecDepth 100000 in
set_option maxHeartbeats 1000000 in
theorem math_Abs16 (w : World) : Calls Tryz.prog 335 #[.float .f64 F16] w fun e w' => e = .returned (.float .f64 F16) ∧ w = w' := by
  have h1 := f64bits16
  have h2 := f64from16
  have h3 := fbit116
  go_enter Tryz.func335, Tryz.ntmps335
  go_wp2_with fail
  go_ret
  exact ⟨rfl, rfl⟩
theorem fc116 (w : World) : (binOp .gtr 273 (.float .f64 F16) (.float .f64 9218868437227405311)).run Tryz.prog w = .ok (.bool false) w := by kernel_rfl
theorem fc216 (w : World) : (binOp .neq 273 (.float .f64 F16) (.float .f64 F16)).run Tryz.prog w = .ok (.bool false) w := by kernel_rfl
theorem fc316 (w : World) : (binOp .lss 273 (.float .f64 F16) (.float .f64 4503599627370496)).run Tryz.prog w = .ok (.bool false) w := by kernel_rfl
theorem fc416 (w : World) : (binOp .eql 273 (.float .f64 F16) (.float .f64 0)).run Tryz.prog w = .ok (.bool false) w := by kernel_rfl
theorem fc516 (w : World) : (binOp .eql 273 (.float .f64 FH) (.float .f64 4602678819172646912)).run Tryz.prog w = .ok (.bool true) w := by kernel_rfl
theorem fc916 (w : World) : (convert 3 273 (.int .i64 16)).run Tryz.prog w = .ok (.float .f64 F16) w := by kernel_rfl
set_option maxRecDepth 100000 in
set_option maxHeartbeats 1000000 in
theorem math_IsInf16 (w : World) : Calls Tryz.prog 324 #[.float .f64 F16, .int .i64 0] w fun e w' => e = .returned (.bool false) ∧ w = w' := by
  have h1 := fc116
  go_enter Tryz.func324, Tryz.ntmps324
  go_wp2_with (go_at_call 335; refine (math_Abs16 _).mono ?_; rintro e w' ⟨rfl, rfl⟩)
  go_ret
  exact ⟨rfl, rfl⟩
set_option maxRecDepth 100000 in
set_option maxHeartbeats 1000000 in
theorem math_IsNaN16 (w : World) : Calls Tryz.prog 325 #[.float .f64 F16] w fun e w' => e = .returned (.bool false) ∧ w = w' := by
  have h1 := fc216
  go_enter Tryz.func325, Tryz.ntmps325
  go_wp2_with fail
  go_ret
  exact ⟨rfl, rfl⟩
set_option maxRecDepth 100000 in
set_option maxHeartbeats 1000000 in
theorem math_normalize16 (w : World) : Calls Tryz.prog 326 #[.float .f64 F16] w fun e w' => e = .returned (.tuple #[.float .f64 F16, .int .i64 0]) ∧ w = w' := by
  have h1 := fc316
  go_enter Tryz.func326, Tryz.ntmps326
  go_wp2_with (go_at_call 335; refine (math_Abs16 _).mono ?_; rintro e w' ⟨rfl, rfl⟩)
  go_ret2
  exact ⟨rfl, rfl⟩
set_option maxRecDepth 100000 in
set_option maxHeartbeats 1000000 in
theorem math_frexp16 (w : World) : Calls Tryz.prog 314 #[.float .f64 F16] w fun e w' => e = .returned (.tuple #[.float .f64 FH, .int .i64 5]) ∧ w = w' := by
  have h1 := fc416
  have h2 := f64bits16
  have h3 := f64fromH16
  have h4 := fbit216
  have h5 := fbit316
  have h6 := fbit416
  go_enter Tryz.func314, Tryz.ntmps314
  go_wp2_with (first
    | (go_at_call 324; refine (math_IsInf16 _).mono ?_; rintro e w' ⟨rfl, rfl⟩)
    | (go_at_call 325; refine (math_IsNaN16 _).mono ?_; rintro e w' ⟨rfl, rfl⟩)
    | (go_at_call 326; refine (math_normalize16 _).mono ?_; rintro e w' ⟨rfl, rfl⟩))
  go_ret2
  exact ⟨rfl, rfl⟩
set_option maxRecDepth 100000 in
set_option maxHeartbeats 1000000 in
theorem math_Frexp16 (w : World) : Calls Tryz.prog 303 #[.float .f64 F16] w fun e w' => e = .returned (.tuple #[.float .f64 FH, .int .i64 5]) ∧ w = w' := by
  go_enter Tryz.func303, Tryz.ntmps303
  go_wp2_with (go_at_call 314; refine (math_frexp16 _).mono ?_; rintro e w' ⟨rfl, rfl⟩)
  go_ret2
  exact ⟨rfl, rfl⟩
set_option maxRecDepth 100000 in
set_option maxHeartbeats 1000000 in
theorem math_log2_16 (w : World) : Calls Tryz.prog 274 #[.float .f64 F16] w fun e w' => e = .returned (.float .f64 F4) ∧ w = w' := by
  have h1 := fc516
  have h4 := fc8
  go_enter Tryz.func274, Tryz.ntmps274
  go_wp2_with (first
    | (go_at_call 303; refine (math_Frexp16 _).mono ?_; rintro e w' ⟨rfl, rfl⟩))
  go_ret
  exact ⟨rfl, rfl⟩
set_option maxRecDepth 100000 in
set_option maxHeartbeats 1000000 in
theorem math_Log2_16 (w : World) : Calls Tryz.prog 236 #[.float .f64 F16] w fun e w' => e = .returned (.float .f64 F4) ∧ w = w' := by
  go_enter Tryz.func236, Tryz.ntmps236
  go_wp2_with (go_at_call 274; refine (math_log2_16 _).mono ?_; rintro e w' ⟨rfl, rfl⟩)
  go_ret
  exact ⟨rfl, rfl⟩
/-- A quarter, as a pattern of bits. -/
def qF (n : Nat) : Nat := ((FloatKind.f64.format.div (FloatKind.f64.nearest n) F4).getD 0)
def qOk (n : Nat) : Bool := decide (FloatKind.f64.format.div (FloatKind.f64.nearest n) F4 = some (qF n)) && decide ((FloatKind.f64.decode (qF n)).toInt .zero = some ((n / 4 : Nat) : Int))
set_option maxRecDepth 100000 in
theorem qAll : (List.range 1400).all qOk = true := by decide +kernel
theorem q_ok {n : Nat} (h : n < 1400) : FloatKind.f64.format.div (FloatKind.f64.nearest n) F4 = some (qF n) ∧ (FloatKind.f64.decode (qF n)).toInt .zero = some ((n / 4 : Nat) : Int) := by
  have := List.all_eq_true.1 qAll n (List.mem_range.2 h)
  simp only [qOk, Bool.and_eq_true, decide_eq_true_eq] at this
  exact this
theorem q_div {n : Nat} (h : n < 1400) (w : World) : (binOp .quo 273 (.float .f64 (FloatKind.f64.nearest n)) (.float .f64 F4)).run Tryz.prog w = .ok (.float .f64 (qF n)) w := by
  simp [binOp, Op.floatArith, (q_ok h).1]
theorem q_int {n : Nat} (h : n < 1400) (w : World) : (convert 273 3 (.float .f64 (qF n))).run Tryz.prog w = .ok (.int .i64 ((n / 4 : Nat) : Int)) w := by
  have h1 := q_ok h
  have hm : IntKind.i64.min = -9223372036854775808 := by decide
  obtain ⟨q, hq⟩ : ∃ q, q = n / 4 := ⟨_, rfl⟩
  rw [← hq] at h1 ⊢
  simp [convert, run_underlying Tryz.underlying3, run_underlying Tryz.underlying273, Conv.floatToInt, h1.2]
  intro hc
  have h2 := hc (by rw [hm]; omega)
  omega
/-- A hexadecimal figure. -/
def hexc (d : Nat) : Nat := if d < 10 then 48 + d else 87 + d
/-- The figures of X from place i on. -/
def HxM (w : World) (sb S X i : Nat) : Prop := ∀ p, i ≤ p → p < S → wd w sb p = hexc (X / 16 ^ (S - 1 - p) % 16)
/-- What is left of word k behind j figures. -/
def wv (X k j : Nat) : Nat := X / WB ^ (k - 1) % WB / 16 ^ (16 - j)
theorem V_word (f : Nat → Nat) (n k : Nat) (hf : ∀ j, j < n → f j < WB) (hk : k < n) : V f n / WB ^ k % WB = f k := by
  have h1 := V_split f k (n - k)
  rw [show k + (n - k) = n by omega] at h1
  have h2 : V f k < WB ^ k := V_lt _ fun j hj => hf j (by omega)
  rw [h1, Nat.add_mul_div_left _ _ (Nat.pow_pos WB_pos), Nat.div_eq_of_lt h2, Nat.zero_add, show n - k = (n - k - 1) + 1 by omega, V_hd, Nat.add_mul_mod_self_left]
  exact Nat.mod_eq_of_lt (hf k hk)
theorem WB_16 (k : Nat) : WB ^ k = 16 ^ (16 * k) := by rw [Nat.pow_mul]; rfl
theorem wv_mod {X k j : Nat} (hk : 0 < k) (hj : 0 < j) (hj2 : j ≤ 16) : wv X k j % 16 = X / 16 ^ (16 * k - j) % 16 := by
  unfold wv
  have h1 : WB = 16 ^ (16 - j) * 16 ^ j := by rw [← Nat.pow_add, show 16 - j + j = 16 by omega]; rfl
  have h2 : X / WB ^ (k - 1) % WB / 16 ^ (16 - j) = X / WB ^ (k - 1) / 16 ^ (16 - j) % 16 ^ j := by
    conv => lhs; rw [show X / WB ^ (k - 1) % WB = X / WB ^ (k - 1) % (16 ^ (16 - j) * 16 ^ j) by rw [← h1]]
    exact Nat.mod_mul_right_div_self _ _ _
  rw [h2, Nat.mod_mod_of_dvd _ (Nat.dvd_trans (by rw [Nat.pow_one]; exact Nat.dvd_refl _) (Nat.pow_dvd_pow 16 (show 1 ≤ j by omega))), Nat.div_div_eq_div_mul, WB_16, ← Nat.pow_add]
  congr 3; omega
theorem wv_step {X k j : Nat} (hj : 0 < j) (hj2 : j ≤ 16) : wv X k j / 16 = wv X k (j - 1) := by
  unfold wv
  rw [Nat.div_div_eq_div_mul, ← Nat.pow_succ]
  congr 2; omega
theorem wv_top {X k j : Nat} (h : X < WB ^ k) (hk : 0 < k) (hj : j ≤ 16) : wv X k j = X / 16 ^ (16 * k - j) := by
  unfold wv
  have h1 : X / WB ^ (k - 1) < WB := by
    refine (Nat.div_lt_iff_lt_mul (Nat.pow_pos WB_pos)).2 ?_
    rw [Nat.mul_comm, ← Nat.pow_succ, show (k - 1).succ = k by omega]; exact h
  rw [Nat.mod_eq_of_lt h1, Nat.div_div_eq_div_mul, WB_16, ← Nat.pow_add]
  congr 2; omega
theorem wv_lt (X k j : Nat) : wv X k j < WB := Nat.lt_of_le_of_lt (Nat.div_le_self _ _) (Nat.mod_lt _ WB_pos)
theorem wv_zero (X k : Nat) : wv X k 0 = 0 := by
  unfold wv
  exact Nat.div_eq_of_lt (Nat.mod_lt _ (by decide))
theorem wv_full (X k : Nat) : wv X k 16 = X / WB ^ (k - 1) % WB := by unfold wv; simp
theorem HxM.step {w w' : World} {sb S X i : Nat} {c : Nat} (h : HxM w sb S X (i + 1)) (hi : i < S) (hw : IsB w sb i) (hc : c = hexc (X / 16 ^ (S - 1 - i) % 16)) (hw' : w' = w.setCell ⟨sb, i, none⟩ (.int .u8 (c : Nat))) : HxM w' sb S X i := by
  intro p h1 h2
  subst hw'
  by_cases e : p = i
  · subst e; rw [← hc]; exact wd_setCell_same hw.cell
  · exact (wd_setCell_ne (.inr (by omega))).trans (h p (by omega) h2)
theorem hexc_lt {d : Nat} (h : d < 16) : hexc d < 256 := by unfold hexc; split <;> omega
def hexS : ByteArray := ⟨#[48, 49, 50, 51, 52, 53, 54, 55, 56, 57, 97, 98, 99, 100, 101, 102, 103, 104, 105, 106, 107, 108, 109, 110, 111, 112, 113, 114, 115, 116, 117, 118, 119, 120, 121, 122, 65, 66, 67, 68, 69, 70, 71, 72, 73, 74, 75, 76, 77, 78, 79, 80, 81, 82, 83, 84, 85, 86, 87, 88, 89, 90]⟩
theorem and_neg16 : bits BinOp.and .u64 16 (IntKind.u64.wrap (-16)) = 16 := by decide +kernel
theorem and15 {a : Nat} (h : a < WB) : bits BinOp.and .u64 (a : Int) 15 = ((a % 16 : Nat) : Int) := by
  rw [show (15 : Int) = ((15 : Nat) : Int) from rfl, bits_and_u64_nat a 15 h (by decide)]
  congr 1
  rw [show (15 : Nat) = 2 ^ 4 - 1 from rfl, Nat.and_two_pow_sub_one_eq_mod]
/-- What itoa tells in base 16. -/
def HexOut (X : Nat) (w : World) (e : Ending) (w' : World) : Prop :=
  ∃ sb so sc D, e = .returned (.slice (some ⟨sb, so, none⟩) D sc) ∧ NK .u8 256 w' sb so D sc ∧ (∀ p, p < D → wd w' sb (so + p) = hexc (X / 16 ^ (D - 1 - p) % 16)) ∧ 16 ^ (D - 1) ≤ X ∧ X < 16 ^ D ∧ 0 < D ∧ w.heap.size ≤ sb ∧ Chg No w w'
set_option maxRecDepth 100000 in
set_option maxHeartbeats 4000000 in
theorem itoa16 (xb xo n xc X : Nat) (w : World) (hx : NtAt w xb xo n xc X) (hX0 : X ≠ 0) (hn0 : 0 < n) (hn : n ≤ 20) (hg : Glob w) :
    Calls Tryz.prog 178 #[.slice (some ⟨xb, xo, none⟩) n xc, .bool false, .int .i64 16] w (HexOut X w) := by
  have hXn : X < WB ^ n := by
    rw [← hx.2.1]; unfold Val
    exact V_lt n fun j hj => (hx.1.isW j (by have := hx.1.le; omega)).lt
  have hSm : Small X := small_words hXn (by omega)
  obtain ⟨l1, l2⟩ := blen_words hx hn0
  obtain ⟨q1, q2, q3⟩ := blen_spec hX0
  have HLo : Hid (WB ^ (n - 1) ≤ X) := Lib.hid (by rw [WB_two]; exact Nat.le_trans (Nat.pow_le_pow_right (by decide) (by omega)) q2)
  obtain ⟨B, hBB⟩ : ∃ B, B = blen X := ⟨_, rfl⟩
  have HB := nat_bitLen (.slice (some ⟨xb, xo, none⟩) n xc) X w hx.nt hSm
  rw [← hBB] at HB l1 l2 q2 q3
  have HB := Lib.hid HB
  have hword : ∀ k, k < n → w.cell? ⟨xb, xo + k, none⟩ = some (.int .u64 (X / WB ^ k % WB : Nat)) := fun k hk => by
    have h1 := (hx.1.isW k (by have := hx.1.le; omega)).cell
    have h2 := V_word (fun j => wd w xb (xo + j)) n k (fun j hj => (hx.1.isW j (by have := hx.1.le; omega)).lt) hk
    have h3 := hx.2.1
    unfold Val at h3
    rw [h3] at h2
    rw [h2]; exact h1
  have HWd := Lib.hid hword
  have hxl := hx.1.plain.lt
  have t0 : ((n : Int) == 0) = false := beq_eq_false_iff_ne.2 (by omega)
  have k1 := est_conv B
  have k2 := fc916
  have k3 := fun W => q_div (n := B) (by omega) W
  have k4 := fun W => q_int (n := B) (by omega) W
  have k5 := and_neg16
  obtain ⟨L, hL⟩ : ∃ L, L = B / 4 := ⟨_, rfl⟩
  rw [← hL] at k4
  have hL1 : L ≤ 320 := by omega
  have hLn : 16 * (n - 1) ≤ L := by omega
  have hXL : X < 16 ^ (L + 1) := by
    refine Nat.lt_of_lt_of_le q3 ?_
    rw [show (16 : Nat) = 2 ^ 4 from rfl, ← Nat.pow_mul]
    exact Nat.pow_le_pow_right (by decide) (by omega)
  have HXL := Lib.hid hXL
  have HXN := Lib.hid hXn
  have HX0 := Lib.hid hX0
  have HTZ := bits_tz 16 (by decide) (by decide) w hg
  rw [show Lib.ctz 64 16 = 4 by decide] at HTZ
  have HTZ := Lib.hid (fun W (hW : Chg No w W) => bits_tz 16 (by decide) (by decide) W (hg.no hW))
  obtain ⟨ci, hi1, hi2, hi3, hi4⟩ := info_of info5
  have h17 := hg.size
  clear hx hXL hSm hXn hBB q1 q2 q3 l1 l2 hL hword hg
  go_enter_defers Tryz.func178, Tryz.ntmps178
  go_wp2_with (go_at_call 194; refine HB.out.mono ?_; rintro e w1 ⟨rfl, hd⟩; obtain ⟨kd, rfl⟩ := hd)
  go_wp2_with (first
    | (go_at_call 236; refine (math_Log2_16 _).mono ?_; rintro e w1 ⟨rfl, rfl⟩)
    | (refine wpList_makeN rfl km8 (.tmp 44) (.tmp 44) 56 rfl 5 ci Tryz.underlying56 hi1 hi2 hi3 (by rw [hi4]; omega) _ _ (L + 1) (L + 1) rfl rfl (by omega) (by omega) (Nat.le_refl _) (by omega) h17 ?_; intro w1 hc1 hs1 hn1 hz1))
  have K1 := Lib.hid (((Chg.refl No w).drewN kd).then hc1 (fun _ _ _ f => f))
  have N1 := Lib.hid hn1
  have HTZ1 := HTZ.out w1 K1.out
  rw [show Lib.ctz 64 16 = 4 by decide] at HTZ1
  have HTZ1 := Lib.hid HTZ1
  have hw0 := (K1.out.cell xb (xo + 0) hxl (fun f => f)).trans (HWd.out 0 hn0)
  rw [Nat.add_zero] at hw0
  have HS1 : Hid (w1.heap.size = w.heap.size + 1) := Lib.hid hs1
  clear hc1 hn1 hz1 hs1 k1 k2 k3 k4 HTZ
  refine HTZ1.out.mono ?_
  rintro e w2 ⟨rfl, rfl⟩
  obtain ⟨wz, hwz⟩ : ∃ wz, wz = X / WB ^ 0 % WB := ⟨_, rfl⟩
  rw [← hwz] at hw0
  have HWZ : Hid (wz = wv X 1 16) := Lib.hid (by rw [hwz, wv_full])
  have hs256 : hexS = hexS := rfl
  clear hwz hs256
  go_wp2_with fail
  go_loopg [7, 12, 13, 14] (n - 1) (fun gk iv wv' nv kv wr => ∃ k i wk : Nat, k + gk = n ∧ 1 ≤ k ∧ iv = .int .i64 i ∧ wv' = .int .u64 wk ∧ nv = .int .u64 64 ∧ kv = .int .i64 k ∧ Hid (wk = wv X k 16) ∧ Hid (i + 16 * (k - 1) = L + 1) ∧ Hid (HxM wr w.heap.size (L + 1) X i) ∧ Hid (NK .u8 256 wr w.heap.size 0 (L + 1) (L + 1)) ∧ Hid (Chg No w wr))
  case atStart => exact ⟨1, L + 1, wz, by omega, by omega, by go_num, rfl, rfl, rfl, HWZ, Lib.hid (by omega), Lib.hid (fun p h1 h2 => by omega), N1, K1⟩
  case round =>
  obtain ⟨k, i, wk, hk, hk1, rfl, rfl, rfl, rfl, hwk, hi, hM, hN, hK⟩ := hrel
  by_cases hlt : k < n
  · obtain ⟨g1, hg1⟩ : ∃ g, gk = g + 1 := ⟨gk - 1, by omega⟩
    have HIk := Lib.hid (And.intro hwk.out hi.out)
    go_wp2_with fail
    go_loopg [7, 12, 13] 16 (fun gj iv wv' nv wr2 => ∃ j i wk : Nat, j = gj ∧ j ≤ 16 ∧ iv = .int .i64 i ∧ wv' = .int .u64 wk ∧ nv = .int .u64 ((4 * j : Nat) : Int) ∧ Hid (wk = wv X k j) ∧ Hid (i + 16 * k = L + 1 + j) ∧ Hid (HxM wr2 w.heap.size (L + 1) X i) ∧ Hid (NK .u8 256 wr2 w.heap.size 0 (L + 1) (L + 1)) ∧ Hid (Chg No w wr2))
    case atStart => exact ⟨16, i, wk, rfl, by omega, rfl, rfl, rfl, hwk, Lib.hid (by have := hi.out; omega), hM, hN, hK⟩
    case round =>
      obtain ⟨j, i2, wk2, rfl, hj16, rfl, rfl, rfl, hwk2, hi2, hM2, hN2, hK2⟩ := hrel
      by_cases hj : 0 < j
      · obtain ⟨g2, hg2⟩ : ∃ g, j = g + 1 := ⟨j - 1, by omega⟩
        obtain ⟨i3, hi3'⟩ : ∃ i3, i2 = i3 + 1 := ⟨i2 - 1, by have := hi2.out; omega⟩
        have hi3b : i3 < L + 1 := by have := hi2.out; omega
        have HI3 : Hid (i3 + 16 * k = L + 1 + g2) := Lib.hid (by have := hi2.out; omega)
        subst hi3'
        have hcell := hN2.out.isI i3 hi3b
        rw [Nat.zero_add] at hcell
        have cc := hcell.cell
        have cf := hN2.out.plain.free i3
        have hwl : wk2 < WB := by rw [hwk2.out]; exact wv_lt _ _ _
        obtain ⟨d, hd⟩ : ∃ d, d = wk2 % 16 := ⟨_, rfl⟩
        have eA : bits BinOp.and .u64 (wk2 : Int) 15 = (d : Int) := by rw [and15 hwl, hd]
        have hd16 : d < 16 := by omega
        obtain ⟨wk3, hwk3⟩ : ∃ wk3, wk3 = wk2 / 16 := ⟨_, rfl⟩
        have eB : (wk2 : Int) / 16 = (wk3 : Int) := by omega
        obtain ⟨nb, hnb⟩ : ∃ nb, nb = 4 * j := ⟨_, rfl⟩
        rw [← hnb]
        have eC : (nb : Int) - 4 = ((4 * g2 : Nat) : Int) := by omega
        have hnb4 : 4 ≤ nb := by omega
        have iC : (4 : Int) ≤ (nb : Int) := by omega
        have hnb64 : nb ≤ 64 := by omega
        have HDg : Hid (d = X / 16 ^ (L + 1 - 1 - i3) % 16) := Lib.hid (by
          rw [hd, hwk2.out, wv_mod (by omega) hj hj16]
          congr 3; have := hi2.out; omega)
        have HWK : Hid (wk3 = wv X k g2) := Lib.hid (by rw [hwk3, hwk2.out, wv_step hj hj16, hg2]; rfl)
        have HCell := Lib.hid hcell
        clear hd hwk3 hnb hcell hwl
        go_wp2_with fail
        go_roundg g2
        case measure => omega
        case rel =>
          have hst : ∀ (c : Nat), c = hexc d → HxM (wr.setCell ⟨w.heap.size, i3, none⟩ (.int .u8 (c : Nat))) w.heap.size (L + 1) X i3 ∧ NK .u8 256 (wr.setCell ⟨w.heap.size, i3, none⟩ (.int .u8 (c : Nat))) w.heap.size 0 (L + 1) (L + 1) ∧ Chg No w (wr.setCell ⟨w.heap.size, i3, none⟩ (.int .u8 (c : Nat))) := fun c hc => by
            have k9 : Chg (Blk w.heap.size) wr (wr.setCell ⟨w.heap.size, i3, none⟩ (.int .u8 (c : Nat))) := (Chg.refl _ wr).setB HCell.out (by rw [hc]; exact hexc_lt hd16) (fun _ => rfl)
            exact ⟨hM2.out.step hi3b HCell.out (by rw [hc, HDg.out]) rfl, hN2.out.chg km8 k9, hK2.out.then k9 (fun x o hx h => by have h1 : x = w.heap.size := h; omega)⟩
          have HST := Lib.hid hst
          have hdv : ∀ d, (h : d < 62) → d < 16 → ((hexS[d]'h).toNat = hexc d) := by decide +kernel
          obtain ⟨s1, s2, s3⟩ := HST.out _ (hdv d (by omega) hd16)
          exact ⟨g2, i3, wk3, rfl, by omega, by go_num, rfl, rfl, HWK, HI3, Lib.hid s1, Lib.hid s2, Lib.hid s3⟩
      · obtain rfl : j = 0 := by omega
        obtain ⟨wn, hwn⟩ : ∃ wn, wn = X / WB ^ k % WB := ⟨_, rfl⟩
        have cw : wr.cell? ⟨xb, xo + k, none⟩ = some (.int .u64 (wn : Nat)) := by
          rw [hwn]; exact (hK2.out.cell xb (xo + k) hxl (fun f => f)).trans (HWd.out k hlt)
        have HWN : Hid (wn = wv X (k + 1) 16) := Lib.hid (by rw [hwn, wv_full]; rfl)
        have i4 : (k : Int) < (n : Int) := by omega
        clear hwn
        go_wp2_with fail
        go_roundg g1
        case measure => omega
        case rel => exact ⟨k + 1, i2, wn, by omega, by omega, rfl, rfl, rfl, by go_num, HWN, Lib.hid (by have := hi2.out; omega), hM2, hN2, hK2⟩
  · obtain rfl : k = n := by omega
    have HK0 := hi.out
    have hil : i ≤ L + 1 := by omega
    clear HK0
    go_wp2_with fail
    go_loopg [7, 12] 16 (fun gj iv wv' wr2 => ∃ j i wk : Nat, j = gj ∧ j ≤ 16 ∧ iv = .int .i64 i ∧ wv' = .int .u64 wk ∧ Hid (wk = wv X k j) ∧ Hid (i + 16 * k = L + 1 + j) ∧ Hid (j < 16 → 16 ^ (16 * k - j - 1) ≤ X) ∧ Hid (HxM wr2 w.heap.size (L + 1) X i) ∧ Hid (NK .u8 256 wr2 w.heap.size 0 (L + 1) (L + 1)) ∧ Hid (Chg No w wr2))
    case atStart => exact ⟨16, i, wk, rfl, by omega, rfl, rfl, hwk, Lib.hid (by have := hi.out; omega), Lib.hid (fun h => by omega), hM, hN, hK⟩
    case round =>
      obtain ⟨j, i2, wk2, rfl, hj16, rfl, rfl, hwk2, hi2, hlo, hM2, hN2, hK2⟩ := hrel
      have hwt := hwk2.out
      rw [wv_top HXN.out (by omega) hj16] at hwt
      have HWT := Lib.hid hwt
      clear hwt
      by_cases hz : wk2 = 0
      · have hDj : Hid (L + 1 - i2 = 16 * k - j) := Lib.hid (by have := hi2.out; omega)
        have hub : X < 16 ^ (L + 1 - i2) := by
          have h1 := HWT.out
          rw [hz] at h1
          rw [hDj.out]
          exact (Nat.div_eq_zero_iff_lt (Nat.pow_pos (by decide))).1 h1.symm
        have hj15 : j < 16 := by
          rcases Nat.lt_or_ge j 16 with h | h
          · exact h
          · exfalso
            have h2 := HLo.out
            rw [WB_16] at h2
            rw [hDj.out, show 16 * k - j = 16 * (k - 1) by omega] at hub
            omega
        have hlb : 16 ^ (L + 1 - i2 - 1) ≤ X := by rw [hDj.out]; exact hlo.out hj15
        have hiL : i2 < L + 1 := by have := hi2.out; omega
        have HLB := Lib.hid (And.intro hlb hub)
        have hcap : ¬ L + 1 = i2 := by omega
        have i6 : (i2 : Int) ≤ (L : Int) + 1 := by omega
        clear hlb hub
        subst hz
        go_wp2_with fail
        refine ⟨_, results_tmp rfl _ _ _, w.heap.size, i2, L + 1 - i2, L + 1 - i2, rfl, ⟨Nat.le_refl _, by unfold maxLen; omega, fun q hq => ?_, hN2.out.plain, hN2.out.own⟩, fun p hp => ?_, HLB.out.1, HLB.out.2, by omega, Nat.le_refl _, hK2.out⟩
        · have := hN2.out.isI (i2 + q) (by omega)
          rwa [Nat.zero_add] at this
        · rw [hM2.out (i2 + p) (by omega) (by omega)]
          congr 4; omega
      · have hj0 : 0 < j := by
          rcases Nat.eq_zero_or_pos j with h | h
          · exfalso; apply hz; rw [hwk2.out, h, wv_zero]
          · exact h
        obtain ⟨g2, hg2⟩ : ∃ g, j = g + 1 := ⟨j - 1, by omega⟩
        have hlo2 : 16 ^ (16 * k - g2 - 1) ≤ X := by
          rw [show 16 * k - g2 - 1 = 16 * k - j by omega]
          rcases Nat.lt_or_ge X (16 ^ (16 * k - j)) with h | h
          · exfalso; apply hz; rw [HWT.out]; exact Nat.div_eq_of_lt h
          · exact h
        obtain ⟨i3, hi3'⟩ : ∃ i3, i2 = i3 + 1 := ⟨i2 - 1, by
          have h1 := HXL.out
          have h2 := hi2.out
          rcases Nat.eq_zero_or_pos i2 with h | h
          · exfalso
            have h3 : 16 ^ (L + 1) ≤ 16 ^ (16 * k - g2 - 1) := Nat.pow_le_pow_right (by decide) (by omega)
            omega
          · omega⟩
        have hi3b : i3 < L + 1 := by have := hi2.out; omega
        have HI3 : Hid (i3 + 16 * k = L + 1 + g2) := Lib.hid (by have := hi2.out; omega)
        subst hi3'
        have hcell := hN2.out.isI i3 hi3b
        rw [Nat.zero_add] at hcell
        have cc := hcell.cell
        have cf := hN2.out.plain.free i3
        have hwl : wk2 < WB := by rw [hwk2.out]; exact wv_lt _ _ _
        obtain ⟨d, hd⟩ : ∃ d, d = wk2 % 16 := ⟨_, rfl⟩
        have eA : bits BinOp.and .u64 (wk2 : Int) 15 = (d : Int) := by rw [and15 hwl, hd]
        have hd16 : d < 16 := by omega
        obtain ⟨wk3, hwk3⟩ : ∃ wk3, wk3 = wk2 / 16 := ⟨_, rfl⟩
        have eB : (wk2 : Int) / 16 = (wk3 : Int) := by omega
        have tz : ((wk2 : Int) != 0) = true := by simp; omega
        have HDg : Hid (d = X / 16 ^ (L + 1 - 1 - i3) % 16) := Lib.hid (by
          rw [hd, hwk2.out, wv_mod (by omega) hj0 hj16]
          congr 3; have := hi2.out; omega)
        have HWK : Hid (wk3 = wv X k g2) := Lib.hid (by rw [hwk3, hwk2.out, wv_step hj0 hj16, hg2]; rfl)
        have HCell := Lib.hid hcell
        have HL2 := Lib.hid hlo2
        clear hd hwk3 hcell hwl hlo2 hz
        go_wp2_with fail
        go_roundg g2
        case measure => omega
        case rel =>
          have hst : ∀ (c : Nat), c = hexc d → HxM (wr.setCell ⟨w.heap.size, i3, none⟩ (.int .u8 (c : Nat))) w.heap.size (L + 1) X i3 ∧ NK .u8 256 (wr.setCell ⟨w.heap.size, i3, none⟩ (.int .u8 (c : Nat))) w.heap.size 0 (L + 1) (L + 1) ∧ Chg No w (wr.setCell ⟨w.heap.size, i3, none⟩ (.int .u8 (c : Nat))) := fun c hc => by
            have k9 : Chg (Blk w.heap.size) wr (wr.setCell ⟨w.heap.size, i3, none⟩ (.int .u8 (c : Nat))) := (Chg.refl _ wr).setB HCell.out (by rw [hc]; exact hexc_lt hd16) (fun _ => rfl)
            exact ⟨hM2.out.step hi3b HCell.out (by rw [hc, HDg.out]) rfl, hN2.out.chg km8 k9, hK2.out.then k9 (fun x o hx h => by have h1 : x = w.heap.size := h; omega)⟩
          have HST := Lib.hid hst
          have hdv : ∀ d, (h : d < 62) → d < 16 → ((hexS[d]'h).toNat = hexc d) := by decide +kernel
          obtain ⟨s1, s2, s3⟩ := HST.out _ (hdv d (by omega) hd16)
          exact ⟨g2, i3, wk3, rfl, by omega, by go_num, rfl, HWK, HI3, Lib.hid (fun _ => HL2.out), Lib.hid s1, Lib.hid s2, Lib.hid s3⟩
set_option maxHeartbeats 1000000 in
theorem utoa16 (xb xo n xc X : Nat) (w : World) (hx : NtAt w xb xo n xc X) (hX0 : X ≠ 0) (hn0 : 0 < n) (hn : n ≤ 20) (hg : Glob w) :
    Calls Tryz.prog 120 #[.slice (some ⟨xb, xo, none⟩) n xc, .int .i64 16] w (HexOut X w) := by
  have H := Lib.hid (itoa16 xb xo n xc X w hx hX0 hn0 hn hg)
  clear hx hg
  go_enter Tryz.func120, Tryz.ntmps120
  go_wp2_with fail
  refine H.out.mono ?_
  rintro e w1 ⟨sb, so, sc, D, rfl, h1⟩
  have H1 := Lib.hid h1
  clear h1
  go_wp2_with fail
  go_ret
  exact ⟨sb, so, sc, D, rfl, H1.out⟩
/-- Bytes without the zeros ('0') at their end. -/
def TrimOut (sb so sc D : Nat) (w : World) (e : Ending) (w' : World) : Prop :=
  ∃ K : Nat, e = .returned (.slice (some ⟨sb, so, none⟩) K sc) ∧ K ≤ D ∧ 0 < K ∧ (∀ p, K ≤ p → p < D → wd w sb (so + p) = 48) ∧ wd w sb (so + (K - 1)) ≠ 48 ∧ w = w'
set_option maxRecDepth 100000 in
set_option maxHeartbeats 2000000 in
theorem trimRightByte (sb so sc D : Nat) (w : World) (hn : NK .u8 256 w sb so D sc) (hD : 0 < D) (hDm : D < 100000) (h0 : wd w sb (so + 0) ≠ 48) :
    Calls Tryz.prog 286 #[.slice (some ⟨sb, so, none⟩) D sc, .int .u8 48] w (TrimOut sb so sc D w) := by
  have HN := Lib.hid hn
  have hle := hn.le
  have H0 := Lib.hid h0
  clear hn h0
  go_enter Tryz.func286, Tryz.ntmps286
  go_wp2_with fail
  go_loopg [0] D (fun gk zv wr => ∃ K : Nat, K = gk ∧ 0 < K ∧ K ≤ D ∧ zv = .slice (some ⟨sb, so, none⟩) K sc ∧ w = wr ∧ Hid (∀ p, K ≤ p → p < D → wd w sb (so + p) = 48))
  case atStart => exact ⟨D, rfl, hD, Nat.le_refl _, rfl, rfl, Lib.hid (fun p h1 h2 => by omega)⟩
  case round =>
    obtain ⟨K, rfl, hK0, hKD, rfl, rfl, hZ⟩ := hrel
    have hc := (HN.out.isI (K - 1) (by omega)).cell
    have e1 : (K : Int) - 1 = ((K - 1 : Nat) : Int) := by omega
    obtain ⟨K1, hK1⟩ : ∃ K1, K1 = K - 1 := ⟨_, rfl⟩
    rw [← hK1] at hc e1
    have i1 : (0 : Int) < (K : Int) := by omega
    have i2 : (K1 : Int) < (K : Int) := by omega
    have HK1 := Lib.hid hK1
    obtain ⟨y, hy⟩ : ∃ y, y = wd w sb (so + K1) := ⟨_, rfl⟩
    rw [← hy] at hc
    have HY := Lib.hid hy
    by_cases h48 : y = 48
    · have hK1p : 0 < K1 := by
        rcases Nat.eq_zero_or_pos K1 with h | h
        · exfalso; apply H0.out; rw [← h, ← hy, h48]
        · exact h
      have hK1D : K1 ≤ D := by omega
      have i3 : (K1 : Int) ≤ (sc : Int) := by omega
      have HZ2 : Hid (∀ p, K1 ≤ p → p < D → wd w sb (so + p) = 48) := Lib.hid fun p h1 h2 => by
        by_cases e : p = K1
        · rw [e, ← hy, h48]
        · exact hZ.out p (by omega) h2
      subst h48
      clear hK1 hy
      go_wp2_with fail
      go_roundg K1
      case measure => have := HK1.out; omega
      case rel => exact ⟨K1, rfl, hK1p, hK1D, rfl, rfl, HZ2⟩
    · have t1 : ((y : Int) == 48) = false := by simp; omega
      clear hK1 hy
      go_wp2_with fail
      go_ret
      exact ⟨K, rfl, hKD, hK0, hZ.out, by rw [← HK1.out, ← HY.out]; exact h48, rfl⟩
set_option maxRecDepth 100000 in
set_option maxHeartbeats 1000000 in
theorem trimRight0 (sb so sc D : Nat) (w : World) (hn : NK .u8 256 w sb so D sc) (hD : 0 < D) (hDm : D < 100000) (h0 : wd w sb (so + 0) ≠ 48) :
    Calls Tryz.prog 247 #[.slice (some ⟨sb, so, none⟩) D sc, .string ⟨#[48]⟩] w (TrimOut sb so sc D w) := by
  have H := Lib.hid (trimRightByte sb so sc D w hn hD hDm h0)
  have t0 : ((D : Int) == 0) = false := by simp; omega
  clear hn h0
  go_enter Tryz.func247, Tryz.ntmps247
  go_wp2_with fail
  refine H.out.mono ?_
  rintro e w1 ⟨K, rfl, h1⟩
  have H1 := Lib.hid h1
  clear h1
  go_wp2_with fail
  go_ret
  exact ⟨K, rfl, H1.out⟩
end Go.Proofs.YtacfhndledcmgaaGreatDoor
