/- Lemmas for the law FnBackDecimal: rounding to even. Conditions: those in each theorem; none besides. -/
import Derived.Test.YtacfhndledcmgaaGreatDoorK29
import Derived.Test.YtacfhndledcmgaaGreatDoorK26
import Derived.Test.YtacfhndledcmgaaGreatDoorK25
import Derived.Deep.RegionHeld3
import Derived.Test.YtacfhndledcmgaaGreatDoorK12
import Derived.Stop.LaidErr
import Derived.Test.YtacfhndledcmgaaGreatDoorK17
import Derived.Test.YtacfhndledcmgaaGreatDoorK28
import Derived.Test.YtacfhndledcmgaaGreatDoorK3
import Derived.Test.YtacfhndledcmgaaGreatDoorK27
set_option linter.unusedVariables false
set_option linter.unusedSimpArgs false
namespace Go.Proofs.YtacfhndledcmgaaGreatDoor
open Go.RowKit
theorem canw_len {l : List Nat} {X m k T : Nat} (h : CanW l) (hX : X = m * 2 ^ k) (hl : Vl l = m) (hb : X < 2 ^ T) (hT : T ≤ 300) : l.length ≤ 1000000 := by
  rcases Nat.eq_zero_or_pos l.length with h0 | h0
  · omega
  have h1 := h.1 (fun e => by rw [e] at h0; simp at h0)
  have h2 : m ≤ X := by rw [hX]; exact Nat.le_mul_of_pos_right _ (Nat.two_pow_pos _)
  have h3 : WB ^ (l.length - 1) < 2 ^ T := by omega
  rw [WB_two] at h3
  have := (Nat.pow_lt_pow_iff_right (by decide : 1 < 2)).1 h3
  omega
theorem starE : ("*" ++ "errors.errorString" : String) = "*errors.errorString" := by decide
theorem rowE (u : TypeId) (h : Tryz.prog.typeName? 3 u = some "*errors.errorString") : u = 245 :=
  typeName_ptr_named (nm := "errors.errorString") (by rw [starE]; kernel_rfl) (by kernel_rfl) (by decide) u (by rw [starE]; exact h)
/-- Rounding, told by the bit ahead and what is behind it. -/
theorem rhe_bits (X s R : Nat) (hs : s ≤ 1) : rhe (2 * X + s) (R + 2) = if X / 2 ^ R % 2 = 1 ∧ ((X % 2 ^ R ≠ 0 ∨ s ≠ 0) ∨ X / 2 ^ (R + 1) % 2 = 1) then X / 2 ^ (R + 1) + 1 else X / 2 ^ (R + 1) := by
  obtain ⟨D, hD⟩ : ∃ D, D = 2 ^ R := ⟨_, rfl⟩
  have e1 : 2 ^ (R + 1) = 2 * D := by rw [hD, Nat.pow_succ, Nat.mul_comm]
  have e2 : 2 ^ (R + 2) = 4 * D := by rw [hD, Nat.pow_add]; omega
  have hD0 : 0 < D := by rw [hD]; exact Nat.two_pow_pos R
  unfold rhe
  rw [e1, e2, ← hD]
  have h1 := Nat.div_add_mod X D
  have h2 := Nat.mod_lt X hD0
  have hq : X / (2 * D) = X / D / 2 := by rw [Nat.mul_comm, Nat.div_div_eq_div_mul]
  rw [hq]
  generalize X / D = q at *
  generalize X % D = r at *
  obtain ⟨Q, b, hb, rfl⟩ : ∃ Q b, b ≤ 1 ∧ q = 2 * Q + b := ⟨q / 2, q % 2, by omega, by omega⟩
  have h3 : 2 * X + s = 4 * D * Q + (2 * (b * D) + 2 * r + s) := by
    have : D * (2 * Q + b) = 2 * (D * Q) + b * D := by rw [Nat.mul_add, Nat.mul_left_comm, Nat.mul_comm D b]
    rw [this] at h1
    rw [Nat.mul_assoc]; omega
  have hbD : b * D ≤ D := by
    have := Nat.mul_le_mul_right D hb
    rwa [Nat.one_mul] at this
  have h4 : 2 * (b * D) + 2 * r + s < 4 * D := by omega
  have h5 : (2 * X + s) / (4 * D) = Q := by rw [h3, Nat.mul_add_div (by omega), Nat.div_eq_of_lt h4, Nat.add_zero]
  have h6 : (2 * X + s) % (4 * D) = 2 * (b * D) + 2 * r + s := by rw [h3, Nat.mul_add_mod, Nat.mod_eq_of_lt h4]
  rw [h5, h6, show (2 * Q + b) / 2 = Q by omega, show (2 * Q + b) % 2 = b by omega]
  have hb2 : b = 0 ∨ b = 1 := by omega
  rcases hb2 with rfl | rfl
  · rw [Nat.zero_mul] at *
    rw [if_neg (by omega), if_neg (by omega)]
  · rw [Nat.one_mul] at *
    by_cases hc : (r ≠ 0 ∨ s ≠ 0) ∨ Q % 2 = 1
    · rw [if_pos (by omega), if_pos ⟨rfl, hc⟩]
    · rw [if_neg (by omega), if_neg (fun h => hc h.2)]
theorem rhe_shift (q s n k : Nat) (hs : s ≤ 1) (hn : 2 ≤ n) : rhe (2 * (q * 2 ^ k) + s) (n + k) = rhe (2 * q + s) n := by
  obtain ⟨R, rfl⟩ : ∃ R, n = R + 2 := ⟨n - 2, by omega⟩
  rw [show R + 2 + k = (R + k) + 2 by omega, rhe_bits _ _ _ hs, rhe_bits _ _ _ hs]
  have hk := Nat.two_pow_pos k
  have e1 : ∀ i, q * 2 ^ k / 2 ^ (i + k) = q / 2 ^ i := fun i => by rw [Nat.pow_add, Nat.mul_div_mul_right _ _ hk]
  have e2 : q * 2 ^ k % 2 ^ (R + k) = (q % 2 ^ R) * 2 ^ k := by rw [Nat.pow_add, Nat.mul_mod_mul_right]
  rw [e1 R, show R + k + 1 = (R + 1) + k by omega, e1 (R + 1), e2]
  have e3 : ((q % 2 ^ R) * 2 ^ k ≠ 0) ↔ (q % 2 ^ R ≠ 0) := by
    constructor
    · intro h e; rw [e, Nat.zero_mul] at h; exact h rfl
    · intro h; exact Nat.mul_ne_zero h (by omega)
  simp only [e3]
/-- A quotient with what is behind it is rounded to the number whose bounds hold it. -/
theorem rhe_quo {A B m c : Nat} (hB : 0 < B) (hm : 0 < m) (h1 : (2 * m - 1) * 2 ^ c * B ≤ A) (h2 : A ≤ (2 * m + 1) * 2 ^ c * B) (h3 : m % 2 = 1 → (2 * m - 1) * 2 ^ c * B < A ∧ A < (2 * m + 1) * 2 ^ c * B) : rhe (stq A B) (c + 2) = m := by
  have e : ∀ K, K * 2 ^ (c + 2) = 2 * (2 * (K * 2 ^ c)) := fun K => by rw [Nat.pow_add, ← Nat.mul_assoc]; omega
  have a1 := sticky_ge hB h1
  have a2 := sticky_le hB h2
  refine rhe_near ?_ ?_ (fun ho => ⟨?_, ?_⟩) hm
  · rw [e]; unfold stq; omega
  · rw [e]; unfold stq; omega
  · have := sticky_gt hB (h3 ho).1
    rw [e]; unfold stq; omega
  · have := sticky_lt hB (h3 ho).2
    rw [e]; unfold stq; omega
theorem andNot_any {x t : Nat} (hx : x < WB) (ht : t < 64) : bits BinOp.andNot .u64 (x : Int) ((2 ^ t - 1 : Nat) : Int) = ((x / 2 ^ t * 2 ^ t : Nat) : Int) := by
  have h2 : 2 ^ t < WB := by rw [WB_eq]; exact Nat.pow_lt_pow_right (by decide) ht
  have h3 := Nat.two_pow_pos t
  rw [u64_andNot_nat x _ hx (by unfold WB at h2; omega)]
  congr 1
  have e2 : 18446744073709551615 - (2 ^ t - 1) = 2 ^ t * (2 ^ (64 - t) - 1) := by
    rw [Nat.mul_sub, ← Nat.pow_add, show t + (64 - t) = 64 by omega]
    unfold WB at h2; omega
  rw [e2]
  apply Nat.eq_of_testBit_eq
  intro i
  rw [Nat.testBit_and, Nat.mul_comm (2 ^ t), Nat.testBit_mul_two_pow, Nat.testBit_mul_two_pow, Nat.testBit_two_pow_sub_one, Nat.testBit_div_two_pow]
  by_cases h : t ≤ i
  · rw [show i - t + t = i by omega]
    by_cases h4 : i < 64
    · simp [h, show i - t < 64 - t by omega]
    · have : x.testBit i = false := Nat.testBit_lt_two_pow (Nat.lt_of_lt_of_le hx (by rw [WB_eq]; exact Nat.pow_le_pow_right (by decide) (by omega)))
      simp [this]
  · simp [h]
theorem and_lsb {x t : Nat} (hx : x < WB) (ht : t < 64) : bits BinOp.and .u64 (x : Int) ((2 ^ t : Nat) : Int) = ((x / 2 ^ t % 2 * 2 ^ t : Nat) : Int) := by
  have h2 : 2 ^ t < WB := by rw [WB_eq]; exact Nat.pow_lt_pow_right (by decide) ht
  rw [bits_and_u64_nat x _ hx h2]
  congr 1
  apply Nat.eq_of_testBit_eq
  intro i
  rw [Nat.testBit_and, Nat.testBit_two_pow, Nat.testBit_mul_two_pow]
  have hx : x.testBit t = decide (x / 2 ^ t % 2 = 1) := Nat.testBit_eq_decide_div_mod_eq
  by_cases e : t = i
  · subst e
    rw [hx, Nat.sub_self]
    have : x / 2 ^ t % 2 = 0 ∨ x / 2 ^ t % 2 = 1 := by omega
    rcases this with h | h <;> simp [h]
  · by_cases h : t ≤ i
    · obtain ⟨j, hj⟩ : ∃ j, i - t = j + 1 := ⟨i - t - 1, by omega⟩
      rw [hj, Nat.testBit_succ, show x / 2 ^ t % 2 / 2 = 0 by omega]
      simp [e]
    · simp [e, h]
/-- A bit of a number of words. -/
theorem V_bit (f : Nat → Nat) (m i : Nat) (hf : ∀ j, j < m → f j < WB) (hi : i / 64 < m) : f (i / 64) / 2 ^ (i % 64) % 2 = V f m / 2 ^ i % 2 := by
  obtain ⟨n, hn⟩ : ∃ n, m = i / 64 + (n + 1) := ⟨m - i / 64 - 1, by omega⟩
  have h1 := V_split f (i / 64) (n + 1)
  rw [← hn] at h1
  have h2 : V f (i / 64) < WB ^ (i / 64) := V_lt _ fun j hj => hf j (by omega)
  rw [h1, V_hd, pow_split i, ← Nat.div_div_eq_div_mul, Nat.add_mul_div_left _ _ (Nat.pow_pos WB_pos), Nat.div_eq_of_lt h2, Nat.zero_add, Nat.add_zero]
  have e : WB = 2 ^ (i % 64) * (2 * 2 ^ (63 - i % 64)) := by
    rw [WB_eq, show (64 : Nat) = i % 64 + (1 + (63 - i % 64)) by omega, Nat.pow_add, Nat.pow_add]
    rw [show i % 64 + (1 + (63 - i % 64)) = 64 by omega]
  rw [e, Nat.mul_assoc, Nat.add_mul_div_left _ _ (Nat.two_pow_pos _), Nat.mul_assoc]
  omega
/-- What makeAcc says. -/
def accV (s : Bool) : Int := if s then 1 else -1
theorem accV_bnd (s : Bool) : -2 < accV s ∧ accV s < 2 := by cases s <;> decide
theorem makeAcc_says (s : Bool) (w : World) : Calls Tryz.prog 199 #[.bool s] w fun e w' => e = .returned (.int .i8 (accV s)) ∧ w = w' := by
  cases s
  · go_enter Tryz.func199, Tryz.ntmps199
    go_wp2_with fail
    go_ret
    exact ⟨rfl, rfl⟩
  · go_enter Tryz.func199, Tryz.ntmps199
    go_wp2_with fail
    go_ret
    exact ⟨rfl, rfl⟩
theorem addVW_one (yb xo xc t L : Nat) (hLW : L < WB) (hxc : 1 ≤ xc) (W : World) (h1 : IsW W yb xo) (h2 : Plain W yb) (h3 : wd W yb xo = t) (h4 : t + L < WB) : Calls Tryz.prog 182 #[.slice (some ⟨yb, xo, none⟩) 1 xc, .slice (some ⟨yb, xo, none⟩) 1 xc, .int .u64 L] W fun e w' => e = .returned (.int .u64 0) ∧ w'.cell? ⟨yb, xo, none⟩ = some (.int .u64 ((t + L : Nat) : Int)) ∧ Chg (Rng yb xo 1) W w' := by
    refine (addVW yb xo xc yb xo xc 1 L W (by decide) (by decide) hLW (by omega) (by omega) ⟨fun i hi => by rw [show i = 0 by omega]; exact h1, h2⟩ (fun i hi => by rw [show i = 0 by omega]; exact h1) h2 (.inr rfl)).mono ?_
    rintro r w' ⟨c, rfl, hc, hv, hk⟩
    have hw := hk.isW _ _ h1
    have hc0 := hw.cell
    have hwl := hw.lt
    simp [Val, V] at hv
    rw [h3] at hv
    have hc1 : c = 0 := by
      rcases (show c = 0 ∨ c = 1 by omega) with h | h
      · exact h
      · subst h; omega
    subst hc1
    rw [Nat.zero_mul, Nat.add_zero] at hv
    rw [hv] at hc0
    exact ⟨rfl, hc0, hk⟩
theorem inc_word (t tz P m0 : Nat) (htz : tz = 64 - P) (hP : P ≤ 62) (hm2 : m0 < 2 ^ P) (h : t / 2 ^ tz + 1 = m0) : t + 2 ^ tz < WB ∧ (t + 2 ^ tz) / 2 ^ tz = m0 := by
  have htq := Nat.div_add_mod t (2 ^ tz)
  have hmd := Nat.mod_lt t (Nat.two_pow_pos tz)
  have hW2 : WB = 2 ^ P * 2 ^ tz := by rw [WB_eq, ← Nat.pow_add]; congr 1; omega
  refine ⟨?_, ?_⟩
  · rw [hW2]
    have h1 : (m0 + 1) * 2 ^ tz ≤ 2 ^ P * 2 ^ tz := Nat.mul_le_mul_right _ hm2
    have h2 : (m0 + 1) * 2 ^ tz = 2 ^ tz * (t / 2 ^ tz) + 2 ^ tz + 2 ^ tz := by rw [← h, Nat.mul_comm, Nat.mul_add, Nat.mul_add, Nat.mul_one]
    omega
  · rw [Nat.add_div_right _ (Nat.two_pow_pos _)]; exact h
noncomputable def roundRest : Code := ((Tryz.f200.body.bind (atReg 14)).getD .skip)
set_option maxRecDepth 1000000 in
set_option maxHeartbeats 8000000 in
/-- The end of round: one word, cut and rounded to the even one. -/
theorem round_rest {Q0 : Ending → World → Prop} {u2 u3 u9 u10 u11 u12 u13 u14 u15 u16 u17 u18 u19 u20 u21 u22 u23 u24 u25 u26 u27 u28 u29 u30 u31 u32 u33 u34 u35 u36 u37 u38 u39 u40 u41 u42 u43 u44 u45 u46 u47 u48 u49 u50 u51 u52 u53 u54 u55 u56 u57 u58 u59 u60 u61 u62 u63 u64 u65 u66 u67 u68 u69 u70 u71 u72 u73 u74 u75 u76 u77 u78 u79 u80 u81 u82 u83 u84 u85 u86 u87 u88 u89 u90 u91 u92 u93 u94 u95 u96 u97 u98 u99 u100 u101 u102 u103 u104 u105 u106 u107 u108 u109 u110 u111 u112 u113 u114 u115 u116 u117 u118 u119 u120 u121 u122 u123 u124 u125 u126 u127 u128 u129 u130 u131 u132 u133 u134 u135 u136 u137 u138 u139 u140 u141 u142 u143 u144 u145 u146 u147 u148 u149 u150 u151 u152 u153 u154 u155 u156 u157 u158 u159 u160 u161 u162 u163 u164 u165 u166 u167 u168 u169 u170 u171 u172 u173 u174 u175 u176 u177 u178 u179 u180 u181 u182 u183 u184 u185 u186 u187 u188 u189 u190 u191 u192 u193 u194 u195 u196 u197 u198 u199 u200 u201 u202 u203 u204 u205 u206 u207 u208 u209 u210 u211 u212 u213 u214 u215 u216 u217 u218 u219 u220 u221 u222 u223 u224 : Value} {m R : Nat} (b P : Nat) (n : Bool) (e : Int) (yb xo xc rb sb t m0 : Nat) (wb : World) (hf : Fl wb b P 0 0 1 n (.slice (some ⟨yb, xo, none⟩) 1 xc) e) (hwt : wd wb yb xo = t) (hIW : IsW wb yb xo) (hPl : Plain wb yb)
    (hP0 : 0 < P) (hP1 : P ≤ 62) (hne : yb ≠ b) (hxc : 1 ≤ xc) (hrb1 : rb = 0 ∨ rb = 1) (hsb1 : sb = 0 ∨ sb = 1) (hM : m0 = t / 2 ^ (64 - P) + (if rb = 1 ∧ (sb = 1 ∨ t / 2 ^ (64 - P) % 2 = 1) then 1 else 0)) (hlt : m0 < 2 ^ P)
    (hQ0 : ∀ (a' : Int) w', -2 < a' ∧ a' < 2 → Fl w' b P 0 a' 1 n (.slice (some ⟨yb, xo, none⟩) 1 xc) e → w'.cell? ⟨yb, xo, none⟩ = some (.int .u64 (m0 * 2 ^ (64 - P) : Nat)) → Chg (FS b yb xo 1) wb w' → Q0 (.returned (.tuple #[])) w') :
    Code.wp Tryz.prog roundRest (bodyPost Tryz.prog Tryz.f200 Q0) ⟨#[.pointer (some ⟨b, 0, none⟩), .int .u64 sb, u2, u3, .int .u32 m, .int .u32 (m * 64), .int .u64 R, .int .u64 rb, .int .u32 1, u9, u10, u11, u12, u13, u14, u15, u16, u17, u18, u19, u20, u21, u22, u23, u24, u25, u26, u27, u28, u29, u30, u31, u32, u33, u34, u35, u36, u37, u38, u39, u40, u41, u42, u43, u44, u45, u46, u47, u48, u49, u50, u51, u52, u53, u54, u55, u56, u57, u58, u59, u60, u61, u62, u63, u64, u65, u66, u67, u68, u69, u70, u71, u72, u73, u74, u75, u76, u77, u78, u79, u80, u81, u82, u83, u84, u85, u86, u87, u88, u89, u90, u91, u92, u93, u94, u95, u96, u97, u98, u99, u100, u101, u102, u103, u104, u105, u106, u107, u108, u109, u110, u111, u112, u113, u114, u115, u116, u117, u118, u119, u120, u121, u122, u123, u124, u125, u126, u127, u128, u129, u130, u131, u132, u133, u134, u135, u136, u137, u138, u139, u140, u141, u142, u143, u144, u145, u146, u147, u148, u149, u150, u151, u152, u153, u154, u155, u156, u157, u158, u159, u160, u161, u162, u163, u164, u165, u166, u167, u168, u169, u170, u171, u172, u173, u174, u175, u176, u177, u178, u179, u180, u181, u182, u183, u184, u185, u186, u187, u188, u189, u190, u191, u192, u193, u194, u195, u196, u197, u198, u199, u200, u201, u202, u203, u204, u205, u206, u207, u208, u209, u210, u211, u212, u213, u214, u215, u216, u217, u218, u219, u220, u221, u222, u223, u224], []⟩ wb := by
  conv => arg 2; whnf
  obtain ⟨tz, htz⟩ : ∃ tz, tz = 64 - P := ⟨_, rfl⟩
  rw [← htz] at hM hQ0
  have HM := Lib.hid hM
  have HQ0 := Lib.hid hQ0
  have HTZ := Lib.hid htz
  have HLT := Lib.hid hlt
  have ht64 : tz < 64 := by omega
  have htW : t < WB := by rw [← hwt]; exact hIW.lt
  have HFb := Lib.hid hf
  obtain ⟨c0, c1, c2, c3, c4, c5, c6, -, hp, -, -, -⟩ := hf
  have cx := hIW.cell
  rw [hwt] at cx
  have fx : wb.frozen? ⟨yb, xo, none⟩ = false := hPl.free xo
  have HPL := Lib.hid hPl
  have HIW := Lib.hid hIW
  have HWT := Lib.hid hwt
  have f2 := hp.free 2
  obtain ⟨L, hL⟩ : ∃ L : Nat, L = 2 ^ tz := ⟨_, rfl⟩
  have HL := Lib.hid hL
  have hLW : L < WB := by rw [hL, WB_eq]; exact Nat.pow_lt_pow_right (by decide) ht64
  have e5 : IntKind.u32.wrap (64 - (P : Int)) = (tz : Int) := by rw [IntKind.wrap_u32]; omega
  have eL : IntKind.u64.wrap (2 ^ tz) = (L : Int) := by
    rw [show (2 : Int) ^ tz = ((2 ^ tz : Nat) : Int) by rw [Int.natCast_pow]; rfl, wrap_cast, ← hL, Nat.mod_eq_of_lt hLW]
  have HCX := Lib.hid cx
  have HLL : Hid (t / 2 ^ tz + 1 = m0 → t + L < WB ∧ (t + L) / 2 ^ tz = m0) := Lib.hid (fun h => by rw [HL.out]; exact inc_word t tz P m0 HTZ.out hP1 HLT.out h)
  have H182 : Hid (∀ W, IsW W yb xo → Plain W yb → wd W yb xo = t → t + L < WB → Calls Tryz.prog 182 #[.slice (some ⟨yb, xo, none⟩) 1 xc, .slice (some ⟨yb, xo, none⟩) 1 xc, .int .u64 L] W fun e w' => e = .returned (.int .u64 0) ∧ w'.cell? ⟨yb, xo, none⟩ = some (.int .u64 ((t + L : Nat) : Int)) ∧ Chg (Rng yb xo 1) W w') := Lib.hid (fun W h1 h2 h3 h4 => addVW_one yb xo xc t L hLW hxc W h1 h2 h3 h4)
  clear hp hPl hIW hwt hL hM hQ0 htz hlt
  go_upto_if 113 with fail
  clear e5 eL
  go_cut [] (fun (wx : World) => ∃ (a' : Int) (t' : Nat), (-2 < a' ∧ a' < 2) ∧ Hid (Fl wx b P 0 a' 1 n (.slice (some ⟨yb, xo, none⟩) 1 xc) e) ∧ Hid (wx.cell? ⟨yb, xo, none⟩ = some (.int .u64 t') ∧ t' < WB ∧ t' / 2 ^ tz = m0) ∧ Hid (Chg (FS b yb xo 1) wb wx))
  case first =>
    by_cases hinc : rb = 1 ∧ (sb = 1 ∨ t / 2 ^ tz % 2 = 1)
    · have HM0 : Hid (t / 2 ^ tz + 1 = m0) := Lib.hid (by rw [HM.out, if_pos hinc])
      obtain ⟨rfl, hs3⟩ := hinc
      have hA : t / 2 ^ tz % 2 = 1 → bits BinOp.and .u64 (t : Int) (L : Int) = (L : Int) := fun h => by
        rw [HL.out, and_lsb htW ht64, h, Nat.one_mul]
      have hL0 : ((L : Int) != 0) = true := by have := Nat.two_pow_pos tz; rw [← HL.out] at this; simp; omega
      obtain ⟨q1, q2⟩ := HLL.out HM0.out
      have Q1 := Lib.hid q1
      have Q2 := Lib.hid q2
      clear q1 q2
      have hs4 : sb = 1 ∨ (sb = 0 ∧ t / 2 ^ tz % 2 = 1) := by omega
      rcases hs4 with rfl | ⟨rfl, ho⟩
      all_goals
        first | have eA := hA ho | skip
        clear hA hs3 hsb1 hrb1
        go_wp2_with fail
        refine (makeAcc_says _ _).mono ?_
        rintro r w2 ⟨rfl, rfl⟩
        go_wp2_with fail
        obtain ⟨av, hav⟩ : ∃ av, av = accV (!n) := ⟨_, rfl⟩
        rw [← hav]
        have F3 := HFb.out.set2 av
        have K3 := HFb.out.put2 (Chg.refl (FS b yb xo 1) wb) av (fun _ => .inl rfl)
        have I3 := K3.isW _ _ HIW.out
        have P3 := K3.plain _ HPL.out
        have W3 : wd (wb.setCell ⟨b, 2, none⟩ (.int .i8 av)) yb xo = t := (wd_setCell_ne (.inl hne)).trans HWT.out
        have HAV : Hid (-2 < av ∧ av < 2) := Lib.hid (by rw [hav]; exact accV_bnd _)
        clear hav c0 c1 c2 c3 c4 c5 c6 f2 fx cx
        generalize wb.setCell ⟨b, 2, none⟩ (.int .i8 av) = w3 at *
        have HF3 := Lib.hid F3
        have HK3 := Lib.hid K3
        have H4 := Lib.hid (H182.out w3.drew I3 P3 W3 Q1.out)
        have hbl := F3.lt
        obtain ⟨-, -, -, -, -, d5, d6, -, -, -, -, -⟩ := F3
        clear K3 I3 P3 W3
        go_region_held3 (fun W => W.cell? ⟨b, 5, none⟩ = some (.slice (some ⟨yb, xo, none⟩) 1 xc)) (first | assumption | exact d5) (first | (go_at_call 182; (with_reducible refine H4.out.mono ?_); rintro r w4 ⟨rfl, hc4, hk4⟩; have HC4 := Lib.hid hc4; have hkk := (Chg.refl (Rng yb xo 1) w3).drew.then hk4 (fun _ _ _ f => f); have HK4 := Lib.hid hkk; have d5' : w4.cell? ⟨b, 5, none⟩ = some (.slice (some ⟨yb, xo, none⟩) 1 xc) := (hkk.cell _ _ hbl (fun f => hne f.1.symm)).trans d5; clear hc4 hk4 hkk))
        all_goals
          go_wp2_with fail
          go_meet
          exact ⟨av, t + L, HAV.out, Lib.hid (HF3.out.chg HK4.out (fun o f => hne f.1.symm)), Lib.hid ⟨HC4.out, Q1.out, Q2.out⟩, Lib.hid (HK3.out.then HK4.out (fun x o _ f => .inr f))⟩
    · have HM0 : Hid (t / 2 ^ tz = m0) := Lib.hid (by rw [HM.out, if_neg hinc, Nat.add_zero])
      rcases hrb1 with rfl | rfl
      · clear hinc
        rcases hsb1 with rfl | rfl
        · go_wp2_with fail
          go_meet
          exact ⟨0, t, by decide, HFb, Lib.hid ⟨HCX.out, htW, HM0.out⟩, Lib.hid (Chg.refl _ _)⟩
        · go_wp2_with fail
          refine (makeAcc_says _ _).mono ?_
          rintro r w2 ⟨rfl, rfl⟩
          go_wp2_with fail
          go_meet
          exact ⟨_, t, accV_bnd _, Lib.hid (HFb.out.set2 _), Lib.hid ⟨(cell_setCell_ne _ _ _ _ _ _ (.inl hne)).trans HCX.out, htW, HM0.out⟩, Lib.hid (HFb.out.put2 (Chg.refl _ _) _ (fun _ => .inl rfl))⟩
      · have hs0 : sb = 0 := by omega
        have ho : t / 2 ^ tz % 2 = 0 := by omega
        subst hs0
        have eA : bits BinOp.and .u64 (t : Int) (L : Int) = 0 := by rw [HL.out, and_lsb htW ht64, ho, Nat.zero_mul]; rfl
        clear ho hinc
        go_wp2_with fail
        refine (makeAcc_says _ _).mono ?_
        rintro r w2 ⟨rfl, rfl⟩
        go_wp2_with fail
        go_meet
        exact ⟨_, t, accV_bnd _, Lib.hid (HFb.out.set2 _), Lib.hid ⟨(cell_setCell_ne _ _ _ _ _ _ (.inl hne)).trans HCX.out, htW, HM0.out⟩, Lib.hid (HFb.out.put2 (Chg.refl _ _) _ (fun _ => .inl rfl))⟩
  case rest =>
  obtain ⟨a', t', hab, hF, hT, hK⟩ := hcut
  generalize wc = wq at *
  obtain ⟨hT1, hT2, hT3⟩ := hT.out
  have HT1 := Lib.hid hT1
  obtain ⟨K, hKd⟩ : ∃ K : Nat, K = 2 ^ tz - 1 := ⟨_, rfl⟩
  have hL1 := Nat.two_pow_pos tz
  have eM : IntKind.u64.wrap ((L : Int) - 1) = (K : Int) := by
    rw [show (L : Int) - 1 = ((K : Nat) : Int) by have := HL.out; omega, wrap_cast, Nat.mod_eq_of_lt (by have := HL.out; omega)]
  have eN : bits BinOp.andNot .u64 (t' : Int) (K : Int) = ((m0 * 2 ^ tz : Nat) : Int) := by rw [hKd, andNot_any hT2 ht64, hT3]
  obtain ⟨v0, hv0⟩ : ∃ v0, v0 = m0 * 2 ^ tz := ⟨_, rfl⟩
  rw [← hv0] at eN HQ0
  have hv0W : v0 < WB := by
    have h1 := HLT.out
    have h2 : m0 * 2 ^ tz < 2 ^ P * 2 ^ tz := Nat.mul_lt_mul_of_pos_right h1 hL1
    rw [hv0]
    refine Nat.lt_of_lt_of_le h2 ?_
    rw [WB_eq, ← Nat.pow_add]; exact Nat.pow_le_pow_right (by decide) (by have := HTZ.out; omega)
  have hPq := hK.out.plain _ HPL.out
  have fx2 : wq.frozen? ⟨yb, xo, none⟩ = false := hPq.free xo
  clear c0 c1 c2 c3 c4 c5 c6 f2 fx cx hT1 hT3 hKd hL1 hv0 hPq
  obtain ⟨c0, c1, c2, c3, c4, c5, c6, -, -, -, -, -⟩ := hF.out
  have cq := HT1.out
  go_wp2_with fail
  go_end0
  have hw : IsW wq yb xo := ⟨t', hT2, HT1.out⟩
  have ks := Chg.setW (S := FS b yb xo 1) (Chg.refl _ wq) hw hv0W (fun _ => .inr ⟨rfl, Nat.le_refl _, by omega⟩)
  exact HQ0.out a' _ hab (hF.out.chg (Chg.setW (S := Rng yb xo 1) (Chg.refl _ wq) hw hv0W (fun _ => ⟨rfl, Nat.le_refl _, by omega⟩)) (fun o f => hne f.1.symm)) (World.cell?_setCell_same _ _ _ HT1.out) (hK.out.then ks (fun _ _ _ f => f))
set_option maxRecDepth 100000 in
set_option maxHeartbeats 8000000 in
/-- round to the nearest, of two to the even one, within one word. -/
theorem float_round_even (b P : Nat) (a : Int) (n : Bool) (e : Int) (xb xo m xc X s m0 : Nat) (w : World) (hf : Fl w b P 0 a 1 n (.slice (some ⟨xb, xo, none⟩) m xc) e) (hx : NtAt w xb xo m xc X)
    (hm0 : 0 < m) (hm : m ≤ 1000) (hP0 : 0 < P) (hP1 : P ≤ 62) (hs : s ≤ 1) (hne : xb ≠ b) (hr : rhe (2 * X + s) (64 * m - P + 1) = m0) (hlt : m0 < 2 ^ P) (hpos : 0 < m0) :
    Calls Tryz.prog 200 #[.pointer (some ⟨b, 0, none⟩), .int .u64 s] w fun r w' => r = .returned (.tuple #[]) ∧ ∃ a', (-2 < a' ∧ a' < 2) ∧ Fl w' b P 0 a' 1 n (.slice (some ⟨xb, xo, none⟩) 1 xc) e ∧ NtAt w' xb xo 1 xc (m0 * 2 ^ (64 - P)) ∧ Chg (FS b xb xo m) w w' := by
  obtain ⟨Q0, hQ0⟩ : ∃ Q0 : Ending → World → Prop, Q0 = fun r w' => r = .returned (.tuple #[]) ∧ ∃ a', (-2 < a' ∧ a' < 2) ∧ Fl w' b P 0 a' 1 n (.slice (some ⟨xb, xo, none⟩) 1 xc) e ∧ NtAt w' xb xo 1 xc (m0 * 2 ^ (64 - P)) ∧ Chg (FS b xb xo m) w w' := ⟨_, rfl⟩
  rw [← hQ0]
  have hle := hx.1.le
  have HQ0 : Hid (∀ (a' : Int) (wx w' : World), Chg (FS b xb xo m) w wx → -2 < a' ∧ a' < 2 → Fl w' b P 0 a' 1 n (.slice (some ⟨xb, xo, none⟩) 1 xc) e → w'.cell? ⟨xb, xo, none⟩ = some (.int .u64 (m0 * 2 ^ (64 - P) : Nat)) → Chg (FS b xb xo 1) wx w' → Q0 (.returned (.tuple #[])) w') := Lib.hid (fun a' wx w' k0 hab h1 h2 h3 => by
    rw [hQ0]
    have k1 : Chg (FS b xb xo m) w w' := k0.then h3 (fun x o _ f => by
      rcases f with f | f
      · exact .inl f
      · exact .inr ⟨f.1, f.2.1, by have := f.2.2; omega⟩)
    have hN := (hx.1.chg k1).len (show 1 ≤ xc by omega)
    have hw0 := (hN.isW 0 (by omega)).cell
    rw [Nat.add_zero] at hw0
    have hv : wd w' xb xo = m0 * 2 ^ (64 - P) := by
      have := hw0.symm.trans h2
      simp at this
      exact_mod_cast this
    refine ⟨rfl, a', hab, h1, ⟨hN, ?_, .inr ?_⟩, k1⟩
    · simp [Val, V, hv]
    · rw [Nat.sub_self, Nat.add_zero, hv]
      exact Nat.mul_ne_zero (by omega) (Nat.ne_of_gt (Nat.two_pow_pos _)))
  clear hQ0
  have F1 := Lib.hid (hf.set2 0)
  have C1 := Lib.hid (hf.put2 (Chg.refl (FS b xb xo m) w) 0 (fun _ => .inl rfl))
  have N1 := Lib.hid (hx.1.chg C1.out)
  have V1 : Hid (Val (w.setCell ⟨b, 2, none⟩ (.int .i8 0)) xb xo m = X) := Lib.hid ((Val_congr fun i hi => wd_setCell_ne (.inl hne)).trans hx.2.1)
  have e1 : IntKind.u32.wrap (m : Int) = (m : Int) := by rw [IntKind.wrap_u32]; omega
  obtain ⟨c0, c1, c2, c3, c4, c5, c6, -, hp, -, -, -⟩ := hf
  have f2 := hp.free 2
  clear hp hx
  have i1 : ¬ (m : Int) * 64 ≤ (P : Int) := by omega
  obtain ⟨R, hR⟩ : ∃ R : Nat, R = 64 * m - P - 1 := ⟨_, rfl⟩
  have er : (m : Int) * 64 - P - 1 = (R : Int) := by omega
  have i2 : IntKind.u32.wrap ((m : Int) * 64) = (m : Int) * 64 := by rw [IntKind.wrap_u32]; omega
  have hfl : ∀ j, j < m → wd (w.setCell ⟨b, 2, none⟩ (.int .i8 0)) xb (xo + j) < WB := fun j hj => (N1.out.isW j (by omega)).lt
  have B1 := nat_bit xb xo m xc R (w.setCell ⟨b, 2, none⟩ (.int .i8 0)) (N1.out.isW _ (by omega)) hm (by omega)
  have B2 := nat_sticky xb xo m xc R (w.setCell ⟨b, 2, none⟩ (.int .i8 0)) N1.out hm (by omega)
  have hVb := V_bit (fun j => wd (w.setCell ⟨b, 2, none⟩ (.int .i8 0)) xb (xo + j)) m R hfl (by omega)
  have hV2 := V1.out
  unfold Val at hV2
  rw [hVb, hV2] at B1
  rw [V1.out] at B2
  obtain ⟨rb, hrb⟩ : ∃ rb, rb = X / 2 ^ R % 2 := ⟨_, rfl⟩
  obtain ⟨st, hst⟩ : ∃ st, st = stickyOf X R := ⟨_, rfl⟩
  have hrb1 : rb = 0 ∨ rb = 1 := by omega
  have hst1 : st = 0 ∨ st = 1 := by rw [hst]; unfold stickyOf; split <;> simp
  rw [← hrb] at B1
  rw [← hst] at B2
  have hrs := rhe_bits X s R hs
  rw [show R + 2 = 64 * m - P + 1 by omega, hr, ← hrb] at hrs
  have hst2 : X % 2 ^ R ≠ 0 ↔ st = 1 := by rw [hst]; unfold stickyOf; split <;> simp_all
  simp only [hst2] at hrs
  have H1 := Lib.hid B1
  have H2 := Lib.hid B2
  obtain ⟨sb, hsb⟩ : ∃ sb, sb = if s = 1 then 1 else st := ⟨_, rfl⟩
  have hsb1 : sb = 0 ∨ sb = 1 := by rw [hsb]; split <;> omega
  obtain ⟨t, ht⟩ : ∃ t, t = wd (w.setCell ⟨b, 2, none⟩ (.int .i8 0)) xb (xo + (m - 1)) := ⟨_, rfl⟩
  obtain ⟨tz, htz⟩ : ∃ tz, tz = 64 - P := ⟨_, rfl⟩
  have htW : t < WB := by rw [ht]; exact hfl (m - 1) (by omega)
  have hQ : X / 2 ^ (R + 1) = t / 2 ^ tz := by
    have h1 := V_split (fun j => wd (w.setCell ⟨b, 2, none⟩ (.int .i8 0)) xb (xo + j)) (m - 1) 1
    rw [show m - 1 + 1 = m by omega, hV2] at h1
    have h3 : V (fun j => wd (w.setCell ⟨b, 2, none⟩ (.int .i8 0)) xb (xo + j)) (m - 1) < WB ^ (m - 1) := V_lt _ fun j hj => hfl j (by omega)
    have h4 : V (fun i => wd (w.setCell ⟨b, 2, none⟩ (.int .i8 0)) xb (xo + (m - 1 + i))) 1 = t := by rw [ht]; simp [V]
    rw [h4] at h1
    have h5 : 2 ^ (R + 1) = WB ^ (m - 1) * 2 ^ tz := by rw [WB_two, ← Nat.pow_add]; congr 1; omega
    rw [h5, ← Nat.div_div_eq_div_mul, h1, Nat.add_mul_div_left _ _ (Nat.pow_pos WB_pos), Nat.div_eq_of_lt h3, Nat.zero_add]
  rw [hQ] at hrs
  -- what the rounding does to the word
  have HM : Hid (m0 = t / 2 ^ tz + (if rb = 1 ∧ (sb = 1 ∨ t / 2 ^ tz % 2 = 1) then 1 else 0)) := Lib.hid (by
    rw [hrs, hsb]
    have hs' : s = 0 ∨ s = 1 := by omega
    rcases hs' with h | h
    · subst h; simp; split <;> simp
    · subst h; simp; split <;> simp)
  have HT := Lib.hid ht
  have HTZ := Lib.hid htz
  have ht64 : tz < 64 := by omega
  have ht2 : 2 ≤ tz := by omega
  have HFL := Lib.hid hfl
  have HSB := Lib.hid hsb
  have HLT := Lib.hid (And.intro hlt hpos)
  have o1 : bits BinOp.and .u64 (rb : Int) 1 = (rb : Int) := by rcases hrb1 with rfl | rfl <;> decide
  have o2 : bits BinOp.and .u64 (sb : Int) 1 = (sb : Int) := by rcases hsb1 with rfl | rfl <;> decide
  have hs1 : s = 0 ∨ s = 1 := by omega
  clear B1 B2 hfl hR hVb hV2 hrb hst hrs hst2 hr hQ ht htz hsb hlt hpos hs
  go_enter Tryz.func200, Tryz.ntmps200
  go_wp2_with fail
  refine H1.out.mono ?_
  rintro r w1 ⟨rfl, rfl⟩
  go_upto_region 7 with fail
  generalize w.setCell ⟨b, 2, none⟩ (.int .i8 0) = wa at *
  clear c0 c1 c2 c3 c4 c5 c6 f2 H1
  obtain ⟨c0, c1, c2, c3, c4, c5, c6, -, hp, -, -, -⟩ := F1.out
  have f5 := hp.free 5
  clear hp
  go_cut [61] (fun (v : Value) (wx : World) => v = .bool (decide (s = 0)) ∧ wa = wx)
  case first =>
    rcases hs1 with rfl | rfl <;> rcases hrb1 with rfl | rfl
    all_goals
      go_wp2_with fail
      go_meet
      exact ⟨rfl, rfl⟩
  case rest =>
  obtain ⟨rfl, rfl⟩ := hcut
  go_upto_if 61 with fail
  go_cut [1] (fun (v : Value) (wx : World) => v = .int .u64 sb ∧ wa = wx)
  case first =>
    rcases hs1 with rfl | rfl
    · have HS0 : Hid (sb = st) := Lib.hid (by rw [HSB.out]; rfl)
      go_wp2_with fail
      refine H2.out.mono ?_
      rintro r w1 ⟨rfl, rfl⟩
      go_wp2_with fail
      go_meet
      exact ⟨by rw [HS0.out], rfl⟩
    · have HS0 : Hid (sb = 1) := Lib.hid (by rw [HSB.out]; rfl)
      go_wp2_with fail
      go_meet
      exact ⟨by rw [HS0.out]; rfl, rfl⟩
  case rest =>
  obtain ⟨rfl, rfl⟩ := hcut
  have e2 : ((P : Int) + 63) / 64 = 1 := by omega
  have e63 : IntKind.u32.wrap ((P : Int) + 63) = (P : Int) + 63 := by rw [IntKind.wrap_u32]; omega
  clear H2
  go_upto_if 78 with fail
  rw [e2]
  go_cut [] (fun (wx : World) => ∃ yb, yb = xb ∧ Hid (Fl wx b P 0 0 1 n (.slice (some ⟨xb, xo, none⟩) 1 xc) e) ∧ Hid (wd wx xb xo = t) ∧ Hid (Chg (FS b xb xo m) wa wx))
  case first =>
    by_cases hm1 : m = 1
    · subst hm1
      go_wp2_with fail
      go_meet
      exact ⟨xb, rfl, F1, Lib.hid (by rw [HT.out, Nat.sub_self, Nat.add_zero]), Lib.hid (Chg.refl _ _)⟩
    · have hg1 : (1 : Int) < (m : Int) := by omega
      have e4 : IntKind.u32.wrap ((m : Int) - 1) = ((m - 1 : Nat) : Int) := by rw [IntKind.wrap_u32]; omega
      have hxw : ∀ i, i < 1 → IsW wa xb (xo + (m - 1) + i) := fun i hi => by rw [Nat.add_assoc]; exact N1.out.isW _ (by omega)
      have hzw : Wr wa.drew xb xo 1 := ⟨fun i hi => N1.out.isW i (by omega), N1.out.plain⟩
      obtain ⟨w2, hrun, hc2, hv2⟩ := run_copyW (P := Tryz.prog) wa.drew 85 85 3 149 xb xo m xc xb (xo + (m - 1)) (m - (m - 1)) (xc - (m - 1)) 1 Tryz.underlying85 (by kernel_rfl) (by simp; omega) hxw hzw
      have HC2 : Hid (Chg (Rng xb xo 1) wa w2) := Lib.hid (((Chg.refl (Rng xb xo 1) wa).drew).then hc2 (fun _ _ _ f => f))
      have HV2 := Lib.hid hv2
      have F2 := F1.out.chg HC2.out (fun o f => hne f.1.symm)
      have HF2 := Lib.hid F2
      obtain ⟨g0, g1, g2, g3, g4, g5, g6, -, gp, -, -, -⟩ := F2
      have gf5 := gp.free 5
      have hxc : ¬ xc = m - 1 := by omega
      clear hc2 hv2 hxw hzw gp
      go_wp2_with fail
      go_region_with (rw [hrun])
      all_goals
        go_wp2_with fail
        go_meet
        refine ⟨xb, rfl, Lib.hid (HF2.out.set5 _ ⟨_, _, _, rfl⟩), Lib.hid ((wd_setCell_ne (.inl hne)).trans ((HV2.out 0 (by omega)).trans (by rw [HT.out]; rfl))), Lib.hid (HF2.out.put5 (HC2.out.mono (T := FS b xb xo m) (fun x o _ f => .inr ⟨f.1, f.2.1, by have := f.2.2; omega⟩)) _ (fun _ => .inl rfl))⟩
  case rest =>
  obtain ⟨yb, rfl, HFb, hwt, HCb⟩ := hcut
  generalize wc = wb at *
  clear c0 c1 c2 c3 c4 c5 c6 f5
  have hIW : IsW wb yb xo := HCb.out.isW _ _ (N1.out.isW 0 (by omega))
  have hPl := HCb.out.plain _ N1.out.plain
  have HMM : Hid (m0 = t / 2 ^ (64 - P) + (if rb = 1 ∧ (sb = 1 ∨ t / 2 ^ (64 - P) % 2 = 1) then 1 else 0)) := Lib.hid (by rw [← HTZ.out]; exact HM.out)
  have hxc1 : 1 ≤ xc := by omega
  have KK := Lib.hid (C1.out.then HCb.out (fun _ _ _ f => f))
  clear e1 er i2 e2 e63 o1 o2
  go_upto_region 14 with (show Code.wp _ (Code.seq (Code.region 14 _ _) _) _ _ _; exact round_rest b P n e yb xo xc rb sb t m0 wb HFb.out hwt.out hIW hPl hP0 hP1 hne hxc1 hrb1 hsb1 HMM.out HLT.out.1 (fun a' w' hab h1 h2 h3 => HQ0.out a' wb w' KK.out hab h1 h2 h3))
/-- What a Float is behind rounding to one word. -/
def EvenOut (b P : Nat) (n : Bool) (E : Int) (xb xo m xc m0 : Nat) (w : World) (r : Ending) (w' : World) : Prop :=
  r = .returned (.tuple #[]) ∧ ∃ a', (-2 < a' ∧ a' < 2) ∧ Fl w' b P 0 a' 1 n (.slice (some ⟨xb, xo, none⟩) 1 xc) E ∧ NtAt w' xb xo 1 xc (m0 * 2 ^ (64 - P)) ∧ Chg (FS b xb xo m) w w'
set_option maxRecDepth 100000 in
set_option maxHeartbeats 1000000 in
theorem float_setExp_even (b P : Nat) (a : Int) (f : Nat) (n : Bool) (e0 : Int) (xb xo m xc X s m0 : Nat) (E : Int) (w : World) (hf : Fl w b P 0 a f n (.slice (some ⟨xb, xo, none⟩) m xc) e0) (hx : NtAt w xb xo m xc X)
    (hm0 : 0 < m) (hm : m ≤ 1000) (hP0 : 0 < P) (hP1 : P ≤ 62) (hs : s ≤ 1) (hne : xb ≠ b) (hr : rhe (2 * X + s) (64 * m - P + 1) = m0) (hlt : m0 < 2 ^ P) (hpos : 0 < m0) (hE1 : -100000 ≤ E) (hE2 : E ≤ 100000) :
    Calls Tryz.prog 188 #[.pointer (some ⟨b, 0, none⟩), .int .i64 E, .int .u64 s] w (EvenOut b P n E xb xo m xc m0 w) := by
  have h1 := hf.set3 1 (by omega)
  have h2 := hf.put3 (Chg.refl (FS b xb xo m) w) 1 (by omega) (fun _ => .inl rfl)
  have h3 := h1.set6 E
  have h4 := h1.put6 h2 E (fun _ => .inl rfl)
  have C1 := Lib.hid h4
  have x1 := hx.chg (hf.put3 (Chg.refl (Blk b) w) 1 (by omega) (fun _ => rfl)) (fun i hi => hne)
  have x2 := x1.chg (h1.put6 (Chg.refl (Blk b) _) E (fun _ => rfl)) (fun i hi => hne)
  have HR := Lib.hid (float_round_even b P a n E xb xo m xc X s m0 _ h3 x2 hm0 hm hP0 hP1 hs hne hr hlt hpos)
  have t1 : decide (E < -2147483648) = false := decide_eq_false (by omega)
  have t2 : decide (2147483647 < E) = false := decide_eq_false (by omega)
  have e1 : IntKind.i32.wrap E = E := by rw [IntKind.wrap_i32]; omega
  obtain ⟨c0, c1, c2, c3, c4, c5, c6, -, hp, -, -, -⟩ := hf
  have f3 := hp.free 3
  have f6 := hp.free 6
  clear h1 h2 h3 h4 x1 x2 hp hx hr hlt hpos
  go_enter Tryz.func188, Tryz.ntmps188
  go_wp2_with fail
  refine HR.out.mono ?_
  rintro r w1 ⟨rfl, a', hab, q1, q2, q3⟩
  have Q1 := Lib.hid q1
  have Q2 := Lib.hid q2
  have Q3 := Lib.hid (C1.out.then q3 (fun x o _ h => h))
  clear q1 q2 q3
  go_wp2_with fail
  go_end0
  exact ⟨rfl, a', hab, Q1.out, Q2.out, Q3.out⟩
end Go.Proofs.YtacfhndledcmgaaGreatDoor
