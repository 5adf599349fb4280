/- Lemmas for the law FnBackDecimal: itoa, decimal.init. Conditions: those in each theorem; none besides. -/
import Derived.Test.YtacfhndledcmgaaGreatDoorK8
import Derived.Defers
import Derived.Deep.RegionLaw
set_option linter.unusedVariables false
set_option linter.unusedSimpArgs false
namespace Go.Proofs.YtacfhndledcmgaaGreatDoor
open Go.RowKit
/-- 10 to 19, behind a name. -/
def BB : Nat := 10000000000000000000
theorem BB_eq : BB = 10 ^ 19 := rfl
theorem BB_lt : BB < WB := by decide
/-- The figure of X at 10 to k. -/
def dg (X k : Nat) : Nat := X / 10 ^ k % 10
/-- The places from i on hold the figures of X. -/
def CvM (w : World) (sb so sl X i : Nat) : Prop := ∀ p, i ≤ p → p < sl → wd w sb (so + p) = 48 + dg X (sl - 1 - p)
/-- The state of the inner loop. -/
def CvR (X sl Q i r j : Nat) : Prop := X / 10 ^ (sl - i) = Q * 10 ^ (19 - j) + r ∧ r < 10 ^ (19 - j) ∧ j ≤ 19 ∧ i ≤ sl
theorem CvR.step {X sl Q i r j : Nat} (h : CvR X sl Q i r j) (hj : j < 19) (hi : 0 < i) : CvR X sl Q (i - 1) (r / 10) (j + 1) ∧ dg X (sl - 1 - (i - 1)) = r % 10 := by
  obtain ⟨h1, h2, h3, h4⟩ := h
  have e1 : 19 - j = (19 - (j + 1)) + 1 := by omega
  rw [e1, Nat.pow_succ] at h1 h2
  have e3 : sl - 1 - (i - 1) = sl - i := by omega
  refine ⟨⟨?_, ?_, by omega, by omega⟩, ?_⟩
  · rw [show sl - (i - 1) = (sl - i) + 1 by omega, Nat.pow_succ, ← Nat.div_div_eq_div_mul, h1]
    generalize 10 ^ (19 - (j + 1)) = T
    rw [← Nat.mul_assoc, Nat.add_comm, Nat.add_mul_div_right _ _ (by decide), Nat.add_comm]
  · rw [Nat.div_lt_iff_lt_mul (by decide)]; exact h2
  · unfold dg
    rw [e3, h1, ← Nat.mul_assoc, Nat.add_comm, Nat.add_mul_mod_self_right]
theorem CvM.put {w : World} {sb so sl X i d : Nat} {c : Nat} (h : CvM w sb so sl X i) (hn : NK .u8 256 w sb so sl c) (hi : 0 < i) (hil : i ≤ sl) (hd : d = dg X (sl - 1 - (i - 1))) (hd10 : d < 10) :
    CvM (w.setCell ⟨sb, so + (i - 1), none⟩ (.int .u8 (48 + d : Nat))) sb so sl X (i - 1) ∧ Chg (Rng sb so sl) w (w.setCell ⟨sb, so + (i - 1), none⟩ (.int .u8 (48 + d : Nat))) := by
  have hb := hn.isI (i - 1) (by have := hn.le; omega)
  refine ⟨fun p h1 h2 => ?_, Chg.setB (Chg.refl _ w) hb (by omega) (fun _ => ⟨rfl, by omega, by omega⟩)⟩
  by_cases e : p = i - 1
  · subst e
    rw [wd_setCell_same hb.cell, hd]
  · rw [wd_setCell_ne (.inr (by omega))]
    exact h p (by omega) h2
/-- The numbers of one figure, by name. -/
theorem cv_arith {r : Nat} (hr : r < WB) : ∃ t t10 d d48 : Nat, (r : Int) / 10 = (t : Int) ∧ IntKind.u64.wrap (t : Int) = (t : Int) ∧ IntKind.u64.wrap ((t : Int) * 10) = (t10 : Int) ∧ IntKind.u64.wrap ((r : Int) - (t10 : Int)) = (d : Int) ∧ 48 + (d : Int) = (d48 : Int) ∧ d < 10 ∧ t = r / 10 ∧ d = r % 10 ∧ d48 = 48 + d := by
  unfold WB at hr
  refine ⟨r / 10, r / 10 * 10, r % 10, 48 + r % 10, ?_, ?_, ?_, ?_, ?_, ?_, rfl, rfl, rfl⟩
  · omega
  · rw [IntKind.wrap_u64]; omega
  · rw [IntKind.wrap_u64]; omega
  · rw [IntKind.wrap_u64]; omega
  · omega
  · omega
theorem AlB.refl {w : World} {z : Value} (h : Ow w z) : AlB z z := by
  rcases h with rfl | ⟨b, o, n, c, rfl, hn⟩
  · exact .inr fun b o b' o' f => f.elim
  · exact .inl ⟨b, o, n, n, c, rfl, rfl⟩
set_option maxRecDepth 100000 in
set_option maxHeartbeats 2000000 in
theorem convertWords_leaf (q : Value) (X sb so sl sc : Nat) (stk : Value) (w : World) (hq : Nt w q X) (hX : Small X) (hs : NK .u8 256 w sb so sl sc) (hsl : sl < 1000000) (hXs : X < 10 ^ sl) (hne : ∀ x p, Fp q x p → x ≠ sb) (h17 : 17 ≤ w.heap.size) :
    Calls Tryz.prog 238 #[q, stk, .slice (some ⟨sb, so, none⟩) sl sc, .int .u64 10, .int .i64 19, .int .u64 BB, .slice none 0 0] w fun e w' => e = .returned (.tuple #[]) ∧ CvM w' sb so sl X 0 ∧ NK .u8 256 w' sb so sl sc ∧ Chg (fun x o => Fp q x o ∨ Rng sb so sl x o) w w' := by
  have hnil : ∀ W, (binOp .neq 275 (.slice none 0 0) (.slice none 0 0)).run Tryz.prog W = .ok (.bool false) W := fun W => by kernel_rfl
  have HSm := Lib.hid hX
  have HXs := Lib.hid hXs
  clear hX hXs
  go_enter Tryz.func238, Tryz.ntmps238
  go_upto_block 4 with fail
  go_cut [19] (fun iv wx => ∃ i : Nat, iv = .int .i64 i ∧ i ≤ sl ∧ Hid (CvM wx sb so sl X i) ∧ Hid (X / 10 ^ (sl - i) = 0) ∧ Hid (NK .u8 256 wx sb so sl sc) ∧ Hid (Chg (fun x o => Fp q x o ∨ Rng sb so sl x o) w wx))
  case first =>
    go_wp2_with fail
    go_loopg [0, 19] X (fun gk qv iv wr => ∃ i Q : Nat, iv = .int .i64 i ∧ Hid (Nt wr qv Q) ∧ Hid (Q ≤ gk ∧ Q ≤ X) ∧ i ≤ sl ∧ Hid (X / 10 ^ (sl - i) = Q) ∧ Hid (CvM wr sb so sl X i) ∧ Hid (NK .u8 256 wr sb so sl sc) ∧ Hid (Chg (fun x o => Fp q x o ∨ Rng sb so sl x o) w wr) ∧ Hid (∀ x p, Fp qv x p → Fp q x p ∨ w.heap.size ≤ x))
    case atStart => exact ⟨sl, X, rfl, Lib.hid hq, Lib.hid ⟨Nat.le_refl _, Nat.le_refl _⟩, Nat.le_refl _, Lib.hid (by simp), Lib.hid (fun p h1 h2 => by omega), Lib.hid hs, Lib.hid (Chg.refl _ _), Lib.hid (fun x p f => .inl f)⟩
    case round =>
      obtain ⟨i, Q, rfl, q1, q2, q3, q4, q5, q6, q7, q8⟩ := hrel
      obtain ⟨qa, qn, qc, rfl⟩ := q1.out.sl
      have hSQ : Small Q := Nat.lt_of_le_of_lt q2.out.2 HSm.out
      by_cases hQ : Q = 0
      · have hqn : qn = 0 := by
          rcases q1.out with ⟨h, _⟩ | ⟨b', o', n', c', h, hn, hv, hz⟩
          · cases h; rfl
          · cases h
            have := len_le (k := 0) hz (by rw [hv, hQ]; exact Nat.one_pos)
            omega
        subst hqn
        have HQ := Lib.hid hQ
        clear hQ
        go_wp2_with fail
        go_meet
        exact ⟨i, rfl, q3, q5, Lib.hid (by rw [q4.out]; exact HQ.out), q6, q7⟩
      · have hqn : 0 < qn := by
          rcases Nat.eq_zero_or_pos qn with e | e
          · subst e
            rcases q1.out with ⟨_, h⟩ | ⟨b', o', n', c', h, hn, hv, hz⟩
            · exact absurd h hQ
            · cases h; exact absurd hv.symm hQ
          · exact e
        have i1 : (0 : Int) < qn := by omega
        have HD := Lib.hid (nat_divW (.slice qa qn qc) (.slice qa qn qc) Q BB wr q1.out.ow q1.out hSQ (by decide) BB_lt (AlB.refl q1.out.ow) (Nat.le_trans h17 q7.out.size))
        have HQ := Lib.hid hQ
        clear hQ hSQ
        go_wp2_with fail
        refine HD.out.mono ?_
        rintro e w2 ⟨q', rfl, hr⟩
        obtain ⟨r0, hr0⟩ : ∃ r0, r0 = Q % BB := ⟨_, rfl⟩
        rw [← hr0]
        have HR := Lib.hid hr
        have HR0 := Lib.hid hr0
        clear hr hr0
        have hdis : ∀ x p, Fp (.slice qa qn qc) x p → x ≠ sb := fun x p f => by
          rcases q8.out x p f with f' | f'
          · exact hne x p f'
          · have := hs.lt; omega
        have N2 := Lib.hid (q6.out.chg km8 HR.out.chg)
        have C2 : Hid (CvM w2 sb so sl X i) := Lib.hid (fun p h1 h2 => (wd_congr (HR.out.chg.cell _ _ q6.out.lt (fun f => hdis _ _ f rfl))).trans (q5.out p h1 h2))
        obtain ⟨QB, hQBe⟩ : ∃ QB, QB = Q / BB := ⟨_, rfl⟩
        have hQB : Q / BB < Q := Nat.div_lt_self (Nat.pos_of_ne_zero HQ.out) (by decide)
        rw [← hQBe] at hQB
        rw [← hQBe] at HR
        have HQB := Lib.hid hQBe
        clear hQBe
        obtain ⟨g2, rfl, hg2⟩ : ∃ g2, gk = g2 + 1 ∧ Hid (QB ≤ g2) := ⟨gk - 1, by have := q2.out; omega, Lib.hid (by have := q2.out; omega)⟩
        have HQBl := Lib.hid hQB
        clear hQB
        have fin : ∀ (i' : Nat) (wx : World), i' ≤ sl → X / 10 ^ (sl - i') = QB → CvM wx sb so sl X i' → NK .u8 256 wx sb so sl sc → Chg (Rng sb so sl) w2 wx →
            ∃ i Q : Nat, Value.int .i64 (i' : Int) = .int .i64 i ∧ Hid (Nt wx q' Q) ∧ Hid (Q ≤ g2 ∧ Q ≤ X) ∧ i ≤ sl ∧ Hid (X / 10 ^ (sl - i) = Q) ∧ Hid (CvM wx sb so sl X i) ∧ Hid (NK .u8 256 wx sb so sl sc) ∧ Hid (Chg (fun x o => Fp q x o ∨ Rng sb so sl x o) w wx) ∧ Hid (∀ x p, Fp q' x p → Fp q x p ∨ w.heap.size ≤ x) := by
          intro i' wx u1 u2 u3 u4 u5
          refine ⟨i', QB, rfl, Lib.hid (HR.out.nt.chg u5 (fun x p f g => ?_)), Lib.hid ⟨hg2.out, by have := q2.out; have := HQBl.out; omega⟩, u1, Lib.hid u2, Lib.hid u3, Lib.hid u4, Lib.hid ((q7.out.then HR.out.chg (fun x p hx f => ?_)).then u5 (fun x p _ f => .inr f)), Lib.hid (fun x p f => ?_)⟩
          · rcases HR.out.fp x p f with f' | f'
            · exact hdis x p f' g.1
            · have := q6.out.lt; have := g.1; omega
          · rcases q8.out x p f with f' | f'
            · exact .inl f'
            · omega
          · rcases HR.out.fp x p f with f' | f'
            · exact q8.out x p f'
            · have := q7.out.size; exact .inr (by omega)
        have Fin := Lib.hid fin
        clear fin
        go_wp2_with fail
        go_loopg [19, 20, 21] 19 (fun gk iv rv jv wr => ∃ i r j : Nat, iv = .int .i64 i ∧ rv = .int .u64 r ∧ jv = .int .i64 j ∧ Hid (CvR X sl (QB) i r j) ∧ Hid (CvM wr sb so sl X i) ∧ Hid (NK .u8 256 wr sb so sl sc) ∧ Hid (Chg (Rng sb so sl) w2 wr) ∧ i ≤ sl ∧ j ≤ 19 ∧ Hid (19 - j ≤ gk))
        case atStart => exact ⟨i, r0, 0, rfl, rfl, rfl, Lib.hid ⟨by rw [q4.out, HR0.out, HQB.out, ← BB_eq, Nat.div_add_mod'], by rw [HR0.out, ← BB_eq]; exact Nat.mod_lt _ (by decide), by omega, q3⟩, C2, N2, Lib.hid (Chg.refl _ _), q3, by omega, Lib.hid (by omega)⟩
        case round =>
          clear C2 N2 q3 q4
          obtain ⟨i, r, j, rfl, rfl, rfl, p1, p2, p3, p4, p5, p6, p7⟩ := hrel
          by_cases hj : j = 19
          · subst hj
            go_wp2_with fail
            go_roundg g2
            case measure => omega
            case rel =>
            refine Fin.out i _ p5 ?_ p2.out p3.out p4.out
            obtain ⟨h1, h2, -, -⟩ := p1.out
            simp at h1 h2
            omega
          · have i1 : (j : Int) < 19 := by omega
            by_cases hi : i = 0
            · subst hi
              clear hj
              go_wp2_with fail
              go_roundg g2
              case measure => omega
              case rel =>
              refine Fin.out 0 _ p5 ?_ p2.out p3.out p4.out
              obtain ⟨h1, h2, -, -⟩ := p1.out
              rw [Nat.sub_zero, Nat.div_eq_of_lt HXs.out] at h1 ⊢
              have h10 : 0 < 10 ^ (19 - j) := Nat.pow_pos (by decide)
              rcases Nat.eq_zero_or_pos (QB) with e | e
              · exact e.symm
              · have := Nat.mul_pos e h10; omega
            · have i2 : (0 : Int) < i := by omega
              have i3 : (i : Int) - 1 < sl := by omega
              have i4 : 0 ≤ (i : Int) - 1 := by omega
              have i5 : ((i : Int) - 1).toNat = i - 1 := by omega
              have hrW : r < WB := by
                have h1 := p1.out.2.1
                have h2 : 10 ^ (19 - j) ≤ 10 ^ 19 := Nat.pow_le_pow_right (by decide) (by omega)
                have := BB_lt; rw [BB_eq] at this; omega
              obtain ⟨t, t10, d, d48, e1, e0, e2, e3, e4, hd10, ht, hd, hd48⟩ := cv_arith hrW
              obtain ⟨st1, st2⟩ := p1.out.step (by omega) (by omega)
              obtain ⟨z1, z2⟩ := p2.out.put p3.out (by omega) p5 (hd.trans st2.symm) hd10
              rw [← hd48] at z1 z2
              rw [← ht] at st1
              have cz := (p3.out.isI (i - 1) (by have := p3.out.le; omega)).cell
              have fz := p3.out.plain.free (so + (i - 1))
              have hd256 : d48 < 256 := by omega
              have ST := Lib.hid st1
              have Z1 := Lib.hid z1
              have Z2 := Lib.hid z2
              obtain ⟨g1, rfl⟩ : ∃ g1, gk = g1 + 1 := ⟨gk - 1, by have := p7.out; omega⟩
              clear st1 st2 z1 z2 hd48 hd ht hrW hj hi
              go_wp2_with fail
              go_roundg g1
              case measure => omega
              case rel => exact ⟨i - 1, t, j + 1, by go_num, rfl, by go_num, ST, Z1, Lib.hid (p3.out.chg km8 Z2.out), Lib.hid (p4.out.then Z2.out (fun _ _ _ f => f)), by omega, by omega, Lib.hid (by have := p7.out; omega)⟩
  case rest =>
    obtain ⟨i, rfl, q1, q2, q3, q4, q5⟩ := hcut
    go_wp2_with fail
    go_loopg [19] sl (fun gk iv wr => ∃ i : Nat, iv = .int .i64 i ∧ i ≤ sl ∧ Hid (i ≤ gk) ∧ Hid (CvM wr sb so sl X i) ∧ Hid (X / 10 ^ (sl - i) = 0) ∧ Hid (NK .u8 256 wr sb so sl sc) ∧ Hid (Chg (fun x o => Fp q x o ∨ Rng sb so sl x o) w wr))
    case atStart => exact ⟨i, rfl, q1, Lib.hid q1, q2, q3, q4, q5⟩
    case round =>
      clear q1 q2 q3 q4 q5
      obtain ⟨i, rfl, q1, q0, q2, q3, q4, q5⟩ := hrel
      by_cases hi : i = 0
      · subst hi
        go_wp2_with fail
        go_end0
        exact ⟨rfl, q2.out, q4.out, q5.out⟩
      · have i2 : (0 : Int) < i := by omega
        have i3 : (i : Int) - 1 < sl := by omega
        have i4 : 0 ≤ (i : Int) - 1 := by omega
        have i5 : ((i : Int) - 1).toNat = i - 1 := by omega
        have hdz : 0 = dg X (sl - 1 - (i - 1)) := by
          unfold dg
          rw [show sl - 1 - (i - 1) = sl - i by omega, q3.out]
        obtain ⟨z1, z2⟩ := q2.out.put q4.out (by omega) q1 hdz (by omega)
        have cz := (q4.out.isI (i - 1) (by have := q4.out.le; omega)).cell
        have fz := q4.out.plain.free (so + (i - 1))
        have z3 : X / 10 ^ (sl - (i - 1)) = 0 := by
          rw [show sl - (i - 1) = (sl - i) + 1 by omega, Nat.pow_succ, ← Nat.div_div_eq_div_mul, q3.out]
        have Z1 := Lib.hid z1
        have Z2 := Lib.hid z2
        have Z3 := Lib.hid z3
        obtain ⟨g1, rfl⟩ : ∃ g1, gk = g1 + 1 := ⟨gk - 1, by have := q0.out; omega⟩
        clear z1 z2 z3 hdz hi
        go_wp2_with fail
        go_roundg g1
        case measure => omega
        case rel => exact ⟨i - 1, by go_num, by omega, Lib.hid (by have := q0.out; omega), Z1, Z3, Lib.hid (q4.out.chg km8 Z2.out), Lib.hid (q5.out.then Z2.out (fun _ _ _ f => .inr f))⟩
set_option maxRecDepth 100000 in
set_option maxHeartbeats 1000000 in
theorem maxPow10 (w : World) : Calls Tryz.prog 143 #[.int .u64 10] w fun e w' => e = .returned (.tuple #[.int .u64 BB, .int .i64 19]) ∧ w = w' := by
  go_enter Tryz.func143, Tryz.ntmps143
  go_wp2_with fail
  go_loop [2, 3] (fun p n => ∃ k P : Nat, p = .int .u64 P ∧ n = .int .i64 k ∧ Hid (P = 10 ^ k) ∧ 1 ≤ k ∧ k ≤ 19) (fun _ n => 19 - (intOf n).toNat)
  case atStart => exact ⟨1, 10, rfl, rfl, Lib.hid rfl, by omega, by omega⟩
  case round =>
    obtain ⟨k, P, rfl, rfl, hP, h1, h2⟩ := hrel
    by_cases hk : k = 19
    · have t : decide ((P : Int) ≤ 1844674407370955161) = false := decide_eq_false (by rw [hP.out, hk]; decide)
      obtain rfl : P = BB := by rw [hP.out, hk]; rfl
      subst hk
      go_wp2_with fail
      go_ret2
      exact ⟨rfl, rfl⟩
    · have hle : 10 ^ k ≤ 10 ^ 18 := Nat.pow_le_pow_right (by decide) (by omega)
      have t : decide ((P : Int) ≤ 1844674407370955161) = true := decide_eq_true (by rw [hP.out]; have : (10 ^ k : Nat) ≤ 1844674407370955161 := Nat.le_trans hle (by decide); omega)
      obtain ⟨P2, e2, hP2⟩ : ∃ P2 : Nat, IntKind.u64.wrap ((P : Int) * 10) = (P2 : Int) ∧ P2 = 10 ^ (k + 1) := by
        have h3 : P * 10 ≤ 10 ^ 18 * 10 := Nat.mul_le_mul_right _ (by rw [hP.out]; exact hle)
        have h19 : (10 ^ 18 * 10 : Nat) = 10000000000000000000 := by decide
        refine ⟨P * 10, ?_, ?_⟩
        · rw [IntKind.wrap_u64]; omega
        · rw [hP.out, Nat.pow_succ]
      have HP2 := Lib.hid hP2
      have hk19 : k < 19 := by omega
      clear hP2 hle hP hk
      go_wp2_with fail
      go_round
      case rel => exact ⟨k + 1, P2, rfl, by go_num, HP2, by omega, by omega⟩
      case measure => simp [intOf]; omega
set_option maxHeartbeats 1000000 in
theorem getStack_new (w : World) (hs : 17 ≤ w.heap.size) : Calls Tryz.prog 94 #[] w fun e w' => e = .returned (.pointer (some ⟨w.heap.size, 0, none⟩)) ∧ w'.cell? ⟨w.heap.size, 0, none⟩ = some (.pointer none) ∧ w'.heap.size = w.heap.size + 1 ∧ Chg No w w' := by
  go_enter Tryz.func94, Tryz.ntmps94
  go_wp2_with fail
  go_ret
  refine ⟨rfl, World.cell?_alloc_new _ _ _ _, by simp, (Chg.refl No w).alloc _⟩
set_option maxHeartbeats 1000000 in
theorem divisors_none (stk : Value) (m : Nat) (x y z : Value) (w : World) (hg : Glob w) (hm : m ≤ 8) : Calls Tryz.prog 237 #[stk, .int .i64 m, x, y, z] w fun e w' => e = .returned (.slice none 0 0) ∧ w = w' := by
  have c9 : w.cell? ⟨9, 0, none⟩ = some (.int .i64 8) := hg.cell 9 0 _ rfl
  have i1 : (m : Int) ≤ 8 := by omega
  go_enter Tryz.func237, Tryz.ntmps237
  go_wp2_with fail
  go_ret
  exact ⟨rfl, rfl⟩
set_option maxHeartbeats 1000000 in
theorem free_deferred (b : Nat) (w : World) (u : FrameMode) (h : w.cell? ⟨b, 0, none⟩ = some (.pointer none)) : CallsD Tryz.prog 95 #[.pointer (some ⟨b, 0, none⟩)] u w fun e u' w' => u' = u ∧ e = .returned (.tuple #[]) ∧ w = w' := by
  go_enter_d Tryz.func95, Tryz.ntmps95
  go_wp2_with fail
  go_end0
  exact ⟨rfl, rfl⟩
/-- 'make' of numbers of a kind. -/
theorem wpList_makeN {P : Program} {w : World} {ops : Array Oper} {rest : List Oper} {o : Oper} {a : Act} {Q : Exit → Act → World → Prop} (hgd : o.guard = none) {k : IntKind} {M : Nat} (hk : KM k M) (l c : Operand) (t : TypeId) (hop : o.op = Op.makeSlice t l c)
    (e : TypeId) (i : TypeInfo) (h1 : P.underlying t = some (.slice e)) (h2 : P.info? e = some i) (h3 : i.zero = some (.int k 0)) (h4 : i.size = 1) (h5 : i.bytes ≤ 8)
    (L C : Int) (n m : Nat) (hl : a.eval l = .int .i64 L) (hc : a.eval c = .int .i64 C) (hL : L = (n : Int)) (hC : C = (m : Int)) (hnm : n ≤ m) (hm : m < 35184372088832) (h17 : 17 ≤ w.heap.size)
    (h : ∀ w', Chg No w w' → w'.heap.size = w.heap.size + 1 → NK k M w' w.heap.size 0 n m → Hid (∀ i, i < m → wd w' w.heap.size i = 0) → wpList P ops Q rest (a.put o.dst (.slice (some ⟨w.heap.size, 0, none⟩) n m)) w') : wpList P ops Q (o :: rest) a w := by
  refine wpList_plain hgd fun K hK => ?_
  subst hL; subst hC
  have hb : (i.bytes : Int) * (m : Int) ≤ 281474976710656 := by
    have h1 : i.bytes * m ≤ 8 * m := Nat.mul_le_mul_right _ h5
    have h2 : ((i.bytes * m : Nat) : Int) ≤ ((8 * m : Nat) : Int) := by omega
    rw [Int.natCast_mul] at h2
    omega
  have hrun := run_make (P := P) w t e i (.int k 0) h1 h2 h3 .i64 .i64 n m (by omega) (by omega) hb (by omega)
  simp only [Int.toNat_natCast] at hrun
  rw [h4, Nat.mul_one] at hrun
  have hcell : ∀ i, i < m → (w.alloc (.cells (madeCells (Value.int k 0).cells m) e)).cell? ⟨w.heap.size, i, none⟩ = some (.int k ((0 : Nat) : Int)) := by
    intro i hi
    rw [World.cell?_alloc_new]
    simp [madeCells, Value.cells, hi, Nat.mod_one]
  unfold Oper.wp
  simp [execOp, hop, hl, hc, hrun, Result.andThen]
  refine hK _ _ (h _ (Chg.refl _ _ |>.alloc _) (by simp) ⟨hnm, by unfold maxLen; omega, fun i hi => ?_, Plain.new _ _ _, h17⟩ (fun i hi => wd_of (hcell i hi)))
  rw [Nat.zero_add]; exact ⟨0, hk.pos, hcell i hi⟩
/-- The last n figures of a number, the highest first. -/
def digs (X : Nat) : Nat → List Nat
  | 0 => []
  | n + 1 => digs (X / 10) n ++ [X % 10]
theorem digs_length : ∀ (n X : Nat), (digs X n).length = n
  | 0, _ => rfl
  | n + 1, X => by simp [digs, digs_length n]
theorem digs_get : ∀ (n X j : Nat), j < n → (digs X n).getD j 0 = dg X (n - 1 - j)
  | 0, _, _, h => by omega
  | n + 1, X, j, h => by
    simp only [digs]
    by_cases e : j = n
    · subst e
      have := gd_snoc_eq (digs (X / 10) j) (X % 10)
      rw [digs_length] at this
      rw [this]; simp [dg]
    · rw [gd_snoc_lt (by rw [digs_length]; omega), digs_get n _ j (by omega)]
      unfold dg
      rw [Nat.div_div_eq_div_mul, ← Nat.pow_succ', show n + 1 - 1 - j = n - 1 - j + 1 by omega]
theorem digs_lt : ∀ (n X : Nat), ∀ d ∈ digs X n, d < 10
  | 0, _, _, h => by simp [digs] at h
  | n + 1, X, d, h => by
    simp only [digs] at h
    rcases List.mem_append.1 h with h | h
    · exact digs_lt n _ d h
    · simp at h; omega
theorem Nd_digs : ∀ (n X : Nat), Nd (digs X n) = X % 10 ^ n
  | 0, X => by simp [digs, Nd, Nat.mod_one]
  | n + 1, X => by
    simp only [digs]
    rw [Nd_snoc, Nd_digs n, Nat.pow_succ', Nat.mod_mul]; omega
/-- The text of a number, in memory. -/
structure TxM (w : World) (sb so sc : Nat) (ds : List Nat) : Prop where
  nb : NK .u8 256 w sb so ds.length sc
  dig : ∀ j, j < ds.length → wd w sb (so + j) = 48 + ds.getD j 0
  d10 : ∀ d ∈ ds, d < 10
theorem blen_wb {X m : Nat} (h0 : X ≠ 0) (h : X < WB ^ m) : blen X ≤ 64 * m := blen_le h0 (by rw [← WB_two]; exact h)
theorem and_neg10 : bits BinOp.and .u64 10 (IntKind.u64.wrap (-10)) = 2 := by decide +kernel
set_option maxRecDepth 100000 in
set_option maxHeartbeats 4000000 in
theorem itoa10 (x : Value) (X : Nat) (w : World) (hx : Nt w x X) (hX0 : X ≠ 0) (hXs : X < WB ^ 8) (hg : Glob w) :
    Calls Tryz.prog 178 #[x, .bool false, .int .i64 10] w fun e w' => ∃ sb so sc ds, e = .returned (.slice (some ⟨sb, so, none⟩) ds.length sc) ∧ TxM w' sb so sc ds ∧ Nd ds = X ∧ 0 < ds.length ∧ ds.getD 0 0 ≠ 0 ∧ w.heap.size ≤ sb ∧ Chg No w w' := by
  have hSm : Small X := small_words hXs (by omega)
  obtain ⟨q1, q2, q3⟩ := blen_spec hX0
  have hB8 : blen X ≤ 64 * 8 := blen_wb hX0 hXs
  have hB : blen X ≤ 512 := by omega
  clear hB8
  obtain ⟨B, hBB⟩ : ∃ B, B = blen X := ⟨_, rfl⟩
  obtain ⟨g1, g2, g3, g4⟩ := est_ok (n := B) (by omega)
  have HB := nat_bitLen x X w hx hSm
  rw [← hBB] at HB
  have HB := Lib.hid HB
  obtain ⟨xa, xn, xc, rfl⟩ := hx.sl
  have hxn : 0 < xn := by
    rcases Nat.eq_zero_or_pos xn with e | e
    · subst e
      rcases hx with ⟨_, h⟩ | ⟨b', o', n', c', h, hn, hv, hz⟩
      · exact absurd h hX0
      · cases h; exact absurd hv.symm hX0
    · exact e
  have hxn8 : xn ≤ 8 := by
    rcases hx with ⟨h, _⟩ | ⟨b', o', n', c', h, hn, hv, hz⟩
    · cases h; omega
    · cases h; exact len_le hz (by rw [hv]; exact hXs)
  have t0 : ((xn : Int) == 0) = false := beq_eq_false_iff_ne.2 (by omega)
  have k1 := est_conv B
  have k2 := fc9
  have k3 := fun W => est_div (n := B) (by omega) W
  have k4 := fun W => est_int (n := B) (by omega) W
  have k5 := and_neg10
  obtain ⟨L, hL⟩ : ∃ L, L = est B := ⟨_, rfl⟩
  rw [← hL] at k4
  have hL1 : L ≤ 512 := by omega
  have hXL : X < 10 ^ (L + 1) := by rw [hL]; refine Nat.lt_of_lt_of_le q3 ?_; rw [← hBB]; exact g4
  have HX := Lib.hid hx
  have HXL := Lib.hid hXL
  have HSm := Lib.hid hSm
  obtain ⟨ci, hi1, hi2, hi3, hi4⟩ := info_of info5
  clear hx hXL hSm hXs hBB q1 q2 q3 hB g1 g2 g3 g4 hL
  go_enter_defers Tryz.func178, Tryz.ntmps178
  go_wp2_with (go_at_call 194; refine HB.out.mono ?_; rintro e w1 ⟨rfl, hd⟩; obtain ⟨kd, rfl⟩ := hd)
  go_wp2_with (first
    | (go_at_call 236; refine (math_Log2_10 _).mono ?_; rintro e w1 ⟨rfl, rfl⟩)
    | (refine wpList_makeN rfl km8 (.tmp 44) (.tmp 44) 56 rfl 5 ci Tryz.underlying56 hi1 hi2 hi3 (by rw [hi4]; omega) _ _ (L + 1) (L + 1) rfl rfl (by omega) (by omega) (Nat.le_refl _) (by omega) hg.size ?_; intro w1 hc1 hs1 hn1 hz1))
  have K1 := Lib.hid (((Chg.refl No w).drewN kd).then hc1 (fun _ _ _ f => f))
  have N1 := Lib.hid hn1
  have hs1' : w1.heap.size = w.heap.size + 1 := hs1
  have HS1 := Lib.hid hs1'
  have hsz1 : w.heap.size < w1.heap.size := by omega
  clear hc1 hn1 hz1 hs1 hs1' k1 k2 k3 k4
  have h17 := hg.size
  refine (getStack_new w1 (by omega)).mono ?_
  rintro e w2 ⟨rfl, st, hs2, k2⟩
  have K2 := Lib.hid (K1.out.then k2 (fun _ _ _ f => f))
  have ST := Lib.hid st
  have N2 := Lib.hid (N1.out.chg km8 k2)
  have HS2 := Lib.hid hs2
  have hsz2 : w1.heap.size < w2.heap.size := by omega
  have hg2 := hg.no K2.out
  clear st hs2 k2
  have HSet := Lib.hid (nat_set (.slice none 0 0) (.slice xa xn xc) X w2 (.inl rfl) (HX.out.chg K2.out (fun _ _ _ f => f)) HSm.out (by omega))
  go_wp2_with (first
    | (go_at_call 143; refine (maxPow10 _).mono ?_; rintro e w3 ⟨rfl, rfl⟩)
    | (go_at_call 237; refine (divisors_none _ xn _ _ _ _ hg2 hxn8).mono ?_; rintro e w3 ⟨rfl, rfl⟩))
  refine HSet.out.mono ?_
  rintro e w3 ⟨q, rfl, hr⟩
  have K3 := Lib.hid (K2.out.then hr.chg (fun _ _ _ f => f.elim))
  have N3 := Lib.hid (N2.out.chg km8 hr.chg)
  have ST3 := Lib.hid ((hr.chg.cell w1.heap.size 0 hsz2 (fun f => f)).trans ST.out)
  have hqs : ∀ x p, Fp q x p → w2.heap.size ≤ x := fun x p f => (hr.fp x p f).resolve_left (fun g => g)
  have HQS := Lib.hid hqs
  have hsz3 := hr.chg.size
  have HCv := Lib.hid (convertWords_leaf q X w.heap.size 0 (L + 1) (L + 1) (.pointer (some ⟨w1.heap.size, 0, none⟩)) w3 hr.nt HSm.out N3.out (by omega) HXL.out (fun x p f => by have := hqs x p f; omega) (by omega))
  clear hr hqs
  go_wp2_with fail
  refine HCv.out.mono ?_
  rintro e w4 ⟨rfl, cv, hn4, k4⟩
  have hqs := HQS.out
  have K4 := Lib.hid (K3.out.then k4 (fun x p hx f => by
    rcases f with f | f
    · have := hqs x p f; omega
    · have := f.1; omega))
  have CV := Lib.hid cv
  have N4 := Lib.hid hn4
  have hsz4 := k4.size
  have ST4 := Lib.hid ((k4.cell w1.heap.size 0 (by omega) (fun f => by
    rcases f with f | f
    · have := hqs _ _ f; omega
    · have := f.1; omega)).trans ST3.out)
  clear cv hn4 k4 hqs
  go_wp2_with fail
  go_loopg [7] (L + 1) (fun gk iv wr => ∃ i : Nat, iv = .int .i64 i ∧ w4 = wr ∧ i < L + 1 ∧ Hid (X < 10 ^ (L + 1 - i)) ∧ Hid (L + 1 - i ≤ gk))
  case atStart => exact ⟨0, rfl, rfl, by omega, HXL, Lib.hid (by omega)⟩
  case round =>
    obtain ⟨i, rfl, rfl, hi, hX, hgk⟩ := hrel
    have i1 : (i : Int) < (L : Int) + 1 := by omega
    have hc := (N4.out.isI i (by omega)).cell
    rw [CV.out i (by omega) (by omega), Nat.zero_add] at hc
    obtain ⟨y, hy⟩ : ∃ y, y = 48 + dg X (L + 1 - 1 - i) := ⟨_, rfl⟩
    rw [← hy] at hc
    by_cases hd : dg X (L + 1 - 1 - i) = 0
    · have t1 : ((y : Int) == 48) = true := by rw [hy, hd]; rfl
      have hX2 : X < 10 ^ (L + 1 - (i + 1)) := by
        have h1 := hX.out
        rw [show L + 1 - i = (L + 1 - 1 - i) + 1 by omega, Nat.pow_succ] at h1
        rw [show L + 1 - (i + 1) = L + 1 - 1 - i by omega]
        unfold dg at hd
        have h2 : X / 10 ^ (L + 1 - 1 - i) < 10 := (Nat.div_lt_iff_lt_mul (Nat.pow_pos (by decide))).2 (by rw [Nat.mul_comm]; exact h1)
        have h3 : X / 10 ^ (L + 1 - 1 - i) = 0 := by
          rw [Nat.mod_eq_of_lt h2] at hd; exact hd
        exact (Nat.div_eq_zero_iff_lt (Nat.pow_pos (by decide))).1 h3
      have hi2 : i + 1 < L + 1 := by
        rcases Nat.lt_or_ge (i + 1) (L + 1) with h | h
        · exact h
        · rw [show L + 1 - (i + 1) = 0 by omega] at hX2
          simp at hX2; omega
      have HX2 := Lib.hid hX2
      obtain ⟨g1, rfl⟩ : ∃ g1, gk = g1 + 1 := ⟨gk - 1, by have := hgk.out; omega⟩
      clear hd hy hX2
      go_wp2_with fail
      go_roundg g1
      case measure => omega
      case rel => exact ⟨i + 1, by go_num, rfl, hi2, HX2, Lib.hid (by have := hgk.out; omega)⟩
    · have t1 : ((y : Int) == 48) = false := beq_eq_false_iff_ne.2 (by omega)
      have hcap : ¬ L + 1 = i := by omega
      have HD := Lib.hid hd
      clear hd hy
      go_wp2_with fail
      refine leaves_cons (f := 95) (args := #[.pointer (some ⟨w1.heap.size, 0, none⟩)]) (by simp) (by simp [go_sem]) ?_
      refine (free_deferred _ _ .returning ST4.out).mono ?_
      rintro e u' w'' ⟨rfl, rfl, rfl⟩
      refine ⟨_, results_tmp rfl _ _ _, w.heap.size, i, L + 1 - i, digs X (L + 1 - i), ?_, ⟨?_, fun j hj => ?_, digs_lt _ _⟩, ?_, by rw [digs_length]; omega, ?_, Nat.le_refl _, K4.out⟩
      · rw [digs_length]; rfl
      · rw [digs_length]
        refine ⟨Nat.le_refl _, by unfold maxLen; omega, fun j hj => ?_, N4.out.plain, N4.out.own⟩
        have := N4.out.isI (i + j) (by omega)
        rwa [Nat.zero_add] at this
      · rw [digs_length] at hj
        rw [digs_get _ _ _ hj]
        have := CV.out (i + j) (by omega) (by omega)
        rw [Nat.zero_add] at this
        rw [this]
        congr 2
        omega
      · rw [Nd_digs, Nat.mod_eq_of_lt hX.out]
      · rw [digs_get _ _ _ (by omega)]
        have := HD.out
        rw [show L + 1 - i - 1 - 0 = L + 1 - 1 - i by omega]
        exact this
/-- itoa in base 10 tells the figures of X. -/
def ItoaOk (X : Nat) : Prop := ∀ (x : Value) (w : World), Nt w x X → Glob w → Calls Tryz.prog 178 #[x, .bool false, .int .i64 10] w fun e w' => ∃ sb so sc ds, e = .returned (.slice (some ⟨sb, so, none⟩) ds.length sc) ∧ TxM w' sb so sc ds ∧ Nd ds = X ∧ 0 < ds.length ∧ ds.getD 0 0 ≠ 0 ∧ w.heap.size ≤ sb ∧ Chg No w w'
theorem itoaOk_small {X : Nat} (h0 : X ≠ 0) (h : X < WB ^ 8) : ItoaOk X := fun x w hx hg => itoa10 x X w hx h0 h hg
set_option maxHeartbeats 1000000 in
theorem utoa_ok (x : Value) (X : Nat) (w : World) (hI : ItoaOk X) (hx : Nt w x X) (hg : Glob w) : Calls Tryz.prog 120 #[x, .int .i64 10] w fun e w' => ∃ sb so sc ds, e = .returned (.slice (some ⟨sb, so, none⟩) ds.length sc) ∧ TxM w' sb so sc ds ∧ Nd ds = X ∧ 0 < ds.length ∧ ds.getD 0 0 ≠ 0 ∧ w.heap.size ≤ sb ∧ Chg No w w' := by
  have H := Lib.hid (hI x w hx hg)
  clear hI hx
  go_enter Tryz.func120, Tryz.ntmps120
  go_wp2_with fail
  refine H.out.mono ?_
  rintro e w1 ⟨sb, so, sc, ds, rfl, h1, h2, h3, h4, h5, h6⟩
  have R := Lib.hid (And.intro h1 (And.intro h2 (And.intro h3 (And.intro h4 (And.intro h5 h6)))))
  clear h1 h2 h3 h4 h5 h6
  go_wp2_with fail
  go_ret
  exact ⟨sb, so, sc, ds, rfl, R.out⟩
theorem Nd_ge {ds : List Nat} (h0 : 0 < ds.length) (hh : ds.getD 0 0 ≠ 0) : 10 ^ (ds.length - 1) ≤ Nd ds := by
  have key : ∀ k, 10 ^ k ≤ Dp ds (k + 1) := by
    intro k
    induction k with
    | zero => rw [Dp_succ, Dp_zero]; show 1 ≤ 10 * 0 + ds.getD 0 0; omega
    | succ k ih => rw [Dp_succ, Nat.pow_succ]; omega
  have := key (ds.length - 1)
  rw [show ds.length - 1 + 1 = ds.length by omega, Dp_len] at this
  exact this
theorem len_small {ds : List Nat} (h0 : 0 < ds.length) (hh : ds.getD 0 0 ≠ 0) (hs : Small (Nd ds)) : ds.length ≤ 20000 := by
  have h1 := Nd_ge h0 hh
  unfold Small at hs
  obtain ⟨T, hT⟩ : ∃ T : Nat, T = 1000 := ⟨_, rfl⟩
  rw [← hT] at hs
  have h2 : WB ^ T ≤ (10 ^ 20) ^ T := Nat.pow_le_pow_left (by decide) T
  rw [← Nat.pow_mul] at h2
  have h3 : 10 ^ (ds.length - 1) < 10 ^ (20 * T) := by omega
  have := (Nat.pow_lt_pow_iff_right (a := 10) (by decide)).1 h3
  omega
theorem TxM.chg {S : Nat → Nat → Prop} {w w' : World} {sb so sc : Nat} {ds : List Nat} (h : TxM w sb so sc ds) (hc : Chg S w w') (hS : ∀ o, ¬ S sb o) : TxM w' sb so sc ds :=
  ⟨h.nb.chg km8 hc, fun j hj => (wd_congr (hc.cell _ _ h.nb.lt (hS _))).trans (h.dig j hj), h.d10⟩
theorem TxM.cell {w : World} {sb so sc : Nat} {ds : List Nat} (h : TxM w sb so sc ds) {j : Nat} (hj : j < ds.length) : w.cell? ⟨sb, so + j, none⟩ = some (.int .u8 (48 + ds.getD j 0 : Nat)) := by
  rw [← h.dig j hj]; exact (h.nb.isI j (by have := h.nb.le; omega)).cell
theorem app_nil {w w3 : World} {m : Nat} {r : Value} {l : List Nat} (ha : App .u8 256 (w.drewN m) w3 (.slice none 0 0) r (([] : List Nat) ++ asc l)) (hl : 0 < l.length) (hd : ∀ d ∈ l, d < 10) :
    ∃ xb xo xc, r = .slice (some ⟨xb, xo, none⟩) l.length xc ∧ TxM w3 xb xo xc l ∧ w.heap.size ≤ xb ∧ Chg No w w3 := by
  rw [List.nil_append] at ha
  rcases ha.ls with ⟨_, h2⟩ | ⟨xb, xo, xc, rfl, hn, hv⟩
  · have := asc_length l
    rw [h2] at this; simp at this; omega
  · have hlen := asc_length l
    have hn' : NK .u8 256 w3 xb xo l.length xc := by rw [← hlen]; exact hn
    refine ⟨xb, xo, xc, by rw [hlen], ⟨hn', fun j hj => ?_, hd⟩, ?_, ((Chg.refl No w).drewN m).then ha.chg (fun _ _ _ f => f.elim)⟩
    · rw [hv j (by rw [hlen]; exact hj), asc_get]
    · rcases ha.fp xb xo ⟨rfl, Nat.le_refl _, by have := hn'.le; simp; omega⟩ with f | f
      · exact f.elim
      · exact f
/-- A by 2 to p is Y times 2 to sh. -/
def ShR (Y : Nat) (sh : Int) (A : Nat) (z : Int) : Prop := A * 2 ^ z.toNat * 2 ^ (-sh).toNat = Y * 2 ^ sh.toNat * 2 ^ (-z).toNat
theorem ShR.refl (Y : Nat) (sh : Int) : ShR Y sh Y sh := by unfold ShR; exact rfl
theorem small_le {X Y : Nat} (h : Small Y) (hle : X ≤ Y) : Small X := Nat.lt_of_le_of_lt hle h
theorem ab_nil (x : Value) : Ab (.slice none 0 0) x := fun _ _ _ _ f => f.elim
/-- A decimal that is in order and stands for Y times 2 to sh. -/
def DecIs (w : World) (b : Nat) (Y : Nat) (sh : Int) (xb xo xc : Nat) (ds : List Nat) (x : Int) : Prop :=
  DeX w b xb xo xc ds x ∧ (∃ A p, VEq A p ds x ∧ A * 2 ^ (-sh).toNat = Y * 2 ^ sh.toNat * 2 ^ p) ∧ 0 < ds.length ∧ ds.getD 0 0 ≠ 0 ∧ ds.getD (ds.length - 1) 0 ≠ 0 ∧ ds.length ≤ 100000 ∧ -100000000 ≤ x ∧ x ≤ 20000
/-- The same in the midst: of p bits p' are still to be shifted out. -/
def DecMid (w w' : World) (b : Nat) (A p p' : Nat) (xb xo xc : Nat) (ds : List Nat) (x : Int) : Prop :=
  DeX w' b xb xo xc ds x ∧ VEq A (p - p') ds x ∧ 0 < ds.length ∧ ds.getD 0 0 ≠ 0 ∧ ds.getD (ds.length - 1) 0 ≠ 0 ∧ ds.length ≤ 20000 + 2 * (p - p') ∧ -(1100 * ((p - p' : Nat) : Int)) ≤ x ∧ x ≤ 20000 ∧ w.heap.size ≤ xb ∧ Chg (Blk b) w w' ∧ p' ≤ p
theorem Nd_pos {ds : List Nat} (h0 : 0 < ds.length) (hh : ds.getD 0 0 ≠ 0) : Nd ds ≠ 0 := by
  have := Nd_ge h0 hh
  have := Nat.pow_pos (n := ds.length - 1) (show 0 < 10 by decide)
  omega
theorem DecMid.step {w w1 w2 : World} {b A p p' s xb xo xc xb' xo' xc' : Nat} {ds ds' : List Nat} {x x' : Int} (h : DecMid w w1 b A p p' xb xo xc ds x) (hs : s ≤ p') (hs2 : s ≤ 60) (hs60 : s = 60 ∨ s = p') (hp : p ≤ 20000)
    (h1 : DeX w2 b xb' xo' xc' ds' x') (h2 : ∀ A p, VEq A p ds x → VEq A (p + s) ds' x') (h3 : 0 < ds'.length) (h4 : ds'.getD 0 0 ≠ 0) (h5 : ds'.getD (ds'.length - 1) 0 ≠ 0) (h6 : ds'.length ≤ ds.length + s + 1) (h7 : x - ds.length - 64 ≤ x') (h8 : x' ≤ x) (h9 : Chg (DS b xb) w1 w2) (h10 : xb' = xb ∨ w1.heap.size ≤ xb') (hs0 : 0 < s) (hb : b < w.heap.size) :
    DeX w2 b xb' xo' xc' ds' x' ∧ VEq A (p - (p' - s)) ds' x' ∧ 0 < ds'.length ∧ ds'.getD 0 0 ≠ 0 ∧ ds'.getD (ds'.length - 1) 0 ≠ 0 ∧ ds'.length ≤ 20000 + 2 * (p - (p' - s)) ∧ x - 60064 ≤ x' ∧ x' ≤ 20000 ∧ w.heap.size ≤ xb' ∧ Chg (Blk b) w w2 ∧ p' - s ≤ p := by
  obtain ⟨g1, g2, g3, g4, g5, g6, g7, g8, g9, g10, g11⟩ := h
  have hsz := g10.size
  refine ⟨h1, ?_, h3, h4, h5, by omega, by omega, by omega, ?_, g10.then h9 (fun y o hy f => ?_), by omega⟩
  · have := h2 A (p - p') g2
    rwa [show p - p' + s = p - (p' - s) by omega] at this
  · rcases h10 with e | e <;> omega
  · rcases f with f | f
    · exact f
    · omega
set_option maxRecDepth 100000 in
set_option maxHeartbeats 4000000 in
theorem dec_init (b mb mo mn mc Y : Nat) (sh : Int) (w : World) (hm : NtAt w mb mo mn mc Y) (hmn : 0 < mn) (hmn2 : mn ≤ 1000) (hY0 : Y ≠ 0)
    (hc0 : w.cell? ⟨b, 0, none⟩ = some (.slice none 0 0)) (hc1 : w.cell? ⟨b, 1, none⟩ = some (.int .i64 0)) (hp : Plain w b) (hb : 17 ≤ b) (hg : Glob w)
    (hS1 : -20000 ≤ sh) (hS2 : sh ≤ 100000) (hSm : Small (Y * 2 ^ sh.toNat)) (hI : ∀ A, A ≠ 0 → A ≤ Y * 2 ^ sh.toNat → ItoaOk A) :
    Calls Tryz.prog 193 #[.pointer (some ⟨b, 0, none⟩), .slice (some ⟨mb, mo, none⟩) mn mc, .int .i64 sh] w fun e w' => e = .returned (.tuple #[]) ∧ ∃ xb xo xc ds x, DecIs w' b Y sh xb xo xc ds x ∧ w.heap.size ≤ xb ∧ Chg (Blk b) w w' := by
  have t0 : ((mn : Int) == 0) = false := beq_eq_false_iff_ne.2 (by omega)
  have hbw := hp.lt
  have HM := Lib.hid hm
  have HY := Lib.hid hY0
  have HSm := Lib.hid hSm
  have HI := Lib.hid hI
  clear hY0 hSm hI
  go_enter Tryz.func193, Tryz.ntmps193
  go_upto_if 25 with fail
  go_cut [1, 2] (fun mv sv wx => ∃ (A : Nat) (z : Int), sv = .int .i64 z ∧ Hid (Nt wx mv A) ∧ Hid (A ≠ 0) ∧ Hid (ShR Y sh A z) ∧ Hid (Chg No w wx) ∧ Hid (A ≤ Y) ∧ -20000 ≤ z ∧ z ≤ 100000 ∧ Hid (0 < z → z = sh ∧ A = Y))
  case first =>
    by_cases hneg : sh < 0
    · obtain ⟨S, hS⟩ : ∃ S : Nat, sh = -(S : Int) := ⟨(-sh).toNat, by omega⟩
      subst hS
      have i1 : (0 : Int) < S := by omega
      have i2 : (S : Int) ≤ 20000 := by omega
      have HT := Lib.hid (nat_tz_pos mb mo mn mc Y w hm hmn hmn2 hg)
      have hS0 : 0 < S := by omega
      clear hm
      go_wp2_with fail
      refine HT.out.mono ?_
      rintro e w1 ⟨k, j, rfl, hkj, hk, hd⟩
      obtain ⟨kd, rfl⟩ := hd
      have HKJ := Lib.hid hkj
      clear hkj
      by_cases hle : k ≤ S
      · have t1 : decide ((k : Int) ≤ (S : Int)) = true := decide_eq_true (by omega)
        have HR := Lib.hid (nat_rsh (.slice none 0 0) (.slice (some ⟨mb, mo, none⟩) mn mc) Y k (w.drewN kd) (.inl rfl) (HM.out.nt.drewN kd) (small_le HSm.out (Nat.le_mul_of_pos_right _ (Nat.two_pow_pos _))) (by omega) (fun _ => .inr (ab_nil _)) (.inr (ab_nil _)) (Nat.le_trans hg.size (Nat.le_refl _)))
        go_wp2_with fail
        refine HR.out.mono ?_
        rintro e w2 ⟨r, rfl, hr⟩
        have R := Lib.hid hr
        clear hr
        go_wp2_with fail
        go_meet
        have hA : Y / 2 ^ k = 2 * j + 1 := by rw [HKJ.out, Nat.mul_div_cancel_left _ (Nat.two_pow_pos _)]
        refine ⟨Y / 2 ^ k, -(S : Int) + k, rfl, Lib.hid R.out.nt, Lib.hid (by rw [hA]; omega), Lib.hid ?_, Lib.hid (((Chg.refl No w).drewN kd).then R.out.chg (fun _ _ _ f => f.elim)), Lib.hid (Nat.div_le_self _ _), by omega, by omega, Lib.hid (fun h => by omega)⟩
        unfold ShR
        rw [show (-(S : Int) + k).toNat = 0 by omega, show (-(-(S : Int))).toNat = S by omega, show (-(S : Int)).toNat = 0 by omega, show (-(-(S : Int) + k)).toNat = S - k by omega]
        rw [hA, HKJ.out]
        have : 2 ^ S = 2 ^ k * 2 ^ (S - k) := by rw [← Nat.pow_add, show k + (S - k) = S by omega]
        rw [this]; simp; grind
      · have t1 : decide ((k : Int) ≤ (S : Int)) = false := decide_eq_false (by omega)
        have HR := Lib.hid (nat_rsh (.slice none 0 0) (.slice (some ⟨mb, mo, none⟩) mn mc) Y S (w.drewN kd) (.inl rfl) (HM.out.nt.drewN kd) (small_le HSm.out (Nat.le_mul_of_pos_right _ (Nat.two_pow_pos _))) (by omega) (fun _ => .inr (ab_nil _)) (.inr (ab_nil _)) (Nat.le_trans hg.size (Nat.le_refl _)))
        go_wp2_with fail
        refine HR.out.mono ?_
        rintro e w2 ⟨r, rfl, hr⟩
        have R := Lib.hid hr
        clear hr
        go_wp2_with fail
        go_meet
        have hA : Y / 2 ^ S = 2 ^ (k - S) * (2 * j + 1) := by
          have : 2 ^ k = 2 ^ S * 2 ^ (k - S) := by rw [← Nat.pow_add, show S + (k - S) = k by omega]
          rw [HKJ.out, this, Nat.mul_assoc, Nat.mul_div_cancel_left _ (Nat.two_pow_pos _)]
        have hA2 : Y / 2 ^ S * 2 ^ S = Y := by
          rw [hA, Nat.mul_comm, ← Nat.mul_assoc, ← Nat.pow_add, show S + (k - S) = k by omega]; exact HKJ.out.symm
        refine ⟨Y / 2 ^ S, 0, by first | rfl | (congr 1; omega), Lib.hid R.out.nt, Lib.hid ?_, Lib.hid ?_, Lib.hid (((Chg.refl No w).drewN kd).then R.out.chg (fun _ _ _ f => f.elim)), Lib.hid (Nat.div_le_self _ _), by omega, by omega, Lib.hid (fun h => by omega)⟩
        · intro e; rw [e] at hA2; exact HY.out (by rw [← hA2]; simp)
        · unfold ShR
          rw [show (-(-(S : Int))).toNat = S by omega, show (-(S : Int)).toNat = 0 by omega]
          simp [hA2]
    · go_wp2_with fail
      go_meet
      exact ⟨Y, sh, rfl, Lib.hid HM.out.nt, HY, Lib.hid (ShR.refl _ _), Lib.hid (Chg.refl _ _), Lib.hid (Nat.le_refl _), hS1, hS2, Lib.hid (fun _ => ⟨rfl, rfl⟩)⟩
  case rest =>
    obtain ⟨A, z, rfl, q1, q2, q3, q4, q5, q6, q7, q8⟩ := hcut
    clear hm
    go_upto_if 43 with fail
    go_cut [1, 2] (fun mv sv wx => ∃ A p : Nat, sv = .int .i64 (-(p : Int)) ∧ Hid (Nt wx mv A) ∧ Hid (A ≠ 0) ∧ Hid (A * 2 ^ (-sh).toNat = Y * 2 ^ sh.toNat * 2 ^ p) ∧ Hid (Chg No w wx) ∧ Hid (A ≤ Y * 2 ^ sh.toNat) ∧ p ≤ 20000)
    case first =>
      by_cases hz : 0 < z
      · obtain ⟨rfl, rfl⟩ := q8.out hz
        obtain ⟨S, rfl⟩ : ∃ S : Nat, z = (S : Int) := ⟨z.toNat, by omega⟩
        have HR := Lib.hid (nat_lsh (.slice none 0 0) _ A S wc (.inl rfl) q1.out (small_le HSm.out (Nat.le_mul_of_pos_right _ (Nat.two_pow_pos _))) (by omega) (fun _ => .inr (ab_nil _)) (.inr (ab_nil _)) (Nat.le_trans hg.size q4.out.size))
        go_wp2_with fail
        refine HR.out.mono ?_
        rintro e w2 ⟨r, rfl, hr⟩
        have R := Lib.hid hr
        clear hr
        go_wp2_with fail
        go_meet
        refine ⟨A * 2 ^ S, 0, rfl, Lib.hid R.out.nt, Lib.hid ?_, Lib.hid ?_, Lib.hid (q4.out.then R.out.chg (fun _ _ _ f => f.elim)), Lib.hid ?_, by omega⟩
        · exact Nat.mul_ne_zero q2.out (by have := Nat.two_pow_pos S; omega)
        · rw [show (-(S : Int)).toNat = 0 by omega, show ((S : Int)).toNat = S by omega]
        · rw [show ((S : Int)).toNat = S by omega]; exact Nat.le_refl _
      · obtain ⟨p, rfl⟩ : ∃ p : Nat, z = -(p : Int) := ⟨(-z).toNat, by omega⟩
        go_wp2_with fail
        go_meet
        refine ⟨A, p, rfl, q1, q2, Lib.hid ?_, q4, Lib.hid (Nat.le_trans q5.out (Nat.le_mul_of_pos_right _ (Nat.two_pow_pos _))), by omega⟩
        have := q3.out
        unfold ShR at this
        rw [show (-(p : Int)).toNat = 0 by omega, show (-(-(p : Int))).toNat = p by omega] at this
        simpa using this
    case rest =>
      clear q1 q2 q3 q4 q5 q6 q7 q8
      obtain ⟨A, p, rfl, q1, q2, q3, q4, q5, q6⟩ := hcut
      have hU := utoa_ok _ A wc (HI.out A q2.out q5.out) q1.out (hg.no q4.out)
      have HU := Lib.hid hU
      have c0 := (q4.out.cell b 0 hp.lt (fun f => f)).trans hc0
      have c1 := (q4.out.cell b 1 hp.lt (fun f => f)).trans hc1
      have HP := Lib.hid (q4.out.plain _ hp)
      clear hU hc0 hc1 hp
      go_wp2_with fail
      refine HU.out.mono ?_
      rintro e w1 ⟨sb, so, sc, ds, rfl, h1, h2, h3, h4, h5, h6⟩
      have hl := len_small h3 h4 (by rw [h2]; exact small_le HSm.out q5.out)
      obtain ⟨L, hL⟩ : ∃ L, L = ds.length := ⟨_, rfl⟩
      rw [← hL] at hl h3 ⊢
      have b1 := (h6.cell b 1 HP.out.lt (fun f => f)).trans c1
      have b0 := (h6.cell b 0 HP.out.lt (fun f => f)).trans c0
      have hp1 := h6.plain _ HP.out
      have f1 := hp1.free 1
      have hsb : sb ≠ b := by have := HP.out.lt; omega
      have k2 := (Chg.refl (Blk b) w1).setO (.int .i64 L) b1 (by simp) (by simp) (fun _ => rfl)
      have b1' := World.cell?_setCell_same w1 ⟨b, 1, none⟩ (.int .i64 L) b1
      have TX := Lib.hid (h1.chg k2 (fun o f => hsb f))
      have K2 := Lib.hid k2
      have K1 := Lib.hid (q4.out.then h6 (fun _ _ _ f => f))
      have P2 := Lib.hid (hp1.setCell ⟨b, 1, none⟩ (.int .i64 L))
      have B0 := Lib.hid ((cell_setCell_ne w1 b 1 b 0 (.int .i64 L) (.inr (by omega))).trans b0)
      have B1 := Lib.hid b1'
      have HND := Lib.hid h2
      have HH := Lib.hid h4
      have HSB := Lib.hid h5
      have HL := Lib.hid hL
      clear h1 h2 h4 h5 h6 hL k2 b0 hp1 b1' c0 c1
      go_upto_block 0 with fail
      generalize w1.setCell ⟨b, 1, none⟩ (.int .i64 L) = w2 at TX K2 P2 B0 B1 ⊢
      go_cut [9] (fun v wx => ∃ k : Nat, v = .int .i64 k ∧ w2 = wx ∧ Hid (TrimAt ds k) ∧ k ≤ L)
      case first =>
        go_wp2_with fail
        go_loop [9] (fun v => ∃ k : Nat, k ≤ L ∧ v = .int .i64 k ∧ Hid (∀ j, k ≤ j → ds.getD j 0 = 0)) (fun v => (intOf v).toNat)
        case atStart => exact ⟨L, by omega, rfl, Lib.hid (fun j hj => gd_ge (by rw [← HL.out]; exact hj))⟩
        case round =>
          obtain ⟨k, hk, rfl, hZ⟩ := hrel
          by_cases hk0 : k = 0
          · subst hk0
            go_wp2_with fail
            go_meet
            exact ⟨0, rfl, rfl, Lib.hid ⟨by omega, hZ.out, .inl rfl⟩, by omega⟩
          · have i1 : 0 < (k : Int) := by omega
            have i2 : (k : Int) - 1 < L := by omega
            have i3 : 0 ≤ (k : Int) - 1 := by omega
            have i4 : ((k : Int) - 1).toNat = k - 1 := by omega
            have hc := TX.out.cell (j := k - 1) (by rw [← HL.out]; omega)
            obtain ⟨y, hy⟩ : ∃ y, y = 48 + ds.getD (k - 1) 0 := ⟨_, rfl⟩
            rw [← hy] at hc
            by_cases hd : ds.getD (k - 1) 0 = 0
            · have t1 : ((y : Int) == 48) = true := by rw [hy, hd]; rfl
              have HD := Lib.hid hd
              clear hd hy
              go_wp2_with fail
              go_round
              case rel =>
                refine ⟨k - 1, by omega, by go_num, Lib.hid (fun j h1 => ?_)⟩
                by_cases e : j = k - 1
                · rw [e]; exact HD.out
                · exact hZ.out j (by omega)
              case measure => simp [intOf]; omega
            · have t1 : ((y : Int) == 48) = false := beq_eq_false_iff_ne.2 (by omega)
              have HD := Lib.hid hd
              clear hd hy
              go_wp2_with fail
              go_meet
              exact ⟨k, rfl, rfl, Lib.hid ⟨by rw [← HL.out]; exact hk, hZ.out, .inr HD.out⟩, hk⟩
      case rest =>
        obtain ⟨k, rfl, rfl, hT, hk⟩ := hcut
        have hk0 : 0 < k := by
          rcases Nat.eq_zero_or_pos k with e | e
          · subst e; exact absurd (hT.out.2.1 0 (by omega)) HH.out
          · exact e
        obtain ⟨ci, hi1, hi2, hi3, hi4⟩ := info_of info5
        have htl : (ds.take k).length = k := by rw [List.length_take]; have := HL.out; omega
        have HSrc : Hid (∀ m, Src Tryz.prog 1 56 (.slice (some ⟨sb, so, none⟩) k sc) (asc (ds.take k)).length ((asc (ds.take k)).map fun v : Nat => Value.int .u8 v) (w2.drewN m)) := Lib.hid (fun m => by
          rw [asc_length, htl]
          refine Src.ofSlice _ Tryz.underlying56 _ k sc _ (by rw [List.length_map, asc_length, htl, Nat.mul_one]) (fun j u hj => ?_) (fun u hu => by
            obtain ⟨v, _, rfl⟩ := List.mem_map.1 hu; rfl)
          have hjk : j < k := by
            rcases Nat.lt_or_ge j k with h | h
            · exact h
            · rw [List.getElem?_eq_none (by rw [List.length_map, asc_length, htl]; exact h)] at hj; cases hj
          have e1 : (⟨sb, so, none⟩ : Addr).add j = ⟨sb, so + j, none⟩ := by unfold Addr.add; split <;> simp_all
          rw [e1]
          have hc := TX.out.cell (j := j) (by have := HL.out; omega)
          have hg2 : (asc (ds.take k))[j]'(by rw [asc_length, htl]; exact hjk) = 48 + ds.getD j 0 := by
            rw [asc_get, gd_lt (by omega), List.getElem_take, ← gd_lt (by have := HL.out; omega)]
          rw [List.getElem?_map, List.getElem?_eq_getElem (by rw [asc_length, htl]; exact hjk), hg2] at hj
          cases hj
          exact hc)
        have b0 := B0.out
        have i1 : (k : Int) ≤ sc := by have := TX.out.nb.le; have := HL.out; omega
        have i2 : (k : Int) ≤ L := by omega
        have h17 : 17 ≤ w2.heap.size := by have := K1.out.size; have := K2.out.size; have := hg.size; omega
        have hmem : ∀ v ∈ asc (ds.take k), v < 256 := asc_lt (fun d hd => TX.out.d10 d (List.mem_of_mem_take hd))
        have Hmem := Lib.hid hmem
        have htlp : 0 < (ds.take k).length := by omega
        have hd10t : ∀ d ∈ ds.take k, d < 10 := fun d hd => TX.out.d10 d (List.mem_of_mem_take hd)
        have hb2 := P2.out.lt
        clear hmem
        go_wp2_with fail
        go_region_law (refine step_append_num rfl km8 (.tmp 73) (.tmp 76) 56 56 5 rfl ci Tryz.underlying56 hi1 hi2 hi3 (by rw [hi4]; omega) (.slice none 0 0) [] ?_ (.inl ⟨rfl, rfl⟩) (.slice (some ⟨sb, so, none⟩) k sc) ?_ (asc (ds.take k)) ?_ Hmem.out (by rw [asc_length, htl]; exact hk0) (by rw [asc_length, htl]; simp; omega) ?_ ?_; (simp [Act.eval, Act.put]); (simp [Act.eval, Act.put]); (exact HSrc.out _); (exact h17); (intro r w3 happ); (obtain ⟨xb, xo, xc, rfl, tx, hxb, hc3⟩ := app_nil happ htlp hd10t); (have c0' := (hc3.cell b 0 hb2 (fun f => f)).trans b0); (have f0' := (hc3.plain _ P2.out).free 0); (have T3 := Lib.hid tx); (have X3 := Lib.hid hxb); (have K3 := Lib.hid hc3); (clear tx hxb hc3 happ); (rw [htl]))
        have hp3 := K3.out.plain _ P2.out
        have hxb : xb ≠ b := by have := X3.out; omega
        have k4 := (Chg.refl (Blk b) w3).setO (.slice (some ⟨xb, xo, none⟩) k xc) c0' (by simp) (by simp) (fun _ => rfl)
        have hD : DeX (w3.setCell ⟨b, 0, none⟩ (.slice (some ⟨xb, xo, none⟩) k xc)) b xb xo xc (ds.take k) L := by
          refine ⟨by rw [htl]; exact World.cell?_setCell_same _ _ _ c0', (cell_setCell_ne _ _ _ _ _ _ (.inr (by omega))).trans ((K3.out.cell b 1 hb2 (fun f => f)).trans B1.out), hp3.setCell _ _, hb, T3.out.nb.chg km8 k4, fun j hj => (wd_setCell_ne (.inl hxb)).trans (T3.out.dig j hj), T3.out.d10, hxb⟩
        have hV0 : VEq A 0 ds L := by
          unfold VEq
          rw [← HL.out, show ((L : Int) - L).toNat = 0 by omega, HND.out]; simp
        have hM : DecMid w (w3.setCell ⟨b, 0, none⟩ (.slice (some ⟨xb, xo, none⟩) k xc)) b A p p xb xo xc (ds.take k) L := by
          refine ⟨hD, ?_, by omega, ?_, ?_, by rw [htl]; omega, by simp, by omega, ?_, ?_, Nat.le_refl _⟩
          · rw [Nat.sub_self]; exact hV0.trim hT.out
          · rw [gd_lt (by omega), List.getElem_take, ← gd_lt (by have := HL.out; omega)]; exact HH.out
          · rw [htl, gd_lt (by omega), List.getElem_take, ← gd_lt (by have := HL.out; omega)]; exact hT.out.2.2.resolve_left (by omega)
          · have := X3.out; have := K2.out.size; have := K1.out.size; omega
          · exact ((((K1.out.no (S := Blk b)).then K2.out (fun _ _ _ f => f)).then K3.out.no (fun _ _ _ f => f)).then k4 (fun _ _ _ f => f))
        have HMid := Lib.hid hM
        clear hM hD hV0 k4 hp3 c0' f0' b0 TX T3
        generalize w3.setCell ⟨b, 0, none⟩ (.slice (some ⟨xb, xo, none⟩) k xc) = w4 at HMid ⊢
        by_cases hp0 : p = 0
        · subst hp0
          go_wp2_with fail
          go_end0
          obtain ⟨g1, g2, g3, g4, g5, g6, g7, g8, g9, g10, g11⟩ := HMid.out
          exact ⟨rfl, xb, xo, xc, _, _, ⟨g1, ⟨A, 0, g2, q3.out⟩, g3, g4, g5, by omega, by simp at g7; omega, g8⟩, g9, g10⟩
        · have i3 : (0 : Int) < p := by omega
          have tb : decide (0 < p) = true := decide_eq_true (by omega)
          go_wp2_with fail
          go_loopg [2] p (fun gk sv wr => ∃ (p' xb xo xc : Nat) (ds : List Nat) (x : Int), sv = .int .i64 (-(p' : Int)) ∧ Hid (DecMid w wr b A p p' xb xo xc ds x) ∧ 0 < p' ∧ p' ≤ p ∧ Hid (p' ≤ gk))
          case atStart => exact ⟨p, xb, xo, xc, _, _, rfl, HMid, by omega, Nat.le_refl _, Lib.hid (Nat.le_refl _)⟩
          case round =>
            clear HMid
            obtain ⟨p', xb, xo, xc, ds, x, rfl, q, r1, r2, r3⟩ := hrel
            obtain ⟨g1, g2, g3, g4, g5, g6, g7, g8, g9, g10, g11⟩ := q.out
            have hwr17 : 17 ≤ wr.heap.size := by have := g10.size; have := hg.size; omega
            by_cases h60 : 60 < p'
            · have i1 : -(p' : Int) < -60 := by omega
              have HR := Lib.hid (dec_rsh b xb xo xc ds x 60 wr g1 (by omega) (Nd_pos g3 g4) (by omega) (by omega) (by omega) hwr17)
              clear g1 g2 g3 g4 g5 g6 g7 g8 g9 g10 g11
              go_wp2_with fail
              refine HR.out.mono ?_
              rintro e w5 ⟨rfl, xb', xo', xc', ds', x', a1, a2, a3, a4, a5, a6, a7, a8, a9, a10⟩
              have st := q.out.step (s := 60) (by omega) (by omega) (.inl rfl) q6 a1 a2 a3 a4 a5 a6 a7 a8 a9 a10 (by omega) hbw
              have hx' : -(1100 * ((p - (p' - 60) : Nat) : Int)) ≤ x' := by
                have := st.2.2.2.2.2.2.1
                have := q.out.2.2.2.2.2.2.1
                omega
              have ST := Lib.hid (show DecMid w w5 b A p (p' - 60) xb' xo' xc' ds' x' from ⟨st.1, st.2.1, st.2.2.1, st.2.2.2.1, st.2.2.2.2.1, st.2.2.2.2.2.1, hx', st.2.2.2.2.2.2.2.1, st.2.2.2.2.2.2.2.2.1, st.2.2.2.2.2.2.2.2.2.1, st.2.2.2.2.2.2.2.2.2.2⟩)
              obtain ⟨g1, hg1⟩ : ∃ g1, gk = g1 + 1 := ⟨gk - 1, by have := r3.out; omega⟩
              have HG := Lib.hid (show p' - 60 ≤ g1 by have := r3.out; omega)
              subst hg1
              clear a1 a2 a3 a4 a5 a6 a7 a8 a9 a10 st hx'
              go_wp2_with fail
              go_roundg g1
              case measure => omega
              case rel => exact ⟨p' - 60, xb', xo', xc', ds', x', by first | go_num | (congr 1; omega), ST, by omega, by omega, HG⟩
            · have i1 : ¬ -(p' : Int) < -60 := by omega
              have HR := Lib.hid (dec_rsh b xb xo xc ds x p' wr g1 (by omega) (Nd_pos g3 g4) (by omega) (by omega) (by omega) hwr17)
              clear g1 g2 g3 g4 g5 g6 g7 g8 g9 g10 g11
              go_wp2_with fail
              refine HR.out.mono ?_
              rintro e w5 ⟨rfl, xb', xo', xc', ds', x', a1, a2, a3, a4, a5, a6, a7, a8, a9, a10⟩
              have st := q.out.step (s := p') (Nat.le_refl _) (by omega) (.inr rfl) q6 a1 a2 a3 a4 a5 a6 a7 a8 a9 a10 r1 hbw
              have ST := Lib.hid st
              have HX := Lib.hid (show -100000000 ≤ x' from by have := st.2.2.2.2.2.2.1; have := q.out.2.2.2.2.2.2.1; omega)
              clear a1 a2 a3 a4 a5 a6 a7 a8 a9 a10 st
              go_wp2_with fail
              go_end0
              obtain ⟨s1, s2, s3, s4, s5, s6, s7, s8, s9, s10, s11⟩ := ST.out
              rw [Nat.sub_self, Nat.sub_zero] at s2
              exact ⟨rfl, xb', xo', xc', ds', x', ⟨s1, ⟨A, p, s2, q3.out⟩, s3, s4, s5, by omega, HX.out, s8⟩, s9, s10⟩
/-- The byte that stands at a place of the figures: a zero outside. -/
def atD (ds : List Nat) (i : Int) : Nat := 48 + if i < 0 then 0 else ds.getD i.toNat 0
set_option maxRecDepth 100000 in
set_option maxHeartbeats 1000000 in
theorem dec_at (b mb mo mc : Nat) (ds : List Nat) (x i : Int) (w : World) (h : DeX w b mb mo mc ds x) (hl : ds.length ≤ 200000) (hi1 : -1000000000 ≤ i) (hi2 : i ≤ 1000000000) :
    Calls Tryz.prog 250 #[.pointer (some ⟨b, 0, none⟩), .int .i64 i] w fun e w' => e = .returned (.int .u8 (atD ds i : Nat)) ∧ w = w' := by
  have c0 := h.c0
  have hle := h.nb.le
  by_cases h0 : i < 0
  · have hA : atD ds i = 48 := by unfold atD; rw [if_pos h0]
    rw [hA]
    have t1 : decide (0 ≤ i) = false := decide_eq_false (by omega)
    clear h
    go_enter Tryz.func250, Tryz.ntmps250
    go_wp2_with fail
    go_ret
    exact ⟨rfl, rfl⟩
  · obtain ⟨k, rfl⟩ : ∃ k : Nat, i = (k : Int) := ⟨i.toNat, by omega⟩
    by_cases hk : k < ds.length
    · have hc := h.cell hk
      obtain ⟨y, hy⟩ : ∃ y, y = 48 + ds.getD k 0 := ⟨_, rfl⟩
      have hA : atD ds (k : Int) = y := by unfold atD; rw [if_neg h0, hy]; rfl
      rw [hA]
      rw [← hy] at hc
      have i1 : (k : Int) < ds.length := by omega
      clear h hy hA
      go_enter Tryz.func250, Tryz.ntmps250
      go_wp2_with fail
      go_ret
      exact ⟨rfl, rfl⟩
    · have hA : atD ds (k : Int) = 48 := by unfold atD; rw [if_neg h0, Int.toNat_natCast, gd_ge (by omega)]
      rw [hA]
      have i1 : ¬ (k : Int) < ds.length := by omega
      have t1 : decide (k < ds.length) = false := decide_eq_false (by omega)
      clear h
      go_enter Tryz.func250, Tryz.ntmps250
      go_wp2_with fail
      go_ret
      exact ⟨rfl, rfl⟩
/-- Whether to round up at n figures. -/
def upB (ds : List Nat) (n : Nat) : Bool := if ds.getD n 0 = 5 ∧ n + 1 = ds.length then decide (0 < n ∧ ds.getD (n - 1) 0 % 2 = 1) else decide (5 ≤ ds.getD n 0)
theorem odd_byte {d y : Nat} (hd : d < 10) (hy : y = 48 + d) : bits BinOp.and .u8 ((y : Int) - 48) 1 = ((d % 2 : Nat) : Int) := by
  subst hy
  rw [show ((48 + d : Nat) : Int) - 48 = (d : Int) by omega]
  have : ∀ e : Fin 10, bits BinOp.and .u8 ((e.val : Nat) : Int) 1 = ((e.val % 2 : Nat) : Int) := by decide +kernel
  exact this ⟨d, hd⟩
set_option maxRecDepth 100000 in
set_option maxHeartbeats 1000000 in
theorem dec_should (b mb mo mc : Nat) (ds : List Nat) (x : Int) (n : Nat) (w : World) (h : DeX w b mb mo mc ds x) (hl : ds.length ≤ 200000) (hn : n < ds.length) :
    Calls Tryz.prog 253 #[.pointer (some ⟨b, 0, none⟩), .int .i64 n] w fun e w' => e = .returned (.bool (upB ds n)) ∧ w = w' := by
  have c0 := h.c0
  have hle := h.nb.le
  have hc := h.cell hn
  obtain ⟨y, hy⟩ : ∃ y, y = 48 + ds.getD n 0 := ⟨_, rfl⟩
  rw [← hy] at hc
  have i1 : (n : Int) < ds.length := by omega
  have hyb : y < 256 := by have := getD_lt (j := n) h.d10; omega
  by_cases h5 : y = 53
  · subst h5
    by_cases he : n + 1 = ds.length
    · have t2 : (((n : Int) + 1) == (ds.length : Int)) = true := beq_iff_eq.2 (by omega)
      by_cases hn0 : n = 0
      · have hU : upB ds n = false := by unfold upB; rw [if_pos ⟨by omega, he⟩]; exact decide_eq_false (by omega)
        rw [hU]
        subst hn0
        have t3 : ((1 : Int) == (ds.length : Int)) = true := beq_iff_eq.2 (by omega)
        rw [Nat.add_zero] at hc
        clear h hy hU he
        go_enter Tryz.func253, Tryz.ntmps253
        go_wp2_with fail
        go_ret
        exact ⟨rfl, rfl⟩
      · have hc2 := h.cell (j := n - 1) (by omega)
        have hg := getD_lt (j := n - 1) h.d10
        obtain ⟨z, hz⟩ : ∃ z, z = 48 + ds.getD (n - 1) 0 := ⟨_, rfl⟩
        rw [← hz] at hc2
        have hzb : z ≤ 57 := by omega
        have hzb2 : 48 ≤ z := by omega
        have i2 : (0 : Int) < n := by omega
        have i3 : 0 ≤ (n : Int) - 1 := by omega
        have i4 : ((n : Int) - 1).toNat = n - 1 := by omega
        have i5 : (n : Int) - 1 < ds.length := by omega
        have eb := odd_byte hg hz
        obtain ⟨o, ho⟩ : ∃ o, o = ds.getD (n - 1) 0 % 2 := ⟨_, rfl⟩
        rw [← ho] at eb
        have hU : upB ds n = ((o : Int) != 0) := by
          unfold upB; rw [if_pos ⟨by omega, he⟩, ← ho]
          have : o < 2 := by omega
          rcases (show o = 0 ∨ o = 1 by omega) with e | e
          · rw [e]; exact decide_eq_false (by omega)
          · rw [e]; exact decide_eq_true (by omega)
        rw [hU]
        clear h hy hz hU hg ho
        go_enter Tryz.func253, Tryz.ntmps253
        go_wp2_with fail
        go_ret
        exact ⟨rfl, rfl⟩
    · have t2 : (((n : Int) + 1) == (ds.length : Int)) = false := beq_eq_false_iff_ne.2 (by omega)
      have hU : upB ds n = true := by unfold upB; rw [if_neg (fun e => he e.2)]; exact decide_eq_true (by omega)
      rw [hU]
      clear h hy hU
      go_enter Tryz.func253, Tryz.ntmps253
      go_wp2_with fail
      go_ret
      exact ⟨rfl, rfl⟩
  · have t1 : ((y : Int) == 53) = false := beq_eq_false_iff_ne.2 (by omega)
    have hU : upB ds n = decide (53 ≤ y) := by
      unfold upB; rw [if_neg (fun e => h5 (by omega))]
      by_cases e : 5 ≤ ds.getD n 0
      · rw [decide_eq_true e, decide_eq_true (by omega)]
      · rw [decide_eq_false e, decide_eq_false (by omega)]
    rw [hU]
    have t2 : decide ((53 : Int) ≤ (y : Int)) = decide (53 ≤ y) := by
      by_cases e : 53 ≤ y
      · rw [decide_eq_true e, decide_eq_true (by omega)]
      · rw [decide_eq_false e, decide_eq_false (by omega)]
    have T2 := Lib.hid t2
    clear h hy hU t2
    go_enter Tryz.func253, Tryz.ntmps253
    go_wp2_with fail
    go_ret
    first | exact ⟨rfl, rfl⟩ | exact ⟨by rw [← T2.out]; rfl, rfl⟩
set_option maxRecDepth 100000 in
set_option maxHeartbeats 1000000 in
theorem dec_roundDown (b mb mo mc : Nat) (ds : List Nat) (x : Int) (n : Nat) (w : World) (h : DeX w b mb mo mc ds x) (hl : ds.length ≤ 200000) (hn : n < ds.length) :
    Calls Tryz.prog 251 #[.pointer (some ⟨b, 0, none⟩), .int .i64 n] w fun e w' => e = .returned (.tuple #[]) ∧ ∃ k, TrimAt (ds.take n) k ∧ DeX w' b mb mo mc ((ds.take n).take k) (if k = 0 then 0 else x) ∧ Chg (Blk b) w w' := by
  have c0 := h.c0
  have hle := h.nb.le
  have f0 := h.plain.free 0
  obtain ⟨q1, q2⟩ := h.cut n (by omega)
  have HT := Lib.hid (dec_trim b mb mo mc (ds.take n) x _ q1 (by rw [List.length_take]; omega))
  have Q2 := Lib.hid q2
  have i1 : ¬ (ds.length : Int) ≤ n := by omega
  have t1 : decide (ds.length ≤ n) = false := decide_eq_false (by omega)
  have i2 : (n : Int) ≤ mc := by omega
  clear h q1 q2
  go_enter Tryz.func251, Tryz.ntmps251
  go_wp2_with fail
  refine HT.out.mono ?_
  rintro e w1 ⟨rfl, k, h1, h2, h3⟩
  have R := Lib.hid (And.intro h1 (And.intro h2 (Q2.out.then h3 (fun _ _ _ f => f))))
  clear h1 h2 h3
  go_wp2_with fail
  go_end0
  exact ⟨rfl, k, R.out.1, R.out.2.1, R.out.2.2⟩
theorem nines {ds : List Nat} {m n : Nat} (hmn : m ≤ n) (hn : n ≤ ds.length) (h : ∀ j, m ≤ j → j < n → ds.getD j 0 = 9) : Nd (ds.take n) + 1 = (Nd (ds.take m) + 1) * 10 ^ (n - m) := by
  have key : ∀ j, m + j ≤ n → Dp ds (m + j) + 1 = (Dp ds m + 1) * 10 ^ j := by
    intro j
    induction j with
    | zero => intro _; simp
    | succ j ih =>
      intro hj
      have := ih (by omega)
      rw [← Nat.add_assoc, Dp_succ, h _ (by omega) (by omega), Nat.pow_succ]
      grind
  have h1 := key (n - m) (by omega)
  rw [show m + (n - m) = n by omega] at h1
  unfold Dp at h1
  rw [show n - ds.length = 0 by omega, show m - ds.length = 0 by omega] at h1
  simpa using h1
/-- What rounding up at n figures gives. -/
def UpTo (ds : List Nat) (x : Int) (n : Nat) (ds' : List Nat) (x' : Int) : Prop :=
  (∃ e : Nat, Nd (ds.take n) + 1 = Nd ds' * 10 ^ e ∧ (e : Int) = n + (x' - x) - ds'.length) ∧ 0 < ds'.length ∧ ds'.length ≤ ds.length ∧ ds'.getD 0 0 ≠ 0 ∧ ds'.getD (ds'.length - 1) 0 ≠ 0 ∧ x ≤ x' ∧ x' ≤ x + 1 ∧ ds'.length ≤ max n 1
theorem upTo_one {ds : List Nat} {x : Int} {n : Nat} (hn : n < ds.length) (h : ∀ j, 0 ≤ j → j < n → ds.getD j 0 = 9) : UpTo ds x n [1] (x + 1) := by
  refine ⟨⟨n, ?_, by simp; omega⟩, by simp, by simp; omega, by simp, by simp, by omega, by omega, by simp; omega⟩
  rw [nines (Nat.zero_le n) (by omega) h]
  simp [Nd]
theorem upTo_inc {ds : List Nat} {x : Int} {n m : Nat} (hm : 0 < m) (hmn : m ≤ n) (hn : n < ds.length) (h : ∀ j, m ≤ j → j < n → ds.getD j 0 = 9) (hh : ds.getD 0 0 ≠ 0) : UpTo ds x n (ds.take (m - 1) ++ [ds.getD (m - 1) 0 + 1]) x := by
  have hl : (ds.take (m - 1) ++ [ds.getD (m - 1) 0 + 1]).length = m := by simp; omega
  have htl : (ds.take (m - 1)).length = m - 1 := by rw [List.length_take]; omega
  refine ⟨⟨n - m, ?_, by rw [hl]; omega⟩, by omega, by omega, ?_, ?_, by omega, by omega, by omega⟩
  · rw [nines hmn (by omega) h, Nd_snoc]
    congr 1
    obtain ⟨k, rfl⟩ : ∃ k, m = k + 1 := ⟨m - 1, by omega⟩
    rw [List.take_succ_eq_append_getElem (by omega), Nd_snoc, Nat.add_sub_cancel, gd_lt (by omega)]
    omega
  · by_cases e : m = 1
    · subst e; simp
    · rw [gd_snoc_lt (by omega), gd_lt (by omega), List.getElem_take, ← gd_lt (by omega)]; exact hh
  · rw [hl]
    have := gd_snoc_eq (ds.take (m - 1)) (ds.getD (m - 1) 0 + 1)
    rw [htl] at this
    rw [this]; omega
/-- A figure stored, the mantissa cut behind it. -/
theorem DeX.setCut {w : World} {b mb mo mc : Nat} {ds : List Nat} {x : Int} (h : DeX w b mb mo mc ds x) {k d : Nat} (hk : k < ds.length) (hd : d < 10) :
    DeX ((w.setCell ⟨mb, mo + k, none⟩ (.int .u8 (48 + d : Nat))).setCell ⟨b, 0, none⟩ (.slice (some ⟨mb, mo, none⟩) (k + 1) mc)) b mb mo mc (ds.take k ++ [d]) x ∧
      Chg (DS b mb) w ((w.setCell ⟨mb, mo + k, none⟩ (.int .u8 (48 + d : Nat))).setCell ⟨b, 0, none⟩ (.slice (some ⟨mb, mo, none⟩) (k + 1) mc)) := by
  have hi := h.nb.isI k (by have := h.nb.le; omega)
  have k1 := Chg.setB (S := DS b mb) (Chg.refl _ w) hi (n := 48 + d) (by omega) (fun _ => .inr rfl)
  have hne := h.ne
  have b0 := (cell_setCell_ne w mb (mo + k) b 0 (.int .u8 (48 + d : Nat)) (.inl (fun e => hne e.symm))).trans h.c0
  have k2 := (Chg.refl (Blk b) (w.setCell ⟨mb, mo + k, none⟩ (.int .u8 (48 + d : Nat)))).setO (.slice (some ⟨mb, mo, none⟩) (k + 1) mc) b0 (by simp) (by simp) (fun _ => rfl)
  have hlen : (ds.take k ++ [d]).length = k + 1 := by simp; omega
  have htl : (ds.take k).length = k := by rw [List.length_take]; omega
  refine ⟨⟨by rw [hlen]; exact World.cell?_setCell_same _ _ _ b0, ?_, (h.plain.setCell _ _).setCell _ _, h.own, ?_, fun j hj => ?_, fun e he => ?_, hne⟩, k1.then k2 (fun y o _ f => .inl f)⟩
  · rw [cell_setCell_ne _ _ _ _ _ _ (.inr (by omega)), cell_setCell_ne _ _ _ _ _ _ (.inl (fun e => hne e.symm))]; exact h.c1
  · rw [hlen]; exact ((h.nb.chg km8 k1).chg km8 k2).len (by have := h.nb.le; omega)
  · rw [hlen] at hj
    rw [wd_setCell_ne (.inl hne)]
    by_cases e : j = k
    · subst e
      rw [wd_setCell_same hi.cell]
      have := gd_snoc_eq (ds.take j) d
      rw [htl] at this
      rw [this]
    · rw [wd_setCell_ne (.inr (by omega)), gd_snoc_lt (by omega), h.dig j (by omega), gd_lt (by omega), gd_lt (by omega), List.getElem_take]
  · rcases List.mem_append.1 he with h' | h'
    · exact h.d10 e (List.mem_of_mem_take h')
    · simp at h'; omega
set_option maxRecDepth 100000 in
set_option maxHeartbeats 2000000 in
theorem dec_roundUp (b mb mo mc : Nat) (ds : List Nat) (x : Int) (n : Nat) (w : World) (h : DeX w b mb mo mc ds x) (hl : ds.length ≤ 200000) (hn : n < ds.length) (hh : ds.getD 0 0 ≠ 0) (hx1 : -1000000000 ≤ x) (hx2 : x ≤ 1000000000) :
    Calls Tryz.prog 252 #[.pointer (some ⟨b, 0, none⟩), .int .i64 n] w fun e w' => e = .returned (.tuple #[]) ∧ ∃ ds' x', UpTo ds x n ds' x' ∧ DeX w' b mb mo mc ds' x' ∧ Chg (DS b mb) w w' := by
  have c0 := h.c0
  have c1 := h.c1
  have hle := h.nb.le
  have f0 := h.plain.free 0
  have f1 := h.plain.free 1
  have i1 : ¬ (ds.length : Int) ≤ n := by omega
  have t1 : decide (ds.length ≤ n) = false := decide_eq_false (by omega)
  have HH := Lib.hid hh
  clear hh
  go_enter Tryz.func252, Tryz.ntmps252
  go_upto_block 0 with fail
  go_cut [1] (fun v wx => ∃ m : Nat, v = .int .i64 m ∧ w = wx ∧ m ≤ n ∧ Hid (∀ j, m ≤ j → j < n → ds.getD j 0 = 9) ∧ Hid (m = 0 ∨ ds.getD (m - 1) 0 ≠ 9))
  case first =>
    go_wp2_with fail
    go_loop [1] (fun v => ∃ m : Nat, v = .int .i64 m ∧ m ≤ n ∧ Hid (∀ j, m ≤ j → j < n → ds.getD j 0 = 9)) (fun v => (intOf v).toNat)
    case atStart => exact ⟨n, rfl, Nat.le_refl _, Lib.hid (fun j h1 h2 => by omega)⟩
    case round =>
      obtain ⟨m, rfl, hm, hZ⟩ := hrel
      by_cases hm0 : m = 0
      · subst hm0
        go_wp2_with fail
        go_meet
        exact ⟨0, rfl, rfl, by omega, hZ, Lib.hid (.inl rfl)⟩
      · have j1 : (0 : Int) < m := by omega
        have j2 : (m : Int) - 1 < ds.length := by omega
        have j3 : 0 ≤ (m : Int) - 1 := by omega
        have j4 : ((m : Int) - 1).toNat = m - 1 := by omega
        have hc := h.cell (j := m - 1) (by omega)
        have hg := getD_lt (j := m - 1) h.d10
        obtain ⟨y, hy⟩ : ∃ y, y = 48 + ds.getD (m - 1) 0 := ⟨_, rfl⟩
        rw [← hy] at hc
        by_cases hd : ds.getD (m - 1) 0 = 9
        · have t2 : decide ((57 : Int) ≤ (y : Int)) = true := decide_eq_true (by omega)
          have HD := Lib.hid hd
          clear hd hy hg
          go_wp2_with fail
          go_round
          case rel =>
            refine ⟨m - 1, by go_num, by omega, Lib.hid (fun j h1 h2 => ?_)⟩
            by_cases e : j = m - 1
            · rw [e]; exact HD.out
            · exact hZ.out j (by omega) h2
          case measure => simp [intOf]; omega
        · have t2 : decide ((57 : Int) ≤ (y : Int)) = false := decide_eq_false (by omega)
          have HD := Lib.hid hd
          clear hd hy hg
          go_wp2_with fail
          go_meet
          exact ⟨m, rfl, rfl, hm, hZ, Lib.hid (.inr HD.out)⟩
  case rest =>
    obtain ⟨m, rfl, rfl, hm, hZ, hM⟩ := hcut
    by_cases hm0 : m = 0
    · subst hm0
      obtain ⟨z1, z2⟩ := h.setCut (k := 0) (d := 1) (by omega) (by omega)
      obtain ⟨z3, z4⟩ := z1.setExp (x + 1)
      rw [Nat.add_zero] at z2 z3 z4
      have cz := (h.nb.isI 0 (by omega)).cell
      rw [Nat.add_zero] at cz
      have fz := h.nb.plain.free mo
      have hne := h.ne
      have hmc : (1 : Int) ≤ mc := by omega
      have U := Lib.hid (upTo_one (x := x) hn (fun j _ h2 => hZ.out j (by omega) h2))
      have Z3 := Lib.hid z3
      have Z4 := Lib.hid (z2.then z4 (fun y o _ f => .inl f))
      have i2 : (0 : Int) < ds.length := by omega
      clear h z1 z2 z3 z4
      go_wp2_with fail
      refine bodyPost_ret (results_none rfl _ _ _) rfl ?_
      exact ⟨rfl, [1], x + 1, U.out, Z3.out, Z4.out⟩
    · have t2 : ((m : Int) == 0) = false := beq_eq_false_iff_ne.2 (by omega)
      have j1 : (m : Int) - 1 < ds.length := by omega
      have j3 : 0 ≤ (m : Int) - 1 := by omega
      have j4 : ((m : Int) - 1).toNat = m - 1 := by omega
      have j5 : (m : Int) ≤ mc := by omega
      have hg := getD_lt (j := m - 1) h.d10
      have h9 : ds.getD (m - 1) 0 ≠ 9 := hM.out.resolve_left hm0
      obtain ⟨z1, z2⟩ := h.setCut (k := m - 1) (d := ds.getD (m - 1) 0 + 1) (by omega) (by omega)
      rw [show m - 1 + 1 = m by omega] at z1 z2
      have hc := h.cell (j := m - 1) (by omega)
      obtain ⟨y, hy⟩ : ∃ y, y = 48 + ds.getD (m - 1) 0 := ⟨_, rfl⟩
      rw [show ((48 + (ds.getD (m - 1) 0 + 1) : Nat) : Int) = (y : Int) + 1 by omega] at z1 z2
      rw [← hy] at hc
      have hyb : y < 57 := by omega
      have fz := h.nb.plain.free (mo + (m - 1))
      have hne := h.ne
      have U := Lib.hid (upTo_inc (x := x) (by omega) hm hn hZ.out HH.out)
      have Z1 := Lib.hid z1
      have Z2 := Lib.hid z2
      clear h z1 z2 hy h9 hg hm0
      go_wp2_with fail
      go_end0
      exact ⟨rfl, _, x, U.out, Z1.out, Z2.out⟩
end Go.Proofs.YtacfhndledcmgaaGreatDoor
