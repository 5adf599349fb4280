/- Lemmas for the law FnBack: nat.expNN, nat.expWW, divisors. Conditions: those in each theorem; none besides. -/
import Derived.Test.YtacfhndledcmgaaGreatDoorJ2
import Derived.Deep.DeepCutAuto
import Derived.Test.YtacfhndledcmgaaGreatDoorJ5
import Derived.Test.YtacfhndledcmgaaGreatDoorJ14
import Derived.Test.YtacfhndledcmgaaGreatDoorJ11
set_option linter.unusedVariables false
set_option linter.unusedSimpArgs false
namespace Go.Proofs.YtacfhndledcmgaaGreatDoor
open Go.RowKit
theorem exp_start {n L : Nat} (h2 : 2 ≤ L) (h64 : L ≤ 64) : IntKind.u64.wrap ((n : Int) * 2 ^ (65 - L)) = ((n % 2 ^ (L - 1) * 2 ^ (65 - L) : Nat) : Int) := by
  have e1 : (n : Int) * 2 ^ (65 - L) = ((n * 2 ^ (65 - L) : Nat) : Int) := by push_cast; rfl
  have e2 : (18446744073709551616 : Nat) = 2 ^ (L - 1) * 2 ^ (65 - L) := by rw [← Nat.pow_add, show L - 1 + (65 - L) = 64 by omega]
  rw [e1, IntKind.wrap_u64, ← Nat.mul_mod_mul_right, ← e2]
  omega
theorem exp_bit {n k v : Nat} (hv : v = n % 2 ^ (k + 1) * 2 ^ (63 - k)) (hk : k ≤ 62) :
    ∃ b c v' : Nat, b < 2 ∧ n / 2 ^ k = 2 * (n / 2 ^ (k + 1)) + b ∧ bits BinOp.and .u64 (v : Int) 9223372036854775808 = (c : Int) ∧ (c = 0 ↔ b = 0) ∧ IntKind.u64.wrap ((v : Int) * 2) = (v' : Int) ∧ v' = n % 2 ^ k * 2 ^ (64 - k) ∧ v < WB := by
  have hM := Nat.two_pow_pos k
  have hS := Nat.two_pow_pos (63 - k)
  obtain ⟨M, hMe⟩ : ∃ M, M = 2 ^ k := ⟨_, rfl⟩
  obtain ⟨S, hSe⟩ : ∃ S, S = 2 ^ (63 - k) := ⟨_, rfl⟩
  have hMS : M * S = 9223372036854775808 := by rw [hMe, hSe, ← Nat.pow_add, show k + (63 - k) = 63 by omega]
  have h64 : 2 ^ (64 - k) = S * 2 := by rw [hSe, ← Nat.pow_succ, show (63 - k).succ = 64 - k by omega]
  rw [Nat.pow_succ] at hv ⊢
  rw [← hMe] at hM hv ⊢
  rw [← hSe] at hS hv
  rw [Nat.mod_mul] at hv
  obtain ⟨b, hb⟩ : ∃ b, b = n / M % 2 := ⟨_, rfl⟩
  rw [← hb] at hv
  have hb2 : b < 2 := by omega
  have hr : n % M * S < 9223372036854775808 := by rw [← hMS]; exact Nat.mul_lt_mul_of_pos_right (Nat.mod_lt _ hM) hS
  have hv2 : v = n % M * S + b * 9223372036854775808 := by rw [hv, Nat.add_mul, ← hMS]; grind
  have hvW : v < 18446744073709551616 := by omega
  refine ⟨b, v &&& 9223372036854775808, (n % M * S) * 2, hb2, ?_, ?_, ?_, ?_, ?_, hvW⟩
  · rw [← Nat.div_div_eq_div_mul]; omega
  · have h1 : (BitVec.ofInt 64 (v : Int)).toNat = v := by
      rw [BitVec.ofInt_natCast, BitVec.toNat_ofNat]; exact Nat.mod_eq_of_lt hvW
    have h2 : (BitVec.ofInt 64 (9223372036854775808 : Int)).toNat = 9223372036854775808 := by decide
    show IntKind.u64.wrap ((BitVec.ofInt 64 (v : Int) &&& BitVec.ofInt 64 (9223372036854775808 : Int)).toNat : Int) = _
    rw [BitVec.toNat_and, h1, h2, IntKind.wrap_u64]
    have : v &&& 9223372036854775808 ≤ v := Nat.and_le_left
    omega
  · have h4 : v / 2 ^ 63 = b := by
      rw [show (2 : Nat) ^ 63 = 9223372036854775808 by decide]; omega
    have h6 : v.testBit 63 = decide (b % 2 = 1) := by rw [Nat.testBit_eq_decide_div_mod_eq, h4]
    have h7 : (v &&& 9223372036854775808).testBit 63 = decide (b % 2 = 1) := by
      rw [Nat.testBit_and, h6, show (9223372036854775808 : Nat) = 2 ^ 63 by decide, Nat.testBit_two_pow_self, Bool.and_true]
    constructor
    · intro h
      rw [h, Nat.zero_testBit] at h7
      have := of_decide_eq_false h7.symm
      omega
    · intro h
      apply Nat.eq_of_testBit_eq
      intro i
      rw [Nat.zero_testBit, Nat.testBit_and, show (9223372036854775808 : Nat) = 2 ^ 63 by decide, Nat.testBit_two_pow]
      by_cases hi : 63 = i
      · subst hi
        rw [h6, h]; rfl
      · simp [hi]
  · rw [IntKind.wrap_u64]; omega
  · rw [h64, Nat.mul_assoc]
theorem ab_nil' (x : Value) : Ab (.slice none 0 0) x := fun _ _ _ _ f => f.elim
/-- The state of the power's loop: k figures of the exponent are still to come. -/
def ExI (n k v : Nat) : Prop := v = n % 2 ^ k * 2 ^ (64 - k)
set_option maxRecDepth 100000 in
set_option maxHeartbeats 8000000 in
theorem expNN_ok (s : Nat) (x y : Value) (X n : Nat) (w : World) (hx : Nt w x X) (hy : Nt w y n) (hX : 2 ≤ X) (hn : 2 ≤ n) (hnW : n < WB) (hp : X ^ n < WB ^ 39) (hh : X ^ (n / 2) < WB ^ 11) (hg : Glob w) :
    Calls Tryz.prog 96 #[.slice none 0 0, .pointer (some ⟨s, 0, none⟩), x, y, .slice none 0 0, .bool false] w fun e w' => ∃ r, e = .returned r ∧ Res w w' (.slice none 0 0) r (X ^ n) := by
  have h17 := hg.size
  have hXp : X < WB ^ 39 := Nat.lt_of_le_of_lt (by have := Nat.pow_le_pow_right (show 0 < X by omega) (show 1 ≤ n by omega); simpa using this) hp
  have hXS : Small X := small_of (by decide) hXp
  obtain ⟨xa, xn, xc, rfl, hxn, hx0, hxl, hxnn⟩ := hx.cases hXS
  have hnS : Small n := small_of (k := 1) (by decide) (by rw [Nat.pow_one]; exact hnW)
  obtain ⟨ya, yn, yc, rfl, hyn, hy0, hyl, hynn⟩ := hy.cases hnS
  have hyn1 : yn = 1 := by
    rcases Nat.lt_or_ge 1 yn with h | h
    · have h1 := (hynn (by omega)).1
      have : WB ^ 1 ≤ WB ^ (yn - 1) := Nat.pow_le_pow_right WB_pos (by omega)
      rw [Nat.pow_one] at this
      omega
    · rcases Nat.eq_zero_or_pos yn with e | e
      · have := hy0 e; omega
      · omega
  subst hyn1
  obtain ⟨-, yb, yo, rfl, hyN, hyV, -⟩ := hynn (by omega)
  have hyw : wd w yb yo = n := by rwa [Val_one] at hyV
  have cy := (hyN.isW 0 (by have := hyN.le; omega)).cell
  rw [Nat.add_zero, hyw] at cy
  have hxn0 : xn ≠ 0 := fun e => by have := hx0 e; omega
  obtain ⟨-, xb, xo, rfl, hxN, hxV, -⟩ := hxnn (by omega)
  obtain ⟨b1, b2, b3, b4⟩ := bitLen_spec (y := n) (by omega) hnW
  have HNl := nlz n hnW
  obtain ⟨L, hL⟩ : ∃ L, L = Lib.bitLen n := ⟨_, rfl⟩
  rw [← hL] at b1 b2 b3 b4 HNl
  have hL2 : 2 ≤ L := by
    rcases Nat.lt_or_ge L 2 with h | h
    · have : 2 ^ L ≤ 2 ^ 1 := Nat.pow_le_pow_right (by decide) (by omega)
      omega
    · exact h
  obtain ⟨sL, hsL⟩ : ∃ sL, sL = 64 - L := ⟨_, rfl⟩
  obtain ⟨s1, hs1⟩ : ∃ s1, s1 = 65 - L := ⟨_, rfl⟩
  obtain ⟨L1, hL1⟩ : ∃ L1, L1 = L - 1 := ⟨_, rfl⟩
  rw [← hsL] at HNl
  have e0 := exp_start (n := n) hL2 b1
  rw [← hs1, ← hL1] at e0
  obtain ⟨v0, hv0⟩ : ∃ v0, v0 = n % 2 ^ L1 * 2 ^ s1 := ⟨_, rfl⟩
  rw [← hv0] at e0
  have hI0 : ExI n L1 v0 := by unfold ExI; rw [hv0, hs1, hL1, show 64 - (L - 1) = 65 - L by omega]
  have es1 : (sL : Int) + 1 = (s1 : Int) := by omega
  have es2 : (64 : Int) - (s1 : Int) = (L1 : Int) := by omega
  have hL163 : 1 ≤ L1 ∧ L1 ≤ 63 := by omega
  have hLb : 2 ^ L1 ≤ n ∧ n / 2 ^ L1 = 1 := by
    have hb3 := b3
    have hb4 := b4
    rw [← hL1] at hb3
    rw [show L = L1 + 1 by omega, Nat.pow_succ] at hb4
    exact ⟨hb3, by rw [Nat.div_eq_iff (Nat.two_pow_pos _)]; omega⟩
  have HI0 := Lib.hid (And.intro hI0 hLb)
  have hs64 : s1 < 64 := by omega
  have hybl := hyN.lt
  have HSL := Lib.hid (And.intro hsL (And.intro hs1 hL1))
  have t1 : ((n : Int) == 1) = false := beq_eq_false_iff_ne.2 (by omega)
  have tx0 : ((xn : Int) == 0) = false := beq_eq_false_iff_ne.2 (by omega)
  have HX := Lib.hid (And.intro hx (And.intro hXS (And.intro hp hh)))
  have HY := Lib.hid hy
  have HG := Lib.hid hg
  have HA1 := Lib.hid (fun k => alias_abd (.slice none 0 0) (.slice (some ⟨xb, xo, none⟩) xn xc) w (.inl rfl) hx.ow (ab_nil' _) k)
  have HA2 := Lib.hid (fun k => alias_abd (.slice none 0 0) (.slice (some ⟨yb, yo, none⟩) 1 yc) w (.inl rfl) hy.ow (ab_nil' _) k)
  have HSt := Lib.hid (fun k => nat_set_d (.slice none 0 0) (.slice (some ⟨xb, xo, none⟩) xn xc) X w (.inl rfl) hx hXS h17 k)
  have HNL : Hid (∀ W, Calls Tryz.prog 163 #[.int .u64 n] W fun e w' => e = .returned (.int .u64 sL) ∧ w' = W.drewN 0) := Lib.hid HNl
  have hcx : xn = 1 → w.cell? ⟨xb, xo, none⟩ = some (.int .u64 X) := fun e => by
    subst e
    have hw : wd w xb xo = X := by rwa [Val_one] at hxV
    have := (hxN.isW 0 (by have := hxN.le; omega)).cell
    rwa [Nat.add_zero, hw] at this
  have HCX := Lib.hid hcx
  have HL := Lib.hid (And.intro b3 (And.intro b4 hL))
  have tX1 : ((X : Int) == 1) = false := beq_eq_false_iff_ne.2 (by omega)
  clear hx hy hp hh hg hnW hXp hXS hxl hxnn hx0 hyl hynn hy0 hyN hyV hyw hxN hxV b3 b4 hL HNl hcx hnS hsL hs1 hL1 hv0 hI0 hLb b1 b2 hL2
  go_enter Tryz.func96, Tryz.ntmps96
  go_wp2_with fail
  refine (HA1.out 0).mono ?_
  rintro e w1 ⟨m1, rfl, rfl⟩
  go_wp2_with fail
  refine (HA2.out m1).mono ?_
  rintro e w1 ⟨m2, rfl, rfl⟩
  go_upto_region 9 with fail
  go_cut [61] (fun v wx => v = .bool false ∧ wx = w.drewN m2)
  case first =>
    by_cases hx1 : xn = 1
    · have tx1 : ((xn : Int) == 1) = true := by rw [hx1]; rfl
      have cx := HCX.out hx1
      have ix : (0 : Int) < (xn : Int) := by omega
      clear hx1
      go_wp2_with fail
      go_meet
      exact ⟨rfl, rfl⟩
    · have tx1 : ((xn : Int) == 1) = false := beq_eq_false_iff_ne.2 (by omega)
      go_wp2_with fail
      go_meet
      exact ⟨rfl, rfl⟩
  case rest =>
    obtain ⟨rfl, rfl⟩ := hcut
    go_wp2_with fail
    refine (HSt.out m2).mono ?_
    rintro e w1 ⟨r1, rfl, hr1⟩
    have HR1 := Lib.hid hr1
    have hsz1 := hr1.chg.size
    have cy1 := (hr1.chg.cell yb yo hybl (fun f => f)).trans cy
    clear hr1
    go_wp2_with fail
    refine (HNL.out w1).mono ?_
    rintro e w2 ⟨rfl, rfl⟩
    have hw0 : w1.drewN 0 = w1 := rfl
    rw [hw0]
    clear hw0 cy1 cy HSt HA1 HA2 HNL
    go_wp2_with fail
    go_loopg [0, 15, 19, 21] L1 (fun gk zv vv zzv jv wr => ∃ (j k v : Nat), jv = .int .i64 j ∧ vv = .int .u64 v ∧ Hid (j + k = L1) ∧ Hid (ExI n k v) ∧ Hid (Nt wr zv (X ^ (n / 2 ^ k)) ∧ Ow wr zzv ∧ Ab zzv zv ∧ (∀ b o, Fp zv b o → w.heap.size ≤ b) ∧ (∀ b o, Fp zzv b o → w.heap.size ≤ b)) ∧ Hid (Chg No w wr) ∧ Hid (k ≤ gk))
    case atStart => exact ⟨0, L1, v0, rfl, rfl, Lib.hid (by omega), Lib.hid HI0.out.1, Lib.hid ⟨by rw [HI0.out.2.2, Nat.pow_one]; exact HR1.out.nt, .inl rfl, ab_nil' _, fun b o f => (HR1.out.fp b o f).resolve_left (fun g => g), fun b o f => f.elim⟩, Lib.hid (HR1.out.chg.mono (fun _ _ _ f => f)), Lib.hid (Nat.le_refl _)⟩
    case round =>
      obtain ⟨j, k, v, rfl, rfl, hjk, hI, hM, hC, hgk⟩ := hrel
      rcases Nat.eq_zero_or_pos k with hk0 | hk0
      · have hj : j = L1 := by have := hjk.out; omega
        have ij : ¬ (j : Int) < (L1 : Int) := by omega
        have hXn : X ^ (n / 2 ^ k) = X ^ n := by rw [hk0, Nat.pow_zero, Nat.div_one]
        have HM2 := Lib.hid (show Nt wr u0 (X ^ n) from by rw [← hXn]; exact hM.out.1)
        have HF := Lib.hid hM.out.2.2.2.1
        clear hk0 hj hXn
        rcases hM.out.1 with ⟨_, h0⟩ | ⟨zb, zo, zn, zc, rfl, -⟩
        · exact absurd h0 (Nat.ne_of_gt (Nat.pow_pos (by omega)))
        have hzat : NtAt wr zb zo zn zc (X ^ n) := by
          rcases HM2.out with ⟨h, _⟩ | ⟨b', o', n', c', h, hh⟩
          · cases h
          · cases h; exact hh
        have hzn : zn ≤ 39 := len_le hzat.2.2 (by rw [hzat.2.1]; exact HX.out.2.2.1)
        have HNm := Lib.hid (nat_norm zb zo zn zc wr hzat.1 (by omega))
        have HZ := Lib.hid hzat
        clear hM hzat
        go_wp2_with fail
        go_loopg [0, 22] 1 (fun gk zv2 iv wr2 => zv2 = .slice (some ⟨zb, zo, none⟩) zn zc ∧ iv = .int .i64 (-1) ∧ wr = wr2)
        case atStart => exact ⟨rfl, rfl, rfl⟩
        case round =>
          obtain ⟨rfl, rfl, rfl⟩ := hrel
          go_wp2_with fail
          refine HNm.out.mono ?_
          rintro e w3 ⟨kz, rfl, hz1, -, rfl⟩
          have HZ1 := Lib.hid hz1
          clear hz1
          go_wp2_with fail
          go_ret
          refine ⟨_, rfl, by rw [← HZ.out.2.1]; exact HZ1.out.nt, fun b o f => .inr (HF.out b o f), hC.out.no⟩
      · obtain ⟨k', rfl⟩ : ∃ k', k = k' + 1 := ⟨k - 1, by omega⟩
        have hj : j < L1 := by have := hjk.out; omega
        have ij : (j : Int) < (L1 : Int) := by omega
        have hk62 : k' ≤ 62 := by have := hjk.out; omega
        have hvI : v = n % 2 ^ (k' + 1) * 2 ^ (63 - k') := by have := hI.out; unfold ExI at this; rw [this, show 64 - (k' + 1) = 63 - k' by omega]
        obtain ⟨b, c, v', hb2, hdiv, hand, hc0, hv', hve, hvW⟩ := exp_bit hvI hk62
        have hef : n / 2 ^ (k' + 1) ≤ n / 2 := by
          rw [Nat.pow_succ, Nat.mul_comm, ← Nat.div_div_eq_div_mul]
          exact Nat.div_le_self _ _
        obtain ⟨e, he⟩ : ∃ e, e = n / 2 ^ (k' + 1) := ⟨_, rfl⟩
        rw [← he] at hdiv hef hM
        have hZ11 : X ^ e < WB ^ 11 := Nat.lt_of_le_of_lt (Nat.pow_le_pow_right (by omega) hef) HX.out.2.2.2
        have h2e : 2 * e + b ≤ n := by rw [← hdiv]; exact Nat.div_le_self _ _
        have HSq := Lib.hid (nat_sqr u19 (.pointer (some ⟨s, 0, none⟩)) u0 (X ^ e) wr hM.out.2.1 hM.out.1 hZ11 (.inr hM.out.2.2.1) (HG.out.no hC.out))
        have HB := Lib.hid (And.intro hdiv (And.intro hc0 (And.intro hve (And.intro hef (And.intro h2e hvI)))))
        clear hdiv hc0 hve hef h2e hvI hI he hZ11 hvW
        go_wp2_with fail
        refine HSq.out.mono ?_
        rintro e1 w2 ⟨r, rfl, hr⟩
        have hrF : ∀ b o, Fp r b o → w.heap.size ≤ b := fun b o f => by
          rcases hr.fp b o f with g | g
          · exact hM.out.2.2.2.2 b o g
          · have := hC.out.size; omega
        have hur : Ab u0 r := fun b o b' o' f f' e => by
          subst e
          rcases hr.fp b o' f' with g | g
          · exact hM.out.2.2.1 b o' b o g f rfl
          · have := Fp.lt hM.out.1.ow f; omega
        have hC2 : Chg No w w2 := hC.out.then hr.chg (fun x o hx f => by have := hM.out.2.2.2.2 x o f; omega)
        have HR := Lib.hid (And.intro hr.nt (And.intro hrF (And.intro hur (hM.out.1.ow.chg hr.chg))))
        have HC2 := Lib.hid hC2
        obtain ⟨g2, rfl⟩ : ∃ g2, gk = g2 + 1 := ⟨gk - 1, by have := hgk.out; omega⟩
        have HGK := Lib.hid (show k' ≤ g2 by have := hgk.out; omega)
        have HJK := Lib.hid (show (j + 1) + k' = L1 by have := hjk.out; omega)
        clear hr hrF hur hC2 hgk hjk
        by_cases hb0 : b = 0
        · have tc : ((c : Int) == 0) = true := by rw [HB.out.2.1.2 hb0]; rfl
          have HB0 := Lib.hid hb0
          clear hb0
          go_wp2_with fail
          go_roundg g2
          case measure => omega
          case rel => exact ⟨j + 1, k', v', by go_num, rfl, HJK, Lib.hid HB.out.2.2.1, Lib.hid ⟨by rw [HB.out.1, HB0.out, Nat.add_zero, Nat.two_mul, Nat.pow_add]; exact HR.out.1, HR.out.2.2.2, HR.out.2.2.1, HR.out.2.1, hM.out.2.2.2.1⟩, HC2, HGK⟩
        · have hb1 : b = 1 := by omega
          have hc1 : c ≠ 0 := fun e => hb0 (HB.out.2.1.1 e)
          have tc : ((c : Int) == 0) = false := beq_eq_false_iff_ne.2 (by omega)
          have HB1 := Lib.hid hb1
          have hux : Ab u0 (.slice (some ⟨xb, xo, none⟩) xn xc) := fun b o b' o' f f' e => by
            have h1 := hM.out.2.2.2.1 b o f
            have h2 := Fp.lt HX.out.1.ow f'
            omega
          have hpw : X ^ e * X ^ e < WB ^ 39 := by
            rw [← Nat.pow_add]
            exact Nat.lt_of_le_of_lt (Nat.pow_le_pow_right (by omega) (by have := HB.out.2.2.2.2.1; omega)) HX.out.2.2.1
          have hX39 : X < WB ^ 39 := Nat.lt_of_le_of_lt (by have := Nat.pow_le_pow_right (show 0 < X by omega) (show 1 ≤ n by omega); simpa using this) HX.out.2.2.1
          have HMu := Lib.hid (nat_mul u0 (.pointer (some ⟨s, 0, none⟩)) r _ (X ^ e * X ^ e) X w2 HR.out.2.2.2 HR.out.1 (HX.out.1.chg HC2.out (fun _ _ _ f => f)) hpw hX39 (.inr HR.out.2.2.1) (.inr hux) (HG.out.no HC2.out))
          clear hb0 hb1 hc1 hux hpw hX39
          go_wp2_with fail
          refine HMu.out.mono ?_
          rintro e3 w3 ⟨r2, rfl, hr2⟩
          have hrF2 : ∀ b o, Fp r2 b o → w.heap.size ≤ b := fun b o f => by
            rcases hr2.fp b o f with g | g
            · exact hM.out.2.2.2.1 b o g
            · have := HC2.out.size; omega
          have hur2 : Ab r r2 := fun b o b' o' f f' e => by
            subst e
            rcases hr2.fp b o' f' with g | g
            · exact HR.out.2.2.1 b o' b o g f rfl
            · have := Fp.lt HR.out.1.ow f; omega
          have HC3 := Lib.hid (HC2.out.then hr2.chg (fun x o hx f => by have := hM.out.2.2.2.1 x o f; omega))
          have HR3 := Lib.hid (And.intro hr2.nt (And.intro hrF2 (And.intro hur2 (HR.out.1.ow.chg hr2.chg))))
          clear hr2 hrF2 hur2 HMu
          go_wp2_with fail
          go_roundg g2
          case measure => omega
          case rel => exact ⟨j + 1, k', v', by go_num, rfl, HJK, Lib.hid HB.out.2.2.1, Lib.hid ⟨by rw [HB.out.1, HB1.out, Nat.pow_succ, Nat.two_mul, Nat.pow_add]; exact HR3.out.1, HR3.out.2.2.2, HR3.out.2.2.1, HR3.out.2.1, HR.out.2.1⟩, HC3, HGK⟩
set_option maxHeartbeats 1000000 in
theorem expWW_ok (s X n : Nat) (w : World) (hX : 2 ≤ X) (hXW : X < WB) (hn : 2 ≤ n) (hnW : n < WB) (hp : X ^ n < WB ^ 39) (hh : X ^ (n / 2) < WB ^ 11) (hg : Glob w) :
    Calls Tryz.prog 275 #[.slice none 0 0, .pointer (some ⟨s, 0, none⟩), .int .u64 X, .int .u64 n] w fun e w' => ∃ r, e = .returned r ∧ Nt w' r (X ^ n) ∧ (∀ b o, Fp r b o → w.heap.size ≤ b) ∧ Chg No w w' := by
  have H1 := Lib.hid (nat_setWord (.slice none 0 0) X w (.inl rfl) hXW hg.size)
  have HG := Lib.hid (And.intro hg (And.intro hnW (And.intro hp hh)))
  clear hXW hnW hp hh hg
  go_enter Tryz.func275, Tryz.ntmps275
  go_wp2_with fail
  refine H1.out.mono ?_
  rintro e w1 ⟨r1, rfl, h1⟩
  have c1 : Chg No w w1 := h1.chg.mono (fun _ _ _ f => f)
  have H2 := Lib.hid (nat_setWord (.slice none 0 0) n w1 (.inl rfl) HG.out.2.1 (HG.out.1.no c1).size)
  have HR1 := Lib.hid h1.nt
  have C1 := Lib.hid c1
  clear h1 c1
  go_wp2_with fail
  refine H2.out.mono ?_
  rintro e w2 ⟨r2, rfl, h2⟩
  have c2 : Chg No w1 w2 := h2.chg.mono (fun _ _ _ f => f)
  have C2 := Lib.hid (C1.out.then c2 (fun _ _ _ f => f))
  have H3 := Lib.hid (expNN_ok s r1 r2 X n w2 (HR1.out.chg c2 (fun _ _ _ f => f)) h2.nt hX hn HG.out.2.1 HG.out.2.2.1 HG.out.2.2.2 (HG.out.1.no C2.out))
  clear h2 c2
  go_wp2_with fail
  refine H3.out.mono ?_
  rintro e w3 ⟨r3, rfl, h3⟩
  have H4 := Lib.hid h3
  clear h3
  go_wp2_with fail
  go_ret
  exact ⟨r3, rfl, H4.out.nt, fun b o f => by rcases H4.out.fp b o f with g | g; exact g.elim; have := C2.out.size; omega, C2.out.then H4.out.chg (fun _ _ _ f => f)⟩
/-- An entry of the table of divisors: 10 to d, its number of bits, d. -/
def TabE (w : World) (m tb i d : Nat) : Prop := ∃ v, w.cell? ⟨tb, i * 3, none⟩ = some v ∧ Nt w v (10 ^ d) ∧ w.cell? ⟨tb, i * 3 + 1, none⟩ = some (.int .i64 (blen (10 ^ d) : Nat)) ∧ w.cell? ⟨tb, i * 3 + 2, none⟩ = some (.int .i64 d) ∧ (∀ b o, Fp v b o → m ≤ b ∧ b ≠ tb) ∧ 0 < d
def TabZ (w : World) (tb i : Nat) : Prop := w.cell? ⟨tb, i * 3, none⟩ = some (.slice none 0 0) ∧ w.cell? ⟨tb, i * 3 + 1, none⟩ = some (.int .i64 0) ∧ w.cell? ⟨tb, i * 3 + 2, none⟩ = some (.int .i64 0)
/-- The table of divisors. -/
def TabOk (w w' : World) (k tb : Nat) : Prop := ∃ d0 d1, w.heap.size ≤ tb ∧ TabE w' tb tb 0 d0 ∧ (k = 2 → TabE w' tb tb 1 d1) ∧ 10 ^ d0 < WB ^ 8 ∧ 10 ^ d1 < WB ^ 16 ∧ Chg No w w' ∧ tb < w'.heap.size
/-- Entry i of the table in the making: v, 10 to D; the rest of the table is as it was. -/
structure DE (wr wx : World) (tb i : Nat) (v : Value) (D : Nat) : Prop where
  c0 : wx.cell? ⟨tb, i * 3, none⟩ = some v
  c1 : wx.cell? ⟨tb, i * 3 + 1, none⟩ = some (.int .i64 0)
  c2 : wx.cell? ⟨tb, i * 3 + 2, none⟩ = some (.int .i64 D)
  nt : Nt wx v (10 ^ D)
  fp : ∀ b o, Fp v b o → wr.heap.size ≤ b
  old : ∀ o, o < i * 3 ∨ i * 3 + 3 ≤ o → wx.cell? ⟨tb, o, none⟩ = wr.cell? ⟨tb, o, none⟩
  chg : Chg (Blk tb) wr wx
  pl : Plain wx tb
  pos : 0 < D
theorem sl_of {w : World} {v : Value} {X : Nat} (h : Nt w v X) : ∃ a n c, v = .slice a n c := by
  rcases h with ⟨rfl, _⟩ | ⟨b, o, n, c, rfl, _⟩
  · exact ⟨_, _, _, rfl⟩
  · exact ⟨_, _, _, rfl⟩
theorem noWB_ow {w : World} {v : Value} (h : Ow w v) : NoWB v := by
  rcases h with rfl | ⟨b, o, n, c, rfl, _⟩
  · exact noWB_slice _ _ _
  · exact noWB_slice _ _ _
/-- The first number of an entry and the number of its figures are stored. -/
theorem DE.first {wr w1 : World} {tb i : Nat} {v u : Value} {D d : Nat} (hc : Chg No wr w1) (htb : tb < wr.heap.size) (hp : Plain w1 tb) (hu : NoWB u) (h0 : w1.cell? ⟨tb, i * 3, none⟩ = some u) (h1 : w1.cell? ⟨tb, i * 3 + 1, none⟩ = some (.int .i64 0)) (h2 : w1.cell? ⟨tb, i * 3 + 2, none⟩ = some (.int .i64 d))
    (hn : Nt w1 v (10 ^ D)) (hf : ∀ b o, Fp v b o → wr.heap.size ≤ b) (hD : 0 < D) : DE wr ((w1.setCell ⟨tb, i * 3, none⟩ v).setCell ⟨tb, i * 3 + 2, none⟩ (.int .i64 D)) tb i v D := by
  have k1 := (Chg.refl (Blk tb) w1).setO v h0 hu.1 hu.2 (fun _ => rfl)
  have h2' := (cell_setCell_ne w1 tb (i * 3) tb (i * 3 + 2) v (.inr (by omega))).trans h2
  have k2 := k1.setO (.int .i64 D) h2' (by simp) (by simp) (fun _ => rfl)
  refine ⟨(cell_setCell_ne _ _ _ _ _ _ (.inr (by omega))).trans (World.cell?_setCell_same _ _ _ h0), (cell_setCell_ne _ _ _ _ _ _ (.inr (by omega))).trans ((cell_setCell_ne _ _ _ _ _ _ (.inr (by omega))).trans h1), World.cell?_setCell_same _ _ _ h2', ?_, hf, ?_, (hc.no).then k2 (fun _ _ _ f => f), k2.plain _ hp, hD⟩
  · exact hn.chg k2 (fun b o f g => by have := hf b o f; have g : b = tb := g; omega)
  · intro o ho
    exact (cell_setCell_ne _ _ _ _ _ _ (.inr (by omega))).trans ((cell_setCell_ne _ _ _ _ _ _ (.inr (by omega))).trans (hc.cell _ _ htb (fun f => f)))
/-- Memory of another place turns. -/
theorem DE.keep {S : Nat → Nat → Prop} {wr wx w' : World} {tb i : Nat} {v : Value} {D : Nat} (h : DE wr wx tb i v D) (hc : Chg S wx w') (hS : ∀ b o, S b o → wr.heap.size ≤ b) (hv : ∀ b o, Fp v b o → ¬ S b o) (htb : tb < wr.heap.size) : DE wr w' tb i v D := by
  have hl : tb < wx.heap.size := h.pl.lt
  have hn : ∀ o, ¬ S tb o := fun o f => by have := hS _ _ f; omega
  exact ⟨(hc.cell _ _ hl (hn _)).trans h.c0, (hc.cell _ _ hl (hn _)).trans h.c1, (hc.cell _ _ hl (hn _)).trans h.c2, h.nt.chg hc hv, h.fp, fun o ho => (hc.cell _ _ hl (hn _)).trans (h.old o ho), h.chg.then hc (fun x o hx f => by have := hS _ _ f; omega), hc.plain _ h.pl, h.pos⟩
/-- The number of an entry is stored anew, and the number of its figures. -/
theorem DE.next {S : Nat → Nat → Prop} {wr wx w1 : World} {tb i : Nat} {v v2 : Value} {D : Nat} (h : DE wr wx tb i v D) (hc : Chg S wx w1) (hS : ∀ b o, S b o → wr.heap.size ≤ b) (htb : tb < wr.heap.size) (hn : Nt w1 v2 (10 ^ (D + 1))) (hf : ∀ b o, Fp v2 b o → wr.heap.size ≤ b) :
    DE wr ((w1.setCell ⟨tb, i * 3, none⟩ v2).setCell ⟨tb, i * 3 + 2, none⟩ (.int .i64 (D + 1 : Nat))) tb i v2 (D + 1) := by
  have hl : tb < wx.heap.size := h.pl.lt
  have hnS : ∀ o, ¬ S tb o := fun o f => by have := hS _ _ f; omega
  have h0 := (hc.cell _ _ hl (hnS _)).trans h.c0
  have h2 := (hc.cell _ _ hl (hnS _)).trans h.c2
  have hu := noWB_ow h.nt.ow
  have k1 := (Chg.refl (Blk tb) w1).setO v2 h0 hu.1 hu.2 (fun _ => rfl)
  have h2' := (cell_setCell_ne w1 tb (i * 3) tb (i * 3 + 2) v2 (.inr (by omega))).trans h2
  have k2 := k1.setO (.int .i64 (D + 1 : Nat)) h2' (by simp) (by simp) (fun _ => rfl)
  refine ⟨(cell_setCell_ne _ _ _ _ _ _ (.inr (by omega))).trans (World.cell?_setCell_same _ _ _ h0), (cell_setCell_ne _ _ _ _ _ _ (.inr (by omega))).trans ((cell_setCell_ne _ _ _ _ _ _ (.inr (by omega))).trans ((hc.cell _ _ hl (hnS _)).trans h.c1)), World.cell?_setCell_same _ _ _ h2', ?_, hf, ?_, (h.chg.then hc (fun x o hx f => by have := hS _ _ f; omega)).then k2 (fun _ _ _ f => f), k2.plain _ (hc.plain _ h.pl), by omega⟩
  · exact hn.chg k2 (fun b o f g => by have := hf b o f; have g : b = tb := g; omega)
  · intro o ho
    exact (cell_setCell_ne _ _ _ _ _ _ (.inr (by omega))).trans ((cell_setCell_ne _ _ _ _ _ _ (.inr (by omega))).trans ((hc.cell _ _ hl (hnS _)).trans (h.old o ho)))
theorem DE.last {wr w4 w5 : World} {tb i : Nat} {v : Value} {D : Nat} (h : DE wr w4 tb i v D) (hc : Chg No w4 w5) (htb : tb < wr.heap.size) :
    TabE (w5.setCell ⟨tb, i * 3 + 1, none⟩ (.int .i64 (blen (10 ^ D) : Nat))) tb tb i D ∧ (∀ o, o < i * 3 ∨ i * 3 + 3 ≤ o → (w5.setCell ⟨tb, i * 3 + 1, none⟩ (.int .i64 (blen (10 ^ D) : Nat))).cell? ⟨tb, o, none⟩ = wr.cell? ⟨tb, o, none⟩) ∧
      Chg (Blk tb) wr (w5.setCell ⟨tb, i * 3 + 1, none⟩ (.int .i64 (blen (10 ^ D) : Nat))) ∧ Plain (w5.setCell ⟨tb, i * 3 + 1, none⟩ (.int .i64 (blen (10 ^ D) : Nat))) tb := by
  have h5 := h.keep hc (fun _ _ f => f.elim) (fun _ _ _ f => f) htb
  have k1 := (Chg.refl (Blk tb) w5).setO (.int .i64 (blen (10 ^ D) : Nat)) h5.c1 (by simp) (by simp) (fun _ => rfl)
  refine ⟨⟨v, (cell_setCell_ne _ _ _ _ _ _ (.inr (by omega))).trans h5.c0, h5.nt.chg k1 (fun b o f g => by have := h5.fp b o f; have g : b = tb := g; omega), World.cell?_setCell_same _ _ _ h5.c1, (cell_setCell_ne _ _ _ _ _ _ (.inr (by omega))).trans h5.c2, (fun b o f => by have := h5.fp b o f; omega), h5.pos⟩, fun o ho => (cell_setCell_ne _ _ _ _ _ _ (.inr (by omega))).trans (h5.old o ho), h5.chg.then k1 (fun _ _ _ f => f), k1.plain _ h5.pl⟩
theorem TabE.keep {wr wf : World} {tb i j d : Nat} (h : TabE wr tb tb j d) (hj : j < i) (ho : ∀ o, o < i * 3 ∨ i * 3 + 3 ≤ o → wf.cell? ⟨tb, o, none⟩ = wr.cell? ⟨tb, o, none⟩) (hc : Chg (Blk tb) wr wf) : TabE wf tb tb j d := by
  obtain ⟨v, h1, h2, h3, h4, h5, h6⟩ := h
  exact ⟨v, (ho _ (by omega)).trans h1, h2.chg hc (fun b o f g => (h5 b o f).2 g), (ho _ (by omega)).trans h3, (ho _ (by omega)).trans h4, h5, h6⟩
theorem TabZ.keep {wr wf : World} {tb i j : Nat} (h : TabZ wr tb j) (hj : i < j) (ho : ∀ o, o < i * 3 ∨ i * 3 + 3 ≤ o → wf.cell? ⟨tb, o, none⟩ = wr.cell? ⟨tb, o, none⟩) : TabZ wf tb j :=
  ⟨(ho _ (by omega)).trans h.1, (ho _ (by omega)).trans h.2.1, (ho _ (by omega)).trans h.2.2⟩
theorem top_ne {w : World} {b o n X : Nat} (hw : ∀ i, i < n → IsW w b (o + i)) (hn : 0 < n) (hv : Val w b o n = X) (hX : WB ^ (n - 1) ≤ X) : wd w b (o + (n - 1)) ≠ 0 := by
  intro e
  obtain ⟨m, rfl⟩ : ∃ m, n = m + 1 := ⟨n - 1, by omega⟩
  rw [Nat.add_sub_cancel] at e hX
  rw [Val_succ, e, Nat.zero_mul, Nat.add_zero] at hv
  have : Val w b o m < WB ^ m := Val_lt fun i hi => hw i (by omega)
  omega
theorem info304 : (Tryz.prog.info? 304).map (fun i => (i.zero, i.size, i.bytes)) = some (some (.agg #[.slice none 0 0, .int .i64 0, .int .i64 0]), 3, 40) := by kernel_rfl
theorem make304 (w : World) (k : Nat) (hk : k ≤ 1000) (Z : Array Value) (hZ : madeCells (Value.agg #[.slice none 0 0, .int .i64 0, .int .i64 0]).cells (k * 3) = Z) :
    (Instr.makeSlice 275 (.int .i64 k) (.int .i64 k)).run Tryz.prog w = .ok (.slice (some ⟨w.heap.size, 0, none⟩) k k) (w.alloc (.cells Z 304)) := by
  obtain ⟨i, h1, h2, h3, h4⟩ := info_of info304
  have := run_make (P := Tryz.prog) w 275 304 i _ Tryz.underlying275 h1 h2 .i64 .i64 k k (by omega) (by omega) (by rw [h4]; omega) (by omega)
  rw [h3, Int.toNat_natCast, hZ] at this
  exact this
set_option maxRecDepth 100000 in
set_option maxHeartbeats 8000000 in
theorem divisors_ok (s m k : Nat) (w : World) (hm : 8 < m) (hm2 : m ≤ 33) (hk : k = if 8 < m / 2 then 2 else 1) (hg : Glob w) :
    Calls Tryz.prog 237 #[.pointer (some ⟨s, 0, none⟩), .int .i64 m, .int .u64 10, .int .i64 19, .int .u64 BB] w fun e w' => ∃ tb, e = .returned (.slice (some ⟨tb, 0, none⟩) k k) ∧ TabOk w w' k tb := by
  have c9 : w.cell? ⟨9, 0, none⟩ = some (.int .i64 8) := hg.cell 9 0 _ rfl
  have i1 : ¬ (m : Int) ≤ 8 := by omega
  obtain ⟨mh, hmh⟩ : ∃ mh, mh = m / 2 := ⟨_, rfl⟩
  have HG := Lib.hid hg
  rw [← hmh] at hk
  have HK := Lib.hid hk
  have e1 : (m : Int) / 2 ^ 1 = (mh : Int) := by omega
  have e2 : (m : Int) / 2 = (mh : Int) := by omega
  have hmh2 : mh ≤ 16 := by omega
  clear hk hmh hg
  go_enter Tryz.func237, Tryz.ntmps237
  go_upto_block 0 with fail
  go_cut [11, 12] (fun kv _ wx => kv = .int .i64 k ∧ w = wx)
  case first =>
    go_wp2_with fail
    go_loopg [11, 12] 2 (fun gk kv wv wr => ∃ kk ww : Nat, kv = .int .i64 kk ∧ wv = .int .i64 ww ∧ w = wr ∧ Hid ((kk = 1 ∧ ww = 8 ∧ 0 < gk) ∨ (kk = 2 ∧ ww = 16 ∧ 8 < mh)))
    case atStart => exact ⟨1, 8, rfl, rfl, rfl, Lib.hid (.inl ⟨rfl, rfl, by omega⟩)⟩
    case round =>
      obtain ⟨kk, ww, rfl, rfl, rfl, hr⟩ := hrel
      rcases hr.out with ⟨rfl, rfl, hgk⟩ | ⟨rfl, rfl, h8⟩
      · by_cases h8 : 8 < mh
        · have i2 : ((8 : Nat) : Int) < (mh : Int) := by omega
          have i3 : ((1 : Nat) : Int) < 64 := by omega
          obtain ⟨g2, rfl⟩ : ∃ g2, gk = g2 + 1 := ⟨gk - 1, by omega⟩
          have H8 := Lib.hid h8
          clear h8 hr
          go_wp2_with fail
          go_roundg g2
          case measure => omega
          case rel => exact ⟨2, 16, rfl, rfl, rfl, Lib.hid (.inr ⟨rfl, rfl, H8.out⟩)⟩
        · have i2 : ¬ ((8 : Nat) : Int) < (mh : Int) := by omega
          have hk1 : k = 1 := by rw [HK.out, if_neg h8]
          have HK1 := Lib.hid hk1
          clear h8 hr hk1
          go_wp2_with fail
          go_meet
          exact ⟨by rw [HK1.out]; rfl, rfl⟩
      · have i2 : ¬ ((16 : Nat) : Int) < (mh : Int) := by omega
        have hk1 : k = 2 := by rw [HK.out, if_pos h8]
        have HK1 := Lib.hid hk1
        clear h8 hr hk1
        go_wp2_with fail
        go_meet
        exact ⟨by rw [HK1.out]; rfl, rfl⟩
  case rest =>
    obtain ⟨rfl, rfl⟩ := hcut
    have hk12 : k = 1 ∨ k = 2 := by rw [HK.out]; split <;> omega
    have h17 := HG.out.size
    go_upto_region 9 with fail
    go_cut [13] (fun tv wx => tv = .slice (some ⟨w.heap.size, 0, none⟩) k k ∧ Hid (∀ i, i < k → TabZ wx w.heap.size i) ∧ Hid (Chg No w wx) ∧ Hid (Plain wx w.heap.size))
    case first =>
      rcases hk12 with rfl | rfl
      · have hr : (Instr.makeSlice 275 (.int .i64 1) (.int .i64 1)).run Tryz.prog w = .ok (.slice (some ⟨w.heap.size, 0, none⟩) 1 1) (w.alloc (.cells #[.slice none 0 0, .int .i64 0, .int .i64 0] 304)) := make304 w 1 (by decide) _ (by kernel_rfl)
        go_wp2_with fail
        go_meet
        refine ⟨rfl, Lib.hid (fun i hi => ?_), Lib.hid ((Chg.refl _ _).alloc _), Lib.hid (Plain.new _ _ _)⟩
        obtain rfl : i = 0 := by omega
        exact ⟨World.cell?_alloc_new _ _ _ _, World.cell?_alloc_new _ _ _ _, World.cell?_alloc_new _ _ _ _⟩
      · have hr : (Instr.makeSlice 275 (.int .i64 2) (.int .i64 2)).run Tryz.prog w = .ok (.slice (some ⟨w.heap.size, 0, none⟩) 2 2) (w.alloc (.cells #[.slice none 0 0, .int .i64 0, .int .i64 0, .slice none 0 0, .int .i64 0, .int .i64 0] 304)) := make304 w 2 (by decide) _ (by kernel_rfl)
        go_wp2_with fail
        go_meet
        refine ⟨rfl, Lib.hid (fun i hi => ?_), Lib.hid ((Chg.refl _ _).alloc _), Lib.hid (Plain.new _ _ _)⟩
        have : i = 0 ∨ i = 1 := by omega
        rcases this with rfl | rfl
        all_goals exact ⟨World.cell?_alloc_new _ _ _ _, World.cell?_alloc_new _ _ _ _, World.cell?_alloc_new _ _ _ _⟩
    case rest =>
      obtain ⟨rfl, hZ, hC0, hP0⟩ := hcut
      generalize wc = w0 at *
      obtain ⟨-, -, hz⟩ := hZ.out (k - 1) (by omega)
      have i4 : (k : Int) - 1 < (k : Int) := by omega
      have i5 : 0 ≤ (k : Int) - 1 := by omega
      obtain ⟨tb, htb⟩ : ∃ tb, tb = w.heap.size := ⟨_, rfl⟩
      rw [← htb] at hz hZ hP0 ⊢
      have HTB := Lib.hid htb
      clear htb
      go_wp2_with fail
      clear hz
      go_loopg [14, 15] (k + 1) (fun gk lv iv wr => ∃ i d0 d1 : Nat, iv = .int .i64 i ∧ i ≤ k ∧ Hid (10 ^ d0 < WB ^ 8 ∧ 10 ^ d1 < WB ^ 16 ∧ (0 < i → TabE wr tb tb 0 d0) ∧ (1 < i → TabE wr tb tb 1 d1)) ∧ Hid (∀ j, i ≤ j → j < k → TabZ wr tb j) ∧ Hid (Chg No w wr) ∧ Hid (Plain wr tb) ∧ Hid (k - i < gk))
      case atStart => exact ⟨0, 0, 0, rfl, by omega, Lib.hid ⟨by decide, by decide, fun h => by omega, fun h => by omega⟩, Lib.hid (fun j _ h => hZ.out j h), hC0, hP0, Lib.hid (by omega)⟩
      case round =>
        obtain ⟨i, d0, d1, rfl, hik, hT, hZi, hC, hP, hgk⟩ := hrel
        generalize wr = wq at *
        obtain ⟨gA, hgA⟩ : ∃ gA, gk = gA + 1 := ⟨gk - 1, by have := hgk.out; omega⟩
        subst hgA
        rcases Nat.lt_or_ge i k with hlt | hge
        · have ii : (i : Int) < (k : Int) := by omega
          obtain ⟨z0, z1, z2⟩ := hZi.out i (Nat.le_refl _) hlt
          have i0 : i = 0 ∨ i = 1 := by omega
          have hgr := HG.out.no hC.out
          have cg9 : wq.cell? ⟨9, 0, none⟩ = some (.int .i64 8) := hgr.cell 9 0 _ rfl
          have htbl : tb < wq.heap.size := hP.out.lt
          have ftb := fun o => hP.out.free o
          have HGR := Lib.hid hgr
          clear hgr
          go_upto_if 57 with fail
          go_cut [] from 45 to 134 (fun wx => Hid (∃ v D, DE wq wx tb i v D ∧ 10 ^ D < WB ^ (8 * (i + 1))))
          case first =>
            rcases i0 with hi0 | hi1
            · have t57 : ((i : Int) == 0) = true := by rw [hi0]; rfl
              have HEx : Hid (Calls Tryz.prog 275 #[.slice none 0 0, .pointer (some ⟨s, 0, none⟩), .int .u64 BB, .int .u64 8] wq fun e w' => ∃ r, e = .returned r ∧ Nt w' r (10 ^ 152) ∧ (∀ b o, Fp r b o → wq.heap.size ≤ b) ∧ Chg No wq w') := Lib.hid (by
                have := expWW_ok s BB 8 wq (by decide) BB_lt (by decide) (by decide) (by decide) (by decide) HGR.out
                rw [show BB ^ 8 = 10 ^ 152 by decide] at this
                exact this)
              have z0' := z0
              have z2' := z2
              rw [hi0, Nat.zero_mul] at z0' z2'
              rw [Nat.zero_add] at z2'
              have HI0 := Lib.hid hi0
              clear hi0
              go_wp2_with fail
              refine HEx.out.mono ?_
              rintro e w1 ⟨r, rfl, g1, g2, g3⟩
              obtain ⟨ra, rn, rc, rfl⟩ := sl_of g1
              have y0 := (g3.cell _ _ htbl (fun f => f)).trans z0'
              have y2 := (g3.cell _ _ htbl (fun f => f)).trans z2'
              have y0i := (g3.cell _ _ htbl (fun f => f)).trans z0
              have y1i := (g3.cell _ _ htbl (fun f => f)).trans z1
              have y2i := (g3.cell _ _ htbl (fun f => f)).trans z2
              have hp1 := g3.plain _ hP.out
              have f0 := hp1.free 0
              have f2 := hp1.free 2
              have HDE := DE.first (D := 152) g3 htbl hp1 (noWB_slice _ _ _) y0i y1i y2i g1 g2 (by decide)
              rw [HI0.out, Nat.zero_mul, Nat.zero_add] at HDE
              have HDE := Lib.hid HDE
              have cg9w : (w1.setCell ⟨tb, 0, none⟩ (.slice ra rn rc)).cell? ⟨9, 0, none⟩ = some (.int .i64 8) := (cell_setCell_ne _ _ _ _ _ _ (.inl (by have := HTB.out; omega))).trans ((HGR.out.no g3).cell 9 0 _ rfl)
              clear g1 g2 g3 z0 z1 z2 z0' z2' y0i y1i y2i hp1
              go_wp2_with fail
              go_meet
              exact Lib.hid ⟨_, 152, by rw [HI0.out]; exact HDE.out, by rw [HI0.out]; decide⟩
            · have t57 : ((i : Int) == 0) = false := by rw [hi1]; rfl
              obtain ⟨v0, e0, e1', e2', e3, e4, e5⟩ := hT.out.2.2.1 (by omega)
              obtain ⟨va, vn, vc, rfl⟩ := sl_of e1'
              have im : (i : Int) - 1 < (k : Int) := by omega
              have im0 : 0 ≤ (i : Int) - 1 := by omega
              have x0 : wq.cell? ⟨tb, (i - 1) * 3, none⟩ = some (.slice va vn vc) := by rw [hi1]; exact e0
              have x2 : wq.cell? ⟨tb, (i - 1) * 3 + 2, none⟩ = some (.int .i64 d0) := by rw [hi1]; exact e3
              have hd0 : d0 ≤ 155 := by
                have h1 := hT.out.1
                have h2 : WB ^ 8 ≤ 10 ^ 155 := by decide
                have h3 : 10 ^ d0 < 10 ^ 155 := Nat.lt_of_lt_of_le h1 h2
                exact Nat.le_of_lt ((Nat.pow_lt_pow_iff_right (a := 10) (by decide)).1 h3)
              have HSq := Lib.hid (nat_sqr (.slice none 0 0) (.pointer (some ⟨s, 0, none⟩)) _ (10 ^ d0) wq (.inl rfl) e1' (Nat.lt_of_lt_of_le hT.out.1 (Nat.pow_le_pow_right WB_pos (by decide))) (.inr (ab_nil' _)) HGR.out)
              have HI1 := Lib.hid hi1
              have hB16 : 10 ^ (2 * d0) < WB ^ 16 := by
                rw [Nat.two_mul, Nat.pow_add, show WB ^ 16 = WB ^ 8 * WB ^ 8 from by rw [← Nat.pow_add]]
                have := hT.out.1
                exact Nat.mul_lt_mul'' this this
              have HB16 := Lib.hid hB16
              clear hi1 e0 e1' e2' e3 e4 hB16
              go_wp2_with fail
              refine HSq.out.mono ?_
              rintro e w1 ⟨r, rfl, hr⟩
              have g3 : Chg No wq w1 := hr.chg.mono (fun _ _ _ f => f)
              have g1 := hr.nt
              rw [← Nat.pow_add, ← Nat.two_mul] at g1
              obtain ⟨ra, rn, rc, rfl⟩ := sl_of g1
              have y0i := (g3.cell _ _ htbl (fun f => f)).trans z0
              have y1i := (g3.cell _ _ htbl (fun f => f)).trans z1
              have y2i := (g3.cell _ _ htbl (fun f => f)).trans z2
              have x2' := (g3.cell _ _ htbl (fun f => f)).trans x2
              have hp1 := g3.plain _ hP.out
              have f0 := hp1.free (i * 3)
              have f2 := hp1.free (i * 3 + 2)
              obtain ⟨D2, hD2⟩ : ∃ D2, D2 = 2 * d0 := ⟨_, rfl⟩
              rw [← hD2] at g1
              have HD2 := Lib.hid hD2
              have zz : IntKind.i64.wrap (2 * (d0 : Int)) = (D2 : Int) := by rw [hD2, IntWalk.i64_in _ (by omega)]; push_cast; rfl
              have HDE := Lib.hid (DE.first (D := D2) g3 htbl hp1 (noWB_slice _ _ _) y0i y1i y2i g1 (fun b o f => (hr.fp b o f).resolve_left (fun g => g)) (by rw [hD2]; omega))
              have x2w : ((w1.setCell ⟨tb, i * 3, none⟩ (.slice ra rn rc))).cell? ⟨tb, (i - 1) * 3 + 2, none⟩ = some (.int .i64 d0) := (cell_setCell_ne _ _ _ _ _ _ (.inr (by omega))).trans x2'
              clear g1 g3 hr z0 z1 z2 hp1 x0 x2 y1i HSq hD2
              go_wp2_with fail
              go_meet
              exact Lib.hid ⟨_, D2, HDE.out, by rw [HI1.out, HD2.out]; exact HB16.out⟩
          case rest =>
            obtain ⟨v, D, hDE, hDb⟩ := hcut.out
            obtain ⟨va, vn, vc, rfl⟩ := sl_of hDE.nt
            have hDb16 : 10 ^ D < WB ^ 16 := Nat.lt_of_lt_of_le hDb (Nat.pow_le_pow_right WB_pos (by omega))
            have hwc17 : 17 ≤ wc.heap.size := by have := hDE.chg.size; have := HGR.out.size; omega
            have HSt := Lib.hid (nat_set (.slice none 0 0) _ (10 ^ D) wc (.inl rfl) hDE.nt (small_of (by decide) hDb16) hwc17)
            have c0 := hDE.c0
            have HDE := Lib.hid hDE
            have HDB := Lib.hid (And.intro hDb hDb16)
            clear hDE hcut hDb hDb16
            go_wp2_with fail
            refine HSt.out.mono ?_
            rintro e w1 ⟨lv, rfl, hl⟩
            rcases hl.nt with ⟨_, h0⟩ | ⟨lb, lo, ln, lc, rfl, hlN, hlV, hlT⟩
            · exact absurd h0 (Nat.ne_of_gt (Nat.pow_pos (by decide)))
            have hln0 : 0 < ln := by
              rcases Nat.eq_zero_or_pos ln with e | e
              · subst e; exact absurd hlV.symm (Nat.ne_of_gt (Nat.pow_pos (by decide)))
              · exact e
            have hln16 : ln ≤ 16 := len_le hlT (by rw [hlV]; exact HDB.out.2)
            have hlge : WB ^ (ln - 1) ≤ 10 ^ D := by rw [← hlV]; exact Val_ge hln0 (hlT.resolve_left (by omega))
            have hlb : wc.heap.size ≤ lb := by
              have := hlN.le
              exact (hl.fp lb lo (fp0 (by omega))).resolve_left (fun g => g)
            have hwcs := HDE.out.chg.size
            have c1 : Chg No wc w1 := hl.chg.mono (fun _ _ _ f => f)
            have HDE1 := Lib.hid (HDE.out.keep c1 (fun _ _ f => f.elim) (fun _ _ _ f => f) htbl)
            have hvl : ∀ b o, Fp (.slice va vn vc) b o → b ≠ lb := fun b o f => by have := Fp.lt HDE.out.nt.ow f; omega
            have hln8 : WB ^ ln ≤ WB ^ (8 * (i + 1)) := by
              refine Nat.pow_le_pow_right WB_pos ?_
              exact len_le hlT (by rw [hlV]; exact HDB.out.1)
            have HL := Lib.hid (And.intro hlV (And.intro hlN hvl))
            have HL8 := Lib.hid hln8
            have hlew : wq.heap.size ≤ lb := by omega
            clear hl hlV hlN hlT hvl c1 c0 hln8
            go_wp2_with fail
            go_loopg [] 400 (fun gk wr => ∃ (v3 : Value) (D3 : Nat), Hid (DE wq wr tb i v3 D3) ∧ Hid (Val wr lb lo ln = 10 ^ D3 ∧ WB ^ (ln - 1) ≤ 10 ^ D3 ∧ NW wr lb lo ln lc ∧ ∀ b o, Fp v3 b o → b ≠ lb) ∧ Hid (400 - D3 < gk + 1))
            case atStart => exact ⟨_, D, HDE1, Lib.hid ⟨HL.out.1, hlge, HL.out.2.1, HL.out.2.2⟩, Lib.hid (by omega)⟩
            case round =>
              obtain ⟨v3, D3, hD3, hL3, hg3⟩ := hrel
              obtain ⟨va3, vn3, vc3, rfl⟩ := sl_of hD3.out.nt
              have hD309 : D3 < 309 := by
                have h1 : 10 ^ D3 < WB ^ ln := by
                  rw [← hL3.out.1]; exact Val_lt fun i hi => hL3.out.2.2.1.isW i (by have := hL3.out.2.2.1.le; omega)
                have h2 : WB ^ ln ≤ WB ^ 16 := Nat.pow_le_pow_right WB_pos hln16
                have h4 : WB ^ 16 ≤ (10 ^ 103) ^ 3 := by decide
                obtain ⟨T, hT9⟩ : ∃ T : Nat, T = 309 := ⟨_, rfl⟩
                rw [← Nat.pow_mul, show 103 * 3 = T by rw [hT9]] at h4
                rw [← hT9]
                exact (Nat.pow_lt_pow_iff_right (a := 10) (by decide)).1 (Nat.lt_of_lt_of_le h1 (Nat.le_trans h2 h4))
              obtain ⟨g2, hg2⟩ : ∃ g2, gk = g2 + 1 := ⟨gk - 1, by have := hg3.out; omega⟩
              subst hg2
              have hwl := hL3.out.2.2.1.wr 0 ln (by have := hL3.out.2.2.1.le; omega)
              rw [Nat.add_zero] at hwl
              have HMA : Hid (Calls Tryz.prog 207 #[.slice (some ⟨lb, lo, none⟩) ln lc, .slice (some ⟨lb, lo, none⟩) ln lc, .int .u64 10, .int .u64 0] wr fun e w' =>
                  ∃ c : Nat, e = .returned (.int .u64 c) ∧ c < WB ∧ Val w' lb lo ln + c * WB ^ ln = Val wr lb lo ln * 10 + 0 ∧ Chg (Rng lb lo ln) wr w') := Lib.hid (mulAddVWW lb lo lc lb lo lc ln 10 0 wr (by omega) (by decide) (by decide) hwl hwl.isW (.inr (.inl rfl)))
              clear hwl
              go_wp2_with fail
              refine HMA.out.mono ?_
              rintro e w4 ⟨c, rfl, -, hv4, hk4⟩
              have hD4 := hD3.out.keep hk4 (fun b o f => by rw [f.1]; exact hlew) (fun b o f g => hL3.out.2.2.2 b o f g.1) htbl
              have HD4 := Lib.hid hD4
              have HL4 := Lib.hid (hL3.out.2.2.1.chg hk4)
              have HV4 := Lib.hid hv4
              have hw417 : 17 ≤ w4.heap.size := by have := hD4.chg.size; have := HGR.out.size; omega
              clear hv4 hk4 HMA
              by_cases hc0 : c = 0
              · have tc : ((c : Int) == 0) = true := by rw [hc0]; rfl
                have hval : Val w4 lb lo ln = 10 ^ (D3 + 1) := by
                  have h1 := HV4.out
                  rw [hc0, hL3.out.1, Nat.zero_mul] at h1
                  rw [Nat.pow_succ]; omega
                have hge : WB ^ (ln - 1) ≤ 10 ^ (D3 + 1) := Nat.le_trans hL3.out.2.1 (Nat.pow_le_pow_right (by decide) (by omega))
                have hnl : Nt w4 (.slice (some ⟨lb, lo, none⟩) ln lc) (10 ^ (D3 + 1)) := .inr ⟨lb, lo, ln, lc, rfl, HL4.out, hval, .inr (top_ne (fun i hi => HL4.out.isW i (by have := HL4.out.le; omega)) hln0 hval hge)⟩
                have hsm : 10 ^ (D3 + 1) < WB ^ ln := by
                  rw [← hval]; exact Val_lt fun i hi => HL4.out.isW i (by have := HL4.out.le; omega)
                have HS2 := Lib.hid (nat_set (.slice va3 vn3 vc3) _ (10 ^ (D3 + 1)) w4 hD4.nt.ow hnl (small_of (by omega) hsm) hw417)
                have c0 := hD4.c0
                have HN4 := Lib.hid (And.intro hval hge)
                clear hc0 hD4 hval hge hnl hsm
                go_wp2_with fail
                refine HS2.out.mono ?_
                rintro e w5 ⟨v5, rfl, hr5⟩
                obtain ⟨va5, vn5, vc5, rfl⟩ := sl_of hr5.nt
                have hf5 : ∀ b o, Fp (.slice va5 vn5 vc5) b o → wq.heap.size ≤ b := fun b o f => by
                  rcases hr5.fp b o f with g | g
                  · exact HD4.out.fp b o g
                  · have := HD4.out.chg.size; omega
                have hd5 := DE.next HD4.out hr5.chg (fun b o f => HD4.out.fp b o f) htbl hr5.nt hf5
                have h4l : tb < w4.heap.size := HD4.out.pl.lt
                have hn4 : ∀ o, ¬ Fp (.slice va3 vn3 vc3) tb o := fun o f => by have := HD4.out.fp _ _ f; omega
                have y0 := (hr5.chg.cell _ _ h4l (hn4 _)).trans HD4.out.c0
                have y2 := (hr5.chg.cell _ _ h4l (hn4 _)).trans HD4.out.c2
                have hp5 := hr5.chg.plain _ HD4.out.pl
                have f0 := hp5.free (i * 3)
                have f2 := hp5.free (i * 3 + 2)
                have y2w : (w5.setCell ⟨tb, i * 3, none⟩ (.slice va5 vn5 vc5)).cell? ⟨tb, i * 3 + 2, none⟩ = some (.int .i64 D3) := (cell_setCell_ne _ _ _ _ _ _ (.inr (by omega))).trans y2
                obtain ⟨D5, hD5⟩ : ∃ D5, D5 = D3 + 1 := ⟨_, rfl⟩
                have zD : IntKind.i64.wrap ((D3 : Int) + 1) = (D5 : Int) := by rw [hD5, IntWalk.i64_in _ (by omega)]; rfl
                rw [← hD5] at hd5
                have hL5 : Val ((w5.setCell ⟨tb, i * 3, none⟩ (.slice va5 vn5 vc5)).setCell ⟨tb, i * 3 + 2, none⟩ (.int .i64 D5)) lb lo ln = 10 ^ D5 ∧ WB ^ (ln - 1) ≤ 10 ^ D5 ∧ NW ((w5.setCell ⟨tb, i * 3, none⟩ (.slice va5 vn5 vc5)).setCell ⟨tb, i * 3 + 2, none⟩ (.int .i64 D5)) lb lo ln lc ∧ ∀ b o, Fp (.slice va5 vn5 vc5) b o → b ≠ lb := by
                  have k1 := (Chg.refl (Blk tb) w5).setO (.slice va5 vn5 vc5) y0 (by simp) (by simp) (fun _ => rfl)
                  have k2 := k1.setO (.int .i64 D5) y2w (by simp) (by simp) (fun _ => rfl)
                  refine ⟨?_, by rw [hD5]; exact HN4.out.2, (HL4.out.chg hr5.chg).chg k2, ?_⟩
                  · refine (Val_congr (w := w4) fun i hi => (wd_congr (k2.cell _ _ (HL4.out.chg hr5.chg).lt (fun f => by have f : lb = tb := f; omega))).trans (wd_congr (hr5.chg.cell _ _ HL4.out.lt (fun f => hL3.out.2.2.2 _ _ f rfl)))).trans ?_
                    rw [HN4.out.1, hD5]
                  · intro b o f e
                    rcases hr5.fp b o f with g | g
                    · exact hL3.out.2.2.2 b o g e
                    · have := HL4.out.lt; omega
                have HD5 := Lib.hid hd5
                have HL5 := Lib.hid hL5
                have HG5 := Lib.hid (show 400 - D5 < g2 + 1 by have := hg3.out; omega)
                clear hd5 hL5 hr5 hf5 hn4 hp5 hD5 y2
                go_wp2_with fail
                go_roundg g2
                case measure => omega
                case rel => exact ⟨_, D5, HD5, HL5, HG5⟩
              · have tc : ((c : Int) == 0) = false := beq_eq_false_iff_ne.2 (by omega)
                have HBl := nat_bitLen (.slice va3 vn3 vc3) (10 ^ D3) w4 hD4.nt (small_of (k := ln) (by omega) (by
                  rw [← hL3.out.1]; exact Val_lt fun i hi => hL3.out.2.2.1.isW i (by have := hL3.out.2.2.1.le; omega)))
                have hlast : ∀ w5, Drew w4 w5 → _ := fun w5 hd => DE.last HD4.out hd.chg htbl
                obtain ⟨B, hB⟩ : ∃ B, B = blen (10 ^ D3) := ⟨_, rfl⟩
                rw [← hB] at HBl hlast
                have HBl := Lib.hid HBl
                have HLast := Lib.hid hlast
                have c0 := hD4.c0
                have HB8 : Hid (10 ^ D3 < WB ^ (8 * (i + 1))) := Lib.hid (Nat.lt_of_lt_of_le (by
                  rw [← hL3.out.1]; exact Val_lt fun i hi => hL3.out.2.2.1.isW i (by have := hL3.out.2.2.1.le; omega)) HL8.out)
                clear hc0 hD4 hB hlast
                go_wp2_with fail
                refine HBl.out.mono ?_
                rintro e w5 ⟨rfl, hdr⟩
                obtain ⟨t1, t2, t3, t4⟩ := HLast.out w5 hdr
                have y1 := (hdr.chg.cell _ _ HD4.out.pl.lt (fun f => f)).trans HD4.out.c1
                have hp5 := hdr.chg.plain _ HD4.out.pl
                have f1 := hp5.free (i * 3 + 1)
                have T1 := Lib.hid (And.intro t1 (And.intro t2 (And.intro t3 t4)))
                clear t1 t2 t3 t4 hdr hp5
                go_wp2_with fail
                go_roundg gA
                case measure => omega
                case rel =>
                  obtain ⟨t1, t2, t3, t4⟩ := T1.out
                  have hCf : Chg No w _ := hC.out.then t3 (fun x o hx f => by have f : x = tb := f; have := HTB.out; omega)
                  rcases i0 with hi0 | hi1
                  · subst hi0
                    exact ⟨1, D3, d1, rfl, by omega, Lib.hid ⟨HB8.out, hT.out.2.1, fun _ => t1, fun h => by omega⟩, Lib.hid (fun j h1 h2 => (hZi.out j (by omega) h2).keep (by omega) t2), Lib.hid hCf, Lib.hid t4, Lib.hid (by have := hgk.out; omega)⟩
                  · subst hi1
                    exact ⟨2, d0, D3, rfl, by omega, Lib.hid ⟨hT.out.1, HB8.out, fun _ => (hT.out.2.2.1 (by omega)).keep (by omega) t2 t3, fun _ => t1⟩, Lib.hid (fun j h1 h2 => by omega), Lib.hid hCf, Lib.hid t4, Lib.hid (by have := hgk.out; omega)⟩
        · have hik2 : i = k := by omega
          have ii : ¬ (i : Int) < (k : Int) := by omega
          go_wp2_with fail
          go_ret
          exact ⟨tb, rfl, d0, d1, by rw [HTB.out]; exact Nat.le_refl _, hT.out.2.2.1 (by omega), fun h => hT.out.2.2.2 (by omega), hT.out.1, hT.out.2.1, hC.out, hP.out.lt⟩
end Go.Proofs.YtacfhndledcmgaaGreatDoor
