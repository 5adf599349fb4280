/- Lemmas for the law FnBackDecimal: nat.divLarge, strings.Reader. Conditions: those in each theorem; none besides. -/
import Derived.Test.YtacfhndledcmgaaGreatDoorK24
import Derived.Test.YtacfhndledcmgaaGreatDoorK5
import Derived.Test.YtacfhndledcmgaaGreatDoorK4
import Derived.Deep.DeepCutAuto
import Derived.Test.YtacfhndledcmgaaGreatDoorK9
import Derived.Test.YtacfhndledcmgaaGreatDoorK18
import Derived.Deep.RegionHeld3
import Derived.Test.YtacfhndledcmgaaGreatDoorK12
import Derived.Test.YtacfhndledcmgaaGreatDoorM127
import Derived.Test.YtacfhndledcmgaaGreatDoorK11
set_option linter.unusedVariables false
set_option linter.unusedSimpArgs false
namespace Go.Proofs.YtacfhndledcmgaaGreatDoor
open Go.RowKit
theorem NtAt.keep {S : Nat → Nat → Prop} {w w' : World} {b o n c X : Nat} (h : NtAt w b o n c X) (hc : Chg S w w') (hS : ∀ i, i < n → ¬ S b (o + i)) : NtAt w' b o n c X := by
  obtain ⟨h1, h2, h3⟩ := h
  have hw : ∀ i, i < n → wd w' b (o + i) = wd w b (o + i) := fun i hi => wd_congr (hc.cell _ _ h1.lt (hS i hi))
  refine ⟨h1.chg hc, by rw [← h2]; exact Val_congr hw, ?_⟩
  rcases h3 with h3 | h3
  · exact .inl h3
  · rcases Nat.eq_zero_or_pos n with e | e
    · exact .inl e
    · exact .inr (by rw [hw _ (by omega)]; exact h3)
theorem fp0 {b o n c : Nat} (h : 0 < c) : Fp (.slice (some ⟨b, o, none⟩) n c) b o := ⟨rfl, Nat.le_refl _, Nat.lt_add_of_pos_right h⟩
/-- A slice apart from a stack. -/
def SkAp (s : Nat) (st : Option (Nat × Option Addr × Nat × Nat)) (v : Value) : Prop := ∀ b o, Fp v b o → ∀ p, ¬ SkF s st b p
theorem SkAp.nil (s : Nat) (st : Option (Nat × Option Addr × Nat × Nat)) : SkAp s st (.slice none 0 0) := fun _ _ f => f.elim
theorem SkF.cut {s k x o : Nat} {st : Option (Nat × Option Addr × Nat × Nat)} : SkF s (skCut k st) x o ↔ SkF s st x o := by
  match st with
  | none => exact Iff.rfl
  | some (i, A, n, c) => exact Iff.rfl
/-- What a division answers: quotient and remainder, where the receivers lay or in new blocks. -/
structure DivRes (w w' : World) (s : Nat) (st : Option (Nat × Option Addr × Nat × Nat)) (z u q r : Value) (X Y : Nat) : Prop where
  nq : Nt w' q (X / Y)
  nr : Nt w' r (X % Y)
  fq : ∀ b o, Fp q b o → Fp z b o ∨ w.heap.size ≤ b
  fr : ∀ b o, Fp r b o → Fp u b o ∨ w.heap.size ≤ b
  ab : Ab q r
  sk : ∃ st', Sk w' s st' ∧ skLen st' = skLen st ∧ SkR w.heap.size st st' ∧ SkAp s st' q ∧ SkAp s st' r
  chg : Chg (fun x o => SkT s st x o ∨ Fp z x o ∨ Fp u x o) w w'
theorem dl_top {Y X P PX y1 l s v1 l' ut lu : Nat} (h1 : WB ≤ 2 * (y1 * 2 ^ s)) (hY : Y = l + y1 * P) (hV : Y * 2 ^ s = l' + v1 * P) (hl : l' < P) (hX : X < PX) (hU : X * 2 ^ s = lu + ut * PX) : WB ≤ 2 * v1 ∧ ut < v1 := by
  have hp := Nat.two_pow_pos s
  have a1 : y1 * 2 ^ s * P ≤ Y * 2 ^ s := by
    have : y1 * P * 2 ^ s ≤ Y * 2 ^ s := Nat.mul_le_mul_right _ (by omega)
    have e : y1 * 2 ^ s * P = y1 * P * 2 ^ s := by rw [Nat.mul_assoc, Nat.mul_comm (2 ^ s), ← Nat.mul_assoc]
    omega
  have a2 : y1 * 2 ^ s < v1 + 1 := by
    rcases Nat.lt_or_ge (y1 * 2 ^ s) (v1 + 1) with h | h
    · exact h
    · have : (v1 + 1) * P ≤ y1 * 2 ^ s * P := Nat.mul_le_mul_right _ h
      rw [Nat.add_mul] at this
      omega
  have hy1 : 1 ≤ y1 := by
    rcases Nat.eq_zero_or_pos y1 with e | e
    · rw [e, Nat.zero_mul] at h1; unfold WB at h1; omega
    · exact e
  have a3 : 1 * 2 ^ s ≤ y1 * 2 ^ s := Nat.mul_le_mul_right _ hy1
  have a4 : ut < 2 ^ s := by
    rcases Nat.lt_or_ge ut (2 ^ s) with h | h
    · exact h
    · have b1 : 2 ^ s * PX ≤ ut * PX := Nat.mul_le_mul_right _ h
      have b2 : X * 2 ^ s < PX * 2 ^ s := Nat.mul_lt_mul_of_pos_right hX hp
      rw [Nat.mul_comm PX] at b2
      omega
  omega
theorem dl_res {X Y Q R s A e : Nat} (hU : X * 2 ^ s = Q * (Y * 2 ^ s) + R) (hR : R < Y * 2 ^ s) (hA : A * 2 ^ s + e = R) (he : e < 2 ^ s) : A = X % Y ∧ Q = X / Y := by
  have hp := Nat.two_pow_pos s
  have h1 : X = Q * Y + A := by
    have a1 : X * 2 ^ s / 2 ^ s = X := Nat.mul_div_cancel _ hp
    rw [hU, ← hA, ← Nat.mul_assoc, ← Nat.add_assoc, ← Nat.add_mul, Nat.mul_comm _ (2 ^ s), Nat.mul_add_div hp, Nat.div_eq_of_lt he] at a1
    omega
  have h2 : A < Y := by
    have : A * 2 ^ s < Y * 2 ^ s := by omega
    exact Nat.lt_of_mul_lt_mul_right this
  have := divmod_of h1.symm h2
  omega
set_option maxRecDepth 100000 in
set_option maxHeartbeats 8000000 in
theorem divLarge_ok (z u : Value) (s : Nat) (st : Option (Nat × Option Addr × Nat × Nat)) (xb xo xn xc yb yo n yc X Y : Nat) (w : World) (hz : Ow w z) (hu : Ow w u) (hx : NtAt w xb xo xn xc X) (hy : NtAt w yb yo n yc Y)
    (hn2 : 2 ≤ n) (hnx : n ≤ xn) (hxn : xn ≤ 900) (hn40 : n < 40) (hs : Sk w s st) (hl : skLen st ≤ 5000) (hzu : Ab z u) (hux : Ab u (.slice (some ⟨xb, xo, none⟩) xn xc))
    (hzs : SkAp s st z) (hus : SkAp s st u) (hxs : SkAp s st (.slice (some ⟨xb, xo, none⟩) xn xc)) (hys : SkAp s st (.slice (some ⟨yb, yo, none⟩) n yc)) (hg : Glob w) :
    Calls Tryz.prog 180 #[z, .pointer (some ⟨s, 0, none⟩), u, .slice (some ⟨xb, xo, none⟩) xn xc, .slice (some ⟨yb, yo, none⟩) n yc] w fun e w' => ∃ q r, e = .returned (.tuple #[q, r]) ∧ DivRes w w' s st z u q r X Y := by
  have h17 := hg.size
  have hxle := hx.1.le
  have hyle := hy.1.le
  have hy1W := (hy.1.isW (n - 1) (by omega)).lt
  have cy1 := (hy.1.isW (n - 1) (by omega)).cell
  have hy1p : wd w yb (yo + (n - 1)) ≠ 0 := hy.2.2.resolve_left (by omega)
  obtain ⟨y1, hy1⟩ : ∃ y1, y1 = wd w yb (yo + (n - 1)) := ⟨_, rfl⟩
  rw [← hy1] at hy1W cy1 hy1p
  obtain ⟨nb1, nb2⟩ := norm_bounds (y := y1) (by omega) hy1W
  have HNlz := nlz y1 hy1W w
  obtain ⟨sh, hsh⟩ : ∃ sh, sh = 64 - Lib.bitLen y1 := ⟨_, rfl⟩
  have hb1 := (bitLen_spec hy1p hy1W).2.1
  have nb3 : (y1 + 1) * 2 ^ sh ≤ WB := by
    obtain ⟨b1, -, -, b4⟩ := bitLen_spec hy1p hy1W
    have : (y1 + 1) * 2 ^ sh ≤ 2 ^ Lib.bitLen y1 * 2 ^ sh := Nat.mul_le_mul_right _ b4
    rw [← Nat.pow_add, show Lib.bitLen y1 + sh = 64 by omega] at this
    rw [WB_eq]; exact this
  rw [← hsh] at nb1 nb2 HNlz
  have hsh64 : sh < 64 := by omega
  have HNl := Lib.hid HNlz
  have HSave := Lib.hid (stk_save s st w hs)
  have HNat := Lib.hid (stk_nat s st n w hs (by omega) (by omega) h17)
  have HZ := Lib.hid (And.intro hz (And.intro hzu hzs))
  have HU := Lib.hid (And.intro hu (And.intro hux hus))
  have HX := Lib.hid (And.intro hx hxs)
  have HY := Lib.hid (And.intro hy hys)
  have HS := Lib.hid (And.intro hs hg)
  have HNB := Lib.hid (And.intro nb3 (And.intro nb2 hy1))
  have zn1 : ((n : Int) - 1).toNat = n - 1 := by omega
  have i1 : (n : Int) - 1 < (n : Int) := by omega
  have i2 : 0 ≤ (n : Int) - 1 := by omega
  clear hz hu hx hy hs hzu hux hzs hus hxs hys hg nb3 nb1 nb2 hy1 hsh hb1 HNlz hy1p
  go_enter_defers Tryz.func180, Tryz.ntmps180
  go_wp2_with fail
  refine HSave.out.mono ?_
  rintro e w0 ⟨rfl, rfl⟩
  go_wp2_with fail
  refine HNl.out.mono ?_
  rintro e w0 ⟨rfl, rfl⟩
  have hw0 : w.drewN 0 = w := rfl
  rw [hw0]
  clear hw0
  go_wp2_with fail
  refine HNat.out.mono ?_
  rintro e w1 ⟨vb, vo, vc, st1, rfl, hnew⟩
  have HN := Lib.hid hnew
  have hvle := hnew.nw.le
  have h171 : 17 ≤ w1.heap.size := Nat.le_trans h17 hnew.chg.size
  have HMk := Lib.hid (nat_make u (xn + 1) w1 (HU.out.1.chg hnew.chg) (by omega) (by omega) h171)
  clear hnew cy1
  go_wp2_with fail
  refine HMk.out.mono ?_
  rintro e w2 ⟨ub, uo, uc, rfl, hN, hc2, hfrom⟩
  have hule := hN.le
  have hsz1 := HN.out.chg.size
  have hub : (Fp u ub uo ∧ ub < w.heap.size ∧ ∀ o, Rng ub uo uc ub o → Fp u ub o) ∨ ub = w1.heap.size := by
    rcases hfrom with ⟨-, m', e⟩ | e
    · left
      have hf : ∀ o, Rng ub uo uc ub o → Fp u ub o := fun o f => by rw [e]; exact f
      have h0 := hf uo ⟨rfl, Nat.le_refl _, by omega⟩
      exact ⟨h0, Fp.lt HU.out.1 h0, hf⟩
    · exact .inr e
  have hvS : SkF s st vb vo ∨ w.heap.size ≤ vb := (HN.out.own vb vo ⟨rfl, Nat.le_refl _, by omega⟩).imp SkT.f id
  have hubS : ∀ p, ¬ SkF s st1 ub p := fun p f => by
    rcases hub with ⟨h1, h2, -⟩ | h1
    · rcases HN.out.rel.f f with g | g
      · exact HU.out.2.2 _ _ h1 p g
      · omega
    · have := (HN.out.sk.lt f).1; omega
  have hvlt := HN.out.nw.lt
  have hxlt := HX.out.1.1.lt
  have hylt := HY.out.1.1.lt
  have hubv : ub ≠ vb := by
    rintro rfl
    rcases hub with ⟨h1, h2, -⟩ | h1
    · rcases hvS with g | g
      · exact HU.out.2.2 _ _ h1 _ g
      · omega
    · omega
  have hubx : ub ≠ xb := by
    rcases hub with ⟨h1, -, -⟩ | h1
    · exact HU.out.2.1 _ _ xb xo h1 (fp0 (by omega))
    · omega
  have hvx : vb ≠ xb := by
    rintro rfl
    rcases hvS with g | g
    · exact HX.out.2 vb xo (fp0 (by omega)) _ g
    · omega
  have hvy : vb ≠ yb := by
    rintro rfl
    rcases hvS with g | g
    · exact HY.out.2 vb yo (fp0 (by omega)) _ g
    · omega
  have X2 := Lib.hid ((HX.out.1.keep HN.out.chg (fun i hi f => HX.out.2 xb xo (fp0 (by omega)) _ (SkT.f f))).keep hc2 (fun _ _ f => f))
  have Y2 := Lib.hid ((HY.out.1.keep HN.out.chg (fun i hi f => HY.out.2 yb yo (fp0 (by omega)) _ (SkT.f f))).keep hc2 (fun _ _ f => f))
  have V2 := Lib.hid (HN.out.nw.chg hc2)
  have U2 := Lib.hid hN
  have K2 := Lib.hid ((HN.out.chg).then hc2.no (fun _ _ _ f => f))
  have S2 := Lib.hid (HN.out.sk.chg hc2 (fun _ _ _ f => f))
  have HB := Lib.hid (And.intro hub (And.intro hvS (And.intro hubS (And.intro hubv (And.intro hubx (And.intro hvx hvy))))))
  have hsz2 := hc2.size
  have HY1 : Hid (wd w2 yb (yo + (n - 1)) = y1) := Lib.hid (by
    rw [HNB.out.2.2]
    exact (wd_congr (hc2.cell _ _ (by omega) (fun f => f))).trans (wd_congr (HN.out.chg.cell _ _ hylt (fun f => HY.out.2 yb yo (fp0 (by omega)) _ (SkT.f f))))
  )
  clear hub hvS hubS hubv hubx hvx hvy hfrom hN hc2 hvlt hxlt hylt
  have HFin : Hid (∀ wx, Val wx vb vo n = Y * 2 ^ sh → Val wx ub uo (xn + 1) = X * 2 ^ sh → Chg (fun x o => Rng vb vo n x o ∨ Rng ub uo (xn + 1) x o) w2 wx → WB ≤ 2 * wd wx vb (vo + (n - 1)) ∧ wd wx ub (uo + xn) < wd wx vb (vo + (n - 1))) := Lib.hid fun wx h1 h2 h3 => by
    have r1 := Val_succ wx vb vo (n - 1)
    have r2 := Val_succ w2 yb yo (n - 1)
    have r3 := Val_succ wx ub uo xn
    rw [show n - 1 + 1 = n by omega] at r1 r2
    rw [Y2.out.2.1] at r2
    rw [h1] at r1
    rw [h2] at r3
    have e1 : wd w2 yb (yo + (n - 1)) = y1 := HY1.out
    rw [e1] at r2
    have b1 : Val wx vb vo (n - 1) < WB ^ (n - 1) := Val_lt fun i hi => h3.isW _ _ (V2.out.isW i (by omega))
    have b2 : X < WB ^ xn := by rw [← X2.out.2.1]; exact Val_lt fun i hi => X2.out.1.isW i (by omega)
    exact dl_top HNB.out.2.1 r2 r1 b1 b2 r3
  go_upto_if 40 with fail
  go_cut [] from 39 to 68 (fun wx => Hid (Val wx vb vo n = Y * 2 ^ sh) ∧ Hid (Val wx ub uo (xn + 1) = X * 2 ^ sh) ∧ Hid (Chg (fun x o => Rng vb vo n x o ∨ Rng ub uo (xn + 1) x o) w2 wx))
  case first =>
    by_cases h0 : sh = 0
    · have t0 : ((sh : Int) == 0) = true := by rw [h0]; rfl
      have hyw : ∀ i, i < n → IsW w2 yb (yo + i) := fun i hi => Y2.out.1.isW i (by omega)
      have hwv := V2.out.wr 0 n (by omega)
      rw [Nat.add_zero] at hwv
      have H0 := Lib.hid h0
      have i3 : (xn : Int) ≤ (uc : Int) := by omega
      have i4 : (xn : Int) < (xn : Int) + 1 := by omega
      clear h0
      go_upto_region 8 with fail
      go_wp2_with (first
        | (refine wpList_copyW rfl (.tmp 41) (.tmp 42) 85 85 rfl 149 Tryz.underlying85 (by kernel_rfl) vb vo n vc yb yo n yc rfl rfl n (by simp) hyw hwv ?_; intro w3 hc3 hv3; have HC3 := Lib.hid hc3; have hxw : ∀ i, i < xn → IsW w3 xb (xo + i) := (fun i hi => HC3.out.isW _ _ (X2.out.1.isW i (by omega))); have hwu : Wr w3 ub uo xn := (by have := (U2.out.chg HC3.out).wr 0 xn (by omega); rw [Nat.add_zero] at this; exact this); clear hc3)
        | (refine wpList_copyW rfl (.tmp 47) (.tmp 48) 85 85 rfl 149 Tryz.underlying85 (by kernel_rfl) ub uo xn uc xb xo xn xc rfl rfl xn (by simp) hxw hwu ?_; intro w4 hc4 hv4; have HC4 := Lib.hid hc4; have cz := (((U2.out.chg HC3.out).chg HC4.out).isW xn (by omega)).cell; have fz := ((U2.out.chg HC3.out).chg HC4.out).plain.free (uo + xn); clear hc4))
      go_meet
      have kf := Chg.setW (S := fun x o => Rng vb vo n x o ∨ Rng ub uo (xn + 1) x o) ((HC3.out.mono (fun x o _ f => .inl f)).then HC4.out (fun x o _ f => .inr ⟨f.1, f.2.1, by have := f.2.2; omega⟩)) (((U2.out.chg HC3.out).chg HC4.out).isW xn (by omega)) (show 0 < WB by decide) (fun _ => .inr ⟨rfl, by omega, by omega⟩)
      have hz0 : wd (w4.setCell ⟨ub, uo + xn, none⟩ (.int .u64 0)) ub (uo + xn) = 0 := wd_setCell_same (k := .u64) (n := 0) cz
      refine ⟨Lib.hid ?_, Lib.hid ?_, Lib.hid kf⟩
      · rw [H0.out, Nat.pow_zero, Nat.mul_one, ← Y2.out.2.1]
        exact Val_congr2 fun i hi => (wd_setCell_ne (.inl (fun e => HB.out.2.2.2.1 e.symm))).trans ((wd_congr (HC4.out.cell _ _ (V2.out.chg HC3.out).lt (fun f => HB.out.2.2.2.1 f.1.symm))).trans (hv3.out i hi))
      · rw [H0.out, Nat.pow_zero, Nat.mul_one, ← X2.out.2.1, Val_succ, hz0, Nat.zero_mul, Nat.add_zero]
        exact Val_congr2 fun i hi => (wd_setCell_ne (.inr (by omega))).trans ((hv4.out i hi).trans (wd_congr (HC3.out.cell _ _ X2.out.1.lt (fun f => HB.out.2.2.2.2.2.1 f.1.symm))))
    · have t0 : ((sh : Int) == 0) = false := beq_eq_false_iff_ne.2 (by omega)
      have hsp : 0 < sh := by omega
      have hwv := V2.out.wr 0 n (by omega)
      rw [Nat.add_zero] at hwv
      have HL1 := Lib.hid (lshVU vb vo vc yb yo yc n sh w2 (by omega) (by omega) hsp hsh64 hwv (fun i hi => Y2.out.1.isW i (by omega)) (.inl (fun e => HB.out.2.2.2.2.2.2 e.symm)))
      have i3 : (xn : Int) ≤ (uc : Int) := by omega
      have i4 : (xn : Int) < (xn : Int) + 1 := by omega
      clear h0
      go_wp2_with fail
      refine HL1.out.mono ?_
      rintro e w3 ⟨c3, rfl, -, hv3, hk3⟩
      have HK3 := Lib.hid hk3
      have HV3 : Hid (Val w3 vb vo n = Y * 2 ^ sh) := Lib.hid (by
        rw [Y2.out.2.1] at hv3
        have hYb : Y * 2 ^ sh < WB ^ n := by
          have r2 := Val_succ w2 yb yo (n - 1)
          rw [show n - 1 + 1 = n by omega, Y2.out.2.1, HY1.out] at r2
          have b1 : Val w2 yb yo (n - 1) < WB ^ (n - 1) := Val_lt fun i hi => Y2.out.1.isW i (by omega)
          have b2 : Y * 2 ^ sh < (y1 + 1) * WB ^ (n - 1) * 2 ^ sh := Nat.mul_lt_mul_of_pos_right (by rw [Nat.add_mul]; omega) (Nat.two_pow_pos _)
          have b3 : (y1 + 1) * 2 ^ sh * WB ^ (n - 1) ≤ WB * WB ^ (n - 1) := Nat.mul_le_mul_right _ HNB.out.1
          have b4 : (y1 + 1) * WB ^ (n - 1) * 2 ^ sh = (y1 + 1) * 2 ^ sh * WB ^ (n - 1) := by rw [Nat.mul_assoc, Nat.mul_comm (WB ^ (n - 1)), ← Nat.mul_assoc]
          have b5 : WB * WB ^ (n - 1) = WB ^ n := by
            have e : n = (n - 1) + 1 := by omega
            conv => rhs; rw [e, Nat.pow_succ, Nat.mul_comm]
          omega
        rcases Nat.eq_zero_or_pos c3 with e | e
        · rw [e, Nat.zero_mul, Nat.add_zero] at hv3; exact hv3
        · have : 1 * WB ^ n ≤ c3 * WB ^ n := Nat.mul_le_mul_right _ e
          omega)
      have U3 := U2.out.chg hk3
      have hwu := U3.wr 0 xn (by omega)
      rw [Nat.add_zero] at hwu
      have HX3 : Hid (Val w3 xb xo xn = X) := Lib.hid (by
        rw [← X2.out.2.1]
        exact Val_congr fun i hi => wd_congr (hk3.cell _ _ X2.out.1.lt (fun f => HB.out.2.2.2.2.2.1 f.1.symm)))
      have HL2 := Lib.hid (lshVU ub uo uc xb xo xc xn sh w3 (by omega) (by omega) hsp hsh64 hwu (fun i hi => hk3.isW _ _ (X2.out.1.isW i (by omega))) (.inl (fun e => HB.out.2.2.2.2.1 e.symm)))
      have HU3 := Lib.hid U3
      clear hv3 hk3 U3 hwu hwv HL1
      go_wp2_with fail
      refine HL2.out.mono ?_
      rintro e w4 ⟨c4, rfl, hc4, hv4, hk4⟩
      have U4 := HU3.out.chg hk4
      have cz := (U4.isW xn (by omega)).cell
      have fz := U4.plain.free (uo + xn)
      have HV4 := Lib.hid hv4
      have HC4 := Lib.hid hk4
      clear hv4 hk4
      go_wp2_with fail
      go_meet
      have kf := Chg.setW (S := fun x o => Rng vb vo n x o ∨ Rng ub uo (xn + 1) x o) ((HK3.out.mono (fun x o _ f => .inl f)).then HC4.out (fun x o _ f => .inr ⟨f.1, f.2.1, by have := f.2.2; omega⟩)) (U4.isW xn (by omega)) hc4 (fun _ => .inr ⟨rfl, by omega, by omega⟩)
      refine ⟨Lib.hid ?_, Lib.hid ?_, Lib.hid kf⟩
      · rw [← HV3.out]
        exact Val_congr fun i hi => (wd_setCell_ne (.inl (fun e => HB.out.2.2.2.1 e.symm))).trans (wd_congr (HC4.out.cell _ _ (V2.out.chg HK3.out).lt (fun f => HB.out.2.2.2.1 f.1.symm)))
      · rw [Val_succ, wd_setCell_same cz, show Val (w4.setCell ⟨ub, uo + xn, none⟩ (.int .u64 c4)) ub uo xn = Val w4 ub uo xn from Val_congr fun i hi => wd_setCell_ne (.inr (by omega)), HV4.out, HX3.out]
  case rest =>
    obtain ⟨hv3, hu3, hk3⟩ := hcut
    generalize wc = w3 at *
    have hU3 : Ow w3 (.slice (some ⟨ub, uo, none⟩) (xn + 1) uc) := .inr ⟨ub, uo, xn + 1, uc, rfl, U2.out.chg hk3.out⟩
    have hZ3 : Ow w3 z := (HZ.out.1.chg K2.out).chg hk3.out
    have hab : Ab z (.slice (some ⟨ub, uo, none⟩) (xn + 1) uc) := by
      intro b o b' o' f f'
      obtain rfl : b' = ub := f'.1
      rcases HB.out.1 with ⟨h1, -, -⟩ | h1
      · exact HZ.out.2.1 b o b' uo f h1
      · have := Fp.lt HZ.out.1 f; omega
    have HAl := Lib.hid (alias_ab z _ w3 hZ3 hU3 hab)
    have HAB := Lib.hid hab
    clear hU3 hZ3 hab
    go_wp2_with fail
    refine HAl.out.mono ?_
    rintro e w4 ⟨m, rfl, hw4⟩
    have hk4 : Chg No w3 w4 := by rw [hw4]; exact (Chg.refl _ _).drewN m
    obtain ⟨mq, hmq⟩ : ∃ mq, mq = xn - n + 1 := ⟨_, rfl⟩
    have zmq : (xn : Int) - (n : Int) + 1 = (mq : Int) := by omega
    have HZ4 := (((HZ.out.1.chg K2.out).chg hk3.out).chg hk4)
    have HMq := Lib.hid (nat_make z mq w4 HZ4 (by omega) (by omega) (by have := hk3.out.size; have := hk4.size; omega))
    have K4 := Lib.hid (hk3.out.then hk4 (fun _ _ _ f => f.elim))
    have hk4s := K4.out.size
    have HK4 := Lib.hid hk4
    have hmq0 : 0 < mq := by omega
    have HMQ := Lib.hid hmq
    clear hw4 hk4 HZ4 HAl hmq
    go_wp2_with fail
    refine HMq.out.mono ?_
    rintro e w5 ⟨qb, qo, qc, rfl, hQN, hc5, hfq⟩
    have hqle := hQN.le
    have hmq := HMQ.out
    have hqz : (Fp z qb qo ∧ qb < w.heap.size ∧ ∀ o, Rng qb qo qc qb o → Fp z qb o) ∨ qb = w4.heap.size := by
      rcases hfq with ⟨-, m', e⟩ | e
      · left
        have hf : ∀ o, Rng qb qo qc qb o → Fp z qb o := fun o f => by rw [e]; exact f
        have h0 := hf qo ⟨rfl, Nat.le_refl _, by omega⟩
        exact ⟨h0, Fp.lt HZ.out.1 h0, hf⟩
      · exact .inr e
    have S5 := Lib.hid ((S2.out.chg K4.out (fun x o hx f => by
      rcases f with f | f
      · exact HN.out.out x o ⟨f.1, f.2.1, by have := f.2.2; omega⟩ (SkC.t hx o)
      · exact HB.out.2.2.1 o (by rw [← f.1]; exact SkC.f hx o))).chg hc5 (fun _ _ _ f => f))
    have hvlt : vb < w4.heap.size := by have := V2.out.lt; omega
    have hult : ub < w4.heap.size := by have := U2.out.lt; omega
    have hqu : qb ≠ ub := by
      rintro rfl
      rcases hqz with ⟨h1, -, -⟩ | h1
      · exact HAB.out _ _ qb uo h1 (fp0 (by omega)) rfl
      · omega
    have hqv : qb ≠ vb := by
      rintro rfl
      rcases hqz with ⟨h1, h2, -⟩ | h1
      · rcases HB.out.2.1 with g | g
        · exact HZ.out.2.2 _ _ h1 _ g
        · omega
      · omega
    have hqS : ∀ x p, SkF s st1 x p → x ≠ qb ∧ x ≠ ub := by
      intro x p f
      refine ⟨?_, ?_⟩
      · rintro rfl
        rcases hqz with ⟨h1, h2, -⟩ | h1
        · rcases HN.out.rel.f f with g | g
          · exact HZ.out.2.2 _ _ h1 p g
          · omega
        · have := (HN.out.sk.lt f).1
          omega
      · rintro rfl
        exact HB.out.2.2.1 p f
    have hvl3 := (V2.out.chg hk3.out).lt
    have hul3 := (U2.out.chg hk3.out).lt
    have hv5 : Val w5 vb vo n = Y * 2 ^ sh := by
      rw [← hv3.out]
      exact Val_congr fun i hi => wd_congr ((hc5.cell _ _ hvlt (fun f => f)).trans (HK4.out.cell _ _ hvl3 (fun f => f)))
    have hu5 : Val w5 ub uo (xn + 1) = X * 2 ^ sh := by
      rw [← hu3.out]
      exact Val_congr fun i hi => wd_congr ((hc5.cell _ _ hult (fun f => f)).trans (HK4.out.cell _ _ hul3 (fun f => f)))
    have ht5 : WB ≤ 2 * wd w5 vb (vo + (n - 1)) ∧ wd w5 ub (uo + xn) < wd w5 vb (vo + (n - 1)) := HFin.out w5 hv5 hu5 (K4.out.then hc5 (fun _ _ _ f => f.elim))
    have hg5 : Glob w5 := ((HS.out.2.chg K2.out (fun b o f => (HS.out.1.lt (SkT.f f)).2)).chg K4.out (fun b o f => by
      rcases f with f | f
      · rw [f.1]; exact V2.out.own
      · rw [f.1]; exact U2.out.own)).no hc5
    have c6 : w5.cell? ⟨6, 0, none⟩ = some (.int .i64 40) := hg5.cell 6 0 _ rfl
    have i5 : (n : Int) < 40 := by omega
    have HDv := Lib.hid (divBasic_ok qb qo mq qc s ub uo uc vb vo n vc (xn + 1) st1 w5 (by omega) hQN ((U2.out.chg K4.out).chg hc5) ((V2.out.chg K4.out).chg hc5) hn2 (by omega) hmq0 (by omega) S5.out (by have := HN.out.hi; omega) hqu hqv (fun e => HB.out.2.2.2.1 e) hqS (fun i hi => HN.out.out _ _ ⟨rfl, by omega, by omega⟩) ht5.1 (by rw [show mq + n - 1 = xn by omega]; exact ht5.2) hg5.size)
    have HV5 := Lib.hid (And.intro hv5 hu5)
    have HQ := Lib.hid (And.intro hqz (And.intro hqu (And.intro hqv hqS)))
    have HQN := Lib.hid hQN
    have K5 := Lib.hid (K4.out.then hc5 (fun _ _ _ f => f.elim))
    have G5 := Lib.hid hg5
    clear hqz hqu hqv hqS hv5 hu5 ht5 hg5 hQN hc5 hfq HMq hmq zmq
    go_wp2_with fail
    refine HDv.out.mono ?_
    rintro e w6 ⟨rfl, d1, d2, ⟨st2, d3, d4, d5⟩, d6⟩
    have D1 := Lib.hid (And.intro d1 d2)
    have D3 := Lib.hid (And.intro d3 (And.intro d4 d5))
    have D6 := Lib.hid d6
    have HQ6 := HQN.out.chg d6
    have hmqb : mq ≤ 1000 := by have := HMQ.out; omega
    have HNq := Lib.hid (nat_norm qb qo mq qc w6 (HQ6.len (by have := HQN.out.le; omega)) (by omega))
    clear d1 d2 d3 d4 d5 d6 HQ6 HDv
    go_wp2_with fail
    refine HNq.out.mono ?_
    rintro e w7 ⟨kq, rfl, hq7, hkq, rfl⟩
    have HQ7 := Lib.hid hq7
    have U6 := Lib.hid (((U2.out.chg K5.out)).chg D6.out)
    clear hq7
    go_upto_if 92 with fail
    go_cut [] from 91 to 96 (fun wx => Hid (∃ e, Val wx ub uo (xn + 1) * 2 ^ sh + e = Val w6 ub uo (xn + 1) ∧ e < 2 ^ sh) ∧ Hid (Chg (Rng ub uo (xn + 1)) w6 wx))
    case first =>
      by_cases h0 : sh = 0
      · have t0 : ((sh : Int) == 0) = true := by rw [h0]; rfl
        have H0 := Lib.hid h0
        clear h0
        go_wp2_with fail
        go_meet
        exact ⟨Lib.hid ⟨0, by rw [H0.out, Nat.pow_zero, Nat.mul_one, Nat.add_zero], Nat.two_pow_pos _⟩, Lib.hid (Chg.refl _ _)⟩
      · have t0 : ((sh : Int) == 0) = false := beq_eq_false_iff_ne.2 (by omega)
        have hsp : 0 < sh := by omega
        have hwu := U6.out.wr 0 (xn + 1) (by omega)
        rw [Nat.add_zero] at hwu
        have HR := Lib.hid (rshVU ub uo uc ub uo uc (xn + 1) sh w6 (by omega) (by omega) hsp hsh64 hwu hwu.isW (.inr (.inl (Nat.le_refl _))))
        clear h0 hwu
        go_wp2_with fail
        refine HR.out.mono ?_
        rintro e w8 ⟨c8, rfl, -, hv8, hk8⟩
        have HV8 := Lib.hid hv8
        have HK8 := Lib.hid hk8
        clear hv8 hk8
        go_wp2_with fail
        go_meet
        exact ⟨Lib.hid ⟨_, HV8.out, Nat.mod_lt _ (Nat.two_pow_pos _)⟩, HK8⟩
    case rest =>
      obtain ⟨hr7, hk7⟩ := hcut
      generalize wc = w7 at *
      have HNr := Lib.hid (nat_norm ub uo (xn + 1) uc w7 ((U6.out.chg hk7.out).len (by have := U6.out.le; omega)) (by omega))
      go_wp2_with fail
      refine HNr.out.mono ?_
      rintro e w8 ⟨kr, rfl, hr8, hkr, rfl⟩
      have HR8 := Lib.hid hr8
      clear hr8
      go_wp2_with fail
      obtain ⟨d3, d4, d5⟩ := D3.out
      have hult7 : ub < w5.heap.size := (U2.out.chg K5.out).lt
      have hqlt7 : qb < w5.heap.size := HQN.out.lt
      have hcu : ∀ x, SkF s st2 x 0 → x ≠ qb ∧ x ≠ ub := fun x f => by
        rcases d5.f f with g | g
        · exact HQ.out.2.2.2 _ _ g
        · omega
      have hcuA : ∀ x p, SkF s st2 x p → x ≠ qb ∧ x ≠ ub := fun x p f => by
        rcases d5.f f with g | g
        · exact HQ.out.2.2.2 _ _ g
        · omega
      have hsk7 : Sk w7 s st2 := d3.chg hk7.out (fun x o hx f => (hcuA x 0 (SkC.f hx 0)).2 f.1)
      have hle2 : skLen st ≤ skLen st2 := by rw [d4]; exact HN.out.lo
      have hrel : SkR w.heap.size st st2 := HN.out.rel.trans d5 (by have := K5.out.size; omega)
      refine leaves_cons (f := 167) (args := #[.pointer (some ⟨s, 0, none⟩), .int .i64 (skLen st : Nat)]) (by simp) (by simp [go_sem]) ?_
      refine (stk_restore_d s (skLen st) st2 w7 .returning hsk7 hle2).mono ?_
      rintro e u' w8 ⟨rfl, rfl, hsk8, hck⟩
      have hck2 : ∀ (b : Nat) (i : Nat), (b = qb ∨ b = ub) → ¬ SkC s st2 b := fun b i h f => by
        have := hcuA b 0 (SkC.f f 0)
        rcases h with h | h
        · exact this.1 h
        · exact this.2 h
      have q8 := (HQ7.out.keep hk7.out (fun i hi f => HQ.out.2.1 f.1)).keep hck (fun i hi f => hck2 _ i (.inl rfl) f)
      have r8 := HR8.out.keep hck (fun i hi f => hck2 _ i (.inr rfl) f)
      obtain ⟨e0, hr1, hr2⟩ := hr7.out
      obtain ⟨hA, hQ⟩ := dl_res (Q := Val w6 qb qo mq) (by have := D1.out.1; rw [HV5.out.1, HV5.out.2] at this; exact this) (by have := D1.out.2; rw [HV5.out.1] at this; exact this) hr1 hr2
      rw [hQ] at q8
      rw [hA] at r8
      have hsz5 := K5.out.size
      refine ⟨_, results_tmp2 (t := 10) (u := 11) rfl _ _ _, .slice (some ⟨qb, qo, none⟩) kq qc, .slice (some ⟨ub, uo, none⟩) kr uc, rfl, q8.nt, r8.nt, ?_, ?_, ?_, ⟨skCut (skLen st) st2, hsk8, skLen_cut hrel, hrel.cut _, ?_, ?_⟩, ?_⟩
      · intro b o f
        obtain rfl : b = qb := f.1
        rcases HQ.out.1 with ⟨-, -, h3⟩ | h1
        · exact .inl (h3 o f)
        · exact .inr (by omega)
      · intro b o f
        obtain rfl : b = ub := f.1
        rcases HB.out.1 with ⟨-, -, h3⟩ | h1
        · exact .inl (h3 o f)
        · exact .inr (by omega)
      · intro b o b' o' f f' e
        exact HQ.out.2.1 (f.1.symm.trans (e.trans f'.1))
      · intro b o f p g
        exact (hcuA b p (SkF.cut.1 g)).1 f.1
      · intro b o f p g
        exact (hcuA b p (SkF.cut.1 g)).2 f.1
      · have hR : ∀ x o, x < w.heap.size → Rng ub uo (xn + 1) x o → Fp u x o := fun x o hx f => by
          rcases HB.out.1 with ⟨-, -, h3⟩ | h1
          · rw [f.1]; exact h3 o ⟨rfl, f.2.1, by have := f.2.2; omega⟩
          · have := f.1; omega
        refine ((((K2.out.mono (fun x o _ f => .inl f)).then K5.out (fun x o hx f => ?_)).then D6.out (fun x o hx f => ?_)).then hk7.out (fun x o hx f => .inr (.inr (hR x o hx f)))).then hck (fun x o hx f => ?_)
        · rcases f with f | f
          · rcases HN.out.own x o ⟨f.1, f.2.1, by have := f.2.2; omega⟩ with g | g
            · exact .inl g
            · omega
          · exact .inr (.inr (hR x o hx f))
        · rcases f with f | f | f
          · rcases HN.out.rel.t HN.out.lo f with g | g
            · exact .inl g
            · omega
          · rcases HQ.out.1 with ⟨-, -, h3⟩ | h1
            · exact .inr (.inl (by rw [f.1]; exact h3 o ⟨rfl, f.2.1, by have := f.2.2; have := HQN.out.le; omega⟩))
            · have := f.1; omega
          · exact .inr (.inr (hR x o hx f))
        · rcases hrel.t hle2 (SkC.t f o) with g | g
          · exact .inl g
          · omega
/-- Two results, one behind the other, neither of which uses the stack. -/
theorem divRes_two {w w1 w2 : World} {s : Nat} {st : Option (Nat × Option Addr × Nat × Nat)} {z u q r : Value} {X Y : Nat} (hz : Ow w z) (hu : Ow w u) (hs : Sk w s st) (hzu : Ab z u) (hzs : SkAp s st z) (hus : SkAp s st u)
    (h1 : Res w w1 z q (X / Y)) (h2 : Res w1 w2 u r (X % Y)) : DivRes w w2 s st z u q r X Y := by
  have hq1 : ∀ b o, Fp q b o → b < w1.heap.size := fun b o f => Fp.lt h1.nt.ow f
  have hsz := h1.chg.size
  have hfr : ∀ b o, Fp r b o → Fp u b o ∨ w1.heap.size ≤ b := h2.fp
  refine ⟨h1.nt.chg h2.chg (fun b o f g => ?_), h2.nt, h1.fp, fun b o f => (h2.fp b o f).imp id (fun h => by omega), ?_, ⟨st, (hs.chg h1.chg (fun x o hx f => hzs x o f 0 (SkC.f hx 0))).chg h2.chg (fun x o hx f => hus x o f 0 (SkC.f hx 0)), rfl, SkR.refl _ _, ?_, ?_⟩, ?_⟩
  · rcases h1.fp b o f with f' | f'
    · exact hzu b o b o f' g rfl
    · have := Fp.lt hu g; omega
  · intro b o b' o' f f' e
    subst e
    rcases h2.fp b o' f' with g | g
    · rcases h1.fp b o f with f2 | f2
      · exact hzu b o b o' f2 g rfl
      · have := Fp.lt hu g; omega
    · have := hq1 b o f; omega
  · intro b o f p g
    rcases h1.fp b o f with f2 | f2
    · exact hzs b o f2 p g
    · have := (hs.lt g).1; omega
  · intro b o f p g
    rcases h2.fp b o f with f2 | f2
    · exact hus b o f2 p g
    · have := (hs.lt g).1; omega
  · exact (h1.chg.mono (fun x o _ f => .inr (.inl f))).then h2.chg (fun x o _ f => .inr (.inr f))
set_option maxRecDepth 100000 in
set_option maxHeartbeats 4000000 in
theorem nat_div (z u x y : Value) (s : Nat) (st : Option (Nat × Option Addr × Nat × Nat)) (X Y : Nat) (w : World) (hz : Ow w z) (hu : Ow w u) (hx : Nt w x X) (hy : Nt w y Y) (hX : X < WB ^ 900) (hY : Y < WB ^ 39) (hY0 : Y ≠ 0)
    (hs : Sk w s st) (hl : skLen st ≤ 5000) (hzu : Ab z u) (hzx : AlB z x) (hux : Ab u x) (hzs : SkAp s st z) (hus : SkAp s st u) (hxs : SkAp s st x) (hys : SkAp s st y) (hg : Glob w) :
    Calls Tryz.prog 113 #[z, .pointer (some ⟨s, 0, none⟩), u, x, y] w fun e w' => ∃ q r, e = .returned (.tuple #[q, r]) ∧ DivRes w w' s st z u q r X Y := by
  have h17 := hg.size
  have hXS : Small X := small_of (by decide) hX
  have hYS : Small Y := small_of (by decide) hY
  obtain ⟨ya, n, yc, rfl, hn, hy0, hyl, hyn⟩ := hy.cases hYS
  have hn0 : 0 < n := by
    rcases Nat.eq_zero_or_pos n with e | e
    · exact absurd (hy0 e) hY0
    · exact e
  obtain ⟨hyg, yb, yo, rfl, hyv⟩ := hyn hn0
  have hn39 : n ≤ 39 := by
    rcases Nat.lt_or_ge 39 n with h | h
    · have : WB ^ 39 ≤ WB ^ (n - 1) := Nat.pow_le_pow_right WB_pos (by omega)
      omega
    · exact h
  have hynt : NtAt w yb yo n yc Y := by
    rcases hy with ⟨h, _⟩ | ⟨b, o, n', c', h, hh⟩
    · cases h
    · cases h; exact hh
  have hyle := hynt.1.le
  by_cases hn1 : n = 1
  · subst hn1
    have hYw : wd w yb yo = Y := by have := hynt.2.1; rwa [Val_one] at this
    have cy := (hynt.1.isW 0 (by omega)).cell
    have hYW : Y < WB := by have := (hynt.1.isW 0 (by omega)).lt; rw [Nat.add_zero, hYw] at this; exact this
    rw [Nat.add_zero, hYw] at cy
    have HD := Lib.hid (nat_divW z x X Y w hz hx hXS (by omega) hYW hzx h17)
    have HA := Lib.hid (And.intro hz (And.intro hu (And.intro hs (And.intro hzu (And.intro hzs hus)))))
    have HYW := Lib.hid hYW
    have HY0 := Lib.hid hY0
    clear hz hu hx hy hX hY hs hl hzu hzx hux hzs hus hxs hys hg hXS hYS hyg hyv hyn hynt hYw hYW hyl hy0 hY0
    go_enter Tryz.func113, Tryz.ntmps113
    go_wp2_with fail
    refine HD.out.mono ?_
    rintro e w1 ⟨q, rfl, hq⟩
    have HQ := Lib.hid hq
    obtain ⟨R, hR⟩ : ∃ R, R = X % Y := ⟨_, rfl⟩
    rw [← hR]
    have HR := Lib.hid hR
    have HSw := Lib.hid (nat_setWord u R w1 (HA.out.2.1.chg hq.chg) (by rw [hR]; exact Nat.lt_trans (Nat.mod_lt _ (by have := HY0.out; omega)) HYW.out) (Nat.le_trans h17 hq.chg.size))
    clear hq hR
    go_wp2_with fail
    refine HSw.out.mono ?_
    rintro e w2 ⟨r, rfl, hr⟩
    have HR2 := Lib.hid hr
    clear hr
    go_wp2_with fail
    go_ret2
    refine ⟨q, r, rfl, divRes_two HA.out.1 HA.out.2.1 HA.out.2.2.1 HA.out.2.2.2.1 HA.out.2.2.2.2.1 HA.out.2.2.2.2.2 HQ.out ?_⟩
    rw [← HR.out]; exact HR2.out
  · have t1 : ((n : Int) == 1) = false := beq_eq_false_iff_ne.2 (by omega)
    have t0 : ((n : Int) == 0) = false := beq_eq_false_iff_ne.2 (by omega)
    have HC := Lib.hid (nat_cmp x _ X Y w hx hy hXS hYS)
    by_cases hlt : X < Y
    · have HA := Lib.hid (And.intro hz (And.intro hu (And.intro hs (And.intro hzu (And.intro hzs hus)))))
      have hc : decide (cmpN X Y < 0) = true := by rw [cmpN_lt hlt]; rfl
      have HSt : Hid (∀ k, Calls Tryz.prog 156 #[u, x] (w.drewN k) fun e w' => ∃ r, e = .returned r ∧ Res w w' u r X) := Lib.hid (nat_set_d u x X w hu hx hXS h17)
      have HM := Lib.hid (And.intro (Nat.div_eq_of_lt hlt) (Nat.mod_eq_of_lt hlt))
      rcases hz with rfl | ⟨zb, zo, zn, zc, rfl, hzn⟩
      all_goals
        clear hu hx hy hX hY hs hl hzu hzx hux hzs hus hxs hys hg hXS hYS hyg hyv hyn hynt hyl hy0 hY0 hlt
        go_enter Tryz.func113, Tryz.ntmps113
        go_wp2_with fail
        refine HC.out.mono ?_
        rintro e w1 ⟨rfl, k, rfl⟩
        go_wp2_with fail
        refine (HSt.out k).mono ?_
        rintro e w2 ⟨r, rfl, hr⟩
        have HR2 := Lib.hid hr
        clear hr
        go_wp2_with fail
        go_ret2
        refine ⟨_, r, rfl, divRes_two (q := cut0 _) HA.out.1 HA.out.2.1 HA.out.2.2.1 HA.out.2.2.2.1 HA.out.2.2.2.2.1 HA.out.2.2.2.2.2 (w1 := w) (by rw [HM.out.1]; exact ⟨Nt.cut0 HA.out.1, fun b o h => .inl h.cut0, Chg.refl _ _⟩) ?_⟩
        rw [HM.out.2]; exact HR2.out
    · have hc : decide (cmpN X Y < 0) = false := by
        rcases Nat.lt_or_ge Y X with h | h
        · rw [cmpN_gt h]; rfl
        · obtain rfl : X = Y := by omega
          rw [cmpN_eq]; rfl
      obtain ⟨xa, xn, xc, rfl, hxn, hx0, hxl, hxnn⟩ := hx.cases hXS
      have hnx : n ≤ xn := by
        rcases Nat.lt_or_ge xn n with h | h
        · have : WB ^ xn ≤ WB ^ (n - 1) := Nat.pow_le_pow_right WB_pos (by omega)
          omega
        · exact h
      obtain ⟨hxg, xb, xo, rfl, hxv⟩ := hxnn (by omega)
      have hxnt : NtAt w xb xo xn xc X := by
        rcases hx with ⟨h, _⟩ | ⟨b, o, n', c', h, hh⟩
        · cases h
        · cases h; exact hh
      have hx900 : xn ≤ 900 := by
        obtain ⟨T, hT⟩ : ∃ T : Nat, T = 900 := ⟨_, rfl⟩
        rw [← hT] at hX
        rw [← hT]
        rcases Nat.lt_or_ge T xn with h | h
        · have : WB ^ T ≤ WB ^ (xn - 1) := Nat.pow_le_pow_right WB_pos (by omega)
          omega
        · exact h
      have HDL : Hid (∀ k, Calls Tryz.prog 180 #[z, .pointer (some ⟨s, 0, none⟩), u, .slice (some ⟨xb, xo, none⟩) xn xc, .slice (some ⟨yb, yo, none⟩) n yc] (w.drewN k) fun e w' => ∃ q r, e = .returned (.tuple #[q, r]) ∧ DivRes w w' s st z u q r X Y) := Lib.hid fun k => by
        have c0 := (Chg.refl No w).drewN k
        refine (divLarge_ok z u s st xb xo xn xc yb yo n yc X Y (w.drewN k) (hz.chg c0) (hu.chg c0) (hxnt.keep c0 (fun _ _ f => f)) (hynt.keep c0 (fun _ _ f => f)) (by omega) hnx hx900 (by omega) (hs.chg c0 (fun _ _ _ f => f)) hl hzu hux hzs hus hxs hys (hg.no c0)).mono ?_
        rintro e w' ⟨q, r, rfl, h⟩
        exact ⟨q, r, rfl, h.nq, h.nr, h.fq, h.fr, h.ab, h.sk, (c0.no (S := fun x o => SkT s st x o ∨ Fp z x o ∨ Fp u x o)).then h.chg (fun _ _ _ f => f)⟩
      clear hz hu hx hy hX hY hs hl hzu hzx hux hzs hus hxs hys hg hXS hYS hyg hyv hyn hynt hyl hy0 hY0 hlt hxnt hxg hxv hxnn hx0 hxl
      go_enter Tryz.func113, Tryz.ntmps113
      go_wp2_with fail
      refine HC.out.mono ?_
      rintro e w1 ⟨rfl, k, rfl⟩
      go_wp2_with fail
      refine (HDL.out k).mono ?_
      rintro e w2 ⟨q, r, rfl, hr⟩
      have HR2 := Lib.hid hr
      clear hr
      go_wp2_with fail
      go_ret2
      exact ⟨q, r, rfl, HR2.out⟩
set_option maxHeartbeats 1000000 in
theorem getStack_sk (w : World) (hs : 17 ≤ w.heap.size) : Calls Tryz.prog 94 #[] w fun e w' => e = .returned (.pointer (some ⟨w.heap.size, 0, none⟩)) ∧ Sk w' w.heap.size none ∧ w'.heap.size = w.heap.size + 1 ∧ Chg No w w' := by
  go_enter Tryz.func94, Tryz.ntmps94
  go_wp2_with fail
  go_ret
  exact ⟨rfl, ⟨hs, Plain.new _ _ _, World.cell?_alloc_new _ _ _ _⟩, by simp, (Chg.refl No w).alloc _⟩
set_option maxHeartbeats 1000000 in
theorem stk_free_d (s : Nat) (st : Option (Nat × Option Addr × Nat × Nat)) (w : World) (u : FrameMode) (h : Sk w s st) :
    CallsD Tryz.prog 95 #[.pointer (some ⟨s, 0, none⟩)] u w fun e u' w' => u' = u ∧ e = .returned (.tuple #[]) ∧ Sk w' s (skCut 0 st) ∧ Chg (fun x _ => SkC s st x) w w' := by
  match st, h with
  | none, h =>
    have HS := Lib.hid h
    obtain ⟨h1, h2, h3⟩ := h
    go_enter_d Tryz.func95, Tryz.ntmps95
    go_wp2_with fail
    go_end0
    exact ⟨rfl, HS.out, Chg.refl _ _⟩
  | some (i, A, n, c), h =>
    obtain ⟨h1, h2, h3, h4, h5, h6, h7, h8, h9⟩ := h
    have hf := h6.free 0
    have hin : Calls Tryz.prog 154 #[.pointer (some ⟨i, 0, none⟩)] w fun e w' => e = .returned (.tuple #[]) ∧ w.setCell ⟨i, 0, none⟩ (.slice A 0 c) = w' := by
      rcases h8 with e | ⟨b, o, n', c', e, hn⟩
      · cases e
        go_enter Tryz.func154, Tryz.ntmps154
        go_wp2_with fail
        go_end0
        exact ⟨rfl, rfl⟩
      · cases e
        have hle := hn.le
        have i1 : (0 : Int) ≤ c := by omega
        go_enter Tryz.func154, Tryz.ntmps154
        go_wp2_with fail
        go_end0
        exact ⟨rfl, rfl⟩
    have HI := Lib.hid hin
    have hc := cell_sl h7 (.slice A 0 c)
    have hs : Sk (w.setCell ⟨i, 0, none⟩ (.slice A 0 c)) s (skCut 0 (some (i, A, n, c))) := by
      refine ⟨h1, hc.plain _ h2, (hc.cell _ _ h2.lt (fun f => h5 f.symm)).trans h3, h4, h5, hc.plain _ h6, World.cell?_setCell_same _ _ _ h7, ?_, h9⟩
      rcases (h8.chg hc) with e | ⟨b, o, n', c', e, hn⟩
      · cases e
        exact .inl rfl
      · cases e
        exact .inr ⟨b, o, 0, c, rfl, hn.len (by omega)⟩
    have HC := Lib.hid (And.intro hc hs)
    clear hin h7 h8 h9 hc hs hf
    go_enter_d Tryz.func95, Tryz.ntmps95
    go_wp2_with fail
    refine HI.out.mono ?_
    rintro e w1 ⟨rfl, rfl⟩
    go_wp2_with fail
    go_end0
    exact ⟨rfl, HC.out.2, HC.out.1.mono (fun x o _ f => .inr f)⟩
/-- A reader of a text, and how far it has come. -/
def RdAt (w : World) (r : Nat) (l : List Nat) (i : Nat) : Prop :=
  (w.cell? ⟨r, 0, none⟩ = some (.string (txt l)) ∧ w.cell? ⟨r, 1, none⟩ = some (.int .i64 i) ∧ ∃ p : Int, w.cell? ⟨r, 2, none⟩ = some (.int .i64 p)) ∧ Plain w r ∧ 17 ≤ r
theorem RdAt.chg {S : Nat → Nat → Prop} {w w' : World} {r : Nat} {l : List Nat} {i : Nat} (h : RdAt w r l i) (hc : Chg S w w') (hs : ∀ o, ¬ S r o) : RdAt w' r l i := by
  obtain ⟨⟨h0, h1, p, h2⟩, h3, h4⟩ := h
  have hl := h3.lt
  exact ⟨⟨(hc.cell _ _ hl (hs _)).trans h0, (hc.cell _ _ hl (hs _)).trans h1, p, (hc.cell _ _ hl (hs _)).trans h2⟩, hc.plain _ h3, h4⟩
theorem setO_blk {w : World} {b o : Nat} {i : Int} (v : Value) (h : w.cell? ⟨b, o, none⟩ = some (.int .i64 i)) : Chg (Blk b) w (w.setCell ⟨b, o, none⟩ v) :=
  (Chg.refl _ w).setO v h (fun n e => by cases e) (fun n e => by cases e) (fun _ => rfl)
theorem RdAt.set2 {w : World} {r : Nat} {l : List Nat} {i : Nat} (h : RdAt w r l i) (v : Int) : RdAt (w.setCell ⟨r, 2, none⟩ (.int .i64 v)) r l i ∧ Chg (Blk r) w (w.setCell ⟨r, 2, none⟩ (.int .i64 v)) := by
  obtain ⟨⟨h0, h1, p, h2⟩, h3, h4⟩ := h
  exact ⟨⟨⟨(cell_setCell_ne _ _ _ _ _ _ (.inr (by decide))).trans h0, (cell_setCell_ne _ _ _ _ _ _ (.inr (by decide))).trans h1, v, World.cell?_setCell_same _ _ _ h2⟩, h3.setCell _ _, h4⟩, setO_blk _ h2⟩
theorem RdAt.set1 {w : World} {r : Nat} {l : List Nat} {i : Nat} (h : RdAt w r l i) (j : Nat) : RdAt (w.setCell ⟨r, 1, none⟩ (.int .i64 j)) r l j ∧ Chg (Blk r) w (w.setCell ⟨r, 1, none⟩ (.int .i64 j)) := by
  obtain ⟨⟨h0, h1, p, h2⟩, h3, h4⟩ := h
  exact ⟨⟨⟨(cell_setCell_ne _ _ _ _ _ _ (.inr (by decide))).trans h0, World.cell?_setCell_same _ _ _ h1, p, (cell_setCell_ne _ _ _ _ _ _ (.inr (by decide))).trans h2⟩, h3.setCell _ _, h4⟩, setO_blk _ h1⟩
set_option maxRecDepth 100000 in
theorem rdr_read (r : Nat) (l : List Nat) (i : Nat) (w : World) (h : RdAt w r l i) (hl : ∀ x ∈ l, x < 256) (hi : i < l.length) (hn : l.length ≤ 1000000) :
    Calls Tryz.prog 90 #[.pointer (some ⟨r, 0, none⟩)] w fun e w' => e = .returned (.tuple #[.int .u8 (l.getD i 0 : Nat), .nilIface]) ∧ RdAt w' r l (i + 1) ∧ Chg (Blk r) w w' := by
  have hq := h.set2 (-1)
  obtain ⟨⟨h0, h1, p, h2⟩, h3, h4⟩ := h
  have hf := h3.free
  have f2 := hf 2
  have hsz : (txt l).size = l.length := txt_size l
  have HS : Hid (∀ S : ByteArray, S = txt l → ∀ i (h : i < S.size), (S[i]'h).toNat = l.getD i 0) := Lib.hid (by rintro S rfl i h; exact txt_get h hl)
  have HQ := Lib.hid hq
  have i0 : (0 : Int) ≤ (i : Int) := by omega
  have wr1 : IntKind.i64.wrap ((i : Int) + 1) = ((i + 1 : Nat) : Int) := by rw [IntKind.wrap_i64]; omega
  clear hf h3 h0 h1 hl hq
  obtain ⟨S, hS⟩ : ∃ S, S = txt l := ⟨_, rfl⟩
  rw [← hS] at hsz
  have HSS := Lib.hid hS
  have sz1 : ¬ S.size ≤ i := by omega
  have sz2 : i < S.size := by omega
  obtain ⟨g, hg⟩ : ∃ g, g = l.getD i 0 := ⟨_, rfl⟩
  have HI : Hid (∀ h : i < S.size, (S[i]'h).toNat = g) := Lib.hid (by intro h; rw [hg]; exact HS.out S HSS.out i h)
  have hgi := HI.out sz2
  rw [← hg]
  clear hS hsz hg hi hn HS
  go_enter Tryz.func90, Tryz.ntmps90
  go_wp2_with fail
  generalize w.setCell ⟨r, 2, none⟩ (.int .i64 (-1)) = wa at *
  obtain ⟨⟨⟨h0, h1, q, h2b⟩, h3, -⟩, hk⟩ := HQ.out
  rw [← HSS.out] at h0
  go_region_held3 (fun W => W.cell? ⟨r, 0, none⟩ = some (.string S) ∧ W.cell? ⟨r, 1, none⟩ = some (.int .i64 i)) (first | assumption | exact ⟨h0, h1⟩) (fail)
  go_wp2_with fail
  obtain ⟨d0, d1⟩ := ‹_ ∧ _›
  go_region_held3 (fun W => W.cell? ⟨r, 0, none⟩ = some (.string S) ∧ W.cell? ⟨r, 1, none⟩ = some (.int .i64 i)) (first | assumption | exact ⟨d0, d1⟩) (fail)
  have f1 := h3.free 1
  go_wp2_with fail
  go_ret2
  have Q := HQ.out.1.set1 (i + 1)
  exact ⟨rfl, Q.1, hk.then Q.2.drew.drew (fun _ _ _ f => f)⟩
set_option maxRecDepth 100000 in
theorem rdr_eof (r : Nat) (l : List Nat) (V : Value) (w : World) (h : RdAt w r l l.length) (he : w.cell? ⟨0, 0, none⟩ = some V) (hn : l.length ≤ 1000000) :
    Calls Tryz.prog 90 #[.pointer (some ⟨r, 0, none⟩)] w fun e w' => e = .returned (.tuple #[.int .u8 0, V]) ∧ RdAt w' r l l.length ∧ Chg (Blk r) w w' := by
  have hq := h.set2 (-1)
  obtain ⟨⟨h0, h1, p, h2⟩, h3, h4⟩ := h
  have f2 := h3.free 2
  have hsz : (txt l).size = l.length := txt_size l
  have he2 : (w.setCell ⟨r, 2, none⟩ (.int .i64 (-1))).cell? ⟨0, 0, none⟩ = some V := (cell_setCell_ne _ _ _ _ _ _ (.inl (by omega))).trans he
  have HQ := Lib.hid hq
  clear h3 h0 h1 hq
  obtain ⟨S, hS⟩ : ∃ S, S = txt l := ⟨_, rfl⟩
  rw [← hS] at hsz
  have HSS := Lib.hid hS
  obtain ⟨i, hi⟩ : ∃ i, i = l.length := ⟨_, rfl⟩
  rw [← hi] at HQ hsz hn ⊢
  have sz1 : S.size ≤ i := by omega
  clear hS hsz hi hn he
  go_enter Tryz.func90, Tryz.ntmps90
  go_wp2_with fail
  generalize w.setCell ⟨r, 2, none⟩ (.int .i64 (-1)) = wa at *
  obtain ⟨⟨⟨h0, h1, q, h2b⟩, h3, -⟩, hk⟩ := HQ.out
  rw [← HSS.out] at h0
  go_region_held3 (fun W => W.cell? ⟨r, 0, none⟩ = some (.string S) ∧ W.cell? ⟨r, 1, none⟩ = some (.int .i64 i)) (first | assumption | exact ⟨h0, h1⟩) (fail)
  go_wp2_with fail
  have he3 : wa.drew.cell? ⟨0, 0, none⟩ = some V := he2
  go_region_held3 (fun W => W.cell? ⟨0, 0, none⟩ = some V) (first | assumption | exact he3) (fail)
  go_wp2_with fail
  go_ret2
  exact ⟨rfl, HQ.out.1.chg (Chg.refl No wa).drew.drew (fun _ f => f), hk.drew.drew⟩
set_option maxRecDepth 100000 in
theorem rdr_unread (r : Nat) (l : List Nat) (i : Nat) (w : World) (h : RdAt w r l (i + 1)) (hi : i < 1000000) :
    Calls Tryz.prog 356 #[.pointer (some ⟨r, 0, none⟩)] w fun e w' => e = .returned .nilIface ∧ RdAt w' r l i ∧ Chg (Blk r) w w' := by
  have hq := h.set2 (-1)
  obtain ⟨⟨h0, h1, p, h2⟩, h3, h4⟩ := h
  have f2 := h3.free 2
  have f1 := h3.free 1
  have HQ := Lib.hid hq
  have c1 : decide ((((i + 1 : Nat)) : Int) ≤ 0) = false := decide_eq_false (by omega)
  have wr1 : IntKind.i64.wrap (((i + 1 : Nat) : Int) - 1) = (i : Int) := by rw [IntKind.wrap_i64]; omega
  obtain ⟨k, hk⟩ : ∃ k : Nat, k = i + 1 := ⟨_, rfl⟩
  rw [← hk] at HQ h1 c1 wr1
  have c2 : ¬ k ≤ 0 := by omega
  have c3 : ¬ k = 0 := by omega
  clear h3 h0 hq hk hi
  go_enter Tryz.func356, Tryz.ntmps356
  go_wp2_with fail
  go_ret
  have Q := HQ.out.1.set1 i
  exact ⟨rfl, Q.1, HQ.out.2.then Q.2 (fun _ _ _ f => f)⟩
set_option maxRecDepth 100000 in
/-- A new reader. -/
theorem rdr_new (l : List Nat) (w : World) (h17 : 17 ≤ w.heap.size) :
    Calls Tryz.prog 88 #[.string (txt l)] w fun e w' => e = .returned (.pointer (some ⟨w.heap.size, 0, none⟩)) ∧ RdAt w' w.heap.size l 0 ∧ Chg No w w' := by
  have K := (Chg.refl No w).alloc (.cells #[.string (txt l), .int .i64 0, .int .i64 (-1)] 194)
  have R : RdAt (w.alloc (.cells #[.string (txt l), .int .i64 0, .int .i64 (-1)] 194)) w.heap.size l 0 := ⟨⟨World.cell?_alloc_new _ _ _ _, World.cell?_alloc_new _ _ _ _, -1, World.cell?_alloc_new _ _ _ _⟩, Plain.new _ _ _, h17⟩
  go_enter Tryz.func88, Tryz.ntmps88
  go_wp2_with fail
  go_ret
  exact ⟨rfl, R, K⟩
theorem meth_read (v : Value) (w : World) : (method 475 133 v "ReadByte").run Tryz.prog w = .ok (90, v) w := by kernel_rfl
theorem meth_unread (v : Value) (w : World) : (method 475 133 v "UnreadByte").run Tryz.prog w = .ok (356, v) w := by kernel_rfl
/-- What scanSign says at a byte g. -/
def SgOut (g r : Nat) (l : List Nat) (i : Nat) (w : World) (e : Ending) (w' : World) : Prop :=
  ∃ (b : Bool) (j : Nat), e = .returned (.tuple #[.bool b, .nilIface]) ∧ (g = 45 → b = true ∧ j = i + 1) ∧ (g = 43 → b = false ∧ j = i + 1) ∧ (g ≠ 45 → g ≠ 43 → b = false ∧ j = i) ∧ RdAt w' r l j ∧ Chg (Blk r) w w'
set_option maxRecDepth 100000 in
/-- The sign of a text. -/
theorem scan_sign (r : Nat) (l : List Nat) (i : Nat) (w : World) (h : RdAt w r l i) (hl : ∀ x ∈ l, x < 256) (hi : i < l.length) (hn : l.length ≤ 1000000) :
    Calls Tryz.prog 92 #[.iface 133 (.pointer (some ⟨r, 0, none⟩))] w (SgOut (l.getD i 0) r l i w) := by
  have H1 := Lib.hid (rdr_read r l i w h hl hi hn)
  have H2 : Hid (∀ W, RdAt W r l (i + 1) → _) := Lib.hid fun W hW => rdr_unread r l i W hW (by omega)
  have m1 := meth_read (.pointer (some ⟨r, 0, none⟩))
  have m2 := meth_unread (.pointer (some ⟨r, 0, none⟩))
  clear h hl hi hn
  obtain ⟨g, hg⟩ : ∃ g, g = l.getD i 0 := ⟨_, rfl⟩
  rw [← hg] at H1 ⊢
  clear hg
  go_enter Tryz.func92, Tryz.ntmps92
  go_wp2_with fail
  refine H1.out.mono ?_
  rintro e w1 ⟨rfl, hr1, hk1⟩
  by_cases h45 : g = 45
  · subst h45
    go_wp2_with fail
    go_ret2
    exact ⟨true, _, rfl, fun _ => ⟨rfl, rfl⟩, (fun h => by omega), (fun h => by omega), hr1, hk1⟩
  · by_cases h43 : g = 43
    · subst h43
      go_wp2_with fail
      go_ret2
      exact ⟨false, _, rfl, (fun h => by omega), (fun h => ⟨rfl, rfl⟩), (fun _ h => by omega), hr1, hk1⟩
    · have t1 : ((g : Int) == 45) = false := by simp; omega
      have t2 : ((g : Int) == 43) = false := by simp; omega
      go_wp2_with fail
      refine (H2.out w1 hr1).mono ?_
      rintro e w2 ⟨rfl, hr2, hk2⟩
      go_wp2_with fail
      go_ret2
      exact ⟨false, _, rfl, (fun h => by omega), (fun h => by omega), (fun _ _ => ⟨rfl, rfl⟩), hr2, hk1.then hk2 (fun _ _ _ f => f)⟩
theorem Vl_snoc (u : List Nat) (x : Nat) : Vl (u ++ [x]) = Vl u + x * WB ^ u.length := by
  induction u with
  | nil => rw [List.nil_append, Vl_cons]; simp [Vl, V]
  | cons y u ih =>
    rw [List.cons_append, Vl_cons, ih, Vl_cons, List.length_cons, Nat.pow_succ, Nat.mul_add, Nat.mul_left_comm, Nat.mul_comm WB (WB ^ u.length)]
    omega
/-- Digits of 16 bits packed into words, up to a digit. -/
def Pk (l u : List Nat) (i : Nat) : Prop := i ≤ l.length ∧ u.length = (i + 3) / 4 ∧ (∀ x ∈ u, x < WB) ∧ Vl u = Vb (l.take i)
theorem wb_pow4 (q : Nat) : WB ^ q = 65536 ^ (4 * q) := by rw [Nat.pow_mul]; rfl
theorem Vb_take_lt {l : List Nat} (h : ∀ d ∈ l, d < 65536) (i : Nat) : Vb (l.take i) < 65536 ^ i := by
  have h1 := Vb_lt (l := l.take i) (fun d hd => h d (List.mem_of_mem_take hd))
  exact Nat.lt_of_lt_of_le h1 (Nat.pow_le_pow_right (by decide) (by simp; omega))
theorem Pk.zero (l : List Nat) : Pk l [] 0 := ⟨Nat.zero_le _, rfl, by simp, by simp [Vl, V, Vb]⟩
theorem Pk.new {l u : List Nat} {i : Nat} (h : Pk l u i) (hi : i < l.length) (h4 : i % 4 = 0) (hl : ∀ d ∈ l, d < 65536) : Pk l (u ++ [l.getD i 0]) (i + 1) := by
  obtain ⟨h1, h2, h3, h4'⟩ := h
  have hd : l.getD i 0 < 65536 := dig_lt hl i
  have hlen : u.length = i / 4 := by omega
  refine ⟨hi, by rw [List.length_append, List.length_singleton]; omega, fun x hx => ?_, ?_⟩
  · rcases List.mem_append.1 hx with hx | hx
    · exact h3 x hx
    · rw [List.mem_singleton.1 hx]; exact Nat.lt_of_lt_of_le hd (by decide)
  · rw [Vl_snoc, Vb_take_succ, h4', hlen, wb_pow4, show 4 * (i / 4) = i by omega]
theorem split_last {u : List Nat} {q : Nat} (h : u.length = q + 1) : u = u.take q ++ [u.getD q 0] := by
  have h1 : u.take q ++ u.drop q = u := List.take_append_drop q u
  have h2 : u.drop q = [u.getD q 0] := by
    rw [List.drop_eq_getElem_cons (by omega), List.drop_of_length_le (by omega)]
    simp [List.getD, show q < u.length by omega]
  rw [← h2, h1]
theorem Pk.add {l u : List Nat} {i : Nat} (h : Pk l u i) (hi : i < l.length) (h4 : i % 4 ≠ 0) (hl : ∀ d ∈ l, d < 65536) :
    u.length = i / 4 + 1 ∧ u.getD (i / 4) 0 < 65536 ^ (i % 4) ∧ Pk l (u.set (i / 4) (u.getD (i / 4) 0 + l.getD i 0 * 65536 ^ (i % 4))) (i + 1) := by
  obtain ⟨h1, h2, h3, h4'⟩ := h
  have hd : l.getD i 0 < 65536 := dig_lt hl i
  have hlen : u.length = i / 4 + 1 := by omega
  obtain ⟨q, hq⟩ : ∃ q, q = i / 4 := ⟨_, rfl⟩
  obtain ⟨r, hr⟩ : ∃ r, r = i % 4 := ⟨_, rfl⟩
  rw [← hq, ← hr]
  rw [← hq] at hlen
  have hiq : i = 4 * q + r := by omega
  have hs := split_last hlen
  obtain ⟨a, ha⟩ : ∃ a, a = u.getD q 0 := ⟨_, rfl⟩
  obtain ⟨t, ht⟩ : ∃ t, t = u.take q := ⟨_, rfl⟩
  rw [← ha, ← ht] at hs
  have htl : t.length = q := by rw [ht, List.length_take]; omega
  have hV : Vl u = Vl t + a * 65536 ^ (4 * q) := by rw [hs, Vl_snoc, htl, wb_pow4]
  have hp : 0 < 65536 ^ (4 * q) := Nat.pow_pos (by decide)
  have hlt := Vb_take_lt hl i
  rw [← h4', hV, hiq, Nat.pow_add] at hlt
  have hlast : a < 65536 ^ r := by
    have h5 : a * 65536 ^ (4 * q) < 65536 ^ r * 65536 ^ (4 * q) := by rw [Nat.mul_comm (65536 ^ r)]; omega
    exact Nat.lt_of_mul_lt_mul_right h5
  rw [← ha]
  refine ⟨hlen, hlast, hi, by rw [List.length_set]; omega, fun x hx => ?_, ?_⟩
  · rcases List.mem_or_eq_of_mem_set hx with hx | rfl
    · exact h3 x hx
    · have h6 : (a + l.getD i 0 * 65536 ^ r) < 65536 ^ (r + 1) := by
        rw [Nat.pow_succ]
        have : l.getD i 0 * 65536 ^ r ≤ 65535 * 65536 ^ r := Nat.mul_le_mul_right _ (by omega)
        omega
      have h7 : 65536 ^ (r + 1) ≤ 65536 ^ 4 := Nat.pow_le_pow_right (by decide) (by omega)
      exact Nat.lt_of_lt_of_le h6 h7
  · have hset : u.set q (a + l.getD i 0 * 65536 ^ r) = t ++ [a + l.getD i 0 * 65536 ^ r] := by
      conv => lhs; rw [hs]
      rw [List.set_append_right _ _ (by omega), htl, Nat.sub_self]; rfl
    rw [hset, Vl_snoc, htl, wb_pow4, Vb_take_succ, ← h4', hV, Nat.add_mul, Nat.mul_assoc, ← Nat.pow_add, show r + 4 * q = i by omega]
    omega
end Go.Proofs.YtacfhndledcmgaaGreatDoor
