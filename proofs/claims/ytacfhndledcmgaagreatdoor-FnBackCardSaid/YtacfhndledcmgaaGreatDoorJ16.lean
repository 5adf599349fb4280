/- Lemmas for the law FnBack: convertWords with a table, itoa of all sizes. Conditions: those in each theorem; none besides. -/
import Derived.Test.YtacfhndledcmgaaGreatDoorJ15
import Derived.Test.YtacfhndledcmgaaGreatDoorJ14
import Derived.Test.YtacfhndledcmgaaGreatDoorJ4
import Derived.Deep.RegionHeld3
import Derived.Test.YtacfhndledcmgaaGreatDoorJ5
set_option linter.unusedVariables false
set_option linter.unusedSimpArgs false
namespace Go.Proofs.YtacfhndledcmgaaGreatDoor
open Go.RowKit
theorem dg_hi (X a j : Nat) : dg X (a + j) = dg (X / 10 ^ a) j := by
  unfold dg; rw [Nat.pow_add, Nat.div_div_eq_div_mul]
theorem dg_lo {Q d k : Nat} (hk : k < d) : dg (Q % 10 ^ d) k = dg Q k := by
  unfold dg
  rw [show 10 ^ d = 10 ^ k * 10 ^ (d - k) by rw [← Nat.pow_add, show k + (d - k) = d by omega], Nat.mod_mul_right_div_self, Nat.mod_mod_of_dvd]
  rw [show d - k = (d - k - 1) + 1 by omega, Nat.pow_succ]
  exact Nat.dvd_mul_left _ _
/-- A table of t divisors: its block and the numbers lie in blocks from tb to tc. -/
def CvT (w : World) (tb tc t : Nat) : Prop := tb < tc ∧ tc ≤ w.heap.size ∧ ∀ i, i < t → ∃ (v : Value) (d : Nat), w.cell? ⟨tb, i * 3, none⟩ = some v ∧ w.cell? ⟨tb, i * 3 + 1, none⟩ = some (.int .i64 (blen (10 ^ d) : Nat)) ∧ w.cell? ⟨tb, i * 3 + 2, none⟩ = some (.int .i64 d) ∧ Nt w v (10 ^ d) ∧ (∀ b o, Fp v b o → tb ≤ b ∧ b < tc) ∧ 10 ^ d < WB ^ 16 ∧ (i = 0 → 10 ^ d < WB ^ 8) ∧ 0 < d
theorem CvT.keep {S : Nat → Nat → Prop} {w w' : World} {tb tc t : Nat} (h : CvT w tb tc t) (hc : Chg S w w') (hS : ∀ x o, S x o → x < tb ∨ tc ≤ x) : CvT w' tb tc t := by
  obtain ⟨h1, h2, h3⟩ := h
  refine ⟨h1, Nat.le_trans h2 hc.size, fun i hi => ?_⟩
  obtain ⟨v, d, g1, g2, g3, g4, g5, g6⟩ := h3 i hi
  have hn : ∀ o, ¬ S tb o := fun o f => by have := hS _ _ f; omega
  have hl : tb < w.heap.size := by omega
  exact ⟨v, d, (hc.cell _ _ hl (hn _)).trans g1, (hc.cell _ _ hl (hn _)).trans g2, (hc.cell _ _ hl (hn _)).trans g3, g4.chg hc (fun b o f g => by have := g5 b o f; have := hS _ _ g; omega), g5, g6⟩
theorem CvT.sub {w : World} {tb tc t j : Nat} (h : CvT w tb tc t) (hj : j ≤ t) : CvT w tb tc j := ⟨h.1, h.2.1, fun i hi => h.2.2 i (by omega)⟩
/-- Blocks apart from a text, a table and a stack. -/
def CvA (sb tb tc : Nat) (q : Value) : Prop := ∀ x p, Fp q x p → x ≠ sb ∧ (x < tb ∨ tc ≤ x)
/-- What convertWords does with a table of t divisors. -/
def CvSt (t : Nat) : Prop := ∀ (q : Value) (X sb so sl sc s tb tc k : Nat) (st : Option (Nat × Option Addr × Nat × Nat)) (w : World), Nt w q X → X < WB ^ 900 → (t = 0 → X < WB ^ 8) → NK .u8 256 w sb so sl sc → sl < 1000000 → X < 10 ^ sl → CvA sb tb tc q → CvT w tb tc t → t ≤ k → k ≤ 1000 → (sb < tb ∨ tc ≤ sb) →
  Sk w s st → skLen st ≤ 5000 → SkAp s st q → (∀ x p, SkF s st x p → x ≠ sb ∧ (x < tb ∨ tc ≤ x)) → Glob w →
  Calls Tryz.prog 238 #[q, .pointer (some ⟨s, 0, none⟩), .slice (some ⟨sb, so, none⟩) sl sc, .int .u64 10, .int .i64 19, .int .u64 BB, .slice (some ⟨tb, 0, none⟩) t k] w fun e w' =>
    e = .returned (.tuple #[]) ∧ CvM w' sb so sl X 0 ∧ NK .u8 256 w' sb so sl sc ∧ (∃ st', Sk w' s st' ∧ skLen st' = skLen st ∧ SkR w.heap.size st st') ∧ Chg (fun x o => Fp q x o ∨ Rng sb so sl x o ∨ SkT s st x o) w w'
set_option maxRecDepth 100000 in
set_option maxHeartbeats 8000000 in
theorem cv_step (t : Nat) (ht : t ≤ 2) (ih : ∀ j, j < t → CvSt j) : CvSt t := by
  intro q X sb so sl sc s tb tc k st w hq hX ht0 hN hsl hXs hA hT htk hk hsbt hS hl hqS hSA hg
  have hnn : ∀ W, (binOp .neq 275 (.slice (some ⟨tb, 0, none⟩) t k) (.slice none 0 0)).run Tryz.prog W = .ok (.bool true) W := fun W => by kernel_rfl
  have HP := Lib.hid (And.intro hX (And.intro hA (And.intro hT (And.intro hS (And.intro hl (And.intro hqS (And.intro hSA hg)))))))
  have HIH := Lib.hid ih
  have HQ := Lib.hid hq
  have HN := Lib.hid hN
  have HX := Lib.hid (And.intro hXs ht0)
  obtain ⟨qa0, qn0, qc0, rfl⟩ := hq.sl
  clear hX hA hT hS hl hqS hSA hg ih hq hN hXs ht0
  go_enter Tryz.func238, Tryz.ntmps238
  go_upto_if 25 with fail
  go_cut [0, 2, 14, 15, 16, 17, 18] (fun qv sv _ _ _ _ _ wx => ∃ Q sl2 : Nat, sv = .slice (some ⟨sb, so, none⟩) sl2 sc ∧ sl2 ≤ sl ∧ Hid (Nt wx qv Q ∧ Small Q ∧ Q < 10 ^ sl2 ∧ X / 10 ^ (sl - sl2) = Q) ∧ Hid (CvM wx sb so sl X sl2) ∧ Hid (NK .u8 256 wx sb so sl sc) ∧
      Hid (∀ x p, Fp qv x p → Fp (.slice qa0 qn0 qc0) x p ∨ w.heap.size ≤ x) ∧ Hid (∃ st', Sk wx s st' ∧ skLen st' = skLen st ∧ SkR w.heap.size st st' ∧ SkAp s st' qv ∧ ∀ x p, SkF s st' x p → x ≠ sb) ∧ Hid (Chg (fun x o => Fp (.slice qa0 qn0 qc0) x o ∨ Rng sb so sl x o ∨ SkT s st x o) w wx))
  case first =>
    go_wp2_with fail
    go_loopg [0, 2, 14, 15, 16, 17, 18] X (fun gk qv sv rv iv _ _ _ wr => ∃ (Q sl2 : Nat) (jz : Int) (st2 : Option (Nat × Option Addr × Nat × Nat)), sv = .slice (some ⟨sb, so, none⟩) sl2 sc ∧ iv = .int .i64 jz ∧ jz < t ∧ -1 ≤ jz ∧ sl2 ≤ sl ∧
        Hid (Nt wr qv Q ∧ Q ≤ X ∧ Q < 10 ^ sl2 ∧ X / 10 ^ (sl - sl2) = Q ∧ (0 < t → 0 ≤ jz) ∧ Q ≤ gk) ∧ Hid (Ow wr rv ∧ Ab rv qv ∧ (∀ x p, Fp rv x p → w.heap.size ≤ x) ∧ SkAp s st2 qv ∧ SkAp s st2 rv) ∧
        Hid (CvM wr sb so sl X sl2) ∧ Hid (NK .u8 256 wr sb so sl sc) ∧ Hid (∀ x p, Fp qv x p → Fp (.slice qa0 qn0 qc0) x p ∨ w.heap.size ≤ x) ∧ Hid (Sk wr s st2 ∧ skLen st2 = skLen st ∧ SkR w.heap.size st st2) ∧
        Hid (CvT wr tb tc t) ∧ Hid (Chg (fun x o => Fp (.slice qa0 qn0 qc0) x o ∨ Rng sb so sl x o ∨ SkT s st x o) w wr))
    case atStart =>
      obtain ⟨p1, p2, p3, p4, p5, p6, p7, p8⟩ := HP.out
      exact ⟨X, sl, (t : Int) - 1, st, rfl, rfl, by omega, by omega, Nat.le_refl _, Lib.hid ⟨HQ.out, Nat.le_refl _, HX.out.1, by rw [Nat.sub_self, Nat.pow_zero, Nat.div_one], fun h => by omega, Nat.le_refl _⟩, Lib.hid ⟨.inl rfl, ab_nil' _, fun x p f => f.elim, p6, SkAp.nil _ _⟩, Lib.hid (fun p h1 h2 => by omega), HN, Lib.hid (fun x p f => .inl f), Lib.hid ⟨p4, rfl, SkR.refl _ _⟩, Lib.hid p3, Lib.hid (Chg.refl _ _)⟩
    case round =>
      obtain ⟨Q, sl2, jz, st2, rfl, rfl, hj1, hj2, hsl2, hQ, hR, hM, hNw, hqf, hSk, hTb, hC⟩ := hrel
      obtain ⟨qa, qn, qc, rfl⟩ := hQ.out.1.sl
      obtain ⟨p1, p2, p3, p4, p5, p6, p7, p8⟩ := HP.out
      have hcore : ∀ x p, SkF s st2 x p → x ≠ sb ∧ (x < tb ∨ tc ≤ x) := fun x p f => by
        rcases hSk.out.2.2.f f with g | g
        · exact p7 x p g
        · have := HN.out.lt; have := p3.2.1; omega
      have hg2 : Glob wr := p8.chg hC.out (fun b o f => by
        rcases f with f | f | f
        · exact f.own HQ.out.ow
        · rw [f.1]; exact HN.out.own
        · exact (p4.lt (SkT.f f)).2)
      have hqap : ∀ x p, Fp (.slice qa qn qc) x p → x ≠ sb ∧ (x < tb ∨ tc ≤ x) := fun x p f => by
        rcases hqf.out x p f with g | g
        · exact p2 x p g
        · have := HN.out.lt; have := p3.2.1; omega
      have cg9 : wr.cell? ⟨9, 0, none⟩ = some (.int .i64 8) := hg2.cell 9 0 _ rfl
      have HC := Lib.hid (And.intro hcore (And.intro hg2 hqap))
      have hQ900 : Q < WB ^ 900 := Nat.lt_of_le_of_lt hQ.out.2.1 p1
      have HQ9 := Lib.hid hQ900
      clear p1 p2 p3 p4 p5 p6 p7 p8 hcore hg2 hqap hQ900
      rcases Nat.lt_or_ge 8 qn with h8 | h8
      · have i1 : (8 : Int) < (qn : Int) := by omega
        have hQS : Small Q := small_of (k := 900) (by decide) HQ9.out
        have hQ8 : WB ^ 8 ≤ Q := by
          obtain ⟨_, n', _, e, -, -, -, hh⟩ := hQ.out.1.cases hQS
          cases e
          have := (hh (by omega)).1
          exact Nat.le_trans (Nat.pow_le_pow_right WB_pos (by omega)) this
        obtain ⟨gO, hgO⟩ : ∃ gO, gk = gO + 1 := ⟨gk - 1, by have := hQ.out.2.2.2.2.2; have : 0 < WB ^ 8 := Nat.pow_pos WB_pos; omega⟩
        subst hgO
        have htp : 0 < t := by
          rcases Nat.eq_zero_or_pos t with e | e
          · have := HX.out.2 e; have := hQ.out.2.1; omega
          · exact e
        obtain ⟨j, rfl⟩ : ∃ j : Nat, jz = (j : Int) := ⟨jz.toNat, by have := hQ.out.2.2.2.2.1 htp; omega⟩
        have hjt : j < t := by omega
        obtain ⟨ML, hML⟩ : ∃ ML, ML = blen Q := ⟨_, rfl⟩
        have hQ0 : Q ≠ 0 := by have : 0 < WB ^ 8 := Nat.pow_pos WB_pos; omega
        obtain ⟨b1, b2, b3⟩ := blen_spec hQ0
        rw [← hML] at b1 b2 b3
        have hML1 : 512 < ML := by
          rcases Nat.lt_or_ge 512 ML with h | h
          · exact h
          · exfalso
            obtain ⟨T8, hT8⟩ : ∃ T8 : Nat, T8 = 8 := ⟨_, rfl⟩
            rw [← hT8] at hQ8
            have : 2 ^ ML ≤ 2 ^ (64 * T8) := Nat.pow_le_pow_right (by decide) (by omega)
            rw [← WB_two] at this
            omega
        have hMLx : ML ≤ 64000 := by
          rw [hML]
          exact Nat.le_trans (blen_wb hQ0 HQ9.out) (by decide)
        have HBL := nat_bitLen (.slice qa qn qc) Q wr hQ.out.1 hQS
        rw [← hML] at HBL
        have HBL := Lib.hid HBL
        have HB := Lib.hid (And.intro b2 (And.intro b3 (And.intro hQ8 (And.intro hQS (And.intro hQ0 hML)))))
        obtain ⟨mh, hmh⟩ : ∃ mh, mh = ML / 2 := ⟨_, rfl⟩
        have e1 : (ML : Int) / 2 ^ 1 = (mh : Int) := by omega
        have e2 : (ML : Int) / 2 = (mh : Int) := by omega
        have hmh2 : mh < ML := by omega
        clear b1 b2 b3 hQ8 hQS hQ0 hML hmh hj1 hj2
        go_wp2_with fail
        refine HBL.out.mono ?_
        rintro e w1 ⟨rfl, hd1⟩
        have hk1 : Chg No wr w1 := hd1.chg
        have T1 := Lib.hid (hTb.out.keep hk1 (fun _ _ f => f.elim))
        have K1 := Lib.hid hk1
        clear hd1 hk1 cg9
        go_upto_block 2 with fail
        go_cut [15] from 29 to 108 (fun iv wx => ∃ j2 : Nat, iv = .int .i64 j2 ∧ j2 < t ∧ w1 = wx ∧ Hid (0 < j2 → ∃ (d : Nat) (v : Value), w1.cell? ⟨tb, (j2 - 1) * 3, none⟩ = some v ∧ w1.cell? ⟨tb, (j2 - 1) * 3 + 1, none⟩ = some (.int .i64 (blen (10 ^ d) : Nat)) ∧ w1.cell? ⟨tb, (j2 - 1) * 3 + 2, none⟩ = some (.int .i64 d) ∧ Nt w1 v (10 ^ d) ∧ blen (10 ^ d) ≤ mh))
        case first =>
          go_wp2_with fail
          go_loopg [15] j (fun gk iv wr2 => ∃ j2 : Nat, iv = .int .i64 j2 ∧ j2 < t ∧ j2 ≤ gk ∧ w1 = wr2)
          case atStart => exact ⟨j, rfl, hjt, Nat.le_refl _, rfl⟩
          case round =>
            obtain ⟨j2, rfl, hj2t, hj2g, rfl⟩ := hrel
            rcases Nat.eq_zero_or_pos j2 with hz | hz
            · have i2 : ¬ (0 : Int) < (j2 : Int) := by omega
              have HZ := Lib.hid hz
              clear hz
              go_wp2_with fail
              go_meet
              exact ⟨j2, rfl, hj2t, rfl, Lib.hid (fun h => by have := HZ.out; omega)⟩
            · have i2 : (0 : Int) < (j2 : Int) := by omega
              have i3 : (j2 : Int) - 1 < (t : Int) := by omega
              have i4 : 0 ≤ (j2 : Int) - 1 := by omega
              obtain ⟨v, d, g1, g2, g3, g4, g5⟩ := T1.out.2.2 (j2 - 1) (by omega)
              obtain ⟨B, hB⟩ : ∃ B, B = blen (10 ^ d) := ⟨_, rfl⟩
              rw [← hB] at g2
              obtain ⟨gB, hgB⟩ : ∃ gB, gk = gB + 1 := ⟨gk - 1, by omega⟩
              subst hgB
              by_cases hb : mh < B
              · have i5 : (mh : Int) < (B : Int) := by omega
                clear hb hB g1 g3 g4 g5
                go_wp2_with fail
                go_roundg gB
                case measure => omega
                case rel => exact ⟨j2 - 1, by go_num, by omega, by omega, rfl⟩
              · have i5 : ¬ (mh : Int) < (B : Int) := by omega
                have HE := Lib.hid (show ∃ (d : Nat) (v : Value), w1.cell? ⟨tb, (j2 - 1) * 3, none⟩ = some v ∧ w1.cell? ⟨tb, (j2 - 1) * 3 + 1, none⟩ = some (.int .i64 (blen (10 ^ d) : Nat)) ∧ w1.cell? ⟨tb, (j2 - 1) * 3 + 2, none⟩ = some (.int .i64 d) ∧ Nt w1 v (10 ^ d) ∧ blen (10 ^ d) ≤ mh from ⟨d, v, g1, by rw [← hB]; exact g2, g3, g4, by rw [← hB]; omega⟩)
                clear hb hB g1 g3 g4 g5
                go_wp2_with fail
                go_meet
                exact ⟨j2, rfl, hj2t, rfl, Lib.hid (fun _ => HE.out)⟩
        case rest =>
          obtain ⟨j2, rfl, hj2t, rfl, hprev⟩ := hcut
          obtain ⟨v2, d2, g1, g2, g3, g4, g5, g6, g7, g8⟩ := T1.out.2.2 j2 hj2t
          obtain ⟨va2, vn2, vc2, rfl⟩ := g4.sl
          have hQ1 : Nt w1 (.slice qa qn qc) Q := hQ.out.1.chg K1.out (fun _ _ _ f => f)
          have hS2 : Small (10 ^ d2) := small_of (k := 16) (by decide) g6
          have HCm := Lib.hid (nat_cmp (.slice va2 vn2 vc2) (.slice qa qn qc) (10 ^ d2) Q w1 g4 hQ1 hS2 HB.out.2.2.2.1)
          obtain ⟨B2, hB2⟩ : ∃ B2, B2 = blen (10 ^ d2) := ⟨_, rfl⟩
          rw [← hB2] at g2
          have hB2x : B2 ≤ 64 * 16 := by rw [hB2]; exact blen_wb (Nat.ne_of_gt (Nat.pow_pos (by decide))) g6
          have HE2 := Lib.hid (And.intro hB2 (And.intro g6 (And.intro g7 g3)))
          have hpowQ : ∀ x, x < ML → 2 ^ x ≤ Q := fun x hx => Nat.le_trans (Nat.pow_le_pow_right (by decide) (by omega)) HB.out.1
          have HPQ := Lib.hid hpowQ
          have iL : (j2 : Int) < (t : Int) := by omega
          clear g4 g5 g6 g7 g8 hB2 hQ1 hS2 hpowQ
          go_upto_region 8 with fail
          go_cut [67] from 29 to 108 (fun bv wx => ∃ b : Bool, bv = .bool b ∧ Hid (Chg No w1 wx) ∧ Hid (b = false → 10 ^ d2 < Q) ∧ Hid (b = true → 0 < j2))
          case first =>
            rcases Nat.lt_or_ge B2 ML with hb | hb
            · have i5 : ¬ (ML : Int) ≤ (B2 : Int) := by omega
              have HR := Lib.hid (show 10 ^ d2 < Q by
                have h1 := (blen_spec (x := 10 ^ d2) (Nat.ne_of_gt (Nat.pow_pos (by decide)))).2.2
                rw [← HE2.out.1] at h1
                exact Nat.lt_of_lt_of_le h1 (HPQ.out _ hb))
              clear hb g1 HCm
              go_wp2_with fail
              go_meet
              exact ⟨false, rfl, Lib.hid (Chg.refl _ _), Lib.hid (fun _ => HR.out), Lib.hid (fun h => by cases h)⟩
            · have i5 : (ML : Int) ≤ (B2 : Int) := by omega
              by_cases hlt : 10 ^ d2 < Q
              · have hc : decide (0 ≤ cmpN (10 ^ d2) Q) = false := by rw [cmpN_lt hlt]; rfl
                have HR := Lib.hid hlt
                clear hlt hb
                go_wp2_with fail
                refine HCm.out.mono ?_
                rintro e w2 ⟨rfl, hd2⟩
                have HD2 := Lib.hid hd2.chg
                clear hd2
                go_wp2_with fail
                go_meet
                exact ⟨false, rfl, HD2, Lib.hid (fun _ => HR.out), Lib.hid (fun h => by cases h)⟩
              · have hc : decide (0 ≤ cmpN (10 ^ d2) Q) = true := by
                  rcases Nat.lt_or_ge Q (10 ^ d2) with h | h
                  · rw [cmpN_gt h]; rfl
                  · rw [show 10 ^ d2 = Q by omega, cmpN_eq]; rfl
                have hj0 : 0 < j2 := by
                  rcases Nat.eq_zero_or_pos j2 with e | e
                  · have := HE2.out.2.2.1 e; have := HB.out.2.2.1; omega
                  · exact e
                clear hlt hb
                go_wp2_with fail
                refine HCm.out.mono ?_
                rintro e w2 ⟨rfl, hd2⟩
                have HD2 := Lib.hid hd2.chg
                clear hd2
                go_wp2_with fail
                go_meet
                exact ⟨true, rfl, HD2, Lib.hid (fun h => by cases h), Lib.hid (fun _ => hj0)⟩
          case rest =>
            obtain ⟨b, rfl, hk2, hbf, hbt⟩ := hcut
            generalize wc = w2 at *
            go_upto_if 67 with fail
            go_cut [15] from 29 to 108 (fun iv wx => ∃ j3 : Nat, iv = .int .i64 j3 ∧ j3 < t ∧ w2 = wx ∧ Hid (∀ d : Nat, w2.cell? ⟨tb, j3 * 3 + 2, none⟩ = some (.int .i64 d) → 10 ^ d < Q))
            case first =>
              cases b
              · go_wp2_with fail
                go_meet
                exact ⟨j2, rfl, hj2t, rfl, Lib.hid (fun d h => by
                  have h2 := ((hk2.out.cell _ _ (World.block_lt_of_cell? _ _ HE2.out.2.2.2) (fun f => f)).trans HE2.out.2.2.2).symm.trans h
                  simp at h2
                  rw [show d = d2 by omega]; exact hbf.out (by first | rfl | trivial))⟩
              · have hj0 := hbt.out (by first | rfl | trivial)
                have i6 : ¬ (j2 : Int) - 1 < 0 := by omega
                go_wp2_with fail
                go_meet
                refine ⟨j2 - 1, by first | go_num | (congr 1; omega), by omega, rfl, Lib.hid (fun d h => ?_)⟩
                obtain ⟨d', v', h1, h2, h3, h4, h5⟩ := hprev.out hj0
                have h6 := ((hk2.out.cell _ _ (World.block_lt_of_cell? _ _ h3) (fun f => f)).trans h3).symm.trans h
                simp at h6
                rw [show d = d' by omega]
                have h7 := (blen_spec (x := 10 ^ d') (Nat.ne_of_gt (Nat.pow_pos (by decide)))).2.2
                exact Nat.lt_of_lt_of_le h7 (HPQ.out _ (by omega))
            case rest =>
              obtain ⟨j3, rfl, hj3t, rfl, hless⟩ := hcut
              have T2 := T1.out.keep hk2.out (fun _ _ f => f.elim)
              obtain ⟨v3, d3, g1, g2, g3, g4, g5, g6, g7, g8⟩ := T2.2.2 j3 hj3t
              obtain ⟨va3, vn3, vc3, rfl⟩ := g4.sl
              have hBQ : 10 ^ d3 < Q := hless.out d3 g3
              have K02 : Chg No wr w2 := K1.out.then hk2.out (fun _ _ _ f => f)
              have hQ2 : Nt w2 (.slice qa qn qc) Q := hQ.out.1.chg K02 (fun _ _ _ f => f)
              have hR2 : Ow w2 u14 := hR.out.1.chg K02
              have hS2 : Sk w2 s st2 := hSk.out.1.chg K02 (fun _ _ _ f => f)
              have hg2 : Glob w2 := HC.out.2.1.no K02
              have hvS : SkAp s st2 (.slice va3 vn3 vc3) := fun b o f p g => by
                have h1 := g5 b o f
                have h2 := (HC.out.1 b p g).2
                omega
              have hqr : Ab (.slice qa qn qc) u14 := fun b o b' o' f f' e => hR.out.2.1 b' o' b o f' f e.symm
              have h39 : 10 ^ d3 < WB ^ 39 := Nat.lt_of_lt_of_le g6 (Nat.pow_le_pow_right WB_pos (by decide))
              have HDv := Lib.hid (nat_div (.slice qa qn qc) u14 (.slice qa qn qc) (.slice va3 vn3 vc3) s st2 Q (10 ^ d3) w2 hQ2.ow hR2 hQ2 g4 HQ9.out h39 (Nat.ne_of_gt (Nat.pow_pos (by decide))) hS2 (by rw [hSk.out.2.1]; exact HP.out.2.2.2.2.1) hqr (AlB.refl hQ2.ow) hR.out.2.1 hR.out.2.2.2.1 hR.out.2.2.2.2 hR.out.2.2.2.1 hvS hg2)
              have HG3 := Lib.hid (And.intro g3 (And.intro g7 (And.intro g8 (And.intro hBQ (And.intro T2 K02)))))
              have iL3 : (j3 : Int) < (t : Int) := by omega
              clear T2 g2 g4 g5 g6 g7 g8 hBQ K02 hQ2 hR2 hS2 hg2 hvS hqr h39 g3
              go_wp2_with fail
              refine HDv.out.mono ?_
              rintro e w3 ⟨q3, r3, rfl, hdv⟩
              have HD := Lib.hid hdv
              have hT3 : CvT w3 tb tc t := HG3.out.2.2.2.2.1.keep hdv.chg (fun x o f => by
                rcases f with f | f | f
                · exact (HC.out.1 x o (SkT.f f)).2
                · exact (HC.out.2.2 x o f).2
                · have := hR.out.2.2.1 x o f; have := HP.out.2.2.1.2.1; omega)
              have htbl : tb < w2.heap.size := World.block_lt_of_cell? _ _ HG3.out.1
              have hnS : ∀ o, ¬ (SkT s st2 tb o ∨ Fp (.slice qa qn qc) tb o ∨ Fp u14 tb o) := fun o f => by
                have htc := HP.out.2.2.1.1
                rcases f with f | f | f
                · have := (HC.out.1 tb o (SkT.f f)).2; omega
                · have := (HC.out.2.2 tb o f).2; omega
                · have := hR.out.2.2.1 tb o f; have := HP.out.2.2.1.2.1; omega
              have g33 := (hdv.chg.cell tb (j3 * 3 + 2) htbl (hnS _)).trans HG3.out.1
              have hd3 : d3 < sl2 := (Nat.pow_lt_pow_iff_right (a := 10) (by decide)).1 (Nat.lt_trans HG3.out.2.2.2.1 hQ.out.2.2.1)
              obtain ⟨h, hh⟩ : ∃ h, h = sl2 - d3 := ⟨_, rfl⟩
              have zh : (sl2 : Int) - (d3 : Int) = (h : Int) := by omega
              have hN2 := hNw.out.le
              have T3 := Lib.hid hT3
              obtain ⟨st3, k1, k2, k3, k4, k5⟩ := hdv.sk
              have SK3 := Lib.hid (And.intro k1 (And.intro k2 (And.intro k3 (And.intro k4 k5))))
              have HH := Lib.hid hh
              have HD3 := Lib.hid hd3
              have hR3b : Q % 10 ^ d3 < 10 ^ d3 := Nat.mod_lt _ (Nat.pow_pos (by decide))
              have hch3 : Chg (fun x o => SkT s st2 x o ∨ Fp (.slice qa qn qc) x o ∨ Fp u14 x o) wr w3 := (HG3.out.2.2.2.2.2.no).then hdv.chg (fun _ _ _ f => f)
              have hnsb : ∀ o, ¬ (SkT s st2 sb o ∨ Fp (.slice qa qn qc) sb o ∨ Fp u14 sb o) := fun o f => by
                rcases f with f | f | f
                · exact (HC.out.1 sb o (SkT.f f)).1 rfl
                · exact (HC.out.2.2 sb o f).1 rfl
                · have := hR.out.2.2.1 sb o f; have := HN.out.lt; omega
              have hwsz : w.heap.size ≤ w2.heap.size := by have := hC.out.size; have := HG3.out.2.2.2.2.2.size; omega
              have hr3 : ∀ x p, Fp r3 x p → w.heap.size ≤ x := fun x p f => by
                rcases hdv.fr x p f with g | g
                · exact hR.out.2.2.1 x p g
                · omega
              have hNw3 := hNw.out.chg km8 hch3
              have hg3 : Glob w3 := HC.out.2.1.chg hch3 (fun b o f => by
                rcases f with f | f | f
                · exact (hSk.out.1.lt (SkT.f f)).2
                · exact f.own hQ.out.1.ow
                · exact f.own hR.out.1)
              have hsk3 : ∀ x p, SkF s st3 x p → x ≠ sb ∧ (x < tb ∨ tc ≤ x) := fun x p f => by
                rcases k3.f f with g | g
                · exact HC.out.1 x p g
                · have := HN.out.lt; have := HP.out.2.2.1.2.1; omega
              have HRec : Hid (Calls Tryz.prog 238 #[r3, .pointer (some ⟨s, 0, none⟩), .slice (some ⟨sb, so + h, none⟩) d3 (sc - h), .int .u64 10, .int .i64 19, .int .u64 BB, .slice (some ⟨tb, 0, none⟩) j3 k] w3.drew fun e w' =>
                  e = .returned (.tuple #[]) ∧ CvM w' sb (so + h) d3 (Q % 10 ^ d3) 0 ∧ (∃ st', Sk w' s st' ∧ skLen st' = skLen st3 ∧ SkR w3.heap.size st3 st') ∧ Chg (fun x o => Fp r3 x o ∨ Rng sb (so + h) d3 x o ∨ SkT s st3 x o) w3 w') := by
                have c0 : Chg No w3 w3.drew := (Chg.refl No w3).drew
                have := HIH.out j3 hj3t r3 (Q % 10 ^ d3) sb (so + h) d3 (sc - h) s tb tc k st3 w3.drew (hdv.nr.chg c0 (fun _ _ _ f => f)) (Nat.lt_of_le_of_lt (Nat.mod_le _ _) HQ9.out) (fun e => Nat.lt_trans hR3b (HG3.out.2.1 e))
                  ⟨by omega, by have := hNw3.max; omega, fun i hi => by rw [Nat.add_assoc]; exact hNw3.isI _ (by omega), hNw3.plain, hNw3.own⟩ (by omega) hR3b
                  (fun x p f => by have := hr3 x p f; have := HN.out.lt; have := HP.out.2.2.1.2.1; omega) ((T3.out.sub (by omega)).keep c0 (fun _ _ f => f.elim)) (by omega) hk hsbt (k1.chg c0 (fun _ _ _ f => f)) (by rw [k2, hSk.out.2.1]; exact HP.out.2.2.2.2.1) k5 hsk3 (hg3.no c0)
                refine Lib.hid (this.mono ?_)
                rintro e w' ⟨a1, a2, a3, a4, a5⟩
                exact ⟨a1, a2, a4, (c0.no (S := fun x o => Fp r3 x o ∨ Rng sb (so + h) d3 x o ∨ SkT s st3 x o)).then a5 (fun _ _ _ f => f)⟩
              have HCH := Lib.hid (And.intro hch3 (And.intro hnsb (And.intro hwsz (And.intro hr3 (And.intro hNw3 hsk3)))))
              have zc : ¬ sc = h := by have := HG3.out.2.2.1; omega
              have zt : sl2 - h = d3 := by omega
              have ih1 : (h : Int) ≤ (sl2 : Int) := by omega
              have ih2 : (j3 : Int) ≤ (k : Int) := by omega
              have ih3 : (h : Int) ≤ (sc : Int) := by omega
              clear hT3 hnS htbl k1 k2 k3 k4 k5 hdv HDv hR3b hch3 hnsb hwsz hr3 hNw3 hg3 hsk3 hh hd3
              go_upto_region 14 with fail
              go_region_held3 (fun W => True) (trivial) (first
                | (go_at_call 238; (with_reducible refine HRec.out.mono ?_); rintro e w4 ⟨rfl, hcv, hst4, hk4⟩; have HCV := Lib.hid hcv; have HST4 := Lib.hid hst4; have HK4 := Lib.hid hk4; clear hcv hst4 hk4))
              all_goals
                clear g33 HRec
                obtain ⟨qa3, qn3, qc3, rfl⟩ := HD.out.nq.sl
                go_wp2_with fail
                go_roundg gO
                case measure => omega
                case rel =>
                  obtain ⟨hch3, hnsb, hwsz, hr3, hNw3, hsk3⟩ := HCH.out
                  obtain ⟨st4, m1, m2, m3⟩ := HST4.out
                  obtain ⟨k1, k2, k3, k4, k5⟩ := SK3.out
                  have hhe := HH.out
                  have hd3 := HD3.out
                  have hq3f : ∀ x p, Fp (.slice qa3 qn3 qc3) x p → Fp (.slice qa0 qn0 qc0) x p ∨ w.heap.size ≤ x := fun x p f => by
                    rcases HD.out.fq x p f with g | g
                    · exact hqf.out x p g
                    · exact .inr (by omega)
                  have hsz3 := HD.out.chg.size
                  have hq3l : ∀ x p, Fp (.slice qa3 qn3 qc3) x p → x < w3.heap.size := fun x p f => Fp.lt HD.out.nq.ow f
                  have hr3l : ∀ x p, Fp r3 x p → x < w3.heap.size := fun x p f => Fp.lt HD.out.nr.ow f
                  have hq3sb : ∀ x p, Fp (.slice qa3 qn3 qc3) x p → x ≠ sb := fun x p f => by
                    rcases hq3f x p f with g | g
                    · exact (HP.out.2.1 x p g).1
                    · have := HN.out.lt; omega
                  have hdis : ∀ x p, Fp (.slice qa3 qn3 qc3) x p → ¬ (Fp r3 x p ∨ Rng sb (so + h) d3 x p ∨ SkT s st3 x p) := fun x p f g => by
                    rcases g with g | g | g
                    · exact HD.out.ab x p x p f g rfl
                    · exact hq3sb x p f g.1
                    · exact k4 x p f p (SkT.f g)
                  have hdg := hNw.out
                  refine ⟨Q / 10 ^ d3, h, (j3 : Int), st4, rfl, rfl, by omega, by omega, by omega, Lib.hid ⟨HD.out.nq.chg HK4.out hdis, Nat.le_trans (Nat.div_le_self _ _) hQ.out.2.1, ?_, ?_, fun _ => by omega, ?_⟩, Lib.hid ⟨HD.out.nr.ow.chg HK4.out, ?_, hr3, ?_, ?_⟩, Lib.hid ?_, Lib.hid (hNw3.chg km8 HK4.out), Lib.hid hq3f, Lib.hid ⟨m1, by rw [m2, k2, hSk.out.2.1], (hSk.out.2.2.trans k3 (by omega)).trans m3 (by omega)⟩, Lib.hid (T3.out.keep HK4.out ?_), Lib.hid ?_⟩
                  · rw [Nat.div_lt_iff_lt_mul (Nat.pow_pos (by decide)), ← Nat.pow_add, show h + d3 = sl2 by omega]; exact hQ.out.2.2.1
                  · rw [← hQ.out.2.2.2.1, Nat.div_div_eq_div_mul, ← Nat.pow_add, show sl - sl2 + d3 = sl - h by omega]
                  · have h1 : Q / 10 ^ d3 < Q := Nat.div_lt_self (Nat.pos_of_ne_zero HB.out.2.2.2.2.1) (Nat.one_lt_pow (by have := HG3.out.2.2.1; omega) (by decide))
                    have := hQ.out.2.2.2.2.2
                    omega
                  · intro b o b' o' f f' e; exact HD.out.ab b' o' b o f' f e.symm
                  · intro b o f p g
                    rcases m3.f g with g2 | g2
                    · exact k4 b o f p g2
                    · have := hq3l b o f; omega
                  · intro b o f p g
                    rcases m3.f g with g2 | g2
                    · exact k5 b o f p g2
                    · have := hr3l b o f; omega
                  · intro p h1 h2
                    rcases Nat.lt_or_ge p sl2 with h3 | h3
                    · have h4 := HCV.out (p - h) (by omega) (by omega)
                      rw [show so + h + (p - h) = so + p by omega, dg_lo (by omega), ← hQ.out.2.2.2.1, ← dg_hi, show sl - sl2 + (d3 - 1 - (p - h)) = sl - 1 - p by omega] at h4
                      exact h4
                    · rw [wd_congr (HK4.out.cell sb (so + p) hNw3.lt (fun f => by
                        rcases f with f | f | f
                        · have := hr3 _ _ f; have := HN.out.lt; omega
                        · have := f.2.2; omega
                        · exact (hsk3 sb (so + p) (SkT.f f)).1 rfl)), wd_congr (hch3.cell sb (so + p) hNw.out.lt (hnsb _))]
                      exact hM.out p h3 h2
                  · intro x o f
                    rcases f with f | f | f
                    · have := hr3 x o f; have := HP.out.2.2.1.2.1; exact .inr (by omega)
                    · rw [f.1]; exact hsbt
                    · exact (hsk3 x o (SkT.f f)).2
                  · refine (hC.out.then hch3 (fun x o hx f => ?_)).then HK4.out (fun x o hx f => ?_)
                    · rcases f with f | f | f
                      · rcases hSk.out.2.2.t (by rw [hSk.out.2.1]; exact Nat.le_refl _) f with g | g
                        · exact .inr (.inr g)
                        · omega
                      · rcases hqf.out x o f with g | g
                        · exact .inl g
                        · omega
                      · have := hR.out.2.2.1 x o f; omega
                    · rcases f with f | f | f
                      · have := hr3 x o f; omega
                      · exact .inr (.inl ⟨f.1, by have := f.2.1; omega, by have := f.2.2; omega⟩)
                      · rcases (hSk.out.2.2.trans k3 (by omega)).t (by rw [k2, hSk.out.2.1]; exact Nat.le_refl _) f with g | g
                        · exact .inr (.inr g)
                        · omega
      · have i1 : ¬ (8 : Int) < (qn : Int) := by omega
        go_wp2_with fail
        go_meet
        refine ⟨Q, sl2, rfl, hsl2, Lib.hid ⟨hQ.out.1, ?_, hQ.out.2.2.1, hQ.out.2.2.2.1⟩, hM, hNw, hqf, Lib.hid ⟨st2, hSk.out.1, hSk.out.2.1, hSk.out.2.2, hR.out.2.2.2.1, fun x p f => (HC.out.1 x p f).1⟩, hC⟩
        exact small_of (k := 900) (by decide) HQ9.out
  case rest =>
    obtain ⟨Q0, sl2, rfl, hsl2, hQ, hM, hNw, hqf, hSk, hC⟩ := hcut
    generalize wc = wz at *
    generalize u0 = uq at *
    have hq : Nt wz uq Q0 := hQ.out.1
    have HSm := Lib.hid hQ.out.2.1
    have HXs := Lib.hid hQ.out.2.2.1
    have hs : NK .u8 256 wz sb so sl2 sc := hNw.out.len (by have := hNw.out.le; omega)
    have hne : ∀ x p, Fp uq x p → x ≠ sb := fun x p f => by
      rcases hqf.out x p f with g | g
      · exact (HP.out.2.1 x p g).1
      · have := HN.out.lt; omega
    have h17 : 17 ≤ wz.heap.size := by have := hC.out.size; have := HP.out.2.2.2.2.2.2.2.size; omega
    have HFin : Hid (∀ wr, CvM wr sb so sl2 Q0 0 → Chg (fun x o => Fp uq x o ∨ Rng sb so sl2 x o) wz wr → CvM wr sb so sl X 0 ∧ NK .u8 256 wr sb so sl sc ∧ (∃ st', Sk wr s st' ∧ skLen st' = skLen st ∧ SkR w.heap.size st st') ∧ Chg (fun x o => Fp (.slice qa0 qn0 qc0) x o ∨ Rng sb so sl x o ∨ SkT s st x o) w wr) := Lib.hid fun wr h1 h2 => by
      refine ⟨fun p _ hp => ?_, hNw.out.chg km8 h2, ?_, hC.out.then h2 (fun x o hx f => ?_)⟩
      · rcases Nat.lt_or_ge p sl2 with h | h
        · rw [h1 p (by omega) h, ← hQ.out.2.2.2, ← dg_hi, show sl - sl2 + (sl2 - 1 - p) = sl - 1 - p by omega]
        · rw [wd_congr (h2.cell sb (so + p) hNw.out.lt (fun f => by
            rcases f with f | f
            · exact hne _ _ f rfl
            · have := f.2.2; omega))]
          exact hM.out p h hp
      · obtain ⟨st', g1, g2, g3, g4, g5⟩ := hSk.out
        refine ⟨st', g1.chg h2 (fun x o hx f => ?_), g2, g3⟩
        rcases f with f | f
        · exact g4 x o f o (SkC.f hx o)
        · exact g5 x o (SkC.f hx o) f.1
      · rcases f with f | f
        · rcases hqf.out x o f with g | g
          · exact .inl g
          · omega
        · exact .inr (.inl ⟨f.1, f.2.1, by have := f.2.2; omega⟩)
    have hsl3 : sl2 < 1000000 := by omega
    clear hQ hM hNw hqf hSk hC
    go_upto_block 4 with fail
    go_cut [19] (fun iv wx => ∃ i : Nat, iv = .int .i64 i ∧ i ≤ sl2 ∧ Hid (CvM wx sb so sl2 Q0 i) ∧ Hid (Q0 / 10 ^ (sl2 - i) = 0) ∧ Hid (NK .u8 256 wx sb so sl2 sc) ∧ Hid (Chg (fun x o => Fp uq x o ∨ Rng sb so sl2 x o) wz wx))
    case first =>
      go_wp2_with fail
      go_loopg [0, 19] Q0 (fun gk qv iv wr => ∃ i Q : Nat, iv = .int .i64 i ∧ Hid (Nt wr qv Q) ∧ Hid (Q ≤ gk ∧ Q ≤ Q0) ∧ i ≤ sl2 ∧ Hid (Q0 / 10 ^ (sl2 - i) = Q) ∧ Hid (CvM wr sb so sl2 Q0 i) ∧ Hid (NK .u8 256 wr sb so sl2 sc) ∧ Hid (Chg (fun x o => Fp uq x o ∨ Rng sb so sl2 x o) wz wr) ∧ Hid (∀ x p, Fp qv x p → Fp uq x p ∨ wz.heap.size ≤ x))
      case atStart => exact ⟨sl2, Q0, rfl, Lib.hid hq, Lib.hid ⟨Nat.le_refl _, Nat.le_refl _⟩, Nat.le_refl _, Lib.hid (by simp), Lib.hid (fun p h1 h2 => by omega), Lib.hid hs, Lib.hid (Chg.refl _ _), Lib.hid (fun x p f => .inl f)⟩
      case round =>
        obtain ⟨i, Q, rfl, q1, q2, q3, q4, q5, q6, q7, q8⟩ := hrel
        obtain ⟨qa, qn, qc, rfl⟩ := q1.out.sl
        have hSQ : Small Q := Nat.lt_of_le_of_lt q2.out.2 HSm.out
        by_cases hQ : Q = 0
        · have hqn : qn = 0 := by
            rcases q1.out with ⟨h, _⟩ | ⟨b', o', n', c', h, hn, hv, hz⟩
            · cases h; rfl
            · cases h
              have := len_le (k := 0) hz (by rw [hv, hQ]; exact Nat.one_pos)
              omega
          subst hqn
          have HQ := Lib.hid hQ
          clear hQ
          go_wp2_with fail
          go_meet
          exact ⟨i, rfl, q3, q5, Lib.hid (by rw [q4.out]; exact HQ.out), q6, q7⟩
        · have hqn : 0 < qn := by
            rcases Nat.eq_zero_or_pos qn with e | e
            · subst e
              rcases q1.out with ⟨_, h⟩ | ⟨b', o', n', c', h, hn, hv, hz⟩
              · exact absurd h hQ
              · cases h; exact absurd hv.symm hQ
            · exact e
          have i1 : (0 : Int) < qn := by omega
          have HD := Lib.hid (nat_divW (.slice qa qn qc) (.slice qa qn qc) Q BB wr q1.out.ow q1.out hSQ (by decide) BB_lt (AlB.refl q1.out.ow) (Nat.le_trans h17 q7.out.size))
          have HQ := Lib.hid hQ
          clear hQ hSQ
          go_wp2_with fail
          refine HD.out.mono ?_
          rintro e w2 ⟨q', rfl, hr⟩
          obtain ⟨r0, hr0⟩ : ∃ r0, r0 = Q % BB := ⟨_, rfl⟩
          rw [← hr0]
          have HR := Lib.hid hr
          have HR0 := Lib.hid hr0
          clear hr hr0
          have hdis : ∀ x p, Fp (.slice qa qn qc) x p → x ≠ sb := fun x p f => by
            rcases q8.out x p f with f' | f'
            · exact hne x p f'
            · have := hs.lt; omega
          have N2 := Lib.hid (q6.out.chg km8 HR.out.chg)
          have C2 : Hid (CvM w2 sb so sl2 Q0 i) := Lib.hid (fun p h1 h2 => (wd_congr (HR.out.chg.cell _ _ q6.out.lt (fun f => hdis _ _ f rfl))).trans (q5.out p h1 h2))
          obtain ⟨QB, hQBe⟩ : ∃ QB, QB = Q / BB := ⟨_, rfl⟩
          have hQB : Q / BB < Q := Nat.div_lt_self (Nat.pos_of_ne_zero HQ.out) (by decide)
          rw [← hQBe] at hQB
          rw [← hQBe] at HR
          have HQB := Lib.hid hQBe
          clear hQBe
          obtain ⟨g2, rfl, hg2⟩ : ∃ g2, gk = g2 + 1 ∧ Hid (QB ≤ g2) := ⟨gk - 1, by have := q2.out; omega, Lib.hid (by have := q2.out; omega)⟩
          have HQBl := Lib.hid hQB
          clear hQB
          have fin : ∀ (i' : Nat) (wx : World), i' ≤ sl2 → Q0 / 10 ^ (sl2 - i') = QB → CvM wx sb so sl2 Q0 i' → NK .u8 256 wx sb so sl2 sc → Chg (Rng sb so sl2) w2 wx →
              ∃ i Q : Nat, Value.int .i64 (i' : Int) = .int .i64 i ∧ Hid (Nt wx q' Q) ∧ Hid (Q ≤ g2 ∧ Q ≤ Q0) ∧ i ≤ sl2 ∧ Hid (Q0 / 10 ^ (sl2 - i) = Q) ∧ Hid (CvM wx sb so sl2 Q0 i) ∧ Hid (NK .u8 256 wx sb so sl2 sc) ∧ Hid (Chg (fun x o => Fp uq x o ∨ Rng sb so sl2 x o) wz wx) ∧ Hid (∀ x p, Fp q' x p → Fp uq x p ∨ wz.heap.size ≤ x) := by
            intro i' wx u1 u2 u3 u4 u5
            refine ⟨i', QB, rfl, Lib.hid (HR.out.nt.chg u5 (fun x p f g => ?_)), Lib.hid ⟨hg2.out, by have := q2.out; have := HQBl.out; omega⟩, u1, Lib.hid u2, Lib.hid u3, Lib.hid u4, Lib.hid ((q7.out.then HR.out.chg (fun x p hx f => ?_)).then u5 (fun x p _ f => .inr f)), Lib.hid (fun x p f => ?_)⟩
            · rcases HR.out.fp x p f with f' | f'
              · exact hdis x p f' g.1
              · have := q6.out.lt; have := g.1; omega
            · rcases q8.out x p f with f' | f'
              · exact .inl f'
              · omega
            · rcases HR.out.fp x p f with f' | f'
              · exact q8.out x p f'
              · have := q7.out.size; exact .inr (by omega)
          have Fin := Lib.hid fin
          clear fin
          go_wp2_with fail
          go_loopg [19, 20, 21] 19 (fun gk iv rv jv wr => ∃ i r j : Nat, iv = .int .i64 i ∧ rv = .int .u64 r ∧ jv = .int .i64 j ∧ Hid (CvR Q0 sl2 (QB) i r j) ∧ Hid (CvM wr sb so sl2 Q0 i) ∧ Hid (NK .u8 256 wr sb so sl2 sc) ∧ Hid (Chg (Rng sb so sl2) w2 wr) ∧ i ≤ sl2 ∧ j ≤ 19 ∧ Hid (19 - j ≤ gk))
          case atStart => exact ⟨i, r0, 0, rfl, rfl, rfl, Lib.hid ⟨by rw [q4.out, HR0.out, HQB.out, ← BB_eq, Nat.div_add_mod'], by rw [HR0.out, ← BB_eq]; exact Nat.mod_lt _ (by decide), by omega, q3⟩, C2, N2, Lib.hid (Chg.refl _ _), q3, by omega, Lib.hid (by omega)⟩
          case round =>
            clear C2 N2 q3 q4
            obtain ⟨i, r, j, rfl, rfl, rfl, p1, p2, p3, p4, p5, p6, p7⟩ := hrel
            by_cases hj : j = 19
            · subst hj
              go_wp2_with fail
              go_roundg g2
              case measure => omega
              case rel =>
              refine Fin.out i _ p5 ?_ p2.out p3.out p4.out
              obtain ⟨h1, h2, -, -⟩ := p1.out
              simp at h1 h2
              omega
            · have i1 : (j : Int) < 19 := by omega
              by_cases hi : i = 0
              · subst hi
                clear hj
                go_wp2_with fail
                go_roundg g2
                case measure => omega
                case rel =>
                refine Fin.out 0 _ p5 ?_ p2.out p3.out p4.out
                obtain ⟨h1, h2, -, -⟩ := p1.out
                rw [Nat.sub_zero, Nat.div_eq_of_lt HXs.out] at h1 ⊢
                have h10 : 0 < 10 ^ (19 - j) := Nat.pow_pos (by decide)
                rcases Nat.eq_zero_or_pos (QB) with e | e
                · exact e.symm
                · have := Nat.mul_pos e h10; omega
              · have i2 : (0 : Int) < i := by omega
                have i3 : (i : Int) - 1 < sl2 := by omega
                have i4 : 0 ≤ (i : Int) - 1 := by omega
                have i5 : ((i : Int) - 1).toNat = i - 1 := by omega
                have hrW : r < WB := by
                  have h1 := p1.out.2.1
                  have h2 : 10 ^ (19 - j) ≤ 10 ^ 19 := Nat.pow_le_pow_right (by decide) (by omega)
                  have := BB_lt; rw [BB_eq] at this; omega
                obtain ⟨t, t10, d, d48, e1, e0, e2, e3, e4, hd10, ht, hd, hd48⟩ := cv_arith hrW
                obtain ⟨st1, st2⟩ := p1.out.step (by omega) (by omega)
                obtain ⟨z1, z2⟩ := p2.out.put p3.out (by omega) p5 (hd.trans st2.symm) hd10
                rw [← hd48] at z1 z2
                rw [← ht] at st1
                have cz := (p3.out.isI (i - 1) (by have := p3.out.le; omega)).cell
                have fz := p3.out.plain.free (so + (i - 1))
                have hd256 : d48 < 256 := by omega
                have ST := Lib.hid st1
                have Z1 := Lib.hid z1
                have Z2 := Lib.hid z2
                obtain ⟨g1, rfl⟩ : ∃ g1, gk = g1 + 1 := ⟨gk - 1, by have := p7.out; omega⟩
                clear st1 st2 z1 z2 hd48 hd ht hrW hj hi
                go_wp2_with fail
                go_roundg g1
                case measure => omega
                case rel => exact ⟨i - 1, t, j + 1, by go_num, rfl, by go_num, ST, Z1, Lib.hid (p3.out.chg km8 Z2.out), Lib.hid (p4.out.then Z2.out (fun _ _ _ f => f)), by omega, by omega, Lib.hid (by have := p7.out; omega)⟩
    case rest =>
      obtain ⟨i, rfl, q1, q2, q3, q4, q5⟩ := hcut
      go_wp2_with fail
      go_loopg [19] sl2 (fun gk iv wr => ∃ i : Nat, iv = .int .i64 i ∧ i ≤ sl2 ∧ Hid (i ≤ gk) ∧ Hid (CvM wr sb so sl2 Q0 i) ∧ Hid (Q0 / 10 ^ (sl2 - i) = 0) ∧ Hid (NK .u8 256 wr sb so sl2 sc) ∧ Hid (Chg (fun x o => Fp uq x o ∨ Rng sb so sl2 x o) wz wr))
      case atStart => exact ⟨i, rfl, q1, Lib.hid q1, q2, q3, q4, q5⟩
      case round =>
        clear q1 q2 q3 q4 q5
        obtain ⟨i, rfl, q1, q0, q2, q3, q4, q5⟩ := hrel
        by_cases hi : i = 0
        · subst hi
          go_wp2_with fail
          go_end0
          exact ⟨rfl, HFin.out _ q2.out q5.out⟩
        · have i2 : (0 : Int) < i := by omega
          have i3 : (i : Int) - 1 < sl2 := by omega
          have i4 : 0 ≤ (i : Int) - 1 := by omega
          have i5 : ((i : Int) - 1).toNat = i - 1 := by omega
          have hdz : 0 = dg Q0 (sl2 - 1 - (i - 1)) := by
            unfold dg
            rw [show sl2 - 1 - (i - 1) = sl2 - i by omega, q3.out]
          obtain ⟨z1, z2⟩ := q2.out.put q4.out (by omega) q1 hdz (by omega)
          have cz := (q4.out.isI (i - 1) (by have := q4.out.le; omega)).cell
          have fz := q4.out.plain.free (so + (i - 1))
          have z3 : Q0 / 10 ^ (sl2 - (i - 1)) = 0 := by
            rw [show sl2 - (i - 1) = (sl2 - i) + 1 by omega, Nat.pow_succ, ← Nat.div_div_eq_div_mul, q3.out]
          have Z1 := Lib.hid z1
          have Z2 := Lib.hid z2
          have Z3 := Lib.hid z3
          obtain ⟨g1, rfl⟩ : ∃ g1, gk = g1 + 1 := ⟨gk - 1, by have := q0.out; omega⟩
          clear z1 z2 z3 hdz hi
          go_wp2_with fail
          go_roundg g1
          case measure => omega
          case rel => exact ⟨i - 1, by go_num, by omega, Lib.hid (by have := q0.out; omega), Z1, Z3, Lib.hid (q4.out.chg km8 Z2.out), Lib.hid (q5.out.then Z2.out (fun _ _ _ f => .inr f))⟩
theorem cv_all (t : Nat) : t ≤ 2 → CvSt t := by
  induction t using Nat.strongRecOn with
  | ind t ih => exact fun ht => cv_step t ht (fun j hj => ih j hj (by omega))
set_option maxHeartbeats 1000000 in
theorem getStack_sk (w : World) (hs : 17 ≤ w.heap.size) : Calls Tryz.prog 94 #[] w fun e w' => e = .returned (.pointer (some ⟨w.heap.size, 0, none⟩)) ∧ Sk w' w.heap.size none ∧ w'.heap.size = w.heap.size + 1 ∧ Chg No w w' := by
  go_enter Tryz.func94, Tryz.ntmps94
  go_wp2_with fail
  go_ret
  exact ⟨rfl, ⟨hs, Plain.new _ _ _, World.cell?_alloc_new _ _ _ _⟩, by simp, (Chg.refl No w).alloc _⟩
set_option maxHeartbeats 1000000 in
theorem stk_free_d (s : Nat) (st : Option (Nat × Option Addr × Nat × Nat)) (w : World) (u : FrameMode) (h : Sk w s st) :
    CallsD Tryz.prog 95 #[.pointer (some ⟨s, 0, none⟩)] u w fun e u' w' => u' = u ∧ e = .returned (.tuple #[]) ∧ Sk w' s (skCut 0 st) ∧ Chg (fun x _ => SkC s st x) w w' := by
  match st, h with
  | none, h =>
    have HS := Lib.hid h
    obtain ⟨h1, h2, h3⟩ := h
    go_enter_d Tryz.func95, Tryz.ntmps95
    go_wp2_with fail
    go_end0
    exact ⟨rfl, HS.out, Chg.refl _ _⟩
  | some (i, A, n, c), h =>
    obtain ⟨h1, h2, h3, h4, h5, h6, h7, h8, h9⟩ := h
    have hf := h6.free 0
    have hin : Calls Tryz.prog 154 #[.pointer (some ⟨i, 0, none⟩)] w fun e w' => e = .returned (.tuple #[]) ∧ w.setCell ⟨i, 0, none⟩ (.slice A 0 c) = w' := by
      rcases h8 with e | ⟨b, o, n', c', e, hn⟩
      · cases e
        go_enter Tryz.func154, Tryz.ntmps154
        go_wp2_with fail
        go_end0
        exact ⟨rfl, rfl⟩
      · cases e
        have hle := hn.le
        have i1 : (0 : Int) ≤ c := by omega
        go_enter Tryz.func154, Tryz.ntmps154
        go_wp2_with fail
        go_end0
        exact ⟨rfl, rfl⟩
    have HI := Lib.hid hin
    have hc := cell_sl h7 (.slice A 0 c)
    have hs : Sk (w.setCell ⟨i, 0, none⟩ (.slice A 0 c)) s (skCut 0 (some (i, A, n, c))) := by
      refine ⟨h1, hc.plain _ h2, (hc.cell _ _ h2.lt (fun f => h5 f.symm)).trans h3, h4, h5, hc.plain _ h6, World.cell?_setCell_same _ _ _ h7, ?_, h9⟩
      rcases (h8.chg hc) with e | ⟨b, o, n', c', e, hn⟩
      · cases e
        exact .inl rfl
      · cases e
        exact .inr ⟨b, o, 0, c, rfl, hn.len (by omega)⟩
    have HC := Lib.hid (And.intro hc hs)
    clear hin h7 h8 h9 hc hs hf
    go_enter_d Tryz.func95, Tryz.ntmps95
    go_wp2_with fail
    refine HI.out.mono ?_
    rintro e w1 ⟨rfl, rfl⟩
    go_wp2_with fail
    go_end0
    exact ⟨rfl, HC.out.2, HC.out.1.mono (fun x o _ f => .inr f)⟩
/-- The table is one for convertWords. -/
theorem TabOk.cvT {w w' : World} {k tb : Nat} (h : TabOk w w' k tb) (hk : k ≤ 2) : CvT w' tb w'.heap.size k := by
  obtain ⟨d0, d1, h1, h2, h3, h4, h5, h6, h7⟩ := h
  refine ⟨h7, Nat.le_refl _, fun i hi => ?_⟩
  have : i = 0 ∨ i = 1 := by omega
  rcases this with rfl | rfl
  · obtain ⟨v, g1, g2, g3, g4, g5, g6⟩ := h2
    exact ⟨v, d0, g1, g3, g4, g2, fun b o f => ⟨(g5 b o f).1, Fp.lt g2.ow f⟩, Nat.lt_of_lt_of_le h4 (Nat.pow_le_pow_right WB_pos (by decide)), fun _ => h4, g6⟩
  · obtain ⟨v, g1, g2, g3, g4, g5, g6⟩ := h3 (by omega)
    exact ⟨v, d1, g1, g3, g4, g2, fun b o f => ⟨(g5 b o f).1, Fp.lt g2.ow f⟩, h5, fun e => by omega, g6⟩
set_option maxRecDepth 100000 in
set_option maxHeartbeats 4000000 in
theorem itoa10_tab (x : Value) (X : Nat) (w : World) (hx : Nt w x X) (hX8 : WB ^ 8 ≤ X) (hB : blen X < 1400) (hg : Glob w) :
    Calls Tryz.prog 178 #[x, .bool false, .int .i64 10] w fun e w' => ∃ sb so sc ds, e = .returned (.slice (some ⟨sb, so, none⟩) ds.length sc) ∧ TxM w' sb so sc ds ∧ Nd ds = X ∧ 0 < ds.length ∧ ds.getD 0 0 ≠ 0 ∧ w.heap.size ≤ sb ∧ Chg No w w' := by
  have hX0 : X ≠ 0 := by have : 0 < WB ^ 8 := Nat.pow_pos WB_pos; omega
  obtain ⟨q1, q2, q3⟩ := blen_spec hX0
  have hX22 : X < WB ^ 22 := by
    obtain ⟨T, hT⟩ : ∃ T : Nat, T = 22 := ⟨_, rfl⟩
    rw [← hT, WB_two]
    exact Nat.lt_of_lt_of_le q3 (Nat.pow_le_pow_right (by decide) (by omega))
  have hSm : Small X := small_words hX22 (by omega)
  obtain ⟨B, hBB⟩ : ∃ B, B = blen X := ⟨_, rfl⟩
  obtain ⟨g1, g2, g3, g4⟩ := est_ok (n := B) (by omega)
  have HB := nat_bitLen x X w hx hSm
  rw [← hBB] at HB
  have HB := Lib.hid HB
  obtain ⟨xa, xn, xc, rfl⟩ := hx.sl
  have hxn : 0 < xn := by
    rcases Nat.eq_zero_or_pos xn with e | e
    · subst e
      rcases hx with ⟨_, h⟩ | ⟨b', o', n', c', h, hn, hv, hz⟩
      · exact absurd h hX0
      · cases h; exact absurd hv.symm hX0
    · exact e
  have hxn22 : xn ≤ 22 := by
    rcases hx with ⟨h, _⟩ | ⟨b', o', n', c', h, hn, hv, hz⟩
    · cases h; omega
    · cases h; exact len_le hz (by rw [hv]; exact hX22)
  have hxn8 : 8 < xn := by
    obtain ⟨_, n', _, e, -, -, hl, -⟩ := hx.cases hSm
    cases e
    rcases Nat.lt_or_ge 8 xn with h | h
    · exact h
    · have : WB ^ xn ≤ WB ^ 8 := Nat.pow_le_pow_right WB_pos h
      omega
  obtain ⟨k, hk⟩ : ∃ k, k = if 8 < xn / 2 then 2 else 1 := ⟨_, rfl⟩
  have hk2 : k ≤ 2 ∧ 1 ≤ k := by rw [hk]; split <;> omega
  have HKk := Lib.hid hk
  have HX9 := Lib.hid (Nat.lt_of_lt_of_le hX22 (Nat.pow_le_pow_right WB_pos (show 22 ≤ 900 by decide)))
  have t0 : ((xn : Int) == 0) = false := beq_eq_false_iff_ne.2 (by omega)
  have k1 := est_conv B
  have k2 := fc9
  have k3 := fun W => est_div (n := B) (by omega) W
  have k4 := fun W => est_int (n := B) (by omega) W
  have k5 := and_neg10
  obtain ⟨L, hL⟩ : ∃ L, L = est B := ⟨_, rfl⟩
  rw [← hL] at k4
  have hL1 : L ≤ 1400 := by omega
  have hXL : X < 10 ^ (L + 1) := by rw [hL]; refine Nat.lt_of_lt_of_le q3 ?_; rw [← hBB]; exact g4
  have HX := Lib.hid hx
  have HXL := Lib.hid hXL
  have HSm := Lib.hid hSm
  obtain ⟨ci, hi1, hi2, hi3, hi4⟩ := info_of info5
  clear hx hXL hSm hX22 hX8 hk hBB q1 q2 q3 hB g1 g2 g3 g4 hL
  go_enter_defers Tryz.func178, Tryz.ntmps178
  go_wp2_with (go_at_call 194; refine HB.out.mono ?_; rintro e w1 ⟨rfl, hd⟩; obtain ⟨kd, rfl⟩ := hd)
  go_wp2_with (first
    | (go_at_call 236; refine (math_Log2_10 _).mono ?_; rintro e w1 ⟨rfl, rfl⟩)
    | (refine wpList_makeN rfl km8 (.tmp 44) (.tmp 44) 56 rfl 5 ci Tryz.underlying56 hi1 hi2 hi3 (by rw [hi4]; omega) _ _ (L + 1) (L + 1) rfl rfl (by omega) (by omega) (Nat.le_refl _) (by omega) hg.size ?_; intro w1 hc1 hs1 hn1 hz1))
  have K1 := Lib.hid (((Chg.refl No w).drewN kd).then hc1 (fun _ _ _ f => f))
  have N1 := Lib.hid hn1
  have hs1' : w1.heap.size = w.heap.size + 1 := hs1
  have HS1 := Lib.hid hs1'
  have hsz1 : w.heap.size < w1.heap.size := by omega
  clear hc1 hn1 hz1 hs1 hs1' k1 k2 k3 k4
  have h17 := hg.size
  refine (getStack_sk w1 (by omega)).mono ?_
  rintro e w2 ⟨rfl, st, hs2, k2⟩
  have K2 := Lib.hid (K1.out.then k2 (fun _ _ _ f => f))
  have ST := Lib.hid st
  have N2 := Lib.hid (N1.out.chg km8 k2)
  have HS2 := Lib.hid hs2
  have hsz2 : w1.heap.size < w2.heap.size := by omega
  have hg2 := hg.no K2.out
  have HDs := Lib.hid (divisors_ok w1.heap.size xn k w2 hxn8 (by omega) HKk.out hg2)
  have HG2 := Lib.hid hg2
  clear st hs2 k2 hg2
  go_wp2_with (first
    | (go_at_call 143; refine (maxPow10 _).mono ?_; rintro e w3 ⟨rfl, rfl⟩))
  refine HDs.out.mono ?_
  rintro e w3 ⟨tb, rfl, htab⟩
  have hcv := htab.cvT hk2.1
  obtain ⟨d0, d1, h1, -, -, -, -, h6, h7⟩ := htab
  have CT := Lib.hid hcv
  have htb1 : w2.heap.size ≤ tb := h1
  have htb2 : tb < w3.heap.size := h7
  have K3 := Lib.hid (K2.out.then h6 (fun _ _ _ f => f))
  have N3 := Lib.hid (N2.out.chg km8 h6)
  have ST3 := Lib.hid (ST.out.chg h6 (fun _ _ _ f => f))
  have HSet := Lib.hid (nat_set (.slice none 0 0) (.slice xa xn xc) X w3 (.inl rfl) (HX.out.chg K3.out (fun _ _ _ f => f)) HSm.out (by omega))
  clear hcv h1 h6 h7 HDs
  go_wp2_with fail
  refine HSet.out.mono ?_
  rintro e w4 ⟨q, rfl, hr⟩
  have hqs : ∀ x p, Fp q x p → w3.heap.size ≤ x := fun x p f => (hr.fp x p f).resolve_left (fun g => g)
  have c4 : Chg No w3 w4 := hr.chg.mono (fun _ _ _ f => f)
  have K4 := Lib.hid (K3.out.then c4 (fun _ _ _ f => f))
  have N4a := Lib.hid (N3.out.chg km8 c4)
  have ST4 := Lib.hid (ST3.out.chg c4 (fun _ _ _ f => f))
  have HQS := Lib.hid hqs
  have HCv := Lib.hid (cv_all k hk2.1 q X w.heap.size 0 (L + 1) (L + 1) w1.heap.size tb w3.heap.size k none w4 hr.nt HX9.out (fun e => by omega) N4a.out (by omega) HXL.out
    (fun x p f => by have := hqs x p f; omega) (CT.out.keep c4 (fun _ _ f => f.elim)) (Nat.le_refl _) (by omega) (.inl (by omega)) ST4.out (Nat.zero_le _)
    (fun b o f p g => by have := hqs b o f; have g : b = w1.heap.size := g; omega) (fun x p f => by have f : x = w1.heap.size := f; omega) (hg.no K4.out))
  have hsz4 := c4.size
  clear hr hqs c4
  go_wp2_with fail
  refine HCv.out.mono ?_
  rintro e w5 ⟨rfl, cv, hn4, ⟨st5, s1, s2, s3⟩, k4⟩
  have hqs := HQS.out
  have K5 := Lib.hid (K4.out.then k4 (fun x p hx f => by
    rcases f with f | f | f
    · have := hqs x p f; omega
    · have := f.1; omega
    · have f : x = w1.heap.size := f; omega))
  have CV := Lib.hid cv
  have N4 := Lib.hid hn4
  have ST5 := Lib.hid s1
  have hfree : ∀ x, SkC w1.heap.size st5 x → x ≠ w.heap.size ∧ w.heap.size ≤ x := fun x hx => by
    rcases s3.f (SkC.f hx 0) with g | g
    · have g : x = w1.heap.size := g; omega
    · omega
  have HFr := Lib.hid hfree
  clear cv hn4 k4 hqs s1 s2 s3 hfree
  go_wp2_with fail
  go_loopg [7] (L + 1) (fun gk iv wr => ∃ i : Nat, iv = .int .i64 i ∧ w5 = wr ∧ i < L + 1 ∧ Hid (X < 10 ^ (L + 1 - i)) ∧ Hid (L + 1 - i ≤ gk))
  case atStart => exact ⟨0, rfl, rfl, by omega, HXL, Lib.hid (by omega)⟩
  case round =>
    obtain ⟨i, rfl, rfl, hi, hX, hgk⟩ := hrel
    have i1 : (i : Int) < (L : Int) + 1 := by omega
    have hc := (N4.out.isI i (by omega)).cell
    rw [CV.out i (by omega) (by omega), Nat.zero_add] at hc
    obtain ⟨y, hy⟩ : ∃ y, y = 48 + dg X (L + 1 - 1 - i) := ⟨_, rfl⟩
    rw [← hy] at hc
    by_cases hd : dg X (L + 1 - 1 - i) = 0
    · have t1 : ((y : Int) == 48) = true := by rw [hy, hd]; rfl
      have hX2 : X < 10 ^ (L + 1 - (i + 1)) := by
        have h1 := hX.out
        rw [show L + 1 - i = (L + 1 - 1 - i) + 1 by omega, Nat.pow_succ] at h1
        rw [show L + 1 - (i + 1) = L + 1 - 1 - i by omega]
        unfold dg at hd
        have h2 : X / 10 ^ (L + 1 - 1 - i) < 10 := (Nat.div_lt_iff_lt_mul (Nat.pow_pos (by decide))).2 (by rw [Nat.mul_comm]; exact h1)
        have h3 : X / 10 ^ (L + 1 - 1 - i) = 0 := by
          rw [Nat.mod_eq_of_lt h2] at hd; exact hd
        exact (Nat.div_eq_zero_iff_lt (Nat.pow_pos (by decide))).1 h3
      have hi2 : i + 1 < L + 1 := by
        rcases Nat.lt_or_ge (i + 1) (L + 1) with h | h
        · exact h
        · rw [show L + 1 - (i + 1) = 0 by omega] at hX2
          simp at hX2; omega
      have HX2 := Lib.hid hX2
      obtain ⟨g1, rfl⟩ : ∃ g1, gk = g1 + 1 := ⟨gk - 1, by have := hgk.out; omega⟩
      clear hd hy hX2
      go_wp2_with fail
      go_roundg g1
      case measure => omega
      case rel => exact ⟨i + 1, by go_num, rfl, hi2, HX2, Lib.hid (by have := hgk.out; omega)⟩
    · have t1 : ((y : Int) == 48) = false := beq_eq_false_iff_ne.2 (by omega)
      have hcap : ¬ L + 1 = i := by omega
      have HD := Lib.hid hd
      clear hd hy
      go_wp2_with fail
      refine leaves_cons (f := 95) (args := #[.pointer (some ⟨w1.heap.size, 0, none⟩)]) (by simp) (by simp [go_sem]) ?_
      refine (stk_free_d _ _ _ .returning ST5.out).mono ?_
      rintro e u' w6 ⟨rfl, rfl, -, hk6⟩
      have K6 := K5.out.then hk6 (fun x p hx f => by have := (HFr.out x f).2; omega)
      have hwd6 : ∀ o, wd w6 w.heap.size o = wd w5 w.heap.size o := fun o => wd_congr (hk6.cell _ _ N4.out.lt (fun f => (HFr.out _ f).1 rfl))
      have N6 := N4.out.chg km8 hk6
      refine ⟨_, results_tmp rfl _ _ _, w.heap.size, i, L + 1 - i, digs X (L + 1 - i), ?_, ⟨?_, fun j hj => ?_, digs_lt _ _⟩, ?_, by rw [digs_length]; omega, ?_, Nat.le_refl _, K6⟩
      · rw [digs_length]; rfl
      · rw [digs_length]
        refine ⟨Nat.le_refl _, by unfold maxLen; omega, fun j hj => ?_, N6.plain, N6.own⟩
        have := N6.isI (i + j) (by omega)
        rwa [Nat.zero_add] at this
      · rw [digs_length] at hj
        rw [digs_get _ _ _ hj, hwd6]
        have := CV.out (i + j) (by omega) (by omega)
        rw [Nat.zero_add] at this
        rw [this]
        congr 2
        omega
      · rw [Nd_digs, Nat.mod_eq_of_lt hX.out]
      · rw [digs_get _ _ _ (by omega)]
        have := HD.out
        rw [show L + 1 - i - 1 - 0 = L + 1 - 1 - i by omega]
        exact this
theorem itoaOk_big {X : Nat} (h0 : X ≠ 0) (hB : blen X < 1400) : ItoaOk X := by
  rcases Nat.lt_or_ge X (WB ^ 8) with h | h
  · exact itoaOk_small h0 h
  · exact fun x w hx hg => itoa10_tab x X w hx h hB hg
end Go.Proofs.YtacfhndledcmgaaGreatDoor
