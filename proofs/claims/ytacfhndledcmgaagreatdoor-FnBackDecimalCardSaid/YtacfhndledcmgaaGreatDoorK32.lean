/- Lemmas for the law FnBackDecimal: Mul, Quo, Float.scan in base 10. Conditions: those in each theorem; none besides. -/
import Derived.Test.YtacfhndledcmgaaGreatDoorK31
import Derived.Test.YtacfhndledcmgaaGreatDoorK25
import Derived.Test.YtacfhndledcmgaaGreatDoorK29
set_option linter.unusedVariables false
set_option linter.unusedSimpArgs false
namespace Go.Proofs.YtacfhndledcmgaaGreatDoor
open Go.RowKit
theorem lt900 {X : Nat} (h : X < WB ^ 2) : X < WB ^ 900 := by
  obtain ⟨T, hT⟩ : ∃ T : Nat, T = 900 := ⟨_, rfl⟩
  rw [← hT]; exact pow_mono (by omega) h
theorem Nt.len_pos {w : World} {a : Option Addr} {n c X : Nat} (h : Nt w (.slice a n c) X) : 0 < n ↔ X ≠ 0 := by
  rcases h with ⟨h1, h⟩ | ⟨xb, xo, m, xc, h, hn, h2, h3⟩
  · cases h1; simp [h]
  · cases h
    constructor
    · intro hp e
      have := (blen_words ⟨hn, h2, h3⟩ hp).1
      rw [e] at this; simp [blen] at this
    · intro hx
      rcases Nat.eq_zero_or_pos n with e | e
      · subst e; exact absurd h2.symm hx
      · exact e
set_option maxRecDepth 100000 in
set_option maxHeartbeats 8000000 in
theorem float_uquo (b c base base2 P P2 M2 : Nat) (ac : Int) (n : Bool) (N Y : Nat) (F G : Int) (xb xo xc yb yo yc m0 k : Nat) (w : World) (hz : FlA ac w base b P 0 n N F xb xo 1 xc) (hy : FlX w base2 c P2 M2 false Y G yb yo 1 yc)
    (hbc : b ≠ c) (hxy : xb ≠ yb) (hxc : xb ≠ c) (hyb : yb ≠ b) (hP0 : 0 < P) (hP : P ≤ 62) (h1 : 2 ^ (P - 1) < m0) (h2 : m0 < 2 ^ P) (hb : Bnd m0 (upTo N 1 * WB) k (upTo Y 1)) (hF1 : -5000 ≤ F) (hF2 : F ≤ 5000) (hG1 : -5000 ≤ G) (hG2 : G ≤ 5000) (hg : Glob w) (hbs : base ≤ w.heap.size) (h17 : 17 ≤ xb) (h17b : 17 ≤ b) :
    Calls Tryz.prog 256 #[.pointer (some ⟨b, 0, none⟩), .pointer (some ⟨b, 0, none⟩), .pointer (some ⟨c, 0, none⟩)] w (OpOut b P n m0 (F - G + blen N - blen Y - 63 + k) xb base w) := by
  have hN0 := hz.X0
  have hY0 := hy.X0
  have hNl := hz.hi
  have hYl := hy.hi
  have hA1 : upTo N 1 < WB := by have := upTo_lt (m := 1) hN0 hNl; simpa using this
  have hB1 : upTo Y 1 < WB := by have := upTo_lt (m := 1) hY0 hYl; simpa using this
  have hB0 : upTo Y 1 ≠ 0 := upTo_ne hY0
  have hA0 : upTo N 1 ≠ 0 := upTo_ne hN0
  have hql := hb.len (by omega) hP0 h1 h2
  have hnx := hz.nt
  have hny := hy.nt
  obtain ⟨X1, hX1⟩ : ∃ X1, X1 = upTo N 1 := ⟨_, rfl⟩
  obtain ⟨Y1, hY1⟩ : ∃ Y1, Y1 = upTo Y 1 := ⟨_, rfl⟩
  have hRd : ∀ mw, blen (X1 * WB / Y1) ≤ 64 * mw → rhe (2 * upTo (X1 * WB / Y1) mw + (if X1 * WB % Y1 = 0 then 0 else 1)) (64 * mw - P + 1) = m0 := fun mw h => by rw [hX1, hY1]; exact hb.round (by omega) hP0 h1 h2 (by rw [← hX1, ← hY1]; exact h)
  rw [← hX1] at hA1 hA0 hnx
  rw [← hY1] at hB1 hB0 hny
  rw [← hX1, ← hY1] at hql
  obtain ⟨E1, hE1⟩ : ∃ E1 : Int, E1 = blen N + F := ⟨_, rfl⟩
  obtain ⟨E2, hE2⟩ : ∃ E2 : Int, E2 = blen Y + G := ⟨_, rfl⟩
  obtain ⟨L, hL⟩ : ∃ L, L = blen (X1 * WB / Y1) := ⟨_, rfl⟩
  have hL65 : L ≤ 65 := by
    have g1 : 2 ^ 63 ≤ Y1 := by rw [hY1]; exact upTo_ge (m := 1) hY0 hYl
    have g2 : X1 * WB / Y1 ≤ X1 * WB / 2 ^ 63 := Nat.div_le_div_left g1 (by decide)
    have g3 : X1 * WB / 2 ^ 63 = X1 * 2 := by
      rw [show WB = 2 * 2 ^ 63 by decide, ← Nat.mul_assoc, Nat.mul_div_cancel _ (by decide)]
    have g4 : X1 * WB / Y1 < 2 ^ 65 := by
      have h65 : (2 : Nat) ^ 65 = WB * 2 := by decide
      omega
    rw [hL]
    exact blen_le (by intro e; rw [e] at hql; have h0 : blen 0 = 0 := rfl; omega) g4
  have i1 : -6000 ≤ E1 ∧ E1 ≤ 6000 := by omega
  have i2 : -6000 ≤ E2 ∧ E2 ≤ 6000 := by omega
  have HEE : Hid (E1 - E2 - 64 + (L : Int) - (P : Int) = F - G + blen N - blen Y - 63 + k) := Lib.hid (by omega)
  have hq0 : X1 * WB / Y1 ≠ 0 := by intro e; rw [e] at hql; have h0 : blen 0 = 0 := rfl; omega
  have HQ := Lib.hid (And.intro hL (And.intro hRd (And.intro hA1 (And.intro hB1 (And.intro hB0 (And.intro hA0 hq0))))))
  have HZ := Lib.hid hz
  have HP12 := Lib.hid (And.intro h1 h2)
  have HNX := Lib.hid hnx
  have HNY := Lib.hid hny
  have hFl := hz.fl
  have hFy := hy.fl
  rw [← hE1] at hFl
  rw [← hE2] at hFy
  have HFl := Lib.hid hFl
  have HFy := Lib.hid hFy
  have hlt := hFl.lt
  have hltc := hFy.lt
  have hxl := hnx.1.plain.lt
  have hyl := hny.1.plain.lt
  obtain ⟨c0, c1, c2, c3, c4, c5, c6, -, -, -, -, -⟩ := hFl
  obtain ⟨d0, d1, d2, d3, d4, d5, d6, -, -, -, -, -⟩ := hFy
  obtain ⟨ci, hi1, hi2, hi3, hi4⟩ := info_of info149
  have hs17 := hg.size
  have HG := Lib.hid hg
  have eP : (P : Int) / 64 = 0 := by omega
  have z0 : IntKind.i64.wrap 0 = 0 := by decide
  have z1 : IntKind.i64.wrap 1 = 1 := by decide
  have z2 : IntKind.i64.wrap 2 = 2 := by decide
  have w1e : IntKind.i64.wrap E1 = E1 := IntWalk.i64_in _ (by omega)
  have w2e : IntKind.i64.wrap E2 = E2 := IntWalk.i64_in _ (by omega)
  have w3e : IntKind.i64.wrap (E1 - E2) = E1 - E2 := IntWalk.i64_in _ (by omega)
  clear hq0 hz hy hN0 hY0 hNl hYl hA0 hA1 hB0 hB1 hql hnx hny hX1 hY1 hRd hE1 hE2 hL h1 h2 hb hg
  go_enter_defers Tryz.func256, Tryz.ntmps256
  go_wp2_with fail
  go_region_held3 (fun W => W.cell? ⟨b, 5, none⟩ = some (.slice (some ⟨xb, xo, none⟩) 1 xc) ∧ W.cell? ⟨c, 5, none⟩ = some (.slice (some ⟨yb, yo, none⟩) 1 yc)) (first | assumption | exact ⟨c5, d5⟩) (fail)
  go_upto_region 5 with (refine wpList_makeN rfl km64 (.tmp 46) (.tmp 46) 85 rfl 149 ci Tryz.underlying85 hi1 hi2 hi3 (by rw [hi4]; omega) _ _ 2 2 rfl rfl (by decide) (by decide) (by decide) (by decide) hs17 ?_; intro w1 hc1 hs1 hn1 hz1)
  have hs1' : w1.heap.size = w.heap.size + 1 := hs1
  have hn1' : NK .u64 WB w1 w.heap.size 0 2 2 := hn1
  have hk1 : Chg No w w1 := (Chg.refl No w).drew.then hc1 (fun _ _ _ f => f)
  have hz0 : wd w1 w.heap.size 0 = 0 := hz1.out 0 (by decide)
  obtain ⟨hb1, hhb⟩ : ∃ hb1, hb1 = w.heap.size := ⟨_, rfl⟩
  have hxw : ∀ i, i < 1 → IsW w1 xb (xo + i) := fun i hi => hk1.isW _ _ (HNX.out.1.isW i (by have := HNX.out.1.le; omega))
  have hzw : Wr w1.drew w.heap.size 1 1 := ⟨fun i hi => by have := hn1'.nw.isW (1 + i) (by omega); rwa [Nat.zero_add] at this, hn1'.plain⟩
  obtain ⟨w2, hrun, hc2, hv2⟩ := run_copyW (P := Tryz.prog) w1.drew 85 85 3 149 w.heap.size 1 1 1 xb xo 1 xc 1 Tryz.underlying85 (by kernel_rfl) (by decide) hxw hzw
  have c5a := (hk1.cell b 5 hlt (fun f => f)).trans c5
  have HK2 : Hid (Chg No w w2) := Lib.hid (hk1.then ((Chg.refl (Rng w.heap.size 1 1) w1).drew.then hc2 (fun _ _ _ f => f)) (fun x o hx f => by have h : x = w.heap.size := f.1; omega))
  have HN2 : Hid (NtAt w2 w.heap.size 0 2 2 (X1 * WB)) := Lib.hid (by
    have hk : Chg (Rng w.heap.size 1 1) w1 w2 := (Chg.refl (Rng w.heap.size 1 1) w1).drew.then hc2 (fun _ _ _ f => f)
    have e1 : wd w2 w.heap.size 1 = X1 := by
      have := hv2 0 (by decide)
      rw [Nat.add_zero] at this
      rw [this]
      have h3 := HNX.out.2.1
      simp [Val, V] at h3
      rw [← h3]
      exact wd_congr (hk1.cell xb xo hxl (fun f => f))
    have e0 : wd w2 w.heap.size 0 = 0 := (wd_congr (hk.cell w.heap.size 0 (by omega) (fun f => by have := f.2.1; omega))).trans hz0
    refine ⟨hn1'.nw.chg hk, ?_, .inr ?_⟩
    · simp [Val, V, e0, e1]
    · rw [show 0 + (2 - 1) = 1 by omega, e1]; exact HQ.out.2.2.2.2.2.1)
  have HS2 : Hid (w2.heap.size ≤ w2.heap.size ∧ w.heap.size < w2.heap.size) := Lib.hid ⟨Nat.le_refl _, by have := hc2.size; have h : w1.drew.heap.size = w1.heap.size := rfl; omega⟩
  have c5b := (HK2.out.cell b 5 hlt (fun f => f)).trans c5
  clear hc1 hs1 hn1 hz1 hxw hzw hc2 hv2 hz0 hn1' hk1 hs1'
  go_wp2_with fail
  go_region_held3 (fun W => W.cell? ⟨b, 5, none⟩ = some (.slice (some ⟨xb, xo, none⟩) 1 xc)) (first | assumption | exact c5a) (first | rw [hrun])
  have d5b := (HK2.out.cell c 5 hltc (fun f => f)).trans d5
  have hs2 := HS2.out.2
  go_wp2_with fail
  refine (getStack_sk w2 (by omega)).mono ?_
  rintro e w3 ⟨rfl, st, hs3, k3⟩
  have HK3 := Lib.hid (HK2.out.then k3 (fun _ _ _ f => f))
  have hst : 17 ≤ w2.heap.size := by omega
  have HDv := Lib.hid (nat_div (.slice (some ⟨xb, xo, none⟩) 1 xc) (.slice none 0 0) (.slice (some ⟨w.heap.size, 0, none⟩) 2 2) (.slice (some ⟨yb, yo, none⟩) 1 yc) w2.heap.size none (X1 * WB) Y1 w3.drew
    ((HNX.out.chg HK3.out (fun _ _ f => f)).drewN 1).nt.ow (.inl rfl) ((HN2.out.chg k3 (fun _ _ f => f)).drewN 1).nt ((HNY.out.chg HK3.out (fun _ _ f => f)).drewN 1).nt
    (lt900 (by have h1 := HQ.out.2.2.1; rw [Nat.pow_two]; exact Nat.mul_lt_mul_of_pos_right h1 WB_pos)) (pow_mono (k := 1) (by decide) (by have h1 := HQ.out.2.2.2.1; simpa using h1)) HQ.out.2.2.2.2.1
    st (by decide) (fun _ _ _ _ _ f => f.elim) (.inr (fun x o x' o' f f' => by have h1 : x = xb := f.1; have h2 : x' = w.heap.size := f'.1; omega)) (fun _ _ _ _ f => f.elim)
    (fun x o f q g => by have h1 : x = xb := f.1; have g : x = w2.heap.size := g; omega) (SkAp.nil _ _) (fun x o f q g => by have h1 : x = w.heap.size := f.1; have g : x = w2.heap.size := g; omega) (fun x o f q g => by have h1 : x = yb := f.1; have g : x = w2.heap.size := g; omega) (HG.out.no HK3.out.drew))
  have HST := Lib.hid (And.intro hst hs3)
  have c5c := (HK3.out.cell b 5 hlt (fun f => f)).trans c5
  have d5c := (HK3.out.cell c 5 hltc (fun f => f)).trans d5
  have HF3 := Lib.hid (HFl.out.chg HK3.out (fun _ f => f))
  have fb3 := HF3.out.plain.free 5
  clear st hs3 k3 hst c0 c1 c2 c3 c4 c5 d0 d1 d2 d3 d4 d5 c5a c5b d5b hrun hhb
  go_wp2_with fail
  refine wp_region_noPanic ?_
  go_region_with (go_at_call 113; refine HDv.out.mono ?_; rintro e w4 ⟨q, r, rfl, hdv⟩; obtain ⟨qa, qn, qc, rfl⟩ := hdv.nq.sl; obtain ⟨ra, rn, rc, rfl⟩ := hdv.nr.sl; have F4 := HF3.out.chg ((Chg.refl (fun x o => SkT w2.heap.size none x o ∨ Fp (.slice (some ⟨xb, xo, none⟩) 1 xc) x o ∨ Fp (.slice none 0 0) x o) w3).drew.then hdv.chg (fun _ _ _ f => f)) (fun o f => by rcases f with f | f | f; (have f : b = w2.heap.size := f; omega); (exact HZ.out.ne f.1.symm); (exact f)); have c5' := F4.c5; have f5' := F4.plain.free 5; have HDr := Lib.hid hdv; have HF4 := Lib.hid F4; clear hdv F4)
  all_goals
    refine NoPanic.normal ?_
    obtain ⟨zb, zo, rfl, hN, hm0⟩ := HDr.out.nq.at0 HQ.out.2.2.2.2.2.2
    have hwl := blen_words hN hm0
    rw [← HQ.out.1] at hwl
    have hqn2 : qn ≤ 2 := by omega
    have hzb : zb = xb ∨ w.heap.size ≤ zb := by
      rcases HDr.out.fq zb zo ⟨rfl, Nat.le_refl _, by have := hN.1.le; simp; omega⟩ with f | f
      · exact .inl f.1
      · exact .inr (Nat.le_trans HK3.out.size f)
    have hneb : zb ≠ b := by
      rcases hzb with h | h
      · rw [h]; exact HZ.out.ne
      · omega
    have KD : Chg (fun x _ => x = b ∨ x = xb) w w4 := (HK3.out.no (S := fun x _ => x = b ∨ x = xb)).then ((Chg.refl (fun x o => SkT w2.heap.size none x o ∨ Fp (.slice (some ⟨xb, xo, none⟩) 1 xc) x o ∨ Fp (.slice none 0 0) x o) w3).drew.then HDr.out.chg (fun _ _ _ f => f)) (fun x o hx f => by
      rcases f with f | f | f
      · have f : x = w2.heap.size := f; omega
      · exact .inr f.1
      · exact f.elim)
    have K6 := HF4.out.put5 KD (.slice (some ⟨zb, zo, none⟩) qn qc) (fun _ => .inl rfl)
    have F6 := HF4.out.set5 (.slice (some ⟨zb, zo, none⟩) qn qc) ⟨_, _, _, rfl⟩
    have kb := HF4.out.put5 (Chg.refl (Blk b) w4) (.slice (some ⟨zb, zo, none⟩) qn qc) (fun _ => rfl)
    have N6 := hN.chg kb (fun i hi => hneb)
    have hrp := HDr.out.nr.len_pos
    obtain ⟨stx, s1, s2, s3, s4, s5⟩ := HDr.out.sk
    have d6' := (K6.cell c 6 hltc (fun f => by rcases f with f | f; (exact hbc f.symm); (exact hxc f.symm))).trans d6
    have hbsx : ∀ x, SkC w2.heap.size stx x → w2.heap.size ≤ x := fun x hx => by
      rcases s3.f (SkC.f hx 0) with g | g
      · have g : x = w2.heap.size := g; omega
      · have h1 := HST.out.2
        have g : w3.heap.size ≤ x := g
        omega
    have HSX := Lib.hid hbsx
    have HSZ : Hid (∀ x, SkC w2.heap.size stx x → x ≠ zb) := Lib.hid (fun x hx e => s4 zb zo ⟨rfl, Nat.le_refl _, by have := hN.1.le; simp; omega⟩ 0 (by rw [← e]; exact SkC.f hx 0))
    have ST6 := Lib.hid (s1.chg kb (fun x o hx f => by have f : x = b := f; have := hbsx x hx; omega))
    have HK6 := Lib.hid K6
    have HF6 := Lib.hid F6
    have HN6 := Lib.hid N6
    have HWL := Lib.hid hwl
    have HZB := Lib.hid (And.intro hzb hneb)
    have HBZ : Hid (base ≤ zb) := Lib.hid (by
      rcases hzb with g | g
      · rw [g]; exact HZ.out.own
      · omega)
    have c5x := F6.c5
    have c6x := F6.c6
    have HRP := Lib.hid hrp
    clear hN hzb hneb KD K6 F6 kb N6 hrp s1 s2 s3 s4 s5 hbsx c5' f5' HDr HF4 HF3 HDv c5c d5c fb3
    generalize w4.setCell ⟨b, 5, none⟩ (.slice (some ⟨zb, zo, none⟩) qn qc) = w6 at *
    have w5e : IntKind.i64.wrap (1 - (qn : Int)) = 1 - (qn : Int) := IntWalk.i64_in _ (by omega)
    have w6e : IntKind.i64.wrap ((1 - (qn : Int)) * 64) = (1 - (qn : Int)) * 64 := IntWalk.i64_in _ (by omega)
    have w7e : IntKind.i64.wrap (E1 - E2 - (1 - (qn : Int)) * 64) = E1 - E2 - (1 - (qn : Int)) * 64 := IntWalk.i64_in _ (by omega)
    go_wp2_with fail
    go_region_held3 (fun W => W.cell? ⟨b, 6, none⟩ = some (.int .i32 E1) ∧ W.cell? ⟨c, 6, none⟩ = some (.int .i32 E2) ∧ W.cell? ⟨b, 5, none⟩ = some (.slice (some ⟨zb, zo, none⟩) qn qc)) (first | assumption | exact ⟨c6x, d6', c5x⟩) (fail)
    obtain ⟨fz, hfz⟩ : ∃ fz : Nat, fz = 64 * qn - L := ⟨_, rfl⟩
    have HFN := Lib.hid (fnorm_val zb zo qn qc (X1 * WB / Y1) w6.drew (HN6.out.drewN 1) hm0 (by omega))
    rw [← HQ.out.1, ← hfz] at HFN
    have w8e : IntKind.i64.wrap (E1 - E2 - (1 - (qn : Int)) * 64 - (fz : Int)) = E1 - E2 - (1 - (qn : Int)) * 64 - (fz : Int) := IntWalk.i64_in _ (by omega)
    have HE2 : Hid (E1 - E2 - (1 - (qn : Int)) * 64 - (fz : Int) - (P : Int) = F - G + blen N - blen Y - 63 + k) := Lib.hid (by have := HEE.out; omega)
    have i9 : fz ≤ 128 := by omega
    have HFZ := Lib.hid hfz
    clear hfz c5x c6x d6' hwl
    have HEND : Hid (∀ (sv : Nat) (w7 : World), sv = (if X1 * WB % Y1 = 0 then 0 else 1) → NtAt w7 zb zo qn qc (upTo (X1 * WB / Y1) qn) → Chg (Rng zb zo qn) w6.drew w7 → Calls Tryz.prog 188 #[.pointer (some ⟨b, 0, none⟩), .int .i64 (E1 - E2 - (1 - (qn : Int)) * 64 - (fz : Int)), .int .u64 sv] w7 (EvenOut b P n (E1 - E2 - (1 - (qn : Int)) * 64 - (fz : Int)) zb zo qn qc m0 w7)) := Lib.hid (fun sv w7 hsv hn7 hk7 =>
      float_setExp_even b P ac 1 n E1 zb zo qn qc (upTo (X1 * WB / Y1) qn) sv m0 _ w7 (HF6.out.chg ((Chg.refl (Rng zb zo qn) w6).drew.then hk7 (fun _ _ _ f => f)) (fun o f => HZB.out.2 f.1.symm)) hn7 hm0 (by omega) hP0 hP (by rw [hsv]; split <;> omega) HZB.out.2 (by rw [hsv]; exact HQ.out.2.1 qn (by rw [← HQ.out.1]; exact HWL.out.2)) HP12.out.2 (Nat.lt_of_le_of_lt (Nat.zero_le _) HP12.out.1) (by omega) (by omega))
    have HK7 : Hid (∀ w7, Chg (Rng zb zo qn) w6.drew w7 → Chg (fun x _ => x = b ∨ x = xb) w w7) := Lib.hid (fun w7 hk7 => HK6.out.drew.then hk7 (fun x o hx f => by
      have h : x = zb := f.1
      rcases HZB.out.1 with g | g
      · exact .inr (by rw [h, g])
      · omega))
    by_cases hr0 : X1 * WB % Y1 = 0
    · obtain rfl : rn = 0 := by
        have := HRP.out
        rcases Nat.eq_zero_or_pos rn with e | e
        · exact e
        · exact absurd hr0 (this.1 e)
      have HS0 : Hid ((0 : Nat) = (if X1 * WB % Y1 = 0 then 0 else 1)) := Lib.hid (by rw [if_pos hr0])
      clear hr0
      go_wp2_with fail
      refine HFN.out.mono ?_
      rintro e w7 ⟨rfl, hn7, hk7⟩
      have HE7 := Lib.hid (HEND.out 0 w7 HS0.out hn7 hk7)
      have K7 := Lib.hid (HK7.out w7 hk7)
      have ST7 := Lib.hid (ST6.out.chg ((Chg.refl (Rng zb zo qn) w6).drew.then hk7 (fun _ _ _ f => f)) (fun x o hx f => HSZ.out x hx f.1))
      clear hn7 hk7
      go_wp2_with fail
      refine HE7.out.mono ?_
      rintro r w8 ⟨rfl, a', hab, q1, q2, q3⟩
      have ST8 := Lib.hid (ST7.out.chg q3 (fun x o hx f => by
        rcases f with f | f
        · have f : x = b := f; have := HSX.out x hx; omega
        · exact HSZ.out x hx f.1))
      have Q1 := Lib.hid q1
      have Q2 := Lib.hid q2
      have K8 := Lib.hid (K7.out.then q3 (fun x o hx h => by
        rcases h with h | h
        · exact .inl h
        · have h' : x = zb := h.1
          rcases HZB.out.1 with g | g
          · exact .inr (by rw [h', g])
          · omega))
      clear q1 q2 q3
      go_wp2_with fail
      refine leaves_cons (f := 95) (args := #[.pointer (some ⟨w2.heap.size, 0, none⟩)]) (by simp) (by simp [go_sem]) ?_
      refine (stk_free_d _ _ _ .returning ST8.out).mono ?_
      rintro e u' w9 ⟨rfl, rfl, -, hk9⟩
      refine ⟨_, results_none rfl _ _ _, rfl, a', zb, zo, qc, hab, ?_, HZB.out.1, K8.out.then hk9 (fun x o hx f => by have := HSX.out x f; omega)⟩
      rw [← HE2.out]
      exact FlA.of_even HP12.out.1 HP12.out.2 hP0 hP (Q1.out.chg hk9 (fun o f => by have := HSX.out b f; omega)) (Q2.out.chg hk9 (fun i hi f => HSZ.out _ f rfl)) HZB.out.2 HBZ.out
    · have trn : (0 : Int) < (rn : Int) := by have := HRP.out.2 hr0; omega
      have HS0 : Hid ((1 : Nat) = (if X1 * WB % Y1 = 0 then 0 else 1)) := Lib.hid (by rw [if_neg hr0])
      clear hr0
      go_wp2_with fail
      refine HFN.out.mono ?_
      rintro e w7 ⟨rfl, hn7, hk7⟩
      have HE7 := Lib.hid (HEND.out 1 w7 HS0.out hn7 hk7)
      have K7 := Lib.hid (HK7.out w7 hk7)
      have ST7 := Lib.hid (ST6.out.chg ((Chg.refl (Rng zb zo qn) w6).drew.then hk7 (fun _ _ _ f => f)) (fun x o hx f => HSZ.out x hx f.1))
      clear hn7 hk7
      go_wp2_with fail
      refine HE7.out.mono ?_
      rintro r w8 ⟨rfl, a', hab, q1, q2, q3⟩
      have ST8 := Lib.hid (ST7.out.chg q3 (fun x o hx f => by
        rcases f with f | f
        · have f : x = b := f; have := HSX.out x hx; omega
        · exact HSZ.out x hx f.1))
      have Q1 := Lib.hid q1
      have Q2 := Lib.hid q2
      have K8 := Lib.hid (K7.out.then q3 (fun x o hx h => by
        rcases h with h | h
        · exact .inl h
        · have h' : x = zb := h.1
          rcases HZB.out.1 with g | g
          · exact .inr (by rw [h', g])
          · omega))
      clear q1 q2 q3
      go_wp2_with fail
      refine leaves_cons (f := 95) (args := #[.pointer (some ⟨w2.heap.size, 0, none⟩)]) (by simp) (by simp [go_sem]) ?_
      refine (stk_free_d _ _ _ .returning ST8.out).mono ?_
      rintro e u' w9 ⟨rfl, rfl, -, hk9⟩
      refine ⟨_, results_none rfl _ _ _, rfl, a', zb, zo, qc, hab, ?_, HZB.out.1, K8.out.then hk9 (fun x o hx f => by have := HSX.out x f; omega)⟩
      rw [← HE2.out]
      exact FlA.of_even HP12.out.1 HP12.out.2 hP0 hP (Q1.out.chg hk9 (fun o f => by have := HSX.out b f; omega)) (Q2.out.chg hk9 (fun i hi f => HSZ.out _ f rfl)) HZB.out.2 HBZ.out
set_option maxRecDepth 100000 in
set_option maxHeartbeats 2000000 in
theorem float_Mul (b c base base2 P P2 M2 : Nat) (ac : Int) (n : Bool) (N Y : Nat) (F G : Int) (xb xo xc yb yo yc m0 k : Nat) (w : World) (hz : FlA ac w base b P 0 n N F xb xo 1 xc) (hy : FlX w base2 c P2 M2 false Y G yb yo 1 yc)
    (hbc : b ≠ c) (hxy : xb ≠ yb) (hxc : xb ≠ c) (hyb : yb ≠ b) (hP0 : 0 < P) (hP : P ≤ 62) (h1 : 2 ^ (P - 1) < m0) (h2 : m0 < 2 ^ P) (hb : Bnd m0 (upTo N 1 * upTo Y 1) k 1) (hF1 : -5000 ≤ F) (hF2 : F ≤ 5000) (hG1 : -5000 ≤ G) (hG2 : G ≤ 5000) (hg : Glob w) (hbs : base ≤ w.heap.size) (h17 : 17 ≤ xb) (h17b : 17 ≤ b) :
    Calls Tryz.prog 203 #[.pointer (some ⟨b, 0, none⟩), .pointer (some ⟨b, 0, none⟩), .pointer (some ⟨c, 0, none⟩)] w fun r w' => r = .returned (.pointer (some ⟨b, 0, none⟩)) ∧ ∃ a' zb zo zc, (-2 < a' ∧ a' < 2) ∧ FlA a' w' base b P 0 n m0 (F + G + blen N + blen Y - 127 + k) zb zo 1 zc ∧ (zb = xb ∨ w.heap.size ≤ zb) ∧ Chg (fun x _ => x = b ∨ x = xb) w w' := by
  have hFl := hz.fl
  have HFy := Lib.hid hy.fl
  have hF4 := hFl.set4 n
  have hk4 := hFl.put4 (Chg.refl (Blk b) w) n (fun _ => rfl)
  have k4 : Chg (Blk b) w (w.setCell ⟨b, 4, none⟩ (.bool n)).drew := hk4.drew
  have hz4 : FlA ac (w.setCell ⟨b, 4, none⟩ (.bool n)).drew base b P 0 n N F xb xo 1 xc := ⟨hF4.chg (Chg.refl No _).drew (fun _ f => f), (hz.nt.chg hk4 (fun i hi f => hz.ne f)).drewN 1, hz.m0, hz.lo, hz.hi, hz.ne, hz.own⟩
  have hy4 := hy.chg k4 (fun _ f => hbc f.symm) (fun _ f => hyb f)
  have H := Lib.hid (float_umul b c base base2 P P2 M2 ac n N Y F G xb xo xc yb yo yc m0 k _ hz4 hy4 hbc hxy hxc hyb hP0 hP h1 h2 hb hF1 hF2 hG1 hG2 (hg.chg k4 (fun x o f => by have f : x = b := f; omega)) (Nat.le_trans hbs k4.size) h17 h17b)
  have K4 := Lib.hid k4
  have hpl := hFl.plain
  obtain ⟨c0, c1, c2, c3, c4, c5, c6, -, -, -, -, -⟩ := hFl
  obtain ⟨d0, d1, d2, d3, d4, d5, d6, -, -, -, -, -⟩ := HFy.out
  have d3' := (k4.cell c 3 HFy.out.lt (fun f => hbc f.symm)).trans d3
  have c3' := hz4.fl.c3
  have f4 := hpl.free 4
  have tP : ((P : Int) == 0) = false := by simp; omega
  clear hpl hF4 hk4 hz4 k4 hy4 hz hy h1 h2 hb hg
  go_enter Tryz.func203, Tryz.ntmps203
  go_upto_region 3 with fail
  go_cut [] (fun (wx : World) => wx = (w.setCell ⟨b, 4, none⟩ (.bool n)).drew)
  case first =>
    go_region_with fail
    all_goals
      go_wp2_with fail
      go_meet
      rfl
  case rest =>
  subst hcut
  generalize (w.setCell ⟨b, 4, none⟩ (.bool n)).drew = w4 at *
  go_wp2_with fail
  refine H.out.mono ?_
  rintro r w5 ⟨rfl, a', zb, zo, zc, hab, h1, h2, h3⟩
  go_wp2_with fail
  go_ret
  exact ⟨rfl, a', zb, zo, zc, hab, h1, h2.imp id (fun h => Nat.le_trans K4.out.size h), (K4.out.mono (T := fun x _ => x = b ∨ x = xb) (fun x o _ f => .inl f)).then h3 (fun _ _ _ f => f)⟩
set_option maxRecDepth 100000 in
set_option maxHeartbeats 2000000 in
theorem float_Quo (b c base base2 P P2 M2 : Nat) (ac : Int) (n : Bool) (N Y : Nat) (F G : Int) (xb xo xc yb yo yc m0 k : Nat) (w : World) (hz : FlA ac w base b P 0 n N F xb xo 1 xc) (hy : FlX w base2 c P2 M2 false Y G yb yo 1 yc)
    (hbc : b ≠ c) (hxy : xb ≠ yb) (hxc : xb ≠ c) (hyb : yb ≠ b) (hP0 : 0 < P) (hP : P ≤ 62) (h1 : 2 ^ (P - 1) < m0) (h2 : m0 < 2 ^ P) (hb : Bnd m0 (upTo N 1 * WB) k (upTo Y 1)) (hF1 : -5000 ≤ F) (hF2 : F ≤ 5000) (hG1 : -5000 ≤ G) (hG2 : G ≤ 5000) (hg : Glob w) (hbs : base ≤ w.heap.size) (h17 : 17 ≤ xb) (h17b : 17 ≤ b) :
    Calls Tryz.prog 201 #[.pointer (some ⟨b, 0, none⟩), .pointer (some ⟨b, 0, none⟩), .pointer (some ⟨c, 0, none⟩)] w fun r w' => r = .returned (.pointer (some ⟨b, 0, none⟩)) ∧ ∃ a' zb zo zc, (-2 < a' ∧ a' < 2) ∧ FlA a' w' base b P 0 n m0 (F - G + blen N - blen Y - 63 + k) zb zo 1 zc ∧ (zb = xb ∨ w.heap.size ≤ zb) ∧ Chg (fun x _ => x = b ∨ x = xb) w w' := by
  have hFl := hz.fl
  have HFy := Lib.hid hy.fl
  have hF4 := hFl.set4 n
  have hk4 := hFl.put4 (Chg.refl (Blk b) w) n (fun _ => rfl)
  have k4 : Chg (Blk b) w (w.setCell ⟨b, 4, none⟩ (.bool n)).drew := hk4.drew
  have hz4 : FlA ac (w.setCell ⟨b, 4, none⟩ (.bool n)).drew base b P 0 n N F xb xo 1 xc := ⟨hF4.chg (Chg.refl No _).drew (fun _ f => f), (hz.nt.chg hk4 (fun i hi f => hz.ne f)).drewN 1, hz.m0, hz.lo, hz.hi, hz.ne, hz.own⟩
  have hy4 := hy.chg k4 (fun _ f => hbc f.symm) (fun _ f => hyb f)
  have H := Lib.hid (float_uquo b c base base2 P P2 M2 ac n N Y F G xb xo xc yb yo yc m0 k _ hz4 hy4 hbc hxy hxc hyb hP0 hP h1 h2 hb hF1 hF2 hG1 hG2 (hg.chg k4 (fun x o f => by have f : x = b := f; omega)) (Nat.le_trans hbs k4.size) h17 h17b)
  have K4 := Lib.hid k4
  have hpl := hFl.plain
  obtain ⟨c0, c1, c2, c3, c4, c5, c6, -, -, -, -, -⟩ := hFl
  obtain ⟨d0, d1, d2, d3, d4, d5, d6, -, -, -, -, -⟩ := HFy.out
  have d3' := (k4.cell c 3 HFy.out.lt (fun f => hbc f.symm)).trans d3
  have c3' := hz4.fl.c3
  have f4 := hpl.free 4
  have tP : ((P : Int) == 0) = false := by simp; omega
  clear hpl hF4 hk4 hz4 k4 hy4 hz hy h1 h2 hb hg
  go_enter Tryz.func201, Tryz.ntmps201
  go_upto_region 3 with fail
  go_cut [] (fun (wx : World) => wx = (w.setCell ⟨b, 4, none⟩ (.bool n)).drew)
  case first =>
    go_region_with fail
    all_goals
      go_wp2_with fail
      go_meet
      rfl
  case rest =>
  subst hcut
  generalize (w.setCell ⟨b, 4, none⟩ (.bool n)).drew = w4 at *
  go_wp2_with fail
  refine H.out.mono ?_
  rintro r w5 ⟨rfl, a', zb, zo, zc, hab, h1, h2, h3⟩
  go_wp2_with fail
  go_ret
  exact ⟨rfl, a', zb, zo, zc, hab, h1, h2.imp id (fun h => Nat.le_trans K4.out.size h), (K4.out.mono (T := fun x _ => x = b ∨ x = xb) (fun x o _ f => .inl f)).then h3 (fun _ _ _ f => f)⟩
noncomputable def scan10Rest : Code := ((Tryz.f132.body.bind (atReg 20)).getD .skip)
/-- What the scaling by powers of ten comes to. -/
def ScRes (P N m m0 : Nat) (e5 E0 : Int) : Prop :=
  (e5 = 0 ∧ E0 = blen N - P ∧ ∃ k, Bnd m0 (upTo N m) k 1) ∨
  (e5 < 0 ∧ -27 ≤ e5 ∧ m = 1 ∧ ∃ k : Nat, Bnd m0 (upTo N 1 * WB) k (upTo (5 ^ (-e5).toNat) 1) ∧ E0 = e5 - 0 + blen N - blen (5 ^ (-e5).toNat) - 63 + k) ∨
  (0 < e5 ∧ e5 ≤ 27 ∧ m = 1 ∧ ∃ k : Nat, Bnd m0 (upTo N 1 * upTo (5 ^ e5.toNat) 1) k 1 ∧ E0 = e5 + 0 + blen N + blen (5 ^ e5.toNat) - 127 + k)
set_option maxRecDepth 1000000 in
set_option maxHeartbeats 8000000 in
/-- The end of Float.scan in base 10: the value is scaled and rounded. -/
theorem scan10_rest {Q0 : Ending → World → Prop} {u1 u2 u3 u4 u5 u14 u15 u16 u17 u18 u19 u20 u21 u22 u23 u24 u25 u26 u27 u28 u29 u30 u31 u32 u33 u34 u35 u36 u37 u38 u39 u40 u41 u42 u43 u44 u45 u46 u47 u48 u49 u50 u51 u52 u53 u54 u55 u56 u57 u58 u59 u60 u61 u62 u63 u64 u65 u66 u67 u68 u69 u70 u71 u72 u73 u74 u75 u76 u77 u78 u79 u80 u81 u82 u83 u84 u85 u86 u87 u88 u89 u90 u91 u92 u93 u94 u95 u96 u97 u98 u99 u100 u101 u102 u103 u104 u105 u106 u107 u108 u109 u110 u111 u112 u113 u114 u115 u116 u117 u118 u119 u120 u121 u122 u123 u124 u125 u126 u127 u128 u129 u130 u131 u132 u133 u134 u135 u136 u137 u138 u139 u140 u141 u142 u143 u144 u145 u146 u147 u148 u149 u150 u151 u152 u153 u154 u155 u156 u157 u158 u159 u160 u161 u162 u163 u164 u165 u166 u167 u168 u169 u170 u171 u172 u173 u174 : Value} (b P : Nat) (a : Int) (f : Nat) (n : Bool) (e0 : Int) (base xb xo m xc N B : Nat) (D v e5 : Int) (m0 : Nat) (E0 : Int) (w : World) (hf : Fl w b P 0 a f n (.slice (some ⟨xb, xo, none⟩) m xc) e0) (hx : NtAt w xb xo m xc (upTo N m))
    (hm0 : 0 < m) (hN0 : N ≠ 0) (l1 : 64 * (m - 1) < blen N) (l2 : blen N ≤ 64 * m) (hm : m ≤ 30) (hP0 : 0 < P) (hP : P ≤ 62) (hne : xb ≠ b) (hbx : base ≤ xb) (hB : B = blen N) (hD1 : -2000 ≤ D) (hD2 : D ≤ 2001) (hv1 : -2000 ≤ v) (hv2 : v ≤ 2000) (he5 : e5 = (if D < 0 then D else 0) + v)
    (hn1 : 2 ^ (P - 1) < m0) (hn2 : m0 < 2 ^ P) (hres : ScRes P N m m0 e5 E0) (hg : Glob w) (h5 : P5 w) (h17b : 17 ≤ b) (h17x : 17 ≤ xb) (hbs : base ≤ w.heap.size)
    (hQ0 : ∀ (ac : Int) (zb zo zc : Nat) (w' : World), -2 < ac ∧ ac < 2 → FlA ac w' base b P 0 n m0 E0 zb zo 1 zc → Chg (fun x _ => x = b ∨ x = xb) w w' → Q0 (.returned (.tuple #[.pointer (some ⟨b, 0, none⟩), .int .i64 10, .nilIface])) w') :
    Code.wp Tryz.prog scan10Rest (bodyPost Tryz.prog Tryz.f132 Q0) ⟨#[.pointer (some ⟨b, 0, none⟩), u1, u2, u3, u4, u5, .pointer none, .int .i64 10, .nilIface, .int .u32 P, .int .i64 D, .int .i64 v, .int .i64 10, .int .i64 B, u14, u15, u16, u17, u18, u19, u20, u21, u22, u23, u24, u25, u26, u27, u28, u29, u30, u31, u32, u33, u34, u35, u36, u37, u38, u39, u40, u41, u42, u43, u44, u45, u46, u47, u48, u49, u50, u51, u52, u53, u54, u55, u56, u57, u58, u59, u60, u61, u62, u63, u64, u65, u66, u67, u68, u69, u70, u71, u72, u73, u74, u75, u76, u77, u78, u79, u80, u81, u82, u83, u84, u85, u86, u87, u88, u89, u90, u91, u92, u93, u94, u95, u96, u97, u98, u99, u100, u101, u102, u103, u104, u105, u106, u107, u108, u109, u110, u111, u112, u113, u114, u115, u116, u117, u118, u119, u120, u121, u122, u123, u124, u125, u126, u127, u128, u129, u130, u131, u132, u133, u134, u135, u136, u137, u138, u139, u140, u141, u142, u143, u144, u145, u146, u147, u148, u149, u150, u151, u152, u153, u154, u155, u156, u157, u158, u159, u160, u161, u162, u163, u164, u165, u166, u167, u168, u169, u170, u171, u172, u173, u174], []⟩ w := by
  conv => arg 2; whnf
  have HQ0 := Lib.hid hQ0
  have HF := Lib.hid hf
  have HX := Lib.hid hx
  have HL := Lib.hid (And.intro l1 (And.intro l2 hN0))
  have HNM := Lib.hid (And.intro hn1 hn2)
  have HR := Lib.hid hres
  have HG := Lib.hid hg
  have H5 := Lib.hid h5
  have HBB := Lib.hid hB
  have hB2 : B ≤ 2000 := by omega
  obtain ⟨d, hd⟩ : ∃ d : Int, d = if D < 0 then D else 0 := ⟨_, rfl⟩
  rw [← hd] at he5
  have hdb : -2000 ≤ d ∧ d ≤ 0 := by rw [hd]; split <;> omega
  obtain ⟨X1, hX1⟩ : ∃ X1 : Int, X1 = (B : Int) + d := ⟨_, rfl⟩
  obtain ⟨X2, hX2⟩ : ∃ X2 : Int, X2 = X1 + v := ⟨_, rfl⟩
  have hX2e : X2 = (B : Int) + e5 := by omega
  have HX2 := Lib.hid hX2e
  have hXb : -10000 ≤ X2 ∧ X2 ≤ 10000 := by omega
  have heb : -5000 ≤ e5 ∧ e5 ≤ 5000 := by omega
  have HDd := Lib.hid hd
  have HX1 := Lib.hid hX1
  have k4 : IntKind.i64.wrap (X1 + v) = X2 := by rw [IntKind.wrap_i64]; omega
  have k5 : IntKind.i64.wrap (d + v) = e5 := by rw [IntKind.wrap_i64]; omega
  have q1 : decide ((-2147483648 : Int) ≤ X2) = true := decide_eq_true (by omega)
  have q2 : decide (X2 ≤ (2147483647 : Int)) = true := decide_eq_true (by omega)
  have q3 : IntKind.i32.wrap X2 = X2 := by rw [IntKind.wrap_i32]; omega
  have hlt := hf.lt
  have hxl := hx.1.plain.lt
  obtain ⟨c0, c1, c2, c3, c4, c5, c6, -, hp, -, -, -⟩ := hf
  have f0 := hp.free 0
  have f3 := hp.free 3
  have f6 := hp.free 6
  clear hp hQ0 hx l1 l2 hn1 hn2 hres hg h5 hB hd hX1 hX2 hX2e he5
  go_upto_if 93 with fail
  go_cut [13, 14] (fun (v13 v14 : Value) (wx : World) => v13 = .int .i64 X1 ∧ v14 = .int .i64 d ∧ w = wx)
  case first =>
    by_cases hD : D < 0
    · have hdD : d = D := by rw [HDd.out, if_pos hD]
      have k1 : IntKind.i64.wrap ((B : Int) + D) = X1 := by rw [HX1.out, IntKind.wrap_i64]; omega
      have tD : decide (D < 0) = true := decide_eq_true hD
      subst hdD
      go_wp2_with fail
      go_meet
      exact ⟨rfl, rfl, rfl⟩
    · have hdD : d = 0 := by rw [HDd.out, if_neg hD]
      have hX1 : (B : Int) = X1 := by rw [HX1.out, hdD]; omega
      have tD : decide (D < 0) = false := decide_eq_false hD
      subst hdD
      go_wp2_with fail
      go_meet
      exact ⟨by first | rw [hX1] | rw [← hX1] | simp [hX1], rfl, rfl⟩
  case rest =>
  obtain ⟨rfl, rfl, rfl⟩ := hcut
  clear HDd HX1
  go_upto_if 150 with fail
  have F7 := ((HF.out.set0 P).set3 1 (by decide)).set6 X2
  have hk7 := (HF.out.set0 P |>.set3 1 (by decide)).put6 ((HF.out.set0 P).put3 (HF.out.put0 (Chg.refl (Blk b) w) P (fun _ => rfl)) 1 (by decide) (fun _ => rfl)) X2 (fun _ => rfl)
  have X7 := HX.out.chg hk7 (fun i hi h => hne h)
  have HF7 := Lib.hid F7
  have HK7 := Lib.hid hk7
  have HX7 := Lib.hid X7
  have hsz7 := hk7.size
  have HG7 := Lib.hid (HG.out.chg hk7 (fun x o g => by have g : x = b := g; omega))
  have H57 := Lib.hid (H5.out.chg hk7 (fun o g => by have g : (7 : Nat) = b := g; omega))
  clear F7 hk7 X7 c0 c1 c2 c3 c4 c5 c6 f0 f3 f6 HF HX HG H5
  generalize ((w.setCell ⟨b, 0, none⟩ (.int .u32 P)).setCell ⟨b, 3, none⟩ (.int .u8 (1 : Nat))).setCell ⟨b, 6, none⟩ (.int .i32 X2) = w7 at *
  rcases HR.out with ⟨h0, hE, k, hbd⟩ | ⟨hneg, h27, hm1, k, hbd, hE⟩ | ⟨hpos, h27, hm1, k, hbd, hE⟩
  · have t1 : (e5 == 0) = true := by rw [h0]; rfl
    have hrr := hbd.round (mw := m) (by decide) hP0 HNM.out.1 HNM.out.2 (by rw [Nat.div_one, blen_upTo hN0 hm0 HL.out.2.1]; omega)
    rw [Nat.div_one, Nat.mod_one, if_pos rfl] at hrr
    have hup : upTo (upTo N m) m = upTo N m := by
      show upTo N m * 2 ^ (64 * m - blen (upTo N m)) = upTo N m
      rw [blen_upTo hN0 hm0 HL.out.2.1, Nat.sub_self, Nat.pow_zero, Nat.mul_one]
    rw [hup] at hrr
    have HS := Lib.hid (float_round_even b P a n X2 xb xo m xc (upTo N m) 0 m0 w7 HF7.out HX7.out hm0 (by omega) hP0 hP (by decide) hne hrr HNM.out.2 (Nat.lt_of_le_of_lt (Nat.zero_le _) HNM.out.1))
    have HE : Hid (E0 = X2 - (P : Int)) := Lib.hid (by rw [hE, HX2.out, h0, HBB.out]; omega)
    clear hrr hup hbd hE h0
    go_wp2_with fail
    refine HS.out.mono ?_
    rintro r w8 ⟨rfl, a', hab, q1, q2, q3⟩
    have Q1 := Lib.hid q1
    have Q2 := Lib.hid q2
    have Q3 := Lib.hid ((HK7.out.mono (T := fun x _ => x = b ∨ x = xb) (fun x o _ g => .inl g)).then q3 (fun x o hx h => by
      rcases h with h | h
      · exact .inl h
      · exact .inr h.1))
    clear q1 q2 q3
    go_wp2_with fail
    go_ret3
    refine HQ0.out a' xb xo xc w8 hab ?_ Q3.out
    rw [HE.out]
    exact FlA.of_even HNM.out.1 HNM.out.2 hP0 hP Q1.out Q2.out hne hbx
  · have t1 : (e5 == 0) = false := by simp; omega
    have t2 : decide (e5 < 0) = true := decide_eq_true hneg
    obtain ⟨nn, hnn⟩ : ∃ nn : Nat, nn = (-e5).toNat := ⟨_, rfl⟩
    rw [← hnn] at hbd hE
    have e9 : -e5 = (nn : Int) := by omega
    have e10 : IntKind.i64.wrap (nn : Int) = (nn : Int) := by rw [IntKind.wrap_i64]; omega
    have e11 : IntKind.u64.wrap (nn : Int) = (nn : Int) := by rw [IntKind.wrap_u64]; omega
    have ePP : IntKind.u64.wrap ((P : Int) + 64) = ((P + 64 : Nat) : Int) := by rw [IntKind.wrap_u64]; omega
    subst hm1
    obtain ⟨W, hW⟩ : ∃ W, W = w7.alloc (.cells #[.int .u32 0, .int .u8 0, .int .i8 0, .int .u8 0, .bool false, .slice none 0 0, .int .i32 0] 176) := ⟨_, rfl⟩
    have kW : Chg No w7 W := by rw [hW]; exact (Chg.refl No w7).alloc _
    have hsW : W.heap.size = w7.heap.size + 1 := by rw [hW]; simp
    have FN : Fl W w7.heap.size 0 0 0 0 false (.slice none 0 0) 0 := by rw [hW]; exact Fl.new w7 (by have := HG7.out.size; omega)
    have HPr := Lib.hid (float_Prec b P 0 a 1 n _ _ W (HF7.out.chg kW (fun _ g => g)) (by omega))
    have HSP := Lib.hid (float_SetPrec_new w7.heap.size (P + 64) 0 0 0 false (.slice none 0 0) 0 W FN (by omega) (by omega))
    have KW := Lib.hid kW
    have HHW := Lib.hid hW
    have HE := Lib.hid hE
    have HBD := Lib.hid hbd
    have HSW := Lib.hid hsW
    have h727 : nn ≤ 27 := by omega
    clear hbd hE kW FN hnn hW hsW
    go_wp2_with fail
    rw [← HHW.out]
    refine HPr.out.mono ?_
    rintro r w8 ⟨rfl, rfl⟩
    go_wp2_with fail
    refine HSP.out.mono ?_
    rintro r w9 ⟨rfl, f9, k9⟩
    have K9 := KW.out.then k9 (S := No) (fun x o hx g => by have g : x = w7.heap.size := g; omega)
    have HP5 := Lib.hid (float_pow5 w7.heap.size (P + 64) 0 0 0 false 0 nn w9 f9 (by omega) (by omega) h727 (H57.out.chg K9 (fun _ g => g)) (by have := HG7.out.size; have := K9.size; omega))
    have HK9 := Lib.hid K9
    clear f9 k9 K9 HPr HSP
    go_wp2_with fail
    refine HP5.out.mono ?_
    rintro r w10 ⟨rfl, yb, yo, yc, hy, hk10⟩
    have K10 := HK9.out.then hk10 (S := No) (fun x o hx g => by have g : x = w7.heap.size := g; omega)
    have hyo := hy.own
    have hs9 := HK9.out.size
    have hl7 := HX7.out.1.plain.lt
    have hb7 := HF7.out.lt
    have HFA : FlA a w10 base b P 0 n N e5 xb xo 1 xc := ⟨by rw [← HBB.out, ← HX2.out]; exact HF7.out.chg K10 (fun _ g => g), HX7.out.chg K10 (fun _ _ g => g), by decide, HL.out.1, HL.out.2.1, hne, hbx⟩
    have HQu := Lib.hid (float_Quo b w7.heap.size base w9.heap.size P (P + 64) 0 a n N (5 ^ nn) e5 0 xb xo xc yb yo yc m0 k w10 HFA hy (by omega) (by omega) (by omega) (by omega) hP0 hP HNM.out.1 HNM.out.2 HBD.out (by omega) (by omega) (by decide) (by decide) (HG7.out.no K10) (by have := K10.size; omega) h17x h17b)
    have HK10 := Lib.hid K10
    clear HFA hy hk10 K10 HP5
    go_wp2_with fail
    refine HQu.out.mono ?_
    rintro r w11 ⟨rfl, a', zb, zo, zc, hab, h1, h2, h3⟩
    have H1 := Lib.hid h1
    have H3 := Lib.hid ((HK7.out.mono (T := fun x _ => x = b ∨ x = xb) (fun x o _ g => .inl g)).then ((HK10.out.no (S := fun x _ => x = b ∨ x = xb)).then h3 (fun _ _ _ g => g)) (fun _ _ _ g => g))
    clear h1 h2 h3
    go_wp2_with fail
    go_ret3
    exact HQ0.out a' zb zo zc w11 hab (by rw [HE.out]; exact H1.out) H3.out
  · have t1 : (e5 == 0) = false := by simp; omega
    have t2 : decide (e5 < 0) = false := decide_eq_false (by omega)
    obtain ⟨nn, hnn⟩ : ∃ nn : Nat, nn = e5.toNat := ⟨_, rfl⟩
    rw [← hnn] at hbd hE
    have e9 : e5 = (nn : Int) := by omega
    have e10 : IntKind.i64.wrap (nn : Int) = (nn : Int) := by rw [IntKind.wrap_i64]; omega
    have e11 : IntKind.u64.wrap (nn : Int) = (nn : Int) := by rw [IntKind.wrap_u64]; omega
    have ePP : IntKind.u64.wrap ((P : Int) + 64) = ((P + 64 : Nat) : Int) := by rw [IntKind.wrap_u64]; omega
    subst hm1
    obtain ⟨W, hW⟩ : ∃ W, W = w7.alloc (.cells #[.int .u32 0, .int .u8 0, .int .i8 0, .int .u8 0, .bool false, .slice none 0 0, .int .i32 0] 176) := ⟨_, rfl⟩
    have kW : Chg No w7 W := by rw [hW]; exact (Chg.refl No w7).alloc _
    have hsW : W.heap.size = w7.heap.size + 1 := by rw [hW]; simp
    have FN : Fl W w7.heap.size 0 0 0 0 false (.slice none 0 0) 0 := by rw [hW]; exact Fl.new w7 (by have := HG7.out.size; omega)
    have HPr := Lib.hid (float_Prec b P 0 a 1 n _ _ W (HF7.out.chg kW (fun _ g => g)) (by omega))
    have HSP := Lib.hid (float_SetPrec_new w7.heap.size (P + 64) 0 0 0 false (.slice none 0 0) 0 W FN (by omega) (by omega))
    have KW := Lib.hid kW
    have HHW := Lib.hid hW
    have HE := Lib.hid hE
    have HBD := Lib.hid hbd
    have HSW := Lib.hid hsW
    have h727 : nn ≤ 27 := by omega
    clear hbd hE kW FN hnn hW hsW
    go_wp2_with fail
    rw [← HHW.out]
    refine HPr.out.mono ?_
    rintro r w8 ⟨rfl, rfl⟩
    go_wp2_with fail
    refine HSP.out.mono ?_
    rintro r w9 ⟨rfl, f9, k9⟩
    have K9 := KW.out.then k9 (S := No) (fun x o hx g => by have g : x = w7.heap.size := g; omega)
    have HP5 := Lib.hid (float_pow5 w7.heap.size (P + 64) 0 0 0 false 0 nn w9 f9 (by omega) (by omega) h727 (H57.out.chg K9 (fun _ g => g)) (by have := HG7.out.size; have := K9.size; omega))
    have HK9 := Lib.hid K9
    clear f9 k9 K9 HPr HSP
    go_wp2_with fail
    refine HP5.out.mono ?_
    rintro r w10 ⟨rfl, yb, yo, yc, hy, hk10⟩
    have K10 := HK9.out.then hk10 (S := No) (fun x o hx g => by have g : x = w7.heap.size := g; omega)
    have hyo := hy.own
    have hs9 := HK9.out.size
    have hl7 := HX7.out.1.plain.lt
    have hb7 := HF7.out.lt
    have HFA : FlA a w10 base b P 0 n N e5 xb xo 1 xc := ⟨by rw [← HBB.out, ← HX2.out]; exact HF7.out.chg K10 (fun _ g => g), HX7.out.chg K10 (fun _ _ g => g), by decide, HL.out.1, HL.out.2.1, hne, hbx⟩
    have HQu := Lib.hid (float_Mul b w7.heap.size base w9.heap.size P (P + 64) 0 a n N (5 ^ nn) e5 0 xb xo xc yb yo yc m0 k w10 HFA hy (by omega) (by omega) (by omega) (by omega) hP0 hP HNM.out.1 HNM.out.2 HBD.out (by omega) (by omega) (by decide) (by decide) (HG7.out.no K10) (by have := K10.size; omega) h17x h17b)
    have HK10 := Lib.hid K10
    clear HFA hy hk10 K10 HP5
    go_wp2_with fail
    refine HQu.out.mono ?_
    rintro r w11 ⟨rfl, a', zb, zo, zc, hab, h1, h2, h3⟩
    have H1 := Lib.hid h1
    have H3 := Lib.hid ((HK7.out.mono (T := fun x _ => x = b ∨ x = xb) (fun x o _ g => .inl g)).then ((HK10.out.no (S := fun x _ => x = b ∨ x = xb)).then h3 (fun _ _ _ g => g)) (fun _ _ _ g => g))
    clear h1 h2 h3
    go_wp2_with fail
    go_ret3
    exact HQ0.out a' zb zo zc w11 hab (by rw [HE.out]; exact H1.out) H3.out
set_option maxRecDepth 1000000 in
set_option maxHeartbeats 8000000 in
theorem float_scan10 (m0 : Nat) (E0 : Int) (bs b P : Nat) (a : Int) (f : Nat) (n0 n : Bool) (e0 : Int) (r : Nat) (l : List Nat) (j e1 : Nat) (st : Nat × Nat × Int) (v : Int) (w : World)
    (hf : Fl w b P 0 a f n0 (.slice none 0 0) e0) (hP0 : 0 < P) (hP2 : P ≤ 62)
    (hsg : Calls Tryz.prog 92 #[.iface 133 (.pointer (some ⟨r, 0, none⟩))] (w.setCell ⟨b, 3, none⟩ (.int .u8 0)) (SgnOut n r l j (w.setCell ⟨b, 3, none⟩ (.int .u8 0))))
    (hsc : ∀ W, Chg (fun x _ => x = r ∨ x = b) w W → RdAt W r l j → Calls Tryz.prog 89 #[.slice none 0 0, .iface 133 (.pointer (some ⟨r, 0, none⟩)), .int .i64 bs, .bool true] W (ScanOut 10 r l e1 st W))
    (hex : ∀ W, Chg (fun x _ => x = r ∨ x = b) w W → RdAt W r l e1 → Calls Tryz.prog 93 #[.iface 133 (.pointer (some ⟨r, 0, none⟩)), .bool true, .bool (decide (bs = 0))] W (ExpOut r l v 10 W))
    (hg : Glob w) (h5 : P5 w) (hn1 : 2 ^ (P - 1) < m0) (hn2 : m0 < 2 ^ P) (hres : ScRes P st.2.1 ((blen st.2.1 + 63) / 64) m0 ((if cntOut st < 0 then cntOut st else 0) + v) E0) (hN : st.2.1 ≠ 0) (hNb : blen st.2.1 ≤ 1500) (hv1 : -2000 ≤ v) (hv2 : v ≤ 2000) (hst : st.1 ≤ 2000 ∧ -1 ≤ st.2.2 ∧ st.2.2 ≤ st.1)
    (hrb : r ≠ b) (hr17 : 17 ≤ r) (h17 : 17 ≤ w.heap.size) :
    Calls Tryz.prog 132 #[.pointer (some ⟨b, 0, none⟩), .iface 133 (.pointer (some ⟨r, 0, none⟩)), .int .i64 bs] w (ScPostA w.heap.size b P 0 n m0 E0 r l 10 w) := by
  have F0 := hf.set3 0 (by decide)
  have K0 := hf.put3 (Chg.refl (Blk b) w) 0 (by decide) (fun _ => rfl)
  have HF0 := Lib.hid F0
  have HK0 : Hid (Chg (fun x _ => x = r ∨ x = b) w (w.setCell ⟨b, 3, none⟩ (.int .u8 0))) := Lib.hid (K0.mono (fun x o _ h => .inr h))
  have HSg := Lib.hid hsg
  have HSc := Lib.hid hsc
  have HEx := Lib.hid hex
  have HGG := Lib.hid hg
  have H55 := Lib.hid h5
  have HNM := Lib.hid (And.intro hn1 hn2)
  have HRES := Lib.hid hres
  have HNb := Lib.hid hNb
  have HN0 := Lib.hid hN
  have HST := Lib.hid hst
  obtain ⟨Q0, hQ0⟩ : ∃ Q0, Q0 = ScPostA w.heap.size b P 0 n m0 E0 r l 10 w := ⟨_, rfl⟩
  rw [← hQ0]
  have HQ0 : Hid (∀ e w', ScPostA w.heap.size b P 0 n m0 E0 r l 10 w e w' → Q0 e w') := Lib.hid (by rw [hQ0]; exact fun _ _ h => h)
  obtain ⟨c0, c1, c2, c3, c4, c5, c6, -, hp, hb17, -, -⟩ := hf
  have f3 := hp.free 3
  have tP : ((P : Int) == 0) = false := by simp; omega
  clear hp hQ0 hsg hsc hex hNb hN hst F0 K0 hg h5 hn1 hn2 hres
  go_enter Tryz.func132, Tryz.ntmps132
  go_wp2_with fail
  refine HSg.out.mono ?_
  rintro e w1 ⟨rfl, hr1, hk1⟩
  have F1 := HF0.out.chg hk1 (fun o h => hrb h.symm)
  have HF1 := Lib.hid F1
  have HK1 := Lib.hid (HK0.out.then hk1 (fun x o _ h => .inl h))
  have HR1 := Lib.hid hr1
  have f14 := F1.plain.free 4
  have g4 := F1.c4
  clear c0 c1 c2 c3 c4 c5 c6 f3 hr1 hk1 HSg F1
  go_upto_region 6 with fail
  have F2 := HF1.out.set4 n
  have HF2 := Lib.hid F2
  have HK2 := Lib.hid (HF1.out.put4 HK1.out n (fun _ => .inr rfl))
  have HR2 := Lib.hid (HR1.out.chg (HF1.out.put4 (Chg.refl (Blk b) w1) n (fun _ => rfl)) (fun o h => hrb h))
  have HSc2 := Lib.hid (HSc.out _ HK2.out HR2.out)
  clear F2
  generalize w1.setCell ⟨b, 4, none⟩ (.bool n) = w2 at *
  obtain ⟨c0, c1, c2, c3, c4, c5, c6, -, hp, -, -, -⟩ := HF2.out
  clear hp HSc f14 g4
  go_wp2_with fail
  refine HSc2.out.mono ?_
  rintro e w3 ⟨z, rfl, hz, hr3, hk3, hz3⟩
  obtain ⟨xb, xo, m, xc, rfl, hnt, hm0⟩ : ∃ xb xo m xc, z = .slice (some ⟨xb, xo, none⟩) m xc ∧ NtAt w3 xb xo m xc st.2.1 ∧ 0 < m := by
    rcases hz with ⟨_, h⟩ | ⟨xb, xo, m, xc, h, hn, h2, h3⟩
    · exact absurd h HN0.out
    · refine ⟨xb, xo, m, xc, h, ⟨hn, h2, h3⟩, ?_⟩
      rcases Nat.eq_zero_or_pos m with e | e
      · subst e; exact absurd h2.symm HN0.out
      · exact e
  obtain ⟨l1, l2⟩ := blen_words hnt hm0
  have hle := hnt.1.le
  have hxb : w2.heap.size ≤ xb := hz3 xb xo ⟨rfl, Nat.le_refl _, by show xo < xo + xc; omega⟩
  have hne : xb ≠ b := by have := HF2.out.lt; omega
  have hnr : xb ≠ r := by have := HR2.out.2.1.lt; omega
  have hwx : w.heap.size ≤ xb := Nat.le_trans HK2.out.size hxb
  have F3 := HF2.out.chg hk3 (fun o h => hrb h.symm)
  have HF3 := Lib.hid F3
  have HK3 := Lib.hid (HK2.out.then hk3 (fun x o _ h => .inl h))
  have HR3 := Lib.hid hr3
  have HNT3 := Lib.hid hnt
  have f5 := F3.plain.free 5
  have g5 := F3.c5
  have hmb : m ≤ 1000 := by have := HNb.out; omega
  obtain ⟨D, hDd⟩ : ∃ D, D = cntOut st := ⟨_, rfl⟩
  rw [← hDd]
  have HDD := Lib.hid hDd
  clear c0 c1 c2 c3 c4 c5 c6 hz hr3 hk3 hz3 hnt F3 HSc2 hDd
  go_upto_region 9 with fail
  have HF4 := Lib.hid (HF3.out.set5 (.slice (some ⟨xb, xo, none⟩) m xc) ⟨_, _, _, rfl⟩)
  have hk4 := HF3.out.put5 (Chg.refl (Blk b) w3) (.slice (some ⟨xb, xo, none⟩) m xc) (fun _ => rfl)
  have HK4 := Lib.hid (HF3.out.put5 HK3.out (.slice (some ⟨xb, xo, none⟩) m xc) (fun _ => .inr rfl))
  have HR4 := Lib.hid (HR3.out.chg hk4 (fun o h => hrb h))
  have HNT4 := Lib.hid (HNT3.out.chg hk4 (fun i hi h => hne h))
  have HEx4 := Lib.hid (HEx.out _ HK4.out HR4.out)
  clear f5 g5 hk4 HEx
  generalize w3.setCell ⟨b, 5, none⟩ (.slice (some ⟨xb, xo, none⟩) m xc) = w4 at *
  obtain ⟨c0, c1, c2, c3, c4, c5, c6, -, hp, -, -, -⟩ := HF4.out
  clear hp
  obtain ⟨so, hso⟩ : ∃ so, so = decide (bs = 0) := ⟨_, rfl⟩
  have tbs : ((bs : Int) == 0) = so := by rw [hso]; by_cases h : bs = 0 <;> simp [h]
  rw [← hso] at HEx4
  clear hso
  go_wp2_with fail
  refine HEx4.out.mono ?_
  rintro e w5 ⟨rfl, hr5, hk5⟩
  have F5 := HF4.out.chg hk5 (fun o h => hrb h.symm)
  have HF5 := Lib.hid F5
  have HK5 := Lib.hid (HK4.out.then hk5 (fun x o _ h => .inl h))
  have HR5 := Lib.hid hr5
  have N5 := HNT4.out.chg hk5 (fun i hi h => hnr h)
  have HFN := Lib.hid (fnorm_val xb xo m xc _ w5.drew (N5.chg ((Chg.refl No w5).drew) (fun _ _ f => f)) hm0 hmb)
  clear c0 c1 c2 c3 c4 c5 c6 HEx4 tbs hr5 hk5 N5
  obtain ⟨c0, c1, c2, c3, c4, c5, c6, -, hp, -, -, -⟩ := F5
  have tm : ((m : Int) == 0) = false := by simp; omega
  clear hp
  go_upto_region 19 with fail
  obtain ⟨B, hB⟩ : ∃ B, B = blen st.2.1 := ⟨_, rfl⟩
  rw [← hB] at HFN l1 l2
  have HBB := Lib.hid hB
  obtain ⟨S, hS⟩ : ∃ S, S = 64 * m - B := ⟨_, rfl⟩
  rw [← hS] at HFN
  have hSm : S + B = 64 * m := by omega
  have eB : (m : Int) * 64 - (S : Int) = (B : Int) := by omega
  have hB3 : B ≤ 1500 := by rw [hB]; exact HNb.out
  have hB0 : 1 ≤ B := by omega
  have HL := Lib.hid (And.intro l1 l2)
  clear hB hS hSm l1 l2
  have w1e : IntKind.i64.wrap ((m : Int) * 64) = (m : Int) * 64 := IntWalk.i64_in _ (by omega)
  have w3e : IntKind.i64.wrap (B : Int) = (B : Int) := IntWalk.i64_in _ (by omega)
  go_cut [13] (fun (v13 : Value) (wx : World) => v13 = .int .i64 B ∧ Hid (Fl wx b P 0 a 0 n (.slice (some ⟨xb, xo, none⟩) m xc) e0) ∧ Hid (NtAt wx xb xo m xc (upTo st.2.1 m)) ∧ Hid (Chg (fun x _ => x = r ∨ x = b) w wx) ∧ Hid (RdAt wx r l l.length))
  case first =>
    go_region_with (go_at_call 187; refine HFN.out.mono ?_; rintro e w6 ⟨rfl, hn6, hk6⟩; have F6 := HF5.out.chg ((Chg.refl (Rng xb xo m) w5).drew.then hk6 (fun _ _ _ h => h)) (fun o h => hne h.1.symm); have g5' := F6.c5; have HF6 := Lib.hid F6; have HN6 := Lib.hid hn6; have HK6 := Lib.hid (HK5.out.drew.then hk6 (fun x o hx h => by have := h.1; omega)); have HR6 := Lib.hid (HR5.out.chg ((Chg.refl (Rng xb xo m) w5).drew.then hk6 (fun _ _ _ h => h)) (fun o h => hnr h.1.symm)); clear hn6 hk6 F6)
    all_goals
      go_wp2_with fail
      go_meet
      exact ⟨by first | rfl | rw [w3e], HF6, HN6, HK6, HR6⟩
  case rest =>
  obtain ⟨rfl, HF6, HN6, HK6, HR6⟩ := hcut
  generalize wc = w6 at *
  clear HFN HNT3 HNT4 HK5 HF5 HR5 c0 c1 c2 c3 c4 c5 c6
  have hDD := HDD.out
  have hST := HST.out
  have hmm : m = (blen st.2.1 + 63) / 64 := by rw [← HBB.out]; have := HL.out; omega
  have hDr : -2001 < D ∧ D ≤ 2001 := by
    rw [hDD]; unfold cntOut
    split <;> omega
  have HRR : Hid (ScRes P st.2.1 m m0 ((if D < 0 then D else 0) + v) E0) := Lib.hid (by rw [hmm, hDD]; exact HRES.out)
  have hb17' : 17 ≤ b := hb17
  have hG6 : Glob w6 := HGG.out.chg HK6.out (fun x o g => by rcases g with g | g <;> omega)
  have hP6 : P5 w6 := H55.out.chg HK6.out (fun o g => by rcases g with g | g <;> omega)
  have hx17 : 17 ≤ xb := by omega
  have hws := HK6.out.size
  have hl1 := HL.out
  rw [HBB.out] at hl1
  have hm30 : m ≤ 30 := by have := HL.out; omega
  have HEND : Hid (∀ (ac : Int) (zb zo zc : Nat) (w' : World), -2 < ac ∧ ac < 2 → FlA ac w' w.heap.size b P 0 n m0 E0 zb zo 1 zc → Chg (fun x _ => x = b ∨ x = xb) w6 w' → Q0 (.returned (.tuple #[.pointer (some ⟨b, 0, none⟩), .int .i64 10, .nilIface])) w') := Lib.hid (by
    intro ac zb zo zc w' hab hfa hk
    have hbl : blen m0 ≤ P := blen_le (Nat.ne_of_gt (Nat.lt_of_le_of_lt (Nat.zero_le _) HNM.out.1)) HNM.out.2
    refine HQ0.out _ _ ⟨rfl, ⟨ac, m0, 0, zb, zo, 1, zc, hab, by rw [Nat.pow_zero, Nat.mul_one], hbl, ?_⟩, HR6.out.chg hk (fun o g => ?_), HK6.out.then hk (fun x o hx g => ?_)⟩
    · rw [show E0 + ((0 : Nat) : Int) = E0 by omega]; exact hfa
    · rcases g with g | g
      · exact hrb g
      · exact hnr g.symm
    · rcases g with g | g
      · exact .inr g
      · omega)
  clear hDD hST
  go_upto_region 20 with (show Code.wp _ (Code.seq (Code.region 20 _ _) _) _ _ _; exact scan10_rest b P a 0 n e0 w.heap.size xb xo m xc st.2.1 B D v _ m0 E0 w6 HF6.out HN6.out hm0 HN0.out hl1.1 hl1.2 hm30 hP0 hP2 hne hwx HBB.out (by omega) (by omega) hv1 hv2 rfl HNM.out.1 HNM.out.2 HRR.out hG6 hP6 hb17' hx17 hws HEND.out)
/-- A text in base 10 whose mantissa and exponent the scan reads is parsed whole. -/
theorem parse_with10 (m0 : Nat) (E0 : Int) (b P : Nat) (n : Bool) (l : List Nat) (j e1 : Nat) (st : Nat × Nat × Int) (v : Int) (eo : Addr) (w : World) (hf : Fl w b P 0 0 0 false (.slice none 0 0) 0) (h17b : 17 ≤ b) (hP0 : 0 < P) (hP2 : P ≤ 62)
    (hl : ∀ x ∈ l, x < 256) (hlen : l.length ≤ 2000) (h0 : 0 < l.length) (hI : NotInf l) (hE : w.cell? ⟨0, 0, none⟩ = some (.iface 245 (.pointer (some eo)))) (hs : SignAt n l j) (hg : Glob w) (h5 : P5 w)
    (hsc : ∀ W r, 17 ≤ W.heap.size → W.cell? ⟨0, 0, none⟩ = some (.iface 245 (.pointer (some eo))) → RdAt W r l j → Calls Tryz.prog 89 #[.slice none 0 0, .iface 133 (.pointer (some ⟨r, 0, none⟩)), .int .i64 10, .bool true] W (ScanOut 10 r l e1 st W))
    (hex : ∀ W r, 17 ≤ W.heap.size → W.cell? ⟨0, 0, none⟩ = some (.iface 245 (.pointer (some eo))) → RdAt W r l e1 → Calls Tryz.prog 93 #[.iface 133 (.pointer (some ⟨r, 0, none⟩)), .bool true, .bool false] W (ExpOut r l v 10 W))
    (hn1 : 2 ^ (P - 1) < m0) (hn2 : m0 < 2 ^ P) (hres : ScRes P st.2.1 ((blen st.2.1 + 63) / 64) m0 ((if cntOut st < 0 then cntOut st else 0) + v) E0)
    (hN : st.2.1 ≠ 0) (hNb : blen st.2.1 ≤ 1500) (hv1 : -2000 ≤ v) (hv2 : v ≤ 2000) (hst : st.1 ≤ 2000 ∧ -1 ≤ st.2.2 ∧ st.2.2 ≤ st.1) :
    Calls Tryz.prog 82 #[.pointer (some ⟨b, 0, none⟩), .string (txt l), .int .i64 10] w (PaPostA b P 0 n m0 E0 10 w) := by
  have hb := hf.lt
  refine float_ParseA 10 b P 0 n _ _ l 10 eo w hb hl hlen hI hE h17b (fun W hW hR => ?_)
  have hfW := hf.chg hW (fun _ f => f)
  have hEW := eof_chg hE hW (fun f => f)
  have h17W : 17 ≤ W.heap.size := Nat.le_trans (by omega) hW.size
  have hrb : w.heap.size ≠ b := by omega
  refine float_scan10 m0 E0 10 b P 0 0 false n 0 w.heap.size l j e1 st v W hfW hP0 hP2 ?_ (fun W2 h2 hR2 => hsc W2 _ (Nat.le_trans h17W h2.size) (eof_chg hEW h2 (fun f => by rcases f with f | f <;> omega)) hR2)
    (fun W2 h2 hR2 => hex W2 _ (Nat.le_trans h17W h2.size) (eof_chg hEW h2 (fun f => by rcases f with f | f <;> omega)) hR2) (hg.no hW) (h5.chg hW (fun _ f => f)) hn1 hn2 hres hN hNb hv1 hv2 hst hrb (by omega) h17W
  have hR3 : RdAt (W.setCell ⟨b, 3, none⟩ (.int .u8 0)) w.heap.size l 0 := by
    obtain ⟨⟨g0, g1, p, g2⟩, g3, g4⟩ := hR
    exact ⟨⟨(cell_setCell_ne _ _ _ _ _ _ (.inl hrb)).trans g0, (cell_setCell_ne _ _ _ _ _ _ (.inl hrb)).trans g1, p, (cell_setCell_ne _ _ _ _ _ _ (.inl hrb)).trans g2⟩, g3.setCell _ _, g4⟩
  refine (scan_sign w.heap.size l 0 _ hR3 hl h0 (by omega)).mono ?_
  rintro e w' ⟨sb, sj, rfl, s1, s2, s3, s4, s5⟩
  rcases hs with ⟨rfl, g1, rfl⟩ | ⟨rfl, g1, g2, rfl⟩
  · obtain ⟨rfl, rfl⟩ := s1 g1
    exact ⟨rfl, s4, s5⟩
  · obtain ⟨rfl, rfl⟩ := s3 g1 g2
    exact ⟨rfl, s4, s5⟩
/-- A mantissa in base 10 with a point is read whole. -/
theorem mnt_pt {ds : List Nat} {ch : Nat → Nat} {i k : Nat} (hd : ∀ d ∈ ds, d < 10) (hlen : ds.length = i + k) (h1 : ∀ p, p < i → ch p = 48 + ds.getD p 0) (h2 : ch i = 46) (h3 : ∀ p, p < k → ch (i + 1 + p) = 48 + ds.getD (i + p) 0) :
    Mnt 10 0 true ch (ds.length + 1) ∧ StN 10 0 ch (ds.length + 1) = (ds.length, Nd ds, (i : Int)) := by
  have hlt : ∀ p, p < ds.length → ds.getD p 0 < 10 := fun p hp => by
    rw [List.getD_eq_getElem?_getD, List.getElem?_eq_getElem hp]; exact hd _ (List.getElem_mem hp)
  have hv : ∀ d, d < 10 → dgv (48 + d) = d ∧ 48 + d ≠ 46 ∧ IsDg 10 (48 + d) := fun d h => by
    have h1 : dgv (48 + d) = d := by unfold dgv; split <;> omega
    exact ⟨h1, by omega, .inl ⟨by omega, by omega⟩, by rw [h1]; exact h⟩
  have tk : ∀ j, j < ds.length → Nd (ds.take (j + 1)) = 10 * Nd (ds.take j) + ds.getD j 0 := fun j hj => by
    have h2 : ds.take (j + 1) = ds.take j ++ [ds.getD j 0] := by
      rw [List.take_add_one, List.getD_eq_getElem?_getD, List.getElem?_eq_getElem hj]; rfl
    rw [h2, Nd_snoc]
  have key1 : ∀ j, j ≤ i → StN 10 0 ch j = (j, Nd (ds.take j), -1) := by
    intro j
    induction j with
    | zero => intro _; simp [StN, Nd]
    | succ j ih =>
      intro hi
      obtain ⟨g1, g2, g3⟩ := hv _ (hlt j (by omega))
      have e := h1 j (by omega)
      rw [StN_fg (by rw [e]; exact g2), ih (by omega), e, g1, tk j (by omega), Nat.mul_comm]
  have key2 : ∀ j, j ≤ k → StN 10 0 ch (i + 1 + j) = (i + j, Nd (ds.take (i + j)), (i : Int)) := by
    intro j
    induction j with
    | zero => intro _; rw [Nat.add_zero, StN_dt h2, key1 i (Nat.le_refl _)]; simp
    | succ j ih =>
      intro hi
      obtain ⟨g1, g2, g3⟩ := hv _ (hlt (i + j) (by omega))
      have e := h3 j (by omega)
      rw [show i + 1 + (j + 1) = i + 1 + j + 1 by omega, StN_fg (by rw [e]; exact g2), ih (by omega), e, g1, show i + (j + 1) = i + j + 1 by omega, tk (i + j) (by omega), Nat.mul_comm]
  refine ⟨fun j hj => ?_, by rw [show ds.length + 1 = i + 1 + k by omega, key2 k (Nat.le_refl _), ← hlen, List.take_length]⟩
  rcases Nat.lt_trichotomy j i with hj1 | rfl | hj1
  · obtain ⟨g1, g2, g3⟩ := hv _ (hlt j (by omega))
    rw [h1 j hj1]; exact .inr ⟨g2, g3⟩
  · rw [key1 j (Nat.le_refl _)]; exact .inl ⟨h2, rfl, rfl⟩
  · obtain ⟨p, rfl⟩ : ∃ p, j = i + 1 + p := ⟨j - i - 1, by omega⟩
    obtain ⟨g1, g2, g3⟩ := hv _ (hlt (i + p) (by omega))
    rw [h3 p (by omega)]; exact .inr ⟨g2, g3⟩
end Go.Proofs.YtacfhndledcmgaaGreatDoor
