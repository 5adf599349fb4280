/- Lemmas for the law FnBack: Float.round where zeros alone are cut, Float.scan, Float.Parse. Conditions: those in each theorem; none besides. -/
import Derived.Test.YtacfhndledcmgaaGreatDoorJ3
import Derived.Test.YtacfhndledcmgaaGreatDoorJ6
import Derived.Test.YtacfhndledcmgaaGreatDoorJ23
set_option linter.unusedVariables false
set_option linter.unusedSimpArgs false
namespace Go.Proofs.YtacfhndledcmgaaGreatDoor
open Go.RowKit
/-- A word ahead of one that is cut in its bits, all zero. -/
theorem V_low0 (f : Nat → Nat) (m i : Nat) (hf : ∀ j, j < m → f j < WB) (hi : i / 64 < m) (h : V f m % 2 ^ i = 0) : V f (i / 64) = 0 ∧ f (i / 64) % 2 ^ (i % 64) = 0 := by
  rw [V_mod2 f m i hf hi] at h
  have h1 : V f (i / 64) = 0 := by omega
  refine ⟨h1, ?_⟩
  have h2 : f (i / 64) % 2 ^ (i % 64) * WB ^ (i / 64) = 0 := by omega
  rcases Nat.mul_eq_zero.1 h2 with h3 | h3
  · exact h3
  · exact absurd h3 (Nat.pos_iff_ne_zero.1 (Nat.pow_pos WB_pos))
theorem V_zero (f : Nat → Nat) : ∀ n, V f n = 0 → ∀ j, j < n → f j = 0
  | 0, _, j, hj => absurd hj (by omega)
  | n + 1, h, j, hj => by
    have h1 : V f (n + 1) = V f n + f n * WB ^ n := rfl
    rw [h1] at h
    by_cases e : j = n
    · subst e
      rcases Nat.mul_eq_zero.1 (show f j * WB ^ j = 0 by omega) with h3 | h3
      · exact h3
      · exact absurd h3 (Nat.pos_iff_ne_zero.1 (Nat.pow_pos WB_pos))
    · exact V_zero f n (by omega) j (by omega)
/-- The bit ahead of zeros. -/
theorem V_bit0 (f : Nat → Nat) (m i : Nat) (hf : ∀ j, j < m → f j < WB) (hi : i / 64 < m) (h : V f m % 2 ^ (i + 1) = 0) : f (i / 64) / 2 ^ (i % 64) % 2 = 0 := by
  by_cases e : (i + 1) % 64 = 0
  · by_cases e2 : (i + 1) / 64 < m
    · have h1 := (V_low0 f m (i + 1) hf e2 h).1
      have h2 := V_zero f _ h1 (i / 64) (by omega)
      rw [h2]; simp
    · have e3 : i + 1 = 64 * m := by omega
      rw [e3, ← WB_two, Nat.mod_eq_of_lt (V_lt m hf)] at h
      have h2 := V_zero f _ h (i / 64) (by omega)
      rw [h2]; simp
  · have h1 := (V_low0 f m (i + 1) hf (by omega) h).2
    rw [show (i + 1) / 64 = i / 64 by omega, show (i + 1) % 64 = i % 64 + 1 by omega] at h1
    exact bit_zero h1
set_option maxRecDepth 100000 in
set_option maxHeartbeats 4000000 in
/-- round, where nothing is cut off but zeros. -/
theorem float_round_cut (b P M : Nat) (a : Int) (n : Bool) (e : Int) (xb xo m xc X : Nat) (w : World) (hf : Fl w b P M a 1 n (.slice (some ⟨xb, xo, none⟩) m xc) e) (hx : NtAt w xb xo m xc X)
    (hm0 : 0 < m) (hm : m ≤ 1000) (hP0 : 0 < P) (hP1 : P ≤ 64 * (m - 1)) (hd : X % 2 ^ (64 * m - P) = 0) (hne : xb ≠ b) (hM : M < 6) :
    Calls Tryz.prog 200 #[.pointer (some ⟨b, 0, none⟩), .int .u64 0] w fun r w' => r = .returned (.tuple #[]) ∧ Fl w' b P M 0 1 n (.slice (some ⟨xb, xo, none⟩) ((P + 63) / 64) xc) e ∧ NtAt w' xb xo ((P + 63) / 64) xc (X / WB ^ (m - (P + 63) / 64)) ∧ Chg (FS b xb xo m) w w' := by
  have hle := hx.1.le
  obtain ⟨n1, hn1⟩ : ∃ n1, n1 = (P + 63) / 64 := ⟨_, rfl⟩
  rw [← hn1]
  have hn0 : 0 < n1 := by omega
  have hnm : n1 < m := by omega
  have F1 := Lib.hid (hf.set2 0)
  have C1 := Lib.hid (hf.put2 (Chg.refl (FS b xb xo m) w) 0 (fun _ => .inl rfl))
  have N1 := Lib.hid (hx.1.chg C1.out)
  have V1 : Hid (Val (w.setCell ⟨b, 2, none⟩ (.int .i8 0)) xb xo m = X) := Lib.hid ((Val_congr fun i hi => wd_setCell_ne (.inl hne)).trans hx.2.1)
  have T1 : Hid (wd (w.setCell ⟨b, 2, none⟩ (.int .i8 0)) xb (xo + (m - 1)) ≠ 0) := Lib.hid (by rw [wd_setCell_ne (.inl hne)]; exact hx.2.2.resolve_left (by omega))
  have e1 : IntKind.u32.wrap (m : Int) = (m : Int) := by rw [IntKind.wrap_u32]; omega
  obtain ⟨c0, c1, c2, c3, c4, c5, c6, -, hp, -, -, -⟩ := hf
  have f2 := hp.free 2
  clear hp hx
  have i1 : ¬ (m : Int) * 64 ≤ (P : Int) := by omega
  obtain ⟨R, hR⟩ : ∃ R : Nat, R = 64 * m - P - 1 := ⟨_, rfl⟩
  have er : (m : Int) * 64 - P - 1 = (R : Int) := by omega
  have i2 : IntKind.u32.wrap ((m : Int) * 64) = (m : Int) * 64 := by rw [IntKind.wrap_u32]; omega
  have hX0 : V (fun j => wd (w.setCell ⟨b, 2, none⟩ (.int .i8 0)) xb (xo + j)) m % 2 ^ (R + 1) = 0 := by
    have h2 := V1.out
    unfold Val at h2
    rw [h2, show R + 1 = 64 * m - P by omega]; exact hd
  have hfl : ∀ j, j < m → wd (w.setCell ⟨b, 2, none⟩ (.int .i8 0)) xb (xo + j) < WB := fun j hj => (N1.out.isW j (by omega)).lt
  have B1 := nat_bit xb xo m xc R (w.setCell ⟨b, 2, none⟩ (.int .i8 0)) (N1.out.isW _ (by omega)) hm (by omega)
  have B2 := nat_sticky xb xo m xc R (w.setCell ⟨b, 2, none⟩ (.int .i8 0)) N1.out hm (by omega)
  rw [V_bit0 _ m R hfl (by omega) hX0] at B1
  rw [V1.out, show stickyOf X R = 0 from if_pos (mod_le_pow hd (by omega))] at B2
  have H1 := Lib.hid B1
  have H2 := Lib.hid B2
  have e2 : ((P : Int) + 63) / 64 = (n1 : Int) := by omega
  have e3 : (n1 : Int) < (m : Int) := by omega
  have HN := Lib.hid hn1
  have HRR := Lib.hid hR
  have HD := Lib.hid hd
  have HX0 := Lib.hid hX0
  have HFL := Lib.hid hfl
  clear B1 B2 hd hX0 hfl hn1 hR
  go_enter Tryz.func200, Tryz.ntmps200
  go_wp2_with fail
  refine H1.out.mono ?_
  rintro r w1 ⟨rfl, rfl⟩
  go_wp2_with fail
  refine H2.out.mono ?_
  rintro r w1 ⟨rfl, rfl⟩
  go_upto_if 11 with fail
  rw [e2]
  generalize w.setCell ⟨b, 2, none⟩ (.int .i8 0) = wa at *
  clear c0 c1 c2 c3 c4 c5 c6 f2 H1 H2
  obtain ⟨c0, c1, c2, c3, c4, c5, c6, -, hp, -, -, -⟩ := F1.out
  have f5 := hp.free 5
  have e4 : IntKind.u32.wrap ((m : Int) - (n1 : Int)) = ((m - n1 : Nat) : Int) := by rw [IntKind.wrap_u32]; omega
  have hxw : ∀ i, i < n1 → IsW wa xb (xo + (m - n1) + i) := fun i hi => by rw [Nat.add_assoc]; exact N1.out.isW _ (by omega)
  have hzw : Wr wa.drew xb xo n1 := ⟨fun i hi => N1.out.isW i (by omega), N1.out.plain⟩
  obtain ⟨w2, hrun, hc2, hv2⟩ := run_copyW (P := Tryz.prog) wa.drew 85 85 3 149 xb xo m xc xb (xo + (m - n1)) (m - (m - n1)) (xc - (m - n1)) n1 Tryz.underlying85 (by kernel_rfl) (by simp; omega) hxw hzw
  have HC2 : Hid (Chg (Rng xb xo n1) wa w2) := Lib.hid (((Chg.refl (Rng xb xo n1) wa).drew).then hc2 (fun _ _ _ f => f))
  have HV2 := Lib.hid hv2
  have F2 := F1.out.chg HC2.out (fun o f => hne f.1.symm)
  have HF2 := Lib.hid F2
  obtain ⟨g0, g1, g2, g3, g4, g5, g6, -, gp, -, -, -⟩ := F2
  have gf5 := gp.free 5
  have hxc : ¬ xc = m - n1 := by omega
  clear hc2 hv2 hxw hzw gp hp
  go_cut [] (fun wx => w2 = wx)
  case first =>
    go_wp2_with fail
    go_region_with (rw [hrun])
    all_goals
      go_wp2_with fail
      go_meet
      rfl
  case rest =>
  subst hcut
  go_upto_region 14 with fail
  have F3 : Hid (Fl (w2.setCell ⟨b, 5, none⟩ (.slice (some ⟨xb, xo, none⟩) n1 xc)) b P M 0 1 n (.slice (some ⟨xb, xo, none⟩) n1 xc) e) := Lib.hid (HF2.out.set5 _ ⟨_, _, _, rfl⟩)
  have C3 : Hid (Chg (FS b xb xo m) wa (w2.setCell ⟨b, 5, none⟩ (.slice (some ⟨xb, xo, none⟩) n1 xc))) := Lib.hid (HF2.out.put5 (HC2.out.mono (T := FS b xb xo m) (fun x o _ f => .inr ⟨f.1, f.2.1, by have := f.2.2; omega⟩)) _ (fun _ => .inl rfl))
  have V3 : Hid (∀ i, i < n1 → wd (w2.setCell ⟨b, 5, none⟩ (.slice (some ⟨xb, xo, none⟩) n1 xc)) xb (xo + i) = wd wa xb (xo + (m - n1) + i)) := Lib.hid fun i hi => (wd_setCell_ne (.inl hne)).trans (HV2.out i hi)
  generalize w2.setCell ⟨b, 5, none⟩ (.slice (some ⟨xb, xo, none⟩) n1 xc) = wb at *
  clear c0 c1 c2 c3 c4 c5 c6 f5 g0 g1 g2 g3 g4 g5 g6 gf5 HC2 HV2 HF2 hrun e4 hxc
  obtain ⟨c0, c1, c2, c3, c4, c5, c6, -, hp, -, -, -⟩ := F3.out
  have hxw : IsW wb xb xo := C3.out.isW _ _ (N1.out.isW 0 (by omega))
  have cx := hxw.cell
  have fx : wb.frozen? ⟨xb, xo, none⟩ = false := (C3.out.plain _ N1.out.plain).free xo
  have lx := hxw.lt
  obtain ⟨tz, htz⟩ : ∃ tz, tz = 64 * n1 - P := ⟨_, rfl⟩
  have e5 : IntKind.u32.wrap ((n1 : Int) * 64 - (P : Int)) = (tz : Int) := by rw [IntKind.wrap_u32]; have := HN.out; omega
  have e6 : IntKind.u32.wrap ((n1 : Int) * 64) = (n1 : Int) * 64 := by rw [IntKind.wrap_u32]; omega
  have ht64 : tz < 64 := by have := HN.out; omega
  have HTZ := Lib.hid htz
  have i7 : (0 : Int) < (n1 : Int) := by omega
  have o1 : bits BinOp.or .u64 0 0 = 0 := by decide
  clear hp htz
  go_wp2_with fail
  go_end0
  have hVs : Val wb xb xo n1 = X / WB ^ (m - n1) := by
    have h1 := V_split (fun j => wd wa xb (xo + j)) (m - n1) n1
    rw [show m - n1 + n1 = m by omega] at h1
    have h2 := V1.out
    unfold Val at h2
    rw [h2] at h1
    have h3 : V (fun j => wd wa xb (xo + j)) (m - n1) < WB ^ (m - n1) := V_lt _ fun j hj => HFL.out j (by omega)
    have h4 : V (fun i => wd wa xb (xo + (m - n1 + i))) n1 = Val wb xb xo n1 := by
      unfold Val
      refine V_congr n1 fun i hi => ?_
      rw [V3.out i hi, Nat.add_assoc]
    rw [h4] at h1
    rw [h1, Nat.add_mul_div_left _ _ (Nat.pow_pos WB_pos), Nat.div_eq_of_lt h3, Nat.zero_add]
  have hN1 : NtAt wb xb xo n1 xc (X / WB ^ (m - n1)) := by
    refine ⟨((N1.out.chg C3.out).len (by omega)), hVs, .inr ?_⟩
    rw [V3.out (n1 - 1) (by omega), show xo + (m - n1) + (n1 - 1) = xo + (m - 1) by omega]
    exact T1.out
  have hz0 : wd wb xb xo % 2 ^ tz = 0 := by
    have h0 := HX0.out
    have hR1 : (R + 1) / 64 = m - n1 ∧ (R + 1) % 64 = tz := by have := HRR.out; have := HTZ.out; have := HN.out; omega
    have h2 := (V_low0 _ m (R + 1) HFL.out (by omega) h0).2
    rw [hR1.1, hR1.2] at h2
    have h3 := V3.out 0 hn0
    rw [Nat.add_zero, Nat.add_zero] at h3
    rw [h3]; exact h2
  obtain ⟨k1, k2⟩ := hN1.setSame (k := 0) (by omega)
  rw [Nat.add_zero] at k1 k2
  rw [andNot_low lx ht64 hz0]
  exact ⟨rfl, F3.out.chg k2 (fun o h => hne h.1.symm), k1, (C1.out.then C3.out (fun _ _ _ f => f)).then k2 (fun x o _ h => .inr ⟨h.1, by have := h.2; omega, by have := h.2; omega⟩)⟩
theorem blen_cut {N N' k P : Nat} (hN : N ≠ 0) (h : N = N' * 2 ^ k) (hk : k + P = blen N) : N' ≠ 0 ∧ blen N' = P := by
  obtain ⟨h1, h2, h3⟩ := blen_spec hN
  have h0 : N' ≠ 0 := fun e => hN (by rw [h, e, Nat.zero_mul])
  obtain ⟨g1, g2, g3⟩ := blen_spec h0
  refine ⟨h0, ?_⟩
  have hp := Nat.two_pow_pos k
  have a1 : 2 ^ (blen N' - 1 + k) < 2 ^ (k + P) := by
    rw [Nat.pow_add, hk]
    refine Nat.lt_of_le_of_lt (Nat.mul_le_mul_right _ g2) ?_
    rw [← h]; exact h3
  have a2 : 2 ^ (k + P - 1) < 2 ^ (blen N' + k) := by
    rw [hk, Nat.pow_add]
    refine Nat.lt_of_le_of_lt h2 ?_
    rw [h]; exact Nat.mul_lt_mul_of_pos_right g3 hp
  have b1 := (Nat.pow_lt_pow_iff_right (by decide : 1 < 2)).1 a1
  have b2 := (Nat.pow_lt_pow_iff_right (by decide : 1 < 2)).1 a2
  omega
/-- round, where it cuts off nothing but zeros. -/
theorem float_round_fit (base b P M : Nat) (a : Int) (n : Bool) (E : Int) (xb xo m xc N : Nat) (w : World) (hf : Fl w b P M a 1 n (.slice (some ⟨xb, xo, none⟩) m xc) (blen N + E)) (hx : NtAt w xb xo m xc (upTo N m))
    (hm0 : 0 < m) (hlo : 64 * (m - 1) < blen N) (hhi : blen N ≤ 64 * m) (hm : m ≤ 1000) (hP0 : 0 < P) (hP2 : P < 60000) (hN : N ≠ 0) (hd : P < blen N → N % 2 ^ (blen N - P) = 0) (hne : xb ≠ b) (hM : M < 6) (hb : base ≤ xb) :
    Calls Tryz.prog 200 #[.pointer (some ⟨b, 0, none⟩), .int .u64 0] w fun r w' => r = .returned (.tuple #[]) ∧ ∃ N' k m', N = N' * 2 ^ k ∧ blen N' ≤ P ∧ FlX w' base b P M n N' (E + (k : Nat)) xb xo m' xc ∧ Chg (FS b xb xo m) w w' := by
  by_cases hc : blen N ≤ P
  · refine (float_round_exact b P M a n _ xb xo m xc _ w hf hx hm0 hm (by omega) (by omega) (fun h => upTo_mod hc hhi h) hne hM).mono ?_
    rintro r w' ⟨h1, h2, h3, h4⟩
    exact ⟨h1, N, 0, m, by simp, hc, ⟨by simpa using h2, h3, hm0, hlo, hhi, hne, hb⟩, h4⟩
  · obtain ⟨k, hk⟩ : ∃ k, k = blen N - P := ⟨_, rfl⟩
    have hd' := hd (by omega)
    rw [← hk] at hd'
    obtain ⟨N', hN'⟩ := Nat.dvd_of_mod_eq_zero hd'
    rw [Nat.mul_comm] at hN'
    obtain ⟨h0, hB⟩ := blen_cut (P := P) hN hN' (by omega)
    have hup : upTo N m = N' * 2 ^ (64 * m - P) := by
      unfold upTo
      rw [hN', Nat.mul_assoc, ← Nat.pow_add, ← hN']
      congr 2; omega
    have hexp : (blen N : Int) + E = (blen N' : Int) + (E + (k : Nat)) := by rw [hB]; omega
    by_cases hc2 : 64 * (m - 1) < P
    · refine (float_round_exact b P M a n _ xb xo m xc _ w hf hx hm0 hm hc2 (by omega) (fun h => by rw [hup]; exact Nat.mul_mod_left _ _) hne hM).mono ?_
      rintro r w' ⟨h1, h2, h3, h4⟩
      refine ⟨h1, N', k, m, hN', by omega, ⟨by rw [← hexp]; exact h2, ?_, hm0, by omega, by omega, hne, hb⟩, h4⟩
      rw [hup] at h3
      unfold upTo; rw [hB]; exact h3
    · refine (float_round_cut b P M a n _ xb xo m xc _ w hf hx hm0 hm hP0 (by omega) (by rw [hup]; exact Nat.mul_mod_left _ _) hne hM).mono ?_
      rintro r w' ⟨h1, h2, h3, h4⟩
      refine ⟨h1, N', k, (P + 63) / 64, hN', by omega, ⟨by rw [← hexp]; exact h2, ?_, by omega, by omega, by omega, hne, hb⟩, h4⟩
      have e : upTo N m / WB ^ (m - (P + 63) / 64) = upTo N' ((P + 63) / 64) := by
        rw [hup, WB_two]
        unfold upTo
        rw [hB, show 64 * m - P = (64 * ((P + 63) / 64) - P) + 64 * (m - (P + 63) / 64) by omega, Nat.pow_add, ← Nat.mul_assoc, Nat.mul_div_cancel _ (Nat.two_pow_pos _)]
      rw [← e]; exact h3
set_option maxHeartbeats 1000000 in
theorem fnorm_val (xb xo m xc X : Nat) (w : World) (hx : NtAt w xb xo m xc X) (hm0 : 0 < m) (hm : m ≤ 1000) :
    Calls Tryz.prog 187 #[.slice (some ⟨xb, xo, none⟩) m xc] w fun e w' => e = .returned (.int .i64 (64 * m - blen X : Nat)) ∧ NtAt w' xb xo m xc (upTo X m) ∧ Chg (Rng xb xo m) w w' := by
  obtain ⟨t, ht, ht0, htw, hB, hb1, hb2⟩ := hx.blen hm0
  have hle := hx.1.le
  have hX0 : X ≠ 0 := by
    intro e; rw [e] at hB; simp [Go.Proofs.YtacfhndledcmgaaGreatDoor.blen] at hB; omega
  have hw := hx.1.isW (m - 1) (by omega)
  have cx : w.cell? ⟨xb, xo + (m - 1), none⟩ = some (.int .u64 t) := by rw [ht]; exact hw.cell
  have c1 : (0 : Int) ≤ (m : Int) - 1 := by omega
  have c2 : (m : Int) - 1 < m := by omega
  have c3 : ((m : Int) - 1).toNat = m - 1 := by omega
  obtain ⟨s, hs⟩ : ∃ s, s = 64 - Lib.bitLen t := ⟨_, rfl⟩
  have hsB : s = 64 * m - Go.Proofs.YtacfhndledcmgaaGreatDoor.blen X := by omega
  have HSB := Lib.hid hsB
  have HN := nlz t htw w
  rw [← hs] at HN
  have HN := Lib.hid HN
  have e1 : IntKind.i64.wrap (s : Int) = (s : Int) := IntWalk.i64_in _ (by omega)
  have hs64 : s < 64 := by omega
  have U1 := upTo_lt hX0 (m := m) (by omega)
  have U2 := upTo_ge hX0 (m := m) (by omega)
  have HU : upTo X m = X * 2 ^ s := by unfold upTo; rw [hsB]
  by_cases hs0 : s = 0
  · have HF : Hid (NtAt w xb xo m xc (upTo X m)) := Lib.hid (by rw [HU, hs0]; simpa using hx)
    have t1 : decide (0 < s) = false := by simp [hs0]
    clear hx ht ht0 hs hsB hs0 U1 U2 HU hw hX0 hB hb1 hb2 htw
    go_enter Tryz.func187, Tryz.ntmps187
    go_wp2_with fail
    refine HN.out.mono ?_
    rintro r w1 ⟨rfl, rfl⟩
    go_wp2_with fail
    go_ret
    exact ⟨by rw [← HSB.out]; rfl, HF.out.drewN 0, (Chg.refl _ w).drewN 0⟩
  · have hs1 : 0 < s := by omega
    have t1 : decide (0 < s) = true := by simp; omega
    have hwr := hx.1.wr 0 m (by omega)
    rw [Nat.add_zero] at hwr
    have HL := Lib.hid fun k => lshVU xb xo xc xb xo xc m s (w.drewN k) (by omega) hm0 hs1 hs64 (hwr.drewN k) (fun i hi => hx.1.isW i (by omega)) (.inr (.inl (by omega)))
    have HF : Hid (∀ w' (c : Nat), Val w' xb xo m + c * WB ^ m = X * 2 ^ s → Chg (Rng xb xo m) w w' → NtAt w' xb xo m xc (upTo X m)) := Lib.hid fun w' c hv hc => by
      rw [← HU] at hv
      have hc0 : c = 0 := by
        rcases Nat.eq_zero_or_pos c with h | h
        · exact h
        · have := Nat.mul_le_mul_right (WB ^ m) h
          omega
      rw [hc0, Nat.zero_mul, Nat.add_zero] at hv
      refine ⟨hx.1.chg hc, hv, .inr (Val_topne hm0 (fun i hi => hc.isW _ _ (hx.1.isW i (by omega))) ?_)⟩
      rw [hv]
      refine Nat.le_trans ?_ U2
      rw [WB_two]
      exact Nat.pow_le_pow_right (by decide) (by omega)
    have hV := hx.2.1
    have HV := Lib.hid hV
    clear hx ht ht0 hs hsB hs0 U1 U2 HU hw hX0 hB hb1 hb2 htw hwr hV
    go_enter Tryz.func187, Tryz.ntmps187
    go_wp2_with fail
    refine HN.out.mono ?_
    rintro r w1 ⟨rfl, rfl⟩
    go_wp2_with fail
    refine (HL.out 0).mono ?_
    rintro r w1 ⟨c, rfl, hc1, hc2, hc3⟩
    have H2 := Lib.hid hc2
    have H3 := Lib.hid hc3.ofDrewN
    clear hc2 hc3
    go_wp2_with fail
    go_ret
    refine ⟨by rw [← HSB.out]; rfl, HF.out _ c ?_ H3.out, H3.out⟩
    rw [H2.out, ← HV.out]
    rfl
/-- What Float.scan is to make of a text from the sign on: the digits' number N, what the exponent is. -/
def ScPost (base b P M : Nat) (n : Bool) (N : Nat) (E : Int) (r : Nat) (l : List Nat) (bb : Nat) (w : World) (e : Ending) (w' : World) : Prop :=
  e = .returned (.tuple #[.pointer (some ⟨b, 0, none⟩), .int .i64 bb, .nilIface]) ∧ (∃ N' k xb xo m xc, N = N' * 2 ^ k ∧ blen N' ≤ P ∧ FlX w' base b P M n N' (E + (k : Nat)) xb xo m xc) ∧ RdAt w' r l l.length ∧ Chg (fun x _ => x = r ∨ x = b) w w'
/-- What scanSign has said. -/
def SgnOut (n : Bool) (r : Nat) (l : List Nat) (j : Nat) (w : World) (e : Ending) (w' : World) : Prop := e = .returned (.tuple #[.bool n, .nilIface]) ∧ RdAt w' r l j ∧ Chg (Blk r) w w'
set_option maxRecDepth 1000000 in
set_option maxHeartbeats 8000000 in
theorem float_scan (bs b P M : Nat) (a : Int) (f : Nat) (n0 n : Bool) (e0 : Int) (r : Nat) (l : List Nat) (j e1 bb : Nat) (st : Nat × Nat × Int) (v : Int) (w : World)
    (hf : Fl w b P M a f n0 (.slice none 0 0) e0) (hP0 : 0 < P) (hP2 : P < 60000) (hM : M < 6)
    (hsg : Calls Tryz.prog 92 #[.iface 133 (.pointer (some ⟨r, 0, none⟩))] (w.setCell ⟨b, 3, none⟩ (.int .u8 0)) (SgnOut n r l j (w.setCell ⟨b, 3, none⟩ (.int .u8 0))))
    (hsc : ∀ W, Chg (fun x _ => x = r ∨ x = b) w W → RdAt W r l j → Calls Tryz.prog 89 #[.slice none 0 0, .iface 133 (.pointer (some ⟨r, 0, none⟩)), .int .i64 bs, .bool true] W (ScanOut bb r l e1 st W))
    (hex : ∀ W, Chg (fun x _ => x = r ∨ x = b) w W → RdAt W r l e1 → Calls Tryz.prog 93 #[.iface 133 (.pointer (some ⟨r, 0, none⟩)), .bool true, .bool (decide (bs = 0))] W (ExpOut r l v 2 W))
    (hbb : bb = 16 ∨ (bb = 10 ∧ st.2.2 < 0)) (hN : st.2.1 ≠ 0) (hNb : blen st.2.1 ≤ 3000) (hd : P < blen st.2.1 → st.2.1 % 2 ^ (blen st.2.1 - P) = 0) (hv1 : -10000 ≤ v) (hv2 : v ≤ 10000) (hst : st.1 ≤ 2001 ∧ -1 ≤ st.2.2 ∧ st.2.2 ≤ st.1)
    (hrb : r ≠ b) (h17 : 17 ≤ w.heap.size) :
    Calls Tryz.prog 132 #[.pointer (some ⟨b, 0, none⟩), .iface 133 (.pointer (some ⟨r, 0, none⟩)), .int .i64 bs] w (ScPost w.heap.size b P M n st.2.1 ((if 0 ≤ st.2.2 then 4 * (st.2.2 - st.1) else 0) + v) r l bb w) := by
  have F0 := hf.set3 0 (by decide)
  have K0 := hf.put3 (Chg.refl (Blk b) w) 0 (by decide) (fun _ => rfl)
  have HF0 := Lib.hid F0
  have HK0 : Hid (Chg (fun x _ => x = r ∨ x = b) w (w.setCell ⟨b, 3, none⟩ (.int .u8 0))) := Lib.hid (K0.mono (fun x o _ h => .inr h))
  have HSg := Lib.hid hsg
  have HSc := Lib.hid hsc
  have HEx := Lib.hid hex
  have HD := Lib.hid hd
  have HB := Lib.hid hbb
  have HNb := Lib.hid hNb
  have HN0 := Lib.hid hN
  have HST := Lib.hid hst
  obtain ⟨Q0, hQ0⟩ : ∃ Q0, Q0 = ScPost w.heap.size b P M n st.2.1 ((if 0 ≤ st.2.2 then 4 * (st.2.2 - st.1) else 0) + v) r l bb w := ⟨_, rfl⟩
  rw [← hQ0]
  have HQ0 : Hid (∀ e w', ScPost w.heap.size b P M n st.2.1 ((if 0 ≤ st.2.2 then 4 * (st.2.2 - st.1) else 0) + v) r l bb w e w' → Q0 e w') := Lib.hid (by rw [hQ0]; exact fun _ _ h => h)
  obtain ⟨c0, c1, c2, c3, c4, c5, c6, -, hp, hb17, -, -⟩ := hf
  have f3 := hp.free 3
  have tP : ((P : Int) == 0) = false := by simp; omega
  clear hp hQ0 hsg hsc hex hd hbb hNb hN hst F0 K0
  go_enter Tryz.func132, Tryz.ntmps132
  go_wp2_with fail
  refine HSg.out.mono ?_
  rintro e w1 ⟨rfl, hr1, hk1⟩
  have F1 := HF0.out.chg hk1 (fun o h => hrb h.symm)
  have HF1 := Lib.hid F1
  have HK1 := Lib.hid (HK0.out.then hk1 (fun x o _ h => .inl h))
  have HR1 := Lib.hid hr1
  have f14 := F1.plain.free 4
  have g4 := F1.c4
  clear c0 c1 c2 c3 c4 c5 c6 f3 hr1 hk1 HSg F1
  go_upto_region 6 with fail
  have F2 := HF1.out.set4 n
  have HF2 := Lib.hid F2
  have HK2 := Lib.hid (HF1.out.put4 HK1.out n (fun _ => .inr rfl))
  have HR2 := Lib.hid (HR1.out.chg (HF1.out.put4 (Chg.refl (Blk b) w1) n (fun _ => rfl)) (fun o h => hrb h))
  have HSc2 := Lib.hid (HSc.out _ HK2.out HR2.out)
  clear F2
  generalize w1.setCell ⟨b, 4, none⟩ (.bool n) = w2 at *
  obtain ⟨c0, c1, c2, c3, c4, c5, c6, -, hp, -, -, -⟩ := HF2.out
  clear hp HSc f14 g4
  go_wp2_with fail
  refine HSc2.out.mono ?_
  rintro e w3 ⟨z, rfl, hz, hr3, hk3, hz3⟩
  obtain ⟨xb, xo, m, xc, rfl, hnt, hm0⟩ : ∃ xb xo m xc, z = .slice (some ⟨xb, xo, none⟩) m xc ∧ NtAt w3 xb xo m xc st.2.1 ∧ 0 < m := by
    rcases hz with ⟨_, h⟩ | ⟨xb, xo, m, xc, h, hn, h2, h3⟩
    · exact absurd h HN0.out
    · refine ⟨xb, xo, m, xc, h, ⟨hn, h2, h3⟩, ?_⟩
      rcases Nat.eq_zero_or_pos m with e | e
      · subst e; exact absurd h2.symm HN0.out
      · exact e
  obtain ⟨l1, l2⟩ := blen_words hnt hm0
  have hle := hnt.1.le
  have hxb : w2.heap.size ≤ xb := hz3 xb xo ⟨rfl, Nat.le_refl _, by show xo < xo + xc; omega⟩
  have hne : xb ≠ b := by have := HF2.out.lt; omega
  have hnr : xb ≠ r := by have := HR2.out.2.1.lt; omega
  have hwx : w.heap.size ≤ xb := Nat.le_trans HK2.out.size hxb
  have F3 := HF2.out.chg hk3 (fun o h => hrb h.symm)
  have HF3 := Lib.hid F3
  have HK3 := Lib.hid (HK2.out.then hk3 (fun x o _ h => .inl h))
  have HR3 := Lib.hid hr3
  have HNT3 := Lib.hid hnt
  have f5 := F3.plain.free 5
  have g5 := F3.c5
  have hmb : m ≤ 1000 := by have := HNb.out; omega
  obtain ⟨D, hDd⟩ : ∃ D, D = cntOut st := ⟨_, rfl⟩
  rw [← hDd]
  have HDD := Lib.hid hDd
  clear c0 c1 c2 c3 c4 c5 c6 hz hr3 hk3 hz3 hnt F3 HSc2 hDd
  go_upto_region 9 with fail
  have HF4 := Lib.hid (HF3.out.set5 (.slice (some ⟨xb, xo, none⟩) m xc) ⟨_, _, _, rfl⟩)
  have hk4 := HF3.out.put5 (Chg.refl (Blk b) w3) (.slice (some ⟨xb, xo, none⟩) m xc) (fun _ => rfl)
  have HK4 := Lib.hid (HF3.out.put5 HK3.out (.slice (some ⟨xb, xo, none⟩) m xc) (fun _ => .inr rfl))
  have HR4 := Lib.hid (HR3.out.chg hk4 (fun o h => hrb h))
  have HNT4 := Lib.hid (HNT3.out.chg hk4 (fun i hi h => hne h))
  have HEx4 := Lib.hid (HEx.out _ HK4.out HR4.out)
  clear f5 g5 hk4 HEx
  generalize w3.setCell ⟨b, 5, none⟩ (.slice (some ⟨xb, xo, none⟩) m xc) = w4 at *
  obtain ⟨c0, c1, c2, c3, c4, c5, c6, -, hp, -, -, -⟩ := HF4.out
  clear hp
  obtain ⟨so, hso⟩ : ∃ so, so = decide (bs = 0) := ⟨_, rfl⟩
  have tbs : ((bs : Int) == 0) = so := by rw [hso]; by_cases h : bs = 0 <;> simp [h]
  rw [← hso] at HEx4
  clear hso
  go_wp2_with fail
  refine HEx4.out.mono ?_
  rintro e w5 ⟨rfl, hr5, hk5⟩
  have F5 := HF4.out.chg hk5 (fun o h => hrb h.symm)
  have HF5 := Lib.hid F5
  have HK5 := Lib.hid (HK4.out.then hk5 (fun x o _ h => .inl h))
  have HR5 := Lib.hid hr5
  have N5 := HNT4.out.chg hk5 (fun i hi h => hnr h)
  have HFN := Lib.hid (fnorm_val xb xo m xc _ w5.drew (N5.chg ((Chg.refl No w5).drew) (fun _ _ f => f)) hm0 hmb)
  clear c0 c1 c2 c3 c4 c5 c6 HEx4 tbs hr5 hk5 N5
  obtain ⟨c0, c1, c2, c3, c4, c5, c6, -, hp, -, -, -⟩ := F5
  have tm : ((m : Int) == 0) = false := by simp; omega
  clear hp
  go_upto_region 19 with fail
  obtain ⟨B, hB⟩ : ∃ B, B = blen st.2.1 := ⟨_, rfl⟩
  rw [← hB] at HFN l1 l2
  have HBB := Lib.hid hB
  obtain ⟨S, hS⟩ : ∃ S, S = 64 * m - B := ⟨_, rfl⟩
  rw [← hS] at HFN
  have hSm : S + B = 64 * m := by omega
  have eB : (m : Int) * 64 - (S : Int) = (B : Int) := by omega
  have hB3 : B ≤ 3000 := by rw [hB]; exact HNb.out
  have hB0 : 1 ≤ B := by omega
  have HL := Lib.hid (And.intro l1 l2)
  clear hB hS hSm l1 l2
  go_region_with (go_at_call 187; refine HFN.out.mono ?_; rintro e w6 ⟨rfl, hn6, hk6⟩; have F6 := HF5.out.chg ((Chg.refl (Rng xb xo m) w5).drew.then hk6 (fun _ _ _ h => h)) (fun o h => hne h.1.symm); have g5' := F6.c5; have HF6 := Lib.hid F6; have HN6 := Lib.hid hn6; have HK6 := Lib.hid (HK5.out.drew.then hk6 (fun x o hx h => by have := h.1; omega)); have HR6 := Lib.hid (HR5.out.chg ((Chg.refl (Rng xb xo m) w5).drew.then hk6 (fun _ _ _ h => h)) (fun o h => hnr h.1.symm)); clear hn6 hk6 F6)
  all_goals
    clear g5' HFN HNT3 HNT4 HK5 HF5 HR5
    clear c0 c1 c2 c3 c4 c5 c6
    obtain ⟨c0, c1, c2, c3, c4, c5, c6, -, hp, -, -, -⟩ := HF6.out
    have f0 := hp.free 0
    have f3 := hp.free 3
    have f6 := hp.free 6
    have hDD := HDD.out
    have hST := HST.out
    have hDr : -2002 ≤ D ∧ D ≤ 2001 ∧ (D < 0 → 0 ≤ st.2.2 ∧ bb = 16) ∧ (if 0 ≤ st.2.2 then 4 * (st.2.2 - st.1) else 0) = 4 * (if D < 0 then D else 0) := by
      have hbb := HB.out
      rw [hDD]; unfold cntOut
      by_cases h : 0 ≤ st.2.2
      · rw [if_pos h, if_pos h]
        refine ⟨by omega, by omega, fun h2 => ⟨h, hbb.resolve_right (fun h3 => by omega)⟩, ?_⟩
        split <;> omega
      · rw [if_neg h, if_neg h]
        refine ⟨by omega, by omega, fun h2 => by omega, ?_⟩
        rw [if_neg (by omega)]; rfl
    obtain ⟨hD1, hD2, hD3, hD4⟩ := hDr
    obtain ⟨X2, hX2⟩ : ∃ X2 : Int, X2 = (B : Int) + 4 * (if D < 0 then D else 0) + v := ⟨_, rfl⟩
    have hX2b : -40000 ≤ X2 ∧ X2 ≤ 40000 := by split at hX2 <;> omega
    have q1 : decide ((-2147483648 : Int) ≤ X2) = true := decide_eq_true (by omega)
    have q2 : decide (X2 ≤ (2147483647 : Int)) = true := decide_eq_true (by omega)
    have q3 : IntKind.i32.wrap X2 = X2 := by rw [IntKind.wrap_i32]; omega
    have HX2 : Hid (X2 = (blen st.2.1 : Int) + ((if 0 ≤ st.2.2 then 4 * (st.2.2 - st.1) else 0) + v)) := Lib.hid (by rw [hX2, hD4, HBB.out]; omega)
    have F7 := ((HF6.out.set0 P).set3 1 (by decide)).set6 X2
    have hk7 := (HF6.out.set0 P |>.set3 1 (by decide)).put6 ((HF6.out.set0 P).put3 (HF6.out.put0 (Chg.refl (Blk b) w6) P (fun _ => rfl)) 1 (by decide) (fun _ => rfl)) X2 (fun _ => rfl)
    have hrd := float_round_fit w.heap.size b P M a n ((if 0 ≤ st.2.2 then 4 * (st.2.2 - st.1) else 0) + v) xb xo m xc st.2.1 _ (by rw [← HX2.out]; exact F7) (HN6.out.chg hk7 (fun i hi h => hne h)) hm0 (by rw [← HBB.out]; exact HL.out.1) (by rw [← HBB.out]; exact HL.out.2) hmb hP0 hP2 HN0.out HD.out hne hM hwx
    have HRD := Lib.hid hrd
    have HK7 := Lib.hid (HK6.out.then hk7 (fun x o _ h => .inr h))
    have HR7 := Lib.hid (HR6.out.chg hk7 (fun o h => hrb h))
    clear hp hDD hST hD4 F7 hk7 hrd
    by_cases hD0 : D < 0
    · obtain ⟨-, rfl⟩ := hD3 hD0
      rw [if_pos hD0] at hX2
      have tD : decide (D < 0) = true := decide_eq_true hD0
      obtain ⟨D4, hD4⟩ : ∃ D4, D4 = D * 4 := ⟨_, rfl⟩
      have k1 : IntKind.i64.wrap (D * 4) = D4 := by rw [IntKind.wrap_i64]; omega
      obtain ⟨X1, hX1⟩ : ∃ X1, X1 = (B : Int) + D4 := ⟨_, rfl⟩
      have k2 : IntKind.i64.wrap ((B : Int) + D4) = X1 := by rw [IntKind.wrap_i64]; omega
      have k3 : IntKind.i64.wrap (X1 + v) = X2 := by rw [IntKind.wrap_i64]; omega
      clear hX2 hD4 hX1 hX2b hD3
      go_wp2_with fail
      refine HRD.out.mono ?_
      rintro e w8 ⟨rfl, N', k, m', hN', hBP, hfx, hk8⟩
      have HBP := Lib.hid hBP
      have HFX := Lib.hid hfx
      have HNN := Lib.hid hN'
      have HR8 := Lib.hid (HR7.out.chg hk8 (fun o h => by
        rcases h with h | h
        · exact hrb h
        · exact hnr h.1.symm))
      have HK8 := Lib.hid (HK7.out.then hk8 (fun x o hx h => by
        rcases h with h | h
        · exact .inr h
        · have := h.1; omega))
      clear hfx hN' hk8 hBP
      go_wp2_with fail
      go_ret3
      exact HQ0.out _ _ ⟨rfl, ⟨N', k, xb, xo, m', xc, HNN.out, HBP.out, HFX.out⟩, HR8.out, HK8.out⟩
    · rw [if_neg hD0] at hX2
      have tD : decide (D < 0) = false := decide_eq_false hD0
      have k3 : IntKind.i64.wrap ((B : Int) + v) = X2 := by rw [IntKind.wrap_i64]; omega
      clear hX2 hX2b hD3
      go_wp2_with fail
      refine HRD.out.mono ?_
      rintro e w8 ⟨rfl, N', k, m', hN', hBP, hfx, hk8⟩
      have HBP := Lib.hid hBP
      have HFX := Lib.hid hfx
      have HNN := Lib.hid hN'
      have HR8 := Lib.hid (HR7.out.chg hk8 (fun o h => by
        rcases h with h | h
        · exact hrb h
        · exact hnr h.1.symm))
      have HK8 := Lib.hid (HK7.out.then hk8 (fun x o hx h => by
        rcases h with h | h
        · exact .inr h
        · have := h.1; omega))
      clear hfx hN' hk8 hBP
      go_wp2_with fail
      go_ret3
      exact HQ0.out _ _ ⟨rfl, ⟨N', k, xb, xo, m', xc, HNN.out, HBP.out, HFX.out⟩, HR8.out, HK8.out⟩
theorem eof_neq (eo : Addr) (W : World) : (binOp .neq 121 (.iface 245 (.pointer (some eo))) (.iface 245 (.pointer (some eo)))).run Tryz.prog W = .ok (.bool false) W := by
  have h1 : (Tryz.prog.info? 245).map (·.comparable) = some true := by kernel_rfl
  obtain ⟨i, hi, hc⟩ := Option.map_eq_some_iff.1 h1
  have h2 : (Tryz.prog.info? 247).map (·.comparable) = some true := by kernel_rfl
  obtain ⟨j, hj, -⟩ := Option.map_eq_some_iff.1 h2
  simp only [binOp]
  simp [Op.equal, Op.maxDepth, run_equalIn_iface_ptr_same W 9998 eo Tryz.underlying121 Tryz.underlying245 hi hc hj]
/-- What Parse is to make of a text. -/
def PaPost (b P M : Nat) (n : Bool) (N : Nat) (E : Int) (bb : Nat) (w : World) (e : Ending) (w' : World) : Prop :=
  e = .returned (.tuple #[.pointer (some ⟨b, 0, none⟩), .int .i64 bb, .nilIface]) ∧ (∃ N' k xb xo m xc, N = N' * 2 ^ k ∧ blen N' ≤ P ∧ FlX w' w.heap.size b P M n N' (E + (k : Nat)) xb xo m xc) ∧ Chg (Blk b) w w'
/-- No text of an infinity. -/
def NotInf (l : List Nat) : Prop := l.length ≠ 3 ∧ (l.length = 4 → l.getD 0 0 ≠ 43 ∧ l.getD 0 0 ≠ 45)
set_option maxRecDepth 1000000 in
set_option maxHeartbeats 8000000 in
theorem float_Parse (bs b P M : Nat) (n : Bool) (N : Nat) (E : Int) (l : List Nat) (bb : Nat) (eo : Addr) (w : World) (hb : b < w.heap.size) (hl : ∀ x ∈ l, x < 256) (hlen : l.length ≤ 2000) (hI : NotInf l)
    (hE : w.cell? ⟨0, 0, none⟩ = some (.iface 245 (.pointer (some eo)))) (hb17 : 17 ≤ b)
    (hsc : ∀ W, Chg No w W → RdAt W w.heap.size l 0 → Calls Tryz.prog 132 #[.pointer (some ⟨b, 0, none⟩), .iface 133 (.pointer (some ⟨w.heap.size, 0, none⟩)), .int .i64 bs] W (ScPost W.heap.size b P M n N E w.heap.size l bb W)) :
    Calls Tryz.prog 82 #[.pointer (some ⟨b, 0, none⟩), .string (txt l), .int .i64 bs] w (PaPost b P M n N E bb w) := by
  have h17 : 17 ≤ w.heap.size := by omega
  have H0 := Lib.hid (rdr_new l w h17)
  have HSc := Lib.hid hsc
  have q2 := eof_neq eo
  have HE := Lib.hid hE
  have hsz : (txt l).size = l.length := txt_size l
  have HS : Hid (∀ S : ByteArray, S = txt l → ∀ i (h : i < S.size), (S[i]'h).toNat = l.getD i 0) := Lib.hid (by rintro S rfl i h; exact txt_get h hl)
  have HL := Lib.hid hl
  obtain ⟨S, hS⟩ : ∃ S, S = txt l := ⟨_, rfl⟩
  rw [← hS] at hsz H0 ⊢
  have HSS := Lib.hid hS
  obtain ⟨g, hg⟩ : ∃ g, g = l.getD 0 0 := ⟨_, rfl⟩
  have HI : Hid (∀ h : 0 < S.size, (S[0]'h).toNat = g) := Lib.hid (by intro h; rw [hg]; exact HS.out S HSS.out 0 h)
  obtain ⟨hn3, hn4⟩ := hI
  rw [← hg] at hn4
  obtain ⟨L, hL⟩ : ∃ L, L = l.length := ⟨_, rfl⟩
  rw [← hL] at hn3 hn4 hsz hlen
  have HLL := Lib.hid hL
  have t3 : ((L : Int) == 3) = false := by simp; omega
  clear hsc hE hl hS hg hL HS
  by_cases h4 : L = 4
  · obtain ⟨hn43, hn45⟩ := hn4 h4
    have t43 : ((g : Int) == 43) = false := by simp; omega
    have t45 : ((g : Int) == 45) = false := by simp; omega
    subst h4
    have hgi := HI.out (by omega)
    go_enter Tryz.func82, Tryz.ntmps82
    go_wp2_with fail
    refine H0.out.mono ?_
    rintro e w1 ⟨rfl, hr1, hk1⟩
    have HC := Lib.hid (HSc.out w1 hk1 hr1)
    have HK1 := Lib.hid hk1
    have HRL := Lib.hid hr1.2.1.lt
    clear hr1 hk1 HSc H0
    go_wp2_with fail
    refine HC.out.mono ?_
    rintro e w2 ⟨rfl, hfx, hr2, hk2⟩
    have HFX := Lib.hid hfx
    have HK2 := Lib.hid hk2
    have hrb : w.heap.size ≠ b := by omega
    have hE2 : w2.cell? ⟨0, 0, none⟩ = some (.iface 245 (.pointer (some eo))) := eof_chg (eof_chg HE.out HK1.out (fun f => f)) hk2 (fun f => by rcases f with f | f <;> omega)
    have H9 := Lib.hid (rdr_eof w.heap.size l _ w2 hr2 hE2 (by rw [← HLL.out]; omega))
    clear hfx hr2 hk2 HC
    go_wp2_with fail
    refine H9.out.mono ?_
    rintro e w3 ⟨rfl, hr3, hk3⟩
    have HK3 := Lib.hid hk3
    have hE3 : w3.cell? ⟨0, 0, none⟩ = some (.iface 245 (.pointer (some eo))) := eof_chg hE2 hk3 (fun f => by have h : (0 : Nat) = w.heap.size := f; omega)
    clear hr3 hk3 hE2
    go_wp2_with fail
    go_ret3
    obtain ⟨N', k, xb, xo, m, xc, hN, hBP, hx⟩ := HFX.out
    have hs1 := HK1.out.size
    have hrl := HRL.out
    refine ⟨rfl, ⟨N', k, xb, xo, m, xc, hN, hBP, (hx.lower hs1).chg HK3.out (fun o h => hrb h.symm) (fun i h => ?_)⟩, ?_⟩
    · have h1 : xb = w.heap.size := h
      have := hx.own
      omega
    · refine ((HK1.out.no (S := Blk b)).then HK2.out (fun x o hx f => ?_)).then HK3.out (fun x o hx f => ?_)
      · rcases f with f | f
        · omega
        · exact f
      · have h1 : x = w.heap.size := f
        omega
  · have t4 : ((L : Int) == 4) = false := by simp; omega
    go_enter Tryz.func82, Tryz.ntmps82
    go_wp2_with fail
    refine H0.out.mono ?_
    rintro e w1 ⟨rfl, hr1, hk1⟩
    have HC := Lib.hid (HSc.out w1 hk1 hr1)
    have HK1 := Lib.hid hk1
    have HRL := Lib.hid hr1.2.1.lt
    clear hr1 hk1 HSc H0
    go_wp2_with fail
    refine HC.out.mono ?_
    rintro e w2 ⟨rfl, hfx, hr2, hk2⟩
    have HFX := Lib.hid hfx
    have HK2 := Lib.hid hk2
    have hrb : w.heap.size ≠ b := by omega
    have hE2 : w2.cell? ⟨0, 0, none⟩ = some (.iface 245 (.pointer (some eo))) := eof_chg (eof_chg HE.out HK1.out (fun f => f)) hk2 (fun f => by rcases f with f | f <;> omega)
    have H9 := Lib.hid (rdr_eof w.heap.size l _ w2 hr2 hE2 (by rw [← HLL.out]; omega))
    clear hfx hr2 hk2 HC
    go_wp2_with fail
    refine H9.out.mono ?_
    rintro e w3 ⟨rfl, hr3, hk3⟩
    have HK3 := Lib.hid hk3
    have hE3 : w3.cell? ⟨0, 0, none⟩ = some (.iface 245 (.pointer (some eo))) := eof_chg hE2 hk3 (fun f => by have h : (0 : Nat) = w.heap.size := f; omega)
    clear hr3 hk3 hE2
    go_wp2_with fail
    go_ret3
    obtain ⟨N', k, xb, xo, m, xc, hN, hBP, hx⟩ := HFX.out
    have hs1 := HK1.out.size
    have hrl := HRL.out
    refine ⟨rfl, ⟨N', k, xb, xo, m, xc, hN, hBP, (hx.lower hs1).chg HK3.out (fun o h => hrb h.symm) (fun i h => ?_)⟩, ?_⟩
    · have h1 : xb = w.heap.size := h
      have := hx.own
      omega
    · refine ((HK1.out.no (S := Blk b)).then HK2.out (fun x o hx f => ?_)).then HK3.out (fun x o hx f => ?_)
      · rcases f with f | f
        · omega
        · exact f
      · have h1 : x = w.heap.size := f
        omega
end Go.Proofs.YtacfhndledcmgaaGreatDoor
