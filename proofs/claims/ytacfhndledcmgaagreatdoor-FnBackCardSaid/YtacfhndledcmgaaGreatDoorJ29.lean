/- Lemmas for the law FnBack: Float.fmtX. Conditions: those in each theorem; none besides. -/
import Derived.Test.YtacfhndledcmgaaGreatDoorJ28
set_option linter.unusedVariables false
set_option linter.unusedSimpArgs false
namespace Go.Proofs.YtacfhndledcmgaaGreatDoor
open Go.RowKit
theorem odd_partA (X : Nat) (h : X ≠ 0) : ∃ t O, X = 2 ^ t * O ∧ O % 2 = 1 := by
  induction X using Nat.strongRecOn with
  | ind X ih =>
    by_cases e : X % 2 = 1
    · exact ⟨0, X, by simp, e⟩
    · obtain ⟨t, O, h1, h2⟩ := ih (X / 2) (by omega) (by omega)
      exact ⟨t + 1, O, by rw [Nat.pow_succ, Nat.mul_assoc, Nat.mul_left_comm, ← h1]; omega, h2⟩
/-- The text of format x: D figures of U, the first a 1. -/
def xTx (U D : Nat) (e : Int) : List Nat := [48, 120, 49] ++ (if 1 < D then [46] ++ (hexL U D).drop 1 else []) ++ [112] ++ (if 0 ≤ e then [43] else [45]) ++ (if e.natAbs < 10 then [48] else []) ++ nTx e.natAbs
set_option maxRecDepth 100000 in
set_option maxHeartbeats 4000000 in
theorem float_fmtX (base b P M : Nat) (n : Bool) (X : Nat) (E : Int) (xb xo m xc t O : Nat) (buf : Value) (pre : List Nat) (w : World) (h : FlX w base b P M n X E xb xo m xc) (hX : X = 2 ^ t * O) (hO : O % 2 = 1) (hz : Ls .u8 256 w buf pre) (hpre : pre.length ≤ 501) (hm : m ≤ 15) (hP2 : P ≤ 900) (hBP : blen X ≤ P) (hM : M < 6)
    (hE1 : -1900 ≤ E + blen X) (hE2 : E + blen X ≤ 1900) (hd : ∀ x o, Fp buf x o → x ≠ b ∧ x ≠ xb) (hg : Glob w) :
    Calls Tryz.prog 192 #[.pointer (some ⟨b, 0, none⟩), buf, .int .i64 (-1)] w fun e w' => ∃ r, e = .returned r ∧ ∃ q, 4 * q < blen O + 3 ∧ blen O ≤ 4 * q + 1 ∧ App .u8 256 w w' buf r (pre ++ xTx (O * 2 ^ (4 * q + 1 - blen O)) (q + 1) (E + blen X - 1)) := by
  have hX0 := h.X0
  have h17 := hg.size
  have hi := h.hi
  have hm0 := h.m0
  have hO0 : O ≠ 0 := by omega
  have hp1 := (blen_spec hO0).1
  have hbX : blen X = t + blen O := by rw [hX]; exact blen_pow hO0
  have HMP := Lib.hid (float_MinPrec base b P M n X E xb xo m xc t O w h hX hO (by omega) hg)
  obtain ⟨p, hp⟩ : ∃ p, p = blen O := ⟨_, rfl⟩
  rw [← hp] at HMP hp1 hbX ⊢
  obtain ⟨q, hq⟩ : ∃ q, q = (p + 2) / 4 := ⟨_, rfl⟩
  have hq1 : 4 * q < p + 3 := by omega
  have hq2 : p ≤ 4 * q + 1 := by omega
  have e1 : IntKind.u64.wrap ((p : Int) - 1) = (p : Int) - 1 := by rw [IntKind.wrap_u64]; omega
  have e2 : IntKind.u64.wrap ((p : Int) - 1 + 3) = (p : Int) - 1 + 3 := by rw [IntKind.wrap_u64]; omega
  have e3 : ((p : Int) - 1 + 3) / 4 = (q : Int) := by omega
  have e4 : IntKind.u64.wrap ((q : Int) * 4) = (q : Int) * 4 := by rw [IntKind.wrap_u64]; omega
  obtain ⟨nn, hnn⟩ : ∃ nn, nn = 4 * q + 1 := ⟨_, rfl⟩
  have e5 : (1 : Int) + (q : Int) * 4 = (nn : Int) := by omega
  have e6 : IntKind.u64.wrap (nn : Int) = (nn : Int) := by rw [IntKind.wrap_u64]; omega
  have HF := Lib.hid h
  have HZ := Lib.hid hz
  have HG := Lib.hid hg
  have HD := Lib.hid hd
  have HXO := Lib.hid (And.intro hX (And.intro hO (And.intro hp hnn)))
  have HQ := Lib.hid (And.intro hq1 hq2)
  have hpq : p ≤ 900 := by omega
  have hq3 : q ≤ 300 := by omega
  obtain ⟨XE, hXE⟩ : ∃ XE : Int, XE = E + blen X := ⟨_, rfl⟩
  obtain ⟨ci, hi1, hi2, hi3, hi4⟩ := info_of info5
  have hE := h.fl
  rw [show (blen X : Int) + E = XE by omega] at hE
  rw [← hXE] at hE1 hE2 ⊢
  have HFl := Lib.hid hE
  obtain ⟨c0, c1, c2, c3, c4, c5, c6, -, -, -, -, -⟩ := hE
  have HBX := Lib.hid (And.intro hbX (And.intro hi hBP))
  have HXE := Lib.hid hXE
  clear h hz hg hd hX hO hp hnn hq hX0 hi hXE hO0 hbX hq1 hq2 hBP
  go_enter Tryz.func192, Tryz.ntmps192
  go_wp2_with fail
  refine HMP.out.mono ?_
  rintro e w1 ⟨rfl, hdr⟩
  obtain ⟨kk, rfl⟩ := hdr
  go_upto_region 17 with fail
  have k1 : Chg No w (w.drewN kk) := (Chg.refl No w).drewN kk
  have HK1 := Lib.hid k1
  generalize w.drewN kk = w1 at *
  have c1' := (HFl.out.chg k1 (fun _ f => f)).c1
  obtain ⟨Wa, hWa⟩ : ∃ Wa, Wa = (w1.alloc (.cells #[.int .u32 0, .int .u8 0, .int .i8 0, .int .u8 0, .bool false, .slice none 0 0, .int .i32 0] 176)).drew := ⟨_, rfl⟩
  have hsw : w.heap.size ≤ w1.heap.size := k1.size
  have kA : Chg No w1 Wa := by rw [hWa]; exact ((Chg.refl No w1).alloc _).drew
  have FA : Fl Wa w1.heap.size 0 0 0 0 false (.slice none 0 0) 0 := by
    rw [hWa]; exact (Fl.new w1 (Nat.le_trans h17 hsw)).chg ((Chg.refl No _).drew) (fun _ f => f)
  have HFA := Lib.hid FA
  have HKA := Lib.hid kA
  have c1a : Wa.cell? ⟨b, 1, none⟩ = some (.int .u8 M) := ((HFl.out.chg k1 (fun _ f => f)).chg kA (fun _ f => f)).c1
  rw [hWa] at c1a
  have hbl := (HFl.out.chg k1 (fun _ f => f)).lt
  have hxl := (HF.out.chg k1 (fun _ f => f) (fun _ f => f)).nt.1.plain.lt
  obtain ⟨zb, hzb⟩ : ∃ zb, zb = w1.heap.size := ⟨_, rfl⟩
  have HZB := Lib.hid hzb
  have HBL := Lib.hid (And.intro hbl hxl)
  have H130 := Lib.hid (float_SetPrec_new w1.heap.size nn 0 0 0 false (.slice none 0 0) 0 Wa FA (by have := HXO.out.2.2.2; omega) (by omega))
  have HWA := Lib.hid hWa
  rw [hWa] at H130
  clear k1 kA FA hWa hzb hbl hxl
  have H131 := Lib.hid (fun (w2 : World) (f2 : Fl w2 w1.heap.size nn 0 0 0 false (.slice none 0 0) 0) => float_SetMode w1.heap.size nn M 0 0 0 false (.slice none 0 0) 0 w2 f2 (by omega))
  have HKw : Hid (∀ {w2 : World}, Chg (Blk w1.heap.size) Wa w2 → Chg No w w2) := Lib.hid (fun h2 => ((HK1.out.then HKA.out (fun _ _ _ f => f)).then h2 (fun x o hx h => by have h1 : x = w1.heap.size := h; omega)))
  have H185 : Hid (∀ (w3 : World), Fl w3 w1.heap.size nn M 0 0 false (.slice none 0 0) 0 → Chg No w w3 → Calls Tryz.prog 185 #[.pointer (some ⟨w1.heap.size, 0, none⟩), .pointer (some ⟨b, 0, none⟩)] w3 (SetOut w1.heap.size nn M n X E w3)) := Lib.hid (fun w3 f3 k3 => by
    obtain ⟨g1, g2⟩ := HBL.out
    refine float_Set2 w1.heap.size nn M 0 0 false 0 base b P M n X E xb xo m xc w3 f3 (HF.out.chg k3 (fun _ f => f) (fun _ f => f)) (by omega) (by omega) (by omega) (Nat.le_trans h17 k3.size) (by have := HXO.out.2.2.2; omega) (by omega) hM (fun hlt => ?_)
    obtain ⟨x1, x2, x3, x4⟩ := HXO.out
    have hb1 := HBX.out.1
    obtain ⟨y1, y2⟩ := HQ.out
    rw [x1]
    exact Nat.mod_eq_zero_of_dvd (Nat.dvd_trans (Nat.pow_dvd_pow 2 (by rw [← x1]; omega)) (Nat.dvd_mul_right _ _)))
  have hWe : (w1.alloc (.cells #[.int .u32 0, .int .u8 0, .int .i8 0, .int .u8 0, .bool false, .slice none 0 0, .int .i32 0] 176)).drew = Wa := HWA.out.symm
  have HWe := Lib.hid hWe
  clear hWe
  go_cut [0] (fun (zv : Value) (wx : World) => zv = .pointer (some ⟨w1.heap.size, 0, none⟩) ∧ Hid (∃ N' k yb yo m' yc, X = N' * 2 ^ k ∧ FlX wx w.heap.size w1.heap.size nn M n N' (E + (k : Nat)) yb yo m' yc) ∧ Hid (Chg No w wx))
  case first =>
    go_region_with (first
      | (go_at_call 130; (with_reducible refine H130.out.mono ?_); rintro e w2 ⟨rfl, f2, k2⟩; rw [HWe.out] at k2; have HF2 := Lib.hid f2; have HK2 := Lib.hid k2; have c1b : w2.cell? ⟨b, 1, none⟩ = some (.int .u8 M) := (((HFl.out.chg (HKw.out k2) (fun _ f => f))).c1); clear f2 k2)
      | (go_at_call 131; (with_reducible refine (H131.out _ HF2.out).mono ?_); rintro e w3 ⟨rfl, f3, k3⟩; have HF3 := Lib.hid f3; have HK3 := Lib.hid (HKw.out (HK2.out.then k3 (fun _ _ _ f => f))); clear f3 k3)
      | (go_at_call 185; (with_reducible refine (H185.out _ HF3.out HK3.out).mono ?_); rintro e w4 ⟨rfl, N', k4, yb, yo, m', yc, hN', hfx, hk4⟩; have HF4 := Lib.hid hfx; have HN4 := Lib.hid hN'; have HK4 := Lib.hid hk4; clear hfx hN' hk4))
    all_goals
      go_wp2_with fail
      go_meet
      exact ⟨rfl, Lib.hid ⟨N', k4, yb, yo, m', yc, HN4.out, HF4.out.lower HK3.out.size⟩, Lib.hid (HK3.out.then HK4.out (fun x o hx h => by have h1 : x = w1.heap.size := h; have := HK1.out.size; omega))⟩
  case rest =>
  obtain ⟨rfl, hfx, hkx⟩ := hcut
  obtain ⟨N', k, yb, yo, m', yc, hN', hx⟩ := hfx.out
  generalize wc = wa at *
  clear H130 H131 H185 HKw HWe HWA HFA HKA c1a c1'
  have hN0 := hx.X0
  obtain ⟨t', O', hO1, hO2⟩ := odd_partA N' hN0
  obtain ⟨x1, x2, x3, x4⟩ := HXO.out
  obtain ⟨hte, hOe⟩ := pow_odd (a := t) (A := O) (b := k + t') (B := O') (by rw [← x1, hN', hO1, Nat.mul_comm, ← Nat.mul_assoc, ← Nat.pow_add]) x2 hO2
  subst hOe
  obtain ⟨hU, hBN⟩ := upTo_odd hO1 x2 hx.hi
  have hbk : blen X = k + blen N' := by rw [hN', Nat.mul_comm]; exact blen_pow hN0
  have hm'b : m' ≤ 15 := by have := hx.lo; have h1 := HBX.out.2.1; omega
  have hY := hx.nt
  have HX2 := Lib.hid hx
  have hFe := hx.fl
  rw [show (blen N' : Int) + (E + (k : Nat)) = XE by rw [HXE.out, hbk]; omega] at hFe
  have HFe := Lib.hid hFe
  obtain ⟨U, hUd⟩ : ∃ U, U = O * 2 ^ (4 * q + 1 - p) := ⟨_, rfl⟩
  obtain ⟨y1, y2⟩ := HQ.out
  have HUY : Hid ((64 * m' < nn → upTo N' m' * 2 ^ (nn - 64 * m') = U) ∧ (nn < 64 * m' → upTo N' m' / 2 ^ (64 * m' - nn) = U) ∧ (64 * m' = nn → upTo N' m' = U)) := by
    have hup : upTo N' m' = O * 2 ^ (64 * m' - p) := by rw [hU, ← x3, Nat.mul_comm]
    have hpm : p ≤ 64 * m' := by have := hx.hi; omega
    refine Lib.hid ⟨fun h1 => ?_, fun h1 => ?_, fun h1 => ?_⟩
    · rw [hup, hUd, Nat.mul_assoc, ← Nat.pow_add]; congr 2; omega
    · rw [hup, hUd, show 64 * m' - p = (4 * q + 1 - p) + (64 * m' - nn) by omega, Nat.pow_add, ← Nat.mul_assoc, Nat.mul_div_cancel _ (Nat.two_pow_pos _)]
    · rw [hup, hUd]; congr 2; omega
  have hUB : blen U = 4 * q + 1 := by rw [hUd, Nat.mul_comm, blen_pow (by omega)]; omega
  have HUU := Lib.hid (And.intro hUd hUB)
  have hSm : Small (upTo N' m') := small_words (upTo_lt hN0 hx.hi) (by omega)
  have HN0 := Lib.hid (And.intro hY.nt hSm)
  have c5 := hFe.c5
  have c6 := hFe.c6
  have em : IntKind.u64.wrap (m' : Int) = (m' : Int) := by rw [IntKind.wrap_u64]; omega
  have em2 : IntKind.u64.wrap ((m' : Int) * 64) = (m' : Int) * 64 := by rw [IntKind.wrap_u64]; omega
  have h17a : 17 ≤ wa.heap.size := Nat.le_trans h17 hkx.out.size
  have hn1300 : nn ≤ 1300 := by omega
  clear hx hY hU hUd hUB hSm hFe hbk hBN hN' hO1 hN0 x1 x2 x3 x4 y1 y2 hte
  go_upto_block 2 with fail
  go_cut [9] (fun (mv : Value) (wx : World) => Hid (Nt wx mv U) ∧ Hid (Chg No wa wx))
  case first =>
    rcases Nat.lt_trichotomy (64 * m') nn with hlt | heq | hgt
    · obtain ⟨s, hs⟩ : ∃ s, s = nn - 64 * m' := ⟨_, rfl⟩
      have t1 : (m' : Int) * 64 < (nn : Int) := by omega
      have es : (nn : Int) - (m' : Int) * 64 = (s : Int) := by omega
      have es2 : IntKind.u64.wrap (s : Int) = (s : Int) := by rw [IntKind.wrap_u64]; omega
      have HL := Lib.hid (nat_lsh (.slice none 0 0) _ (upTo N' m') s wa (.inl rfl) HN0.out.1 HN0.out.2 (by omega) (fun h => by omega) (.inr (fun _ _ _ _ f => f.elim)) h17a)
      rw [hs, HUY.out.1 hlt, ← hs] at HL
      clear hs
      go_wp2_with fail
      refine HL.out.mono ?_
      rintro e w2 ⟨r, rfl, hr⟩
      have HR := Lib.hid hr
      clear hr
      go_wp2_with fail
      go_meet
      exact ⟨Lib.hid HR.out.nt, Lib.hid HR.out.chg⟩
    · have t1 : ¬ (m' : Int) * 64 < (nn : Int) := by omega
      have t2 : ¬ (nn : Int) < (m' : Int) * 64 := by omega
      go_wp2_with fail
      go_meet
      exact ⟨Lib.hid (by rw [← HUY.out.2.2 heq]; exact HN0.out.1), Lib.hid (Chg.refl _ _)⟩
    · obtain ⟨s, hs⟩ : ∃ s, s = 64 * m' - nn := ⟨_, rfl⟩
      have t1 : ¬ (m' : Int) * 64 < (nn : Int) := by omega
      have t2 : (nn : Int) < (m' : Int) * 64 := by omega
      have es : (m' : Int) * 64 - (nn : Int) = (s : Int) := by omega
      have es2 : IntKind.u64.wrap (s : Int) = (s : Int) := by rw [IntKind.wrap_u64]; omega
      have HL := Lib.hid (nat_rsh (.slice none 0 0) _ (upTo N' m') s wa (.inl rfl) HN0.out.1 HN0.out.2 (by omega) (fun h => by omega) (.inr (fun _ _ _ _ f => f.elim)) h17a)
      rw [hs, HUY.out.2.1 hgt, ← hs] at HL
      clear hs
      go_wp2_with fail
      refine HL.out.mono ?_
      rintro e w2 ⟨r, rfl, hr⟩
      have HR := Lib.hid hr
      clear hr
      go_wp2_with fail
      go_meet
      exact ⟨Lib.hid HR.out.nt, Lib.hid HR.out.chg⟩
  case rest =>
  obtain ⟨hNU, hKu⟩ := hcut
  generalize wc = wb at *
  have hU0 : U ≠ 0 := by intro e; have h1 := HUU.out.2; rw [e] at h1; simp [blen] at h1
  obtain ⟨ub, uo, un, uc, rfl, hNt, hun0⟩ : ∃ ub uo un uc, u9 = .slice (some ⟨ub, uo, none⟩) un uc ∧ NtAt wb ub uo un uc U ∧ 0 < un := by
    rcases hNU.out with ⟨_, h⟩ | ⟨ub, uo, un, uc, h, hn, h2, h3⟩
    · exact absurd h hU0
    · refine ⟨ub, uo, un, uc, h, ⟨hn, h2, h3⟩, ?_⟩
      rcases Nat.eq_zero_or_pos un with e | e
      · subst e; exact absurd h2.symm hU0
      · exact e
  have hkab := hkx.out.then hKu.out (fun _ _ _ f => f)
  have hun : un ≤ 20 := by have h1 := (blen_words hNt hun0).1; rw [HUU.out.2] at h1; omega
  have HUT := Lib.hid (utoa16 ub uo un uc U wb hNt hU0 hun0 hun (HG.out.no hkab))
  have c6b := (HFe.out.chg hKu.out (fun _ f => f)).c6
  have HKab := Lib.hid hkab
  have eX : IntKind.i64.wrap XE = XE := IntWalk.i64_in _ (by omega)
  have eX1 : IntKind.i64.wrap (XE - 1) = XE - 1 := IntWalk.i64_in _ (by omega)
  clear hkab hNt hU0 c5 c6 em em2 HN0 HUY
  go_wp2_with fail
  refine HUT.out.mono ?_
  rintro e w5 ⟨sb, so, sc, D, rfl, hn5, hw5, hlo, hhi, hD0, hsb, hk5⟩
  have hDq : D = q + 1 := by
    have e16 : ∀ n, (16 : Nat) ^ n = 2 ^ (4 * n) := fun n => by rw [show (16 : Nat) = 2 ^ 4 from rfl, ← Nat.pow_mul]
    have hU0 : U ≠ 0 := by intro e; have h1 := HUU.out.2; rw [e] at h1; simp [blen] at h1
    obtain ⟨q1, q2, q3⟩ := blen_spec hU0
    rw [HUU.out.2] at q2 q3
    have a1 := (Nat.pow_lt_pow_iff_right (by decide : 1 < 2)).1 (show 2 ^ (4 * (D - 1)) < 2 ^ (4 * q + 1) by rw [← e16]; exact Nat.lt_of_le_of_lt hlo q3)
    have a2 := (Nat.pow_lt_pow_iff_right (by decide : 1 < 2)).1 (show 2 ^ (4 * q + 1 - 1) < 2 ^ (4 * D) by rw [← e16]; exact Nat.lt_of_le_of_lt q2 hhi)
    omega
  subst hDq
  have A5 := Lib.hid ((App.refl HZ.out).no (HKab.out.then hk5 (fun _ _ _ f => f)))
  have HSrc := Lib.hid (Src.txt w5 [48, 120, 49] (by decide))
  have HSB : Hid (∀ x o, Fp buf x o → x ≠ sb) := Lib.hid fun x o f => by have h1 := (HZ.out.fp_lt f).1; have h2 := HKab.out.size; omega
  have hlen : (hexL U (q + 1)).length = q + 1 := hexL_length _ _
  have hcells : ∀ j (hj : j < ((hexL U (q + 1)).drop 1).length), w5.cell? ⟨sb, so + 1 + j, none⟩ = some (.int .u8 (((hexL U (q + 1)).drop 1)[j] : Nat)) := fun j hj => by
    have hj' : j < q := by rw [List.length_drop, hlen] at hj; omega
    have h1 := (hn5.isI (1 + j) (by have := hn5.le; omega)).cell
    rw [hw5 (1 + j) (by omega), ← Nat.add_assoc] at h1
    have h2 : ((hexL U (q + 1)).drop 1)[j] = hexc (U / 16 ^ (q + 1 - 1 - (1 + j)) % 16) := by simp [hexL]; rw [Nat.add_comm j 1]
    rw [h2]; exact h1
  have HC := Lib.hid hcells
  have HLn := Lib.hid hlen
  have hN5 := hn5.le
  have h175 : 17 ≤ w5.heap.size := Nat.le_trans h17 A5.out.chg.size
  clear hn5 hw5 hlo hhi hsb hk5 hcells hlen c6b
  go_upto_if 118 with (refine wpList_append_num rfl km8 (.tmp 114) (.const (.string ⟨#[48, 120, 49]⟩)) 56 9 5 rfl ci Tryz.underlying56 hi1 hi2 hi3 (by rw [hi4]; omega) buf pre rfl A5.out.ls _ rfl [48, 120, 49] HSrc.out (by decide) (by decide) (by simp; omega) h175 ?_; intro r6 w6 happ; have HB6 := Lib.hid happ; clear happ)
  obtain ⟨mid, hmid⟩ : ∃ mid, mid = (if 1 < q + 1 then [46] ++ (hexL U (q + 1)).drop 1 else ([] : List Nat)) := ⟨_, rfl⟩
  have hml : mid.length ≤ 302 := by rw [hmid]; split <;> simp [HLn.out] <;> omega
  have HMid := Lib.hid hmid
  clear hmid
  go_cut [1] (fun (zv : Value) (wx : World) => Hid (App .u8 256 w5 wx buf zv (pre ++ [48, 120, 49] ++ mid)))
  case first =>
    by_cases hq0 : q = 0
    · have t1 : ¬ (1 : Int) < (q : Int) + 1 := by omega
      have HM0 : Hid (mid = []) := Lib.hid (by rw [HMid.out, if_neg (by omega)])
      clear hq0
      go_wp2_with fail
      go_meet
      exact Lib.hid (by rw [HM0.out, List.append_nil]; exact HB6.out)
    · have t1 : (1 : Int) < (q : Int) + 1 := by omega
      have HM1 : Hid (mid = [46] ++ (hexL U (q + 1)).drop 1) := Lib.hid (by rw [HMid.out, if_pos (by omega)])
      have hl2 : ((hexL U (q + 1)).drop 1).length = q := by rw [List.length_drop, HLn.out]; omega
      have HL2 := Lib.hid hl2
      have hl3 : 0 < ((hexL U (q + 1)).drop 1).length := by omega
      have hl4 : (pre ++ [48, 120, 49]).length < 4000000000 := by simp; omega
      have hl5 : (pre ++ [48, 120, 49] ++ [46]).length + ((hexL U (q + 1)).drop 1).length < 4000000000 := by rw [hl2]; simp; omega
      have hv : ∀ v ∈ (hexL U (q + 1)).drop 1, v < 256 := fun v hv => hexL_lt _ _ v (List.mem_of_mem_drop hv)
      have HV := Lib.hid hv
      have i2 : (1 : Int) ≤ (q : Int) + 1 := by omega
      have hcap : ¬ sc = 1 := by omega
      clear hl2 hv
      go_upto_region 31 with (refine wpList_app1 (w0 := w5) (z0 := buf) (l := pre ++ [48, 120, 49]) (c := 46) rfl (.tmp 119) (.tmp 120) rfl rfl rfl HB6.out (by omega) hl4 h175 ?_; intro r7 w7 ha; have HB7 := Lib.hid ha; clear ha)
      have HC7 : Hid (∀ j (hj : j < ((hexL U (q + 1)).drop 1).length), w7.cell? ⟨sb, so + 1 + j, none⟩ = some (.int .u8 (((hexL U (q + 1)).drop 1)[j] : Nat))) := Lib.hid fun j hj => (HB7.out.chg.cell _ _ (World.block_lt_of_cell? _ _ (HC.out j hj)) (fun f => HSB.out _ _ f rfl)).trans (HC.out j hj)
      go_wp2_with (at_builtin; refine wpList_appS (w0 := w5) (z0 := buf) (l := pre ++ [48, 120, 49] ++ [46]) (vs := (hexL U (q + 1)).drop 1) (mb := sb) (mo := so + 1) (n := q) (mc := sc - 1) rfl (.tmp 122) (.tmp 124) rfl rfl rfl HL2.out.symm HB7.out HV.out HC7.out hl3 hl5 h175 ?_; intro r8 w8 ha; have HB8 := Lib.hid ha; clear ha)
      go_meet
      exact Lib.hid (by rw [HM1.out]; have := HB8.out; simpa [List.append_assoc] using this)
  case rest =>
    have HB9 := hcut
    generalize wc = w9 at *
    clear HB6 HC HSrc HUT HX2 HFe hNU hKu
    have hl9 : (pre ++ [48, 120, 49] ++ mid).length < 800000 := by simp; omega
    have hl9b : (pre ++ [48, 120, 49] ++ mid).length < 4000000000 := by omega
    obtain ⟨pr2, hpr2⟩ : ∃ pr2, pr2 = pre ++ [48, 120, 49] ++ mid := ⟨_, rfl⟩
    have HPr := Lib.hid hpr2
    rw [← hpr2] at HB9 hl9 hl9b
    clear hpr2
    obtain ⟨ae, hae⟩ : ∃ ae, ae = XE - 1 := ⟨_, rfl⟩
    have HAE := Lib.hid hae
    have ha1 : -1901 ≤ ae := by omega
    have ha2 : ae ≤ 1900 := by omega
    rw [← hae]
    obtain ⟨sg, hsg⟩ : ∃ sg : List Nat, sg = (if 0 ≤ ae then [43] else [45]) := ⟨_, rfl⟩
    have hsl : sg.length = 1 := by rw [hsg]; split <;> rfl
    have HSg := Lib.hid hsg
    obtain ⟨na, hna⟩ : ∃ na, na = ae.natAbs := ⟨_, rfl⟩
    have HNa := Lib.hid hna
    have hnal : na < 2000 := by omega
    clear hae hsg hna eX eX1
    go_upto_if 130 with (refine wpList_app1 (w0 := w5) (z0 := buf) (l := pr2) (c := 112) rfl (.tmp 126) (.tmp 127) rfl rfl rfl HB9.out (by omega) hl9b h175 ?_; intro r10 w10 ha; have HB10 := Lib.hid ha; clear ha)
    have hl10 : (pr2 ++ [112]).length < 4000000000 := by simp; omega
    go_cut [1, 11] (fun (zv av : Value) (wx : World) => av = .int .i64 na ∧ Hid (App .u8 256 w5 wx buf zv (pr2 ++ [112] ++ sg)))
    case first =>
      by_cases h0 : 0 ≤ ae
      · have HS1 : Hid (sg = [43]) := Lib.hid (by rw [HSg.out, if_pos h0])
        have HN1 : Hid (ae = (na : Int)) := Lib.hid (by rw [HNa.out]; omega)
        go_wp2_with (at_builtin; refine wpList_app1 (w0 := w5) (z0 := buf) (l := pr2 ++ [112]) (c := 43) rfl (.tmp 131) (.tmp 132) rfl rfl rfl HB10.out (by omega) hl10 h175 ?_; intro r11 w11 ha; have HB11 := Lib.hid ha; clear ha)
        go_meet
        exact ⟨by rw [HN1.out], Lib.hid (by rw [HS1.out]; exact HB11.out)⟩
      · have HS1 : Hid (sg = [45]) := Lib.hid (by rw [HSg.out, if_neg h0])
        have HN1 : Hid (-ae = (na : Int)) := Lib.hid (by rw [HNa.out]; omega)
        have ew : IntKind.i64.wrap (-ae) = -ae := IntWalk.i64_in _ (by omega)
        go_wp2_with (at_builtin; refine wpList_app1 (w0 := w5) (z0 := buf) (l := pr2 ++ [112]) (c := 45) rfl (.tmp 136) (.tmp 137) rfl rfl rfl HB10.out (by omega) hl10 h175 ?_; intro r11 w11 ha; have HB11 := Lib.hid ha; clear ha)
        go_meet
        exact ⟨by rw [HN1.out], Lib.hid (by rw [HS1.out]; exact HB11.out)⟩
    case rest =>
      obtain ⟨rfl, HB12⟩ := hcut
      generalize wc = w12 at *
      clear HB9 HB10
      have hl12 : (pr2 ++ [112] ++ sg).length < 4000000000 := by simp; omega
      obtain ⟨ze, hze⟩ : ∃ ze : List Nat, ze = (if na < 10 then [48] else []) := ⟨_, rfl⟩
      have hzl : ze.length ≤ 1 := by rw [hze]; split <;> simp
      have HZe := Lib.hid hze
      clear hze
      have HG5 := Lib.hid (HG.out.no (HKab.out))
      go_upto_if 140 with fail
      go_cut [1] (fun (zv : Value) (wx : World) => Hid (App .u8 256 w5 wx buf zv (pr2 ++ [112] ++ sg ++ ze)))
      case first =>
        by_cases h0 : na < 10
        · have HZ1 : Hid (ze = [48]) := Lib.hid (by rw [HZe.out, if_pos h0])
          have t10 : (na : Int) < 10 := by omega
          go_wp2_with (at_builtin; refine wpList_app1 (w0 := w5) (z0 := buf) (l := pr2 ++ [112] ++ sg) (c := 48) rfl (.tmp 141) (.tmp 142) rfl rfl rfl HB12.out (by omega) hl12 h175 ?_; intro r13 w13 ha; have HB13 := Lib.hid ha; clear ha)
          go_meet
          exact Lib.hid (by rw [HZ1.out]; exact HB13.out)
        · have HZ1 : Hid (ze = []) := Lib.hid (by rw [HZe.out, if_neg h0])
          have t10 : ¬ (na : Int) < 10 := by omega
          go_wp2_with fail
          go_meet
          exact Lib.hid (by rw [HZ1.out, List.append_nil]; exact HB12.out)
      case rest =>
        have HB14 := hcut
        generalize wc = w14 at *
        have hl14 : (pr2 ++ [112] ++ sg ++ ze).length ≤ 900000 := by simp; omega
        have A14 := A5.out.trans HB14.out
        have HU := Lib.hid (sc_AppendInt2 _ _ (na : Int) w14 A14.ls (by omega) (by omega) hl14 (HG.out.chg A14.chg (fun x o f => (HZ.out.fp_lt f).2)))
        have HA14 := Lib.hid A14
        clear A14 HB12
        go_wp2_with fail
        refine HU.out.mono ?_
        rintro e w15 ⟨r15, rfl, ha⟩
        have HA15 := Lib.hid ha
        clear ha
        go_wp2_with fail
        go_ret
        refine ⟨_, rfl, q, HQ.out.1, HQ.out.2, ?_⟩
        have h1 := HA14.out.trans HA15.out
        have h2 : iTx (na : Int) = nTx na := by unfold iTx; rw [if_neg (by omega)]; simp
        rw [h2, HPr.out, HMid.out, HSg.out, HZe.out, HNa.out, HAE.out, HUU.out.1] at h1
        unfold xTx
        simpa [List.append_assoc] using h1
end Go.Proofs.YtacfhndledcmgaaGreatDoor
